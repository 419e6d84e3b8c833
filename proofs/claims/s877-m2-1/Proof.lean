import JvmDerived
import JvmDerived.Pilot.@@N@@Statement
import JvmDerived.Pilot.@@N@@Code
set_option linter.unusedVariables false
set_option linter.unusedSimpArgs false
@@BLOCK:NumsL.lean.txt@@
namespace Jvm.RoadKit
open Sem ClassFile Op Lib Jvm.Stand Jvm.Free Jvm.LawKit
section New
variable {p : Program} {l : Launch} {e : Env} {R : Room} {s : State} {m : MethodId} {args : Array Value} {below : List Frame} {meth : Method} {c : Code} {T : State} {locs : List Loc} {cells slots : Nat}
theorem retI (X : Stand p l e R s m args below meth c T locs cells slots) (hx : p.tables.exec = Jvm.exec) {pc : Nat} {Ls : Array Slot} {z : Int32} {rest : List Value} (hret : meth.sig.returnType = some .int) (hd : decode c.code pc = .ok (.ireturn, 1)) {fs : List Frame}
    (hl : ∀ (f : JFrame) (acts : List Action), f.method = m → f.locked = none → f.entered = [] → (doReturn e (T.setTop f) acts (some (.int z))).1 = T.setFrames fs) : Steps p.tables e below (T.setTop (mkF m pc Ls (.int z :: rest))) (T.setFrames fs) := by
  have hm' : T.vm.method? m = some meth := X.method'
  have hn : narrow .int (.int z) = .int z := rfl
  show Steps p.tables e below (T.setTop { method := m, pc := pc, locals := Ls, stack := _ :: rest, locked := none }) _
  jvm_step X.here [X.here.top, hx, hd, hm', hret, hn]
  first | (intro acts; rw [hl _ acts rfl rfl rfl]) | rw [hl _ _ rfl rfl rfl]
  exact Steps.refl _
theorem retD (X : Stand p l e R s m args below meth c T locs cells slots) (hx : p.tables.exec = Jvm.exec) {pc : Nat} {Ls : Array Slot} {z : UInt64} {rest : List Value} (hret : meth.sig.returnType = some .double) (hd : decode c.code pc = .ok (.dreturn, 1)) {fs : List Frame}
    (hl : ∀ (f : JFrame) (acts : List Action), f.method = m → f.locked = none → f.entered = [] → (doReturn e (T.setTop f) acts (some (.double z))).1 = T.setFrames fs) : Steps p.tables e below (T.setTop (mkF m pc Ls (.double z :: rest))) (T.setFrames fs) := by
  have hm' : T.vm.method? m = some meth := X.method'
  have hn : narrow .double (.double z) = .double z := rfl
  show Steps p.tables e below (T.setTop { method := m, pc := pc, locals := Ls, stack := _ :: rest, locked := none }) _
  jvm_step X.here [X.here.top, hx, hd, hm', hret, hn]
  first | (intro acts; rw [hl _ acts rfl rfl rfl]) | rw [hl _ _ rfl rfl rfl]
  exact Steps.refl _
end New
end Jvm.RoadKit
namespace Jvm.OwnFP
open Sem ClassFile Op Lib
theorem rem32_eq (x y : Int32) : x - x / y * y = x % y := Int32.toInt_inj.mp (by
  have a := (x % y).toInt_lt; have b := (x % y).le_toInt
  rw [Int32.toInt_mod] at a b ⊢
  rw [Int32.toInt_sub, Int32.toInt_mul, Int32.toInt_div, Int.bmod_mul_bmod, Int.sub_bmod_bmod, Int.mul_comm, ← Int.tmod_def]
  exact Jvm.Kit.bmod32 b a)
theorem cat1R {w : Value} (h : w.isRef = true) : w.category = 1 := by
  cases w <;> first | rfl | cases h
theorem rem64_eq (x y : Int64) : x - x / y * y = x % y := Int64.toInt_inj.mp (by rw [Jvm.Kit.i64_rem, Int64.toInt_mod])
theorem iremM {tb : Tables} [Ours tb] {e : Env} {below : List Frame} {T target : State} {m : MethodId} {c : Code} {g : JFrame} (h : At T m c below) (hx : tb.exec = Jvm.exec) (hg : g.method = m) {x y : Int32} {rest : List Value} (hd : decode c.code g.pc = .ok (.irem, 1)) (hs : g.stack = .int y :: .int x :: rest) (hy : y ≠ 0)
    (hr : Steps tb e below (T.setTop { g with pc := g.pc + 1, stack := .int (x % y) :: rest }) target) : Steps tb e below (T.setTop g) target := Jvm.Free.XS.irem h hx hg hd hs hy (by rw [rem32_eq]; exact hr)
theorem lremM {tb : Tables} [Ours tb] {e : Env} {below : List Frame} {T target : State} {m : MethodId} {c : Code} {g : JFrame} (h : At T m c below) (hx : tb.exec = Jvm.exec) (hg : g.method = m) {x y : Int64} {rest : List Value} (hd : decode c.code g.pc = .ok (.lrem, 1)) (hs : g.stack = .long y :: .long x :: rest) (hy : y ≠ 0)
    (hr : Steps tb e below (T.setTop { g with pc := g.pc + 1, stack := .long (x % y) :: rest }) target) : Steps tb e below (T.setTop g) target := Jvm.Free.XS.lrem h hx hg hd hs hy (by rw [rem64_eq]; exact hr)
end Jvm.OwnFP
namespace Jvm.OwnFP
open Jvm.FP.Core
/-! doubles by their values in units of 2^-1074: rounding is monotone, numbers of the format round to themselves -/
def zv (a : UInt64) : Int := zval b64 (val64 a)
/-- z (in units) is a number of the format -/
def Rep (z : Int) : Prop := ∃ V : Datum, Jvm.FP.Core.fits b64 V ∧ V ≠ .nan ∧ zval b64 V = z
abbrev O : Int := (one64 : Int)
theorem mmmc (a b c d : Int) : a * b * (c * d) = a * c * (b * d) := by rw [Int.mul_assoc, Int.mul_assoc, Int.mul_left_comm b]
theorem O_pos : 0 < O := by have := one64_pos; show (0 : Int) < (one64 : Int); omega
theorem qmax_b64 : b64.qmax = 971 := by decide +kernel
theorem signed_nat (n : Int) : signed (decide (n < 0)) n.natAbs = n := by
  unfold signed
  by_cases h : n < 0
  · simp only [h, decide_true, if_true]; omega
  · simp only [h, decide_false, Bool.false_eq_true, if_false]; omega
theorem rep_lt {n : Int} (k : Nat) (hn : n.natAbs < 9007199254740992) (hk : k ≤ 2000) : Rep (n * ((2 ^ k : Nat) : Int)) := by
  obtain ⟨c', q', h1, h2⟩ := round_exact good_b64 (decide (n < 0)) (c := n.natAbs) (q := (k : Int) - 1074) (Nat.lt_of_lt_of_le hn (by decide +kernel)) (by rw [qmin_b64]; omega) (by rw [qmax_b64]; omega)
  refine ⟨round b64 (.fin (decide (n < 0)) n.natAbs ((k : Int) - 1074)), round_fits good_b64 _, ?_, ?_⟩
  · rw [h1]; exact Datum.noConfusion
  · rw [h1]
    show signed (decide (n < 0)) (inUnits c' q' b64.qmin) = _
    rw [h2]
    unfold inUnits
    rw [qmin_b64, signed_mul, signed_nat, show ((k : Int) - 1074 - -1074).toNat = k by omega]
theorem rep_le {n : Int} (k : Nat) (hn : n.natAbs ≤ 9007199254740992) (hk : k ≤ 1999) : Rep (n * ((2 ^ k : Nat) : Int)) := by
  by_cases h : n.natAbs < 9007199254740992
  · exact rep_lt k h (by omega)
  · have h2 : n = 9007199254740992 ∨ n = -9007199254740992 := by omega
    have e : ∀ m : Int, (m * 2) * ((2 ^ k : Nat) : Int) = m * ((2 ^ (k + 1) : Nat) : Int) := fun m => by
      rw [Nat.pow_succ, Int.natCast_mul, Int.mul_assoc, Int.mul_comm 2]; rfl
    rcases h2 with rfl | rfl
    · rw [show (9007199254740992 : Int) = 4503599627370496 * 2 by decide, e]; exact rep_lt (k + 1) (by decide) (by omega)
    · rw [show (-9007199254740992 : Int) = -4503599627370496 * 2 by decide, e]; exact rep_lt (k + 1) (by decide) (by omega)
theorem pow_split (k j : Nat) : ((2 ^ (k + j) : Nat) : Int) = ((2 ^ k : Nat) : Int) * ((2 ^ j : Nat) : Int) := by rw [Nat.pow_add, Int.natCast_mul]
theorem pow_O (j : Nat) (hj : j ≤ 1074) : O = ((2 ^ j : Nat) : Int) * ((2 ^ (1074 - j) : Nat) : Int) := by
  rw [← pow_split, show j + (1074 - j) = 1074 by omega]; rfl
/-- a whole number -/
theorem rep_int {n : Int} (hn : n.natAbs ≤ 9007199254740992) : Rep (n * O) := by
  have := rep_le (n := n) 1074 hn (by decide)
  exact this
/-- n halves .. : n / 2^j -/
theorem rep_frac {n : Int} (j : Nat) (hj : j ≤ 1074) {z : Int} (hn : n.natAbs ≤ 9007199254740992) (h : z * ((2 ^ j : Nat) : Int) = n * O) : Rep z := by
  have h1 := rep_le (n := n) (1074 - j) hn (by omega)
  have hp : (0 : Int) < ((2 ^ j : Nat) : Int) := Int.natCast_pos.mpr (Nat.two_pow_pos j)
  have e : z = n * ((2 ^ (1074 - j) : Nat) : Int) := by
    refine Int.eq_of_mul_eq_mul_right (Int.ne_of_gt hp) ?_
    rw [h, pow_O j hj, Int.mul_assoc, Int.mul_comm ((2 ^ (1074 - j) : Nat) : Int)]
  rw [e]; exact h1
theorem Rep.neg {z : Int} (h : Rep z) : Rep (-z) := by
  obtain ⟨V, h1, h2, rfl⟩ := h
  exact ⟨negate V, negate_fits h1, negate_ne_nan h2, zval_negate b64 V⟩
theorem rep_zv {a : UInt64} (h : val64 a ≠ .nan) : Rep (zv a) := ⟨val64 a, val64_fits a, h, rfl⟩
theorem fin_of {a : UInt64} (h : DFin a) : ∃ s c q, val64 a = .fin s c q ∧ Jvm.FP.Core.fits b64 (.fin s c q) := by
  obtain ⟨s, c, q, h⟩ := h
  exact ⟨s, c, q, h, h ▸ val64_fits a⟩
/-! whole numbers -/
theorem l2d_le {n : Int64} {z : Int} (hz : Rep z) (h : n.toInt * O ≤ z) : zv (Jvm.FP.l2d n) ≤ z := by
  obtain ⟨V, fV, nV, rfl⟩ := hz
  show zval b64 (val64 (l2d n)) ≤ _
  rw [val64_l2d]
  refine zval_round_le good_b64 fV nV (e0 := b64.qmin) (Int.le_refl _) (by decide +kernel) ?_
  rw [ofInt_units b64, pow_qmin64, Int.sub_self]
  show _ ≤ _ * ((1 : Nat) : Int)
  rw [show ((1 : Nat) : Int) = 1 from rfl, Int.mul_one]; exact h
theorem l2d_ge {n : Int64} {z : Int} (hz : Rep z) (h : z ≤ n.toInt * O) : z ≤ zv (Jvm.FP.l2d n) := by
  obtain ⟨V, fV, nV, rfl⟩ := hz
  show _ ≤ zval b64 (val64 (l2d n))
  rw [val64_l2d]
  refine zval_round_ge good_b64 fV nV (e0 := b64.qmin) (Int.le_refl _) (by decide +kernel) ?_
  rw [ofInt_units b64, pow_qmin64, Int.sub_self]
  show _ * ((1 : Nat) : Int) ≤ _
  rw [show ((1 : Nat) : Int) = 1 from rfl, Int.mul_one]; exact h
theorem l2d_eq {n : Int64} (h : n.toInt.natAbs ≤ 9007199254740992) : zv (Jvm.FP.l2d n) = n.toInt * O :=
  Int.le_antisymm (l2d_le (rep_int h) (Int.le_refl _)) (l2d_ge (rep_int h) (Int.le_refl _))
theorem i2d_eq (n : Int32) : zv (Jvm.FP.i2d n) = n.toInt * O := DInt_zval (i2d_int n)
theorem l2dF (n : Int64) : DFin (Jvm.FP.l2d n) := l2d_fin n
theorem i2dF (n : Int32) : DFin (Jvm.FP.i2d n) := i2d_fin n
/-! products -/
theorem mul_le {a b : UInt64} {z : Int} (ha : DFin a) (hb : DFin b) (hz : Rep z) (h : zv a * zv b ≤ z * O) : zv (Jvm.FP.dmul a b) ≤ z := by
  obtain ⟨V, fV, nV, rfl⟩ := hz
  obtain ⟨s, c, q, ea, fa⟩ := fin_of ha
  obtain ⟨t, d, r, eb, fb⟩ := fin_of hb
  unfold zv at h ⊢
  rw [ea, eb] at h
  show zval b64 (val64 (dmul a b)) ≤ _
  rw [val64_dmul, ea, eb]
  obtain ⟨h1, h2, h3⟩ := product_units fa fb
  rw [h1]
  refine zval_round_le good_b64 fV nV (e0 := 2 * b64.qmin) (by rw [qmin_b64]; decide) h2 ?_
  rw [h3, signed_xor, show (b64.qmin - 2 * b64.qmin).toNat = (-b64.qmin).toNat by omega, pow_qmin64]
  exact h
theorem mul_ge {a b : UInt64} {z : Int} (ha : DFin a) (hb : DFin b) (hz : Rep z) (h : z * O ≤ zv a * zv b) : z ≤ zv (Jvm.FP.dmul a b) := by
  obtain ⟨V, fV, nV, rfl⟩ := hz
  obtain ⟨s, c, q, ea, fa⟩ := fin_of ha
  obtain ⟨t, d, r, eb, fb⟩ := fin_of hb
  unfold zv at h ⊢
  rw [ea, eb] at h
  show _ ≤ zval b64 (val64 (dmul a b))
  rw [val64_dmul, ea, eb]
  obtain ⟨h1, h2, h3⟩ := product_units fa fb
  rw [h1]
  refine zval_round_ge good_b64 fV nV (e0 := 2 * b64.qmin) (by rw [qmin_b64]; decide) h2 ?_
  rw [h3, signed_xor, show (b64.qmin - 2 * b64.qmin).toNat = (-b64.qmin).toNat by omega, pow_qmin64]
  exact h
theorem mul_eq {a b : UInt64} {z : Int} (ha : DFin a) (hb : DFin b) (hz : Rep z) (h : zv a * zv b = z * O) : zv (Jvm.FP.dmul a b) = z :=
  Int.le_antisymm (mul_le ha hb hz (Int.le_of_eq h)) (mul_ge ha hb hz (Int.le_of_eq h.symm))
/-! sums -/
theorem add_le {a b : UInt64} {z : Int} (ha : DFin a) (hb : DFin b) (hz : Rep z) (h : zv a + zv b ≤ z) : zv (Jvm.FP.dadd a b) ≤ z := by
  obtain ⟨V, fV, nV, rfl⟩ := hz
  show zval b64 (val64 (dadd a b)) ≤ _
  rw [val64_dadd]
  exact sum_le good_b64 ha hb (val64_fits a) (val64_fits b) fV nV h
theorem add_ge {a b : UInt64} {z : Int} (ha : DFin a) (hb : DFin b) (hz : Rep z) (h : z ≤ zv a + zv b) : z ≤ zv (Jvm.FP.dadd a b) := by
  obtain ⟨V, fV, nV, rfl⟩ := hz
  show _ ≤ zval b64 (val64 (dadd a b))
  rw [val64_dadd]
  exact sum_ge good_b64 ha hb (val64_fits a) (val64_fits b) fV nV h
theorem add_eq {a b : UInt64} {z : Int} (ha : DFin a) (hb : DFin b) (hz : Rep z) (h : zv a + zv b = z) : zv (Jvm.FP.dadd a b) = z :=
  Int.le_antisymm (add_le ha hb hz (Int.le_of_eq h)) (add_ge ha hb hz (Int.le_of_eq h.symm))
theorem fin_negate {b : UInt64} (hb : DFin b) : ∃ s c q, negate (val64 b) = .fin s c q := by
  obtain ⟨s, c, q, h⟩ := hb
  rw [h]; exact ⟨_, _, _, rfl⟩
theorem sub_le {a b : UInt64} {z : Int} (ha : DFin a) (hb : DFin b) (hz : Rep z) (h : zv a - zv b ≤ z) : zv (Jvm.FP.dsub a b) ≤ z := by
  obtain ⟨V, fV, nV, rfl⟩ := hz
  show zval b64 (val64 (dsub a b)) ≤ _
  rw [val64_dsub]
  refine sum_le good_b64 ha (fin_negate hb) (val64_fits a) (negate_fits (val64_fits b)) fV nV ?_
  rw [zval_negate]; unfold zv at h; omega
theorem sub_ge {a b : UInt64} {z : Int} (ha : DFin a) (hb : DFin b) (hz : Rep z) (h : z ≤ zv a - zv b) : z ≤ zv (Jvm.FP.dsub a b) := by
  obtain ⟨V, fV, nV, rfl⟩ := hz
  show _ ≤ zval b64 (val64 (dsub a b))
  rw [val64_dsub]
  refine sum_ge good_b64 ha (fin_negate hb) (val64_fits a) (negate_fits (val64_fits b)) fV nV ?_
  rw [zval_negate]; unfold zv at h; omega
theorem sub_eq {a b : UInt64} {z : Int} (ha : DFin a) (hb : DFin b) (hz : Rep z) (h : zv a - zv b = z) : zv (Jvm.FP.dsub a b) = z :=
  Int.le_antisymm (sub_le ha hb hz (Int.le_of_eq h)) (sub_ge ha hb hz (Int.le_of_eq h.symm))
/-! quotients -/
theorem ratio_le {s : Bool} {A B : Nat} {e e0 : Int} {V : Datum} (hB : 0 < B) (hV : Jvm.FP.Core.fits b64 V) (hn : V ≠ .nan) (h0 : e0 ≤ b64.qmin) (h0e : e0 ≤ e)
    (h : signed s (inUnits A e e0) ≤ zval b64 V * ((2 ^ (b64.qmin - e0).toNat * B : Nat) : Int)) : zval b64 (roundRatio b64 s A B e) ≤ zval b64 V := by
  have hle := zmag_roundRatio_le good_b64 (s := s) (A := A) hB hV hn h0 h0e
  have hge := zmag_roundRatio_ge good_b64 (s := s) (A := A) hB hV h0 h0e
  have hP : 0 < 2 ^ (b64.qmin - e0).toNat * B := Nat.mul_pos (Nat.two_pow_pos _) hB
  rw [Nat.mul_assoc] at hle hge
  unfold zval at h ⊢
  rw [sgn_roundRatio]
  rw [← signed_mul] at h
  have hz : zmag b64 V * (2 ^ (b64.qmin - e0).toNat * B) = 0 → zmag b64 V = 0 := by
    intro h
    rcases Nat.mul_eq_zero.mp h with h | h <;> omega
  generalize zmag b64 V * (2 ^ (b64.qmin - e0).toNat * B) = vP at *
  generalize sgn V = t at *
  cases s <;> cases t <;> simp only [signed, if_true, Bool.false_eq_true, if_false] at h ⊢
  · have := hle (by omega); omega
  · have := hle (by omega); have := hz (by omega); omega
  · omega
  · have := hge (by omega); omega
theorem signed_flip (s : Bool) (m : Nat) : signed (!s) m = -signed s m := by cases s <;> simp [signed]
theorem ratio_ge {s : Bool} {A B : Nat} {e e0 : Int} {V : Datum} (hB : 0 < B) (hV : Jvm.FP.Core.fits b64 V) (hn : V ≠ .nan) (h0 : e0 ≤ b64.qmin) (h0e : e0 ≤ e)
    (h : zval b64 V * ((2 ^ (b64.qmin - e0).toNat * B : Nat) : Int) ≤ signed s (inUnits A e e0)) : zval b64 V ≤ zval b64 (roundRatio b64 s A B e) := by
  have h1 := ratio_le (s := !s) (A := A) (e := e) (V := negate V) hB (negate_fits hV) (negate_ne_nan hn) h0 h0e (by
    rw [zval_negate, Int.neg_mul, signed_flip]; omega)
  rw [zval_negate, ← negate_roundRatio, zval_negate] at h1
  omega
theorem zval_fin (s : Bool) (c : Nat) (q : Int) : zval b64 (.fin s c q) = signed s c * ((2 ^ (q - b64.qmin).toNat : Nat) : Int) := by
  show signed s (inUnits c q b64.qmin) = _
  unfold inUnits; rw [signed_mul]
theorem pow_mul_eq {a b c d : Nat} (h : a + b = c + d) : (2 ^ a * 2 ^ b : Nat) = 2 ^ c * 2 ^ d := by rw [← Nat.pow_add, ← Nat.pow_add, h]
/-- how c·2^q / (d·2^r) ≤ z reads in units -/
theorem div_units {s : Bool} {c d : Nat} {q r : Int} (hq : b64.qmin ≤ q) (hr : b64.qmin ≤ r) :
    ∃ (x y : Nat), (signed s (inUnits c (q - r) (min b64.qmin (q - r)))) * ((2 ^ x : Nat) : Int) = (signed s c * ((2 ^ (q - b64.qmin).toNat : Nat) : Int)) * O * ((2 ^ y : Nat) : Int) ∧
      ∀ z : Int, (z * ((2 ^ (b64.qmin - min b64.qmin (q - r)).toNat * d : Nat) : Int)) * ((2 ^ x : Nat) : Int) = z * ((d : Int) * ((2 ^ (r - b64.qmin).toNat : Nat) : Int)) * ((2 ^ y : Nat) : Int) := by
  have hO : O = ((2 ^ (-b64.qmin).toNat : Nat) : Int) := by rw [pow_qmin64]
  have hqm : b64.qmin ≤ 0 := by rw [qmin_b64]; decide
  refine ⟨(r - 2 * b64.qmin + min b64.qmin (q - r)).toNat, (-(r - 2 * b64.qmin + min b64.qmin (q - r))).toNat, ?_, fun z => ?_⟩
  · unfold inUnits
    rw [signed_mul, hO]
    have e : (q - r - min b64.qmin (q - r)).toNat + (r - 2 * b64.qmin + min b64.qmin (q - r)).toNat = ((q - b64.qmin).toNat + (-b64.qmin).toNat) + (-(r - 2 * b64.qmin + min b64.qmin (q - r))).toNat := by omega
    have e2 := pow_mul_eq e
    rw [Nat.pow_add _ (q - b64.qmin).toNat] at e2
    have e3 : (((2 ^ (q - r - min b64.qmin (q - r)).toNat : Nat) : Int)) * ((2 ^ (r - 2 * b64.qmin + min b64.qmin (q - r)).toNat : Nat) : Int) = ((2 ^ (q - b64.qmin).toNat : Nat) : Int) * ((2 ^ (-b64.qmin).toNat : Nat) : Int) * ((2 ^ (-(r - 2 * b64.qmin + min b64.qmin (q - r))).toNat : Nat) : Int) := by
      rw [← Int.natCast_mul, ← Int.natCast_mul, ← Int.natCast_mul, e2]
    rw [Int.mul_assoc, e3]; simp only [Int.mul_assoc]
  · have e : (b64.qmin - min b64.qmin (q - r)).toNat + (r - 2 * b64.qmin + min b64.qmin (q - r)).toNat = (r - b64.qmin).toNat + (-(r - 2 * b64.qmin + min b64.qmin (q - r))).toNat := by omega
    have e2 := pow_mul_eq e
    have e3 : ((2 ^ (b64.qmin - min b64.qmin (q - r)).toNat * d : Nat) : Int) * ((2 ^ (r - 2 * b64.qmin + min b64.qmin (q - r)).toNat : Nat) : Int) = ((d : Int) * ((2 ^ (r - b64.qmin).toNat : Nat) : Int)) * ((2 ^ (-(r - 2 * b64.qmin + min b64.qmin (q - r))).toNat : Nat) : Int) := by
      rw [← Int.natCast_mul, ← Int.natCast_mul, ← Int.natCast_mul, Nat.mul_right_comm, e2, Nat.mul_comm d, Nat.mul_right_comm]
    rw [Int.mul_assoc, e3]; simp only [Int.mul_assoc]
theorem pos_fin {s : Bool} {c : Nat} {q : Int} (h : 0 < signed s c * ((2 ^ (q - b64.qmin).toNat : Nat) : Int)) : s = false ∧ 0 < c := by
  have hp : (0 : Int) < ((2 ^ (q - b64.qmin).toNat : Nat) : Int) := Int.natCast_pos.mpr (Nat.two_pow_pos _)
  have h1 : 0 < signed s c := by
    refine Int.lt_of_not_ge fun hle => ?_
    have := Int.mul_le_mul_of_nonneg_right hle (Int.le_of_lt hp)
    omega
  cases s
  · exact ⟨rfl, by simp only [signed, Bool.false_eq_true, if_false] at h1; omega⟩
  · simp only [signed, if_true] at h1; omega
theorem div_parts {a b : UInt64} (ha : DFin a) (hb : DFin b) (hp : 0 < zv b) : ∃ s c q d r, val64 (Jvm.FP.ddiv a b) = roundRatio b64 s c d (q - r) ∧ 0 < d ∧ b64.qmin ≤ q ∧ b64.qmin ≤ r ∧
    zv a = signed s c * ((2 ^ (q - b64.qmin).toNat : Nat) : Int) ∧ zv b = (d : Int) * ((2 ^ (r - b64.qmin).toNat : Nat) : Int) := by
  obtain ⟨s, c, q, ea, fa⟩ := fin_of ha
  obtain ⟨t, d, r, eb, fb⟩ := fin_of hb
  unfold zv at hp ⊢
  rw [eb, zval_fin] at hp
  obtain ⟨rfl, hd⟩ := pos_fin hp
  refine ⟨s, c, q, d, r, ?_, hd, fa.2.1, fb.2.1, ?_, ?_⟩
  · show val64 (ddiv a b) = _
    rw [val64_ddiv, ea, eb]
    show (if d = 0 then _ else roundRatio b64 (s != false) c d (q - r)) = _
    rw [if_neg (by omega)]
    cases s <;> rfl
  · rw [ea, zval_fin]
  · rw [eb, zval_fin]; rfl
theorem div_le {a b : UInt64} {z : Int} (ha : DFin a) (hb : DFin b) (hp : 0 < zv b) (hz : Rep z) (h : zv a * O ≤ z * zv b) : zv (Jvm.FP.ddiv a b) ≤ z := by
  obtain ⟨s, c, q, d, r, e1, hd, hq, hr, e2, e3⟩ := div_parts ha hb hp
  obtain ⟨V, fV, nV, rfl⟩ := hz
  unfold zv at h ⊢
  rw [e1]
  refine ratio_le hd fV nV (e0 := min b64.qmin (q - r)) (by omega) (by omega) ?_
  obtain ⟨x, y, u1, u2⟩ := div_units (s := s) (c := c) (d := d) hq hr
  refine Int.le_of_mul_le_mul_right (a := ((2 ^ x : Nat) : Int)) ?_ (Int.natCast_pos.mpr (Nat.two_pow_pos x))
  rw [u1, u2]
  refine Int.mul_le_mul_of_nonneg_right ?_ (Int.natCast_nonneg _)
  rw [← e2, ← e3]; exact h
theorem div_ge {a b : UInt64} {z : Int} (ha : DFin a) (hb : DFin b) (hp : 0 < zv b) (hz : Rep z) (h : z * zv b ≤ zv a * O) : z ≤ zv (Jvm.FP.ddiv a b) := by
  obtain ⟨s, c, q, d, r, e1, hd, hq, hr, e2, e3⟩ := div_parts ha hb hp
  obtain ⟨V, fV, nV, rfl⟩ := hz
  unfold zv at h ⊢
  rw [e1]
  refine ratio_ge hd fV nV (e0 := min b64.qmin (q - r)) (by omega) (by omega) ?_
  obtain ⟨x, y, u1, u2⟩ := div_units (s := s) (c := c) (d := d) hq hr
  refine Int.le_of_mul_le_mul_right (a := ((2 ^ x : Nat) : Int)) ?_ (Int.natCast_pos.mpr (Nat.two_pow_pos x))
  rw [u1, u2]
  refine Int.mul_le_mul_of_nonneg_right ?_ (Int.natCast_nonneg _)
  rw [← e2, ← e3]; exact h
theorem div_eq {a b : UInt64} {z : Int} (ha : DFin a) (hb : DFin b) (hp : 0 < zv b) (hz : Rep z) (h : zv a * O = z * zv b) : zv (Jvm.FP.ddiv a b) = z :=
  Int.le_antisymm (div_le ha hb hp hz (Int.le_of_eq h)) (div_ge ha hb hp hz (Int.le_of_eq h.symm))
/-! no NaNs, finite results -/
theorem nn_fin {a : UInt64} (h : DFin a) : Jvm.Free.Fl.NoNaN64 a := Jvm.Free.Fl.val64_no.mpr h.ne_nan
theorem nn_mul {a b : UInt64} (ha : DFin a) (hb : DFin b) : Jvm.Free.Fl.NoNaN64 (Jvm.FP.dmul a b) := Jvm.Free.Fl.noNaN64_no.mpr (dmul_out ha hb)
theorem nn_add {a b : UInt64} (ha : DFin a) (hb : DFin b) : Jvm.Free.Fl.NoNaN64 (Jvm.FP.dadd a b) := Jvm.Free.Fl.noNaN64_no.mpr (dadd_out ha.notNaN hb)
theorem nn_sub {a b : UInt64} (ha : DFin a) (hb : DFin b) : Jvm.Free.Fl.NoNaN64 (Jvm.FP.dsub a b) := Jvm.Free.Fl.noNaN64_no.mpr (dsub_out ha.notNaN hb)
theorem zv_zero {a : UInt64} (h : DZero a) : zv a = 0 := h.zval
theorem nn_div {a b : UInt64} (ha : DFin a) (hb : DFin b) (hz : zv b ≠ 0) : Jvm.Free.Fl.NoNaN64 (Jvm.FP.ddiv a b) := Jvm.Free.Fl.noNaN64_no.mpr (ddiv_out ha.notNaN hb fun q => hz (zv_zero q))
theorem nn_ne {a : UInt64} (h : Jvm.Free.Fl.NoNaN64 a) : val64 a ≠ .nan := Jvm.Free.Fl.val64_no.mp h
theorem top_big : 18446744073709551616 * one64 < b64.tails * 2 ^ (b64.exps - 2) := by decide +kernel
theorem zmag_zv (a : UInt64) : ((zmag b64 (val64 a) : Nat) : Int) = zv a ∨ ((zmag b64 (val64 a) : Nat) : Int) = -zv a := by
  unfold zv zval
  cases sgn (val64 a) <;> simp [signed]
theorem fin_of_zv {a : UInt64} (h : Jvm.Free.Fl.NoNaN64 a) (h1 : -(18446744073709551616 * O) ≤ zv a) (h2 : zv a ≤ 18446744073709551616 * O) : DFin a := by
  have hn := nn_ne h
  cases e : val64 a with
  | nan => exact absurd e hn
  | fin s c q => exact ⟨s, c, q, e⟩
  | inf s =>
    exfalso
    have hz : zmag b64 (val64 a) = b64.tails * 2 ^ (b64.exps - 2) := by rw [e]; rfl
    have ht := top_big
    have hc := zmag_zv a
    rw [hz] at hc
    generalize b64.tails * 2 ^ (b64.exps - 2) = T at *
    unfold O at h1 h2
    rcases hc with hc | hc <;> omega
/-! comparisons -/
theorem cmp_zv {a b : UInt64} (ha : Jvm.Free.Fl.NoNaN64 a) (hb : Jvm.Free.Fl.NoNaN64 b) : Jvm.FP.dcmp a b = some (compare (zv a) (zv b)) := dcmp_zval (nn_ne ha) (nn_ne hb)
theorem compare_if (x y : Int) : compare x y = if x < y then .lt else if x = y then .eq else .gt := rfl
open Jvm.Op in
theorem if_lt {a b : UInt64} (ha : Jvm.Free.Fl.NoNaN64 a) (hb : Jvm.Free.Fl.NoNaN64 b) (o : Jvm.ClassFile.CmpOp) : ifCond.holds .lt (cmpValue (Jvm.FP.dcmp a b) o) = decide (zv a < zv b) := by
  rw [cmp_zv ha hb, compare_if]; by_cases h1 : zv a < zv b
  · simp only [h1, if_true]; cases o <;> decide
  · by_cases h2 : zv a = zv b
    · simp only [h1, h2, Int.lt_irrefl, if_true, if_false]; cases o <;> decide
    · simp only [h1, h2, if_false]; cases o <;> decide
open Jvm.Op in
theorem if_ge {a b : UInt64} (ha : Jvm.Free.Fl.NoNaN64 a) (hb : Jvm.Free.Fl.NoNaN64 b) (o : Jvm.ClassFile.CmpOp) : ifCond.holds .ge (cmpValue (Jvm.FP.dcmp a b) o) = decide (zv b ≤ zv a) := by
  rw [cmp_zv ha hb, compare_if]; by_cases h1 : zv a < zv b
  · have : ¬ zv b ≤ zv a := by omega
    simp only [h1, this, if_true]; cases o <;> decide
  · have : zv b ≤ zv a := by omega
    by_cases h2 : zv a = zv b
    · simp only [h1, h2, this, Int.lt_irrefl, Int.le_refl, if_true, if_false]; cases o <;> decide
    · simp only [h1, h2, this, if_false]; cases o <;> decide
open Jvm.Op in
theorem if_gt {a b : UInt64} (ha : Jvm.Free.Fl.NoNaN64 a) (hb : Jvm.Free.Fl.NoNaN64 b) (o : Jvm.ClassFile.CmpOp) : ifCond.holds .gt (cmpValue (Jvm.FP.dcmp a b) o) = decide (zv b < zv a) := by
  rw [cmp_zv ha hb, compare_if]; by_cases h1 : zv a < zv b
  · have : ¬ zv b < zv a := by omega
    simp only [h1, this, if_true]; cases o <;> decide
  · by_cases h2 : zv a = zv b
    · simp only [h1, h2, Int.lt_irrefl, if_true, if_false]; cases o <;> decide
    · have : zv b < zv a := by omega
      simp only [h1, h2, this, if_false]; cases o <;> decide
open Jvm.Op in
theorem if_le {a b : UInt64} (ha : Jvm.Free.Fl.NoNaN64 a) (hb : Jvm.Free.Fl.NoNaN64 b) (o : Jvm.ClassFile.CmpOp) : ifCond.holds .le (cmpValue (Jvm.FP.dcmp a b) o) = decide (zv a ≤ zv b) := by
  rw [cmp_zv ha hb, compare_if]; by_cases h1 : zv a < zv b
  · have : zv a ≤ zv b := by omega
    simp only [h1, this, if_true]; cases o <;> decide
  · by_cases h2 : zv a = zv b
    · simp only [h1, h2, Int.lt_irrefl, Int.le_refl, if_true, if_false]; cases o <;> decide
    · have : ¬ zv a ≤ zv b := by omega
      simp only [h1, h2, this, if_false]; cases o <;> decide
open Jvm.Op in
theorem if_eq {a b : UInt64} (ha : Jvm.Free.Fl.NoNaN64 a) (hb : Jvm.Free.Fl.NoNaN64 b) (o : Jvm.ClassFile.CmpOp) : ifCond.holds .eq (cmpValue (Jvm.FP.dcmp a b) o) = decide (zv a = zv b) := by
  rw [cmp_zv ha hb, compare_if]; by_cases h1 : zv a < zv b
  · have : ¬ zv a = zv b := by omega
    simp only [h1, this, if_true]; cases o <;> decide
  · by_cases h2 : zv a = zv b
    · simp only [h2, Int.lt_irrefl, if_true, if_false]; cases o <;> decide
    · simp only [h1, h2, if_false]; cases o <;> decide
open Jvm.Op in
theorem if_ne {a b : UInt64} (ha : Jvm.Free.Fl.NoNaN64 a) (hb : Jvm.Free.Fl.NoNaN64 b) (o : Jvm.ClassFile.CmpOp) : ifCond.holds .ne (cmpValue (Jvm.FP.dcmp a b) o) = decide (¬ zv a = zv b) := by
  rw [cmp_zv ha hb, compare_if]; by_cases h1 : zv a < zv b
  · have : ¬ zv a = zv b := by omega
    simp only [h1, this, if_true]; cases o <;> decide
  · by_cases h2 : zv a = zv b
    · simp only [h2, Int.lt_irrefl, if_true, if_false]; cases o <;> decide
    · simp only [h1, h2, if_false]; cases o <;> decide
/-! longs and ints compared -/
open Jvm.Op Jvm.RoadKit in
theorem lw (cd : Jvm.ClassFile.Cond) (x y : Int64) : ifCond.holds cd (lcmpW x y) = (match cd with | .lt => decide (x.toInt < y.toInt) | .le => decide (x.toInt ≤ y.toInt) | .gt => decide (y.toInt < x.toInt) | .ge => decide (y.toInt ≤ x.toInt) | .eq => decide (x.toInt = y.toInt) | .ne => decide (¬ x.toInt = y.toInt)) := by
  unfold lcmpW
  simp only [gt_iff_lt, Int64.lt_iff_toInt_lt, ← Int64.toInt_inj]
  by_cases h1 : y.toInt < x.toInt
  · rw [if_pos h1]
    cases cd <;> simp only [h1, show ¬ x.toInt < y.toInt by omega, show ¬ x.toInt ≤ y.toInt by omega, show y.toInt ≤ x.toInt by omega, show ¬ x.toInt = y.toInt by omega] <;> decide
  · rw [if_neg h1]
    by_cases h2 : x.toInt = y.toInt
    · rw [if_pos h2, h2]
      cases cd <;> simp only [Int.lt_irrefl, Int.le_refl] <;> decide
    · rw [if_neg h2]
      cases cd <;> simp only [h1, h2, show x.toInt < y.toInt by omega, show x.toInt ≤ y.toInt by omega, show ¬ y.toInt ≤ x.toInt by omega] <;> decide
theorem i0_iff (x : Int32) : x = 0 ↔ x.toInt = 0 := by rw [← Int32.toInt_inj]; rfl
open Jvm.Op in
theorem iw (cd : Jvm.ClassFile.Cond) (x : Int32) : ifCond.holds cd x = (match cd with | .lt => decide (x.toInt < 0) | .le => decide (x.toInt ≤ 0) | .gt => decide (0 < x.toInt) | .ge => decide (0 ≤ x.toInt) | .eq => decide (x.toInt = 0) | .ne => decide (¬ x.toInt = 0)) := by
  have e0 : (0 : Int32).toInt = 0 := by decide
  cases cd <;> simp only [ifCond.holds, gt_iff_lt, ge_iff_le, Int32.lt_iff_toInt_lt, Int32.le_iff_toInt_le, e0]
  · by_cases h : x = 0
    · subst h; decide
    · have h' : ¬ x.toInt = 0 := fun q => h ((i0_iff x).mpr q)
      simp [h, h']
  · by_cases h : x = 0
    · subst h; decide
    · have h' : ¬ x.toInt = 0 := fun q => h ((i0_iff x).mpr q)
      simp [h, h']
end Jvm.OwnFP
namespace Jvm.OwnFP
open Jvm.FP.Core
/-! a long divided by a power of two -/
def P (k : Nat) : Int := ((2 ^ (1074 - k) : Nat) : Int)
theorem P_pos (k : Nat) : 0 < P k := Int.natCast_pos.mpr (Nat.two_pow_pos _)
theorem P_O {k : Nat} (hk : k ≤ 1074) : ((2 ^ k : Nat) : Int) * P k = O := (pow_O k hk).symm
theorem rep_P {m : Int} (k : Nat) (hm : m.natAbs ≤ 9007199254740992) : Rep (m * P k) := rep_le (1074 - k) hm (by omega)
theorem q_le {x : Int64} {b : UInt64} {k : Nat} (hk : k ≤ 1000) (hF : DFin b) (hb : zv b = ((2 ^ k : Nat) : Int) * O) {m : Int} (hm : m.natAbs ≤ 9007199254740992) (h : x.toInt ≤ m) : zv (Jvm.FP.ddiv (Jvm.FP.l2d x) b) ≤ m * P k := by
  have hO := O_pos
  have h2 : (0 : Int) < ((2 ^ k : Nat) : Int) := Int.natCast_pos.mpr (Nat.two_pow_pos _)
  refine div_le (l2dF x) hF (by rw [hb]; exact Int.mul_pos h2 hO) (rep_P k hm) ?_
  have h1 : zv (Jvm.FP.l2d x) ≤ m * O := l2d_le (rep_int hm) (Int.mul_le_mul_of_nonneg_right h (Int.le_of_lt hO))
  rw [hb, ← Int.mul_assoc]
  refine Int.mul_le_mul_of_nonneg_right ?_ (Int.le_of_lt hO)
  rw [Int.mul_assoc, Int.mul_comm (P k), P_O (by omega)]
  exact h1
theorem q_ge {x : Int64} {b : UInt64} {k : Nat} (hk : k ≤ 1000) (hF : DFin b) (hb : zv b = ((2 ^ k : Nat) : Int) * O) {m : Int} (hm : m.natAbs ≤ 9007199254740992) (h : m ≤ x.toInt) : m * P k ≤ zv (Jvm.FP.ddiv (Jvm.FP.l2d x) b) := by
  have hO := O_pos
  have h2 : (0 : Int) < ((2 ^ k : Nat) : Int) := Int.natCast_pos.mpr (Nat.two_pow_pos _)
  refine div_ge (l2dF x) hF (by rw [hb]; exact Int.mul_pos h2 hO) (rep_P k hm) ?_
  have h1 : m * O ≤ zv (Jvm.FP.l2d x) := l2d_ge (rep_int hm) (Int.mul_le_mul_of_nonneg_right h (Int.le_of_lt hO))
  rw [hb, ← Int.mul_assoc]
  refine Int.mul_le_mul_of_nonneg_right ?_ (Int.le_of_lt hO)
  rw [Int.mul_assoc, Int.mul_comm (P k), P_O (by omega)]
  exact h1
/-- the quotient against a whole number -/
theorem q_cmp {x : Int64} {b : UInt64} {k : Nat} (hk : k ≤ 1000) (hF : DFin b) (hb : zv b = ((2 ^ k : Nat) : Int) * O) {B m : Int} (hm : m = B * ((2 ^ k : Nat) : Int)) (hm1 : m.natAbs < 9007199254740992) :
    (zv (Jvm.FP.ddiv (Jvm.FP.l2d x) b) ≤ B * O ↔ x.toInt ≤ m) ∧ (B * O ≤ zv (Jvm.FP.ddiv (Jvm.FP.l2d x) b) ↔ m ≤ x.toInt) := by
  have e : B * O = m * P k := by rw [hm, Int.mul_assoc, P_O (by omega)]
  have hP := P_pos k
  rw [e]
  refine ⟨⟨fun h => Int.not_lt.mp fun hl => ?_, fun h => q_le hk hF hb (by omega) h⟩, ⟨fun h => Int.not_lt.mp fun hl => ?_, fun h => q_ge hk hF hb (by omega) h⟩⟩
  · have := q_ge hk hF hb (x := x) (m := m + 1) (by omega) (by omega)
    rw [Int.add_mul] at this; omega
  · have := q_le hk hF hb (x := x) (m := m - 1) (by omega) (by omega)
    rw [Int.sub_mul] at this; omega
theorem neg_zv (a : UInt64) : zv (Jvm.FP.dneg a) = -zv a := by
  unfold zv; rw [Jvm.FP.val64_dneg, zval_negate]
theorem nn_neg {a : UInt64} (h : Jvm.Free.Fl.NoNaN64 a) : Jvm.Free.Fl.NoNaN64 (Jvm.FP.dneg a) := by
  refine Jvm.Free.Fl.val64_no.mpr ?_
  rw [Jvm.FP.val64_dneg]; exact negate_ne_nan (nn_ne h)
theorem zv_lit {a : UInt64} (z : Int) (h : zv a = z) : zv a = z := h
theorem zv_d0 : zv Jvm.FP.dconst0 = 0 := by decide +kernel
theorem zv_d1 : zv Jvm.FP.dconst1 = O := by decide +kernel
theorem nn_d0 : Jvm.Free.Fl.NoNaN64 Jvm.FP.dconst0 := by unfold Jvm.Free.Fl.NoNaN64; decide
theorem nn_d1 : Jvm.Free.Fl.NoNaN64 Jvm.FP.dconst1 := by unfold Jvm.Free.Fl.NoNaN64; decide
end Jvm.OwnFP
namespace Jvm.OwnFP
open Jvm.FP.Core
/-! rounding two values keeps their order -/
theorem nat_mono_core {w v P B B' X X' : Nat} (hB : 0 < B) (hB' : 0 < B') (hP : 0 < P) (hvw : v < w) (hXX : X * B' ≤ X' * B) (h1 : v * P * B < X) (h2 : X' < w * P * B')
    (n1 : ((X : Int) - ((w * P : Nat) : Int) * (B : Int)).natAbs ≤ ((X : Int) - ((v * P : Nat) : Int) * (B : Int)).natAbs)
    (n2 : ((X' : Int) - ((v * P : Nat) : Int) * (B' : Int)).natAbs ≤ ((X' : Int) - ((w * P : Nat) : Int) * (B' : Int)).natAbs) : X * B' = X' * B := by
  rw [← Int.natCast_mul, ← Int.natCast_mul] at n1 n2
  have a1 : X < w * P * B := by
    refine Nat.lt_of_not_le fun hle => ?_
    have q1 := Nat.mul_le_mul_right B' hle
    have q2 : w * P * B' * B ≤ X' * B := by rw [Nat.mul_right_comm]; exact Nat.le_trans q1 hXX
    have := Nat.le_of_mul_le_mul_right q2 hB
    omega
  have a2 : v * P * B' < X' := by
    refine Nat.lt_of_not_le fun hle => ?_
    have q1 := Nat.mul_le_mul_right B hle
    have q2 : X * B' ≤ v * P * B * B' := by rw [Nat.mul_right_comm _ B]; exact Nat.le_trans hXX q1
    have := Nat.le_of_mul_le_mul_right q2 hB'
    omega
  have b1 : w * P * B + v * P * B ≤ 2 * X := by omega
  have b2 : 2 * X' ≤ w * P * B' + v * P * B' := by omega
  have c1 := Nat.mul_le_mul_right B' b1
  have c2 := Nat.mul_le_mul_right B b2
  rw [Nat.add_mul, Nat.mul_right_comm _ B B', Nat.mul_right_comm (v * P) B B', Nat.mul_assoc 2] at c1
  rw [Nat.add_mul, Nat.mul_assoc 2] at c2
  omega
theorem ratio_mono {s : Bool} {A B A' B' : Nat} {e e' : Int} (hB : 0 < B) (hB' : 0 < B') (h : A * B' * 2 ^ (e - e').toNat ≤ A' * B * 2 ^ (e' - e).toNat) :
    zmag b64 (roundRatio b64 s A B e) ≤ zmag b64 (roundRatio b64 s A' B' e') := by
  refine Nat.le_of_not_lt fun hvw => ?_
  obtain ⟨e0, h0, he, he', hm⟩ : ∃ e0 : Int, e0 < b64.qmin ∧ e0 ≤ e ∧ e0 ≤ e' ∧ e0 = min (b64.qmin - 1) (min e e') := ⟨min (b64.qmin - 1) (min e e'), by omega, by omega, by omega, rfl⟩
  have hx : inUnits A e e0 * B' = A * B' * 2 ^ (e - e').toNat * 2 ^ (min e e' - e0).toNat := by
    unfold inUnits
    rw [show (e - e0).toNat = (e - e').toNat + (min e e' - e0).toNat by omega, Nat.pow_add, Nat.mul_right_comm, ← Nat.mul_assoc, Nat.mul_right_comm A B']
  have hx' : inUnits A' e' e0 * B = A' * B * 2 ^ (e' - e).toNat * 2 ^ (min e e' - e0).toNat := by
    unfold inUnits
    rw [show (e' - e0).toNat = (e' - e).toNat + (min e e' - e0).toNat by omega, Nat.pow_add, Nat.mul_right_comm, ← Nat.mul_assoc, Nat.mul_right_comm A' B]
  have hXX : inUnits A e e0 * B' ≤ inUnits A' e' e0 * B := by rw [hx, hx']; exact Nat.mul_le_mul_right _ h
  have fW := roundRatio_fits good_b64 s A hB e
  have fV := roundRatio_fits good_b64 s A' hB' e'
  have h1 : zmag b64 (roundRatio b64 s A' B' e') * 2 ^ (b64.qmin - e0).toNat * B < inUnits A e e0 := by
    refine Nat.lt_of_not_le fun hle => ?_
    have := zmag_roundRatio_le good_b64 (s := s) (A := A) hB fV (roundRatio_ne_nan b64 s A' B' e') (Int.le_of_lt h0) he hle
    omega
  have h2 : inUnits A' e' e0 < zmag b64 (roundRatio b64 s A B e) * 2 ^ (b64.qmin - e0).toNat * B' := by
    refine Nat.lt_of_not_le fun hle => ?_
    have := zmag_roundRatio_ge good_b64 (s := s) (A := A') hB' fW (Int.le_of_lt h0) he' hle
    omega
  rcases roundRatio_cases b64 s A' B' e' with ⟨c', q', hV⟩ | hV
  · rcases roundRatio_cases b64 s A B e with ⟨c, q, hW⟩ | hW
    · rw [hV] at fV; rw [hW] at fW
      have n1 := roundRatio_nearest good_b64 hB hW fV.1 fV.2.1 (Int.le_of_lt h0) he
      have n2 := roundRatio_nearest good_b64 hB' hV fW.1 fW.2.1 (Int.le_of_lt h0) he'
      rw [hV] at h1 hvw; rw [hW] at h2 hvw
      unfold distance at n1 n2
      rw [units_fin fW (Int.le_of_lt h0), units_fin fV (Int.le_of_lt h0)] at n1 n2
      have heq := nat_mono_core hB hB' (Nat.two_pow_pos (b64.qmin - e0).toNat) hvw hXX h1 h2 n1 n2
      rw [hx, hx'] at heq
      have heq2 := Nat.eq_of_mul_eq_mul_right (Nat.two_pow_pos _) heq
      have hc := roundRatio_congr (f := b64) (s := s) hB hB' heq2
      rw [hV, hW] at hc
      rw [hc] at hvw
      omega
    · have t1 := (roundRatio_inf good_b64 (s := s) hB h0 he).mp hW
      have t2 : (2 ^ (b64.p + 1) - 1) * 2 ^ (b64.qmax - 1 - e0).toNat * B' ≤ inUnits A' e' e0 := by
        have q1 := Nat.mul_le_mul_right B' t1
        have q2 := Nat.le_trans q1 hXX
        rw [Nat.mul_right_comm _ B B'] at q2
        exact Nat.le_of_mul_le_mul_right q2 hB
      have t3 := (roundRatio_inf good_b64 (s := s) hB' h0 he').mpr t2
      rw [hW, t3] at hvw
      exact Nat.lt_irrefl _ hvw
  · rw [hV] at hvw
    have := zmag_le_top good_b64 fW
    exact Nat.lt_irrefl _ (Nat.lt_of_lt_of_le hvw this)
theorem zval_pos (A B : Nat) (e : Int) : zval b64 (roundRatio b64 false A B e) = (zmag b64 (roundRatio b64 false A B e) : Int) := by
  unfold zval; rw [sgn_roundRatio]; rfl
theorem l2d_ratio {n : Int64} (h : 0 ≤ n.toInt) : zv (Jvm.FP.l2d n) = (zmag b64 (roundRatio b64 false n.toInt.natAbs 1 0) : Int) := by
  show zval b64 (val64 (l2d n)) = _
  rw [val64_l2d]
  show zval b64 (roundRatio b64 (decide (n.toInt < 0)) n.toInt.natAbs 1 0) = _
  rw [show decide (n.toInt < 0) = false from decide_eq_false (by omega), zval_pos]
theorem l2d_mono {n m : Int64} (h : 0 ≤ n.toInt) (hnm : n.toInt ≤ m.toInt) : zv (Jvm.FP.l2d n) ≤ zv (Jvm.FP.l2d m) := by
  rw [l2d_ratio h, l2d_ratio (by omega)]
  refine Int.ofNat_le.mpr (ratio_mono (by decide) (by decide) ?_)
  simp only [Int.sub_self, Int.toNat_zero, Nat.pow_zero, Nat.mul_one]
  omega
theorem l2d_nonneg {n : Int64} (h : 0 ≤ n.toInt) : 0 ≤ zv (Jvm.FP.l2d n) := by rw [l2d_ratio h]; exact Int.natCast_nonneg _
theorem rep_zero : Rep 0 := by have := rep_le (n := 0) 0 (by decide) (by decide); rw [Int.zero_mul] at this; exact this
/-! doubling -/
theorem leading_one {A : Nat} (hA : 0 < A) : leading A 1 = (A.log2 : Int) := by
  unfold leading
  have h1 : (1 : Nat).log2 = 0 := by decide
  have h2 : 2 ^ A.log2 ≤ A := Nat.log2_self_le (by omega)
  simp only [h1]
  rw [show ((A.log2 : Int) - ((0 : Nat) : Int)) = (A.log2 : Int) by omega, Int.toNat_natCast, show (-(A.log2 : Int)).toNat = 0 by omega, Nat.pow_zero, Nat.mul_one, Nat.one_mul, if_pos h2]
theorem dbl_mag {A : Nat} (hA : 0 < A) (hb : A < 2 ^ 64) : zmag b64 (roundRatio b64 false (2 * A) 1 0) = 2 * zmag b64 (roundRatio b64 false A 1 0) := by
  rw [roundRatio_congr (A' := A) (B' := 1) (e' := 1) (e := 0) (by decide) (by decide) (by simp only [Nat.mul_one]; rw [show ((0 : Int) - 1).toNat = 0 by decide, show ((1 : Int) - 0).toNat = 1 by decide]; omega)]
  have hl : A.log2 < 64 := (Nat.log2_lt (by omega)).mpr hb
  have q0 : quantum b64 A 1 0 = (A.log2 : Int) - 52 := by
    unfold quantum; rw [leading_one hA, qmin_b64, show (b64.p : Int) - 1 = 52 by decide]; omega
  have q1 : quantum b64 A 1 1 = (A.log2 : Int) - 52 + 1 := by
    unfold quantum; rw [leading_one hA, qmin_b64, show (b64.p : Int) - 1 = 52 by decide]; omega
  unfold roundRatio
  rw [if_neg (by omega), if_neg (by omega), q0, q1]
  unfold roundAt
  have u1 : unitsNum A 1 ((A.log2 : Int) - 52 + 1) = unitsNum A 0 ((A.log2 : Int) - 52) := by
    unfold unitsNum; rw [show (1 - ((A.log2 : Int) - 52 + 1)).toNat = (0 - ((A.log2 : Int) - 52)).toNat by omega]
  have u2 : unitsDen 1 1 ((A.log2 : Int) - 52 + 1) = unitsDen 1 0 ((A.log2 : Int) - 52) := by
    unfold unitsDen; rw [show ((A.log2 : Int) - 52 + 1 - 1).toNat = ((A.log2 : Int) - 52 - 0).toNat by omega]
  rw [u1, u2]
  generalize nearest (unitsNum A 0 ((A.log2 : Int) - 52)) (unitsDen 1 0 ((A.log2 : Int) - 52)) = N
  have key : ∀ c : Nat, ∀ q : Int, b64.qmin ≤ q → q + 1 ≤ b64.qmax → zmag b64 (bound b64 false c (q + 1)) = 2 * zmag b64 (bound b64 false c q) := by
    intro c q h1 h2
    unfold bound
    rw [if_pos h2, if_pos (by omega)]
    show inUnits c (q + 1) b64.qmin = 2 * inUnits c q b64.qmin
    unfold inUnits
    rw [show (q + 1 - b64.qmin).toNat = (q - b64.qmin).toNat + 1 by omega, Nat.pow_succ, ← Nat.mul_assoc, Nat.mul_comm]
  unfold settle
  split
  · exact key _ _ (by rw [qmin_b64]; omega) (by rw [qmax_b64]; omega)
  · exact key _ _ (by rw [qmin_b64]; omega) (by rw [qmax_b64]; omega)
theorem l2d_dbl {n m : Int64} (hn : 0 < n.toInt) (h : m.toInt = 2 * n.toInt) : zv (Jvm.FP.l2d m) = 2 * zv (Jvm.FP.l2d n) := by
  have b := Int64.toInt_lt n
  rw [l2d_ratio (by omega), l2d_ratio (by omega), h, show (2 * n.toInt).natAbs = 2 * n.toInt.natAbs by omega, dbl_mag (by omega) (by omega)]
  omega
/-- a positive long is at least 1 -/
theorem l2d_pos {n : Int64} (h : 1 ≤ n.toInt) : O ≤ zv (Jvm.FP.l2d n) := by
  have := l2d_ge (n := n) (z := 1 * O) (rep_int (by decide)) (Int.mul_le_mul_of_nonneg_right h (Int.le_of_lt O_pos))
  omega
theorem div_mono2 {a b c c' : UInt64} (ha : DFin a) (hb : DFin b) (hc : DFin c) (hc' : DFin c') (hp : 0 < zv c) (hp' : 0 < zv c') (h0 : 0 ≤ zv a) (h0' : 0 ≤ zv b) (h : zv a * zv c' ≤ zv b * zv c) : zv (Jvm.FP.ddiv a c) ≤ zv (Jvm.FP.ddiv b c') := by
  by_cases hz : zv a = 0
  · have h1 := div_eq (z := 0) ha hc hp rep_zero (by rw [hz]; simp)
    rw [h1]
    exact div_ge hb hc' hp' rep_zero (by rw [Int.zero_mul]; exact Int.mul_nonneg h0' (Int.le_of_lt O_pos))
  · have hzb : zv b ≠ 0 := fun q => by
      rw [q, Int.zero_mul] at h
      have : 0 < zv a * zv c' := Int.mul_pos (by omega) hp'
      omega
    obtain ⟨s, c1, q, d, r, e1, hd, hq, hr, e2, e3⟩ := div_parts ha hc hp
    obtain ⟨s', c2, q', d', r', e1', hd', hq', hr', e2', e3'⟩ := div_parts hb hc' hp'
    obtain ⟨rfl, -⟩ := pos_fin (s := s) (c := c1) (q := q) (by rw [← e2]; omega)
    obtain ⟨rfl, -⟩ := pos_fin (s := s') (c := c2) (q := q') (by rw [← e2']; omega)
    unfold zv
    rw [e1, e1', zval_pos, zval_pos]
    refine Int.ofNat_le.mpr (ratio_mono hd hd' ?_)
    have k3 : (c1 * 2 ^ (q - b64.qmin).toNat) * (d' * 2 ^ (r' - b64.qmin).toNat) ≤ (c2 * 2 ^ (q' - b64.qmin).toNat) * (d * 2 ^ (r - b64.qmin).toNat) := by
      rw [e2, e2', e3, e3'] at h
      simp only [signed, Bool.false_eq_true, if_false] at h
      exact Int.ofNat_le.mp (by simp only [Int.natCast_mul]; exact h)
    obtain ⟨M, x1, x2⟩ : ∃ M : Nat, (q - b64.qmin).toNat + (r' - b64.qmin).toNat = ((q - r) - (q' - r')).toNat + M ∧ (q' - b64.qmin).toNat + (r - b64.qmin).toNat = ((q' - r') - (q - r)).toNat + M :=
      ⟨min ((q - b64.qmin).toNat + (r' - b64.qmin).toNat) ((q' - b64.qmin).toNat + (r - b64.qmin).toNat), by omega, by omega⟩
    rw [Nat.mul_mul_mul_comm, ← Nat.pow_add, Nat.mul_mul_mul_comm c2, ← Nat.pow_add, x1, x2, Nat.pow_add, Nat.pow_add, ← Nat.mul_assoc, ← Nat.mul_assoc] at k3
    exact Nat.le_of_mul_le_mul_right k3 (Nat.two_pow_pos _)
theorem div_mono {a b c : UInt64} (ha : DFin a) (hb : DFin b) (hc : DFin c) (hp : 0 < zv c) (h0 : 0 ≤ zv a) (h : zv a ≤ zv b) : zv (Jvm.FP.ddiv a c) ≤ zv (Jvm.FP.ddiv b c) :=
  div_mono2 ha hb hc hc hp hp h0 (by omega) (Int.mul_le_mul_of_nonneg_right h (Int.le_of_lt hp))
/-- a / n for 0 ≤ a ≤ n, 1 ≤ n -/
theorem frac {a n : Int64} (h0 : 0 ≤ a.toInt) (h : a.toInt ≤ n.toInt) (hn : 1 ≤ n.toInt) : Jvm.Free.Fl.NoNaN64 (Jvm.FP.ddiv (Jvm.FP.l2d a) (Jvm.FP.l2d n)) ∧ DFin (Jvm.FP.ddiv (Jvm.FP.l2d a) (Jvm.FP.l2d n)) ∧ 0 ≤ zv (Jvm.FP.ddiv (Jvm.FP.l2d a) (Jvm.FP.l2d n)) ∧ zv (Jvm.FP.ddiv (Jvm.FP.l2d a) (Jvm.FP.l2d n)) ≤ O := by
  have hO := O_pos
  have hp : 0 < zv (Jvm.FP.l2d n) := by have := l2d_pos hn; omega
  have nn := nn_div (l2dF a) (l2dF n) (Int.ne_of_gt hp)
  have h1 := div_ge (l2dF a) (l2dF n) hp rep_zero (by rw [Int.zero_mul]; exact Int.mul_nonneg (l2d_nonneg h0) (Int.le_of_lt hO))
  have h2 := div_le (z := 1 * O) (l2dF a) (l2dF n) hp (rep_int (by decide)) (by
    rw [Int.one_mul, Int.mul_comm O]; exact Int.mul_le_mul_of_nonneg_right (l2d_mono h0 h) (Int.le_of_lt hO))
  exact ⟨nn, fin_of_zv nn (by omega) (by omega), h1, by omega⟩
theorem frac_zero {a n : Int64} (h0 : a.toInt = 0) (hn : 1 ≤ n.toInt) : zv (Jvm.FP.ddiv (Jvm.FP.l2d a) (Jvm.FP.l2d n)) = 0 := by
  have hp : 0 < zv (Jvm.FP.l2d n) := by have := l2d_pos hn; have := O_pos; omega
  exact div_eq (l2dF a) (l2dF n) hp rep_zero (by rw [l2d_eq (by omega), h0]; simp)
theorem frac_one {a n : Int64} (h : a.toInt = n.toInt) (hn : 1 ≤ n.toInt) : zv (Jvm.FP.ddiv (Jvm.FP.l2d a) (Jvm.FP.l2d n)) = O := by
  have hp : 0 < zv (Jvm.FP.l2d n) := by have := l2d_pos hn; have := O_pos; omega
  have e : a = n := Int64.toInt_inj.mp h
  subst e
  have := div_eq (z := 1 * O) (l2dF a) (l2dF a) hp (rep_int (by decide)) (by rw [Int.one_mul, Int.mul_comm])
  omega
theorem frac_half {a n : Int64} (h : 2 * a.toInt = n.toInt) (hn : 1 ≤ n.toInt) : 2 * zv (Jvm.FP.ddiv (Jvm.FP.l2d a) (Jvm.FP.l2d n)) = O := by
  have hp : 0 < zv (Jvm.FP.l2d n) := by have := l2d_pos hn; have := O_pos; omega
  have hd := l2d_dbl (n := a) (m := n) (by omega) h.symm
  have hP : O = 2 * ((2 ^ 1073 : Nat) : Int) := pow_O 1 (by decide)
  have := div_eq (z := 1 * ((2 ^ 1073 : Nat) : Int)) (l2dF a) (l2dF n) hp (rep_le 1073 (by decide) (by decide)) (by
    rw [hd, hP, Int.one_mul, Int.mul_comm, Int.mul_comm 2 (zv _), ← Int.mul_assoc, Int.mul_assoc 2, Int.mul_comm 2, Int.mul_comm ((2 ^ 1073 : Nat) : Int)])
  rw [this, Int.one_mul, hP]
/-! differences -/
theorem sub_form {a b : UInt64} (ha : DFin a) (hb : DFin b) (h : 0 < zv a - zv b) : ∃ n e, b64.qmin ≤ e ∧ zv (Jvm.FP.dsub a b) = (zmag b64 (roundRatio b64 false n 1 e) : Int) ∧ ((inUnits n e b64.qmin : Nat) : Int) = zv a - zv b := by
  obtain ⟨s, c, q, ea, fa⟩ := fin_of ha
  obtain ⟨t, d, r, eb, fb⟩ := fin_of hb
  have fb' : Jvm.FP.Core.fits b64 (.fin (!t) d r) := fb
  obtain ⟨sg, n, e, h1, h2, h3⟩ := sum_units fa fb'
  have hz : zval b64 (.fin s c q) + zval b64 (.fin (!t) d r) = zv a - zv b := by
    have : zval b64 (.fin (!t) d r) = -zval b64 (.fin t d r) := zval_negate b64 (.fin t d r)
    unfold zv; rw [ea, eb, this]; omega
  rw [hz] at h3
  have hsg : sg = false := by
    cases sg
    · rfl
    · simp only [signed, if_true] at h3; omega
  subst hsg
  refine ⟨n, e, h2, ?_, by simpa [signed] using h3⟩
  show zval b64 (val64 (dsub a b)) = _
  rw [val64_dsub, ea, eb]
  show zval b64 (round b64 (exactSum (.fin s c q) (.fin (!t) d r))) = _
  rw [h1]
  exact zval_pos n 1 e
theorem sub_mono {a b c d : UInt64} (ha : DFin a) (hb : DFin b) (hc : DFin c) (hd : DFin d) (h0 : 0 ≤ zv a - zv b) (h : zv a - zv b ≤ zv c - zv d) : zv (Jvm.FP.dsub a b) ≤ zv (Jvm.FP.dsub c d) := by
  by_cases hz : zv a - zv b = 0
  · have h1 := sub_eq (z := 0) ha hb rep_zero hz
    rw [h1]
    exact sub_ge hc hd rep_zero (by omega)
  · obtain ⟨n, e, q1, q2, q3⟩ := sub_form ha hb (by omega)
    obtain ⟨n', e', r1, r2, r3⟩ := sub_form hc hd (by omega)
    rw [q2, r2]
    refine Int.ofNat_le.mpr (ratio_mono (by decide) (by decide) ?_)
    rw [← q3, ← r3] at h
    have k := Int.ofNat_le.mp h
    unfold inUnits at k
    rw [Nat.mul_one, Nat.mul_one]
    obtain ⟨M, x1, x2⟩ : ∃ M : Nat, (e - b64.qmin).toNat = (e - e').toNat + M ∧ (e' - b64.qmin).toNat = (e' - e).toNat + M := ⟨(min e e' - b64.qmin).toNat, by omega, by omega⟩
    rw [x1, x2, Nat.pow_add, Nat.pow_add, ← Nat.mul_assoc, ← Nat.mul_assoc] at k
    exact Nat.le_of_mul_le_mul_right k (Nat.two_pow_pos _)
end Jvm.OwnFP
namespace Jvm.Pilot.@@N@@
open Jvm Jvm.ClassFile Sem Op Lib Jvm.Free Jvm.Stand Jvm.LawKit Jvm.RoadKit Bundle Jvm.Pilot.@@N@@.Jvm.D
def r4 (w_localMisses_a0 : Int64) (w_reads_a0 : Int64) : UInt64 := (FP.dsub FP.dconst1 (FP.ddiv (FP.l2d w_localMisses_a0) (FP.l2d w_reads_a0)))
def v0_4 (q0 : Int64) (q1 : Int64) (q2 : Int64) (q3 : Int64) (q4 : Int64) (p5 : Int32) : Int32 := (p5 &&& (3 : Int32))
def j0_92_l12 (q0 : Int64) (q1 : Int64) (q2 : Int64) (q3 : Int64) (q4 : Int64) (p5 : Int32) : Int64 := if ifCond.holds .ne (lcmpW (q2 &&& (9223372036854775807 : Int64)) (0 : Int64)) = true then (q2 &&& (9223372036854775807 : Int64)) else (1 : Int64)
def j0_63_l14 (q0 : Int64) (q1 : Int64) (q2 : Int64) (q3 : Int64) (q4 : Int64) (p5 : Int32) : Int64 := if ifCond.holds .ne (lcmpW (q2 &&& (4611686018427387903 : Int64)) (0 : Int64)) = true then (q2 &&& (4611686018427387903 : Int64)) else (1 : Int64)
def j0_48_l12 (q0 : Int64) (q1 : Int64) (q2 : Int64) (q3 : Int64) (q4 : Int64) (p5 : Int32) : Int64 := if if_icmp.holds .ne (v0_4 q0 q1 q2 q3 q4 p5) (3 : Int32) = true then (j0_92_l12 q0 q1 q2 q3 q4 p5) else ((j0_63_l14 q0 q1 q2 q3 q4 p5) * (2 : Int64))
def j0_48_l14 (q0 : Int64) (q1 : Int64) (q2 : Int64) (q3 : Int64) (q4 : Int64) (p5 : Int32) : Slot := if if_icmp.holds .ne (v0_4 q0 q1 q2 q3 q4 p5) (3 : Int32) = true then .unset else .val (.long (j0_63_l14 q0 q1 q2 q3 q4 p5))
def j0_48_l15 (q0 : Int64) (q1 : Int64) (q2 : Int64) (q3 : Int64) (q4 : Int64) (p5 : Int32) : Slot := if if_icmp.holds .ne (v0_4 q0 q1 q2 q3 q4 p5) (3 : Int32) = true then .unset else .second
def j0_29_l12 (q0 : Int64) (q1 : Int64) (q2 : Int64) (q3 : Int64) (q4 : Int64) (p5 : Int32) : Int64 := if if_icmp.holds .ne (v0_4 q0 q1 q2 q3 q4 p5) (2 : Int32) = true then (j0_48_l12 q0 q1 q2 q3 q4 p5) else ((q2 &&& (1073741823 : Int64)) + (1 : Int64))
def j0_29_l14 (q0 : Int64) (q1 : Int64) (q2 : Int64) (q3 : Int64) (q4 : Int64) (p5 : Int32) : Slot := if if_icmp.holds .ne (v0_4 q0 q1 q2 q3 q4 p5) (2 : Int32) = true then (j0_48_l14 q0 q1 q2 q3 q4 p5) else .unset
def j0_29_l15 (q0 : Int64) (q1 : Int64) (q2 : Int64) (q3 : Int64) (q4 : Int64) (p5 : Int32) : Slot := if if_icmp.holds .ne (v0_4 q0 q1 q2 q3 q4 p5) (2 : Int32) = true then (j0_48_l15 q0 q1 q2 q3 q4 p5) else .unset
def j0_9_l12 (q0 : Int64) (q1 : Int64) (q2 : Int64) (q3 : Int64) (q4 : Int64) (p5 : Int32) : Int64 := if if_icmp.holds .ne (v0_4 q0 q1 q2 q3 q4 p5) (1 : Int32) = true then (j0_29_l12 q0 q1 q2 q3 q4 p5) else ((1 : Int64) <<< ((((p5.toUInt32 >>> ((2 : Int32) &&& 31).toUInt32).toInt32) % (53 : Int32)) &&& 0x3f).toInt64)
def j0_9_l14 (q0 : Int64) (q1 : Int64) (q2 : Int64) (q3 : Int64) (q4 : Int64) (p5 : Int32) : Slot := if if_icmp.holds .ne (v0_4 q0 q1 q2 q3 q4 p5) (1 : Int32) = true then (j0_29_l14 q0 q1 q2 q3 q4 p5) else .unset
def j0_9_l15 (q0 : Int64) (q1 : Int64) (q2 : Int64) (q3 : Int64) (q4 : Int64) (p5 : Int32) : Slot := if if_icmp.holds .ne (v0_4 q0 q1 q2 q3 q4 p5) (1 : Int32) = true then (j0_29_l15 q0 q1 q2 q3 q4 p5) else .unset
def v0_109 (q0 : Int64) (q1 : Int64) (q2 : Int64) (q3 : Int64) (q4 : Int64) (p5 : Int32) : Int64 := ((q3 &&& (9223372036854775807 : Int64)) % ((j0_9_l12 q0 q1 q2 q3 q4 p5) + (1 : Int64)))
def v0_122 (q0 : Int64) (q1 : Int64) (q2 : Int64) (q3 : Int64) (q4 : Int64) (p5 : Int32) : Int64 := ((q4 &&& (9223372036854775807 : Int64)) % ((j0_9_l12 q0 q1 q2 q3 q4 p5) + (1 : Int64)))
def j0_127_l14 (q0 : Int64) (q1 : Int64) (q2 : Int64) (q3 : Int64) (q4 : Int64) (p5 : Int32) : Int64 := if if_icmp.holds .ne (v0_4 q0 q1 q2 q3 q4 p5) (3 : Int32) = true then (v0_109 q0 q1 q2 q3 q4 p5) else ((j0_9_l12 q0 q1 q2 q3 q4 p5) / (2 : Int64))
def v0_154 (q0 : Int64) (q1 : Int64) (q2 : Int64) (q3 : Int64) (q4 : Int64) (p5 : Int32) : UInt64 := (r4 (j0_127_l14 q0 q1 q2 q3 q4 p5) (j0_9_l12 q0 q1 q2 q3 q4 p5))
def v0_172 (q0 : Int64) (q1 : Int64) (q2 : Int64) (q3 : Int64) (q4 : Int64) (p5 : Int32) : UInt64 := (r4 (v0_122 q0 q1 q2 q3 q4 p5) (j0_9_l12 q0 q1 q2 q3 q4 p5))
def j0_199_s0 (q0 : Int64) (q1 : Int64) (q2 : Int64) (q3 : Int64) (q4 : Int64) (p5 : Int32) : Int32 := if ifCond.holds .gt (cmpValue (FP.dcmp (v0_172 q0 q1 q2 q3 q4 p5) FP.dconst1) .g) = true then (0 : Int32) else (1 : Int32)
def j0_192_s0 (q0 : Int64) (q1 : Int64) (q2 : Int64) (q3 : Int64) (q4 : Int64) (p5 : Int32) : Int32 := if ifCond.holds .gt (cmpValue (FP.dcmp FP.dconst0 (v0_172 q0 q1 q2 q3 q4 p5)) .g) = true then (0 : Int32) else (j0_199_s0 q0 q1 q2 q3 q4 p5)
def j0_185_s0 (q0 : Int64) (q1 : Int64) (q2 : Int64) (q3 : Int64) (q4 : Int64) (p5 : Int32) : Int32 := if ifCond.holds .gt (cmpValue (FP.dcmp (v0_154 q0 q1 q2 q3 q4 p5) FP.dconst1) .g) = true then (0 : Int32) else (j0_192_s0 q0 q1 q2 q3 q4 p5)
def j0_178_s0 (q0 : Int64) (q1 : Int64) (q2 : Int64) (q3 : Int64) (q4 : Int64) (p5 : Int32) : Int32 := if ifCond.holds .gt (cmpValue (FP.dcmp FP.dconst0 (v0_154 q0 q1 q2 q3 q4 p5)) .g) = true then (0 : Int32) else (j0_185_s0 q0 q1 q2 q3 q4 p5)
def j0_225_s0 (q0 : Int64) (q1 : Int64) (q2 : Int64) (q3 : Int64) (q4 : Int64) (p5 : Int32) : Int32 := if ifCond.holds .ne (cmpValue (FP.dcmp (v0_154 q0 q1 q2 q3 q4 p5) FP.dconst1) .l) = true then (0 : Int32) else (1 : Int32)
def j0_218_s0 (q0 : Int64) (q1 : Int64) (q2 : Int64) (q3 : Int64) (q4 : Int64) (p5 : Int32) : Int32 := if ifCond.holds .eq (j0_178_s0 q0 q1 q2 q3 q4 p5) = true then (0 : Int32) else (j0_225_s0 q0 q1 q2 q3 q4 p5)
def j0_213_l22 (q0 : Int64) (q1 : Int64) (q2 : Int64) (q3 : Int64) (q4 : Int64) (p5 : Int32) : Int32 := if ifCond.holds .ne (lcmpW (j0_127_l14 q0 q1 q2 q3 q4 p5) (0 : Int64)) = true then (j0_178_s0 q0 q1 q2 q3 q4 p5) else (j0_218_s0 q0 q1 q2 q3 q4 p5)
def j0_251_s0 (q0 : Int64) (q1 : Int64) (q2 : Int64) (q3 : Int64) (q4 : Int64) (p5 : Int32) : Int32 := if ifCond.holds .ne (cmpValue (FP.dcmp (v0_172 q0 q1 q2 q3 q4 p5) FP.dconst1) .l) = true then (0 : Int32) else (1 : Int32)
def j0_244_s0 (q0 : Int64) (q1 : Int64) (q2 : Int64) (q3 : Int64) (q4 : Int64) (p5 : Int32) : Int32 := if ifCond.holds .eq (j0_213_l22 q0 q1 q2 q3 q4 p5) = true then (0 : Int32) else (j0_251_s0 q0 q1 q2 q3 q4 p5)
def j0_239_l22 (q0 : Int64) (q1 : Int64) (q2 : Int64) (q3 : Int64) (q4 : Int64) (p5 : Int32) : Int32 := if ifCond.holds .ne (lcmpW (v0_122 q0 q1 q2 q3 q4 p5) (0 : Int64)) = true then (j0_213_l22 q0 q1 q2 q3 q4 p5) else (j0_244_s0 q0 q1 q2 q3 q4 p5)
def j0_278_s0 (q0 : Int64) (q1 : Int64) (q2 : Int64) (q3 : Int64) (q4 : Int64) (p5 : Int32) : Int32 := if ifCond.holds .ne (cmpValue (FP.dcmp (v0_154 q0 q1 q2 q3 q4 p5) FP.dconst0) .l) = true then (0 : Int32) else (1 : Int32)
def j0_271_s0 (q0 : Int64) (q1 : Int64) (q2 : Int64) (q3 : Int64) (q4 : Int64) (p5 : Int32) : Int32 := if ifCond.holds .eq (j0_239_l22 q0 q1 q2 q3 q4 p5) = true then (0 : Int32) else (j0_278_s0 q0 q1 q2 q3 q4 p5)
def j0_266_l22 (q0 : Int64) (q1 : Int64) (q2 : Int64) (q3 : Int64) (q4 : Int64) (p5 : Int32) : Int32 := if ifCond.holds .ne (lcmpW (j0_127_l14 q0 q1 q2 q3 q4 p5) (j0_9_l12 q0 q1 q2 q3 q4 p5)) = true then (j0_239_l22 q0 q1 q2 q3 q4 p5) else (j0_271_s0 q0 q1 q2 q3 q4 p5)
def j0_305_s0 (q0 : Int64) (q1 : Int64) (q2 : Int64) (q3 : Int64) (q4 : Int64) (p5 : Int32) : Int32 := if ifCond.holds .ne (cmpValue (FP.dcmp (v0_172 q0 q1 q2 q3 q4 p5) FP.dconst0) .l) = true then (0 : Int32) else (1 : Int32)
def j0_298_s0 (q0 : Int64) (q1 : Int64) (q2 : Int64) (q3 : Int64) (q4 : Int64) (p5 : Int32) : Int32 := if ifCond.holds .eq (j0_266_l22 q0 q1 q2 q3 q4 p5) = true then (0 : Int32) else (j0_305_s0 q0 q1 q2 q3 q4 p5)
def j0_293_l22 (q0 : Int64) (q1 : Int64) (q2 : Int64) (q3 : Int64) (q4 : Int64) (p5 : Int32) : Int32 := if ifCond.holds .ne (lcmpW (v0_122 q0 q1 q2 q3 q4 p5) (j0_9_l12 q0 q1 q2 q3 q4 p5)) = true then (j0_266_l22 q0 q1 q2 q3 q4 p5) else (j0_298_s0 q0 q1 q2 q3 q4 p5)
def j0_338_s0 (q0 : Int64) (q1 : Int64) (q2 : Int64) (q3 : Int64) (q4 : Int64) (p5 : Int32) : Int32 := if ifCond.holds .ne (cmpValue (FP.dcmp (v0_154 q0 q1 q2 q3 q4 p5) (4602678819172646912 : UInt64)) .l) = true then (0 : Int32) else (1 : Int32)
def j0_329_s0 (q0 : Int64) (q1 : Int64) (q2 : Int64) (q3 : Int64) (q4 : Int64) (p5 : Int32) : Int32 := if ifCond.holds .eq (j0_293_l22 q0 q1 q2 q3 q4 p5) = true then (0 : Int32) else (j0_338_s0 q0 q1 q2 q3 q4 p5)
def j0_324_l22 (q0 : Int64) (q1 : Int64) (q2 : Int64) (q3 : Int64) (q4 : Int64) (p5 : Int32) : Int32 := if ifCond.holds .ne (lcmpW ((j0_127_l14 q0 q1 q2 q3 q4 p5) * (2 : Int64)) (j0_9_l12 q0 q1 q2 q3 q4 p5)) = true then (j0_293_l22 q0 q1 q2 q3 q4 p5) else (j0_329_s0 q0 q1 q2 q3 q4 p5)
def j0_366_s0 (q0 : Int64) (q1 : Int64) (q2 : Int64) (q3 : Int64) (q4 : Int64) (p5 : Int32) : Int32 := if ifCond.holds .lt (cmpValue (FP.dcmp (v0_154 q0 q1 q2 q3 q4 p5) (v0_172 q0 q1 q2 q3 q4 p5)) .l) = true then (0 : Int32) else (1 : Int32)
def j0_358_s0 (q0 : Int64) (q1 : Int64) (q2 : Int64) (q3 : Int64) (q4 : Int64) (p5 : Int32) : Int32 := if ifCond.holds .eq (j0_324_l22 q0 q1 q2 q3 q4 p5) = true then (0 : Int32) else (j0_366_s0 q0 q1 q2 q3 q4 p5)
def j0_395_s0 (q0 : Int64) (q1 : Int64) (q2 : Int64) (q3 : Int64) (q4 : Int64) (p5 : Int32) : Int32 := if ifCond.holds .le (cmpValue (FP.dcmp (v0_154 q0 q1 q2 q3 q4 p5) (v0_172 q0 q1 q2 q3 q4 p5)) .l) = true then (0 : Int32) else (1 : Int32)
def j0_387_s0 (q0 : Int64) (q1 : Int64) (q2 : Int64) (q3 : Int64) (q4 : Int64) (p5 : Int32) : Int32 := if ifCond.holds .eq (j0_358_s0 q0 q1 q2 q3 q4 p5) = true then (0 : Int32) else (j0_395_s0 q0 q1 q2 q3 q4 p5)
def j0_382_l22 (q0 : Int64) (q1 : Int64) (q2 : Int64) (q3 : Int64) (q4 : Int64) (p5 : Int32) : Int32 := if ifCond.holds .gt (lcmpW (j0_9_l12 q0 q1 q2 q3 q4 p5) (1073741824 : Int64)) = true then (j0_358_s0 q0 q1 q2 q3 q4 p5) else (j0_387_s0 q0 q1 q2 q3 q4 p5)
def j0_353_l22 (q0 : Int64) (q1 : Int64) (q2 : Int64) (q3 : Int64) (q4 : Int64) (p5 : Int32) : Int32 := if ifCond.holds .ge (lcmpW (j0_127_l14 q0 q1 q2 q3 q4 p5) (v0_122 q0 q1 q2 q3 q4 p5)) = true then (j0_324_l22 q0 q1 q2 q3 q4 p5) else (j0_382_l22 q0 q1 q2 q3 q4 p5)
def j0_423_s0 (q0 : Int64) (q1 : Int64) (q2 : Int64) (q3 : Int64) (q4 : Int64) (p5 : Int32) : Int32 := if ifCond.holds .lt (cmpValue (FP.dcmp (v0_172 q0 q1 q2 q3 q4 p5) (v0_154 q0 q1 q2 q3 q4 p5)) .l) = true then (0 : Int32) else (1 : Int32)
def j0_415_s0 (q0 : Int64) (q1 : Int64) (q2 : Int64) (q3 : Int64) (q4 : Int64) (p5 : Int32) : Int32 := if ifCond.holds .eq (j0_353_l22 q0 q1 q2 q3 q4 p5) = true then (0 : Int32) else (j0_423_s0 q0 q1 q2 q3 q4 p5)
def j0_452_s0 (q0 : Int64) (q1 : Int64) (q2 : Int64) (q3 : Int64) (q4 : Int64) (p5 : Int32) : Int32 := if ifCond.holds .le (cmpValue (FP.dcmp (v0_172 q0 q1 q2 q3 q4 p5) (v0_154 q0 q1 q2 q3 q4 p5)) .l) = true then (0 : Int32) else (1 : Int32)
def j0_444_s0 (q0 : Int64) (q1 : Int64) (q2 : Int64) (q3 : Int64) (q4 : Int64) (p5 : Int32) : Int32 := if ifCond.holds .eq (j0_415_s0 q0 q1 q2 q3 q4 p5) = true then (0 : Int32) else (j0_452_s0 q0 q1 q2 q3 q4 p5)
def j0_439_l22 (q0 : Int64) (q1 : Int64) (q2 : Int64) (q3 : Int64) (q4 : Int64) (p5 : Int32) : Int32 := if ifCond.holds .gt (lcmpW (j0_9_l12 q0 q1 q2 q3 q4 p5) (1073741824 : Int64)) = true then (j0_415_s0 q0 q1 q2 q3 q4 p5) else (j0_444_s0 q0 q1 q2 q3 q4 p5)
def j0_410_l22 (q0 : Int64) (q1 : Int64) (q2 : Int64) (q3 : Int64) (q4 : Int64) (p5 : Int32) : Int32 := if ifCond.holds .ge (lcmpW (v0_122 q0 q1 q2 q3 q4 p5) (j0_127_l14 q0 q1 q2 q3 q4 p5)) = true then (j0_353_l22 q0 q1 q2 q3 q4 p5) else (j0_439_l22 q0 q1 q2 q3 q4 p5)
def j0_486_s0 (q0 : Int64) (q1 : Int64) (q2 : Int64) (q3 : Int64) (q4 : Int64) (p5 : Int32) : Int32 := if ifCond.holds .ne (cmpValue (FP.dcmp (v0_154 q0 q1 q2 q3 q4 p5) (FP.ddiv (FP.l2d ((j0_9_l12 q0 q1 q2 q3 q4 p5) - (j0_127_l14 q0 q1 q2 q3 q4 p5))) (FP.l2d (j0_9_l12 q0 q1 q2 q3 q4 p5)))) .l) = true then (0 : Int32) else (1 : Int32)
def j0_470_s0 (q0 : Int64) (q1 : Int64) (q2 : Int64) (q3 : Int64) (q4 : Int64) (p5 : Int32) : Int32 := if ifCond.holds .eq (j0_410_l22 q0 q1 q2 q3 q4 p5) = true then (0 : Int32) else (j0_486_s0 q0 q1 q2 q3 q4 p5)
def j0_514_s0 (q0 : Int64) (q1 : Int64) (q2 : Int64) (q3 : Int64) (q4 : Int64) (p5 : Int32) : Int32 := if ifCond.holds .ne (cmpValue (FP.dcmp (v0_172 q0 q1 q2 q3 q4 p5) (FP.ddiv (FP.l2d ((j0_9_l12 q0 q1 q2 q3 q4 p5) - (v0_122 q0 q1 q2 q3 q4 p5))) (FP.l2d (j0_9_l12 q0 q1 q2 q3 q4 p5)))) .l) = true then (0 : Int32) else (1 : Int32)
def j0_498_s0 (q0 : Int64) (q1 : Int64) (q2 : Int64) (q3 : Int64) (q4 : Int64) (p5 : Int32) : Int32 := if ifCond.holds .eq (j0_470_s0 q0 q1 q2 q3 q4 p5) = true then (0 : Int32) else (j0_514_s0 q0 q1 q2 q3 q4 p5)
def j0_465_l22 (q0 : Int64) (q1 : Int64) (q2 : Int64) (q3 : Int64) (q4 : Int64) (p5 : Int32) : Int32 := if if_icmp.holds .ne (v0_4 q0 q1 q2 q3 q4 p5) (1 : Int32) = true then (j0_410_l22 q0 q1 q2 q3 q4 p5) else (j0_498_s0 q0 q1 q2 q3 q4 p5)
section Own
open Jvm.OwnFP Jvm.FP.Core
theorem own_pos63 (x : Int64) : 0 ≤ (x &&& (9223372036854775807 : Int64)).toInt := by
  rw [Jvm.Kit.i64_mask x 9223372036854775807 (k := 63) (by decide) (by decide)]; omega
/-- the ratio: 1 - a / r -/
theorem own_hit {a r : Int64} (h0 : 0 ≤ a.toInt) (h : a.toInt ≤ r.toInt) (hr : 1 ≤ r.toInt) : Jvm.Free.Fl.NoNaN64 (r4 a r) ∧ 0 ≤ zv (r4 a r) ∧ zv (r4 a r) ≤ O := by
  have f := frac h0 h hr
  have d1 : DFin FP.dconst1 := (fin_bits _).mpr (by decide +kernel)
  have e1 := zv_d1
  refine ⟨nn_sub d1 f.2.1, sub_ge d1 f.2.1 rep_zero (by omega), ?_⟩
  have := sub_le (z := 1 * O) d1 f.2.1 (rep_int (by decide)) (by omega)
  unfold r4; omega
theorem own_one : DFin FP.dconst1 := (fin_bits _).mpr (by decide +kernel)
theorem own_hit0 {a r : Int64} (h0 : a.toInt = 0) (hr : 1 ≤ r.toInt) : zv (r4 a r) = O := by
  have f := frac (a := a) (n := r) (by omega) (by omega) hr
  have := sub_eq (z := 1 * O) own_one f.2.1 (rep_int (by decide)) (by rw [zv_d1, frac_zero h0 hr]; omega)
  unfold r4; omega
theorem own_hit1 {a r : Int64} (h : a.toInt = r.toInt) (hr : 1 ≤ r.toInt) : zv (r4 a r) = 0 := by
  have f := frac (a := a) (n := r) (by omega) (by omega) hr
  exact sub_eq (z := 0) own_one f.2.1 rep_zero (by rw [zv_d1, frac_one h hr]; omega)
theorem own_hith {a r : Int64} (h : 2 * a.toInt = r.toInt) (hr : 1 ≤ r.toInt) : 2 * zv (r4 a r) = O := by
  have f := frac (a := a) (n := r) (by omega) (by omega) hr
  have g := frac_half h hr
  have := sub_eq own_one f.2.1 (rep_zv (nn_ne f.1)) (by rw [zv_d1]; omega)
  unfold r4; omega
theorem own_mono {a b r : Int64} (h0 : 0 ≤ a.toInt) (hab : a.toInt ≤ b.toInt) (h : b.toInt ≤ r.toInt) (hr : 1 ≤ r.toInt) : zv (r4 b r) ≤ zv (r4 a r) := by
  have fa := frac (a := a) (n := r) h0 (by omega) hr
  have fb := frac (a := b) (n := r) (by omega) h hr
  have hp : 0 < zv (FP.l2d r) := by have := l2d_pos hr; have := O_pos; omega
  have hm := div_mono (l2dF a) (l2dF b) (l2dF r) hp (l2d_nonneg h0) (l2d_mono h0 hab)
  have e1 := zv_d1
  exact sub_mono own_one fb.2.1 own_one fa.2.1 (by omega) (by omega)
theorem own_strict {a b r : Int64} (h0 : 0 ≤ a.toInt) (hab : a.toInt < b.toInt) (h : b.toInt ≤ r.toInt) (hr : 1 ≤ r.toInt) (hs : r.toInt ≤ 1073741824) : zv (r4 b r) < zv (r4 a r) := by
  have fa := frac (a := a) (n := r) h0 (by omega) hr
  have fb := frac (a := b) (n := r) (by omega) h hr
  have ea := l2d_eq (n := a) (by omega)
  have eb := l2d_eq (n := b) (by omega)
  have er := l2d_eq (n := r) (by omega)
  have hO := O_pos
  have hP := P_pos 33
  have hPO : 8589934592 * P 33 = O := P_O (k := 33) (by decide)
  have hp : 0 < zv (FP.l2d r) := by rw [er]; exact Int.mul_pos (by omega) hO
  -- the grid of 2^-33
  obtain ⟨n, n1, n2⟩ : ∃ n : Int, a.toInt * 8589934592 ≤ n * r.toInt ∧ n * r.toInt ≤ a.toInt * 8589934592 + r.toInt - 1 := by
    refine ⟨(a.toInt * 8589934592 + r.toInt - 1) / r.toInt, ?_, ?_⟩
    · have := Int.lt_ediv_add_one_mul_self (a.toInt * 8589934592 + r.toInt - 1) (b := r.toInt) (by omega)
      rw [Int.add_mul, Int.one_mul] at this; omega
    · exact Int.ediv_mul_le _ (by omega)
  have n3 : 0 ≤ n := by
    refine Int.not_lt.mp fun hn => ?_
    have : n * r.toInt ≤ -1 * r.toInt := Int.mul_le_mul_of_nonneg_right (by omega) (by omega)
    omega
  have n4 : n ≤ 8589934592 := by
    refine Int.not_lt.mp fun hn => ?_
    have : 8589934593 * r.toInt ≤ n * r.toInt := Int.mul_le_mul_of_nonneg_right (by omega) (by omega)
    omega
  have u1 := div_le (z := n * P 33) (l2dF a) (l2dF r) hp (rep_P 33 (by omega)) (by
    rw [ea, er, ← Int.mul_assoc]
    refine Int.mul_le_mul_of_nonneg_right ?_ (Int.le_of_lt hO)
    rw [← hPO, ← Int.mul_assoc, Int.mul_right_comm n]
    exact Int.mul_le_mul_of_nonneg_right n1 (Int.le_of_lt hP))
  have u2 := div_ge (z := (n + 1) * P 33) (l2dF b) (l2dF r) hp (rep_P 33 (by omega)) (by
    rw [eb, er, ← Int.mul_assoc]
    refine Int.mul_le_mul_of_nonneg_right ?_ (Int.le_of_lt hO)
    rw [← hPO, ← Int.mul_assoc, Int.mul_right_comm (n + 1)]
    refine Int.mul_le_mul_of_nonneg_right ?_ (Int.le_of_lt hP)
    rw [Int.add_mul, Int.one_mul]; omega)
  have e1 := zv_d1
  have v1 := sub_ge (z := (8589934592 - n) * P 33) own_one fa.2.1 (rep_P 33 (by omega)) (by rw [Int.sub_mul]; omega)
  have v2 := sub_le (z := (8589934592 - (n + 1)) * P 33) own_one fb.2.1 (rep_P 33 (by omega)) (by rw [Int.sub_mul]; omega)
  unfold r4
  rw [Int.sub_mul] at v1 v2
  rw [Int.add_mul] at v2
  omega
theorem own_pow {a r : Int64} {j : Nat} (hj : j ≤ 52) (h0 : 0 ≤ a.toInt) (h : a.toInt ≤ r.toInt) (hr : r.toInt = ((2 ^ j : Nat) : Int)) : zv (r4 a r) = (r.toInt - a.toInt) * P j := by
  have hb : (2 ^ j : Nat) ≤ 4503599627370496 := show 2 ^ j ≤ 2 ^ 52 from Nat.pow_le_pow_right (by decide) hj
  have hb1 : 1 ≤ (2 ^ j : Nat) := Nat.two_pow_pos j
  have f := frac h0 h (by omega)
  have er := l2d_eq (n := r) (by omega)
  rw [hr] at er
  have u1 := q_le (x := a) (k := j) (by omega) (l2dF r) er (m := a.toInt) (by omega) (Int.le_refl _)
  have u2 := q_ge (x := a) (k := j) (by omega) (l2dF r) er (m := a.toInt) (by omega) (Int.le_refl _)
  refine sub_eq own_one f.2.1 (rep_P j (by omega)) ?_
  rw [zv_d1, Int.le_antisymm u1 u2, Int.sub_mul, hr, P_O (by omega)]
theorem own_powd {a r : Int64} {j : Nat} (hj : j ≤ 52) (h0 : 0 ≤ a.toInt) (h : a.toInt ≤ r.toInt) (hr : r.toInt = ((2 ^ j : Nat) : Int)) : (r - a).toInt = r.toInt - a.toInt ∧ zv (FP.ddiv (FP.l2d (r - a)) (FP.l2d r)) = (r.toInt - a.toInt) * P j := by
  have hb : (2 ^ j : Nat) ≤ 4503599627370496 := show 2 ^ j ≤ 2 ^ 52 from Nat.pow_le_pow_right (by decide) hj
  have er := l2d_eq (n := r) (by omega)
  rw [hr] at er
  have e : (r - a).toInt = r.toInt - a.toInt := Jvm.Kit.i64_sub (by omega) (by omega)
  have u1 := q_le (x := r - a) (k := j) (by omega) (l2dF r) er (m := r.toInt - a.toInt) (by omega) (by omega)
  have u2 := q_ge (x := r - a) (k := j) (by omega) (l2dF r) er (m := r.toInt - a.toInt) (by omega) (by omega)
  exact ⟨e, Int.le_antisymm u1 u2⟩
theorem own_sh53 : ∀ i : Fin 53, ((1 : Int64) <<< ((Int32.ofNat i.1) &&& 0x3f).toInt64).toInt = ((2 ^ i.1 : Nat) : Int) := by decide
theorem own_ushr (p : Int32) : 0 ≤ ((p.toUInt32 >>> ((2 : Int32) &&& 31).toUInt32).toInt32).toInt := by
  rw [show ((2 : Int32) &&& 31).toUInt32 = (2 : UInt32) by decide]
  have h1 : (p.toUInt32 >>> (2 : UInt32)).toNat = p.toUInt32.toNat / 2 ^ 2 := by
    rw [UInt32.toNat_shiftRight, Nat.shiftRight_eq_div_pow]; rfl
  have h2 := p.toUInt32.toNat_lt
  generalize p.toUInt32 >>> (2 : UInt32) = u at *
  have h4 : u.toInt32.toInt = (u.toNat : Int) := by
    show u.toBitVec.toInt = _
    rw [BitVec.toInt_eq_toNat_of_lt]
    · rfl
    · show 2 * u.toNat < 2 ^ 32; omega
  rw [h4]; omega
theorem own_one_shl (p : Int32) : ∃ j : Nat, j ≤ 52 ∧ ((1 : Int64) <<< ((((p.toUInt32 >>> ((2 : Int32) &&& 31).toUInt32).toInt32) % (53 : Int32)) &&& 0x3f).toInt64).toInt = ((2 ^ j : Nat) : Int) := by
  have h := own_ushr p
  generalize ((p.toUInt32 >>> ((2 : Int32) &&& 31).toUInt32).toInt32) = u at *
  have e : (u % (53 : Int32)).toInt = u.toInt % 53 := Jvm.Kit.i32_rem_nonneg h
  generalize u % (53 : Int32) = w at *
  have hw : w = Int32.ofNat w.toInt.toNat := Int32.toInt_inj.mp (by rw [Int32.toInt_ofNat_small (by omega)]; omega)
  have hs := own_sh53 ⟨w.toInt.toNat, by omega⟩
  rw [← hw] at hs
  exact ⟨w.toInt.toNat, by omega, hs⟩
section V
variable (q0 q1 q2 q3 q4 : Int64) (p5 : Int32)
theorem own_R : 1 ≤ (j0_9_l12 q0 q1 q2 q3 q4 p5).toInt := by
  unfold j0_9_l12
  split
  · unfold j0_29_l12
    split
    · unfold j0_48_l12
      split
      · unfold j0_92_l12
        rw [lw]
        dsimp only
        have := own_pos63 q2
        split
        · rename_i h; simp only [decide_eq_true_eq, show (0 : Int64).toInt = 0 by decide] at h; omega
        · decide
      · have hm := Jvm.Kit.i64_mask q2 4611686018427387903 (k := 62) (by decide) (by decide)
        have hh : 1 ≤ (j0_63_l14 q0 q1 q2 q3 q4 p5).toInt ∧ (j0_63_l14 q0 q1 q2 q3 q4 p5).toInt ≤ 4611686018427387903 := by
          unfold j0_63_l14
          rw [lw]
          dsimp only
          split
          · rename_i h; simp only [decide_eq_true_eq, show (0 : Int64).toInt = 0 by decide] at h; omega
          · decide
        rw [Jvm.Kit.i64_mul] <;> rw [show (2 : Int64).toInt = 2 by decide] <;> omega
    · have hm := Jvm.Kit.i64_mask q2 1073741823 (k := 30) (by decide) (by decide)
      rw [Jvm.Kit.i64_add] <;> rw [show (1 : Int64).toInt = 1 by decide] <;> omega
  · obtain ⟨j, -, h⟩ := own_one_shl p5
    have := Nat.two_pow_pos j
    rw [h]; omega
theorem own_z108 : ((j0_9_l12 q0 q1 q2 q3 q4 p5) + (1 : Int64)) ≠ (0 : Int64) := fun h => by
  have h1 := own_R q0 q1 q2 q3 q4 p5
  have h2 := Int64.toInt_lt (j0_9_l12 q0 q1 q2 q3 q4 p5)
  have h3 : ((j0_9_l12 q0 q1 q2 q3 q4 p5) + (1 : Int64)).toInt = 0 := by rw [h]; decide
  rw [Int64.toInt_add, show (1 : Int64).toInt = 1 by decide, Int.bmod_def] at h3
  split at h3 <;> omega
theorem own_rem {x r : Int64} (hx : 0 ≤ x.toInt) (hr : 1 ≤ r.toInt) : 0 ≤ (x % (r + (1 : Int64))).toInt ∧ (x % (r + (1 : Int64))).toInt ≤ r.toInt := by
  have b1 := Int64.toInt_lt r; have b2 := Int64.toInt_lt x
  rw [Int64.toInt_mod]
  by_cases h : r.toInt = 9223372036854775807
  · have e : (r + (1 : Int64)).toInt = -9223372036854775808 := by
      have : r = 9223372036854775807 := Int64.toInt_inj.mp (by rw [h]; decide)
      rw [this]; decide
    rw [e, Int.tmod_eq_emod_of_nonneg hx, Int.emod_neg, Int.emod_eq_of_lt hx (by omega)]
    omega
  · have e : (r + (1 : Int64)).toInt = r.toInt + 1 := by
      rw [Jvm.Kit.i64_add] <;> rw [show (1 : Int64).toInt = 1 by decide] <;> omega
    rw [e, Int.tmod_eq_emod_of_nonneg hx]
    have g1 := Int.emod_nonneg x.toInt (b := r.toInt + 1) (by omega)
    have g2 := Int.emod_lt_of_pos x.toInt (b := r.toInt + 1) (by omega)
    omega
theorem own_a : 0 ≤ (j0_127_l14 q0 q1 q2 q3 q4 p5).toInt ∧ (j0_127_l14 q0 q1 q2 q3 q4 p5).toInt ≤ (j0_9_l12 q0 q1 q2 q3 q4 p5).toInt := by
  have hR := own_R q0 q1 q2 q3 q4 p5
  unfold j0_127_l14
  split
  · exact own_rem (own_pos63 q3) hR
  · rw [Jvm.Kit.i64_div (by intro h; exact absurd h.2 (by decide)), show (2 : Int64).toInt = 2 by decide, Int.tdiv_eq_ediv_of_nonneg (by omega)]; omega
theorem own_b : 0 ≤ (v0_122 q0 q1 q2 q3 q4 p5).toInt ∧ (v0_122 q0 q1 q2 q3 q4 p5).toInt ≤ (j0_9_l12 q0 q1 q2 q3 q4 p5).toInt := own_rem (own_pos63 q4) (own_R q0 q1 q2 q3 q4 p5)
theorem own_s109 : (Jvm.Free.Fl.Plain1 (j0_9_l14 q0 q1 q2 q3 q4 p5) ∧ Jvm.Free.Fl.Plain1 (j0_9_l15 q0 q1 q2 q3 q4 p5)) ∨ ((∃ old, (j0_9_l14 q0 q1 q2 q3 q4 p5) = .val old ∧ old.category = 2) ∧ (j0_9_l15 q0 q1 q2 q3 q4 p5) = .second) := by
  unfold j0_9_l14 j0_9_l15
  split
  · unfold j0_29_l14 j0_29_l15
    split
    · unfold j0_48_l14 j0_48_l15
      split
      · exact Or.inl ⟨trivial, trivial⟩
      · exact Or.inr ⟨⟨_, rfl, rfl⟩, rfl⟩
    · exact Or.inl ⟨trivial, trivial⟩
  · exact Or.inl ⟨trivial, trivial⟩
theorem own_fa : type_of% (frac (own_a q0 q1 q2 q3 q4 p5).1 (own_a q0 q1 q2 q3 q4 p5).2 (own_R q0 q1 q2 q3 q4 p5)) := frac (own_a q0 q1 q2 q3 q4 p5).1 (own_a q0 q1 q2 q3 q4 p5).2 (own_R q0 q1 q2 q3 q4 p5)
theorem own_fb : type_of% (frac (own_b q0 q1 q2 q3 q4 p5).1 (own_b q0 q1 q2 q3 q4 p5).2 (own_R q0 q1 q2 q3 q4 p5)) := frac (own_b q0 q1 q2 q3 q4 p5).1 (own_b q0 q1 q2 q3 q4 p5).2 (own_R q0 q1 q2 q3 q4 p5)
theorem own_n151 : type_of% ((own_fa q0 q1 q2 q3 q4 p5).1) := (own_fa q0 q1 q2 q3 q4 p5).1
theorem own_n169 : type_of% ((own_fb q0 q1 q2 q3 q4 p5).1) := (own_fb q0 q1 q2 q3 q4 p5).1
theorem own_m151 : Jvm.Free.Fl.NoNaN64 (FP.dsub FP.dconst1 (FP.ddiv (FP.l2d (j0_127_l14 q0 q1 q2 q3 q4 p5)) (FP.l2d (j0_9_l12 q0 q1 q2 q3 q4 p5)))) := nn_sub own_one (own_fa q0 q1 q2 q3 q4 p5).2.1
theorem own_m169 : Jvm.Free.Fl.NoNaN64 (FP.dsub FP.dconst1 (FP.ddiv (FP.l2d (v0_122 q0 q1 q2 q3 q4 p5)) (FP.l2d (j0_9_l12 q0 q1 q2 q3 q4 p5)))) := nn_sub own_one (own_fb q0 q1 q2 q3 q4 p5).2.1
theorem own_nd (y : Int64) : Jvm.Free.Fl.NoNaN64 (FP.ddiv (FP.l2d y) (FP.l2d (j0_9_l12 q0 q1 q2 q3 q4 p5))) := by
  have hR := own_R q0 q1 q2 q3 q4 p5
  exact nn_div (l2dF _) (l2dF _) (Int.ne_of_gt (by have := l2d_pos hR; have := O_pos; omega))
theorem own_n484 : Jvm.Free.Fl.NoNaN64 (FP.ddiv (FP.l2d ((j0_9_l12 q0 q1 q2 q3 q4 p5) - (j0_127_l14 q0 q1 q2 q3 q4 p5))) (FP.l2d (j0_9_l12 q0 q1 q2 q3 q4 p5))) := own_nd q0 q1 q2 q3 q4 p5 _
theorem own_n512 : Jvm.Free.Fl.NoNaN64 (FP.ddiv (FP.l2d ((j0_9_l12 q0 q1 q2 q3 q4 p5) - (v0_122 q0 q1 q2 q3 q4 p5))) (FP.l2d (j0_9_l12 q0 q1 q2 q3 q4 p5))) := own_nd q0 q1 q2 q3 q4 p5 _
theorem own_x : Jvm.Free.Fl.NoNaN64 (v0_154 q0 q1 q2 q3 q4 p5) ∧ 0 ≤ zv (v0_154 q0 q1 q2 q3 q4 p5) ∧ zv (v0_154 q0 q1 q2 q3 q4 p5) ≤ O := own_hit (own_a q0 q1 q2 q3 q4 p5).1 (own_a q0 q1 q2 q3 q4 p5).2 (own_R q0 q1 q2 q3 q4 p5)
theorem own_y : Jvm.Free.Fl.NoNaN64 (v0_172 q0 q1 q2 q3 q4 p5) ∧ 0 ≤ zv (v0_172 q0 q1 q2 q3 q4 p5) ∧ zv (v0_172 q0 q1 q2 q3 q4 p5) ≤ O := own_hit (own_b q0 q1 q2 q3 q4 p5).1 (own_b q0 q1 q2 q3 q4 p5).2 (own_R q0 q1 q2 q3 q4 p5)
/-- 2 * a == r, also where the product wraps -/
theorem own_two (h : ((j0_127_l14 q0 q1 q2 q3 q4 p5) * (2 : Int64)).toInt = (j0_9_l12 q0 q1 q2 q3 q4 p5).toInt) : 2 * (j0_127_l14 q0 q1 q2 q3 q4 p5).toInt = (j0_9_l12 q0 q1 q2 q3 q4 p5).toInt := by
  have ha := own_a q0 q1 q2 q3 q4 p5; have hn := own_R q0 q1 q2 q3 q4 p5
  have b := Int64.toInt_lt (j0_9_l12 q0 q1 q2 q3 q4 p5)
  rw [Int64.toInt_mul, show (2 : Int64).toInt = 2 by decide, Int.bmod_def] at h
  split at h <;> omega
abbrev own_half : UInt64 := 4602678819172646912
theorem own_halfN : Jvm.Free.Fl.NoNaN64 own_half := by unfold Jvm.Free.Fl.NoNaN64; decide
theorem own_halfZ : 2 * zv own_half = O := by decide +kernel
theorem own_178 : j0_178_s0 q0 q1 q2 q3 q4 p5 = 1 := by
  have fa := own_x q0 q1 q2 q3 q4 p5; have fb := own_y q0 q1 q2 q3 q4 p5
  have a1 := if_gt nn_d0 fa.1 .g; have a2 := if_gt fa.1 nn_d1 .g
  have b1 := if_gt nn_d0 fb.1 .g; have b2 := if_gt fb.1 nn_d1 .g
  rw [zv_d0] at a1 b1; rw [zv_d1] at a2 b2
  unfold j0_178_s0 j0_185_s0 j0_192_s0 j0_199_s0
  rw [a1, a2, b1, b2]
  rw [if_neg (by simp only [decide_eq_true_eq]; omega), if_neg (by simp only [decide_eq_true_eq]; omega), if_neg (by simp only [decide_eq_true_eq]; omega), if_neg (by simp only [decide_eq_true_eq]; omega)]
theorem own_213 : j0_213_l22 q0 q1 q2 q3 q4 p5 = 1 := by
  have fa := own_x q0 q1 q2 q3 q4 p5; have h := own_178 q0 q1 q2 q3 q4 p5; have hn := own_R q0 q1 q2 q3 q4 p5
  unfold j0_213_l22
  rw [lw, h]
  by_cases hc : (j0_127_l14 q0 q1 q2 q3 q4 p5).toInt = (0 : Int64).toInt
  · rw [if_neg (by simp [hc])]
    have hz : zv (v0_154 q0 q1 q2 q3 q4 p5) = O := own_hit0 (by rw [hc]; decide) hn
    unfold j0_218_s0 j0_225_s0
    rw [h, if_ne fa.1 nn_d1 .l, zv_d1, hz, if_neg (by decide), if_neg (by simp)]
  · rw [if_pos (by simpa using hc)]
theorem own_239 : j0_239_l22 q0 q1 q2 q3 q4 p5 = 1 := by
  have fa := own_y q0 q1 q2 q3 q4 p5; have h := own_213 q0 q1 q2 q3 q4 p5; have hn := own_R q0 q1 q2 q3 q4 p5
  unfold j0_239_l22
  rw [lw, h]
  by_cases hc : (v0_122 q0 q1 q2 q3 q4 p5).toInt = (0 : Int64).toInt
  · rw [if_neg (by simp [hc])]
    have hz : zv (v0_172 q0 q1 q2 q3 q4 p5) = O := own_hit0 (by rw [hc]; decide) hn
    unfold j0_244_s0 j0_251_s0
    rw [h, if_ne fa.1 nn_d1 .l, zv_d1, hz, if_neg (by decide), if_neg (by simp)]
  · rw [if_pos (by simpa using hc)]
theorem own_266 : j0_266_l22 q0 q1 q2 q3 q4 p5 = 1 := by
  have fa := own_x q0 q1 q2 q3 q4 p5; have h := own_239 q0 q1 q2 q3 q4 p5; have hn := own_R q0 q1 q2 q3 q4 p5
  unfold j0_266_l22
  rw [lw, h]
  by_cases hc : (j0_127_l14 q0 q1 q2 q3 q4 p5).toInt = (j0_9_l12 q0 q1 q2 q3 q4 p5).toInt
  · rw [if_neg (by simp [hc])]
    have hz : zv (v0_154 q0 q1 q2 q3 q4 p5) = 0 := own_hit1 hc hn
    unfold j0_271_s0 j0_278_s0
    rw [h, if_ne fa.1 nn_d0 .l, zv_d0, hz, if_neg (by decide), if_neg (by simp)]
  · rw [if_pos (by simpa using hc)]
theorem own_293 : j0_293_l22 q0 q1 q2 q3 q4 p5 = 1 := by
  have fa := own_y q0 q1 q2 q3 q4 p5; have h := own_266 q0 q1 q2 q3 q4 p5; have hn := own_R q0 q1 q2 q3 q4 p5
  unfold j0_293_l22
  rw [lw, h]
  by_cases hc : (v0_122 q0 q1 q2 q3 q4 p5).toInt = (j0_9_l12 q0 q1 q2 q3 q4 p5).toInt
  · rw [if_neg (by simp [hc])]
    have hz : zv (v0_172 q0 q1 q2 q3 q4 p5) = 0 := own_hit1 hc hn
    unfold j0_298_s0 j0_305_s0
    rw [h, if_ne fa.1 nn_d0 .l, zv_d0, hz, if_neg (by decide), if_neg (by simp)]
  · rw [if_pos (by simpa using hc)]
theorem own_324 : j0_324_l22 q0 q1 q2 q3 q4 p5 = 1 := by
  have fa := own_x q0 q1 q2 q3 q4 p5; have h := own_293 q0 q1 q2 q3 q4 p5; have hn := own_R q0 q1 q2 q3 q4 p5
  unfold j0_324_l22
  rw [lw, h]
  by_cases hc : ((j0_127_l14 q0 q1 q2 q3 q4 p5) * (2 : Int64)).toInt = (j0_9_l12 q0 q1 q2 q3 q4 p5).toInt
  · rw [if_neg (by simp [hc])]
    have hh : 2 * zv (v0_154 q0 q1 q2 q3 q4 p5) = O := own_hith (own_two q0 q1 q2 q3 q4 p5 hc) hn
    have hz := own_halfZ
    unfold j0_329_s0 j0_338_s0
    rw [h, if_ne fa.1 own_halfN .l, if_neg (by decide), if_neg (by simp only [decide_eq_true_eq]; omega)]
  · rw [if_pos (by simpa using hc)]
theorem own_353 : j0_353_l22 q0 q1 q2 q3 q4 p5 = 1 := by
  have fa := own_x q0 q1 q2 q3 q4 p5; have fb := own_y q0 q1 q2 q3 q4 p5; have h := own_324 q0 q1 q2 q3 q4 p5; have hn := own_R q0 q1 q2 q3 q4 p5
  have ha := own_a q0 q1 q2 q3 q4 p5; have hb := own_b q0 q1 q2 q3 q4 p5
  unfold j0_353_l22
  rw [lw]
  by_cases hc : (v0_122 q0 q1 q2 q3 q4 p5).toInt ≤ (j0_127_l14 q0 q1 q2 q3 q4 p5).toInt
  · rw [if_pos (by simpa using hc), h]
  · rw [if_neg (by simpa using hc)]
    have hm : zv (v0_172 q0 q1 q2 q3 q4 p5) ≤ zv (v0_154 q0 q1 q2 q3 q4 p5) := own_mono ha.1 (by omega) hb.2 hn
    have e358 : j0_358_s0 q0 q1 q2 q3 q4 p5 = 1 := by
      unfold j0_358_s0 j0_366_s0
      rw [h, if_lt fa.1 fb.1 .l, if_neg (by decide), if_neg (by simp only [decide_eq_true_eq]; omega)]
    unfold j0_382_l22
    rw [lw, e358, show (1073741824 : Int64).toInt = 1073741824 by decide]
    by_cases hs : 1073741824 < (j0_9_l12 q0 q1 q2 q3 q4 p5).toInt
    · rw [if_pos (by simpa using hs)]
    · rw [if_neg (by simpa using hs)]
      have hst : zv (v0_172 q0 q1 q2 q3 q4 p5) < zv (v0_154 q0 q1 q2 q3 q4 p5) := own_strict ha.1 (by omega) hb.2 hn (by omega)
      unfold j0_387_s0 j0_395_s0
      rw [e358, if_le fa.1 fb.1 .l, if_neg (by decide), if_neg (by simp only [decide_eq_true_eq]; omega)]
theorem own_410 : j0_410_l22 q0 q1 q2 q3 q4 p5 = 1 := by
  have fa := own_x q0 q1 q2 q3 q4 p5; have fb := own_y q0 q1 q2 q3 q4 p5; have h := own_353 q0 q1 q2 q3 q4 p5; have hn := own_R q0 q1 q2 q3 q4 p5
  have ha := own_a q0 q1 q2 q3 q4 p5; have hb := own_b q0 q1 q2 q3 q4 p5
  unfold j0_410_l22
  rw [lw]
  by_cases hc : (j0_127_l14 q0 q1 q2 q3 q4 p5).toInt ≤ (v0_122 q0 q1 q2 q3 q4 p5).toInt
  · rw [if_pos (by simpa using hc), h]
  · rw [if_neg (by simpa using hc)]
    have hm : zv (v0_154 q0 q1 q2 q3 q4 p5) ≤ zv (v0_172 q0 q1 q2 q3 q4 p5) := own_mono hb.1 (by omega) ha.2 hn
    have e415 : j0_415_s0 q0 q1 q2 q3 q4 p5 = 1 := by
      unfold j0_415_s0 j0_423_s0
      rw [h, if_lt fb.1 fa.1 .l, if_neg (by decide), if_neg (by simp only [decide_eq_true_eq]; omega)]
    unfold j0_439_l22
    rw [lw, e415, show (1073741824 : Int64).toInt = 1073741824 by decide]
    by_cases hs : 1073741824 < (j0_9_l12 q0 q1 q2 q3 q4 p5).toInt
    · rw [if_pos (by simpa using hs)]
    · rw [if_neg (by simpa using hs)]
      have hst : zv (v0_154 q0 q1 q2 q3 q4 p5) < zv (v0_172 q0 q1 q2 q3 q4 p5) := own_strict hb.1 (by omega) ha.2 hn (by omega)
      unfold j0_444_s0 j0_452_s0
      rw [e415, if_le fb.1 fa.1 .l, if_neg (by decide), if_neg (by simp only [decide_eq_true_eq]; omega)]
theorem own_res : j0_465_l22 q0 q1 q2 q3 q4 p5 = 1 := by
  have fa := own_x q0 q1 q2 q3 q4 p5; have fb := own_y q0 q1 q2 q3 q4 p5; have h := own_410 q0 q1 q2 q3 q4 p5
  have ha := own_a q0 q1 q2 q3 q4 p5; have hb := own_b q0 q1 q2 q3 q4 p5
  unfold j0_465_l22
  by_cases hm : if_icmp.holds .ne (v0_4 q0 q1 q2 q3 q4 p5) (1 : Int32) = true
  · rw [if_pos hm, h]
  · rw [if_neg hm]
    obtain ⟨j, hj, hr⟩ := own_one_shl p5
    have hR : (j0_9_l12 q0 q1 q2 q3 q4 p5).toInt = ((2 ^ j : Nat) : Int) := by
      unfold j0_9_l12; rw [if_neg hm]; exact hr
    have x1 : zv (v0_154 q0 q1 q2 q3 q4 p5) = _ := own_pow hj ha.1 ha.2 hR
    have x2 := (own_powd hj ha.1 ha.2 hR).2
    have y1 : zv (v0_172 q0 q1 q2 q3 q4 p5) = _ := own_pow hj hb.1 hb.2 hR
    have y2 := (own_powd hj hb.1 hb.2 hR).2
    have e470 : j0_470_s0 q0 q1 q2 q3 q4 p5 = 1 := by
      unfold j0_470_s0 j0_486_s0
      rw [h, if_ne fa.1 (own_n484 q0 q1 q2 q3 q4 p5) .l, x1, x2, if_neg (by decide), if_neg (by simp)]
    unfold j0_498_s0 j0_514_s0
    rw [e470, if_ne fb.1 (own_n512 q0 q1 q2 q3 q4 p5) .l, y1, y2, if_neg (by decide), if_neg (by simp)]
end V
end Own
theorem d2_0 : decode jdk_30_method_1_code 0 = .ok (.aload_n 0, 1) := by decide +kernel
theorem d2_1 : decode jdk_30_method_1_code 1 = .ok (.invokespecial 1, 3) := by decide +kernel
theorem d2_4 : decode jdk_30_method_1_code 4 = .ok (.return_, 1) := by decide +kernel
theorem pn_2 : plainName "java/lang/Record" = true := by first | (simp [plainName, overriddenIn]; done) | decide +kernel
theorem pd_0 : parseMethodDescriptor "()V" = some ⟨[], none⟩ := by decide +kernel
theorem pd_1 : parseMethodDescriptor "(JJJJ)V" = some ⟨[.long, .long, .long, .long], none⟩ := by decide +kernel
theorem pd_2 : parseMethodDescriptor "()D" = some ⟨[], some .double⟩ := by decide +kernel
theorem ef_2 (m : MethodId) (a0 : Addr) : entryFrame m #[(.ref a0)] 1 = mkF m 0 #[.val (.ref a0)] [] := by first | (simp [entryFrame, mkF, argsToLocals, Value.category]; done) | rfl
def Q2 (Z : State) (a0 : Addr) (h0 : Heap) (n0 : Nat) (v : Option Value) (h : Heap) (L : List Loc) : Prop := v = none ∧ Fr n0 L ∧ h = h0
set_option maxRecDepth 65536 in
set_option maxHeartbeats 40000000 in
theorem rm2 (l : Launch) (Z : State) (aw : Array Value) (hw : ∀ d ∈ tables_1, d.before aw Z = true) (ws : List Jvm.Cond) (a0 : Addr) (h0 : Heap) (n0 : Nat) (Z0 : n0 ≤ h0.size) :
    MetFree l (⟨"java/lang/Record", "<init>", "()V"⟩ : MethodName) (head1 (Jvm.Cond.code (⟨"java/lang/Record", "<init>", "()V"⟩ : MethodName) jdk_30_method_1_code 1 none :: ws) ({ frames := 1, cells := 0, slots := 0, locals := 12 } : Room)) (fun a U => a = #[(.ref a0)] ∧ Z.Warmed39 U.vm ∧ U.heap = h0) (fun _ _ _ _ _ => True) (fun _ U o U' => ∃ v L, o = .returned v ∧ Q2 Z a0 h0 n0 v U'.heap L ∧ FrameEnd U o U' L ({ frames := 1, cells := 0, slots := 0, locals := 12 } : Room).cells ({ frames := 1, cells := 0, slots := 0, locals := 12 } : Room).slots) := by
  refine MetFree.of_bodySF (plainFor_of_name pn_2) hisR ?_
  intro p e s m args below meth c s₁ Bd hml0 hP hK
  obtain ⟨rfl, hZ, hh⟩ := hP
  have hx := Bd.exec
  have hby := Bd.bytes
  have hml : c.maxLocals = 1 := hml0
  have hown : s.vm.findClass "java/lang/Record" = some m.cls := findClass_of_methodNamed Bd.named
  have hnm := (name_of_methodNamed Bd.named Bd.method).1
  have X0 : Stand p l e ({ frames := 1, cells := 0, slots := 0, locals := 12 } : Room) s m #[(.ref a0)] below meth c s₁ [] 0 0 := Stand.of_body Bd
  have e0 : s₁.heap = h0 := by rw [← hh, Bd.state]; rfl
  have N0 := Fr.nil n0
  have pre0 : ∀ t, Steps p.tables e below (s₁.setTop (mkF m 0 #[.val (.ref a0)] [])) t → Steps p.tables e below (s₁.setTop (entryFrame m #[(.ref a0)] 1)) t := fun t k => castTop (ef_2 m a0) k
  obtain ⟨T1, X1, e1, st1⟩ := initO X0 hx hZ hown (hw _ (List.mem_of_getElem? (i := 13) rfl)) (hw _ (List.mem_of_getElem? (i := 14) rfl)) (hw _ (List.mem_of_getElem? (i := 15) rfl)) e0 (g := (mkF m 1 #[.val (.ref a0)] [(.ref a0)])) rfl (by rw [hml]; rfl) rfl (hb hby d2_1) (by decide) (W := 0) (by show 2 * 0 + _ ≤ _; exact Nat.le_of_eq rfl) (by decide)
  obtain ⟨fs, hr, hrun, hended, hW, hsame⟩ := X1.leave (v := none) (fun _ => rfl)
  refine ⟨_, _, pre0 _ ?_, hrun, hended, _, _, rfl, ?_, ⟨_, rfl⟩, hW, hsame.mono (by decide) (by decide)⟩
  · show Steps p.tables e below (s₁.setTop (mkF m 0 #[.val (.ref a0)] [])) _
    refine XS.aloadN X0.here hx rfl (hb hby d2_0) rfl rfl ?_
    show Steps p.tables e below (s₁.setTop (mkF m 1 #[.val (.ref a0)] [(.ref a0)])) _
    refine st1 _ ?_
    show Steps p.tables e below (T1.setTop (mkF m 4 #[.val (.ref a0)] [])) _
    exact X1.returnOut hx Bd.returns (hb hby d2_4) hr
  · show Q2 Z a0 h0 n0 _ T1.heap _
    rw [e1]
    exact ⟨rfl, N0, rfl⟩
theorem d1_0 : decode prog_23_method_1_code 0 = .ok (.aload_n 0, 1) := by decide +kernel
theorem d1_1 : decode prog_23_method_1_code 1 = .ok (.invokespecial 1, 3) := by decide +kernel
theorem d1_4 : decode prog_23_method_1_code 4 = .ok (.aload_n 0, 1) := by decide +kernel
theorem d1_5 : decode prog_23_method_1_code 5 = .ok (.lload_n 1, 1) := by decide +kernel
theorem d1_6 : decode prog_23_method_1_code 6 = .ok (.putfield 7, 3) := by decide +kernel
theorem d1_9 : decode prog_23_method_1_code 9 = .ok (.aload_n 0, 1) := by decide +kernel
theorem d1_10 : decode prog_23_method_1_code 10 = .ok (.lload_n 3, 1) := by decide +kernel
theorem d1_11 : decode prog_23_method_1_code 11 = .ok (.putfield 13, 3) := by decide +kernel
theorem d1_14 : decode prog_23_method_1_code 14 = .ok (.aload_n 0, 1) := by decide +kernel
theorem d1_15 : decode prog_23_method_1_code 15 = .ok (.lload 5, 2) := by decide +kernel
theorem d1_17 : decode prog_23_method_1_code 17 = .ok (.putfield 16, 3) := by decide +kernel
theorem d1_20 : decode prog_23_method_1_code 20 = .ok (.aload_n 0, 1) := by decide +kernel
theorem d1_21 : decode prog_23_method_1_code 21 = .ok (.lload 7, 2) := by decide +kernel
theorem d1_23 : decode prog_23_method_1_code 23 = .ok (.putfield 19, 3) := by decide +kernel
theorem d1_26 : decode prog_23_method_1_code 26 = .ok (.return_, 1) := by decide +kernel
theorem pn_1 : plainName "com/example/duotier/duotier/bench/Tally" = true := by first | (simp [plainName, overriddenIn]; done) | decide +kernel
theorem ef_1 (m : MethodId) (a0 : Addr) (q1 : Int64) (q2 : Int64) (q3 : Int64) (q4 : Int64) : entryFrame m #[(.ref a0), (.long q1), (.long q2), (.long q3), (.long q4)] 9 = mkF m 0 #[.val (.ref a0), .val (.long q1), .second, .val (.long q2), .second, .val (.long q3), .second, .val (.long q4), .second] [] := by first | (simp [entryFrame, mkF, argsToLocals, Value.category]; done) | rfl
def Q1 (Z : State) (a0 : Addr) (q1 : Int64) (q2 : Int64) (q3 : Int64) (q4 : Int64) (u_operations_a0 : Value) (u_reads_a0 : Value) (u_localMisses_a0 : Value) (u_nanos_a0 : Value) (h0 : Heap) (n0 : Nat) (v : Option Value) (h : Heap) (L : List Loc) : Prop := v = none ∧ Fr n0 L ∧ Keep h0 h [a0] ∧ Exa Z h a0 "com/example/duotier/duotier/bench/Tally" ∧ Fld Z h a0 "com/example/duotier/duotier/bench/Tally" "operations" "J" (.long q1) ∧ Fld Z h a0 "com/example/duotier/duotier/bench/Tally" "reads" "J" (.long q2) ∧ Fld Z h a0 "com/example/duotier/duotier/bench/Tally" "localMisses" "J" (.long q3) ∧ Fld Z h a0 "com/example/duotier/duotier/bench/Tally" "nanos" "J" (.long q4)
set_option maxRecDepth 65536 in
set_option maxHeartbeats 40000000 in
theorem rm1 (l : Launch) (Z : State) (aw : Array Value) (hw : ∀ d ∈ tables_1, d.before aw Z = true) (ws : List Jvm.Cond) (a0 : Addr) (q1 : Int64) (q2 : Int64) (q3 : Int64) (q4 : Int64) (u_operations_a0 : Value) (u_reads_a0 : Value) (u_localMisses_a0 : Value) (u_nanos_a0 : Value) (h0 : Heap) (n0 : Nat) (Z0 : n0 ≤ h0.size) (F_is_a0 : Exa Z h0 a0 "com/example/duotier/duotier/bench/Tally") (F_operations_a0 : Fld Z h0 a0 "com/example/duotier/duotier/bench/Tally" "operations" "J" u_operations_a0) (F_reads_a0 : Fld Z h0 a0 "com/example/duotier/duotier/bench/Tally" "reads" "J" u_reads_a0) (F_localMisses_a0 : Fld Z h0 a0 "com/example/duotier/duotier/bench/Tally" "localMisses" "J" u_localMisses_a0) (F_nanos_a0 : Fld Z h0 a0 "com/example/duotier/duotier/bench/Tally" "nanos" "J" u_nanos_a0) (g_a0 : n0 ≤ a0) :
    MetFree l (⟨"com/example/duotier/duotier/bench/Tally", "<init>", "(JJJJ)V"⟩ : MethodName) (head1 (Jvm.Cond.code (⟨"com/example/duotier/duotier/bench/Tally", "<init>", "(JJJJ)V"⟩ : MethodName) prog_23_method_1_code 9 none :: ws) ({ frames := 2, cells := 0, slots := 0, locals := 24 } : Room)) (fun a U => a = #[(.ref a0), (.long q1), (.long q2), (.long q3), (.long q4)] ∧ Z.Warmed39 U.vm ∧ U.heap = h0) (fun _ _ _ _ _ => True) (fun _ U o U' => ∃ v L, o = .returned v ∧ Q1 Z a0 q1 q2 q3 q4 u_operations_a0 u_reads_a0 u_localMisses_a0 u_nanos_a0 h0 n0 v U'.heap L ∧ FrameEnd U o U' L ({ frames := 2, cells := 0, slots := 0, locals := 24 } : Room).cells ({ frames := 2, cells := 0, slots := 0, locals := 24 } : Room).slots) := by
  refine MetFree.of_bodySF (plainFor_of_name pn_1) hisR ?_
  intro p e s m args below meth c s₁ Bd hml0 hP hK
  obtain ⟨rfl, hZ, hh⟩ := hP
  have hx := Bd.exec
  have hby := Bd.bytes
  have hml : c.maxLocals = 9 := hml0
  have hown : s.vm.findClass "com/example/duotier/duotier/bench/Tally" = some m.cls := findClass_of_methodNamed Bd.named
  have hnm := (name_of_methodNamed Bd.named Bd.method).1
  have X0 : Stand p l e ({ frames := 2, cells := 0, slots := 0, locals := 24 } : Room) s m #[(.ref a0), (.long q1), (.long q2), (.long q3), (.long q4)] below meth c s₁ [] 0 0 := Stand.of_body Bd
  have e0 : s₁.heap = h0 := by rw [← hh, Bd.state]; rfl
  have N0 := Fr.nil n0
  have pre0 : ∀ t, Steps p.tables e below (s₁.setTop (mkF m 0 #[.val (.ref a0), .val (.long q1), .second, .val (.long q2), .second, .val (.long q3), .second, .val (.long q4), .second] [])) t → Steps p.tables e below (s₁.setTop (entryFrame m #[(.ref a0), (.long q1), (.long q2), (.long q3), (.long q4)] 9)) t := fun t k => castTop (ef_1 m a0 q1 q2 q3 q4) k
  obtain ⟨_, _, ⟨T1, L1, k1, n1⟩, -, X1, ⟨Lc1, hQ1, l1, y1, z1'⟩, st1⟩ := X0.specialBack hx (y := (⟨"java/lang/Record", "<init>", "()V"⟩ : MethodName)) rfl hown (mvT hZ (hw _ (List.mem_of_getElem? (i := 8) rfl))) (mvT hZ (hw _ (List.mem_of_getElem? (i := 9) rfl))) (mvT hZ (hw _ (List.mem_of_getElem? (i := 12) rfl))) (by decide) (backOf (W := 0) (rm2 l Z aw hw [] a0 h0 n0 Z0 ) hZ (hw _ (List.mem_of_getElem? (i := 12) rfl)) (hw _ (List.mem_of_getElem? (i := 11) rfl)) (by decide) (by decide)) (g := (mkF m 1 #[.val (.ref a0), .val (.long q1), .second, .val (.long q2), .second, .val (.long q3), .second, .val (.long q4), .second] [(.ref a0)])) rfl (by rw [hml]; rfl) (Steps.refl _) (a := a0) (argsL := []) (rest := []) (lenOf pd_0 rfl) rfl (by show 2 * 0 + _ ≤ _; exact Nat.le_of_eq rfl) (hb hby d1_1) (fun _ _ => ⟨rfl, e0, (by decide : 0 + 0 ≤ _), (by decide : 0 + 0 ≤ _)⟩)
  dsimp only [Pt.U, Pt.locs, Pt.cells, Pt.slots] at X1 l1 y1 z1' st1 hQ1
  subst l1 y1 z1'
  obtain ⟨rfl, N1q, hq1⟩ := hQ1
  have f1_0 : Exa Z T1.heap a0 "com/example/duotier/duotier/bench/Tally" := by rw [hq1]; exact F_is_a0
  have f1_1 : Fld Z T1.heap a0 "com/example/duotier/duotier/bench/Tally" "operations" "J" u_operations_a0 := by rw [hq1]; exact F_operations_a0
  have f1_2 : Fld Z T1.heap a0 "com/example/duotier/duotier/bench/Tally" "reads" "J" u_reads_a0 := by rw [hq1]; exact F_reads_a0
  have f1_3 : Fld Z T1.heap a0 "com/example/duotier/duotier/bench/Tally" "localMisses" "J" u_localMisses_a0 := by rw [hq1]; exact F_localMisses_a0
  have f1_4 : Fld Z T1.heap a0 "com/example/duotier/duotier/bench/Tally" "nanos" "J" u_nanos_a0 := by rw [hq1]; exact F_nanos_a0
  have z1 : n0 ≤ T1.heap.size := by rw [hq1]; exact Z0
  have K1 : Keep h0 T1.heap [a0] := by rw [hq1]; exact (Keep.refl h0 [a0])
  have N1 := Fr.app N0 N1q
  obtain ⟨T2, h2, X2, e2, W2, st2⟩ := putF X1 hx hZ hown (host := "") (Or.inl (hw _ (List.mem_of_getElem? (i := 16) rfl))) Via.refl rfl f1_1 f1_0 (Or.inr ⟨(hw _ (List.mem_of_getElem? (i := 17) rfl)), rfl, hnm⟩) (hw _ (List.mem_of_getElem? (i := 3) rfl)) (ty := .long) (by decide) rfl rfl (g := (mkF m 6 #[.val (.ref a0), .val (.long q1), .second, .val (.long q2), .second, .val (.long q3), .second, .val (.long q4), .second] [(.long q1), (.ref a0)])) rfl rfl (hb hby d1_6)
  have f2_0 : Exa Z h2 a0 "com/example/duotier/duotier/bench/Tally" := f1_0.wr W2
  have f2_1 : Fld Z h2 a0 "com/example/duotier/duotier/bench/Tally" "operations" "J" (.long q1) := f1_1.same W2
  have f2_2 : Fld Z h2 a0 "com/example/duotier/duotier/bench/Tally" "reads" "J" u_reads_a0 := f1_2.other W2 (Or.inr (slot_ne (Or.inr (hw _ (List.mem_of_getElem? (i := 19) rfl))) (Or.inr (hw _ (List.mem_of_getElem? (i := 17) rfl))) (by decide) (t := .long) (t' := .long) (by decide) (by decide)))
  have f2_3 : Fld Z h2 a0 "com/example/duotier/duotier/bench/Tally" "localMisses" "J" u_localMisses_a0 := f1_3.other W2 (Or.inr (slot_ne (Or.inr (hw _ (List.mem_of_getElem? (i := 21) rfl))) (Or.inr (hw _ (List.mem_of_getElem? (i := 17) rfl))) (by decide) (t := .long) (t' := .long) (by decide) (by decide)))
  have f2_4 : Fld Z h2 a0 "com/example/duotier/duotier/bench/Tally" "nanos" "J" u_nanos_a0 := f1_4.other W2 (Or.inr (slot_ne (Or.inr (hw _ (List.mem_of_getElem? (i := 23) rfl))) (Or.inr (hw _ (List.mem_of_getElem? (i := 17) rfl))) (by decide) (t := .long) (t' := .long) (by decide) (by decide)))
  have K2 : Keep h0 h2 [a0] := K1.wr W2 (Or.inl (List.mem_of_getElem? (i := 0) rfl))
  have N2 := Fr.snoc X2 N1 g_a0
  have z2 : n0 ≤ h2.size := Nat.le_trans z1 (Keep.of_wr W2).1
  obtain ⟨T3, h3, X3, e3, W3, st3⟩ := putF X2 hx hZ hown (host := "") (Or.inl (hw _ (List.mem_of_getElem? (i := 18) rfl))) Via.refl e2 f2_2 f2_0 (Or.inr ⟨(hw _ (List.mem_of_getElem? (i := 19) rfl)), rfl, hnm⟩) (hw _ (List.mem_of_getElem? (i := 3) rfl)) (ty := .long) (by decide) rfl rfl (g := (mkF m 11 #[.val (.ref a0), .val (.long q1), .second, .val (.long q2), .second, .val (.long q3), .second, .val (.long q4), .second] [(.long q2), (.ref a0)])) rfl rfl (hb hby d1_11)
  have f3_0 : Exa Z h3 a0 "com/example/duotier/duotier/bench/Tally" := f2_0.wr W3
  have f3_1 : Fld Z h3 a0 "com/example/duotier/duotier/bench/Tally" "operations" "J" (.long q1) := f2_1.other W3 (Or.inr (slot_ne (Or.inr (hw _ (List.mem_of_getElem? (i := 17) rfl))) (Or.inr (hw _ (List.mem_of_getElem? (i := 19) rfl))) (by decide) (t := .long) (t' := .long) (by decide) (by decide)))
  have f3_2 : Fld Z h3 a0 "com/example/duotier/duotier/bench/Tally" "reads" "J" (.long q2) := f2_2.same W3
  have f3_3 : Fld Z h3 a0 "com/example/duotier/duotier/bench/Tally" "localMisses" "J" u_localMisses_a0 := f2_3.other W3 (Or.inr (slot_ne (Or.inr (hw _ (List.mem_of_getElem? (i := 21) rfl))) (Or.inr (hw _ (List.mem_of_getElem? (i := 19) rfl))) (by decide) (t := .long) (t' := .long) (by decide) (by decide)))
  have f3_4 : Fld Z h3 a0 "com/example/duotier/duotier/bench/Tally" "nanos" "J" u_nanos_a0 := f2_4.other W3 (Or.inr (slot_ne (Or.inr (hw _ (List.mem_of_getElem? (i := 23) rfl))) (Or.inr (hw _ (List.mem_of_getElem? (i := 19) rfl))) (by decide) (t := .long) (t' := .long) (by decide) (by decide)))
  have K3 : Keep h0 h3 [a0] := K2.wr W3 (Or.inl (List.mem_of_getElem? (i := 0) rfl))
  have N3 := Fr.snoc X3 N2 g_a0
  have z3 : n0 ≤ h3.size := Nat.le_trans z2 (Keep.of_wr W3).1
  obtain ⟨T4, h4, X4, e4, W4, st4⟩ := putF X3 hx hZ hown (host := "") (Or.inl (hw _ (List.mem_of_getElem? (i := 20) rfl))) Via.refl e3 f3_3 f3_0 (Or.inr ⟨(hw _ (List.mem_of_getElem? (i := 21) rfl)), rfl, hnm⟩) (hw _ (List.mem_of_getElem? (i := 3) rfl)) (ty := .long) (by decide) rfl rfl (g := (mkF m 17 #[.val (.ref a0), .val (.long q1), .second, .val (.long q2), .second, .val (.long q3), .second, .val (.long q4), .second] [(.long q3), (.ref a0)])) rfl rfl (hb hby d1_17)
  have f4_0 : Exa Z h4 a0 "com/example/duotier/duotier/bench/Tally" := f3_0.wr W4
  have f4_1 : Fld Z h4 a0 "com/example/duotier/duotier/bench/Tally" "operations" "J" (.long q1) := f3_1.other W4 (Or.inr (slot_ne (Or.inr (hw _ (List.mem_of_getElem? (i := 17) rfl))) (Or.inr (hw _ (List.mem_of_getElem? (i := 21) rfl))) (by decide) (t := .long) (t' := .long) (by decide) (by decide)))
  have f4_2 : Fld Z h4 a0 "com/example/duotier/duotier/bench/Tally" "reads" "J" (.long q2) := f3_2.other W4 (Or.inr (slot_ne (Or.inr (hw _ (List.mem_of_getElem? (i := 19) rfl))) (Or.inr (hw _ (List.mem_of_getElem? (i := 21) rfl))) (by decide) (t := .long) (t' := .long) (by decide) (by decide)))
  have f4_3 : Fld Z h4 a0 "com/example/duotier/duotier/bench/Tally" "localMisses" "J" (.long q3) := f3_3.same W4
  have f4_4 : Fld Z h4 a0 "com/example/duotier/duotier/bench/Tally" "nanos" "J" u_nanos_a0 := f3_4.other W4 (Or.inr (slot_ne (Or.inr (hw _ (List.mem_of_getElem? (i := 23) rfl))) (Or.inr (hw _ (List.mem_of_getElem? (i := 21) rfl))) (by decide) (t := .long) (t' := .long) (by decide) (by decide)))
  have K4 : Keep h0 h4 [a0] := K3.wr W4 (Or.inl (List.mem_of_getElem? (i := 0) rfl))
  have N4 := Fr.snoc X4 N3 g_a0
  have z4 : n0 ≤ h4.size := Nat.le_trans z3 (Keep.of_wr W4).1
  obtain ⟨T5, h5, X5, e5, W5, st5⟩ := putF X4 hx hZ hown (host := "") (Or.inl (hw _ (List.mem_of_getElem? (i := 22) rfl))) Via.refl e4 f4_4 f4_0 (Or.inr ⟨(hw _ (List.mem_of_getElem? (i := 23) rfl)), rfl, hnm⟩) (hw _ (List.mem_of_getElem? (i := 3) rfl)) (ty := .long) (by decide) rfl rfl (g := (mkF m 23 #[.val (.ref a0), .val (.long q1), .second, .val (.long q2), .second, .val (.long q3), .second, .val (.long q4), .second] [(.long q4), (.ref a0)])) rfl rfl (hb hby d1_23)
  have f5_0 : Exa Z h5 a0 "com/example/duotier/duotier/bench/Tally" := f4_0.wr W5
  have f5_1 : Fld Z h5 a0 "com/example/duotier/duotier/bench/Tally" "operations" "J" (.long q1) := f4_1.other W5 (Or.inr (slot_ne (Or.inr (hw _ (List.mem_of_getElem? (i := 17) rfl))) (Or.inr (hw _ (List.mem_of_getElem? (i := 23) rfl))) (by decide) (t := .long) (t' := .long) (by decide) (by decide)))
  have f5_2 : Fld Z h5 a0 "com/example/duotier/duotier/bench/Tally" "reads" "J" (.long q2) := f4_2.other W5 (Or.inr (slot_ne (Or.inr (hw _ (List.mem_of_getElem? (i := 19) rfl))) (Or.inr (hw _ (List.mem_of_getElem? (i := 23) rfl))) (by decide) (t := .long) (t' := .long) (by decide) (by decide)))
  have f5_3 : Fld Z h5 a0 "com/example/duotier/duotier/bench/Tally" "localMisses" "J" (.long q3) := f4_3.other W5 (Or.inr (slot_ne (Or.inr (hw _ (List.mem_of_getElem? (i := 21) rfl))) (Or.inr (hw _ (List.mem_of_getElem? (i := 23) rfl))) (by decide) (t := .long) (t' := .long) (by decide) (by decide)))
  have f5_4 : Fld Z h5 a0 "com/example/duotier/duotier/bench/Tally" "nanos" "J" (.long q4) := f4_4.same W5
  have K5 : Keep h0 h5 [a0] := K4.wr W5 (Or.inl (List.mem_of_getElem? (i := 0) rfl))
  have N5 := Fr.snoc X5 N4 g_a0
  have z5 : n0 ≤ h5.size := Nat.le_trans z4 (Keep.of_wr W5).1
  obtain ⟨fs, hr, hrun, hended, hW, hsame⟩ := X5.leave (v := none) (fun _ => rfl)
  refine ⟨_, _, pre0 _ ?_, hrun, hended, _, _, rfl, ?_, ⟨_, rfl⟩, hW, hsame.mono (by decide) (by decide)⟩
  · show Steps p.tables e below (s₁.setTop (mkF m 0 #[.val (.ref a0), .val (.long q1), .second, .val (.long q2), .second, .val (.long q3), .second, .val (.long q4), .second] [])) _
    refine XS.aloadN X0.here hx rfl (hb hby d1_0) rfl rfl ?_
    show Steps p.tables e below (s₁.setTop (mkF m 1 #[.val (.ref a0), .val (.long q1), .second, .val (.long q2), .second, .val (.long q3), .second, .val (.long q4), .second] [(.ref a0)])) _
    refine st1.trans ?_
    show Steps p.tables e below (T1.setTop (mkF m 4 #[.val (.ref a0), .val (.long q1), .second, .val (.long q2), .second, .val (.long q3), .second, .val (.long q4), .second] [])) _
    refine XS.aloadN X1.here hx rfl (hb hby d1_4) rfl rfl ?_
    show Steps p.tables e below (T1.setTop (mkF m 5 #[.val (.ref a0), .val (.long q1), .second, .val (.long q2), .second, .val (.long q3), .second, .val (.long q4), .second] [(.ref a0)])) _
    refine XS.lloadN X1.here hx rfl (hb hby d1_5) rfl ?_
    show Steps p.tables e below (T1.setTop (mkF m 6 #[.val (.ref a0), .val (.long q1), .second, .val (.long q2), .second, .val (.long q3), .second, .val (.long q4), .second] [(.long q1), (.ref a0)])) _
    refine st2 _ ?_
    show Steps p.tables e below (T2.setTop (mkF m 9 #[.val (.ref a0), .val (.long q1), .second, .val (.long q2), .second, .val (.long q3), .second, .val (.long q4), .second] [])) _
    refine XS.aloadN X2.here hx rfl (hb hby d1_9) rfl rfl ?_
    show Steps p.tables e below (T2.setTop (mkF m 10 #[.val (.ref a0), .val (.long q1), .second, .val (.long q2), .second, .val (.long q3), .second, .val (.long q4), .second] [(.ref a0)])) _
    refine XS.lloadN X2.here hx rfl (hb hby d1_10) rfl ?_
    show Steps p.tables e below (T2.setTop (mkF m 11 #[.val (.ref a0), .val (.long q1), .second, .val (.long q2), .second, .val (.long q3), .second, .val (.long q4), .second] [(.long q2), (.ref a0)])) _
    refine st3 _ ?_
    show Steps p.tables e below (T3.setTop (mkF m 14 #[.val (.ref a0), .val (.long q1), .second, .val (.long q2), .second, .val (.long q3), .second, .val (.long q4), .second] [])) _
    refine XS.aloadN X3.here hx rfl (hb hby d1_14) rfl rfl ?_
    show Steps p.tables e below (T3.setTop (mkF m 15 #[.val (.ref a0), .val (.long q1), .second, .val (.long q2), .second, .val (.long q3), .second, .val (.long q4), .second] [(.ref a0)])) _
    refine XS.lload X3.here hx rfl (hb hby d1_15) rfl ?_
    show Steps p.tables e below (T3.setTop (mkF m 17 #[.val (.ref a0), .val (.long q1), .second, .val (.long q2), .second, .val (.long q3), .second, .val (.long q4), .second] [(.long q3), (.ref a0)])) _
    refine st4 _ ?_
    show Steps p.tables e below (T4.setTop (mkF m 20 #[.val (.ref a0), .val (.long q1), .second, .val (.long q2), .second, .val (.long q3), .second, .val (.long q4), .second] [])) _
    refine XS.aloadN X4.here hx rfl (hb hby d1_20) rfl rfl ?_
    show Steps p.tables e below (T4.setTop (mkF m 21 #[.val (.ref a0), .val (.long q1), .second, .val (.long q2), .second, .val (.long q3), .second, .val (.long q4), .second] [(.ref a0)])) _
    refine XS.lload X4.here hx rfl (hb hby d1_21) rfl ?_
    show Steps p.tables e below (T4.setTop (mkF m 23 #[.val (.ref a0), .val (.long q1), .second, .val (.long q2), .second, .val (.long q3), .second, .val (.long q4), .second] [(.long q4), (.ref a0)])) _
    refine st5 _ ?_
    show Steps p.tables e below (T5.setTop (mkF m 26 #[.val (.ref a0), .val (.long q1), .second, .val (.long q2), .second, .val (.long q3), .second, .val (.long q4), .second] [])) _
    exact X5.returnOut hx Bd.returns (hb hby d1_26) hr
  · show Q1 Z a0 q1 q2 q3 q4 u_operations_a0 u_reads_a0 u_localMisses_a0 u_nanos_a0 h0 n0 _ T5.heap _
    rw [e5]
    exact ⟨rfl, N5, K5, f5_0, f5_1, f5_2, f5_3, f5_4⟩
theorem d4_0 : decode prog_23_method_6_code 0 = .ok (.dconst 1, 1) := by decide +kernel
theorem d4_1 : decode prog_23_method_6_code 1 = .ok (.aload_n 0, 1) := by decide +kernel
theorem d4_2 : decode prog_23_method_6_code 2 = .ok (.getfield 16, 3) := by decide +kernel
theorem d4_5 : decode prog_23_method_6_code 5 = .ok (.l2d, 1) := by decide +kernel
theorem d4_6 : decode prog_23_method_6_code 6 = .ok (.aload_n 0, 1) := by decide +kernel
theorem d4_7 : decode prog_23_method_6_code 7 = .ok (.getfield 13, 3) := by decide +kernel
theorem d4_10 : decode prog_23_method_6_code 10 = .ok (.l2d, 1) := by decide +kernel
theorem d4_11 : decode prog_23_method_6_code 11 = .ok (.ddiv, 1) := by decide +kernel
theorem d4_12 : decode prog_23_method_6_code 12 = .ok (.dsub, 1) := by decide +kernel
theorem d4_13 : decode prog_23_method_6_code 13 = .ok (.dreturn, 1) := by decide +kernel
theorem ef_4 (m : MethodId) (a0 : Addr) : entryFrame m #[(.ref a0)] 1 = mkF m 0 #[.val (.ref a0)] [] := by first | (simp [entryFrame, mkF, argsToLocals, Value.category]; done) | rfl
def Q4 (Z : State) (a0 : Addr) (w_localMisses_a0 : Int64) (w_reads_a0 : Int64) (h0 : Heap) (n0 : Nat) (v : Option Value) (h : Heap) (L : List Loc) : Prop := v = some (.double (r4 w_localMisses_a0 w_reads_a0)) ∧ Fr n0 L ∧ h = h0
set_option maxRecDepth 65536 in
set_option maxHeartbeats 40000000 in
theorem rm4 (l : Launch) (Z : State) (aw : Array Value) (hw : ∀ d ∈ tables_1, d.before aw Z = true) (ws : List Jvm.Cond) (a0 : Addr) (w_localMisses_a0 : Int64) (w_reads_a0 : Int64) (h0 : Heap) (n0 : Nat) (Z0 : n0 ≤ h0.size) (F_localMisses_a0 : Fld Z h0 a0 "com/example/duotier/duotier/bench/Tally" "localMisses" "J" (.long w_localMisses_a0)) (F_reads_a0 : Fld Z h0 a0 "com/example/duotier/duotier/bench/Tally" "reads" "J" (.long w_reads_a0)) (hn11 : Jvm.Free.Fl.NoNaN64 (FP.ddiv (FP.l2d w_localMisses_a0) (FP.l2d w_reads_a0))) (hn12 : Jvm.Free.Fl.NoNaN64 (FP.dsub FP.dconst1 (FP.ddiv (FP.l2d w_localMisses_a0) (FP.l2d w_reads_a0)))) :
    MetFree l (⟨"com/example/duotier/duotier/bench/Tally", "localHitRatio", "()D"⟩ : MethodName) (head1 (Jvm.Cond.code (⟨"com/example/duotier/duotier/bench/Tally", "localHitRatio", "()D"⟩ : MethodName) prog_23_method_6_code 1 (some .double) :: ws) ({ frames := 0, cells := 0, slots := 0, locals := 0 } : Room)) (fun a U => a = #[(.ref a0)] ∧ Z.Warmed39 U.vm ∧ U.heap = h0) (fun _ _ _ _ _ => True) (fun _ U o U' => ∃ v L, o = .returned v ∧ Q4 Z a0 w_localMisses_a0 w_reads_a0 h0 n0 v U'.heap L ∧ FrameEnd U o U' L ({ frames := 0, cells := 0, slots := 0, locals := 0 } : Room).cells ({ frames := 0, cells := 0, slots := 0, locals := 0 } : Room).slots) := by
  refine MetFree.of_bodySF (plainFor_of_name pn_1) hisR ?_
  intro p e s m args below meth c s₁ Bd hml0 hP hK
  obtain ⟨rfl, hZ, hh⟩ := hP
  have hx := Bd.exec
  have hby := Bd.bytes
  have hml : c.maxLocals = 1 := hml0
  have hown : s.vm.findClass "com/example/duotier/duotier/bench/Tally" = some m.cls := findClass_of_methodNamed Bd.named
  have hnm := (name_of_methodNamed Bd.named Bd.method).1
  have X0 : Stand p l e ({ frames := 0, cells := 0, slots := 0, locals := 0 } : Room) s m #[(.ref a0)] below meth c s₁ [] 0 0 := Stand.of_body Bd
  have e0 : s₁.heap = h0 := by rw [← hh, Bd.state]; rfl
  have N0 := Fr.nil n0
  have pre0 : ∀ t, Steps p.tables e below (s₁.setTop (mkF m 0 #[.val (.ref a0)] [])) t → Steps p.tables e below (s₁.setTop (entryFrame m #[(.ref a0)] 1)) t := fun t k => castTop (ef_4 m a0) k
  obtain ⟨T1, X1, e1, st1⟩ := getF X0 hx hZ hown (host := "") (Or.inl (hw _ (List.mem_of_getElem? (i := 20) rfl))) Via.refl e0 F_localMisses_a0 (g := (mkF m 2 #[.val (.ref a0)] [(.ref a0), (.double FP.dconst1)])) rfl rfl (hb hby d4_2)
  obtain ⟨T2, X2, e2, st2⟩ := getF X1 hx hZ hown (host := "") (Or.inl (hw _ (List.mem_of_getElem? (i := 18) rfl))) Via.refl e1 F_reads_a0 (g := (mkF m 7 #[.val (.ref a0)] [(.ref a0), (.double (FP.l2d w_localMisses_a0)), (.double FP.dconst1)])) rfl rfl (hb hby d4_7)
  obtain ⟨fs, hr, hrun, hended, hW, hsame⟩ := X2.leave (v := some (.double (r4 w_localMisses_a0 w_reads_a0))) (fun h => by rw [Bd.returns] at h; cases h)
  refine ⟨_, _, pre0 _ ?_, hrun, hended, _, _, rfl, ?_, ⟨_, rfl⟩, hW, hsame.mono (by decide) (by decide)⟩
  · show Steps p.tables e below (s₁.setTop (mkF m 0 #[.val (.ref a0)] [])) _
    refine XS.dconst1 X0.here hx rfl (hb hby d4_0) rfl ?_
    show Steps p.tables e below (s₁.setTop (mkF m 1 #[.val (.ref a0)] [(.double FP.dconst1)])) _
    refine XS.aloadN X0.here hx rfl (hb hby d4_1) rfl rfl ?_
    show Steps p.tables e below (s₁.setTop (mkF m 2 #[.val (.ref a0)] [(.ref a0), (.double FP.dconst1)])) _
    refine st1 _ ?_
    show Steps p.tables e below (T1.setTop (mkF m 5 #[.val (.ref a0)] [(.long w_localMisses_a0), (.double FP.dconst1)])) _
    refine XS.l2dS X1.here hx rfl (hb hby d4_5) rfl rfl ?_
    show Steps p.tables e below (T1.setTop (mkF m 6 #[.val (.ref a0)] [(.double (FP.l2d w_localMisses_a0)), (.double FP.dconst1)])) _
    refine XS.aloadN X1.here hx rfl (hb hby d4_6) rfl rfl ?_
    show Steps p.tables e below (T1.setTop (mkF m 7 #[.val (.ref a0)] [(.ref a0), (.double (FP.l2d w_localMisses_a0)), (.double FP.dconst1)])) _
    refine st2 _ ?_
    show Steps p.tables e below (T2.setTop (mkF m 10 #[.val (.ref a0)] [(.long w_reads_a0), (.double (FP.l2d w_localMisses_a0)), (.double FP.dconst1)])) _
    refine XS.l2dS X2.here hx rfl (hb hby d4_10) rfl rfl ?_
    show Steps p.tables e below (T2.setTop (mkF m 11 #[.val (.ref a0)] [(.double (FP.l2d w_reads_a0)), (.double (FP.l2d w_localMisses_a0)), (.double FP.dconst1)])) _
    refine XS.ddivS X2.here hx rfl (hb hby d4_11) rfl hn11 rfl ?_
    show Steps p.tables e below (T2.setTop (mkF m 12 #[.val (.ref a0)] [(.double (FP.ddiv (FP.l2d w_localMisses_a0) (FP.l2d w_reads_a0))), (.double FP.dconst1)])) _
    refine XS.dsubS X2.here hx rfl (hb hby d4_12) rfl hn12 rfl ?_
    show Steps p.tables e below (T2.setTop (mkF m 13 #[.val (.ref a0)] [(.double (FP.dsub FP.dconst1 (FP.ddiv (FP.l2d w_localMisses_a0) (FP.l2d w_reads_a0))))])) _
    exact retD X2 hx Bd.returns (hb hby d4_13) hr
  · show Q4 Z a0 w_localMisses_a0 w_reads_a0 h0 n0 _ T2.heap _
    rw [e2]
    exact ⟨rfl, N0, rfl⟩
theorem pn_0 : plainName "com/example/duotier/duotier/bench/TallyLocalHitRatioPinLaw" = true := by first | (simp [plainName, overriddenIn]; done) | decide +kernel
theorem ef_0 (m : MethodId) (q0 : Int64) (q1 : Int64) (q2 : Int64) (q3 : Int64) (q4 : Int64) (p5 : Int32) : entryFrame m #[(.long q0), (.long q1), (.long q2), (.long q3), (.long q4), (.int p5)] maxLocals = mkF m 0 #[.val (.long q0), .second, .val (.long q1), .second, .val (.long q2), .second, .val (.long q3), .second, .val (.long q4), .second, .val (.int p5), .unset, .unset, .unset, .unset, .unset, .unset, .unset, .unset, .unset, .unset, .unset, .unset] [] := by first | (simp [entryFrame, mkF, argsToLocals, Value.category, maxLocals]; done) | rfl
def Q0 (Z : State) (q0 : Int64) (q1 : Int64) (q2 : Int64) (q3 : Int64) (q4 : Int64) (p5 : Int32) (h0 : Heap) (n0 : Nat) (v : Option Value) (h : Heap) (L : List Loc) : Prop := v = some (.int (1 : Int32)) ∧ Fr n0 L
set_option maxRecDepth 65536 in
set_option maxHeartbeats 40000000 in
theorem rm0 (l : Launch) (Z : State) (aw : Array Value) (hw : ∀ d ∈ tables_1, d.before aw Z = true) (ws : List Jvm.Cond) (q0 : Int64) (q1 : Int64) (q2 : Int64) (q3 : Int64) (q4 : Int64) (p5 : Int32) (h0 : Heap) (n0 : Nat) (Z0 : n0 ≤ h0.size) (hz108 : ((j0_9_l12 q0 q1 q2 q3 q4 p5) + (1 : Int64)) ≠ (0 : Int64)) (hs109 : (Jvm.Free.Fl.Plain1 (j0_9_l14 q0 q1 q2 q3 q4 p5) ∧ Jvm.Free.Fl.Plain1 (j0_9_l15 q0 q1 q2 q3 q4 p5)) ∨ ((∃ old, (j0_9_l14 q0 q1 q2 q3 q4 p5) = .val old ∧ old.category = 2) ∧ (j0_9_l15 q0 q1 q2 q3 q4 p5) = .second)) (hn11_151 : Jvm.Free.Fl.NoNaN64 (FP.ddiv (FP.l2d (j0_127_l14 q0 q1 q2 q3 q4 p5)) (FP.l2d (j0_9_l12 q0 q1 q2 q3 q4 p5)))) (hn12_151 : Jvm.Free.Fl.NoNaN64 (FP.dsub FP.dconst1 (FP.ddiv (FP.l2d (j0_127_l14 q0 q1 q2 q3 q4 p5)) (FP.l2d (j0_9_l12 q0 q1 q2 q3 q4 p5))))) (hn11_169 : Jvm.Free.Fl.NoNaN64 (FP.ddiv (FP.l2d (v0_122 q0 q1 q2 q3 q4 p5)) (FP.l2d (j0_9_l12 q0 q1 q2 q3 q4 p5)))) (hn12_169 : Jvm.Free.Fl.NoNaN64 (FP.dsub FP.dconst1 (FP.ddiv (FP.l2d (v0_122 q0 q1 q2 q3 q4 p5)) (FP.l2d (j0_9_l12 q0 q1 q2 q3 q4 p5))))) (hn484 : Jvm.Free.Fl.NoNaN64 (FP.ddiv (FP.l2d ((j0_9_l12 q0 q1 q2 q3 q4 p5) - (j0_127_l14 q0 q1 q2 q3 q4 p5))) (FP.l2d (j0_9_l12 q0 q1 q2 q3 q4 p5)))) (hn512 : Jvm.Free.Fl.NoNaN64 (FP.ddiv (FP.l2d ((j0_9_l12 q0 q1 q2 q3 q4 p5) - (v0_122 q0 q1 q2 q3 q4 p5))) (FP.l2d (j0_9_l12 q0 q1 q2 q3 q4 p5)))) (hres526 : (j0_465_l22 q0 q1 q2 q3 q4 p5) = (1 : Int32)) :
    MetFree l x (head1 (Jvm.Cond.code x code maxLocals ret :: ws) room_1) (fun a U => a = #[(.long q0), (.long q1), (.long q2), (.long q3), (.long q4), (.int p5)] ∧ Z.Warmed39 U.vm ∧ U.heap = h0) (fun _ _ _ _ _ => True) (fun _ U o U' => ∃ v L, o = .returned v ∧ Q0 Z q0 q1 q2 q3 q4 p5 h0 n0 v U'.heap L ∧ FrameEnd U o U' L 2 8) := by
  refine MetFree.of_bodySF (plainFor_of_name pn_0) hisR ?_
  intro p e s m args below meth c s₁ Bd hml0 hP hK
  obtain ⟨rfl, hZ, hh⟩ := hP
  have hx := Bd.exec
  have hby := Bd.bytes
  have hml : c.maxLocals = 23 := hml0
  have hown : s.vm.findClass "com/example/duotier/duotier/bench/TallyLocalHitRatioPinLaw" = some m.cls := findClass_of_methodNamed Bd.named
  have hnm := (name_of_methodNamed Bd.named Bd.method).1
  have X0 : Stand p l e room_1 s m #[(.long q0), (.long q1), (.long q2), (.long q3), (.long q4), (.int p5)] below meth c s₁ [] 0 0 := Stand.of_body Bd
  have e0 : s₁.heap = h0 := by rw [← hh, Bd.state]; rfl
  have N0 := Fr.nil n0
  have pre0 : ∀ t, Steps p.tables e below (s₁.setTop (mkF m 0 #[.val (.long q0), .second, .val (.long q1), .second, .val (.long q2), .second, .val (.long q3), .second, .val (.long q4), .second, .val (.int p5), .unset, .unset, .unset, .unset, .unset, .unset, .unset, .unset, .unset, .unset, .unset, .unset] [])) t → Steps p.tables e below (s₁.setTop (entryFrame m #[(.long q0), (.long q1), (.long q2), (.long q3), (.long q4), (.int p5)] maxLocals)) t := fun t k => castTop (ef_0 m q0 q1 q2 q3 q4 p5) k
  obtain ⟨T1, h1, X1, e1, E1, A1, D1, -, st1⟩ := newO X0 hx hZ hown (hw _ (List.mem_of_getElem? (i := 2) rfl)) (hw _ (List.mem_of_getElem? (i := 3) rfl)) (hw _ (List.mem_of_getElem? (i := 4) rfl)) e0 (g := (mkF m 138 #[.val (.long q0), .second, .val (.long q1), .second, .val (.long q2), .second, .val (.long q3), .second, .val (.long q4), .second, .val (.int p5), .val (.int (v0_4 q0 q1 q2 q3 q4 p5)), .val (.long (j0_9_l12 q0 q1 q2 q3 q4 p5)), .second, .val (.long (j0_127_l14 q0 q1 q2 q3 q4 p5)), .second, .val (.long (v0_122 q0 q1 q2 q3 q4 p5)), .second, .unset, .unset, .unset, .unset, .unset] [])) rfl (hb hby at_138) (by decide) (by decide)
  obtain ⟨b1, g1⟩ : ∃ z, z = h0.size := ⟨_, rfl⟩
  rw [← g1] at A1 D1 st1
  have g_b1 : n0 ≤ b1 := Nat.le_trans Z0 (Nat.le_of_eq g1.symm)
  have z1 : n0 ≤ h1.size := Nat.le_trans Z0 E1.1
  have F1_operations : Fld Z h1 b1 "com/example/duotier/duotier/bench/Tally" "operations" "J" (.long (0 : Int64)) := D1 (Or.inr (hw _ (List.mem_of_getElem? (i := 17) rfl))) (ty := .long) (by decide)
  have F1_reads : Fld Z h1 b1 "com/example/duotier/duotier/bench/Tally" "reads" "J" (.long (0 : Int64)) := D1 (Or.inr (hw _ (List.mem_of_getElem? (i := 19) rfl))) (ty := .long) (by decide)
  have F1_localMisses : Fld Z h1 b1 "com/example/duotier/duotier/bench/Tally" "localMisses" "J" (.long (0 : Int64)) := D1 (Or.inr (hw _ (List.mem_of_getElem? (i := 21) rfl))) (ty := .long) (by decide)
  have F1_nanos : Fld Z h1 b1 "com/example/duotier/duotier/bench/Tally" "nanos" "J" (.long (0 : Int64)) := D1 (Or.inr (hw _ (List.mem_of_getElem? (i := 23) rfl))) (ty := .long) (by decide)
  obtain ⟨_, _, ⟨T2, L2, k2, n2⟩, -, X2, ⟨Lc2, hQ2, l2, y2, z2'⟩, st2⟩ := X1.specialBack hx (y := (⟨"com/example/duotier/duotier/bench/Tally", "<init>", "(JJJJ)V"⟩ : MethodName)) rfl hown (mvT hZ (hw _ (List.mem_of_getElem? (i := 5) rfl))) (mvT hZ (hw _ (List.mem_of_getElem? (i := 6) rfl))) (mvT hZ (hw _ (List.mem_of_getElem? (i := 7) rfl))) (by decide) (backOf (W := 1) (rm1 l Z aw hw [] b1 q0 (j0_9_l12 q0 q1 q2 q3 q4 p5) (j0_127_l14 q0 q1 q2 q3 q4 p5) q1 (.long (0 : Int64)) (.long (0 : Int64)) (.long (0 : Int64)) (.long (0 : Int64)) h1 n0 z1 A1 F1_operations F1_reads F1_localMisses F1_nanos g_b1) hZ (hw _ (List.mem_of_getElem? (i := 7) rfl)) (hw _ (List.mem_of_getElem? (i := 4) rfl)) (by decide) (by decide)) (g := (mkF m 148 #[.val (.long q0), .second, .val (.long q1), .second, .val (.long q2), .second, .val (.long q3), .second, .val (.long q4), .second, .val (.int p5), .val (.int (v0_4 q0 q1 q2 q3 q4 p5)), .val (.long (j0_9_l12 q0 q1 q2 q3 q4 p5)), .second, .val (.long (j0_127_l14 q0 q1 q2 q3 q4 p5)), .second, .val (.long (v0_122 q0 q1 q2 q3 q4 p5)), .second, .unset, .unset, .unset, .unset, .unset] [(.long q1), (.long (j0_127_l14 q0 q1 q2 q3 q4 p5)), (.long (j0_9_l12 q0 q1 q2 q3 q4 p5)), (.long q0), (.ref b1), (.ref b1)])) rfl (by rw [hml]; rfl) (Steps.refl _) (a := b1) (argsL := [(.long q0), (.long (j0_9_l12 q0 q1 q2 q3 q4 p5)), (.long (j0_127_l14 q0 q1 q2 q3 q4 p5)), (.long q1)]) (rest := [(.ref b1)]) (lenOf pd_1 rfl) rfl (by show 2 * 0 + _ ≤ _; exact Nat.le_of_eq rfl) (hb hby at_148) (fun _ _ => ⟨rfl, e1, (by decide : 1 + 0 ≤ _), (by decide : 4 + 0 ≤ _)⟩)
  dsimp only [Pt.U, Pt.locs, Pt.cells, Pt.slots] at X2 l2 y2 z2' st2 hQ2
  subst l2 y2 z2'
  obtain ⟨rfl, N2q, K2q, x2, f2_k0, f2_k1, f2_k2, f2_k3⟩ := hQ2
  have z2 : n0 ≤ T2.heap.size := Nat.le_trans z1 K2q.1
  have N2 := Fr.app N0 N2q
  obtain ⟨cq3, kq3, q3a, q3b, q3c⟩ := isOf hZ rfl x2
  obtain ⟨_, _, ⟨T3, L3, k3, n3⟩, -, X3, ⟨Lc3, hQ3, l3, y3, z3'⟩, st3⟩ := X2.virtualBack hx (y := (⟨"com/example/duotier/duotier/bench/Tally", "localHitRatio", "()D"⟩ : MethodName)) (z := (⟨"com/example/duotier/duotier/bench/Tally", "localHitRatio", "()D"⟩ : MethodName)) hown (mvT hZ (hw _ (List.mem_of_getElem? (i := 24) rfl))) (mvT hZ (hw _ (List.mem_of_getElem? (i := 25) rfl))) (notFace_of_selects (args := #[]) (mvT hZ (hw _ (List.mem_of_getElem? (i := 27) rfl)))) (mvT hZ (hw _ (List.mem_of_getElem? (i := 27) rfl))) (mvT hZ (hw _ (List.mem_of_getElem? (i := 26) rfl))) (by decide) (backOf (W := 0) (rm4 l Z aw hw [] b1 (j0_127_l14 q0 q1 q2 q3 q4 p5) (j0_9_l12 q0 q1 q2 q3 q4 p5) T2.heap n0 z2 f2_k2 f2_k1 hn11_151 hn12_151) hZ (hw _ (List.mem_of_getElem? (i := 28) rfl)) (hw _ (List.mem_of_getElem? (i := 4) rfl)) (by decide) (by decide)) q3a q3c (g := (mkF m 151 #[.val (.long q0), .second, .val (.long q1), .second, .val (.long q2), .second, .val (.long q3), .second, .val (.long q4), .second, .val (.int p5), .val (.int (v0_4 q0 q1 q2 q3 q4 p5)), .val (.long (j0_9_l12 q0 q1 q2 q3 q4 p5)), .second, .val (.long (j0_127_l14 q0 q1 q2 q3 q4 p5)), .second, .val (.long (v0_122 q0 q1 q2 q3 q4 p5)), .second, .unset, .unset, .unset, .unset, .unset] [(.ref b1)])) rfl (by rw [hml]; rfl) (Steps.refl _) (argsL := []) (rest := []) (lenOf pd_2 rfl) rfl (by show 2 * 0 + _ ≤ _; exact Nat.le_of_eq rfl) (hb hby at_151) (fun _ _ => ⟨rfl, rfl, (by decide : 1 + 0 ≤ _), (by decide : 4 + 0 ≤ _)⟩)
  dsimp only [Pt.U, Pt.locs, Pt.cells, Pt.slots] at X3 l3 y3 z3' st3 hQ3
  subst l3 y3 z3'
  obtain ⟨rfl, N3q, hq3⟩ := hQ3
  have f3_0 : Exa Z T3.heap b1 "com/example/duotier/duotier/bench/Tally" := by rw [hq3]; exact x2
  have f3_1 : Fld Z T3.heap b1 "com/example/duotier/duotier/bench/Tally" "operations" "J" (.long q0) := by rw [hq3]; exact f2_k0
  have f3_2 : Fld Z T3.heap b1 "com/example/duotier/duotier/bench/Tally" "reads" "J" (.long (j0_9_l12 q0 q1 q2 q3 q4 p5)) := by rw [hq3]; exact f2_k1
  have f3_3 : Fld Z T3.heap b1 "com/example/duotier/duotier/bench/Tally" "localMisses" "J" (.long (j0_127_l14 q0 q1 q2 q3 q4 p5)) := by rw [hq3]; exact f2_k2
  have f3_4 : Fld Z T3.heap b1 "com/example/duotier/duotier/bench/Tally" "nanos" "J" (.long q1) := by rw [hq3]; exact f2_k3
  have z3 : n0 ≤ T3.heap.size := by rw [hq3]; exact z2
  have N3 := Fr.app N2 N3q
  obtain ⟨T4, h4, X4, e4, E4, A4, D4, -, st4⟩ := newO X3 hx hZ hown (hw _ (List.mem_of_getElem? (i := 2) rfl)) (hw _ (List.mem_of_getElem? (i := 3) rfl)) (hw _ (List.mem_of_getElem? (i := 4) rfl)) rfl (g := (mkF m 156 #[.val (.long q0), .second, .val (.long q1), .second, .val (.long q2), .second, .val (.long q3), .second, .val (.long q4), .second, .val (.int p5), .val (.int (v0_4 q0 q1 q2 q3 q4 p5)), .val (.long (j0_9_l12 q0 q1 q2 q3 q4 p5)), .second, .val (.long (j0_127_l14 q0 q1 q2 q3 q4 p5)), .second, .val (.long (v0_122 q0 q1 q2 q3 q4 p5)), .second, .val (.double (v0_154 q0 q1 q2 q3 q4 p5)), .second, .unset, .unset, .unset] [])) rfl (hb hby at_156) (by decide) (by decide)
  obtain ⟨b4, g4⟩ : ∃ z, z = T3.heap.size := ⟨_, rfl⟩
  rw [← g4] at A4 D4 st4
  have ne_b1_b4 : b1 ≠ b4 := Nat.ne_of_lt (Nat.lt_of_lt_of_eq f3_0.lt g4.symm)
  have ne_b4_b1 := ne_b1_b4.symm
  have f4_0 : Exa Z h4 b1 "com/example/duotier/duotier/bench/Tally" := f3_0.ext E4
  have f4_1 : Fld Z h4 b1 "com/example/duotier/duotier/bench/Tally" "operations" "J" (.long q0) := f3_1.ext E4
  have f4_2 : Fld Z h4 b1 "com/example/duotier/duotier/bench/Tally" "reads" "J" (.long (j0_9_l12 q0 q1 q2 q3 q4 p5)) := f3_2.ext E4
  have f4_3 : Fld Z h4 b1 "com/example/duotier/duotier/bench/Tally" "localMisses" "J" (.long (j0_127_l14 q0 q1 q2 q3 q4 p5)) := f3_3.ext E4
  have f4_4 : Fld Z h4 b1 "com/example/duotier/duotier/bench/Tally" "nanos" "J" (.long q1) := f3_4.ext E4
  have g_b4 : n0 ≤ b4 := Nat.le_trans z3 (Nat.le_of_eq g4.symm)
  have z4 : n0 ≤ h4.size := Nat.le_trans z3 E4.1
  have F4_operations : Fld Z h4 b4 "com/example/duotier/duotier/bench/Tally" "operations" "J" (.long (0 : Int64)) := D4 (Or.inr (hw _ (List.mem_of_getElem? (i := 17) rfl))) (ty := .long) (by decide)
  have F4_reads : Fld Z h4 b4 "com/example/duotier/duotier/bench/Tally" "reads" "J" (.long (0 : Int64)) := D4 (Or.inr (hw _ (List.mem_of_getElem? (i := 19) rfl))) (ty := .long) (by decide)
  have F4_localMisses : Fld Z h4 b4 "com/example/duotier/duotier/bench/Tally" "localMisses" "J" (.long (0 : Int64)) := D4 (Or.inr (hw _ (List.mem_of_getElem? (i := 21) rfl))) (ty := .long) (by decide)
  have F4_nanos : Fld Z h4 b4 "com/example/duotier/duotier/bench/Tally" "nanos" "J" (.long (0 : Int64)) := D4 (Or.inr (hw _ (List.mem_of_getElem? (i := 23) rfl))) (ty := .long) (by decide)
  obtain ⟨_, _, ⟨T5, L5, k5, n5⟩, -, X5, ⟨Lc5, hQ5, l5, y5, z5'⟩, st5⟩ := X4.specialBack hx (y := (⟨"com/example/duotier/duotier/bench/Tally", "<init>", "(JJJJ)V"⟩ : MethodName)) rfl hown (mvT hZ (hw _ (List.mem_of_getElem? (i := 5) rfl))) (mvT hZ (hw _ (List.mem_of_getElem? (i := 6) rfl))) (mvT hZ (hw _ (List.mem_of_getElem? (i := 7) rfl))) (by decide) (backOf (W := 1) (rm1 l Z aw hw [] b4 q1 (j0_9_l12 q0 q1 q2 q3 q4 p5) (v0_122 q0 q1 q2 q3 q4 p5) q0 (.long (0 : Int64)) (.long (0 : Int64)) (.long (0 : Int64)) (.long (0 : Int64)) h4 n0 z4 A4 F4_operations F4_reads F4_localMisses F4_nanos g_b4) hZ (hw _ (List.mem_of_getElem? (i := 7) rfl)) (hw _ (List.mem_of_getElem? (i := 4) rfl)) (by decide) (by decide)) (g := (mkF m 166 #[.val (.long q0), .second, .val (.long q1), .second, .val (.long q2), .second, .val (.long q3), .second, .val (.long q4), .second, .val (.int p5), .val (.int (v0_4 q0 q1 q2 q3 q4 p5)), .val (.long (j0_9_l12 q0 q1 q2 q3 q4 p5)), .second, .val (.long (j0_127_l14 q0 q1 q2 q3 q4 p5)), .second, .val (.long (v0_122 q0 q1 q2 q3 q4 p5)), .second, .val (.double (v0_154 q0 q1 q2 q3 q4 p5)), .second, .unset, .unset, .unset] [(.long q0), (.long (v0_122 q0 q1 q2 q3 q4 p5)), (.long (j0_9_l12 q0 q1 q2 q3 q4 p5)), (.long q1), (.ref b4), (.ref b4)])) rfl (by rw [hml]; rfl) (Steps.refl _) (a := b4) (argsL := [(.long q1), (.long (j0_9_l12 q0 q1 q2 q3 q4 p5)), (.long (v0_122 q0 q1 q2 q3 q4 p5)), (.long q0)]) (rest := [(.ref b4)]) (lenOf pd_1 rfl) rfl (by show 2 * 0 + _ ≤ _; exact Nat.le_of_eq rfl) (hb hby at_166) (fun _ _ => ⟨rfl, e4, (by decide : 2 + 0 ≤ _), (by decide : 8 + 0 ≤ _)⟩)
  dsimp only [Pt.U, Pt.locs, Pt.cells, Pt.slots] at X5 l5 y5 z5' st5 hQ5
  subst l5 y5 z5'
  obtain ⟨rfl, N5q, K5q, x5, f5_k0, f5_k1, f5_k2, f5_k3⟩ := hQ5
  have f5_0 : Exa Z T5.heap b1 "com/example/duotier/duotier/bench/Tally" := f4_0.keep K5q
  have f5_1 : Fld Z T5.heap b1 "com/example/duotier/duotier/bench/Tally" "operations" "J" (.long q0) := f4_1.keep K5q (by simpa using ne_b1_b4)
  have f5_2 : Fld Z T5.heap b1 "com/example/duotier/duotier/bench/Tally" "reads" "J" (.long (j0_9_l12 q0 q1 q2 q3 q4 p5)) := f4_2.keep K5q (by simpa using ne_b1_b4)
  have f5_3 : Fld Z T5.heap b1 "com/example/duotier/duotier/bench/Tally" "localMisses" "J" (.long (j0_127_l14 q0 q1 q2 q3 q4 p5)) := f4_3.keep K5q (by simpa using ne_b1_b4)
  have f5_4 : Fld Z T5.heap b1 "com/example/duotier/duotier/bench/Tally" "nanos" "J" (.long q1) := f4_4.keep K5q (by simpa using ne_b1_b4)
  have z5 : n0 ≤ T5.heap.size := Nat.le_trans z4 K5q.1
  have N5 := Fr.app N3 N5q
  obtain ⟨cq6, kq6, q6a, q6b, q6c⟩ := isOf hZ rfl x5
  obtain ⟨_, _, ⟨T6, L6, k6, n6⟩, -, X6, ⟨Lc6, hQ6, l6, y6, z6'⟩, st6⟩ := X5.virtualBack hx (y := (⟨"com/example/duotier/duotier/bench/Tally", "localHitRatio", "()D"⟩ : MethodName)) (z := (⟨"com/example/duotier/duotier/bench/Tally", "localHitRatio", "()D"⟩ : MethodName)) hown (mvT hZ (hw _ (List.mem_of_getElem? (i := 24) rfl))) (mvT hZ (hw _ (List.mem_of_getElem? (i := 25) rfl))) (notFace_of_selects (args := #[]) (mvT hZ (hw _ (List.mem_of_getElem? (i := 27) rfl)))) (mvT hZ (hw _ (List.mem_of_getElem? (i := 27) rfl))) (mvT hZ (hw _ (List.mem_of_getElem? (i := 26) rfl))) (by decide) (backOf (W := 0) (rm4 l Z aw hw [] b4 (v0_122 q0 q1 q2 q3 q4 p5) (j0_9_l12 q0 q1 q2 q3 q4 p5) T5.heap n0 z5 f5_k2 f5_k1 hn11_169 hn12_169) hZ (hw _ (List.mem_of_getElem? (i := 28) rfl)) (hw _ (List.mem_of_getElem? (i := 4) rfl)) (by decide) (by decide)) q6a q6c (g := (mkF m 169 #[.val (.long q0), .second, .val (.long q1), .second, .val (.long q2), .second, .val (.long q3), .second, .val (.long q4), .second, .val (.int p5), .val (.int (v0_4 q0 q1 q2 q3 q4 p5)), .val (.long (j0_9_l12 q0 q1 q2 q3 q4 p5)), .second, .val (.long (j0_127_l14 q0 q1 q2 q3 q4 p5)), .second, .val (.long (v0_122 q0 q1 q2 q3 q4 p5)), .second, .val (.double (v0_154 q0 q1 q2 q3 q4 p5)), .second, .unset, .unset, .unset] [(.ref b4)])) rfl (by rw [hml]; rfl) (Steps.refl _) (argsL := []) (rest := []) (lenOf pd_2 rfl) rfl (by show 2 * 0 + _ ≤ _; exact Nat.le_of_eq rfl) (hb hby at_169) (fun _ _ => ⟨rfl, rfl, (by decide : 2 + 0 ≤ _), (by decide : 8 + 0 ≤ _)⟩)
  dsimp only [Pt.U, Pt.locs, Pt.cells, Pt.slots] at X6 l6 y6 z6' st6 hQ6
  subst l6 y6 z6'
  obtain ⟨rfl, N6q, hq6⟩ := hQ6
  have f6_0 : Exa Z T6.heap b1 "com/example/duotier/duotier/bench/Tally" := by rw [hq6]; exact f5_0
  have f6_1 : Fld Z T6.heap b1 "com/example/duotier/duotier/bench/Tally" "operations" "J" (.long q0) := by rw [hq6]; exact f5_1
  have f6_2 : Fld Z T6.heap b1 "com/example/duotier/duotier/bench/Tally" "reads" "J" (.long (j0_9_l12 q0 q1 q2 q3 q4 p5)) := by rw [hq6]; exact f5_2
  have f6_3 : Fld Z T6.heap b1 "com/example/duotier/duotier/bench/Tally" "localMisses" "J" (.long (j0_127_l14 q0 q1 q2 q3 q4 p5)) := by rw [hq6]; exact f5_3
  have f6_4 : Fld Z T6.heap b1 "com/example/duotier/duotier/bench/Tally" "nanos" "J" (.long q1) := by rw [hq6]; exact f5_4
  have f6_5 : Exa Z T6.heap b4 "com/example/duotier/duotier/bench/Tally" := by rw [hq6]; exact x5
  have f6_6 : Fld Z T6.heap b4 "com/example/duotier/duotier/bench/Tally" "operations" "J" (.long q1) := by rw [hq6]; exact f5_k0
  have f6_7 : Fld Z T6.heap b4 "com/example/duotier/duotier/bench/Tally" "reads" "J" (.long (j0_9_l12 q0 q1 q2 q3 q4 p5)) := by rw [hq6]; exact f5_k1
  have f6_8 : Fld Z T6.heap b4 "com/example/duotier/duotier/bench/Tally" "localMisses" "J" (.long (v0_122 q0 q1 q2 q3 q4 p5)) := by rw [hq6]; exact f5_k2
  have f6_9 : Fld Z T6.heap b4 "com/example/duotier/duotier/bench/Tally" "nanos" "J" (.long q0) := by rw [hq6]; exact f5_k3
  have z6 : n0 ≤ T6.heap.size := by rw [hq6]; exact z5
  have N6 := Fr.app N5 N6q
  obtain ⟨fs, hr, hrun, hended, hW, hsame⟩ := X6.leave (v := some (.int (1 : Int32))) (fun h => by rw [Bd.returns] at h; cases h)
  refine ⟨_, _, pre0 _ ?_, hrun, hended, _, _, rfl, ?_, ⟨_, rfl⟩, hW, hsame.mono (by decide) (by decide)⟩
  · show Steps p.tables e below (s₁.setTop (mkF m 0 #[.val (.long q0), .second, .val (.long q1), .second, .val (.long q2), .second, .val (.long q3), .second, .val (.long q4), .second, .val (.int p5), .unset, .unset, .unset, .unset, .unset, .unset, .unset, .unset, .unset, .unset, .unset, .unset] [])) _
    refine XS.iload X0.here hx rfl (hb hby at_0) rfl ?_
    show Steps p.tables e below (s₁.setTop (mkF m 2 #[.val (.long q0), .second, .val (.long q1), .second, .val (.long q2), .second, .val (.long q3), .second, .val (.long q4), .second, .val (.int p5), .unset, .unset, .unset, .unset, .unset, .unset, .unset, .unset, .unset, .unset, .unset, .unset] [(.int p5)])) _
    refine XS.iconst X0.here hx rfl (hb hby at_2) ?_
    show Steps p.tables e below (s₁.setTop (mkF m 3 #[.val (.long q0), .second, .val (.long q1), .second, .val (.long q2), .second, .val (.long q3), .second, .val (.long q4), .second, .val (.int p5), .unset, .unset, .unset, .unset, .unset, .unset, .unset, .unset, .unset, .unset, .unset, .unset] [(.int (3 : Int32)), (.int p5)])) _
    refine XS.iand X0.here hx rfl (hb hby at_3) rfl ?_
    show Steps p.tables e below (s₁.setTop (mkF m 4 #[.val (.long q0), .second, .val (.long q1), .second, .val (.long q2), .second, .val (.long q3), .second, .val (.long q4), .second, .val (.int p5), .unset, .unset, .unset, .unset, .unset, .unset, .unset, .unset, .unset, .unset, .unset, .unset] [(.int (p5 &&& (3 : Int32)))])) _
    refine XS.istore X0.here hx rfl (hb hby at_4) rfl (l' := #[.val (.long q0), .second, .val (.long q1), .second, .val (.long q2), .second, .val (.long q3), .second, .val (.long q4), .second, .val (.int p5), .val (.int (v0_4 q0 q1 q2 q3 q4 p5)), .unset, .unset, .unset, .unset, .unset, .unset, .unset, .unset, .unset, .unset, .unset]) rfl ?_
    show Steps p.tables e below (s₁.setTop (mkF m 6 #[.val (.long q0), .second, .val (.long q1), .second, .val (.long q2), .second, .val (.long q3), .second, .val (.long q4), .second, .val (.int p5), .val (.int (v0_4 q0 q1 q2 q3 q4 p5)), .unset, .unset, .unset, .unset, .unset, .unset, .unset, .unset, .unset, .unset, .unset] [])) _
    refine XS.iload X0.here hx rfl (hb hby at_6) rfl ?_
    show Steps p.tables e below (s₁.setTop (mkF m 8 #[.val (.long q0), .second, .val (.long q1), .second, .val (.long q2), .second, .val (.long q3), .second, .val (.long q4), .second, .val (.int p5), .val (.int (v0_4 q0 q1 q2 q3 q4 p5)), .unset, .unset, .unset, .unset, .unset, .unset, .unset, .unset, .unset, .unset, .unset] [(.int (v0_4 q0 q1 q2 q3 q4 p5))])) _
    refine XS.iconst X0.here hx rfl (hb hby at_8) ?_
    show Steps p.tables e below (s₁.setTop (mkF m 9 #[.val (.long q0), .second, .val (.long q1), .second, .val (.long q2), .second, .val (.long q3), .second, .val (.long q4), .second, .val (.int p5), .val (.int (v0_4 q0 q1 q2 q3 q4 p5)), .unset, .unset, .unset, .unset, .unset, .unset, .unset, .unset, .unset, .unset, .unset] [(.int (1 : Int32)), (.int (v0_4 q0 q1 q2 q3 q4 p5))])) _
    suffices kt9 : Steps p.tables e below (s₁.setTop (mkF m 98 #[.val (.long q0), .second, .val (.long q1), .second, .val (.long q2), .second, .val (.long q3), .second, .val (.long q4), .second, .val (.int p5), .val (.int (v0_4 q0 q1 q2 q3 q4 p5)), .val (.long (j0_9_l12 q0 q1 q2 q3 q4 p5)), .second, (j0_9_l14 q0 q1 q2 q3 q4 p5), (j0_9_l15 q0 q1 q2 q3 q4 p5), .unset, .unset, .unset, .unset, .unset, .unset, .unset] [])) (T6.setFrames fs) by
      by_cases hc9 : if_icmp.holds .ne (v0_4 q0 q1 q2 q3 q4 p5) (1 : Int32) = true
      · rw [show (j0_9_l12 q0 q1 q2 q3 q4 p5) = (j0_29_l12 q0 q1 q2 q3 q4 p5) from if_pos hc9] at kt9
        rw [show (j0_9_l14 q0 q1 q2 q3 q4 p5) = (j0_29_l14 q0 q1 q2 q3 q4 p5) from if_pos hc9] at kt9
        rw [show (j0_9_l15 q0 q1 q2 q3 q4 p5) = (j0_29_l15 q0 q1 q2 q3 q4 p5) from if_pos hc9] at kt9
        refine XS.icmpYes X0.here hx rfl (pc0 := 9) (pc' := 26) rfl (hb hby at_9) rfl hc9 (by decide) (by decide) ?_
        show Steps p.tables e below (s₁.setTop (mkF m 26 #[.val (.long q0), .second, .val (.long q1), .second, .val (.long q2), .second, .val (.long q3), .second, .val (.long q4), .second, .val (.int p5), .val (.int (v0_4 q0 q1 q2 q3 q4 p5)), .unset, .unset, .unset, .unset, .unset, .unset, .unset, .unset, .unset, .unset, .unset] [])) _
        refine XS.iload X0.here hx rfl (hb hby at_26) rfl ?_
        show Steps p.tables e below (s₁.setTop (mkF m 28 #[.val (.long q0), .second, .val (.long q1), .second, .val (.long q2), .second, .val (.long q3), .second, .val (.long q4), .second, .val (.int p5), .val (.int (v0_4 q0 q1 q2 q3 q4 p5)), .unset, .unset, .unset, .unset, .unset, .unset, .unset, .unset, .unset, .unset, .unset] [(.int (v0_4 q0 q1 q2 q3 q4 p5))])) _
        refine XS.iconst X0.here hx rfl (hb hby at_28) ?_
        show Steps p.tables e below (s₁.setTop (mkF m 29 #[.val (.long q0), .second, .val (.long q1), .second, .val (.long q2), .second, .val (.long q3), .second, .val (.long q4), .second, .val (.int p5), .val (.int (v0_4 q0 q1 q2 q3 q4 p5)), .unset, .unset, .unset, .unset, .unset, .unset, .unset, .unset, .unset, .unset, .unset] [(.int (2 : Int32)), (.int (v0_4 q0 q1 q2 q3 q4 p5))])) _
        suffices kt29 : Steps p.tables e below (s₁.setTop (mkF m 98 #[.val (.long q0), .second, .val (.long q1), .second, .val (.long q2), .second, .val (.long q3), .second, .val (.long q4), .second, .val (.int p5), .val (.int (v0_4 q0 q1 q2 q3 q4 p5)), .val (.long (j0_29_l12 q0 q1 q2 q3 q4 p5)), .second, (j0_29_l14 q0 q1 q2 q3 q4 p5), (j0_29_l15 q0 q1 q2 q3 q4 p5), .unset, .unset, .unset, .unset, .unset, .unset, .unset] [])) (T6.setFrames fs) by
          by_cases hc29 : if_icmp.holds .ne (v0_4 q0 q1 q2 q3 q4 p5) (2 : Int32) = true
          · rw [show (j0_29_l12 q0 q1 q2 q3 q4 p5) = (j0_48_l12 q0 q1 q2 q3 q4 p5) from if_pos hc29] at kt29
            rw [show (j0_29_l14 q0 q1 q2 q3 q4 p5) = (j0_48_l14 q0 q1 q2 q3 q4 p5) from if_pos hc29] at kt29
            rw [show (j0_29_l15 q0 q1 q2 q3 q4 p5) = (j0_48_l15 q0 q1 q2 q3 q4 p5) from if_pos hc29] at kt29
            refine XS.icmpYes X0.here hx rfl (pc0 := 29) (pc' := 45) rfl (hb hby at_29) rfl hc29 (by decide) (by decide) ?_
            show Steps p.tables e below (s₁.setTop (mkF m 45 #[.val (.long q0), .second, .val (.long q1), .second, .val (.long q2), .second, .val (.long q3), .second, .val (.long q4), .second, .val (.int p5), .val (.int (v0_4 q0 q1 q2 q3 q4 p5)), .unset, .unset, .unset, .unset, .unset, .unset, .unset, .unset, .unset, .unset, .unset] [])) _
            refine XS.iload X0.here hx rfl (hb hby at_45) rfl ?_
            show Steps p.tables e below (s₁.setTop (mkF m 47 #[.val (.long q0), .second, .val (.long q1), .second, .val (.long q2), .second, .val (.long q3), .second, .val (.long q4), .second, .val (.int p5), .val (.int (v0_4 q0 q1 q2 q3 q4 p5)), .unset, .unset, .unset, .unset, .unset, .unset, .unset, .unset, .unset, .unset, .unset] [(.int (v0_4 q0 q1 q2 q3 q4 p5))])) _
            refine XS.iconst X0.here hx rfl (hb hby at_47) ?_
            show Steps p.tables e below (s₁.setTop (mkF m 48 #[.val (.long q0), .second, .val (.long q1), .second, .val (.long q2), .second, .val (.long q3), .second, .val (.long q4), .second, .val (.int p5), .val (.int (v0_4 q0 q1 q2 q3 q4 p5)), .unset, .unset, .unset, .unset, .unset, .unset, .unset, .unset, .unset, .unset, .unset] [(.int (3 : Int32)), (.int (v0_4 q0 q1 q2 q3 q4 p5))])) _
            suffices kt48 : Steps p.tables e below (s₁.setTop (mkF m 98 #[.val (.long q0), .second, .val (.long q1), .second, .val (.long q2), .second, .val (.long q3), .second, .val (.long q4), .second, .val (.int p5), .val (.int (v0_4 q0 q1 q2 q3 q4 p5)), .val (.long (j0_48_l12 q0 q1 q2 q3 q4 p5)), .second, (j0_48_l14 q0 q1 q2 q3 q4 p5), (j0_48_l15 q0 q1 q2 q3 q4 p5), .unset, .unset, .unset, .unset, .unset, .unset, .unset] [])) (T6.setFrames fs) by
              by_cases hc48 : if_icmp.holds .ne (v0_4 q0 q1 q2 q3 q4 p5) (3 : Int32) = true
              · rw [show (j0_48_l12 q0 q1 q2 q3 q4 p5) = (j0_92_l12 q0 q1 q2 q3 q4 p5) from if_pos hc48] at kt48
                rw [show (j0_48_l14 q0 q1 q2 q3 q4 p5) = .unset from if_pos hc48] at kt48
                rw [show (j0_48_l15 q0 q1 q2 q3 q4 p5) = .unset from if_pos hc48] at kt48
                refine XS.icmpYes X0.here hx rfl (pc0 := 48) (pc' := 80) rfl (hb hby at_48) rfl hc48 (by decide) (by decide) ?_
                show Steps p.tables e below (s₁.setTop (mkF m 80 #[.val (.long q0), .second, .val (.long q1), .second, .val (.long q2), .second, .val (.long q3), .second, .val (.long q4), .second, .val (.int p5), .val (.int (v0_4 q0 q1 q2 q3 q4 p5)), .unset, .unset, .unset, .unset, .unset, .unset, .unset, .unset, .unset, .unset, .unset] [])) _
                refine XS.lload X0.here hx rfl (hb hby at_80) rfl ?_
                show Steps p.tables e below (s₁.setTop (mkF m 82 #[.val (.long q0), .second, .val (.long q1), .second, .val (.long q2), .second, .val (.long q3), .second, .val (.long q4), .second, .val (.int p5), .val (.int (v0_4 q0 q1 q2 q3 q4 p5)), .unset, .unset, .unset, .unset, .unset, .unset, .unset, .unset, .unset, .unset, .unset] [(.long q2)])) _
                refine X0.ldc2Long hx hown (mvT hZ (hw _ (List.mem_of_getElem? (i := 1) rfl))) (g := (mkF m 82 #[.val (.long q0), .second, .val (.long q1), .second, .val (.long q2), .second, .val (.long q3), .second, .val (.long q4), .second, .val (.int p5), .val (.int (v0_4 q0 q1 q2 q3 q4 p5)), .unset, .unset, .unset, .unset, .unset, .unset, .unset, .unset, .unset, .unset, .unset] [(.long q2)])) rfl (hb hby at_82) _ ?_
                show Steps p.tables e below (s₁.setTop (mkF m 85 #[.val (.long q0), .second, .val (.long q1), .second, .val (.long q2), .second, .val (.long q3), .second, .val (.long q4), .second, .val (.int p5), .val (.int (v0_4 q0 q1 q2 q3 q4 p5)), .unset, .unset, .unset, .unset, .unset, .unset, .unset, .unset, .unset, .unset, .unset] [(.long (9223372036854775807 : Int64)), (.long q2)])) _
                refine XS.land X0.here hx rfl (hb hby at_85) rfl ?_
                show Steps p.tables e below (s₁.setTop (mkF m 86 #[.val (.long q0), .second, .val (.long q1), .second, .val (.long q2), .second, .val (.long q3), .second, .val (.long q4), .second, .val (.int p5), .val (.int (v0_4 q0 q1 q2 q3 q4 p5)), .unset, .unset, .unset, .unset, .unset, .unset, .unset, .unset, .unset, .unset, .unset] [(.long (q2 &&& (9223372036854775807 : Int64)))])) _
                refine XS.lstore X0.here hx rfl (hb hby at_86) rfl (l' := #[.val (.long q0), .second, .val (.long q1), .second, .val (.long q2), .second, .val (.long q3), .second, .val (.long q4), .second, .val (.int p5), .val (.int (v0_4 q0 q1 q2 q3 q4 p5)), .val (.long (q2 &&& (9223372036854775807 : Int64))), .second, .unset, .unset, .unset, .unset, .unset, .unset, .unset, .unset, .unset]) rfl ?_
                show Steps p.tables e below (s₁.setTop (mkF m 88 #[.val (.long q0), .second, .val (.long q1), .second, .val (.long q2), .second, .val (.long q3), .second, .val (.long q4), .second, .val (.int p5), .val (.int (v0_4 q0 q1 q2 q3 q4 p5)), .val (.long (q2 &&& (9223372036854775807 : Int64))), .second, .unset, .unset, .unset, .unset, .unset, .unset, .unset, .unset, .unset] [])) _
                refine XS.lload X0.here hx rfl (hb hby at_88) rfl ?_
                show Steps p.tables e below (s₁.setTop (mkF m 90 #[.val (.long q0), .second, .val (.long q1), .second, .val (.long q2), .second, .val (.long q3), .second, .val (.long q4), .second, .val (.int p5), .val (.int (v0_4 q0 q1 q2 q3 q4 p5)), .val (.long (q2 &&& (9223372036854775807 : Int64))), .second, .unset, .unset, .unset, .unset, .unset, .unset, .unset, .unset, .unset] [(.long (q2 &&& (9223372036854775807 : Int64)))])) _
                refine XS.lconst X0.here hx rfl (hb hby at_90) ?_
                show Steps p.tables e below (s₁.setTop (mkF m 91 #[.val (.long q0), .second, .val (.long q1), .second, .val (.long q2), .second, .val (.long q3), .second, .val (.long q4), .second, .val (.int p5), .val (.int (v0_4 q0 q1 q2 q3 q4 p5)), .val (.long (q2 &&& (9223372036854775807 : Int64))), .second, .unset, .unset, .unset, .unset, .unset, .unset, .unset, .unset, .unset] [(.long (0 : Int64)), (.long (q2 &&& (9223372036854775807 : Int64)))])) _
                refine XS.lcmp X0.here hx rfl (hb hby at_91) rfl ?_
                show Steps p.tables e below (s₁.setTop (mkF m 92 #[.val (.long q0), .second, .val (.long q1), .second, .val (.long q2), .second, .val (.long q3), .second, .val (.long q4), .second, .val (.int p5), .val (.int (v0_4 q0 q1 q2 q3 q4 p5)), .val (.long (q2 &&& (9223372036854775807 : Int64))), .second, .unset, .unset, .unset, .unset, .unset, .unset, .unset, .unset, .unset] [(.int (lcmpW (q2 &&& (9223372036854775807 : Int64)) (0 : Int64)))])) _
                suffices kt92 : Steps p.tables e below (s₁.setTop (mkF m 98 #[.val (.long q0), .second, .val (.long q1), .second, .val (.long q2), .second, .val (.long q3), .second, .val (.long q4), .second, .val (.int p5), .val (.int (v0_4 q0 q1 q2 q3 q4 p5)), .val (.long (j0_92_l12 q0 q1 q2 q3 q4 p5)), .second, .unset, .unset, .unset, .unset, .unset, .unset, .unset, .unset, .unset] [])) (T6.setFrames fs) by
                  by_cases hc92 : ifCond.holds .ne (lcmpW (q2 &&& (9223372036854775807 : Int64)) (0 : Int64)) = true
                  · rw [show (j0_92_l12 q0 q1 q2 q3 q4 p5) = (q2 &&& (9223372036854775807 : Int64)) from if_pos hc92] at kt92
                    refine XS.ifYes X0.here hx rfl (pc0 := 92) (pc' := 98) rfl (hb hby at_92) rfl hc92 (by decide) (by decide) ?_
                    exact kt92
                  · rw [show (j0_92_l12 q0 q1 q2 q3 q4 p5) = (1 : Int64) from if_neg hc92] at kt92
                    refine XS.ifNo X0.here hx rfl (hb hby at_92) rfl (eq_false_of_ne_true hc92) ?_
                    show Steps p.tables e below (s₁.setTop (mkF m 95 #[.val (.long q0), .second, .val (.long q1), .second, .val (.long q2), .second, .val (.long q3), .second, .val (.long q4), .second, .val (.int p5), .val (.int (v0_4 q0 q1 q2 q3 q4 p5)), .val (.long (q2 &&& (9223372036854775807 : Int64))), .second, .unset, .unset, .unset, .unset, .unset, .unset, .unset, .unset, .unset] [])) _
                    refine XS.lconst X0.here hx rfl (hb hby at_95) ?_
                    show Steps p.tables e below (s₁.setTop (mkF m 96 #[.val (.long q0), .second, .val (.long q1), .second, .val (.long q2), .second, .val (.long q3), .second, .val (.long q4), .second, .val (.int p5), .val (.int (v0_4 q0 q1 q2 q3 q4 p5)), .val (.long (q2 &&& (9223372036854775807 : Int64))), .second, .unset, .unset, .unset, .unset, .unset, .unset, .unset, .unset, .unset] [(.long (1 : Int64))])) _
                    refine XS.lstore X0.here hx rfl (hb hby at_96) rfl (l' := #[.val (.long q0), .second, .val (.long q1), .second, .val (.long q2), .second, .val (.long q3), .second, .val (.long q4), .second, .val (.int p5), .val (.int (v0_4 q0 q1 q2 q3 q4 p5)), .val (.long (1 : Int64)), .second, .unset, .unset, .unset, .unset, .unset, .unset, .unset, .unset, .unset]) rfl ?_
                    exact kt92
                exact kt48
              · rw [show (j0_48_l12 q0 q1 q2 q3 q4 p5) = ((j0_63_l14 q0 q1 q2 q3 q4 p5) * (2 : Int64)) from if_neg hc48] at kt48
                rw [show (j0_48_l14 q0 q1 q2 q3 q4 p5) = .val (.long (j0_63_l14 q0 q1 q2 q3 q4 p5)) from if_neg hc48] at kt48
                rw [show (j0_48_l15 q0 q1 q2 q3 q4 p5) = .second from if_neg hc48] at kt48
                refine XS.icmpNo X0.here hx rfl (hb hby at_48) rfl (eq_false_of_ne_true hc48) ?_
                show Steps p.tables e below (s₁.setTop (mkF m 51 #[.val (.long q0), .second, .val (.long q1), .second, .val (.long q2), .second, .val (.long q3), .second, .val (.long q4), .second, .val (.int p5), .val (.int (v0_4 q0 q1 q2 q3 q4 p5)), .unset, .unset, .unset, .unset, .unset, .unset, .unset, .unset, .unset, .unset, .unset] [])) _
                refine XS.lload X0.here hx rfl (hb hby at_51) rfl ?_
                show Steps p.tables e below (s₁.setTop (mkF m 53 #[.val (.long q0), .second, .val (.long q1), .second, .val (.long q2), .second, .val (.long q3), .second, .val (.long q4), .second, .val (.int p5), .val (.int (v0_4 q0 q1 q2 q3 q4 p5)), .unset, .unset, .unset, .unset, .unset, .unset, .unset, .unset, .unset, .unset, .unset] [(.long q2)])) _
                refine X0.ldc2Long hx hown (mvT hZ (hw _ (List.mem_of_getElem? (i := 31) rfl))) (g := (mkF m 53 #[.val (.long q0), .second, .val (.long q1), .second, .val (.long q2), .second, .val (.long q3), .second, .val (.long q4), .second, .val (.int p5), .val (.int (v0_4 q0 q1 q2 q3 q4 p5)), .unset, .unset, .unset, .unset, .unset, .unset, .unset, .unset, .unset, .unset, .unset] [(.long q2)])) rfl (hb hby at_53) _ ?_
                show Steps p.tables e below (s₁.setTop (mkF m 56 #[.val (.long q0), .second, .val (.long q1), .second, .val (.long q2), .second, .val (.long q3), .second, .val (.long q4), .second, .val (.int p5), .val (.int (v0_4 q0 q1 q2 q3 q4 p5)), .unset, .unset, .unset, .unset, .unset, .unset, .unset, .unset, .unset, .unset, .unset] [(.long (4611686018427387903 : Int64)), (.long q2)])) _
                refine XS.land X0.here hx rfl (hb hby at_56) rfl ?_
                show Steps p.tables e below (s₁.setTop (mkF m 57 #[.val (.long q0), .second, .val (.long q1), .second, .val (.long q2), .second, .val (.long q3), .second, .val (.long q4), .second, .val (.int p5), .val (.int (v0_4 q0 q1 q2 q3 q4 p5)), .unset, .unset, .unset, .unset, .unset, .unset, .unset, .unset, .unset, .unset, .unset] [(.long (q2 &&& (4611686018427387903 : Int64)))])) _
                refine XS.lstore X0.here hx rfl (hb hby at_57) rfl (l' := #[.val (.long q0), .second, .val (.long q1), .second, .val (.long q2), .second, .val (.long q3), .second, .val (.long q4), .second, .val (.int p5), .val (.int (v0_4 q0 q1 q2 q3 q4 p5)), .unset, .unset, .val (.long (q2 &&& (4611686018427387903 : Int64))), .second, .unset, .unset, .unset, .unset, .unset, .unset, .unset]) rfl ?_
                show Steps p.tables e below (s₁.setTop (mkF m 59 #[.val (.long q0), .second, .val (.long q1), .second, .val (.long q2), .second, .val (.long q3), .second, .val (.long q4), .second, .val (.int p5), .val (.int (v0_4 q0 q1 q2 q3 q4 p5)), .unset, .unset, .val (.long (q2 &&& (4611686018427387903 : Int64))), .second, .unset, .unset, .unset, .unset, .unset, .unset, .unset] [])) _
                refine XS.lload X0.here hx rfl (hb hby at_59) rfl ?_
                show Steps p.tables e below (s₁.setTop (mkF m 61 #[.val (.long q0), .second, .val (.long q1), .second, .val (.long q2), .second, .val (.long q3), .second, .val (.long q4), .second, .val (.int p5), .val (.int (v0_4 q0 q1 q2 q3 q4 p5)), .unset, .unset, .val (.long (q2 &&& (4611686018427387903 : Int64))), .second, .unset, .unset, .unset, .unset, .unset, .unset, .unset] [(.long (q2 &&& (4611686018427387903 : Int64)))])) _
                refine XS.lconst X0.here hx rfl (hb hby at_61) ?_
                show Steps p.tables e below (s₁.setTop (mkF m 62 #[.val (.long q0), .second, .val (.long q1), .second, .val (.long q2), .second, .val (.long q3), .second, .val (.long q4), .second, .val (.int p5), .val (.int (v0_4 q0 q1 q2 q3 q4 p5)), .unset, .unset, .val (.long (q2 &&& (4611686018427387903 : Int64))), .second, .unset, .unset, .unset, .unset, .unset, .unset, .unset] [(.long (0 : Int64)), (.long (q2 &&& (4611686018427387903 : Int64)))])) _
                refine XS.lcmp X0.here hx rfl (hb hby at_62) rfl ?_
                show Steps p.tables e below (s₁.setTop (mkF m 63 #[.val (.long q0), .second, .val (.long q1), .second, .val (.long q2), .second, .val (.long q3), .second, .val (.long q4), .second, .val (.int p5), .val (.int (v0_4 q0 q1 q2 q3 q4 p5)), .unset, .unset, .val (.long (q2 &&& (4611686018427387903 : Int64))), .second, .unset, .unset, .unset, .unset, .unset, .unset, .unset] [(.int (lcmpW (q2 &&& (4611686018427387903 : Int64)) (0 : Int64)))])) _
                suffices kt63 : Steps p.tables e below (s₁.setTop (mkF m 69 #[.val (.long q0), .second, .val (.long q1), .second, .val (.long q2), .second, .val (.long q3), .second, .val (.long q4), .second, .val (.int p5), .val (.int (v0_4 q0 q1 q2 q3 q4 p5)), .unset, .unset, .val (.long (j0_63_l14 q0 q1 q2 q3 q4 p5)), .second, .unset, .unset, .unset, .unset, .unset, .unset, .unset] [])) (T6.setFrames fs) by
                  by_cases hc63 : ifCond.holds .ne (lcmpW (q2 &&& (4611686018427387903 : Int64)) (0 : Int64)) = true
                  · rw [show (j0_63_l14 q0 q1 q2 q3 q4 p5) = (q2 &&& (4611686018427387903 : Int64)) from if_pos hc63] at kt63
                    refine XS.ifYes X0.here hx rfl (pc0 := 63) (pc' := 69) rfl (hb hby at_63) rfl hc63 (by decide) (by decide) ?_
                    exact kt63
                  · rw [show (j0_63_l14 q0 q1 q2 q3 q4 p5) = (1 : Int64) from if_neg hc63] at kt63
                    refine XS.ifNo X0.here hx rfl (hb hby at_63) rfl (eq_false_of_ne_true hc63) ?_
                    show Steps p.tables e below (s₁.setTop (mkF m 66 #[.val (.long q0), .second, .val (.long q1), .second, .val (.long q2), .second, .val (.long q3), .second, .val (.long q4), .second, .val (.int p5), .val (.int (v0_4 q0 q1 q2 q3 q4 p5)), .unset, .unset, .val (.long (q2 &&& (4611686018427387903 : Int64))), .second, .unset, .unset, .unset, .unset, .unset, .unset, .unset] [])) _
                    refine XS.lconst X0.here hx rfl (hb hby at_66) ?_
                    show Steps p.tables e below (s₁.setTop (mkF m 67 #[.val (.long q0), .second, .val (.long q1), .second, .val (.long q2), .second, .val (.long q3), .second, .val (.long q4), .second, .val (.int p5), .val (.int (v0_4 q0 q1 q2 q3 q4 p5)), .unset, .unset, .val (.long (q2 &&& (4611686018427387903 : Int64))), .second, .unset, .unset, .unset, .unset, .unset, .unset, .unset] [(.long (1 : Int64))])) _
                    refine XS.lstore X0.here hx rfl (hb hby at_67) rfl (l' := #[.val (.long q0), .second, .val (.long q1), .second, .val (.long q2), .second, .val (.long q3), .second, .val (.long q4), .second, .val (.int p5), .val (.int (v0_4 q0 q1 q2 q3 q4 p5)), .unset, .unset, .val (.long (1 : Int64)), .second, .unset, .unset, .unset, .unset, .unset, .unset, .unset]) rfl ?_
                    exact kt63
                show Steps p.tables e below (s₁.setTop (mkF m 69 #[.val (.long q0), .second, .val (.long q1), .second, .val (.long q2), .second, .val (.long q3), .second, .val (.long q4), .second, .val (.int p5), .val (.int (v0_4 q0 q1 q2 q3 q4 p5)), .unset, .unset, .val (.long (j0_63_l14 q0 q1 q2 q3 q4 p5)), .second, .unset, .unset, .unset, .unset, .unset, .unset, .unset] [])) _
                refine XS.lload X0.here hx rfl (hb hby at_69) rfl ?_
                show Steps p.tables e below (s₁.setTop (mkF m 71 #[.val (.long q0), .second, .val (.long q1), .second, .val (.long q2), .second, .val (.long q3), .second, .val (.long q4), .second, .val (.int p5), .val (.int (v0_4 q0 q1 q2 q3 q4 p5)), .unset, .unset, .val (.long (j0_63_l14 q0 q1 q2 q3 q4 p5)), .second, .unset, .unset, .unset, .unset, .unset, .unset, .unset] [(.long (j0_63_l14 q0 q1 q2 q3 q4 p5))])) _
                refine X0.ldc2Long hx hown (mvT hZ (hw _ (List.mem_of_getElem? (i := 29) rfl))) (g := (mkF m 71 #[.val (.long q0), .second, .val (.long q1), .second, .val (.long q2), .second, .val (.long q3), .second, .val (.long q4), .second, .val (.int p5), .val (.int (v0_4 q0 q1 q2 q3 q4 p5)), .unset, .unset, .val (.long (j0_63_l14 q0 q1 q2 q3 q4 p5)), .second, .unset, .unset, .unset, .unset, .unset, .unset, .unset] [(.long (j0_63_l14 q0 q1 q2 q3 q4 p5))])) rfl (hb hby at_71) _ ?_
                show Steps p.tables e below (s₁.setTop (mkF m 74 #[.val (.long q0), .second, .val (.long q1), .second, .val (.long q2), .second, .val (.long q3), .second, .val (.long q4), .second, .val (.int p5), .val (.int (v0_4 q0 q1 q2 q3 q4 p5)), .unset, .unset, .val (.long (j0_63_l14 q0 q1 q2 q3 q4 p5)), .second, .unset, .unset, .unset, .unset, .unset, .unset, .unset] [(.long (2 : Int64)), (.long (j0_63_l14 q0 q1 q2 q3 q4 p5))])) _
                refine XS.lmul X0.here hx rfl (hb hby at_74) rfl ?_
                show Steps p.tables e below (s₁.setTop (mkF m 75 #[.val (.long q0), .second, .val (.long q1), .second, .val (.long q2), .second, .val (.long q3), .second, .val (.long q4), .second, .val (.int p5), .val (.int (v0_4 q0 q1 q2 q3 q4 p5)), .unset, .unset, .val (.long (j0_63_l14 q0 q1 q2 q3 q4 p5)), .second, .unset, .unset, .unset, .unset, .unset, .unset, .unset] [(.long ((j0_63_l14 q0 q1 q2 q3 q4 p5) * (2 : Int64)))])) _
                refine XS.lstore X0.here hx rfl (hb hby at_75) rfl (l' := #[.val (.long q0), .second, .val (.long q1), .second, .val (.long q2), .second, .val (.long q3), .second, .val (.long q4), .second, .val (.int p5), .val (.int (v0_4 q0 q1 q2 q3 q4 p5)), .val (.long ((j0_63_l14 q0 q1 q2 q3 q4 p5) * (2 : Int64))), .second, .val (.long (j0_63_l14 q0 q1 q2 q3 q4 p5)), .second, .unset, .unset, .unset, .unset, .unset, .unset, .unset]) rfl ?_
                show Steps p.tables e below (s₁.setTop (mkF m 77 #[.val (.long q0), .second, .val (.long q1), .second, .val (.long q2), .second, .val (.long q3), .second, .val (.long q4), .second, .val (.int p5), .val (.int (v0_4 q0 q1 q2 q3 q4 p5)), .val (.long ((j0_63_l14 q0 q1 q2 q3 q4 p5) * (2 : Int64))), .second, .val (.long (j0_63_l14 q0 q1 q2 q3 q4 p5)), .second, .unset, .unset, .unset, .unset, .unset, .unset, .unset] [])) _
                refine XS.goto X0.here hx rfl (pc0 := 77) (pc' := 98) rfl (hb hby at_77) (by decide) (by decide) ?_
                exact kt48
            exact kt29
          · rw [show (j0_29_l12 q0 q1 q2 q3 q4 p5) = ((q2 &&& (1073741823 : Int64)) + (1 : Int64)) from if_neg hc29] at kt29
            rw [show (j0_29_l14 q0 q1 q2 q3 q4 p5) = .unset from if_neg hc29] at kt29
            rw [show (j0_29_l15 q0 q1 q2 q3 q4 p5) = .unset from if_neg hc29] at kt29
            refine XS.icmpNo X0.here hx rfl (hb hby at_29) rfl (eq_false_of_ne_true hc29) ?_
            show Steps p.tables e below (s₁.setTop (mkF m 32 #[.val (.long q0), .second, .val (.long q1), .second, .val (.long q2), .second, .val (.long q3), .second, .val (.long q4), .second, .val (.int p5), .val (.int (v0_4 q0 q1 q2 q3 q4 p5)), .unset, .unset, .unset, .unset, .unset, .unset, .unset, .unset, .unset, .unset, .unset] [])) _
            refine XS.lload X0.here hx rfl (hb hby at_32) rfl ?_
            show Steps p.tables e below (s₁.setTop (mkF m 34 #[.val (.long q0), .second, .val (.long q1), .second, .val (.long q2), .second, .val (.long q3), .second, .val (.long q4), .second, .val (.int p5), .val (.int (v0_4 q0 q1 q2 q3 q4 p5)), .unset, .unset, .unset, .unset, .unset, .unset, .unset, .unset, .unset, .unset, .unset] [(.long q2)])) _
            refine X0.ldc2Long hx hown (mvT hZ (hw _ (List.mem_of_getElem? (i := 0) rfl))) (g := (mkF m 34 #[.val (.long q0), .second, .val (.long q1), .second, .val (.long q2), .second, .val (.long q3), .second, .val (.long q4), .second, .val (.int p5), .val (.int (v0_4 q0 q1 q2 q3 q4 p5)), .unset, .unset, .unset, .unset, .unset, .unset, .unset, .unset, .unset, .unset, .unset] [(.long q2)])) rfl (hb hby at_34) _ ?_
            show Steps p.tables e below (s₁.setTop (mkF m 37 #[.val (.long q0), .second, .val (.long q1), .second, .val (.long q2), .second, .val (.long q3), .second, .val (.long q4), .second, .val (.int p5), .val (.int (v0_4 q0 q1 q2 q3 q4 p5)), .unset, .unset, .unset, .unset, .unset, .unset, .unset, .unset, .unset, .unset, .unset] [(.long (1073741823 : Int64)), (.long q2)])) _
            refine XS.land X0.here hx rfl (hb hby at_37) rfl ?_
            show Steps p.tables e below (s₁.setTop (mkF m 38 #[.val (.long q0), .second, .val (.long q1), .second, .val (.long q2), .second, .val (.long q3), .second, .val (.long q4), .second, .val (.int p5), .val (.int (v0_4 q0 q1 q2 q3 q4 p5)), .unset, .unset, .unset, .unset, .unset, .unset, .unset, .unset, .unset, .unset, .unset] [(.long (q2 &&& (1073741823 : Int64)))])) _
            refine XS.lconst X0.here hx rfl (hb hby at_38) ?_
            show Steps p.tables e below (s₁.setTop (mkF m 39 #[.val (.long q0), .second, .val (.long q1), .second, .val (.long q2), .second, .val (.long q3), .second, .val (.long q4), .second, .val (.int p5), .val (.int (v0_4 q0 q1 q2 q3 q4 p5)), .unset, .unset, .unset, .unset, .unset, .unset, .unset, .unset, .unset, .unset, .unset] [(.long (1 : Int64)), (.long (q2 &&& (1073741823 : Int64)))])) _
            refine XS.ladd X0.here hx rfl (hb hby at_39) rfl ?_
            show Steps p.tables e below (s₁.setTop (mkF m 40 #[.val (.long q0), .second, .val (.long q1), .second, .val (.long q2), .second, .val (.long q3), .second, .val (.long q4), .second, .val (.int p5), .val (.int (v0_4 q0 q1 q2 q3 q4 p5)), .unset, .unset, .unset, .unset, .unset, .unset, .unset, .unset, .unset, .unset, .unset] [(.long ((q2 &&& (1073741823 : Int64)) + (1 : Int64)))])) _
            refine XS.lstore X0.here hx rfl (hb hby at_40) rfl (l' := #[.val (.long q0), .second, .val (.long q1), .second, .val (.long q2), .second, .val (.long q3), .second, .val (.long q4), .second, .val (.int p5), .val (.int (v0_4 q0 q1 q2 q3 q4 p5)), .val (.long ((q2 &&& (1073741823 : Int64)) + (1 : Int64))), .second, .unset, .unset, .unset, .unset, .unset, .unset, .unset, .unset, .unset]) rfl ?_
            show Steps p.tables e below (s₁.setTop (mkF m 42 #[.val (.long q0), .second, .val (.long q1), .second, .val (.long q2), .second, .val (.long q3), .second, .val (.long q4), .second, .val (.int p5), .val (.int (v0_4 q0 q1 q2 q3 q4 p5)), .val (.long ((q2 &&& (1073741823 : Int64)) + (1 : Int64))), .second, .unset, .unset, .unset, .unset, .unset, .unset, .unset, .unset, .unset] [])) _
            refine XS.goto X0.here hx rfl (pc0 := 42) (pc' := 98) rfl (hb hby at_42) (by decide) (by decide) ?_
            exact kt29
        exact kt9
      · rw [show (j0_9_l12 q0 q1 q2 q3 q4 p5) = ((1 : Int64) <<< ((((p5.toUInt32 >>> ((2 : Int32) &&& 31).toUInt32).toInt32) % (53 : Int32)) &&& 0x3f).toInt64) from if_neg hc9] at kt9
        rw [show (j0_9_l14 q0 q1 q2 q3 q4 p5) = .unset from if_neg hc9] at kt9
        rw [show (j0_9_l15 q0 q1 q2 q3 q4 p5) = .unset from if_neg hc9] at kt9
        refine XS.icmpNo X0.here hx rfl (hb hby at_9) rfl (eq_false_of_ne_true hc9) ?_
        show Steps p.tables e below (s₁.setTop (mkF m 12 #[.val (.long q0), .second, .val (.long q1), .second, .val (.long q2), .second, .val (.long q3), .second, .val (.long q4), .second, .val (.int p5), .val (.int (v0_4 q0 q1 q2 q3 q4 p5)), .unset, .unset, .unset, .unset, .unset, .unset, .unset, .unset, .unset, .unset, .unset] [])) _
        refine XS.lconst X0.here hx rfl (hb hby at_12) ?_
        show Steps p.tables e below (s₁.setTop (mkF m 13 #[.val (.long q0), .second, .val (.long q1), .second, .val (.long q2), .second, .val (.long q3), .second, .val (.long q4), .second, .val (.int p5), .val (.int (v0_4 q0 q1 q2 q3 q4 p5)), .unset, .unset, .unset, .unset, .unset, .unset, .unset, .unset, .unset, .unset, .unset] [(.long (1 : Int64))])) _
        refine XS.iload X0.here hx rfl (hb hby at_13) rfl ?_
        show Steps p.tables e below (s₁.setTop (mkF m 15 #[.val (.long q0), .second, .val (.long q1), .second, .val (.long q2), .second, .val (.long q3), .second, .val (.long q4), .second, .val (.int p5), .val (.int (v0_4 q0 q1 q2 q3 q4 p5)), .unset, .unset, .unset, .unset, .unset, .unset, .unset, .unset, .unset, .unset, .unset] [(.int p5), (.long (1 : Int64))])) _
        refine XS.iconst X0.here hx rfl (hb hby at_15) ?_
        show Steps p.tables e below (s₁.setTop (mkF m 16 #[.val (.long q0), .second, .val (.long q1), .second, .val (.long q2), .second, .val (.long q3), .second, .val (.long q4), .second, .val (.int p5), .val (.int (v0_4 q0 q1 q2 q3 q4 p5)), .unset, .unset, .unset, .unset, .unset, .unset, .unset, .unset, .unset, .unset, .unset] [(.int (2 : Int32)), (.int p5), (.long (1 : Int64))])) _
        refine XS.iushr X0.here hx rfl (hb hby at_16) rfl ?_
        show Steps p.tables e below (s₁.setTop (mkF m 17 #[.val (.long q0), .second, .val (.long q1), .second, .val (.long q2), .second, .val (.long q3), .second, .val (.long q4), .second, .val (.int p5), .val (.int (v0_4 q0 q1 q2 q3 q4 p5)), .unset, .unset, .unset, .unset, .unset, .unset, .unset, .unset, .unset, .unset, .unset] [(.int ((p5.toUInt32 >>> ((2 : Int32) &&& 31).toUInt32).toInt32)), (.long (1 : Int64))])) _
        refine XS.bipush X0.here hx rfl (hb hby at_17) ?_
        show Steps p.tables e below (s₁.setTop (mkF m 19 #[.val (.long q0), .second, .val (.long q1), .second, .val (.long q2), .second, .val (.long q3), .second, .val (.long q4), .second, .val (.int p5), .val (.int (v0_4 q0 q1 q2 q3 q4 p5)), .unset, .unset, .unset, .unset, .unset, .unset, .unset, .unset, .unset, .unset, .unset] [(.int (53 : Int32)), (.int ((p5.toUInt32 >>> ((2 : Int32) &&& 31).toUInt32).toInt32)), (.long (1 : Int64))])) _
        refine Jvm.OwnFP.iremM X0.here hx rfl (hb hby at_19) rfl (by decide) ?_
        show Steps p.tables e below (s₁.setTop (mkF m 20 #[.val (.long q0), .second, .val (.long q1), .second, .val (.long q2), .second, .val (.long q3), .second, .val (.long q4), .second, .val (.int p5), .val (.int (v0_4 q0 q1 q2 q3 q4 p5)), .unset, .unset, .unset, .unset, .unset, .unset, .unset, .unset, .unset, .unset, .unset] [(.int (((p5.toUInt32 >>> ((2 : Int32) &&& 31).toUInt32).toInt32) % (53 : Int32))), (.long (1 : Int64))])) _
        refine XS.lshl X0.here hx rfl (hb hby at_20) rfl ?_
        show Steps p.tables e below (s₁.setTop (mkF m 21 #[.val (.long q0), .second, .val (.long q1), .second, .val (.long q2), .second, .val (.long q3), .second, .val (.long q4), .second, .val (.int p5), .val (.int (v0_4 q0 q1 q2 q3 q4 p5)), .unset, .unset, .unset, .unset, .unset, .unset, .unset, .unset, .unset, .unset, .unset] [(.long ((1 : Int64) <<< ((((p5.toUInt32 >>> ((2 : Int32) &&& 31).toUInt32).toInt32) % (53 : Int32)) &&& 0x3f).toInt64))])) _
        refine XS.lstore X0.here hx rfl (hb hby at_21) rfl (l' := #[.val (.long q0), .second, .val (.long q1), .second, .val (.long q2), .second, .val (.long q3), .second, .val (.long q4), .second, .val (.int p5), .val (.int (v0_4 q0 q1 q2 q3 q4 p5)), .val (.long ((1 : Int64) <<< ((((p5.toUInt32 >>> ((2 : Int32) &&& 31).toUInt32).toInt32) % (53 : Int32)) &&& 0x3f).toInt64)), .second, .unset, .unset, .unset, .unset, .unset, .unset, .unset, .unset, .unset]) rfl ?_
        show Steps p.tables e below (s₁.setTop (mkF m 23 #[.val (.long q0), .second, .val (.long q1), .second, .val (.long q2), .second, .val (.long q3), .second, .val (.long q4), .second, .val (.int p5), .val (.int (v0_4 q0 q1 q2 q3 q4 p5)), .val (.long ((1 : Int64) <<< ((((p5.toUInt32 >>> ((2 : Int32) &&& 31).toUInt32).toInt32) % (53 : Int32)) &&& 0x3f).toInt64)), .second, .unset, .unset, .unset, .unset, .unset, .unset, .unset, .unset, .unset] [])) _
        refine XS.goto X0.here hx rfl (pc0 := 23) (pc' := 98) rfl (hb hby at_23) (by decide) (by decide) ?_
        exact kt9
    show Steps p.tables e below (s₁.setTop (mkF m 98 #[.val (.long q0), .second, .val (.long q1), .second, .val (.long q2), .second, .val (.long q3), .second, .val (.long q4), .second, .val (.int p5), .val (.int (v0_4 q0 q1 q2 q3 q4 p5)), .val (.long (j0_9_l12 q0 q1 q2 q3 q4 p5)), .second, (j0_9_l14 q0 q1 q2 q3 q4 p5), (j0_9_l15 q0 q1 q2 q3 q4 p5), .unset, .unset, .unset, .unset, .unset, .unset, .unset] [])) _
    refine XS.lload X0.here hx rfl (hb hby at_98) rfl ?_
    show Steps p.tables e below (s₁.setTop (mkF m 100 #[.val (.long q0), .second, .val (.long q1), .second, .val (.long q2), .second, .val (.long q3), .second, .val (.long q4), .second, .val (.int p5), .val (.int (v0_4 q0 q1 q2 q3 q4 p5)), .val (.long (j0_9_l12 q0 q1 q2 q3 q4 p5)), .second, (j0_9_l14 q0 q1 q2 q3 q4 p5), (j0_9_l15 q0 q1 q2 q3 q4 p5), .unset, .unset, .unset, .unset, .unset, .unset, .unset] [(.long q3)])) _
    refine X0.ldc2Long hx hown (mvT hZ (hw _ (List.mem_of_getElem? (i := 1) rfl))) (g := (mkF m 100 #[.val (.long q0), .second, .val (.long q1), .second, .val (.long q2), .second, .val (.long q3), .second, .val (.long q4), .second, .val (.int p5), .val (.int (v0_4 q0 q1 q2 q3 q4 p5)), .val (.long (j0_9_l12 q0 q1 q2 q3 q4 p5)), .second, (j0_9_l14 q0 q1 q2 q3 q4 p5), (j0_9_l15 q0 q1 q2 q3 q4 p5), .unset, .unset, .unset, .unset, .unset, .unset, .unset] [(.long q3)])) rfl (hb hby at_100) _ ?_
    show Steps p.tables e below (s₁.setTop (mkF m 103 #[.val (.long q0), .second, .val (.long q1), .second, .val (.long q2), .second, .val (.long q3), .second, .val (.long q4), .second, .val (.int p5), .val (.int (v0_4 q0 q1 q2 q3 q4 p5)), .val (.long (j0_9_l12 q0 q1 q2 q3 q4 p5)), .second, (j0_9_l14 q0 q1 q2 q3 q4 p5), (j0_9_l15 q0 q1 q2 q3 q4 p5), .unset, .unset, .unset, .unset, .unset, .unset, .unset] [(.long (9223372036854775807 : Int64)), (.long q3)])) _
    refine XS.land X0.here hx rfl (hb hby at_103) rfl ?_
    show Steps p.tables e below (s₁.setTop (mkF m 104 #[.val (.long q0), .second, .val (.long q1), .second, .val (.long q2), .second, .val (.long q3), .second, .val (.long q4), .second, .val (.int p5), .val (.int (v0_4 q0 q1 q2 q3 q4 p5)), .val (.long (j0_9_l12 q0 q1 q2 q3 q4 p5)), .second, (j0_9_l14 q0 q1 q2 q3 q4 p5), (j0_9_l15 q0 q1 q2 q3 q4 p5), .unset, .unset, .unset, .unset, .unset, .unset, .unset] [(.long (q3 &&& (9223372036854775807 : Int64)))])) _
    refine XS.lload X0.here hx rfl (hb hby at_104) rfl ?_
    show Steps p.tables e below (s₁.setTop (mkF m 106 #[.val (.long q0), .second, .val (.long q1), .second, .val (.long q2), .second, .val (.long q3), .second, .val (.long q4), .second, .val (.int p5), .val (.int (v0_4 q0 q1 q2 q3 q4 p5)), .val (.long (j0_9_l12 q0 q1 q2 q3 q4 p5)), .second, (j0_9_l14 q0 q1 q2 q3 q4 p5), (j0_9_l15 q0 q1 q2 q3 q4 p5), .unset, .unset, .unset, .unset, .unset, .unset, .unset] [(.long (j0_9_l12 q0 q1 q2 q3 q4 p5)), (.long (q3 &&& (9223372036854775807 : Int64)))])) _
    refine XS.lconst X0.here hx rfl (hb hby at_106) ?_
    show Steps p.tables e below (s₁.setTop (mkF m 107 #[.val (.long q0), .second, .val (.long q1), .second, .val (.long q2), .second, .val (.long q3), .second, .val (.long q4), .second, .val (.int p5), .val (.int (v0_4 q0 q1 q2 q3 q4 p5)), .val (.long (j0_9_l12 q0 q1 q2 q3 q4 p5)), .second, (j0_9_l14 q0 q1 q2 q3 q4 p5), (j0_9_l15 q0 q1 q2 q3 q4 p5), .unset, .unset, .unset, .unset, .unset, .unset, .unset] [(.long (1 : Int64)), (.long (j0_9_l12 q0 q1 q2 q3 q4 p5)), (.long (q3 &&& (9223372036854775807 : Int64)))])) _
    refine XS.ladd X0.here hx rfl (hb hby at_107) rfl ?_
    show Steps p.tables e below (s₁.setTop (mkF m 108 #[.val (.long q0), .second, .val (.long q1), .second, .val (.long q2), .second, .val (.long q3), .second, .val (.long q4), .second, .val (.int p5), .val (.int (v0_4 q0 q1 q2 q3 q4 p5)), .val (.long (j0_9_l12 q0 q1 q2 q3 q4 p5)), .second, (j0_9_l14 q0 q1 q2 q3 q4 p5), (j0_9_l15 q0 q1 q2 q3 q4 p5), .unset, .unset, .unset, .unset, .unset, .unset, .unset] [(.long ((j0_9_l12 q0 q1 q2 q3 q4 p5) + (1 : Int64))), (.long (q3 &&& (9223372036854775807 : Int64)))])) _
    refine Jvm.OwnFP.lremM X0.here hx rfl (hb hby at_108) rfl hz108 ?_
    show Steps p.tables e below (s₁.setTop (mkF m 109 #[.val (.long q0), .second, .val (.long q1), .second, .val (.long q2), .second, .val (.long q3), .second, .val (.long q4), .second, .val (.int p5), .val (.int (v0_4 q0 q1 q2 q3 q4 p5)), .val (.long (j0_9_l12 q0 q1 q2 q3 q4 p5)), .second, (j0_9_l14 q0 q1 q2 q3 q4 p5), (j0_9_l15 q0 q1 q2 q3 q4 p5), .unset, .unset, .unset, .unset, .unset, .unset, .unset] [(.long ((q3 &&& (9223372036854775807 : Int64)) % ((j0_9_l12 q0 q1 q2 q3 q4 p5) + (1 : Int64))))])) _
    refine XS.lstore X0.here hx rfl (hb hby at_109) rfl (l' := #[.val (.long q0), .second, .val (.long q1), .second, .val (.long q2), .second, .val (.long q3), .second, .val (.long q4), .second, .val (.int p5), .val (.int (v0_4 q0 q1 q2 q3 q4 p5)), .val (.long (j0_9_l12 q0 q1 q2 q3 q4 p5)), .second, .val (.long (v0_109 q0 q1 q2 q3 q4 p5)), .second, .unset, .unset, .unset, .unset, .unset, .unset, .unset]) (Jvm.Free.Fl.storeLocals_cat2 (i := 14) rfl rfl rfl hs109) ?_
    show Steps p.tables e below (s₁.setTop (mkF m 111 #[.val (.long q0), .second, .val (.long q1), .second, .val (.long q2), .second, .val (.long q3), .second, .val (.long q4), .second, .val (.int p5), .val (.int (v0_4 q0 q1 q2 q3 q4 p5)), .val (.long (j0_9_l12 q0 q1 q2 q3 q4 p5)), .second, .val (.long (v0_109 q0 q1 q2 q3 q4 p5)), .second, .unset, .unset, .unset, .unset, .unset, .unset, .unset] [])) _
    refine XS.lload X0.here hx rfl (hb hby at_111) rfl ?_
    show Steps p.tables e below (s₁.setTop (mkF m 113 #[.val (.long q0), .second, .val (.long q1), .second, .val (.long q2), .second, .val (.long q3), .second, .val (.long q4), .second, .val (.int p5), .val (.int (v0_4 q0 q1 q2 q3 q4 p5)), .val (.long (j0_9_l12 q0 q1 q2 q3 q4 p5)), .second, .val (.long (v0_109 q0 q1 q2 q3 q4 p5)), .second, .unset, .unset, .unset, .unset, .unset, .unset, .unset] [(.long q4)])) _
    refine X0.ldc2Long hx hown (mvT hZ (hw _ (List.mem_of_getElem? (i := 1) rfl))) (g := (mkF m 113 #[.val (.long q0), .second, .val (.long q1), .second, .val (.long q2), .second, .val (.long q3), .second, .val (.long q4), .second, .val (.int p5), .val (.int (v0_4 q0 q1 q2 q3 q4 p5)), .val (.long (j0_9_l12 q0 q1 q2 q3 q4 p5)), .second, .val (.long (v0_109 q0 q1 q2 q3 q4 p5)), .second, .unset, .unset, .unset, .unset, .unset, .unset, .unset] [(.long q4)])) rfl (hb hby at_113) _ ?_
    show Steps p.tables e below (s₁.setTop (mkF m 116 #[.val (.long q0), .second, .val (.long q1), .second, .val (.long q2), .second, .val (.long q3), .second, .val (.long q4), .second, .val (.int p5), .val (.int (v0_4 q0 q1 q2 q3 q4 p5)), .val (.long (j0_9_l12 q0 q1 q2 q3 q4 p5)), .second, .val (.long (v0_109 q0 q1 q2 q3 q4 p5)), .second, .unset, .unset, .unset, .unset, .unset, .unset, .unset] [(.long (9223372036854775807 : Int64)), (.long q4)])) _
    refine XS.land X0.here hx rfl (hb hby at_116) rfl ?_
    show Steps p.tables e below (s₁.setTop (mkF m 117 #[.val (.long q0), .second, .val (.long q1), .second, .val (.long q2), .second, .val (.long q3), .second, .val (.long q4), .second, .val (.int p5), .val (.int (v0_4 q0 q1 q2 q3 q4 p5)), .val (.long (j0_9_l12 q0 q1 q2 q3 q4 p5)), .second, .val (.long (v0_109 q0 q1 q2 q3 q4 p5)), .second, .unset, .unset, .unset, .unset, .unset, .unset, .unset] [(.long (q4 &&& (9223372036854775807 : Int64)))])) _
    refine XS.lload X0.here hx rfl (hb hby at_117) rfl ?_
    show Steps p.tables e below (s₁.setTop (mkF m 119 #[.val (.long q0), .second, .val (.long q1), .second, .val (.long q2), .second, .val (.long q3), .second, .val (.long q4), .second, .val (.int p5), .val (.int (v0_4 q0 q1 q2 q3 q4 p5)), .val (.long (j0_9_l12 q0 q1 q2 q3 q4 p5)), .second, .val (.long (v0_109 q0 q1 q2 q3 q4 p5)), .second, .unset, .unset, .unset, .unset, .unset, .unset, .unset] [(.long (j0_9_l12 q0 q1 q2 q3 q4 p5)), (.long (q4 &&& (9223372036854775807 : Int64)))])) _
    refine XS.lconst X0.here hx rfl (hb hby at_119) ?_
    show Steps p.tables e below (s₁.setTop (mkF m 120 #[.val (.long q0), .second, .val (.long q1), .second, .val (.long q2), .second, .val (.long q3), .second, .val (.long q4), .second, .val (.int p5), .val (.int (v0_4 q0 q1 q2 q3 q4 p5)), .val (.long (j0_9_l12 q0 q1 q2 q3 q4 p5)), .second, .val (.long (v0_109 q0 q1 q2 q3 q4 p5)), .second, .unset, .unset, .unset, .unset, .unset, .unset, .unset] [(.long (1 : Int64)), (.long (j0_9_l12 q0 q1 q2 q3 q4 p5)), (.long (q4 &&& (9223372036854775807 : Int64)))])) _
    refine XS.ladd X0.here hx rfl (hb hby at_120) rfl ?_
    show Steps p.tables e below (s₁.setTop (mkF m 121 #[.val (.long q0), .second, .val (.long q1), .second, .val (.long q2), .second, .val (.long q3), .second, .val (.long q4), .second, .val (.int p5), .val (.int (v0_4 q0 q1 q2 q3 q4 p5)), .val (.long (j0_9_l12 q0 q1 q2 q3 q4 p5)), .second, .val (.long (v0_109 q0 q1 q2 q3 q4 p5)), .second, .unset, .unset, .unset, .unset, .unset, .unset, .unset] [(.long ((j0_9_l12 q0 q1 q2 q3 q4 p5) + (1 : Int64))), (.long (q4 &&& (9223372036854775807 : Int64)))])) _
    refine Jvm.OwnFP.lremM X0.here hx rfl (hb hby at_121) rfl hz108 ?_
    show Steps p.tables e below (s₁.setTop (mkF m 122 #[.val (.long q0), .second, .val (.long q1), .second, .val (.long q2), .second, .val (.long q3), .second, .val (.long q4), .second, .val (.int p5), .val (.int (v0_4 q0 q1 q2 q3 q4 p5)), .val (.long (j0_9_l12 q0 q1 q2 q3 q4 p5)), .second, .val (.long (v0_109 q0 q1 q2 q3 q4 p5)), .second, .unset, .unset, .unset, .unset, .unset, .unset, .unset] [(.long ((q4 &&& (9223372036854775807 : Int64)) % ((j0_9_l12 q0 q1 q2 q3 q4 p5) + (1 : Int64))))])) _
    refine XS.lstore X0.here hx rfl (hb hby at_122) rfl (l' := #[.val (.long q0), .second, .val (.long q1), .second, .val (.long q2), .second, .val (.long q3), .second, .val (.long q4), .second, .val (.int p5), .val (.int (v0_4 q0 q1 q2 q3 q4 p5)), .val (.long (j0_9_l12 q0 q1 q2 q3 q4 p5)), .second, .val (.long (v0_109 q0 q1 q2 q3 q4 p5)), .second, .val (.long (v0_122 q0 q1 q2 q3 q4 p5)), .second, .unset, .unset, .unset, .unset, .unset]) rfl ?_
    show Steps p.tables e below (s₁.setTop (mkF m 124 #[.val (.long q0), .second, .val (.long q1), .second, .val (.long q2), .second, .val (.long q3), .second, .val (.long q4), .second, .val (.int p5), .val (.int (v0_4 q0 q1 q2 q3 q4 p5)), .val (.long (j0_9_l12 q0 q1 q2 q3 q4 p5)), .second, .val (.long (v0_109 q0 q1 q2 q3 q4 p5)), .second, .val (.long (v0_122 q0 q1 q2 q3 q4 p5)), .second, .unset, .unset, .unset, .unset, .unset] [])) _
    refine XS.iload X0.here hx rfl (hb hby at_124) rfl ?_
    show Steps p.tables e below (s₁.setTop (mkF m 126 #[.val (.long q0), .second, .val (.long q1), .second, .val (.long q2), .second, .val (.long q3), .second, .val (.long q4), .second, .val (.int p5), .val (.int (v0_4 q0 q1 q2 q3 q4 p5)), .val (.long (j0_9_l12 q0 q1 q2 q3 q4 p5)), .second, .val (.long (v0_109 q0 q1 q2 q3 q4 p5)), .second, .val (.long (v0_122 q0 q1 q2 q3 q4 p5)), .second, .unset, .unset, .unset, .unset, .unset] [(.int (v0_4 q0 q1 q2 q3 q4 p5))])) _
    refine XS.iconst X0.here hx rfl (hb hby at_126) ?_
    show Steps p.tables e below (s₁.setTop (mkF m 127 #[.val (.long q0), .second, .val (.long q1), .second, .val (.long q2), .second, .val (.long q3), .second, .val (.long q4), .second, .val (.int p5), .val (.int (v0_4 q0 q1 q2 q3 q4 p5)), .val (.long (j0_9_l12 q0 q1 q2 q3 q4 p5)), .second, .val (.long (v0_109 q0 q1 q2 q3 q4 p5)), .second, .val (.long (v0_122 q0 q1 q2 q3 q4 p5)), .second, .unset, .unset, .unset, .unset, .unset] [(.int (3 : Int32)), (.int (v0_4 q0 q1 q2 q3 q4 p5))])) _
    suffices kt127 : Steps p.tables e below (s₁.setTop (mkF m 138 #[.val (.long q0), .second, .val (.long q1), .second, .val (.long q2), .second, .val (.long q3), .second, .val (.long q4), .second, .val (.int p5), .val (.int (v0_4 q0 q1 q2 q3 q4 p5)), .val (.long (j0_9_l12 q0 q1 q2 q3 q4 p5)), .second, .val (.long (j0_127_l14 q0 q1 q2 q3 q4 p5)), .second, .val (.long (v0_122 q0 q1 q2 q3 q4 p5)), .second, .unset, .unset, .unset, .unset, .unset] [])) (T6.setFrames fs) by
      by_cases hc127 : if_icmp.holds .ne (v0_4 q0 q1 q2 q3 q4 p5) (3 : Int32) = true
      · rw [show (j0_127_l14 q0 q1 q2 q3 q4 p5) = (v0_109 q0 q1 q2 q3 q4 p5) from if_pos hc127] at kt127
        refine XS.icmpYes X0.here hx rfl (pc0 := 127) (pc' := 138) rfl (hb hby at_127) rfl hc127 (by decide) (by decide) ?_
        exact kt127
      · rw [show (j0_127_l14 q0 q1 q2 q3 q4 p5) = ((j0_9_l12 q0 q1 q2 q3 q4 p5) / (2 : Int64)) from if_neg hc127] at kt127
        refine XS.icmpNo X0.here hx rfl (hb hby at_127) rfl (eq_false_of_ne_true hc127) ?_
        show Steps p.tables e below (s₁.setTop (mkF m 130 #[.val (.long q0), .second, .val (.long q1), .second, .val (.long q2), .second, .val (.long q3), .second, .val (.long q4), .second, .val (.int p5), .val (.int (v0_4 q0 q1 q2 q3 q4 p5)), .val (.long (j0_9_l12 q0 q1 q2 q3 q4 p5)), .second, .val (.long (v0_109 q0 q1 q2 q3 q4 p5)), .second, .val (.long (v0_122 q0 q1 q2 q3 q4 p5)), .second, .unset, .unset, .unset, .unset, .unset] [])) _
        refine XS.lload X0.here hx rfl (hb hby at_130) rfl ?_
        show Steps p.tables e below (s₁.setTop (mkF m 132 #[.val (.long q0), .second, .val (.long q1), .second, .val (.long q2), .second, .val (.long q3), .second, .val (.long q4), .second, .val (.int p5), .val (.int (v0_4 q0 q1 q2 q3 q4 p5)), .val (.long (j0_9_l12 q0 q1 q2 q3 q4 p5)), .second, .val (.long (v0_109 q0 q1 q2 q3 q4 p5)), .second, .val (.long (v0_122 q0 q1 q2 q3 q4 p5)), .second, .unset, .unset, .unset, .unset, .unset] [(.long (j0_9_l12 q0 q1 q2 q3 q4 p5))])) _
        refine X0.ldc2Long hx hown (mvT hZ (hw _ (List.mem_of_getElem? (i := 29) rfl))) (g := (mkF m 132 #[.val (.long q0), .second, .val (.long q1), .second, .val (.long q2), .second, .val (.long q3), .second, .val (.long q4), .second, .val (.int p5), .val (.int (v0_4 q0 q1 q2 q3 q4 p5)), .val (.long (j0_9_l12 q0 q1 q2 q3 q4 p5)), .second, .val (.long (v0_109 q0 q1 q2 q3 q4 p5)), .second, .val (.long (v0_122 q0 q1 q2 q3 q4 p5)), .second, .unset, .unset, .unset, .unset, .unset] [(.long (j0_9_l12 q0 q1 q2 q3 q4 p5))])) rfl (hb hby at_132) _ ?_
        show Steps p.tables e below (s₁.setTop (mkF m 135 #[.val (.long q0), .second, .val (.long q1), .second, .val (.long q2), .second, .val (.long q3), .second, .val (.long q4), .second, .val (.int p5), .val (.int (v0_4 q0 q1 q2 q3 q4 p5)), .val (.long (j0_9_l12 q0 q1 q2 q3 q4 p5)), .second, .val (.long (v0_109 q0 q1 q2 q3 q4 p5)), .second, .val (.long (v0_122 q0 q1 q2 q3 q4 p5)), .second, .unset, .unset, .unset, .unset, .unset] [(.long (2 : Int64)), (.long (j0_9_l12 q0 q1 q2 q3 q4 p5))])) _
        refine XS.ldiv X0.here hx rfl (hb hby at_135) rfl (by decide) ?_
        show Steps p.tables e below (s₁.setTop (mkF m 136 #[.val (.long q0), .second, .val (.long q1), .second, .val (.long q2), .second, .val (.long q3), .second, .val (.long q4), .second, .val (.int p5), .val (.int (v0_4 q0 q1 q2 q3 q4 p5)), .val (.long (j0_9_l12 q0 q1 q2 q3 q4 p5)), .second, .val (.long (v0_109 q0 q1 q2 q3 q4 p5)), .second, .val (.long (v0_122 q0 q1 q2 q3 q4 p5)), .second, .unset, .unset, .unset, .unset, .unset] [(.long ((j0_9_l12 q0 q1 q2 q3 q4 p5) / (2 : Int64)))])) _
        refine XS.lstore X0.here hx rfl (hb hby at_136) rfl (l' := #[.val (.long q0), .second, .val (.long q1), .second, .val (.long q2), .second, .val (.long q3), .second, .val (.long q4), .second, .val (.int p5), .val (.int (v0_4 q0 q1 q2 q3 q4 p5)), .val (.long (j0_9_l12 q0 q1 q2 q3 q4 p5)), .second, .val (.long ((j0_9_l12 q0 q1 q2 q3 q4 p5) / (2 : Int64))), .second, .val (.long (v0_122 q0 q1 q2 q3 q4 p5)), .second, .unset, .unset, .unset, .unset, .unset]) rfl ?_
        exact kt127
    show Steps p.tables e below (s₁.setTop (mkF m 138 #[.val (.long q0), .second, .val (.long q1), .second, .val (.long q2), .second, .val (.long q3), .second, .val (.long q4), .second, .val (.int p5), .val (.int (v0_4 q0 q1 q2 q3 q4 p5)), .val (.long (j0_9_l12 q0 q1 q2 q3 q4 p5)), .second, .val (.long (j0_127_l14 q0 q1 q2 q3 q4 p5)), .second, .val (.long (v0_122 q0 q1 q2 q3 q4 p5)), .second, .unset, .unset, .unset, .unset, .unset] [])) _
    refine st1 _ ?_
    show Steps p.tables e below (T1.setTop (mkF m 141 #[.val (.long q0), .second, .val (.long q1), .second, .val (.long q2), .second, .val (.long q3), .second, .val (.long q4), .second, .val (.int p5), .val (.int (v0_4 q0 q1 q2 q3 q4 p5)), .val (.long (j0_9_l12 q0 q1 q2 q3 q4 p5)), .second, .val (.long (j0_127_l14 q0 q1 q2 q3 q4 p5)), .second, .val (.long (v0_122 q0 q1 q2 q3 q4 p5)), .second, .unset, .unset, .unset, .unset, .unset] [(.ref b1)])) _
    refine XS.dup X1.here hx rfl (hb hby at_141) rfl rfl ?_
    show Steps p.tables e below (T1.setTop (mkF m 142 #[.val (.long q0), .second, .val (.long q1), .second, .val (.long q2), .second, .val (.long q3), .second, .val (.long q4), .second, .val (.int p5), .val (.int (v0_4 q0 q1 q2 q3 q4 p5)), .val (.long (j0_9_l12 q0 q1 q2 q3 q4 p5)), .second, .val (.long (j0_127_l14 q0 q1 q2 q3 q4 p5)), .second, .val (.long (v0_122 q0 q1 q2 q3 q4 p5)), .second, .unset, .unset, .unset, .unset, .unset] [(.ref b1), (.ref b1)])) _
    refine XS.lloadN X1.here hx rfl (hb hby at_142) rfl ?_
    show Steps p.tables e below (T1.setTop (mkF m 143 #[.val (.long q0), .second, .val (.long q1), .second, .val (.long q2), .second, .val (.long q3), .second, .val (.long q4), .second, .val (.int p5), .val (.int (v0_4 q0 q1 q2 q3 q4 p5)), .val (.long (j0_9_l12 q0 q1 q2 q3 q4 p5)), .second, .val (.long (j0_127_l14 q0 q1 q2 q3 q4 p5)), .second, .val (.long (v0_122 q0 q1 q2 q3 q4 p5)), .second, .unset, .unset, .unset, .unset, .unset] [(.long q0), (.ref b1), (.ref b1)])) _
    refine XS.lload X1.here hx rfl (hb hby at_143) rfl ?_
    show Steps p.tables e below (T1.setTop (mkF m 145 #[.val (.long q0), .second, .val (.long q1), .second, .val (.long q2), .second, .val (.long q3), .second, .val (.long q4), .second, .val (.int p5), .val (.int (v0_4 q0 q1 q2 q3 q4 p5)), .val (.long (j0_9_l12 q0 q1 q2 q3 q4 p5)), .second, .val (.long (j0_127_l14 q0 q1 q2 q3 q4 p5)), .second, .val (.long (v0_122 q0 q1 q2 q3 q4 p5)), .second, .unset, .unset, .unset, .unset, .unset] [(.long (j0_9_l12 q0 q1 q2 q3 q4 p5)), (.long q0), (.ref b1), (.ref b1)])) _
    refine XS.lload X1.here hx rfl (hb hby at_145) rfl ?_
    show Steps p.tables e below (T1.setTop (mkF m 147 #[.val (.long q0), .second, .val (.long q1), .second, .val (.long q2), .second, .val (.long q3), .second, .val (.long q4), .second, .val (.int p5), .val (.int (v0_4 q0 q1 q2 q3 q4 p5)), .val (.long (j0_9_l12 q0 q1 q2 q3 q4 p5)), .second, .val (.long (j0_127_l14 q0 q1 q2 q3 q4 p5)), .second, .val (.long (v0_122 q0 q1 q2 q3 q4 p5)), .second, .unset, .unset, .unset, .unset, .unset] [(.long (j0_127_l14 q0 q1 q2 q3 q4 p5)), (.long (j0_9_l12 q0 q1 q2 q3 q4 p5)), (.long q0), (.ref b1), (.ref b1)])) _
    refine XS.lloadN X1.here hx rfl (hb hby at_147) rfl ?_
    show Steps p.tables e below (T1.setTop (mkF m 148 #[.val (.long q0), .second, .val (.long q1), .second, .val (.long q2), .second, .val (.long q3), .second, .val (.long q4), .second, .val (.int p5), .val (.int (v0_4 q0 q1 q2 q3 q4 p5)), .val (.long (j0_9_l12 q0 q1 q2 q3 q4 p5)), .second, .val (.long (j0_127_l14 q0 q1 q2 q3 q4 p5)), .second, .val (.long (v0_122 q0 q1 q2 q3 q4 p5)), .second, .unset, .unset, .unset, .unset, .unset] [(.long q1), (.long (j0_127_l14 q0 q1 q2 q3 q4 p5)), (.long (j0_9_l12 q0 q1 q2 q3 q4 p5)), (.long q0), (.ref b1), (.ref b1)])) _
    refine st2.trans ?_
    show Steps p.tables e below (T2.setTop (mkF m 151 #[.val (.long q0), .second, .val (.long q1), .second, .val (.long q2), .second, .val (.long q3), .second, .val (.long q4), .second, .val (.int p5), .val (.int (v0_4 q0 q1 q2 q3 q4 p5)), .val (.long (j0_9_l12 q0 q1 q2 q3 q4 p5)), .second, .val (.long (j0_127_l14 q0 q1 q2 q3 q4 p5)), .second, .val (.long (v0_122 q0 q1 q2 q3 q4 p5)), .second, .unset, .unset, .unset, .unset, .unset] [(.ref b1)])) _
    refine st3.trans ?_
    show Steps p.tables e below (T3.setTop (mkF m 154 #[.val (.long q0), .second, .val (.long q1), .second, .val (.long q2), .second, .val (.long q3), .second, .val (.long q4), .second, .val (.int p5), .val (.int (v0_4 q0 q1 q2 q3 q4 p5)), .val (.long (j0_9_l12 q0 q1 q2 q3 q4 p5)), .second, .val (.long (j0_127_l14 q0 q1 q2 q3 q4 p5)), .second, .val (.long (v0_122 q0 q1 q2 q3 q4 p5)), .second, .unset, .unset, .unset, .unset, .unset] [(.double (r4 (j0_127_l14 q0 q1 q2 q3 q4 p5) (j0_9_l12 q0 q1 q2 q3 q4 p5)))])) _
    refine XS.dstore X3.here hx rfl (hb hby at_154) rfl (l' := #[.val (.long q0), .second, .val (.long q1), .second, .val (.long q2), .second, .val (.long q3), .second, .val (.long q4), .second, .val (.int p5), .val (.int (v0_4 q0 q1 q2 q3 q4 p5)), .val (.long (j0_9_l12 q0 q1 q2 q3 q4 p5)), .second, .val (.long (j0_127_l14 q0 q1 q2 q3 q4 p5)), .second, .val (.long (v0_122 q0 q1 q2 q3 q4 p5)), .second, .val (.double (v0_154 q0 q1 q2 q3 q4 p5)), .second, .unset, .unset, .unset]) rfl ?_
    show Steps p.tables e below (T3.setTop (mkF m 156 #[.val (.long q0), .second, .val (.long q1), .second, .val (.long q2), .second, .val (.long q3), .second, .val (.long q4), .second, .val (.int p5), .val (.int (v0_4 q0 q1 q2 q3 q4 p5)), .val (.long (j0_9_l12 q0 q1 q2 q3 q4 p5)), .second, .val (.long (j0_127_l14 q0 q1 q2 q3 q4 p5)), .second, .val (.long (v0_122 q0 q1 q2 q3 q4 p5)), .second, .val (.double (v0_154 q0 q1 q2 q3 q4 p5)), .second, .unset, .unset, .unset] [])) _
    refine st4 _ ?_
    show Steps p.tables e below (T4.setTop (mkF m 159 #[.val (.long q0), .second, .val (.long q1), .second, .val (.long q2), .second, .val (.long q3), .second, .val (.long q4), .second, .val (.int p5), .val (.int (v0_4 q0 q1 q2 q3 q4 p5)), .val (.long (j0_9_l12 q0 q1 q2 q3 q4 p5)), .second, .val (.long (j0_127_l14 q0 q1 q2 q3 q4 p5)), .second, .val (.long (v0_122 q0 q1 q2 q3 q4 p5)), .second, .val (.double (v0_154 q0 q1 q2 q3 q4 p5)), .second, .unset, .unset, .unset] [(.ref b4)])) _
    refine XS.dup X4.here hx rfl (hb hby at_159) rfl rfl ?_
    show Steps p.tables e below (T4.setTop (mkF m 160 #[.val (.long q0), .second, .val (.long q1), .second, .val (.long q2), .second, .val (.long q3), .second, .val (.long q4), .second, .val (.int p5), .val (.int (v0_4 q0 q1 q2 q3 q4 p5)), .val (.long (j0_9_l12 q0 q1 q2 q3 q4 p5)), .second, .val (.long (j0_127_l14 q0 q1 q2 q3 q4 p5)), .second, .val (.long (v0_122 q0 q1 q2 q3 q4 p5)), .second, .val (.double (v0_154 q0 q1 q2 q3 q4 p5)), .second, .unset, .unset, .unset] [(.ref b4), (.ref b4)])) _
    refine XS.lloadN X4.here hx rfl (hb hby at_160) rfl ?_
    show Steps p.tables e below (T4.setTop (mkF m 161 #[.val (.long q0), .second, .val (.long q1), .second, .val (.long q2), .second, .val (.long q3), .second, .val (.long q4), .second, .val (.int p5), .val (.int (v0_4 q0 q1 q2 q3 q4 p5)), .val (.long (j0_9_l12 q0 q1 q2 q3 q4 p5)), .second, .val (.long (j0_127_l14 q0 q1 q2 q3 q4 p5)), .second, .val (.long (v0_122 q0 q1 q2 q3 q4 p5)), .second, .val (.double (v0_154 q0 q1 q2 q3 q4 p5)), .second, .unset, .unset, .unset] [(.long q1), (.ref b4), (.ref b4)])) _
    refine XS.lload X4.here hx rfl (hb hby at_161) rfl ?_
    show Steps p.tables e below (T4.setTop (mkF m 163 #[.val (.long q0), .second, .val (.long q1), .second, .val (.long q2), .second, .val (.long q3), .second, .val (.long q4), .second, .val (.int p5), .val (.int (v0_4 q0 q1 q2 q3 q4 p5)), .val (.long (j0_9_l12 q0 q1 q2 q3 q4 p5)), .second, .val (.long (j0_127_l14 q0 q1 q2 q3 q4 p5)), .second, .val (.long (v0_122 q0 q1 q2 q3 q4 p5)), .second, .val (.double (v0_154 q0 q1 q2 q3 q4 p5)), .second, .unset, .unset, .unset] [(.long (j0_9_l12 q0 q1 q2 q3 q4 p5)), (.long q1), (.ref b4), (.ref b4)])) _
    refine XS.lload X4.here hx rfl (hb hby at_163) rfl ?_
    show Steps p.tables e below (T4.setTop (mkF m 165 #[.val (.long q0), .second, .val (.long q1), .second, .val (.long q2), .second, .val (.long q3), .second, .val (.long q4), .second, .val (.int p5), .val (.int (v0_4 q0 q1 q2 q3 q4 p5)), .val (.long (j0_9_l12 q0 q1 q2 q3 q4 p5)), .second, .val (.long (j0_127_l14 q0 q1 q2 q3 q4 p5)), .second, .val (.long (v0_122 q0 q1 q2 q3 q4 p5)), .second, .val (.double (v0_154 q0 q1 q2 q3 q4 p5)), .second, .unset, .unset, .unset] [(.long (v0_122 q0 q1 q2 q3 q4 p5)), (.long (j0_9_l12 q0 q1 q2 q3 q4 p5)), (.long q1), (.ref b4), (.ref b4)])) _
    refine XS.lloadN X4.here hx rfl (hb hby at_165) rfl ?_
    show Steps p.tables e below (T4.setTop (mkF m 166 #[.val (.long q0), .second, .val (.long q1), .second, .val (.long q2), .second, .val (.long q3), .second, .val (.long q4), .second, .val (.int p5), .val (.int (v0_4 q0 q1 q2 q3 q4 p5)), .val (.long (j0_9_l12 q0 q1 q2 q3 q4 p5)), .second, .val (.long (j0_127_l14 q0 q1 q2 q3 q4 p5)), .second, .val (.long (v0_122 q0 q1 q2 q3 q4 p5)), .second, .val (.double (v0_154 q0 q1 q2 q3 q4 p5)), .second, .unset, .unset, .unset] [(.long q0), (.long (v0_122 q0 q1 q2 q3 q4 p5)), (.long (j0_9_l12 q0 q1 q2 q3 q4 p5)), (.long q1), (.ref b4), (.ref b4)])) _
    refine st5.trans ?_
    show Steps p.tables e below (T5.setTop (mkF m 169 #[.val (.long q0), .second, .val (.long q1), .second, .val (.long q2), .second, .val (.long q3), .second, .val (.long q4), .second, .val (.int p5), .val (.int (v0_4 q0 q1 q2 q3 q4 p5)), .val (.long (j0_9_l12 q0 q1 q2 q3 q4 p5)), .second, .val (.long (j0_127_l14 q0 q1 q2 q3 q4 p5)), .second, .val (.long (v0_122 q0 q1 q2 q3 q4 p5)), .second, .val (.double (v0_154 q0 q1 q2 q3 q4 p5)), .second, .unset, .unset, .unset] [(.ref b4)])) _
    refine st6.trans ?_
    show Steps p.tables e below (T6.setTop (mkF m 172 #[.val (.long q0), .second, .val (.long q1), .second, .val (.long q2), .second, .val (.long q3), .second, .val (.long q4), .second, .val (.int p5), .val (.int (v0_4 q0 q1 q2 q3 q4 p5)), .val (.long (j0_9_l12 q0 q1 q2 q3 q4 p5)), .second, .val (.long (j0_127_l14 q0 q1 q2 q3 q4 p5)), .second, .val (.long (v0_122 q0 q1 q2 q3 q4 p5)), .second, .val (.double (v0_154 q0 q1 q2 q3 q4 p5)), .second, .unset, .unset, .unset] [(.double (r4 (v0_122 q0 q1 q2 q3 q4 p5) (j0_9_l12 q0 q1 q2 q3 q4 p5)))])) _
    refine XS.dstore X6.here hx rfl (hb hby at_172) rfl (l' := #[.val (.long q0), .second, .val (.long q1), .second, .val (.long q2), .second, .val (.long q3), .second, .val (.long q4), .second, .val (.int p5), .val (.int (v0_4 q0 q1 q2 q3 q4 p5)), .val (.long (j0_9_l12 q0 q1 q2 q3 q4 p5)), .second, .val (.long (j0_127_l14 q0 q1 q2 q3 q4 p5)), .second, .val (.long (v0_122 q0 q1 q2 q3 q4 p5)), .second, .val (.double (v0_154 q0 q1 q2 q3 q4 p5)), .second, .val (.double (v0_172 q0 q1 q2 q3 q4 p5)), .second, .unset]) rfl ?_
    show Steps p.tables e below (T6.setTop (mkF m 174 #[.val (.long q0), .second, .val (.long q1), .second, .val (.long q2), .second, .val (.long q3), .second, .val (.long q4), .second, .val (.int p5), .val (.int (v0_4 q0 q1 q2 q3 q4 p5)), .val (.long (j0_9_l12 q0 q1 q2 q3 q4 p5)), .second, .val (.long (j0_127_l14 q0 q1 q2 q3 q4 p5)), .second, .val (.long (v0_122 q0 q1 q2 q3 q4 p5)), .second, .val (.double (v0_154 q0 q1 q2 q3 q4 p5)), .second, .val (.double (v0_172 q0 q1 q2 q3 q4 p5)), .second, .unset] [])) _
    refine XS.dconst0 X6.here hx rfl (hb hby at_174) rfl ?_
    show Steps p.tables e below (T6.setTop (mkF m 175 #[.val (.long q0), .second, .val (.long q1), .second, .val (.long q2), .second, .val (.long q3), .second, .val (.long q4), .second, .val (.int p5), .val (.int (v0_4 q0 q1 q2 q3 q4 p5)), .val (.long (j0_9_l12 q0 q1 q2 q3 q4 p5)), .second, .val (.long (j0_127_l14 q0 q1 q2 q3 q4 p5)), .second, .val (.long (v0_122 q0 q1 q2 q3 q4 p5)), .second, .val (.double (v0_154 q0 q1 q2 q3 q4 p5)), .second, .val (.double (v0_172 q0 q1 q2 q3 q4 p5)), .second, .unset] [(.double FP.dconst0)])) _
    refine XS.dload X6.here hx rfl (hb hby at_175) rfl ?_
    show Steps p.tables e below (T6.setTop (mkF m 177 #[.val (.long q0), .second, .val (.long q1), .second, .val (.long q2), .second, .val (.long q3), .second, .val (.long q4), .second, .val (.int p5), .val (.int (v0_4 q0 q1 q2 q3 q4 p5)), .val (.long (j0_9_l12 q0 q1 q2 q3 q4 p5)), .second, .val (.long (j0_127_l14 q0 q1 q2 q3 q4 p5)), .second, .val (.long (v0_122 q0 q1 q2 q3 q4 p5)), .second, .val (.double (v0_154 q0 q1 q2 q3 q4 p5)), .second, .val (.double (v0_172 q0 q1 q2 q3 q4 p5)), .second, .unset] [(.double (v0_154 q0 q1 q2 q3 q4 p5)), (.double FP.dconst0)])) _
    refine XS.dcmpS X6.here hx rfl (hb hby at_177) rfl rfl ?_
    show Steps p.tables e below (T6.setTop (mkF m 178 #[.val (.long q0), .second, .val (.long q1), .second, .val (.long q2), .second, .val (.long q3), .second, .val (.long q4), .second, .val (.int p5), .val (.int (v0_4 q0 q1 q2 q3 q4 p5)), .val (.long (j0_9_l12 q0 q1 q2 q3 q4 p5)), .second, .val (.long (j0_127_l14 q0 q1 q2 q3 q4 p5)), .second, .val (.long (v0_122 q0 q1 q2 q3 q4 p5)), .second, .val (.double (v0_154 q0 q1 q2 q3 q4 p5)), .second, .val (.double (v0_172 q0 q1 q2 q3 q4 p5)), .second, .unset] [(.int (cmpValue (FP.dcmp FP.dconst0 (v0_154 q0 q1 q2 q3 q4 p5)) .g))])) _
    suffices kt178 : Steps p.tables e below (T6.setTop (mkF m 207 #[.val (.long q0), .second, .val (.long q1), .second, .val (.long q2), .second, .val (.long q3), .second, .val (.long q4), .second, .val (.int p5), .val (.int (v0_4 q0 q1 q2 q3 q4 p5)), .val (.long (j0_9_l12 q0 q1 q2 q3 q4 p5)), .second, .val (.long (j0_127_l14 q0 q1 q2 q3 q4 p5)), .second, .val (.long (v0_122 q0 q1 q2 q3 q4 p5)), .second, .val (.double (v0_154 q0 q1 q2 q3 q4 p5)), .second, .val (.double (v0_172 q0 q1 q2 q3 q4 p5)), .second, .unset] [(.int (j0_178_s0 q0 q1 q2 q3 q4 p5))])) (T6.setFrames fs) by
      by_cases hc178 : ifCond.holds .gt (cmpValue (FP.dcmp FP.dconst0 (v0_154 q0 q1 q2 q3 q4 p5)) .g) = true
      · rw [show (j0_178_s0 q0 q1 q2 q3 q4 p5) = (0 : Int32) from if_pos hc178] at kt178
        refine XS.ifYes X6.here hx rfl (pc0 := 178) (pc' := 206) rfl (hb hby at_178) rfl hc178 (by decide) (by decide) ?_
        show Steps p.tables e below (T6.setTop (mkF m 206 #[.val (.long q0), .second, .val (.long q1), .second, .val (.long q2), .second, .val (.long q3), .second, .val (.long q4), .second, .val (.int p5), .val (.int (v0_4 q0 q1 q2 q3 q4 p5)), .val (.long (j0_9_l12 q0 q1 q2 q3 q4 p5)), .second, .val (.long (j0_127_l14 q0 q1 q2 q3 q4 p5)), .second, .val (.long (v0_122 q0 q1 q2 q3 q4 p5)), .second, .val (.double (v0_154 q0 q1 q2 q3 q4 p5)), .second, .val (.double (v0_172 q0 q1 q2 q3 q4 p5)), .second, .unset] [])) _
        refine XS.iconst X6.here hx rfl (hb hby at_206) ?_
        exact kt178
      · rw [show (j0_178_s0 q0 q1 q2 q3 q4 p5) = (j0_185_s0 q0 q1 q2 q3 q4 p5) from if_neg hc178] at kt178
        refine XS.ifNo X6.here hx rfl (hb hby at_178) rfl (eq_false_of_ne_true hc178) ?_
        show Steps p.tables e below (T6.setTop (mkF m 181 #[.val (.long q0), .second, .val (.long q1), .second, .val (.long q2), .second, .val (.long q3), .second, .val (.long q4), .second, .val (.int p5), .val (.int (v0_4 q0 q1 q2 q3 q4 p5)), .val (.long (j0_9_l12 q0 q1 q2 q3 q4 p5)), .second, .val (.long (j0_127_l14 q0 q1 q2 q3 q4 p5)), .second, .val (.long (v0_122 q0 q1 q2 q3 q4 p5)), .second, .val (.double (v0_154 q0 q1 q2 q3 q4 p5)), .second, .val (.double (v0_172 q0 q1 q2 q3 q4 p5)), .second, .unset] [])) _
        refine XS.dload X6.here hx rfl (hb hby at_181) rfl ?_
        show Steps p.tables e below (T6.setTop (mkF m 183 #[.val (.long q0), .second, .val (.long q1), .second, .val (.long q2), .second, .val (.long q3), .second, .val (.long q4), .second, .val (.int p5), .val (.int (v0_4 q0 q1 q2 q3 q4 p5)), .val (.long (j0_9_l12 q0 q1 q2 q3 q4 p5)), .second, .val (.long (j0_127_l14 q0 q1 q2 q3 q4 p5)), .second, .val (.long (v0_122 q0 q1 q2 q3 q4 p5)), .second, .val (.double (v0_154 q0 q1 q2 q3 q4 p5)), .second, .val (.double (v0_172 q0 q1 q2 q3 q4 p5)), .second, .unset] [(.double (v0_154 q0 q1 q2 q3 q4 p5))])) _
        refine XS.dconst1 X6.here hx rfl (hb hby at_183) rfl ?_
        show Steps p.tables e below (T6.setTop (mkF m 184 #[.val (.long q0), .second, .val (.long q1), .second, .val (.long q2), .second, .val (.long q3), .second, .val (.long q4), .second, .val (.int p5), .val (.int (v0_4 q0 q1 q2 q3 q4 p5)), .val (.long (j0_9_l12 q0 q1 q2 q3 q4 p5)), .second, .val (.long (j0_127_l14 q0 q1 q2 q3 q4 p5)), .second, .val (.long (v0_122 q0 q1 q2 q3 q4 p5)), .second, .val (.double (v0_154 q0 q1 q2 q3 q4 p5)), .second, .val (.double (v0_172 q0 q1 q2 q3 q4 p5)), .second, .unset] [(.double FP.dconst1), (.double (v0_154 q0 q1 q2 q3 q4 p5))])) _
        refine XS.dcmpS X6.here hx rfl (hb hby at_184) rfl rfl ?_
        show Steps p.tables e below (T6.setTop (mkF m 185 #[.val (.long q0), .second, .val (.long q1), .second, .val (.long q2), .second, .val (.long q3), .second, .val (.long q4), .second, .val (.int p5), .val (.int (v0_4 q0 q1 q2 q3 q4 p5)), .val (.long (j0_9_l12 q0 q1 q2 q3 q4 p5)), .second, .val (.long (j0_127_l14 q0 q1 q2 q3 q4 p5)), .second, .val (.long (v0_122 q0 q1 q2 q3 q4 p5)), .second, .val (.double (v0_154 q0 q1 q2 q3 q4 p5)), .second, .val (.double (v0_172 q0 q1 q2 q3 q4 p5)), .second, .unset] [(.int (cmpValue (FP.dcmp (v0_154 q0 q1 q2 q3 q4 p5) FP.dconst1) .g))])) _
        suffices kt185 : Steps p.tables e below (T6.setTop (mkF m 207 #[.val (.long q0), .second, .val (.long q1), .second, .val (.long q2), .second, .val (.long q3), .second, .val (.long q4), .second, .val (.int p5), .val (.int (v0_4 q0 q1 q2 q3 q4 p5)), .val (.long (j0_9_l12 q0 q1 q2 q3 q4 p5)), .second, .val (.long (j0_127_l14 q0 q1 q2 q3 q4 p5)), .second, .val (.long (v0_122 q0 q1 q2 q3 q4 p5)), .second, .val (.double (v0_154 q0 q1 q2 q3 q4 p5)), .second, .val (.double (v0_172 q0 q1 q2 q3 q4 p5)), .second, .unset] [(.int (j0_185_s0 q0 q1 q2 q3 q4 p5))])) (T6.setFrames fs) by
          by_cases hc185 : ifCond.holds .gt (cmpValue (FP.dcmp (v0_154 q0 q1 q2 q3 q4 p5) FP.dconst1) .g) = true
          · rw [show (j0_185_s0 q0 q1 q2 q3 q4 p5) = (0 : Int32) from if_pos hc185] at kt185
            refine XS.ifYes X6.here hx rfl (pc0 := 185) (pc' := 206) rfl (hb hby at_185) rfl hc185 (by decide) (by decide) ?_
            show Steps p.tables e below (T6.setTop (mkF m 206 #[.val (.long q0), .second, .val (.long q1), .second, .val (.long q2), .second, .val (.long q3), .second, .val (.long q4), .second, .val (.int p5), .val (.int (v0_4 q0 q1 q2 q3 q4 p5)), .val (.long (j0_9_l12 q0 q1 q2 q3 q4 p5)), .second, .val (.long (j0_127_l14 q0 q1 q2 q3 q4 p5)), .second, .val (.long (v0_122 q0 q1 q2 q3 q4 p5)), .second, .val (.double (v0_154 q0 q1 q2 q3 q4 p5)), .second, .val (.double (v0_172 q0 q1 q2 q3 q4 p5)), .second, .unset] [])) _
            refine XS.iconst X6.here hx rfl (hb hby at_206) ?_
            exact kt185
          · rw [show (j0_185_s0 q0 q1 q2 q3 q4 p5) = (j0_192_s0 q0 q1 q2 q3 q4 p5) from if_neg hc185] at kt185
            refine XS.ifNo X6.here hx rfl (hb hby at_185) rfl (eq_false_of_ne_true hc185) ?_
            show Steps p.tables e below (T6.setTop (mkF m 188 #[.val (.long q0), .second, .val (.long q1), .second, .val (.long q2), .second, .val (.long q3), .second, .val (.long q4), .second, .val (.int p5), .val (.int (v0_4 q0 q1 q2 q3 q4 p5)), .val (.long (j0_9_l12 q0 q1 q2 q3 q4 p5)), .second, .val (.long (j0_127_l14 q0 q1 q2 q3 q4 p5)), .second, .val (.long (v0_122 q0 q1 q2 q3 q4 p5)), .second, .val (.double (v0_154 q0 q1 q2 q3 q4 p5)), .second, .val (.double (v0_172 q0 q1 q2 q3 q4 p5)), .second, .unset] [])) _
            refine XS.dconst0 X6.here hx rfl (hb hby at_188) rfl ?_
            show Steps p.tables e below (T6.setTop (mkF m 189 #[.val (.long q0), .second, .val (.long q1), .second, .val (.long q2), .second, .val (.long q3), .second, .val (.long q4), .second, .val (.int p5), .val (.int (v0_4 q0 q1 q2 q3 q4 p5)), .val (.long (j0_9_l12 q0 q1 q2 q3 q4 p5)), .second, .val (.long (j0_127_l14 q0 q1 q2 q3 q4 p5)), .second, .val (.long (v0_122 q0 q1 q2 q3 q4 p5)), .second, .val (.double (v0_154 q0 q1 q2 q3 q4 p5)), .second, .val (.double (v0_172 q0 q1 q2 q3 q4 p5)), .second, .unset] [(.double FP.dconst0)])) _
            refine XS.dload X6.here hx rfl (hb hby at_189) rfl ?_
            show Steps p.tables e below (T6.setTop (mkF m 191 #[.val (.long q0), .second, .val (.long q1), .second, .val (.long q2), .second, .val (.long q3), .second, .val (.long q4), .second, .val (.int p5), .val (.int (v0_4 q0 q1 q2 q3 q4 p5)), .val (.long (j0_9_l12 q0 q1 q2 q3 q4 p5)), .second, .val (.long (j0_127_l14 q0 q1 q2 q3 q4 p5)), .second, .val (.long (v0_122 q0 q1 q2 q3 q4 p5)), .second, .val (.double (v0_154 q0 q1 q2 q3 q4 p5)), .second, .val (.double (v0_172 q0 q1 q2 q3 q4 p5)), .second, .unset] [(.double (v0_172 q0 q1 q2 q3 q4 p5)), (.double FP.dconst0)])) _
            refine XS.dcmpS X6.here hx rfl (hb hby at_191) rfl rfl ?_
            show Steps p.tables e below (T6.setTop (mkF m 192 #[.val (.long q0), .second, .val (.long q1), .second, .val (.long q2), .second, .val (.long q3), .second, .val (.long q4), .second, .val (.int p5), .val (.int (v0_4 q0 q1 q2 q3 q4 p5)), .val (.long (j0_9_l12 q0 q1 q2 q3 q4 p5)), .second, .val (.long (j0_127_l14 q0 q1 q2 q3 q4 p5)), .second, .val (.long (v0_122 q0 q1 q2 q3 q4 p5)), .second, .val (.double (v0_154 q0 q1 q2 q3 q4 p5)), .second, .val (.double (v0_172 q0 q1 q2 q3 q4 p5)), .second, .unset] [(.int (cmpValue (FP.dcmp FP.dconst0 (v0_172 q0 q1 q2 q3 q4 p5)) .g))])) _
            suffices kt192 : Steps p.tables e below (T6.setTop (mkF m 207 #[.val (.long q0), .second, .val (.long q1), .second, .val (.long q2), .second, .val (.long q3), .second, .val (.long q4), .second, .val (.int p5), .val (.int (v0_4 q0 q1 q2 q3 q4 p5)), .val (.long (j0_9_l12 q0 q1 q2 q3 q4 p5)), .second, .val (.long (j0_127_l14 q0 q1 q2 q3 q4 p5)), .second, .val (.long (v0_122 q0 q1 q2 q3 q4 p5)), .second, .val (.double (v0_154 q0 q1 q2 q3 q4 p5)), .second, .val (.double (v0_172 q0 q1 q2 q3 q4 p5)), .second, .unset] [(.int (j0_192_s0 q0 q1 q2 q3 q4 p5))])) (T6.setFrames fs) by
              by_cases hc192 : ifCond.holds .gt (cmpValue (FP.dcmp FP.dconst0 (v0_172 q0 q1 q2 q3 q4 p5)) .g) = true
              · rw [show (j0_192_s0 q0 q1 q2 q3 q4 p5) = (0 : Int32) from if_pos hc192] at kt192
                refine XS.ifYes X6.here hx rfl (pc0 := 192) (pc' := 206) rfl (hb hby at_192) rfl hc192 (by decide) (by decide) ?_
                show Steps p.tables e below (T6.setTop (mkF m 206 #[.val (.long q0), .second, .val (.long q1), .second, .val (.long q2), .second, .val (.long q3), .second, .val (.long q4), .second, .val (.int p5), .val (.int (v0_4 q0 q1 q2 q3 q4 p5)), .val (.long (j0_9_l12 q0 q1 q2 q3 q4 p5)), .second, .val (.long (j0_127_l14 q0 q1 q2 q3 q4 p5)), .second, .val (.long (v0_122 q0 q1 q2 q3 q4 p5)), .second, .val (.double (v0_154 q0 q1 q2 q3 q4 p5)), .second, .val (.double (v0_172 q0 q1 q2 q3 q4 p5)), .second, .unset] [])) _
                refine XS.iconst X6.here hx rfl (hb hby at_206) ?_
                exact kt192
              · rw [show (j0_192_s0 q0 q1 q2 q3 q4 p5) = (j0_199_s0 q0 q1 q2 q3 q4 p5) from if_neg hc192] at kt192
                refine XS.ifNo X6.here hx rfl (hb hby at_192) rfl (eq_false_of_ne_true hc192) ?_
                show Steps p.tables e below (T6.setTop (mkF m 195 #[.val (.long q0), .second, .val (.long q1), .second, .val (.long q2), .second, .val (.long q3), .second, .val (.long q4), .second, .val (.int p5), .val (.int (v0_4 q0 q1 q2 q3 q4 p5)), .val (.long (j0_9_l12 q0 q1 q2 q3 q4 p5)), .second, .val (.long (j0_127_l14 q0 q1 q2 q3 q4 p5)), .second, .val (.long (v0_122 q0 q1 q2 q3 q4 p5)), .second, .val (.double (v0_154 q0 q1 q2 q3 q4 p5)), .second, .val (.double (v0_172 q0 q1 q2 q3 q4 p5)), .second, .unset] [])) _
                refine XS.dload X6.here hx rfl (hb hby at_195) rfl ?_
                show Steps p.tables e below (T6.setTop (mkF m 197 #[.val (.long q0), .second, .val (.long q1), .second, .val (.long q2), .second, .val (.long q3), .second, .val (.long q4), .second, .val (.int p5), .val (.int (v0_4 q0 q1 q2 q3 q4 p5)), .val (.long (j0_9_l12 q0 q1 q2 q3 q4 p5)), .second, .val (.long (j0_127_l14 q0 q1 q2 q3 q4 p5)), .second, .val (.long (v0_122 q0 q1 q2 q3 q4 p5)), .second, .val (.double (v0_154 q0 q1 q2 q3 q4 p5)), .second, .val (.double (v0_172 q0 q1 q2 q3 q4 p5)), .second, .unset] [(.double (v0_172 q0 q1 q2 q3 q4 p5))])) _
                refine XS.dconst1 X6.here hx rfl (hb hby at_197) rfl ?_
                show Steps p.tables e below (T6.setTop (mkF m 198 #[.val (.long q0), .second, .val (.long q1), .second, .val (.long q2), .second, .val (.long q3), .second, .val (.long q4), .second, .val (.int p5), .val (.int (v0_4 q0 q1 q2 q3 q4 p5)), .val (.long (j0_9_l12 q0 q1 q2 q3 q4 p5)), .second, .val (.long (j0_127_l14 q0 q1 q2 q3 q4 p5)), .second, .val (.long (v0_122 q0 q1 q2 q3 q4 p5)), .second, .val (.double (v0_154 q0 q1 q2 q3 q4 p5)), .second, .val (.double (v0_172 q0 q1 q2 q3 q4 p5)), .second, .unset] [(.double FP.dconst1), (.double (v0_172 q0 q1 q2 q3 q4 p5))])) _
                refine XS.dcmpS X6.here hx rfl (hb hby at_198) rfl rfl ?_
                show Steps p.tables e below (T6.setTop (mkF m 199 #[.val (.long q0), .second, .val (.long q1), .second, .val (.long q2), .second, .val (.long q3), .second, .val (.long q4), .second, .val (.int p5), .val (.int (v0_4 q0 q1 q2 q3 q4 p5)), .val (.long (j0_9_l12 q0 q1 q2 q3 q4 p5)), .second, .val (.long (j0_127_l14 q0 q1 q2 q3 q4 p5)), .second, .val (.long (v0_122 q0 q1 q2 q3 q4 p5)), .second, .val (.double (v0_154 q0 q1 q2 q3 q4 p5)), .second, .val (.double (v0_172 q0 q1 q2 q3 q4 p5)), .second, .unset] [(.int (cmpValue (FP.dcmp (v0_172 q0 q1 q2 q3 q4 p5) FP.dconst1) .g))])) _
                suffices kt199 : Steps p.tables e below (T6.setTop (mkF m 207 #[.val (.long q0), .second, .val (.long q1), .second, .val (.long q2), .second, .val (.long q3), .second, .val (.long q4), .second, .val (.int p5), .val (.int (v0_4 q0 q1 q2 q3 q4 p5)), .val (.long (j0_9_l12 q0 q1 q2 q3 q4 p5)), .second, .val (.long (j0_127_l14 q0 q1 q2 q3 q4 p5)), .second, .val (.long (v0_122 q0 q1 q2 q3 q4 p5)), .second, .val (.double (v0_154 q0 q1 q2 q3 q4 p5)), .second, .val (.double (v0_172 q0 q1 q2 q3 q4 p5)), .second, .unset] [(.int (j0_199_s0 q0 q1 q2 q3 q4 p5))])) (T6.setFrames fs) by
                  by_cases hc199 : ifCond.holds .gt (cmpValue (FP.dcmp (v0_172 q0 q1 q2 q3 q4 p5) FP.dconst1) .g) = true
                  · rw [show (j0_199_s0 q0 q1 q2 q3 q4 p5) = (0 : Int32) from if_pos hc199] at kt199
                    refine XS.ifYes X6.here hx rfl (pc0 := 199) (pc' := 206) rfl (hb hby at_199) rfl hc199 (by decide) (by decide) ?_
                    show Steps p.tables e below (T6.setTop (mkF m 206 #[.val (.long q0), .second, .val (.long q1), .second, .val (.long q2), .second, .val (.long q3), .second, .val (.long q4), .second, .val (.int p5), .val (.int (v0_4 q0 q1 q2 q3 q4 p5)), .val (.long (j0_9_l12 q0 q1 q2 q3 q4 p5)), .second, .val (.long (j0_127_l14 q0 q1 q2 q3 q4 p5)), .second, .val (.long (v0_122 q0 q1 q2 q3 q4 p5)), .second, .val (.double (v0_154 q0 q1 q2 q3 q4 p5)), .second, .val (.double (v0_172 q0 q1 q2 q3 q4 p5)), .second, .unset] [])) _
                    refine XS.iconst X6.here hx rfl (hb hby at_206) ?_
                    exact kt199
                  · rw [show (j0_199_s0 q0 q1 q2 q3 q4 p5) = (1 : Int32) from if_neg hc199] at kt199
                    refine XS.ifNo X6.here hx rfl (hb hby at_199) rfl (eq_false_of_ne_true hc199) ?_
                    show Steps p.tables e below (T6.setTop (mkF m 202 #[.val (.long q0), .second, .val (.long q1), .second, .val (.long q2), .second, .val (.long q3), .second, .val (.long q4), .second, .val (.int p5), .val (.int (v0_4 q0 q1 q2 q3 q4 p5)), .val (.long (j0_9_l12 q0 q1 q2 q3 q4 p5)), .second, .val (.long (j0_127_l14 q0 q1 q2 q3 q4 p5)), .second, .val (.long (v0_122 q0 q1 q2 q3 q4 p5)), .second, .val (.double (v0_154 q0 q1 q2 q3 q4 p5)), .second, .val (.double (v0_172 q0 q1 q2 q3 q4 p5)), .second, .unset] [])) _
                    refine XS.iconst X6.here hx rfl (hb hby at_202) ?_
                    show Steps p.tables e below (T6.setTop (mkF m 203 #[.val (.long q0), .second, .val (.long q1), .second, .val (.long q2), .second, .val (.long q3), .second, .val (.long q4), .second, .val (.int p5), .val (.int (v0_4 q0 q1 q2 q3 q4 p5)), .val (.long (j0_9_l12 q0 q1 q2 q3 q4 p5)), .second, .val (.long (j0_127_l14 q0 q1 q2 q3 q4 p5)), .second, .val (.long (v0_122 q0 q1 q2 q3 q4 p5)), .second, .val (.double (v0_154 q0 q1 q2 q3 q4 p5)), .second, .val (.double (v0_172 q0 q1 q2 q3 q4 p5)), .second, .unset] [(.int (1 : Int32))])) _
                    refine XS.goto X6.here hx rfl (pc0 := 203) (pc' := 207) rfl (hb hby at_203) (by decide) (by decide) ?_
                    exact kt199
                exact kt192
            exact kt185
        exact kt178
    show Steps p.tables e below (T6.setTop (mkF m 207 #[.val (.long q0), .second, .val (.long q1), .second, .val (.long q2), .second, .val (.long q3), .second, .val (.long q4), .second, .val (.int p5), .val (.int (v0_4 q0 q1 q2 q3 q4 p5)), .val (.long (j0_9_l12 q0 q1 q2 q3 q4 p5)), .second, .val (.long (j0_127_l14 q0 q1 q2 q3 q4 p5)), .second, .val (.long (v0_122 q0 q1 q2 q3 q4 p5)), .second, .val (.double (v0_154 q0 q1 q2 q3 q4 p5)), .second, .val (.double (v0_172 q0 q1 q2 q3 q4 p5)), .second, .unset] [(.int (j0_178_s0 q0 q1 q2 q3 q4 p5))])) _
    refine XS.istore X6.here hx rfl (hb hby at_207) rfl (l' := #[.val (.long q0), .second, .val (.long q1), .second, .val (.long q2), .second, .val (.long q3), .second, .val (.long q4), .second, .val (.int p5), .val (.int (v0_4 q0 q1 q2 q3 q4 p5)), .val (.long (j0_9_l12 q0 q1 q2 q3 q4 p5)), .second, .val (.long (j0_127_l14 q0 q1 q2 q3 q4 p5)), .second, .val (.long (v0_122 q0 q1 q2 q3 q4 p5)), .second, .val (.double (v0_154 q0 q1 q2 q3 q4 p5)), .second, .val (.double (v0_172 q0 q1 q2 q3 q4 p5)), .second, .val (.int (j0_178_s0 q0 q1 q2 q3 q4 p5))]) rfl ?_
    show Steps p.tables e below (T6.setTop (mkF m 209 #[.val (.long q0), .second, .val (.long q1), .second, .val (.long q2), .second, .val (.long q3), .second, .val (.long q4), .second, .val (.int p5), .val (.int (v0_4 q0 q1 q2 q3 q4 p5)), .val (.long (j0_9_l12 q0 q1 q2 q3 q4 p5)), .second, .val (.long (j0_127_l14 q0 q1 q2 q3 q4 p5)), .second, .val (.long (v0_122 q0 q1 q2 q3 q4 p5)), .second, .val (.double (v0_154 q0 q1 q2 q3 q4 p5)), .second, .val (.double (v0_172 q0 q1 q2 q3 q4 p5)), .second, .val (.int (j0_178_s0 q0 q1 q2 q3 q4 p5))] [])) _
    refine XS.lload X6.here hx rfl (hb hby at_209) rfl ?_
    show Steps p.tables e below (T6.setTop (mkF m 211 #[.val (.long q0), .second, .val (.long q1), .second, .val (.long q2), .second, .val (.long q3), .second, .val (.long q4), .second, .val (.int p5), .val (.int (v0_4 q0 q1 q2 q3 q4 p5)), .val (.long (j0_9_l12 q0 q1 q2 q3 q4 p5)), .second, .val (.long (j0_127_l14 q0 q1 q2 q3 q4 p5)), .second, .val (.long (v0_122 q0 q1 q2 q3 q4 p5)), .second, .val (.double (v0_154 q0 q1 q2 q3 q4 p5)), .second, .val (.double (v0_172 q0 q1 q2 q3 q4 p5)), .second, .val (.int (j0_178_s0 q0 q1 q2 q3 q4 p5))] [(.long (j0_127_l14 q0 q1 q2 q3 q4 p5))])) _
    refine XS.lconst X6.here hx rfl (hb hby at_211) ?_
    show Steps p.tables e below (T6.setTop (mkF m 212 #[.val (.long q0), .second, .val (.long q1), .second, .val (.long q2), .second, .val (.long q3), .second, .val (.long q4), .second, .val (.int p5), .val (.int (v0_4 q0 q1 q2 q3 q4 p5)), .val (.long (j0_9_l12 q0 q1 q2 q3 q4 p5)), .second, .val (.long (j0_127_l14 q0 q1 q2 q3 q4 p5)), .second, .val (.long (v0_122 q0 q1 q2 q3 q4 p5)), .second, .val (.double (v0_154 q0 q1 q2 q3 q4 p5)), .second, .val (.double (v0_172 q0 q1 q2 q3 q4 p5)), .second, .val (.int (j0_178_s0 q0 q1 q2 q3 q4 p5))] [(.long (0 : Int64)), (.long (j0_127_l14 q0 q1 q2 q3 q4 p5))])) _
    refine XS.lcmp X6.here hx rfl (hb hby at_212) rfl ?_
    show Steps p.tables e below (T6.setTop (mkF m 213 #[.val (.long q0), .second, .val (.long q1), .second, .val (.long q2), .second, .val (.long q3), .second, .val (.long q4), .second, .val (.int p5), .val (.int (v0_4 q0 q1 q2 q3 q4 p5)), .val (.long (j0_9_l12 q0 q1 q2 q3 q4 p5)), .second, .val (.long (j0_127_l14 q0 q1 q2 q3 q4 p5)), .second, .val (.long (v0_122 q0 q1 q2 q3 q4 p5)), .second, .val (.double (v0_154 q0 q1 q2 q3 q4 p5)), .second, .val (.double (v0_172 q0 q1 q2 q3 q4 p5)), .second, .val (.int (j0_178_s0 q0 q1 q2 q3 q4 p5))] [(.int (lcmpW (j0_127_l14 q0 q1 q2 q3 q4 p5) (0 : Int64)))])) _
    suffices kt213 : Steps p.tables e below (T6.setTop (mkF m 235 #[.val (.long q0), .second, .val (.long q1), .second, .val (.long q2), .second, .val (.long q3), .second, .val (.long q4), .second, .val (.int p5), .val (.int (v0_4 q0 q1 q2 q3 q4 p5)), .val (.long (j0_9_l12 q0 q1 q2 q3 q4 p5)), .second, .val (.long (j0_127_l14 q0 q1 q2 q3 q4 p5)), .second, .val (.long (v0_122 q0 q1 q2 q3 q4 p5)), .second, .val (.double (v0_154 q0 q1 q2 q3 q4 p5)), .second, .val (.double (v0_172 q0 q1 q2 q3 q4 p5)), .second, .val (.int (j0_213_l22 q0 q1 q2 q3 q4 p5))] [])) (T6.setFrames fs) by
      by_cases hc213 : ifCond.holds .ne (lcmpW (j0_127_l14 q0 q1 q2 q3 q4 p5) (0 : Int64)) = true
      · rw [show (j0_213_l22 q0 q1 q2 q3 q4 p5) = (j0_178_s0 q0 q1 q2 q3 q4 p5) from if_pos hc213] at kt213
        refine XS.ifYes X6.here hx rfl (pc0 := 213) (pc' := 235) rfl (hb hby at_213) rfl hc213 (by decide) (by decide) ?_
        exact kt213
      · rw [show (j0_213_l22 q0 q1 q2 q3 q4 p5) = (j0_218_s0 q0 q1 q2 q3 q4 p5) from if_neg hc213] at kt213
        refine XS.ifNo X6.here hx rfl (hb hby at_213) rfl (eq_false_of_ne_true hc213) ?_
        show Steps p.tables e below (T6.setTop (mkF m 216 #[.val (.long q0), .second, .val (.long q1), .second, .val (.long q2), .second, .val (.long q3), .second, .val (.long q4), .second, .val (.int p5), .val (.int (v0_4 q0 q1 q2 q3 q4 p5)), .val (.long (j0_9_l12 q0 q1 q2 q3 q4 p5)), .second, .val (.long (j0_127_l14 q0 q1 q2 q3 q4 p5)), .second, .val (.long (v0_122 q0 q1 q2 q3 q4 p5)), .second, .val (.double (v0_154 q0 q1 q2 q3 q4 p5)), .second, .val (.double (v0_172 q0 q1 q2 q3 q4 p5)), .second, .val (.int (j0_178_s0 q0 q1 q2 q3 q4 p5))] [])) _
        refine XS.iload X6.here hx rfl (hb hby at_216) rfl ?_
        show Steps p.tables e below (T6.setTop (mkF m 218 #[.val (.long q0), .second, .val (.long q1), .second, .val (.long q2), .second, .val (.long q3), .second, .val (.long q4), .second, .val (.int p5), .val (.int (v0_4 q0 q1 q2 q3 q4 p5)), .val (.long (j0_9_l12 q0 q1 q2 q3 q4 p5)), .second, .val (.long (j0_127_l14 q0 q1 q2 q3 q4 p5)), .second, .val (.long (v0_122 q0 q1 q2 q3 q4 p5)), .second, .val (.double (v0_154 q0 q1 q2 q3 q4 p5)), .second, .val (.double (v0_172 q0 q1 q2 q3 q4 p5)), .second, .val (.int (j0_178_s0 q0 q1 q2 q3 q4 p5))] [(.int (j0_178_s0 q0 q1 q2 q3 q4 p5))])) _
        suffices kt218 : Steps p.tables e below (T6.setTop (mkF m 233 #[.val (.long q0), .second, .val (.long q1), .second, .val (.long q2), .second, .val (.long q3), .second, .val (.long q4), .second, .val (.int p5), .val (.int (v0_4 q0 q1 q2 q3 q4 p5)), .val (.long (j0_9_l12 q0 q1 q2 q3 q4 p5)), .second, .val (.long (j0_127_l14 q0 q1 q2 q3 q4 p5)), .second, .val (.long (v0_122 q0 q1 q2 q3 q4 p5)), .second, .val (.double (v0_154 q0 q1 q2 q3 q4 p5)), .second, .val (.double (v0_172 q0 q1 q2 q3 q4 p5)), .second, .val (.int (j0_178_s0 q0 q1 q2 q3 q4 p5))] [(.int (j0_218_s0 q0 q1 q2 q3 q4 p5))])) (T6.setFrames fs) by
          by_cases hc218 : ifCond.holds .eq (j0_178_s0 q0 q1 q2 q3 q4 p5) = true
          · rw [show (j0_218_s0 q0 q1 q2 q3 q4 p5) = (0 : Int32) from if_pos hc218] at kt218
            refine XS.ifYes X6.here hx rfl (pc0 := 218) (pc' := 232) rfl (hb hby at_218) rfl hc218 (by decide) (by decide) ?_
            show Steps p.tables e below (T6.setTop (mkF m 232 #[.val (.long q0), .second, .val (.long q1), .second, .val (.long q2), .second, .val (.long q3), .second, .val (.long q4), .second, .val (.int p5), .val (.int (v0_4 q0 q1 q2 q3 q4 p5)), .val (.long (j0_9_l12 q0 q1 q2 q3 q4 p5)), .second, .val (.long (j0_127_l14 q0 q1 q2 q3 q4 p5)), .second, .val (.long (v0_122 q0 q1 q2 q3 q4 p5)), .second, .val (.double (v0_154 q0 q1 q2 q3 q4 p5)), .second, .val (.double (v0_172 q0 q1 q2 q3 q4 p5)), .second, .val (.int (j0_178_s0 q0 q1 q2 q3 q4 p5))] [])) _
            refine XS.iconst X6.here hx rfl (hb hby at_232) ?_
            exact kt218
          · rw [show (j0_218_s0 q0 q1 q2 q3 q4 p5) = (j0_225_s0 q0 q1 q2 q3 q4 p5) from if_neg hc218] at kt218
            refine XS.ifNo X6.here hx rfl (hb hby at_218) rfl (eq_false_of_ne_true hc218) ?_
            show Steps p.tables e below (T6.setTop (mkF m 221 #[.val (.long q0), .second, .val (.long q1), .second, .val (.long q2), .second, .val (.long q3), .second, .val (.long q4), .second, .val (.int p5), .val (.int (v0_4 q0 q1 q2 q3 q4 p5)), .val (.long (j0_9_l12 q0 q1 q2 q3 q4 p5)), .second, .val (.long (j0_127_l14 q0 q1 q2 q3 q4 p5)), .second, .val (.long (v0_122 q0 q1 q2 q3 q4 p5)), .second, .val (.double (v0_154 q0 q1 q2 q3 q4 p5)), .second, .val (.double (v0_172 q0 q1 q2 q3 q4 p5)), .second, .val (.int (j0_178_s0 q0 q1 q2 q3 q4 p5))] [])) _
            refine XS.dload X6.here hx rfl (hb hby at_221) rfl ?_
            show Steps p.tables e below (T6.setTop (mkF m 223 #[.val (.long q0), .second, .val (.long q1), .second, .val (.long q2), .second, .val (.long q3), .second, .val (.long q4), .second, .val (.int p5), .val (.int (v0_4 q0 q1 q2 q3 q4 p5)), .val (.long (j0_9_l12 q0 q1 q2 q3 q4 p5)), .second, .val (.long (j0_127_l14 q0 q1 q2 q3 q4 p5)), .second, .val (.long (v0_122 q0 q1 q2 q3 q4 p5)), .second, .val (.double (v0_154 q0 q1 q2 q3 q4 p5)), .second, .val (.double (v0_172 q0 q1 q2 q3 q4 p5)), .second, .val (.int (j0_178_s0 q0 q1 q2 q3 q4 p5))] [(.double (v0_154 q0 q1 q2 q3 q4 p5))])) _
            refine XS.dconst1 X6.here hx rfl (hb hby at_223) rfl ?_
            show Steps p.tables e below (T6.setTop (mkF m 224 #[.val (.long q0), .second, .val (.long q1), .second, .val (.long q2), .second, .val (.long q3), .second, .val (.long q4), .second, .val (.int p5), .val (.int (v0_4 q0 q1 q2 q3 q4 p5)), .val (.long (j0_9_l12 q0 q1 q2 q3 q4 p5)), .second, .val (.long (j0_127_l14 q0 q1 q2 q3 q4 p5)), .second, .val (.long (v0_122 q0 q1 q2 q3 q4 p5)), .second, .val (.double (v0_154 q0 q1 q2 q3 q4 p5)), .second, .val (.double (v0_172 q0 q1 q2 q3 q4 p5)), .second, .val (.int (j0_178_s0 q0 q1 q2 q3 q4 p5))] [(.double FP.dconst1), (.double (v0_154 q0 q1 q2 q3 q4 p5))])) _
            refine XS.dcmpS X6.here hx rfl (hb hby at_224) rfl rfl ?_
            show Steps p.tables e below (T6.setTop (mkF m 225 #[.val (.long q0), .second, .val (.long q1), .second, .val (.long q2), .second, .val (.long q3), .second, .val (.long q4), .second, .val (.int p5), .val (.int (v0_4 q0 q1 q2 q3 q4 p5)), .val (.long (j0_9_l12 q0 q1 q2 q3 q4 p5)), .second, .val (.long (j0_127_l14 q0 q1 q2 q3 q4 p5)), .second, .val (.long (v0_122 q0 q1 q2 q3 q4 p5)), .second, .val (.double (v0_154 q0 q1 q2 q3 q4 p5)), .second, .val (.double (v0_172 q0 q1 q2 q3 q4 p5)), .second, .val (.int (j0_178_s0 q0 q1 q2 q3 q4 p5))] [(.int (cmpValue (FP.dcmp (v0_154 q0 q1 q2 q3 q4 p5) FP.dconst1) .l))])) _
            suffices kt225 : Steps p.tables e below (T6.setTop (mkF m 233 #[.val (.long q0), .second, .val (.long q1), .second, .val (.long q2), .second, .val (.long q3), .second, .val (.long q4), .second, .val (.int p5), .val (.int (v0_4 q0 q1 q2 q3 q4 p5)), .val (.long (j0_9_l12 q0 q1 q2 q3 q4 p5)), .second, .val (.long (j0_127_l14 q0 q1 q2 q3 q4 p5)), .second, .val (.long (v0_122 q0 q1 q2 q3 q4 p5)), .second, .val (.double (v0_154 q0 q1 q2 q3 q4 p5)), .second, .val (.double (v0_172 q0 q1 q2 q3 q4 p5)), .second, .val (.int (j0_178_s0 q0 q1 q2 q3 q4 p5))] [(.int (j0_225_s0 q0 q1 q2 q3 q4 p5))])) (T6.setFrames fs) by
              by_cases hc225 : ifCond.holds .ne (cmpValue (FP.dcmp (v0_154 q0 q1 q2 q3 q4 p5) FP.dconst1) .l) = true
              · rw [show (j0_225_s0 q0 q1 q2 q3 q4 p5) = (0 : Int32) from if_pos hc225] at kt225
                refine XS.ifYes X6.here hx rfl (pc0 := 225) (pc' := 232) rfl (hb hby at_225) rfl hc225 (by decide) (by decide) ?_
                show Steps p.tables e below (T6.setTop (mkF m 232 #[.val (.long q0), .second, .val (.long q1), .second, .val (.long q2), .second, .val (.long q3), .second, .val (.long q4), .second, .val (.int p5), .val (.int (v0_4 q0 q1 q2 q3 q4 p5)), .val (.long (j0_9_l12 q0 q1 q2 q3 q4 p5)), .second, .val (.long (j0_127_l14 q0 q1 q2 q3 q4 p5)), .second, .val (.long (v0_122 q0 q1 q2 q3 q4 p5)), .second, .val (.double (v0_154 q0 q1 q2 q3 q4 p5)), .second, .val (.double (v0_172 q0 q1 q2 q3 q4 p5)), .second, .val (.int (j0_178_s0 q0 q1 q2 q3 q4 p5))] [])) _
                refine XS.iconst X6.here hx rfl (hb hby at_232) ?_
                exact kt225
              · rw [show (j0_225_s0 q0 q1 q2 q3 q4 p5) = (1 : Int32) from if_neg hc225] at kt225
                refine XS.ifNo X6.here hx rfl (hb hby at_225) rfl (eq_false_of_ne_true hc225) ?_
                show Steps p.tables e below (T6.setTop (mkF m 228 #[.val (.long q0), .second, .val (.long q1), .second, .val (.long q2), .second, .val (.long q3), .second, .val (.long q4), .second, .val (.int p5), .val (.int (v0_4 q0 q1 q2 q3 q4 p5)), .val (.long (j0_9_l12 q0 q1 q2 q3 q4 p5)), .second, .val (.long (j0_127_l14 q0 q1 q2 q3 q4 p5)), .second, .val (.long (v0_122 q0 q1 q2 q3 q4 p5)), .second, .val (.double (v0_154 q0 q1 q2 q3 q4 p5)), .second, .val (.double (v0_172 q0 q1 q2 q3 q4 p5)), .second, .val (.int (j0_178_s0 q0 q1 q2 q3 q4 p5))] [])) _
                refine XS.iconst X6.here hx rfl (hb hby at_228) ?_
                show Steps p.tables e below (T6.setTop (mkF m 229 #[.val (.long q0), .second, .val (.long q1), .second, .val (.long q2), .second, .val (.long q3), .second, .val (.long q4), .second, .val (.int p5), .val (.int (v0_4 q0 q1 q2 q3 q4 p5)), .val (.long (j0_9_l12 q0 q1 q2 q3 q4 p5)), .second, .val (.long (j0_127_l14 q0 q1 q2 q3 q4 p5)), .second, .val (.long (v0_122 q0 q1 q2 q3 q4 p5)), .second, .val (.double (v0_154 q0 q1 q2 q3 q4 p5)), .second, .val (.double (v0_172 q0 q1 q2 q3 q4 p5)), .second, .val (.int (j0_178_s0 q0 q1 q2 q3 q4 p5))] [(.int (1 : Int32))])) _
                refine XS.goto X6.here hx rfl (pc0 := 229) (pc' := 233) rfl (hb hby at_229) (by decide) (by decide) ?_
                exact kt225
            exact kt218
        show Steps p.tables e below (T6.setTop (mkF m 233 #[.val (.long q0), .second, .val (.long q1), .second, .val (.long q2), .second, .val (.long q3), .second, .val (.long q4), .second, .val (.int p5), .val (.int (v0_4 q0 q1 q2 q3 q4 p5)), .val (.long (j0_9_l12 q0 q1 q2 q3 q4 p5)), .second, .val (.long (j0_127_l14 q0 q1 q2 q3 q4 p5)), .second, .val (.long (v0_122 q0 q1 q2 q3 q4 p5)), .second, .val (.double (v0_154 q0 q1 q2 q3 q4 p5)), .second, .val (.double (v0_172 q0 q1 q2 q3 q4 p5)), .second, .val (.int (j0_178_s0 q0 q1 q2 q3 q4 p5))] [(.int (j0_218_s0 q0 q1 q2 q3 q4 p5))])) _
        refine XS.istore X6.here hx rfl (hb hby at_233) rfl (l' := #[.val (.long q0), .second, .val (.long q1), .second, .val (.long q2), .second, .val (.long q3), .second, .val (.long q4), .second, .val (.int p5), .val (.int (v0_4 q0 q1 q2 q3 q4 p5)), .val (.long (j0_9_l12 q0 q1 q2 q3 q4 p5)), .second, .val (.long (j0_127_l14 q0 q1 q2 q3 q4 p5)), .second, .val (.long (v0_122 q0 q1 q2 q3 q4 p5)), .second, .val (.double (v0_154 q0 q1 q2 q3 q4 p5)), .second, .val (.double (v0_172 q0 q1 q2 q3 q4 p5)), .second, .val (.int (j0_218_s0 q0 q1 q2 q3 q4 p5))]) rfl ?_
        exact kt213
    show Steps p.tables e below (T6.setTop (mkF m 235 #[.val (.long q0), .second, .val (.long q1), .second, .val (.long q2), .second, .val (.long q3), .second, .val (.long q4), .second, .val (.int p5), .val (.int (v0_4 q0 q1 q2 q3 q4 p5)), .val (.long (j0_9_l12 q0 q1 q2 q3 q4 p5)), .second, .val (.long (j0_127_l14 q0 q1 q2 q3 q4 p5)), .second, .val (.long (v0_122 q0 q1 q2 q3 q4 p5)), .second, .val (.double (v0_154 q0 q1 q2 q3 q4 p5)), .second, .val (.double (v0_172 q0 q1 q2 q3 q4 p5)), .second, .val (.int (j0_213_l22 q0 q1 q2 q3 q4 p5))] [])) _
    refine XS.lload X6.here hx rfl (hb hby at_235) rfl ?_
    show Steps p.tables e below (T6.setTop (mkF m 237 #[.val (.long q0), .second, .val (.long q1), .second, .val (.long q2), .second, .val (.long q3), .second, .val (.long q4), .second, .val (.int p5), .val (.int (v0_4 q0 q1 q2 q3 q4 p5)), .val (.long (j0_9_l12 q0 q1 q2 q3 q4 p5)), .second, .val (.long (j0_127_l14 q0 q1 q2 q3 q4 p5)), .second, .val (.long (v0_122 q0 q1 q2 q3 q4 p5)), .second, .val (.double (v0_154 q0 q1 q2 q3 q4 p5)), .second, .val (.double (v0_172 q0 q1 q2 q3 q4 p5)), .second, .val (.int (j0_213_l22 q0 q1 q2 q3 q4 p5))] [(.long (v0_122 q0 q1 q2 q3 q4 p5))])) _
    refine XS.lconst X6.here hx rfl (hb hby at_237) ?_
    show Steps p.tables e below (T6.setTop (mkF m 238 #[.val (.long q0), .second, .val (.long q1), .second, .val (.long q2), .second, .val (.long q3), .second, .val (.long q4), .second, .val (.int p5), .val (.int (v0_4 q0 q1 q2 q3 q4 p5)), .val (.long (j0_9_l12 q0 q1 q2 q3 q4 p5)), .second, .val (.long (j0_127_l14 q0 q1 q2 q3 q4 p5)), .second, .val (.long (v0_122 q0 q1 q2 q3 q4 p5)), .second, .val (.double (v0_154 q0 q1 q2 q3 q4 p5)), .second, .val (.double (v0_172 q0 q1 q2 q3 q4 p5)), .second, .val (.int (j0_213_l22 q0 q1 q2 q3 q4 p5))] [(.long (0 : Int64)), (.long (v0_122 q0 q1 q2 q3 q4 p5))])) _
    refine XS.lcmp X6.here hx rfl (hb hby at_238) rfl ?_
    show Steps p.tables e below (T6.setTop (mkF m 239 #[.val (.long q0), .second, .val (.long q1), .second, .val (.long q2), .second, .val (.long q3), .second, .val (.long q4), .second, .val (.int p5), .val (.int (v0_4 q0 q1 q2 q3 q4 p5)), .val (.long (j0_9_l12 q0 q1 q2 q3 q4 p5)), .second, .val (.long (j0_127_l14 q0 q1 q2 q3 q4 p5)), .second, .val (.long (v0_122 q0 q1 q2 q3 q4 p5)), .second, .val (.double (v0_154 q0 q1 q2 q3 q4 p5)), .second, .val (.double (v0_172 q0 q1 q2 q3 q4 p5)), .second, .val (.int (j0_213_l22 q0 q1 q2 q3 q4 p5))] [(.int (lcmpW (v0_122 q0 q1 q2 q3 q4 p5) (0 : Int64)))])) _
    suffices kt239 : Steps p.tables e below (T6.setTop (mkF m 261 #[.val (.long q0), .second, .val (.long q1), .second, .val (.long q2), .second, .val (.long q3), .second, .val (.long q4), .second, .val (.int p5), .val (.int (v0_4 q0 q1 q2 q3 q4 p5)), .val (.long (j0_9_l12 q0 q1 q2 q3 q4 p5)), .second, .val (.long (j0_127_l14 q0 q1 q2 q3 q4 p5)), .second, .val (.long (v0_122 q0 q1 q2 q3 q4 p5)), .second, .val (.double (v0_154 q0 q1 q2 q3 q4 p5)), .second, .val (.double (v0_172 q0 q1 q2 q3 q4 p5)), .second, .val (.int (j0_239_l22 q0 q1 q2 q3 q4 p5))] [])) (T6.setFrames fs) by
      by_cases hc239 : ifCond.holds .ne (lcmpW (v0_122 q0 q1 q2 q3 q4 p5) (0 : Int64)) = true
      · rw [show (j0_239_l22 q0 q1 q2 q3 q4 p5) = (j0_213_l22 q0 q1 q2 q3 q4 p5) from if_pos hc239] at kt239
        refine XS.ifYes X6.here hx rfl (pc0 := 239) (pc' := 261) rfl (hb hby at_239) rfl hc239 (by decide) (by decide) ?_
        exact kt239
      · rw [show (j0_239_l22 q0 q1 q2 q3 q4 p5) = (j0_244_s0 q0 q1 q2 q3 q4 p5) from if_neg hc239] at kt239
        refine XS.ifNo X6.here hx rfl (hb hby at_239) rfl (eq_false_of_ne_true hc239) ?_
        show Steps p.tables e below (T6.setTop (mkF m 242 #[.val (.long q0), .second, .val (.long q1), .second, .val (.long q2), .second, .val (.long q3), .second, .val (.long q4), .second, .val (.int p5), .val (.int (v0_4 q0 q1 q2 q3 q4 p5)), .val (.long (j0_9_l12 q0 q1 q2 q3 q4 p5)), .second, .val (.long (j0_127_l14 q0 q1 q2 q3 q4 p5)), .second, .val (.long (v0_122 q0 q1 q2 q3 q4 p5)), .second, .val (.double (v0_154 q0 q1 q2 q3 q4 p5)), .second, .val (.double (v0_172 q0 q1 q2 q3 q4 p5)), .second, .val (.int (j0_213_l22 q0 q1 q2 q3 q4 p5))] [])) _
        refine XS.iload X6.here hx rfl (hb hby at_242) rfl ?_
        show Steps p.tables e below (T6.setTop (mkF m 244 #[.val (.long q0), .second, .val (.long q1), .second, .val (.long q2), .second, .val (.long q3), .second, .val (.long q4), .second, .val (.int p5), .val (.int (v0_4 q0 q1 q2 q3 q4 p5)), .val (.long (j0_9_l12 q0 q1 q2 q3 q4 p5)), .second, .val (.long (j0_127_l14 q0 q1 q2 q3 q4 p5)), .second, .val (.long (v0_122 q0 q1 q2 q3 q4 p5)), .second, .val (.double (v0_154 q0 q1 q2 q3 q4 p5)), .second, .val (.double (v0_172 q0 q1 q2 q3 q4 p5)), .second, .val (.int (j0_213_l22 q0 q1 q2 q3 q4 p5))] [(.int (j0_213_l22 q0 q1 q2 q3 q4 p5))])) _
        suffices kt244 : Steps p.tables e below (T6.setTop (mkF m 259 #[.val (.long q0), .second, .val (.long q1), .second, .val (.long q2), .second, .val (.long q3), .second, .val (.long q4), .second, .val (.int p5), .val (.int (v0_4 q0 q1 q2 q3 q4 p5)), .val (.long (j0_9_l12 q0 q1 q2 q3 q4 p5)), .second, .val (.long (j0_127_l14 q0 q1 q2 q3 q4 p5)), .second, .val (.long (v0_122 q0 q1 q2 q3 q4 p5)), .second, .val (.double (v0_154 q0 q1 q2 q3 q4 p5)), .second, .val (.double (v0_172 q0 q1 q2 q3 q4 p5)), .second, .val (.int (j0_213_l22 q0 q1 q2 q3 q4 p5))] [(.int (j0_244_s0 q0 q1 q2 q3 q4 p5))])) (T6.setFrames fs) by
          by_cases hc244 : ifCond.holds .eq (j0_213_l22 q0 q1 q2 q3 q4 p5) = true
          · rw [show (j0_244_s0 q0 q1 q2 q3 q4 p5) = (0 : Int32) from if_pos hc244] at kt244
            refine XS.ifYes X6.here hx rfl (pc0 := 244) (pc' := 258) rfl (hb hby at_244) rfl hc244 (by decide) (by decide) ?_
            show Steps p.tables e below (T6.setTop (mkF m 258 #[.val (.long q0), .second, .val (.long q1), .second, .val (.long q2), .second, .val (.long q3), .second, .val (.long q4), .second, .val (.int p5), .val (.int (v0_4 q0 q1 q2 q3 q4 p5)), .val (.long (j0_9_l12 q0 q1 q2 q3 q4 p5)), .second, .val (.long (j0_127_l14 q0 q1 q2 q3 q4 p5)), .second, .val (.long (v0_122 q0 q1 q2 q3 q4 p5)), .second, .val (.double (v0_154 q0 q1 q2 q3 q4 p5)), .second, .val (.double (v0_172 q0 q1 q2 q3 q4 p5)), .second, .val (.int (j0_213_l22 q0 q1 q2 q3 q4 p5))] [])) _
            refine XS.iconst X6.here hx rfl (hb hby at_258) ?_
            exact kt244
          · rw [show (j0_244_s0 q0 q1 q2 q3 q4 p5) = (j0_251_s0 q0 q1 q2 q3 q4 p5) from if_neg hc244] at kt244
            refine XS.ifNo X6.here hx rfl (hb hby at_244) rfl (eq_false_of_ne_true hc244) ?_
            show Steps p.tables e below (T6.setTop (mkF m 247 #[.val (.long q0), .second, .val (.long q1), .second, .val (.long q2), .second, .val (.long q3), .second, .val (.long q4), .second, .val (.int p5), .val (.int (v0_4 q0 q1 q2 q3 q4 p5)), .val (.long (j0_9_l12 q0 q1 q2 q3 q4 p5)), .second, .val (.long (j0_127_l14 q0 q1 q2 q3 q4 p5)), .second, .val (.long (v0_122 q0 q1 q2 q3 q4 p5)), .second, .val (.double (v0_154 q0 q1 q2 q3 q4 p5)), .second, .val (.double (v0_172 q0 q1 q2 q3 q4 p5)), .second, .val (.int (j0_213_l22 q0 q1 q2 q3 q4 p5))] [])) _
            refine XS.dload X6.here hx rfl (hb hby at_247) rfl ?_
            show Steps p.tables e below (T6.setTop (mkF m 249 #[.val (.long q0), .second, .val (.long q1), .second, .val (.long q2), .second, .val (.long q3), .second, .val (.long q4), .second, .val (.int p5), .val (.int (v0_4 q0 q1 q2 q3 q4 p5)), .val (.long (j0_9_l12 q0 q1 q2 q3 q4 p5)), .second, .val (.long (j0_127_l14 q0 q1 q2 q3 q4 p5)), .second, .val (.long (v0_122 q0 q1 q2 q3 q4 p5)), .second, .val (.double (v0_154 q0 q1 q2 q3 q4 p5)), .second, .val (.double (v0_172 q0 q1 q2 q3 q4 p5)), .second, .val (.int (j0_213_l22 q0 q1 q2 q3 q4 p5))] [(.double (v0_172 q0 q1 q2 q3 q4 p5))])) _
            refine XS.dconst1 X6.here hx rfl (hb hby at_249) rfl ?_
            show Steps p.tables e below (T6.setTop (mkF m 250 #[.val (.long q0), .second, .val (.long q1), .second, .val (.long q2), .second, .val (.long q3), .second, .val (.long q4), .second, .val (.int p5), .val (.int (v0_4 q0 q1 q2 q3 q4 p5)), .val (.long (j0_9_l12 q0 q1 q2 q3 q4 p5)), .second, .val (.long (j0_127_l14 q0 q1 q2 q3 q4 p5)), .second, .val (.long (v0_122 q0 q1 q2 q3 q4 p5)), .second, .val (.double (v0_154 q0 q1 q2 q3 q4 p5)), .second, .val (.double (v0_172 q0 q1 q2 q3 q4 p5)), .second, .val (.int (j0_213_l22 q0 q1 q2 q3 q4 p5))] [(.double FP.dconst1), (.double (v0_172 q0 q1 q2 q3 q4 p5))])) _
            refine XS.dcmpS X6.here hx rfl (hb hby at_250) rfl rfl ?_
            show Steps p.tables e below (T6.setTop (mkF m 251 #[.val (.long q0), .second, .val (.long q1), .second, .val (.long q2), .second, .val (.long q3), .second, .val (.long q4), .second, .val (.int p5), .val (.int (v0_4 q0 q1 q2 q3 q4 p5)), .val (.long (j0_9_l12 q0 q1 q2 q3 q4 p5)), .second, .val (.long (j0_127_l14 q0 q1 q2 q3 q4 p5)), .second, .val (.long (v0_122 q0 q1 q2 q3 q4 p5)), .second, .val (.double (v0_154 q0 q1 q2 q3 q4 p5)), .second, .val (.double (v0_172 q0 q1 q2 q3 q4 p5)), .second, .val (.int (j0_213_l22 q0 q1 q2 q3 q4 p5))] [(.int (cmpValue (FP.dcmp (v0_172 q0 q1 q2 q3 q4 p5) FP.dconst1) .l))])) _
            suffices kt251 : Steps p.tables e below (T6.setTop (mkF m 259 #[.val (.long q0), .second, .val (.long q1), .second, .val (.long q2), .second, .val (.long q3), .second, .val (.long q4), .second, .val (.int p5), .val (.int (v0_4 q0 q1 q2 q3 q4 p5)), .val (.long (j0_9_l12 q0 q1 q2 q3 q4 p5)), .second, .val (.long (j0_127_l14 q0 q1 q2 q3 q4 p5)), .second, .val (.long (v0_122 q0 q1 q2 q3 q4 p5)), .second, .val (.double (v0_154 q0 q1 q2 q3 q4 p5)), .second, .val (.double (v0_172 q0 q1 q2 q3 q4 p5)), .second, .val (.int (j0_213_l22 q0 q1 q2 q3 q4 p5))] [(.int (j0_251_s0 q0 q1 q2 q3 q4 p5))])) (T6.setFrames fs) by
              by_cases hc251 : ifCond.holds .ne (cmpValue (FP.dcmp (v0_172 q0 q1 q2 q3 q4 p5) FP.dconst1) .l) = true
              · rw [show (j0_251_s0 q0 q1 q2 q3 q4 p5) = (0 : Int32) from if_pos hc251] at kt251
                refine XS.ifYes X6.here hx rfl (pc0 := 251) (pc' := 258) rfl (hb hby at_251) rfl hc251 (by decide) (by decide) ?_
                show Steps p.tables e below (T6.setTop (mkF m 258 #[.val (.long q0), .second, .val (.long q1), .second, .val (.long q2), .second, .val (.long q3), .second, .val (.long q4), .second, .val (.int p5), .val (.int (v0_4 q0 q1 q2 q3 q4 p5)), .val (.long (j0_9_l12 q0 q1 q2 q3 q4 p5)), .second, .val (.long (j0_127_l14 q0 q1 q2 q3 q4 p5)), .second, .val (.long (v0_122 q0 q1 q2 q3 q4 p5)), .second, .val (.double (v0_154 q0 q1 q2 q3 q4 p5)), .second, .val (.double (v0_172 q0 q1 q2 q3 q4 p5)), .second, .val (.int (j0_213_l22 q0 q1 q2 q3 q4 p5))] [])) _
                refine XS.iconst X6.here hx rfl (hb hby at_258) ?_
                exact kt251
              · rw [show (j0_251_s0 q0 q1 q2 q3 q4 p5) = (1 : Int32) from if_neg hc251] at kt251
                refine XS.ifNo X6.here hx rfl (hb hby at_251) rfl (eq_false_of_ne_true hc251) ?_
                show Steps p.tables e below (T6.setTop (mkF m 254 #[.val (.long q0), .second, .val (.long q1), .second, .val (.long q2), .second, .val (.long q3), .second, .val (.long q4), .second, .val (.int p5), .val (.int (v0_4 q0 q1 q2 q3 q4 p5)), .val (.long (j0_9_l12 q0 q1 q2 q3 q4 p5)), .second, .val (.long (j0_127_l14 q0 q1 q2 q3 q4 p5)), .second, .val (.long (v0_122 q0 q1 q2 q3 q4 p5)), .second, .val (.double (v0_154 q0 q1 q2 q3 q4 p5)), .second, .val (.double (v0_172 q0 q1 q2 q3 q4 p5)), .second, .val (.int (j0_213_l22 q0 q1 q2 q3 q4 p5))] [])) _
                refine XS.iconst X6.here hx rfl (hb hby at_254) ?_
                show Steps p.tables e below (T6.setTop (mkF m 255 #[.val (.long q0), .second, .val (.long q1), .second, .val (.long q2), .second, .val (.long q3), .second, .val (.long q4), .second, .val (.int p5), .val (.int (v0_4 q0 q1 q2 q3 q4 p5)), .val (.long (j0_9_l12 q0 q1 q2 q3 q4 p5)), .second, .val (.long (j0_127_l14 q0 q1 q2 q3 q4 p5)), .second, .val (.long (v0_122 q0 q1 q2 q3 q4 p5)), .second, .val (.double (v0_154 q0 q1 q2 q3 q4 p5)), .second, .val (.double (v0_172 q0 q1 q2 q3 q4 p5)), .second, .val (.int (j0_213_l22 q0 q1 q2 q3 q4 p5))] [(.int (1 : Int32))])) _
                refine XS.goto X6.here hx rfl (pc0 := 255) (pc' := 259) rfl (hb hby at_255) (by decide) (by decide) ?_
                exact kt251
            exact kt244
        show Steps p.tables e below (T6.setTop (mkF m 259 #[.val (.long q0), .second, .val (.long q1), .second, .val (.long q2), .second, .val (.long q3), .second, .val (.long q4), .second, .val (.int p5), .val (.int (v0_4 q0 q1 q2 q3 q4 p5)), .val (.long (j0_9_l12 q0 q1 q2 q3 q4 p5)), .second, .val (.long (j0_127_l14 q0 q1 q2 q3 q4 p5)), .second, .val (.long (v0_122 q0 q1 q2 q3 q4 p5)), .second, .val (.double (v0_154 q0 q1 q2 q3 q4 p5)), .second, .val (.double (v0_172 q0 q1 q2 q3 q4 p5)), .second, .val (.int (j0_213_l22 q0 q1 q2 q3 q4 p5))] [(.int (j0_244_s0 q0 q1 q2 q3 q4 p5))])) _
        refine XS.istore X6.here hx rfl (hb hby at_259) rfl (l' := #[.val (.long q0), .second, .val (.long q1), .second, .val (.long q2), .second, .val (.long q3), .second, .val (.long q4), .second, .val (.int p5), .val (.int (v0_4 q0 q1 q2 q3 q4 p5)), .val (.long (j0_9_l12 q0 q1 q2 q3 q4 p5)), .second, .val (.long (j0_127_l14 q0 q1 q2 q3 q4 p5)), .second, .val (.long (v0_122 q0 q1 q2 q3 q4 p5)), .second, .val (.double (v0_154 q0 q1 q2 q3 q4 p5)), .second, .val (.double (v0_172 q0 q1 q2 q3 q4 p5)), .second, .val (.int (j0_244_s0 q0 q1 q2 q3 q4 p5))]) rfl ?_
        exact kt239
    show Steps p.tables e below (T6.setTop (mkF m 261 #[.val (.long q0), .second, .val (.long q1), .second, .val (.long q2), .second, .val (.long q3), .second, .val (.long q4), .second, .val (.int p5), .val (.int (v0_4 q0 q1 q2 q3 q4 p5)), .val (.long (j0_9_l12 q0 q1 q2 q3 q4 p5)), .second, .val (.long (j0_127_l14 q0 q1 q2 q3 q4 p5)), .second, .val (.long (v0_122 q0 q1 q2 q3 q4 p5)), .second, .val (.double (v0_154 q0 q1 q2 q3 q4 p5)), .second, .val (.double (v0_172 q0 q1 q2 q3 q4 p5)), .second, .val (.int (j0_239_l22 q0 q1 q2 q3 q4 p5))] [])) _
    refine XS.lload X6.here hx rfl (hb hby at_261) rfl ?_
    show Steps p.tables e below (T6.setTop (mkF m 263 #[.val (.long q0), .second, .val (.long q1), .second, .val (.long q2), .second, .val (.long q3), .second, .val (.long q4), .second, .val (.int p5), .val (.int (v0_4 q0 q1 q2 q3 q4 p5)), .val (.long (j0_9_l12 q0 q1 q2 q3 q4 p5)), .second, .val (.long (j0_127_l14 q0 q1 q2 q3 q4 p5)), .second, .val (.long (v0_122 q0 q1 q2 q3 q4 p5)), .second, .val (.double (v0_154 q0 q1 q2 q3 q4 p5)), .second, .val (.double (v0_172 q0 q1 q2 q3 q4 p5)), .second, .val (.int (j0_239_l22 q0 q1 q2 q3 q4 p5))] [(.long (j0_127_l14 q0 q1 q2 q3 q4 p5))])) _
    refine XS.lload X6.here hx rfl (hb hby at_263) rfl ?_
    show Steps p.tables e below (T6.setTop (mkF m 265 #[.val (.long q0), .second, .val (.long q1), .second, .val (.long q2), .second, .val (.long q3), .second, .val (.long q4), .second, .val (.int p5), .val (.int (v0_4 q0 q1 q2 q3 q4 p5)), .val (.long (j0_9_l12 q0 q1 q2 q3 q4 p5)), .second, .val (.long (j0_127_l14 q0 q1 q2 q3 q4 p5)), .second, .val (.long (v0_122 q0 q1 q2 q3 q4 p5)), .second, .val (.double (v0_154 q0 q1 q2 q3 q4 p5)), .second, .val (.double (v0_172 q0 q1 q2 q3 q4 p5)), .second, .val (.int (j0_239_l22 q0 q1 q2 q3 q4 p5))] [(.long (j0_9_l12 q0 q1 q2 q3 q4 p5)), (.long (j0_127_l14 q0 q1 q2 q3 q4 p5))])) _
    refine XS.lcmp X6.here hx rfl (hb hby at_265) rfl ?_
    show Steps p.tables e below (T6.setTop (mkF m 266 #[.val (.long q0), .second, .val (.long q1), .second, .val (.long q2), .second, .val (.long q3), .second, .val (.long q4), .second, .val (.int p5), .val (.int (v0_4 q0 q1 q2 q3 q4 p5)), .val (.long (j0_9_l12 q0 q1 q2 q3 q4 p5)), .second, .val (.long (j0_127_l14 q0 q1 q2 q3 q4 p5)), .second, .val (.long (v0_122 q0 q1 q2 q3 q4 p5)), .second, .val (.double (v0_154 q0 q1 q2 q3 q4 p5)), .second, .val (.double (v0_172 q0 q1 q2 q3 q4 p5)), .second, .val (.int (j0_239_l22 q0 q1 q2 q3 q4 p5))] [(.int (lcmpW (j0_127_l14 q0 q1 q2 q3 q4 p5) (j0_9_l12 q0 q1 q2 q3 q4 p5)))])) _
    suffices kt266 : Steps p.tables e below (T6.setTop (mkF m 288 #[.val (.long q0), .second, .val (.long q1), .second, .val (.long q2), .second, .val (.long q3), .second, .val (.long q4), .second, .val (.int p5), .val (.int (v0_4 q0 q1 q2 q3 q4 p5)), .val (.long (j0_9_l12 q0 q1 q2 q3 q4 p5)), .second, .val (.long (j0_127_l14 q0 q1 q2 q3 q4 p5)), .second, .val (.long (v0_122 q0 q1 q2 q3 q4 p5)), .second, .val (.double (v0_154 q0 q1 q2 q3 q4 p5)), .second, .val (.double (v0_172 q0 q1 q2 q3 q4 p5)), .second, .val (.int (j0_266_l22 q0 q1 q2 q3 q4 p5))] [])) (T6.setFrames fs) by
      by_cases hc266 : ifCond.holds .ne (lcmpW (j0_127_l14 q0 q1 q2 q3 q4 p5) (j0_9_l12 q0 q1 q2 q3 q4 p5)) = true
      · rw [show (j0_266_l22 q0 q1 q2 q3 q4 p5) = (j0_239_l22 q0 q1 q2 q3 q4 p5) from if_pos hc266] at kt266
        refine XS.ifYes X6.here hx rfl (pc0 := 266) (pc' := 288) rfl (hb hby at_266) rfl hc266 (by decide) (by decide) ?_
        exact kt266
      · rw [show (j0_266_l22 q0 q1 q2 q3 q4 p5) = (j0_271_s0 q0 q1 q2 q3 q4 p5) from if_neg hc266] at kt266
        refine XS.ifNo X6.here hx rfl (hb hby at_266) rfl (eq_false_of_ne_true hc266) ?_
        show Steps p.tables e below (T6.setTop (mkF m 269 #[.val (.long q0), .second, .val (.long q1), .second, .val (.long q2), .second, .val (.long q3), .second, .val (.long q4), .second, .val (.int p5), .val (.int (v0_4 q0 q1 q2 q3 q4 p5)), .val (.long (j0_9_l12 q0 q1 q2 q3 q4 p5)), .second, .val (.long (j0_127_l14 q0 q1 q2 q3 q4 p5)), .second, .val (.long (v0_122 q0 q1 q2 q3 q4 p5)), .second, .val (.double (v0_154 q0 q1 q2 q3 q4 p5)), .second, .val (.double (v0_172 q0 q1 q2 q3 q4 p5)), .second, .val (.int (j0_239_l22 q0 q1 q2 q3 q4 p5))] [])) _
        refine XS.iload X6.here hx rfl (hb hby at_269) rfl ?_
        show Steps p.tables e below (T6.setTop (mkF m 271 #[.val (.long q0), .second, .val (.long q1), .second, .val (.long q2), .second, .val (.long q3), .second, .val (.long q4), .second, .val (.int p5), .val (.int (v0_4 q0 q1 q2 q3 q4 p5)), .val (.long (j0_9_l12 q0 q1 q2 q3 q4 p5)), .second, .val (.long (j0_127_l14 q0 q1 q2 q3 q4 p5)), .second, .val (.long (v0_122 q0 q1 q2 q3 q4 p5)), .second, .val (.double (v0_154 q0 q1 q2 q3 q4 p5)), .second, .val (.double (v0_172 q0 q1 q2 q3 q4 p5)), .second, .val (.int (j0_239_l22 q0 q1 q2 q3 q4 p5))] [(.int (j0_239_l22 q0 q1 q2 q3 q4 p5))])) _
        suffices kt271 : Steps p.tables e below (T6.setTop (mkF m 286 #[.val (.long q0), .second, .val (.long q1), .second, .val (.long q2), .second, .val (.long q3), .second, .val (.long q4), .second, .val (.int p5), .val (.int (v0_4 q0 q1 q2 q3 q4 p5)), .val (.long (j0_9_l12 q0 q1 q2 q3 q4 p5)), .second, .val (.long (j0_127_l14 q0 q1 q2 q3 q4 p5)), .second, .val (.long (v0_122 q0 q1 q2 q3 q4 p5)), .second, .val (.double (v0_154 q0 q1 q2 q3 q4 p5)), .second, .val (.double (v0_172 q0 q1 q2 q3 q4 p5)), .second, .val (.int (j0_239_l22 q0 q1 q2 q3 q4 p5))] [(.int (j0_271_s0 q0 q1 q2 q3 q4 p5))])) (T6.setFrames fs) by
          by_cases hc271 : ifCond.holds .eq (j0_239_l22 q0 q1 q2 q3 q4 p5) = true
          · rw [show (j0_271_s0 q0 q1 q2 q3 q4 p5) = (0 : Int32) from if_pos hc271] at kt271
            refine XS.ifYes X6.here hx rfl (pc0 := 271) (pc' := 285) rfl (hb hby at_271) rfl hc271 (by decide) (by decide) ?_
            show Steps p.tables e below (T6.setTop (mkF m 285 #[.val (.long q0), .second, .val (.long q1), .second, .val (.long q2), .second, .val (.long q3), .second, .val (.long q4), .second, .val (.int p5), .val (.int (v0_4 q0 q1 q2 q3 q4 p5)), .val (.long (j0_9_l12 q0 q1 q2 q3 q4 p5)), .second, .val (.long (j0_127_l14 q0 q1 q2 q3 q4 p5)), .second, .val (.long (v0_122 q0 q1 q2 q3 q4 p5)), .second, .val (.double (v0_154 q0 q1 q2 q3 q4 p5)), .second, .val (.double (v0_172 q0 q1 q2 q3 q4 p5)), .second, .val (.int (j0_239_l22 q0 q1 q2 q3 q4 p5))] [])) _
            refine XS.iconst X6.here hx rfl (hb hby at_285) ?_
            exact kt271
          · rw [show (j0_271_s0 q0 q1 q2 q3 q4 p5) = (j0_278_s0 q0 q1 q2 q3 q4 p5) from if_neg hc271] at kt271
            refine XS.ifNo X6.here hx rfl (hb hby at_271) rfl (eq_false_of_ne_true hc271) ?_
            show Steps p.tables e below (T6.setTop (mkF m 274 #[.val (.long q0), .second, .val (.long q1), .second, .val (.long q2), .second, .val (.long q3), .second, .val (.long q4), .second, .val (.int p5), .val (.int (v0_4 q0 q1 q2 q3 q4 p5)), .val (.long (j0_9_l12 q0 q1 q2 q3 q4 p5)), .second, .val (.long (j0_127_l14 q0 q1 q2 q3 q4 p5)), .second, .val (.long (v0_122 q0 q1 q2 q3 q4 p5)), .second, .val (.double (v0_154 q0 q1 q2 q3 q4 p5)), .second, .val (.double (v0_172 q0 q1 q2 q3 q4 p5)), .second, .val (.int (j0_239_l22 q0 q1 q2 q3 q4 p5))] [])) _
            refine XS.dload X6.here hx rfl (hb hby at_274) rfl ?_
            show Steps p.tables e below (T6.setTop (mkF m 276 #[.val (.long q0), .second, .val (.long q1), .second, .val (.long q2), .second, .val (.long q3), .second, .val (.long q4), .second, .val (.int p5), .val (.int (v0_4 q0 q1 q2 q3 q4 p5)), .val (.long (j0_9_l12 q0 q1 q2 q3 q4 p5)), .second, .val (.long (j0_127_l14 q0 q1 q2 q3 q4 p5)), .second, .val (.long (v0_122 q0 q1 q2 q3 q4 p5)), .second, .val (.double (v0_154 q0 q1 q2 q3 q4 p5)), .second, .val (.double (v0_172 q0 q1 q2 q3 q4 p5)), .second, .val (.int (j0_239_l22 q0 q1 q2 q3 q4 p5))] [(.double (v0_154 q0 q1 q2 q3 q4 p5))])) _
            refine XS.dconst0 X6.here hx rfl (hb hby at_276) rfl ?_
            show Steps p.tables e below (T6.setTop (mkF m 277 #[.val (.long q0), .second, .val (.long q1), .second, .val (.long q2), .second, .val (.long q3), .second, .val (.long q4), .second, .val (.int p5), .val (.int (v0_4 q0 q1 q2 q3 q4 p5)), .val (.long (j0_9_l12 q0 q1 q2 q3 q4 p5)), .second, .val (.long (j0_127_l14 q0 q1 q2 q3 q4 p5)), .second, .val (.long (v0_122 q0 q1 q2 q3 q4 p5)), .second, .val (.double (v0_154 q0 q1 q2 q3 q4 p5)), .second, .val (.double (v0_172 q0 q1 q2 q3 q4 p5)), .second, .val (.int (j0_239_l22 q0 q1 q2 q3 q4 p5))] [(.double FP.dconst0), (.double (v0_154 q0 q1 q2 q3 q4 p5))])) _
            refine XS.dcmpS X6.here hx rfl (hb hby at_277) rfl rfl ?_
            show Steps p.tables e below (T6.setTop (mkF m 278 #[.val (.long q0), .second, .val (.long q1), .second, .val (.long q2), .second, .val (.long q3), .second, .val (.long q4), .second, .val (.int p5), .val (.int (v0_4 q0 q1 q2 q3 q4 p5)), .val (.long (j0_9_l12 q0 q1 q2 q3 q4 p5)), .second, .val (.long (j0_127_l14 q0 q1 q2 q3 q4 p5)), .second, .val (.long (v0_122 q0 q1 q2 q3 q4 p5)), .second, .val (.double (v0_154 q0 q1 q2 q3 q4 p5)), .second, .val (.double (v0_172 q0 q1 q2 q3 q4 p5)), .second, .val (.int (j0_239_l22 q0 q1 q2 q3 q4 p5))] [(.int (cmpValue (FP.dcmp (v0_154 q0 q1 q2 q3 q4 p5) FP.dconst0) .l))])) _
            suffices kt278 : Steps p.tables e below (T6.setTop (mkF m 286 #[.val (.long q0), .second, .val (.long q1), .second, .val (.long q2), .second, .val (.long q3), .second, .val (.long q4), .second, .val (.int p5), .val (.int (v0_4 q0 q1 q2 q3 q4 p5)), .val (.long (j0_9_l12 q0 q1 q2 q3 q4 p5)), .second, .val (.long (j0_127_l14 q0 q1 q2 q3 q4 p5)), .second, .val (.long (v0_122 q0 q1 q2 q3 q4 p5)), .second, .val (.double (v0_154 q0 q1 q2 q3 q4 p5)), .second, .val (.double (v0_172 q0 q1 q2 q3 q4 p5)), .second, .val (.int (j0_239_l22 q0 q1 q2 q3 q4 p5))] [(.int (j0_278_s0 q0 q1 q2 q3 q4 p5))])) (T6.setFrames fs) by
              by_cases hc278 : ifCond.holds .ne (cmpValue (FP.dcmp (v0_154 q0 q1 q2 q3 q4 p5) FP.dconst0) .l) = true
              · rw [show (j0_278_s0 q0 q1 q2 q3 q4 p5) = (0 : Int32) from if_pos hc278] at kt278
                refine XS.ifYes X6.here hx rfl (pc0 := 278) (pc' := 285) rfl (hb hby at_278) rfl hc278 (by decide) (by decide) ?_
                show Steps p.tables e below (T6.setTop (mkF m 285 #[.val (.long q0), .second, .val (.long q1), .second, .val (.long q2), .second, .val (.long q3), .second, .val (.long q4), .second, .val (.int p5), .val (.int (v0_4 q0 q1 q2 q3 q4 p5)), .val (.long (j0_9_l12 q0 q1 q2 q3 q4 p5)), .second, .val (.long (j0_127_l14 q0 q1 q2 q3 q4 p5)), .second, .val (.long (v0_122 q0 q1 q2 q3 q4 p5)), .second, .val (.double (v0_154 q0 q1 q2 q3 q4 p5)), .second, .val (.double (v0_172 q0 q1 q2 q3 q4 p5)), .second, .val (.int (j0_239_l22 q0 q1 q2 q3 q4 p5))] [])) _
                refine XS.iconst X6.here hx rfl (hb hby at_285) ?_
                exact kt278
              · rw [show (j0_278_s0 q0 q1 q2 q3 q4 p5) = (1 : Int32) from if_neg hc278] at kt278
                refine XS.ifNo X6.here hx rfl (hb hby at_278) rfl (eq_false_of_ne_true hc278) ?_
                show Steps p.tables e below (T6.setTop (mkF m 281 #[.val (.long q0), .second, .val (.long q1), .second, .val (.long q2), .second, .val (.long q3), .second, .val (.long q4), .second, .val (.int p5), .val (.int (v0_4 q0 q1 q2 q3 q4 p5)), .val (.long (j0_9_l12 q0 q1 q2 q3 q4 p5)), .second, .val (.long (j0_127_l14 q0 q1 q2 q3 q4 p5)), .second, .val (.long (v0_122 q0 q1 q2 q3 q4 p5)), .second, .val (.double (v0_154 q0 q1 q2 q3 q4 p5)), .second, .val (.double (v0_172 q0 q1 q2 q3 q4 p5)), .second, .val (.int (j0_239_l22 q0 q1 q2 q3 q4 p5))] [])) _
                refine XS.iconst X6.here hx rfl (hb hby at_281) ?_
                show Steps p.tables e below (T6.setTop (mkF m 282 #[.val (.long q0), .second, .val (.long q1), .second, .val (.long q2), .second, .val (.long q3), .second, .val (.long q4), .second, .val (.int p5), .val (.int (v0_4 q0 q1 q2 q3 q4 p5)), .val (.long (j0_9_l12 q0 q1 q2 q3 q4 p5)), .second, .val (.long (j0_127_l14 q0 q1 q2 q3 q4 p5)), .second, .val (.long (v0_122 q0 q1 q2 q3 q4 p5)), .second, .val (.double (v0_154 q0 q1 q2 q3 q4 p5)), .second, .val (.double (v0_172 q0 q1 q2 q3 q4 p5)), .second, .val (.int (j0_239_l22 q0 q1 q2 q3 q4 p5))] [(.int (1 : Int32))])) _
                refine XS.goto X6.here hx rfl (pc0 := 282) (pc' := 286) rfl (hb hby at_282) (by decide) (by decide) ?_
                exact kt278
            exact kt271
        show Steps p.tables e below (T6.setTop (mkF m 286 #[.val (.long q0), .second, .val (.long q1), .second, .val (.long q2), .second, .val (.long q3), .second, .val (.long q4), .second, .val (.int p5), .val (.int (v0_4 q0 q1 q2 q3 q4 p5)), .val (.long (j0_9_l12 q0 q1 q2 q3 q4 p5)), .second, .val (.long (j0_127_l14 q0 q1 q2 q3 q4 p5)), .second, .val (.long (v0_122 q0 q1 q2 q3 q4 p5)), .second, .val (.double (v0_154 q0 q1 q2 q3 q4 p5)), .second, .val (.double (v0_172 q0 q1 q2 q3 q4 p5)), .second, .val (.int (j0_239_l22 q0 q1 q2 q3 q4 p5))] [(.int (j0_271_s0 q0 q1 q2 q3 q4 p5))])) _
        refine XS.istore X6.here hx rfl (hb hby at_286) rfl (l' := #[.val (.long q0), .second, .val (.long q1), .second, .val (.long q2), .second, .val (.long q3), .second, .val (.long q4), .second, .val (.int p5), .val (.int (v0_4 q0 q1 q2 q3 q4 p5)), .val (.long (j0_9_l12 q0 q1 q2 q3 q4 p5)), .second, .val (.long (j0_127_l14 q0 q1 q2 q3 q4 p5)), .second, .val (.long (v0_122 q0 q1 q2 q3 q4 p5)), .second, .val (.double (v0_154 q0 q1 q2 q3 q4 p5)), .second, .val (.double (v0_172 q0 q1 q2 q3 q4 p5)), .second, .val (.int (j0_271_s0 q0 q1 q2 q3 q4 p5))]) rfl ?_
        exact kt266
    show Steps p.tables e below (T6.setTop (mkF m 288 #[.val (.long q0), .second, .val (.long q1), .second, .val (.long q2), .second, .val (.long q3), .second, .val (.long q4), .second, .val (.int p5), .val (.int (v0_4 q0 q1 q2 q3 q4 p5)), .val (.long (j0_9_l12 q0 q1 q2 q3 q4 p5)), .second, .val (.long (j0_127_l14 q0 q1 q2 q3 q4 p5)), .second, .val (.long (v0_122 q0 q1 q2 q3 q4 p5)), .second, .val (.double (v0_154 q0 q1 q2 q3 q4 p5)), .second, .val (.double (v0_172 q0 q1 q2 q3 q4 p5)), .second, .val (.int (j0_266_l22 q0 q1 q2 q3 q4 p5))] [])) _
    refine XS.lload X6.here hx rfl (hb hby at_288) rfl ?_
    show Steps p.tables e below (T6.setTop (mkF m 290 #[.val (.long q0), .second, .val (.long q1), .second, .val (.long q2), .second, .val (.long q3), .second, .val (.long q4), .second, .val (.int p5), .val (.int (v0_4 q0 q1 q2 q3 q4 p5)), .val (.long (j0_9_l12 q0 q1 q2 q3 q4 p5)), .second, .val (.long (j0_127_l14 q0 q1 q2 q3 q4 p5)), .second, .val (.long (v0_122 q0 q1 q2 q3 q4 p5)), .second, .val (.double (v0_154 q0 q1 q2 q3 q4 p5)), .second, .val (.double (v0_172 q0 q1 q2 q3 q4 p5)), .second, .val (.int (j0_266_l22 q0 q1 q2 q3 q4 p5))] [(.long (v0_122 q0 q1 q2 q3 q4 p5))])) _
    refine XS.lload X6.here hx rfl (hb hby at_290) rfl ?_
    show Steps p.tables e below (T6.setTop (mkF m 292 #[.val (.long q0), .second, .val (.long q1), .second, .val (.long q2), .second, .val (.long q3), .second, .val (.long q4), .second, .val (.int p5), .val (.int (v0_4 q0 q1 q2 q3 q4 p5)), .val (.long (j0_9_l12 q0 q1 q2 q3 q4 p5)), .second, .val (.long (j0_127_l14 q0 q1 q2 q3 q4 p5)), .second, .val (.long (v0_122 q0 q1 q2 q3 q4 p5)), .second, .val (.double (v0_154 q0 q1 q2 q3 q4 p5)), .second, .val (.double (v0_172 q0 q1 q2 q3 q4 p5)), .second, .val (.int (j0_266_l22 q0 q1 q2 q3 q4 p5))] [(.long (j0_9_l12 q0 q1 q2 q3 q4 p5)), (.long (v0_122 q0 q1 q2 q3 q4 p5))])) _
    refine XS.lcmp X6.here hx rfl (hb hby at_292) rfl ?_
    show Steps p.tables e below (T6.setTop (mkF m 293 #[.val (.long q0), .second, .val (.long q1), .second, .val (.long q2), .second, .val (.long q3), .second, .val (.long q4), .second, .val (.int p5), .val (.int (v0_4 q0 q1 q2 q3 q4 p5)), .val (.long (j0_9_l12 q0 q1 q2 q3 q4 p5)), .second, .val (.long (j0_127_l14 q0 q1 q2 q3 q4 p5)), .second, .val (.long (v0_122 q0 q1 q2 q3 q4 p5)), .second, .val (.double (v0_154 q0 q1 q2 q3 q4 p5)), .second, .val (.double (v0_172 q0 q1 q2 q3 q4 p5)), .second, .val (.int (j0_266_l22 q0 q1 q2 q3 q4 p5))] [(.int (lcmpW (v0_122 q0 q1 q2 q3 q4 p5) (j0_9_l12 q0 q1 q2 q3 q4 p5)))])) _
    suffices kt293 : Steps p.tables e below (T6.setTop (mkF m 315 #[.val (.long q0), .second, .val (.long q1), .second, .val (.long q2), .second, .val (.long q3), .second, .val (.long q4), .second, .val (.int p5), .val (.int (v0_4 q0 q1 q2 q3 q4 p5)), .val (.long (j0_9_l12 q0 q1 q2 q3 q4 p5)), .second, .val (.long (j0_127_l14 q0 q1 q2 q3 q4 p5)), .second, .val (.long (v0_122 q0 q1 q2 q3 q4 p5)), .second, .val (.double (v0_154 q0 q1 q2 q3 q4 p5)), .second, .val (.double (v0_172 q0 q1 q2 q3 q4 p5)), .second, .val (.int (j0_293_l22 q0 q1 q2 q3 q4 p5))] [])) (T6.setFrames fs) by
      by_cases hc293 : ifCond.holds .ne (lcmpW (v0_122 q0 q1 q2 q3 q4 p5) (j0_9_l12 q0 q1 q2 q3 q4 p5)) = true
      · rw [show (j0_293_l22 q0 q1 q2 q3 q4 p5) = (j0_266_l22 q0 q1 q2 q3 q4 p5) from if_pos hc293] at kt293
        refine XS.ifYes X6.here hx rfl (pc0 := 293) (pc' := 315) rfl (hb hby at_293) rfl hc293 (by decide) (by decide) ?_
        exact kt293
      · rw [show (j0_293_l22 q0 q1 q2 q3 q4 p5) = (j0_298_s0 q0 q1 q2 q3 q4 p5) from if_neg hc293] at kt293
        refine XS.ifNo X6.here hx rfl (hb hby at_293) rfl (eq_false_of_ne_true hc293) ?_
        show Steps p.tables e below (T6.setTop (mkF m 296 #[.val (.long q0), .second, .val (.long q1), .second, .val (.long q2), .second, .val (.long q3), .second, .val (.long q4), .second, .val (.int p5), .val (.int (v0_4 q0 q1 q2 q3 q4 p5)), .val (.long (j0_9_l12 q0 q1 q2 q3 q4 p5)), .second, .val (.long (j0_127_l14 q0 q1 q2 q3 q4 p5)), .second, .val (.long (v0_122 q0 q1 q2 q3 q4 p5)), .second, .val (.double (v0_154 q0 q1 q2 q3 q4 p5)), .second, .val (.double (v0_172 q0 q1 q2 q3 q4 p5)), .second, .val (.int (j0_266_l22 q0 q1 q2 q3 q4 p5))] [])) _
        refine XS.iload X6.here hx rfl (hb hby at_296) rfl ?_
        show Steps p.tables e below (T6.setTop (mkF m 298 #[.val (.long q0), .second, .val (.long q1), .second, .val (.long q2), .second, .val (.long q3), .second, .val (.long q4), .second, .val (.int p5), .val (.int (v0_4 q0 q1 q2 q3 q4 p5)), .val (.long (j0_9_l12 q0 q1 q2 q3 q4 p5)), .second, .val (.long (j0_127_l14 q0 q1 q2 q3 q4 p5)), .second, .val (.long (v0_122 q0 q1 q2 q3 q4 p5)), .second, .val (.double (v0_154 q0 q1 q2 q3 q4 p5)), .second, .val (.double (v0_172 q0 q1 q2 q3 q4 p5)), .second, .val (.int (j0_266_l22 q0 q1 q2 q3 q4 p5))] [(.int (j0_266_l22 q0 q1 q2 q3 q4 p5))])) _
        suffices kt298 : Steps p.tables e below (T6.setTop (mkF m 313 #[.val (.long q0), .second, .val (.long q1), .second, .val (.long q2), .second, .val (.long q3), .second, .val (.long q4), .second, .val (.int p5), .val (.int (v0_4 q0 q1 q2 q3 q4 p5)), .val (.long (j0_9_l12 q0 q1 q2 q3 q4 p5)), .second, .val (.long (j0_127_l14 q0 q1 q2 q3 q4 p5)), .second, .val (.long (v0_122 q0 q1 q2 q3 q4 p5)), .second, .val (.double (v0_154 q0 q1 q2 q3 q4 p5)), .second, .val (.double (v0_172 q0 q1 q2 q3 q4 p5)), .second, .val (.int (j0_266_l22 q0 q1 q2 q3 q4 p5))] [(.int (j0_298_s0 q0 q1 q2 q3 q4 p5))])) (T6.setFrames fs) by
          by_cases hc298 : ifCond.holds .eq (j0_266_l22 q0 q1 q2 q3 q4 p5) = true
          · rw [show (j0_298_s0 q0 q1 q2 q3 q4 p5) = (0 : Int32) from if_pos hc298] at kt298
            refine XS.ifYes X6.here hx rfl (pc0 := 298) (pc' := 312) rfl (hb hby at_298) rfl hc298 (by decide) (by decide) ?_
            show Steps p.tables e below (T6.setTop (mkF m 312 #[.val (.long q0), .second, .val (.long q1), .second, .val (.long q2), .second, .val (.long q3), .second, .val (.long q4), .second, .val (.int p5), .val (.int (v0_4 q0 q1 q2 q3 q4 p5)), .val (.long (j0_9_l12 q0 q1 q2 q3 q4 p5)), .second, .val (.long (j0_127_l14 q0 q1 q2 q3 q4 p5)), .second, .val (.long (v0_122 q0 q1 q2 q3 q4 p5)), .second, .val (.double (v0_154 q0 q1 q2 q3 q4 p5)), .second, .val (.double (v0_172 q0 q1 q2 q3 q4 p5)), .second, .val (.int (j0_266_l22 q0 q1 q2 q3 q4 p5))] [])) _
            refine XS.iconst X6.here hx rfl (hb hby at_312) ?_
            exact kt298
          · rw [show (j0_298_s0 q0 q1 q2 q3 q4 p5) = (j0_305_s0 q0 q1 q2 q3 q4 p5) from if_neg hc298] at kt298
            refine XS.ifNo X6.here hx rfl (hb hby at_298) rfl (eq_false_of_ne_true hc298) ?_
            show Steps p.tables e below (T6.setTop (mkF m 301 #[.val (.long q0), .second, .val (.long q1), .second, .val (.long q2), .second, .val (.long q3), .second, .val (.long q4), .second, .val (.int p5), .val (.int (v0_4 q0 q1 q2 q3 q4 p5)), .val (.long (j0_9_l12 q0 q1 q2 q3 q4 p5)), .second, .val (.long (j0_127_l14 q0 q1 q2 q3 q4 p5)), .second, .val (.long (v0_122 q0 q1 q2 q3 q4 p5)), .second, .val (.double (v0_154 q0 q1 q2 q3 q4 p5)), .second, .val (.double (v0_172 q0 q1 q2 q3 q4 p5)), .second, .val (.int (j0_266_l22 q0 q1 q2 q3 q4 p5))] [])) _
            refine XS.dload X6.here hx rfl (hb hby at_301) rfl ?_
            show Steps p.tables e below (T6.setTop (mkF m 303 #[.val (.long q0), .second, .val (.long q1), .second, .val (.long q2), .second, .val (.long q3), .second, .val (.long q4), .second, .val (.int p5), .val (.int (v0_4 q0 q1 q2 q3 q4 p5)), .val (.long (j0_9_l12 q0 q1 q2 q3 q4 p5)), .second, .val (.long (j0_127_l14 q0 q1 q2 q3 q4 p5)), .second, .val (.long (v0_122 q0 q1 q2 q3 q4 p5)), .second, .val (.double (v0_154 q0 q1 q2 q3 q4 p5)), .second, .val (.double (v0_172 q0 q1 q2 q3 q4 p5)), .second, .val (.int (j0_266_l22 q0 q1 q2 q3 q4 p5))] [(.double (v0_172 q0 q1 q2 q3 q4 p5))])) _
            refine XS.dconst0 X6.here hx rfl (hb hby at_303) rfl ?_
            show Steps p.tables e below (T6.setTop (mkF m 304 #[.val (.long q0), .second, .val (.long q1), .second, .val (.long q2), .second, .val (.long q3), .second, .val (.long q4), .second, .val (.int p5), .val (.int (v0_4 q0 q1 q2 q3 q4 p5)), .val (.long (j0_9_l12 q0 q1 q2 q3 q4 p5)), .second, .val (.long (j0_127_l14 q0 q1 q2 q3 q4 p5)), .second, .val (.long (v0_122 q0 q1 q2 q3 q4 p5)), .second, .val (.double (v0_154 q0 q1 q2 q3 q4 p5)), .second, .val (.double (v0_172 q0 q1 q2 q3 q4 p5)), .second, .val (.int (j0_266_l22 q0 q1 q2 q3 q4 p5))] [(.double FP.dconst0), (.double (v0_172 q0 q1 q2 q3 q4 p5))])) _
            refine XS.dcmpS X6.here hx rfl (hb hby at_304) rfl rfl ?_
            show Steps p.tables e below (T6.setTop (mkF m 305 #[.val (.long q0), .second, .val (.long q1), .second, .val (.long q2), .second, .val (.long q3), .second, .val (.long q4), .second, .val (.int p5), .val (.int (v0_4 q0 q1 q2 q3 q4 p5)), .val (.long (j0_9_l12 q0 q1 q2 q3 q4 p5)), .second, .val (.long (j0_127_l14 q0 q1 q2 q3 q4 p5)), .second, .val (.long (v0_122 q0 q1 q2 q3 q4 p5)), .second, .val (.double (v0_154 q0 q1 q2 q3 q4 p5)), .second, .val (.double (v0_172 q0 q1 q2 q3 q4 p5)), .second, .val (.int (j0_266_l22 q0 q1 q2 q3 q4 p5))] [(.int (cmpValue (FP.dcmp (v0_172 q0 q1 q2 q3 q4 p5) FP.dconst0) .l))])) _
            suffices kt305 : Steps p.tables e below (T6.setTop (mkF m 313 #[.val (.long q0), .second, .val (.long q1), .second, .val (.long q2), .second, .val (.long q3), .second, .val (.long q4), .second, .val (.int p5), .val (.int (v0_4 q0 q1 q2 q3 q4 p5)), .val (.long (j0_9_l12 q0 q1 q2 q3 q4 p5)), .second, .val (.long (j0_127_l14 q0 q1 q2 q3 q4 p5)), .second, .val (.long (v0_122 q0 q1 q2 q3 q4 p5)), .second, .val (.double (v0_154 q0 q1 q2 q3 q4 p5)), .second, .val (.double (v0_172 q0 q1 q2 q3 q4 p5)), .second, .val (.int (j0_266_l22 q0 q1 q2 q3 q4 p5))] [(.int (j0_305_s0 q0 q1 q2 q3 q4 p5))])) (T6.setFrames fs) by
              by_cases hc305 : ifCond.holds .ne (cmpValue (FP.dcmp (v0_172 q0 q1 q2 q3 q4 p5) FP.dconst0) .l) = true
              · rw [show (j0_305_s0 q0 q1 q2 q3 q4 p5) = (0 : Int32) from if_pos hc305] at kt305
                refine XS.ifYes X6.here hx rfl (pc0 := 305) (pc' := 312) rfl (hb hby at_305) rfl hc305 (by decide) (by decide) ?_
                show Steps p.tables e below (T6.setTop (mkF m 312 #[.val (.long q0), .second, .val (.long q1), .second, .val (.long q2), .second, .val (.long q3), .second, .val (.long q4), .second, .val (.int p5), .val (.int (v0_4 q0 q1 q2 q3 q4 p5)), .val (.long (j0_9_l12 q0 q1 q2 q3 q4 p5)), .second, .val (.long (j0_127_l14 q0 q1 q2 q3 q4 p5)), .second, .val (.long (v0_122 q0 q1 q2 q3 q4 p5)), .second, .val (.double (v0_154 q0 q1 q2 q3 q4 p5)), .second, .val (.double (v0_172 q0 q1 q2 q3 q4 p5)), .second, .val (.int (j0_266_l22 q0 q1 q2 q3 q4 p5))] [])) _
                refine XS.iconst X6.here hx rfl (hb hby at_312) ?_
                exact kt305
              · rw [show (j0_305_s0 q0 q1 q2 q3 q4 p5) = (1 : Int32) from if_neg hc305] at kt305
                refine XS.ifNo X6.here hx rfl (hb hby at_305) rfl (eq_false_of_ne_true hc305) ?_
                show Steps p.tables e below (T6.setTop (mkF m 308 #[.val (.long q0), .second, .val (.long q1), .second, .val (.long q2), .second, .val (.long q3), .second, .val (.long q4), .second, .val (.int p5), .val (.int (v0_4 q0 q1 q2 q3 q4 p5)), .val (.long (j0_9_l12 q0 q1 q2 q3 q4 p5)), .second, .val (.long (j0_127_l14 q0 q1 q2 q3 q4 p5)), .second, .val (.long (v0_122 q0 q1 q2 q3 q4 p5)), .second, .val (.double (v0_154 q0 q1 q2 q3 q4 p5)), .second, .val (.double (v0_172 q0 q1 q2 q3 q4 p5)), .second, .val (.int (j0_266_l22 q0 q1 q2 q3 q4 p5))] [])) _
                refine XS.iconst X6.here hx rfl (hb hby at_308) ?_
                show Steps p.tables e below (T6.setTop (mkF m 309 #[.val (.long q0), .second, .val (.long q1), .second, .val (.long q2), .second, .val (.long q3), .second, .val (.long q4), .second, .val (.int p5), .val (.int (v0_4 q0 q1 q2 q3 q4 p5)), .val (.long (j0_9_l12 q0 q1 q2 q3 q4 p5)), .second, .val (.long (j0_127_l14 q0 q1 q2 q3 q4 p5)), .second, .val (.long (v0_122 q0 q1 q2 q3 q4 p5)), .second, .val (.double (v0_154 q0 q1 q2 q3 q4 p5)), .second, .val (.double (v0_172 q0 q1 q2 q3 q4 p5)), .second, .val (.int (j0_266_l22 q0 q1 q2 q3 q4 p5))] [(.int (1 : Int32))])) _
                refine XS.goto X6.here hx rfl (pc0 := 309) (pc' := 313) rfl (hb hby at_309) (by decide) (by decide) ?_
                exact kt305
            exact kt298
        show Steps p.tables e below (T6.setTop (mkF m 313 #[.val (.long q0), .second, .val (.long q1), .second, .val (.long q2), .second, .val (.long q3), .second, .val (.long q4), .second, .val (.int p5), .val (.int (v0_4 q0 q1 q2 q3 q4 p5)), .val (.long (j0_9_l12 q0 q1 q2 q3 q4 p5)), .second, .val (.long (j0_127_l14 q0 q1 q2 q3 q4 p5)), .second, .val (.long (v0_122 q0 q1 q2 q3 q4 p5)), .second, .val (.double (v0_154 q0 q1 q2 q3 q4 p5)), .second, .val (.double (v0_172 q0 q1 q2 q3 q4 p5)), .second, .val (.int (j0_266_l22 q0 q1 q2 q3 q4 p5))] [(.int (j0_298_s0 q0 q1 q2 q3 q4 p5))])) _
        refine XS.istore X6.here hx rfl (hb hby at_313) rfl (l' := #[.val (.long q0), .second, .val (.long q1), .second, .val (.long q2), .second, .val (.long q3), .second, .val (.long q4), .second, .val (.int p5), .val (.int (v0_4 q0 q1 q2 q3 q4 p5)), .val (.long (j0_9_l12 q0 q1 q2 q3 q4 p5)), .second, .val (.long (j0_127_l14 q0 q1 q2 q3 q4 p5)), .second, .val (.long (v0_122 q0 q1 q2 q3 q4 p5)), .second, .val (.double (v0_154 q0 q1 q2 q3 q4 p5)), .second, .val (.double (v0_172 q0 q1 q2 q3 q4 p5)), .second, .val (.int (j0_298_s0 q0 q1 q2 q3 q4 p5))]) rfl ?_
        exact kt293
    show Steps p.tables e below (T6.setTop (mkF m 315 #[.val (.long q0), .second, .val (.long q1), .second, .val (.long q2), .second, .val (.long q3), .second, .val (.long q4), .second, .val (.int p5), .val (.int (v0_4 q0 q1 q2 q3 q4 p5)), .val (.long (j0_9_l12 q0 q1 q2 q3 q4 p5)), .second, .val (.long (j0_127_l14 q0 q1 q2 q3 q4 p5)), .second, .val (.long (v0_122 q0 q1 q2 q3 q4 p5)), .second, .val (.double (v0_154 q0 q1 q2 q3 q4 p5)), .second, .val (.double (v0_172 q0 q1 q2 q3 q4 p5)), .second, .val (.int (j0_293_l22 q0 q1 q2 q3 q4 p5))] [])) _
    refine XS.lload X6.here hx rfl (hb hby at_315) rfl ?_
    show Steps p.tables e below (T6.setTop (mkF m 317 #[.val (.long q0), .second, .val (.long q1), .second, .val (.long q2), .second, .val (.long q3), .second, .val (.long q4), .second, .val (.int p5), .val (.int (v0_4 q0 q1 q2 q3 q4 p5)), .val (.long (j0_9_l12 q0 q1 q2 q3 q4 p5)), .second, .val (.long (j0_127_l14 q0 q1 q2 q3 q4 p5)), .second, .val (.long (v0_122 q0 q1 q2 q3 q4 p5)), .second, .val (.double (v0_154 q0 q1 q2 q3 q4 p5)), .second, .val (.double (v0_172 q0 q1 q2 q3 q4 p5)), .second, .val (.int (j0_293_l22 q0 q1 q2 q3 q4 p5))] [(.long (j0_127_l14 q0 q1 q2 q3 q4 p5))])) _
    refine X6.ldc2Long hx hown (mvT hZ (hw _ (List.mem_of_getElem? (i := 29) rfl))) (g := (mkF m 317 #[.val (.long q0), .second, .val (.long q1), .second, .val (.long q2), .second, .val (.long q3), .second, .val (.long q4), .second, .val (.int p5), .val (.int (v0_4 q0 q1 q2 q3 q4 p5)), .val (.long (j0_9_l12 q0 q1 q2 q3 q4 p5)), .second, .val (.long (j0_127_l14 q0 q1 q2 q3 q4 p5)), .second, .val (.long (v0_122 q0 q1 q2 q3 q4 p5)), .second, .val (.double (v0_154 q0 q1 q2 q3 q4 p5)), .second, .val (.double (v0_172 q0 q1 q2 q3 q4 p5)), .second, .val (.int (j0_293_l22 q0 q1 q2 q3 q4 p5))] [(.long (j0_127_l14 q0 q1 q2 q3 q4 p5))])) rfl (hb hby at_317) _ ?_
    show Steps p.tables e below (T6.setTop (mkF m 320 #[.val (.long q0), .second, .val (.long q1), .second, .val (.long q2), .second, .val (.long q3), .second, .val (.long q4), .second, .val (.int p5), .val (.int (v0_4 q0 q1 q2 q3 q4 p5)), .val (.long (j0_9_l12 q0 q1 q2 q3 q4 p5)), .second, .val (.long (j0_127_l14 q0 q1 q2 q3 q4 p5)), .second, .val (.long (v0_122 q0 q1 q2 q3 q4 p5)), .second, .val (.double (v0_154 q0 q1 q2 q3 q4 p5)), .second, .val (.double (v0_172 q0 q1 q2 q3 q4 p5)), .second, .val (.int (j0_293_l22 q0 q1 q2 q3 q4 p5))] [(.long (2 : Int64)), (.long (j0_127_l14 q0 q1 q2 q3 q4 p5))])) _
    refine XS.lmul X6.here hx rfl (hb hby at_320) rfl ?_
    show Steps p.tables e below (T6.setTop (mkF m 321 #[.val (.long q0), .second, .val (.long q1), .second, .val (.long q2), .second, .val (.long q3), .second, .val (.long q4), .second, .val (.int p5), .val (.int (v0_4 q0 q1 q2 q3 q4 p5)), .val (.long (j0_9_l12 q0 q1 q2 q3 q4 p5)), .second, .val (.long (j0_127_l14 q0 q1 q2 q3 q4 p5)), .second, .val (.long (v0_122 q0 q1 q2 q3 q4 p5)), .second, .val (.double (v0_154 q0 q1 q2 q3 q4 p5)), .second, .val (.double (v0_172 q0 q1 q2 q3 q4 p5)), .second, .val (.int (j0_293_l22 q0 q1 q2 q3 q4 p5))] [(.long ((j0_127_l14 q0 q1 q2 q3 q4 p5) * (2 : Int64)))])) _
    refine XS.lload X6.here hx rfl (hb hby at_321) rfl ?_
    show Steps p.tables e below (T6.setTop (mkF m 323 #[.val (.long q0), .second, .val (.long q1), .second, .val (.long q2), .second, .val (.long q3), .second, .val (.long q4), .second, .val (.int p5), .val (.int (v0_4 q0 q1 q2 q3 q4 p5)), .val (.long (j0_9_l12 q0 q1 q2 q3 q4 p5)), .second, .val (.long (j0_127_l14 q0 q1 q2 q3 q4 p5)), .second, .val (.long (v0_122 q0 q1 q2 q3 q4 p5)), .second, .val (.double (v0_154 q0 q1 q2 q3 q4 p5)), .second, .val (.double (v0_172 q0 q1 q2 q3 q4 p5)), .second, .val (.int (j0_293_l22 q0 q1 q2 q3 q4 p5))] [(.long (j0_9_l12 q0 q1 q2 q3 q4 p5)), (.long ((j0_127_l14 q0 q1 q2 q3 q4 p5) * (2 : Int64)))])) _
    refine XS.lcmp X6.here hx rfl (hb hby at_323) rfl ?_
    show Steps p.tables e below (T6.setTop (mkF m 324 #[.val (.long q0), .second, .val (.long q1), .second, .val (.long q2), .second, .val (.long q3), .second, .val (.long q4), .second, .val (.int p5), .val (.int (v0_4 q0 q1 q2 q3 q4 p5)), .val (.long (j0_9_l12 q0 q1 q2 q3 q4 p5)), .second, .val (.long (j0_127_l14 q0 q1 q2 q3 q4 p5)), .second, .val (.long (v0_122 q0 q1 q2 q3 q4 p5)), .second, .val (.double (v0_154 q0 q1 q2 q3 q4 p5)), .second, .val (.double (v0_172 q0 q1 q2 q3 q4 p5)), .second, .val (.int (j0_293_l22 q0 q1 q2 q3 q4 p5))] [(.int (lcmpW ((j0_127_l14 q0 q1 q2 q3 q4 p5) * (2 : Int64)) (j0_9_l12 q0 q1 q2 q3 q4 p5)))])) _
    suffices kt324 : Steps p.tables e below (T6.setTop (mkF m 348 #[.val (.long q0), .second, .val (.long q1), .second, .val (.long q2), .second, .val (.long q3), .second, .val (.long q4), .second, .val (.int p5), .val (.int (v0_4 q0 q1 q2 q3 q4 p5)), .val (.long (j0_9_l12 q0 q1 q2 q3 q4 p5)), .second, .val (.long (j0_127_l14 q0 q1 q2 q3 q4 p5)), .second, .val (.long (v0_122 q0 q1 q2 q3 q4 p5)), .second, .val (.double (v0_154 q0 q1 q2 q3 q4 p5)), .second, .val (.double (v0_172 q0 q1 q2 q3 q4 p5)), .second, .val (.int (j0_324_l22 q0 q1 q2 q3 q4 p5))] [])) (T6.setFrames fs) by
      by_cases hc324 : ifCond.holds .ne (lcmpW ((j0_127_l14 q0 q1 q2 q3 q4 p5) * (2 : Int64)) (j0_9_l12 q0 q1 q2 q3 q4 p5)) = true
      · rw [show (j0_324_l22 q0 q1 q2 q3 q4 p5) = (j0_293_l22 q0 q1 q2 q3 q4 p5) from if_pos hc324] at kt324
        refine XS.ifYes X6.here hx rfl (pc0 := 324) (pc' := 348) rfl (hb hby at_324) rfl hc324 (by decide) (by decide) ?_
        exact kt324
      · rw [show (j0_324_l22 q0 q1 q2 q3 q4 p5) = (j0_329_s0 q0 q1 q2 q3 q4 p5) from if_neg hc324] at kt324
        refine XS.ifNo X6.here hx rfl (hb hby at_324) rfl (eq_false_of_ne_true hc324) ?_
        show Steps p.tables e below (T6.setTop (mkF m 327 #[.val (.long q0), .second, .val (.long q1), .second, .val (.long q2), .second, .val (.long q3), .second, .val (.long q4), .second, .val (.int p5), .val (.int (v0_4 q0 q1 q2 q3 q4 p5)), .val (.long (j0_9_l12 q0 q1 q2 q3 q4 p5)), .second, .val (.long (j0_127_l14 q0 q1 q2 q3 q4 p5)), .second, .val (.long (v0_122 q0 q1 q2 q3 q4 p5)), .second, .val (.double (v0_154 q0 q1 q2 q3 q4 p5)), .second, .val (.double (v0_172 q0 q1 q2 q3 q4 p5)), .second, .val (.int (j0_293_l22 q0 q1 q2 q3 q4 p5))] [])) _
        refine XS.iload X6.here hx rfl (hb hby at_327) rfl ?_
        show Steps p.tables e below (T6.setTop (mkF m 329 #[.val (.long q0), .second, .val (.long q1), .second, .val (.long q2), .second, .val (.long q3), .second, .val (.long q4), .second, .val (.int p5), .val (.int (v0_4 q0 q1 q2 q3 q4 p5)), .val (.long (j0_9_l12 q0 q1 q2 q3 q4 p5)), .second, .val (.long (j0_127_l14 q0 q1 q2 q3 q4 p5)), .second, .val (.long (v0_122 q0 q1 q2 q3 q4 p5)), .second, .val (.double (v0_154 q0 q1 q2 q3 q4 p5)), .second, .val (.double (v0_172 q0 q1 q2 q3 q4 p5)), .second, .val (.int (j0_293_l22 q0 q1 q2 q3 q4 p5))] [(.int (j0_293_l22 q0 q1 q2 q3 q4 p5))])) _
        suffices kt329 : Steps p.tables e below (T6.setTop (mkF m 346 #[.val (.long q0), .second, .val (.long q1), .second, .val (.long q2), .second, .val (.long q3), .second, .val (.long q4), .second, .val (.int p5), .val (.int (v0_4 q0 q1 q2 q3 q4 p5)), .val (.long (j0_9_l12 q0 q1 q2 q3 q4 p5)), .second, .val (.long (j0_127_l14 q0 q1 q2 q3 q4 p5)), .second, .val (.long (v0_122 q0 q1 q2 q3 q4 p5)), .second, .val (.double (v0_154 q0 q1 q2 q3 q4 p5)), .second, .val (.double (v0_172 q0 q1 q2 q3 q4 p5)), .second, .val (.int (j0_293_l22 q0 q1 q2 q3 q4 p5))] [(.int (j0_329_s0 q0 q1 q2 q3 q4 p5))])) (T6.setFrames fs) by
          by_cases hc329 : ifCond.holds .eq (j0_293_l22 q0 q1 q2 q3 q4 p5) = true
          · rw [show (j0_329_s0 q0 q1 q2 q3 q4 p5) = (0 : Int32) from if_pos hc329] at kt329
            refine XS.ifYes X6.here hx rfl (pc0 := 329) (pc' := 345) rfl (hb hby at_329) rfl hc329 (by decide) (by decide) ?_
            show Steps p.tables e below (T6.setTop (mkF m 345 #[.val (.long q0), .second, .val (.long q1), .second, .val (.long q2), .second, .val (.long q3), .second, .val (.long q4), .second, .val (.int p5), .val (.int (v0_4 q0 q1 q2 q3 q4 p5)), .val (.long (j0_9_l12 q0 q1 q2 q3 q4 p5)), .second, .val (.long (j0_127_l14 q0 q1 q2 q3 q4 p5)), .second, .val (.long (v0_122 q0 q1 q2 q3 q4 p5)), .second, .val (.double (v0_154 q0 q1 q2 q3 q4 p5)), .second, .val (.double (v0_172 q0 q1 q2 q3 q4 p5)), .second, .val (.int (j0_293_l22 q0 q1 q2 q3 q4 p5))] [])) _
            refine XS.iconst X6.here hx rfl (hb hby at_345) ?_
            exact kt329
          · rw [show (j0_329_s0 q0 q1 q2 q3 q4 p5) = (j0_338_s0 q0 q1 q2 q3 q4 p5) from if_neg hc329] at kt329
            refine XS.ifNo X6.here hx rfl (hb hby at_329) rfl (eq_false_of_ne_true hc329) ?_
            show Steps p.tables e below (T6.setTop (mkF m 332 #[.val (.long q0), .second, .val (.long q1), .second, .val (.long q2), .second, .val (.long q3), .second, .val (.long q4), .second, .val (.int p5), .val (.int (v0_4 q0 q1 q2 q3 q4 p5)), .val (.long (j0_9_l12 q0 q1 q2 q3 q4 p5)), .second, .val (.long (j0_127_l14 q0 q1 q2 q3 q4 p5)), .second, .val (.long (v0_122 q0 q1 q2 q3 q4 p5)), .second, .val (.double (v0_154 q0 q1 q2 q3 q4 p5)), .second, .val (.double (v0_172 q0 q1 q2 q3 q4 p5)), .second, .val (.int (j0_293_l22 q0 q1 q2 q3 q4 p5))] [])) _
            refine XS.dload X6.here hx rfl (hb hby at_332) rfl ?_
            show Steps p.tables e below (T6.setTop (mkF m 334 #[.val (.long q0), .second, .val (.long q1), .second, .val (.long q2), .second, .val (.long q3), .second, .val (.long q4), .second, .val (.int p5), .val (.int (v0_4 q0 q1 q2 q3 q4 p5)), .val (.long (j0_9_l12 q0 q1 q2 q3 q4 p5)), .second, .val (.long (j0_127_l14 q0 q1 q2 q3 q4 p5)), .second, .val (.long (v0_122 q0 q1 q2 q3 q4 p5)), .second, .val (.double (v0_154 q0 q1 q2 q3 q4 p5)), .second, .val (.double (v0_172 q0 q1 q2 q3 q4 p5)), .second, .val (.int (j0_293_l22 q0 q1 q2 q3 q4 p5))] [(.double (v0_154 q0 q1 q2 q3 q4 p5))])) _
            refine X6.ldc2DoubleC hx hown (mvT hZ (hw _ (List.mem_of_getElem? (i := 32) rfl))) (g := (mkF m 334 #[.val (.long q0), .second, .val (.long q1), .second, .val (.long q2), .second, .val (.long q3), .second, .val (.long q4), .second, .val (.int p5), .val (.int (v0_4 q0 q1 q2 q3 q4 p5)), .val (.long (j0_9_l12 q0 q1 q2 q3 q4 p5)), .second, .val (.long (j0_127_l14 q0 q1 q2 q3 q4 p5)), .second, .val (.long (v0_122 q0 q1 q2 q3 q4 p5)), .second, .val (.double (v0_154 q0 q1 q2 q3 q4 p5)), .second, .val (.double (v0_172 q0 q1 q2 q3 q4 p5)), .second, .val (.int (j0_293_l22 q0 q1 q2 q3 q4 p5))] [(.double (v0_154 q0 q1 q2 q3 q4 p5))])) rfl (hb hby at_334) _ ?_
            show Steps p.tables e below (T6.setTop (mkF m 337 #[.val (.long q0), .second, .val (.long q1), .second, .val (.long q2), .second, .val (.long q3), .second, .val (.long q4), .second, .val (.int p5), .val (.int (v0_4 q0 q1 q2 q3 q4 p5)), .val (.long (j0_9_l12 q0 q1 q2 q3 q4 p5)), .second, .val (.long (j0_127_l14 q0 q1 q2 q3 q4 p5)), .second, .val (.long (v0_122 q0 q1 q2 q3 q4 p5)), .second, .val (.double (v0_154 q0 q1 q2 q3 q4 p5)), .second, .val (.double (v0_172 q0 q1 q2 q3 q4 p5)), .second, .val (.int (j0_293_l22 q0 q1 q2 q3 q4 p5))] [(.double (4602678819172646912 : UInt64)), (.double (v0_154 q0 q1 q2 q3 q4 p5))])) _
            refine XS.dcmpS X6.here hx rfl (hb hby at_337) rfl rfl ?_
            show Steps p.tables e below (T6.setTop (mkF m 338 #[.val (.long q0), .second, .val (.long q1), .second, .val (.long q2), .second, .val (.long q3), .second, .val (.long q4), .second, .val (.int p5), .val (.int (v0_4 q0 q1 q2 q3 q4 p5)), .val (.long (j0_9_l12 q0 q1 q2 q3 q4 p5)), .second, .val (.long (j0_127_l14 q0 q1 q2 q3 q4 p5)), .second, .val (.long (v0_122 q0 q1 q2 q3 q4 p5)), .second, .val (.double (v0_154 q0 q1 q2 q3 q4 p5)), .second, .val (.double (v0_172 q0 q1 q2 q3 q4 p5)), .second, .val (.int (j0_293_l22 q0 q1 q2 q3 q4 p5))] [(.int (cmpValue (FP.dcmp (v0_154 q0 q1 q2 q3 q4 p5) (4602678819172646912 : UInt64)) .l))])) _
            suffices kt338 : Steps p.tables e below (T6.setTop (mkF m 346 #[.val (.long q0), .second, .val (.long q1), .second, .val (.long q2), .second, .val (.long q3), .second, .val (.long q4), .second, .val (.int p5), .val (.int (v0_4 q0 q1 q2 q3 q4 p5)), .val (.long (j0_9_l12 q0 q1 q2 q3 q4 p5)), .second, .val (.long (j0_127_l14 q0 q1 q2 q3 q4 p5)), .second, .val (.long (v0_122 q0 q1 q2 q3 q4 p5)), .second, .val (.double (v0_154 q0 q1 q2 q3 q4 p5)), .second, .val (.double (v0_172 q0 q1 q2 q3 q4 p5)), .second, .val (.int (j0_293_l22 q0 q1 q2 q3 q4 p5))] [(.int (j0_338_s0 q0 q1 q2 q3 q4 p5))])) (T6.setFrames fs) by
              by_cases hc338 : ifCond.holds .ne (cmpValue (FP.dcmp (v0_154 q0 q1 q2 q3 q4 p5) (4602678819172646912 : UInt64)) .l) = true
              · rw [show (j0_338_s0 q0 q1 q2 q3 q4 p5) = (0 : Int32) from if_pos hc338] at kt338
                refine XS.ifYes X6.here hx rfl (pc0 := 338) (pc' := 345) rfl (hb hby at_338) rfl hc338 (by decide) (by decide) ?_
                show Steps p.tables e below (T6.setTop (mkF m 345 #[.val (.long q0), .second, .val (.long q1), .second, .val (.long q2), .second, .val (.long q3), .second, .val (.long q4), .second, .val (.int p5), .val (.int (v0_4 q0 q1 q2 q3 q4 p5)), .val (.long (j0_9_l12 q0 q1 q2 q3 q4 p5)), .second, .val (.long (j0_127_l14 q0 q1 q2 q3 q4 p5)), .second, .val (.long (v0_122 q0 q1 q2 q3 q4 p5)), .second, .val (.double (v0_154 q0 q1 q2 q3 q4 p5)), .second, .val (.double (v0_172 q0 q1 q2 q3 q4 p5)), .second, .val (.int (j0_293_l22 q0 q1 q2 q3 q4 p5))] [])) _
                refine XS.iconst X6.here hx rfl (hb hby at_345) ?_
                exact kt338
              · rw [show (j0_338_s0 q0 q1 q2 q3 q4 p5) = (1 : Int32) from if_neg hc338] at kt338
                refine XS.ifNo X6.here hx rfl (hb hby at_338) rfl (eq_false_of_ne_true hc338) ?_
                show Steps p.tables e below (T6.setTop (mkF m 341 #[.val (.long q0), .second, .val (.long q1), .second, .val (.long q2), .second, .val (.long q3), .second, .val (.long q4), .second, .val (.int p5), .val (.int (v0_4 q0 q1 q2 q3 q4 p5)), .val (.long (j0_9_l12 q0 q1 q2 q3 q4 p5)), .second, .val (.long (j0_127_l14 q0 q1 q2 q3 q4 p5)), .second, .val (.long (v0_122 q0 q1 q2 q3 q4 p5)), .second, .val (.double (v0_154 q0 q1 q2 q3 q4 p5)), .second, .val (.double (v0_172 q0 q1 q2 q3 q4 p5)), .second, .val (.int (j0_293_l22 q0 q1 q2 q3 q4 p5))] [])) _
                refine XS.iconst X6.here hx rfl (hb hby at_341) ?_
                show Steps p.tables e below (T6.setTop (mkF m 342 #[.val (.long q0), .second, .val (.long q1), .second, .val (.long q2), .second, .val (.long q3), .second, .val (.long q4), .second, .val (.int p5), .val (.int (v0_4 q0 q1 q2 q3 q4 p5)), .val (.long (j0_9_l12 q0 q1 q2 q3 q4 p5)), .second, .val (.long (j0_127_l14 q0 q1 q2 q3 q4 p5)), .second, .val (.long (v0_122 q0 q1 q2 q3 q4 p5)), .second, .val (.double (v0_154 q0 q1 q2 q3 q4 p5)), .second, .val (.double (v0_172 q0 q1 q2 q3 q4 p5)), .second, .val (.int (j0_293_l22 q0 q1 q2 q3 q4 p5))] [(.int (1 : Int32))])) _
                refine XS.goto X6.here hx rfl (pc0 := 342) (pc' := 346) rfl (hb hby at_342) (by decide) (by decide) ?_
                exact kt338
            exact kt329
        show Steps p.tables e below (T6.setTop (mkF m 346 #[.val (.long q0), .second, .val (.long q1), .second, .val (.long q2), .second, .val (.long q3), .second, .val (.long q4), .second, .val (.int p5), .val (.int (v0_4 q0 q1 q2 q3 q4 p5)), .val (.long (j0_9_l12 q0 q1 q2 q3 q4 p5)), .second, .val (.long (j0_127_l14 q0 q1 q2 q3 q4 p5)), .second, .val (.long (v0_122 q0 q1 q2 q3 q4 p5)), .second, .val (.double (v0_154 q0 q1 q2 q3 q4 p5)), .second, .val (.double (v0_172 q0 q1 q2 q3 q4 p5)), .second, .val (.int (j0_293_l22 q0 q1 q2 q3 q4 p5))] [(.int (j0_329_s0 q0 q1 q2 q3 q4 p5))])) _
        refine XS.istore X6.here hx rfl (hb hby at_346) rfl (l' := #[.val (.long q0), .second, .val (.long q1), .second, .val (.long q2), .second, .val (.long q3), .second, .val (.long q4), .second, .val (.int p5), .val (.int (v0_4 q0 q1 q2 q3 q4 p5)), .val (.long (j0_9_l12 q0 q1 q2 q3 q4 p5)), .second, .val (.long (j0_127_l14 q0 q1 q2 q3 q4 p5)), .second, .val (.long (v0_122 q0 q1 q2 q3 q4 p5)), .second, .val (.double (v0_154 q0 q1 q2 q3 q4 p5)), .second, .val (.double (v0_172 q0 q1 q2 q3 q4 p5)), .second, .val (.int (j0_329_s0 q0 q1 q2 q3 q4 p5))]) rfl ?_
        exact kt324
    show Steps p.tables e below (T6.setTop (mkF m 348 #[.val (.long q0), .second, .val (.long q1), .second, .val (.long q2), .second, .val (.long q3), .second, .val (.long q4), .second, .val (.int p5), .val (.int (v0_4 q0 q1 q2 q3 q4 p5)), .val (.long (j0_9_l12 q0 q1 q2 q3 q4 p5)), .second, .val (.long (j0_127_l14 q0 q1 q2 q3 q4 p5)), .second, .val (.long (v0_122 q0 q1 q2 q3 q4 p5)), .second, .val (.double (v0_154 q0 q1 q2 q3 q4 p5)), .second, .val (.double (v0_172 q0 q1 q2 q3 q4 p5)), .second, .val (.int (j0_324_l22 q0 q1 q2 q3 q4 p5))] [])) _
    refine XS.lload X6.here hx rfl (hb hby at_348) rfl ?_
    show Steps p.tables e below (T6.setTop (mkF m 350 #[.val (.long q0), .second, .val (.long q1), .second, .val (.long q2), .second, .val (.long q3), .second, .val (.long q4), .second, .val (.int p5), .val (.int (v0_4 q0 q1 q2 q3 q4 p5)), .val (.long (j0_9_l12 q0 q1 q2 q3 q4 p5)), .second, .val (.long (j0_127_l14 q0 q1 q2 q3 q4 p5)), .second, .val (.long (v0_122 q0 q1 q2 q3 q4 p5)), .second, .val (.double (v0_154 q0 q1 q2 q3 q4 p5)), .second, .val (.double (v0_172 q0 q1 q2 q3 q4 p5)), .second, .val (.int (j0_324_l22 q0 q1 q2 q3 q4 p5))] [(.long (j0_127_l14 q0 q1 q2 q3 q4 p5))])) _
    refine XS.lload X6.here hx rfl (hb hby at_350) rfl ?_
    show Steps p.tables e below (T6.setTop (mkF m 352 #[.val (.long q0), .second, .val (.long q1), .second, .val (.long q2), .second, .val (.long q3), .second, .val (.long q4), .second, .val (.int p5), .val (.int (v0_4 q0 q1 q2 q3 q4 p5)), .val (.long (j0_9_l12 q0 q1 q2 q3 q4 p5)), .second, .val (.long (j0_127_l14 q0 q1 q2 q3 q4 p5)), .second, .val (.long (v0_122 q0 q1 q2 q3 q4 p5)), .second, .val (.double (v0_154 q0 q1 q2 q3 q4 p5)), .second, .val (.double (v0_172 q0 q1 q2 q3 q4 p5)), .second, .val (.int (j0_324_l22 q0 q1 q2 q3 q4 p5))] [(.long (v0_122 q0 q1 q2 q3 q4 p5)), (.long (j0_127_l14 q0 q1 q2 q3 q4 p5))])) _
    refine XS.lcmp X6.here hx rfl (hb hby at_352) rfl ?_
    show Steps p.tables e below (T6.setTop (mkF m 353 #[.val (.long q0), .second, .val (.long q1), .second, .val (.long q2), .second, .val (.long q3), .second, .val (.long q4), .second, .val (.int p5), .val (.int (v0_4 q0 q1 q2 q3 q4 p5)), .val (.long (j0_9_l12 q0 q1 q2 q3 q4 p5)), .second, .val (.long (j0_127_l14 q0 q1 q2 q3 q4 p5)), .second, .val (.long (v0_122 q0 q1 q2 q3 q4 p5)), .second, .val (.double (v0_154 q0 q1 q2 q3 q4 p5)), .second, .val (.double (v0_172 q0 q1 q2 q3 q4 p5)), .second, .val (.int (j0_324_l22 q0 q1 q2 q3 q4 p5))] [(.int (lcmpW (j0_127_l14 q0 q1 q2 q3 q4 p5) (v0_122 q0 q1 q2 q3 q4 p5)))])) _
    suffices kt353 : Steps p.tables e below (T6.setTop (mkF m 405 #[.val (.long q0), .second, .val (.long q1), .second, .val (.long q2), .second, .val (.long q3), .second, .val (.long q4), .second, .val (.int p5), .val (.int (v0_4 q0 q1 q2 q3 q4 p5)), .val (.long (j0_9_l12 q0 q1 q2 q3 q4 p5)), .second, .val (.long (j0_127_l14 q0 q1 q2 q3 q4 p5)), .second, .val (.long (v0_122 q0 q1 q2 q3 q4 p5)), .second, .val (.double (v0_154 q0 q1 q2 q3 q4 p5)), .second, .val (.double (v0_172 q0 q1 q2 q3 q4 p5)), .second, .val (.int (j0_353_l22 q0 q1 q2 q3 q4 p5))] [])) (T6.setFrames fs) by
      by_cases hc353 : ifCond.holds .ge (lcmpW (j0_127_l14 q0 q1 q2 q3 q4 p5) (v0_122 q0 q1 q2 q3 q4 p5)) = true
      · rw [show (j0_353_l22 q0 q1 q2 q3 q4 p5) = (j0_324_l22 q0 q1 q2 q3 q4 p5) from if_pos hc353] at kt353
        refine XS.ifYes X6.here hx rfl (pc0 := 353) (pc' := 405) rfl (hb hby at_353) rfl hc353 (by decide) (by decide) ?_
        exact kt353
      · rw [show (j0_353_l22 q0 q1 q2 q3 q4 p5) = (j0_382_l22 q0 q1 q2 q3 q4 p5) from if_neg hc353] at kt353
        refine XS.ifNo X6.here hx rfl (hb hby at_353) rfl (eq_false_of_ne_true hc353) ?_
        show Steps p.tables e below (T6.setTop (mkF m 356 #[.val (.long q0), .second, .val (.long q1), .second, .val (.long q2), .second, .val (.long q3), .second, .val (.long q4), .second, .val (.int p5), .val (.int (v0_4 q0 q1 q2 q3 q4 p5)), .val (.long (j0_9_l12 q0 q1 q2 q3 q4 p5)), .second, .val (.long (j0_127_l14 q0 q1 q2 q3 q4 p5)), .second, .val (.long (v0_122 q0 q1 q2 q3 q4 p5)), .second, .val (.double (v0_154 q0 q1 q2 q3 q4 p5)), .second, .val (.double (v0_172 q0 q1 q2 q3 q4 p5)), .second, .val (.int (j0_324_l22 q0 q1 q2 q3 q4 p5))] [])) _
        refine XS.iload X6.here hx rfl (hb hby at_356) rfl ?_
        show Steps p.tables e below (T6.setTop (mkF m 358 #[.val (.long q0), .second, .val (.long q1), .second, .val (.long q2), .second, .val (.long q3), .second, .val (.long q4), .second, .val (.int p5), .val (.int (v0_4 q0 q1 q2 q3 q4 p5)), .val (.long (j0_9_l12 q0 q1 q2 q3 q4 p5)), .second, .val (.long (j0_127_l14 q0 q1 q2 q3 q4 p5)), .second, .val (.long (v0_122 q0 q1 q2 q3 q4 p5)), .second, .val (.double (v0_154 q0 q1 q2 q3 q4 p5)), .second, .val (.double (v0_172 q0 q1 q2 q3 q4 p5)), .second, .val (.int (j0_324_l22 q0 q1 q2 q3 q4 p5))] [(.int (j0_324_l22 q0 q1 q2 q3 q4 p5))])) _
        suffices kt358 : Steps p.tables e below (T6.setTop (mkF m 374 #[.val (.long q0), .second, .val (.long q1), .second, .val (.long q2), .second, .val (.long q3), .second, .val (.long q4), .second, .val (.int p5), .val (.int (v0_4 q0 q1 q2 q3 q4 p5)), .val (.long (j0_9_l12 q0 q1 q2 q3 q4 p5)), .second, .val (.long (j0_127_l14 q0 q1 q2 q3 q4 p5)), .second, .val (.long (v0_122 q0 q1 q2 q3 q4 p5)), .second, .val (.double (v0_154 q0 q1 q2 q3 q4 p5)), .second, .val (.double (v0_172 q0 q1 q2 q3 q4 p5)), .second, .val (.int (j0_324_l22 q0 q1 q2 q3 q4 p5))] [(.int (j0_358_s0 q0 q1 q2 q3 q4 p5))])) (T6.setFrames fs) by
          by_cases hc358 : ifCond.holds .eq (j0_324_l22 q0 q1 q2 q3 q4 p5) = true
          · rw [show (j0_358_s0 q0 q1 q2 q3 q4 p5) = (0 : Int32) from if_pos hc358] at kt358
            refine XS.ifYes X6.here hx rfl (pc0 := 358) (pc' := 373) rfl (hb hby at_358) rfl hc358 (by decide) (by decide) ?_
            show Steps p.tables e below (T6.setTop (mkF m 373 #[.val (.long q0), .second, .val (.long q1), .second, .val (.long q2), .second, .val (.long q3), .second, .val (.long q4), .second, .val (.int p5), .val (.int (v0_4 q0 q1 q2 q3 q4 p5)), .val (.long (j0_9_l12 q0 q1 q2 q3 q4 p5)), .second, .val (.long (j0_127_l14 q0 q1 q2 q3 q4 p5)), .second, .val (.long (v0_122 q0 q1 q2 q3 q4 p5)), .second, .val (.double (v0_154 q0 q1 q2 q3 q4 p5)), .second, .val (.double (v0_172 q0 q1 q2 q3 q4 p5)), .second, .val (.int (j0_324_l22 q0 q1 q2 q3 q4 p5))] [])) _
            refine XS.iconst X6.here hx rfl (hb hby at_373) ?_
            exact kt358
          · rw [show (j0_358_s0 q0 q1 q2 q3 q4 p5) = (j0_366_s0 q0 q1 q2 q3 q4 p5) from if_neg hc358] at kt358
            refine XS.ifNo X6.here hx rfl (hb hby at_358) rfl (eq_false_of_ne_true hc358) ?_
            show Steps p.tables e below (T6.setTop (mkF m 361 #[.val (.long q0), .second, .val (.long q1), .second, .val (.long q2), .second, .val (.long q3), .second, .val (.long q4), .second, .val (.int p5), .val (.int (v0_4 q0 q1 q2 q3 q4 p5)), .val (.long (j0_9_l12 q0 q1 q2 q3 q4 p5)), .second, .val (.long (j0_127_l14 q0 q1 q2 q3 q4 p5)), .second, .val (.long (v0_122 q0 q1 q2 q3 q4 p5)), .second, .val (.double (v0_154 q0 q1 q2 q3 q4 p5)), .second, .val (.double (v0_172 q0 q1 q2 q3 q4 p5)), .second, .val (.int (j0_324_l22 q0 q1 q2 q3 q4 p5))] [])) _
            refine XS.dload X6.here hx rfl (hb hby at_361) rfl ?_
            show Steps p.tables e below (T6.setTop (mkF m 363 #[.val (.long q0), .second, .val (.long q1), .second, .val (.long q2), .second, .val (.long q3), .second, .val (.long q4), .second, .val (.int p5), .val (.int (v0_4 q0 q1 q2 q3 q4 p5)), .val (.long (j0_9_l12 q0 q1 q2 q3 q4 p5)), .second, .val (.long (j0_127_l14 q0 q1 q2 q3 q4 p5)), .second, .val (.long (v0_122 q0 q1 q2 q3 q4 p5)), .second, .val (.double (v0_154 q0 q1 q2 q3 q4 p5)), .second, .val (.double (v0_172 q0 q1 q2 q3 q4 p5)), .second, .val (.int (j0_324_l22 q0 q1 q2 q3 q4 p5))] [(.double (v0_154 q0 q1 q2 q3 q4 p5))])) _
            refine XS.dload X6.here hx rfl (hb hby at_363) rfl ?_
            show Steps p.tables e below (T6.setTop (mkF m 365 #[.val (.long q0), .second, .val (.long q1), .second, .val (.long q2), .second, .val (.long q3), .second, .val (.long q4), .second, .val (.int p5), .val (.int (v0_4 q0 q1 q2 q3 q4 p5)), .val (.long (j0_9_l12 q0 q1 q2 q3 q4 p5)), .second, .val (.long (j0_127_l14 q0 q1 q2 q3 q4 p5)), .second, .val (.long (v0_122 q0 q1 q2 q3 q4 p5)), .second, .val (.double (v0_154 q0 q1 q2 q3 q4 p5)), .second, .val (.double (v0_172 q0 q1 q2 q3 q4 p5)), .second, .val (.int (j0_324_l22 q0 q1 q2 q3 q4 p5))] [(.double (v0_172 q0 q1 q2 q3 q4 p5)), (.double (v0_154 q0 q1 q2 q3 q4 p5))])) _
            refine XS.dcmpS X6.here hx rfl (hb hby at_365) rfl rfl ?_
            show Steps p.tables e below (T6.setTop (mkF m 366 #[.val (.long q0), .second, .val (.long q1), .second, .val (.long q2), .second, .val (.long q3), .second, .val (.long q4), .second, .val (.int p5), .val (.int (v0_4 q0 q1 q2 q3 q4 p5)), .val (.long (j0_9_l12 q0 q1 q2 q3 q4 p5)), .second, .val (.long (j0_127_l14 q0 q1 q2 q3 q4 p5)), .second, .val (.long (v0_122 q0 q1 q2 q3 q4 p5)), .second, .val (.double (v0_154 q0 q1 q2 q3 q4 p5)), .second, .val (.double (v0_172 q0 q1 q2 q3 q4 p5)), .second, .val (.int (j0_324_l22 q0 q1 q2 q3 q4 p5))] [(.int (cmpValue (FP.dcmp (v0_154 q0 q1 q2 q3 q4 p5) (v0_172 q0 q1 q2 q3 q4 p5)) .l))])) _
            suffices kt366 : Steps p.tables e below (T6.setTop (mkF m 374 #[.val (.long q0), .second, .val (.long q1), .second, .val (.long q2), .second, .val (.long q3), .second, .val (.long q4), .second, .val (.int p5), .val (.int (v0_4 q0 q1 q2 q3 q4 p5)), .val (.long (j0_9_l12 q0 q1 q2 q3 q4 p5)), .second, .val (.long (j0_127_l14 q0 q1 q2 q3 q4 p5)), .second, .val (.long (v0_122 q0 q1 q2 q3 q4 p5)), .second, .val (.double (v0_154 q0 q1 q2 q3 q4 p5)), .second, .val (.double (v0_172 q0 q1 q2 q3 q4 p5)), .second, .val (.int (j0_324_l22 q0 q1 q2 q3 q4 p5))] [(.int (j0_366_s0 q0 q1 q2 q3 q4 p5))])) (T6.setFrames fs) by
              by_cases hc366 : ifCond.holds .lt (cmpValue (FP.dcmp (v0_154 q0 q1 q2 q3 q4 p5) (v0_172 q0 q1 q2 q3 q4 p5)) .l) = true
              · rw [show (j0_366_s0 q0 q1 q2 q3 q4 p5) = (0 : Int32) from if_pos hc366] at kt366
                refine XS.ifYes X6.here hx rfl (pc0 := 366) (pc' := 373) rfl (hb hby at_366) rfl hc366 (by decide) (by decide) ?_
                show Steps p.tables e below (T6.setTop (mkF m 373 #[.val (.long q0), .second, .val (.long q1), .second, .val (.long q2), .second, .val (.long q3), .second, .val (.long q4), .second, .val (.int p5), .val (.int (v0_4 q0 q1 q2 q3 q4 p5)), .val (.long (j0_9_l12 q0 q1 q2 q3 q4 p5)), .second, .val (.long (j0_127_l14 q0 q1 q2 q3 q4 p5)), .second, .val (.long (v0_122 q0 q1 q2 q3 q4 p5)), .second, .val (.double (v0_154 q0 q1 q2 q3 q4 p5)), .second, .val (.double (v0_172 q0 q1 q2 q3 q4 p5)), .second, .val (.int (j0_324_l22 q0 q1 q2 q3 q4 p5))] [])) _
                refine XS.iconst X6.here hx rfl (hb hby at_373) ?_
                exact kt366
              · rw [show (j0_366_s0 q0 q1 q2 q3 q4 p5) = (1 : Int32) from if_neg hc366] at kt366
                refine XS.ifNo X6.here hx rfl (hb hby at_366) rfl (eq_false_of_ne_true hc366) ?_
                show Steps p.tables e below (T6.setTop (mkF m 369 #[.val (.long q0), .second, .val (.long q1), .second, .val (.long q2), .second, .val (.long q3), .second, .val (.long q4), .second, .val (.int p5), .val (.int (v0_4 q0 q1 q2 q3 q4 p5)), .val (.long (j0_9_l12 q0 q1 q2 q3 q4 p5)), .second, .val (.long (j0_127_l14 q0 q1 q2 q3 q4 p5)), .second, .val (.long (v0_122 q0 q1 q2 q3 q4 p5)), .second, .val (.double (v0_154 q0 q1 q2 q3 q4 p5)), .second, .val (.double (v0_172 q0 q1 q2 q3 q4 p5)), .second, .val (.int (j0_324_l22 q0 q1 q2 q3 q4 p5))] [])) _
                refine XS.iconst X6.here hx rfl (hb hby at_369) ?_
                show Steps p.tables e below (T6.setTop (mkF m 370 #[.val (.long q0), .second, .val (.long q1), .second, .val (.long q2), .second, .val (.long q3), .second, .val (.long q4), .second, .val (.int p5), .val (.int (v0_4 q0 q1 q2 q3 q4 p5)), .val (.long (j0_9_l12 q0 q1 q2 q3 q4 p5)), .second, .val (.long (j0_127_l14 q0 q1 q2 q3 q4 p5)), .second, .val (.long (v0_122 q0 q1 q2 q3 q4 p5)), .second, .val (.double (v0_154 q0 q1 q2 q3 q4 p5)), .second, .val (.double (v0_172 q0 q1 q2 q3 q4 p5)), .second, .val (.int (j0_324_l22 q0 q1 q2 q3 q4 p5))] [(.int (1 : Int32))])) _
                refine XS.goto X6.here hx rfl (pc0 := 370) (pc' := 374) rfl (hb hby at_370) (by decide) (by decide) ?_
                exact kt366
            exact kt358
        show Steps p.tables e below (T6.setTop (mkF m 374 #[.val (.long q0), .second, .val (.long q1), .second, .val (.long q2), .second, .val (.long q3), .second, .val (.long q4), .second, .val (.int p5), .val (.int (v0_4 q0 q1 q2 q3 q4 p5)), .val (.long (j0_9_l12 q0 q1 q2 q3 q4 p5)), .second, .val (.long (j0_127_l14 q0 q1 q2 q3 q4 p5)), .second, .val (.long (v0_122 q0 q1 q2 q3 q4 p5)), .second, .val (.double (v0_154 q0 q1 q2 q3 q4 p5)), .second, .val (.double (v0_172 q0 q1 q2 q3 q4 p5)), .second, .val (.int (j0_324_l22 q0 q1 q2 q3 q4 p5))] [(.int (j0_358_s0 q0 q1 q2 q3 q4 p5))])) _
        refine XS.istore X6.here hx rfl (hb hby at_374) rfl (l' := #[.val (.long q0), .second, .val (.long q1), .second, .val (.long q2), .second, .val (.long q3), .second, .val (.long q4), .second, .val (.int p5), .val (.int (v0_4 q0 q1 q2 q3 q4 p5)), .val (.long (j0_9_l12 q0 q1 q2 q3 q4 p5)), .second, .val (.long (j0_127_l14 q0 q1 q2 q3 q4 p5)), .second, .val (.long (v0_122 q0 q1 q2 q3 q4 p5)), .second, .val (.double (v0_154 q0 q1 q2 q3 q4 p5)), .second, .val (.double (v0_172 q0 q1 q2 q3 q4 p5)), .second, .val (.int (j0_358_s0 q0 q1 q2 q3 q4 p5))]) rfl ?_
        show Steps p.tables e below (T6.setTop (mkF m 376 #[.val (.long q0), .second, .val (.long q1), .second, .val (.long q2), .second, .val (.long q3), .second, .val (.long q4), .second, .val (.int p5), .val (.int (v0_4 q0 q1 q2 q3 q4 p5)), .val (.long (j0_9_l12 q0 q1 q2 q3 q4 p5)), .second, .val (.long (j0_127_l14 q0 q1 q2 q3 q4 p5)), .second, .val (.long (v0_122 q0 q1 q2 q3 q4 p5)), .second, .val (.double (v0_154 q0 q1 q2 q3 q4 p5)), .second, .val (.double (v0_172 q0 q1 q2 q3 q4 p5)), .second, .val (.int (j0_358_s0 q0 q1 q2 q3 q4 p5))] [])) _
        refine XS.lload X6.here hx rfl (hb hby at_376) rfl ?_
        show Steps p.tables e below (T6.setTop (mkF m 378 #[.val (.long q0), .second, .val (.long q1), .second, .val (.long q2), .second, .val (.long q3), .second, .val (.long q4), .second, .val (.int p5), .val (.int (v0_4 q0 q1 q2 q3 q4 p5)), .val (.long (j0_9_l12 q0 q1 q2 q3 q4 p5)), .second, .val (.long (j0_127_l14 q0 q1 q2 q3 q4 p5)), .second, .val (.long (v0_122 q0 q1 q2 q3 q4 p5)), .second, .val (.double (v0_154 q0 q1 q2 q3 q4 p5)), .second, .val (.double (v0_172 q0 q1 q2 q3 q4 p5)), .second, .val (.int (j0_358_s0 q0 q1 q2 q3 q4 p5))] [(.long (j0_9_l12 q0 q1 q2 q3 q4 p5))])) _
        refine X6.ldc2Long hx hown (mvT hZ (hw _ (List.mem_of_getElem? (i := 30) rfl))) (g := (mkF m 378 #[.val (.long q0), .second, .val (.long q1), .second, .val (.long q2), .second, .val (.long q3), .second, .val (.long q4), .second, .val (.int p5), .val (.int (v0_4 q0 q1 q2 q3 q4 p5)), .val (.long (j0_9_l12 q0 q1 q2 q3 q4 p5)), .second, .val (.long (j0_127_l14 q0 q1 q2 q3 q4 p5)), .second, .val (.long (v0_122 q0 q1 q2 q3 q4 p5)), .second, .val (.double (v0_154 q0 q1 q2 q3 q4 p5)), .second, .val (.double (v0_172 q0 q1 q2 q3 q4 p5)), .second, .val (.int (j0_358_s0 q0 q1 q2 q3 q4 p5))] [(.long (j0_9_l12 q0 q1 q2 q3 q4 p5))])) rfl (hb hby at_378) _ ?_
        show Steps p.tables e below (T6.setTop (mkF m 381 #[.val (.long q0), .second, .val (.long q1), .second, .val (.long q2), .second, .val (.long q3), .second, .val (.long q4), .second, .val (.int p5), .val (.int (v0_4 q0 q1 q2 q3 q4 p5)), .val (.long (j0_9_l12 q0 q1 q2 q3 q4 p5)), .second, .val (.long (j0_127_l14 q0 q1 q2 q3 q4 p5)), .second, .val (.long (v0_122 q0 q1 q2 q3 q4 p5)), .second, .val (.double (v0_154 q0 q1 q2 q3 q4 p5)), .second, .val (.double (v0_172 q0 q1 q2 q3 q4 p5)), .second, .val (.int (j0_358_s0 q0 q1 q2 q3 q4 p5))] [(.long (1073741824 : Int64)), (.long (j0_9_l12 q0 q1 q2 q3 q4 p5))])) _
        refine XS.lcmp X6.here hx rfl (hb hby at_381) rfl ?_
        show Steps p.tables e below (T6.setTop (mkF m 382 #[.val (.long q0), .second, .val (.long q1), .second, .val (.long q2), .second, .val (.long q3), .second, .val (.long q4), .second, .val (.int p5), .val (.int (v0_4 q0 q1 q2 q3 q4 p5)), .val (.long (j0_9_l12 q0 q1 q2 q3 q4 p5)), .second, .val (.long (j0_127_l14 q0 q1 q2 q3 q4 p5)), .second, .val (.long (v0_122 q0 q1 q2 q3 q4 p5)), .second, .val (.double (v0_154 q0 q1 q2 q3 q4 p5)), .second, .val (.double (v0_172 q0 q1 q2 q3 q4 p5)), .second, .val (.int (j0_358_s0 q0 q1 q2 q3 q4 p5))] [(.int (lcmpW (j0_9_l12 q0 q1 q2 q3 q4 p5) (1073741824 : Int64)))])) _
        suffices kt382 : Steps p.tables e below (T6.setTop (mkF m 405 #[.val (.long q0), .second, .val (.long q1), .second, .val (.long q2), .second, .val (.long q3), .second, .val (.long q4), .second, .val (.int p5), .val (.int (v0_4 q0 q1 q2 q3 q4 p5)), .val (.long (j0_9_l12 q0 q1 q2 q3 q4 p5)), .second, .val (.long (j0_127_l14 q0 q1 q2 q3 q4 p5)), .second, .val (.long (v0_122 q0 q1 q2 q3 q4 p5)), .second, .val (.double (v0_154 q0 q1 q2 q3 q4 p5)), .second, .val (.double (v0_172 q0 q1 q2 q3 q4 p5)), .second, .val (.int (j0_382_l22 q0 q1 q2 q3 q4 p5))] [])) (T6.setFrames fs) by
          by_cases hc382 : ifCond.holds .gt (lcmpW (j0_9_l12 q0 q1 q2 q3 q4 p5) (1073741824 : Int64)) = true
          · rw [show (j0_382_l22 q0 q1 q2 q3 q4 p5) = (j0_358_s0 q0 q1 q2 q3 q4 p5) from if_pos hc382] at kt382
            refine XS.ifYes X6.here hx rfl (pc0 := 382) (pc' := 405) rfl (hb hby at_382) rfl hc382 (by decide) (by decide) ?_
            exact kt382
          · rw [show (j0_382_l22 q0 q1 q2 q3 q4 p5) = (j0_387_s0 q0 q1 q2 q3 q4 p5) from if_neg hc382] at kt382
            refine XS.ifNo X6.here hx rfl (hb hby at_382) rfl (eq_false_of_ne_true hc382) ?_
            show Steps p.tables e below (T6.setTop (mkF m 385 #[.val (.long q0), .second, .val (.long q1), .second, .val (.long q2), .second, .val (.long q3), .second, .val (.long q4), .second, .val (.int p5), .val (.int (v0_4 q0 q1 q2 q3 q4 p5)), .val (.long (j0_9_l12 q0 q1 q2 q3 q4 p5)), .second, .val (.long (j0_127_l14 q0 q1 q2 q3 q4 p5)), .second, .val (.long (v0_122 q0 q1 q2 q3 q4 p5)), .second, .val (.double (v0_154 q0 q1 q2 q3 q4 p5)), .second, .val (.double (v0_172 q0 q1 q2 q3 q4 p5)), .second, .val (.int (j0_358_s0 q0 q1 q2 q3 q4 p5))] [])) _
            refine XS.iload X6.here hx rfl (hb hby at_385) rfl ?_
            show Steps p.tables e below (T6.setTop (mkF m 387 #[.val (.long q0), .second, .val (.long q1), .second, .val (.long q2), .second, .val (.long q3), .second, .val (.long q4), .second, .val (.int p5), .val (.int (v0_4 q0 q1 q2 q3 q4 p5)), .val (.long (j0_9_l12 q0 q1 q2 q3 q4 p5)), .second, .val (.long (j0_127_l14 q0 q1 q2 q3 q4 p5)), .second, .val (.long (v0_122 q0 q1 q2 q3 q4 p5)), .second, .val (.double (v0_154 q0 q1 q2 q3 q4 p5)), .second, .val (.double (v0_172 q0 q1 q2 q3 q4 p5)), .second, .val (.int (j0_358_s0 q0 q1 q2 q3 q4 p5))] [(.int (j0_358_s0 q0 q1 q2 q3 q4 p5))])) _
            suffices kt387 : Steps p.tables e below (T6.setTop (mkF m 403 #[.val (.long q0), .second, .val (.long q1), .second, .val (.long q2), .second, .val (.long q3), .second, .val (.long q4), .second, .val (.int p5), .val (.int (v0_4 q0 q1 q2 q3 q4 p5)), .val (.long (j0_9_l12 q0 q1 q2 q3 q4 p5)), .second, .val (.long (j0_127_l14 q0 q1 q2 q3 q4 p5)), .second, .val (.long (v0_122 q0 q1 q2 q3 q4 p5)), .second, .val (.double (v0_154 q0 q1 q2 q3 q4 p5)), .second, .val (.double (v0_172 q0 q1 q2 q3 q4 p5)), .second, .val (.int (j0_358_s0 q0 q1 q2 q3 q4 p5))] [(.int (j0_387_s0 q0 q1 q2 q3 q4 p5))])) (T6.setFrames fs) by
              by_cases hc387 : ifCond.holds .eq (j0_358_s0 q0 q1 q2 q3 q4 p5) = true
              · rw [show (j0_387_s0 q0 q1 q2 q3 q4 p5) = (0 : Int32) from if_pos hc387] at kt387
                refine XS.ifYes X6.here hx rfl (pc0 := 387) (pc' := 402) rfl (hb hby at_387) rfl hc387 (by decide) (by decide) ?_
                show Steps p.tables e below (T6.setTop (mkF m 402 #[.val (.long q0), .second, .val (.long q1), .second, .val (.long q2), .second, .val (.long q3), .second, .val (.long q4), .second, .val (.int p5), .val (.int (v0_4 q0 q1 q2 q3 q4 p5)), .val (.long (j0_9_l12 q0 q1 q2 q3 q4 p5)), .second, .val (.long (j0_127_l14 q0 q1 q2 q3 q4 p5)), .second, .val (.long (v0_122 q0 q1 q2 q3 q4 p5)), .second, .val (.double (v0_154 q0 q1 q2 q3 q4 p5)), .second, .val (.double (v0_172 q0 q1 q2 q3 q4 p5)), .second, .val (.int (j0_358_s0 q0 q1 q2 q3 q4 p5))] [])) _
                refine XS.iconst X6.here hx rfl (hb hby at_402) ?_
                exact kt387
              · rw [show (j0_387_s0 q0 q1 q2 q3 q4 p5) = (j0_395_s0 q0 q1 q2 q3 q4 p5) from if_neg hc387] at kt387
                refine XS.ifNo X6.here hx rfl (hb hby at_387) rfl (eq_false_of_ne_true hc387) ?_
                show Steps p.tables e below (T6.setTop (mkF m 390 #[.val (.long q0), .second, .val (.long q1), .second, .val (.long q2), .second, .val (.long q3), .second, .val (.long q4), .second, .val (.int p5), .val (.int (v0_4 q0 q1 q2 q3 q4 p5)), .val (.long (j0_9_l12 q0 q1 q2 q3 q4 p5)), .second, .val (.long (j0_127_l14 q0 q1 q2 q3 q4 p5)), .second, .val (.long (v0_122 q0 q1 q2 q3 q4 p5)), .second, .val (.double (v0_154 q0 q1 q2 q3 q4 p5)), .second, .val (.double (v0_172 q0 q1 q2 q3 q4 p5)), .second, .val (.int (j0_358_s0 q0 q1 q2 q3 q4 p5))] [])) _
                refine XS.dload X6.here hx rfl (hb hby at_390) rfl ?_
                show Steps p.tables e below (T6.setTop (mkF m 392 #[.val (.long q0), .second, .val (.long q1), .second, .val (.long q2), .second, .val (.long q3), .second, .val (.long q4), .second, .val (.int p5), .val (.int (v0_4 q0 q1 q2 q3 q4 p5)), .val (.long (j0_9_l12 q0 q1 q2 q3 q4 p5)), .second, .val (.long (j0_127_l14 q0 q1 q2 q3 q4 p5)), .second, .val (.long (v0_122 q0 q1 q2 q3 q4 p5)), .second, .val (.double (v0_154 q0 q1 q2 q3 q4 p5)), .second, .val (.double (v0_172 q0 q1 q2 q3 q4 p5)), .second, .val (.int (j0_358_s0 q0 q1 q2 q3 q4 p5))] [(.double (v0_154 q0 q1 q2 q3 q4 p5))])) _
                refine XS.dload X6.here hx rfl (hb hby at_392) rfl ?_
                show Steps p.tables e below (T6.setTop (mkF m 394 #[.val (.long q0), .second, .val (.long q1), .second, .val (.long q2), .second, .val (.long q3), .second, .val (.long q4), .second, .val (.int p5), .val (.int (v0_4 q0 q1 q2 q3 q4 p5)), .val (.long (j0_9_l12 q0 q1 q2 q3 q4 p5)), .second, .val (.long (j0_127_l14 q0 q1 q2 q3 q4 p5)), .second, .val (.long (v0_122 q0 q1 q2 q3 q4 p5)), .second, .val (.double (v0_154 q0 q1 q2 q3 q4 p5)), .second, .val (.double (v0_172 q0 q1 q2 q3 q4 p5)), .second, .val (.int (j0_358_s0 q0 q1 q2 q3 q4 p5))] [(.double (v0_172 q0 q1 q2 q3 q4 p5)), (.double (v0_154 q0 q1 q2 q3 q4 p5))])) _
                refine XS.dcmpS X6.here hx rfl (hb hby at_394) rfl rfl ?_
                show Steps p.tables e below (T6.setTop (mkF m 395 #[.val (.long q0), .second, .val (.long q1), .second, .val (.long q2), .second, .val (.long q3), .second, .val (.long q4), .second, .val (.int p5), .val (.int (v0_4 q0 q1 q2 q3 q4 p5)), .val (.long (j0_9_l12 q0 q1 q2 q3 q4 p5)), .second, .val (.long (j0_127_l14 q0 q1 q2 q3 q4 p5)), .second, .val (.long (v0_122 q0 q1 q2 q3 q4 p5)), .second, .val (.double (v0_154 q0 q1 q2 q3 q4 p5)), .second, .val (.double (v0_172 q0 q1 q2 q3 q4 p5)), .second, .val (.int (j0_358_s0 q0 q1 q2 q3 q4 p5))] [(.int (cmpValue (FP.dcmp (v0_154 q0 q1 q2 q3 q4 p5) (v0_172 q0 q1 q2 q3 q4 p5)) .l))])) _
                suffices kt395 : Steps p.tables e below (T6.setTop (mkF m 403 #[.val (.long q0), .second, .val (.long q1), .second, .val (.long q2), .second, .val (.long q3), .second, .val (.long q4), .second, .val (.int p5), .val (.int (v0_4 q0 q1 q2 q3 q4 p5)), .val (.long (j0_9_l12 q0 q1 q2 q3 q4 p5)), .second, .val (.long (j0_127_l14 q0 q1 q2 q3 q4 p5)), .second, .val (.long (v0_122 q0 q1 q2 q3 q4 p5)), .second, .val (.double (v0_154 q0 q1 q2 q3 q4 p5)), .second, .val (.double (v0_172 q0 q1 q2 q3 q4 p5)), .second, .val (.int (j0_358_s0 q0 q1 q2 q3 q4 p5))] [(.int (j0_395_s0 q0 q1 q2 q3 q4 p5))])) (T6.setFrames fs) by
                  by_cases hc395 : ifCond.holds .le (cmpValue (FP.dcmp (v0_154 q0 q1 q2 q3 q4 p5) (v0_172 q0 q1 q2 q3 q4 p5)) .l) = true
                  · rw [show (j0_395_s0 q0 q1 q2 q3 q4 p5) = (0 : Int32) from if_pos hc395] at kt395
                    refine XS.ifYes X6.here hx rfl (pc0 := 395) (pc' := 402) rfl (hb hby at_395) rfl hc395 (by decide) (by decide) ?_
                    show Steps p.tables e below (T6.setTop (mkF m 402 #[.val (.long q0), .second, .val (.long q1), .second, .val (.long q2), .second, .val (.long q3), .second, .val (.long q4), .second, .val (.int p5), .val (.int (v0_4 q0 q1 q2 q3 q4 p5)), .val (.long (j0_9_l12 q0 q1 q2 q3 q4 p5)), .second, .val (.long (j0_127_l14 q0 q1 q2 q3 q4 p5)), .second, .val (.long (v0_122 q0 q1 q2 q3 q4 p5)), .second, .val (.double (v0_154 q0 q1 q2 q3 q4 p5)), .second, .val (.double (v0_172 q0 q1 q2 q3 q4 p5)), .second, .val (.int (j0_358_s0 q0 q1 q2 q3 q4 p5))] [])) _
                    refine XS.iconst X6.here hx rfl (hb hby at_402) ?_
                    exact kt395
                  · rw [show (j0_395_s0 q0 q1 q2 q3 q4 p5) = (1 : Int32) from if_neg hc395] at kt395
                    refine XS.ifNo X6.here hx rfl (hb hby at_395) rfl (eq_false_of_ne_true hc395) ?_
                    show Steps p.tables e below (T6.setTop (mkF m 398 #[.val (.long q0), .second, .val (.long q1), .second, .val (.long q2), .second, .val (.long q3), .second, .val (.long q4), .second, .val (.int p5), .val (.int (v0_4 q0 q1 q2 q3 q4 p5)), .val (.long (j0_9_l12 q0 q1 q2 q3 q4 p5)), .second, .val (.long (j0_127_l14 q0 q1 q2 q3 q4 p5)), .second, .val (.long (v0_122 q0 q1 q2 q3 q4 p5)), .second, .val (.double (v0_154 q0 q1 q2 q3 q4 p5)), .second, .val (.double (v0_172 q0 q1 q2 q3 q4 p5)), .second, .val (.int (j0_358_s0 q0 q1 q2 q3 q4 p5))] [])) _
                    refine XS.iconst X6.here hx rfl (hb hby at_398) ?_
                    show Steps p.tables e below (T6.setTop (mkF m 399 #[.val (.long q0), .second, .val (.long q1), .second, .val (.long q2), .second, .val (.long q3), .second, .val (.long q4), .second, .val (.int p5), .val (.int (v0_4 q0 q1 q2 q3 q4 p5)), .val (.long (j0_9_l12 q0 q1 q2 q3 q4 p5)), .second, .val (.long (j0_127_l14 q0 q1 q2 q3 q4 p5)), .second, .val (.long (v0_122 q0 q1 q2 q3 q4 p5)), .second, .val (.double (v0_154 q0 q1 q2 q3 q4 p5)), .second, .val (.double (v0_172 q0 q1 q2 q3 q4 p5)), .second, .val (.int (j0_358_s0 q0 q1 q2 q3 q4 p5))] [(.int (1 : Int32))])) _
                    refine XS.goto X6.here hx rfl (pc0 := 399) (pc' := 403) rfl (hb hby at_399) (by decide) (by decide) ?_
                    exact kt395
                exact kt387
            show Steps p.tables e below (T6.setTop (mkF m 403 #[.val (.long q0), .second, .val (.long q1), .second, .val (.long q2), .second, .val (.long q3), .second, .val (.long q4), .second, .val (.int p5), .val (.int (v0_4 q0 q1 q2 q3 q4 p5)), .val (.long (j0_9_l12 q0 q1 q2 q3 q4 p5)), .second, .val (.long (j0_127_l14 q0 q1 q2 q3 q4 p5)), .second, .val (.long (v0_122 q0 q1 q2 q3 q4 p5)), .second, .val (.double (v0_154 q0 q1 q2 q3 q4 p5)), .second, .val (.double (v0_172 q0 q1 q2 q3 q4 p5)), .second, .val (.int (j0_358_s0 q0 q1 q2 q3 q4 p5))] [(.int (j0_387_s0 q0 q1 q2 q3 q4 p5))])) _
            refine XS.istore X6.here hx rfl (hb hby at_403) rfl (l' := #[.val (.long q0), .second, .val (.long q1), .second, .val (.long q2), .second, .val (.long q3), .second, .val (.long q4), .second, .val (.int p5), .val (.int (v0_4 q0 q1 q2 q3 q4 p5)), .val (.long (j0_9_l12 q0 q1 q2 q3 q4 p5)), .second, .val (.long (j0_127_l14 q0 q1 q2 q3 q4 p5)), .second, .val (.long (v0_122 q0 q1 q2 q3 q4 p5)), .second, .val (.double (v0_154 q0 q1 q2 q3 q4 p5)), .second, .val (.double (v0_172 q0 q1 q2 q3 q4 p5)), .second, .val (.int (j0_387_s0 q0 q1 q2 q3 q4 p5))]) rfl ?_
            exact kt382
        exact kt353
    show Steps p.tables e below (T6.setTop (mkF m 405 #[.val (.long q0), .second, .val (.long q1), .second, .val (.long q2), .second, .val (.long q3), .second, .val (.long q4), .second, .val (.int p5), .val (.int (v0_4 q0 q1 q2 q3 q4 p5)), .val (.long (j0_9_l12 q0 q1 q2 q3 q4 p5)), .second, .val (.long (j0_127_l14 q0 q1 q2 q3 q4 p5)), .second, .val (.long (v0_122 q0 q1 q2 q3 q4 p5)), .second, .val (.double (v0_154 q0 q1 q2 q3 q4 p5)), .second, .val (.double (v0_172 q0 q1 q2 q3 q4 p5)), .second, .val (.int (j0_353_l22 q0 q1 q2 q3 q4 p5))] [])) _
    refine XS.lload X6.here hx rfl (hb hby at_405) rfl ?_
    show Steps p.tables e below (T6.setTop (mkF m 407 #[.val (.long q0), .second, .val (.long q1), .second, .val (.long q2), .second, .val (.long q3), .second, .val (.long q4), .second, .val (.int p5), .val (.int (v0_4 q0 q1 q2 q3 q4 p5)), .val (.long (j0_9_l12 q0 q1 q2 q3 q4 p5)), .second, .val (.long (j0_127_l14 q0 q1 q2 q3 q4 p5)), .second, .val (.long (v0_122 q0 q1 q2 q3 q4 p5)), .second, .val (.double (v0_154 q0 q1 q2 q3 q4 p5)), .second, .val (.double (v0_172 q0 q1 q2 q3 q4 p5)), .second, .val (.int (j0_353_l22 q0 q1 q2 q3 q4 p5))] [(.long (v0_122 q0 q1 q2 q3 q4 p5))])) _
    refine XS.lload X6.here hx rfl (hb hby at_407) rfl ?_
    show Steps p.tables e below (T6.setTop (mkF m 409 #[.val (.long q0), .second, .val (.long q1), .second, .val (.long q2), .second, .val (.long q3), .second, .val (.long q4), .second, .val (.int p5), .val (.int (v0_4 q0 q1 q2 q3 q4 p5)), .val (.long (j0_9_l12 q0 q1 q2 q3 q4 p5)), .second, .val (.long (j0_127_l14 q0 q1 q2 q3 q4 p5)), .second, .val (.long (v0_122 q0 q1 q2 q3 q4 p5)), .second, .val (.double (v0_154 q0 q1 q2 q3 q4 p5)), .second, .val (.double (v0_172 q0 q1 q2 q3 q4 p5)), .second, .val (.int (j0_353_l22 q0 q1 q2 q3 q4 p5))] [(.long (j0_127_l14 q0 q1 q2 q3 q4 p5)), (.long (v0_122 q0 q1 q2 q3 q4 p5))])) _
    refine XS.lcmp X6.here hx rfl (hb hby at_409) rfl ?_
    show Steps p.tables e below (T6.setTop (mkF m 410 #[.val (.long q0), .second, .val (.long q1), .second, .val (.long q2), .second, .val (.long q3), .second, .val (.long q4), .second, .val (.int p5), .val (.int (v0_4 q0 q1 q2 q3 q4 p5)), .val (.long (j0_9_l12 q0 q1 q2 q3 q4 p5)), .second, .val (.long (j0_127_l14 q0 q1 q2 q3 q4 p5)), .second, .val (.long (v0_122 q0 q1 q2 q3 q4 p5)), .second, .val (.double (v0_154 q0 q1 q2 q3 q4 p5)), .second, .val (.double (v0_172 q0 q1 q2 q3 q4 p5)), .second, .val (.int (j0_353_l22 q0 q1 q2 q3 q4 p5))] [(.int (lcmpW (v0_122 q0 q1 q2 q3 q4 p5) (j0_127_l14 q0 q1 q2 q3 q4 p5)))])) _
    suffices kt410 : Steps p.tables e below (T6.setTop (mkF m 462 #[.val (.long q0), .second, .val (.long q1), .second, .val (.long q2), .second, .val (.long q3), .second, .val (.long q4), .second, .val (.int p5), .val (.int (v0_4 q0 q1 q2 q3 q4 p5)), .val (.long (j0_9_l12 q0 q1 q2 q3 q4 p5)), .second, .val (.long (j0_127_l14 q0 q1 q2 q3 q4 p5)), .second, .val (.long (v0_122 q0 q1 q2 q3 q4 p5)), .second, .val (.double (v0_154 q0 q1 q2 q3 q4 p5)), .second, .val (.double (v0_172 q0 q1 q2 q3 q4 p5)), .second, .val (.int (j0_410_l22 q0 q1 q2 q3 q4 p5))] [])) (T6.setFrames fs) by
      by_cases hc410 : ifCond.holds .ge (lcmpW (v0_122 q0 q1 q2 q3 q4 p5) (j0_127_l14 q0 q1 q2 q3 q4 p5)) = true
      · rw [show (j0_410_l22 q0 q1 q2 q3 q4 p5) = (j0_353_l22 q0 q1 q2 q3 q4 p5) from if_pos hc410] at kt410
        refine XS.ifYes X6.here hx rfl (pc0 := 410) (pc' := 462) rfl (hb hby at_410) rfl hc410 (by decide) (by decide) ?_
        exact kt410
      · rw [show (j0_410_l22 q0 q1 q2 q3 q4 p5) = (j0_439_l22 q0 q1 q2 q3 q4 p5) from if_neg hc410] at kt410
        refine XS.ifNo X6.here hx rfl (hb hby at_410) rfl (eq_false_of_ne_true hc410) ?_
        show Steps p.tables e below (T6.setTop (mkF m 413 #[.val (.long q0), .second, .val (.long q1), .second, .val (.long q2), .second, .val (.long q3), .second, .val (.long q4), .second, .val (.int p5), .val (.int (v0_4 q0 q1 q2 q3 q4 p5)), .val (.long (j0_9_l12 q0 q1 q2 q3 q4 p5)), .second, .val (.long (j0_127_l14 q0 q1 q2 q3 q4 p5)), .second, .val (.long (v0_122 q0 q1 q2 q3 q4 p5)), .second, .val (.double (v0_154 q0 q1 q2 q3 q4 p5)), .second, .val (.double (v0_172 q0 q1 q2 q3 q4 p5)), .second, .val (.int (j0_353_l22 q0 q1 q2 q3 q4 p5))] [])) _
        refine XS.iload X6.here hx rfl (hb hby at_413) rfl ?_
        show Steps p.tables e below (T6.setTop (mkF m 415 #[.val (.long q0), .second, .val (.long q1), .second, .val (.long q2), .second, .val (.long q3), .second, .val (.long q4), .second, .val (.int p5), .val (.int (v0_4 q0 q1 q2 q3 q4 p5)), .val (.long (j0_9_l12 q0 q1 q2 q3 q4 p5)), .second, .val (.long (j0_127_l14 q0 q1 q2 q3 q4 p5)), .second, .val (.long (v0_122 q0 q1 q2 q3 q4 p5)), .second, .val (.double (v0_154 q0 q1 q2 q3 q4 p5)), .second, .val (.double (v0_172 q0 q1 q2 q3 q4 p5)), .second, .val (.int (j0_353_l22 q0 q1 q2 q3 q4 p5))] [(.int (j0_353_l22 q0 q1 q2 q3 q4 p5))])) _
        suffices kt415 : Steps p.tables e below (T6.setTop (mkF m 431 #[.val (.long q0), .second, .val (.long q1), .second, .val (.long q2), .second, .val (.long q3), .second, .val (.long q4), .second, .val (.int p5), .val (.int (v0_4 q0 q1 q2 q3 q4 p5)), .val (.long (j0_9_l12 q0 q1 q2 q3 q4 p5)), .second, .val (.long (j0_127_l14 q0 q1 q2 q3 q4 p5)), .second, .val (.long (v0_122 q0 q1 q2 q3 q4 p5)), .second, .val (.double (v0_154 q0 q1 q2 q3 q4 p5)), .second, .val (.double (v0_172 q0 q1 q2 q3 q4 p5)), .second, .val (.int (j0_353_l22 q0 q1 q2 q3 q4 p5))] [(.int (j0_415_s0 q0 q1 q2 q3 q4 p5))])) (T6.setFrames fs) by
          by_cases hc415 : ifCond.holds .eq (j0_353_l22 q0 q1 q2 q3 q4 p5) = true
          · rw [show (j0_415_s0 q0 q1 q2 q3 q4 p5) = (0 : Int32) from if_pos hc415] at kt415
            refine XS.ifYes X6.here hx rfl (pc0 := 415) (pc' := 430) rfl (hb hby at_415) rfl hc415 (by decide) (by decide) ?_
            show Steps p.tables e below (T6.setTop (mkF m 430 #[.val (.long q0), .second, .val (.long q1), .second, .val (.long q2), .second, .val (.long q3), .second, .val (.long q4), .second, .val (.int p5), .val (.int (v0_4 q0 q1 q2 q3 q4 p5)), .val (.long (j0_9_l12 q0 q1 q2 q3 q4 p5)), .second, .val (.long (j0_127_l14 q0 q1 q2 q3 q4 p5)), .second, .val (.long (v0_122 q0 q1 q2 q3 q4 p5)), .second, .val (.double (v0_154 q0 q1 q2 q3 q4 p5)), .second, .val (.double (v0_172 q0 q1 q2 q3 q4 p5)), .second, .val (.int (j0_353_l22 q0 q1 q2 q3 q4 p5))] [])) _
            refine XS.iconst X6.here hx rfl (hb hby at_430) ?_
            exact kt415
          · rw [show (j0_415_s0 q0 q1 q2 q3 q4 p5) = (j0_423_s0 q0 q1 q2 q3 q4 p5) from if_neg hc415] at kt415
            refine XS.ifNo X6.here hx rfl (hb hby at_415) rfl (eq_false_of_ne_true hc415) ?_
            show Steps p.tables e below (T6.setTop (mkF m 418 #[.val (.long q0), .second, .val (.long q1), .second, .val (.long q2), .second, .val (.long q3), .second, .val (.long q4), .second, .val (.int p5), .val (.int (v0_4 q0 q1 q2 q3 q4 p5)), .val (.long (j0_9_l12 q0 q1 q2 q3 q4 p5)), .second, .val (.long (j0_127_l14 q0 q1 q2 q3 q4 p5)), .second, .val (.long (v0_122 q0 q1 q2 q3 q4 p5)), .second, .val (.double (v0_154 q0 q1 q2 q3 q4 p5)), .second, .val (.double (v0_172 q0 q1 q2 q3 q4 p5)), .second, .val (.int (j0_353_l22 q0 q1 q2 q3 q4 p5))] [])) _
            refine XS.dload X6.here hx rfl (hb hby at_418) rfl ?_
            show Steps p.tables e below (T6.setTop (mkF m 420 #[.val (.long q0), .second, .val (.long q1), .second, .val (.long q2), .second, .val (.long q3), .second, .val (.long q4), .second, .val (.int p5), .val (.int (v0_4 q0 q1 q2 q3 q4 p5)), .val (.long (j0_9_l12 q0 q1 q2 q3 q4 p5)), .second, .val (.long (j0_127_l14 q0 q1 q2 q3 q4 p5)), .second, .val (.long (v0_122 q0 q1 q2 q3 q4 p5)), .second, .val (.double (v0_154 q0 q1 q2 q3 q4 p5)), .second, .val (.double (v0_172 q0 q1 q2 q3 q4 p5)), .second, .val (.int (j0_353_l22 q0 q1 q2 q3 q4 p5))] [(.double (v0_172 q0 q1 q2 q3 q4 p5))])) _
            refine XS.dload X6.here hx rfl (hb hby at_420) rfl ?_
            show Steps p.tables e below (T6.setTop (mkF m 422 #[.val (.long q0), .second, .val (.long q1), .second, .val (.long q2), .second, .val (.long q3), .second, .val (.long q4), .second, .val (.int p5), .val (.int (v0_4 q0 q1 q2 q3 q4 p5)), .val (.long (j0_9_l12 q0 q1 q2 q3 q4 p5)), .second, .val (.long (j0_127_l14 q0 q1 q2 q3 q4 p5)), .second, .val (.long (v0_122 q0 q1 q2 q3 q4 p5)), .second, .val (.double (v0_154 q0 q1 q2 q3 q4 p5)), .second, .val (.double (v0_172 q0 q1 q2 q3 q4 p5)), .second, .val (.int (j0_353_l22 q0 q1 q2 q3 q4 p5))] [(.double (v0_154 q0 q1 q2 q3 q4 p5)), (.double (v0_172 q0 q1 q2 q3 q4 p5))])) _
            refine XS.dcmpS X6.here hx rfl (hb hby at_422) rfl rfl ?_
            show Steps p.tables e below (T6.setTop (mkF m 423 #[.val (.long q0), .second, .val (.long q1), .second, .val (.long q2), .second, .val (.long q3), .second, .val (.long q4), .second, .val (.int p5), .val (.int (v0_4 q0 q1 q2 q3 q4 p5)), .val (.long (j0_9_l12 q0 q1 q2 q3 q4 p5)), .second, .val (.long (j0_127_l14 q0 q1 q2 q3 q4 p5)), .second, .val (.long (v0_122 q0 q1 q2 q3 q4 p5)), .second, .val (.double (v0_154 q0 q1 q2 q3 q4 p5)), .second, .val (.double (v0_172 q0 q1 q2 q3 q4 p5)), .second, .val (.int (j0_353_l22 q0 q1 q2 q3 q4 p5))] [(.int (cmpValue (FP.dcmp (v0_172 q0 q1 q2 q3 q4 p5) (v0_154 q0 q1 q2 q3 q4 p5)) .l))])) _
            suffices kt423 : Steps p.tables e below (T6.setTop (mkF m 431 #[.val (.long q0), .second, .val (.long q1), .second, .val (.long q2), .second, .val (.long q3), .second, .val (.long q4), .second, .val (.int p5), .val (.int (v0_4 q0 q1 q2 q3 q4 p5)), .val (.long (j0_9_l12 q0 q1 q2 q3 q4 p5)), .second, .val (.long (j0_127_l14 q0 q1 q2 q3 q4 p5)), .second, .val (.long (v0_122 q0 q1 q2 q3 q4 p5)), .second, .val (.double (v0_154 q0 q1 q2 q3 q4 p5)), .second, .val (.double (v0_172 q0 q1 q2 q3 q4 p5)), .second, .val (.int (j0_353_l22 q0 q1 q2 q3 q4 p5))] [(.int (j0_423_s0 q0 q1 q2 q3 q4 p5))])) (T6.setFrames fs) by
              by_cases hc423 : ifCond.holds .lt (cmpValue (FP.dcmp (v0_172 q0 q1 q2 q3 q4 p5) (v0_154 q0 q1 q2 q3 q4 p5)) .l) = true
              · rw [show (j0_423_s0 q0 q1 q2 q3 q4 p5) = (0 : Int32) from if_pos hc423] at kt423
                refine XS.ifYes X6.here hx rfl (pc0 := 423) (pc' := 430) rfl (hb hby at_423) rfl hc423 (by decide) (by decide) ?_
                show Steps p.tables e below (T6.setTop (mkF m 430 #[.val (.long q0), .second, .val (.long q1), .second, .val (.long q2), .second, .val (.long q3), .second, .val (.long q4), .second, .val (.int p5), .val (.int (v0_4 q0 q1 q2 q3 q4 p5)), .val (.long (j0_9_l12 q0 q1 q2 q3 q4 p5)), .second, .val (.long (j0_127_l14 q0 q1 q2 q3 q4 p5)), .second, .val (.long (v0_122 q0 q1 q2 q3 q4 p5)), .second, .val (.double (v0_154 q0 q1 q2 q3 q4 p5)), .second, .val (.double (v0_172 q0 q1 q2 q3 q4 p5)), .second, .val (.int (j0_353_l22 q0 q1 q2 q3 q4 p5))] [])) _
                refine XS.iconst X6.here hx rfl (hb hby at_430) ?_
                exact kt423
              · rw [show (j0_423_s0 q0 q1 q2 q3 q4 p5) = (1 : Int32) from if_neg hc423] at kt423
                refine XS.ifNo X6.here hx rfl (hb hby at_423) rfl (eq_false_of_ne_true hc423) ?_
                show Steps p.tables e below (T6.setTop (mkF m 426 #[.val (.long q0), .second, .val (.long q1), .second, .val (.long q2), .second, .val (.long q3), .second, .val (.long q4), .second, .val (.int p5), .val (.int (v0_4 q0 q1 q2 q3 q4 p5)), .val (.long (j0_9_l12 q0 q1 q2 q3 q4 p5)), .second, .val (.long (j0_127_l14 q0 q1 q2 q3 q4 p5)), .second, .val (.long (v0_122 q0 q1 q2 q3 q4 p5)), .second, .val (.double (v0_154 q0 q1 q2 q3 q4 p5)), .second, .val (.double (v0_172 q0 q1 q2 q3 q4 p5)), .second, .val (.int (j0_353_l22 q0 q1 q2 q3 q4 p5))] [])) _
                refine XS.iconst X6.here hx rfl (hb hby at_426) ?_
                show Steps p.tables e below (T6.setTop (mkF m 427 #[.val (.long q0), .second, .val (.long q1), .second, .val (.long q2), .second, .val (.long q3), .second, .val (.long q4), .second, .val (.int p5), .val (.int (v0_4 q0 q1 q2 q3 q4 p5)), .val (.long (j0_9_l12 q0 q1 q2 q3 q4 p5)), .second, .val (.long (j0_127_l14 q0 q1 q2 q3 q4 p5)), .second, .val (.long (v0_122 q0 q1 q2 q3 q4 p5)), .second, .val (.double (v0_154 q0 q1 q2 q3 q4 p5)), .second, .val (.double (v0_172 q0 q1 q2 q3 q4 p5)), .second, .val (.int (j0_353_l22 q0 q1 q2 q3 q4 p5))] [(.int (1 : Int32))])) _
                refine XS.goto X6.here hx rfl (pc0 := 427) (pc' := 431) rfl (hb hby at_427) (by decide) (by decide) ?_
                exact kt423
            exact kt415
        show Steps p.tables e below (T6.setTop (mkF m 431 #[.val (.long q0), .second, .val (.long q1), .second, .val (.long q2), .second, .val (.long q3), .second, .val (.long q4), .second, .val (.int p5), .val (.int (v0_4 q0 q1 q2 q3 q4 p5)), .val (.long (j0_9_l12 q0 q1 q2 q3 q4 p5)), .second, .val (.long (j0_127_l14 q0 q1 q2 q3 q4 p5)), .second, .val (.long (v0_122 q0 q1 q2 q3 q4 p5)), .second, .val (.double (v0_154 q0 q1 q2 q3 q4 p5)), .second, .val (.double (v0_172 q0 q1 q2 q3 q4 p5)), .second, .val (.int (j0_353_l22 q0 q1 q2 q3 q4 p5))] [(.int (j0_415_s0 q0 q1 q2 q3 q4 p5))])) _
        refine XS.istore X6.here hx rfl (hb hby at_431) rfl (l' := #[.val (.long q0), .second, .val (.long q1), .second, .val (.long q2), .second, .val (.long q3), .second, .val (.long q4), .second, .val (.int p5), .val (.int (v0_4 q0 q1 q2 q3 q4 p5)), .val (.long (j0_9_l12 q0 q1 q2 q3 q4 p5)), .second, .val (.long (j0_127_l14 q0 q1 q2 q3 q4 p5)), .second, .val (.long (v0_122 q0 q1 q2 q3 q4 p5)), .second, .val (.double (v0_154 q0 q1 q2 q3 q4 p5)), .second, .val (.double (v0_172 q0 q1 q2 q3 q4 p5)), .second, .val (.int (j0_415_s0 q0 q1 q2 q3 q4 p5))]) rfl ?_
        show Steps p.tables e below (T6.setTop (mkF m 433 #[.val (.long q0), .second, .val (.long q1), .second, .val (.long q2), .second, .val (.long q3), .second, .val (.long q4), .second, .val (.int p5), .val (.int (v0_4 q0 q1 q2 q3 q4 p5)), .val (.long (j0_9_l12 q0 q1 q2 q3 q4 p5)), .second, .val (.long (j0_127_l14 q0 q1 q2 q3 q4 p5)), .second, .val (.long (v0_122 q0 q1 q2 q3 q4 p5)), .second, .val (.double (v0_154 q0 q1 q2 q3 q4 p5)), .second, .val (.double (v0_172 q0 q1 q2 q3 q4 p5)), .second, .val (.int (j0_415_s0 q0 q1 q2 q3 q4 p5))] [])) _
        refine XS.lload X6.here hx rfl (hb hby at_433) rfl ?_
        show Steps p.tables e below (T6.setTop (mkF m 435 #[.val (.long q0), .second, .val (.long q1), .second, .val (.long q2), .second, .val (.long q3), .second, .val (.long q4), .second, .val (.int p5), .val (.int (v0_4 q0 q1 q2 q3 q4 p5)), .val (.long (j0_9_l12 q0 q1 q2 q3 q4 p5)), .second, .val (.long (j0_127_l14 q0 q1 q2 q3 q4 p5)), .second, .val (.long (v0_122 q0 q1 q2 q3 q4 p5)), .second, .val (.double (v0_154 q0 q1 q2 q3 q4 p5)), .second, .val (.double (v0_172 q0 q1 q2 q3 q4 p5)), .second, .val (.int (j0_415_s0 q0 q1 q2 q3 q4 p5))] [(.long (j0_9_l12 q0 q1 q2 q3 q4 p5))])) _
        refine X6.ldc2Long hx hown (mvT hZ (hw _ (List.mem_of_getElem? (i := 30) rfl))) (g := (mkF m 435 #[.val (.long q0), .second, .val (.long q1), .second, .val (.long q2), .second, .val (.long q3), .second, .val (.long q4), .second, .val (.int p5), .val (.int (v0_4 q0 q1 q2 q3 q4 p5)), .val (.long (j0_9_l12 q0 q1 q2 q3 q4 p5)), .second, .val (.long (j0_127_l14 q0 q1 q2 q3 q4 p5)), .second, .val (.long (v0_122 q0 q1 q2 q3 q4 p5)), .second, .val (.double (v0_154 q0 q1 q2 q3 q4 p5)), .second, .val (.double (v0_172 q0 q1 q2 q3 q4 p5)), .second, .val (.int (j0_415_s0 q0 q1 q2 q3 q4 p5))] [(.long (j0_9_l12 q0 q1 q2 q3 q4 p5))])) rfl (hb hby at_435) _ ?_
        show Steps p.tables e below (T6.setTop (mkF m 438 #[.val (.long q0), .second, .val (.long q1), .second, .val (.long q2), .second, .val (.long q3), .second, .val (.long q4), .second, .val (.int p5), .val (.int (v0_4 q0 q1 q2 q3 q4 p5)), .val (.long (j0_9_l12 q0 q1 q2 q3 q4 p5)), .second, .val (.long (j0_127_l14 q0 q1 q2 q3 q4 p5)), .second, .val (.long (v0_122 q0 q1 q2 q3 q4 p5)), .second, .val (.double (v0_154 q0 q1 q2 q3 q4 p5)), .second, .val (.double (v0_172 q0 q1 q2 q3 q4 p5)), .second, .val (.int (j0_415_s0 q0 q1 q2 q3 q4 p5))] [(.long (1073741824 : Int64)), (.long (j0_9_l12 q0 q1 q2 q3 q4 p5))])) _
        refine XS.lcmp X6.here hx rfl (hb hby at_438) rfl ?_
        show Steps p.tables e below (T6.setTop (mkF m 439 #[.val (.long q0), .second, .val (.long q1), .second, .val (.long q2), .second, .val (.long q3), .second, .val (.long q4), .second, .val (.int p5), .val (.int (v0_4 q0 q1 q2 q3 q4 p5)), .val (.long (j0_9_l12 q0 q1 q2 q3 q4 p5)), .second, .val (.long (j0_127_l14 q0 q1 q2 q3 q4 p5)), .second, .val (.long (v0_122 q0 q1 q2 q3 q4 p5)), .second, .val (.double (v0_154 q0 q1 q2 q3 q4 p5)), .second, .val (.double (v0_172 q0 q1 q2 q3 q4 p5)), .second, .val (.int (j0_415_s0 q0 q1 q2 q3 q4 p5))] [(.int (lcmpW (j0_9_l12 q0 q1 q2 q3 q4 p5) (1073741824 : Int64)))])) _
        suffices kt439 : Steps p.tables e below (T6.setTop (mkF m 462 #[.val (.long q0), .second, .val (.long q1), .second, .val (.long q2), .second, .val (.long q3), .second, .val (.long q4), .second, .val (.int p5), .val (.int (v0_4 q0 q1 q2 q3 q4 p5)), .val (.long (j0_9_l12 q0 q1 q2 q3 q4 p5)), .second, .val (.long (j0_127_l14 q0 q1 q2 q3 q4 p5)), .second, .val (.long (v0_122 q0 q1 q2 q3 q4 p5)), .second, .val (.double (v0_154 q0 q1 q2 q3 q4 p5)), .second, .val (.double (v0_172 q0 q1 q2 q3 q4 p5)), .second, .val (.int (j0_439_l22 q0 q1 q2 q3 q4 p5))] [])) (T6.setFrames fs) by
          by_cases hc439 : ifCond.holds .gt (lcmpW (j0_9_l12 q0 q1 q2 q3 q4 p5) (1073741824 : Int64)) = true
          · rw [show (j0_439_l22 q0 q1 q2 q3 q4 p5) = (j0_415_s0 q0 q1 q2 q3 q4 p5) from if_pos hc439] at kt439
            refine XS.ifYes X6.here hx rfl (pc0 := 439) (pc' := 462) rfl (hb hby at_439) rfl hc439 (by decide) (by decide) ?_
            exact kt439
          · rw [show (j0_439_l22 q0 q1 q2 q3 q4 p5) = (j0_444_s0 q0 q1 q2 q3 q4 p5) from if_neg hc439] at kt439
            refine XS.ifNo X6.here hx rfl (hb hby at_439) rfl (eq_false_of_ne_true hc439) ?_
            show Steps p.tables e below (T6.setTop (mkF m 442 #[.val (.long q0), .second, .val (.long q1), .second, .val (.long q2), .second, .val (.long q3), .second, .val (.long q4), .second, .val (.int p5), .val (.int (v0_4 q0 q1 q2 q3 q4 p5)), .val (.long (j0_9_l12 q0 q1 q2 q3 q4 p5)), .second, .val (.long (j0_127_l14 q0 q1 q2 q3 q4 p5)), .second, .val (.long (v0_122 q0 q1 q2 q3 q4 p5)), .second, .val (.double (v0_154 q0 q1 q2 q3 q4 p5)), .second, .val (.double (v0_172 q0 q1 q2 q3 q4 p5)), .second, .val (.int (j0_415_s0 q0 q1 q2 q3 q4 p5))] [])) _
            refine XS.iload X6.here hx rfl (hb hby at_442) rfl ?_
            show Steps p.tables e below (T6.setTop (mkF m 444 #[.val (.long q0), .second, .val (.long q1), .second, .val (.long q2), .second, .val (.long q3), .second, .val (.long q4), .second, .val (.int p5), .val (.int (v0_4 q0 q1 q2 q3 q4 p5)), .val (.long (j0_9_l12 q0 q1 q2 q3 q4 p5)), .second, .val (.long (j0_127_l14 q0 q1 q2 q3 q4 p5)), .second, .val (.long (v0_122 q0 q1 q2 q3 q4 p5)), .second, .val (.double (v0_154 q0 q1 q2 q3 q4 p5)), .second, .val (.double (v0_172 q0 q1 q2 q3 q4 p5)), .second, .val (.int (j0_415_s0 q0 q1 q2 q3 q4 p5))] [(.int (j0_415_s0 q0 q1 q2 q3 q4 p5))])) _
            suffices kt444 : Steps p.tables e below (T6.setTop (mkF m 460 #[.val (.long q0), .second, .val (.long q1), .second, .val (.long q2), .second, .val (.long q3), .second, .val (.long q4), .second, .val (.int p5), .val (.int (v0_4 q0 q1 q2 q3 q4 p5)), .val (.long (j0_9_l12 q0 q1 q2 q3 q4 p5)), .second, .val (.long (j0_127_l14 q0 q1 q2 q3 q4 p5)), .second, .val (.long (v0_122 q0 q1 q2 q3 q4 p5)), .second, .val (.double (v0_154 q0 q1 q2 q3 q4 p5)), .second, .val (.double (v0_172 q0 q1 q2 q3 q4 p5)), .second, .val (.int (j0_415_s0 q0 q1 q2 q3 q4 p5))] [(.int (j0_444_s0 q0 q1 q2 q3 q4 p5))])) (T6.setFrames fs) by
              by_cases hc444 : ifCond.holds .eq (j0_415_s0 q0 q1 q2 q3 q4 p5) = true
              · rw [show (j0_444_s0 q0 q1 q2 q3 q4 p5) = (0 : Int32) from if_pos hc444] at kt444
                refine XS.ifYes X6.here hx rfl (pc0 := 444) (pc' := 459) rfl (hb hby at_444) rfl hc444 (by decide) (by decide) ?_
                show Steps p.tables e below (T6.setTop (mkF m 459 #[.val (.long q0), .second, .val (.long q1), .second, .val (.long q2), .second, .val (.long q3), .second, .val (.long q4), .second, .val (.int p5), .val (.int (v0_4 q0 q1 q2 q3 q4 p5)), .val (.long (j0_9_l12 q0 q1 q2 q3 q4 p5)), .second, .val (.long (j0_127_l14 q0 q1 q2 q3 q4 p5)), .second, .val (.long (v0_122 q0 q1 q2 q3 q4 p5)), .second, .val (.double (v0_154 q0 q1 q2 q3 q4 p5)), .second, .val (.double (v0_172 q0 q1 q2 q3 q4 p5)), .second, .val (.int (j0_415_s0 q0 q1 q2 q3 q4 p5))] [])) _
                refine XS.iconst X6.here hx rfl (hb hby at_459) ?_
                exact kt444
              · rw [show (j0_444_s0 q0 q1 q2 q3 q4 p5) = (j0_452_s0 q0 q1 q2 q3 q4 p5) from if_neg hc444] at kt444
                refine XS.ifNo X6.here hx rfl (hb hby at_444) rfl (eq_false_of_ne_true hc444) ?_
                show Steps p.tables e below (T6.setTop (mkF m 447 #[.val (.long q0), .second, .val (.long q1), .second, .val (.long q2), .second, .val (.long q3), .second, .val (.long q4), .second, .val (.int p5), .val (.int (v0_4 q0 q1 q2 q3 q4 p5)), .val (.long (j0_9_l12 q0 q1 q2 q3 q4 p5)), .second, .val (.long (j0_127_l14 q0 q1 q2 q3 q4 p5)), .second, .val (.long (v0_122 q0 q1 q2 q3 q4 p5)), .second, .val (.double (v0_154 q0 q1 q2 q3 q4 p5)), .second, .val (.double (v0_172 q0 q1 q2 q3 q4 p5)), .second, .val (.int (j0_415_s0 q0 q1 q2 q3 q4 p5))] [])) _
                refine XS.dload X6.here hx rfl (hb hby at_447) rfl ?_
                show Steps p.tables e below (T6.setTop (mkF m 449 #[.val (.long q0), .second, .val (.long q1), .second, .val (.long q2), .second, .val (.long q3), .second, .val (.long q4), .second, .val (.int p5), .val (.int (v0_4 q0 q1 q2 q3 q4 p5)), .val (.long (j0_9_l12 q0 q1 q2 q3 q4 p5)), .second, .val (.long (j0_127_l14 q0 q1 q2 q3 q4 p5)), .second, .val (.long (v0_122 q0 q1 q2 q3 q4 p5)), .second, .val (.double (v0_154 q0 q1 q2 q3 q4 p5)), .second, .val (.double (v0_172 q0 q1 q2 q3 q4 p5)), .second, .val (.int (j0_415_s0 q0 q1 q2 q3 q4 p5))] [(.double (v0_172 q0 q1 q2 q3 q4 p5))])) _
                refine XS.dload X6.here hx rfl (hb hby at_449) rfl ?_
                show Steps p.tables e below (T6.setTop (mkF m 451 #[.val (.long q0), .second, .val (.long q1), .second, .val (.long q2), .second, .val (.long q3), .second, .val (.long q4), .second, .val (.int p5), .val (.int (v0_4 q0 q1 q2 q3 q4 p5)), .val (.long (j0_9_l12 q0 q1 q2 q3 q4 p5)), .second, .val (.long (j0_127_l14 q0 q1 q2 q3 q4 p5)), .second, .val (.long (v0_122 q0 q1 q2 q3 q4 p5)), .second, .val (.double (v0_154 q0 q1 q2 q3 q4 p5)), .second, .val (.double (v0_172 q0 q1 q2 q3 q4 p5)), .second, .val (.int (j0_415_s0 q0 q1 q2 q3 q4 p5))] [(.double (v0_154 q0 q1 q2 q3 q4 p5)), (.double (v0_172 q0 q1 q2 q3 q4 p5))])) _
                refine XS.dcmpS X6.here hx rfl (hb hby at_451) rfl rfl ?_
                show Steps p.tables e below (T6.setTop (mkF m 452 #[.val (.long q0), .second, .val (.long q1), .second, .val (.long q2), .second, .val (.long q3), .second, .val (.long q4), .second, .val (.int p5), .val (.int (v0_4 q0 q1 q2 q3 q4 p5)), .val (.long (j0_9_l12 q0 q1 q2 q3 q4 p5)), .second, .val (.long (j0_127_l14 q0 q1 q2 q3 q4 p5)), .second, .val (.long (v0_122 q0 q1 q2 q3 q4 p5)), .second, .val (.double (v0_154 q0 q1 q2 q3 q4 p5)), .second, .val (.double (v0_172 q0 q1 q2 q3 q4 p5)), .second, .val (.int (j0_415_s0 q0 q1 q2 q3 q4 p5))] [(.int (cmpValue (FP.dcmp (v0_172 q0 q1 q2 q3 q4 p5) (v0_154 q0 q1 q2 q3 q4 p5)) .l))])) _
                suffices kt452 : Steps p.tables e below (T6.setTop (mkF m 460 #[.val (.long q0), .second, .val (.long q1), .second, .val (.long q2), .second, .val (.long q3), .second, .val (.long q4), .second, .val (.int p5), .val (.int (v0_4 q0 q1 q2 q3 q4 p5)), .val (.long (j0_9_l12 q0 q1 q2 q3 q4 p5)), .second, .val (.long (j0_127_l14 q0 q1 q2 q3 q4 p5)), .second, .val (.long (v0_122 q0 q1 q2 q3 q4 p5)), .second, .val (.double (v0_154 q0 q1 q2 q3 q4 p5)), .second, .val (.double (v0_172 q0 q1 q2 q3 q4 p5)), .second, .val (.int (j0_415_s0 q0 q1 q2 q3 q4 p5))] [(.int (j0_452_s0 q0 q1 q2 q3 q4 p5))])) (T6.setFrames fs) by
                  by_cases hc452 : ifCond.holds .le (cmpValue (FP.dcmp (v0_172 q0 q1 q2 q3 q4 p5) (v0_154 q0 q1 q2 q3 q4 p5)) .l) = true
                  · rw [show (j0_452_s0 q0 q1 q2 q3 q4 p5) = (0 : Int32) from if_pos hc452] at kt452
                    refine XS.ifYes X6.here hx rfl (pc0 := 452) (pc' := 459) rfl (hb hby at_452) rfl hc452 (by decide) (by decide) ?_
                    show Steps p.tables e below (T6.setTop (mkF m 459 #[.val (.long q0), .second, .val (.long q1), .second, .val (.long q2), .second, .val (.long q3), .second, .val (.long q4), .second, .val (.int p5), .val (.int (v0_4 q0 q1 q2 q3 q4 p5)), .val (.long (j0_9_l12 q0 q1 q2 q3 q4 p5)), .second, .val (.long (j0_127_l14 q0 q1 q2 q3 q4 p5)), .second, .val (.long (v0_122 q0 q1 q2 q3 q4 p5)), .second, .val (.double (v0_154 q0 q1 q2 q3 q4 p5)), .second, .val (.double (v0_172 q0 q1 q2 q3 q4 p5)), .second, .val (.int (j0_415_s0 q0 q1 q2 q3 q4 p5))] [])) _
                    refine XS.iconst X6.here hx rfl (hb hby at_459) ?_
                    exact kt452
                  · rw [show (j0_452_s0 q0 q1 q2 q3 q4 p5) = (1 : Int32) from if_neg hc452] at kt452
                    refine XS.ifNo X6.here hx rfl (hb hby at_452) rfl (eq_false_of_ne_true hc452) ?_
                    show Steps p.tables e below (T6.setTop (mkF m 455 #[.val (.long q0), .second, .val (.long q1), .second, .val (.long q2), .second, .val (.long q3), .second, .val (.long q4), .second, .val (.int p5), .val (.int (v0_4 q0 q1 q2 q3 q4 p5)), .val (.long (j0_9_l12 q0 q1 q2 q3 q4 p5)), .second, .val (.long (j0_127_l14 q0 q1 q2 q3 q4 p5)), .second, .val (.long (v0_122 q0 q1 q2 q3 q4 p5)), .second, .val (.double (v0_154 q0 q1 q2 q3 q4 p5)), .second, .val (.double (v0_172 q0 q1 q2 q3 q4 p5)), .second, .val (.int (j0_415_s0 q0 q1 q2 q3 q4 p5))] [])) _
                    refine XS.iconst X6.here hx rfl (hb hby at_455) ?_
                    show Steps p.tables e below (T6.setTop (mkF m 456 #[.val (.long q0), .second, .val (.long q1), .second, .val (.long q2), .second, .val (.long q3), .second, .val (.long q4), .second, .val (.int p5), .val (.int (v0_4 q0 q1 q2 q3 q4 p5)), .val (.long (j0_9_l12 q0 q1 q2 q3 q4 p5)), .second, .val (.long (j0_127_l14 q0 q1 q2 q3 q4 p5)), .second, .val (.long (v0_122 q0 q1 q2 q3 q4 p5)), .second, .val (.double (v0_154 q0 q1 q2 q3 q4 p5)), .second, .val (.double (v0_172 q0 q1 q2 q3 q4 p5)), .second, .val (.int (j0_415_s0 q0 q1 q2 q3 q4 p5))] [(.int (1 : Int32))])) _
                    refine XS.goto X6.here hx rfl (pc0 := 456) (pc' := 460) rfl (hb hby at_456) (by decide) (by decide) ?_
                    exact kt452
                exact kt444
            show Steps p.tables e below (T6.setTop (mkF m 460 #[.val (.long q0), .second, .val (.long q1), .second, .val (.long q2), .second, .val (.long q3), .second, .val (.long q4), .second, .val (.int p5), .val (.int (v0_4 q0 q1 q2 q3 q4 p5)), .val (.long (j0_9_l12 q0 q1 q2 q3 q4 p5)), .second, .val (.long (j0_127_l14 q0 q1 q2 q3 q4 p5)), .second, .val (.long (v0_122 q0 q1 q2 q3 q4 p5)), .second, .val (.double (v0_154 q0 q1 q2 q3 q4 p5)), .second, .val (.double (v0_172 q0 q1 q2 q3 q4 p5)), .second, .val (.int (j0_415_s0 q0 q1 q2 q3 q4 p5))] [(.int (j0_444_s0 q0 q1 q2 q3 q4 p5))])) _
            refine XS.istore X6.here hx rfl (hb hby at_460) rfl (l' := #[.val (.long q0), .second, .val (.long q1), .second, .val (.long q2), .second, .val (.long q3), .second, .val (.long q4), .second, .val (.int p5), .val (.int (v0_4 q0 q1 q2 q3 q4 p5)), .val (.long (j0_9_l12 q0 q1 q2 q3 q4 p5)), .second, .val (.long (j0_127_l14 q0 q1 q2 q3 q4 p5)), .second, .val (.long (v0_122 q0 q1 q2 q3 q4 p5)), .second, .val (.double (v0_154 q0 q1 q2 q3 q4 p5)), .second, .val (.double (v0_172 q0 q1 q2 q3 q4 p5)), .second, .val (.int (j0_444_s0 q0 q1 q2 q3 q4 p5))]) rfl ?_
            exact kt439
        exact kt410
    show Steps p.tables e below (T6.setTop (mkF m 462 #[.val (.long q0), .second, .val (.long q1), .second, .val (.long q2), .second, .val (.long q3), .second, .val (.long q4), .second, .val (.int p5), .val (.int (v0_4 q0 q1 q2 q3 q4 p5)), .val (.long (j0_9_l12 q0 q1 q2 q3 q4 p5)), .second, .val (.long (j0_127_l14 q0 q1 q2 q3 q4 p5)), .second, .val (.long (v0_122 q0 q1 q2 q3 q4 p5)), .second, .val (.double (v0_154 q0 q1 q2 q3 q4 p5)), .second, .val (.double (v0_172 q0 q1 q2 q3 q4 p5)), .second, .val (.int (j0_410_l22 q0 q1 q2 q3 q4 p5))] [])) _
    refine XS.iload X6.here hx rfl (hb hby at_462) rfl ?_
    show Steps p.tables e below (T6.setTop (mkF m 464 #[.val (.long q0), .second, .val (.long q1), .second, .val (.long q2), .second, .val (.long q3), .second, .val (.long q4), .second, .val (.int p5), .val (.int (v0_4 q0 q1 q2 q3 q4 p5)), .val (.long (j0_9_l12 q0 q1 q2 q3 q4 p5)), .second, .val (.long (j0_127_l14 q0 q1 q2 q3 q4 p5)), .second, .val (.long (v0_122 q0 q1 q2 q3 q4 p5)), .second, .val (.double (v0_154 q0 q1 q2 q3 q4 p5)), .second, .val (.double (v0_172 q0 q1 q2 q3 q4 p5)), .second, .val (.int (j0_410_l22 q0 q1 q2 q3 q4 p5))] [(.int (v0_4 q0 q1 q2 q3 q4 p5))])) _
    refine XS.iconst X6.here hx rfl (hb hby at_464) ?_
    show Steps p.tables e below (T6.setTop (mkF m 465 #[.val (.long q0), .second, .val (.long q1), .second, .val (.long q2), .second, .val (.long q3), .second, .val (.long q4), .second, .val (.int p5), .val (.int (v0_4 q0 q1 q2 q3 q4 p5)), .val (.long (j0_9_l12 q0 q1 q2 q3 q4 p5)), .second, .val (.long (j0_127_l14 q0 q1 q2 q3 q4 p5)), .second, .val (.long (v0_122 q0 q1 q2 q3 q4 p5)), .second, .val (.double (v0_154 q0 q1 q2 q3 q4 p5)), .second, .val (.double (v0_172 q0 q1 q2 q3 q4 p5)), .second, .val (.int (j0_410_l22 q0 q1 q2 q3 q4 p5))] [(.int (1 : Int32)), (.int (v0_4 q0 q1 q2 q3 q4 p5))])) _
    suffices kt465 : Steps p.tables e below (T6.setTop (mkF m 524 #[.val (.long q0), .second, .val (.long q1), .second, .val (.long q2), .second, .val (.long q3), .second, .val (.long q4), .second, .val (.int p5), .val (.int (v0_4 q0 q1 q2 q3 q4 p5)), .val (.long (j0_9_l12 q0 q1 q2 q3 q4 p5)), .second, .val (.long (j0_127_l14 q0 q1 q2 q3 q4 p5)), .second, .val (.long (v0_122 q0 q1 q2 q3 q4 p5)), .second, .val (.double (v0_154 q0 q1 q2 q3 q4 p5)), .second, .val (.double (v0_172 q0 q1 q2 q3 q4 p5)), .second, .val (.int (j0_465_l22 q0 q1 q2 q3 q4 p5))] [])) (T6.setFrames fs) by
      by_cases hc465 : if_icmp.holds .ne (v0_4 q0 q1 q2 q3 q4 p5) (1 : Int32) = true
      · rw [show (j0_465_l22 q0 q1 q2 q3 q4 p5) = (j0_410_l22 q0 q1 q2 q3 q4 p5) from if_pos hc465] at kt465
        refine XS.icmpYes X6.here hx rfl (pc0 := 465) (pc' := 524) rfl (hb hby at_465) rfl hc465 (by decide) (by decide) ?_
        exact kt465
      · rw [show (j0_465_l22 q0 q1 q2 q3 q4 p5) = (j0_498_s0 q0 q1 q2 q3 q4 p5) from if_neg hc465] at kt465
        refine XS.icmpNo X6.here hx rfl (hb hby at_465) rfl (eq_false_of_ne_true hc465) ?_
        show Steps p.tables e below (T6.setTop (mkF m 468 #[.val (.long q0), .second, .val (.long q1), .second, .val (.long q2), .second, .val (.long q3), .second, .val (.long q4), .second, .val (.int p5), .val (.int (v0_4 q0 q1 q2 q3 q4 p5)), .val (.long (j0_9_l12 q0 q1 q2 q3 q4 p5)), .second, .val (.long (j0_127_l14 q0 q1 q2 q3 q4 p5)), .second, .val (.long (v0_122 q0 q1 q2 q3 q4 p5)), .second, .val (.double (v0_154 q0 q1 q2 q3 q4 p5)), .second, .val (.double (v0_172 q0 q1 q2 q3 q4 p5)), .second, .val (.int (j0_410_l22 q0 q1 q2 q3 q4 p5))] [])) _
        refine XS.iload X6.here hx rfl (hb hby at_468) rfl ?_
        show Steps p.tables e below (T6.setTop (mkF m 470 #[.val (.long q0), .second, .val (.long q1), .second, .val (.long q2), .second, .val (.long q3), .second, .val (.long q4), .second, .val (.int p5), .val (.int (v0_4 q0 q1 q2 q3 q4 p5)), .val (.long (j0_9_l12 q0 q1 q2 q3 q4 p5)), .second, .val (.long (j0_127_l14 q0 q1 q2 q3 q4 p5)), .second, .val (.long (v0_122 q0 q1 q2 q3 q4 p5)), .second, .val (.double (v0_154 q0 q1 q2 q3 q4 p5)), .second, .val (.double (v0_172 q0 q1 q2 q3 q4 p5)), .second, .val (.int (j0_410_l22 q0 q1 q2 q3 q4 p5))] [(.int (j0_410_l22 q0 q1 q2 q3 q4 p5))])) _
        suffices kt470 : Steps p.tables e below (T6.setTop (mkF m 494 #[.val (.long q0), .second, .val (.long q1), .second, .val (.long q2), .second, .val (.long q3), .second, .val (.long q4), .second, .val (.int p5), .val (.int (v0_4 q0 q1 q2 q3 q4 p5)), .val (.long (j0_9_l12 q0 q1 q2 q3 q4 p5)), .second, .val (.long (j0_127_l14 q0 q1 q2 q3 q4 p5)), .second, .val (.long (v0_122 q0 q1 q2 q3 q4 p5)), .second, .val (.double (v0_154 q0 q1 q2 q3 q4 p5)), .second, .val (.double (v0_172 q0 q1 q2 q3 q4 p5)), .second, .val (.int (j0_410_l22 q0 q1 q2 q3 q4 p5))] [(.int (j0_470_s0 q0 q1 q2 q3 q4 p5))])) (T6.setFrames fs) by
          by_cases hc470 : ifCond.holds .eq (j0_410_l22 q0 q1 q2 q3 q4 p5) = true
          · rw [show (j0_470_s0 q0 q1 q2 q3 q4 p5) = (0 : Int32) from if_pos hc470] at kt470
            refine XS.ifYes X6.here hx rfl (pc0 := 470) (pc' := 493) rfl (hb hby at_470) rfl hc470 (by decide) (by decide) ?_
            show Steps p.tables e below (T6.setTop (mkF m 493 #[.val (.long q0), .second, .val (.long q1), .second, .val (.long q2), .second, .val (.long q3), .second, .val (.long q4), .second, .val (.int p5), .val (.int (v0_4 q0 q1 q2 q3 q4 p5)), .val (.long (j0_9_l12 q0 q1 q2 q3 q4 p5)), .second, .val (.long (j0_127_l14 q0 q1 q2 q3 q4 p5)), .second, .val (.long (v0_122 q0 q1 q2 q3 q4 p5)), .second, .val (.double (v0_154 q0 q1 q2 q3 q4 p5)), .second, .val (.double (v0_172 q0 q1 q2 q3 q4 p5)), .second, .val (.int (j0_410_l22 q0 q1 q2 q3 q4 p5))] [])) _
            refine XS.iconst X6.here hx rfl (hb hby at_493) ?_
            exact kt470
          · rw [show (j0_470_s0 q0 q1 q2 q3 q4 p5) = (j0_486_s0 q0 q1 q2 q3 q4 p5) from if_neg hc470] at kt470
            refine XS.ifNo X6.here hx rfl (hb hby at_470) rfl (eq_false_of_ne_true hc470) ?_
            show Steps p.tables e below (T6.setTop (mkF m 473 #[.val (.long q0), .second, .val (.long q1), .second, .val (.long q2), .second, .val (.long q3), .second, .val (.long q4), .second, .val (.int p5), .val (.int (v0_4 q0 q1 q2 q3 q4 p5)), .val (.long (j0_9_l12 q0 q1 q2 q3 q4 p5)), .second, .val (.long (j0_127_l14 q0 q1 q2 q3 q4 p5)), .second, .val (.long (v0_122 q0 q1 q2 q3 q4 p5)), .second, .val (.double (v0_154 q0 q1 q2 q3 q4 p5)), .second, .val (.double (v0_172 q0 q1 q2 q3 q4 p5)), .second, .val (.int (j0_410_l22 q0 q1 q2 q3 q4 p5))] [])) _
            refine XS.dload X6.here hx rfl (hb hby at_473) rfl ?_
            show Steps p.tables e below (T6.setTop (mkF m 475 #[.val (.long q0), .second, .val (.long q1), .second, .val (.long q2), .second, .val (.long q3), .second, .val (.long q4), .second, .val (.int p5), .val (.int (v0_4 q0 q1 q2 q3 q4 p5)), .val (.long (j0_9_l12 q0 q1 q2 q3 q4 p5)), .second, .val (.long (j0_127_l14 q0 q1 q2 q3 q4 p5)), .second, .val (.long (v0_122 q0 q1 q2 q3 q4 p5)), .second, .val (.double (v0_154 q0 q1 q2 q3 q4 p5)), .second, .val (.double (v0_172 q0 q1 q2 q3 q4 p5)), .second, .val (.int (j0_410_l22 q0 q1 q2 q3 q4 p5))] [(.double (v0_154 q0 q1 q2 q3 q4 p5))])) _
            refine XS.lload X6.here hx rfl (hb hby at_475) rfl ?_
            show Steps p.tables e below (T6.setTop (mkF m 477 #[.val (.long q0), .second, .val (.long q1), .second, .val (.long q2), .second, .val (.long q3), .second, .val (.long q4), .second, .val (.int p5), .val (.int (v0_4 q0 q1 q2 q3 q4 p5)), .val (.long (j0_9_l12 q0 q1 q2 q3 q4 p5)), .second, .val (.long (j0_127_l14 q0 q1 q2 q3 q4 p5)), .second, .val (.long (v0_122 q0 q1 q2 q3 q4 p5)), .second, .val (.double (v0_154 q0 q1 q2 q3 q4 p5)), .second, .val (.double (v0_172 q0 q1 q2 q3 q4 p5)), .second, .val (.int (j0_410_l22 q0 q1 q2 q3 q4 p5))] [(.long (j0_9_l12 q0 q1 q2 q3 q4 p5)), (.double (v0_154 q0 q1 q2 q3 q4 p5))])) _
            refine XS.lload X6.here hx rfl (hb hby at_477) rfl ?_
            show Steps p.tables e below (T6.setTop (mkF m 479 #[.val (.long q0), .second, .val (.long q1), .second, .val (.long q2), .second, .val (.long q3), .second, .val (.long q4), .second, .val (.int p5), .val (.int (v0_4 q0 q1 q2 q3 q4 p5)), .val (.long (j0_9_l12 q0 q1 q2 q3 q4 p5)), .second, .val (.long (j0_127_l14 q0 q1 q2 q3 q4 p5)), .second, .val (.long (v0_122 q0 q1 q2 q3 q4 p5)), .second, .val (.double (v0_154 q0 q1 q2 q3 q4 p5)), .second, .val (.double (v0_172 q0 q1 q2 q3 q4 p5)), .second, .val (.int (j0_410_l22 q0 q1 q2 q3 q4 p5))] [(.long (j0_127_l14 q0 q1 q2 q3 q4 p5)), (.long (j0_9_l12 q0 q1 q2 q3 q4 p5)), (.double (v0_154 q0 q1 q2 q3 q4 p5))])) _
            refine XS.lsub X6.here hx rfl (hb hby at_479) rfl ?_
            show Steps p.tables e below (T6.setTop (mkF m 480 #[.val (.long q0), .second, .val (.long q1), .second, .val (.long q2), .second, .val (.long q3), .second, .val (.long q4), .second, .val (.int p5), .val (.int (v0_4 q0 q1 q2 q3 q4 p5)), .val (.long (j0_9_l12 q0 q1 q2 q3 q4 p5)), .second, .val (.long (j0_127_l14 q0 q1 q2 q3 q4 p5)), .second, .val (.long (v0_122 q0 q1 q2 q3 q4 p5)), .second, .val (.double (v0_154 q0 q1 q2 q3 q4 p5)), .second, .val (.double (v0_172 q0 q1 q2 q3 q4 p5)), .second, .val (.int (j0_410_l22 q0 q1 q2 q3 q4 p5))] [(.long ((j0_9_l12 q0 q1 q2 q3 q4 p5) - (j0_127_l14 q0 q1 q2 q3 q4 p5))), (.double (v0_154 q0 q1 q2 q3 q4 p5))])) _
            refine XS.l2dS X6.here hx rfl (hb hby at_480) rfl rfl ?_
            show Steps p.tables e below (T6.setTop (mkF m 481 #[.val (.long q0), .second, .val (.long q1), .second, .val (.long q2), .second, .val (.long q3), .second, .val (.long q4), .second, .val (.int p5), .val (.int (v0_4 q0 q1 q2 q3 q4 p5)), .val (.long (j0_9_l12 q0 q1 q2 q3 q4 p5)), .second, .val (.long (j0_127_l14 q0 q1 q2 q3 q4 p5)), .second, .val (.long (v0_122 q0 q1 q2 q3 q4 p5)), .second, .val (.double (v0_154 q0 q1 q2 q3 q4 p5)), .second, .val (.double (v0_172 q0 q1 q2 q3 q4 p5)), .second, .val (.int (j0_410_l22 q0 q1 q2 q3 q4 p5))] [(.double (FP.l2d ((j0_9_l12 q0 q1 q2 q3 q4 p5) - (j0_127_l14 q0 q1 q2 q3 q4 p5)))), (.double (v0_154 q0 q1 q2 q3 q4 p5))])) _
            refine XS.lload X6.here hx rfl (hb hby at_481) rfl ?_
            show Steps p.tables e below (T6.setTop (mkF m 483 #[.val (.long q0), .second, .val (.long q1), .second, .val (.long q2), .second, .val (.long q3), .second, .val (.long q4), .second, .val (.int p5), .val (.int (v0_4 q0 q1 q2 q3 q4 p5)), .val (.long (j0_9_l12 q0 q1 q2 q3 q4 p5)), .second, .val (.long (j0_127_l14 q0 q1 q2 q3 q4 p5)), .second, .val (.long (v0_122 q0 q1 q2 q3 q4 p5)), .second, .val (.double (v0_154 q0 q1 q2 q3 q4 p5)), .second, .val (.double (v0_172 q0 q1 q2 q3 q4 p5)), .second, .val (.int (j0_410_l22 q0 q1 q2 q3 q4 p5))] [(.long (j0_9_l12 q0 q1 q2 q3 q4 p5)), (.double (FP.l2d ((j0_9_l12 q0 q1 q2 q3 q4 p5) - (j0_127_l14 q0 q1 q2 q3 q4 p5)))), (.double (v0_154 q0 q1 q2 q3 q4 p5))])) _
            refine XS.l2dS X6.here hx rfl (hb hby at_483) rfl rfl ?_
            show Steps p.tables e below (T6.setTop (mkF m 484 #[.val (.long q0), .second, .val (.long q1), .second, .val (.long q2), .second, .val (.long q3), .second, .val (.long q4), .second, .val (.int p5), .val (.int (v0_4 q0 q1 q2 q3 q4 p5)), .val (.long (j0_9_l12 q0 q1 q2 q3 q4 p5)), .second, .val (.long (j0_127_l14 q0 q1 q2 q3 q4 p5)), .second, .val (.long (v0_122 q0 q1 q2 q3 q4 p5)), .second, .val (.double (v0_154 q0 q1 q2 q3 q4 p5)), .second, .val (.double (v0_172 q0 q1 q2 q3 q4 p5)), .second, .val (.int (j0_410_l22 q0 q1 q2 q3 q4 p5))] [(.double (FP.l2d (j0_9_l12 q0 q1 q2 q3 q4 p5))), (.double (FP.l2d ((j0_9_l12 q0 q1 q2 q3 q4 p5) - (j0_127_l14 q0 q1 q2 q3 q4 p5)))), (.double (v0_154 q0 q1 q2 q3 q4 p5))])) _
            refine XS.ddivS X6.here hx rfl (hb hby at_484) rfl hn484 rfl ?_
            show Steps p.tables e below (T6.setTop (mkF m 485 #[.val (.long q0), .second, .val (.long q1), .second, .val (.long q2), .second, .val (.long q3), .second, .val (.long q4), .second, .val (.int p5), .val (.int (v0_4 q0 q1 q2 q3 q4 p5)), .val (.long (j0_9_l12 q0 q1 q2 q3 q4 p5)), .second, .val (.long (j0_127_l14 q0 q1 q2 q3 q4 p5)), .second, .val (.long (v0_122 q0 q1 q2 q3 q4 p5)), .second, .val (.double (v0_154 q0 q1 q2 q3 q4 p5)), .second, .val (.double (v0_172 q0 q1 q2 q3 q4 p5)), .second, .val (.int (j0_410_l22 q0 q1 q2 q3 q4 p5))] [(.double (FP.ddiv (FP.l2d ((j0_9_l12 q0 q1 q2 q3 q4 p5) - (j0_127_l14 q0 q1 q2 q3 q4 p5))) (FP.l2d (j0_9_l12 q0 q1 q2 q3 q4 p5)))), (.double (v0_154 q0 q1 q2 q3 q4 p5))])) _
            refine XS.dcmpS X6.here hx rfl (hb hby at_485) rfl rfl ?_
            show Steps p.tables e below (T6.setTop (mkF m 486 #[.val (.long q0), .second, .val (.long q1), .second, .val (.long q2), .second, .val (.long q3), .second, .val (.long q4), .second, .val (.int p5), .val (.int (v0_4 q0 q1 q2 q3 q4 p5)), .val (.long (j0_9_l12 q0 q1 q2 q3 q4 p5)), .second, .val (.long (j0_127_l14 q0 q1 q2 q3 q4 p5)), .second, .val (.long (v0_122 q0 q1 q2 q3 q4 p5)), .second, .val (.double (v0_154 q0 q1 q2 q3 q4 p5)), .second, .val (.double (v0_172 q0 q1 q2 q3 q4 p5)), .second, .val (.int (j0_410_l22 q0 q1 q2 q3 q4 p5))] [(.int (cmpValue (FP.dcmp (v0_154 q0 q1 q2 q3 q4 p5) (FP.ddiv (FP.l2d ((j0_9_l12 q0 q1 q2 q3 q4 p5) - (j0_127_l14 q0 q1 q2 q3 q4 p5))) (FP.l2d (j0_9_l12 q0 q1 q2 q3 q4 p5)))) .l))])) _
            suffices kt486 : Steps p.tables e below (T6.setTop (mkF m 494 #[.val (.long q0), .second, .val (.long q1), .second, .val (.long q2), .second, .val (.long q3), .second, .val (.long q4), .second, .val (.int p5), .val (.int (v0_4 q0 q1 q2 q3 q4 p5)), .val (.long (j0_9_l12 q0 q1 q2 q3 q4 p5)), .second, .val (.long (j0_127_l14 q0 q1 q2 q3 q4 p5)), .second, .val (.long (v0_122 q0 q1 q2 q3 q4 p5)), .second, .val (.double (v0_154 q0 q1 q2 q3 q4 p5)), .second, .val (.double (v0_172 q0 q1 q2 q3 q4 p5)), .second, .val (.int (j0_410_l22 q0 q1 q2 q3 q4 p5))] [(.int (j0_486_s0 q0 q1 q2 q3 q4 p5))])) (T6.setFrames fs) by
              by_cases hc486 : ifCond.holds .ne (cmpValue (FP.dcmp (v0_154 q0 q1 q2 q3 q4 p5) (FP.ddiv (FP.l2d ((j0_9_l12 q0 q1 q2 q3 q4 p5) - (j0_127_l14 q0 q1 q2 q3 q4 p5))) (FP.l2d (j0_9_l12 q0 q1 q2 q3 q4 p5)))) .l) = true
              · rw [show (j0_486_s0 q0 q1 q2 q3 q4 p5) = (0 : Int32) from if_pos hc486] at kt486
                refine XS.ifYes X6.here hx rfl (pc0 := 486) (pc' := 493) rfl (hb hby at_486) rfl hc486 (by decide) (by decide) ?_
                show Steps p.tables e below (T6.setTop (mkF m 493 #[.val (.long q0), .second, .val (.long q1), .second, .val (.long q2), .second, .val (.long q3), .second, .val (.long q4), .second, .val (.int p5), .val (.int (v0_4 q0 q1 q2 q3 q4 p5)), .val (.long (j0_9_l12 q0 q1 q2 q3 q4 p5)), .second, .val (.long (j0_127_l14 q0 q1 q2 q3 q4 p5)), .second, .val (.long (v0_122 q0 q1 q2 q3 q4 p5)), .second, .val (.double (v0_154 q0 q1 q2 q3 q4 p5)), .second, .val (.double (v0_172 q0 q1 q2 q3 q4 p5)), .second, .val (.int (j0_410_l22 q0 q1 q2 q3 q4 p5))] [])) _
                refine XS.iconst X6.here hx rfl (hb hby at_493) ?_
                exact kt486
              · rw [show (j0_486_s0 q0 q1 q2 q3 q4 p5) = (1 : Int32) from if_neg hc486] at kt486
                refine XS.ifNo X6.here hx rfl (hb hby at_486) rfl (eq_false_of_ne_true hc486) ?_
                show Steps p.tables e below (T6.setTop (mkF m 489 #[.val (.long q0), .second, .val (.long q1), .second, .val (.long q2), .second, .val (.long q3), .second, .val (.long q4), .second, .val (.int p5), .val (.int (v0_4 q0 q1 q2 q3 q4 p5)), .val (.long (j0_9_l12 q0 q1 q2 q3 q4 p5)), .second, .val (.long (j0_127_l14 q0 q1 q2 q3 q4 p5)), .second, .val (.long (v0_122 q0 q1 q2 q3 q4 p5)), .second, .val (.double (v0_154 q0 q1 q2 q3 q4 p5)), .second, .val (.double (v0_172 q0 q1 q2 q3 q4 p5)), .second, .val (.int (j0_410_l22 q0 q1 q2 q3 q4 p5))] [])) _
                refine XS.iconst X6.here hx rfl (hb hby at_489) ?_
                show Steps p.tables e below (T6.setTop (mkF m 490 #[.val (.long q0), .second, .val (.long q1), .second, .val (.long q2), .second, .val (.long q3), .second, .val (.long q4), .second, .val (.int p5), .val (.int (v0_4 q0 q1 q2 q3 q4 p5)), .val (.long (j0_9_l12 q0 q1 q2 q3 q4 p5)), .second, .val (.long (j0_127_l14 q0 q1 q2 q3 q4 p5)), .second, .val (.long (v0_122 q0 q1 q2 q3 q4 p5)), .second, .val (.double (v0_154 q0 q1 q2 q3 q4 p5)), .second, .val (.double (v0_172 q0 q1 q2 q3 q4 p5)), .second, .val (.int (j0_410_l22 q0 q1 q2 q3 q4 p5))] [(.int (1 : Int32))])) _
                refine XS.goto X6.here hx rfl (pc0 := 490) (pc' := 494) rfl (hb hby at_490) (by decide) (by decide) ?_
                exact kt486
            exact kt470
        show Steps p.tables e below (T6.setTop (mkF m 494 #[.val (.long q0), .second, .val (.long q1), .second, .val (.long q2), .second, .val (.long q3), .second, .val (.long q4), .second, .val (.int p5), .val (.int (v0_4 q0 q1 q2 q3 q4 p5)), .val (.long (j0_9_l12 q0 q1 q2 q3 q4 p5)), .second, .val (.long (j0_127_l14 q0 q1 q2 q3 q4 p5)), .second, .val (.long (v0_122 q0 q1 q2 q3 q4 p5)), .second, .val (.double (v0_154 q0 q1 q2 q3 q4 p5)), .second, .val (.double (v0_172 q0 q1 q2 q3 q4 p5)), .second, .val (.int (j0_410_l22 q0 q1 q2 q3 q4 p5))] [(.int (j0_470_s0 q0 q1 q2 q3 q4 p5))])) _
        refine XS.istore X6.here hx rfl (hb hby at_494) rfl (l' := #[.val (.long q0), .second, .val (.long q1), .second, .val (.long q2), .second, .val (.long q3), .second, .val (.long q4), .second, .val (.int p5), .val (.int (v0_4 q0 q1 q2 q3 q4 p5)), .val (.long (j0_9_l12 q0 q1 q2 q3 q4 p5)), .second, .val (.long (j0_127_l14 q0 q1 q2 q3 q4 p5)), .second, .val (.long (v0_122 q0 q1 q2 q3 q4 p5)), .second, .val (.double (v0_154 q0 q1 q2 q3 q4 p5)), .second, .val (.double (v0_172 q0 q1 q2 q3 q4 p5)), .second, .val (.int (j0_470_s0 q0 q1 q2 q3 q4 p5))]) rfl ?_
        show Steps p.tables e below (T6.setTop (mkF m 496 #[.val (.long q0), .second, .val (.long q1), .second, .val (.long q2), .second, .val (.long q3), .second, .val (.long q4), .second, .val (.int p5), .val (.int (v0_4 q0 q1 q2 q3 q4 p5)), .val (.long (j0_9_l12 q0 q1 q2 q3 q4 p5)), .second, .val (.long (j0_127_l14 q0 q1 q2 q3 q4 p5)), .second, .val (.long (v0_122 q0 q1 q2 q3 q4 p5)), .second, .val (.double (v0_154 q0 q1 q2 q3 q4 p5)), .second, .val (.double (v0_172 q0 q1 q2 q3 q4 p5)), .second, .val (.int (j0_470_s0 q0 q1 q2 q3 q4 p5))] [])) _
        refine XS.iload X6.here hx rfl (hb hby at_496) rfl ?_
        show Steps p.tables e below (T6.setTop (mkF m 498 #[.val (.long q0), .second, .val (.long q1), .second, .val (.long q2), .second, .val (.long q3), .second, .val (.long q4), .second, .val (.int p5), .val (.int (v0_4 q0 q1 q2 q3 q4 p5)), .val (.long (j0_9_l12 q0 q1 q2 q3 q4 p5)), .second, .val (.long (j0_127_l14 q0 q1 q2 q3 q4 p5)), .second, .val (.long (v0_122 q0 q1 q2 q3 q4 p5)), .second, .val (.double (v0_154 q0 q1 q2 q3 q4 p5)), .second, .val (.double (v0_172 q0 q1 q2 q3 q4 p5)), .second, .val (.int (j0_470_s0 q0 q1 q2 q3 q4 p5))] [(.int (j0_470_s0 q0 q1 q2 q3 q4 p5))])) _
        suffices kt498 : Steps p.tables e below (T6.setTop (mkF m 522 #[.val (.long q0), .second, .val (.long q1), .second, .val (.long q2), .second, .val (.long q3), .second, .val (.long q4), .second, .val (.int p5), .val (.int (v0_4 q0 q1 q2 q3 q4 p5)), .val (.long (j0_9_l12 q0 q1 q2 q3 q4 p5)), .second, .val (.long (j0_127_l14 q0 q1 q2 q3 q4 p5)), .second, .val (.long (v0_122 q0 q1 q2 q3 q4 p5)), .second, .val (.double (v0_154 q0 q1 q2 q3 q4 p5)), .second, .val (.double (v0_172 q0 q1 q2 q3 q4 p5)), .second, .val (.int (j0_470_s0 q0 q1 q2 q3 q4 p5))] [(.int (j0_498_s0 q0 q1 q2 q3 q4 p5))])) (T6.setFrames fs) by
          by_cases hc498 : ifCond.holds .eq (j0_470_s0 q0 q1 q2 q3 q4 p5) = true
          · rw [show (j0_498_s0 q0 q1 q2 q3 q4 p5) = (0 : Int32) from if_pos hc498] at kt498
            refine XS.ifYes X6.here hx rfl (pc0 := 498) (pc' := 521) rfl (hb hby at_498) rfl hc498 (by decide) (by decide) ?_
            show Steps p.tables e below (T6.setTop (mkF m 521 #[.val (.long q0), .second, .val (.long q1), .second, .val (.long q2), .second, .val (.long q3), .second, .val (.long q4), .second, .val (.int p5), .val (.int (v0_4 q0 q1 q2 q3 q4 p5)), .val (.long (j0_9_l12 q0 q1 q2 q3 q4 p5)), .second, .val (.long (j0_127_l14 q0 q1 q2 q3 q4 p5)), .second, .val (.long (v0_122 q0 q1 q2 q3 q4 p5)), .second, .val (.double (v0_154 q0 q1 q2 q3 q4 p5)), .second, .val (.double (v0_172 q0 q1 q2 q3 q4 p5)), .second, .val (.int (j0_470_s0 q0 q1 q2 q3 q4 p5))] [])) _
            refine XS.iconst X6.here hx rfl (hb hby at_521) ?_
            exact kt498
          · rw [show (j0_498_s0 q0 q1 q2 q3 q4 p5) = (j0_514_s0 q0 q1 q2 q3 q4 p5) from if_neg hc498] at kt498
            refine XS.ifNo X6.here hx rfl (hb hby at_498) rfl (eq_false_of_ne_true hc498) ?_
            show Steps p.tables e below (T6.setTop (mkF m 501 #[.val (.long q0), .second, .val (.long q1), .second, .val (.long q2), .second, .val (.long q3), .second, .val (.long q4), .second, .val (.int p5), .val (.int (v0_4 q0 q1 q2 q3 q4 p5)), .val (.long (j0_9_l12 q0 q1 q2 q3 q4 p5)), .second, .val (.long (j0_127_l14 q0 q1 q2 q3 q4 p5)), .second, .val (.long (v0_122 q0 q1 q2 q3 q4 p5)), .second, .val (.double (v0_154 q0 q1 q2 q3 q4 p5)), .second, .val (.double (v0_172 q0 q1 q2 q3 q4 p5)), .second, .val (.int (j0_470_s0 q0 q1 q2 q3 q4 p5))] [])) _
            refine XS.dload X6.here hx rfl (hb hby at_501) rfl ?_
            show Steps p.tables e below (T6.setTop (mkF m 503 #[.val (.long q0), .second, .val (.long q1), .second, .val (.long q2), .second, .val (.long q3), .second, .val (.long q4), .second, .val (.int p5), .val (.int (v0_4 q0 q1 q2 q3 q4 p5)), .val (.long (j0_9_l12 q0 q1 q2 q3 q4 p5)), .second, .val (.long (j0_127_l14 q0 q1 q2 q3 q4 p5)), .second, .val (.long (v0_122 q0 q1 q2 q3 q4 p5)), .second, .val (.double (v0_154 q0 q1 q2 q3 q4 p5)), .second, .val (.double (v0_172 q0 q1 q2 q3 q4 p5)), .second, .val (.int (j0_470_s0 q0 q1 q2 q3 q4 p5))] [(.double (v0_172 q0 q1 q2 q3 q4 p5))])) _
            refine XS.lload X6.here hx rfl (hb hby at_503) rfl ?_
            show Steps p.tables e below (T6.setTop (mkF m 505 #[.val (.long q0), .second, .val (.long q1), .second, .val (.long q2), .second, .val (.long q3), .second, .val (.long q4), .second, .val (.int p5), .val (.int (v0_4 q0 q1 q2 q3 q4 p5)), .val (.long (j0_9_l12 q0 q1 q2 q3 q4 p5)), .second, .val (.long (j0_127_l14 q0 q1 q2 q3 q4 p5)), .second, .val (.long (v0_122 q0 q1 q2 q3 q4 p5)), .second, .val (.double (v0_154 q0 q1 q2 q3 q4 p5)), .second, .val (.double (v0_172 q0 q1 q2 q3 q4 p5)), .second, .val (.int (j0_470_s0 q0 q1 q2 q3 q4 p5))] [(.long (j0_9_l12 q0 q1 q2 q3 q4 p5)), (.double (v0_172 q0 q1 q2 q3 q4 p5))])) _
            refine XS.lload X6.here hx rfl (hb hby at_505) rfl ?_
            show Steps p.tables e below (T6.setTop (mkF m 507 #[.val (.long q0), .second, .val (.long q1), .second, .val (.long q2), .second, .val (.long q3), .second, .val (.long q4), .second, .val (.int p5), .val (.int (v0_4 q0 q1 q2 q3 q4 p5)), .val (.long (j0_9_l12 q0 q1 q2 q3 q4 p5)), .second, .val (.long (j0_127_l14 q0 q1 q2 q3 q4 p5)), .second, .val (.long (v0_122 q0 q1 q2 q3 q4 p5)), .second, .val (.double (v0_154 q0 q1 q2 q3 q4 p5)), .second, .val (.double (v0_172 q0 q1 q2 q3 q4 p5)), .second, .val (.int (j0_470_s0 q0 q1 q2 q3 q4 p5))] [(.long (v0_122 q0 q1 q2 q3 q4 p5)), (.long (j0_9_l12 q0 q1 q2 q3 q4 p5)), (.double (v0_172 q0 q1 q2 q3 q4 p5))])) _
            refine XS.lsub X6.here hx rfl (hb hby at_507) rfl ?_
            show Steps p.tables e below (T6.setTop (mkF m 508 #[.val (.long q0), .second, .val (.long q1), .second, .val (.long q2), .second, .val (.long q3), .second, .val (.long q4), .second, .val (.int p5), .val (.int (v0_4 q0 q1 q2 q3 q4 p5)), .val (.long (j0_9_l12 q0 q1 q2 q3 q4 p5)), .second, .val (.long (j0_127_l14 q0 q1 q2 q3 q4 p5)), .second, .val (.long (v0_122 q0 q1 q2 q3 q4 p5)), .second, .val (.double (v0_154 q0 q1 q2 q3 q4 p5)), .second, .val (.double (v0_172 q0 q1 q2 q3 q4 p5)), .second, .val (.int (j0_470_s0 q0 q1 q2 q3 q4 p5))] [(.long ((j0_9_l12 q0 q1 q2 q3 q4 p5) - (v0_122 q0 q1 q2 q3 q4 p5))), (.double (v0_172 q0 q1 q2 q3 q4 p5))])) _
            refine XS.l2dS X6.here hx rfl (hb hby at_508) rfl rfl ?_
            show Steps p.tables e below (T6.setTop (mkF m 509 #[.val (.long q0), .second, .val (.long q1), .second, .val (.long q2), .second, .val (.long q3), .second, .val (.long q4), .second, .val (.int p5), .val (.int (v0_4 q0 q1 q2 q3 q4 p5)), .val (.long (j0_9_l12 q0 q1 q2 q3 q4 p5)), .second, .val (.long (j0_127_l14 q0 q1 q2 q3 q4 p5)), .second, .val (.long (v0_122 q0 q1 q2 q3 q4 p5)), .second, .val (.double (v0_154 q0 q1 q2 q3 q4 p5)), .second, .val (.double (v0_172 q0 q1 q2 q3 q4 p5)), .second, .val (.int (j0_470_s0 q0 q1 q2 q3 q4 p5))] [(.double (FP.l2d ((j0_9_l12 q0 q1 q2 q3 q4 p5) - (v0_122 q0 q1 q2 q3 q4 p5)))), (.double (v0_172 q0 q1 q2 q3 q4 p5))])) _
            refine XS.lload X6.here hx rfl (hb hby at_509) rfl ?_
            show Steps p.tables e below (T6.setTop (mkF m 511 #[.val (.long q0), .second, .val (.long q1), .second, .val (.long q2), .second, .val (.long q3), .second, .val (.long q4), .second, .val (.int p5), .val (.int (v0_4 q0 q1 q2 q3 q4 p5)), .val (.long (j0_9_l12 q0 q1 q2 q3 q4 p5)), .second, .val (.long (j0_127_l14 q0 q1 q2 q3 q4 p5)), .second, .val (.long (v0_122 q0 q1 q2 q3 q4 p5)), .second, .val (.double (v0_154 q0 q1 q2 q3 q4 p5)), .second, .val (.double (v0_172 q0 q1 q2 q3 q4 p5)), .second, .val (.int (j0_470_s0 q0 q1 q2 q3 q4 p5))] [(.long (j0_9_l12 q0 q1 q2 q3 q4 p5)), (.double (FP.l2d ((j0_9_l12 q0 q1 q2 q3 q4 p5) - (v0_122 q0 q1 q2 q3 q4 p5)))), (.double (v0_172 q0 q1 q2 q3 q4 p5))])) _
            refine XS.l2dS X6.here hx rfl (hb hby at_511) rfl rfl ?_
            show Steps p.tables e below (T6.setTop (mkF m 512 #[.val (.long q0), .second, .val (.long q1), .second, .val (.long q2), .second, .val (.long q3), .second, .val (.long q4), .second, .val (.int p5), .val (.int (v0_4 q0 q1 q2 q3 q4 p5)), .val (.long (j0_9_l12 q0 q1 q2 q3 q4 p5)), .second, .val (.long (j0_127_l14 q0 q1 q2 q3 q4 p5)), .second, .val (.long (v0_122 q0 q1 q2 q3 q4 p5)), .second, .val (.double (v0_154 q0 q1 q2 q3 q4 p5)), .second, .val (.double (v0_172 q0 q1 q2 q3 q4 p5)), .second, .val (.int (j0_470_s0 q0 q1 q2 q3 q4 p5))] [(.double (FP.l2d (j0_9_l12 q0 q1 q2 q3 q4 p5))), (.double (FP.l2d ((j0_9_l12 q0 q1 q2 q3 q4 p5) - (v0_122 q0 q1 q2 q3 q4 p5)))), (.double (v0_172 q0 q1 q2 q3 q4 p5))])) _
            refine XS.ddivS X6.here hx rfl (hb hby at_512) rfl hn512 rfl ?_
            show Steps p.tables e below (T6.setTop (mkF m 513 #[.val (.long q0), .second, .val (.long q1), .second, .val (.long q2), .second, .val (.long q3), .second, .val (.long q4), .second, .val (.int p5), .val (.int (v0_4 q0 q1 q2 q3 q4 p5)), .val (.long (j0_9_l12 q0 q1 q2 q3 q4 p5)), .second, .val (.long (j0_127_l14 q0 q1 q2 q3 q4 p5)), .second, .val (.long (v0_122 q0 q1 q2 q3 q4 p5)), .second, .val (.double (v0_154 q0 q1 q2 q3 q4 p5)), .second, .val (.double (v0_172 q0 q1 q2 q3 q4 p5)), .second, .val (.int (j0_470_s0 q0 q1 q2 q3 q4 p5))] [(.double (FP.ddiv (FP.l2d ((j0_9_l12 q0 q1 q2 q3 q4 p5) - (v0_122 q0 q1 q2 q3 q4 p5))) (FP.l2d (j0_9_l12 q0 q1 q2 q3 q4 p5)))), (.double (v0_172 q0 q1 q2 q3 q4 p5))])) _
            refine XS.dcmpS X6.here hx rfl (hb hby at_513) rfl rfl ?_
            show Steps p.tables e below (T6.setTop (mkF m 514 #[.val (.long q0), .second, .val (.long q1), .second, .val (.long q2), .second, .val (.long q3), .second, .val (.long q4), .second, .val (.int p5), .val (.int (v0_4 q0 q1 q2 q3 q4 p5)), .val (.long (j0_9_l12 q0 q1 q2 q3 q4 p5)), .second, .val (.long (j0_127_l14 q0 q1 q2 q3 q4 p5)), .second, .val (.long (v0_122 q0 q1 q2 q3 q4 p5)), .second, .val (.double (v0_154 q0 q1 q2 q3 q4 p5)), .second, .val (.double (v0_172 q0 q1 q2 q3 q4 p5)), .second, .val (.int (j0_470_s0 q0 q1 q2 q3 q4 p5))] [(.int (cmpValue (FP.dcmp (v0_172 q0 q1 q2 q3 q4 p5) (FP.ddiv (FP.l2d ((j0_9_l12 q0 q1 q2 q3 q4 p5) - (v0_122 q0 q1 q2 q3 q4 p5))) (FP.l2d (j0_9_l12 q0 q1 q2 q3 q4 p5)))) .l))])) _
            suffices kt514 : Steps p.tables e below (T6.setTop (mkF m 522 #[.val (.long q0), .second, .val (.long q1), .second, .val (.long q2), .second, .val (.long q3), .second, .val (.long q4), .second, .val (.int p5), .val (.int (v0_4 q0 q1 q2 q3 q4 p5)), .val (.long (j0_9_l12 q0 q1 q2 q3 q4 p5)), .second, .val (.long (j0_127_l14 q0 q1 q2 q3 q4 p5)), .second, .val (.long (v0_122 q0 q1 q2 q3 q4 p5)), .second, .val (.double (v0_154 q0 q1 q2 q3 q4 p5)), .second, .val (.double (v0_172 q0 q1 q2 q3 q4 p5)), .second, .val (.int (j0_470_s0 q0 q1 q2 q3 q4 p5))] [(.int (j0_514_s0 q0 q1 q2 q3 q4 p5))])) (T6.setFrames fs) by
              by_cases hc514 : ifCond.holds .ne (cmpValue (FP.dcmp (v0_172 q0 q1 q2 q3 q4 p5) (FP.ddiv (FP.l2d ((j0_9_l12 q0 q1 q2 q3 q4 p5) - (v0_122 q0 q1 q2 q3 q4 p5))) (FP.l2d (j0_9_l12 q0 q1 q2 q3 q4 p5)))) .l) = true
              · rw [show (j0_514_s0 q0 q1 q2 q3 q4 p5) = (0 : Int32) from if_pos hc514] at kt514
                refine XS.ifYes X6.here hx rfl (pc0 := 514) (pc' := 521) rfl (hb hby at_514) rfl hc514 (by decide) (by decide) ?_
                show Steps p.tables e below (T6.setTop (mkF m 521 #[.val (.long q0), .second, .val (.long q1), .second, .val (.long q2), .second, .val (.long q3), .second, .val (.long q4), .second, .val (.int p5), .val (.int (v0_4 q0 q1 q2 q3 q4 p5)), .val (.long (j0_9_l12 q0 q1 q2 q3 q4 p5)), .second, .val (.long (j0_127_l14 q0 q1 q2 q3 q4 p5)), .second, .val (.long (v0_122 q0 q1 q2 q3 q4 p5)), .second, .val (.double (v0_154 q0 q1 q2 q3 q4 p5)), .second, .val (.double (v0_172 q0 q1 q2 q3 q4 p5)), .second, .val (.int (j0_470_s0 q0 q1 q2 q3 q4 p5))] [])) _
                refine XS.iconst X6.here hx rfl (hb hby at_521) ?_
                exact kt514
              · rw [show (j0_514_s0 q0 q1 q2 q3 q4 p5) = (1 : Int32) from if_neg hc514] at kt514
                refine XS.ifNo X6.here hx rfl (hb hby at_514) rfl (eq_false_of_ne_true hc514) ?_
                show Steps p.tables e below (T6.setTop (mkF m 517 #[.val (.long q0), .second, .val (.long q1), .second, .val (.long q2), .second, .val (.long q3), .second, .val (.long q4), .second, .val (.int p5), .val (.int (v0_4 q0 q1 q2 q3 q4 p5)), .val (.long (j0_9_l12 q0 q1 q2 q3 q4 p5)), .second, .val (.long (j0_127_l14 q0 q1 q2 q3 q4 p5)), .second, .val (.long (v0_122 q0 q1 q2 q3 q4 p5)), .second, .val (.double (v0_154 q0 q1 q2 q3 q4 p5)), .second, .val (.double (v0_172 q0 q1 q2 q3 q4 p5)), .second, .val (.int (j0_470_s0 q0 q1 q2 q3 q4 p5))] [])) _
                refine XS.iconst X6.here hx rfl (hb hby at_517) ?_
                show Steps p.tables e below (T6.setTop (mkF m 518 #[.val (.long q0), .second, .val (.long q1), .second, .val (.long q2), .second, .val (.long q3), .second, .val (.long q4), .second, .val (.int p5), .val (.int (v0_4 q0 q1 q2 q3 q4 p5)), .val (.long (j0_9_l12 q0 q1 q2 q3 q4 p5)), .second, .val (.long (j0_127_l14 q0 q1 q2 q3 q4 p5)), .second, .val (.long (v0_122 q0 q1 q2 q3 q4 p5)), .second, .val (.double (v0_154 q0 q1 q2 q3 q4 p5)), .second, .val (.double (v0_172 q0 q1 q2 q3 q4 p5)), .second, .val (.int (j0_470_s0 q0 q1 q2 q3 q4 p5))] [(.int (1 : Int32))])) _
                refine XS.goto X6.here hx rfl (pc0 := 518) (pc' := 522) rfl (hb hby at_518) (by decide) (by decide) ?_
                exact kt514
            exact kt498
        show Steps p.tables e below (T6.setTop (mkF m 522 #[.val (.long q0), .second, .val (.long q1), .second, .val (.long q2), .second, .val (.long q3), .second, .val (.long q4), .second, .val (.int p5), .val (.int (v0_4 q0 q1 q2 q3 q4 p5)), .val (.long (j0_9_l12 q0 q1 q2 q3 q4 p5)), .second, .val (.long (j0_127_l14 q0 q1 q2 q3 q4 p5)), .second, .val (.long (v0_122 q0 q1 q2 q3 q4 p5)), .second, .val (.double (v0_154 q0 q1 q2 q3 q4 p5)), .second, .val (.double (v0_172 q0 q1 q2 q3 q4 p5)), .second, .val (.int (j0_470_s0 q0 q1 q2 q3 q4 p5))] [(.int (j0_498_s0 q0 q1 q2 q3 q4 p5))])) _
        refine XS.istore X6.here hx rfl (hb hby at_522) rfl (l' := #[.val (.long q0), .second, .val (.long q1), .second, .val (.long q2), .second, .val (.long q3), .second, .val (.long q4), .second, .val (.int p5), .val (.int (v0_4 q0 q1 q2 q3 q4 p5)), .val (.long (j0_9_l12 q0 q1 q2 q3 q4 p5)), .second, .val (.long (j0_127_l14 q0 q1 q2 q3 q4 p5)), .second, .val (.long (v0_122 q0 q1 q2 q3 q4 p5)), .second, .val (.double (v0_154 q0 q1 q2 q3 q4 p5)), .second, .val (.double (v0_172 q0 q1 q2 q3 q4 p5)), .second, .val (.int (j0_498_s0 q0 q1 q2 q3 q4 p5))]) rfl ?_
        exact kt465
    show Steps p.tables e below (T6.setTop (mkF m 524 #[.val (.long q0), .second, .val (.long q1), .second, .val (.long q2), .second, .val (.long q3), .second, .val (.long q4), .second, .val (.int p5), .val (.int (v0_4 q0 q1 q2 q3 q4 p5)), .val (.long (j0_9_l12 q0 q1 q2 q3 q4 p5)), .second, .val (.long (j0_127_l14 q0 q1 q2 q3 q4 p5)), .second, .val (.long (v0_122 q0 q1 q2 q3 q4 p5)), .second, .val (.double (v0_154 q0 q1 q2 q3 q4 p5)), .second, .val (.double (v0_172 q0 q1 q2 q3 q4 p5)), .second, .val (.int (j0_465_l22 q0 q1 q2 q3 q4 p5))] [])) _
    refine XS.iload X6.here hx rfl (hb hby at_524) rfl ?_
    show Steps p.tables e below (T6.setTop (mkF m 526 #[.val (.long q0), .second, .val (.long q1), .second, .val (.long q2), .second, .val (.long q3), .second, .val (.long q4), .second, .val (.int p5), .val (.int (v0_4 q0 q1 q2 q3 q4 p5)), .val (.long (j0_9_l12 q0 q1 q2 q3 q4 p5)), .second, .val (.long (j0_127_l14 q0 q1 q2 q3 q4 p5)), .second, .val (.long (v0_122 q0 q1 q2 q3 q4 p5)), .second, .val (.double (v0_154 q0 q1 q2 q3 q4 p5)), .second, .val (.double (v0_172 q0 q1 q2 q3 q4 p5)), .second, .val (.int (j0_465_l22 q0 q1 q2 q3 q4 p5))] [(.int (j0_465_l22 q0 q1 q2 q3 q4 p5))])) _
    rw [hres526]
    exact retN X6 hx (t := .boolean) Bd.returns (by simp) (hb hby at_526) hr
  · show Q0 Z q0 q1 q2 q3 q4 p5 h0 n0 _ T6.heap _
    exact ⟨rfl, N6⟩
set_option maxRecDepth 65536 in
set_option maxHeartbeats 40000000 in
theorem comes_1 {Post : Tables → Env → Array Value → State → Outcome → State → Prop} (hpost : ∀ tb e args s v u, (limb_1_1.after args s (.returned v) u = true ∧ limb_1_2.after args s (.returned v) u = true ∧ True) → FrameEnd s (.returned v) u (Jvm.fieldLocs frame_1_writes args s ++ Jvm.arrayLocs frame_1_arrays args s ++ Jvm.staticLocs frame_1_statics s) 16 128 → Post tb e args s (.returned v) u) :
    ArmFor flags0 classFile x code maxLocals ret World_1 tables_1 room_1 Calls_1 rest_1 Pre_1 Post := by
  intro l hfl _ _ p e ha hc hk s m args below hf hA hF happ hP
  obtain ⟨hcalls, hrest, hpre⟩ := hP
  obtain ⟨-, -, -, hnamed, -, -, -, hat⟩ := (Spec.applies_iff hf).mp happ
  obtain ⟨hg, hn⟩ := and_e (Cond.before_iff.mp (show (Jvm.Cond.and given_1 narrow_1).before args s = true from hpre))
  obtain ⟨k0, r0⟩ := and_e hg
  obtain ⟨a0, r1⟩ := and_e r0
  obtain ⟨a1, r2⟩ := and_e r1
  obtain ⟨a2, r3⟩ := and_e r2
  obtain ⟨a3, r4⟩ := and_e r3
  obtain ⟨a4, r5⟩ := and_e r4
  have a5 := r5
  obtain ⟨w0, w1, w2, w3, w4, w5, rfl⟩ : ∃ w0 w1 w2 w3 w4 w5 : Value, args = #[w0, w1, w2, w3, w4, w5] := by
    have hs : args.size = 6 := by simpa [Cond.value, given_1] using k0
    obtain ⟨L⟩ := args
    match L, hs with
    | [w0, w1, w2, w3, w4, w5], _ => exact ⟨w0, w1, w2, w3, w4, w5, rfl⟩
  have hw := fun d (hd : d ∈ tables_1) => atoms_spec (ws := Jvm.Cond.code x code maxLocals ret :: tables_1) hat d (List.mem_cons_of_mem _ hd)
  obtain ⟨i0, ei0⟩ := isL_v a0
  obtain rfl : w0 = (.long i0) := Option.some.inj ei0
  obtain ⟨i1, ei1⟩ := isL_v a1
  obtain rfl : w1 = (.long i1) := Option.some.inj ei1
  obtain ⟨i2, ei2⟩ := isL_v a2
  obtain rfl : w2 = (.long i2) := Option.some.inj ei2
  obtain ⟨i3, ei3⟩ := isL_v a3
  obtain rfl : w3 = (.long i3) := Option.some.inj ei3
  obtain ⟨i4, ei4⟩ := isL_v a4
  obtain rfl : w4 = (.long i4) := Option.some.inj ei4
  obtain ⟨i5, ei5⟩ := is_v a5
  obtain rfl : w5 = (.int i5) := Option.some.inj ei5
  obtain ⟨n, o, h1, h2, h3, _, L, rfl, ⟨rfl, N⟩, hq⟩ := rm0 l s _ hw tables_1 i0 i1 i2 i3 i4 i5 s.heap s.heap.size (Nat.le_refl _) (own_z108 i0 i1 i2 i3 i4 i5) (own_s109 i0 i1 i2 i3 i4 i5) (own_n151 i0 i1 i2 i3 i4 i5) (own_m151 i0 i1 i2 i3 i4 i5) (own_n169 i0 i1 i2 i3 i4 i5) (own_m169 i0 i1 i2 i3 i4 i5) (own_n484 i0 i1 i2 i3 i4 i5) (own_n512 i0 i1 i2 i3 i4 i5) (own_res i0 i1 i2 i3 i4 i5) p e ha hc hk s m _ below hf ((Spec.applies_iff_loose hf).mp happ).1 ⟨rfl, State.Warmed39.refl s, rfl⟩ trivial
  refine ⟨n, _, h1, h2, h3, hpost _ _ _ _ _ _ ⟨Cond.after_iff.mpr rfl, Cond.after_iff.mpr (eq_i res_at (Term.int_eval (1)) rfl), trivial⟩ ⟨hq.1, hq.2.1, (hq.2.2.sift fun y hy => Or.inr (N y hy)).mono (by decide) (by decide)⟩⟩
theorem main_1_1 : Claimed_1_1 := comes_1 fun _ _ _ _ _ _ h hF => ⟨h.1, hF⟩
theorem main_1_2 : Claimed_1_2 := comes_1 fun _ _ _ _ _ _ h hF => ⟨h.2.1, hF⟩
end Jvm.Pilot.@@N@@
namespace Jvm.Pilot.@@N@@
open Jvm Jvm.ClassFile Sem Op Lib Jvm.Free Jvm.Stand Jvm.Pilot.@@N@@.Jvm.D
/-! MADE BY PROGRAM (witnessworld.py) out of the Statement's table words and the real class files: 10 classes; the members and pool entries that the words name. The judged class is class 1, her method 1. -/
namespace start1
open Jvm.ClassFile
def u (s : String) : CpInfo := .utf8 (stringToUtf16 s)
/-- a pool by its gaps: so many unusable entries, then the entry; so many at the end -/
def gap : Nat → List CpInfo → List CpInfo
  | 0, r => r
  | n + 1, r => .unusable :: gap n r
def poolList (es : List (Nat × CpInfo)) (last : Nat) : List CpInfo := es.foldr (fun e r => gap e.1 (e.2 :: r)) (gap last [])
def pool (es : List (Nat × CpInfo)) (last : Nat) : Array CpInfo := ⟨poolList es last⟩
def fileOf (pool : Array CpInfo) (this : Nat) (attrs : Array Attribute := #[]) (ms : Array MethodInfo := #[]) (fl : Nat := 33) (sup : Nat := 0) (ifs : Array Nat := #[]) (fds : Array FieldInfo := #[]) : ClassFile where
  minorVersion := 0
  majorVersion := 65
  constantPool := pool
  accessFlags := fl
  thisClass := this
  superClass := sup
  interfaces := ifs
  fields := fds
  methods := ms
  attributes := attrs
def plain (name : String) (sup : Option ClassId) : Class where
  name := name
  kind := .ordinary
  loader := none
  accessFlags := 33
  super := sup
  interfaces := #[]
  cf := none
  fields := #[]
  methods := #[]
  instanceTypes := #[]
  staticTypes := #[]
  resolved := #[]
  callSites := []
  init := .initialized
  statics := none
  mirror := none

def pool0 : Array CpInfo := pool [(5, u "<init>"), (0, u "()V"), (1, .class_ 10), (1, u "java/lang/Object")] 113

def k0c0 : Code := { maxStack := 0, maxLocals := 1, code := object_method_1_code, exceptionTable := #[], attributes := #[] }
def k0m0 : Method := { name := "<init>", desc := "()V", sig := { parameters := [], returnType := none }, accessFlags := 1, code := some k0c0 }
/-- java/lang/Object -/
def k0 : Class := { plain "java/lang/Object" none with
  accessFlags := 33
  interfaces := #[]
  cf := some (fileOf pool0 8 #[] #[{ accessFlags := 1, nameIndex := 5, descriptorIndex := 6, attributes := #[] }] 33 0 #[] #[])
  fields := #[]
  methods := #[k0m0]
  instanceTypes := #[]
  staticTypes := #[]
  resolved := Array.replicate 124 none
  statics := none }

def pool1 : Array CpInfo := pool [(2, .class_ 4), (1, u "java/lang/Object"), (0, u "<init>"), (0, u "()V"), (0, .long 1073741823), (1, .long 4611686018427387903), (1, .long 2), (3, .long 9223372036854775807), (1, .class_ 18), (0, u "com/example/duotier/duotier/bench/Tally"), (0, .methodref 17 20), (0, .nameAndType 5 21), (0, u "(JJJJ)V"), (0, .methodref 17 23), (0, .nameAndType 24 25), (0, u "localHitRatio"), (0, u "()D"), (0, .double 4602678819172646912), (1, .long 1073741824), (1, .class_ 31), (0, u "com/example/duotier/duotier/bench/TallyLocalHitRatioPinLaw"), (2, u "law"), (0, u "(JJJJJI)Z")] 3

def k1m0 : Method := { name := "<init>", desc := "()V", sig := { parameters := [], returnType := none }, accessFlags := 1, code := none }
def k1c1 : Code := { maxStack := 10, maxLocals := 23, code := code, exceptionTable := #[], attributes := #[] }
def k1m1 : Method := { name := "law", desc := "(JJJJJI)Z", sig := { parameters := [.long, .long, .long, .long, .long, .int], returnType := some .boolean }, accessFlags := 9, code := some k1c1 }
/-- com/example/duotier/duotier/bench/TallyLocalHitRatioPinLaw -/
def k1 : Class := { plain "com/example/duotier/duotier/bench/TallyLocalHitRatioPinLaw" (some 0) with
  accessFlags := 49
  interfaces := #[]
  cf := some (fileOf pool1 30 #[] #[{ accessFlags := 1, nameIndex := 5, descriptorIndex := 6, attributes := #[] }, { accessFlags := 9, nameIndex := 34, descriptorIndex := 35, attributes := #[] }] 49 2 #[] #[])
  fields := #[]
  methods := #[k1m0, k1m1]
  instanceTypes := #[]
  staticTypes := #[]
  resolved := Array.replicate 39 none
  statics := none }

def pool2 : Array CpInfo := pool [(1, .methodref 2 3), (0, .class_ 4), (0, .nameAndType 5 6), (0, u "java/lang/Object"), (0, u "<init>"), (0, u "()V"), (0, .class_ 8), (0, u "java/lang/Record")] 13

def k2c0 : Code := { maxStack := 1, maxLocals := 1, code := jdk_30_method_1_code, exceptionTable := #[], attributes := #[] }
def k2m0 : Method := { name := "<init>", desc := "()V", sig := { parameters := [], returnType := none }, accessFlags := 4, code := some k2c0 }
/-- java/lang/Record -/
def k2 : Class := { plain "java/lang/Record" (some 0) with
  accessFlags := 1057
  interfaces := #[]
  cf := some (fileOf pool2 7 #[] #[{ accessFlags := 4, nameIndex := 5, descriptorIndex := 6, attributes := #[] }] 1057 2 #[] #[])
  fields := #[]
  methods := #[k2m0]
  instanceTypes := #[]
  staticTypes := #[]
  resolved := Array.replicate 22 none
  statics := none }

def pool3 : Array CpInfo := pool [(1, .methodref 2 3), (0, .class_ 4), (0, .nameAndType 5 6), (0, u "java/lang/Record"), (0, u "<init>"), (0, u "()V"), (0, .fieldref 8 9), (0, .class_ 10), (0, .nameAndType 11 12), (0, u "com/example/duotier/duotier/bench/Tally"), (0, u "operations"), (0, u "J"), (0, .fieldref 8 14), (0, .nameAndType 15 12), (0, u "reads"), (0, .fieldref 8 17), (0, .nameAndType 18 12), (0, u "localMisses"), (0, .fieldref 8 20), (0, .nameAndType 21 12), (0, u "nanos"), (39, u "(JJJJ)V"), (22, u "PREFIX"), (0, u "Ljava/lang/String;"), (12, u "()D"), (1, u "localHitRatio")] 35

def k3c0 : Code := { maxStack := 3, maxLocals := 9, code := prog_23_method_1_code, exceptionTable := #[], attributes := #[] }
def k3m0 : Method := { name := "<init>", desc := "(JJJJ)V", sig := { parameters := [.long, .long, .long, .long], returnType := none }, accessFlags := 0, code := some k3c0 }
def k3c1 : Code := { maxStack := 6, maxLocals := 1, code := prog_23_method_6_code, exceptionTable := #[], attributes := #[] }
def k3m1 : Method := { name := "localHitRatio", desc := "()D", sig := { parameters := [], returnType := some .double }, accessFlags := 0, code := some k3c1 }
/-- com/example/duotier/duotier/bench/Tally -/
def k3 : Class := { plain "com/example/duotier/duotier/bench/Tally" (some 2) with
  accessFlags := 48
  interfaces := #[]
  cf := some (fileOf pool3 8 #[] #[{ accessFlags := 0, nameIndex := 5, descriptorIndex := 61, attributes := #[] }, { accessFlags := 0, nameIndex := 100, descriptorIndex := 98, attributes := #[] }] 48 2 #[] #[{ accessFlags := 18, nameIndex := 11, descriptorIndex := 12, attributes := #[] }, { accessFlags := 18, nameIndex := 15, descriptorIndex := 12, attributes := #[] }, { accessFlags := 18, nameIndex := 18, descriptorIndex := 12, attributes := #[] }, { accessFlags := 18, nameIndex := 21, descriptorIndex := 12, attributes := #[] }, { accessFlags := 26, nameIndex := 84, descriptorIndex := 85, attributes := #[] }])
  fields := #[{ name := "operations", type := .long, accessFlags := 18, slot := 0, constantValue := 0 }, { name := "reads", type := .long, accessFlags := 18, slot := 1, constantValue := 0 }, { name := "localMisses", type := .long, accessFlags := 18, slot := 2, constantValue := 0 }, { name := "nanos", type := .long, accessFlags := 18, slot := 3, constantValue := 0 }, { name := "PREFIX", type := (.object "java/lang/String"), accessFlags := 26, slot := 0, constantValue := 0 }]
  methods := #[k3m0, k3m1]
  instanceTypes := #[.long, .long, .long, .long]
  staticTypes := #[(.object "java/lang/String")]
  resolved := Array.replicate 136 none
  statics := none }

def pool4 : Array CpInfo := pool [(1, u "java/lang/Cloneable"), (0, .class_ 1), (0, u "java/lang/Object"), (0, .class_ 3)] 3

/-- java/lang/Cloneable -/
def k4 : Class := { plain "java/lang/Cloneable" (some 0) with
  accessFlags := 1537
  interfaces := #[]
  cf := some (fileOf pool4 2 #[] #[] 1537 4 #[] #[])
  fields := #[]
  methods := #[]
  instanceTypes := #[]
  staticTypes := #[]
  resolved := Array.replicate 8 none
  statics := none }

def pool5 : Array CpInfo := pool [(1, u "java/io/Serializable"), (0, .class_ 1), (0, u "java/lang/Object"), (0, .class_ 3)] 3

/-- java/io/Serializable -/
def k5 : Class := { plain "java/io/Serializable" (some 0) with
  accessFlags := 1537
  interfaces := #[]
  cf := some (fileOf pool5 2 #[] #[] 1537 4 #[] #[])
  fields := #[]
  methods := #[]
  instanceTypes := #[]
  staticTypes := #[]
  resolved := Array.replicate 8 none
  statics := none }

/-- the primitive byte -/
def k6 : Class := { plain "byte" none with kind := .primitive 'B', accessFlags := 0x411 }
/-- [B -/
def k7 : Class := { plain "[B" (some 0) with kind := .array 6 .byte, interfaces := #[4, 5], accessFlags := 1041 }

/-- the primitive int -/
def k8 : Class := { plain "int" none with kind := .primitive 'I', accessFlags := 0x411 }
/-- [I -/
def k9 : Class := { plain "[I" (some 0) with kind := .array 8 .int, interfaces := #[4, 5], accessFlags := 1041 }

def heap : Heap := #[]
def classes : Array Class := #[k0, k1, k2, k3, k4, k5, k6, k7, k8, k9]
def interned : List (Array UInt16 × Addr) := []
def slotsUsed : Nat := 0
def theMethod : MethodId := ⟨1, 1⟩
def args0 : Array Value := #[.long 5, .long 3, .long 2, .long 7, .long 9, .int 4]
def aboutOver (below : List Frame) : State where
  vm := { classes := classes, interned := interned.toArray }
  heap := heap
  slotsUsed := slotsUsed
  threads := #[{ frames := .invoking theMethod args0 :: below }]
def below0 : List Frame := [.native { method := ⟨0, 0⟩, args := #[] }]
def about1 : State := aboutOver below0
def p0 : Program := .bare "" "" ""
def e0 : Env := launch0.env 0 0 0
theorem w_frames : about1.frames = Frame.invoking theMethod args0 :: below0 := rfl
set_option maxRecDepth 65536 in
theorem w_args : argsFit about1.vm theMethod args0 = true := by decide +kernel
set_option maxRecDepth 65536 in
theorem w_heap : heapFits about1 = true := by decide +kernel
set_option maxRecDepth 65536 in
theorem w_runnable : about1.curStatus? = some .runnable := by decide +kernel
set_option maxRecDepth 65536 in
theorem w_alone : about1.alone = true := by decide +kernel
set_option maxRecDepth 65536 in
theorem w_named : about1.methodNamed? x = some theMethod := by decide +kernel
set_option maxRecDepth 65536 in
theorem w_hears : about1.hears theMethod below0 = true := by decide +kernel
set_option maxRecDepth 65536 in
theorem w_ripe : about1.ripe theMethod args0 below0 = true := by decide +kernel
theorem w_running : about1.status = .running := rfl
set_option maxRecDepth 65536 in
theorem w_room : about1.hasRoom e0.platform room_1 = true :=
  launch0.hasRoom_least _ room_1 (by decide +kernel) (by decide +kernel) (by decide +kernel) (by decide +kernel) (by decide +kernel) (by decide +kernel)
theorem allAtoms_all (ts : List Jvm.Cond) (a : Array Jvm.Value) (st : Jvm.State) : (allAtoms ts).before a st = ts.all (fun c => c.before a st) := by
  induction ts with
  | nil => rfl
  | cons c t ih =>
    show (Jvm.Cond.and c (allAtoms t)).before a st = _
    rw [Jvm.Cond.before_and, ih, List.all_cons]
def words1 : List Jvm.Cond := Jvm.Cond.code x code maxLocals ret :: tables_1
/-- a 'code' word, met by the world's own term for the bytes: nothing is compared byte by byte -/
theorem code_word {y : MethodName} {bytes : ByteArray} {mx : Nat} {rt : Option FieldType} {a : Array Value} {s : State} {m : MethodId} {meth : Method} {c : Code} (h1 : s.methodNamed? y = some m) (h2 : s.vm.method? m = some meth) (h3 : meth.code = some c) (h4 : c.code = bytes)
    (h5 : (c.maxLocals == mx && c.exceptionTable.isEmpty && decide (c.maxStack ≤ mostOperands) && decide (meth.sig.returnType = rt) && !meth.locks && decide (parseMethodDescriptor y.desc = some meth.sig)) = true) : (Jvm.Cond.code y bytes mx rt).before a s = true := by
  simp only [Bool.and_eq_true, beq_iff_eq, Bool.not_eq_true', decide_eq_true_eq] at h5
  obtain ⟨⟨⟨⟨⟨g1, g2⟩, g3⟩, g4⟩, g5⟩, g6⟩ := h5
  simp [Cond.before, Cond.holds, Cond.value, h1, h2, h3, h4, g1, g2, g3, g4, g5, g6]
def isCode : Jvm.Cond → Bool
  | .code _ _ _ _ => true
  | _ => false
theorem all_split {L : List Jvm.Cond} {P : Jvm.Cond → Bool} (h1 : L.all (fun c => isCode c || P c) = true) (h2 : ∀ c ∈ L.filter isCode, P c = true) : L.all P = true := by
  refine List.all_eq_true.mpr fun c hc => ?_
  have h := List.all_eq_true.mp h1 c hc
  rcases Bool.eq_false_or_eq_true (isCode c) with hi | hi
  · exact h2 c (List.mem_filter.mpr ⟨hc, hi⟩)
  · simpa [hi] using h
set_option maxRecDepth 65536 in
theorem w_c0 : (Jvm.Cond.code x code maxLocals ret).before args0 about1 = true := code_word (m := ⟨1, 1⟩) (meth := k1m1) (c := k1c1) (by decide +kernel) rfl rfl rfl (by decide +kernel)
set_option maxRecDepth 65536 in
theorem w_c1 : (Jvm.Cond.code ({ cls := "com/example/duotier/duotier/bench/Tally", name := "<init>", desc := "(JJJJ)V" } : Jvm.MethodName) prog_23_method_1_code (9 : Nat) (Option.none : Option Jvm.ClassFile.FieldType)).before args0 about1 = true := code_word (m := ⟨3, 0⟩) (meth := k3m0) (c := k3c0) (by decide +kernel) rfl rfl rfl (by decide +kernel)
set_option maxRecDepth 65536 in
theorem w_c2 : (Jvm.Cond.code ({ cls := "java/lang/Record", name := "<init>", desc := "()V" } : Jvm.MethodName) jdk_30_method_1_code (1 : Nat) (Option.none : Option Jvm.ClassFile.FieldType)).before args0 about1 = true := code_word (m := ⟨2, 0⟩) (meth := k2m0) (c := k2c0) (by decide +kernel) rfl rfl rfl (by decide +kernel)
set_option maxRecDepth 65536 in
theorem w_c3 : (Jvm.Cond.code ({ cls := "java/lang/Object", name := "<init>", desc := "()V" } : Jvm.MethodName) object_method_1_code (1 : Nat) (Option.none : Option Jvm.ClassFile.FieldType)).before args0 about1 = true := code_word (m := ⟨0, 0⟩) (meth := k0m0) (c := k0c0) (by decide +kernel) rfl rfl rfl (by decide +kernel)
set_option maxRecDepth 65536 in
theorem w_c4 : (Jvm.Cond.code ({ cls := "com/example/duotier/duotier/bench/Tally", name := "localHitRatio", desc := "()D" } : Jvm.MethodName) prog_23_method_6_code (1 : Nat) (Option.some Jvm.ClassFile.FieldType.double)).before args0 about1 = true := code_word (m := ⟨3, 1⟩) (meth := k3m1) (c := k3c1) (by decide +kernel) rfl rfl rfl (by decide +kernel)
def codes1 : List Jvm.Cond := [Jvm.Cond.code x code maxLocals ret, Jvm.Cond.code ({ cls := "com/example/duotier/duotier/bench/Tally", name := "<init>", desc := "(JJJJ)V" } : Jvm.MethodName) prog_23_method_1_code (9 : Nat) (Option.none : Option Jvm.ClassFile.FieldType), Jvm.Cond.code ({ cls := "java/lang/Record", name := "<init>", desc := "()V" } : Jvm.MethodName) jdk_30_method_1_code (1 : Nat) (Option.none : Option Jvm.ClassFile.FieldType), Jvm.Cond.code ({ cls := "java/lang/Object", name := "<init>", desc := "()V" } : Jvm.MethodName) object_method_1_code (1 : Nat) (Option.none : Option Jvm.ClassFile.FieldType), Jvm.Cond.code ({ cls := "com/example/duotier/duotier/bench/Tally", name := "localHitRatio", desc := "()D" } : Jvm.MethodName) prog_23_method_6_code (1 : Nat) (Option.some Jvm.ClassFile.FieldType.double)]
set_option maxRecDepth 65536 in
theorem codes_eq : words1.filter isCode = codes1 := rfl
theorem w_codes : ∀ c ∈ words1.filter isCode, c.before args0 about1 = true := by
  rw [codes_eq]
  intro c hc
  simp only [codes1, List.mem_cons, List.not_mem_nil, or_false] at hc
  rcases hc with rfl | rfl | rfl | rfl | rfl
  · exact w_c0
  · exact w_c1
  · exact w_c2
  · exact w_c3
  · exact w_c4
set_option maxRecDepth 65536 in
theorem w_t1 : (words1.take 24).all (fun c => isCode c || c.before args0 about1) = true := by decide +kernel
set_option maxRecDepth 65536 in
theorem w_t2 : (words1.drop 24).all (fun c => isCode c || c.before args0 about1) = true := by decide +kernel
theorem w_tables : (allAtoms (Jvm.Cond.code x code maxLocals ret :: tables_1)).before args0 about1 = true := by
  rw [allAtoms_all]
  show words1.all (fun c => c.before args0 about1) = true
  refine all_split ?_ w_codes
  rw [← List.take_append_drop 24 words1, List.all_append, w_t1, w_t2]
  rfl
set_option maxRecDepth 65536 in
theorem w_case : (Jvm.Cond.and given_1 narrow_1).before args0 about1 = true := by decide +kernel
theorem w_applies : (headSpec (Jvm.Cond.code x code maxLocals ret :: tables_1) room_1).applies x e0.platform about1 = true :=
  (Spec.applies_iff w_frames).mpr ⟨w_running, w_runnable, w_alone, w_named, w_hears, w_ripe, w_room, w_tables⟩
theorem atStart : AtStart classFile x code maxLocals ret World_1 tables_1 room_1 Calls_1 rest_1 Pre_1 launch0 p0 e0 about1 theMethod args0 below0 :=
  ⟨lists_1, trivial, launch0.admits_env _ _ _, launch0.least_env, fairChoices_fair.cas, fairChoices_fair.clock, w_frames, w_args, w_heap, w_applies, trivial, trivial, w_case⟩
end start1
theorem witness_1 : WitnessClaimed_1 := ⟨start1.p0, start1.e0, start1.about1, start1.theMethod, start1.args0, start1.below0, start1.atStart⟩
end Jvm.Pilot.@@N@@
