import JvmDerived
import JvmDerived.Pilot.@@N@@Statement
import JvmDerived.Pilot.@@N@@Code
set_option linter.unusedVariables false
set_option linter.unusedSimpArgs false
@@BLOCK:NumsL.lean.txt@@
namespace Jvm.RoadKit
open Sem ClassFile Op Lib Jvm.Stand Jvm.Free Jvm.LawKit
section New
variable {p : Program} {l : Launch} {e : Env} {R : Room} {s : State} {m : MethodId} {args : Array Value} {below : List Frame} {meth : Method} {c : Code} {T : State} {locs : List Loc} {cells slots : Nat}
theorem retI (X : Stand p l e R s m args below meth c T locs cells slots) (hx : p.tables.exec = Jvm.exec) {pc : Nat} {Ls : Array Slot} {z : Int32} {rest : List Value} (hret : meth.sig.returnType = some .int) (hd : decode c.code pc = .ok (.ireturn, 1)) {fs : List Frame}
    (hl : ∀ (f : JFrame) (acts : List Action), f.method = m → f.locked = none → f.entered = [] → (doReturn e (T.setTop f) acts (some (.int z))).1 = T.setFrames fs) : Steps p.tables e below (T.setTop (mkF m pc Ls (.int z :: rest))) (T.setFrames fs) := by
  have hm' : T.vm.method? m = some meth := X.method'
  have hn : narrow .int (.int z) = .int z := rfl
  show Steps p.tables e below (T.setTop { method := m, pc := pc, locals := Ls, stack := _ :: rest, locked := none }) _
  jvm_step X.here [X.here.top, hx, hd, hm', hret, hn]
  first | (intro acts; rw [hl _ acts rfl rfl rfl]) | rw [hl _ _ rfl rfl rfl]
  exact Steps.refl _
theorem retD (X : Stand p l e R s m args below meth c T locs cells slots) (hx : p.tables.exec = Jvm.exec) {pc : Nat} {Ls : Array Slot} {z : UInt64} {rest : List Value} (hret : meth.sig.returnType = some .double) (hd : decode c.code pc = .ok (.dreturn, 1)) {fs : List Frame}
    (hl : ∀ (f : JFrame) (acts : List Action), f.method = m → f.locked = none → f.entered = [] → (doReturn e (T.setTop f) acts (some (.double z))).1 = T.setFrames fs) : Steps p.tables e below (T.setTop (mkF m pc Ls (.double z :: rest))) (T.setFrames fs) := by
  have hm' : T.vm.method? m = some meth := X.method'
  have hn : narrow .double (.double z) = .double z := rfl
  show Steps p.tables e below (T.setTop { method := m, pc := pc, locals := Ls, stack := _ :: rest, locked := none }) _
  jvm_step X.here [X.here.top, hx, hd, hm', hret, hn]
  first | (intro acts; rw [hl _ acts rfl rfl rfl]) | rw [hl _ _ rfl rfl rfl]
  exact Steps.refl _
end New
end Jvm.RoadKit
namespace Jvm.OwnFP
open Sem ClassFile Op Lib
theorem rem32_eq (x y : Int32) : x - x / y * y = x % y := Int32.toInt_inj.mp (by
  have a := (x % y).toInt_lt; have b := (x % y).le_toInt
  rw [Int32.toInt_mod] at a b ⊢
  rw [Int32.toInt_sub, Int32.toInt_mul, Int32.toInt_div, Int.bmod_mul_bmod, Int.sub_bmod_bmod, Int.mul_comm, ← Int.tmod_def]
  exact Jvm.Kit.bmod32 b a)
theorem cat1R {w : Value} (h : w.isRef = true) : w.category = 1 := by
  cases w <;> first | rfl | cases h
theorem rem64_eq (x y : Int64) : x - x / y * y = x % y := Int64.toInt_inj.mp (by rw [Jvm.Kit.i64_rem, Int64.toInt_mod])
theorem iremM {tb : Tables} [Ours tb] {e : Env} {below : List Frame} {T target : State} {m : MethodId} {c : Code} {g : JFrame} (h : At T m c below) (hx : tb.exec = Jvm.exec) (hg : g.method = m) {x y : Int32} {rest : List Value} (hd : decode c.code g.pc = .ok (.irem, 1)) (hs : g.stack = .int y :: .int x :: rest) (hy : y ≠ 0)
    (hr : Steps tb e below (T.setTop { g with pc := g.pc + 1, stack := .int (x % y) :: rest }) target) : Steps tb e below (T.setTop g) target := Jvm.Free.XS.irem h hx hg hd hs hy (by rw [rem32_eq]; exact hr)
theorem lremM {tb : Tables} [Ours tb] {e : Env} {below : List Frame} {T target : State} {m : MethodId} {c : Code} {g : JFrame} (h : At T m c below) (hx : tb.exec = Jvm.exec) (hg : g.method = m) {x y : Int64} {rest : List Value} (hd : decode c.code g.pc = .ok (.lrem, 1)) (hs : g.stack = .long y :: .long x :: rest) (hy : y ≠ 0)
    (hr : Steps tb e below (T.setTop { g with pc := g.pc + 1, stack := .long (x % y) :: rest }) target) : Steps tb e below (T.setTop g) target := Jvm.Free.XS.lrem h hx hg hd hs hy (by rw [rem64_eq]; exact hr)
end Jvm.OwnFP
namespace Jvm.OwnFP
open Jvm.FP.Core
/-! doubles by their values in units of 2^-1074: rounding is monotone, numbers of the format round to themselves -/
def zv (a : UInt64) : Int := zval b64 (val64 a)
/-- z (in units) is a number of the format -/
def Rep (z : Int) : Prop := ∃ V : Datum, Jvm.FP.Core.fits b64 V ∧ V ≠ .nan ∧ zval b64 V = z
abbrev O : Int := (one64 : Int)
theorem mmmc (a b c d : Int) : a * b * (c * d) = a * c * (b * d) := by rw [Int.mul_assoc, Int.mul_assoc, Int.mul_left_comm b]
theorem O_pos : 0 < O := by have := one64_pos; show (0 : Int) < (one64 : Int); omega
theorem qmax_b64 : b64.qmax = 971 := by decide +kernel
theorem signed_nat (n : Int) : signed (decide (n < 0)) n.natAbs = n := by
  unfold signed
  by_cases h : n < 0
  · simp only [h, decide_true, if_true]; omega
  · simp only [h, decide_false, Bool.false_eq_true, if_false]; omega
theorem rep_lt {n : Int} (k : Nat) (hn : n.natAbs < 9007199254740992) (hk : k ≤ 2000) : Rep (n * ((2 ^ k : Nat) : Int)) := by
  obtain ⟨c', q', h1, h2⟩ := round_exact good_b64 (decide (n < 0)) (c := n.natAbs) (q := (k : Int) - 1074) (Nat.lt_of_lt_of_le hn (by decide +kernel)) (by rw [qmin_b64]; omega) (by rw [qmax_b64]; omega)
  refine ⟨round b64 (.fin (decide (n < 0)) n.natAbs ((k : Int) - 1074)), round_fits good_b64 _, ?_, ?_⟩
  · rw [h1]; exact Datum.noConfusion
  · rw [h1]
    show signed (decide (n < 0)) (inUnits c' q' b64.qmin) = _
    rw [h2]
    unfold inUnits
    rw [qmin_b64, signed_mul, signed_nat, show ((k : Int) - 1074 - -1074).toNat = k by omega]
theorem rep_le {n : Int} (k : Nat) (hn : n.natAbs ≤ 9007199254740992) (hk : k ≤ 1999) : Rep (n * ((2 ^ k : Nat) : Int)) := by
  by_cases h : n.natAbs < 9007199254740992
  · exact rep_lt k h (by omega)
  · have h2 : n = 9007199254740992 ∨ n = -9007199254740992 := by omega
    have e : ∀ m : Int, (m * 2) * ((2 ^ k : Nat) : Int) = m * ((2 ^ (k + 1) : Nat) : Int) := fun m => by
      rw [Nat.pow_succ, Int.natCast_mul, Int.mul_assoc, Int.mul_comm 2]; rfl
    rcases h2 with rfl | rfl
    · rw [show (9007199254740992 : Int) = 4503599627370496 * 2 by decide, e]; exact rep_lt (k + 1) (by decide) (by omega)
    · rw [show (-9007199254740992 : Int) = -4503599627370496 * 2 by decide, e]; exact rep_lt (k + 1) (by decide) (by omega)
theorem pow_split (k j : Nat) : ((2 ^ (k + j) : Nat) : Int) = ((2 ^ k : Nat) : Int) * ((2 ^ j : Nat) : Int) := by rw [Nat.pow_add, Int.natCast_mul]
theorem pow_O (j : Nat) (hj : j ≤ 1074) : O = ((2 ^ j : Nat) : Int) * ((2 ^ (1074 - j) : Nat) : Int) := by
  rw [← pow_split, show j + (1074 - j) = 1074 by omega]; rfl
/-- a whole number -/
theorem rep_int {n : Int} (hn : n.natAbs ≤ 9007199254740992) : Rep (n * O) := by
  have := rep_le (n := n) 1074 hn (by decide)
  exact this
/-- n halves .. : n / 2^j -/
theorem rep_frac {n : Int} (j : Nat) (hj : j ≤ 1074) {z : Int} (hn : n.natAbs ≤ 9007199254740992) (h : z * ((2 ^ j : Nat) : Int) = n * O) : Rep z := by
  have h1 := rep_le (n := n) (1074 - j) hn (by omega)
  have hp : (0 : Int) < ((2 ^ j : Nat) : Int) := Int.natCast_pos.mpr (Nat.two_pow_pos j)
  have e : z = n * ((2 ^ (1074 - j) : Nat) : Int) := by
    refine Int.eq_of_mul_eq_mul_right (Int.ne_of_gt hp) ?_
    rw [h, pow_O j hj, Int.mul_assoc, Int.mul_comm ((2 ^ (1074 - j) : Nat) : Int)]
  rw [e]; exact h1
theorem Rep.neg {z : Int} (h : Rep z) : Rep (-z) := by
  obtain ⟨V, h1, h2, rfl⟩ := h
  exact ⟨negate V, negate_fits h1, negate_ne_nan h2, zval_negate b64 V⟩
theorem rep_zv {a : UInt64} (h : val64 a ≠ .nan) : Rep (zv a) := ⟨val64 a, val64_fits a, h, rfl⟩
theorem fin_of {a : UInt64} (h : DFin a) : ∃ s c q, val64 a = .fin s c q ∧ Jvm.FP.Core.fits b64 (.fin s c q) := by
  obtain ⟨s, c, q, h⟩ := h
  exact ⟨s, c, q, h, h ▸ val64_fits a⟩
/-! whole numbers -/
theorem l2d_le {n : Int64} {z : Int} (hz : Rep z) (h : n.toInt * O ≤ z) : zv (Jvm.FP.l2d n) ≤ z := by
  obtain ⟨V, fV, nV, rfl⟩ := hz
  show zval b64 (val64 (l2d n)) ≤ _
  rw [val64_l2d]
  refine zval_round_le good_b64 fV nV (e0 := b64.qmin) (Int.le_refl _) (by decide +kernel) ?_
  rw [ofInt_units b64, pow_qmin64, Int.sub_self]
  show _ ≤ _ * ((1 : Nat) : Int)
  rw [show ((1 : Nat) : Int) = 1 from rfl, Int.mul_one]; exact h
theorem l2d_ge {n : Int64} {z : Int} (hz : Rep z) (h : z ≤ n.toInt * O) : z ≤ zv (Jvm.FP.l2d n) := by
  obtain ⟨V, fV, nV, rfl⟩ := hz
  show _ ≤ zval b64 (val64 (l2d n))
  rw [val64_l2d]
  refine zval_round_ge good_b64 fV nV (e0 := b64.qmin) (Int.le_refl _) (by decide +kernel) ?_
  rw [ofInt_units b64, pow_qmin64, Int.sub_self]
  show _ * ((1 : Nat) : Int) ≤ _
  rw [show ((1 : Nat) : Int) = 1 from rfl, Int.mul_one]; exact h
theorem l2d_eq {n : Int64} (h : n.toInt.natAbs ≤ 9007199254740992) : zv (Jvm.FP.l2d n) = n.toInt * O :=
  Int.le_antisymm (l2d_le (rep_int h) (Int.le_refl _)) (l2d_ge (rep_int h) (Int.le_refl _))
theorem i2d_eq (n : Int32) : zv (Jvm.FP.i2d n) = n.toInt * O := DInt_zval (i2d_int n)
theorem l2dF (n : Int64) : DFin (Jvm.FP.l2d n) := l2d_fin n
theorem i2dF (n : Int32) : DFin (Jvm.FP.i2d n) := i2d_fin n
/-! products -/
theorem mul_le {a b : UInt64} {z : Int} (ha : DFin a) (hb : DFin b) (hz : Rep z) (h : zv a * zv b ≤ z * O) : zv (Jvm.FP.dmul a b) ≤ z := by
  obtain ⟨V, fV, nV, rfl⟩ := hz
  obtain ⟨s, c, q, ea, fa⟩ := fin_of ha
  obtain ⟨t, d, r, eb, fb⟩ := fin_of hb
  unfold zv at h ⊢
  rw [ea, eb] at h
  show zval b64 (val64 (dmul a b)) ≤ _
  rw [val64_dmul, ea, eb]
  obtain ⟨h1, h2, h3⟩ := product_units fa fb
  rw [h1]
  refine zval_round_le good_b64 fV nV (e0 := 2 * b64.qmin) (by rw [qmin_b64]; decide) h2 ?_
  rw [h3, signed_xor, show (b64.qmin - 2 * b64.qmin).toNat = (-b64.qmin).toNat by omega, pow_qmin64]
  exact h
theorem mul_ge {a b : UInt64} {z : Int} (ha : DFin a) (hb : DFin b) (hz : Rep z) (h : z * O ≤ zv a * zv b) : z ≤ zv (Jvm.FP.dmul a b) := by
  obtain ⟨V, fV, nV, rfl⟩ := hz
  obtain ⟨s, c, q, ea, fa⟩ := fin_of ha
  obtain ⟨t, d, r, eb, fb⟩ := fin_of hb
  unfold zv at h ⊢
  rw [ea, eb] at h
  show _ ≤ zval b64 (val64 (dmul a b))
  rw [val64_dmul, ea, eb]
  obtain ⟨h1, h2, h3⟩ := product_units fa fb
  rw [h1]
  refine zval_round_ge good_b64 fV nV (e0 := 2 * b64.qmin) (by rw [qmin_b64]; decide) h2 ?_
  rw [h3, signed_xor, show (b64.qmin - 2 * b64.qmin).toNat = (-b64.qmin).toNat by omega, pow_qmin64]
  exact h
theorem mul_eq {a b : UInt64} {z : Int} (ha : DFin a) (hb : DFin b) (hz : Rep z) (h : zv a * zv b = z * O) : zv (Jvm.FP.dmul a b) = z :=
  Int.le_antisymm (mul_le ha hb hz (Int.le_of_eq h)) (mul_ge ha hb hz (Int.le_of_eq h.symm))
/-! sums -/
theorem add_le {a b : UInt64} {z : Int} (ha : DFin a) (hb : DFin b) (hz : Rep z) (h : zv a + zv b ≤ z) : zv (Jvm.FP.dadd a b) ≤ z := by
  obtain ⟨V, fV, nV, rfl⟩ := hz
  show zval b64 (val64 (dadd a b)) ≤ _
  rw [val64_dadd]
  exact sum_le good_b64 ha hb (val64_fits a) (val64_fits b) fV nV h
theorem add_ge {a b : UInt64} {z : Int} (ha : DFin a) (hb : DFin b) (hz : Rep z) (h : z ≤ zv a + zv b) : z ≤ zv (Jvm.FP.dadd a b) := by
  obtain ⟨V, fV, nV, rfl⟩ := hz
  show _ ≤ zval b64 (val64 (dadd a b))
  rw [val64_dadd]
  exact sum_ge good_b64 ha hb (val64_fits a) (val64_fits b) fV nV h
theorem add_eq {a b : UInt64} {z : Int} (ha : DFin a) (hb : DFin b) (hz : Rep z) (h : zv a + zv b = z) : zv (Jvm.FP.dadd a b) = z :=
  Int.le_antisymm (add_le ha hb hz (Int.le_of_eq h)) (add_ge ha hb hz (Int.le_of_eq h.symm))
theorem fin_negate {b : UInt64} (hb : DFin b) : ∃ s c q, negate (val64 b) = .fin s c q := by
  obtain ⟨s, c, q, h⟩ := hb
  rw [h]; exact ⟨_, _, _, rfl⟩
theorem sub_le {a b : UInt64} {z : Int} (ha : DFin a) (hb : DFin b) (hz : Rep z) (h : zv a - zv b ≤ z) : zv (Jvm.FP.dsub a b) ≤ z := by
  obtain ⟨V, fV, nV, rfl⟩ := hz
  show zval b64 (val64 (dsub a b)) ≤ _
  rw [val64_dsub]
  refine sum_le good_b64 ha (fin_negate hb) (val64_fits a) (negate_fits (val64_fits b)) fV nV ?_
  rw [zval_negate]; unfold zv at h; omega
theorem sub_ge {a b : UInt64} {z : Int} (ha : DFin a) (hb : DFin b) (hz : Rep z) (h : z ≤ zv a - zv b) : z ≤ zv (Jvm.FP.dsub a b) := by
  obtain ⟨V, fV, nV, rfl⟩ := hz
  show _ ≤ zval b64 (val64 (dsub a b))
  rw [val64_dsub]
  refine sum_ge good_b64 ha (fin_negate hb) (val64_fits a) (negate_fits (val64_fits b)) fV nV ?_
  rw [zval_negate]; unfold zv at h; omega
theorem sub_eq {a b : UInt64} {z : Int} (ha : DFin a) (hb : DFin b) (hz : Rep z) (h : zv a - zv b = z) : zv (Jvm.FP.dsub a b) = z :=
  Int.le_antisymm (sub_le ha hb hz (Int.le_of_eq h)) (sub_ge ha hb hz (Int.le_of_eq h.symm))
/-! quotients -/
theorem ratio_le {s : Bool} {A B : Nat} {e e0 : Int} {V : Datum} (hB : 0 < B) (hV : Jvm.FP.Core.fits b64 V) (hn : V ≠ .nan) (h0 : e0 ≤ b64.qmin) (h0e : e0 ≤ e)
    (h : signed s (inUnits A e e0) ≤ zval b64 V * ((2 ^ (b64.qmin - e0).toNat * B : Nat) : Int)) : zval b64 (roundRatio b64 s A B e) ≤ zval b64 V := by
  have hle := zmag_roundRatio_le good_b64 (s := s) (A := A) hB hV hn h0 h0e
  have hge := zmag_roundRatio_ge good_b64 (s := s) (A := A) hB hV h0 h0e
  have hP : 0 < 2 ^ (b64.qmin - e0).toNat * B := Nat.mul_pos (Nat.two_pow_pos _) hB
  rw [Nat.mul_assoc] at hle hge
  unfold zval at h ⊢
  rw [sgn_roundRatio]
  rw [← signed_mul] at h
  have hz : zmag b64 V * (2 ^ (b64.qmin - e0).toNat * B) = 0 → zmag b64 V = 0 := by
    intro h
    rcases Nat.mul_eq_zero.mp h with h | h <;> omega
  generalize zmag b64 V * (2 ^ (b64.qmin - e0).toNat * B) = vP at *
  generalize sgn V = t at *
  cases s <;> cases t <;> simp only [signed, if_true, Bool.false_eq_true, if_false] at h ⊢
  · have := hle (by omega); omega
  · have := hle (by omega); have := hz (by omega); omega
  · omega
  · have := hge (by omega); omega
theorem signed_flip (s : Bool) (m : Nat) : signed (!s) m = -signed s m := by cases s <;> simp [signed]
theorem ratio_ge {s : Bool} {A B : Nat} {e e0 : Int} {V : Datum} (hB : 0 < B) (hV : Jvm.FP.Core.fits b64 V) (hn : V ≠ .nan) (h0 : e0 ≤ b64.qmin) (h0e : e0 ≤ e)
    (h : zval b64 V * ((2 ^ (b64.qmin - e0).toNat * B : Nat) : Int) ≤ signed s (inUnits A e e0)) : zval b64 V ≤ zval b64 (roundRatio b64 s A B e) := by
  have h1 := ratio_le (s := !s) (A := A) (e := e) (V := negate V) hB (negate_fits hV) (negate_ne_nan hn) h0 h0e (by
    rw [zval_negate, Int.neg_mul, signed_flip]; omega)
  rw [zval_negate, ← negate_roundRatio, zval_negate] at h1
  omega
theorem zval_fin (s : Bool) (c : Nat) (q : Int) : zval b64 (.fin s c q) = signed s c * ((2 ^ (q - b64.qmin).toNat : Nat) : Int) := by
  show signed s (inUnits c q b64.qmin) = _
  unfold inUnits; rw [signed_mul]
theorem pow_mul_eq {a b c d : Nat} (h : a + b = c + d) : (2 ^ a * 2 ^ b : Nat) = 2 ^ c * 2 ^ d := by rw [← Nat.pow_add, ← Nat.pow_add, h]
/-- how c·2^q / (d·2^r) ≤ z reads in units -/
theorem div_units {s : Bool} {c d : Nat} {q r : Int} (hq : b64.qmin ≤ q) (hr : b64.qmin ≤ r) :
    ∃ (x y : Nat), (signed s (inUnits c (q - r) (min b64.qmin (q - r)))) * ((2 ^ x : Nat) : Int) = (signed s c * ((2 ^ (q - b64.qmin).toNat : Nat) : Int)) * O * ((2 ^ y : Nat) : Int) ∧
      ∀ z : Int, (z * ((2 ^ (b64.qmin - min b64.qmin (q - r)).toNat * d : Nat) : Int)) * ((2 ^ x : Nat) : Int) = z * ((d : Int) * ((2 ^ (r - b64.qmin).toNat : Nat) : Int)) * ((2 ^ y : Nat) : Int) := by
  have hO : O = ((2 ^ (-b64.qmin).toNat : Nat) : Int) := by rw [pow_qmin64]
  have hqm : b64.qmin ≤ 0 := by rw [qmin_b64]; decide
  refine ⟨(r - 2 * b64.qmin + min b64.qmin (q - r)).toNat, (-(r - 2 * b64.qmin + min b64.qmin (q - r))).toNat, ?_, fun z => ?_⟩
  · unfold inUnits
    rw [signed_mul, hO]
    have e : (q - r - min b64.qmin (q - r)).toNat + (r - 2 * b64.qmin + min b64.qmin (q - r)).toNat = ((q - b64.qmin).toNat + (-b64.qmin).toNat) + (-(r - 2 * b64.qmin + min b64.qmin (q - r))).toNat := by omega
    have e2 := pow_mul_eq e
    rw [Nat.pow_add _ (q - b64.qmin).toNat] at e2
    have e3 : (((2 ^ (q - r - min b64.qmin (q - r)).toNat : Nat) : Int)) * ((2 ^ (r - 2 * b64.qmin + min b64.qmin (q - r)).toNat : Nat) : Int) = ((2 ^ (q - b64.qmin).toNat : Nat) : Int) * ((2 ^ (-b64.qmin).toNat : Nat) : Int) * ((2 ^ (-(r - 2 * b64.qmin + min b64.qmin (q - r))).toNat : Nat) : Int) := by
      rw [← Int.natCast_mul, ← Int.natCast_mul, ← Int.natCast_mul, e2]
    rw [Int.mul_assoc, e3]; simp only [Int.mul_assoc]
  · have e : (b64.qmin - min b64.qmin (q - r)).toNat + (r - 2 * b64.qmin + min b64.qmin (q - r)).toNat = (r - b64.qmin).toNat + (-(r - 2 * b64.qmin + min b64.qmin (q - r))).toNat := by omega
    have e2 := pow_mul_eq e
    have e3 : ((2 ^ (b64.qmin - min b64.qmin (q - r)).toNat * d : Nat) : Int) * ((2 ^ (r - 2 * b64.qmin + min b64.qmin (q - r)).toNat : Nat) : Int) = ((d : Int) * ((2 ^ (r - b64.qmin).toNat : Nat) : Int)) * ((2 ^ (-(r - 2 * b64.qmin + min b64.qmin (q - r))).toNat : Nat) : Int) := by
      rw [← Int.natCast_mul, ← Int.natCast_mul, ← Int.natCast_mul, Nat.mul_right_comm, e2, Nat.mul_comm d, Nat.mul_right_comm]
    rw [Int.mul_assoc, e3]; simp only [Int.mul_assoc]
theorem pos_fin {s : Bool} {c : Nat} {q : Int} (h : 0 < signed s c * ((2 ^ (q - b64.qmin).toNat : Nat) : Int)) : s = false ∧ 0 < c := by
  have hp : (0 : Int) < ((2 ^ (q - b64.qmin).toNat : Nat) : Int) := Int.natCast_pos.mpr (Nat.two_pow_pos _)
  have h1 : 0 < signed s c := by
    refine Int.lt_of_not_ge fun hle => ?_
    have := Int.mul_le_mul_of_nonneg_right hle (Int.le_of_lt hp)
    omega
  cases s
  · exact ⟨rfl, by simp only [signed, Bool.false_eq_true, if_false] at h1; omega⟩
  · simp only [signed, if_true] at h1; omega
theorem div_parts {a b : UInt64} (ha : DFin a) (hb : DFin b) (hp : 0 < zv b) : ∃ s c q d r, val64 (Jvm.FP.ddiv a b) = roundRatio b64 s c d (q - r) ∧ 0 < d ∧ b64.qmin ≤ q ∧ b64.qmin ≤ r ∧
    zv a = signed s c * ((2 ^ (q - b64.qmin).toNat : Nat) : Int) ∧ zv b = (d : Int) * ((2 ^ (r - b64.qmin).toNat : Nat) : Int) := by
  obtain ⟨s, c, q, ea, fa⟩ := fin_of ha
  obtain ⟨t, d, r, eb, fb⟩ := fin_of hb
  unfold zv at hp ⊢
  rw [eb, zval_fin] at hp
  obtain ⟨rfl, hd⟩ := pos_fin hp
  refine ⟨s, c, q, d, r, ?_, hd, fa.2.1, fb.2.1, ?_, ?_⟩
  · show val64 (ddiv a b) = _
    rw [val64_ddiv, ea, eb]
    show (if d = 0 then _ else roundRatio b64 (s != false) c d (q - r)) = _
    rw [if_neg (by omega)]
    cases s <;> rfl
  · rw [ea, zval_fin]
  · rw [eb, zval_fin]; rfl
theorem div_le {a b : UInt64} {z : Int} (ha : DFin a) (hb : DFin b) (hp : 0 < zv b) (hz : Rep z) (h : zv a * O ≤ z * zv b) : zv (Jvm.FP.ddiv a b) ≤ z := by
  obtain ⟨s, c, q, d, r, e1, hd, hq, hr, e2, e3⟩ := div_parts ha hb hp
  obtain ⟨V, fV, nV, rfl⟩ := hz
  unfold zv at h ⊢
  rw [e1]
  refine ratio_le hd fV nV (e0 := min b64.qmin (q - r)) (by omega) (by omega) ?_
  obtain ⟨x, y, u1, u2⟩ := div_units (s := s) (c := c) (d := d) hq hr
  refine Int.le_of_mul_le_mul_right (a := ((2 ^ x : Nat) : Int)) ?_ (Int.natCast_pos.mpr (Nat.two_pow_pos x))
  rw [u1, u2]
  refine Int.mul_le_mul_of_nonneg_right ?_ (Int.natCast_nonneg _)
  rw [← e2, ← e3]; exact h
theorem div_ge {a b : UInt64} {z : Int} (ha : DFin a) (hb : DFin b) (hp : 0 < zv b) (hz : Rep z) (h : z * zv b ≤ zv a * O) : z ≤ zv (Jvm.FP.ddiv a b) := by
  obtain ⟨s, c, q, d, r, e1, hd, hq, hr, e2, e3⟩ := div_parts ha hb hp
  obtain ⟨V, fV, nV, rfl⟩ := hz
  unfold zv at h ⊢
  rw [e1]
  refine ratio_ge hd fV nV (e0 := min b64.qmin (q - r)) (by omega) (by omega) ?_
  obtain ⟨x, y, u1, u2⟩ := div_units (s := s) (c := c) (d := d) hq hr
  refine Int.le_of_mul_le_mul_right (a := ((2 ^ x : Nat) : Int)) ?_ (Int.natCast_pos.mpr (Nat.two_pow_pos x))
  rw [u1, u2]
  refine Int.mul_le_mul_of_nonneg_right ?_ (Int.natCast_nonneg _)
  rw [← e2, ← e3]; exact h
theorem div_eq {a b : UInt64} {z : Int} (ha : DFin a) (hb : DFin b) (hp : 0 < zv b) (hz : Rep z) (h : zv a * O = z * zv b) : zv (Jvm.FP.ddiv a b) = z :=
  Int.le_antisymm (div_le ha hb hp hz (Int.le_of_eq h)) (div_ge ha hb hp hz (Int.le_of_eq h.symm))
/-! no NaNs, finite results -/
theorem nn_fin {a : UInt64} (h : DFin a) : Jvm.Free.Fl.NoNaN64 a := Jvm.Free.Fl.val64_no.mpr h.ne_nan
theorem nn_mul {a b : UInt64} (ha : DFin a) (hb : DFin b) : Jvm.Free.Fl.NoNaN64 (Jvm.FP.dmul a b) := Jvm.Free.Fl.noNaN64_no.mpr (dmul_out ha hb)
theorem nn_add {a b : UInt64} (ha : DFin a) (hb : DFin b) : Jvm.Free.Fl.NoNaN64 (Jvm.FP.dadd a b) := Jvm.Free.Fl.noNaN64_no.mpr (dadd_out ha.notNaN hb)
theorem nn_sub {a b : UInt64} (ha : DFin a) (hb : DFin b) : Jvm.Free.Fl.NoNaN64 (Jvm.FP.dsub a b) := Jvm.Free.Fl.noNaN64_no.mpr (dsub_out ha.notNaN hb)
theorem zv_zero {a : UInt64} (h : DZero a) : zv a = 0 := h.zval
theorem nn_div {a b : UInt64} (ha : DFin a) (hb : DFin b) (hz : zv b ≠ 0) : Jvm.Free.Fl.NoNaN64 (Jvm.FP.ddiv a b) := Jvm.Free.Fl.noNaN64_no.mpr (ddiv_out ha.notNaN hb fun q => hz (zv_zero q))
theorem nn_ne {a : UInt64} (h : Jvm.Free.Fl.NoNaN64 a) : val64 a ≠ .nan := Jvm.Free.Fl.val64_no.mp h
theorem top_big : 18446744073709551616 * one64 < b64.tails * 2 ^ (b64.exps - 2) := by decide +kernel
theorem zmag_zv (a : UInt64) : ((zmag b64 (val64 a) : Nat) : Int) = zv a ∨ ((zmag b64 (val64 a) : Nat) : Int) = -zv a := by
  unfold zv zval
  cases sgn (val64 a) <;> simp [signed]
theorem fin_of_zv {a : UInt64} (h : Jvm.Free.Fl.NoNaN64 a) (h1 : -(18446744073709551616 * O) ≤ zv a) (h2 : zv a ≤ 18446744073709551616 * O) : DFin a := by
  have hn := nn_ne h
  cases e : val64 a with
  | nan => exact absurd e hn
  | fin s c q => exact ⟨s, c, q, e⟩
  | inf s =>
    exfalso
    have hz : zmag b64 (val64 a) = b64.tails * 2 ^ (b64.exps - 2) := by rw [e]; rfl
    have ht := top_big
    have hc := zmag_zv a
    rw [hz] at hc
    generalize b64.tails * 2 ^ (b64.exps - 2) = T at *
    unfold O at h1 h2
    rcases hc with hc | hc <;> omega
/-! comparisons -/
theorem cmp_zv {a b : UInt64} (ha : Jvm.Free.Fl.NoNaN64 a) (hb : Jvm.Free.Fl.NoNaN64 b) : Jvm.FP.dcmp a b = some (compare (zv a) (zv b)) := dcmp_zval (nn_ne ha) (nn_ne hb)
theorem compare_if (x y : Int) : compare x y = if x < y then .lt else if x = y then .eq else .gt := rfl
open Jvm.Op in
theorem if_lt {a b : UInt64} (ha : Jvm.Free.Fl.NoNaN64 a) (hb : Jvm.Free.Fl.NoNaN64 b) (o : Jvm.ClassFile.CmpOp) : ifCond.holds .lt (cmpValue (Jvm.FP.dcmp a b) o) = decide (zv a < zv b) := by
  rw [cmp_zv ha hb, compare_if]; by_cases h1 : zv a < zv b
  · simp only [h1, if_true]; cases o <;> decide
  · by_cases h2 : zv a = zv b
    · simp only [h1, h2, Int.lt_irrefl, if_true, if_false]; cases o <;> decide
    · simp only [h1, h2, if_false]; cases o <;> decide
open Jvm.Op in
theorem if_ge {a b : UInt64} (ha : Jvm.Free.Fl.NoNaN64 a) (hb : Jvm.Free.Fl.NoNaN64 b) (o : Jvm.ClassFile.CmpOp) : ifCond.holds .ge (cmpValue (Jvm.FP.dcmp a b) o) = decide (zv b ≤ zv a) := by
  rw [cmp_zv ha hb, compare_if]; by_cases h1 : zv a < zv b
  · have : ¬ zv b ≤ zv a := by omega
    simp only [h1, this, if_true]; cases o <;> decide
  · have : zv b ≤ zv a := by omega
    by_cases h2 : zv a = zv b
    · simp only [h1, h2, this, Int.lt_irrefl, Int.le_refl, if_true, if_false]; cases o <;> decide
    · simp only [h1, h2, this, if_false]; cases o <;> decide
open Jvm.Op in
theorem if_gt {a b : UInt64} (ha : Jvm.Free.Fl.NoNaN64 a) (hb : Jvm.Free.Fl.NoNaN64 b) (o : Jvm.ClassFile.CmpOp) : ifCond.holds .gt (cmpValue (Jvm.FP.dcmp a b) o) = decide (zv b < zv a) := by
  rw [cmp_zv ha hb, compare_if]; by_cases h1 : zv a < zv b
  · have : ¬ zv b < zv a := by omega
    simp only [h1, this, if_true]; cases o <;> decide
  · by_cases h2 : zv a = zv b
    · simp only [h1, h2, Int.lt_irrefl, if_true, if_false]; cases o <;> decide
    · have : zv b < zv a := by omega
      simp only [h1, h2, this, if_false]; cases o <;> decide
open Jvm.Op in
theorem if_le {a b : UInt64} (ha : Jvm.Free.Fl.NoNaN64 a) (hb : Jvm.Free.Fl.NoNaN64 b) (o : Jvm.ClassFile.CmpOp) : ifCond.holds .le (cmpValue (Jvm.FP.dcmp a b) o) = decide (zv a ≤ zv b) := by
  rw [cmp_zv ha hb, compare_if]; by_cases h1 : zv a < zv b
  · have : zv a ≤ zv b := by omega
    simp only [h1, this, if_true]; cases o <;> decide
  · by_cases h2 : zv a = zv b
    · simp only [h1, h2, Int.lt_irrefl, Int.le_refl, if_true, if_false]; cases o <;> decide
    · have : ¬ zv a ≤ zv b := by omega
      simp only [h1, h2, this, if_false]; cases o <;> decide
open Jvm.Op in
theorem if_eq {a b : UInt64} (ha : Jvm.Free.Fl.NoNaN64 a) (hb : Jvm.Free.Fl.NoNaN64 b) (o : Jvm.ClassFile.CmpOp) : ifCond.holds .eq (cmpValue (Jvm.FP.dcmp a b) o) = decide (zv a = zv b) := by
  rw [cmp_zv ha hb, compare_if]; by_cases h1 : zv a < zv b
  · have : ¬ zv a = zv b := by omega
    simp only [h1, this, if_true]; cases o <;> decide
  · by_cases h2 : zv a = zv b
    · simp only [h2, Int.lt_irrefl, if_true, if_false]; cases o <;> decide
    · simp only [h1, h2, if_false]; cases o <;> decide
open Jvm.Op in
theorem if_ne {a b : UInt64} (ha : Jvm.Free.Fl.NoNaN64 a) (hb : Jvm.Free.Fl.NoNaN64 b) (o : Jvm.ClassFile.CmpOp) : ifCond.holds .ne (cmpValue (Jvm.FP.dcmp a b) o) = decide (¬ zv a = zv b) := by
  rw [cmp_zv ha hb, compare_if]; by_cases h1 : zv a < zv b
  · have : ¬ zv a = zv b := by omega
    simp only [h1, this, if_true]; cases o <;> decide
  · by_cases h2 : zv a = zv b
    · simp only [h2, Int.lt_irrefl, if_true, if_false]; cases o <;> decide
    · simp only [h1, h2, if_false]; cases o <;> decide
/-! longs and ints compared -/
open Jvm.Op Jvm.RoadKit in
theorem lw (cd : Jvm.ClassFile.Cond) (x y : Int64) : ifCond.holds cd (lcmpW x y) = (match cd with | .lt => decide (x.toInt < y.toInt) | .le => decide (x.toInt ≤ y.toInt) | .gt => decide (y.toInt < x.toInt) | .ge => decide (y.toInt ≤ x.toInt) | .eq => decide (x.toInt = y.toInt) | .ne => decide (¬ x.toInt = y.toInt)) := by
  unfold lcmpW
  simp only [gt_iff_lt, Int64.lt_iff_toInt_lt, ← Int64.toInt_inj]
  by_cases h1 : y.toInt < x.toInt
  · rw [if_pos h1]
    cases cd <;> simp only [h1, show ¬ x.toInt < y.toInt by omega, show ¬ x.toInt ≤ y.toInt by omega, show y.toInt ≤ x.toInt by omega, show ¬ x.toInt = y.toInt by omega] <;> decide
  · rw [if_neg h1]
    by_cases h2 : x.toInt = y.toInt
    · rw [if_pos h2, h2]
      cases cd <;> simp only [Int.lt_irrefl, Int.le_refl] <;> decide
    · rw [if_neg h2]
      cases cd <;> simp only [h1, h2, show x.toInt < y.toInt by omega, show x.toInt ≤ y.toInt by omega, show ¬ y.toInt ≤ x.toInt by omega] <;> decide
theorem i0_iff (x : Int32) : x = 0 ↔ x.toInt = 0 := by rw [← Int32.toInt_inj]; rfl
open Jvm.Op in
theorem iw (cd : Jvm.ClassFile.Cond) (x : Int32) : ifCond.holds cd x = (match cd with | .lt => decide (x.toInt < 0) | .le => decide (x.toInt ≤ 0) | .gt => decide (0 < x.toInt) | .ge => decide (0 ≤ x.toInt) | .eq => decide (x.toInt = 0) | .ne => decide (¬ x.toInt = 0)) := by
  have e0 : (0 : Int32).toInt = 0 := by decide
  cases cd <;> simp only [ifCond.holds, gt_iff_lt, ge_iff_le, Int32.lt_iff_toInt_lt, Int32.le_iff_toInt_le, e0]
  · by_cases h : x = 0
    · subst h; decide
    · have h' : ¬ x.toInt = 0 := fun q => h ((i0_iff x).mpr q)
      simp [h, h']
  · by_cases h : x = 0
    · subst h; decide
    · have h' : ¬ x.toInt = 0 := fun q => h ((i0_iff x).mpr q)
      simp [h, h']
end Jvm.OwnFP
namespace Jvm.OwnFP
open Jvm.FP.Core
/-! a long divided by a power of two -/
def P (k : Nat) : Int := ((2 ^ (1074 - k) : Nat) : Int)
theorem P_pos (k : Nat) : 0 < P k := Int.natCast_pos.mpr (Nat.two_pow_pos _)
theorem P_O {k : Nat} (hk : k ≤ 1074) : ((2 ^ k : Nat) : Int) * P k = O := (pow_O k hk).symm
theorem rep_P {m : Int} (k : Nat) (hm : m.natAbs ≤ 9007199254740992) : Rep (m * P k) := rep_le (1074 - k) hm (by omega)
theorem q_le {x : Int64} {b : UInt64} {k : Nat} (hk : k ≤ 1000) (hF : DFin b) (hb : zv b = ((2 ^ k : Nat) : Int) * O) {m : Int} (hm : m.natAbs ≤ 9007199254740992) (h : x.toInt ≤ m) : zv (Jvm.FP.ddiv (Jvm.FP.l2d x) b) ≤ m * P k := by
  have hO := O_pos
  have h2 : (0 : Int) < ((2 ^ k : Nat) : Int) := Int.natCast_pos.mpr (Nat.two_pow_pos _)
  refine div_le (l2dF x) hF (by rw [hb]; exact Int.mul_pos h2 hO) (rep_P k hm) ?_
  have h1 : zv (Jvm.FP.l2d x) ≤ m * O := l2d_le (rep_int hm) (Int.mul_le_mul_of_nonneg_right h (Int.le_of_lt hO))
  rw [hb, ← Int.mul_assoc]
  refine Int.mul_le_mul_of_nonneg_right ?_ (Int.le_of_lt hO)
  rw [Int.mul_assoc, Int.mul_comm (P k), P_O (by omega)]
  exact h1
theorem q_ge {x : Int64} {b : UInt64} {k : Nat} (hk : k ≤ 1000) (hF : DFin b) (hb : zv b = ((2 ^ k : Nat) : Int) * O) {m : Int} (hm : m.natAbs ≤ 9007199254740992) (h : m ≤ x.toInt) : m * P k ≤ zv (Jvm.FP.ddiv (Jvm.FP.l2d x) b) := by
  have hO := O_pos
  have h2 : (0 : Int) < ((2 ^ k : Nat) : Int) := Int.natCast_pos.mpr (Nat.two_pow_pos _)
  refine div_ge (l2dF x) hF (by rw [hb]; exact Int.mul_pos h2 hO) (rep_P k hm) ?_
  have h1 : m * O ≤ zv (Jvm.FP.l2d x) := l2d_ge (rep_int hm) (Int.mul_le_mul_of_nonneg_right h (Int.le_of_lt hO))
  rw [hb, ← Int.mul_assoc]
  refine Int.mul_le_mul_of_nonneg_right ?_ (Int.le_of_lt hO)
  rw [Int.mul_assoc, Int.mul_comm (P k), P_O (by omega)]
  exact h1
/-- the quotient against a whole number -/
theorem q_cmp {x : Int64} {b : UInt64} {k : Nat} (hk : k ≤ 1000) (hF : DFin b) (hb : zv b = ((2 ^ k : Nat) : Int) * O) {B m : Int} (hm : m = B * ((2 ^ k : Nat) : Int)) (hm1 : m.natAbs < 9007199254740992) :
    (zv (Jvm.FP.ddiv (Jvm.FP.l2d x) b) ≤ B * O ↔ x.toInt ≤ m) ∧ (B * O ≤ zv (Jvm.FP.ddiv (Jvm.FP.l2d x) b) ↔ m ≤ x.toInt) := by
  have e : B * O = m * P k := by rw [hm, Int.mul_assoc, P_O (by omega)]
  have hP := P_pos k
  rw [e]
  refine ⟨⟨fun h => Int.not_lt.mp fun hl => ?_, fun h => q_le hk hF hb (by omega) h⟩, ⟨fun h => Int.not_lt.mp fun hl => ?_, fun h => q_ge hk hF hb (by omega) h⟩⟩
  · have := q_ge hk hF hb (x := x) (m := m + 1) (by omega) (by omega)
    rw [Int.add_mul] at this; omega
  · have := q_le hk hF hb (x := x) (m := m - 1) (by omega) (by omega)
    rw [Int.sub_mul] at this; omega
theorem neg_zv (a : UInt64) : zv (Jvm.FP.dneg a) = -zv a := by
  unfold zv; rw [Jvm.FP.val64_dneg, zval_negate]
theorem nn_neg {a : UInt64} (h : Jvm.Free.Fl.NoNaN64 a) : Jvm.Free.Fl.NoNaN64 (Jvm.FP.dneg a) := by
  refine Jvm.Free.Fl.val64_no.mpr ?_
  rw [Jvm.FP.val64_dneg]; exact negate_ne_nan (nn_ne h)
theorem zv_lit {a : UInt64} (z : Int) (h : zv a = z) : zv a = z := h
theorem zv_d0 : zv Jvm.FP.dconst0 = 0 := by decide +kernel
theorem zv_d1 : zv Jvm.FP.dconst1 = O := by decide +kernel
theorem nn_d0 : Jvm.Free.Fl.NoNaN64 Jvm.FP.dconst0 := by unfold Jvm.Free.Fl.NoNaN64; decide
theorem nn_d1 : Jvm.Free.Fl.NoNaN64 Jvm.FP.dconst1 := by unfold Jvm.Free.Fl.NoNaN64; decide
end Jvm.OwnFP
namespace Jvm.OwnFP
open Jvm.FP.Core
/-! rounding two values keeps their order -/
theorem nat_mono_core {w v P B B' X X' : Nat} (hB : 0 < B) (hB' : 0 < B') (hP : 0 < P) (hvw : v < w) (hXX : X * B' ≤ X' * B) (h1 : v * P * B < X) (h2 : X' < w * P * B')
    (n1 : ((X : Int) - ((w * P : Nat) : Int) * (B : Int)).natAbs ≤ ((X : Int) - ((v * P : Nat) : Int) * (B : Int)).natAbs)
    (n2 : ((X' : Int) - ((v * P : Nat) : Int) * (B' : Int)).natAbs ≤ ((X' : Int) - ((w * P : Nat) : Int) * (B' : Int)).natAbs) : X * B' = X' * B := by
  rw [← Int.natCast_mul, ← Int.natCast_mul] at n1 n2
  have a1 : X < w * P * B := by
    refine Nat.lt_of_not_le fun hle => ?_
    have q1 := Nat.mul_le_mul_right B' hle
    have q2 : w * P * B' * B ≤ X' * B := by rw [Nat.mul_right_comm]; exact Nat.le_trans q1 hXX
    have := Nat.le_of_mul_le_mul_right q2 hB
    omega
  have a2 : v * P * B' < X' := by
    refine Nat.lt_of_not_le fun hle => ?_
    have q1 := Nat.mul_le_mul_right B hle
    have q2 : X * B' ≤ v * P * B * B' := by rw [Nat.mul_right_comm _ B]; exact Nat.le_trans hXX q1
    have := Nat.le_of_mul_le_mul_right q2 hB'
    omega
  have b1 : w * P * B + v * P * B ≤ 2 * X := by omega
  have b2 : 2 * X' ≤ w * P * B' + v * P * B' := by omega
  have c1 := Nat.mul_le_mul_right B' b1
  have c2 := Nat.mul_le_mul_right B b2
  rw [Nat.add_mul, Nat.mul_right_comm _ B B', Nat.mul_right_comm (v * P) B B', Nat.mul_assoc 2] at c1
  rw [Nat.add_mul, Nat.mul_assoc 2] at c2
  omega
theorem ratio_mono {s : Bool} {A B A' B' : Nat} {e e' : Int} (hB : 0 < B) (hB' : 0 < B') (h : A * B' * 2 ^ (e - e').toNat ≤ A' * B * 2 ^ (e' - e).toNat) :
    zmag b64 (roundRatio b64 s A B e) ≤ zmag b64 (roundRatio b64 s A' B' e') := by
  refine Nat.le_of_not_lt fun hvw => ?_
  obtain ⟨e0, h0, he, he', hm⟩ : ∃ e0 : Int, e0 < b64.qmin ∧ e0 ≤ e ∧ e0 ≤ e' ∧ e0 = min (b64.qmin - 1) (min e e') := ⟨min (b64.qmin - 1) (min e e'), by omega, by omega, by omega, rfl⟩
  have hx : inUnits A e e0 * B' = A * B' * 2 ^ (e - e').toNat * 2 ^ (min e e' - e0).toNat := by
    unfold inUnits
    rw [show (e - e0).toNat = (e - e').toNat + (min e e' - e0).toNat by omega, Nat.pow_add, Nat.mul_right_comm, ← Nat.mul_assoc, Nat.mul_right_comm A B']
  have hx' : inUnits A' e' e0 * B = A' * B * 2 ^ (e' - e).toNat * 2 ^ (min e e' - e0).toNat := by
    unfold inUnits
    rw [show (e' - e0).toNat = (e' - e).toNat + (min e e' - e0).toNat by omega, Nat.pow_add, Nat.mul_right_comm, ← Nat.mul_assoc, Nat.mul_right_comm A' B]
  have hXX : inUnits A e e0 * B' ≤ inUnits A' e' e0 * B := by rw [hx, hx']; exact Nat.mul_le_mul_right _ h
  have fW := roundRatio_fits good_b64 s A hB e
  have fV := roundRatio_fits good_b64 s A' hB' e'
  have h1 : zmag b64 (roundRatio b64 s A' B' e') * 2 ^ (b64.qmin - e0).toNat * B < inUnits A e e0 := by
    refine Nat.lt_of_not_le fun hle => ?_
    have := zmag_roundRatio_le good_b64 (s := s) (A := A) hB fV (roundRatio_ne_nan b64 s A' B' e') (Int.le_of_lt h0) he hle
    omega
  have h2 : inUnits A' e' e0 < zmag b64 (roundRatio b64 s A B e) * 2 ^ (b64.qmin - e0).toNat * B' := by
    refine Nat.lt_of_not_le fun hle => ?_
    have := zmag_roundRatio_ge good_b64 (s := s) (A := A') hB' fW (Int.le_of_lt h0) he' hle
    omega
  rcases roundRatio_cases b64 s A' B' e' with ⟨c', q', hV⟩ | hV
  · rcases roundRatio_cases b64 s A B e with ⟨c, q, hW⟩ | hW
    · rw [hV] at fV; rw [hW] at fW
      have n1 := roundRatio_nearest good_b64 hB hW fV.1 fV.2.1 (Int.le_of_lt h0) he
      have n2 := roundRatio_nearest good_b64 hB' hV fW.1 fW.2.1 (Int.le_of_lt h0) he'
      rw [hV] at h1 hvw; rw [hW] at h2 hvw
      unfold distance at n1 n2
      rw [units_fin fW (Int.le_of_lt h0), units_fin fV (Int.le_of_lt h0)] at n1 n2
      have heq := nat_mono_core hB hB' (Nat.two_pow_pos (b64.qmin - e0).toNat) hvw hXX h1 h2 n1 n2
      rw [hx, hx'] at heq
      have heq2 := Nat.eq_of_mul_eq_mul_right (Nat.two_pow_pos _) heq
      have hc := roundRatio_congr (f := b64) (s := s) hB hB' heq2
      rw [hV, hW] at hc
      rw [hc] at hvw
      omega
    · have t1 := (roundRatio_inf good_b64 (s := s) hB h0 he).mp hW
      have t2 : (2 ^ (b64.p + 1) - 1) * 2 ^ (b64.qmax - 1 - e0).toNat * B' ≤ inUnits A' e' e0 := by
        have q1 := Nat.mul_le_mul_right B' t1
        have q2 := Nat.le_trans q1 hXX
        rw [Nat.mul_right_comm _ B B'] at q2
        exact Nat.le_of_mul_le_mul_right q2 hB
      have t3 := (roundRatio_inf good_b64 (s := s) hB' h0 he').mpr t2
      rw [hW, t3] at hvw
      exact Nat.lt_irrefl _ hvw
  · rw [hV] at hvw
    have := zmag_le_top good_b64 fW
    exact Nat.lt_irrefl _ (Nat.lt_of_lt_of_le hvw this)
theorem zval_pos (A B : Nat) (e : Int) : zval b64 (roundRatio b64 false A B e) = (zmag b64 (roundRatio b64 false A B e) : Int) := by
  unfold zval; rw [sgn_roundRatio]; rfl
theorem l2d_ratio {n : Int64} (h : 0 ≤ n.toInt) : zv (Jvm.FP.l2d n) = (zmag b64 (roundRatio b64 false n.toInt.natAbs 1 0) : Int) := by
  show zval b64 (val64 (l2d n)) = _
  rw [val64_l2d]
  show zval b64 (roundRatio b64 (decide (n.toInt < 0)) n.toInt.natAbs 1 0) = _
  rw [show decide (n.toInt < 0) = false from decide_eq_false (by omega), zval_pos]
theorem l2d_mono {n m : Int64} (h : 0 ≤ n.toInt) (hnm : n.toInt ≤ m.toInt) : zv (Jvm.FP.l2d n) ≤ zv (Jvm.FP.l2d m) := by
  rw [l2d_ratio h, l2d_ratio (by omega)]
  refine Int.ofNat_le.mpr (ratio_mono (by decide) (by decide) ?_)
  simp only [Int.sub_self, Int.toNat_zero, Nat.pow_zero, Nat.mul_one]
  omega
theorem l2d_nonneg {n : Int64} (h : 0 ≤ n.toInt) : 0 ≤ zv (Jvm.FP.l2d n) := by rw [l2d_ratio h]; exact Int.natCast_nonneg _
theorem rep_zero : Rep 0 := by have := rep_le (n := 0) 0 (by decide) (by decide); rw [Int.zero_mul] at this; exact this
/-! doubling -/
theorem leading_one {A : Nat} (hA : 0 < A) : leading A 1 = (A.log2 : Int) := by
  unfold leading
  have h1 : (1 : Nat).log2 = 0 := by decide
  have h2 : 2 ^ A.log2 ≤ A := Nat.log2_self_le (by omega)
  simp only [h1]
  rw [show ((A.log2 : Int) - ((0 : Nat) : Int)) = (A.log2 : Int) by omega, Int.toNat_natCast, show (-(A.log2 : Int)).toNat = 0 by omega, Nat.pow_zero, Nat.mul_one, Nat.one_mul, if_pos h2]
theorem dbl_mag {A : Nat} (hA : 0 < A) (hb : A < 2 ^ 64) : zmag b64 (roundRatio b64 false (2 * A) 1 0) = 2 * zmag b64 (roundRatio b64 false A 1 0) := by
  rw [roundRatio_congr (A' := A) (B' := 1) (e' := 1) (e := 0) (by decide) (by decide) (by simp only [Nat.mul_one]; rw [show ((0 : Int) - 1).toNat = 0 by decide, show ((1 : Int) - 0).toNat = 1 by decide]; omega)]
  have hl : A.log2 < 64 := (Nat.log2_lt (by omega)).mpr hb
  have q0 : quantum b64 A 1 0 = (A.log2 : Int) - 52 := by
    unfold quantum; rw [leading_one hA, qmin_b64, show (b64.p : Int) - 1 = 52 by decide]; omega
  have q1 : quantum b64 A 1 1 = (A.log2 : Int) - 52 + 1 := by
    unfold quantum; rw [leading_one hA, qmin_b64, show (b64.p : Int) - 1 = 52 by decide]; omega
  unfold roundRatio
  rw [if_neg (by omega), if_neg (by omega), q0, q1]
  unfold roundAt
  have u1 : unitsNum A 1 ((A.log2 : Int) - 52 + 1) = unitsNum A 0 ((A.log2 : Int) - 52) := by
    unfold unitsNum; rw [show (1 - ((A.log2 : Int) - 52 + 1)).toNat = (0 - ((A.log2 : Int) - 52)).toNat by omega]
  have u2 : unitsDen 1 1 ((A.log2 : Int) - 52 + 1) = unitsDen 1 0 ((A.log2 : Int) - 52) := by
    unfold unitsDen; rw [show ((A.log2 : Int) - 52 + 1 - 1).toNat = ((A.log2 : Int) - 52 - 0).toNat by omega]
  rw [u1, u2]
  generalize nearest (unitsNum A 0 ((A.log2 : Int) - 52)) (unitsDen 1 0 ((A.log2 : Int) - 52)) = N
  have key : ∀ c : Nat, ∀ q : Int, b64.qmin ≤ q → q + 1 ≤ b64.qmax → zmag b64 (bound b64 false c (q + 1)) = 2 * zmag b64 (bound b64 false c q) := by
    intro c q h1 h2
    unfold bound
    rw [if_pos h2, if_pos (by omega)]
    show inUnits c (q + 1) b64.qmin = 2 * inUnits c q b64.qmin
    unfold inUnits
    rw [show (q + 1 - b64.qmin).toNat = (q - b64.qmin).toNat + 1 by omega, Nat.pow_succ, ← Nat.mul_assoc, Nat.mul_comm]
  unfold settle
  split
  · exact key _ _ (by rw [qmin_b64]; omega) (by rw [qmax_b64]; omega)
  · exact key _ _ (by rw [qmin_b64]; omega) (by rw [qmax_b64]; omega)
theorem l2d_dbl {n m : Int64} (hn : 0 < n.toInt) (h : m.toInt = 2 * n.toInt) : zv (Jvm.FP.l2d m) = 2 * zv (Jvm.FP.l2d n) := by
  have b := Int64.toInt_lt n
  rw [l2d_ratio (by omega), l2d_ratio (by omega), h, show (2 * n.toInt).natAbs = 2 * n.toInt.natAbs by omega, dbl_mag (by omega) (by omega)]
  omega
/-- a positive long is at least 1 -/
theorem l2d_pos {n : Int64} (h : 1 ≤ n.toInt) : O ≤ zv (Jvm.FP.l2d n) := by
  have := l2d_ge (n := n) (z := 1 * O) (rep_int (by decide)) (Int.mul_le_mul_of_nonneg_right h (Int.le_of_lt O_pos))
  omega
theorem div_mono2 {a b c c' : UInt64} (ha : DFin a) (hb : DFin b) (hc : DFin c) (hc' : DFin c') (hp : 0 < zv c) (hp' : 0 < zv c') (h0 : 0 ≤ zv a) (h0' : 0 ≤ zv b) (h : zv a * zv c' ≤ zv b * zv c) : zv (Jvm.FP.ddiv a c) ≤ zv (Jvm.FP.ddiv b c') := by
  by_cases hz : zv a = 0
  · have h1 := div_eq (z := 0) ha hc hp rep_zero (by rw [hz]; simp)
    rw [h1]
    exact div_ge hb hc' hp' rep_zero (by rw [Int.zero_mul]; exact Int.mul_nonneg h0' (Int.le_of_lt O_pos))
  · have hzb : zv b ≠ 0 := fun q => by
      rw [q, Int.zero_mul] at h
      have : 0 < zv a * zv c' := Int.mul_pos (by omega) hp'
      omega
    obtain ⟨s, c1, q, d, r, e1, hd, hq, hr, e2, e3⟩ := div_parts ha hc hp
    obtain ⟨s', c2, q', d', r', e1', hd', hq', hr', e2', e3'⟩ := div_parts hb hc' hp'
    obtain ⟨rfl, -⟩ := pos_fin (s := s) (c := c1) (q := q) (by rw [← e2]; omega)
    obtain ⟨rfl, -⟩ := pos_fin (s := s') (c := c2) (q := q') (by rw [← e2']; omega)
    unfold zv
    rw [e1, e1', zval_pos, zval_pos]
    refine Int.ofNat_le.mpr (ratio_mono hd hd' ?_)
    have k3 : (c1 * 2 ^ (q - b64.qmin).toNat) * (d' * 2 ^ (r' - b64.qmin).toNat) ≤ (c2 * 2 ^ (q' - b64.qmin).toNat) * (d * 2 ^ (r - b64.qmin).toNat) := by
      rw [e2, e2', e3, e3'] at h
      simp only [signed, Bool.false_eq_true, if_false] at h
      exact Int.ofNat_le.mp (by simp only [Int.natCast_mul]; exact h)
    obtain ⟨M, x1, x2⟩ : ∃ M : Nat, (q - b64.qmin).toNat + (r' - b64.qmin).toNat = ((q - r) - (q' - r')).toNat + M ∧ (q' - b64.qmin).toNat + (r - b64.qmin).toNat = ((q' - r') - (q - r)).toNat + M :=
      ⟨min ((q - b64.qmin).toNat + (r' - b64.qmin).toNat) ((q' - b64.qmin).toNat + (r - b64.qmin).toNat), by omega, by omega⟩
    rw [Nat.mul_mul_mul_comm, ← Nat.pow_add, Nat.mul_mul_mul_comm c2, ← Nat.pow_add, x1, x2, Nat.pow_add, Nat.pow_add, ← Nat.mul_assoc, ← Nat.mul_assoc] at k3
    exact Nat.le_of_mul_le_mul_right k3 (Nat.two_pow_pos _)
theorem div_mono {a b c : UInt64} (ha : DFin a) (hb : DFin b) (hc : DFin c) (hp : 0 < zv c) (h0 : 0 ≤ zv a) (h : zv a ≤ zv b) : zv (Jvm.FP.ddiv a c) ≤ zv (Jvm.FP.ddiv b c) :=
  div_mono2 ha hb hc hc hp hp h0 (by omega) (Int.mul_le_mul_of_nonneg_right h (Int.le_of_lt hp))
/-- a / n for 0 ≤ a ≤ n, 1 ≤ n -/
theorem frac {a n : Int64} (h0 : 0 ≤ a.toInt) (h : a.toInt ≤ n.toInt) (hn : 1 ≤ n.toInt) : Jvm.Free.Fl.NoNaN64 (Jvm.FP.ddiv (Jvm.FP.l2d a) (Jvm.FP.l2d n)) ∧ DFin (Jvm.FP.ddiv (Jvm.FP.l2d a) (Jvm.FP.l2d n)) ∧ 0 ≤ zv (Jvm.FP.ddiv (Jvm.FP.l2d a) (Jvm.FP.l2d n)) ∧ zv (Jvm.FP.ddiv (Jvm.FP.l2d a) (Jvm.FP.l2d n)) ≤ O := by
  have hO := O_pos
  have hp : 0 < zv (Jvm.FP.l2d n) := by have := l2d_pos hn; omega
  have nn := nn_div (l2dF a) (l2dF n) (Int.ne_of_gt hp)
  have h1 := div_ge (l2dF a) (l2dF n) hp rep_zero (by rw [Int.zero_mul]; exact Int.mul_nonneg (l2d_nonneg h0) (Int.le_of_lt hO))
  have h2 := div_le (z := 1 * O) (l2dF a) (l2dF n) hp (rep_int (by decide)) (by
    rw [Int.one_mul, Int.mul_comm O]; exact Int.mul_le_mul_of_nonneg_right (l2d_mono h0 h) (Int.le_of_lt hO))
  exact ⟨nn, fin_of_zv nn (by omega) (by omega), h1, by omega⟩
theorem frac_zero {a n : Int64} (h0 : a.toInt = 0) (hn : 1 ≤ n.toInt) : zv (Jvm.FP.ddiv (Jvm.FP.l2d a) (Jvm.FP.l2d n)) = 0 := by
  have hp : 0 < zv (Jvm.FP.l2d n) := by have := l2d_pos hn; have := O_pos; omega
  exact div_eq (l2dF a) (l2dF n) hp rep_zero (by rw [l2d_eq (by omega), h0]; simp)
theorem frac_one {a n : Int64} (h : a.toInt = n.toInt) (hn : 1 ≤ n.toInt) : zv (Jvm.FP.ddiv (Jvm.FP.l2d a) (Jvm.FP.l2d n)) = O := by
  have hp : 0 < zv (Jvm.FP.l2d n) := by have := l2d_pos hn; have := O_pos; omega
  have e : a = n := Int64.toInt_inj.mp h
  subst e
  have := div_eq (z := 1 * O) (l2dF a) (l2dF a) hp (rep_int (by decide)) (by rw [Int.one_mul, Int.mul_comm])
  omega
theorem frac_half {a n : Int64} (h : 2 * a.toInt = n.toInt) (hn : 1 ≤ n.toInt) : 2 * zv (Jvm.FP.ddiv (Jvm.FP.l2d a) (Jvm.FP.l2d n)) = O := by
  have hp : 0 < zv (Jvm.FP.l2d n) := by have := l2d_pos hn; have := O_pos; omega
  have hd := l2d_dbl (n := a) (m := n) (by omega) h.symm
  have hP : O = 2 * ((2 ^ 1073 : Nat) : Int) := pow_O 1 (by decide)
  have := div_eq (z := 1 * ((2 ^ 1073 : Nat) : Int)) (l2dF a) (l2dF n) hp (rep_le 1073 (by decide) (by decide)) (by
    rw [hd, hP, Int.one_mul, Int.mul_comm, Int.mul_comm 2 (zv _), ← Int.mul_assoc, Int.mul_assoc 2, Int.mul_comm 2, Int.mul_comm ((2 ^ 1073 : Nat) : Int)])
  rw [this, Int.one_mul, hP]
/-! differences -/
theorem sub_form {a b : UInt64} (ha : DFin a) (hb : DFin b) (h : 0 < zv a - zv b) : ∃ n e, b64.qmin ≤ e ∧ zv (Jvm.FP.dsub a b) = (zmag b64 (roundRatio b64 false n 1 e) : Int) ∧ ((inUnits n e b64.qmin : Nat) : Int) = zv a - zv b := by
  obtain ⟨s, c, q, ea, fa⟩ := fin_of ha
  obtain ⟨t, d, r, eb, fb⟩ := fin_of hb
  have fb' : Jvm.FP.Core.fits b64 (.fin (!t) d r) := fb
  obtain ⟨sg, n, e, h1, h2, h3⟩ := sum_units fa fb'
  have hz : zval b64 (.fin s c q) + zval b64 (.fin (!t) d r) = zv a - zv b := by
    have : zval b64 (.fin (!t) d r) = -zval b64 (.fin t d r) := zval_negate b64 (.fin t d r)
    unfold zv; rw [ea, eb, this]; omega
  rw [hz] at h3
  have hsg : sg = false := by
    cases sg
    · rfl
    · simp only [signed, if_true] at h3; omega
  subst hsg
  refine ⟨n, e, h2, ?_, by simpa [signed] using h3⟩
  show zval b64 (val64 (dsub a b)) = _
  rw [val64_dsub, ea, eb]
  show zval b64 (round b64 (exactSum (.fin s c q) (.fin (!t) d r))) = _
  rw [h1]
  exact zval_pos n 1 e
theorem sub_mono {a b c d : UInt64} (ha : DFin a) (hb : DFin b) (hc : DFin c) (hd : DFin d) (h0 : 0 ≤ zv a - zv b) (h : zv a - zv b ≤ zv c - zv d) : zv (Jvm.FP.dsub a b) ≤ zv (Jvm.FP.dsub c d) := by
  by_cases hz : zv a - zv b = 0
  · have h1 := sub_eq (z := 0) ha hb rep_zero hz
    rw [h1]
    exact sub_ge hc hd rep_zero (by omega)
  · obtain ⟨n, e, q1, q2, q3⟩ := sub_form ha hb (by omega)
    obtain ⟨n', e', r1, r2, r3⟩ := sub_form hc hd (by omega)
    rw [q2, r2]
    refine Int.ofNat_le.mpr (ratio_mono (by decide) (by decide) ?_)
    rw [← q3, ← r3] at h
    have k := Int.ofNat_le.mp h
    unfold inUnits at k
    rw [Nat.mul_one, Nat.mul_one]
    obtain ⟨M, x1, x2⟩ : ∃ M : Nat, (e - b64.qmin).toNat = (e - e').toNat + M ∧ (e' - b64.qmin).toNat = (e' - e).toNat + M := ⟨(min e e' - b64.qmin).toNat, by omega, by omega⟩
    rw [x1, x2, Nat.pow_add, Nat.pow_add, ← Nat.mul_assoc, ← Nat.mul_assoc] at k
    exact Nat.le_of_mul_le_mul_right k (Nat.two_pow_pos _)
end Jvm.OwnFP
namespace Jvm.Pilot.@@N@@
open Jvm Jvm.ClassFile Sem Op Lib Jvm.Free Jvm.Stand Jvm.LawKit Jvm.RoadKit Bundle Jvm.Pilot.@@N@@.Jvm.D
def j1_3_s0 (q0 : Int64) (q1 : Int64) : Int64 := if ifCond.holds .lt (lcmpW q0 q1) = true then q1 else q0
def r5 (w_reads_a0 : Int64) (w_operations_a0 : Int64) : UInt64 := (FP.ddiv (FP.l2d w_reads_a0) (FP.l2d w_operations_a0))
def v0_9 (q0 : Int64) (q1 : Int64) (q2 : Int64) (q3 : Int64) (p4 : Int32) : Int64 := (j1_3_s0 (1 : Int64) (q0 &&& (9223372036854775807 : Int64)))
def v0_19 (q0 : Int64) (q1 : Int64) (q2 : Int64) (q3 : Int64) (p4 : Int32) : Int64 := ((q1 &&& (9223372036854775807 : Int64)) % (v0_9 q0 q1 q2 q3 p4))
def v0_25 (q0 : Int64) (q1 : Int64) (q2 : Int64) (q3 : Int64) (p4 : Int32) : Int32 := (p4 &&& (3 : Int32))
def j0_60_l11 (q0 : Int64) (q1 : Int64) (q2 : Int64) (q3 : Int64) (p4 : Int32) : Int64 := if if_icmp.holds .ne (v0_25 q0 q1 q2 q3 p4) (3 : Int32) = true then (v0_19 q0 q1 q2 q3 p4) else (0 : Int64)
def j0_43_l11 (q0 : Int64) (q1 : Int64) (q2 : Int64) (q3 : Int64) (p4 : Int32) : Int64 := if if_icmp.holds .ne (v0_25 q0 q1 q2 q3 p4) (2 : Int32) = true then (j0_60_l11 q0 q1 q2 q3 p4) else ((v0_9 q0 q1 q2 q3 p4) / (2 : Int64))
def j0_30_l11 (q0 : Int64) (q1 : Int64) (q2 : Int64) (q3 : Int64) (p4 : Int32) : Int64 := if if_icmp.holds .ne (v0_25 q0 q1 q2 q3 p4) (1 : Int32) = true then (j0_43_l11 q0 q1 q2 q3 p4) else (v0_9 q0 q1 q2 q3 p4)
def v0_75 (q0 : Int64) (q1 : Int64) (q2 : Int64) (q3 : Int64) (p4 : Int32) : Int64 := ((q2 &&& (9223372036854775807 : Int64)) % (v0_9 q0 q1 q2 q3 p4))
def j0_81_l14 (q0 : Int64) (q1 : Int64) (q2 : Int64) (q3 : Int64) (p4 : Int32) : Int64 := if ifCond.holds .eq (p4 &&& (4 : Int32)) = true then (v0_75 q0 q1 q2 q3 p4) else (v0_9 q0 q1 q2 q3 p4)
def v0_106 (q0 : Int64) (q1 : Int64) (q2 : Int64) (q3 : Int64) (p4 : Int32) : UInt64 := (r5 (j0_30_l11 q0 q1 q2 q3 p4) (v0_9 q0 q1 q2 q3 p4))
def v0_125 (q0 : Int64) (q1 : Int64) (q2 : Int64) (q3 : Int64) (p4 : Int32) : UInt64 := (r5 (j0_81_l14 q0 q1 q2 q3 p4) (v0_9 q0 q1 q2 q3 p4))
def j0_152_s0 (q0 : Int64) (q1 : Int64) (q2 : Int64) (q3 : Int64) (p4 : Int32) : Int32 := if ifCond.holds .gt (cmpValue (FP.dcmp (v0_125 q0 q1 q2 q3 p4) FP.dconst1) .g) = true then (0 : Int32) else (1 : Int32)
def j0_145_s0 (q0 : Int64) (q1 : Int64) (q2 : Int64) (q3 : Int64) (p4 : Int32) : Int32 := if ifCond.holds .gt (cmpValue (FP.dcmp FP.dconst0 (v0_125 q0 q1 q2 q3 p4)) .g) = true then (0 : Int32) else (j0_152_s0 q0 q1 q2 q3 p4)
def j0_138_s0 (q0 : Int64) (q1 : Int64) (q2 : Int64) (q3 : Int64) (p4 : Int32) : Int32 := if ifCond.holds .gt (cmpValue (FP.dcmp (v0_106 q0 q1 q2 q3 p4) FP.dconst1) .g) = true then (0 : Int32) else (j0_145_s0 q0 q1 q2 q3 p4)
def j0_131_s0 (q0 : Int64) (q1 : Int64) (q2 : Int64) (q3 : Int64) (p4 : Int32) : Int32 := if ifCond.holds .gt (cmpValue (FP.dcmp FP.dconst0 (v0_106 q0 q1 q2 q3 p4)) .g) = true then (0 : Int32) else (j0_138_s0 q0 q1 q2 q3 p4)
def j0_178_s0 (q0 : Int64) (q1 : Int64) (q2 : Int64) (q3 : Int64) (p4 : Int32) : Int32 := if ifCond.holds .ne (cmpValue (FP.dcmp (v0_106 q0 q1 q2 q3 p4) FP.dconst0) .l) = true then (0 : Int32) else (1 : Int32)
def j0_171_s0 (q0 : Int64) (q1 : Int64) (q2 : Int64) (q3 : Int64) (p4 : Int32) : Int32 := if ifCond.holds .eq (j0_131_s0 q0 q1 q2 q3 p4) = true then (0 : Int32) else (j0_178_s0 q0 q1 q2 q3 p4)
def j0_166_l20 (q0 : Int64) (q1 : Int64) (q2 : Int64) (q3 : Int64) (p4 : Int32) : Int32 := if ifCond.holds .ne (lcmpW (j0_30_l11 q0 q1 q2 q3 p4) (0 : Int64)) = true then (j0_131_s0 q0 q1 q2 q3 p4) else (j0_171_s0 q0 q1 q2 q3 p4)
def j0_205_s0 (q0 : Int64) (q1 : Int64) (q2 : Int64) (q3 : Int64) (p4 : Int32) : Int32 := if ifCond.holds .ne (cmpValue (FP.dcmp (v0_106 q0 q1 q2 q3 p4) FP.dconst1) .l) = true then (0 : Int32) else (1 : Int32)
def j0_198_s0 (q0 : Int64) (q1 : Int64) (q2 : Int64) (q3 : Int64) (p4 : Int32) : Int32 := if ifCond.holds .eq (j0_166_l20 q0 q1 q2 q3 p4) = true then (0 : Int32) else (j0_205_s0 q0 q1 q2 q3 p4)
def j0_193_l20 (q0 : Int64) (q1 : Int64) (q2 : Int64) (q3 : Int64) (p4 : Int32) : Int32 := if ifCond.holds .ne (lcmpW (j0_30_l11 q0 q1 q2 q3 p4) (v0_9 q0 q1 q2 q3 p4)) = true then (j0_166_l20 q0 q1 q2 q3 p4) else (j0_198_s0 q0 q1 q2 q3 p4)
def j0_238_s0 (q0 : Int64) (q1 : Int64) (q2 : Int64) (q3 : Int64) (p4 : Int32) : Int32 := if ifCond.holds .ne (cmpValue (FP.dcmp (v0_106 q0 q1 q2 q3 p4) (4602678819172646912 : UInt64)) .l) = true then (0 : Int32) else (1 : Int32)
def j0_229_s0 (q0 : Int64) (q1 : Int64) (q2 : Int64) (q3 : Int64) (p4 : Int32) : Int32 := if ifCond.holds .eq (j0_193_l20 q0 q1 q2 q3 p4) = true then (0 : Int32) else (j0_238_s0 q0 q1 q2 q3 p4)
def j0_224_l20 (q0 : Int64) (q1 : Int64) (q2 : Int64) (q3 : Int64) (p4 : Int32) : Int32 := if ifCond.holds .ne (lcmpW ((2 : Int64) * (j0_30_l11 q0 q1 q2 q3 p4)) (v0_9 q0 q1 q2 q3 p4)) = true then (j0_193_l20 q0 q1 q2 q3 p4) else (j0_229_s0 q0 q1 q2 q3 p4)
def j0_320_s0 (q0 : Int64) (q1 : Int64) (q2 : Int64) (q3 : Int64) (p4 : Int32) : Int32 := if ifCond.holds .lt (cmpValue (FP.dcmp (v0_106 q0 q1 q2 q3 p4) (v0_125 q0 q1 q2 q3 p4)) .l) = true then (0 : Int32) else (1 : Int32)
def j0_312_s0 (q0 : Int64) (q1 : Int64) (q2 : Int64) (q3 : Int64) (p4 : Int32) : Int32 := if ifCond.holds .eq (j0_224_l20 q0 q1 q2 q3 p4) = true then (0 : Int32) else (j0_320_s0 q0 q1 q2 q3 p4)
def j0_297_s0 (q0 : Int64) (q1 : Int64) (q2 : Int64) (q3 : Int64) (p4 : Int32) : Int32 := if ifCond.holds .ne (cmpValue (FP.dcmp (v0_106 q0 q1 q2 q3 p4) (v0_125 q0 q1 q2 q3 p4)) .l) = true then (0 : Int32) else (1 : Int32)
def j0_289_s0 (q0 : Int64) (q1 : Int64) (q2 : Int64) (q3 : Int64) (p4 : Int32) : Int32 := if ifCond.holds .eq (j0_224_l20 q0 q1 q2 q3 p4) = true then (0 : Int32) else (j0_297_s0 q0 q1 q2 q3 p4)
def j0_284_l20 (q0 : Int64) (q1 : Int64) (q2 : Int64) (q3 : Int64) (p4 : Int32) : Int32 := if ifCond.holds .ne (lcmpW (j0_30_l11 q0 q1 q2 q3 p4) (j0_81_l14 q0 q1 q2 q3 p4)) = true then (j0_312_s0 q0 q1 q2 q3 p4) else (j0_289_s0 q0 q1 q2 q3 p4)
def j0_266_s0 (q0 : Int64) (q1 : Int64) (q2 : Int64) (q3 : Int64) (p4 : Int32) : Int32 := if ifCond.holds .gt (cmpValue (FP.dcmp (v0_106 q0 q1 q2 q3 p4) (v0_125 q0 q1 q2 q3 p4)) .g) = true then (0 : Int32) else (1 : Int32)
def j0_258_s0 (q0 : Int64) (q1 : Int64) (q2 : Int64) (q3 : Int64) (p4 : Int32) : Int32 := if ifCond.holds .eq (j0_224_l20 q0 q1 q2 q3 p4) = true then (0 : Int32) else (j0_266_s0 q0 q1 q2 q3 p4)
def j0_253_l20 (q0 : Int64) (q1 : Int64) (q2 : Int64) (q3 : Int64) (p4 : Int32) : Int32 := if ifCond.holds .ge (lcmpW (j0_30_l11 q0 q1 q2 q3 p4) (j0_81_l14 q0 q1 q2 q3 p4)) = true then (j0_284_l20 q0 q1 q2 q3 p4) else (j0_258_s0 q0 q1 q2 q3 p4)
def v0_339 (q0 : Int64) (q1 : Int64) (q2 : Int64) (q3 : Int64) (p4 : Int32) : Int64 := (j1_3_s0 (1 : Int64) (q0 &&& (562949953421311 : Int64)))
def v0_351 (q0 : Int64) (q1 : Int64) (q2 : Int64) (q3 : Int64) (p4 : Int32) : Int64 := ((q1 &&& (9223372036854775807 : Int64)) % ((v0_339 q0 q1 q2 q3 p4) + (1 : Int64)))
def v0_361 (q0 : Int64) (q1 : Int64) (q2 : Int64) (q3 : Int64) (p4 : Int32) : Int64 := ((q3 &&& (7 : Int64)) + (1 : Int64))
def v0_379 (q0 : Int64) (q1 : Int64) (q2 : Int64) (q3 : Int64) (p4 : Int32) : UInt64 := (r5 (v0_351 q0 q1 q2 q3 p4) (v0_339 q0 q1 q2 q3 p4))
def v0_403 (q0 : Int64) (q1 : Int64) (q2 : Int64) (q3 : Int64) (p4 : Int32) : UInt64 := (r5 ((v0_361 q0 q1 q2 q3 p4) * (v0_351 q0 q1 q2 q3 p4)) ((v0_361 q0 q1 q2 q3 p4) * (v0_339 q0 q1 q2 q3 p4)))
def j0_415_s0 (q0 : Int64) (q1 : Int64) (q2 : Int64) (q3 : Int64) (p4 : Int32) : Int32 := if ifCond.holds .ne (cmpValue (FP.dcmp (v0_379 q0 q1 q2 q3 p4) (v0_403 q0 q1 q2 q3 p4)) .l) = true then (0 : Int32) else (1 : Int32)
def j0_407_s0 (q0 : Int64) (q1 : Int64) (q2 : Int64) (q3 : Int64) (p4 : Int32) : Int32 := if ifCond.holds .eq (j0_253_l20 q0 q1 q2 q3 p4) = true then (0 : Int32) else (j0_415_s0 q0 q1 q2 q3 p4)
section Own
open Jvm.OwnFP Jvm.FP.Core
theorem own_ac (a b c o : Int) : a * o * (b * c * o) = b * a * o * (c * o) := by ac_rfl
theorem own_max (x y : Int64) : (j1_3_s0 x y).toInt = if x.toInt < y.toInt then y.toInt else x.toInt := by
  unfold j1_3_s0
  rw [lw]
  by_cases h : x.toInt < y.toInt
  · rw [if_pos h, if_pos (by simpa using h)]
  · rw [if_neg h, if_neg (by simpa using h)]
theorem own_pos63 (x : Int64) : 0 ≤ (x &&& (9223372036854775807 : Int64)).toInt := by
  rw [Jvm.Kit.i64_mask x 9223372036854775807 (k := 63) (by decide) (by decide)]; omega
theorem own_rem {x y : Int64} (hx : 0 ≤ x.toInt) (hy : 1 ≤ y.toInt) : 0 ≤ (x % y).toInt ∧ (x % y).toInt < y.toInt := by
  rw [Int64.toInt_mod, Int.tmod_eq_emod_of_nonneg hx]
  exact ⟨Int.emod_nonneg _ (by omega), Int.emod_lt_of_pos _ (by omega)⟩
section V
variable (q0 q1 q2 q3 : Int64) (p4 : Int32)
theorem own_n9 : 1 ≤ (v0_9 q0 q1 q2 q3 p4).toInt := by
  unfold v0_9; rw [own_max, show (1 : Int64).toInt = 1 by decide]; split <;> omega
theorem own_z18 : (v0_9 q0 q1 q2 q3 p4) ≠ (0 : Int64) := fun h => by
  have := own_n9 q0 q1 q2 q3 p4; rw [h] at this; exact absurd this (by decide)
theorem own_a : 0 ≤ (j0_30_l11 q0 q1 q2 q3 p4).toInt ∧ (j0_30_l11 q0 q1 q2 q3 p4).toInt ≤ (v0_9 q0 q1 q2 q3 p4).toInt := by
  have hn := own_n9 q0 q1 q2 q3 p4
  unfold j0_30_l11 j0_43_l11 j0_60_l11
  split
  · split
    · split
      · have := own_rem (own_pos63 q1) hn; unfold v0_19; omega
      · rw [show (0 : Int64).toInt = 0 by decide]; omega
    · rw [Jvm.Kit.i64_div (by intro h; exact absurd h.2 (by decide)), show (2 : Int64).toInt = 2 by decide, Int.tdiv_eq_ediv_of_nonneg (by omega)]; omega
  · omega
theorem own_b : 0 ≤ (j0_81_l14 q0 q1 q2 q3 p4).toInt ∧ (j0_81_l14 q0 q1 q2 q3 p4).toInt ≤ (v0_9 q0 q1 q2 q3 p4).toInt := by
  have hn := own_n9 q0 q1 q2 q3 p4
  unfold j0_81_l14
  split
  · have := own_rem (own_pos63 q2) hn; unfold v0_75; omega
  · omega
theorem own_fa : type_of% (frac (own_a q0 q1 q2 q3 p4).1 (own_a q0 q1 q2 q3 p4).2 (own_n9 q0 q1 q2 q3 p4)) := frac (own_a q0 q1 q2 q3 p4).1 (own_a q0 q1 q2 q3 p4).2 (own_n9 q0 q1 q2 q3 p4)
theorem own_fb : type_of% (frac (own_b q0 q1 q2 q3 p4).1 (own_b q0 q1 q2 q3 p4).2 (own_n9 q0 q1 q2 q3 p4)) := frac (own_b q0 q1 q2 q3 p4).1 (own_b q0 q1 q2 q3 p4).2 (own_n9 q0 q1 q2 q3 p4)
theorem own_n103 : type_of% ((own_fa q0 q1 q2 q3 p4).1) := (own_fa q0 q1 q2 q3 p4).1
theorem own_n122 : type_of% ((own_fb q0 q1 q2 q3 p4).1) := (own_fb q0 q1 q2 q3 p4).1
theorem own_m : 1 ≤ (v0_339 q0 q1 q2 q3 p4).toInt ∧ (v0_339 q0 q1 q2 q3 p4).toInt ≤ 562949953421311 := by
  have h := Jvm.Kit.i64_mask q0 562949953421311 (k := 49) (by decide) (by decide)
  unfold v0_339; rw [own_max, show (1 : Int64).toInt = 1 by decide, h]; split <;> omega
theorem own_m1 : ((v0_339 q0 q1 q2 q3 p4) + (1 : Int64)).toInt = (v0_339 q0 q1 q2 q3 p4).toInt + 1 := by
  have h := own_m q0 q1 q2 q3 p4
  rw [Jvm.Kit.i64_add] <;> rw [show (1 : Int64).toInt = 1 by decide] <;> omega
theorem own_z350 : ((v0_339 q0 q1 q2 q3 p4) + (1 : Int64)) ≠ (0 : Int64) := fun h => by
  have h1 := own_m1 q0 q1 q2 q3 p4; have h2 := own_m q0 q1 q2 q3 p4
  rw [h, show (0 : Int64).toInt = 0 by decide] at h1; omega
theorem own_c : 0 ≤ (v0_351 q0 q1 q2 q3 p4).toInt ∧ (v0_351 q0 q1 q2 q3 p4).toInt ≤ (v0_339 q0 q1 q2 q3 p4).toInt := by
  have h1 := own_m1 q0 q1 q2 q3 p4; have h2 := own_m q0 q1 q2 q3 p4
  have := own_rem (own_pos63 q1) (y := (v0_339 q0 q1 q2 q3 p4) + (1 : Int64)) (by omega)
  unfold v0_351; omega
theorem own_k : 1 ≤ (v0_361 q0 q1 q2 q3 p4).toInt ∧ (v0_361 q0 q1 q2 q3 p4).toInt ≤ 8 := by
  have h := Jvm.Kit.i64_mask q3 7 (k := 3) (by decide) (by decide)
  have e : (v0_361 q0 q1 q2 q3 p4).toInt = (q3 &&& (7 : Int64)).toInt + 1 := by
    unfold v0_361; rw [Jvm.Kit.i64_add] <;> rw [show (1 : Int64).toInt = 1 by decide] <;> omega
  rw [e, h]; omega
theorem own_km : ((v0_361 q0 q1 q2 q3 p4) * (v0_339 q0 q1 q2 q3 p4)).toInt = (v0_361 q0 q1 q2 q3 p4).toInt * (v0_339 q0 q1 q2 q3 p4).toInt ∧ (v0_339 q0 q1 q2 q3 p4).toInt ≤ (v0_361 q0 q1 q2 q3 p4).toInt * (v0_339 q0 q1 q2 q3 p4).toInt ∧ (v0_361 q0 q1 q2 q3 p4).toInt * (v0_339 q0 q1 q2 q3 p4).toInt ≤ 4503599627370488 := by
  have h1 := own_k q0 q1 q2 q3 p4; have h2 := own_m q0 q1 q2 q3 p4
  have u1 : (v0_361 q0 q1 q2 q3 p4).toInt * (v0_339 q0 q1 q2 q3 p4).toInt ≤ 8 * 562949953421311 := Int.mul_le_mul h1.2 h2.2 (by omega) (by decide)
  have u2 : 1 * (v0_339 q0 q1 q2 q3 p4).toInt ≤ (v0_361 q0 q1 q2 q3 p4).toInt * (v0_339 q0 q1 q2 q3 p4).toInt := Int.mul_le_mul_of_nonneg_right h1.1 (by omega)
  exact ⟨Jvm.Kit.i64_mul (by omega) (by omega), by omega, by omega⟩
theorem own_kc : ((v0_361 q0 q1 q2 q3 p4) * (v0_351 q0 q1 q2 q3 p4)).toInt = (v0_361 q0 q1 q2 q3 p4).toInt * (v0_351 q0 q1 q2 q3 p4).toInt ∧ 0 ≤ (v0_361 q0 q1 q2 q3 p4).toInt * (v0_351 q0 q1 q2 q3 p4).toInt ∧ (v0_361 q0 q1 q2 q3 p4).toInt * (v0_351 q0 q1 q2 q3 p4).toInt ≤ (v0_361 q0 q1 q2 q3 p4).toInt * (v0_339 q0 q1 q2 q3 p4).toInt := by
  have h1 := own_k q0 q1 q2 q3 p4; have h2 := own_c q0 q1 q2 q3 p4; have h3 := own_km q0 q1 q2 q3 p4
  have u1 : (v0_361 q0 q1 q2 q3 p4).toInt * (v0_351 q0 q1 q2 q3 p4).toInt ≤ (v0_361 q0 q1 q2 q3 p4).toInt * (v0_339 q0 q1 q2 q3 p4).toInt := Int.mul_le_mul_of_nonneg_left h2.2 (by omega)
  have u2 : 0 ≤ (v0_361 q0 q1 q2 q3 p4).toInt * (v0_351 q0 q1 q2 q3 p4).toInt := Int.mul_nonneg (by omega) h2.1
  exact ⟨Jvm.Kit.i64_mul (by omega) (by omega), u2, u1⟩
theorem own_g1 : type_of% (frac (own_c q0 q1 q2 q3 p4).1 (own_c q0 q1 q2 q3 p4).2 (own_m q0 q1 q2 q3 p4).1) := frac (own_c q0 q1 q2 q3 p4).1 (own_c q0 q1 q2 q3 p4).2 (own_m q0 q1 q2 q3 p4).1
theorem own_g2 : Jvm.Free.Fl.NoNaN64 (FP.ddiv (FP.l2d ((v0_361 q0 q1 q2 q3 p4) * (v0_351 q0 q1 q2 q3 p4))) (FP.l2d ((v0_361 q0 q1 q2 q3 p4) * (v0_339 q0 q1 q2 q3 p4)))) := by
  have h1 := own_km q0 q1 q2 q3 p4; have h2 := own_kc q0 q1 q2 q3 p4; have h3 := own_m q0 q1 q2 q3 p4
  exact (frac (by omega) (by omega) (by omega)).1
theorem own_n376 : type_of% ((own_g1 q0 q1 q2 q3 p4).1) := (own_g1 q0 q1 q2 q3 p4).1
theorem own_n400 : type_of% (own_g2 q0 q1 q2 q3 p4) := own_g2 q0 q1 q2 q3 p4
theorem own_gg : zv (v0_379 q0 q1 q2 q3 p4) = zv (v0_403 q0 q1 q2 q3 p4) := by
  have h1 := own_km q0 q1 q2 q3 p4; have h2 := own_kc q0 q1 q2 q3 p4; have h3 := own_m q0 q1 q2 q3 p4; have h4 := own_c q0 q1 q2 q3 p4
  have e1 := l2d_eq (n := v0_351 q0 q1 q2 q3 p4) (by omega)
  have e2 := l2d_eq (n := v0_339 q0 q1 q2 q3 p4) (by omega)
  have e3 := l2d_eq (n := (v0_361 q0 q1 q2 q3 p4) * (v0_351 q0 q1 q2 q3 p4)) (by omega)
  have e4 := l2d_eq (n := (v0_361 q0 q1 q2 q3 p4) * (v0_339 q0 q1 q2 q3 p4)) (by omega)
  have hO := O_pos
  have p2 : 0 < zv (FP.l2d (v0_339 q0 q1 q2 q3 p4)) := by rw [e2]; exact Int.mul_pos (by omega) hO
  have p4' : 0 < zv (FP.l2d ((v0_361 q0 q1 q2 q3 p4) * (v0_339 q0 q1 q2 q3 p4))) := by rw [e4]; exact Int.mul_pos (by omega) hO
  have n1 := l2d_nonneg h4.1
  have n3 := l2d_nonneg (n := (v0_361 q0 q1 q2 q3 p4) * (v0_351 q0 q1 q2 q3 p4)) (by omega)
  have e : zv (FP.l2d (v0_351 q0 q1 q2 q3 p4)) * zv (FP.l2d ((v0_361 q0 q1 q2 q3 p4) * (v0_339 q0 q1 q2 q3 p4))) = zv (FP.l2d ((v0_361 q0 q1 q2 q3 p4) * (v0_351 q0 q1 q2 q3 p4))) * zv (FP.l2d (v0_339 q0 q1 q2 q3 p4)) := by
    rw [e1, e2, e3, e4, h1.1, h2.1]; exact own_ac _ _ _ _
  exact Int.le_antisymm (div_mono2 (l2dF _) (l2dF _) (l2dF _) (l2dF _) p2 p4' n1 n3 (Int.le_of_eq e)) (div_mono2 (l2dF _) (l2dF _) (l2dF _) (l2dF _) p4' p2 n3 n1 (Int.le_of_eq e.symm))
/-- 2 * a == n, also where the product wraps -/
theorem own_two (h : ((2 : Int64) * (j0_30_l11 q0 q1 q2 q3 p4)).toInt = (v0_9 q0 q1 q2 q3 p4).toInt) : 2 * (j0_30_l11 q0 q1 q2 q3 p4).toInt = (v0_9 q0 q1 q2 q3 p4).toInt := by
  have ha := own_a q0 q1 q2 q3 p4; have hn := own_n9 q0 q1 q2 q3 p4
  have b := Int64.toInt_lt (v0_9 q0 q1 q2 q3 p4)
  rw [Int64.toInt_mul, show (2 : Int64).toInt = 2 by decide, Int.bmod_def] at h
  split at h <;> omega
abbrev own_half : UInt64 := 4602678819172646912
theorem own_halfN : Jvm.Free.Fl.NoNaN64 own_half := by unfold Jvm.Free.Fl.NoNaN64; decide
theorem own_halfZ : 2 * zv own_half = O := by decide +kernel
theorem own_131 : j0_131_s0 q0 q1 q2 q3 p4 = 1 := by
  have fa := own_fa q0 q1 q2 q3 p4; have fb := own_fb q0 q1 q2 q3 p4
  have a1 := if_gt nn_d0 fa.1 .g; have a2 := if_gt fa.1 nn_d1 .g
  have b1 := if_gt nn_d0 fb.1 .g; have b2 := if_gt fb.1 nn_d1 .g
  rw [zv_d0] at a1 b1; rw [zv_d1] at a2 b2
  unfold j0_131_s0 j0_138_s0 j0_145_s0 j0_152_s0 v0_106 v0_125 r5
  rw [a1, a2, b1, b2]
  rw [if_neg (by simp only [decide_eq_true_eq]; omega), if_neg (by simp only [decide_eq_true_eq]; omega), if_neg (by simp only [decide_eq_true_eq]; omega), if_neg (by simp only [decide_eq_true_eq]; omega)]
theorem own_166 : j0_166_l20 q0 q1 q2 q3 p4 = 1 := by
  have fa := own_fa q0 q1 q2 q3 p4; have h := own_131 q0 q1 q2 q3 p4; have hn := own_n9 q0 q1 q2 q3 p4
  unfold j0_166_l20
  rw [lw, h]
  by_cases hc : (j0_30_l11 q0 q1 q2 q3 p4).toInt = (0 : Int64).toInt
  · rw [if_neg (by simp [hc])]
    unfold j0_171_s0 j0_178_s0 v0_106 r5
    rw [h, if_ne fa.1 nn_d0 .l, zv_d0, frac_zero (by rw [hc]; decide) hn]; decide
  · rw [if_pos (by simpa using hc)]
theorem own_193 : j0_193_l20 q0 q1 q2 q3 p4 = 1 := by
  have fa := own_fa q0 q1 q2 q3 p4; have h := own_166 q0 q1 q2 q3 p4; have hn := own_n9 q0 q1 q2 q3 p4
  unfold j0_193_l20
  rw [lw, h]
  by_cases hc : (j0_30_l11 q0 q1 q2 q3 p4).toInt = (v0_9 q0 q1 q2 q3 p4).toInt
  · rw [if_neg (by simp [hc])]
    unfold j0_198_s0 j0_205_s0 v0_106 r5
    rw [h, if_ne fa.1 nn_d1 .l, zv_d1, frac_one hc hn]; simp [ifCond.holds]
  · rw [if_pos (by simpa using hc)]
theorem own_224 : j0_224_l20 q0 q1 q2 q3 p4 = 1 := by
  have fa := own_fa q0 q1 q2 q3 p4; have h := own_193 q0 q1 q2 q3 p4; have hn := own_n9 q0 q1 q2 q3 p4
  unfold j0_224_l20
  rw [lw, h]
  by_cases hc : ((2 : Int64) * (j0_30_l11 q0 q1 q2 q3 p4)).toInt = (v0_9 q0 q1 q2 q3 p4).toInt
  · rw [if_neg (by simp [hc])]
    have hh := frac_half (own_two q0 q1 q2 q3 p4 hc) hn
    have hz := own_halfZ
    unfold j0_229_s0 j0_238_s0 v0_106 r5
    rw [h, if_ne fa.1 own_halfN .l, if_neg (by decide), if_neg (by simp only [decide_eq_true_eq]; omega)]
  · rw [if_pos (by simpa using hc)]
theorem own_253 : j0_253_l20 q0 q1 q2 q3 p4 = 1 := by
  have fa := own_fa q0 q1 q2 q3 p4; have fb := own_fb q0 q1 q2 q3 p4; have h := own_224 q0 q1 q2 q3 p4; have hn := own_n9 q0 q1 q2 q3 p4
  have ha := own_a q0 q1 q2 q3 p4; have hb := own_b q0 q1 q2 q3 p4
  have hp : 0 < zv (FP.l2d (v0_9 q0 q1 q2 q3 p4)) := by have := l2d_pos hn; have := O_pos; omega
  unfold j0_253_l20
  rw [lw]
  by_cases hc : (j0_81_l14 q0 q1 q2 q3 p4).toInt ≤ (j0_30_l11 q0 q1 q2 q3 p4).toInt
  · rw [if_pos (by simpa using hc)]
    have hm : zv (v0_125 q0 q1 q2 q3 p4) ≤ zv (v0_106 q0 q1 q2 q3 p4) := div_mono (l2dF _) (l2dF _) (l2dF _) hp (l2d_nonneg hb.1) (l2d_mono hb.1 hc)
    unfold j0_284_l20
    rw [lw]
    by_cases he : (j0_30_l11 q0 q1 q2 q3 p4).toInt = (j0_81_l14 q0 q1 q2 q3 p4).toInt
    · rw [if_neg (by simp [he])]
      have e : v0_106 q0 q1 q2 q3 p4 = v0_125 q0 q1 q2 q3 p4 := by unfold v0_106 v0_125; rw [Int64.toInt_inj.mp he]
      unfold j0_289_s0 j0_297_s0
      rw [h, e, show ifCond.holds .ne (cmpValue (FP.dcmp (v0_125 q0 q1 q2 q3 p4) (v0_125 q0 q1 q2 q3 p4)) .l) = _ from if_ne fb.1 fb.1 .l, if_neg (by decide), if_neg (by simp)]
    · rw [if_pos (by simpa using he)]
      unfold j0_312_s0 j0_320_s0
      rw [h, show ifCond.holds .lt (cmpValue (FP.dcmp (v0_106 q0 q1 q2 q3 p4) (v0_125 q0 q1 q2 q3 p4)) .l) = _ from if_lt fa.1 fb.1 .l, if_neg (by decide), if_neg (by simp only [decide_eq_true_eq]; exact Int.not_lt.mpr hm)]
  · rw [if_neg (by simpa using hc)]
    have hm : zv (v0_106 q0 q1 q2 q3 p4) ≤ zv (v0_125 q0 q1 q2 q3 p4) := div_mono (l2dF _) (l2dF _) (l2dF _) hp (l2d_nonneg ha.1) (l2d_mono ha.1 (by omega))
    unfold j0_258_s0 j0_266_s0
    rw [h, show ifCond.holds .gt (cmpValue (FP.dcmp (v0_106 q0 q1 q2 q3 p4) (v0_125 q0 q1 q2 q3 p4)) .g) = _ from if_gt fa.1 fb.1 .g, if_neg (by decide), if_neg (by simp only [decide_eq_true_eq]; exact Int.not_lt.mpr hm)]
theorem own_res : j0_407_s0 q0 q1 q2 q3 p4 = 1 := by
  have h := own_253 q0 q1 q2 q3 p4
  have g1 : Jvm.Free.Fl.NoNaN64 (v0_379 q0 q1 q2 q3 p4) := (own_g1 q0 q1 q2 q3 p4).1
  have g2 : Jvm.Free.Fl.NoNaN64 (v0_403 q0 q1 q2 q3 p4) := own_g2 q0 q1 q2 q3 p4
  unfold j0_407_s0 j0_415_s0
  rw [h, if_ne g1 g2 .l, own_gg, if_neg (by decide), if_neg (by simp)]
end V
end Own
theorem d1_0 : decode jdk_29_method_66_code 0 = .ok (.lload_n 0, 1) := by decide +kernel
theorem d1_1 : decode jdk_29_method_66_code 1 = .ok (.lload_n 2, 1) := by decide +kernel
theorem d1_2 : decode jdk_29_method_66_code 2 = .ok (.lcmp, 1) := by decide +kernel
theorem d1_3 : decode jdk_29_method_66_code 3 = .ok (.ifCond .lt 7, 3) := by decide +kernel
theorem d1_6 : decode jdk_29_method_66_code 6 = .ok (.lload_n 0, 1) := by decide +kernel
theorem d1_7 : decode jdk_29_method_66_code 7 = .ok (.goto 4, 3) := by decide +kernel
theorem d1_10 : decode jdk_29_method_66_code 10 = .ok (.lload_n 2, 1) := by decide +kernel
theorem d1_11 : decode jdk_29_method_66_code 11 = .ok (.lreturn, 1) := by decide +kernel
theorem pd_0 : parseMethodDescriptor "()V" = some ⟨[], none⟩ := by decide +kernel
theorem pd_1 : parseMethodDescriptor "(JJ)J" = some ⟨[.long, .long], some .long⟩ := by decide +kernel
theorem pd_2 : parseMethodDescriptor "(JJJJ)V" = some ⟨[.long, .long, .long, .long], none⟩ := by decide +kernel
theorem pd_3 : parseMethodDescriptor "()D" = some ⟨[], some .double⟩ := by decide +kernel
theorem ef_1 (m : MethodId) (q0 : Int64) (q1 : Int64) : entryFrame m #[(.long q0), (.long q1)] 4 = mkF m 0 #[.val (.long q0), .second, .val (.long q1), .second] [] := by first | (simp [entryFrame, mkF, argsToLocals, Value.category]; done) | rfl
def Q1 (Z : State) (q0 : Int64) (q1 : Int64) (h0 : Heap) (n0 : Nat) (v : Option Value) (h : Heap) (L : List Loc) : Prop := v = some (.long (j1_3_s0 q0 q1)) ∧ Fr n0 L ∧ h = h0
set_option maxRecDepth 65536 in
set_option maxHeartbeats 40000000 in
theorem rm1 (l : Launch) (Z : State) (aw : Array Value) (hw : ∀ d ∈ tables_1, d.before aw Z = true) (ws : List Jvm.Cond) (q0 : Int64) (q1 : Int64) (h0 : Heap) (n0 : Nat) (Z0 : n0 ≤ h0.size) :
    MetFree l (⟨"java/lang/Math", "max", "(JJ)J"⟩ : MethodName) (head1 (Jvm.Cond.code (⟨"java/lang/Math", "max", "(JJ)J"⟩ : MethodName) jdk_29_method_66_code 4 (some .long) :: ws) ({ frames := 0, cells := 0, slots := 0, locals := 0 } : Room)) (fun a U => a = #[(.long q0), (.long q1)] ∧ Z.Warmed39 U.vm ∧ U.heap = h0) (fun _ _ _ _ _ => True) (fun _ U o U' => ∃ v L, o = .returned v ∧ Q1 Z q0 q1 h0 n0 v U'.heap L ∧ FrameEnd U o U' L ({ frames := 0, cells := 0, slots := 0, locals := 0 } : Room).cells ({ frames := 0, cells := 0, slots := 0, locals := 0 } : Room).slots) := by
  refine MetFree.of_bodySF (Jvm.Free.JP.mathPlain rfl (by decide +kernel)) hisR ?_
  intro p e s m args below meth c s₁ Bd hml0 hP hK
  obtain ⟨rfl, hZ, hh⟩ := hP
  have hx := Bd.exec
  have hby := Bd.bytes
  have hml : c.maxLocals = 4 := hml0
  have hown : s.vm.findClass "java/lang/Math" = some m.cls := findClass_of_methodNamed Bd.named
  have hnm := (name_of_methodNamed Bd.named Bd.method).1
  have X0 : Stand p l e ({ frames := 0, cells := 0, slots := 0, locals := 0 } : Room) s m #[(.long q0), (.long q1)] below meth c s₁ [] 0 0 := Stand.of_body Bd
  have e0 : s₁.heap = h0 := by rw [← hh, Bd.state]; rfl
  have N0 := Fr.nil n0
  have pre0 : ∀ t, Steps p.tables e below (s₁.setTop (mkF m 0 #[.val (.long q0), .second, .val (.long q1), .second] [])) t → Steps p.tables e below (s₁.setTop (entryFrame m #[(.long q0), (.long q1)] 4)) t := fun t k => castTop (ef_1 m q0 q1) k
  obtain ⟨fs, hr, hrun, hended, hW, hsame⟩ := X0.leave (v := some (.long (j1_3_s0 q0 q1))) (fun h => by rw [Bd.returns] at h; cases h)
  refine ⟨_, _, pre0 _ ?_, hrun, hended, _, _, rfl, ?_, ⟨_, rfl⟩, hW, hsame.mono (by decide) (by decide)⟩
  · show Steps p.tables e below (s₁.setTop (mkF m 0 #[.val (.long q0), .second, .val (.long q1), .second] [])) _
    refine XS.lloadN X0.here hx rfl (hb hby d1_0) rfl ?_
    show Steps p.tables e below (s₁.setTop (mkF m 1 #[.val (.long q0), .second, .val (.long q1), .second] [(.long q0)])) _
    refine XS.lloadN X0.here hx rfl (hb hby d1_1) rfl ?_
    show Steps p.tables e below (s₁.setTop (mkF m 2 #[.val (.long q0), .second, .val (.long q1), .second] [(.long q1), (.long q0)])) _
    refine XS.lcmp X0.here hx rfl (hb hby d1_2) rfl ?_
    show Steps p.tables e below (s₁.setTop (mkF m 3 #[.val (.long q0), .second, .val (.long q1), .second] [(.int (lcmpW q0 q1))])) _
    suffices kt3 : Steps p.tables e below (s₁.setTop (mkF m 11 #[.val (.long q0), .second, .val (.long q1), .second] [(.long (j1_3_s0 q0 q1))])) (s₁.setFrames fs) by
      by_cases hc3 : ifCond.holds .lt (lcmpW q0 q1) = true
      · rw [show (j1_3_s0 q0 q1) = q1 from if_pos hc3] at kt3
        refine XS.ifYes X0.here hx rfl (pc0 := 3) (pc' := 10) rfl (hb hby d1_3) rfl hc3 (by decide) (by decide) ?_
        show Steps p.tables e below (s₁.setTop (mkF m 10 #[.val (.long q0), .second, .val (.long q1), .second] [])) _
        refine XS.lloadN X0.here hx rfl (hb hby d1_10) rfl ?_
        exact kt3
      · rw [show (j1_3_s0 q0 q1) = q0 from if_neg hc3] at kt3
        refine XS.ifNo X0.here hx rfl (hb hby d1_3) rfl (eq_false_of_ne_true hc3) ?_
        show Steps p.tables e below (s₁.setTop (mkF m 6 #[.val (.long q0), .second, .val (.long q1), .second] [])) _
        refine XS.lloadN X0.here hx rfl (hb hby d1_6) rfl ?_
        show Steps p.tables e below (s₁.setTop (mkF m 7 #[.val (.long q0), .second, .val (.long q1), .second] [(.long q0)])) _
        refine XS.goto X0.here hx rfl (pc0 := 7) (pc' := 11) rfl (hb hby d1_7) (by decide) (by decide) ?_
        exact kt3
    show Steps p.tables e below (s₁.setTop (mkF m 11 #[.val (.long q0), .second, .val (.long q1), .second] [(.long (j1_3_s0 q0 q1))])) _
    exact X0.lreturnOut hx Bd.returns (hb hby d1_11) hr
  · show Q1 Z q0 q1 h0 n0 _ s₁.heap _
    rw [e0]
    exact ⟨rfl, N0, rfl⟩
theorem d3_0 : decode jdk_30_method_1_code 0 = .ok (.aload_n 0, 1) := by decide +kernel
theorem d3_1 : decode jdk_30_method_1_code 1 = .ok (.invokespecial 1, 3) := by decide +kernel
theorem d3_4 : decode jdk_30_method_1_code 4 = .ok (.return_, 1) := by decide +kernel
theorem pn_3 : plainName "java/lang/Record" = true := by first | (simp [plainName, overriddenIn]; done) | decide +kernel
theorem ef_3 (m : MethodId) (a0 : Addr) : entryFrame m #[(.ref a0)] 1 = mkF m 0 #[.val (.ref a0)] [] := by first | (simp [entryFrame, mkF, argsToLocals, Value.category]; done) | rfl
def Q3 (Z : State) (a0 : Addr) (h0 : Heap) (n0 : Nat) (v : Option Value) (h : Heap) (L : List Loc) : Prop := v = none ∧ Fr n0 L ∧ h = h0
set_option maxRecDepth 65536 in
set_option maxHeartbeats 40000000 in
theorem rm3 (l : Launch) (Z : State) (aw : Array Value) (hw : ∀ d ∈ tables_1, d.before aw Z = true) (ws : List Jvm.Cond) (a0 : Addr) (h0 : Heap) (n0 : Nat) (Z0 : n0 ≤ h0.size) :
    MetFree l (⟨"java/lang/Record", "<init>", "()V"⟩ : MethodName) (head1 (Jvm.Cond.code (⟨"java/lang/Record", "<init>", "()V"⟩ : MethodName) jdk_30_method_1_code 1 none :: ws) ({ frames := 1, cells := 0, slots := 0, locals := 12 } : Room)) (fun a U => a = #[(.ref a0)] ∧ Z.Warmed39 U.vm ∧ U.heap = h0) (fun _ _ _ _ _ => True) (fun _ U o U' => ∃ v L, o = .returned v ∧ Q3 Z a0 h0 n0 v U'.heap L ∧ FrameEnd U o U' L ({ frames := 1, cells := 0, slots := 0, locals := 12 } : Room).cells ({ frames := 1, cells := 0, slots := 0, locals := 12 } : Room).slots) := by
  refine MetFree.of_bodySF (plainFor_of_name pn_3) hisR ?_
  intro p e s m args below meth c s₁ Bd hml0 hP hK
  obtain ⟨rfl, hZ, hh⟩ := hP
  have hx := Bd.exec
  have hby := Bd.bytes
  have hml : c.maxLocals = 1 := hml0
  have hown : s.vm.findClass "java/lang/Record" = some m.cls := findClass_of_methodNamed Bd.named
  have hnm := (name_of_methodNamed Bd.named Bd.method).1
  have X0 : Stand p l e ({ frames := 1, cells := 0, slots := 0, locals := 12 } : Room) s m #[(.ref a0)] below meth c s₁ [] 0 0 := Stand.of_body Bd
  have e0 : s₁.heap = h0 := by rw [← hh, Bd.state]; rfl
  have N0 := Fr.nil n0
  have pre0 : ∀ t, Steps p.tables e below (s₁.setTop (mkF m 0 #[.val (.ref a0)] [])) t → Steps p.tables e below (s₁.setTop (entryFrame m #[(.ref a0)] 1)) t := fun t k => castTop (ef_3 m a0) k
  obtain ⟨T1, X1, e1, st1⟩ := initO X0 hx hZ hown (hw _ (List.mem_of_getElem? (i := 16) rfl)) (hw _ (List.mem_of_getElem? (i := 17) rfl)) (hw _ (List.mem_of_getElem? (i := 18) rfl)) e0 (g := (mkF m 1 #[.val (.ref a0)] [(.ref a0)])) rfl (by rw [hml]; rfl) rfl (hb hby d3_1) (by decide) (W := 0) (by show 2 * 0 + _ ≤ _; exact Nat.le_of_eq rfl) (by decide)
  obtain ⟨fs, hr, hrun, hended, hW, hsame⟩ := X1.leave (v := none) (fun _ => rfl)
  refine ⟨_, _, pre0 _ ?_, hrun, hended, _, _, rfl, ?_, ⟨_, rfl⟩, hW, hsame.mono (by decide) (by decide)⟩
  · show Steps p.tables e below (s₁.setTop (mkF m 0 #[.val (.ref a0)] [])) _
    refine XS.aloadN X0.here hx rfl (hb hby d3_0) rfl rfl ?_
    show Steps p.tables e below (s₁.setTop (mkF m 1 #[.val (.ref a0)] [(.ref a0)])) _
    refine st1 _ ?_
    show Steps p.tables e below (T1.setTop (mkF m 4 #[.val (.ref a0)] [])) _
    exact X1.returnOut hx Bd.returns (hb hby d3_4) hr
  · show Q3 Z a0 h0 n0 _ T1.heap _
    rw [e1]
    exact ⟨rfl, N0, rfl⟩
theorem d2_0 : decode prog_23_method_1_code 0 = .ok (.aload_n 0, 1) := by decide +kernel
theorem d2_1 : decode prog_23_method_1_code 1 = .ok (.invokespecial 1, 3) := by decide +kernel
theorem d2_4 : decode prog_23_method_1_code 4 = .ok (.aload_n 0, 1) := by decide +kernel
theorem d2_5 : decode prog_23_method_1_code 5 = .ok (.lload_n 1, 1) := by decide +kernel
theorem d2_6 : decode prog_23_method_1_code 6 = .ok (.putfield 7, 3) := by decide +kernel
theorem d2_9 : decode prog_23_method_1_code 9 = .ok (.aload_n 0, 1) := by decide +kernel
theorem d2_10 : decode prog_23_method_1_code 10 = .ok (.lload_n 3, 1) := by decide +kernel
theorem d2_11 : decode prog_23_method_1_code 11 = .ok (.putfield 13, 3) := by decide +kernel
theorem d2_14 : decode prog_23_method_1_code 14 = .ok (.aload_n 0, 1) := by decide +kernel
theorem d2_15 : decode prog_23_method_1_code 15 = .ok (.lload 5, 2) := by decide +kernel
theorem d2_17 : decode prog_23_method_1_code 17 = .ok (.putfield 16, 3) := by decide +kernel
theorem d2_20 : decode prog_23_method_1_code 20 = .ok (.aload_n 0, 1) := by decide +kernel
theorem d2_21 : decode prog_23_method_1_code 21 = .ok (.lload 7, 2) := by decide +kernel
theorem d2_23 : decode prog_23_method_1_code 23 = .ok (.putfield 19, 3) := by decide +kernel
theorem d2_26 : decode prog_23_method_1_code 26 = .ok (.return_, 1) := by decide +kernel
theorem pn_2 : plainName "com/example/duotier/duotier/bench/Tally" = true := by first | (simp [plainName, overriddenIn]; done) | decide +kernel
theorem ef_2 (m : MethodId) (a0 : Addr) (q1 : Int64) (q2 : Int64) (q3 : Int64) (q4 : Int64) : entryFrame m #[(.ref a0), (.long q1), (.long q2), (.long q3), (.long q4)] 9 = mkF m 0 #[.val (.ref a0), .val (.long q1), .second, .val (.long q2), .second, .val (.long q3), .second, .val (.long q4), .second] [] := by first | (simp [entryFrame, mkF, argsToLocals, Value.category]; done) | rfl
def Q2 (Z : State) (a0 : Addr) (q1 : Int64) (q2 : Int64) (q3 : Int64) (q4 : Int64) (u_operations_a0 : Value) (u_reads_a0 : Value) (u_localMisses_a0 : Value) (u_nanos_a0 : Value) (h0 : Heap) (n0 : Nat) (v : Option Value) (h : Heap) (L : List Loc) : Prop := v = none ∧ Fr n0 L ∧ Keep h0 h [a0] ∧ Exa Z h a0 "com/example/duotier/duotier/bench/Tally" ∧ Fld Z h a0 "com/example/duotier/duotier/bench/Tally" "operations" "J" (.long q1) ∧ Fld Z h a0 "com/example/duotier/duotier/bench/Tally" "reads" "J" (.long q2) ∧ Fld Z h a0 "com/example/duotier/duotier/bench/Tally" "localMisses" "J" (.long q3) ∧ Fld Z h a0 "com/example/duotier/duotier/bench/Tally" "nanos" "J" (.long q4)
set_option maxRecDepth 65536 in
set_option maxHeartbeats 40000000 in
theorem rm2 (l : Launch) (Z : State) (aw : Array Value) (hw : ∀ d ∈ tables_1, d.before aw Z = true) (ws : List Jvm.Cond) (a0 : Addr) (q1 : Int64) (q2 : Int64) (q3 : Int64) (q4 : Int64) (u_operations_a0 : Value) (u_reads_a0 : Value) (u_localMisses_a0 : Value) (u_nanos_a0 : Value) (h0 : Heap) (n0 : Nat) (Z0 : n0 ≤ h0.size) (F_is_a0 : Exa Z h0 a0 "com/example/duotier/duotier/bench/Tally") (F_operations_a0 : Fld Z h0 a0 "com/example/duotier/duotier/bench/Tally" "operations" "J" u_operations_a0) (F_reads_a0 : Fld Z h0 a0 "com/example/duotier/duotier/bench/Tally" "reads" "J" u_reads_a0) (F_localMisses_a0 : Fld Z h0 a0 "com/example/duotier/duotier/bench/Tally" "localMisses" "J" u_localMisses_a0) (F_nanos_a0 : Fld Z h0 a0 "com/example/duotier/duotier/bench/Tally" "nanos" "J" u_nanos_a0) (g_a0 : n0 ≤ a0) :
    MetFree l (⟨"com/example/duotier/duotier/bench/Tally", "<init>", "(JJJJ)V"⟩ : MethodName) (head1 (Jvm.Cond.code (⟨"com/example/duotier/duotier/bench/Tally", "<init>", "(JJJJ)V"⟩ : MethodName) prog_23_method_1_code 9 none :: ws) ({ frames := 2, cells := 0, slots := 0, locals := 24 } : Room)) (fun a U => a = #[(.ref a0), (.long q1), (.long q2), (.long q3), (.long q4)] ∧ Z.Warmed39 U.vm ∧ U.heap = h0) (fun _ _ _ _ _ => True) (fun _ U o U' => ∃ v L, o = .returned v ∧ Q2 Z a0 q1 q2 q3 q4 u_operations_a0 u_reads_a0 u_localMisses_a0 u_nanos_a0 h0 n0 v U'.heap L ∧ FrameEnd U o U' L ({ frames := 2, cells := 0, slots := 0, locals := 24 } : Room).cells ({ frames := 2, cells := 0, slots := 0, locals := 24 } : Room).slots) := by
  refine MetFree.of_bodySF (plainFor_of_name pn_2) hisR ?_
  intro p e s m args below meth c s₁ Bd hml0 hP hK
  obtain ⟨rfl, hZ, hh⟩ := hP
  have hx := Bd.exec
  have hby := Bd.bytes
  have hml : c.maxLocals = 9 := hml0
  have hown : s.vm.findClass "com/example/duotier/duotier/bench/Tally" = some m.cls := findClass_of_methodNamed Bd.named
  have hnm := (name_of_methodNamed Bd.named Bd.method).1
  have X0 : Stand p l e ({ frames := 2, cells := 0, slots := 0, locals := 24 } : Room) s m #[(.ref a0), (.long q1), (.long q2), (.long q3), (.long q4)] below meth c s₁ [] 0 0 := Stand.of_body Bd
  have e0 : s₁.heap = h0 := by rw [← hh, Bd.state]; rfl
  have N0 := Fr.nil n0
  have pre0 : ∀ t, Steps p.tables e below (s₁.setTop (mkF m 0 #[.val (.ref a0), .val (.long q1), .second, .val (.long q2), .second, .val (.long q3), .second, .val (.long q4), .second] [])) t → Steps p.tables e below (s₁.setTop (entryFrame m #[(.ref a0), (.long q1), (.long q2), (.long q3), (.long q4)] 9)) t := fun t k => castTop (ef_2 m a0 q1 q2 q3 q4) k
  obtain ⟨_, _, ⟨T1, L1, k1, n1⟩, -, X1, ⟨Lc1, hQ1, l1, y1, z1'⟩, st1⟩ := X0.specialBack hx (y := (⟨"java/lang/Record", "<init>", "()V"⟩ : MethodName)) rfl hown (mvT hZ (hw _ (List.mem_of_getElem? (i := 11) rfl))) (mvT hZ (hw _ (List.mem_of_getElem? (i := 12) rfl))) (mvT hZ (hw _ (List.mem_of_getElem? (i := 15) rfl))) (by decide) (backOf (W := 0) (rm3 l Z aw hw [] a0 h0 n0 Z0 ) hZ (hw _ (List.mem_of_getElem? (i := 15) rfl)) (hw _ (List.mem_of_getElem? (i := 14) rfl)) (by decide) (by decide)) (g := (mkF m 1 #[.val (.ref a0), .val (.long q1), .second, .val (.long q2), .second, .val (.long q3), .second, .val (.long q4), .second] [(.ref a0)])) rfl (by rw [hml]; rfl) (Steps.refl _) (a := a0) (argsL := []) (rest := []) (lenOf pd_0 rfl) rfl (by show 2 * 0 + _ ≤ _; exact Nat.le_of_eq rfl) (hb hby d2_1) (fun _ _ => ⟨rfl, e0, (by decide : 0 + 0 ≤ _), (by decide : 0 + 0 ≤ _)⟩)
  dsimp only [Pt.U, Pt.locs, Pt.cells, Pt.slots] at X1 l1 y1 z1' st1 hQ1
  subst l1 y1 z1'
  obtain ⟨rfl, N1q, hq1⟩ := hQ1
  have f1_0 : Exa Z T1.heap a0 "com/example/duotier/duotier/bench/Tally" := by rw [hq1]; exact F_is_a0
  have f1_1 : Fld Z T1.heap a0 "com/example/duotier/duotier/bench/Tally" "operations" "J" u_operations_a0 := by rw [hq1]; exact F_operations_a0
  have f1_2 : Fld Z T1.heap a0 "com/example/duotier/duotier/bench/Tally" "reads" "J" u_reads_a0 := by rw [hq1]; exact F_reads_a0
  have f1_3 : Fld Z T1.heap a0 "com/example/duotier/duotier/bench/Tally" "localMisses" "J" u_localMisses_a0 := by rw [hq1]; exact F_localMisses_a0
  have f1_4 : Fld Z T1.heap a0 "com/example/duotier/duotier/bench/Tally" "nanos" "J" u_nanos_a0 := by rw [hq1]; exact F_nanos_a0
  have z1 : n0 ≤ T1.heap.size := by rw [hq1]; exact Z0
  have K1 : Keep h0 T1.heap [a0] := by rw [hq1]; exact (Keep.refl h0 [a0])
  have N1 := Fr.app N0 N1q
  obtain ⟨T2, h2, X2, e2, W2, st2⟩ := putF X1 hx hZ hown (host := "") (Or.inl (hw _ (List.mem_of_getElem? (i := 19) rfl))) Via.refl rfl f1_1 f1_0 (Or.inr ⟨(hw _ (List.mem_of_getElem? (i := 20) rfl)), rfl, hnm⟩) (hw _ (List.mem_of_getElem? (i := 6) rfl)) (ty := .long) (by decide) rfl rfl (g := (mkF m 6 #[.val (.ref a0), .val (.long q1), .second, .val (.long q2), .second, .val (.long q3), .second, .val (.long q4), .second] [(.long q1), (.ref a0)])) rfl rfl (hb hby d2_6)
  have f2_0 : Exa Z h2 a0 "com/example/duotier/duotier/bench/Tally" := f1_0.wr W2
  have f2_1 : Fld Z h2 a0 "com/example/duotier/duotier/bench/Tally" "operations" "J" (.long q1) := f1_1.same W2
  have f2_2 : Fld Z h2 a0 "com/example/duotier/duotier/bench/Tally" "reads" "J" u_reads_a0 := f1_2.other W2 (Or.inr (slot_ne (Or.inr (hw _ (List.mem_of_getElem? (i := 22) rfl))) (Or.inr (hw _ (List.mem_of_getElem? (i := 20) rfl))) (by decide) (t := .long) (t' := .long) (by decide) (by decide)))
  have f2_3 : Fld Z h2 a0 "com/example/duotier/duotier/bench/Tally" "localMisses" "J" u_localMisses_a0 := f1_3.other W2 (Or.inr (slot_ne (Or.inr (hw _ (List.mem_of_getElem? (i := 24) rfl))) (Or.inr (hw _ (List.mem_of_getElem? (i := 20) rfl))) (by decide) (t := .long) (t' := .long) (by decide) (by decide)))
  have f2_4 : Fld Z h2 a0 "com/example/duotier/duotier/bench/Tally" "nanos" "J" u_nanos_a0 := f1_4.other W2 (Or.inr (slot_ne (Or.inr (hw _ (List.mem_of_getElem? (i := 26) rfl))) (Or.inr (hw _ (List.mem_of_getElem? (i := 20) rfl))) (by decide) (t := .long) (t' := .long) (by decide) (by decide)))
  have K2 : Keep h0 h2 [a0] := K1.wr W2 (Or.inl (List.mem_of_getElem? (i := 0) rfl))
  have N2 := Fr.snoc X2 N1 g_a0
  have z2 : n0 ≤ h2.size := Nat.le_trans z1 (Keep.of_wr W2).1
  obtain ⟨T3, h3, X3, e3, W3, st3⟩ := putF X2 hx hZ hown (host := "") (Or.inl (hw _ (List.mem_of_getElem? (i := 21) rfl))) Via.refl e2 f2_2 f2_0 (Or.inr ⟨(hw _ (List.mem_of_getElem? (i := 22) rfl)), rfl, hnm⟩) (hw _ (List.mem_of_getElem? (i := 6) rfl)) (ty := .long) (by decide) rfl rfl (g := (mkF m 11 #[.val (.ref a0), .val (.long q1), .second, .val (.long q2), .second, .val (.long q3), .second, .val (.long q4), .second] [(.long q2), (.ref a0)])) rfl rfl (hb hby d2_11)
  have f3_0 : Exa Z h3 a0 "com/example/duotier/duotier/bench/Tally" := f2_0.wr W3
  have f3_1 : Fld Z h3 a0 "com/example/duotier/duotier/bench/Tally" "operations" "J" (.long q1) := f2_1.other W3 (Or.inr (slot_ne (Or.inr (hw _ (List.mem_of_getElem? (i := 20) rfl))) (Or.inr (hw _ (List.mem_of_getElem? (i := 22) rfl))) (by decide) (t := .long) (t' := .long) (by decide) (by decide)))
  have f3_2 : Fld Z h3 a0 "com/example/duotier/duotier/bench/Tally" "reads" "J" (.long q2) := f2_2.same W3
  have f3_3 : Fld Z h3 a0 "com/example/duotier/duotier/bench/Tally" "localMisses" "J" u_localMisses_a0 := f2_3.other W3 (Or.inr (slot_ne (Or.inr (hw _ (List.mem_of_getElem? (i := 24) rfl))) (Or.inr (hw _ (List.mem_of_getElem? (i := 22) rfl))) (by decide) (t := .long) (t' := .long) (by decide) (by decide)))
  have f3_4 : Fld Z h3 a0 "com/example/duotier/duotier/bench/Tally" "nanos" "J" u_nanos_a0 := f2_4.other W3 (Or.inr (slot_ne (Or.inr (hw _ (List.mem_of_getElem? (i := 26) rfl))) (Or.inr (hw _ (List.mem_of_getElem? (i := 22) rfl))) (by decide) (t := .long) (t' := .long) (by decide) (by decide)))
  have K3 : Keep h0 h3 [a0] := K2.wr W3 (Or.inl (List.mem_of_getElem? (i := 0) rfl))
  have N3 := Fr.snoc X3 N2 g_a0
  have z3 : n0 ≤ h3.size := Nat.le_trans z2 (Keep.of_wr W3).1
  obtain ⟨T4, h4, X4, e4, W4, st4⟩ := putF X3 hx hZ hown (host := "") (Or.inl (hw _ (List.mem_of_getElem? (i := 23) rfl))) Via.refl e3 f3_3 f3_0 (Or.inr ⟨(hw _ (List.mem_of_getElem? (i := 24) rfl)), rfl, hnm⟩) (hw _ (List.mem_of_getElem? (i := 6) rfl)) (ty := .long) (by decide) rfl rfl (g := (mkF m 17 #[.val (.ref a0), .val (.long q1), .second, .val (.long q2), .second, .val (.long q3), .second, .val (.long q4), .second] [(.long q3), (.ref a0)])) rfl rfl (hb hby d2_17)
  have f4_0 : Exa Z h4 a0 "com/example/duotier/duotier/bench/Tally" := f3_0.wr W4
  have f4_1 : Fld Z h4 a0 "com/example/duotier/duotier/bench/Tally" "operations" "J" (.long q1) := f3_1.other W4 (Or.inr (slot_ne (Or.inr (hw _ (List.mem_of_getElem? (i := 20) rfl))) (Or.inr (hw _ (List.mem_of_getElem? (i := 24) rfl))) (by decide) (t := .long) (t' := .long) (by decide) (by decide)))
  have f4_2 : Fld Z h4 a0 "com/example/duotier/duotier/bench/Tally" "reads" "J" (.long q2) := f3_2.other W4 (Or.inr (slot_ne (Or.inr (hw _ (List.mem_of_getElem? (i := 22) rfl))) (Or.inr (hw _ (List.mem_of_getElem? (i := 24) rfl))) (by decide) (t := .long) (t' := .long) (by decide) (by decide)))
  have f4_3 : Fld Z h4 a0 "com/example/duotier/duotier/bench/Tally" "localMisses" "J" (.long q3) := f3_3.same W4
  have f4_4 : Fld Z h4 a0 "com/example/duotier/duotier/bench/Tally" "nanos" "J" u_nanos_a0 := f3_4.other W4 (Or.inr (slot_ne (Or.inr (hw _ (List.mem_of_getElem? (i := 26) rfl))) (Or.inr (hw _ (List.mem_of_getElem? (i := 24) rfl))) (by decide) (t := .long) (t' := .long) (by decide) (by decide)))
  have K4 : Keep h0 h4 [a0] := K3.wr W4 (Or.inl (List.mem_of_getElem? (i := 0) rfl))
  have N4 := Fr.snoc X4 N3 g_a0
  have z4 : n0 ≤ h4.size := Nat.le_trans z3 (Keep.of_wr W4).1
  obtain ⟨T5, h5, X5, e5, W5, st5⟩ := putF X4 hx hZ hown (host := "") (Or.inl (hw _ (List.mem_of_getElem? (i := 25) rfl))) Via.refl e4 f4_4 f4_0 (Or.inr ⟨(hw _ (List.mem_of_getElem? (i := 26) rfl)), rfl, hnm⟩) (hw _ (List.mem_of_getElem? (i := 6) rfl)) (ty := .long) (by decide) rfl rfl (g := (mkF m 23 #[.val (.ref a0), .val (.long q1), .second, .val (.long q2), .second, .val (.long q3), .second, .val (.long q4), .second] [(.long q4), (.ref a0)])) rfl rfl (hb hby d2_23)
  have f5_0 : Exa Z h5 a0 "com/example/duotier/duotier/bench/Tally" := f4_0.wr W5
  have f5_1 : Fld Z h5 a0 "com/example/duotier/duotier/bench/Tally" "operations" "J" (.long q1) := f4_1.other W5 (Or.inr (slot_ne (Or.inr (hw _ (List.mem_of_getElem? (i := 20) rfl))) (Or.inr (hw _ (List.mem_of_getElem? (i := 26) rfl))) (by decide) (t := .long) (t' := .long) (by decide) (by decide)))
  have f5_2 : Fld Z h5 a0 "com/example/duotier/duotier/bench/Tally" "reads" "J" (.long q2) := f4_2.other W5 (Or.inr (slot_ne (Or.inr (hw _ (List.mem_of_getElem? (i := 22) rfl))) (Or.inr (hw _ (List.mem_of_getElem? (i := 26) rfl))) (by decide) (t := .long) (t' := .long) (by decide) (by decide)))
  have f5_3 : Fld Z h5 a0 "com/example/duotier/duotier/bench/Tally" "localMisses" "J" (.long q3) := f4_3.other W5 (Or.inr (slot_ne (Or.inr (hw _ (List.mem_of_getElem? (i := 24) rfl))) (Or.inr (hw _ (List.mem_of_getElem? (i := 26) rfl))) (by decide) (t := .long) (t' := .long) (by decide) (by decide)))
  have f5_4 : Fld Z h5 a0 "com/example/duotier/duotier/bench/Tally" "nanos" "J" (.long q4) := f4_4.same W5
  have K5 : Keep h0 h5 [a0] := K4.wr W5 (Or.inl (List.mem_of_getElem? (i := 0) rfl))
  have N5 := Fr.snoc X5 N4 g_a0
  have z5 : n0 ≤ h5.size := Nat.le_trans z4 (Keep.of_wr W5).1
  obtain ⟨fs, hr, hrun, hended, hW, hsame⟩ := X5.leave (v := none) (fun _ => rfl)
  refine ⟨_, _, pre0 _ ?_, hrun, hended, _, _, rfl, ?_, ⟨_, rfl⟩, hW, hsame.mono (by decide) (by decide)⟩
  · show Steps p.tables e below (s₁.setTop (mkF m 0 #[.val (.ref a0), .val (.long q1), .second, .val (.long q2), .second, .val (.long q3), .second, .val (.long q4), .second] [])) _
    refine XS.aloadN X0.here hx rfl (hb hby d2_0) rfl rfl ?_
    show Steps p.tables e below (s₁.setTop (mkF m 1 #[.val (.ref a0), .val (.long q1), .second, .val (.long q2), .second, .val (.long q3), .second, .val (.long q4), .second] [(.ref a0)])) _
    refine st1.trans ?_
    show Steps p.tables e below (T1.setTop (mkF m 4 #[.val (.ref a0), .val (.long q1), .second, .val (.long q2), .second, .val (.long q3), .second, .val (.long q4), .second] [])) _
    refine XS.aloadN X1.here hx rfl (hb hby d2_4) rfl rfl ?_
    show Steps p.tables e below (T1.setTop (mkF m 5 #[.val (.ref a0), .val (.long q1), .second, .val (.long q2), .second, .val (.long q3), .second, .val (.long q4), .second] [(.ref a0)])) _
    refine XS.lloadN X1.here hx rfl (hb hby d2_5) rfl ?_
    show Steps p.tables e below (T1.setTop (mkF m 6 #[.val (.ref a0), .val (.long q1), .second, .val (.long q2), .second, .val (.long q3), .second, .val (.long q4), .second] [(.long q1), (.ref a0)])) _
    refine st2 _ ?_
    show Steps p.tables e below (T2.setTop (mkF m 9 #[.val (.ref a0), .val (.long q1), .second, .val (.long q2), .second, .val (.long q3), .second, .val (.long q4), .second] [])) _
    refine XS.aloadN X2.here hx rfl (hb hby d2_9) rfl rfl ?_
    show Steps p.tables e below (T2.setTop (mkF m 10 #[.val (.ref a0), .val (.long q1), .second, .val (.long q2), .second, .val (.long q3), .second, .val (.long q4), .second] [(.ref a0)])) _
    refine XS.lloadN X2.here hx rfl (hb hby d2_10) rfl ?_
    show Steps p.tables e below (T2.setTop (mkF m 11 #[.val (.ref a0), .val (.long q1), .second, .val (.long q2), .second, .val (.long q3), .second, .val (.long q4), .second] [(.long q2), (.ref a0)])) _
    refine st3 _ ?_
    show Steps p.tables e below (T3.setTop (mkF m 14 #[.val (.ref a0), .val (.long q1), .second, .val (.long q2), .second, .val (.long q3), .second, .val (.long q4), .second] [])) _
    refine XS.aloadN X3.here hx rfl (hb hby d2_14) rfl rfl ?_
    show Steps p.tables e below (T3.setTop (mkF m 15 #[.val (.ref a0), .val (.long q1), .second, .val (.long q2), .second, .val (.long q3), .second, .val (.long q4), .second] [(.ref a0)])) _
    refine XS.lload X3.here hx rfl (hb hby d2_15) rfl ?_
    show Steps p.tables e below (T3.setTop (mkF m 17 #[.val (.ref a0), .val (.long q1), .second, .val (.long q2), .second, .val (.long q3), .second, .val (.long q4), .second] [(.long q3), (.ref a0)])) _
    refine st4 _ ?_
    show Steps p.tables e below (T4.setTop (mkF m 20 #[.val (.ref a0), .val (.long q1), .second, .val (.long q2), .second, .val (.long q3), .second, .val (.long q4), .second] [])) _
    refine XS.aloadN X4.here hx rfl (hb hby d2_20) rfl rfl ?_
    show Steps p.tables e below (T4.setTop (mkF m 21 #[.val (.ref a0), .val (.long q1), .second, .val (.long q2), .second, .val (.long q3), .second, .val (.long q4), .second] [(.ref a0)])) _
    refine XS.lload X4.here hx rfl (hb hby d2_21) rfl ?_
    show Steps p.tables e below (T4.setTop (mkF m 23 #[.val (.ref a0), .val (.long q1), .second, .val (.long q2), .second, .val (.long q3), .second, .val (.long q4), .second] [(.long q4), (.ref a0)])) _
    refine st5 _ ?_
    show Steps p.tables e below (T5.setTop (mkF m 26 #[.val (.ref a0), .val (.long q1), .second, .val (.long q2), .second, .val (.long q3), .second, .val (.long q4), .second] [])) _
    exact X5.returnOut hx Bd.returns (hb hby d2_26) hr
  · show Q2 Z a0 q1 q2 q3 q4 u_operations_a0 u_reads_a0 u_localMisses_a0 u_nanos_a0 h0 n0 _ T5.heap _
    rw [e5]
    exact ⟨rfl, N5, K5, f5_0, f5_1, f5_2, f5_3, f5_4⟩
theorem d5_0 : decode prog_23_method_5_code 0 = .ok (.aload_n 0, 1) := by decide +kernel
theorem d5_1 : decode prog_23_method_5_code 1 = .ok (.getfield 13, 3) := by decide +kernel
theorem d5_4 : decode prog_23_method_5_code 4 = .ok (.l2d, 1) := by decide +kernel
theorem d5_5 : decode prog_23_method_5_code 5 = .ok (.aload_n 0, 1) := by decide +kernel
theorem d5_6 : decode prog_23_method_5_code 6 = .ok (.getfield 7, 3) := by decide +kernel
theorem d5_9 : decode prog_23_method_5_code 9 = .ok (.l2d, 1) := by decide +kernel
theorem d5_10 : decode prog_23_method_5_code 10 = .ok (.ddiv, 1) := by decide +kernel
theorem d5_11 : decode prog_23_method_5_code 11 = .ok (.dreturn, 1) := by decide +kernel
theorem ef_5 (m : MethodId) (a0 : Addr) : entryFrame m #[(.ref a0)] 1 = mkF m 0 #[.val (.ref a0)] [] := by first | (simp [entryFrame, mkF, argsToLocals, Value.category]; done) | rfl
def Q5 (Z : State) (a0 : Addr) (w_reads_a0 : Int64) (w_operations_a0 : Int64) (h0 : Heap) (n0 : Nat) (v : Option Value) (h : Heap) (L : List Loc) : Prop := v = some (.double (r5 w_reads_a0 w_operations_a0)) ∧ Fr n0 L ∧ h = h0
set_option maxRecDepth 65536 in
set_option maxHeartbeats 40000000 in
theorem rm5 (l : Launch) (Z : State) (aw : Array Value) (hw : ∀ d ∈ tables_1, d.before aw Z = true) (ws : List Jvm.Cond) (a0 : Addr) (w_reads_a0 : Int64) (w_operations_a0 : Int64) (h0 : Heap) (n0 : Nat) (Z0 : n0 ≤ h0.size) (F_reads_a0 : Fld Z h0 a0 "com/example/duotier/duotier/bench/Tally" "reads" "J" (.long w_reads_a0)) (F_operations_a0 : Fld Z h0 a0 "com/example/duotier/duotier/bench/Tally" "operations" "J" (.long w_operations_a0)) (hn10 : Jvm.Free.Fl.NoNaN64 (FP.ddiv (FP.l2d w_reads_a0) (FP.l2d w_operations_a0))) :
    MetFree l (⟨"com/example/duotier/duotier/bench/Tally", "readFraction", "()D"⟩ : MethodName) (head1 (Jvm.Cond.code (⟨"com/example/duotier/duotier/bench/Tally", "readFraction", "()D"⟩ : MethodName) prog_23_method_5_code 1 (some .double) :: ws) ({ frames := 0, cells := 0, slots := 0, locals := 0 } : Room)) (fun a U => a = #[(.ref a0)] ∧ Z.Warmed39 U.vm ∧ U.heap = h0) (fun _ _ _ _ _ => True) (fun _ U o U' => ∃ v L, o = .returned v ∧ Q5 Z a0 w_reads_a0 w_operations_a0 h0 n0 v U'.heap L ∧ FrameEnd U o U' L ({ frames := 0, cells := 0, slots := 0, locals := 0 } : Room).cells ({ frames := 0, cells := 0, slots := 0, locals := 0 } : Room).slots) := by
  refine MetFree.of_bodySF (plainFor_of_name pn_2) hisR ?_
  intro p e s m args below meth c s₁ Bd hml0 hP hK
  obtain ⟨rfl, hZ, hh⟩ := hP
  have hx := Bd.exec
  have hby := Bd.bytes
  have hml : c.maxLocals = 1 := hml0
  have hown : s.vm.findClass "com/example/duotier/duotier/bench/Tally" = some m.cls := findClass_of_methodNamed Bd.named
  have hnm := (name_of_methodNamed Bd.named Bd.method).1
  have X0 : Stand p l e ({ frames := 0, cells := 0, slots := 0, locals := 0 } : Room) s m #[(.ref a0)] below meth c s₁ [] 0 0 := Stand.of_body Bd
  have e0 : s₁.heap = h0 := by rw [← hh, Bd.state]; rfl
  have N0 := Fr.nil n0
  have pre0 : ∀ t, Steps p.tables e below (s₁.setTop (mkF m 0 #[.val (.ref a0)] [])) t → Steps p.tables e below (s₁.setTop (entryFrame m #[(.ref a0)] 1)) t := fun t k => castTop (ef_5 m a0) k
  obtain ⟨T1, X1, e1, st1⟩ := getF X0 hx hZ hown (host := "") (Or.inl (hw _ (List.mem_of_getElem? (i := 21) rfl))) Via.refl e0 F_reads_a0 (g := (mkF m 1 #[.val (.ref a0)] [(.ref a0)])) rfl rfl (hb hby d5_1)
  obtain ⟨T2, X2, e2, st2⟩ := getF X1 hx hZ hown (host := "") (Or.inl (hw _ (List.mem_of_getElem? (i := 19) rfl))) Via.refl e1 F_operations_a0 (g := (mkF m 6 #[.val (.ref a0)] [(.ref a0), (.double (FP.l2d w_reads_a0))])) rfl rfl (hb hby d5_6)
  obtain ⟨fs, hr, hrun, hended, hW, hsame⟩ := X2.leave (v := some (.double (r5 w_reads_a0 w_operations_a0))) (fun h => by rw [Bd.returns] at h; cases h)
  refine ⟨_, _, pre0 _ ?_, hrun, hended, _, _, rfl, ?_, ⟨_, rfl⟩, hW, hsame.mono (by decide) (by decide)⟩
  · show Steps p.tables e below (s₁.setTop (mkF m 0 #[.val (.ref a0)] [])) _
    refine XS.aloadN X0.here hx rfl (hb hby d5_0) rfl rfl ?_
    show Steps p.tables e below (s₁.setTop (mkF m 1 #[.val (.ref a0)] [(.ref a0)])) _
    refine st1 _ ?_
    show Steps p.tables e below (T1.setTop (mkF m 4 #[.val (.ref a0)] [(.long w_reads_a0)])) _
    refine XS.l2dS X1.here hx rfl (hb hby d5_4) rfl rfl ?_
    show Steps p.tables e below (T1.setTop (mkF m 5 #[.val (.ref a0)] [(.double (FP.l2d w_reads_a0))])) _
    refine XS.aloadN X1.here hx rfl (hb hby d5_5) rfl rfl ?_
    show Steps p.tables e below (T1.setTop (mkF m 6 #[.val (.ref a0)] [(.ref a0), (.double (FP.l2d w_reads_a0))])) _
    refine st2 _ ?_
    show Steps p.tables e below (T2.setTop (mkF m 9 #[.val (.ref a0)] [(.long w_operations_a0), (.double (FP.l2d w_reads_a0))])) _
    refine XS.l2dS X2.here hx rfl (hb hby d5_9) rfl rfl ?_
    show Steps p.tables e below (T2.setTop (mkF m 10 #[.val (.ref a0)] [(.double (FP.l2d w_operations_a0)), (.double (FP.l2d w_reads_a0))])) _
    refine XS.ddivS X2.here hx rfl (hb hby d5_10) rfl hn10 rfl ?_
    show Steps p.tables e below (T2.setTop (mkF m 11 #[.val (.ref a0)] [(.double (FP.ddiv (FP.l2d w_reads_a0) (FP.l2d w_operations_a0)))])) _
    exact retD X2 hx Bd.returns (hb hby d5_11) hr
  · show Q5 Z a0 w_reads_a0 w_operations_a0 h0 n0 _ T2.heap _
    rw [e2]
    exact ⟨rfl, N0, rfl⟩
theorem pn_0 : plainName "com/example/duotier/duotier/bench/TallyReadFractionPinLaw" = true := by first | (simp [plainName, overriddenIn]; done) | decide +kernel
theorem ef_0 (m : MethodId) (q0 : Int64) (q1 : Int64) (q2 : Int64) (q3 : Int64) (p4 : Int32) : entryFrame m #[(.long q0), (.long q1), (.long q2), (.long q3), (.int p4)] maxLocals = mkF m 0 #[.val (.long q0), .second, .val (.long q1), .second, .val (.long q2), .second, .val (.long q3), .second, .val (.int p4), .unset, .unset, .unset, .unset, .unset, .unset, .unset, .unset, .unset, .unset, .unset, .unset, .unset, .unset, .unset, .unset, .unset, .unset, .unset, .unset, .unset, .unset] [] := by first | (simp [entryFrame, mkF, argsToLocals, Value.category, maxLocals]; done) | rfl
def Q0 (Z : State) (q0 : Int64) (q1 : Int64) (q2 : Int64) (q3 : Int64) (p4 : Int32) (h0 : Heap) (n0 : Nat) (v : Option Value) (h : Heap) (L : List Loc) : Prop := v = some (.int (1 : Int32)) ∧ Fr n0 L
set_option maxRecDepth 65536 in
set_option maxHeartbeats 40000000 in
theorem rm0 (l : Launch) (Z : State) (aw : Array Value) (hw : ∀ d ∈ tables_1, d.before aw Z = true) (ws : List Jvm.Cond) (q0 : Int64) (q1 : Int64) (q2 : Int64) (q3 : Int64) (p4 : Int32) (h0 : Heap) (n0 : Nat) (Z0 : n0 ≤ h0.size) (hz18 : (v0_9 q0 q1 q2 q3 p4) ≠ (0 : Int64)) (hn10_103 : Jvm.Free.Fl.NoNaN64 (FP.ddiv (FP.l2d (j0_30_l11 q0 q1 q2 q3 p4)) (FP.l2d (v0_9 q0 q1 q2 q3 p4)))) (hn10_122 : Jvm.Free.Fl.NoNaN64 (FP.ddiv (FP.l2d (j0_81_l14 q0 q1 q2 q3 p4)) (FP.l2d (v0_9 q0 q1 q2 q3 p4)))) (hz350 : ((v0_339 q0 q1 q2 q3 p4) + (1 : Int64)) ≠ (0 : Int64)) (hn10_376 : Jvm.Free.Fl.NoNaN64 (FP.ddiv (FP.l2d (v0_351 q0 q1 q2 q3 p4)) (FP.l2d (v0_339 q0 q1 q2 q3 p4)))) (hn10_400 : Jvm.Free.Fl.NoNaN64 (FP.ddiv (FP.l2d ((v0_361 q0 q1 q2 q3 p4) * (v0_351 q0 q1 q2 q3 p4))) (FP.l2d ((v0_361 q0 q1 q2 q3 p4) * (v0_339 q0 q1 q2 q3 p4))))) (hres427 : (j0_407_s0 q0 q1 q2 q3 p4) = (1 : Int32)) :
    MetFree l x (head1 (Jvm.Cond.code x code maxLocals ret :: ws) room_1) (fun a U => a = #[(.long q0), (.long q1), (.long q2), (.long q3), (.int p4)] ∧ Z.Warmed39 U.vm ∧ U.heap = h0) (fun _ _ _ _ _ => True) (fun _ U o U' => ∃ v L, o = .returned v ∧ Q0 Z q0 q1 q2 q3 p4 h0 n0 v U'.heap L ∧ FrameEnd U o U' L 4 16) := by
  refine MetFree.of_bodySF (plainFor_of_name pn_0) hisR ?_
  intro p e s m args below meth c s₁ Bd hml0 hP hK
  obtain ⟨rfl, hZ, hh⟩ := hP
  have hx := Bd.exec
  have hby := Bd.bytes
  have hml : c.maxLocals = 31 := hml0
  have hown : s.vm.findClass "com/example/duotier/duotier/bench/TallyReadFractionPinLaw" = some m.cls := findClass_of_methodNamed Bd.named
  have hnm := (name_of_methodNamed Bd.named Bd.method).1
  have X0 : Stand p l e room_1 s m #[(.long q0), (.long q1), (.long q2), (.long q3), (.int p4)] below meth c s₁ [] 0 0 := Stand.of_body Bd
  have e0 : s₁.heap = h0 := by rw [← hh, Bd.state]; rfl
  have N0 := Fr.nil n0
  have pre0 : ∀ t, Steps p.tables e below (s₁.setTop (mkF m 0 #[.val (.long q0), .second, .val (.long q1), .second, .val (.long q2), .second, .val (.long q3), .second, .val (.int p4), .unset, .unset, .unset, .unset, .unset, .unset, .unset, .unset, .unset, .unset, .unset, .unset, .unset, .unset, .unset, .unset, .unset, .unset, .unset, .unset, .unset, .unset] [])) t → Steps p.tables e below (s₁.setTop (entryFrame m #[(.long q0), (.long q1), (.long q2), (.long q3), (.int p4)] maxLocals)) t := fun t k => castTop (ef_0 m q0 q1 q2 q3 p4) k
  obtain ⟨_, _, ⟨T1, L1, k1, n1⟩, -, X1, ⟨Lc1, hQ1, l1, y1, z1'⟩, st1⟩ := Jvm.LawKit.callS X0 hx (y := (⟨"java/lang/Math", "max", "(JJ)J"⟩ : MethodName)) hown (mvT hZ (hw _ (List.mem_of_getElem? (i := 1) rfl))) (mvT hZ (hw _ (List.mem_of_getElem? (i := 2) rfl))) (mvT hZ (hw _ (List.mem_of_getElem? (i := 3) rfl))) (mvT hZ (hw _ (List.mem_of_getElem? (i := 4) rfl))) (by decide) (backOf (W := 0) (rm1 l Z aw hw [] (1 : Int64) (q0 &&& (9223372036854775807 : Int64)) h0 n0 Z0 ) hZ (hw _ (List.mem_of_getElem? (i := 4) rfl)) (hw _ (List.mem_of_getElem? (i := 3) rfl)) (by decide) (by decide)) (g := (mkF m 6 #[.val (.long q0), .second, .val (.long q1), .second, .val (.long q2), .second, .val (.long q3), .second, .val (.int p4), .unset, .unset, .unset, .unset, .unset, .unset, .unset, .unset, .unset, .unset, .unset, .unset, .unset, .unset, .unset, .unset, .unset, .unset, .unset, .unset, .unset, .unset] [(.long (q0 &&& (9223372036854775807 : Int64))), (.long (1 : Int64))])) rfl (by rw [hml]; rfl) (argsL := [(.long (1 : Int64)), (.long (q0 &&& (9223372036854775807 : Int64)))]) (rest := []) (lenOf pd_1 rfl) rfl (by show 2 * 0 + _ ≤ _; exact Nat.le_of_eq rfl) (hb hby at_6) (fun _ _ => ⟨rfl, e0, (by decide : 0 + 0 ≤ _), (by decide : 0 + 0 ≤ _)⟩)
  dsimp only [Pt.U, Pt.locs, Pt.cells, Pt.slots] at X1 l1 y1 z1' st1 hQ1
  subst l1 y1 z1'
  obtain ⟨rfl, N1q, hq1⟩ := hQ1
  have z1 : n0 ≤ T1.heap.size := by rw [hq1]; exact Z0
  have N1 := Fr.app N0 N1q
  obtain ⟨T2, h2, X2, e2, E2, A2, D2, -, st2⟩ := newO X1 hx hZ hown (hw _ (List.mem_of_getElem? (i := 5) rfl)) (hw _ (List.mem_of_getElem? (i := 6) rfl)) (hw _ (List.mem_of_getElem? (i := 7) rfl)) rfl (g := (mkF m 88 #[.val (.long q0), .second, .val (.long q1), .second, .val (.long q2), .second, .val (.long q3), .second, .val (.int p4), .val (.long (v0_9 q0 q1 q2 q3 p4)), .second, .val (.long (j0_30_l11 q0 q1 q2 q3 p4)), .second, .val (.int (v0_25 q0 q1 q2 q3 p4)), .val (.long (j0_81_l14 q0 q1 q2 q3 p4)), .second, .unset, .unset, .unset, .unset, .unset, .unset, .unset, .unset, .unset, .unset, .unset, .unset, .unset, .unset, .unset] [])) rfl (hb hby at_88) (by decide) (by decide)
  obtain ⟨b2, g2⟩ : ∃ z, z = T1.heap.size := ⟨_, rfl⟩
  rw [← g2] at A2 D2 st2
  have g_b2 : n0 ≤ b2 := Nat.le_trans z1 (Nat.le_of_eq g2.symm)
  have z2 : n0 ≤ h2.size := Nat.le_trans z1 E2.1
  have F2_operations : Fld Z h2 b2 "com/example/duotier/duotier/bench/Tally" "operations" "J" (.long (0 : Int64)) := D2 (Or.inr (hw _ (List.mem_of_getElem? (i := 20) rfl))) (ty := .long) (by decide)
  have F2_reads : Fld Z h2 b2 "com/example/duotier/duotier/bench/Tally" "reads" "J" (.long (0 : Int64)) := D2 (Or.inr (hw _ (List.mem_of_getElem? (i := 22) rfl))) (ty := .long) (by decide)
  have F2_localMisses : Fld Z h2 b2 "com/example/duotier/duotier/bench/Tally" "localMisses" "J" (.long (0 : Int64)) := D2 (Or.inr (hw _ (List.mem_of_getElem? (i := 24) rfl))) (ty := .long) (by decide)
  have F2_nanos : Fld Z h2 b2 "com/example/duotier/duotier/bench/Tally" "nanos" "J" (.long (0 : Int64)) := D2 (Or.inr (hw _ (List.mem_of_getElem? (i := 26) rfl))) (ty := .long) (by decide)
  obtain ⟨_, _, ⟨T3, L3, k3, n3⟩, -, X3, ⟨Lc3, hQ3, l3, y3, z3'⟩, st3⟩ := X2.specialBack hx (y := (⟨"com/example/duotier/duotier/bench/Tally", "<init>", "(JJJJ)V"⟩ : MethodName)) rfl hown (mvT hZ (hw _ (List.mem_of_getElem? (i := 8) rfl))) (mvT hZ (hw _ (List.mem_of_getElem? (i := 9) rfl))) (mvT hZ (hw _ (List.mem_of_getElem? (i := 10) rfl))) (by decide) (backOf (W := 1) (rm2 l Z aw hw [] b2 (v0_9 q0 q1 q2 q3 p4) (j0_30_l11 q0 q1 q2 q3 p4) q3 q2 (.long (0 : Int64)) (.long (0 : Int64)) (.long (0 : Int64)) (.long (0 : Int64)) h2 n0 z2 A2 F2_operations F2_reads F2_localMisses F2_nanos g_b2) hZ (hw _ (List.mem_of_getElem? (i := 10) rfl)) (hw _ (List.mem_of_getElem? (i := 7) rfl)) (by decide) (by decide)) (g := (mkF m 100 #[.val (.long q0), .second, .val (.long q1), .second, .val (.long q2), .second, .val (.long q3), .second, .val (.int p4), .val (.long (v0_9 q0 q1 q2 q3 p4)), .second, .val (.long (j0_30_l11 q0 q1 q2 q3 p4)), .second, .val (.int (v0_25 q0 q1 q2 q3 p4)), .val (.long (j0_81_l14 q0 q1 q2 q3 p4)), .second, .unset, .unset, .unset, .unset, .unset, .unset, .unset, .unset, .unset, .unset, .unset, .unset, .unset, .unset, .unset] [(.long q2), (.long q3), (.long (j0_30_l11 q0 q1 q2 q3 p4)), (.long (v0_9 q0 q1 q2 q3 p4)), (.ref b2), (.ref b2)])) rfl (by rw [hml]; rfl) (Steps.refl _) (a := b2) (argsL := [(.long (v0_9 q0 q1 q2 q3 p4)), (.long (j0_30_l11 q0 q1 q2 q3 p4)), (.long q3), (.long q2)]) (rest := [(.ref b2)]) (lenOf pd_2 rfl) rfl (by show 2 * 0 + _ ≤ _; exact Nat.le_of_eq rfl) (hb hby at_100) (fun _ _ => ⟨rfl, e2, (by decide : 1 + 0 ≤ _), (by decide : 4 + 0 ≤ _)⟩)
  dsimp only [Pt.U, Pt.locs, Pt.cells, Pt.slots] at X3 l3 y3 z3' st3 hQ3
  subst l3 y3 z3'
  obtain ⟨rfl, N3q, K3q, x3, f3_k0, f3_k1, f3_k2, f3_k3⟩ := hQ3
  have z3 : n0 ≤ T3.heap.size := Nat.le_trans z2 K3q.1
  have N3 := Fr.app N1 N3q
  obtain ⟨cq4, kq4, q4a, q4b, q4c⟩ := isOf hZ rfl x3
  obtain ⟨_, _, ⟨T4, L4, k4, n4⟩, -, X4, ⟨Lc4, hQ4, l4, y4, z4'⟩, st4⟩ := X3.virtualBack hx (y := (⟨"com/example/duotier/duotier/bench/Tally", "readFraction", "()D"⟩ : MethodName)) (z := (⟨"com/example/duotier/duotier/bench/Tally", "readFraction", "()D"⟩ : MethodName)) hown (mvT hZ (hw _ (List.mem_of_getElem? (i := 27) rfl))) (mvT hZ (hw _ (List.mem_of_getElem? (i := 28) rfl))) (notFace_of_selects (args := #[]) (mvT hZ (hw _ (List.mem_of_getElem? (i := 30) rfl)))) (mvT hZ (hw _ (List.mem_of_getElem? (i := 30) rfl))) (mvT hZ (hw _ (List.mem_of_getElem? (i := 29) rfl))) (by decide) (backOf (W := 0) (rm5 l Z aw hw [] b2 (j0_30_l11 q0 q1 q2 q3 p4) (v0_9 q0 q1 q2 q3 p4) T3.heap n0 z3 f3_k1 f3_k0 hn10_103) hZ (hw _ (List.mem_of_getElem? (i := 31) rfl)) (hw _ (List.mem_of_getElem? (i := 7) rfl)) (by decide) (by decide)) q4a q4c (g := (mkF m 103 #[.val (.long q0), .second, .val (.long q1), .second, .val (.long q2), .second, .val (.long q3), .second, .val (.int p4), .val (.long (v0_9 q0 q1 q2 q3 p4)), .second, .val (.long (j0_30_l11 q0 q1 q2 q3 p4)), .second, .val (.int (v0_25 q0 q1 q2 q3 p4)), .val (.long (j0_81_l14 q0 q1 q2 q3 p4)), .second, .unset, .unset, .unset, .unset, .unset, .unset, .unset, .unset, .unset, .unset, .unset, .unset, .unset, .unset, .unset] [(.ref b2)])) rfl (by rw [hml]; rfl) (Steps.refl _) (argsL := []) (rest := []) (lenOf pd_3 rfl) rfl (by show 2 * 0 + _ ≤ _; exact Nat.le_of_eq rfl) (hb hby at_103) (fun _ _ => ⟨rfl, rfl, (by decide : 1 + 0 ≤ _), (by decide : 4 + 0 ≤ _)⟩)
  dsimp only [Pt.U, Pt.locs, Pt.cells, Pt.slots] at X4 l4 y4 z4' st4 hQ4
  subst l4 y4 z4'
  obtain ⟨rfl, N4q, hq4⟩ := hQ4
  have f4_0 : Exa Z T4.heap b2 "com/example/duotier/duotier/bench/Tally" := by rw [hq4]; exact x3
  have f4_1 : Fld Z T4.heap b2 "com/example/duotier/duotier/bench/Tally" "operations" "J" (.long (v0_9 q0 q1 q2 q3 p4)) := by rw [hq4]; exact f3_k0
  have f4_2 : Fld Z T4.heap b2 "com/example/duotier/duotier/bench/Tally" "reads" "J" (.long (j0_30_l11 q0 q1 q2 q3 p4)) := by rw [hq4]; exact f3_k1
  have f4_3 : Fld Z T4.heap b2 "com/example/duotier/duotier/bench/Tally" "localMisses" "J" (.long q3) := by rw [hq4]; exact f3_k2
  have f4_4 : Fld Z T4.heap b2 "com/example/duotier/duotier/bench/Tally" "nanos" "J" (.long q2) := by rw [hq4]; exact f3_k3
  have z4 : n0 ≤ T4.heap.size := by rw [hq4]; exact z3
  have N4 := Fr.app N3 N4q
  obtain ⟨T5, h5, X5, e5, E5, A5, D5, -, st5⟩ := newO X4 hx hZ hown (hw _ (List.mem_of_getElem? (i := 5) rfl)) (hw _ (List.mem_of_getElem? (i := 6) rfl)) (hw _ (List.mem_of_getElem? (i := 7) rfl)) rfl (g := (mkF m 108 #[.val (.long q0), .second, .val (.long q1), .second, .val (.long q2), .second, .val (.long q3), .second, .val (.int p4), .val (.long (v0_9 q0 q1 q2 q3 p4)), .second, .val (.long (j0_30_l11 q0 q1 q2 q3 p4)), .second, .val (.int (v0_25 q0 q1 q2 q3 p4)), .val (.long (j0_81_l14 q0 q1 q2 q3 p4)), .second, .val (.double (v0_106 q0 q1 q2 q3 p4)), .second, .unset, .unset, .unset, .unset, .unset, .unset, .unset, .unset, .unset, .unset, .unset, .unset, .unset] [])) rfl (hb hby at_108) (by decide) (by decide)
  obtain ⟨b5, g5⟩ : ∃ z, z = T4.heap.size := ⟨_, rfl⟩
  rw [← g5] at A5 D5 st5
  have ne_b2_b5 : b2 ≠ b5 := Nat.ne_of_lt (Nat.lt_of_lt_of_eq f4_0.lt g5.symm)
  have ne_b5_b2 := ne_b2_b5.symm
  have f5_0 : Exa Z h5 b2 "com/example/duotier/duotier/bench/Tally" := f4_0.ext E5
  have f5_1 : Fld Z h5 b2 "com/example/duotier/duotier/bench/Tally" "operations" "J" (.long (v0_9 q0 q1 q2 q3 p4)) := f4_1.ext E5
  have f5_2 : Fld Z h5 b2 "com/example/duotier/duotier/bench/Tally" "reads" "J" (.long (j0_30_l11 q0 q1 q2 q3 p4)) := f4_2.ext E5
  have f5_3 : Fld Z h5 b2 "com/example/duotier/duotier/bench/Tally" "localMisses" "J" (.long q3) := f4_3.ext E5
  have f5_4 : Fld Z h5 b2 "com/example/duotier/duotier/bench/Tally" "nanos" "J" (.long q2) := f4_4.ext E5
  have g_b5 : n0 ≤ b5 := Nat.le_trans z4 (Nat.le_of_eq g5.symm)
  have z5 : n0 ≤ h5.size := Nat.le_trans z4 E5.1
  have F5_operations : Fld Z h5 b5 "com/example/duotier/duotier/bench/Tally" "operations" "J" (.long (0 : Int64)) := D5 (Or.inr (hw _ (List.mem_of_getElem? (i := 20) rfl))) (ty := .long) (by decide)
  have F5_reads : Fld Z h5 b5 "com/example/duotier/duotier/bench/Tally" "reads" "J" (.long (0 : Int64)) := D5 (Or.inr (hw _ (List.mem_of_getElem? (i := 22) rfl))) (ty := .long) (by decide)
  have F5_localMisses : Fld Z h5 b5 "com/example/duotier/duotier/bench/Tally" "localMisses" "J" (.long (0 : Int64)) := D5 (Or.inr (hw _ (List.mem_of_getElem? (i := 24) rfl))) (ty := .long) (by decide)
  have F5_nanos : Fld Z h5 b5 "com/example/duotier/duotier/bench/Tally" "nanos" "J" (.long (0 : Int64)) := D5 (Or.inr (hw _ (List.mem_of_getElem? (i := 26) rfl))) (ty := .long) (by decide)
  obtain ⟨_, _, ⟨T6, L6, k6, n6⟩, -, X6, ⟨Lc6, hQ6, l6, y6, z6'⟩, st6⟩ := X5.specialBack hx (y := (⟨"com/example/duotier/duotier/bench/Tally", "<init>", "(JJJJ)V"⟩ : MethodName)) rfl hown (mvT hZ (hw _ (List.mem_of_getElem? (i := 8) rfl))) (mvT hZ (hw _ (List.mem_of_getElem? (i := 9) rfl))) (mvT hZ (hw _ (List.mem_of_getElem? (i := 10) rfl))) (by decide) (backOf (W := 1) (rm2 l Z aw hw [] b5 (v0_9 q0 q1 q2 q3 p4) (j0_81_l14 q0 q1 q2 q3 p4) q1 q3 (.long (0 : Int64)) (.long (0 : Int64)) (.long (0 : Int64)) (.long (0 : Int64)) h5 n0 z5 A5 F5_operations F5_reads F5_localMisses F5_nanos g_b5) hZ (hw _ (List.mem_of_getElem? (i := 10) rfl)) (hw _ (List.mem_of_getElem? (i := 7) rfl)) (by decide) (by decide)) (g := (mkF m 119 #[.val (.long q0), .second, .val (.long q1), .second, .val (.long q2), .second, .val (.long q3), .second, .val (.int p4), .val (.long (v0_9 q0 q1 q2 q3 p4)), .second, .val (.long (j0_30_l11 q0 q1 q2 q3 p4)), .second, .val (.int (v0_25 q0 q1 q2 q3 p4)), .val (.long (j0_81_l14 q0 q1 q2 q3 p4)), .second, .val (.double (v0_106 q0 q1 q2 q3 p4)), .second, .unset, .unset, .unset, .unset, .unset, .unset, .unset, .unset, .unset, .unset, .unset, .unset, .unset] [(.long q3), (.long q1), (.long (j0_81_l14 q0 q1 q2 q3 p4)), (.long (v0_9 q0 q1 q2 q3 p4)), (.ref b5), (.ref b5)])) rfl (by rw [hml]; rfl) (Steps.refl _) (a := b5) (argsL := [(.long (v0_9 q0 q1 q2 q3 p4)), (.long (j0_81_l14 q0 q1 q2 q3 p4)), (.long q1), (.long q3)]) (rest := [(.ref b5)]) (lenOf pd_2 rfl) rfl (by show 2 * 0 + _ ≤ _; exact Nat.le_of_eq rfl) (hb hby at_119) (fun _ _ => ⟨rfl, e5, (by decide : 2 + 0 ≤ _), (by decide : 8 + 0 ≤ _)⟩)
  dsimp only [Pt.U, Pt.locs, Pt.cells, Pt.slots] at X6 l6 y6 z6' st6 hQ6
  subst l6 y6 z6'
  obtain ⟨rfl, N6q, K6q, x6, f6_k0, f6_k1, f6_k2, f6_k3⟩ := hQ6
  have f6_0 : Exa Z T6.heap b2 "com/example/duotier/duotier/bench/Tally" := f5_0.keep K6q
  have f6_1 : Fld Z T6.heap b2 "com/example/duotier/duotier/bench/Tally" "operations" "J" (.long (v0_9 q0 q1 q2 q3 p4)) := f5_1.keep K6q (by simpa using ne_b2_b5)
  have f6_2 : Fld Z T6.heap b2 "com/example/duotier/duotier/bench/Tally" "reads" "J" (.long (j0_30_l11 q0 q1 q2 q3 p4)) := f5_2.keep K6q (by simpa using ne_b2_b5)
  have f6_3 : Fld Z T6.heap b2 "com/example/duotier/duotier/bench/Tally" "localMisses" "J" (.long q3) := f5_3.keep K6q (by simpa using ne_b2_b5)
  have f6_4 : Fld Z T6.heap b2 "com/example/duotier/duotier/bench/Tally" "nanos" "J" (.long q2) := f5_4.keep K6q (by simpa using ne_b2_b5)
  have z6 : n0 ≤ T6.heap.size := Nat.le_trans z5 K6q.1
  have N6 := Fr.app N4 N6q
  obtain ⟨cq7, kq7, q7a, q7b, q7c⟩ := isOf hZ rfl x6
  obtain ⟨_, _, ⟨T7, L7, k7, n7⟩, -, X7, ⟨Lc7, hQ7, l7, y7, z7'⟩, st7⟩ := X6.virtualBack hx (y := (⟨"com/example/duotier/duotier/bench/Tally", "readFraction", "()D"⟩ : MethodName)) (z := (⟨"com/example/duotier/duotier/bench/Tally", "readFraction", "()D"⟩ : MethodName)) hown (mvT hZ (hw _ (List.mem_of_getElem? (i := 27) rfl))) (mvT hZ (hw _ (List.mem_of_getElem? (i := 28) rfl))) (notFace_of_selects (args := #[]) (mvT hZ (hw _ (List.mem_of_getElem? (i := 30) rfl)))) (mvT hZ (hw _ (List.mem_of_getElem? (i := 30) rfl))) (mvT hZ (hw _ (List.mem_of_getElem? (i := 29) rfl))) (by decide) (backOf (W := 0) (rm5 l Z aw hw [] b5 (j0_81_l14 q0 q1 q2 q3 p4) (v0_9 q0 q1 q2 q3 p4) T6.heap n0 z6 f6_k1 f6_k0 hn10_122) hZ (hw _ (List.mem_of_getElem? (i := 31) rfl)) (hw _ (List.mem_of_getElem? (i := 7) rfl)) (by decide) (by decide)) q7a q7c (g := (mkF m 122 #[.val (.long q0), .second, .val (.long q1), .second, .val (.long q2), .second, .val (.long q3), .second, .val (.int p4), .val (.long (v0_9 q0 q1 q2 q3 p4)), .second, .val (.long (j0_30_l11 q0 q1 q2 q3 p4)), .second, .val (.int (v0_25 q0 q1 q2 q3 p4)), .val (.long (j0_81_l14 q0 q1 q2 q3 p4)), .second, .val (.double (v0_106 q0 q1 q2 q3 p4)), .second, .unset, .unset, .unset, .unset, .unset, .unset, .unset, .unset, .unset, .unset, .unset, .unset, .unset] [(.ref b5)])) rfl (by rw [hml]; rfl) (Steps.refl _) (argsL := []) (rest := []) (lenOf pd_3 rfl) rfl (by show 2 * 0 + _ ≤ _; exact Nat.le_of_eq rfl) (hb hby at_122) (fun _ _ => ⟨rfl, rfl, (by decide : 2 + 0 ≤ _), (by decide : 8 + 0 ≤ _)⟩)
  dsimp only [Pt.U, Pt.locs, Pt.cells, Pt.slots] at X7 l7 y7 z7' st7 hQ7
  subst l7 y7 z7'
  obtain ⟨rfl, N7q, hq7⟩ := hQ7
  have f7_0 : Exa Z T7.heap b2 "com/example/duotier/duotier/bench/Tally" := by rw [hq7]; exact f6_0
  have f7_1 : Fld Z T7.heap b2 "com/example/duotier/duotier/bench/Tally" "operations" "J" (.long (v0_9 q0 q1 q2 q3 p4)) := by rw [hq7]; exact f6_1
  have f7_2 : Fld Z T7.heap b2 "com/example/duotier/duotier/bench/Tally" "reads" "J" (.long (j0_30_l11 q0 q1 q2 q3 p4)) := by rw [hq7]; exact f6_2
  have f7_3 : Fld Z T7.heap b2 "com/example/duotier/duotier/bench/Tally" "localMisses" "J" (.long q3) := by rw [hq7]; exact f6_3
  have f7_4 : Fld Z T7.heap b2 "com/example/duotier/duotier/bench/Tally" "nanos" "J" (.long q2) := by rw [hq7]; exact f6_4
  have f7_5 : Exa Z T7.heap b5 "com/example/duotier/duotier/bench/Tally" := by rw [hq7]; exact x6
  have f7_6 : Fld Z T7.heap b5 "com/example/duotier/duotier/bench/Tally" "operations" "J" (.long (v0_9 q0 q1 q2 q3 p4)) := by rw [hq7]; exact f6_k0
  have f7_7 : Fld Z T7.heap b5 "com/example/duotier/duotier/bench/Tally" "reads" "J" (.long (j0_81_l14 q0 q1 q2 q3 p4)) := by rw [hq7]; exact f6_k1
  have f7_8 : Fld Z T7.heap b5 "com/example/duotier/duotier/bench/Tally" "localMisses" "J" (.long q1) := by rw [hq7]; exact f6_k2
  have f7_9 : Fld Z T7.heap b5 "com/example/duotier/duotier/bench/Tally" "nanos" "J" (.long q3) := by rw [hq7]; exact f6_k3
  have z7 : n0 ≤ T7.heap.size := by rw [hq7]; exact z6
  have N7 := Fr.app N6 N7q
  obtain ⟨_, _, ⟨T8, L8, k8, n8⟩, -, X8, ⟨Lc8, hQ8, l8, y8, z8'⟩, st8⟩ := Jvm.LawKit.callS X7 hx (y := (⟨"java/lang/Math", "max", "(JJ)J"⟩ : MethodName)) hown (mvT hZ (hw _ (List.mem_of_getElem? (i := 1) rfl))) (mvT hZ (hw _ (List.mem_of_getElem? (i := 2) rfl))) (mvT hZ (hw _ (List.mem_of_getElem? (i := 3) rfl))) (mvT hZ (hw _ (List.mem_of_getElem? (i := 4) rfl))) (by decide) (backOf (W := 0) (rm1 l Z aw hw [] (1 : Int64) (q0 &&& (562949953421311 : Int64)) T7.heap n0 z7 ) hZ (hw _ (List.mem_of_getElem? (i := 4) rfl)) (hw _ (List.mem_of_getElem? (i := 3) rfl)) (by decide) (by decide)) (g := (mkF m 336 #[.val (.long q0), .second, .val (.long q1), .second, .val (.long q2), .second, .val (.long q3), .second, .val (.int p4), .val (.long (v0_9 q0 q1 q2 q3 p4)), .second, .val (.long (j0_30_l11 q0 q1 q2 q3 p4)), .second, .val (.int (v0_25 q0 q1 q2 q3 p4)), .val (.long (j0_81_l14 q0 q1 q2 q3 p4)), .second, .val (.double (v0_106 q0 q1 q2 q3 p4)), .second, .val (.double (v0_125 q0 q1 q2 q3 p4)), .second, .val (.int (j0_253_l20 q0 q1 q2 q3 p4)), .unset, .unset, .unset, .unset, .unset, .unset, .unset, .unset, .unset, .unset] [(.long (q0 &&& (562949953421311 : Int64))), (.long (1 : Int64))])) rfl (by rw [hml]; rfl) (argsL := [(.long (1 : Int64)), (.long (q0 &&& (562949953421311 : Int64)))]) (rest := []) (lenOf pd_1 rfl) rfl (by show 2 * 0 + _ ≤ _; exact Nat.le_of_eq rfl) (hb hby at_336) (fun _ _ => ⟨rfl, rfl, (by decide : 2 + 0 ≤ _), (by decide : 8 + 0 ≤ _)⟩)
  dsimp only [Pt.U, Pt.locs, Pt.cells, Pt.slots] at X8 l8 y8 z8' st8 hQ8
  subst l8 y8 z8'
  obtain ⟨rfl, N8q, hq8⟩ := hQ8
  have f8_0 : Exa Z T8.heap b2 "com/example/duotier/duotier/bench/Tally" := by rw [hq8]; exact f7_0
  have f8_1 : Fld Z T8.heap b2 "com/example/duotier/duotier/bench/Tally" "operations" "J" (.long (v0_9 q0 q1 q2 q3 p4)) := by rw [hq8]; exact f7_1
  have f8_2 : Fld Z T8.heap b2 "com/example/duotier/duotier/bench/Tally" "reads" "J" (.long (j0_30_l11 q0 q1 q2 q3 p4)) := by rw [hq8]; exact f7_2
  have f8_3 : Fld Z T8.heap b2 "com/example/duotier/duotier/bench/Tally" "localMisses" "J" (.long q3) := by rw [hq8]; exact f7_3
  have f8_4 : Fld Z T8.heap b2 "com/example/duotier/duotier/bench/Tally" "nanos" "J" (.long q2) := by rw [hq8]; exact f7_4
  have f8_5 : Exa Z T8.heap b5 "com/example/duotier/duotier/bench/Tally" := by rw [hq8]; exact f7_5
  have f8_6 : Fld Z T8.heap b5 "com/example/duotier/duotier/bench/Tally" "operations" "J" (.long (v0_9 q0 q1 q2 q3 p4)) := by rw [hq8]; exact f7_6
  have f8_7 : Fld Z T8.heap b5 "com/example/duotier/duotier/bench/Tally" "reads" "J" (.long (j0_81_l14 q0 q1 q2 q3 p4)) := by rw [hq8]; exact f7_7
  have f8_8 : Fld Z T8.heap b5 "com/example/duotier/duotier/bench/Tally" "localMisses" "J" (.long q1) := by rw [hq8]; exact f7_8
  have f8_9 : Fld Z T8.heap b5 "com/example/duotier/duotier/bench/Tally" "nanos" "J" (.long q3) := by rw [hq8]; exact f7_9
  have z8 : n0 ≤ T8.heap.size := by rw [hq8]; exact z7
  have N8 := Fr.app N7 N8q
  obtain ⟨T9, h9, X9, e9, E9, A9, D9, -, st9⟩ := newO X8 hx hZ hown (hw _ (List.mem_of_getElem? (i := 5) rfl)) (hw _ (List.mem_of_getElem? (i := 6) rfl)) (hw _ (List.mem_of_getElem? (i := 7) rfl)) rfl (g := (mkF m 363 #[.val (.long q0), .second, .val (.long q1), .second, .val (.long q2), .second, .val (.long q3), .second, .val (.int p4), .val (.long (v0_9 q0 q1 q2 q3 p4)), .second, .val (.long (j0_30_l11 q0 q1 q2 q3 p4)), .second, .val (.int (v0_25 q0 q1 q2 q3 p4)), .val (.long (j0_81_l14 q0 q1 q2 q3 p4)), .second, .val (.double (v0_106 q0 q1 q2 q3 p4)), .second, .val (.double (v0_125 q0 q1 q2 q3 p4)), .second, .val (.int (j0_253_l20 q0 q1 q2 q3 p4)), .val (.long (v0_339 q0 q1 q2 q3 p4)), .second, .val (.long (v0_351 q0 q1 q2 q3 p4)), .second, .val (.long (v0_361 q0 q1 q2 q3 p4)), .second, .unset, .unset, .unset, .unset] [])) rfl (hb hby at_363) (by decide) (by decide)
  obtain ⟨b9, g9⟩ : ∃ z, z = T8.heap.size := ⟨_, rfl⟩
  rw [← g9] at A9 D9 st9
  have ne_b2_b9 : b2 ≠ b9 := Nat.ne_of_lt (Nat.lt_of_lt_of_eq f8_0.lt g9.symm)
  have ne_b9_b2 := ne_b2_b9.symm
  have ne_b5_b9 : b5 ≠ b9 := Nat.ne_of_lt (Nat.lt_of_lt_of_eq f8_5.lt g9.symm)
  have ne_b9_b5 := ne_b5_b9.symm
  have f9_0 : Exa Z h9 b2 "com/example/duotier/duotier/bench/Tally" := f8_0.ext E9
  have f9_1 : Fld Z h9 b2 "com/example/duotier/duotier/bench/Tally" "operations" "J" (.long (v0_9 q0 q1 q2 q3 p4)) := f8_1.ext E9
  have f9_2 : Fld Z h9 b2 "com/example/duotier/duotier/bench/Tally" "reads" "J" (.long (j0_30_l11 q0 q1 q2 q3 p4)) := f8_2.ext E9
  have f9_3 : Fld Z h9 b2 "com/example/duotier/duotier/bench/Tally" "localMisses" "J" (.long q3) := f8_3.ext E9
  have f9_4 : Fld Z h9 b2 "com/example/duotier/duotier/bench/Tally" "nanos" "J" (.long q2) := f8_4.ext E9
  have f9_5 : Exa Z h9 b5 "com/example/duotier/duotier/bench/Tally" := f8_5.ext E9
  have f9_6 : Fld Z h9 b5 "com/example/duotier/duotier/bench/Tally" "operations" "J" (.long (v0_9 q0 q1 q2 q3 p4)) := f8_6.ext E9
  have f9_7 : Fld Z h9 b5 "com/example/duotier/duotier/bench/Tally" "reads" "J" (.long (j0_81_l14 q0 q1 q2 q3 p4)) := f8_7.ext E9
  have f9_8 : Fld Z h9 b5 "com/example/duotier/duotier/bench/Tally" "localMisses" "J" (.long q1) := f8_8.ext E9
  have f9_9 : Fld Z h9 b5 "com/example/duotier/duotier/bench/Tally" "nanos" "J" (.long q3) := f8_9.ext E9
  have g_b9 : n0 ≤ b9 := Nat.le_trans z8 (Nat.le_of_eq g9.symm)
  have z9 : n0 ≤ h9.size := Nat.le_trans z8 E9.1
  have F9_operations : Fld Z h9 b9 "com/example/duotier/duotier/bench/Tally" "operations" "J" (.long (0 : Int64)) := D9 (Or.inr (hw _ (List.mem_of_getElem? (i := 20) rfl))) (ty := .long) (by decide)
  have F9_reads : Fld Z h9 b9 "com/example/duotier/duotier/bench/Tally" "reads" "J" (.long (0 : Int64)) := D9 (Or.inr (hw _ (List.mem_of_getElem? (i := 22) rfl))) (ty := .long) (by decide)
  have F9_localMisses : Fld Z h9 b9 "com/example/duotier/duotier/bench/Tally" "localMisses" "J" (.long (0 : Int64)) := D9 (Or.inr (hw _ (List.mem_of_getElem? (i := 24) rfl))) (ty := .long) (by decide)
  have F9_nanos : Fld Z h9 b9 "com/example/duotier/duotier/bench/Tally" "nanos" "J" (.long (0 : Int64)) := D9 (Or.inr (hw _ (List.mem_of_getElem? (i := 26) rfl))) (ty := .long) (by decide)
  obtain ⟨_, _, ⟨T10, L10, k10, n10⟩, -, X10, ⟨Lc10, hQ10, l10, y10, z10'⟩, st10⟩ := X9.specialBack hx (y := (⟨"com/example/duotier/duotier/bench/Tally", "<init>", "(JJJJ)V"⟩ : MethodName)) rfl hown (mvT hZ (hw _ (List.mem_of_getElem? (i := 8) rfl))) (mvT hZ (hw _ (List.mem_of_getElem? (i := 9) rfl))) (mvT hZ (hw _ (List.mem_of_getElem? (i := 10) rfl))) (by decide) (backOf (W := 1) (rm2 l Z aw hw [] b9 (v0_339 q0 q1 q2 q3 p4) (v0_351 q0 q1 q2 q3 p4) (0 : Int64) (1 : Int64) (.long (0 : Int64)) (.long (0 : Int64)) (.long (0 : Int64)) (.long (0 : Int64)) h9 n0 z9 A9 F9_operations F9_reads F9_localMisses F9_nanos g_b9) hZ (hw _ (List.mem_of_getElem? (i := 10) rfl)) (hw _ (List.mem_of_getElem? (i := 7) rfl)) (by decide) (by decide)) (g := (mkF m 373 #[.val (.long q0), .second, .val (.long q1), .second, .val (.long q2), .second, .val (.long q3), .second, .val (.int p4), .val (.long (v0_9 q0 q1 q2 q3 p4)), .second, .val (.long (j0_30_l11 q0 q1 q2 q3 p4)), .second, .val (.int (v0_25 q0 q1 q2 q3 p4)), .val (.long (j0_81_l14 q0 q1 q2 q3 p4)), .second, .val (.double (v0_106 q0 q1 q2 q3 p4)), .second, .val (.double (v0_125 q0 q1 q2 q3 p4)), .second, .val (.int (j0_253_l20 q0 q1 q2 q3 p4)), .val (.long (v0_339 q0 q1 q2 q3 p4)), .second, .val (.long (v0_351 q0 q1 q2 q3 p4)), .second, .val (.long (v0_361 q0 q1 q2 q3 p4)), .second, .unset, .unset, .unset, .unset] [(.long (1 : Int64)), (.long (0 : Int64)), (.long (v0_351 q0 q1 q2 q3 p4)), (.long (v0_339 q0 q1 q2 q3 p4)), (.ref b9), (.ref b9)])) rfl (by rw [hml]; rfl) (Steps.refl _) (a := b9) (argsL := [(.long (v0_339 q0 q1 q2 q3 p4)), (.long (v0_351 q0 q1 q2 q3 p4)), (.long (0 : Int64)), (.long (1 : Int64))]) (rest := [(.ref b9)]) (lenOf pd_2 rfl) rfl (by show 2 * 0 + _ ≤ _; exact Nat.le_of_eq rfl) (hb hby at_373) (fun _ _ => ⟨rfl, e9, (by decide : 3 + 0 ≤ _), (by decide : 12 + 0 ≤ _)⟩)
  dsimp only [Pt.U, Pt.locs, Pt.cells, Pt.slots] at X10 l10 y10 z10' st10 hQ10
  subst l10 y10 z10'
  obtain ⟨rfl, N10q, K10q, x10, f10_k0, f10_k1, f10_k2, f10_k3⟩ := hQ10
  have f10_0 : Exa Z T10.heap b2 "com/example/duotier/duotier/bench/Tally" := f9_0.keep K10q
  have f10_1 : Fld Z T10.heap b2 "com/example/duotier/duotier/bench/Tally" "operations" "J" (.long (v0_9 q0 q1 q2 q3 p4)) := f9_1.keep K10q (by simpa using ne_b2_b9)
  have f10_2 : Fld Z T10.heap b2 "com/example/duotier/duotier/bench/Tally" "reads" "J" (.long (j0_30_l11 q0 q1 q2 q3 p4)) := f9_2.keep K10q (by simpa using ne_b2_b9)
  have f10_3 : Fld Z T10.heap b2 "com/example/duotier/duotier/bench/Tally" "localMisses" "J" (.long q3) := f9_3.keep K10q (by simpa using ne_b2_b9)
  have f10_4 : Fld Z T10.heap b2 "com/example/duotier/duotier/bench/Tally" "nanos" "J" (.long q2) := f9_4.keep K10q (by simpa using ne_b2_b9)
  have f10_5 : Exa Z T10.heap b5 "com/example/duotier/duotier/bench/Tally" := f9_5.keep K10q
  have f10_6 : Fld Z T10.heap b5 "com/example/duotier/duotier/bench/Tally" "operations" "J" (.long (v0_9 q0 q1 q2 q3 p4)) := f9_6.keep K10q (by simpa using ne_b5_b9)
  have f10_7 : Fld Z T10.heap b5 "com/example/duotier/duotier/bench/Tally" "reads" "J" (.long (j0_81_l14 q0 q1 q2 q3 p4)) := f9_7.keep K10q (by simpa using ne_b5_b9)
  have f10_8 : Fld Z T10.heap b5 "com/example/duotier/duotier/bench/Tally" "localMisses" "J" (.long q1) := f9_8.keep K10q (by simpa using ne_b5_b9)
  have f10_9 : Fld Z T10.heap b5 "com/example/duotier/duotier/bench/Tally" "nanos" "J" (.long q3) := f9_9.keep K10q (by simpa using ne_b5_b9)
  have z10 : n0 ≤ T10.heap.size := Nat.le_trans z9 K10q.1
  have N10 := Fr.app N8 N10q
  obtain ⟨cq11, kq11, q11a, q11b, q11c⟩ := isOf hZ rfl x10
  obtain ⟨_, _, ⟨T11, L11, k11, n11⟩, -, X11, ⟨Lc11, hQ11, l11, y11, z11'⟩, st11⟩ := X10.virtualBack hx (y := (⟨"com/example/duotier/duotier/bench/Tally", "readFraction", "()D"⟩ : MethodName)) (z := (⟨"com/example/duotier/duotier/bench/Tally", "readFraction", "()D"⟩ : MethodName)) hown (mvT hZ (hw _ (List.mem_of_getElem? (i := 27) rfl))) (mvT hZ (hw _ (List.mem_of_getElem? (i := 28) rfl))) (notFace_of_selects (args := #[]) (mvT hZ (hw _ (List.mem_of_getElem? (i := 30) rfl)))) (mvT hZ (hw _ (List.mem_of_getElem? (i := 30) rfl))) (mvT hZ (hw _ (List.mem_of_getElem? (i := 29) rfl))) (by decide) (backOf (W := 0) (rm5 l Z aw hw [] b9 (v0_351 q0 q1 q2 q3 p4) (v0_339 q0 q1 q2 q3 p4) T10.heap n0 z10 f10_k1 f10_k0 hn10_376) hZ (hw _ (List.mem_of_getElem? (i := 31) rfl)) (hw _ (List.mem_of_getElem? (i := 7) rfl)) (by decide) (by decide)) q11a q11c (g := (mkF m 376 #[.val (.long q0), .second, .val (.long q1), .second, .val (.long q2), .second, .val (.long q3), .second, .val (.int p4), .val (.long (v0_9 q0 q1 q2 q3 p4)), .second, .val (.long (j0_30_l11 q0 q1 q2 q3 p4)), .second, .val (.int (v0_25 q0 q1 q2 q3 p4)), .val (.long (j0_81_l14 q0 q1 q2 q3 p4)), .second, .val (.double (v0_106 q0 q1 q2 q3 p4)), .second, .val (.double (v0_125 q0 q1 q2 q3 p4)), .second, .val (.int (j0_253_l20 q0 q1 q2 q3 p4)), .val (.long (v0_339 q0 q1 q2 q3 p4)), .second, .val (.long (v0_351 q0 q1 q2 q3 p4)), .second, .val (.long (v0_361 q0 q1 q2 q3 p4)), .second, .unset, .unset, .unset, .unset] [(.ref b9)])) rfl (by rw [hml]; rfl) (Steps.refl _) (argsL := []) (rest := []) (lenOf pd_3 rfl) rfl (by show 2 * 0 + _ ≤ _; exact Nat.le_of_eq rfl) (hb hby at_376) (fun _ _ => ⟨rfl, rfl, (by decide : 3 + 0 ≤ _), (by decide : 12 + 0 ≤ _)⟩)
  dsimp only [Pt.U, Pt.locs, Pt.cells, Pt.slots] at X11 l11 y11 z11' st11 hQ11
  subst l11 y11 z11'
  obtain ⟨rfl, N11q, hq11⟩ := hQ11
  have f11_0 : Exa Z T11.heap b2 "com/example/duotier/duotier/bench/Tally" := by rw [hq11]; exact f10_0
  have f11_1 : Fld Z T11.heap b2 "com/example/duotier/duotier/bench/Tally" "operations" "J" (.long (v0_9 q0 q1 q2 q3 p4)) := by rw [hq11]; exact f10_1
  have f11_2 : Fld Z T11.heap b2 "com/example/duotier/duotier/bench/Tally" "reads" "J" (.long (j0_30_l11 q0 q1 q2 q3 p4)) := by rw [hq11]; exact f10_2
  have f11_3 : Fld Z T11.heap b2 "com/example/duotier/duotier/bench/Tally" "localMisses" "J" (.long q3) := by rw [hq11]; exact f10_3
  have f11_4 : Fld Z T11.heap b2 "com/example/duotier/duotier/bench/Tally" "nanos" "J" (.long q2) := by rw [hq11]; exact f10_4
  have f11_5 : Exa Z T11.heap b5 "com/example/duotier/duotier/bench/Tally" := by rw [hq11]; exact f10_5
  have f11_6 : Fld Z T11.heap b5 "com/example/duotier/duotier/bench/Tally" "operations" "J" (.long (v0_9 q0 q1 q2 q3 p4)) := by rw [hq11]; exact f10_6
  have f11_7 : Fld Z T11.heap b5 "com/example/duotier/duotier/bench/Tally" "reads" "J" (.long (j0_81_l14 q0 q1 q2 q3 p4)) := by rw [hq11]; exact f10_7
  have f11_8 : Fld Z T11.heap b5 "com/example/duotier/duotier/bench/Tally" "localMisses" "J" (.long q1) := by rw [hq11]; exact f10_8
  have f11_9 : Fld Z T11.heap b5 "com/example/duotier/duotier/bench/Tally" "nanos" "J" (.long q3) := by rw [hq11]; exact f10_9
  have f11_10 : Exa Z T11.heap b9 "com/example/duotier/duotier/bench/Tally" := by rw [hq11]; exact x10
  have f11_11 : Fld Z T11.heap b9 "com/example/duotier/duotier/bench/Tally" "operations" "J" (.long (v0_339 q0 q1 q2 q3 p4)) := by rw [hq11]; exact f10_k0
  have f11_12 : Fld Z T11.heap b9 "com/example/duotier/duotier/bench/Tally" "reads" "J" (.long (v0_351 q0 q1 q2 q3 p4)) := by rw [hq11]; exact f10_k1
  have f11_13 : Fld Z T11.heap b9 "com/example/duotier/duotier/bench/Tally" "localMisses" "J" (.long (0 : Int64)) := by rw [hq11]; exact f10_k2
  have f11_14 : Fld Z T11.heap b9 "com/example/duotier/duotier/bench/Tally" "nanos" "J" (.long (1 : Int64)) := by rw [hq11]; exact f10_k3
  have z11 : n0 ≤ T11.heap.size := by rw [hq11]; exact z10
  have N11 := Fr.app N10 N11q
  obtain ⟨T12, h12, X12, e12, E12, A12, D12, -, st12⟩ := newO X11 hx hZ hown (hw _ (List.mem_of_getElem? (i := 5) rfl)) (hw _ (List.mem_of_getElem? (i := 6) rfl)) (hw _ (List.mem_of_getElem? (i := 7) rfl)) rfl (g := (mkF m 381 #[.val (.long q0), .second, .val (.long q1), .second, .val (.long q2), .second, .val (.long q3), .second, .val (.int p4), .val (.long (v0_9 q0 q1 q2 q3 p4)), .second, .val (.long (j0_30_l11 q0 q1 q2 q3 p4)), .second, .val (.int (v0_25 q0 q1 q2 q3 p4)), .val (.long (j0_81_l14 q0 q1 q2 q3 p4)), .second, .val (.double (v0_106 q0 q1 q2 q3 p4)), .second, .val (.double (v0_125 q0 q1 q2 q3 p4)), .second, .val (.int (j0_253_l20 q0 q1 q2 q3 p4)), .val (.long (v0_339 q0 q1 q2 q3 p4)), .second, .val (.long (v0_351 q0 q1 q2 q3 p4)), .second, .val (.long (v0_361 q0 q1 q2 q3 p4)), .second, .val (.double (v0_379 q0 q1 q2 q3 p4)), .second, .unset, .unset] [])) rfl (hb hby at_381) (by decide) (by decide)
  obtain ⟨b12, g12⟩ : ∃ z, z = T11.heap.size := ⟨_, rfl⟩
  rw [← g12] at A12 D12 st12
  have ne_b2_b12 : b2 ≠ b12 := Nat.ne_of_lt (Nat.lt_of_lt_of_eq f11_0.lt g12.symm)
  have ne_b12_b2 := ne_b2_b12.symm
  have ne_b5_b12 : b5 ≠ b12 := Nat.ne_of_lt (Nat.lt_of_lt_of_eq f11_5.lt g12.symm)
  have ne_b12_b5 := ne_b5_b12.symm
  have ne_b9_b12 : b9 ≠ b12 := Nat.ne_of_lt (Nat.lt_of_lt_of_eq f11_10.lt g12.symm)
  have ne_b12_b9 := ne_b9_b12.symm
  have f12_0 : Exa Z h12 b2 "com/example/duotier/duotier/bench/Tally" := f11_0.ext E12
  have f12_1 : Fld Z h12 b2 "com/example/duotier/duotier/bench/Tally" "operations" "J" (.long (v0_9 q0 q1 q2 q3 p4)) := f11_1.ext E12
  have f12_2 : Fld Z h12 b2 "com/example/duotier/duotier/bench/Tally" "reads" "J" (.long (j0_30_l11 q0 q1 q2 q3 p4)) := f11_2.ext E12
  have f12_3 : Fld Z h12 b2 "com/example/duotier/duotier/bench/Tally" "localMisses" "J" (.long q3) := f11_3.ext E12
  have f12_4 : Fld Z h12 b2 "com/example/duotier/duotier/bench/Tally" "nanos" "J" (.long q2) := f11_4.ext E12
  have f12_5 : Exa Z h12 b5 "com/example/duotier/duotier/bench/Tally" := f11_5.ext E12
  have f12_6 : Fld Z h12 b5 "com/example/duotier/duotier/bench/Tally" "operations" "J" (.long (v0_9 q0 q1 q2 q3 p4)) := f11_6.ext E12
  have f12_7 : Fld Z h12 b5 "com/example/duotier/duotier/bench/Tally" "reads" "J" (.long (j0_81_l14 q0 q1 q2 q3 p4)) := f11_7.ext E12
  have f12_8 : Fld Z h12 b5 "com/example/duotier/duotier/bench/Tally" "localMisses" "J" (.long q1) := f11_8.ext E12
  have f12_9 : Fld Z h12 b5 "com/example/duotier/duotier/bench/Tally" "nanos" "J" (.long q3) := f11_9.ext E12
  have f12_10 : Exa Z h12 b9 "com/example/duotier/duotier/bench/Tally" := f11_10.ext E12
  have f12_11 : Fld Z h12 b9 "com/example/duotier/duotier/bench/Tally" "operations" "J" (.long (v0_339 q0 q1 q2 q3 p4)) := f11_11.ext E12
  have f12_12 : Fld Z h12 b9 "com/example/duotier/duotier/bench/Tally" "reads" "J" (.long (v0_351 q0 q1 q2 q3 p4)) := f11_12.ext E12
  have f12_13 : Fld Z h12 b9 "com/example/duotier/duotier/bench/Tally" "localMisses" "J" (.long (0 : Int64)) := f11_13.ext E12
  have f12_14 : Fld Z h12 b9 "com/example/duotier/duotier/bench/Tally" "nanos" "J" (.long (1 : Int64)) := f11_14.ext E12
  have g_b12 : n0 ≤ b12 := Nat.le_trans z11 (Nat.le_of_eq g12.symm)
  have z12 : n0 ≤ h12.size := Nat.le_trans z11 E12.1
  have F12_operations : Fld Z h12 b12 "com/example/duotier/duotier/bench/Tally" "operations" "J" (.long (0 : Int64)) := D12 (Or.inr (hw _ (List.mem_of_getElem? (i := 20) rfl))) (ty := .long) (by decide)
  have F12_reads : Fld Z h12 b12 "com/example/duotier/duotier/bench/Tally" "reads" "J" (.long (0 : Int64)) := D12 (Or.inr (hw _ (List.mem_of_getElem? (i := 22) rfl))) (ty := .long) (by decide)
  have F12_localMisses : Fld Z h12 b12 "com/example/duotier/duotier/bench/Tally" "localMisses" "J" (.long (0 : Int64)) := D12 (Or.inr (hw _ (List.mem_of_getElem? (i := 24) rfl))) (ty := .long) (by decide)
  have F12_nanos : Fld Z h12 b12 "com/example/duotier/duotier/bench/Tally" "nanos" "J" (.long (0 : Int64)) := D12 (Or.inr (hw _ (List.mem_of_getElem? (i := 26) rfl))) (ty := .long) (by decide)
  obtain ⟨_, _, ⟨T13, L13, k13, n13⟩, -, X13, ⟨Lc13, hQ13, l13, y13, z13'⟩, st13⟩ := X12.specialBack hx (y := (⟨"com/example/duotier/duotier/bench/Tally", "<init>", "(JJJJ)V"⟩ : MethodName)) rfl hown (mvT hZ (hw _ (List.mem_of_getElem? (i := 8) rfl))) (mvT hZ (hw _ (List.mem_of_getElem? (i := 9) rfl))) (mvT hZ (hw _ (List.mem_of_getElem? (i := 10) rfl))) (by decide) (backOf (W := 1) (rm2 l Z aw hw [] b12 ((v0_361 q0 q1 q2 q3 p4) * (v0_339 q0 q1 q2 q3 p4)) ((v0_361 q0 q1 q2 q3 p4) * (v0_351 q0 q1 q2 q3 p4)) (0 : Int64) (1 : Int64) (.long (0 : Int64)) (.long (0 : Int64)) (.long (0 : Int64)) (.long (0 : Int64)) h12 n0 z12 A12 F12_operations F12_reads F12_localMisses F12_nanos g_b12) hZ (hw _ (List.mem_of_getElem? (i := 10) rfl)) (hw _ (List.mem_of_getElem? (i := 7) rfl)) (by decide) (by decide)) (g := (mkF m 397 #[.val (.long q0), .second, .val (.long q1), .second, .val (.long q2), .second, .val (.long q3), .second, .val (.int p4), .val (.long (v0_9 q0 q1 q2 q3 p4)), .second, .val (.long (j0_30_l11 q0 q1 q2 q3 p4)), .second, .val (.int (v0_25 q0 q1 q2 q3 p4)), .val (.long (j0_81_l14 q0 q1 q2 q3 p4)), .second, .val (.double (v0_106 q0 q1 q2 q3 p4)), .second, .val (.double (v0_125 q0 q1 q2 q3 p4)), .second, .val (.int (j0_253_l20 q0 q1 q2 q3 p4)), .val (.long (v0_339 q0 q1 q2 q3 p4)), .second, .val (.long (v0_351 q0 q1 q2 q3 p4)), .second, .val (.long (v0_361 q0 q1 q2 q3 p4)), .second, .val (.double (v0_379 q0 q1 q2 q3 p4)), .second, .unset, .unset] [(.long (1 : Int64)), (.long (0 : Int64)), (.long ((v0_361 q0 q1 q2 q3 p4) * (v0_351 q0 q1 q2 q3 p4))), (.long ((v0_361 q0 q1 q2 q3 p4) * (v0_339 q0 q1 q2 q3 p4))), (.ref b12), (.ref b12)])) rfl (by rw [hml]; rfl) (Steps.refl _) (a := b12) (argsL := [(.long ((v0_361 q0 q1 q2 q3 p4) * (v0_339 q0 q1 q2 q3 p4))), (.long ((v0_361 q0 q1 q2 q3 p4) * (v0_351 q0 q1 q2 q3 p4))), (.long (0 : Int64)), (.long (1 : Int64))]) (rest := [(.ref b12)]) (lenOf pd_2 rfl) rfl (by show 2 * 0 + _ ≤ _; exact Nat.le_of_eq rfl) (hb hby at_397) (fun _ _ => ⟨rfl, e12, (by decide : 4 + 0 ≤ _), (by decide : 16 + 0 ≤ _)⟩)
  dsimp only [Pt.U, Pt.locs, Pt.cells, Pt.slots] at X13 l13 y13 z13' st13 hQ13
  subst l13 y13 z13'
  obtain ⟨rfl, N13q, K13q, x13, f13_k0, f13_k1, f13_k2, f13_k3⟩ := hQ13
  have f13_0 : Exa Z T13.heap b2 "com/example/duotier/duotier/bench/Tally" := f12_0.keep K13q
  have f13_1 : Fld Z T13.heap b2 "com/example/duotier/duotier/bench/Tally" "operations" "J" (.long (v0_9 q0 q1 q2 q3 p4)) := f12_1.keep K13q (by simpa using ne_b2_b12)
  have f13_2 : Fld Z T13.heap b2 "com/example/duotier/duotier/bench/Tally" "reads" "J" (.long (j0_30_l11 q0 q1 q2 q3 p4)) := f12_2.keep K13q (by simpa using ne_b2_b12)
  have f13_3 : Fld Z T13.heap b2 "com/example/duotier/duotier/bench/Tally" "localMisses" "J" (.long q3) := f12_3.keep K13q (by simpa using ne_b2_b12)
  have f13_4 : Fld Z T13.heap b2 "com/example/duotier/duotier/bench/Tally" "nanos" "J" (.long q2) := f12_4.keep K13q (by simpa using ne_b2_b12)
  have f13_5 : Exa Z T13.heap b5 "com/example/duotier/duotier/bench/Tally" := f12_5.keep K13q
  have f13_6 : Fld Z T13.heap b5 "com/example/duotier/duotier/bench/Tally" "operations" "J" (.long (v0_9 q0 q1 q2 q3 p4)) := f12_6.keep K13q (by simpa using ne_b5_b12)
  have f13_7 : Fld Z T13.heap b5 "com/example/duotier/duotier/bench/Tally" "reads" "J" (.long (j0_81_l14 q0 q1 q2 q3 p4)) := f12_7.keep K13q (by simpa using ne_b5_b12)
  have f13_8 : Fld Z T13.heap b5 "com/example/duotier/duotier/bench/Tally" "localMisses" "J" (.long q1) := f12_8.keep K13q (by simpa using ne_b5_b12)
  have f13_9 : Fld Z T13.heap b5 "com/example/duotier/duotier/bench/Tally" "nanos" "J" (.long q3) := f12_9.keep K13q (by simpa using ne_b5_b12)
  have f13_10 : Exa Z T13.heap b9 "com/example/duotier/duotier/bench/Tally" := f12_10.keep K13q
  have f13_11 : Fld Z T13.heap b9 "com/example/duotier/duotier/bench/Tally" "operations" "J" (.long (v0_339 q0 q1 q2 q3 p4)) := f12_11.keep K13q (by simpa using ne_b9_b12)
  have f13_12 : Fld Z T13.heap b9 "com/example/duotier/duotier/bench/Tally" "reads" "J" (.long (v0_351 q0 q1 q2 q3 p4)) := f12_12.keep K13q (by simpa using ne_b9_b12)
  have f13_13 : Fld Z T13.heap b9 "com/example/duotier/duotier/bench/Tally" "localMisses" "J" (.long (0 : Int64)) := f12_13.keep K13q (by simpa using ne_b9_b12)
  have f13_14 : Fld Z T13.heap b9 "com/example/duotier/duotier/bench/Tally" "nanos" "J" (.long (1 : Int64)) := f12_14.keep K13q (by simpa using ne_b9_b12)
  have z13 : n0 ≤ T13.heap.size := Nat.le_trans z12 K13q.1
  have N13 := Fr.app N11 N13q
  obtain ⟨cq14, kq14, q14a, q14b, q14c⟩ := isOf hZ rfl x13
  obtain ⟨_, _, ⟨T14, L14, k14, n14⟩, -, X14, ⟨Lc14, hQ14, l14, y14, z14'⟩, st14⟩ := X13.virtualBack hx (y := (⟨"com/example/duotier/duotier/bench/Tally", "readFraction", "()D"⟩ : MethodName)) (z := (⟨"com/example/duotier/duotier/bench/Tally", "readFraction", "()D"⟩ : MethodName)) hown (mvT hZ (hw _ (List.mem_of_getElem? (i := 27) rfl))) (mvT hZ (hw _ (List.mem_of_getElem? (i := 28) rfl))) (notFace_of_selects (args := #[]) (mvT hZ (hw _ (List.mem_of_getElem? (i := 30) rfl)))) (mvT hZ (hw _ (List.mem_of_getElem? (i := 30) rfl))) (mvT hZ (hw _ (List.mem_of_getElem? (i := 29) rfl))) (by decide) (backOf (W := 0) (rm5 l Z aw hw [] b12 ((v0_361 q0 q1 q2 q3 p4) * (v0_351 q0 q1 q2 q3 p4)) ((v0_361 q0 q1 q2 q3 p4) * (v0_339 q0 q1 q2 q3 p4)) T13.heap n0 z13 f13_k1 f13_k0 hn10_400) hZ (hw _ (List.mem_of_getElem? (i := 31) rfl)) (hw _ (List.mem_of_getElem? (i := 7) rfl)) (by decide) (by decide)) q14a q14c (g := (mkF m 400 #[.val (.long q0), .second, .val (.long q1), .second, .val (.long q2), .second, .val (.long q3), .second, .val (.int p4), .val (.long (v0_9 q0 q1 q2 q3 p4)), .second, .val (.long (j0_30_l11 q0 q1 q2 q3 p4)), .second, .val (.int (v0_25 q0 q1 q2 q3 p4)), .val (.long (j0_81_l14 q0 q1 q2 q3 p4)), .second, .val (.double (v0_106 q0 q1 q2 q3 p4)), .second, .val (.double (v0_125 q0 q1 q2 q3 p4)), .second, .val (.int (j0_253_l20 q0 q1 q2 q3 p4)), .val (.long (v0_339 q0 q1 q2 q3 p4)), .second, .val (.long (v0_351 q0 q1 q2 q3 p4)), .second, .val (.long (v0_361 q0 q1 q2 q3 p4)), .second, .val (.double (v0_379 q0 q1 q2 q3 p4)), .second, .unset, .unset] [(.ref b12)])) rfl (by rw [hml]; rfl) (Steps.refl _) (argsL := []) (rest := []) (lenOf pd_3 rfl) rfl (by show 2 * 0 + _ ≤ _; exact Nat.le_of_eq rfl) (hb hby at_400) (fun _ _ => ⟨rfl, rfl, (by decide : 4 + 0 ≤ _), (by decide : 16 + 0 ≤ _)⟩)
  dsimp only [Pt.U, Pt.locs, Pt.cells, Pt.slots] at X14 l14 y14 z14' st14 hQ14
  subst l14 y14 z14'
  obtain ⟨rfl, N14q, hq14⟩ := hQ14
  have f14_0 : Exa Z T14.heap b2 "com/example/duotier/duotier/bench/Tally" := by rw [hq14]; exact f13_0
  have f14_1 : Fld Z T14.heap b2 "com/example/duotier/duotier/bench/Tally" "operations" "J" (.long (v0_9 q0 q1 q2 q3 p4)) := by rw [hq14]; exact f13_1
  have f14_2 : Fld Z T14.heap b2 "com/example/duotier/duotier/bench/Tally" "reads" "J" (.long (j0_30_l11 q0 q1 q2 q3 p4)) := by rw [hq14]; exact f13_2
  have f14_3 : Fld Z T14.heap b2 "com/example/duotier/duotier/bench/Tally" "localMisses" "J" (.long q3) := by rw [hq14]; exact f13_3
  have f14_4 : Fld Z T14.heap b2 "com/example/duotier/duotier/bench/Tally" "nanos" "J" (.long q2) := by rw [hq14]; exact f13_4
  have f14_5 : Exa Z T14.heap b5 "com/example/duotier/duotier/bench/Tally" := by rw [hq14]; exact f13_5
  have f14_6 : Fld Z T14.heap b5 "com/example/duotier/duotier/bench/Tally" "operations" "J" (.long (v0_9 q0 q1 q2 q3 p4)) := by rw [hq14]; exact f13_6
  have f14_7 : Fld Z T14.heap b5 "com/example/duotier/duotier/bench/Tally" "reads" "J" (.long (j0_81_l14 q0 q1 q2 q3 p4)) := by rw [hq14]; exact f13_7
  have f14_8 : Fld Z T14.heap b5 "com/example/duotier/duotier/bench/Tally" "localMisses" "J" (.long q1) := by rw [hq14]; exact f13_8
  have f14_9 : Fld Z T14.heap b5 "com/example/duotier/duotier/bench/Tally" "nanos" "J" (.long q3) := by rw [hq14]; exact f13_9
  have f14_10 : Exa Z T14.heap b9 "com/example/duotier/duotier/bench/Tally" := by rw [hq14]; exact f13_10
  have f14_11 : Fld Z T14.heap b9 "com/example/duotier/duotier/bench/Tally" "operations" "J" (.long (v0_339 q0 q1 q2 q3 p4)) := by rw [hq14]; exact f13_11
  have f14_12 : Fld Z T14.heap b9 "com/example/duotier/duotier/bench/Tally" "reads" "J" (.long (v0_351 q0 q1 q2 q3 p4)) := by rw [hq14]; exact f13_12
  have f14_13 : Fld Z T14.heap b9 "com/example/duotier/duotier/bench/Tally" "localMisses" "J" (.long (0 : Int64)) := by rw [hq14]; exact f13_13
  have f14_14 : Fld Z T14.heap b9 "com/example/duotier/duotier/bench/Tally" "nanos" "J" (.long (1 : Int64)) := by rw [hq14]; exact f13_14
  have f14_15 : Exa Z T14.heap b12 "com/example/duotier/duotier/bench/Tally" := by rw [hq14]; exact x13
  have f14_16 : Fld Z T14.heap b12 "com/example/duotier/duotier/bench/Tally" "operations" "J" (.long ((v0_361 q0 q1 q2 q3 p4) * (v0_339 q0 q1 q2 q3 p4))) := by rw [hq14]; exact f13_k0
  have f14_17 : Fld Z T14.heap b12 "com/example/duotier/duotier/bench/Tally" "reads" "J" (.long ((v0_361 q0 q1 q2 q3 p4) * (v0_351 q0 q1 q2 q3 p4))) := by rw [hq14]; exact f13_k1
  have f14_18 : Fld Z T14.heap b12 "com/example/duotier/duotier/bench/Tally" "localMisses" "J" (.long (0 : Int64)) := by rw [hq14]; exact f13_k2
  have f14_19 : Fld Z T14.heap b12 "com/example/duotier/duotier/bench/Tally" "nanos" "J" (.long (1 : Int64)) := by rw [hq14]; exact f13_k3
  have z14 : n0 ≤ T14.heap.size := by rw [hq14]; exact z13
  have N14 := Fr.app N13 N14q
  obtain ⟨fs, hr, hrun, hended, hW, hsame⟩ := X14.leave (v := some (.int (1 : Int32))) (fun h => by rw [Bd.returns] at h; cases h)
  refine ⟨_, _, pre0 _ ?_, hrun, hended, _, _, rfl, ?_, ⟨_, rfl⟩, hW, hsame.mono (by decide) (by decide)⟩
  · show Steps p.tables e below (s₁.setTop (mkF m 0 #[.val (.long q0), .second, .val (.long q1), .second, .val (.long q2), .second, .val (.long q3), .second, .val (.int p4), .unset, .unset, .unset, .unset, .unset, .unset, .unset, .unset, .unset, .unset, .unset, .unset, .unset, .unset, .unset, .unset, .unset, .unset, .unset, .unset, .unset, .unset] [])) _
    refine XS.lconst X0.here hx rfl (hb hby at_0) ?_
    show Steps p.tables e below (s₁.setTop (mkF m 1 #[.val (.long q0), .second, .val (.long q1), .second, .val (.long q2), .second, .val (.long q3), .second, .val (.int p4), .unset, .unset, .unset, .unset, .unset, .unset, .unset, .unset, .unset, .unset, .unset, .unset, .unset, .unset, .unset, .unset, .unset, .unset, .unset, .unset, .unset, .unset] [(.long (1 : Int64))])) _
    refine XS.lloadN X0.here hx rfl (hb hby at_1) rfl ?_
    show Steps p.tables e below (s₁.setTop (mkF m 2 #[.val (.long q0), .second, .val (.long q1), .second, .val (.long q2), .second, .val (.long q3), .second, .val (.int p4), .unset, .unset, .unset, .unset, .unset, .unset, .unset, .unset, .unset, .unset, .unset, .unset, .unset, .unset, .unset, .unset, .unset, .unset, .unset, .unset, .unset, .unset] [(.long q0), (.long (1 : Int64))])) _
    refine X0.ldc2Long hx hown (mvT hZ (hw _ (List.mem_of_getElem? (i := 0) rfl))) (g := (mkF m 2 #[.val (.long q0), .second, .val (.long q1), .second, .val (.long q2), .second, .val (.long q3), .second, .val (.int p4), .unset, .unset, .unset, .unset, .unset, .unset, .unset, .unset, .unset, .unset, .unset, .unset, .unset, .unset, .unset, .unset, .unset, .unset, .unset, .unset, .unset, .unset] [(.long q0), (.long (1 : Int64))])) rfl (hb hby at_2) _ ?_
    show Steps p.tables e below (s₁.setTop (mkF m 5 #[.val (.long q0), .second, .val (.long q1), .second, .val (.long q2), .second, .val (.long q3), .second, .val (.int p4), .unset, .unset, .unset, .unset, .unset, .unset, .unset, .unset, .unset, .unset, .unset, .unset, .unset, .unset, .unset, .unset, .unset, .unset, .unset, .unset, .unset, .unset] [(.long (9223372036854775807 : Int64)), (.long q0), (.long (1 : Int64))])) _
    refine XS.land X0.here hx rfl (hb hby at_5) rfl ?_
    show Steps p.tables e below (s₁.setTop (mkF m 6 #[.val (.long q0), .second, .val (.long q1), .second, .val (.long q2), .second, .val (.long q3), .second, .val (.int p4), .unset, .unset, .unset, .unset, .unset, .unset, .unset, .unset, .unset, .unset, .unset, .unset, .unset, .unset, .unset, .unset, .unset, .unset, .unset, .unset, .unset, .unset] [(.long (q0 &&& (9223372036854775807 : Int64))), (.long (1 : Int64))])) _
    refine st1 _ ?_
    show Steps p.tables e below (T1.setTop (mkF m 9 #[.val (.long q0), .second, .val (.long q1), .second, .val (.long q2), .second, .val (.long q3), .second, .val (.int p4), .unset, .unset, .unset, .unset, .unset, .unset, .unset, .unset, .unset, .unset, .unset, .unset, .unset, .unset, .unset, .unset, .unset, .unset, .unset, .unset, .unset, .unset] [(.long (j1_3_s0 (1 : Int64) (q0 &&& (9223372036854775807 : Int64))))])) _
    refine XS.lstore X1.here hx rfl (hb hby at_9) rfl (l' := #[.val (.long q0), .second, .val (.long q1), .second, .val (.long q2), .second, .val (.long q3), .second, .val (.int p4), .val (.long (v0_9 q0 q1 q2 q3 p4)), .second, .unset, .unset, .unset, .unset, .unset, .unset, .unset, .unset, .unset, .unset, .unset, .unset, .unset, .unset, .unset, .unset, .unset, .unset, .unset, .unset]) rfl ?_
    show Steps p.tables e below (T1.setTop (mkF m 11 #[.val (.long q0), .second, .val (.long q1), .second, .val (.long q2), .second, .val (.long q3), .second, .val (.int p4), .val (.long (v0_9 q0 q1 q2 q3 p4)), .second, .unset, .unset, .unset, .unset, .unset, .unset, .unset, .unset, .unset, .unset, .unset, .unset, .unset, .unset, .unset, .unset, .unset, .unset, .unset, .unset] [])) _
    refine XS.lloadN X1.here hx rfl (hb hby at_11) rfl ?_
    show Steps p.tables e below (T1.setTop (mkF m 12 #[.val (.long q0), .second, .val (.long q1), .second, .val (.long q2), .second, .val (.long q3), .second, .val (.int p4), .val (.long (v0_9 q0 q1 q2 q3 p4)), .second, .unset, .unset, .unset, .unset, .unset, .unset, .unset, .unset, .unset, .unset, .unset, .unset, .unset, .unset, .unset, .unset, .unset, .unset, .unset, .unset] [(.long q1)])) _
    refine X1.ldc2Long hx hown (mvT hZ (hw _ (List.mem_of_getElem? (i := 0) rfl))) (g := (mkF m 12 #[.val (.long q0), .second, .val (.long q1), .second, .val (.long q2), .second, .val (.long q3), .second, .val (.int p4), .val (.long (v0_9 q0 q1 q2 q3 p4)), .second, .unset, .unset, .unset, .unset, .unset, .unset, .unset, .unset, .unset, .unset, .unset, .unset, .unset, .unset, .unset, .unset, .unset, .unset, .unset, .unset] [(.long q1)])) rfl (hb hby at_12) _ ?_
    show Steps p.tables e below (T1.setTop (mkF m 15 #[.val (.long q0), .second, .val (.long q1), .second, .val (.long q2), .second, .val (.long q3), .second, .val (.int p4), .val (.long (v0_9 q0 q1 q2 q3 p4)), .second, .unset, .unset, .unset, .unset, .unset, .unset, .unset, .unset, .unset, .unset, .unset, .unset, .unset, .unset, .unset, .unset, .unset, .unset, .unset, .unset] [(.long (9223372036854775807 : Int64)), (.long q1)])) _
    refine XS.land X1.here hx rfl (hb hby at_15) rfl ?_
    show Steps p.tables e below (T1.setTop (mkF m 16 #[.val (.long q0), .second, .val (.long q1), .second, .val (.long q2), .second, .val (.long q3), .second, .val (.int p4), .val (.long (v0_9 q0 q1 q2 q3 p4)), .second, .unset, .unset, .unset, .unset, .unset, .unset, .unset, .unset, .unset, .unset, .unset, .unset, .unset, .unset, .unset, .unset, .unset, .unset, .unset, .unset] [(.long (q1 &&& (9223372036854775807 : Int64)))])) _
    refine XS.lload X1.here hx rfl (hb hby at_16) rfl ?_
    show Steps p.tables e below (T1.setTop (mkF m 18 #[.val (.long q0), .second, .val (.long q1), .second, .val (.long q2), .second, .val (.long q3), .second, .val (.int p4), .val (.long (v0_9 q0 q1 q2 q3 p4)), .second, .unset, .unset, .unset, .unset, .unset, .unset, .unset, .unset, .unset, .unset, .unset, .unset, .unset, .unset, .unset, .unset, .unset, .unset, .unset, .unset] [(.long (v0_9 q0 q1 q2 q3 p4)), (.long (q1 &&& (9223372036854775807 : Int64)))])) _
    refine Jvm.OwnFP.lremM X1.here hx rfl (hb hby at_18) rfl hz18 ?_
    show Steps p.tables e below (T1.setTop (mkF m 19 #[.val (.long q0), .second, .val (.long q1), .second, .val (.long q2), .second, .val (.long q3), .second, .val (.int p4), .val (.long (v0_9 q0 q1 q2 q3 p4)), .second, .unset, .unset, .unset, .unset, .unset, .unset, .unset, .unset, .unset, .unset, .unset, .unset, .unset, .unset, .unset, .unset, .unset, .unset, .unset, .unset] [(.long ((q1 &&& (9223372036854775807 : Int64)) % (v0_9 q0 q1 q2 q3 p4)))])) _
    refine XS.lstore X1.here hx rfl (hb hby at_19) rfl (l' := #[.val (.long q0), .second, .val (.long q1), .second, .val (.long q2), .second, .val (.long q3), .second, .val (.int p4), .val (.long (v0_9 q0 q1 q2 q3 p4)), .second, .val (.long (v0_19 q0 q1 q2 q3 p4)), .second, .unset, .unset, .unset, .unset, .unset, .unset, .unset, .unset, .unset, .unset, .unset, .unset, .unset, .unset, .unset, .unset, .unset, .unset]) rfl ?_
    show Steps p.tables e below (T1.setTop (mkF m 21 #[.val (.long q0), .second, .val (.long q1), .second, .val (.long q2), .second, .val (.long q3), .second, .val (.int p4), .val (.long (v0_9 q0 q1 q2 q3 p4)), .second, .val (.long (v0_19 q0 q1 q2 q3 p4)), .second, .unset, .unset, .unset, .unset, .unset, .unset, .unset, .unset, .unset, .unset, .unset, .unset, .unset, .unset, .unset, .unset, .unset, .unset] [])) _
    refine XS.iload X1.here hx rfl (hb hby at_21) rfl ?_
    show Steps p.tables e below (T1.setTop (mkF m 23 #[.val (.long q0), .second, .val (.long q1), .second, .val (.long q2), .second, .val (.long q3), .second, .val (.int p4), .val (.long (v0_9 q0 q1 q2 q3 p4)), .second, .val (.long (v0_19 q0 q1 q2 q3 p4)), .second, .unset, .unset, .unset, .unset, .unset, .unset, .unset, .unset, .unset, .unset, .unset, .unset, .unset, .unset, .unset, .unset, .unset, .unset] [(.int p4)])) _
    refine XS.iconst X1.here hx rfl (hb hby at_23) ?_
    show Steps p.tables e below (T1.setTop (mkF m 24 #[.val (.long q0), .second, .val (.long q1), .second, .val (.long q2), .second, .val (.long q3), .second, .val (.int p4), .val (.long (v0_9 q0 q1 q2 q3 p4)), .second, .val (.long (v0_19 q0 q1 q2 q3 p4)), .second, .unset, .unset, .unset, .unset, .unset, .unset, .unset, .unset, .unset, .unset, .unset, .unset, .unset, .unset, .unset, .unset, .unset, .unset] [(.int (3 : Int32)), (.int p4)])) _
    refine XS.iand X1.here hx rfl (hb hby at_24) rfl ?_
    show Steps p.tables e below (T1.setTop (mkF m 25 #[.val (.long q0), .second, .val (.long q1), .second, .val (.long q2), .second, .val (.long q3), .second, .val (.int p4), .val (.long (v0_9 q0 q1 q2 q3 p4)), .second, .val (.long (v0_19 q0 q1 q2 q3 p4)), .second, .unset, .unset, .unset, .unset, .unset, .unset, .unset, .unset, .unset, .unset, .unset, .unset, .unset, .unset, .unset, .unset, .unset, .unset] [(.int (p4 &&& (3 : Int32)))])) _
    refine XS.istore X1.here hx rfl (hb hby at_25) rfl (l' := #[.val (.long q0), .second, .val (.long q1), .second, .val (.long q2), .second, .val (.long q3), .second, .val (.int p4), .val (.long (v0_9 q0 q1 q2 q3 p4)), .second, .val (.long (v0_19 q0 q1 q2 q3 p4)), .second, .val (.int (v0_25 q0 q1 q2 q3 p4)), .unset, .unset, .unset, .unset, .unset, .unset, .unset, .unset, .unset, .unset, .unset, .unset, .unset, .unset, .unset, .unset, .unset]) rfl ?_
    show Steps p.tables e below (T1.setTop (mkF m 27 #[.val (.long q0), .second, .val (.long q1), .second, .val (.long q2), .second, .val (.long q3), .second, .val (.int p4), .val (.long (v0_9 q0 q1 q2 q3 p4)), .second, .val (.long (v0_19 q0 q1 q2 q3 p4)), .second, .val (.int (v0_25 q0 q1 q2 q3 p4)), .unset, .unset, .unset, .unset, .unset, .unset, .unset, .unset, .unset, .unset, .unset, .unset, .unset, .unset, .unset, .unset, .unset] [])) _
    refine XS.iload X1.here hx rfl (hb hby at_27) rfl ?_
    show Steps p.tables e below (T1.setTop (mkF m 29 #[.val (.long q0), .second, .val (.long q1), .second, .val (.long q2), .second, .val (.long q3), .second, .val (.int p4), .val (.long (v0_9 q0 q1 q2 q3 p4)), .second, .val (.long (v0_19 q0 q1 q2 q3 p4)), .second, .val (.int (v0_25 q0 q1 q2 q3 p4)), .unset, .unset, .unset, .unset, .unset, .unset, .unset, .unset, .unset, .unset, .unset, .unset, .unset, .unset, .unset, .unset, .unset] [(.int (v0_25 q0 q1 q2 q3 p4))])) _
    refine XS.iconst X1.here hx rfl (hb hby at_29) ?_
    show Steps p.tables e below (T1.setTop (mkF m 30 #[.val (.long q0), .second, .val (.long q1), .second, .val (.long q2), .second, .val (.long q3), .second, .val (.int p4), .val (.long (v0_9 q0 q1 q2 q3 p4)), .second, .val (.long (v0_19 q0 q1 q2 q3 p4)), .second, .val (.int (v0_25 q0 q1 q2 q3 p4)), .unset, .unset, .unset, .unset, .unset, .unset, .unset, .unset, .unset, .unset, .unset, .unset, .unset, .unset, .unset, .unset, .unset] [(.int (1 : Int32)), (.int (v0_25 q0 q1 q2 q3 p4))])) _
    suffices kt30 : Steps p.tables e below (T1.setTop (mkF m 66 #[.val (.long q0), .second, .val (.long q1), .second, .val (.long q2), .second, .val (.long q3), .second, .val (.int p4), .val (.long (v0_9 q0 q1 q2 q3 p4)), .second, .val (.long (j0_30_l11 q0 q1 q2 q3 p4)), .second, .val (.int (v0_25 q0 q1 q2 q3 p4)), .unset, .unset, .unset, .unset, .unset, .unset, .unset, .unset, .unset, .unset, .unset, .unset, .unset, .unset, .unset, .unset, .unset] [])) (T14.setFrames fs) by
      by_cases hc30 : if_icmp.holds .ne (v0_25 q0 q1 q2 q3 p4) (1 : Int32) = true
      · rw [show (j0_30_l11 q0 q1 q2 q3 p4) = (j0_43_l11 q0 q1 q2 q3 p4) from if_pos hc30] at kt30
        refine XS.icmpYes X1.here hx rfl (pc0 := 30) (pc' := 40) rfl (hb hby at_30) rfl hc30 (by decide) (by decide) ?_
        show Steps p.tables e below (T1.setTop (mkF m 40 #[.val (.long q0), .second, .val (.long q1), .second, .val (.long q2), .second, .val (.long q3), .second, .val (.int p4), .val (.long (v0_9 q0 q1 q2 q3 p4)), .second, .val (.long (v0_19 q0 q1 q2 q3 p4)), .second, .val (.int (v0_25 q0 q1 q2 q3 p4)), .unset, .unset, .unset, .unset, .unset, .unset, .unset, .unset, .unset, .unset, .unset, .unset, .unset, .unset, .unset, .unset, .unset] [])) _
        refine XS.iload X1.here hx rfl (hb hby at_40) rfl ?_
        show Steps p.tables e below (T1.setTop (mkF m 42 #[.val (.long q0), .second, .val (.long q1), .second, .val (.long q2), .second, .val (.long q3), .second, .val (.int p4), .val (.long (v0_9 q0 q1 q2 q3 p4)), .second, .val (.long (v0_19 q0 q1 q2 q3 p4)), .second, .val (.int (v0_25 q0 q1 q2 q3 p4)), .unset, .unset, .unset, .unset, .unset, .unset, .unset, .unset, .unset, .unset, .unset, .unset, .unset, .unset, .unset, .unset, .unset] [(.int (v0_25 q0 q1 q2 q3 p4))])) _
        refine XS.iconst X1.here hx rfl (hb hby at_42) ?_
        show Steps p.tables e below (T1.setTop (mkF m 43 #[.val (.long q0), .second, .val (.long q1), .second, .val (.long q2), .second, .val (.long q3), .second, .val (.int p4), .val (.long (v0_9 q0 q1 q2 q3 p4)), .second, .val (.long (v0_19 q0 q1 q2 q3 p4)), .second, .val (.int (v0_25 q0 q1 q2 q3 p4)), .unset, .unset, .unset, .unset, .unset, .unset, .unset, .unset, .unset, .unset, .unset, .unset, .unset, .unset, .unset, .unset, .unset] [(.int (2 : Int32)), (.int (v0_25 q0 q1 q2 q3 p4))])) _
        suffices kt43 : Steps p.tables e below (T1.setTop (mkF m 66 #[.val (.long q0), .second, .val (.long q1), .second, .val (.long q2), .second, .val (.long q3), .second, .val (.int p4), .val (.long (v0_9 q0 q1 q2 q3 p4)), .second, .val (.long (j0_43_l11 q0 q1 q2 q3 p4)), .second, .val (.int (v0_25 q0 q1 q2 q3 p4)), .unset, .unset, .unset, .unset, .unset, .unset, .unset, .unset, .unset, .unset, .unset, .unset, .unset, .unset, .unset, .unset, .unset] [])) (T14.setFrames fs) by
          by_cases hc43 : if_icmp.holds .ne (v0_25 q0 q1 q2 q3 p4) (2 : Int32) = true
          · rw [show (j0_43_l11 q0 q1 q2 q3 p4) = (j0_60_l11 q0 q1 q2 q3 p4) from if_pos hc43] at kt43
            refine XS.icmpYes X1.here hx rfl (pc0 := 43) (pc' := 57) rfl (hb hby at_43) rfl hc43 (by decide) (by decide) ?_
            show Steps p.tables e below (T1.setTop (mkF m 57 #[.val (.long q0), .second, .val (.long q1), .second, .val (.long q2), .second, .val (.long q3), .second, .val (.int p4), .val (.long (v0_9 q0 q1 q2 q3 p4)), .second, .val (.long (v0_19 q0 q1 q2 q3 p4)), .second, .val (.int (v0_25 q0 q1 q2 q3 p4)), .unset, .unset, .unset, .unset, .unset, .unset, .unset, .unset, .unset, .unset, .unset, .unset, .unset, .unset, .unset, .unset, .unset] [])) _
            refine XS.iload X1.here hx rfl (hb hby at_57) rfl ?_
            show Steps p.tables e below (T1.setTop (mkF m 59 #[.val (.long q0), .second, .val (.long q1), .second, .val (.long q2), .second, .val (.long q3), .second, .val (.int p4), .val (.long (v0_9 q0 q1 q2 q3 p4)), .second, .val (.long (v0_19 q0 q1 q2 q3 p4)), .second, .val (.int (v0_25 q0 q1 q2 q3 p4)), .unset, .unset, .unset, .unset, .unset, .unset, .unset, .unset, .unset, .unset, .unset, .unset, .unset, .unset, .unset, .unset, .unset] [(.int (v0_25 q0 q1 q2 q3 p4))])) _
            refine XS.iconst X1.here hx rfl (hb hby at_59) ?_
            show Steps p.tables e below (T1.setTop (mkF m 60 #[.val (.long q0), .second, .val (.long q1), .second, .val (.long q2), .second, .val (.long q3), .second, .val (.int p4), .val (.long (v0_9 q0 q1 q2 q3 p4)), .second, .val (.long (v0_19 q0 q1 q2 q3 p4)), .second, .val (.int (v0_25 q0 q1 q2 q3 p4)), .unset, .unset, .unset, .unset, .unset, .unset, .unset, .unset, .unset, .unset, .unset, .unset, .unset, .unset, .unset, .unset, .unset] [(.int (3 : Int32)), (.int (v0_25 q0 q1 q2 q3 p4))])) _
            suffices kt60 : Steps p.tables e below (T1.setTop (mkF m 66 #[.val (.long q0), .second, .val (.long q1), .second, .val (.long q2), .second, .val (.long q3), .second, .val (.int p4), .val (.long (v0_9 q0 q1 q2 q3 p4)), .second, .val (.long (j0_60_l11 q0 q1 q2 q3 p4)), .second, .val (.int (v0_25 q0 q1 q2 q3 p4)), .unset, .unset, .unset, .unset, .unset, .unset, .unset, .unset, .unset, .unset, .unset, .unset, .unset, .unset, .unset, .unset, .unset] [])) (T14.setFrames fs) by
              by_cases hc60 : if_icmp.holds .ne (v0_25 q0 q1 q2 q3 p4) (3 : Int32) = true
              · rw [show (j0_60_l11 q0 q1 q2 q3 p4) = (v0_19 q0 q1 q2 q3 p4) from if_pos hc60] at kt60
                refine XS.icmpYes X1.here hx rfl (pc0 := 60) (pc' := 66) rfl (hb hby at_60) rfl hc60 (by decide) (by decide) ?_
                exact kt60
              · rw [show (j0_60_l11 q0 q1 q2 q3 p4) = (0 : Int64) from if_neg hc60] at kt60
                refine XS.icmpNo X1.here hx rfl (hb hby at_60) rfl (eq_false_of_ne_true hc60) ?_
                show Steps p.tables e below (T1.setTop (mkF m 63 #[.val (.long q0), .second, .val (.long q1), .second, .val (.long q2), .second, .val (.long q3), .second, .val (.int p4), .val (.long (v0_9 q0 q1 q2 q3 p4)), .second, .val (.long (v0_19 q0 q1 q2 q3 p4)), .second, .val (.int (v0_25 q0 q1 q2 q3 p4)), .unset, .unset, .unset, .unset, .unset, .unset, .unset, .unset, .unset, .unset, .unset, .unset, .unset, .unset, .unset, .unset, .unset] [])) _
                refine XS.lconst X1.here hx rfl (hb hby at_63) ?_
                show Steps p.tables e below (T1.setTop (mkF m 64 #[.val (.long q0), .second, .val (.long q1), .second, .val (.long q2), .second, .val (.long q3), .second, .val (.int p4), .val (.long (v0_9 q0 q1 q2 q3 p4)), .second, .val (.long (v0_19 q0 q1 q2 q3 p4)), .second, .val (.int (v0_25 q0 q1 q2 q3 p4)), .unset, .unset, .unset, .unset, .unset, .unset, .unset, .unset, .unset, .unset, .unset, .unset, .unset, .unset, .unset, .unset, .unset] [(.long (0 : Int64))])) _
                refine XS.lstore X1.here hx rfl (hb hby at_64) rfl (l' := #[.val (.long q0), .second, .val (.long q1), .second, .val (.long q2), .second, .val (.long q3), .second, .val (.int p4), .val (.long (v0_9 q0 q1 q2 q3 p4)), .second, .val (.long (0 : Int64)), .second, .val (.int (v0_25 q0 q1 q2 q3 p4)), .unset, .unset, .unset, .unset, .unset, .unset, .unset, .unset, .unset, .unset, .unset, .unset, .unset, .unset, .unset, .unset, .unset]) rfl ?_
                exact kt60
            exact kt43
          · rw [show (j0_43_l11 q0 q1 q2 q3 p4) = ((v0_9 q0 q1 q2 q3 p4) / (2 : Int64)) from if_neg hc43] at kt43
            refine XS.icmpNo X1.here hx rfl (hb hby at_43) rfl (eq_false_of_ne_true hc43) ?_
            show Steps p.tables e below (T1.setTop (mkF m 46 #[.val (.long q0), .second, .val (.long q1), .second, .val (.long q2), .second, .val (.long q3), .second, .val (.int p4), .val (.long (v0_9 q0 q1 q2 q3 p4)), .second, .val (.long (v0_19 q0 q1 q2 q3 p4)), .second, .val (.int (v0_25 q0 q1 q2 q3 p4)), .unset, .unset, .unset, .unset, .unset, .unset, .unset, .unset, .unset, .unset, .unset, .unset, .unset, .unset, .unset, .unset, .unset] [])) _
            refine XS.lload X1.here hx rfl (hb hby at_46) rfl ?_
            show Steps p.tables e below (T1.setTop (mkF m 48 #[.val (.long q0), .second, .val (.long q1), .second, .val (.long q2), .second, .val (.long q3), .second, .val (.int p4), .val (.long (v0_9 q0 q1 q2 q3 p4)), .second, .val (.long (v0_19 q0 q1 q2 q3 p4)), .second, .val (.int (v0_25 q0 q1 q2 q3 p4)), .unset, .unset, .unset, .unset, .unset, .unset, .unset, .unset, .unset, .unset, .unset, .unset, .unset, .unset, .unset, .unset, .unset] [(.long (v0_9 q0 q1 q2 q3 p4))])) _
            refine X1.ldc2Long hx hown (mvT hZ (hw _ (List.mem_of_getElem? (i := 32) rfl))) (g := (mkF m 48 #[.val (.long q0), .second, .val (.long q1), .second, .val (.long q2), .second, .val (.long q3), .second, .val (.int p4), .val (.long (v0_9 q0 q1 q2 q3 p4)), .second, .val (.long (v0_19 q0 q1 q2 q3 p4)), .second, .val (.int (v0_25 q0 q1 q2 q3 p4)), .unset, .unset, .unset, .unset, .unset, .unset, .unset, .unset, .unset, .unset, .unset, .unset, .unset, .unset, .unset, .unset, .unset] [(.long (v0_9 q0 q1 q2 q3 p4))])) rfl (hb hby at_48) _ ?_
            show Steps p.tables e below (T1.setTop (mkF m 51 #[.val (.long q0), .second, .val (.long q1), .second, .val (.long q2), .second, .val (.long q3), .second, .val (.int p4), .val (.long (v0_9 q0 q1 q2 q3 p4)), .second, .val (.long (v0_19 q0 q1 q2 q3 p4)), .second, .val (.int (v0_25 q0 q1 q2 q3 p4)), .unset, .unset, .unset, .unset, .unset, .unset, .unset, .unset, .unset, .unset, .unset, .unset, .unset, .unset, .unset, .unset, .unset] [(.long (2 : Int64)), (.long (v0_9 q0 q1 q2 q3 p4))])) _
            refine XS.ldiv X1.here hx rfl (hb hby at_51) rfl (by decide) ?_
            show Steps p.tables e below (T1.setTop (mkF m 52 #[.val (.long q0), .second, .val (.long q1), .second, .val (.long q2), .second, .val (.long q3), .second, .val (.int p4), .val (.long (v0_9 q0 q1 q2 q3 p4)), .second, .val (.long (v0_19 q0 q1 q2 q3 p4)), .second, .val (.int (v0_25 q0 q1 q2 q3 p4)), .unset, .unset, .unset, .unset, .unset, .unset, .unset, .unset, .unset, .unset, .unset, .unset, .unset, .unset, .unset, .unset, .unset] [(.long ((v0_9 q0 q1 q2 q3 p4) / (2 : Int64)))])) _
            refine XS.lstore X1.here hx rfl (hb hby at_52) rfl (l' := #[.val (.long q0), .second, .val (.long q1), .second, .val (.long q2), .second, .val (.long q3), .second, .val (.int p4), .val (.long (v0_9 q0 q1 q2 q3 p4)), .second, .val (.long ((v0_9 q0 q1 q2 q3 p4) / (2 : Int64))), .second, .val (.int (v0_25 q0 q1 q2 q3 p4)), .unset, .unset, .unset, .unset, .unset, .unset, .unset, .unset, .unset, .unset, .unset, .unset, .unset, .unset, .unset, .unset, .unset]) rfl ?_
            show Steps p.tables e below (T1.setTop (mkF m 54 #[.val (.long q0), .second, .val (.long q1), .second, .val (.long q2), .second, .val (.long q3), .second, .val (.int p4), .val (.long (v0_9 q0 q1 q2 q3 p4)), .second, .val (.long ((v0_9 q0 q1 q2 q3 p4) / (2 : Int64))), .second, .val (.int (v0_25 q0 q1 q2 q3 p4)), .unset, .unset, .unset, .unset, .unset, .unset, .unset, .unset, .unset, .unset, .unset, .unset, .unset, .unset, .unset, .unset, .unset] [])) _
            refine XS.goto X1.here hx rfl (pc0 := 54) (pc' := 66) rfl (hb hby at_54) (by decide) (by decide) ?_
            exact kt43
        exact kt30
      · rw [show (j0_30_l11 q0 q1 q2 q3 p4) = (v0_9 q0 q1 q2 q3 p4) from if_neg hc30] at kt30
        refine XS.icmpNo X1.here hx rfl (hb hby at_30) rfl (eq_false_of_ne_true hc30) ?_
        show Steps p.tables e below (T1.setTop (mkF m 33 #[.val (.long q0), .second, .val (.long q1), .second, .val (.long q2), .second, .val (.long q3), .second, .val (.int p4), .val (.long (v0_9 q0 q1 q2 q3 p4)), .second, .val (.long (v0_19 q0 q1 q2 q3 p4)), .second, .val (.int (v0_25 q0 q1 q2 q3 p4)), .unset, .unset, .unset, .unset, .unset, .unset, .unset, .unset, .unset, .unset, .unset, .unset, .unset, .unset, .unset, .unset, .unset] [])) _
        refine XS.lload X1.here hx rfl (hb hby at_33) rfl ?_
        show Steps p.tables e below (T1.setTop (mkF m 35 #[.val (.long q0), .second, .val (.long q1), .second, .val (.long q2), .second, .val (.long q3), .second, .val (.int p4), .val (.long (v0_9 q0 q1 q2 q3 p4)), .second, .val (.long (v0_19 q0 q1 q2 q3 p4)), .second, .val (.int (v0_25 q0 q1 q2 q3 p4)), .unset, .unset, .unset, .unset, .unset, .unset, .unset, .unset, .unset, .unset, .unset, .unset, .unset, .unset, .unset, .unset, .unset] [(.long (v0_9 q0 q1 q2 q3 p4))])) _
        refine XS.lstore X1.here hx rfl (hb hby at_35) rfl (l' := #[.val (.long q0), .second, .val (.long q1), .second, .val (.long q2), .second, .val (.long q3), .second, .val (.int p4), .val (.long (v0_9 q0 q1 q2 q3 p4)), .second, .val (.long (v0_9 q0 q1 q2 q3 p4)), .second, .val (.int (v0_25 q0 q1 q2 q3 p4)), .unset, .unset, .unset, .unset, .unset, .unset, .unset, .unset, .unset, .unset, .unset, .unset, .unset, .unset, .unset, .unset, .unset]) rfl ?_
        show Steps p.tables e below (T1.setTop (mkF m 37 #[.val (.long q0), .second, .val (.long q1), .second, .val (.long q2), .second, .val (.long q3), .second, .val (.int p4), .val (.long (v0_9 q0 q1 q2 q3 p4)), .second, .val (.long (v0_9 q0 q1 q2 q3 p4)), .second, .val (.int (v0_25 q0 q1 q2 q3 p4)), .unset, .unset, .unset, .unset, .unset, .unset, .unset, .unset, .unset, .unset, .unset, .unset, .unset, .unset, .unset, .unset, .unset] [])) _
        refine XS.goto X1.here hx rfl (pc0 := 37) (pc' := 66) rfl (hb hby at_37) (by decide) (by decide) ?_
        exact kt30
    show Steps p.tables e below (T1.setTop (mkF m 66 #[.val (.long q0), .second, .val (.long q1), .second, .val (.long q2), .second, .val (.long q3), .second, .val (.int p4), .val (.long (v0_9 q0 q1 q2 q3 p4)), .second, .val (.long (j0_30_l11 q0 q1 q2 q3 p4)), .second, .val (.int (v0_25 q0 q1 q2 q3 p4)), .unset, .unset, .unset, .unset, .unset, .unset, .unset, .unset, .unset, .unset, .unset, .unset, .unset, .unset, .unset, .unset, .unset] [])) _
    refine XS.lload X1.here hx rfl (hb hby at_66) rfl ?_
    show Steps p.tables e below (T1.setTop (mkF m 68 #[.val (.long q0), .second, .val (.long q1), .second, .val (.long q2), .second, .val (.long q3), .second, .val (.int p4), .val (.long (v0_9 q0 q1 q2 q3 p4)), .second, .val (.long (j0_30_l11 q0 q1 q2 q3 p4)), .second, .val (.int (v0_25 q0 q1 q2 q3 p4)), .unset, .unset, .unset, .unset, .unset, .unset, .unset, .unset, .unset, .unset, .unset, .unset, .unset, .unset, .unset, .unset, .unset] [(.long q2)])) _
    refine X1.ldc2Long hx hown (mvT hZ (hw _ (List.mem_of_getElem? (i := 0) rfl))) (g := (mkF m 68 #[.val (.long q0), .second, .val (.long q1), .second, .val (.long q2), .second, .val (.long q3), .second, .val (.int p4), .val (.long (v0_9 q0 q1 q2 q3 p4)), .second, .val (.long (j0_30_l11 q0 q1 q2 q3 p4)), .second, .val (.int (v0_25 q0 q1 q2 q3 p4)), .unset, .unset, .unset, .unset, .unset, .unset, .unset, .unset, .unset, .unset, .unset, .unset, .unset, .unset, .unset, .unset, .unset] [(.long q2)])) rfl (hb hby at_68) _ ?_
    show Steps p.tables e below (T1.setTop (mkF m 71 #[.val (.long q0), .second, .val (.long q1), .second, .val (.long q2), .second, .val (.long q3), .second, .val (.int p4), .val (.long (v0_9 q0 q1 q2 q3 p4)), .second, .val (.long (j0_30_l11 q0 q1 q2 q3 p4)), .second, .val (.int (v0_25 q0 q1 q2 q3 p4)), .unset, .unset, .unset, .unset, .unset, .unset, .unset, .unset, .unset, .unset, .unset, .unset, .unset, .unset, .unset, .unset, .unset] [(.long (9223372036854775807 : Int64)), (.long q2)])) _
    refine XS.land X1.here hx rfl (hb hby at_71) rfl ?_
    show Steps p.tables e below (T1.setTop (mkF m 72 #[.val (.long q0), .second, .val (.long q1), .second, .val (.long q2), .second, .val (.long q3), .second, .val (.int p4), .val (.long (v0_9 q0 q1 q2 q3 p4)), .second, .val (.long (j0_30_l11 q0 q1 q2 q3 p4)), .second, .val (.int (v0_25 q0 q1 q2 q3 p4)), .unset, .unset, .unset, .unset, .unset, .unset, .unset, .unset, .unset, .unset, .unset, .unset, .unset, .unset, .unset, .unset, .unset] [(.long (q2 &&& (9223372036854775807 : Int64)))])) _
    refine XS.lload X1.here hx rfl (hb hby at_72) rfl ?_
    show Steps p.tables e below (T1.setTop (mkF m 74 #[.val (.long q0), .second, .val (.long q1), .second, .val (.long q2), .second, .val (.long q3), .second, .val (.int p4), .val (.long (v0_9 q0 q1 q2 q3 p4)), .second, .val (.long (j0_30_l11 q0 q1 q2 q3 p4)), .second, .val (.int (v0_25 q0 q1 q2 q3 p4)), .unset, .unset, .unset, .unset, .unset, .unset, .unset, .unset, .unset, .unset, .unset, .unset, .unset, .unset, .unset, .unset, .unset] [(.long (v0_9 q0 q1 q2 q3 p4)), (.long (q2 &&& (9223372036854775807 : Int64)))])) _
    refine Jvm.OwnFP.lremM X1.here hx rfl (hb hby at_74) rfl hz18 ?_
    show Steps p.tables e below (T1.setTop (mkF m 75 #[.val (.long q0), .second, .val (.long q1), .second, .val (.long q2), .second, .val (.long q3), .second, .val (.int p4), .val (.long (v0_9 q0 q1 q2 q3 p4)), .second, .val (.long (j0_30_l11 q0 q1 q2 q3 p4)), .second, .val (.int (v0_25 q0 q1 q2 q3 p4)), .unset, .unset, .unset, .unset, .unset, .unset, .unset, .unset, .unset, .unset, .unset, .unset, .unset, .unset, .unset, .unset, .unset] [(.long ((q2 &&& (9223372036854775807 : Int64)) % (v0_9 q0 q1 q2 q3 p4)))])) _
    refine XS.lstore X1.here hx rfl (hb hby at_75) rfl (l' := #[.val (.long q0), .second, .val (.long q1), .second, .val (.long q2), .second, .val (.long q3), .second, .val (.int p4), .val (.long (v0_9 q0 q1 q2 q3 p4)), .second, .val (.long (j0_30_l11 q0 q1 q2 q3 p4)), .second, .val (.int (v0_25 q0 q1 q2 q3 p4)), .val (.long (v0_75 q0 q1 q2 q3 p4)), .second, .unset, .unset, .unset, .unset, .unset, .unset, .unset, .unset, .unset, .unset, .unset, .unset, .unset, .unset, .unset]) rfl ?_
    show Steps p.tables e below (T1.setTop (mkF m 77 #[.val (.long q0), .second, .val (.long q1), .second, .val (.long q2), .second, .val (.long q3), .second, .val (.int p4), .val (.long (v0_9 q0 q1 q2 q3 p4)), .second, .val (.long (j0_30_l11 q0 q1 q2 q3 p4)), .second, .val (.int (v0_25 q0 q1 q2 q3 p4)), .val (.long (v0_75 q0 q1 q2 q3 p4)), .second, .unset, .unset, .unset, .unset, .unset, .unset, .unset, .unset, .unset, .unset, .unset, .unset, .unset, .unset, .unset] [])) _
    refine XS.iload X1.here hx rfl (hb hby at_77) rfl ?_
    show Steps p.tables e below (T1.setTop (mkF m 79 #[.val (.long q0), .second, .val (.long q1), .second, .val (.long q2), .second, .val (.long q3), .second, .val (.int p4), .val (.long (v0_9 q0 q1 q2 q3 p4)), .second, .val (.long (j0_30_l11 q0 q1 q2 q3 p4)), .second, .val (.int (v0_25 q0 q1 q2 q3 p4)), .val (.long (v0_75 q0 q1 q2 q3 p4)), .second, .unset, .unset, .unset, .unset, .unset, .unset, .unset, .unset, .unset, .unset, .unset, .unset, .unset, .unset, .unset] [(.int p4)])) _
    refine XS.iconst X1.here hx rfl (hb hby at_79) ?_
    show Steps p.tables e below (T1.setTop (mkF m 80 #[.val (.long q0), .second, .val (.long q1), .second, .val (.long q2), .second, .val (.long q3), .second, .val (.int p4), .val (.long (v0_9 q0 q1 q2 q3 p4)), .second, .val (.long (j0_30_l11 q0 q1 q2 q3 p4)), .second, .val (.int (v0_25 q0 q1 q2 q3 p4)), .val (.long (v0_75 q0 q1 q2 q3 p4)), .second, .unset, .unset, .unset, .unset, .unset, .unset, .unset, .unset, .unset, .unset, .unset, .unset, .unset, .unset, .unset] [(.int (4 : Int32)), (.int p4)])) _
    refine XS.iand X1.here hx rfl (hb hby at_80) rfl ?_
    show Steps p.tables e below (T1.setTop (mkF m 81 #[.val (.long q0), .second, .val (.long q1), .second, .val (.long q2), .second, .val (.long q3), .second, .val (.int p4), .val (.long (v0_9 q0 q1 q2 q3 p4)), .second, .val (.long (j0_30_l11 q0 q1 q2 q3 p4)), .second, .val (.int (v0_25 q0 q1 q2 q3 p4)), .val (.long (v0_75 q0 q1 q2 q3 p4)), .second, .unset, .unset, .unset, .unset, .unset, .unset, .unset, .unset, .unset, .unset, .unset, .unset, .unset, .unset, .unset] [(.int (p4 &&& (4 : Int32)))])) _
    suffices kt81 : Steps p.tables e below (T1.setTop (mkF m 88 #[.val (.long q0), .second, .val (.long q1), .second, .val (.long q2), .second, .val (.long q3), .second, .val (.int p4), .val (.long (v0_9 q0 q1 q2 q3 p4)), .second, .val (.long (j0_30_l11 q0 q1 q2 q3 p4)), .second, .val (.int (v0_25 q0 q1 q2 q3 p4)), .val (.long (j0_81_l14 q0 q1 q2 q3 p4)), .second, .unset, .unset, .unset, .unset, .unset, .unset, .unset, .unset, .unset, .unset, .unset, .unset, .unset, .unset, .unset] [])) (T14.setFrames fs) by
      by_cases hc81 : ifCond.holds .eq (p4 &&& (4 : Int32)) = true
      · rw [show (j0_81_l14 q0 q1 q2 q3 p4) = (v0_75 q0 q1 q2 q3 p4) from if_pos hc81] at kt81
        refine XS.ifYes X1.here hx rfl (pc0 := 81) (pc' := 88) rfl (hb hby at_81) rfl hc81 (by decide) (by decide) ?_
        exact kt81
      · rw [show (j0_81_l14 q0 q1 q2 q3 p4) = (v0_9 q0 q1 q2 q3 p4) from if_neg hc81] at kt81
        refine XS.ifNo X1.here hx rfl (hb hby at_81) rfl (eq_false_of_ne_true hc81) ?_
        show Steps p.tables e below (T1.setTop (mkF m 84 #[.val (.long q0), .second, .val (.long q1), .second, .val (.long q2), .second, .val (.long q3), .second, .val (.int p4), .val (.long (v0_9 q0 q1 q2 q3 p4)), .second, .val (.long (j0_30_l11 q0 q1 q2 q3 p4)), .second, .val (.int (v0_25 q0 q1 q2 q3 p4)), .val (.long (v0_75 q0 q1 q2 q3 p4)), .second, .unset, .unset, .unset, .unset, .unset, .unset, .unset, .unset, .unset, .unset, .unset, .unset, .unset, .unset, .unset] [])) _
        refine XS.lload X1.here hx rfl (hb hby at_84) rfl ?_
        show Steps p.tables e below (T1.setTop (mkF m 86 #[.val (.long q0), .second, .val (.long q1), .second, .val (.long q2), .second, .val (.long q3), .second, .val (.int p4), .val (.long (v0_9 q0 q1 q2 q3 p4)), .second, .val (.long (j0_30_l11 q0 q1 q2 q3 p4)), .second, .val (.int (v0_25 q0 q1 q2 q3 p4)), .val (.long (v0_75 q0 q1 q2 q3 p4)), .second, .unset, .unset, .unset, .unset, .unset, .unset, .unset, .unset, .unset, .unset, .unset, .unset, .unset, .unset, .unset] [(.long (v0_9 q0 q1 q2 q3 p4))])) _
        refine XS.lstore X1.here hx rfl (hb hby at_86) rfl (l' := #[.val (.long q0), .second, .val (.long q1), .second, .val (.long q2), .second, .val (.long q3), .second, .val (.int p4), .val (.long (v0_9 q0 q1 q2 q3 p4)), .second, .val (.long (j0_30_l11 q0 q1 q2 q3 p4)), .second, .val (.int (v0_25 q0 q1 q2 q3 p4)), .val (.long (v0_9 q0 q1 q2 q3 p4)), .second, .unset, .unset, .unset, .unset, .unset, .unset, .unset, .unset, .unset, .unset, .unset, .unset, .unset, .unset, .unset]) rfl ?_
        exact kt81
    show Steps p.tables e below (T1.setTop (mkF m 88 #[.val (.long q0), .second, .val (.long q1), .second, .val (.long q2), .second, .val (.long q3), .second, .val (.int p4), .val (.long (v0_9 q0 q1 q2 q3 p4)), .second, .val (.long (j0_30_l11 q0 q1 q2 q3 p4)), .second, .val (.int (v0_25 q0 q1 q2 q3 p4)), .val (.long (j0_81_l14 q0 q1 q2 q3 p4)), .second, .unset, .unset, .unset, .unset, .unset, .unset, .unset, .unset, .unset, .unset, .unset, .unset, .unset, .unset, .unset] [])) _
    refine st2 _ ?_
    show Steps p.tables e below (T2.setTop (mkF m 91 #[.val (.long q0), .second, .val (.long q1), .second, .val (.long q2), .second, .val (.long q3), .second, .val (.int p4), .val (.long (v0_9 q0 q1 q2 q3 p4)), .second, .val (.long (j0_30_l11 q0 q1 q2 q3 p4)), .second, .val (.int (v0_25 q0 q1 q2 q3 p4)), .val (.long (j0_81_l14 q0 q1 q2 q3 p4)), .second, .unset, .unset, .unset, .unset, .unset, .unset, .unset, .unset, .unset, .unset, .unset, .unset, .unset, .unset, .unset] [(.ref b2)])) _
    refine XS.dup X2.here hx rfl (hb hby at_91) rfl rfl ?_
    show Steps p.tables e below (T2.setTop (mkF m 92 #[.val (.long q0), .second, .val (.long q1), .second, .val (.long q2), .second, .val (.long q3), .second, .val (.int p4), .val (.long (v0_9 q0 q1 q2 q3 p4)), .second, .val (.long (j0_30_l11 q0 q1 q2 q3 p4)), .second, .val (.int (v0_25 q0 q1 q2 q3 p4)), .val (.long (j0_81_l14 q0 q1 q2 q3 p4)), .second, .unset, .unset, .unset, .unset, .unset, .unset, .unset, .unset, .unset, .unset, .unset, .unset, .unset, .unset, .unset] [(.ref b2), (.ref b2)])) _
    refine XS.lload X2.here hx rfl (hb hby at_92) rfl ?_
    show Steps p.tables e below (T2.setTop (mkF m 94 #[.val (.long q0), .second, .val (.long q1), .second, .val (.long q2), .second, .val (.long q3), .second, .val (.int p4), .val (.long (v0_9 q0 q1 q2 q3 p4)), .second, .val (.long (j0_30_l11 q0 q1 q2 q3 p4)), .second, .val (.int (v0_25 q0 q1 q2 q3 p4)), .val (.long (j0_81_l14 q0 q1 q2 q3 p4)), .second, .unset, .unset, .unset, .unset, .unset, .unset, .unset, .unset, .unset, .unset, .unset, .unset, .unset, .unset, .unset] [(.long (v0_9 q0 q1 q2 q3 p4)), (.ref b2), (.ref b2)])) _
    refine XS.lload X2.here hx rfl (hb hby at_94) rfl ?_
    show Steps p.tables e below (T2.setTop (mkF m 96 #[.val (.long q0), .second, .val (.long q1), .second, .val (.long q2), .second, .val (.long q3), .second, .val (.int p4), .val (.long (v0_9 q0 q1 q2 q3 p4)), .second, .val (.long (j0_30_l11 q0 q1 q2 q3 p4)), .second, .val (.int (v0_25 q0 q1 q2 q3 p4)), .val (.long (j0_81_l14 q0 q1 q2 q3 p4)), .second, .unset, .unset, .unset, .unset, .unset, .unset, .unset, .unset, .unset, .unset, .unset, .unset, .unset, .unset, .unset] [(.long (j0_30_l11 q0 q1 q2 q3 p4)), (.long (v0_9 q0 q1 q2 q3 p4)), (.ref b2), (.ref b2)])) _
    refine XS.lload X2.here hx rfl (hb hby at_96) rfl ?_
    show Steps p.tables e below (T2.setTop (mkF m 98 #[.val (.long q0), .second, .val (.long q1), .second, .val (.long q2), .second, .val (.long q3), .second, .val (.int p4), .val (.long (v0_9 q0 q1 q2 q3 p4)), .second, .val (.long (j0_30_l11 q0 q1 q2 q3 p4)), .second, .val (.int (v0_25 q0 q1 q2 q3 p4)), .val (.long (j0_81_l14 q0 q1 q2 q3 p4)), .second, .unset, .unset, .unset, .unset, .unset, .unset, .unset, .unset, .unset, .unset, .unset, .unset, .unset, .unset, .unset] [(.long q3), (.long (j0_30_l11 q0 q1 q2 q3 p4)), (.long (v0_9 q0 q1 q2 q3 p4)), (.ref b2), (.ref b2)])) _
    refine XS.lload X2.here hx rfl (hb hby at_98) rfl ?_
    show Steps p.tables e below (T2.setTop (mkF m 100 #[.val (.long q0), .second, .val (.long q1), .second, .val (.long q2), .second, .val (.long q3), .second, .val (.int p4), .val (.long (v0_9 q0 q1 q2 q3 p4)), .second, .val (.long (j0_30_l11 q0 q1 q2 q3 p4)), .second, .val (.int (v0_25 q0 q1 q2 q3 p4)), .val (.long (j0_81_l14 q0 q1 q2 q3 p4)), .second, .unset, .unset, .unset, .unset, .unset, .unset, .unset, .unset, .unset, .unset, .unset, .unset, .unset, .unset, .unset] [(.long q2), (.long q3), (.long (j0_30_l11 q0 q1 q2 q3 p4)), (.long (v0_9 q0 q1 q2 q3 p4)), (.ref b2), (.ref b2)])) _
    refine st3.trans ?_
    show Steps p.tables e below (T3.setTop (mkF m 103 #[.val (.long q0), .second, .val (.long q1), .second, .val (.long q2), .second, .val (.long q3), .second, .val (.int p4), .val (.long (v0_9 q0 q1 q2 q3 p4)), .second, .val (.long (j0_30_l11 q0 q1 q2 q3 p4)), .second, .val (.int (v0_25 q0 q1 q2 q3 p4)), .val (.long (j0_81_l14 q0 q1 q2 q3 p4)), .second, .unset, .unset, .unset, .unset, .unset, .unset, .unset, .unset, .unset, .unset, .unset, .unset, .unset, .unset, .unset] [(.ref b2)])) _
    refine st4.trans ?_
    show Steps p.tables e below (T4.setTop (mkF m 106 #[.val (.long q0), .second, .val (.long q1), .second, .val (.long q2), .second, .val (.long q3), .second, .val (.int p4), .val (.long (v0_9 q0 q1 q2 q3 p4)), .second, .val (.long (j0_30_l11 q0 q1 q2 q3 p4)), .second, .val (.int (v0_25 q0 q1 q2 q3 p4)), .val (.long (j0_81_l14 q0 q1 q2 q3 p4)), .second, .unset, .unset, .unset, .unset, .unset, .unset, .unset, .unset, .unset, .unset, .unset, .unset, .unset, .unset, .unset] [(.double (r5 (j0_30_l11 q0 q1 q2 q3 p4) (v0_9 q0 q1 q2 q3 p4)))])) _
    refine XS.dstore X4.here hx rfl (hb hby at_106) rfl (l' := #[.val (.long q0), .second, .val (.long q1), .second, .val (.long q2), .second, .val (.long q3), .second, .val (.int p4), .val (.long (v0_9 q0 q1 q2 q3 p4)), .second, .val (.long (j0_30_l11 q0 q1 q2 q3 p4)), .second, .val (.int (v0_25 q0 q1 q2 q3 p4)), .val (.long (j0_81_l14 q0 q1 q2 q3 p4)), .second, .val (.double (v0_106 q0 q1 q2 q3 p4)), .second, .unset, .unset, .unset, .unset, .unset, .unset, .unset, .unset, .unset, .unset, .unset, .unset, .unset]) rfl ?_
    show Steps p.tables e below (T4.setTop (mkF m 108 #[.val (.long q0), .second, .val (.long q1), .second, .val (.long q2), .second, .val (.long q3), .second, .val (.int p4), .val (.long (v0_9 q0 q1 q2 q3 p4)), .second, .val (.long (j0_30_l11 q0 q1 q2 q3 p4)), .second, .val (.int (v0_25 q0 q1 q2 q3 p4)), .val (.long (j0_81_l14 q0 q1 q2 q3 p4)), .second, .val (.double (v0_106 q0 q1 q2 q3 p4)), .second, .unset, .unset, .unset, .unset, .unset, .unset, .unset, .unset, .unset, .unset, .unset, .unset, .unset] [])) _
    refine st5 _ ?_
    show Steps p.tables e below (T5.setTop (mkF m 111 #[.val (.long q0), .second, .val (.long q1), .second, .val (.long q2), .second, .val (.long q3), .second, .val (.int p4), .val (.long (v0_9 q0 q1 q2 q3 p4)), .second, .val (.long (j0_30_l11 q0 q1 q2 q3 p4)), .second, .val (.int (v0_25 q0 q1 q2 q3 p4)), .val (.long (j0_81_l14 q0 q1 q2 q3 p4)), .second, .val (.double (v0_106 q0 q1 q2 q3 p4)), .second, .unset, .unset, .unset, .unset, .unset, .unset, .unset, .unset, .unset, .unset, .unset, .unset, .unset] [(.ref b5)])) _
    refine XS.dup X5.here hx rfl (hb hby at_111) rfl rfl ?_
    show Steps p.tables e below (T5.setTop (mkF m 112 #[.val (.long q0), .second, .val (.long q1), .second, .val (.long q2), .second, .val (.long q3), .second, .val (.int p4), .val (.long (v0_9 q0 q1 q2 q3 p4)), .second, .val (.long (j0_30_l11 q0 q1 q2 q3 p4)), .second, .val (.int (v0_25 q0 q1 q2 q3 p4)), .val (.long (j0_81_l14 q0 q1 q2 q3 p4)), .second, .val (.double (v0_106 q0 q1 q2 q3 p4)), .second, .unset, .unset, .unset, .unset, .unset, .unset, .unset, .unset, .unset, .unset, .unset, .unset, .unset] [(.ref b5), (.ref b5)])) _
    refine XS.lload X5.here hx rfl (hb hby at_112) rfl ?_
    show Steps p.tables e below (T5.setTop (mkF m 114 #[.val (.long q0), .second, .val (.long q1), .second, .val (.long q2), .second, .val (.long q3), .second, .val (.int p4), .val (.long (v0_9 q0 q1 q2 q3 p4)), .second, .val (.long (j0_30_l11 q0 q1 q2 q3 p4)), .second, .val (.int (v0_25 q0 q1 q2 q3 p4)), .val (.long (j0_81_l14 q0 q1 q2 q3 p4)), .second, .val (.double (v0_106 q0 q1 q2 q3 p4)), .second, .unset, .unset, .unset, .unset, .unset, .unset, .unset, .unset, .unset, .unset, .unset, .unset, .unset] [(.long (v0_9 q0 q1 q2 q3 p4)), (.ref b5), (.ref b5)])) _
    refine XS.lload X5.here hx rfl (hb hby at_114) rfl ?_
    show Steps p.tables e below (T5.setTop (mkF m 116 #[.val (.long q0), .second, .val (.long q1), .second, .val (.long q2), .second, .val (.long q3), .second, .val (.int p4), .val (.long (v0_9 q0 q1 q2 q3 p4)), .second, .val (.long (j0_30_l11 q0 q1 q2 q3 p4)), .second, .val (.int (v0_25 q0 q1 q2 q3 p4)), .val (.long (j0_81_l14 q0 q1 q2 q3 p4)), .second, .val (.double (v0_106 q0 q1 q2 q3 p4)), .second, .unset, .unset, .unset, .unset, .unset, .unset, .unset, .unset, .unset, .unset, .unset, .unset, .unset] [(.long (j0_81_l14 q0 q1 q2 q3 p4)), (.long (v0_9 q0 q1 q2 q3 p4)), (.ref b5), (.ref b5)])) _
    refine XS.lloadN X5.here hx rfl (hb hby at_116) rfl ?_
    show Steps p.tables e below (T5.setTop (mkF m 117 #[.val (.long q0), .second, .val (.long q1), .second, .val (.long q2), .second, .val (.long q3), .second, .val (.int p4), .val (.long (v0_9 q0 q1 q2 q3 p4)), .second, .val (.long (j0_30_l11 q0 q1 q2 q3 p4)), .second, .val (.int (v0_25 q0 q1 q2 q3 p4)), .val (.long (j0_81_l14 q0 q1 q2 q3 p4)), .second, .val (.double (v0_106 q0 q1 q2 q3 p4)), .second, .unset, .unset, .unset, .unset, .unset, .unset, .unset, .unset, .unset, .unset, .unset, .unset, .unset] [(.long q1), (.long (j0_81_l14 q0 q1 q2 q3 p4)), (.long (v0_9 q0 q1 q2 q3 p4)), (.ref b5), (.ref b5)])) _
    refine XS.lload X5.here hx rfl (hb hby at_117) rfl ?_
    show Steps p.tables e below (T5.setTop (mkF m 119 #[.val (.long q0), .second, .val (.long q1), .second, .val (.long q2), .second, .val (.long q3), .second, .val (.int p4), .val (.long (v0_9 q0 q1 q2 q3 p4)), .second, .val (.long (j0_30_l11 q0 q1 q2 q3 p4)), .second, .val (.int (v0_25 q0 q1 q2 q3 p4)), .val (.long (j0_81_l14 q0 q1 q2 q3 p4)), .second, .val (.double (v0_106 q0 q1 q2 q3 p4)), .second, .unset, .unset, .unset, .unset, .unset, .unset, .unset, .unset, .unset, .unset, .unset, .unset, .unset] [(.long q3), (.long q1), (.long (j0_81_l14 q0 q1 q2 q3 p4)), (.long (v0_9 q0 q1 q2 q3 p4)), (.ref b5), (.ref b5)])) _
    refine st6.trans ?_
    show Steps p.tables e below (T6.setTop (mkF m 122 #[.val (.long q0), .second, .val (.long q1), .second, .val (.long q2), .second, .val (.long q3), .second, .val (.int p4), .val (.long (v0_9 q0 q1 q2 q3 p4)), .second, .val (.long (j0_30_l11 q0 q1 q2 q3 p4)), .second, .val (.int (v0_25 q0 q1 q2 q3 p4)), .val (.long (j0_81_l14 q0 q1 q2 q3 p4)), .second, .val (.double (v0_106 q0 q1 q2 q3 p4)), .second, .unset, .unset, .unset, .unset, .unset, .unset, .unset, .unset, .unset, .unset, .unset, .unset, .unset] [(.ref b5)])) _
    refine st7.trans ?_
    show Steps p.tables e below (T7.setTop (mkF m 125 #[.val (.long q0), .second, .val (.long q1), .second, .val (.long q2), .second, .val (.long q3), .second, .val (.int p4), .val (.long (v0_9 q0 q1 q2 q3 p4)), .second, .val (.long (j0_30_l11 q0 q1 q2 q3 p4)), .second, .val (.int (v0_25 q0 q1 q2 q3 p4)), .val (.long (j0_81_l14 q0 q1 q2 q3 p4)), .second, .val (.double (v0_106 q0 q1 q2 q3 p4)), .second, .unset, .unset, .unset, .unset, .unset, .unset, .unset, .unset, .unset, .unset, .unset, .unset, .unset] [(.double (r5 (j0_81_l14 q0 q1 q2 q3 p4) (v0_9 q0 q1 q2 q3 p4)))])) _
    refine XS.dstore X7.here hx rfl (hb hby at_125) rfl (l' := #[.val (.long q0), .second, .val (.long q1), .second, .val (.long q2), .second, .val (.long q3), .second, .val (.int p4), .val (.long (v0_9 q0 q1 q2 q3 p4)), .second, .val (.long (j0_30_l11 q0 q1 q2 q3 p4)), .second, .val (.int (v0_25 q0 q1 q2 q3 p4)), .val (.long (j0_81_l14 q0 q1 q2 q3 p4)), .second, .val (.double (v0_106 q0 q1 q2 q3 p4)), .second, .val (.double (v0_125 q0 q1 q2 q3 p4)), .second, .unset, .unset, .unset, .unset, .unset, .unset, .unset, .unset, .unset, .unset, .unset]) rfl ?_
    show Steps p.tables e below (T7.setTop (mkF m 127 #[.val (.long q0), .second, .val (.long q1), .second, .val (.long q2), .second, .val (.long q3), .second, .val (.int p4), .val (.long (v0_9 q0 q1 q2 q3 p4)), .second, .val (.long (j0_30_l11 q0 q1 q2 q3 p4)), .second, .val (.int (v0_25 q0 q1 q2 q3 p4)), .val (.long (j0_81_l14 q0 q1 q2 q3 p4)), .second, .val (.double (v0_106 q0 q1 q2 q3 p4)), .second, .val (.double (v0_125 q0 q1 q2 q3 p4)), .second, .unset, .unset, .unset, .unset, .unset, .unset, .unset, .unset, .unset, .unset, .unset] [])) _
    refine XS.dconst0 X7.here hx rfl (hb hby at_127) rfl ?_
    show Steps p.tables e below (T7.setTop (mkF m 128 #[.val (.long q0), .second, .val (.long q1), .second, .val (.long q2), .second, .val (.long q3), .second, .val (.int p4), .val (.long (v0_9 q0 q1 q2 q3 p4)), .second, .val (.long (j0_30_l11 q0 q1 q2 q3 p4)), .second, .val (.int (v0_25 q0 q1 q2 q3 p4)), .val (.long (j0_81_l14 q0 q1 q2 q3 p4)), .second, .val (.double (v0_106 q0 q1 q2 q3 p4)), .second, .val (.double (v0_125 q0 q1 q2 q3 p4)), .second, .unset, .unset, .unset, .unset, .unset, .unset, .unset, .unset, .unset, .unset, .unset] [(.double FP.dconst0)])) _
    refine XS.dload X7.here hx rfl (hb hby at_128) rfl ?_
    show Steps p.tables e below (T7.setTop (mkF m 130 #[.val (.long q0), .second, .val (.long q1), .second, .val (.long q2), .second, .val (.long q3), .second, .val (.int p4), .val (.long (v0_9 q0 q1 q2 q3 p4)), .second, .val (.long (j0_30_l11 q0 q1 q2 q3 p4)), .second, .val (.int (v0_25 q0 q1 q2 q3 p4)), .val (.long (j0_81_l14 q0 q1 q2 q3 p4)), .second, .val (.double (v0_106 q0 q1 q2 q3 p4)), .second, .val (.double (v0_125 q0 q1 q2 q3 p4)), .second, .unset, .unset, .unset, .unset, .unset, .unset, .unset, .unset, .unset, .unset, .unset] [(.double (v0_106 q0 q1 q2 q3 p4)), (.double FP.dconst0)])) _
    refine XS.dcmpS X7.here hx rfl (hb hby at_130) rfl rfl ?_
    show Steps p.tables e below (T7.setTop (mkF m 131 #[.val (.long q0), .second, .val (.long q1), .second, .val (.long q2), .second, .val (.long q3), .second, .val (.int p4), .val (.long (v0_9 q0 q1 q2 q3 p4)), .second, .val (.long (j0_30_l11 q0 q1 q2 q3 p4)), .second, .val (.int (v0_25 q0 q1 q2 q3 p4)), .val (.long (j0_81_l14 q0 q1 q2 q3 p4)), .second, .val (.double (v0_106 q0 q1 q2 q3 p4)), .second, .val (.double (v0_125 q0 q1 q2 q3 p4)), .second, .unset, .unset, .unset, .unset, .unset, .unset, .unset, .unset, .unset, .unset, .unset] [(.int (cmpValue (FP.dcmp FP.dconst0 (v0_106 q0 q1 q2 q3 p4)) .g))])) _
    suffices kt131 : Steps p.tables e below (T7.setTop (mkF m 160 #[.val (.long q0), .second, .val (.long q1), .second, .val (.long q2), .second, .val (.long q3), .second, .val (.int p4), .val (.long (v0_9 q0 q1 q2 q3 p4)), .second, .val (.long (j0_30_l11 q0 q1 q2 q3 p4)), .second, .val (.int (v0_25 q0 q1 q2 q3 p4)), .val (.long (j0_81_l14 q0 q1 q2 q3 p4)), .second, .val (.double (v0_106 q0 q1 q2 q3 p4)), .second, .val (.double (v0_125 q0 q1 q2 q3 p4)), .second, .unset, .unset, .unset, .unset, .unset, .unset, .unset, .unset, .unset, .unset, .unset] [(.int (j0_131_s0 q0 q1 q2 q3 p4))])) (T14.setFrames fs) by
      by_cases hc131 : ifCond.holds .gt (cmpValue (FP.dcmp FP.dconst0 (v0_106 q0 q1 q2 q3 p4)) .g) = true
      · rw [show (j0_131_s0 q0 q1 q2 q3 p4) = (0 : Int32) from if_pos hc131] at kt131
        refine XS.ifYes X7.here hx rfl (pc0 := 131) (pc' := 159) rfl (hb hby at_131) rfl hc131 (by decide) (by decide) ?_
        show Steps p.tables e below (T7.setTop (mkF m 159 #[.val (.long q0), .second, .val (.long q1), .second, .val (.long q2), .second, .val (.long q3), .second, .val (.int p4), .val (.long (v0_9 q0 q1 q2 q3 p4)), .second, .val (.long (j0_30_l11 q0 q1 q2 q3 p4)), .second, .val (.int (v0_25 q0 q1 q2 q3 p4)), .val (.long (j0_81_l14 q0 q1 q2 q3 p4)), .second, .val (.double (v0_106 q0 q1 q2 q3 p4)), .second, .val (.double (v0_125 q0 q1 q2 q3 p4)), .second, .unset, .unset, .unset, .unset, .unset, .unset, .unset, .unset, .unset, .unset, .unset] [])) _
        refine XS.iconst X7.here hx rfl (hb hby at_159) ?_
        exact kt131
      · rw [show (j0_131_s0 q0 q1 q2 q3 p4) = (j0_138_s0 q0 q1 q2 q3 p4) from if_neg hc131] at kt131
        refine XS.ifNo X7.here hx rfl (hb hby at_131) rfl (eq_false_of_ne_true hc131) ?_
        show Steps p.tables e below (T7.setTop (mkF m 134 #[.val (.long q0), .second, .val (.long q1), .second, .val (.long q2), .second, .val (.long q3), .second, .val (.int p4), .val (.long (v0_9 q0 q1 q2 q3 p4)), .second, .val (.long (j0_30_l11 q0 q1 q2 q3 p4)), .second, .val (.int (v0_25 q0 q1 q2 q3 p4)), .val (.long (j0_81_l14 q0 q1 q2 q3 p4)), .second, .val (.double (v0_106 q0 q1 q2 q3 p4)), .second, .val (.double (v0_125 q0 q1 q2 q3 p4)), .second, .unset, .unset, .unset, .unset, .unset, .unset, .unset, .unset, .unset, .unset, .unset] [])) _
        refine XS.dload X7.here hx rfl (hb hby at_134) rfl ?_
        show Steps p.tables e below (T7.setTop (mkF m 136 #[.val (.long q0), .second, .val (.long q1), .second, .val (.long q2), .second, .val (.long q3), .second, .val (.int p4), .val (.long (v0_9 q0 q1 q2 q3 p4)), .second, .val (.long (j0_30_l11 q0 q1 q2 q3 p4)), .second, .val (.int (v0_25 q0 q1 q2 q3 p4)), .val (.long (j0_81_l14 q0 q1 q2 q3 p4)), .second, .val (.double (v0_106 q0 q1 q2 q3 p4)), .second, .val (.double (v0_125 q0 q1 q2 q3 p4)), .second, .unset, .unset, .unset, .unset, .unset, .unset, .unset, .unset, .unset, .unset, .unset] [(.double (v0_106 q0 q1 q2 q3 p4))])) _
        refine XS.dconst1 X7.here hx rfl (hb hby at_136) rfl ?_
        show Steps p.tables e below (T7.setTop (mkF m 137 #[.val (.long q0), .second, .val (.long q1), .second, .val (.long q2), .second, .val (.long q3), .second, .val (.int p4), .val (.long (v0_9 q0 q1 q2 q3 p4)), .second, .val (.long (j0_30_l11 q0 q1 q2 q3 p4)), .second, .val (.int (v0_25 q0 q1 q2 q3 p4)), .val (.long (j0_81_l14 q0 q1 q2 q3 p4)), .second, .val (.double (v0_106 q0 q1 q2 q3 p4)), .second, .val (.double (v0_125 q0 q1 q2 q3 p4)), .second, .unset, .unset, .unset, .unset, .unset, .unset, .unset, .unset, .unset, .unset, .unset] [(.double FP.dconst1), (.double (v0_106 q0 q1 q2 q3 p4))])) _
        refine XS.dcmpS X7.here hx rfl (hb hby at_137) rfl rfl ?_
        show Steps p.tables e below (T7.setTop (mkF m 138 #[.val (.long q0), .second, .val (.long q1), .second, .val (.long q2), .second, .val (.long q3), .second, .val (.int p4), .val (.long (v0_9 q0 q1 q2 q3 p4)), .second, .val (.long (j0_30_l11 q0 q1 q2 q3 p4)), .second, .val (.int (v0_25 q0 q1 q2 q3 p4)), .val (.long (j0_81_l14 q0 q1 q2 q3 p4)), .second, .val (.double (v0_106 q0 q1 q2 q3 p4)), .second, .val (.double (v0_125 q0 q1 q2 q3 p4)), .second, .unset, .unset, .unset, .unset, .unset, .unset, .unset, .unset, .unset, .unset, .unset] [(.int (cmpValue (FP.dcmp (v0_106 q0 q1 q2 q3 p4) FP.dconst1) .g))])) _
        suffices kt138 : Steps p.tables e below (T7.setTop (mkF m 160 #[.val (.long q0), .second, .val (.long q1), .second, .val (.long q2), .second, .val (.long q3), .second, .val (.int p4), .val (.long (v0_9 q0 q1 q2 q3 p4)), .second, .val (.long (j0_30_l11 q0 q1 q2 q3 p4)), .second, .val (.int (v0_25 q0 q1 q2 q3 p4)), .val (.long (j0_81_l14 q0 q1 q2 q3 p4)), .second, .val (.double (v0_106 q0 q1 q2 q3 p4)), .second, .val (.double (v0_125 q0 q1 q2 q3 p4)), .second, .unset, .unset, .unset, .unset, .unset, .unset, .unset, .unset, .unset, .unset, .unset] [(.int (j0_138_s0 q0 q1 q2 q3 p4))])) (T14.setFrames fs) by
          by_cases hc138 : ifCond.holds .gt (cmpValue (FP.dcmp (v0_106 q0 q1 q2 q3 p4) FP.dconst1) .g) = true
          · rw [show (j0_138_s0 q0 q1 q2 q3 p4) = (0 : Int32) from if_pos hc138] at kt138
            refine XS.ifYes X7.here hx rfl (pc0 := 138) (pc' := 159) rfl (hb hby at_138) rfl hc138 (by decide) (by decide) ?_
            show Steps p.tables e below (T7.setTop (mkF m 159 #[.val (.long q0), .second, .val (.long q1), .second, .val (.long q2), .second, .val (.long q3), .second, .val (.int p4), .val (.long (v0_9 q0 q1 q2 q3 p4)), .second, .val (.long (j0_30_l11 q0 q1 q2 q3 p4)), .second, .val (.int (v0_25 q0 q1 q2 q3 p4)), .val (.long (j0_81_l14 q0 q1 q2 q3 p4)), .second, .val (.double (v0_106 q0 q1 q2 q3 p4)), .second, .val (.double (v0_125 q0 q1 q2 q3 p4)), .second, .unset, .unset, .unset, .unset, .unset, .unset, .unset, .unset, .unset, .unset, .unset] [])) _
            refine XS.iconst X7.here hx rfl (hb hby at_159) ?_
            exact kt138
          · rw [show (j0_138_s0 q0 q1 q2 q3 p4) = (j0_145_s0 q0 q1 q2 q3 p4) from if_neg hc138] at kt138
            refine XS.ifNo X7.here hx rfl (hb hby at_138) rfl (eq_false_of_ne_true hc138) ?_
            show Steps p.tables e below (T7.setTop (mkF m 141 #[.val (.long q0), .second, .val (.long q1), .second, .val (.long q2), .second, .val (.long q3), .second, .val (.int p4), .val (.long (v0_9 q0 q1 q2 q3 p4)), .second, .val (.long (j0_30_l11 q0 q1 q2 q3 p4)), .second, .val (.int (v0_25 q0 q1 q2 q3 p4)), .val (.long (j0_81_l14 q0 q1 q2 q3 p4)), .second, .val (.double (v0_106 q0 q1 q2 q3 p4)), .second, .val (.double (v0_125 q0 q1 q2 q3 p4)), .second, .unset, .unset, .unset, .unset, .unset, .unset, .unset, .unset, .unset, .unset, .unset] [])) _
            refine XS.dconst0 X7.here hx rfl (hb hby at_141) rfl ?_
            show Steps p.tables e below (T7.setTop (mkF m 142 #[.val (.long q0), .second, .val (.long q1), .second, .val (.long q2), .second, .val (.long q3), .second, .val (.int p4), .val (.long (v0_9 q0 q1 q2 q3 p4)), .second, .val (.long (j0_30_l11 q0 q1 q2 q3 p4)), .second, .val (.int (v0_25 q0 q1 q2 q3 p4)), .val (.long (j0_81_l14 q0 q1 q2 q3 p4)), .second, .val (.double (v0_106 q0 q1 q2 q3 p4)), .second, .val (.double (v0_125 q0 q1 q2 q3 p4)), .second, .unset, .unset, .unset, .unset, .unset, .unset, .unset, .unset, .unset, .unset, .unset] [(.double FP.dconst0)])) _
            refine XS.dload X7.here hx rfl (hb hby at_142) rfl ?_
            show Steps p.tables e below (T7.setTop (mkF m 144 #[.val (.long q0), .second, .val (.long q1), .second, .val (.long q2), .second, .val (.long q3), .second, .val (.int p4), .val (.long (v0_9 q0 q1 q2 q3 p4)), .second, .val (.long (j0_30_l11 q0 q1 q2 q3 p4)), .second, .val (.int (v0_25 q0 q1 q2 q3 p4)), .val (.long (j0_81_l14 q0 q1 q2 q3 p4)), .second, .val (.double (v0_106 q0 q1 q2 q3 p4)), .second, .val (.double (v0_125 q0 q1 q2 q3 p4)), .second, .unset, .unset, .unset, .unset, .unset, .unset, .unset, .unset, .unset, .unset, .unset] [(.double (v0_125 q0 q1 q2 q3 p4)), (.double FP.dconst0)])) _
            refine XS.dcmpS X7.here hx rfl (hb hby at_144) rfl rfl ?_
            show Steps p.tables e below (T7.setTop (mkF m 145 #[.val (.long q0), .second, .val (.long q1), .second, .val (.long q2), .second, .val (.long q3), .second, .val (.int p4), .val (.long (v0_9 q0 q1 q2 q3 p4)), .second, .val (.long (j0_30_l11 q0 q1 q2 q3 p4)), .second, .val (.int (v0_25 q0 q1 q2 q3 p4)), .val (.long (j0_81_l14 q0 q1 q2 q3 p4)), .second, .val (.double (v0_106 q0 q1 q2 q3 p4)), .second, .val (.double (v0_125 q0 q1 q2 q3 p4)), .second, .unset, .unset, .unset, .unset, .unset, .unset, .unset, .unset, .unset, .unset, .unset] [(.int (cmpValue (FP.dcmp FP.dconst0 (v0_125 q0 q1 q2 q3 p4)) .g))])) _
            suffices kt145 : Steps p.tables e below (T7.setTop (mkF m 160 #[.val (.long q0), .second, .val (.long q1), .second, .val (.long q2), .second, .val (.long q3), .second, .val (.int p4), .val (.long (v0_9 q0 q1 q2 q3 p4)), .second, .val (.long (j0_30_l11 q0 q1 q2 q3 p4)), .second, .val (.int (v0_25 q0 q1 q2 q3 p4)), .val (.long (j0_81_l14 q0 q1 q2 q3 p4)), .second, .val (.double (v0_106 q0 q1 q2 q3 p4)), .second, .val (.double (v0_125 q0 q1 q2 q3 p4)), .second, .unset, .unset, .unset, .unset, .unset, .unset, .unset, .unset, .unset, .unset, .unset] [(.int (j0_145_s0 q0 q1 q2 q3 p4))])) (T14.setFrames fs) by
              by_cases hc145 : ifCond.holds .gt (cmpValue (FP.dcmp FP.dconst0 (v0_125 q0 q1 q2 q3 p4)) .g) = true
              · rw [show (j0_145_s0 q0 q1 q2 q3 p4) = (0 : Int32) from if_pos hc145] at kt145
                refine XS.ifYes X7.here hx rfl (pc0 := 145) (pc' := 159) rfl (hb hby at_145) rfl hc145 (by decide) (by decide) ?_
                show Steps p.tables e below (T7.setTop (mkF m 159 #[.val (.long q0), .second, .val (.long q1), .second, .val (.long q2), .second, .val (.long q3), .second, .val (.int p4), .val (.long (v0_9 q0 q1 q2 q3 p4)), .second, .val (.long (j0_30_l11 q0 q1 q2 q3 p4)), .second, .val (.int (v0_25 q0 q1 q2 q3 p4)), .val (.long (j0_81_l14 q0 q1 q2 q3 p4)), .second, .val (.double (v0_106 q0 q1 q2 q3 p4)), .second, .val (.double (v0_125 q0 q1 q2 q3 p4)), .second, .unset, .unset, .unset, .unset, .unset, .unset, .unset, .unset, .unset, .unset, .unset] [])) _
                refine XS.iconst X7.here hx rfl (hb hby at_159) ?_
                exact kt145
              · rw [show (j0_145_s0 q0 q1 q2 q3 p4) = (j0_152_s0 q0 q1 q2 q3 p4) from if_neg hc145] at kt145
                refine XS.ifNo X7.here hx rfl (hb hby at_145) rfl (eq_false_of_ne_true hc145) ?_
                show Steps p.tables e below (T7.setTop (mkF m 148 #[.val (.long q0), .second, .val (.long q1), .second, .val (.long q2), .second, .val (.long q3), .second, .val (.int p4), .val (.long (v0_9 q0 q1 q2 q3 p4)), .second, .val (.long (j0_30_l11 q0 q1 q2 q3 p4)), .second, .val (.int (v0_25 q0 q1 q2 q3 p4)), .val (.long (j0_81_l14 q0 q1 q2 q3 p4)), .second, .val (.double (v0_106 q0 q1 q2 q3 p4)), .second, .val (.double (v0_125 q0 q1 q2 q3 p4)), .second, .unset, .unset, .unset, .unset, .unset, .unset, .unset, .unset, .unset, .unset, .unset] [])) _
                refine XS.dload X7.here hx rfl (hb hby at_148) rfl ?_
                show Steps p.tables e below (T7.setTop (mkF m 150 #[.val (.long q0), .second, .val (.long q1), .second, .val (.long q2), .second, .val (.long q3), .second, .val (.int p4), .val (.long (v0_9 q0 q1 q2 q3 p4)), .second, .val (.long (j0_30_l11 q0 q1 q2 q3 p4)), .second, .val (.int (v0_25 q0 q1 q2 q3 p4)), .val (.long (j0_81_l14 q0 q1 q2 q3 p4)), .second, .val (.double (v0_106 q0 q1 q2 q3 p4)), .second, .val (.double (v0_125 q0 q1 q2 q3 p4)), .second, .unset, .unset, .unset, .unset, .unset, .unset, .unset, .unset, .unset, .unset, .unset] [(.double (v0_125 q0 q1 q2 q3 p4))])) _
                refine XS.dconst1 X7.here hx rfl (hb hby at_150) rfl ?_
                show Steps p.tables e below (T7.setTop (mkF m 151 #[.val (.long q0), .second, .val (.long q1), .second, .val (.long q2), .second, .val (.long q3), .second, .val (.int p4), .val (.long (v0_9 q0 q1 q2 q3 p4)), .second, .val (.long (j0_30_l11 q0 q1 q2 q3 p4)), .second, .val (.int (v0_25 q0 q1 q2 q3 p4)), .val (.long (j0_81_l14 q0 q1 q2 q3 p4)), .second, .val (.double (v0_106 q0 q1 q2 q3 p4)), .second, .val (.double (v0_125 q0 q1 q2 q3 p4)), .second, .unset, .unset, .unset, .unset, .unset, .unset, .unset, .unset, .unset, .unset, .unset] [(.double FP.dconst1), (.double (v0_125 q0 q1 q2 q3 p4))])) _
                refine XS.dcmpS X7.here hx rfl (hb hby at_151) rfl rfl ?_
                show Steps p.tables e below (T7.setTop (mkF m 152 #[.val (.long q0), .second, .val (.long q1), .second, .val (.long q2), .second, .val (.long q3), .second, .val (.int p4), .val (.long (v0_9 q0 q1 q2 q3 p4)), .second, .val (.long (j0_30_l11 q0 q1 q2 q3 p4)), .second, .val (.int (v0_25 q0 q1 q2 q3 p4)), .val (.long (j0_81_l14 q0 q1 q2 q3 p4)), .second, .val (.double (v0_106 q0 q1 q2 q3 p4)), .second, .val (.double (v0_125 q0 q1 q2 q3 p4)), .second, .unset, .unset, .unset, .unset, .unset, .unset, .unset, .unset, .unset, .unset, .unset] [(.int (cmpValue (FP.dcmp (v0_125 q0 q1 q2 q3 p4) FP.dconst1) .g))])) _
                suffices kt152 : Steps p.tables e below (T7.setTop (mkF m 160 #[.val (.long q0), .second, .val (.long q1), .second, .val (.long q2), .second, .val (.long q3), .second, .val (.int p4), .val (.long (v0_9 q0 q1 q2 q3 p4)), .second, .val (.long (j0_30_l11 q0 q1 q2 q3 p4)), .second, .val (.int (v0_25 q0 q1 q2 q3 p4)), .val (.long (j0_81_l14 q0 q1 q2 q3 p4)), .second, .val (.double (v0_106 q0 q1 q2 q3 p4)), .second, .val (.double (v0_125 q0 q1 q2 q3 p4)), .second, .unset, .unset, .unset, .unset, .unset, .unset, .unset, .unset, .unset, .unset, .unset] [(.int (j0_152_s0 q0 q1 q2 q3 p4))])) (T14.setFrames fs) by
                  by_cases hc152 : ifCond.holds .gt (cmpValue (FP.dcmp (v0_125 q0 q1 q2 q3 p4) FP.dconst1) .g) = true
                  · rw [show (j0_152_s0 q0 q1 q2 q3 p4) = (0 : Int32) from if_pos hc152] at kt152
                    refine XS.ifYes X7.here hx rfl (pc0 := 152) (pc' := 159) rfl (hb hby at_152) rfl hc152 (by decide) (by decide) ?_
                    show Steps p.tables e below (T7.setTop (mkF m 159 #[.val (.long q0), .second, .val (.long q1), .second, .val (.long q2), .second, .val (.long q3), .second, .val (.int p4), .val (.long (v0_9 q0 q1 q2 q3 p4)), .second, .val (.long (j0_30_l11 q0 q1 q2 q3 p4)), .second, .val (.int (v0_25 q0 q1 q2 q3 p4)), .val (.long (j0_81_l14 q0 q1 q2 q3 p4)), .second, .val (.double (v0_106 q0 q1 q2 q3 p4)), .second, .val (.double (v0_125 q0 q1 q2 q3 p4)), .second, .unset, .unset, .unset, .unset, .unset, .unset, .unset, .unset, .unset, .unset, .unset] [])) _
                    refine XS.iconst X7.here hx rfl (hb hby at_159) ?_
                    exact kt152
                  · rw [show (j0_152_s0 q0 q1 q2 q3 p4) = (1 : Int32) from if_neg hc152] at kt152
                    refine XS.ifNo X7.here hx rfl (hb hby at_152) rfl (eq_false_of_ne_true hc152) ?_
                    show Steps p.tables e below (T7.setTop (mkF m 155 #[.val (.long q0), .second, .val (.long q1), .second, .val (.long q2), .second, .val (.long q3), .second, .val (.int p4), .val (.long (v0_9 q0 q1 q2 q3 p4)), .second, .val (.long (j0_30_l11 q0 q1 q2 q3 p4)), .second, .val (.int (v0_25 q0 q1 q2 q3 p4)), .val (.long (j0_81_l14 q0 q1 q2 q3 p4)), .second, .val (.double (v0_106 q0 q1 q2 q3 p4)), .second, .val (.double (v0_125 q0 q1 q2 q3 p4)), .second, .unset, .unset, .unset, .unset, .unset, .unset, .unset, .unset, .unset, .unset, .unset] [])) _
                    refine XS.iconst X7.here hx rfl (hb hby at_155) ?_
                    show Steps p.tables e below (T7.setTop (mkF m 156 #[.val (.long q0), .second, .val (.long q1), .second, .val (.long q2), .second, .val (.long q3), .second, .val (.int p4), .val (.long (v0_9 q0 q1 q2 q3 p4)), .second, .val (.long (j0_30_l11 q0 q1 q2 q3 p4)), .second, .val (.int (v0_25 q0 q1 q2 q3 p4)), .val (.long (j0_81_l14 q0 q1 q2 q3 p4)), .second, .val (.double (v0_106 q0 q1 q2 q3 p4)), .second, .val (.double (v0_125 q0 q1 q2 q3 p4)), .second, .unset, .unset, .unset, .unset, .unset, .unset, .unset, .unset, .unset, .unset, .unset] [(.int (1 : Int32))])) _
                    refine XS.goto X7.here hx rfl (pc0 := 156) (pc' := 160) rfl (hb hby at_156) (by decide) (by decide) ?_
                    exact kt152
                exact kt145
            exact kt138
        exact kt131
    show Steps p.tables e below (T7.setTop (mkF m 160 #[.val (.long q0), .second, .val (.long q1), .second, .val (.long q2), .second, .val (.long q3), .second, .val (.int p4), .val (.long (v0_9 q0 q1 q2 q3 p4)), .second, .val (.long (j0_30_l11 q0 q1 q2 q3 p4)), .second, .val (.int (v0_25 q0 q1 q2 q3 p4)), .val (.long (j0_81_l14 q0 q1 q2 q3 p4)), .second, .val (.double (v0_106 q0 q1 q2 q3 p4)), .second, .val (.double (v0_125 q0 q1 q2 q3 p4)), .second, .unset, .unset, .unset, .unset, .unset, .unset, .unset, .unset, .unset, .unset, .unset] [(.int (j0_131_s0 q0 q1 q2 q3 p4))])) _
    refine XS.istore X7.here hx rfl (hb hby at_160) rfl (l' := #[.val (.long q0), .second, .val (.long q1), .second, .val (.long q2), .second, .val (.long q3), .second, .val (.int p4), .val (.long (v0_9 q0 q1 q2 q3 p4)), .second, .val (.long (j0_30_l11 q0 q1 q2 q3 p4)), .second, .val (.int (v0_25 q0 q1 q2 q3 p4)), .val (.long (j0_81_l14 q0 q1 q2 q3 p4)), .second, .val (.double (v0_106 q0 q1 q2 q3 p4)), .second, .val (.double (v0_125 q0 q1 q2 q3 p4)), .second, .val (.int (j0_131_s0 q0 q1 q2 q3 p4)), .unset, .unset, .unset, .unset, .unset, .unset, .unset, .unset, .unset, .unset]) rfl ?_
    show Steps p.tables e below (T7.setTop (mkF m 162 #[.val (.long q0), .second, .val (.long q1), .second, .val (.long q2), .second, .val (.long q3), .second, .val (.int p4), .val (.long (v0_9 q0 q1 q2 q3 p4)), .second, .val (.long (j0_30_l11 q0 q1 q2 q3 p4)), .second, .val (.int (v0_25 q0 q1 q2 q3 p4)), .val (.long (j0_81_l14 q0 q1 q2 q3 p4)), .second, .val (.double (v0_106 q0 q1 q2 q3 p4)), .second, .val (.double (v0_125 q0 q1 q2 q3 p4)), .second, .val (.int (j0_131_s0 q0 q1 q2 q3 p4)), .unset, .unset, .unset, .unset, .unset, .unset, .unset, .unset, .unset, .unset] [])) _
    refine XS.lload X7.here hx rfl (hb hby at_162) rfl ?_
    show Steps p.tables e below (T7.setTop (mkF m 164 #[.val (.long q0), .second, .val (.long q1), .second, .val (.long q2), .second, .val (.long q3), .second, .val (.int p4), .val (.long (v0_9 q0 q1 q2 q3 p4)), .second, .val (.long (j0_30_l11 q0 q1 q2 q3 p4)), .second, .val (.int (v0_25 q0 q1 q2 q3 p4)), .val (.long (j0_81_l14 q0 q1 q2 q3 p4)), .second, .val (.double (v0_106 q0 q1 q2 q3 p4)), .second, .val (.double (v0_125 q0 q1 q2 q3 p4)), .second, .val (.int (j0_131_s0 q0 q1 q2 q3 p4)), .unset, .unset, .unset, .unset, .unset, .unset, .unset, .unset, .unset, .unset] [(.long (j0_30_l11 q0 q1 q2 q3 p4))])) _
    refine XS.lconst X7.here hx rfl (hb hby at_164) ?_
    show Steps p.tables e below (T7.setTop (mkF m 165 #[.val (.long q0), .second, .val (.long q1), .second, .val (.long q2), .second, .val (.long q3), .second, .val (.int p4), .val (.long (v0_9 q0 q1 q2 q3 p4)), .second, .val (.long (j0_30_l11 q0 q1 q2 q3 p4)), .second, .val (.int (v0_25 q0 q1 q2 q3 p4)), .val (.long (j0_81_l14 q0 q1 q2 q3 p4)), .second, .val (.double (v0_106 q0 q1 q2 q3 p4)), .second, .val (.double (v0_125 q0 q1 q2 q3 p4)), .second, .val (.int (j0_131_s0 q0 q1 q2 q3 p4)), .unset, .unset, .unset, .unset, .unset, .unset, .unset, .unset, .unset, .unset] [(.long (0 : Int64)), (.long (j0_30_l11 q0 q1 q2 q3 p4))])) _
    refine XS.lcmp X7.here hx rfl (hb hby at_165) rfl ?_
    show Steps p.tables e below (T7.setTop (mkF m 166 #[.val (.long q0), .second, .val (.long q1), .second, .val (.long q2), .second, .val (.long q3), .second, .val (.int p4), .val (.long (v0_9 q0 q1 q2 q3 p4)), .second, .val (.long (j0_30_l11 q0 q1 q2 q3 p4)), .second, .val (.int (v0_25 q0 q1 q2 q3 p4)), .val (.long (j0_81_l14 q0 q1 q2 q3 p4)), .second, .val (.double (v0_106 q0 q1 q2 q3 p4)), .second, .val (.double (v0_125 q0 q1 q2 q3 p4)), .second, .val (.int (j0_131_s0 q0 q1 q2 q3 p4)), .unset, .unset, .unset, .unset, .unset, .unset, .unset, .unset, .unset, .unset] [(.int (lcmpW (j0_30_l11 q0 q1 q2 q3 p4) (0 : Int64)))])) _
    suffices kt166 : Steps p.tables e below (T7.setTop (mkF m 188 #[.val (.long q0), .second, .val (.long q1), .second, .val (.long q2), .second, .val (.long q3), .second, .val (.int p4), .val (.long (v0_9 q0 q1 q2 q3 p4)), .second, .val (.long (j0_30_l11 q0 q1 q2 q3 p4)), .second, .val (.int (v0_25 q0 q1 q2 q3 p4)), .val (.long (j0_81_l14 q0 q1 q2 q3 p4)), .second, .val (.double (v0_106 q0 q1 q2 q3 p4)), .second, .val (.double (v0_125 q0 q1 q2 q3 p4)), .second, .val (.int (j0_166_l20 q0 q1 q2 q3 p4)), .unset, .unset, .unset, .unset, .unset, .unset, .unset, .unset, .unset, .unset] [])) (T14.setFrames fs) by
      by_cases hc166 : ifCond.holds .ne (lcmpW (j0_30_l11 q0 q1 q2 q3 p4) (0 : Int64)) = true
      · rw [show (j0_166_l20 q0 q1 q2 q3 p4) = (j0_131_s0 q0 q1 q2 q3 p4) from if_pos hc166] at kt166
        refine XS.ifYes X7.here hx rfl (pc0 := 166) (pc' := 188) rfl (hb hby at_166) rfl hc166 (by decide) (by decide) ?_
        exact kt166
      · rw [show (j0_166_l20 q0 q1 q2 q3 p4) = (j0_171_s0 q0 q1 q2 q3 p4) from if_neg hc166] at kt166
        refine XS.ifNo X7.here hx rfl (hb hby at_166) rfl (eq_false_of_ne_true hc166) ?_
        show Steps p.tables e below (T7.setTop (mkF m 169 #[.val (.long q0), .second, .val (.long q1), .second, .val (.long q2), .second, .val (.long q3), .second, .val (.int p4), .val (.long (v0_9 q0 q1 q2 q3 p4)), .second, .val (.long (j0_30_l11 q0 q1 q2 q3 p4)), .second, .val (.int (v0_25 q0 q1 q2 q3 p4)), .val (.long (j0_81_l14 q0 q1 q2 q3 p4)), .second, .val (.double (v0_106 q0 q1 q2 q3 p4)), .second, .val (.double (v0_125 q0 q1 q2 q3 p4)), .second, .val (.int (j0_131_s0 q0 q1 q2 q3 p4)), .unset, .unset, .unset, .unset, .unset, .unset, .unset, .unset, .unset, .unset] [])) _
        refine XS.iload X7.here hx rfl (hb hby at_169) rfl ?_
        show Steps p.tables e below (T7.setTop (mkF m 171 #[.val (.long q0), .second, .val (.long q1), .second, .val (.long q2), .second, .val (.long q3), .second, .val (.int p4), .val (.long (v0_9 q0 q1 q2 q3 p4)), .second, .val (.long (j0_30_l11 q0 q1 q2 q3 p4)), .second, .val (.int (v0_25 q0 q1 q2 q3 p4)), .val (.long (j0_81_l14 q0 q1 q2 q3 p4)), .second, .val (.double (v0_106 q0 q1 q2 q3 p4)), .second, .val (.double (v0_125 q0 q1 q2 q3 p4)), .second, .val (.int (j0_131_s0 q0 q1 q2 q3 p4)), .unset, .unset, .unset, .unset, .unset, .unset, .unset, .unset, .unset, .unset] [(.int (j0_131_s0 q0 q1 q2 q3 p4))])) _
        suffices kt171 : Steps p.tables e below (T7.setTop (mkF m 186 #[.val (.long q0), .second, .val (.long q1), .second, .val (.long q2), .second, .val (.long q3), .second, .val (.int p4), .val (.long (v0_9 q0 q1 q2 q3 p4)), .second, .val (.long (j0_30_l11 q0 q1 q2 q3 p4)), .second, .val (.int (v0_25 q0 q1 q2 q3 p4)), .val (.long (j0_81_l14 q0 q1 q2 q3 p4)), .second, .val (.double (v0_106 q0 q1 q2 q3 p4)), .second, .val (.double (v0_125 q0 q1 q2 q3 p4)), .second, .val (.int (j0_131_s0 q0 q1 q2 q3 p4)), .unset, .unset, .unset, .unset, .unset, .unset, .unset, .unset, .unset, .unset] [(.int (j0_171_s0 q0 q1 q2 q3 p4))])) (T14.setFrames fs) by
          by_cases hc171 : ifCond.holds .eq (j0_131_s0 q0 q1 q2 q3 p4) = true
          · rw [show (j0_171_s0 q0 q1 q2 q3 p4) = (0 : Int32) from if_pos hc171] at kt171
            refine XS.ifYes X7.here hx rfl (pc0 := 171) (pc' := 185) rfl (hb hby at_171) rfl hc171 (by decide) (by decide) ?_
            show Steps p.tables e below (T7.setTop (mkF m 185 #[.val (.long q0), .second, .val (.long q1), .second, .val (.long q2), .second, .val (.long q3), .second, .val (.int p4), .val (.long (v0_9 q0 q1 q2 q3 p4)), .second, .val (.long (j0_30_l11 q0 q1 q2 q3 p4)), .second, .val (.int (v0_25 q0 q1 q2 q3 p4)), .val (.long (j0_81_l14 q0 q1 q2 q3 p4)), .second, .val (.double (v0_106 q0 q1 q2 q3 p4)), .second, .val (.double (v0_125 q0 q1 q2 q3 p4)), .second, .val (.int (j0_131_s0 q0 q1 q2 q3 p4)), .unset, .unset, .unset, .unset, .unset, .unset, .unset, .unset, .unset, .unset] [])) _
            refine XS.iconst X7.here hx rfl (hb hby at_185) ?_
            exact kt171
          · rw [show (j0_171_s0 q0 q1 q2 q3 p4) = (j0_178_s0 q0 q1 q2 q3 p4) from if_neg hc171] at kt171
            refine XS.ifNo X7.here hx rfl (hb hby at_171) rfl (eq_false_of_ne_true hc171) ?_
            show Steps p.tables e below (T7.setTop (mkF m 174 #[.val (.long q0), .second, .val (.long q1), .second, .val (.long q2), .second, .val (.long q3), .second, .val (.int p4), .val (.long (v0_9 q0 q1 q2 q3 p4)), .second, .val (.long (j0_30_l11 q0 q1 q2 q3 p4)), .second, .val (.int (v0_25 q0 q1 q2 q3 p4)), .val (.long (j0_81_l14 q0 q1 q2 q3 p4)), .second, .val (.double (v0_106 q0 q1 q2 q3 p4)), .second, .val (.double (v0_125 q0 q1 q2 q3 p4)), .second, .val (.int (j0_131_s0 q0 q1 q2 q3 p4)), .unset, .unset, .unset, .unset, .unset, .unset, .unset, .unset, .unset, .unset] [])) _
            refine XS.dload X7.here hx rfl (hb hby at_174) rfl ?_
            show Steps p.tables e below (T7.setTop (mkF m 176 #[.val (.long q0), .second, .val (.long q1), .second, .val (.long q2), .second, .val (.long q3), .second, .val (.int p4), .val (.long (v0_9 q0 q1 q2 q3 p4)), .second, .val (.long (j0_30_l11 q0 q1 q2 q3 p4)), .second, .val (.int (v0_25 q0 q1 q2 q3 p4)), .val (.long (j0_81_l14 q0 q1 q2 q3 p4)), .second, .val (.double (v0_106 q0 q1 q2 q3 p4)), .second, .val (.double (v0_125 q0 q1 q2 q3 p4)), .second, .val (.int (j0_131_s0 q0 q1 q2 q3 p4)), .unset, .unset, .unset, .unset, .unset, .unset, .unset, .unset, .unset, .unset] [(.double (v0_106 q0 q1 q2 q3 p4))])) _
            refine XS.dconst0 X7.here hx rfl (hb hby at_176) rfl ?_
            show Steps p.tables e below (T7.setTop (mkF m 177 #[.val (.long q0), .second, .val (.long q1), .second, .val (.long q2), .second, .val (.long q3), .second, .val (.int p4), .val (.long (v0_9 q0 q1 q2 q3 p4)), .second, .val (.long (j0_30_l11 q0 q1 q2 q3 p4)), .second, .val (.int (v0_25 q0 q1 q2 q3 p4)), .val (.long (j0_81_l14 q0 q1 q2 q3 p4)), .second, .val (.double (v0_106 q0 q1 q2 q3 p4)), .second, .val (.double (v0_125 q0 q1 q2 q3 p4)), .second, .val (.int (j0_131_s0 q0 q1 q2 q3 p4)), .unset, .unset, .unset, .unset, .unset, .unset, .unset, .unset, .unset, .unset] [(.double FP.dconst0), (.double (v0_106 q0 q1 q2 q3 p4))])) _
            refine XS.dcmpS X7.here hx rfl (hb hby at_177) rfl rfl ?_
            show Steps p.tables e below (T7.setTop (mkF m 178 #[.val (.long q0), .second, .val (.long q1), .second, .val (.long q2), .second, .val (.long q3), .second, .val (.int p4), .val (.long (v0_9 q0 q1 q2 q3 p4)), .second, .val (.long (j0_30_l11 q0 q1 q2 q3 p4)), .second, .val (.int (v0_25 q0 q1 q2 q3 p4)), .val (.long (j0_81_l14 q0 q1 q2 q3 p4)), .second, .val (.double (v0_106 q0 q1 q2 q3 p4)), .second, .val (.double (v0_125 q0 q1 q2 q3 p4)), .second, .val (.int (j0_131_s0 q0 q1 q2 q3 p4)), .unset, .unset, .unset, .unset, .unset, .unset, .unset, .unset, .unset, .unset] [(.int (cmpValue (FP.dcmp (v0_106 q0 q1 q2 q3 p4) FP.dconst0) .l))])) _
            suffices kt178 : Steps p.tables e below (T7.setTop (mkF m 186 #[.val (.long q0), .second, .val (.long q1), .second, .val (.long q2), .second, .val (.long q3), .second, .val (.int p4), .val (.long (v0_9 q0 q1 q2 q3 p4)), .second, .val (.long (j0_30_l11 q0 q1 q2 q3 p4)), .second, .val (.int (v0_25 q0 q1 q2 q3 p4)), .val (.long (j0_81_l14 q0 q1 q2 q3 p4)), .second, .val (.double (v0_106 q0 q1 q2 q3 p4)), .second, .val (.double (v0_125 q0 q1 q2 q3 p4)), .second, .val (.int (j0_131_s0 q0 q1 q2 q3 p4)), .unset, .unset, .unset, .unset, .unset, .unset, .unset, .unset, .unset, .unset] [(.int (j0_178_s0 q0 q1 q2 q3 p4))])) (T14.setFrames fs) by
              by_cases hc178 : ifCond.holds .ne (cmpValue (FP.dcmp (v0_106 q0 q1 q2 q3 p4) FP.dconst0) .l) = true
              · rw [show (j0_178_s0 q0 q1 q2 q3 p4) = (0 : Int32) from if_pos hc178] at kt178
                refine XS.ifYes X7.here hx rfl (pc0 := 178) (pc' := 185) rfl (hb hby at_178) rfl hc178 (by decide) (by decide) ?_
                show Steps p.tables e below (T7.setTop (mkF m 185 #[.val (.long q0), .second, .val (.long q1), .second, .val (.long q2), .second, .val (.long q3), .second, .val (.int p4), .val (.long (v0_9 q0 q1 q2 q3 p4)), .second, .val (.long (j0_30_l11 q0 q1 q2 q3 p4)), .second, .val (.int (v0_25 q0 q1 q2 q3 p4)), .val (.long (j0_81_l14 q0 q1 q2 q3 p4)), .second, .val (.double (v0_106 q0 q1 q2 q3 p4)), .second, .val (.double (v0_125 q0 q1 q2 q3 p4)), .second, .val (.int (j0_131_s0 q0 q1 q2 q3 p4)), .unset, .unset, .unset, .unset, .unset, .unset, .unset, .unset, .unset, .unset] [])) _
                refine XS.iconst X7.here hx rfl (hb hby at_185) ?_
                exact kt178
              · rw [show (j0_178_s0 q0 q1 q2 q3 p4) = (1 : Int32) from if_neg hc178] at kt178
                refine XS.ifNo X7.here hx rfl (hb hby at_178) rfl (eq_false_of_ne_true hc178) ?_
                show Steps p.tables e below (T7.setTop (mkF m 181 #[.val (.long q0), .second, .val (.long q1), .second, .val (.long q2), .second, .val (.long q3), .second, .val (.int p4), .val (.long (v0_9 q0 q1 q2 q3 p4)), .second, .val (.long (j0_30_l11 q0 q1 q2 q3 p4)), .second, .val (.int (v0_25 q0 q1 q2 q3 p4)), .val (.long (j0_81_l14 q0 q1 q2 q3 p4)), .second, .val (.double (v0_106 q0 q1 q2 q3 p4)), .second, .val (.double (v0_125 q0 q1 q2 q3 p4)), .second, .val (.int (j0_131_s0 q0 q1 q2 q3 p4)), .unset, .unset, .unset, .unset, .unset, .unset, .unset, .unset, .unset, .unset] [])) _
                refine XS.iconst X7.here hx rfl (hb hby at_181) ?_
                show Steps p.tables e below (T7.setTop (mkF m 182 #[.val (.long q0), .second, .val (.long q1), .second, .val (.long q2), .second, .val (.long q3), .second, .val (.int p4), .val (.long (v0_9 q0 q1 q2 q3 p4)), .second, .val (.long (j0_30_l11 q0 q1 q2 q3 p4)), .second, .val (.int (v0_25 q0 q1 q2 q3 p4)), .val (.long (j0_81_l14 q0 q1 q2 q3 p4)), .second, .val (.double (v0_106 q0 q1 q2 q3 p4)), .second, .val (.double (v0_125 q0 q1 q2 q3 p4)), .second, .val (.int (j0_131_s0 q0 q1 q2 q3 p4)), .unset, .unset, .unset, .unset, .unset, .unset, .unset, .unset, .unset, .unset] [(.int (1 : Int32))])) _
                refine XS.goto X7.here hx rfl (pc0 := 182) (pc' := 186) rfl (hb hby at_182) (by decide) (by decide) ?_
                exact kt178
            exact kt171
        show Steps p.tables e below (T7.setTop (mkF m 186 #[.val (.long q0), .second, .val (.long q1), .second, .val (.long q2), .second, .val (.long q3), .second, .val (.int p4), .val (.long (v0_9 q0 q1 q2 q3 p4)), .second, .val (.long (j0_30_l11 q0 q1 q2 q3 p4)), .second, .val (.int (v0_25 q0 q1 q2 q3 p4)), .val (.long (j0_81_l14 q0 q1 q2 q3 p4)), .second, .val (.double (v0_106 q0 q1 q2 q3 p4)), .second, .val (.double (v0_125 q0 q1 q2 q3 p4)), .second, .val (.int (j0_131_s0 q0 q1 q2 q3 p4)), .unset, .unset, .unset, .unset, .unset, .unset, .unset, .unset, .unset, .unset] [(.int (j0_171_s0 q0 q1 q2 q3 p4))])) _
        refine XS.istore X7.here hx rfl (hb hby at_186) rfl (l' := #[.val (.long q0), .second, .val (.long q1), .second, .val (.long q2), .second, .val (.long q3), .second, .val (.int p4), .val (.long (v0_9 q0 q1 q2 q3 p4)), .second, .val (.long (j0_30_l11 q0 q1 q2 q3 p4)), .second, .val (.int (v0_25 q0 q1 q2 q3 p4)), .val (.long (j0_81_l14 q0 q1 q2 q3 p4)), .second, .val (.double (v0_106 q0 q1 q2 q3 p4)), .second, .val (.double (v0_125 q0 q1 q2 q3 p4)), .second, .val (.int (j0_171_s0 q0 q1 q2 q3 p4)), .unset, .unset, .unset, .unset, .unset, .unset, .unset, .unset, .unset, .unset]) rfl ?_
        exact kt166
    show Steps p.tables e below (T7.setTop (mkF m 188 #[.val (.long q0), .second, .val (.long q1), .second, .val (.long q2), .second, .val (.long q3), .second, .val (.int p4), .val (.long (v0_9 q0 q1 q2 q3 p4)), .second, .val (.long (j0_30_l11 q0 q1 q2 q3 p4)), .second, .val (.int (v0_25 q0 q1 q2 q3 p4)), .val (.long (j0_81_l14 q0 q1 q2 q3 p4)), .second, .val (.double (v0_106 q0 q1 q2 q3 p4)), .second, .val (.double (v0_125 q0 q1 q2 q3 p4)), .second, .val (.int (j0_166_l20 q0 q1 q2 q3 p4)), .unset, .unset, .unset, .unset, .unset, .unset, .unset, .unset, .unset, .unset] [])) _
    refine XS.lload X7.here hx rfl (hb hby at_188) rfl ?_
    show Steps p.tables e below (T7.setTop (mkF m 190 #[.val (.long q0), .second, .val (.long q1), .second, .val (.long q2), .second, .val (.long q3), .second, .val (.int p4), .val (.long (v0_9 q0 q1 q2 q3 p4)), .second, .val (.long (j0_30_l11 q0 q1 q2 q3 p4)), .second, .val (.int (v0_25 q0 q1 q2 q3 p4)), .val (.long (j0_81_l14 q0 q1 q2 q3 p4)), .second, .val (.double (v0_106 q0 q1 q2 q3 p4)), .second, .val (.double (v0_125 q0 q1 q2 q3 p4)), .second, .val (.int (j0_166_l20 q0 q1 q2 q3 p4)), .unset, .unset, .unset, .unset, .unset, .unset, .unset, .unset, .unset, .unset] [(.long (j0_30_l11 q0 q1 q2 q3 p4))])) _
    refine XS.lload X7.here hx rfl (hb hby at_190) rfl ?_
    show Steps p.tables e below (T7.setTop (mkF m 192 #[.val (.long q0), .second, .val (.long q1), .second, .val (.long q2), .second, .val (.long q3), .second, .val (.int p4), .val (.long (v0_9 q0 q1 q2 q3 p4)), .second, .val (.long (j0_30_l11 q0 q1 q2 q3 p4)), .second, .val (.int (v0_25 q0 q1 q2 q3 p4)), .val (.long (j0_81_l14 q0 q1 q2 q3 p4)), .second, .val (.double (v0_106 q0 q1 q2 q3 p4)), .second, .val (.double (v0_125 q0 q1 q2 q3 p4)), .second, .val (.int (j0_166_l20 q0 q1 q2 q3 p4)), .unset, .unset, .unset, .unset, .unset, .unset, .unset, .unset, .unset, .unset] [(.long (v0_9 q0 q1 q2 q3 p4)), (.long (j0_30_l11 q0 q1 q2 q3 p4))])) _
    refine XS.lcmp X7.here hx rfl (hb hby at_192) rfl ?_
    show Steps p.tables e below (T7.setTop (mkF m 193 #[.val (.long q0), .second, .val (.long q1), .second, .val (.long q2), .second, .val (.long q3), .second, .val (.int p4), .val (.long (v0_9 q0 q1 q2 q3 p4)), .second, .val (.long (j0_30_l11 q0 q1 q2 q3 p4)), .second, .val (.int (v0_25 q0 q1 q2 q3 p4)), .val (.long (j0_81_l14 q0 q1 q2 q3 p4)), .second, .val (.double (v0_106 q0 q1 q2 q3 p4)), .second, .val (.double (v0_125 q0 q1 q2 q3 p4)), .second, .val (.int (j0_166_l20 q0 q1 q2 q3 p4)), .unset, .unset, .unset, .unset, .unset, .unset, .unset, .unset, .unset, .unset] [(.int (lcmpW (j0_30_l11 q0 q1 q2 q3 p4) (v0_9 q0 q1 q2 q3 p4)))])) _
    suffices kt193 : Steps p.tables e below (T7.setTop (mkF m 215 #[.val (.long q0), .second, .val (.long q1), .second, .val (.long q2), .second, .val (.long q3), .second, .val (.int p4), .val (.long (v0_9 q0 q1 q2 q3 p4)), .second, .val (.long (j0_30_l11 q0 q1 q2 q3 p4)), .second, .val (.int (v0_25 q0 q1 q2 q3 p4)), .val (.long (j0_81_l14 q0 q1 q2 q3 p4)), .second, .val (.double (v0_106 q0 q1 q2 q3 p4)), .second, .val (.double (v0_125 q0 q1 q2 q3 p4)), .second, .val (.int (j0_193_l20 q0 q1 q2 q3 p4)), .unset, .unset, .unset, .unset, .unset, .unset, .unset, .unset, .unset, .unset] [])) (T14.setFrames fs) by
      by_cases hc193 : ifCond.holds .ne (lcmpW (j0_30_l11 q0 q1 q2 q3 p4) (v0_9 q0 q1 q2 q3 p4)) = true
      · rw [show (j0_193_l20 q0 q1 q2 q3 p4) = (j0_166_l20 q0 q1 q2 q3 p4) from if_pos hc193] at kt193
        refine XS.ifYes X7.here hx rfl (pc0 := 193) (pc' := 215) rfl (hb hby at_193) rfl hc193 (by decide) (by decide) ?_
        exact kt193
      · rw [show (j0_193_l20 q0 q1 q2 q3 p4) = (j0_198_s0 q0 q1 q2 q3 p4) from if_neg hc193] at kt193
        refine XS.ifNo X7.here hx rfl (hb hby at_193) rfl (eq_false_of_ne_true hc193) ?_
        show Steps p.tables e below (T7.setTop (mkF m 196 #[.val (.long q0), .second, .val (.long q1), .second, .val (.long q2), .second, .val (.long q3), .second, .val (.int p4), .val (.long (v0_9 q0 q1 q2 q3 p4)), .second, .val (.long (j0_30_l11 q0 q1 q2 q3 p4)), .second, .val (.int (v0_25 q0 q1 q2 q3 p4)), .val (.long (j0_81_l14 q0 q1 q2 q3 p4)), .second, .val (.double (v0_106 q0 q1 q2 q3 p4)), .second, .val (.double (v0_125 q0 q1 q2 q3 p4)), .second, .val (.int (j0_166_l20 q0 q1 q2 q3 p4)), .unset, .unset, .unset, .unset, .unset, .unset, .unset, .unset, .unset, .unset] [])) _
        refine XS.iload X7.here hx rfl (hb hby at_196) rfl ?_
        show Steps p.tables e below (T7.setTop (mkF m 198 #[.val (.long q0), .second, .val (.long q1), .second, .val (.long q2), .second, .val (.long q3), .second, .val (.int p4), .val (.long (v0_9 q0 q1 q2 q3 p4)), .second, .val (.long (j0_30_l11 q0 q1 q2 q3 p4)), .second, .val (.int (v0_25 q0 q1 q2 q3 p4)), .val (.long (j0_81_l14 q0 q1 q2 q3 p4)), .second, .val (.double (v0_106 q0 q1 q2 q3 p4)), .second, .val (.double (v0_125 q0 q1 q2 q3 p4)), .second, .val (.int (j0_166_l20 q0 q1 q2 q3 p4)), .unset, .unset, .unset, .unset, .unset, .unset, .unset, .unset, .unset, .unset] [(.int (j0_166_l20 q0 q1 q2 q3 p4))])) _
        suffices kt198 : Steps p.tables e below (T7.setTop (mkF m 213 #[.val (.long q0), .second, .val (.long q1), .second, .val (.long q2), .second, .val (.long q3), .second, .val (.int p4), .val (.long (v0_9 q0 q1 q2 q3 p4)), .second, .val (.long (j0_30_l11 q0 q1 q2 q3 p4)), .second, .val (.int (v0_25 q0 q1 q2 q3 p4)), .val (.long (j0_81_l14 q0 q1 q2 q3 p4)), .second, .val (.double (v0_106 q0 q1 q2 q3 p4)), .second, .val (.double (v0_125 q0 q1 q2 q3 p4)), .second, .val (.int (j0_166_l20 q0 q1 q2 q3 p4)), .unset, .unset, .unset, .unset, .unset, .unset, .unset, .unset, .unset, .unset] [(.int (j0_198_s0 q0 q1 q2 q3 p4))])) (T14.setFrames fs) by
          by_cases hc198 : ifCond.holds .eq (j0_166_l20 q0 q1 q2 q3 p4) = true
          · rw [show (j0_198_s0 q0 q1 q2 q3 p4) = (0 : Int32) from if_pos hc198] at kt198
            refine XS.ifYes X7.here hx rfl (pc0 := 198) (pc' := 212) rfl (hb hby at_198) rfl hc198 (by decide) (by decide) ?_
            show Steps p.tables e below (T7.setTop (mkF m 212 #[.val (.long q0), .second, .val (.long q1), .second, .val (.long q2), .second, .val (.long q3), .second, .val (.int p4), .val (.long (v0_9 q0 q1 q2 q3 p4)), .second, .val (.long (j0_30_l11 q0 q1 q2 q3 p4)), .second, .val (.int (v0_25 q0 q1 q2 q3 p4)), .val (.long (j0_81_l14 q0 q1 q2 q3 p4)), .second, .val (.double (v0_106 q0 q1 q2 q3 p4)), .second, .val (.double (v0_125 q0 q1 q2 q3 p4)), .second, .val (.int (j0_166_l20 q0 q1 q2 q3 p4)), .unset, .unset, .unset, .unset, .unset, .unset, .unset, .unset, .unset, .unset] [])) _
            refine XS.iconst X7.here hx rfl (hb hby at_212) ?_
            exact kt198
          · rw [show (j0_198_s0 q0 q1 q2 q3 p4) = (j0_205_s0 q0 q1 q2 q3 p4) from if_neg hc198] at kt198
            refine XS.ifNo X7.here hx rfl (hb hby at_198) rfl (eq_false_of_ne_true hc198) ?_
            show Steps p.tables e below (T7.setTop (mkF m 201 #[.val (.long q0), .second, .val (.long q1), .second, .val (.long q2), .second, .val (.long q3), .second, .val (.int p4), .val (.long (v0_9 q0 q1 q2 q3 p4)), .second, .val (.long (j0_30_l11 q0 q1 q2 q3 p4)), .second, .val (.int (v0_25 q0 q1 q2 q3 p4)), .val (.long (j0_81_l14 q0 q1 q2 q3 p4)), .second, .val (.double (v0_106 q0 q1 q2 q3 p4)), .second, .val (.double (v0_125 q0 q1 q2 q3 p4)), .second, .val (.int (j0_166_l20 q0 q1 q2 q3 p4)), .unset, .unset, .unset, .unset, .unset, .unset, .unset, .unset, .unset, .unset] [])) _
            refine XS.dload X7.here hx rfl (hb hby at_201) rfl ?_
            show Steps p.tables e below (T7.setTop (mkF m 203 #[.val (.long q0), .second, .val (.long q1), .second, .val (.long q2), .second, .val (.long q3), .second, .val (.int p4), .val (.long (v0_9 q0 q1 q2 q3 p4)), .second, .val (.long (j0_30_l11 q0 q1 q2 q3 p4)), .second, .val (.int (v0_25 q0 q1 q2 q3 p4)), .val (.long (j0_81_l14 q0 q1 q2 q3 p4)), .second, .val (.double (v0_106 q0 q1 q2 q3 p4)), .second, .val (.double (v0_125 q0 q1 q2 q3 p4)), .second, .val (.int (j0_166_l20 q0 q1 q2 q3 p4)), .unset, .unset, .unset, .unset, .unset, .unset, .unset, .unset, .unset, .unset] [(.double (v0_106 q0 q1 q2 q3 p4))])) _
            refine XS.dconst1 X7.here hx rfl (hb hby at_203) rfl ?_
            show Steps p.tables e below (T7.setTop (mkF m 204 #[.val (.long q0), .second, .val (.long q1), .second, .val (.long q2), .second, .val (.long q3), .second, .val (.int p4), .val (.long (v0_9 q0 q1 q2 q3 p4)), .second, .val (.long (j0_30_l11 q0 q1 q2 q3 p4)), .second, .val (.int (v0_25 q0 q1 q2 q3 p4)), .val (.long (j0_81_l14 q0 q1 q2 q3 p4)), .second, .val (.double (v0_106 q0 q1 q2 q3 p4)), .second, .val (.double (v0_125 q0 q1 q2 q3 p4)), .second, .val (.int (j0_166_l20 q0 q1 q2 q3 p4)), .unset, .unset, .unset, .unset, .unset, .unset, .unset, .unset, .unset, .unset] [(.double FP.dconst1), (.double (v0_106 q0 q1 q2 q3 p4))])) _
            refine XS.dcmpS X7.here hx rfl (hb hby at_204) rfl rfl ?_
            show Steps p.tables e below (T7.setTop (mkF m 205 #[.val (.long q0), .second, .val (.long q1), .second, .val (.long q2), .second, .val (.long q3), .second, .val (.int p4), .val (.long (v0_9 q0 q1 q2 q3 p4)), .second, .val (.long (j0_30_l11 q0 q1 q2 q3 p4)), .second, .val (.int (v0_25 q0 q1 q2 q3 p4)), .val (.long (j0_81_l14 q0 q1 q2 q3 p4)), .second, .val (.double (v0_106 q0 q1 q2 q3 p4)), .second, .val (.double (v0_125 q0 q1 q2 q3 p4)), .second, .val (.int (j0_166_l20 q0 q1 q2 q3 p4)), .unset, .unset, .unset, .unset, .unset, .unset, .unset, .unset, .unset, .unset] [(.int (cmpValue (FP.dcmp (v0_106 q0 q1 q2 q3 p4) FP.dconst1) .l))])) _
            suffices kt205 : Steps p.tables e below (T7.setTop (mkF m 213 #[.val (.long q0), .second, .val (.long q1), .second, .val (.long q2), .second, .val (.long q3), .second, .val (.int p4), .val (.long (v0_9 q0 q1 q2 q3 p4)), .second, .val (.long (j0_30_l11 q0 q1 q2 q3 p4)), .second, .val (.int (v0_25 q0 q1 q2 q3 p4)), .val (.long (j0_81_l14 q0 q1 q2 q3 p4)), .second, .val (.double (v0_106 q0 q1 q2 q3 p4)), .second, .val (.double (v0_125 q0 q1 q2 q3 p4)), .second, .val (.int (j0_166_l20 q0 q1 q2 q3 p4)), .unset, .unset, .unset, .unset, .unset, .unset, .unset, .unset, .unset, .unset] [(.int (j0_205_s0 q0 q1 q2 q3 p4))])) (T14.setFrames fs) by
              by_cases hc205 : ifCond.holds .ne (cmpValue (FP.dcmp (v0_106 q0 q1 q2 q3 p4) FP.dconst1) .l) = true
              · rw [show (j0_205_s0 q0 q1 q2 q3 p4) = (0 : Int32) from if_pos hc205] at kt205
                refine XS.ifYes X7.here hx rfl (pc0 := 205) (pc' := 212) rfl (hb hby at_205) rfl hc205 (by decide) (by decide) ?_
                show Steps p.tables e below (T7.setTop (mkF m 212 #[.val (.long q0), .second, .val (.long q1), .second, .val (.long q2), .second, .val (.long q3), .second, .val (.int p4), .val (.long (v0_9 q0 q1 q2 q3 p4)), .second, .val (.long (j0_30_l11 q0 q1 q2 q3 p4)), .second, .val (.int (v0_25 q0 q1 q2 q3 p4)), .val (.long (j0_81_l14 q0 q1 q2 q3 p4)), .second, .val (.double (v0_106 q0 q1 q2 q3 p4)), .second, .val (.double (v0_125 q0 q1 q2 q3 p4)), .second, .val (.int (j0_166_l20 q0 q1 q2 q3 p4)), .unset, .unset, .unset, .unset, .unset, .unset, .unset, .unset, .unset, .unset] [])) _
                refine XS.iconst X7.here hx rfl (hb hby at_212) ?_
                exact kt205
              · rw [show (j0_205_s0 q0 q1 q2 q3 p4) = (1 : Int32) from if_neg hc205] at kt205
                refine XS.ifNo X7.here hx rfl (hb hby at_205) rfl (eq_false_of_ne_true hc205) ?_
                show Steps p.tables e below (T7.setTop (mkF m 208 #[.val (.long q0), .second, .val (.long q1), .second, .val (.long q2), .second, .val (.long q3), .second, .val (.int p4), .val (.long (v0_9 q0 q1 q2 q3 p4)), .second, .val (.long (j0_30_l11 q0 q1 q2 q3 p4)), .second, .val (.int (v0_25 q0 q1 q2 q3 p4)), .val (.long (j0_81_l14 q0 q1 q2 q3 p4)), .second, .val (.double (v0_106 q0 q1 q2 q3 p4)), .second, .val (.double (v0_125 q0 q1 q2 q3 p4)), .second, .val (.int (j0_166_l20 q0 q1 q2 q3 p4)), .unset, .unset, .unset, .unset, .unset, .unset, .unset, .unset, .unset, .unset] [])) _
                refine XS.iconst X7.here hx rfl (hb hby at_208) ?_
                show Steps p.tables e below (T7.setTop (mkF m 209 #[.val (.long q0), .second, .val (.long q1), .second, .val (.long q2), .second, .val (.long q3), .second, .val (.int p4), .val (.long (v0_9 q0 q1 q2 q3 p4)), .second, .val (.long (j0_30_l11 q0 q1 q2 q3 p4)), .second, .val (.int (v0_25 q0 q1 q2 q3 p4)), .val (.long (j0_81_l14 q0 q1 q2 q3 p4)), .second, .val (.double (v0_106 q0 q1 q2 q3 p4)), .second, .val (.double (v0_125 q0 q1 q2 q3 p4)), .second, .val (.int (j0_166_l20 q0 q1 q2 q3 p4)), .unset, .unset, .unset, .unset, .unset, .unset, .unset, .unset, .unset, .unset] [(.int (1 : Int32))])) _
                refine XS.goto X7.here hx rfl (pc0 := 209) (pc' := 213) rfl (hb hby at_209) (by decide) (by decide) ?_
                exact kt205
            exact kt198
        show Steps p.tables e below (T7.setTop (mkF m 213 #[.val (.long q0), .second, .val (.long q1), .second, .val (.long q2), .second, .val (.long q3), .second, .val (.int p4), .val (.long (v0_9 q0 q1 q2 q3 p4)), .second, .val (.long (j0_30_l11 q0 q1 q2 q3 p4)), .second, .val (.int (v0_25 q0 q1 q2 q3 p4)), .val (.long (j0_81_l14 q0 q1 q2 q3 p4)), .second, .val (.double (v0_106 q0 q1 q2 q3 p4)), .second, .val (.double (v0_125 q0 q1 q2 q3 p4)), .second, .val (.int (j0_166_l20 q0 q1 q2 q3 p4)), .unset, .unset, .unset, .unset, .unset, .unset, .unset, .unset, .unset, .unset] [(.int (j0_198_s0 q0 q1 q2 q3 p4))])) _
        refine XS.istore X7.here hx rfl (hb hby at_213) rfl (l' := #[.val (.long q0), .second, .val (.long q1), .second, .val (.long q2), .second, .val (.long q3), .second, .val (.int p4), .val (.long (v0_9 q0 q1 q2 q3 p4)), .second, .val (.long (j0_30_l11 q0 q1 q2 q3 p4)), .second, .val (.int (v0_25 q0 q1 q2 q3 p4)), .val (.long (j0_81_l14 q0 q1 q2 q3 p4)), .second, .val (.double (v0_106 q0 q1 q2 q3 p4)), .second, .val (.double (v0_125 q0 q1 q2 q3 p4)), .second, .val (.int (j0_198_s0 q0 q1 q2 q3 p4)), .unset, .unset, .unset, .unset, .unset, .unset, .unset, .unset, .unset, .unset]) rfl ?_
        exact kt193
    show Steps p.tables e below (T7.setTop (mkF m 215 #[.val (.long q0), .second, .val (.long q1), .second, .val (.long q2), .second, .val (.long q3), .second, .val (.int p4), .val (.long (v0_9 q0 q1 q2 q3 p4)), .second, .val (.long (j0_30_l11 q0 q1 q2 q3 p4)), .second, .val (.int (v0_25 q0 q1 q2 q3 p4)), .val (.long (j0_81_l14 q0 q1 q2 q3 p4)), .second, .val (.double (v0_106 q0 q1 q2 q3 p4)), .second, .val (.double (v0_125 q0 q1 q2 q3 p4)), .second, .val (.int (j0_193_l20 q0 q1 q2 q3 p4)), .unset, .unset, .unset, .unset, .unset, .unset, .unset, .unset, .unset, .unset] [])) _
    refine X7.ldc2Long hx hown (mvT hZ (hw _ (List.mem_of_getElem? (i := 32) rfl))) (g := (mkF m 215 #[.val (.long q0), .second, .val (.long q1), .second, .val (.long q2), .second, .val (.long q3), .second, .val (.int p4), .val (.long (v0_9 q0 q1 q2 q3 p4)), .second, .val (.long (j0_30_l11 q0 q1 q2 q3 p4)), .second, .val (.int (v0_25 q0 q1 q2 q3 p4)), .val (.long (j0_81_l14 q0 q1 q2 q3 p4)), .second, .val (.double (v0_106 q0 q1 q2 q3 p4)), .second, .val (.double (v0_125 q0 q1 q2 q3 p4)), .second, .val (.int (j0_193_l20 q0 q1 q2 q3 p4)), .unset, .unset, .unset, .unset, .unset, .unset, .unset, .unset, .unset, .unset] [])) rfl (hb hby at_215) _ ?_
    show Steps p.tables e below (T7.setTop (mkF m 218 #[.val (.long q0), .second, .val (.long q1), .second, .val (.long q2), .second, .val (.long q3), .second, .val (.int p4), .val (.long (v0_9 q0 q1 q2 q3 p4)), .second, .val (.long (j0_30_l11 q0 q1 q2 q3 p4)), .second, .val (.int (v0_25 q0 q1 q2 q3 p4)), .val (.long (j0_81_l14 q0 q1 q2 q3 p4)), .second, .val (.double (v0_106 q0 q1 q2 q3 p4)), .second, .val (.double (v0_125 q0 q1 q2 q3 p4)), .second, .val (.int (j0_193_l20 q0 q1 q2 q3 p4)), .unset, .unset, .unset, .unset, .unset, .unset, .unset, .unset, .unset, .unset] [(.long (2 : Int64))])) _
    refine XS.lload X7.here hx rfl (hb hby at_218) rfl ?_
    show Steps p.tables e below (T7.setTop (mkF m 220 #[.val (.long q0), .second, .val (.long q1), .second, .val (.long q2), .second, .val (.long q3), .second, .val (.int p4), .val (.long (v0_9 q0 q1 q2 q3 p4)), .second, .val (.long (j0_30_l11 q0 q1 q2 q3 p4)), .second, .val (.int (v0_25 q0 q1 q2 q3 p4)), .val (.long (j0_81_l14 q0 q1 q2 q3 p4)), .second, .val (.double (v0_106 q0 q1 q2 q3 p4)), .second, .val (.double (v0_125 q0 q1 q2 q3 p4)), .second, .val (.int (j0_193_l20 q0 q1 q2 q3 p4)), .unset, .unset, .unset, .unset, .unset, .unset, .unset, .unset, .unset, .unset] [(.long (j0_30_l11 q0 q1 q2 q3 p4)), (.long (2 : Int64))])) _
    refine XS.lmul X7.here hx rfl (hb hby at_220) rfl ?_
    show Steps p.tables e below (T7.setTop (mkF m 221 #[.val (.long q0), .second, .val (.long q1), .second, .val (.long q2), .second, .val (.long q3), .second, .val (.int p4), .val (.long (v0_9 q0 q1 q2 q3 p4)), .second, .val (.long (j0_30_l11 q0 q1 q2 q3 p4)), .second, .val (.int (v0_25 q0 q1 q2 q3 p4)), .val (.long (j0_81_l14 q0 q1 q2 q3 p4)), .second, .val (.double (v0_106 q0 q1 q2 q3 p4)), .second, .val (.double (v0_125 q0 q1 q2 q3 p4)), .second, .val (.int (j0_193_l20 q0 q1 q2 q3 p4)), .unset, .unset, .unset, .unset, .unset, .unset, .unset, .unset, .unset, .unset] [(.long ((2 : Int64) * (j0_30_l11 q0 q1 q2 q3 p4)))])) _
    refine XS.lload X7.here hx rfl (hb hby at_221) rfl ?_
    show Steps p.tables e below (T7.setTop (mkF m 223 #[.val (.long q0), .second, .val (.long q1), .second, .val (.long q2), .second, .val (.long q3), .second, .val (.int p4), .val (.long (v0_9 q0 q1 q2 q3 p4)), .second, .val (.long (j0_30_l11 q0 q1 q2 q3 p4)), .second, .val (.int (v0_25 q0 q1 q2 q3 p4)), .val (.long (j0_81_l14 q0 q1 q2 q3 p4)), .second, .val (.double (v0_106 q0 q1 q2 q3 p4)), .second, .val (.double (v0_125 q0 q1 q2 q3 p4)), .second, .val (.int (j0_193_l20 q0 q1 q2 q3 p4)), .unset, .unset, .unset, .unset, .unset, .unset, .unset, .unset, .unset, .unset] [(.long (v0_9 q0 q1 q2 q3 p4)), (.long ((2 : Int64) * (j0_30_l11 q0 q1 q2 q3 p4)))])) _
    refine XS.lcmp X7.here hx rfl (hb hby at_223) rfl ?_
    show Steps p.tables e below (T7.setTop (mkF m 224 #[.val (.long q0), .second, .val (.long q1), .second, .val (.long q2), .second, .val (.long q3), .second, .val (.int p4), .val (.long (v0_9 q0 q1 q2 q3 p4)), .second, .val (.long (j0_30_l11 q0 q1 q2 q3 p4)), .second, .val (.int (v0_25 q0 q1 q2 q3 p4)), .val (.long (j0_81_l14 q0 q1 q2 q3 p4)), .second, .val (.double (v0_106 q0 q1 q2 q3 p4)), .second, .val (.double (v0_125 q0 q1 q2 q3 p4)), .second, .val (.int (j0_193_l20 q0 q1 q2 q3 p4)), .unset, .unset, .unset, .unset, .unset, .unset, .unset, .unset, .unset, .unset] [(.int (lcmpW ((2 : Int64) * (j0_30_l11 q0 q1 q2 q3 p4)) (v0_9 q0 q1 q2 q3 p4)))])) _
    suffices kt224 : Steps p.tables e below (T7.setTop (mkF m 248 #[.val (.long q0), .second, .val (.long q1), .second, .val (.long q2), .second, .val (.long q3), .second, .val (.int p4), .val (.long (v0_9 q0 q1 q2 q3 p4)), .second, .val (.long (j0_30_l11 q0 q1 q2 q3 p4)), .second, .val (.int (v0_25 q0 q1 q2 q3 p4)), .val (.long (j0_81_l14 q0 q1 q2 q3 p4)), .second, .val (.double (v0_106 q0 q1 q2 q3 p4)), .second, .val (.double (v0_125 q0 q1 q2 q3 p4)), .second, .val (.int (j0_224_l20 q0 q1 q2 q3 p4)), .unset, .unset, .unset, .unset, .unset, .unset, .unset, .unset, .unset, .unset] [])) (T14.setFrames fs) by
      by_cases hc224 : ifCond.holds .ne (lcmpW ((2 : Int64) * (j0_30_l11 q0 q1 q2 q3 p4)) (v0_9 q0 q1 q2 q3 p4)) = true
      · rw [show (j0_224_l20 q0 q1 q2 q3 p4) = (j0_193_l20 q0 q1 q2 q3 p4) from if_pos hc224] at kt224
        refine XS.ifYes X7.here hx rfl (pc0 := 224) (pc' := 248) rfl (hb hby at_224) rfl hc224 (by decide) (by decide) ?_
        exact kt224
      · rw [show (j0_224_l20 q0 q1 q2 q3 p4) = (j0_229_s0 q0 q1 q2 q3 p4) from if_neg hc224] at kt224
        refine XS.ifNo X7.here hx rfl (hb hby at_224) rfl (eq_false_of_ne_true hc224) ?_
        show Steps p.tables e below (T7.setTop (mkF m 227 #[.val (.long q0), .second, .val (.long q1), .second, .val (.long q2), .second, .val (.long q3), .second, .val (.int p4), .val (.long (v0_9 q0 q1 q2 q3 p4)), .second, .val (.long (j0_30_l11 q0 q1 q2 q3 p4)), .second, .val (.int (v0_25 q0 q1 q2 q3 p4)), .val (.long (j0_81_l14 q0 q1 q2 q3 p4)), .second, .val (.double (v0_106 q0 q1 q2 q3 p4)), .second, .val (.double (v0_125 q0 q1 q2 q3 p4)), .second, .val (.int (j0_193_l20 q0 q1 q2 q3 p4)), .unset, .unset, .unset, .unset, .unset, .unset, .unset, .unset, .unset, .unset] [])) _
        refine XS.iload X7.here hx rfl (hb hby at_227) rfl ?_
        show Steps p.tables e below (T7.setTop (mkF m 229 #[.val (.long q0), .second, .val (.long q1), .second, .val (.long q2), .second, .val (.long q3), .second, .val (.int p4), .val (.long (v0_9 q0 q1 q2 q3 p4)), .second, .val (.long (j0_30_l11 q0 q1 q2 q3 p4)), .second, .val (.int (v0_25 q0 q1 q2 q3 p4)), .val (.long (j0_81_l14 q0 q1 q2 q3 p4)), .second, .val (.double (v0_106 q0 q1 q2 q3 p4)), .second, .val (.double (v0_125 q0 q1 q2 q3 p4)), .second, .val (.int (j0_193_l20 q0 q1 q2 q3 p4)), .unset, .unset, .unset, .unset, .unset, .unset, .unset, .unset, .unset, .unset] [(.int (j0_193_l20 q0 q1 q2 q3 p4))])) _
        suffices kt229 : Steps p.tables e below (T7.setTop (mkF m 246 #[.val (.long q0), .second, .val (.long q1), .second, .val (.long q2), .second, .val (.long q3), .second, .val (.int p4), .val (.long (v0_9 q0 q1 q2 q3 p4)), .second, .val (.long (j0_30_l11 q0 q1 q2 q3 p4)), .second, .val (.int (v0_25 q0 q1 q2 q3 p4)), .val (.long (j0_81_l14 q0 q1 q2 q3 p4)), .second, .val (.double (v0_106 q0 q1 q2 q3 p4)), .second, .val (.double (v0_125 q0 q1 q2 q3 p4)), .second, .val (.int (j0_193_l20 q0 q1 q2 q3 p4)), .unset, .unset, .unset, .unset, .unset, .unset, .unset, .unset, .unset, .unset] [(.int (j0_229_s0 q0 q1 q2 q3 p4))])) (T14.setFrames fs) by
          by_cases hc229 : ifCond.holds .eq (j0_193_l20 q0 q1 q2 q3 p4) = true
          · rw [show (j0_229_s0 q0 q1 q2 q3 p4) = (0 : Int32) from if_pos hc229] at kt229
            refine XS.ifYes X7.here hx rfl (pc0 := 229) (pc' := 245) rfl (hb hby at_229) rfl hc229 (by decide) (by decide) ?_
            show Steps p.tables e below (T7.setTop (mkF m 245 #[.val (.long q0), .second, .val (.long q1), .second, .val (.long q2), .second, .val (.long q3), .second, .val (.int p4), .val (.long (v0_9 q0 q1 q2 q3 p4)), .second, .val (.long (j0_30_l11 q0 q1 q2 q3 p4)), .second, .val (.int (v0_25 q0 q1 q2 q3 p4)), .val (.long (j0_81_l14 q0 q1 q2 q3 p4)), .second, .val (.double (v0_106 q0 q1 q2 q3 p4)), .second, .val (.double (v0_125 q0 q1 q2 q3 p4)), .second, .val (.int (j0_193_l20 q0 q1 q2 q3 p4)), .unset, .unset, .unset, .unset, .unset, .unset, .unset, .unset, .unset, .unset] [])) _
            refine XS.iconst X7.here hx rfl (hb hby at_245) ?_
            exact kt229
          · rw [show (j0_229_s0 q0 q1 q2 q3 p4) = (j0_238_s0 q0 q1 q2 q3 p4) from if_neg hc229] at kt229
            refine XS.ifNo X7.here hx rfl (hb hby at_229) rfl (eq_false_of_ne_true hc229) ?_
            show Steps p.tables e below (T7.setTop (mkF m 232 #[.val (.long q0), .second, .val (.long q1), .second, .val (.long q2), .second, .val (.long q3), .second, .val (.int p4), .val (.long (v0_9 q0 q1 q2 q3 p4)), .second, .val (.long (j0_30_l11 q0 q1 q2 q3 p4)), .second, .val (.int (v0_25 q0 q1 q2 q3 p4)), .val (.long (j0_81_l14 q0 q1 q2 q3 p4)), .second, .val (.double (v0_106 q0 q1 q2 q3 p4)), .second, .val (.double (v0_125 q0 q1 q2 q3 p4)), .second, .val (.int (j0_193_l20 q0 q1 q2 q3 p4)), .unset, .unset, .unset, .unset, .unset, .unset, .unset, .unset, .unset, .unset] [])) _
            refine XS.dload X7.here hx rfl (hb hby at_232) rfl ?_
            show Steps p.tables e below (T7.setTop (mkF m 234 #[.val (.long q0), .second, .val (.long q1), .second, .val (.long q2), .second, .val (.long q3), .second, .val (.int p4), .val (.long (v0_9 q0 q1 q2 q3 p4)), .second, .val (.long (j0_30_l11 q0 q1 q2 q3 p4)), .second, .val (.int (v0_25 q0 q1 q2 q3 p4)), .val (.long (j0_81_l14 q0 q1 q2 q3 p4)), .second, .val (.double (v0_106 q0 q1 q2 q3 p4)), .second, .val (.double (v0_125 q0 q1 q2 q3 p4)), .second, .val (.int (j0_193_l20 q0 q1 q2 q3 p4)), .unset, .unset, .unset, .unset, .unset, .unset, .unset, .unset, .unset, .unset] [(.double (v0_106 q0 q1 q2 q3 p4))])) _
            refine X7.ldc2DoubleC hx hown (mvT hZ (hw _ (List.mem_of_getElem? (i := 35) rfl))) (g := (mkF m 234 #[.val (.long q0), .second, .val (.long q1), .second, .val (.long q2), .second, .val (.long q3), .second, .val (.int p4), .val (.long (v0_9 q0 q1 q2 q3 p4)), .second, .val (.long (j0_30_l11 q0 q1 q2 q3 p4)), .second, .val (.int (v0_25 q0 q1 q2 q3 p4)), .val (.long (j0_81_l14 q0 q1 q2 q3 p4)), .second, .val (.double (v0_106 q0 q1 q2 q3 p4)), .second, .val (.double (v0_125 q0 q1 q2 q3 p4)), .second, .val (.int (j0_193_l20 q0 q1 q2 q3 p4)), .unset, .unset, .unset, .unset, .unset, .unset, .unset, .unset, .unset, .unset] [(.double (v0_106 q0 q1 q2 q3 p4))])) rfl (hb hby at_234) _ ?_
            show Steps p.tables e below (T7.setTop (mkF m 237 #[.val (.long q0), .second, .val (.long q1), .second, .val (.long q2), .second, .val (.long q3), .second, .val (.int p4), .val (.long (v0_9 q0 q1 q2 q3 p4)), .second, .val (.long (j0_30_l11 q0 q1 q2 q3 p4)), .second, .val (.int (v0_25 q0 q1 q2 q3 p4)), .val (.long (j0_81_l14 q0 q1 q2 q3 p4)), .second, .val (.double (v0_106 q0 q1 q2 q3 p4)), .second, .val (.double (v0_125 q0 q1 q2 q3 p4)), .second, .val (.int (j0_193_l20 q0 q1 q2 q3 p4)), .unset, .unset, .unset, .unset, .unset, .unset, .unset, .unset, .unset, .unset] [(.double (4602678819172646912 : UInt64)), (.double (v0_106 q0 q1 q2 q3 p4))])) _
            refine XS.dcmpS X7.here hx rfl (hb hby at_237) rfl rfl ?_
            show Steps p.tables e below (T7.setTop (mkF m 238 #[.val (.long q0), .second, .val (.long q1), .second, .val (.long q2), .second, .val (.long q3), .second, .val (.int p4), .val (.long (v0_9 q0 q1 q2 q3 p4)), .second, .val (.long (j0_30_l11 q0 q1 q2 q3 p4)), .second, .val (.int (v0_25 q0 q1 q2 q3 p4)), .val (.long (j0_81_l14 q0 q1 q2 q3 p4)), .second, .val (.double (v0_106 q0 q1 q2 q3 p4)), .second, .val (.double (v0_125 q0 q1 q2 q3 p4)), .second, .val (.int (j0_193_l20 q0 q1 q2 q3 p4)), .unset, .unset, .unset, .unset, .unset, .unset, .unset, .unset, .unset, .unset] [(.int (cmpValue (FP.dcmp (v0_106 q0 q1 q2 q3 p4) (4602678819172646912 : UInt64)) .l))])) _
            suffices kt238 : Steps p.tables e below (T7.setTop (mkF m 246 #[.val (.long q0), .second, .val (.long q1), .second, .val (.long q2), .second, .val (.long q3), .second, .val (.int p4), .val (.long (v0_9 q0 q1 q2 q3 p4)), .second, .val (.long (j0_30_l11 q0 q1 q2 q3 p4)), .second, .val (.int (v0_25 q0 q1 q2 q3 p4)), .val (.long (j0_81_l14 q0 q1 q2 q3 p4)), .second, .val (.double (v0_106 q0 q1 q2 q3 p4)), .second, .val (.double (v0_125 q0 q1 q2 q3 p4)), .second, .val (.int (j0_193_l20 q0 q1 q2 q3 p4)), .unset, .unset, .unset, .unset, .unset, .unset, .unset, .unset, .unset, .unset] [(.int (j0_238_s0 q0 q1 q2 q3 p4))])) (T14.setFrames fs) by
              by_cases hc238 : ifCond.holds .ne (cmpValue (FP.dcmp (v0_106 q0 q1 q2 q3 p4) (4602678819172646912 : UInt64)) .l) = true
              · rw [show (j0_238_s0 q0 q1 q2 q3 p4) = (0 : Int32) from if_pos hc238] at kt238
                refine XS.ifYes X7.here hx rfl (pc0 := 238) (pc' := 245) rfl (hb hby at_238) rfl hc238 (by decide) (by decide) ?_
                show Steps p.tables e below (T7.setTop (mkF m 245 #[.val (.long q0), .second, .val (.long q1), .second, .val (.long q2), .second, .val (.long q3), .second, .val (.int p4), .val (.long (v0_9 q0 q1 q2 q3 p4)), .second, .val (.long (j0_30_l11 q0 q1 q2 q3 p4)), .second, .val (.int (v0_25 q0 q1 q2 q3 p4)), .val (.long (j0_81_l14 q0 q1 q2 q3 p4)), .second, .val (.double (v0_106 q0 q1 q2 q3 p4)), .second, .val (.double (v0_125 q0 q1 q2 q3 p4)), .second, .val (.int (j0_193_l20 q0 q1 q2 q3 p4)), .unset, .unset, .unset, .unset, .unset, .unset, .unset, .unset, .unset, .unset] [])) _
                refine XS.iconst X7.here hx rfl (hb hby at_245) ?_
                exact kt238
              · rw [show (j0_238_s0 q0 q1 q2 q3 p4) = (1 : Int32) from if_neg hc238] at kt238
                refine XS.ifNo X7.here hx rfl (hb hby at_238) rfl (eq_false_of_ne_true hc238) ?_
                show Steps p.tables e below (T7.setTop (mkF m 241 #[.val (.long q0), .second, .val (.long q1), .second, .val (.long q2), .second, .val (.long q3), .second, .val (.int p4), .val (.long (v0_9 q0 q1 q2 q3 p4)), .second, .val (.long (j0_30_l11 q0 q1 q2 q3 p4)), .second, .val (.int (v0_25 q0 q1 q2 q3 p4)), .val (.long (j0_81_l14 q0 q1 q2 q3 p4)), .second, .val (.double (v0_106 q0 q1 q2 q3 p4)), .second, .val (.double (v0_125 q0 q1 q2 q3 p4)), .second, .val (.int (j0_193_l20 q0 q1 q2 q3 p4)), .unset, .unset, .unset, .unset, .unset, .unset, .unset, .unset, .unset, .unset] [])) _
                refine XS.iconst X7.here hx rfl (hb hby at_241) ?_
                show Steps p.tables e below (T7.setTop (mkF m 242 #[.val (.long q0), .second, .val (.long q1), .second, .val (.long q2), .second, .val (.long q3), .second, .val (.int p4), .val (.long (v0_9 q0 q1 q2 q3 p4)), .second, .val (.long (j0_30_l11 q0 q1 q2 q3 p4)), .second, .val (.int (v0_25 q0 q1 q2 q3 p4)), .val (.long (j0_81_l14 q0 q1 q2 q3 p4)), .second, .val (.double (v0_106 q0 q1 q2 q3 p4)), .second, .val (.double (v0_125 q0 q1 q2 q3 p4)), .second, .val (.int (j0_193_l20 q0 q1 q2 q3 p4)), .unset, .unset, .unset, .unset, .unset, .unset, .unset, .unset, .unset, .unset] [(.int (1 : Int32))])) _
                refine XS.goto X7.here hx rfl (pc0 := 242) (pc' := 246) rfl (hb hby at_242) (by decide) (by decide) ?_
                exact kt238
            exact kt229
        show Steps p.tables e below (T7.setTop (mkF m 246 #[.val (.long q0), .second, .val (.long q1), .second, .val (.long q2), .second, .val (.long q3), .second, .val (.int p4), .val (.long (v0_9 q0 q1 q2 q3 p4)), .second, .val (.long (j0_30_l11 q0 q1 q2 q3 p4)), .second, .val (.int (v0_25 q0 q1 q2 q3 p4)), .val (.long (j0_81_l14 q0 q1 q2 q3 p4)), .second, .val (.double (v0_106 q0 q1 q2 q3 p4)), .second, .val (.double (v0_125 q0 q1 q2 q3 p4)), .second, .val (.int (j0_193_l20 q0 q1 q2 q3 p4)), .unset, .unset, .unset, .unset, .unset, .unset, .unset, .unset, .unset, .unset] [(.int (j0_229_s0 q0 q1 q2 q3 p4))])) _
        refine XS.istore X7.here hx rfl (hb hby at_246) rfl (l' := #[.val (.long q0), .second, .val (.long q1), .second, .val (.long q2), .second, .val (.long q3), .second, .val (.int p4), .val (.long (v0_9 q0 q1 q2 q3 p4)), .second, .val (.long (j0_30_l11 q0 q1 q2 q3 p4)), .second, .val (.int (v0_25 q0 q1 q2 q3 p4)), .val (.long (j0_81_l14 q0 q1 q2 q3 p4)), .second, .val (.double (v0_106 q0 q1 q2 q3 p4)), .second, .val (.double (v0_125 q0 q1 q2 q3 p4)), .second, .val (.int (j0_229_s0 q0 q1 q2 q3 p4)), .unset, .unset, .unset, .unset, .unset, .unset, .unset, .unset, .unset, .unset]) rfl ?_
        exact kt224
    show Steps p.tables e below (T7.setTop (mkF m 248 #[.val (.long q0), .second, .val (.long q1), .second, .val (.long q2), .second, .val (.long q3), .second, .val (.int p4), .val (.long (v0_9 q0 q1 q2 q3 p4)), .second, .val (.long (j0_30_l11 q0 q1 q2 q3 p4)), .second, .val (.int (v0_25 q0 q1 q2 q3 p4)), .val (.long (j0_81_l14 q0 q1 q2 q3 p4)), .second, .val (.double (v0_106 q0 q1 q2 q3 p4)), .second, .val (.double (v0_125 q0 q1 q2 q3 p4)), .second, .val (.int (j0_224_l20 q0 q1 q2 q3 p4)), .unset, .unset, .unset, .unset, .unset, .unset, .unset, .unset, .unset, .unset] [])) _
    refine XS.lload X7.here hx rfl (hb hby at_248) rfl ?_
    show Steps p.tables e below (T7.setTop (mkF m 250 #[.val (.long q0), .second, .val (.long q1), .second, .val (.long q2), .second, .val (.long q3), .second, .val (.int p4), .val (.long (v0_9 q0 q1 q2 q3 p4)), .second, .val (.long (j0_30_l11 q0 q1 q2 q3 p4)), .second, .val (.int (v0_25 q0 q1 q2 q3 p4)), .val (.long (j0_81_l14 q0 q1 q2 q3 p4)), .second, .val (.double (v0_106 q0 q1 q2 q3 p4)), .second, .val (.double (v0_125 q0 q1 q2 q3 p4)), .second, .val (.int (j0_224_l20 q0 q1 q2 q3 p4)), .unset, .unset, .unset, .unset, .unset, .unset, .unset, .unset, .unset, .unset] [(.long (j0_30_l11 q0 q1 q2 q3 p4))])) _
    refine XS.lload X7.here hx rfl (hb hby at_250) rfl ?_
    show Steps p.tables e below (T7.setTop (mkF m 252 #[.val (.long q0), .second, .val (.long q1), .second, .val (.long q2), .second, .val (.long q3), .second, .val (.int p4), .val (.long (v0_9 q0 q1 q2 q3 p4)), .second, .val (.long (j0_30_l11 q0 q1 q2 q3 p4)), .second, .val (.int (v0_25 q0 q1 q2 q3 p4)), .val (.long (j0_81_l14 q0 q1 q2 q3 p4)), .second, .val (.double (v0_106 q0 q1 q2 q3 p4)), .second, .val (.double (v0_125 q0 q1 q2 q3 p4)), .second, .val (.int (j0_224_l20 q0 q1 q2 q3 p4)), .unset, .unset, .unset, .unset, .unset, .unset, .unset, .unset, .unset, .unset] [(.long (j0_81_l14 q0 q1 q2 q3 p4)), (.long (j0_30_l11 q0 q1 q2 q3 p4))])) _
    refine XS.lcmp X7.here hx rfl (hb hby at_252) rfl ?_
    show Steps p.tables e below (T7.setTop (mkF m 253 #[.val (.long q0), .second, .val (.long q1), .second, .val (.long q2), .second, .val (.long q3), .second, .val (.int p4), .val (.long (v0_9 q0 q1 q2 q3 p4)), .second, .val (.long (j0_30_l11 q0 q1 q2 q3 p4)), .second, .val (.int (v0_25 q0 q1 q2 q3 p4)), .val (.long (j0_81_l14 q0 q1 q2 q3 p4)), .second, .val (.double (v0_106 q0 q1 q2 q3 p4)), .second, .val (.double (v0_125 q0 q1 q2 q3 p4)), .second, .val (.int (j0_224_l20 q0 q1 q2 q3 p4)), .unset, .unset, .unset, .unset, .unset, .unset, .unset, .unset, .unset, .unset] [(.int (lcmpW (j0_30_l11 q0 q1 q2 q3 p4) (j0_81_l14 q0 q1 q2 q3 p4)))])) _
    suffices kt253 : Steps p.tables e below (T7.setTop (mkF m 330 #[.val (.long q0), .second, .val (.long q1), .second, .val (.long q2), .second, .val (.long q3), .second, .val (.int p4), .val (.long (v0_9 q0 q1 q2 q3 p4)), .second, .val (.long (j0_30_l11 q0 q1 q2 q3 p4)), .second, .val (.int (v0_25 q0 q1 q2 q3 p4)), .val (.long (j0_81_l14 q0 q1 q2 q3 p4)), .second, .val (.double (v0_106 q0 q1 q2 q3 p4)), .second, .val (.double (v0_125 q0 q1 q2 q3 p4)), .second, .val (.int (j0_253_l20 q0 q1 q2 q3 p4)), .unset, .unset, .unset, .unset, .unset, .unset, .unset, .unset, .unset, .unset] [])) (T14.setFrames fs) by
      by_cases hc253 : ifCond.holds .ge (lcmpW (j0_30_l11 q0 q1 q2 q3 p4) (j0_81_l14 q0 q1 q2 q3 p4)) = true
      · rw [show (j0_253_l20 q0 q1 q2 q3 p4) = (j0_284_l20 q0 q1 q2 q3 p4) from if_pos hc253] at kt253
        refine XS.ifYes X7.here hx rfl (pc0 := 253) (pc' := 279) rfl (hb hby at_253) rfl hc253 (by decide) (by decide) ?_
        show Steps p.tables e below (T7.setTop (mkF m 279 #[.val (.long q0), .second, .val (.long q1), .second, .val (.long q2), .second, .val (.long q3), .second, .val (.int p4), .val (.long (v0_9 q0 q1 q2 q3 p4)), .second, .val (.long (j0_30_l11 q0 q1 q2 q3 p4)), .second, .val (.int (v0_25 q0 q1 q2 q3 p4)), .val (.long (j0_81_l14 q0 q1 q2 q3 p4)), .second, .val (.double (v0_106 q0 q1 q2 q3 p4)), .second, .val (.double (v0_125 q0 q1 q2 q3 p4)), .second, .val (.int (j0_224_l20 q0 q1 q2 q3 p4)), .unset, .unset, .unset, .unset, .unset, .unset, .unset, .unset, .unset, .unset] [])) _
        refine XS.lload X7.here hx rfl (hb hby at_279) rfl ?_
        show Steps p.tables e below (T7.setTop (mkF m 281 #[.val (.long q0), .second, .val (.long q1), .second, .val (.long q2), .second, .val (.long q3), .second, .val (.int p4), .val (.long (v0_9 q0 q1 q2 q3 p4)), .second, .val (.long (j0_30_l11 q0 q1 q2 q3 p4)), .second, .val (.int (v0_25 q0 q1 q2 q3 p4)), .val (.long (j0_81_l14 q0 q1 q2 q3 p4)), .second, .val (.double (v0_106 q0 q1 q2 q3 p4)), .second, .val (.double (v0_125 q0 q1 q2 q3 p4)), .second, .val (.int (j0_224_l20 q0 q1 q2 q3 p4)), .unset, .unset, .unset, .unset, .unset, .unset, .unset, .unset, .unset, .unset] [(.long (j0_30_l11 q0 q1 q2 q3 p4))])) _
        refine XS.lload X7.here hx rfl (hb hby at_281) rfl ?_
        show Steps p.tables e below (T7.setTop (mkF m 283 #[.val (.long q0), .second, .val (.long q1), .second, .val (.long q2), .second, .val (.long q3), .second, .val (.int p4), .val (.long (v0_9 q0 q1 q2 q3 p4)), .second, .val (.long (j0_30_l11 q0 q1 q2 q3 p4)), .second, .val (.int (v0_25 q0 q1 q2 q3 p4)), .val (.long (j0_81_l14 q0 q1 q2 q3 p4)), .second, .val (.double (v0_106 q0 q1 q2 q3 p4)), .second, .val (.double (v0_125 q0 q1 q2 q3 p4)), .second, .val (.int (j0_224_l20 q0 q1 q2 q3 p4)), .unset, .unset, .unset, .unset, .unset, .unset, .unset, .unset, .unset, .unset] [(.long (j0_81_l14 q0 q1 q2 q3 p4)), (.long (j0_30_l11 q0 q1 q2 q3 p4))])) _
        refine XS.lcmp X7.here hx rfl (hb hby at_283) rfl ?_
        show Steps p.tables e below (T7.setTop (mkF m 284 #[.val (.long q0), .second, .val (.long q1), .second, .val (.long q2), .second, .val (.long q3), .second, .val (.int p4), .val (.long (v0_9 q0 q1 q2 q3 p4)), .second, .val (.long (j0_30_l11 q0 q1 q2 q3 p4)), .second, .val (.int (v0_25 q0 q1 q2 q3 p4)), .val (.long (j0_81_l14 q0 q1 q2 q3 p4)), .second, .val (.double (v0_106 q0 q1 q2 q3 p4)), .second, .val (.double (v0_125 q0 q1 q2 q3 p4)), .second, .val (.int (j0_224_l20 q0 q1 q2 q3 p4)), .unset, .unset, .unset, .unset, .unset, .unset, .unset, .unset, .unset, .unset] [(.int (lcmpW (j0_30_l11 q0 q1 q2 q3 p4) (j0_81_l14 q0 q1 q2 q3 p4)))])) _
        suffices kt284 : Steps p.tables e below (T7.setTop (mkF m 330 #[.val (.long q0), .second, .val (.long q1), .second, .val (.long q2), .second, .val (.long q3), .second, .val (.int p4), .val (.long (v0_9 q0 q1 q2 q3 p4)), .second, .val (.long (j0_30_l11 q0 q1 q2 q3 p4)), .second, .val (.int (v0_25 q0 q1 q2 q3 p4)), .val (.long (j0_81_l14 q0 q1 q2 q3 p4)), .second, .val (.double (v0_106 q0 q1 q2 q3 p4)), .second, .val (.double (v0_125 q0 q1 q2 q3 p4)), .second, .val (.int (j0_284_l20 q0 q1 q2 q3 p4)), .unset, .unset, .unset, .unset, .unset, .unset, .unset, .unset, .unset, .unset] [])) (T14.setFrames fs) by
          by_cases hc284 : ifCond.holds .ne (lcmpW (j0_30_l11 q0 q1 q2 q3 p4) (j0_81_l14 q0 q1 q2 q3 p4)) = true
          · rw [show (j0_284_l20 q0 q1 q2 q3 p4) = (j0_312_s0 q0 q1 q2 q3 p4) from if_pos hc284] at kt284
            refine XS.ifYes X7.here hx rfl (pc0 := 284) (pc' := 310) rfl (hb hby at_284) rfl hc284 (by decide) (by decide) ?_
            show Steps p.tables e below (T7.setTop (mkF m 310 #[.val (.long q0), .second, .val (.long q1), .second, .val (.long q2), .second, .val (.long q3), .second, .val (.int p4), .val (.long (v0_9 q0 q1 q2 q3 p4)), .second, .val (.long (j0_30_l11 q0 q1 q2 q3 p4)), .second, .val (.int (v0_25 q0 q1 q2 q3 p4)), .val (.long (j0_81_l14 q0 q1 q2 q3 p4)), .second, .val (.double (v0_106 q0 q1 q2 q3 p4)), .second, .val (.double (v0_125 q0 q1 q2 q3 p4)), .second, .val (.int (j0_224_l20 q0 q1 q2 q3 p4)), .unset, .unset, .unset, .unset, .unset, .unset, .unset, .unset, .unset, .unset] [])) _
            refine XS.iload X7.here hx rfl (hb hby at_310) rfl ?_
            show Steps p.tables e below (T7.setTop (mkF m 312 #[.val (.long q0), .second, .val (.long q1), .second, .val (.long q2), .second, .val (.long q3), .second, .val (.int p4), .val (.long (v0_9 q0 q1 q2 q3 p4)), .second, .val (.long (j0_30_l11 q0 q1 q2 q3 p4)), .second, .val (.int (v0_25 q0 q1 q2 q3 p4)), .val (.long (j0_81_l14 q0 q1 q2 q3 p4)), .second, .val (.double (v0_106 q0 q1 q2 q3 p4)), .second, .val (.double (v0_125 q0 q1 q2 q3 p4)), .second, .val (.int (j0_224_l20 q0 q1 q2 q3 p4)), .unset, .unset, .unset, .unset, .unset, .unset, .unset, .unset, .unset, .unset] [(.int (j0_224_l20 q0 q1 q2 q3 p4))])) _
            suffices kt312 : Steps p.tables e below (T7.setTop (mkF m 328 #[.val (.long q0), .second, .val (.long q1), .second, .val (.long q2), .second, .val (.long q3), .second, .val (.int p4), .val (.long (v0_9 q0 q1 q2 q3 p4)), .second, .val (.long (j0_30_l11 q0 q1 q2 q3 p4)), .second, .val (.int (v0_25 q0 q1 q2 q3 p4)), .val (.long (j0_81_l14 q0 q1 q2 q3 p4)), .second, .val (.double (v0_106 q0 q1 q2 q3 p4)), .second, .val (.double (v0_125 q0 q1 q2 q3 p4)), .second, .val (.int (j0_224_l20 q0 q1 q2 q3 p4)), .unset, .unset, .unset, .unset, .unset, .unset, .unset, .unset, .unset, .unset] [(.int (j0_312_s0 q0 q1 q2 q3 p4))])) (T14.setFrames fs) by
              by_cases hc312 : ifCond.holds .eq (j0_224_l20 q0 q1 q2 q3 p4) = true
              · rw [show (j0_312_s0 q0 q1 q2 q3 p4) = (0 : Int32) from if_pos hc312] at kt312
                refine XS.ifYes X7.here hx rfl (pc0 := 312) (pc' := 327) rfl (hb hby at_312) rfl hc312 (by decide) (by decide) ?_
                show Steps p.tables e below (T7.setTop (mkF m 327 #[.val (.long q0), .second, .val (.long q1), .second, .val (.long q2), .second, .val (.long q3), .second, .val (.int p4), .val (.long (v0_9 q0 q1 q2 q3 p4)), .second, .val (.long (j0_30_l11 q0 q1 q2 q3 p4)), .second, .val (.int (v0_25 q0 q1 q2 q3 p4)), .val (.long (j0_81_l14 q0 q1 q2 q3 p4)), .second, .val (.double (v0_106 q0 q1 q2 q3 p4)), .second, .val (.double (v0_125 q0 q1 q2 q3 p4)), .second, .val (.int (j0_224_l20 q0 q1 q2 q3 p4)), .unset, .unset, .unset, .unset, .unset, .unset, .unset, .unset, .unset, .unset] [])) _
                refine XS.iconst X7.here hx rfl (hb hby at_327) ?_
                exact kt312
              · rw [show (j0_312_s0 q0 q1 q2 q3 p4) = (j0_320_s0 q0 q1 q2 q3 p4) from if_neg hc312] at kt312
                refine XS.ifNo X7.here hx rfl (hb hby at_312) rfl (eq_false_of_ne_true hc312) ?_
                show Steps p.tables e below (T7.setTop (mkF m 315 #[.val (.long q0), .second, .val (.long q1), .second, .val (.long q2), .second, .val (.long q3), .second, .val (.int p4), .val (.long (v0_9 q0 q1 q2 q3 p4)), .second, .val (.long (j0_30_l11 q0 q1 q2 q3 p4)), .second, .val (.int (v0_25 q0 q1 q2 q3 p4)), .val (.long (j0_81_l14 q0 q1 q2 q3 p4)), .second, .val (.double (v0_106 q0 q1 q2 q3 p4)), .second, .val (.double (v0_125 q0 q1 q2 q3 p4)), .second, .val (.int (j0_224_l20 q0 q1 q2 q3 p4)), .unset, .unset, .unset, .unset, .unset, .unset, .unset, .unset, .unset, .unset] [])) _
                refine XS.dload X7.here hx rfl (hb hby at_315) rfl ?_
                show Steps p.tables e below (T7.setTop (mkF m 317 #[.val (.long q0), .second, .val (.long q1), .second, .val (.long q2), .second, .val (.long q3), .second, .val (.int p4), .val (.long (v0_9 q0 q1 q2 q3 p4)), .second, .val (.long (j0_30_l11 q0 q1 q2 q3 p4)), .second, .val (.int (v0_25 q0 q1 q2 q3 p4)), .val (.long (j0_81_l14 q0 q1 q2 q3 p4)), .second, .val (.double (v0_106 q0 q1 q2 q3 p4)), .second, .val (.double (v0_125 q0 q1 q2 q3 p4)), .second, .val (.int (j0_224_l20 q0 q1 q2 q3 p4)), .unset, .unset, .unset, .unset, .unset, .unset, .unset, .unset, .unset, .unset] [(.double (v0_106 q0 q1 q2 q3 p4))])) _
                refine XS.dload X7.here hx rfl (hb hby at_317) rfl ?_
                show Steps p.tables e below (T7.setTop (mkF m 319 #[.val (.long q0), .second, .val (.long q1), .second, .val (.long q2), .second, .val (.long q3), .second, .val (.int p4), .val (.long (v0_9 q0 q1 q2 q3 p4)), .second, .val (.long (j0_30_l11 q0 q1 q2 q3 p4)), .second, .val (.int (v0_25 q0 q1 q2 q3 p4)), .val (.long (j0_81_l14 q0 q1 q2 q3 p4)), .second, .val (.double (v0_106 q0 q1 q2 q3 p4)), .second, .val (.double (v0_125 q0 q1 q2 q3 p4)), .second, .val (.int (j0_224_l20 q0 q1 q2 q3 p4)), .unset, .unset, .unset, .unset, .unset, .unset, .unset, .unset, .unset, .unset] [(.double (v0_125 q0 q1 q2 q3 p4)), (.double (v0_106 q0 q1 q2 q3 p4))])) _
                refine XS.dcmpS X7.here hx rfl (hb hby at_319) rfl rfl ?_
                show Steps p.tables e below (T7.setTop (mkF m 320 #[.val (.long q0), .second, .val (.long q1), .second, .val (.long q2), .second, .val (.long q3), .second, .val (.int p4), .val (.long (v0_9 q0 q1 q2 q3 p4)), .second, .val (.long (j0_30_l11 q0 q1 q2 q3 p4)), .second, .val (.int (v0_25 q0 q1 q2 q3 p4)), .val (.long (j0_81_l14 q0 q1 q2 q3 p4)), .second, .val (.double (v0_106 q0 q1 q2 q3 p4)), .second, .val (.double (v0_125 q0 q1 q2 q3 p4)), .second, .val (.int (j0_224_l20 q0 q1 q2 q3 p4)), .unset, .unset, .unset, .unset, .unset, .unset, .unset, .unset, .unset, .unset] [(.int (cmpValue (FP.dcmp (v0_106 q0 q1 q2 q3 p4) (v0_125 q0 q1 q2 q3 p4)) .l))])) _
                suffices kt320 : Steps p.tables e below (T7.setTop (mkF m 328 #[.val (.long q0), .second, .val (.long q1), .second, .val (.long q2), .second, .val (.long q3), .second, .val (.int p4), .val (.long (v0_9 q0 q1 q2 q3 p4)), .second, .val (.long (j0_30_l11 q0 q1 q2 q3 p4)), .second, .val (.int (v0_25 q0 q1 q2 q3 p4)), .val (.long (j0_81_l14 q0 q1 q2 q3 p4)), .second, .val (.double (v0_106 q0 q1 q2 q3 p4)), .second, .val (.double (v0_125 q0 q1 q2 q3 p4)), .second, .val (.int (j0_224_l20 q0 q1 q2 q3 p4)), .unset, .unset, .unset, .unset, .unset, .unset, .unset, .unset, .unset, .unset] [(.int (j0_320_s0 q0 q1 q2 q3 p4))])) (T14.setFrames fs) by
                  by_cases hc320 : ifCond.holds .lt (cmpValue (FP.dcmp (v0_106 q0 q1 q2 q3 p4) (v0_125 q0 q1 q2 q3 p4)) .l) = true
                  · rw [show (j0_320_s0 q0 q1 q2 q3 p4) = (0 : Int32) from if_pos hc320] at kt320
                    refine XS.ifYes X7.here hx rfl (pc0 := 320) (pc' := 327) rfl (hb hby at_320) rfl hc320 (by decide) (by decide) ?_
                    show Steps p.tables e below (T7.setTop (mkF m 327 #[.val (.long q0), .second, .val (.long q1), .second, .val (.long q2), .second, .val (.long q3), .second, .val (.int p4), .val (.long (v0_9 q0 q1 q2 q3 p4)), .second, .val (.long (j0_30_l11 q0 q1 q2 q3 p4)), .second, .val (.int (v0_25 q0 q1 q2 q3 p4)), .val (.long (j0_81_l14 q0 q1 q2 q3 p4)), .second, .val (.double (v0_106 q0 q1 q2 q3 p4)), .second, .val (.double (v0_125 q0 q1 q2 q3 p4)), .second, .val (.int (j0_224_l20 q0 q1 q2 q3 p4)), .unset, .unset, .unset, .unset, .unset, .unset, .unset, .unset, .unset, .unset] [])) _
                    refine XS.iconst X7.here hx rfl (hb hby at_327) ?_
                    exact kt320
                  · rw [show (j0_320_s0 q0 q1 q2 q3 p4) = (1 : Int32) from if_neg hc320] at kt320
                    refine XS.ifNo X7.here hx rfl (hb hby at_320) rfl (eq_false_of_ne_true hc320) ?_
                    show Steps p.tables e below (T7.setTop (mkF m 323 #[.val (.long q0), .second, .val (.long q1), .second, .val (.long q2), .second, .val (.long q3), .second, .val (.int p4), .val (.long (v0_9 q0 q1 q2 q3 p4)), .second, .val (.long (j0_30_l11 q0 q1 q2 q3 p4)), .second, .val (.int (v0_25 q0 q1 q2 q3 p4)), .val (.long (j0_81_l14 q0 q1 q2 q3 p4)), .second, .val (.double (v0_106 q0 q1 q2 q3 p4)), .second, .val (.double (v0_125 q0 q1 q2 q3 p4)), .second, .val (.int (j0_224_l20 q0 q1 q2 q3 p4)), .unset, .unset, .unset, .unset, .unset, .unset, .unset, .unset, .unset, .unset] [])) _
                    refine XS.iconst X7.here hx rfl (hb hby at_323) ?_
                    show Steps p.tables e below (T7.setTop (mkF m 324 #[.val (.long q0), .second, .val (.long q1), .second, .val (.long q2), .second, .val (.long q3), .second, .val (.int p4), .val (.long (v0_9 q0 q1 q2 q3 p4)), .second, .val (.long (j0_30_l11 q0 q1 q2 q3 p4)), .second, .val (.int (v0_25 q0 q1 q2 q3 p4)), .val (.long (j0_81_l14 q0 q1 q2 q3 p4)), .second, .val (.double (v0_106 q0 q1 q2 q3 p4)), .second, .val (.double (v0_125 q0 q1 q2 q3 p4)), .second, .val (.int (j0_224_l20 q0 q1 q2 q3 p4)), .unset, .unset, .unset, .unset, .unset, .unset, .unset, .unset, .unset, .unset] [(.int (1 : Int32))])) _
                    refine XS.goto X7.here hx rfl (pc0 := 324) (pc' := 328) rfl (hb hby at_324) (by decide) (by decide) ?_
                    exact kt320
                exact kt312
            show Steps p.tables e below (T7.setTop (mkF m 328 #[.val (.long q0), .second, .val (.long q1), .second, .val (.long q2), .second, .val (.long q3), .second, .val (.int p4), .val (.long (v0_9 q0 q1 q2 q3 p4)), .second, .val (.long (j0_30_l11 q0 q1 q2 q3 p4)), .second, .val (.int (v0_25 q0 q1 q2 q3 p4)), .val (.long (j0_81_l14 q0 q1 q2 q3 p4)), .second, .val (.double (v0_106 q0 q1 q2 q3 p4)), .second, .val (.double (v0_125 q0 q1 q2 q3 p4)), .second, .val (.int (j0_224_l20 q0 q1 q2 q3 p4)), .unset, .unset, .unset, .unset, .unset, .unset, .unset, .unset, .unset, .unset] [(.int (j0_312_s0 q0 q1 q2 q3 p4))])) _
            refine XS.istore X7.here hx rfl (hb hby at_328) rfl (l' := #[.val (.long q0), .second, .val (.long q1), .second, .val (.long q2), .second, .val (.long q3), .second, .val (.int p4), .val (.long (v0_9 q0 q1 q2 q3 p4)), .second, .val (.long (j0_30_l11 q0 q1 q2 q3 p4)), .second, .val (.int (v0_25 q0 q1 q2 q3 p4)), .val (.long (j0_81_l14 q0 q1 q2 q3 p4)), .second, .val (.double (v0_106 q0 q1 q2 q3 p4)), .second, .val (.double (v0_125 q0 q1 q2 q3 p4)), .second, .val (.int (j0_312_s0 q0 q1 q2 q3 p4)), .unset, .unset, .unset, .unset, .unset, .unset, .unset, .unset, .unset, .unset]) rfl ?_
            exact kt284
          · rw [show (j0_284_l20 q0 q1 q2 q3 p4) = (j0_289_s0 q0 q1 q2 q3 p4) from if_neg hc284] at kt284
            refine XS.ifNo X7.here hx rfl (hb hby at_284) rfl (eq_false_of_ne_true hc284) ?_
            show Steps p.tables e below (T7.setTop (mkF m 287 #[.val (.long q0), .second, .val (.long q1), .second, .val (.long q2), .second, .val (.long q3), .second, .val (.int p4), .val (.long (v0_9 q0 q1 q2 q3 p4)), .second, .val (.long (j0_30_l11 q0 q1 q2 q3 p4)), .second, .val (.int (v0_25 q0 q1 q2 q3 p4)), .val (.long (j0_81_l14 q0 q1 q2 q3 p4)), .second, .val (.double (v0_106 q0 q1 q2 q3 p4)), .second, .val (.double (v0_125 q0 q1 q2 q3 p4)), .second, .val (.int (j0_224_l20 q0 q1 q2 q3 p4)), .unset, .unset, .unset, .unset, .unset, .unset, .unset, .unset, .unset, .unset] [])) _
            refine XS.iload X7.here hx rfl (hb hby at_287) rfl ?_
            show Steps p.tables e below (T7.setTop (mkF m 289 #[.val (.long q0), .second, .val (.long q1), .second, .val (.long q2), .second, .val (.long q3), .second, .val (.int p4), .val (.long (v0_9 q0 q1 q2 q3 p4)), .second, .val (.long (j0_30_l11 q0 q1 q2 q3 p4)), .second, .val (.int (v0_25 q0 q1 q2 q3 p4)), .val (.long (j0_81_l14 q0 q1 q2 q3 p4)), .second, .val (.double (v0_106 q0 q1 q2 q3 p4)), .second, .val (.double (v0_125 q0 q1 q2 q3 p4)), .second, .val (.int (j0_224_l20 q0 q1 q2 q3 p4)), .unset, .unset, .unset, .unset, .unset, .unset, .unset, .unset, .unset, .unset] [(.int (j0_224_l20 q0 q1 q2 q3 p4))])) _
            suffices kt289 : Steps p.tables e below (T7.setTop (mkF m 305 #[.val (.long q0), .second, .val (.long q1), .second, .val (.long q2), .second, .val (.long q3), .second, .val (.int p4), .val (.long (v0_9 q0 q1 q2 q3 p4)), .second, .val (.long (j0_30_l11 q0 q1 q2 q3 p4)), .second, .val (.int (v0_25 q0 q1 q2 q3 p4)), .val (.long (j0_81_l14 q0 q1 q2 q3 p4)), .second, .val (.double (v0_106 q0 q1 q2 q3 p4)), .second, .val (.double (v0_125 q0 q1 q2 q3 p4)), .second, .val (.int (j0_224_l20 q0 q1 q2 q3 p4)), .unset, .unset, .unset, .unset, .unset, .unset, .unset, .unset, .unset, .unset] [(.int (j0_289_s0 q0 q1 q2 q3 p4))])) (T14.setFrames fs) by
              by_cases hc289 : ifCond.holds .eq (j0_224_l20 q0 q1 q2 q3 p4) = true
              · rw [show (j0_289_s0 q0 q1 q2 q3 p4) = (0 : Int32) from if_pos hc289] at kt289
                refine XS.ifYes X7.here hx rfl (pc0 := 289) (pc' := 304) rfl (hb hby at_289) rfl hc289 (by decide) (by decide) ?_
                show Steps p.tables e below (T7.setTop (mkF m 304 #[.val (.long q0), .second, .val (.long q1), .second, .val (.long q2), .second, .val (.long q3), .second, .val (.int p4), .val (.long (v0_9 q0 q1 q2 q3 p4)), .second, .val (.long (j0_30_l11 q0 q1 q2 q3 p4)), .second, .val (.int (v0_25 q0 q1 q2 q3 p4)), .val (.long (j0_81_l14 q0 q1 q2 q3 p4)), .second, .val (.double (v0_106 q0 q1 q2 q3 p4)), .second, .val (.double (v0_125 q0 q1 q2 q3 p4)), .second, .val (.int (j0_224_l20 q0 q1 q2 q3 p4)), .unset, .unset, .unset, .unset, .unset, .unset, .unset, .unset, .unset, .unset] [])) _
                refine XS.iconst X7.here hx rfl (hb hby at_304) ?_
                exact kt289
              · rw [show (j0_289_s0 q0 q1 q2 q3 p4) = (j0_297_s0 q0 q1 q2 q3 p4) from if_neg hc289] at kt289
                refine XS.ifNo X7.here hx rfl (hb hby at_289) rfl (eq_false_of_ne_true hc289) ?_
                show Steps p.tables e below (T7.setTop (mkF m 292 #[.val (.long q0), .second, .val (.long q1), .second, .val (.long q2), .second, .val (.long q3), .second, .val (.int p4), .val (.long (v0_9 q0 q1 q2 q3 p4)), .second, .val (.long (j0_30_l11 q0 q1 q2 q3 p4)), .second, .val (.int (v0_25 q0 q1 q2 q3 p4)), .val (.long (j0_81_l14 q0 q1 q2 q3 p4)), .second, .val (.double (v0_106 q0 q1 q2 q3 p4)), .second, .val (.double (v0_125 q0 q1 q2 q3 p4)), .second, .val (.int (j0_224_l20 q0 q1 q2 q3 p4)), .unset, .unset, .unset, .unset, .unset, .unset, .unset, .unset, .unset, .unset] [])) _
                refine XS.dload X7.here hx rfl (hb hby at_292) rfl ?_
                show Steps p.tables e below (T7.setTop (mkF m 294 #[.val (.long q0), .second, .val (.long q1), .second, .val (.long q2), .second, .val (.long q3), .second, .val (.int p4), .val (.long (v0_9 q0 q1 q2 q3 p4)), .second, .val (.long (j0_30_l11 q0 q1 q2 q3 p4)), .second, .val (.int (v0_25 q0 q1 q2 q3 p4)), .val (.long (j0_81_l14 q0 q1 q2 q3 p4)), .second, .val (.double (v0_106 q0 q1 q2 q3 p4)), .second, .val (.double (v0_125 q0 q1 q2 q3 p4)), .second, .val (.int (j0_224_l20 q0 q1 q2 q3 p4)), .unset, .unset, .unset, .unset, .unset, .unset, .unset, .unset, .unset, .unset] [(.double (v0_106 q0 q1 q2 q3 p4))])) _
                refine XS.dload X7.here hx rfl (hb hby at_294) rfl ?_
                show Steps p.tables e below (T7.setTop (mkF m 296 #[.val (.long q0), .second, .val (.long q1), .second, .val (.long q2), .second, .val (.long q3), .second, .val (.int p4), .val (.long (v0_9 q0 q1 q2 q3 p4)), .second, .val (.long (j0_30_l11 q0 q1 q2 q3 p4)), .second, .val (.int (v0_25 q0 q1 q2 q3 p4)), .val (.long (j0_81_l14 q0 q1 q2 q3 p4)), .second, .val (.double (v0_106 q0 q1 q2 q3 p4)), .second, .val (.double (v0_125 q0 q1 q2 q3 p4)), .second, .val (.int (j0_224_l20 q0 q1 q2 q3 p4)), .unset, .unset, .unset, .unset, .unset, .unset, .unset, .unset, .unset, .unset] [(.double (v0_125 q0 q1 q2 q3 p4)), (.double (v0_106 q0 q1 q2 q3 p4))])) _
                refine XS.dcmpS X7.here hx rfl (hb hby at_296) rfl rfl ?_
                show Steps p.tables e below (T7.setTop (mkF m 297 #[.val (.long q0), .second, .val (.long q1), .second, .val (.long q2), .second, .val (.long q3), .second, .val (.int p4), .val (.long (v0_9 q0 q1 q2 q3 p4)), .second, .val (.long (j0_30_l11 q0 q1 q2 q3 p4)), .second, .val (.int (v0_25 q0 q1 q2 q3 p4)), .val (.long (j0_81_l14 q0 q1 q2 q3 p4)), .second, .val (.double (v0_106 q0 q1 q2 q3 p4)), .second, .val (.double (v0_125 q0 q1 q2 q3 p4)), .second, .val (.int (j0_224_l20 q0 q1 q2 q3 p4)), .unset, .unset, .unset, .unset, .unset, .unset, .unset, .unset, .unset, .unset] [(.int (cmpValue (FP.dcmp (v0_106 q0 q1 q2 q3 p4) (v0_125 q0 q1 q2 q3 p4)) .l))])) _
                suffices kt297 : Steps p.tables e below (T7.setTop (mkF m 305 #[.val (.long q0), .second, .val (.long q1), .second, .val (.long q2), .second, .val (.long q3), .second, .val (.int p4), .val (.long (v0_9 q0 q1 q2 q3 p4)), .second, .val (.long (j0_30_l11 q0 q1 q2 q3 p4)), .second, .val (.int (v0_25 q0 q1 q2 q3 p4)), .val (.long (j0_81_l14 q0 q1 q2 q3 p4)), .second, .val (.double (v0_106 q0 q1 q2 q3 p4)), .second, .val (.double (v0_125 q0 q1 q2 q3 p4)), .second, .val (.int (j0_224_l20 q0 q1 q2 q3 p4)), .unset, .unset, .unset, .unset, .unset, .unset, .unset, .unset, .unset, .unset] [(.int (j0_297_s0 q0 q1 q2 q3 p4))])) (T14.setFrames fs) by
                  by_cases hc297 : ifCond.holds .ne (cmpValue (FP.dcmp (v0_106 q0 q1 q2 q3 p4) (v0_125 q0 q1 q2 q3 p4)) .l) = true
                  · rw [show (j0_297_s0 q0 q1 q2 q3 p4) = (0 : Int32) from if_pos hc297] at kt297
                    refine XS.ifYes X7.here hx rfl (pc0 := 297) (pc' := 304) rfl (hb hby at_297) rfl hc297 (by decide) (by decide) ?_
                    show Steps p.tables e below (T7.setTop (mkF m 304 #[.val (.long q0), .second, .val (.long q1), .second, .val (.long q2), .second, .val (.long q3), .second, .val (.int p4), .val (.long (v0_9 q0 q1 q2 q3 p4)), .second, .val (.long (j0_30_l11 q0 q1 q2 q3 p4)), .second, .val (.int (v0_25 q0 q1 q2 q3 p4)), .val (.long (j0_81_l14 q0 q1 q2 q3 p4)), .second, .val (.double (v0_106 q0 q1 q2 q3 p4)), .second, .val (.double (v0_125 q0 q1 q2 q3 p4)), .second, .val (.int (j0_224_l20 q0 q1 q2 q3 p4)), .unset, .unset, .unset, .unset, .unset, .unset, .unset, .unset, .unset, .unset] [])) _
                    refine XS.iconst X7.here hx rfl (hb hby at_304) ?_
                    exact kt297
                  · rw [show (j0_297_s0 q0 q1 q2 q3 p4) = (1 : Int32) from if_neg hc297] at kt297
                    refine XS.ifNo X7.here hx rfl (hb hby at_297) rfl (eq_false_of_ne_true hc297) ?_
                    show Steps p.tables e below (T7.setTop (mkF m 300 #[.val (.long q0), .second, .val (.long q1), .second, .val (.long q2), .second, .val (.long q3), .second, .val (.int p4), .val (.long (v0_9 q0 q1 q2 q3 p4)), .second, .val (.long (j0_30_l11 q0 q1 q2 q3 p4)), .second, .val (.int (v0_25 q0 q1 q2 q3 p4)), .val (.long (j0_81_l14 q0 q1 q2 q3 p4)), .second, .val (.double (v0_106 q0 q1 q2 q3 p4)), .second, .val (.double (v0_125 q0 q1 q2 q3 p4)), .second, .val (.int (j0_224_l20 q0 q1 q2 q3 p4)), .unset, .unset, .unset, .unset, .unset, .unset, .unset, .unset, .unset, .unset] [])) _
                    refine XS.iconst X7.here hx rfl (hb hby at_300) ?_
                    show Steps p.tables e below (T7.setTop (mkF m 301 #[.val (.long q0), .second, .val (.long q1), .second, .val (.long q2), .second, .val (.long q3), .second, .val (.int p4), .val (.long (v0_9 q0 q1 q2 q3 p4)), .second, .val (.long (j0_30_l11 q0 q1 q2 q3 p4)), .second, .val (.int (v0_25 q0 q1 q2 q3 p4)), .val (.long (j0_81_l14 q0 q1 q2 q3 p4)), .second, .val (.double (v0_106 q0 q1 q2 q3 p4)), .second, .val (.double (v0_125 q0 q1 q2 q3 p4)), .second, .val (.int (j0_224_l20 q0 q1 q2 q3 p4)), .unset, .unset, .unset, .unset, .unset, .unset, .unset, .unset, .unset, .unset] [(.int (1 : Int32))])) _
                    refine XS.goto X7.here hx rfl (pc0 := 301) (pc' := 305) rfl (hb hby at_301) (by decide) (by decide) ?_
                    exact kt297
                exact kt289
            show Steps p.tables e below (T7.setTop (mkF m 305 #[.val (.long q0), .second, .val (.long q1), .second, .val (.long q2), .second, .val (.long q3), .second, .val (.int p4), .val (.long (v0_9 q0 q1 q2 q3 p4)), .second, .val (.long (j0_30_l11 q0 q1 q2 q3 p4)), .second, .val (.int (v0_25 q0 q1 q2 q3 p4)), .val (.long (j0_81_l14 q0 q1 q2 q3 p4)), .second, .val (.double (v0_106 q0 q1 q2 q3 p4)), .second, .val (.double (v0_125 q0 q1 q2 q3 p4)), .second, .val (.int (j0_224_l20 q0 q1 q2 q3 p4)), .unset, .unset, .unset, .unset, .unset, .unset, .unset, .unset, .unset, .unset] [(.int (j0_289_s0 q0 q1 q2 q3 p4))])) _
            refine XS.istore X7.here hx rfl (hb hby at_305) rfl (l' := #[.val (.long q0), .second, .val (.long q1), .second, .val (.long q2), .second, .val (.long q3), .second, .val (.int p4), .val (.long (v0_9 q0 q1 q2 q3 p4)), .second, .val (.long (j0_30_l11 q0 q1 q2 q3 p4)), .second, .val (.int (v0_25 q0 q1 q2 q3 p4)), .val (.long (j0_81_l14 q0 q1 q2 q3 p4)), .second, .val (.double (v0_106 q0 q1 q2 q3 p4)), .second, .val (.double (v0_125 q0 q1 q2 q3 p4)), .second, .val (.int (j0_289_s0 q0 q1 q2 q3 p4)), .unset, .unset, .unset, .unset, .unset, .unset, .unset, .unset, .unset, .unset]) rfl ?_
            show Steps p.tables e below (T7.setTop (mkF m 307 #[.val (.long q0), .second, .val (.long q1), .second, .val (.long q2), .second, .val (.long q3), .second, .val (.int p4), .val (.long (v0_9 q0 q1 q2 q3 p4)), .second, .val (.long (j0_30_l11 q0 q1 q2 q3 p4)), .second, .val (.int (v0_25 q0 q1 q2 q3 p4)), .val (.long (j0_81_l14 q0 q1 q2 q3 p4)), .second, .val (.double (v0_106 q0 q1 q2 q3 p4)), .second, .val (.double (v0_125 q0 q1 q2 q3 p4)), .second, .val (.int (j0_289_s0 q0 q1 q2 q3 p4)), .unset, .unset, .unset, .unset, .unset, .unset, .unset, .unset, .unset, .unset] [])) _
            refine XS.goto X7.here hx rfl (pc0 := 307) (pc' := 330) rfl (hb hby at_307) (by decide) (by decide) ?_
            exact kt284
        exact kt253
      · rw [show (j0_253_l20 q0 q1 q2 q3 p4) = (j0_258_s0 q0 q1 q2 q3 p4) from if_neg hc253] at kt253
        refine XS.ifNo X7.here hx rfl (hb hby at_253) rfl (eq_false_of_ne_true hc253) ?_
        show Steps p.tables e below (T7.setTop (mkF m 256 #[.val (.long q0), .second, .val (.long q1), .second, .val (.long q2), .second, .val (.long q3), .second, .val (.int p4), .val (.long (v0_9 q0 q1 q2 q3 p4)), .second, .val (.long (j0_30_l11 q0 q1 q2 q3 p4)), .second, .val (.int (v0_25 q0 q1 q2 q3 p4)), .val (.long (j0_81_l14 q0 q1 q2 q3 p4)), .second, .val (.double (v0_106 q0 q1 q2 q3 p4)), .second, .val (.double (v0_125 q0 q1 q2 q3 p4)), .second, .val (.int (j0_224_l20 q0 q1 q2 q3 p4)), .unset, .unset, .unset, .unset, .unset, .unset, .unset, .unset, .unset, .unset] [])) _
        refine XS.iload X7.here hx rfl (hb hby at_256) rfl ?_
        show Steps p.tables e below (T7.setTop (mkF m 258 #[.val (.long q0), .second, .val (.long q1), .second, .val (.long q2), .second, .val (.long q3), .second, .val (.int p4), .val (.long (v0_9 q0 q1 q2 q3 p4)), .second, .val (.long (j0_30_l11 q0 q1 q2 q3 p4)), .second, .val (.int (v0_25 q0 q1 q2 q3 p4)), .val (.long (j0_81_l14 q0 q1 q2 q3 p4)), .second, .val (.double (v0_106 q0 q1 q2 q3 p4)), .second, .val (.double (v0_125 q0 q1 q2 q3 p4)), .second, .val (.int (j0_224_l20 q0 q1 q2 q3 p4)), .unset, .unset, .unset, .unset, .unset, .unset, .unset, .unset, .unset, .unset] [(.int (j0_224_l20 q0 q1 q2 q3 p4))])) _
        suffices kt258 : Steps p.tables e below (T7.setTop (mkF m 274 #[.val (.long q0), .second, .val (.long q1), .second, .val (.long q2), .second, .val (.long q3), .second, .val (.int p4), .val (.long (v0_9 q0 q1 q2 q3 p4)), .second, .val (.long (j0_30_l11 q0 q1 q2 q3 p4)), .second, .val (.int (v0_25 q0 q1 q2 q3 p4)), .val (.long (j0_81_l14 q0 q1 q2 q3 p4)), .second, .val (.double (v0_106 q0 q1 q2 q3 p4)), .second, .val (.double (v0_125 q0 q1 q2 q3 p4)), .second, .val (.int (j0_224_l20 q0 q1 q2 q3 p4)), .unset, .unset, .unset, .unset, .unset, .unset, .unset, .unset, .unset, .unset] [(.int (j0_258_s0 q0 q1 q2 q3 p4))])) (T14.setFrames fs) by
          by_cases hc258 : ifCond.holds .eq (j0_224_l20 q0 q1 q2 q3 p4) = true
          · rw [show (j0_258_s0 q0 q1 q2 q3 p4) = (0 : Int32) from if_pos hc258] at kt258
            refine XS.ifYes X7.here hx rfl (pc0 := 258) (pc' := 273) rfl (hb hby at_258) rfl hc258 (by decide) (by decide) ?_
            show Steps p.tables e below (T7.setTop (mkF m 273 #[.val (.long q0), .second, .val (.long q1), .second, .val (.long q2), .second, .val (.long q3), .second, .val (.int p4), .val (.long (v0_9 q0 q1 q2 q3 p4)), .second, .val (.long (j0_30_l11 q0 q1 q2 q3 p4)), .second, .val (.int (v0_25 q0 q1 q2 q3 p4)), .val (.long (j0_81_l14 q0 q1 q2 q3 p4)), .second, .val (.double (v0_106 q0 q1 q2 q3 p4)), .second, .val (.double (v0_125 q0 q1 q2 q3 p4)), .second, .val (.int (j0_224_l20 q0 q1 q2 q3 p4)), .unset, .unset, .unset, .unset, .unset, .unset, .unset, .unset, .unset, .unset] [])) _
            refine XS.iconst X7.here hx rfl (hb hby at_273) ?_
            exact kt258
          · rw [show (j0_258_s0 q0 q1 q2 q3 p4) = (j0_266_s0 q0 q1 q2 q3 p4) from if_neg hc258] at kt258
            refine XS.ifNo X7.here hx rfl (hb hby at_258) rfl (eq_false_of_ne_true hc258) ?_
            show Steps p.tables e below (T7.setTop (mkF m 261 #[.val (.long q0), .second, .val (.long q1), .second, .val (.long q2), .second, .val (.long q3), .second, .val (.int p4), .val (.long (v0_9 q0 q1 q2 q3 p4)), .second, .val (.long (j0_30_l11 q0 q1 q2 q3 p4)), .second, .val (.int (v0_25 q0 q1 q2 q3 p4)), .val (.long (j0_81_l14 q0 q1 q2 q3 p4)), .second, .val (.double (v0_106 q0 q1 q2 q3 p4)), .second, .val (.double (v0_125 q0 q1 q2 q3 p4)), .second, .val (.int (j0_224_l20 q0 q1 q2 q3 p4)), .unset, .unset, .unset, .unset, .unset, .unset, .unset, .unset, .unset, .unset] [])) _
            refine XS.dload X7.here hx rfl (hb hby at_261) rfl ?_
            show Steps p.tables e below (T7.setTop (mkF m 263 #[.val (.long q0), .second, .val (.long q1), .second, .val (.long q2), .second, .val (.long q3), .second, .val (.int p4), .val (.long (v0_9 q0 q1 q2 q3 p4)), .second, .val (.long (j0_30_l11 q0 q1 q2 q3 p4)), .second, .val (.int (v0_25 q0 q1 q2 q3 p4)), .val (.long (j0_81_l14 q0 q1 q2 q3 p4)), .second, .val (.double (v0_106 q0 q1 q2 q3 p4)), .second, .val (.double (v0_125 q0 q1 q2 q3 p4)), .second, .val (.int (j0_224_l20 q0 q1 q2 q3 p4)), .unset, .unset, .unset, .unset, .unset, .unset, .unset, .unset, .unset, .unset] [(.double (v0_106 q0 q1 q2 q3 p4))])) _
            refine XS.dload X7.here hx rfl (hb hby at_263) rfl ?_
            show Steps p.tables e below (T7.setTop (mkF m 265 #[.val (.long q0), .second, .val (.long q1), .second, .val (.long q2), .second, .val (.long q3), .second, .val (.int p4), .val (.long (v0_9 q0 q1 q2 q3 p4)), .second, .val (.long (j0_30_l11 q0 q1 q2 q3 p4)), .second, .val (.int (v0_25 q0 q1 q2 q3 p4)), .val (.long (j0_81_l14 q0 q1 q2 q3 p4)), .second, .val (.double (v0_106 q0 q1 q2 q3 p4)), .second, .val (.double (v0_125 q0 q1 q2 q3 p4)), .second, .val (.int (j0_224_l20 q0 q1 q2 q3 p4)), .unset, .unset, .unset, .unset, .unset, .unset, .unset, .unset, .unset, .unset] [(.double (v0_125 q0 q1 q2 q3 p4)), (.double (v0_106 q0 q1 q2 q3 p4))])) _
            refine XS.dcmpS X7.here hx rfl (hb hby at_265) rfl rfl ?_
            show Steps p.tables e below (T7.setTop (mkF m 266 #[.val (.long q0), .second, .val (.long q1), .second, .val (.long q2), .second, .val (.long q3), .second, .val (.int p4), .val (.long (v0_9 q0 q1 q2 q3 p4)), .second, .val (.long (j0_30_l11 q0 q1 q2 q3 p4)), .second, .val (.int (v0_25 q0 q1 q2 q3 p4)), .val (.long (j0_81_l14 q0 q1 q2 q3 p4)), .second, .val (.double (v0_106 q0 q1 q2 q3 p4)), .second, .val (.double (v0_125 q0 q1 q2 q3 p4)), .second, .val (.int (j0_224_l20 q0 q1 q2 q3 p4)), .unset, .unset, .unset, .unset, .unset, .unset, .unset, .unset, .unset, .unset] [(.int (cmpValue (FP.dcmp (v0_106 q0 q1 q2 q3 p4) (v0_125 q0 q1 q2 q3 p4)) .g))])) _
            suffices kt266 : Steps p.tables e below (T7.setTop (mkF m 274 #[.val (.long q0), .second, .val (.long q1), .second, .val (.long q2), .second, .val (.long q3), .second, .val (.int p4), .val (.long (v0_9 q0 q1 q2 q3 p4)), .second, .val (.long (j0_30_l11 q0 q1 q2 q3 p4)), .second, .val (.int (v0_25 q0 q1 q2 q3 p4)), .val (.long (j0_81_l14 q0 q1 q2 q3 p4)), .second, .val (.double (v0_106 q0 q1 q2 q3 p4)), .second, .val (.double (v0_125 q0 q1 q2 q3 p4)), .second, .val (.int (j0_224_l20 q0 q1 q2 q3 p4)), .unset, .unset, .unset, .unset, .unset, .unset, .unset, .unset, .unset, .unset] [(.int (j0_266_s0 q0 q1 q2 q3 p4))])) (T14.setFrames fs) by
              by_cases hc266 : ifCond.holds .gt (cmpValue (FP.dcmp (v0_106 q0 q1 q2 q3 p4) (v0_125 q0 q1 q2 q3 p4)) .g) = true
              · rw [show (j0_266_s0 q0 q1 q2 q3 p4) = (0 : Int32) from if_pos hc266] at kt266
                refine XS.ifYes X7.here hx rfl (pc0 := 266) (pc' := 273) rfl (hb hby at_266) rfl hc266 (by decide) (by decide) ?_
                show Steps p.tables e below (T7.setTop (mkF m 273 #[.val (.long q0), .second, .val (.long q1), .second, .val (.long q2), .second, .val (.long q3), .second, .val (.int p4), .val (.long (v0_9 q0 q1 q2 q3 p4)), .second, .val (.long (j0_30_l11 q0 q1 q2 q3 p4)), .second, .val (.int (v0_25 q0 q1 q2 q3 p4)), .val (.long (j0_81_l14 q0 q1 q2 q3 p4)), .second, .val (.double (v0_106 q0 q1 q2 q3 p4)), .second, .val (.double (v0_125 q0 q1 q2 q3 p4)), .second, .val (.int (j0_224_l20 q0 q1 q2 q3 p4)), .unset, .unset, .unset, .unset, .unset, .unset, .unset, .unset, .unset, .unset] [])) _
                refine XS.iconst X7.here hx rfl (hb hby at_273) ?_
                exact kt266
              · rw [show (j0_266_s0 q0 q1 q2 q3 p4) = (1 : Int32) from if_neg hc266] at kt266
                refine XS.ifNo X7.here hx rfl (hb hby at_266) rfl (eq_false_of_ne_true hc266) ?_
                show Steps p.tables e below (T7.setTop (mkF m 269 #[.val (.long q0), .second, .val (.long q1), .second, .val (.long q2), .second, .val (.long q3), .second, .val (.int p4), .val (.long (v0_9 q0 q1 q2 q3 p4)), .second, .val (.long (j0_30_l11 q0 q1 q2 q3 p4)), .second, .val (.int (v0_25 q0 q1 q2 q3 p4)), .val (.long (j0_81_l14 q0 q1 q2 q3 p4)), .second, .val (.double (v0_106 q0 q1 q2 q3 p4)), .second, .val (.double (v0_125 q0 q1 q2 q3 p4)), .second, .val (.int (j0_224_l20 q0 q1 q2 q3 p4)), .unset, .unset, .unset, .unset, .unset, .unset, .unset, .unset, .unset, .unset] [])) _
                refine XS.iconst X7.here hx rfl (hb hby at_269) ?_
                show Steps p.tables e below (T7.setTop (mkF m 270 #[.val (.long q0), .second, .val (.long q1), .second, .val (.long q2), .second, .val (.long q3), .second, .val (.int p4), .val (.long (v0_9 q0 q1 q2 q3 p4)), .second, .val (.long (j0_30_l11 q0 q1 q2 q3 p4)), .second, .val (.int (v0_25 q0 q1 q2 q3 p4)), .val (.long (j0_81_l14 q0 q1 q2 q3 p4)), .second, .val (.double (v0_106 q0 q1 q2 q3 p4)), .second, .val (.double (v0_125 q0 q1 q2 q3 p4)), .second, .val (.int (j0_224_l20 q0 q1 q2 q3 p4)), .unset, .unset, .unset, .unset, .unset, .unset, .unset, .unset, .unset, .unset] [(.int (1 : Int32))])) _
                refine XS.goto X7.here hx rfl (pc0 := 270) (pc' := 274) rfl (hb hby at_270) (by decide) (by decide) ?_
                exact kt266
            exact kt258
        show Steps p.tables e below (T7.setTop (mkF m 274 #[.val (.long q0), .second, .val (.long q1), .second, .val (.long q2), .second, .val (.long q3), .second, .val (.int p4), .val (.long (v0_9 q0 q1 q2 q3 p4)), .second, .val (.long (j0_30_l11 q0 q1 q2 q3 p4)), .second, .val (.int (v0_25 q0 q1 q2 q3 p4)), .val (.long (j0_81_l14 q0 q1 q2 q3 p4)), .second, .val (.double (v0_106 q0 q1 q2 q3 p4)), .second, .val (.double (v0_125 q0 q1 q2 q3 p4)), .second, .val (.int (j0_224_l20 q0 q1 q2 q3 p4)), .unset, .unset, .unset, .unset, .unset, .unset, .unset, .unset, .unset, .unset] [(.int (j0_258_s0 q0 q1 q2 q3 p4))])) _
        refine XS.istore X7.here hx rfl (hb hby at_274) rfl (l' := #[.val (.long q0), .second, .val (.long q1), .second, .val (.long q2), .second, .val (.long q3), .second, .val (.int p4), .val (.long (v0_9 q0 q1 q2 q3 p4)), .second, .val (.long (j0_30_l11 q0 q1 q2 q3 p4)), .second, .val (.int (v0_25 q0 q1 q2 q3 p4)), .val (.long (j0_81_l14 q0 q1 q2 q3 p4)), .second, .val (.double (v0_106 q0 q1 q2 q3 p4)), .second, .val (.double (v0_125 q0 q1 q2 q3 p4)), .second, .val (.int (j0_258_s0 q0 q1 q2 q3 p4)), .unset, .unset, .unset, .unset, .unset, .unset, .unset, .unset, .unset, .unset]) rfl ?_
        show Steps p.tables e below (T7.setTop (mkF m 276 #[.val (.long q0), .second, .val (.long q1), .second, .val (.long q2), .second, .val (.long q3), .second, .val (.int p4), .val (.long (v0_9 q0 q1 q2 q3 p4)), .second, .val (.long (j0_30_l11 q0 q1 q2 q3 p4)), .second, .val (.int (v0_25 q0 q1 q2 q3 p4)), .val (.long (j0_81_l14 q0 q1 q2 q3 p4)), .second, .val (.double (v0_106 q0 q1 q2 q3 p4)), .second, .val (.double (v0_125 q0 q1 q2 q3 p4)), .second, .val (.int (j0_258_s0 q0 q1 q2 q3 p4)), .unset, .unset, .unset, .unset, .unset, .unset, .unset, .unset, .unset, .unset] [])) _
        refine XS.goto X7.here hx rfl (pc0 := 276) (pc' := 330) rfl (hb hby at_276) (by decide) (by decide) ?_
        exact kt253
    show Steps p.tables e below (T7.setTop (mkF m 330 #[.val (.long q0), .second, .val (.long q1), .second, .val (.long q2), .second, .val (.long q3), .second, .val (.int p4), .val (.long (v0_9 q0 q1 q2 q3 p4)), .second, .val (.long (j0_30_l11 q0 q1 q2 q3 p4)), .second, .val (.int (v0_25 q0 q1 q2 q3 p4)), .val (.long (j0_81_l14 q0 q1 q2 q3 p4)), .second, .val (.double (v0_106 q0 q1 q2 q3 p4)), .second, .val (.double (v0_125 q0 q1 q2 q3 p4)), .second, .val (.int (j0_253_l20 q0 q1 q2 q3 p4)), .unset, .unset, .unset, .unset, .unset, .unset, .unset, .unset, .unset, .unset] [])) _
    refine XS.lconst X7.here hx rfl (hb hby at_330) ?_
    show Steps p.tables e below (T7.setTop (mkF m 331 #[.val (.long q0), .second, .val (.long q1), .second, .val (.long q2), .second, .val (.long q3), .second, .val (.int p4), .val (.long (v0_9 q0 q1 q2 q3 p4)), .second, .val (.long (j0_30_l11 q0 q1 q2 q3 p4)), .second, .val (.int (v0_25 q0 q1 q2 q3 p4)), .val (.long (j0_81_l14 q0 q1 q2 q3 p4)), .second, .val (.double (v0_106 q0 q1 q2 q3 p4)), .second, .val (.double (v0_125 q0 q1 q2 q3 p4)), .second, .val (.int (j0_253_l20 q0 q1 q2 q3 p4)), .unset, .unset, .unset, .unset, .unset, .unset, .unset, .unset, .unset, .unset] [(.long (1 : Int64))])) _
    refine XS.lloadN X7.here hx rfl (hb hby at_331) rfl ?_
    show Steps p.tables e below (T7.setTop (mkF m 332 #[.val (.long q0), .second, .val (.long q1), .second, .val (.long q2), .second, .val (.long q3), .second, .val (.int p4), .val (.long (v0_9 q0 q1 q2 q3 p4)), .second, .val (.long (j0_30_l11 q0 q1 q2 q3 p4)), .second, .val (.int (v0_25 q0 q1 q2 q3 p4)), .val (.long (j0_81_l14 q0 q1 q2 q3 p4)), .second, .val (.double (v0_106 q0 q1 q2 q3 p4)), .second, .val (.double (v0_125 q0 q1 q2 q3 p4)), .second, .val (.int (j0_253_l20 q0 q1 q2 q3 p4)), .unset, .unset, .unset, .unset, .unset, .unset, .unset, .unset, .unset, .unset] [(.long q0), (.long (1 : Int64))])) _
    refine X7.ldc2Long hx hown (mvT hZ (hw _ (List.mem_of_getElem? (i := 33) rfl))) (g := (mkF m 332 #[.val (.long q0), .second, .val (.long q1), .second, .val (.long q2), .second, .val (.long q3), .second, .val (.int p4), .val (.long (v0_9 q0 q1 q2 q3 p4)), .second, .val (.long (j0_30_l11 q0 q1 q2 q3 p4)), .second, .val (.int (v0_25 q0 q1 q2 q3 p4)), .val (.long (j0_81_l14 q0 q1 q2 q3 p4)), .second, .val (.double (v0_106 q0 q1 q2 q3 p4)), .second, .val (.double (v0_125 q0 q1 q2 q3 p4)), .second, .val (.int (j0_253_l20 q0 q1 q2 q3 p4)), .unset, .unset, .unset, .unset, .unset, .unset, .unset, .unset, .unset, .unset] [(.long q0), (.long (1 : Int64))])) rfl (hb hby at_332) _ ?_
    show Steps p.tables e below (T7.setTop (mkF m 335 #[.val (.long q0), .second, .val (.long q1), .second, .val (.long q2), .second, .val (.long q3), .second, .val (.int p4), .val (.long (v0_9 q0 q1 q2 q3 p4)), .second, .val (.long (j0_30_l11 q0 q1 q2 q3 p4)), .second, .val (.int (v0_25 q0 q1 q2 q3 p4)), .val (.long (j0_81_l14 q0 q1 q2 q3 p4)), .second, .val (.double (v0_106 q0 q1 q2 q3 p4)), .second, .val (.double (v0_125 q0 q1 q2 q3 p4)), .second, .val (.int (j0_253_l20 q0 q1 q2 q3 p4)), .unset, .unset, .unset, .unset, .unset, .unset, .unset, .unset, .unset, .unset] [(.long (562949953421311 : Int64)), (.long q0), (.long (1 : Int64))])) _
    refine XS.land X7.here hx rfl (hb hby at_335) rfl ?_
    show Steps p.tables e below (T7.setTop (mkF m 336 #[.val (.long q0), .second, .val (.long q1), .second, .val (.long q2), .second, .val (.long q3), .second, .val (.int p4), .val (.long (v0_9 q0 q1 q2 q3 p4)), .second, .val (.long (j0_30_l11 q0 q1 q2 q3 p4)), .second, .val (.int (v0_25 q0 q1 q2 q3 p4)), .val (.long (j0_81_l14 q0 q1 q2 q3 p4)), .second, .val (.double (v0_106 q0 q1 q2 q3 p4)), .second, .val (.double (v0_125 q0 q1 q2 q3 p4)), .second, .val (.int (j0_253_l20 q0 q1 q2 q3 p4)), .unset, .unset, .unset, .unset, .unset, .unset, .unset, .unset, .unset, .unset] [(.long (q0 &&& (562949953421311 : Int64))), (.long (1 : Int64))])) _
    refine st8 _ ?_
    show Steps p.tables e below (T8.setTop (mkF m 339 #[.val (.long q0), .second, .val (.long q1), .second, .val (.long q2), .second, .val (.long q3), .second, .val (.int p4), .val (.long (v0_9 q0 q1 q2 q3 p4)), .second, .val (.long (j0_30_l11 q0 q1 q2 q3 p4)), .second, .val (.int (v0_25 q0 q1 q2 q3 p4)), .val (.long (j0_81_l14 q0 q1 q2 q3 p4)), .second, .val (.double (v0_106 q0 q1 q2 q3 p4)), .second, .val (.double (v0_125 q0 q1 q2 q3 p4)), .second, .val (.int (j0_253_l20 q0 q1 q2 q3 p4)), .unset, .unset, .unset, .unset, .unset, .unset, .unset, .unset, .unset, .unset] [(.long (j1_3_s0 (1 : Int64) (q0 &&& (562949953421311 : Int64))))])) _
    refine XS.lstore X8.here hx rfl (hb hby at_339) rfl (l' := #[.val (.long q0), .second, .val (.long q1), .second, .val (.long q2), .second, .val (.long q3), .second, .val (.int p4), .val (.long (v0_9 q0 q1 q2 q3 p4)), .second, .val (.long (j0_30_l11 q0 q1 q2 q3 p4)), .second, .val (.int (v0_25 q0 q1 q2 q3 p4)), .val (.long (j0_81_l14 q0 q1 q2 q3 p4)), .second, .val (.double (v0_106 q0 q1 q2 q3 p4)), .second, .val (.double (v0_125 q0 q1 q2 q3 p4)), .second, .val (.int (j0_253_l20 q0 q1 q2 q3 p4)), .val (.long (v0_339 q0 q1 q2 q3 p4)), .second, .unset, .unset, .unset, .unset, .unset, .unset, .unset, .unset]) rfl ?_
    show Steps p.tables e below (T8.setTop (mkF m 341 #[.val (.long q0), .second, .val (.long q1), .second, .val (.long q2), .second, .val (.long q3), .second, .val (.int p4), .val (.long (v0_9 q0 q1 q2 q3 p4)), .second, .val (.long (j0_30_l11 q0 q1 q2 q3 p4)), .second, .val (.int (v0_25 q0 q1 q2 q3 p4)), .val (.long (j0_81_l14 q0 q1 q2 q3 p4)), .second, .val (.double (v0_106 q0 q1 q2 q3 p4)), .second, .val (.double (v0_125 q0 q1 q2 q3 p4)), .second, .val (.int (j0_253_l20 q0 q1 q2 q3 p4)), .val (.long (v0_339 q0 q1 q2 q3 p4)), .second, .unset, .unset, .unset, .unset, .unset, .unset, .unset, .unset] [])) _
    refine XS.lloadN X8.here hx rfl (hb hby at_341) rfl ?_
    show Steps p.tables e below (T8.setTop (mkF m 342 #[.val (.long q0), .second, .val (.long q1), .second, .val (.long q2), .second, .val (.long q3), .second, .val (.int p4), .val (.long (v0_9 q0 q1 q2 q3 p4)), .second, .val (.long (j0_30_l11 q0 q1 q2 q3 p4)), .second, .val (.int (v0_25 q0 q1 q2 q3 p4)), .val (.long (j0_81_l14 q0 q1 q2 q3 p4)), .second, .val (.double (v0_106 q0 q1 q2 q3 p4)), .second, .val (.double (v0_125 q0 q1 q2 q3 p4)), .second, .val (.int (j0_253_l20 q0 q1 q2 q3 p4)), .val (.long (v0_339 q0 q1 q2 q3 p4)), .second, .unset, .unset, .unset, .unset, .unset, .unset, .unset, .unset] [(.long q1)])) _
    refine X8.ldc2Long hx hown (mvT hZ (hw _ (List.mem_of_getElem? (i := 0) rfl))) (g := (mkF m 342 #[.val (.long q0), .second, .val (.long q1), .second, .val (.long q2), .second, .val (.long q3), .second, .val (.int p4), .val (.long (v0_9 q0 q1 q2 q3 p4)), .second, .val (.long (j0_30_l11 q0 q1 q2 q3 p4)), .second, .val (.int (v0_25 q0 q1 q2 q3 p4)), .val (.long (j0_81_l14 q0 q1 q2 q3 p4)), .second, .val (.double (v0_106 q0 q1 q2 q3 p4)), .second, .val (.double (v0_125 q0 q1 q2 q3 p4)), .second, .val (.int (j0_253_l20 q0 q1 q2 q3 p4)), .val (.long (v0_339 q0 q1 q2 q3 p4)), .second, .unset, .unset, .unset, .unset, .unset, .unset, .unset, .unset] [(.long q1)])) rfl (hb hby at_342) _ ?_
    show Steps p.tables e below (T8.setTop (mkF m 345 #[.val (.long q0), .second, .val (.long q1), .second, .val (.long q2), .second, .val (.long q3), .second, .val (.int p4), .val (.long (v0_9 q0 q1 q2 q3 p4)), .second, .val (.long (j0_30_l11 q0 q1 q2 q3 p4)), .second, .val (.int (v0_25 q0 q1 q2 q3 p4)), .val (.long (j0_81_l14 q0 q1 q2 q3 p4)), .second, .val (.double (v0_106 q0 q1 q2 q3 p4)), .second, .val (.double (v0_125 q0 q1 q2 q3 p4)), .second, .val (.int (j0_253_l20 q0 q1 q2 q3 p4)), .val (.long (v0_339 q0 q1 q2 q3 p4)), .second, .unset, .unset, .unset, .unset, .unset, .unset, .unset, .unset] [(.long (9223372036854775807 : Int64)), (.long q1)])) _
    refine XS.land X8.here hx rfl (hb hby at_345) rfl ?_
    show Steps p.tables e below (T8.setTop (mkF m 346 #[.val (.long q0), .second, .val (.long q1), .second, .val (.long q2), .second, .val (.long q3), .second, .val (.int p4), .val (.long (v0_9 q0 q1 q2 q3 p4)), .second, .val (.long (j0_30_l11 q0 q1 q2 q3 p4)), .second, .val (.int (v0_25 q0 q1 q2 q3 p4)), .val (.long (j0_81_l14 q0 q1 q2 q3 p4)), .second, .val (.double (v0_106 q0 q1 q2 q3 p4)), .second, .val (.double (v0_125 q0 q1 q2 q3 p4)), .second, .val (.int (j0_253_l20 q0 q1 q2 q3 p4)), .val (.long (v0_339 q0 q1 q2 q3 p4)), .second, .unset, .unset, .unset, .unset, .unset, .unset, .unset, .unset] [(.long (q1 &&& (9223372036854775807 : Int64)))])) _
    refine XS.lload X8.here hx rfl (hb hby at_346) rfl ?_
    show Steps p.tables e below (T8.setTop (mkF m 348 #[.val (.long q0), .second, .val (.long q1), .second, .val (.long q2), .second, .val (.long q3), .second, .val (.int p4), .val (.long (v0_9 q0 q1 q2 q3 p4)), .second, .val (.long (j0_30_l11 q0 q1 q2 q3 p4)), .second, .val (.int (v0_25 q0 q1 q2 q3 p4)), .val (.long (j0_81_l14 q0 q1 q2 q3 p4)), .second, .val (.double (v0_106 q0 q1 q2 q3 p4)), .second, .val (.double (v0_125 q0 q1 q2 q3 p4)), .second, .val (.int (j0_253_l20 q0 q1 q2 q3 p4)), .val (.long (v0_339 q0 q1 q2 q3 p4)), .second, .unset, .unset, .unset, .unset, .unset, .unset, .unset, .unset] [(.long (v0_339 q0 q1 q2 q3 p4)), (.long (q1 &&& (9223372036854775807 : Int64)))])) _
    refine XS.lconst X8.here hx rfl (hb hby at_348) ?_
    show Steps p.tables e below (T8.setTop (mkF m 349 #[.val (.long q0), .second, .val (.long q1), .second, .val (.long q2), .second, .val (.long q3), .second, .val (.int p4), .val (.long (v0_9 q0 q1 q2 q3 p4)), .second, .val (.long (j0_30_l11 q0 q1 q2 q3 p4)), .second, .val (.int (v0_25 q0 q1 q2 q3 p4)), .val (.long (j0_81_l14 q0 q1 q2 q3 p4)), .second, .val (.double (v0_106 q0 q1 q2 q3 p4)), .second, .val (.double (v0_125 q0 q1 q2 q3 p4)), .second, .val (.int (j0_253_l20 q0 q1 q2 q3 p4)), .val (.long (v0_339 q0 q1 q2 q3 p4)), .second, .unset, .unset, .unset, .unset, .unset, .unset, .unset, .unset] [(.long (1 : Int64)), (.long (v0_339 q0 q1 q2 q3 p4)), (.long (q1 &&& (9223372036854775807 : Int64)))])) _
    refine XS.ladd X8.here hx rfl (hb hby at_349) rfl ?_
    show Steps p.tables e below (T8.setTop (mkF m 350 #[.val (.long q0), .second, .val (.long q1), .second, .val (.long q2), .second, .val (.long q3), .second, .val (.int p4), .val (.long (v0_9 q0 q1 q2 q3 p4)), .second, .val (.long (j0_30_l11 q0 q1 q2 q3 p4)), .second, .val (.int (v0_25 q0 q1 q2 q3 p4)), .val (.long (j0_81_l14 q0 q1 q2 q3 p4)), .second, .val (.double (v0_106 q0 q1 q2 q3 p4)), .second, .val (.double (v0_125 q0 q1 q2 q3 p4)), .second, .val (.int (j0_253_l20 q0 q1 q2 q3 p4)), .val (.long (v0_339 q0 q1 q2 q3 p4)), .second, .unset, .unset, .unset, .unset, .unset, .unset, .unset, .unset] [(.long ((v0_339 q0 q1 q2 q3 p4) + (1 : Int64))), (.long (q1 &&& (9223372036854775807 : Int64)))])) _
    refine Jvm.OwnFP.lremM X8.here hx rfl (hb hby at_350) rfl hz350 ?_
    show Steps p.tables e below (T8.setTop (mkF m 351 #[.val (.long q0), .second, .val (.long q1), .second, .val (.long q2), .second, .val (.long q3), .second, .val (.int p4), .val (.long (v0_9 q0 q1 q2 q3 p4)), .second, .val (.long (j0_30_l11 q0 q1 q2 q3 p4)), .second, .val (.int (v0_25 q0 q1 q2 q3 p4)), .val (.long (j0_81_l14 q0 q1 q2 q3 p4)), .second, .val (.double (v0_106 q0 q1 q2 q3 p4)), .second, .val (.double (v0_125 q0 q1 q2 q3 p4)), .second, .val (.int (j0_253_l20 q0 q1 q2 q3 p4)), .val (.long (v0_339 q0 q1 q2 q3 p4)), .second, .unset, .unset, .unset, .unset, .unset, .unset, .unset, .unset] [(.long ((q1 &&& (9223372036854775807 : Int64)) % ((v0_339 q0 q1 q2 q3 p4) + (1 : Int64))))])) _
    refine XS.lstore X8.here hx rfl (hb hby at_351) rfl (l' := #[.val (.long q0), .second, .val (.long q1), .second, .val (.long q2), .second, .val (.long q3), .second, .val (.int p4), .val (.long (v0_9 q0 q1 q2 q3 p4)), .second, .val (.long (j0_30_l11 q0 q1 q2 q3 p4)), .second, .val (.int (v0_25 q0 q1 q2 q3 p4)), .val (.long (j0_81_l14 q0 q1 q2 q3 p4)), .second, .val (.double (v0_106 q0 q1 q2 q3 p4)), .second, .val (.double (v0_125 q0 q1 q2 q3 p4)), .second, .val (.int (j0_253_l20 q0 q1 q2 q3 p4)), .val (.long (v0_339 q0 q1 q2 q3 p4)), .second, .val (.long (v0_351 q0 q1 q2 q3 p4)), .second, .unset, .unset, .unset, .unset, .unset, .unset]) rfl ?_
    show Steps p.tables e below (T8.setTop (mkF m 353 #[.val (.long q0), .second, .val (.long q1), .second, .val (.long q2), .second, .val (.long q3), .second, .val (.int p4), .val (.long (v0_9 q0 q1 q2 q3 p4)), .second, .val (.long (j0_30_l11 q0 q1 q2 q3 p4)), .second, .val (.int (v0_25 q0 q1 q2 q3 p4)), .val (.long (j0_81_l14 q0 q1 q2 q3 p4)), .second, .val (.double (v0_106 q0 q1 q2 q3 p4)), .second, .val (.double (v0_125 q0 q1 q2 q3 p4)), .second, .val (.int (j0_253_l20 q0 q1 q2 q3 p4)), .val (.long (v0_339 q0 q1 q2 q3 p4)), .second, .val (.long (v0_351 q0 q1 q2 q3 p4)), .second, .unset, .unset, .unset, .unset, .unset, .unset] [])) _
    refine XS.lload X8.here hx rfl (hb hby at_353) rfl ?_
    show Steps p.tables e below (T8.setTop (mkF m 355 #[.val (.long q0), .second, .val (.long q1), .second, .val (.long q2), .second, .val (.long q3), .second, .val (.int p4), .val (.long (v0_9 q0 q1 q2 q3 p4)), .second, .val (.long (j0_30_l11 q0 q1 q2 q3 p4)), .second, .val (.int (v0_25 q0 q1 q2 q3 p4)), .val (.long (j0_81_l14 q0 q1 q2 q3 p4)), .second, .val (.double (v0_106 q0 q1 q2 q3 p4)), .second, .val (.double (v0_125 q0 q1 q2 q3 p4)), .second, .val (.int (j0_253_l20 q0 q1 q2 q3 p4)), .val (.long (v0_339 q0 q1 q2 q3 p4)), .second, .val (.long (v0_351 q0 q1 q2 q3 p4)), .second, .unset, .unset, .unset, .unset, .unset, .unset] [(.long q3)])) _
    refine X8.ldc2Long hx hown (mvT hZ (hw _ (List.mem_of_getElem? (i := 34) rfl))) (g := (mkF m 355 #[.val (.long q0), .second, .val (.long q1), .second, .val (.long q2), .second, .val (.long q3), .second, .val (.int p4), .val (.long (v0_9 q0 q1 q2 q3 p4)), .second, .val (.long (j0_30_l11 q0 q1 q2 q3 p4)), .second, .val (.int (v0_25 q0 q1 q2 q3 p4)), .val (.long (j0_81_l14 q0 q1 q2 q3 p4)), .second, .val (.double (v0_106 q0 q1 q2 q3 p4)), .second, .val (.double (v0_125 q0 q1 q2 q3 p4)), .second, .val (.int (j0_253_l20 q0 q1 q2 q3 p4)), .val (.long (v0_339 q0 q1 q2 q3 p4)), .second, .val (.long (v0_351 q0 q1 q2 q3 p4)), .second, .unset, .unset, .unset, .unset, .unset, .unset] [(.long q3)])) rfl (hb hby at_355) _ ?_
    show Steps p.tables e below (T8.setTop (mkF m 358 #[.val (.long q0), .second, .val (.long q1), .second, .val (.long q2), .second, .val (.long q3), .second, .val (.int p4), .val (.long (v0_9 q0 q1 q2 q3 p4)), .second, .val (.long (j0_30_l11 q0 q1 q2 q3 p4)), .second, .val (.int (v0_25 q0 q1 q2 q3 p4)), .val (.long (j0_81_l14 q0 q1 q2 q3 p4)), .second, .val (.double (v0_106 q0 q1 q2 q3 p4)), .second, .val (.double (v0_125 q0 q1 q2 q3 p4)), .second, .val (.int (j0_253_l20 q0 q1 q2 q3 p4)), .val (.long (v0_339 q0 q1 q2 q3 p4)), .second, .val (.long (v0_351 q0 q1 q2 q3 p4)), .second, .unset, .unset, .unset, .unset, .unset, .unset] [(.long (7 : Int64)), (.long q3)])) _
    refine XS.land X8.here hx rfl (hb hby at_358) rfl ?_
    show Steps p.tables e below (T8.setTop (mkF m 359 #[.val (.long q0), .second, .val (.long q1), .second, .val (.long q2), .second, .val (.long q3), .second, .val (.int p4), .val (.long (v0_9 q0 q1 q2 q3 p4)), .second, .val (.long (j0_30_l11 q0 q1 q2 q3 p4)), .second, .val (.int (v0_25 q0 q1 q2 q3 p4)), .val (.long (j0_81_l14 q0 q1 q2 q3 p4)), .second, .val (.double (v0_106 q0 q1 q2 q3 p4)), .second, .val (.double (v0_125 q0 q1 q2 q3 p4)), .second, .val (.int (j0_253_l20 q0 q1 q2 q3 p4)), .val (.long (v0_339 q0 q1 q2 q3 p4)), .second, .val (.long (v0_351 q0 q1 q2 q3 p4)), .second, .unset, .unset, .unset, .unset, .unset, .unset] [(.long (q3 &&& (7 : Int64)))])) _
    refine XS.lconst X8.here hx rfl (hb hby at_359) ?_
    show Steps p.tables e below (T8.setTop (mkF m 360 #[.val (.long q0), .second, .val (.long q1), .second, .val (.long q2), .second, .val (.long q3), .second, .val (.int p4), .val (.long (v0_9 q0 q1 q2 q3 p4)), .second, .val (.long (j0_30_l11 q0 q1 q2 q3 p4)), .second, .val (.int (v0_25 q0 q1 q2 q3 p4)), .val (.long (j0_81_l14 q0 q1 q2 q3 p4)), .second, .val (.double (v0_106 q0 q1 q2 q3 p4)), .second, .val (.double (v0_125 q0 q1 q2 q3 p4)), .second, .val (.int (j0_253_l20 q0 q1 q2 q3 p4)), .val (.long (v0_339 q0 q1 q2 q3 p4)), .second, .val (.long (v0_351 q0 q1 q2 q3 p4)), .second, .unset, .unset, .unset, .unset, .unset, .unset] [(.long (1 : Int64)), (.long (q3 &&& (7 : Int64)))])) _
    refine XS.ladd X8.here hx rfl (hb hby at_360) rfl ?_
    show Steps p.tables e below (T8.setTop (mkF m 361 #[.val (.long q0), .second, .val (.long q1), .second, .val (.long q2), .second, .val (.long q3), .second, .val (.int p4), .val (.long (v0_9 q0 q1 q2 q3 p4)), .second, .val (.long (j0_30_l11 q0 q1 q2 q3 p4)), .second, .val (.int (v0_25 q0 q1 q2 q3 p4)), .val (.long (j0_81_l14 q0 q1 q2 q3 p4)), .second, .val (.double (v0_106 q0 q1 q2 q3 p4)), .second, .val (.double (v0_125 q0 q1 q2 q3 p4)), .second, .val (.int (j0_253_l20 q0 q1 q2 q3 p4)), .val (.long (v0_339 q0 q1 q2 q3 p4)), .second, .val (.long (v0_351 q0 q1 q2 q3 p4)), .second, .unset, .unset, .unset, .unset, .unset, .unset] [(.long ((q3 &&& (7 : Int64)) + (1 : Int64)))])) _
    refine XS.lstore X8.here hx rfl (hb hby at_361) rfl (l' := #[.val (.long q0), .second, .val (.long q1), .second, .val (.long q2), .second, .val (.long q3), .second, .val (.int p4), .val (.long (v0_9 q0 q1 q2 q3 p4)), .second, .val (.long (j0_30_l11 q0 q1 q2 q3 p4)), .second, .val (.int (v0_25 q0 q1 q2 q3 p4)), .val (.long (j0_81_l14 q0 q1 q2 q3 p4)), .second, .val (.double (v0_106 q0 q1 q2 q3 p4)), .second, .val (.double (v0_125 q0 q1 q2 q3 p4)), .second, .val (.int (j0_253_l20 q0 q1 q2 q3 p4)), .val (.long (v0_339 q0 q1 q2 q3 p4)), .second, .val (.long (v0_351 q0 q1 q2 q3 p4)), .second, .val (.long (v0_361 q0 q1 q2 q3 p4)), .second, .unset, .unset, .unset, .unset]) rfl ?_
    show Steps p.tables e below (T8.setTop (mkF m 363 #[.val (.long q0), .second, .val (.long q1), .second, .val (.long q2), .second, .val (.long q3), .second, .val (.int p4), .val (.long (v0_9 q0 q1 q2 q3 p4)), .second, .val (.long (j0_30_l11 q0 q1 q2 q3 p4)), .second, .val (.int (v0_25 q0 q1 q2 q3 p4)), .val (.long (j0_81_l14 q0 q1 q2 q3 p4)), .second, .val (.double (v0_106 q0 q1 q2 q3 p4)), .second, .val (.double (v0_125 q0 q1 q2 q3 p4)), .second, .val (.int (j0_253_l20 q0 q1 q2 q3 p4)), .val (.long (v0_339 q0 q1 q2 q3 p4)), .second, .val (.long (v0_351 q0 q1 q2 q3 p4)), .second, .val (.long (v0_361 q0 q1 q2 q3 p4)), .second, .unset, .unset, .unset, .unset] [])) _
    refine st9 _ ?_
    show Steps p.tables e below (T9.setTop (mkF m 366 #[.val (.long q0), .second, .val (.long q1), .second, .val (.long q2), .second, .val (.long q3), .second, .val (.int p4), .val (.long (v0_9 q0 q1 q2 q3 p4)), .second, .val (.long (j0_30_l11 q0 q1 q2 q3 p4)), .second, .val (.int (v0_25 q0 q1 q2 q3 p4)), .val (.long (j0_81_l14 q0 q1 q2 q3 p4)), .second, .val (.double (v0_106 q0 q1 q2 q3 p4)), .second, .val (.double (v0_125 q0 q1 q2 q3 p4)), .second, .val (.int (j0_253_l20 q0 q1 q2 q3 p4)), .val (.long (v0_339 q0 q1 q2 q3 p4)), .second, .val (.long (v0_351 q0 q1 q2 q3 p4)), .second, .val (.long (v0_361 q0 q1 q2 q3 p4)), .second, .unset, .unset, .unset, .unset] [(.ref b9)])) _
    refine XS.dup X9.here hx rfl (hb hby at_366) rfl rfl ?_
    show Steps p.tables e below (T9.setTop (mkF m 367 #[.val (.long q0), .second, .val (.long q1), .second, .val (.long q2), .second, .val (.long q3), .second, .val (.int p4), .val (.long (v0_9 q0 q1 q2 q3 p4)), .second, .val (.long (j0_30_l11 q0 q1 q2 q3 p4)), .second, .val (.int (v0_25 q0 q1 q2 q3 p4)), .val (.long (j0_81_l14 q0 q1 q2 q3 p4)), .second, .val (.double (v0_106 q0 q1 q2 q3 p4)), .second, .val (.double (v0_125 q0 q1 q2 q3 p4)), .second, .val (.int (j0_253_l20 q0 q1 q2 q3 p4)), .val (.long (v0_339 q0 q1 q2 q3 p4)), .second, .val (.long (v0_351 q0 q1 q2 q3 p4)), .second, .val (.long (v0_361 q0 q1 q2 q3 p4)), .second, .unset, .unset, .unset, .unset] [(.ref b9), (.ref b9)])) _
    refine XS.lload X9.here hx rfl (hb hby at_367) rfl ?_
    show Steps p.tables e below (T9.setTop (mkF m 369 #[.val (.long q0), .second, .val (.long q1), .second, .val (.long q2), .second, .val (.long q3), .second, .val (.int p4), .val (.long (v0_9 q0 q1 q2 q3 p4)), .second, .val (.long (j0_30_l11 q0 q1 q2 q3 p4)), .second, .val (.int (v0_25 q0 q1 q2 q3 p4)), .val (.long (j0_81_l14 q0 q1 q2 q3 p4)), .second, .val (.double (v0_106 q0 q1 q2 q3 p4)), .second, .val (.double (v0_125 q0 q1 q2 q3 p4)), .second, .val (.int (j0_253_l20 q0 q1 q2 q3 p4)), .val (.long (v0_339 q0 q1 q2 q3 p4)), .second, .val (.long (v0_351 q0 q1 q2 q3 p4)), .second, .val (.long (v0_361 q0 q1 q2 q3 p4)), .second, .unset, .unset, .unset, .unset] [(.long (v0_339 q0 q1 q2 q3 p4)), (.ref b9), (.ref b9)])) _
    refine XS.lload X9.here hx rfl (hb hby at_369) rfl ?_
    show Steps p.tables e below (T9.setTop (mkF m 371 #[.val (.long q0), .second, .val (.long q1), .second, .val (.long q2), .second, .val (.long q3), .second, .val (.int p4), .val (.long (v0_9 q0 q1 q2 q3 p4)), .second, .val (.long (j0_30_l11 q0 q1 q2 q3 p4)), .second, .val (.int (v0_25 q0 q1 q2 q3 p4)), .val (.long (j0_81_l14 q0 q1 q2 q3 p4)), .second, .val (.double (v0_106 q0 q1 q2 q3 p4)), .second, .val (.double (v0_125 q0 q1 q2 q3 p4)), .second, .val (.int (j0_253_l20 q0 q1 q2 q3 p4)), .val (.long (v0_339 q0 q1 q2 q3 p4)), .second, .val (.long (v0_351 q0 q1 q2 q3 p4)), .second, .val (.long (v0_361 q0 q1 q2 q3 p4)), .second, .unset, .unset, .unset, .unset] [(.long (v0_351 q0 q1 q2 q3 p4)), (.long (v0_339 q0 q1 q2 q3 p4)), (.ref b9), (.ref b9)])) _
    refine XS.lconst X9.here hx rfl (hb hby at_371) ?_
    show Steps p.tables e below (T9.setTop (mkF m 372 #[.val (.long q0), .second, .val (.long q1), .second, .val (.long q2), .second, .val (.long q3), .second, .val (.int p4), .val (.long (v0_9 q0 q1 q2 q3 p4)), .second, .val (.long (j0_30_l11 q0 q1 q2 q3 p4)), .second, .val (.int (v0_25 q0 q1 q2 q3 p4)), .val (.long (j0_81_l14 q0 q1 q2 q3 p4)), .second, .val (.double (v0_106 q0 q1 q2 q3 p4)), .second, .val (.double (v0_125 q0 q1 q2 q3 p4)), .second, .val (.int (j0_253_l20 q0 q1 q2 q3 p4)), .val (.long (v0_339 q0 q1 q2 q3 p4)), .second, .val (.long (v0_351 q0 q1 q2 q3 p4)), .second, .val (.long (v0_361 q0 q1 q2 q3 p4)), .second, .unset, .unset, .unset, .unset] [(.long (0 : Int64)), (.long (v0_351 q0 q1 q2 q3 p4)), (.long (v0_339 q0 q1 q2 q3 p4)), (.ref b9), (.ref b9)])) _
    refine XS.lconst X9.here hx rfl (hb hby at_372) ?_
    show Steps p.tables e below (T9.setTop (mkF m 373 #[.val (.long q0), .second, .val (.long q1), .second, .val (.long q2), .second, .val (.long q3), .second, .val (.int p4), .val (.long (v0_9 q0 q1 q2 q3 p4)), .second, .val (.long (j0_30_l11 q0 q1 q2 q3 p4)), .second, .val (.int (v0_25 q0 q1 q2 q3 p4)), .val (.long (j0_81_l14 q0 q1 q2 q3 p4)), .second, .val (.double (v0_106 q0 q1 q2 q3 p4)), .second, .val (.double (v0_125 q0 q1 q2 q3 p4)), .second, .val (.int (j0_253_l20 q0 q1 q2 q3 p4)), .val (.long (v0_339 q0 q1 q2 q3 p4)), .second, .val (.long (v0_351 q0 q1 q2 q3 p4)), .second, .val (.long (v0_361 q0 q1 q2 q3 p4)), .second, .unset, .unset, .unset, .unset] [(.long (1 : Int64)), (.long (0 : Int64)), (.long (v0_351 q0 q1 q2 q3 p4)), (.long (v0_339 q0 q1 q2 q3 p4)), (.ref b9), (.ref b9)])) _
    refine st10.trans ?_
    show Steps p.tables e below (T10.setTop (mkF m 376 #[.val (.long q0), .second, .val (.long q1), .second, .val (.long q2), .second, .val (.long q3), .second, .val (.int p4), .val (.long (v0_9 q0 q1 q2 q3 p4)), .second, .val (.long (j0_30_l11 q0 q1 q2 q3 p4)), .second, .val (.int (v0_25 q0 q1 q2 q3 p4)), .val (.long (j0_81_l14 q0 q1 q2 q3 p4)), .second, .val (.double (v0_106 q0 q1 q2 q3 p4)), .second, .val (.double (v0_125 q0 q1 q2 q3 p4)), .second, .val (.int (j0_253_l20 q0 q1 q2 q3 p4)), .val (.long (v0_339 q0 q1 q2 q3 p4)), .second, .val (.long (v0_351 q0 q1 q2 q3 p4)), .second, .val (.long (v0_361 q0 q1 q2 q3 p4)), .second, .unset, .unset, .unset, .unset] [(.ref b9)])) _
    refine st11.trans ?_
    show Steps p.tables e below (T11.setTop (mkF m 379 #[.val (.long q0), .second, .val (.long q1), .second, .val (.long q2), .second, .val (.long q3), .second, .val (.int p4), .val (.long (v0_9 q0 q1 q2 q3 p4)), .second, .val (.long (j0_30_l11 q0 q1 q2 q3 p4)), .second, .val (.int (v0_25 q0 q1 q2 q3 p4)), .val (.long (j0_81_l14 q0 q1 q2 q3 p4)), .second, .val (.double (v0_106 q0 q1 q2 q3 p4)), .second, .val (.double (v0_125 q0 q1 q2 q3 p4)), .second, .val (.int (j0_253_l20 q0 q1 q2 q3 p4)), .val (.long (v0_339 q0 q1 q2 q3 p4)), .second, .val (.long (v0_351 q0 q1 q2 q3 p4)), .second, .val (.long (v0_361 q0 q1 q2 q3 p4)), .second, .unset, .unset, .unset, .unset] [(.double (r5 (v0_351 q0 q1 q2 q3 p4) (v0_339 q0 q1 q2 q3 p4)))])) _
    refine XS.dstore X11.here hx rfl (hb hby at_379) rfl (l' := #[.val (.long q0), .second, .val (.long q1), .second, .val (.long q2), .second, .val (.long q3), .second, .val (.int p4), .val (.long (v0_9 q0 q1 q2 q3 p4)), .second, .val (.long (j0_30_l11 q0 q1 q2 q3 p4)), .second, .val (.int (v0_25 q0 q1 q2 q3 p4)), .val (.long (j0_81_l14 q0 q1 q2 q3 p4)), .second, .val (.double (v0_106 q0 q1 q2 q3 p4)), .second, .val (.double (v0_125 q0 q1 q2 q3 p4)), .second, .val (.int (j0_253_l20 q0 q1 q2 q3 p4)), .val (.long (v0_339 q0 q1 q2 q3 p4)), .second, .val (.long (v0_351 q0 q1 q2 q3 p4)), .second, .val (.long (v0_361 q0 q1 q2 q3 p4)), .second, .val (.double (v0_379 q0 q1 q2 q3 p4)), .second, .unset, .unset]) rfl ?_
    show Steps p.tables e below (T11.setTop (mkF m 381 #[.val (.long q0), .second, .val (.long q1), .second, .val (.long q2), .second, .val (.long q3), .second, .val (.int p4), .val (.long (v0_9 q0 q1 q2 q3 p4)), .second, .val (.long (j0_30_l11 q0 q1 q2 q3 p4)), .second, .val (.int (v0_25 q0 q1 q2 q3 p4)), .val (.long (j0_81_l14 q0 q1 q2 q3 p4)), .second, .val (.double (v0_106 q0 q1 q2 q3 p4)), .second, .val (.double (v0_125 q0 q1 q2 q3 p4)), .second, .val (.int (j0_253_l20 q0 q1 q2 q3 p4)), .val (.long (v0_339 q0 q1 q2 q3 p4)), .second, .val (.long (v0_351 q0 q1 q2 q3 p4)), .second, .val (.long (v0_361 q0 q1 q2 q3 p4)), .second, .val (.double (v0_379 q0 q1 q2 q3 p4)), .second, .unset, .unset] [])) _
    refine st12 _ ?_
    show Steps p.tables e below (T12.setTop (mkF m 384 #[.val (.long q0), .second, .val (.long q1), .second, .val (.long q2), .second, .val (.long q3), .second, .val (.int p4), .val (.long (v0_9 q0 q1 q2 q3 p4)), .second, .val (.long (j0_30_l11 q0 q1 q2 q3 p4)), .second, .val (.int (v0_25 q0 q1 q2 q3 p4)), .val (.long (j0_81_l14 q0 q1 q2 q3 p4)), .second, .val (.double (v0_106 q0 q1 q2 q3 p4)), .second, .val (.double (v0_125 q0 q1 q2 q3 p4)), .second, .val (.int (j0_253_l20 q0 q1 q2 q3 p4)), .val (.long (v0_339 q0 q1 q2 q3 p4)), .second, .val (.long (v0_351 q0 q1 q2 q3 p4)), .second, .val (.long (v0_361 q0 q1 q2 q3 p4)), .second, .val (.double (v0_379 q0 q1 q2 q3 p4)), .second, .unset, .unset] [(.ref b12)])) _
    refine XS.dup X12.here hx rfl (hb hby at_384) rfl rfl ?_
    show Steps p.tables e below (T12.setTop (mkF m 385 #[.val (.long q0), .second, .val (.long q1), .second, .val (.long q2), .second, .val (.long q3), .second, .val (.int p4), .val (.long (v0_9 q0 q1 q2 q3 p4)), .second, .val (.long (j0_30_l11 q0 q1 q2 q3 p4)), .second, .val (.int (v0_25 q0 q1 q2 q3 p4)), .val (.long (j0_81_l14 q0 q1 q2 q3 p4)), .second, .val (.double (v0_106 q0 q1 q2 q3 p4)), .second, .val (.double (v0_125 q0 q1 q2 q3 p4)), .second, .val (.int (j0_253_l20 q0 q1 q2 q3 p4)), .val (.long (v0_339 q0 q1 q2 q3 p4)), .second, .val (.long (v0_351 q0 q1 q2 q3 p4)), .second, .val (.long (v0_361 q0 q1 q2 q3 p4)), .second, .val (.double (v0_379 q0 q1 q2 q3 p4)), .second, .unset, .unset] [(.ref b12), (.ref b12)])) _
    refine XS.lload X12.here hx rfl (hb hby at_385) rfl ?_
    show Steps p.tables e below (T12.setTop (mkF m 387 #[.val (.long q0), .second, .val (.long q1), .second, .val (.long q2), .second, .val (.long q3), .second, .val (.int p4), .val (.long (v0_9 q0 q1 q2 q3 p4)), .second, .val (.long (j0_30_l11 q0 q1 q2 q3 p4)), .second, .val (.int (v0_25 q0 q1 q2 q3 p4)), .val (.long (j0_81_l14 q0 q1 q2 q3 p4)), .second, .val (.double (v0_106 q0 q1 q2 q3 p4)), .second, .val (.double (v0_125 q0 q1 q2 q3 p4)), .second, .val (.int (j0_253_l20 q0 q1 q2 q3 p4)), .val (.long (v0_339 q0 q1 q2 q3 p4)), .second, .val (.long (v0_351 q0 q1 q2 q3 p4)), .second, .val (.long (v0_361 q0 q1 q2 q3 p4)), .second, .val (.double (v0_379 q0 q1 q2 q3 p4)), .second, .unset, .unset] [(.long (v0_361 q0 q1 q2 q3 p4)), (.ref b12), (.ref b12)])) _
    refine XS.lload X12.here hx rfl (hb hby at_387) rfl ?_
    show Steps p.tables e below (T12.setTop (mkF m 389 #[.val (.long q0), .second, .val (.long q1), .second, .val (.long q2), .second, .val (.long q3), .second, .val (.int p4), .val (.long (v0_9 q0 q1 q2 q3 p4)), .second, .val (.long (j0_30_l11 q0 q1 q2 q3 p4)), .second, .val (.int (v0_25 q0 q1 q2 q3 p4)), .val (.long (j0_81_l14 q0 q1 q2 q3 p4)), .second, .val (.double (v0_106 q0 q1 q2 q3 p4)), .second, .val (.double (v0_125 q0 q1 q2 q3 p4)), .second, .val (.int (j0_253_l20 q0 q1 q2 q3 p4)), .val (.long (v0_339 q0 q1 q2 q3 p4)), .second, .val (.long (v0_351 q0 q1 q2 q3 p4)), .second, .val (.long (v0_361 q0 q1 q2 q3 p4)), .second, .val (.double (v0_379 q0 q1 q2 q3 p4)), .second, .unset, .unset] [(.long (v0_339 q0 q1 q2 q3 p4)), (.long (v0_361 q0 q1 q2 q3 p4)), (.ref b12), (.ref b12)])) _
    refine XS.lmul X12.here hx rfl (hb hby at_389) rfl ?_
    show Steps p.tables e below (T12.setTop (mkF m 390 #[.val (.long q0), .second, .val (.long q1), .second, .val (.long q2), .second, .val (.long q3), .second, .val (.int p4), .val (.long (v0_9 q0 q1 q2 q3 p4)), .second, .val (.long (j0_30_l11 q0 q1 q2 q3 p4)), .second, .val (.int (v0_25 q0 q1 q2 q3 p4)), .val (.long (j0_81_l14 q0 q1 q2 q3 p4)), .second, .val (.double (v0_106 q0 q1 q2 q3 p4)), .second, .val (.double (v0_125 q0 q1 q2 q3 p4)), .second, .val (.int (j0_253_l20 q0 q1 q2 q3 p4)), .val (.long (v0_339 q0 q1 q2 q3 p4)), .second, .val (.long (v0_351 q0 q1 q2 q3 p4)), .second, .val (.long (v0_361 q0 q1 q2 q3 p4)), .second, .val (.double (v0_379 q0 q1 q2 q3 p4)), .second, .unset, .unset] [(.long ((v0_361 q0 q1 q2 q3 p4) * (v0_339 q0 q1 q2 q3 p4))), (.ref b12), (.ref b12)])) _
    refine XS.lload X12.here hx rfl (hb hby at_390) rfl ?_
    show Steps p.tables e below (T12.setTop (mkF m 392 #[.val (.long q0), .second, .val (.long q1), .second, .val (.long q2), .second, .val (.long q3), .second, .val (.int p4), .val (.long (v0_9 q0 q1 q2 q3 p4)), .second, .val (.long (j0_30_l11 q0 q1 q2 q3 p4)), .second, .val (.int (v0_25 q0 q1 q2 q3 p4)), .val (.long (j0_81_l14 q0 q1 q2 q3 p4)), .second, .val (.double (v0_106 q0 q1 q2 q3 p4)), .second, .val (.double (v0_125 q0 q1 q2 q3 p4)), .second, .val (.int (j0_253_l20 q0 q1 q2 q3 p4)), .val (.long (v0_339 q0 q1 q2 q3 p4)), .second, .val (.long (v0_351 q0 q1 q2 q3 p4)), .second, .val (.long (v0_361 q0 q1 q2 q3 p4)), .second, .val (.double (v0_379 q0 q1 q2 q3 p4)), .second, .unset, .unset] [(.long (v0_361 q0 q1 q2 q3 p4)), (.long ((v0_361 q0 q1 q2 q3 p4) * (v0_339 q0 q1 q2 q3 p4))), (.ref b12), (.ref b12)])) _
    refine XS.lload X12.here hx rfl (hb hby at_392) rfl ?_
    show Steps p.tables e below (T12.setTop (mkF m 394 #[.val (.long q0), .second, .val (.long q1), .second, .val (.long q2), .second, .val (.long q3), .second, .val (.int p4), .val (.long (v0_9 q0 q1 q2 q3 p4)), .second, .val (.long (j0_30_l11 q0 q1 q2 q3 p4)), .second, .val (.int (v0_25 q0 q1 q2 q3 p4)), .val (.long (j0_81_l14 q0 q1 q2 q3 p4)), .second, .val (.double (v0_106 q0 q1 q2 q3 p4)), .second, .val (.double (v0_125 q0 q1 q2 q3 p4)), .second, .val (.int (j0_253_l20 q0 q1 q2 q3 p4)), .val (.long (v0_339 q0 q1 q2 q3 p4)), .second, .val (.long (v0_351 q0 q1 q2 q3 p4)), .second, .val (.long (v0_361 q0 q1 q2 q3 p4)), .second, .val (.double (v0_379 q0 q1 q2 q3 p4)), .second, .unset, .unset] [(.long (v0_351 q0 q1 q2 q3 p4)), (.long (v0_361 q0 q1 q2 q3 p4)), (.long ((v0_361 q0 q1 q2 q3 p4) * (v0_339 q0 q1 q2 q3 p4))), (.ref b12), (.ref b12)])) _
    refine XS.lmul X12.here hx rfl (hb hby at_394) rfl ?_
    show Steps p.tables e below (T12.setTop (mkF m 395 #[.val (.long q0), .second, .val (.long q1), .second, .val (.long q2), .second, .val (.long q3), .second, .val (.int p4), .val (.long (v0_9 q0 q1 q2 q3 p4)), .second, .val (.long (j0_30_l11 q0 q1 q2 q3 p4)), .second, .val (.int (v0_25 q0 q1 q2 q3 p4)), .val (.long (j0_81_l14 q0 q1 q2 q3 p4)), .second, .val (.double (v0_106 q0 q1 q2 q3 p4)), .second, .val (.double (v0_125 q0 q1 q2 q3 p4)), .second, .val (.int (j0_253_l20 q0 q1 q2 q3 p4)), .val (.long (v0_339 q0 q1 q2 q3 p4)), .second, .val (.long (v0_351 q0 q1 q2 q3 p4)), .second, .val (.long (v0_361 q0 q1 q2 q3 p4)), .second, .val (.double (v0_379 q0 q1 q2 q3 p4)), .second, .unset, .unset] [(.long ((v0_361 q0 q1 q2 q3 p4) * (v0_351 q0 q1 q2 q3 p4))), (.long ((v0_361 q0 q1 q2 q3 p4) * (v0_339 q0 q1 q2 q3 p4))), (.ref b12), (.ref b12)])) _
    refine XS.lconst X12.here hx rfl (hb hby at_395) ?_
    show Steps p.tables e below (T12.setTop (mkF m 396 #[.val (.long q0), .second, .val (.long q1), .second, .val (.long q2), .second, .val (.long q3), .second, .val (.int p4), .val (.long (v0_9 q0 q1 q2 q3 p4)), .second, .val (.long (j0_30_l11 q0 q1 q2 q3 p4)), .second, .val (.int (v0_25 q0 q1 q2 q3 p4)), .val (.long (j0_81_l14 q0 q1 q2 q3 p4)), .second, .val (.double (v0_106 q0 q1 q2 q3 p4)), .second, .val (.double (v0_125 q0 q1 q2 q3 p4)), .second, .val (.int (j0_253_l20 q0 q1 q2 q3 p4)), .val (.long (v0_339 q0 q1 q2 q3 p4)), .second, .val (.long (v0_351 q0 q1 q2 q3 p4)), .second, .val (.long (v0_361 q0 q1 q2 q3 p4)), .second, .val (.double (v0_379 q0 q1 q2 q3 p4)), .second, .unset, .unset] [(.long (0 : Int64)), (.long ((v0_361 q0 q1 q2 q3 p4) * (v0_351 q0 q1 q2 q3 p4))), (.long ((v0_361 q0 q1 q2 q3 p4) * (v0_339 q0 q1 q2 q3 p4))), (.ref b12), (.ref b12)])) _
    refine XS.lconst X12.here hx rfl (hb hby at_396) ?_
    show Steps p.tables e below (T12.setTop (mkF m 397 #[.val (.long q0), .second, .val (.long q1), .second, .val (.long q2), .second, .val (.long q3), .second, .val (.int p4), .val (.long (v0_9 q0 q1 q2 q3 p4)), .second, .val (.long (j0_30_l11 q0 q1 q2 q3 p4)), .second, .val (.int (v0_25 q0 q1 q2 q3 p4)), .val (.long (j0_81_l14 q0 q1 q2 q3 p4)), .second, .val (.double (v0_106 q0 q1 q2 q3 p4)), .second, .val (.double (v0_125 q0 q1 q2 q3 p4)), .second, .val (.int (j0_253_l20 q0 q1 q2 q3 p4)), .val (.long (v0_339 q0 q1 q2 q3 p4)), .second, .val (.long (v0_351 q0 q1 q2 q3 p4)), .second, .val (.long (v0_361 q0 q1 q2 q3 p4)), .second, .val (.double (v0_379 q0 q1 q2 q3 p4)), .second, .unset, .unset] [(.long (1 : Int64)), (.long (0 : Int64)), (.long ((v0_361 q0 q1 q2 q3 p4) * (v0_351 q0 q1 q2 q3 p4))), (.long ((v0_361 q0 q1 q2 q3 p4) * (v0_339 q0 q1 q2 q3 p4))), (.ref b12), (.ref b12)])) _
    refine st13.trans ?_
    show Steps p.tables e below (T13.setTop (mkF m 400 #[.val (.long q0), .second, .val (.long q1), .second, .val (.long q2), .second, .val (.long q3), .second, .val (.int p4), .val (.long (v0_9 q0 q1 q2 q3 p4)), .second, .val (.long (j0_30_l11 q0 q1 q2 q3 p4)), .second, .val (.int (v0_25 q0 q1 q2 q3 p4)), .val (.long (j0_81_l14 q0 q1 q2 q3 p4)), .second, .val (.double (v0_106 q0 q1 q2 q3 p4)), .second, .val (.double (v0_125 q0 q1 q2 q3 p4)), .second, .val (.int (j0_253_l20 q0 q1 q2 q3 p4)), .val (.long (v0_339 q0 q1 q2 q3 p4)), .second, .val (.long (v0_351 q0 q1 q2 q3 p4)), .second, .val (.long (v0_361 q0 q1 q2 q3 p4)), .second, .val (.double (v0_379 q0 q1 q2 q3 p4)), .second, .unset, .unset] [(.ref b12)])) _
    refine st14.trans ?_
    show Steps p.tables e below (T14.setTop (mkF m 403 #[.val (.long q0), .second, .val (.long q1), .second, .val (.long q2), .second, .val (.long q3), .second, .val (.int p4), .val (.long (v0_9 q0 q1 q2 q3 p4)), .second, .val (.long (j0_30_l11 q0 q1 q2 q3 p4)), .second, .val (.int (v0_25 q0 q1 q2 q3 p4)), .val (.long (j0_81_l14 q0 q1 q2 q3 p4)), .second, .val (.double (v0_106 q0 q1 q2 q3 p4)), .second, .val (.double (v0_125 q0 q1 q2 q3 p4)), .second, .val (.int (j0_253_l20 q0 q1 q2 q3 p4)), .val (.long (v0_339 q0 q1 q2 q3 p4)), .second, .val (.long (v0_351 q0 q1 q2 q3 p4)), .second, .val (.long (v0_361 q0 q1 q2 q3 p4)), .second, .val (.double (v0_379 q0 q1 q2 q3 p4)), .second, .unset, .unset] [(.double (r5 ((v0_361 q0 q1 q2 q3 p4) * (v0_351 q0 q1 q2 q3 p4)) ((v0_361 q0 q1 q2 q3 p4) * (v0_339 q0 q1 q2 q3 p4))))])) _
    refine XS.dstore X14.here hx rfl (hb hby at_403) rfl (l' := #[.val (.long q0), .second, .val (.long q1), .second, .val (.long q2), .second, .val (.long q3), .second, .val (.int p4), .val (.long (v0_9 q0 q1 q2 q3 p4)), .second, .val (.long (j0_30_l11 q0 q1 q2 q3 p4)), .second, .val (.int (v0_25 q0 q1 q2 q3 p4)), .val (.long (j0_81_l14 q0 q1 q2 q3 p4)), .second, .val (.double (v0_106 q0 q1 q2 q3 p4)), .second, .val (.double (v0_125 q0 q1 q2 q3 p4)), .second, .val (.int (j0_253_l20 q0 q1 q2 q3 p4)), .val (.long (v0_339 q0 q1 q2 q3 p4)), .second, .val (.long (v0_351 q0 q1 q2 q3 p4)), .second, .val (.long (v0_361 q0 q1 q2 q3 p4)), .second, .val (.double (v0_379 q0 q1 q2 q3 p4)), .second, .val (.double (v0_403 q0 q1 q2 q3 p4)), .second]) rfl ?_
    show Steps p.tables e below (T14.setTop (mkF m 405 #[.val (.long q0), .second, .val (.long q1), .second, .val (.long q2), .second, .val (.long q3), .second, .val (.int p4), .val (.long (v0_9 q0 q1 q2 q3 p4)), .second, .val (.long (j0_30_l11 q0 q1 q2 q3 p4)), .second, .val (.int (v0_25 q0 q1 q2 q3 p4)), .val (.long (j0_81_l14 q0 q1 q2 q3 p4)), .second, .val (.double (v0_106 q0 q1 q2 q3 p4)), .second, .val (.double (v0_125 q0 q1 q2 q3 p4)), .second, .val (.int (j0_253_l20 q0 q1 q2 q3 p4)), .val (.long (v0_339 q0 q1 q2 q3 p4)), .second, .val (.long (v0_351 q0 q1 q2 q3 p4)), .second, .val (.long (v0_361 q0 q1 q2 q3 p4)), .second, .val (.double (v0_379 q0 q1 q2 q3 p4)), .second, .val (.double (v0_403 q0 q1 q2 q3 p4)), .second] [])) _
    refine XS.iload X14.here hx rfl (hb hby at_405) rfl ?_
    show Steps p.tables e below (T14.setTop (mkF m 407 #[.val (.long q0), .second, .val (.long q1), .second, .val (.long q2), .second, .val (.long q3), .second, .val (.int p4), .val (.long (v0_9 q0 q1 q2 q3 p4)), .second, .val (.long (j0_30_l11 q0 q1 q2 q3 p4)), .second, .val (.int (v0_25 q0 q1 q2 q3 p4)), .val (.long (j0_81_l14 q0 q1 q2 q3 p4)), .second, .val (.double (v0_106 q0 q1 q2 q3 p4)), .second, .val (.double (v0_125 q0 q1 q2 q3 p4)), .second, .val (.int (j0_253_l20 q0 q1 q2 q3 p4)), .val (.long (v0_339 q0 q1 q2 q3 p4)), .second, .val (.long (v0_351 q0 q1 q2 q3 p4)), .second, .val (.long (v0_361 q0 q1 q2 q3 p4)), .second, .val (.double (v0_379 q0 q1 q2 q3 p4)), .second, .val (.double (v0_403 q0 q1 q2 q3 p4)), .second] [(.int (j0_253_l20 q0 q1 q2 q3 p4))])) _
    suffices kt407 : Steps p.tables e below (T14.setTop (mkF m 423 #[.val (.long q0), .second, .val (.long q1), .second, .val (.long q2), .second, .val (.long q3), .second, .val (.int p4), .val (.long (v0_9 q0 q1 q2 q3 p4)), .second, .val (.long (j0_30_l11 q0 q1 q2 q3 p4)), .second, .val (.int (v0_25 q0 q1 q2 q3 p4)), .val (.long (j0_81_l14 q0 q1 q2 q3 p4)), .second, .val (.double (v0_106 q0 q1 q2 q3 p4)), .second, .val (.double (v0_125 q0 q1 q2 q3 p4)), .second, .val (.int (j0_253_l20 q0 q1 q2 q3 p4)), .val (.long (v0_339 q0 q1 q2 q3 p4)), .second, .val (.long (v0_351 q0 q1 q2 q3 p4)), .second, .val (.long (v0_361 q0 q1 q2 q3 p4)), .second, .val (.double (v0_379 q0 q1 q2 q3 p4)), .second, .val (.double (v0_403 q0 q1 q2 q3 p4)), .second] [(.int (j0_407_s0 q0 q1 q2 q3 p4))])) (T14.setFrames fs) by
      by_cases hc407 : ifCond.holds .eq (j0_253_l20 q0 q1 q2 q3 p4) = true
      · rw [show (j0_407_s0 q0 q1 q2 q3 p4) = (0 : Int32) from if_pos hc407] at kt407
        refine XS.ifYes X14.here hx rfl (pc0 := 407) (pc' := 422) rfl (hb hby at_407) rfl hc407 (by decide) (by decide) ?_
        show Steps p.tables e below (T14.setTop (mkF m 422 #[.val (.long q0), .second, .val (.long q1), .second, .val (.long q2), .second, .val (.long q3), .second, .val (.int p4), .val (.long (v0_9 q0 q1 q2 q3 p4)), .second, .val (.long (j0_30_l11 q0 q1 q2 q3 p4)), .second, .val (.int (v0_25 q0 q1 q2 q3 p4)), .val (.long (j0_81_l14 q0 q1 q2 q3 p4)), .second, .val (.double (v0_106 q0 q1 q2 q3 p4)), .second, .val (.double (v0_125 q0 q1 q2 q3 p4)), .second, .val (.int (j0_253_l20 q0 q1 q2 q3 p4)), .val (.long (v0_339 q0 q1 q2 q3 p4)), .second, .val (.long (v0_351 q0 q1 q2 q3 p4)), .second, .val (.long (v0_361 q0 q1 q2 q3 p4)), .second, .val (.double (v0_379 q0 q1 q2 q3 p4)), .second, .val (.double (v0_403 q0 q1 q2 q3 p4)), .second] [])) _
        refine XS.iconst X14.here hx rfl (hb hby at_422) ?_
        exact kt407
      · rw [show (j0_407_s0 q0 q1 q2 q3 p4) = (j0_415_s0 q0 q1 q2 q3 p4) from if_neg hc407] at kt407
        refine XS.ifNo X14.here hx rfl (hb hby at_407) rfl (eq_false_of_ne_true hc407) ?_
        show Steps p.tables e below (T14.setTop (mkF m 410 #[.val (.long q0), .second, .val (.long q1), .second, .val (.long q2), .second, .val (.long q3), .second, .val (.int p4), .val (.long (v0_9 q0 q1 q2 q3 p4)), .second, .val (.long (j0_30_l11 q0 q1 q2 q3 p4)), .second, .val (.int (v0_25 q0 q1 q2 q3 p4)), .val (.long (j0_81_l14 q0 q1 q2 q3 p4)), .second, .val (.double (v0_106 q0 q1 q2 q3 p4)), .second, .val (.double (v0_125 q0 q1 q2 q3 p4)), .second, .val (.int (j0_253_l20 q0 q1 q2 q3 p4)), .val (.long (v0_339 q0 q1 q2 q3 p4)), .second, .val (.long (v0_351 q0 q1 q2 q3 p4)), .second, .val (.long (v0_361 q0 q1 q2 q3 p4)), .second, .val (.double (v0_379 q0 q1 q2 q3 p4)), .second, .val (.double (v0_403 q0 q1 q2 q3 p4)), .second] [])) _
        refine XS.dload X14.here hx rfl (hb hby at_410) rfl ?_
        show Steps p.tables e below (T14.setTop (mkF m 412 #[.val (.long q0), .second, .val (.long q1), .second, .val (.long q2), .second, .val (.long q3), .second, .val (.int p4), .val (.long (v0_9 q0 q1 q2 q3 p4)), .second, .val (.long (j0_30_l11 q0 q1 q2 q3 p4)), .second, .val (.int (v0_25 q0 q1 q2 q3 p4)), .val (.long (j0_81_l14 q0 q1 q2 q3 p4)), .second, .val (.double (v0_106 q0 q1 q2 q3 p4)), .second, .val (.double (v0_125 q0 q1 q2 q3 p4)), .second, .val (.int (j0_253_l20 q0 q1 q2 q3 p4)), .val (.long (v0_339 q0 q1 q2 q3 p4)), .second, .val (.long (v0_351 q0 q1 q2 q3 p4)), .second, .val (.long (v0_361 q0 q1 q2 q3 p4)), .second, .val (.double (v0_379 q0 q1 q2 q3 p4)), .second, .val (.double (v0_403 q0 q1 q2 q3 p4)), .second] [(.double (v0_379 q0 q1 q2 q3 p4))])) _
        refine XS.dload X14.here hx rfl (hb hby at_412) rfl ?_
        show Steps p.tables e below (T14.setTop (mkF m 414 #[.val (.long q0), .second, .val (.long q1), .second, .val (.long q2), .second, .val (.long q3), .second, .val (.int p4), .val (.long (v0_9 q0 q1 q2 q3 p4)), .second, .val (.long (j0_30_l11 q0 q1 q2 q3 p4)), .second, .val (.int (v0_25 q0 q1 q2 q3 p4)), .val (.long (j0_81_l14 q0 q1 q2 q3 p4)), .second, .val (.double (v0_106 q0 q1 q2 q3 p4)), .second, .val (.double (v0_125 q0 q1 q2 q3 p4)), .second, .val (.int (j0_253_l20 q0 q1 q2 q3 p4)), .val (.long (v0_339 q0 q1 q2 q3 p4)), .second, .val (.long (v0_351 q0 q1 q2 q3 p4)), .second, .val (.long (v0_361 q0 q1 q2 q3 p4)), .second, .val (.double (v0_379 q0 q1 q2 q3 p4)), .second, .val (.double (v0_403 q0 q1 q2 q3 p4)), .second] [(.double (v0_403 q0 q1 q2 q3 p4)), (.double (v0_379 q0 q1 q2 q3 p4))])) _
        refine XS.dcmpS X14.here hx rfl (hb hby at_414) rfl rfl ?_
        show Steps p.tables e below (T14.setTop (mkF m 415 #[.val (.long q0), .second, .val (.long q1), .second, .val (.long q2), .second, .val (.long q3), .second, .val (.int p4), .val (.long (v0_9 q0 q1 q2 q3 p4)), .second, .val (.long (j0_30_l11 q0 q1 q2 q3 p4)), .second, .val (.int (v0_25 q0 q1 q2 q3 p4)), .val (.long (j0_81_l14 q0 q1 q2 q3 p4)), .second, .val (.double (v0_106 q0 q1 q2 q3 p4)), .second, .val (.double (v0_125 q0 q1 q2 q3 p4)), .second, .val (.int (j0_253_l20 q0 q1 q2 q3 p4)), .val (.long (v0_339 q0 q1 q2 q3 p4)), .second, .val (.long (v0_351 q0 q1 q2 q3 p4)), .second, .val (.long (v0_361 q0 q1 q2 q3 p4)), .second, .val (.double (v0_379 q0 q1 q2 q3 p4)), .second, .val (.double (v0_403 q0 q1 q2 q3 p4)), .second] [(.int (cmpValue (FP.dcmp (v0_379 q0 q1 q2 q3 p4) (v0_403 q0 q1 q2 q3 p4)) .l))])) _
        suffices kt415 : Steps p.tables e below (T14.setTop (mkF m 423 #[.val (.long q0), .second, .val (.long q1), .second, .val (.long q2), .second, .val (.long q3), .second, .val (.int p4), .val (.long (v0_9 q0 q1 q2 q3 p4)), .second, .val (.long (j0_30_l11 q0 q1 q2 q3 p4)), .second, .val (.int (v0_25 q0 q1 q2 q3 p4)), .val (.long (j0_81_l14 q0 q1 q2 q3 p4)), .second, .val (.double (v0_106 q0 q1 q2 q3 p4)), .second, .val (.double (v0_125 q0 q1 q2 q3 p4)), .second, .val (.int (j0_253_l20 q0 q1 q2 q3 p4)), .val (.long (v0_339 q0 q1 q2 q3 p4)), .second, .val (.long (v0_351 q0 q1 q2 q3 p4)), .second, .val (.long (v0_361 q0 q1 q2 q3 p4)), .second, .val (.double (v0_379 q0 q1 q2 q3 p4)), .second, .val (.double (v0_403 q0 q1 q2 q3 p4)), .second] [(.int (j0_415_s0 q0 q1 q2 q3 p4))])) (T14.setFrames fs) by
          by_cases hc415 : ifCond.holds .ne (cmpValue (FP.dcmp (v0_379 q0 q1 q2 q3 p4) (v0_403 q0 q1 q2 q3 p4)) .l) = true
          · rw [show (j0_415_s0 q0 q1 q2 q3 p4) = (0 : Int32) from if_pos hc415] at kt415
            refine XS.ifYes X14.here hx rfl (pc0 := 415) (pc' := 422) rfl (hb hby at_415) rfl hc415 (by decide) (by decide) ?_
            show Steps p.tables e below (T14.setTop (mkF m 422 #[.val (.long q0), .second, .val (.long q1), .second, .val (.long q2), .second, .val (.long q3), .second, .val (.int p4), .val (.long (v0_9 q0 q1 q2 q3 p4)), .second, .val (.long (j0_30_l11 q0 q1 q2 q3 p4)), .second, .val (.int (v0_25 q0 q1 q2 q3 p4)), .val (.long (j0_81_l14 q0 q1 q2 q3 p4)), .second, .val (.double (v0_106 q0 q1 q2 q3 p4)), .second, .val (.double (v0_125 q0 q1 q2 q3 p4)), .second, .val (.int (j0_253_l20 q0 q1 q2 q3 p4)), .val (.long (v0_339 q0 q1 q2 q3 p4)), .second, .val (.long (v0_351 q0 q1 q2 q3 p4)), .second, .val (.long (v0_361 q0 q1 q2 q3 p4)), .second, .val (.double (v0_379 q0 q1 q2 q3 p4)), .second, .val (.double (v0_403 q0 q1 q2 q3 p4)), .second] [])) _
            refine XS.iconst X14.here hx rfl (hb hby at_422) ?_
            exact kt415
          · rw [show (j0_415_s0 q0 q1 q2 q3 p4) = (1 : Int32) from if_neg hc415] at kt415
            refine XS.ifNo X14.here hx rfl (hb hby at_415) rfl (eq_false_of_ne_true hc415) ?_
            show Steps p.tables e below (T14.setTop (mkF m 418 #[.val (.long q0), .second, .val (.long q1), .second, .val (.long q2), .second, .val (.long q3), .second, .val (.int p4), .val (.long (v0_9 q0 q1 q2 q3 p4)), .second, .val (.long (j0_30_l11 q0 q1 q2 q3 p4)), .second, .val (.int (v0_25 q0 q1 q2 q3 p4)), .val (.long (j0_81_l14 q0 q1 q2 q3 p4)), .second, .val (.double (v0_106 q0 q1 q2 q3 p4)), .second, .val (.double (v0_125 q0 q1 q2 q3 p4)), .second, .val (.int (j0_253_l20 q0 q1 q2 q3 p4)), .val (.long (v0_339 q0 q1 q2 q3 p4)), .second, .val (.long (v0_351 q0 q1 q2 q3 p4)), .second, .val (.long (v0_361 q0 q1 q2 q3 p4)), .second, .val (.double (v0_379 q0 q1 q2 q3 p4)), .second, .val (.double (v0_403 q0 q1 q2 q3 p4)), .second] [])) _
            refine XS.iconst X14.here hx rfl (hb hby at_418) ?_
            show Steps p.tables e below (T14.setTop (mkF m 419 #[.val (.long q0), .second, .val (.long q1), .second, .val (.long q2), .second, .val (.long q3), .second, .val (.int p4), .val (.long (v0_9 q0 q1 q2 q3 p4)), .second, .val (.long (j0_30_l11 q0 q1 q2 q3 p4)), .second, .val (.int (v0_25 q0 q1 q2 q3 p4)), .val (.long (j0_81_l14 q0 q1 q2 q3 p4)), .second, .val (.double (v0_106 q0 q1 q2 q3 p4)), .second, .val (.double (v0_125 q0 q1 q2 q3 p4)), .second, .val (.int (j0_253_l20 q0 q1 q2 q3 p4)), .val (.long (v0_339 q0 q1 q2 q3 p4)), .second, .val (.long (v0_351 q0 q1 q2 q3 p4)), .second, .val (.long (v0_361 q0 q1 q2 q3 p4)), .second, .val (.double (v0_379 q0 q1 q2 q3 p4)), .second, .val (.double (v0_403 q0 q1 q2 q3 p4)), .second] [(.int (1 : Int32))])) _
            refine XS.goto X14.here hx rfl (pc0 := 419) (pc' := 423) rfl (hb hby at_419) (by decide) (by decide) ?_
            exact kt415
        exact kt407
    show Steps p.tables e below (T14.setTop (mkF m 423 #[.val (.long q0), .second, .val (.long q1), .second, .val (.long q2), .second, .val (.long q3), .second, .val (.int p4), .val (.long (v0_9 q0 q1 q2 q3 p4)), .second, .val (.long (j0_30_l11 q0 q1 q2 q3 p4)), .second, .val (.int (v0_25 q0 q1 q2 q3 p4)), .val (.long (j0_81_l14 q0 q1 q2 q3 p4)), .second, .val (.double (v0_106 q0 q1 q2 q3 p4)), .second, .val (.double (v0_125 q0 q1 q2 q3 p4)), .second, .val (.int (j0_253_l20 q0 q1 q2 q3 p4)), .val (.long (v0_339 q0 q1 q2 q3 p4)), .second, .val (.long (v0_351 q0 q1 q2 q3 p4)), .second, .val (.long (v0_361 q0 q1 q2 q3 p4)), .second, .val (.double (v0_379 q0 q1 q2 q3 p4)), .second, .val (.double (v0_403 q0 q1 q2 q3 p4)), .second] [(.int (j0_407_s0 q0 q1 q2 q3 p4))])) _
    refine XS.istore X14.here hx rfl (hb hby at_423) rfl (l' := #[.val (.long q0), .second, .val (.long q1), .second, .val (.long q2), .second, .val (.long q3), .second, .val (.int p4), .val (.long (v0_9 q0 q1 q2 q3 p4)), .second, .val (.long (j0_30_l11 q0 q1 q2 q3 p4)), .second, .val (.int (v0_25 q0 q1 q2 q3 p4)), .val (.long (j0_81_l14 q0 q1 q2 q3 p4)), .second, .val (.double (v0_106 q0 q1 q2 q3 p4)), .second, .val (.double (v0_125 q0 q1 q2 q3 p4)), .second, .val (.int (j0_407_s0 q0 q1 q2 q3 p4)), .val (.long (v0_339 q0 q1 q2 q3 p4)), .second, .val (.long (v0_351 q0 q1 q2 q3 p4)), .second, .val (.long (v0_361 q0 q1 q2 q3 p4)), .second, .val (.double (v0_379 q0 q1 q2 q3 p4)), .second, .val (.double (v0_403 q0 q1 q2 q3 p4)), .second]) rfl ?_
    show Steps p.tables e below (T14.setTop (mkF m 425 #[.val (.long q0), .second, .val (.long q1), .second, .val (.long q2), .second, .val (.long q3), .second, .val (.int p4), .val (.long (v0_9 q0 q1 q2 q3 p4)), .second, .val (.long (j0_30_l11 q0 q1 q2 q3 p4)), .second, .val (.int (v0_25 q0 q1 q2 q3 p4)), .val (.long (j0_81_l14 q0 q1 q2 q3 p4)), .second, .val (.double (v0_106 q0 q1 q2 q3 p4)), .second, .val (.double (v0_125 q0 q1 q2 q3 p4)), .second, .val (.int (j0_407_s0 q0 q1 q2 q3 p4)), .val (.long (v0_339 q0 q1 q2 q3 p4)), .second, .val (.long (v0_351 q0 q1 q2 q3 p4)), .second, .val (.long (v0_361 q0 q1 q2 q3 p4)), .second, .val (.double (v0_379 q0 q1 q2 q3 p4)), .second, .val (.double (v0_403 q0 q1 q2 q3 p4)), .second] [])) _
    refine XS.iload X14.here hx rfl (hb hby at_425) rfl ?_
    show Steps p.tables e below (T14.setTop (mkF m 427 #[.val (.long q0), .second, .val (.long q1), .second, .val (.long q2), .second, .val (.long q3), .second, .val (.int p4), .val (.long (v0_9 q0 q1 q2 q3 p4)), .second, .val (.long (j0_30_l11 q0 q1 q2 q3 p4)), .second, .val (.int (v0_25 q0 q1 q2 q3 p4)), .val (.long (j0_81_l14 q0 q1 q2 q3 p4)), .second, .val (.double (v0_106 q0 q1 q2 q3 p4)), .second, .val (.double (v0_125 q0 q1 q2 q3 p4)), .second, .val (.int (j0_407_s0 q0 q1 q2 q3 p4)), .val (.long (v0_339 q0 q1 q2 q3 p4)), .second, .val (.long (v0_351 q0 q1 q2 q3 p4)), .second, .val (.long (v0_361 q0 q1 q2 q3 p4)), .second, .val (.double (v0_379 q0 q1 q2 q3 p4)), .second, .val (.double (v0_403 q0 q1 q2 q3 p4)), .second] [(.int (j0_407_s0 q0 q1 q2 q3 p4))])) _
    rw [hres427]
    exact retN X14 hx (t := .boolean) Bd.returns (by simp) (hb hby at_427) hr
  · show Q0 Z q0 q1 q2 q3 p4 h0 n0 _ T14.heap _
    exact ⟨rfl, N14⟩
set_option maxRecDepth 65536 in
set_option maxHeartbeats 40000000 in
theorem comes_1 {Post : Tables → Env → Array Value → State → Outcome → State → Prop} (hpost : ∀ tb e args s v u, (limb_1_1.after args s (.returned v) u = true ∧ limb_1_2.after args s (.returned v) u = true ∧ True) → FrameEnd s (.returned v) u (Jvm.fieldLocs frame_1_writes args s ++ Jvm.arrayLocs frame_1_arrays args s ++ Jvm.staticLocs frame_1_statics s) 16 128 → Post tb e args s (.returned v) u) :
    ArmFor flags0 classFile x code maxLocals ret World_1 tables_1 room_1 Calls_1 rest_1 Pre_1 Post := by
  intro l hfl _ _ p e ha hc hk s m args below hf hA hF happ hP
  obtain ⟨hcalls, hrest, hpre⟩ := hP
  obtain ⟨-, -, -, hnamed, -, -, -, hat⟩ := (Spec.applies_iff hf).mp happ
  obtain ⟨hg, hn⟩ := and_e (Cond.before_iff.mp (show (Jvm.Cond.and given_1 narrow_1).before args s = true from hpre))
  obtain ⟨k0, r0⟩ := and_e hg
  obtain ⟨a0, r1⟩ := and_e r0
  obtain ⟨a1, r2⟩ := and_e r1
  obtain ⟨a2, r3⟩ := and_e r2
  obtain ⟨a3, r4⟩ := and_e r3
  have a4 := r4
  obtain ⟨w0, w1, w2, w3, w4, rfl⟩ : ∃ w0 w1 w2 w3 w4 : Value, args = #[w0, w1, w2, w3, w4] := by
    have hs : args.size = 5 := by simpa [Cond.value, given_1] using k0
    obtain ⟨L⟩ := args
    match L, hs with
    | [w0, w1, w2, w3, w4], _ => exact ⟨w0, w1, w2, w3, w4, rfl⟩
  have hw := fun d (hd : d ∈ tables_1) => atoms_spec (ws := Jvm.Cond.code x code maxLocals ret :: tables_1) hat d (List.mem_cons_of_mem _ hd)
  obtain ⟨i0, ei0⟩ := isL_v a0
  obtain rfl : w0 = (.long i0) := Option.some.inj ei0
  obtain ⟨i1, ei1⟩ := isL_v a1
  obtain rfl : w1 = (.long i1) := Option.some.inj ei1
  obtain ⟨i2, ei2⟩ := isL_v a2
  obtain rfl : w2 = (.long i2) := Option.some.inj ei2
  obtain ⟨i3, ei3⟩ := isL_v a3
  obtain rfl : w3 = (.long i3) := Option.some.inj ei3
  obtain ⟨i4, ei4⟩ := is_v a4
  obtain rfl : w4 = (.int i4) := Option.some.inj ei4
  obtain ⟨n, o, h1, h2, h3, _, L, rfl, ⟨rfl, N⟩, hq⟩ := rm0 l s _ hw tables_1 i0 i1 i2 i3 i4 s.heap s.heap.size (Nat.le_refl _) (own_z18 i0 i1 i2 i3 i4) (own_n103 i0 i1 i2 i3 i4) (own_n122 i0 i1 i2 i3 i4) (own_z350 i0 i1 i2 i3 i4) (own_n376 i0 i1 i2 i3 i4) (own_n400 i0 i1 i2 i3 i4) (own_res i0 i1 i2 i3 i4) p e ha hc hk s m _ below hf ((Spec.applies_iff_loose hf).mp happ).1 ⟨rfl, State.Warmed39.refl s, rfl⟩ trivial
  refine ⟨n, _, h1, h2, h3, hpost _ _ _ _ _ _ ⟨Cond.after_iff.mpr rfl, Cond.after_iff.mpr (eq_i res_at (Term.int_eval (1)) rfl), trivial⟩ ⟨hq.1, hq.2.1, (hq.2.2.sift fun y hy => Or.inr (N y hy)).mono (by decide) (by decide)⟩⟩
theorem main_1_1 : Claimed_1_1 := comes_1 fun _ _ _ _ _ _ h hF => ⟨h.1, hF⟩
theorem main_1_2 : Claimed_1_2 := comes_1 fun _ _ _ _ _ _ h hF => ⟨h.2.1, hF⟩
end Jvm.Pilot.@@N@@
namespace Jvm.Pilot.@@N@@
open Jvm Jvm.ClassFile Sem Op Lib Jvm.Free Jvm.Stand Jvm.Pilot.@@N@@.Jvm.D
/-! MADE BY PROGRAM (witnessworld.py) out of the Statement's table words and the real class files: 11 classes; the members and pool entries that the words name. The judged class is class 1, her method 1. -/
namespace start1
open Jvm.ClassFile
def u (s : String) : CpInfo := .utf8 (stringToUtf16 s)
/-- a pool by its gaps: so many unusable entries, then the entry; so many at the end -/
def gap : Nat → List CpInfo → List CpInfo
  | 0, r => r
  | n + 1, r => .unusable :: gap n r
def poolList (es : List (Nat × CpInfo)) (last : Nat) : List CpInfo := es.foldr (fun e r => gap e.1 (e.2 :: r)) (gap last [])
def pool (es : List (Nat × CpInfo)) (last : Nat) : Array CpInfo := ⟨poolList es last⟩
def fileOf (pool : Array CpInfo) (this : Nat) (attrs : Array Attribute := #[]) (ms : Array MethodInfo := #[]) (fl : Nat := 33) (sup : Nat := 0) (ifs : Array Nat := #[]) (fds : Array FieldInfo := #[]) : ClassFile where
  minorVersion := 0
  majorVersion := 65
  constantPool := pool
  accessFlags := fl
  thisClass := this
  superClass := sup
  interfaces := ifs
  fields := fds
  methods := ms
  attributes := attrs
def plain (name : String) (sup : Option ClassId) : Class where
  name := name
  kind := .ordinary
  loader := none
  accessFlags := 33
  super := sup
  interfaces := #[]
  cf := none
  fields := #[]
  methods := #[]
  instanceTypes := #[]
  staticTypes := #[]
  resolved := #[]
  callSites := []
  init := .initialized
  statics := none
  mirror := none

def pool0 : Array CpInfo := pool [(5, u "<init>"), (0, u "()V"), (1, .class_ 10), (1, u "java/lang/Object")] 113

def k0c0 : Code := { maxStack := 0, maxLocals := 1, code := object_method_1_code, exceptionTable := #[], attributes := #[] }
def k0m0 : Method := { name := "<init>", desc := "()V", sig := { parameters := [], returnType := none }, accessFlags := 1, code := some k0c0 }
/-- java/lang/Object -/
def k0 : Class := { plain "java/lang/Object" none with
  accessFlags := 33
  interfaces := #[]
  cf := some (fileOf pool0 8 #[] #[{ accessFlags := 1, nameIndex := 5, descriptorIndex := 6, attributes := #[] }] 33 0 #[] #[])
  fields := #[]
  methods := #[k0m0]
  instanceTypes := #[]
  staticTypes := #[]
  resolved := Array.replicate 124 none
  statics := none }

def pool1 : Array CpInfo := pool [(2, .class_ 4), (1, u "java/lang/Object"), (0, u "<init>"), (0, u "()V"), (2, .long 9223372036854775807), (1, .methodref 12 13), (0, .class_ 14), (0, .nameAndType 15 16), (0, u "java/lang/Math"), (0, u "max"), (0, u "(JJ)J"), (0, .long 2), (1, .class_ 20), (0, u "com/example/duotier/duotier/bench/Tally"), (0, .methodref 19 22), (0, .nameAndType 5 23), (0, u "(JJJJ)V"), (0, .methodref 19 25), (0, .nameAndType 26 27), (0, u "readFraction"), (0, u "()D"), (0, .double 4602678819172646912), (1, .long 562949953421311), (1, .long 7), (1, .class_ 35), (0, u "com/example/duotier/duotier/bench/TallyReadFractionPinLaw"), (2, u "law"), (0, u "(JJJJI)Z")] 3

def k1m0 : Method := { name := "<init>", desc := "()V", sig := { parameters := [], returnType := none }, accessFlags := 1, code := none }
def k1c1 : Code := { maxStack := 10, maxLocals := 31, code := code, exceptionTable := #[], attributes := #[] }
def k1m1 : Method := { name := "law", desc := "(JJJJI)Z", sig := { parameters := [.long, .long, .long, .long, .int], returnType := some .boolean }, accessFlags := 9, code := some k1c1 }
/-- com/example/duotier/duotier/bench/TallyReadFractionPinLaw -/
def k1 : Class := { plain "com/example/duotier/duotier/bench/TallyReadFractionPinLaw" (some 0) with
  accessFlags := 49
  interfaces := #[]
  cf := some (fileOf pool1 34 #[] #[{ accessFlags := 1, nameIndex := 5, descriptorIndex := 6, attributes := #[] }, { accessFlags := 9, nameIndex := 38, descriptorIndex := 39, attributes := #[] }] 49 2 #[] #[])
  fields := #[]
  methods := #[k1m0, k1m1]
  instanceTypes := #[]
  staticTypes := #[]
  resolved := Array.replicate 43 none
  statics := none }

def pool2 : Array CpInfo := pool [(1, .class_ 2), (0, u "java/lang/Math"), (1, .class_ 6), (1, u "java/lang/Object"), (0, u "<init>"), (0, u "()V"), (89, .class_ 100), (1, u "java/lang/Math$RandomNumberGeneratorHolder"), (20, u "(JJ)J"), (50, u "negativeZeroFloatBits"), (0, u "J"), (2, u "negativeZeroDoubleBits"), (21, u "max"), (46, u "$assertionsDisabled"), (0, u "Z"), (91, u "twoToTheDoubleScaleDown"), (0, u "D"), (4, u "twoToTheDoubleScaleUp"), (9, u "E"), (3, u "PI"), (2, u "TAU"), (2, u "DEGREES_TO_RADIANS"), (0, u "RADIANS_TO_DEGREES")] 94

def k2m0 : Method := { name := "<init>", desc := "()V", sig := { parameters := [], returnType := none }, accessFlags := 2, code := none }
def k2c1 : Code := { maxStack := 4, maxLocals := 4, code := jdk_29_method_66_code, exceptionTable := #[], attributes := #[] }
def k2m1 : Method := { name := "max", desc := "(JJ)J", sig := { parameters := [.long, .long], returnType := some .long }, accessFlags := 9, code := some k2c1 }
/-- java/lang/Math -/
def k2 : Class := { plain "java/lang/Math" (some 0) with
  accessFlags := 49
  interfaces := #[]
  cf := some (fileOf pool2 1 #[.nestMembers #[98]] #[{ accessFlags := 2, nameIndex := 7, descriptorIndex := 8, attributes := #[] }, { accessFlags := 9, nameIndex := 198, descriptorIndex := 121, attributes := #[] }] 49 4 #[] #[{ accessFlags := 25, nameIndex := 354, descriptorIndex := 339, attributes := #[] }, { accessFlags := 25, nameIndex := 358, descriptorIndex := 339, attributes := #[] }, { accessFlags := 25, nameIndex := 361, descriptorIndex := 339, attributes := #[] }, { accessFlags := 26, nameIndex := 364, descriptorIndex := 339, attributes := #[] }, { accessFlags := 26, nameIndex := 365, descriptorIndex := 339, attributes := #[] }, { accessFlags := 26, nameIndex := 172, descriptorIndex := 173, attributes := #[] }, { accessFlags := 26, nameIndex := 176, descriptorIndex := 173, attributes := #[] }, { accessFlags := 8, nameIndex := 344, descriptorIndex := 339, attributes := #[] }, { accessFlags := 8, nameIndex := 338, descriptorIndex := 339, attributes := #[] }, { accessFlags := 4120, nameIndex := 245, descriptorIndex := 246, attributes := #[] }])
  fields := #[{ name := "E", type := .double, accessFlags := 25, slot := 0, constantValue := 0 }, { name := "PI", type := .double, accessFlags := 25, slot := 1, constantValue := 0 }, { name := "TAU", type := .double, accessFlags := 25, slot := 2, constantValue := 0 }, { name := "DEGREES_TO_RADIANS", type := .double, accessFlags := 26, slot := 3, constantValue := 0 }, { name := "RADIANS_TO_DEGREES", type := .double, accessFlags := 26, slot := 4, constantValue := 0 }, { name := "negativeZeroFloatBits", type := .long, accessFlags := 26, slot := 5, constantValue := 0 }, { name := "negativeZeroDoubleBits", type := .long, accessFlags := 26, slot := 6, constantValue := 0 }, { name := "twoToTheDoubleScaleUp", type := .double, accessFlags := 8, slot := 7, constantValue := 0 }, { name := "twoToTheDoubleScaleDown", type := .double, accessFlags := 8, slot := 8, constantValue := 0 }, { name := "$assertionsDisabled", type := .boolean, accessFlags := 4120, slot := 9, constantValue := 0 }]
  methods := #[k2m0, k2m1]
  instanceTypes := #[]
  staticTypes := #[.double, .double, .double, .double, .double, .long, .long, .double, .double, .boolean]
  resolved := Array.replicate 460 none
  statics := none }

def pool3 : Array CpInfo := pool [(1, .methodref 2 3), (0, .class_ 4), (0, .nameAndType 5 6), (0, u "java/lang/Object"), (0, u "<init>"), (0, u "()V"), (0, .class_ 8), (0, u "java/lang/Record")] 13

def k3c0 : Code := { maxStack := 1, maxLocals := 1, code := jdk_30_method_1_code, exceptionTable := #[], attributes := #[] }
def k3m0 : Method := { name := "<init>", desc := "()V", sig := { parameters := [], returnType := none }, accessFlags := 4, code := some k3c0 }
/-- java/lang/Record -/
def k3 : Class := { plain "java/lang/Record" (some 0) with
  accessFlags := 1057
  interfaces := #[]
  cf := some (fileOf pool3 7 #[] #[{ accessFlags := 4, nameIndex := 5, descriptorIndex := 6, attributes := #[] }] 1057 2 #[] #[])
  fields := #[]
  methods := #[k3m0]
  instanceTypes := #[]
  staticTypes := #[]
  resolved := Array.replicate 22 none
  statics := none }

def pool4 : Array CpInfo := pool [(1, .methodref 2 3), (0, .class_ 4), (0, .nameAndType 5 6), (0, u "java/lang/Record"), (0, u "<init>"), (0, u "()V"), (0, .fieldref 8 9), (0, .class_ 10), (0, .nameAndType 11 12), (0, u "com/example/duotier/duotier/bench/Tally"), (0, u "operations"), (0, u "J"), (0, .fieldref 8 14), (0, .nameAndType 15 12), (0, u "reads"), (0, .fieldref 8 17), (0, .nameAndType 18 12), (0, u "localMisses"), (0, .fieldref 8 20), (0, .nameAndType 21 12), (0, u "nanos"), (39, u "(JJJJ)V"), (22, u "PREFIX"), (0, u "Ljava/lang/String;"), (12, u "()D"), (0, u "readFraction")] 36

def k4c0 : Code := { maxStack := 3, maxLocals := 9, code := prog_23_method_1_code, exceptionTable := #[], attributes := #[] }
def k4m0 : Method := { name := "<init>", desc := "(JJJJ)V", sig := { parameters := [.long, .long, .long, .long], returnType := none }, accessFlags := 0, code := some k4c0 }
def k4c1 : Code := { maxStack := 4, maxLocals := 1, code := prog_23_method_5_code, exceptionTable := #[], attributes := #[] }
def k4m1 : Method := { name := "readFraction", desc := "()D", sig := { parameters := [], returnType := some .double }, accessFlags := 0, code := some k4c1 }
/-- com/example/duotier/duotier/bench/Tally -/
def k4 : Class := { plain "com/example/duotier/duotier/bench/Tally" (some 3) with
  accessFlags := 48
  interfaces := #[]
  cf := some (fileOf pool4 8 #[] #[{ accessFlags := 0, nameIndex := 5, descriptorIndex := 61, attributes := #[] }, { accessFlags := 0, nameIndex := 99, descriptorIndex := 98, attributes := #[] }] 48 2 #[] #[{ accessFlags := 18, nameIndex := 11, descriptorIndex := 12, attributes := #[] }, { accessFlags := 18, nameIndex := 15, descriptorIndex := 12, attributes := #[] }, { accessFlags := 18, nameIndex := 18, descriptorIndex := 12, attributes := #[] }, { accessFlags := 18, nameIndex := 21, descriptorIndex := 12, attributes := #[] }, { accessFlags := 26, nameIndex := 84, descriptorIndex := 85, attributes := #[] }])
  fields := #[{ name := "operations", type := .long, accessFlags := 18, slot := 0, constantValue := 0 }, { name := "reads", type := .long, accessFlags := 18, slot := 1, constantValue := 0 }, { name := "localMisses", type := .long, accessFlags := 18, slot := 2, constantValue := 0 }, { name := "nanos", type := .long, accessFlags := 18, slot := 3, constantValue := 0 }, { name := "PREFIX", type := (.object "java/lang/String"), accessFlags := 26, slot := 0, constantValue := 0 }]
  methods := #[k4m0, k4m1]
  instanceTypes := #[.long, .long, .long, .long]
  staticTypes := #[(.object "java/lang/String")]
  resolved := Array.replicate 136 none
  statics := none }

def pool5 : Array CpInfo := pool [(1, u "java/lang/Cloneable"), (0, .class_ 1), (0, u "java/lang/Object"), (0, .class_ 3)] 3

/-- java/lang/Cloneable -/
def k5 : Class := { plain "java/lang/Cloneable" (some 0) with
  accessFlags := 1537
  interfaces := #[]
  cf := some (fileOf pool5 2 #[] #[] 1537 4 #[] #[])
  fields := #[]
  methods := #[]
  instanceTypes := #[]
  staticTypes := #[]
  resolved := Array.replicate 8 none
  statics := none }

def pool6 : Array CpInfo := pool [(1, u "java/io/Serializable"), (0, .class_ 1), (0, u "java/lang/Object"), (0, .class_ 3)] 3

/-- java/io/Serializable -/
def k6 : Class := { plain "java/io/Serializable" (some 0) with
  accessFlags := 1537
  interfaces := #[]
  cf := some (fileOf pool6 2 #[] #[] 1537 4 #[] #[])
  fields := #[]
  methods := #[]
  instanceTypes := #[]
  staticTypes := #[]
  resolved := Array.replicate 8 none
  statics := none }

/-- the primitive byte -/
def k7 : Class := { plain "byte" none with kind := .primitive 'B', accessFlags := 0x411 }
/-- [B -/
def k8 : Class := { plain "[B" (some 0) with kind := .array 7 .byte, interfaces := #[5, 6], accessFlags := 1041 }

/-- the primitive int -/
def k9 : Class := { plain "int" none with kind := .primitive 'I', accessFlags := 0x411 }
/-- [I -/
def k10 : Class := { plain "[I" (some 0) with kind := .array 9 .int, interfaces := #[5, 6], accessFlags := 1041 }

def heap : Heap := #[]
def classes : Array Class := #[k0, k1, k2, k3, k4, k5, k6, k7, k8, k9, k10]
def interned : List (Array UInt16 × Addr) := []
def slotsUsed : Nat := 0
def theMethod : MethodId := ⟨1, 1⟩
def args0 : Array Value := #[.long 5, .long 3, .long 2, .long 7, .int 9]
def aboutOver (below : List Frame) : State where
  vm := { classes := classes, interned := interned.toArray }
  heap := heap
  slotsUsed := slotsUsed
  threads := #[{ frames := .invoking theMethod args0 :: below }]
def below0 : List Frame := [.native { method := ⟨0, 0⟩, args := #[] }]
def about1 : State := aboutOver below0
def p0 : Program := .bare "" "" ""
def e0 : Env := launch0.env 0 0 0
theorem w_frames : about1.frames = Frame.invoking theMethod args0 :: below0 := rfl
set_option maxRecDepth 65536 in
theorem w_args : argsFit about1.vm theMethod args0 = true := by decide +kernel
set_option maxRecDepth 65536 in
theorem w_heap : heapFits about1 = true := by decide +kernel
set_option maxRecDepth 65536 in
theorem w_runnable : about1.curStatus? = some .runnable := by decide +kernel
set_option maxRecDepth 65536 in
theorem w_alone : about1.alone = true := by decide +kernel
set_option maxRecDepth 65536 in
theorem w_named : about1.methodNamed? x = some theMethod := by decide +kernel
set_option maxRecDepth 65536 in
theorem w_hears : about1.hears theMethod below0 = true := by decide +kernel
set_option maxRecDepth 65536 in
theorem w_ripe : about1.ripe theMethod args0 below0 = true := by decide +kernel
theorem w_running : about1.status = .running := rfl
set_option maxRecDepth 65536 in
theorem w_room : about1.hasRoom e0.platform room_1 = true :=
  launch0.hasRoom_least _ room_1 (by decide +kernel) (by decide +kernel) (by decide +kernel) (by decide +kernel) (by decide +kernel) (by decide +kernel)
theorem allAtoms_all (ts : List Jvm.Cond) (a : Array Jvm.Value) (st : Jvm.State) : (allAtoms ts).before a st = ts.all (fun c => c.before a st) := by
  induction ts with
  | nil => rfl
  | cons c t ih =>
    show (Jvm.Cond.and c (allAtoms t)).before a st = _
    rw [Jvm.Cond.before_and, ih, List.all_cons]
def words1 : List Jvm.Cond := Jvm.Cond.code x code maxLocals ret :: tables_1
/-- a 'code' word, met by the world's own term for the bytes: nothing is compared byte by byte -/
theorem code_word {y : MethodName} {bytes : ByteArray} {mx : Nat} {rt : Option FieldType} {a : Array Value} {s : State} {m : MethodId} {meth : Method} {c : Code} (h1 : s.methodNamed? y = some m) (h2 : s.vm.method? m = some meth) (h3 : meth.code = some c) (h4 : c.code = bytes)
    (h5 : (c.maxLocals == mx && c.exceptionTable.isEmpty && decide (c.maxStack ≤ mostOperands) && decide (meth.sig.returnType = rt) && !meth.locks && decide (parseMethodDescriptor y.desc = some meth.sig)) = true) : (Jvm.Cond.code y bytes mx rt).before a s = true := by
  simp only [Bool.and_eq_true, beq_iff_eq, Bool.not_eq_true', decide_eq_true_eq] at h5
  obtain ⟨⟨⟨⟨⟨g1, g2⟩, g3⟩, g4⟩, g5⟩, g6⟩ := h5
  simp [Cond.before, Cond.holds, Cond.value, h1, h2, h3, h4, g1, g2, g3, g4, g5, g6]
def isCode : Jvm.Cond → Bool
  | .code _ _ _ _ => true
  | _ => false
theorem all_split {L : List Jvm.Cond} {P : Jvm.Cond → Bool} (h1 : L.all (fun c => isCode c || P c) = true) (h2 : ∀ c ∈ L.filter isCode, P c = true) : L.all P = true := by
  refine List.all_eq_true.mpr fun c hc => ?_
  have h := List.all_eq_true.mp h1 c hc
  rcases Bool.eq_false_or_eq_true (isCode c) with hi | hi
  · exact h2 c (List.mem_filter.mpr ⟨hc, hi⟩)
  · simpa [hi] using h
set_option maxRecDepth 65536 in
theorem w_c0 : (Jvm.Cond.code x code maxLocals ret).before args0 about1 = true := code_word (m := ⟨1, 1⟩) (meth := k1m1) (c := k1c1) (by decide +kernel) rfl rfl rfl (by decide +kernel)
set_option maxRecDepth 65536 in
theorem w_c1 : (Jvm.Cond.code ({ cls := "java/lang/Math", name := "max", desc := "(JJ)J" } : Jvm.MethodName) jdk_29_method_66_code (4 : Nat) (Option.some Jvm.ClassFile.FieldType.long)).before args0 about1 = true := code_word (m := ⟨2, 1⟩) (meth := k2m1) (c := k2c1) (by decide +kernel) rfl rfl rfl (by decide +kernel)
set_option maxRecDepth 65536 in
theorem w_c2 : (Jvm.Cond.code ({ cls := "com/example/duotier/duotier/bench/Tally", name := "<init>", desc := "(JJJJ)V" } : Jvm.MethodName) prog_23_method_1_code (9 : Nat) (Option.none : Option Jvm.ClassFile.FieldType)).before args0 about1 = true := code_word (m := ⟨4, 0⟩) (meth := k4m0) (c := k4c0) (by decide +kernel) rfl rfl rfl (by decide +kernel)
set_option maxRecDepth 65536 in
theorem w_c3 : (Jvm.Cond.code ({ cls := "java/lang/Record", name := "<init>", desc := "()V" } : Jvm.MethodName) jdk_30_method_1_code (1 : Nat) (Option.none : Option Jvm.ClassFile.FieldType)).before args0 about1 = true := code_word (m := ⟨3, 0⟩) (meth := k3m0) (c := k3c0) (by decide +kernel) rfl rfl rfl (by decide +kernel)
set_option maxRecDepth 65536 in
theorem w_c4 : (Jvm.Cond.code ({ cls := "java/lang/Object", name := "<init>", desc := "()V" } : Jvm.MethodName) object_method_1_code (1 : Nat) (Option.none : Option Jvm.ClassFile.FieldType)).before args0 about1 = true := code_word (m := ⟨0, 0⟩) (meth := k0m0) (c := k0c0) (by decide +kernel) rfl rfl rfl (by decide +kernel)
set_option maxRecDepth 65536 in
theorem w_c5 : (Jvm.Cond.code ({ cls := "com/example/duotier/duotier/bench/Tally", name := "readFraction", desc := "()D" } : Jvm.MethodName) prog_23_method_5_code (1 : Nat) (Option.some Jvm.ClassFile.FieldType.double)).before args0 about1 = true := code_word (m := ⟨4, 1⟩) (meth := k4m1) (c := k4c1) (by decide +kernel) rfl rfl rfl (by decide +kernel)
def codes1 : List Jvm.Cond := [Jvm.Cond.code x code maxLocals ret, Jvm.Cond.code ({ cls := "java/lang/Math", name := "max", desc := "(JJ)J" } : Jvm.MethodName) jdk_29_method_66_code (4 : Nat) (Option.some Jvm.ClassFile.FieldType.long), Jvm.Cond.code ({ cls := "com/example/duotier/duotier/bench/Tally", name := "<init>", desc := "(JJJJ)V" } : Jvm.MethodName) prog_23_method_1_code (9 : Nat) (Option.none : Option Jvm.ClassFile.FieldType), Jvm.Cond.code ({ cls := "java/lang/Record", name := "<init>", desc := "()V" } : Jvm.MethodName) jdk_30_method_1_code (1 : Nat) (Option.none : Option Jvm.ClassFile.FieldType), Jvm.Cond.code ({ cls := "java/lang/Object", name := "<init>", desc := "()V" } : Jvm.MethodName) object_method_1_code (1 : Nat) (Option.none : Option Jvm.ClassFile.FieldType), Jvm.Cond.code ({ cls := "com/example/duotier/duotier/bench/Tally", name := "readFraction", desc := "()D" } : Jvm.MethodName) prog_23_method_5_code (1 : Nat) (Option.some Jvm.ClassFile.FieldType.double)]
set_option maxRecDepth 65536 in
theorem codes_eq : words1.filter isCode = codes1 := rfl
theorem w_codes : ∀ c ∈ words1.filter isCode, c.before args0 about1 = true := by
  rw [codes_eq]
  intro c hc
  simp only [codes1, List.mem_cons, List.not_mem_nil, or_false] at hc
  rcases hc with rfl | rfl | rfl | rfl | rfl | rfl
  · exact w_c0
  · exact w_c1
  · exact w_c2
  · exact w_c3
  · exact w_c4
  · exact w_c5
set_option maxRecDepth 65536 in
theorem w_t1 : (words1.take 24).all (fun c => isCode c || c.before args0 about1) = true := by decide +kernel
set_option maxRecDepth 65536 in
theorem w_t2 : (words1.drop 24).all (fun c => isCode c || c.before args0 about1) = true := by decide +kernel
theorem w_tables : (allAtoms (Jvm.Cond.code x code maxLocals ret :: tables_1)).before args0 about1 = true := by
  rw [allAtoms_all]
  show words1.all (fun c => c.before args0 about1) = true
  refine all_split ?_ w_codes
  rw [← List.take_append_drop 24 words1, List.all_append, w_t1, w_t2]
  rfl
set_option maxRecDepth 65536 in
theorem w_case : (Jvm.Cond.and given_1 narrow_1).before args0 about1 = true := by decide +kernel
theorem w_applies : (headSpec (Jvm.Cond.code x code maxLocals ret :: tables_1) room_1).applies x e0.platform about1 = true :=
  (Spec.applies_iff w_frames).mpr ⟨w_running, w_runnable, w_alone, w_named, w_hears, w_ripe, w_room, w_tables⟩
theorem atStart : AtStart classFile x code maxLocals ret World_1 tables_1 room_1 Calls_1 rest_1 Pre_1 launch0 p0 e0 about1 theMethod args0 below0 :=
  ⟨lists_1, trivial, launch0.admits_env _ _ _, launch0.least_env, fairChoices_fair.cas, fairChoices_fair.clock, w_frames, w_args, w_heap, w_applies, trivial, trivial, w_case⟩
end start1
theorem witness_1 : WitnessClaimed_1 := ⟨start1.p0, start1.e0, start1.about1, start1.theMethod, start1.args0, start1.below0, start1.atStart⟩
end Jvm.Pilot.@@N@@
