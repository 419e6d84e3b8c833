import JvmDerived
import JvmDerived.Pilot.@@N@@Statement
import JvmDerived.Pilot.@@N@@Code
set_option linter.unusedVariables false
set_option linter.unusedSimpArgs false
@@BLOCK:NumsL.lean.txt@@
namespace Jvm.RoadKit
open Sem ClassFile Op Lib Jvm.Stand Jvm.Free Jvm.LawKit
section New
variable {p : Program} {l : Launch} {e : Env} {R : Room} {s : State} {m : MethodId} {args : Array Value} {below : List Frame} {meth : Method} {c : Code} {T : State} {locs : List Loc} {cells slots : Nat}
theorem retI (X : Stand p l e R s m args below meth c T locs cells slots) (hx : p.tables.exec = Jvm.exec) {pc : Nat} {Ls : Array Slot} {z : Int32} {rest : List Value} (hret : meth.sig.returnType = some .int) (hd : decode c.code pc = .ok (.ireturn, 1)) {fs : List Frame}
    (hl : ∀ (f : JFrame) (acts : List Action), f.method = m → f.locked = none → f.entered = [] → (doReturn e (T.setTop f) acts (some (.int z))).1 = T.setFrames fs) : Steps p.tables e below (T.setTop (mkF m pc Ls (.int z :: rest))) (T.setFrames fs) := by
  have hm' : T.vm.method? m = some meth := X.method'
  have hn : narrow .int (.int z) = .int z := rfl
  show Steps p.tables e below (T.setTop { method := m, pc := pc, locals := Ls, stack := _ :: rest, locked := none }) _
  jvm_step X.here [X.here.top, hx, hd, hm', hret, hn]
  first | (intro acts; rw [hl _ acts rfl rfl rfl]) | rw [hl _ _ rfl rfl rfl]
  exact Steps.refl _
theorem retD (X : Stand p l e R s m args below meth c T locs cells slots) (hx : p.tables.exec = Jvm.exec) {pc : Nat} {Ls : Array Slot} {z : UInt64} {rest : List Value} (hret : meth.sig.returnType = some .double) (hd : decode c.code pc = .ok (.dreturn, 1)) {fs : List Frame}
    (hl : ∀ (f : JFrame) (acts : List Action), f.method = m → f.locked = none → f.entered = [] → (doReturn e (T.setTop f) acts (some (.double z))).1 = T.setFrames fs) : Steps p.tables e below (T.setTop (mkF m pc Ls (.double z :: rest))) (T.setFrames fs) := by
  have hm' : T.vm.method? m = some meth := X.method'
  have hn : narrow .double (.double z) = .double z := rfl
  show Steps p.tables e below (T.setTop { method := m, pc := pc, locals := Ls, stack := _ :: rest, locked := none }) _
  jvm_step X.here [X.here.top, hx, hd, hm', hret, hn]
  first | (intro acts; rw [hl _ acts rfl rfl rfl]) | rw [hl _ _ rfl rfl rfl]
  exact Steps.refl _
end New
end Jvm.RoadKit
namespace Jvm.OwnFP
open Sem ClassFile Op Lib
theorem rem32_eq (x y : Int32) : x - x / y * y = x % y := Int32.toInt_inj.mp (by
  have a := (x % y).toInt_lt; have b := (x % y).le_toInt
  rw [Int32.toInt_mod] at a b ⊢
  rw [Int32.toInt_sub, Int32.toInt_mul, Int32.toInt_div, Int.bmod_mul_bmod, Int.sub_bmod_bmod, Int.mul_comm, ← Int.tmod_def]
  exact Jvm.Kit.bmod32 b a)
theorem rem64_eq (x y : Int64) : x - x / y * y = x % y := Int64.toInt_inj.mp (by rw [Jvm.Kit.i64_rem, Int64.toInt_mod])
theorem iremM {tb : Tables} [Ours tb] {e : Env} {below : List Frame} {T target : State} {m : MethodId} {c : Code} {g : JFrame} (h : At T m c below) (hx : tb.exec = Jvm.exec) (hg : g.method = m) {x y : Int32} {rest : List Value} (hd : decode c.code g.pc = .ok (.irem, 1)) (hs : g.stack = .int y :: .int x :: rest) (hy : y ≠ 0)
    (hr : Steps tb e below (T.setTop { g with pc := g.pc + 1, stack := .int (x % y) :: rest }) target) : Steps tb e below (T.setTop g) target := Jvm.Free.XS.irem h hx hg hd hs hy (by rw [rem32_eq]; exact hr)
theorem lremM {tb : Tables} [Ours tb] {e : Env} {below : List Frame} {T target : State} {m : MethodId} {c : Code} {g : JFrame} (h : At T m c below) (hx : tb.exec = Jvm.exec) (hg : g.method = m) {x y : Int64} {rest : List Value} (hd : decode c.code g.pc = .ok (.lrem, 1)) (hs : g.stack = .long y :: .long x :: rest) (hy : y ≠ 0)
    (hr : Steps tb e below (T.setTop { g with pc := g.pc + 1, stack := .long (x % y) :: rest }) target) : Steps tb e below (T.setTop g) target := Jvm.Free.XS.lrem h hx hg hd hs hy (by rw [rem64_eq]; exact hr)
end Jvm.OwnFP
namespace Jvm.OwnFP
open Jvm.FP.Core
/-! doubles by their values in units of 2^-1074: rounding is monotone, numbers of the format round to themselves -/
def zv (a : UInt64) : Int := zval b64 (val64 a)
/-- z (in units) is a number of the format -/
def Rep (z : Int) : Prop := ∃ V : Datum, Jvm.FP.Core.fits b64 V ∧ V ≠ .nan ∧ zval b64 V = z
abbrev O : Int := (one64 : Int)
theorem mmmc (a b c d : Int) : a * b * (c * d) = a * c * (b * d) := by rw [Int.mul_assoc, Int.mul_assoc, Int.mul_left_comm b]
theorem O_pos : 0 < O := by have := one64_pos; show (0 : Int) < (one64 : Int); omega
theorem qmax_b64 : b64.qmax = 971 := by decide +kernel
theorem signed_nat (n : Int) : signed (decide (n < 0)) n.natAbs = n := by
  unfold signed
  by_cases h : n < 0
  · simp only [h, decide_true, if_true]; omega
  · simp only [h, decide_false, Bool.false_eq_true, if_false]; omega
theorem rep_lt {n : Int} (k : Nat) (hn : n.natAbs < 9007199254740992) (hk : k ≤ 2000) : Rep (n * ((2 ^ k : Nat) : Int)) := by
  obtain ⟨c', q', h1, h2⟩ := round_exact good_b64 (decide (n < 0)) (c := n.natAbs) (q := (k : Int) - 1074) (Nat.lt_of_lt_of_le hn (by decide +kernel)) (by rw [qmin_b64]; omega) (by rw [qmax_b64]; omega)
  refine ⟨round b64 (.fin (decide (n < 0)) n.natAbs ((k : Int) - 1074)), round_fits good_b64 _, ?_, ?_⟩
  · rw [h1]; exact Datum.noConfusion
  · rw [h1]
    show signed (decide (n < 0)) (inUnits c' q' b64.qmin) = _
    rw [h2]
    unfold inUnits
    rw [qmin_b64, signed_mul, signed_nat, show ((k : Int) - 1074 - -1074).toNat = k by omega]
theorem rep_le {n : Int} (k : Nat) (hn : n.natAbs ≤ 9007199254740992) (hk : k ≤ 1999) : Rep (n * ((2 ^ k : Nat) : Int)) := by
  by_cases h : n.natAbs < 9007199254740992
  · exact rep_lt k h (by omega)
  · have h2 : n = 9007199254740992 ∨ n = -9007199254740992 := by omega
    have e : ∀ m : Int, (m * 2) * ((2 ^ k : Nat) : Int) = m * ((2 ^ (k + 1) : Nat) : Int) := fun m => by
      rw [Nat.pow_succ, Int.natCast_mul, Int.mul_assoc, Int.mul_comm 2]; rfl
    rcases h2 with rfl | rfl
    · rw [show (9007199254740992 : Int) = 4503599627370496 * 2 by decide, e]; exact rep_lt (k + 1) (by decide) (by omega)
    · rw [show (-9007199254740992 : Int) = -4503599627370496 * 2 by decide, e]; exact rep_lt (k + 1) (by decide) (by omega)
theorem pow_split (k j : Nat) : ((2 ^ (k + j) : Nat) : Int) = ((2 ^ k : Nat) : Int) * ((2 ^ j : Nat) : Int) := by rw [Nat.pow_add, Int.natCast_mul]
theorem pow_O (j : Nat) (hj : j ≤ 1074) : O = ((2 ^ j : Nat) : Int) * ((2 ^ (1074 - j) : Nat) : Int) := by
  rw [← pow_split, show j + (1074 - j) = 1074 by omega]; rfl
/-- a whole number -/
theorem rep_int {n : Int} (hn : n.natAbs ≤ 9007199254740992) : Rep (n * O) := by
  have := rep_le (n := n) 1074 hn (by decide)
  exact this
/-- n halves .. : n / 2^j -/
theorem rep_frac {n : Int} (j : Nat) (hj : j ≤ 1074) {z : Int} (hn : n.natAbs ≤ 9007199254740992) (h : z * ((2 ^ j : Nat) : Int) = n * O) : Rep z := by
  have h1 := rep_le (n := n) (1074 - j) hn (by omega)
  have hp : (0 : Int) < ((2 ^ j : Nat) : Int) := Int.natCast_pos.mpr (Nat.two_pow_pos j)
  have e : z = n * ((2 ^ (1074 - j) : Nat) : Int) := by
    refine Int.eq_of_mul_eq_mul_right (Int.ne_of_gt hp) ?_
    rw [h, pow_O j hj, Int.mul_assoc, Int.mul_comm ((2 ^ (1074 - j) : Nat) : Int)]
  rw [e]; exact h1
theorem Rep.neg {z : Int} (h : Rep z) : Rep (-z) := by
  obtain ⟨V, h1, h2, rfl⟩ := h
  exact ⟨negate V, negate_fits h1, negate_ne_nan h2, zval_negate b64 V⟩
theorem rep_zv {a : UInt64} (h : val64 a ≠ .nan) : Rep (zv a) := ⟨val64 a, val64_fits a, h, rfl⟩
theorem fin_of {a : UInt64} (h : DFin a) : ∃ s c q, val64 a = .fin s c q ∧ Jvm.FP.Core.fits b64 (.fin s c q) := by
  obtain ⟨s, c, q, h⟩ := h
  exact ⟨s, c, q, h, h ▸ val64_fits a⟩
/-! whole numbers -/
theorem l2d_le {n : Int64} {z : Int} (hz : Rep z) (h : n.toInt * O ≤ z) : zv (Jvm.FP.l2d n) ≤ z := by
  obtain ⟨V, fV, nV, rfl⟩ := hz
  show zval b64 (val64 (l2d n)) ≤ _
  rw [val64_l2d]
  refine zval_round_le good_b64 fV nV (e0 := b64.qmin) (Int.le_refl _) (by decide +kernel) ?_
  rw [ofInt_units b64, pow_qmin64, Int.sub_self]
  show _ ≤ _ * ((1 : Nat) : Int)
  rw [show ((1 : Nat) : Int) = 1 from rfl, Int.mul_one]; exact h
theorem l2d_ge {n : Int64} {z : Int} (hz : Rep z) (h : z ≤ n.toInt * O) : z ≤ zv (Jvm.FP.l2d n) := by
  obtain ⟨V, fV, nV, rfl⟩ := hz
  show _ ≤ zval b64 (val64 (l2d n))
  rw [val64_l2d]
  refine zval_round_ge good_b64 fV nV (e0 := b64.qmin) (Int.le_refl _) (by decide +kernel) ?_
  rw [ofInt_units b64, pow_qmin64, Int.sub_self]
  show _ * ((1 : Nat) : Int) ≤ _
  rw [show ((1 : Nat) : Int) = 1 from rfl, Int.mul_one]; exact h
theorem l2d_eq {n : Int64} (h : n.toInt.natAbs ≤ 9007199254740992) : zv (Jvm.FP.l2d n) = n.toInt * O :=
  Int.le_antisymm (l2d_le (rep_int h) (Int.le_refl _)) (l2d_ge (rep_int h) (Int.le_refl _))
theorem i2d_eq (n : Int32) : zv (Jvm.FP.i2d n) = n.toInt * O := DInt_zval (i2d_int n)
theorem l2dF (n : Int64) : DFin (Jvm.FP.l2d n) := l2d_fin n
theorem i2dF (n : Int32) : DFin (Jvm.FP.i2d n) := i2d_fin n
/-! products -/
theorem mul_le {a b : UInt64} {z : Int} (ha : DFin a) (hb : DFin b) (hz : Rep z) (h : zv a * zv b ≤ z * O) : zv (Jvm.FP.dmul a b) ≤ z := by
  obtain ⟨V, fV, nV, rfl⟩ := hz
  obtain ⟨s, c, q, ea, fa⟩ := fin_of ha
  obtain ⟨t, d, r, eb, fb⟩ := fin_of hb
  unfold zv at h ⊢
  rw [ea, eb] at h
  show zval b64 (val64 (dmul a b)) ≤ _
  rw [val64_dmul, ea, eb]
  obtain ⟨h1, h2, h3⟩ := product_units fa fb
  rw [h1]
  refine zval_round_le good_b64 fV nV (e0 := 2 * b64.qmin) (by rw [qmin_b64]; decide) h2 ?_
  rw [h3, signed_xor, show (b64.qmin - 2 * b64.qmin).toNat = (-b64.qmin).toNat by omega, pow_qmin64]
  exact h
theorem mul_ge {a b : UInt64} {z : Int} (ha : DFin a) (hb : DFin b) (hz : Rep z) (h : z * O ≤ zv a * zv b) : z ≤ zv (Jvm.FP.dmul a b) := by
  obtain ⟨V, fV, nV, rfl⟩ := hz
  obtain ⟨s, c, q, ea, fa⟩ := fin_of ha
  obtain ⟨t, d, r, eb, fb⟩ := fin_of hb
  unfold zv at h ⊢
  rw [ea, eb] at h
  show _ ≤ zval b64 (val64 (dmul a b))
  rw [val64_dmul, ea, eb]
  obtain ⟨h1, h2, h3⟩ := product_units fa fb
  rw [h1]
  refine zval_round_ge good_b64 fV nV (e0 := 2 * b64.qmin) (by rw [qmin_b64]; decide) h2 ?_
  rw [h3, signed_xor, show (b64.qmin - 2 * b64.qmin).toNat = (-b64.qmin).toNat by omega, pow_qmin64]
  exact h
theorem mul_eq {a b : UInt64} {z : Int} (ha : DFin a) (hb : DFin b) (hz : Rep z) (h : zv a * zv b = z * O) : zv (Jvm.FP.dmul a b) = z :=
  Int.le_antisymm (mul_le ha hb hz (Int.le_of_eq h)) (mul_ge ha hb hz (Int.le_of_eq h.symm))
/-! sums -/
theorem add_le {a b : UInt64} {z : Int} (ha : DFin a) (hb : DFin b) (hz : Rep z) (h : zv a + zv b ≤ z) : zv (Jvm.FP.dadd a b) ≤ z := by
  obtain ⟨V, fV, nV, rfl⟩ := hz
  show zval b64 (val64 (dadd a b)) ≤ _
  rw [val64_dadd]
  exact sum_le good_b64 ha hb (val64_fits a) (val64_fits b) fV nV h
theorem add_ge {a b : UInt64} {z : Int} (ha : DFin a) (hb : DFin b) (hz : Rep z) (h : z ≤ zv a + zv b) : z ≤ zv (Jvm.FP.dadd a b) := by
  obtain ⟨V, fV, nV, rfl⟩ := hz
  show _ ≤ zval b64 (val64 (dadd a b))
  rw [val64_dadd]
  exact sum_ge good_b64 ha hb (val64_fits a) (val64_fits b) fV nV h
theorem add_eq {a b : UInt64} {z : Int} (ha : DFin a) (hb : DFin b) (hz : Rep z) (h : zv a + zv b = z) : zv (Jvm.FP.dadd a b) = z :=
  Int.le_antisymm (add_le ha hb hz (Int.le_of_eq h)) (add_ge ha hb hz (Int.le_of_eq h.symm))
theorem fin_negate {b : UInt64} (hb : DFin b) : ∃ s c q, negate (val64 b) = .fin s c q := by
  obtain ⟨s, c, q, h⟩ := hb
  rw [h]; exact ⟨_, _, _, rfl⟩
theorem sub_le {a b : UInt64} {z : Int} (ha : DFin a) (hb : DFin b) (hz : Rep z) (h : zv a - zv b ≤ z) : zv (Jvm.FP.dsub a b) ≤ z := by
  obtain ⟨V, fV, nV, rfl⟩ := hz
  show zval b64 (val64 (dsub a b)) ≤ _
  rw [val64_dsub]
  refine sum_le good_b64 ha (fin_negate hb) (val64_fits a) (negate_fits (val64_fits b)) fV nV ?_
  rw [zval_negate]; unfold zv at h; omega
theorem sub_ge {a b : UInt64} {z : Int} (ha : DFin a) (hb : DFin b) (hz : Rep z) (h : z ≤ zv a - zv b) : z ≤ zv (Jvm.FP.dsub a b) := by
  obtain ⟨V, fV, nV, rfl⟩ := hz
  show _ ≤ zval b64 (val64 (dsub a b))
  rw [val64_dsub]
  refine sum_ge good_b64 ha (fin_negate hb) (val64_fits a) (negate_fits (val64_fits b)) fV nV ?_
  rw [zval_negate]; unfold zv at h; omega
theorem sub_eq {a b : UInt64} {z : Int} (ha : DFin a) (hb : DFin b) (hz : Rep z) (h : zv a - zv b = z) : zv (Jvm.FP.dsub a b) = z :=
  Int.le_antisymm (sub_le ha hb hz (Int.le_of_eq h)) (sub_ge ha hb hz (Int.le_of_eq h.symm))
/-! quotients -/
theorem ratio_le {s : Bool} {A B : Nat} {e e0 : Int} {V : Datum} (hB : 0 < B) (hV : Jvm.FP.Core.fits b64 V) (hn : V ≠ .nan) (h0 : e0 ≤ b64.qmin) (h0e : e0 ≤ e)
    (h : signed s (inUnits A e e0) ≤ zval b64 V * ((2 ^ (b64.qmin - e0).toNat * B : Nat) : Int)) : zval b64 (roundRatio b64 s A B e) ≤ zval b64 V := by
  have hle := zmag_roundRatio_le good_b64 (s := s) (A := A) hB hV hn h0 h0e
  have hge := zmag_roundRatio_ge good_b64 (s := s) (A := A) hB hV h0 h0e
  have hP : 0 < 2 ^ (b64.qmin - e0).toNat * B := Nat.mul_pos (Nat.two_pow_pos _) hB
  rw [Nat.mul_assoc] at hle hge
  unfold zval at h ⊢
  rw [sgn_roundRatio]
  rw [← signed_mul] at h
  have hz : zmag b64 V * (2 ^ (b64.qmin - e0).toNat * B) = 0 → zmag b64 V = 0 := by
    intro h
    rcases Nat.mul_eq_zero.mp h with h | h <;> omega
  generalize zmag b64 V * (2 ^ (b64.qmin - e0).toNat * B) = vP at *
  generalize sgn V = t at *
  cases s <;> cases t <;> simp only [signed, if_true, Bool.false_eq_true, if_false] at h ⊢
  · have := hle (by omega); omega
  · have := hle (by omega); have := hz (by omega); omega
  · omega
  · have := hge (by omega); omega
theorem signed_flip (s : Bool) (m : Nat) : signed (!s) m = -signed s m := by cases s <;> simp [signed]
theorem ratio_ge {s : Bool} {A B : Nat} {e e0 : Int} {V : Datum} (hB : 0 < B) (hV : Jvm.FP.Core.fits b64 V) (hn : V ≠ .nan) (h0 : e0 ≤ b64.qmin) (h0e : e0 ≤ e)
    (h : zval b64 V * ((2 ^ (b64.qmin - e0).toNat * B : Nat) : Int) ≤ signed s (inUnits A e e0)) : zval b64 V ≤ zval b64 (roundRatio b64 s A B e) := by
  have h1 := ratio_le (s := !s) (A := A) (e := e) (V := negate V) hB (negate_fits hV) (negate_ne_nan hn) h0 h0e (by
    rw [zval_negate, Int.neg_mul, signed_flip]; omega)
  rw [zval_negate, ← negate_roundRatio, zval_negate] at h1
  omega
theorem zval_fin (s : Bool) (c : Nat) (q : Int) : zval b64 (.fin s c q) = signed s c * ((2 ^ (q - b64.qmin).toNat : Nat) : Int) := by
  show signed s (inUnits c q b64.qmin) = _
  unfold inUnits; rw [signed_mul]
theorem pow_mul_eq {a b c d : Nat} (h : a + b = c + d) : (2 ^ a * 2 ^ b : Nat) = 2 ^ c * 2 ^ d := by rw [← Nat.pow_add, ← Nat.pow_add, h]
/-- how c·2^q / (d·2^r) ≤ z reads in units -/
theorem div_units {s : Bool} {c d : Nat} {q r : Int} (hq : b64.qmin ≤ q) (hr : b64.qmin ≤ r) :
    ∃ (x y : Nat), (signed s (inUnits c (q - r) (min b64.qmin (q - r)))) * ((2 ^ x : Nat) : Int) = (signed s c * ((2 ^ (q - b64.qmin).toNat : Nat) : Int)) * O * ((2 ^ y : Nat) : Int) ∧
      ∀ z : Int, (z * ((2 ^ (b64.qmin - min b64.qmin (q - r)).toNat * d : Nat) : Int)) * ((2 ^ x : Nat) : Int) = z * ((d : Int) * ((2 ^ (r - b64.qmin).toNat : Nat) : Int)) * ((2 ^ y : Nat) : Int) := by
  have hO : O = ((2 ^ (-b64.qmin).toNat : Nat) : Int) := by rw [pow_qmin64]
  have hqm : b64.qmin ≤ 0 := by rw [qmin_b64]; decide
  refine ⟨(r - 2 * b64.qmin + min b64.qmin (q - r)).toNat, (-(r - 2 * b64.qmin + min b64.qmin (q - r))).toNat, ?_, fun z => ?_⟩
  · unfold inUnits
    rw [signed_mul, hO]
    have e : (q - r - min b64.qmin (q - r)).toNat + (r - 2 * b64.qmin + min b64.qmin (q - r)).toNat = ((q - b64.qmin).toNat + (-b64.qmin).toNat) + (-(r - 2 * b64.qmin + min b64.qmin (q - r))).toNat := by omega
    have e2 := pow_mul_eq e
    rw [Nat.pow_add _ (q - b64.qmin).toNat] at e2
    have e3 : (((2 ^ (q - r - min b64.qmin (q - r)).toNat : Nat) : Int)) * ((2 ^ (r - 2 * b64.qmin + min b64.qmin (q - r)).toNat : Nat) : Int) = ((2 ^ (q - b64.qmin).toNat : Nat) : Int) * ((2 ^ (-b64.qmin).toNat : Nat) : Int) * ((2 ^ (-(r - 2 * b64.qmin + min b64.qmin (q - r))).toNat : Nat) : Int) := by
      rw [← Int.natCast_mul, ← Int.natCast_mul, ← Int.natCast_mul, e2]
    rw [Int.mul_assoc, e3]; simp only [Int.mul_assoc]
  · have e : (b64.qmin - min b64.qmin (q - r)).toNat + (r - 2 * b64.qmin + min b64.qmin (q - r)).toNat = (r - b64.qmin).toNat + (-(r - 2 * b64.qmin + min b64.qmin (q - r))).toNat := by omega
    have e2 := pow_mul_eq e
    have e3 : ((2 ^ (b64.qmin - min b64.qmin (q - r)).toNat * d : Nat) : Int) * ((2 ^ (r - 2 * b64.qmin + min b64.qmin (q - r)).toNat : Nat) : Int) = ((d : Int) * ((2 ^ (r - b64.qmin).toNat : Nat) : Int)) * ((2 ^ (-(r - 2 * b64.qmin + min b64.qmin (q - r))).toNat : Nat) : Int) := by
      rw [← Int.natCast_mul, ← Int.natCast_mul, ← Int.natCast_mul, Nat.mul_right_comm, e2, Nat.mul_comm d, Nat.mul_right_comm]
    rw [Int.mul_assoc, e3]; simp only [Int.mul_assoc]
theorem pos_fin {s : Bool} {c : Nat} {q : Int} (h : 0 < signed s c * ((2 ^ (q - b64.qmin).toNat : Nat) : Int)) : s = false ∧ 0 < c := by
  have hp : (0 : Int) < ((2 ^ (q - b64.qmin).toNat : Nat) : Int) := Int.natCast_pos.mpr (Nat.two_pow_pos _)
  have h1 : 0 < signed s c := by
    refine Int.lt_of_not_ge fun hle => ?_
    have := Int.mul_le_mul_of_nonneg_right hle (Int.le_of_lt hp)
    omega
  cases s
  · exact ⟨rfl, by simp only [signed, Bool.false_eq_true, if_false] at h1; omega⟩
  · simp only [signed, if_true] at h1; omega
theorem div_parts {a b : UInt64} (ha : DFin a) (hb : DFin b) (hp : 0 < zv b) : ∃ s c q d r, val64 (Jvm.FP.ddiv a b) = roundRatio b64 s c d (q - r) ∧ 0 < d ∧ b64.qmin ≤ q ∧ b64.qmin ≤ r ∧
    zv a = signed s c * ((2 ^ (q - b64.qmin).toNat : Nat) : Int) ∧ zv b = (d : Int) * ((2 ^ (r - b64.qmin).toNat : Nat) : Int) := by
  obtain ⟨s, c, q, ea, fa⟩ := fin_of ha
  obtain ⟨t, d, r, eb, fb⟩ := fin_of hb
  unfold zv at hp ⊢
  rw [eb, zval_fin] at hp
  obtain ⟨rfl, hd⟩ := pos_fin hp
  refine ⟨s, c, q, d, r, ?_, hd, fa.2.1, fb.2.1, ?_, ?_⟩
  · show val64 (ddiv a b) = _
    rw [val64_ddiv, ea, eb]
    show (if d = 0 then _ else roundRatio b64 (s != false) c d (q - r)) = _
    rw [if_neg (by omega)]
    cases s <;> rfl
  · rw [ea, zval_fin]
  · rw [eb, zval_fin]; rfl
theorem div_le {a b : UInt64} {z : Int} (ha : DFin a) (hb : DFin b) (hp : 0 < zv b) (hz : Rep z) (h : zv a * O ≤ z * zv b) : zv (Jvm.FP.ddiv a b) ≤ z := by
  obtain ⟨s, c, q, d, r, e1, hd, hq, hr, e2, e3⟩ := div_parts ha hb hp
  obtain ⟨V, fV, nV, rfl⟩ := hz
  unfold zv at h ⊢
  rw [e1]
  refine ratio_le hd fV nV (e0 := min b64.qmin (q - r)) (by omega) (by omega) ?_
  obtain ⟨x, y, u1, u2⟩ := div_units (s := s) (c := c) (d := d) hq hr
  refine Int.le_of_mul_le_mul_right (a := ((2 ^ x : Nat) : Int)) ?_ (Int.natCast_pos.mpr (Nat.two_pow_pos x))
  rw [u1, u2]
  refine Int.mul_le_mul_of_nonneg_right ?_ (Int.natCast_nonneg _)
  rw [← e2, ← e3]; exact h
theorem div_ge {a b : UInt64} {z : Int} (ha : DFin a) (hb : DFin b) (hp : 0 < zv b) (hz : Rep z) (h : z * zv b ≤ zv a * O) : z ≤ zv (Jvm.FP.ddiv a b) := by
  obtain ⟨s, c, q, d, r, e1, hd, hq, hr, e2, e3⟩ := div_parts ha hb hp
  obtain ⟨V, fV, nV, rfl⟩ := hz
  unfold zv at h ⊢
  rw [e1]
  refine ratio_ge hd fV nV (e0 := min b64.qmin (q - r)) (by omega) (by omega) ?_
  obtain ⟨x, y, u1, u2⟩ := div_units (s := s) (c := c) (d := d) hq hr
  refine Int.le_of_mul_le_mul_right (a := ((2 ^ x : Nat) : Int)) ?_ (Int.natCast_pos.mpr (Nat.two_pow_pos x))
  rw [u1, u2]
  refine Int.mul_le_mul_of_nonneg_right ?_ (Int.natCast_nonneg _)
  rw [← e2, ← e3]; exact h
theorem div_eq {a b : UInt64} {z : Int} (ha : DFin a) (hb : DFin b) (hp : 0 < zv b) (hz : Rep z) (h : zv a * O = z * zv b) : zv (Jvm.FP.ddiv a b) = z :=
  Int.le_antisymm (div_le ha hb hp hz (Int.le_of_eq h)) (div_ge ha hb hp hz (Int.le_of_eq h.symm))
/-! no NaNs, finite results -/
theorem nn_fin {a : UInt64} (h : DFin a) : Jvm.Free.Fl.NoNaN64 a := Jvm.Free.Fl.val64_no.mpr h.ne_nan
theorem nn_mul {a b : UInt64} (ha : DFin a) (hb : DFin b) : Jvm.Free.Fl.NoNaN64 (Jvm.FP.dmul a b) := Jvm.Free.Fl.noNaN64_no.mpr (dmul_out ha hb)
theorem nn_add {a b : UInt64} (ha : DFin a) (hb : DFin b) : Jvm.Free.Fl.NoNaN64 (Jvm.FP.dadd a b) := Jvm.Free.Fl.noNaN64_no.mpr (dadd_out ha.notNaN hb)
theorem nn_sub {a b : UInt64} (ha : DFin a) (hb : DFin b) : Jvm.Free.Fl.NoNaN64 (Jvm.FP.dsub a b) := Jvm.Free.Fl.noNaN64_no.mpr (dsub_out ha.notNaN hb)
theorem zv_zero {a : UInt64} (h : DZero a) : zv a = 0 := h.zval
theorem nn_div {a b : UInt64} (ha : DFin a) (hb : DFin b) (hz : zv b ≠ 0) : Jvm.Free.Fl.NoNaN64 (Jvm.FP.ddiv a b) := Jvm.Free.Fl.noNaN64_no.mpr (ddiv_out ha.notNaN hb fun q => hz (zv_zero q))
theorem nn_ne {a : UInt64} (h : Jvm.Free.Fl.NoNaN64 a) : val64 a ≠ .nan := Jvm.Free.Fl.val64_no.mp h
theorem top_big : 18446744073709551616 * one64 < b64.tails * 2 ^ (b64.exps - 2) := by decide +kernel
theorem zmag_zv (a : UInt64) : ((zmag b64 (val64 a) : Nat) : Int) = zv a ∨ ((zmag b64 (val64 a) : Nat) : Int) = -zv a := by
  unfold zv zval
  cases sgn (val64 a) <;> simp [signed]
theorem fin_of_zv {a : UInt64} (h : Jvm.Free.Fl.NoNaN64 a) (h1 : -(18446744073709551616 * O) ≤ zv a) (h2 : zv a ≤ 18446744073709551616 * O) : DFin a := by
  have hn := nn_ne h
  cases e : val64 a with
  | nan => exact absurd e hn
  | fin s c q => exact ⟨s, c, q, e⟩
  | inf s =>
    exfalso
    have hz : zmag b64 (val64 a) = b64.tails * 2 ^ (b64.exps - 2) := by rw [e]; rfl
    have ht := top_big
    have hc := zmag_zv a
    rw [hz] at hc
    generalize b64.tails * 2 ^ (b64.exps - 2) = T at *
    unfold O at h1 h2
    rcases hc with hc | hc <;> omega
/-! comparisons -/
theorem cmp_zv {a b : UInt64} (ha : Jvm.Free.Fl.NoNaN64 a) (hb : Jvm.Free.Fl.NoNaN64 b) : Jvm.FP.dcmp a b = some (compare (zv a) (zv b)) := dcmp_zval (nn_ne ha) (nn_ne hb)
theorem compare_if (x y : Int) : compare x y = if x < y then .lt else if x = y then .eq else .gt := rfl
open Jvm.Op in
theorem if_lt {a b : UInt64} (ha : Jvm.Free.Fl.NoNaN64 a) (hb : Jvm.Free.Fl.NoNaN64 b) (o : Jvm.ClassFile.CmpOp) : ifCond.holds .lt (cmpValue (Jvm.FP.dcmp a b) o) = decide (zv a < zv b) := by
  rw [cmp_zv ha hb, compare_if]; by_cases h1 : zv a < zv b
  · simp only [h1, if_true]; cases o <;> decide
  · by_cases h2 : zv a = zv b
    · simp only [h1, h2, Int.lt_irrefl, if_true, if_false]; cases o <;> decide
    · simp only [h1, h2, if_false]; cases o <;> decide
open Jvm.Op in
theorem if_ge {a b : UInt64} (ha : Jvm.Free.Fl.NoNaN64 a) (hb : Jvm.Free.Fl.NoNaN64 b) (o : Jvm.ClassFile.CmpOp) : ifCond.holds .ge (cmpValue (Jvm.FP.dcmp a b) o) = decide (zv b ≤ zv a) := by
  rw [cmp_zv ha hb, compare_if]; by_cases h1 : zv a < zv b
  · have : ¬ zv b ≤ zv a := by omega
    simp only [h1, this, if_true]; cases o <;> decide
  · have : zv b ≤ zv a := by omega
    by_cases h2 : zv a = zv b
    · simp only [h1, h2, this, Int.lt_irrefl, Int.le_refl, if_true, if_false]; cases o <;> decide
    · simp only [h1, h2, this, if_false]; cases o <;> decide
open Jvm.Op in
theorem if_gt {a b : UInt64} (ha : Jvm.Free.Fl.NoNaN64 a) (hb : Jvm.Free.Fl.NoNaN64 b) (o : Jvm.ClassFile.CmpOp) : ifCond.holds .gt (cmpValue (Jvm.FP.dcmp a b) o) = decide (zv b < zv a) := by
  rw [cmp_zv ha hb, compare_if]; by_cases h1 : zv a < zv b
  · have : ¬ zv b < zv a := by omega
    simp only [h1, this, if_true]; cases o <;> decide
  · by_cases h2 : zv a = zv b
    · simp only [h1, h2, Int.lt_irrefl, if_true, if_false]; cases o <;> decide
    · have : zv b < zv a := by omega
      simp only [h1, h2, this, if_false]; cases o <;> decide
open Jvm.Op in
theorem if_le {a b : UInt64} (ha : Jvm.Free.Fl.NoNaN64 a) (hb : Jvm.Free.Fl.NoNaN64 b) (o : Jvm.ClassFile.CmpOp) : ifCond.holds .le (cmpValue (Jvm.FP.dcmp a b) o) = decide (zv a ≤ zv b) := by
  rw [cmp_zv ha hb, compare_if]; by_cases h1 : zv a < zv b
  · have : zv a ≤ zv b := by omega
    simp only [h1, this, if_true]; cases o <;> decide
  · by_cases h2 : zv a = zv b
    · simp only [h1, h2, Int.lt_irrefl, Int.le_refl, if_true, if_false]; cases o <;> decide
    · have : ¬ zv a ≤ zv b := by omega
      simp only [h1, h2, this, if_false]; cases o <;> decide
open Jvm.Op in
theorem if_eq {a b : UInt64} (ha : Jvm.Free.Fl.NoNaN64 a) (hb : Jvm.Free.Fl.NoNaN64 b) (o : Jvm.ClassFile.CmpOp) : ifCond.holds .eq (cmpValue (Jvm.FP.dcmp a b) o) = decide (zv a = zv b) := by
  rw [cmp_zv ha hb, compare_if]; by_cases h1 : zv a < zv b
  · have : ¬ zv a = zv b := by omega
    simp only [h1, this, if_true]; cases o <;> decide
  · by_cases h2 : zv a = zv b
    · simp only [h2, Int.lt_irrefl, if_true, if_false]; cases o <;> decide
    · simp only [h1, h2, if_false]; cases o <;> decide
open Jvm.Op in
theorem if_ne {a b : UInt64} (ha : Jvm.Free.Fl.NoNaN64 a) (hb : Jvm.Free.Fl.NoNaN64 b) (o : Jvm.ClassFile.CmpOp) : ifCond.holds .ne (cmpValue (Jvm.FP.dcmp a b) o) = decide (¬ zv a = zv b) := by
  rw [cmp_zv ha hb, compare_if]; by_cases h1 : zv a < zv b
  · have : ¬ zv a = zv b := by omega
    simp only [h1, this, if_true]; cases o <;> decide
  · by_cases h2 : zv a = zv b
    · simp only [h2, Int.lt_irrefl, if_true, if_false]; cases o <;> decide
    · simp only [h1, h2, if_false]; cases o <;> decide
/-! longs and ints compared -/
open Jvm.Op Jvm.RoadKit in
theorem lw (cd : Jvm.ClassFile.Cond) (x y : Int64) : ifCond.holds cd (lcmpW x y) = (match cd with | .lt => decide (x.toInt < y.toInt) | .le => decide (x.toInt ≤ y.toInt) | .gt => decide (y.toInt < x.toInt) | .ge => decide (y.toInt ≤ x.toInt) | .eq => decide (x.toInt = y.toInt) | .ne => decide (¬ x.toInt = y.toInt)) := by
  unfold lcmpW
  simp only [gt_iff_lt, Int64.lt_iff_toInt_lt, ← Int64.toInt_inj]
  by_cases h1 : y.toInt < x.toInt
  · rw [if_pos h1]
    cases cd <;> simp only [h1, show ¬ x.toInt < y.toInt by omega, show ¬ x.toInt ≤ y.toInt by omega, show y.toInt ≤ x.toInt by omega, show ¬ x.toInt = y.toInt by omega] <;> decide
  · rw [if_neg h1]
    by_cases h2 : x.toInt = y.toInt
    · rw [if_pos h2, h2]
      cases cd <;> simp only [Int.lt_irrefl, Int.le_refl] <;> decide
    · rw [if_neg h2]
      cases cd <;> simp only [h1, h2, show x.toInt < y.toInt by omega, show x.toInt ≤ y.toInt by omega, show ¬ y.toInt ≤ x.toInt by omega] <;> decide
theorem i0_iff (x : Int32) : x = 0 ↔ x.toInt = 0 := by rw [← Int32.toInt_inj]; rfl
open Jvm.Op in
theorem iw (cd : Jvm.ClassFile.Cond) (x : Int32) : ifCond.holds cd x = (match cd with | .lt => decide (x.toInt < 0) | .le => decide (x.toInt ≤ 0) | .gt => decide (0 < x.toInt) | .ge => decide (0 ≤ x.toInt) | .eq => decide (x.toInt = 0) | .ne => decide (¬ x.toInt = 0)) := by
  have e0 : (0 : Int32).toInt = 0 := by decide
  cases cd <;> simp only [ifCond.holds, gt_iff_lt, ge_iff_le, Int32.lt_iff_toInt_lt, Int32.le_iff_toInt_le, e0]
  · by_cases h : x = 0
    · subst h; decide
    · have h' : ¬ x.toInt = 0 := fun q => h ((i0_iff x).mpr q)
      simp [h, h']
  · by_cases h : x = 0
    · subst h; decide
    · have h' : ¬ x.toInt = 0 := fun q => h ((i0_iff x).mpr q)
      simp [h, h']
end Jvm.OwnFP
namespace Jvm.OwnFP
open Jvm.FP.Core
/-! whole numbers that doubles hold exactly (the library's DInt) -/
theorem absmul {x y : Int} {A B : Nat} (hx : x.natAbs ≤ A) (hy : y.natAbs ≤ B) : (x * y).natAbs ≤ A * B := by rw [Int.natAbs_mul]; exact Nat.mul_le_mul hx hy
theorem nn_int {i : Int} {a : UInt64} (h : DInt i a) : Jvm.Free.Fl.NoNaN64 a := Jvm.Free.Fl.val64_no.mpr (DInt_ne_nan h)
theorem zv_int {i : Int} {a : UInt64} (h : DInt i a) : zv a = i * O := DInt_zval h
theorem cmp_int {i j : Int} {a b : UInt64} (ha : DInt i a) (hb : DInt j b) : Jvm.FP.dcmp a b = some (compare i j) := dcmp_int ha hb
open Jvm.Op in
theorem ne_int {i : Int} {a b : UInt64} (ha : DInt i a) (hb : DInt i b) (o : Jvm.ClassFile.CmpOp) : ifCond.holds .ne (cmpValue (Jvm.FP.dcmp a b) o) = false := by
  rw [cmp_int ha hb, compare_self_int]; cases o <;> decide
open Jvm.Op in
theorem lt_int {i j : Int} {a b : UInt64} (ha : DInt i a) (hb : DInt j b) (o : Jvm.ClassFile.CmpOp) : ifCond.holds .lt (cmpValue (Jvm.FP.dcmp a b) o) = decide (i < j) := by
  rw [cmp_int ha hb, compare_if]; by_cases h1 : i < j
  · simp only [h1, if_true]; cases o <;> decide
  · by_cases h2 : i = j
    · simp only [h2, Int.lt_irrefl, if_true, if_false]; cases o <;> decide
    · simp only [h1, h2, if_false]; cases o <;> decide
theorem int_d0 : DInt 0 Jvm.FP.dconst0 := by
  have h := l2d_int (a := 0) (by decide)
  have e : l2d 0 = Jvm.FP.dconst0 := by decide +kernel
  rw [e] at h; exact h
end Jvm.OwnFP
namespace Jvm.Pilot.@@N@@
open Jvm Jvm.ClassFile Sem Op Lib Jvm.Free Jvm.Stand Jvm.LawKit Jvm.RoadKit Bundle Jvm.Pilot.@@N@@.Jvm.D
def r4 (w_operations_a0 : Int64) (w_nanos_a0 : Int64) : UInt64 := (FP.ddiv (FP.dmul (FP.l2d w_operations_a0) (4741671816366391296 : UInt64)) (FP.l2d w_nanos_a0))
def v0_7 (p0 : Int32) (p1 : Int32) (p2 : Int32) (q3 : Int64) (q4 : Int64) : Int64 := (((p1 &&& (65535 : Int32)).toInt64) + (1 : Int64))
def v0_14 (p0 : Int32) (p1 : Int32) (p2 : Int32) (q3 : Int64) (q4 : Int64) : Int64 := ((p0 % (32768 : Int32)).toInt64)
def j0_48_s0 (p0 : Int32) (p1 : Int32) (p2 : Int32) (q3 : Int64) (q4 : Int64) : Int32 := if ifCond.holds .ne (cmpValue (FP.dcmp (r4 ((v0_14 p0 p1 p2 q3 q4) * (v0_7 p0 p1 p2 q3 q4)) (v0_7 p0 p1 p2 q3 q4)) (FP.l2d ((v0_14 p0 p1 p2 q3 q4) * (1000000000 : Int64)))) .l) = true then (0 : Int32) else (1 : Int32)
def j0_83_s0 (p0 : Int32) (p1 : Int32) (p2 : Int32) (q3 : Int64) (q4 : Int64) : Int32 := if ifCond.holds .ne (cmpValue (FP.dcmp (r4 (p2.toInt64) (1000000000 : Int64)) (FP.i2d p2)) .l) = true then (0 : Int32) else (1 : Int32)
def j0_100_s0 (p0 : Int32) (p1 : Int32) (p2 : Int32) (q3 : Int64) (q4 : Int64) : Int32 := if ifCond.holds .eq (j0_83_s0 p0 p1 p2 q3 q4) = true then (0 : Int32) else (1 : Int32)
def j0_95_s0 (p0 : Int32) (p1 : Int32) (p2 : Int32) (q3 : Int64) (q4 : Int64) : Int32 := if ifCond.holds .eq (j0_48_s0 p0 p1 p2 q3 q4) = true then (0 : Int32) else (j0_100_s0 p0 p1 p2 q3 q4)
section Own
open Jvm.OwnFP Jvm.FP.Core
abbrev own_g : UInt64 := 4741671816366391296
theorem own_gF : DFin own_g := (fin_bits own_g).mpr (by decide +kernel)
theorem own_gZ : zv own_g = 1000000000 * O := by decide +kernel
theorem own_n8 (x : Int64) : Jvm.Free.Fl.NoNaN64 (FP.dmul (FP.l2d x) (4741671816366391296 : UInt64)) := nn_mul (l2dF x) own_gF
theorem own_512 : ((2 ^ (9 + 1074) : Nat) : Int) = 512 * O := by rw [pow_split]; rfl
/-- x * 10^9 is exact where |x| ≤ 2^31 -/
theorem own_m {x : Int64} (h : x.toInt.natAbs ≤ 2147483648) : DFin (FP.dmul (FP.l2d x) own_g) ∧ zv (FP.dmul (FP.l2d x) own_g) = x.toInt * 1000000000 * O := by
  have hO := O_pos
  have e : zv (FP.dmul (FP.l2d x) own_g) = x.toInt * 1000000000 * O := by
    refine mul_eq (l2dF x) own_gF ?_ ?_
    · have := rep_le (n := x.toInt * 1953125) (9 + 1074) (by omega) (by decide)
      rw [own_512, ← Int.mul_assoc, Int.mul_assoc x.toInt] at this; exact this
    · rw [l2d_eq (by omega), own_gZ, mmmc, ← Int.mul_assoc]
  refine ⟨fin_of_zv (own_n8 x) ?_ ?_, e⟩
  · rw [e, ← Int.neg_mul]; exact Int.mul_le_mul_of_nonneg_right (by omega) (Int.le_of_lt hO)
  · rw [e]; exact Int.mul_le_mul_of_nonneg_right (by omega) (Int.le_of_lt hO)
theorem own_q {x d : Int64} {n : Int} (h : x.toInt.natAbs ≤ 2147483648) (hd : 1 ≤ d.toInt) (hd' : d.toInt ≤ 1000000000) (hn : x.toInt * 1000000000 = n * d.toInt) (hb : n.natAbs ≤ 9007199254740992) : Jvm.Free.Fl.NoNaN64 (r4 x d) ∧ zv (r4 x d) = n * O := by
  have hm := own_m h
  have hO := O_pos
  have ed := l2d_eq (n := d) (by omega)
  have hp : 0 < zv (FP.l2d d) := by rw [ed]; exact Int.mul_pos (by omega) hO
  refine ⟨nn_div hm.1 (l2dF d) (Int.ne_of_gt hp), div_eq hm.1 (l2dF d) hp (rep_int hb) ?_⟩
  rw [hm.2, ed, hn, mmmc, ← Int.mul_assoc]
theorem own_d (p0 p1 p2 : Int32) (q3 q4 : Int64) : 1 ≤ (v0_7 p0 p1 p2 q3 q4).toInt ∧ (v0_7 p0 p1 p2 q3 q4).toInt ≤ 65536 := by
  have h : (p1 &&& (65535 : Int32)).toInt = p1.toInt % 2 ^ 16 := Jvm.Kit.i32_mask p1 65535 (k := 16) (by decide) (by decide)
  have e : (v0_7 p0 p1 p2 q3 q4).toInt = (p1 &&& (65535 : Int32)).toInt + 1 := by
    unfold v0_7
    rw [Jvm.Kit.i64_add] <;> rw [Int32.toInt_toInt64, show (1 : Int64).toInt = 1 by decide] <;> omega
  rw [e, h]; omega
theorem own_qq (p0 p1 p2 : Int32) (q3 q4 : Int64) : (v0_14 p0 p1 p2 q3 q4).toInt.natAbs ≤ 32767 := by
  unfold v0_14
  rw [Int32.toInt_toInt64, Jvm.Kit.i32_rem, show (32768 : Int32).toInt = 32768 by decide]
  have h1 := Int.tmod_lt_of_pos p0.toInt (b := 32768) (by decide)
  have h2 := Int.lt_tmod_of_pos p0.toInt (b := 32768) (by decide)
  omega
theorem own_p (p0 p1 p2 : Int32) (q3 q4 : Int64) : ((v0_14 p0 p1 p2 q3 q4) * (v0_7 p0 p1 p2 q3 q4)).toInt = (v0_14 p0 p1 p2 q3 q4).toInt * (v0_7 p0 p1 p2 q3 q4).toInt ∧ ((v0_14 p0 p1 p2 q3 q4).toInt * (v0_7 p0 p1 p2 q3 q4).toInt).natAbs ≤ 2147483648 := by
  have h1 := own_d p0 p1 p2 q3 q4
  have h2 := own_qq p0 p1 p2 q3 q4
  have h3 := absmul (B := 65536) h2 (show (v0_7 p0 p1 p2 q3 q4).toInt.natAbs ≤ 65536 by omega)
  exact ⟨Jvm.Kit.i64_mul (by omega) (by omega), by omega⟩
theorem own_a (p0 p1 p2 : Int32) (q3 q4 : Int64) : Jvm.Free.Fl.NoNaN64 (r4 ((v0_14 p0 p1 p2 q3 q4) * (v0_7 p0 p1 p2 q3 q4)) (v0_7 p0 p1 p2 q3 q4)) ∧ zv (r4 ((v0_14 p0 p1 p2 q3 q4) * (v0_7 p0 p1 p2 q3 q4)) (v0_7 p0 p1 p2 q3 q4)) = (v0_14 p0 p1 p2 q3 q4).toInt * 1000000000 * O := by
  have h1 := own_d p0 p1 p2 q3 q4
  have h2 := own_qq p0 p1 p2 q3 q4
  have h3 := own_p p0 p1 p2 q3 q4
  exact own_q (by rw [h3.1]; exact h3.2) h1.1 (by omega) (by rw [h3.1, Int.mul_right_comm]) (by omega)
theorem own_b (p2 : Int32) : Jvm.Free.Fl.NoNaN64 (r4 p2.toInt64 (1000000000 : Int64)) ∧ zv (r4 p2.toInt64 (1000000000 : Int64)) = p2.toInt * O := by
  have h1 := Int32.le_toInt p2; have h2 := Int32.toInt_lt p2
  exact own_q (by rw [Int32.toInt_toInt64]; omega) (by decide) (by decide) (by rw [Int32.toInt_toInt64]; rfl) (by omega)
theorem own_n37 (p0 p1 p2 : Int32) (q3 q4 : Int64) : Jvm.Free.Fl.NoNaN64 (FP.ddiv (FP.dmul (FP.l2d ((v0_14 p0 p1 p2 q3 q4) * (v0_7 p0 p1 p2 q3 q4))) (4741671816366391296 : UInt64)) (FP.l2d (v0_7 p0 p1 p2 q3 q4))) := (own_a p0 p1 p2 q3 q4).1
theorem own_n77 (p0 p1 p2 : Int32) (q3 q4 : Int64) : Jvm.Free.Fl.NoNaN64 (FP.ddiv (FP.dmul (FP.l2d (p2.toInt64)) (4741671816366391296 : UInt64)) (FP.l2d (1000000000 : Int64))) := (own_b p2).1
theorem own_res (p0 p1 p2 : Int32) (q3 q4 : Int64) : j0_95_s0 p0 p1 p2 q3 q4 = 1 := by
  have ha := own_a p0 p1 p2 q3 q4
  have hb := own_b p2
  have hq := own_qq p0 p1 p2 q3 q4
  have e : ((v0_14 p0 p1 p2 q3 q4) * (1000000000 : Int64)).toInt = (v0_14 p0 p1 p2 q3 q4).toInt * 1000000000 := by
    rw [Jvm.Kit.i64_mul] <;> rw [show (1000000000 : Int64).toInt = 1000000000 by decide] <;> omega
  have c1 : j0_48_s0 p0 p1 p2 q3 q4 = 1 := by
    unfold j0_48_s0
    rw [if_ne ha.1 (nn_fin (l2dF _)) .l, ha.2, l2d_eq (by rw [e]; omega), e]
    simp
  have c2 : j0_83_s0 p0 p1 p2 q3 q4 = 1 := by
    unfold j0_83_s0
    rw [if_ne hb.1 (nn_fin (i2dF _)) .l, hb.2, i2d_eq]
    simp
  unfold j0_95_s0 j0_100_s0
  rw [c1, c2]; decide
end Own
theorem d2_0 : decode jdk_30_method_1_code 0 = .ok (.aload_n 0, 1) := by decide +kernel
theorem d2_1 : decode jdk_30_method_1_code 1 = .ok (.invokespecial 1, 3) := by decide +kernel
theorem d2_4 : decode jdk_30_method_1_code 4 = .ok (.return_, 1) := by decide +kernel
theorem pn_2 : plainName "java/lang/Record" = true := by first | (simp [plainName, overriddenIn]; done) | decide +kernel
theorem pd_0 : parseMethodDescriptor "()V" = some ⟨[], none⟩ := by decide +kernel
theorem pd_1 : parseMethodDescriptor "(JJJJ)V" = some ⟨[.long, .long, .long, .long], none⟩ := by decide +kernel
theorem pd_2 : parseMethodDescriptor "()D" = some ⟨[], some .double⟩ := by decide +kernel
theorem ef_2 (m : MethodId) (a0 : Addr) : entryFrame m #[(.ref a0)] 1 = mkF m 0 #[.val (.ref a0)] [] := by first | (simp [entryFrame, mkF, argsToLocals, Value.category]; done) | rfl
def Q2 (Z : State) (a0 : Addr) (h0 : Heap) (n0 : Nat) (v : Option Value) (h : Heap) (L : List Loc) : Prop := v = none ∧ Fr n0 L ∧ h = h0
set_option maxRecDepth 65536 in
set_option maxHeartbeats 40000000 in
theorem rm2 (l : Launch) (Z : State) (aw : Array Value) (hw : ∀ d ∈ tables_1, d.before aw Z = true) (ws : List Jvm.Cond) (a0 : Addr) (h0 : Heap) (n0 : Nat) (Z0 : n0 ≤ h0.size) :
    MetFree l (⟨"java/lang/Record", "<init>", "()V"⟩ : MethodName) (head1 (Jvm.Cond.code (⟨"java/lang/Record", "<init>", "()V"⟩ : MethodName) jdk_30_method_1_code 1 none :: ws) ({ frames := 1, cells := 0, slots := 0, locals := 12 } : Room)) (fun a U => a = #[(.ref a0)] ∧ Z.Warmed39 U.vm ∧ U.heap = h0) (fun _ _ _ _ _ => True) (fun _ U o U' => ∃ v L, o = .returned v ∧ Q2 Z a0 h0 n0 v U'.heap L ∧ FrameEnd U o U' L ({ frames := 1, cells := 0, slots := 0, locals := 12 } : Room).cells ({ frames := 1, cells := 0, slots := 0, locals := 12 } : Room).slots) := by
  refine MetFree.of_bodySF (plainFor_of_name pn_2) hisR ?_
  intro p e s m args below meth c s₁ Bd hml0 hP hK
  obtain ⟨rfl, hZ, hh⟩ := hP
  have hx := Bd.exec
  have hby := Bd.bytes
  have hml : c.maxLocals = 1 := hml0
  have hown : s.vm.findClass "java/lang/Record" = some m.cls := findClass_of_methodNamed Bd.named
  have hnm := (name_of_methodNamed Bd.named Bd.method).1
  have X0 : Stand p l e ({ frames := 1, cells := 0, slots := 0, locals := 12 } : Room) s m #[(.ref a0)] below meth c s₁ [] 0 0 := Stand.of_body Bd
  have e0 : s₁.heap = h0 := by rw [← hh, Bd.state]; rfl
  have N0 := Fr.nil n0
  have pre0 : ∀ t, Steps p.tables e below (s₁.setTop (mkF m 0 #[.val (.ref a0)] [])) t → Steps p.tables e below (s₁.setTop (entryFrame m #[(.ref a0)] 1)) t := fun t k => castTop (ef_2 m a0) k
  obtain ⟨T1, X1, e1, st1⟩ := initO X0 hx hZ hown (hw _ (List.mem_of_getElem? (i := 13) rfl)) (hw _ (List.mem_of_getElem? (i := 14) rfl)) (hw _ (List.mem_of_getElem? (i := 15) rfl)) e0 (g := (mkF m 1 #[.val (.ref a0)] [(.ref a0)])) rfl (by rw [hml]; rfl) rfl (hb hby d2_1) (by decide) (W := 0) (by show 2 * 0 + _ ≤ _; exact Nat.le_of_eq rfl) (by decide)
  obtain ⟨fs, hr, hrun, hended, hW, hsame⟩ := X1.leave (v := none) (fun _ => rfl)
  refine ⟨_, _, pre0 _ ?_, hrun, hended, _, _, rfl, ?_, ⟨_, rfl⟩, hW, hsame.mono (by decide) (by decide)⟩
  · show Steps p.tables e below (s₁.setTop (mkF m 0 #[.val (.ref a0)] [])) _
    refine XS.aloadN X0.here hx rfl (hb hby d2_0) rfl rfl ?_
    show Steps p.tables e below (s₁.setTop (mkF m 1 #[.val (.ref a0)] [(.ref a0)])) _
    refine st1 _ ?_
    show Steps p.tables e below (T1.setTop (mkF m 4 #[.val (.ref a0)] [])) _
    exact X1.returnOut hx Bd.returns (hb hby d2_4) hr
  · show Q2 Z a0 h0 n0 _ T1.heap _
    rw [e1]
    exact ⟨rfl, N0, rfl⟩
theorem d1_0 : decode prog_23_method_1_code 0 = .ok (.aload_n 0, 1) := by decide +kernel
theorem d1_1 : decode prog_23_method_1_code 1 = .ok (.invokespecial 1, 3) := by decide +kernel
theorem d1_4 : decode prog_23_method_1_code 4 = .ok (.aload_n 0, 1) := by decide +kernel
theorem d1_5 : decode prog_23_method_1_code 5 = .ok (.lload_n 1, 1) := by decide +kernel
theorem d1_6 : decode prog_23_method_1_code 6 = .ok (.putfield 7, 3) := by decide +kernel
theorem d1_9 : decode prog_23_method_1_code 9 = .ok (.aload_n 0, 1) := by decide +kernel
theorem d1_10 : decode prog_23_method_1_code 10 = .ok (.lload_n 3, 1) := by decide +kernel
theorem d1_11 : decode prog_23_method_1_code 11 = .ok (.putfield 13, 3) := by decide +kernel
theorem d1_14 : decode prog_23_method_1_code 14 = .ok (.aload_n 0, 1) := by decide +kernel
theorem d1_15 : decode prog_23_method_1_code 15 = .ok (.lload 5, 2) := by decide +kernel
theorem d1_17 : decode prog_23_method_1_code 17 = .ok (.putfield 16, 3) := by decide +kernel
theorem d1_20 : decode prog_23_method_1_code 20 = .ok (.aload_n 0, 1) := by decide +kernel
theorem d1_21 : decode prog_23_method_1_code 21 = .ok (.lload 7, 2) := by decide +kernel
theorem d1_23 : decode prog_23_method_1_code 23 = .ok (.putfield 19, 3) := by decide +kernel
theorem d1_26 : decode prog_23_method_1_code 26 = .ok (.return_, 1) := by decide +kernel
theorem pn_1 : plainName "com/example/duotier/duotier/bench/Tally" = true := by first | (simp [plainName, overriddenIn]; done) | decide +kernel
theorem ef_1 (m : MethodId) (a0 : Addr) (q1 : Int64) (q2 : Int64) (q3 : Int64) (q4 : Int64) : entryFrame m #[(.ref a0), (.long q1), (.long q2), (.long q3), (.long q4)] 9 = mkF m 0 #[.val (.ref a0), .val (.long q1), .second, .val (.long q2), .second, .val (.long q3), .second, .val (.long q4), .second] [] := by first | (simp [entryFrame, mkF, argsToLocals, Value.category]; done) | rfl
def Q1 (Z : State) (a0 : Addr) (q1 : Int64) (q2 : Int64) (q3 : Int64) (q4 : Int64) (u_operations_a0 : Value) (u_reads_a0 : Value) (u_localMisses_a0 : Value) (u_nanos_a0 : Value) (h0 : Heap) (n0 : Nat) (v : Option Value) (h : Heap) (L : List Loc) : Prop := v = none ∧ Fr n0 L ∧ Keep h0 h [a0] ∧ Exa Z h a0 "com/example/duotier/duotier/bench/Tally" ∧ Fld Z h a0 "com/example/duotier/duotier/bench/Tally" "operations" "J" (.long q1) ∧ Fld Z h a0 "com/example/duotier/duotier/bench/Tally" "reads" "J" (.long q2) ∧ Fld Z h a0 "com/example/duotier/duotier/bench/Tally" "localMisses" "J" (.long q3) ∧ Fld Z h a0 "com/example/duotier/duotier/bench/Tally" "nanos" "J" (.long q4)
set_option maxRecDepth 65536 in
set_option maxHeartbeats 40000000 in
theorem rm1 (l : Launch) (Z : State) (aw : Array Value) (hw : ∀ d ∈ tables_1, d.before aw Z = true) (ws : List Jvm.Cond) (a0 : Addr) (q1 : Int64) (q2 : Int64) (q3 : Int64) (q4 : Int64) (u_operations_a0 : Value) (u_reads_a0 : Value) (u_localMisses_a0 : Value) (u_nanos_a0 : Value) (h0 : Heap) (n0 : Nat) (Z0 : n0 ≤ h0.size) (F_is_a0 : Exa Z h0 a0 "com/example/duotier/duotier/bench/Tally") (F_operations_a0 : Fld Z h0 a0 "com/example/duotier/duotier/bench/Tally" "operations" "J" u_operations_a0) (F_reads_a0 : Fld Z h0 a0 "com/example/duotier/duotier/bench/Tally" "reads" "J" u_reads_a0) (F_localMisses_a0 : Fld Z h0 a0 "com/example/duotier/duotier/bench/Tally" "localMisses" "J" u_localMisses_a0) (F_nanos_a0 : Fld Z h0 a0 "com/example/duotier/duotier/bench/Tally" "nanos" "J" u_nanos_a0) (g_a0 : n0 ≤ a0) :
    MetFree l (⟨"com/example/duotier/duotier/bench/Tally", "<init>", "(JJJJ)V"⟩ : MethodName) (head1 (Jvm.Cond.code (⟨"com/example/duotier/duotier/bench/Tally", "<init>", "(JJJJ)V"⟩ : MethodName) prog_23_method_1_code 9 none :: ws) ({ frames := 2, cells := 0, slots := 0, locals := 24 } : Room)) (fun a U => a = #[(.ref a0), (.long q1), (.long q2), (.long q3), (.long q4)] ∧ Z.Warmed39 U.vm ∧ U.heap = h0) (fun _ _ _ _ _ => True) (fun _ U o U' => ∃ v L, o = .returned v ∧ Q1 Z a0 q1 q2 q3 q4 u_operations_a0 u_reads_a0 u_localMisses_a0 u_nanos_a0 h0 n0 v U'.heap L ∧ FrameEnd U o U' L ({ frames := 2, cells := 0, slots := 0, locals := 24 } : Room).cells ({ frames := 2, cells := 0, slots := 0, locals := 24 } : Room).slots) := by
  refine MetFree.of_bodySF (plainFor_of_name pn_1) hisR ?_
  intro p e s m args below meth c s₁ Bd hml0 hP hK
  obtain ⟨rfl, hZ, hh⟩ := hP
  have hx := Bd.exec
  have hby := Bd.bytes
  have hml : c.maxLocals = 9 := hml0
  have hown : s.vm.findClass "com/example/duotier/duotier/bench/Tally" = some m.cls := findClass_of_methodNamed Bd.named
  have hnm := (name_of_methodNamed Bd.named Bd.method).1
  have X0 : Stand p l e ({ frames := 2, cells := 0, slots := 0, locals := 24 } : Room) s m #[(.ref a0), (.long q1), (.long q2), (.long q3), (.long q4)] below meth c s₁ [] 0 0 := Stand.of_body Bd
  have e0 : s₁.heap = h0 := by rw [← hh, Bd.state]; rfl
  have N0 := Fr.nil n0
  have pre0 : ∀ t, Steps p.tables e below (s₁.setTop (mkF m 0 #[.val (.ref a0), .val (.long q1), .second, .val (.long q2), .second, .val (.long q3), .second, .val (.long q4), .second] [])) t → Steps p.tables e below (s₁.setTop (entryFrame m #[(.ref a0), (.long q1), (.long q2), (.long q3), (.long q4)] 9)) t := fun t k => castTop (ef_1 m a0 q1 q2 q3 q4) k
  obtain ⟨_, _, ⟨T1, L1, k1, n1⟩, -, X1, ⟨Lc1, hQ1, l1, y1, z1'⟩, st1⟩ := X0.specialBack hx (y := (⟨"java/lang/Record", "<init>", "()V"⟩ : MethodName)) rfl hown (mvT hZ (hw _ (List.mem_of_getElem? (i := 8) rfl))) (mvT hZ (hw _ (List.mem_of_getElem? (i := 9) rfl))) (mvT hZ (hw _ (List.mem_of_getElem? (i := 12) rfl))) (by decide) (backOf (W := 0) (rm2 l Z aw hw [] a0 h0 n0 Z0 ) hZ (hw _ (List.mem_of_getElem? (i := 12) rfl)) (hw _ (List.mem_of_getElem? (i := 11) rfl)) (by decide) (by decide)) (g := (mkF m 1 #[.val (.ref a0), .val (.long q1), .second, .val (.long q2), .second, .val (.long q3), .second, .val (.long q4), .second] [(.ref a0)])) rfl (by rw [hml]; rfl) (Steps.refl _) (a := a0) (argsL := []) (rest := []) (lenOf pd_0 rfl) rfl (by show 2 * 0 + _ ≤ _; exact Nat.le_of_eq rfl) (hb hby d1_1) (fun _ _ => ⟨rfl, e0, (by decide : 0 + 0 ≤ _), (by decide : 0 + 0 ≤ _)⟩)
  dsimp only [Pt.U, Pt.locs, Pt.cells, Pt.slots] at X1 l1 y1 z1' st1 hQ1
  subst l1 y1 z1'
  obtain ⟨rfl, N1q, hq1⟩ := hQ1
  have f1_0 : Exa Z T1.heap a0 "com/example/duotier/duotier/bench/Tally" := by rw [hq1]; exact F_is_a0
  have f1_1 : Fld Z T1.heap a0 "com/example/duotier/duotier/bench/Tally" "operations" "J" u_operations_a0 := by rw [hq1]; exact F_operations_a0
  have f1_2 : Fld Z T1.heap a0 "com/example/duotier/duotier/bench/Tally" "reads" "J" u_reads_a0 := by rw [hq1]; exact F_reads_a0
  have f1_3 : Fld Z T1.heap a0 "com/example/duotier/duotier/bench/Tally" "localMisses" "J" u_localMisses_a0 := by rw [hq1]; exact F_localMisses_a0
  have f1_4 : Fld Z T1.heap a0 "com/example/duotier/duotier/bench/Tally" "nanos" "J" u_nanos_a0 := by rw [hq1]; exact F_nanos_a0
  have z1 : n0 ≤ T1.heap.size := by rw [hq1]; exact Z0
  have K1 : Keep h0 T1.heap [a0] := by rw [hq1]; exact (Keep.refl h0 [a0])
  have N1 := Fr.app N0 N1q
  obtain ⟨T2, h2, X2, e2, W2, st2⟩ := putF X1 hx hZ hown (host := "") (Or.inl (hw _ (List.mem_of_getElem? (i := 16) rfl))) Via.refl rfl f1_1 f1_0 (Or.inr ⟨(hw _ (List.mem_of_getElem? (i := 17) rfl)), rfl, hnm⟩) (hw _ (List.mem_of_getElem? (i := 3) rfl)) (ty := .long) (by decide) rfl rfl (g := (mkF m 6 #[.val (.ref a0), .val (.long q1), .second, .val (.long q2), .second, .val (.long q3), .second, .val (.long q4), .second] [(.long q1), (.ref a0)])) rfl rfl (hb hby d1_6)
  have f2_0 : Exa Z h2 a0 "com/example/duotier/duotier/bench/Tally" := f1_0.wr W2
  have f2_1 : Fld Z h2 a0 "com/example/duotier/duotier/bench/Tally" "operations" "J" (.long q1) := f1_1.same W2
  have f2_2 : Fld Z h2 a0 "com/example/duotier/duotier/bench/Tally" "reads" "J" u_reads_a0 := f1_2.other W2 (Or.inr (slot_ne (Or.inr (hw _ (List.mem_of_getElem? (i := 19) rfl))) (Or.inr (hw _ (List.mem_of_getElem? (i := 17) rfl))) (by decide) (t := .long) (t' := .long) (by decide) (by decide)))
  have f2_3 : Fld Z h2 a0 "com/example/duotier/duotier/bench/Tally" "localMisses" "J" u_localMisses_a0 := f1_3.other W2 (Or.inr (slot_ne (Or.inr (hw _ (List.mem_of_getElem? (i := 21) rfl))) (Or.inr (hw _ (List.mem_of_getElem? (i := 17) rfl))) (by decide) (t := .long) (t' := .long) (by decide) (by decide)))
  have f2_4 : Fld Z h2 a0 "com/example/duotier/duotier/bench/Tally" "nanos" "J" u_nanos_a0 := f1_4.other W2 (Or.inr (slot_ne (Or.inr (hw _ (List.mem_of_getElem? (i := 23) rfl))) (Or.inr (hw _ (List.mem_of_getElem? (i := 17) rfl))) (by decide) (t := .long) (t' := .long) (by decide) (by decide)))
  have K2 : Keep h0 h2 [a0] := K1.wr W2 (Or.inl (List.mem_of_getElem? (i := 0) rfl))
  have N2 := Fr.snoc X2 N1 g_a0
  have z2 : n0 ≤ h2.size := Nat.le_trans z1 (Keep.of_wr W2).1
  obtain ⟨T3, h3, X3, e3, W3, st3⟩ := putF X2 hx hZ hown (host := "") (Or.inl (hw _ (List.mem_of_getElem? (i := 18) rfl))) Via.refl e2 f2_2 f2_0 (Or.inr ⟨(hw _ (List.mem_of_getElem? (i := 19) rfl)), rfl, hnm⟩) (hw _ (List.mem_of_getElem? (i := 3) rfl)) (ty := .long) (by decide) rfl rfl (g := (mkF m 11 #[.val (.ref a0), .val (.long q1), .second, .val (.long q2), .second, .val (.long q3), .second, .val (.long q4), .second] [(.long q2), (.ref a0)])) rfl rfl (hb hby d1_11)
  have f3_0 : Exa Z h3 a0 "com/example/duotier/duotier/bench/Tally" := f2_0.wr W3
  have f3_1 : Fld Z h3 a0 "com/example/duotier/duotier/bench/Tally" "operations" "J" (.long q1) := f2_1.other W3 (Or.inr (slot_ne (Or.inr (hw _ (List.mem_of_getElem? (i := 17) rfl))) (Or.inr (hw _ (List.mem_of_getElem? (i := 19) rfl))) (by decide) (t := .long) (t' := .long) (by decide) (by decide)))
  have f3_2 : Fld Z h3 a0 "com/example/duotier/duotier/bench/Tally" "reads" "J" (.long q2) := f2_2.same W3
  have f3_3 : Fld Z h3 a0 "com/example/duotier/duotier/bench/Tally" "localMisses" "J" u_localMisses_a0 := f2_3.other W3 (Or.inr (slot_ne (Or.inr (hw _ (List.mem_of_getElem? (i := 21) rfl))) (Or.inr (hw _ (List.mem_of_getElem? (i := 19) rfl))) (by decide) (t := .long) (t' := .long) (by decide) (by decide)))
  have f3_4 : Fld Z h3 a0 "com/example/duotier/duotier/bench/Tally" "nanos" "J" u_nanos_a0 := f2_4.other W3 (Or.inr (slot_ne (Or.inr (hw _ (List.mem_of_getElem? (i := 23) rfl))) (Or.inr (hw _ (List.mem_of_getElem? (i := 19) rfl))) (by decide) (t := .long) (t' := .long) (by decide) (by decide)))
  have K3 : Keep h0 h3 [a0] := K2.wr W3 (Or.inl (List.mem_of_getElem? (i := 0) rfl))
  have N3 := Fr.snoc X3 N2 g_a0
  have z3 : n0 ≤ h3.size := Nat.le_trans z2 (Keep.of_wr W3).1
  obtain ⟨T4, h4, X4, e4, W4, st4⟩ := putF X3 hx hZ hown (host := "") (Or.inl (hw _ (List.mem_of_getElem? (i := 20) rfl))) Via.refl e3 f3_3 f3_0 (Or.inr ⟨(hw _ (List.mem_of_getElem? (i := 21) rfl)), rfl, hnm⟩) (hw _ (List.mem_of_getElem? (i := 3) rfl)) (ty := .long) (by decide) rfl rfl (g := (mkF m 17 #[.val (.ref a0), .val (.long q1), .second, .val (.long q2), .second, .val (.long q3), .second, .val (.long q4), .second] [(.long q3), (.ref a0)])) rfl rfl (hb hby d1_17)
  have f4_0 : Exa Z h4 a0 "com/example/duotier/duotier/bench/Tally" := f3_0.wr W4
  have f4_1 : Fld Z h4 a0 "com/example/duotier/duotier/bench/Tally" "operations" "J" (.long q1) := f3_1.other W4 (Or.inr (slot_ne (Or.inr (hw _ (List.mem_of_getElem? (i := 17) rfl))) (Or.inr (hw _ (List.mem_of_getElem? (i := 21) rfl))) (by decide) (t := .long) (t' := .long) (by decide) (by decide)))
  have f4_2 : Fld Z h4 a0 "com/example/duotier/duotier/bench/Tally" "reads" "J" (.long q2) := f3_2.other W4 (Or.inr (slot_ne (Or.inr (hw _ (List.mem_of_getElem? (i := 19) rfl))) (Or.inr (hw _ (List.mem_of_getElem? (i := 21) rfl))) (by decide) (t := .long) (t' := .long) (by decide) (by decide)))
  have f4_3 : Fld Z h4 a0 "com/example/duotier/duotier/bench/Tally" "localMisses" "J" (.long q3) := f3_3.same W4
  have f4_4 : Fld Z h4 a0 "com/example/duotier/duotier/bench/Tally" "nanos" "J" u_nanos_a0 := f3_4.other W4 (Or.inr (slot_ne (Or.inr (hw _ (List.mem_of_getElem? (i := 23) rfl))) (Or.inr (hw _ (List.mem_of_getElem? (i := 21) rfl))) (by decide) (t := .long) (t' := .long) (by decide) (by decide)))
  have K4 : Keep h0 h4 [a0] := K3.wr W4 (Or.inl (List.mem_of_getElem? (i := 0) rfl))
  have N4 := Fr.snoc X4 N3 g_a0
  have z4 : n0 ≤ h4.size := Nat.le_trans z3 (Keep.of_wr W4).1
  obtain ⟨T5, h5, X5, e5, W5, st5⟩ := putF X4 hx hZ hown (host := "") (Or.inl (hw _ (List.mem_of_getElem? (i := 22) rfl))) Via.refl e4 f4_4 f4_0 (Or.inr ⟨(hw _ (List.mem_of_getElem? (i := 23) rfl)), rfl, hnm⟩) (hw _ (List.mem_of_getElem? (i := 3) rfl)) (ty := .long) (by decide) rfl rfl (g := (mkF m 23 #[.val (.ref a0), .val (.long q1), .second, .val (.long q2), .second, .val (.long q3), .second, .val (.long q4), .second] [(.long q4), (.ref a0)])) rfl rfl (hb hby d1_23)
  have f5_0 : Exa Z h5 a0 "com/example/duotier/duotier/bench/Tally" := f4_0.wr W5
  have f5_1 : Fld Z h5 a0 "com/example/duotier/duotier/bench/Tally" "operations" "J" (.long q1) := f4_1.other W5 (Or.inr (slot_ne (Or.inr (hw _ (List.mem_of_getElem? (i := 17) rfl))) (Or.inr (hw _ (List.mem_of_getElem? (i := 23) rfl))) (by decide) (t := .long) (t' := .long) (by decide) (by decide)))
  have f5_2 : Fld Z h5 a0 "com/example/duotier/duotier/bench/Tally" "reads" "J" (.long q2) := f4_2.other W5 (Or.inr (slot_ne (Or.inr (hw _ (List.mem_of_getElem? (i := 19) rfl))) (Or.inr (hw _ (List.mem_of_getElem? (i := 23) rfl))) (by decide) (t := .long) (t' := .long) (by decide) (by decide)))
  have f5_3 : Fld Z h5 a0 "com/example/duotier/duotier/bench/Tally" "localMisses" "J" (.long q3) := f4_3.other W5 (Or.inr (slot_ne (Or.inr (hw _ (List.mem_of_getElem? (i := 21) rfl))) (Or.inr (hw _ (List.mem_of_getElem? (i := 23) rfl))) (by decide) (t := .long) (t' := .long) (by decide) (by decide)))
  have f5_4 : Fld Z h5 a0 "com/example/duotier/duotier/bench/Tally" "nanos" "J" (.long q4) := f4_4.same W5
  have K5 : Keep h0 h5 [a0] := K4.wr W5 (Or.inl (List.mem_of_getElem? (i := 0) rfl))
  have N5 := Fr.snoc X5 N4 g_a0
  have z5 : n0 ≤ h5.size := Nat.le_trans z4 (Keep.of_wr W5).1
  obtain ⟨fs, hr, hrun, hended, hW, hsame⟩ := X5.leave (v := none) (fun _ => rfl)
  refine ⟨_, _, pre0 _ ?_, hrun, hended, _, _, rfl, ?_, ⟨_, rfl⟩, hW, hsame.mono (by decide) (by decide)⟩
  · show Steps p.tables e below (s₁.setTop (mkF m 0 #[.val (.ref a0), .val (.long q1), .second, .val (.long q2), .second, .val (.long q3), .second, .val (.long q4), .second] [])) _
    refine XS.aloadN X0.here hx rfl (hb hby d1_0) rfl rfl ?_
    show Steps p.tables e below (s₁.setTop (mkF m 1 #[.val (.ref a0), .val (.long q1), .second, .val (.long q2), .second, .val (.long q3), .second, .val (.long q4), .second] [(.ref a0)])) _
    refine st1.trans ?_
    show Steps p.tables e below (T1.setTop (mkF m 4 #[.val (.ref a0), .val (.long q1), .second, .val (.long q2), .second, .val (.long q3), .second, .val (.long q4), .second] [])) _
    refine XS.aloadN X1.here hx rfl (hb hby d1_4) rfl rfl ?_
    show Steps p.tables e below (T1.setTop (mkF m 5 #[.val (.ref a0), .val (.long q1), .second, .val (.long q2), .second, .val (.long q3), .second, .val (.long q4), .second] [(.ref a0)])) _
    refine XS.lloadN X1.here hx rfl (hb hby d1_5) rfl ?_
    show Steps p.tables e below (T1.setTop (mkF m 6 #[.val (.ref a0), .val (.long q1), .second, .val (.long q2), .second, .val (.long q3), .second, .val (.long q4), .second] [(.long q1), (.ref a0)])) _
    refine st2 _ ?_
    show Steps p.tables e below (T2.setTop (mkF m 9 #[.val (.ref a0), .val (.long q1), .second, .val (.long q2), .second, .val (.long q3), .second, .val (.long q4), .second] [])) _
    refine XS.aloadN X2.here hx rfl (hb hby d1_9) rfl rfl ?_
    show Steps p.tables e below (T2.setTop (mkF m 10 #[.val (.ref a0), .val (.long q1), .second, .val (.long q2), .second, .val (.long q3), .second, .val (.long q4), .second] [(.ref a0)])) _
    refine XS.lloadN X2.here hx rfl (hb hby d1_10) rfl ?_
    show Steps p.tables e below (T2.setTop (mkF m 11 #[.val (.ref a0), .val (.long q1), .second, .val (.long q2), .second, .val (.long q3), .second, .val (.long q4), .second] [(.long q2), (.ref a0)])) _
    refine st3 _ ?_
    show Steps p.tables e below (T3.setTop (mkF m 14 #[.val (.ref a0), .val (.long q1), .second, .val (.long q2), .second, .val (.long q3), .second, .val (.long q4), .second] [])) _
    refine XS.aloadN X3.here hx rfl (hb hby d1_14) rfl rfl ?_
    show Steps p.tables e below (T3.setTop (mkF m 15 #[.val (.ref a0), .val (.long q1), .second, .val (.long q2), .second, .val (.long q3), .second, .val (.long q4), .second] [(.ref a0)])) _
    refine XS.lload X3.here hx rfl (hb hby d1_15) rfl ?_
    show Steps p.tables e below (T3.setTop (mkF m 17 #[.val (.ref a0), .val (.long q1), .second, .val (.long q2), .second, .val (.long q3), .second, .val (.long q4), .second] [(.long q3), (.ref a0)])) _
    refine st4 _ ?_
    show Steps p.tables e below (T4.setTop (mkF m 20 #[.val (.ref a0), .val (.long q1), .second, .val (.long q2), .second, .val (.long q3), .second, .val (.long q4), .second] [])) _
    refine XS.aloadN X4.here hx rfl (hb hby d1_20) rfl rfl ?_
    show Steps p.tables e below (T4.setTop (mkF m 21 #[.val (.ref a0), .val (.long q1), .second, .val (.long q2), .second, .val (.long q3), .second, .val (.long q4), .second] [(.ref a0)])) _
    refine XS.lload X4.here hx rfl (hb hby d1_21) rfl ?_
    show Steps p.tables e below (T4.setTop (mkF m 23 #[.val (.ref a0), .val (.long q1), .second, .val (.long q2), .second, .val (.long q3), .second, .val (.long q4), .second] [(.long q4), (.ref a0)])) _
    refine st5 _ ?_
    show Steps p.tables e below (T5.setTop (mkF m 26 #[.val (.ref a0), .val (.long q1), .second, .val (.long q2), .second, .val (.long q3), .second, .val (.long q4), .second] [])) _
    exact X5.returnOut hx Bd.returns (hb hby d1_26) hr
  · show Q1 Z a0 q1 q2 q3 q4 u_operations_a0 u_reads_a0 u_localMisses_a0 u_nanos_a0 h0 n0 _ T5.heap _
    rw [e5]
    exact ⟨rfl, N5, K5, f5_0, f5_1, f5_2, f5_3, f5_4⟩
theorem d4_0 : decode prog_23_method_4_code 0 = .ok (.aload_n 0, 1) := by decide +kernel
theorem d4_1 : decode prog_23_method_4_code 1 = .ok (.getfield 7, 3) := by decide +kernel
theorem d4_4 : decode prog_23_method_4_code 4 = .ok (.l2d, 1) := by decide +kernel
theorem d4_5 : decode prog_23_method_4_code 5 = .ok (.ldc2_w 70, 3) := by decide +kernel
theorem d4_8 : decode prog_23_method_4_code 8 = .ok (.dmul, 1) := by decide +kernel
theorem d4_9 : decode prog_23_method_4_code 9 = .ok (.aload_n 0, 1) := by decide +kernel
theorem d4_10 : decode prog_23_method_4_code 10 = .ok (.getfield 19, 3) := by decide +kernel
theorem d4_13 : decode prog_23_method_4_code 13 = .ok (.l2d, 1) := by decide +kernel
theorem d4_14 : decode prog_23_method_4_code 14 = .ok (.ddiv, 1) := by decide +kernel
theorem d4_15 : decode prog_23_method_4_code 15 = .ok (.dreturn, 1) := by decide +kernel
theorem ef_4 (m : MethodId) (a0 : Addr) : entryFrame m #[(.ref a0)] 1 = mkF m 0 #[.val (.ref a0)] [] := by first | (simp [entryFrame, mkF, argsToLocals, Value.category]; done) | rfl
def Q4 (Z : State) (a0 : Addr) (w_operations_a0 : Int64) (w_nanos_a0 : Int64) (h0 : Heap) (n0 : Nat) (v : Option Value) (h : Heap) (L : List Loc) : Prop := v = some (.double (r4 w_operations_a0 w_nanos_a0)) ∧ Fr n0 L ∧ h = h0
set_option maxRecDepth 65536 in
set_option maxHeartbeats 40000000 in
theorem rm4 (l : Launch) (Z : State) (aw : Array Value) (hw : ∀ d ∈ tables_1, d.before aw Z = true) (ws : List Jvm.Cond) (a0 : Addr) (w_operations_a0 : Int64) (w_nanos_a0 : Int64) (h0 : Heap) (n0 : Nat) (Z0 : n0 ≤ h0.size) (F_operations_a0 : Fld Z h0 a0 "com/example/duotier/duotier/bench/Tally" "operations" "J" (.long w_operations_a0)) (hn8 : Jvm.Free.Fl.NoNaN64 (FP.dmul (FP.l2d w_operations_a0) (4741671816366391296 : UInt64))) (F_nanos_a0 : Fld Z h0 a0 "com/example/duotier/duotier/bench/Tally" "nanos" "J" (.long w_nanos_a0)) (hn14 : Jvm.Free.Fl.NoNaN64 (FP.ddiv (FP.dmul (FP.l2d w_operations_a0) (4741671816366391296 : UInt64)) (FP.l2d w_nanos_a0))) :
    MetFree l (⟨"com/example/duotier/duotier/bench/Tally", "operationsPerSecond", "()D"⟩ : MethodName) (head1 (Jvm.Cond.code (⟨"com/example/duotier/duotier/bench/Tally", "operationsPerSecond", "()D"⟩ : MethodName) prog_23_method_4_code 1 (some .double) :: ws) ({ frames := 0, cells := 0, slots := 0, locals := 0 } : Room)) (fun a U => a = #[(.ref a0)] ∧ Z.Warmed39 U.vm ∧ U.heap = h0) (fun _ _ _ _ _ => True) (fun _ U o U' => ∃ v L, o = .returned v ∧ Q4 Z a0 w_operations_a0 w_nanos_a0 h0 n0 v U'.heap L ∧ FrameEnd U o U' L ({ frames := 0, cells := 0, slots := 0, locals := 0 } : Room).cells ({ frames := 0, cells := 0, slots := 0, locals := 0 } : Room).slots) := by
  refine MetFree.of_bodySF (plainFor_of_name pn_1) hisR ?_
  intro p e s m args below meth c s₁ Bd hml0 hP hK
  obtain ⟨rfl, hZ, hh⟩ := hP
  have hx := Bd.exec
  have hby := Bd.bytes
  have hml : c.maxLocals = 1 := hml0
  have hown : s.vm.findClass "com/example/duotier/duotier/bench/Tally" = some m.cls := findClass_of_methodNamed Bd.named
  have hnm := (name_of_methodNamed Bd.named Bd.method).1
  have X0 : Stand p l e ({ frames := 0, cells := 0, slots := 0, locals := 0 } : Room) s m #[(.ref a0)] below meth c s₁ [] 0 0 := Stand.of_body Bd
  have e0 : s₁.heap = h0 := by rw [← hh, Bd.state]; rfl
  have N0 := Fr.nil n0
  have pre0 : ∀ t, Steps p.tables e below (s₁.setTop (mkF m 0 #[.val (.ref a0)] [])) t → Steps p.tables e below (s₁.setTop (entryFrame m #[(.ref a0)] 1)) t := fun t k => castTop (ef_4 m a0) k
  obtain ⟨T1, X1, e1, st1⟩ := getF X0 hx hZ hown (host := "") (Or.inl (hw _ (List.mem_of_getElem? (i := 16) rfl))) Via.refl e0 F_operations_a0 (g := (mkF m 1 #[.val (.ref a0)] [(.ref a0)])) rfl rfl (hb hby d4_1)
  obtain ⟨T2, X2, e2, st2⟩ := getF X1 hx hZ hown (host := "") (Or.inl (hw _ (List.mem_of_getElem? (i := 22) rfl))) Via.refl e1 F_nanos_a0 (g := (mkF m 10 #[.val (.ref a0)] [(.ref a0), (.double (FP.dmul (FP.l2d w_operations_a0) (4741671816366391296 : UInt64)))])) rfl rfl (hb hby d4_10)
  obtain ⟨fs, hr, hrun, hended, hW, hsame⟩ := X2.leave (v := some (.double (r4 w_operations_a0 w_nanos_a0))) (fun h => by rw [Bd.returns] at h; cases h)
  refine ⟨_, _, pre0 _ ?_, hrun, hended, _, _, rfl, ?_, ⟨_, rfl⟩, hW, hsame.mono (by decide) (by decide)⟩
  · show Steps p.tables e below (s₁.setTop (mkF m 0 #[.val (.ref a0)] [])) _
    refine XS.aloadN X0.here hx rfl (hb hby d4_0) rfl rfl ?_
    show Steps p.tables e below (s₁.setTop (mkF m 1 #[.val (.ref a0)] [(.ref a0)])) _
    refine st1 _ ?_
    show Steps p.tables e below (T1.setTop (mkF m 4 #[.val (.ref a0)] [(.long w_operations_a0)])) _
    refine XS.l2dS X1.here hx rfl (hb hby d4_4) rfl rfl ?_
    show Steps p.tables e below (T1.setTop (mkF m 5 #[.val (.ref a0)] [(.double (FP.l2d w_operations_a0))])) _
    refine X1.ldc2DoubleC hx hown (mvT hZ (hw _ (List.mem_of_getElem? (i := 29) rfl))) (g := (mkF m 5 #[.val (.ref a0)] [(.double (FP.l2d w_operations_a0))])) rfl (hb hby d4_5) _ ?_
    show Steps p.tables e below (T1.setTop (mkF m 8 #[.val (.ref a0)] [(.double (4741671816366391296 : UInt64)), (.double (FP.l2d w_operations_a0))])) _
    refine XS.dmulS X1.here hx rfl (hb hby d4_8) rfl hn8 rfl ?_
    show Steps p.tables e below (T1.setTop (mkF m 9 #[.val (.ref a0)] [(.double (FP.dmul (FP.l2d w_operations_a0) (4741671816366391296 : UInt64)))])) _
    refine XS.aloadN X1.here hx rfl (hb hby d4_9) rfl rfl ?_
    show Steps p.tables e below (T1.setTop (mkF m 10 #[.val (.ref a0)] [(.ref a0), (.double (FP.dmul (FP.l2d w_operations_a0) (4741671816366391296 : UInt64)))])) _
    refine st2 _ ?_
    show Steps p.tables e below (T2.setTop (mkF m 13 #[.val (.ref a0)] [(.long w_nanos_a0), (.double (FP.dmul (FP.l2d w_operations_a0) (4741671816366391296 : UInt64)))])) _
    refine XS.l2dS X2.here hx rfl (hb hby d4_13) rfl rfl ?_
    show Steps p.tables e below (T2.setTop (mkF m 14 #[.val (.ref a0)] [(.double (FP.l2d w_nanos_a0)), (.double (FP.dmul (FP.l2d w_operations_a0) (4741671816366391296 : UInt64)))])) _
    refine XS.ddivS X2.here hx rfl (hb hby d4_14) rfl hn14 rfl ?_
    show Steps p.tables e below (T2.setTop (mkF m 15 #[.val (.ref a0)] [(.double (FP.ddiv (FP.dmul (FP.l2d w_operations_a0) (4741671816366391296 : UInt64)) (FP.l2d w_nanos_a0)))])) _
    exact retD X2 hx Bd.returns (hb hby d4_15) hr
  · show Q4 Z a0 w_operations_a0 w_nanos_a0 h0 n0 _ T2.heap _
    rw [e2]
    exact ⟨rfl, N0, rfl⟩
theorem pn_0 : plainName "com/example/duotier/duotier/bench/TallyOperationsPerSecondPinLaw" = true := by first | (simp [plainName, overriddenIn]; done) | decide +kernel
theorem ef_0 (m : MethodId) (p0 : Int32) (p1 : Int32) (p2 : Int32) (q3 : Int64) (q4 : Int64) : entryFrame m #[(.int p0), (.int p1), (.int p2), (.long q3), (.long q4)] maxLocals = mkF m 0 #[.val (.int p0), .val (.int p1), .val (.int p2), .val (.long q3), .second, .val (.long q4), .second, .unset, .unset, .unset, .unset, .unset, .unset, .unset, .unset] [] := by first | (simp [entryFrame, mkF, argsToLocals, Value.category, maxLocals]; done) | rfl
def Q0 (Z : State) (p0 : Int32) (p1 : Int32) (p2 : Int32) (q3 : Int64) (q4 : Int64) (h0 : Heap) (n0 : Nat) (v : Option Value) (h : Heap) (L : List Loc) : Prop := v = some (.int (1 : Int32)) ∧ Fr n0 L
set_option maxRecDepth 65536 in
set_option maxHeartbeats 40000000 in
theorem rm0 (l : Launch) (Z : State) (aw : Array Value) (hw : ∀ d ∈ tables_1, d.before aw Z = true) (ws : List Jvm.Cond) (p0 : Int32) (p1 : Int32) (p2 : Int32) (q3 : Int64) (q4 : Int64) (h0 : Heap) (n0 : Nat) (Z0 : n0 ≤ h0.size) (hn8_37 : Jvm.Free.Fl.NoNaN64 (FP.dmul (FP.l2d ((v0_14 p0 p1 p2 q3 q4) * (v0_7 p0 p1 p2 q3 q4))) (4741671816366391296 : UInt64))) (hn14_37 : Jvm.Free.Fl.NoNaN64 (FP.ddiv (FP.dmul (FP.l2d ((v0_14 p0 p1 p2 q3 q4) * (v0_7 p0 p1 p2 q3 q4))) (4741671816366391296 : UInt64)) (FP.l2d (v0_7 p0 p1 p2 q3 q4)))) (hn8_77 : Jvm.Free.Fl.NoNaN64 (FP.dmul (FP.l2d (p2.toInt64)) (4741671816366391296 : UInt64))) (hn14_77 : Jvm.Free.Fl.NoNaN64 (FP.ddiv (FP.dmul (FP.l2d (p2.toInt64)) (4741671816366391296 : UInt64)) (FP.l2d (1000000000 : Int64)))) (hres108 : (j0_95_s0 p0 p1 p2 q3 q4) = (1 : Int32)) :
    MetFree l x (head1 (Jvm.Cond.code x code maxLocals ret :: ws) room_1) (fun a U => a = #[(.int p0), (.int p1), (.int p2), (.long q3), (.long q4)] ∧ Z.Warmed39 U.vm ∧ U.heap = h0) (fun _ _ _ _ _ => True) (fun _ U o U' => ∃ v L, o = .returned v ∧ Q0 Z p0 p1 p2 q3 q4 h0 n0 v U'.heap L ∧ FrameEnd U o U' L 2 8) := by
  refine MetFree.of_bodySF (plainFor_of_name pn_0) hisR ?_
  intro p e s m args below meth c s₁ Bd hml0 hP hK
  obtain ⟨rfl, hZ, hh⟩ := hP
  have hx := Bd.exec
  have hby := Bd.bytes
  have hml : c.maxLocals = 15 := hml0
  have hown : s.vm.findClass "com/example/duotier/duotier/bench/TallyOperationsPerSecondPinLaw" = some m.cls := findClass_of_methodNamed Bd.named
  have hnm := (name_of_methodNamed Bd.named Bd.method).1
  have X0 : Stand p l e room_1 s m #[(.int p0), (.int p1), (.int p2), (.long q3), (.long q4)] below meth c s₁ [] 0 0 := Stand.of_body Bd
  have e0 : s₁.heap = h0 := by rw [← hh, Bd.state]; rfl
  have N0 := Fr.nil n0
  have pre0 : ∀ t, Steps p.tables e below (s₁.setTop (mkF m 0 #[.val (.int p0), .val (.int p1), .val (.int p2), .val (.long q3), .second, .val (.long q4), .second, .unset, .unset, .unset, .unset, .unset, .unset, .unset, .unset] [])) t → Steps p.tables e below (s₁.setTop (entryFrame m #[(.int p0), (.int p1), (.int p2), (.long q3), (.long q4)] maxLocals)) t := fun t k => castTop (ef_0 m p0 p1 p2 q3 q4) k
  obtain ⟨T1, h1, X1, e1, E1, A1, D1, -, st1⟩ := newO X0 hx hZ hown (hw _ (List.mem_of_getElem? (i := 2) rfl)) (hw _ (List.mem_of_getElem? (i := 3) rfl)) (hw _ (List.mem_of_getElem? (i := 4) rfl)) e0 (g := (mkF m 16 #[.val (.int p0), .val (.int p1), .val (.int p2), .val (.long q3), .second, .val (.long q4), .second, .val (.long (v0_7 p0 p1 p2 q3 q4)), .second, .val (.long (v0_14 p0 p1 p2 q3 q4)), .second, .unset, .unset, .unset, .unset] [])) rfl (hb hby at_16) (by decide) (by decide)
  obtain ⟨b1, g1⟩ : ∃ z, z = h0.size := ⟨_, rfl⟩
  rw [← g1] at A1 D1 st1
  have g_b1 : n0 ≤ b1 := Nat.le_trans Z0 (Nat.le_of_eq g1.symm)
  have z1 : n0 ≤ h1.size := Nat.le_trans Z0 E1.1
  have F1_operations : Fld Z h1 b1 "com/example/duotier/duotier/bench/Tally" "operations" "J" (.long (0 : Int64)) := D1 (Or.inr (hw _ (List.mem_of_getElem? (i := 17) rfl))) (ty := .long) (by decide)
  have F1_reads : Fld Z h1 b1 "com/example/duotier/duotier/bench/Tally" "reads" "J" (.long (0 : Int64)) := D1 (Or.inr (hw _ (List.mem_of_getElem? (i := 19) rfl))) (ty := .long) (by decide)
  have F1_localMisses : Fld Z h1 b1 "com/example/duotier/duotier/bench/Tally" "localMisses" "J" (.long (0 : Int64)) := D1 (Or.inr (hw _ (List.mem_of_getElem? (i := 21) rfl))) (ty := .long) (by decide)
  have F1_nanos : Fld Z h1 b1 "com/example/duotier/duotier/bench/Tally" "nanos" "J" (.long (0 : Int64)) := D1 (Or.inr (hw _ (List.mem_of_getElem? (i := 23) rfl))) (ty := .long) (by decide)
  obtain ⟨_, _, ⟨T2, L2, k2, n2⟩, -, X2, ⟨Lc2, hQ2, l2, y2, z2'⟩, st2⟩ := X1.specialBack hx (y := (⟨"com/example/duotier/duotier/bench/Tally", "<init>", "(JJJJ)V"⟩ : MethodName)) rfl hown (mvT hZ (hw _ (List.mem_of_getElem? (i := 5) rfl))) (mvT hZ (hw _ (List.mem_of_getElem? (i := 6) rfl))) (mvT hZ (hw _ (List.mem_of_getElem? (i := 7) rfl))) (by decide) (backOf (W := 1) (rm1 l Z aw hw [] b1 ((v0_14 p0 p1 p2 q3 q4) * (v0_7 p0 p1 p2 q3 q4)) q3 q4 (v0_7 p0 p1 p2 q3 q4) (.long (0 : Int64)) (.long (0 : Int64)) (.long (0 : Int64)) (.long (0 : Int64)) h1 n0 z1 A1 F1_operations F1_reads F1_localMisses F1_nanos g_b1) hZ (hw _ (List.mem_of_getElem? (i := 7) rfl)) (hw _ (List.mem_of_getElem? (i := 4) rfl)) (by decide) (by decide)) (g := (mkF m 30 #[.val (.int p0), .val (.int p1), .val (.int p2), .val (.long q3), .second, .val (.long q4), .second, .val (.long (v0_7 p0 p1 p2 q3 q4)), .second, .val (.long (v0_14 p0 p1 p2 q3 q4)), .second, .unset, .unset, .unset, .unset] [(.long (v0_7 p0 p1 p2 q3 q4)), (.long q4), (.long q3), (.long ((v0_14 p0 p1 p2 q3 q4) * (v0_7 p0 p1 p2 q3 q4))), (.ref b1), (.ref b1)])) rfl (by rw [hml]; rfl) (Steps.refl _) (a := b1) (argsL := [(.long ((v0_14 p0 p1 p2 q3 q4) * (v0_7 p0 p1 p2 q3 q4))), (.long q3), (.long q4), (.long (v0_7 p0 p1 p2 q3 q4))]) (rest := [(.ref b1)]) (lenOf pd_1 rfl) rfl (by show 2 * 0 + _ ≤ _; exact Nat.le_of_eq rfl) (hb hby at_30) (fun _ _ => ⟨rfl, e1, (by decide : 1 + 0 ≤ _), (by decide : 4 + 0 ≤ _)⟩)
  dsimp only [Pt.U, Pt.locs, Pt.cells, Pt.slots] at X2 l2 y2 z2' st2 hQ2
  subst l2 y2 z2'
  obtain ⟨rfl, N2q, K2q, x2, f2_k0, f2_k1, f2_k2, f2_k3⟩ := hQ2
  have z2 : n0 ≤ T2.heap.size := Nat.le_trans z1 K2q.1
  have N2 := Fr.app N0 N2q
  obtain ⟨cq3, kq3, q3a, q3b, q3c⟩ := isOf hZ rfl x2
  obtain ⟨_, _, ⟨T3, L3, k3, n3⟩, -, X3, ⟨Lc3, hQ3, l3, y3, z3'⟩, st3⟩ := X2.virtualBack hx (y := (⟨"com/example/duotier/duotier/bench/Tally", "operationsPerSecond", "()D"⟩ : MethodName)) (z := (⟨"com/example/duotier/duotier/bench/Tally", "operationsPerSecond", "()D"⟩ : MethodName)) hown (mvT hZ (hw _ (List.mem_of_getElem? (i := 24) rfl))) (mvT hZ (hw _ (List.mem_of_getElem? (i := 25) rfl))) (notFace_of_selects (args := #[]) (mvT hZ (hw _ (List.mem_of_getElem? (i := 27) rfl)))) (mvT hZ (hw _ (List.mem_of_getElem? (i := 27) rfl))) (mvT hZ (hw _ (List.mem_of_getElem? (i := 26) rfl))) (by decide) (backOf (W := 0) (rm4 l Z aw hw [] b1 ((v0_14 p0 p1 p2 q3 q4) * (v0_7 p0 p1 p2 q3 q4)) (v0_7 p0 p1 p2 q3 q4) T2.heap n0 z2 f2_k0 hn8_37 f2_k3 hn14_37) hZ (hw _ (List.mem_of_getElem? (i := 28) rfl)) (hw _ (List.mem_of_getElem? (i := 4) rfl)) (by decide) (by decide)) q3a q3c (g := (mkF m 37 #[.val (.int p0), .val (.int p1), .val (.int p2), .val (.long q3), .second, .val (.long q4), .second, .val (.long (v0_7 p0 p1 p2 q3 q4)), .second, .val (.long (v0_14 p0 p1 p2 q3 q4)), .second, .val (.ref b1), .unset, .unset, .unset] [(.ref b1)])) rfl (by rw [hml]; rfl) (Steps.refl _) (argsL := []) (rest := []) (lenOf pd_2 rfl) rfl (by show 2 * 0 + _ ≤ _; exact Nat.le_of_eq rfl) (hb hby at_37) (fun _ _ => ⟨rfl, rfl, (by decide : 1 + 0 ≤ _), (by decide : 4 + 0 ≤ _)⟩)
  dsimp only [Pt.U, Pt.locs, Pt.cells, Pt.slots] at X3 l3 y3 z3' st3 hQ3
  subst l3 y3 z3'
  obtain ⟨rfl, N3q, hq3⟩ := hQ3
  have f3_0 : Exa Z T3.heap b1 "com/example/duotier/duotier/bench/Tally" := by rw [hq3]; exact x2
  have f3_1 : Fld Z T3.heap b1 "com/example/duotier/duotier/bench/Tally" "operations" "J" (.long ((v0_14 p0 p1 p2 q3 q4) * (v0_7 p0 p1 p2 q3 q4))) := by rw [hq3]; exact f2_k0
  have f3_2 : Fld Z T3.heap b1 "com/example/duotier/duotier/bench/Tally" "reads" "J" (.long q3) := by rw [hq3]; exact f2_k1
  have f3_3 : Fld Z T3.heap b1 "com/example/duotier/duotier/bench/Tally" "localMisses" "J" (.long q4) := by rw [hq3]; exact f2_k2
  have f3_4 : Fld Z T3.heap b1 "com/example/duotier/duotier/bench/Tally" "nanos" "J" (.long (v0_7 p0 p1 p2 q3 q4)) := by rw [hq3]; exact f2_k3
  have z3 : n0 ≤ T3.heap.size := by rw [hq3]; exact z2
  have N3 := Fr.app N2 N3q
  obtain ⟨T4, h4, X4, e4, E4, A4, D4, -, st4⟩ := newO X3 hx hZ hown (hw _ (List.mem_of_getElem? (i := 2) rfl)) (hw _ (List.mem_of_getElem? (i := 3) rfl)) (hw _ (List.mem_of_getElem? (i := 4) rfl)) rfl (g := (mkF m 58 #[.val (.int p0), .val (.int p1), .val (.int p2), .val (.long q3), .second, .val (.long q4), .second, .val (.long (v0_7 p0 p1 p2 q3 q4)), .second, .val (.long (v0_14 p0 p1 p2 q3 q4)), .second, .val (.ref b1), .val (.int (j0_48_s0 p0 p1 p2 q3 q4)), .unset, .unset] [])) rfl (hb hby at_58) (by decide) (by decide)
  obtain ⟨b4, g4⟩ : ∃ z, z = T3.heap.size := ⟨_, rfl⟩
  rw [← g4] at A4 D4 st4
  have ne_b1_b4 : b1 ≠ b4 := Nat.ne_of_lt (Nat.lt_of_lt_of_eq f3_0.lt g4.symm)
  have ne_b4_b1 := ne_b1_b4.symm
  have f4_0 : Exa Z h4 b1 "com/example/duotier/duotier/bench/Tally" := f3_0.ext E4
  have f4_1 : Fld Z h4 b1 "com/example/duotier/duotier/bench/Tally" "operations" "J" (.long ((v0_14 p0 p1 p2 q3 q4) * (v0_7 p0 p1 p2 q3 q4))) := f3_1.ext E4
  have f4_2 : Fld Z h4 b1 "com/example/duotier/duotier/bench/Tally" "reads" "J" (.long q3) := f3_2.ext E4
  have f4_3 : Fld Z h4 b1 "com/example/duotier/duotier/bench/Tally" "localMisses" "J" (.long q4) := f3_3.ext E4
  have f4_4 : Fld Z h4 b1 "com/example/duotier/duotier/bench/Tally" "nanos" "J" (.long (v0_7 p0 p1 p2 q3 q4)) := f3_4.ext E4
  have g_b4 : n0 ≤ b4 := Nat.le_trans z3 (Nat.le_of_eq g4.symm)
  have z4 : n0 ≤ h4.size := Nat.le_trans z3 E4.1
  have F4_operations : Fld Z h4 b4 "com/example/duotier/duotier/bench/Tally" "operations" "J" (.long (0 : Int64)) := D4 (Or.inr (hw _ (List.mem_of_getElem? (i := 17) rfl))) (ty := .long) (by decide)
  have F4_reads : Fld Z h4 b4 "com/example/duotier/duotier/bench/Tally" "reads" "J" (.long (0 : Int64)) := D4 (Or.inr (hw _ (List.mem_of_getElem? (i := 19) rfl))) (ty := .long) (by decide)
  have F4_localMisses : Fld Z h4 b4 "com/example/duotier/duotier/bench/Tally" "localMisses" "J" (.long (0 : Int64)) := D4 (Or.inr (hw _ (List.mem_of_getElem? (i := 21) rfl))) (ty := .long) (by decide)
  have F4_nanos : Fld Z h4 b4 "com/example/duotier/duotier/bench/Tally" "nanos" "J" (.long (0 : Int64)) := D4 (Or.inr (hw _ (List.mem_of_getElem? (i := 23) rfl))) (ty := .long) (by decide)
  obtain ⟨_, _, ⟨T5, L5, k5, n5⟩, -, X5, ⟨Lc5, hQ5, l5, y5, z5'⟩, st5⟩ := X4.specialBack hx (y := (⟨"com/example/duotier/duotier/bench/Tally", "<init>", "(JJJJ)V"⟩ : MethodName)) rfl hown (mvT hZ (hw _ (List.mem_of_getElem? (i := 5) rfl))) (mvT hZ (hw _ (List.mem_of_getElem? (i := 6) rfl))) (mvT hZ (hw _ (List.mem_of_getElem? (i := 7) rfl))) (by decide) (backOf (W := 1) (rm1 l Z aw hw [] b4 (p2.toInt64) q3 q4 (1000000000 : Int64) (.long (0 : Int64)) (.long (0 : Int64)) (.long (0 : Int64)) (.long (0 : Int64)) h4 n0 z4 A4 F4_operations F4_reads F4_localMisses F4_nanos g_b4) hZ (hw _ (List.mem_of_getElem? (i := 7) rfl)) (hw _ (List.mem_of_getElem? (i := 4) rfl)) (by decide) (by decide)) (g := (mkF m 70 #[.val (.int p0), .val (.int p1), .val (.int p2), .val (.long q3), .second, .val (.long q4), .second, .val (.long (v0_7 p0 p1 p2 q3 q4)), .second, .val (.long (v0_14 p0 p1 p2 q3 q4)), .second, .val (.ref b1), .val (.int (j0_48_s0 p0 p1 p2 q3 q4)), .unset, .unset] [(.long (1000000000 : Int64)), (.long q4), (.long q3), (.long (p2.toInt64)), (.ref b4), (.ref b4)])) rfl (by rw [hml]; rfl) (Steps.refl _) (a := b4) (argsL := [(.long (p2.toInt64)), (.long q3), (.long q4), (.long (1000000000 : Int64))]) (rest := [(.ref b4)]) (lenOf pd_1 rfl) rfl (by show 2 * 0 + _ ≤ _; exact Nat.le_of_eq rfl) (hb hby at_70) (fun _ _ => ⟨rfl, e4, (by decide : 2 + 0 ≤ _), (by decide : 8 + 0 ≤ _)⟩)
  dsimp only [Pt.U, Pt.locs, Pt.cells, Pt.slots] at X5 l5 y5 z5' st5 hQ5
  subst l5 y5 z5'
  obtain ⟨rfl, N5q, K5q, x5, f5_k0, f5_k1, f5_k2, f5_k3⟩ := hQ5
  have f5_0 : Exa Z T5.heap b1 "com/example/duotier/duotier/bench/Tally" := f4_0.keep K5q
  have f5_1 : Fld Z T5.heap b1 "com/example/duotier/duotier/bench/Tally" "operations" "J" (.long ((v0_14 p0 p1 p2 q3 q4) * (v0_7 p0 p1 p2 q3 q4))) := f4_1.keep K5q (by simpa using ne_b1_b4)
  have f5_2 : Fld Z T5.heap b1 "com/example/duotier/duotier/bench/Tally" "reads" "J" (.long q3) := f4_2.keep K5q (by simpa using ne_b1_b4)
  have f5_3 : Fld Z T5.heap b1 "com/example/duotier/duotier/bench/Tally" "localMisses" "J" (.long q4) := f4_3.keep K5q (by simpa using ne_b1_b4)
  have f5_4 : Fld Z T5.heap b1 "com/example/duotier/duotier/bench/Tally" "nanos" "J" (.long (v0_7 p0 p1 p2 q3 q4)) := f4_4.keep K5q (by simpa using ne_b1_b4)
  have z5 : n0 ≤ T5.heap.size := Nat.le_trans z4 K5q.1
  have N5 := Fr.app N3 N5q
  obtain ⟨cq6, kq6, q6a, q6b, q6c⟩ := isOf hZ rfl x5
  obtain ⟨_, _, ⟨T6, L6, k6, n6⟩, -, X6, ⟨Lc6, hQ6, l6, y6, z6'⟩, st6⟩ := X5.virtualBack hx (y := (⟨"com/example/duotier/duotier/bench/Tally", "operationsPerSecond", "()D"⟩ : MethodName)) (z := (⟨"com/example/duotier/duotier/bench/Tally", "operationsPerSecond", "()D"⟩ : MethodName)) hown (mvT hZ (hw _ (List.mem_of_getElem? (i := 24) rfl))) (mvT hZ (hw _ (List.mem_of_getElem? (i := 25) rfl))) (notFace_of_selects (args := #[]) (mvT hZ (hw _ (List.mem_of_getElem? (i := 27) rfl)))) (mvT hZ (hw _ (List.mem_of_getElem? (i := 27) rfl))) (mvT hZ (hw _ (List.mem_of_getElem? (i := 26) rfl))) (by decide) (backOf (W := 0) (rm4 l Z aw hw [] b4 (p2.toInt64) (1000000000 : Int64) T5.heap n0 z5 f5_k0 hn8_77 f5_k3 hn14_77) hZ (hw _ (List.mem_of_getElem? (i := 28) rfl)) (hw _ (List.mem_of_getElem? (i := 4) rfl)) (by decide) (by decide)) q6a q6c (g := (mkF m 77 #[.val (.int p0), .val (.int p1), .val (.int p2), .val (.long q3), .second, .val (.long q4), .second, .val (.long (v0_7 p0 p1 p2 q3 q4)), .second, .val (.long (v0_14 p0 p1 p2 q3 q4)), .second, .val (.ref b1), .val (.int (j0_48_s0 p0 p1 p2 q3 q4)), .val (.ref b4), .unset] [(.ref b4)])) rfl (by rw [hml]; rfl) (Steps.refl _) (argsL := []) (rest := []) (lenOf pd_2 rfl) rfl (by show 2 * 0 + _ ≤ _; exact Nat.le_of_eq rfl) (hb hby at_77) (fun _ _ => ⟨rfl, rfl, (by decide : 2 + 0 ≤ _), (by decide : 8 + 0 ≤ _)⟩)
  dsimp only [Pt.U, Pt.locs, Pt.cells, Pt.slots] at X6 l6 y6 z6' st6 hQ6
  subst l6 y6 z6'
  obtain ⟨rfl, N6q, hq6⟩ := hQ6
  have f6_0 : Exa Z T6.heap b1 "com/example/duotier/duotier/bench/Tally" := by rw [hq6]; exact f5_0
  have f6_1 : Fld Z T6.heap b1 "com/example/duotier/duotier/bench/Tally" "operations" "J" (.long ((v0_14 p0 p1 p2 q3 q4) * (v0_7 p0 p1 p2 q3 q4))) := by rw [hq6]; exact f5_1
  have f6_2 : Fld Z T6.heap b1 "com/example/duotier/duotier/bench/Tally" "reads" "J" (.long q3) := by rw [hq6]; exact f5_2
  have f6_3 : Fld Z T6.heap b1 "com/example/duotier/duotier/bench/Tally" "localMisses" "J" (.long q4) := by rw [hq6]; exact f5_3
  have f6_4 : Fld Z T6.heap b1 "com/example/duotier/duotier/bench/Tally" "nanos" "J" (.long (v0_7 p0 p1 p2 q3 q4)) := by rw [hq6]; exact f5_4
  have f6_5 : Exa Z T6.heap b4 "com/example/duotier/duotier/bench/Tally" := by rw [hq6]; exact x5
  have f6_6 : Fld Z T6.heap b4 "com/example/duotier/duotier/bench/Tally" "operations" "J" (.long (p2.toInt64)) := by rw [hq6]; exact f5_k0
  have f6_7 : Fld Z T6.heap b4 "com/example/duotier/duotier/bench/Tally" "reads" "J" (.long q3) := by rw [hq6]; exact f5_k1
  have f6_8 : Fld Z T6.heap b4 "com/example/duotier/duotier/bench/Tally" "localMisses" "J" (.long q4) := by rw [hq6]; exact f5_k2
  have f6_9 : Fld Z T6.heap b4 "com/example/duotier/duotier/bench/Tally" "nanos" "J" (.long (1000000000 : Int64)) := by rw [hq6]; exact f5_k3
  have z6 : n0 ≤ T6.heap.size := by rw [hq6]; exact z5
  have N6 := Fr.app N5 N6q
  obtain ⟨fs, hr, hrun, hended, hW, hsame⟩ := X6.leave (v := some (.int (1 : Int32))) (fun h => by rw [Bd.returns] at h; cases h)
  refine ⟨_, _, pre0 _ ?_, hrun, hended, _, _, rfl, ?_, ⟨_, rfl⟩, hW, hsame.mono (by decide) (by decide)⟩
  · show Steps p.tables e below (s₁.setTop (mkF m 0 #[.val (.int p0), .val (.int p1), .val (.int p2), .val (.long q3), .second, .val (.long q4), .second, .unset, .unset, .unset, .unset, .unset, .unset, .unset, .unset] [])) _
    refine XS.iloadN X0.here hx rfl (hb hby at_0) rfl ?_
    show Steps p.tables e below (s₁.setTop (mkF m 1 #[.val (.int p0), .val (.int p1), .val (.int p2), .val (.long q3), .second, .val (.long q4), .second, .unset, .unset, .unset, .unset, .unset, .unset, .unset, .unset] [(.int p1)])) _
    refine X0.ldcInt hx hown (mvT hZ (hw _ (List.mem_of_getElem? (i := 0) rfl))) (g := (mkF m 1 #[.val (.int p0), .val (.int p1), .val (.int p2), .val (.long q3), .second, .val (.long q4), .second, .unset, .unset, .unset, .unset, .unset, .unset, .unset, .unset] [(.int p1)])) rfl (hb hby at_1) _ ?_
    show Steps p.tables e below (s₁.setTop (mkF m 3 #[.val (.int p0), .val (.int p1), .val (.int p2), .val (.long q3), .second, .val (.long q4), .second, .unset, .unset, .unset, .unset, .unset, .unset, .unset, .unset] [(.int (65535 : Int32)), (.int p1)])) _
    refine XS.iand X0.here hx rfl (hb hby at_3) rfl ?_
    show Steps p.tables e below (s₁.setTop (mkF m 4 #[.val (.int p0), .val (.int p1), .val (.int p2), .val (.long q3), .second, .val (.long q4), .second, .unset, .unset, .unset, .unset, .unset, .unset, .unset, .unset] [(.int (p1 &&& (65535 : Int32)))])) _
    refine XS.i2l X0.here hx rfl (hb hby at_4) rfl ?_
    show Steps p.tables e below (s₁.setTop (mkF m 5 #[.val (.int p0), .val (.int p1), .val (.int p2), .val (.long q3), .second, .val (.long q4), .second, .unset, .unset, .unset, .unset, .unset, .unset, .unset, .unset] [(.long ((p1 &&& (65535 : Int32)).toInt64))])) _
    refine XS.lconst X0.here hx rfl (hb hby at_5) ?_
    show Steps p.tables e below (s₁.setTop (mkF m 6 #[.val (.int p0), .val (.int p1), .val (.int p2), .val (.long q3), .second, .val (.long q4), .second, .unset, .unset, .unset, .unset, .unset, .unset, .unset, .unset] [(.long (1 : Int64)), (.long ((p1 &&& (65535 : Int32)).toInt64))])) _
    refine XS.ladd X0.here hx rfl (hb hby at_6) rfl ?_
    show Steps p.tables e below (s₁.setTop (mkF m 7 #[.val (.int p0), .val (.int p1), .val (.int p2), .val (.long q3), .second, .val (.long q4), .second, .unset, .unset, .unset, .unset, .unset, .unset, .unset, .unset] [(.long (((p1 &&& (65535 : Int32)).toInt64) + (1 : Int64)))])) _
    refine XS.lstore X0.here hx rfl (hb hby at_7) rfl (l' := #[.val (.int p0), .val (.int p1), .val (.int p2), .val (.long q3), .second, .val (.long q4), .second, .val (.long (v0_7 p0 p1 p2 q3 q4)), .second, .unset, .unset, .unset, .unset, .unset, .unset]) rfl ?_
    show Steps p.tables e below (s₁.setTop (mkF m 9 #[.val (.int p0), .val (.int p1), .val (.int p2), .val (.long q3), .second, .val (.long q4), .second, .val (.long (v0_7 p0 p1 p2 q3 q4)), .second, .unset, .unset, .unset, .unset, .unset, .unset] [])) _
    refine XS.iloadN X0.here hx rfl (hb hby at_9) rfl ?_
    show Steps p.tables e below (s₁.setTop (mkF m 10 #[.val (.int p0), .val (.int p1), .val (.int p2), .val (.long q3), .second, .val (.long q4), .second, .val (.long (v0_7 p0 p1 p2 q3 q4)), .second, .unset, .unset, .unset, .unset, .unset, .unset] [(.int p0)])) _
    refine X0.ldcInt hx hown (mvT hZ (hw _ (List.mem_of_getElem? (i := 1) rfl))) (g := (mkF m 10 #[.val (.int p0), .val (.int p1), .val (.int p2), .val (.long q3), .second, .val (.long q4), .second, .val (.long (v0_7 p0 p1 p2 q3 q4)), .second, .unset, .unset, .unset, .unset, .unset, .unset] [(.int p0)])) rfl (hb hby at_10) _ ?_
    show Steps p.tables e below (s₁.setTop (mkF m 12 #[.val (.int p0), .val (.int p1), .val (.int p2), .val (.long q3), .second, .val (.long q4), .second, .val (.long (v0_7 p0 p1 p2 q3 q4)), .second, .unset, .unset, .unset, .unset, .unset, .unset] [(.int (32768 : Int32)), (.int p0)])) _
    refine Jvm.OwnFP.iremM X0.here hx rfl (hb hby at_12) rfl (by decide) ?_
    show Steps p.tables e below (s₁.setTop (mkF m 13 #[.val (.int p0), .val (.int p1), .val (.int p2), .val (.long q3), .second, .val (.long q4), .second, .val (.long (v0_7 p0 p1 p2 q3 q4)), .second, .unset, .unset, .unset, .unset, .unset, .unset] [(.int (p0 % (32768 : Int32)))])) _
    refine XS.i2l X0.here hx rfl (hb hby at_13) rfl ?_
    show Steps p.tables e below (s₁.setTop (mkF m 14 #[.val (.int p0), .val (.int p1), .val (.int p2), .val (.long q3), .second, .val (.long q4), .second, .val (.long (v0_7 p0 p1 p2 q3 q4)), .second, .unset, .unset, .unset, .unset, .unset, .unset] [(.long ((p0 % (32768 : Int32)).toInt64))])) _
    refine XS.lstore X0.here hx rfl (hb hby at_14) rfl (l' := #[.val (.int p0), .val (.int p1), .val (.int p2), .val (.long q3), .second, .val (.long q4), .second, .val (.long (v0_7 p0 p1 p2 q3 q4)), .second, .val (.long (v0_14 p0 p1 p2 q3 q4)), .second, .unset, .unset, .unset, .unset]) rfl ?_
    show Steps p.tables e below (s₁.setTop (mkF m 16 #[.val (.int p0), .val (.int p1), .val (.int p2), .val (.long q3), .second, .val (.long q4), .second, .val (.long (v0_7 p0 p1 p2 q3 q4)), .second, .val (.long (v0_14 p0 p1 p2 q3 q4)), .second, .unset, .unset, .unset, .unset] [])) _
    refine st1 _ ?_
    show Steps p.tables e below (T1.setTop (mkF m 19 #[.val (.int p0), .val (.int p1), .val (.int p2), .val (.long q3), .second, .val (.long q4), .second, .val (.long (v0_7 p0 p1 p2 q3 q4)), .second, .val (.long (v0_14 p0 p1 p2 q3 q4)), .second, .unset, .unset, .unset, .unset] [(.ref b1)])) _
    refine XS.dup X1.here hx rfl (hb hby at_19) rfl rfl ?_
    show Steps p.tables e below (T1.setTop (mkF m 20 #[.val (.int p0), .val (.int p1), .val (.int p2), .val (.long q3), .second, .val (.long q4), .second, .val (.long (v0_7 p0 p1 p2 q3 q4)), .second, .val (.long (v0_14 p0 p1 p2 q3 q4)), .second, .unset, .unset, .unset, .unset] [(.ref b1), (.ref b1)])) _
    refine XS.lload X1.here hx rfl (hb hby at_20) rfl ?_
    show Steps p.tables e below (T1.setTop (mkF m 22 #[.val (.int p0), .val (.int p1), .val (.int p2), .val (.long q3), .second, .val (.long q4), .second, .val (.long (v0_7 p0 p1 p2 q3 q4)), .second, .val (.long (v0_14 p0 p1 p2 q3 q4)), .second, .unset, .unset, .unset, .unset] [(.long (v0_14 p0 p1 p2 q3 q4)), (.ref b1), (.ref b1)])) _
    refine XS.lload X1.here hx rfl (hb hby at_22) rfl ?_
    show Steps p.tables e below (T1.setTop (mkF m 24 #[.val (.int p0), .val (.int p1), .val (.int p2), .val (.long q3), .second, .val (.long q4), .second, .val (.long (v0_7 p0 p1 p2 q3 q4)), .second, .val (.long (v0_14 p0 p1 p2 q3 q4)), .second, .unset, .unset, .unset, .unset] [(.long (v0_7 p0 p1 p2 q3 q4)), (.long (v0_14 p0 p1 p2 q3 q4)), (.ref b1), (.ref b1)])) _
    refine XS.lmul X1.here hx rfl (hb hby at_24) rfl ?_
    show Steps p.tables e below (T1.setTop (mkF m 25 #[.val (.int p0), .val (.int p1), .val (.int p2), .val (.long q3), .second, .val (.long q4), .second, .val (.long (v0_7 p0 p1 p2 q3 q4)), .second, .val (.long (v0_14 p0 p1 p2 q3 q4)), .second, .unset, .unset, .unset, .unset] [(.long ((v0_14 p0 p1 p2 q3 q4) * (v0_7 p0 p1 p2 q3 q4))), (.ref b1), (.ref b1)])) _
    refine XS.lloadN X1.here hx rfl (hb hby at_25) rfl ?_
    show Steps p.tables e below (T1.setTop (mkF m 26 #[.val (.int p0), .val (.int p1), .val (.int p2), .val (.long q3), .second, .val (.long q4), .second, .val (.long (v0_7 p0 p1 p2 q3 q4)), .second, .val (.long (v0_14 p0 p1 p2 q3 q4)), .second, .unset, .unset, .unset, .unset] [(.long q3), (.long ((v0_14 p0 p1 p2 q3 q4) * (v0_7 p0 p1 p2 q3 q4))), (.ref b1), (.ref b1)])) _
    refine XS.lload X1.here hx rfl (hb hby at_26) rfl ?_
    show Steps p.tables e below (T1.setTop (mkF m 28 #[.val (.int p0), .val (.int p1), .val (.int p2), .val (.long q3), .second, .val (.long q4), .second, .val (.long (v0_7 p0 p1 p2 q3 q4)), .second, .val (.long (v0_14 p0 p1 p2 q3 q4)), .second, .unset, .unset, .unset, .unset] [(.long q4), (.long q3), (.long ((v0_14 p0 p1 p2 q3 q4) * (v0_7 p0 p1 p2 q3 q4))), (.ref b1), (.ref b1)])) _
    refine XS.lload X1.here hx rfl (hb hby at_28) rfl ?_
    show Steps p.tables e below (T1.setTop (mkF m 30 #[.val (.int p0), .val (.int p1), .val (.int p2), .val (.long q3), .second, .val (.long q4), .second, .val (.long (v0_7 p0 p1 p2 q3 q4)), .second, .val (.long (v0_14 p0 p1 p2 q3 q4)), .second, .unset, .unset, .unset, .unset] [(.long (v0_7 p0 p1 p2 q3 q4)), (.long q4), (.long q3), (.long ((v0_14 p0 p1 p2 q3 q4) * (v0_7 p0 p1 p2 q3 q4))), (.ref b1), (.ref b1)])) _
    refine st2.trans ?_
    show Steps p.tables e below (T2.setTop (mkF m 33 #[.val (.int p0), .val (.int p1), .val (.int p2), .val (.long q3), .second, .val (.long q4), .second, .val (.long (v0_7 p0 p1 p2 q3 q4)), .second, .val (.long (v0_14 p0 p1 p2 q3 q4)), .second, .unset, .unset, .unset, .unset] [(.ref b1)])) _
    refine XS.astore X2.here hx rfl (hb hby at_33) rfl rfl (l' := #[.val (.int p0), .val (.int p1), .val (.int p2), .val (.long q3), .second, .val (.long q4), .second, .val (.long (v0_7 p0 p1 p2 q3 q4)), .second, .val (.long (v0_14 p0 p1 p2 q3 q4)), .second, .val (.ref b1), .unset, .unset, .unset]) rfl ?_
    show Steps p.tables e below (T2.setTop (mkF m 35 #[.val (.int p0), .val (.int p1), .val (.int p2), .val (.long q3), .second, .val (.long q4), .second, .val (.long (v0_7 p0 p1 p2 q3 q4)), .second, .val (.long (v0_14 p0 p1 p2 q3 q4)), .second, .val (.ref b1), .unset, .unset, .unset] [])) _
    refine XS.aload X2.here hx rfl (hb hby at_35) rfl rfl ?_
    show Steps p.tables e below (T2.setTop (mkF m 37 #[.val (.int p0), .val (.int p1), .val (.int p2), .val (.long q3), .second, .val (.long q4), .second, .val (.long (v0_7 p0 p1 p2 q3 q4)), .second, .val (.long (v0_14 p0 p1 p2 q3 q4)), .second, .val (.ref b1), .unset, .unset, .unset] [(.ref b1)])) _
    refine st3.trans ?_
    show Steps p.tables e below (T3.setTop (mkF m 40 #[.val (.int p0), .val (.int p1), .val (.int p2), .val (.long q3), .second, .val (.long q4), .second, .val (.long (v0_7 p0 p1 p2 q3 q4)), .second, .val (.long (v0_14 p0 p1 p2 q3 q4)), .second, .val (.ref b1), .unset, .unset, .unset] [(.double (r4 ((v0_14 p0 p1 p2 q3 q4) * (v0_7 p0 p1 p2 q3 q4)) (v0_7 p0 p1 p2 q3 q4)))])) _
    refine XS.lload X3.here hx rfl (hb hby at_40) rfl ?_
    show Steps p.tables e below (T3.setTop (mkF m 42 #[.val (.int p0), .val (.int p1), .val (.int p2), .val (.long q3), .second, .val (.long q4), .second, .val (.long (v0_7 p0 p1 p2 q3 q4)), .second, .val (.long (v0_14 p0 p1 p2 q3 q4)), .second, .val (.ref b1), .unset, .unset, .unset] [(.long (v0_14 p0 p1 p2 q3 q4)), (.double (r4 ((v0_14 p0 p1 p2 q3 q4) * (v0_7 p0 p1 p2 q3 q4)) (v0_7 p0 p1 p2 q3 q4)))])) _
    refine X3.ldc2Long hx hown (mvT hZ (hw _ (List.mem_of_getElem? (i := 30) rfl))) (g := (mkF m 42 #[.val (.int p0), .val (.int p1), .val (.int p2), .val (.long q3), .second, .val (.long q4), .second, .val (.long (v0_7 p0 p1 p2 q3 q4)), .second, .val (.long (v0_14 p0 p1 p2 q3 q4)), .second, .val (.ref b1), .unset, .unset, .unset] [(.long (v0_14 p0 p1 p2 q3 q4)), (.double (r4 ((v0_14 p0 p1 p2 q3 q4) * (v0_7 p0 p1 p2 q3 q4)) (v0_7 p0 p1 p2 q3 q4)))])) rfl (hb hby at_42) _ ?_
    show Steps p.tables e below (T3.setTop (mkF m 45 #[.val (.int p0), .val (.int p1), .val (.int p2), .val (.long q3), .second, .val (.long q4), .second, .val (.long (v0_7 p0 p1 p2 q3 q4)), .second, .val (.long (v0_14 p0 p1 p2 q3 q4)), .second, .val (.ref b1), .unset, .unset, .unset] [(.long (1000000000 : Int64)), (.long (v0_14 p0 p1 p2 q3 q4)), (.double (r4 ((v0_14 p0 p1 p2 q3 q4) * (v0_7 p0 p1 p2 q3 q4)) (v0_7 p0 p1 p2 q3 q4)))])) _
    refine XS.lmul X3.here hx rfl (hb hby at_45) rfl ?_
    show Steps p.tables e below (T3.setTop (mkF m 46 #[.val (.int p0), .val (.int p1), .val (.int p2), .val (.long q3), .second, .val (.long q4), .second, .val (.long (v0_7 p0 p1 p2 q3 q4)), .second, .val (.long (v0_14 p0 p1 p2 q3 q4)), .second, .val (.ref b1), .unset, .unset, .unset] [(.long ((v0_14 p0 p1 p2 q3 q4) * (1000000000 : Int64))), (.double (r4 ((v0_14 p0 p1 p2 q3 q4) * (v0_7 p0 p1 p2 q3 q4)) (v0_7 p0 p1 p2 q3 q4)))])) _
    refine XS.l2dS X3.here hx rfl (hb hby at_46) rfl rfl ?_
    show Steps p.tables e below (T3.setTop (mkF m 47 #[.val (.int p0), .val (.int p1), .val (.int p2), .val (.long q3), .second, .val (.long q4), .second, .val (.long (v0_7 p0 p1 p2 q3 q4)), .second, .val (.long (v0_14 p0 p1 p2 q3 q4)), .second, .val (.ref b1), .unset, .unset, .unset] [(.double (FP.l2d ((v0_14 p0 p1 p2 q3 q4) * (1000000000 : Int64)))), (.double (r4 ((v0_14 p0 p1 p2 q3 q4) * (v0_7 p0 p1 p2 q3 q4)) (v0_7 p0 p1 p2 q3 q4)))])) _
    refine XS.dcmpS X3.here hx rfl (hb hby at_47) rfl rfl ?_
    show Steps p.tables e below (T3.setTop (mkF m 48 #[.val (.int p0), .val (.int p1), .val (.int p2), .val (.long q3), .second, .val (.long q4), .second, .val (.long (v0_7 p0 p1 p2 q3 q4)), .second, .val (.long (v0_14 p0 p1 p2 q3 q4)), .second, .val (.ref b1), .unset, .unset, .unset] [(.int (cmpValue (FP.dcmp (r4 ((v0_14 p0 p1 p2 q3 q4) * (v0_7 p0 p1 p2 q3 q4)) (v0_7 p0 p1 p2 q3 q4)) (FP.l2d ((v0_14 p0 p1 p2 q3 q4) * (1000000000 : Int64)))) .l))])) _
    suffices kt48 : Steps p.tables e below (T3.setTop (mkF m 56 #[.val (.int p0), .val (.int p1), .val (.int p2), .val (.long q3), .second, .val (.long q4), .second, .val (.long (v0_7 p0 p1 p2 q3 q4)), .second, .val (.long (v0_14 p0 p1 p2 q3 q4)), .second, .val (.ref b1), .unset, .unset, .unset] [(.int (j0_48_s0 p0 p1 p2 q3 q4))])) (T6.setFrames fs) by
      by_cases hc48 : ifCond.holds .ne (cmpValue (FP.dcmp (r4 ((v0_14 p0 p1 p2 q3 q4) * (v0_7 p0 p1 p2 q3 q4)) (v0_7 p0 p1 p2 q3 q4)) (FP.l2d ((v0_14 p0 p1 p2 q3 q4) * (1000000000 : Int64)))) .l) = true
      · rw [show (j0_48_s0 p0 p1 p2 q3 q4) = (0 : Int32) from if_pos hc48] at kt48
        refine XS.ifYes X3.here hx rfl (pc0 := 48) (pc' := 55) rfl (hb hby at_48) rfl hc48 (by decide) (by decide) ?_
        show Steps p.tables e below (T3.setTop (mkF m 55 #[.val (.int p0), .val (.int p1), .val (.int p2), .val (.long q3), .second, .val (.long q4), .second, .val (.long (v0_7 p0 p1 p2 q3 q4)), .second, .val (.long (v0_14 p0 p1 p2 q3 q4)), .second, .val (.ref b1), .unset, .unset, .unset] [])) _
        refine XS.iconst X3.here hx rfl (hb hby at_55) ?_
        exact kt48
      · rw [show (j0_48_s0 p0 p1 p2 q3 q4) = (1 : Int32) from if_neg hc48] at kt48
        refine XS.ifNo X3.here hx rfl (hb hby at_48) rfl (eq_false_of_ne_true hc48) ?_
        show Steps p.tables e below (T3.setTop (mkF m 51 #[.val (.int p0), .val (.int p1), .val (.int p2), .val (.long q3), .second, .val (.long q4), .second, .val (.long (v0_7 p0 p1 p2 q3 q4)), .second, .val (.long (v0_14 p0 p1 p2 q3 q4)), .second, .val (.ref b1), .unset, .unset, .unset] [])) _
        refine XS.iconst X3.here hx rfl (hb hby at_51) ?_
        show Steps p.tables e below (T3.setTop (mkF m 52 #[.val (.int p0), .val (.int p1), .val (.int p2), .val (.long q3), .second, .val (.long q4), .second, .val (.long (v0_7 p0 p1 p2 q3 q4)), .second, .val (.long (v0_14 p0 p1 p2 q3 q4)), .second, .val (.ref b1), .unset, .unset, .unset] [(.int (1 : Int32))])) _
        refine XS.goto X3.here hx rfl (pc0 := 52) (pc' := 56) rfl (hb hby at_52) (by decide) (by decide) ?_
        exact kt48
    show Steps p.tables e below (T3.setTop (mkF m 56 #[.val (.int p0), .val (.int p1), .val (.int p2), .val (.long q3), .second, .val (.long q4), .second, .val (.long (v0_7 p0 p1 p2 q3 q4)), .second, .val (.long (v0_14 p0 p1 p2 q3 q4)), .second, .val (.ref b1), .unset, .unset, .unset] [(.int (j0_48_s0 p0 p1 p2 q3 q4))])) _
    refine XS.istore X3.here hx rfl (hb hby at_56) rfl (l' := #[.val (.int p0), .val (.int p1), .val (.int p2), .val (.long q3), .second, .val (.long q4), .second, .val (.long (v0_7 p0 p1 p2 q3 q4)), .second, .val (.long (v0_14 p0 p1 p2 q3 q4)), .second, .val (.ref b1), .val (.int (j0_48_s0 p0 p1 p2 q3 q4)), .unset, .unset]) rfl ?_
    show Steps p.tables e below (T3.setTop (mkF m 58 #[.val (.int p0), .val (.int p1), .val (.int p2), .val (.long q3), .second, .val (.long q4), .second, .val (.long (v0_7 p0 p1 p2 q3 q4)), .second, .val (.long (v0_14 p0 p1 p2 q3 q4)), .second, .val (.ref b1), .val (.int (j0_48_s0 p0 p1 p2 q3 q4)), .unset, .unset] [])) _
    refine st4 _ ?_
    show Steps p.tables e below (T4.setTop (mkF m 61 #[.val (.int p0), .val (.int p1), .val (.int p2), .val (.long q3), .second, .val (.long q4), .second, .val (.long (v0_7 p0 p1 p2 q3 q4)), .second, .val (.long (v0_14 p0 p1 p2 q3 q4)), .second, .val (.ref b1), .val (.int (j0_48_s0 p0 p1 p2 q3 q4)), .unset, .unset] [(.ref b4)])) _
    refine XS.dup X4.here hx rfl (hb hby at_61) rfl rfl ?_
    show Steps p.tables e below (T4.setTop (mkF m 62 #[.val (.int p0), .val (.int p1), .val (.int p2), .val (.long q3), .second, .val (.long q4), .second, .val (.long (v0_7 p0 p1 p2 q3 q4)), .second, .val (.long (v0_14 p0 p1 p2 q3 q4)), .second, .val (.ref b1), .val (.int (j0_48_s0 p0 p1 p2 q3 q4)), .unset, .unset] [(.ref b4), (.ref b4)])) _
    refine XS.iloadN X4.here hx rfl (hb hby at_62) rfl ?_
    show Steps p.tables e below (T4.setTop (mkF m 63 #[.val (.int p0), .val (.int p1), .val (.int p2), .val (.long q3), .second, .val (.long q4), .second, .val (.long (v0_7 p0 p1 p2 q3 q4)), .second, .val (.long (v0_14 p0 p1 p2 q3 q4)), .second, .val (.ref b1), .val (.int (j0_48_s0 p0 p1 p2 q3 q4)), .unset, .unset] [(.int p2), (.ref b4), (.ref b4)])) _
    refine XS.i2l X4.here hx rfl (hb hby at_63) rfl ?_
    show Steps p.tables e below (T4.setTop (mkF m 64 #[.val (.int p0), .val (.int p1), .val (.int p2), .val (.long q3), .second, .val (.long q4), .second, .val (.long (v0_7 p0 p1 p2 q3 q4)), .second, .val (.long (v0_14 p0 p1 p2 q3 q4)), .second, .val (.ref b1), .val (.int (j0_48_s0 p0 p1 p2 q3 q4)), .unset, .unset] [(.long (p2.toInt64)), (.ref b4), (.ref b4)])) _
    refine XS.lloadN X4.here hx rfl (hb hby at_64) rfl ?_
    show Steps p.tables e below (T4.setTop (mkF m 65 #[.val (.int p0), .val (.int p1), .val (.int p2), .val (.long q3), .second, .val (.long q4), .second, .val (.long (v0_7 p0 p1 p2 q3 q4)), .second, .val (.long (v0_14 p0 p1 p2 q3 q4)), .second, .val (.ref b1), .val (.int (j0_48_s0 p0 p1 p2 q3 q4)), .unset, .unset] [(.long q3), (.long (p2.toInt64)), (.ref b4), (.ref b4)])) _
    refine XS.lload X4.here hx rfl (hb hby at_65) rfl ?_
    show Steps p.tables e below (T4.setTop (mkF m 67 #[.val (.int p0), .val (.int p1), .val (.int p2), .val (.long q3), .second, .val (.long q4), .second, .val (.long (v0_7 p0 p1 p2 q3 q4)), .second, .val (.long (v0_14 p0 p1 p2 q3 q4)), .second, .val (.ref b1), .val (.int (j0_48_s0 p0 p1 p2 q3 q4)), .unset, .unset] [(.long q4), (.long q3), (.long (p2.toInt64)), (.ref b4), (.ref b4)])) _
    refine X4.ldc2Long hx hown (mvT hZ (hw _ (List.mem_of_getElem? (i := 30) rfl))) (g := (mkF m 67 #[.val (.int p0), .val (.int p1), .val (.int p2), .val (.long q3), .second, .val (.long q4), .second, .val (.long (v0_7 p0 p1 p2 q3 q4)), .second, .val (.long (v0_14 p0 p1 p2 q3 q4)), .second, .val (.ref b1), .val (.int (j0_48_s0 p0 p1 p2 q3 q4)), .unset, .unset] [(.long q4), (.long q3), (.long (p2.toInt64)), (.ref b4), (.ref b4)])) rfl (hb hby at_67) _ ?_
    show Steps p.tables e below (T4.setTop (mkF m 70 #[.val (.int p0), .val (.int p1), .val (.int p2), .val (.long q3), .second, .val (.long q4), .second, .val (.long (v0_7 p0 p1 p2 q3 q4)), .second, .val (.long (v0_14 p0 p1 p2 q3 q4)), .second, .val (.ref b1), .val (.int (j0_48_s0 p0 p1 p2 q3 q4)), .unset, .unset] [(.long (1000000000 : Int64)), (.long q4), (.long q3), (.long (p2.toInt64)), (.ref b4), (.ref b4)])) _
    refine st5.trans ?_
    show Steps p.tables e below (T5.setTop (mkF m 73 #[.val (.int p0), .val (.int p1), .val (.int p2), .val (.long q3), .second, .val (.long q4), .second, .val (.long (v0_7 p0 p1 p2 q3 q4)), .second, .val (.long (v0_14 p0 p1 p2 q3 q4)), .second, .val (.ref b1), .val (.int (j0_48_s0 p0 p1 p2 q3 q4)), .unset, .unset] [(.ref b4)])) _
    refine XS.astore X5.here hx rfl (hb hby at_73) rfl rfl (l' := #[.val (.int p0), .val (.int p1), .val (.int p2), .val (.long q3), .second, .val (.long q4), .second, .val (.long (v0_7 p0 p1 p2 q3 q4)), .second, .val (.long (v0_14 p0 p1 p2 q3 q4)), .second, .val (.ref b1), .val (.int (j0_48_s0 p0 p1 p2 q3 q4)), .val (.ref b4), .unset]) rfl ?_
    show Steps p.tables e below (T5.setTop (mkF m 75 #[.val (.int p0), .val (.int p1), .val (.int p2), .val (.long q3), .second, .val (.long q4), .second, .val (.long (v0_7 p0 p1 p2 q3 q4)), .second, .val (.long (v0_14 p0 p1 p2 q3 q4)), .second, .val (.ref b1), .val (.int (j0_48_s0 p0 p1 p2 q3 q4)), .val (.ref b4), .unset] [])) _
    refine XS.aload X5.here hx rfl (hb hby at_75) rfl rfl ?_
    show Steps p.tables e below (T5.setTop (mkF m 77 #[.val (.int p0), .val (.int p1), .val (.int p2), .val (.long q3), .second, .val (.long q4), .second, .val (.long (v0_7 p0 p1 p2 q3 q4)), .second, .val (.long (v0_14 p0 p1 p2 q3 q4)), .second, .val (.ref b1), .val (.int (j0_48_s0 p0 p1 p2 q3 q4)), .val (.ref b4), .unset] [(.ref b4)])) _
    refine st6.trans ?_
    show Steps p.tables e below (T6.setTop (mkF m 80 #[.val (.int p0), .val (.int p1), .val (.int p2), .val (.long q3), .second, .val (.long q4), .second, .val (.long (v0_7 p0 p1 p2 q3 q4)), .second, .val (.long (v0_14 p0 p1 p2 q3 q4)), .second, .val (.ref b1), .val (.int (j0_48_s0 p0 p1 p2 q3 q4)), .val (.ref b4), .unset] [(.double (r4 (p2.toInt64) (1000000000 : Int64)))])) _
    refine XS.iloadN X6.here hx rfl (hb hby at_80) rfl ?_
    show Steps p.tables e below (T6.setTop (mkF m 81 #[.val (.int p0), .val (.int p1), .val (.int p2), .val (.long q3), .second, .val (.long q4), .second, .val (.long (v0_7 p0 p1 p2 q3 q4)), .second, .val (.long (v0_14 p0 p1 p2 q3 q4)), .second, .val (.ref b1), .val (.int (j0_48_s0 p0 p1 p2 q3 q4)), .val (.ref b4), .unset] [(.int p2), (.double (r4 (p2.toInt64) (1000000000 : Int64)))])) _
    refine XS.i2dS X6.here hx rfl (hb hby at_81) rfl rfl ?_
    show Steps p.tables e below (T6.setTop (mkF m 82 #[.val (.int p0), .val (.int p1), .val (.int p2), .val (.long q3), .second, .val (.long q4), .second, .val (.long (v0_7 p0 p1 p2 q3 q4)), .second, .val (.long (v0_14 p0 p1 p2 q3 q4)), .second, .val (.ref b1), .val (.int (j0_48_s0 p0 p1 p2 q3 q4)), .val (.ref b4), .unset] [(.double (FP.i2d p2)), (.double (r4 (p2.toInt64) (1000000000 : Int64)))])) _
    refine XS.dcmpS X6.here hx rfl (hb hby at_82) rfl rfl ?_
    show Steps p.tables e below (T6.setTop (mkF m 83 #[.val (.int p0), .val (.int p1), .val (.int p2), .val (.long q3), .second, .val (.long q4), .second, .val (.long (v0_7 p0 p1 p2 q3 q4)), .second, .val (.long (v0_14 p0 p1 p2 q3 q4)), .second, .val (.ref b1), .val (.int (j0_48_s0 p0 p1 p2 q3 q4)), .val (.ref b4), .unset] [(.int (cmpValue (FP.dcmp (r4 (p2.toInt64) (1000000000 : Int64)) (FP.i2d p2)) .l))])) _
    suffices kt83 : Steps p.tables e below (T6.setTop (mkF m 91 #[.val (.int p0), .val (.int p1), .val (.int p2), .val (.long q3), .second, .val (.long q4), .second, .val (.long (v0_7 p0 p1 p2 q3 q4)), .second, .val (.long (v0_14 p0 p1 p2 q3 q4)), .second, .val (.ref b1), .val (.int (j0_48_s0 p0 p1 p2 q3 q4)), .val (.ref b4), .unset] [(.int (j0_83_s0 p0 p1 p2 q3 q4))])) (T6.setFrames fs) by
      by_cases hc83 : ifCond.holds .ne (cmpValue (FP.dcmp (r4 (p2.toInt64) (1000000000 : Int64)) (FP.i2d p2)) .l) = true
      · rw [show (j0_83_s0 p0 p1 p2 q3 q4) = (0 : Int32) from if_pos hc83] at kt83
        refine XS.ifYes X6.here hx rfl (pc0 := 83) (pc' := 90) rfl (hb hby at_83) rfl hc83 (by decide) (by decide) ?_
        show Steps p.tables e below (T6.setTop (mkF m 90 #[.val (.int p0), .val (.int p1), .val (.int p2), .val (.long q3), .second, .val (.long q4), .second, .val (.long (v0_7 p0 p1 p2 q3 q4)), .second, .val (.long (v0_14 p0 p1 p2 q3 q4)), .second, .val (.ref b1), .val (.int (j0_48_s0 p0 p1 p2 q3 q4)), .val (.ref b4), .unset] [])) _
        refine XS.iconst X6.here hx rfl (hb hby at_90) ?_
        exact kt83
      · rw [show (j0_83_s0 p0 p1 p2 q3 q4) = (1 : Int32) from if_neg hc83] at kt83
        refine XS.ifNo X6.here hx rfl (hb hby at_83) rfl (eq_false_of_ne_true hc83) ?_
        show Steps p.tables e below (T6.setTop (mkF m 86 #[.val (.int p0), .val (.int p1), .val (.int p2), .val (.long q3), .second, .val (.long q4), .second, .val (.long (v0_7 p0 p1 p2 q3 q4)), .second, .val (.long (v0_14 p0 p1 p2 q3 q4)), .second, .val (.ref b1), .val (.int (j0_48_s0 p0 p1 p2 q3 q4)), .val (.ref b4), .unset] [])) _
        refine XS.iconst X6.here hx rfl (hb hby at_86) ?_
        show Steps p.tables e below (T6.setTop (mkF m 87 #[.val (.int p0), .val (.int p1), .val (.int p2), .val (.long q3), .second, .val (.long q4), .second, .val (.long (v0_7 p0 p1 p2 q3 q4)), .second, .val (.long (v0_14 p0 p1 p2 q3 q4)), .second, .val (.ref b1), .val (.int (j0_48_s0 p0 p1 p2 q3 q4)), .val (.ref b4), .unset] [(.int (1 : Int32))])) _
        refine XS.goto X6.here hx rfl (pc0 := 87) (pc' := 91) rfl (hb hby at_87) (by decide) (by decide) ?_
        exact kt83
    show Steps p.tables e below (T6.setTop (mkF m 91 #[.val (.int p0), .val (.int p1), .val (.int p2), .val (.long q3), .second, .val (.long q4), .second, .val (.long (v0_7 p0 p1 p2 q3 q4)), .second, .val (.long (v0_14 p0 p1 p2 q3 q4)), .second, .val (.ref b1), .val (.int (j0_48_s0 p0 p1 p2 q3 q4)), .val (.ref b4), .unset] [(.int (j0_83_s0 p0 p1 p2 q3 q4))])) _
    refine XS.istore X6.here hx rfl (hb hby at_91) rfl (l' := #[.val (.int p0), .val (.int p1), .val (.int p2), .val (.long q3), .second, .val (.long q4), .second, .val (.long (v0_7 p0 p1 p2 q3 q4)), .second, .val (.long (v0_14 p0 p1 p2 q3 q4)), .second, .val (.ref b1), .val (.int (j0_48_s0 p0 p1 p2 q3 q4)), .val (.ref b4), .val (.int (j0_83_s0 p0 p1 p2 q3 q4))]) rfl ?_
    show Steps p.tables e below (T6.setTop (mkF m 93 #[.val (.int p0), .val (.int p1), .val (.int p2), .val (.long q3), .second, .val (.long q4), .second, .val (.long (v0_7 p0 p1 p2 q3 q4)), .second, .val (.long (v0_14 p0 p1 p2 q3 q4)), .second, .val (.ref b1), .val (.int (j0_48_s0 p0 p1 p2 q3 q4)), .val (.ref b4), .val (.int (j0_83_s0 p0 p1 p2 q3 q4))] [])) _
    refine XS.iload X6.here hx rfl (hb hby at_93) rfl ?_
    show Steps p.tables e below (T6.setTop (mkF m 95 #[.val (.int p0), .val (.int p1), .val (.int p2), .val (.long q3), .second, .val (.long q4), .second, .val (.long (v0_7 p0 p1 p2 q3 q4)), .second, .val (.long (v0_14 p0 p1 p2 q3 q4)), .second, .val (.ref b1), .val (.int (j0_48_s0 p0 p1 p2 q3 q4)), .val (.ref b4), .val (.int (j0_83_s0 p0 p1 p2 q3 q4))] [(.int (j0_48_s0 p0 p1 p2 q3 q4))])) _
    suffices kt95 : Steps p.tables e below (T6.setTop (mkF m 108 #[.val (.int p0), .val (.int p1), .val (.int p2), .val (.long q3), .second, .val (.long q4), .second, .val (.long (v0_7 p0 p1 p2 q3 q4)), .second, .val (.long (v0_14 p0 p1 p2 q3 q4)), .second, .val (.ref b1), .val (.int (j0_48_s0 p0 p1 p2 q3 q4)), .val (.ref b4), .val (.int (j0_83_s0 p0 p1 p2 q3 q4))] [(.int (j0_95_s0 p0 p1 p2 q3 q4))])) (T6.setFrames fs) by
      by_cases hc95 : ifCond.holds .eq (j0_48_s0 p0 p1 p2 q3 q4) = true
      · rw [show (j0_95_s0 p0 p1 p2 q3 q4) = (0 : Int32) from if_pos hc95] at kt95
        refine XS.ifYes X6.here hx rfl (pc0 := 95) (pc' := 107) rfl (hb hby at_95) rfl hc95 (by decide) (by decide) ?_
        show Steps p.tables e below (T6.setTop (mkF m 107 #[.val (.int p0), .val (.int p1), .val (.int p2), .val (.long q3), .second, .val (.long q4), .second, .val (.long (v0_7 p0 p1 p2 q3 q4)), .second, .val (.long (v0_14 p0 p1 p2 q3 q4)), .second, .val (.ref b1), .val (.int (j0_48_s0 p0 p1 p2 q3 q4)), .val (.ref b4), .val (.int (j0_83_s0 p0 p1 p2 q3 q4))] [])) _
        refine XS.iconst X6.here hx rfl (hb hby at_107) ?_
        exact kt95
      · rw [show (j0_95_s0 p0 p1 p2 q3 q4) = (j0_100_s0 p0 p1 p2 q3 q4) from if_neg hc95] at kt95
        refine XS.ifNo X6.here hx rfl (hb hby at_95) rfl (eq_false_of_ne_true hc95) ?_
        show Steps p.tables e below (T6.setTop (mkF m 98 #[.val (.int p0), .val (.int p1), .val (.int p2), .val (.long q3), .second, .val (.long q4), .second, .val (.long (v0_7 p0 p1 p2 q3 q4)), .second, .val (.long (v0_14 p0 p1 p2 q3 q4)), .second, .val (.ref b1), .val (.int (j0_48_s0 p0 p1 p2 q3 q4)), .val (.ref b4), .val (.int (j0_83_s0 p0 p1 p2 q3 q4))] [])) _
        refine XS.iload X6.here hx rfl (hb hby at_98) rfl ?_
        show Steps p.tables e below (T6.setTop (mkF m 100 #[.val (.int p0), .val (.int p1), .val (.int p2), .val (.long q3), .second, .val (.long q4), .second, .val (.long (v0_7 p0 p1 p2 q3 q4)), .second, .val (.long (v0_14 p0 p1 p2 q3 q4)), .second, .val (.ref b1), .val (.int (j0_48_s0 p0 p1 p2 q3 q4)), .val (.ref b4), .val (.int (j0_83_s0 p0 p1 p2 q3 q4))] [(.int (j0_83_s0 p0 p1 p2 q3 q4))])) _
        suffices kt100 : Steps p.tables e below (T6.setTop (mkF m 108 #[.val (.int p0), .val (.int p1), .val (.int p2), .val (.long q3), .second, .val (.long q4), .second, .val (.long (v0_7 p0 p1 p2 q3 q4)), .second, .val (.long (v0_14 p0 p1 p2 q3 q4)), .second, .val (.ref b1), .val (.int (j0_48_s0 p0 p1 p2 q3 q4)), .val (.ref b4), .val (.int (j0_83_s0 p0 p1 p2 q3 q4))] [(.int (j0_100_s0 p0 p1 p2 q3 q4))])) (T6.setFrames fs) by
          by_cases hc100 : ifCond.holds .eq (j0_83_s0 p0 p1 p2 q3 q4) = true
          · rw [show (j0_100_s0 p0 p1 p2 q3 q4) = (0 : Int32) from if_pos hc100] at kt100
            refine XS.ifYes X6.here hx rfl (pc0 := 100) (pc' := 107) rfl (hb hby at_100) rfl hc100 (by decide) (by decide) ?_
            show Steps p.tables e below (T6.setTop (mkF m 107 #[.val (.int p0), .val (.int p1), .val (.int p2), .val (.long q3), .second, .val (.long q4), .second, .val (.long (v0_7 p0 p1 p2 q3 q4)), .second, .val (.long (v0_14 p0 p1 p2 q3 q4)), .second, .val (.ref b1), .val (.int (j0_48_s0 p0 p1 p2 q3 q4)), .val (.ref b4), .val (.int (j0_83_s0 p0 p1 p2 q3 q4))] [])) _
            refine XS.iconst X6.here hx rfl (hb hby at_107) ?_
            exact kt100
          · rw [show (j0_100_s0 p0 p1 p2 q3 q4) = (1 : Int32) from if_neg hc100] at kt100
            refine XS.ifNo X6.here hx rfl (hb hby at_100) rfl (eq_false_of_ne_true hc100) ?_
            show Steps p.tables e below (T6.setTop (mkF m 103 #[.val (.int p0), .val (.int p1), .val (.int p2), .val (.long q3), .second, .val (.long q4), .second, .val (.long (v0_7 p0 p1 p2 q3 q4)), .second, .val (.long (v0_14 p0 p1 p2 q3 q4)), .second, .val (.ref b1), .val (.int (j0_48_s0 p0 p1 p2 q3 q4)), .val (.ref b4), .val (.int (j0_83_s0 p0 p1 p2 q3 q4))] [])) _
            refine XS.iconst X6.here hx rfl (hb hby at_103) ?_
            show Steps p.tables e below (T6.setTop (mkF m 104 #[.val (.int p0), .val (.int p1), .val (.int p2), .val (.long q3), .second, .val (.long q4), .second, .val (.long (v0_7 p0 p1 p2 q3 q4)), .second, .val (.long (v0_14 p0 p1 p2 q3 q4)), .second, .val (.ref b1), .val (.int (j0_48_s0 p0 p1 p2 q3 q4)), .val (.ref b4), .val (.int (j0_83_s0 p0 p1 p2 q3 q4))] [(.int (1 : Int32))])) _
            refine XS.goto X6.here hx rfl (pc0 := 104) (pc' := 108) rfl (hb hby at_104) (by decide) (by decide) ?_
            exact kt100
        exact kt95
    show Steps p.tables e below (T6.setTop (mkF m 108 #[.val (.int p0), .val (.int p1), .val (.int p2), .val (.long q3), .second, .val (.long q4), .second, .val (.long (v0_7 p0 p1 p2 q3 q4)), .second, .val (.long (v0_14 p0 p1 p2 q3 q4)), .second, .val (.ref b1), .val (.int (j0_48_s0 p0 p1 p2 q3 q4)), .val (.ref b4), .val (.int (j0_83_s0 p0 p1 p2 q3 q4))] [(.int (j0_95_s0 p0 p1 p2 q3 q4))])) _
    rw [hres108]
    exact retN X6 hx (t := .boolean) Bd.returns (by simp) (hb hby at_108) hr
  · show Q0 Z p0 p1 p2 q3 q4 h0 n0 _ T6.heap _
    exact ⟨rfl, N6⟩
set_option maxRecDepth 65536 in
set_option maxHeartbeats 40000000 in
theorem comes_1 {Post : Tables → Env → Array Value → State → Outcome → State → Prop} (hpost : ∀ tb e args s v u, (limb_1_1.after args s (.returned v) u = true ∧ limb_1_2.after args s (.returned v) u = true ∧ True) → FrameEnd s (.returned v) u (Jvm.fieldLocs frame_1_writes args s ++ Jvm.arrayLocs frame_1_arrays args s ++ Jvm.staticLocs frame_1_statics s) 16 128 → Post tb e args s (.returned v) u) :
    ArmFor flags0 classFile x code maxLocals ret World_1 tables_1 room_1 Calls_1 rest_1 Pre_1 Post := by
  intro l hfl _ _ p e ha hc hk s m args below hf hA hF happ hP
  obtain ⟨hcalls, hrest, hpre⟩ := hP
  obtain ⟨-, -, -, hnamed, -, -, -, hat⟩ := (Spec.applies_iff hf).mp happ
  obtain ⟨hg, hn⟩ := and_e (Cond.before_iff.mp (show (Jvm.Cond.and given_1 narrow_1).before args s = true from hpre))
  obtain ⟨k0, r0⟩ := and_e hg
  obtain ⟨a0, r1⟩ := and_e r0
  obtain ⟨a1, r2⟩ := and_e r1
  obtain ⟨a2, r3⟩ := and_e r2
  obtain ⟨a3, r4⟩ := and_e r3
  have a4 := r4
  obtain ⟨w0, w1, w2, w3, w4, rfl⟩ : ∃ w0 w1 w2 w3 w4 : Value, args = #[w0, w1, w2, w3, w4] := by
    have hs : args.size = 5 := by simpa [Cond.value, given_1] using k0
    obtain ⟨L⟩ := args
    match L, hs with
    | [w0, w1, w2, w3, w4], _ => exact ⟨w0, w1, w2, w3, w4, rfl⟩
  have hw := fun d (hd : d ∈ tables_1) => atoms_spec (ws := Jvm.Cond.code x code maxLocals ret :: tables_1) hat d (List.mem_cons_of_mem _ hd)
  obtain ⟨i0, ei0⟩ := is_v a0
  obtain rfl : w0 = (.int i0) := Option.some.inj ei0
  obtain ⟨i1, ei1⟩ := is_v a1
  obtain rfl : w1 = (.int i1) := Option.some.inj ei1
  obtain ⟨i2, ei2⟩ := is_v a2
  obtain rfl : w2 = (.int i2) := Option.some.inj ei2
  obtain ⟨i3, ei3⟩ := isL_v a3
  obtain rfl : w3 = (.long i3) := Option.some.inj ei3
  obtain ⟨i4, ei4⟩ := isL_v a4
  obtain rfl : w4 = (.long i4) := Option.some.inj ei4
  obtain ⟨n, o, h1, h2, h3, _, L, rfl, ⟨rfl, N⟩, hq⟩ := rm0 l s _ hw tables_1 i0 i1 i2 i3 i4 s.heap s.heap.size (Nat.le_refl _) (own_n8 _) (own_n37 i0 i1 i2 i3 i4) (own_n8 _) (own_n77 i0 i1 i2 i3 i4) (own_res i0 i1 i2 i3 i4) p e ha hc hk s m _ below hf ((Spec.applies_iff_loose hf).mp happ).1 ⟨rfl, State.Warmed39.refl s, rfl⟩ trivial
  refine ⟨n, _, h1, h2, h3, hpost _ _ _ _ _ _ ⟨Cond.after_iff.mpr rfl, Cond.after_iff.mpr (eq_i res_at (Term.int_eval (1)) rfl), trivial⟩ ⟨hq.1, hq.2.1, (hq.2.2.sift fun y hy => Or.inr (N y hy)).mono (by decide) (by decide)⟩⟩
theorem main_1_1 : Claimed_1_1 := comes_1 fun _ _ _ _ _ _ h hF => ⟨h.1, hF⟩
theorem main_1_2 : Claimed_1_2 := comes_1 fun _ _ _ _ _ _ h hF => ⟨h.2.1, hF⟩
end Jvm.Pilot.@@N@@
namespace Jvm.Pilot.@@N@@
open Jvm Jvm.ClassFile Sem Op Lib Jvm.Free Jvm.Stand Jvm.Pilot.@@N@@.Jvm.D
/-! MADE BY PROGRAM (witnessworld.py) out of the Statement's table words and the real class files: 10 classes; the members and pool entries that the words name. The judged class is class 1, her method 1. -/
namespace start1
open Jvm.ClassFile
def u (s : String) : CpInfo := .utf8 (stringToUtf16 s)
/-- a pool by its gaps: so many unusable entries, then the entry; so many at the end -/
def gap : Nat → List CpInfo → List CpInfo
  | 0, r => r
  | n + 1, r => .unusable :: gap n r
def poolList (es : List (Nat × CpInfo)) (last : Nat) : List CpInfo := es.foldr (fun e r => gap e.1 (e.2 :: r)) (gap last [])
def pool (es : List (Nat × CpInfo)) (last : Nat) : Array CpInfo := ⟨poolList es last⟩
def fileOf (pool : Array CpInfo) (this : Nat) (attrs : Array Attribute := #[]) (ms : Array MethodInfo := #[]) (fl : Nat := 33) (sup : Nat := 0) (ifs : Array Nat := #[]) (fds : Array FieldInfo := #[]) : ClassFile where
  minorVersion := 0
  majorVersion := 65
  constantPool := pool
  accessFlags := fl
  thisClass := this
  superClass := sup
  interfaces := ifs
  fields := fds
  methods := ms
  attributes := attrs
def plain (name : String) (sup : Option ClassId) : Class where
  name := name
  kind := .ordinary
  loader := none
  accessFlags := 33
  super := sup
  interfaces := #[]
  cf := none
  fields := #[]
  methods := #[]
  instanceTypes := #[]
  staticTypes := #[]
  resolved := #[]
  callSites := []
  init := .initialized
  statics := none
  mirror := none

def pool0 : Array CpInfo := pool [(5, u "<init>"), (0, u "()V"), (1, .class_ 10), (1, u "java/lang/Object")] 113

def k0c0 : Code := { maxStack := 0, maxLocals := 1, code := object_method_1_code, exceptionTable := #[], attributes := #[] }
def k0m0 : Method := { name := "<init>", desc := "()V", sig := { parameters := [], returnType := none }, accessFlags := 1, code := some k0c0 }
/-- java/lang/Object -/
def k0 : Class := { plain "java/lang/Object" none with
  accessFlags := 33
  interfaces := #[]
  cf := some (fileOf pool0 8 #[] #[{ accessFlags := 1, nameIndex := 5, descriptorIndex := 6, attributes := #[] }] 33 0 #[] #[])
  fields := #[]
  methods := #[k0m0]
  instanceTypes := #[]
  staticTypes := #[]
  resolved := Array.replicate 124 none
  statics := none }

def pool1 : Array CpInfo := pool [(2, .class_ 4), (1, u "java/lang/Object"), (0, u "<init>"), (0, u "()V"), (0, .integer 65535), (0, .integer 32768), (0, .class_ 10), (0, u "com/example/duotier/duotier/bench/Tally"), (0, .methodref 9 12), (0, .nameAndType 5 13), (0, u "(JJJJ)V"), (0, .methodref 9 15), (0, .nameAndType 16 17), (0, u "operationsPerSecond"), (0, u "()D"), (0, .long 1000000000), (1, .class_ 21), (0, u "com/example/duotier/duotier/bench/TallyOperationsPerSecondPinLaw"), (2, u "law"), (0, u "(IIIJJ)Z")] 3

def k1m0 : Method := { name := "<init>", desc := "()V", sig := { parameters := [], returnType := none }, accessFlags := 1, code := none }
def k1c1 : Code := { maxStack := 10, maxLocals := 15, code := code, exceptionTable := #[], attributes := #[] }
def k1m1 : Method := { name := "law", desc := "(IIIJJ)Z", sig := { parameters := [.int, .int, .int, .long, .long], returnType := some .boolean }, accessFlags := 9, code := some k1c1 }
/-- com/example/duotier/duotier/bench/TallyOperationsPerSecondPinLaw -/
def k1 : Class := { plain "com/example/duotier/duotier/bench/TallyOperationsPerSecondPinLaw" (some 0) with
  accessFlags := 49
  interfaces := #[]
  cf := some (fileOf pool1 20 #[] #[{ accessFlags := 1, nameIndex := 5, descriptorIndex := 6, attributes := #[] }, { accessFlags := 9, nameIndex := 24, descriptorIndex := 25, attributes := #[] }] 49 2 #[] #[])
  fields := #[]
  methods := #[k1m0, k1m1]
  instanceTypes := #[]
  staticTypes := #[]
  resolved := Array.replicate 29 none
  statics := none }

def pool2 : Array CpInfo := pool [(1, .methodref 2 3), (0, .class_ 4), (0, .nameAndType 5 6), (0, u "java/lang/Object"), (0, u "<init>"), (0, u "()V"), (0, .class_ 8), (0, u "java/lang/Record")] 13

def k2c0 : Code := { maxStack := 1, maxLocals := 1, code := jdk_30_method_1_code, exceptionTable := #[], attributes := #[] }
def k2m0 : Method := { name := "<init>", desc := "()V", sig := { parameters := [], returnType := none }, accessFlags := 4, code := some k2c0 }
/-- java/lang/Record -/
def k2 : Class := { plain "java/lang/Record" (some 0) with
  accessFlags := 1057
  interfaces := #[]
  cf := some (fileOf pool2 7 #[] #[{ accessFlags := 4, nameIndex := 5, descriptorIndex := 6, attributes := #[] }] 1057 2 #[] #[])
  fields := #[]
  methods := #[k2m0]
  instanceTypes := #[]
  staticTypes := #[]
  resolved := Array.replicate 22 none
  statics := none }

def pool3 : Array CpInfo := pool [(1, .methodref 2 3), (0, .class_ 4), (0, .nameAndType 5 6), (0, u "java/lang/Record"), (0, u "<init>"), (0, u "()V"), (0, .fieldref 8 9), (0, .class_ 10), (0, .nameAndType 11 12), (0, u "com/example/duotier/duotier/bench/Tally"), (0, u "operations"), (0, u "J"), (0, .fieldref 8 14), (0, .nameAndType 15 12), (0, u "reads"), (0, .fieldref 8 17), (0, .nameAndType 18 12), (0, u "localMisses"), (0, .fieldref 8 20), (0, .nameAndType 21 12), (0, u "nanos"), (39, u "(JJJJ)V"), (8, .double 4741671816366391296), (13, u "PREFIX"), (0, u "Ljava/lang/String;"), (11, u "operationsPerSecond"), (0, u "()D")] 37

def k3c0 : Code := { maxStack := 3, maxLocals := 9, code := prog_23_method_1_code, exceptionTable := #[], attributes := #[] }
def k3m0 : Method := { name := "<init>", desc := "(JJJJ)V", sig := { parameters := [.long, .long, .long, .long], returnType := none }, accessFlags := 0, code := some k3c0 }
def k3c1 : Code := { maxStack := 4, maxLocals := 1, code := prog_23_method_4_code, exceptionTable := #[], attributes := #[] }
def k3m1 : Method := { name := "operationsPerSecond", desc := "()D", sig := { parameters := [], returnType := some .double }, accessFlags := 0, code := some k3c1 }
/-- com/example/duotier/duotier/bench/Tally -/
def k3 : Class := { plain "com/example/duotier/duotier/bench/Tally" (some 2) with
  accessFlags := 48
  interfaces := #[]
  cf := some (fileOf pool3 8 #[] #[{ accessFlags := 0, nameIndex := 5, descriptorIndex := 61, attributes := #[] }, { accessFlags := 0, nameIndex := 97, descriptorIndex := 98, attributes := #[] }] 48 2 #[] #[{ accessFlags := 18, nameIndex := 11, descriptorIndex := 12, attributes := #[] }, { accessFlags := 18, nameIndex := 15, descriptorIndex := 12, attributes := #[] }, { accessFlags := 18, nameIndex := 18, descriptorIndex := 12, attributes := #[] }, { accessFlags := 18, nameIndex := 21, descriptorIndex := 12, attributes := #[] }, { accessFlags := 26, nameIndex := 84, descriptorIndex := 85, attributes := #[] }])
  fields := #[{ name := "operations", type := .long, accessFlags := 18, slot := 0, constantValue := 0 }, { name := "reads", type := .long, accessFlags := 18, slot := 1, constantValue := 0 }, { name := "localMisses", type := .long, accessFlags := 18, slot := 2, constantValue := 0 }, { name := "nanos", type := .long, accessFlags := 18, slot := 3, constantValue := 0 }, { name := "PREFIX", type := (.object "java/lang/String"), accessFlags := 26, slot := 0, constantValue := 0 }]
  methods := #[k3m0, k3m1]
  instanceTypes := #[.long, .long, .long, .long]
  staticTypes := #[(.object "java/lang/String")]
  resolved := Array.replicate 136 none
  statics := none }

def pool4 : Array CpInfo := pool [(1, u "java/lang/Cloneable"), (0, .class_ 1), (0, u "java/lang/Object"), (0, .class_ 3)] 3

/-- java/lang/Cloneable -/
def k4 : Class := { plain "java/lang/Cloneable" (some 0) with
  accessFlags := 1537
  interfaces := #[]
  cf := some (fileOf pool4 2 #[] #[] 1537 4 #[] #[])
  fields := #[]
  methods := #[]
  instanceTypes := #[]
  staticTypes := #[]
  resolved := Array.replicate 8 none
  statics := none }

def pool5 : Array CpInfo := pool [(1, u "java/io/Serializable"), (0, .class_ 1), (0, u "java/lang/Object"), (0, .class_ 3)] 3

/-- java/io/Serializable -/
def k5 : Class := { plain "java/io/Serializable" (some 0) with
  accessFlags := 1537
  interfaces := #[]
  cf := some (fileOf pool5 2 #[] #[] 1537 4 #[] #[])
  fields := #[]
  methods := #[]
  instanceTypes := #[]
  staticTypes := #[]
  resolved := Array.replicate 8 none
  statics := none }

/-- the primitive byte -/
def k6 : Class := { plain "byte" none with kind := .primitive 'B', accessFlags := 0x411 }
/-- [B -/
def k7 : Class := { plain "[B" (some 0) with kind := .array 6 .byte, interfaces := #[4, 5], accessFlags := 1041 }

/-- the primitive int -/
def k8 : Class := { plain "int" none with kind := .primitive 'I', accessFlags := 0x411 }
/-- [I -/
def k9 : Class := { plain "[I" (some 0) with kind := .array 8 .int, interfaces := #[4, 5], accessFlags := 1041 }

def heap : Heap := #[]
def classes : Array Class := #[k0, k1, k2, k3, k4, k5, k6, k7, k8, k9]
def interned : List (Array UInt16 × Addr) := []
def slotsUsed : Nat := 0
def theMethod : MethodId := ⟨1, 1⟩
def args0 : Array Value := #[.int 5, .int 3, .int 2, .long 7, .long 9]
def aboutOver (below : List Frame) : State where
  vm := { classes := classes, interned := interned.toArray }
  heap := heap
  slotsUsed := slotsUsed
  threads := #[{ frames := .invoking theMethod args0 :: below }]
def below0 : List Frame := [.native { method := ⟨0, 0⟩, args := #[] }]
def about1 : State := aboutOver below0
def p0 : Program := .bare "" "" ""
def e0 : Env := launch0.env 0 0 0
theorem w_frames : about1.frames = Frame.invoking theMethod args0 :: below0 := rfl
set_option maxRecDepth 65536 in
theorem w_args : argsFit about1.vm theMethod args0 = true := by decide +kernel
set_option maxRecDepth 65536 in
theorem w_heap : heapFits about1 = true := by decide +kernel
set_option maxRecDepth 65536 in
theorem w_runnable : about1.curStatus? = some .runnable := by decide +kernel
set_option maxRecDepth 65536 in
theorem w_alone : about1.alone = true := by decide +kernel
set_option maxRecDepth 65536 in
theorem w_named : about1.methodNamed? x = some theMethod := by decide +kernel
set_option maxRecDepth 65536 in
theorem w_hears : about1.hears theMethod below0 = true := by decide +kernel
set_option maxRecDepth 65536 in
theorem w_ripe : about1.ripe theMethod args0 below0 = true := by decide +kernel
theorem w_running : about1.status = .running := rfl
set_option maxRecDepth 65536 in
theorem w_room : about1.hasRoom e0.platform room_1 = true :=
  launch0.hasRoom_least _ room_1 (by decide +kernel) (by decide +kernel) (by decide +kernel) (by decide +kernel) (by decide +kernel) (by decide +kernel)
theorem allAtoms_all (ts : List Jvm.Cond) (a : Array Jvm.Value) (st : Jvm.State) : (allAtoms ts).before a st = ts.all (fun c => c.before a st) := by
  induction ts with
  | nil => rfl
  | cons c t ih =>
    show (Jvm.Cond.and c (allAtoms t)).before a st = _
    rw [Jvm.Cond.before_and, ih, List.all_cons]
def words1 : List Jvm.Cond := Jvm.Cond.code x code maxLocals ret :: tables_1
/-- a 'code' word, met by the world's own term for the bytes: nothing is compared byte by byte -/
theorem code_word {y : MethodName} {bytes : ByteArray} {mx : Nat} {rt : Option FieldType} {a : Array Value} {s : State} {m : MethodId} {meth : Method} {c : Code} (h1 : s.methodNamed? y = some m) (h2 : s.vm.method? m = some meth) (h3 : meth.code = some c) (h4 : c.code = bytes)
    (h5 : (c.maxLocals == mx && c.exceptionTable.isEmpty && decide (c.maxStack ≤ mostOperands) && decide (meth.sig.returnType = rt) && !meth.locks && decide (parseMethodDescriptor y.desc = some meth.sig)) = true) : (Jvm.Cond.code y bytes mx rt).before a s = true := by
  simp only [Bool.and_eq_true, beq_iff_eq, Bool.not_eq_true', decide_eq_true_eq] at h5
  obtain ⟨⟨⟨⟨⟨g1, g2⟩, g3⟩, g4⟩, g5⟩, g6⟩ := h5
  simp [Cond.before, Cond.holds, Cond.value, h1, h2, h3, h4, g1, g2, g3, g4, g5, g6]
def isCode : Jvm.Cond → Bool
  | .code _ _ _ _ => true
  | _ => false
theorem all_split {L : List Jvm.Cond} {P : Jvm.Cond → Bool} (h1 : L.all (fun c => isCode c || P c) = true) (h2 : ∀ c ∈ L.filter isCode, P c = true) : L.all P = true := by
  refine List.all_eq_true.mpr fun c hc => ?_
  have h := List.all_eq_true.mp h1 c hc
  rcases Bool.eq_false_or_eq_true (isCode c) with hi | hi
  · exact h2 c (List.mem_filter.mpr ⟨hc, hi⟩)
  · simpa [hi] using h
set_option maxRecDepth 65536 in
theorem w_c0 : (Jvm.Cond.code x code maxLocals ret).before args0 about1 = true := code_word (m := ⟨1, 1⟩) (meth := k1m1) (c := k1c1) (by decide +kernel) rfl rfl rfl (by decide +kernel)
set_option maxRecDepth 65536 in
theorem w_c1 : (Jvm.Cond.code ({ cls := "com/example/duotier/duotier/bench/Tally", name := "<init>", desc := "(JJJJ)V" } : Jvm.MethodName) prog_23_method_1_code (9 : Nat) (Option.none : Option Jvm.ClassFile.FieldType)).before args0 about1 = true := code_word (m := ⟨3, 0⟩) (meth := k3m0) (c := k3c0) (by decide +kernel) rfl rfl rfl (by decide +kernel)
set_option maxRecDepth 65536 in
theorem w_c2 : (Jvm.Cond.code ({ cls := "java/lang/Record", name := "<init>", desc := "()V" } : Jvm.MethodName) jdk_30_method_1_code (1 : Nat) (Option.none : Option Jvm.ClassFile.FieldType)).before args0 about1 = true := code_word (m := ⟨2, 0⟩) (meth := k2m0) (c := k2c0) (by decide +kernel) rfl rfl rfl (by decide +kernel)
set_option maxRecDepth 65536 in
theorem w_c3 : (Jvm.Cond.code ({ cls := "java/lang/Object", name := "<init>", desc := "()V" } : Jvm.MethodName) object_method_1_code (1 : Nat) (Option.none : Option Jvm.ClassFile.FieldType)).before args0 about1 = true := code_word (m := ⟨0, 0⟩) (meth := k0m0) (c := k0c0) (by decide +kernel) rfl rfl rfl (by decide +kernel)
set_option maxRecDepth 65536 in
theorem w_c4 : (Jvm.Cond.code ({ cls := "com/example/duotier/duotier/bench/Tally", name := "operationsPerSecond", desc := "()D" } : Jvm.MethodName) prog_23_method_4_code (1 : Nat) (Option.some Jvm.ClassFile.FieldType.double)).before args0 about1 = true := code_word (m := ⟨3, 1⟩) (meth := k3m1) (c := k3c1) (by decide +kernel) rfl rfl rfl (by decide +kernel)
def codes1 : List Jvm.Cond := [Jvm.Cond.code x code maxLocals ret, Jvm.Cond.code ({ cls := "com/example/duotier/duotier/bench/Tally", name := "<init>", desc := "(JJJJ)V" } : Jvm.MethodName) prog_23_method_1_code (9 : Nat) (Option.none : Option Jvm.ClassFile.FieldType), Jvm.Cond.code ({ cls := "java/lang/Record", name := "<init>", desc := "()V" } : Jvm.MethodName) jdk_30_method_1_code (1 : Nat) (Option.none : Option Jvm.ClassFile.FieldType), Jvm.Cond.code ({ cls := "java/lang/Object", name := "<init>", desc := "()V" } : Jvm.MethodName) object_method_1_code (1 : Nat) (Option.none : Option Jvm.ClassFile.FieldType), Jvm.Cond.code ({ cls := "com/example/duotier/duotier/bench/Tally", name := "operationsPerSecond", desc := "()D" } : Jvm.MethodName) prog_23_method_4_code (1 : Nat) (Option.some Jvm.ClassFile.FieldType.double)]
set_option maxRecDepth 65536 in
theorem codes_eq : words1.filter isCode = codes1 := rfl
theorem w_codes : ∀ c ∈ words1.filter isCode, c.before args0 about1 = true := by
  rw [codes_eq]
  intro c hc
  simp only [codes1, List.mem_cons, List.not_mem_nil, or_false] at hc
  rcases hc with rfl | rfl | rfl | rfl | rfl
  · exact w_c0
  · exact w_c1
  · exact w_c2
  · exact w_c3
  · exact w_c4
set_option maxRecDepth 65536 in
theorem w_t1 : (words1.take 24).all (fun c => isCode c || c.before args0 about1) = true := by decide +kernel
set_option maxRecDepth 65536 in
theorem w_t2 : (words1.drop 24).all (fun c => isCode c || c.before args0 about1) = true := by decide +kernel
theorem w_tables : (allAtoms (Jvm.Cond.code x code maxLocals ret :: tables_1)).before args0 about1 = true := by
  rw [allAtoms_all]
  show words1.all (fun c => c.before args0 about1) = true
  refine all_split ?_ w_codes
  rw [← List.take_append_drop 24 words1, List.all_append, w_t1, w_t2]
  rfl
set_option maxRecDepth 65536 in
theorem w_case : (Jvm.Cond.and given_1 narrow_1).before args0 about1 = true := by decide +kernel
theorem w_applies : (headSpec (Jvm.Cond.code x code maxLocals ret :: tables_1) room_1).applies x e0.platform about1 = true :=
  (Spec.applies_iff w_frames).mpr ⟨w_running, w_runnable, w_alone, w_named, w_hears, w_ripe, w_room, w_tables⟩
theorem atStart : AtStart classFile x code maxLocals ret World_1 tables_1 room_1 Calls_1 rest_1 Pre_1 launch0 p0 e0 about1 theMethod args0 below0 :=
  ⟨lists_1, trivial, launch0.admits_env _ _ _, launch0.least_env, fairChoices_fair.cas, fairChoices_fair.clock, w_frames, w_args, w_heap, w_applies, trivial, trivial, w_case⟩
end start1
theorem witness_1 : WitnessClaimed_1 := ⟨start1.p0, start1.e0, start1.about1, start1.theMethod, start1.args0, start1.below0, start1.atStart⟩
end Jvm.Pilot.@@N@@
