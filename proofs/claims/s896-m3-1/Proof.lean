import JvmDerived
import JvmDerived.Pilot.@@N@@Statement
import JvmDerived.Pilot.@@N@@Code
set_option linter.unusedVariables false
set_option linter.unusedSimpArgs false
@@BLOCK:NumsL.lean.txt@@
namespace Jvm.RoadKit
open Sem ClassFile Op Lib Jvm.Stand Jvm.Free Jvm.LawKit
section New
variable {p : Program} {l : Launch} {e : Env} {R : Room} {s : State} {m : MethodId} {args : Array Value} {below : List Frame} {meth : Method} {c : Code} {T : State} {locs : List Loc} {cells slots : Nat}
theorem retI (X : Stand p l e R s m args below meth c T locs cells slots) (hx : p.tables.exec = Jvm.exec) {pc : Nat} {Ls : Array Slot} {z : Int32} {rest : List Value} (hret : meth.sig.returnType = some .int) (hd : decode c.code pc = .ok (.ireturn, 1)) {fs : List Frame}
    (hl : ∀ (f : JFrame) (acts : List Action), f.method = m → f.locked = none → f.entered = [] → (doReturn e (T.setTop f) acts (some (.int z))).1 = T.setFrames fs) : Steps p.tables e below (T.setTop (mkF m pc Ls (.int z :: rest))) (T.setFrames fs) := by
  have hm' : T.vm.method? m = some meth := X.method'
  have hn : narrow .int (.int z) = .int z := rfl
  show Steps p.tables e below (T.setTop { method := m, pc := pc, locals := Ls, stack := _ :: rest, locked := none }) _
  jvm_step X.here [X.here.top, hx, hd, hm', hret, hn]
  first | (intro acts; rw [hl _ acts rfl rfl rfl]) | rw [hl _ _ rfl rfl rfl]
  exact Steps.refl _
theorem retD (X : Stand p l e R s m args below meth c T locs cells slots) (hx : p.tables.exec = Jvm.exec) {pc : Nat} {Ls : Array Slot} {z : UInt64} {rest : List Value} (hret : meth.sig.returnType = some .double) (hd : decode c.code pc = .ok (.dreturn, 1)) {fs : List Frame}
    (hl : ∀ (f : JFrame) (acts : List Action), f.method = m → f.locked = none → f.entered = [] → (doReturn e (T.setTop f) acts (some (.double z))).1 = T.setFrames fs) : Steps p.tables e below (T.setTop (mkF m pc Ls (.double z :: rest))) (T.setFrames fs) := by
  have hm' : T.vm.method? m = some meth := X.method'
  have hn : narrow .double (.double z) = .double z := rfl
  show Steps p.tables e below (T.setTop { method := m, pc := pc, locals := Ls, stack := _ :: rest, locked := none }) _
  jvm_step X.here [X.here.top, hx, hd, hm', hret, hn]
  first | (intro acts; rw [hl _ acts rfl rfl rfl]) | rw [hl _ _ rfl rfl rfl]
  exact Steps.refl _
end New
end Jvm.RoadKit
namespace Jvm.OwnFP
open Sem ClassFile Op Lib
theorem rem32_eq (x y : Int32) : x - x / y * y = x % y := Int32.toInt_inj.mp (by
  have a := (x % y).toInt_lt; have b := (x % y).le_toInt
  rw [Int32.toInt_mod] at a b ⊢
  rw [Int32.toInt_sub, Int32.toInt_mul, Int32.toInt_div, Int.bmod_mul_bmod, Int.sub_bmod_bmod, Int.mul_comm, ← Int.tmod_def]
  exact Jvm.Kit.bmod32 b a)
theorem rem64_eq (x y : Int64) : x - x / y * y = x % y := Int64.toInt_inj.mp (by rw [Jvm.Kit.i64_rem, Int64.toInt_mod])
theorem iremM {tb : Tables} [Ours tb] {e : Env} {below : List Frame} {T target : State} {m : MethodId} {c : Code} {g : JFrame} (h : At T m c below) (hx : tb.exec = Jvm.exec) (hg : g.method = m) {x y : Int32} {rest : List Value} (hd : decode c.code g.pc = .ok (.irem, 1)) (hs : g.stack = .int y :: .int x :: rest) (hy : y ≠ 0)
    (hr : Steps tb e below (T.setTop { g with pc := g.pc + 1, stack := .int (x % y) :: rest }) target) : Steps tb e below (T.setTop g) target := Jvm.Free.XS.irem h hx hg hd hs hy (by rw [rem32_eq]; exact hr)
theorem lremM {tb : Tables} [Ours tb] {e : Env} {below : List Frame} {T target : State} {m : MethodId} {c : Code} {g : JFrame} (h : At T m c below) (hx : tb.exec = Jvm.exec) (hg : g.method = m) {x y : Int64} {rest : List Value} (hd : decode c.code g.pc = .ok (.lrem, 1)) (hs : g.stack = .long y :: .long x :: rest) (hy : y ≠ 0)
    (hr : Steps tb e below (T.setTop { g with pc := g.pc + 1, stack := .long (x % y) :: rest }) target) : Steps tb e below (T.setTop g) target := Jvm.Free.XS.lrem h hx hg hd hs hy (by rw [rem64_eq]; exact hr)
end Jvm.OwnFP
namespace Jvm.OwnFP
open Jvm.FP.Core
/-! doubles by their values in units of 2^-1074: rounding is monotone, numbers of the format round to themselves -/
def zv (a : UInt64) : Int := zval b64 (val64 a)
/-- z (in units) is a number of the format -/
def Rep (z : Int) : Prop := ∃ V : Datum, Jvm.FP.Core.fits b64 V ∧ V ≠ .nan ∧ zval b64 V = z
abbrev O : Int := (one64 : Int)
theorem mmmc (a b c d : Int) : a * b * (c * d) = a * c * (b * d) := by rw [Int.mul_assoc, Int.mul_assoc, Int.mul_left_comm b]
theorem O_pos : 0 < O := by have := one64_pos; show (0 : Int) < (one64 : Int); omega
theorem qmax_b64 : b64.qmax = 971 := by decide +kernel
theorem signed_nat (n : Int) : signed (decide (n < 0)) n.natAbs = n := by
  unfold signed
  by_cases h : n < 0
  · simp only [h, decide_true, if_true]; omega
  · simp only [h, decide_false, Bool.false_eq_true, if_false]; omega
theorem rep_lt {n : Int} (k : Nat) (hn : n.natAbs < 9007199254740992) (hk : k ≤ 2000) : Rep (n * ((2 ^ k : Nat) : Int)) := by
  obtain ⟨c', q', h1, h2⟩ := round_exact good_b64 (decide (n < 0)) (c := n.natAbs) (q := (k : Int) - 1074) (Nat.lt_of_lt_of_le hn (by decide +kernel)) (by rw [qmin_b64]; omega) (by rw [qmax_b64]; omega)
  refine ⟨round b64 (.fin (decide (n < 0)) n.natAbs ((k : Int) - 1074)), round_fits good_b64 _, ?_, ?_⟩
  · rw [h1]; exact Datum.noConfusion
  · rw [h1]
    show signed (decide (n < 0)) (inUnits c' q' b64.qmin) = _
    rw [h2]
    unfold inUnits
    rw [qmin_b64, signed_mul, signed_nat, show ((k : Int) - 1074 - -1074).toNat = k by omega]
theorem rep_le {n : Int} (k : Nat) (hn : n.natAbs ≤ 9007199254740992) (hk : k ≤ 1999) : Rep (n * ((2 ^ k : Nat) : Int)) := by
  by_cases h : n.natAbs < 9007199254740992
  · exact rep_lt k h (by omega)
  · have h2 : n = 9007199254740992 ∨ n = -9007199254740992 := by omega
    have e : ∀ m : Int, (m * 2) * ((2 ^ k : Nat) : Int) = m * ((2 ^ (k + 1) : Nat) : Int) := fun m => by
      rw [Nat.pow_succ, Int.natCast_mul, Int.mul_assoc, Int.mul_comm 2]; rfl
    rcases h2 with rfl | rfl
    · rw [show (9007199254740992 : Int) = 4503599627370496 * 2 by decide, e]; exact rep_lt (k + 1) (by decide) (by omega)
    · rw [show (-9007199254740992 : Int) = -4503599627370496 * 2 by decide, e]; exact rep_lt (k + 1) (by decide) (by omega)
theorem pow_split (k j : Nat) : ((2 ^ (k + j) : Nat) : Int) = ((2 ^ k : Nat) : Int) * ((2 ^ j : Nat) : Int) := by rw [Nat.pow_add, Int.natCast_mul]
theorem pow_O (j : Nat) (hj : j ≤ 1074) : O = ((2 ^ j : Nat) : Int) * ((2 ^ (1074 - j) : Nat) : Int) := by
  rw [← pow_split, show j + (1074 - j) = 1074 by omega]; rfl
/-- a whole number -/
theorem rep_int {n : Int} (hn : n.natAbs ≤ 9007199254740992) : Rep (n * O) := by
  have := rep_le (n := n) 1074 hn (by decide)
  exact this
/-- n halves .. : n / 2^j -/
theorem rep_frac {n : Int} (j : Nat) (hj : j ≤ 1074) {z : Int} (hn : n.natAbs ≤ 9007199254740992) (h : z * ((2 ^ j : Nat) : Int) = n * O) : Rep z := by
  have h1 := rep_le (n := n) (1074 - j) hn (by omega)
  have hp : (0 : Int) < ((2 ^ j : Nat) : Int) := Int.natCast_pos.mpr (Nat.two_pow_pos j)
  have e : z = n * ((2 ^ (1074 - j) : Nat) : Int) := by
    refine Int.eq_of_mul_eq_mul_right (Int.ne_of_gt hp) ?_
    rw [h, pow_O j hj, Int.mul_assoc, Int.mul_comm ((2 ^ (1074 - j) : Nat) : Int)]
  rw [e]; exact h1
theorem Rep.neg {z : Int} (h : Rep z) : Rep (-z) := by
  obtain ⟨V, h1, h2, rfl⟩ := h
  exact ⟨negate V, negate_fits h1, negate_ne_nan h2, zval_negate b64 V⟩
theorem rep_zv {a : UInt64} (h : val64 a ≠ .nan) : Rep (zv a) := ⟨val64 a, val64_fits a, h, rfl⟩
theorem fin_of {a : UInt64} (h : DFin a) : ∃ s c q, val64 a = .fin s c q ∧ Jvm.FP.Core.fits b64 (.fin s c q) := by
  obtain ⟨s, c, q, h⟩ := h
  exact ⟨s, c, q, h, h ▸ val64_fits a⟩
/-! whole numbers -/
theorem l2d_le {n : Int64} {z : Int} (hz : Rep z) (h : n.toInt * O ≤ z) : zv (Jvm.FP.l2d n) ≤ z := by
  obtain ⟨V, fV, nV, rfl⟩ := hz
  show zval b64 (val64 (l2d n)) ≤ _
  rw [val64_l2d]
  refine zval_round_le good_b64 fV nV (e0 := b64.qmin) (Int.le_refl _) (by decide +kernel) ?_
  rw [ofInt_units b64, pow_qmin64, Int.sub_self]
  show _ ≤ _ * ((1 : Nat) : Int)
  rw [show ((1 : Nat) : Int) = 1 from rfl, Int.mul_one]; exact h
theorem l2d_ge {n : Int64} {z : Int} (hz : Rep z) (h : z ≤ n.toInt * O) : z ≤ zv (Jvm.FP.l2d n) := by
  obtain ⟨V, fV, nV, rfl⟩ := hz
  show _ ≤ zval b64 (val64 (l2d n))
  rw [val64_l2d]
  refine zval_round_ge good_b64 fV nV (e0 := b64.qmin) (Int.le_refl _) (by decide +kernel) ?_
  rw [ofInt_units b64, pow_qmin64, Int.sub_self]
  show _ * ((1 : Nat) : Int) ≤ _
  rw [show ((1 : Nat) : Int) = 1 from rfl, Int.mul_one]; exact h
theorem l2d_eq {n : Int64} (h : n.toInt.natAbs ≤ 9007199254740992) : zv (Jvm.FP.l2d n) = n.toInt * O :=
  Int.le_antisymm (l2d_le (rep_int h) (Int.le_refl _)) (l2d_ge (rep_int h) (Int.le_refl _))
theorem i2d_eq (n : Int32) : zv (Jvm.FP.i2d n) = n.toInt * O := DInt_zval (i2d_int n)
theorem l2dF (n : Int64) : DFin (Jvm.FP.l2d n) := l2d_fin n
theorem i2dF (n : Int32) : DFin (Jvm.FP.i2d n) := i2d_fin n
/-! products -/
theorem mul_le {a b : UInt64} {z : Int} (ha : DFin a) (hb : DFin b) (hz : Rep z) (h : zv a * zv b ≤ z * O) : zv (Jvm.FP.dmul a b) ≤ z := by
  obtain ⟨V, fV, nV, rfl⟩ := hz
  obtain ⟨s, c, q, ea, fa⟩ := fin_of ha
  obtain ⟨t, d, r, eb, fb⟩ := fin_of hb
  unfold zv at h ⊢
  rw [ea, eb] at h
  show zval b64 (val64 (dmul a b)) ≤ _
  rw [val64_dmul, ea, eb]
  obtain ⟨h1, h2, h3⟩ := product_units fa fb
  rw [h1]
  refine zval_round_le good_b64 fV nV (e0 := 2 * b64.qmin) (by rw [qmin_b64]; decide) h2 ?_
  rw [h3, signed_xor, show (b64.qmin - 2 * b64.qmin).toNat = (-b64.qmin).toNat by omega, pow_qmin64]
  exact h
theorem mul_ge {a b : UInt64} {z : Int} (ha : DFin a) (hb : DFin b) (hz : Rep z) (h : z * O ≤ zv a * zv b) : z ≤ zv (Jvm.FP.dmul a b) := by
  obtain ⟨V, fV, nV, rfl⟩ := hz
  obtain ⟨s, c, q, ea, fa⟩ := fin_of ha
  obtain ⟨t, d, r, eb, fb⟩ := fin_of hb
  unfold zv at h ⊢
  rw [ea, eb] at h
  show _ ≤ zval b64 (val64 (dmul a b))
  rw [val64_dmul, ea, eb]
  obtain ⟨h1, h2, h3⟩ := product_units fa fb
  rw [h1]
  refine zval_round_ge good_b64 fV nV (e0 := 2 * b64.qmin) (by rw [qmin_b64]; decide) h2 ?_
  rw [h3, signed_xor, show (b64.qmin - 2 * b64.qmin).toNat = (-b64.qmin).toNat by omega, pow_qmin64]
  exact h
theorem mul_eq {a b : UInt64} {z : Int} (ha : DFin a) (hb : DFin b) (hz : Rep z) (h : zv a * zv b = z * O) : zv (Jvm.FP.dmul a b) = z :=
  Int.le_antisymm (mul_le ha hb hz (Int.le_of_eq h)) (mul_ge ha hb hz (Int.le_of_eq h.symm))
/-! sums -/
theorem add_le {a b : UInt64} {z : Int} (ha : DFin a) (hb : DFin b) (hz : Rep z) (h : zv a + zv b ≤ z) : zv (Jvm.FP.dadd a b) ≤ z := by
  obtain ⟨V, fV, nV, rfl⟩ := hz
  show zval b64 (val64 (dadd a b)) ≤ _
  rw [val64_dadd]
  exact sum_le good_b64 ha hb (val64_fits a) (val64_fits b) fV nV h
theorem add_ge {a b : UInt64} {z : Int} (ha : DFin a) (hb : DFin b) (hz : Rep z) (h : z ≤ zv a + zv b) : z ≤ zv (Jvm.FP.dadd a b) := by
  obtain ⟨V, fV, nV, rfl⟩ := hz
  show _ ≤ zval b64 (val64 (dadd a b))
  rw [val64_dadd]
  exact sum_ge good_b64 ha hb (val64_fits a) (val64_fits b) fV nV h
theorem add_eq {a b : UInt64} {z : Int} (ha : DFin a) (hb : DFin b) (hz : Rep z) (h : zv a + zv b = z) : zv (Jvm.FP.dadd a b) = z :=
  Int.le_antisymm (add_le ha hb hz (Int.le_of_eq h)) (add_ge ha hb hz (Int.le_of_eq h.symm))
theorem fin_negate {b : UInt64} (hb : DFin b) : ∃ s c q, negate (val64 b) = .fin s c q := by
  obtain ⟨s, c, q, h⟩ := hb
  rw [h]; exact ⟨_, _, _, rfl⟩
theorem sub_le {a b : UInt64} {z : Int} (ha : DFin a) (hb : DFin b) (hz : Rep z) (h : zv a - zv b ≤ z) : zv (Jvm.FP.dsub a b) ≤ z := by
  obtain ⟨V, fV, nV, rfl⟩ := hz
  show zval b64 (val64 (dsub a b)) ≤ _
  rw [val64_dsub]
  refine sum_le good_b64 ha (fin_negate hb) (val64_fits a) (negate_fits (val64_fits b)) fV nV ?_
  rw [zval_negate]; unfold zv at h; omega
theorem sub_ge {a b : UInt64} {z : Int} (ha : DFin a) (hb : DFin b) (hz : Rep z) (h : z ≤ zv a - zv b) : z ≤ zv (Jvm.FP.dsub a b) := by
  obtain ⟨V, fV, nV, rfl⟩ := hz
  show _ ≤ zval b64 (val64 (dsub a b))
  rw [val64_dsub]
  refine sum_ge good_b64 ha (fin_negate hb) (val64_fits a) (negate_fits (val64_fits b)) fV nV ?_
  rw [zval_negate]; unfold zv at h; omega
theorem sub_eq {a b : UInt64} {z : Int} (ha : DFin a) (hb : DFin b) (hz : Rep z) (h : zv a - zv b = z) : zv (Jvm.FP.dsub a b) = z :=
  Int.le_antisymm (sub_le ha hb hz (Int.le_of_eq h)) (sub_ge ha hb hz (Int.le_of_eq h.symm))
/-! quotients -/
theorem ratio_le {s : Bool} {A B : Nat} {e e0 : Int} {V : Datum} (hB : 0 < B) (hV : Jvm.FP.Core.fits b64 V) (hn : V ≠ .nan) (h0 : e0 ≤ b64.qmin) (h0e : e0 ≤ e)
    (h : signed s (inUnits A e e0) ≤ zval b64 V * ((2 ^ (b64.qmin - e0).toNat * B : Nat) : Int)) : zval b64 (roundRatio b64 s A B e) ≤ zval b64 V := by
  have hle := zmag_roundRatio_le good_b64 (s := s) (A := A) hB hV hn h0 h0e
  have hge := zmag_roundRatio_ge good_b64 (s := s) (A := A) hB hV h0 h0e
  have hP : 0 < 2 ^ (b64.qmin - e0).toNat * B := Nat.mul_pos (Nat.two_pow_pos _) hB
  rw [Nat.mul_assoc] at hle hge
  unfold zval at h ⊢
  rw [sgn_roundRatio]
  rw [← signed_mul] at h
  have hz : zmag b64 V * (2 ^ (b64.qmin - e0).toNat * B) = 0 → zmag b64 V = 0 := by
    intro h
    rcases Nat.mul_eq_zero.mp h with h | h <;> omega
  generalize zmag b64 V * (2 ^ (b64.qmin - e0).toNat * B) = vP at *
  generalize sgn V = t at *
  cases s <;> cases t <;> simp only [signed, if_true, Bool.false_eq_true, if_false] at h ⊢
  · have := hle (by omega); omega
  · have := hle (by omega); have := hz (by omega); omega
  · omega
  · have := hge (by omega); omega
theorem signed_flip (s : Bool) (m : Nat) : signed (!s) m = -signed s m := by cases s <;> simp [signed]
theorem ratio_ge {s : Bool} {A B : Nat} {e e0 : Int} {V : Datum} (hB : 0 < B) (hV : Jvm.FP.Core.fits b64 V) (hn : V ≠ .nan) (h0 : e0 ≤ b64.qmin) (h0e : e0 ≤ e)
    (h : zval b64 V * ((2 ^ (b64.qmin - e0).toNat * B : Nat) : Int) ≤ signed s (inUnits A e e0)) : zval b64 V ≤ zval b64 (roundRatio b64 s A B e) := by
  have h1 := ratio_le (s := !s) (A := A) (e := e) (V := negate V) hB (negate_fits hV) (negate_ne_nan hn) h0 h0e (by
    rw [zval_negate, Int.neg_mul, signed_flip]; omega)
  rw [zval_negate, ← negate_roundRatio, zval_negate] at h1
  omega
theorem zval_fin (s : Bool) (c : Nat) (q : Int) : zval b64 (.fin s c q) = signed s c * ((2 ^ (q - b64.qmin).toNat : Nat) : Int) := by
  show signed s (inUnits c q b64.qmin) = _
  unfold inUnits; rw [signed_mul]
theorem pow_mul_eq {a b c d : Nat} (h : a + b = c + d) : (2 ^ a * 2 ^ b : Nat) = 2 ^ c * 2 ^ d := by rw [← Nat.pow_add, ← Nat.pow_add, h]
/-- how c·2^q / (d·2^r) ≤ z reads in units -/
theorem div_units {s : Bool} {c d : Nat} {q r : Int} (hq : b64.qmin ≤ q) (hr : b64.qmin ≤ r) :
    ∃ (x y : Nat), (signed s (inUnits c (q - r) (min b64.qmin (q - r)))) * ((2 ^ x : Nat) : Int) = (signed s c * ((2 ^ (q - b64.qmin).toNat : Nat) : Int)) * O * ((2 ^ y : Nat) : Int) ∧
      ∀ z : Int, (z * ((2 ^ (b64.qmin - min b64.qmin (q - r)).toNat * d : Nat) : Int)) * ((2 ^ x : Nat) : Int) = z * ((d : Int) * ((2 ^ (r - b64.qmin).toNat : Nat) : Int)) * ((2 ^ y : Nat) : Int) := by
  have hO : O = ((2 ^ (-b64.qmin).toNat : Nat) : Int) := by rw [pow_qmin64]
  have hqm : b64.qmin ≤ 0 := by rw [qmin_b64]; decide
  refine ⟨(r - 2 * b64.qmin + min b64.qmin (q - r)).toNat, (-(r - 2 * b64.qmin + min b64.qmin (q - r))).toNat, ?_, fun z => ?_⟩
  · unfold inUnits
    rw [signed_mul, hO]
    have e : (q - r - min b64.qmin (q - r)).toNat + (r - 2 * b64.qmin + min b64.qmin (q - r)).toNat = ((q - b64.qmin).toNat + (-b64.qmin).toNat) + (-(r - 2 * b64.qmin + min b64.qmin (q - r))).toNat := by omega
    have e2 := pow_mul_eq e
    rw [Nat.pow_add _ (q - b64.qmin).toNat] at e2
    have e3 : (((2 ^ (q - r - min b64.qmin (q - r)).toNat : Nat) : Int)) * ((2 ^ (r - 2 * b64.qmin + min b64.qmin (q - r)).toNat : Nat) : Int) = ((2 ^ (q - b64.qmin).toNat : Nat) : Int) * ((2 ^ (-b64.qmin).toNat : Nat) : Int) * ((2 ^ (-(r - 2 * b64.qmin + min b64.qmin (q - r))).toNat : Nat) : Int) := by
      rw [← Int.natCast_mul, ← Int.natCast_mul, ← Int.natCast_mul, e2]
    rw [Int.mul_assoc, e3]; simp only [Int.mul_assoc]
  · have e : (b64.qmin - min b64.qmin (q - r)).toNat + (r - 2 * b64.qmin + min b64.qmin (q - r)).toNat = (r - b64.qmin).toNat + (-(r - 2 * b64.qmin + min b64.qmin (q - r))).toNat := by omega
    have e2 := pow_mul_eq e
    have e3 : ((2 ^ (b64.qmin - min b64.qmin (q - r)).toNat * d : Nat) : Int) * ((2 ^ (r - 2 * b64.qmin + min b64.qmin (q - r)).toNat : Nat) : Int) = ((d : Int) * ((2 ^ (r - b64.qmin).toNat : Nat) : Int)) * ((2 ^ (-(r - 2 * b64.qmin + min b64.qmin (q - r))).toNat : Nat) : Int) := by
      rw [← Int.natCast_mul, ← Int.natCast_mul, ← Int.natCast_mul, Nat.mul_right_comm, e2, Nat.mul_comm d, Nat.mul_right_comm]
    rw [Int.mul_assoc, e3]; simp only [Int.mul_assoc]
theorem pos_fin {s : Bool} {c : Nat} {q : Int} (h : 0 < signed s c * ((2 ^ (q - b64.qmin).toNat : Nat) : Int)) : s = false ∧ 0 < c := by
  have hp : (0 : Int) < ((2 ^ (q - b64.qmin).toNat : Nat) : Int) := Int.natCast_pos.mpr (Nat.two_pow_pos _)
  have h1 : 0 < signed s c := by
    refine Int.lt_of_not_ge fun hle => ?_
    have := Int.mul_le_mul_of_nonneg_right hle (Int.le_of_lt hp)
    omega
  cases s
  · exact ⟨rfl, by simp only [signed, Bool.false_eq_true, if_false] at h1; omega⟩
  · simp only [signed, if_true] at h1; omega
theorem div_parts {a b : UInt64} (ha : DFin a) (hb : DFin b) (hp : 0 < zv b) : ∃ s c q d r, val64 (Jvm.FP.ddiv a b) = roundRatio b64 s c d (q - r) ∧ 0 < d ∧ b64.qmin ≤ q ∧ b64.qmin ≤ r ∧
    zv a = signed s c * ((2 ^ (q - b64.qmin).toNat : Nat) : Int) ∧ zv b = (d : Int) * ((2 ^ (r - b64.qmin).toNat : Nat) : Int) := by
  obtain ⟨s, c, q, ea, fa⟩ := fin_of ha
  obtain ⟨t, d, r, eb, fb⟩ := fin_of hb
  unfold zv at hp ⊢
  rw [eb, zval_fin] at hp
  obtain ⟨rfl, hd⟩ := pos_fin hp
  refine ⟨s, c, q, d, r, ?_, hd, fa.2.1, fb.2.1, ?_, ?_⟩
  · show val64 (ddiv a b) = _
    rw [val64_ddiv, ea, eb]
    show (if d = 0 then _ else roundRatio b64 (s != false) c d (q - r)) = _
    rw [if_neg (by omega)]
    cases s <;> rfl
  · rw [ea, zval_fin]
  · rw [eb, zval_fin]; rfl
theorem div_le {a b : UInt64} {z : Int} (ha : DFin a) (hb : DFin b) (hp : 0 < zv b) (hz : Rep z) (h : zv a * O ≤ z * zv b) : zv (Jvm.FP.ddiv a b) ≤ z := by
  obtain ⟨s, c, q, d, r, e1, hd, hq, hr, e2, e3⟩ := div_parts ha hb hp
  obtain ⟨V, fV, nV, rfl⟩ := hz
  unfold zv at h ⊢
  rw [e1]
  refine ratio_le hd fV nV (e0 := min b64.qmin (q - r)) (by omega) (by omega) ?_
  obtain ⟨x, y, u1, u2⟩ := div_units (s := s) (c := c) (d := d) hq hr
  refine Int.le_of_mul_le_mul_right (a := ((2 ^ x : Nat) : Int)) ?_ (Int.natCast_pos.mpr (Nat.two_pow_pos x))
  rw [u1, u2]
  refine Int.mul_le_mul_of_nonneg_right ?_ (Int.natCast_nonneg _)
  rw [← e2, ← e3]; exact h
theorem div_ge {a b : UInt64} {z : Int} (ha : DFin a) (hb : DFin b) (hp : 0 < zv b) (hz : Rep z) (h : z * zv b ≤ zv a * O) : z ≤ zv (Jvm.FP.ddiv a b) := by
  obtain ⟨s, c, q, d, r, e1, hd, hq, hr, e2, e3⟩ := div_parts ha hb hp
  obtain ⟨V, fV, nV, rfl⟩ := hz
  unfold zv at h ⊢
  rw [e1]
  refine ratio_ge hd fV nV (e0 := min b64.qmin (q - r)) (by omega) (by omega) ?_
  obtain ⟨x, y, u1, u2⟩ := div_units (s := s) (c := c) (d := d) hq hr
  refine Int.le_of_mul_le_mul_right (a := ((2 ^ x : Nat) : Int)) ?_ (Int.natCast_pos.mpr (Nat.two_pow_pos x))
  rw [u1, u2]
  refine Int.mul_le_mul_of_nonneg_right ?_ (Int.natCast_nonneg _)
  rw [← e2, ← e3]; exact h
theorem div_eq {a b : UInt64} {z : Int} (ha : DFin a) (hb : DFin b) (hp : 0 < zv b) (hz : Rep z) (h : zv a * O = z * zv b) : zv (Jvm.FP.ddiv a b) = z :=
  Int.le_antisymm (div_le ha hb hp hz (Int.le_of_eq h)) (div_ge ha hb hp hz (Int.le_of_eq h.symm))
/-! no NaNs, finite results -/
theorem nn_fin {a : UInt64} (h : DFin a) : Jvm.Free.Fl.NoNaN64 a := Jvm.Free.Fl.val64_no.mpr h.ne_nan
theorem nn_mul {a b : UInt64} (ha : DFin a) (hb : DFin b) : Jvm.Free.Fl.NoNaN64 (Jvm.FP.dmul a b) := Jvm.Free.Fl.noNaN64_no.mpr (dmul_out ha hb)
theorem nn_add {a b : UInt64} (ha : DFin a) (hb : DFin b) : Jvm.Free.Fl.NoNaN64 (Jvm.FP.dadd a b) := Jvm.Free.Fl.noNaN64_no.mpr (dadd_out ha.notNaN hb)
theorem nn_sub {a b : UInt64} (ha : DFin a) (hb : DFin b) : Jvm.Free.Fl.NoNaN64 (Jvm.FP.dsub a b) := Jvm.Free.Fl.noNaN64_no.mpr (dsub_out ha.notNaN hb)
theorem zv_zero {a : UInt64} (h : DZero a) : zv a = 0 := h.zval
theorem nn_div {a b : UInt64} (ha : DFin a) (hb : DFin b) (hz : zv b ≠ 0) : Jvm.Free.Fl.NoNaN64 (Jvm.FP.ddiv a b) := Jvm.Free.Fl.noNaN64_no.mpr (ddiv_out ha.notNaN hb fun q => hz (zv_zero q))
theorem nn_ne {a : UInt64} (h : Jvm.Free.Fl.NoNaN64 a) : val64 a ≠ .nan := Jvm.Free.Fl.val64_no.mp h
theorem top_big : 18446744073709551616 * one64 < b64.tails * 2 ^ (b64.exps - 2) := by decide +kernel
theorem zmag_zv (a : UInt64) : ((zmag b64 (val64 a) : Nat) : Int) = zv a ∨ ((zmag b64 (val64 a) : Nat) : Int) = -zv a := by
  unfold zv zval
  cases sgn (val64 a) <;> simp [signed]
theorem fin_of_zv {a : UInt64} (h : Jvm.Free.Fl.NoNaN64 a) (h1 : -(18446744073709551616 * O) ≤ zv a) (h2 : zv a ≤ 18446744073709551616 * O) : DFin a := by
  have hn := nn_ne h
  cases e : val64 a with
  | nan => exact absurd e hn
  | fin s c q => exact ⟨s, c, q, e⟩
  | inf s =>
    exfalso
    have hz : zmag b64 (val64 a) = b64.tails * 2 ^ (b64.exps - 2) := by rw [e]; rfl
    have ht := top_big
    have hc := zmag_zv a
    rw [hz] at hc
    generalize b64.tails * 2 ^ (b64.exps - 2) = T at *
    unfold O at h1 h2
    rcases hc with hc | hc <;> omega
/-! comparisons -/
theorem cmp_zv {a b : UInt64} (ha : Jvm.Free.Fl.NoNaN64 a) (hb : Jvm.Free.Fl.NoNaN64 b) : Jvm.FP.dcmp a b = some (compare (zv a) (zv b)) := dcmp_zval (nn_ne ha) (nn_ne hb)
theorem compare_if (x y : Int) : compare x y = if x < y then .lt else if x = y then .eq else .gt := rfl
open Jvm.Op in
theorem if_lt {a b : UInt64} (ha : Jvm.Free.Fl.NoNaN64 a) (hb : Jvm.Free.Fl.NoNaN64 b) (o : Jvm.ClassFile.CmpOp) : ifCond.holds .lt (cmpValue (Jvm.FP.dcmp a b) o) = decide (zv a < zv b) := by
  rw [cmp_zv ha hb, compare_if]; by_cases h1 : zv a < zv b
  · simp only [h1, if_true]; cases o <;> decide
  · by_cases h2 : zv a = zv b
    · simp only [h1, h2, Int.lt_irrefl, if_true, if_false]; cases o <;> decide
    · simp only [h1, h2, if_false]; cases o <;> decide
open Jvm.Op in
theorem if_ge {a b : UInt64} (ha : Jvm.Free.Fl.NoNaN64 a) (hb : Jvm.Free.Fl.NoNaN64 b) (o : Jvm.ClassFile.CmpOp) : ifCond.holds .ge (cmpValue (Jvm.FP.dcmp a b) o) = decide (zv b ≤ zv a) := by
  rw [cmp_zv ha hb, compare_if]; by_cases h1 : zv a < zv b
  · have : ¬ zv b ≤ zv a := by omega
    simp only [h1, this, if_true]; cases o <;> decide
  · have : zv b ≤ zv a := by omega
    by_cases h2 : zv a = zv b
    · simp only [h1, h2, this, Int.lt_irrefl, Int.le_refl, if_true, if_false]; cases o <;> decide
    · simp only [h1, h2, this, if_false]; cases o <;> decide
open Jvm.Op in
theorem if_gt {a b : UInt64} (ha : Jvm.Free.Fl.NoNaN64 a) (hb : Jvm.Free.Fl.NoNaN64 b) (o : Jvm.ClassFile.CmpOp) : ifCond.holds .gt (cmpValue (Jvm.FP.dcmp a b) o) = decide (zv b < zv a) := by
  rw [cmp_zv ha hb, compare_if]; by_cases h1 : zv a < zv b
  · have : ¬ zv b < zv a := by omega
    simp only [h1, this, if_true]; cases o <;> decide
  · by_cases h2 : zv a = zv b
    · simp only [h1, h2, Int.lt_irrefl, if_true, if_false]; cases o <;> decide
    · have : zv b < zv a := by omega
      simp only [h1, h2, this, if_false]; cases o <;> decide
open Jvm.Op in
theorem if_le {a b : UInt64} (ha : Jvm.Free.Fl.NoNaN64 a) (hb : Jvm.Free.Fl.NoNaN64 b) (o : Jvm.ClassFile.CmpOp) : ifCond.holds .le (cmpValue (Jvm.FP.dcmp a b) o) = decide (zv a ≤ zv b) := by
  rw [cmp_zv ha hb, compare_if]; by_cases h1 : zv a < zv b
  · have : zv a ≤ zv b := by omega
    simp only [h1, this, if_true]; cases o <;> decide
  · by_cases h2 : zv a = zv b
    · simp only [h1, h2, Int.lt_irrefl, Int.le_refl, if_true, if_false]; cases o <;> decide
    · have : ¬ zv a ≤ zv b := by omega
      simp only [h1, h2, this, if_false]; cases o <;> decide
open Jvm.Op in
theorem if_eq {a b : UInt64} (ha : Jvm.Free.Fl.NoNaN64 a) (hb : Jvm.Free.Fl.NoNaN64 b) (o : Jvm.ClassFile.CmpOp) : ifCond.holds .eq (cmpValue (Jvm.FP.dcmp a b) o) = decide (zv a = zv b) := by
  rw [cmp_zv ha hb, compare_if]; by_cases h1 : zv a < zv b
  · have : ¬ zv a = zv b := by omega
    simp only [h1, this, if_true]; cases o <;> decide
  · by_cases h2 : zv a = zv b
    · simp only [h2, Int.lt_irrefl, if_true, if_false]; cases o <;> decide
    · simp only [h1, h2, if_false]; cases o <;> decide
open Jvm.Op in
theorem if_ne {a b : UInt64} (ha : Jvm.Free.Fl.NoNaN64 a) (hb : Jvm.Free.Fl.NoNaN64 b) (o : Jvm.ClassFile.CmpOp) : ifCond.holds .ne (cmpValue (Jvm.FP.dcmp a b) o) = decide (¬ zv a = zv b) := by
  rw [cmp_zv ha hb, compare_if]; by_cases h1 : zv a < zv b
  · have : ¬ zv a = zv b := by omega
    simp only [h1, this, if_true]; cases o <;> decide
  · by_cases h2 : zv a = zv b
    · simp only [h2, Int.lt_irrefl, if_true, if_false]; cases o <;> decide
    · simp only [h1, h2, if_false]; cases o <;> decide
/-! longs and ints compared -/
open Jvm.Op Jvm.RoadKit in
theorem lw (cd : Jvm.ClassFile.Cond) (x y : Int64) : ifCond.holds cd (lcmpW x y) = (match cd with | .lt => decide (x.toInt < y.toInt) | .le => decide (x.toInt ≤ y.toInt) | .gt => decide (y.toInt < x.toInt) | .ge => decide (y.toInt ≤ x.toInt) | .eq => decide (x.toInt = y.toInt) | .ne => decide (¬ x.toInt = y.toInt)) := by
  unfold lcmpW
  simp only [gt_iff_lt, Int64.lt_iff_toInt_lt, ← Int64.toInt_inj]
  by_cases h1 : y.toInt < x.toInt
  · rw [if_pos h1]
    cases cd <;> simp only [h1, show ¬ x.toInt < y.toInt by omega, show ¬ x.toInt ≤ y.toInt by omega, show y.toInt ≤ x.toInt by omega, show ¬ x.toInt = y.toInt by omega] <;> decide
  · rw [if_neg h1]
    by_cases h2 : x.toInt = y.toInt
    · rw [if_pos h2, h2]
      cases cd <;> simp only [Int.lt_irrefl, Int.le_refl] <;> decide
    · rw [if_neg h2]
      cases cd <;> simp only [h1, h2, show x.toInt < y.toInt by omega, show x.toInt ≤ y.toInt by omega, show ¬ y.toInt ≤ x.toInt by omega] <;> decide
theorem i0_iff (x : Int32) : x = 0 ↔ x.toInt = 0 := by rw [← Int32.toInt_inj]; rfl
open Jvm.Op in
theorem iw (cd : Jvm.ClassFile.Cond) (x : Int32) : ifCond.holds cd x = (match cd with | .lt => decide (x.toInt < 0) | .le => decide (x.toInt ≤ 0) | .gt => decide (0 < x.toInt) | .ge => decide (0 ≤ x.toInt) | .eq => decide (x.toInt = 0) | .ne => decide (¬ x.toInt = 0)) := by
  have e0 : (0 : Int32).toInt = 0 := by decide
  cases cd <;> simp only [ifCond.holds, gt_iff_lt, ge_iff_le, Int32.lt_iff_toInt_lt, Int32.le_iff_toInt_le, e0]
  · by_cases h : x = 0
    · subst h; decide
    · have h' : ¬ x.toInt = 0 := fun q => h ((i0_iff x).mpr q)
      simp [h, h']
  · by_cases h : x = 0
    · subst h; decide
    · have h' : ¬ x.toInt = 0 := fun q => h ((i0_iff x).mpr q)
      simp [h, h']
end Jvm.OwnFP
namespace Jvm.OwnFP
open Jvm.FP.Core
/-! the double nearest to 10^-9 is 4835703278458517 / 2^82 -/
def U : Int := ((2 ^ 992 : Nat) : Int)
theorem U_pos : 0 < U := Int.natCast_pos.mpr (Nat.two_pow_pos _)
theorem O_U : O = 4835703278458516698824704 * U := pow_O 82 (by decide)
theorem repU {n : Int} (j : Nat) {k : Int} (hn : n.natAbs ≤ 9007199254740992) (hj : j ≤ 1000) (hk : k = n * ((2 ^ j : Nat) : Int)) : Rep (k * U) := by
  have h := rep_le (n := n) (992 + j) hn (by omega)
  have e : k * U = n * ((2 ^ (992 + j) : Nat) : Int) := by
    rw [hk, pow_split]; unfold U; rw [Int.mul_assoc, Int.mul_comm ((2 ^ j : Nat) : Int)]
  rw [e]; exact h
abbrev nano : UInt64 := 4472406533629990549
theorem nanoF : DFin nano := (fin_bits nano).mpr (by decide +kernel)
theorem nanoZ : zv nano = 4835703278458517 * U := by decide +kernel
theorem nano_le {x : UInt64} {n k : Int} (hF : DFin x) (hx : zv x = n * O) (hk : Rep (k * U)) (h : 4835703278458517 * n ≤ k) : zv (Jvm.FP.dmul nano x) ≤ k * U ∧ zv (Jvm.FP.dmul x nano) ≤ k * U := by
  have e : zv nano * zv x ≤ k * U * O := by
    rw [nanoZ, hx, ← Int.mul_assoc]
    refine Int.mul_le_mul_of_nonneg_right ?_ (Int.le_of_lt O_pos)
    rw [Int.mul_right_comm]
    exact Int.mul_le_mul_of_nonneg_right h (Int.le_of_lt U_pos)
  exact ⟨mul_le nanoF hF hk e, mul_le hF nanoF hk (by rw [Int.mul_comm (zv x)]; exact e)⟩
theorem nano_ge {x : UInt64} {n k : Int} (hF : DFin x) (hx : zv x = n * O) (hk : Rep (k * U)) (h : k ≤ 4835703278458517 * n) : k * U ≤ zv (Jvm.FP.dmul nano x) ∧ k * U ≤ zv (Jvm.FP.dmul x nano) := by
  have e : k * U * O ≤ zv nano * zv x := by
    rw [nanoZ, hx, ← Int.mul_assoc]
    refine Int.mul_le_mul_of_nonneg_right ?_ (Int.le_of_lt O_pos)
    rw [Int.mul_right_comm]
    exact Int.mul_le_mul_of_nonneg_right h (Int.le_of_lt U_pos)
  exact ⟨mul_ge nanoF hF hk e, mul_ge hF nanoF hk (by rw [Int.mul_comm (zv x)]; exact e)⟩
end Jvm.OwnFP
namespace Jvm.Pilot.@@N@@
open Jvm Jvm.ClassFile Sem Op Lib Jvm.Free Jvm.Stand Jvm.LawKit Jvm.RoadKit Bundle Jvm.Pilot.@@N@@.Jvm.D
def j1_9_s0 (d0 : UInt64) (d1 : UInt64) : Int32 := if ifCond.holds .gt (cmpValue (FP.dcmp d0 (FP.dadd d1 (FP.dmul d1 (4472406533629990549 : UInt64)))) .g) = true then (0 : Int32) else (1 : Int32)
def v0_6 (p0 : Int32) (p1 : Int32) (p2 : Int32) : Int64 := ((p0.toInt64) &&& (2147483647 : Int64))
def j0_10_l5 (p0 : Int32) (p1 : Int32) (p2 : Int32) : Int64 := if ifCond.holds .eq (p2 &&& (1 : Int32)) = true then (p1.toInt64) else ((v0_6 p0 p1 p2) + (((p1 &&& (15 : Int32)) - (8 : Int32)).toInt64))
def v0_36 (p0 : Int32) (p1 : Int32) (p2 : Int32) : Int64 := ((j0_10_l5 p0 p1 p2) - (v0_6 p0 p1 p2))
def v0_44 (p0 : Int32) (p1 : Int32) (p2 : Int32) : Int64 := ((1000000000 : Int64) * (v0_36 p0 p1 p2))
def j0_105_s0 (p0 : Int32) (p1 : Int32) (p2 : Int32) : Int32 := if if_icmp.holds .ne (nar .boolean (j1_9_s0 (FP.l2d (j0_10_l5 p0 p1 p2)) (FP.l2d (v0_6 p0 p1 p2)))) (1 : Int32) = true then (0 : Int32) else (1 : Int32)
def j0_105_s0' (p0 : Int32) (p1 : Int32) (p2 : Int32) : Int32 := if if_icmp.holds .ne (nar .boolean (j1_9_s0 (FP.l2d (j0_10_l5 p0 p1 p2)) (FP.l2d (v0_6 p0 p1 p2)))) (0 : Int32) = true then (0 : Int32) else (1 : Int32)
section Own
open Jvm.OwnFP
theorem own_lim (p0 p1 p2 : Int32) : 0 ≤ (v0_6 p0 p1 p2).toInt ∧ (v0_6 p0 p1 p2).toInt < 2147483648 := by
  have h : (v0_6 p0 p1 p2).toInt = p0.toInt64.toInt % 2 ^ 31 := Jvm.Kit.i64_mask p0.toInt64 2147483647 (k := 31) (by decide) (by decide)
  rw [h]; omega
theorem own_tot (p0 p1 p2 : Int32) : -2147483648 ≤ (j0_10_l5 p0 p1 p2).toInt ∧ (j0_10_l5 p0 p1 p2).toInt ≤ 2147483655 := by
  have hl := own_lim p0 p1 p2
  unfold j0_10_l5
  split
  · rw [Int32.toInt_toInt64]; have := Int32.le_toInt p1; have := Int32.toInt_lt p1; omega
  · have h1 : (p1 &&& (15 : Int32)).toInt = p1.toInt % 2 ^ 4 := Jvm.Kit.i32_mask p1 15 (k := 4) (by decide) (by decide)
    have h2 : ((p1 &&& (15 : Int32)) - (8 : Int32)).toInt = (p1 &&& (15 : Int32)).toInt - 8 := by
      rw [Jvm.Kit.i32_sub] <;> rw [show (8 : Int32).toInt = 8 by decide] <;> omega
    have h3 : ((v0_6 p0 p1 p2) + ((p1 &&& (15 : Int32)) - (8 : Int32)).toInt64).toInt = (v0_6 p0 p1 p2).toInt + ((p1 &&& (15 : Int32)).toInt - 8) := by
      rw [Jvm.Kit.i64_add] <;> rw [Int32.toInt_toInt64, h2] <;> omega
    rw [h3]; omega
theorem own_d (p0 p1 p2 : Int32) : (v0_36 p0 p1 p2).toInt = (j0_10_l5 p0 p1 p2).toInt - (v0_6 p0 p1 p2).toInt := by
  have := own_lim p0 p1 p2; have := own_tot p0 p1 p2
  unfold v0_36; rw [Jvm.Kit.i64_sub] <;> omega
theorem own_s (p0 p1 p2 : Int32) : (v0_44 p0 p1 p2).toInt = 1000000000 * ((j0_10_l5 p0 p1 p2).toInt - (v0_6 p0 p1 p2).toInt) := by
  have := own_lim p0 p1 p2; have := own_tot p0 p1 p2
  unfold v0_44
  rw [Jvm.Kit.i64_mul] <;> rw [own_d, show (1000000000 : Int64).toInt = 1000000000 by decide] <;> omega
/-- lim + lim * 1e-9 -/
abbrev own_z (lim : Int64) : UInt64 := FP.dadd (FP.l2d lim) (FP.dmul (FP.l2d lim) nano)
theorem own_yn (lim : Int64) : Jvm.Free.Fl.NoNaN64 (FP.dmul (FP.l2d lim) nano) := nn_mul (l2dF lim) nanoF
theorem own_yF (lim : Int64) (h : 0 ≤ lim.toInt) (h' : lim.toInt < 2147483648) : Jvm.FP.Core.DFin (FP.dmul (FP.l2d lim) nano) := by
  have hx := l2d_eq (n := lim) (by omega)
  have h1 := (nano_le (l2dF lim) hx (k := 4 * 4835703278458516698824704) (repU (n := 4) 82 (by decide) (by decide) (by decide)) (by omega)).2
  have h2 := (nano_ge (l2dF lim) hx (k := 0) (repU (n := 0) 82 (by decide) (by decide) (by decide)) (by omega)).2
  have hO := O_U; have hU := U_pos
  refine fin_of_zv (own_yn lim) ?_ ?_ <;> rw [hO] <;> omega
theorem own_zn (lim : Int64) (h : 0 ≤ lim.toInt) (h' : lim.toInt < 2147483648) : Jvm.Free.Fl.NoNaN64 (own_z lim) := nn_add (l2dF lim) (own_yF lim h h')
theorem own_n1 (p0 p1 p2 : Int32) : Jvm.Free.Fl.NoNaN64 (FP.dmul (FP.l2d (v0_6 p0 p1 p2)) (4472406533629990549 : UInt64)) := own_yn _
theorem own_n2 (p0 p1 p2 : Int32) : Jvm.Free.Fl.NoNaN64 (FP.dadd (FP.l2d (v0_6 p0 p1 p2)) (FP.dmul (FP.l2d (v0_6 p0 p1 p2)) (4472406533629990549 : UInt64))) := own_zn _ (own_lim p0 p1 p2).1 (own_lim p0 p1 p2).2
theorem own_up (tot lim : Int64) (h : 0 ≤ lim.toInt) (h' : lim.toInt < 2147483648) (t1 : -2147483648 ≤ tot.toInt) (t2 : tot.toInt ≤ 2147483655) (hd : tot.toInt - lim.toInt ≤ 0 ∨ 1000000000 * (tot.toInt - lim.toInt) ≤ lim.toInt - 1000) : zv (FP.l2d tot) ≤ zv (own_z lim) := by
  have hx := l2d_eq (n := lim) (by omega)
  have ht := l2d_eq (n := tot) (by omega)
  have hO := O_pos; have hU := U_pos
  rw [ht]
  by_cases h0 : tot.toInt - lim.toInt ≤ 0
  · have h1 := (nano_ge (l2dF lim) hx (k := 0) (repU (n := 0) 82 (by decide) (by decide) (by decide)) (by omega)).2
    have h2 := add_ge (z := lim.toInt * O) (l2dF lim) (own_yF lim h h') (rep_int (by omega)) (by rw [hx]; omega)
    have h3 : tot.toInt * O ≤ lim.toInt * O := Int.mul_le_mul_of_nonneg_right (by omega) (Int.le_of_lt hO)
    exact Int.le_trans h3 h2
  · have h1 := (nano_ge (l2dF lim) hx (k := (tot.toInt - lim.toInt) * 4835703278458516698824704) (repU (n := tot.toInt - lim.toInt) 82 (by omega) (by decide) rfl) (by omega)).2
    refine add_ge (z := tot.toInt * O) (l2dF lim) (own_yF lim h h') (rep_int (by omega)) ?_
    rw [hx]
    rw [Int.mul_assoc, ← O_U, Int.sub_mul] at h1
    omega
theorem own_dn (tot lim : Int64) (h : 0 ≤ lim.toInt) (h' : lim.toInt < 2147483648) (t2 : tot.toInt ≤ 2147483655) (hd : 0 < tot.toInt - lim.toInt) (hd2 : lim.toInt + 1000 ≤ 1000000000 * (tot.toInt - lim.toInt)) : zv (own_z lim) < zv (FP.l2d tot) := by
  have hx := l2d_eq (n := lim) (by omega)
  have ht := l2d_eq (n := tot) (by omega)
  have hO := O_U; have hU := U_pos
  have e62 : ((2 ^ 62 : Nat) : Int) = 4611686018427387904 := by decide
  have h1 := (nano_le (l2dF lim) hx (k := (tot.toInt - lim.toInt) * 4835703278458516698824704 - 4611686018427387904) (repU (n := (tot.toInt - lim.toInt) * 1048576 - 1) 62 (by omega) (by decide) (by rw [e62]; omega)) (by omega)).2
  have h2 := add_le (z := (tot.toInt * 4835703278458516698824704 - 4611686018427387904) * U) (l2dF lim) (own_yF lim h h') (repU (n := tot.toInt * 1048576 - 1) 62 (by omega) (by decide) (by rw [e62]; omega)) (by
    rw [hx, hO, ← Int.mul_assoc]
    refine Int.le_trans (Int.add_le_add_left h1 _) ?_
    rw [← Int.add_mul]
    refine Int.mul_le_mul_of_nonneg_right ?_ (Int.le_of_lt hU)
    omega)
  rw [ht, hO, ← Int.mul_assoc]
  refine Int.lt_of_le_of_lt h2 ?_
  refine Int.mul_lt_mul_of_pos_right ?_ hU
  omega
theorem own_at (tot lim : Int64) (h : 0 ≤ lim.toInt) (h' : lim.toInt < 2147483648) : j1_9_s0 (FP.l2d tot) (FP.l2d lim) = if zv (FP.l2d tot) ≤ zv (own_z lim) then 1 else 0 := by
  have e := if_gt (nn_fin (l2dF tot)) (own_zn lim h h') .g
  unfold j1_9_s0
  rw [e]
  by_cases hc : zv (FP.l2d tot) ≤ zv (own_z lim)
  · rw [if_pos hc, if_neg (show ¬ decide (zv (own_z lim) < zv (FP.l2d tot)) = true by simp only [decide_eq_true_eq]; exact Int.not_lt.mpr hc)]
  · rw [if_neg hc, if_pos (show decide (zv (own_z lim) < zv (FP.l2d tot)) = true by simp only [decide_eq_true_eq]; exact Int.not_le.mp hc)]
theorem own_resa (p0 p1 p2 : Int32) (h1 : ifCond.holds .gt (lcmpW (v0_36 p0 p1 p2) (0 : Int64)) = false) : j0_105_s0 p0 p1 p2 = 1 := by
  have hl := own_lim p0 p1 p2; have ht := own_tot p0 p1 p2
  rw [lw] at h1; simp only [decide_eq_false_iff_not, own_d, show (0 : Int64).toInt = 0 by decide] at h1
  unfold j0_105_s0
  rw [own_at _ _ hl.1 hl.2, if_pos (own_up _ _ hl.1 hl.2 ht.1 ht.2 (Or.inl (by omega)))]; decide
theorem own_resb (p0 p1 p2 : Int32) (h1 : ifCond.holds .gt (lcmpW (v0_36 p0 p1 p2) (0 : Int64)) = true) (h2 : ifCond.holds .gt (lcmpW (v0_44 p0 p1 p2) ((v0_6 p0 p1 p2) - (1000 : Int64))) = false) : j0_105_s0 p0 p1 p2 = 1 := by
  have hl := own_lim p0 p1 p2; have ht := own_tot p0 p1 p2
  have e : ((v0_6 p0 p1 p2) - (1000 : Int64)).toInt = (v0_6 p0 p1 p2).toInt - 1000 := by
    rw [Jvm.Kit.i64_sub] <;> rw [show (1000 : Int64).toInt = 1000 by decide] <;> omega
  rw [lw] at h2; simp only [decide_eq_false_iff_not, own_s, e] at h2
  unfold j0_105_s0
  rw [own_at _ _ hl.1 hl.2, if_pos (own_up _ _ hl.1 hl.2 ht.1 ht.2 (Or.inr (by omega)))]; decide
theorem own_resc (p0 p1 p2 : Int32) (h1 : ifCond.holds .gt (lcmpW (v0_36 p0 p1 p2) (0 : Int64)) = true) (h2 : ifCond.holds .gt (lcmpW (v0_44 p0 p1 p2) ((v0_6 p0 p1 p2) - (1000 : Int64))) = true) (h3 : ifCond.holds .lt (lcmpW (v0_44 p0 p1 p2) ((v0_6 p0 p1 p2) + (1000 : Int64))) = false) : j0_105_s0' p0 p1 p2 = 1 := by
  have hl := own_lim p0 p1 p2; have ht := own_tot p0 p1 p2
  have e : ((v0_6 p0 p1 p2) + (1000 : Int64)).toInt = (v0_6 p0 p1 p2).toInt + 1000 := by
    rw [Jvm.Kit.i64_add] <;> rw [show (1000 : Int64).toInt = 1000 by decide] <;> omega
  rw [lw] at h1 h3; simp only [decide_eq_false_iff_not, decide_eq_true_eq, own_s, own_d, e, show (0 : Int64).toInt = 0 by decide] at h1 h3
  have hz := own_dn _ _ hl.1 hl.2 ht.2 (by omega) (by omega)
  unfold j0_105_s0'
  rw [own_at _ _ hl.1 hl.2, if_neg (Int.not_le.mpr hz)]; decide
end Own
theorem d1_0 : decode prog_10_method_2_code 0 = .ok (.dload_n 0, 1) := by decide +kernel
theorem d1_1 : decode prog_10_method_2_code 1 = .ok (.dload_n 2, 1) := by decide +kernel
theorem d1_2 : decode prog_10_method_2_code 2 = .ok (.dload_n 2, 1) := by decide +kernel
theorem d1_3 : decode prog_10_method_2_code 3 = .ok (.ldc2_w 9, 3) := by decide +kernel
theorem d1_6 : decode prog_10_method_2_code 6 = .ok (.dmul, 1) := by decide +kernel
theorem d1_7 : decode prog_10_method_2_code 7 = .ok (.dadd, 1) := by decide +kernel
theorem d1_8 : decode prog_10_method_2_code 8 = .ok (.dcmp .g, 1) := by decide +kernel
theorem d1_9 : decode prog_10_method_2_code 9 = .ok (.ifCond .gt 7, 3) := by decide +kernel
theorem d1_12 : decode prog_10_method_2_code 12 = .ok (.iconst 1, 1) := by decide +kernel
theorem d1_13 : decode prog_10_method_2_code 13 = .ok (.goto 4, 3) := by decide +kernel
theorem d1_16 : decode prog_10_method_2_code 16 = .ok (.iconst 0, 1) := by decide +kernel
theorem d1_17 : decode prog_10_method_2_code 17 = .ok (.ireturn, 1) := by decide +kernel
theorem pn_1 : plainName "com/example/fogweave/fogweave/core/Limits" = true := by first | (simp [plainName, overriddenIn]; done) | decide +kernel
theorem pd_0 : parseMethodDescriptor "(DD)Z" = some ⟨[.double, .double], some .boolean⟩ := by decide +kernel
theorem ef_1 (m : MethodId) (d0 : UInt64) (d1 : UInt64) : entryFrame m #[(.double d0), (.double d1)] 4 = mkF m 0 #[.val (.double d0), .second, .val (.double d1), .second] [] := by first | (simp [entryFrame, mkF, argsToLocals, Value.category]; done) | rfl
def Q1 (Z : State) (d0 : UInt64) (d1 : UInt64) (h0 : Heap) (n0 : Nat) (v : Option Value) (h : Heap) (L : List Loc) : Prop := v = some (.int (nar .boolean (j1_9_s0 d0 d1))) ∧ Fr n0 L ∧ h = h0
set_option maxRecDepth 65536 in
set_option maxHeartbeats 40000000 in
theorem rm1 (l : Launch) (Z : State) (aw : Array Value) (hw : ∀ d ∈ tables_1, d.before aw Z = true) (ws : List Jvm.Cond) (d0 : UInt64) (d1 : UInt64) (h0 : Heap) (n0 : Nat) (Z0 : n0 ≤ h0.size) (hn6 : Jvm.Free.Fl.NoNaN64 (FP.dmul d1 (4472406533629990549 : UInt64))) (hn7 : Jvm.Free.Fl.NoNaN64 (FP.dadd d1 (FP.dmul d1 (4472406533629990549 : UInt64)))) :
    MetFree l (⟨"com/example/fogweave/fogweave/core/Limits", "atMost", "(DD)Z"⟩ : MethodName) (head1 (Jvm.Cond.code (⟨"com/example/fogweave/fogweave/core/Limits", "atMost", "(DD)Z"⟩ : MethodName) prog_10_method_2_code 4 (some .boolean) :: ws) ({ frames := 0, cells := 0, slots := 0, locals := 0 } : Room)) (fun a U => a = #[(.double d0), (.double d1)] ∧ Z.Warmed39 U.vm ∧ U.heap = h0) (fun _ _ _ _ _ => True) (fun _ U o U' => ∃ v L, o = .returned v ∧ Q1 Z d0 d1 h0 n0 v U'.heap L ∧ FrameEnd U o U' L ({ frames := 0, cells := 0, slots := 0, locals := 0 } : Room).cells ({ frames := 0, cells := 0, slots := 0, locals := 0 } : Room).slots) := by
  refine MetFree.of_bodySF (plainFor_of_name pn_1) hisR ?_
  intro p e s m args below meth c s₁ Bd hml0 hP hK
  obtain ⟨rfl, hZ, hh⟩ := hP
  have hx := Bd.exec
  have hby := Bd.bytes
  have hml : c.maxLocals = 4 := hml0
  have hown : s.vm.findClass "com/example/fogweave/fogweave/core/Limits" = some m.cls := findClass_of_methodNamed Bd.named
  have hnm := (name_of_methodNamed Bd.named Bd.method).1
  have X0 : Stand p l e ({ frames := 0, cells := 0, slots := 0, locals := 0 } : Room) s m #[(.double d0), (.double d1)] below meth c s₁ [] 0 0 := Stand.of_body Bd
  have e0 : s₁.heap = h0 := by rw [← hh, Bd.state]; rfl
  have N0 := Fr.nil n0
  have pre0 : ∀ t, Steps p.tables e below (s₁.setTop (mkF m 0 #[.val (.double d0), .second, .val (.double d1), .second] [])) t → Steps p.tables e below (s₁.setTop (entryFrame m #[(.double d0), (.double d1)] 4)) t := fun t k => castTop (ef_1 m d0 d1) k
  obtain ⟨fs, hr, hrun, hended, hW, hsame⟩ := X0.leave (v := some (.int (nar .boolean (j1_9_s0 d0 d1)))) (fun h => by rw [Bd.returns] at h; cases h)
  refine ⟨_, _, pre0 _ ?_, hrun, hended, _, _, rfl, ?_, ⟨_, rfl⟩, hW, hsame.mono (by decide) (by decide)⟩
  · show Steps p.tables e below (s₁.setTop (mkF m 0 #[.val (.double d0), .second, .val (.double d1), .second] [])) _
    refine XS.dloadN X0.here hx rfl (hb hby d1_0) rfl ?_
    show Steps p.tables e below (s₁.setTop (mkF m 1 #[.val (.double d0), .second, .val (.double d1), .second] [(.double d0)])) _
    refine XS.dloadN X0.here hx rfl (hb hby d1_1) rfl ?_
    show Steps p.tables e below (s₁.setTop (mkF m 2 #[.val (.double d0), .second, .val (.double d1), .second] [(.double d1), (.double d0)])) _
    refine XS.dloadN X0.here hx rfl (hb hby d1_2) rfl ?_
    show Steps p.tables e below (s₁.setTop (mkF m 3 #[.val (.double d0), .second, .val (.double d1), .second] [(.double d1), (.double d1), (.double d0)])) _
    refine X0.ldc2DoubleC hx hown (mvT hZ (hw _ (List.mem_of_getElem? (i := 7) rfl))) (g := (mkF m 3 #[.val (.double d0), .second, .val (.double d1), .second] [(.double d1), (.double d1), (.double d0)])) rfl (hb hby d1_3) _ ?_
    show Steps p.tables e below (s₁.setTop (mkF m 6 #[.val (.double d0), .second, .val (.double d1), .second] [(.double (4472406533629990549 : UInt64)), (.double d1), (.double d1), (.double d0)])) _
    refine XS.dmulS X0.here hx rfl (hb hby d1_6) rfl hn6 rfl ?_
    show Steps p.tables e below (s₁.setTop (mkF m 7 #[.val (.double d0), .second, .val (.double d1), .second] [(.double (FP.dmul d1 (4472406533629990549 : UInt64))), (.double d1), (.double d0)])) _
    refine XS.daddS X0.here hx rfl (hb hby d1_7) rfl hn7 rfl ?_
    show Steps p.tables e below (s₁.setTop (mkF m 8 #[.val (.double d0), .second, .val (.double d1), .second] [(.double (FP.dadd d1 (FP.dmul d1 (4472406533629990549 : UInt64)))), (.double d0)])) _
    refine XS.dcmpS X0.here hx rfl (hb hby d1_8) rfl rfl ?_
    show Steps p.tables e below (s₁.setTop (mkF m 9 #[.val (.double d0), .second, .val (.double d1), .second] [(.int (cmpValue (FP.dcmp d0 (FP.dadd d1 (FP.dmul d1 (4472406533629990549 : UInt64)))) .g))])) _
    suffices kt9 : Steps p.tables e below (s₁.setTop (mkF m 17 #[.val (.double d0), .second, .val (.double d1), .second] [(.int (j1_9_s0 d0 d1))])) (s₁.setFrames fs) by
      by_cases hc9 : ifCond.holds .gt (cmpValue (FP.dcmp d0 (FP.dadd d1 (FP.dmul d1 (4472406533629990549 : UInt64)))) .g) = true
      · rw [show (j1_9_s0 d0 d1) = (0 : Int32) from if_pos hc9] at kt9
        refine XS.ifYes X0.here hx rfl (pc0 := 9) (pc' := 16) rfl (hb hby d1_9) rfl hc9 (by decide) (by decide) ?_
        show Steps p.tables e below (s₁.setTop (mkF m 16 #[.val (.double d0), .second, .val (.double d1), .second] [])) _
        refine XS.iconst X0.here hx rfl (hb hby d1_16) ?_
        exact kt9
      · rw [show (j1_9_s0 d0 d1) = (1 : Int32) from if_neg hc9] at kt9
        refine XS.ifNo X0.here hx rfl (hb hby d1_9) rfl (eq_false_of_ne_true hc9) ?_
        show Steps p.tables e below (s₁.setTop (mkF m 12 #[.val (.double d0), .second, .val (.double d1), .second] [])) _
        refine XS.iconst X0.here hx rfl (hb hby d1_12) ?_
        show Steps p.tables e below (s₁.setTop (mkF m 13 #[.val (.double d0), .second, .val (.double d1), .second] [(.int (1 : Int32))])) _
        refine XS.goto X0.here hx rfl (pc0 := 13) (pc' := 17) rfl (hb hby d1_13) (by decide) (by decide) ?_
        exact kt9
    show Steps p.tables e below (s₁.setTop (mkF m 17 #[.val (.double d0), .second, .val (.double d1), .second] [(.int (j1_9_s0 d0 d1))])) _
    exact retN X0 hx (t := .boolean) Bd.returns (by simp) (hb hby d1_17) hr
  · show Q1 Z d0 d1 h0 n0 _ s₁.heap _
    rw [e0]
    exact ⟨rfl, N0, rfl⟩
theorem pn_0 : plainName "com/example/fogweave/fogweave/core/LimitsAtMostPinLaw" = true := by first | (simp [plainName, overriddenIn]; done) | decide +kernel
theorem ef_0a (m : MethodId) (p0 : Int32) (p1 : Int32) (p2 : Int32) : entryFrame m #[(.int p0), (.int p1), (.int p2)] maxLocals = mkF m 0 #[.val (.int p0), .val (.int p1), .val (.int p2), .unset, .unset, .unset, .unset, .unset, .unset, .unset, .unset, .unset] [] := by first | (simp [entryFrame, mkF, argsToLocals, Value.category, maxLocals]; done) | rfl
def Q0a (Z : State) (p0 : Int32) (p1 : Int32) (p2 : Int32) (h0 : Heap) (n0 : Nat) (v : Option Value) (h : Heap) (L : List Loc) : Prop := v = some (.int (1 : Int32)) ∧ Fr n0 L
set_option maxRecDepth 65536 in
set_option maxHeartbeats 40000000 in
theorem rm0a (l : Launch) (Z : State) (aw : Array Value) (hw : ∀ d ∈ tables_1, d.before aw Z = true) (ws : List Jvm.Cond) (p0 : Int32) (p1 : Int32) (p2 : Int32) (h0 : Heap) (n0 : Nat) (Z0 : n0 ≤ h0.size) (hc50 : ifCond.holds .gt (lcmpW (v0_36 p0 p1 p2) (0 : Int64)) = false) (hn6_100 : Jvm.Free.Fl.NoNaN64 (FP.dmul (FP.l2d (v0_6 p0 p1 p2)) (4472406533629990549 : UInt64))) (hn7_100 : Jvm.Free.Fl.NoNaN64 (FP.dadd (FP.l2d (v0_6 p0 p1 p2)) (FP.dmul (FP.l2d (v0_6 p0 p1 p2)) (4472406533629990549 : UInt64)))) (hres113 : (j0_105_s0 p0 p1 p2) = (1 : Int32)) :
    MetFree l x (head1 (Jvm.Cond.code x code maxLocals ret :: ws) room_1) (fun a U => a = #[(.int p0), (.int p1), (.int p2)] ∧ Z.Warmed39 U.vm ∧ U.heap = h0) (fun _ _ _ _ _ => True) (fun _ U o U' => ∃ v L, o = .returned v ∧ Q0a Z p0 p1 p2 h0 n0 v U'.heap L ∧ FrameEnd U o U' L 0 0) := by
  refine MetFree.of_bodySF (plainFor_of_name pn_0) hisR ?_
  intro p e s m args below meth c s₁ Bd hml0 hP hK
  obtain ⟨rfl, hZ, hh⟩ := hP
  have hx := Bd.exec
  have hby := Bd.bytes
  have hml : c.maxLocals = 12 := hml0
  have hown : s.vm.findClass "com/example/fogweave/fogweave/core/LimitsAtMostPinLaw" = some m.cls := findClass_of_methodNamed Bd.named
  have hnm := (name_of_methodNamed Bd.named Bd.method).1
  have X0 : Stand p l e room_1 s m #[(.int p0), (.int p1), (.int p2)] below meth c s₁ [] 0 0 := Stand.of_body Bd
  have e0 : s₁.heap = h0 := by rw [← hh, Bd.state]; rfl
  have N0 := Fr.nil n0
  have pre0 : ∀ t, Steps p.tables e below (s₁.setTop (mkF m 0 #[.val (.int p0), .val (.int p1), .val (.int p2), .unset, .unset, .unset, .unset, .unset, .unset, .unset, .unset, .unset] [])) t → Steps p.tables e below (s₁.setTop (entryFrame m #[(.int p0), (.int p1), (.int p2)] maxLocals)) t := fun t k => castTop (ef_0a m p0 p1 p2) k
  obtain ⟨_, _, ⟨T1, L1, k1, n1⟩, -, X1, ⟨Lc1, hQ1, l1, y1, z1'⟩, st1⟩ := Jvm.LawKit.callS X0 hx (y := (⟨"com/example/fogweave/fogweave/core/Limits", "atMost", "(DD)Z"⟩ : MethodName)) hown (mvT hZ (hw _ (List.mem_of_getElem? (i := 3) rfl))) (mvT hZ (hw _ (List.mem_of_getElem? (i := 4) rfl))) (mvT hZ (hw _ (List.mem_of_getElem? (i := 5) rfl))) (mvT hZ (hw _ (List.mem_of_getElem? (i := 6) rfl))) (by decide) (backOf (W := 0) (rm1 l Z aw hw [] (FP.l2d (j0_10_l5 p0 p1 p2)) (FP.l2d (v0_6 p0 p1 p2)) h0 n0 Z0 hn6_100 hn7_100) hZ (hw _ (List.mem_of_getElem? (i := 6) rfl)) (hw _ (List.mem_of_getElem? (i := 5) rfl)) (by decide) (by decide)) (g := (mkF m 100 #[.val (.int p0), .val (.int p1), .val (.int p2), .val (.long (v0_6 p0 p1 p2)), .second, .val (.long (j0_10_l5 p0 p1 p2)), .second, .val (.long (v0_36 p0 p1 p2)), .second, .val (.long (v0_44 p0 p1 p2)), .second, .val (.int (1 : Int32))] [(.double (FP.l2d (v0_6 p0 p1 p2))), (.double (FP.l2d (j0_10_l5 p0 p1 p2)))])) rfl (by rw [hml]; rfl) (argsL := [(.double (FP.l2d (j0_10_l5 p0 p1 p2))), (.double (FP.l2d (v0_6 p0 p1 p2)))]) (rest := []) (lenOf pd_0 rfl) rfl (by show 2 * 0 + _ ≤ _; exact Nat.le_of_eq rfl) (hb hby at_100) (fun _ _ => ⟨rfl, e0, (by decide : 0 + 0 ≤ _), (by decide : 0 + 0 ≤ _)⟩)
  dsimp only [Pt.U, Pt.locs, Pt.cells, Pt.slots] at X1 l1 y1 z1' st1 hQ1
  subst l1 y1 z1'
  obtain ⟨rfl, N1q, hq1⟩ := hQ1
  have z1 : n0 ≤ T1.heap.size := by rw [hq1]; exact Z0
  have N1 := Fr.app N0 N1q
  obtain ⟨fs, hr, hrun, hended, hW, hsame⟩ := X1.leave (v := some (.int (1 : Int32))) (fun h => by rw [Bd.returns] at h; cases h)
  refine ⟨_, _, pre0 _ ?_, hrun, hended, _, _, rfl, ?_, ⟨_, rfl⟩, hW, hsame.mono (by decide) (by decide)⟩
  · show Steps p.tables e below (s₁.setTop (mkF m 0 #[.val (.int p0), .val (.int p1), .val (.int p2), .unset, .unset, .unset, .unset, .unset, .unset, .unset, .unset, .unset] [])) _
    refine XS.iloadN X0.here hx rfl (hb hby at_0) rfl ?_
    show Steps p.tables e below (s₁.setTop (mkF m 1 #[.val (.int p0), .val (.int p1), .val (.int p2), .unset, .unset, .unset, .unset, .unset, .unset, .unset, .unset, .unset] [(.int p0)])) _
    refine XS.i2l X0.here hx rfl (hb hby at_1) rfl ?_
    show Steps p.tables e below (s₁.setTop (mkF m 2 #[.val (.int p0), .val (.int p1), .val (.int p2), .unset, .unset, .unset, .unset, .unset, .unset, .unset, .unset, .unset] [(.long (p0.toInt64))])) _
    refine X0.ldc2Long hx hown (mvT hZ (hw _ (List.mem_of_getElem? (i := 0) rfl))) (g := (mkF m 2 #[.val (.int p0), .val (.int p1), .val (.int p2), .unset, .unset, .unset, .unset, .unset, .unset, .unset, .unset, .unset] [(.long (p0.toInt64))])) rfl (hb hby at_2) _ ?_
    show Steps p.tables e below (s₁.setTop (mkF m 5 #[.val (.int p0), .val (.int p1), .val (.int p2), .unset, .unset, .unset, .unset, .unset, .unset, .unset, .unset, .unset] [(.long (2147483647 : Int64)), (.long (p0.toInt64))])) _
    refine XS.land X0.here hx rfl (hb hby at_5) rfl ?_
    show Steps p.tables e below (s₁.setTop (mkF m 6 #[.val (.int p0), .val (.int p1), .val (.int p2), .unset, .unset, .unset, .unset, .unset, .unset, .unset, .unset, .unset] [(.long ((p0.toInt64) &&& (2147483647 : Int64)))])) _
    refine XS.lstoreN X0.here hx rfl (hb hby at_6) rfl (l' := #[.val (.int p0), .val (.int p1), .val (.int p2), .val (.long (v0_6 p0 p1 p2)), .second, .unset, .unset, .unset, .unset, .unset, .unset, .unset]) rfl ?_
    show Steps p.tables e below (s₁.setTop (mkF m 7 #[.val (.int p0), .val (.int p1), .val (.int p2), .val (.long (v0_6 p0 p1 p2)), .second, .unset, .unset, .unset, .unset, .unset, .unset, .unset] [])) _
    refine XS.iloadN X0.here hx rfl (hb hby at_7) rfl ?_
    show Steps p.tables e below (s₁.setTop (mkF m 8 #[.val (.int p0), .val (.int p1), .val (.int p2), .val (.long (v0_6 p0 p1 p2)), .second, .unset, .unset, .unset, .unset, .unset, .unset, .unset] [(.int p2)])) _
    refine XS.iconst X0.here hx rfl (hb hby at_8) ?_
    show Steps p.tables e below (s₁.setTop (mkF m 9 #[.val (.int p0), .val (.int p1), .val (.int p2), .val (.long (v0_6 p0 p1 p2)), .second, .unset, .unset, .unset, .unset, .unset, .unset, .unset] [(.int (1 : Int32)), (.int p2)])) _
    refine XS.iand X0.here hx rfl (hb hby at_9) rfl ?_
    show Steps p.tables e below (s₁.setTop (mkF m 10 #[.val (.int p0), .val (.int p1), .val (.int p2), .val (.long (v0_6 p0 p1 p2)), .second, .unset, .unset, .unset, .unset, .unset, .unset, .unset] [(.int (p2 &&& (1 : Int32)))])) _
    suffices kt10 : Steps p.tables e below (s₁.setTop (mkF m 32 #[.val (.int p0), .val (.int p1), .val (.int p2), .val (.long (v0_6 p0 p1 p2)), .second, .val (.long (j0_10_l5 p0 p1 p2)), .second, .unset, .unset, .unset, .unset, .unset] [])) (T1.setFrames fs) by
      by_cases hc10 : ifCond.holds .eq (p2 &&& (1 : Int32)) = true
      · rw [show (j0_10_l5 p0 p1 p2) = (p1.toInt64) from if_pos hc10] at kt10
        refine XS.ifYes X0.here hx rfl (pc0 := 10) (pc' := 28) rfl (hb hby at_10) rfl hc10 (by decide) (by decide) ?_
        show Steps p.tables e below (s₁.setTop (mkF m 28 #[.val (.int p0), .val (.int p1), .val (.int p2), .val (.long (v0_6 p0 p1 p2)), .second, .unset, .unset, .unset, .unset, .unset, .unset, .unset] [])) _
        refine XS.iloadN X0.here hx rfl (hb hby at_28) rfl ?_
        show Steps p.tables e below (s₁.setTop (mkF m 29 #[.val (.int p0), .val (.int p1), .val (.int p2), .val (.long (v0_6 p0 p1 p2)), .second, .unset, .unset, .unset, .unset, .unset, .unset, .unset] [(.int p1)])) _
        refine XS.i2l X0.here hx rfl (hb hby at_29) rfl ?_
        show Steps p.tables e below (s₁.setTop (mkF m 30 #[.val (.int p0), .val (.int p1), .val (.int p2), .val (.long (v0_6 p0 p1 p2)), .second, .unset, .unset, .unset, .unset, .unset, .unset, .unset] [(.long (p1.toInt64))])) _
        refine XS.lstore X0.here hx rfl (hb hby at_30) rfl (l' := #[.val (.int p0), .val (.int p1), .val (.int p2), .val (.long (v0_6 p0 p1 p2)), .second, .val (.long (p1.toInt64)), .second, .unset, .unset, .unset, .unset, .unset]) rfl ?_
        exact kt10
      · rw [show (j0_10_l5 p0 p1 p2) = ((v0_6 p0 p1 p2) + (((p1 &&& (15 : Int32)) - (8 : Int32)).toInt64)) from if_neg hc10] at kt10
        refine XS.ifNo X0.here hx rfl (hb hby at_10) rfl (eq_false_of_ne_true hc10) ?_
        show Steps p.tables e below (s₁.setTop (mkF m 13 #[.val (.int p0), .val (.int p1), .val (.int p2), .val (.long (v0_6 p0 p1 p2)), .second, .unset, .unset, .unset, .unset, .unset, .unset, .unset] [])) _
        refine XS.lloadN X0.here hx rfl (hb hby at_13) rfl ?_
        show Steps p.tables e below (s₁.setTop (mkF m 14 #[.val (.int p0), .val (.int p1), .val (.int p2), .val (.long (v0_6 p0 p1 p2)), .second, .unset, .unset, .unset, .unset, .unset, .unset, .unset] [(.long (v0_6 p0 p1 p2))])) _
        refine XS.iloadN X0.here hx rfl (hb hby at_14) rfl ?_
        show Steps p.tables e below (s₁.setTop (mkF m 15 #[.val (.int p0), .val (.int p1), .val (.int p2), .val (.long (v0_6 p0 p1 p2)), .second, .unset, .unset, .unset, .unset, .unset, .unset, .unset] [(.int p1), (.long (v0_6 p0 p1 p2))])) _
        refine XS.bipush X0.here hx rfl (hb hby at_15) ?_
        show Steps p.tables e below (s₁.setTop (mkF m 17 #[.val (.int p0), .val (.int p1), .val (.int p2), .val (.long (v0_6 p0 p1 p2)), .second, .unset, .unset, .unset, .unset, .unset, .unset, .unset] [(.int (15 : Int32)), (.int p1), (.long (v0_6 p0 p1 p2))])) _
        refine XS.iand X0.here hx rfl (hb hby at_17) rfl ?_
        show Steps p.tables e below (s₁.setTop (mkF m 18 #[.val (.int p0), .val (.int p1), .val (.int p2), .val (.long (v0_6 p0 p1 p2)), .second, .unset, .unset, .unset, .unset, .unset, .unset, .unset] [(.int (p1 &&& (15 : Int32))), (.long (v0_6 p0 p1 p2))])) _
        refine XS.bipush X0.here hx rfl (hb hby at_18) ?_
        show Steps p.tables e below (s₁.setTop (mkF m 20 #[.val (.int p0), .val (.int p1), .val (.int p2), .val (.long (v0_6 p0 p1 p2)), .second, .unset, .unset, .unset, .unset, .unset, .unset, .unset] [(.int (8 : Int32)), (.int (p1 &&& (15 : Int32))), (.long (v0_6 p0 p1 p2))])) _
        refine XS.isub X0.here hx rfl (hb hby at_20) rfl ?_
        show Steps p.tables e below (s₁.setTop (mkF m 21 #[.val (.int p0), .val (.int p1), .val (.int p2), .val (.long (v0_6 p0 p1 p2)), .second, .unset, .unset, .unset, .unset, .unset, .unset, .unset] [(.int ((p1 &&& (15 : Int32)) - (8 : Int32))), (.long (v0_6 p0 p1 p2))])) _
        refine XS.i2l X0.here hx rfl (hb hby at_21) rfl ?_
        show Steps p.tables e below (s₁.setTop (mkF m 22 #[.val (.int p0), .val (.int p1), .val (.int p2), .val (.long (v0_6 p0 p1 p2)), .second, .unset, .unset, .unset, .unset, .unset, .unset, .unset] [(.long (((p1 &&& (15 : Int32)) - (8 : Int32)).toInt64)), (.long (v0_6 p0 p1 p2))])) _
        refine XS.ladd X0.here hx rfl (hb hby at_22) rfl ?_
        show Steps p.tables e below (s₁.setTop (mkF m 23 #[.val (.int p0), .val (.int p1), .val (.int p2), .val (.long (v0_6 p0 p1 p2)), .second, .unset, .unset, .unset, .unset, .unset, .unset, .unset] [(.long ((v0_6 p0 p1 p2) + (((p1 &&& (15 : Int32)) - (8 : Int32)).toInt64)))])) _
        refine XS.lstore X0.here hx rfl (hb hby at_23) rfl (l' := #[.val (.int p0), .val (.int p1), .val (.int p2), .val (.long (v0_6 p0 p1 p2)), .second, .val (.long ((v0_6 p0 p1 p2) + (((p1 &&& (15 : Int32)) - (8 : Int32)).toInt64))), .second, .unset, .unset, .unset, .unset, .unset]) rfl ?_
        show Steps p.tables e below (s₁.setTop (mkF m 25 #[.val (.int p0), .val (.int p1), .val (.int p2), .val (.long (v0_6 p0 p1 p2)), .second, .val (.long ((v0_6 p0 p1 p2) + (((p1 &&& (15 : Int32)) - (8 : Int32)).toInt64))), .second, .unset, .unset, .unset, .unset, .unset] [])) _
        refine XS.goto X0.here hx rfl (pc0 := 25) (pc' := 32) rfl (hb hby at_25) (by decide) (by decide) ?_
        exact kt10
    show Steps p.tables e below (s₁.setTop (mkF m 32 #[.val (.int p0), .val (.int p1), .val (.int p2), .val (.long (v0_6 p0 p1 p2)), .second, .val (.long (j0_10_l5 p0 p1 p2)), .second, .unset, .unset, .unset, .unset, .unset] [])) _
    refine XS.lload X0.here hx rfl (hb hby at_32) rfl ?_
    show Steps p.tables e below (s₁.setTop (mkF m 34 #[.val (.int p0), .val (.int p1), .val (.int p2), .val (.long (v0_6 p0 p1 p2)), .second, .val (.long (j0_10_l5 p0 p1 p2)), .second, .unset, .unset, .unset, .unset, .unset] [(.long (j0_10_l5 p0 p1 p2))])) _
    refine XS.lloadN X0.here hx rfl (hb hby at_34) rfl ?_
    show Steps p.tables e below (s₁.setTop (mkF m 35 #[.val (.int p0), .val (.int p1), .val (.int p2), .val (.long (v0_6 p0 p1 p2)), .second, .val (.long (j0_10_l5 p0 p1 p2)), .second, .unset, .unset, .unset, .unset, .unset] [(.long (v0_6 p0 p1 p2)), (.long (j0_10_l5 p0 p1 p2))])) _
    refine XS.lsub X0.here hx rfl (hb hby at_35) rfl ?_
    show Steps p.tables e below (s₁.setTop (mkF m 36 #[.val (.int p0), .val (.int p1), .val (.int p2), .val (.long (v0_6 p0 p1 p2)), .second, .val (.long (j0_10_l5 p0 p1 p2)), .second, .unset, .unset, .unset, .unset, .unset] [(.long ((j0_10_l5 p0 p1 p2) - (v0_6 p0 p1 p2)))])) _
    refine XS.lstore X0.here hx rfl (hb hby at_36) rfl (l' := #[.val (.int p0), .val (.int p1), .val (.int p2), .val (.long (v0_6 p0 p1 p2)), .second, .val (.long (j0_10_l5 p0 p1 p2)), .second, .val (.long (v0_36 p0 p1 p2)), .second, .unset, .unset, .unset]) rfl ?_
    show Steps p.tables e below (s₁.setTop (mkF m 38 #[.val (.int p0), .val (.int p1), .val (.int p2), .val (.long (v0_6 p0 p1 p2)), .second, .val (.long (j0_10_l5 p0 p1 p2)), .second, .val (.long (v0_36 p0 p1 p2)), .second, .unset, .unset, .unset] [])) _
    refine X0.ldc2Long hx hown (mvT hZ (hw _ (List.mem_of_getElem? (i := 1) rfl))) (g := (mkF m 38 #[.val (.int p0), .val (.int p1), .val (.int p2), .val (.long (v0_6 p0 p1 p2)), .second, .val (.long (j0_10_l5 p0 p1 p2)), .second, .val (.long (v0_36 p0 p1 p2)), .second, .unset, .unset, .unset] [])) rfl (hb hby at_38) _ ?_
    show Steps p.tables e below (s₁.setTop (mkF m 41 #[.val (.int p0), .val (.int p1), .val (.int p2), .val (.long (v0_6 p0 p1 p2)), .second, .val (.long (j0_10_l5 p0 p1 p2)), .second, .val (.long (v0_36 p0 p1 p2)), .second, .unset, .unset, .unset] [(.long (1000000000 : Int64))])) _
    refine XS.lload X0.here hx rfl (hb hby at_41) rfl ?_
    show Steps p.tables e below (s₁.setTop (mkF m 43 #[.val (.int p0), .val (.int p1), .val (.int p2), .val (.long (v0_6 p0 p1 p2)), .second, .val (.long (j0_10_l5 p0 p1 p2)), .second, .val (.long (v0_36 p0 p1 p2)), .second, .unset, .unset, .unset] [(.long (v0_36 p0 p1 p2)), (.long (1000000000 : Int64))])) _
    refine XS.lmul X0.here hx rfl (hb hby at_43) rfl ?_
    show Steps p.tables e below (s₁.setTop (mkF m 44 #[.val (.int p0), .val (.int p1), .val (.int p2), .val (.long (v0_6 p0 p1 p2)), .second, .val (.long (j0_10_l5 p0 p1 p2)), .second, .val (.long (v0_36 p0 p1 p2)), .second, .unset, .unset, .unset] [(.long ((1000000000 : Int64) * (v0_36 p0 p1 p2)))])) _
    refine XS.lstore X0.here hx rfl (hb hby at_44) rfl (l' := #[.val (.int p0), .val (.int p1), .val (.int p2), .val (.long (v0_6 p0 p1 p2)), .second, .val (.long (j0_10_l5 p0 p1 p2)), .second, .val (.long (v0_36 p0 p1 p2)), .second, .val (.long (v0_44 p0 p1 p2)), .second, .unset]) rfl ?_
    show Steps p.tables e below (s₁.setTop (mkF m 46 #[.val (.int p0), .val (.int p1), .val (.int p2), .val (.long (v0_6 p0 p1 p2)), .second, .val (.long (j0_10_l5 p0 p1 p2)), .second, .val (.long (v0_36 p0 p1 p2)), .second, .val (.long (v0_44 p0 p1 p2)), .second, .unset] [])) _
    refine XS.lload X0.here hx rfl (hb hby at_46) rfl ?_
    show Steps p.tables e below (s₁.setTop (mkF m 48 #[.val (.int p0), .val (.int p1), .val (.int p2), .val (.long (v0_6 p0 p1 p2)), .second, .val (.long (j0_10_l5 p0 p1 p2)), .second, .val (.long (v0_36 p0 p1 p2)), .second, .val (.long (v0_44 p0 p1 p2)), .second, .unset] [(.long (v0_36 p0 p1 p2))])) _
    refine XS.lconst X0.here hx rfl (hb hby at_48) ?_
    show Steps p.tables e below (s₁.setTop (mkF m 49 #[.val (.int p0), .val (.int p1), .val (.int p2), .val (.long (v0_6 p0 p1 p2)), .second, .val (.long (j0_10_l5 p0 p1 p2)), .second, .val (.long (v0_36 p0 p1 p2)), .second, .val (.long (v0_44 p0 p1 p2)), .second, .unset] [(.long (0 : Int64)), (.long (v0_36 p0 p1 p2))])) _
    refine XS.lcmp X0.here hx rfl (hb hby at_49) rfl ?_
    show Steps p.tables e below (s₁.setTop (mkF m 50 #[.val (.int p0), .val (.int p1), .val (.int p2), .val (.long (v0_6 p0 p1 p2)), .second, .val (.long (j0_10_l5 p0 p1 p2)), .second, .val (.long (v0_36 p0 p1 p2)), .second, .val (.long (v0_44 p0 p1 p2)), .second, .unset] [(.int (lcmpW (v0_36 p0 p1 p2) (0 : Int64)))])) _
    refine XS.ifNo X0.here hx rfl (hb hby at_50) rfl hc50 ?_
    show Steps p.tables e below (s₁.setTop (mkF m 53 #[.val (.int p0), .val (.int p1), .val (.int p2), .val (.long (v0_6 p0 p1 p2)), .second, .val (.long (j0_10_l5 p0 p1 p2)), .second, .val (.long (v0_36 p0 p1 p2)), .second, .val (.long (v0_44 p0 p1 p2)), .second, .unset] [])) _
    refine XS.iconst X0.here hx rfl (hb hby at_53) ?_
    show Steps p.tables e below (s₁.setTop (mkF m 54 #[.val (.int p0), .val (.int p1), .val (.int p2), .val (.long (v0_6 p0 p1 p2)), .second, .val (.long (j0_10_l5 p0 p1 p2)), .second, .val (.long (v0_36 p0 p1 p2)), .second, .val (.long (v0_44 p0 p1 p2)), .second, .unset] [(.int (1 : Int32))])) _
    refine XS.istore X0.here hx rfl (hb hby at_54) rfl (l' := #[.val (.int p0), .val (.int p1), .val (.int p2), .val (.long (v0_6 p0 p1 p2)), .second, .val (.long (j0_10_l5 p0 p1 p2)), .second, .val (.long (v0_36 p0 p1 p2)), .second, .val (.long (v0_44 p0 p1 p2)), .second, .val (.int (1 : Int32))]) rfl ?_
    show Steps p.tables e below (s₁.setTop (mkF m 56 #[.val (.int p0), .val (.int p1), .val (.int p2), .val (.long (v0_6 p0 p1 p2)), .second, .val (.long (j0_10_l5 p0 p1 p2)), .second, .val (.long (v0_36 p0 p1 p2)), .second, .val (.long (v0_44 p0 p1 p2)), .second, .val (.int (1 : Int32))] [])) _
    refine XS.goto X0.here hx rfl (pc0 := 56) (pc' := 95) rfl (hb hby at_56) (by decide) (by decide) ?_
    show Steps p.tables e below (s₁.setTop (mkF m 95 #[.val (.int p0), .val (.int p1), .val (.int p2), .val (.long (v0_6 p0 p1 p2)), .second, .val (.long (j0_10_l5 p0 p1 p2)), .second, .val (.long (v0_36 p0 p1 p2)), .second, .val (.long (v0_44 p0 p1 p2)), .second, .val (.int (1 : Int32))] [])) _
    refine XS.lload X0.here hx rfl (hb hby at_95) rfl ?_
    show Steps p.tables e below (s₁.setTop (mkF m 97 #[.val (.int p0), .val (.int p1), .val (.int p2), .val (.long (v0_6 p0 p1 p2)), .second, .val (.long (j0_10_l5 p0 p1 p2)), .second, .val (.long (v0_36 p0 p1 p2)), .second, .val (.long (v0_44 p0 p1 p2)), .second, .val (.int (1 : Int32))] [(.long (j0_10_l5 p0 p1 p2))])) _
    refine XS.l2dS X0.here hx rfl (hb hby at_97) rfl rfl ?_
    show Steps p.tables e below (s₁.setTop (mkF m 98 #[.val (.int p0), .val (.int p1), .val (.int p2), .val (.long (v0_6 p0 p1 p2)), .second, .val (.long (j0_10_l5 p0 p1 p2)), .second, .val (.long (v0_36 p0 p1 p2)), .second, .val (.long (v0_44 p0 p1 p2)), .second, .val (.int (1 : Int32))] [(.double (FP.l2d (j0_10_l5 p0 p1 p2)))])) _
    refine XS.lloadN X0.here hx rfl (hb hby at_98) rfl ?_
    show Steps p.tables e below (s₁.setTop (mkF m 99 #[.val (.int p0), .val (.int p1), .val (.int p2), .val (.long (v0_6 p0 p1 p2)), .second, .val (.long (j0_10_l5 p0 p1 p2)), .second, .val (.long (v0_36 p0 p1 p2)), .second, .val (.long (v0_44 p0 p1 p2)), .second, .val (.int (1 : Int32))] [(.long (v0_6 p0 p1 p2)), (.double (FP.l2d (j0_10_l5 p0 p1 p2)))])) _
    refine XS.l2dS X0.here hx rfl (hb hby at_99) rfl rfl ?_
    show Steps p.tables e below (s₁.setTop (mkF m 100 #[.val (.int p0), .val (.int p1), .val (.int p2), .val (.long (v0_6 p0 p1 p2)), .second, .val (.long (j0_10_l5 p0 p1 p2)), .second, .val (.long (v0_36 p0 p1 p2)), .second, .val (.long (v0_44 p0 p1 p2)), .second, .val (.int (1 : Int32))] [(.double (FP.l2d (v0_6 p0 p1 p2))), (.double (FP.l2d (j0_10_l5 p0 p1 p2)))])) _
    refine st1 _ ?_
    show Steps p.tables e below (T1.setTop (mkF m 103 #[.val (.int p0), .val (.int p1), .val (.int p2), .val (.long (v0_6 p0 p1 p2)), .second, .val (.long (j0_10_l5 p0 p1 p2)), .second, .val (.long (v0_36 p0 p1 p2)), .second, .val (.long (v0_44 p0 p1 p2)), .second, .val (.int (1 : Int32))] [(.int (nar .boolean (j1_9_s0 (FP.l2d (j0_10_l5 p0 p1 p2)) (FP.l2d (v0_6 p0 p1 p2)))))])) _
    refine XS.iload X1.here hx rfl (hb hby at_103) rfl ?_
    show Steps p.tables e below (T1.setTop (mkF m 105 #[.val (.int p0), .val (.int p1), .val (.int p2), .val (.long (v0_6 p0 p1 p2)), .second, .val (.long (j0_10_l5 p0 p1 p2)), .second, .val (.long (v0_36 p0 p1 p2)), .second, .val (.long (v0_44 p0 p1 p2)), .second, .val (.int (1 : Int32))] [(.int (1 : Int32)), (.int (nar .boolean (j1_9_s0 (FP.l2d (j0_10_l5 p0 p1 p2)) (FP.l2d (v0_6 p0 p1 p2)))))])) _
    suffices kt105 : Steps p.tables e below (T1.setTop (mkF m 113 #[.val (.int p0), .val (.int p1), .val (.int p2), .val (.long (v0_6 p0 p1 p2)), .second, .val (.long (j0_10_l5 p0 p1 p2)), .second, .val (.long (v0_36 p0 p1 p2)), .second, .val (.long (v0_44 p0 p1 p2)), .second, .val (.int (1 : Int32))] [(.int (j0_105_s0 p0 p1 p2))])) (T1.setFrames fs) by
      by_cases hc105 : if_icmp.holds .ne (nar .boolean (j1_9_s0 (FP.l2d (j0_10_l5 p0 p1 p2)) (FP.l2d (v0_6 p0 p1 p2)))) (1 : Int32) = true
      · rw [show (j0_105_s0 p0 p1 p2) = (0 : Int32) from if_pos hc105] at kt105
        refine XS.icmpYes X1.here hx rfl (pc0 := 105) (pc' := 112) rfl (hb hby at_105) rfl hc105 (by decide) (by decide) ?_
        show Steps p.tables e below (T1.setTop (mkF m 112 #[.val (.int p0), .val (.int p1), .val (.int p2), .val (.long (v0_6 p0 p1 p2)), .second, .val (.long (j0_10_l5 p0 p1 p2)), .second, .val (.long (v0_36 p0 p1 p2)), .second, .val (.long (v0_44 p0 p1 p2)), .second, .val (.int (1 : Int32))] [])) _
        refine XS.iconst X1.here hx rfl (hb hby at_112) ?_
        exact kt105
      · rw [show (j0_105_s0 p0 p1 p2) = (1 : Int32) from if_neg hc105] at kt105
        refine XS.icmpNo X1.here hx rfl (hb hby at_105) rfl (eq_false_of_ne_true hc105) ?_
        show Steps p.tables e below (T1.setTop (mkF m 108 #[.val (.int p0), .val (.int p1), .val (.int p2), .val (.long (v0_6 p0 p1 p2)), .second, .val (.long (j0_10_l5 p0 p1 p2)), .second, .val (.long (v0_36 p0 p1 p2)), .second, .val (.long (v0_44 p0 p1 p2)), .second, .val (.int (1 : Int32))] [])) _
        refine XS.iconst X1.here hx rfl (hb hby at_108) ?_
        show Steps p.tables e below (T1.setTop (mkF m 109 #[.val (.int p0), .val (.int p1), .val (.int p2), .val (.long (v0_6 p0 p1 p2)), .second, .val (.long (j0_10_l5 p0 p1 p2)), .second, .val (.long (v0_36 p0 p1 p2)), .second, .val (.long (v0_44 p0 p1 p2)), .second, .val (.int (1 : Int32))] [(.int (1 : Int32))])) _
        refine XS.goto X1.here hx rfl (pc0 := 109) (pc' := 113) rfl (hb hby at_109) (by decide) (by decide) ?_
        exact kt105
    show Steps p.tables e below (T1.setTop (mkF m 113 #[.val (.int p0), .val (.int p1), .val (.int p2), .val (.long (v0_6 p0 p1 p2)), .second, .val (.long (j0_10_l5 p0 p1 p2)), .second, .val (.long (v0_36 p0 p1 p2)), .second, .val (.long (v0_44 p0 p1 p2)), .second, .val (.int (1 : Int32))] [(.int (j0_105_s0 p0 p1 p2))])) _
    rw [hres113]
    exact retN X1 hx (t := .boolean) Bd.returns (by simp) (hb hby at_113) hr
  · show Q0a Z p0 p1 p2 h0 n0 _ T1.heap _
    exact ⟨rfl, N1⟩
theorem ef_0b (m : MethodId) (p0 : Int32) (p1 : Int32) (p2 : Int32) : entryFrame m #[(.int p0), (.int p1), (.int p2)] maxLocals = mkF m 0 #[.val (.int p0), .val (.int p1), .val (.int p2), .unset, .unset, .unset, .unset, .unset, .unset, .unset, .unset, .unset] [] := by first | (simp [entryFrame, mkF, argsToLocals, Value.category, maxLocals]; done) | rfl
def Q0b (Z : State) (p0 : Int32) (p1 : Int32) (p2 : Int32) (h0 : Heap) (n0 : Nat) (v : Option Value) (h : Heap) (L : List Loc) : Prop := v = some (.int (1 : Int32)) ∧ Fr n0 L
set_option maxRecDepth 65536 in
set_option maxHeartbeats 40000000 in
theorem rm0b (l : Launch) (Z : State) (aw : Array Value) (hw : ∀ d ∈ tables_1, d.before aw Z = true) (ws : List Jvm.Cond) (p0 : Int32) (p1 : Int32) (p2 : Int32) (h0 : Heap) (n0 : Nat) (Z0 : n0 ≤ h0.size) (hc50 : ifCond.holds .gt (lcmpW (v0_36 p0 p1 p2) (0 : Int64)) = true) (hc67 : ifCond.holds .gt (lcmpW (v0_44 p0 p1 p2) ((v0_6 p0 p1 p2) - (1000 : Int64))) = false) (hn6_100 : Jvm.Free.Fl.NoNaN64 (FP.dmul (FP.l2d (v0_6 p0 p1 p2)) (4472406533629990549 : UInt64))) (hn7_100 : Jvm.Free.Fl.NoNaN64 (FP.dadd (FP.l2d (v0_6 p0 p1 p2)) (FP.dmul (FP.l2d (v0_6 p0 p1 p2)) (4472406533629990549 : UInt64)))) (hres113 : (j0_105_s0 p0 p1 p2) = (1 : Int32)) :
    MetFree l x (head1 (Jvm.Cond.code x code maxLocals ret :: ws) room_1) (fun a U => a = #[(.int p0), (.int p1), (.int p2)] ∧ Z.Warmed39 U.vm ∧ U.heap = h0) (fun _ _ _ _ _ => True) (fun _ U o U' => ∃ v L, o = .returned v ∧ Q0b Z p0 p1 p2 h0 n0 v U'.heap L ∧ FrameEnd U o U' L 0 0) := by
  refine MetFree.of_bodySF (plainFor_of_name pn_0) hisR ?_
  intro p e s m args below meth c s₁ Bd hml0 hP hK
  obtain ⟨rfl, hZ, hh⟩ := hP
  have hx := Bd.exec
  have hby := Bd.bytes
  have hml : c.maxLocals = 12 := hml0
  have hown : s.vm.findClass "com/example/fogweave/fogweave/core/LimitsAtMostPinLaw" = some m.cls := findClass_of_methodNamed Bd.named
  have hnm := (name_of_methodNamed Bd.named Bd.method).1
  have X0 : Stand p l e room_1 s m #[(.int p0), (.int p1), (.int p2)] below meth c s₁ [] 0 0 := Stand.of_body Bd
  have e0 : s₁.heap = h0 := by rw [← hh, Bd.state]; rfl
  have N0 := Fr.nil n0
  have pre0 : ∀ t, Steps p.tables e below (s₁.setTop (mkF m 0 #[.val (.int p0), .val (.int p1), .val (.int p2), .unset, .unset, .unset, .unset, .unset, .unset, .unset, .unset, .unset] [])) t → Steps p.tables e below (s₁.setTop (entryFrame m #[(.int p0), (.int p1), (.int p2)] maxLocals)) t := fun t k => castTop (ef_0b m p0 p1 p2) k
  obtain ⟨_, _, ⟨T1, L1, k1, n1⟩, -, X1, ⟨Lc1, hQ1, l1, y1, z1'⟩, st1⟩ := Jvm.LawKit.callS X0 hx (y := (⟨"com/example/fogweave/fogweave/core/Limits", "atMost", "(DD)Z"⟩ : MethodName)) hown (mvT hZ (hw _ (List.mem_of_getElem? (i := 3) rfl))) (mvT hZ (hw _ (List.mem_of_getElem? (i := 4) rfl))) (mvT hZ (hw _ (List.mem_of_getElem? (i := 5) rfl))) (mvT hZ (hw _ (List.mem_of_getElem? (i := 6) rfl))) (by decide) (backOf (W := 0) (rm1 l Z aw hw [] (FP.l2d (j0_10_l5 p0 p1 p2)) (FP.l2d (v0_6 p0 p1 p2)) h0 n0 Z0 hn6_100 hn7_100) hZ (hw _ (List.mem_of_getElem? (i := 6) rfl)) (hw _ (List.mem_of_getElem? (i := 5) rfl)) (by decide) (by decide)) (g := (mkF m 100 #[.val (.int p0), .val (.int p1), .val (.int p2), .val (.long (v0_6 p0 p1 p2)), .second, .val (.long (j0_10_l5 p0 p1 p2)), .second, .val (.long (v0_36 p0 p1 p2)), .second, .val (.long (v0_44 p0 p1 p2)), .second, .val (.int (1 : Int32))] [(.double (FP.l2d (v0_6 p0 p1 p2))), (.double (FP.l2d (j0_10_l5 p0 p1 p2)))])) rfl (by rw [hml]; rfl) (argsL := [(.double (FP.l2d (j0_10_l5 p0 p1 p2))), (.double (FP.l2d (v0_6 p0 p1 p2)))]) (rest := []) (lenOf pd_0 rfl) rfl (by show 2 * 0 + _ ≤ _; exact Nat.le_of_eq rfl) (hb hby at_100) (fun _ _ => ⟨rfl, e0, (by decide : 0 + 0 ≤ _), (by decide : 0 + 0 ≤ _)⟩)
  dsimp only [Pt.U, Pt.locs, Pt.cells, Pt.slots] at X1 l1 y1 z1' st1 hQ1
  subst l1 y1 z1'
  obtain ⟨rfl, N1q, hq1⟩ := hQ1
  have z1 : n0 ≤ T1.heap.size := by rw [hq1]; exact Z0
  have N1 := Fr.app N0 N1q
  obtain ⟨fs, hr, hrun, hended, hW, hsame⟩ := X1.leave (v := some (.int (1 : Int32))) (fun h => by rw [Bd.returns] at h; cases h)
  refine ⟨_, _, pre0 _ ?_, hrun, hended, _, _, rfl, ?_, ⟨_, rfl⟩, hW, hsame.mono (by decide) (by decide)⟩
  · show Steps p.tables e below (s₁.setTop (mkF m 0 #[.val (.int p0), .val (.int p1), .val (.int p2), .unset, .unset, .unset, .unset, .unset, .unset, .unset, .unset, .unset] [])) _
    refine XS.iloadN X0.here hx rfl (hb hby at_0) rfl ?_
    show Steps p.tables e below (s₁.setTop (mkF m 1 #[.val (.int p0), .val (.int p1), .val (.int p2), .unset, .unset, .unset, .unset, .unset, .unset, .unset, .unset, .unset] [(.int p0)])) _
    refine XS.i2l X0.here hx rfl (hb hby at_1) rfl ?_
    show Steps p.tables e below (s₁.setTop (mkF m 2 #[.val (.int p0), .val (.int p1), .val (.int p2), .unset, .unset, .unset, .unset, .unset, .unset, .unset, .unset, .unset] [(.long (p0.toInt64))])) _
    refine X0.ldc2Long hx hown (mvT hZ (hw _ (List.mem_of_getElem? (i := 0) rfl))) (g := (mkF m 2 #[.val (.int p0), .val (.int p1), .val (.int p2), .unset, .unset, .unset, .unset, .unset, .unset, .unset, .unset, .unset] [(.long (p0.toInt64))])) rfl (hb hby at_2) _ ?_
    show Steps p.tables e below (s₁.setTop (mkF m 5 #[.val (.int p0), .val (.int p1), .val (.int p2), .unset, .unset, .unset, .unset, .unset, .unset, .unset, .unset, .unset] [(.long (2147483647 : Int64)), (.long (p0.toInt64))])) _
    refine XS.land X0.here hx rfl (hb hby at_5) rfl ?_
    show Steps p.tables e below (s₁.setTop (mkF m 6 #[.val (.int p0), .val (.int p1), .val (.int p2), .unset, .unset, .unset, .unset, .unset, .unset, .unset, .unset, .unset] [(.long ((p0.toInt64) &&& (2147483647 : Int64)))])) _
    refine XS.lstoreN X0.here hx rfl (hb hby at_6) rfl (l' := #[.val (.int p0), .val (.int p1), .val (.int p2), .val (.long (v0_6 p0 p1 p2)), .second, .unset, .unset, .unset, .unset, .unset, .unset, .unset]) rfl ?_
    show Steps p.tables e below (s₁.setTop (mkF m 7 #[.val (.int p0), .val (.int p1), .val (.int p2), .val (.long (v0_6 p0 p1 p2)), .second, .unset, .unset, .unset, .unset, .unset, .unset, .unset] [])) _
    refine XS.iloadN X0.here hx rfl (hb hby at_7) rfl ?_
    show Steps p.tables e below (s₁.setTop (mkF m 8 #[.val (.int p0), .val (.int p1), .val (.int p2), .val (.long (v0_6 p0 p1 p2)), .second, .unset, .unset, .unset, .unset, .unset, .unset, .unset] [(.int p2)])) _
    refine XS.iconst X0.here hx rfl (hb hby at_8) ?_
    show Steps p.tables e below (s₁.setTop (mkF m 9 #[.val (.int p0), .val (.int p1), .val (.int p2), .val (.long (v0_6 p0 p1 p2)), .second, .unset, .unset, .unset, .unset, .unset, .unset, .unset] [(.int (1 : Int32)), (.int p2)])) _
    refine XS.iand X0.here hx rfl (hb hby at_9) rfl ?_
    show Steps p.tables e below (s₁.setTop (mkF m 10 #[.val (.int p0), .val (.int p1), .val (.int p2), .val (.long (v0_6 p0 p1 p2)), .second, .unset, .unset, .unset, .unset, .unset, .unset, .unset] [(.int (p2 &&& (1 : Int32)))])) _
    suffices kt10 : Steps p.tables e below (s₁.setTop (mkF m 32 #[.val (.int p0), .val (.int p1), .val (.int p2), .val (.long (v0_6 p0 p1 p2)), .second, .val (.long (j0_10_l5 p0 p1 p2)), .second, .unset, .unset, .unset, .unset, .unset] [])) (T1.setFrames fs) by
      by_cases hc10 : ifCond.holds .eq (p2 &&& (1 : Int32)) = true
      · rw [show (j0_10_l5 p0 p1 p2) = (p1.toInt64) from if_pos hc10] at kt10
        refine XS.ifYes X0.here hx rfl (pc0 := 10) (pc' := 28) rfl (hb hby at_10) rfl hc10 (by decide) (by decide) ?_
        show Steps p.tables e below (s₁.setTop (mkF m 28 #[.val (.int p0), .val (.int p1), .val (.int p2), .val (.long (v0_6 p0 p1 p2)), .second, .unset, .unset, .unset, .unset, .unset, .unset, .unset] [])) _
        refine XS.iloadN X0.here hx rfl (hb hby at_28) rfl ?_
        show Steps p.tables e below (s₁.setTop (mkF m 29 #[.val (.int p0), .val (.int p1), .val (.int p2), .val (.long (v0_6 p0 p1 p2)), .second, .unset, .unset, .unset, .unset, .unset, .unset, .unset] [(.int p1)])) _
        refine XS.i2l X0.here hx rfl (hb hby at_29) rfl ?_
        show Steps p.tables e below (s₁.setTop (mkF m 30 #[.val (.int p0), .val (.int p1), .val (.int p2), .val (.long (v0_6 p0 p1 p2)), .second, .unset, .unset, .unset, .unset, .unset, .unset, .unset] [(.long (p1.toInt64))])) _
        refine XS.lstore X0.here hx rfl (hb hby at_30) rfl (l' := #[.val (.int p0), .val (.int p1), .val (.int p2), .val (.long (v0_6 p0 p1 p2)), .second, .val (.long (p1.toInt64)), .second, .unset, .unset, .unset, .unset, .unset]) rfl ?_
        exact kt10
      · rw [show (j0_10_l5 p0 p1 p2) = ((v0_6 p0 p1 p2) + (((p1 &&& (15 : Int32)) - (8 : Int32)).toInt64)) from if_neg hc10] at kt10
        refine XS.ifNo X0.here hx rfl (hb hby at_10) rfl (eq_false_of_ne_true hc10) ?_
        show Steps p.tables e below (s₁.setTop (mkF m 13 #[.val (.int p0), .val (.int p1), .val (.int p2), .val (.long (v0_6 p0 p1 p2)), .second, .unset, .unset, .unset, .unset, .unset, .unset, .unset] [])) _
        refine XS.lloadN X0.here hx rfl (hb hby at_13) rfl ?_
        show Steps p.tables e below (s₁.setTop (mkF m 14 #[.val (.int p0), .val (.int p1), .val (.int p2), .val (.long (v0_6 p0 p1 p2)), .second, .unset, .unset, .unset, .unset, .unset, .unset, .unset] [(.long (v0_6 p0 p1 p2))])) _
        refine XS.iloadN X0.here hx rfl (hb hby at_14) rfl ?_
        show Steps p.tables e below (s₁.setTop (mkF m 15 #[.val (.int p0), .val (.int p1), .val (.int p2), .val (.long (v0_6 p0 p1 p2)), .second, .unset, .unset, .unset, .unset, .unset, .unset, .unset] [(.int p1), (.long (v0_6 p0 p1 p2))])) _
        refine XS.bipush X0.here hx rfl (hb hby at_15) ?_
        show Steps p.tables e below (s₁.setTop (mkF m 17 #[.val (.int p0), .val (.int p1), .val (.int p2), .val (.long (v0_6 p0 p1 p2)), .second, .unset, .unset, .unset, .unset, .unset, .unset, .unset] [(.int (15 : Int32)), (.int p1), (.long (v0_6 p0 p1 p2))])) _
        refine XS.iand X0.here hx rfl (hb hby at_17) rfl ?_
        show Steps p.tables e below (s₁.setTop (mkF m 18 #[.val (.int p0), .val (.int p1), .val (.int p2), .val (.long (v0_6 p0 p1 p2)), .second, .unset, .unset, .unset, .unset, .unset, .unset, .unset] [(.int (p1 &&& (15 : Int32))), (.long (v0_6 p0 p1 p2))])) _
        refine XS.bipush X0.here hx rfl (hb hby at_18) ?_
        show Steps p.tables e below (s₁.setTop (mkF m 20 #[.val (.int p0), .val (.int p1), .val (.int p2), .val (.long (v0_6 p0 p1 p2)), .second, .unset, .unset, .unset, .unset, .unset, .unset, .unset] [(.int (8 : Int32)), (.int (p1 &&& (15 : Int32))), (.long (v0_6 p0 p1 p2))])) _
        refine XS.isub X0.here hx rfl (hb hby at_20) rfl ?_
        show Steps p.tables e below (s₁.setTop (mkF m 21 #[.val (.int p0), .val (.int p1), .val (.int p2), .val (.long (v0_6 p0 p1 p2)), .second, .unset, .unset, .unset, .unset, .unset, .unset, .unset] [(.int ((p1 &&& (15 : Int32)) - (8 : Int32))), (.long (v0_6 p0 p1 p2))])) _
        refine XS.i2l X0.here hx rfl (hb hby at_21) rfl ?_
        show Steps p.tables e below (s₁.setTop (mkF m 22 #[.val (.int p0), .val (.int p1), .val (.int p2), .val (.long (v0_6 p0 p1 p2)), .second, .unset, .unset, .unset, .unset, .unset, .unset, .unset] [(.long (((p1 &&& (15 : Int32)) - (8 : Int32)).toInt64)), (.long (v0_6 p0 p1 p2))])) _
        refine XS.ladd X0.here hx rfl (hb hby at_22) rfl ?_
        show Steps p.tables e below (s₁.setTop (mkF m 23 #[.val (.int p0), .val (.int p1), .val (.int p2), .val (.long (v0_6 p0 p1 p2)), .second, .unset, .unset, .unset, .unset, .unset, .unset, .unset] [(.long ((v0_6 p0 p1 p2) + (((p1 &&& (15 : Int32)) - (8 : Int32)).toInt64)))])) _
        refine XS.lstore X0.here hx rfl (hb hby at_23) rfl (l' := #[.val (.int p0), .val (.int p1), .val (.int p2), .val (.long (v0_6 p0 p1 p2)), .second, .val (.long ((v0_6 p0 p1 p2) + (((p1 &&& (15 : Int32)) - (8 : Int32)).toInt64))), .second, .unset, .unset, .unset, .unset, .unset]) rfl ?_
        show Steps p.tables e below (s₁.setTop (mkF m 25 #[.val (.int p0), .val (.int p1), .val (.int p2), .val (.long (v0_6 p0 p1 p2)), .second, .val (.long ((v0_6 p0 p1 p2) + (((p1 &&& (15 : Int32)) - (8 : Int32)).toInt64))), .second, .unset, .unset, .unset, .unset, .unset] [])) _
        refine XS.goto X0.here hx rfl (pc0 := 25) (pc' := 32) rfl (hb hby at_25) (by decide) (by decide) ?_
        exact kt10
    show Steps p.tables e below (s₁.setTop (mkF m 32 #[.val (.int p0), .val (.int p1), .val (.int p2), .val (.long (v0_6 p0 p1 p2)), .second, .val (.long (j0_10_l5 p0 p1 p2)), .second, .unset, .unset, .unset, .unset, .unset] [])) _
    refine XS.lload X0.here hx rfl (hb hby at_32) rfl ?_
    show Steps p.tables e below (s₁.setTop (mkF m 34 #[.val (.int p0), .val (.int p1), .val (.int p2), .val (.long (v0_6 p0 p1 p2)), .second, .val (.long (j0_10_l5 p0 p1 p2)), .second, .unset, .unset, .unset, .unset, .unset] [(.long (j0_10_l5 p0 p1 p2))])) _
    refine XS.lloadN X0.here hx rfl (hb hby at_34) rfl ?_
    show Steps p.tables e below (s₁.setTop (mkF m 35 #[.val (.int p0), .val (.int p1), .val (.int p2), .val (.long (v0_6 p0 p1 p2)), .second, .val (.long (j0_10_l5 p0 p1 p2)), .second, .unset, .unset, .unset, .unset, .unset] [(.long (v0_6 p0 p1 p2)), (.long (j0_10_l5 p0 p1 p2))])) _
    refine XS.lsub X0.here hx rfl (hb hby at_35) rfl ?_
    show Steps p.tables e below (s₁.setTop (mkF m 36 #[.val (.int p0), .val (.int p1), .val (.int p2), .val (.long (v0_6 p0 p1 p2)), .second, .val (.long (j0_10_l5 p0 p1 p2)), .second, .unset, .unset, .unset, .unset, .unset] [(.long ((j0_10_l5 p0 p1 p2) - (v0_6 p0 p1 p2)))])) _
    refine XS.lstore X0.here hx rfl (hb hby at_36) rfl (l' := #[.val (.int p0), .val (.int p1), .val (.int p2), .val (.long (v0_6 p0 p1 p2)), .second, .val (.long (j0_10_l5 p0 p1 p2)), .second, .val (.long (v0_36 p0 p1 p2)), .second, .unset, .unset, .unset]) rfl ?_
    show Steps p.tables e below (s₁.setTop (mkF m 38 #[.val (.int p0), .val (.int p1), .val (.int p2), .val (.long (v0_6 p0 p1 p2)), .second, .val (.long (j0_10_l5 p0 p1 p2)), .second, .val (.long (v0_36 p0 p1 p2)), .second, .unset, .unset, .unset] [])) _
    refine X0.ldc2Long hx hown (mvT hZ (hw _ (List.mem_of_getElem? (i := 1) rfl))) (g := (mkF m 38 #[.val (.int p0), .val (.int p1), .val (.int p2), .val (.long (v0_6 p0 p1 p2)), .second, .val (.long (j0_10_l5 p0 p1 p2)), .second, .val (.long (v0_36 p0 p1 p2)), .second, .unset, .unset, .unset] [])) rfl (hb hby at_38) _ ?_
    show Steps p.tables e below (s₁.setTop (mkF m 41 #[.val (.int p0), .val (.int p1), .val (.int p2), .val (.long (v0_6 p0 p1 p2)), .second, .val (.long (j0_10_l5 p0 p1 p2)), .second, .val (.long (v0_36 p0 p1 p2)), .second, .unset, .unset, .unset] [(.long (1000000000 : Int64))])) _
    refine XS.lload X0.here hx rfl (hb hby at_41) rfl ?_
    show Steps p.tables e below (s₁.setTop (mkF m 43 #[.val (.int p0), .val (.int p1), .val (.int p2), .val (.long (v0_6 p0 p1 p2)), .second, .val (.long (j0_10_l5 p0 p1 p2)), .second, .val (.long (v0_36 p0 p1 p2)), .second, .unset, .unset, .unset] [(.long (v0_36 p0 p1 p2)), (.long (1000000000 : Int64))])) _
    refine XS.lmul X0.here hx rfl (hb hby at_43) rfl ?_
    show Steps p.tables e below (s₁.setTop (mkF m 44 #[.val (.int p0), .val (.int p1), .val (.int p2), .val (.long (v0_6 p0 p1 p2)), .second, .val (.long (j0_10_l5 p0 p1 p2)), .second, .val (.long (v0_36 p0 p1 p2)), .second, .unset, .unset, .unset] [(.long ((1000000000 : Int64) * (v0_36 p0 p1 p2)))])) _
    refine XS.lstore X0.here hx rfl (hb hby at_44) rfl (l' := #[.val (.int p0), .val (.int p1), .val (.int p2), .val (.long (v0_6 p0 p1 p2)), .second, .val (.long (j0_10_l5 p0 p1 p2)), .second, .val (.long (v0_36 p0 p1 p2)), .second, .val (.long (v0_44 p0 p1 p2)), .second, .unset]) rfl ?_
    show Steps p.tables e below (s₁.setTop (mkF m 46 #[.val (.int p0), .val (.int p1), .val (.int p2), .val (.long (v0_6 p0 p1 p2)), .second, .val (.long (j0_10_l5 p0 p1 p2)), .second, .val (.long (v0_36 p0 p1 p2)), .second, .val (.long (v0_44 p0 p1 p2)), .second, .unset] [])) _
    refine XS.lload X0.here hx rfl (hb hby at_46) rfl ?_
    show Steps p.tables e below (s₁.setTop (mkF m 48 #[.val (.int p0), .val (.int p1), .val (.int p2), .val (.long (v0_6 p0 p1 p2)), .second, .val (.long (j0_10_l5 p0 p1 p2)), .second, .val (.long (v0_36 p0 p1 p2)), .second, .val (.long (v0_44 p0 p1 p2)), .second, .unset] [(.long (v0_36 p0 p1 p2))])) _
    refine XS.lconst X0.here hx rfl (hb hby at_48) ?_
    show Steps p.tables e below (s₁.setTop (mkF m 49 #[.val (.int p0), .val (.int p1), .val (.int p2), .val (.long (v0_6 p0 p1 p2)), .second, .val (.long (j0_10_l5 p0 p1 p2)), .second, .val (.long (v0_36 p0 p1 p2)), .second, .val (.long (v0_44 p0 p1 p2)), .second, .unset] [(.long (0 : Int64)), (.long (v0_36 p0 p1 p2))])) _
    refine XS.lcmp X0.here hx rfl (hb hby at_49) rfl ?_
    show Steps p.tables e below (s₁.setTop (mkF m 50 #[.val (.int p0), .val (.int p1), .val (.int p2), .val (.long (v0_6 p0 p1 p2)), .second, .val (.long (j0_10_l5 p0 p1 p2)), .second, .val (.long (v0_36 p0 p1 p2)), .second, .val (.long (v0_44 p0 p1 p2)), .second, .unset] [(.int (lcmpW (v0_36 p0 p1 p2) (0 : Int64)))])) _
    refine XS.ifYes X0.here hx rfl (pc0 := 50) (pc' := 59) rfl (hb hby at_50) rfl hc50 (by decide) (by decide) ?_
    show Steps p.tables e below (s₁.setTop (mkF m 59 #[.val (.int p0), .val (.int p1), .val (.int p2), .val (.long (v0_6 p0 p1 p2)), .second, .val (.long (j0_10_l5 p0 p1 p2)), .second, .val (.long (v0_36 p0 p1 p2)), .second, .val (.long (v0_44 p0 p1 p2)), .second, .unset] [])) _
    refine XS.lload X0.here hx rfl (hb hby at_59) rfl ?_
    show Steps p.tables e below (s₁.setTop (mkF m 61 #[.val (.int p0), .val (.int p1), .val (.int p2), .val (.long (v0_6 p0 p1 p2)), .second, .val (.long (j0_10_l5 p0 p1 p2)), .second, .val (.long (v0_36 p0 p1 p2)), .second, .val (.long (v0_44 p0 p1 p2)), .second, .unset] [(.long (v0_44 p0 p1 p2))])) _
    refine XS.lloadN X0.here hx rfl (hb hby at_61) rfl ?_
    show Steps p.tables e below (s₁.setTop (mkF m 62 #[.val (.int p0), .val (.int p1), .val (.int p2), .val (.long (v0_6 p0 p1 p2)), .second, .val (.long (j0_10_l5 p0 p1 p2)), .second, .val (.long (v0_36 p0 p1 p2)), .second, .val (.long (v0_44 p0 p1 p2)), .second, .unset] [(.long (v0_6 p0 p1 p2)), (.long (v0_44 p0 p1 p2))])) _
    refine X0.ldc2Long hx hown (mvT hZ (hw _ (List.mem_of_getElem? (i := 2) rfl))) (g := (mkF m 62 #[.val (.int p0), .val (.int p1), .val (.int p2), .val (.long (v0_6 p0 p1 p2)), .second, .val (.long (j0_10_l5 p0 p1 p2)), .second, .val (.long (v0_36 p0 p1 p2)), .second, .val (.long (v0_44 p0 p1 p2)), .second, .unset] [(.long (v0_6 p0 p1 p2)), (.long (v0_44 p0 p1 p2))])) rfl (hb hby at_62) _ ?_
    show Steps p.tables e below (s₁.setTop (mkF m 65 #[.val (.int p0), .val (.int p1), .val (.int p2), .val (.long (v0_6 p0 p1 p2)), .second, .val (.long (j0_10_l5 p0 p1 p2)), .second, .val (.long (v0_36 p0 p1 p2)), .second, .val (.long (v0_44 p0 p1 p2)), .second, .unset] [(.long (1000 : Int64)), (.long (v0_6 p0 p1 p2)), (.long (v0_44 p0 p1 p2))])) _
    refine XS.lsub X0.here hx rfl (hb hby at_65) rfl ?_
    show Steps p.tables e below (s₁.setTop (mkF m 66 #[.val (.int p0), .val (.int p1), .val (.int p2), .val (.long (v0_6 p0 p1 p2)), .second, .val (.long (j0_10_l5 p0 p1 p2)), .second, .val (.long (v0_36 p0 p1 p2)), .second, .val (.long (v0_44 p0 p1 p2)), .second, .unset] [(.long ((v0_6 p0 p1 p2) - (1000 : Int64))), (.long (v0_44 p0 p1 p2))])) _
    refine XS.lcmp X0.here hx rfl (hb hby at_66) rfl ?_
    show Steps p.tables e below (s₁.setTop (mkF m 67 #[.val (.int p0), .val (.int p1), .val (.int p2), .val (.long (v0_6 p0 p1 p2)), .second, .val (.long (j0_10_l5 p0 p1 p2)), .second, .val (.long (v0_36 p0 p1 p2)), .second, .val (.long (v0_44 p0 p1 p2)), .second, .unset] [(.int (lcmpW (v0_44 p0 p1 p2) ((v0_6 p0 p1 p2) - (1000 : Int64))))])) _
    refine XS.ifNo X0.here hx rfl (hb hby at_67) rfl hc67 ?_
    show Steps p.tables e below (s₁.setTop (mkF m 70 #[.val (.int p0), .val (.int p1), .val (.int p2), .val (.long (v0_6 p0 p1 p2)), .second, .val (.long (j0_10_l5 p0 p1 p2)), .second, .val (.long (v0_36 p0 p1 p2)), .second, .val (.long (v0_44 p0 p1 p2)), .second, .unset] [])) _
    refine XS.iconst X0.here hx rfl (hb hby at_70) ?_
    show Steps p.tables e below (s₁.setTop (mkF m 71 #[.val (.int p0), .val (.int p1), .val (.int p2), .val (.long (v0_6 p0 p1 p2)), .second, .val (.long (j0_10_l5 p0 p1 p2)), .second, .val (.long (v0_36 p0 p1 p2)), .second, .val (.long (v0_44 p0 p1 p2)), .second, .unset] [(.int (1 : Int32))])) _
    refine XS.istore X0.here hx rfl (hb hby at_71) rfl (l' := #[.val (.int p0), .val (.int p1), .val (.int p2), .val (.long (v0_6 p0 p1 p2)), .second, .val (.long (j0_10_l5 p0 p1 p2)), .second, .val (.long (v0_36 p0 p1 p2)), .second, .val (.long (v0_44 p0 p1 p2)), .second, .val (.int (1 : Int32))]) rfl ?_
    show Steps p.tables e below (s₁.setTop (mkF m 73 #[.val (.int p0), .val (.int p1), .val (.int p2), .val (.long (v0_6 p0 p1 p2)), .second, .val (.long (j0_10_l5 p0 p1 p2)), .second, .val (.long (v0_36 p0 p1 p2)), .second, .val (.long (v0_44 p0 p1 p2)), .second, .val (.int (1 : Int32))] [])) _
    refine XS.goto X0.here hx rfl (pc0 := 73) (pc' := 95) rfl (hb hby at_73) (by decide) (by decide) ?_
    show Steps p.tables e below (s₁.setTop (mkF m 95 #[.val (.int p0), .val (.int p1), .val (.int p2), .val (.long (v0_6 p0 p1 p2)), .second, .val (.long (j0_10_l5 p0 p1 p2)), .second, .val (.long (v0_36 p0 p1 p2)), .second, .val (.long (v0_44 p0 p1 p2)), .second, .val (.int (1 : Int32))] [])) _
    refine XS.lload X0.here hx rfl (hb hby at_95) rfl ?_
    show Steps p.tables e below (s₁.setTop (mkF m 97 #[.val (.int p0), .val (.int p1), .val (.int p2), .val (.long (v0_6 p0 p1 p2)), .second, .val (.long (j0_10_l5 p0 p1 p2)), .second, .val (.long (v0_36 p0 p1 p2)), .second, .val (.long (v0_44 p0 p1 p2)), .second, .val (.int (1 : Int32))] [(.long (j0_10_l5 p0 p1 p2))])) _
    refine XS.l2dS X0.here hx rfl (hb hby at_97) rfl rfl ?_
    show Steps p.tables e below (s₁.setTop (mkF m 98 #[.val (.int p0), .val (.int p1), .val (.int p2), .val (.long (v0_6 p0 p1 p2)), .second, .val (.long (j0_10_l5 p0 p1 p2)), .second, .val (.long (v0_36 p0 p1 p2)), .second, .val (.long (v0_44 p0 p1 p2)), .second, .val (.int (1 : Int32))] [(.double (FP.l2d (j0_10_l5 p0 p1 p2)))])) _
    refine XS.lloadN X0.here hx rfl (hb hby at_98) rfl ?_
    show Steps p.tables e below (s₁.setTop (mkF m 99 #[.val (.int p0), .val (.int p1), .val (.int p2), .val (.long (v0_6 p0 p1 p2)), .second, .val (.long (j0_10_l5 p0 p1 p2)), .second, .val (.long (v0_36 p0 p1 p2)), .second, .val (.long (v0_44 p0 p1 p2)), .second, .val (.int (1 : Int32))] [(.long (v0_6 p0 p1 p2)), (.double (FP.l2d (j0_10_l5 p0 p1 p2)))])) _
    refine XS.l2dS X0.here hx rfl (hb hby at_99) rfl rfl ?_
    show Steps p.tables e below (s₁.setTop (mkF m 100 #[.val (.int p0), .val (.int p1), .val (.int p2), .val (.long (v0_6 p0 p1 p2)), .second, .val (.long (j0_10_l5 p0 p1 p2)), .second, .val (.long (v0_36 p0 p1 p2)), .second, .val (.long (v0_44 p0 p1 p2)), .second, .val (.int (1 : Int32))] [(.double (FP.l2d (v0_6 p0 p1 p2))), (.double (FP.l2d (j0_10_l5 p0 p1 p2)))])) _
    refine st1 _ ?_
    show Steps p.tables e below (T1.setTop (mkF m 103 #[.val (.int p0), .val (.int p1), .val (.int p2), .val (.long (v0_6 p0 p1 p2)), .second, .val (.long (j0_10_l5 p0 p1 p2)), .second, .val (.long (v0_36 p0 p1 p2)), .second, .val (.long (v0_44 p0 p1 p2)), .second, .val (.int (1 : Int32))] [(.int (nar .boolean (j1_9_s0 (FP.l2d (j0_10_l5 p0 p1 p2)) (FP.l2d (v0_6 p0 p1 p2)))))])) _
    refine XS.iload X1.here hx rfl (hb hby at_103) rfl ?_
    show Steps p.tables e below (T1.setTop (mkF m 105 #[.val (.int p0), .val (.int p1), .val (.int p2), .val (.long (v0_6 p0 p1 p2)), .second, .val (.long (j0_10_l5 p0 p1 p2)), .second, .val (.long (v0_36 p0 p1 p2)), .second, .val (.long (v0_44 p0 p1 p2)), .second, .val (.int (1 : Int32))] [(.int (1 : Int32)), (.int (nar .boolean (j1_9_s0 (FP.l2d (j0_10_l5 p0 p1 p2)) (FP.l2d (v0_6 p0 p1 p2)))))])) _
    suffices kt105 : Steps p.tables e below (T1.setTop (mkF m 113 #[.val (.int p0), .val (.int p1), .val (.int p2), .val (.long (v0_6 p0 p1 p2)), .second, .val (.long (j0_10_l5 p0 p1 p2)), .second, .val (.long (v0_36 p0 p1 p2)), .second, .val (.long (v0_44 p0 p1 p2)), .second, .val (.int (1 : Int32))] [(.int (j0_105_s0 p0 p1 p2))])) (T1.setFrames fs) by
      by_cases hc105 : if_icmp.holds .ne (nar .boolean (j1_9_s0 (FP.l2d (j0_10_l5 p0 p1 p2)) (FP.l2d (v0_6 p0 p1 p2)))) (1 : Int32) = true
      · rw [show (j0_105_s0 p0 p1 p2) = (0 : Int32) from if_pos hc105] at kt105
        refine XS.icmpYes X1.here hx rfl (pc0 := 105) (pc' := 112) rfl (hb hby at_105) rfl hc105 (by decide) (by decide) ?_
        show Steps p.tables e below (T1.setTop (mkF m 112 #[.val (.int p0), .val (.int p1), .val (.int p2), .val (.long (v0_6 p0 p1 p2)), .second, .val (.long (j0_10_l5 p0 p1 p2)), .second, .val (.long (v0_36 p0 p1 p2)), .second, .val (.long (v0_44 p0 p1 p2)), .second, .val (.int (1 : Int32))] [])) _
        refine XS.iconst X1.here hx rfl (hb hby at_112) ?_
        exact kt105
      · rw [show (j0_105_s0 p0 p1 p2) = (1 : Int32) from if_neg hc105] at kt105
        refine XS.icmpNo X1.here hx rfl (hb hby at_105) rfl (eq_false_of_ne_true hc105) ?_
        show Steps p.tables e below (T1.setTop (mkF m 108 #[.val (.int p0), .val (.int p1), .val (.int p2), .val (.long (v0_6 p0 p1 p2)), .second, .val (.long (j0_10_l5 p0 p1 p2)), .second, .val (.long (v0_36 p0 p1 p2)), .second, .val (.long (v0_44 p0 p1 p2)), .second, .val (.int (1 : Int32))] [])) _
        refine XS.iconst X1.here hx rfl (hb hby at_108) ?_
        show Steps p.tables e below (T1.setTop (mkF m 109 #[.val (.int p0), .val (.int p1), .val (.int p2), .val (.long (v0_6 p0 p1 p2)), .second, .val (.long (j0_10_l5 p0 p1 p2)), .second, .val (.long (v0_36 p0 p1 p2)), .second, .val (.long (v0_44 p0 p1 p2)), .second, .val (.int (1 : Int32))] [(.int (1 : Int32))])) _
        refine XS.goto X1.here hx rfl (pc0 := 109) (pc' := 113) rfl (hb hby at_109) (by decide) (by decide) ?_
        exact kt105
    show Steps p.tables e below (T1.setTop (mkF m 113 #[.val (.int p0), .val (.int p1), .val (.int p2), .val (.long (v0_6 p0 p1 p2)), .second, .val (.long (j0_10_l5 p0 p1 p2)), .second, .val (.long (v0_36 p0 p1 p2)), .second, .val (.long (v0_44 p0 p1 p2)), .second, .val (.int (1 : Int32))] [(.int (j0_105_s0 p0 p1 p2))])) _
    rw [hres113]
    exact retN X1 hx (t := .boolean) Bd.returns (by simp) (hb hby at_113) hr
  · show Q0b Z p0 p1 p2 h0 n0 _ T1.heap _
    exact ⟨rfl, N1⟩
theorem ef_0c (m : MethodId) (p0 : Int32) (p1 : Int32) (p2 : Int32) : entryFrame m #[(.int p0), (.int p1), (.int p2)] maxLocals = mkF m 0 #[.val (.int p0), .val (.int p1), .val (.int p2), .unset, .unset, .unset, .unset, .unset, .unset, .unset, .unset, .unset] [] := by first | (simp [entryFrame, mkF, argsToLocals, Value.category, maxLocals]; done) | rfl
def Q0c (Z : State) (p0 : Int32) (p1 : Int32) (p2 : Int32) (h0 : Heap) (n0 : Nat) (v : Option Value) (h : Heap) (L : List Loc) : Prop := v = some (.int (1 : Int32)) ∧ Fr n0 L
set_option maxRecDepth 65536 in
set_option maxHeartbeats 40000000 in
theorem rm0c (l : Launch) (Z : State) (aw : Array Value) (hw : ∀ d ∈ tables_1, d.before aw Z = true) (ws : List Jvm.Cond) (p0 : Int32) (p1 : Int32) (p2 : Int32) (h0 : Heap) (n0 : Nat) (Z0 : n0 ≤ h0.size) (hc50 : ifCond.holds .gt (lcmpW (v0_36 p0 p1 p2) (0 : Int64)) = true) (hc67 : ifCond.holds .gt (lcmpW (v0_44 p0 p1 p2) ((v0_6 p0 p1 p2) - (1000 : Int64))) = true) (hc84 : ifCond.holds .lt (lcmpW (v0_44 p0 p1 p2) ((v0_6 p0 p1 p2) + (1000 : Int64))) = false) (hn6_100 : Jvm.Free.Fl.NoNaN64 (FP.dmul (FP.l2d (v0_6 p0 p1 p2)) (4472406533629990549 : UInt64))) (hn7_100 : Jvm.Free.Fl.NoNaN64 (FP.dadd (FP.l2d (v0_6 p0 p1 p2)) (FP.dmul (FP.l2d (v0_6 p0 p1 p2)) (4472406533629990549 : UInt64)))) (hres113 : (j0_105_s0' p0 p1 p2) = (1 : Int32)) :
    MetFree l x (head1 (Jvm.Cond.code x code maxLocals ret :: ws) room_1) (fun a U => a = #[(.int p0), (.int p1), (.int p2)] ∧ Z.Warmed39 U.vm ∧ U.heap = h0) (fun _ _ _ _ _ => True) (fun _ U o U' => ∃ v L, o = .returned v ∧ Q0c Z p0 p1 p2 h0 n0 v U'.heap L ∧ FrameEnd U o U' L 0 0) := by
  refine MetFree.of_bodySF (plainFor_of_name pn_0) hisR ?_
  intro p e s m args below meth c s₁ Bd hml0 hP hK
  obtain ⟨rfl, hZ, hh⟩ := hP
  have hx := Bd.exec
  have hby := Bd.bytes
  have hml : c.maxLocals = 12 := hml0
  have hown : s.vm.findClass "com/example/fogweave/fogweave/core/LimitsAtMostPinLaw" = some m.cls := findClass_of_methodNamed Bd.named
  have hnm := (name_of_methodNamed Bd.named Bd.method).1
  have X0 : Stand p l e room_1 s m #[(.int p0), (.int p1), (.int p2)] below meth c s₁ [] 0 0 := Stand.of_body Bd
  have e0 : s₁.heap = h0 := by rw [← hh, Bd.state]; rfl
  have N0 := Fr.nil n0
  have pre0 : ∀ t, Steps p.tables e below (s₁.setTop (mkF m 0 #[.val (.int p0), .val (.int p1), .val (.int p2), .unset, .unset, .unset, .unset, .unset, .unset, .unset, .unset, .unset] [])) t → Steps p.tables e below (s₁.setTop (entryFrame m #[(.int p0), (.int p1), (.int p2)] maxLocals)) t := fun t k => castTop (ef_0c m p0 p1 p2) k
  obtain ⟨_, _, ⟨T1, L1, k1, n1⟩, -, X1, ⟨Lc1, hQ1, l1, y1, z1'⟩, st1⟩ := Jvm.LawKit.callS X0 hx (y := (⟨"com/example/fogweave/fogweave/core/Limits", "atMost", "(DD)Z"⟩ : MethodName)) hown (mvT hZ (hw _ (List.mem_of_getElem? (i := 3) rfl))) (mvT hZ (hw _ (List.mem_of_getElem? (i := 4) rfl))) (mvT hZ (hw _ (List.mem_of_getElem? (i := 5) rfl))) (mvT hZ (hw _ (List.mem_of_getElem? (i := 6) rfl))) (by decide) (backOf (W := 0) (rm1 l Z aw hw [] (FP.l2d (j0_10_l5 p0 p1 p2)) (FP.l2d (v0_6 p0 p1 p2)) h0 n0 Z0 hn6_100 hn7_100) hZ (hw _ (List.mem_of_getElem? (i := 6) rfl)) (hw _ (List.mem_of_getElem? (i := 5) rfl)) (by decide) (by decide)) (g := (mkF m 100 #[.val (.int p0), .val (.int p1), .val (.int p2), .val (.long (v0_6 p0 p1 p2)), .second, .val (.long (j0_10_l5 p0 p1 p2)), .second, .val (.long (v0_36 p0 p1 p2)), .second, .val (.long (v0_44 p0 p1 p2)), .second, .val (.int (0 : Int32))] [(.double (FP.l2d (v0_6 p0 p1 p2))), (.double (FP.l2d (j0_10_l5 p0 p1 p2)))])) rfl (by rw [hml]; rfl) (argsL := [(.double (FP.l2d (j0_10_l5 p0 p1 p2))), (.double (FP.l2d (v0_6 p0 p1 p2)))]) (rest := []) (lenOf pd_0 rfl) rfl (by show 2 * 0 + _ ≤ _; exact Nat.le_of_eq rfl) (hb hby at_100) (fun _ _ => ⟨rfl, e0, (by decide : 0 + 0 ≤ _), (by decide : 0 + 0 ≤ _)⟩)
  dsimp only [Pt.U, Pt.locs, Pt.cells, Pt.slots] at X1 l1 y1 z1' st1 hQ1
  subst l1 y1 z1'
  obtain ⟨rfl, N1q, hq1⟩ := hQ1
  have z1 : n0 ≤ T1.heap.size := by rw [hq1]; exact Z0
  have N1 := Fr.app N0 N1q
  obtain ⟨fs, hr, hrun, hended, hW, hsame⟩ := X1.leave (v := some (.int (1 : Int32))) (fun h => by rw [Bd.returns] at h; cases h)
  refine ⟨_, _, pre0 _ ?_, hrun, hended, _, _, rfl, ?_, ⟨_, rfl⟩, hW, hsame.mono (by decide) (by decide)⟩
  · show Steps p.tables e below (s₁.setTop (mkF m 0 #[.val (.int p0), .val (.int p1), .val (.int p2), .unset, .unset, .unset, .unset, .unset, .unset, .unset, .unset, .unset] [])) _
    refine XS.iloadN X0.here hx rfl (hb hby at_0) rfl ?_
    show Steps p.tables e below (s₁.setTop (mkF m 1 #[.val (.int p0), .val (.int p1), .val (.int p2), .unset, .unset, .unset, .unset, .unset, .unset, .unset, .unset, .unset] [(.int p0)])) _
    refine XS.i2l X0.here hx rfl (hb hby at_1) rfl ?_
    show Steps p.tables e below (s₁.setTop (mkF m 2 #[.val (.int p0), .val (.int p1), .val (.int p2), .unset, .unset, .unset, .unset, .unset, .unset, .unset, .unset, .unset] [(.long (p0.toInt64))])) _
    refine X0.ldc2Long hx hown (mvT hZ (hw _ (List.mem_of_getElem? (i := 0) rfl))) (g := (mkF m 2 #[.val (.int p0), .val (.int p1), .val (.int p2), .unset, .unset, .unset, .unset, .unset, .unset, .unset, .unset, .unset] [(.long (p0.toInt64))])) rfl (hb hby at_2) _ ?_
    show Steps p.tables e below (s₁.setTop (mkF m 5 #[.val (.int p0), .val (.int p1), .val (.int p2), .unset, .unset, .unset, .unset, .unset, .unset, .unset, .unset, .unset] [(.long (2147483647 : Int64)), (.long (p0.toInt64))])) _
    refine XS.land X0.here hx rfl (hb hby at_5) rfl ?_
    show Steps p.tables e below (s₁.setTop (mkF m 6 #[.val (.int p0), .val (.int p1), .val (.int p2), .unset, .unset, .unset, .unset, .unset, .unset, .unset, .unset, .unset] [(.long ((p0.toInt64) &&& (2147483647 : Int64)))])) _
    refine XS.lstoreN X0.here hx rfl (hb hby at_6) rfl (l' := #[.val (.int p0), .val (.int p1), .val (.int p2), .val (.long (v0_6 p0 p1 p2)), .second, .unset, .unset, .unset, .unset, .unset, .unset, .unset]) rfl ?_
    show Steps p.tables e below (s₁.setTop (mkF m 7 #[.val (.int p0), .val (.int p1), .val (.int p2), .val (.long (v0_6 p0 p1 p2)), .second, .unset, .unset, .unset, .unset, .unset, .unset, .unset] [])) _
    refine XS.iloadN X0.here hx rfl (hb hby at_7) rfl ?_
    show Steps p.tables e below (s₁.setTop (mkF m 8 #[.val (.int p0), .val (.int p1), .val (.int p2), .val (.long (v0_6 p0 p1 p2)), .second, .unset, .unset, .unset, .unset, .unset, .unset, .unset] [(.int p2)])) _
    refine XS.iconst X0.here hx rfl (hb hby at_8) ?_
    show Steps p.tables e below (s₁.setTop (mkF m 9 #[.val (.int p0), .val (.int p1), .val (.int p2), .val (.long (v0_6 p0 p1 p2)), .second, .unset, .unset, .unset, .unset, .unset, .unset, .unset] [(.int (1 : Int32)), (.int p2)])) _
    refine XS.iand X0.here hx rfl (hb hby at_9) rfl ?_
    show Steps p.tables e below (s₁.setTop (mkF m 10 #[.val (.int p0), .val (.int p1), .val (.int p2), .val (.long (v0_6 p0 p1 p2)), .second, .unset, .unset, .unset, .unset, .unset, .unset, .unset] [(.int (p2 &&& (1 : Int32)))])) _
    suffices kt10 : Steps p.tables e below (s₁.setTop (mkF m 32 #[.val (.int p0), .val (.int p1), .val (.int p2), .val (.long (v0_6 p0 p1 p2)), .second, .val (.long (j0_10_l5 p0 p1 p2)), .second, .unset, .unset, .unset, .unset, .unset] [])) (T1.setFrames fs) by
      by_cases hc10 : ifCond.holds .eq (p2 &&& (1 : Int32)) = true
      · rw [show (j0_10_l5 p0 p1 p2) = (p1.toInt64) from if_pos hc10] at kt10
        refine XS.ifYes X0.here hx rfl (pc0 := 10) (pc' := 28) rfl (hb hby at_10) rfl hc10 (by decide) (by decide) ?_
        show Steps p.tables e below (s₁.setTop (mkF m 28 #[.val (.int p0), .val (.int p1), .val (.int p2), .val (.long (v0_6 p0 p1 p2)), .second, .unset, .unset, .unset, .unset, .unset, .unset, .unset] [])) _
        refine XS.iloadN X0.here hx rfl (hb hby at_28) rfl ?_
        show Steps p.tables e below (s₁.setTop (mkF m 29 #[.val (.int p0), .val (.int p1), .val (.int p2), .val (.long (v0_6 p0 p1 p2)), .second, .unset, .unset, .unset, .unset, .unset, .unset, .unset] [(.int p1)])) _
        refine XS.i2l X0.here hx rfl (hb hby at_29) rfl ?_
        show Steps p.tables e below (s₁.setTop (mkF m 30 #[.val (.int p0), .val (.int p1), .val (.int p2), .val (.long (v0_6 p0 p1 p2)), .second, .unset, .unset, .unset, .unset, .unset, .unset, .unset] [(.long (p1.toInt64))])) _
        refine XS.lstore X0.here hx rfl (hb hby at_30) rfl (l' := #[.val (.int p0), .val (.int p1), .val (.int p2), .val (.long (v0_6 p0 p1 p2)), .second, .val (.long (p1.toInt64)), .second, .unset, .unset, .unset, .unset, .unset]) rfl ?_
        exact kt10
      · rw [show (j0_10_l5 p0 p1 p2) = ((v0_6 p0 p1 p2) + (((p1 &&& (15 : Int32)) - (8 : Int32)).toInt64)) from if_neg hc10] at kt10
        refine XS.ifNo X0.here hx rfl (hb hby at_10) rfl (eq_false_of_ne_true hc10) ?_
        show Steps p.tables e below (s₁.setTop (mkF m 13 #[.val (.int p0), .val (.int p1), .val (.int p2), .val (.long (v0_6 p0 p1 p2)), .second, .unset, .unset, .unset, .unset, .unset, .unset, .unset] [])) _
        refine XS.lloadN X0.here hx rfl (hb hby at_13) rfl ?_
        show Steps p.tables e below (s₁.setTop (mkF m 14 #[.val (.int p0), .val (.int p1), .val (.int p2), .val (.long (v0_6 p0 p1 p2)), .second, .unset, .unset, .unset, .unset, .unset, .unset, .unset] [(.long (v0_6 p0 p1 p2))])) _
        refine XS.iloadN X0.here hx rfl (hb hby at_14) rfl ?_
        show Steps p.tables e below (s₁.setTop (mkF m 15 #[.val (.int p0), .val (.int p1), .val (.int p2), .val (.long (v0_6 p0 p1 p2)), .second, .unset, .unset, .unset, .unset, .unset, .unset, .unset] [(.int p1), (.long (v0_6 p0 p1 p2))])) _
        refine XS.bipush X0.here hx rfl (hb hby at_15) ?_
        show Steps p.tables e below (s₁.setTop (mkF m 17 #[.val (.int p0), .val (.int p1), .val (.int p2), .val (.long (v0_6 p0 p1 p2)), .second, .unset, .unset, .unset, .unset, .unset, .unset, .unset] [(.int (15 : Int32)), (.int p1), (.long (v0_6 p0 p1 p2))])) _
        refine XS.iand X0.here hx rfl (hb hby at_17) rfl ?_
        show Steps p.tables e below (s₁.setTop (mkF m 18 #[.val (.int p0), .val (.int p1), .val (.int p2), .val (.long (v0_6 p0 p1 p2)), .second, .unset, .unset, .unset, .unset, .unset, .unset, .unset] [(.int (p1 &&& (15 : Int32))), (.long (v0_6 p0 p1 p2))])) _
        refine XS.bipush X0.here hx rfl (hb hby at_18) ?_
        show Steps p.tables e below (s₁.setTop (mkF m 20 #[.val (.int p0), .val (.int p1), .val (.int p2), .val (.long (v0_6 p0 p1 p2)), .second, .unset, .unset, .unset, .unset, .unset, .unset, .unset] [(.int (8 : Int32)), (.int (p1 &&& (15 : Int32))), (.long (v0_6 p0 p1 p2))])) _
        refine XS.isub X0.here hx rfl (hb hby at_20) rfl ?_
        show Steps p.tables e below (s₁.setTop (mkF m 21 #[.val (.int p0), .val (.int p1), .val (.int p2), .val (.long (v0_6 p0 p1 p2)), .second, .unset, .unset, .unset, .unset, .unset, .unset, .unset] [(.int ((p1 &&& (15 : Int32)) - (8 : Int32))), (.long (v0_6 p0 p1 p2))])) _
        refine XS.i2l X0.here hx rfl (hb hby at_21) rfl ?_
        show Steps p.tables e below (s₁.setTop (mkF m 22 #[.val (.int p0), .val (.int p1), .val (.int p2), .val (.long (v0_6 p0 p1 p2)), .second, .unset, .unset, .unset, .unset, .unset, .unset, .unset] [(.long (((p1 &&& (15 : Int32)) - (8 : Int32)).toInt64)), (.long (v0_6 p0 p1 p2))])) _
        refine XS.ladd X0.here hx rfl (hb hby at_22) rfl ?_
        show Steps p.tables e below (s₁.setTop (mkF m 23 #[.val (.int p0), .val (.int p1), .val (.int p2), .val (.long (v0_6 p0 p1 p2)), .second, .unset, .unset, .unset, .unset, .unset, .unset, .unset] [(.long ((v0_6 p0 p1 p2) + (((p1 &&& (15 : Int32)) - (8 : Int32)).toInt64)))])) _
        refine XS.lstore X0.here hx rfl (hb hby at_23) rfl (l' := #[.val (.int p0), .val (.int p1), .val (.int p2), .val (.long (v0_6 p0 p1 p2)), .second, .val (.long ((v0_6 p0 p1 p2) + (((p1 &&& (15 : Int32)) - (8 : Int32)).toInt64))), .second, .unset, .unset, .unset, .unset, .unset]) rfl ?_
        show Steps p.tables e below (s₁.setTop (mkF m 25 #[.val (.int p0), .val (.int p1), .val (.int p2), .val (.long (v0_6 p0 p1 p2)), .second, .val (.long ((v0_6 p0 p1 p2) + (((p1 &&& (15 : Int32)) - (8 : Int32)).toInt64))), .second, .unset, .unset, .unset, .unset, .unset] [])) _
        refine XS.goto X0.here hx rfl (pc0 := 25) (pc' := 32) rfl (hb hby at_25) (by decide) (by decide) ?_
        exact kt10
    show Steps p.tables e below (s₁.setTop (mkF m 32 #[.val (.int p0), .val (.int p1), .val (.int p2), .val (.long (v0_6 p0 p1 p2)), .second, .val (.long (j0_10_l5 p0 p1 p2)), .second, .unset, .unset, .unset, .unset, .unset] [])) _
    refine XS.lload X0.here hx rfl (hb hby at_32) rfl ?_
    show Steps p.tables e below (s₁.setTop (mkF m 34 #[.val (.int p0), .val (.int p1), .val (.int p2), .val (.long (v0_6 p0 p1 p2)), .second, .val (.long (j0_10_l5 p0 p1 p2)), .second, .unset, .unset, .unset, .unset, .unset] [(.long (j0_10_l5 p0 p1 p2))])) _
    refine XS.lloadN X0.here hx rfl (hb hby at_34) rfl ?_
    show Steps p.tables e below (s₁.setTop (mkF m 35 #[.val (.int p0), .val (.int p1), .val (.int p2), .val (.long (v0_6 p0 p1 p2)), .second, .val (.long (j0_10_l5 p0 p1 p2)), .second, .unset, .unset, .unset, .unset, .unset] [(.long (v0_6 p0 p1 p2)), (.long (j0_10_l5 p0 p1 p2))])) _
    refine XS.lsub X0.here hx rfl (hb hby at_35) rfl ?_
    show Steps p.tables e below (s₁.setTop (mkF m 36 #[.val (.int p0), .val (.int p1), .val (.int p2), .val (.long (v0_6 p0 p1 p2)), .second, .val (.long (j0_10_l5 p0 p1 p2)), .second, .unset, .unset, .unset, .unset, .unset] [(.long ((j0_10_l5 p0 p1 p2) - (v0_6 p0 p1 p2)))])) _
    refine XS.lstore X0.here hx rfl (hb hby at_36) rfl (l' := #[.val (.int p0), .val (.int p1), .val (.int p2), .val (.long (v0_6 p0 p1 p2)), .second, .val (.long (j0_10_l5 p0 p1 p2)), .second, .val (.long (v0_36 p0 p1 p2)), .second, .unset, .unset, .unset]) rfl ?_
    show Steps p.tables e below (s₁.setTop (mkF m 38 #[.val (.int p0), .val (.int p1), .val (.int p2), .val (.long (v0_6 p0 p1 p2)), .second, .val (.long (j0_10_l5 p0 p1 p2)), .second, .val (.long (v0_36 p0 p1 p2)), .second, .unset, .unset, .unset] [])) _
    refine X0.ldc2Long hx hown (mvT hZ (hw _ (List.mem_of_getElem? (i := 1) rfl))) (g := (mkF m 38 #[.val (.int p0), .val (.int p1), .val (.int p2), .val (.long (v0_6 p0 p1 p2)), .second, .val (.long (j0_10_l5 p0 p1 p2)), .second, .val (.long (v0_36 p0 p1 p2)), .second, .unset, .unset, .unset] [])) rfl (hb hby at_38) _ ?_
    show Steps p.tables e below (s₁.setTop (mkF m 41 #[.val (.int p0), .val (.int p1), .val (.int p2), .val (.long (v0_6 p0 p1 p2)), .second, .val (.long (j0_10_l5 p0 p1 p2)), .second, .val (.long (v0_36 p0 p1 p2)), .second, .unset, .unset, .unset] [(.long (1000000000 : Int64))])) _
    refine XS.lload X0.here hx rfl (hb hby at_41) rfl ?_
    show Steps p.tables e below (s₁.setTop (mkF m 43 #[.val (.int p0), .val (.int p1), .val (.int p2), .val (.long (v0_6 p0 p1 p2)), .second, .val (.long (j0_10_l5 p0 p1 p2)), .second, .val (.long (v0_36 p0 p1 p2)), .second, .unset, .unset, .unset] [(.long (v0_36 p0 p1 p2)), (.long (1000000000 : Int64))])) _
    refine XS.lmul X0.here hx rfl (hb hby at_43) rfl ?_
    show Steps p.tables e below (s₁.setTop (mkF m 44 #[.val (.int p0), .val (.int p1), .val (.int p2), .val (.long (v0_6 p0 p1 p2)), .second, .val (.long (j0_10_l5 p0 p1 p2)), .second, .val (.long (v0_36 p0 p1 p2)), .second, .unset, .unset, .unset] [(.long ((1000000000 : Int64) * (v0_36 p0 p1 p2)))])) _
    refine XS.lstore X0.here hx rfl (hb hby at_44) rfl (l' := #[.val (.int p0), .val (.int p1), .val (.int p2), .val (.long (v0_6 p0 p1 p2)), .second, .val (.long (j0_10_l5 p0 p1 p2)), .second, .val (.long (v0_36 p0 p1 p2)), .second, .val (.long (v0_44 p0 p1 p2)), .second, .unset]) rfl ?_
    show Steps p.tables e below (s₁.setTop (mkF m 46 #[.val (.int p0), .val (.int p1), .val (.int p2), .val (.long (v0_6 p0 p1 p2)), .second, .val (.long (j0_10_l5 p0 p1 p2)), .second, .val (.long (v0_36 p0 p1 p2)), .second, .val (.long (v0_44 p0 p1 p2)), .second, .unset] [])) _
    refine XS.lload X0.here hx rfl (hb hby at_46) rfl ?_
    show Steps p.tables e below (s₁.setTop (mkF m 48 #[.val (.int p0), .val (.int p1), .val (.int p2), .val (.long (v0_6 p0 p1 p2)), .second, .val (.long (j0_10_l5 p0 p1 p2)), .second, .val (.long (v0_36 p0 p1 p2)), .second, .val (.long (v0_44 p0 p1 p2)), .second, .unset] [(.long (v0_36 p0 p1 p2))])) _
    refine XS.lconst X0.here hx rfl (hb hby at_48) ?_
    show Steps p.tables e below (s₁.setTop (mkF m 49 #[.val (.int p0), .val (.int p1), .val (.int p2), .val (.long (v0_6 p0 p1 p2)), .second, .val (.long (j0_10_l5 p0 p1 p2)), .second, .val (.long (v0_36 p0 p1 p2)), .second, .val (.long (v0_44 p0 p1 p2)), .second, .unset] [(.long (0 : Int64)), (.long (v0_36 p0 p1 p2))])) _
    refine XS.lcmp X0.here hx rfl (hb hby at_49) rfl ?_
    show Steps p.tables e below (s₁.setTop (mkF m 50 #[.val (.int p0), .val (.int p1), .val (.int p2), .val (.long (v0_6 p0 p1 p2)), .second, .val (.long (j0_10_l5 p0 p1 p2)), .second, .val (.long (v0_36 p0 p1 p2)), .second, .val (.long (v0_44 p0 p1 p2)), .second, .unset] [(.int (lcmpW (v0_36 p0 p1 p2) (0 : Int64)))])) _
    refine XS.ifYes X0.here hx rfl (pc0 := 50) (pc' := 59) rfl (hb hby at_50) rfl hc50 (by decide) (by decide) ?_
    show Steps p.tables e below (s₁.setTop (mkF m 59 #[.val (.int p0), .val (.int p1), .val (.int p2), .val (.long (v0_6 p0 p1 p2)), .second, .val (.long (j0_10_l5 p0 p1 p2)), .second, .val (.long (v0_36 p0 p1 p2)), .second, .val (.long (v0_44 p0 p1 p2)), .second, .unset] [])) _
    refine XS.lload X0.here hx rfl (hb hby at_59) rfl ?_
    show Steps p.tables e below (s₁.setTop (mkF m 61 #[.val (.int p0), .val (.int p1), .val (.int p2), .val (.long (v0_6 p0 p1 p2)), .second, .val (.long (j0_10_l5 p0 p1 p2)), .second, .val (.long (v0_36 p0 p1 p2)), .second, .val (.long (v0_44 p0 p1 p2)), .second, .unset] [(.long (v0_44 p0 p1 p2))])) _
    refine XS.lloadN X0.here hx rfl (hb hby at_61) rfl ?_
    show Steps p.tables e below (s₁.setTop (mkF m 62 #[.val (.int p0), .val (.int p1), .val (.int p2), .val (.long (v0_6 p0 p1 p2)), .second, .val (.long (j0_10_l5 p0 p1 p2)), .second, .val (.long (v0_36 p0 p1 p2)), .second, .val (.long (v0_44 p0 p1 p2)), .second, .unset] [(.long (v0_6 p0 p1 p2)), (.long (v0_44 p0 p1 p2))])) _
    refine X0.ldc2Long hx hown (mvT hZ (hw _ (List.mem_of_getElem? (i := 2) rfl))) (g := (mkF m 62 #[.val (.int p0), .val (.int p1), .val (.int p2), .val (.long (v0_6 p0 p1 p2)), .second, .val (.long (j0_10_l5 p0 p1 p2)), .second, .val (.long (v0_36 p0 p1 p2)), .second, .val (.long (v0_44 p0 p1 p2)), .second, .unset] [(.long (v0_6 p0 p1 p2)), (.long (v0_44 p0 p1 p2))])) rfl (hb hby at_62) _ ?_
    show Steps p.tables e below (s₁.setTop (mkF m 65 #[.val (.int p0), .val (.int p1), .val (.int p2), .val (.long (v0_6 p0 p1 p2)), .second, .val (.long (j0_10_l5 p0 p1 p2)), .second, .val (.long (v0_36 p0 p1 p2)), .second, .val (.long (v0_44 p0 p1 p2)), .second, .unset] [(.long (1000 : Int64)), (.long (v0_6 p0 p1 p2)), (.long (v0_44 p0 p1 p2))])) _
    refine XS.lsub X0.here hx rfl (hb hby at_65) rfl ?_
    show Steps p.tables e below (s₁.setTop (mkF m 66 #[.val (.int p0), .val (.int p1), .val (.int p2), .val (.long (v0_6 p0 p1 p2)), .second, .val (.long (j0_10_l5 p0 p1 p2)), .second, .val (.long (v0_36 p0 p1 p2)), .second, .val (.long (v0_44 p0 p1 p2)), .second, .unset] [(.long ((v0_6 p0 p1 p2) - (1000 : Int64))), (.long (v0_44 p0 p1 p2))])) _
    refine XS.lcmp X0.here hx rfl (hb hby at_66) rfl ?_
    show Steps p.tables e below (s₁.setTop (mkF m 67 #[.val (.int p0), .val (.int p1), .val (.int p2), .val (.long (v0_6 p0 p1 p2)), .second, .val (.long (j0_10_l5 p0 p1 p2)), .second, .val (.long (v0_36 p0 p1 p2)), .second, .val (.long (v0_44 p0 p1 p2)), .second, .unset] [(.int (lcmpW (v0_44 p0 p1 p2) ((v0_6 p0 p1 p2) - (1000 : Int64))))])) _
    refine XS.ifYes X0.here hx rfl (pc0 := 67) (pc' := 76) rfl (hb hby at_67) rfl hc67 (by decide) (by decide) ?_
    show Steps p.tables e below (s₁.setTop (mkF m 76 #[.val (.int p0), .val (.int p1), .val (.int p2), .val (.long (v0_6 p0 p1 p2)), .second, .val (.long (j0_10_l5 p0 p1 p2)), .second, .val (.long (v0_36 p0 p1 p2)), .second, .val (.long (v0_44 p0 p1 p2)), .second, .unset] [])) _
    refine XS.lload X0.here hx rfl (hb hby at_76) rfl ?_
    show Steps p.tables e below (s₁.setTop (mkF m 78 #[.val (.int p0), .val (.int p1), .val (.int p2), .val (.long (v0_6 p0 p1 p2)), .second, .val (.long (j0_10_l5 p0 p1 p2)), .second, .val (.long (v0_36 p0 p1 p2)), .second, .val (.long (v0_44 p0 p1 p2)), .second, .unset] [(.long (v0_44 p0 p1 p2))])) _
    refine XS.lloadN X0.here hx rfl (hb hby at_78) rfl ?_
    show Steps p.tables e below (s₁.setTop (mkF m 79 #[.val (.int p0), .val (.int p1), .val (.int p2), .val (.long (v0_6 p0 p1 p2)), .second, .val (.long (j0_10_l5 p0 p1 p2)), .second, .val (.long (v0_36 p0 p1 p2)), .second, .val (.long (v0_44 p0 p1 p2)), .second, .unset] [(.long (v0_6 p0 p1 p2)), (.long (v0_44 p0 p1 p2))])) _
    refine X0.ldc2Long hx hown (mvT hZ (hw _ (List.mem_of_getElem? (i := 2) rfl))) (g := (mkF m 79 #[.val (.int p0), .val (.int p1), .val (.int p2), .val (.long (v0_6 p0 p1 p2)), .second, .val (.long (j0_10_l5 p0 p1 p2)), .second, .val (.long (v0_36 p0 p1 p2)), .second, .val (.long (v0_44 p0 p1 p2)), .second, .unset] [(.long (v0_6 p0 p1 p2)), (.long (v0_44 p0 p1 p2))])) rfl (hb hby at_79) _ ?_
    show Steps p.tables e below (s₁.setTop (mkF m 82 #[.val (.int p0), .val (.int p1), .val (.int p2), .val (.long (v0_6 p0 p1 p2)), .second, .val (.long (j0_10_l5 p0 p1 p2)), .second, .val (.long (v0_36 p0 p1 p2)), .second, .val (.long (v0_44 p0 p1 p2)), .second, .unset] [(.long (1000 : Int64)), (.long (v0_6 p0 p1 p2)), (.long (v0_44 p0 p1 p2))])) _
    refine XS.ladd X0.here hx rfl (hb hby at_82) rfl ?_
    show Steps p.tables e below (s₁.setTop (mkF m 83 #[.val (.int p0), .val (.int p1), .val (.int p2), .val (.long (v0_6 p0 p1 p2)), .second, .val (.long (j0_10_l5 p0 p1 p2)), .second, .val (.long (v0_36 p0 p1 p2)), .second, .val (.long (v0_44 p0 p1 p2)), .second, .unset] [(.long ((v0_6 p0 p1 p2) + (1000 : Int64))), (.long (v0_44 p0 p1 p2))])) _
    refine XS.lcmp X0.here hx rfl (hb hby at_83) rfl ?_
    show Steps p.tables e below (s₁.setTop (mkF m 84 #[.val (.int p0), .val (.int p1), .val (.int p2), .val (.long (v0_6 p0 p1 p2)), .second, .val (.long (j0_10_l5 p0 p1 p2)), .second, .val (.long (v0_36 p0 p1 p2)), .second, .val (.long (v0_44 p0 p1 p2)), .second, .unset] [(.int (lcmpW (v0_44 p0 p1 p2) ((v0_6 p0 p1 p2) + (1000 : Int64))))])) _
    refine XS.ifNo X0.here hx rfl (hb hby at_84) rfl hc84 ?_
    show Steps p.tables e below (s₁.setTop (mkF m 87 #[.val (.int p0), .val (.int p1), .val (.int p2), .val (.long (v0_6 p0 p1 p2)), .second, .val (.long (j0_10_l5 p0 p1 p2)), .second, .val (.long (v0_36 p0 p1 p2)), .second, .val (.long (v0_44 p0 p1 p2)), .second, .unset] [])) _
    refine XS.iconst X0.here hx rfl (hb hby at_87) ?_
    show Steps p.tables e below (s₁.setTop (mkF m 88 #[.val (.int p0), .val (.int p1), .val (.int p2), .val (.long (v0_6 p0 p1 p2)), .second, .val (.long (j0_10_l5 p0 p1 p2)), .second, .val (.long (v0_36 p0 p1 p2)), .second, .val (.long (v0_44 p0 p1 p2)), .second, .unset] [(.int (0 : Int32))])) _
    refine XS.istore X0.here hx rfl (hb hby at_88) rfl (l' := #[.val (.int p0), .val (.int p1), .val (.int p2), .val (.long (v0_6 p0 p1 p2)), .second, .val (.long (j0_10_l5 p0 p1 p2)), .second, .val (.long (v0_36 p0 p1 p2)), .second, .val (.long (v0_44 p0 p1 p2)), .second, .val (.int (0 : Int32))]) rfl ?_
    show Steps p.tables e below (s₁.setTop (mkF m 90 #[.val (.int p0), .val (.int p1), .val (.int p2), .val (.long (v0_6 p0 p1 p2)), .second, .val (.long (j0_10_l5 p0 p1 p2)), .second, .val (.long (v0_36 p0 p1 p2)), .second, .val (.long (v0_44 p0 p1 p2)), .second, .val (.int (0 : Int32))] [])) _
    refine XS.goto X0.here hx rfl (pc0 := 90) (pc' := 95) rfl (hb hby at_90) (by decide) (by decide) ?_
    show Steps p.tables e below (s₁.setTop (mkF m 95 #[.val (.int p0), .val (.int p1), .val (.int p2), .val (.long (v0_6 p0 p1 p2)), .second, .val (.long (j0_10_l5 p0 p1 p2)), .second, .val (.long (v0_36 p0 p1 p2)), .second, .val (.long (v0_44 p0 p1 p2)), .second, .val (.int (0 : Int32))] [])) _
    refine XS.lload X0.here hx rfl (hb hby at_95) rfl ?_
    show Steps p.tables e below (s₁.setTop (mkF m 97 #[.val (.int p0), .val (.int p1), .val (.int p2), .val (.long (v0_6 p0 p1 p2)), .second, .val (.long (j0_10_l5 p0 p1 p2)), .second, .val (.long (v0_36 p0 p1 p2)), .second, .val (.long (v0_44 p0 p1 p2)), .second, .val (.int (0 : Int32))] [(.long (j0_10_l5 p0 p1 p2))])) _
    refine XS.l2dS X0.here hx rfl (hb hby at_97) rfl rfl ?_
    show Steps p.tables e below (s₁.setTop (mkF m 98 #[.val (.int p0), .val (.int p1), .val (.int p2), .val (.long (v0_6 p0 p1 p2)), .second, .val (.long (j0_10_l5 p0 p1 p2)), .second, .val (.long (v0_36 p0 p1 p2)), .second, .val (.long (v0_44 p0 p1 p2)), .second, .val (.int (0 : Int32))] [(.double (FP.l2d (j0_10_l5 p0 p1 p2)))])) _
    refine XS.lloadN X0.here hx rfl (hb hby at_98) rfl ?_
    show Steps p.tables e below (s₁.setTop (mkF m 99 #[.val (.int p0), .val (.int p1), .val (.int p2), .val (.long (v0_6 p0 p1 p2)), .second, .val (.long (j0_10_l5 p0 p1 p2)), .second, .val (.long (v0_36 p0 p1 p2)), .second, .val (.long (v0_44 p0 p1 p2)), .second, .val (.int (0 : Int32))] [(.long (v0_6 p0 p1 p2)), (.double (FP.l2d (j0_10_l5 p0 p1 p2)))])) _
    refine XS.l2dS X0.here hx rfl (hb hby at_99) rfl rfl ?_
    show Steps p.tables e below (s₁.setTop (mkF m 100 #[.val (.int p0), .val (.int p1), .val (.int p2), .val (.long (v0_6 p0 p1 p2)), .second, .val (.long (j0_10_l5 p0 p1 p2)), .second, .val (.long (v0_36 p0 p1 p2)), .second, .val (.long (v0_44 p0 p1 p2)), .second, .val (.int (0 : Int32))] [(.double (FP.l2d (v0_6 p0 p1 p2))), (.double (FP.l2d (j0_10_l5 p0 p1 p2)))])) _
    refine st1 _ ?_
    show Steps p.tables e below (T1.setTop (mkF m 103 #[.val (.int p0), .val (.int p1), .val (.int p2), .val (.long (v0_6 p0 p1 p2)), .second, .val (.long (j0_10_l5 p0 p1 p2)), .second, .val (.long (v0_36 p0 p1 p2)), .second, .val (.long (v0_44 p0 p1 p2)), .second, .val (.int (0 : Int32))] [(.int (nar .boolean (j1_9_s0 (FP.l2d (j0_10_l5 p0 p1 p2)) (FP.l2d (v0_6 p0 p1 p2)))))])) _
    refine XS.iload X1.here hx rfl (hb hby at_103) rfl ?_
    show Steps p.tables e below (T1.setTop (mkF m 105 #[.val (.int p0), .val (.int p1), .val (.int p2), .val (.long (v0_6 p0 p1 p2)), .second, .val (.long (j0_10_l5 p0 p1 p2)), .second, .val (.long (v0_36 p0 p1 p2)), .second, .val (.long (v0_44 p0 p1 p2)), .second, .val (.int (0 : Int32))] [(.int (0 : Int32)), (.int (nar .boolean (j1_9_s0 (FP.l2d (j0_10_l5 p0 p1 p2)) (FP.l2d (v0_6 p0 p1 p2)))))])) _
    suffices kt105 : Steps p.tables e below (T1.setTop (mkF m 113 #[.val (.int p0), .val (.int p1), .val (.int p2), .val (.long (v0_6 p0 p1 p2)), .second, .val (.long (j0_10_l5 p0 p1 p2)), .second, .val (.long (v0_36 p0 p1 p2)), .second, .val (.long (v0_44 p0 p1 p2)), .second, .val (.int (0 : Int32))] [(.int (j0_105_s0' p0 p1 p2))])) (T1.setFrames fs) by
      by_cases hc105 : if_icmp.holds .ne (nar .boolean (j1_9_s0 (FP.l2d (j0_10_l5 p0 p1 p2)) (FP.l2d (v0_6 p0 p1 p2)))) (0 : Int32) = true
      · rw [show (j0_105_s0' p0 p1 p2) = (0 : Int32) from if_pos hc105] at kt105
        refine XS.icmpYes X1.here hx rfl (pc0 := 105) (pc' := 112) rfl (hb hby at_105) rfl hc105 (by decide) (by decide) ?_
        show Steps p.tables e below (T1.setTop (mkF m 112 #[.val (.int p0), .val (.int p1), .val (.int p2), .val (.long (v0_6 p0 p1 p2)), .second, .val (.long (j0_10_l5 p0 p1 p2)), .second, .val (.long (v0_36 p0 p1 p2)), .second, .val (.long (v0_44 p0 p1 p2)), .second, .val (.int (0 : Int32))] [])) _
        refine XS.iconst X1.here hx rfl (hb hby at_112) ?_
        exact kt105
      · rw [show (j0_105_s0' p0 p1 p2) = (1 : Int32) from if_neg hc105] at kt105
        refine XS.icmpNo X1.here hx rfl (hb hby at_105) rfl (eq_false_of_ne_true hc105) ?_
        show Steps p.tables e below (T1.setTop (mkF m 108 #[.val (.int p0), .val (.int p1), .val (.int p2), .val (.long (v0_6 p0 p1 p2)), .second, .val (.long (j0_10_l5 p0 p1 p2)), .second, .val (.long (v0_36 p0 p1 p2)), .second, .val (.long (v0_44 p0 p1 p2)), .second, .val (.int (0 : Int32))] [])) _
        refine XS.iconst X1.here hx rfl (hb hby at_108) ?_
        show Steps p.tables e below (T1.setTop (mkF m 109 #[.val (.int p0), .val (.int p1), .val (.int p2), .val (.long (v0_6 p0 p1 p2)), .second, .val (.long (j0_10_l5 p0 p1 p2)), .second, .val (.long (v0_36 p0 p1 p2)), .second, .val (.long (v0_44 p0 p1 p2)), .second, .val (.int (0 : Int32))] [(.int (1 : Int32))])) _
        refine XS.goto X1.here hx rfl (pc0 := 109) (pc' := 113) rfl (hb hby at_109) (by decide) (by decide) ?_
        exact kt105
    show Steps p.tables e below (T1.setTop (mkF m 113 #[.val (.int p0), .val (.int p1), .val (.int p2), .val (.long (v0_6 p0 p1 p2)), .second, .val (.long (j0_10_l5 p0 p1 p2)), .second, .val (.long (v0_36 p0 p1 p2)), .second, .val (.long (v0_44 p0 p1 p2)), .second, .val (.int (0 : Int32))] [(.int (j0_105_s0' p0 p1 p2))])) _
    rw [hres113]
    exact retN X1 hx (t := .boolean) Bd.returns (by simp) (hb hby at_113) hr
  · show Q0c Z p0 p1 p2 h0 n0 _ T1.heap _
    exact ⟨rfl, N1⟩
theorem ef_0d (m : MethodId) (p0 : Int32) (p1 : Int32) (p2 : Int32) : entryFrame m #[(.int p0), (.int p1), (.int p2)] maxLocals = mkF m 0 #[.val (.int p0), .val (.int p1), .val (.int p2), .unset, .unset, .unset, .unset, .unset, .unset, .unset, .unset, .unset] [] := by first | (simp [entryFrame, mkF, argsToLocals, Value.category, maxLocals]; done) | rfl
def Q0d (Z : State) (p0 : Int32) (p1 : Int32) (p2 : Int32) (h0 : Heap) (n0 : Nat) (v : Option Value) (h : Heap) (L : List Loc) : Prop := v = some (.int (1 : Int32)) ∧ Fr n0 L
set_option maxRecDepth 65536 in
set_option maxHeartbeats 40000000 in
theorem rm0d (l : Launch) (Z : State) (aw : Array Value) (hw : ∀ d ∈ tables_1, d.before aw Z = true) (ws : List Jvm.Cond) (p0 : Int32) (p1 : Int32) (p2 : Int32) (h0 : Heap) (n0 : Nat) (Z0 : n0 ≤ h0.size) (hc50 : ifCond.holds .gt (lcmpW (v0_36 p0 p1 p2) (0 : Int64)) = true) (hc67 : ifCond.holds .gt (lcmpW (v0_44 p0 p1 p2) ((v0_6 p0 p1 p2) - (1000 : Int64))) = true) (hc84 : ifCond.holds .lt (lcmpW (v0_44 p0 p1 p2) ((v0_6 p0 p1 p2) + (1000 : Int64))) = true) :
    MetFree l x (head1 (Jvm.Cond.code x code maxLocals ret :: ws) room_1) (fun a U => a = #[(.int p0), (.int p1), (.int p2)] ∧ Z.Warmed39 U.vm ∧ U.heap = h0) (fun _ _ _ _ _ => True) (fun _ U o U' => ∃ v L, o = .returned v ∧ Q0d Z p0 p1 p2 h0 n0 v U'.heap L ∧ FrameEnd U o U' L 0 0) := by
  refine MetFree.of_bodySF (plainFor_of_name pn_0) hisR ?_
  intro p e s m args below meth c s₁ Bd hml0 hP hK
  obtain ⟨rfl, hZ, hh⟩ := hP
  have hx := Bd.exec
  have hby := Bd.bytes
  have hml : c.maxLocals = 12 := hml0
  have hown : s.vm.findClass "com/example/fogweave/fogweave/core/LimitsAtMostPinLaw" = some m.cls := findClass_of_methodNamed Bd.named
  have hnm := (name_of_methodNamed Bd.named Bd.method).1
  have X0 : Stand p l e room_1 s m #[(.int p0), (.int p1), (.int p2)] below meth c s₁ [] 0 0 := Stand.of_body Bd
  have e0 : s₁.heap = h0 := by rw [← hh, Bd.state]; rfl
  have N0 := Fr.nil n0
  have pre0 : ∀ t, Steps p.tables e below (s₁.setTop (mkF m 0 #[.val (.int p0), .val (.int p1), .val (.int p2), .unset, .unset, .unset, .unset, .unset, .unset, .unset, .unset, .unset] [])) t → Steps p.tables e below (s₁.setTop (entryFrame m #[(.int p0), (.int p1), (.int p2)] maxLocals)) t := fun t k => castTop (ef_0d m p0 p1 p2) k
  obtain ⟨fs, hr, hrun, hended, hW, hsame⟩ := X0.leave (v := some (.int (1 : Int32))) (fun h => by rw [Bd.returns] at h; cases h)
  refine ⟨_, _, pre0 _ ?_, hrun, hended, _, _, rfl, ?_, ⟨_, rfl⟩, hW, hsame.mono (by decide) (by decide)⟩
  · show Steps p.tables e below (s₁.setTop (mkF m 0 #[.val (.int p0), .val (.int p1), .val (.int p2), .unset, .unset, .unset, .unset, .unset, .unset, .unset, .unset, .unset] [])) _
    refine XS.iloadN X0.here hx rfl (hb hby at_0) rfl ?_
    show Steps p.tables e below (s₁.setTop (mkF m 1 #[.val (.int p0), .val (.int p1), .val (.int p2), .unset, .unset, .unset, .unset, .unset, .unset, .unset, .unset, .unset] [(.int p0)])) _
    refine XS.i2l X0.here hx rfl (hb hby at_1) rfl ?_
    show Steps p.tables e below (s₁.setTop (mkF m 2 #[.val (.int p0), .val (.int p1), .val (.int p2), .unset, .unset, .unset, .unset, .unset, .unset, .unset, .unset, .unset] [(.long (p0.toInt64))])) _
    refine X0.ldc2Long hx hown (mvT hZ (hw _ (List.mem_of_getElem? (i := 0) rfl))) (g := (mkF m 2 #[.val (.int p0), .val (.int p1), .val (.int p2), .unset, .unset, .unset, .unset, .unset, .unset, .unset, .unset, .unset] [(.long (p0.toInt64))])) rfl (hb hby at_2) _ ?_
    show Steps p.tables e below (s₁.setTop (mkF m 5 #[.val (.int p0), .val (.int p1), .val (.int p2), .unset, .unset, .unset, .unset, .unset, .unset, .unset, .unset, .unset] [(.long (2147483647 : Int64)), (.long (p0.toInt64))])) _
    refine XS.land X0.here hx rfl (hb hby at_5) rfl ?_
    show Steps p.tables e below (s₁.setTop (mkF m 6 #[.val (.int p0), .val (.int p1), .val (.int p2), .unset, .unset, .unset, .unset, .unset, .unset, .unset, .unset, .unset] [(.long ((p0.toInt64) &&& (2147483647 : Int64)))])) _
    refine XS.lstoreN X0.here hx rfl (hb hby at_6) rfl (l' := #[.val (.int p0), .val (.int p1), .val (.int p2), .val (.long (v0_6 p0 p1 p2)), .second, .unset, .unset, .unset, .unset, .unset, .unset, .unset]) rfl ?_
    show Steps p.tables e below (s₁.setTop (mkF m 7 #[.val (.int p0), .val (.int p1), .val (.int p2), .val (.long (v0_6 p0 p1 p2)), .second, .unset, .unset, .unset, .unset, .unset, .unset, .unset] [])) _
    refine XS.iloadN X0.here hx rfl (hb hby at_7) rfl ?_
    show Steps p.tables e below (s₁.setTop (mkF m 8 #[.val (.int p0), .val (.int p1), .val (.int p2), .val (.long (v0_6 p0 p1 p2)), .second, .unset, .unset, .unset, .unset, .unset, .unset, .unset] [(.int p2)])) _
    refine XS.iconst X0.here hx rfl (hb hby at_8) ?_
    show Steps p.tables e below (s₁.setTop (mkF m 9 #[.val (.int p0), .val (.int p1), .val (.int p2), .val (.long (v0_6 p0 p1 p2)), .second, .unset, .unset, .unset, .unset, .unset, .unset, .unset] [(.int (1 : Int32)), (.int p2)])) _
    refine XS.iand X0.here hx rfl (hb hby at_9) rfl ?_
    show Steps p.tables e below (s₁.setTop (mkF m 10 #[.val (.int p0), .val (.int p1), .val (.int p2), .val (.long (v0_6 p0 p1 p2)), .second, .unset, .unset, .unset, .unset, .unset, .unset, .unset] [(.int (p2 &&& (1 : Int32)))])) _
    suffices kt10 : Steps p.tables e below (s₁.setTop (mkF m 32 #[.val (.int p0), .val (.int p1), .val (.int p2), .val (.long (v0_6 p0 p1 p2)), .second, .val (.long (j0_10_l5 p0 p1 p2)), .second, .unset, .unset, .unset, .unset, .unset] [])) (s₁.setFrames fs) by
      by_cases hc10 : ifCond.holds .eq (p2 &&& (1 : Int32)) = true
      · rw [show (j0_10_l5 p0 p1 p2) = (p1.toInt64) from if_pos hc10] at kt10
        refine XS.ifYes X0.here hx rfl (pc0 := 10) (pc' := 28) rfl (hb hby at_10) rfl hc10 (by decide) (by decide) ?_
        show Steps p.tables e below (s₁.setTop (mkF m 28 #[.val (.int p0), .val (.int p1), .val (.int p2), .val (.long (v0_6 p0 p1 p2)), .second, .unset, .unset, .unset, .unset, .unset, .unset, .unset] [])) _
        refine XS.iloadN X0.here hx rfl (hb hby at_28) rfl ?_
        show Steps p.tables e below (s₁.setTop (mkF m 29 #[.val (.int p0), .val (.int p1), .val (.int p2), .val (.long (v0_6 p0 p1 p2)), .second, .unset, .unset, .unset, .unset, .unset, .unset, .unset] [(.int p1)])) _
        refine XS.i2l X0.here hx rfl (hb hby at_29) rfl ?_
        show Steps p.tables e below (s₁.setTop (mkF m 30 #[.val (.int p0), .val (.int p1), .val (.int p2), .val (.long (v0_6 p0 p1 p2)), .second, .unset, .unset, .unset, .unset, .unset, .unset, .unset] [(.long (p1.toInt64))])) _
        refine XS.lstore X0.here hx rfl (hb hby at_30) rfl (l' := #[.val (.int p0), .val (.int p1), .val (.int p2), .val (.long (v0_6 p0 p1 p2)), .second, .val (.long (p1.toInt64)), .second, .unset, .unset, .unset, .unset, .unset]) rfl ?_
        exact kt10
      · rw [show (j0_10_l5 p0 p1 p2) = ((v0_6 p0 p1 p2) + (((p1 &&& (15 : Int32)) - (8 : Int32)).toInt64)) from if_neg hc10] at kt10
        refine XS.ifNo X0.here hx rfl (hb hby at_10) rfl (eq_false_of_ne_true hc10) ?_
        show Steps p.tables e below (s₁.setTop (mkF m 13 #[.val (.int p0), .val (.int p1), .val (.int p2), .val (.long (v0_6 p0 p1 p2)), .second, .unset, .unset, .unset, .unset, .unset, .unset, .unset] [])) _
        refine XS.lloadN X0.here hx rfl (hb hby at_13) rfl ?_
        show Steps p.tables e below (s₁.setTop (mkF m 14 #[.val (.int p0), .val (.int p1), .val (.int p2), .val (.long (v0_6 p0 p1 p2)), .second, .unset, .unset, .unset, .unset, .unset, .unset, .unset] [(.long (v0_6 p0 p1 p2))])) _
        refine XS.iloadN X0.here hx rfl (hb hby at_14) rfl ?_
        show Steps p.tables e below (s₁.setTop (mkF m 15 #[.val (.int p0), .val (.int p1), .val (.int p2), .val (.long (v0_6 p0 p1 p2)), .second, .unset, .unset, .unset, .unset, .unset, .unset, .unset] [(.int p1), (.long (v0_6 p0 p1 p2))])) _
        refine XS.bipush X0.here hx rfl (hb hby at_15) ?_
        show Steps p.tables e below (s₁.setTop (mkF m 17 #[.val (.int p0), .val (.int p1), .val (.int p2), .val (.long (v0_6 p0 p1 p2)), .second, .unset, .unset, .unset, .unset, .unset, .unset, .unset] [(.int (15 : Int32)), (.int p1), (.long (v0_6 p0 p1 p2))])) _
        refine XS.iand X0.here hx rfl (hb hby at_17) rfl ?_
        show Steps p.tables e below (s₁.setTop (mkF m 18 #[.val (.int p0), .val (.int p1), .val (.int p2), .val (.long (v0_6 p0 p1 p2)), .second, .unset, .unset, .unset, .unset, .unset, .unset, .unset] [(.int (p1 &&& (15 : Int32))), (.long (v0_6 p0 p1 p2))])) _
        refine XS.bipush X0.here hx rfl (hb hby at_18) ?_
        show Steps p.tables e below (s₁.setTop (mkF m 20 #[.val (.int p0), .val (.int p1), .val (.int p2), .val (.long (v0_6 p0 p1 p2)), .second, .unset, .unset, .unset, .unset, .unset, .unset, .unset] [(.int (8 : Int32)), (.int (p1 &&& (15 : Int32))), (.long (v0_6 p0 p1 p2))])) _
        refine XS.isub X0.here hx rfl (hb hby at_20) rfl ?_
        show Steps p.tables e below (s₁.setTop (mkF m 21 #[.val (.int p0), .val (.int p1), .val (.int p2), .val (.long (v0_6 p0 p1 p2)), .second, .unset, .unset, .unset, .unset, .unset, .unset, .unset] [(.int ((p1 &&& (15 : Int32)) - (8 : Int32))), (.long (v0_6 p0 p1 p2))])) _
        refine XS.i2l X0.here hx rfl (hb hby at_21) rfl ?_
        show Steps p.tables e below (s₁.setTop (mkF m 22 #[.val (.int p0), .val (.int p1), .val (.int p2), .val (.long (v0_6 p0 p1 p2)), .second, .unset, .unset, .unset, .unset, .unset, .unset, .unset] [(.long (((p1 &&& (15 : Int32)) - (8 : Int32)).toInt64)), (.long (v0_6 p0 p1 p2))])) _
        refine XS.ladd X0.here hx rfl (hb hby at_22) rfl ?_
        show Steps p.tables e below (s₁.setTop (mkF m 23 #[.val (.int p0), .val (.int p1), .val (.int p2), .val (.long (v0_6 p0 p1 p2)), .second, .unset, .unset, .unset, .unset, .unset, .unset, .unset] [(.long ((v0_6 p0 p1 p2) + (((p1 &&& (15 : Int32)) - (8 : Int32)).toInt64)))])) _
        refine XS.lstore X0.here hx rfl (hb hby at_23) rfl (l' := #[.val (.int p0), .val (.int p1), .val (.int p2), .val (.long (v0_6 p0 p1 p2)), .second, .val (.long ((v0_6 p0 p1 p2) + (((p1 &&& (15 : Int32)) - (8 : Int32)).toInt64))), .second, .unset, .unset, .unset, .unset, .unset]) rfl ?_
        show Steps p.tables e below (s₁.setTop (mkF m 25 #[.val (.int p0), .val (.int p1), .val (.int p2), .val (.long (v0_6 p0 p1 p2)), .second, .val (.long ((v0_6 p0 p1 p2) + (((p1 &&& (15 : Int32)) - (8 : Int32)).toInt64))), .second, .unset, .unset, .unset, .unset, .unset] [])) _
        refine XS.goto X0.here hx rfl (pc0 := 25) (pc' := 32) rfl (hb hby at_25) (by decide) (by decide) ?_
        exact kt10
    show Steps p.tables e below (s₁.setTop (mkF m 32 #[.val (.int p0), .val (.int p1), .val (.int p2), .val (.long (v0_6 p0 p1 p2)), .second, .val (.long (j0_10_l5 p0 p1 p2)), .second, .unset, .unset, .unset, .unset, .unset] [])) _
    refine XS.lload X0.here hx rfl (hb hby at_32) rfl ?_
    show Steps p.tables e below (s₁.setTop (mkF m 34 #[.val (.int p0), .val (.int p1), .val (.int p2), .val (.long (v0_6 p0 p1 p2)), .second, .val (.long (j0_10_l5 p0 p1 p2)), .second, .unset, .unset, .unset, .unset, .unset] [(.long (j0_10_l5 p0 p1 p2))])) _
    refine XS.lloadN X0.here hx rfl (hb hby at_34) rfl ?_
    show Steps p.tables e below (s₁.setTop (mkF m 35 #[.val (.int p0), .val (.int p1), .val (.int p2), .val (.long (v0_6 p0 p1 p2)), .second, .val (.long (j0_10_l5 p0 p1 p2)), .second, .unset, .unset, .unset, .unset, .unset] [(.long (v0_6 p0 p1 p2)), (.long (j0_10_l5 p0 p1 p2))])) _
    refine XS.lsub X0.here hx rfl (hb hby at_35) rfl ?_
    show Steps p.tables e below (s₁.setTop (mkF m 36 #[.val (.int p0), .val (.int p1), .val (.int p2), .val (.long (v0_6 p0 p1 p2)), .second, .val (.long (j0_10_l5 p0 p1 p2)), .second, .unset, .unset, .unset, .unset, .unset] [(.long ((j0_10_l5 p0 p1 p2) - (v0_6 p0 p1 p2)))])) _
    refine XS.lstore X0.here hx rfl (hb hby at_36) rfl (l' := #[.val (.int p0), .val (.int p1), .val (.int p2), .val (.long (v0_6 p0 p1 p2)), .second, .val (.long (j0_10_l5 p0 p1 p2)), .second, .val (.long (v0_36 p0 p1 p2)), .second, .unset, .unset, .unset]) rfl ?_
    show Steps p.tables e below (s₁.setTop (mkF m 38 #[.val (.int p0), .val (.int p1), .val (.int p2), .val (.long (v0_6 p0 p1 p2)), .second, .val (.long (j0_10_l5 p0 p1 p2)), .second, .val (.long (v0_36 p0 p1 p2)), .second, .unset, .unset, .unset] [])) _
    refine X0.ldc2Long hx hown (mvT hZ (hw _ (List.mem_of_getElem? (i := 1) rfl))) (g := (mkF m 38 #[.val (.int p0), .val (.int p1), .val (.int p2), .val (.long (v0_6 p0 p1 p2)), .second, .val (.long (j0_10_l5 p0 p1 p2)), .second, .val (.long (v0_36 p0 p1 p2)), .second, .unset, .unset, .unset] [])) rfl (hb hby at_38) _ ?_
    show Steps p.tables e below (s₁.setTop (mkF m 41 #[.val (.int p0), .val (.int p1), .val (.int p2), .val (.long (v0_6 p0 p1 p2)), .second, .val (.long (j0_10_l5 p0 p1 p2)), .second, .val (.long (v0_36 p0 p1 p2)), .second, .unset, .unset, .unset] [(.long (1000000000 : Int64))])) _
    refine XS.lload X0.here hx rfl (hb hby at_41) rfl ?_
    show Steps p.tables e below (s₁.setTop (mkF m 43 #[.val (.int p0), .val (.int p1), .val (.int p2), .val (.long (v0_6 p0 p1 p2)), .second, .val (.long (j0_10_l5 p0 p1 p2)), .second, .val (.long (v0_36 p0 p1 p2)), .second, .unset, .unset, .unset] [(.long (v0_36 p0 p1 p2)), (.long (1000000000 : Int64))])) _
    refine XS.lmul X0.here hx rfl (hb hby at_43) rfl ?_
    show Steps p.tables e below (s₁.setTop (mkF m 44 #[.val (.int p0), .val (.int p1), .val (.int p2), .val (.long (v0_6 p0 p1 p2)), .second, .val (.long (j0_10_l5 p0 p1 p2)), .second, .val (.long (v0_36 p0 p1 p2)), .second, .unset, .unset, .unset] [(.long ((1000000000 : Int64) * (v0_36 p0 p1 p2)))])) _
    refine XS.lstore X0.here hx rfl (hb hby at_44) rfl (l' := #[.val (.int p0), .val (.int p1), .val (.int p2), .val (.long (v0_6 p0 p1 p2)), .second, .val (.long (j0_10_l5 p0 p1 p2)), .second, .val (.long (v0_36 p0 p1 p2)), .second, .val (.long (v0_44 p0 p1 p2)), .second, .unset]) rfl ?_
    show Steps p.tables e below (s₁.setTop (mkF m 46 #[.val (.int p0), .val (.int p1), .val (.int p2), .val (.long (v0_6 p0 p1 p2)), .second, .val (.long (j0_10_l5 p0 p1 p2)), .second, .val (.long (v0_36 p0 p1 p2)), .second, .val (.long (v0_44 p0 p1 p2)), .second, .unset] [])) _
    refine XS.lload X0.here hx rfl (hb hby at_46) rfl ?_
    show Steps p.tables e below (s₁.setTop (mkF m 48 #[.val (.int p0), .val (.int p1), .val (.int p2), .val (.long (v0_6 p0 p1 p2)), .second, .val (.long (j0_10_l5 p0 p1 p2)), .second, .val (.long (v0_36 p0 p1 p2)), .second, .val (.long (v0_44 p0 p1 p2)), .second, .unset] [(.long (v0_36 p0 p1 p2))])) _
    refine XS.lconst X0.here hx rfl (hb hby at_48) ?_
    show Steps p.tables e below (s₁.setTop (mkF m 49 #[.val (.int p0), .val (.int p1), .val (.int p2), .val (.long (v0_6 p0 p1 p2)), .second, .val (.long (j0_10_l5 p0 p1 p2)), .second, .val (.long (v0_36 p0 p1 p2)), .second, .val (.long (v0_44 p0 p1 p2)), .second, .unset] [(.long (0 : Int64)), (.long (v0_36 p0 p1 p2))])) _
    refine XS.lcmp X0.here hx rfl (hb hby at_49) rfl ?_
    show Steps p.tables e below (s₁.setTop (mkF m 50 #[.val (.int p0), .val (.int p1), .val (.int p2), .val (.long (v0_6 p0 p1 p2)), .second, .val (.long (j0_10_l5 p0 p1 p2)), .second, .val (.long (v0_36 p0 p1 p2)), .second, .val (.long (v0_44 p0 p1 p2)), .second, .unset] [(.int (lcmpW (v0_36 p0 p1 p2) (0 : Int64)))])) _
    refine XS.ifYes X0.here hx rfl (pc0 := 50) (pc' := 59) rfl (hb hby at_50) rfl hc50 (by decide) (by decide) ?_
    show Steps p.tables e below (s₁.setTop (mkF m 59 #[.val (.int p0), .val (.int p1), .val (.int p2), .val (.long (v0_6 p0 p1 p2)), .second, .val (.long (j0_10_l5 p0 p1 p2)), .second, .val (.long (v0_36 p0 p1 p2)), .second, .val (.long (v0_44 p0 p1 p2)), .second, .unset] [])) _
    refine XS.lload X0.here hx rfl (hb hby at_59) rfl ?_
    show Steps p.tables e below (s₁.setTop (mkF m 61 #[.val (.int p0), .val (.int p1), .val (.int p2), .val (.long (v0_6 p0 p1 p2)), .second, .val (.long (j0_10_l5 p0 p1 p2)), .second, .val (.long (v0_36 p0 p1 p2)), .second, .val (.long (v0_44 p0 p1 p2)), .second, .unset] [(.long (v0_44 p0 p1 p2))])) _
    refine XS.lloadN X0.here hx rfl (hb hby at_61) rfl ?_
    show Steps p.tables e below (s₁.setTop (mkF m 62 #[.val (.int p0), .val (.int p1), .val (.int p2), .val (.long (v0_6 p0 p1 p2)), .second, .val (.long (j0_10_l5 p0 p1 p2)), .second, .val (.long (v0_36 p0 p1 p2)), .second, .val (.long (v0_44 p0 p1 p2)), .second, .unset] [(.long (v0_6 p0 p1 p2)), (.long (v0_44 p0 p1 p2))])) _
    refine X0.ldc2Long hx hown (mvT hZ (hw _ (List.mem_of_getElem? (i := 2) rfl))) (g := (mkF m 62 #[.val (.int p0), .val (.int p1), .val (.int p2), .val (.long (v0_6 p0 p1 p2)), .second, .val (.long (j0_10_l5 p0 p1 p2)), .second, .val (.long (v0_36 p0 p1 p2)), .second, .val (.long (v0_44 p0 p1 p2)), .second, .unset] [(.long (v0_6 p0 p1 p2)), (.long (v0_44 p0 p1 p2))])) rfl (hb hby at_62) _ ?_
    show Steps p.tables e below (s₁.setTop (mkF m 65 #[.val (.int p0), .val (.int p1), .val (.int p2), .val (.long (v0_6 p0 p1 p2)), .second, .val (.long (j0_10_l5 p0 p1 p2)), .second, .val (.long (v0_36 p0 p1 p2)), .second, .val (.long (v0_44 p0 p1 p2)), .second, .unset] [(.long (1000 : Int64)), (.long (v0_6 p0 p1 p2)), (.long (v0_44 p0 p1 p2))])) _
    refine XS.lsub X0.here hx rfl (hb hby at_65) rfl ?_
    show Steps p.tables e below (s₁.setTop (mkF m 66 #[.val (.int p0), .val (.int p1), .val (.int p2), .val (.long (v0_6 p0 p1 p2)), .second, .val (.long (j0_10_l5 p0 p1 p2)), .second, .val (.long (v0_36 p0 p1 p2)), .second, .val (.long (v0_44 p0 p1 p2)), .second, .unset] [(.long ((v0_6 p0 p1 p2) - (1000 : Int64))), (.long (v0_44 p0 p1 p2))])) _
    refine XS.lcmp X0.here hx rfl (hb hby at_66) rfl ?_
    show Steps p.tables e below (s₁.setTop (mkF m 67 #[.val (.int p0), .val (.int p1), .val (.int p2), .val (.long (v0_6 p0 p1 p2)), .second, .val (.long (j0_10_l5 p0 p1 p2)), .second, .val (.long (v0_36 p0 p1 p2)), .second, .val (.long (v0_44 p0 p1 p2)), .second, .unset] [(.int (lcmpW (v0_44 p0 p1 p2) ((v0_6 p0 p1 p2) - (1000 : Int64))))])) _
    refine XS.ifYes X0.here hx rfl (pc0 := 67) (pc' := 76) rfl (hb hby at_67) rfl hc67 (by decide) (by decide) ?_
    show Steps p.tables e below (s₁.setTop (mkF m 76 #[.val (.int p0), .val (.int p1), .val (.int p2), .val (.long (v0_6 p0 p1 p2)), .second, .val (.long (j0_10_l5 p0 p1 p2)), .second, .val (.long (v0_36 p0 p1 p2)), .second, .val (.long (v0_44 p0 p1 p2)), .second, .unset] [])) _
    refine XS.lload X0.here hx rfl (hb hby at_76) rfl ?_
    show Steps p.tables e below (s₁.setTop (mkF m 78 #[.val (.int p0), .val (.int p1), .val (.int p2), .val (.long (v0_6 p0 p1 p2)), .second, .val (.long (j0_10_l5 p0 p1 p2)), .second, .val (.long (v0_36 p0 p1 p2)), .second, .val (.long (v0_44 p0 p1 p2)), .second, .unset] [(.long (v0_44 p0 p1 p2))])) _
    refine XS.lloadN X0.here hx rfl (hb hby at_78) rfl ?_
    show Steps p.tables e below (s₁.setTop (mkF m 79 #[.val (.int p0), .val (.int p1), .val (.int p2), .val (.long (v0_6 p0 p1 p2)), .second, .val (.long (j0_10_l5 p0 p1 p2)), .second, .val (.long (v0_36 p0 p1 p2)), .second, .val (.long (v0_44 p0 p1 p2)), .second, .unset] [(.long (v0_6 p0 p1 p2)), (.long (v0_44 p0 p1 p2))])) _
    refine X0.ldc2Long hx hown (mvT hZ (hw _ (List.mem_of_getElem? (i := 2) rfl))) (g := (mkF m 79 #[.val (.int p0), .val (.int p1), .val (.int p2), .val (.long (v0_6 p0 p1 p2)), .second, .val (.long (j0_10_l5 p0 p1 p2)), .second, .val (.long (v0_36 p0 p1 p2)), .second, .val (.long (v0_44 p0 p1 p2)), .second, .unset] [(.long (v0_6 p0 p1 p2)), (.long (v0_44 p0 p1 p2))])) rfl (hb hby at_79) _ ?_
    show Steps p.tables e below (s₁.setTop (mkF m 82 #[.val (.int p0), .val (.int p1), .val (.int p2), .val (.long (v0_6 p0 p1 p2)), .second, .val (.long (j0_10_l5 p0 p1 p2)), .second, .val (.long (v0_36 p0 p1 p2)), .second, .val (.long (v0_44 p0 p1 p2)), .second, .unset] [(.long (1000 : Int64)), (.long (v0_6 p0 p1 p2)), (.long (v0_44 p0 p1 p2))])) _
    refine XS.ladd X0.here hx rfl (hb hby at_82) rfl ?_
    show Steps p.tables e below (s₁.setTop (mkF m 83 #[.val (.int p0), .val (.int p1), .val (.int p2), .val (.long (v0_6 p0 p1 p2)), .second, .val (.long (j0_10_l5 p0 p1 p2)), .second, .val (.long (v0_36 p0 p1 p2)), .second, .val (.long (v0_44 p0 p1 p2)), .second, .unset] [(.long ((v0_6 p0 p1 p2) + (1000 : Int64))), (.long (v0_44 p0 p1 p2))])) _
    refine XS.lcmp X0.here hx rfl (hb hby at_83) rfl ?_
    show Steps p.tables e below (s₁.setTop (mkF m 84 #[.val (.int p0), .val (.int p1), .val (.int p2), .val (.long (v0_6 p0 p1 p2)), .second, .val (.long (j0_10_l5 p0 p1 p2)), .second, .val (.long (v0_36 p0 p1 p2)), .second, .val (.long (v0_44 p0 p1 p2)), .second, .unset] [(.int (lcmpW (v0_44 p0 p1 p2) ((v0_6 p0 p1 p2) + (1000 : Int64))))])) _
    refine XS.ifYes X0.here hx rfl (pc0 := 84) (pc' := 93) rfl (hb hby at_84) rfl hc84 (by decide) (by decide) ?_
    show Steps p.tables e below (s₁.setTop (mkF m 93 #[.val (.int p0), .val (.int p1), .val (.int p2), .val (.long (v0_6 p0 p1 p2)), .second, .val (.long (j0_10_l5 p0 p1 p2)), .second, .val (.long (v0_36 p0 p1 p2)), .second, .val (.long (v0_44 p0 p1 p2)), .second, .unset] [])) _
    refine XS.iconst X0.here hx rfl (hb hby at_93) ?_
    show Steps p.tables e below (s₁.setTop (mkF m 94 #[.val (.int p0), .val (.int p1), .val (.int p2), .val (.long (v0_6 p0 p1 p2)), .second, .val (.long (j0_10_l5 p0 p1 p2)), .second, .val (.long (v0_36 p0 p1 p2)), .second, .val (.long (v0_44 p0 p1 p2)), .second, .unset] [(.int (1 : Int32))])) _
    exact retN X0 hx (t := .boolean) Bd.returns (by simp) (hb hby at_94) hr
  · show Q0d Z p0 p1 p2 h0 n0 _ s₁.heap _
    rw [e0]
    exact ⟨rfl, N0⟩
theorem rm0 (l : Launch) (Z : State) (aw : Array Value) (hw : ∀ d ∈ tables_1, d.before aw Z = true) (ws : List Jvm.Cond) (p0 : Int32) (p1 : Int32) (p2 : Int32) (h0 : Heap) (n0 : Nat) (Z0 : n0 ≤ h0.size) :
    MetFree l x (head1 (Jvm.Cond.code x code maxLocals ret :: ws) room_1) (fun a U => a = #[(.int p0), (.int p1), (.int p2)] ∧ Z.Warmed39 U.vm ∧ U.heap = h0) (fun _ _ _ _ _ => True) (fun _ U o U' => ∃ v L, o = .returned v ∧ Q0a Z p0 p1 p2 h0 n0 v U'.heap L ∧ FrameEnd U o U' L 0 0) := by
  by_cases h1 : ifCond.holds .gt (lcmpW (v0_36 p0 p1 p2) (0 : Int64)) = true
  · by_cases h2 : ifCond.holds .gt (lcmpW (v0_44 p0 p1 p2) ((v0_6 p0 p1 p2) - (1000 : Int64))) = true
    · by_cases h3 : ifCond.holds .lt (lcmpW (v0_44 p0 p1 p2) ((v0_6 p0 p1 p2) + (1000 : Int64))) = true
      · exact rm0d l Z aw hw ws p0 p1 p2 h0 n0 Z0 h1 h2 h3
      · exact rm0c l Z aw hw ws p0 p1 p2 h0 n0 Z0 h1 h2 (eq_false_of_ne_true h3) (own_n1 p0 p1 p2) (own_n2 p0 p1 p2) (own_resc p0 p1 p2 h1 h2 (eq_false_of_ne_true h3))
    · exact rm0b l Z aw hw ws p0 p1 p2 h0 n0 Z0 h1 (eq_false_of_ne_true h2) (own_n1 p0 p1 p2) (own_n2 p0 p1 p2) (own_resb p0 p1 p2 h1 (eq_false_of_ne_true h2))
  · exact rm0a l Z aw hw ws p0 p1 p2 h0 n0 Z0 (eq_false_of_ne_true h1) (own_n1 p0 p1 p2) (own_n2 p0 p1 p2) (own_resa p0 p1 p2 (eq_false_of_ne_true h1))
set_option maxRecDepth 65536 in
set_option maxHeartbeats 40000000 in
theorem comes_1 {Post : Tables → Env → Array Value → State → Outcome → State → Prop} (hpost : ∀ tb e args s v u, (limb_1_1.after args s (.returned v) u = true ∧ limb_1_2.after args s (.returned v) u = true ∧ True) → FrameEnd s (.returned v) u (Jvm.fieldLocs frame_1_writes args s ++ Jvm.arrayLocs frame_1_arrays args s ++ Jvm.staticLocs frame_1_statics s) 0 0 → Post tb e args s (.returned v) u) :
    ArmFor flags0 classFile x code maxLocals ret World_1 tables_1 room_1 Calls_1 rest_1 Pre_1 Post := by
  intro l hfl _ _ p e ha hc hk s m args below hf hA hF happ hP
  obtain ⟨hcalls, hrest, hpre⟩ := hP
  obtain ⟨-, -, -, hnamed, -, -, -, hat⟩ := (Spec.applies_iff hf).mp happ
  obtain ⟨hg, hn⟩ := and_e (Cond.before_iff.mp (show (Jvm.Cond.and given_1 narrow_1).before args s = true from hpre))
  obtain ⟨k0, r0⟩ := and_e hg
  obtain ⟨a0, r1⟩ := and_e r0
  obtain ⟨a1, r2⟩ := and_e r1
  have a2 := r2
  obtain ⟨w0, w1, w2, rfl⟩ : ∃ w0 w1 w2 : Value, args = #[w0, w1, w2] := by
    have hs : args.size = 3 := by simpa [Cond.value, given_1] using k0
    obtain ⟨L⟩ := args
    match L, hs with
    | [w0, w1, w2], _ => exact ⟨w0, w1, w2, rfl⟩
  have hw := fun d (hd : d ∈ tables_1) => atoms_spec (ws := Jvm.Cond.code x code maxLocals ret :: tables_1) hat d (List.mem_cons_of_mem _ hd)
  obtain ⟨i0, ei0⟩ := is_v a0
  obtain rfl : w0 = (.int i0) := Option.some.inj ei0
  obtain ⟨i1, ei1⟩ := is_v a1
  obtain rfl : w1 = (.int i1) := Option.some.inj ei1
  obtain ⟨i2, ei2⟩ := is_v a2
  obtain rfl : w2 = (.int i2) := Option.some.inj ei2
  obtain ⟨n, o, h1, h2, h3, _, L, rfl, ⟨rfl, N⟩, hq⟩ := rm0 l s _ hw tables_1 i0 i1 i2 s.heap s.heap.size (Nat.le_refl _) p e ha hc hk s m _ below hf ((Spec.applies_iff_loose hf).mp happ).1 ⟨rfl, State.Warmed39.refl s, rfl⟩ trivial
  refine ⟨n, _, h1, h2, h3, hpost _ _ _ _ _ _ ⟨Cond.after_iff.mpr rfl, Cond.after_iff.mpr (eq_i res_at (Term.int_eval (1)) rfl), trivial⟩ ⟨hq.1, hq.2.1, (hq.2.2.sift fun y hy => Or.inr (N y hy)).mono (by decide) (by decide)⟩⟩
theorem main_1_1 : Claimed_1_1 := comes_1 fun _ _ _ _ _ _ h hF => ⟨h.1, hF⟩
theorem main_1_2 : Claimed_1_2 := comes_1 fun _ _ _ _ _ _ h hF => ⟨h.2.1, hF⟩
end Jvm.Pilot.@@N@@
namespace Jvm.Pilot.@@N@@
open Jvm Jvm.ClassFile Sem Op Lib Jvm.Free Jvm.Stand Jvm.Pilot.@@N@@.Jvm.D
/-! MADE BY PROGRAM (witnessworld.py) out of the Statement's table words and the real class files: 9 classes; the members and pool entries that the words name. The judged class is class 1, her method 1. -/
namespace start1
open Jvm.ClassFile
def u (s : String) : CpInfo := .utf8 (stringToUtf16 s)
/-- a pool by its gaps: so many unusable entries, then the entry; so many at the end -/
def gap : Nat → List CpInfo → List CpInfo
  | 0, r => r
  | n + 1, r => .unusable :: gap n r
def poolList (es : List (Nat × CpInfo)) (last : Nat) : List CpInfo := es.foldr (fun e r => gap e.1 (e.2 :: r)) (gap last [])
def pool (es : List (Nat × CpInfo)) (last : Nat) : Array CpInfo := ⟨poolList es last⟩
def fileOf (pool : Array CpInfo) (this : Nat) (attrs : Array Attribute := #[]) (ms : Array MethodInfo := #[]) (fl : Nat := 33) (sup : Nat := 0) (ifs : Array Nat := #[]) (fds : Array FieldInfo := #[]) : ClassFile where
  minorVersion := 0
  majorVersion := 65
  constantPool := pool
  accessFlags := fl
  thisClass := this
  superClass := sup
  interfaces := ifs
  fields := fds
  methods := ms
  attributes := attrs
def plain (name : String) (sup : Option ClassId) : Class where
  name := name
  kind := .ordinary
  loader := none
  accessFlags := 33
  super := sup
  interfaces := #[]
  cf := none
  fields := #[]
  methods := #[]
  instanceTypes := #[]
  staticTypes := #[]
  resolved := #[]
  callSites := []
  init := .initialized
  statics := none
  mirror := none

def pool0 : Array CpInfo := pool [(5, u "<init>"), (0, u "()V"), (1, .class_ 10), (1, u "java/lang/Object")] 113

def k0m0 : Method := { name := "<init>", desc := "()V", sig := { parameters := [], returnType := none }, accessFlags := 1, code := none }
/-- java/lang/Object -/
def k0 : Class := { plain "java/lang/Object" none with
  accessFlags := 33
  interfaces := #[]
  cf := some (fileOf pool0 8 #[] #[{ accessFlags := 1, nameIndex := 5, descriptorIndex := 6, attributes := #[] }] 33 0 #[] #[])
  fields := #[]
  methods := #[k0m0]
  instanceTypes := #[]
  staticTypes := #[]
  resolved := Array.replicate 124 none
  statics := none }

def pool1 : Array CpInfo := pool [(2, .class_ 4), (1, u "java/lang/Object"), (0, u "<init>"), (0, u "()V"), (0, .long 2147483647), (1, .long 1000000000), (1, .long 1000), (1, .methodref 14 15), (0, .class_ 16), (0, .nameAndType 17 18), (0, u "com/example/fogweave/fogweave/core/Limits"), (0, u "atMost"), (0, u "(DD)Z"), (0, .class_ 20), (0, u "com/example/fogweave/fogweave/core/LimitsAtMostPinLaw"), (2, u "law"), (0, u "(III)Z")] 3

def k1m0 : Method := { name := "<init>", desc := "()V", sig := { parameters := [], returnType := none }, accessFlags := 1, code := none }
def k1c1 : Code := { maxStack := 6, maxLocals := 12, code := code, exceptionTable := #[], attributes := #[] }
def k1m1 : Method := { name := "law", desc := "(III)Z", sig := { parameters := [.int, .int, .int], returnType := some .boolean }, accessFlags := 9, code := some k1c1 }
/-- com/example/fogweave/fogweave/core/LimitsAtMostPinLaw -/
def k1 : Class := { plain "com/example/fogweave/fogweave/core/LimitsAtMostPinLaw" (some 0) with
  accessFlags := 49
  interfaces := #[]
  cf := some (fileOf pool1 19 #[] #[{ accessFlags := 1, nameIndex := 5, descriptorIndex := 6, attributes := #[] }, { accessFlags := 9, nameIndex := 23, descriptorIndex := 24, attributes := #[] }] 49 2 #[] #[])
  fields := #[]
  methods := #[k1m0, k1m1]
  instanceTypes := #[]
  staticTypes := #[]
  resolved := Array.replicate 28 none
  statics := none }

def pool2 : Array CpInfo := pool [(2, .class_ 4), (1, u "java/lang/Object"), (0, u "<init>"), (0, u "()V"), (0, .class_ 8), (0, u "com/example/fogweave/fogweave/core/Limits"), (0, .double 4472406533629990549), (1, u "TOLERANCE"), (0, u "D"), (3, u "atMost"), (0, u "(DD)Z")] 3

def k2m0 : Method := { name := "<init>", desc := "()V", sig := { parameters := [], returnType := none }, accessFlags := 2, code := none }
def k2c1 : Code := { maxStack := 8, maxLocals := 4, code := prog_10_method_2_code, exceptionTable := #[], attributes := #[] }
def k2m1 : Method := { name := "atMost", desc := "(DD)Z", sig := { parameters := [.double, .double], returnType := some .boolean }, accessFlags := 9, code := some k2c1 }
/-- com/example/fogweave/fogweave/core/Limits -/
def k2 : Class := { plain "com/example/fogweave/fogweave/core/Limits" (some 0) with
  accessFlags := 49
  interfaces := #[]
  cf := some (fileOf pool2 7 #[] #[{ accessFlags := 2, nameIndex := 5, descriptorIndex := 6, attributes := #[] }, { accessFlags := 9, nameIndex := 16, descriptorIndex := 17, attributes := #[] }] 49 2 #[] #[{ accessFlags := 25, nameIndex := 11, descriptorIndex := 12, attributes := #[] }])
  fields := #[{ name := "TOLERANCE", type := .double, accessFlags := 25, slot := 0, constantValue := 0 }]
  methods := #[k2m0, k2m1]
  instanceTypes := #[]
  staticTypes := #[.double]
  resolved := Array.replicate 21 none
  statics := none }

def pool3 : Array CpInfo := pool [(1, u "java/lang/Cloneable"), (0, .class_ 1), (0, u "java/lang/Object"), (0, .class_ 3)] 3

/-- java/lang/Cloneable -/
def k3 : Class := { plain "java/lang/Cloneable" (some 0) with
  accessFlags := 1537
  interfaces := #[]
  cf := some (fileOf pool3 2 #[] #[] 1537 4 #[] #[])
  fields := #[]
  methods := #[]
  instanceTypes := #[]
  staticTypes := #[]
  resolved := Array.replicate 8 none
  statics := none }

def pool4 : Array CpInfo := pool [(1, u "java/io/Serializable"), (0, .class_ 1), (0, u "java/lang/Object"), (0, .class_ 3)] 3

/-- java/io/Serializable -/
def k4 : Class := { plain "java/io/Serializable" (some 0) with
  accessFlags := 1537
  interfaces := #[]
  cf := some (fileOf pool4 2 #[] #[] 1537 4 #[] #[])
  fields := #[]
  methods := #[]
  instanceTypes := #[]
  staticTypes := #[]
  resolved := Array.replicate 8 none
  statics := none }

/-- the primitive byte -/
def k5 : Class := { plain "byte" none with kind := .primitive 'B', accessFlags := 0x411 }
/-- [B -/
def k6 : Class := { plain "[B" (some 0) with kind := .array 5 .byte, interfaces := #[3, 4], accessFlags := 1041 }

/-- the primitive int -/
def k7 : Class := { plain "int" none with kind := .primitive 'I', accessFlags := 0x411 }
/-- [I -/
def k8 : Class := { plain "[I" (some 0) with kind := .array 7 .int, interfaces := #[3, 4], accessFlags := 1041 }

def heap : Heap := #[]
def classes : Array Class := #[k0, k1, k2, k3, k4, k5, k6, k7, k8]
def interned : List (Array UInt16 × Addr) := []
def slotsUsed : Nat := 0
def theMethod : MethodId := ⟨1, 1⟩
def args0 : Array Value := #[.int 5, .int 300, .int 1]
def aboutOver (below : List Frame) : State where
  vm := { classes := classes, interned := interned.toArray }
  heap := heap
  slotsUsed := slotsUsed
  threads := #[{ frames := .invoking theMethod args0 :: below }]
def below0 : List Frame := [.native { method := ⟨0, 0⟩, args := #[] }]
def about1 : State := aboutOver below0
def p0 : Program := .bare "" "" ""
def e0 : Env := launch0.env 0 0 0
theorem w_frames : about1.frames = Frame.invoking theMethod args0 :: below0 := rfl
set_option maxRecDepth 65536 in
theorem w_args : argsFit about1.vm theMethod args0 = true := by decide +kernel
set_option maxRecDepth 65536 in
theorem w_heap : heapFits about1 = true := by decide +kernel
set_option maxRecDepth 65536 in
theorem w_runnable : about1.curStatus? = some .runnable := by decide +kernel
set_option maxRecDepth 65536 in
theorem w_alone : about1.alone = true := by decide +kernel
set_option maxRecDepth 65536 in
theorem w_named : about1.methodNamed? x = some theMethod := by decide +kernel
set_option maxRecDepth 65536 in
theorem w_hears : about1.hears theMethod below0 = true := by decide +kernel
set_option maxRecDepth 65536 in
theorem w_ripe : about1.ripe theMethod args0 below0 = true := by decide +kernel
theorem w_running : about1.status = .running := rfl
set_option maxRecDepth 65536 in
theorem w_room : about1.hasRoom e0.platform room_1 = true :=
  launch0.hasRoom_least _ room_1 (by decide +kernel) (by decide +kernel) (by decide +kernel) (by decide +kernel) (by decide +kernel) (by decide +kernel)
theorem allAtoms_all (ts : List Jvm.Cond) (a : Array Jvm.Value) (st : Jvm.State) : (allAtoms ts).before a st = ts.all (fun c => c.before a st) := by
  induction ts with
  | nil => rfl
  | cons c t ih =>
    show (Jvm.Cond.and c (allAtoms t)).before a st = _
    rw [Jvm.Cond.before_and, ih, List.all_cons]
def words1 : List Jvm.Cond := Jvm.Cond.code x code maxLocals ret :: tables_1
/-- a 'code' word, met by the world's own term for the bytes: nothing is compared byte by byte -/
theorem code_word {y : MethodName} {bytes : ByteArray} {mx : Nat} {rt : Option FieldType} {a : Array Value} {s : State} {m : MethodId} {meth : Method} {c : Code} (h1 : s.methodNamed? y = some m) (h2 : s.vm.method? m = some meth) (h3 : meth.code = some c) (h4 : c.code = bytes)
    (h5 : (c.maxLocals == mx && c.exceptionTable.isEmpty && decide (c.maxStack ≤ mostOperands) && decide (meth.sig.returnType = rt) && !meth.locks && decide (parseMethodDescriptor y.desc = some meth.sig)) = true) : (Jvm.Cond.code y bytes mx rt).before a s = true := by
  simp only [Bool.and_eq_true, beq_iff_eq, Bool.not_eq_true', decide_eq_true_eq] at h5
  obtain ⟨⟨⟨⟨⟨g1, g2⟩, g3⟩, g4⟩, g5⟩, g6⟩ := h5
  simp [Cond.before, Cond.holds, Cond.value, h1, h2, h3, h4, g1, g2, g3, g4, g5, g6]
def isCode : Jvm.Cond → Bool
  | .code _ _ _ _ => true
  | _ => false
theorem all_split {L : List Jvm.Cond} {P : Jvm.Cond → Bool} (h1 : L.all (fun c => isCode c || P c) = true) (h2 : ∀ c ∈ L.filter isCode, P c = true) : L.all P = true := by
  refine List.all_eq_true.mpr fun c hc => ?_
  have h := List.all_eq_true.mp h1 c hc
  rcases Bool.eq_false_or_eq_true (isCode c) with hi | hi
  · exact h2 c (List.mem_filter.mpr ⟨hc, hi⟩)
  · simpa [hi] using h
set_option maxRecDepth 65536 in
theorem w_c0 : (Jvm.Cond.code x code maxLocals ret).before args0 about1 = true := code_word (m := ⟨1, 1⟩) (meth := k1m1) (c := k1c1) (by decide +kernel) rfl rfl rfl (by decide +kernel)
set_option maxRecDepth 65536 in
theorem w_c1 : (Jvm.Cond.code ({ cls := "com/example/fogweave/fogweave/core/Limits", name := "atMost", desc := "(DD)Z" } : Jvm.MethodName) prog_10_method_2_code (4 : Nat) (Option.some Jvm.ClassFile.FieldType.boolean)).before args0 about1 = true := code_word (m := ⟨2, 1⟩) (meth := k2m1) (c := k2c1) (by decide +kernel) rfl rfl rfl (by decide +kernel)
def codes1 : List Jvm.Cond := [Jvm.Cond.code x code maxLocals ret, Jvm.Cond.code ({ cls := "com/example/fogweave/fogweave/core/Limits", name := "atMost", desc := "(DD)Z" } : Jvm.MethodName) prog_10_method_2_code (4 : Nat) (Option.some Jvm.ClassFile.FieldType.boolean)]
set_option maxRecDepth 65536 in
theorem codes_eq : words1.filter isCode = codes1 := rfl
theorem w_codes : ∀ c ∈ words1.filter isCode, c.before args0 about1 = true := by
  rw [codes_eq]
  intro c hc
  simp only [codes1, List.mem_cons, List.not_mem_nil, or_false] at hc
  rcases hc with rfl | rfl
  · exact w_c0
  · exact w_c1
set_option maxRecDepth 65536 in
theorem w_t1 : words1.all (fun c => isCode c || c.before args0 about1) = true := by decide +kernel
theorem w_tables : (allAtoms (Jvm.Cond.code x code maxLocals ret :: tables_1)).before args0 about1 = true := by
  rw [allAtoms_all]
  show words1.all (fun c => c.before args0 about1) = true
  refine all_split ?_ w_codes
  rw [w_t1]
set_option maxRecDepth 65536 in
theorem w_case : (Jvm.Cond.and given_1 narrow_1).before args0 about1 = true := by decide +kernel
theorem w_applies : (headSpec (Jvm.Cond.code x code maxLocals ret :: tables_1) room_1).applies x e0.platform about1 = true :=
  (Spec.applies_iff w_frames).mpr ⟨w_running, w_runnable, w_alone, w_named, w_hears, w_ripe, w_room, w_tables⟩
theorem atStart : AtStart classFile x code maxLocals ret World_1 tables_1 room_1 Calls_1 rest_1 Pre_1 launch0 p0 e0 about1 theMethod args0 below0 :=
  ⟨lists_1, trivial, launch0.admits_env _ _ _, launch0.least_env, fairChoices_fair.cas, fairChoices_fair.clock, w_frames, w_args, w_heap, w_applies, trivial, trivial, w_case⟩
end start1
theorem witness_1 : WitnessClaimed_1 := ⟨start1.p0, start1.e0, start1.about1, start1.theMethod, start1.args0, start1.below0, start1.atStart⟩
end Jvm.Pilot.@@N@@
