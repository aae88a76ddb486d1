import JvmDerived
import JvmDerived.Pilot.@@N@@Statement
import JvmDerived.Pilot.@@N@@Code
set_option linter.unusedVariables false
set_option linter.unusedSimpArgs false
namespace Jvm.RoadKit
open Sem ClassFile Op Lib Jvm.Stand Jvm.Free Jvm.LawKit
section New
variable {p : Program} {l : Launch} {e : Env} {R : Room} {s : State} {m : MethodId} {args : Array Value} {below : List Frame} {meth : Method} {c : Code} {T : State} {locs : List Loc} {cells slots : Nat}
theorem retI (X : Stand p l e R s m args below meth c T locs cells slots) (hx : p.tables.exec = Jvm.exec) {pc : Nat} {Ls : Array Slot} {z : Int32} {rest : List Value} (hret : meth.sig.returnType = some .int) (hd : decode c.code pc = .ok (.ireturn, 1)) {fs : List Frame}
    (hl : ∀ (f : JFrame) (acts : List Action), f.method = m → f.locked = none → f.entered = [] → (doReturn e (T.setTop f) acts (some (.int z))).1 = T.setFrames fs) : Steps p.tables e below (T.setTop (mkF m pc Ls (.int z :: rest))) (T.setFrames fs) := by
  have hm' : T.vm.method? m = some meth := X.method'
  have hn : narrow .int (.int z) = .int z := rfl
  show Steps p.tables e below (T.setTop { method := m, pc := pc, locals := Ls, stack := _ :: rest, locked := none }) _
  jvm_step X.here [X.here.top, hx, hd, hm', hret, hn]
  first | (intro acts; rw [hl _ acts rfl rfl rfl]) | rw [hl _ _ rfl rfl rfl]
  exact Steps.refl _
end New
end Jvm.RoadKit
namespace Jvm.Pilot.@@N@@
open Jvm Jvm.ClassFile Sem Op Lib Jvm.Free Jvm.Stand Jvm.LawKit Jvm.RoadKit Bundle Jvm.Pilot.@@N@@.Jvm.D
def Qv (val : Option Value) (h0 : Heap) (n0 : Nat) (v : Option Value) (h : Heap) (L : List Loc) : Prop := v = val ∧ Fr n0 L ∧ h = h0
def Ql (val : Option Value) (n0 : Nat) (v : Option Value) (L : List Loc) : Prop := v = val ∧ Fr n0 L
theorem own_ext {h h' : Heap} (K : Keep h h' []) : Ext h h' := ⟨K.1, fun a c q => K.2.1 a c q nin0⟩
theorem own_kp {h h' : Heap} (e : h' = h) : Keep h h' [] := e ▸ Keep.refl _ _
theorem own_bit255 (i : Nat) : (255#32).getLsbD i = decide (i < 8) := by
  by_cases h : i < 32
  · have : ∀ j : Fin 32, (255#32).getLsbD j.val = decide (j.val < 8) := by decide
    exact this ⟨i, h⟩
  · rw [BitVec.getLsbD_of_ge _ _ (by omega)]; simp; omega
theorem own_chb (b : BitVec 32) : BitVec.setWidth 32 (BitVec.setWidth 16 (b &&& 255#32)) = b &&& 255#32 := by
  apply BitVec.eq_of_getLsbD_eq
  intro i hi
  simp only [BitVec.getLsbD_setWidth, BitVec.getLsbD_and, own_bit255]
  by_cases h : i < 8
  · have h16 : i < 16 := by omega
    simp [h, h16, hi]
  · simp [h]
theorem own_ch (p : Int32) : ¬ ((255 : Int32) < (p &&& (255 : Int32)).toUInt32.toUInt16.toUInt32.toInt32) := by
  have e : (p &&& (255 : Int32)).toUInt32.toUInt16.toUInt32.toInt32 = p &&& 255 := by
    apply Int32.toBitVec_inj.mp
    exact own_chb p.toBitVec
  rw [e, Int32.lt_iff_toInt_lt]
  have e2 : (p &&& 255).toInt = (p.toBitVec &&& 255#32).toInt := rfl
  have e3 : (255 : Int32).toInt = 255 := by decide
  have h : (p.toBitVec &&& 255#32).toNat ≤ 255 := by rw [BitVec.toNat_and]; exact Nat.and_le_right
  rw [e2, e3, BitVec.toInt_eq_toNat_cond]
  split <;> omega
def Qr (h0 : Heap) (n0 : Nat) (v : Option Value) (h : Heap) (L : List Loc) : Prop := ∃ a : Addr, v = some (.ref a) ∧ Fr n0 L ∧ Keep h0 h []
def Qi (a1 : Addr) (h0 : Heap) (n0 : Nat) (v : Option Value) (h : Heap) (L : List Loc) : Prop := v = none ∧ Fr n0 L ∧ Keep h0 h [a1]
theorem own_lcd (x y : Int64) : lcmpW x y = if x > y then 1 else if x = y then 0 else -1 := rfl
theorem own_lc0 {x y : Int64} : lcmpW x y = 0 ↔ x = y := by
  rw [own_lcd]
  by_cases h1 : x > y
  · have : x ≠ y := fun e => by subst e; exact absurd h1 (by simp [Int64.lt_irrefl])
    simp [h1, this]
  · by_cases h2 : x = y
    · simp [h1, h2]
    · simp [h1, h2]
theorem own_lcgt {x y : Int64} : 0 < lcmpW x y ↔ x > y := by
  rw [own_lcd]
  by_cases h1 : x > y
  · simp [h1]
  · by_cases h2 : x = y
    · simp [h1, h2]
    · simp only [h1, h2, if_false]; decide
section OwnFloat
open FP.Core
theorem own_fin {i : Int} {a : UInt64} (h : DInt i a) : ∃ s c q, val64 a = .fin s c q := by
  unfold DInt at h
  cases hv : val64 a with
  | nan => rw [hv] at h; exact h.elim
  | inf s => rw [hv] at h; exact h.elim
  | fin s c q => exact ⟨s, c, q, rfl⟩
theorem own_units {i : Int} {a : UInt64} {s : Bool} {c : Nat} {q : Int} (h : DInt i a) (e : val64 a = .fin s c q) : signed s (inUnits c q b64.qmin) = i * (one64 : Int) := by
  have := DInt_zval h; rw [e] at this; exact this
theorem own_unitsN {i : Int} {a : UInt64} {s : Bool} {c : Nat} {q : Int} (h : DInt i a) (e : val64 a = .fin s c q) : inUnits c q b64.qmin = i.natAbs * one64 := by
  have t := congrArg Int.natAbs (own_units h e)
  rw [natAbs_signed, Int.natAbs_mul, Int.natAbs_natCast] at t
  exact t
theorem own_quot {X M : Int} {a b : UInt64} (ha : DInt X a) (hb : DInt M b) (hM : 0 < M) : ∃ s c q d r, val64 a = .fin s c q ∧ val64 b = .fin false d r ∧ 0 < d ∧ val64 (ddiv a b) = roundRatio b64 s c d (q - r) := by
  obtain ⟨s, c, q, ea⟩ := own_fin ha
  obtain ⟨t, d, r, eb⟩ := own_fin hb
  have hu := own_units hb eb
  have hP : 0 < M * (one64 : Int) := Int.mul_pos hM (by have := one64_pos; omega)
  rw [← hu] at hP
  have ht : t = false := by
    cases t with
    | false => rfl
    | true => simp only [signed, if_true] at hP; omega
  subst ht
  have hd : 0 < d := by
    refine Nat.pos_of_ne_zero fun h0 => ?_
    rw [h0] at hP; simp [signed, inUnits] at hP
  refine ⟨s, c, q, d, r, ea, eb, hd, ?_⟩
  rw [val64_ddiv, ea, eb]
  show (if d = 0 then _ else roundRatio b64 (s != false) c d (q - r)) = _
  rw [if_neg (by omega)]
  cases s <;> rfl
theorem own_scale {X M : Int} {a b : UInt64} {s t : Bool} {c d : Nat} {q r : Int} (ha : DInt X a) (ea : val64 a = .fin s c q) (hb : DInt M b) (eb : val64 b = .fin t d r) (v : Nat) :
    inUnits c (q - r) (2 * b64.qmin - r) = X.natAbs * one64 * one64 ∧ v * one64 * 2 ^ (b64.qmin - (2 * b64.qmin - r)).toNat * d = v * one64 * (M.natAbs * one64) := by
  have qa := val64_fits a
  rw [ea] at qa
  have qb := val64_fits b
  rw [eb] at qb
  have Q0 := qmin_neg good_b64
  have h1 := qa.2.1
  have h2 := qb.2.1
  constructor
  · rw [← own_unitsN ha ea]; unfold inUnits
    rw [← pow_qmin64, Nat.mul_assoc, ← Nat.pow_add]; congr 2; omega
  · rw [← own_unitsN hb eb]; unfold inUnits
    rw [show b64.qmin - (2 * b64.qmin - r) = r - b64.qmin from by omega, Nat.mul_assoc, Nat.mul_comm (2 ^ _) d]
theorem own_ac (a b o : Nat) : a * b * o * o = a * o * (b * o) := by ac_rfl
theorem own_z0 (k : Int) (o : Nat) (h : k = 0) : k.natAbs * o = 0 := by subst h; simp
theorem own_le {X M : Int} {a b : UInt64} {s : Bool} {c d : Nat} {q r : Int} (ha : DInt X a) (ea : val64 a = .fin s c q) (hb : DInt M b) (eb : val64 b = .fin false d r) (hd : 0 < d) {v : Nat} {V : Datum} (hV : FP.Core.fits b64 V) (hn : V ≠ .nan) (zV : zmag b64 V = v * one64) (h : X.natAbs ≤ v * M.natAbs) : zmag b64 (roundRatio b64 s c d (q - r)) ≤ v * one64 := by
  have qa := val64_fits a
  rw [ea] at qa
  have qb := val64_fits b
  rw [eb] at qb
  have Q0 := qmin_neg good_b64
  have h1 := qa.2.1
  have h2 := qb.2.1
  obtain ⟨e1, e2⟩ := own_scale ha ea hb eb v
  rw [← zV]
  refine zmag_roundRatio_le good_b64 hd hV hn (e0 := 2 * b64.qmin - r) (by omega) (by omega) ?_
  rw [zV, e1, e2]
  calc X.natAbs * one64 * one64 ≤ v * M.natAbs * one64 * one64 := Nat.mul_le_mul_right _ (Nat.mul_le_mul_right _ h)
    _ = v * one64 * (M.natAbs * one64) := own_ac _ _ _
theorem own_ge {X M : Int} {a b : UInt64} {s : Bool} {c d : Nat} {q r : Int} (ha : DInt X a) (ea : val64 a = .fin s c q) (hb : DInt M b) (eb : val64 b = .fin false d r) (hd : 0 < d) {v : Nat} {V : Datum} (hV : FP.Core.fits b64 V) (zV : zmag b64 V = v * one64) (h : v * M.natAbs ≤ X.natAbs) : v * one64 ≤ zmag b64 (roundRatio b64 s c d (q - r)) := by
  have qa := val64_fits a
  rw [ea] at qa
  have qb := val64_fits b
  rw [eb] at qb
  have Q0 := qmin_neg good_b64
  have h1 := qa.2.1
  have h2 := qb.2.1
  obtain ⟨e1, e2⟩ := own_scale ha ea hb eb v
  rw [← zV]
  refine zmag_roundRatio_ge good_b64 hd hV (e0 := 2 * b64.qmin - r) (by omega) (by omega) ?_
  rw [zV, e1, e2]
  calc v * one64 * (M.natAbs * one64) = v * M.natAbs * one64 * one64 := (own_ac _ _ _).symm
    _ ≤ X.natAbs * one64 * one64 := Nat.mul_le_mul_right _ (Nat.mul_le_mul_right _ h)
theorem own_zmag {i : Int} {a : UInt64} (h : DInt i a) : zmag b64 (val64 a) = i.natAbs * one64 := by
  obtain ⟨s, c, q, e⟩ := own_fin h
  rw [e]; exact own_unitsN h e
/-- the quotient's order against a whole number -/
theorem own_qle {X M k : Int} {a b z : UInt64} (ha : DInt X a) (hb : DInt M b) (hM : 0 < M) (hz : DInt k z) (h : X ≤ k * M) : dcmp (ddiv a b) z = some .lt ∨ dcmp (ddiv a b) z = some .eq := by
  obtain ⟨s, c, q, d, r, ea, eb, hd, ev⟩ := own_quot ha hb hM
  refine dcmp_le.mpr ⟨by rw [ev]; exact roundRatio_ne_nan _ _ _ _ _, DInt_ne_nan hz, ?_⟩
  rw [DInt_zval hz, ev]
  show signed (sgn (roundRatio b64 s c d (q - r))) (zmag b64 (roundRatio b64 s c d (q - r))) ≤ _
  rw [sgn_roundRatio]
  have hle := own_le (V := val64 z) ha ea hb eb hd (val64_fits z) (DInt_ne_nan hz) (own_zmag hz)
  have hge := own_ge (V := val64 z) ha ea hb eb hd (val64_fits z) (own_zmag hz)
  have hu := own_units ha ea
  rw [own_unitsN ha ea] at hu
  have hkM : (k * M).natAbs = k.natAbs * M.natAbs := Int.natAbs_mul _ _
  have hO := one64_pos
  have hsX : signed s X.natAbs = X := by
    have t : signed s X.natAbs * (one64 : Int) = X * (one64 : Int) := by rw [← signed_mul]; exact hu
    exact Int.eq_of_mul_eq_mul_right (by omega) t
  have hkO : k * (one64 : Int) = signed (decide (k < 0)) (k.natAbs * one64) := by
    rw [signed_mul]; congr 1
    by_cases hk : k < 0
    · simp only [hk, decide_true, signed, if_true]; omega
    · simp only [hk, decide_false, signed, Bool.false_eq_true, if_false]; omega
  rw [hkO]
  rw [← hkM] at hle hge
  have hs0 : 0 ≤ k → 0 ≤ k * M := fun hk => Int.mul_nonneg hk (by omega)
  have hs1 : k < 0 → k * M < 0 := fun hk => Int.mul_neg_of_neg_of_pos hk hM
  have hs2 : 0 < k → 0 < k * M := fun hk => Int.mul_pos hk hM
  have hs3 : k = 0 → k.natAbs * one64 = 0 := own_z0 k one64
  generalize k * M = P at *
  generalize k.natAbs * one64 = kO at *
  generalize zmag b64 (roundRatio b64 s c d (q - r)) = z1 at *
  by_cases hk : k < 0
  · simp only [hk, decide_true]
    have := hs1 hk
    cases s <;> simp only [signed, if_true, Bool.false_eq_true, if_false] at hsX ⊢
    · omega
    · have := hge (by omega); omega
  · simp only [hk, decide_false]
    have := hs0 (by omega)
    cases s <;> simp only [signed, if_true, Bool.false_eq_true, if_false] at hsX ⊢
    · have := hle (by omega); omega
    · omega
theorem own_qge {X M k : Int} {a b z : UInt64} (ha : DInt X a) (hb : DInt M b) (hM : 0 < M) (hz : DInt k z) (h : k * M ≤ X) : dcmp z (ddiv a b) = some .lt ∨ dcmp z (ddiv a b) = some .eq := by
  obtain ⟨s, c, q, d, r, ea, eb, hd, ev⟩ := own_quot ha hb hM
  refine dcmp_le.mpr ⟨DInt_ne_nan hz, by rw [ev]; exact roundRatio_ne_nan _ _ _ _ _, ?_⟩
  rw [DInt_zval hz, ev]
  show _ ≤ signed (sgn (roundRatio b64 s c d (q - r))) (zmag b64 (roundRatio b64 s c d (q - r)))
  rw [sgn_roundRatio]
  have hle := own_le (V := val64 z) ha ea hb eb hd (val64_fits z) (DInt_ne_nan hz) (own_zmag hz)
  have hge := own_ge (V := val64 z) ha ea hb eb hd (val64_fits z) (own_zmag hz)
  have hu := own_units ha ea
  rw [own_unitsN ha ea] at hu
  have hkM : (k * M).natAbs = k.natAbs * M.natAbs := Int.natAbs_mul _ _
  have hO := one64_pos
  have hsX : signed s X.natAbs = X := by
    have t : signed s X.natAbs * (one64 : Int) = X * (one64 : Int) := by rw [← signed_mul]; exact hu
    exact Int.eq_of_mul_eq_mul_right (by omega) t
  have hkO : k * (one64 : Int) = signed (decide (k < 0)) (k.natAbs * one64) := by
    rw [signed_mul]; congr 1
    by_cases hk : k < 0
    · simp only [hk, decide_true, signed, if_true]; omega
    · simp only [hk, decide_false, signed, Bool.false_eq_true, if_false]; omega
  rw [hkO]
  rw [← hkM] at hle hge
  have hs0 : 0 ≤ k → 0 ≤ k * M := fun hk => Int.mul_nonneg hk (by omega)
  have hs1 : k < 0 → k * M < 0 := fun hk => Int.mul_neg_of_neg_of_pos hk hM
  have hs2 : 0 < k → 0 < k * M := fun hk => Int.mul_pos hk hM
  have hs3 : k = 0 → k.natAbs * one64 = 0 := own_z0 k one64
  generalize k * M = P at *
  generalize k.natAbs * one64 = kO at *
  generalize zmag b64 (roundRatio b64 s c d (q - r)) = z1 at *
  by_cases hk : k < 0
  · simp only [hk, decide_true]
    have := hs1 hk
    cases s <;> simp only [signed, if_true, Bool.false_eq_true, if_false] at hsX ⊢
    · omega
    · have := hle (by omega); omega
  · simp only [hk, decide_false]
    have := hs0 (by omega)
    cases s <;> simp only [signed, if_true, Bool.false_eq_true, if_false] at hsX ⊢
    · have := hge (by omega); omega
    · have := hle (by omega); have := hs3 (by omega); omega
theorem own_qne {X M : Int} {a b : UInt64} (ha : DInt X a) (hb : DInt M b) (hM : 0 < M) : val64 (ddiv a b) ≠ .nan := by
  obtain ⟨s, c, q, d, r, ea, eb, hd, ev⟩ := own_quot ha hb hM
  rw [ev]; exact roundRatio_ne_nan _ _ _ _ _
theorem own_wsh {i : Int} {s : Bool} {c : Nat} {q : Int} (n : Nat) (h : Whole i (.fin s c q)) : Whole i (.fin s (c * 2 ^ n) (q - n)) := by
  have h' : signed s (c * 2 ^ q.toNat) = i * ((2 ^ (-q).toNat : Nat) : Int) := h
  show signed s (c * 2 ^ n * 2 ^ (q - n).toNat) = i * ((2 ^ (-(q - n)).toNat : Nat) : Int)
  rw [signed_mul] at h'
  rw [signed_mul, signed_mul]
  by_cases h1 : q ≤ 0
  · rw [show q.toNat = 0 from by omega] at h'
    rw [show (q - n).toNat = 0 from by omega, show (-(q - n)).toNat = (-q).toNat + n from by omega, Nat.pow_add, Int.natCast_mul, ← Int.mul_assoc, ← h']
    simp
  · by_cases h2 : (n : Int) ≤ q
    · rw [show (-q).toNat = 0 from by omega] at h'
      rw [show (-(q - n)).toNat = 0 from by omega, Int.mul_assoc, ← Int.natCast_mul, ← Nat.pow_add, show n + (q - n).toNat = q.toNat from by omega, h']
    · rw [show (-q).toNat = 0 from by omega] at h'
      rw [show (q - n).toNat = 0 from by omega, show (-(q - n)).toNat = n - q.toNat from by omega]
      have e : i = signed s c * ((2 ^ q.toNat : Nat) : Int) := by rw [h']; simp
      rw [e, Int.mul_assoc (signed s c) ((2 ^ q.toNat : Nat) : Int), ← Int.natCast_mul, ← Nat.pow_add, show q.toNat + (n - q.toNat) = n from by omega]
      simp
theorem own_qm64 : b64.qmin = -1074 := by decide +kernel
theorem own_qx64 : b64.qmax = 971 := by decide +kernel
/-- division by a power of two, multiplied back -/
theorem own_back {X : Int} {k : Nat} {a b : UInt64} (hk : k ≤ 31) (ha : DInt X a) (hX : X.natAbs ≤ 2 ^ 53) (hb : DInt ((2 ^ k : Nat) : Int) b) : DInt X (dmul (ddiv a b) b) := by
  have hM : (0 : Int) < ((2 ^ k : Nat) : Int) := by have := Nat.two_pow_pos k; omega
  obtain ⟨s, c, q, d, r, ea, eb, hd, ev⟩ := own_quot ha hb hM
  have fb := val64_fits b
  rw [eb] at fb
  have wb : Whole ((2 ^ k : Nat) : Int) (.fin false d r) := by have := hb; unfold DInt at this; rw [eb] at this; exact this
  have wa : Whole X (.fin s c q) := by have := ha; unfold DInt at this; rw [ea] at this; exact this
  have fa := val64_fits a
  rw [ea] at fa
  have w2 : Whole ((2 ^ k : Nat) : Int) (.fin false (2 ^ 52) ((k : Int) - 52)) := by
    show signed false (2 ^ 52 * 2 ^ ((k : Int) - 52).toNat) = ((2 ^ k : Nat) : Int) * ((2 ^ (-((k : Int) - 52)).toNat : Nat) : Int)
    rw [show ((k : Int) - 52).toNat = 0 from by omega, show (-((k : Int) - 52)).toNat = 52 - k from by omega, ← Int.natCast_mul, show 2 ^ k * 2 ^ (52 - k) = 2 ^ 52 from by rw [← Nat.pow_add, show k + (52 - k) = 52 from by omega]]
    rfl
  have f2 : FP.Core.fits b64 (.fin false (2 ^ 52) ((k : Int) - 52)) := by
    refine ⟨by decide +kernel, ?_, ?_, Or.inr (by decide +kernel)⟩
    · rw [own_qm64]; omega
    · rw [own_qx64]; omega
  have eq := whole_unique good_b64 (by omega) wb w2 fb f2
  injection eq with _ ed er
  subst ed er
  unfold DInt
  rw [val64_dmul, ev, eb]
  refine whole_round good_b64 wide_b64 hX ?_
  by_cases h0 : c = 0
  · have hX0 : X = 0 := (whole_zero wa).mp h0
    subst hX0
    unfold roundRatio
    rw [if_pos h0]
    show signed _ (0 * 2 ^ 52 * _) = _
    rw [Nat.zero_mul, signed_zero]; simp
  · have hX0 : X ≠ 0 := fun q => h0 ((whole_zero wa).mpr q)
    have hq : -53 < q := by
      refine Int.lt_of_not_ge fun hq => ?_
      have h' : signed s (c * 2 ^ q.toNat) = X * ((2 ^ (-q).toNat : Nat) : Int) := wa
      have t := congrArg Int.natAbs h'
      rw [natAbs_signed, Int.natAbs_mul, Int.natAbs_natCast, show q.toNat = 0 from by omega, Nat.pow_zero, Nat.mul_one] at t
      have p1 : 2 ^ 53 ≤ 2 ^ (-q).toNat := Nat.pow_le_pow_right (by decide) (by omega)
      have p2 : 1 * 2 ^ (-q).toNat ≤ X.natAbs * 2 ^ (-q).toNat := Nat.mul_le_mul_right _ (by omega)
      have p3 : c < 2 ^ 53 := fa.1
      generalize 2 ^ (-q).toNat = w at *
      omega
    have fr : FP.Core.fits b64 (.fin s c (q - k)) := by
      refine ⟨fa.1, ?_, ?_, ?_⟩
      · rw [own_qm64]; omega
      · have := fa.2.2.1; omega
      · rcases fa.2.2.2 with h | h
        · rw [own_qm64] at h; omega
        · exact Or.inr h
    rw [roundRatio_exact (q := q - k) good_b64 (by decide +kernel) fr (by
      rw [show (q - ((k : Int) - 52) - (q - k)).toNat = 52 from by omega, show (q - k - (q - ((k : Int) - 52))).toNat = 0 from by omega, Nat.pow_zero, Nat.mul_one])]
    show Whole X (.fin (s != false) (c * 2 ^ 52) (q - k + ((k : Int) - 52)))
    rw [show (s != false) = s from by cases s <;> rfl, show q - k + ((k : Int) - 52) = q - ((52 : Nat) : Int) from by omega]
    exact own_wsh 52 wa
theorem own_h100 : DInt 100 4636737291354636288 := by
  unfold DInt
  rw [show val64 4636737291354636288 = .fin false 7036874417766400 (-46) from by decide +kernel]
  show signed false (7036874417766400 * 2 ^ (-46 : Int).toNat) = 100 * ((2 ^ (-(-46 : Int)).toNat : Nat) : Int)
  decide +kernel
end OwnFloat
section OwnFloat2
open FP.Core
theorem own_d0 : DInt 0 FP.dconst0 := by
  show Whole 0 (val64 dconst0)
  rw [val64_dconst0]
  show signed false (0 * 2 ^ _) = 0 * _
  rw [Nat.zero_mul, signed_zero, Int.zero_mul]
theorem own_cgt {i j : Int} {a b : UInt64} (ha : DInt i a) (hb : DInt j b) (h : j < i) (o : Jvm.ClassFile.CmpOp) : (0 : Int32) < cmpValue (FP.dcmp a b) o := by
  rw [show FP.dcmp a b = some (compare i j) from dcmp_int ha hb, Int.compare_eq_gt.mpr h]
  show (0 : Int32) < 1
  decide
theorem own_cle {i j : Int} {a b : UInt64} (ha : DInt i a) (hb : DInt j b) (h : i ≤ j) (o : Jvm.ClassFile.CmpOp) : ¬ ((0 : Int32) < cmpValue (FP.dcmp a b) o) := by
  rw [show FP.dcmp a b = some (compare i j) from dcmp_int ha hb]
  rcases Int.lt_or_eq_of_le h with h | h
  · rw [Int.compare_eq_lt.mpr h]; show ¬ (0 : Int32) < -1; decide
  · rw [Int.compare_eq_eq.mpr h]; show ¬ (0 : Int32) < 0; decide
theorem own_ceq {i : Int} {a b : UInt64} (ha : DInt i a) (hb : DInt i b) (o : Jvm.ClassFile.CmpOp) : cmpValue (FP.dcmp a b) o = (0 : Int32) := by
  rw [show FP.dcmp a b = some (compare i i) from dcmp_int ha hb, compare_self_int]; rfl
theorem own_cno {a b : UInt64} (h : dcmp a b = some .lt ∨ dcmp a b = some .eq) (o : Jvm.ClassFile.CmpOp) : ¬ ((0 : Int32) < cmpValue (FP.dcmp a b) o) := by
  have h' : FP.dcmp a b = some .lt ∨ FP.dcmp a b = some .eq := h
  rcases h' with h | h <;> rw [h]
  · show ¬ (0 : Int32) < -1; decide
  · show ¬ (0 : Int32) < 0; decide
abbrev own_drop (d m : UInt64) : UInt64 := FP.ddiv (FP.dmul (4636737291354636288 : UInt64) (FP.dsub m d)) m
theorem own_num {M b : Int} {w d : UInt64} (hw : DInt M w) (hd : DInt b d) (h : (M - b).natAbs ≤ 4294967296) : DInt (M - b) (FP.dsub w d) ∧ DInt (100 * (M - b)) (FP.dmul (4636737291354636288 : UInt64) (FP.dsub w d)) := by
  have h1 : DInt (M - b) (FP.dsub w d) := dsub_int hw hd (by omega)
  exact ⟨h1, dmul_int own_h100 h1 (by omega)⟩
theorem own_nans {M b : Int} {w d : UInt64} (hw : DInt M w) (hd : DInt b d) (hM : 0 < M) (h : (M - b).natAbs ≤ 4294967296) : Jvm.Free.Fl.NoNaN64 (FP.dsub w d) ∧ Jvm.Free.Fl.NoNaN64 (FP.dmul (4636737291354636288 : UInt64) (FP.dsub w d)) ∧ Jvm.Free.Fl.NoNaN64 (FP.ddiv (FP.dmul (4636737291354636288 : UInt64) (FP.dsub w d)) w) := by
  obtain ⟨h1, h2⟩ := own_num hw hd h
  exact ⟨Jvm.Free.Fl.val64_no.mpr (DInt_ne_nan h1), Jvm.Free.Fl.val64_no.mpr (DInt_ne_nan h2), Jvm.Free.Fl.val64_no.mpr (own_qne h2 hw hM)⟩
theorem own_and31 (p : Int32) : 0 ≤ (p &&& (2147483647 : Int32)).toInt ∧ (p &&& (2147483647 : Int32)).toInt ≤ 2147483647 := by
  have e2 : (p &&& 2147483647).toInt = (p.toBitVec &&& 2147483647#32).toInt := rfl
  have h : (p.toBitVec &&& 2147483647#32).toNat ≤ 2147483647 := by rw [BitVec.toNat_and]; exact Nat.and_le_right
  rw [e2, BitVec.toInt_eq_toNat_cond]
  split <;> omega
theorem own_m0 (p : Int32) : (-(p &&& (2147483647 : Int32))).toInt ≤ 0 := by
  have h := own_and31 p
  rw [Int32.toInt_neg, Int.bmod_eq_of_le (by omega) (by omega)]; omega
theorem own_m2 (p : Int32) : 1 ≤ ((p &&& (2147483647 : Int32)).toInt64 + (1 : Int64)).toInt ∧ ((p &&& (2147483647 : Int32)).toInt64 + (1 : Int64)).toInt ≤ 2147483648 := by
  have h := own_and31 p
  have h1 := c_ladd ((p &&& (2147483647 : Int32)).toInt64) 1
  rw [c_i2l, show (1 : Int64).toInt = 1 from rfl] at h1
  have h2 := Int64.toInt_lt ((p &&& (2147483647 : Int32)).toInt64 + (1 : Int64))
  have h3 := Int64.le_toInt ((p &&& (2147483647 : Int32)).toInt64 + (1 : Int64))
  omega
theorem own_m1 (p : Int32) : ∃ k : Nat, k ≤ 31 ∧ ((1 : Int64) <<< ((p &&& (31 : Int32)) &&& 0x3f).toInt64).toInt = ((2 ^ k : Nat) : Int) := by
  have hn : (p &&& (31 : Int32)).toBitVec.toNat ≤ 31 := by
    show (p.toBitVec &&& 31#32).toNat ≤ 31
    rw [BitVec.toNat_and]; exact Nat.and_le_right
  refine ⟨(p &&& (31 : Int32)).toBitVec.toNat % 64, by omega, ?_⟩
  have h1 := c_lshl 1 (p &&& (31 : Int32)) _ rfl
  have hk : (p &&& (31 : Int32)).toBitVec.toNat % 64 ≤ 31 := by omega
  generalize (p &&& (31 : Int32)).toBitVec.toNat % 64 = k at *
  rw [show (1 : Int64).toInt = 1 from rfl] at h1
  have h2 := Int64.toInt_lt ((1 : Int64) <<< ((p &&& (31 : Int32)) &&& 0x3f).toInt64)
  have h3 := Int64.le_toInt ((1 : Int64) <<< ((p &&& (31 : Int32)) &&& 0x3f).toInt64)
  have h4 : 2 ^ k ≤ 2 ^ 31 := Nat.pow_le_pow_right (by decide) hk
  have h5 := Nat.two_pow_pos k
  generalize 2 ^ k = w at *
  omega
theorem own_m1b (p : Int32) : 1 ≤ ((1 : Int64) <<< ((p &&& (31 : Int32)) &&& 0x3f).toInt64).toInt ∧ ((1 : Int64) <<< ((p &&& (31 : Int32)) &&& 0x3f).toInt64).toInt ≤ 2147483648 := by
  obtain ⟨k, hk, ek⟩ := own_m1 p
  have h4 : 2 ^ k ≤ 2 ^ 31 := Nat.pow_le_pow_right (by decide) hk
  have h5 := Nat.two_pow_pos k
  rw [ek]
  generalize 2 ^ k = w at *
  omega
theorem own_mz {m : Int64} (h : 1 ≤ m.toInt) : ¬ (m = (0 : Int64)) := fun q => by rw [q] at h; exact absurd h (by decide)
theorem own_x {m : Int64} {b : Int32} (h1 : 1 ≤ m.toInt) (h2 : m.toInt ≤ 2147483648) : ((100 : Int64) * (m - b.toInt64)).toInt = 100 * (m.toInt - b.toInt) ∧ (m.toInt - b.toInt).natAbs ≤ 4294967296 := by
  have b1 := Int32.toInt_lt b
  have b2 := Int32.le_toInt b
  have e1 := c_lsub m b.toInt64
  rw [c_i2l] at e1
  have s1 := Int64.toInt_lt (m - b.toInt64)
  have s2 := Int64.le_toInt (m - b.toInt64)
  have e2 := c_lmul 100 (m - b.toInt64)
  rw [show (100 : Int64).toInt = 100 from rfl] at e2
  have s3 := Int64.toInt_lt ((100 : Int64) * (m - b.toInt64))
  have s4 := Int64.le_toInt ((100 : Int64) * (m - b.toInt64))
  omega
theorem own_l2d {a : Int64} (h : a.toInt.natAbs ≤ 9007199254740992) : DInt a.toInt (FP.l2d a) := l2d_int h
theorem own_i2d (a : Int32) : DInt a.toInt (FP.i2d a) := i2d_int a
/-- kind 1 -/
theorem own_k1 (e b : Int32) {m : Int64} (hm : m = (1 : Int64) <<< ((e &&& (31 : Int32)) &&& 0x3f).toInt64) :
    Jvm.Free.Fl.NoNaN64 (FP.dmul (own_drop (FP.i2d b) (FP.l2d m)) (FP.l2d m)) ∧ cmpValue (FP.dcmp (FP.dmul (own_drop (FP.i2d b) (FP.l2d m)) (FP.l2d m)) (FP.l2d ((100 : Int64) * (m - b.toInt64)))) .l = (0 : Int32) := by
  obtain ⟨k, hk, ek⟩ := own_m1 e
  rw [← hm] at ek
  have h4 : 2 ^ k ≤ 2 ^ 31 := Nat.pow_le_pow_right (by decide) hk
  have h5 := Nat.two_pow_pos k
  obtain ⟨ex, hx⟩ := own_x (m := m) (b := b) (by omega) (by omega)
  have dm := own_l2d (a := m) (by omega)
  obtain ⟨n1, n2⟩ := own_num dm (own_i2d b) hx
  have q := own_back (k := k) hk n2 (by omega) (by rw [← ek]; exact dm)
  have dx : DInt (100 * (m.toInt - b.toInt)) (FP.l2d ((100 : Int64) * (m - b.toInt64))) := by rw [← ex]; exact own_l2d (by omega)
  exact ⟨Jvm.Free.Fl.val64_no.mpr (DInt_ne_nan q), own_ceq q dx _⟩
theorem own_mM {m : Int64} {b : Int32} (h1 : 1 ≤ m.toInt) (h2 : m.toInt ≤ 2147483648) : (0 : Int32) < cmpValue (FP.dcmp (FP.l2d m) FP.dconst0) .l ∧ Jvm.Free.Fl.NoNaN64 (FP.dsub (FP.l2d m) (FP.i2d b)) ∧ Jvm.Free.Fl.NoNaN64 (FP.dmul (4636737291354636288 : UInt64) (FP.dsub (FP.l2d m) (FP.i2d b))) ∧ Jvm.Free.Fl.NoNaN64 (FP.ddiv (FP.dmul (4636737291354636288 : UInt64) (FP.dsub (FP.l2d m) (FP.i2d b))) (FP.l2d m)) := by
  obtain ⟨ex, hx⟩ := own_x (m := m) (b := b) h1 h2
  have dm := own_l2d (a := m) (by omega)
  exact ⟨own_cgt dm own_d0 (by omega) _, own_nans dm (own_i2d b) (by omega) hx⟩
/-- kinds 2 and 3: between lo and hi -/
theorem own_k2 {m lo hi : Int64} {b : Int32} (h1 : 1 ≤ m.toInt) (h2 : m.toInt ≤ 2147483648) (hl : lo.toInt * m.toInt ≤ 100 * (m.toInt - b.toInt)) (hh : 100 * (m.toInt - b.toInt) ≤ hi.toInt * m.toInt) (bl : lo.toInt.natAbs ≤ 9007199254740992) (bh : hi.toInt.natAbs ≤ 9007199254740992) :
    ¬ ((0 : Int32) < cmpValue (FP.dcmp (FP.l2d lo) (own_drop (FP.i2d b) (FP.l2d m))) .g) ∧ ¬ ((0 : Int32) < cmpValue (FP.dcmp (own_drop (FP.i2d b) (FP.l2d m)) (FP.l2d hi)) .g) := by
  obtain ⟨ex, hx⟩ := own_x (m := m) (b := b) h1 h2
  have dm := own_l2d (a := m) (by omega)
  obtain ⟨n1, n2⟩ := own_num dm (own_i2d b) hx
  exact ⟨own_cno (own_qge n2 dm (by omega) (own_l2d bl) hl) _, own_cno (own_qle n2 dm (by omega) (own_l2d bh) hh) _⟩
/-- the quotient x / m -/
theorem own_dv {m x : Int64} (h1 : 1 ≤ m.toInt) (hx : x.toInt.natAbs ≤ 429496729600) : (0 ≤ x.toInt → (x / m).toInt * m.toInt ≤ x.toInt ∧ x.toInt < ((x / m).toInt + 1) * m.toInt) ∧ (x.toInt < 0 → x.toInt ≤ (x / m).toInt * m.toInt ∧ ((x / m).toInt - 1) * m.toInt < x.toInt) ∧ (x / m).toInt.natAbs ≤ 429496729600 ∧ (x - (x / m) * m).toInt = x.toInt - (x / m).toInt * m.toInt := by
  have hne : m ≠ -1 := fun q => by rw [q] at h1; exact absurd h1 (by decide)
  obtain ⟨d1, d2⟩ := c_ldiv x m m.toInt rfl hne
  obtain ⟨r1, r2⟩ := c_lrem x m m.toInt rfl
  have p0 : (0 : Int) < m.toInt := by omega
  by_cases h : 0 ≤ x.toInt
  · have e := d1 h
    have e' := r1 h
    have t1 := Int.mul_ediv_add_emod x.toInt m.toInt
    have t2 := Int.emod_nonneg x.toInt (show m.toInt ≠ 0 by omega)
    have t3 := Int.emod_lt_of_pos x.toInt p0
    have t4 := Int.ediv_nonneg h (show 0 ≤ m.toInt by omega)
    have t5 := Int.ediv_le_self m.toInt h
    have c1 : m.toInt * (x.toInt / m.toInt) = (x.toInt / m.toInt) * m.toInt := Int.mul_comm _ _
    have c2 : (x.toInt / m.toInt + 1) * m.toInt = (x.toInt / m.toInt) * m.toInt + m.toInt := by rw [Int.add_mul, Int.one_mul]
    rw [e, e', c2]
    generalize x.toInt / m.toInt = Q at *
    generalize x.toInt % m.toInt = S at *
    generalize Q * m.toInt = P at *
    refine ⟨fun _ => ⟨by omega, by omega⟩, fun q => by omega, by omega, by omega⟩
  · have e := d2 (by omega)
    have e' := r2 (by omega)
    have t1 := Int.mul_ediv_add_emod (-x.toInt) m.toInt
    have t2 := Int.emod_nonneg (-x.toInt) (show m.toInt ≠ 0 by omega)
    have t3 := Int.emod_lt_of_pos (-x.toInt) p0
    have t4 := Int.ediv_nonneg (show 0 ≤ -x.toInt by omega) (show 0 ≤ m.toInt by omega)
    have t5 := Int.ediv_le_self m.toInt (show 0 ≤ -x.toInt by omega)
    have c1 : m.toInt * (-x.toInt / m.toInt) = (-x.toInt / m.toInt) * m.toInt := Int.mul_comm _ _
    have c2 : (-(-x.toInt / m.toInt) - 1) * m.toInt = -((-x.toInt / m.toInt) * m.toInt) - m.toInt := by rw [Int.sub_mul, Int.one_mul, Int.neg_mul]
    have c3 : (-(-x.toInt / m.toInt)) * m.toInt = -((-x.toInt / m.toInt) * m.toInt) := Int.neg_mul _ _
    rw [e, e', c2, c3]
    generalize -x.toInt / m.toInt = Q at *
    generalize -x.toInt % m.toInt = S at *
    generalize Q * m.toInt = P at *
    refine ⟨fun q => absurd q h, fun _ => ⟨by omega, by omega⟩, by omega, by omega⟩
theorem own_inc {q : Int64} (h : q.toInt.natAbs ≤ 429496729600) : (q + (1 : Int64)).toInt = q.toInt + 1 ∧ (q - (1 : Int64)).toInt = q.toInt - 1 := by
  have e1 := c_ladd q 1
  have e2 := c_lsub q 1
  rw [show (1 : Int64).toInt = 1 from rfl] at e1 e2
  have s1 := Int64.toInt_lt (q + 1)
  have s2 := Int64.le_toInt (q + 1)
  have s3 := Int64.toInt_lt (q - 1)
  have s4 := Int64.le_toInt (q - 1)
  omega
/-- what kinds 2 and 3 ask, road by road -/
theorem own_rA {m : Int64} {b : Int32} (h1 : 1 ≤ m.toInt) (h2 : m.toInt ≤ 2147483648) {x : Int64} (hx : x = (100 : Int64) * (m - b.toInt64)) (hr : lcmpW (x - (x / m) * m) (0 : Int64) = (0 : Int32)) :
    ¬ ((0 : Int32) < cmpValue (FP.dcmp (FP.l2d (x / m)) (own_drop (FP.i2d b) (FP.l2d m))) .g) ∧ ¬ ((0 : Int32) < cmpValue (FP.dcmp (own_drop (FP.i2d b) (FP.l2d m)) (FP.l2d (x / m))) .g) := by
  obtain ⟨ex, bx⟩ := own_x (m := m) (b := b) h1 h2
  rw [← hx] at ex
  obtain ⟨d1, d2, d3, d4⟩ := own_dv (m := m) (x := x) h1 (by omega)
  have e : x - (x / m) * m = 0 := own_lc0.mp hr
  rw [e, show (0 : Int64).toInt = 0 from rfl] at d4
  exact own_k2 h1 h2 (by omega) (by omega) (by omega) (by omega)
theorem own_rB {m : Int64} {b : Int32} (h1 : 1 ≤ m.toInt) (h2 : m.toInt ≤ 2147483648) {x : Int64} (hx : x = (100 : Int64) * (m - b.toInt64)) (hp : (0 : Int32) < lcmpW x (0 : Int64)) :
    ¬ ((0 : Int32) < cmpValue (FP.dcmp (FP.l2d (x / m)) (own_drop (FP.i2d b) (FP.l2d m))) .g) ∧ ¬ ((0 : Int32) < cmpValue (FP.dcmp (own_drop (FP.i2d b) (FP.l2d m)) (FP.l2d ((x / m) + (1 : Int64)))) .g) := by
  obtain ⟨ex, bx⟩ := own_x (m := m) (b := b) h1 h2
  rw [← hx] at ex
  obtain ⟨d1, d2, d3, d4⟩ := own_dv (m := m) (x := x) h1 (by omega)
  obtain ⟨i1, i2⟩ := own_inc d3
  have e := own_lcgt.mp hp
  have e' : 0 < x.toInt := by have := Int64.lt_iff_toInt_lt.mp e; rw [show (0 : Int64).toInt = 0 from rfl] at this; exact this
  obtain ⟨f1, f2⟩ := d1 (by omega)
  exact own_k2 h1 h2 (by omega) (by rw [i1]; omega) (by omega) (by omega)
theorem own_rC {m : Int64} {b : Int32} (h1 : 1 ≤ m.toInt) (h2 : m.toInt ≤ 2147483648) {x : Int64} (hx : x = (100 : Int64) * (m - b.toInt64)) (hr : ¬ (lcmpW (x - (x / m) * m) (0 : Int64) = (0 : Int32))) (hp : ¬ ((0 : Int32) < lcmpW x (0 : Int64))) :
    ¬ ((0 : Int32) < cmpValue (FP.dcmp (FP.l2d ((x / m) - (1 : Int64))) (own_drop (FP.i2d b) (FP.l2d m))) .g) ∧ ¬ ((0 : Int32) < cmpValue (FP.dcmp (own_drop (FP.i2d b) (FP.l2d m)) (FP.l2d (x / m))) .g) := by
  obtain ⟨ex, bx⟩ := own_x (m := m) (b := b) h1 h2
  rw [← hx] at ex
  obtain ⟨d1, d2, d3, d4⟩ := own_dv (m := m) (x := x) h1 (by omega)
  obtain ⟨i1, i2⟩ := own_inc d3
  have e : ¬ x - (x / m) * m = 0 := fun q => hr (own_lc0.mpr q)
  have e' : ¬ 0 < x.toInt := fun q => hp (own_lcgt.mpr (Int64.lt_iff_toInt_lt.mpr (by rw [show (0 : Int64).toInt = 0 from rfl]; exact q)))
  have e2 : x.toInt < 0 := by
    refine Int.lt_iff_le_and_ne.mpr ⟨by omega, fun q => e ?_⟩
    have z : x = 0 := Int64.toInt_inj.mp q
    rw [z, Int64.zero_div, Int64.zero_mul]; rfl
  obtain ⟨f1, f2⟩ := d2 e2
  exact own_k2 h1 h2 (by rw [i2]; omega) (by omega) (by omega) (by omega)
end OwnFloat2
def Qu (Z : State) (a1 : Addr) (d3 d4 : UInt64) (h0 : Heap) (n0 : Nat) (v : Option Value) (h : Heap) (L : List Loc) : Prop := v = none ∧ Fr n0 L ∧ Keep h0 h [a1] ∧ Fld Z h a1 "com/example/precision/precision/models/Uncertainty$TopicUncertainty" "bits" "D" (.double d3) ∧ Fld Z h a1 "com/example/precision/precision/models/Uncertainty$TopicUncertainty" "maximum" "D" (.double d4)
theorem d2_0 : decode jdk_43_method_3_code 0 = .ok (.iload_n 0, 1) := by decide +kernel
theorem d2_1 : decode jdk_43_method_3_code 1 = .ok (.sipush 255, 3) := by decide +kernel
theorem d2_4 : decode jdk_43_method_3_code 4 = .ok (.if_icmp .gt 7, 3) := by decide +kernel
theorem d2_7 : decode jdk_43_method_3_code 7 = .ok (.iconst 1, 1) := by decide +kernel
theorem d2_8 : decode jdk_43_method_3_code 8 = .ok (.goto 4, 3) := by decide +kernel
theorem d2_12 : decode jdk_43_method_3_code 12 = .ok (.ireturn, 1) := by decide +kernel
theorem pn_2 : plainName "java/lang/StringLatin1" = true := by first | (simp [plainName, overriddenIn]; done) | decide +kernel
theorem ef_2 (m : MethodId) (x0 : Int32) : entryFrame m #[(.int x0)] 1 = mkF m 0 #[.val (.int x0)] [] := by first | (simp [entryFrame, mkF, argsToLocals, Value.category]; done) | rfl
set_option maxRecDepth 65536 in
set_option maxHeartbeats 40000000 in
theorem rm2 (l : Launch) (Z : State) (a0 : Array Value) (hw : ∀ d ∈ tables_1, d.before a0 Z = true) (ws : List Jvm.Cond) (p1 : Int32) (h0 : Heap) (n0 : Nat) (Z0 : n0 ≤ h0.size) (hc4 : ¬ ((255 : Int32) < p1)) :
    MetFree l (⟨"java/lang/StringLatin1", "canEncode", "(C)Z"⟩ : MethodName) (head1 (Jvm.Cond.code (⟨"java/lang/StringLatin1", "canEncode", "(C)Z"⟩ : MethodName) jdk_43_method_3_code 1 (some .boolean) :: ws) ({ frames := 0, cells := 0, slots := 0, locals := 0 } : Room)) (fun a U => a = #[(.int p1)] ∧ Z.Warmed39 U.vm ∧ U.heap = h0) (fun _ _ _ _ _ => True) (fun _ U o U' => ∃ v L, o = .returned v ∧ Qv (some (.int (1 : Int32))) h0 n0 v U'.heap L ∧ FrameEnd U o U' L ({ frames := 0, cells := 0, slots := 0, locals := 0 } : Room).cells ({ frames := 0, cells := 0, slots := 0, locals := 0 } : Room).slots) := by
  refine MetFree.of_bodySF (plainFor_of_name pn_2) hisR ?_
  intro p e s m args below meth c s₁ Bd hml0 hP hK
  obtain ⟨rfl, hZ, hh⟩ := hP
  have hx := Bd.exec
  have hby := Bd.bytes
  have hml : c.maxLocals = 1 := hml0
  have hown : s.vm.findClass "java/lang/StringLatin1" = some m.cls := findClass_of_methodNamed Bd.named
  have hnm := (name_of_methodNamed Bd.named Bd.method).1
  have X0 : Stand p l e ({ frames := 0, cells := 0, slots := 0, locals := 0 } : Room) s m #[(.int p1)] below meth c s₁ [] 0 0 := Stand.of_body Bd
  have e0 : s₁.heap = h0 := by rw [← hh, Bd.state]; rfl
  have N0 := Fr.nil n0
  have pre0 : ∀ t, Steps p.tables e below (s₁.setTop (mkF m 0 #[.val (.int p1)] [])) t → Steps p.tables e below (s₁.setTop (entryFrame m #[(.int p1)] 1)) t := fun t k => castTop (ef_2 m p1) k
  -- 3. LAWS

  obtain ⟨fs, hr, hrun, hended, hW, hsame⟩ := X0.leave (v := some (.int (1 : Int32))) (fun h => by rw [Bd.returns] at h; cases h)
  refine ⟨_, _, pre0 _ ?_, hrun, hended, _, _, rfl, ?_, ⟨_, rfl⟩, hW, hsame.mono (by decide) (by decide)⟩
  -- 4. STEPS
  · show Steps p.tables e below (s₁.setTop (mkF m 0 #[.val (.int p1)] [])) _
    refine XS.iloadN X0.here hx rfl (hb hby d2_0) rfl ?_
    show Steps p.tables e below (s₁.setTop (mkF m 1 #[.val (.int p1)] [(.int p1)])) _
    refine XS.sipush X0.here hx rfl (hb hby d2_1) ?_
    show Steps p.tables e below (s₁.setTop (mkF m 4 #[.val (.int p1)] [(.int (255 : Int32)), (.int p1)])) _
    refine XS.icmpNo X0.here hx rfl (hb hby d2_4) rfl (flt hc4).2.2.1 ?_
    show Steps p.tables e below (s₁.setTop (mkF m 7 #[.val (.int p1)] [])) _
    refine XS.iconst X0.here hx rfl (hb hby d2_7) ?_
    show Steps p.tables e below (s₁.setTop (mkF m 8 #[.val (.int p1)] [(.int (1 : Int32))])) _
    refine XS.goto X0.here hx rfl (pc0 := 8) (pc' := 12) rfl (hb hby d2_8) (by decide) (by decide) ?_
    show Steps p.tables e below (s₁.setTop (mkF m 12 #[.val (.int p1)] [(.int (1 : Int32))])) _
    exact retN X0 hx (t := .boolean) Bd.returns (by simp) (hb hby d2_12) hr
  · show Qv (some (.int (1 : Int32))) h0 n0 _ s₁.heap _
    rw [e0]
    exact ⟨rfl, N0, rfl⟩
theorem d3_0 : decode jdk_43_method_46_code 0 = .ok (.iconst 1, 1) := by decide +kernel
theorem d3_1 : decode jdk_43_method_46_code 1 = .ok (.newarray .byte, 2) := by decide +kernel
theorem d3_3 : decode jdk_43_method_46_code 3 = .ok (.dup, 1) := by decide +kernel
theorem d3_4 : decode jdk_43_method_46_code 4 = .ok (.iconst 0, 1) := by decide +kernel
theorem d3_5 : decode jdk_43_method_46_code 5 = .ok (.iload_n 0, 1) := by decide +kernel
theorem d3_6 : decode jdk_43_method_46_code 6 = .ok (.i2b, 1) := by decide +kernel
theorem d3_7 : decode jdk_43_method_46_code 7 = .ok (.bastore, 1) := by decide +kernel
theorem d3_8 : decode jdk_43_method_46_code 8 = .ok (.areturn, 1) := by decide +kernel
theorem pn_3 : plainName "java/lang/StringLatin1" = true := by first | (simp [plainName, overriddenIn]; done) | decide +kernel
theorem ef_3 (m : MethodId) (x0 : Int32) : entryFrame m #[(.int x0)] 1 = mkF m 0 #[.val (.int x0)] [] := by first | (simp [entryFrame, mkF, argsToLocals, Value.category]; done) | rfl
set_option maxRecDepth 65536 in
set_option maxHeartbeats 40000000 in
theorem rm3 (l : Launch) (Z : State) (a0 : Array Value) (hw : ∀ d ∈ tables_1, d.before a0 Z = true) (ws : List Jvm.Cond) (p1 : Int32) (h0 : Heap) (n0 : Nat) (Z0 : n0 ≤ h0.size) :
    MetFree l (⟨"java/lang/StringLatin1", "toBytes", "(C)[B"⟩ : MethodName) (head1 (Jvm.Cond.code (⟨"java/lang/StringLatin1", "toBytes", "(C)[B"⟩ : MethodName) jdk_43_method_46_code 1 (some (.array .byte)) :: ws) ({ frames := 0, cells := 1, slots := 1, locals := 0 } : Room)) (fun a U => a = #[(.int p1)] ∧ Z.Warmed39 U.vm ∧ U.heap = h0) (fun _ _ _ _ _ => True) (fun _ U o U' => ∃ v L, o = .returned v ∧ Qr h0 n0 v U'.heap L ∧ FrameEnd U o U' L ({ frames := 0, cells := 1, slots := 1, locals := 0 } : Room).cells ({ frames := 0, cells := 1, slots := 1, locals := 0 } : Room).slots) := by
  refine MetFree.of_bodySF (plainFor_of_name pn_3) hisR ?_
  intro p e s m args below meth c s₁ Bd hml0 hP hK
  obtain ⟨rfl, hZ, hh⟩ := hP
  have hx := Bd.exec
  have hby := Bd.bytes
  have hml : c.maxLocals = 1 := hml0
  have hown : s.vm.findClass "java/lang/StringLatin1" = some m.cls := findClass_of_methodNamed Bd.named
  have hnm := (name_of_methodNamed Bd.named Bd.method).1
  have X0 : Stand p l e ({ frames := 0, cells := 1, slots := 1, locals := 0 } : Room) s m #[(.int p1)] below meth c s₁ [] 0 0 := Stand.of_body Bd
  have e0 : s₁.heap = h0 := by rw [← hh, Bd.state]; rfl
  have N0 := Fr.nil n0
  have pre0 : ∀ t, Steps p.tables e below (s₁.setTop (mkF m 0 #[.val (.int p1)] [])) t → Steps p.tables e below (s₁.setTop (entryFrame m #[(.int p1)] 1)) t := fun t k => castTop (ef_3 m p1) k
  -- 3. LAWS
  obtain ⟨T2, h2, k2, X2, e2, E2, A2, st2⟩ := newP X0 hx hZ (hw _ (List.mem_of_getElem? (i := 14) rfl)) e0 (g := (mkF m 1 #[.val (.int p1)] [(.int (1 : Int32))])) rfl (hb hby d3_1) rfl (by decide) (cap := 1) (by decide) (by decide) (by decide) (by decide)
  obtain ⟨b2, g2⟩ : ∃ z, z = h0.size := ⟨_, rfl⟩      -- the fresh array's address
  rw [← g2] at A2 st2
  have V_b2 : Arv Z h2 b2 k2 .byte (1 : Int32) [(.int (0 : Int32))] (.int (0 : Int32)) := (Arv.new A2 (by decide)).pad (pad_rep [] (.int (0 : Int32)) 1)
  have g_b2 : n0 ≤ b2 := Nat.le_trans Z0 (Nat.le_of_eq g2.symm)
  have sz_b2 : h0.size ≤ b2 := (Nat.le_trans (Keep.refl h0 []).1 (Nat.le_of_eq g2.symm))
  have K2 : Keep h0 h2 [] := (Keep.refl h0 []).ext E2
  obtain ⟨cl_b2_7, Ar_b2, q_b2, S_b2, N_b2, H_b2, G_b2⟩ := V_b2      -- open the array's fact as it stands now (its cell, kind, length, elements)
  have hin7 : ¬ ((0 : Int32) < 0 ∨ cl_b2_7.slots.size ≤ ((0 : Int32)).toNatClampNeg) := inb_of S_b2 ⟨by decide, by decide⟩
  obtain ⟨T3, h3, X3, e3, W3, st3⟩ := stB X2 hx hZ e2 Ar_b2 (j := (0 : Int32)) hin7 (g := (mkF m 7 #[.val (.int p1)] [(.int (p1.toInt8.toInt32)), (.int (0 : Int32)), (.ref b2), (.ref b2)])) rfl rfl (hb hby d3_7)
  have V_b2_3 := Arv.set Ar_b2 q_b2 S_b2 N_b2 H_b2 G_b2 (fits_nar_byte _) W3 0 rfl (Nat.le_of_ble_eq_true rfl)      -- the array as it stands now (the place must lie among its first values: Arv.pad with pad_rep lengthens them)
  have K3 : Keep h0 h3 [] := K2.wr W3 (Or.inr sz_b2)
  have N3 := Fr.snoc X3 N0 g_b2
  -- (bastore into a boolean[]: stZ in stB's place)
  obtain ⟨fs, hr, hrun, hended, hW, hsame⟩ := X3.leave (v := some (.ref b2)) (fun h => by rw [Bd.returns] at h; cases h)
  refine ⟨_, _, pre0 _ ?_, hrun, hended, _, _, rfl, ?_, ⟨_, rfl⟩, hW, hsame.mono (by decide) (by decide)⟩
  -- 4. STEPS
  · show Steps p.tables e below (s₁.setTop (mkF m 0 #[.val (.int p1)] [])) _
    refine XS.iconst X0.here hx rfl (hb hby d3_0) ?_
    show Steps p.tables e below (s₁.setTop (mkF m 1 #[.val (.int p1)] [(.int (1 : Int32))])) _
    refine st2 _ ?_
    show Steps p.tables e below (T2.setTop (mkF m 3 #[.val (.int p1)] [(.ref b2)])) _
    refine XS.dup X2.here hx rfl (hb hby d3_3) rfl rfl ?_
    show Steps p.tables e below (T2.setTop (mkF m 4 #[.val (.int p1)] [(.ref b2), (.ref b2)])) _
    refine XS.iconst X2.here hx rfl (hb hby d3_4) ?_
    show Steps p.tables e below (T2.setTop (mkF m 5 #[.val (.int p1)] [(.int (0 : Int32)), (.ref b2), (.ref b2)])) _
    refine XS.iloadN X2.here hx rfl (hb hby d3_5) rfl ?_
    show Steps p.tables e below (T2.setTop (mkF m 6 #[.val (.int p1)] [(.int p1), (.int (0 : Int32)), (.ref b2), (.ref b2)])) _
    refine XS.i2b X2.here hx rfl (hb hby d3_6) rfl ?_
    show Steps p.tables e below (T2.setTop (mkF m 7 #[.val (.int p1)] [(.int (p1.toInt8.toInt32)), (.int (0 : Int32)), (.ref b2), (.ref b2)])) _
    refine st3 _ ?_
    show Steps p.tables e below (T3.setTop (mkF m 8 #[.val (.int p1)] [(.ref b2)])) _
    jvm_step X3.here [X3.here.top, hx, (hb hby d3_8), X3.method', Bd.returns, Value.isRef, FieldType.isReference]
    first | (intro acts; rw [hr _ acts rfl rfl rfl]) | rw [hr _ _ rfl rfl rfl]
    exact Steps.refl _
  · show Qr h0 n0 _ T3.heap _
    rw [e3]
    exact ⟨b2, rfl, N3, K3⟩
theorem d4_0 : decode jdk_42_method_151_code 0 = .ok (.aload_n 0, 1) := by decide +kernel
theorem d4_1 : decode jdk_42_method_151_code 1 = .ok (.invokespecial 1, 3) := by decide +kernel
theorem d4_4 : decode jdk_42_method_151_code 4 = .ok (.aload_n 0, 1) := by decide +kernel
theorem d4_5 : decode jdk_42_method_151_code 5 = .ok (.aload_n 1, 1) := by decide +kernel
theorem d4_6 : decode jdk_42_method_151_code 6 = .ok (.putfield 9, 3) := by decide +kernel
theorem d4_9 : decode jdk_42_method_151_code 9 = .ok (.aload_n 0, 1) := by decide +kernel
theorem d4_10 : decode jdk_42_method_151_code 10 = .ok (.iload_n 2, 1) := by decide +kernel
theorem d4_11 : decode jdk_42_method_151_code 11 = .ok (.putfield 15, 3) := by decide +kernel
theorem d4_14 : decode jdk_42_method_151_code 14 = .ok (.return_, 1) := by decide +kernel
theorem pn_4 : plainName "java/lang/String" = true := by first | (simp [plainName, overriddenIn]; done) | decide +kernel
theorem ef_4 (m : MethodId) (x0 : Addr) (x1 : Addr) (x2 : Int32) : entryFrame m #[(.ref x0), (.ref x1), (.int x2)] 3 = mkF m 0 #[.val (.ref x0), .val (.ref x1), .val (.int x2)] [] := by first | (simp [entryFrame, mkF, argsToLocals, Value.category]; done) | rfl
set_option maxRecDepth 65536 in
set_option maxHeartbeats 40000000 in
theorem rm4 (l : Launch) (Z : State) (a0 : Array Value) (hw : ∀ d ∈ tables_1, d.before a0 Z = true) (ws : List Jvm.Cond) (a1 : Addr) (a2 : Addr) (p3 : Int32) (u_value_a1 : Value) (u_coder_a1 : Value) (h0 : Heap) (n0 : Nat) (Z0 : n0 ≤ h0.size) (E_a1 : Exa Z h0 a1 "java/lang/String") (F_value_a1 : Fld Z h0 a1 "java/lang/String" "value" "[B" u_value_a1) (g_a1 : n0 ≤ a1) (F_coder_a1 : Fld Z h0 a1 "java/lang/String" "coder" "B" u_coder_a1) :
    MetFree l (⟨"java/lang/String", "<init>", "([BB)V"⟩ : MethodName) (head1 (Jvm.Cond.code (⟨"java/lang/String", "<init>", "([BB)V"⟩ : MethodName) jdk_42_method_151_code 3 none :: ws) ({ frames := 1, cells := 0, slots := 0, locals := 12 } : Room)) (fun a U => a = #[(.ref a1), (.ref a2), (.int p3)] ∧ Z.Warmed39 U.vm ∧ U.heap = h0) (fun _ _ _ _ _ => True) (fun _ U o U' => ∃ v L, o = .returned v ∧ Qi a1 h0 n0 v U'.heap L ∧ FrameEnd U o U' L ({ frames := 1, cells := 0, slots := 0, locals := 12 } : Room).cells ({ frames := 1, cells := 0, slots := 0, locals := 12 } : Room).slots) := by
  refine MetFree.of_bodySF (plainFor_of_name pn_4) hisR ?_
  intro p e s m args below meth c s₁ Bd hml0 hP hK
  obtain ⟨rfl, hZ, hh⟩ := hP
  have hx := Bd.exec
  have hby := Bd.bytes
  have hml : c.maxLocals = 3 := hml0
  have hown : s.vm.findClass "java/lang/String" = some m.cls := findClass_of_methodNamed Bd.named
  have hnm := (name_of_methodNamed Bd.named Bd.method).1
  have X0 : Stand p l e ({ frames := 1, cells := 0, slots := 0, locals := 12 } : Room) s m #[(.ref a1), (.ref a2), (.int p3)] below meth c s₁ [] 0 0 := Stand.of_body Bd
  have e0 : s₁.heap = h0 := by rw [← hh, Bd.state]; rfl
  have N0 := Fr.nil n0
  have pre0 : ∀ t, Steps p.tables e below (s₁.setTop (mkF m 0 #[.val (.ref a1), .val (.ref a2), .val (.int p3)] [])) t → Steps p.tables e below (s₁.setTop (entryFrame m #[(.ref a1), (.ref a2), (.int p3)] 3)) t := fun t k => castTop (ef_4 m a1 a2 p3) k
  -- 3. LAWS
  obtain ⟨T4, X4, e4, st4⟩ := initO X0 hx hZ hown (hw _ (List.mem_of_getElem? (i := 19) rfl)) (hw _ (List.mem_of_getElem? (i := 20) rfl)) (hw _ (List.mem_of_getElem? (i := 21) rfl)) e0 (g := (mkF m 1 #[.val (.ref a1), .val (.ref a2), .val (.int p3)] [(.ref a1)])) rfl (by rw [hml]; rfl) rfl (hb hby d4_1) (by decide) (W := 0) (by show 2 * 0 + _ ≤ _; exact Nat.le_of_eq rfl) (by decide)
  obtain ⟨T5, h5, X5, e5, W5, st5⟩ := putF X4 hx hZ hown (host := "") (Or.inl (hw _ (List.mem_of_getElem? (i := 22) rfl))) Via.refl e4 F_value_a1 E_a1 (Or.inr ⟨(hw _ (List.mem_of_getElem? (i := 23) rfl)), rfl, hnm⟩) (hw _ (List.mem_of_getElem? (i := 10) rfl)) (ty := (.array .byte)) (by decide) rfl rfl (g := (mkF m 6 #[.val (.ref a1), .val (.ref a2), .val (.int p3)] [(.ref a2), (.ref a1)])) rfl rfl (hb hby d4_6)
  have Fw5 := F_value_a1.same W5      -- the field now holds (.ref a2)
  have K5 : Keep h0 h5 [a1] := (Keep.refl h0 [a1]).wr W5 (Or.inl (List.mem_of_getElem? (i := 0) rfl))
  have N5 := Fr.snoc X5 N0 g_a1
  obtain ⟨T6, h6, X6, e6, W6, st6⟩ := putFN X5 hx hZ hown (hw _ (List.mem_of_getElem? (i := 24) rfl)) Via.refl e5 (F_coder_a1.other W5 (Or.inr (slot_ne (Or.inr (hw _ (List.mem_of_getElem? (i := 25) rfl))) (Or.inr (hw _ (List.mem_of_getElem? (i := 23) rfl))) (by decide) (t := .byte) (t' := (.array .byte)) (by decide) (by decide)))) (E_a1.wr W5) (Or.inr ⟨(hw _ (List.mem_of_getElem? (i := 25) rfl)), rfl, hnm⟩) (hw _ (List.mem_of_getElem? (i := 10) rfl)) (ty := .byte) (v' := (.int p3.toInt8.toInt32)) (by decide) rfl (fits_nar_byte _) (g := (mkF m 11 #[.val (.ref a1), .val (.ref a2), .val (.int p3)] [(.int p3), (.ref a1)])) rfl rfl (hb hby d4_11)
  have Fw6 := (F_coder_a1.other W5 (Or.inr (slot_ne (Or.inr (hw _ (List.mem_of_getElem? (i := 25) rfl))) (Or.inr (hw _ (List.mem_of_getElem? (i := 23) rfl))) (by decide) (t := .byte) (t' := (.array .byte)) (by decide) (by decide)))).same W6      -- the field now holds (.int p3)
  have K6 : Keep h0 h6 [a1] := K5.wr W6 (Or.inl (List.mem_of_getElem? (i := 0) rfl))
  have N6 := Fr.snoc X6 N5 g_a1
  obtain ⟨fs, hr, hrun, hended, hW, hsame⟩ := X6.leave (v := none) (fun _ => rfl)
  refine ⟨_, _, pre0 _ ?_, hrun, hended, _, _, rfl, ?_, ⟨_, rfl⟩, hW, hsame.mono (by decide) (by decide)⟩
  -- 4. STEPS
  · show Steps p.tables e below (s₁.setTop (mkF m 0 #[.val (.ref a1), .val (.ref a2), .val (.int p3)] [])) _
    refine XS.aloadN X0.here hx rfl (hb hby d4_0) rfl rfl ?_
    show Steps p.tables e below (s₁.setTop (mkF m 1 #[.val (.ref a1), .val (.ref a2), .val (.int p3)] [(.ref a1)])) _
    refine st4 _ ?_
    show Steps p.tables e below (T4.setTop (mkF m 4 #[.val (.ref a1), .val (.ref a2), .val (.int p3)] [])) _
    refine XS.aloadN X4.here hx rfl (hb hby d4_4) rfl rfl ?_
    show Steps p.tables e below (T4.setTop (mkF m 5 #[.val (.ref a1), .val (.ref a2), .val (.int p3)] [(.ref a1)])) _
    refine XS.aloadN X4.here hx rfl (hb hby d4_5) rfl rfl ?_
    show Steps p.tables e below (T4.setTop (mkF m 6 #[.val (.ref a1), .val (.ref a2), .val (.int p3)] [(.ref a2), (.ref a1)])) _
    refine st5 _ ?_
    show Steps p.tables e below (T5.setTop (mkF m 9 #[.val (.ref a1), .val (.ref a2), .val (.int p3)] [])) _
    refine XS.aloadN X5.here hx rfl (hb hby d4_9) rfl rfl ?_
    show Steps p.tables e below (T5.setTop (mkF m 10 #[.val (.ref a1), .val (.ref a2), .val (.int p3)] [(.ref a1)])) _
    refine XS.iloadN X5.here hx rfl (hb hby d4_10) rfl ?_
    show Steps p.tables e below (T5.setTop (mkF m 11 #[.val (.ref a1), .val (.ref a2), .val (.int p3)] [(.int p3), (.ref a1)])) _
    refine st6 _ ?_
    show Steps p.tables e below (T6.setTop (mkF m 14 #[.val (.ref a1), .val (.ref a2), .val (.int p3)] [])) _
    exact X6.returnOut hx Bd.returns (hb hby d4_14) hr
  · show Qi a1 h0 n0 _ T6.heap _
    rw [e6]
    exact ⟨rfl, N6, K6⟩
theorem d1_0 : decode jdk_42_method_139_code 0 = .ok (.getstatic 38, 3) := by decide +kernel
theorem d1_3 : decode jdk_42_method_139_code 3 = .ok (.ifCond .eq 23, 3) := by decide +kernel
theorem d1_6 : decode jdk_42_method_139_code 6 = .ok (.iload_n 0, 1) := by decide +kernel
theorem d1_7 : decode jdk_42_method_139_code 7 = .ok (.invokestatic 1015, 3) := by decide +kernel
theorem d1_10 : decode jdk_42_method_139_code 10 = .ok (.ifCond .eq 16, 3) := by decide +kernel
theorem d1_13 : decode jdk_42_method_139_code 13 = .ok (.new 10, 3) := by decide +kernel
theorem d1_16 : decode jdk_42_method_139_code 16 = .ok (.dup, 1) := by decide +kernel
theorem d1_17 : decode jdk_42_method_139_code 17 = .ok (.iload_n 0, 1) := by decide +kernel
theorem d1_18 : decode jdk_42_method_139_code 18 = .ok (.invokestatic 1018, 3) := by decide +kernel
theorem d1_21 : decode jdk_42_method_139_code 21 = .ok (.iconst 0, 1) := by decide +kernel
theorem d1_22 : decode jdk_42_method_139_code 22 = .ok (.invokespecial 209, 3) := by decide +kernel
theorem d1_25 : decode jdk_42_method_139_code 25 = .ok (.areturn, 1) := by decide +kernel
theorem pn_1 : plainName "java/lang/String" = true := by first | (simp [plainName, overriddenIn]; done) | decide +kernel
theorem pd_1_1 : parseMethodDescriptor "(C)Z" = some ⟨[.char], some .boolean⟩ := by decide +kernel
theorem pd_1_2 : parseMethodDescriptor "(C)[B" = some ⟨[.char], some (.array .byte)⟩ := by decide +kernel
theorem pd_1_3 : parseMethodDescriptor "([BB)V" = some ⟨[(.array .byte), .byte], none⟩ := by decide +kernel
theorem ef_1 (m : MethodId) (x0 : Int32) : entryFrame m #[(.int x0)] 1 = mkF m 0 #[.val (.int x0)] [] := by first | (simp [entryFrame, mkF, argsToLocals, Value.category]; done) | rfl
set_option maxRecDepth 65536 in
set_option maxHeartbeats 40000000 in
theorem rm1 (l : Launch) (Z : State) (a0 : Array Value) (hw : ∀ d ∈ tables_1, d.before a0 Z = true) (ws : List Jvm.Cond) (p1 : Int32) (w2 : Int32) (h0 : Heap) (n0 : Nat) (Z0 : n0 ≤ h0.size) (S_COMPACT_STRINGS : Sta Z h0 "java/lang/String" "COMPACT_STRINGS" "Z" (.int w2)) (hc3 : ¬ (w2 = (0 : Int32))) (hch : ¬ ((255 : Int32) < p1)) :
    MetFree l (⟨"java/lang/String", "valueOf", "(C)Ljava/lang/String;"⟩ : MethodName) (head1 (Jvm.Cond.code (⟨"java/lang/String", "valueOf", "(C)Ljava/lang/String;"⟩ : MethodName) jdk_42_method_139_code 1 (some (.object "java/lang/String")) :: ws) ({ frames := 2, cells := 2, slots := 5, locals := 27 } : Room)) (fun a U => a = #[(.int p1)] ∧ Z.Warmed39 U.vm ∧ U.heap = h0) (fun _ _ _ _ _ => True) (fun _ U o U' => ∃ v L, o = .returned v ∧ Qr h0 n0 v U'.heap L ∧ FrameEnd U o U' L ({ frames := 2, cells := 2, slots := 5, locals := 27 } : Room).cells ({ frames := 2, cells := 2, slots := 5, locals := 27 } : Room).slots) := by
  refine MetFree.of_bodySF (plainFor_of_name pn_1) hisR ?_
  intro p e s m args below meth c s₁ Bd hml0 hP hK
  obtain ⟨rfl, hZ, hh⟩ := hP
  have hx := Bd.exec
  have hby := Bd.bytes
  have hml : c.maxLocals = 1 := hml0
  have hown : s.vm.findClass "java/lang/String" = some m.cls := findClass_of_methodNamed Bd.named
  have hnm := (name_of_methodNamed Bd.named Bd.method).1
  have X0 : Stand p l e ({ frames := 2, cells := 2, slots := 5, locals := 27 } : Room) s m #[(.int p1)] below meth c s₁ [] 0 0 := Stand.of_body Bd
  have e0 : s₁.heap = h0 := by rw [← hh, Bd.state]; rfl
  have N0 := Fr.nil n0
  have pre0 : ∀ t, Steps p.tables e below (s₁.setTop (mkF m 0 #[.val (.int p1)] [])) t → Steps p.tables e below (s₁.setTop (entryFrame m #[(.int p1)] 1)) t := fun t k => castTop (ef_1 m p1) k
  -- 3. LAWS
  obtain ⟨T3, X3, e3, st3⟩ := getS2 X0 hx hZ hown (host := "") (Or.inl (hw _ (List.mem_of_getElem? (i := 4) rfl))) Via.refl e0 S_COMPACT_STRINGS (g := (mkF m 0 #[.val (.int p1)] [])) rfl (hb hby d1_0)
  -- pc 7: java/lang/StringLatin1.canEncode by its contract rm2
  obtain ⟨_, _, ⟨T4, L4, k4, n4⟩, -, X4, ⟨Lc4, hQ4, l4, y4, z4⟩, st4⟩ := Jvm.LawKit.callS X3 hx (y := (⟨"java/lang/StringLatin1", "canEncode", "(C)Z"⟩ : MethodName)) hown (mvT hZ (hw _ (List.mem_of_getElem? (i := 5) rfl))) (mvT hZ (hw _ (List.mem_of_getElem? (i := 6) rfl))) (mvT hZ (hw _ (List.mem_of_getElem? (i := 7) rfl))) (mvT hZ (hw _ (List.mem_of_getElem? (i := 8) rfl))) (by decide) (backOf (W := 0) (rm2 l Z a0 hw [] p1 h0 n0 Z0 hch) hZ (hw _ (List.mem_of_getElem? (i := 8) rfl)) (hw _ (List.mem_of_getElem? (i := 7) rfl)) (by decide) (by decide)) (g := (mkF m 7 #[.val (.int p1)] [(.int p1)])) rfl (by rw [hml]; rfl) (argsL := [(.int p1)]) (rest := []) (lenOf pd_1_1 rfl) rfl (by show 2 * 0 + _ ≤ _; exact Nat.le_of_eq rfl) (hb hby d1_7) (fun _ _ => ⟨rfl, e3, (by decide : 0 + 0 ≤ _), (by decide : 0 + 0 ≤ _)⟩)
  dsimp only [Pt.U, Pt.locs, Pt.cells, Pt.slots] at X4 l4 y4 z4 st4 hQ4
  subst l4 y4 z4
  obtain ⟨rfl, N4q, e4⟩ := hQ4
  have N4 := Fr.app N0 N4q
  have Kc4 : Keep h0 T4.heap [] := own_kp e4
  have Kh4 : Keep h0 T4.heap [] := Kc4
  obtain ⟨T5, h5, X5, e5, E5, A5, D5, -, st5⟩ := newO X4 hx hZ hown (hw _ (List.mem_of_getElem? (i := 9) rfl)) (hw _ (List.mem_of_getElem? (i := 10) rfl)) (hw _ (List.mem_of_getElem? (i := 2) rfl)) rfl (g := (mkF m 13 #[.val (.int p1)] [])) rfl (hb hby d1_13) (by decide) (by decide)
  obtain ⟨b5, g5⟩ : ∃ z, z = T4.heap.size := ⟨_, rfl⟩      -- the fresh object's address
  rw [← g5] at A5 D5 st5      -- A5 : Exa Z h5 b5 "java/lang/String"; E5 : Ext T4.heap h5 (carries every older fact: .ext E5)
  have F_value_b5 : Fld Z h5 b5 "java/lang/String" "value" "[B" .null := D5 (Or.inr (hw _ (List.mem_of_getElem? (i := 23) rfl))) (ty := (.array .byte)) (by decide)
  have F_coder_b5 : Fld Z h5 b5 "java/lang/String" "coder" "B" (.int (0 : Int32)) := D5 (Or.inr (hw _ (List.mem_of_getElem? (i := 25) rfl))) (ty := .byte) (by decide)
  have E_b5 := A5
  have g_b5 : n0 ≤ b5 := Nat.le_trans (Nat.le_trans Z0 Kc4.1) (Nat.le_of_eq g5.symm)
  have sz_b5 : h0.size ≤ b5 := (Nat.le_trans Kh4.1 (Nat.le_of_eq g5.symm))
  have K5 : Keep h0 h5 [] := Kh4.ext E5
  -- pc 18: java/lang/StringLatin1.toBytes by its contract rm3
  obtain ⟨_, _, ⟨T6, L6, k6, n6⟩, -, X6, ⟨Lc6, hQ6, l6, y6, z6⟩, st6⟩ := Jvm.LawKit.callS X5 hx (y := (⟨"java/lang/StringLatin1", "toBytes", "(C)[B"⟩ : MethodName)) hown (mvT hZ (hw _ (List.mem_of_getElem? (i := 11) rfl))) (mvT hZ (hw _ (List.mem_of_getElem? (i := 12) rfl))) (mvT hZ (hw _ (List.mem_of_getElem? (i := 7) rfl))) (mvT hZ (hw _ (List.mem_of_getElem? (i := 13) rfl))) (by decide) (backOf (W := 2) (rm3 l Z a0 hw [] p1 h5 n0 (Nat.le_trans Z0 K5.1)) hZ (hw _ (List.mem_of_getElem? (i := 13) rfl)) (hw _ (List.mem_of_getElem? (i := 7) rfl)) (by decide) (by decide)) (g := (mkF m 18 #[.val (.int p1)] [(.int p1), (.ref b5), (.ref b5)])) rfl (by rw [hml]; rfl) (argsL := [(.int p1)]) (rest := [(.ref b5), (.ref b5)]) (lenOf pd_1_2 rfl) rfl (by show 2 * 0 + _ ≤ _; exact Nat.le_of_eq rfl) (hb hby d1_18) (fun _ _ => ⟨rfl, e5, (by decide : 1 + 1 ≤ _), (by decide : 4 + 1 ≤ _)⟩)
  dsimp only [Pt.U, Pt.locs, Pt.cells, Pt.slots] at X6 l6 y6 z6 st6 hQ6
  subst l6 y6 z6
  obtain ⟨a6, rfl, N6q, Kc6⟩ := hQ6
  have N6 := Fr.app N4 N6q
  -- pc 22: the constructor of java/lang/String by its contract rm4
  obtain ⟨_, _, ⟨T7, L7, k7, n7⟩, -, X7, ⟨Lc7, hQ7, l7, y7, z7⟩, st7⟩ := X6.specialBack hx (y := (⟨"java/lang/String", "<init>", "([BB)V"⟩ : MethodName)) rfl hown (mvT hZ (hw _ (List.mem_of_getElem? (i := 15) rfl))) (mvT hZ (hw _ (List.mem_of_getElem? (i := 16) rfl))) (mvT hZ (hw _ (List.mem_of_getElem? (i := 18) rfl))) (by decide) (backOf (W := 1) (rm4 l Z a0 hw [] b5 a6 (0 : Int32) .null (.int (0 : Int32)) T6.heap n0 (Nat.le_trans (Nat.le_trans Z0 K5.1) Kc6.1) (E_b5.keep Kc6) (F_value_b5.keep Kc6 nin0) g_b5 (F_coder_b5.keep Kc6 nin0)) hZ (hw _ (List.mem_of_getElem? (i := 18) rfl)) (hw _ (List.mem_of_getElem? (i := 2) rfl)) (by decide) (by decide)) (g := (mkF m 22 #[.val (.int p1)] [(.int (0 : Int32)), (.ref a6), (.ref b5), (.ref b5)])) rfl (by rw [hml]; rfl) (Steps.refl _) (a := b5) (argsL := [(.ref a6), (.int (0 : Int32))]) (rest := [(.ref b5)]) (lenOf pd_1_3 rfl) rfl (by show 2 * 0 + _ ≤ _; exact Nat.le_of_eq rfl) (hb hby d1_22) (fun _ _ => ⟨rfl, rfl, (by decide : 2 + 0 ≤ _), (by decide : 5 + 0 ≤ _)⟩)
  dsimp only [Pt.U, Pt.locs, Pt.cells, Pt.slots] at X7 l7 y7 z7 st7 hQ7
  subst l7 y7 z7
  obtain ⟨rfl, N7q, Kc7⟩ := hQ7
  have N7 := Fr.app N6 N7q
  have Kh7 : Keep h0 T7.heap [] := (K5.trans Kc6 all0).trans Kc7 (allS (Or.inr sz_b5) all0)
  obtain ⟨fs, hr, hrun, hended, hW, hsame⟩ := X7.leave (v := some (.ref b5)) (fun h => by rw [Bd.returns] at h; cases h)
  refine ⟨_, _, pre0 _ ?_, hrun, hended, _, _, rfl, ?_, ⟨_, rfl⟩, hW, hsame.mono (by decide) (by decide)⟩
  -- 4. STEPS
  · show Steps p.tables e below (s₁.setTop (mkF m 0 #[.val (.int p1)] [])) _
    refine st3 _ ?_
    show Steps p.tables e below (T3.setTop (mkF m 3 #[.val (.int p1)] [(.int w2)])) _
    refine XS.ifNo X3.here hx rfl (hb hby d1_3) rfl ((if0 _ _).trans (feq hc3).1) ?_
    show Steps p.tables e below (T3.setTop (mkF m 6 #[.val (.int p1)] [])) _
    refine XS.iloadN X3.here hx rfl (hb hby d1_6) rfl ?_
    show Steps p.tables e below (T3.setTop (mkF m 7 #[.val (.int p1)] [(.int p1)])) _
    refine st4 _ ?_
    show Steps p.tables e below (T4.setTop (mkF m 10 #[.val (.int p1)] [(.int (1 : Int32))])) _
    refine XS.ifNo X4.here hx rfl (hb hby d1_10) rfl ((if0 _ _).trans (feq (by decide : ¬ ((1 : Int32) = (0 : Int32)))).1) ?_
    show Steps p.tables e below (T4.setTop (mkF m 13 #[.val (.int p1)] [])) _
    refine st5 _ ?_
    show Steps p.tables e below (T5.setTop (mkF m 16 #[.val (.int p1)] [(.ref b5)])) _
    refine XS.dup X5.here hx rfl (hb hby d1_16) rfl rfl ?_
    show Steps p.tables e below (T5.setTop (mkF m 17 #[.val (.int p1)] [(.ref b5), (.ref b5)])) _
    refine XS.iloadN X5.here hx rfl (hb hby d1_17) rfl ?_
    show Steps p.tables e below (T5.setTop (mkF m 18 #[.val (.int p1)] [(.int p1), (.ref b5), (.ref b5)])) _
    refine st6 _ ?_
    show Steps p.tables e below (T6.setTop (mkF m 21 #[.val (.int p1)] [(.ref a6), (.ref b5), (.ref b5)])) _
    refine XS.iconst X6.here hx rfl (hb hby d1_21) ?_
    show Steps p.tables e below (T6.setTop (mkF m 22 #[.val (.int p1)] [(.int (0 : Int32)), (.ref a6), (.ref b5), (.ref b5)])) _
    refine st7.trans ?_
    show Steps p.tables e below (T7.setTop (mkF m 25 #[.val (.int p1)] [(.ref b5)])) _
    jvm_step X7.here [X7.here.top, hx, (hb hby d1_25), X7.method', Bd.returns, Value.isRef, FieldType.isReference]
    first | (intro acts; rw [hr _ acts rfl rfl rfl]) | rw [hr _ _ rfl rfl rfl]
    exact Steps.refl _
  · show Qr h0 n0 _ T7.heap _
    exact ⟨b5, rfl, N7, Kh7⟩
theorem d7_0 : decode jdk_30_method_1_code 0 = .ok (.aload_n 0, 1) := by decide +kernel
theorem d7_1 : decode jdk_30_method_1_code 1 = .ok (.invokespecial 1, 3) := by decide +kernel
theorem d7_4 : decode jdk_30_method_1_code 4 = .ok (.return_, 1) := by decide +kernel
theorem pn_7 : plainName "java/lang/Record" = true := by first | (simp [plainName, overriddenIn]; done) | decide +kernel
theorem ef_7 (m : MethodId) (x0 : Addr) : entryFrame m #[(.ref x0)] 1 = mkF m 0 #[.val (.ref x0)] [] := by first | (simp [entryFrame, mkF, argsToLocals, Value.category]; done) | rfl
set_option maxRecDepth 65536 in
set_option maxHeartbeats 40000000 in
theorem rm7 (l : Launch) (Z : State) (a0 : Array Value) (hw : ∀ d ∈ tables_1, d.before a0 Z = true) (ws : List Jvm.Cond) (a1 : Addr) (h0 : Heap) (n0 : Nat) (Z0 : n0 ≤ h0.size) :
    MetFree l (⟨"java/lang/Record", "<init>", "()V"⟩ : MethodName) (head1 (Jvm.Cond.code (⟨"java/lang/Record", "<init>", "()V"⟩ : MethodName) jdk_30_method_1_code 1 none :: ws) ({ frames := 1, cells := 0, slots := 0, locals := 12 } : Room)) (fun a U => a = #[(.ref a1)] ∧ Z.Warmed39 U.vm ∧ U.heap = h0) (fun _ _ _ _ _ => True) (fun _ U o U' => ∃ v L, o = .returned v ∧ Qv (none) h0 n0 v U'.heap L ∧ FrameEnd U o U' L ({ frames := 1, cells := 0, slots := 0, locals := 12 } : Room).cells ({ frames := 1, cells := 0, slots := 0, locals := 12 } : Room).slots) := by
  refine MetFree.of_bodySF (plainFor_of_name pn_7) hisR ?_
  intro p e s m args below meth c s₁ Bd hml0 hP hK
  obtain ⟨rfl, hZ, hh⟩ := hP
  have hx := Bd.exec
  have hby := Bd.bytes
  have hml : c.maxLocals = 1 := hml0
  have hown : s.vm.findClass "java/lang/Record" = some m.cls := findClass_of_methodNamed Bd.named
  have hnm := (name_of_methodNamed Bd.named Bd.method).1
  have X0 : Stand p l e ({ frames := 1, cells := 0, slots := 0, locals := 12 } : Room) s m #[(.ref a1)] below meth c s₁ [] 0 0 := Stand.of_body Bd
  have e0 : s₁.heap = h0 := by rw [← hh, Bd.state]; rfl
  have N0 := Fr.nil n0
  have pre0 : ∀ t, Steps p.tables e below (s₁.setTop (mkF m 0 #[.val (.ref a1)] [])) t → Steps p.tables e below (s₁.setTop (entryFrame m #[(.ref a1)] 1)) t := fun t k => castTop (ef_7 m a1) k
  -- 3. LAWS
  obtain ⟨T2, X2, e2, st2⟩ := initO X0 hx hZ hown (hw _ (List.mem_of_getElem? (i := 37) rfl)) (hw _ (List.mem_of_getElem? (i := 20) rfl)) (hw _ (List.mem_of_getElem? (i := 21) rfl)) e0 (g := (mkF m 1 #[.val (.ref a1)] [(.ref a1)])) rfl (by rw [hml]; rfl) rfl (hb hby d7_1) (by decide) (W := 0) (by show 2 * 0 + _ ≤ _; exact Nat.le_of_eq rfl) (by decide)
  obtain ⟨fs, hr, hrun, hended, hW, hsame⟩ := X2.leave (v := none) (fun _ => rfl)
  refine ⟨_, _, pre0 _ ?_, hrun, hended, _, _, rfl, ?_, ⟨_, rfl⟩, hW, hsame.mono (by decide) (by decide)⟩
  -- 4. STEPS
  · show Steps p.tables e below (s₁.setTop (mkF m 0 #[.val (.ref a1)] [])) _
    refine XS.aloadN X0.here hx rfl (hb hby d7_0) rfl rfl ?_
    show Steps p.tables e below (s₁.setTop (mkF m 1 #[.val (.ref a1)] [(.ref a1)])) _
    refine st2 _ ?_
    show Steps p.tables e below (T2.setTop (mkF m 4 #[.val (.ref a1)] [])) _
    exact X2.returnOut hx Bd.returns (hb hby d7_4) hr
  · show Qv (none) h0 n0 _ T2.heap _
    rw [e2]
    exact ⟨rfl, N0, rfl⟩
theorem d6_0 : decode prog_26_method_1_code 0 = .ok (.aload_n 0, 1) := by decide +kernel
theorem d6_1 : decode prog_26_method_1_code 1 = .ok (.invokespecial 1, 3) := by decide +kernel
theorem d6_4 : decode prog_26_method_1_code 4 = .ok (.aload_n 0, 1) := by decide +kernel
theorem d6_5 : decode prog_26_method_1_code 5 = .ok (.aload_n 1, 1) := by decide +kernel
theorem d6_6 : decode prog_26_method_1_code 6 = .ok (.putfield 7, 3) := by decide +kernel
theorem d6_9 : decode prog_26_method_1_code 9 = .ok (.aload_n 0, 1) := by decide +kernel
theorem d6_10 : decode prog_26_method_1_code 10 = .ok (.dload_n 2, 1) := by decide +kernel
theorem d6_11 : decode prog_26_method_1_code 11 = .ok (.putfield 13, 3) := by decide +kernel
theorem d6_14 : decode prog_26_method_1_code 14 = .ok (.aload_n 0, 1) := by decide +kernel
theorem d6_15 : decode prog_26_method_1_code 15 = .ok (.dload 4, 2) := by decide +kernel
theorem d6_17 : decode prog_26_method_1_code 17 = .ok (.putfield 17, 3) := by decide +kernel
theorem d6_20 : decode prog_26_method_1_code 20 = .ok (.return_, 1) := by decide +kernel
theorem pn_6 : plainName "com/example/precision/precision/models/Uncertainty$TopicUncertainty" = true := by first | (simp [plainName, overriddenIn]; done) | decide +kernel
theorem pd_6_4 : parseMethodDescriptor "()V" = some ⟨[], none⟩ := by decide +kernel
theorem ef_6 (m : MethodId) (x0 : Addr) (x1 : Addr) (x2 : UInt64) (x3 : UInt64) : entryFrame m #[(.ref x0), (.ref x1), (.double x2), (.double x3)] 6 = mkF m 0 #[.val (.ref x0), .val (.ref x1), .val (.double x2), .second, .val (.double x3), .second] [] := by first | (simp [entryFrame, mkF, argsToLocals, Value.category]; done) | rfl
set_option maxRecDepth 65536 in
set_option maxHeartbeats 40000000 in
theorem rm6 (l : Launch) (Z : State) (a0 : Array Value) (hw : ∀ d ∈ tables_1, d.before a0 Z = true) (ws : List Jvm.Cond) (a1 : Addr) (a2 : Addr) (d3 : UInt64) (d4 : UInt64) (u_topic_a1 : Value) (u_bits_a1 : Value) (u_maximum_a1 : Value) (h0 : Heap) (n0 : Nat) (Z0 : n0 ≤ h0.size) (E_a1 : Exa Z h0 a1 "com/example/precision/precision/models/Uncertainty$TopicUncertainty") (F_topic_a1 : Fld Z h0 a1 "com/example/precision/precision/models/Uncertainty$TopicUncertainty" "topic" "Ljava/lang/String;" u_topic_a1) (g_a1 : n0 ≤ a1) (F_bits_a1 : Fld Z h0 a1 "com/example/precision/precision/models/Uncertainty$TopicUncertainty" "bits" "D" u_bits_a1) (F_maximum_a1 : Fld Z h0 a1 "com/example/precision/precision/models/Uncertainty$TopicUncertainty" "maximum" "D" u_maximum_a1) :
    MetFree l (⟨"com/example/precision/precision/models/Uncertainty$TopicUncertainty", "<init>", "(Ljava/lang/String;DD)V"⟩ : MethodName) (head1 (Jvm.Cond.code (⟨"com/example/precision/precision/models/Uncertainty$TopicUncertainty", "<init>", "(Ljava/lang/String;DD)V"⟩ : MethodName) prog_26_method_1_code 6 none :: ws) ({ frames := 2, cells := 0, slots := 0, locals := 24 } : Room)) (fun a U => a = #[(.ref a1), (.ref a2), (.double d3), (.double d4)] ∧ Z.Warmed39 U.vm ∧ U.heap = h0) (fun _ _ _ _ _ => True) (fun _ U o U' => ∃ v L, o = .returned v ∧ Qu Z a1 d3 d4 h0 n0 v U'.heap L ∧ FrameEnd U o U' L ({ frames := 2, cells := 0, slots := 0, locals := 24 } : Room).cells ({ frames := 2, cells := 0, slots := 0, locals := 24 } : Room).slots) := by
  refine MetFree.of_bodySF (plainFor_of_name pn_6) hisR ?_
  intro p e s m args below meth c s₁ Bd hml0 hP hK
  obtain ⟨rfl, hZ, hh⟩ := hP
  have hx := Bd.exec
  have hby := Bd.bytes
  have hml : c.maxLocals = 6 := hml0
  have hown : s.vm.findClass "com/example/precision/precision/models/Uncertainty$TopicUncertainty" = some m.cls := findClass_of_methodNamed Bd.named
  have hnm := (name_of_methodNamed Bd.named Bd.method).1
  have X0 : Stand p l e ({ frames := 2, cells := 0, slots := 0, locals := 24 } : Room) s m #[(.ref a1), (.ref a2), (.double d3), (.double d4)] below meth c s₁ [] 0 0 := Stand.of_body Bd
  have e0 : s₁.heap = h0 := by rw [← hh, Bd.state]; rfl
  have N0 := Fr.nil n0
  have pre0 : ∀ t, Steps p.tables e below (s₁.setTop (mkF m 0 #[.val (.ref a1), .val (.ref a2), .val (.double d3), .second, .val (.double d4), .second] [])) t → Steps p.tables e below (s₁.setTop (entryFrame m #[(.ref a1), (.ref a2), (.double d3), (.double d4)] 6)) t := fun t k => castTop (ef_6 m a1 a2 d3 d4) k
  -- 3. LAWS
  -- pc 1: the constructor of java/lang/Record by its contract rm7
  obtain ⟨_, _, ⟨T5, L5, k5, n5⟩, -, X5, ⟨Lc5, hQ5, l5, y5, z5⟩, st5⟩ := X0.specialBack hx (y := (⟨"java/lang/Record", "<init>", "()V"⟩ : MethodName)) rfl hown (mvT hZ (hw _ (List.mem_of_getElem? (i := 32) rfl))) (mvT hZ (hw _ (List.mem_of_getElem? (i := 33) rfl))) (mvT hZ (hw _ (List.mem_of_getElem? (i := 36) rfl))) (by decide) (backOf (W := 0) (rm7 l Z a0 hw [] a1 h0 n0 Z0) hZ (hw _ (List.mem_of_getElem? (i := 36) rfl)) (hw _ (List.mem_of_getElem? (i := 35) rfl)) (by decide) (by decide)) (g := (mkF m 1 #[.val (.ref a1), .val (.ref a2), .val (.double d3), .second, .val (.double d4), .second] [(.ref a1)])) rfl (by rw [hml]; rfl) (Steps.refl _) (a := a1) (argsL := []) (rest := []) (lenOf pd_6_4 rfl) rfl (by show 2 * 0 + _ ≤ _; exact Nat.le_of_eq rfl) (hb hby d6_1) (fun _ _ => ⟨rfl, e0, (by decide : 0 + 0 ≤ _), (by decide : 0 + 0 ≤ _)⟩)
  dsimp only [Pt.U, Pt.locs, Pt.cells, Pt.slots] at X5 l5 y5 z5 st5 hQ5
  subst l5 y5 z5
  obtain ⟨rfl, N5q, e5⟩ := hQ5
  have N5 := Fr.app N0 N5q
  have Kc5 : Keep h0 T5.heap [] := own_kp e5
  have Kh5 : Keep h0 T5.heap [a1] := e5 ▸ Keep.refl _ _
  obtain ⟨T6, h6, X6, e6, W6, st6⟩ := putF X5 hx hZ hown (host := "") (Or.inl (hw _ (List.mem_of_getElem? (i := 38) rfl))) Via.refl rfl (F_topic_a1.keep Kc5 nin0) (E_a1.keep Kc5) (Or.inr ⟨(hw _ (List.mem_of_getElem? (i := 39) rfl)), rfl, hnm⟩) (hw _ (List.mem_of_getElem? (i := 27) rfl)) (ty := (.object "java/lang/String")) (by decide) rfl rfl (g := (mkF m 6 #[.val (.ref a1), .val (.ref a2), .val (.double d3), .second, .val (.double d4), .second] [(.ref a2), (.ref a1)])) rfl rfl (hb hby d6_6)
  have Fw6 := (F_topic_a1.keep Kc5 nin0).same W6      -- the field now holds (.ref a2)
  have K6 : Keep h0 h6 [a1] := Kh5.wr W6 (Or.inl (List.mem_of_getElem? (i := 0) rfl))
  have N6 := Fr.snoc X6 N5 g_a1
  obtain ⟨T7, h7, X7, e7, W7, st7⟩ := putF X6 hx hZ hown (host := "") (Or.inl (hw _ (List.mem_of_getElem? (i := 40) rfl))) Via.refl e6 ((F_bits_a1.keep Kc5 nin0).other W6 (Or.inr (slot_ne (Or.inr (hw _ (List.mem_of_getElem? (i := 41) rfl))) (Or.inr (hw _ (List.mem_of_getElem? (i := 39) rfl))) (by decide) (t := .double) (t' := (.object "java/lang/String")) (by decide) (by decide)))) ((E_a1.keep Kc5).wr W6) (Or.inr ⟨(hw _ (List.mem_of_getElem? (i := 41) rfl)), rfl, hnm⟩) (hw _ (List.mem_of_getElem? (i := 27) rfl)) (ty := .double) (by decide) rfl rfl (g := (mkF m 11 #[.val (.ref a1), .val (.ref a2), .val (.double d3), .second, .val (.double d4), .second] [(.double d3), (.ref a1)])) rfl rfl (hb hby d6_11)
  have Fw7 := ((F_bits_a1.keep Kc5 nin0).other W6 (Or.inr (slot_ne (Or.inr (hw _ (List.mem_of_getElem? (i := 41) rfl))) (Or.inr (hw _ (List.mem_of_getElem? (i := 39) rfl))) (by decide) (t := .double) (t' := (.object "java/lang/String")) (by decide) (by decide)))).same W7      -- the field now holds (.double d3)
  have K7 : Keep h0 h7 [a1] := K6.wr W7 (Or.inl (List.mem_of_getElem? (i := 0) rfl))
  have N7 := Fr.snoc X7 N6 g_a1
  obtain ⟨T8, h8, X8, e8, W8, st8⟩ := putF X7 hx hZ hown (host := "") (Or.inl (hw _ (List.mem_of_getElem? (i := 42) rfl))) Via.refl e7 (((F_maximum_a1.keep Kc5 nin0).other W6 (Or.inr (slot_ne (Or.inr (hw _ (List.mem_of_getElem? (i := 43) rfl))) (Or.inr (hw _ (List.mem_of_getElem? (i := 39) rfl))) (by decide) (t := .double) (t' := (.object "java/lang/String")) (by decide) (by decide)))).other W7 (Or.inr (slot_ne (Or.inr (hw _ (List.mem_of_getElem? (i := 43) rfl))) (Or.inr (hw _ (List.mem_of_getElem? (i := 41) rfl))) (by decide) (t := .double) (t' := .double) (by decide) (by decide)))) (((E_a1.keep Kc5).wr W6).wr W7) (Or.inr ⟨(hw _ (List.mem_of_getElem? (i := 43) rfl)), rfl, hnm⟩) (hw _ (List.mem_of_getElem? (i := 27) rfl)) (ty := .double) (by decide) rfl rfl (g := (mkF m 17 #[.val (.ref a1), .val (.ref a2), .val (.double d3), .second, .val (.double d4), .second] [(.double d4), (.ref a1)])) rfl rfl (hb hby d6_17)
  have Fw8 := (((F_maximum_a1.keep Kc5 nin0).other W6 (Or.inr (slot_ne (Or.inr (hw _ (List.mem_of_getElem? (i := 43) rfl))) (Or.inr (hw _ (List.mem_of_getElem? (i := 39) rfl))) (by decide) (t := .double) (t' := (.object "java/lang/String")) (by decide) (by decide)))).other W7 (Or.inr (slot_ne (Or.inr (hw _ (List.mem_of_getElem? (i := 43) rfl))) (Or.inr (hw _ (List.mem_of_getElem? (i := 41) rfl))) (by decide) (t := .double) (t' := .double) (by decide) (by decide)))).same W8      -- the field now holds (.double d4)
  have K8 : Keep h0 h8 [a1] := K7.wr W8 (Or.inl (List.mem_of_getElem? (i := 0) rfl))
  have N8 := Fr.snoc X8 N7 g_a1
  obtain ⟨fs, hr, hrun, hended, hW, hsame⟩ := X8.leave (v := none) (fun _ => rfl)
  refine ⟨_, _, pre0 _ ?_, hrun, hended, _, _, rfl, ?_, ⟨_, rfl⟩, hW, hsame.mono (by decide) (by decide)⟩
  -- 4. STEPS
  · show Steps p.tables e below (s₁.setTop (mkF m 0 #[.val (.ref a1), .val (.ref a2), .val (.double d3), .second, .val (.double d4), .second] [])) _
    refine XS.aloadN X0.here hx rfl (hb hby d6_0) rfl rfl ?_
    show Steps p.tables e below (s₁.setTop (mkF m 1 #[.val (.ref a1), .val (.ref a2), .val (.double d3), .second, .val (.double d4), .second] [(.ref a1)])) _
    refine st5.trans ?_
    show Steps p.tables e below (T5.setTop (mkF m 4 #[.val (.ref a1), .val (.ref a2), .val (.double d3), .second, .val (.double d4), .second] [])) _
    refine XS.aloadN X5.here hx rfl (hb hby d6_4) rfl rfl ?_
    show Steps p.tables e below (T5.setTop (mkF m 5 #[.val (.ref a1), .val (.ref a2), .val (.double d3), .second, .val (.double d4), .second] [(.ref a1)])) _
    refine XS.aloadN X5.here hx rfl (hb hby d6_5) rfl rfl ?_
    show Steps p.tables e below (T5.setTop (mkF m 6 #[.val (.ref a1), .val (.ref a2), .val (.double d3), .second, .val (.double d4), .second] [(.ref a2), (.ref a1)])) _
    refine st6 _ ?_
    show Steps p.tables e below (T6.setTop (mkF m 9 #[.val (.ref a1), .val (.ref a2), .val (.double d3), .second, .val (.double d4), .second] [])) _
    refine XS.aloadN X6.here hx rfl (hb hby d6_9) rfl rfl ?_
    show Steps p.tables e below (T6.setTop (mkF m 10 #[.val (.ref a1), .val (.ref a2), .val (.double d3), .second, .val (.double d4), .second] [(.ref a1)])) _
    refine XS.dloadN X6.here hx rfl (hb hby d6_10) rfl ?_
    show Steps p.tables e below (T6.setTop (mkF m 11 #[.val (.ref a1), .val (.ref a2), .val (.double d3), .second, .val (.double d4), .second] [(.double d3), (.ref a1)])) _
    refine st7 _ ?_
    show Steps p.tables e below (T7.setTop (mkF m 14 #[.val (.ref a1), .val (.ref a2), .val (.double d3), .second, .val (.double d4), .second] [])) _
    refine XS.aloadN X7.here hx rfl (hb hby d6_14) rfl rfl ?_
    show Steps p.tables e below (T7.setTop (mkF m 15 #[.val (.ref a1), .val (.ref a2), .val (.double d3), .second, .val (.double d4), .second] [(.ref a1)])) _
    refine XS.dload X7.here hx rfl (hb hby d6_15) rfl ?_
    show Steps p.tables e below (T7.setTop (mkF m 17 #[.val (.ref a1), .val (.ref a2), .val (.double d3), .second, .val (.double d4), .second] [(.double d4), (.ref a1)])) _
    refine st8 _ ?_
    show Steps p.tables e below (T8.setTop (mkF m 20 #[.val (.ref a1), .val (.ref a2), .val (.double d3), .second, .val (.double d4), .second] [])) _
    exact X8.returnOut hx Bd.returns (hb hby d6_20) hr
  · show Qu Z a1 d3 d4 h0 n0 _ T8.heap _
    rw [e8]
    exact ⟨rfl, N8, K8, (Fw7.other W8 (Or.inr (slot_ne (Or.inr (hw _ (List.mem_of_getElem? (i := 41) rfl))) (Or.inr (hw _ (List.mem_of_getElem? (i := 43) rfl))) (by decide) (t := .double) (t' := .double) (by decide) (by decide)))), Fw8⟩
theorem d8_0 : decode prog_26_method_2_code 0 = .ok (.aload_n 0, 1) := by decide +kernel
theorem d8_1 : decode prog_26_method_2_code 1 = .ok (.getfield 17, 3) := by decide +kernel
theorem d8_4 : decode prog_26_method_2_code 4 = .ok (.dconst 0, 1) := by decide +kernel
theorem d8_5 : decode prog_26_method_2_code 5 = .ok (.dcmp .l, 1) := by decide +kernel
theorem d8_6 : decode prog_26_method_2_code 6 = .ok (.ifCond .le 24, 3) := by decide +kernel
theorem d8_9 : decode prog_26_method_2_code 9 = .ok (.ldc2_w 20, 3) := by decide +kernel
theorem d8_12 : decode prog_26_method_2_code 12 = .ok (.aload_n 0, 1) := by decide +kernel
theorem d8_13 : decode prog_26_method_2_code 13 = .ok (.getfield 17, 3) := by decide +kernel
theorem d8_16 : decode prog_26_method_2_code 16 = .ok (.aload_n 0, 1) := by decide +kernel
theorem d8_17 : decode prog_26_method_2_code 17 = .ok (.getfield 13, 3) := by decide +kernel
theorem d8_20 : decode prog_26_method_2_code 20 = .ok (.dsub, 1) := by decide +kernel
theorem d8_21 : decode prog_26_method_2_code 21 = .ok (.dmul, 1) := by decide +kernel
theorem d8_22 : decode prog_26_method_2_code 22 = .ok (.aload_n 0, 1) := by decide +kernel
theorem d8_23 : decode prog_26_method_2_code 23 = .ok (.getfield 17, 3) := by decide +kernel
theorem d8_26 : decode prog_26_method_2_code 26 = .ok (.ddiv, 1) := by decide +kernel
theorem d8_27 : decode prog_26_method_2_code 27 = .ok (.goto 4, 3) := by decide +kernel
theorem d8_31 : decode prog_26_method_2_code 31 = .ok (.dreturn, 1) := by decide +kernel
theorem pn_8 : plainName "com/example/precision/precision/models/Uncertainty$TopicUncertainty" = true := by first | (simp [plainName, overriddenIn]; done) | decide +kernel
theorem ef_8 (m : MethodId) (x0 : Addr) : entryFrame m #[(.ref x0)] 1 = mkF m 0 #[.val (.ref x0)] [] := by first | (simp [entryFrame, mkF, argsToLocals, Value.category]; done) | rfl
set_option maxRecDepth 65536 in
set_option maxHeartbeats 40000000 in
theorem rm8_f (l : Launch) (Z : State) (a0 : Array Value) (hw : ∀ d ∈ tables_1, d.before a0 Z = true) (ws : List Jvm.Cond) (a1 : Addr) (w2 : UInt64) (w5 : UInt64) (h0 : Heap) (n0 : Nat) (Z0 : n0 ≤ h0.size) (F_maximum_a1 : Fld Z h0 a1 "com/example/precision/precision/models/Uncertainty$TopicUncertainty" "maximum" "D" (.double w2)) (F_bits_a1 : Fld Z h0 a1 "com/example/precision/precision/models/Uncertainty$TopicUncertainty" "bits" "D" (.double w5)) (hc6 : (0 : Int32) < (cmpValue (FP.dcmp w2 FP.dconst0) .l)) (hnan20 : Jvm.Free.Fl.NoNaN64 (FP.dsub w2 w5)) (hnan21 : Jvm.Free.Fl.NoNaN64 (FP.dmul (4636737291354636288 : UInt64) (FP.dsub w2 w5))) (hnan26 : Jvm.Free.Fl.NoNaN64 (FP.ddiv (FP.dmul (4636737291354636288 : UInt64) (FP.dsub w2 w5)) w2)) :
    MetFree l (⟨"com/example/precision/precision/models/Uncertainty$TopicUncertainty", "dropPercent", "()D"⟩ : MethodName) (head1 (Jvm.Cond.code (⟨"com/example/precision/precision/models/Uncertainty$TopicUncertainty", "dropPercent", "()D"⟩ : MethodName) prog_26_method_2_code 1 (some .double) :: ws) ({ frames := 0, cells := 0, slots := 0, locals := 0 } : Room)) (fun a U => a = #[(.ref a1)] ∧ Z.Warmed39 U.vm ∧ U.heap = h0) (fun _ _ _ _ _ => True) (fun _ U o U' => ∃ v L, o = .returned v ∧ Qv (some (.double (FP.ddiv (FP.dmul (4636737291354636288 : UInt64) (FP.dsub w2 w5)) w2))) h0 n0 v U'.heap L ∧ FrameEnd U o U' L ({ frames := 0, cells := 0, slots := 0, locals := 0 } : Room).cells ({ frames := 0, cells := 0, slots := 0, locals := 0 } : Room).slots) := by
  refine MetFree.of_bodySF (plainFor_of_name pn_8) hisR ?_
  intro p e s m args below meth c s₁ Bd hml0 hP hK
  obtain ⟨rfl, hZ, hh⟩ := hP
  have hx := Bd.exec
  have hby := Bd.bytes
  have hml : c.maxLocals = 1 := hml0
  have hown : s.vm.findClass "com/example/precision/precision/models/Uncertainty$TopicUncertainty" = some m.cls := findClass_of_methodNamed Bd.named
  have hnm := (name_of_methodNamed Bd.named Bd.method).1
  have X0 : Stand p l e ({ frames := 0, cells := 0, slots := 0, locals := 0 } : Room) s m #[(.ref a1)] below meth c s₁ [] 0 0 := Stand.of_body Bd
  have e0 : s₁.heap = h0 := by rw [← hh, Bd.state]; rfl
  have N0 := Fr.nil n0
  have pre0 : ∀ t, Steps p.tables e below (s₁.setTop (mkF m 0 #[.val (.ref a1)] [])) t → Steps p.tables e below (s₁.setTop (entryFrame m #[(.ref a1)] 1)) t := fun t k => castTop (ef_8 m a1) k
  -- 3. LAWS
  obtain ⟨T3, X3, e3, st3⟩ := getF X0 hx hZ hown (host := "") (Or.inl (hw _ (List.mem_of_getElem? (i := 42) rfl))) Via.refl e0 F_maximum_a1 (g := (mkF m 1 #[.val (.ref a1)] [(.ref a1)])) rfl rfl (hb hby d8_1)
  obtain ⟨T4, X4, e4, st4⟩ := getF X3 hx hZ hown (host := "") (Or.inl (hw _ (List.mem_of_getElem? (i := 42) rfl))) Via.refl e3 F_maximum_a1 (g := (mkF m 13 #[.val (.ref a1)] [(.ref a1), (.double (4636737291354636288 : UInt64))])) rfl rfl (hb hby d8_13)
  obtain ⟨T6, X6, e6, st6⟩ := getF X4 hx hZ hown (host := "") (Or.inl (hw _ (List.mem_of_getElem? (i := 40) rfl))) Via.refl e4 F_bits_a1 (g := (mkF m 17 #[.val (.ref a1)] [(.ref a1), (.double w2), (.double (4636737291354636288 : UInt64))])) rfl rfl (hb hby d8_17)
  obtain ⟨T7, X7, e7, st7⟩ := getF X6 hx hZ hown (host := "") (Or.inl (hw _ (List.mem_of_getElem? (i := 42) rfl))) Via.refl e6 F_maximum_a1 (g := (mkF m 23 #[.val (.ref a1)] [(.ref a1), (.double (FP.dmul (4636737291354636288 : UInt64) (FP.dsub w2 w5)))])) rfl rfl (hb hby d8_23)
  obtain ⟨fs, hr, hrun, hended, hW, hsame⟩ := X7.leave (v := some (.double (FP.ddiv (FP.dmul (4636737291354636288 : UInt64) (FP.dsub w2 w5)) w2))) (fun h => by rw [Bd.returns] at h; cases h)
  refine ⟨_, _, pre0 _ ?_, hrun, hended, _, _, rfl, ?_, ⟨_, rfl⟩, hW, hsame.mono (by decide) (by decide)⟩
  -- 4. STEPS
  · show Steps p.tables e below (s₁.setTop (mkF m 0 #[.val (.ref a1)] [])) _
    refine XS.aloadN X0.here hx rfl (hb hby d8_0) rfl rfl ?_
    show Steps p.tables e below (s₁.setTop (mkF m 1 #[.val (.ref a1)] [(.ref a1)])) _
    refine st3 _ ?_
    show Steps p.tables e below (T3.setTop (mkF m 4 #[.val (.ref a1)] [(.double w2)])) _
    refine XS.dconst0 X3.here hx rfl (hb hby d8_4) rfl ?_
    show Steps p.tables e below (T3.setTop (mkF m 5 #[.val (.ref a1)] [(.double FP.dconst0), (.double w2)])) _
    refine XS.dcmpS X3.here hx rfl (hb hby d8_5) rfl rfl ?_
    show Steps p.tables e below (T3.setTop (mkF m 6 #[.val (.ref a1)] [(.int (cmpValue (FP.dcmp w2 FP.dconst0) .l))])) _
    refine XS.ifNo X3.here hx rfl (hb hby d8_6) rfl ((if0 _ _).trans (tlt hc6).2.2.2) ?_
    show Steps p.tables e below (T3.setTop (mkF m 9 #[.val (.ref a1)] [])) _
    refine X3.ldc2DoubleC hx hown (mvT hZ (hw _ (List.mem_of_getElem? (i := 49) rfl))) (g := (mkF m 9 #[.val (.ref a1)] [])) rfl (hb hby d8_9) _ ?_
    show Steps p.tables e below (T3.setTop (mkF m 12 #[.val (.ref a1)] [(.double (4636737291354636288 : UInt64))])) _
    refine XS.aloadN X3.here hx rfl (hb hby d8_12) rfl rfl ?_
    show Steps p.tables e below (T3.setTop (mkF m 13 #[.val (.ref a1)] [(.ref a1), (.double (4636737291354636288 : UInt64))])) _
    refine st4 _ ?_
    show Steps p.tables e below (T4.setTop (mkF m 16 #[.val (.ref a1)] [(.double w2), (.double (4636737291354636288 : UInt64))])) _
    refine XS.aloadN X4.here hx rfl (hb hby d8_16) rfl rfl ?_
    show Steps p.tables e below (T4.setTop (mkF m 17 #[.val (.ref a1)] [(.ref a1), (.double w2), (.double (4636737291354636288 : UInt64))])) _
    refine st6 _ ?_
    show Steps p.tables e below (T6.setTop (mkF m 20 #[.val (.ref a1)] [(.double w5), (.double w2), (.double (4636737291354636288 : UInt64))])) _
    refine XS.dsubS X6.here hx rfl (hb hby d8_20) rfl hnan20 rfl ?_
    show Steps p.tables e below (T6.setTop (mkF m 21 #[.val (.ref a1)] [(.double (FP.dsub w2 w5)), (.double (4636737291354636288 : UInt64))])) _
    refine XS.dmulS X6.here hx rfl (hb hby d8_21) rfl hnan21 rfl ?_
    show Steps p.tables e below (T6.setTop (mkF m 22 #[.val (.ref a1)] [(.double (FP.dmul (4636737291354636288 : UInt64) (FP.dsub w2 w5)))])) _
    refine XS.aloadN X6.here hx rfl (hb hby d8_22) rfl rfl ?_
    show Steps p.tables e below (T6.setTop (mkF m 23 #[.val (.ref a1)] [(.ref a1), (.double (FP.dmul (4636737291354636288 : UInt64) (FP.dsub w2 w5)))])) _
    refine st7 _ ?_
    show Steps p.tables e below (T7.setTop (mkF m 26 #[.val (.ref a1)] [(.double w2), (.double (FP.dmul (4636737291354636288 : UInt64) (FP.dsub w2 w5)))])) _
    refine XS.ddivS X7.here hx rfl (hb hby d8_26) rfl hnan26 rfl ?_
    show Steps p.tables e below (T7.setTop (mkF m 27 #[.val (.ref a1)] [(.double (FP.ddiv (FP.dmul (4636737291354636288 : UInt64) (FP.dsub w2 w5)) w2))])) _
    refine XS.goto X7.here hx rfl (pc0 := 27) (pc' := 31) rfl (hb hby d8_27) (by decide) (by decide) ?_
    show Steps p.tables e below (T7.setTop (mkF m 31 #[.val (.ref a1)] [(.double (FP.ddiv (FP.dmul (4636737291354636288 : UInt64) (FP.dsub w2 w5)) w2))])) _
    exact retOut X7 hx Bd.returns rfl (Or.inr (Or.inr (Or.inl ⟨rfl, rfl, _, rfl⟩))) (hb hby d8_31) hr
  · show Qv (some (.double (FP.ddiv (FP.dmul (4636737291354636288 : UInt64) (FP.dsub w2 w5)) w2))) h0 n0 _ T7.heap _
    rw [e7]
    exact ⟨rfl, N0, rfl⟩
theorem d8_30 : decode prog_26_method_2_code 30 = .ok (.dconst 0, 1) := by decide +kernel
set_option maxRecDepth 65536 in
set_option maxHeartbeats 40000000 in
theorem rm8_t (l : Launch) (Z : State) (a0 : Array Value) (hw : ∀ d ∈ tables_1, d.before a0 Z = true) (ws : List Jvm.Cond) (a1 : Addr) (w2 : UInt64) (h0 : Heap) (n0 : Nat) (Z0 : n0 ≤ h0.size) (F_maximum_a1 : Fld Z h0 a1 "com/example/precision/precision/models/Uncertainty$TopicUncertainty" "maximum" "D" (.double w2)) (hc6 : ¬ ((0 : Int32) < (cmpValue (FP.dcmp w2 FP.dconst0) .l))) :
    MetFree l (⟨"com/example/precision/precision/models/Uncertainty$TopicUncertainty", "dropPercent", "()D"⟩ : MethodName) (head1 (Jvm.Cond.code (⟨"com/example/precision/precision/models/Uncertainty$TopicUncertainty", "dropPercent", "()D"⟩ : MethodName) prog_26_method_2_code 1 (some .double) :: ws) ({ frames := 0, cells := 0, slots := 0, locals := 0 } : Room)) (fun a U => a = #[(.ref a1)] ∧ Z.Warmed39 U.vm ∧ U.heap = h0) (fun _ _ _ _ _ => True) (fun _ U o U' => ∃ v L, o = .returned v ∧ Qv (some (.double FP.dconst0)) h0 n0 v U'.heap L ∧ FrameEnd U o U' L ({ frames := 0, cells := 0, slots := 0, locals := 0 } : Room).cells ({ frames := 0, cells := 0, slots := 0, locals := 0 } : Room).slots) := by
  refine MetFree.of_bodySF (plainFor_of_name pn_8) hisR ?_
  intro p e s m args below meth c s₁ Bd hml0 hP hK
  obtain ⟨rfl, hZ, hh⟩ := hP
  have hx := Bd.exec
  have hby := Bd.bytes
  have hml : c.maxLocals = 1 := hml0
  have hown : s.vm.findClass "com/example/precision/precision/models/Uncertainty$TopicUncertainty" = some m.cls := findClass_of_methodNamed Bd.named
  have hnm := (name_of_methodNamed Bd.named Bd.method).1
  have X0 : Stand p l e ({ frames := 0, cells := 0, slots := 0, locals := 0 } : Room) s m #[(.ref a1)] below meth c s₁ [] 0 0 := Stand.of_body Bd
  have e0 : s₁.heap = h0 := by rw [← hh, Bd.state]; rfl
  have N0 := Fr.nil n0
  have pre0 : ∀ t, Steps p.tables e below (s₁.setTop (mkF m 0 #[.val (.ref a1)] [])) t → Steps p.tables e below (s₁.setTop (entryFrame m #[(.ref a1)] 1)) t := fun t k => castTop (ef_8 m a1) k
  -- 3. LAWS
  obtain ⟨T3, X3, e3, st3⟩ := getF X0 hx hZ hown (host := "") (Or.inl (hw _ (List.mem_of_getElem? (i := 42) rfl))) Via.refl e0 F_maximum_a1 (g := (mkF m 1 #[.val (.ref a1)] [(.ref a1)])) rfl rfl (hb hby d8_1)
  obtain ⟨fs, hr, hrun, hended, hW, hsame⟩ := X3.leave (v := some (.double FP.dconst0)) (fun h => by rw [Bd.returns] at h; cases h)
  refine ⟨_, _, pre0 _ ?_, hrun, hended, _, _, rfl, ?_, ⟨_, rfl⟩, hW, hsame.mono (by decide) (by decide)⟩
  -- 4. STEPS
  · show Steps p.tables e below (s₁.setTop (mkF m 0 #[.val (.ref a1)] [])) _
    refine XS.aloadN X0.here hx rfl (hb hby d8_0) rfl rfl ?_
    show Steps p.tables e below (s₁.setTop (mkF m 1 #[.val (.ref a1)] [(.ref a1)])) _
    refine st3 _ ?_
    show Steps p.tables e below (T3.setTop (mkF m 4 #[.val (.ref a1)] [(.double w2)])) _
    refine XS.dconst0 X3.here hx rfl (hb hby d8_4) rfl ?_
    show Steps p.tables e below (T3.setTop (mkF m 5 #[.val (.ref a1)] [(.double FP.dconst0), (.double w2)])) _
    refine XS.dcmpS X3.here hx rfl (hb hby d8_5) rfl rfl ?_
    show Steps p.tables e below (T3.setTop (mkF m 6 #[.val (.ref a1)] [(.int (cmpValue (FP.dcmp w2 FP.dconst0) .l))])) _
    refine XS.ifYes X3.here hx rfl (pc0 := 6) (pc' := 30) rfl (hb hby d8_6) rfl ((if0 _ _).trans (flt hc6).2.2.2) (by decide) (by decide) ?_
    show Steps p.tables e below (T3.setTop (mkF m 30 #[.val (.ref a1)] [])) _
    refine XS.dconst0 X3.here hx rfl (hb hby d8_30) rfl ?_
    show Steps p.tables e below (T3.setTop (mkF m 31 #[.val (.ref a1)] [(.double FP.dconst0)])) _
    exact retOut X3 hx Bd.returns rfl (Or.inr (Or.inr (Or.inl ⟨rfl, rfl, _, rfl⟩))) (hb hby d8_31) hr
  · show Qv (some (.double FP.dconst0)) h0 n0 _ T3.heap _
    rw [e3]
    exact ⟨rfl, N0, rfl⟩
theorem pn_0 : plainName "com/example/precision/precision/models/TopicUncertaintyDropPercentPinLaw" = true := by first | (simp [plainName, overriddenIn]; done) | decide +kernel
theorem pd_0_0 : parseMethodDescriptor "(C)Ljava/lang/String;" = some ⟨[.char], some (.object "java/lang/String")⟩ := by decide +kernel
theorem pd_0_5 : parseMethodDescriptor "(Ljava/lang/String;DD)V" = some ⟨[(.object "java/lang/String"), .double, .double], none⟩ := by decide +kernel
theorem pd_0_6 : parseMethodDescriptor "()D" = some ⟨[], some .double⟩ := by decide +kernel
theorem ef_0 (m : MethodId) (x0 : Int32) (x1 : Int32) (x2 : Int32) (x3 : Int32) : entryFrame m #[(.int x0), (.int x1), (.int x2), (.int x3)] maxLocals = mkF m 0 #[.val (.int x0), .val (.int x1), .val (.int x2), .val (.int x3), .unset, .unset, .unset, .unset, .unset, .unset, .unset, .unset, .unset, .unset, .unset, .unset, .unset, .unset, .unset, .unset, .unset] [] := by first | (simp [entryFrame, mkF, argsToLocals, Value.category, maxLocals]; done) | rfl
set_option maxRecDepth 65536 in
set_option maxHeartbeats 40000000 in
theorem rm0_ff (l : Launch) (Z : State) (a0 : Array Value) (hw : ∀ d ∈ tables_1, d.before a0 Z = true) (ws : List Jvm.Cond) (p1 : Int32) (p2 : Int32) (p3 : Int32) (p4 : Int32) (h0 : Heap) (n0 : Nat) (Z0 : n0 ≤ h0.size) (w2 : Int32) (S : Sta Z h0 "java/lang/String" "COMPACT_STRINGS" "Z" (.int w2)) (hw2 : ¬ (w2 = (0 : Int32))) (hc24 : (p4 &&& (3 : Int32)) = (0 : Int32)) :
    MetFree l x (head1 (Jvm.Cond.code x code maxLocals ret :: ws) room_1) (fun a U => a = #[(.int p1), (.int p2), (.int p3), (.int p4)] ∧ Z.Warmed39 U.vm ∧ U.heap = h0) (fun _ _ _ _ _ => True) (fun _ U o U' => ∃ v L, o = .returned v ∧ Ql (some (.int (1 : Int32))) n0 v L ∧ FrameEnd U o U' L room_1.cells room_1.slots) := by
  refine MetFree.of_bodySF (plainFor_of_name pn_0) hisR ?_
  intro p e s m args below meth c s₁ Bd hml0 hP hK
  obtain ⟨rfl, hZ, hh⟩ := hP
  have hx := Bd.exec
  have hby := Bd.bytes
  have hml : c.maxLocals = 21 := hml0
  have hown : s.vm.findClass "com/example/precision/precision/models/TopicUncertaintyDropPercentPinLaw" = some m.cls := findClass_of_methodNamed Bd.named
  have hnm := (name_of_methodNamed Bd.named Bd.method).1
  have X0 : Stand p l e room_1 s m #[(.int p1), (.int p2), (.int p3), (.int p4)] below meth c s₁ [] 0 0 := Stand.of_body Bd
  have e0 : s₁.heap = h0 := by rw [← hh, Bd.state]; rfl
  have N0 := Fr.nil n0
  have pre0 : ∀ t, Steps p.tables e below (s₁.setTop (mkF m 0 #[.val (.int p1), .val (.int p2), .val (.int p3), .val (.int p4), .unset, .unset, .unset, .unset, .unset, .unset, .unset, .unset, .unset, .unset, .unset, .unset, .unset, .unset, .unset, .unset, .unset] [])) t → Steps p.tables e below (s₁.setTop (entryFrame m #[(.int p1), (.int p2), (.int p3), (.int p4)] maxLocals)) t := fun t k => castTop (ef_0 m p1 p2 p3 p4) k
  -- 3. LAWS
  -- pc 13: java/lang/String.valueOf by its contract rm1
  obtain ⟨_, _, ⟨T5, L5, k5, n5⟩, -, X5, ⟨Lc5, hQ5, l5, y5, z5⟩, st5⟩ := Jvm.LawKit.callS X0 hx (y := (⟨"java/lang/String", "valueOf", "(C)Ljava/lang/String;"⟩ : MethodName)) hown (mvT hZ (hw _ (List.mem_of_getElem? (i := 0) rfl))) (mvT hZ (hw _ (List.mem_of_getElem? (i := 1) rfl))) (mvT hZ (hw _ (List.mem_of_getElem? (i := 2) rfl))) (mvT hZ (hw _ (List.mem_of_getElem? (i := 3) rfl))) (by decide) (backOf (W := 0) (rm1 l Z a0 hw [] ((((p4.toUInt32 >>> ((2 : Int32) &&& 31).toUInt32).toInt32) &&& (255 : Int32)).toUInt32.toUInt16.toUInt32.toInt32) w2 h0 n0 Z0 S hw2 (own_ch ((p4.toUInt32 >>> ((2 : Int32) &&& 31).toUInt32).toInt32))) hZ (hw _ (List.mem_of_getElem? (i := 3) rfl)) (hw _ (List.mem_of_getElem? (i := 2) rfl)) (by decide) (by decide)) (g := (mkF m 13 #[.val (.int p1), .val (.int p2), .val (.int p3), .val (.int p4), .val (.int (p4 &&& (3 : Int32))), .unset, .unset, .unset, .unset, .unset, .unset, .unset, .unset, .unset, .unset, .unset, .unset, .unset, .unset, .unset, .unset] [(.int ((((p4.toUInt32 >>> ((2 : Int32) &&& 31).toUInt32).toInt32) &&& (255 : Int32)).toUInt32.toUInt16.toUInt32.toInt32))])) rfl (by rw [hml]; rfl) (argsL := [(.int ((((p4.toUInt32 >>> ((2 : Int32) &&& 31).toUInt32).toInt32) &&& (255 : Int32)).toUInt32.toUInt16.toUInt32.toInt32))]) (rest := []) (lenOf pd_0_0 rfl) rfl (by show 2 * 0 + _ ≤ _; exact Nat.le_of_eq rfl) (hb hby at_13) (fun _ _ => ⟨rfl, e0, (by decide : 0 + 2 ≤ _), (by decide : 0 + 5 ≤ _)⟩)
  dsimp only [Pt.U, Pt.locs, Pt.cells, Pt.slots] at X5 l5 y5 z5 st5 hQ5
  subst l5 y5 z5
  obtain ⟨aS, rfl, N5q, Kc5⟩ := hQ5
  have N5 := Fr.app N0 N5q
  have Kh5 : Keep h0 T5.heap [] := Kc5
  obtain ⟨T6, h6, X6, e6, E6, A6, D6, -, st6⟩ := newO X5 hx hZ hown (hw _ (List.mem_of_getElem? (i := 26) rfl)) (hw _ (List.mem_of_getElem? (i := 27) rfl)) (hw _ (List.mem_of_getElem? (i := 28) rfl)) rfl (g := (mkF m 34 #[.val (.int p1), .val (.int p2), .val (.int p3), .val (.int p4), .val (.int (p4 &&& (3 : Int32))), .val (.ref aS), .val (.double (FP.i2d p2)), .second, .val (.int (-(p1 &&& (2147483647 : Int32)))), .unset, .unset, .unset, .unset, .unset, .unset, .unset, .unset, .unset, .unset, .unset, .unset] [])) rfl (hb hby at_34) (by decide) (by decide)
  obtain ⟨b6, g6⟩ : ∃ z, z = T5.heap.size := ⟨_, rfl⟩      -- the fresh object's address
  rw [← g6] at A6 D6 st6      -- A6 : Exa Z h6 b6 "com/example/precision/precision/models/Uncertainty$TopicUncertainty"; E6 : Ext T5.heap h6 (carries every older fact: .ext E6)
  have F_topic_b6 : Fld Z h6 b6 "com/example/precision/precision/models/Uncertainty$TopicUncertainty" "topic" "Ljava/lang/String;" .null := D6 (Or.inr (hw _ (List.mem_of_getElem? (i := 39) rfl))) (ty := (.object "java/lang/String")) (by decide)
  have F_bits_b6 : Fld Z h6 b6 "com/example/precision/precision/models/Uncertainty$TopicUncertainty" "bits" "D" (.double (0 : UInt64)) := D6 (Or.inr (hw _ (List.mem_of_getElem? (i := 41) rfl))) (ty := .double) (by decide)
  have F_maximum_b6 : Fld Z h6 b6 "com/example/precision/precision/models/Uncertainty$TopicUncertainty" "maximum" "D" (.double (0 : UInt64)) := D6 (Or.inr (hw _ (List.mem_of_getElem? (i := 43) rfl))) (ty := .double) (by decide)
  have E_b6 := A6
  have g_b6 : n0 ≤ b6 := Nat.le_trans (Nat.le_trans Z0 Kc5.1) (Nat.le_of_eq g6.symm)
  have sz_b6 : h0.size ≤ b6 := (Nat.le_trans Kh5.1 (Nat.le_of_eq g6.symm))
  have K6 : Keep h0 h6 [] := Kh5.ext E6
  -- pc 45: the constructor of com/example/precision/precision/models/Uncertainty$TopicUncertainty by its contract rm6
  obtain ⟨_, _, ⟨T7, L7, k7, n7⟩, -, X7, ⟨Lc7, hQ7, l7, y7, z7⟩, st7⟩ := X6.specialBack hx (y := (⟨"com/example/precision/precision/models/Uncertainty$TopicUncertainty", "<init>", "(Ljava/lang/String;DD)V"⟩ : MethodName)) rfl hown (mvT hZ (hw _ (List.mem_of_getElem? (i := 29) rfl))) (mvT hZ (hw _ (List.mem_of_getElem? (i := 30) rfl))) (mvT hZ (hw _ (List.mem_of_getElem? (i := 31) rfl))) (by decide) (backOf (W := 1) (rm6 l Z a0 hw [] b6 aS (FP.i2d p2) (FP.i2d (-(p1 &&& (2147483647 : Int32)))) .null (.double (0 : UInt64)) (.double (0 : UInt64)) h6 n0 (Nat.le_trans Z0 K6.1) E_b6 F_topic_b6 g_b6 F_bits_b6 F_maximum_b6) hZ (hw _ (List.mem_of_getElem? (i := 31) rfl)) (hw _ (List.mem_of_getElem? (i := 28) rfl)) (by decide) (by decide)) (g := (mkF m 45 #[.val (.int p1), .val (.int p2), .val (.int p3), .val (.int p4), .val (.int (p4 &&& (3 : Int32))), .val (.ref aS), .val (.double (FP.i2d p2)), .second, .val (.int (-(p1 &&& (2147483647 : Int32)))), .unset, .unset, .unset, .unset, .unset, .unset, .unset, .unset, .unset, .unset, .unset, .unset] [(.double (FP.i2d (-(p1 &&& (2147483647 : Int32))))), (.double (FP.i2d p2)), (.ref aS), (.ref b6), (.ref b6)])) rfl (by rw [hml]; rfl) (Steps.refl _) (a := b6) (argsL := [(.ref aS), (.double (FP.i2d p2)), (.double (FP.i2d (-(p1 &&& (2147483647 : Int32)))))]) (rest := [(.ref b6)]) (lenOf pd_0_5 rfl) rfl (by show 2 * 0 + _ ≤ _; exact Nat.le_of_eq rfl) (hb hby at_45) (fun _ _ => ⟨rfl, e6, (by decide : 3 + 0 ≤ _), (by decide : 8 + 0 ≤ _)⟩)
  dsimp only [Pt.U, Pt.locs, Pt.cells, Pt.slots] at X7 l7 y7 z7 st7 hQ7
  subst l7 y7 z7
  obtain ⟨rfl, N7q, Kc7, FB, FM⟩ := hQ7
  have N7 := Fr.app N5 N7q
  have Kh7 : Keep h0 T7.heap [] := K6.trans Kc7 (allS (Or.inr sz_b6) all0)
  -- pc 52: com/example/precision/precision/models/Uncertainty$TopicUncertainty.dropPercent by the contract of the body that the receiver's class selects, rm8
  obtain ⟨cq8, kq8, q8a, q8b, q8c⟩ := isOf hZ rfl (E_b6.keep Kc7)
  obtain ⟨_, _, ⟨T8, L8, k8, n8⟩, -, X8, ⟨Lc8, hQ8, l8, y8, z8⟩, st8⟩ := X7.virtualBack hx (y := (⟨"com/example/precision/precision/models/Uncertainty$TopicUncertainty", "dropPercent", "()D"⟩ : MethodName)) (z := (⟨"com/example/precision/precision/models/Uncertainty$TopicUncertainty", "dropPercent", "()D"⟩ : MethodName)) hown (mvT hZ (hw _ (List.mem_of_getElem? (i := 44) rfl))) (mvT hZ (hw _ (List.mem_of_getElem? (i := 45) rfl))) (notFace_of_selects (args := #[]) (mvT hZ (hw _ (List.mem_of_getElem? (i := 47) rfl)))) (mvT hZ (hw _ (List.mem_of_getElem? (i := 47) rfl))) (mvT hZ (hw _ (List.mem_of_getElem? (i := 46) rfl))) (by decide) (backOf (W := 0) (rm8_t l Z a0 hw [] b6 (FP.i2d (-(p1 &&& (2147483647 : Int32)))) T7.heap n0 (Nat.le_trans Z0 Kh7.1) FM (own_cle (own_i2d _) own_d0 (own_m0 p1) .l)) hZ (hw _ (List.mem_of_getElem? (i := 48) rfl)) (hw _ (List.mem_of_getElem? (i := 28) rfl)) (by decide) (by decide)) q8a q8c (g := (mkF m 52 #[.val (.int p1), .val (.int p2), .val (.int p3), .val (.int p4), .val (.int (p4 &&& (3 : Int32))), .val (.ref aS), .val (.double (FP.i2d p2)), .second, .val (.int (-(p1 &&& (2147483647 : Int32)))), .val (.ref b6), .unset, .unset, .unset, .unset, .unset, .unset, .unset, .unset, .unset, .unset, .unset] [(.ref b6)])) rfl (by rw [hml]; rfl) (Steps.refl _) (argsL := []) (rest := []) (lenOf pd_0_6 rfl) rfl (by show 2 * 0 + _ ≤ _; exact Nat.le_of_eq rfl) (hb hby at_52) (fun _ _ => ⟨rfl, rfl, (by decide : 3 + 0 ≤ _), (by decide : 8 + 0 ≤ _)⟩)
  dsimp only [Pt.U, Pt.locs, Pt.cells, Pt.slots] at X8 l8 y8 z8 st8 hQ8
  subst l8 y8 z8
  obtain ⟨rfl, N8q, e8⟩ := hQ8
  have N8 := Fr.app N7 N8q
  obtain ⟨fs, hr, hrun, hended, hW, hsame⟩ := X8.leave (v := some (.int (1 : Int32))) (fun h => by rw [Bd.returns] at h; cases h)
  refine ⟨_, _, pre0 _ ?_, hrun, hended, _, _, rfl, ?_, ⟨_, rfl⟩, hW, hsame.mono (by decide) (by decide)⟩
  -- 4. STEPS
  · show Steps p.tables e below (s₁.setTop (mkF m 0 #[.val (.int p1), .val (.int p2), .val (.int p3), .val (.int p4), .unset, .unset, .unset, .unset, .unset, .unset, .unset, .unset, .unset, .unset, .unset, .unset, .unset, .unset, .unset, .unset, .unset] [])) _
    refine XS.iloadN X0.here hx rfl (hb hby at_0) rfl ?_
    show Steps p.tables e below (s₁.setTop (mkF m 1 #[.val (.int p1), .val (.int p2), .val (.int p3), .val (.int p4), .unset, .unset, .unset, .unset, .unset, .unset, .unset, .unset, .unset, .unset, .unset, .unset, .unset, .unset, .unset, .unset, .unset] [(.int p4)])) _
    refine XS.iconst X0.here hx rfl (hb hby at_1) ?_
    show Steps p.tables e below (s₁.setTop (mkF m 2 #[.val (.int p1), .val (.int p2), .val (.int p3), .val (.int p4), .unset, .unset, .unset, .unset, .unset, .unset, .unset, .unset, .unset, .unset, .unset, .unset, .unset, .unset, .unset, .unset, .unset] [(.int (3 : Int32)), (.int p4)])) _
    refine XS.iand X0.here hx rfl (hb hby at_2) rfl ?_
    show Steps p.tables e below (s₁.setTop (mkF m 3 #[.val (.int p1), .val (.int p2), .val (.int p3), .val (.int p4), .unset, .unset, .unset, .unset, .unset, .unset, .unset, .unset, .unset, .unset, .unset, .unset, .unset, .unset, .unset, .unset, .unset] [(.int (p4 &&& (3 : Int32)))])) _
    refine XS.istore X0.here hx rfl (hb hby at_3) rfl (l' := #[.val (.int p1), .val (.int p2), .val (.int p3), .val (.int p4), .val (.int (p4 &&& (3 : Int32))), .unset, .unset, .unset, .unset, .unset, .unset, .unset, .unset, .unset, .unset, .unset, .unset, .unset, .unset, .unset, .unset]) rfl ?_
    show Steps p.tables e below (s₁.setTop (mkF m 5 #[.val (.int p1), .val (.int p2), .val (.int p3), .val (.int p4), .val (.int (p4 &&& (3 : Int32))), .unset, .unset, .unset, .unset, .unset, .unset, .unset, .unset, .unset, .unset, .unset, .unset, .unset, .unset, .unset, .unset] [])) _
    refine XS.iloadN X0.here hx rfl (hb hby at_5) rfl ?_
    show Steps p.tables e below (s₁.setTop (mkF m 6 #[.val (.int p1), .val (.int p2), .val (.int p3), .val (.int p4), .val (.int (p4 &&& (3 : Int32))), .unset, .unset, .unset, .unset, .unset, .unset, .unset, .unset, .unset, .unset, .unset, .unset, .unset, .unset, .unset, .unset] [(.int p4)])) _
    refine XS.iconst X0.here hx rfl (hb hby at_6) ?_
    show Steps p.tables e below (s₁.setTop (mkF m 7 #[.val (.int p1), .val (.int p2), .val (.int p3), .val (.int p4), .val (.int (p4 &&& (3 : Int32))), .unset, .unset, .unset, .unset, .unset, .unset, .unset, .unset, .unset, .unset, .unset, .unset, .unset, .unset, .unset, .unset] [(.int (2 : Int32)), (.int p4)])) _
    refine XS.iushr X0.here hx rfl (hb hby at_7) rfl ?_
    show Steps p.tables e below (s₁.setTop (mkF m 8 #[.val (.int p1), .val (.int p2), .val (.int p3), .val (.int p4), .val (.int (p4 &&& (3 : Int32))), .unset, .unset, .unset, .unset, .unset, .unset, .unset, .unset, .unset, .unset, .unset, .unset, .unset, .unset, .unset, .unset] [(.int ((p4.toUInt32 >>> ((2 : Int32) &&& 31).toUInt32).toInt32))])) _
    refine XS.sipush X0.here hx rfl (hb hby at_8) ?_
    show Steps p.tables e below (s₁.setTop (mkF m 11 #[.val (.int p1), .val (.int p2), .val (.int p3), .val (.int p4), .val (.int (p4 &&& (3 : Int32))), .unset, .unset, .unset, .unset, .unset, .unset, .unset, .unset, .unset, .unset, .unset, .unset, .unset, .unset, .unset, .unset] [(.int (255 : Int32)), (.int ((p4.toUInt32 >>> ((2 : Int32) &&& 31).toUInt32).toInt32))])) _
    refine XS.iand X0.here hx rfl (hb hby at_11) rfl ?_
    show Steps p.tables e below (s₁.setTop (mkF m 12 #[.val (.int p1), .val (.int p2), .val (.int p3), .val (.int p4), .val (.int (p4 &&& (3 : Int32))), .unset, .unset, .unset, .unset, .unset, .unset, .unset, .unset, .unset, .unset, .unset, .unset, .unset, .unset, .unset, .unset] [(.int (((p4.toUInt32 >>> ((2 : Int32) &&& 31).toUInt32).toInt32) &&& (255 : Int32)))])) _
    refine XS.i2c X0.here hx rfl (hb hby at_12) rfl ?_
    show Steps p.tables e below (s₁.setTop (mkF m 13 #[.val (.int p1), .val (.int p2), .val (.int p3), .val (.int p4), .val (.int (p4 &&& (3 : Int32))), .unset, .unset, .unset, .unset, .unset, .unset, .unset, .unset, .unset, .unset, .unset, .unset, .unset, .unset, .unset, .unset] [(.int ((((p4.toUInt32 >>> ((2 : Int32) &&& 31).toUInt32).toInt32) &&& (255 : Int32)).toUInt32.toUInt16.toUInt32.toInt32))])) _
    refine st5 _ ?_
    show Steps p.tables e below (T5.setTop (mkF m 16 #[.val (.int p1), .val (.int p2), .val (.int p3), .val (.int p4), .val (.int (p4 &&& (3 : Int32))), .unset, .unset, .unset, .unset, .unset, .unset, .unset, .unset, .unset, .unset, .unset, .unset, .unset, .unset, .unset, .unset] [(.ref aS)])) _
    refine XS.astore X5.here hx rfl (hb hby at_16) rfl rfl (l' := #[.val (.int p1), .val (.int p2), .val (.int p3), .val (.int p4), .val (.int (p4 &&& (3 : Int32))), .val (.ref aS), .unset, .unset, .unset, .unset, .unset, .unset, .unset, .unset, .unset, .unset, .unset, .unset, .unset, .unset, .unset]) rfl ?_
    show Steps p.tables e below (T5.setTop (mkF m 18 #[.val (.int p1), .val (.int p2), .val (.int p3), .val (.int p4), .val (.int (p4 &&& (3 : Int32))), .val (.ref aS), .unset, .unset, .unset, .unset, .unset, .unset, .unset, .unset, .unset, .unset, .unset, .unset, .unset, .unset, .unset] [])) _
    refine XS.iloadN X5.here hx rfl (hb hby at_18) rfl ?_
    show Steps p.tables e below (T5.setTop (mkF m 19 #[.val (.int p1), .val (.int p2), .val (.int p3), .val (.int p4), .val (.int (p4 &&& (3 : Int32))), .val (.ref aS), .unset, .unset, .unset, .unset, .unset, .unset, .unset, .unset, .unset, .unset, .unset, .unset, .unset, .unset, .unset] [(.int p2)])) _
    refine XS.i2dS X5.here hx rfl (hb hby at_19) rfl rfl ?_
    show Steps p.tables e below (T5.setTop (mkF m 20 #[.val (.int p1), .val (.int p2), .val (.int p3), .val (.int p4), .val (.int (p4 &&& (3 : Int32))), .val (.ref aS), .unset, .unset, .unset, .unset, .unset, .unset, .unset, .unset, .unset, .unset, .unset, .unset, .unset, .unset, .unset] [(.double (FP.i2d p2))])) _
    refine XS.dstore X5.here hx rfl (hb hby at_20) rfl (l' := #[.val (.int p1), .val (.int p2), .val (.int p3), .val (.int p4), .val (.int (p4 &&& (3 : Int32))), .val (.ref aS), .val (.double (FP.i2d p2)), .second, .unset, .unset, .unset, .unset, .unset, .unset, .unset, .unset, .unset, .unset, .unset, .unset, .unset]) rfl ?_
    show Steps p.tables e below (T5.setTop (mkF m 22 #[.val (.int p1), .val (.int p2), .val (.int p3), .val (.int p4), .val (.int (p4 &&& (3 : Int32))), .val (.ref aS), .val (.double (FP.i2d p2)), .second, .unset, .unset, .unset, .unset, .unset, .unset, .unset, .unset, .unset, .unset, .unset, .unset, .unset] [])) _
    refine XS.iload X5.here hx rfl (hb hby at_22) rfl ?_
    show Steps p.tables e below (T5.setTop (mkF m 24 #[.val (.int p1), .val (.int p2), .val (.int p3), .val (.int p4), .val (.int (p4 &&& (3 : Int32))), .val (.ref aS), .val (.double (FP.i2d p2)), .second, .unset, .unset, .unset, .unset, .unset, .unset, .unset, .unset, .unset, .unset, .unset, .unset, .unset] [(.int (p4 &&& (3 : Int32)))])) _
    refine XS.ifNo X5.here hx rfl (hb hby at_24) rfl ((if0 _ _).trans (teq hc24).2) ?_
    show Steps p.tables e below (T5.setTop (mkF m 27 #[.val (.int p1), .val (.int p2), .val (.int p3), .val (.int p4), .val (.int (p4 &&& (3 : Int32))), .val (.ref aS), .val (.double (FP.i2d p2)), .second, .unset, .unset, .unset, .unset, .unset, .unset, .unset, .unset, .unset, .unset, .unset, .unset, .unset] [])) _
    refine XS.iloadN X5.here hx rfl (hb hby at_27) rfl ?_
    show Steps p.tables e below (T5.setTop (mkF m 28 #[.val (.int p1), .val (.int p2), .val (.int p3), .val (.int p4), .val (.int (p4 &&& (3 : Int32))), .val (.ref aS), .val (.double (FP.i2d p2)), .second, .unset, .unset, .unset, .unset, .unset, .unset, .unset, .unset, .unset, .unset, .unset, .unset, .unset] [(.int p1)])) _
    refine X5.ldcInt hx hown (mvT hZ (hw _ (List.mem_of_getElem? (i := 51) rfl))) (g := (mkF m 28 #[.val (.int p1), .val (.int p2), .val (.int p3), .val (.int p4), .val (.int (p4 &&& (3 : Int32))), .val (.ref aS), .val (.double (FP.i2d p2)), .second, .unset, .unset, .unset, .unset, .unset, .unset, .unset, .unset, .unset, .unset, .unset, .unset, .unset] [(.int p1)])) rfl (hb hby at_28) _ ?_
    show Steps p.tables e below (T5.setTop (mkF m 30 #[.val (.int p1), .val (.int p2), .val (.int p3), .val (.int p4), .val (.int (p4 &&& (3 : Int32))), .val (.ref aS), .val (.double (FP.i2d p2)), .second, .unset, .unset, .unset, .unset, .unset, .unset, .unset, .unset, .unset, .unset, .unset, .unset, .unset] [(.int (2147483647 : Int32)), (.int p1)])) _
    refine XS.iand X5.here hx rfl (hb hby at_30) rfl ?_
    show Steps p.tables e below (T5.setTop (mkF m 31 #[.val (.int p1), .val (.int p2), .val (.int p3), .val (.int p4), .val (.int (p4 &&& (3 : Int32))), .val (.ref aS), .val (.double (FP.i2d p2)), .second, .unset, .unset, .unset, .unset, .unset, .unset, .unset, .unset, .unset, .unset, .unset, .unset, .unset] [(.int (p1 &&& (2147483647 : Int32)))])) _
    refine XS.ineg X5.here hx rfl (hb hby at_31) rfl ?_
    show Steps p.tables e below (T5.setTop (mkF m 32 #[.val (.int p1), .val (.int p2), .val (.int p3), .val (.int p4), .val (.int (p4 &&& (3 : Int32))), .val (.ref aS), .val (.double (FP.i2d p2)), .second, .unset, .unset, .unset, .unset, .unset, .unset, .unset, .unset, .unset, .unset, .unset, .unset, .unset] [(.int (-(p1 &&& (2147483647 : Int32))))])) _
    refine XS.istore X5.here hx rfl (hb hby at_32) rfl (l' := #[.val (.int p1), .val (.int p2), .val (.int p3), .val (.int p4), .val (.int (p4 &&& (3 : Int32))), .val (.ref aS), .val (.double (FP.i2d p2)), .second, .val (.int (-(p1 &&& (2147483647 : Int32)))), .unset, .unset, .unset, .unset, .unset, .unset, .unset, .unset, .unset, .unset, .unset, .unset]) rfl ?_
    show Steps p.tables e below (T5.setTop (mkF m 34 #[.val (.int p1), .val (.int p2), .val (.int p3), .val (.int p4), .val (.int (p4 &&& (3 : Int32))), .val (.ref aS), .val (.double (FP.i2d p2)), .second, .val (.int (-(p1 &&& (2147483647 : Int32)))), .unset, .unset, .unset, .unset, .unset, .unset, .unset, .unset, .unset, .unset, .unset, .unset] [])) _
    refine st6 _ ?_
    show Steps p.tables e below (T6.setTop (mkF m 37 #[.val (.int p1), .val (.int p2), .val (.int p3), .val (.int p4), .val (.int (p4 &&& (3 : Int32))), .val (.ref aS), .val (.double (FP.i2d p2)), .second, .val (.int (-(p1 &&& (2147483647 : Int32)))), .unset, .unset, .unset, .unset, .unset, .unset, .unset, .unset, .unset, .unset, .unset, .unset] [(.ref b6)])) _
    refine XS.dup X6.here hx rfl (hb hby at_37) rfl rfl ?_
    show Steps p.tables e below (T6.setTop (mkF m 38 #[.val (.int p1), .val (.int p2), .val (.int p3), .val (.int p4), .val (.int (p4 &&& (3 : Int32))), .val (.ref aS), .val (.double (FP.i2d p2)), .second, .val (.int (-(p1 &&& (2147483647 : Int32)))), .unset, .unset, .unset, .unset, .unset, .unset, .unset, .unset, .unset, .unset, .unset, .unset] [(.ref b6), (.ref b6)])) _
    refine XS.aload X6.here hx rfl (hb hby at_38) rfl rfl ?_
    show Steps p.tables e below (T6.setTop (mkF m 40 #[.val (.int p1), .val (.int p2), .val (.int p3), .val (.int p4), .val (.int (p4 &&& (3 : Int32))), .val (.ref aS), .val (.double (FP.i2d p2)), .second, .val (.int (-(p1 &&& (2147483647 : Int32)))), .unset, .unset, .unset, .unset, .unset, .unset, .unset, .unset, .unset, .unset, .unset, .unset] [(.ref aS), (.ref b6), (.ref b6)])) _
    refine XS.dload X6.here hx rfl (hb hby at_40) rfl ?_
    show Steps p.tables e below (T6.setTop (mkF m 42 #[.val (.int p1), .val (.int p2), .val (.int p3), .val (.int p4), .val (.int (p4 &&& (3 : Int32))), .val (.ref aS), .val (.double (FP.i2d p2)), .second, .val (.int (-(p1 &&& (2147483647 : Int32)))), .unset, .unset, .unset, .unset, .unset, .unset, .unset, .unset, .unset, .unset, .unset, .unset] [(.double (FP.i2d p2)), (.ref aS), (.ref b6), (.ref b6)])) _
    refine XS.iload X6.here hx rfl (hb hby at_42) rfl ?_
    show Steps p.tables e below (T6.setTop (mkF m 44 #[.val (.int p1), .val (.int p2), .val (.int p3), .val (.int p4), .val (.int (p4 &&& (3 : Int32))), .val (.ref aS), .val (.double (FP.i2d p2)), .second, .val (.int (-(p1 &&& (2147483647 : Int32)))), .unset, .unset, .unset, .unset, .unset, .unset, .unset, .unset, .unset, .unset, .unset, .unset] [(.int (-(p1 &&& (2147483647 : Int32)))), (.double (FP.i2d p2)), (.ref aS), (.ref b6), (.ref b6)])) _
    refine XS.i2dS X6.here hx rfl (hb hby at_44) rfl rfl ?_
    show Steps p.tables e below (T6.setTop (mkF m 45 #[.val (.int p1), .val (.int p2), .val (.int p3), .val (.int p4), .val (.int (p4 &&& (3 : Int32))), .val (.ref aS), .val (.double (FP.i2d p2)), .second, .val (.int (-(p1 &&& (2147483647 : Int32)))), .unset, .unset, .unset, .unset, .unset, .unset, .unset, .unset, .unset, .unset, .unset, .unset] [(.double (FP.i2d (-(p1 &&& (2147483647 : Int32))))), (.double (FP.i2d p2)), (.ref aS), (.ref b6), (.ref b6)])) _
    refine st7.trans ?_
    show Steps p.tables e below (T7.setTop (mkF m 48 #[.val (.int p1), .val (.int p2), .val (.int p3), .val (.int p4), .val (.int (p4 &&& (3 : Int32))), .val (.ref aS), .val (.double (FP.i2d p2)), .second, .val (.int (-(p1 &&& (2147483647 : Int32)))), .unset, .unset, .unset, .unset, .unset, .unset, .unset, .unset, .unset, .unset, .unset, .unset] [(.ref b6)])) _
    refine XS.astore X7.here hx rfl (hb hby at_48) rfl rfl (l' := #[.val (.int p1), .val (.int p2), .val (.int p3), .val (.int p4), .val (.int (p4 &&& (3 : Int32))), .val (.ref aS), .val (.double (FP.i2d p2)), .second, .val (.int (-(p1 &&& (2147483647 : Int32)))), .val (.ref b6), .unset, .unset, .unset, .unset, .unset, .unset, .unset, .unset, .unset, .unset, .unset]) rfl ?_
    show Steps p.tables e below (T7.setTop (mkF m 50 #[.val (.int p1), .val (.int p2), .val (.int p3), .val (.int p4), .val (.int (p4 &&& (3 : Int32))), .val (.ref aS), .val (.double (FP.i2d p2)), .second, .val (.int (-(p1 &&& (2147483647 : Int32)))), .val (.ref b6), .unset, .unset, .unset, .unset, .unset, .unset, .unset, .unset, .unset, .unset, .unset] [])) _
    refine XS.aload X7.here hx rfl (hb hby at_50) rfl rfl ?_
    show Steps p.tables e below (T7.setTop (mkF m 52 #[.val (.int p1), .val (.int p2), .val (.int p3), .val (.int p4), .val (.int (p4 &&& (3 : Int32))), .val (.ref aS), .val (.double (FP.i2d p2)), .second, .val (.int (-(p1 &&& (2147483647 : Int32)))), .val (.ref b6), .unset, .unset, .unset, .unset, .unset, .unset, .unset, .unset, .unset, .unset, .unset] [(.ref b6)])) _
    refine st8.trans ?_
    show Steps p.tables e below (T8.setTop (mkF m 55 #[.val (.int p1), .val (.int p2), .val (.int p3), .val (.int p4), .val (.int (p4 &&& (3 : Int32))), .val (.ref aS), .val (.double (FP.i2d p2)), .second, .val (.int (-(p1 &&& (2147483647 : Int32)))), .val (.ref b6), .unset, .unset, .unset, .unset, .unset, .unset, .unset, .unset, .unset, .unset, .unset] [(.double FP.dconst0)])) _
    refine XS.dstore X8.here hx rfl (hb hby at_55) rfl (l' := #[.val (.int p1), .val (.int p2), .val (.int p3), .val (.int p4), .val (.int (p4 &&& (3 : Int32))), .val (.ref aS), .val (.double (FP.i2d p2)), .second, .val (.int (-(p1 &&& (2147483647 : Int32)))), .val (.ref b6), .val (.double FP.dconst0), .second, .unset, .unset, .unset, .unset, .unset, .unset, .unset, .unset, .unset]) rfl ?_
    show Steps p.tables e below (T8.setTop (mkF m 57 #[.val (.int p1), .val (.int p2), .val (.int p3), .val (.int p4), .val (.int (p4 &&& (3 : Int32))), .val (.ref aS), .val (.double (FP.i2d p2)), .second, .val (.int (-(p1 &&& (2147483647 : Int32)))), .val (.ref b6), .val (.double FP.dconst0), .second, .unset, .unset, .unset, .unset, .unset, .unset, .unset, .unset, .unset] [])) _
    refine XS.dload X8.here hx rfl (hb hby at_57) rfl ?_
    show Steps p.tables e below (T8.setTop (mkF m 59 #[.val (.int p1), .val (.int p2), .val (.int p3), .val (.int p4), .val (.int (p4 &&& (3 : Int32))), .val (.ref aS), .val (.double (FP.i2d p2)), .second, .val (.int (-(p1 &&& (2147483647 : Int32)))), .val (.ref b6), .val (.double FP.dconst0), .second, .unset, .unset, .unset, .unset, .unset, .unset, .unset, .unset, .unset] [(.double FP.dconst0)])) _
    refine XS.dconst0 X8.here hx rfl (hb hby at_59) rfl ?_
    show Steps p.tables e below (T8.setTop (mkF m 60 #[.val (.int p1), .val (.int p2), .val (.int p3), .val (.int p4), .val (.int (p4 &&& (3 : Int32))), .val (.ref aS), .val (.double (FP.i2d p2)), .second, .val (.int (-(p1 &&& (2147483647 : Int32)))), .val (.ref b6), .val (.double FP.dconst0), .second, .unset, .unset, .unset, .unset, .unset, .unset, .unset, .unset, .unset] [(.double FP.dconst0), (.double FP.dconst0)])) _
    refine XS.dcmpS X8.here hx rfl (hb hby at_60) rfl rfl ?_
    show Steps p.tables e below (T8.setTop (mkF m 61 #[.val (.int p1), .val (.int p2), .val (.int p3), .val (.int p4), .val (.int (p4 &&& (3 : Int32))), .val (.ref aS), .val (.double (FP.i2d p2)), .second, .val (.int (-(p1 &&& (2147483647 : Int32)))), .val (.ref b6), .val (.double FP.dconst0), .second, .unset, .unset, .unset, .unset, .unset, .unset, .unset, .unset, .unset] [(.int (cmpValue (FP.dcmp FP.dconst0 FP.dconst0) .l))])) _
    refine XS.ifNo X8.here hx rfl (hb hby at_61) rfl ((if0 _ _).trans (teq (own_ceq own_d0 own_d0 .l : (cmpValue (FP.dcmp FP.dconst0 FP.dconst0) .l) = (0 : Int32))).2) ?_
    show Steps p.tables e below (T8.setTop (mkF m 64 #[.val (.int p1), .val (.int p2), .val (.int p3), .val (.int p4), .val (.int (p4 &&& (3 : Int32))), .val (.ref aS), .val (.double (FP.i2d p2)), .second, .val (.int (-(p1 &&& (2147483647 : Int32)))), .val (.ref b6), .val (.double FP.dconst0), .second, .unset, .unset, .unset, .unset, .unset, .unset, .unset, .unset, .unset] [])) _
    refine XS.iconst X8.here hx rfl (hb hby at_64) ?_
    show Steps p.tables e below (T8.setTop (mkF m 65 #[.val (.int p1), .val (.int p2), .val (.int p3), .val (.int p4), .val (.int (p4 &&& (3 : Int32))), .val (.ref aS), .val (.double (FP.i2d p2)), .second, .val (.int (-(p1 &&& (2147483647 : Int32)))), .val (.ref b6), .val (.double FP.dconst0), .second, .unset, .unset, .unset, .unset, .unset, .unset, .unset, .unset, .unset] [(.int (1 : Int32))])) _
    refine XS.goto X8.here hx rfl (pc0 := 65) (pc' := 69) rfl (hb hby at_65) (by decide) (by decide) ?_
    show Steps p.tables e below (T8.setTop (mkF m 69 #[.val (.int p1), .val (.int p2), .val (.int p3), .val (.int p4), .val (.int (p4 &&& (3 : Int32))), .val (.ref aS), .val (.double (FP.i2d p2)), .second, .val (.int (-(p1 &&& (2147483647 : Int32)))), .val (.ref b6), .val (.double FP.dconst0), .second, .unset, .unset, .unset, .unset, .unset, .unset, .unset, .unset, .unset] [(.int (1 : Int32))])) _
    exact retN X8 hx (t := .boolean) Bd.returns (by simp) (hb hby at_69) hr
  · show Ql (some (.int (1 : Int32))) n0 _ _
    exact ⟨rfl, N8⟩
set_option maxRecDepth 65536 in
set_option maxHeartbeats 40000000 in
theorem rm0_tff (l : Launch) (Z : State) (a0 : Array Value) (hw : ∀ d ∈ tables_1, d.before a0 Z = true) (ws : List Jvm.Cond) (p1 : Int32) (p2 : Int32) (p3 : Int32) (p4 : Int32) (h0 : Heap) (n0 : Nat) (Z0 : n0 ≤ h0.size) (w2 : Int32) (S : Sta Z h0 "java/lang/String" "COMPACT_STRINGS" "Z" (.int w2)) (hw2 : ¬ (w2 = (0 : Int32))) (hc24 : ¬ ((p4 &&& (3 : Int32)) = (0 : Int32))) (hc73 : (p4 &&& (3 : Int32)) = (1 : Int32)) :
    MetFree l x (head1 (Jvm.Cond.code x code maxLocals ret :: ws) room_1) (fun a U => a = #[(.int p1), (.int p2), (.int p3), (.int p4)] ∧ Z.Warmed39 U.vm ∧ U.heap = h0) (fun _ _ _ _ _ => True) (fun _ U o U' => ∃ v L, o = .returned v ∧ Ql (some (.int (1 : Int32))) n0 v L ∧ FrameEnd U o U' L room_1.cells room_1.slots) := by
  refine MetFree.of_bodySF (plainFor_of_name pn_0) hisR ?_
  intro p e s m args below meth c s₁ Bd hml0 hP hK
  obtain ⟨rfl, hZ, hh⟩ := hP
  have hx := Bd.exec
  have hby := Bd.bytes
  have hml : c.maxLocals = 21 := hml0
  have hown : s.vm.findClass "com/example/precision/precision/models/TopicUncertaintyDropPercentPinLaw" = some m.cls := findClass_of_methodNamed Bd.named
  have hnm := (name_of_methodNamed Bd.named Bd.method).1
  have X0 : Stand p l e room_1 s m #[(.int p1), (.int p2), (.int p3), (.int p4)] below meth c s₁ [] 0 0 := Stand.of_body Bd
  have e0 : s₁.heap = h0 := by rw [← hh, Bd.state]; rfl
  have N0 := Fr.nil n0
  have pre0 : ∀ t, Steps p.tables e below (s₁.setTop (mkF m 0 #[.val (.int p1), .val (.int p2), .val (.int p3), .val (.int p4), .unset, .unset, .unset, .unset, .unset, .unset, .unset, .unset, .unset, .unset, .unset, .unset, .unset, .unset, .unset, .unset, .unset] [])) t → Steps p.tables e below (s₁.setTop (entryFrame m #[(.int p1), (.int p2), (.int p3), (.int p4)] maxLocals)) t := fun t k => castTop (ef_0 m p1 p2 p3 p4) k
  -- 3. LAWS
  -- pc 13: java/lang/String.valueOf by its contract rm1
  obtain ⟨_, _, ⟨T5, L5, k5, n5⟩, -, X5, ⟨Lc5, hQ5, l5, y5, z5⟩, st5⟩ := Jvm.LawKit.callS X0 hx (y := (⟨"java/lang/String", "valueOf", "(C)Ljava/lang/String;"⟩ : MethodName)) hown (mvT hZ (hw _ (List.mem_of_getElem? (i := 0) rfl))) (mvT hZ (hw _ (List.mem_of_getElem? (i := 1) rfl))) (mvT hZ (hw _ (List.mem_of_getElem? (i := 2) rfl))) (mvT hZ (hw _ (List.mem_of_getElem? (i := 3) rfl))) (by decide) (backOf (W := 0) (rm1 l Z a0 hw [] ((((p4.toUInt32 >>> ((2 : Int32) &&& 31).toUInt32).toInt32) &&& (255 : Int32)).toUInt32.toUInt16.toUInt32.toInt32) w2 h0 n0 Z0 S hw2 (own_ch ((p4.toUInt32 >>> ((2 : Int32) &&& 31).toUInt32).toInt32))) hZ (hw _ (List.mem_of_getElem? (i := 3) rfl)) (hw _ (List.mem_of_getElem? (i := 2) rfl)) (by decide) (by decide)) (g := (mkF m 13 #[.val (.int p1), .val (.int p2), .val (.int p3), .val (.int p4), .val (.int (p4 &&& (3 : Int32))), .unset, .unset, .unset, .unset, .unset, .unset, .unset, .unset, .unset, .unset, .unset, .unset, .unset, .unset, .unset, .unset] [(.int ((((p4.toUInt32 >>> ((2 : Int32) &&& 31).toUInt32).toInt32) &&& (255 : Int32)).toUInt32.toUInt16.toUInt32.toInt32))])) rfl (by rw [hml]; rfl) (argsL := [(.int ((((p4.toUInt32 >>> ((2 : Int32) &&& 31).toUInt32).toInt32) &&& (255 : Int32)).toUInt32.toUInt16.toUInt32.toInt32))]) (rest := []) (lenOf pd_0_0 rfl) rfl (by show 2 * 0 + _ ≤ _; exact Nat.le_of_eq rfl) (hb hby at_13) (fun _ _ => ⟨rfl, e0, (by decide : 0 + 2 ≤ _), (by decide : 0 + 5 ≤ _)⟩)
  dsimp only [Pt.U, Pt.locs, Pt.cells, Pt.slots] at X5 l5 y5 z5 st5 hQ5
  subst l5 y5 z5
  obtain ⟨aS, rfl, N5q, Kc5⟩ := hQ5
  have N5 := Fr.app N0 N5q
  have Kh5 : Keep h0 T5.heap [] := Kc5
  obtain ⟨T6, h6, X6, e6, E6, A6, D6, -, st6⟩ := newO X5 hx hZ hown (hw _ (List.mem_of_getElem? (i := 26) rfl)) (hw _ (List.mem_of_getElem? (i := 27) rfl)) (hw _ (List.mem_of_getElem? (i := 28) rfl)) rfl (g := (mkF m 84 #[.val (.int p1), .val (.int p2), .val (.int p3), .val (.int p4), .val (.int (p4 &&& (3 : Int32))), .val (.ref aS), .val (.double (FP.i2d p2)), .second, .val (.long ((1 : Int64) <<< ((p3 &&& (31 : Int32)) &&& 0x3f).toInt64)), .second, .unset, .unset, .unset, .unset, .unset, .unset, .unset, .unset, .unset, .unset, .unset] [])) rfl (hb hby at_84) (by decide) (by decide)
  obtain ⟨b6, g6⟩ : ∃ z, z = T5.heap.size := ⟨_, rfl⟩      -- the fresh object's address
  rw [← g6] at A6 D6 st6      -- A6 : Exa Z h6 b6 "com/example/precision/precision/models/Uncertainty$TopicUncertainty"; E6 : Ext T5.heap h6 (carries every older fact: .ext E6)
  have F_topic_b6 : Fld Z h6 b6 "com/example/precision/precision/models/Uncertainty$TopicUncertainty" "topic" "Ljava/lang/String;" .null := D6 (Or.inr (hw _ (List.mem_of_getElem? (i := 39) rfl))) (ty := (.object "java/lang/String")) (by decide)
  have F_bits_b6 : Fld Z h6 b6 "com/example/precision/precision/models/Uncertainty$TopicUncertainty" "bits" "D" (.double (0 : UInt64)) := D6 (Or.inr (hw _ (List.mem_of_getElem? (i := 41) rfl))) (ty := .double) (by decide)
  have F_maximum_b6 : Fld Z h6 b6 "com/example/precision/precision/models/Uncertainty$TopicUncertainty" "maximum" "D" (.double (0 : UInt64)) := D6 (Or.inr (hw _ (List.mem_of_getElem? (i := 43) rfl))) (ty := .double) (by decide)
  have E_b6 := A6
  have g_b6 : n0 ≤ b6 := Nat.le_trans (Nat.le_trans Z0 Kc5.1) (Nat.le_of_eq g6.symm)
  have sz_b6 : h0.size ≤ b6 := (Nat.le_trans Kh5.1 (Nat.le_of_eq g6.symm))
  have K6 : Keep h0 h6 [] := Kh5.ext E6
  -- pc 95: the constructor of com/example/precision/precision/models/Uncertainty$TopicUncertainty by its contract rm6
  obtain ⟨_, _, ⟨T7, L7, k7, n7⟩, -, X7, ⟨Lc7, hQ7, l7, y7, z7⟩, st7⟩ := X6.specialBack hx (y := (⟨"com/example/precision/precision/models/Uncertainty$TopicUncertainty", "<init>", "(Ljava/lang/String;DD)V"⟩ : MethodName)) rfl hown (mvT hZ (hw _ (List.mem_of_getElem? (i := 29) rfl))) (mvT hZ (hw _ (List.mem_of_getElem? (i := 30) rfl))) (mvT hZ (hw _ (List.mem_of_getElem? (i := 31) rfl))) (by decide) (backOf (W := 1) (rm6 l Z a0 hw [] b6 aS (FP.i2d p2) (FP.l2d ((1 : Int64) <<< ((p3 &&& (31 : Int32)) &&& 0x3f).toInt64)) .null (.double (0 : UInt64)) (.double (0 : UInt64)) h6 n0 (Nat.le_trans Z0 K6.1) E_b6 F_topic_b6 g_b6 F_bits_b6 F_maximum_b6) hZ (hw _ (List.mem_of_getElem? (i := 31) rfl)) (hw _ (List.mem_of_getElem? (i := 28) rfl)) (by decide) (by decide)) (g := (mkF m 95 #[.val (.int p1), .val (.int p2), .val (.int p3), .val (.int p4), .val (.int (p4 &&& (3 : Int32))), .val (.ref aS), .val (.double (FP.i2d p2)), .second, .val (.long ((1 : Int64) <<< ((p3 &&& (31 : Int32)) &&& 0x3f).toInt64)), .second, .unset, .unset, .unset, .unset, .unset, .unset, .unset, .unset, .unset, .unset, .unset] [(.double (FP.l2d ((1 : Int64) <<< ((p3 &&& (31 : Int32)) &&& 0x3f).toInt64))), (.double (FP.i2d p2)), (.ref aS), (.ref b6), (.ref b6)])) rfl (by rw [hml]; rfl) (Steps.refl _) (a := b6) (argsL := [(.ref aS), (.double (FP.i2d p2)), (.double (FP.l2d ((1 : Int64) <<< ((p3 &&& (31 : Int32)) &&& 0x3f).toInt64)))]) (rest := [(.ref b6)]) (lenOf pd_0_5 rfl) rfl (by show 2 * 0 + _ ≤ _; exact Nat.le_of_eq rfl) (hb hby at_95) (fun _ _ => ⟨rfl, e6, (by decide : 3 + 0 ≤ _), (by decide : 8 + 0 ≤ _)⟩)
  dsimp only [Pt.U, Pt.locs, Pt.cells, Pt.slots] at X7 l7 y7 z7 st7 hQ7
  subst l7 y7 z7
  obtain ⟨rfl, N7q, Kc7, FB, FM⟩ := hQ7
  have N7 := Fr.app N5 N7q
  have Kh7 : Keep h0 T7.heap [] := K6.trans Kc7 (allS (Or.inr sz_b6) all0)
  -- pc 102: com/example/precision/precision/models/Uncertainty$TopicUncertainty.dropPercent by the contract of the body that the receiver's class selects, rm8
  obtain ⟨cq8, kq8, q8a, q8b, q8c⟩ := isOf hZ rfl (E_b6.keep Kc7)
  obtain ⟨_, _, ⟨T8, L8, k8, n8⟩, -, X8, ⟨Lc8, hQ8, l8, y8, z8⟩, st8⟩ := X7.virtualBack hx (y := (⟨"com/example/precision/precision/models/Uncertainty$TopicUncertainty", "dropPercent", "()D"⟩ : MethodName)) (z := (⟨"com/example/precision/precision/models/Uncertainty$TopicUncertainty", "dropPercent", "()D"⟩ : MethodName)) hown (mvT hZ (hw _ (List.mem_of_getElem? (i := 44) rfl))) (mvT hZ (hw _ (List.mem_of_getElem? (i := 45) rfl))) (notFace_of_selects (args := #[]) (mvT hZ (hw _ (List.mem_of_getElem? (i := 47) rfl)))) (mvT hZ (hw _ (List.mem_of_getElem? (i := 47) rfl))) (mvT hZ (hw _ (List.mem_of_getElem? (i := 46) rfl))) (by decide) (backOf (W := 0) (rm8_f l Z a0 hw [] b6 (FP.l2d ((1 : Int64) <<< ((p3 &&& (31 : Int32)) &&& 0x3f).toInt64)) (FP.i2d p2) T7.heap n0 (Nat.le_trans Z0 Kh7.1) FM FB (own_mM (b := p2) (own_m1b p3).1 (own_m1b p3).2).1 (own_mM (b := p2) (own_m1b p3).1 (own_m1b p3).2).2.1 (own_mM (b := p2) (own_m1b p3).1 (own_m1b p3).2).2.2.1 (own_mM (b := p2) (own_m1b p3).1 (own_m1b p3).2).2.2.2) hZ (hw _ (List.mem_of_getElem? (i := 48) rfl)) (hw _ (List.mem_of_getElem? (i := 28) rfl)) (by decide) (by decide)) q8a q8c (g := (mkF m 102 #[.val (.int p1), .val (.int p2), .val (.int p3), .val (.int p4), .val (.int (p4 &&& (3 : Int32))), .val (.ref aS), .val (.double (FP.i2d p2)), .second, .val (.long ((1 : Int64) <<< ((p3 &&& (31 : Int32)) &&& 0x3f).toInt64)), .second, .val (.ref b6), .unset, .unset, .unset, .unset, .unset, .unset, .unset, .unset, .unset, .unset] [(.ref b6)])) rfl (by rw [hml]; rfl) (Steps.refl _) (argsL := []) (rest := []) (lenOf pd_0_6 rfl) rfl (by show 2 * 0 + _ ≤ _; exact Nat.le_of_eq rfl) (hb hby at_102) (fun _ _ => ⟨rfl, rfl, (by decide : 3 + 0 ≤ _), (by decide : 8 + 0 ≤ _)⟩)
  dsimp only [Pt.U, Pt.locs, Pt.cells, Pt.slots] at X8 l8 y8 z8 st8 hQ8
  subst l8 y8 z8
  obtain ⟨rfl, N8q, e8⟩ := hQ8
  have N8 := Fr.app N7 N8q
  obtain ⟨fs, hr, hrun, hended, hW, hsame⟩ := X8.leave (v := some (.int (1 : Int32))) (fun h => by rw [Bd.returns] at h; cases h)
  refine ⟨_, _, pre0 _ ?_, hrun, hended, _, _, rfl, ?_, ⟨_, rfl⟩, hW, hsame.mono (by decide) (by decide)⟩
  -- 4. STEPS
  · show Steps p.tables e below (s₁.setTop (mkF m 0 #[.val (.int p1), .val (.int p2), .val (.int p3), .val (.int p4), .unset, .unset, .unset, .unset, .unset, .unset, .unset, .unset, .unset, .unset, .unset, .unset, .unset, .unset, .unset, .unset, .unset] [])) _
    refine XS.iloadN X0.here hx rfl (hb hby at_0) rfl ?_
    show Steps p.tables e below (s₁.setTop (mkF m 1 #[.val (.int p1), .val (.int p2), .val (.int p3), .val (.int p4), .unset, .unset, .unset, .unset, .unset, .unset, .unset, .unset, .unset, .unset, .unset, .unset, .unset, .unset, .unset, .unset, .unset] [(.int p4)])) _
    refine XS.iconst X0.here hx rfl (hb hby at_1) ?_
    show Steps p.tables e below (s₁.setTop (mkF m 2 #[.val (.int p1), .val (.int p2), .val (.int p3), .val (.int p4), .unset, .unset, .unset, .unset, .unset, .unset, .unset, .unset, .unset, .unset, .unset, .unset, .unset, .unset, .unset, .unset, .unset] [(.int (3 : Int32)), (.int p4)])) _
    refine XS.iand X0.here hx rfl (hb hby at_2) rfl ?_
    show Steps p.tables e below (s₁.setTop (mkF m 3 #[.val (.int p1), .val (.int p2), .val (.int p3), .val (.int p4), .unset, .unset, .unset, .unset, .unset, .unset, .unset, .unset, .unset, .unset, .unset, .unset, .unset, .unset, .unset, .unset, .unset] [(.int (p4 &&& (3 : Int32)))])) _
    refine XS.istore X0.here hx rfl (hb hby at_3) rfl (l' := #[.val (.int p1), .val (.int p2), .val (.int p3), .val (.int p4), .val (.int (p4 &&& (3 : Int32))), .unset, .unset, .unset, .unset, .unset, .unset, .unset, .unset, .unset, .unset, .unset, .unset, .unset, .unset, .unset, .unset]) rfl ?_
    show Steps p.tables e below (s₁.setTop (mkF m 5 #[.val (.int p1), .val (.int p2), .val (.int p3), .val (.int p4), .val (.int (p4 &&& (3 : Int32))), .unset, .unset, .unset, .unset, .unset, .unset, .unset, .unset, .unset, .unset, .unset, .unset, .unset, .unset, .unset, .unset] [])) _
    refine XS.iloadN X0.here hx rfl (hb hby at_5) rfl ?_
    show Steps p.tables e below (s₁.setTop (mkF m 6 #[.val (.int p1), .val (.int p2), .val (.int p3), .val (.int p4), .val (.int (p4 &&& (3 : Int32))), .unset, .unset, .unset, .unset, .unset, .unset, .unset, .unset, .unset, .unset, .unset, .unset, .unset, .unset, .unset, .unset] [(.int p4)])) _
    refine XS.iconst X0.here hx rfl (hb hby at_6) ?_
    show Steps p.tables e below (s₁.setTop (mkF m 7 #[.val (.int p1), .val (.int p2), .val (.int p3), .val (.int p4), .val (.int (p4 &&& (3 : Int32))), .unset, .unset, .unset, .unset, .unset, .unset, .unset, .unset, .unset, .unset, .unset, .unset, .unset, .unset, .unset, .unset] [(.int (2 : Int32)), (.int p4)])) _
    refine XS.iushr X0.here hx rfl (hb hby at_7) rfl ?_
    show Steps p.tables e below (s₁.setTop (mkF m 8 #[.val (.int p1), .val (.int p2), .val (.int p3), .val (.int p4), .val (.int (p4 &&& (3 : Int32))), .unset, .unset, .unset, .unset, .unset, .unset, .unset, .unset, .unset, .unset, .unset, .unset, .unset, .unset, .unset, .unset] [(.int ((p4.toUInt32 >>> ((2 : Int32) &&& 31).toUInt32).toInt32))])) _
    refine XS.sipush X0.here hx rfl (hb hby at_8) ?_
    show Steps p.tables e below (s₁.setTop (mkF m 11 #[.val (.int p1), .val (.int p2), .val (.int p3), .val (.int p4), .val (.int (p4 &&& (3 : Int32))), .unset, .unset, .unset, .unset, .unset, .unset, .unset, .unset, .unset, .unset, .unset, .unset, .unset, .unset, .unset, .unset] [(.int (255 : Int32)), (.int ((p4.toUInt32 >>> ((2 : Int32) &&& 31).toUInt32).toInt32))])) _
    refine XS.iand X0.here hx rfl (hb hby at_11) rfl ?_
    show Steps p.tables e below (s₁.setTop (mkF m 12 #[.val (.int p1), .val (.int p2), .val (.int p3), .val (.int p4), .val (.int (p4 &&& (3 : Int32))), .unset, .unset, .unset, .unset, .unset, .unset, .unset, .unset, .unset, .unset, .unset, .unset, .unset, .unset, .unset, .unset] [(.int (((p4.toUInt32 >>> ((2 : Int32) &&& 31).toUInt32).toInt32) &&& (255 : Int32)))])) _
    refine XS.i2c X0.here hx rfl (hb hby at_12) rfl ?_
    show Steps p.tables e below (s₁.setTop (mkF m 13 #[.val (.int p1), .val (.int p2), .val (.int p3), .val (.int p4), .val (.int (p4 &&& (3 : Int32))), .unset, .unset, .unset, .unset, .unset, .unset, .unset, .unset, .unset, .unset, .unset, .unset, .unset, .unset, .unset, .unset] [(.int ((((p4.toUInt32 >>> ((2 : Int32) &&& 31).toUInt32).toInt32) &&& (255 : Int32)).toUInt32.toUInt16.toUInt32.toInt32))])) _
    refine st5 _ ?_
    show Steps p.tables e below (T5.setTop (mkF m 16 #[.val (.int p1), .val (.int p2), .val (.int p3), .val (.int p4), .val (.int (p4 &&& (3 : Int32))), .unset, .unset, .unset, .unset, .unset, .unset, .unset, .unset, .unset, .unset, .unset, .unset, .unset, .unset, .unset, .unset] [(.ref aS)])) _
    refine XS.astore X5.here hx rfl (hb hby at_16) rfl rfl (l' := #[.val (.int p1), .val (.int p2), .val (.int p3), .val (.int p4), .val (.int (p4 &&& (3 : Int32))), .val (.ref aS), .unset, .unset, .unset, .unset, .unset, .unset, .unset, .unset, .unset, .unset, .unset, .unset, .unset, .unset, .unset]) rfl ?_
    show Steps p.tables e below (T5.setTop (mkF m 18 #[.val (.int p1), .val (.int p2), .val (.int p3), .val (.int p4), .val (.int (p4 &&& (3 : Int32))), .val (.ref aS), .unset, .unset, .unset, .unset, .unset, .unset, .unset, .unset, .unset, .unset, .unset, .unset, .unset, .unset, .unset] [])) _
    refine XS.iloadN X5.here hx rfl (hb hby at_18) rfl ?_
    show Steps p.tables e below (T5.setTop (mkF m 19 #[.val (.int p1), .val (.int p2), .val (.int p3), .val (.int p4), .val (.int (p4 &&& (3 : Int32))), .val (.ref aS), .unset, .unset, .unset, .unset, .unset, .unset, .unset, .unset, .unset, .unset, .unset, .unset, .unset, .unset, .unset] [(.int p2)])) _
    refine XS.i2dS X5.here hx rfl (hb hby at_19) rfl rfl ?_
    show Steps p.tables e below (T5.setTop (mkF m 20 #[.val (.int p1), .val (.int p2), .val (.int p3), .val (.int p4), .val (.int (p4 &&& (3 : Int32))), .val (.ref aS), .unset, .unset, .unset, .unset, .unset, .unset, .unset, .unset, .unset, .unset, .unset, .unset, .unset, .unset, .unset] [(.double (FP.i2d p2))])) _
    refine XS.dstore X5.here hx rfl (hb hby at_20) rfl (l' := #[.val (.int p1), .val (.int p2), .val (.int p3), .val (.int p4), .val (.int (p4 &&& (3 : Int32))), .val (.ref aS), .val (.double (FP.i2d p2)), .second, .unset, .unset, .unset, .unset, .unset, .unset, .unset, .unset, .unset, .unset, .unset, .unset, .unset]) rfl ?_
    show Steps p.tables e below (T5.setTop (mkF m 22 #[.val (.int p1), .val (.int p2), .val (.int p3), .val (.int p4), .val (.int (p4 &&& (3 : Int32))), .val (.ref aS), .val (.double (FP.i2d p2)), .second, .unset, .unset, .unset, .unset, .unset, .unset, .unset, .unset, .unset, .unset, .unset, .unset, .unset] [])) _
    refine XS.iload X5.here hx rfl (hb hby at_22) rfl ?_
    show Steps p.tables e below (T5.setTop (mkF m 24 #[.val (.int p1), .val (.int p2), .val (.int p3), .val (.int p4), .val (.int (p4 &&& (3 : Int32))), .val (.ref aS), .val (.double (FP.i2d p2)), .second, .unset, .unset, .unset, .unset, .unset, .unset, .unset, .unset, .unset, .unset, .unset, .unset, .unset] [(.int (p4 &&& (3 : Int32)))])) _
    refine XS.ifYes X5.here hx rfl (pc0 := 24) (pc' := 70) rfl (hb hby at_24) rfl ((if0 _ _).trans (feq hc24).2) (by decide) (by decide) ?_
    show Steps p.tables e below (T5.setTop (mkF m 70 #[.val (.int p1), .val (.int p2), .val (.int p3), .val (.int p4), .val (.int (p4 &&& (3 : Int32))), .val (.ref aS), .val (.double (FP.i2d p2)), .second, .unset, .unset, .unset, .unset, .unset, .unset, .unset, .unset, .unset, .unset, .unset, .unset, .unset] [])) _
    refine XS.iload X5.here hx rfl (hb hby at_70) rfl ?_
    show Steps p.tables e below (T5.setTop (mkF m 72 #[.val (.int p1), .val (.int p2), .val (.int p3), .val (.int p4), .val (.int (p4 &&& (3 : Int32))), .val (.ref aS), .val (.double (FP.i2d p2)), .second, .unset, .unset, .unset, .unset, .unset, .unset, .unset, .unset, .unset, .unset, .unset, .unset, .unset] [(.int (p4 &&& (3 : Int32)))])) _
    refine XS.iconst X5.here hx rfl (hb hby at_72) ?_
    show Steps p.tables e below (T5.setTop (mkF m 73 #[.val (.int p1), .val (.int p2), .val (.int p3), .val (.int p4), .val (.int (p4 &&& (3 : Int32))), .val (.ref aS), .val (.double (FP.i2d p2)), .second, .unset, .unset, .unset, .unset, .unset, .unset, .unset, .unset, .unset, .unset, .unset, .unset, .unset] [(.int (1 : Int32)), (.int (p4 &&& (3 : Int32)))])) _
    refine XS.icmpNo X5.here hx rfl (hb hby at_73) rfl (teq hc73).2 ?_
    show Steps p.tables e below (T5.setTop (mkF m 76 #[.val (.int p1), .val (.int p2), .val (.int p3), .val (.int p4), .val (.int (p4 &&& (3 : Int32))), .val (.ref aS), .val (.double (FP.i2d p2)), .second, .unset, .unset, .unset, .unset, .unset, .unset, .unset, .unset, .unset, .unset, .unset, .unset, .unset] [])) _
    refine XS.lconst X5.here hx rfl (hb hby at_76) ?_
    show Steps p.tables e below (T5.setTop (mkF m 77 #[.val (.int p1), .val (.int p2), .val (.int p3), .val (.int p4), .val (.int (p4 &&& (3 : Int32))), .val (.ref aS), .val (.double (FP.i2d p2)), .second, .unset, .unset, .unset, .unset, .unset, .unset, .unset, .unset, .unset, .unset, .unset, .unset, .unset] [(.long (1 : Int64))])) _
    refine XS.iloadN X5.here hx rfl (hb hby at_77) rfl ?_
    show Steps p.tables e below (T5.setTop (mkF m 78 #[.val (.int p1), .val (.int p2), .val (.int p3), .val (.int p4), .val (.int (p4 &&& (3 : Int32))), .val (.ref aS), .val (.double (FP.i2d p2)), .second, .unset, .unset, .unset, .unset, .unset, .unset, .unset, .unset, .unset, .unset, .unset, .unset, .unset] [(.int p3), (.long (1 : Int64))])) _
    refine XS.bipush X5.here hx rfl (hb hby at_78) ?_
    show Steps p.tables e below (T5.setTop (mkF m 80 #[.val (.int p1), .val (.int p2), .val (.int p3), .val (.int p4), .val (.int (p4 &&& (3 : Int32))), .val (.ref aS), .val (.double (FP.i2d p2)), .second, .unset, .unset, .unset, .unset, .unset, .unset, .unset, .unset, .unset, .unset, .unset, .unset, .unset] [(.int (31 : Int32)), (.int p3), (.long (1 : Int64))])) _
    refine XS.iand X5.here hx rfl (hb hby at_80) rfl ?_
    show Steps p.tables e below (T5.setTop (mkF m 81 #[.val (.int p1), .val (.int p2), .val (.int p3), .val (.int p4), .val (.int (p4 &&& (3 : Int32))), .val (.ref aS), .val (.double (FP.i2d p2)), .second, .unset, .unset, .unset, .unset, .unset, .unset, .unset, .unset, .unset, .unset, .unset, .unset, .unset] [(.int (p3 &&& (31 : Int32))), (.long (1 : Int64))])) _
    refine XS.lshl X5.here hx rfl (hb hby at_81) rfl ?_
    show Steps p.tables e below (T5.setTop (mkF m 82 #[.val (.int p1), .val (.int p2), .val (.int p3), .val (.int p4), .val (.int (p4 &&& (3 : Int32))), .val (.ref aS), .val (.double (FP.i2d p2)), .second, .unset, .unset, .unset, .unset, .unset, .unset, .unset, .unset, .unset, .unset, .unset, .unset, .unset] [(.long ((1 : Int64) <<< ((p3 &&& (31 : Int32)) &&& 0x3f).toInt64))])) _
    refine XS.lstore X5.here hx rfl (hb hby at_82) rfl (l' := #[.val (.int p1), .val (.int p2), .val (.int p3), .val (.int p4), .val (.int (p4 &&& (3 : Int32))), .val (.ref aS), .val (.double (FP.i2d p2)), .second, .val (.long ((1 : Int64) <<< ((p3 &&& (31 : Int32)) &&& 0x3f).toInt64)), .second, .unset, .unset, .unset, .unset, .unset, .unset, .unset, .unset, .unset, .unset, .unset]) rfl ?_
    show Steps p.tables e below (T5.setTop (mkF m 84 #[.val (.int p1), .val (.int p2), .val (.int p3), .val (.int p4), .val (.int (p4 &&& (3 : Int32))), .val (.ref aS), .val (.double (FP.i2d p2)), .second, .val (.long ((1 : Int64) <<< ((p3 &&& (31 : Int32)) &&& 0x3f).toInt64)), .second, .unset, .unset, .unset, .unset, .unset, .unset, .unset, .unset, .unset, .unset, .unset] [])) _
    refine st6 _ ?_
    show Steps p.tables e below (T6.setTop (mkF m 87 #[.val (.int p1), .val (.int p2), .val (.int p3), .val (.int p4), .val (.int (p4 &&& (3 : Int32))), .val (.ref aS), .val (.double (FP.i2d p2)), .second, .val (.long ((1 : Int64) <<< ((p3 &&& (31 : Int32)) &&& 0x3f).toInt64)), .second, .unset, .unset, .unset, .unset, .unset, .unset, .unset, .unset, .unset, .unset, .unset] [(.ref b6)])) _
    refine XS.dup X6.here hx rfl (hb hby at_87) rfl rfl ?_
    show Steps p.tables e below (T6.setTop (mkF m 88 #[.val (.int p1), .val (.int p2), .val (.int p3), .val (.int p4), .val (.int (p4 &&& (3 : Int32))), .val (.ref aS), .val (.double (FP.i2d p2)), .second, .val (.long ((1 : Int64) <<< ((p3 &&& (31 : Int32)) &&& 0x3f).toInt64)), .second, .unset, .unset, .unset, .unset, .unset, .unset, .unset, .unset, .unset, .unset, .unset] [(.ref b6), (.ref b6)])) _
    refine XS.aload X6.here hx rfl (hb hby at_88) rfl rfl ?_
    show Steps p.tables e below (T6.setTop (mkF m 90 #[.val (.int p1), .val (.int p2), .val (.int p3), .val (.int p4), .val (.int (p4 &&& (3 : Int32))), .val (.ref aS), .val (.double (FP.i2d p2)), .second, .val (.long ((1 : Int64) <<< ((p3 &&& (31 : Int32)) &&& 0x3f).toInt64)), .second, .unset, .unset, .unset, .unset, .unset, .unset, .unset, .unset, .unset, .unset, .unset] [(.ref aS), (.ref b6), (.ref b6)])) _
    refine XS.dload X6.here hx rfl (hb hby at_90) rfl ?_
    show Steps p.tables e below (T6.setTop (mkF m 92 #[.val (.int p1), .val (.int p2), .val (.int p3), .val (.int p4), .val (.int (p4 &&& (3 : Int32))), .val (.ref aS), .val (.double (FP.i2d p2)), .second, .val (.long ((1 : Int64) <<< ((p3 &&& (31 : Int32)) &&& 0x3f).toInt64)), .second, .unset, .unset, .unset, .unset, .unset, .unset, .unset, .unset, .unset, .unset, .unset] [(.double (FP.i2d p2)), (.ref aS), (.ref b6), (.ref b6)])) _
    refine XS.lload X6.here hx rfl (hb hby at_92) rfl ?_
    show Steps p.tables e below (T6.setTop (mkF m 94 #[.val (.int p1), .val (.int p2), .val (.int p3), .val (.int p4), .val (.int (p4 &&& (3 : Int32))), .val (.ref aS), .val (.double (FP.i2d p2)), .second, .val (.long ((1 : Int64) <<< ((p3 &&& (31 : Int32)) &&& 0x3f).toInt64)), .second, .unset, .unset, .unset, .unset, .unset, .unset, .unset, .unset, .unset, .unset, .unset] [(.long ((1 : Int64) <<< ((p3 &&& (31 : Int32)) &&& 0x3f).toInt64)), (.double (FP.i2d p2)), (.ref aS), (.ref b6), (.ref b6)])) _
    refine XS.l2dS X6.here hx rfl (hb hby at_94) rfl rfl ?_
    show Steps p.tables e below (T6.setTop (mkF m 95 #[.val (.int p1), .val (.int p2), .val (.int p3), .val (.int p4), .val (.int (p4 &&& (3 : Int32))), .val (.ref aS), .val (.double (FP.i2d p2)), .second, .val (.long ((1 : Int64) <<< ((p3 &&& (31 : Int32)) &&& 0x3f).toInt64)), .second, .unset, .unset, .unset, .unset, .unset, .unset, .unset, .unset, .unset, .unset, .unset] [(.double (FP.l2d ((1 : Int64) <<< ((p3 &&& (31 : Int32)) &&& 0x3f).toInt64))), (.double (FP.i2d p2)), (.ref aS), (.ref b6), (.ref b6)])) _
    refine st7.trans ?_
    show Steps p.tables e below (T7.setTop (mkF m 98 #[.val (.int p1), .val (.int p2), .val (.int p3), .val (.int p4), .val (.int (p4 &&& (3 : Int32))), .val (.ref aS), .val (.double (FP.i2d p2)), .second, .val (.long ((1 : Int64) <<< ((p3 &&& (31 : Int32)) &&& 0x3f).toInt64)), .second, .unset, .unset, .unset, .unset, .unset, .unset, .unset, .unset, .unset, .unset, .unset] [(.ref b6)])) _
    refine XS.astore X7.here hx rfl (hb hby at_98) rfl rfl (l' := #[.val (.int p1), .val (.int p2), .val (.int p3), .val (.int p4), .val (.int (p4 &&& (3 : Int32))), .val (.ref aS), .val (.double (FP.i2d p2)), .second, .val (.long ((1 : Int64) <<< ((p3 &&& (31 : Int32)) &&& 0x3f).toInt64)), .second, .val (.ref b6), .unset, .unset, .unset, .unset, .unset, .unset, .unset, .unset, .unset, .unset]) rfl ?_
    show Steps p.tables e below (T7.setTop (mkF m 100 #[.val (.int p1), .val (.int p2), .val (.int p3), .val (.int p4), .val (.int (p4 &&& (3 : Int32))), .val (.ref aS), .val (.double (FP.i2d p2)), .second, .val (.long ((1 : Int64) <<< ((p3 &&& (31 : Int32)) &&& 0x3f).toInt64)), .second, .val (.ref b6), .unset, .unset, .unset, .unset, .unset, .unset, .unset, .unset, .unset, .unset] [])) _
    refine XS.aload X7.here hx rfl (hb hby at_100) rfl rfl ?_
    show Steps p.tables e below (T7.setTop (mkF m 102 #[.val (.int p1), .val (.int p2), .val (.int p3), .val (.int p4), .val (.int (p4 &&& (3 : Int32))), .val (.ref aS), .val (.double (FP.i2d p2)), .second, .val (.long ((1 : Int64) <<< ((p3 &&& (31 : Int32)) &&& 0x3f).toInt64)), .second, .val (.ref b6), .unset, .unset, .unset, .unset, .unset, .unset, .unset, .unset, .unset, .unset] [(.ref b6)])) _
    refine st8.trans ?_
    show Steps p.tables e below (T8.setTop (mkF m 105 #[.val (.int p1), .val (.int p2), .val (.int p3), .val (.int p4), .val (.int (p4 &&& (3 : Int32))), .val (.ref aS), .val (.double (FP.i2d p2)), .second, .val (.long ((1 : Int64) <<< ((p3 &&& (31 : Int32)) &&& 0x3f).toInt64)), .second, .val (.ref b6), .unset, .unset, .unset, .unset, .unset, .unset, .unset, .unset, .unset, .unset] [(.double (own_drop (FP.i2d p2) (FP.l2d ((1 : Int64) <<< ((p3 &&& (31 : Int32)) &&& 0x3f).toInt64))))])) _
    refine XS.dstore X8.here hx rfl (hb hby at_105) rfl (l' := #[.val (.int p1), .val (.int p2), .val (.int p3), .val (.int p4), .val (.int (p4 &&& (3 : Int32))), .val (.ref aS), .val (.double (FP.i2d p2)), .second, .val (.long ((1 : Int64) <<< ((p3 &&& (31 : Int32)) &&& 0x3f).toInt64)), .second, .val (.ref b6), .val (.double (own_drop (FP.i2d p2) (FP.l2d ((1 : Int64) <<< ((p3 &&& (31 : Int32)) &&& 0x3f).toInt64)))), .second, .unset, .unset, .unset, .unset, .unset, .unset, .unset, .unset]) rfl ?_
    show Steps p.tables e below (T8.setTop (mkF m 107 #[.val (.int p1), .val (.int p2), .val (.int p3), .val (.int p4), .val (.int (p4 &&& (3 : Int32))), .val (.ref aS), .val (.double (FP.i2d p2)), .second, .val (.long ((1 : Int64) <<< ((p3 &&& (31 : Int32)) &&& 0x3f).toInt64)), .second, .val (.ref b6), .val (.double (own_drop (FP.i2d p2) (FP.l2d ((1 : Int64) <<< ((p3 &&& (31 : Int32)) &&& 0x3f).toInt64)))), .second, .unset, .unset, .unset, .unset, .unset, .unset, .unset, .unset] [])) _
    refine X8.ldc2Long hx hown (mvT hZ (hw _ (List.mem_of_getElem? (i := 50) rfl))) (g := (mkF m 107 #[.val (.int p1), .val (.int p2), .val (.int p3), .val (.int p4), .val (.int (p4 &&& (3 : Int32))), .val (.ref aS), .val (.double (FP.i2d p2)), .second, .val (.long ((1 : Int64) <<< ((p3 &&& (31 : Int32)) &&& 0x3f).toInt64)), .second, .val (.ref b6), .val (.double (own_drop (FP.i2d p2) (FP.l2d ((1 : Int64) <<< ((p3 &&& (31 : Int32)) &&& 0x3f).toInt64)))), .second, .unset, .unset, .unset, .unset, .unset, .unset, .unset, .unset] [])) rfl (hb hby at_107) _ ?_
    show Steps p.tables e below (T8.setTop (mkF m 110 #[.val (.int p1), .val (.int p2), .val (.int p3), .val (.int p4), .val (.int (p4 &&& (3 : Int32))), .val (.ref aS), .val (.double (FP.i2d p2)), .second, .val (.long ((1 : Int64) <<< ((p3 &&& (31 : Int32)) &&& 0x3f).toInt64)), .second, .val (.ref b6), .val (.double (own_drop (FP.i2d p2) (FP.l2d ((1 : Int64) <<< ((p3 &&& (31 : Int32)) &&& 0x3f).toInt64)))), .second, .unset, .unset, .unset, .unset, .unset, .unset, .unset, .unset] [(.long (100 : Int64))])) _
    refine XS.lload X8.here hx rfl (hb hby at_110) rfl ?_
    show Steps p.tables e below (T8.setTop (mkF m 112 #[.val (.int p1), .val (.int p2), .val (.int p3), .val (.int p4), .val (.int (p4 &&& (3 : Int32))), .val (.ref aS), .val (.double (FP.i2d p2)), .second, .val (.long ((1 : Int64) <<< ((p3 &&& (31 : Int32)) &&& 0x3f).toInt64)), .second, .val (.ref b6), .val (.double (own_drop (FP.i2d p2) (FP.l2d ((1 : Int64) <<< ((p3 &&& (31 : Int32)) &&& 0x3f).toInt64)))), .second, .unset, .unset, .unset, .unset, .unset, .unset, .unset, .unset] [(.long ((1 : Int64) <<< ((p3 &&& (31 : Int32)) &&& 0x3f).toInt64)), (.long (100 : Int64))])) _
    refine XS.iloadN X8.here hx rfl (hb hby at_112) rfl ?_
    show Steps p.tables e below (T8.setTop (mkF m 113 #[.val (.int p1), .val (.int p2), .val (.int p3), .val (.int p4), .val (.int (p4 &&& (3 : Int32))), .val (.ref aS), .val (.double (FP.i2d p2)), .second, .val (.long ((1 : Int64) <<< ((p3 &&& (31 : Int32)) &&& 0x3f).toInt64)), .second, .val (.ref b6), .val (.double (own_drop (FP.i2d p2) (FP.l2d ((1 : Int64) <<< ((p3 &&& (31 : Int32)) &&& 0x3f).toInt64)))), .second, .unset, .unset, .unset, .unset, .unset, .unset, .unset, .unset] [(.int p2), (.long ((1 : Int64) <<< ((p3 &&& (31 : Int32)) &&& 0x3f).toInt64)), (.long (100 : Int64))])) _
    refine XS.i2l X8.here hx rfl (hb hby at_113) rfl ?_
    show Steps p.tables e below (T8.setTop (mkF m 114 #[.val (.int p1), .val (.int p2), .val (.int p3), .val (.int p4), .val (.int (p4 &&& (3 : Int32))), .val (.ref aS), .val (.double (FP.i2d p2)), .second, .val (.long ((1 : Int64) <<< ((p3 &&& (31 : Int32)) &&& 0x3f).toInt64)), .second, .val (.ref b6), .val (.double (own_drop (FP.i2d p2) (FP.l2d ((1 : Int64) <<< ((p3 &&& (31 : Int32)) &&& 0x3f).toInt64)))), .second, .unset, .unset, .unset, .unset, .unset, .unset, .unset, .unset] [(.long (p2.toInt64)), (.long ((1 : Int64) <<< ((p3 &&& (31 : Int32)) &&& 0x3f).toInt64)), (.long (100 : Int64))])) _
    refine XS.lsub X8.here hx rfl (hb hby at_114) rfl ?_
    show Steps p.tables e below (T8.setTop (mkF m 115 #[.val (.int p1), .val (.int p2), .val (.int p3), .val (.int p4), .val (.int (p4 &&& (3 : Int32))), .val (.ref aS), .val (.double (FP.i2d p2)), .second, .val (.long ((1 : Int64) <<< ((p3 &&& (31 : Int32)) &&& 0x3f).toInt64)), .second, .val (.ref b6), .val (.double (own_drop (FP.i2d p2) (FP.l2d ((1 : Int64) <<< ((p3 &&& (31 : Int32)) &&& 0x3f).toInt64)))), .second, .unset, .unset, .unset, .unset, .unset, .unset, .unset, .unset] [(.long (((1 : Int64) <<< ((p3 &&& (31 : Int32)) &&& 0x3f).toInt64) - (p2.toInt64))), (.long (100 : Int64))])) _
    refine XS.lmul X8.here hx rfl (hb hby at_115) rfl ?_
    show Steps p.tables e below (T8.setTop (mkF m 116 #[.val (.int p1), .val (.int p2), .val (.int p3), .val (.int p4), .val (.int (p4 &&& (3 : Int32))), .val (.ref aS), .val (.double (FP.i2d p2)), .second, .val (.long ((1 : Int64) <<< ((p3 &&& (31 : Int32)) &&& 0x3f).toInt64)), .second, .val (.ref b6), .val (.double (own_drop (FP.i2d p2) (FP.l2d ((1 : Int64) <<< ((p3 &&& (31 : Int32)) &&& 0x3f).toInt64)))), .second, .unset, .unset, .unset, .unset, .unset, .unset, .unset, .unset] [(.long ((100 : Int64) * (((1 : Int64) <<< ((p3 &&& (31 : Int32)) &&& 0x3f).toInt64) - (p2.toInt64))))])) _
    refine XS.lstore X8.here hx rfl (hb hby at_116) rfl (l' := #[.val (.int p1), .val (.int p2), .val (.int p3), .val (.int p4), .val (.int (p4 &&& (3 : Int32))), .val (.ref aS), .val (.double (FP.i2d p2)), .second, .val (.long ((1 : Int64) <<< ((p3 &&& (31 : Int32)) &&& 0x3f).toInt64)), .second, .val (.ref b6), .val (.double (own_drop (FP.i2d p2) (FP.l2d ((1 : Int64) <<< ((p3 &&& (31 : Int32)) &&& 0x3f).toInt64)))), .second, .val (.long ((100 : Int64) * (((1 : Int64) <<< ((p3 &&& (31 : Int32)) &&& 0x3f).toInt64) - (p2.toInt64)))), .second, .unset, .unset, .unset, .unset, .unset, .unset]) rfl ?_
    show Steps p.tables e below (T8.setTop (mkF m 118 #[.val (.int p1), .val (.int p2), .val (.int p3), .val (.int p4), .val (.int (p4 &&& (3 : Int32))), .val (.ref aS), .val (.double (FP.i2d p2)), .second, .val (.long ((1 : Int64) <<< ((p3 &&& (31 : Int32)) &&& 0x3f).toInt64)), .second, .val (.ref b6), .val (.double (own_drop (FP.i2d p2) (FP.l2d ((1 : Int64) <<< ((p3 &&& (31 : Int32)) &&& 0x3f).toInt64)))), .second, .val (.long ((100 : Int64) * (((1 : Int64) <<< ((p3 &&& (31 : Int32)) &&& 0x3f).toInt64) - (p2.toInt64)))), .second, .unset, .unset, .unset, .unset, .unset, .unset] [])) _
    refine XS.dload X8.here hx rfl (hb hby at_118) rfl ?_
    show Steps p.tables e below (T8.setTop (mkF m 120 #[.val (.int p1), .val (.int p2), .val (.int p3), .val (.int p4), .val (.int (p4 &&& (3 : Int32))), .val (.ref aS), .val (.double (FP.i2d p2)), .second, .val (.long ((1 : Int64) <<< ((p3 &&& (31 : Int32)) &&& 0x3f).toInt64)), .second, .val (.ref b6), .val (.double (own_drop (FP.i2d p2) (FP.l2d ((1 : Int64) <<< ((p3 &&& (31 : Int32)) &&& 0x3f).toInt64)))), .second, .val (.long ((100 : Int64) * (((1 : Int64) <<< ((p3 &&& (31 : Int32)) &&& 0x3f).toInt64) - (p2.toInt64)))), .second, .unset, .unset, .unset, .unset, .unset, .unset] [(.double (own_drop (FP.i2d p2) (FP.l2d ((1 : Int64) <<< ((p3 &&& (31 : Int32)) &&& 0x3f).toInt64))))])) _
    refine XS.lload X8.here hx rfl (hb hby at_120) rfl ?_
    show Steps p.tables e below (T8.setTop (mkF m 122 #[.val (.int p1), .val (.int p2), .val (.int p3), .val (.int p4), .val (.int (p4 &&& (3 : Int32))), .val (.ref aS), .val (.double (FP.i2d p2)), .second, .val (.long ((1 : Int64) <<< ((p3 &&& (31 : Int32)) &&& 0x3f).toInt64)), .second, .val (.ref b6), .val (.double (own_drop (FP.i2d p2) (FP.l2d ((1 : Int64) <<< ((p3 &&& (31 : Int32)) &&& 0x3f).toInt64)))), .second, .val (.long ((100 : Int64) * (((1 : Int64) <<< ((p3 &&& (31 : Int32)) &&& 0x3f).toInt64) - (p2.toInt64)))), .second, .unset, .unset, .unset, .unset, .unset, .unset] [(.long ((1 : Int64) <<< ((p3 &&& (31 : Int32)) &&& 0x3f).toInt64)), (.double (own_drop (FP.i2d p2) (FP.l2d ((1 : Int64) <<< ((p3 &&& (31 : Int32)) &&& 0x3f).toInt64))))])) _
    refine XS.l2dS X8.here hx rfl (hb hby at_122) rfl rfl ?_
    show Steps p.tables e below (T8.setTop (mkF m 123 #[.val (.int p1), .val (.int p2), .val (.int p3), .val (.int p4), .val (.int (p4 &&& (3 : Int32))), .val (.ref aS), .val (.double (FP.i2d p2)), .second, .val (.long ((1 : Int64) <<< ((p3 &&& (31 : Int32)) &&& 0x3f).toInt64)), .second, .val (.ref b6), .val (.double (own_drop (FP.i2d p2) (FP.l2d ((1 : Int64) <<< ((p3 &&& (31 : Int32)) &&& 0x3f).toInt64)))), .second, .val (.long ((100 : Int64) * (((1 : Int64) <<< ((p3 &&& (31 : Int32)) &&& 0x3f).toInt64) - (p2.toInt64)))), .second, .unset, .unset, .unset, .unset, .unset, .unset] [(.double (FP.l2d ((1 : Int64) <<< ((p3 &&& (31 : Int32)) &&& 0x3f).toInt64))), (.double (own_drop (FP.i2d p2) (FP.l2d ((1 : Int64) <<< ((p3 &&& (31 : Int32)) &&& 0x3f).toInt64))))])) _
    refine XS.dmulS X8.here hx rfl (hb hby at_123) rfl (own_k1 p3 p2 rfl).1 rfl ?_
    show Steps p.tables e below (T8.setTop (mkF m 124 #[.val (.int p1), .val (.int p2), .val (.int p3), .val (.int p4), .val (.int (p4 &&& (3 : Int32))), .val (.ref aS), .val (.double (FP.i2d p2)), .second, .val (.long ((1 : Int64) <<< ((p3 &&& (31 : Int32)) &&& 0x3f).toInt64)), .second, .val (.ref b6), .val (.double (own_drop (FP.i2d p2) (FP.l2d ((1 : Int64) <<< ((p3 &&& (31 : Int32)) &&& 0x3f).toInt64)))), .second, .val (.long ((100 : Int64) * (((1 : Int64) <<< ((p3 &&& (31 : Int32)) &&& 0x3f).toInt64) - (p2.toInt64)))), .second, .unset, .unset, .unset, .unset, .unset, .unset] [(.double (FP.dmul (own_drop (FP.i2d p2) (FP.l2d ((1 : Int64) <<< ((p3 &&& (31 : Int32)) &&& 0x3f).toInt64))) (FP.l2d ((1 : Int64) <<< ((p3 &&& (31 : Int32)) &&& 0x3f).toInt64))))])) _
    refine XS.lload X8.here hx rfl (hb hby at_124) rfl ?_
    show Steps p.tables e below (T8.setTop (mkF m 126 #[.val (.int p1), .val (.int p2), .val (.int p3), .val (.int p4), .val (.int (p4 &&& (3 : Int32))), .val (.ref aS), .val (.double (FP.i2d p2)), .second, .val (.long ((1 : Int64) <<< ((p3 &&& (31 : Int32)) &&& 0x3f).toInt64)), .second, .val (.ref b6), .val (.double (own_drop (FP.i2d p2) (FP.l2d ((1 : Int64) <<< ((p3 &&& (31 : Int32)) &&& 0x3f).toInt64)))), .second, .val (.long ((100 : Int64) * (((1 : Int64) <<< ((p3 &&& (31 : Int32)) &&& 0x3f).toInt64) - (p2.toInt64)))), .second, .unset, .unset, .unset, .unset, .unset, .unset] [(.long ((100 : Int64) * (((1 : Int64) <<< ((p3 &&& (31 : Int32)) &&& 0x3f).toInt64) - (p2.toInt64)))), (.double (FP.dmul (own_drop (FP.i2d p2) (FP.l2d ((1 : Int64) <<< ((p3 &&& (31 : Int32)) &&& 0x3f).toInt64))) (FP.l2d ((1 : Int64) <<< ((p3 &&& (31 : Int32)) &&& 0x3f).toInt64))))])) _
    refine XS.l2dS X8.here hx rfl (hb hby at_126) rfl rfl ?_
    show Steps p.tables e below (T8.setTop (mkF m 127 #[.val (.int p1), .val (.int p2), .val (.int p3), .val (.int p4), .val (.int (p4 &&& (3 : Int32))), .val (.ref aS), .val (.double (FP.i2d p2)), .second, .val (.long ((1 : Int64) <<< ((p3 &&& (31 : Int32)) &&& 0x3f).toInt64)), .second, .val (.ref b6), .val (.double (own_drop (FP.i2d p2) (FP.l2d ((1 : Int64) <<< ((p3 &&& (31 : Int32)) &&& 0x3f).toInt64)))), .second, .val (.long ((100 : Int64) * (((1 : Int64) <<< ((p3 &&& (31 : Int32)) &&& 0x3f).toInt64) - (p2.toInt64)))), .second, .unset, .unset, .unset, .unset, .unset, .unset] [(.double (FP.l2d ((100 : Int64) * (((1 : Int64) <<< ((p3 &&& (31 : Int32)) &&& 0x3f).toInt64) - (p2.toInt64))))), (.double (FP.dmul (own_drop (FP.i2d p2) (FP.l2d ((1 : Int64) <<< ((p3 &&& (31 : Int32)) &&& 0x3f).toInt64))) (FP.l2d ((1 : Int64) <<< ((p3 &&& (31 : Int32)) &&& 0x3f).toInt64))))])) _
    refine XS.dcmpS X8.here hx rfl (hb hby at_127) rfl rfl ?_
    show Steps p.tables e below (T8.setTop (mkF m 128 #[.val (.int p1), .val (.int p2), .val (.int p3), .val (.int p4), .val (.int (p4 &&& (3 : Int32))), .val (.ref aS), .val (.double (FP.i2d p2)), .second, .val (.long ((1 : Int64) <<< ((p3 &&& (31 : Int32)) &&& 0x3f).toInt64)), .second, .val (.ref b6), .val (.double (own_drop (FP.i2d p2) (FP.l2d ((1 : Int64) <<< ((p3 &&& (31 : Int32)) &&& 0x3f).toInt64)))), .second, .val (.long ((100 : Int64) * (((1 : Int64) <<< ((p3 &&& (31 : Int32)) &&& 0x3f).toInt64) - (p2.toInt64)))), .second, .unset, .unset, .unset, .unset, .unset, .unset] [(.int (cmpValue (FP.dcmp (FP.dmul (own_drop (FP.i2d p2) (FP.l2d ((1 : Int64) <<< ((p3 &&& (31 : Int32)) &&& 0x3f).toInt64))) (FP.l2d ((1 : Int64) <<< ((p3 &&& (31 : Int32)) &&& 0x3f).toInt64))) (FP.l2d ((100 : Int64) * (((1 : Int64) <<< ((p3 &&& (31 : Int32)) &&& 0x3f).toInt64) - (p2.toInt64))))) .l))])) _
    refine XS.ifNo X8.here hx rfl (hb hby at_128) rfl ((if0 _ _).trans (teq ((own_k1 p3 p2 rfl).2 : (cmpValue (FP.dcmp (FP.dmul (own_drop (FP.i2d p2) (FP.l2d ((1 : Int64) <<< ((p3 &&& (31 : Int32)) &&& 0x3f).toInt64))) (FP.l2d ((1 : Int64) <<< ((p3 &&& (31 : Int32)) &&& 0x3f).toInt64))) (FP.l2d ((100 : Int64) * (((1 : Int64) <<< ((p3 &&& (31 : Int32)) &&& 0x3f).toInt64) - (p2.toInt64))))) .l) = (0 : Int32))).2) ?_
    show Steps p.tables e below (T8.setTop (mkF m 131 #[.val (.int p1), .val (.int p2), .val (.int p3), .val (.int p4), .val (.int (p4 &&& (3 : Int32))), .val (.ref aS), .val (.double (FP.i2d p2)), .second, .val (.long ((1 : Int64) <<< ((p3 &&& (31 : Int32)) &&& 0x3f).toInt64)), .second, .val (.ref b6), .val (.double (own_drop (FP.i2d p2) (FP.l2d ((1 : Int64) <<< ((p3 &&& (31 : Int32)) &&& 0x3f).toInt64)))), .second, .val (.long ((100 : Int64) * (((1 : Int64) <<< ((p3 &&& (31 : Int32)) &&& 0x3f).toInt64) - (p2.toInt64)))), .second, .unset, .unset, .unset, .unset, .unset, .unset] [])) _
    refine XS.iconst X8.here hx rfl (hb hby at_131) ?_
    show Steps p.tables e below (T8.setTop (mkF m 132 #[.val (.int p1), .val (.int p2), .val (.int p3), .val (.int p4), .val (.int (p4 &&& (3 : Int32))), .val (.ref aS), .val (.double (FP.i2d p2)), .second, .val (.long ((1 : Int64) <<< ((p3 &&& (31 : Int32)) &&& 0x3f).toInt64)), .second, .val (.ref b6), .val (.double (own_drop (FP.i2d p2) (FP.l2d ((1 : Int64) <<< ((p3 &&& (31 : Int32)) &&& 0x3f).toInt64)))), .second, .val (.long ((100 : Int64) * (((1 : Int64) <<< ((p3 &&& (31 : Int32)) &&& 0x3f).toInt64) - (p2.toInt64)))), .second, .unset, .unset, .unset, .unset, .unset, .unset] [(.int (1 : Int32))])) _
    refine XS.goto X8.here hx rfl (pc0 := 132) (pc' := 136) rfl (hb hby at_132) (by decide) (by decide) ?_
    show Steps p.tables e below (T8.setTop (mkF m 136 #[.val (.int p1), .val (.int p2), .val (.int p3), .val (.int p4), .val (.int (p4 &&& (3 : Int32))), .val (.ref aS), .val (.double (FP.i2d p2)), .second, .val (.long ((1 : Int64) <<< ((p3 &&& (31 : Int32)) &&& 0x3f).toInt64)), .second, .val (.ref b6), .val (.double (own_drop (FP.i2d p2) (FP.l2d ((1 : Int64) <<< ((p3 &&& (31 : Int32)) &&& 0x3f).toInt64)))), .second, .val (.long ((100 : Int64) * (((1 : Int64) <<< ((p3 &&& (31 : Int32)) &&& 0x3f).toInt64) - (p2.toInt64)))), .second, .unset, .unset, .unset, .unset, .unset, .unset] [(.int (1 : Int32))])) _
    exact retN X8 hx (t := .boolean) Bd.returns (by simp) (hb hby at_136) hr
  · show Ql (some (.int (1 : Int32))) n0 _ _
    exact ⟨rfl, N8⟩
set_option maxRecDepth 65536 in
set_option maxHeartbeats 40000000 in
theorem rm0_tttff (l : Launch) (Z : State) (a0 : Array Value) (hw : ∀ d ∈ tables_1, d.before a0 Z = true) (ws : List Jvm.Cond) (p1 : Int32) (p2 : Int32) (p3 : Int32) (p4 : Int32) (h0 : Heap) (n0 : Nat) (Z0 : n0 ≤ h0.size) (w2 : Int32) (S : Sta Z h0 "java/lang/String" "COMPACT_STRINGS" "Z" (.int w2)) (hw2 : ¬ (w2 = (0 : Int32))) (hc24 : ¬ ((p4 &&& (3 : Int32)) = (0 : Int32))) (hc73 : ¬ ((p4 &&& (3 : Int32)) = (1 : Int32))) (hnz184 : ¬ ((((p1 &&& (2147483647 : Int32)).toInt64) + (1 : Int64)) = (0 : Int64))) (hnz199 : ¬ ((((p1 &&& (2147483647 : Int32)).toInt64) + (1 : Int64)) = (0 : Int64))) (hc202 : (lcmpW (((100 : Int64) * ((((p1 &&& (2147483647 : Int32)).toInt64) + (1 : Int64)) - (p2.toInt64))) - (((100 : Int64) * ((((p1 &&& (2147483647 : Int32)).toInt64) + (1 : Int64)) - (p2.toInt64))) / (((p1 &&& (2147483647 : Int32)).toInt64) + (1 : Int64))) * (((p1 &&& (2147483647 : Int32)).toInt64) + (1 : Int64))) (0 : Int64)) = (0 : Int32)) :
    MetFree l x (head1 (Jvm.Cond.code x code maxLocals ret :: ws) room_1) (fun a U => a = #[(.int p1), (.int p2), (.int p3), (.int p4)] ∧ Z.Warmed39 U.vm ∧ U.heap = h0) (fun _ _ _ _ _ => True) (fun _ U o U' => ∃ v L, o = .returned v ∧ Ql (some (.int (1 : Int32))) n0 v L ∧ FrameEnd U o U' L room_1.cells room_1.slots) := by
  refine MetFree.of_bodySF (plainFor_of_name pn_0) hisR ?_
  intro p e s m args below meth c s₁ Bd hml0 hP hK
  obtain ⟨rfl, hZ, hh⟩ := hP
  have hx := Bd.exec
  have hby := Bd.bytes
  have hml : c.maxLocals = 21 := hml0
  have hown : s.vm.findClass "com/example/precision/precision/models/TopicUncertaintyDropPercentPinLaw" = some m.cls := findClass_of_methodNamed Bd.named
  have hnm := (name_of_methodNamed Bd.named Bd.method).1
  have X0 : Stand p l e room_1 s m #[(.int p1), (.int p2), (.int p3), (.int p4)] below meth c s₁ [] 0 0 := Stand.of_body Bd
  have e0 : s₁.heap = h0 := by rw [← hh, Bd.state]; rfl
  have N0 := Fr.nil n0
  have pre0 : ∀ t, Steps p.tables e below (s₁.setTop (mkF m 0 #[.val (.int p1), .val (.int p2), .val (.int p3), .val (.int p4), .unset, .unset, .unset, .unset, .unset, .unset, .unset, .unset, .unset, .unset, .unset, .unset, .unset, .unset, .unset, .unset, .unset] [])) t → Steps p.tables e below (s₁.setTop (entryFrame m #[(.int p1), (.int p2), (.int p3), (.int p4)] maxLocals)) t := fun t k => castTop (ef_0 m p1 p2 p3 p4) k
  -- 3. LAWS
  -- pc 13: java/lang/String.valueOf by its contract rm1
  obtain ⟨_, _, ⟨T5, L5, k5, n5⟩, -, X5, ⟨Lc5, hQ5, l5, y5, z5⟩, st5⟩ := Jvm.LawKit.callS X0 hx (y := (⟨"java/lang/String", "valueOf", "(C)Ljava/lang/String;"⟩ : MethodName)) hown (mvT hZ (hw _ (List.mem_of_getElem? (i := 0) rfl))) (mvT hZ (hw _ (List.mem_of_getElem? (i := 1) rfl))) (mvT hZ (hw _ (List.mem_of_getElem? (i := 2) rfl))) (mvT hZ (hw _ (List.mem_of_getElem? (i := 3) rfl))) (by decide) (backOf (W := 0) (rm1 l Z a0 hw [] ((((p4.toUInt32 >>> ((2 : Int32) &&& 31).toUInt32).toInt32) &&& (255 : Int32)).toUInt32.toUInt16.toUInt32.toInt32) w2 h0 n0 Z0 S hw2 (own_ch ((p4.toUInt32 >>> ((2 : Int32) &&& 31).toUInt32).toInt32))) hZ (hw _ (List.mem_of_getElem? (i := 3) rfl)) (hw _ (List.mem_of_getElem? (i := 2) rfl)) (by decide) (by decide)) (g := (mkF m 13 #[.val (.int p1), .val (.int p2), .val (.int p3), .val (.int p4), .val (.int (p4 &&& (3 : Int32))), .unset, .unset, .unset, .unset, .unset, .unset, .unset, .unset, .unset, .unset, .unset, .unset, .unset, .unset, .unset, .unset] [(.int ((((p4.toUInt32 >>> ((2 : Int32) &&& 31).toUInt32).toInt32) &&& (255 : Int32)).toUInt32.toUInt16.toUInt32.toInt32))])) rfl (by rw [hml]; rfl) (argsL := [(.int ((((p4.toUInt32 >>> ((2 : Int32) &&& 31).toUInt32).toInt32) &&& (255 : Int32)).toUInt32.toUInt16.toUInt32.toInt32))]) (rest := []) (lenOf pd_0_0 rfl) rfl (by show 2 * 0 + _ ≤ _; exact Nat.le_of_eq rfl) (hb hby at_13) (fun _ _ => ⟨rfl, e0, (by decide : 0 + 2 ≤ _), (by decide : 0 + 5 ≤ _)⟩)
  dsimp only [Pt.U, Pt.locs, Pt.cells, Pt.slots] at X5 l5 y5 z5 st5 hQ5
  subst l5 y5 z5
  obtain ⟨aS, rfl, N5q, Kc5⟩ := hQ5
  have N5 := Fr.app N0 N5q
  have Kh5 : Keep h0 T5.heap [] := Kc5
  obtain ⟨T6, h6, X6, e6, E6, A6, D6, -, st6⟩ := newO X5 hx hZ hown (hw _ (List.mem_of_getElem? (i := 26) rfl)) (hw _ (List.mem_of_getElem? (i := 27) rfl)) (hw _ (List.mem_of_getElem? (i := 28) rfl)) rfl (g := (mkF m 146 #[.val (.int p1), .val (.int p2), .val (.int p3), .val (.int p4), .val (.int (p4 &&& (3 : Int32))), .val (.ref aS), .val (.double (FP.i2d p2)), .second, .val (.long (((p1 &&& (2147483647 : Int32)).toInt64) + (1 : Int64))), .second, .unset, .unset, .unset, .unset, .unset, .unset, .unset, .unset, .unset, .unset, .unset] [])) rfl (hb hby at_146) (by decide) (by decide)
  obtain ⟨b6, g6⟩ : ∃ z, z = T5.heap.size := ⟨_, rfl⟩      -- the fresh object's address
  rw [← g6] at A6 D6 st6      -- A6 : Exa Z h6 b6 "com/example/precision/precision/models/Uncertainty$TopicUncertainty"; E6 : Ext T5.heap h6 (carries every older fact: .ext E6)
  have F_topic_b6 : Fld Z h6 b6 "com/example/precision/precision/models/Uncertainty$TopicUncertainty" "topic" "Ljava/lang/String;" .null := D6 (Or.inr (hw _ (List.mem_of_getElem? (i := 39) rfl))) (ty := (.object "java/lang/String")) (by decide)
  have F_bits_b6 : Fld Z h6 b6 "com/example/precision/precision/models/Uncertainty$TopicUncertainty" "bits" "D" (.double (0 : UInt64)) := D6 (Or.inr (hw _ (List.mem_of_getElem? (i := 41) rfl))) (ty := .double) (by decide)
  have F_maximum_b6 : Fld Z h6 b6 "com/example/precision/precision/models/Uncertainty$TopicUncertainty" "maximum" "D" (.double (0 : UInt64)) := D6 (Or.inr (hw _ (List.mem_of_getElem? (i := 43) rfl))) (ty := .double) (by decide)
  have E_b6 := A6
  have g_b6 : n0 ≤ b6 := Nat.le_trans (Nat.le_trans Z0 Kc5.1) (Nat.le_of_eq g6.symm)
  have sz_b6 : h0.size ≤ b6 := (Nat.le_trans Kh5.1 (Nat.le_of_eq g6.symm))
  have K6 : Keep h0 h6 [] := Kh5.ext E6
  -- pc 157: the constructor of com/example/precision/precision/models/Uncertainty$TopicUncertainty by its contract rm6
  obtain ⟨_, _, ⟨T7, L7, k7, n7⟩, -, X7, ⟨Lc7, hQ7, l7, y7, z7⟩, st7⟩ := X6.specialBack hx (y := (⟨"com/example/precision/precision/models/Uncertainty$TopicUncertainty", "<init>", "(Ljava/lang/String;DD)V"⟩ : MethodName)) rfl hown (mvT hZ (hw _ (List.mem_of_getElem? (i := 29) rfl))) (mvT hZ (hw _ (List.mem_of_getElem? (i := 30) rfl))) (mvT hZ (hw _ (List.mem_of_getElem? (i := 31) rfl))) (by decide) (backOf (W := 1) (rm6 l Z a0 hw [] b6 aS (FP.i2d p2) (FP.l2d (((p1 &&& (2147483647 : Int32)).toInt64) + (1 : Int64))) .null (.double (0 : UInt64)) (.double (0 : UInt64)) h6 n0 (Nat.le_trans Z0 K6.1) E_b6 F_topic_b6 g_b6 F_bits_b6 F_maximum_b6) hZ (hw _ (List.mem_of_getElem? (i := 31) rfl)) (hw _ (List.mem_of_getElem? (i := 28) rfl)) (by decide) (by decide)) (g := (mkF m 157 #[.val (.int p1), .val (.int p2), .val (.int p3), .val (.int p4), .val (.int (p4 &&& (3 : Int32))), .val (.ref aS), .val (.double (FP.i2d p2)), .second, .val (.long (((p1 &&& (2147483647 : Int32)).toInt64) + (1 : Int64))), .second, .unset, .unset, .unset, .unset, .unset, .unset, .unset, .unset, .unset, .unset, .unset] [(.double (FP.l2d (((p1 &&& (2147483647 : Int32)).toInt64) + (1 : Int64)))), (.double (FP.i2d p2)), (.ref aS), (.ref b6), (.ref b6)])) rfl (by rw [hml]; rfl) (Steps.refl _) (a := b6) (argsL := [(.ref aS), (.double (FP.i2d p2)), (.double (FP.l2d (((p1 &&& (2147483647 : Int32)).toInt64) + (1 : Int64))))]) (rest := [(.ref b6)]) (lenOf pd_0_5 rfl) rfl (by show 2 * 0 + _ ≤ _; exact Nat.le_of_eq rfl) (hb hby at_157) (fun _ _ => ⟨rfl, e6, (by decide : 3 + 0 ≤ _), (by decide : 8 + 0 ≤ _)⟩)
  dsimp only [Pt.U, Pt.locs, Pt.cells, Pt.slots] at X7 l7 y7 z7 st7 hQ7
  subst l7 y7 z7
  obtain ⟨rfl, N7q, Kc7, FB, FM⟩ := hQ7
  have N7 := Fr.app N5 N7q
  have Kh7 : Keep h0 T7.heap [] := K6.trans Kc7 (allS (Or.inr sz_b6) all0)
  -- pc 164: com/example/precision/precision/models/Uncertainty$TopicUncertainty.dropPercent by the contract of the body that the receiver's class selects, rm8
  obtain ⟨cq8, kq8, q8a, q8b, q8c⟩ := isOf hZ rfl (E_b6.keep Kc7)
  obtain ⟨_, _, ⟨T8, L8, k8, n8⟩, -, X8, ⟨Lc8, hQ8, l8, y8, z8⟩, st8⟩ := X7.virtualBack hx (y := (⟨"com/example/precision/precision/models/Uncertainty$TopicUncertainty", "dropPercent", "()D"⟩ : MethodName)) (z := (⟨"com/example/precision/precision/models/Uncertainty$TopicUncertainty", "dropPercent", "()D"⟩ : MethodName)) hown (mvT hZ (hw _ (List.mem_of_getElem? (i := 44) rfl))) (mvT hZ (hw _ (List.mem_of_getElem? (i := 45) rfl))) (notFace_of_selects (args := #[]) (mvT hZ (hw _ (List.mem_of_getElem? (i := 47) rfl)))) (mvT hZ (hw _ (List.mem_of_getElem? (i := 47) rfl))) (mvT hZ (hw _ (List.mem_of_getElem? (i := 46) rfl))) (by decide) (backOf (W := 0) (rm8_f l Z a0 hw [] b6 (FP.l2d (((p1 &&& (2147483647 : Int32)).toInt64) + (1 : Int64))) (FP.i2d p2) T7.heap n0 (Nat.le_trans Z0 Kh7.1) FM FB (own_mM (b := p2) (own_m2 p1).1 (own_m2 p1).2).1 (own_mM (b := p2) (own_m2 p1).1 (own_m2 p1).2).2.1 (own_mM (b := p2) (own_m2 p1).1 (own_m2 p1).2).2.2.1 (own_mM (b := p2) (own_m2 p1).1 (own_m2 p1).2).2.2.2) hZ (hw _ (List.mem_of_getElem? (i := 48) rfl)) (hw _ (List.mem_of_getElem? (i := 28) rfl)) (by decide) (by decide)) q8a q8c (g := (mkF m 164 #[.val (.int p1), .val (.int p2), .val (.int p3), .val (.int p4), .val (.int (p4 &&& (3 : Int32))), .val (.ref aS), .val (.double (FP.i2d p2)), .second, .val (.long (((p1 &&& (2147483647 : Int32)).toInt64) + (1 : Int64))), .second, .val (.ref b6), .unset, .unset, .unset, .unset, .unset, .unset, .unset, .unset, .unset, .unset] [(.ref b6)])) rfl (by rw [hml]; rfl) (Steps.refl _) (argsL := []) (rest := []) (lenOf pd_0_6 rfl) rfl (by show 2 * 0 + _ ≤ _; exact Nat.le_of_eq rfl) (hb hby at_164) (fun _ _ => ⟨rfl, rfl, (by decide : 3 + 0 ≤ _), (by decide : 8 + 0 ≤ _)⟩)
  dsimp only [Pt.U, Pt.locs, Pt.cells, Pt.slots] at X8 l8 y8 z8 st8 hQ8
  subst l8 y8 z8
  obtain ⟨rfl, N8q, e8⟩ := hQ8
  have N8 := Fr.app N7 N8q
  obtain ⟨fs, hr, hrun, hended, hW, hsame⟩ := X8.leave (v := some (.int (1 : Int32))) (fun h => by rw [Bd.returns] at h; cases h)
  refine ⟨_, _, pre0 _ ?_, hrun, hended, _, _, rfl, ?_, ⟨_, rfl⟩, hW, hsame.mono (by decide) (by decide)⟩
  -- 4. STEPS
  · show Steps p.tables e below (s₁.setTop (mkF m 0 #[.val (.int p1), .val (.int p2), .val (.int p3), .val (.int p4), .unset, .unset, .unset, .unset, .unset, .unset, .unset, .unset, .unset, .unset, .unset, .unset, .unset, .unset, .unset, .unset, .unset] [])) _
    refine XS.iloadN X0.here hx rfl (hb hby at_0) rfl ?_
    show Steps p.tables e below (s₁.setTop (mkF m 1 #[.val (.int p1), .val (.int p2), .val (.int p3), .val (.int p4), .unset, .unset, .unset, .unset, .unset, .unset, .unset, .unset, .unset, .unset, .unset, .unset, .unset, .unset, .unset, .unset, .unset] [(.int p4)])) _
    refine XS.iconst X0.here hx rfl (hb hby at_1) ?_
    show Steps p.tables e below (s₁.setTop (mkF m 2 #[.val (.int p1), .val (.int p2), .val (.int p3), .val (.int p4), .unset, .unset, .unset, .unset, .unset, .unset, .unset, .unset, .unset, .unset, .unset, .unset, .unset, .unset, .unset, .unset, .unset] [(.int (3 : Int32)), (.int p4)])) _
    refine XS.iand X0.here hx rfl (hb hby at_2) rfl ?_
    show Steps p.tables e below (s₁.setTop (mkF m 3 #[.val (.int p1), .val (.int p2), .val (.int p3), .val (.int p4), .unset, .unset, .unset, .unset, .unset, .unset, .unset, .unset, .unset, .unset, .unset, .unset, .unset, .unset, .unset, .unset, .unset] [(.int (p4 &&& (3 : Int32)))])) _
    refine XS.istore X0.here hx rfl (hb hby at_3) rfl (l' := #[.val (.int p1), .val (.int p2), .val (.int p3), .val (.int p4), .val (.int (p4 &&& (3 : Int32))), .unset, .unset, .unset, .unset, .unset, .unset, .unset, .unset, .unset, .unset, .unset, .unset, .unset, .unset, .unset, .unset]) rfl ?_
    show Steps p.tables e below (s₁.setTop (mkF m 5 #[.val (.int p1), .val (.int p2), .val (.int p3), .val (.int p4), .val (.int (p4 &&& (3 : Int32))), .unset, .unset, .unset, .unset, .unset, .unset, .unset, .unset, .unset, .unset, .unset, .unset, .unset, .unset, .unset, .unset] [])) _
    refine XS.iloadN X0.here hx rfl (hb hby at_5) rfl ?_
    show Steps p.tables e below (s₁.setTop (mkF m 6 #[.val (.int p1), .val (.int p2), .val (.int p3), .val (.int p4), .val (.int (p4 &&& (3 : Int32))), .unset, .unset, .unset, .unset, .unset, .unset, .unset, .unset, .unset, .unset, .unset, .unset, .unset, .unset, .unset, .unset] [(.int p4)])) _
    refine XS.iconst X0.here hx rfl (hb hby at_6) ?_
    show Steps p.tables e below (s₁.setTop (mkF m 7 #[.val (.int p1), .val (.int p2), .val (.int p3), .val (.int p4), .val (.int (p4 &&& (3 : Int32))), .unset, .unset, .unset, .unset, .unset, .unset, .unset, .unset, .unset, .unset, .unset, .unset, .unset, .unset, .unset, .unset] [(.int (2 : Int32)), (.int p4)])) _
    refine XS.iushr X0.here hx rfl (hb hby at_7) rfl ?_
    show Steps p.tables e below (s₁.setTop (mkF m 8 #[.val (.int p1), .val (.int p2), .val (.int p3), .val (.int p4), .val (.int (p4 &&& (3 : Int32))), .unset, .unset, .unset, .unset, .unset, .unset, .unset, .unset, .unset, .unset, .unset, .unset, .unset, .unset, .unset, .unset] [(.int ((p4.toUInt32 >>> ((2 : Int32) &&& 31).toUInt32).toInt32))])) _
    refine XS.sipush X0.here hx rfl (hb hby at_8) ?_
    show Steps p.tables e below (s₁.setTop (mkF m 11 #[.val (.int p1), .val (.int p2), .val (.int p3), .val (.int p4), .val (.int (p4 &&& (3 : Int32))), .unset, .unset, .unset, .unset, .unset, .unset, .unset, .unset, .unset, .unset, .unset, .unset, .unset, .unset, .unset, .unset] [(.int (255 : Int32)), (.int ((p4.toUInt32 >>> ((2 : Int32) &&& 31).toUInt32).toInt32))])) _
    refine XS.iand X0.here hx rfl (hb hby at_11) rfl ?_
    show Steps p.tables e below (s₁.setTop (mkF m 12 #[.val (.int p1), .val (.int p2), .val (.int p3), .val (.int p4), .val (.int (p4 &&& (3 : Int32))), .unset, .unset, .unset, .unset, .unset, .unset, .unset, .unset, .unset, .unset, .unset, .unset, .unset, .unset, .unset, .unset] [(.int (((p4.toUInt32 >>> ((2 : Int32) &&& 31).toUInt32).toInt32) &&& (255 : Int32)))])) _
    refine XS.i2c X0.here hx rfl (hb hby at_12) rfl ?_
    show Steps p.tables e below (s₁.setTop (mkF m 13 #[.val (.int p1), .val (.int p2), .val (.int p3), .val (.int p4), .val (.int (p4 &&& (3 : Int32))), .unset, .unset, .unset, .unset, .unset, .unset, .unset, .unset, .unset, .unset, .unset, .unset, .unset, .unset, .unset, .unset] [(.int ((((p4.toUInt32 >>> ((2 : Int32) &&& 31).toUInt32).toInt32) &&& (255 : Int32)).toUInt32.toUInt16.toUInt32.toInt32))])) _
    refine st5 _ ?_
    show Steps p.tables e below (T5.setTop (mkF m 16 #[.val (.int p1), .val (.int p2), .val (.int p3), .val (.int p4), .val (.int (p4 &&& (3 : Int32))), .unset, .unset, .unset, .unset, .unset, .unset, .unset, .unset, .unset, .unset, .unset, .unset, .unset, .unset, .unset, .unset] [(.ref aS)])) _
    refine XS.astore X5.here hx rfl (hb hby at_16) rfl rfl (l' := #[.val (.int p1), .val (.int p2), .val (.int p3), .val (.int p4), .val (.int (p4 &&& (3 : Int32))), .val (.ref aS), .unset, .unset, .unset, .unset, .unset, .unset, .unset, .unset, .unset, .unset, .unset, .unset, .unset, .unset, .unset]) rfl ?_
    show Steps p.tables e below (T5.setTop (mkF m 18 #[.val (.int p1), .val (.int p2), .val (.int p3), .val (.int p4), .val (.int (p4 &&& (3 : Int32))), .val (.ref aS), .unset, .unset, .unset, .unset, .unset, .unset, .unset, .unset, .unset, .unset, .unset, .unset, .unset, .unset, .unset] [])) _
    refine XS.iloadN X5.here hx rfl (hb hby at_18) rfl ?_
    show Steps p.tables e below (T5.setTop (mkF m 19 #[.val (.int p1), .val (.int p2), .val (.int p3), .val (.int p4), .val (.int (p4 &&& (3 : Int32))), .val (.ref aS), .unset, .unset, .unset, .unset, .unset, .unset, .unset, .unset, .unset, .unset, .unset, .unset, .unset, .unset, .unset] [(.int p2)])) _
    refine XS.i2dS X5.here hx rfl (hb hby at_19) rfl rfl ?_
    show Steps p.tables e below (T5.setTop (mkF m 20 #[.val (.int p1), .val (.int p2), .val (.int p3), .val (.int p4), .val (.int (p4 &&& (3 : Int32))), .val (.ref aS), .unset, .unset, .unset, .unset, .unset, .unset, .unset, .unset, .unset, .unset, .unset, .unset, .unset, .unset, .unset] [(.double (FP.i2d p2))])) _
    refine XS.dstore X5.here hx rfl (hb hby at_20) rfl (l' := #[.val (.int p1), .val (.int p2), .val (.int p3), .val (.int p4), .val (.int (p4 &&& (3 : Int32))), .val (.ref aS), .val (.double (FP.i2d p2)), .second, .unset, .unset, .unset, .unset, .unset, .unset, .unset, .unset, .unset, .unset, .unset, .unset, .unset]) rfl ?_
    show Steps p.tables e below (T5.setTop (mkF m 22 #[.val (.int p1), .val (.int p2), .val (.int p3), .val (.int p4), .val (.int (p4 &&& (3 : Int32))), .val (.ref aS), .val (.double (FP.i2d p2)), .second, .unset, .unset, .unset, .unset, .unset, .unset, .unset, .unset, .unset, .unset, .unset, .unset, .unset] [])) _
    refine XS.iload X5.here hx rfl (hb hby at_22) rfl ?_
    show Steps p.tables e below (T5.setTop (mkF m 24 #[.val (.int p1), .val (.int p2), .val (.int p3), .val (.int p4), .val (.int (p4 &&& (3 : Int32))), .val (.ref aS), .val (.double (FP.i2d p2)), .second, .unset, .unset, .unset, .unset, .unset, .unset, .unset, .unset, .unset, .unset, .unset, .unset, .unset] [(.int (p4 &&& (3 : Int32)))])) _
    refine XS.ifYes X5.here hx rfl (pc0 := 24) (pc' := 70) rfl (hb hby at_24) rfl ((if0 _ _).trans (feq hc24).2) (by decide) (by decide) ?_
    show Steps p.tables e below (T5.setTop (mkF m 70 #[.val (.int p1), .val (.int p2), .val (.int p3), .val (.int p4), .val (.int (p4 &&& (3 : Int32))), .val (.ref aS), .val (.double (FP.i2d p2)), .second, .unset, .unset, .unset, .unset, .unset, .unset, .unset, .unset, .unset, .unset, .unset, .unset, .unset] [])) _
    refine XS.iload X5.here hx rfl (hb hby at_70) rfl ?_
    show Steps p.tables e below (T5.setTop (mkF m 72 #[.val (.int p1), .val (.int p2), .val (.int p3), .val (.int p4), .val (.int (p4 &&& (3 : Int32))), .val (.ref aS), .val (.double (FP.i2d p2)), .second, .unset, .unset, .unset, .unset, .unset, .unset, .unset, .unset, .unset, .unset, .unset, .unset, .unset] [(.int (p4 &&& (3 : Int32)))])) _
    refine XS.iconst X5.here hx rfl (hb hby at_72) ?_
    show Steps p.tables e below (T5.setTop (mkF m 73 #[.val (.int p1), .val (.int p2), .val (.int p3), .val (.int p4), .val (.int (p4 &&& (3 : Int32))), .val (.ref aS), .val (.double (FP.i2d p2)), .second, .unset, .unset, .unset, .unset, .unset, .unset, .unset, .unset, .unset, .unset, .unset, .unset, .unset] [(.int (1 : Int32)), (.int (p4 &&& (3 : Int32)))])) _
    refine XS.icmpYes X5.here hx rfl (pc0 := 73) (pc' := 137) rfl (hb hby at_73) rfl (feq hc73).2 (by decide) (by decide) ?_
    show Steps p.tables e below (T5.setTop (mkF m 137 #[.val (.int p1), .val (.int p2), .val (.int p3), .val (.int p4), .val (.int (p4 &&& (3 : Int32))), .val (.ref aS), .val (.double (FP.i2d p2)), .second, .unset, .unset, .unset, .unset, .unset, .unset, .unset, .unset, .unset, .unset, .unset, .unset, .unset] [])) _
    refine XS.iloadN X5.here hx rfl (hb hby at_137) rfl ?_
    show Steps p.tables e below (T5.setTop (mkF m 138 #[.val (.int p1), .val (.int p2), .val (.int p3), .val (.int p4), .val (.int (p4 &&& (3 : Int32))), .val (.ref aS), .val (.double (FP.i2d p2)), .second, .unset, .unset, .unset, .unset, .unset, .unset, .unset, .unset, .unset, .unset, .unset, .unset, .unset] [(.int p1)])) _
    refine X5.ldcInt hx hown (mvT hZ (hw _ (List.mem_of_getElem? (i := 51) rfl))) (g := (mkF m 138 #[.val (.int p1), .val (.int p2), .val (.int p3), .val (.int p4), .val (.int (p4 &&& (3 : Int32))), .val (.ref aS), .val (.double (FP.i2d p2)), .second, .unset, .unset, .unset, .unset, .unset, .unset, .unset, .unset, .unset, .unset, .unset, .unset, .unset] [(.int p1)])) rfl (hb hby at_138) _ ?_
    show Steps p.tables e below (T5.setTop (mkF m 140 #[.val (.int p1), .val (.int p2), .val (.int p3), .val (.int p4), .val (.int (p4 &&& (3 : Int32))), .val (.ref aS), .val (.double (FP.i2d p2)), .second, .unset, .unset, .unset, .unset, .unset, .unset, .unset, .unset, .unset, .unset, .unset, .unset, .unset] [(.int (2147483647 : Int32)), (.int p1)])) _
    refine XS.iand X5.here hx rfl (hb hby at_140) rfl ?_
    show Steps p.tables e below (T5.setTop (mkF m 141 #[.val (.int p1), .val (.int p2), .val (.int p3), .val (.int p4), .val (.int (p4 &&& (3 : Int32))), .val (.ref aS), .val (.double (FP.i2d p2)), .second, .unset, .unset, .unset, .unset, .unset, .unset, .unset, .unset, .unset, .unset, .unset, .unset, .unset] [(.int (p1 &&& (2147483647 : Int32)))])) _
    refine XS.i2l X5.here hx rfl (hb hby at_141) rfl ?_
    show Steps p.tables e below (T5.setTop (mkF m 142 #[.val (.int p1), .val (.int p2), .val (.int p3), .val (.int p4), .val (.int (p4 &&& (3 : Int32))), .val (.ref aS), .val (.double (FP.i2d p2)), .second, .unset, .unset, .unset, .unset, .unset, .unset, .unset, .unset, .unset, .unset, .unset, .unset, .unset] [(.long ((p1 &&& (2147483647 : Int32)).toInt64))])) _
    refine XS.lconst X5.here hx rfl (hb hby at_142) ?_
    show Steps p.tables e below (T5.setTop (mkF m 143 #[.val (.int p1), .val (.int p2), .val (.int p3), .val (.int p4), .val (.int (p4 &&& (3 : Int32))), .val (.ref aS), .val (.double (FP.i2d p2)), .second, .unset, .unset, .unset, .unset, .unset, .unset, .unset, .unset, .unset, .unset, .unset, .unset, .unset] [(.long (1 : Int64)), (.long ((p1 &&& (2147483647 : Int32)).toInt64))])) _
    refine XS.ladd X5.here hx rfl (hb hby at_143) rfl ?_
    show Steps p.tables e below (T5.setTop (mkF m 144 #[.val (.int p1), .val (.int p2), .val (.int p3), .val (.int p4), .val (.int (p4 &&& (3 : Int32))), .val (.ref aS), .val (.double (FP.i2d p2)), .second, .unset, .unset, .unset, .unset, .unset, .unset, .unset, .unset, .unset, .unset, .unset, .unset, .unset] [(.long (((p1 &&& (2147483647 : Int32)).toInt64) + (1 : Int64)))])) _
    refine XS.lstore X5.here hx rfl (hb hby at_144) rfl (l' := #[.val (.int p1), .val (.int p2), .val (.int p3), .val (.int p4), .val (.int (p4 &&& (3 : Int32))), .val (.ref aS), .val (.double (FP.i2d p2)), .second, .val (.long (((p1 &&& (2147483647 : Int32)).toInt64) + (1 : Int64))), .second, .unset, .unset, .unset, .unset, .unset, .unset, .unset, .unset, .unset, .unset, .unset]) rfl ?_
    show Steps p.tables e below (T5.setTop (mkF m 146 #[.val (.int p1), .val (.int p2), .val (.int p3), .val (.int p4), .val (.int (p4 &&& (3 : Int32))), .val (.ref aS), .val (.double (FP.i2d p2)), .second, .val (.long (((p1 &&& (2147483647 : Int32)).toInt64) + (1 : Int64))), .second, .unset, .unset, .unset, .unset, .unset, .unset, .unset, .unset, .unset, .unset, .unset] [])) _
    refine st6 _ ?_
    show Steps p.tables e below (T6.setTop (mkF m 149 #[.val (.int p1), .val (.int p2), .val (.int p3), .val (.int p4), .val (.int (p4 &&& (3 : Int32))), .val (.ref aS), .val (.double (FP.i2d p2)), .second, .val (.long (((p1 &&& (2147483647 : Int32)).toInt64) + (1 : Int64))), .second, .unset, .unset, .unset, .unset, .unset, .unset, .unset, .unset, .unset, .unset, .unset] [(.ref b6)])) _
    refine XS.dup X6.here hx rfl (hb hby at_149) rfl rfl ?_
    show Steps p.tables e below (T6.setTop (mkF m 150 #[.val (.int p1), .val (.int p2), .val (.int p3), .val (.int p4), .val (.int (p4 &&& (3 : Int32))), .val (.ref aS), .val (.double (FP.i2d p2)), .second, .val (.long (((p1 &&& (2147483647 : Int32)).toInt64) + (1 : Int64))), .second, .unset, .unset, .unset, .unset, .unset, .unset, .unset, .unset, .unset, .unset, .unset] [(.ref b6), (.ref b6)])) _
    refine XS.aload X6.here hx rfl (hb hby at_150) rfl rfl ?_
    show Steps p.tables e below (T6.setTop (mkF m 152 #[.val (.int p1), .val (.int p2), .val (.int p3), .val (.int p4), .val (.int (p4 &&& (3 : Int32))), .val (.ref aS), .val (.double (FP.i2d p2)), .second, .val (.long (((p1 &&& (2147483647 : Int32)).toInt64) + (1 : Int64))), .second, .unset, .unset, .unset, .unset, .unset, .unset, .unset, .unset, .unset, .unset, .unset] [(.ref aS), (.ref b6), (.ref b6)])) _
    refine XS.dload X6.here hx rfl (hb hby at_152) rfl ?_
    show Steps p.tables e below (T6.setTop (mkF m 154 #[.val (.int p1), .val (.int p2), .val (.int p3), .val (.int p4), .val (.int (p4 &&& (3 : Int32))), .val (.ref aS), .val (.double (FP.i2d p2)), .second, .val (.long (((p1 &&& (2147483647 : Int32)).toInt64) + (1 : Int64))), .second, .unset, .unset, .unset, .unset, .unset, .unset, .unset, .unset, .unset, .unset, .unset] [(.double (FP.i2d p2)), (.ref aS), (.ref b6), (.ref b6)])) _
    refine XS.lload X6.here hx rfl (hb hby at_154) rfl ?_
    show Steps p.tables e below (T6.setTop (mkF m 156 #[.val (.int p1), .val (.int p2), .val (.int p3), .val (.int p4), .val (.int (p4 &&& (3 : Int32))), .val (.ref aS), .val (.double (FP.i2d p2)), .second, .val (.long (((p1 &&& (2147483647 : Int32)).toInt64) + (1 : Int64))), .second, .unset, .unset, .unset, .unset, .unset, .unset, .unset, .unset, .unset, .unset, .unset] [(.long (((p1 &&& (2147483647 : Int32)).toInt64) + (1 : Int64))), (.double (FP.i2d p2)), (.ref aS), (.ref b6), (.ref b6)])) _
    refine XS.l2dS X6.here hx rfl (hb hby at_156) rfl rfl ?_
    show Steps p.tables e below (T6.setTop (mkF m 157 #[.val (.int p1), .val (.int p2), .val (.int p3), .val (.int p4), .val (.int (p4 &&& (3 : Int32))), .val (.ref aS), .val (.double (FP.i2d p2)), .second, .val (.long (((p1 &&& (2147483647 : Int32)).toInt64) + (1 : Int64))), .second, .unset, .unset, .unset, .unset, .unset, .unset, .unset, .unset, .unset, .unset, .unset] [(.double (FP.l2d (((p1 &&& (2147483647 : Int32)).toInt64) + (1 : Int64)))), (.double (FP.i2d p2)), (.ref aS), (.ref b6), (.ref b6)])) _
    refine st7.trans ?_
    show Steps p.tables e below (T7.setTop (mkF m 160 #[.val (.int p1), .val (.int p2), .val (.int p3), .val (.int p4), .val (.int (p4 &&& (3 : Int32))), .val (.ref aS), .val (.double (FP.i2d p2)), .second, .val (.long (((p1 &&& (2147483647 : Int32)).toInt64) + (1 : Int64))), .second, .unset, .unset, .unset, .unset, .unset, .unset, .unset, .unset, .unset, .unset, .unset] [(.ref b6)])) _
    refine XS.astore X7.here hx rfl (hb hby at_160) rfl rfl (l' := #[.val (.int p1), .val (.int p2), .val (.int p3), .val (.int p4), .val (.int (p4 &&& (3 : Int32))), .val (.ref aS), .val (.double (FP.i2d p2)), .second, .val (.long (((p1 &&& (2147483647 : Int32)).toInt64) + (1 : Int64))), .second, .val (.ref b6), .unset, .unset, .unset, .unset, .unset, .unset, .unset, .unset, .unset, .unset]) rfl ?_
    show Steps p.tables e below (T7.setTop (mkF m 162 #[.val (.int p1), .val (.int p2), .val (.int p3), .val (.int p4), .val (.int (p4 &&& (3 : Int32))), .val (.ref aS), .val (.double (FP.i2d p2)), .second, .val (.long (((p1 &&& (2147483647 : Int32)).toInt64) + (1 : Int64))), .second, .val (.ref b6), .unset, .unset, .unset, .unset, .unset, .unset, .unset, .unset, .unset, .unset] [])) _
    refine XS.aload X7.here hx rfl (hb hby at_162) rfl rfl ?_
    show Steps p.tables e below (T7.setTop (mkF m 164 #[.val (.int p1), .val (.int p2), .val (.int p3), .val (.int p4), .val (.int (p4 &&& (3 : Int32))), .val (.ref aS), .val (.double (FP.i2d p2)), .second, .val (.long (((p1 &&& (2147483647 : Int32)).toInt64) + (1 : Int64))), .second, .val (.ref b6), .unset, .unset, .unset, .unset, .unset, .unset, .unset, .unset, .unset, .unset] [(.ref b6)])) _
    refine st8.trans ?_
    show Steps p.tables e below (T8.setTop (mkF m 167 #[.val (.int p1), .val (.int p2), .val (.int p3), .val (.int p4), .val (.int (p4 &&& (3 : Int32))), .val (.ref aS), .val (.double (FP.i2d p2)), .second, .val (.long (((p1 &&& (2147483647 : Int32)).toInt64) + (1 : Int64))), .second, .val (.ref b6), .unset, .unset, .unset, .unset, .unset, .unset, .unset, .unset, .unset, .unset] [(.double (own_drop (FP.i2d p2) (FP.l2d (((p1 &&& (2147483647 : Int32)).toInt64) + (1 : Int64)))))])) _
    refine XS.dstore X8.here hx rfl (hb hby at_167) rfl (l' := #[.val (.int p1), .val (.int p2), .val (.int p3), .val (.int p4), .val (.int (p4 &&& (3 : Int32))), .val (.ref aS), .val (.double (FP.i2d p2)), .second, .val (.long (((p1 &&& (2147483647 : Int32)).toInt64) + (1 : Int64))), .second, .val (.ref b6), .val (.double (own_drop (FP.i2d p2) (FP.l2d (((p1 &&& (2147483647 : Int32)).toInt64) + (1 : Int64))))), .second, .unset, .unset, .unset, .unset, .unset, .unset, .unset, .unset]) rfl ?_
    show Steps p.tables e below (T8.setTop (mkF m 169 #[.val (.int p1), .val (.int p2), .val (.int p3), .val (.int p4), .val (.int (p4 &&& (3 : Int32))), .val (.ref aS), .val (.double (FP.i2d p2)), .second, .val (.long (((p1 &&& (2147483647 : Int32)).toInt64) + (1 : Int64))), .second, .val (.ref b6), .val (.double (own_drop (FP.i2d p2) (FP.l2d (((p1 &&& (2147483647 : Int32)).toInt64) + (1 : Int64))))), .second, .unset, .unset, .unset, .unset, .unset, .unset, .unset, .unset] [])) _
    refine X8.ldc2Long hx hown (mvT hZ (hw _ (List.mem_of_getElem? (i := 50) rfl))) (g := (mkF m 169 #[.val (.int p1), .val (.int p2), .val (.int p3), .val (.int p4), .val (.int (p4 &&& (3 : Int32))), .val (.ref aS), .val (.double (FP.i2d p2)), .second, .val (.long (((p1 &&& (2147483647 : Int32)).toInt64) + (1 : Int64))), .second, .val (.ref b6), .val (.double (own_drop (FP.i2d p2) (FP.l2d (((p1 &&& (2147483647 : Int32)).toInt64) + (1 : Int64))))), .second, .unset, .unset, .unset, .unset, .unset, .unset, .unset, .unset] [])) rfl (hb hby at_169) _ ?_
    show Steps p.tables e below (T8.setTop (mkF m 172 #[.val (.int p1), .val (.int p2), .val (.int p3), .val (.int p4), .val (.int (p4 &&& (3 : Int32))), .val (.ref aS), .val (.double (FP.i2d p2)), .second, .val (.long (((p1 &&& (2147483647 : Int32)).toInt64) + (1 : Int64))), .second, .val (.ref b6), .val (.double (own_drop (FP.i2d p2) (FP.l2d (((p1 &&& (2147483647 : Int32)).toInt64) + (1 : Int64))))), .second, .unset, .unset, .unset, .unset, .unset, .unset, .unset, .unset] [(.long (100 : Int64))])) _
    refine XS.lload X8.here hx rfl (hb hby at_172) rfl ?_
    show Steps p.tables e below (T8.setTop (mkF m 174 #[.val (.int p1), .val (.int p2), .val (.int p3), .val (.int p4), .val (.int (p4 &&& (3 : Int32))), .val (.ref aS), .val (.double (FP.i2d p2)), .second, .val (.long (((p1 &&& (2147483647 : Int32)).toInt64) + (1 : Int64))), .second, .val (.ref b6), .val (.double (own_drop (FP.i2d p2) (FP.l2d (((p1 &&& (2147483647 : Int32)).toInt64) + (1 : Int64))))), .second, .unset, .unset, .unset, .unset, .unset, .unset, .unset, .unset] [(.long (((p1 &&& (2147483647 : Int32)).toInt64) + (1 : Int64))), (.long (100 : Int64))])) _
    refine XS.iloadN X8.here hx rfl (hb hby at_174) rfl ?_
    show Steps p.tables e below (T8.setTop (mkF m 175 #[.val (.int p1), .val (.int p2), .val (.int p3), .val (.int p4), .val (.int (p4 &&& (3 : Int32))), .val (.ref aS), .val (.double (FP.i2d p2)), .second, .val (.long (((p1 &&& (2147483647 : Int32)).toInt64) + (1 : Int64))), .second, .val (.ref b6), .val (.double (own_drop (FP.i2d p2) (FP.l2d (((p1 &&& (2147483647 : Int32)).toInt64) + (1 : Int64))))), .second, .unset, .unset, .unset, .unset, .unset, .unset, .unset, .unset] [(.int p2), (.long (((p1 &&& (2147483647 : Int32)).toInt64) + (1 : Int64))), (.long (100 : Int64))])) _
    refine XS.i2l X8.here hx rfl (hb hby at_175) rfl ?_
    show Steps p.tables e below (T8.setTop (mkF m 176 #[.val (.int p1), .val (.int p2), .val (.int p3), .val (.int p4), .val (.int (p4 &&& (3 : Int32))), .val (.ref aS), .val (.double (FP.i2d p2)), .second, .val (.long (((p1 &&& (2147483647 : Int32)).toInt64) + (1 : Int64))), .second, .val (.ref b6), .val (.double (own_drop (FP.i2d p2) (FP.l2d (((p1 &&& (2147483647 : Int32)).toInt64) + (1 : Int64))))), .second, .unset, .unset, .unset, .unset, .unset, .unset, .unset, .unset] [(.long (p2.toInt64)), (.long (((p1 &&& (2147483647 : Int32)).toInt64) + (1 : Int64))), (.long (100 : Int64))])) _
    refine XS.lsub X8.here hx rfl (hb hby at_176) rfl ?_
    show Steps p.tables e below (T8.setTop (mkF m 177 #[.val (.int p1), .val (.int p2), .val (.int p3), .val (.int p4), .val (.int (p4 &&& (3 : Int32))), .val (.ref aS), .val (.double (FP.i2d p2)), .second, .val (.long (((p1 &&& (2147483647 : Int32)).toInt64) + (1 : Int64))), .second, .val (.ref b6), .val (.double (own_drop (FP.i2d p2) (FP.l2d (((p1 &&& (2147483647 : Int32)).toInt64) + (1 : Int64))))), .second, .unset, .unset, .unset, .unset, .unset, .unset, .unset, .unset] [(.long ((((p1 &&& (2147483647 : Int32)).toInt64) + (1 : Int64)) - (p2.toInt64))), (.long (100 : Int64))])) _
    refine XS.lmul X8.here hx rfl (hb hby at_177) rfl ?_
    show Steps p.tables e below (T8.setTop (mkF m 178 #[.val (.int p1), .val (.int p2), .val (.int p3), .val (.int p4), .val (.int (p4 &&& (3 : Int32))), .val (.ref aS), .val (.double (FP.i2d p2)), .second, .val (.long (((p1 &&& (2147483647 : Int32)).toInt64) + (1 : Int64))), .second, .val (.ref b6), .val (.double (own_drop (FP.i2d p2) (FP.l2d (((p1 &&& (2147483647 : Int32)).toInt64) + (1 : Int64))))), .second, .unset, .unset, .unset, .unset, .unset, .unset, .unset, .unset] [(.long ((100 : Int64) * ((((p1 &&& (2147483647 : Int32)).toInt64) + (1 : Int64)) - (p2.toInt64))))])) _
    refine XS.lstore X8.here hx rfl (hb hby at_178) rfl (l' := #[.val (.int p1), .val (.int p2), .val (.int p3), .val (.int p4), .val (.int (p4 &&& (3 : Int32))), .val (.ref aS), .val (.double (FP.i2d p2)), .second, .val (.long (((p1 &&& (2147483647 : Int32)).toInt64) + (1 : Int64))), .second, .val (.ref b6), .val (.double (own_drop (FP.i2d p2) (FP.l2d (((p1 &&& (2147483647 : Int32)).toInt64) + (1 : Int64))))), .second, .val (.long ((100 : Int64) * ((((p1 &&& (2147483647 : Int32)).toInt64) + (1 : Int64)) - (p2.toInt64)))), .second, .unset, .unset, .unset, .unset, .unset, .unset]) rfl ?_
    show Steps p.tables e below (T8.setTop (mkF m 180 #[.val (.int p1), .val (.int p2), .val (.int p3), .val (.int p4), .val (.int (p4 &&& (3 : Int32))), .val (.ref aS), .val (.double (FP.i2d p2)), .second, .val (.long (((p1 &&& (2147483647 : Int32)).toInt64) + (1 : Int64))), .second, .val (.ref b6), .val (.double (own_drop (FP.i2d p2) (FP.l2d (((p1 &&& (2147483647 : Int32)).toInt64) + (1 : Int64))))), .second, .val (.long ((100 : Int64) * ((((p1 &&& (2147483647 : Int32)).toInt64) + (1 : Int64)) - (p2.toInt64)))), .second, .unset, .unset, .unset, .unset, .unset, .unset] [])) _
    refine XS.lload X8.here hx rfl (hb hby at_180) rfl ?_
    show Steps p.tables e below (T8.setTop (mkF m 182 #[.val (.int p1), .val (.int p2), .val (.int p3), .val (.int p4), .val (.int (p4 &&& (3 : Int32))), .val (.ref aS), .val (.double (FP.i2d p2)), .second, .val (.long (((p1 &&& (2147483647 : Int32)).toInt64) + (1 : Int64))), .second, .val (.ref b6), .val (.double (own_drop (FP.i2d p2) (FP.l2d (((p1 &&& (2147483647 : Int32)).toInt64) + (1 : Int64))))), .second, .val (.long ((100 : Int64) * ((((p1 &&& (2147483647 : Int32)).toInt64) + (1 : Int64)) - (p2.toInt64)))), .second, .unset, .unset, .unset, .unset, .unset, .unset] [(.long ((100 : Int64) * ((((p1 &&& (2147483647 : Int32)).toInt64) + (1 : Int64)) - (p2.toInt64))))])) _
    refine XS.lload X8.here hx rfl (hb hby at_182) rfl ?_
    show Steps p.tables e below (T8.setTop (mkF m 184 #[.val (.int p1), .val (.int p2), .val (.int p3), .val (.int p4), .val (.int (p4 &&& (3 : Int32))), .val (.ref aS), .val (.double (FP.i2d p2)), .second, .val (.long (((p1 &&& (2147483647 : Int32)).toInt64) + (1 : Int64))), .second, .val (.ref b6), .val (.double (own_drop (FP.i2d p2) (FP.l2d (((p1 &&& (2147483647 : Int32)).toInt64) + (1 : Int64))))), .second, .val (.long ((100 : Int64) * ((((p1 &&& (2147483647 : Int32)).toInt64) + (1 : Int64)) - (p2.toInt64)))), .second, .unset, .unset, .unset, .unset, .unset, .unset] [(.long (((p1 &&& (2147483647 : Int32)).toInt64) + (1 : Int64))), (.long ((100 : Int64) * ((((p1 &&& (2147483647 : Int32)).toInt64) + (1 : Int64)) - (p2.toInt64))))])) _
    refine XS.ldiv X8.here hx rfl (hb hby at_184) rfl hnz184 ?_
    show Steps p.tables e below (T8.setTop (mkF m 185 #[.val (.int p1), .val (.int p2), .val (.int p3), .val (.int p4), .val (.int (p4 &&& (3 : Int32))), .val (.ref aS), .val (.double (FP.i2d p2)), .second, .val (.long (((p1 &&& (2147483647 : Int32)).toInt64) + (1 : Int64))), .second, .val (.ref b6), .val (.double (own_drop (FP.i2d p2) (FP.l2d (((p1 &&& (2147483647 : Int32)).toInt64) + (1 : Int64))))), .second, .val (.long ((100 : Int64) * ((((p1 &&& (2147483647 : Int32)).toInt64) + (1 : Int64)) - (p2.toInt64)))), .second, .unset, .unset, .unset, .unset, .unset, .unset] [(.long (((100 : Int64) * ((((p1 &&& (2147483647 : Int32)).toInt64) + (1 : Int64)) - (p2.toInt64))) / (((p1 &&& (2147483647 : Int32)).toInt64) + (1 : Int64))))])) _
    refine XS.lstore X8.here hx rfl (hb hby at_185) rfl (l' := #[.val (.int p1), .val (.int p2), .val (.int p3), .val (.int p4), .val (.int (p4 &&& (3 : Int32))), .val (.ref aS), .val (.double (FP.i2d p2)), .second, .val (.long (((p1 &&& (2147483647 : Int32)).toInt64) + (1 : Int64))), .second, .val (.ref b6), .val (.double (own_drop (FP.i2d p2) (FP.l2d (((p1 &&& (2147483647 : Int32)).toInt64) + (1 : Int64))))), .second, .val (.long ((100 : Int64) * ((((p1 &&& (2147483647 : Int32)).toInt64) + (1 : Int64)) - (p2.toInt64)))), .second, .val (.long (((100 : Int64) * ((((p1 &&& (2147483647 : Int32)).toInt64) + (1 : Int64)) - (p2.toInt64))) / (((p1 &&& (2147483647 : Int32)).toInt64) + (1 : Int64)))), .second, .unset, .unset, .unset, .unset]) rfl ?_
    show Steps p.tables e below (T8.setTop (mkF m 187 #[.val (.int p1), .val (.int p2), .val (.int p3), .val (.int p4), .val (.int (p4 &&& (3 : Int32))), .val (.ref aS), .val (.double (FP.i2d p2)), .second, .val (.long (((p1 &&& (2147483647 : Int32)).toInt64) + (1 : Int64))), .second, .val (.ref b6), .val (.double (own_drop (FP.i2d p2) (FP.l2d (((p1 &&& (2147483647 : Int32)).toInt64) + (1 : Int64))))), .second, .val (.long ((100 : Int64) * ((((p1 &&& (2147483647 : Int32)).toInt64) + (1 : Int64)) - (p2.toInt64)))), .second, .val (.long (((100 : Int64) * ((((p1 &&& (2147483647 : Int32)).toInt64) + (1 : Int64)) - (p2.toInt64))) / (((p1 &&& (2147483647 : Int32)).toInt64) + (1 : Int64)))), .second, .unset, .unset, .unset, .unset] [])) _
    refine XS.lload X8.here hx rfl (hb hby at_187) rfl ?_
    show Steps p.tables e below (T8.setTop (mkF m 189 #[.val (.int p1), .val (.int p2), .val (.int p3), .val (.int p4), .val (.int (p4 &&& (3 : Int32))), .val (.ref aS), .val (.double (FP.i2d p2)), .second, .val (.long (((p1 &&& (2147483647 : Int32)).toInt64) + (1 : Int64))), .second, .val (.ref b6), .val (.double (own_drop (FP.i2d p2) (FP.l2d (((p1 &&& (2147483647 : Int32)).toInt64) + (1 : Int64))))), .second, .val (.long ((100 : Int64) * ((((p1 &&& (2147483647 : Int32)).toInt64) + (1 : Int64)) - (p2.toInt64)))), .second, .val (.long (((100 : Int64) * ((((p1 &&& (2147483647 : Int32)).toInt64) + (1 : Int64)) - (p2.toInt64))) / (((p1 &&& (2147483647 : Int32)).toInt64) + (1 : Int64)))), .second, .unset, .unset, .unset, .unset] [(.long (((100 : Int64) * ((((p1 &&& (2147483647 : Int32)).toInt64) + (1 : Int64)) - (p2.toInt64))) / (((p1 &&& (2147483647 : Int32)).toInt64) + (1 : Int64))))])) _
    refine XS.lstore X8.here hx rfl (hb hby at_189) rfl (l' := #[.val (.int p1), .val (.int p2), .val (.int p3), .val (.int p4), .val (.int (p4 &&& (3 : Int32))), .val (.ref aS), .val (.double (FP.i2d p2)), .second, .val (.long (((p1 &&& (2147483647 : Int32)).toInt64) + (1 : Int64))), .second, .val (.ref b6), .val (.double (own_drop (FP.i2d p2) (FP.l2d (((p1 &&& (2147483647 : Int32)).toInt64) + (1 : Int64))))), .second, .val (.long ((100 : Int64) * ((((p1 &&& (2147483647 : Int32)).toInt64) + (1 : Int64)) - (p2.toInt64)))), .second, .val (.long (((100 : Int64) * ((((p1 &&& (2147483647 : Int32)).toInt64) + (1 : Int64)) - (p2.toInt64))) / (((p1 &&& (2147483647 : Int32)).toInt64) + (1 : Int64)))), .second, .val (.long (((100 : Int64) * ((((p1 &&& (2147483647 : Int32)).toInt64) + (1 : Int64)) - (p2.toInt64))) / (((p1 &&& (2147483647 : Int32)).toInt64) + (1 : Int64)))), .second, .unset, .unset]) rfl ?_
    show Steps p.tables e below (T8.setTop (mkF m 191 #[.val (.int p1), .val (.int p2), .val (.int p3), .val (.int p4), .val (.int (p4 &&& (3 : Int32))), .val (.ref aS), .val (.double (FP.i2d p2)), .second, .val (.long (((p1 &&& (2147483647 : Int32)).toInt64) + (1 : Int64))), .second, .val (.ref b6), .val (.double (own_drop (FP.i2d p2) (FP.l2d (((p1 &&& (2147483647 : Int32)).toInt64) + (1 : Int64))))), .second, .val (.long ((100 : Int64) * ((((p1 &&& (2147483647 : Int32)).toInt64) + (1 : Int64)) - (p2.toInt64)))), .second, .val (.long (((100 : Int64) * ((((p1 &&& (2147483647 : Int32)).toInt64) + (1 : Int64)) - (p2.toInt64))) / (((p1 &&& (2147483647 : Int32)).toInt64) + (1 : Int64)))), .second, .val (.long (((100 : Int64) * ((((p1 &&& (2147483647 : Int32)).toInt64) + (1 : Int64)) - (p2.toInt64))) / (((p1 &&& (2147483647 : Int32)).toInt64) + (1 : Int64)))), .second, .unset, .unset] [])) _
    refine XS.lload X8.here hx rfl (hb hby at_191) rfl ?_
    show Steps p.tables e below (T8.setTop (mkF m 193 #[.val (.int p1), .val (.int p2), .val (.int p3), .val (.int p4), .val (.int (p4 &&& (3 : Int32))), .val (.ref aS), .val (.double (FP.i2d p2)), .second, .val (.long (((p1 &&& (2147483647 : Int32)).toInt64) + (1 : Int64))), .second, .val (.ref b6), .val (.double (own_drop (FP.i2d p2) (FP.l2d (((p1 &&& (2147483647 : Int32)).toInt64) + (1 : Int64))))), .second, .val (.long ((100 : Int64) * ((((p1 &&& (2147483647 : Int32)).toInt64) + (1 : Int64)) - (p2.toInt64)))), .second, .val (.long (((100 : Int64) * ((((p1 &&& (2147483647 : Int32)).toInt64) + (1 : Int64)) - (p2.toInt64))) / (((p1 &&& (2147483647 : Int32)).toInt64) + (1 : Int64)))), .second, .val (.long (((100 : Int64) * ((((p1 &&& (2147483647 : Int32)).toInt64) + (1 : Int64)) - (p2.toInt64))) / (((p1 &&& (2147483647 : Int32)).toInt64) + (1 : Int64)))), .second, .unset, .unset] [(.long (((100 : Int64) * ((((p1 &&& (2147483647 : Int32)).toInt64) + (1 : Int64)) - (p2.toInt64))) / (((p1 &&& (2147483647 : Int32)).toInt64) + (1 : Int64))))])) _
    refine XS.lstore X8.here hx rfl (hb hby at_193) rfl (l' := #[.val (.int p1), .val (.int p2), .val (.int p3), .val (.int p4), .val (.int (p4 &&& (3 : Int32))), .val (.ref aS), .val (.double (FP.i2d p2)), .second, .val (.long (((p1 &&& (2147483647 : Int32)).toInt64) + (1 : Int64))), .second, .val (.ref b6), .val (.double (own_drop (FP.i2d p2) (FP.l2d (((p1 &&& (2147483647 : Int32)).toInt64) + (1 : Int64))))), .second, .val (.long ((100 : Int64) * ((((p1 &&& (2147483647 : Int32)).toInt64) + (1 : Int64)) - (p2.toInt64)))), .second, .val (.long (((100 : Int64) * ((((p1 &&& (2147483647 : Int32)).toInt64) + (1 : Int64)) - (p2.toInt64))) / (((p1 &&& (2147483647 : Int32)).toInt64) + (1 : Int64)))), .second, .val (.long (((100 : Int64) * ((((p1 &&& (2147483647 : Int32)).toInt64) + (1 : Int64)) - (p2.toInt64))) / (((p1 &&& (2147483647 : Int32)).toInt64) + (1 : Int64)))), .second, .val (.long (((100 : Int64) * ((((p1 &&& (2147483647 : Int32)).toInt64) + (1 : Int64)) - (p2.toInt64))) / (((p1 &&& (2147483647 : Int32)).toInt64) + (1 : Int64)))), .second]) rfl ?_
    show Steps p.tables e below (T8.setTop (mkF m 195 #[.val (.int p1), .val (.int p2), .val (.int p3), .val (.int p4), .val (.int (p4 &&& (3 : Int32))), .val (.ref aS), .val (.double (FP.i2d p2)), .second, .val (.long (((p1 &&& (2147483647 : Int32)).toInt64) + (1 : Int64))), .second, .val (.ref b6), .val (.double (own_drop (FP.i2d p2) (FP.l2d (((p1 &&& (2147483647 : Int32)).toInt64) + (1 : Int64))))), .second, .val (.long ((100 : Int64) * ((((p1 &&& (2147483647 : Int32)).toInt64) + (1 : Int64)) - (p2.toInt64)))), .second, .val (.long (((100 : Int64) * ((((p1 &&& (2147483647 : Int32)).toInt64) + (1 : Int64)) - (p2.toInt64))) / (((p1 &&& (2147483647 : Int32)).toInt64) + (1 : Int64)))), .second, .val (.long (((100 : Int64) * ((((p1 &&& (2147483647 : Int32)).toInt64) + (1 : Int64)) - (p2.toInt64))) / (((p1 &&& (2147483647 : Int32)).toInt64) + (1 : Int64)))), .second, .val (.long (((100 : Int64) * ((((p1 &&& (2147483647 : Int32)).toInt64) + (1 : Int64)) - (p2.toInt64))) / (((p1 &&& (2147483647 : Int32)).toInt64) + (1 : Int64)))), .second] [])) _
    refine XS.lload X8.here hx rfl (hb hby at_195) rfl ?_
    show Steps p.tables e below (T8.setTop (mkF m 197 #[.val (.int p1), .val (.int p2), .val (.int p3), .val (.int p4), .val (.int (p4 &&& (3 : Int32))), .val (.ref aS), .val (.double (FP.i2d p2)), .second, .val (.long (((p1 &&& (2147483647 : Int32)).toInt64) + (1 : Int64))), .second, .val (.ref b6), .val (.double (own_drop (FP.i2d p2) (FP.l2d (((p1 &&& (2147483647 : Int32)).toInt64) + (1 : Int64))))), .second, .val (.long ((100 : Int64) * ((((p1 &&& (2147483647 : Int32)).toInt64) + (1 : Int64)) - (p2.toInt64)))), .second, .val (.long (((100 : Int64) * ((((p1 &&& (2147483647 : Int32)).toInt64) + (1 : Int64)) - (p2.toInt64))) / (((p1 &&& (2147483647 : Int32)).toInt64) + (1 : Int64)))), .second, .val (.long (((100 : Int64) * ((((p1 &&& (2147483647 : Int32)).toInt64) + (1 : Int64)) - (p2.toInt64))) / (((p1 &&& (2147483647 : Int32)).toInt64) + (1 : Int64)))), .second, .val (.long (((100 : Int64) * ((((p1 &&& (2147483647 : Int32)).toInt64) + (1 : Int64)) - (p2.toInt64))) / (((p1 &&& (2147483647 : Int32)).toInt64) + (1 : Int64)))), .second] [(.long ((100 : Int64) * ((((p1 &&& (2147483647 : Int32)).toInt64) + (1 : Int64)) - (p2.toInt64))))])) _
    refine XS.lload X8.here hx rfl (hb hby at_197) rfl ?_
    show Steps p.tables e below (T8.setTop (mkF m 199 #[.val (.int p1), .val (.int p2), .val (.int p3), .val (.int p4), .val (.int (p4 &&& (3 : Int32))), .val (.ref aS), .val (.double (FP.i2d p2)), .second, .val (.long (((p1 &&& (2147483647 : Int32)).toInt64) + (1 : Int64))), .second, .val (.ref b6), .val (.double (own_drop (FP.i2d p2) (FP.l2d (((p1 &&& (2147483647 : Int32)).toInt64) + (1 : Int64))))), .second, .val (.long ((100 : Int64) * ((((p1 &&& (2147483647 : Int32)).toInt64) + (1 : Int64)) - (p2.toInt64)))), .second, .val (.long (((100 : Int64) * ((((p1 &&& (2147483647 : Int32)).toInt64) + (1 : Int64)) - (p2.toInt64))) / (((p1 &&& (2147483647 : Int32)).toInt64) + (1 : Int64)))), .second, .val (.long (((100 : Int64) * ((((p1 &&& (2147483647 : Int32)).toInt64) + (1 : Int64)) - (p2.toInt64))) / (((p1 &&& (2147483647 : Int32)).toInt64) + (1 : Int64)))), .second, .val (.long (((100 : Int64) * ((((p1 &&& (2147483647 : Int32)).toInt64) + (1 : Int64)) - (p2.toInt64))) / (((p1 &&& (2147483647 : Int32)).toInt64) + (1 : Int64)))), .second] [(.long (((p1 &&& (2147483647 : Int32)).toInt64) + (1 : Int64))), (.long ((100 : Int64) * ((((p1 &&& (2147483647 : Int32)).toInt64) + (1 : Int64)) - (p2.toInt64))))])) _
    refine XS.lrem X8.here hx rfl (hb hby at_199) rfl hnz199 ?_
    show Steps p.tables e below (T8.setTop (mkF m 200 #[.val (.int p1), .val (.int p2), .val (.int p3), .val (.int p4), .val (.int (p4 &&& (3 : Int32))), .val (.ref aS), .val (.double (FP.i2d p2)), .second, .val (.long (((p1 &&& (2147483647 : Int32)).toInt64) + (1 : Int64))), .second, .val (.ref b6), .val (.double (own_drop (FP.i2d p2) (FP.l2d (((p1 &&& (2147483647 : Int32)).toInt64) + (1 : Int64))))), .second, .val (.long ((100 : Int64) * ((((p1 &&& (2147483647 : Int32)).toInt64) + (1 : Int64)) - (p2.toInt64)))), .second, .val (.long (((100 : Int64) * ((((p1 &&& (2147483647 : Int32)).toInt64) + (1 : Int64)) - (p2.toInt64))) / (((p1 &&& (2147483647 : Int32)).toInt64) + (1 : Int64)))), .second, .val (.long (((100 : Int64) * ((((p1 &&& (2147483647 : Int32)).toInt64) + (1 : Int64)) - (p2.toInt64))) / (((p1 &&& (2147483647 : Int32)).toInt64) + (1 : Int64)))), .second, .val (.long (((100 : Int64) * ((((p1 &&& (2147483647 : Int32)).toInt64) + (1 : Int64)) - (p2.toInt64))) / (((p1 &&& (2147483647 : Int32)).toInt64) + (1 : Int64)))), .second] [(.long (((100 : Int64) * ((((p1 &&& (2147483647 : Int32)).toInt64) + (1 : Int64)) - (p2.toInt64))) - (((100 : Int64) * ((((p1 &&& (2147483647 : Int32)).toInt64) + (1 : Int64)) - (p2.toInt64))) / (((p1 &&& (2147483647 : Int32)).toInt64) + (1 : Int64))) * (((p1 &&& (2147483647 : Int32)).toInt64) + (1 : Int64))))])) _
    refine XS.lconst X8.here hx rfl (hb hby at_200) ?_
    show Steps p.tables e below (T8.setTop (mkF m 201 #[.val (.int p1), .val (.int p2), .val (.int p3), .val (.int p4), .val (.int (p4 &&& (3 : Int32))), .val (.ref aS), .val (.double (FP.i2d p2)), .second, .val (.long (((p1 &&& (2147483647 : Int32)).toInt64) + (1 : Int64))), .second, .val (.ref b6), .val (.double (own_drop (FP.i2d p2) (FP.l2d (((p1 &&& (2147483647 : Int32)).toInt64) + (1 : Int64))))), .second, .val (.long ((100 : Int64) * ((((p1 &&& (2147483647 : Int32)).toInt64) + (1 : Int64)) - (p2.toInt64)))), .second, .val (.long (((100 : Int64) * ((((p1 &&& (2147483647 : Int32)).toInt64) + (1 : Int64)) - (p2.toInt64))) / (((p1 &&& (2147483647 : Int32)).toInt64) + (1 : Int64)))), .second, .val (.long (((100 : Int64) * ((((p1 &&& (2147483647 : Int32)).toInt64) + (1 : Int64)) - (p2.toInt64))) / (((p1 &&& (2147483647 : Int32)).toInt64) + (1 : Int64)))), .second, .val (.long (((100 : Int64) * ((((p1 &&& (2147483647 : Int32)).toInt64) + (1 : Int64)) - (p2.toInt64))) / (((p1 &&& (2147483647 : Int32)).toInt64) + (1 : Int64)))), .second] [(.long (0 : Int64)), (.long (((100 : Int64) * ((((p1 &&& (2147483647 : Int32)).toInt64) + (1 : Int64)) - (p2.toInt64))) - (((100 : Int64) * ((((p1 &&& (2147483647 : Int32)).toInt64) + (1 : Int64)) - (p2.toInt64))) / (((p1 &&& (2147483647 : Int32)).toInt64) + (1 : Int64))) * (((p1 &&& (2147483647 : Int32)).toInt64) + (1 : Int64))))])) _
    refine XS.lcmp X8.here hx rfl (hb hby at_201) rfl ?_
    show Steps p.tables e below (T8.setTop (mkF m 202 #[.val (.int p1), .val (.int p2), .val (.int p3), .val (.int p4), .val (.int (p4 &&& (3 : Int32))), .val (.ref aS), .val (.double (FP.i2d p2)), .second, .val (.long (((p1 &&& (2147483647 : Int32)).toInt64) + (1 : Int64))), .second, .val (.ref b6), .val (.double (own_drop (FP.i2d p2) (FP.l2d (((p1 &&& (2147483647 : Int32)).toInt64) + (1 : Int64))))), .second, .val (.long ((100 : Int64) * ((((p1 &&& (2147483647 : Int32)).toInt64) + (1 : Int64)) - (p2.toInt64)))), .second, .val (.long (((100 : Int64) * ((((p1 &&& (2147483647 : Int32)).toInt64) + (1 : Int64)) - (p2.toInt64))) / (((p1 &&& (2147483647 : Int32)).toInt64) + (1 : Int64)))), .second, .val (.long (((100 : Int64) * ((((p1 &&& (2147483647 : Int32)).toInt64) + (1 : Int64)) - (p2.toInt64))) / (((p1 &&& (2147483647 : Int32)).toInt64) + (1 : Int64)))), .second, .val (.long (((100 : Int64) * ((((p1 &&& (2147483647 : Int32)).toInt64) + (1 : Int64)) - (p2.toInt64))) / (((p1 &&& (2147483647 : Int32)).toInt64) + (1 : Int64)))), .second] [(.int (lcmpW (((100 : Int64) * ((((p1 &&& (2147483647 : Int32)).toInt64) + (1 : Int64)) - (p2.toInt64))) - (((100 : Int64) * ((((p1 &&& (2147483647 : Int32)).toInt64) + (1 : Int64)) - (p2.toInt64))) / (((p1 &&& (2147483647 : Int32)).toInt64) + (1 : Int64))) * (((p1 &&& (2147483647 : Int32)).toInt64) + (1 : Int64))) (0 : Int64)))])) _
    refine XS.ifYes X8.here hx rfl (pc0 := 202) (pc' := 227) rfl (hb hby at_202) rfl ((if0 _ _).trans (teq hc202).1) (by decide) (by decide) ?_
    show Steps p.tables e below (T8.setTop (mkF m 227 #[.val (.int p1), .val (.int p2), .val (.int p3), .val (.int p4), .val (.int (p4 &&& (3 : Int32))), .val (.ref aS), .val (.double (FP.i2d p2)), .second, .val (.long (((p1 &&& (2147483647 : Int32)).toInt64) + (1 : Int64))), .second, .val (.ref b6), .val (.double (own_drop (FP.i2d p2) (FP.l2d (((p1 &&& (2147483647 : Int32)).toInt64) + (1 : Int64))))), .second, .val (.long ((100 : Int64) * ((((p1 &&& (2147483647 : Int32)).toInt64) + (1 : Int64)) - (p2.toInt64)))), .second, .val (.long (((100 : Int64) * ((((p1 &&& (2147483647 : Int32)).toInt64) + (1 : Int64)) - (p2.toInt64))) / (((p1 &&& (2147483647 : Int32)).toInt64) + (1 : Int64)))), .second, .val (.long (((100 : Int64) * ((((p1 &&& (2147483647 : Int32)).toInt64) + (1 : Int64)) - (p2.toInt64))) / (((p1 &&& (2147483647 : Int32)).toInt64) + (1 : Int64)))), .second, .val (.long (((100 : Int64) * ((((p1 &&& (2147483647 : Int32)).toInt64) + (1 : Int64)) - (p2.toInt64))) / (((p1 &&& (2147483647 : Int32)).toInt64) + (1 : Int64)))), .second] [])) _
    refine XS.lload X8.here hx rfl (hb hby at_227) rfl ?_
    show Steps p.tables e below (T8.setTop (mkF m 229 #[.val (.int p1), .val (.int p2), .val (.int p3), .val (.int p4), .val (.int (p4 &&& (3 : Int32))), .val (.ref aS), .val (.double (FP.i2d p2)), .second, .val (.long (((p1 &&& (2147483647 : Int32)).toInt64) + (1 : Int64))), .second, .val (.ref b6), .val (.double (own_drop (FP.i2d p2) (FP.l2d (((p1 &&& (2147483647 : Int32)).toInt64) + (1 : Int64))))), .second, .val (.long ((100 : Int64) * ((((p1 &&& (2147483647 : Int32)).toInt64) + (1 : Int64)) - (p2.toInt64)))), .second, .val (.long (((100 : Int64) * ((((p1 &&& (2147483647 : Int32)).toInt64) + (1 : Int64)) - (p2.toInt64))) / (((p1 &&& (2147483647 : Int32)).toInt64) + (1 : Int64)))), .second, .val (.long (((100 : Int64) * ((((p1 &&& (2147483647 : Int32)).toInt64) + (1 : Int64)) - (p2.toInt64))) / (((p1 &&& (2147483647 : Int32)).toInt64) + (1 : Int64)))), .second, .val (.long (((100 : Int64) * ((((p1 &&& (2147483647 : Int32)).toInt64) + (1 : Int64)) - (p2.toInt64))) / (((p1 &&& (2147483647 : Int32)).toInt64) + (1 : Int64)))), .second] [(.long (((100 : Int64) * ((((p1 &&& (2147483647 : Int32)).toInt64) + (1 : Int64)) - (p2.toInt64))) / (((p1 &&& (2147483647 : Int32)).toInt64) + (1 : Int64))))])) _
    refine XS.l2dS X8.here hx rfl (hb hby at_229) rfl rfl ?_
    show Steps p.tables e below (T8.setTop (mkF m 230 #[.val (.int p1), .val (.int p2), .val (.int p3), .val (.int p4), .val (.int (p4 &&& (3 : Int32))), .val (.ref aS), .val (.double (FP.i2d p2)), .second, .val (.long (((p1 &&& (2147483647 : Int32)).toInt64) + (1 : Int64))), .second, .val (.ref b6), .val (.double (own_drop (FP.i2d p2) (FP.l2d (((p1 &&& (2147483647 : Int32)).toInt64) + (1 : Int64))))), .second, .val (.long ((100 : Int64) * ((((p1 &&& (2147483647 : Int32)).toInt64) + (1 : Int64)) - (p2.toInt64)))), .second, .val (.long (((100 : Int64) * ((((p1 &&& (2147483647 : Int32)).toInt64) + (1 : Int64)) - (p2.toInt64))) / (((p1 &&& (2147483647 : Int32)).toInt64) + (1 : Int64)))), .second, .val (.long (((100 : Int64) * ((((p1 &&& (2147483647 : Int32)).toInt64) + (1 : Int64)) - (p2.toInt64))) / (((p1 &&& (2147483647 : Int32)).toInt64) + (1 : Int64)))), .second, .val (.long (((100 : Int64) * ((((p1 &&& (2147483647 : Int32)).toInt64) + (1 : Int64)) - (p2.toInt64))) / (((p1 &&& (2147483647 : Int32)).toInt64) + (1 : Int64)))), .second] [(.double (FP.l2d (((100 : Int64) * ((((p1 &&& (2147483647 : Int32)).toInt64) + (1 : Int64)) - (p2.toInt64))) / (((p1 &&& (2147483647 : Int32)).toInt64) + (1 : Int64)))))])) _
    refine XS.dload X8.here hx rfl (hb hby at_230) rfl ?_
    show Steps p.tables e below (T8.setTop (mkF m 232 #[.val (.int p1), .val (.int p2), .val (.int p3), .val (.int p4), .val (.int (p4 &&& (3 : Int32))), .val (.ref aS), .val (.double (FP.i2d p2)), .second, .val (.long (((p1 &&& (2147483647 : Int32)).toInt64) + (1 : Int64))), .second, .val (.ref b6), .val (.double (own_drop (FP.i2d p2) (FP.l2d (((p1 &&& (2147483647 : Int32)).toInt64) + (1 : Int64))))), .second, .val (.long ((100 : Int64) * ((((p1 &&& (2147483647 : Int32)).toInt64) + (1 : Int64)) - (p2.toInt64)))), .second, .val (.long (((100 : Int64) * ((((p1 &&& (2147483647 : Int32)).toInt64) + (1 : Int64)) - (p2.toInt64))) / (((p1 &&& (2147483647 : Int32)).toInt64) + (1 : Int64)))), .second, .val (.long (((100 : Int64) * ((((p1 &&& (2147483647 : Int32)).toInt64) + (1 : Int64)) - (p2.toInt64))) / (((p1 &&& (2147483647 : Int32)).toInt64) + (1 : Int64)))), .second, .val (.long (((100 : Int64) * ((((p1 &&& (2147483647 : Int32)).toInt64) + (1 : Int64)) - (p2.toInt64))) / (((p1 &&& (2147483647 : Int32)).toInt64) + (1 : Int64)))), .second] [(.double (own_drop (FP.i2d p2) (FP.l2d (((p1 &&& (2147483647 : Int32)).toInt64) + (1 : Int64))))), (.double (FP.l2d (((100 : Int64) * ((((p1 &&& (2147483647 : Int32)).toInt64) + (1 : Int64)) - (p2.toInt64))) / (((p1 &&& (2147483647 : Int32)).toInt64) + (1 : Int64)))))])) _
    refine XS.dcmpS X8.here hx rfl (hb hby at_232) rfl rfl ?_
    show Steps p.tables e below (T8.setTop (mkF m 233 #[.val (.int p1), .val (.int p2), .val (.int p3), .val (.int p4), .val (.int (p4 &&& (3 : Int32))), .val (.ref aS), .val (.double (FP.i2d p2)), .second, .val (.long (((p1 &&& (2147483647 : Int32)).toInt64) + (1 : Int64))), .second, .val (.ref b6), .val (.double (own_drop (FP.i2d p2) (FP.l2d (((p1 &&& (2147483647 : Int32)).toInt64) + (1 : Int64))))), .second, .val (.long ((100 : Int64) * ((((p1 &&& (2147483647 : Int32)).toInt64) + (1 : Int64)) - (p2.toInt64)))), .second, .val (.long (((100 : Int64) * ((((p1 &&& (2147483647 : Int32)).toInt64) + (1 : Int64)) - (p2.toInt64))) / (((p1 &&& (2147483647 : Int32)).toInt64) + (1 : Int64)))), .second, .val (.long (((100 : Int64) * ((((p1 &&& (2147483647 : Int32)).toInt64) + (1 : Int64)) - (p2.toInt64))) / (((p1 &&& (2147483647 : Int32)).toInt64) + (1 : Int64)))), .second, .val (.long (((100 : Int64) * ((((p1 &&& (2147483647 : Int32)).toInt64) + (1 : Int64)) - (p2.toInt64))) / (((p1 &&& (2147483647 : Int32)).toInt64) + (1 : Int64)))), .second] [(.int (cmpValue (FP.dcmp (FP.l2d (((100 : Int64) * ((((p1 &&& (2147483647 : Int32)).toInt64) + (1 : Int64)) - (p2.toInt64))) / (((p1 &&& (2147483647 : Int32)).toInt64) + (1 : Int64)))) (own_drop (FP.i2d p2) (FP.l2d (((p1 &&& (2147483647 : Int32)).toInt64) + (1 : Int64))))) .g))])) _
    refine XS.ifNo X8.here hx rfl (hb hby at_233) rfl ((if0 _ _).trans (flt (by first | exact (own_rA (own_m2 p1).1 (own_m2 p1).2 rfl hc202).1 | exact (own_rA (own_m2 p1).1 (own_m2 p1).2 rfl hc202).2 : ¬ ((0 : Int32) < (cmpValue (FP.dcmp (FP.l2d (((100 : Int64) * ((((p1 &&& (2147483647 : Int32)).toInt64) + (1 : Int64)) - (p2.toInt64))) / (((p1 &&& (2147483647 : Int32)).toInt64) + (1 : Int64)))) (own_drop (FP.i2d p2) (FP.l2d (((p1 &&& (2147483647 : Int32)).toInt64) + (1 : Int64))))) .g)))).2.2.1) ?_
    show Steps p.tables e below (T8.setTop (mkF m 236 #[.val (.int p1), .val (.int p2), .val (.int p3), .val (.int p4), .val (.int (p4 &&& (3 : Int32))), .val (.ref aS), .val (.double (FP.i2d p2)), .second, .val (.long (((p1 &&& (2147483647 : Int32)).toInt64) + (1 : Int64))), .second, .val (.ref b6), .val (.double (own_drop (FP.i2d p2) (FP.l2d (((p1 &&& (2147483647 : Int32)).toInt64) + (1 : Int64))))), .second, .val (.long ((100 : Int64) * ((((p1 &&& (2147483647 : Int32)).toInt64) + (1 : Int64)) - (p2.toInt64)))), .second, .val (.long (((100 : Int64) * ((((p1 &&& (2147483647 : Int32)).toInt64) + (1 : Int64)) - (p2.toInt64))) / (((p1 &&& (2147483647 : Int32)).toInt64) + (1 : Int64)))), .second, .val (.long (((100 : Int64) * ((((p1 &&& (2147483647 : Int32)).toInt64) + (1 : Int64)) - (p2.toInt64))) / (((p1 &&& (2147483647 : Int32)).toInt64) + (1 : Int64)))), .second, .val (.long (((100 : Int64) * ((((p1 &&& (2147483647 : Int32)).toInt64) + (1 : Int64)) - (p2.toInt64))) / (((p1 &&& (2147483647 : Int32)).toInt64) + (1 : Int64)))), .second] [])) _
    refine XS.dload X8.here hx rfl (hb hby at_236) rfl ?_
    show Steps p.tables e below (T8.setTop (mkF m 238 #[.val (.int p1), .val (.int p2), .val (.int p3), .val (.int p4), .val (.int (p4 &&& (3 : Int32))), .val (.ref aS), .val (.double (FP.i2d p2)), .second, .val (.long (((p1 &&& (2147483647 : Int32)).toInt64) + (1 : Int64))), .second, .val (.ref b6), .val (.double (own_drop (FP.i2d p2) (FP.l2d (((p1 &&& (2147483647 : Int32)).toInt64) + (1 : Int64))))), .second, .val (.long ((100 : Int64) * ((((p1 &&& (2147483647 : Int32)).toInt64) + (1 : Int64)) - (p2.toInt64)))), .second, .val (.long (((100 : Int64) * ((((p1 &&& (2147483647 : Int32)).toInt64) + (1 : Int64)) - (p2.toInt64))) / (((p1 &&& (2147483647 : Int32)).toInt64) + (1 : Int64)))), .second, .val (.long (((100 : Int64) * ((((p1 &&& (2147483647 : Int32)).toInt64) + (1 : Int64)) - (p2.toInt64))) / (((p1 &&& (2147483647 : Int32)).toInt64) + (1 : Int64)))), .second, .val (.long (((100 : Int64) * ((((p1 &&& (2147483647 : Int32)).toInt64) + (1 : Int64)) - (p2.toInt64))) / (((p1 &&& (2147483647 : Int32)).toInt64) + (1 : Int64)))), .second] [(.double (own_drop (FP.i2d p2) (FP.l2d (((p1 &&& (2147483647 : Int32)).toInt64) + (1 : Int64)))))])) _
    refine XS.lload X8.here hx rfl (hb hby at_238) rfl ?_
    show Steps p.tables e below (T8.setTop (mkF m 240 #[.val (.int p1), .val (.int p2), .val (.int p3), .val (.int p4), .val (.int (p4 &&& (3 : Int32))), .val (.ref aS), .val (.double (FP.i2d p2)), .second, .val (.long (((p1 &&& (2147483647 : Int32)).toInt64) + (1 : Int64))), .second, .val (.ref b6), .val (.double (own_drop (FP.i2d p2) (FP.l2d (((p1 &&& (2147483647 : Int32)).toInt64) + (1 : Int64))))), .second, .val (.long ((100 : Int64) * ((((p1 &&& (2147483647 : Int32)).toInt64) + (1 : Int64)) - (p2.toInt64)))), .second, .val (.long (((100 : Int64) * ((((p1 &&& (2147483647 : Int32)).toInt64) + (1 : Int64)) - (p2.toInt64))) / (((p1 &&& (2147483647 : Int32)).toInt64) + (1 : Int64)))), .second, .val (.long (((100 : Int64) * ((((p1 &&& (2147483647 : Int32)).toInt64) + (1 : Int64)) - (p2.toInt64))) / (((p1 &&& (2147483647 : Int32)).toInt64) + (1 : Int64)))), .second, .val (.long (((100 : Int64) * ((((p1 &&& (2147483647 : Int32)).toInt64) + (1 : Int64)) - (p2.toInt64))) / (((p1 &&& (2147483647 : Int32)).toInt64) + (1 : Int64)))), .second] [(.long (((100 : Int64) * ((((p1 &&& (2147483647 : Int32)).toInt64) + (1 : Int64)) - (p2.toInt64))) / (((p1 &&& (2147483647 : Int32)).toInt64) + (1 : Int64)))), (.double (own_drop (FP.i2d p2) (FP.l2d (((p1 &&& (2147483647 : Int32)).toInt64) + (1 : Int64)))))])) _
    refine XS.l2dS X8.here hx rfl (hb hby at_240) rfl rfl ?_
    show Steps p.tables e below (T8.setTop (mkF m 241 #[.val (.int p1), .val (.int p2), .val (.int p3), .val (.int p4), .val (.int (p4 &&& (3 : Int32))), .val (.ref aS), .val (.double (FP.i2d p2)), .second, .val (.long (((p1 &&& (2147483647 : Int32)).toInt64) + (1 : Int64))), .second, .val (.ref b6), .val (.double (own_drop (FP.i2d p2) (FP.l2d (((p1 &&& (2147483647 : Int32)).toInt64) + (1 : Int64))))), .second, .val (.long ((100 : Int64) * ((((p1 &&& (2147483647 : Int32)).toInt64) + (1 : Int64)) - (p2.toInt64)))), .second, .val (.long (((100 : Int64) * ((((p1 &&& (2147483647 : Int32)).toInt64) + (1 : Int64)) - (p2.toInt64))) / (((p1 &&& (2147483647 : Int32)).toInt64) + (1 : Int64)))), .second, .val (.long (((100 : Int64) * ((((p1 &&& (2147483647 : Int32)).toInt64) + (1 : Int64)) - (p2.toInt64))) / (((p1 &&& (2147483647 : Int32)).toInt64) + (1 : Int64)))), .second, .val (.long (((100 : Int64) * ((((p1 &&& (2147483647 : Int32)).toInt64) + (1 : Int64)) - (p2.toInt64))) / (((p1 &&& (2147483647 : Int32)).toInt64) + (1 : Int64)))), .second] [(.double (FP.l2d (((100 : Int64) * ((((p1 &&& (2147483647 : Int32)).toInt64) + (1 : Int64)) - (p2.toInt64))) / (((p1 &&& (2147483647 : Int32)).toInt64) + (1 : Int64))))), (.double (own_drop (FP.i2d p2) (FP.l2d (((p1 &&& (2147483647 : Int32)).toInt64) + (1 : Int64)))))])) _
    refine XS.dcmpS X8.here hx rfl (hb hby at_241) rfl rfl ?_
    show Steps p.tables e below (T8.setTop (mkF m 242 #[.val (.int p1), .val (.int p2), .val (.int p3), .val (.int p4), .val (.int (p4 &&& (3 : Int32))), .val (.ref aS), .val (.double (FP.i2d p2)), .second, .val (.long (((p1 &&& (2147483647 : Int32)).toInt64) + (1 : Int64))), .second, .val (.ref b6), .val (.double (own_drop (FP.i2d p2) (FP.l2d (((p1 &&& (2147483647 : Int32)).toInt64) + (1 : Int64))))), .second, .val (.long ((100 : Int64) * ((((p1 &&& (2147483647 : Int32)).toInt64) + (1 : Int64)) - (p2.toInt64)))), .second, .val (.long (((100 : Int64) * ((((p1 &&& (2147483647 : Int32)).toInt64) + (1 : Int64)) - (p2.toInt64))) / (((p1 &&& (2147483647 : Int32)).toInt64) + (1 : Int64)))), .second, .val (.long (((100 : Int64) * ((((p1 &&& (2147483647 : Int32)).toInt64) + (1 : Int64)) - (p2.toInt64))) / (((p1 &&& (2147483647 : Int32)).toInt64) + (1 : Int64)))), .second, .val (.long (((100 : Int64) * ((((p1 &&& (2147483647 : Int32)).toInt64) + (1 : Int64)) - (p2.toInt64))) / (((p1 &&& (2147483647 : Int32)).toInt64) + (1 : Int64)))), .second] [(.int (cmpValue (FP.dcmp (own_drop (FP.i2d p2) (FP.l2d (((p1 &&& (2147483647 : Int32)).toInt64) + (1 : Int64)))) (FP.l2d (((100 : Int64) * ((((p1 &&& (2147483647 : Int32)).toInt64) + (1 : Int64)) - (p2.toInt64))) / (((p1 &&& (2147483647 : Int32)).toInt64) + (1 : Int64))))) .g))])) _
    refine XS.ifNo X8.here hx rfl (hb hby at_242) rfl ((if0 _ _).trans (flt (by first | exact (own_rA (own_m2 p1).1 (own_m2 p1).2 rfl hc202).1 | exact (own_rA (own_m2 p1).1 (own_m2 p1).2 rfl hc202).2 : ¬ ((0 : Int32) < (cmpValue (FP.dcmp (own_drop (FP.i2d p2) (FP.l2d (((p1 &&& (2147483647 : Int32)).toInt64) + (1 : Int64)))) (FP.l2d (((100 : Int64) * ((((p1 &&& (2147483647 : Int32)).toInt64) + (1 : Int64)) - (p2.toInt64))) / (((p1 &&& (2147483647 : Int32)).toInt64) + (1 : Int64))))) .g)))).2.2.1) ?_
    show Steps p.tables e below (T8.setTop (mkF m 245 #[.val (.int p1), .val (.int p2), .val (.int p3), .val (.int p4), .val (.int (p4 &&& (3 : Int32))), .val (.ref aS), .val (.double (FP.i2d p2)), .second, .val (.long (((p1 &&& (2147483647 : Int32)).toInt64) + (1 : Int64))), .second, .val (.ref b6), .val (.double (own_drop (FP.i2d p2) (FP.l2d (((p1 &&& (2147483647 : Int32)).toInt64) + (1 : Int64))))), .second, .val (.long ((100 : Int64) * ((((p1 &&& (2147483647 : Int32)).toInt64) + (1 : Int64)) - (p2.toInt64)))), .second, .val (.long (((100 : Int64) * ((((p1 &&& (2147483647 : Int32)).toInt64) + (1 : Int64)) - (p2.toInt64))) / (((p1 &&& (2147483647 : Int32)).toInt64) + (1 : Int64)))), .second, .val (.long (((100 : Int64) * ((((p1 &&& (2147483647 : Int32)).toInt64) + (1 : Int64)) - (p2.toInt64))) / (((p1 &&& (2147483647 : Int32)).toInt64) + (1 : Int64)))), .second, .val (.long (((100 : Int64) * ((((p1 &&& (2147483647 : Int32)).toInt64) + (1 : Int64)) - (p2.toInt64))) / (((p1 &&& (2147483647 : Int32)).toInt64) + (1 : Int64)))), .second] [])) _
    refine XS.iconst X8.here hx rfl (hb hby at_245) ?_
    show Steps p.tables e below (T8.setTop (mkF m 246 #[.val (.int p1), .val (.int p2), .val (.int p3), .val (.int p4), .val (.int (p4 &&& (3 : Int32))), .val (.ref aS), .val (.double (FP.i2d p2)), .second, .val (.long (((p1 &&& (2147483647 : Int32)).toInt64) + (1 : Int64))), .second, .val (.ref b6), .val (.double (own_drop (FP.i2d p2) (FP.l2d (((p1 &&& (2147483647 : Int32)).toInt64) + (1 : Int64))))), .second, .val (.long ((100 : Int64) * ((((p1 &&& (2147483647 : Int32)).toInt64) + (1 : Int64)) - (p2.toInt64)))), .second, .val (.long (((100 : Int64) * ((((p1 &&& (2147483647 : Int32)).toInt64) + (1 : Int64)) - (p2.toInt64))) / (((p1 &&& (2147483647 : Int32)).toInt64) + (1 : Int64)))), .second, .val (.long (((100 : Int64) * ((((p1 &&& (2147483647 : Int32)).toInt64) + (1 : Int64)) - (p2.toInt64))) / (((p1 &&& (2147483647 : Int32)).toInt64) + (1 : Int64)))), .second, .val (.long (((100 : Int64) * ((((p1 &&& (2147483647 : Int32)).toInt64) + (1 : Int64)) - (p2.toInt64))) / (((p1 &&& (2147483647 : Int32)).toInt64) + (1 : Int64)))), .second] [(.int (1 : Int32))])) _
    refine XS.goto X8.here hx rfl (pc0 := 246) (pc' := 250) rfl (hb hby at_246) (by decide) (by decide) ?_
    show Steps p.tables e below (T8.setTop (mkF m 250 #[.val (.int p1), .val (.int p2), .val (.int p3), .val (.int p4), .val (.int (p4 &&& (3 : Int32))), .val (.ref aS), .val (.double (FP.i2d p2)), .second, .val (.long (((p1 &&& (2147483647 : Int32)).toInt64) + (1 : Int64))), .second, .val (.ref b6), .val (.double (own_drop (FP.i2d p2) (FP.l2d (((p1 &&& (2147483647 : Int32)).toInt64) + (1 : Int64))))), .second, .val (.long ((100 : Int64) * ((((p1 &&& (2147483647 : Int32)).toInt64) + (1 : Int64)) - (p2.toInt64)))), .second, .val (.long (((100 : Int64) * ((((p1 &&& (2147483647 : Int32)).toInt64) + (1 : Int64)) - (p2.toInt64))) / (((p1 &&& (2147483647 : Int32)).toInt64) + (1 : Int64)))), .second, .val (.long (((100 : Int64) * ((((p1 &&& (2147483647 : Int32)).toInt64) + (1 : Int64)) - (p2.toInt64))) / (((p1 &&& (2147483647 : Int32)).toInt64) + (1 : Int64)))), .second, .val (.long (((100 : Int64) * ((((p1 &&& (2147483647 : Int32)).toInt64) + (1 : Int64)) - (p2.toInt64))) / (((p1 &&& (2147483647 : Int32)).toInt64) + (1 : Int64)))), .second] [(.int (1 : Int32))])) _
    exact retN X8 hx (t := .boolean) Bd.returns (by simp) (hb hby at_250) hr
  · show Ql (some (.int (1 : Int32))) n0 _ _
    exact ⟨rfl, N8⟩
set_option maxRecDepth 65536 in
set_option maxHeartbeats 40000000 in
theorem rm0_ttffff (l : Launch) (Z : State) (a0 : Array Value) (hw : ∀ d ∈ tables_1, d.before a0 Z = true) (ws : List Jvm.Cond) (p1 : Int32) (p2 : Int32) (p3 : Int32) (p4 : Int32) (h0 : Heap) (n0 : Nat) (Z0 : n0 ≤ h0.size) (w2 : Int32) (S : Sta Z h0 "java/lang/String" "COMPACT_STRINGS" "Z" (.int w2)) (hw2 : ¬ (w2 = (0 : Int32))) (hc24 : ¬ ((p4 &&& (3 : Int32)) = (0 : Int32))) (hc73 : ¬ ((p4 &&& (3 : Int32)) = (1 : Int32))) (hnz184 : ¬ ((((p1 &&& (2147483647 : Int32)).toInt64) + (1 : Int64)) = (0 : Int64))) (hnz199 : ¬ ((((p1 &&& (2147483647 : Int32)).toInt64) + (1 : Int64)) = (0 : Int64))) (hc202 : ¬ ((lcmpW (((100 : Int64) * ((((p1 &&& (2147483647 : Int32)).toInt64) + (1 : Int64)) - (p2.toInt64))) - (((100 : Int64) * ((((p1 &&& (2147483647 : Int32)).toInt64) + (1 : Int64)) - (p2.toInt64))) / (((p1 &&& (2147483647 : Int32)).toInt64) + (1 : Int64))) * (((p1 &&& (2147483647 : Int32)).toInt64) + (1 : Int64))) (0 : Int64)) = (0 : Int32))) (hc209 : (0 : Int32) < (lcmpW ((100 : Int64) * ((((p1 &&& (2147483647 : Int32)).toInt64) + (1 : Int64)) - (p2.toInt64))) (0 : Int64))) :
    MetFree l x (head1 (Jvm.Cond.code x code maxLocals ret :: ws) room_1) (fun a U => a = #[(.int p1), (.int p2), (.int p3), (.int p4)] ∧ Z.Warmed39 U.vm ∧ U.heap = h0) (fun _ _ _ _ _ => True) (fun _ U o U' => ∃ v L, o = .returned v ∧ Ql (some (.int (1 : Int32))) n0 v L ∧ FrameEnd U o U' L room_1.cells room_1.slots) := by
  refine MetFree.of_bodySF (plainFor_of_name pn_0) hisR ?_
  intro p e s m args below meth c s₁ Bd hml0 hP hK
  obtain ⟨rfl, hZ, hh⟩ := hP
  have hx := Bd.exec
  have hby := Bd.bytes
  have hml : c.maxLocals = 21 := hml0
  have hown : s.vm.findClass "com/example/precision/precision/models/TopicUncertaintyDropPercentPinLaw" = some m.cls := findClass_of_methodNamed Bd.named
  have hnm := (name_of_methodNamed Bd.named Bd.method).1
  have X0 : Stand p l e room_1 s m #[(.int p1), (.int p2), (.int p3), (.int p4)] below meth c s₁ [] 0 0 := Stand.of_body Bd
  have e0 : s₁.heap = h0 := by rw [← hh, Bd.state]; rfl
  have N0 := Fr.nil n0
  have pre0 : ∀ t, Steps p.tables e below (s₁.setTop (mkF m 0 #[.val (.int p1), .val (.int p2), .val (.int p3), .val (.int p4), .unset, .unset, .unset, .unset, .unset, .unset, .unset, .unset, .unset, .unset, .unset, .unset, .unset, .unset, .unset, .unset, .unset] [])) t → Steps p.tables e below (s₁.setTop (entryFrame m #[(.int p1), (.int p2), (.int p3), (.int p4)] maxLocals)) t := fun t k => castTop (ef_0 m p1 p2 p3 p4) k
  -- 3. LAWS
  -- pc 13: java/lang/String.valueOf by its contract rm1
  obtain ⟨_, _, ⟨T5, L5, k5, n5⟩, -, X5, ⟨Lc5, hQ5, l5, y5, z5⟩, st5⟩ := Jvm.LawKit.callS X0 hx (y := (⟨"java/lang/String", "valueOf", "(C)Ljava/lang/String;"⟩ : MethodName)) hown (mvT hZ (hw _ (List.mem_of_getElem? (i := 0) rfl))) (mvT hZ (hw _ (List.mem_of_getElem? (i := 1) rfl))) (mvT hZ (hw _ (List.mem_of_getElem? (i := 2) rfl))) (mvT hZ (hw _ (List.mem_of_getElem? (i := 3) rfl))) (by decide) (backOf (W := 0) (rm1 l Z a0 hw [] ((((p4.toUInt32 >>> ((2 : Int32) &&& 31).toUInt32).toInt32) &&& (255 : Int32)).toUInt32.toUInt16.toUInt32.toInt32) w2 h0 n0 Z0 S hw2 (own_ch ((p4.toUInt32 >>> ((2 : Int32) &&& 31).toUInt32).toInt32))) hZ (hw _ (List.mem_of_getElem? (i := 3) rfl)) (hw _ (List.mem_of_getElem? (i := 2) rfl)) (by decide) (by decide)) (g := (mkF m 13 #[.val (.int p1), .val (.int p2), .val (.int p3), .val (.int p4), .val (.int (p4 &&& (3 : Int32))), .unset, .unset, .unset, .unset, .unset, .unset, .unset, .unset, .unset, .unset, .unset, .unset, .unset, .unset, .unset, .unset] [(.int ((((p4.toUInt32 >>> ((2 : Int32) &&& 31).toUInt32).toInt32) &&& (255 : Int32)).toUInt32.toUInt16.toUInt32.toInt32))])) rfl (by rw [hml]; rfl) (argsL := [(.int ((((p4.toUInt32 >>> ((2 : Int32) &&& 31).toUInt32).toInt32) &&& (255 : Int32)).toUInt32.toUInt16.toUInt32.toInt32))]) (rest := []) (lenOf pd_0_0 rfl) rfl (by show 2 * 0 + _ ≤ _; exact Nat.le_of_eq rfl) (hb hby at_13) (fun _ _ => ⟨rfl, e0, (by decide : 0 + 2 ≤ _), (by decide : 0 + 5 ≤ _)⟩)
  dsimp only [Pt.U, Pt.locs, Pt.cells, Pt.slots] at X5 l5 y5 z5 st5 hQ5
  subst l5 y5 z5
  obtain ⟨aS, rfl, N5q, Kc5⟩ := hQ5
  have N5 := Fr.app N0 N5q
  have Kh5 : Keep h0 T5.heap [] := Kc5
  obtain ⟨T6, h6, X6, e6, E6, A6, D6, -, st6⟩ := newO X5 hx hZ hown (hw _ (List.mem_of_getElem? (i := 26) rfl)) (hw _ (List.mem_of_getElem? (i := 27) rfl)) (hw _ (List.mem_of_getElem? (i := 28) rfl)) rfl (g := (mkF m 146 #[.val (.int p1), .val (.int p2), .val (.int p3), .val (.int p4), .val (.int (p4 &&& (3 : Int32))), .val (.ref aS), .val (.double (FP.i2d p2)), .second, .val (.long (((p1 &&& (2147483647 : Int32)).toInt64) + (1 : Int64))), .second, .unset, .unset, .unset, .unset, .unset, .unset, .unset, .unset, .unset, .unset, .unset] [])) rfl (hb hby at_146) (by decide) (by decide)
  obtain ⟨b6, g6⟩ : ∃ z, z = T5.heap.size := ⟨_, rfl⟩      -- the fresh object's address
  rw [← g6] at A6 D6 st6      -- A6 : Exa Z h6 b6 "com/example/precision/precision/models/Uncertainty$TopicUncertainty"; E6 : Ext T5.heap h6 (carries every older fact: .ext E6)
  have F_topic_b6 : Fld Z h6 b6 "com/example/precision/precision/models/Uncertainty$TopicUncertainty" "topic" "Ljava/lang/String;" .null := D6 (Or.inr (hw _ (List.mem_of_getElem? (i := 39) rfl))) (ty := (.object "java/lang/String")) (by decide)
  have F_bits_b6 : Fld Z h6 b6 "com/example/precision/precision/models/Uncertainty$TopicUncertainty" "bits" "D" (.double (0 : UInt64)) := D6 (Or.inr (hw _ (List.mem_of_getElem? (i := 41) rfl))) (ty := .double) (by decide)
  have F_maximum_b6 : Fld Z h6 b6 "com/example/precision/precision/models/Uncertainty$TopicUncertainty" "maximum" "D" (.double (0 : UInt64)) := D6 (Or.inr (hw _ (List.mem_of_getElem? (i := 43) rfl))) (ty := .double) (by decide)
  have E_b6 := A6
  have g_b6 : n0 ≤ b6 := Nat.le_trans (Nat.le_trans Z0 Kc5.1) (Nat.le_of_eq g6.symm)
  have sz_b6 : h0.size ≤ b6 := (Nat.le_trans Kh5.1 (Nat.le_of_eq g6.symm))
  have K6 : Keep h0 h6 [] := Kh5.ext E6
  -- pc 157: the constructor of com/example/precision/precision/models/Uncertainty$TopicUncertainty by its contract rm6
  obtain ⟨_, _, ⟨T7, L7, k7, n7⟩, -, X7, ⟨Lc7, hQ7, l7, y7, z7⟩, st7⟩ := X6.specialBack hx (y := (⟨"com/example/precision/precision/models/Uncertainty$TopicUncertainty", "<init>", "(Ljava/lang/String;DD)V"⟩ : MethodName)) rfl hown (mvT hZ (hw _ (List.mem_of_getElem? (i := 29) rfl))) (mvT hZ (hw _ (List.mem_of_getElem? (i := 30) rfl))) (mvT hZ (hw _ (List.mem_of_getElem? (i := 31) rfl))) (by decide) (backOf (W := 1) (rm6 l Z a0 hw [] b6 aS (FP.i2d p2) (FP.l2d (((p1 &&& (2147483647 : Int32)).toInt64) + (1 : Int64))) .null (.double (0 : UInt64)) (.double (0 : UInt64)) h6 n0 (Nat.le_trans Z0 K6.1) E_b6 F_topic_b6 g_b6 F_bits_b6 F_maximum_b6) hZ (hw _ (List.mem_of_getElem? (i := 31) rfl)) (hw _ (List.mem_of_getElem? (i := 28) rfl)) (by decide) (by decide)) (g := (mkF m 157 #[.val (.int p1), .val (.int p2), .val (.int p3), .val (.int p4), .val (.int (p4 &&& (3 : Int32))), .val (.ref aS), .val (.double (FP.i2d p2)), .second, .val (.long (((p1 &&& (2147483647 : Int32)).toInt64) + (1 : Int64))), .second, .unset, .unset, .unset, .unset, .unset, .unset, .unset, .unset, .unset, .unset, .unset] [(.double (FP.l2d (((p1 &&& (2147483647 : Int32)).toInt64) + (1 : Int64)))), (.double (FP.i2d p2)), (.ref aS), (.ref b6), (.ref b6)])) rfl (by rw [hml]; rfl) (Steps.refl _) (a := b6) (argsL := [(.ref aS), (.double (FP.i2d p2)), (.double (FP.l2d (((p1 &&& (2147483647 : Int32)).toInt64) + (1 : Int64))))]) (rest := [(.ref b6)]) (lenOf pd_0_5 rfl) rfl (by show 2 * 0 + _ ≤ _; exact Nat.le_of_eq rfl) (hb hby at_157) (fun _ _ => ⟨rfl, e6, (by decide : 3 + 0 ≤ _), (by decide : 8 + 0 ≤ _)⟩)
  dsimp only [Pt.U, Pt.locs, Pt.cells, Pt.slots] at X7 l7 y7 z7 st7 hQ7
  subst l7 y7 z7
  obtain ⟨rfl, N7q, Kc7, FB, FM⟩ := hQ7
  have N7 := Fr.app N5 N7q
  have Kh7 : Keep h0 T7.heap [] := K6.trans Kc7 (allS (Or.inr sz_b6) all0)
  -- pc 164: com/example/precision/precision/models/Uncertainty$TopicUncertainty.dropPercent by the contract of the body that the receiver's class selects, rm8
  obtain ⟨cq8, kq8, q8a, q8b, q8c⟩ := isOf hZ rfl (E_b6.keep Kc7)
  obtain ⟨_, _, ⟨T8, L8, k8, n8⟩, -, X8, ⟨Lc8, hQ8, l8, y8, z8⟩, st8⟩ := X7.virtualBack hx (y := (⟨"com/example/precision/precision/models/Uncertainty$TopicUncertainty", "dropPercent", "()D"⟩ : MethodName)) (z := (⟨"com/example/precision/precision/models/Uncertainty$TopicUncertainty", "dropPercent", "()D"⟩ : MethodName)) hown (mvT hZ (hw _ (List.mem_of_getElem? (i := 44) rfl))) (mvT hZ (hw _ (List.mem_of_getElem? (i := 45) rfl))) (notFace_of_selects (args := #[]) (mvT hZ (hw _ (List.mem_of_getElem? (i := 47) rfl)))) (mvT hZ (hw _ (List.mem_of_getElem? (i := 47) rfl))) (mvT hZ (hw _ (List.mem_of_getElem? (i := 46) rfl))) (by decide) (backOf (W := 0) (rm8_f l Z a0 hw [] b6 (FP.l2d (((p1 &&& (2147483647 : Int32)).toInt64) + (1 : Int64))) (FP.i2d p2) T7.heap n0 (Nat.le_trans Z0 Kh7.1) FM FB (own_mM (b := p2) (own_m2 p1).1 (own_m2 p1).2).1 (own_mM (b := p2) (own_m2 p1).1 (own_m2 p1).2).2.1 (own_mM (b := p2) (own_m2 p1).1 (own_m2 p1).2).2.2.1 (own_mM (b := p2) (own_m2 p1).1 (own_m2 p1).2).2.2.2) hZ (hw _ (List.mem_of_getElem? (i := 48) rfl)) (hw _ (List.mem_of_getElem? (i := 28) rfl)) (by decide) (by decide)) q8a q8c (g := (mkF m 164 #[.val (.int p1), .val (.int p2), .val (.int p3), .val (.int p4), .val (.int (p4 &&& (3 : Int32))), .val (.ref aS), .val (.double (FP.i2d p2)), .second, .val (.long (((p1 &&& (2147483647 : Int32)).toInt64) + (1 : Int64))), .second, .val (.ref b6), .unset, .unset, .unset, .unset, .unset, .unset, .unset, .unset, .unset, .unset] [(.ref b6)])) rfl (by rw [hml]; rfl) (Steps.refl _) (argsL := []) (rest := []) (lenOf pd_0_6 rfl) rfl (by show 2 * 0 + _ ≤ _; exact Nat.le_of_eq rfl) (hb hby at_164) (fun _ _ => ⟨rfl, rfl, (by decide : 3 + 0 ≤ _), (by decide : 8 + 0 ≤ _)⟩)
  dsimp only [Pt.U, Pt.locs, Pt.cells, Pt.slots] at X8 l8 y8 z8 st8 hQ8
  subst l8 y8 z8
  obtain ⟨rfl, N8q, e8⟩ := hQ8
  have N8 := Fr.app N7 N8q
  obtain ⟨fs, hr, hrun, hended, hW, hsame⟩ := X8.leave (v := some (.int (1 : Int32))) (fun h => by rw [Bd.returns] at h; cases h)
  refine ⟨_, _, pre0 _ ?_, hrun, hended, _, _, rfl, ?_, ⟨_, rfl⟩, hW, hsame.mono (by decide) (by decide)⟩
  -- 4. STEPS
  · show Steps p.tables e below (s₁.setTop (mkF m 0 #[.val (.int p1), .val (.int p2), .val (.int p3), .val (.int p4), .unset, .unset, .unset, .unset, .unset, .unset, .unset, .unset, .unset, .unset, .unset, .unset, .unset, .unset, .unset, .unset, .unset] [])) _
    refine XS.iloadN X0.here hx rfl (hb hby at_0) rfl ?_
    show Steps p.tables e below (s₁.setTop (mkF m 1 #[.val (.int p1), .val (.int p2), .val (.int p3), .val (.int p4), .unset, .unset, .unset, .unset, .unset, .unset, .unset, .unset, .unset, .unset, .unset, .unset, .unset, .unset, .unset, .unset, .unset] [(.int p4)])) _
    refine XS.iconst X0.here hx rfl (hb hby at_1) ?_
    show Steps p.tables e below (s₁.setTop (mkF m 2 #[.val (.int p1), .val (.int p2), .val (.int p3), .val (.int p4), .unset, .unset, .unset, .unset, .unset, .unset, .unset, .unset, .unset, .unset, .unset, .unset, .unset, .unset, .unset, .unset, .unset] [(.int (3 : Int32)), (.int p4)])) _
    refine XS.iand X0.here hx rfl (hb hby at_2) rfl ?_
    show Steps p.tables e below (s₁.setTop (mkF m 3 #[.val (.int p1), .val (.int p2), .val (.int p3), .val (.int p4), .unset, .unset, .unset, .unset, .unset, .unset, .unset, .unset, .unset, .unset, .unset, .unset, .unset, .unset, .unset, .unset, .unset] [(.int (p4 &&& (3 : Int32)))])) _
    refine XS.istore X0.here hx rfl (hb hby at_3) rfl (l' := #[.val (.int p1), .val (.int p2), .val (.int p3), .val (.int p4), .val (.int (p4 &&& (3 : Int32))), .unset, .unset, .unset, .unset, .unset, .unset, .unset, .unset, .unset, .unset, .unset, .unset, .unset, .unset, .unset, .unset]) rfl ?_
    show Steps p.tables e below (s₁.setTop (mkF m 5 #[.val (.int p1), .val (.int p2), .val (.int p3), .val (.int p4), .val (.int (p4 &&& (3 : Int32))), .unset, .unset, .unset, .unset, .unset, .unset, .unset, .unset, .unset, .unset, .unset, .unset, .unset, .unset, .unset, .unset] [])) _
    refine XS.iloadN X0.here hx rfl (hb hby at_5) rfl ?_
    show Steps p.tables e below (s₁.setTop (mkF m 6 #[.val (.int p1), .val (.int p2), .val (.int p3), .val (.int p4), .val (.int (p4 &&& (3 : Int32))), .unset, .unset, .unset, .unset, .unset, .unset, .unset, .unset, .unset, .unset, .unset, .unset, .unset, .unset, .unset, .unset] [(.int p4)])) _
    refine XS.iconst X0.here hx rfl (hb hby at_6) ?_
    show Steps p.tables e below (s₁.setTop (mkF m 7 #[.val (.int p1), .val (.int p2), .val (.int p3), .val (.int p4), .val (.int (p4 &&& (3 : Int32))), .unset, .unset, .unset, .unset, .unset, .unset, .unset, .unset, .unset, .unset, .unset, .unset, .unset, .unset, .unset, .unset] [(.int (2 : Int32)), (.int p4)])) _
    refine XS.iushr X0.here hx rfl (hb hby at_7) rfl ?_
    show Steps p.tables e below (s₁.setTop (mkF m 8 #[.val (.int p1), .val (.int p2), .val (.int p3), .val (.int p4), .val (.int (p4 &&& (3 : Int32))), .unset, .unset, .unset, .unset, .unset, .unset, .unset, .unset, .unset, .unset, .unset, .unset, .unset, .unset, .unset, .unset] [(.int ((p4.toUInt32 >>> ((2 : Int32) &&& 31).toUInt32).toInt32))])) _
    refine XS.sipush X0.here hx rfl (hb hby at_8) ?_
    show Steps p.tables e below (s₁.setTop (mkF m 11 #[.val (.int p1), .val (.int p2), .val (.int p3), .val (.int p4), .val (.int (p4 &&& (3 : Int32))), .unset, .unset, .unset, .unset, .unset, .unset, .unset, .unset, .unset, .unset, .unset, .unset, .unset, .unset, .unset, .unset] [(.int (255 : Int32)), (.int ((p4.toUInt32 >>> ((2 : Int32) &&& 31).toUInt32).toInt32))])) _
    refine XS.iand X0.here hx rfl (hb hby at_11) rfl ?_
    show Steps p.tables e below (s₁.setTop (mkF m 12 #[.val (.int p1), .val (.int p2), .val (.int p3), .val (.int p4), .val (.int (p4 &&& (3 : Int32))), .unset, .unset, .unset, .unset, .unset, .unset, .unset, .unset, .unset, .unset, .unset, .unset, .unset, .unset, .unset, .unset] [(.int (((p4.toUInt32 >>> ((2 : Int32) &&& 31).toUInt32).toInt32) &&& (255 : Int32)))])) _
    refine XS.i2c X0.here hx rfl (hb hby at_12) rfl ?_
    show Steps p.tables e below (s₁.setTop (mkF m 13 #[.val (.int p1), .val (.int p2), .val (.int p3), .val (.int p4), .val (.int (p4 &&& (3 : Int32))), .unset, .unset, .unset, .unset, .unset, .unset, .unset, .unset, .unset, .unset, .unset, .unset, .unset, .unset, .unset, .unset] [(.int ((((p4.toUInt32 >>> ((2 : Int32) &&& 31).toUInt32).toInt32) &&& (255 : Int32)).toUInt32.toUInt16.toUInt32.toInt32))])) _
    refine st5 _ ?_
    show Steps p.tables e below (T5.setTop (mkF m 16 #[.val (.int p1), .val (.int p2), .val (.int p3), .val (.int p4), .val (.int (p4 &&& (3 : Int32))), .unset, .unset, .unset, .unset, .unset, .unset, .unset, .unset, .unset, .unset, .unset, .unset, .unset, .unset, .unset, .unset] [(.ref aS)])) _
    refine XS.astore X5.here hx rfl (hb hby at_16) rfl rfl (l' := #[.val (.int p1), .val (.int p2), .val (.int p3), .val (.int p4), .val (.int (p4 &&& (3 : Int32))), .val (.ref aS), .unset, .unset, .unset, .unset, .unset, .unset, .unset, .unset, .unset, .unset, .unset, .unset, .unset, .unset, .unset]) rfl ?_
    show Steps p.tables e below (T5.setTop (mkF m 18 #[.val (.int p1), .val (.int p2), .val (.int p3), .val (.int p4), .val (.int (p4 &&& (3 : Int32))), .val (.ref aS), .unset, .unset, .unset, .unset, .unset, .unset, .unset, .unset, .unset, .unset, .unset, .unset, .unset, .unset, .unset] [])) _
    refine XS.iloadN X5.here hx rfl (hb hby at_18) rfl ?_
    show Steps p.tables e below (T5.setTop (mkF m 19 #[.val (.int p1), .val (.int p2), .val (.int p3), .val (.int p4), .val (.int (p4 &&& (3 : Int32))), .val (.ref aS), .unset, .unset, .unset, .unset, .unset, .unset, .unset, .unset, .unset, .unset, .unset, .unset, .unset, .unset, .unset] [(.int p2)])) _
    refine XS.i2dS X5.here hx rfl (hb hby at_19) rfl rfl ?_
    show Steps p.tables e below (T5.setTop (mkF m 20 #[.val (.int p1), .val (.int p2), .val (.int p3), .val (.int p4), .val (.int (p4 &&& (3 : Int32))), .val (.ref aS), .unset, .unset, .unset, .unset, .unset, .unset, .unset, .unset, .unset, .unset, .unset, .unset, .unset, .unset, .unset] [(.double (FP.i2d p2))])) _
    refine XS.dstore X5.here hx rfl (hb hby at_20) rfl (l' := #[.val (.int p1), .val (.int p2), .val (.int p3), .val (.int p4), .val (.int (p4 &&& (3 : Int32))), .val (.ref aS), .val (.double (FP.i2d p2)), .second, .unset, .unset, .unset, .unset, .unset, .unset, .unset, .unset, .unset, .unset, .unset, .unset, .unset]) rfl ?_
    show Steps p.tables e below (T5.setTop (mkF m 22 #[.val (.int p1), .val (.int p2), .val (.int p3), .val (.int p4), .val (.int (p4 &&& (3 : Int32))), .val (.ref aS), .val (.double (FP.i2d p2)), .second, .unset, .unset, .unset, .unset, .unset, .unset, .unset, .unset, .unset, .unset, .unset, .unset, .unset] [])) _
    refine XS.iload X5.here hx rfl (hb hby at_22) rfl ?_
    show Steps p.tables e below (T5.setTop (mkF m 24 #[.val (.int p1), .val (.int p2), .val (.int p3), .val (.int p4), .val (.int (p4 &&& (3 : Int32))), .val (.ref aS), .val (.double (FP.i2d p2)), .second, .unset, .unset, .unset, .unset, .unset, .unset, .unset, .unset, .unset, .unset, .unset, .unset, .unset] [(.int (p4 &&& (3 : Int32)))])) _
    refine XS.ifYes X5.here hx rfl (pc0 := 24) (pc' := 70) rfl (hb hby at_24) rfl ((if0 _ _).trans (feq hc24).2) (by decide) (by decide) ?_
    show Steps p.tables e below (T5.setTop (mkF m 70 #[.val (.int p1), .val (.int p2), .val (.int p3), .val (.int p4), .val (.int (p4 &&& (3 : Int32))), .val (.ref aS), .val (.double (FP.i2d p2)), .second, .unset, .unset, .unset, .unset, .unset, .unset, .unset, .unset, .unset, .unset, .unset, .unset, .unset] [])) _
    refine XS.iload X5.here hx rfl (hb hby at_70) rfl ?_
    show Steps p.tables e below (T5.setTop (mkF m 72 #[.val (.int p1), .val (.int p2), .val (.int p3), .val (.int p4), .val (.int (p4 &&& (3 : Int32))), .val (.ref aS), .val (.double (FP.i2d p2)), .second, .unset, .unset, .unset, .unset, .unset, .unset, .unset, .unset, .unset, .unset, .unset, .unset, .unset] [(.int (p4 &&& (3 : Int32)))])) _
    refine XS.iconst X5.here hx rfl (hb hby at_72) ?_
    show Steps p.tables e below (T5.setTop (mkF m 73 #[.val (.int p1), .val (.int p2), .val (.int p3), .val (.int p4), .val (.int (p4 &&& (3 : Int32))), .val (.ref aS), .val (.double (FP.i2d p2)), .second, .unset, .unset, .unset, .unset, .unset, .unset, .unset, .unset, .unset, .unset, .unset, .unset, .unset] [(.int (1 : Int32)), (.int (p4 &&& (3 : Int32)))])) _
    refine XS.icmpYes X5.here hx rfl (pc0 := 73) (pc' := 137) rfl (hb hby at_73) rfl (feq hc73).2 (by decide) (by decide) ?_
    show Steps p.tables e below (T5.setTop (mkF m 137 #[.val (.int p1), .val (.int p2), .val (.int p3), .val (.int p4), .val (.int (p4 &&& (3 : Int32))), .val (.ref aS), .val (.double (FP.i2d p2)), .second, .unset, .unset, .unset, .unset, .unset, .unset, .unset, .unset, .unset, .unset, .unset, .unset, .unset] [])) _
    refine XS.iloadN X5.here hx rfl (hb hby at_137) rfl ?_
    show Steps p.tables e below (T5.setTop (mkF m 138 #[.val (.int p1), .val (.int p2), .val (.int p3), .val (.int p4), .val (.int (p4 &&& (3 : Int32))), .val (.ref aS), .val (.double (FP.i2d p2)), .second, .unset, .unset, .unset, .unset, .unset, .unset, .unset, .unset, .unset, .unset, .unset, .unset, .unset] [(.int p1)])) _
    refine X5.ldcInt hx hown (mvT hZ (hw _ (List.mem_of_getElem? (i := 51) rfl))) (g := (mkF m 138 #[.val (.int p1), .val (.int p2), .val (.int p3), .val (.int p4), .val (.int (p4 &&& (3 : Int32))), .val (.ref aS), .val (.double (FP.i2d p2)), .second, .unset, .unset, .unset, .unset, .unset, .unset, .unset, .unset, .unset, .unset, .unset, .unset, .unset] [(.int p1)])) rfl (hb hby at_138) _ ?_
    show Steps p.tables e below (T5.setTop (mkF m 140 #[.val (.int p1), .val (.int p2), .val (.int p3), .val (.int p4), .val (.int (p4 &&& (3 : Int32))), .val (.ref aS), .val (.double (FP.i2d p2)), .second, .unset, .unset, .unset, .unset, .unset, .unset, .unset, .unset, .unset, .unset, .unset, .unset, .unset] [(.int (2147483647 : Int32)), (.int p1)])) _
    refine XS.iand X5.here hx rfl (hb hby at_140) rfl ?_
    show Steps p.tables e below (T5.setTop (mkF m 141 #[.val (.int p1), .val (.int p2), .val (.int p3), .val (.int p4), .val (.int (p4 &&& (3 : Int32))), .val (.ref aS), .val (.double (FP.i2d p2)), .second, .unset, .unset, .unset, .unset, .unset, .unset, .unset, .unset, .unset, .unset, .unset, .unset, .unset] [(.int (p1 &&& (2147483647 : Int32)))])) _
    refine XS.i2l X5.here hx rfl (hb hby at_141) rfl ?_
    show Steps p.tables e below (T5.setTop (mkF m 142 #[.val (.int p1), .val (.int p2), .val (.int p3), .val (.int p4), .val (.int (p4 &&& (3 : Int32))), .val (.ref aS), .val (.double (FP.i2d p2)), .second, .unset, .unset, .unset, .unset, .unset, .unset, .unset, .unset, .unset, .unset, .unset, .unset, .unset] [(.long ((p1 &&& (2147483647 : Int32)).toInt64))])) _
    refine XS.lconst X5.here hx rfl (hb hby at_142) ?_
    show Steps p.tables e below (T5.setTop (mkF m 143 #[.val (.int p1), .val (.int p2), .val (.int p3), .val (.int p4), .val (.int (p4 &&& (3 : Int32))), .val (.ref aS), .val (.double (FP.i2d p2)), .second, .unset, .unset, .unset, .unset, .unset, .unset, .unset, .unset, .unset, .unset, .unset, .unset, .unset] [(.long (1 : Int64)), (.long ((p1 &&& (2147483647 : Int32)).toInt64))])) _
    refine XS.ladd X5.here hx rfl (hb hby at_143) rfl ?_
    show Steps p.tables e below (T5.setTop (mkF m 144 #[.val (.int p1), .val (.int p2), .val (.int p3), .val (.int p4), .val (.int (p4 &&& (3 : Int32))), .val (.ref aS), .val (.double (FP.i2d p2)), .second, .unset, .unset, .unset, .unset, .unset, .unset, .unset, .unset, .unset, .unset, .unset, .unset, .unset] [(.long (((p1 &&& (2147483647 : Int32)).toInt64) + (1 : Int64)))])) _
    refine XS.lstore X5.here hx rfl (hb hby at_144) rfl (l' := #[.val (.int p1), .val (.int p2), .val (.int p3), .val (.int p4), .val (.int (p4 &&& (3 : Int32))), .val (.ref aS), .val (.double (FP.i2d p2)), .second, .val (.long (((p1 &&& (2147483647 : Int32)).toInt64) + (1 : Int64))), .second, .unset, .unset, .unset, .unset, .unset, .unset, .unset, .unset, .unset, .unset, .unset]) rfl ?_
    show Steps p.tables e below (T5.setTop (mkF m 146 #[.val (.int p1), .val (.int p2), .val (.int p3), .val (.int p4), .val (.int (p4 &&& (3 : Int32))), .val (.ref aS), .val (.double (FP.i2d p2)), .second, .val (.long (((p1 &&& (2147483647 : Int32)).toInt64) + (1 : Int64))), .second, .unset, .unset, .unset, .unset, .unset, .unset, .unset, .unset, .unset, .unset, .unset] [])) _
    refine st6 _ ?_
    show Steps p.tables e below (T6.setTop (mkF m 149 #[.val (.int p1), .val (.int p2), .val (.int p3), .val (.int p4), .val (.int (p4 &&& (3 : Int32))), .val (.ref aS), .val (.double (FP.i2d p2)), .second, .val (.long (((p1 &&& (2147483647 : Int32)).toInt64) + (1 : Int64))), .second, .unset, .unset, .unset, .unset, .unset, .unset, .unset, .unset, .unset, .unset, .unset] [(.ref b6)])) _
    refine XS.dup X6.here hx rfl (hb hby at_149) rfl rfl ?_
    show Steps p.tables e below (T6.setTop (mkF m 150 #[.val (.int p1), .val (.int p2), .val (.int p3), .val (.int p4), .val (.int (p4 &&& (3 : Int32))), .val (.ref aS), .val (.double (FP.i2d p2)), .second, .val (.long (((p1 &&& (2147483647 : Int32)).toInt64) + (1 : Int64))), .second, .unset, .unset, .unset, .unset, .unset, .unset, .unset, .unset, .unset, .unset, .unset] [(.ref b6), (.ref b6)])) _
    refine XS.aload X6.here hx rfl (hb hby at_150) rfl rfl ?_
    show Steps p.tables e below (T6.setTop (mkF m 152 #[.val (.int p1), .val (.int p2), .val (.int p3), .val (.int p4), .val (.int (p4 &&& (3 : Int32))), .val (.ref aS), .val (.double (FP.i2d p2)), .second, .val (.long (((p1 &&& (2147483647 : Int32)).toInt64) + (1 : Int64))), .second, .unset, .unset, .unset, .unset, .unset, .unset, .unset, .unset, .unset, .unset, .unset] [(.ref aS), (.ref b6), (.ref b6)])) _
    refine XS.dload X6.here hx rfl (hb hby at_152) rfl ?_
    show Steps p.tables e below (T6.setTop (mkF m 154 #[.val (.int p1), .val (.int p2), .val (.int p3), .val (.int p4), .val (.int (p4 &&& (3 : Int32))), .val (.ref aS), .val (.double (FP.i2d p2)), .second, .val (.long (((p1 &&& (2147483647 : Int32)).toInt64) + (1 : Int64))), .second, .unset, .unset, .unset, .unset, .unset, .unset, .unset, .unset, .unset, .unset, .unset] [(.double (FP.i2d p2)), (.ref aS), (.ref b6), (.ref b6)])) _
    refine XS.lload X6.here hx rfl (hb hby at_154) rfl ?_
    show Steps p.tables e below (T6.setTop (mkF m 156 #[.val (.int p1), .val (.int p2), .val (.int p3), .val (.int p4), .val (.int (p4 &&& (3 : Int32))), .val (.ref aS), .val (.double (FP.i2d p2)), .second, .val (.long (((p1 &&& (2147483647 : Int32)).toInt64) + (1 : Int64))), .second, .unset, .unset, .unset, .unset, .unset, .unset, .unset, .unset, .unset, .unset, .unset] [(.long (((p1 &&& (2147483647 : Int32)).toInt64) + (1 : Int64))), (.double (FP.i2d p2)), (.ref aS), (.ref b6), (.ref b6)])) _
    refine XS.l2dS X6.here hx rfl (hb hby at_156) rfl rfl ?_
    show Steps p.tables e below (T6.setTop (mkF m 157 #[.val (.int p1), .val (.int p2), .val (.int p3), .val (.int p4), .val (.int (p4 &&& (3 : Int32))), .val (.ref aS), .val (.double (FP.i2d p2)), .second, .val (.long (((p1 &&& (2147483647 : Int32)).toInt64) + (1 : Int64))), .second, .unset, .unset, .unset, .unset, .unset, .unset, .unset, .unset, .unset, .unset, .unset] [(.double (FP.l2d (((p1 &&& (2147483647 : Int32)).toInt64) + (1 : Int64)))), (.double (FP.i2d p2)), (.ref aS), (.ref b6), (.ref b6)])) _
    refine st7.trans ?_
    show Steps p.tables e below (T7.setTop (mkF m 160 #[.val (.int p1), .val (.int p2), .val (.int p3), .val (.int p4), .val (.int (p4 &&& (3 : Int32))), .val (.ref aS), .val (.double (FP.i2d p2)), .second, .val (.long (((p1 &&& (2147483647 : Int32)).toInt64) + (1 : Int64))), .second, .unset, .unset, .unset, .unset, .unset, .unset, .unset, .unset, .unset, .unset, .unset] [(.ref b6)])) _
    refine XS.astore X7.here hx rfl (hb hby at_160) rfl rfl (l' := #[.val (.int p1), .val (.int p2), .val (.int p3), .val (.int p4), .val (.int (p4 &&& (3 : Int32))), .val (.ref aS), .val (.double (FP.i2d p2)), .second, .val (.long (((p1 &&& (2147483647 : Int32)).toInt64) + (1 : Int64))), .second, .val (.ref b6), .unset, .unset, .unset, .unset, .unset, .unset, .unset, .unset, .unset, .unset]) rfl ?_
    show Steps p.tables e below (T7.setTop (mkF m 162 #[.val (.int p1), .val (.int p2), .val (.int p3), .val (.int p4), .val (.int (p4 &&& (3 : Int32))), .val (.ref aS), .val (.double (FP.i2d p2)), .second, .val (.long (((p1 &&& (2147483647 : Int32)).toInt64) + (1 : Int64))), .second, .val (.ref b6), .unset, .unset, .unset, .unset, .unset, .unset, .unset, .unset, .unset, .unset] [])) _
    refine XS.aload X7.here hx rfl (hb hby at_162) rfl rfl ?_
    show Steps p.tables e below (T7.setTop (mkF m 164 #[.val (.int p1), .val (.int p2), .val (.int p3), .val (.int p4), .val (.int (p4 &&& (3 : Int32))), .val (.ref aS), .val (.double (FP.i2d p2)), .second, .val (.long (((p1 &&& (2147483647 : Int32)).toInt64) + (1 : Int64))), .second, .val (.ref b6), .unset, .unset, .unset, .unset, .unset, .unset, .unset, .unset, .unset, .unset] [(.ref b6)])) _
    refine st8.trans ?_
    show Steps p.tables e below (T8.setTop (mkF m 167 #[.val (.int p1), .val (.int p2), .val (.int p3), .val (.int p4), .val (.int (p4 &&& (3 : Int32))), .val (.ref aS), .val (.double (FP.i2d p2)), .second, .val (.long (((p1 &&& (2147483647 : Int32)).toInt64) + (1 : Int64))), .second, .val (.ref b6), .unset, .unset, .unset, .unset, .unset, .unset, .unset, .unset, .unset, .unset] [(.double (own_drop (FP.i2d p2) (FP.l2d (((p1 &&& (2147483647 : Int32)).toInt64) + (1 : Int64)))))])) _
    refine XS.dstore X8.here hx rfl (hb hby at_167) rfl (l' := #[.val (.int p1), .val (.int p2), .val (.int p3), .val (.int p4), .val (.int (p4 &&& (3 : Int32))), .val (.ref aS), .val (.double (FP.i2d p2)), .second, .val (.long (((p1 &&& (2147483647 : Int32)).toInt64) + (1 : Int64))), .second, .val (.ref b6), .val (.double (own_drop (FP.i2d p2) (FP.l2d (((p1 &&& (2147483647 : Int32)).toInt64) + (1 : Int64))))), .second, .unset, .unset, .unset, .unset, .unset, .unset, .unset, .unset]) rfl ?_
    show Steps p.tables e below (T8.setTop (mkF m 169 #[.val (.int p1), .val (.int p2), .val (.int p3), .val (.int p4), .val (.int (p4 &&& (3 : Int32))), .val (.ref aS), .val (.double (FP.i2d p2)), .second, .val (.long (((p1 &&& (2147483647 : Int32)).toInt64) + (1 : Int64))), .second, .val (.ref b6), .val (.double (own_drop (FP.i2d p2) (FP.l2d (((p1 &&& (2147483647 : Int32)).toInt64) + (1 : Int64))))), .second, .unset, .unset, .unset, .unset, .unset, .unset, .unset, .unset] [])) _
    refine X8.ldc2Long hx hown (mvT hZ (hw _ (List.mem_of_getElem? (i := 50) rfl))) (g := (mkF m 169 #[.val (.int p1), .val (.int p2), .val (.int p3), .val (.int p4), .val (.int (p4 &&& (3 : Int32))), .val (.ref aS), .val (.double (FP.i2d p2)), .second, .val (.long (((p1 &&& (2147483647 : Int32)).toInt64) + (1 : Int64))), .second, .val (.ref b6), .val (.double (own_drop (FP.i2d p2) (FP.l2d (((p1 &&& (2147483647 : Int32)).toInt64) + (1 : Int64))))), .second, .unset, .unset, .unset, .unset, .unset, .unset, .unset, .unset] [])) rfl (hb hby at_169) _ ?_
    show Steps p.tables e below (T8.setTop (mkF m 172 #[.val (.int p1), .val (.int p2), .val (.int p3), .val (.int p4), .val (.int (p4 &&& (3 : Int32))), .val (.ref aS), .val (.double (FP.i2d p2)), .second, .val (.long (((p1 &&& (2147483647 : Int32)).toInt64) + (1 : Int64))), .second, .val (.ref b6), .val (.double (own_drop (FP.i2d p2) (FP.l2d (((p1 &&& (2147483647 : Int32)).toInt64) + (1 : Int64))))), .second, .unset, .unset, .unset, .unset, .unset, .unset, .unset, .unset] [(.long (100 : Int64))])) _
    refine XS.lload X8.here hx rfl (hb hby at_172) rfl ?_
    show Steps p.tables e below (T8.setTop (mkF m 174 #[.val (.int p1), .val (.int p2), .val (.int p3), .val (.int p4), .val (.int (p4 &&& (3 : Int32))), .val (.ref aS), .val (.double (FP.i2d p2)), .second, .val (.long (((p1 &&& (2147483647 : Int32)).toInt64) + (1 : Int64))), .second, .val (.ref b6), .val (.double (own_drop (FP.i2d p2) (FP.l2d (((p1 &&& (2147483647 : Int32)).toInt64) + (1 : Int64))))), .second, .unset, .unset, .unset, .unset, .unset, .unset, .unset, .unset] [(.long (((p1 &&& (2147483647 : Int32)).toInt64) + (1 : Int64))), (.long (100 : Int64))])) _
    refine XS.iloadN X8.here hx rfl (hb hby at_174) rfl ?_
    show Steps p.tables e below (T8.setTop (mkF m 175 #[.val (.int p1), .val (.int p2), .val (.int p3), .val (.int p4), .val (.int (p4 &&& (3 : Int32))), .val (.ref aS), .val (.double (FP.i2d p2)), .second, .val (.long (((p1 &&& (2147483647 : Int32)).toInt64) + (1 : Int64))), .second, .val (.ref b6), .val (.double (own_drop (FP.i2d p2) (FP.l2d (((p1 &&& (2147483647 : Int32)).toInt64) + (1 : Int64))))), .second, .unset, .unset, .unset, .unset, .unset, .unset, .unset, .unset] [(.int p2), (.long (((p1 &&& (2147483647 : Int32)).toInt64) + (1 : Int64))), (.long (100 : Int64))])) _
    refine XS.i2l X8.here hx rfl (hb hby at_175) rfl ?_
    show Steps p.tables e below (T8.setTop (mkF m 176 #[.val (.int p1), .val (.int p2), .val (.int p3), .val (.int p4), .val (.int (p4 &&& (3 : Int32))), .val (.ref aS), .val (.double (FP.i2d p2)), .second, .val (.long (((p1 &&& (2147483647 : Int32)).toInt64) + (1 : Int64))), .second, .val (.ref b6), .val (.double (own_drop (FP.i2d p2) (FP.l2d (((p1 &&& (2147483647 : Int32)).toInt64) + (1 : Int64))))), .second, .unset, .unset, .unset, .unset, .unset, .unset, .unset, .unset] [(.long (p2.toInt64)), (.long (((p1 &&& (2147483647 : Int32)).toInt64) + (1 : Int64))), (.long (100 : Int64))])) _
    refine XS.lsub X8.here hx rfl (hb hby at_176) rfl ?_
    show Steps p.tables e below (T8.setTop (mkF m 177 #[.val (.int p1), .val (.int p2), .val (.int p3), .val (.int p4), .val (.int (p4 &&& (3 : Int32))), .val (.ref aS), .val (.double (FP.i2d p2)), .second, .val (.long (((p1 &&& (2147483647 : Int32)).toInt64) + (1 : Int64))), .second, .val (.ref b6), .val (.double (own_drop (FP.i2d p2) (FP.l2d (((p1 &&& (2147483647 : Int32)).toInt64) + (1 : Int64))))), .second, .unset, .unset, .unset, .unset, .unset, .unset, .unset, .unset] [(.long ((((p1 &&& (2147483647 : Int32)).toInt64) + (1 : Int64)) - (p2.toInt64))), (.long (100 : Int64))])) _
    refine XS.lmul X8.here hx rfl (hb hby at_177) rfl ?_
    show Steps p.tables e below (T8.setTop (mkF m 178 #[.val (.int p1), .val (.int p2), .val (.int p3), .val (.int p4), .val (.int (p4 &&& (3 : Int32))), .val (.ref aS), .val (.double (FP.i2d p2)), .second, .val (.long (((p1 &&& (2147483647 : Int32)).toInt64) + (1 : Int64))), .second, .val (.ref b6), .val (.double (own_drop (FP.i2d p2) (FP.l2d (((p1 &&& (2147483647 : Int32)).toInt64) + (1 : Int64))))), .second, .unset, .unset, .unset, .unset, .unset, .unset, .unset, .unset] [(.long ((100 : Int64) * ((((p1 &&& (2147483647 : Int32)).toInt64) + (1 : Int64)) - (p2.toInt64))))])) _
    refine XS.lstore X8.here hx rfl (hb hby at_178) rfl (l' := #[.val (.int p1), .val (.int p2), .val (.int p3), .val (.int p4), .val (.int (p4 &&& (3 : Int32))), .val (.ref aS), .val (.double (FP.i2d p2)), .second, .val (.long (((p1 &&& (2147483647 : Int32)).toInt64) + (1 : Int64))), .second, .val (.ref b6), .val (.double (own_drop (FP.i2d p2) (FP.l2d (((p1 &&& (2147483647 : Int32)).toInt64) + (1 : Int64))))), .second, .val (.long ((100 : Int64) * ((((p1 &&& (2147483647 : Int32)).toInt64) + (1 : Int64)) - (p2.toInt64)))), .second, .unset, .unset, .unset, .unset, .unset, .unset]) rfl ?_
    show Steps p.tables e below (T8.setTop (mkF m 180 #[.val (.int p1), .val (.int p2), .val (.int p3), .val (.int p4), .val (.int (p4 &&& (3 : Int32))), .val (.ref aS), .val (.double (FP.i2d p2)), .second, .val (.long (((p1 &&& (2147483647 : Int32)).toInt64) + (1 : Int64))), .second, .val (.ref b6), .val (.double (own_drop (FP.i2d p2) (FP.l2d (((p1 &&& (2147483647 : Int32)).toInt64) + (1 : Int64))))), .second, .val (.long ((100 : Int64) * ((((p1 &&& (2147483647 : Int32)).toInt64) + (1 : Int64)) - (p2.toInt64)))), .second, .unset, .unset, .unset, .unset, .unset, .unset] [])) _
    refine XS.lload X8.here hx rfl (hb hby at_180) rfl ?_
    show Steps p.tables e below (T8.setTop (mkF m 182 #[.val (.int p1), .val (.int p2), .val (.int p3), .val (.int p4), .val (.int (p4 &&& (3 : Int32))), .val (.ref aS), .val (.double (FP.i2d p2)), .second, .val (.long (((p1 &&& (2147483647 : Int32)).toInt64) + (1 : Int64))), .second, .val (.ref b6), .val (.double (own_drop (FP.i2d p2) (FP.l2d (((p1 &&& (2147483647 : Int32)).toInt64) + (1 : Int64))))), .second, .val (.long ((100 : Int64) * ((((p1 &&& (2147483647 : Int32)).toInt64) + (1 : Int64)) - (p2.toInt64)))), .second, .unset, .unset, .unset, .unset, .unset, .unset] [(.long ((100 : Int64) * ((((p1 &&& (2147483647 : Int32)).toInt64) + (1 : Int64)) - (p2.toInt64))))])) _
    refine XS.lload X8.here hx rfl (hb hby at_182) rfl ?_
    show Steps p.tables e below (T8.setTop (mkF m 184 #[.val (.int p1), .val (.int p2), .val (.int p3), .val (.int p4), .val (.int (p4 &&& (3 : Int32))), .val (.ref aS), .val (.double (FP.i2d p2)), .second, .val (.long (((p1 &&& (2147483647 : Int32)).toInt64) + (1 : Int64))), .second, .val (.ref b6), .val (.double (own_drop (FP.i2d p2) (FP.l2d (((p1 &&& (2147483647 : Int32)).toInt64) + (1 : Int64))))), .second, .val (.long ((100 : Int64) * ((((p1 &&& (2147483647 : Int32)).toInt64) + (1 : Int64)) - (p2.toInt64)))), .second, .unset, .unset, .unset, .unset, .unset, .unset] [(.long (((p1 &&& (2147483647 : Int32)).toInt64) + (1 : Int64))), (.long ((100 : Int64) * ((((p1 &&& (2147483647 : Int32)).toInt64) + (1 : Int64)) - (p2.toInt64))))])) _
    refine XS.ldiv X8.here hx rfl (hb hby at_184) rfl hnz184 ?_
    show Steps p.tables e below (T8.setTop (mkF m 185 #[.val (.int p1), .val (.int p2), .val (.int p3), .val (.int p4), .val (.int (p4 &&& (3 : Int32))), .val (.ref aS), .val (.double (FP.i2d p2)), .second, .val (.long (((p1 &&& (2147483647 : Int32)).toInt64) + (1 : Int64))), .second, .val (.ref b6), .val (.double (own_drop (FP.i2d p2) (FP.l2d (((p1 &&& (2147483647 : Int32)).toInt64) + (1 : Int64))))), .second, .val (.long ((100 : Int64) * ((((p1 &&& (2147483647 : Int32)).toInt64) + (1 : Int64)) - (p2.toInt64)))), .second, .unset, .unset, .unset, .unset, .unset, .unset] [(.long (((100 : Int64) * ((((p1 &&& (2147483647 : Int32)).toInt64) + (1 : Int64)) - (p2.toInt64))) / (((p1 &&& (2147483647 : Int32)).toInt64) + (1 : Int64))))])) _
    refine XS.lstore X8.here hx rfl (hb hby at_185) rfl (l' := #[.val (.int p1), .val (.int p2), .val (.int p3), .val (.int p4), .val (.int (p4 &&& (3 : Int32))), .val (.ref aS), .val (.double (FP.i2d p2)), .second, .val (.long (((p1 &&& (2147483647 : Int32)).toInt64) + (1 : Int64))), .second, .val (.ref b6), .val (.double (own_drop (FP.i2d p2) (FP.l2d (((p1 &&& (2147483647 : Int32)).toInt64) + (1 : Int64))))), .second, .val (.long ((100 : Int64) * ((((p1 &&& (2147483647 : Int32)).toInt64) + (1 : Int64)) - (p2.toInt64)))), .second, .val (.long (((100 : Int64) * ((((p1 &&& (2147483647 : Int32)).toInt64) + (1 : Int64)) - (p2.toInt64))) / (((p1 &&& (2147483647 : Int32)).toInt64) + (1 : Int64)))), .second, .unset, .unset, .unset, .unset]) rfl ?_
    show Steps p.tables e below (T8.setTop (mkF m 187 #[.val (.int p1), .val (.int p2), .val (.int p3), .val (.int p4), .val (.int (p4 &&& (3 : Int32))), .val (.ref aS), .val (.double (FP.i2d p2)), .second, .val (.long (((p1 &&& (2147483647 : Int32)).toInt64) + (1 : Int64))), .second, .val (.ref b6), .val (.double (own_drop (FP.i2d p2) (FP.l2d (((p1 &&& (2147483647 : Int32)).toInt64) + (1 : Int64))))), .second, .val (.long ((100 : Int64) * ((((p1 &&& (2147483647 : Int32)).toInt64) + (1 : Int64)) - (p2.toInt64)))), .second, .val (.long (((100 : Int64) * ((((p1 &&& (2147483647 : Int32)).toInt64) + (1 : Int64)) - (p2.toInt64))) / (((p1 &&& (2147483647 : Int32)).toInt64) + (1 : Int64)))), .second, .unset, .unset, .unset, .unset] [])) _
    refine XS.lload X8.here hx rfl (hb hby at_187) rfl ?_
    show Steps p.tables e below (T8.setTop (mkF m 189 #[.val (.int p1), .val (.int p2), .val (.int p3), .val (.int p4), .val (.int (p4 &&& (3 : Int32))), .val (.ref aS), .val (.double (FP.i2d p2)), .second, .val (.long (((p1 &&& (2147483647 : Int32)).toInt64) + (1 : Int64))), .second, .val (.ref b6), .val (.double (own_drop (FP.i2d p2) (FP.l2d (((p1 &&& (2147483647 : Int32)).toInt64) + (1 : Int64))))), .second, .val (.long ((100 : Int64) * ((((p1 &&& (2147483647 : Int32)).toInt64) + (1 : Int64)) - (p2.toInt64)))), .second, .val (.long (((100 : Int64) * ((((p1 &&& (2147483647 : Int32)).toInt64) + (1 : Int64)) - (p2.toInt64))) / (((p1 &&& (2147483647 : Int32)).toInt64) + (1 : Int64)))), .second, .unset, .unset, .unset, .unset] [(.long (((100 : Int64) * ((((p1 &&& (2147483647 : Int32)).toInt64) + (1 : Int64)) - (p2.toInt64))) / (((p1 &&& (2147483647 : Int32)).toInt64) + (1 : Int64))))])) _
    refine XS.lstore X8.here hx rfl (hb hby at_189) rfl (l' := #[.val (.int p1), .val (.int p2), .val (.int p3), .val (.int p4), .val (.int (p4 &&& (3 : Int32))), .val (.ref aS), .val (.double (FP.i2d p2)), .second, .val (.long (((p1 &&& (2147483647 : Int32)).toInt64) + (1 : Int64))), .second, .val (.ref b6), .val (.double (own_drop (FP.i2d p2) (FP.l2d (((p1 &&& (2147483647 : Int32)).toInt64) + (1 : Int64))))), .second, .val (.long ((100 : Int64) * ((((p1 &&& (2147483647 : Int32)).toInt64) + (1 : Int64)) - (p2.toInt64)))), .second, .val (.long (((100 : Int64) * ((((p1 &&& (2147483647 : Int32)).toInt64) + (1 : Int64)) - (p2.toInt64))) / (((p1 &&& (2147483647 : Int32)).toInt64) + (1 : Int64)))), .second, .val (.long (((100 : Int64) * ((((p1 &&& (2147483647 : Int32)).toInt64) + (1 : Int64)) - (p2.toInt64))) / (((p1 &&& (2147483647 : Int32)).toInt64) + (1 : Int64)))), .second, .unset, .unset]) rfl ?_
    show Steps p.tables e below (T8.setTop (mkF m 191 #[.val (.int p1), .val (.int p2), .val (.int p3), .val (.int p4), .val (.int (p4 &&& (3 : Int32))), .val (.ref aS), .val (.double (FP.i2d p2)), .second, .val (.long (((p1 &&& (2147483647 : Int32)).toInt64) + (1 : Int64))), .second, .val (.ref b6), .val (.double (own_drop (FP.i2d p2) (FP.l2d (((p1 &&& (2147483647 : Int32)).toInt64) + (1 : Int64))))), .second, .val (.long ((100 : Int64) * ((((p1 &&& (2147483647 : Int32)).toInt64) + (1 : Int64)) - (p2.toInt64)))), .second, .val (.long (((100 : Int64) * ((((p1 &&& (2147483647 : Int32)).toInt64) + (1 : Int64)) - (p2.toInt64))) / (((p1 &&& (2147483647 : Int32)).toInt64) + (1 : Int64)))), .second, .val (.long (((100 : Int64) * ((((p1 &&& (2147483647 : Int32)).toInt64) + (1 : Int64)) - (p2.toInt64))) / (((p1 &&& (2147483647 : Int32)).toInt64) + (1 : Int64)))), .second, .unset, .unset] [])) _
    refine XS.lload X8.here hx rfl (hb hby at_191) rfl ?_
    show Steps p.tables e below (T8.setTop (mkF m 193 #[.val (.int p1), .val (.int p2), .val (.int p3), .val (.int p4), .val (.int (p4 &&& (3 : Int32))), .val (.ref aS), .val (.double (FP.i2d p2)), .second, .val (.long (((p1 &&& (2147483647 : Int32)).toInt64) + (1 : Int64))), .second, .val (.ref b6), .val (.double (own_drop (FP.i2d p2) (FP.l2d (((p1 &&& (2147483647 : Int32)).toInt64) + (1 : Int64))))), .second, .val (.long ((100 : Int64) * ((((p1 &&& (2147483647 : Int32)).toInt64) + (1 : Int64)) - (p2.toInt64)))), .second, .val (.long (((100 : Int64) * ((((p1 &&& (2147483647 : Int32)).toInt64) + (1 : Int64)) - (p2.toInt64))) / (((p1 &&& (2147483647 : Int32)).toInt64) + (1 : Int64)))), .second, .val (.long (((100 : Int64) * ((((p1 &&& (2147483647 : Int32)).toInt64) + (1 : Int64)) - (p2.toInt64))) / (((p1 &&& (2147483647 : Int32)).toInt64) + (1 : Int64)))), .second, .unset, .unset] [(.long (((100 : Int64) * ((((p1 &&& (2147483647 : Int32)).toInt64) + (1 : Int64)) - (p2.toInt64))) / (((p1 &&& (2147483647 : Int32)).toInt64) + (1 : Int64))))])) _
    refine XS.lstore X8.here hx rfl (hb hby at_193) rfl (l' := #[.val (.int p1), .val (.int p2), .val (.int p3), .val (.int p4), .val (.int (p4 &&& (3 : Int32))), .val (.ref aS), .val (.double (FP.i2d p2)), .second, .val (.long (((p1 &&& (2147483647 : Int32)).toInt64) + (1 : Int64))), .second, .val (.ref b6), .val (.double (own_drop (FP.i2d p2) (FP.l2d (((p1 &&& (2147483647 : Int32)).toInt64) + (1 : Int64))))), .second, .val (.long ((100 : Int64) * ((((p1 &&& (2147483647 : Int32)).toInt64) + (1 : Int64)) - (p2.toInt64)))), .second, .val (.long (((100 : Int64) * ((((p1 &&& (2147483647 : Int32)).toInt64) + (1 : Int64)) - (p2.toInt64))) / (((p1 &&& (2147483647 : Int32)).toInt64) + (1 : Int64)))), .second, .val (.long (((100 : Int64) * ((((p1 &&& (2147483647 : Int32)).toInt64) + (1 : Int64)) - (p2.toInt64))) / (((p1 &&& (2147483647 : Int32)).toInt64) + (1 : Int64)))), .second, .val (.long (((100 : Int64) * ((((p1 &&& (2147483647 : Int32)).toInt64) + (1 : Int64)) - (p2.toInt64))) / (((p1 &&& (2147483647 : Int32)).toInt64) + (1 : Int64)))), .second]) rfl ?_
    show Steps p.tables e below (T8.setTop (mkF m 195 #[.val (.int p1), .val (.int p2), .val (.int p3), .val (.int p4), .val (.int (p4 &&& (3 : Int32))), .val (.ref aS), .val (.double (FP.i2d p2)), .second, .val (.long (((p1 &&& (2147483647 : Int32)).toInt64) + (1 : Int64))), .second, .val (.ref b6), .val (.double (own_drop (FP.i2d p2) (FP.l2d (((p1 &&& (2147483647 : Int32)).toInt64) + (1 : Int64))))), .second, .val (.long ((100 : Int64) * ((((p1 &&& (2147483647 : Int32)).toInt64) + (1 : Int64)) - (p2.toInt64)))), .second, .val (.long (((100 : Int64) * ((((p1 &&& (2147483647 : Int32)).toInt64) + (1 : Int64)) - (p2.toInt64))) / (((p1 &&& (2147483647 : Int32)).toInt64) + (1 : Int64)))), .second, .val (.long (((100 : Int64) * ((((p1 &&& (2147483647 : Int32)).toInt64) + (1 : Int64)) - (p2.toInt64))) / (((p1 &&& (2147483647 : Int32)).toInt64) + (1 : Int64)))), .second, .val (.long (((100 : Int64) * ((((p1 &&& (2147483647 : Int32)).toInt64) + (1 : Int64)) - (p2.toInt64))) / (((p1 &&& (2147483647 : Int32)).toInt64) + (1 : Int64)))), .second] [])) _
    refine XS.lload X8.here hx rfl (hb hby at_195) rfl ?_
    show Steps p.tables e below (T8.setTop (mkF m 197 #[.val (.int p1), .val (.int p2), .val (.int p3), .val (.int p4), .val (.int (p4 &&& (3 : Int32))), .val (.ref aS), .val (.double (FP.i2d p2)), .second, .val (.long (((p1 &&& (2147483647 : Int32)).toInt64) + (1 : Int64))), .second, .val (.ref b6), .val (.double (own_drop (FP.i2d p2) (FP.l2d (((p1 &&& (2147483647 : Int32)).toInt64) + (1 : Int64))))), .second, .val (.long ((100 : Int64) * ((((p1 &&& (2147483647 : Int32)).toInt64) + (1 : Int64)) - (p2.toInt64)))), .second, .val (.long (((100 : Int64) * ((((p1 &&& (2147483647 : Int32)).toInt64) + (1 : Int64)) - (p2.toInt64))) / (((p1 &&& (2147483647 : Int32)).toInt64) + (1 : Int64)))), .second, .val (.long (((100 : Int64) * ((((p1 &&& (2147483647 : Int32)).toInt64) + (1 : Int64)) - (p2.toInt64))) / (((p1 &&& (2147483647 : Int32)).toInt64) + (1 : Int64)))), .second, .val (.long (((100 : Int64) * ((((p1 &&& (2147483647 : Int32)).toInt64) + (1 : Int64)) - (p2.toInt64))) / (((p1 &&& (2147483647 : Int32)).toInt64) + (1 : Int64)))), .second] [(.long ((100 : Int64) * ((((p1 &&& (2147483647 : Int32)).toInt64) + (1 : Int64)) - (p2.toInt64))))])) _
    refine XS.lload X8.here hx rfl (hb hby at_197) rfl ?_
    show Steps p.tables e below (T8.setTop (mkF m 199 #[.val (.int p1), .val (.int p2), .val (.int p3), .val (.int p4), .val (.int (p4 &&& (3 : Int32))), .val (.ref aS), .val (.double (FP.i2d p2)), .second, .val (.long (((p1 &&& (2147483647 : Int32)).toInt64) + (1 : Int64))), .second, .val (.ref b6), .val (.double (own_drop (FP.i2d p2) (FP.l2d (((p1 &&& (2147483647 : Int32)).toInt64) + (1 : Int64))))), .second, .val (.long ((100 : Int64) * ((((p1 &&& (2147483647 : Int32)).toInt64) + (1 : Int64)) - (p2.toInt64)))), .second, .val (.long (((100 : Int64) * ((((p1 &&& (2147483647 : Int32)).toInt64) + (1 : Int64)) - (p2.toInt64))) / (((p1 &&& (2147483647 : Int32)).toInt64) + (1 : Int64)))), .second, .val (.long (((100 : Int64) * ((((p1 &&& (2147483647 : Int32)).toInt64) + (1 : Int64)) - (p2.toInt64))) / (((p1 &&& (2147483647 : Int32)).toInt64) + (1 : Int64)))), .second, .val (.long (((100 : Int64) * ((((p1 &&& (2147483647 : Int32)).toInt64) + (1 : Int64)) - (p2.toInt64))) / (((p1 &&& (2147483647 : Int32)).toInt64) + (1 : Int64)))), .second] [(.long (((p1 &&& (2147483647 : Int32)).toInt64) + (1 : Int64))), (.long ((100 : Int64) * ((((p1 &&& (2147483647 : Int32)).toInt64) + (1 : Int64)) - (p2.toInt64))))])) _
    refine XS.lrem X8.here hx rfl (hb hby at_199) rfl hnz199 ?_
    show Steps p.tables e below (T8.setTop (mkF m 200 #[.val (.int p1), .val (.int p2), .val (.int p3), .val (.int p4), .val (.int (p4 &&& (3 : Int32))), .val (.ref aS), .val (.double (FP.i2d p2)), .second, .val (.long (((p1 &&& (2147483647 : Int32)).toInt64) + (1 : Int64))), .second, .val (.ref b6), .val (.double (own_drop (FP.i2d p2) (FP.l2d (((p1 &&& (2147483647 : Int32)).toInt64) + (1 : Int64))))), .second, .val (.long ((100 : Int64) * ((((p1 &&& (2147483647 : Int32)).toInt64) + (1 : Int64)) - (p2.toInt64)))), .second, .val (.long (((100 : Int64) * ((((p1 &&& (2147483647 : Int32)).toInt64) + (1 : Int64)) - (p2.toInt64))) / (((p1 &&& (2147483647 : Int32)).toInt64) + (1 : Int64)))), .second, .val (.long (((100 : Int64) * ((((p1 &&& (2147483647 : Int32)).toInt64) + (1 : Int64)) - (p2.toInt64))) / (((p1 &&& (2147483647 : Int32)).toInt64) + (1 : Int64)))), .second, .val (.long (((100 : Int64) * ((((p1 &&& (2147483647 : Int32)).toInt64) + (1 : Int64)) - (p2.toInt64))) / (((p1 &&& (2147483647 : Int32)).toInt64) + (1 : Int64)))), .second] [(.long (((100 : Int64) * ((((p1 &&& (2147483647 : Int32)).toInt64) + (1 : Int64)) - (p2.toInt64))) - (((100 : Int64) * ((((p1 &&& (2147483647 : Int32)).toInt64) + (1 : Int64)) - (p2.toInt64))) / (((p1 &&& (2147483647 : Int32)).toInt64) + (1 : Int64))) * (((p1 &&& (2147483647 : Int32)).toInt64) + (1 : Int64))))])) _
    refine XS.lconst X8.here hx rfl (hb hby at_200) ?_
    show Steps p.tables e below (T8.setTop (mkF m 201 #[.val (.int p1), .val (.int p2), .val (.int p3), .val (.int p4), .val (.int (p4 &&& (3 : Int32))), .val (.ref aS), .val (.double (FP.i2d p2)), .second, .val (.long (((p1 &&& (2147483647 : Int32)).toInt64) + (1 : Int64))), .second, .val (.ref b6), .val (.double (own_drop (FP.i2d p2) (FP.l2d (((p1 &&& (2147483647 : Int32)).toInt64) + (1 : Int64))))), .second, .val (.long ((100 : Int64) * ((((p1 &&& (2147483647 : Int32)).toInt64) + (1 : Int64)) - (p2.toInt64)))), .second, .val (.long (((100 : Int64) * ((((p1 &&& (2147483647 : Int32)).toInt64) + (1 : Int64)) - (p2.toInt64))) / (((p1 &&& (2147483647 : Int32)).toInt64) + (1 : Int64)))), .second, .val (.long (((100 : Int64) * ((((p1 &&& (2147483647 : Int32)).toInt64) + (1 : Int64)) - (p2.toInt64))) / (((p1 &&& (2147483647 : Int32)).toInt64) + (1 : Int64)))), .second, .val (.long (((100 : Int64) * ((((p1 &&& (2147483647 : Int32)).toInt64) + (1 : Int64)) - (p2.toInt64))) / (((p1 &&& (2147483647 : Int32)).toInt64) + (1 : Int64)))), .second] [(.long (0 : Int64)), (.long (((100 : Int64) * ((((p1 &&& (2147483647 : Int32)).toInt64) + (1 : Int64)) - (p2.toInt64))) - (((100 : Int64) * ((((p1 &&& (2147483647 : Int32)).toInt64) + (1 : Int64)) - (p2.toInt64))) / (((p1 &&& (2147483647 : Int32)).toInt64) + (1 : Int64))) * (((p1 &&& (2147483647 : Int32)).toInt64) + (1 : Int64))))])) _
    refine XS.lcmp X8.here hx rfl (hb hby at_201) rfl ?_
    show Steps p.tables e below (T8.setTop (mkF m 202 #[.val (.int p1), .val (.int p2), .val (.int p3), .val (.int p4), .val (.int (p4 &&& (3 : Int32))), .val (.ref aS), .val (.double (FP.i2d p2)), .second, .val (.long (((p1 &&& (2147483647 : Int32)).toInt64) + (1 : Int64))), .second, .val (.ref b6), .val (.double (own_drop (FP.i2d p2) (FP.l2d (((p1 &&& (2147483647 : Int32)).toInt64) + (1 : Int64))))), .second, .val (.long ((100 : Int64) * ((((p1 &&& (2147483647 : Int32)).toInt64) + (1 : Int64)) - (p2.toInt64)))), .second, .val (.long (((100 : Int64) * ((((p1 &&& (2147483647 : Int32)).toInt64) + (1 : Int64)) - (p2.toInt64))) / (((p1 &&& (2147483647 : Int32)).toInt64) + (1 : Int64)))), .second, .val (.long (((100 : Int64) * ((((p1 &&& (2147483647 : Int32)).toInt64) + (1 : Int64)) - (p2.toInt64))) / (((p1 &&& (2147483647 : Int32)).toInt64) + (1 : Int64)))), .second, .val (.long (((100 : Int64) * ((((p1 &&& (2147483647 : Int32)).toInt64) + (1 : Int64)) - (p2.toInt64))) / (((p1 &&& (2147483647 : Int32)).toInt64) + (1 : Int64)))), .second] [(.int (lcmpW (((100 : Int64) * ((((p1 &&& (2147483647 : Int32)).toInt64) + (1 : Int64)) - (p2.toInt64))) - (((100 : Int64) * ((((p1 &&& (2147483647 : Int32)).toInt64) + (1 : Int64)) - (p2.toInt64))) / (((p1 &&& (2147483647 : Int32)).toInt64) + (1 : Int64))) * (((p1 &&& (2147483647 : Int32)).toInt64) + (1 : Int64))) (0 : Int64)))])) _
    refine XS.ifNo X8.here hx rfl (hb hby at_202) rfl ((if0 _ _).trans (feq hc202).1) ?_
    show Steps p.tables e below (T8.setTop (mkF m 205 #[.val (.int p1), .val (.int p2), .val (.int p3), .val (.int p4), .val (.int (p4 &&& (3 : Int32))), .val (.ref aS), .val (.double (FP.i2d p2)), .second, .val (.long (((p1 &&& (2147483647 : Int32)).toInt64) + (1 : Int64))), .second, .val (.ref b6), .val (.double (own_drop (FP.i2d p2) (FP.l2d (((p1 &&& (2147483647 : Int32)).toInt64) + (1 : Int64))))), .second, .val (.long ((100 : Int64) * ((((p1 &&& (2147483647 : Int32)).toInt64) + (1 : Int64)) - (p2.toInt64)))), .second, .val (.long (((100 : Int64) * ((((p1 &&& (2147483647 : Int32)).toInt64) + (1 : Int64)) - (p2.toInt64))) / (((p1 &&& (2147483647 : Int32)).toInt64) + (1 : Int64)))), .second, .val (.long (((100 : Int64) * ((((p1 &&& (2147483647 : Int32)).toInt64) + (1 : Int64)) - (p2.toInt64))) / (((p1 &&& (2147483647 : Int32)).toInt64) + (1 : Int64)))), .second, .val (.long (((100 : Int64) * ((((p1 &&& (2147483647 : Int32)).toInt64) + (1 : Int64)) - (p2.toInt64))) / (((p1 &&& (2147483647 : Int32)).toInt64) + (1 : Int64)))), .second] [])) _
    refine XS.lload X8.here hx rfl (hb hby at_205) rfl ?_
    show Steps p.tables e below (T8.setTop (mkF m 207 #[.val (.int p1), .val (.int p2), .val (.int p3), .val (.int p4), .val (.int (p4 &&& (3 : Int32))), .val (.ref aS), .val (.double (FP.i2d p2)), .second, .val (.long (((p1 &&& (2147483647 : Int32)).toInt64) + (1 : Int64))), .second, .val (.ref b6), .val (.double (own_drop (FP.i2d p2) (FP.l2d (((p1 &&& (2147483647 : Int32)).toInt64) + (1 : Int64))))), .second, .val (.long ((100 : Int64) * ((((p1 &&& (2147483647 : Int32)).toInt64) + (1 : Int64)) - (p2.toInt64)))), .second, .val (.long (((100 : Int64) * ((((p1 &&& (2147483647 : Int32)).toInt64) + (1 : Int64)) - (p2.toInt64))) / (((p1 &&& (2147483647 : Int32)).toInt64) + (1 : Int64)))), .second, .val (.long (((100 : Int64) * ((((p1 &&& (2147483647 : Int32)).toInt64) + (1 : Int64)) - (p2.toInt64))) / (((p1 &&& (2147483647 : Int32)).toInt64) + (1 : Int64)))), .second, .val (.long (((100 : Int64) * ((((p1 &&& (2147483647 : Int32)).toInt64) + (1 : Int64)) - (p2.toInt64))) / (((p1 &&& (2147483647 : Int32)).toInt64) + (1 : Int64)))), .second] [(.long ((100 : Int64) * ((((p1 &&& (2147483647 : Int32)).toInt64) + (1 : Int64)) - (p2.toInt64))))])) _
    refine XS.lconst X8.here hx rfl (hb hby at_207) ?_
    show Steps p.tables e below (T8.setTop (mkF m 208 #[.val (.int p1), .val (.int p2), .val (.int p3), .val (.int p4), .val (.int (p4 &&& (3 : Int32))), .val (.ref aS), .val (.double (FP.i2d p2)), .second, .val (.long (((p1 &&& (2147483647 : Int32)).toInt64) + (1 : Int64))), .second, .val (.ref b6), .val (.double (own_drop (FP.i2d p2) (FP.l2d (((p1 &&& (2147483647 : Int32)).toInt64) + (1 : Int64))))), .second, .val (.long ((100 : Int64) * ((((p1 &&& (2147483647 : Int32)).toInt64) + (1 : Int64)) - (p2.toInt64)))), .second, .val (.long (((100 : Int64) * ((((p1 &&& (2147483647 : Int32)).toInt64) + (1 : Int64)) - (p2.toInt64))) / (((p1 &&& (2147483647 : Int32)).toInt64) + (1 : Int64)))), .second, .val (.long (((100 : Int64) * ((((p1 &&& (2147483647 : Int32)).toInt64) + (1 : Int64)) - (p2.toInt64))) / (((p1 &&& (2147483647 : Int32)).toInt64) + (1 : Int64)))), .second, .val (.long (((100 : Int64) * ((((p1 &&& (2147483647 : Int32)).toInt64) + (1 : Int64)) - (p2.toInt64))) / (((p1 &&& (2147483647 : Int32)).toInt64) + (1 : Int64)))), .second] [(.long (0 : Int64)), (.long ((100 : Int64) * ((((p1 &&& (2147483647 : Int32)).toInt64) + (1 : Int64)) - (p2.toInt64))))])) _
    refine XS.lcmp X8.here hx rfl (hb hby at_208) rfl ?_
    show Steps p.tables e below (T8.setTop (mkF m 209 #[.val (.int p1), .val (.int p2), .val (.int p3), .val (.int p4), .val (.int (p4 &&& (3 : Int32))), .val (.ref aS), .val (.double (FP.i2d p2)), .second, .val (.long (((p1 &&& (2147483647 : Int32)).toInt64) + (1 : Int64))), .second, .val (.ref b6), .val (.double (own_drop (FP.i2d p2) (FP.l2d (((p1 &&& (2147483647 : Int32)).toInt64) + (1 : Int64))))), .second, .val (.long ((100 : Int64) * ((((p1 &&& (2147483647 : Int32)).toInt64) + (1 : Int64)) - (p2.toInt64)))), .second, .val (.long (((100 : Int64) * ((((p1 &&& (2147483647 : Int32)).toInt64) + (1 : Int64)) - (p2.toInt64))) / (((p1 &&& (2147483647 : Int32)).toInt64) + (1 : Int64)))), .second, .val (.long (((100 : Int64) * ((((p1 &&& (2147483647 : Int32)).toInt64) + (1 : Int64)) - (p2.toInt64))) / (((p1 &&& (2147483647 : Int32)).toInt64) + (1 : Int64)))), .second, .val (.long (((100 : Int64) * ((((p1 &&& (2147483647 : Int32)).toInt64) + (1 : Int64)) - (p2.toInt64))) / (((p1 &&& (2147483647 : Int32)).toInt64) + (1 : Int64)))), .second] [(.int (lcmpW ((100 : Int64) * ((((p1 &&& (2147483647 : Int32)).toInt64) + (1 : Int64)) - (p2.toInt64))) (0 : Int64)))])) _
    refine XS.ifNo X8.here hx rfl (hb hby at_209) rfl ((if0 _ _).trans (tlt hc209).2.2.2) ?_
    show Steps p.tables e below (T8.setTop (mkF m 212 #[.val (.int p1), .val (.int p2), .val (.int p3), .val (.int p4), .val (.int (p4 &&& (3 : Int32))), .val (.ref aS), .val (.double (FP.i2d p2)), .second, .val (.long (((p1 &&& (2147483647 : Int32)).toInt64) + (1 : Int64))), .second, .val (.ref b6), .val (.double (own_drop (FP.i2d p2) (FP.l2d (((p1 &&& (2147483647 : Int32)).toInt64) + (1 : Int64))))), .second, .val (.long ((100 : Int64) * ((((p1 &&& (2147483647 : Int32)).toInt64) + (1 : Int64)) - (p2.toInt64)))), .second, .val (.long (((100 : Int64) * ((((p1 &&& (2147483647 : Int32)).toInt64) + (1 : Int64)) - (p2.toInt64))) / (((p1 &&& (2147483647 : Int32)).toInt64) + (1 : Int64)))), .second, .val (.long (((100 : Int64) * ((((p1 &&& (2147483647 : Int32)).toInt64) + (1 : Int64)) - (p2.toInt64))) / (((p1 &&& (2147483647 : Int32)).toInt64) + (1 : Int64)))), .second, .val (.long (((100 : Int64) * ((((p1 &&& (2147483647 : Int32)).toInt64) + (1 : Int64)) - (p2.toInt64))) / (((p1 &&& (2147483647 : Int32)).toInt64) + (1 : Int64)))), .second] [])) _
    refine XS.lload X8.here hx rfl (hb hby at_212) rfl ?_
    show Steps p.tables e below (T8.setTop (mkF m 214 #[.val (.int p1), .val (.int p2), .val (.int p3), .val (.int p4), .val (.int (p4 &&& (3 : Int32))), .val (.ref aS), .val (.double (FP.i2d p2)), .second, .val (.long (((p1 &&& (2147483647 : Int32)).toInt64) + (1 : Int64))), .second, .val (.ref b6), .val (.double (own_drop (FP.i2d p2) (FP.l2d (((p1 &&& (2147483647 : Int32)).toInt64) + (1 : Int64))))), .second, .val (.long ((100 : Int64) * ((((p1 &&& (2147483647 : Int32)).toInt64) + (1 : Int64)) - (p2.toInt64)))), .second, .val (.long (((100 : Int64) * ((((p1 &&& (2147483647 : Int32)).toInt64) + (1 : Int64)) - (p2.toInt64))) / (((p1 &&& (2147483647 : Int32)).toInt64) + (1 : Int64)))), .second, .val (.long (((100 : Int64) * ((((p1 &&& (2147483647 : Int32)).toInt64) + (1 : Int64)) - (p2.toInt64))) / (((p1 &&& (2147483647 : Int32)).toInt64) + (1 : Int64)))), .second, .val (.long (((100 : Int64) * ((((p1 &&& (2147483647 : Int32)).toInt64) + (1 : Int64)) - (p2.toInt64))) / (((p1 &&& (2147483647 : Int32)).toInt64) + (1 : Int64)))), .second] [(.long (((100 : Int64) * ((((p1 &&& (2147483647 : Int32)).toInt64) + (1 : Int64)) - (p2.toInt64))) / (((p1 &&& (2147483647 : Int32)).toInt64) + (1 : Int64))))])) _
    refine XS.lconst X8.here hx rfl (hb hby at_214) ?_
    show Steps p.tables e below (T8.setTop (mkF m 215 #[.val (.int p1), .val (.int p2), .val (.int p3), .val (.int p4), .val (.int (p4 &&& (3 : Int32))), .val (.ref aS), .val (.double (FP.i2d p2)), .second, .val (.long (((p1 &&& (2147483647 : Int32)).toInt64) + (1 : Int64))), .second, .val (.ref b6), .val (.double (own_drop (FP.i2d p2) (FP.l2d (((p1 &&& (2147483647 : Int32)).toInt64) + (1 : Int64))))), .second, .val (.long ((100 : Int64) * ((((p1 &&& (2147483647 : Int32)).toInt64) + (1 : Int64)) - (p2.toInt64)))), .second, .val (.long (((100 : Int64) * ((((p1 &&& (2147483647 : Int32)).toInt64) + (1 : Int64)) - (p2.toInt64))) / (((p1 &&& (2147483647 : Int32)).toInt64) + (1 : Int64)))), .second, .val (.long (((100 : Int64) * ((((p1 &&& (2147483647 : Int32)).toInt64) + (1 : Int64)) - (p2.toInt64))) / (((p1 &&& (2147483647 : Int32)).toInt64) + (1 : Int64)))), .second, .val (.long (((100 : Int64) * ((((p1 &&& (2147483647 : Int32)).toInt64) + (1 : Int64)) - (p2.toInt64))) / (((p1 &&& (2147483647 : Int32)).toInt64) + (1 : Int64)))), .second] [(.long (1 : Int64)), (.long (((100 : Int64) * ((((p1 &&& (2147483647 : Int32)).toInt64) + (1 : Int64)) - (p2.toInt64))) / (((p1 &&& (2147483647 : Int32)).toInt64) + (1 : Int64))))])) _
    refine XS.ladd X8.here hx rfl (hb hby at_215) rfl ?_
    show Steps p.tables e below (T8.setTop (mkF m 216 #[.val (.int p1), .val (.int p2), .val (.int p3), .val (.int p4), .val (.int (p4 &&& (3 : Int32))), .val (.ref aS), .val (.double (FP.i2d p2)), .second, .val (.long (((p1 &&& (2147483647 : Int32)).toInt64) + (1 : Int64))), .second, .val (.ref b6), .val (.double (own_drop (FP.i2d p2) (FP.l2d (((p1 &&& (2147483647 : Int32)).toInt64) + (1 : Int64))))), .second, .val (.long ((100 : Int64) * ((((p1 &&& (2147483647 : Int32)).toInt64) + (1 : Int64)) - (p2.toInt64)))), .second, .val (.long (((100 : Int64) * ((((p1 &&& (2147483647 : Int32)).toInt64) + (1 : Int64)) - (p2.toInt64))) / (((p1 &&& (2147483647 : Int32)).toInt64) + (1 : Int64)))), .second, .val (.long (((100 : Int64) * ((((p1 &&& (2147483647 : Int32)).toInt64) + (1 : Int64)) - (p2.toInt64))) / (((p1 &&& (2147483647 : Int32)).toInt64) + (1 : Int64)))), .second, .val (.long (((100 : Int64) * ((((p1 &&& (2147483647 : Int32)).toInt64) + (1 : Int64)) - (p2.toInt64))) / (((p1 &&& (2147483647 : Int32)).toInt64) + (1 : Int64)))), .second] [(.long ((((100 : Int64) * ((((p1 &&& (2147483647 : Int32)).toInt64) + (1 : Int64)) - (p2.toInt64))) / (((p1 &&& (2147483647 : Int32)).toInt64) + (1 : Int64))) + (1 : Int64)))])) _
    refine XS.lstore X8.here hx rfl (hb hby at_216) rfl (l' := #[.val (.int p1), .val (.int p2), .val (.int p3), .val (.int p4), .val (.int (p4 &&& (3 : Int32))), .val (.ref aS), .val (.double (FP.i2d p2)), .second, .val (.long (((p1 &&& (2147483647 : Int32)).toInt64) + (1 : Int64))), .second, .val (.ref b6), .val (.double (own_drop (FP.i2d p2) (FP.l2d (((p1 &&& (2147483647 : Int32)).toInt64) + (1 : Int64))))), .second, .val (.long ((100 : Int64) * ((((p1 &&& (2147483647 : Int32)).toInt64) + (1 : Int64)) - (p2.toInt64)))), .second, .val (.long (((100 : Int64) * ((((p1 &&& (2147483647 : Int32)).toInt64) + (1 : Int64)) - (p2.toInt64))) / (((p1 &&& (2147483647 : Int32)).toInt64) + (1 : Int64)))), .second, .val (.long (((100 : Int64) * ((((p1 &&& (2147483647 : Int32)).toInt64) + (1 : Int64)) - (p2.toInt64))) / (((p1 &&& (2147483647 : Int32)).toInt64) + (1 : Int64)))), .second, .val (.long ((((100 : Int64) * ((((p1 &&& (2147483647 : Int32)).toInt64) + (1 : Int64)) - (p2.toInt64))) / (((p1 &&& (2147483647 : Int32)).toInt64) + (1 : Int64))) + (1 : Int64))), .second]) rfl ?_
    show Steps p.tables e below (T8.setTop (mkF m 218 #[.val (.int p1), .val (.int p2), .val (.int p3), .val (.int p4), .val (.int (p4 &&& (3 : Int32))), .val (.ref aS), .val (.double (FP.i2d p2)), .second, .val (.long (((p1 &&& (2147483647 : Int32)).toInt64) + (1 : Int64))), .second, .val (.ref b6), .val (.double (own_drop (FP.i2d p2) (FP.l2d (((p1 &&& (2147483647 : Int32)).toInt64) + (1 : Int64))))), .second, .val (.long ((100 : Int64) * ((((p1 &&& (2147483647 : Int32)).toInt64) + (1 : Int64)) - (p2.toInt64)))), .second, .val (.long (((100 : Int64) * ((((p1 &&& (2147483647 : Int32)).toInt64) + (1 : Int64)) - (p2.toInt64))) / (((p1 &&& (2147483647 : Int32)).toInt64) + (1 : Int64)))), .second, .val (.long (((100 : Int64) * ((((p1 &&& (2147483647 : Int32)).toInt64) + (1 : Int64)) - (p2.toInt64))) / (((p1 &&& (2147483647 : Int32)).toInt64) + (1 : Int64)))), .second, .val (.long ((((100 : Int64) * ((((p1 &&& (2147483647 : Int32)).toInt64) + (1 : Int64)) - (p2.toInt64))) / (((p1 &&& (2147483647 : Int32)).toInt64) + (1 : Int64))) + (1 : Int64))), .second] [])) _
    refine XS.goto X8.here hx rfl (pc0 := 218) (pc' := 227) rfl (hb hby at_218) (by decide) (by decide) ?_
    show Steps p.tables e below (T8.setTop (mkF m 227 #[.val (.int p1), .val (.int p2), .val (.int p3), .val (.int p4), .val (.int (p4 &&& (3 : Int32))), .val (.ref aS), .val (.double (FP.i2d p2)), .second, .val (.long (((p1 &&& (2147483647 : Int32)).toInt64) + (1 : Int64))), .second, .val (.ref b6), .val (.double (own_drop (FP.i2d p2) (FP.l2d (((p1 &&& (2147483647 : Int32)).toInt64) + (1 : Int64))))), .second, .val (.long ((100 : Int64) * ((((p1 &&& (2147483647 : Int32)).toInt64) + (1 : Int64)) - (p2.toInt64)))), .second, .val (.long (((100 : Int64) * ((((p1 &&& (2147483647 : Int32)).toInt64) + (1 : Int64)) - (p2.toInt64))) / (((p1 &&& (2147483647 : Int32)).toInt64) + (1 : Int64)))), .second, .val (.long (((100 : Int64) * ((((p1 &&& (2147483647 : Int32)).toInt64) + (1 : Int64)) - (p2.toInt64))) / (((p1 &&& (2147483647 : Int32)).toInt64) + (1 : Int64)))), .second, .val (.long ((((100 : Int64) * ((((p1 &&& (2147483647 : Int32)).toInt64) + (1 : Int64)) - (p2.toInt64))) / (((p1 &&& (2147483647 : Int32)).toInt64) + (1 : Int64))) + (1 : Int64))), .second] [])) _
    refine XS.lload X8.here hx rfl (hb hby at_227) rfl ?_
    show Steps p.tables e below (T8.setTop (mkF m 229 #[.val (.int p1), .val (.int p2), .val (.int p3), .val (.int p4), .val (.int (p4 &&& (3 : Int32))), .val (.ref aS), .val (.double (FP.i2d p2)), .second, .val (.long (((p1 &&& (2147483647 : Int32)).toInt64) + (1 : Int64))), .second, .val (.ref b6), .val (.double (own_drop (FP.i2d p2) (FP.l2d (((p1 &&& (2147483647 : Int32)).toInt64) + (1 : Int64))))), .second, .val (.long ((100 : Int64) * ((((p1 &&& (2147483647 : Int32)).toInt64) + (1 : Int64)) - (p2.toInt64)))), .second, .val (.long (((100 : Int64) * ((((p1 &&& (2147483647 : Int32)).toInt64) + (1 : Int64)) - (p2.toInt64))) / (((p1 &&& (2147483647 : Int32)).toInt64) + (1 : Int64)))), .second, .val (.long (((100 : Int64) * ((((p1 &&& (2147483647 : Int32)).toInt64) + (1 : Int64)) - (p2.toInt64))) / (((p1 &&& (2147483647 : Int32)).toInt64) + (1 : Int64)))), .second, .val (.long ((((100 : Int64) * ((((p1 &&& (2147483647 : Int32)).toInt64) + (1 : Int64)) - (p2.toInt64))) / (((p1 &&& (2147483647 : Int32)).toInt64) + (1 : Int64))) + (1 : Int64))), .second] [(.long (((100 : Int64) * ((((p1 &&& (2147483647 : Int32)).toInt64) + (1 : Int64)) - (p2.toInt64))) / (((p1 &&& (2147483647 : Int32)).toInt64) + (1 : Int64))))])) _
    refine XS.l2dS X8.here hx rfl (hb hby at_229) rfl rfl ?_
    show Steps p.tables e below (T8.setTop (mkF m 230 #[.val (.int p1), .val (.int p2), .val (.int p3), .val (.int p4), .val (.int (p4 &&& (3 : Int32))), .val (.ref aS), .val (.double (FP.i2d p2)), .second, .val (.long (((p1 &&& (2147483647 : Int32)).toInt64) + (1 : Int64))), .second, .val (.ref b6), .val (.double (own_drop (FP.i2d p2) (FP.l2d (((p1 &&& (2147483647 : Int32)).toInt64) + (1 : Int64))))), .second, .val (.long ((100 : Int64) * ((((p1 &&& (2147483647 : Int32)).toInt64) + (1 : Int64)) - (p2.toInt64)))), .second, .val (.long (((100 : Int64) * ((((p1 &&& (2147483647 : Int32)).toInt64) + (1 : Int64)) - (p2.toInt64))) / (((p1 &&& (2147483647 : Int32)).toInt64) + (1 : Int64)))), .second, .val (.long (((100 : Int64) * ((((p1 &&& (2147483647 : Int32)).toInt64) + (1 : Int64)) - (p2.toInt64))) / (((p1 &&& (2147483647 : Int32)).toInt64) + (1 : Int64)))), .second, .val (.long ((((100 : Int64) * ((((p1 &&& (2147483647 : Int32)).toInt64) + (1 : Int64)) - (p2.toInt64))) / (((p1 &&& (2147483647 : Int32)).toInt64) + (1 : Int64))) + (1 : Int64))), .second] [(.double (FP.l2d (((100 : Int64) * ((((p1 &&& (2147483647 : Int32)).toInt64) + (1 : Int64)) - (p2.toInt64))) / (((p1 &&& (2147483647 : Int32)).toInt64) + (1 : Int64)))))])) _
    refine XS.dload X8.here hx rfl (hb hby at_230) rfl ?_
    show Steps p.tables e below (T8.setTop (mkF m 232 #[.val (.int p1), .val (.int p2), .val (.int p3), .val (.int p4), .val (.int (p4 &&& (3 : Int32))), .val (.ref aS), .val (.double (FP.i2d p2)), .second, .val (.long (((p1 &&& (2147483647 : Int32)).toInt64) + (1 : Int64))), .second, .val (.ref b6), .val (.double (own_drop (FP.i2d p2) (FP.l2d (((p1 &&& (2147483647 : Int32)).toInt64) + (1 : Int64))))), .second, .val (.long ((100 : Int64) * ((((p1 &&& (2147483647 : Int32)).toInt64) + (1 : Int64)) - (p2.toInt64)))), .second, .val (.long (((100 : Int64) * ((((p1 &&& (2147483647 : Int32)).toInt64) + (1 : Int64)) - (p2.toInt64))) / (((p1 &&& (2147483647 : Int32)).toInt64) + (1 : Int64)))), .second, .val (.long (((100 : Int64) * ((((p1 &&& (2147483647 : Int32)).toInt64) + (1 : Int64)) - (p2.toInt64))) / (((p1 &&& (2147483647 : Int32)).toInt64) + (1 : Int64)))), .second, .val (.long ((((100 : Int64) * ((((p1 &&& (2147483647 : Int32)).toInt64) + (1 : Int64)) - (p2.toInt64))) / (((p1 &&& (2147483647 : Int32)).toInt64) + (1 : Int64))) + (1 : Int64))), .second] [(.double (own_drop (FP.i2d p2) (FP.l2d (((p1 &&& (2147483647 : Int32)).toInt64) + (1 : Int64))))), (.double (FP.l2d (((100 : Int64) * ((((p1 &&& (2147483647 : Int32)).toInt64) + (1 : Int64)) - (p2.toInt64))) / (((p1 &&& (2147483647 : Int32)).toInt64) + (1 : Int64)))))])) _
    refine XS.dcmpS X8.here hx rfl (hb hby at_232) rfl rfl ?_
    show Steps p.tables e below (T8.setTop (mkF m 233 #[.val (.int p1), .val (.int p2), .val (.int p3), .val (.int p4), .val (.int (p4 &&& (3 : Int32))), .val (.ref aS), .val (.double (FP.i2d p2)), .second, .val (.long (((p1 &&& (2147483647 : Int32)).toInt64) + (1 : Int64))), .second, .val (.ref b6), .val (.double (own_drop (FP.i2d p2) (FP.l2d (((p1 &&& (2147483647 : Int32)).toInt64) + (1 : Int64))))), .second, .val (.long ((100 : Int64) * ((((p1 &&& (2147483647 : Int32)).toInt64) + (1 : Int64)) - (p2.toInt64)))), .second, .val (.long (((100 : Int64) * ((((p1 &&& (2147483647 : Int32)).toInt64) + (1 : Int64)) - (p2.toInt64))) / (((p1 &&& (2147483647 : Int32)).toInt64) + (1 : Int64)))), .second, .val (.long (((100 : Int64) * ((((p1 &&& (2147483647 : Int32)).toInt64) + (1 : Int64)) - (p2.toInt64))) / (((p1 &&& (2147483647 : Int32)).toInt64) + (1 : Int64)))), .second, .val (.long ((((100 : Int64) * ((((p1 &&& (2147483647 : Int32)).toInt64) + (1 : Int64)) - (p2.toInt64))) / (((p1 &&& (2147483647 : Int32)).toInt64) + (1 : Int64))) + (1 : Int64))), .second] [(.int (cmpValue (FP.dcmp (FP.l2d (((100 : Int64) * ((((p1 &&& (2147483647 : Int32)).toInt64) + (1 : Int64)) - (p2.toInt64))) / (((p1 &&& (2147483647 : Int32)).toInt64) + (1 : Int64)))) (own_drop (FP.i2d p2) (FP.l2d (((p1 &&& (2147483647 : Int32)).toInt64) + (1 : Int64))))) .g))])) _
    refine XS.ifNo X8.here hx rfl (hb hby at_233) rfl ((if0 _ _).trans (flt (by first | exact (own_rB (own_m2 p1).1 (own_m2 p1).2 rfl hc209).1 | exact (own_rB (own_m2 p1).1 (own_m2 p1).2 rfl hc209).2 : ¬ ((0 : Int32) < (cmpValue (FP.dcmp (FP.l2d (((100 : Int64) * ((((p1 &&& (2147483647 : Int32)).toInt64) + (1 : Int64)) - (p2.toInt64))) / (((p1 &&& (2147483647 : Int32)).toInt64) + (1 : Int64)))) (own_drop (FP.i2d p2) (FP.l2d (((p1 &&& (2147483647 : Int32)).toInt64) + (1 : Int64))))) .g)))).2.2.1) ?_
    show Steps p.tables e below (T8.setTop (mkF m 236 #[.val (.int p1), .val (.int p2), .val (.int p3), .val (.int p4), .val (.int (p4 &&& (3 : Int32))), .val (.ref aS), .val (.double (FP.i2d p2)), .second, .val (.long (((p1 &&& (2147483647 : Int32)).toInt64) + (1 : Int64))), .second, .val (.ref b6), .val (.double (own_drop (FP.i2d p2) (FP.l2d (((p1 &&& (2147483647 : Int32)).toInt64) + (1 : Int64))))), .second, .val (.long ((100 : Int64) * ((((p1 &&& (2147483647 : Int32)).toInt64) + (1 : Int64)) - (p2.toInt64)))), .second, .val (.long (((100 : Int64) * ((((p1 &&& (2147483647 : Int32)).toInt64) + (1 : Int64)) - (p2.toInt64))) / (((p1 &&& (2147483647 : Int32)).toInt64) + (1 : Int64)))), .second, .val (.long (((100 : Int64) * ((((p1 &&& (2147483647 : Int32)).toInt64) + (1 : Int64)) - (p2.toInt64))) / (((p1 &&& (2147483647 : Int32)).toInt64) + (1 : Int64)))), .second, .val (.long ((((100 : Int64) * ((((p1 &&& (2147483647 : Int32)).toInt64) + (1 : Int64)) - (p2.toInt64))) / (((p1 &&& (2147483647 : Int32)).toInt64) + (1 : Int64))) + (1 : Int64))), .second] [])) _
    refine XS.dload X8.here hx rfl (hb hby at_236) rfl ?_
    show Steps p.tables e below (T8.setTop (mkF m 238 #[.val (.int p1), .val (.int p2), .val (.int p3), .val (.int p4), .val (.int (p4 &&& (3 : Int32))), .val (.ref aS), .val (.double (FP.i2d p2)), .second, .val (.long (((p1 &&& (2147483647 : Int32)).toInt64) + (1 : Int64))), .second, .val (.ref b6), .val (.double (own_drop (FP.i2d p2) (FP.l2d (((p1 &&& (2147483647 : Int32)).toInt64) + (1 : Int64))))), .second, .val (.long ((100 : Int64) * ((((p1 &&& (2147483647 : Int32)).toInt64) + (1 : Int64)) - (p2.toInt64)))), .second, .val (.long (((100 : Int64) * ((((p1 &&& (2147483647 : Int32)).toInt64) + (1 : Int64)) - (p2.toInt64))) / (((p1 &&& (2147483647 : Int32)).toInt64) + (1 : Int64)))), .second, .val (.long (((100 : Int64) * ((((p1 &&& (2147483647 : Int32)).toInt64) + (1 : Int64)) - (p2.toInt64))) / (((p1 &&& (2147483647 : Int32)).toInt64) + (1 : Int64)))), .second, .val (.long ((((100 : Int64) * ((((p1 &&& (2147483647 : Int32)).toInt64) + (1 : Int64)) - (p2.toInt64))) / (((p1 &&& (2147483647 : Int32)).toInt64) + (1 : Int64))) + (1 : Int64))), .second] [(.double (own_drop (FP.i2d p2) (FP.l2d (((p1 &&& (2147483647 : Int32)).toInt64) + (1 : Int64)))))])) _
    refine XS.lload X8.here hx rfl (hb hby at_238) rfl ?_
    show Steps p.tables e below (T8.setTop (mkF m 240 #[.val (.int p1), .val (.int p2), .val (.int p3), .val (.int p4), .val (.int (p4 &&& (3 : Int32))), .val (.ref aS), .val (.double (FP.i2d p2)), .second, .val (.long (((p1 &&& (2147483647 : Int32)).toInt64) + (1 : Int64))), .second, .val (.ref b6), .val (.double (own_drop (FP.i2d p2) (FP.l2d (((p1 &&& (2147483647 : Int32)).toInt64) + (1 : Int64))))), .second, .val (.long ((100 : Int64) * ((((p1 &&& (2147483647 : Int32)).toInt64) + (1 : Int64)) - (p2.toInt64)))), .second, .val (.long (((100 : Int64) * ((((p1 &&& (2147483647 : Int32)).toInt64) + (1 : Int64)) - (p2.toInt64))) / (((p1 &&& (2147483647 : Int32)).toInt64) + (1 : Int64)))), .second, .val (.long (((100 : Int64) * ((((p1 &&& (2147483647 : Int32)).toInt64) + (1 : Int64)) - (p2.toInt64))) / (((p1 &&& (2147483647 : Int32)).toInt64) + (1 : Int64)))), .second, .val (.long ((((100 : Int64) * ((((p1 &&& (2147483647 : Int32)).toInt64) + (1 : Int64)) - (p2.toInt64))) / (((p1 &&& (2147483647 : Int32)).toInt64) + (1 : Int64))) + (1 : Int64))), .second] [(.long ((((100 : Int64) * ((((p1 &&& (2147483647 : Int32)).toInt64) + (1 : Int64)) - (p2.toInt64))) / (((p1 &&& (2147483647 : Int32)).toInt64) + (1 : Int64))) + (1 : Int64))), (.double (own_drop (FP.i2d p2) (FP.l2d (((p1 &&& (2147483647 : Int32)).toInt64) + (1 : Int64)))))])) _
    refine XS.l2dS X8.here hx rfl (hb hby at_240) rfl rfl ?_
    show Steps p.tables e below (T8.setTop (mkF m 241 #[.val (.int p1), .val (.int p2), .val (.int p3), .val (.int p4), .val (.int (p4 &&& (3 : Int32))), .val (.ref aS), .val (.double (FP.i2d p2)), .second, .val (.long (((p1 &&& (2147483647 : Int32)).toInt64) + (1 : Int64))), .second, .val (.ref b6), .val (.double (own_drop (FP.i2d p2) (FP.l2d (((p1 &&& (2147483647 : Int32)).toInt64) + (1 : Int64))))), .second, .val (.long ((100 : Int64) * ((((p1 &&& (2147483647 : Int32)).toInt64) + (1 : Int64)) - (p2.toInt64)))), .second, .val (.long (((100 : Int64) * ((((p1 &&& (2147483647 : Int32)).toInt64) + (1 : Int64)) - (p2.toInt64))) / (((p1 &&& (2147483647 : Int32)).toInt64) + (1 : Int64)))), .second, .val (.long (((100 : Int64) * ((((p1 &&& (2147483647 : Int32)).toInt64) + (1 : Int64)) - (p2.toInt64))) / (((p1 &&& (2147483647 : Int32)).toInt64) + (1 : Int64)))), .second, .val (.long ((((100 : Int64) * ((((p1 &&& (2147483647 : Int32)).toInt64) + (1 : Int64)) - (p2.toInt64))) / (((p1 &&& (2147483647 : Int32)).toInt64) + (1 : Int64))) + (1 : Int64))), .second] [(.double (FP.l2d ((((100 : Int64) * ((((p1 &&& (2147483647 : Int32)).toInt64) + (1 : Int64)) - (p2.toInt64))) / (((p1 &&& (2147483647 : Int32)).toInt64) + (1 : Int64))) + (1 : Int64)))), (.double (own_drop (FP.i2d p2) (FP.l2d (((p1 &&& (2147483647 : Int32)).toInt64) + (1 : Int64)))))])) _
    refine XS.dcmpS X8.here hx rfl (hb hby at_241) rfl rfl ?_
    show Steps p.tables e below (T8.setTop (mkF m 242 #[.val (.int p1), .val (.int p2), .val (.int p3), .val (.int p4), .val (.int (p4 &&& (3 : Int32))), .val (.ref aS), .val (.double (FP.i2d p2)), .second, .val (.long (((p1 &&& (2147483647 : Int32)).toInt64) + (1 : Int64))), .second, .val (.ref b6), .val (.double (own_drop (FP.i2d p2) (FP.l2d (((p1 &&& (2147483647 : Int32)).toInt64) + (1 : Int64))))), .second, .val (.long ((100 : Int64) * ((((p1 &&& (2147483647 : Int32)).toInt64) + (1 : Int64)) - (p2.toInt64)))), .second, .val (.long (((100 : Int64) * ((((p1 &&& (2147483647 : Int32)).toInt64) + (1 : Int64)) - (p2.toInt64))) / (((p1 &&& (2147483647 : Int32)).toInt64) + (1 : Int64)))), .second, .val (.long (((100 : Int64) * ((((p1 &&& (2147483647 : Int32)).toInt64) + (1 : Int64)) - (p2.toInt64))) / (((p1 &&& (2147483647 : Int32)).toInt64) + (1 : Int64)))), .second, .val (.long ((((100 : Int64) * ((((p1 &&& (2147483647 : Int32)).toInt64) + (1 : Int64)) - (p2.toInt64))) / (((p1 &&& (2147483647 : Int32)).toInt64) + (1 : Int64))) + (1 : Int64))), .second] [(.int (cmpValue (FP.dcmp (own_drop (FP.i2d p2) (FP.l2d (((p1 &&& (2147483647 : Int32)).toInt64) + (1 : Int64)))) (FP.l2d ((((100 : Int64) * ((((p1 &&& (2147483647 : Int32)).toInt64) + (1 : Int64)) - (p2.toInt64))) / (((p1 &&& (2147483647 : Int32)).toInt64) + (1 : Int64))) + (1 : Int64)))) .g))])) _
    refine XS.ifNo X8.here hx rfl (hb hby at_242) rfl ((if0 _ _).trans (flt (by first | exact (own_rB (own_m2 p1).1 (own_m2 p1).2 rfl hc209).1 | exact (own_rB (own_m2 p1).1 (own_m2 p1).2 rfl hc209).2 : ¬ ((0 : Int32) < (cmpValue (FP.dcmp (own_drop (FP.i2d p2) (FP.l2d (((p1 &&& (2147483647 : Int32)).toInt64) + (1 : Int64)))) (FP.l2d ((((100 : Int64) * ((((p1 &&& (2147483647 : Int32)).toInt64) + (1 : Int64)) - (p2.toInt64))) / (((p1 &&& (2147483647 : Int32)).toInt64) + (1 : Int64))) + (1 : Int64)))) .g)))).2.2.1) ?_
    show Steps p.tables e below (T8.setTop (mkF m 245 #[.val (.int p1), .val (.int p2), .val (.int p3), .val (.int p4), .val (.int (p4 &&& (3 : Int32))), .val (.ref aS), .val (.double (FP.i2d p2)), .second, .val (.long (((p1 &&& (2147483647 : Int32)).toInt64) + (1 : Int64))), .second, .val (.ref b6), .val (.double (own_drop (FP.i2d p2) (FP.l2d (((p1 &&& (2147483647 : Int32)).toInt64) + (1 : Int64))))), .second, .val (.long ((100 : Int64) * ((((p1 &&& (2147483647 : Int32)).toInt64) + (1 : Int64)) - (p2.toInt64)))), .second, .val (.long (((100 : Int64) * ((((p1 &&& (2147483647 : Int32)).toInt64) + (1 : Int64)) - (p2.toInt64))) / (((p1 &&& (2147483647 : Int32)).toInt64) + (1 : Int64)))), .second, .val (.long (((100 : Int64) * ((((p1 &&& (2147483647 : Int32)).toInt64) + (1 : Int64)) - (p2.toInt64))) / (((p1 &&& (2147483647 : Int32)).toInt64) + (1 : Int64)))), .second, .val (.long ((((100 : Int64) * ((((p1 &&& (2147483647 : Int32)).toInt64) + (1 : Int64)) - (p2.toInt64))) / (((p1 &&& (2147483647 : Int32)).toInt64) + (1 : Int64))) + (1 : Int64))), .second] [])) _
    refine XS.iconst X8.here hx rfl (hb hby at_245) ?_
    show Steps p.tables e below (T8.setTop (mkF m 246 #[.val (.int p1), .val (.int p2), .val (.int p3), .val (.int p4), .val (.int (p4 &&& (3 : Int32))), .val (.ref aS), .val (.double (FP.i2d p2)), .second, .val (.long (((p1 &&& (2147483647 : Int32)).toInt64) + (1 : Int64))), .second, .val (.ref b6), .val (.double (own_drop (FP.i2d p2) (FP.l2d (((p1 &&& (2147483647 : Int32)).toInt64) + (1 : Int64))))), .second, .val (.long ((100 : Int64) * ((((p1 &&& (2147483647 : Int32)).toInt64) + (1 : Int64)) - (p2.toInt64)))), .second, .val (.long (((100 : Int64) * ((((p1 &&& (2147483647 : Int32)).toInt64) + (1 : Int64)) - (p2.toInt64))) / (((p1 &&& (2147483647 : Int32)).toInt64) + (1 : Int64)))), .second, .val (.long (((100 : Int64) * ((((p1 &&& (2147483647 : Int32)).toInt64) + (1 : Int64)) - (p2.toInt64))) / (((p1 &&& (2147483647 : Int32)).toInt64) + (1 : Int64)))), .second, .val (.long ((((100 : Int64) * ((((p1 &&& (2147483647 : Int32)).toInt64) + (1 : Int64)) - (p2.toInt64))) / (((p1 &&& (2147483647 : Int32)).toInt64) + (1 : Int64))) + (1 : Int64))), .second] [(.int (1 : Int32))])) _
    refine XS.goto X8.here hx rfl (pc0 := 246) (pc' := 250) rfl (hb hby at_246) (by decide) (by decide) ?_
    show Steps p.tables e below (T8.setTop (mkF m 250 #[.val (.int p1), .val (.int p2), .val (.int p3), .val (.int p4), .val (.int (p4 &&& (3 : Int32))), .val (.ref aS), .val (.double (FP.i2d p2)), .second, .val (.long (((p1 &&& (2147483647 : Int32)).toInt64) + (1 : Int64))), .second, .val (.ref b6), .val (.double (own_drop (FP.i2d p2) (FP.l2d (((p1 &&& (2147483647 : Int32)).toInt64) + (1 : Int64))))), .second, .val (.long ((100 : Int64) * ((((p1 &&& (2147483647 : Int32)).toInt64) + (1 : Int64)) - (p2.toInt64)))), .second, .val (.long (((100 : Int64) * ((((p1 &&& (2147483647 : Int32)).toInt64) + (1 : Int64)) - (p2.toInt64))) / (((p1 &&& (2147483647 : Int32)).toInt64) + (1 : Int64)))), .second, .val (.long (((100 : Int64) * ((((p1 &&& (2147483647 : Int32)).toInt64) + (1 : Int64)) - (p2.toInt64))) / (((p1 &&& (2147483647 : Int32)).toInt64) + (1 : Int64)))), .second, .val (.long ((((100 : Int64) * ((((p1 &&& (2147483647 : Int32)).toInt64) + (1 : Int64)) - (p2.toInt64))) / (((p1 &&& (2147483647 : Int32)).toInt64) + (1 : Int64))) + (1 : Int64))), .second] [(.int (1 : Int32))])) _
    exact retN X8 hx (t := .boolean) Bd.returns (by simp) (hb hby at_250) hr
  · show Ql (some (.int (1 : Int32))) n0 _ _
    exact ⟨rfl, N8⟩
set_option maxRecDepth 65536 in
set_option maxHeartbeats 40000000 in
theorem rm0_ttftff (l : Launch) (Z : State) (a0 : Array Value) (hw : ∀ d ∈ tables_1, d.before a0 Z = true) (ws : List Jvm.Cond) (p1 : Int32) (p2 : Int32) (p3 : Int32) (p4 : Int32) (h0 : Heap) (n0 : Nat) (Z0 : n0 ≤ h0.size) (w2 : Int32) (S : Sta Z h0 "java/lang/String" "COMPACT_STRINGS" "Z" (.int w2)) (hw2 : ¬ (w2 = (0 : Int32))) (hc24 : ¬ ((p4 &&& (3 : Int32)) = (0 : Int32))) (hc73 : ¬ ((p4 &&& (3 : Int32)) = (1 : Int32))) (hnz184 : ¬ ((((p1 &&& (2147483647 : Int32)).toInt64) + (1 : Int64)) = (0 : Int64))) (hnz199 : ¬ ((((p1 &&& (2147483647 : Int32)).toInt64) + (1 : Int64)) = (0 : Int64))) (hc202 : ¬ ((lcmpW (((100 : Int64) * ((((p1 &&& (2147483647 : Int32)).toInt64) + (1 : Int64)) - (p2.toInt64))) - (((100 : Int64) * ((((p1 &&& (2147483647 : Int32)).toInt64) + (1 : Int64)) - (p2.toInt64))) / (((p1 &&& (2147483647 : Int32)).toInt64) + (1 : Int64))) * (((p1 &&& (2147483647 : Int32)).toInt64) + (1 : Int64))) (0 : Int64)) = (0 : Int32))) (hc209 : ¬ ((0 : Int32) < (lcmpW ((100 : Int64) * ((((p1 &&& (2147483647 : Int32)).toInt64) + (1 : Int64)) - (p2.toInt64))) (0 : Int64)))) :
    MetFree l x (head1 (Jvm.Cond.code x code maxLocals ret :: ws) room_1) (fun a U => a = #[(.int p1), (.int p2), (.int p3), (.int p4)] ∧ Z.Warmed39 U.vm ∧ U.heap = h0) (fun _ _ _ _ _ => True) (fun _ U o U' => ∃ v L, o = .returned v ∧ Ql (some (.int (1 : Int32))) n0 v L ∧ FrameEnd U o U' L room_1.cells room_1.slots) := by
  refine MetFree.of_bodySF (plainFor_of_name pn_0) hisR ?_
  intro p e s m args below meth c s₁ Bd hml0 hP hK
  obtain ⟨rfl, hZ, hh⟩ := hP
  have hx := Bd.exec
  have hby := Bd.bytes
  have hml : c.maxLocals = 21 := hml0
  have hown : s.vm.findClass "com/example/precision/precision/models/TopicUncertaintyDropPercentPinLaw" = some m.cls := findClass_of_methodNamed Bd.named
  have hnm := (name_of_methodNamed Bd.named Bd.method).1
  have X0 : Stand p l e room_1 s m #[(.int p1), (.int p2), (.int p3), (.int p4)] below meth c s₁ [] 0 0 := Stand.of_body Bd
  have e0 : s₁.heap = h0 := by rw [← hh, Bd.state]; rfl
  have N0 := Fr.nil n0
  have pre0 : ∀ t, Steps p.tables e below (s₁.setTop (mkF m 0 #[.val (.int p1), .val (.int p2), .val (.int p3), .val (.int p4), .unset, .unset, .unset, .unset, .unset, .unset, .unset, .unset, .unset, .unset, .unset, .unset, .unset, .unset, .unset, .unset, .unset] [])) t → Steps p.tables e below (s₁.setTop (entryFrame m #[(.int p1), (.int p2), (.int p3), (.int p4)] maxLocals)) t := fun t k => castTop (ef_0 m p1 p2 p3 p4) k
  -- 3. LAWS
  -- pc 13: java/lang/String.valueOf by its contract rm1
  obtain ⟨_, _, ⟨T5, L5, k5, n5⟩, -, X5, ⟨Lc5, hQ5, l5, y5, z5⟩, st5⟩ := Jvm.LawKit.callS X0 hx (y := (⟨"java/lang/String", "valueOf", "(C)Ljava/lang/String;"⟩ : MethodName)) hown (mvT hZ (hw _ (List.mem_of_getElem? (i := 0) rfl))) (mvT hZ (hw _ (List.mem_of_getElem? (i := 1) rfl))) (mvT hZ (hw _ (List.mem_of_getElem? (i := 2) rfl))) (mvT hZ (hw _ (List.mem_of_getElem? (i := 3) rfl))) (by decide) (backOf (W := 0) (rm1 l Z a0 hw [] ((((p4.toUInt32 >>> ((2 : Int32) &&& 31).toUInt32).toInt32) &&& (255 : Int32)).toUInt32.toUInt16.toUInt32.toInt32) w2 h0 n0 Z0 S hw2 (own_ch ((p4.toUInt32 >>> ((2 : Int32) &&& 31).toUInt32).toInt32))) hZ (hw _ (List.mem_of_getElem? (i := 3) rfl)) (hw _ (List.mem_of_getElem? (i := 2) rfl)) (by decide) (by decide)) (g := (mkF m 13 #[.val (.int p1), .val (.int p2), .val (.int p3), .val (.int p4), .val (.int (p4 &&& (3 : Int32))), .unset, .unset, .unset, .unset, .unset, .unset, .unset, .unset, .unset, .unset, .unset, .unset, .unset, .unset, .unset, .unset] [(.int ((((p4.toUInt32 >>> ((2 : Int32) &&& 31).toUInt32).toInt32) &&& (255 : Int32)).toUInt32.toUInt16.toUInt32.toInt32))])) rfl (by rw [hml]; rfl) (argsL := [(.int ((((p4.toUInt32 >>> ((2 : Int32) &&& 31).toUInt32).toInt32) &&& (255 : Int32)).toUInt32.toUInt16.toUInt32.toInt32))]) (rest := []) (lenOf pd_0_0 rfl) rfl (by show 2 * 0 + _ ≤ _; exact Nat.le_of_eq rfl) (hb hby at_13) (fun _ _ => ⟨rfl, e0, (by decide : 0 + 2 ≤ _), (by decide : 0 + 5 ≤ _)⟩)
  dsimp only [Pt.U, Pt.locs, Pt.cells, Pt.slots] at X5 l5 y5 z5 st5 hQ5
  subst l5 y5 z5
  obtain ⟨aS, rfl, N5q, Kc5⟩ := hQ5
  have N5 := Fr.app N0 N5q
  have Kh5 : Keep h0 T5.heap [] := Kc5
  obtain ⟨T6, h6, X6, e6, E6, A6, D6, -, st6⟩ := newO X5 hx hZ hown (hw _ (List.mem_of_getElem? (i := 26) rfl)) (hw _ (List.mem_of_getElem? (i := 27) rfl)) (hw _ (List.mem_of_getElem? (i := 28) rfl)) rfl (g := (mkF m 146 #[.val (.int p1), .val (.int p2), .val (.int p3), .val (.int p4), .val (.int (p4 &&& (3 : Int32))), .val (.ref aS), .val (.double (FP.i2d p2)), .second, .val (.long (((p1 &&& (2147483647 : Int32)).toInt64) + (1 : Int64))), .second, .unset, .unset, .unset, .unset, .unset, .unset, .unset, .unset, .unset, .unset, .unset] [])) rfl (hb hby at_146) (by decide) (by decide)
  obtain ⟨b6, g6⟩ : ∃ z, z = T5.heap.size := ⟨_, rfl⟩      -- the fresh object's address
  rw [← g6] at A6 D6 st6      -- A6 : Exa Z h6 b6 "com/example/precision/precision/models/Uncertainty$TopicUncertainty"; E6 : Ext T5.heap h6 (carries every older fact: .ext E6)
  have F_topic_b6 : Fld Z h6 b6 "com/example/precision/precision/models/Uncertainty$TopicUncertainty" "topic" "Ljava/lang/String;" .null := D6 (Or.inr (hw _ (List.mem_of_getElem? (i := 39) rfl))) (ty := (.object "java/lang/String")) (by decide)
  have F_bits_b6 : Fld Z h6 b6 "com/example/precision/precision/models/Uncertainty$TopicUncertainty" "bits" "D" (.double (0 : UInt64)) := D6 (Or.inr (hw _ (List.mem_of_getElem? (i := 41) rfl))) (ty := .double) (by decide)
  have F_maximum_b6 : Fld Z h6 b6 "com/example/precision/precision/models/Uncertainty$TopicUncertainty" "maximum" "D" (.double (0 : UInt64)) := D6 (Or.inr (hw _ (List.mem_of_getElem? (i := 43) rfl))) (ty := .double) (by decide)
  have E_b6 := A6
  have g_b6 : n0 ≤ b6 := Nat.le_trans (Nat.le_trans Z0 Kc5.1) (Nat.le_of_eq g6.symm)
  have sz_b6 : h0.size ≤ b6 := (Nat.le_trans Kh5.1 (Nat.le_of_eq g6.symm))
  have K6 : Keep h0 h6 [] := Kh5.ext E6
  -- pc 157: the constructor of com/example/precision/precision/models/Uncertainty$TopicUncertainty by its contract rm6
  obtain ⟨_, _, ⟨T7, L7, k7, n7⟩, -, X7, ⟨Lc7, hQ7, l7, y7, z7⟩, st7⟩ := X6.specialBack hx (y := (⟨"com/example/precision/precision/models/Uncertainty$TopicUncertainty", "<init>", "(Ljava/lang/String;DD)V"⟩ : MethodName)) rfl hown (mvT hZ (hw _ (List.mem_of_getElem? (i := 29) rfl))) (mvT hZ (hw _ (List.mem_of_getElem? (i := 30) rfl))) (mvT hZ (hw _ (List.mem_of_getElem? (i := 31) rfl))) (by decide) (backOf (W := 1) (rm6 l Z a0 hw [] b6 aS (FP.i2d p2) (FP.l2d (((p1 &&& (2147483647 : Int32)).toInt64) + (1 : Int64))) .null (.double (0 : UInt64)) (.double (0 : UInt64)) h6 n0 (Nat.le_trans Z0 K6.1) E_b6 F_topic_b6 g_b6 F_bits_b6 F_maximum_b6) hZ (hw _ (List.mem_of_getElem? (i := 31) rfl)) (hw _ (List.mem_of_getElem? (i := 28) rfl)) (by decide) (by decide)) (g := (mkF m 157 #[.val (.int p1), .val (.int p2), .val (.int p3), .val (.int p4), .val (.int (p4 &&& (3 : Int32))), .val (.ref aS), .val (.double (FP.i2d p2)), .second, .val (.long (((p1 &&& (2147483647 : Int32)).toInt64) + (1 : Int64))), .second, .unset, .unset, .unset, .unset, .unset, .unset, .unset, .unset, .unset, .unset, .unset] [(.double (FP.l2d (((p1 &&& (2147483647 : Int32)).toInt64) + (1 : Int64)))), (.double (FP.i2d p2)), (.ref aS), (.ref b6), (.ref b6)])) rfl (by rw [hml]; rfl) (Steps.refl _) (a := b6) (argsL := [(.ref aS), (.double (FP.i2d p2)), (.double (FP.l2d (((p1 &&& (2147483647 : Int32)).toInt64) + (1 : Int64))))]) (rest := [(.ref b6)]) (lenOf pd_0_5 rfl) rfl (by show 2 * 0 + _ ≤ _; exact Nat.le_of_eq rfl) (hb hby at_157) (fun _ _ => ⟨rfl, e6, (by decide : 3 + 0 ≤ _), (by decide : 8 + 0 ≤ _)⟩)
  dsimp only [Pt.U, Pt.locs, Pt.cells, Pt.slots] at X7 l7 y7 z7 st7 hQ7
  subst l7 y7 z7
  obtain ⟨rfl, N7q, Kc7, FB, FM⟩ := hQ7
  have N7 := Fr.app N5 N7q
  have Kh7 : Keep h0 T7.heap [] := K6.trans Kc7 (allS (Or.inr sz_b6) all0)
  -- pc 164: com/example/precision/precision/models/Uncertainty$TopicUncertainty.dropPercent by the contract of the body that the receiver's class selects, rm8
  obtain ⟨cq8, kq8, q8a, q8b, q8c⟩ := isOf hZ rfl (E_b6.keep Kc7)
  obtain ⟨_, _, ⟨T8, L8, k8, n8⟩, -, X8, ⟨Lc8, hQ8, l8, y8, z8⟩, st8⟩ := X7.virtualBack hx (y := (⟨"com/example/precision/precision/models/Uncertainty$TopicUncertainty", "dropPercent", "()D"⟩ : MethodName)) (z := (⟨"com/example/precision/precision/models/Uncertainty$TopicUncertainty", "dropPercent", "()D"⟩ : MethodName)) hown (mvT hZ (hw _ (List.mem_of_getElem? (i := 44) rfl))) (mvT hZ (hw _ (List.mem_of_getElem? (i := 45) rfl))) (notFace_of_selects (args := #[]) (mvT hZ (hw _ (List.mem_of_getElem? (i := 47) rfl)))) (mvT hZ (hw _ (List.mem_of_getElem? (i := 47) rfl))) (mvT hZ (hw _ (List.mem_of_getElem? (i := 46) rfl))) (by decide) (backOf (W := 0) (rm8_f l Z a0 hw [] b6 (FP.l2d (((p1 &&& (2147483647 : Int32)).toInt64) + (1 : Int64))) (FP.i2d p2) T7.heap n0 (Nat.le_trans Z0 Kh7.1) FM FB (own_mM (b := p2) (own_m2 p1).1 (own_m2 p1).2).1 (own_mM (b := p2) (own_m2 p1).1 (own_m2 p1).2).2.1 (own_mM (b := p2) (own_m2 p1).1 (own_m2 p1).2).2.2.1 (own_mM (b := p2) (own_m2 p1).1 (own_m2 p1).2).2.2.2) hZ (hw _ (List.mem_of_getElem? (i := 48) rfl)) (hw _ (List.mem_of_getElem? (i := 28) rfl)) (by decide) (by decide)) q8a q8c (g := (mkF m 164 #[.val (.int p1), .val (.int p2), .val (.int p3), .val (.int p4), .val (.int (p4 &&& (3 : Int32))), .val (.ref aS), .val (.double (FP.i2d p2)), .second, .val (.long (((p1 &&& (2147483647 : Int32)).toInt64) + (1 : Int64))), .second, .val (.ref b6), .unset, .unset, .unset, .unset, .unset, .unset, .unset, .unset, .unset, .unset] [(.ref b6)])) rfl (by rw [hml]; rfl) (Steps.refl _) (argsL := []) (rest := []) (lenOf pd_0_6 rfl) rfl (by show 2 * 0 + _ ≤ _; exact Nat.le_of_eq rfl) (hb hby at_164) (fun _ _ => ⟨rfl, rfl, (by decide : 3 + 0 ≤ _), (by decide : 8 + 0 ≤ _)⟩)
  dsimp only [Pt.U, Pt.locs, Pt.cells, Pt.slots] at X8 l8 y8 z8 st8 hQ8
  subst l8 y8 z8
  obtain ⟨rfl, N8q, e8⟩ := hQ8
  have N8 := Fr.app N7 N8q
  obtain ⟨fs, hr, hrun, hended, hW, hsame⟩ := X8.leave (v := some (.int (1 : Int32))) (fun h => by rw [Bd.returns] at h; cases h)
  refine ⟨_, _, pre0 _ ?_, hrun, hended, _, _, rfl, ?_, ⟨_, rfl⟩, hW, hsame.mono (by decide) (by decide)⟩
  -- 4. STEPS
  · show Steps p.tables e below (s₁.setTop (mkF m 0 #[.val (.int p1), .val (.int p2), .val (.int p3), .val (.int p4), .unset, .unset, .unset, .unset, .unset, .unset, .unset, .unset, .unset, .unset, .unset, .unset, .unset, .unset, .unset, .unset, .unset] [])) _
    refine XS.iloadN X0.here hx rfl (hb hby at_0) rfl ?_
    show Steps p.tables e below (s₁.setTop (mkF m 1 #[.val (.int p1), .val (.int p2), .val (.int p3), .val (.int p4), .unset, .unset, .unset, .unset, .unset, .unset, .unset, .unset, .unset, .unset, .unset, .unset, .unset, .unset, .unset, .unset, .unset] [(.int p4)])) _
    refine XS.iconst X0.here hx rfl (hb hby at_1) ?_
    show Steps p.tables e below (s₁.setTop (mkF m 2 #[.val (.int p1), .val (.int p2), .val (.int p3), .val (.int p4), .unset, .unset, .unset, .unset, .unset, .unset, .unset, .unset, .unset, .unset, .unset, .unset, .unset, .unset, .unset, .unset, .unset] [(.int (3 : Int32)), (.int p4)])) _
    refine XS.iand X0.here hx rfl (hb hby at_2) rfl ?_
    show Steps p.tables e below (s₁.setTop (mkF m 3 #[.val (.int p1), .val (.int p2), .val (.int p3), .val (.int p4), .unset, .unset, .unset, .unset, .unset, .unset, .unset, .unset, .unset, .unset, .unset, .unset, .unset, .unset, .unset, .unset, .unset] [(.int (p4 &&& (3 : Int32)))])) _
    refine XS.istore X0.here hx rfl (hb hby at_3) rfl (l' := #[.val (.int p1), .val (.int p2), .val (.int p3), .val (.int p4), .val (.int (p4 &&& (3 : Int32))), .unset, .unset, .unset, .unset, .unset, .unset, .unset, .unset, .unset, .unset, .unset, .unset, .unset, .unset, .unset, .unset]) rfl ?_
    show Steps p.tables e below (s₁.setTop (mkF m 5 #[.val (.int p1), .val (.int p2), .val (.int p3), .val (.int p4), .val (.int (p4 &&& (3 : Int32))), .unset, .unset, .unset, .unset, .unset, .unset, .unset, .unset, .unset, .unset, .unset, .unset, .unset, .unset, .unset, .unset] [])) _
    refine XS.iloadN X0.here hx rfl (hb hby at_5) rfl ?_
    show Steps p.tables e below (s₁.setTop (mkF m 6 #[.val (.int p1), .val (.int p2), .val (.int p3), .val (.int p4), .val (.int (p4 &&& (3 : Int32))), .unset, .unset, .unset, .unset, .unset, .unset, .unset, .unset, .unset, .unset, .unset, .unset, .unset, .unset, .unset, .unset] [(.int p4)])) _
    refine XS.iconst X0.here hx rfl (hb hby at_6) ?_
    show Steps p.tables e below (s₁.setTop (mkF m 7 #[.val (.int p1), .val (.int p2), .val (.int p3), .val (.int p4), .val (.int (p4 &&& (3 : Int32))), .unset, .unset, .unset, .unset, .unset, .unset, .unset, .unset, .unset, .unset, .unset, .unset, .unset, .unset, .unset, .unset] [(.int (2 : Int32)), (.int p4)])) _
    refine XS.iushr X0.here hx rfl (hb hby at_7) rfl ?_
    show Steps p.tables e below (s₁.setTop (mkF m 8 #[.val (.int p1), .val (.int p2), .val (.int p3), .val (.int p4), .val (.int (p4 &&& (3 : Int32))), .unset, .unset, .unset, .unset, .unset, .unset, .unset, .unset, .unset, .unset, .unset, .unset, .unset, .unset, .unset, .unset] [(.int ((p4.toUInt32 >>> ((2 : Int32) &&& 31).toUInt32).toInt32))])) _
    refine XS.sipush X0.here hx rfl (hb hby at_8) ?_
    show Steps p.tables e below (s₁.setTop (mkF m 11 #[.val (.int p1), .val (.int p2), .val (.int p3), .val (.int p4), .val (.int (p4 &&& (3 : Int32))), .unset, .unset, .unset, .unset, .unset, .unset, .unset, .unset, .unset, .unset, .unset, .unset, .unset, .unset, .unset, .unset] [(.int (255 : Int32)), (.int ((p4.toUInt32 >>> ((2 : Int32) &&& 31).toUInt32).toInt32))])) _
    refine XS.iand X0.here hx rfl (hb hby at_11) rfl ?_
    show Steps p.tables e below (s₁.setTop (mkF m 12 #[.val (.int p1), .val (.int p2), .val (.int p3), .val (.int p4), .val (.int (p4 &&& (3 : Int32))), .unset, .unset, .unset, .unset, .unset, .unset, .unset, .unset, .unset, .unset, .unset, .unset, .unset, .unset, .unset, .unset] [(.int (((p4.toUInt32 >>> ((2 : Int32) &&& 31).toUInt32).toInt32) &&& (255 : Int32)))])) _
    refine XS.i2c X0.here hx rfl (hb hby at_12) rfl ?_
    show Steps p.tables e below (s₁.setTop (mkF m 13 #[.val (.int p1), .val (.int p2), .val (.int p3), .val (.int p4), .val (.int (p4 &&& (3 : Int32))), .unset, .unset, .unset, .unset, .unset, .unset, .unset, .unset, .unset, .unset, .unset, .unset, .unset, .unset, .unset, .unset] [(.int ((((p4.toUInt32 >>> ((2 : Int32) &&& 31).toUInt32).toInt32) &&& (255 : Int32)).toUInt32.toUInt16.toUInt32.toInt32))])) _
    refine st5 _ ?_
    show Steps p.tables e below (T5.setTop (mkF m 16 #[.val (.int p1), .val (.int p2), .val (.int p3), .val (.int p4), .val (.int (p4 &&& (3 : Int32))), .unset, .unset, .unset, .unset, .unset, .unset, .unset, .unset, .unset, .unset, .unset, .unset, .unset, .unset, .unset, .unset] [(.ref aS)])) _
    refine XS.astore X5.here hx rfl (hb hby at_16) rfl rfl (l' := #[.val (.int p1), .val (.int p2), .val (.int p3), .val (.int p4), .val (.int (p4 &&& (3 : Int32))), .val (.ref aS), .unset, .unset, .unset, .unset, .unset, .unset, .unset, .unset, .unset, .unset, .unset, .unset, .unset, .unset, .unset]) rfl ?_
    show Steps p.tables e below (T5.setTop (mkF m 18 #[.val (.int p1), .val (.int p2), .val (.int p3), .val (.int p4), .val (.int (p4 &&& (3 : Int32))), .val (.ref aS), .unset, .unset, .unset, .unset, .unset, .unset, .unset, .unset, .unset, .unset, .unset, .unset, .unset, .unset, .unset] [])) _
    refine XS.iloadN X5.here hx rfl (hb hby at_18) rfl ?_
    show Steps p.tables e below (T5.setTop (mkF m 19 #[.val (.int p1), .val (.int p2), .val (.int p3), .val (.int p4), .val (.int (p4 &&& (3 : Int32))), .val (.ref aS), .unset, .unset, .unset, .unset, .unset, .unset, .unset, .unset, .unset, .unset, .unset, .unset, .unset, .unset, .unset] [(.int p2)])) _
    refine XS.i2dS X5.here hx rfl (hb hby at_19) rfl rfl ?_
    show Steps p.tables e below (T5.setTop (mkF m 20 #[.val (.int p1), .val (.int p2), .val (.int p3), .val (.int p4), .val (.int (p4 &&& (3 : Int32))), .val (.ref aS), .unset, .unset, .unset, .unset, .unset, .unset, .unset, .unset, .unset, .unset, .unset, .unset, .unset, .unset, .unset] [(.double (FP.i2d p2))])) _
    refine XS.dstore X5.here hx rfl (hb hby at_20) rfl (l' := #[.val (.int p1), .val (.int p2), .val (.int p3), .val (.int p4), .val (.int (p4 &&& (3 : Int32))), .val (.ref aS), .val (.double (FP.i2d p2)), .second, .unset, .unset, .unset, .unset, .unset, .unset, .unset, .unset, .unset, .unset, .unset, .unset, .unset]) rfl ?_
    show Steps p.tables e below (T5.setTop (mkF m 22 #[.val (.int p1), .val (.int p2), .val (.int p3), .val (.int p4), .val (.int (p4 &&& (3 : Int32))), .val (.ref aS), .val (.double (FP.i2d p2)), .second, .unset, .unset, .unset, .unset, .unset, .unset, .unset, .unset, .unset, .unset, .unset, .unset, .unset] [])) _
    refine XS.iload X5.here hx rfl (hb hby at_22) rfl ?_
    show Steps p.tables e below (T5.setTop (mkF m 24 #[.val (.int p1), .val (.int p2), .val (.int p3), .val (.int p4), .val (.int (p4 &&& (3 : Int32))), .val (.ref aS), .val (.double (FP.i2d p2)), .second, .unset, .unset, .unset, .unset, .unset, .unset, .unset, .unset, .unset, .unset, .unset, .unset, .unset] [(.int (p4 &&& (3 : Int32)))])) _
    refine XS.ifYes X5.here hx rfl (pc0 := 24) (pc' := 70) rfl (hb hby at_24) rfl ((if0 _ _).trans (feq hc24).2) (by decide) (by decide) ?_
    show Steps p.tables e below (T5.setTop (mkF m 70 #[.val (.int p1), .val (.int p2), .val (.int p3), .val (.int p4), .val (.int (p4 &&& (3 : Int32))), .val (.ref aS), .val (.double (FP.i2d p2)), .second, .unset, .unset, .unset, .unset, .unset, .unset, .unset, .unset, .unset, .unset, .unset, .unset, .unset] [])) _
    refine XS.iload X5.here hx rfl (hb hby at_70) rfl ?_
    show Steps p.tables e below (T5.setTop (mkF m 72 #[.val (.int p1), .val (.int p2), .val (.int p3), .val (.int p4), .val (.int (p4 &&& (3 : Int32))), .val (.ref aS), .val (.double (FP.i2d p2)), .second, .unset, .unset, .unset, .unset, .unset, .unset, .unset, .unset, .unset, .unset, .unset, .unset, .unset] [(.int (p4 &&& (3 : Int32)))])) _
    refine XS.iconst X5.here hx rfl (hb hby at_72) ?_
    show Steps p.tables e below (T5.setTop (mkF m 73 #[.val (.int p1), .val (.int p2), .val (.int p3), .val (.int p4), .val (.int (p4 &&& (3 : Int32))), .val (.ref aS), .val (.double (FP.i2d p2)), .second, .unset, .unset, .unset, .unset, .unset, .unset, .unset, .unset, .unset, .unset, .unset, .unset, .unset] [(.int (1 : Int32)), (.int (p4 &&& (3 : Int32)))])) _
    refine XS.icmpYes X5.here hx rfl (pc0 := 73) (pc' := 137) rfl (hb hby at_73) rfl (feq hc73).2 (by decide) (by decide) ?_
    show Steps p.tables e below (T5.setTop (mkF m 137 #[.val (.int p1), .val (.int p2), .val (.int p3), .val (.int p4), .val (.int (p4 &&& (3 : Int32))), .val (.ref aS), .val (.double (FP.i2d p2)), .second, .unset, .unset, .unset, .unset, .unset, .unset, .unset, .unset, .unset, .unset, .unset, .unset, .unset] [])) _
    refine XS.iloadN X5.here hx rfl (hb hby at_137) rfl ?_
    show Steps p.tables e below (T5.setTop (mkF m 138 #[.val (.int p1), .val (.int p2), .val (.int p3), .val (.int p4), .val (.int (p4 &&& (3 : Int32))), .val (.ref aS), .val (.double (FP.i2d p2)), .second, .unset, .unset, .unset, .unset, .unset, .unset, .unset, .unset, .unset, .unset, .unset, .unset, .unset] [(.int p1)])) _
    refine X5.ldcInt hx hown (mvT hZ (hw _ (List.mem_of_getElem? (i := 51) rfl))) (g := (mkF m 138 #[.val (.int p1), .val (.int p2), .val (.int p3), .val (.int p4), .val (.int (p4 &&& (3 : Int32))), .val (.ref aS), .val (.double (FP.i2d p2)), .second, .unset, .unset, .unset, .unset, .unset, .unset, .unset, .unset, .unset, .unset, .unset, .unset, .unset] [(.int p1)])) rfl (hb hby at_138) _ ?_
    show Steps p.tables e below (T5.setTop (mkF m 140 #[.val (.int p1), .val (.int p2), .val (.int p3), .val (.int p4), .val (.int (p4 &&& (3 : Int32))), .val (.ref aS), .val (.double (FP.i2d p2)), .second, .unset, .unset, .unset, .unset, .unset, .unset, .unset, .unset, .unset, .unset, .unset, .unset, .unset] [(.int (2147483647 : Int32)), (.int p1)])) _
    refine XS.iand X5.here hx rfl (hb hby at_140) rfl ?_
    show Steps p.tables e below (T5.setTop (mkF m 141 #[.val (.int p1), .val (.int p2), .val (.int p3), .val (.int p4), .val (.int (p4 &&& (3 : Int32))), .val (.ref aS), .val (.double (FP.i2d p2)), .second, .unset, .unset, .unset, .unset, .unset, .unset, .unset, .unset, .unset, .unset, .unset, .unset, .unset] [(.int (p1 &&& (2147483647 : Int32)))])) _
    refine XS.i2l X5.here hx rfl (hb hby at_141) rfl ?_
    show Steps p.tables e below (T5.setTop (mkF m 142 #[.val (.int p1), .val (.int p2), .val (.int p3), .val (.int p4), .val (.int (p4 &&& (3 : Int32))), .val (.ref aS), .val (.double (FP.i2d p2)), .second, .unset, .unset, .unset, .unset, .unset, .unset, .unset, .unset, .unset, .unset, .unset, .unset, .unset] [(.long ((p1 &&& (2147483647 : Int32)).toInt64))])) _
    refine XS.lconst X5.here hx rfl (hb hby at_142) ?_
    show Steps p.tables e below (T5.setTop (mkF m 143 #[.val (.int p1), .val (.int p2), .val (.int p3), .val (.int p4), .val (.int (p4 &&& (3 : Int32))), .val (.ref aS), .val (.double (FP.i2d p2)), .second, .unset, .unset, .unset, .unset, .unset, .unset, .unset, .unset, .unset, .unset, .unset, .unset, .unset] [(.long (1 : Int64)), (.long ((p1 &&& (2147483647 : Int32)).toInt64))])) _
    refine XS.ladd X5.here hx rfl (hb hby at_143) rfl ?_
    show Steps p.tables e below (T5.setTop (mkF m 144 #[.val (.int p1), .val (.int p2), .val (.int p3), .val (.int p4), .val (.int (p4 &&& (3 : Int32))), .val (.ref aS), .val (.double (FP.i2d p2)), .second, .unset, .unset, .unset, .unset, .unset, .unset, .unset, .unset, .unset, .unset, .unset, .unset, .unset] [(.long (((p1 &&& (2147483647 : Int32)).toInt64) + (1 : Int64)))])) _
    refine XS.lstore X5.here hx rfl (hb hby at_144) rfl (l' := #[.val (.int p1), .val (.int p2), .val (.int p3), .val (.int p4), .val (.int (p4 &&& (3 : Int32))), .val (.ref aS), .val (.double (FP.i2d p2)), .second, .val (.long (((p1 &&& (2147483647 : Int32)).toInt64) + (1 : Int64))), .second, .unset, .unset, .unset, .unset, .unset, .unset, .unset, .unset, .unset, .unset, .unset]) rfl ?_
    show Steps p.tables e below (T5.setTop (mkF m 146 #[.val (.int p1), .val (.int p2), .val (.int p3), .val (.int p4), .val (.int (p4 &&& (3 : Int32))), .val (.ref aS), .val (.double (FP.i2d p2)), .second, .val (.long (((p1 &&& (2147483647 : Int32)).toInt64) + (1 : Int64))), .second, .unset, .unset, .unset, .unset, .unset, .unset, .unset, .unset, .unset, .unset, .unset] [])) _
    refine st6 _ ?_
    show Steps p.tables e below (T6.setTop (mkF m 149 #[.val (.int p1), .val (.int p2), .val (.int p3), .val (.int p4), .val (.int (p4 &&& (3 : Int32))), .val (.ref aS), .val (.double (FP.i2d p2)), .second, .val (.long (((p1 &&& (2147483647 : Int32)).toInt64) + (1 : Int64))), .second, .unset, .unset, .unset, .unset, .unset, .unset, .unset, .unset, .unset, .unset, .unset] [(.ref b6)])) _
    refine XS.dup X6.here hx rfl (hb hby at_149) rfl rfl ?_
    show Steps p.tables e below (T6.setTop (mkF m 150 #[.val (.int p1), .val (.int p2), .val (.int p3), .val (.int p4), .val (.int (p4 &&& (3 : Int32))), .val (.ref aS), .val (.double (FP.i2d p2)), .second, .val (.long (((p1 &&& (2147483647 : Int32)).toInt64) + (1 : Int64))), .second, .unset, .unset, .unset, .unset, .unset, .unset, .unset, .unset, .unset, .unset, .unset] [(.ref b6), (.ref b6)])) _
    refine XS.aload X6.here hx rfl (hb hby at_150) rfl rfl ?_
    show Steps p.tables e below (T6.setTop (mkF m 152 #[.val (.int p1), .val (.int p2), .val (.int p3), .val (.int p4), .val (.int (p4 &&& (3 : Int32))), .val (.ref aS), .val (.double (FP.i2d p2)), .second, .val (.long (((p1 &&& (2147483647 : Int32)).toInt64) + (1 : Int64))), .second, .unset, .unset, .unset, .unset, .unset, .unset, .unset, .unset, .unset, .unset, .unset] [(.ref aS), (.ref b6), (.ref b6)])) _
    refine XS.dload X6.here hx rfl (hb hby at_152) rfl ?_
    show Steps p.tables e below (T6.setTop (mkF m 154 #[.val (.int p1), .val (.int p2), .val (.int p3), .val (.int p4), .val (.int (p4 &&& (3 : Int32))), .val (.ref aS), .val (.double (FP.i2d p2)), .second, .val (.long (((p1 &&& (2147483647 : Int32)).toInt64) + (1 : Int64))), .second, .unset, .unset, .unset, .unset, .unset, .unset, .unset, .unset, .unset, .unset, .unset] [(.double (FP.i2d p2)), (.ref aS), (.ref b6), (.ref b6)])) _
    refine XS.lload X6.here hx rfl (hb hby at_154) rfl ?_
    show Steps p.tables e below (T6.setTop (mkF m 156 #[.val (.int p1), .val (.int p2), .val (.int p3), .val (.int p4), .val (.int (p4 &&& (3 : Int32))), .val (.ref aS), .val (.double (FP.i2d p2)), .second, .val (.long (((p1 &&& (2147483647 : Int32)).toInt64) + (1 : Int64))), .second, .unset, .unset, .unset, .unset, .unset, .unset, .unset, .unset, .unset, .unset, .unset] [(.long (((p1 &&& (2147483647 : Int32)).toInt64) + (1 : Int64))), (.double (FP.i2d p2)), (.ref aS), (.ref b6), (.ref b6)])) _
    refine XS.l2dS X6.here hx rfl (hb hby at_156) rfl rfl ?_
    show Steps p.tables e below (T6.setTop (mkF m 157 #[.val (.int p1), .val (.int p2), .val (.int p3), .val (.int p4), .val (.int (p4 &&& (3 : Int32))), .val (.ref aS), .val (.double (FP.i2d p2)), .second, .val (.long (((p1 &&& (2147483647 : Int32)).toInt64) + (1 : Int64))), .second, .unset, .unset, .unset, .unset, .unset, .unset, .unset, .unset, .unset, .unset, .unset] [(.double (FP.l2d (((p1 &&& (2147483647 : Int32)).toInt64) + (1 : Int64)))), (.double (FP.i2d p2)), (.ref aS), (.ref b6), (.ref b6)])) _
    refine st7.trans ?_
    show Steps p.tables e below (T7.setTop (mkF m 160 #[.val (.int p1), .val (.int p2), .val (.int p3), .val (.int p4), .val (.int (p4 &&& (3 : Int32))), .val (.ref aS), .val (.double (FP.i2d p2)), .second, .val (.long (((p1 &&& (2147483647 : Int32)).toInt64) + (1 : Int64))), .second, .unset, .unset, .unset, .unset, .unset, .unset, .unset, .unset, .unset, .unset, .unset] [(.ref b6)])) _
    refine XS.astore X7.here hx rfl (hb hby at_160) rfl rfl (l' := #[.val (.int p1), .val (.int p2), .val (.int p3), .val (.int p4), .val (.int (p4 &&& (3 : Int32))), .val (.ref aS), .val (.double (FP.i2d p2)), .second, .val (.long (((p1 &&& (2147483647 : Int32)).toInt64) + (1 : Int64))), .second, .val (.ref b6), .unset, .unset, .unset, .unset, .unset, .unset, .unset, .unset, .unset, .unset]) rfl ?_
    show Steps p.tables e below (T7.setTop (mkF m 162 #[.val (.int p1), .val (.int p2), .val (.int p3), .val (.int p4), .val (.int (p4 &&& (3 : Int32))), .val (.ref aS), .val (.double (FP.i2d p2)), .second, .val (.long (((p1 &&& (2147483647 : Int32)).toInt64) + (1 : Int64))), .second, .val (.ref b6), .unset, .unset, .unset, .unset, .unset, .unset, .unset, .unset, .unset, .unset] [])) _
    refine XS.aload X7.here hx rfl (hb hby at_162) rfl rfl ?_
    show Steps p.tables e below (T7.setTop (mkF m 164 #[.val (.int p1), .val (.int p2), .val (.int p3), .val (.int p4), .val (.int (p4 &&& (3 : Int32))), .val (.ref aS), .val (.double (FP.i2d p2)), .second, .val (.long (((p1 &&& (2147483647 : Int32)).toInt64) + (1 : Int64))), .second, .val (.ref b6), .unset, .unset, .unset, .unset, .unset, .unset, .unset, .unset, .unset, .unset] [(.ref b6)])) _
    refine st8.trans ?_
    show Steps p.tables e below (T8.setTop (mkF m 167 #[.val (.int p1), .val (.int p2), .val (.int p3), .val (.int p4), .val (.int (p4 &&& (3 : Int32))), .val (.ref aS), .val (.double (FP.i2d p2)), .second, .val (.long (((p1 &&& (2147483647 : Int32)).toInt64) + (1 : Int64))), .second, .val (.ref b6), .unset, .unset, .unset, .unset, .unset, .unset, .unset, .unset, .unset, .unset] [(.double (own_drop (FP.i2d p2) (FP.l2d (((p1 &&& (2147483647 : Int32)).toInt64) + (1 : Int64)))))])) _
    refine XS.dstore X8.here hx rfl (hb hby at_167) rfl (l' := #[.val (.int p1), .val (.int p2), .val (.int p3), .val (.int p4), .val (.int (p4 &&& (3 : Int32))), .val (.ref aS), .val (.double (FP.i2d p2)), .second, .val (.long (((p1 &&& (2147483647 : Int32)).toInt64) + (1 : Int64))), .second, .val (.ref b6), .val (.double (own_drop (FP.i2d p2) (FP.l2d (((p1 &&& (2147483647 : Int32)).toInt64) + (1 : Int64))))), .second, .unset, .unset, .unset, .unset, .unset, .unset, .unset, .unset]) rfl ?_
    show Steps p.tables e below (T8.setTop (mkF m 169 #[.val (.int p1), .val (.int p2), .val (.int p3), .val (.int p4), .val (.int (p4 &&& (3 : Int32))), .val (.ref aS), .val (.double (FP.i2d p2)), .second, .val (.long (((p1 &&& (2147483647 : Int32)).toInt64) + (1 : Int64))), .second, .val (.ref b6), .val (.double (own_drop (FP.i2d p2) (FP.l2d (((p1 &&& (2147483647 : Int32)).toInt64) + (1 : Int64))))), .second, .unset, .unset, .unset, .unset, .unset, .unset, .unset, .unset] [])) _
    refine X8.ldc2Long hx hown (mvT hZ (hw _ (List.mem_of_getElem? (i := 50) rfl))) (g := (mkF m 169 #[.val (.int p1), .val (.int p2), .val (.int p3), .val (.int p4), .val (.int (p4 &&& (3 : Int32))), .val (.ref aS), .val (.double (FP.i2d p2)), .second, .val (.long (((p1 &&& (2147483647 : Int32)).toInt64) + (1 : Int64))), .second, .val (.ref b6), .val (.double (own_drop (FP.i2d p2) (FP.l2d (((p1 &&& (2147483647 : Int32)).toInt64) + (1 : Int64))))), .second, .unset, .unset, .unset, .unset, .unset, .unset, .unset, .unset] [])) rfl (hb hby at_169) _ ?_
    show Steps p.tables e below (T8.setTop (mkF m 172 #[.val (.int p1), .val (.int p2), .val (.int p3), .val (.int p4), .val (.int (p4 &&& (3 : Int32))), .val (.ref aS), .val (.double (FP.i2d p2)), .second, .val (.long (((p1 &&& (2147483647 : Int32)).toInt64) + (1 : Int64))), .second, .val (.ref b6), .val (.double (own_drop (FP.i2d p2) (FP.l2d (((p1 &&& (2147483647 : Int32)).toInt64) + (1 : Int64))))), .second, .unset, .unset, .unset, .unset, .unset, .unset, .unset, .unset] [(.long (100 : Int64))])) _
    refine XS.lload X8.here hx rfl (hb hby at_172) rfl ?_
    show Steps p.tables e below (T8.setTop (mkF m 174 #[.val (.int p1), .val (.int p2), .val (.int p3), .val (.int p4), .val (.int (p4 &&& (3 : Int32))), .val (.ref aS), .val (.double (FP.i2d p2)), .second, .val (.long (((p1 &&& (2147483647 : Int32)).toInt64) + (1 : Int64))), .second, .val (.ref b6), .val (.double (own_drop (FP.i2d p2) (FP.l2d (((p1 &&& (2147483647 : Int32)).toInt64) + (1 : Int64))))), .second, .unset, .unset, .unset, .unset, .unset, .unset, .unset, .unset] [(.long (((p1 &&& (2147483647 : Int32)).toInt64) + (1 : Int64))), (.long (100 : Int64))])) _
    refine XS.iloadN X8.here hx rfl (hb hby at_174) rfl ?_
    show Steps p.tables e below (T8.setTop (mkF m 175 #[.val (.int p1), .val (.int p2), .val (.int p3), .val (.int p4), .val (.int (p4 &&& (3 : Int32))), .val (.ref aS), .val (.double (FP.i2d p2)), .second, .val (.long (((p1 &&& (2147483647 : Int32)).toInt64) + (1 : Int64))), .second, .val (.ref b6), .val (.double (own_drop (FP.i2d p2) (FP.l2d (((p1 &&& (2147483647 : Int32)).toInt64) + (1 : Int64))))), .second, .unset, .unset, .unset, .unset, .unset, .unset, .unset, .unset] [(.int p2), (.long (((p1 &&& (2147483647 : Int32)).toInt64) + (1 : Int64))), (.long (100 : Int64))])) _
    refine XS.i2l X8.here hx rfl (hb hby at_175) rfl ?_
    show Steps p.tables e below (T8.setTop (mkF m 176 #[.val (.int p1), .val (.int p2), .val (.int p3), .val (.int p4), .val (.int (p4 &&& (3 : Int32))), .val (.ref aS), .val (.double (FP.i2d p2)), .second, .val (.long (((p1 &&& (2147483647 : Int32)).toInt64) + (1 : Int64))), .second, .val (.ref b6), .val (.double (own_drop (FP.i2d p2) (FP.l2d (((p1 &&& (2147483647 : Int32)).toInt64) + (1 : Int64))))), .second, .unset, .unset, .unset, .unset, .unset, .unset, .unset, .unset] [(.long (p2.toInt64)), (.long (((p1 &&& (2147483647 : Int32)).toInt64) + (1 : Int64))), (.long (100 : Int64))])) _
    refine XS.lsub X8.here hx rfl (hb hby at_176) rfl ?_
    show Steps p.tables e below (T8.setTop (mkF m 177 #[.val (.int p1), .val (.int p2), .val (.int p3), .val (.int p4), .val (.int (p4 &&& (3 : Int32))), .val (.ref aS), .val (.double (FP.i2d p2)), .second, .val (.long (((p1 &&& (2147483647 : Int32)).toInt64) + (1 : Int64))), .second, .val (.ref b6), .val (.double (own_drop (FP.i2d p2) (FP.l2d (((p1 &&& (2147483647 : Int32)).toInt64) + (1 : Int64))))), .second, .unset, .unset, .unset, .unset, .unset, .unset, .unset, .unset] [(.long ((((p1 &&& (2147483647 : Int32)).toInt64) + (1 : Int64)) - (p2.toInt64))), (.long (100 : Int64))])) _
    refine XS.lmul X8.here hx rfl (hb hby at_177) rfl ?_
    show Steps p.tables e below (T8.setTop (mkF m 178 #[.val (.int p1), .val (.int p2), .val (.int p3), .val (.int p4), .val (.int (p4 &&& (3 : Int32))), .val (.ref aS), .val (.double (FP.i2d p2)), .second, .val (.long (((p1 &&& (2147483647 : Int32)).toInt64) + (1 : Int64))), .second, .val (.ref b6), .val (.double (own_drop (FP.i2d p2) (FP.l2d (((p1 &&& (2147483647 : Int32)).toInt64) + (1 : Int64))))), .second, .unset, .unset, .unset, .unset, .unset, .unset, .unset, .unset] [(.long ((100 : Int64) * ((((p1 &&& (2147483647 : Int32)).toInt64) + (1 : Int64)) - (p2.toInt64))))])) _
    refine XS.lstore X8.here hx rfl (hb hby at_178) rfl (l' := #[.val (.int p1), .val (.int p2), .val (.int p3), .val (.int p4), .val (.int (p4 &&& (3 : Int32))), .val (.ref aS), .val (.double (FP.i2d p2)), .second, .val (.long (((p1 &&& (2147483647 : Int32)).toInt64) + (1 : Int64))), .second, .val (.ref b6), .val (.double (own_drop (FP.i2d p2) (FP.l2d (((p1 &&& (2147483647 : Int32)).toInt64) + (1 : Int64))))), .second, .val (.long ((100 : Int64) * ((((p1 &&& (2147483647 : Int32)).toInt64) + (1 : Int64)) - (p2.toInt64)))), .second, .unset, .unset, .unset, .unset, .unset, .unset]) rfl ?_
    show Steps p.tables e below (T8.setTop (mkF m 180 #[.val (.int p1), .val (.int p2), .val (.int p3), .val (.int p4), .val (.int (p4 &&& (3 : Int32))), .val (.ref aS), .val (.double (FP.i2d p2)), .second, .val (.long (((p1 &&& (2147483647 : Int32)).toInt64) + (1 : Int64))), .second, .val (.ref b6), .val (.double (own_drop (FP.i2d p2) (FP.l2d (((p1 &&& (2147483647 : Int32)).toInt64) + (1 : Int64))))), .second, .val (.long ((100 : Int64) * ((((p1 &&& (2147483647 : Int32)).toInt64) + (1 : Int64)) - (p2.toInt64)))), .second, .unset, .unset, .unset, .unset, .unset, .unset] [])) _
    refine XS.lload X8.here hx rfl (hb hby at_180) rfl ?_
    show Steps p.tables e below (T8.setTop (mkF m 182 #[.val (.int p1), .val (.int p2), .val (.int p3), .val (.int p4), .val (.int (p4 &&& (3 : Int32))), .val (.ref aS), .val (.double (FP.i2d p2)), .second, .val (.long (((p1 &&& (2147483647 : Int32)).toInt64) + (1 : Int64))), .second, .val (.ref b6), .val (.double (own_drop (FP.i2d p2) (FP.l2d (((p1 &&& (2147483647 : Int32)).toInt64) + (1 : Int64))))), .second, .val (.long ((100 : Int64) * ((((p1 &&& (2147483647 : Int32)).toInt64) + (1 : Int64)) - (p2.toInt64)))), .second, .unset, .unset, .unset, .unset, .unset, .unset] [(.long ((100 : Int64) * ((((p1 &&& (2147483647 : Int32)).toInt64) + (1 : Int64)) - (p2.toInt64))))])) _
    refine XS.lload X8.here hx rfl (hb hby at_182) rfl ?_
    show Steps p.tables e below (T8.setTop (mkF m 184 #[.val (.int p1), .val (.int p2), .val (.int p3), .val (.int p4), .val (.int (p4 &&& (3 : Int32))), .val (.ref aS), .val (.double (FP.i2d p2)), .second, .val (.long (((p1 &&& (2147483647 : Int32)).toInt64) + (1 : Int64))), .second, .val (.ref b6), .val (.double (own_drop (FP.i2d p2) (FP.l2d (((p1 &&& (2147483647 : Int32)).toInt64) + (1 : Int64))))), .second, .val (.long ((100 : Int64) * ((((p1 &&& (2147483647 : Int32)).toInt64) + (1 : Int64)) - (p2.toInt64)))), .second, .unset, .unset, .unset, .unset, .unset, .unset] [(.long (((p1 &&& (2147483647 : Int32)).toInt64) + (1 : Int64))), (.long ((100 : Int64) * ((((p1 &&& (2147483647 : Int32)).toInt64) + (1 : Int64)) - (p2.toInt64))))])) _
    refine XS.ldiv X8.here hx rfl (hb hby at_184) rfl hnz184 ?_
    show Steps p.tables e below (T8.setTop (mkF m 185 #[.val (.int p1), .val (.int p2), .val (.int p3), .val (.int p4), .val (.int (p4 &&& (3 : Int32))), .val (.ref aS), .val (.double (FP.i2d p2)), .second, .val (.long (((p1 &&& (2147483647 : Int32)).toInt64) + (1 : Int64))), .second, .val (.ref b6), .val (.double (own_drop (FP.i2d p2) (FP.l2d (((p1 &&& (2147483647 : Int32)).toInt64) + (1 : Int64))))), .second, .val (.long ((100 : Int64) * ((((p1 &&& (2147483647 : Int32)).toInt64) + (1 : Int64)) - (p2.toInt64)))), .second, .unset, .unset, .unset, .unset, .unset, .unset] [(.long (((100 : Int64) * ((((p1 &&& (2147483647 : Int32)).toInt64) + (1 : Int64)) - (p2.toInt64))) / (((p1 &&& (2147483647 : Int32)).toInt64) + (1 : Int64))))])) _
    refine XS.lstore X8.here hx rfl (hb hby at_185) rfl (l' := #[.val (.int p1), .val (.int p2), .val (.int p3), .val (.int p4), .val (.int (p4 &&& (3 : Int32))), .val (.ref aS), .val (.double (FP.i2d p2)), .second, .val (.long (((p1 &&& (2147483647 : Int32)).toInt64) + (1 : Int64))), .second, .val (.ref b6), .val (.double (own_drop (FP.i2d p2) (FP.l2d (((p1 &&& (2147483647 : Int32)).toInt64) + (1 : Int64))))), .second, .val (.long ((100 : Int64) * ((((p1 &&& (2147483647 : Int32)).toInt64) + (1 : Int64)) - (p2.toInt64)))), .second, .val (.long (((100 : Int64) * ((((p1 &&& (2147483647 : Int32)).toInt64) + (1 : Int64)) - (p2.toInt64))) / (((p1 &&& (2147483647 : Int32)).toInt64) + (1 : Int64)))), .second, .unset, .unset, .unset, .unset]) rfl ?_
    show Steps p.tables e below (T8.setTop (mkF m 187 #[.val (.int p1), .val (.int p2), .val (.int p3), .val (.int p4), .val (.int (p4 &&& (3 : Int32))), .val (.ref aS), .val (.double (FP.i2d p2)), .second, .val (.long (((p1 &&& (2147483647 : Int32)).toInt64) + (1 : Int64))), .second, .val (.ref b6), .val (.double (own_drop (FP.i2d p2) (FP.l2d (((p1 &&& (2147483647 : Int32)).toInt64) + (1 : Int64))))), .second, .val (.long ((100 : Int64) * ((((p1 &&& (2147483647 : Int32)).toInt64) + (1 : Int64)) - (p2.toInt64)))), .second, .val (.long (((100 : Int64) * ((((p1 &&& (2147483647 : Int32)).toInt64) + (1 : Int64)) - (p2.toInt64))) / (((p1 &&& (2147483647 : Int32)).toInt64) + (1 : Int64)))), .second, .unset, .unset, .unset, .unset] [])) _
    refine XS.lload X8.here hx rfl (hb hby at_187) rfl ?_
    show Steps p.tables e below (T8.setTop (mkF m 189 #[.val (.int p1), .val (.int p2), .val (.int p3), .val (.int p4), .val (.int (p4 &&& (3 : Int32))), .val (.ref aS), .val (.double (FP.i2d p2)), .second, .val (.long (((p1 &&& (2147483647 : Int32)).toInt64) + (1 : Int64))), .second, .val (.ref b6), .val (.double (own_drop (FP.i2d p2) (FP.l2d (((p1 &&& (2147483647 : Int32)).toInt64) + (1 : Int64))))), .second, .val (.long ((100 : Int64) * ((((p1 &&& (2147483647 : Int32)).toInt64) + (1 : Int64)) - (p2.toInt64)))), .second, .val (.long (((100 : Int64) * ((((p1 &&& (2147483647 : Int32)).toInt64) + (1 : Int64)) - (p2.toInt64))) / (((p1 &&& (2147483647 : Int32)).toInt64) + (1 : Int64)))), .second, .unset, .unset, .unset, .unset] [(.long (((100 : Int64) * ((((p1 &&& (2147483647 : Int32)).toInt64) + (1 : Int64)) - (p2.toInt64))) / (((p1 &&& (2147483647 : Int32)).toInt64) + (1 : Int64))))])) _
    refine XS.lstore X8.here hx rfl (hb hby at_189) rfl (l' := #[.val (.int p1), .val (.int p2), .val (.int p3), .val (.int p4), .val (.int (p4 &&& (3 : Int32))), .val (.ref aS), .val (.double (FP.i2d p2)), .second, .val (.long (((p1 &&& (2147483647 : Int32)).toInt64) + (1 : Int64))), .second, .val (.ref b6), .val (.double (own_drop (FP.i2d p2) (FP.l2d (((p1 &&& (2147483647 : Int32)).toInt64) + (1 : Int64))))), .second, .val (.long ((100 : Int64) * ((((p1 &&& (2147483647 : Int32)).toInt64) + (1 : Int64)) - (p2.toInt64)))), .second, .val (.long (((100 : Int64) * ((((p1 &&& (2147483647 : Int32)).toInt64) + (1 : Int64)) - (p2.toInt64))) / (((p1 &&& (2147483647 : Int32)).toInt64) + (1 : Int64)))), .second, .val (.long (((100 : Int64) * ((((p1 &&& (2147483647 : Int32)).toInt64) + (1 : Int64)) - (p2.toInt64))) / (((p1 &&& (2147483647 : Int32)).toInt64) + (1 : Int64)))), .second, .unset, .unset]) rfl ?_
    show Steps p.tables e below (T8.setTop (mkF m 191 #[.val (.int p1), .val (.int p2), .val (.int p3), .val (.int p4), .val (.int (p4 &&& (3 : Int32))), .val (.ref aS), .val (.double (FP.i2d p2)), .second, .val (.long (((p1 &&& (2147483647 : Int32)).toInt64) + (1 : Int64))), .second, .val (.ref b6), .val (.double (own_drop (FP.i2d p2) (FP.l2d (((p1 &&& (2147483647 : Int32)).toInt64) + (1 : Int64))))), .second, .val (.long ((100 : Int64) * ((((p1 &&& (2147483647 : Int32)).toInt64) + (1 : Int64)) - (p2.toInt64)))), .second, .val (.long (((100 : Int64) * ((((p1 &&& (2147483647 : Int32)).toInt64) + (1 : Int64)) - (p2.toInt64))) / (((p1 &&& (2147483647 : Int32)).toInt64) + (1 : Int64)))), .second, .val (.long (((100 : Int64) * ((((p1 &&& (2147483647 : Int32)).toInt64) + (1 : Int64)) - (p2.toInt64))) / (((p1 &&& (2147483647 : Int32)).toInt64) + (1 : Int64)))), .second, .unset, .unset] [])) _
    refine XS.lload X8.here hx rfl (hb hby at_191) rfl ?_
    show Steps p.tables e below (T8.setTop (mkF m 193 #[.val (.int p1), .val (.int p2), .val (.int p3), .val (.int p4), .val (.int (p4 &&& (3 : Int32))), .val (.ref aS), .val (.double (FP.i2d p2)), .second, .val (.long (((p1 &&& (2147483647 : Int32)).toInt64) + (1 : Int64))), .second, .val (.ref b6), .val (.double (own_drop (FP.i2d p2) (FP.l2d (((p1 &&& (2147483647 : Int32)).toInt64) + (1 : Int64))))), .second, .val (.long ((100 : Int64) * ((((p1 &&& (2147483647 : Int32)).toInt64) + (1 : Int64)) - (p2.toInt64)))), .second, .val (.long (((100 : Int64) * ((((p1 &&& (2147483647 : Int32)).toInt64) + (1 : Int64)) - (p2.toInt64))) / (((p1 &&& (2147483647 : Int32)).toInt64) + (1 : Int64)))), .second, .val (.long (((100 : Int64) * ((((p1 &&& (2147483647 : Int32)).toInt64) + (1 : Int64)) - (p2.toInt64))) / (((p1 &&& (2147483647 : Int32)).toInt64) + (1 : Int64)))), .second, .unset, .unset] [(.long (((100 : Int64) * ((((p1 &&& (2147483647 : Int32)).toInt64) + (1 : Int64)) - (p2.toInt64))) / (((p1 &&& (2147483647 : Int32)).toInt64) + (1 : Int64))))])) _
    refine XS.lstore X8.here hx rfl (hb hby at_193) rfl (l' := #[.val (.int p1), .val (.int p2), .val (.int p3), .val (.int p4), .val (.int (p4 &&& (3 : Int32))), .val (.ref aS), .val (.double (FP.i2d p2)), .second, .val (.long (((p1 &&& (2147483647 : Int32)).toInt64) + (1 : Int64))), .second, .val (.ref b6), .val (.double (own_drop (FP.i2d p2) (FP.l2d (((p1 &&& (2147483647 : Int32)).toInt64) + (1 : Int64))))), .second, .val (.long ((100 : Int64) * ((((p1 &&& (2147483647 : Int32)).toInt64) + (1 : Int64)) - (p2.toInt64)))), .second, .val (.long (((100 : Int64) * ((((p1 &&& (2147483647 : Int32)).toInt64) + (1 : Int64)) - (p2.toInt64))) / (((p1 &&& (2147483647 : Int32)).toInt64) + (1 : Int64)))), .second, .val (.long (((100 : Int64) * ((((p1 &&& (2147483647 : Int32)).toInt64) + (1 : Int64)) - (p2.toInt64))) / (((p1 &&& (2147483647 : Int32)).toInt64) + (1 : Int64)))), .second, .val (.long (((100 : Int64) * ((((p1 &&& (2147483647 : Int32)).toInt64) + (1 : Int64)) - (p2.toInt64))) / (((p1 &&& (2147483647 : Int32)).toInt64) + (1 : Int64)))), .second]) rfl ?_
    show Steps p.tables e below (T8.setTop (mkF m 195 #[.val (.int p1), .val (.int p2), .val (.int p3), .val (.int p4), .val (.int (p4 &&& (3 : Int32))), .val (.ref aS), .val (.double (FP.i2d p2)), .second, .val (.long (((p1 &&& (2147483647 : Int32)).toInt64) + (1 : Int64))), .second, .val (.ref b6), .val (.double (own_drop (FP.i2d p2) (FP.l2d (((p1 &&& (2147483647 : Int32)).toInt64) + (1 : Int64))))), .second, .val (.long ((100 : Int64) * ((((p1 &&& (2147483647 : Int32)).toInt64) + (1 : Int64)) - (p2.toInt64)))), .second, .val (.long (((100 : Int64) * ((((p1 &&& (2147483647 : Int32)).toInt64) + (1 : Int64)) - (p2.toInt64))) / (((p1 &&& (2147483647 : Int32)).toInt64) + (1 : Int64)))), .second, .val (.long (((100 : Int64) * ((((p1 &&& (2147483647 : Int32)).toInt64) + (1 : Int64)) - (p2.toInt64))) / (((p1 &&& (2147483647 : Int32)).toInt64) + (1 : Int64)))), .second, .val (.long (((100 : Int64) * ((((p1 &&& (2147483647 : Int32)).toInt64) + (1 : Int64)) - (p2.toInt64))) / (((p1 &&& (2147483647 : Int32)).toInt64) + (1 : Int64)))), .second] [])) _
    refine XS.lload X8.here hx rfl (hb hby at_195) rfl ?_
    show Steps p.tables e below (T8.setTop (mkF m 197 #[.val (.int p1), .val (.int p2), .val (.int p3), .val (.int p4), .val (.int (p4 &&& (3 : Int32))), .val (.ref aS), .val (.double (FP.i2d p2)), .second, .val (.long (((p1 &&& (2147483647 : Int32)).toInt64) + (1 : Int64))), .second, .val (.ref b6), .val (.double (own_drop (FP.i2d p2) (FP.l2d (((p1 &&& (2147483647 : Int32)).toInt64) + (1 : Int64))))), .second, .val (.long ((100 : Int64) * ((((p1 &&& (2147483647 : Int32)).toInt64) + (1 : Int64)) - (p2.toInt64)))), .second, .val (.long (((100 : Int64) * ((((p1 &&& (2147483647 : Int32)).toInt64) + (1 : Int64)) - (p2.toInt64))) / (((p1 &&& (2147483647 : Int32)).toInt64) + (1 : Int64)))), .second, .val (.long (((100 : Int64) * ((((p1 &&& (2147483647 : Int32)).toInt64) + (1 : Int64)) - (p2.toInt64))) / (((p1 &&& (2147483647 : Int32)).toInt64) + (1 : Int64)))), .second, .val (.long (((100 : Int64) * ((((p1 &&& (2147483647 : Int32)).toInt64) + (1 : Int64)) - (p2.toInt64))) / (((p1 &&& (2147483647 : Int32)).toInt64) + (1 : Int64)))), .second] [(.long ((100 : Int64) * ((((p1 &&& (2147483647 : Int32)).toInt64) + (1 : Int64)) - (p2.toInt64))))])) _
    refine XS.lload X8.here hx rfl (hb hby at_197) rfl ?_
    show Steps p.tables e below (T8.setTop (mkF m 199 #[.val (.int p1), .val (.int p2), .val (.int p3), .val (.int p4), .val (.int (p4 &&& (3 : Int32))), .val (.ref aS), .val (.double (FP.i2d p2)), .second, .val (.long (((p1 &&& (2147483647 : Int32)).toInt64) + (1 : Int64))), .second, .val (.ref b6), .val (.double (own_drop (FP.i2d p2) (FP.l2d (((p1 &&& (2147483647 : Int32)).toInt64) + (1 : Int64))))), .second, .val (.long ((100 : Int64) * ((((p1 &&& (2147483647 : Int32)).toInt64) + (1 : Int64)) - (p2.toInt64)))), .second, .val (.long (((100 : Int64) * ((((p1 &&& (2147483647 : Int32)).toInt64) + (1 : Int64)) - (p2.toInt64))) / (((p1 &&& (2147483647 : Int32)).toInt64) + (1 : Int64)))), .second, .val (.long (((100 : Int64) * ((((p1 &&& (2147483647 : Int32)).toInt64) + (1 : Int64)) - (p2.toInt64))) / (((p1 &&& (2147483647 : Int32)).toInt64) + (1 : Int64)))), .second, .val (.long (((100 : Int64) * ((((p1 &&& (2147483647 : Int32)).toInt64) + (1 : Int64)) - (p2.toInt64))) / (((p1 &&& (2147483647 : Int32)).toInt64) + (1 : Int64)))), .second] [(.long (((p1 &&& (2147483647 : Int32)).toInt64) + (1 : Int64))), (.long ((100 : Int64) * ((((p1 &&& (2147483647 : Int32)).toInt64) + (1 : Int64)) - (p2.toInt64))))])) _
    refine XS.lrem X8.here hx rfl (hb hby at_199) rfl hnz199 ?_
    show Steps p.tables e below (T8.setTop (mkF m 200 #[.val (.int p1), .val (.int p2), .val (.int p3), .val (.int p4), .val (.int (p4 &&& (3 : Int32))), .val (.ref aS), .val (.double (FP.i2d p2)), .second, .val (.long (((p1 &&& (2147483647 : Int32)).toInt64) + (1 : Int64))), .second, .val (.ref b6), .val (.double (own_drop (FP.i2d p2) (FP.l2d (((p1 &&& (2147483647 : Int32)).toInt64) + (1 : Int64))))), .second, .val (.long ((100 : Int64) * ((((p1 &&& (2147483647 : Int32)).toInt64) + (1 : Int64)) - (p2.toInt64)))), .second, .val (.long (((100 : Int64) * ((((p1 &&& (2147483647 : Int32)).toInt64) + (1 : Int64)) - (p2.toInt64))) / (((p1 &&& (2147483647 : Int32)).toInt64) + (1 : Int64)))), .second, .val (.long (((100 : Int64) * ((((p1 &&& (2147483647 : Int32)).toInt64) + (1 : Int64)) - (p2.toInt64))) / (((p1 &&& (2147483647 : Int32)).toInt64) + (1 : Int64)))), .second, .val (.long (((100 : Int64) * ((((p1 &&& (2147483647 : Int32)).toInt64) + (1 : Int64)) - (p2.toInt64))) / (((p1 &&& (2147483647 : Int32)).toInt64) + (1 : Int64)))), .second] [(.long (((100 : Int64) * ((((p1 &&& (2147483647 : Int32)).toInt64) + (1 : Int64)) - (p2.toInt64))) - (((100 : Int64) * ((((p1 &&& (2147483647 : Int32)).toInt64) + (1 : Int64)) - (p2.toInt64))) / (((p1 &&& (2147483647 : Int32)).toInt64) + (1 : Int64))) * (((p1 &&& (2147483647 : Int32)).toInt64) + (1 : Int64))))])) _
    refine XS.lconst X8.here hx rfl (hb hby at_200) ?_
    show Steps p.tables e below (T8.setTop (mkF m 201 #[.val (.int p1), .val (.int p2), .val (.int p3), .val (.int p4), .val (.int (p4 &&& (3 : Int32))), .val (.ref aS), .val (.double (FP.i2d p2)), .second, .val (.long (((p1 &&& (2147483647 : Int32)).toInt64) + (1 : Int64))), .second, .val (.ref b6), .val (.double (own_drop (FP.i2d p2) (FP.l2d (((p1 &&& (2147483647 : Int32)).toInt64) + (1 : Int64))))), .second, .val (.long ((100 : Int64) * ((((p1 &&& (2147483647 : Int32)).toInt64) + (1 : Int64)) - (p2.toInt64)))), .second, .val (.long (((100 : Int64) * ((((p1 &&& (2147483647 : Int32)).toInt64) + (1 : Int64)) - (p2.toInt64))) / (((p1 &&& (2147483647 : Int32)).toInt64) + (1 : Int64)))), .second, .val (.long (((100 : Int64) * ((((p1 &&& (2147483647 : Int32)).toInt64) + (1 : Int64)) - (p2.toInt64))) / (((p1 &&& (2147483647 : Int32)).toInt64) + (1 : Int64)))), .second, .val (.long (((100 : Int64) * ((((p1 &&& (2147483647 : Int32)).toInt64) + (1 : Int64)) - (p2.toInt64))) / (((p1 &&& (2147483647 : Int32)).toInt64) + (1 : Int64)))), .second] [(.long (0 : Int64)), (.long (((100 : Int64) * ((((p1 &&& (2147483647 : Int32)).toInt64) + (1 : Int64)) - (p2.toInt64))) - (((100 : Int64) * ((((p1 &&& (2147483647 : Int32)).toInt64) + (1 : Int64)) - (p2.toInt64))) / (((p1 &&& (2147483647 : Int32)).toInt64) + (1 : Int64))) * (((p1 &&& (2147483647 : Int32)).toInt64) + (1 : Int64))))])) _
    refine XS.lcmp X8.here hx rfl (hb hby at_201) rfl ?_
    show Steps p.tables e below (T8.setTop (mkF m 202 #[.val (.int p1), .val (.int p2), .val (.int p3), .val (.int p4), .val (.int (p4 &&& (3 : Int32))), .val (.ref aS), .val (.double (FP.i2d p2)), .second, .val (.long (((p1 &&& (2147483647 : Int32)).toInt64) + (1 : Int64))), .second, .val (.ref b6), .val (.double (own_drop (FP.i2d p2) (FP.l2d (((p1 &&& (2147483647 : Int32)).toInt64) + (1 : Int64))))), .second, .val (.long ((100 : Int64) * ((((p1 &&& (2147483647 : Int32)).toInt64) + (1 : Int64)) - (p2.toInt64)))), .second, .val (.long (((100 : Int64) * ((((p1 &&& (2147483647 : Int32)).toInt64) + (1 : Int64)) - (p2.toInt64))) / (((p1 &&& (2147483647 : Int32)).toInt64) + (1 : Int64)))), .second, .val (.long (((100 : Int64) * ((((p1 &&& (2147483647 : Int32)).toInt64) + (1 : Int64)) - (p2.toInt64))) / (((p1 &&& (2147483647 : Int32)).toInt64) + (1 : Int64)))), .second, .val (.long (((100 : Int64) * ((((p1 &&& (2147483647 : Int32)).toInt64) + (1 : Int64)) - (p2.toInt64))) / (((p1 &&& (2147483647 : Int32)).toInt64) + (1 : Int64)))), .second] [(.int (lcmpW (((100 : Int64) * ((((p1 &&& (2147483647 : Int32)).toInt64) + (1 : Int64)) - (p2.toInt64))) - (((100 : Int64) * ((((p1 &&& (2147483647 : Int32)).toInt64) + (1 : Int64)) - (p2.toInt64))) / (((p1 &&& (2147483647 : Int32)).toInt64) + (1 : Int64))) * (((p1 &&& (2147483647 : Int32)).toInt64) + (1 : Int64))) (0 : Int64)))])) _
    refine XS.ifNo X8.here hx rfl (hb hby at_202) rfl ((if0 _ _).trans (feq hc202).1) ?_
    show Steps p.tables e below (T8.setTop (mkF m 205 #[.val (.int p1), .val (.int p2), .val (.int p3), .val (.int p4), .val (.int (p4 &&& (3 : Int32))), .val (.ref aS), .val (.double (FP.i2d p2)), .second, .val (.long (((p1 &&& (2147483647 : Int32)).toInt64) + (1 : Int64))), .second, .val (.ref b6), .val (.double (own_drop (FP.i2d p2) (FP.l2d (((p1 &&& (2147483647 : Int32)).toInt64) + (1 : Int64))))), .second, .val (.long ((100 : Int64) * ((((p1 &&& (2147483647 : Int32)).toInt64) + (1 : Int64)) - (p2.toInt64)))), .second, .val (.long (((100 : Int64) * ((((p1 &&& (2147483647 : Int32)).toInt64) + (1 : Int64)) - (p2.toInt64))) / (((p1 &&& (2147483647 : Int32)).toInt64) + (1 : Int64)))), .second, .val (.long (((100 : Int64) * ((((p1 &&& (2147483647 : Int32)).toInt64) + (1 : Int64)) - (p2.toInt64))) / (((p1 &&& (2147483647 : Int32)).toInt64) + (1 : Int64)))), .second, .val (.long (((100 : Int64) * ((((p1 &&& (2147483647 : Int32)).toInt64) + (1 : Int64)) - (p2.toInt64))) / (((p1 &&& (2147483647 : Int32)).toInt64) + (1 : Int64)))), .second] [])) _
    refine XS.lload X8.here hx rfl (hb hby at_205) rfl ?_
    show Steps p.tables e below (T8.setTop (mkF m 207 #[.val (.int p1), .val (.int p2), .val (.int p3), .val (.int p4), .val (.int (p4 &&& (3 : Int32))), .val (.ref aS), .val (.double (FP.i2d p2)), .second, .val (.long (((p1 &&& (2147483647 : Int32)).toInt64) + (1 : Int64))), .second, .val (.ref b6), .val (.double (own_drop (FP.i2d p2) (FP.l2d (((p1 &&& (2147483647 : Int32)).toInt64) + (1 : Int64))))), .second, .val (.long ((100 : Int64) * ((((p1 &&& (2147483647 : Int32)).toInt64) + (1 : Int64)) - (p2.toInt64)))), .second, .val (.long (((100 : Int64) * ((((p1 &&& (2147483647 : Int32)).toInt64) + (1 : Int64)) - (p2.toInt64))) / (((p1 &&& (2147483647 : Int32)).toInt64) + (1 : Int64)))), .second, .val (.long (((100 : Int64) * ((((p1 &&& (2147483647 : Int32)).toInt64) + (1 : Int64)) - (p2.toInt64))) / (((p1 &&& (2147483647 : Int32)).toInt64) + (1 : Int64)))), .second, .val (.long (((100 : Int64) * ((((p1 &&& (2147483647 : Int32)).toInt64) + (1 : Int64)) - (p2.toInt64))) / (((p1 &&& (2147483647 : Int32)).toInt64) + (1 : Int64)))), .second] [(.long ((100 : Int64) * ((((p1 &&& (2147483647 : Int32)).toInt64) + (1 : Int64)) - (p2.toInt64))))])) _
    refine XS.lconst X8.here hx rfl (hb hby at_207) ?_
    show Steps p.tables e below (T8.setTop (mkF m 208 #[.val (.int p1), .val (.int p2), .val (.int p3), .val (.int p4), .val (.int (p4 &&& (3 : Int32))), .val (.ref aS), .val (.double (FP.i2d p2)), .second, .val (.long (((p1 &&& (2147483647 : Int32)).toInt64) + (1 : Int64))), .second, .val (.ref b6), .val (.double (own_drop (FP.i2d p2) (FP.l2d (((p1 &&& (2147483647 : Int32)).toInt64) + (1 : Int64))))), .second, .val (.long ((100 : Int64) * ((((p1 &&& (2147483647 : Int32)).toInt64) + (1 : Int64)) - (p2.toInt64)))), .second, .val (.long (((100 : Int64) * ((((p1 &&& (2147483647 : Int32)).toInt64) + (1 : Int64)) - (p2.toInt64))) / (((p1 &&& (2147483647 : Int32)).toInt64) + (1 : Int64)))), .second, .val (.long (((100 : Int64) * ((((p1 &&& (2147483647 : Int32)).toInt64) + (1 : Int64)) - (p2.toInt64))) / (((p1 &&& (2147483647 : Int32)).toInt64) + (1 : Int64)))), .second, .val (.long (((100 : Int64) * ((((p1 &&& (2147483647 : Int32)).toInt64) + (1 : Int64)) - (p2.toInt64))) / (((p1 &&& (2147483647 : Int32)).toInt64) + (1 : Int64)))), .second] [(.long (0 : Int64)), (.long ((100 : Int64) * ((((p1 &&& (2147483647 : Int32)).toInt64) + (1 : Int64)) - (p2.toInt64))))])) _
    refine XS.lcmp X8.here hx rfl (hb hby at_208) rfl ?_
    show Steps p.tables e below (T8.setTop (mkF m 209 #[.val (.int p1), .val (.int p2), .val (.int p3), .val (.int p4), .val (.int (p4 &&& (3 : Int32))), .val (.ref aS), .val (.double (FP.i2d p2)), .second, .val (.long (((p1 &&& (2147483647 : Int32)).toInt64) + (1 : Int64))), .second, .val (.ref b6), .val (.double (own_drop (FP.i2d p2) (FP.l2d (((p1 &&& (2147483647 : Int32)).toInt64) + (1 : Int64))))), .second, .val (.long ((100 : Int64) * ((((p1 &&& (2147483647 : Int32)).toInt64) + (1 : Int64)) - (p2.toInt64)))), .second, .val (.long (((100 : Int64) * ((((p1 &&& (2147483647 : Int32)).toInt64) + (1 : Int64)) - (p2.toInt64))) / (((p1 &&& (2147483647 : Int32)).toInt64) + (1 : Int64)))), .second, .val (.long (((100 : Int64) * ((((p1 &&& (2147483647 : Int32)).toInt64) + (1 : Int64)) - (p2.toInt64))) / (((p1 &&& (2147483647 : Int32)).toInt64) + (1 : Int64)))), .second, .val (.long (((100 : Int64) * ((((p1 &&& (2147483647 : Int32)).toInt64) + (1 : Int64)) - (p2.toInt64))) / (((p1 &&& (2147483647 : Int32)).toInt64) + (1 : Int64)))), .second] [(.int (lcmpW ((100 : Int64) * ((((p1 &&& (2147483647 : Int32)).toInt64) + (1 : Int64)) - (p2.toInt64))) (0 : Int64)))])) _
    refine XS.ifYes X8.here hx rfl (pc0 := 209) (pc' := 221) rfl (hb hby at_209) rfl ((if0 _ _).trans (flt hc209).2.2.2) (by decide) (by decide) ?_
    show Steps p.tables e below (T8.setTop (mkF m 221 #[.val (.int p1), .val (.int p2), .val (.int p3), .val (.int p4), .val (.int (p4 &&& (3 : Int32))), .val (.ref aS), .val (.double (FP.i2d p2)), .second, .val (.long (((p1 &&& (2147483647 : Int32)).toInt64) + (1 : Int64))), .second, .val (.ref b6), .val (.double (own_drop (FP.i2d p2) (FP.l2d (((p1 &&& (2147483647 : Int32)).toInt64) + (1 : Int64))))), .second, .val (.long ((100 : Int64) * ((((p1 &&& (2147483647 : Int32)).toInt64) + (1 : Int64)) - (p2.toInt64)))), .second, .val (.long (((100 : Int64) * ((((p1 &&& (2147483647 : Int32)).toInt64) + (1 : Int64)) - (p2.toInt64))) / (((p1 &&& (2147483647 : Int32)).toInt64) + (1 : Int64)))), .second, .val (.long (((100 : Int64) * ((((p1 &&& (2147483647 : Int32)).toInt64) + (1 : Int64)) - (p2.toInt64))) / (((p1 &&& (2147483647 : Int32)).toInt64) + (1 : Int64)))), .second, .val (.long (((100 : Int64) * ((((p1 &&& (2147483647 : Int32)).toInt64) + (1 : Int64)) - (p2.toInt64))) / (((p1 &&& (2147483647 : Int32)).toInt64) + (1 : Int64)))), .second] [])) _
    refine XS.lload X8.here hx rfl (hb hby at_221) rfl ?_
    show Steps p.tables e below (T8.setTop (mkF m 223 #[.val (.int p1), .val (.int p2), .val (.int p3), .val (.int p4), .val (.int (p4 &&& (3 : Int32))), .val (.ref aS), .val (.double (FP.i2d p2)), .second, .val (.long (((p1 &&& (2147483647 : Int32)).toInt64) + (1 : Int64))), .second, .val (.ref b6), .val (.double (own_drop (FP.i2d p2) (FP.l2d (((p1 &&& (2147483647 : Int32)).toInt64) + (1 : Int64))))), .second, .val (.long ((100 : Int64) * ((((p1 &&& (2147483647 : Int32)).toInt64) + (1 : Int64)) - (p2.toInt64)))), .second, .val (.long (((100 : Int64) * ((((p1 &&& (2147483647 : Int32)).toInt64) + (1 : Int64)) - (p2.toInt64))) / (((p1 &&& (2147483647 : Int32)).toInt64) + (1 : Int64)))), .second, .val (.long (((100 : Int64) * ((((p1 &&& (2147483647 : Int32)).toInt64) + (1 : Int64)) - (p2.toInt64))) / (((p1 &&& (2147483647 : Int32)).toInt64) + (1 : Int64)))), .second, .val (.long (((100 : Int64) * ((((p1 &&& (2147483647 : Int32)).toInt64) + (1 : Int64)) - (p2.toInt64))) / (((p1 &&& (2147483647 : Int32)).toInt64) + (1 : Int64)))), .second] [(.long (((100 : Int64) * ((((p1 &&& (2147483647 : Int32)).toInt64) + (1 : Int64)) - (p2.toInt64))) / (((p1 &&& (2147483647 : Int32)).toInt64) + (1 : Int64))))])) _
    refine XS.lconst X8.here hx rfl (hb hby at_223) ?_
    show Steps p.tables e below (T8.setTop (mkF m 224 #[.val (.int p1), .val (.int p2), .val (.int p3), .val (.int p4), .val (.int (p4 &&& (3 : Int32))), .val (.ref aS), .val (.double (FP.i2d p2)), .second, .val (.long (((p1 &&& (2147483647 : Int32)).toInt64) + (1 : Int64))), .second, .val (.ref b6), .val (.double (own_drop (FP.i2d p2) (FP.l2d (((p1 &&& (2147483647 : Int32)).toInt64) + (1 : Int64))))), .second, .val (.long ((100 : Int64) * ((((p1 &&& (2147483647 : Int32)).toInt64) + (1 : Int64)) - (p2.toInt64)))), .second, .val (.long (((100 : Int64) * ((((p1 &&& (2147483647 : Int32)).toInt64) + (1 : Int64)) - (p2.toInt64))) / (((p1 &&& (2147483647 : Int32)).toInt64) + (1 : Int64)))), .second, .val (.long (((100 : Int64) * ((((p1 &&& (2147483647 : Int32)).toInt64) + (1 : Int64)) - (p2.toInt64))) / (((p1 &&& (2147483647 : Int32)).toInt64) + (1 : Int64)))), .second, .val (.long (((100 : Int64) * ((((p1 &&& (2147483647 : Int32)).toInt64) + (1 : Int64)) - (p2.toInt64))) / (((p1 &&& (2147483647 : Int32)).toInt64) + (1 : Int64)))), .second] [(.long (1 : Int64)), (.long (((100 : Int64) * ((((p1 &&& (2147483647 : Int32)).toInt64) + (1 : Int64)) - (p2.toInt64))) / (((p1 &&& (2147483647 : Int32)).toInt64) + (1 : Int64))))])) _
    refine XS.lsub X8.here hx rfl (hb hby at_224) rfl ?_
    show Steps p.tables e below (T8.setTop (mkF m 225 #[.val (.int p1), .val (.int p2), .val (.int p3), .val (.int p4), .val (.int (p4 &&& (3 : Int32))), .val (.ref aS), .val (.double (FP.i2d p2)), .second, .val (.long (((p1 &&& (2147483647 : Int32)).toInt64) + (1 : Int64))), .second, .val (.ref b6), .val (.double (own_drop (FP.i2d p2) (FP.l2d (((p1 &&& (2147483647 : Int32)).toInt64) + (1 : Int64))))), .second, .val (.long ((100 : Int64) * ((((p1 &&& (2147483647 : Int32)).toInt64) + (1 : Int64)) - (p2.toInt64)))), .second, .val (.long (((100 : Int64) * ((((p1 &&& (2147483647 : Int32)).toInt64) + (1 : Int64)) - (p2.toInt64))) / (((p1 &&& (2147483647 : Int32)).toInt64) + (1 : Int64)))), .second, .val (.long (((100 : Int64) * ((((p1 &&& (2147483647 : Int32)).toInt64) + (1 : Int64)) - (p2.toInt64))) / (((p1 &&& (2147483647 : Int32)).toInt64) + (1 : Int64)))), .second, .val (.long (((100 : Int64) * ((((p1 &&& (2147483647 : Int32)).toInt64) + (1 : Int64)) - (p2.toInt64))) / (((p1 &&& (2147483647 : Int32)).toInt64) + (1 : Int64)))), .second] [(.long ((((100 : Int64) * ((((p1 &&& (2147483647 : Int32)).toInt64) + (1 : Int64)) - (p2.toInt64))) / (((p1 &&& (2147483647 : Int32)).toInt64) + (1 : Int64))) - (1 : Int64)))])) _
    refine XS.lstore X8.here hx rfl (hb hby at_225) rfl (l' := #[.val (.int p1), .val (.int p2), .val (.int p3), .val (.int p4), .val (.int (p4 &&& (3 : Int32))), .val (.ref aS), .val (.double (FP.i2d p2)), .second, .val (.long (((p1 &&& (2147483647 : Int32)).toInt64) + (1 : Int64))), .second, .val (.ref b6), .val (.double (own_drop (FP.i2d p2) (FP.l2d (((p1 &&& (2147483647 : Int32)).toInt64) + (1 : Int64))))), .second, .val (.long ((100 : Int64) * ((((p1 &&& (2147483647 : Int32)).toInt64) + (1 : Int64)) - (p2.toInt64)))), .second, .val (.long (((100 : Int64) * ((((p1 &&& (2147483647 : Int32)).toInt64) + (1 : Int64)) - (p2.toInt64))) / (((p1 &&& (2147483647 : Int32)).toInt64) + (1 : Int64)))), .second, .val (.long ((((100 : Int64) * ((((p1 &&& (2147483647 : Int32)).toInt64) + (1 : Int64)) - (p2.toInt64))) / (((p1 &&& (2147483647 : Int32)).toInt64) + (1 : Int64))) - (1 : Int64))), .second, .val (.long (((100 : Int64) * ((((p1 &&& (2147483647 : Int32)).toInt64) + (1 : Int64)) - (p2.toInt64))) / (((p1 &&& (2147483647 : Int32)).toInt64) + (1 : Int64)))), .second]) rfl ?_
    show Steps p.tables e below (T8.setTop (mkF m 227 #[.val (.int p1), .val (.int p2), .val (.int p3), .val (.int p4), .val (.int (p4 &&& (3 : Int32))), .val (.ref aS), .val (.double (FP.i2d p2)), .second, .val (.long (((p1 &&& (2147483647 : Int32)).toInt64) + (1 : Int64))), .second, .val (.ref b6), .val (.double (own_drop (FP.i2d p2) (FP.l2d (((p1 &&& (2147483647 : Int32)).toInt64) + (1 : Int64))))), .second, .val (.long ((100 : Int64) * ((((p1 &&& (2147483647 : Int32)).toInt64) + (1 : Int64)) - (p2.toInt64)))), .second, .val (.long (((100 : Int64) * ((((p1 &&& (2147483647 : Int32)).toInt64) + (1 : Int64)) - (p2.toInt64))) / (((p1 &&& (2147483647 : Int32)).toInt64) + (1 : Int64)))), .second, .val (.long ((((100 : Int64) * ((((p1 &&& (2147483647 : Int32)).toInt64) + (1 : Int64)) - (p2.toInt64))) / (((p1 &&& (2147483647 : Int32)).toInt64) + (1 : Int64))) - (1 : Int64))), .second, .val (.long (((100 : Int64) * ((((p1 &&& (2147483647 : Int32)).toInt64) + (1 : Int64)) - (p2.toInt64))) / (((p1 &&& (2147483647 : Int32)).toInt64) + (1 : Int64)))), .second] [])) _
    refine XS.lload X8.here hx rfl (hb hby at_227) rfl ?_
    show Steps p.tables e below (T8.setTop (mkF m 229 #[.val (.int p1), .val (.int p2), .val (.int p3), .val (.int p4), .val (.int (p4 &&& (3 : Int32))), .val (.ref aS), .val (.double (FP.i2d p2)), .second, .val (.long (((p1 &&& (2147483647 : Int32)).toInt64) + (1 : Int64))), .second, .val (.ref b6), .val (.double (own_drop (FP.i2d p2) (FP.l2d (((p1 &&& (2147483647 : Int32)).toInt64) + (1 : Int64))))), .second, .val (.long ((100 : Int64) * ((((p1 &&& (2147483647 : Int32)).toInt64) + (1 : Int64)) - (p2.toInt64)))), .second, .val (.long (((100 : Int64) * ((((p1 &&& (2147483647 : Int32)).toInt64) + (1 : Int64)) - (p2.toInt64))) / (((p1 &&& (2147483647 : Int32)).toInt64) + (1 : Int64)))), .second, .val (.long ((((100 : Int64) * ((((p1 &&& (2147483647 : Int32)).toInt64) + (1 : Int64)) - (p2.toInt64))) / (((p1 &&& (2147483647 : Int32)).toInt64) + (1 : Int64))) - (1 : Int64))), .second, .val (.long (((100 : Int64) * ((((p1 &&& (2147483647 : Int32)).toInt64) + (1 : Int64)) - (p2.toInt64))) / (((p1 &&& (2147483647 : Int32)).toInt64) + (1 : Int64)))), .second] [(.long ((((100 : Int64) * ((((p1 &&& (2147483647 : Int32)).toInt64) + (1 : Int64)) - (p2.toInt64))) / (((p1 &&& (2147483647 : Int32)).toInt64) + (1 : Int64))) - (1 : Int64)))])) _
    refine XS.l2dS X8.here hx rfl (hb hby at_229) rfl rfl ?_
    show Steps p.tables e below (T8.setTop (mkF m 230 #[.val (.int p1), .val (.int p2), .val (.int p3), .val (.int p4), .val (.int (p4 &&& (3 : Int32))), .val (.ref aS), .val (.double (FP.i2d p2)), .second, .val (.long (((p1 &&& (2147483647 : Int32)).toInt64) + (1 : Int64))), .second, .val (.ref b6), .val (.double (own_drop (FP.i2d p2) (FP.l2d (((p1 &&& (2147483647 : Int32)).toInt64) + (1 : Int64))))), .second, .val (.long ((100 : Int64) * ((((p1 &&& (2147483647 : Int32)).toInt64) + (1 : Int64)) - (p2.toInt64)))), .second, .val (.long (((100 : Int64) * ((((p1 &&& (2147483647 : Int32)).toInt64) + (1 : Int64)) - (p2.toInt64))) / (((p1 &&& (2147483647 : Int32)).toInt64) + (1 : Int64)))), .second, .val (.long ((((100 : Int64) * ((((p1 &&& (2147483647 : Int32)).toInt64) + (1 : Int64)) - (p2.toInt64))) / (((p1 &&& (2147483647 : Int32)).toInt64) + (1 : Int64))) - (1 : Int64))), .second, .val (.long (((100 : Int64) * ((((p1 &&& (2147483647 : Int32)).toInt64) + (1 : Int64)) - (p2.toInt64))) / (((p1 &&& (2147483647 : Int32)).toInt64) + (1 : Int64)))), .second] [(.double (FP.l2d ((((100 : Int64) * ((((p1 &&& (2147483647 : Int32)).toInt64) + (1 : Int64)) - (p2.toInt64))) / (((p1 &&& (2147483647 : Int32)).toInt64) + (1 : Int64))) - (1 : Int64))))])) _
    refine XS.dload X8.here hx rfl (hb hby at_230) rfl ?_
    show Steps p.tables e below (T8.setTop (mkF m 232 #[.val (.int p1), .val (.int p2), .val (.int p3), .val (.int p4), .val (.int (p4 &&& (3 : Int32))), .val (.ref aS), .val (.double (FP.i2d p2)), .second, .val (.long (((p1 &&& (2147483647 : Int32)).toInt64) + (1 : Int64))), .second, .val (.ref b6), .val (.double (own_drop (FP.i2d p2) (FP.l2d (((p1 &&& (2147483647 : Int32)).toInt64) + (1 : Int64))))), .second, .val (.long ((100 : Int64) * ((((p1 &&& (2147483647 : Int32)).toInt64) + (1 : Int64)) - (p2.toInt64)))), .second, .val (.long (((100 : Int64) * ((((p1 &&& (2147483647 : Int32)).toInt64) + (1 : Int64)) - (p2.toInt64))) / (((p1 &&& (2147483647 : Int32)).toInt64) + (1 : Int64)))), .second, .val (.long ((((100 : Int64) * ((((p1 &&& (2147483647 : Int32)).toInt64) + (1 : Int64)) - (p2.toInt64))) / (((p1 &&& (2147483647 : Int32)).toInt64) + (1 : Int64))) - (1 : Int64))), .second, .val (.long (((100 : Int64) * ((((p1 &&& (2147483647 : Int32)).toInt64) + (1 : Int64)) - (p2.toInt64))) / (((p1 &&& (2147483647 : Int32)).toInt64) + (1 : Int64)))), .second] [(.double (own_drop (FP.i2d p2) (FP.l2d (((p1 &&& (2147483647 : Int32)).toInt64) + (1 : Int64))))), (.double (FP.l2d ((((100 : Int64) * ((((p1 &&& (2147483647 : Int32)).toInt64) + (1 : Int64)) - (p2.toInt64))) / (((p1 &&& (2147483647 : Int32)).toInt64) + (1 : Int64))) - (1 : Int64))))])) _
    refine XS.dcmpS X8.here hx rfl (hb hby at_232) rfl rfl ?_
    show Steps p.tables e below (T8.setTop (mkF m 233 #[.val (.int p1), .val (.int p2), .val (.int p3), .val (.int p4), .val (.int (p4 &&& (3 : Int32))), .val (.ref aS), .val (.double (FP.i2d p2)), .second, .val (.long (((p1 &&& (2147483647 : Int32)).toInt64) + (1 : Int64))), .second, .val (.ref b6), .val (.double (own_drop (FP.i2d p2) (FP.l2d (((p1 &&& (2147483647 : Int32)).toInt64) + (1 : Int64))))), .second, .val (.long ((100 : Int64) * ((((p1 &&& (2147483647 : Int32)).toInt64) + (1 : Int64)) - (p2.toInt64)))), .second, .val (.long (((100 : Int64) * ((((p1 &&& (2147483647 : Int32)).toInt64) + (1 : Int64)) - (p2.toInt64))) / (((p1 &&& (2147483647 : Int32)).toInt64) + (1 : Int64)))), .second, .val (.long ((((100 : Int64) * ((((p1 &&& (2147483647 : Int32)).toInt64) + (1 : Int64)) - (p2.toInt64))) / (((p1 &&& (2147483647 : Int32)).toInt64) + (1 : Int64))) - (1 : Int64))), .second, .val (.long (((100 : Int64) * ((((p1 &&& (2147483647 : Int32)).toInt64) + (1 : Int64)) - (p2.toInt64))) / (((p1 &&& (2147483647 : Int32)).toInt64) + (1 : Int64)))), .second] [(.int (cmpValue (FP.dcmp (FP.l2d ((((100 : Int64) * ((((p1 &&& (2147483647 : Int32)).toInt64) + (1 : Int64)) - (p2.toInt64))) / (((p1 &&& (2147483647 : Int32)).toInt64) + (1 : Int64))) - (1 : Int64))) (own_drop (FP.i2d p2) (FP.l2d (((p1 &&& (2147483647 : Int32)).toInt64) + (1 : Int64))))) .g))])) _
    refine XS.ifNo X8.here hx rfl (hb hby at_233) rfl ((if0 _ _).trans (flt (by first | exact (own_rC (own_m2 p1).1 (own_m2 p1).2 rfl hc202 hc209).1 | exact (own_rC (own_m2 p1).1 (own_m2 p1).2 rfl hc202 hc209).2 : ¬ ((0 : Int32) < (cmpValue (FP.dcmp (FP.l2d ((((100 : Int64) * ((((p1 &&& (2147483647 : Int32)).toInt64) + (1 : Int64)) - (p2.toInt64))) / (((p1 &&& (2147483647 : Int32)).toInt64) + (1 : Int64))) - (1 : Int64))) (own_drop (FP.i2d p2) (FP.l2d (((p1 &&& (2147483647 : Int32)).toInt64) + (1 : Int64))))) .g)))).2.2.1) ?_
    show Steps p.tables e below (T8.setTop (mkF m 236 #[.val (.int p1), .val (.int p2), .val (.int p3), .val (.int p4), .val (.int (p4 &&& (3 : Int32))), .val (.ref aS), .val (.double (FP.i2d p2)), .second, .val (.long (((p1 &&& (2147483647 : Int32)).toInt64) + (1 : Int64))), .second, .val (.ref b6), .val (.double (own_drop (FP.i2d p2) (FP.l2d (((p1 &&& (2147483647 : Int32)).toInt64) + (1 : Int64))))), .second, .val (.long ((100 : Int64) * ((((p1 &&& (2147483647 : Int32)).toInt64) + (1 : Int64)) - (p2.toInt64)))), .second, .val (.long (((100 : Int64) * ((((p1 &&& (2147483647 : Int32)).toInt64) + (1 : Int64)) - (p2.toInt64))) / (((p1 &&& (2147483647 : Int32)).toInt64) + (1 : Int64)))), .second, .val (.long ((((100 : Int64) * ((((p1 &&& (2147483647 : Int32)).toInt64) + (1 : Int64)) - (p2.toInt64))) / (((p1 &&& (2147483647 : Int32)).toInt64) + (1 : Int64))) - (1 : Int64))), .second, .val (.long (((100 : Int64) * ((((p1 &&& (2147483647 : Int32)).toInt64) + (1 : Int64)) - (p2.toInt64))) / (((p1 &&& (2147483647 : Int32)).toInt64) + (1 : Int64)))), .second] [])) _
    refine XS.dload X8.here hx rfl (hb hby at_236) rfl ?_
    show Steps p.tables e below (T8.setTop (mkF m 238 #[.val (.int p1), .val (.int p2), .val (.int p3), .val (.int p4), .val (.int (p4 &&& (3 : Int32))), .val (.ref aS), .val (.double (FP.i2d p2)), .second, .val (.long (((p1 &&& (2147483647 : Int32)).toInt64) + (1 : Int64))), .second, .val (.ref b6), .val (.double (own_drop (FP.i2d p2) (FP.l2d (((p1 &&& (2147483647 : Int32)).toInt64) + (1 : Int64))))), .second, .val (.long ((100 : Int64) * ((((p1 &&& (2147483647 : Int32)).toInt64) + (1 : Int64)) - (p2.toInt64)))), .second, .val (.long (((100 : Int64) * ((((p1 &&& (2147483647 : Int32)).toInt64) + (1 : Int64)) - (p2.toInt64))) / (((p1 &&& (2147483647 : Int32)).toInt64) + (1 : Int64)))), .second, .val (.long ((((100 : Int64) * ((((p1 &&& (2147483647 : Int32)).toInt64) + (1 : Int64)) - (p2.toInt64))) / (((p1 &&& (2147483647 : Int32)).toInt64) + (1 : Int64))) - (1 : Int64))), .second, .val (.long (((100 : Int64) * ((((p1 &&& (2147483647 : Int32)).toInt64) + (1 : Int64)) - (p2.toInt64))) / (((p1 &&& (2147483647 : Int32)).toInt64) + (1 : Int64)))), .second] [(.double (own_drop (FP.i2d p2) (FP.l2d (((p1 &&& (2147483647 : Int32)).toInt64) + (1 : Int64)))))])) _
    refine XS.lload X8.here hx rfl (hb hby at_238) rfl ?_
    show Steps p.tables e below (T8.setTop (mkF m 240 #[.val (.int p1), .val (.int p2), .val (.int p3), .val (.int p4), .val (.int (p4 &&& (3 : Int32))), .val (.ref aS), .val (.double (FP.i2d p2)), .second, .val (.long (((p1 &&& (2147483647 : Int32)).toInt64) + (1 : Int64))), .second, .val (.ref b6), .val (.double (own_drop (FP.i2d p2) (FP.l2d (((p1 &&& (2147483647 : Int32)).toInt64) + (1 : Int64))))), .second, .val (.long ((100 : Int64) * ((((p1 &&& (2147483647 : Int32)).toInt64) + (1 : Int64)) - (p2.toInt64)))), .second, .val (.long (((100 : Int64) * ((((p1 &&& (2147483647 : Int32)).toInt64) + (1 : Int64)) - (p2.toInt64))) / (((p1 &&& (2147483647 : Int32)).toInt64) + (1 : Int64)))), .second, .val (.long ((((100 : Int64) * ((((p1 &&& (2147483647 : Int32)).toInt64) + (1 : Int64)) - (p2.toInt64))) / (((p1 &&& (2147483647 : Int32)).toInt64) + (1 : Int64))) - (1 : Int64))), .second, .val (.long (((100 : Int64) * ((((p1 &&& (2147483647 : Int32)).toInt64) + (1 : Int64)) - (p2.toInt64))) / (((p1 &&& (2147483647 : Int32)).toInt64) + (1 : Int64)))), .second] [(.long (((100 : Int64) * ((((p1 &&& (2147483647 : Int32)).toInt64) + (1 : Int64)) - (p2.toInt64))) / (((p1 &&& (2147483647 : Int32)).toInt64) + (1 : Int64)))), (.double (own_drop (FP.i2d p2) (FP.l2d (((p1 &&& (2147483647 : Int32)).toInt64) + (1 : Int64)))))])) _
    refine XS.l2dS X8.here hx rfl (hb hby at_240) rfl rfl ?_
    show Steps p.tables e below (T8.setTop (mkF m 241 #[.val (.int p1), .val (.int p2), .val (.int p3), .val (.int p4), .val (.int (p4 &&& (3 : Int32))), .val (.ref aS), .val (.double (FP.i2d p2)), .second, .val (.long (((p1 &&& (2147483647 : Int32)).toInt64) + (1 : Int64))), .second, .val (.ref b6), .val (.double (own_drop (FP.i2d p2) (FP.l2d (((p1 &&& (2147483647 : Int32)).toInt64) + (1 : Int64))))), .second, .val (.long ((100 : Int64) * ((((p1 &&& (2147483647 : Int32)).toInt64) + (1 : Int64)) - (p2.toInt64)))), .second, .val (.long (((100 : Int64) * ((((p1 &&& (2147483647 : Int32)).toInt64) + (1 : Int64)) - (p2.toInt64))) / (((p1 &&& (2147483647 : Int32)).toInt64) + (1 : Int64)))), .second, .val (.long ((((100 : Int64) * ((((p1 &&& (2147483647 : Int32)).toInt64) + (1 : Int64)) - (p2.toInt64))) / (((p1 &&& (2147483647 : Int32)).toInt64) + (1 : Int64))) - (1 : Int64))), .second, .val (.long (((100 : Int64) * ((((p1 &&& (2147483647 : Int32)).toInt64) + (1 : Int64)) - (p2.toInt64))) / (((p1 &&& (2147483647 : Int32)).toInt64) + (1 : Int64)))), .second] [(.double (FP.l2d (((100 : Int64) * ((((p1 &&& (2147483647 : Int32)).toInt64) + (1 : Int64)) - (p2.toInt64))) / (((p1 &&& (2147483647 : Int32)).toInt64) + (1 : Int64))))), (.double (own_drop (FP.i2d p2) (FP.l2d (((p1 &&& (2147483647 : Int32)).toInt64) + (1 : Int64)))))])) _
    refine XS.dcmpS X8.here hx rfl (hb hby at_241) rfl rfl ?_
    show Steps p.tables e below (T8.setTop (mkF m 242 #[.val (.int p1), .val (.int p2), .val (.int p3), .val (.int p4), .val (.int (p4 &&& (3 : Int32))), .val (.ref aS), .val (.double (FP.i2d p2)), .second, .val (.long (((p1 &&& (2147483647 : Int32)).toInt64) + (1 : Int64))), .second, .val (.ref b6), .val (.double (own_drop (FP.i2d p2) (FP.l2d (((p1 &&& (2147483647 : Int32)).toInt64) + (1 : Int64))))), .second, .val (.long ((100 : Int64) * ((((p1 &&& (2147483647 : Int32)).toInt64) + (1 : Int64)) - (p2.toInt64)))), .second, .val (.long (((100 : Int64) * ((((p1 &&& (2147483647 : Int32)).toInt64) + (1 : Int64)) - (p2.toInt64))) / (((p1 &&& (2147483647 : Int32)).toInt64) + (1 : Int64)))), .second, .val (.long ((((100 : Int64) * ((((p1 &&& (2147483647 : Int32)).toInt64) + (1 : Int64)) - (p2.toInt64))) / (((p1 &&& (2147483647 : Int32)).toInt64) + (1 : Int64))) - (1 : Int64))), .second, .val (.long (((100 : Int64) * ((((p1 &&& (2147483647 : Int32)).toInt64) + (1 : Int64)) - (p2.toInt64))) / (((p1 &&& (2147483647 : Int32)).toInt64) + (1 : Int64)))), .second] [(.int (cmpValue (FP.dcmp (own_drop (FP.i2d p2) (FP.l2d (((p1 &&& (2147483647 : Int32)).toInt64) + (1 : Int64)))) (FP.l2d (((100 : Int64) * ((((p1 &&& (2147483647 : Int32)).toInt64) + (1 : Int64)) - (p2.toInt64))) / (((p1 &&& (2147483647 : Int32)).toInt64) + (1 : Int64))))) .g))])) _
    refine XS.ifNo X8.here hx rfl (hb hby at_242) rfl ((if0 _ _).trans (flt (by first | exact (own_rC (own_m2 p1).1 (own_m2 p1).2 rfl hc202 hc209).1 | exact (own_rC (own_m2 p1).1 (own_m2 p1).2 rfl hc202 hc209).2 : ¬ ((0 : Int32) < (cmpValue (FP.dcmp (own_drop (FP.i2d p2) (FP.l2d (((p1 &&& (2147483647 : Int32)).toInt64) + (1 : Int64)))) (FP.l2d (((100 : Int64) * ((((p1 &&& (2147483647 : Int32)).toInt64) + (1 : Int64)) - (p2.toInt64))) / (((p1 &&& (2147483647 : Int32)).toInt64) + (1 : Int64))))) .g)))).2.2.1) ?_
    show Steps p.tables e below (T8.setTop (mkF m 245 #[.val (.int p1), .val (.int p2), .val (.int p3), .val (.int p4), .val (.int (p4 &&& (3 : Int32))), .val (.ref aS), .val (.double (FP.i2d p2)), .second, .val (.long (((p1 &&& (2147483647 : Int32)).toInt64) + (1 : Int64))), .second, .val (.ref b6), .val (.double (own_drop (FP.i2d p2) (FP.l2d (((p1 &&& (2147483647 : Int32)).toInt64) + (1 : Int64))))), .second, .val (.long ((100 : Int64) * ((((p1 &&& (2147483647 : Int32)).toInt64) + (1 : Int64)) - (p2.toInt64)))), .second, .val (.long (((100 : Int64) * ((((p1 &&& (2147483647 : Int32)).toInt64) + (1 : Int64)) - (p2.toInt64))) / (((p1 &&& (2147483647 : Int32)).toInt64) + (1 : Int64)))), .second, .val (.long ((((100 : Int64) * ((((p1 &&& (2147483647 : Int32)).toInt64) + (1 : Int64)) - (p2.toInt64))) / (((p1 &&& (2147483647 : Int32)).toInt64) + (1 : Int64))) - (1 : Int64))), .second, .val (.long (((100 : Int64) * ((((p1 &&& (2147483647 : Int32)).toInt64) + (1 : Int64)) - (p2.toInt64))) / (((p1 &&& (2147483647 : Int32)).toInt64) + (1 : Int64)))), .second] [])) _
    refine XS.iconst X8.here hx rfl (hb hby at_245) ?_
    show Steps p.tables e below (T8.setTop (mkF m 246 #[.val (.int p1), .val (.int p2), .val (.int p3), .val (.int p4), .val (.int (p4 &&& (3 : Int32))), .val (.ref aS), .val (.double (FP.i2d p2)), .second, .val (.long (((p1 &&& (2147483647 : Int32)).toInt64) + (1 : Int64))), .second, .val (.ref b6), .val (.double (own_drop (FP.i2d p2) (FP.l2d (((p1 &&& (2147483647 : Int32)).toInt64) + (1 : Int64))))), .second, .val (.long ((100 : Int64) * ((((p1 &&& (2147483647 : Int32)).toInt64) + (1 : Int64)) - (p2.toInt64)))), .second, .val (.long (((100 : Int64) * ((((p1 &&& (2147483647 : Int32)).toInt64) + (1 : Int64)) - (p2.toInt64))) / (((p1 &&& (2147483647 : Int32)).toInt64) + (1 : Int64)))), .second, .val (.long ((((100 : Int64) * ((((p1 &&& (2147483647 : Int32)).toInt64) + (1 : Int64)) - (p2.toInt64))) / (((p1 &&& (2147483647 : Int32)).toInt64) + (1 : Int64))) - (1 : Int64))), .second, .val (.long (((100 : Int64) * ((((p1 &&& (2147483647 : Int32)).toInt64) + (1 : Int64)) - (p2.toInt64))) / (((p1 &&& (2147483647 : Int32)).toInt64) + (1 : Int64)))), .second] [(.int (1 : Int32))])) _
    refine XS.goto X8.here hx rfl (pc0 := 246) (pc' := 250) rfl (hb hby at_246) (by decide) (by decide) ?_
    show Steps p.tables e below (T8.setTop (mkF m 250 #[.val (.int p1), .val (.int p2), .val (.int p3), .val (.int p4), .val (.int (p4 &&& (3 : Int32))), .val (.ref aS), .val (.double (FP.i2d p2)), .second, .val (.long (((p1 &&& (2147483647 : Int32)).toInt64) + (1 : Int64))), .second, .val (.ref b6), .val (.double (own_drop (FP.i2d p2) (FP.l2d (((p1 &&& (2147483647 : Int32)).toInt64) + (1 : Int64))))), .second, .val (.long ((100 : Int64) * ((((p1 &&& (2147483647 : Int32)).toInt64) + (1 : Int64)) - (p2.toInt64)))), .second, .val (.long (((100 : Int64) * ((((p1 &&& (2147483647 : Int32)).toInt64) + (1 : Int64)) - (p2.toInt64))) / (((p1 &&& (2147483647 : Int32)).toInt64) + (1 : Int64)))), .second, .val (.long ((((100 : Int64) * ((((p1 &&& (2147483647 : Int32)).toInt64) + (1 : Int64)) - (p2.toInt64))) / (((p1 &&& (2147483647 : Int32)).toInt64) + (1 : Int64))) - (1 : Int64))), .second, .val (.long (((100 : Int64) * ((((p1 &&& (2147483647 : Int32)).toInt64) + (1 : Int64)) - (p2.toInt64))) / (((p1 &&& (2147483647 : Int32)).toInt64) + (1 : Int64)))), .second] [(.int (1 : Int32))])) _
    exact retN X8 hx (t := .boolean) Bd.returns (by simp) (hb hby at_250) hr
  · show Ql (some (.int (1 : Int32))) n0 _ _
    exact ⟨rfl, N8⟩
theorem rm0 (l : Launch) (Z : State) (a0 : Array Value) (hw : ∀ d ∈ tables_1, d.before a0 Z = true) (ws : List Jvm.Cond) (p1 p2 p3 p4 : Int32) (h0 : Heap) (n0 : Nat) (Z0 : n0 ≤ h0.size) (w2 : Int32) (S : Sta Z h0 "java/lang/String" "COMPACT_STRINGS" "Z" (.int w2)) (hw2 : ¬ (w2 = (0 : Int32))) :
    MetFree l x (head1 (Jvm.Cond.code x code maxLocals ret :: ws) room_1) (fun a U => a = #[(.int p1), (.int p2), (.int p3), (.int p4)] ∧ Z.Warmed39 U.vm ∧ U.heap = h0) (fun _ _ _ _ _ => True) (fun _ U o U' => ∃ v L, o = .returned v ∧ Ql (some (.int (1 : Int32))) n0 v L ∧ FrameEnd U o U' L room_1.cells room_1.slots) := by
  by_cases c0 : (p4 &&& (3 : Int32)) = (0 : Int32)
  · exact rm0_ff l Z a0 hw ws p1 p2 p3 p4 h0 n0 Z0 w2 S hw2 c0
  by_cases c1 : (p4 &&& (3 : Int32)) = (1 : Int32)
  · exact rm0_tff l Z a0 hw ws p1 p2 p3 p4 h0 n0 Z0 w2 S hw2 c0 c1
  have mz : ¬ ((((p1 &&& (2147483647 : Int32)).toInt64) + (1 : Int64)) = (0 : Int64)) := own_mz (own_m2 p1).1
  by_cases c2 : (lcmpW (((100 : Int64) * ((((p1 &&& (2147483647 : Int32)).toInt64) + (1 : Int64)) - (p2.toInt64))) - (((100 : Int64) * ((((p1 &&& (2147483647 : Int32)).toInt64) + (1 : Int64)) - (p2.toInt64))) / (((p1 &&& (2147483647 : Int32)).toInt64) + (1 : Int64))) * (((p1 &&& (2147483647 : Int32)).toInt64) + (1 : Int64))) (0 : Int64)) = (0 : Int32)
  · exact rm0_tttff l Z a0 hw ws p1 p2 p3 p4 h0 n0 Z0 w2 S hw2 c0 c1 mz mz c2
  by_cases c3 : (0 : Int32) < (lcmpW ((100 : Int64) * ((((p1 &&& (2147483647 : Int32)).toInt64) + (1 : Int64)) - (p2.toInt64))) (0 : Int64))
  · exact rm0_ttffff l Z a0 hw ws p1 p2 p3 p4 h0 n0 Z0 w2 S hw2 c0 c1 mz mz c2 c3
  · exact rm0_ttftff l Z a0 hw ws p1 p2 p3 p4 h0 n0 Z0 w2 S hw2 c0 c1 mz mz c2 c3
set_option maxRecDepth 65536 in
set_option maxHeartbeats 40000000 in
theorem comes_1 {Post : Tables → Env → Array Value → State → Outcome → State → Prop} (hpost : ∀ tb e args s v u, (limb_1_1.after args s (.returned v) u = true ∧ limb_1_2.after args s (.returned v) u = true ∧ True) → FrameEnd s (.returned v) u (Jvm.fieldLocs frame_1_writes args s ++ Jvm.arrayLocs frame_1_arrays args s ++ Jvm.staticLocs frame_1_statics s) 16 128 → Post tb e args s (.returned v) u) :
    ArmFor flags0 classFile x code maxLocals ret World_1 tables_1 room_1 Calls_1 rest_1 Pre_1 Post := by
  intro l hfl _ _ p e ha hc hk s m args below hf hA hF happ hP
  obtain ⟨hcalls, hrest, hpre⟩ := hP
  obtain ⟨-, -, -, hnamed, -, -, -, hat⟩ := (Spec.applies_iff hf).mp happ
  obtain ⟨hg, hn⟩ := and_e (Cond.before_iff.mp (show (Jvm.Cond.and given_1 narrow_1).before args s = true from hpre))
  obtain ⟨g9, g10⟩ := and_e hg
  obtain ⟨g11, g12⟩ := and_e g10
  obtain ⟨g13, g14⟩ := and_e g12
  obtain ⟨g15, g16⟩ := and_e g14
  obtain ⟨w0, w1, w2, w3, rfl⟩ : ∃ w0 w1 w2 w3 : Value, args = #[w0, w1, w2, w3] := by
    have hs : args.size = 4 := by simpa [Cond.value, given_1] using g9
    obtain ⟨L⟩ := args
    match L, hs with
    | [w0, w1, w2, w3], _ => exact ⟨w0, w1, w2, w3, rfl⟩
  have hw := fun d (hd : d ∈ tables_1) => atoms_spec (ws := Jvm.Cond.code x code maxLocals ret :: tables_1) hat d (List.mem_cons_of_mem _ hd)
  have hfit : Fit s := fun {y c} hc i hi => by
    obtain ⟨ha, rfl⟩ := Array.getElem?_eq_some_iff.mp hc
    have q := List.all_eq_true.mp ((Array.all_eq_true_iff_forall_mem.mp hF) _ (Array.getElem_mem ha)) i (List.mem_range.mpr hi)
    simpa [Array.getElem?_eq_getElem hi] using q
  -- the named sets: hsets indexes jdkStatics_1 (Statement.lean): (hsets _ (List.mem_of_getElem? (i := n) rfl)) is its n-th word, before the call
  obtain ⟨hsets, hown0⟩ := atoms_of _ (rest_1_c_eq ▸ (show rest_1_c.before _ s = true from hrest))
  have hr0 := Cond.before_iff.mp hown0
  obtain ⟨i0, ei0⟩ := is_v g11
  obtain rfl : w0 = (.int i0) := Option.some.inj ei0
  obtain ⟨i1, ei1⟩ := is_v g13
  obtain rfl : w1 = (.int i1) := Option.some.inj ei1
  obtain ⟨i2, ei2⟩ := is_v g15
  obtain rfl : w2 = (.int i2) := Option.some.inj ei2
  obtain ⟨i3, ei3⟩ := is_v g16
  obtain rfl : w3 = (.int i3) := Option.some.inj ei3
  have nz := not_v (Cond.before_iff.mp (hsets _ (List.mem_of_getElem? (i := 2) rfl)))
  obtain ⟨ic, ec⟩ := is_v (Cond.before_iff.mp (hsets _ (List.mem_of_getElem? (i := 1) rfl)))
  have SC : Sta s s.heap "java/lang/String" "COMPACT_STRINGS" "Z" (.int ic) := Sta.start ec (Or.inl (hsets _ (List.mem_of_getElem? (i := 0) rfl)))
  have cz : ¬ (ic = (0 : Int32)) := gotF (Cond.eq_ints ec (Term.int_eval (0))) nz
  obtain ⟨n, o, h1, h2, h3, _, L, rfl, ⟨rfl, N⟩, hq⟩ := rm0 l s _ hw tables_1 i0 i1 i2 i3 s.heap s.heap.size (Nat.le_refl _) ic SC cz p e ha hc hk s m _ below hf ((Spec.applies_iff_loose hf).mp happ).1 ⟨rfl, State.Warmed39.refl s, rfl⟩ trivial
  refine ⟨n, _, h1, h2, h3, hpost _ _ _ _ _ _ ⟨Cond.after_iff.mpr rfl, Cond.after_iff.mpr (eq_i res_at (Term.int_eval (1)) rfl), trivial⟩ ⟨hq.1, hq.2.1, (hq.2.2.sift fun y hy => Or.inr (N y hy)).mono (by decide) (by decide)⟩⟩
theorem main_1_1 : Claimed_1_1 := comes_1 fun _ _ _ _ _ _ h hF => ⟨h.1, hF⟩
theorem main_1_2 : Claimed_1_2 := comes_1 fun _ _ _ _ _ _ h hF => ⟨h.2.1, hF⟩
end Jvm.Pilot.@@N@@
namespace Jvm.Pilot.@@N@@
open Jvm Jvm.ClassFile Sem Op Lib Jvm.Free Jvm.Stand Jvm.Pilot.@@N@@.Jvm.D
/-! MADE BY PROGRAM (witnessworld.py) out of the Statement's table words and the real class files: 16 classes; the members and pool entries that the words name. The judged class is class 1, her method 1. -/
namespace start1
open Jvm.ClassFile
def u (s : String) : CpInfo := .utf8 (stringToUtf16 s)
/-- a pool by its gaps: so many unusable entries, then the entry; so many at the end -/
def gap : Nat → List CpInfo → List CpInfo
  | 0, r => r
  | n + 1, r => .unusable :: gap n r
def poolList (es : List (Nat × CpInfo)) (last : Nat) : List CpInfo := es.foldr (fun e r => gap e.1 (e.2 :: r)) (gap last [])
def pool (es : List (Nat × CpInfo)) (last : Nat) : Array CpInfo := ⟨poolList es last⟩
def fileOf (pool : Array CpInfo) (this : Nat) (attrs : Array Attribute := #[]) (ms : Array MethodInfo := #[]) (fl : Nat := 33) (sup : Nat := 0) (ifs : Array Nat := #[]) (fds : Array FieldInfo := #[]) : ClassFile where
  minorVersion := 0
  majorVersion := 65
  constantPool := pool
  accessFlags := fl
  thisClass := this
  superClass := sup
  interfaces := ifs
  fields := fds
  methods := ms
  attributes := attrs
def plain (name : String) (sup : Option ClassId) : Class where
  name := name
  kind := .ordinary
  loader := none
  accessFlags := 33
  super := sup
  interfaces := #[]
  cf := none
  fields := #[]
  methods := #[]
  instanceTypes := #[]
  staticTypes := #[]
  resolved := #[]
  callSites := []
  init := .initialized
  statics := none
  mirror := none

def pool0 : Array CpInfo := pool [(5, u "<init>"), (0, u "()V"), (1, .class_ 10), (1, u "java/lang/Object")] 113

def k0c0 : Code := { maxStack := 0, maxLocals := 1, code := object_method_1_code, exceptionTable := #[], attributes := #[] }
def k0m0 : Method := { name := "<init>", desc := "()V", sig := { parameters := [], returnType := none }, accessFlags := 1, code := some k0c0 }
/-- java/lang/Object -/
def k0 : Class := { plain "java/lang/Object" none with
  accessFlags := 33
  interfaces := #[]
  cf := some (fileOf pool0 8 #[] #[{ accessFlags := 1, nameIndex := 5, descriptorIndex := 6, attributes := #[] }] 33 0 #[] #[])
  fields := #[]
  methods := #[k0m0]
  instanceTypes := #[]
  staticTypes := #[]
  resolved := Array.replicate 124 none
  statics := none }

def pool1 : Array CpInfo := pool [(2, .class_ 4), (1, u "java/lang/Object"), (0, u "<init>"), (0, u "()V"), (0, .methodref 8 9), (0, .class_ 10), (0, .nameAndType 11 12), (0, u "java/lang/String"), (0, u "valueOf"), (0, u "(C)Ljava/lang/String;"), (0, .integer 2147483647), (0, .class_ 15), (0, u "com/example/precision/precision/models/Uncertainty$TopicUncertainty"), (0, .methodref 14 17), (0, .nameAndType 5 18), (0, u "(Ljava/lang/String;DD)V"), (0, .methodref 14 20), (0, .nameAndType 21 22), (0, u "dropPercent"), (0, u "()D"), (0, .long 100), (1, .class_ 26), (0, u "com/example/precision/precision/models/TopicUncertaintyDropPercentPinLaw"), (2, u "law"), (0, u "(IIII)Z")] 7

def k1m0 : Method := { name := "<init>", desc := "()V", sig := { parameters := [], returnType := none }, accessFlags := 1, code := none }
def k1c1 : Code := { maxStack := 7, maxLocals := 21, code := code, exceptionTable := #[], attributes := #[] }
def k1m1 : Method := { name := "law", desc := "(IIII)Z", sig := { parameters := [.int, .int, .int, .int], returnType := some .boolean }, accessFlags := 9, code := some k1c1 }
/-- com/example/precision/precision/models/TopicUncertaintyDropPercentPinLaw -/
def k1 : Class := { plain "com/example/precision/precision/models/TopicUncertaintyDropPercentPinLaw" (some 0) with
  accessFlags := 49
  interfaces := #[]
  cf := some (fileOf pool1 25 #[] #[{ accessFlags := 1, nameIndex := 5, descriptorIndex := 6, attributes := #[] }, { accessFlags := 9, nameIndex := 29, descriptorIndex := 30, attributes := #[] }] 49 2 #[] #[])
  fields := #[]
  methods := #[k1m0, k1m1]
  instanceTypes := #[]
  staticTypes := #[]
  resolved := Array.replicate 38 none
  statics := none }

def pool2 : Array CpInfo := pool [(1, .class_ 2), (0, u "java/io/Serializable"), (0, .class_ 4), (0, u "java/lang/Object")] 2

/-- java/io/Serializable -/
def k2 : Class := { plain "java/io/Serializable" (some 0) with
  accessFlags := 1537
  interfaces := #[]
  cf := some (fileOf pool2 1 #[] #[] 1537 3 #[] #[])
  fields := #[]
  methods := #[]
  instanceTypes := #[]
  staticTypes := #[]
  resolved := Array.replicate 7 none
  statics := none }

def pool3 : Array CpInfo := pool [(1, .class_ 2), (0, u "java/lang/Comparable"), (0, .class_ 4), (0, u "java/lang/Object")] 7

/-- java/lang/Comparable -/
def k3 : Class := { plain "java/lang/Comparable" (some 0) with
  accessFlags := 1537
  interfaces := #[]
  cf := some (fileOf pool3 1 #[] #[] 1537 3 #[] #[])
  fields := #[]
  methods := #[]
  instanceTypes := #[]
  staticTypes := #[]
  resolved := Array.replicate 12 none
  statics := none }

def pool4 : Array CpInfo := pool [(2, .class_ 4), (1, u "java/lang/CharSequence"), (42, .class_ 48), (0, u "java/lang/CharSequence$1CodePointIterator"), (10, .class_ 60), (0, u "java/lang/CharSequence$1CharIterator"), (5, .class_ 67), (0, u "java/lang/Object")] 63

/-- java/lang/CharSequence -/
def k4 : Class := { plain "java/lang/CharSequence" (some 0) with
  accessFlags := 1537
  interfaces := #[]
  cf := some (fileOf pool4 2 #[.nestMembers #[47, 59]] #[] 1537 66 #[] #[])
  fields := #[]
  methods := #[]
  instanceTypes := #[]
  staticTypes := #[]
  resolved := Array.replicate 131 none
  statics := none }

def pool5 : Array CpInfo := pool [(1, .class_ 2), (0, u "java/lang/constant/Constable"), (0, .class_ 4), (0, u "java/lang/Object")] 6

/-- java/lang/constant/Constable -/
def k5 : Class := { plain "java/lang/constant/Constable" (some 0) with
  accessFlags := 1537
  interfaces := #[]
  cf := some (fileOf pool5 1 #[] #[] 1537 3 #[] #[])
  fields := #[]
  methods := #[]
  instanceTypes := #[]
  staticTypes := #[]
  resolved := Array.replicate 11 none
  statics := none }

def pool6 : Array CpInfo := pool [(1, .class_ 2), (0, u "java/lang/constant/ConstantDesc"), (0, .class_ 4), (0, u "java/lang/Object")] 32

/-- java/lang/constant/ConstantDesc -/
def k6 : Class := { plain "java/lang/constant/ConstantDesc" (some 0) with
  accessFlags := 1537
  interfaces := #[]
  cf := some (fileOf pool6 1 #[] #[] 1537 3 #[] #[])
  fields := #[]
  methods := #[]
  instanceTypes := #[]
  staticTypes := #[]
  resolved := Array.replicate 37 none
  statics := none }

def pool7 : Array CpInfo := pool [(1, .methodref 2 3), (0, .class_ 4), (0, .nameAndType 5 6), (0, u "java/lang/Object"), (0, u "<init>"), (0, u "()V"), (2, .fieldref 10 11), (0, .class_ 12), (0, .nameAndType 13 14), (0, u "java/lang/String"), (0, u "value"), (0, u "[B"), (0, .fieldref 10 16), (0, .nameAndType 17 18), (0, u "coder"), (0, u "B"), (2, u "hash"), (0, u "I"), (2, u "hashIsZero"), (0, u "Z"), (11, .fieldref 10 39), (0, .nameAndType 40 26), (0, u "COMPACT_STRINGS"), (12, u "toBytes"), (53, .class_ 109), (1, u "java/lang/StringLatin1"), (99, .methodref 10 210), (0, .nameAndType 5 211), (0, u "([BB)V"), (157, u "(C)Z"), (205, .class_ 576), (0, u "java/lang/CharSequence"), (22, u "CASE_INSENSITIVE_ORDER"), (0, u "Ljava/util/Comparator;"), (181, u "valueOf"), (0, u "(C)Ljava/lang/String;"), (231, .methodref 107 1016), (0, .nameAndType 1017 369), (0, u "canEncode"), (0, .methodref 107 1019), (0, .nameAndType 53 1020), (0, u "(C)[B"), (80, u "serialPersistentFields"), (0, u "[Ljava/io/ObjectStreamField;"), (0, .class_ 1104), (0, u "java/lang/String$CaseInsensitiveComparator"), (1, .class_ 1107), (0, u "java/io/Serializable"), (0, .class_ 1109), (0, u "java/lang/Comparable"), (0, .class_ 1111), (0, u "java/lang/constant/Constable"), (0, .class_ 1113), (0, u "java/lang/constant/ConstantDesc"), (2, u "serialVersionUID"), (0, u "J"), (3, u "REPL"), (0, u "C"), (2, u "LATIN1"), (1, u "UTF16")] 323

def k7m0 : Method := { name := "<init>", desc := "()V", sig := { parameters := [], returnType := none }, accessFlags := 1, code := none }
def k7c1 : Code := { maxStack := 4, maxLocals := 1, code := jdk_42_method_139_code, exceptionTable := #[], attributes := #[] }
def k7m1 : Method := { name := "valueOf", desc := "(C)Ljava/lang/String;", sig := { parameters := [.char], returnType := some (.object "java/lang/String") }, accessFlags := 9, code := some k7c1 }
def k7c2 : Code := { maxStack := 2, maxLocals := 3, code := jdk_42_method_151_code, exceptionTable := #[], attributes := #[] }
def k7m2 : Method := { name := "<init>", desc := "([BB)V", sig := { parameters := [(.array .byte), .byte], returnType := none }, accessFlags := 0, code := some k7c2 }
/-- java/lang/String -/
def k7 : Class := { plain "java/lang/String" (some 0) with
  accessFlags := 49
  interfaces := #[2, 3, 4, 5, 6]
  cf := some (fileOf pool7 10 #[.nestMembers #[1103]] #[{ accessFlags := 1, nameIndex := 5, descriptorIndex := 6, attributes := #[] }, { accessFlags := 9, nameIndex := 782, descriptorIndex := 783, attributes := #[] }, { accessFlags := 0, nameIndex := 5, descriptorIndex := 211, attributes := #[] }] 49 2 #[1106, 1108, 575, 1110, 1112] #[{ accessFlags := 18, nameIndex := 13, descriptorIndex := 14, attributes := #[] }, { accessFlags := 18, nameIndex := 17, descriptorIndex := 18, attributes := #[] }, { accessFlags := 2, nameIndex := 21, descriptorIndex := 22, attributes := #[] }, { accessFlags := 2, nameIndex := 25, descriptorIndex := 26, attributes := #[] }, { accessFlags := 26, nameIndex := 1116, descriptorIndex := 1117, attributes := #[] }, { accessFlags := 24, nameIndex := 40, descriptorIndex := 26, attributes := #[] }, { accessFlags := 26, nameIndex := 1101, descriptorIndex := 1102, attributes := #[] }, { accessFlags := 26, nameIndex := 1121, descriptorIndex := 1122, attributes := #[] }, { accessFlags := 25, nameIndex := 599, descriptorIndex := 600, attributes := #[] }, { accessFlags := 24, nameIndex := 1125, descriptorIndex := 18, attributes := #[] }, { accessFlags := 24, nameIndex := 1127, descriptorIndex := 18, attributes := #[] }])
  fields := #[{ name := "value", type := (.array .byte), accessFlags := 18, slot := 0, constantValue := 0 }, { name := "coder", type := .byte, accessFlags := 18, slot := 1, constantValue := 0 }, { name := "hash", type := .int, accessFlags := 2, slot := 2, constantValue := 0 }, { name := "hashIsZero", type := .boolean, accessFlags := 2, slot := 3, constantValue := 0 }, { name := "serialVersionUID", type := .long, accessFlags := 26, slot := 0, constantValue := 0 }, { name := "COMPACT_STRINGS", type := .boolean, accessFlags := 24, slot := 1, constantValue := 0 }, { name := "serialPersistentFields", type := (.array (.object "java/io/ObjectStreamField")), accessFlags := 26, slot := 2, constantValue := 0 }, { name := "REPL", type := .char, accessFlags := 26, slot := 3, constantValue := 0 }, { name := "CASE_INSENSITIVE_ORDER", type := (.object "java/util/Comparator"), accessFlags := 25, slot := 4, constantValue := 0 }, { name := "LATIN1", type := .byte, accessFlags := 24, slot := 5, constantValue := 0 }, { name := "UTF16", type := .byte, accessFlags := 24, slot := 6, constantValue := 0 }]
  methods := #[k7m0, k7m1, k7m2]
  instanceTypes := #[(.array .byte), .byte, .int, .boolean]
  staticTypes := #[.long, .boolean, (.array (.object "java/io/ObjectStreamField")), .char, (.object "java/util/Comparator"), .byte, .byte]
  resolved := Array.replicate 1451 none
  statics := some 0 }

def pool8 : Array CpInfo := pool [(4, .class_ 6), (1, u "java/lang/Object"), (0, u "<init>"), (0, u "()V"), (5, .class_ 16), (1, u "java/lang/StringLatin1"), (73, u "canEncode"), (14, u "(C)Z"), (15, u "$assertionsDisabled"), (0, u "Z"), (98, .class_ 223), (1, u "java/lang/StringLatin1$LinesSpliterator"), (156, u "toBytes"), (1, u "(C)[B"), (7, .class_ 391), (0, u "java/lang/StringLatin1$CharsSpliterator")] 3

def k8m0 : Method := { name := "<init>", desc := "()V", sig := { parameters := [], returnType := none }, accessFlags := 0, code := none }
def k8c1 : Code := { maxStack := 2, maxLocals := 1, code := jdk_43_method_3_code, exceptionTable := #[], attributes := #[] }
def k8m1 : Method := { name := "canEncode", desc := "(C)Z", sig := { parameters := [.char], returnType := some .boolean }, accessFlags := 9, code := some k8c1 }
def k8c2 : Code := { maxStack := 4, maxLocals := 1, code := jdk_43_method_46_code, exceptionTable := #[], attributes := #[] }
def k8m2 : Method := { name := "toBytes", desc := "(C)[B", sig := { parameters := [.char], returnType := some (.array .byte) }, accessFlags := 9, code := some k8c2 }
/-- java/lang/StringLatin1 -/
def k8 : Class := { plain "java/lang/StringLatin1" (some 0) with
  accessFlags := 48
  interfaces := #[]
  cf := some (fileOf pool8 14 #[.nestMembers #[390, 221]] #[{ accessFlags := 0, nameIndex := 7, descriptorIndex := 8, attributes := #[] }, { accessFlags := 9, nameIndex := 90, descriptorIndex := 105, attributes := #[] }, { accessFlags := 9, nameIndex := 380, descriptorIndex := 382, attributes := #[] }] 48 4 #[] #[{ accessFlags := 4120, nameIndex := 121, descriptorIndex := 122, attributes := #[] }])
  fields := #[{ name := "$assertionsDisabled", type := .boolean, accessFlags := 4120, slot := 0, constantValue := 0 }]
  methods := #[k8m0, k8m1, k8m2]
  instanceTypes := #[]
  staticTypes := #[.boolean]
  resolved := Array.replicate 395 none
  statics := none }

def pool9 : Array CpInfo := pool [(1, .methodref 2 3), (0, .class_ 4), (0, .nameAndType 5 6), (0, u "java/lang/Object"), (0, u "<init>"), (0, u "()V"), (0, .class_ 8), (0, u "java/lang/Record")] 13

def k9c0 : Code := { maxStack := 1, maxLocals := 1, code := jdk_30_method_1_code, exceptionTable := #[], attributes := #[] }
def k9m0 : Method := { name := "<init>", desc := "()V", sig := { parameters := [], returnType := none }, accessFlags := 4, code := some k9c0 }
/-- java/lang/Record -/
def k9 : Class := { plain "java/lang/Record" (some 0) with
  accessFlags := 1057
  interfaces := #[]
  cf := some (fileOf pool9 7 #[] #[{ accessFlags := 4, nameIndex := 5, descriptorIndex := 6, attributes := #[] }] 1057 2 #[] #[])
  fields := #[]
  methods := #[k9m0]
  instanceTypes := #[]
  staticTypes := #[]
  resolved := Array.replicate 22 none
  statics := none }

def pool10 : Array CpInfo := pool [(1, .methodref 2 3), (0, .class_ 4), (0, .nameAndType 5 6), (0, u "java/lang/Record"), (0, u "<init>"), (0, u "()V"), (0, .fieldref 8 9), (0, .class_ 10), (0, .nameAndType 11 12), (0, u "com/example/precision/precision/models/Uncertainty$TopicUncertainty"), (0, u "topic"), (0, u "Ljava/lang/String;"), (0, .fieldref 8 14), (0, .nameAndType 15 16), (0, u "bits"), (0, u "D"), (0, .fieldref 8 18), (0, .nameAndType 19 16), (0, u "maximum"), (0, .double 4636737291354636288), (13, u "(Ljava/lang/String;DD)V"), (3, u "dropPercent"), (0, u "()D"), (7, .class_ 48), (0, u "com/example/precision/precision/models/Uncertainty")] 21

def k10c0 : Code := { maxStack := 3, maxLocals := 6, code := prog_26_method_1_code, exceptionTable := #[], attributes := #[] }
def k10m0 : Method := { name := "<init>", desc := "(Ljava/lang/String;DD)V", sig := { parameters := [(.object "java/lang/String"), .double, .double], returnType := none }, accessFlags := 1, code := some k10c0 }
def k10c1 : Code := { maxStack := 6, maxLocals := 1, code := prog_26_method_2_code, exceptionTable := #[], attributes := #[] }
def k10m1 : Method := { name := "dropPercent", desc := "()D", sig := { parameters := [], returnType := some .double }, accessFlags := 1, code := some k10c1 }
/-- com/example/precision/precision/models/Uncertainty$TopicUncertainty -/
def k10 : Class := { plain "com/example/precision/precision/models/Uncertainty$TopicUncertainty" (some 9) with
  accessFlags := 49
  interfaces := #[]
  cf := some (fileOf pool10 8 #[.nestHost 47] #[{ accessFlags := 1, nameIndex := 5, descriptorIndex := 34, attributes := #[] }, { accessFlags := 1, nameIndex := 38, descriptorIndex := 39, attributes := #[] }] 49 2 #[] #[{ accessFlags := 18, nameIndex := 11, descriptorIndex := 12, attributes := #[] }, { accessFlags := 18, nameIndex := 15, descriptorIndex := 16, attributes := #[] }, { accessFlags := 18, nameIndex := 19, descriptorIndex := 16, attributes := #[] }])
  fields := #[{ name := "topic", type := (.object "java/lang/String"), accessFlags := 18, slot := 0, constantValue := 0 }, { name := "bits", type := .double, accessFlags := 18, slot := 1, constantValue := 0 }, { name := "maximum", type := .double, accessFlags := 18, slot := 2, constantValue := 0 }]
  methods := #[k10m0, k10m1]
  instanceTypes := #[(.object "java/lang/String"), .double, .double]
  staticTypes := #[]
  resolved := Array.replicate 70 none
  statics := none }

def pool11 : Array CpInfo := pool [(2, .class_ 4), (1, u "java/lang/Object"), (0, u "<init>"), (0, u "()V"), (17, .class_ 26), (1, u "jdk/internal/util/Preconditions"), (28, .class_ 56), (0, u "jdk/internal/util/Preconditions$4"), (57, .class_ 115), (0, u "jdk/internal/util/Preconditions$1"), (7, u "SIOOBE_FORMATTER"), (0, u "Ljava/util/function/BiFunction;"), (0, .class_ 126), (0, u "jdk/internal/util/Preconditions$2"), (3, u "AIOOBE_FORMATTER"), (0, .class_ 132), (0, u "jdk/internal/util/Preconditions$3"), (3, u "IOOBE_FORMATTER")] 57

def k11m0 : Method := { name := "<init>", desc := "()V", sig := { parameters := [], returnType := none }, accessFlags := 1, code := none }
/-- jdk/internal/util/Preconditions -/
def k11 : Class := { plain "jdk/internal/util/Preconditions" (some 0) with
  accessFlags := 33
  interfaces := #[]
  cf := some (fileOf pool11 24 #[.nestMembers #[55, 131, 125, 114]] #[{ accessFlags := 1, nameIndex := 5, descriptorIndex := 6, attributes := #[] }] 33 2 #[] #[{ accessFlags := 25, nameIndex := 123, descriptorIndex := 124, attributes := #[] }, { accessFlags := 25, nameIndex := 130, descriptorIndex := 124, attributes := #[] }, { accessFlags := 25, nameIndex := 136, descriptorIndex := 124, attributes := #[] }])
  fields := #[{ name := "SIOOBE_FORMATTER", type := (.object "java/util/function/BiFunction"), accessFlags := 25, slot := 0, constantValue := 0 }, { name := "AIOOBE_FORMATTER", type := (.object "java/util/function/BiFunction"), accessFlags := 25, slot := 1, constantValue := 0 }, { name := "IOOBE_FORMATTER", type := (.object "java/util/function/BiFunction"), accessFlags := 25, slot := 2, constantValue := 0 }]
  methods := #[k11m0]
  instanceTypes := #[]
  staticTypes := #[(.object "java/util/function/BiFunction"), (.object "java/util/function/BiFunction"), (.object "java/util/function/BiFunction")]
  resolved := Array.replicate 194 none
  statics := some 1 }

def pool12 : Array CpInfo := pool [(9, u "<init>"), (6, .class_ 18), (1, u "java/lang/Object"), (0, u "()V"), (1, .class_ 23), (1, u "jdk/internal/util/ArraysSupport"), (0, u "LOG2_ARRAY_LONG_INDEX_SCALE"), (0, u "I"), (2, u "U"), (0, u "Ljdk/internal/misc/Unsafe;"), (8, u "BIG_ENDIAN"), (0, u "Z"), (8, u "LOG2_BYTE_BIT_SIZE"), (4, u "LOG2_ARRAY_INT_INDEX_SCALE"), (54, u "JLA"), (0, u "Ljdk/internal/access/JavaLangAccess;"), (11, u "LOG2_ARRAY_BOOLEAN_INDEX_SCALE"), (9, u "LOG2_ARRAY_BYTE_INDEX_SCALE"), (5, u "LOG2_ARRAY_CHAR_INDEX_SCALE"), (5, u "LOG2_ARRAY_SHORT_INDEX_SCALE"), (18, u "LOG2_ARRAY_FLOAT_INDEX_SCALE"), (24, u "LOG2_ARRAY_DOUBLE_INDEX_SCALE"), (89, u "T_BOOLEAN"), (2, u "T_CHAR"), (1, u "T_FLOAT"), (1, u "T_DOUBLE"), (1, u "T_BYTE"), (1, u "T_SHORT"), (1, u "T_INT"), (1, u "T_LONG"), (1, u "SOFT_MAX_ARRAY_LENGTH")] 83

def k12m0 : Method := { name := "<init>", desc := "()V", sig := { parameters := [], returnType := none }, accessFlags := 2, code := none }
/-- jdk/internal/util/ArraysSupport -/
def k12 : Class := { plain "jdk/internal/util/ArraysSupport" (some 0) with
  accessFlags := 33
  interfaces := #[]
  cf := some (fileOf pool12 21 #[] #[{ accessFlags := 2, nameIndex := 9, descriptorIndex := 19, attributes := #[] }] 33 16 #[] #[{ accessFlags := 24, nameIndex := 28, descriptorIndex := 29, attributes := #[] }, { accessFlags := 26, nameIndex := 38, descriptorIndex := 39, attributes := #[] }, { accessFlags := 25, nameIndex := 121, descriptorIndex := 25, attributes := #[] }, { accessFlags := 25, nameIndex := 131, descriptorIndex := 25, attributes := #[] }, { accessFlags := 25, nameIndex := 137, descriptorIndex := 25, attributes := #[] }, { accessFlags := 25, nameIndex := 143, descriptorIndex := 25, attributes := #[] }, { accessFlags := 25, nameIndex := 53, descriptorIndex := 25, attributes := #[] }, { accessFlags := 25, nameIndex := 24, descriptorIndex := 25, attributes := #[] }, { accessFlags := 25, nameIndex := 162, descriptorIndex := 25, attributes := #[] }, { accessFlags := 25, nameIndex := 187, descriptorIndex := 25, attributes := #[] }, { accessFlags := 26, nameIndex := 48, descriptorIndex := 25, attributes := #[] }, { accessFlags := 25, nameIndex := 277, descriptorIndex := 25, attributes := #[] }, { accessFlags := 25, nameIndex := 280, descriptorIndex := 25, attributes := #[] }, { accessFlags := 25, nameIndex := 282, descriptorIndex := 25, attributes := #[] }, { accessFlags := 25, nameIndex := 284, descriptorIndex := 25, attributes := #[] }, { accessFlags := 25, nameIndex := 286, descriptorIndex := 25, attributes := #[] }, { accessFlags := 25, nameIndex := 288, descriptorIndex := 25, attributes := #[] }, { accessFlags := 25, nameIndex := 290, descriptorIndex := 25, attributes := #[] }, { accessFlags := 25, nameIndex := 292, descriptorIndex := 25, attributes := #[] }, { accessFlags := 26, nameIndex := 108, descriptorIndex := 109, attributes := #[] }, { accessFlags := 25, nameIndex := 294, descriptorIndex := 25, attributes := #[] }])
  fields := #[{ name := "U", type := (.object "jdk/internal/misc/Unsafe"), accessFlags := 24, slot := 0, constantValue := 0 }, { name := "BIG_ENDIAN", type := .boolean, accessFlags := 26, slot := 1, constantValue := 0 }, { name := "LOG2_ARRAY_BOOLEAN_INDEX_SCALE", type := .int, accessFlags := 25, slot := 2, constantValue := 0 }, { name := "LOG2_ARRAY_BYTE_INDEX_SCALE", type := .int, accessFlags := 25, slot := 3, constantValue := 0 }, { name := "LOG2_ARRAY_CHAR_INDEX_SCALE", type := .int, accessFlags := 25, slot := 4, constantValue := 0 }, { name := "LOG2_ARRAY_SHORT_INDEX_SCALE", type := .int, accessFlags := 25, slot := 5, constantValue := 0 }, { name := "LOG2_ARRAY_INT_INDEX_SCALE", type := .int, accessFlags := 25, slot := 6, constantValue := 0 }, { name := "LOG2_ARRAY_LONG_INDEX_SCALE", type := .int, accessFlags := 25, slot := 7, constantValue := 0 }, { name := "LOG2_ARRAY_FLOAT_INDEX_SCALE", type := .int, accessFlags := 25, slot := 8, constantValue := 0 }, { name := "LOG2_ARRAY_DOUBLE_INDEX_SCALE", type := .int, accessFlags := 25, slot := 9, constantValue := 0 }, { name := "LOG2_BYTE_BIT_SIZE", type := .int, accessFlags := 26, slot := 10, constantValue := 0 }, { name := "T_BOOLEAN", type := .int, accessFlags := 25, slot := 11, constantValue := 0 }, { name := "T_CHAR", type := .int, accessFlags := 25, slot := 12, constantValue := 0 }, { name := "T_FLOAT", type := .int, accessFlags := 25, slot := 13, constantValue := 0 }, { name := "T_DOUBLE", type := .int, accessFlags := 25, slot := 14, constantValue := 0 }, { name := "T_BYTE", type := .int, accessFlags := 25, slot := 15, constantValue := 0 }, { name := "T_SHORT", type := .int, accessFlags := 25, slot := 16, constantValue := 0 }, { name := "T_INT", type := .int, accessFlags := 25, slot := 17, constantValue := 0 }, { name := "T_LONG", type := .int, accessFlags := 25, slot := 18, constantValue := 0 }, { name := "JLA", type := (.object "jdk/internal/access/JavaLangAccess"), accessFlags := 26, slot := 19, constantValue := 0 }, { name := "SOFT_MAX_ARRAY_LENGTH", type := .int, accessFlags := 25, slot := 20, constantValue := 0 }]
  methods := #[k12m0]
  instanceTypes := #[]
  staticTypes := #[(.object "jdk/internal/misc/Unsafe"), .boolean, .int, .int, .int, .int, .int, .int, .int, .int, .int, .int, .int, .int, .int, .int, .int, .int, .int, (.object "jdk/internal/access/JavaLangAccess"), .int]
  resolved := Array.replicate 378 none
  statics := none }

def pool13 : Array CpInfo := pool [(1, u "java/lang/Cloneable"), (0, .class_ 1), (0, u "java/lang/Object"), (0, .class_ 3)] 3

/-- java/lang/Cloneable -/
def k13 : Class := { plain "java/lang/Cloneable" (some 0) with
  accessFlags := 1537
  interfaces := #[]
  cf := some (fileOf pool13 2 #[] #[] 1537 4 #[] #[])
  fields := #[]
  methods := #[]
  instanceTypes := #[]
  staticTypes := #[]
  resolved := Array.replicate 8 none
  statics := none }

/-- the primitive byte -/
def k14 : Class := { plain "byte" none with kind := .primitive 'B', accessFlags := 0x411 }
/-- [B -/
def k15 : Class := { plain "[B" (some 0) with kind := .array 14 .byte, interfaces := #[13, 2], accessFlags := 1041 }

def heap : Heap := #[{ cls := 7, slots := #[.long 0, .int 1, .null, .int 0, .null, .int 0, .int 0], vm := .statics 7 },
  { cls := 11, slots := #[.null, .null, .null], vm := .statics 11 }]
def classes : Array Class := #[k0, k1, k2, k3, k4, k5, k6, k7, k8, k9, k10, k11, k12, k13, k14, k15]
def interned : List (Array UInt16 × Addr) := []
def slotsUsed : Nat := 10
def theMethod : MethodId := ⟨1, 1⟩
def args0 : Array Value := #[.int 5, .int 6, .int 3, .int 5]
def aboutOver (below : List Frame) : State where
  vm := { classes := classes, interned := interned.toArray }
  heap := heap
  slotsUsed := slotsUsed
  threads := #[{ frames := .invoking theMethod args0 :: below }]
def below0 : List Frame := [.native { method := ⟨0, 0⟩, args := #[] }]
def about1 : State := aboutOver below0
def p0 : Program := .bare "" "" ""
def e0 : Env := launch0.env 0 0 0
theorem w_frames : about1.frames = Frame.invoking theMethod args0 :: below0 := rfl
set_option maxRecDepth 65536 in
theorem w_args : argsFit about1.vm theMethod args0 = true := by decide +kernel
set_option maxRecDepth 65536 in
theorem w_heap : heapFits about1 = true := by decide +kernel
set_option maxRecDepth 65536 in
theorem w_runnable : about1.curStatus? = some .runnable := by decide +kernel
set_option maxRecDepth 65536 in
theorem w_alone : about1.alone = true := by decide +kernel
set_option maxRecDepth 65536 in
theorem w_named : about1.methodNamed? x = some theMethod := by decide +kernel
set_option maxRecDepth 65536 in
theorem w_hears : about1.hears theMethod below0 = true := by decide +kernel
set_option maxRecDepth 65536 in
theorem w_ripe : about1.ripe theMethod args0 below0 = true := by decide +kernel
theorem w_running : about1.status = .running := rfl
set_option maxRecDepth 65536 in
theorem w_room : about1.hasRoom e0.platform room_1 = true :=
  launch0.hasRoom_least _ room_1 (by decide +kernel) (by decide +kernel) (by decide +kernel) (by decide +kernel) (by decide +kernel) (by decide +kernel)
theorem allAtoms_all (ts : List Jvm.Cond) (a : Array Jvm.Value) (st : Jvm.State) : (allAtoms ts).before a st = ts.all (fun c => c.before a st) := by
  induction ts with
  | nil => rfl
  | cons c t ih =>
    show (Jvm.Cond.and c (allAtoms t)).before a st = _
    rw [Jvm.Cond.before_and, ih, List.all_cons]
def words1 : List Jvm.Cond := Jvm.Cond.code x code maxLocals ret :: tables_1
/-- a 'code' word, met by the world's own term for the bytes: nothing is compared byte by byte -/
theorem code_word {y : MethodName} {bytes : ByteArray} {mx : Nat} {rt : Option FieldType} {a : Array Value} {s : State} {m : MethodId} {meth : Method} {c : Code} (h1 : s.methodNamed? y = some m) (h2 : s.vm.method? m = some meth) (h3 : meth.code = some c) (h4 : c.code = bytes)
    (h5 : (c.maxLocals == mx && c.exceptionTable.isEmpty && decide (c.maxStack ≤ mostOperands) && decide (meth.sig.returnType = rt) && !meth.locks && decide (parseMethodDescriptor y.desc = some meth.sig)) = true) : (Jvm.Cond.code y bytes mx rt).before a s = true := by
  simp only [Bool.and_eq_true, beq_iff_eq, Bool.not_eq_true', decide_eq_true_eq] at h5
  obtain ⟨⟨⟨⟨⟨g1, g2⟩, g3⟩, g4⟩, g5⟩, g6⟩ := h5
  simp [Cond.before, Cond.holds, Cond.value, h1, h2, h3, h4, g1, g2, g3, g4, g5, g6]
def isCode : Jvm.Cond → Bool
  | .code _ _ _ _ => true
  | _ => false
theorem all_split {L : List Jvm.Cond} {P : Jvm.Cond → Bool} (h1 : L.all (fun c => isCode c || P c) = true) (h2 : ∀ c ∈ L.filter isCode, P c = true) : L.all P = true := by
  refine List.all_eq_true.mpr fun c hc => ?_
  have h := List.all_eq_true.mp h1 c hc
  rcases Bool.eq_false_or_eq_true (isCode c) with hi | hi
  · exact h2 c (List.mem_filter.mpr ⟨hc, hi⟩)
  · simpa [hi] using h
set_option maxRecDepth 65536 in
theorem w_c0 : (Jvm.Cond.code x code maxLocals ret).before args0 about1 = true := code_word (m := ⟨1, 1⟩) (meth := k1m1) (c := k1c1) (by decide +kernel) rfl rfl rfl (by decide +kernel)
set_option maxRecDepth 65536 in
theorem w_c1 : (Jvm.Cond.code ({ cls := "java/lang/String", name := "valueOf", desc := "(C)Ljava/lang/String;" } : Jvm.MethodName) jdk_42_method_139_code (1 : Nat) (Option.some (Jvm.ClassFile.FieldType.object "java/lang/String"))).before args0 about1 = true := code_word (m := ⟨7, 1⟩) (meth := k7m1) (c := k7c1) (by decide +kernel) rfl rfl rfl (by decide +kernel)
set_option maxRecDepth 65536 in
theorem w_c2 : (Jvm.Cond.code ({ cls := "java/lang/StringLatin1", name := "canEncode", desc := "(C)Z" } : Jvm.MethodName) jdk_43_method_3_code (1 : Nat) (Option.some Jvm.ClassFile.FieldType.boolean)).before args0 about1 = true := code_word (m := ⟨8, 1⟩) (meth := k8m1) (c := k8c1) (by decide +kernel) rfl rfl rfl (by decide +kernel)
set_option maxRecDepth 65536 in
theorem w_c3 : (Jvm.Cond.code ({ cls := "java/lang/StringLatin1", name := "toBytes", desc := "(C)[B" } : Jvm.MethodName) jdk_43_method_46_code (1 : Nat) (Option.some (Jvm.ClassFile.FieldType.array Jvm.ClassFile.FieldType.byte))).before args0 about1 = true := code_word (m := ⟨8, 2⟩) (meth := k8m2) (c := k8c2) (by decide +kernel) rfl rfl rfl (by decide +kernel)
set_option maxRecDepth 65536 in
theorem w_c4 : (Jvm.Cond.code ({ cls := "java/lang/String", name := "<init>", desc := "([BB)V" } : Jvm.MethodName) jdk_42_method_151_code (3 : Nat) (Option.none : Option Jvm.ClassFile.FieldType)).before args0 about1 = true := code_word (m := ⟨7, 2⟩) (meth := k7m2) (c := k7c2) (by decide +kernel) rfl rfl rfl (by decide +kernel)
set_option maxRecDepth 65536 in
theorem w_c5 : (Jvm.Cond.code ({ cls := "java/lang/Object", name := "<init>", desc := "()V" } : Jvm.MethodName) object_method_1_code (1 : Nat) (Option.none : Option Jvm.ClassFile.FieldType)).before args0 about1 = true := code_word (m := ⟨0, 0⟩) (meth := k0m0) (c := k0c0) (by decide +kernel) rfl rfl rfl (by decide +kernel)
set_option maxRecDepth 65536 in
theorem w_c6 : (Jvm.Cond.code ({ cls := "com/example/precision/precision/models/Uncertainty$TopicUncertainty", name := "<init>", desc := "(Ljava/lang/String;DD)V" } : Jvm.MethodName) prog_26_method_1_code (6 : Nat) (Option.none : Option Jvm.ClassFile.FieldType)).before args0 about1 = true := code_word (m := ⟨10, 0⟩) (meth := k10m0) (c := k10c0) (by decide +kernel) rfl rfl rfl (by decide +kernel)
set_option maxRecDepth 65536 in
theorem w_c7 : (Jvm.Cond.code ({ cls := "java/lang/Record", name := "<init>", desc := "()V" } : Jvm.MethodName) jdk_30_method_1_code (1 : Nat) (Option.none : Option Jvm.ClassFile.FieldType)).before args0 about1 = true := code_word (m := ⟨9, 0⟩) (meth := k9m0) (c := k9c0) (by decide +kernel) rfl rfl rfl (by decide +kernel)
set_option maxRecDepth 65536 in
theorem w_c8 : (Jvm.Cond.code ({ cls := "com/example/precision/precision/models/Uncertainty$TopicUncertainty", name := "dropPercent", desc := "()D" } : Jvm.MethodName) prog_26_method_2_code (1 : Nat) (Option.some Jvm.ClassFile.FieldType.double)).before args0 about1 = true := code_word (m := ⟨10, 1⟩) (meth := k10m1) (c := k10c1) (by decide +kernel) rfl rfl rfl (by decide +kernel)
def codes1 : List Jvm.Cond := [Jvm.Cond.code x code maxLocals ret, Jvm.Cond.code ({ cls := "java/lang/String", name := "valueOf", desc := "(C)Ljava/lang/String;" } : Jvm.MethodName) jdk_42_method_139_code (1 : Nat) (Option.some (Jvm.ClassFile.FieldType.object "java/lang/String")), Jvm.Cond.code ({ cls := "java/lang/StringLatin1", name := "canEncode", desc := "(C)Z" } : Jvm.MethodName) jdk_43_method_3_code (1 : Nat) (Option.some Jvm.ClassFile.FieldType.boolean), Jvm.Cond.code ({ cls := "java/lang/StringLatin1", name := "toBytes", desc := "(C)[B" } : Jvm.MethodName) jdk_43_method_46_code (1 : Nat) (Option.some (Jvm.ClassFile.FieldType.array Jvm.ClassFile.FieldType.byte)), Jvm.Cond.code ({ cls := "java/lang/String", name := "<init>", desc := "([BB)V" } : Jvm.MethodName) jdk_42_method_151_code (3 : Nat) (Option.none : Option Jvm.ClassFile.FieldType), Jvm.Cond.code ({ cls := "java/lang/Object", name := "<init>", desc := "()V" } : Jvm.MethodName) object_method_1_code (1 : Nat) (Option.none : Option Jvm.ClassFile.FieldType), Jvm.Cond.code ({ cls := "com/example/precision/precision/models/Uncertainty$TopicUncertainty", name := "<init>", desc := "(Ljava/lang/String;DD)V" } : Jvm.MethodName) prog_26_method_1_code (6 : Nat) (Option.none : Option Jvm.ClassFile.FieldType), Jvm.Cond.code ({ cls := "java/lang/Record", name := "<init>", desc := "()V" } : Jvm.MethodName) jdk_30_method_1_code (1 : Nat) (Option.none : Option Jvm.ClassFile.FieldType), Jvm.Cond.code ({ cls := "com/example/precision/precision/models/Uncertainty$TopicUncertainty", name := "dropPercent", desc := "()D" } : Jvm.MethodName) prog_26_method_2_code (1 : Nat) (Option.some Jvm.ClassFile.FieldType.double)]
set_option maxRecDepth 65536 in
theorem codes_eq : words1.filter isCode = codes1 := rfl
theorem w_codes : ∀ c ∈ words1.filter isCode, c.before args0 about1 = true := by
  rw [codes_eq]
  intro c hc
  simp only [codes1, List.mem_cons, List.not_mem_nil, or_false] at hc
  rcases hc with rfl | rfl | rfl | rfl | rfl | rfl | rfl | rfl | rfl
  · exact w_c0
  · exact w_c1
  · exact w_c2
  · exact w_c3
  · exact w_c4
  · exact w_c5
  · exact w_c6
  · exact w_c7
  · exact w_c8
set_option maxRecDepth 65536 in
theorem w_t1 : (words1.take 24).all (fun c => isCode c || c.before args0 about1) = true := by decide +kernel
set_option maxRecDepth 65536 in
theorem w_t2 : ((words1.drop 24).take 24).all (fun c => isCode c || c.before args0 about1) = true := by decide +kernel
set_option maxRecDepth 65536 in
theorem w_t3 : ((words1.drop 24).drop 24).all (fun c => isCode c || c.before args0 about1) = true := by decide +kernel
theorem w_tables : (allAtoms (Jvm.Cond.code x code maxLocals ret :: tables_1)).before args0 about1 = true := by
  rw [allAtoms_all]
  show words1.all (fun c => c.before args0 about1) = true
  refine all_split ?_ w_codes
  rw [← List.take_append_drop 24 words1, List.all_append, w_t1, ← List.take_append_drop 24 (words1.drop 24), List.all_append, w_t2, w_t3]
  rfl
set_option maxRecDepth 65536 in
theorem w_rest : rest_1_c.before args0 about1 = true := by decide +kernel
set_option maxRecDepth 65536 in
theorem w_case : (Jvm.Cond.and given_1 narrow_1).before args0 about1 = true := by decide +kernel
theorem w_applies : (headSpec (Jvm.Cond.code x code maxLocals ret :: tables_1) room_1).applies x e0.platform about1 = true :=
  (Spec.applies_iff w_frames).mpr ⟨w_running, w_runnable, w_alone, w_named, w_hears, w_ripe, w_room, w_tables⟩
theorem atStart : AtStart classFile x code maxLocals ret World_1 tables_1 room_1 Calls_1 rest_1 Pre_1 launch0 p0 e0 about1 theMethod args0 below0 :=
  ⟨lists_1, trivial, launch0.admits_env _ _ _, launch0.least_env, fairChoices_fair.cas, fairChoices_fair.clock, w_frames, w_args, w_heap, w_applies, trivial, w_rest, w_case⟩
end start1
theorem witness_1 : WitnessClaimed_1 := ⟨start1.p0, start1.e0, start1.about1, start1.theMethod, start1.args0, start1.below0, start1.atStart⟩
end Jvm.Pilot.@@N@@
