import JvmDerived
import JvmDerived.Pilot.@@N@@Statement
import JvmDerived.Pilot.@@N@@Code
set_option linter.unusedVariables false
set_option linter.unusedSimpArgs false
namespace Jvm.RoadKit
open Sem ClassFile Op Lib Jvm.Stand Jvm.Free Jvm.LawKit
section New
variable {p : Program} {l : Launch} {e : Env} {R : Room} {s : State} {m : MethodId} {args : Array Value} {below : List Frame} {meth : Method} {c : Code} {T : State} {locs : List Loc} {cells slots : Nat}
theorem retI (X : Stand p l e R s m args below meth c T locs cells slots) (hx : p.tables.exec = Jvm.exec) {pc : Nat} {Ls : Array Slot} {z : Int32} {rest : List Value} (hret : meth.sig.returnType = some .int) (hd : decode c.code pc = .ok (.ireturn, 1)) {fs : List Frame}
    (hl : ∀ (f : JFrame) (acts : List Action), f.method = m → f.locked = none → f.entered = [] → (doReturn e (T.setTop f) acts (some (.int z))).1 = T.setFrames fs) : Steps p.tables e below (T.setTop (mkF m pc Ls (.int z :: rest))) (T.setFrames fs) := by
  have hm' : T.vm.method? m = some meth := X.method'
  have hn : narrow .int (.int z) = .int z := rfl
  show Steps p.tables e below (T.setTop { method := m, pc := pc, locals := Ls, stack := _ :: rest, locked := none }) _
  jvm_step X.here [X.here.top, hx, hd, hm', hret, hn]
  first | (intro acts; rw [hl _ acts rfl rfl rfl]) | rw [hl _ _ rfl rfl rfl]
  exact Steps.refl _
end New
end Jvm.RoadKit
namespace Jvm.Pilot.@@N@@
open Jvm Jvm.ClassFile Sem Op Lib Jvm.Free Jvm.Stand Jvm.LawKit Jvm.RoadKit Bundle Jvm.Pilot.@@N@@.Jvm.D
def Qv (val : Option Value) (h0 : Heap) (n0 : Nat) (v : Option Value) (h : Heap) (L : List Loc) : Prop := v = val ∧ Fr n0 L ∧ h = h0
def Ql (val : Option Value) (n0 : Nat) (v : Option Value) (L : List Loc) : Prop := v = val ∧ Fr n0 L
abbrev own_rem (x y : Int32) : Int32 := x % y
theorem own_iremE {p : Program} {l : Launch} {e : Env} {R : Room} {s : State} {m : MethodId} {args : Array Value} {below : List Frame} {meth : Method} {c : Code} {T : State} {locs : List Loc} {cells slots : Nat} {g : JFrame} {target : State} (X : Stand p l e R s m args below meth c T locs cells slots) (hx : p.tables.exec = Jvm.exec) (hg : g.method = m) {x y z : Int32} {rest : List Value} (hd : decode c.code g.pc = .ok (.irem, 1)) (hs : g.stack = .int y :: .int x :: rest) (hy : y ≠ 0) (hz : own_rem x y = z)
    (hr : Steps p.tables e below (T.setTop { g with pc := g.pc + 1, stack := .int z :: rest }) target) : Steps p.tables e below (T.setTop g) target := by
  subst hz
  exact iremM X hx hg hd hs hy hr
theorem own_rem4 (p : Int32) : own_rem (p &&& 2147483647) 4 = 0 ∨ own_rem (p &&& 2147483647) 4 = 1 ∨ own_rem (p &&& 2147483647) 4 = 2 ∨ own_rem (p &&& 2147483647) 4 = 3 := by
  have h0 : 0 ≤ (p &&& 2147483647).toInt := by
    have : (p &&& 2147483647).toInt = (p.toBitVec &&& 2147483647#32).toInt := rfl
    rw [this, BitVec.toInt_eq_toNat_cond]
    have h : (p.toBitVec &&& 2147483647#32).toNat ≤ 2147483647 := by
      rw [BitVec.toNat_and]; exact Nat.and_le_right
    split <;> omega
  have h1 : (own_rem (p &&& 2147483647) 4).toInt = (p &&& 2147483647).toInt.tmod 4 := Int32.toInt_mod _ _
  rw [Int.tmod_eq_emod_of_nonneg h0] at h1
  generalize own_rem (p &&& 2147483647) 4 = z at h1
  have h2 : z.toInt = 0 ∨ z.toInt = 1 ∨ z.toInt = 2 ∨ z.toInt = 3 := by omega
  rcases h2 with h | h | h | h
  · exact Or.inl (Int32.toInt_inj.mp h)
  · exact Or.inr (Or.inl (Int32.toInt_inj.mp h))
  · exact Or.inr (Or.inr (Or.inl (Int32.toInt_inj.mp h)))
  · exact Or.inr (Or.inr (Or.inr (Int32.toInt_inj.mp h)))
theorem own_bit255 (i : Nat) : (255#32).getLsbD i = decide (i < 8) := by
  by_cases h : i < 32
  · have : ∀ j : Fin 32, (255#32).getLsbD j.val = decide (j.val < 8) := by decide
    exact this ⟨i, h⟩
  · rw [BitVec.getLsbD_of_ge _ _ (by omega)]; simp; omega
theorem own_low (z : BitVec 32) : (BitVec.signExtend 32 (BitVec.signExtend 8 (BitVec.signExtend 32 (BitVec.signExtend 8 z)))) &&& 255#32 = z &&& 255#32 := by
  apply BitVec.eq_of_getLsbD_eq
  intro i hi
  simp only [BitVec.getLsbD_and, own_bit255]
  by_cases h : i < 8
  · have e1 : ∀ w : BitVec 32, (BitVec.signExtend 32 (BitVec.signExtend 8 w)).getLsbD i = w.getLsbD i := fun w => by
      rw [BitVec.getLsbD_signExtend, BitVec.getLsbD_signExtend]
      simp [h, hi]
    rw [e1, e1]
  · simp [h]
theorem own_join (x : BitVec 32) : ((((x >>> 24 &&& 255#32) <<< 24) ||| ((x >>> 16 &&& 255#32) <<< 16)) ||| ((x >>> 8 &&& 255#32) <<< 8)) ||| (x &&& 255#32) = x := by
  apply BitVec.eq_of_getLsbD_eq
  intro i hi
  simp only [BitVec.getLsbD_or, BitVec.getLsbD_shiftLeft, BitVec.getLsbD_and, BitVec.getLsbD_ushiftRight, own_bit255]
  by_cases h1 : i < 8
  · have a1 : i < 16 := by omega
    have a2 : i < 24 := by omega
    simp [h1, a1, a2, hi]
  · by_cases h2 : i < 16
    · have a2 : i < 24 := by omega
      have b1 : i - 8 < 8 := by omega
      have b2 : 8 + (i - 8) = i := by omega
      simp [h1, h2, a2, b1, b2, hi]
    · by_cases h3 : i < 24
      · have b1 : ¬ i - 8 < 8 := by omega
        have b2 : i - 16 < 8 := by omega
        have b3 : 16 + (i - 16) = i := by omega
        simp [h1, h2, h3, b1, b2, b3, hi]
      · have b1 : ¬ i - 8 < 8 := by omega
        have b2 : ¬ i - 16 < 8 := by omega
        have b3 : i - 24 < 8 := by omega
        have b4 : 24 + (i - 24) = i := by omega
        simp [h1, h2, h3, b1, b2, b3, b4, hi]
theorem own_nb (z : Int32) : (z.toInt8.toInt32).toInt8.toInt32 &&& 255 = z &&& 255 := by
  apply Int32.toBitVec_inj.mp
  rw [Int32.toBitVec_and, Int32.toBitVec_and]
  have e1 : ∀ w : Int32, w.toInt8.toInt32.toBitVec = BitVec.signExtend 32 (BitVec.signExtend 8 w.toBitVec) := fun w => by
    simp
  rw [e1, e1]
  exact own_low z.toBitVec
theorem own_be (p1 : Int32) : ((((((((p1.toUInt32 >>> ((24 : Int32) &&& 31).toUInt32).toInt32).toInt8.toInt32).toInt8.toInt32) &&& (255 : Int32)) <<< ((24 : Int32) &&& 31)) ||| ((((((p1.toUInt32 >>> ((16 : Int32) &&& 31).toUInt32).toInt32).toInt8.toInt32).toInt8.toInt32) &&& (255 : Int32)) <<< ((16 : Int32) &&& 31))) ||| ((((((p1.toUInt32 >>> ((8 : Int32) &&& 31).toUInt32).toInt32).toInt8.toInt32).toInt8.toInt32) &&& (255 : Int32)) <<< ((8 : Int32) &&& 31))) ||| ((((p1).toInt8.toInt32).toInt8.toInt32) &&& (255 : Int32)) = p1 := by
  rw [own_nb, own_nb, own_nb, own_nb]
  apply Int32.toBitVec_inj.mp
  exact own_join p1.toBitVec
theorem d1_0 : decode prog_54_method_2_code 0 = .ok (.aload_n 0, 1) := by decide +kernel
theorem d1_1 : decode prog_54_method_2_code 1 = .ok (.iload_n 1, 1) := by decide +kernel
theorem d1_2 : decode prog_54_method_2_code 2 = .ok (.baload, 1) := by decide +kernel
theorem d1_3 : decode prog_54_method_2_code 3 = .ok (.sipush 255, 3) := by decide +kernel
theorem d1_6 : decode prog_54_method_2_code 6 = .ok (.iand, 1) := by decide +kernel
theorem d1_7 : decode prog_54_method_2_code 7 = .ok (.bipush 24, 2) := by decide +kernel
theorem d1_9 : decode prog_54_method_2_code 9 = .ok (.ishl, 1) := by decide +kernel
theorem d1_10 : decode prog_54_method_2_code 10 = .ok (.aload_n 0, 1) := by decide +kernel
theorem d1_11 : decode prog_54_method_2_code 11 = .ok (.iload_n 1, 1) := by decide +kernel
theorem d1_12 : decode prog_54_method_2_code 12 = .ok (.iconst 1, 1) := by decide +kernel
theorem d1_13 : decode prog_54_method_2_code 13 = .ok (.iadd, 1) := by decide +kernel
theorem d1_14 : decode prog_54_method_2_code 14 = .ok (.baload, 1) := by decide +kernel
theorem d1_15 : decode prog_54_method_2_code 15 = .ok (.sipush 255, 3) := by decide +kernel
theorem d1_18 : decode prog_54_method_2_code 18 = .ok (.iand, 1) := by decide +kernel
theorem d1_19 : decode prog_54_method_2_code 19 = .ok (.bipush 16, 2) := by decide +kernel
theorem d1_21 : decode prog_54_method_2_code 21 = .ok (.ishl, 1) := by decide +kernel
theorem d1_22 : decode prog_54_method_2_code 22 = .ok (.ior, 1) := by decide +kernel
theorem d1_23 : decode prog_54_method_2_code 23 = .ok (.aload_n 0, 1) := by decide +kernel
theorem d1_24 : decode prog_54_method_2_code 24 = .ok (.iload_n 1, 1) := by decide +kernel
theorem d1_25 : decode prog_54_method_2_code 25 = .ok (.iconst 2, 1) := by decide +kernel
theorem d1_26 : decode prog_54_method_2_code 26 = .ok (.iadd, 1) := by decide +kernel
theorem d1_27 : decode prog_54_method_2_code 27 = .ok (.baload, 1) := by decide +kernel
theorem d1_28 : decode prog_54_method_2_code 28 = .ok (.sipush 255, 3) := by decide +kernel
theorem d1_31 : decode prog_54_method_2_code 31 = .ok (.iand, 1) := by decide +kernel
theorem d1_32 : decode prog_54_method_2_code 32 = .ok (.bipush 8, 2) := by decide +kernel
theorem d1_34 : decode prog_54_method_2_code 34 = .ok (.ishl, 1) := by decide +kernel
theorem d1_35 : decode prog_54_method_2_code 35 = .ok (.ior, 1) := by decide +kernel
theorem d1_36 : decode prog_54_method_2_code 36 = .ok (.aload_n 0, 1) := by decide +kernel
theorem d1_37 : decode prog_54_method_2_code 37 = .ok (.iload_n 1, 1) := by decide +kernel
theorem d1_38 : decode prog_54_method_2_code 38 = .ok (.iconst 3, 1) := by decide +kernel
theorem d1_39 : decode prog_54_method_2_code 39 = .ok (.iadd, 1) := by decide +kernel
theorem d1_40 : decode prog_54_method_2_code 40 = .ok (.baload, 1) := by decide +kernel
theorem d1_41 : decode prog_54_method_2_code 41 = .ok (.sipush 255, 3) := by decide +kernel
theorem d1_44 : decode prog_54_method_2_code 44 = .ok (.iand, 1) := by decide +kernel
theorem d1_45 : decode prog_54_method_2_code 45 = .ok (.ior, 1) := by decide +kernel
theorem d1_46 : decode prog_54_method_2_code 46 = .ok (.ireturn, 1) := by decide +kernel
theorem pn_1 : plainName "com/example/telegrid/telegrid/esp3/BigEndian" = true := by first | (simp [plainName, overriddenIn]; done) | decide +kernel
theorem ef_1 (m : MethodId) (x0 : Addr) (x1 : Int32) : entryFrame m #[(.ref x0), (.int x1)] 2 = mkF m 0 #[.val (.ref x0), .val (.int x1)] [] := by first | (simp [entryFrame, mkF, argsToLocals, Value.category]; done) | rfl
set_option maxRecDepth 65536 in
set_option maxHeartbeats 40000000 in
theorem rm1 (l : Launch) (Z : State) (a0 : Array Value) (hw : ∀ d ∈ tables_1, d.before a0 Z = true) (ws : List Jvm.Cond) (a1 : Addr) (p2 : Int32) (w3 : Int32) (cl_a1 : Cell) (w4 : Int32) (w5 : Int32) (w6 : Int32) (h0 : Heap) (n0 : Nat) (Z0 : n0 ≤ h0.size) (Ar_a1 : Arr Z h0 a1 cl_a1 .byte) (hin2 : ¬ (p2 < 0 ∨ cl_a1.slots.size ≤ (p2).toNatClampNeg)) (hat2 : cl_a1.slots[(p2).toNatClampNeg]? = some (.int w3)) (hin14 : ¬ ((p2 + (1 : Int32)) < 0 ∨ cl_a1.slots.size ≤ ((p2 + (1 : Int32))).toNatClampNeg)) (hat14 : cl_a1.slots[((p2 + (1 : Int32))).toNatClampNeg]? = some (.int w4)) (hin27 : ¬ ((p2 + (2 : Int32)) < 0 ∨ cl_a1.slots.size ≤ ((p2 + (2 : Int32))).toNatClampNeg)) (hat27 : cl_a1.slots[((p2 + (2 : Int32))).toNatClampNeg]? = some (.int w5)) (hin40 : ¬ ((p2 + (3 : Int32)) < 0 ∨ cl_a1.slots.size ≤ ((p2 + (3 : Int32))).toNatClampNeg)) (hat40 : cl_a1.slots[((p2 + (3 : Int32))).toNatClampNeg]? = some (.int w6)) :
    MetFree l (⟨"com/example/telegrid/telegrid/esp3/BigEndian", "intAt", "([BI)I"⟩ : MethodName) (head1 (Jvm.Cond.code (⟨"com/example/telegrid/telegrid/esp3/BigEndian", "intAt", "([BI)I"⟩ : MethodName) prog_54_method_2_code 2 (some .int) :: ws) ({ frames := 0, cells := 0, slots := 0, locals := 0 } : Room)) (fun a U => a = #[(.ref a1), (.int p2)] ∧ Z.Warmed39 U.vm ∧ U.heap = h0) (fun _ _ _ _ _ => True) (fun _ U o U' => ∃ v L, o = .returned v ∧ Qv (some (.int (((((w3 &&& (255 : Int32)) <<< ((24 : Int32) &&& 31)) ||| ((w4 &&& (255 : Int32)) <<< ((16 : Int32) &&& 31))) ||| ((w5 &&& (255 : Int32)) <<< ((8 : Int32) &&& 31))) ||| (w6 &&& (255 : Int32))))) h0 n0 v U'.heap L ∧ FrameEnd U o U' L ({ frames := 0, cells := 0, slots := 0, locals := 0 } : Room).cells ({ frames := 0, cells := 0, slots := 0, locals := 0 } : Room).slots) := by
  refine MetFree.of_bodySF (plainFor_of_name pn_1) hisR ?_
  intro p e s m args below meth c s₁ Bd hml0 hP hK
  obtain ⟨rfl, hZ, hh⟩ := hP
  have hx := Bd.exec
  have hby := Bd.bytes
  have hml : c.maxLocals = 2 := hml0
  have hown : s.vm.findClass "com/example/telegrid/telegrid/esp3/BigEndian" = some m.cls := findClass_of_methodNamed Bd.named
  have hnm := (name_of_methodNamed Bd.named Bd.method).1
  have X0 : Stand p l e ({ frames := 0, cells := 0, slots := 0, locals := 0 } : Room) s m #[(.ref a1), (.int p2)] below meth c s₁ [] 0 0 := Stand.of_body Bd
  have e0 : s₁.heap = h0 := by rw [← hh, Bd.state]; rfl
  have N0 := Fr.nil n0
  have pre0 : ∀ t, Steps p.tables e below (s₁.setTop (mkF m 0 #[.val (.ref a1), .val (.int p2)] [])) t → Steps p.tables e below (s₁.setTop (entryFrame m #[(.ref a1), (.int p2)] 2)) t := fun t k => castTop (ef_1 m a1 p2) k
  -- 3. LAWS

  obtain ⟨fs, hr, hrun, hended, hW, hsame⟩ := X0.leave (v := some (.int (((((w3 &&& (255 : Int32)) <<< ((24 : Int32) &&& 31)) ||| ((w4 &&& (255 : Int32)) <<< ((16 : Int32) &&& 31))) ||| ((w5 &&& (255 : Int32)) <<< ((8 : Int32) &&& 31))) ||| (w6 &&& (255 : Int32))))) (fun h => by rw [Bd.returns] at h; cases h)
  refine ⟨_, _, pre0 _ ?_, hrun, hended, _, _, rfl, ?_, ⟨_, rfl⟩, hW, hsame.mono (by decide) (by decide)⟩
  -- 4. STEPS
  · show Steps p.tables e below (s₁.setTop (mkF m 0 #[.val (.ref a1), .val (.int p2)] [])) _
    refine XS.aloadN X0.here hx rfl (hb hby d1_0) rfl rfl ?_
    show Steps p.tables e below (s₁.setTop (mkF m 1 #[.val (.ref a1), .val (.int p2)] [(.ref a1)])) _
    refine XS.iloadN X0.here hx rfl (hb hby d1_1) rfl ?_
    show Steps p.tables e below (s₁.setTop (mkF m 2 #[.val (.ref a1), .val (.int p2)] [(.int p2), (.ref a1)])) _
    refine X0.baloadBytes hx (j := p2) (v := (.int w3)) (by rw [e0]; exact Ar_a1.1) (State.isArrayOf_alike hZ.alike Ar_a1.2.1) Ar_a1.2.2 hin2 hat2 (g := (mkF m 2 #[.val (.ref a1), .val (.int p2)] [(.int p2), (.ref a1)])) rfl rfl (hb hby d1_2) _ ?_
    show Steps p.tables e below (s₁.setTop (mkF m 3 #[.val (.ref a1), .val (.int p2)] [(.int w3)])) _
    refine XS.sipush X0.here hx rfl (hb hby d1_3) ?_
    show Steps p.tables e below (s₁.setTop (mkF m 6 #[.val (.ref a1), .val (.int p2)] [(.int (255 : Int32)), (.int w3)])) _
    refine XS.iand X0.here hx rfl (hb hby d1_6) rfl ?_
    show Steps p.tables e below (s₁.setTop (mkF m 7 #[.val (.ref a1), .val (.int p2)] [(.int (w3 &&& (255 : Int32)))])) _
    refine XS.bipush X0.here hx rfl (hb hby d1_7) ?_
    show Steps p.tables e below (s₁.setTop (mkF m 9 #[.val (.ref a1), .val (.int p2)] [(.int (24 : Int32)), (.int (w3 &&& (255 : Int32)))])) _
    refine XS.ishl X0.here hx rfl (hb hby d1_9) rfl ?_
    show Steps p.tables e below (s₁.setTop (mkF m 10 #[.val (.ref a1), .val (.int p2)] [(.int ((w3 &&& (255 : Int32)) <<< ((24 : Int32) &&& 31)))])) _
    refine XS.aloadN X0.here hx rfl (hb hby d1_10) rfl rfl ?_
    show Steps p.tables e below (s₁.setTop (mkF m 11 #[.val (.ref a1), .val (.int p2)] [(.ref a1), (.int ((w3 &&& (255 : Int32)) <<< ((24 : Int32) &&& 31)))])) _
    refine XS.iloadN X0.here hx rfl (hb hby d1_11) rfl ?_
    show Steps p.tables e below (s₁.setTop (mkF m 12 #[.val (.ref a1), .val (.int p2)] [(.int p2), (.ref a1), (.int ((w3 &&& (255 : Int32)) <<< ((24 : Int32) &&& 31)))])) _
    refine XS.iconst X0.here hx rfl (hb hby d1_12) ?_
    show Steps p.tables e below (s₁.setTop (mkF m 13 #[.val (.ref a1), .val (.int p2)] [(.int (1 : Int32)), (.int p2), (.ref a1), (.int ((w3 &&& (255 : Int32)) <<< ((24 : Int32) &&& 31)))])) _
    refine XS.iadd X0.here hx rfl (hb hby d1_13) rfl ?_
    show Steps p.tables e below (s₁.setTop (mkF m 14 #[.val (.ref a1), .val (.int p2)] [(.int (p2 + (1 : Int32))), (.ref a1), (.int ((w3 &&& (255 : Int32)) <<< ((24 : Int32) &&& 31)))])) _
    refine X0.baloadBytes hx (j := (p2 + (1 : Int32))) (v := (.int w4)) (by rw [e0]; exact Ar_a1.1) (State.isArrayOf_alike hZ.alike Ar_a1.2.1) Ar_a1.2.2 hin14 hat14 (g := (mkF m 14 #[.val (.ref a1), .val (.int p2)] [(.int (p2 + (1 : Int32))), (.ref a1), (.int ((w3 &&& (255 : Int32)) <<< ((24 : Int32) &&& 31)))])) rfl rfl (hb hby d1_14) _ ?_
    show Steps p.tables e below (s₁.setTop (mkF m 15 #[.val (.ref a1), .val (.int p2)] [(.int w4), (.int ((w3 &&& (255 : Int32)) <<< ((24 : Int32) &&& 31)))])) _
    refine XS.sipush X0.here hx rfl (hb hby d1_15) ?_
    show Steps p.tables e below (s₁.setTop (mkF m 18 #[.val (.ref a1), .val (.int p2)] [(.int (255 : Int32)), (.int w4), (.int ((w3 &&& (255 : Int32)) <<< ((24 : Int32) &&& 31)))])) _
    refine XS.iand X0.here hx rfl (hb hby d1_18) rfl ?_
    show Steps p.tables e below (s₁.setTop (mkF m 19 #[.val (.ref a1), .val (.int p2)] [(.int (w4 &&& (255 : Int32))), (.int ((w3 &&& (255 : Int32)) <<< ((24 : Int32) &&& 31)))])) _
    refine XS.bipush X0.here hx rfl (hb hby d1_19) ?_
    show Steps p.tables e below (s₁.setTop (mkF m 21 #[.val (.ref a1), .val (.int p2)] [(.int (16 : Int32)), (.int (w4 &&& (255 : Int32))), (.int ((w3 &&& (255 : Int32)) <<< ((24 : Int32) &&& 31)))])) _
    refine XS.ishl X0.here hx rfl (hb hby d1_21) rfl ?_
    show Steps p.tables e below (s₁.setTop (mkF m 22 #[.val (.ref a1), .val (.int p2)] [(.int ((w4 &&& (255 : Int32)) <<< ((16 : Int32) &&& 31))), (.int ((w3 &&& (255 : Int32)) <<< ((24 : Int32) &&& 31)))])) _
    refine XS.ior X0.here hx rfl (hb hby d1_22) rfl ?_
    show Steps p.tables e below (s₁.setTop (mkF m 23 #[.val (.ref a1), .val (.int p2)] [(.int (((w3 &&& (255 : Int32)) <<< ((24 : Int32) &&& 31)) ||| ((w4 &&& (255 : Int32)) <<< ((16 : Int32) &&& 31))))])) _
    refine XS.aloadN X0.here hx rfl (hb hby d1_23) rfl rfl ?_
    show Steps p.tables e below (s₁.setTop (mkF m 24 #[.val (.ref a1), .val (.int p2)] [(.ref a1), (.int (((w3 &&& (255 : Int32)) <<< ((24 : Int32) &&& 31)) ||| ((w4 &&& (255 : Int32)) <<< ((16 : Int32) &&& 31))))])) _
    refine XS.iloadN X0.here hx rfl (hb hby d1_24) rfl ?_
    show Steps p.tables e below (s₁.setTop (mkF m 25 #[.val (.ref a1), .val (.int p2)] [(.int p2), (.ref a1), (.int (((w3 &&& (255 : Int32)) <<< ((24 : Int32) &&& 31)) ||| ((w4 &&& (255 : Int32)) <<< ((16 : Int32) &&& 31))))])) _
    refine XS.iconst X0.here hx rfl (hb hby d1_25) ?_
    show Steps p.tables e below (s₁.setTop (mkF m 26 #[.val (.ref a1), .val (.int p2)] [(.int (2 : Int32)), (.int p2), (.ref a1), (.int (((w3 &&& (255 : Int32)) <<< ((24 : Int32) &&& 31)) ||| ((w4 &&& (255 : Int32)) <<< ((16 : Int32) &&& 31))))])) _
    refine XS.iadd X0.here hx rfl (hb hby d1_26) rfl ?_
    show Steps p.tables e below (s₁.setTop (mkF m 27 #[.val (.ref a1), .val (.int p2)] [(.int (p2 + (2 : Int32))), (.ref a1), (.int (((w3 &&& (255 : Int32)) <<< ((24 : Int32) &&& 31)) ||| ((w4 &&& (255 : Int32)) <<< ((16 : Int32) &&& 31))))])) _
    refine X0.baloadBytes hx (j := (p2 + (2 : Int32))) (v := (.int w5)) (by rw [e0]; exact Ar_a1.1) (State.isArrayOf_alike hZ.alike Ar_a1.2.1) Ar_a1.2.2 hin27 hat27 (g := (mkF m 27 #[.val (.ref a1), .val (.int p2)] [(.int (p2 + (2 : Int32))), (.ref a1), (.int (((w3 &&& (255 : Int32)) <<< ((24 : Int32) &&& 31)) ||| ((w4 &&& (255 : Int32)) <<< ((16 : Int32) &&& 31))))])) rfl rfl (hb hby d1_27) _ ?_
    show Steps p.tables e below (s₁.setTop (mkF m 28 #[.val (.ref a1), .val (.int p2)] [(.int w5), (.int (((w3 &&& (255 : Int32)) <<< ((24 : Int32) &&& 31)) ||| ((w4 &&& (255 : Int32)) <<< ((16 : Int32) &&& 31))))])) _
    refine XS.sipush X0.here hx rfl (hb hby d1_28) ?_
    show Steps p.tables e below (s₁.setTop (mkF m 31 #[.val (.ref a1), .val (.int p2)] [(.int (255 : Int32)), (.int w5), (.int (((w3 &&& (255 : Int32)) <<< ((24 : Int32) &&& 31)) ||| ((w4 &&& (255 : Int32)) <<< ((16 : Int32) &&& 31))))])) _
    refine XS.iand X0.here hx rfl (hb hby d1_31) rfl ?_
    show Steps p.tables e below (s₁.setTop (mkF m 32 #[.val (.ref a1), .val (.int p2)] [(.int (w5 &&& (255 : Int32))), (.int (((w3 &&& (255 : Int32)) <<< ((24 : Int32) &&& 31)) ||| ((w4 &&& (255 : Int32)) <<< ((16 : Int32) &&& 31))))])) _
    refine XS.bipush X0.here hx rfl (hb hby d1_32) ?_
    show Steps p.tables e below (s₁.setTop (mkF m 34 #[.val (.ref a1), .val (.int p2)] [(.int (8 : Int32)), (.int (w5 &&& (255 : Int32))), (.int (((w3 &&& (255 : Int32)) <<< ((24 : Int32) &&& 31)) ||| ((w4 &&& (255 : Int32)) <<< ((16 : Int32) &&& 31))))])) _
    refine XS.ishl X0.here hx rfl (hb hby d1_34) rfl ?_
    show Steps p.tables e below (s₁.setTop (mkF m 35 #[.val (.ref a1), .val (.int p2)] [(.int ((w5 &&& (255 : Int32)) <<< ((8 : Int32) &&& 31))), (.int (((w3 &&& (255 : Int32)) <<< ((24 : Int32) &&& 31)) ||| ((w4 &&& (255 : Int32)) <<< ((16 : Int32) &&& 31))))])) _
    refine XS.ior X0.here hx rfl (hb hby d1_35) rfl ?_
    show Steps p.tables e below (s₁.setTop (mkF m 36 #[.val (.ref a1), .val (.int p2)] [(.int ((((w3 &&& (255 : Int32)) <<< ((24 : Int32) &&& 31)) ||| ((w4 &&& (255 : Int32)) <<< ((16 : Int32) &&& 31))) ||| ((w5 &&& (255 : Int32)) <<< ((8 : Int32) &&& 31))))])) _
    refine XS.aloadN X0.here hx rfl (hb hby d1_36) rfl rfl ?_
    show Steps p.tables e below (s₁.setTop (mkF m 37 #[.val (.ref a1), .val (.int p2)] [(.ref a1), (.int ((((w3 &&& (255 : Int32)) <<< ((24 : Int32) &&& 31)) ||| ((w4 &&& (255 : Int32)) <<< ((16 : Int32) &&& 31))) ||| ((w5 &&& (255 : Int32)) <<< ((8 : Int32) &&& 31))))])) _
    refine XS.iloadN X0.here hx rfl (hb hby d1_37) rfl ?_
    show Steps p.tables e below (s₁.setTop (mkF m 38 #[.val (.ref a1), .val (.int p2)] [(.int p2), (.ref a1), (.int ((((w3 &&& (255 : Int32)) <<< ((24 : Int32) &&& 31)) ||| ((w4 &&& (255 : Int32)) <<< ((16 : Int32) &&& 31))) ||| ((w5 &&& (255 : Int32)) <<< ((8 : Int32) &&& 31))))])) _
    refine XS.iconst X0.here hx rfl (hb hby d1_38) ?_
    show Steps p.tables e below (s₁.setTop (mkF m 39 #[.val (.ref a1), .val (.int p2)] [(.int (3 : Int32)), (.int p2), (.ref a1), (.int ((((w3 &&& (255 : Int32)) <<< ((24 : Int32) &&& 31)) ||| ((w4 &&& (255 : Int32)) <<< ((16 : Int32) &&& 31))) ||| ((w5 &&& (255 : Int32)) <<< ((8 : Int32) &&& 31))))])) _
    refine XS.iadd X0.here hx rfl (hb hby d1_39) rfl ?_
    show Steps p.tables e below (s₁.setTop (mkF m 40 #[.val (.ref a1), .val (.int p2)] [(.int (p2 + (3 : Int32))), (.ref a1), (.int ((((w3 &&& (255 : Int32)) <<< ((24 : Int32) &&& 31)) ||| ((w4 &&& (255 : Int32)) <<< ((16 : Int32) &&& 31))) ||| ((w5 &&& (255 : Int32)) <<< ((8 : Int32) &&& 31))))])) _
    refine X0.baloadBytes hx (j := (p2 + (3 : Int32))) (v := (.int w6)) (by rw [e0]; exact Ar_a1.1) (State.isArrayOf_alike hZ.alike Ar_a1.2.1) Ar_a1.2.2 hin40 hat40 (g := (mkF m 40 #[.val (.ref a1), .val (.int p2)] [(.int (p2 + (3 : Int32))), (.ref a1), (.int ((((w3 &&& (255 : Int32)) <<< ((24 : Int32) &&& 31)) ||| ((w4 &&& (255 : Int32)) <<< ((16 : Int32) &&& 31))) ||| ((w5 &&& (255 : Int32)) <<< ((8 : Int32) &&& 31))))])) rfl rfl (hb hby d1_40) _ ?_
    show Steps p.tables e below (s₁.setTop (mkF m 41 #[.val (.ref a1), .val (.int p2)] [(.int w6), (.int ((((w3 &&& (255 : Int32)) <<< ((24 : Int32) &&& 31)) ||| ((w4 &&& (255 : Int32)) <<< ((16 : Int32) &&& 31))) ||| ((w5 &&& (255 : Int32)) <<< ((8 : Int32) &&& 31))))])) _
    refine XS.sipush X0.here hx rfl (hb hby d1_41) ?_
    show Steps p.tables e below (s₁.setTop (mkF m 44 #[.val (.ref a1), .val (.int p2)] [(.int (255 : Int32)), (.int w6), (.int ((((w3 &&& (255 : Int32)) <<< ((24 : Int32) &&& 31)) ||| ((w4 &&& (255 : Int32)) <<< ((16 : Int32) &&& 31))) ||| ((w5 &&& (255 : Int32)) <<< ((8 : Int32) &&& 31))))])) _
    refine XS.iand X0.here hx rfl (hb hby d1_44) rfl ?_
    show Steps p.tables e below (s₁.setTop (mkF m 45 #[.val (.ref a1), .val (.int p2)] [(.int (w6 &&& (255 : Int32))), (.int ((((w3 &&& (255 : Int32)) <<< ((24 : Int32) &&& 31)) ||| ((w4 &&& (255 : Int32)) <<< ((16 : Int32) &&& 31))) ||| ((w5 &&& (255 : Int32)) <<< ((8 : Int32) &&& 31))))])) _
    refine XS.ior X0.here hx rfl (hb hby d1_45) rfl ?_
    show Steps p.tables e below (s₁.setTop (mkF m 46 #[.val (.ref a1), .val (.int p2)] [(.int (((((w3 &&& (255 : Int32)) <<< ((24 : Int32) &&& 31)) ||| ((w4 &&& (255 : Int32)) <<< ((16 : Int32) &&& 31))) ||| ((w5 &&& (255 : Int32)) <<< ((8 : Int32) &&& 31))) ||| (w6 &&& (255 : Int32))))])) _
    exact retI X0 hx Bd.returns (hb hby d1_46) hr      -- retI stands in the head ('lawwalk <made dir>' prints it)
  · show Qv (some (.int (((((w3 &&& (255 : Int32)) <<< ((24 : Int32) &&& 31)) ||| ((w4 &&& (255 : Int32)) <<< ((16 : Int32) &&& 31))) ||| ((w5 &&& (255 : Int32)) <<< ((8 : Int32) &&& 31))) ||| (w6 &&& (255 : Int32))))) h0 n0 _ s₁.heap _
    rw [e0]
    exact ⟨rfl, N0, rfl⟩
theorem pn_0 : plainName "com/example/telegrid/telegrid/esp3/BigEndianIntAtPinLaw" = true := by first | (simp [plainName, overriddenIn]; done) | decide +kernel
theorem pd_0_0 : parseMethodDescriptor "([BI)I" = some ⟨[(.array .byte), .int], some .int⟩ := by decide +kernel
theorem ef_0 (m : MethodId) (x0 : Int32) (x1 : Int32) (x2 : Int32) : entryFrame m #[(.int x0), (.int x1), (.int x2)] maxLocals = mkF m 0 #[.val (.int x0), .val (.int x1), .val (.int x2), .unset, .unset] [] := by first | (simp [entryFrame, mkF, argsToLocals, Value.category, maxLocals]; done) | rfl
set_option maxRecDepth 65536 in
set_option maxHeartbeats 40000000 in
theorem rm0_o0 (l : Launch) (Z : State) (a0 : Array Value) (hw : ∀ d ∈ tables_1, d.before a0 Z = true) (ws : List Jvm.Cond) (p1 : Int32) (p2 : Int32) (p3 : Int32) (h0 : Heap) (n0 : Nat) (Z0 : n0 ≤ h0.size) (hoo : (own_rem (p2 &&& (2147483647 : Int32)) (4 : Int32)) = (0 : Int32)) :
    MetFree l x (head1 (Jvm.Cond.code x code maxLocals ret :: ws) room_1) (fun a U => a = #[(.int p1), (.int p2), (.int p3)] ∧ Z.Warmed39 U.vm ∧ U.heap = h0) (fun _ _ _ _ _ => True) (fun _ U o U' => ∃ v L, o = .returned v ∧ Ql (some (.int (1 : Int32))) n0 v L ∧ FrameEnd U o U' L room_1.cells room_1.slots) := by
  refine MetFree.of_bodySF (plainFor_of_name pn_0) hisR ?_
  intro p e s m args below meth c s₁ Bd hml0 hP hK
  obtain ⟨rfl, hZ, hh⟩ := hP
  have hx := Bd.exec
  have hby := Bd.bytes
  have hml : c.maxLocals = 5 := hml0
  have hown : s.vm.findClass "com/example/telegrid/telegrid/esp3/BigEndianIntAtPinLaw" = some m.cls := findClass_of_methodNamed Bd.named
  have hnm := (name_of_methodNamed Bd.named Bd.method).1
  have X0 : Stand p l e room_1 s m #[(.int p1), (.int p2), (.int p3)] below meth c s₁ [] 0 0 := Stand.of_body Bd
  have e0 : s₁.heap = h0 := by rw [← hh, Bd.state]; rfl
  have N0 := Fr.nil n0
  have pre0 : ∀ t, Steps p.tables e below (s₁.setTop (mkF m 0 #[.val (.int p1), .val (.int p2), .val (.int p3), .unset, .unset] [])) t → Steps p.tables e below (s₁.setTop (entryFrame m #[(.int p1), (.int p2), (.int p3)] maxLocals)) t := fun t k => castTop (ef_0 m p1 p2 p3) k
  -- 3. LAWS
  obtain ⟨T4, h4, k4, X4, e4, E4, A4, st4⟩ := newP X0 hx hZ (hw _ (List.mem_of_getElem? (i := 1) rfl)) e0 (g := (mkF m 9 #[.val (.int p1), .val (.int p2), .val (.int p3), .val (.int (0 : Int32)), .unset] [(.int (7 : Int32))])) rfl (hb hby at_9) rfl (by decide) (cap := 7) (by decide) (by decide) (by decide) (by decide)
  obtain ⟨b4, g4⟩ : ∃ z, z = h0.size := ⟨_, rfl⟩      -- the fresh array's address
  rw [← g4] at A4 st4
  have V_b4 : Arv Z h4 b4 k4 .byte (7 : Int32) [(.int (0 : Int32)), (.int (0 : Int32)), (.int (0 : Int32)), (.int (0 : Int32)), (.int (0 : Int32)), (.int (0 : Int32)), (.int (0 : Int32))] (.int (0 : Int32)) := (Arv.new A4 (by decide)).pad (pad_rep [] (.int (0 : Int32)) 7)
  have g_b4 : n0 ≤ b4 := Nat.le_trans Z0 (Nat.le_of_eq g4.symm)
  have sz_b4 : h0.size ≤ b4 := (Nat.le_trans (Keep.refl h0 []).1 (Nat.le_of_eq g4.symm))
  have K4 : Keep h0 h4 [] := (Keep.refl h0 []).ext E4
  obtain ⟨cl_b4_18, Ar_b4, q_b4, S_b4, N_b4, H_b4, G_b4⟩ := V_b4      -- open the array's fact as it stands now (its cell, kind, length, elements)
  have hin18 : ¬ ((0 : Int32) < 0 ∨ cl_b4_18.slots.size ≤ ((0 : Int32)).toNatClampNeg) := inb_of S_b4 ⟨by decide, by decide⟩
  obtain ⟨T5, h5, X5, e5, W5, st5⟩ := stB X4 hx hZ e4 Ar_b4 (j := (0 : Int32)) hin18 (g := (mkF m 18 #[.val (.int p1), .val (.int p2), .val (.int p3), .val (.int (0 : Int32)), .val (.ref b4)] [(.int (p3.toInt8.toInt32)), (.int (0 : Int32)), (.ref b4)])) rfl rfl (hb hby at_18)
  have V_b4_5 := Arv.set Ar_b4 q_b4 S_b4 N_b4 H_b4 G_b4 (fits_nar_byte _) W5 0 rfl (Nat.le_of_ble_eq_true rfl)      -- the array as it stands now (the place must lie among its first values: Arv.pad with pad_rep lengthens them)
  have K5 : Keep h0 h5 [] := K4.wr W5 (Or.inr sz_b4)
  have N5 := Fr.snoc X5 N0 g_b4
  -- (bastore into a boolean[]: stZ in stB's place)
  obtain ⟨cl_b4_27, Ar_b4, q_b4, S_b4, N_b4, H_b4, G_b4⟩ := V_b4_5      -- open the array's fact as it stands now (its cell, kind, length, elements)
  have hin27 : ¬ ((1 : Int32) < 0 ∨ cl_b4_27.slots.size ≤ ((1 : Int32)).toNatClampNeg) := inb_of S_b4 ⟨by decide, by decide⟩
  obtain ⟨T6, h6, X6, e6, W6, st6⟩ := stB X5 hx hZ e5 Ar_b4 (j := (1 : Int32)) hin27 (g := (mkF m 27 #[.val (.int p1), .val (.int p2), .val (.int p3), .val (.int (0 : Int32)), .val (.ref b4)] [(.int (((p3.toUInt32 >>> ((8 : Int32) &&& 31).toUInt32).toInt32).toInt8.toInt32)), (.int (1 : Int32)), (.ref b4)])) rfl rfl (hb hby at_27)
  have V_b4_6 := Arv.set Ar_b4 q_b4 S_b4 N_b4 H_b4 G_b4 (fits_nar_byte _) W6 1 rfl (Nat.le_of_ble_eq_true rfl)      -- the array as it stands now (the place must lie among its first values: Arv.pad with pad_rep lengthens them)
  have K6 : Keep h0 h6 [] := K5.wr W6 (Or.inr sz_b4)
  have N6 := Fr.snoc X6 N5 g_b4
  -- (bastore into a boolean[]: stZ in stB's place)
  obtain ⟨cl_b4_36, Ar_b4, q_b4, S_b4, N_b4, H_b4, G_b4⟩ := V_b4_6      -- open the array's fact as it stands now (its cell, kind, length, elements)
  have hin36 : ¬ ((2 : Int32) < 0 ∨ cl_b4_36.slots.size ≤ ((2 : Int32)).toNatClampNeg) := inb_of S_b4 ⟨by decide, by decide⟩
  obtain ⟨T7, h7, X7, e7, W7, st7⟩ := stB X6 hx hZ e6 Ar_b4 (j := (2 : Int32)) hin36 (g := (mkF m 36 #[.val (.int p1), .val (.int p2), .val (.int p3), .val (.int (0 : Int32)), .val (.ref b4)] [(.int (((p3.toUInt32 >>> ((16 : Int32) &&& 31).toUInt32).toInt32).toInt8.toInt32)), (.int (2 : Int32)), (.ref b4)])) rfl rfl (hb hby at_36)
  have V_b4_7 := Arv.set Ar_b4 q_b4 S_b4 N_b4 H_b4 G_b4 (fits_nar_byte _) W7 2 rfl (Nat.le_of_ble_eq_true rfl)      -- the array as it stands now (the place must lie among its first values: Arv.pad with pad_rep lengthens them)
  have K7 : Keep h0 h7 [] := K6.wr W7 (Or.inr sz_b4)
  have N7 := Fr.snoc X7 N6 g_b4
  -- (bastore into a boolean[]: stZ in stB's place)
  obtain ⟨cl_b4_45, Ar_b4, q_b4, S_b4, N_b4, H_b4, G_b4⟩ := V_b4_7      -- open the array's fact as it stands now (its cell, kind, length, elements)
  have hin45 : ¬ ((3 : Int32) < 0 ∨ cl_b4_45.slots.size ≤ ((3 : Int32)).toNatClampNeg) := inb_of S_b4 ⟨by decide, by decide⟩
  obtain ⟨T8, h8, X8, e8, W8, st8⟩ := stB X7 hx hZ e7 Ar_b4 (j := (3 : Int32)) hin45 (g := (mkF m 45 #[.val (.int p1), .val (.int p2), .val (.int p3), .val (.int (0 : Int32)), .val (.ref b4)] [(.int (((p3.toUInt32 >>> ((24 : Int32) &&& 31).toUInt32).toInt32).toInt8.toInt32)), (.int (3 : Int32)), (.ref b4)])) rfl rfl (hb hby at_45)
  have V_b4_8 := Arv.set Ar_b4 q_b4 S_b4 N_b4 H_b4 G_b4 (fits_nar_byte _) W8 3 rfl (Nat.le_of_ble_eq_true rfl)      -- the array as it stands now (the place must lie among its first values: Arv.pad with pad_rep lengthens them)
  have K8 : Keep h0 h8 [] := K7.wr W8 (Or.inr sz_b4)
  have N8 := Fr.snoc X8 N7 g_b4
  -- (bastore into a boolean[]: stZ in stB's place)
  obtain ⟨cl_b4_53, Ar_b4, q_b4, S_b4, N_b4, H_b4, G_b4⟩ := V_b4_8      -- open the array's fact as it stands now (its cell, kind, length, elements)
  have hin53 : ¬ ((4 : Int32) < 0 ∨ cl_b4_53.slots.size ≤ ((4 : Int32)).toNatClampNeg) := inb_of S_b4 ⟨by decide, by decide⟩
  obtain ⟨T9, h9, X9, e9, W9, st9⟩ := stB X8 hx hZ e8 Ar_b4 (j := (4 : Int32)) hin53 (g := (mkF m 53 #[.val (.int p1), .val (.int p2), .val (.int p3), .val (.int (0 : Int32)), .val (.ref b4)] [(.int ((p3 ^^^ (-1 : Int32)).toInt8.toInt32)), (.int (4 : Int32)), (.ref b4)])) rfl rfl (hb hby at_53)
  have V_b4_9 := Arv.set Ar_b4 q_b4 S_b4 N_b4 H_b4 G_b4 (fits_nar_byte _) W9 4 rfl (Nat.le_of_ble_eq_true rfl)      -- the array as it stands now (the place must lie among its first values: Arv.pad with pad_rep lengthens them)
  have K9 : Keep h0 h9 [] := K8.wr W9 (Or.inr sz_b4)
  have N9 := Fr.snoc X9 N8 g_b4
  -- (bastore into a boolean[]: stZ in stB's place)
  obtain ⟨cl_b4_64, Ar_b4, q_b4, S_b4, N_b4, H_b4, G_b4⟩ := V_b4_9      -- open the array's fact as it stands now (its cell, kind, length, elements)
  have hin64 : ¬ ((5 : Int32) < 0 ∨ cl_b4_64.slots.size ≤ ((5 : Int32)).toNatClampNeg) := inb_of S_b4 ⟨by decide, by decide⟩
  obtain ⟨T10, h10, X10, e10, W10, st10⟩ := stB X9 hx hZ e9 Ar_b4 (j := (5 : Int32)) hin64 (g := (mkF m 64 #[.val (.int p1), .val (.int p2), .val (.int p3), .val (.int (0 : Int32)), .val (.ref b4)] [(.int ((((p3 ^^^ (-1 : Int32)).toUInt32 >>> ((8 : Int32) &&& 31).toUInt32).toInt32).toInt8.toInt32)), (.int (5 : Int32)), (.ref b4)])) rfl rfl (hb hby at_64)
  have V_b4_10 := Arv.set Ar_b4 q_b4 S_b4 N_b4 H_b4 G_b4 (fits_nar_byte _) W10 5 rfl (Nat.le_of_ble_eq_true rfl)      -- the array as it stands now (the place must lie among its first values: Arv.pad with pad_rep lengthens them)
  have K10 : Keep h0 h10 [] := K9.wr W10 (Or.inr sz_b4)
  have N10 := Fr.snoc X10 N9 g_b4
  -- (bastore into a boolean[]: stZ in stB's place)
  obtain ⟨cl_b4_76, Ar_b4, q_b4, S_b4, N_b4, H_b4, G_b4⟩ := V_b4_10      -- open the array's fact as it stands now (its cell, kind, length, elements)
  have hin76 : ¬ ((6 : Int32) < 0 ∨ cl_b4_76.slots.size ≤ ((6 : Int32)).toNatClampNeg) := inb_of S_b4 ⟨by decide, by decide⟩
  obtain ⟨T11, h11, X11, e11, W11, st11⟩ := stB X10 hx hZ e10 Ar_b4 (j := (6 : Int32)) hin76 (g := (mkF m 76 #[.val (.int p1), .val (.int p2), .val (.int p3), .val (.int (0 : Int32)), .val (.ref b4)] [(.int ((((p3 ^^^ (-1 : Int32)).toUInt32 >>> ((16 : Int32) &&& 31).toUInt32).toInt32).toInt8.toInt32)), (.int (6 : Int32)), (.ref b4)])) rfl rfl (hb hby at_76)
  have V_b4_11 := Arv.set Ar_b4 q_b4 S_b4 N_b4 H_b4 G_b4 (fits_nar_byte _) W11 6 rfl (Nat.le_of_ble_eq_true rfl)      -- the array as it stands now (the place must lie among its first values: Arv.pad with pad_rep lengthens them)
  have K11 : Keep h0 h11 [] := K10.wr W11 (Or.inr sz_b4)
  have N11 := Fr.snoc X11 N10 g_b4
  -- (bastore into a boolean[]: stZ in stB's place)
  obtain ⟨cl_b4_85, Ar_b4, q_b4, S_b4, N_b4, H_b4, G_b4⟩ := V_b4_11      -- open the array's fact as it stands now (its cell, kind, length, elements)
  have hin85 : ¬ ((0 : Int32) < 0 ∨ cl_b4_85.slots.size ≤ ((0 : Int32)).toNatClampNeg) := inb_of S_b4 ⟨by decide, by decide⟩
  obtain ⟨T12, h12, X12, e12, W12, st12⟩ := stB X11 hx hZ e11 Ar_b4 (j := (0 : Int32)) hin85 (g := (mkF m 85 #[.val (.int p1), .val (.int p2), .val (.int p3), .val (.int (0 : Int32)), .val (.ref b4)] [(.int (((p1.toUInt32 >>> ((24 : Int32) &&& 31).toUInt32).toInt32).toInt8.toInt32)), (.int (0 : Int32)), (.ref b4)])) rfl rfl (hb hby at_85)
  have V_b4_12 := Arv.set Ar_b4 q_b4 S_b4 N_b4 H_b4 G_b4 (fits_nar_byte _) W12 0 rfl (Nat.le_of_ble_eq_true rfl)      -- the array as it stands now (the place must lie among its first values: Arv.pad with pad_rep lengthens them)
  have K12 : Keep h0 h12 [] := K11.wr W12 (Or.inr sz_b4)
  have N12 := Fr.snoc X12 N11 g_b4
  -- (bastore into a boolean[]: stZ in stB's place)
  obtain ⟨cl_b4_96, Ar_b4, q_b4, S_b4, N_b4, H_b4, G_b4⟩ := V_b4_12      -- open the array's fact as it stands now (its cell, kind, length, elements)
  have hin96 : ¬ (((0 : Int32) + (1 : Int32)) < 0 ∨ cl_b4_96.slots.size ≤ (((0 : Int32) + (1 : Int32))).toNatClampNeg) := inb_of S_b4 ⟨by decide, by decide⟩
  obtain ⟨T13, h13, X13, e13, W13, st13⟩ := stB X12 hx hZ e12 Ar_b4 (j := ((0 : Int32) + (1 : Int32))) hin96 (g := (mkF m 96 #[.val (.int p1), .val (.int p2), .val (.int p3), .val (.int (0 : Int32)), .val (.ref b4)] [(.int (((p1.toUInt32 >>> ((16 : Int32) &&& 31).toUInt32).toInt32).toInt8.toInt32)), (.int ((0 : Int32) + (1 : Int32))), (.ref b4)])) rfl rfl (hb hby at_96)
  have V_b4_13 := Arv.set Ar_b4 q_b4 S_b4 N_b4 H_b4 G_b4 (fits_nar_byte _) W13 1 rfl (Nat.le_of_ble_eq_true rfl)      -- the array as it stands now (the place must lie among its first values: Arv.pad with pad_rep lengthens them)
  have K13 : Keep h0 h13 [] := K12.wr W13 (Or.inr sz_b4)
  have N13 := Fr.snoc X13 N12 g_b4
  -- (bastore into a boolean[]: stZ in stB's place)
  obtain ⟨cl_b4_107, Ar_b4, q_b4, S_b4, N_b4, H_b4, G_b4⟩ := V_b4_13      -- open the array's fact as it stands now (its cell, kind, length, elements)
  have hin107 : ¬ (((0 : Int32) + (2 : Int32)) < 0 ∨ cl_b4_107.slots.size ≤ (((0 : Int32) + (2 : Int32))).toNatClampNeg) := inb_of S_b4 ⟨by decide, by decide⟩
  obtain ⟨T14, h14, X14, e14, W14, st14⟩ := stB X13 hx hZ e13 Ar_b4 (j := ((0 : Int32) + (2 : Int32))) hin107 (g := (mkF m 107 #[.val (.int p1), .val (.int p2), .val (.int p3), .val (.int (0 : Int32)), .val (.ref b4)] [(.int (((p1.toUInt32 >>> ((8 : Int32) &&& 31).toUInt32).toInt32).toInt8.toInt32)), (.int ((0 : Int32) + (2 : Int32))), (.ref b4)])) rfl rfl (hb hby at_107)
  have V_b4_14 := Arv.set Ar_b4 q_b4 S_b4 N_b4 H_b4 G_b4 (fits_nar_byte _) W14 2 rfl (Nat.le_of_ble_eq_true rfl)      -- the array as it stands now (the place must lie among its first values: Arv.pad with pad_rep lengthens them)
  have K14 : Keep h0 h14 [] := K13.wr W14 (Or.inr sz_b4)
  have N14 := Fr.snoc X14 N13 g_b4
  -- (bastore into a boolean[]: stZ in stB's place)
  obtain ⟨cl_b4_115, Ar_b4, q_b4, S_b4, N_b4, H_b4, G_b4⟩ := V_b4_14      -- open the array's fact as it stands now (its cell, kind, length, elements)
  have hin115 : ¬ (((0 : Int32) + (3 : Int32)) < 0 ∨ cl_b4_115.slots.size ≤ (((0 : Int32) + (3 : Int32))).toNatClampNeg) := inb_of S_b4 ⟨by decide, by decide⟩
  obtain ⟨T15, h15, X15, e15, W15, st15⟩ := stB X14 hx hZ e14 Ar_b4 (j := ((0 : Int32) + (3 : Int32))) hin115 (g := (mkF m 115 #[.val (.int p1), .val (.int p2), .val (.int p3), .val (.int (0 : Int32)), .val (.ref b4)] [(.int (p1.toInt8.toInt32)), (.int ((0 : Int32) + (3 : Int32))), (.ref b4)])) rfl rfl (hb hby at_115)
  have V_b4_15 := Arv.set Ar_b4 q_b4 S_b4 N_b4 H_b4 G_b4 (fits_nar_byte _) W15 3 rfl (Nat.le_of_ble_eq_true rfl)      -- the array as it stands now (the place must lie among its first values: Arv.pad with pad_rep lengthens them)
  have K15 : Keep h0 h15 [] := K14.wr W15 (Or.inr sz_b4)
  have N15 := Fr.snoc X15 N14 g_b4
  -- (bastore into a boolean[]: stZ in stB's place)
  -- pc 119: com/example/telegrid/telegrid/esp3/BigEndian.intAt by its contract rm1
  obtain ⟨cl_c, Ar_c, q_c, S_c, N_c, H_c, G_c⟩ := V_b4_15
  have hn0 : ¬ ((0 : Int32) < 0 ∨ cl_c.slots.size ≤ ((0 : Int32)).toNatClampNeg) := inb_of S_c ⟨by decide, by decide⟩
  have hn1 : ¬ (((0 : Int32) + (1 : Int32)) < 0 ∨ cl_c.slots.size ≤ (((0 : Int32) + (1 : Int32))).toNatClampNeg) := inb_of S_c ⟨by decide, by decide⟩
  have hn2 : ¬ (((0 : Int32) + (2 : Int32)) < 0 ∨ cl_c.slots.size ≤ (((0 : Int32) + (2 : Int32))).toNatClampNeg) := inb_of S_c ⟨by decide, by decide⟩
  have hn3 : ¬ (((0 : Int32) + (3 : Int32)) < 0 ∨ cl_c.slots.size ≤ (((0 : Int32) + (3 : Int32))).toNatClampNeg) := inb_of S_c ⟨by decide, by decide⟩
  obtain ⟨_, _, ⟨T16, L16, k16, n16⟩, -, X16, ⟨Lc16, hQ16, l16, y16, z16⟩, st16⟩ := Jvm.LawKit.callS X15 hx (y := (⟨"com/example/telegrid/telegrid/esp3/BigEndian", "intAt", "([BI)I"⟩ : MethodName)) hown (mvT hZ (hw _ (List.mem_of_getElem? (i := 2) rfl))) (mvT hZ (hw _ (List.mem_of_getElem? (i := 3) rfl))) (mvT hZ (hw _ (List.mem_of_getElem? (i := 4) rfl))) (mvT hZ (hw _ (List.mem_of_getElem? (i := 5) rfl))) (by decide) (backOf (W := 0) (rm1 l Z a0 hw [] b4 (0 : Int32) ((((p1.toUInt32 >>> ((24 : Int32) &&& 31).toUInt32).toInt32).toInt8.toInt32).toInt8.toInt32) cl_c ((((p1.toUInt32 >>> ((16 : Int32) &&& 31).toUInt32).toInt32).toInt8.toInt32).toInt8.toInt32) ((((p1.toUInt32 >>> ((8 : Int32) &&& 31).toUInt32).toInt32).toInt8.toInt32).toInt8.toInt32) (((p1).toInt8.toInt32).toInt8.toInt32) h15 n0 (Nat.le_trans Z0 K15.1) Ar_c hn0 (H_c.at hn0 rfl) hn1 (H_c.at hn1 rfl) hn2 (H_c.at hn2 rfl) hn3 (H_c.at hn3 rfl)) hZ (hw _ (List.mem_of_getElem? (i := 5) rfl)) (hw _ (List.mem_of_getElem? (i := 4) rfl)) (by decide) (by decide)) (g := (mkF m 119 #[.val (.int p1), .val (.int p2), .val (.int p3), .val (.int (0 : Int32)), .val (.ref b4)] [(.int (0 : Int32)), (.ref b4)])) rfl (by rw [hml]; rfl) (argsL := [(.ref b4), (.int (0 : Int32))]) (rest := []) (lenOf pd_0_0 rfl) rfl (by show 2 * 0 + _ ≤ _; exact Nat.le_of_eq rfl) (hb hby at_119) (fun _ _ => ⟨rfl, e15, (by decide : 1 + 0 ≤ _), (by decide : 7 + 0 ≤ _)⟩)
  dsimp only [Pt.U, Pt.locs, Pt.cells, Pt.slots] at X16 l16 y16 z16 st16 hQ16
  subst l16 y16 z16
  obtain ⟨rfl, N16q, e16⟩ := hQ16      -- what it returned, that it wrote nothing old, and the rest of your Q1
  have N16 := Fr.app N15 N16q
  obtain ⟨fs, hr, hrun, hended, hW, hsame⟩ := X16.leave (v := some (.int (1 : Int32))) (fun h => by rw [Bd.returns] at h; cases h)
  refine ⟨_, _, pre0 _ ?_, hrun, hended, _, _, rfl, ?_, ⟨_, rfl⟩, hW, hsame.mono (by decide) (by decide)⟩
  -- 4. STEPS
  · show Steps p.tables e below (s₁.setTop (mkF m 0 #[.val (.int p1), .val (.int p2), .val (.int p3), .unset, .unset] [])) _
    refine XS.iloadN X0.here hx rfl (hb hby at_0) rfl ?_
    show Steps p.tables e below (s₁.setTop (mkF m 1 #[.val (.int p1), .val (.int p2), .val (.int p3), .unset, .unset] [(.int p2)])) _
    refine X0.ldcInt hx hown (mvT hZ (hw _ (List.mem_of_getElem? (i := 0) rfl))) (g := (mkF m 1 #[.val (.int p1), .val (.int p2), .val (.int p3), .unset, .unset] [(.int p2)])) rfl (hb hby at_1) _ ?_
    show Steps p.tables e below (s₁.setTop (mkF m 3 #[.val (.int p1), .val (.int p2), .val (.int p3), .unset, .unset] [(.int (2147483647 : Int32)), (.int p2)])) _
    refine XS.iand X0.here hx rfl (hb hby at_3) rfl ?_
    show Steps p.tables e below (s₁.setTop (mkF m 4 #[.val (.int p1), .val (.int p2), .val (.int p3), .unset, .unset] [(.int (p2 &&& (2147483647 : Int32)))])) _
    refine XS.iconst X0.here hx rfl (hb hby at_4) ?_
    show Steps p.tables e below (s₁.setTop (mkF m 5 #[.val (.int p1), .val (.int p2), .val (.int p3), .unset, .unset] [(.int (4 : Int32)), (.int (p2 &&& (2147483647 : Int32)))])) _
    refine own_iremE X0 hx rfl (hb hby at_5) rfl (by decide) hoo ?_
    show Steps p.tables e below (s₁.setTop (mkF m 6 #[.val (.int p1), .val (.int p2), .val (.int p3), .unset, .unset] [(.int (0 : Int32))])) _
    refine XS.istoreN X0.here hx rfl (hb hby at_6) rfl (l' := #[.val (.int p1), .val (.int p2), .val (.int p3), .val (.int (0 : Int32)), .unset]) rfl ?_
    show Steps p.tables e below (s₁.setTop (mkF m 7 #[.val (.int p1), .val (.int p2), .val (.int p3), .val (.int (0 : Int32)), .unset] [])) _
    refine XS.bipush X0.here hx rfl (hb hby at_7) ?_
    show Steps p.tables e below (s₁.setTop (mkF m 9 #[.val (.int p1), .val (.int p2), .val (.int p3), .val (.int (0 : Int32)), .unset] [(.int (7 : Int32))])) _
    refine st4 _ ?_
    show Steps p.tables e below (T4.setTop (mkF m 11 #[.val (.int p1), .val (.int p2), .val (.int p3), .val (.int (0 : Int32)), .unset] [(.ref b4)])) _
    refine XS.astore X4.here hx rfl (hb hby at_11) rfl rfl (l' := #[.val (.int p1), .val (.int p2), .val (.int p3), .val (.int (0 : Int32)), .val (.ref b4)]) rfl ?_
    show Steps p.tables e below (T4.setTop (mkF m 13 #[.val (.int p1), .val (.int p2), .val (.int p3), .val (.int (0 : Int32)), .val (.ref b4)] [])) _
    refine XS.aload X4.here hx rfl (hb hby at_13) rfl rfl ?_
    show Steps p.tables e below (T4.setTop (mkF m 15 #[.val (.int p1), .val (.int p2), .val (.int p3), .val (.int (0 : Int32)), .val (.ref b4)] [(.ref b4)])) _
    refine XS.iconst X4.here hx rfl (hb hby at_15) ?_
    show Steps p.tables e below (T4.setTop (mkF m 16 #[.val (.int p1), .val (.int p2), .val (.int p3), .val (.int (0 : Int32)), .val (.ref b4)] [(.int (0 : Int32)), (.ref b4)])) _
    refine XS.iloadN X4.here hx rfl (hb hby at_16) rfl ?_
    show Steps p.tables e below (T4.setTop (mkF m 17 #[.val (.int p1), .val (.int p2), .val (.int p3), .val (.int (0 : Int32)), .val (.ref b4)] [(.int p3), (.int (0 : Int32)), (.ref b4)])) _
    refine XS.i2b X4.here hx rfl (hb hby at_17) rfl ?_
    show Steps p.tables e below (T4.setTop (mkF m 18 #[.val (.int p1), .val (.int p2), .val (.int p3), .val (.int (0 : Int32)), .val (.ref b4)] [(.int (p3.toInt8.toInt32)), (.int (0 : Int32)), (.ref b4)])) _
    refine st5 _ ?_
    show Steps p.tables e below (T5.setTop (mkF m 19 #[.val (.int p1), .val (.int p2), .val (.int p3), .val (.int (0 : Int32)), .val (.ref b4)] [])) _
    refine XS.aload X5.here hx rfl (hb hby at_19) rfl rfl ?_
    show Steps p.tables e below (T5.setTop (mkF m 21 #[.val (.int p1), .val (.int p2), .val (.int p3), .val (.int (0 : Int32)), .val (.ref b4)] [(.ref b4)])) _
    refine XS.iconst X5.here hx rfl (hb hby at_21) ?_
    show Steps p.tables e below (T5.setTop (mkF m 22 #[.val (.int p1), .val (.int p2), .val (.int p3), .val (.int (0 : Int32)), .val (.ref b4)] [(.int (1 : Int32)), (.ref b4)])) _
    refine XS.iloadN X5.here hx rfl (hb hby at_22) rfl ?_
    show Steps p.tables e below (T5.setTop (mkF m 23 #[.val (.int p1), .val (.int p2), .val (.int p3), .val (.int (0 : Int32)), .val (.ref b4)] [(.int p3), (.int (1 : Int32)), (.ref b4)])) _
    refine XS.bipush X5.here hx rfl (hb hby at_23) ?_
    show Steps p.tables e below (T5.setTop (mkF m 25 #[.val (.int p1), .val (.int p2), .val (.int p3), .val (.int (0 : Int32)), .val (.ref b4)] [(.int (8 : Int32)), (.int p3), (.int (1 : Int32)), (.ref b4)])) _
    refine XS.iushr X5.here hx rfl (hb hby at_25) rfl ?_
    show Steps p.tables e below (T5.setTop (mkF m 26 #[.val (.int p1), .val (.int p2), .val (.int p3), .val (.int (0 : Int32)), .val (.ref b4)] [(.int ((p3.toUInt32 >>> ((8 : Int32) &&& 31).toUInt32).toInt32)), (.int (1 : Int32)), (.ref b4)])) _
    refine XS.i2b X5.here hx rfl (hb hby at_26) rfl ?_
    show Steps p.tables e below (T5.setTop (mkF m 27 #[.val (.int p1), .val (.int p2), .val (.int p3), .val (.int (0 : Int32)), .val (.ref b4)] [(.int (((p3.toUInt32 >>> ((8 : Int32) &&& 31).toUInt32).toInt32).toInt8.toInt32)), (.int (1 : Int32)), (.ref b4)])) _
    refine st6 _ ?_
    show Steps p.tables e below (T6.setTop (mkF m 28 #[.val (.int p1), .val (.int p2), .val (.int p3), .val (.int (0 : Int32)), .val (.ref b4)] [])) _
    refine XS.aload X6.here hx rfl (hb hby at_28) rfl rfl ?_
    show Steps p.tables e below (T6.setTop (mkF m 30 #[.val (.int p1), .val (.int p2), .val (.int p3), .val (.int (0 : Int32)), .val (.ref b4)] [(.ref b4)])) _
    refine XS.iconst X6.here hx rfl (hb hby at_30) ?_
    show Steps p.tables e below (T6.setTop (mkF m 31 #[.val (.int p1), .val (.int p2), .val (.int p3), .val (.int (0 : Int32)), .val (.ref b4)] [(.int (2 : Int32)), (.ref b4)])) _
    refine XS.iloadN X6.here hx rfl (hb hby at_31) rfl ?_
    show Steps p.tables e below (T6.setTop (mkF m 32 #[.val (.int p1), .val (.int p2), .val (.int p3), .val (.int (0 : Int32)), .val (.ref b4)] [(.int p3), (.int (2 : Int32)), (.ref b4)])) _
    refine XS.bipush X6.here hx rfl (hb hby at_32) ?_
    show Steps p.tables e below (T6.setTop (mkF m 34 #[.val (.int p1), .val (.int p2), .val (.int p3), .val (.int (0 : Int32)), .val (.ref b4)] [(.int (16 : Int32)), (.int p3), (.int (2 : Int32)), (.ref b4)])) _
    refine XS.iushr X6.here hx rfl (hb hby at_34) rfl ?_
    show Steps p.tables e below (T6.setTop (mkF m 35 #[.val (.int p1), .val (.int p2), .val (.int p3), .val (.int (0 : Int32)), .val (.ref b4)] [(.int ((p3.toUInt32 >>> ((16 : Int32) &&& 31).toUInt32).toInt32)), (.int (2 : Int32)), (.ref b4)])) _
    refine XS.i2b X6.here hx rfl (hb hby at_35) rfl ?_
    show Steps p.tables e below (T6.setTop (mkF m 36 #[.val (.int p1), .val (.int p2), .val (.int p3), .val (.int (0 : Int32)), .val (.ref b4)] [(.int (((p3.toUInt32 >>> ((16 : Int32) &&& 31).toUInt32).toInt32).toInt8.toInt32)), (.int (2 : Int32)), (.ref b4)])) _
    refine st7 _ ?_
    show Steps p.tables e below (T7.setTop (mkF m 37 #[.val (.int p1), .val (.int p2), .val (.int p3), .val (.int (0 : Int32)), .val (.ref b4)] [])) _
    refine XS.aload X7.here hx rfl (hb hby at_37) rfl rfl ?_
    show Steps p.tables e below (T7.setTop (mkF m 39 #[.val (.int p1), .val (.int p2), .val (.int p3), .val (.int (0 : Int32)), .val (.ref b4)] [(.ref b4)])) _
    refine XS.iconst X7.here hx rfl (hb hby at_39) ?_
    show Steps p.tables e below (T7.setTop (mkF m 40 #[.val (.int p1), .val (.int p2), .val (.int p3), .val (.int (0 : Int32)), .val (.ref b4)] [(.int (3 : Int32)), (.ref b4)])) _
    refine XS.iloadN X7.here hx rfl (hb hby at_40) rfl ?_
    show Steps p.tables e below (T7.setTop (mkF m 41 #[.val (.int p1), .val (.int p2), .val (.int p3), .val (.int (0 : Int32)), .val (.ref b4)] [(.int p3), (.int (3 : Int32)), (.ref b4)])) _
    refine XS.bipush X7.here hx rfl (hb hby at_41) ?_
    show Steps p.tables e below (T7.setTop (mkF m 43 #[.val (.int p1), .val (.int p2), .val (.int p3), .val (.int (0 : Int32)), .val (.ref b4)] [(.int (24 : Int32)), (.int p3), (.int (3 : Int32)), (.ref b4)])) _
    refine XS.iushr X7.here hx rfl (hb hby at_43) rfl ?_
    show Steps p.tables e below (T7.setTop (mkF m 44 #[.val (.int p1), .val (.int p2), .val (.int p3), .val (.int (0 : Int32)), .val (.ref b4)] [(.int ((p3.toUInt32 >>> ((24 : Int32) &&& 31).toUInt32).toInt32)), (.int (3 : Int32)), (.ref b4)])) _
    refine XS.i2b X7.here hx rfl (hb hby at_44) rfl ?_
    show Steps p.tables e below (T7.setTop (mkF m 45 #[.val (.int p1), .val (.int p2), .val (.int p3), .val (.int (0 : Int32)), .val (.ref b4)] [(.int (((p3.toUInt32 >>> ((24 : Int32) &&& 31).toUInt32).toInt32).toInt8.toInt32)), (.int (3 : Int32)), (.ref b4)])) _
    refine st8 _ ?_
    show Steps p.tables e below (T8.setTop (mkF m 46 #[.val (.int p1), .val (.int p2), .val (.int p3), .val (.int (0 : Int32)), .val (.ref b4)] [])) _
    refine XS.aload X8.here hx rfl (hb hby at_46) rfl rfl ?_
    show Steps p.tables e below (T8.setTop (mkF m 48 #[.val (.int p1), .val (.int p2), .val (.int p3), .val (.int (0 : Int32)), .val (.ref b4)] [(.ref b4)])) _
    refine XS.iconst X8.here hx rfl (hb hby at_48) ?_
    show Steps p.tables e below (T8.setTop (mkF m 49 #[.val (.int p1), .val (.int p2), .val (.int p3), .val (.int (0 : Int32)), .val (.ref b4)] [(.int (4 : Int32)), (.ref b4)])) _
    refine XS.iloadN X8.here hx rfl (hb hby at_49) rfl ?_
    show Steps p.tables e below (T8.setTop (mkF m 50 #[.val (.int p1), .val (.int p2), .val (.int p3), .val (.int (0 : Int32)), .val (.ref b4)] [(.int p3), (.int (4 : Int32)), (.ref b4)])) _
    refine XS.iconst X8.here hx rfl (hb hby at_50) ?_
    show Steps p.tables e below (T8.setTop (mkF m 51 #[.val (.int p1), .val (.int p2), .val (.int p3), .val (.int (0 : Int32)), .val (.ref b4)] [(.int (-1 : Int32)), (.int p3), (.int (4 : Int32)), (.ref b4)])) _
    refine XS.ixor X8.here hx rfl (hb hby at_51) rfl ?_
    show Steps p.tables e below (T8.setTop (mkF m 52 #[.val (.int p1), .val (.int p2), .val (.int p3), .val (.int (0 : Int32)), .val (.ref b4)] [(.int (p3 ^^^ (-1 : Int32))), (.int (4 : Int32)), (.ref b4)])) _
    refine XS.i2b X8.here hx rfl (hb hby at_52) rfl ?_
    show Steps p.tables e below (T8.setTop (mkF m 53 #[.val (.int p1), .val (.int p2), .val (.int p3), .val (.int (0 : Int32)), .val (.ref b4)] [(.int ((p3 ^^^ (-1 : Int32)).toInt8.toInt32)), (.int (4 : Int32)), (.ref b4)])) _
    refine st9 _ ?_
    show Steps p.tables e below (T9.setTop (mkF m 54 #[.val (.int p1), .val (.int p2), .val (.int p3), .val (.int (0 : Int32)), .val (.ref b4)] [])) _
    refine XS.aload X9.here hx rfl (hb hby at_54) rfl rfl ?_
    show Steps p.tables e below (T9.setTop (mkF m 56 #[.val (.int p1), .val (.int p2), .val (.int p3), .val (.int (0 : Int32)), .val (.ref b4)] [(.ref b4)])) _
    refine XS.iconst X9.here hx rfl (hb hby at_56) ?_
    show Steps p.tables e below (T9.setTop (mkF m 57 #[.val (.int p1), .val (.int p2), .val (.int p3), .val (.int (0 : Int32)), .val (.ref b4)] [(.int (5 : Int32)), (.ref b4)])) _
    refine XS.iloadN X9.here hx rfl (hb hby at_57) rfl ?_
    show Steps p.tables e below (T9.setTop (mkF m 58 #[.val (.int p1), .val (.int p2), .val (.int p3), .val (.int (0 : Int32)), .val (.ref b4)] [(.int p3), (.int (5 : Int32)), (.ref b4)])) _
    refine XS.iconst X9.here hx rfl (hb hby at_58) ?_
    show Steps p.tables e below (T9.setTop (mkF m 59 #[.val (.int p1), .val (.int p2), .val (.int p3), .val (.int (0 : Int32)), .val (.ref b4)] [(.int (-1 : Int32)), (.int p3), (.int (5 : Int32)), (.ref b4)])) _
    refine XS.ixor X9.here hx rfl (hb hby at_59) rfl ?_
    show Steps p.tables e below (T9.setTop (mkF m 60 #[.val (.int p1), .val (.int p2), .val (.int p3), .val (.int (0 : Int32)), .val (.ref b4)] [(.int (p3 ^^^ (-1 : Int32))), (.int (5 : Int32)), (.ref b4)])) _
    refine XS.bipush X9.here hx rfl (hb hby at_60) ?_
    show Steps p.tables e below (T9.setTop (mkF m 62 #[.val (.int p1), .val (.int p2), .val (.int p3), .val (.int (0 : Int32)), .val (.ref b4)] [(.int (8 : Int32)), (.int (p3 ^^^ (-1 : Int32))), (.int (5 : Int32)), (.ref b4)])) _
    refine XS.iushr X9.here hx rfl (hb hby at_62) rfl ?_
    show Steps p.tables e below (T9.setTop (mkF m 63 #[.val (.int p1), .val (.int p2), .val (.int p3), .val (.int (0 : Int32)), .val (.ref b4)] [(.int (((p3 ^^^ (-1 : Int32)).toUInt32 >>> ((8 : Int32) &&& 31).toUInt32).toInt32)), (.int (5 : Int32)), (.ref b4)])) _
    refine XS.i2b X9.here hx rfl (hb hby at_63) rfl ?_
    show Steps p.tables e below (T9.setTop (mkF m 64 #[.val (.int p1), .val (.int p2), .val (.int p3), .val (.int (0 : Int32)), .val (.ref b4)] [(.int ((((p3 ^^^ (-1 : Int32)).toUInt32 >>> ((8 : Int32) &&& 31).toUInt32).toInt32).toInt8.toInt32)), (.int (5 : Int32)), (.ref b4)])) _
    refine st10 _ ?_
    show Steps p.tables e below (T10.setTop (mkF m 65 #[.val (.int p1), .val (.int p2), .val (.int p3), .val (.int (0 : Int32)), .val (.ref b4)] [])) _
    refine XS.aload X10.here hx rfl (hb hby at_65) rfl rfl ?_
    show Steps p.tables e below (T10.setTop (mkF m 67 #[.val (.int p1), .val (.int p2), .val (.int p3), .val (.int (0 : Int32)), .val (.ref b4)] [(.ref b4)])) _
    refine XS.bipush X10.here hx rfl (hb hby at_67) ?_
    show Steps p.tables e below (T10.setTop (mkF m 69 #[.val (.int p1), .val (.int p2), .val (.int p3), .val (.int (0 : Int32)), .val (.ref b4)] [(.int (6 : Int32)), (.ref b4)])) _
    refine XS.iloadN X10.here hx rfl (hb hby at_69) rfl ?_
    show Steps p.tables e below (T10.setTop (mkF m 70 #[.val (.int p1), .val (.int p2), .val (.int p3), .val (.int (0 : Int32)), .val (.ref b4)] [(.int p3), (.int (6 : Int32)), (.ref b4)])) _
    refine XS.iconst X10.here hx rfl (hb hby at_70) ?_
    show Steps p.tables e below (T10.setTop (mkF m 71 #[.val (.int p1), .val (.int p2), .val (.int p3), .val (.int (0 : Int32)), .val (.ref b4)] [(.int (-1 : Int32)), (.int p3), (.int (6 : Int32)), (.ref b4)])) _
    refine XS.ixor X10.here hx rfl (hb hby at_71) rfl ?_
    show Steps p.tables e below (T10.setTop (mkF m 72 #[.val (.int p1), .val (.int p2), .val (.int p3), .val (.int (0 : Int32)), .val (.ref b4)] [(.int (p3 ^^^ (-1 : Int32))), (.int (6 : Int32)), (.ref b4)])) _
    refine XS.bipush X10.here hx rfl (hb hby at_72) ?_
    show Steps p.tables e below (T10.setTop (mkF m 74 #[.val (.int p1), .val (.int p2), .val (.int p3), .val (.int (0 : Int32)), .val (.ref b4)] [(.int (16 : Int32)), (.int (p3 ^^^ (-1 : Int32))), (.int (6 : Int32)), (.ref b4)])) _
    refine XS.iushr X10.here hx rfl (hb hby at_74) rfl ?_
    show Steps p.tables e below (T10.setTop (mkF m 75 #[.val (.int p1), .val (.int p2), .val (.int p3), .val (.int (0 : Int32)), .val (.ref b4)] [(.int (((p3 ^^^ (-1 : Int32)).toUInt32 >>> ((16 : Int32) &&& 31).toUInt32).toInt32)), (.int (6 : Int32)), (.ref b4)])) _
    refine XS.i2b X10.here hx rfl (hb hby at_75) rfl ?_
    show Steps p.tables e below (T10.setTop (mkF m 76 #[.val (.int p1), .val (.int p2), .val (.int p3), .val (.int (0 : Int32)), .val (.ref b4)] [(.int ((((p3 ^^^ (-1 : Int32)).toUInt32 >>> ((16 : Int32) &&& 31).toUInt32).toInt32).toInt8.toInt32)), (.int (6 : Int32)), (.ref b4)])) _
    refine st11 _ ?_
    show Steps p.tables e below (T11.setTop (mkF m 77 #[.val (.int p1), .val (.int p2), .val (.int p3), .val (.int (0 : Int32)), .val (.ref b4)] [])) _
    refine XS.aload X11.here hx rfl (hb hby at_77) rfl rfl ?_
    show Steps p.tables e below (T11.setTop (mkF m 79 #[.val (.int p1), .val (.int p2), .val (.int p3), .val (.int (0 : Int32)), .val (.ref b4)] [(.ref b4)])) _
    refine XS.iloadN X11.here hx rfl (hb hby at_79) rfl ?_
    show Steps p.tables e below (T11.setTop (mkF m 80 #[.val (.int p1), .val (.int p2), .val (.int p3), .val (.int (0 : Int32)), .val (.ref b4)] [(.int (0 : Int32)), (.ref b4)])) _
    refine XS.iloadN X11.here hx rfl (hb hby at_80) rfl ?_
    show Steps p.tables e below (T11.setTop (mkF m 81 #[.val (.int p1), .val (.int p2), .val (.int p3), .val (.int (0 : Int32)), .val (.ref b4)] [(.int p1), (.int (0 : Int32)), (.ref b4)])) _
    refine XS.bipush X11.here hx rfl (hb hby at_81) ?_
    show Steps p.tables e below (T11.setTop (mkF m 83 #[.val (.int p1), .val (.int p2), .val (.int p3), .val (.int (0 : Int32)), .val (.ref b4)] [(.int (24 : Int32)), (.int p1), (.int (0 : Int32)), (.ref b4)])) _
    refine XS.iushr X11.here hx rfl (hb hby at_83) rfl ?_
    show Steps p.tables e below (T11.setTop (mkF m 84 #[.val (.int p1), .val (.int p2), .val (.int p3), .val (.int (0 : Int32)), .val (.ref b4)] [(.int ((p1.toUInt32 >>> ((24 : Int32) &&& 31).toUInt32).toInt32)), (.int (0 : Int32)), (.ref b4)])) _
    refine XS.i2b X11.here hx rfl (hb hby at_84) rfl ?_
    show Steps p.tables e below (T11.setTop (mkF m 85 #[.val (.int p1), .val (.int p2), .val (.int p3), .val (.int (0 : Int32)), .val (.ref b4)] [(.int (((p1.toUInt32 >>> ((24 : Int32) &&& 31).toUInt32).toInt32).toInt8.toInt32)), (.int (0 : Int32)), (.ref b4)])) _
    refine st12 _ ?_
    show Steps p.tables e below (T12.setTop (mkF m 86 #[.val (.int p1), .val (.int p2), .val (.int p3), .val (.int (0 : Int32)), .val (.ref b4)] [])) _
    refine XS.aload X12.here hx rfl (hb hby at_86) rfl rfl ?_
    show Steps p.tables e below (T12.setTop (mkF m 88 #[.val (.int p1), .val (.int p2), .val (.int p3), .val (.int (0 : Int32)), .val (.ref b4)] [(.ref b4)])) _
    refine XS.iloadN X12.here hx rfl (hb hby at_88) rfl ?_
    show Steps p.tables e below (T12.setTop (mkF m 89 #[.val (.int p1), .val (.int p2), .val (.int p3), .val (.int (0 : Int32)), .val (.ref b4)] [(.int (0 : Int32)), (.ref b4)])) _
    refine XS.iconst X12.here hx rfl (hb hby at_89) ?_
    show Steps p.tables e below (T12.setTop (mkF m 90 #[.val (.int p1), .val (.int p2), .val (.int p3), .val (.int (0 : Int32)), .val (.ref b4)] [(.int (1 : Int32)), (.int (0 : Int32)), (.ref b4)])) _
    refine XS.iadd X12.here hx rfl (hb hby at_90) rfl ?_
    show Steps p.tables e below (T12.setTop (mkF m 91 #[.val (.int p1), .val (.int p2), .val (.int p3), .val (.int (0 : Int32)), .val (.ref b4)] [(.int ((0 : Int32) + (1 : Int32))), (.ref b4)])) _
    refine XS.iloadN X12.here hx rfl (hb hby at_91) rfl ?_
    show Steps p.tables e below (T12.setTop (mkF m 92 #[.val (.int p1), .val (.int p2), .val (.int p3), .val (.int (0 : Int32)), .val (.ref b4)] [(.int p1), (.int ((0 : Int32) + (1 : Int32))), (.ref b4)])) _
    refine XS.bipush X12.here hx rfl (hb hby at_92) ?_
    show Steps p.tables e below (T12.setTop (mkF m 94 #[.val (.int p1), .val (.int p2), .val (.int p3), .val (.int (0 : Int32)), .val (.ref b4)] [(.int (16 : Int32)), (.int p1), (.int ((0 : Int32) + (1 : Int32))), (.ref b4)])) _
    refine XS.iushr X12.here hx rfl (hb hby at_94) rfl ?_
    show Steps p.tables e below (T12.setTop (mkF m 95 #[.val (.int p1), .val (.int p2), .val (.int p3), .val (.int (0 : Int32)), .val (.ref b4)] [(.int ((p1.toUInt32 >>> ((16 : Int32) &&& 31).toUInt32).toInt32)), (.int ((0 : Int32) + (1 : Int32))), (.ref b4)])) _
    refine XS.i2b X12.here hx rfl (hb hby at_95) rfl ?_
    show Steps p.tables e below (T12.setTop (mkF m 96 #[.val (.int p1), .val (.int p2), .val (.int p3), .val (.int (0 : Int32)), .val (.ref b4)] [(.int (((p1.toUInt32 >>> ((16 : Int32) &&& 31).toUInt32).toInt32).toInt8.toInt32)), (.int ((0 : Int32) + (1 : Int32))), (.ref b4)])) _
    refine st13 _ ?_
    show Steps p.tables e below (T13.setTop (mkF m 97 #[.val (.int p1), .val (.int p2), .val (.int p3), .val (.int (0 : Int32)), .val (.ref b4)] [])) _
    refine XS.aload X13.here hx rfl (hb hby at_97) rfl rfl ?_
    show Steps p.tables e below (T13.setTop (mkF m 99 #[.val (.int p1), .val (.int p2), .val (.int p3), .val (.int (0 : Int32)), .val (.ref b4)] [(.ref b4)])) _
    refine XS.iloadN X13.here hx rfl (hb hby at_99) rfl ?_
    show Steps p.tables e below (T13.setTop (mkF m 100 #[.val (.int p1), .val (.int p2), .val (.int p3), .val (.int (0 : Int32)), .val (.ref b4)] [(.int (0 : Int32)), (.ref b4)])) _
    refine XS.iconst X13.here hx rfl (hb hby at_100) ?_
    show Steps p.tables e below (T13.setTop (mkF m 101 #[.val (.int p1), .val (.int p2), .val (.int p3), .val (.int (0 : Int32)), .val (.ref b4)] [(.int (2 : Int32)), (.int (0 : Int32)), (.ref b4)])) _
    refine XS.iadd X13.here hx rfl (hb hby at_101) rfl ?_
    show Steps p.tables e below (T13.setTop (mkF m 102 #[.val (.int p1), .val (.int p2), .val (.int p3), .val (.int (0 : Int32)), .val (.ref b4)] [(.int ((0 : Int32) + (2 : Int32))), (.ref b4)])) _
    refine XS.iloadN X13.here hx rfl (hb hby at_102) rfl ?_
    show Steps p.tables e below (T13.setTop (mkF m 103 #[.val (.int p1), .val (.int p2), .val (.int p3), .val (.int (0 : Int32)), .val (.ref b4)] [(.int p1), (.int ((0 : Int32) + (2 : Int32))), (.ref b4)])) _
    refine XS.bipush X13.here hx rfl (hb hby at_103) ?_
    show Steps p.tables e below (T13.setTop (mkF m 105 #[.val (.int p1), .val (.int p2), .val (.int p3), .val (.int (0 : Int32)), .val (.ref b4)] [(.int (8 : Int32)), (.int p1), (.int ((0 : Int32) + (2 : Int32))), (.ref b4)])) _
    refine XS.iushr X13.here hx rfl (hb hby at_105) rfl ?_
    show Steps p.tables e below (T13.setTop (mkF m 106 #[.val (.int p1), .val (.int p2), .val (.int p3), .val (.int (0 : Int32)), .val (.ref b4)] [(.int ((p1.toUInt32 >>> ((8 : Int32) &&& 31).toUInt32).toInt32)), (.int ((0 : Int32) + (2 : Int32))), (.ref b4)])) _
    refine XS.i2b X13.here hx rfl (hb hby at_106) rfl ?_
    show Steps p.tables e below (T13.setTop (mkF m 107 #[.val (.int p1), .val (.int p2), .val (.int p3), .val (.int (0 : Int32)), .val (.ref b4)] [(.int (((p1.toUInt32 >>> ((8 : Int32) &&& 31).toUInt32).toInt32).toInt8.toInt32)), (.int ((0 : Int32) + (2 : Int32))), (.ref b4)])) _
    refine st14 _ ?_
    show Steps p.tables e below (T14.setTop (mkF m 108 #[.val (.int p1), .val (.int p2), .val (.int p3), .val (.int (0 : Int32)), .val (.ref b4)] [])) _
    refine XS.aload X14.here hx rfl (hb hby at_108) rfl rfl ?_
    show Steps p.tables e below (T14.setTop (mkF m 110 #[.val (.int p1), .val (.int p2), .val (.int p3), .val (.int (0 : Int32)), .val (.ref b4)] [(.ref b4)])) _
    refine XS.iloadN X14.here hx rfl (hb hby at_110) rfl ?_
    show Steps p.tables e below (T14.setTop (mkF m 111 #[.val (.int p1), .val (.int p2), .val (.int p3), .val (.int (0 : Int32)), .val (.ref b4)] [(.int (0 : Int32)), (.ref b4)])) _
    refine XS.iconst X14.here hx rfl (hb hby at_111) ?_
    show Steps p.tables e below (T14.setTop (mkF m 112 #[.val (.int p1), .val (.int p2), .val (.int p3), .val (.int (0 : Int32)), .val (.ref b4)] [(.int (3 : Int32)), (.int (0 : Int32)), (.ref b4)])) _
    refine XS.iadd X14.here hx rfl (hb hby at_112) rfl ?_
    show Steps p.tables e below (T14.setTop (mkF m 113 #[.val (.int p1), .val (.int p2), .val (.int p3), .val (.int (0 : Int32)), .val (.ref b4)] [(.int ((0 : Int32) + (3 : Int32))), (.ref b4)])) _
    refine XS.iloadN X14.here hx rfl (hb hby at_113) rfl ?_
    show Steps p.tables e below (T14.setTop (mkF m 114 #[.val (.int p1), .val (.int p2), .val (.int p3), .val (.int (0 : Int32)), .val (.ref b4)] [(.int p1), (.int ((0 : Int32) + (3 : Int32))), (.ref b4)])) _
    refine XS.i2b X14.here hx rfl (hb hby at_114) rfl ?_
    show Steps p.tables e below (T14.setTop (mkF m 115 #[.val (.int p1), .val (.int p2), .val (.int p3), .val (.int (0 : Int32)), .val (.ref b4)] [(.int (p1.toInt8.toInt32)), (.int ((0 : Int32) + (3 : Int32))), (.ref b4)])) _
    refine st15 _ ?_
    show Steps p.tables e below (T15.setTop (mkF m 116 #[.val (.int p1), .val (.int p2), .val (.int p3), .val (.int (0 : Int32)), .val (.ref b4)] [])) _
    refine XS.aload X15.here hx rfl (hb hby at_116) rfl rfl ?_
    show Steps p.tables e below (T15.setTop (mkF m 118 #[.val (.int p1), .val (.int p2), .val (.int p3), .val (.int (0 : Int32)), .val (.ref b4)] [(.ref b4)])) _
    refine XS.iloadN X15.here hx rfl (hb hby at_118) rfl ?_
    show Steps p.tables e below (T15.setTop (mkF m 119 #[.val (.int p1), .val (.int p2), .val (.int p3), .val (.int (0 : Int32)), .val (.ref b4)] [(.int (0 : Int32)), (.ref b4)])) _
    refine st16 _ ?_
    show Steps p.tables e below (T16.setTop (mkF m 122 #[.val (.int p1), .val (.int p2), .val (.int p3), .val (.int (0 : Int32)), .val (.ref b4)] [(.int (((((((((p1.toUInt32 >>> ((24 : Int32) &&& 31).toUInt32).toInt32).toInt8.toInt32).toInt8.toInt32) &&& (255 : Int32)) <<< ((24 : Int32) &&& 31)) ||| ((((((p1.toUInt32 >>> ((16 : Int32) &&& 31).toUInt32).toInt32).toInt8.toInt32).toInt8.toInt32) &&& (255 : Int32)) <<< ((16 : Int32) &&& 31))) ||| ((((((p1.toUInt32 >>> ((8 : Int32) &&& 31).toUInt32).toInt32).toInt8.toInt32).toInt8.toInt32) &&& (255 : Int32)) <<< ((8 : Int32) &&& 31))) ||| ((((p1).toInt8.toInt32).toInt8.toInt32) &&& (255 : Int32))))])) _
    refine XS.iloadN X16.here hx rfl (hb hby at_122) rfl ?_
    show Steps p.tables e below (T16.setTop (mkF m 123 #[.val (.int p1), .val (.int p2), .val (.int p3), .val (.int (0 : Int32)), .val (.ref b4)] [(.int p1), (.int (((((((((p1.toUInt32 >>> ((24 : Int32) &&& 31).toUInt32).toInt32).toInt8.toInt32).toInt8.toInt32) &&& (255 : Int32)) <<< ((24 : Int32) &&& 31)) ||| ((((((p1.toUInt32 >>> ((16 : Int32) &&& 31).toUInt32).toInt32).toInt8.toInt32).toInt8.toInt32) &&& (255 : Int32)) <<< ((16 : Int32) &&& 31))) ||| ((((((p1.toUInt32 >>> ((8 : Int32) &&& 31).toUInt32).toInt32).toInt8.toInt32).toInt8.toInt32) &&& (255 : Int32)) <<< ((8 : Int32) &&& 31))) ||| ((((p1).toInt8.toInt32).toInt8.toInt32) &&& (255 : Int32))))])) _
    refine XS.icmpNo X16.here hx rfl (hb hby at_123) rfl (teq (own_be p1 : (((((((((p1.toUInt32 >>> ((24 : Int32) &&& 31).toUInt32).toInt32).toInt8.toInt32).toInt8.toInt32) &&& (255 : Int32)) <<< ((24 : Int32) &&& 31)) ||| ((((((p1.toUInt32 >>> ((16 : Int32) &&& 31).toUInt32).toInt32).toInt8.toInt32).toInt8.toInt32) &&& (255 : Int32)) <<< ((16 : Int32) &&& 31))) ||| ((((((p1.toUInt32 >>> ((8 : Int32) &&& 31).toUInt32).toInt32).toInt8.toInt32).toInt8.toInt32) &&& (255 : Int32)) <<< ((8 : Int32) &&& 31))) ||| ((((p1).toInt8.toInt32).toInt8.toInt32) &&& (255 : Int32))) = p1)).2 ?_
    show Steps p.tables e below (T16.setTop (mkF m 126 #[.val (.int p1), .val (.int p2), .val (.int p3), .val (.int (0 : Int32)), .val (.ref b4)] [])) _
    refine XS.iconst X16.here hx rfl (hb hby at_126) ?_
    show Steps p.tables e below (T16.setTop (mkF m 127 #[.val (.int p1), .val (.int p2), .val (.int p3), .val (.int (0 : Int32)), .val (.ref b4)] [(.int (1 : Int32))])) _
    refine XS.goto X16.here hx rfl (pc0 := 127) (pc' := 131) rfl (hb hby at_127) (by decide) (by decide) ?_
    show Steps p.tables e below (T16.setTop (mkF m 131 #[.val (.int p1), .val (.int p2), .val (.int p3), .val (.int (0 : Int32)), .val (.ref b4)] [(.int (1 : Int32))])) _
    exact retN X16 hx (t := .boolean) Bd.returns (by simp) (hb hby at_131) hr
  · show Ql (some (.int (1 : Int32))) n0 _ _
    exact ⟨rfl, N16⟩
set_option maxRecDepth 65536 in
set_option maxHeartbeats 40000000 in
theorem rm0_o1 (l : Launch) (Z : State) (a0 : Array Value) (hw : ∀ d ∈ tables_1, d.before a0 Z = true) (ws : List Jvm.Cond) (p1 : Int32) (p2 : Int32) (p3 : Int32) (h0 : Heap) (n0 : Nat) (Z0 : n0 ≤ h0.size) (hoo : (own_rem (p2 &&& (2147483647 : Int32)) (4 : Int32)) = (1 : Int32)) :
    MetFree l x (head1 (Jvm.Cond.code x code maxLocals ret :: ws) room_1) (fun a U => a = #[(.int p1), (.int p2), (.int p3)] ∧ Z.Warmed39 U.vm ∧ U.heap = h0) (fun _ _ _ _ _ => True) (fun _ U o U' => ∃ v L, o = .returned v ∧ Ql (some (.int (1 : Int32))) n0 v L ∧ FrameEnd U o U' L room_1.cells room_1.slots) := by
  refine MetFree.of_bodySF (plainFor_of_name pn_0) hisR ?_
  intro p e s m args below meth c s₁ Bd hml0 hP hK
  obtain ⟨rfl, hZ, hh⟩ := hP
  have hx := Bd.exec
  have hby := Bd.bytes
  have hml : c.maxLocals = 5 := hml0
  have hown : s.vm.findClass "com/example/telegrid/telegrid/esp3/BigEndianIntAtPinLaw" = some m.cls := findClass_of_methodNamed Bd.named
  have hnm := (name_of_methodNamed Bd.named Bd.method).1
  have X0 : Stand p l e room_1 s m #[(.int p1), (.int p2), (.int p3)] below meth c s₁ [] 0 0 := Stand.of_body Bd
  have e0 : s₁.heap = h0 := by rw [← hh, Bd.state]; rfl
  have N0 := Fr.nil n0
  have pre0 : ∀ t, Steps p.tables e below (s₁.setTop (mkF m 0 #[.val (.int p1), .val (.int p2), .val (.int p3), .unset, .unset] [])) t → Steps p.tables e below (s₁.setTop (entryFrame m #[(.int p1), (.int p2), (.int p3)] maxLocals)) t := fun t k => castTop (ef_0 m p1 p2 p3) k
  -- 3. LAWS
  obtain ⟨T4, h4, k4, X4, e4, E4, A4, st4⟩ := newP X0 hx hZ (hw _ (List.mem_of_getElem? (i := 1) rfl)) e0 (g := (mkF m 9 #[.val (.int p1), .val (.int p2), .val (.int p3), .val (.int (1 : Int32)), .unset] [(.int (7 : Int32))])) rfl (hb hby at_9) rfl (by decide) (cap := 7) (by decide) (by decide) (by decide) (by decide)
  obtain ⟨b4, g4⟩ : ∃ z, z = h0.size := ⟨_, rfl⟩      -- the fresh array's address
  rw [← g4] at A4 st4
  have V_b4 : Arv Z h4 b4 k4 .byte (7 : Int32) [(.int (0 : Int32)), (.int (0 : Int32)), (.int (0 : Int32)), (.int (0 : Int32)), (.int (0 : Int32)), (.int (0 : Int32)), (.int (0 : Int32))] (.int (0 : Int32)) := (Arv.new A4 (by decide)).pad (pad_rep [] (.int (0 : Int32)) 7)
  have g_b4 : n0 ≤ b4 := Nat.le_trans Z0 (Nat.le_of_eq g4.symm)
  have sz_b4 : h0.size ≤ b4 := (Nat.le_trans (Keep.refl h0 []).1 (Nat.le_of_eq g4.symm))
  have K4 : Keep h0 h4 [] := (Keep.refl h0 []).ext E4
  obtain ⟨cl_b4_18, Ar_b4, q_b4, S_b4, N_b4, H_b4, G_b4⟩ := V_b4      -- open the array's fact as it stands now (its cell, kind, length, elements)
  have hin18 : ¬ ((0 : Int32) < 0 ∨ cl_b4_18.slots.size ≤ ((0 : Int32)).toNatClampNeg) := inb_of S_b4 ⟨by decide, by decide⟩
  obtain ⟨T5, h5, X5, e5, W5, st5⟩ := stB X4 hx hZ e4 Ar_b4 (j := (0 : Int32)) hin18 (g := (mkF m 18 #[.val (.int p1), .val (.int p2), .val (.int p3), .val (.int (1 : Int32)), .val (.ref b4)] [(.int (p3.toInt8.toInt32)), (.int (0 : Int32)), (.ref b4)])) rfl rfl (hb hby at_18)
  have V_b4_5 := Arv.set Ar_b4 q_b4 S_b4 N_b4 H_b4 G_b4 (fits_nar_byte _) W5 0 rfl (Nat.le_of_ble_eq_true rfl)      -- the array as it stands now (the place must lie among its first values: Arv.pad with pad_rep lengthens them)
  have K5 : Keep h0 h5 [] := K4.wr W5 (Or.inr sz_b4)
  have N5 := Fr.snoc X5 N0 g_b4
  -- (bastore into a boolean[]: stZ in stB's place)
  obtain ⟨cl_b4_27, Ar_b4, q_b4, S_b4, N_b4, H_b4, G_b4⟩ := V_b4_5      -- open the array's fact as it stands now (its cell, kind, length, elements)
  have hin27 : ¬ ((1 : Int32) < 0 ∨ cl_b4_27.slots.size ≤ ((1 : Int32)).toNatClampNeg) := inb_of S_b4 ⟨by decide, by decide⟩
  obtain ⟨T6, h6, X6, e6, W6, st6⟩ := stB X5 hx hZ e5 Ar_b4 (j := (1 : Int32)) hin27 (g := (mkF m 27 #[.val (.int p1), .val (.int p2), .val (.int p3), .val (.int (1 : Int32)), .val (.ref b4)] [(.int (((p3.toUInt32 >>> ((8 : Int32) &&& 31).toUInt32).toInt32).toInt8.toInt32)), (.int (1 : Int32)), (.ref b4)])) rfl rfl (hb hby at_27)
  have V_b4_6 := Arv.set Ar_b4 q_b4 S_b4 N_b4 H_b4 G_b4 (fits_nar_byte _) W6 1 rfl (Nat.le_of_ble_eq_true rfl)      -- the array as it stands now (the place must lie among its first values: Arv.pad with pad_rep lengthens them)
  have K6 : Keep h0 h6 [] := K5.wr W6 (Or.inr sz_b4)
  have N6 := Fr.snoc X6 N5 g_b4
  -- (bastore into a boolean[]: stZ in stB's place)
  obtain ⟨cl_b4_36, Ar_b4, q_b4, S_b4, N_b4, H_b4, G_b4⟩ := V_b4_6      -- open the array's fact as it stands now (its cell, kind, length, elements)
  have hin36 : ¬ ((2 : Int32) < 0 ∨ cl_b4_36.slots.size ≤ ((2 : Int32)).toNatClampNeg) := inb_of S_b4 ⟨by decide, by decide⟩
  obtain ⟨T7, h7, X7, e7, W7, st7⟩ := stB X6 hx hZ e6 Ar_b4 (j := (2 : Int32)) hin36 (g := (mkF m 36 #[.val (.int p1), .val (.int p2), .val (.int p3), .val (.int (1 : Int32)), .val (.ref b4)] [(.int (((p3.toUInt32 >>> ((16 : Int32) &&& 31).toUInt32).toInt32).toInt8.toInt32)), (.int (2 : Int32)), (.ref b4)])) rfl rfl (hb hby at_36)
  have V_b4_7 := Arv.set Ar_b4 q_b4 S_b4 N_b4 H_b4 G_b4 (fits_nar_byte _) W7 2 rfl (Nat.le_of_ble_eq_true rfl)      -- the array as it stands now (the place must lie among its first values: Arv.pad with pad_rep lengthens them)
  have K7 : Keep h0 h7 [] := K6.wr W7 (Or.inr sz_b4)
  have N7 := Fr.snoc X7 N6 g_b4
  -- (bastore into a boolean[]: stZ in stB's place)
  obtain ⟨cl_b4_45, Ar_b4, q_b4, S_b4, N_b4, H_b4, G_b4⟩ := V_b4_7      -- open the array's fact as it stands now (its cell, kind, length, elements)
  have hin45 : ¬ ((3 : Int32) < 0 ∨ cl_b4_45.slots.size ≤ ((3 : Int32)).toNatClampNeg) := inb_of S_b4 ⟨by decide, by decide⟩
  obtain ⟨T8, h8, X8, e8, W8, st8⟩ := stB X7 hx hZ e7 Ar_b4 (j := (3 : Int32)) hin45 (g := (mkF m 45 #[.val (.int p1), .val (.int p2), .val (.int p3), .val (.int (1 : Int32)), .val (.ref b4)] [(.int (((p3.toUInt32 >>> ((24 : Int32) &&& 31).toUInt32).toInt32).toInt8.toInt32)), (.int (3 : Int32)), (.ref b4)])) rfl rfl (hb hby at_45)
  have V_b4_8 := Arv.set Ar_b4 q_b4 S_b4 N_b4 H_b4 G_b4 (fits_nar_byte _) W8 3 rfl (Nat.le_of_ble_eq_true rfl)      -- the array as it stands now (the place must lie among its first values: Arv.pad with pad_rep lengthens them)
  have K8 : Keep h0 h8 [] := K7.wr W8 (Or.inr sz_b4)
  have N8 := Fr.snoc X8 N7 g_b4
  -- (bastore into a boolean[]: stZ in stB's place)
  obtain ⟨cl_b4_53, Ar_b4, q_b4, S_b4, N_b4, H_b4, G_b4⟩ := V_b4_8      -- open the array's fact as it stands now (its cell, kind, length, elements)
  have hin53 : ¬ ((4 : Int32) < 0 ∨ cl_b4_53.slots.size ≤ ((4 : Int32)).toNatClampNeg) := inb_of S_b4 ⟨by decide, by decide⟩
  obtain ⟨T9, h9, X9, e9, W9, st9⟩ := stB X8 hx hZ e8 Ar_b4 (j := (4 : Int32)) hin53 (g := (mkF m 53 #[.val (.int p1), .val (.int p2), .val (.int p3), .val (.int (1 : Int32)), .val (.ref b4)] [(.int ((p3 ^^^ (-1 : Int32)).toInt8.toInt32)), (.int (4 : Int32)), (.ref b4)])) rfl rfl (hb hby at_53)
  have V_b4_9 := Arv.set Ar_b4 q_b4 S_b4 N_b4 H_b4 G_b4 (fits_nar_byte _) W9 4 rfl (Nat.le_of_ble_eq_true rfl)      -- the array as it stands now (the place must lie among its first values: Arv.pad with pad_rep lengthens them)
  have K9 : Keep h0 h9 [] := K8.wr W9 (Or.inr sz_b4)
  have N9 := Fr.snoc X9 N8 g_b4
  -- (bastore into a boolean[]: stZ in stB's place)
  obtain ⟨cl_b4_64, Ar_b4, q_b4, S_b4, N_b4, H_b4, G_b4⟩ := V_b4_9      -- open the array's fact as it stands now (its cell, kind, length, elements)
  have hin64 : ¬ ((5 : Int32) < 0 ∨ cl_b4_64.slots.size ≤ ((5 : Int32)).toNatClampNeg) := inb_of S_b4 ⟨by decide, by decide⟩
  obtain ⟨T10, h10, X10, e10, W10, st10⟩ := stB X9 hx hZ e9 Ar_b4 (j := (5 : Int32)) hin64 (g := (mkF m 64 #[.val (.int p1), .val (.int p2), .val (.int p3), .val (.int (1 : Int32)), .val (.ref b4)] [(.int ((((p3 ^^^ (-1 : Int32)).toUInt32 >>> ((8 : Int32) &&& 31).toUInt32).toInt32).toInt8.toInt32)), (.int (5 : Int32)), (.ref b4)])) rfl rfl (hb hby at_64)
  have V_b4_10 := Arv.set Ar_b4 q_b4 S_b4 N_b4 H_b4 G_b4 (fits_nar_byte _) W10 5 rfl (Nat.le_of_ble_eq_true rfl)      -- the array as it stands now (the place must lie among its first values: Arv.pad with pad_rep lengthens them)
  have K10 : Keep h0 h10 [] := K9.wr W10 (Or.inr sz_b4)
  have N10 := Fr.snoc X10 N9 g_b4
  -- (bastore into a boolean[]: stZ in stB's place)
  obtain ⟨cl_b4_76, Ar_b4, q_b4, S_b4, N_b4, H_b4, G_b4⟩ := V_b4_10      -- open the array's fact as it stands now (its cell, kind, length, elements)
  have hin76 : ¬ ((6 : Int32) < 0 ∨ cl_b4_76.slots.size ≤ ((6 : Int32)).toNatClampNeg) := inb_of S_b4 ⟨by decide, by decide⟩
  obtain ⟨T11, h11, X11, e11, W11, st11⟩ := stB X10 hx hZ e10 Ar_b4 (j := (6 : Int32)) hin76 (g := (mkF m 76 #[.val (.int p1), .val (.int p2), .val (.int p3), .val (.int (1 : Int32)), .val (.ref b4)] [(.int ((((p3 ^^^ (-1 : Int32)).toUInt32 >>> ((16 : Int32) &&& 31).toUInt32).toInt32).toInt8.toInt32)), (.int (6 : Int32)), (.ref b4)])) rfl rfl (hb hby at_76)
  have V_b4_11 := Arv.set Ar_b4 q_b4 S_b4 N_b4 H_b4 G_b4 (fits_nar_byte _) W11 6 rfl (Nat.le_of_ble_eq_true rfl)      -- the array as it stands now (the place must lie among its first values: Arv.pad with pad_rep lengthens them)
  have K11 : Keep h0 h11 [] := K10.wr W11 (Or.inr sz_b4)
  have N11 := Fr.snoc X11 N10 g_b4
  -- (bastore into a boolean[]: stZ in stB's place)
  obtain ⟨cl_b4_85, Ar_b4, q_b4, S_b4, N_b4, H_b4, G_b4⟩ := V_b4_11      -- open the array's fact as it stands now (its cell, kind, length, elements)
  have hin85 : ¬ ((1 : Int32) < 0 ∨ cl_b4_85.slots.size ≤ ((1 : Int32)).toNatClampNeg) := inb_of S_b4 ⟨by decide, by decide⟩
  obtain ⟨T12, h12, X12, e12, W12, st12⟩ := stB X11 hx hZ e11 Ar_b4 (j := (1 : Int32)) hin85 (g := (mkF m 85 #[.val (.int p1), .val (.int p2), .val (.int p3), .val (.int (1 : Int32)), .val (.ref b4)] [(.int (((p1.toUInt32 >>> ((24 : Int32) &&& 31).toUInt32).toInt32).toInt8.toInt32)), (.int (1 : Int32)), (.ref b4)])) rfl rfl (hb hby at_85)
  have V_b4_12 := Arv.set Ar_b4 q_b4 S_b4 N_b4 H_b4 G_b4 (fits_nar_byte _) W12 1 rfl (Nat.le_of_ble_eq_true rfl)      -- the array as it stands now (the place must lie among its first values: Arv.pad with pad_rep lengthens them)
  have K12 : Keep h0 h12 [] := K11.wr W12 (Or.inr sz_b4)
  have N12 := Fr.snoc X12 N11 g_b4
  -- (bastore into a boolean[]: stZ in stB's place)
  obtain ⟨cl_b4_96, Ar_b4, q_b4, S_b4, N_b4, H_b4, G_b4⟩ := V_b4_12      -- open the array's fact as it stands now (its cell, kind, length, elements)
  have hin96 : ¬ (((1 : Int32) + (1 : Int32)) < 0 ∨ cl_b4_96.slots.size ≤ (((1 : Int32) + (1 : Int32))).toNatClampNeg) := inb_of S_b4 ⟨by decide, by decide⟩
  obtain ⟨T13, h13, X13, e13, W13, st13⟩ := stB X12 hx hZ e12 Ar_b4 (j := ((1 : Int32) + (1 : Int32))) hin96 (g := (mkF m 96 #[.val (.int p1), .val (.int p2), .val (.int p3), .val (.int (1 : Int32)), .val (.ref b4)] [(.int (((p1.toUInt32 >>> ((16 : Int32) &&& 31).toUInt32).toInt32).toInt8.toInt32)), (.int ((1 : Int32) + (1 : Int32))), (.ref b4)])) rfl rfl (hb hby at_96)
  have V_b4_13 := Arv.set Ar_b4 q_b4 S_b4 N_b4 H_b4 G_b4 (fits_nar_byte _) W13 2 rfl (Nat.le_of_ble_eq_true rfl)      -- the array as it stands now (the place must lie among its first values: Arv.pad with pad_rep lengthens them)
  have K13 : Keep h0 h13 [] := K12.wr W13 (Or.inr sz_b4)
  have N13 := Fr.snoc X13 N12 g_b4
  -- (bastore into a boolean[]: stZ in stB's place)
  obtain ⟨cl_b4_107, Ar_b4, q_b4, S_b4, N_b4, H_b4, G_b4⟩ := V_b4_13      -- open the array's fact as it stands now (its cell, kind, length, elements)
  have hin107 : ¬ (((1 : Int32) + (2 : Int32)) < 0 ∨ cl_b4_107.slots.size ≤ (((1 : Int32) + (2 : Int32))).toNatClampNeg) := inb_of S_b4 ⟨by decide, by decide⟩
  obtain ⟨T14, h14, X14, e14, W14, st14⟩ := stB X13 hx hZ e13 Ar_b4 (j := ((1 : Int32) + (2 : Int32))) hin107 (g := (mkF m 107 #[.val (.int p1), .val (.int p2), .val (.int p3), .val (.int (1 : Int32)), .val (.ref b4)] [(.int (((p1.toUInt32 >>> ((8 : Int32) &&& 31).toUInt32).toInt32).toInt8.toInt32)), (.int ((1 : Int32) + (2 : Int32))), (.ref b4)])) rfl rfl (hb hby at_107)
  have V_b4_14 := Arv.set Ar_b4 q_b4 S_b4 N_b4 H_b4 G_b4 (fits_nar_byte _) W14 3 rfl (Nat.le_of_ble_eq_true rfl)      -- the array as it stands now (the place must lie among its first values: Arv.pad with pad_rep lengthens them)
  have K14 : Keep h0 h14 [] := K13.wr W14 (Or.inr sz_b4)
  have N14 := Fr.snoc X14 N13 g_b4
  -- (bastore into a boolean[]: stZ in stB's place)
  obtain ⟨cl_b4_115, Ar_b4, q_b4, S_b4, N_b4, H_b4, G_b4⟩ := V_b4_14      -- open the array's fact as it stands now (its cell, kind, length, elements)
  have hin115 : ¬ (((1 : Int32) + (3 : Int32)) < 0 ∨ cl_b4_115.slots.size ≤ (((1 : Int32) + (3 : Int32))).toNatClampNeg) := inb_of S_b4 ⟨by decide, by decide⟩
  obtain ⟨T15, h15, X15, e15, W15, st15⟩ := stB X14 hx hZ e14 Ar_b4 (j := ((1 : Int32) + (3 : Int32))) hin115 (g := (mkF m 115 #[.val (.int p1), .val (.int p2), .val (.int p3), .val (.int (1 : Int32)), .val (.ref b4)] [(.int (p1.toInt8.toInt32)), (.int ((1 : Int32) + (3 : Int32))), (.ref b4)])) rfl rfl (hb hby at_115)
  have V_b4_15 := Arv.set Ar_b4 q_b4 S_b4 N_b4 H_b4 G_b4 (fits_nar_byte _) W15 4 rfl (Nat.le_of_ble_eq_true rfl)      -- the array as it stands now (the place must lie among its first values: Arv.pad with pad_rep lengthens them)
  have K15 : Keep h0 h15 [] := K14.wr W15 (Or.inr sz_b4)
  have N15 := Fr.snoc X15 N14 g_b4
  -- (bastore into a boolean[]: stZ in stB's place)
  -- pc 119: com/example/telegrid/telegrid/esp3/BigEndian.intAt by its contract rm1
  obtain ⟨cl_c, Ar_c, q_c, S_c, N_c, H_c, G_c⟩ := V_b4_15
  have hn0 : ¬ ((1 : Int32) < 0 ∨ cl_c.slots.size ≤ ((1 : Int32)).toNatClampNeg) := inb_of S_c ⟨by decide, by decide⟩
  have hn1 : ¬ (((1 : Int32) + (1 : Int32)) < 0 ∨ cl_c.slots.size ≤ (((1 : Int32) + (1 : Int32))).toNatClampNeg) := inb_of S_c ⟨by decide, by decide⟩
  have hn2 : ¬ (((1 : Int32) + (2 : Int32)) < 0 ∨ cl_c.slots.size ≤ (((1 : Int32) + (2 : Int32))).toNatClampNeg) := inb_of S_c ⟨by decide, by decide⟩
  have hn3 : ¬ (((1 : Int32) + (3 : Int32)) < 0 ∨ cl_c.slots.size ≤ (((1 : Int32) + (3 : Int32))).toNatClampNeg) := inb_of S_c ⟨by decide, by decide⟩
  obtain ⟨_, _, ⟨T16, L16, k16, n16⟩, -, X16, ⟨Lc16, hQ16, l16, y16, z16⟩, st16⟩ := Jvm.LawKit.callS X15 hx (y := (⟨"com/example/telegrid/telegrid/esp3/BigEndian", "intAt", "([BI)I"⟩ : MethodName)) hown (mvT hZ (hw _ (List.mem_of_getElem? (i := 2) rfl))) (mvT hZ (hw _ (List.mem_of_getElem? (i := 3) rfl))) (mvT hZ (hw _ (List.mem_of_getElem? (i := 4) rfl))) (mvT hZ (hw _ (List.mem_of_getElem? (i := 5) rfl))) (by decide) (backOf (W := 0) (rm1 l Z a0 hw [] b4 (1 : Int32) ((((p1.toUInt32 >>> ((24 : Int32) &&& 31).toUInt32).toInt32).toInt8.toInt32).toInt8.toInt32) cl_c ((((p1.toUInt32 >>> ((16 : Int32) &&& 31).toUInt32).toInt32).toInt8.toInt32).toInt8.toInt32) ((((p1.toUInt32 >>> ((8 : Int32) &&& 31).toUInt32).toInt32).toInt8.toInt32).toInt8.toInt32) (((p1).toInt8.toInt32).toInt8.toInt32) h15 n0 (Nat.le_trans Z0 K15.1) Ar_c hn0 (H_c.at hn0 rfl) hn1 (H_c.at hn1 rfl) hn2 (H_c.at hn2 rfl) hn3 (H_c.at hn3 rfl)) hZ (hw _ (List.mem_of_getElem? (i := 5) rfl)) (hw _ (List.mem_of_getElem? (i := 4) rfl)) (by decide) (by decide)) (g := (mkF m 119 #[.val (.int p1), .val (.int p2), .val (.int p3), .val (.int (1 : Int32)), .val (.ref b4)] [(.int (1 : Int32)), (.ref b4)])) rfl (by rw [hml]; rfl) (argsL := [(.ref b4), (.int (1 : Int32))]) (rest := []) (lenOf pd_0_0 rfl) rfl (by show 2 * 0 + _ ≤ _; exact Nat.le_of_eq rfl) (hb hby at_119) (fun _ _ => ⟨rfl, e15, (by decide : 1 + 0 ≤ _), (by decide : 7 + 0 ≤ _)⟩)
  dsimp only [Pt.U, Pt.locs, Pt.cells, Pt.slots] at X16 l16 y16 z16 st16 hQ16
  subst l16 y16 z16
  obtain ⟨rfl, N16q, e16⟩ := hQ16      -- what it returned, that it wrote nothing old, and the rest of your Q1
  have N16 := Fr.app N15 N16q
  obtain ⟨fs, hr, hrun, hended, hW, hsame⟩ := X16.leave (v := some (.int (1 : Int32))) (fun h => by rw [Bd.returns] at h; cases h)
  refine ⟨_, _, pre0 _ ?_, hrun, hended, _, _, rfl, ?_, ⟨_, rfl⟩, hW, hsame.mono (by decide) (by decide)⟩
  -- 4. STEPS
  · show Steps p.tables e below (s₁.setTop (mkF m 0 #[.val (.int p1), .val (.int p2), .val (.int p3), .unset, .unset] [])) _
    refine XS.iloadN X0.here hx rfl (hb hby at_0) rfl ?_
    show Steps p.tables e below (s₁.setTop (mkF m 1 #[.val (.int p1), .val (.int p2), .val (.int p3), .unset, .unset] [(.int p2)])) _
    refine X0.ldcInt hx hown (mvT hZ (hw _ (List.mem_of_getElem? (i := 0) rfl))) (g := (mkF m 1 #[.val (.int p1), .val (.int p2), .val (.int p3), .unset, .unset] [(.int p2)])) rfl (hb hby at_1) _ ?_
    show Steps p.tables e below (s₁.setTop (mkF m 3 #[.val (.int p1), .val (.int p2), .val (.int p3), .unset, .unset] [(.int (2147483647 : Int32)), (.int p2)])) _
    refine XS.iand X0.here hx rfl (hb hby at_3) rfl ?_
    show Steps p.tables e below (s₁.setTop (mkF m 4 #[.val (.int p1), .val (.int p2), .val (.int p3), .unset, .unset] [(.int (p2 &&& (2147483647 : Int32)))])) _
    refine XS.iconst X0.here hx rfl (hb hby at_4) ?_
    show Steps p.tables e below (s₁.setTop (mkF m 5 #[.val (.int p1), .val (.int p2), .val (.int p3), .unset, .unset] [(.int (4 : Int32)), (.int (p2 &&& (2147483647 : Int32)))])) _
    refine own_iremE X0 hx rfl (hb hby at_5) rfl (by decide) hoo ?_
    show Steps p.tables e below (s₁.setTop (mkF m 6 #[.val (.int p1), .val (.int p2), .val (.int p3), .unset, .unset] [(.int (1 : Int32))])) _
    refine XS.istoreN X0.here hx rfl (hb hby at_6) rfl (l' := #[.val (.int p1), .val (.int p2), .val (.int p3), .val (.int (1 : Int32)), .unset]) rfl ?_
    show Steps p.tables e below (s₁.setTop (mkF m 7 #[.val (.int p1), .val (.int p2), .val (.int p3), .val (.int (1 : Int32)), .unset] [])) _
    refine XS.bipush X0.here hx rfl (hb hby at_7) ?_
    show Steps p.tables e below (s₁.setTop (mkF m 9 #[.val (.int p1), .val (.int p2), .val (.int p3), .val (.int (1 : Int32)), .unset] [(.int (7 : Int32))])) _
    refine st4 _ ?_
    show Steps p.tables e below (T4.setTop (mkF m 11 #[.val (.int p1), .val (.int p2), .val (.int p3), .val (.int (1 : Int32)), .unset] [(.ref b4)])) _
    refine XS.astore X4.here hx rfl (hb hby at_11) rfl rfl (l' := #[.val (.int p1), .val (.int p2), .val (.int p3), .val (.int (1 : Int32)), .val (.ref b4)]) rfl ?_
    show Steps p.tables e below (T4.setTop (mkF m 13 #[.val (.int p1), .val (.int p2), .val (.int p3), .val (.int (1 : Int32)), .val (.ref b4)] [])) _
    refine XS.aload X4.here hx rfl (hb hby at_13) rfl rfl ?_
    show Steps p.tables e below (T4.setTop (mkF m 15 #[.val (.int p1), .val (.int p2), .val (.int p3), .val (.int (1 : Int32)), .val (.ref b4)] [(.ref b4)])) _
    refine XS.iconst X4.here hx rfl (hb hby at_15) ?_
    show Steps p.tables e below (T4.setTop (mkF m 16 #[.val (.int p1), .val (.int p2), .val (.int p3), .val (.int (1 : Int32)), .val (.ref b4)] [(.int (0 : Int32)), (.ref b4)])) _
    refine XS.iloadN X4.here hx rfl (hb hby at_16) rfl ?_
    show Steps p.tables e below (T4.setTop (mkF m 17 #[.val (.int p1), .val (.int p2), .val (.int p3), .val (.int (1 : Int32)), .val (.ref b4)] [(.int p3), (.int (0 : Int32)), (.ref b4)])) _
    refine XS.i2b X4.here hx rfl (hb hby at_17) rfl ?_
    show Steps p.tables e below (T4.setTop (mkF m 18 #[.val (.int p1), .val (.int p2), .val (.int p3), .val (.int (1 : Int32)), .val (.ref b4)] [(.int (p3.toInt8.toInt32)), (.int (0 : Int32)), (.ref b4)])) _
    refine st5 _ ?_
    show Steps p.tables e below (T5.setTop (mkF m 19 #[.val (.int p1), .val (.int p2), .val (.int p3), .val (.int (1 : Int32)), .val (.ref b4)] [])) _
    refine XS.aload X5.here hx rfl (hb hby at_19) rfl rfl ?_
    show Steps p.tables e below (T5.setTop (mkF m 21 #[.val (.int p1), .val (.int p2), .val (.int p3), .val (.int (1 : Int32)), .val (.ref b4)] [(.ref b4)])) _
    refine XS.iconst X5.here hx rfl (hb hby at_21) ?_
    show Steps p.tables e below (T5.setTop (mkF m 22 #[.val (.int p1), .val (.int p2), .val (.int p3), .val (.int (1 : Int32)), .val (.ref b4)] [(.int (1 : Int32)), (.ref b4)])) _
    refine XS.iloadN X5.here hx rfl (hb hby at_22) rfl ?_
    show Steps p.tables e below (T5.setTop (mkF m 23 #[.val (.int p1), .val (.int p2), .val (.int p3), .val (.int (1 : Int32)), .val (.ref b4)] [(.int p3), (.int (1 : Int32)), (.ref b4)])) _
    refine XS.bipush X5.here hx rfl (hb hby at_23) ?_
    show Steps p.tables e below (T5.setTop (mkF m 25 #[.val (.int p1), .val (.int p2), .val (.int p3), .val (.int (1 : Int32)), .val (.ref b4)] [(.int (8 : Int32)), (.int p3), (.int (1 : Int32)), (.ref b4)])) _
    refine XS.iushr X5.here hx rfl (hb hby at_25) rfl ?_
    show Steps p.tables e below (T5.setTop (mkF m 26 #[.val (.int p1), .val (.int p2), .val (.int p3), .val (.int (1 : Int32)), .val (.ref b4)] [(.int ((p3.toUInt32 >>> ((8 : Int32) &&& 31).toUInt32).toInt32)), (.int (1 : Int32)), (.ref b4)])) _
    refine XS.i2b X5.here hx rfl (hb hby at_26) rfl ?_
    show Steps p.tables e below (T5.setTop (mkF m 27 #[.val (.int p1), .val (.int p2), .val (.int p3), .val (.int (1 : Int32)), .val (.ref b4)] [(.int (((p3.toUInt32 >>> ((8 : Int32) &&& 31).toUInt32).toInt32).toInt8.toInt32)), (.int (1 : Int32)), (.ref b4)])) _
    refine st6 _ ?_
    show Steps p.tables e below (T6.setTop (mkF m 28 #[.val (.int p1), .val (.int p2), .val (.int p3), .val (.int (1 : Int32)), .val (.ref b4)] [])) _
    refine XS.aload X6.here hx rfl (hb hby at_28) rfl rfl ?_
    show Steps p.tables e below (T6.setTop (mkF m 30 #[.val (.int p1), .val (.int p2), .val (.int p3), .val (.int (1 : Int32)), .val (.ref b4)] [(.ref b4)])) _
    refine XS.iconst X6.here hx rfl (hb hby at_30) ?_
    show Steps p.tables e below (T6.setTop (mkF m 31 #[.val (.int p1), .val (.int p2), .val (.int p3), .val (.int (1 : Int32)), .val (.ref b4)] [(.int (2 : Int32)), (.ref b4)])) _
    refine XS.iloadN X6.here hx rfl (hb hby at_31) rfl ?_
    show Steps p.tables e below (T6.setTop (mkF m 32 #[.val (.int p1), .val (.int p2), .val (.int p3), .val (.int (1 : Int32)), .val (.ref b4)] [(.int p3), (.int (2 : Int32)), (.ref b4)])) _
    refine XS.bipush X6.here hx rfl (hb hby at_32) ?_
    show Steps p.tables e below (T6.setTop (mkF m 34 #[.val (.int p1), .val (.int p2), .val (.int p3), .val (.int (1 : Int32)), .val (.ref b4)] [(.int (16 : Int32)), (.int p3), (.int (2 : Int32)), (.ref b4)])) _
    refine XS.iushr X6.here hx rfl (hb hby at_34) rfl ?_
    show Steps p.tables e below (T6.setTop (mkF m 35 #[.val (.int p1), .val (.int p2), .val (.int p3), .val (.int (1 : Int32)), .val (.ref b4)] [(.int ((p3.toUInt32 >>> ((16 : Int32) &&& 31).toUInt32).toInt32)), (.int (2 : Int32)), (.ref b4)])) _
    refine XS.i2b X6.here hx rfl (hb hby at_35) rfl ?_
    show Steps p.tables e below (T6.setTop (mkF m 36 #[.val (.int p1), .val (.int p2), .val (.int p3), .val (.int (1 : Int32)), .val (.ref b4)] [(.int (((p3.toUInt32 >>> ((16 : Int32) &&& 31).toUInt32).toInt32).toInt8.toInt32)), (.int (2 : Int32)), (.ref b4)])) _
    refine st7 _ ?_
    show Steps p.tables e below (T7.setTop (mkF m 37 #[.val (.int p1), .val (.int p2), .val (.int p3), .val (.int (1 : Int32)), .val (.ref b4)] [])) _
    refine XS.aload X7.here hx rfl (hb hby at_37) rfl rfl ?_
    show Steps p.tables e below (T7.setTop (mkF m 39 #[.val (.int p1), .val (.int p2), .val (.int p3), .val (.int (1 : Int32)), .val (.ref b4)] [(.ref b4)])) _
    refine XS.iconst X7.here hx rfl (hb hby at_39) ?_
    show Steps p.tables e below (T7.setTop (mkF m 40 #[.val (.int p1), .val (.int p2), .val (.int p3), .val (.int (1 : Int32)), .val (.ref b4)] [(.int (3 : Int32)), (.ref b4)])) _
    refine XS.iloadN X7.here hx rfl (hb hby at_40) rfl ?_
    show Steps p.tables e below (T7.setTop (mkF m 41 #[.val (.int p1), .val (.int p2), .val (.int p3), .val (.int (1 : Int32)), .val (.ref b4)] [(.int p3), (.int (3 : Int32)), (.ref b4)])) _
    refine XS.bipush X7.here hx rfl (hb hby at_41) ?_
    show Steps p.tables e below (T7.setTop (mkF m 43 #[.val (.int p1), .val (.int p2), .val (.int p3), .val (.int (1 : Int32)), .val (.ref b4)] [(.int (24 : Int32)), (.int p3), (.int (3 : Int32)), (.ref b4)])) _
    refine XS.iushr X7.here hx rfl (hb hby at_43) rfl ?_
    show Steps p.tables e below (T7.setTop (mkF m 44 #[.val (.int p1), .val (.int p2), .val (.int p3), .val (.int (1 : Int32)), .val (.ref b4)] [(.int ((p3.toUInt32 >>> ((24 : Int32) &&& 31).toUInt32).toInt32)), (.int (3 : Int32)), (.ref b4)])) _
    refine XS.i2b X7.here hx rfl (hb hby at_44) rfl ?_
    show Steps p.tables e below (T7.setTop (mkF m 45 #[.val (.int p1), .val (.int p2), .val (.int p3), .val (.int (1 : Int32)), .val (.ref b4)] [(.int (((p3.toUInt32 >>> ((24 : Int32) &&& 31).toUInt32).toInt32).toInt8.toInt32)), (.int (3 : Int32)), (.ref b4)])) _
    refine st8 _ ?_
    show Steps p.tables e below (T8.setTop (mkF m 46 #[.val (.int p1), .val (.int p2), .val (.int p3), .val (.int (1 : Int32)), .val (.ref b4)] [])) _
    refine XS.aload X8.here hx rfl (hb hby at_46) rfl rfl ?_
    show Steps p.tables e below (T8.setTop (mkF m 48 #[.val (.int p1), .val (.int p2), .val (.int p3), .val (.int (1 : Int32)), .val (.ref b4)] [(.ref b4)])) _
    refine XS.iconst X8.here hx rfl (hb hby at_48) ?_
    show Steps p.tables e below (T8.setTop (mkF m 49 #[.val (.int p1), .val (.int p2), .val (.int p3), .val (.int (1 : Int32)), .val (.ref b4)] [(.int (4 : Int32)), (.ref b4)])) _
    refine XS.iloadN X8.here hx rfl (hb hby at_49) rfl ?_
    show Steps p.tables e below (T8.setTop (mkF m 50 #[.val (.int p1), .val (.int p2), .val (.int p3), .val (.int (1 : Int32)), .val (.ref b4)] [(.int p3), (.int (4 : Int32)), (.ref b4)])) _
    refine XS.iconst X8.here hx rfl (hb hby at_50) ?_
    show Steps p.tables e below (T8.setTop (mkF m 51 #[.val (.int p1), .val (.int p2), .val (.int p3), .val (.int (1 : Int32)), .val (.ref b4)] [(.int (-1 : Int32)), (.int p3), (.int (4 : Int32)), (.ref b4)])) _
    refine XS.ixor X8.here hx rfl (hb hby at_51) rfl ?_
    show Steps p.tables e below (T8.setTop (mkF m 52 #[.val (.int p1), .val (.int p2), .val (.int p3), .val (.int (1 : Int32)), .val (.ref b4)] [(.int (p3 ^^^ (-1 : Int32))), (.int (4 : Int32)), (.ref b4)])) _
    refine XS.i2b X8.here hx rfl (hb hby at_52) rfl ?_
    show Steps p.tables e below (T8.setTop (mkF m 53 #[.val (.int p1), .val (.int p2), .val (.int p3), .val (.int (1 : Int32)), .val (.ref b4)] [(.int ((p3 ^^^ (-1 : Int32)).toInt8.toInt32)), (.int (4 : Int32)), (.ref b4)])) _
    refine st9 _ ?_
    show Steps p.tables e below (T9.setTop (mkF m 54 #[.val (.int p1), .val (.int p2), .val (.int p3), .val (.int (1 : Int32)), .val (.ref b4)] [])) _
    refine XS.aload X9.here hx rfl (hb hby at_54) rfl rfl ?_
    show Steps p.tables e below (T9.setTop (mkF m 56 #[.val (.int p1), .val (.int p2), .val (.int p3), .val (.int (1 : Int32)), .val (.ref b4)] [(.ref b4)])) _
    refine XS.iconst X9.here hx rfl (hb hby at_56) ?_
    show Steps p.tables e below (T9.setTop (mkF m 57 #[.val (.int p1), .val (.int p2), .val (.int p3), .val (.int (1 : Int32)), .val (.ref b4)] [(.int (5 : Int32)), (.ref b4)])) _
    refine XS.iloadN X9.here hx rfl (hb hby at_57) rfl ?_
    show Steps p.tables e below (T9.setTop (mkF m 58 #[.val (.int p1), .val (.int p2), .val (.int p3), .val (.int (1 : Int32)), .val (.ref b4)] [(.int p3), (.int (5 : Int32)), (.ref b4)])) _
    refine XS.iconst X9.here hx rfl (hb hby at_58) ?_
    show Steps p.tables e below (T9.setTop (mkF m 59 #[.val (.int p1), .val (.int p2), .val (.int p3), .val (.int (1 : Int32)), .val (.ref b4)] [(.int (-1 : Int32)), (.int p3), (.int (5 : Int32)), (.ref b4)])) _
    refine XS.ixor X9.here hx rfl (hb hby at_59) rfl ?_
    show Steps p.tables e below (T9.setTop (mkF m 60 #[.val (.int p1), .val (.int p2), .val (.int p3), .val (.int (1 : Int32)), .val (.ref b4)] [(.int (p3 ^^^ (-1 : Int32))), (.int (5 : Int32)), (.ref b4)])) _
    refine XS.bipush X9.here hx rfl (hb hby at_60) ?_
    show Steps p.tables e below (T9.setTop (mkF m 62 #[.val (.int p1), .val (.int p2), .val (.int p3), .val (.int (1 : Int32)), .val (.ref b4)] [(.int (8 : Int32)), (.int (p3 ^^^ (-1 : Int32))), (.int (5 : Int32)), (.ref b4)])) _
    refine XS.iushr X9.here hx rfl (hb hby at_62) rfl ?_
    show Steps p.tables e below (T9.setTop (mkF m 63 #[.val (.int p1), .val (.int p2), .val (.int p3), .val (.int (1 : Int32)), .val (.ref b4)] [(.int (((p3 ^^^ (-1 : Int32)).toUInt32 >>> ((8 : Int32) &&& 31).toUInt32).toInt32)), (.int (5 : Int32)), (.ref b4)])) _
    refine XS.i2b X9.here hx rfl (hb hby at_63) rfl ?_
    show Steps p.tables e below (T9.setTop (mkF m 64 #[.val (.int p1), .val (.int p2), .val (.int p3), .val (.int (1 : Int32)), .val (.ref b4)] [(.int ((((p3 ^^^ (-1 : Int32)).toUInt32 >>> ((8 : Int32) &&& 31).toUInt32).toInt32).toInt8.toInt32)), (.int (5 : Int32)), (.ref b4)])) _
    refine st10 _ ?_
    show Steps p.tables e below (T10.setTop (mkF m 65 #[.val (.int p1), .val (.int p2), .val (.int p3), .val (.int (1 : Int32)), .val (.ref b4)] [])) _
    refine XS.aload X10.here hx rfl (hb hby at_65) rfl rfl ?_
    show Steps p.tables e below (T10.setTop (mkF m 67 #[.val (.int p1), .val (.int p2), .val (.int p3), .val (.int (1 : Int32)), .val (.ref b4)] [(.ref b4)])) _
    refine XS.bipush X10.here hx rfl (hb hby at_67) ?_
    show Steps p.tables e below (T10.setTop (mkF m 69 #[.val (.int p1), .val (.int p2), .val (.int p3), .val (.int (1 : Int32)), .val (.ref b4)] [(.int (6 : Int32)), (.ref b4)])) _
    refine XS.iloadN X10.here hx rfl (hb hby at_69) rfl ?_
    show Steps p.tables e below (T10.setTop (mkF m 70 #[.val (.int p1), .val (.int p2), .val (.int p3), .val (.int (1 : Int32)), .val (.ref b4)] [(.int p3), (.int (6 : Int32)), (.ref b4)])) _
    refine XS.iconst X10.here hx rfl (hb hby at_70) ?_
    show Steps p.tables e below (T10.setTop (mkF m 71 #[.val (.int p1), .val (.int p2), .val (.int p3), .val (.int (1 : Int32)), .val (.ref b4)] [(.int (-1 : Int32)), (.int p3), (.int (6 : Int32)), (.ref b4)])) _
    refine XS.ixor X10.here hx rfl (hb hby at_71) rfl ?_
    show Steps p.tables e below (T10.setTop (mkF m 72 #[.val (.int p1), .val (.int p2), .val (.int p3), .val (.int (1 : Int32)), .val (.ref b4)] [(.int (p3 ^^^ (-1 : Int32))), (.int (6 : Int32)), (.ref b4)])) _
    refine XS.bipush X10.here hx rfl (hb hby at_72) ?_
    show Steps p.tables e below (T10.setTop (mkF m 74 #[.val (.int p1), .val (.int p2), .val (.int p3), .val (.int (1 : Int32)), .val (.ref b4)] [(.int (16 : Int32)), (.int (p3 ^^^ (-1 : Int32))), (.int (6 : Int32)), (.ref b4)])) _
    refine XS.iushr X10.here hx rfl (hb hby at_74) rfl ?_
    show Steps p.tables e below (T10.setTop (mkF m 75 #[.val (.int p1), .val (.int p2), .val (.int p3), .val (.int (1 : Int32)), .val (.ref b4)] [(.int (((p3 ^^^ (-1 : Int32)).toUInt32 >>> ((16 : Int32) &&& 31).toUInt32).toInt32)), (.int (6 : Int32)), (.ref b4)])) _
    refine XS.i2b X10.here hx rfl (hb hby at_75) rfl ?_
    show Steps p.tables e below (T10.setTop (mkF m 76 #[.val (.int p1), .val (.int p2), .val (.int p3), .val (.int (1 : Int32)), .val (.ref b4)] [(.int ((((p3 ^^^ (-1 : Int32)).toUInt32 >>> ((16 : Int32) &&& 31).toUInt32).toInt32).toInt8.toInt32)), (.int (6 : Int32)), (.ref b4)])) _
    refine st11 _ ?_
    show Steps p.tables e below (T11.setTop (mkF m 77 #[.val (.int p1), .val (.int p2), .val (.int p3), .val (.int (1 : Int32)), .val (.ref b4)] [])) _
    refine XS.aload X11.here hx rfl (hb hby at_77) rfl rfl ?_
    show Steps p.tables e below (T11.setTop (mkF m 79 #[.val (.int p1), .val (.int p2), .val (.int p3), .val (.int (1 : Int32)), .val (.ref b4)] [(.ref b4)])) _
    refine XS.iloadN X11.here hx rfl (hb hby at_79) rfl ?_
    show Steps p.tables e below (T11.setTop (mkF m 80 #[.val (.int p1), .val (.int p2), .val (.int p3), .val (.int (1 : Int32)), .val (.ref b4)] [(.int (1 : Int32)), (.ref b4)])) _
    refine XS.iloadN X11.here hx rfl (hb hby at_80) rfl ?_
    show Steps p.tables e below (T11.setTop (mkF m 81 #[.val (.int p1), .val (.int p2), .val (.int p3), .val (.int (1 : Int32)), .val (.ref b4)] [(.int p1), (.int (1 : Int32)), (.ref b4)])) _
    refine XS.bipush X11.here hx rfl (hb hby at_81) ?_
    show Steps p.tables e below (T11.setTop (mkF m 83 #[.val (.int p1), .val (.int p2), .val (.int p3), .val (.int (1 : Int32)), .val (.ref b4)] [(.int (24 : Int32)), (.int p1), (.int (1 : Int32)), (.ref b4)])) _
    refine XS.iushr X11.here hx rfl (hb hby at_83) rfl ?_
    show Steps p.tables e below (T11.setTop (mkF m 84 #[.val (.int p1), .val (.int p2), .val (.int p3), .val (.int (1 : Int32)), .val (.ref b4)] [(.int ((p1.toUInt32 >>> ((24 : Int32) &&& 31).toUInt32).toInt32)), (.int (1 : Int32)), (.ref b4)])) _
    refine XS.i2b X11.here hx rfl (hb hby at_84) rfl ?_
    show Steps p.tables e below (T11.setTop (mkF m 85 #[.val (.int p1), .val (.int p2), .val (.int p3), .val (.int (1 : Int32)), .val (.ref b4)] [(.int (((p1.toUInt32 >>> ((24 : Int32) &&& 31).toUInt32).toInt32).toInt8.toInt32)), (.int (1 : Int32)), (.ref b4)])) _
    refine st12 _ ?_
    show Steps p.tables e below (T12.setTop (mkF m 86 #[.val (.int p1), .val (.int p2), .val (.int p3), .val (.int (1 : Int32)), .val (.ref b4)] [])) _
    refine XS.aload X12.here hx rfl (hb hby at_86) rfl rfl ?_
    show Steps p.tables e below (T12.setTop (mkF m 88 #[.val (.int p1), .val (.int p2), .val (.int p3), .val (.int (1 : Int32)), .val (.ref b4)] [(.ref b4)])) _
    refine XS.iloadN X12.here hx rfl (hb hby at_88) rfl ?_
    show Steps p.tables e below (T12.setTop (mkF m 89 #[.val (.int p1), .val (.int p2), .val (.int p3), .val (.int (1 : Int32)), .val (.ref b4)] [(.int (1 : Int32)), (.ref b4)])) _
    refine XS.iconst X12.here hx rfl (hb hby at_89) ?_
    show Steps p.tables e below (T12.setTop (mkF m 90 #[.val (.int p1), .val (.int p2), .val (.int p3), .val (.int (1 : Int32)), .val (.ref b4)] [(.int (1 : Int32)), (.int (1 : Int32)), (.ref b4)])) _
    refine XS.iadd X12.here hx rfl (hb hby at_90) rfl ?_
    show Steps p.tables e below (T12.setTop (mkF m 91 #[.val (.int p1), .val (.int p2), .val (.int p3), .val (.int (1 : Int32)), .val (.ref b4)] [(.int ((1 : Int32) + (1 : Int32))), (.ref b4)])) _
    refine XS.iloadN X12.here hx rfl (hb hby at_91) rfl ?_
    show Steps p.tables e below (T12.setTop (mkF m 92 #[.val (.int p1), .val (.int p2), .val (.int p3), .val (.int (1 : Int32)), .val (.ref b4)] [(.int p1), (.int ((1 : Int32) + (1 : Int32))), (.ref b4)])) _
    refine XS.bipush X12.here hx rfl (hb hby at_92) ?_
    show Steps p.tables e below (T12.setTop (mkF m 94 #[.val (.int p1), .val (.int p2), .val (.int p3), .val (.int (1 : Int32)), .val (.ref b4)] [(.int (16 : Int32)), (.int p1), (.int ((1 : Int32) + (1 : Int32))), (.ref b4)])) _
    refine XS.iushr X12.here hx rfl (hb hby at_94) rfl ?_
    show Steps p.tables e below (T12.setTop (mkF m 95 #[.val (.int p1), .val (.int p2), .val (.int p3), .val (.int (1 : Int32)), .val (.ref b4)] [(.int ((p1.toUInt32 >>> ((16 : Int32) &&& 31).toUInt32).toInt32)), (.int ((1 : Int32) + (1 : Int32))), (.ref b4)])) _
    refine XS.i2b X12.here hx rfl (hb hby at_95) rfl ?_
    show Steps p.tables e below (T12.setTop (mkF m 96 #[.val (.int p1), .val (.int p2), .val (.int p3), .val (.int (1 : Int32)), .val (.ref b4)] [(.int (((p1.toUInt32 >>> ((16 : Int32) &&& 31).toUInt32).toInt32).toInt8.toInt32)), (.int ((1 : Int32) + (1 : Int32))), (.ref b4)])) _
    refine st13 _ ?_
    show Steps p.tables e below (T13.setTop (mkF m 97 #[.val (.int p1), .val (.int p2), .val (.int p3), .val (.int (1 : Int32)), .val (.ref b4)] [])) _
    refine XS.aload X13.here hx rfl (hb hby at_97) rfl rfl ?_
    show Steps p.tables e below (T13.setTop (mkF m 99 #[.val (.int p1), .val (.int p2), .val (.int p3), .val (.int (1 : Int32)), .val (.ref b4)] [(.ref b4)])) _
    refine XS.iloadN X13.here hx rfl (hb hby at_99) rfl ?_
    show Steps p.tables e below (T13.setTop (mkF m 100 #[.val (.int p1), .val (.int p2), .val (.int p3), .val (.int (1 : Int32)), .val (.ref b4)] [(.int (1 : Int32)), (.ref b4)])) _
    refine XS.iconst X13.here hx rfl (hb hby at_100) ?_
    show Steps p.tables e below (T13.setTop (mkF m 101 #[.val (.int p1), .val (.int p2), .val (.int p3), .val (.int (1 : Int32)), .val (.ref b4)] [(.int (2 : Int32)), (.int (1 : Int32)), (.ref b4)])) _
    refine XS.iadd X13.here hx rfl (hb hby at_101) rfl ?_
    show Steps p.tables e below (T13.setTop (mkF m 102 #[.val (.int p1), .val (.int p2), .val (.int p3), .val (.int (1 : Int32)), .val (.ref b4)] [(.int ((1 : Int32) + (2 : Int32))), (.ref b4)])) _
    refine XS.iloadN X13.here hx rfl (hb hby at_102) rfl ?_
    show Steps p.tables e below (T13.setTop (mkF m 103 #[.val (.int p1), .val (.int p2), .val (.int p3), .val (.int (1 : Int32)), .val (.ref b4)] [(.int p1), (.int ((1 : Int32) + (2 : Int32))), (.ref b4)])) _
    refine XS.bipush X13.here hx rfl (hb hby at_103) ?_
    show Steps p.tables e below (T13.setTop (mkF m 105 #[.val (.int p1), .val (.int p2), .val (.int p3), .val (.int (1 : Int32)), .val (.ref b4)] [(.int (8 : Int32)), (.int p1), (.int ((1 : Int32) + (2 : Int32))), (.ref b4)])) _
    refine XS.iushr X13.here hx rfl (hb hby at_105) rfl ?_
    show Steps p.tables e below (T13.setTop (mkF m 106 #[.val (.int p1), .val (.int p2), .val (.int p3), .val (.int (1 : Int32)), .val (.ref b4)] [(.int ((p1.toUInt32 >>> ((8 : Int32) &&& 31).toUInt32).toInt32)), (.int ((1 : Int32) + (2 : Int32))), (.ref b4)])) _
    refine XS.i2b X13.here hx rfl (hb hby at_106) rfl ?_
    show Steps p.tables e below (T13.setTop (mkF m 107 #[.val (.int p1), .val (.int p2), .val (.int p3), .val (.int (1 : Int32)), .val (.ref b4)] [(.int (((p1.toUInt32 >>> ((8 : Int32) &&& 31).toUInt32).toInt32).toInt8.toInt32)), (.int ((1 : Int32) + (2 : Int32))), (.ref b4)])) _
    refine st14 _ ?_
    show Steps p.tables e below (T14.setTop (mkF m 108 #[.val (.int p1), .val (.int p2), .val (.int p3), .val (.int (1 : Int32)), .val (.ref b4)] [])) _
    refine XS.aload X14.here hx rfl (hb hby at_108) rfl rfl ?_
    show Steps p.tables e below (T14.setTop (mkF m 110 #[.val (.int p1), .val (.int p2), .val (.int p3), .val (.int (1 : Int32)), .val (.ref b4)] [(.ref b4)])) _
    refine XS.iloadN X14.here hx rfl (hb hby at_110) rfl ?_
    show Steps p.tables e below (T14.setTop (mkF m 111 #[.val (.int p1), .val (.int p2), .val (.int p3), .val (.int (1 : Int32)), .val (.ref b4)] [(.int (1 : Int32)), (.ref b4)])) _
    refine XS.iconst X14.here hx rfl (hb hby at_111) ?_
    show Steps p.tables e below (T14.setTop (mkF m 112 #[.val (.int p1), .val (.int p2), .val (.int p3), .val (.int (1 : Int32)), .val (.ref b4)] [(.int (3 : Int32)), (.int (1 : Int32)), (.ref b4)])) _
    refine XS.iadd X14.here hx rfl (hb hby at_112) rfl ?_
    show Steps p.tables e below (T14.setTop (mkF m 113 #[.val (.int p1), .val (.int p2), .val (.int p3), .val (.int (1 : Int32)), .val (.ref b4)] [(.int ((1 : Int32) + (3 : Int32))), (.ref b4)])) _
    refine XS.iloadN X14.here hx rfl (hb hby at_113) rfl ?_
    show Steps p.tables e below (T14.setTop (mkF m 114 #[.val (.int p1), .val (.int p2), .val (.int p3), .val (.int (1 : Int32)), .val (.ref b4)] [(.int p1), (.int ((1 : Int32) + (3 : Int32))), (.ref b4)])) _
    refine XS.i2b X14.here hx rfl (hb hby at_114) rfl ?_
    show Steps p.tables e below (T14.setTop (mkF m 115 #[.val (.int p1), .val (.int p2), .val (.int p3), .val (.int (1 : Int32)), .val (.ref b4)] [(.int (p1.toInt8.toInt32)), (.int ((1 : Int32) + (3 : Int32))), (.ref b4)])) _
    refine st15 _ ?_
    show Steps p.tables e below (T15.setTop (mkF m 116 #[.val (.int p1), .val (.int p2), .val (.int p3), .val (.int (1 : Int32)), .val (.ref b4)] [])) _
    refine XS.aload X15.here hx rfl (hb hby at_116) rfl rfl ?_
    show Steps p.tables e below (T15.setTop (mkF m 118 #[.val (.int p1), .val (.int p2), .val (.int p3), .val (.int (1 : Int32)), .val (.ref b4)] [(.ref b4)])) _
    refine XS.iloadN X15.here hx rfl (hb hby at_118) rfl ?_
    show Steps p.tables e below (T15.setTop (mkF m 119 #[.val (.int p1), .val (.int p2), .val (.int p3), .val (.int (1 : Int32)), .val (.ref b4)] [(.int (1 : Int32)), (.ref b4)])) _
    refine st16 _ ?_
    show Steps p.tables e below (T16.setTop (mkF m 122 #[.val (.int p1), .val (.int p2), .val (.int p3), .val (.int (1 : Int32)), .val (.ref b4)] [(.int (((((((((p1.toUInt32 >>> ((24 : Int32) &&& 31).toUInt32).toInt32).toInt8.toInt32).toInt8.toInt32) &&& (255 : Int32)) <<< ((24 : Int32) &&& 31)) ||| ((((((p1.toUInt32 >>> ((16 : Int32) &&& 31).toUInt32).toInt32).toInt8.toInt32).toInt8.toInt32) &&& (255 : Int32)) <<< ((16 : Int32) &&& 31))) ||| ((((((p1.toUInt32 >>> ((8 : Int32) &&& 31).toUInt32).toInt32).toInt8.toInt32).toInt8.toInt32) &&& (255 : Int32)) <<< ((8 : Int32) &&& 31))) ||| ((((p1).toInt8.toInt32).toInt8.toInt32) &&& (255 : Int32))))])) _
    refine XS.iloadN X16.here hx rfl (hb hby at_122) rfl ?_
    show Steps p.tables e below (T16.setTop (mkF m 123 #[.val (.int p1), .val (.int p2), .val (.int p3), .val (.int (1 : Int32)), .val (.ref b4)] [(.int p1), (.int (((((((((p1.toUInt32 >>> ((24 : Int32) &&& 31).toUInt32).toInt32).toInt8.toInt32).toInt8.toInt32) &&& (255 : Int32)) <<< ((24 : Int32) &&& 31)) ||| ((((((p1.toUInt32 >>> ((16 : Int32) &&& 31).toUInt32).toInt32).toInt8.toInt32).toInt8.toInt32) &&& (255 : Int32)) <<< ((16 : Int32) &&& 31))) ||| ((((((p1.toUInt32 >>> ((8 : Int32) &&& 31).toUInt32).toInt32).toInt8.toInt32).toInt8.toInt32) &&& (255 : Int32)) <<< ((8 : Int32) &&& 31))) ||| ((((p1).toInt8.toInt32).toInt8.toInt32) &&& (255 : Int32))))])) _
    refine XS.icmpNo X16.here hx rfl (hb hby at_123) rfl (teq (own_be p1 : (((((((((p1.toUInt32 >>> ((24 : Int32) &&& 31).toUInt32).toInt32).toInt8.toInt32).toInt8.toInt32) &&& (255 : Int32)) <<< ((24 : Int32) &&& 31)) ||| ((((((p1.toUInt32 >>> ((16 : Int32) &&& 31).toUInt32).toInt32).toInt8.toInt32).toInt8.toInt32) &&& (255 : Int32)) <<< ((16 : Int32) &&& 31))) ||| ((((((p1.toUInt32 >>> ((8 : Int32) &&& 31).toUInt32).toInt32).toInt8.toInt32).toInt8.toInt32) &&& (255 : Int32)) <<< ((8 : Int32) &&& 31))) ||| ((((p1).toInt8.toInt32).toInt8.toInt32) &&& (255 : Int32))) = p1)).2 ?_
    show Steps p.tables e below (T16.setTop (mkF m 126 #[.val (.int p1), .val (.int p2), .val (.int p3), .val (.int (1 : Int32)), .val (.ref b4)] [])) _
    refine XS.iconst X16.here hx rfl (hb hby at_126) ?_
    show Steps p.tables e below (T16.setTop (mkF m 127 #[.val (.int p1), .val (.int p2), .val (.int p3), .val (.int (1 : Int32)), .val (.ref b4)] [(.int (1 : Int32))])) _
    refine XS.goto X16.here hx rfl (pc0 := 127) (pc' := 131) rfl (hb hby at_127) (by decide) (by decide) ?_
    show Steps p.tables e below (T16.setTop (mkF m 131 #[.val (.int p1), .val (.int p2), .val (.int p3), .val (.int (1 : Int32)), .val (.ref b4)] [(.int (1 : Int32))])) _
    exact retN X16 hx (t := .boolean) Bd.returns (by simp) (hb hby at_131) hr
  · show Ql (some (.int (1 : Int32))) n0 _ _
    exact ⟨rfl, N16⟩
set_option maxRecDepth 65536 in
set_option maxHeartbeats 40000000 in
theorem rm0_o2 (l : Launch) (Z : State) (a0 : Array Value) (hw : ∀ d ∈ tables_1, d.before a0 Z = true) (ws : List Jvm.Cond) (p1 : Int32) (p2 : Int32) (p3 : Int32) (h0 : Heap) (n0 : Nat) (Z0 : n0 ≤ h0.size) (hoo : (own_rem (p2 &&& (2147483647 : Int32)) (4 : Int32)) = (2 : Int32)) :
    MetFree l x (head1 (Jvm.Cond.code x code maxLocals ret :: ws) room_1) (fun a U => a = #[(.int p1), (.int p2), (.int p3)] ∧ Z.Warmed39 U.vm ∧ U.heap = h0) (fun _ _ _ _ _ => True) (fun _ U o U' => ∃ v L, o = .returned v ∧ Ql (some (.int (1 : Int32))) n0 v L ∧ FrameEnd U o U' L room_1.cells room_1.slots) := by
  refine MetFree.of_bodySF (plainFor_of_name pn_0) hisR ?_
  intro p e s m args below meth c s₁ Bd hml0 hP hK
  obtain ⟨rfl, hZ, hh⟩ := hP
  have hx := Bd.exec
  have hby := Bd.bytes
  have hml : c.maxLocals = 5 := hml0
  have hown : s.vm.findClass "com/example/telegrid/telegrid/esp3/BigEndianIntAtPinLaw" = some m.cls := findClass_of_methodNamed Bd.named
  have hnm := (name_of_methodNamed Bd.named Bd.method).1
  have X0 : Stand p l e room_1 s m #[(.int p1), (.int p2), (.int p3)] below meth c s₁ [] 0 0 := Stand.of_body Bd
  have e0 : s₁.heap = h0 := by rw [← hh, Bd.state]; rfl
  have N0 := Fr.nil n0
  have pre0 : ∀ t, Steps p.tables e below (s₁.setTop (mkF m 0 #[.val (.int p1), .val (.int p2), .val (.int p3), .unset, .unset] [])) t → Steps p.tables e below (s₁.setTop (entryFrame m #[(.int p1), (.int p2), (.int p3)] maxLocals)) t := fun t k => castTop (ef_0 m p1 p2 p3) k
  -- 3. LAWS
  obtain ⟨T4, h4, k4, X4, e4, E4, A4, st4⟩ := newP X0 hx hZ (hw _ (List.mem_of_getElem? (i := 1) rfl)) e0 (g := (mkF m 9 #[.val (.int p1), .val (.int p2), .val (.int p3), .val (.int (2 : Int32)), .unset] [(.int (7 : Int32))])) rfl (hb hby at_9) rfl (by decide) (cap := 7) (by decide) (by decide) (by decide) (by decide)
  obtain ⟨b4, g4⟩ : ∃ z, z = h0.size := ⟨_, rfl⟩      -- the fresh array's address
  rw [← g4] at A4 st4
  have V_b4 : Arv Z h4 b4 k4 .byte (7 : Int32) [(.int (0 : Int32)), (.int (0 : Int32)), (.int (0 : Int32)), (.int (0 : Int32)), (.int (0 : Int32)), (.int (0 : Int32)), (.int (0 : Int32))] (.int (0 : Int32)) := (Arv.new A4 (by decide)).pad (pad_rep [] (.int (0 : Int32)) 7)
  have g_b4 : n0 ≤ b4 := Nat.le_trans Z0 (Nat.le_of_eq g4.symm)
  have sz_b4 : h0.size ≤ b4 := (Nat.le_trans (Keep.refl h0 []).1 (Nat.le_of_eq g4.symm))
  have K4 : Keep h0 h4 [] := (Keep.refl h0 []).ext E4
  obtain ⟨cl_b4_18, Ar_b4, q_b4, S_b4, N_b4, H_b4, G_b4⟩ := V_b4      -- open the array's fact as it stands now (its cell, kind, length, elements)
  have hin18 : ¬ ((0 : Int32) < 0 ∨ cl_b4_18.slots.size ≤ ((0 : Int32)).toNatClampNeg) := inb_of S_b4 ⟨by decide, by decide⟩
  obtain ⟨T5, h5, X5, e5, W5, st5⟩ := stB X4 hx hZ e4 Ar_b4 (j := (0 : Int32)) hin18 (g := (mkF m 18 #[.val (.int p1), .val (.int p2), .val (.int p3), .val (.int (2 : Int32)), .val (.ref b4)] [(.int (p3.toInt8.toInt32)), (.int (0 : Int32)), (.ref b4)])) rfl rfl (hb hby at_18)
  have V_b4_5 := Arv.set Ar_b4 q_b4 S_b4 N_b4 H_b4 G_b4 (fits_nar_byte _) W5 0 rfl (Nat.le_of_ble_eq_true rfl)      -- the array as it stands now (the place must lie among its first values: Arv.pad with pad_rep lengthens them)
  have K5 : Keep h0 h5 [] := K4.wr W5 (Or.inr sz_b4)
  have N5 := Fr.snoc X5 N0 g_b4
  -- (bastore into a boolean[]: stZ in stB's place)
  obtain ⟨cl_b4_27, Ar_b4, q_b4, S_b4, N_b4, H_b4, G_b4⟩ := V_b4_5      -- open the array's fact as it stands now (its cell, kind, length, elements)
  have hin27 : ¬ ((1 : Int32) < 0 ∨ cl_b4_27.slots.size ≤ ((1 : Int32)).toNatClampNeg) := inb_of S_b4 ⟨by decide, by decide⟩
  obtain ⟨T6, h6, X6, e6, W6, st6⟩ := stB X5 hx hZ e5 Ar_b4 (j := (1 : Int32)) hin27 (g := (mkF m 27 #[.val (.int p1), .val (.int p2), .val (.int p3), .val (.int (2 : Int32)), .val (.ref b4)] [(.int (((p3.toUInt32 >>> ((8 : Int32) &&& 31).toUInt32).toInt32).toInt8.toInt32)), (.int (1 : Int32)), (.ref b4)])) rfl rfl (hb hby at_27)
  have V_b4_6 := Arv.set Ar_b4 q_b4 S_b4 N_b4 H_b4 G_b4 (fits_nar_byte _) W6 1 rfl (Nat.le_of_ble_eq_true rfl)      -- the array as it stands now (the place must lie among its first values: Arv.pad with pad_rep lengthens them)
  have K6 : Keep h0 h6 [] := K5.wr W6 (Or.inr sz_b4)
  have N6 := Fr.snoc X6 N5 g_b4
  -- (bastore into a boolean[]: stZ in stB's place)
  obtain ⟨cl_b4_36, Ar_b4, q_b4, S_b4, N_b4, H_b4, G_b4⟩ := V_b4_6      -- open the array's fact as it stands now (its cell, kind, length, elements)
  have hin36 : ¬ ((2 : Int32) < 0 ∨ cl_b4_36.slots.size ≤ ((2 : Int32)).toNatClampNeg) := inb_of S_b4 ⟨by decide, by decide⟩
  obtain ⟨T7, h7, X7, e7, W7, st7⟩ := stB X6 hx hZ e6 Ar_b4 (j := (2 : Int32)) hin36 (g := (mkF m 36 #[.val (.int p1), .val (.int p2), .val (.int p3), .val (.int (2 : Int32)), .val (.ref b4)] [(.int (((p3.toUInt32 >>> ((16 : Int32) &&& 31).toUInt32).toInt32).toInt8.toInt32)), (.int (2 : Int32)), (.ref b4)])) rfl rfl (hb hby at_36)
  have V_b4_7 := Arv.set Ar_b4 q_b4 S_b4 N_b4 H_b4 G_b4 (fits_nar_byte _) W7 2 rfl (Nat.le_of_ble_eq_true rfl)      -- the array as it stands now (the place must lie among its first values: Arv.pad with pad_rep lengthens them)
  have K7 : Keep h0 h7 [] := K6.wr W7 (Or.inr sz_b4)
  have N7 := Fr.snoc X7 N6 g_b4
  -- (bastore into a boolean[]: stZ in stB's place)
  obtain ⟨cl_b4_45, Ar_b4, q_b4, S_b4, N_b4, H_b4, G_b4⟩ := V_b4_7      -- open the array's fact as it stands now (its cell, kind, length, elements)
  have hin45 : ¬ ((3 : Int32) < 0 ∨ cl_b4_45.slots.size ≤ ((3 : Int32)).toNatClampNeg) := inb_of S_b4 ⟨by decide, by decide⟩
  obtain ⟨T8, h8, X8, e8, W8, st8⟩ := stB X7 hx hZ e7 Ar_b4 (j := (3 : Int32)) hin45 (g := (mkF m 45 #[.val (.int p1), .val (.int p2), .val (.int p3), .val (.int (2 : Int32)), .val (.ref b4)] [(.int (((p3.toUInt32 >>> ((24 : Int32) &&& 31).toUInt32).toInt32).toInt8.toInt32)), (.int (3 : Int32)), (.ref b4)])) rfl rfl (hb hby at_45)
  have V_b4_8 := Arv.set Ar_b4 q_b4 S_b4 N_b4 H_b4 G_b4 (fits_nar_byte _) W8 3 rfl (Nat.le_of_ble_eq_true rfl)      -- the array as it stands now (the place must lie among its first values: Arv.pad with pad_rep lengthens them)
  have K8 : Keep h0 h8 [] := K7.wr W8 (Or.inr sz_b4)
  have N8 := Fr.snoc X8 N7 g_b4
  -- (bastore into a boolean[]: stZ in stB's place)
  obtain ⟨cl_b4_53, Ar_b4, q_b4, S_b4, N_b4, H_b4, G_b4⟩ := V_b4_8      -- open the array's fact as it stands now (its cell, kind, length, elements)
  have hin53 : ¬ ((4 : Int32) < 0 ∨ cl_b4_53.slots.size ≤ ((4 : Int32)).toNatClampNeg) := inb_of S_b4 ⟨by decide, by decide⟩
  obtain ⟨T9, h9, X9, e9, W9, st9⟩ := stB X8 hx hZ e8 Ar_b4 (j := (4 : Int32)) hin53 (g := (mkF m 53 #[.val (.int p1), .val (.int p2), .val (.int p3), .val (.int (2 : Int32)), .val (.ref b4)] [(.int ((p3 ^^^ (-1 : Int32)).toInt8.toInt32)), (.int (4 : Int32)), (.ref b4)])) rfl rfl (hb hby at_53)
  have V_b4_9 := Arv.set Ar_b4 q_b4 S_b4 N_b4 H_b4 G_b4 (fits_nar_byte _) W9 4 rfl (Nat.le_of_ble_eq_true rfl)      -- the array as it stands now (the place must lie among its first values: Arv.pad with pad_rep lengthens them)
  have K9 : Keep h0 h9 [] := K8.wr W9 (Or.inr sz_b4)
  have N9 := Fr.snoc X9 N8 g_b4
  -- (bastore into a boolean[]: stZ in stB's place)
  obtain ⟨cl_b4_64, Ar_b4, q_b4, S_b4, N_b4, H_b4, G_b4⟩ := V_b4_9      -- open the array's fact as it stands now (its cell, kind, length, elements)
  have hin64 : ¬ ((5 : Int32) < 0 ∨ cl_b4_64.slots.size ≤ ((5 : Int32)).toNatClampNeg) := inb_of S_b4 ⟨by decide, by decide⟩
  obtain ⟨T10, h10, X10, e10, W10, st10⟩ := stB X9 hx hZ e9 Ar_b4 (j := (5 : Int32)) hin64 (g := (mkF m 64 #[.val (.int p1), .val (.int p2), .val (.int p3), .val (.int (2 : Int32)), .val (.ref b4)] [(.int ((((p3 ^^^ (-1 : Int32)).toUInt32 >>> ((8 : Int32) &&& 31).toUInt32).toInt32).toInt8.toInt32)), (.int (5 : Int32)), (.ref b4)])) rfl rfl (hb hby at_64)
  have V_b4_10 := Arv.set Ar_b4 q_b4 S_b4 N_b4 H_b4 G_b4 (fits_nar_byte _) W10 5 rfl (Nat.le_of_ble_eq_true rfl)      -- the array as it stands now (the place must lie among its first values: Arv.pad with pad_rep lengthens them)
  have K10 : Keep h0 h10 [] := K9.wr W10 (Or.inr sz_b4)
  have N10 := Fr.snoc X10 N9 g_b4
  -- (bastore into a boolean[]: stZ in stB's place)
  obtain ⟨cl_b4_76, Ar_b4, q_b4, S_b4, N_b4, H_b4, G_b4⟩ := V_b4_10      -- open the array's fact as it stands now (its cell, kind, length, elements)
  have hin76 : ¬ ((6 : Int32) < 0 ∨ cl_b4_76.slots.size ≤ ((6 : Int32)).toNatClampNeg) := inb_of S_b4 ⟨by decide, by decide⟩
  obtain ⟨T11, h11, X11, e11, W11, st11⟩ := stB X10 hx hZ e10 Ar_b4 (j := (6 : Int32)) hin76 (g := (mkF m 76 #[.val (.int p1), .val (.int p2), .val (.int p3), .val (.int (2 : Int32)), .val (.ref b4)] [(.int ((((p3 ^^^ (-1 : Int32)).toUInt32 >>> ((16 : Int32) &&& 31).toUInt32).toInt32).toInt8.toInt32)), (.int (6 : Int32)), (.ref b4)])) rfl rfl (hb hby at_76)
  have V_b4_11 := Arv.set Ar_b4 q_b4 S_b4 N_b4 H_b4 G_b4 (fits_nar_byte _) W11 6 rfl (Nat.le_of_ble_eq_true rfl)      -- the array as it stands now (the place must lie among its first values: Arv.pad with pad_rep lengthens them)
  have K11 : Keep h0 h11 [] := K10.wr W11 (Or.inr sz_b4)
  have N11 := Fr.snoc X11 N10 g_b4
  -- (bastore into a boolean[]: stZ in stB's place)
  obtain ⟨cl_b4_85, Ar_b4, q_b4, S_b4, N_b4, H_b4, G_b4⟩ := V_b4_11      -- open the array's fact as it stands now (its cell, kind, length, elements)
  have hin85 : ¬ ((2 : Int32) < 0 ∨ cl_b4_85.slots.size ≤ ((2 : Int32)).toNatClampNeg) := inb_of S_b4 ⟨by decide, by decide⟩
  obtain ⟨T12, h12, X12, e12, W12, st12⟩ := stB X11 hx hZ e11 Ar_b4 (j := (2 : Int32)) hin85 (g := (mkF m 85 #[.val (.int p1), .val (.int p2), .val (.int p3), .val (.int (2 : Int32)), .val (.ref b4)] [(.int (((p1.toUInt32 >>> ((24 : Int32) &&& 31).toUInt32).toInt32).toInt8.toInt32)), (.int (2 : Int32)), (.ref b4)])) rfl rfl (hb hby at_85)
  have V_b4_12 := Arv.set Ar_b4 q_b4 S_b4 N_b4 H_b4 G_b4 (fits_nar_byte _) W12 2 rfl (Nat.le_of_ble_eq_true rfl)      -- the array as it stands now (the place must lie among its first values: Arv.pad with pad_rep lengthens them)
  have K12 : Keep h0 h12 [] := K11.wr W12 (Or.inr sz_b4)
  have N12 := Fr.snoc X12 N11 g_b4
  -- (bastore into a boolean[]: stZ in stB's place)
  obtain ⟨cl_b4_96, Ar_b4, q_b4, S_b4, N_b4, H_b4, G_b4⟩ := V_b4_12      -- open the array's fact as it stands now (its cell, kind, length, elements)
  have hin96 : ¬ (((2 : Int32) + (1 : Int32)) < 0 ∨ cl_b4_96.slots.size ≤ (((2 : Int32) + (1 : Int32))).toNatClampNeg) := inb_of S_b4 ⟨by decide, by decide⟩
  obtain ⟨T13, h13, X13, e13, W13, st13⟩ := stB X12 hx hZ e12 Ar_b4 (j := ((2 : Int32) + (1 : Int32))) hin96 (g := (mkF m 96 #[.val (.int p1), .val (.int p2), .val (.int p3), .val (.int (2 : Int32)), .val (.ref b4)] [(.int (((p1.toUInt32 >>> ((16 : Int32) &&& 31).toUInt32).toInt32).toInt8.toInt32)), (.int ((2 : Int32) + (1 : Int32))), (.ref b4)])) rfl rfl (hb hby at_96)
  have V_b4_13 := Arv.set Ar_b4 q_b4 S_b4 N_b4 H_b4 G_b4 (fits_nar_byte _) W13 3 rfl (Nat.le_of_ble_eq_true rfl)      -- the array as it stands now (the place must lie among its first values: Arv.pad with pad_rep lengthens them)
  have K13 : Keep h0 h13 [] := K12.wr W13 (Or.inr sz_b4)
  have N13 := Fr.snoc X13 N12 g_b4
  -- (bastore into a boolean[]: stZ in stB's place)
  obtain ⟨cl_b4_107, Ar_b4, q_b4, S_b4, N_b4, H_b4, G_b4⟩ := V_b4_13      -- open the array's fact as it stands now (its cell, kind, length, elements)
  have hin107 : ¬ (((2 : Int32) + (2 : Int32)) < 0 ∨ cl_b4_107.slots.size ≤ (((2 : Int32) + (2 : Int32))).toNatClampNeg) := inb_of S_b4 ⟨by decide, by decide⟩
  obtain ⟨T14, h14, X14, e14, W14, st14⟩ := stB X13 hx hZ e13 Ar_b4 (j := ((2 : Int32) + (2 : Int32))) hin107 (g := (mkF m 107 #[.val (.int p1), .val (.int p2), .val (.int p3), .val (.int (2 : Int32)), .val (.ref b4)] [(.int (((p1.toUInt32 >>> ((8 : Int32) &&& 31).toUInt32).toInt32).toInt8.toInt32)), (.int ((2 : Int32) + (2 : Int32))), (.ref b4)])) rfl rfl (hb hby at_107)
  have V_b4_14 := Arv.set Ar_b4 q_b4 S_b4 N_b4 H_b4 G_b4 (fits_nar_byte _) W14 4 rfl (Nat.le_of_ble_eq_true rfl)      -- the array as it stands now (the place must lie among its first values: Arv.pad with pad_rep lengthens them)
  have K14 : Keep h0 h14 [] := K13.wr W14 (Or.inr sz_b4)
  have N14 := Fr.snoc X14 N13 g_b4
  -- (bastore into a boolean[]: stZ in stB's place)
  obtain ⟨cl_b4_115, Ar_b4, q_b4, S_b4, N_b4, H_b4, G_b4⟩ := V_b4_14      -- open the array's fact as it stands now (its cell, kind, length, elements)
  have hin115 : ¬ (((2 : Int32) + (3 : Int32)) < 0 ∨ cl_b4_115.slots.size ≤ (((2 : Int32) + (3 : Int32))).toNatClampNeg) := inb_of S_b4 ⟨by decide, by decide⟩
  obtain ⟨T15, h15, X15, e15, W15, st15⟩ := stB X14 hx hZ e14 Ar_b4 (j := ((2 : Int32) + (3 : Int32))) hin115 (g := (mkF m 115 #[.val (.int p1), .val (.int p2), .val (.int p3), .val (.int (2 : Int32)), .val (.ref b4)] [(.int (p1.toInt8.toInt32)), (.int ((2 : Int32) + (3 : Int32))), (.ref b4)])) rfl rfl (hb hby at_115)
  have V_b4_15 := Arv.set Ar_b4 q_b4 S_b4 N_b4 H_b4 G_b4 (fits_nar_byte _) W15 5 rfl (Nat.le_of_ble_eq_true rfl)      -- the array as it stands now (the place must lie among its first values: Arv.pad with pad_rep lengthens them)
  have K15 : Keep h0 h15 [] := K14.wr W15 (Or.inr sz_b4)
  have N15 := Fr.snoc X15 N14 g_b4
  -- (bastore into a boolean[]: stZ in stB's place)
  -- pc 119: com/example/telegrid/telegrid/esp3/BigEndian.intAt by its contract rm1
  obtain ⟨cl_c, Ar_c, q_c, S_c, N_c, H_c, G_c⟩ := V_b4_15
  have hn0 : ¬ ((2 : Int32) < 0 ∨ cl_c.slots.size ≤ ((2 : Int32)).toNatClampNeg) := inb_of S_c ⟨by decide, by decide⟩
  have hn1 : ¬ (((2 : Int32) + (1 : Int32)) < 0 ∨ cl_c.slots.size ≤ (((2 : Int32) + (1 : Int32))).toNatClampNeg) := inb_of S_c ⟨by decide, by decide⟩
  have hn2 : ¬ (((2 : Int32) + (2 : Int32)) < 0 ∨ cl_c.slots.size ≤ (((2 : Int32) + (2 : Int32))).toNatClampNeg) := inb_of S_c ⟨by decide, by decide⟩
  have hn3 : ¬ (((2 : Int32) + (3 : Int32)) < 0 ∨ cl_c.slots.size ≤ (((2 : Int32) + (3 : Int32))).toNatClampNeg) := inb_of S_c ⟨by decide, by decide⟩
  obtain ⟨_, _, ⟨T16, L16, k16, n16⟩, -, X16, ⟨Lc16, hQ16, l16, y16, z16⟩, st16⟩ := Jvm.LawKit.callS X15 hx (y := (⟨"com/example/telegrid/telegrid/esp3/BigEndian", "intAt", "([BI)I"⟩ : MethodName)) hown (mvT hZ (hw _ (List.mem_of_getElem? (i := 2) rfl))) (mvT hZ (hw _ (List.mem_of_getElem? (i := 3) rfl))) (mvT hZ (hw _ (List.mem_of_getElem? (i := 4) rfl))) (mvT hZ (hw _ (List.mem_of_getElem? (i := 5) rfl))) (by decide) (backOf (W := 0) (rm1 l Z a0 hw [] b4 (2 : Int32) ((((p1.toUInt32 >>> ((24 : Int32) &&& 31).toUInt32).toInt32).toInt8.toInt32).toInt8.toInt32) cl_c ((((p1.toUInt32 >>> ((16 : Int32) &&& 31).toUInt32).toInt32).toInt8.toInt32).toInt8.toInt32) ((((p1.toUInt32 >>> ((8 : Int32) &&& 31).toUInt32).toInt32).toInt8.toInt32).toInt8.toInt32) (((p1).toInt8.toInt32).toInt8.toInt32) h15 n0 (Nat.le_trans Z0 K15.1) Ar_c hn0 (H_c.at hn0 rfl) hn1 (H_c.at hn1 rfl) hn2 (H_c.at hn2 rfl) hn3 (H_c.at hn3 rfl)) hZ (hw _ (List.mem_of_getElem? (i := 5) rfl)) (hw _ (List.mem_of_getElem? (i := 4) rfl)) (by decide) (by decide)) (g := (mkF m 119 #[.val (.int p1), .val (.int p2), .val (.int p3), .val (.int (2 : Int32)), .val (.ref b4)] [(.int (2 : Int32)), (.ref b4)])) rfl (by rw [hml]; rfl) (argsL := [(.ref b4), (.int (2 : Int32))]) (rest := []) (lenOf pd_0_0 rfl) rfl (by show 2 * 0 + _ ≤ _; exact Nat.le_of_eq rfl) (hb hby at_119) (fun _ _ => ⟨rfl, e15, (by decide : 1 + 0 ≤ _), (by decide : 7 + 0 ≤ _)⟩)
  dsimp only [Pt.U, Pt.locs, Pt.cells, Pt.slots] at X16 l16 y16 z16 st16 hQ16
  subst l16 y16 z16
  obtain ⟨rfl, N16q, e16⟩ := hQ16      -- what it returned, that it wrote nothing old, and the rest of your Q1
  have N16 := Fr.app N15 N16q
  obtain ⟨fs, hr, hrun, hended, hW, hsame⟩ := X16.leave (v := some (.int (1 : Int32))) (fun h => by rw [Bd.returns] at h; cases h)
  refine ⟨_, _, pre0 _ ?_, hrun, hended, _, _, rfl, ?_, ⟨_, rfl⟩, hW, hsame.mono (by decide) (by decide)⟩
  -- 4. STEPS
  · show Steps p.tables e below (s₁.setTop (mkF m 0 #[.val (.int p1), .val (.int p2), .val (.int p3), .unset, .unset] [])) _
    refine XS.iloadN X0.here hx rfl (hb hby at_0) rfl ?_
    show Steps p.tables e below (s₁.setTop (mkF m 1 #[.val (.int p1), .val (.int p2), .val (.int p3), .unset, .unset] [(.int p2)])) _
    refine X0.ldcInt hx hown (mvT hZ (hw _ (List.mem_of_getElem? (i := 0) rfl))) (g := (mkF m 1 #[.val (.int p1), .val (.int p2), .val (.int p3), .unset, .unset] [(.int p2)])) rfl (hb hby at_1) _ ?_
    show Steps p.tables e below (s₁.setTop (mkF m 3 #[.val (.int p1), .val (.int p2), .val (.int p3), .unset, .unset] [(.int (2147483647 : Int32)), (.int p2)])) _
    refine XS.iand X0.here hx rfl (hb hby at_3) rfl ?_
    show Steps p.tables e below (s₁.setTop (mkF m 4 #[.val (.int p1), .val (.int p2), .val (.int p3), .unset, .unset] [(.int (p2 &&& (2147483647 : Int32)))])) _
    refine XS.iconst X0.here hx rfl (hb hby at_4) ?_
    show Steps p.tables e below (s₁.setTop (mkF m 5 #[.val (.int p1), .val (.int p2), .val (.int p3), .unset, .unset] [(.int (4 : Int32)), (.int (p2 &&& (2147483647 : Int32)))])) _
    refine own_iremE X0 hx rfl (hb hby at_5) rfl (by decide) hoo ?_
    show Steps p.tables e below (s₁.setTop (mkF m 6 #[.val (.int p1), .val (.int p2), .val (.int p3), .unset, .unset] [(.int (2 : Int32))])) _
    refine XS.istoreN X0.here hx rfl (hb hby at_6) rfl (l' := #[.val (.int p1), .val (.int p2), .val (.int p3), .val (.int (2 : Int32)), .unset]) rfl ?_
    show Steps p.tables e below (s₁.setTop (mkF m 7 #[.val (.int p1), .val (.int p2), .val (.int p3), .val (.int (2 : Int32)), .unset] [])) _
    refine XS.bipush X0.here hx rfl (hb hby at_7) ?_
    show Steps p.tables e below (s₁.setTop (mkF m 9 #[.val (.int p1), .val (.int p2), .val (.int p3), .val (.int (2 : Int32)), .unset] [(.int (7 : Int32))])) _
    refine st4 _ ?_
    show Steps p.tables e below (T4.setTop (mkF m 11 #[.val (.int p1), .val (.int p2), .val (.int p3), .val (.int (2 : Int32)), .unset] [(.ref b4)])) _
    refine XS.astore X4.here hx rfl (hb hby at_11) rfl rfl (l' := #[.val (.int p1), .val (.int p2), .val (.int p3), .val (.int (2 : Int32)), .val (.ref b4)]) rfl ?_
    show Steps p.tables e below (T4.setTop (mkF m 13 #[.val (.int p1), .val (.int p2), .val (.int p3), .val (.int (2 : Int32)), .val (.ref b4)] [])) _
    refine XS.aload X4.here hx rfl (hb hby at_13) rfl rfl ?_
    show Steps p.tables e below (T4.setTop (mkF m 15 #[.val (.int p1), .val (.int p2), .val (.int p3), .val (.int (2 : Int32)), .val (.ref b4)] [(.ref b4)])) _
    refine XS.iconst X4.here hx rfl (hb hby at_15) ?_
    show Steps p.tables e below (T4.setTop (mkF m 16 #[.val (.int p1), .val (.int p2), .val (.int p3), .val (.int (2 : Int32)), .val (.ref b4)] [(.int (0 : Int32)), (.ref b4)])) _
    refine XS.iloadN X4.here hx rfl (hb hby at_16) rfl ?_
    show Steps p.tables e below (T4.setTop (mkF m 17 #[.val (.int p1), .val (.int p2), .val (.int p3), .val (.int (2 : Int32)), .val (.ref b4)] [(.int p3), (.int (0 : Int32)), (.ref b4)])) _
    refine XS.i2b X4.here hx rfl (hb hby at_17) rfl ?_
    show Steps p.tables e below (T4.setTop (mkF m 18 #[.val (.int p1), .val (.int p2), .val (.int p3), .val (.int (2 : Int32)), .val (.ref b4)] [(.int (p3.toInt8.toInt32)), (.int (0 : Int32)), (.ref b4)])) _
    refine st5 _ ?_
    show Steps p.tables e below (T5.setTop (mkF m 19 #[.val (.int p1), .val (.int p2), .val (.int p3), .val (.int (2 : Int32)), .val (.ref b4)] [])) _
    refine XS.aload X5.here hx rfl (hb hby at_19) rfl rfl ?_
    show Steps p.tables e below (T5.setTop (mkF m 21 #[.val (.int p1), .val (.int p2), .val (.int p3), .val (.int (2 : Int32)), .val (.ref b4)] [(.ref b4)])) _
    refine XS.iconst X5.here hx rfl (hb hby at_21) ?_
    show Steps p.tables e below (T5.setTop (mkF m 22 #[.val (.int p1), .val (.int p2), .val (.int p3), .val (.int (2 : Int32)), .val (.ref b4)] [(.int (1 : Int32)), (.ref b4)])) _
    refine XS.iloadN X5.here hx rfl (hb hby at_22) rfl ?_
    show Steps p.tables e below (T5.setTop (mkF m 23 #[.val (.int p1), .val (.int p2), .val (.int p3), .val (.int (2 : Int32)), .val (.ref b4)] [(.int p3), (.int (1 : Int32)), (.ref b4)])) _
    refine XS.bipush X5.here hx rfl (hb hby at_23) ?_
    show Steps p.tables e below (T5.setTop (mkF m 25 #[.val (.int p1), .val (.int p2), .val (.int p3), .val (.int (2 : Int32)), .val (.ref b4)] [(.int (8 : Int32)), (.int p3), (.int (1 : Int32)), (.ref b4)])) _
    refine XS.iushr X5.here hx rfl (hb hby at_25) rfl ?_
    show Steps p.tables e below (T5.setTop (mkF m 26 #[.val (.int p1), .val (.int p2), .val (.int p3), .val (.int (2 : Int32)), .val (.ref b4)] [(.int ((p3.toUInt32 >>> ((8 : Int32) &&& 31).toUInt32).toInt32)), (.int (1 : Int32)), (.ref b4)])) _
    refine XS.i2b X5.here hx rfl (hb hby at_26) rfl ?_
    show Steps p.tables e below (T5.setTop (mkF m 27 #[.val (.int p1), .val (.int p2), .val (.int p3), .val (.int (2 : Int32)), .val (.ref b4)] [(.int (((p3.toUInt32 >>> ((8 : Int32) &&& 31).toUInt32).toInt32).toInt8.toInt32)), (.int (1 : Int32)), (.ref b4)])) _
    refine st6 _ ?_
    show Steps p.tables e below (T6.setTop (mkF m 28 #[.val (.int p1), .val (.int p2), .val (.int p3), .val (.int (2 : Int32)), .val (.ref b4)] [])) _
    refine XS.aload X6.here hx rfl (hb hby at_28) rfl rfl ?_
    show Steps p.tables e below (T6.setTop (mkF m 30 #[.val (.int p1), .val (.int p2), .val (.int p3), .val (.int (2 : Int32)), .val (.ref b4)] [(.ref b4)])) _
    refine XS.iconst X6.here hx rfl (hb hby at_30) ?_
    show Steps p.tables e below (T6.setTop (mkF m 31 #[.val (.int p1), .val (.int p2), .val (.int p3), .val (.int (2 : Int32)), .val (.ref b4)] [(.int (2 : Int32)), (.ref b4)])) _
    refine XS.iloadN X6.here hx rfl (hb hby at_31) rfl ?_
    show Steps p.tables e below (T6.setTop (mkF m 32 #[.val (.int p1), .val (.int p2), .val (.int p3), .val (.int (2 : Int32)), .val (.ref b4)] [(.int p3), (.int (2 : Int32)), (.ref b4)])) _
    refine XS.bipush X6.here hx rfl (hb hby at_32) ?_
    show Steps p.tables e below (T6.setTop (mkF m 34 #[.val (.int p1), .val (.int p2), .val (.int p3), .val (.int (2 : Int32)), .val (.ref b4)] [(.int (16 : Int32)), (.int p3), (.int (2 : Int32)), (.ref b4)])) _
    refine XS.iushr X6.here hx rfl (hb hby at_34) rfl ?_
    show Steps p.tables e below (T6.setTop (mkF m 35 #[.val (.int p1), .val (.int p2), .val (.int p3), .val (.int (2 : Int32)), .val (.ref b4)] [(.int ((p3.toUInt32 >>> ((16 : Int32) &&& 31).toUInt32).toInt32)), (.int (2 : Int32)), (.ref b4)])) _
    refine XS.i2b X6.here hx rfl (hb hby at_35) rfl ?_
    show Steps p.tables e below (T6.setTop (mkF m 36 #[.val (.int p1), .val (.int p2), .val (.int p3), .val (.int (2 : Int32)), .val (.ref b4)] [(.int (((p3.toUInt32 >>> ((16 : Int32) &&& 31).toUInt32).toInt32).toInt8.toInt32)), (.int (2 : Int32)), (.ref b4)])) _
    refine st7 _ ?_
    show Steps p.tables e below (T7.setTop (mkF m 37 #[.val (.int p1), .val (.int p2), .val (.int p3), .val (.int (2 : Int32)), .val (.ref b4)] [])) _
    refine XS.aload X7.here hx rfl (hb hby at_37) rfl rfl ?_
    show Steps p.tables e below (T7.setTop (mkF m 39 #[.val (.int p1), .val (.int p2), .val (.int p3), .val (.int (2 : Int32)), .val (.ref b4)] [(.ref b4)])) _
    refine XS.iconst X7.here hx rfl (hb hby at_39) ?_
    show Steps p.tables e below (T7.setTop (mkF m 40 #[.val (.int p1), .val (.int p2), .val (.int p3), .val (.int (2 : Int32)), .val (.ref b4)] [(.int (3 : Int32)), (.ref b4)])) _
    refine XS.iloadN X7.here hx rfl (hb hby at_40) rfl ?_
    show Steps p.tables e below (T7.setTop (mkF m 41 #[.val (.int p1), .val (.int p2), .val (.int p3), .val (.int (2 : Int32)), .val (.ref b4)] [(.int p3), (.int (3 : Int32)), (.ref b4)])) _
    refine XS.bipush X7.here hx rfl (hb hby at_41) ?_
    show Steps p.tables e below (T7.setTop (mkF m 43 #[.val (.int p1), .val (.int p2), .val (.int p3), .val (.int (2 : Int32)), .val (.ref b4)] [(.int (24 : Int32)), (.int p3), (.int (3 : Int32)), (.ref b4)])) _
    refine XS.iushr X7.here hx rfl (hb hby at_43) rfl ?_
    show Steps p.tables e below (T7.setTop (mkF m 44 #[.val (.int p1), .val (.int p2), .val (.int p3), .val (.int (2 : Int32)), .val (.ref b4)] [(.int ((p3.toUInt32 >>> ((24 : Int32) &&& 31).toUInt32).toInt32)), (.int (3 : Int32)), (.ref b4)])) _
    refine XS.i2b X7.here hx rfl (hb hby at_44) rfl ?_
    show Steps p.tables e below (T7.setTop (mkF m 45 #[.val (.int p1), .val (.int p2), .val (.int p3), .val (.int (2 : Int32)), .val (.ref b4)] [(.int (((p3.toUInt32 >>> ((24 : Int32) &&& 31).toUInt32).toInt32).toInt8.toInt32)), (.int (3 : Int32)), (.ref b4)])) _
    refine st8 _ ?_
    show Steps p.tables e below (T8.setTop (mkF m 46 #[.val (.int p1), .val (.int p2), .val (.int p3), .val (.int (2 : Int32)), .val (.ref b4)] [])) _
    refine XS.aload X8.here hx rfl (hb hby at_46) rfl rfl ?_
    show Steps p.tables e below (T8.setTop (mkF m 48 #[.val (.int p1), .val (.int p2), .val (.int p3), .val (.int (2 : Int32)), .val (.ref b4)] [(.ref b4)])) _
    refine XS.iconst X8.here hx rfl (hb hby at_48) ?_
    show Steps p.tables e below (T8.setTop (mkF m 49 #[.val (.int p1), .val (.int p2), .val (.int p3), .val (.int (2 : Int32)), .val (.ref b4)] [(.int (4 : Int32)), (.ref b4)])) _
    refine XS.iloadN X8.here hx rfl (hb hby at_49) rfl ?_
    show Steps p.tables e below (T8.setTop (mkF m 50 #[.val (.int p1), .val (.int p2), .val (.int p3), .val (.int (2 : Int32)), .val (.ref b4)] [(.int p3), (.int (4 : Int32)), (.ref b4)])) _
    refine XS.iconst X8.here hx rfl (hb hby at_50) ?_
    show Steps p.tables e below (T8.setTop (mkF m 51 #[.val (.int p1), .val (.int p2), .val (.int p3), .val (.int (2 : Int32)), .val (.ref b4)] [(.int (-1 : Int32)), (.int p3), (.int (4 : Int32)), (.ref b4)])) _
    refine XS.ixor X8.here hx rfl (hb hby at_51) rfl ?_
    show Steps p.tables e below (T8.setTop (mkF m 52 #[.val (.int p1), .val (.int p2), .val (.int p3), .val (.int (2 : Int32)), .val (.ref b4)] [(.int (p3 ^^^ (-1 : Int32))), (.int (4 : Int32)), (.ref b4)])) _
    refine XS.i2b X8.here hx rfl (hb hby at_52) rfl ?_
    show Steps p.tables e below (T8.setTop (mkF m 53 #[.val (.int p1), .val (.int p2), .val (.int p3), .val (.int (2 : Int32)), .val (.ref b4)] [(.int ((p3 ^^^ (-1 : Int32)).toInt8.toInt32)), (.int (4 : Int32)), (.ref b4)])) _
    refine st9 _ ?_
    show Steps p.tables e below (T9.setTop (mkF m 54 #[.val (.int p1), .val (.int p2), .val (.int p3), .val (.int (2 : Int32)), .val (.ref b4)] [])) _
    refine XS.aload X9.here hx rfl (hb hby at_54) rfl rfl ?_
    show Steps p.tables e below (T9.setTop (mkF m 56 #[.val (.int p1), .val (.int p2), .val (.int p3), .val (.int (2 : Int32)), .val (.ref b4)] [(.ref b4)])) _
    refine XS.iconst X9.here hx rfl (hb hby at_56) ?_
    show Steps p.tables e below (T9.setTop (mkF m 57 #[.val (.int p1), .val (.int p2), .val (.int p3), .val (.int (2 : Int32)), .val (.ref b4)] [(.int (5 : Int32)), (.ref b4)])) _
    refine XS.iloadN X9.here hx rfl (hb hby at_57) rfl ?_
    show Steps p.tables e below (T9.setTop (mkF m 58 #[.val (.int p1), .val (.int p2), .val (.int p3), .val (.int (2 : Int32)), .val (.ref b4)] [(.int p3), (.int (5 : Int32)), (.ref b4)])) _
    refine XS.iconst X9.here hx rfl (hb hby at_58) ?_
    show Steps p.tables e below (T9.setTop (mkF m 59 #[.val (.int p1), .val (.int p2), .val (.int p3), .val (.int (2 : Int32)), .val (.ref b4)] [(.int (-1 : Int32)), (.int p3), (.int (5 : Int32)), (.ref b4)])) _
    refine XS.ixor X9.here hx rfl (hb hby at_59) rfl ?_
    show Steps p.tables e below (T9.setTop (mkF m 60 #[.val (.int p1), .val (.int p2), .val (.int p3), .val (.int (2 : Int32)), .val (.ref b4)] [(.int (p3 ^^^ (-1 : Int32))), (.int (5 : Int32)), (.ref b4)])) _
    refine XS.bipush X9.here hx rfl (hb hby at_60) ?_
    show Steps p.tables e below (T9.setTop (mkF m 62 #[.val (.int p1), .val (.int p2), .val (.int p3), .val (.int (2 : Int32)), .val (.ref b4)] [(.int (8 : Int32)), (.int (p3 ^^^ (-1 : Int32))), (.int (5 : Int32)), (.ref b4)])) _
    refine XS.iushr X9.here hx rfl (hb hby at_62) rfl ?_
    show Steps p.tables e below (T9.setTop (mkF m 63 #[.val (.int p1), .val (.int p2), .val (.int p3), .val (.int (2 : Int32)), .val (.ref b4)] [(.int (((p3 ^^^ (-1 : Int32)).toUInt32 >>> ((8 : Int32) &&& 31).toUInt32).toInt32)), (.int (5 : Int32)), (.ref b4)])) _
    refine XS.i2b X9.here hx rfl (hb hby at_63) rfl ?_
    show Steps p.tables e below (T9.setTop (mkF m 64 #[.val (.int p1), .val (.int p2), .val (.int p3), .val (.int (2 : Int32)), .val (.ref b4)] [(.int ((((p3 ^^^ (-1 : Int32)).toUInt32 >>> ((8 : Int32) &&& 31).toUInt32).toInt32).toInt8.toInt32)), (.int (5 : Int32)), (.ref b4)])) _
    refine st10 _ ?_
    show Steps p.tables e below (T10.setTop (mkF m 65 #[.val (.int p1), .val (.int p2), .val (.int p3), .val (.int (2 : Int32)), .val (.ref b4)] [])) _
    refine XS.aload X10.here hx rfl (hb hby at_65) rfl rfl ?_
    show Steps p.tables e below (T10.setTop (mkF m 67 #[.val (.int p1), .val (.int p2), .val (.int p3), .val (.int (2 : Int32)), .val (.ref b4)] [(.ref b4)])) _
    refine XS.bipush X10.here hx rfl (hb hby at_67) ?_
    show Steps p.tables e below (T10.setTop (mkF m 69 #[.val (.int p1), .val (.int p2), .val (.int p3), .val (.int (2 : Int32)), .val (.ref b4)] [(.int (6 : Int32)), (.ref b4)])) _
    refine XS.iloadN X10.here hx rfl (hb hby at_69) rfl ?_
    show Steps p.tables e below (T10.setTop (mkF m 70 #[.val (.int p1), .val (.int p2), .val (.int p3), .val (.int (2 : Int32)), .val (.ref b4)] [(.int p3), (.int (6 : Int32)), (.ref b4)])) _
    refine XS.iconst X10.here hx rfl (hb hby at_70) ?_
    show Steps p.tables e below (T10.setTop (mkF m 71 #[.val (.int p1), .val (.int p2), .val (.int p3), .val (.int (2 : Int32)), .val (.ref b4)] [(.int (-1 : Int32)), (.int p3), (.int (6 : Int32)), (.ref b4)])) _
    refine XS.ixor X10.here hx rfl (hb hby at_71) rfl ?_
    show Steps p.tables e below (T10.setTop (mkF m 72 #[.val (.int p1), .val (.int p2), .val (.int p3), .val (.int (2 : Int32)), .val (.ref b4)] [(.int (p3 ^^^ (-1 : Int32))), (.int (6 : Int32)), (.ref b4)])) _
    refine XS.bipush X10.here hx rfl (hb hby at_72) ?_
    show Steps p.tables e below (T10.setTop (mkF m 74 #[.val (.int p1), .val (.int p2), .val (.int p3), .val (.int (2 : Int32)), .val (.ref b4)] [(.int (16 : Int32)), (.int (p3 ^^^ (-1 : Int32))), (.int (6 : Int32)), (.ref b4)])) _
    refine XS.iushr X10.here hx rfl (hb hby at_74) rfl ?_
    show Steps p.tables e below (T10.setTop (mkF m 75 #[.val (.int p1), .val (.int p2), .val (.int p3), .val (.int (2 : Int32)), .val (.ref b4)] [(.int (((p3 ^^^ (-1 : Int32)).toUInt32 >>> ((16 : Int32) &&& 31).toUInt32).toInt32)), (.int (6 : Int32)), (.ref b4)])) _
    refine XS.i2b X10.here hx rfl (hb hby at_75) rfl ?_
    show Steps p.tables e below (T10.setTop (mkF m 76 #[.val (.int p1), .val (.int p2), .val (.int p3), .val (.int (2 : Int32)), .val (.ref b4)] [(.int ((((p3 ^^^ (-1 : Int32)).toUInt32 >>> ((16 : Int32) &&& 31).toUInt32).toInt32).toInt8.toInt32)), (.int (6 : Int32)), (.ref b4)])) _
    refine st11 _ ?_
    show Steps p.tables e below (T11.setTop (mkF m 77 #[.val (.int p1), .val (.int p2), .val (.int p3), .val (.int (2 : Int32)), .val (.ref b4)] [])) _
    refine XS.aload X11.here hx rfl (hb hby at_77) rfl rfl ?_
    show Steps p.tables e below (T11.setTop (mkF m 79 #[.val (.int p1), .val (.int p2), .val (.int p3), .val (.int (2 : Int32)), .val (.ref b4)] [(.ref b4)])) _
    refine XS.iloadN X11.here hx rfl (hb hby at_79) rfl ?_
    show Steps p.tables e below (T11.setTop (mkF m 80 #[.val (.int p1), .val (.int p2), .val (.int p3), .val (.int (2 : Int32)), .val (.ref b4)] [(.int (2 : Int32)), (.ref b4)])) _
    refine XS.iloadN X11.here hx rfl (hb hby at_80) rfl ?_
    show Steps p.tables e below (T11.setTop (mkF m 81 #[.val (.int p1), .val (.int p2), .val (.int p3), .val (.int (2 : Int32)), .val (.ref b4)] [(.int p1), (.int (2 : Int32)), (.ref b4)])) _
    refine XS.bipush X11.here hx rfl (hb hby at_81) ?_
    show Steps p.tables e below (T11.setTop (mkF m 83 #[.val (.int p1), .val (.int p2), .val (.int p3), .val (.int (2 : Int32)), .val (.ref b4)] [(.int (24 : Int32)), (.int p1), (.int (2 : Int32)), (.ref b4)])) _
    refine XS.iushr X11.here hx rfl (hb hby at_83) rfl ?_
    show Steps p.tables e below (T11.setTop (mkF m 84 #[.val (.int p1), .val (.int p2), .val (.int p3), .val (.int (2 : Int32)), .val (.ref b4)] [(.int ((p1.toUInt32 >>> ((24 : Int32) &&& 31).toUInt32).toInt32)), (.int (2 : Int32)), (.ref b4)])) _
    refine XS.i2b X11.here hx rfl (hb hby at_84) rfl ?_
    show Steps p.tables e below (T11.setTop (mkF m 85 #[.val (.int p1), .val (.int p2), .val (.int p3), .val (.int (2 : Int32)), .val (.ref b4)] [(.int (((p1.toUInt32 >>> ((24 : Int32) &&& 31).toUInt32).toInt32).toInt8.toInt32)), (.int (2 : Int32)), (.ref b4)])) _
    refine st12 _ ?_
    show Steps p.tables e below (T12.setTop (mkF m 86 #[.val (.int p1), .val (.int p2), .val (.int p3), .val (.int (2 : Int32)), .val (.ref b4)] [])) _
    refine XS.aload X12.here hx rfl (hb hby at_86) rfl rfl ?_
    show Steps p.tables e below (T12.setTop (mkF m 88 #[.val (.int p1), .val (.int p2), .val (.int p3), .val (.int (2 : Int32)), .val (.ref b4)] [(.ref b4)])) _
    refine XS.iloadN X12.here hx rfl (hb hby at_88) rfl ?_
    show Steps p.tables e below (T12.setTop (mkF m 89 #[.val (.int p1), .val (.int p2), .val (.int p3), .val (.int (2 : Int32)), .val (.ref b4)] [(.int (2 : Int32)), (.ref b4)])) _
    refine XS.iconst X12.here hx rfl (hb hby at_89) ?_
    show Steps p.tables e below (T12.setTop (mkF m 90 #[.val (.int p1), .val (.int p2), .val (.int p3), .val (.int (2 : Int32)), .val (.ref b4)] [(.int (1 : Int32)), (.int (2 : Int32)), (.ref b4)])) _
    refine XS.iadd X12.here hx rfl (hb hby at_90) rfl ?_
    show Steps p.tables e below (T12.setTop (mkF m 91 #[.val (.int p1), .val (.int p2), .val (.int p3), .val (.int (2 : Int32)), .val (.ref b4)] [(.int ((2 : Int32) + (1 : Int32))), (.ref b4)])) _
    refine XS.iloadN X12.here hx rfl (hb hby at_91) rfl ?_
    show Steps p.tables e below (T12.setTop (mkF m 92 #[.val (.int p1), .val (.int p2), .val (.int p3), .val (.int (2 : Int32)), .val (.ref b4)] [(.int p1), (.int ((2 : Int32) + (1 : Int32))), (.ref b4)])) _
    refine XS.bipush X12.here hx rfl (hb hby at_92) ?_
    show Steps p.tables e below (T12.setTop (mkF m 94 #[.val (.int p1), .val (.int p2), .val (.int p3), .val (.int (2 : Int32)), .val (.ref b4)] [(.int (16 : Int32)), (.int p1), (.int ((2 : Int32) + (1 : Int32))), (.ref b4)])) _
    refine XS.iushr X12.here hx rfl (hb hby at_94) rfl ?_
    show Steps p.tables e below (T12.setTop (mkF m 95 #[.val (.int p1), .val (.int p2), .val (.int p3), .val (.int (2 : Int32)), .val (.ref b4)] [(.int ((p1.toUInt32 >>> ((16 : Int32) &&& 31).toUInt32).toInt32)), (.int ((2 : Int32) + (1 : Int32))), (.ref b4)])) _
    refine XS.i2b X12.here hx rfl (hb hby at_95) rfl ?_
    show Steps p.tables e below (T12.setTop (mkF m 96 #[.val (.int p1), .val (.int p2), .val (.int p3), .val (.int (2 : Int32)), .val (.ref b4)] [(.int (((p1.toUInt32 >>> ((16 : Int32) &&& 31).toUInt32).toInt32).toInt8.toInt32)), (.int ((2 : Int32) + (1 : Int32))), (.ref b4)])) _
    refine st13 _ ?_
    show Steps p.tables e below (T13.setTop (mkF m 97 #[.val (.int p1), .val (.int p2), .val (.int p3), .val (.int (2 : Int32)), .val (.ref b4)] [])) _
    refine XS.aload X13.here hx rfl (hb hby at_97) rfl rfl ?_
    show Steps p.tables e below (T13.setTop (mkF m 99 #[.val (.int p1), .val (.int p2), .val (.int p3), .val (.int (2 : Int32)), .val (.ref b4)] [(.ref b4)])) _
    refine XS.iloadN X13.here hx rfl (hb hby at_99) rfl ?_
    show Steps p.tables e below (T13.setTop (mkF m 100 #[.val (.int p1), .val (.int p2), .val (.int p3), .val (.int (2 : Int32)), .val (.ref b4)] [(.int (2 : Int32)), (.ref b4)])) _
    refine XS.iconst X13.here hx rfl (hb hby at_100) ?_
    show Steps p.tables e below (T13.setTop (mkF m 101 #[.val (.int p1), .val (.int p2), .val (.int p3), .val (.int (2 : Int32)), .val (.ref b4)] [(.int (2 : Int32)), (.int (2 : Int32)), (.ref b4)])) _
    refine XS.iadd X13.here hx rfl (hb hby at_101) rfl ?_
    show Steps p.tables e below (T13.setTop (mkF m 102 #[.val (.int p1), .val (.int p2), .val (.int p3), .val (.int (2 : Int32)), .val (.ref b4)] [(.int ((2 : Int32) + (2 : Int32))), (.ref b4)])) _
    refine XS.iloadN X13.here hx rfl (hb hby at_102) rfl ?_
    show Steps p.tables e below (T13.setTop (mkF m 103 #[.val (.int p1), .val (.int p2), .val (.int p3), .val (.int (2 : Int32)), .val (.ref b4)] [(.int p1), (.int ((2 : Int32) + (2 : Int32))), (.ref b4)])) _
    refine XS.bipush X13.here hx rfl (hb hby at_103) ?_
    show Steps p.tables e below (T13.setTop (mkF m 105 #[.val (.int p1), .val (.int p2), .val (.int p3), .val (.int (2 : Int32)), .val (.ref b4)] [(.int (8 : Int32)), (.int p1), (.int ((2 : Int32) + (2 : Int32))), (.ref b4)])) _
    refine XS.iushr X13.here hx rfl (hb hby at_105) rfl ?_
    show Steps p.tables e below (T13.setTop (mkF m 106 #[.val (.int p1), .val (.int p2), .val (.int p3), .val (.int (2 : Int32)), .val (.ref b4)] [(.int ((p1.toUInt32 >>> ((8 : Int32) &&& 31).toUInt32).toInt32)), (.int ((2 : Int32) + (2 : Int32))), (.ref b4)])) _
    refine XS.i2b X13.here hx rfl (hb hby at_106) rfl ?_
    show Steps p.tables e below (T13.setTop (mkF m 107 #[.val (.int p1), .val (.int p2), .val (.int p3), .val (.int (2 : Int32)), .val (.ref b4)] [(.int (((p1.toUInt32 >>> ((8 : Int32) &&& 31).toUInt32).toInt32).toInt8.toInt32)), (.int ((2 : Int32) + (2 : Int32))), (.ref b4)])) _
    refine st14 _ ?_
    show Steps p.tables e below (T14.setTop (mkF m 108 #[.val (.int p1), .val (.int p2), .val (.int p3), .val (.int (2 : Int32)), .val (.ref b4)] [])) _
    refine XS.aload X14.here hx rfl (hb hby at_108) rfl rfl ?_
    show Steps p.tables e below (T14.setTop (mkF m 110 #[.val (.int p1), .val (.int p2), .val (.int p3), .val (.int (2 : Int32)), .val (.ref b4)] [(.ref b4)])) _
    refine XS.iloadN X14.here hx rfl (hb hby at_110) rfl ?_
    show Steps p.tables e below (T14.setTop (mkF m 111 #[.val (.int p1), .val (.int p2), .val (.int p3), .val (.int (2 : Int32)), .val (.ref b4)] [(.int (2 : Int32)), (.ref b4)])) _
    refine XS.iconst X14.here hx rfl (hb hby at_111) ?_
    show Steps p.tables e below (T14.setTop (mkF m 112 #[.val (.int p1), .val (.int p2), .val (.int p3), .val (.int (2 : Int32)), .val (.ref b4)] [(.int (3 : Int32)), (.int (2 : Int32)), (.ref b4)])) _
    refine XS.iadd X14.here hx rfl (hb hby at_112) rfl ?_
    show Steps p.tables e below (T14.setTop (mkF m 113 #[.val (.int p1), .val (.int p2), .val (.int p3), .val (.int (2 : Int32)), .val (.ref b4)] [(.int ((2 : Int32) + (3 : Int32))), (.ref b4)])) _
    refine XS.iloadN X14.here hx rfl (hb hby at_113) rfl ?_
    show Steps p.tables e below (T14.setTop (mkF m 114 #[.val (.int p1), .val (.int p2), .val (.int p3), .val (.int (2 : Int32)), .val (.ref b4)] [(.int p1), (.int ((2 : Int32) + (3 : Int32))), (.ref b4)])) _
    refine XS.i2b X14.here hx rfl (hb hby at_114) rfl ?_
    show Steps p.tables e below (T14.setTop (mkF m 115 #[.val (.int p1), .val (.int p2), .val (.int p3), .val (.int (2 : Int32)), .val (.ref b4)] [(.int (p1.toInt8.toInt32)), (.int ((2 : Int32) + (3 : Int32))), (.ref b4)])) _
    refine st15 _ ?_
    show Steps p.tables e below (T15.setTop (mkF m 116 #[.val (.int p1), .val (.int p2), .val (.int p3), .val (.int (2 : Int32)), .val (.ref b4)] [])) _
    refine XS.aload X15.here hx rfl (hb hby at_116) rfl rfl ?_
    show Steps p.tables e below (T15.setTop (mkF m 118 #[.val (.int p1), .val (.int p2), .val (.int p3), .val (.int (2 : Int32)), .val (.ref b4)] [(.ref b4)])) _
    refine XS.iloadN X15.here hx rfl (hb hby at_118) rfl ?_
    show Steps p.tables e below (T15.setTop (mkF m 119 #[.val (.int p1), .val (.int p2), .val (.int p3), .val (.int (2 : Int32)), .val (.ref b4)] [(.int (2 : Int32)), (.ref b4)])) _
    refine st16 _ ?_
    show Steps p.tables e below (T16.setTop (mkF m 122 #[.val (.int p1), .val (.int p2), .val (.int p3), .val (.int (2 : Int32)), .val (.ref b4)] [(.int (((((((((p1.toUInt32 >>> ((24 : Int32) &&& 31).toUInt32).toInt32).toInt8.toInt32).toInt8.toInt32) &&& (255 : Int32)) <<< ((24 : Int32) &&& 31)) ||| ((((((p1.toUInt32 >>> ((16 : Int32) &&& 31).toUInt32).toInt32).toInt8.toInt32).toInt8.toInt32) &&& (255 : Int32)) <<< ((16 : Int32) &&& 31))) ||| ((((((p1.toUInt32 >>> ((8 : Int32) &&& 31).toUInt32).toInt32).toInt8.toInt32).toInt8.toInt32) &&& (255 : Int32)) <<< ((8 : Int32) &&& 31))) ||| ((((p1).toInt8.toInt32).toInt8.toInt32) &&& (255 : Int32))))])) _
    refine XS.iloadN X16.here hx rfl (hb hby at_122) rfl ?_
    show Steps p.tables e below (T16.setTop (mkF m 123 #[.val (.int p1), .val (.int p2), .val (.int p3), .val (.int (2 : Int32)), .val (.ref b4)] [(.int p1), (.int (((((((((p1.toUInt32 >>> ((24 : Int32) &&& 31).toUInt32).toInt32).toInt8.toInt32).toInt8.toInt32) &&& (255 : Int32)) <<< ((24 : Int32) &&& 31)) ||| ((((((p1.toUInt32 >>> ((16 : Int32) &&& 31).toUInt32).toInt32).toInt8.toInt32).toInt8.toInt32) &&& (255 : Int32)) <<< ((16 : Int32) &&& 31))) ||| ((((((p1.toUInt32 >>> ((8 : Int32) &&& 31).toUInt32).toInt32).toInt8.toInt32).toInt8.toInt32) &&& (255 : Int32)) <<< ((8 : Int32) &&& 31))) ||| ((((p1).toInt8.toInt32).toInt8.toInt32) &&& (255 : Int32))))])) _
    refine XS.icmpNo X16.here hx rfl (hb hby at_123) rfl (teq (own_be p1 : (((((((((p1.toUInt32 >>> ((24 : Int32) &&& 31).toUInt32).toInt32).toInt8.toInt32).toInt8.toInt32) &&& (255 : Int32)) <<< ((24 : Int32) &&& 31)) ||| ((((((p1.toUInt32 >>> ((16 : Int32) &&& 31).toUInt32).toInt32).toInt8.toInt32).toInt8.toInt32) &&& (255 : Int32)) <<< ((16 : Int32) &&& 31))) ||| ((((((p1.toUInt32 >>> ((8 : Int32) &&& 31).toUInt32).toInt32).toInt8.toInt32).toInt8.toInt32) &&& (255 : Int32)) <<< ((8 : Int32) &&& 31))) ||| ((((p1).toInt8.toInt32).toInt8.toInt32) &&& (255 : Int32))) = p1)).2 ?_
    show Steps p.tables e below (T16.setTop (mkF m 126 #[.val (.int p1), .val (.int p2), .val (.int p3), .val (.int (2 : Int32)), .val (.ref b4)] [])) _
    refine XS.iconst X16.here hx rfl (hb hby at_126) ?_
    show Steps p.tables e below (T16.setTop (mkF m 127 #[.val (.int p1), .val (.int p2), .val (.int p3), .val (.int (2 : Int32)), .val (.ref b4)] [(.int (1 : Int32))])) _
    refine XS.goto X16.here hx rfl (pc0 := 127) (pc' := 131) rfl (hb hby at_127) (by decide) (by decide) ?_
    show Steps p.tables e below (T16.setTop (mkF m 131 #[.val (.int p1), .val (.int p2), .val (.int p3), .val (.int (2 : Int32)), .val (.ref b4)] [(.int (1 : Int32))])) _
    exact retN X16 hx (t := .boolean) Bd.returns (by simp) (hb hby at_131) hr
  · show Ql (some (.int (1 : Int32))) n0 _ _
    exact ⟨rfl, N16⟩
set_option maxRecDepth 65536 in
set_option maxHeartbeats 40000000 in
theorem rm0_o3 (l : Launch) (Z : State) (a0 : Array Value) (hw : ∀ d ∈ tables_1, d.before a0 Z = true) (ws : List Jvm.Cond) (p1 : Int32) (p2 : Int32) (p3 : Int32) (h0 : Heap) (n0 : Nat) (Z0 : n0 ≤ h0.size) (hoo : (own_rem (p2 &&& (2147483647 : Int32)) (4 : Int32)) = (3 : Int32)) :
    MetFree l x (head1 (Jvm.Cond.code x code maxLocals ret :: ws) room_1) (fun a U => a = #[(.int p1), (.int p2), (.int p3)] ∧ Z.Warmed39 U.vm ∧ U.heap = h0) (fun _ _ _ _ _ => True) (fun _ U o U' => ∃ v L, o = .returned v ∧ Ql (some (.int (1 : Int32))) n0 v L ∧ FrameEnd U o U' L room_1.cells room_1.slots) := by
  refine MetFree.of_bodySF (plainFor_of_name pn_0) hisR ?_
  intro p e s m args below meth c s₁ Bd hml0 hP hK
  obtain ⟨rfl, hZ, hh⟩ := hP
  have hx := Bd.exec
  have hby := Bd.bytes
  have hml : c.maxLocals = 5 := hml0
  have hown : s.vm.findClass "com/example/telegrid/telegrid/esp3/BigEndianIntAtPinLaw" = some m.cls := findClass_of_methodNamed Bd.named
  have hnm := (name_of_methodNamed Bd.named Bd.method).1
  have X0 : Stand p l e room_1 s m #[(.int p1), (.int p2), (.int p3)] below meth c s₁ [] 0 0 := Stand.of_body Bd
  have e0 : s₁.heap = h0 := by rw [← hh, Bd.state]; rfl
  have N0 := Fr.nil n0
  have pre0 : ∀ t, Steps p.tables e below (s₁.setTop (mkF m 0 #[.val (.int p1), .val (.int p2), .val (.int p3), .unset, .unset] [])) t → Steps p.tables e below (s₁.setTop (entryFrame m #[(.int p1), (.int p2), (.int p3)] maxLocals)) t := fun t k => castTop (ef_0 m p1 p2 p3) k
  -- 3. LAWS
  obtain ⟨T4, h4, k4, X4, e4, E4, A4, st4⟩ := newP X0 hx hZ (hw _ (List.mem_of_getElem? (i := 1) rfl)) e0 (g := (mkF m 9 #[.val (.int p1), .val (.int p2), .val (.int p3), .val (.int (3 : Int32)), .unset] [(.int (7 : Int32))])) rfl (hb hby at_9) rfl (by decide) (cap := 7) (by decide) (by decide) (by decide) (by decide)
  obtain ⟨b4, g4⟩ : ∃ z, z = h0.size := ⟨_, rfl⟩      -- the fresh array's address
  rw [← g4] at A4 st4
  have V_b4 : Arv Z h4 b4 k4 .byte (7 : Int32) [(.int (0 : Int32)), (.int (0 : Int32)), (.int (0 : Int32)), (.int (0 : Int32)), (.int (0 : Int32)), (.int (0 : Int32)), (.int (0 : Int32))] (.int (0 : Int32)) := (Arv.new A4 (by decide)).pad (pad_rep [] (.int (0 : Int32)) 7)
  have g_b4 : n0 ≤ b4 := Nat.le_trans Z0 (Nat.le_of_eq g4.symm)
  have sz_b4 : h0.size ≤ b4 := (Nat.le_trans (Keep.refl h0 []).1 (Nat.le_of_eq g4.symm))
  have K4 : Keep h0 h4 [] := (Keep.refl h0 []).ext E4
  obtain ⟨cl_b4_18, Ar_b4, q_b4, S_b4, N_b4, H_b4, G_b4⟩ := V_b4      -- open the array's fact as it stands now (its cell, kind, length, elements)
  have hin18 : ¬ ((0 : Int32) < 0 ∨ cl_b4_18.slots.size ≤ ((0 : Int32)).toNatClampNeg) := inb_of S_b4 ⟨by decide, by decide⟩
  obtain ⟨T5, h5, X5, e5, W5, st5⟩ := stB X4 hx hZ e4 Ar_b4 (j := (0 : Int32)) hin18 (g := (mkF m 18 #[.val (.int p1), .val (.int p2), .val (.int p3), .val (.int (3 : Int32)), .val (.ref b4)] [(.int (p3.toInt8.toInt32)), (.int (0 : Int32)), (.ref b4)])) rfl rfl (hb hby at_18)
  have V_b4_5 := Arv.set Ar_b4 q_b4 S_b4 N_b4 H_b4 G_b4 (fits_nar_byte _) W5 0 rfl (Nat.le_of_ble_eq_true rfl)      -- the array as it stands now (the place must lie among its first values: Arv.pad with pad_rep lengthens them)
  have K5 : Keep h0 h5 [] := K4.wr W5 (Or.inr sz_b4)
  have N5 := Fr.snoc X5 N0 g_b4
  -- (bastore into a boolean[]: stZ in stB's place)
  obtain ⟨cl_b4_27, Ar_b4, q_b4, S_b4, N_b4, H_b4, G_b4⟩ := V_b4_5      -- open the array's fact as it stands now (its cell, kind, length, elements)
  have hin27 : ¬ ((1 : Int32) < 0 ∨ cl_b4_27.slots.size ≤ ((1 : Int32)).toNatClampNeg) := inb_of S_b4 ⟨by decide, by decide⟩
  obtain ⟨T6, h6, X6, e6, W6, st6⟩ := stB X5 hx hZ e5 Ar_b4 (j := (1 : Int32)) hin27 (g := (mkF m 27 #[.val (.int p1), .val (.int p2), .val (.int p3), .val (.int (3 : Int32)), .val (.ref b4)] [(.int (((p3.toUInt32 >>> ((8 : Int32) &&& 31).toUInt32).toInt32).toInt8.toInt32)), (.int (1 : Int32)), (.ref b4)])) rfl rfl (hb hby at_27)
  have V_b4_6 := Arv.set Ar_b4 q_b4 S_b4 N_b4 H_b4 G_b4 (fits_nar_byte _) W6 1 rfl (Nat.le_of_ble_eq_true rfl)      -- the array as it stands now (the place must lie among its first values: Arv.pad with pad_rep lengthens them)
  have K6 : Keep h0 h6 [] := K5.wr W6 (Or.inr sz_b4)
  have N6 := Fr.snoc X6 N5 g_b4
  -- (bastore into a boolean[]: stZ in stB's place)
  obtain ⟨cl_b4_36, Ar_b4, q_b4, S_b4, N_b4, H_b4, G_b4⟩ := V_b4_6      -- open the array's fact as it stands now (its cell, kind, length, elements)
  have hin36 : ¬ ((2 : Int32) < 0 ∨ cl_b4_36.slots.size ≤ ((2 : Int32)).toNatClampNeg) := inb_of S_b4 ⟨by decide, by decide⟩
  obtain ⟨T7, h7, X7, e7, W7, st7⟩ := stB X6 hx hZ e6 Ar_b4 (j := (2 : Int32)) hin36 (g := (mkF m 36 #[.val (.int p1), .val (.int p2), .val (.int p3), .val (.int (3 : Int32)), .val (.ref b4)] [(.int (((p3.toUInt32 >>> ((16 : Int32) &&& 31).toUInt32).toInt32).toInt8.toInt32)), (.int (2 : Int32)), (.ref b4)])) rfl rfl (hb hby at_36)
  have V_b4_7 := Arv.set Ar_b4 q_b4 S_b4 N_b4 H_b4 G_b4 (fits_nar_byte _) W7 2 rfl (Nat.le_of_ble_eq_true rfl)      -- the array as it stands now (the place must lie among its first values: Arv.pad with pad_rep lengthens them)
  have K7 : Keep h0 h7 [] := K6.wr W7 (Or.inr sz_b4)
  have N7 := Fr.snoc X7 N6 g_b4
  -- (bastore into a boolean[]: stZ in stB's place)
  obtain ⟨cl_b4_45, Ar_b4, q_b4, S_b4, N_b4, H_b4, G_b4⟩ := V_b4_7      -- open the array's fact as it stands now (its cell, kind, length, elements)
  have hin45 : ¬ ((3 : Int32) < 0 ∨ cl_b4_45.slots.size ≤ ((3 : Int32)).toNatClampNeg) := inb_of S_b4 ⟨by decide, by decide⟩
  obtain ⟨T8, h8, X8, e8, W8, st8⟩ := stB X7 hx hZ e7 Ar_b4 (j := (3 : Int32)) hin45 (g := (mkF m 45 #[.val (.int p1), .val (.int p2), .val (.int p3), .val (.int (3 : Int32)), .val (.ref b4)] [(.int (((p3.toUInt32 >>> ((24 : Int32) &&& 31).toUInt32).toInt32).toInt8.toInt32)), (.int (3 : Int32)), (.ref b4)])) rfl rfl (hb hby at_45)
  have V_b4_8 := Arv.set Ar_b4 q_b4 S_b4 N_b4 H_b4 G_b4 (fits_nar_byte _) W8 3 rfl (Nat.le_of_ble_eq_true rfl)      -- the array as it stands now (the place must lie among its first values: Arv.pad with pad_rep lengthens them)
  have K8 : Keep h0 h8 [] := K7.wr W8 (Or.inr sz_b4)
  have N8 := Fr.snoc X8 N7 g_b4
  -- (bastore into a boolean[]: stZ in stB's place)
  obtain ⟨cl_b4_53, Ar_b4, q_b4, S_b4, N_b4, H_b4, G_b4⟩ := V_b4_8      -- open the array's fact as it stands now (its cell, kind, length, elements)
  have hin53 : ¬ ((4 : Int32) < 0 ∨ cl_b4_53.slots.size ≤ ((4 : Int32)).toNatClampNeg) := inb_of S_b4 ⟨by decide, by decide⟩
  obtain ⟨T9, h9, X9, e9, W9, st9⟩ := stB X8 hx hZ e8 Ar_b4 (j := (4 : Int32)) hin53 (g := (mkF m 53 #[.val (.int p1), .val (.int p2), .val (.int p3), .val (.int (3 : Int32)), .val (.ref b4)] [(.int ((p3 ^^^ (-1 : Int32)).toInt8.toInt32)), (.int (4 : Int32)), (.ref b4)])) rfl rfl (hb hby at_53)
  have V_b4_9 := Arv.set Ar_b4 q_b4 S_b4 N_b4 H_b4 G_b4 (fits_nar_byte _) W9 4 rfl (Nat.le_of_ble_eq_true rfl)      -- the array as it stands now (the place must lie among its first values: Arv.pad with pad_rep lengthens them)
  have K9 : Keep h0 h9 [] := K8.wr W9 (Or.inr sz_b4)
  have N9 := Fr.snoc X9 N8 g_b4
  -- (bastore into a boolean[]: stZ in stB's place)
  obtain ⟨cl_b4_64, Ar_b4, q_b4, S_b4, N_b4, H_b4, G_b4⟩ := V_b4_9      -- open the array's fact as it stands now (its cell, kind, length, elements)
  have hin64 : ¬ ((5 : Int32) < 0 ∨ cl_b4_64.slots.size ≤ ((5 : Int32)).toNatClampNeg) := inb_of S_b4 ⟨by decide, by decide⟩
  obtain ⟨T10, h10, X10, e10, W10, st10⟩ := stB X9 hx hZ e9 Ar_b4 (j := (5 : Int32)) hin64 (g := (mkF m 64 #[.val (.int p1), .val (.int p2), .val (.int p3), .val (.int (3 : Int32)), .val (.ref b4)] [(.int ((((p3 ^^^ (-1 : Int32)).toUInt32 >>> ((8 : Int32) &&& 31).toUInt32).toInt32).toInt8.toInt32)), (.int (5 : Int32)), (.ref b4)])) rfl rfl (hb hby at_64)
  have V_b4_10 := Arv.set Ar_b4 q_b4 S_b4 N_b4 H_b4 G_b4 (fits_nar_byte _) W10 5 rfl (Nat.le_of_ble_eq_true rfl)      -- the array as it stands now (the place must lie among its first values: Arv.pad with pad_rep lengthens them)
  have K10 : Keep h0 h10 [] := K9.wr W10 (Or.inr sz_b4)
  have N10 := Fr.snoc X10 N9 g_b4
  -- (bastore into a boolean[]: stZ in stB's place)
  obtain ⟨cl_b4_76, Ar_b4, q_b4, S_b4, N_b4, H_b4, G_b4⟩ := V_b4_10      -- open the array's fact as it stands now (its cell, kind, length, elements)
  have hin76 : ¬ ((6 : Int32) < 0 ∨ cl_b4_76.slots.size ≤ ((6 : Int32)).toNatClampNeg) := inb_of S_b4 ⟨by decide, by decide⟩
  obtain ⟨T11, h11, X11, e11, W11, st11⟩ := stB X10 hx hZ e10 Ar_b4 (j := (6 : Int32)) hin76 (g := (mkF m 76 #[.val (.int p1), .val (.int p2), .val (.int p3), .val (.int (3 : Int32)), .val (.ref b4)] [(.int ((((p3 ^^^ (-1 : Int32)).toUInt32 >>> ((16 : Int32) &&& 31).toUInt32).toInt32).toInt8.toInt32)), (.int (6 : Int32)), (.ref b4)])) rfl rfl (hb hby at_76)
  have V_b4_11 := Arv.set Ar_b4 q_b4 S_b4 N_b4 H_b4 G_b4 (fits_nar_byte _) W11 6 rfl (Nat.le_of_ble_eq_true rfl)      -- the array as it stands now (the place must lie among its first values: Arv.pad with pad_rep lengthens them)
  have K11 : Keep h0 h11 [] := K10.wr W11 (Or.inr sz_b4)
  have N11 := Fr.snoc X11 N10 g_b4
  -- (bastore into a boolean[]: stZ in stB's place)
  obtain ⟨cl_b4_85, Ar_b4, q_b4, S_b4, N_b4, H_b4, G_b4⟩ := V_b4_11      -- open the array's fact as it stands now (its cell, kind, length, elements)
  have hin85 : ¬ ((3 : Int32) < 0 ∨ cl_b4_85.slots.size ≤ ((3 : Int32)).toNatClampNeg) := inb_of S_b4 ⟨by decide, by decide⟩
  obtain ⟨T12, h12, X12, e12, W12, st12⟩ := stB X11 hx hZ e11 Ar_b4 (j := (3 : Int32)) hin85 (g := (mkF m 85 #[.val (.int p1), .val (.int p2), .val (.int p3), .val (.int (3 : Int32)), .val (.ref b4)] [(.int (((p1.toUInt32 >>> ((24 : Int32) &&& 31).toUInt32).toInt32).toInt8.toInt32)), (.int (3 : Int32)), (.ref b4)])) rfl rfl (hb hby at_85)
  have V_b4_12 := Arv.set Ar_b4 q_b4 S_b4 N_b4 H_b4 G_b4 (fits_nar_byte _) W12 3 rfl (Nat.le_of_ble_eq_true rfl)      -- the array as it stands now (the place must lie among its first values: Arv.pad with pad_rep lengthens them)
  have K12 : Keep h0 h12 [] := K11.wr W12 (Or.inr sz_b4)
  have N12 := Fr.snoc X12 N11 g_b4
  -- (bastore into a boolean[]: stZ in stB's place)
  obtain ⟨cl_b4_96, Ar_b4, q_b4, S_b4, N_b4, H_b4, G_b4⟩ := V_b4_12      -- open the array's fact as it stands now (its cell, kind, length, elements)
  have hin96 : ¬ (((3 : Int32) + (1 : Int32)) < 0 ∨ cl_b4_96.slots.size ≤ (((3 : Int32) + (1 : Int32))).toNatClampNeg) := inb_of S_b4 ⟨by decide, by decide⟩
  obtain ⟨T13, h13, X13, e13, W13, st13⟩ := stB X12 hx hZ e12 Ar_b4 (j := ((3 : Int32) + (1 : Int32))) hin96 (g := (mkF m 96 #[.val (.int p1), .val (.int p2), .val (.int p3), .val (.int (3 : Int32)), .val (.ref b4)] [(.int (((p1.toUInt32 >>> ((16 : Int32) &&& 31).toUInt32).toInt32).toInt8.toInt32)), (.int ((3 : Int32) + (1 : Int32))), (.ref b4)])) rfl rfl (hb hby at_96)
  have V_b4_13 := Arv.set Ar_b4 q_b4 S_b4 N_b4 H_b4 G_b4 (fits_nar_byte _) W13 4 rfl (Nat.le_of_ble_eq_true rfl)      -- the array as it stands now (the place must lie among its first values: Arv.pad with pad_rep lengthens them)
  have K13 : Keep h0 h13 [] := K12.wr W13 (Or.inr sz_b4)
  have N13 := Fr.snoc X13 N12 g_b4
  -- (bastore into a boolean[]: stZ in stB's place)
  obtain ⟨cl_b4_107, Ar_b4, q_b4, S_b4, N_b4, H_b4, G_b4⟩ := V_b4_13      -- open the array's fact as it stands now (its cell, kind, length, elements)
  have hin107 : ¬ (((3 : Int32) + (2 : Int32)) < 0 ∨ cl_b4_107.slots.size ≤ (((3 : Int32) + (2 : Int32))).toNatClampNeg) := inb_of S_b4 ⟨by decide, by decide⟩
  obtain ⟨T14, h14, X14, e14, W14, st14⟩ := stB X13 hx hZ e13 Ar_b4 (j := ((3 : Int32) + (2 : Int32))) hin107 (g := (mkF m 107 #[.val (.int p1), .val (.int p2), .val (.int p3), .val (.int (3 : Int32)), .val (.ref b4)] [(.int (((p1.toUInt32 >>> ((8 : Int32) &&& 31).toUInt32).toInt32).toInt8.toInt32)), (.int ((3 : Int32) + (2 : Int32))), (.ref b4)])) rfl rfl (hb hby at_107)
  have V_b4_14 := Arv.set Ar_b4 q_b4 S_b4 N_b4 H_b4 G_b4 (fits_nar_byte _) W14 5 rfl (Nat.le_of_ble_eq_true rfl)      -- the array as it stands now (the place must lie among its first values: Arv.pad with pad_rep lengthens them)
  have K14 : Keep h0 h14 [] := K13.wr W14 (Or.inr sz_b4)
  have N14 := Fr.snoc X14 N13 g_b4
  -- (bastore into a boolean[]: stZ in stB's place)
  obtain ⟨cl_b4_115, Ar_b4, q_b4, S_b4, N_b4, H_b4, G_b4⟩ := V_b4_14      -- open the array's fact as it stands now (its cell, kind, length, elements)
  have hin115 : ¬ (((3 : Int32) + (3 : Int32)) < 0 ∨ cl_b4_115.slots.size ≤ (((3 : Int32) + (3 : Int32))).toNatClampNeg) := inb_of S_b4 ⟨by decide, by decide⟩
  obtain ⟨T15, h15, X15, e15, W15, st15⟩ := stB X14 hx hZ e14 Ar_b4 (j := ((3 : Int32) + (3 : Int32))) hin115 (g := (mkF m 115 #[.val (.int p1), .val (.int p2), .val (.int p3), .val (.int (3 : Int32)), .val (.ref b4)] [(.int (p1.toInt8.toInt32)), (.int ((3 : Int32) + (3 : Int32))), (.ref b4)])) rfl rfl (hb hby at_115)
  have V_b4_15 := Arv.set Ar_b4 q_b4 S_b4 N_b4 H_b4 G_b4 (fits_nar_byte _) W15 6 rfl (Nat.le_of_ble_eq_true rfl)      -- the array as it stands now (the place must lie among its first values: Arv.pad with pad_rep lengthens them)
  have K15 : Keep h0 h15 [] := K14.wr W15 (Or.inr sz_b4)
  have N15 := Fr.snoc X15 N14 g_b4
  -- (bastore into a boolean[]: stZ in stB's place)
  -- pc 119: com/example/telegrid/telegrid/esp3/BigEndian.intAt by its contract rm1
  obtain ⟨cl_c, Ar_c, q_c, S_c, N_c, H_c, G_c⟩ := V_b4_15
  have hn0 : ¬ ((3 : Int32) < 0 ∨ cl_c.slots.size ≤ ((3 : Int32)).toNatClampNeg) := inb_of S_c ⟨by decide, by decide⟩
  have hn1 : ¬ (((3 : Int32) + (1 : Int32)) < 0 ∨ cl_c.slots.size ≤ (((3 : Int32) + (1 : Int32))).toNatClampNeg) := inb_of S_c ⟨by decide, by decide⟩
  have hn2 : ¬ (((3 : Int32) + (2 : Int32)) < 0 ∨ cl_c.slots.size ≤ (((3 : Int32) + (2 : Int32))).toNatClampNeg) := inb_of S_c ⟨by decide, by decide⟩
  have hn3 : ¬ (((3 : Int32) + (3 : Int32)) < 0 ∨ cl_c.slots.size ≤ (((3 : Int32) + (3 : Int32))).toNatClampNeg) := inb_of S_c ⟨by decide, by decide⟩
  obtain ⟨_, _, ⟨T16, L16, k16, n16⟩, -, X16, ⟨Lc16, hQ16, l16, y16, z16⟩, st16⟩ := Jvm.LawKit.callS X15 hx (y := (⟨"com/example/telegrid/telegrid/esp3/BigEndian", "intAt", "([BI)I"⟩ : MethodName)) hown (mvT hZ (hw _ (List.mem_of_getElem? (i := 2) rfl))) (mvT hZ (hw _ (List.mem_of_getElem? (i := 3) rfl))) (mvT hZ (hw _ (List.mem_of_getElem? (i := 4) rfl))) (mvT hZ (hw _ (List.mem_of_getElem? (i := 5) rfl))) (by decide) (backOf (W := 0) (rm1 l Z a0 hw [] b4 (3 : Int32) ((((p1.toUInt32 >>> ((24 : Int32) &&& 31).toUInt32).toInt32).toInt8.toInt32).toInt8.toInt32) cl_c ((((p1.toUInt32 >>> ((16 : Int32) &&& 31).toUInt32).toInt32).toInt8.toInt32).toInt8.toInt32) ((((p1.toUInt32 >>> ((8 : Int32) &&& 31).toUInt32).toInt32).toInt8.toInt32).toInt8.toInt32) (((p1).toInt8.toInt32).toInt8.toInt32) h15 n0 (Nat.le_trans Z0 K15.1) Ar_c hn0 (H_c.at hn0 rfl) hn1 (H_c.at hn1 rfl) hn2 (H_c.at hn2 rfl) hn3 (H_c.at hn3 rfl)) hZ (hw _ (List.mem_of_getElem? (i := 5) rfl)) (hw _ (List.mem_of_getElem? (i := 4) rfl)) (by decide) (by decide)) (g := (mkF m 119 #[.val (.int p1), .val (.int p2), .val (.int p3), .val (.int (3 : Int32)), .val (.ref b4)] [(.int (3 : Int32)), (.ref b4)])) rfl (by rw [hml]; rfl) (argsL := [(.ref b4), (.int (3 : Int32))]) (rest := []) (lenOf pd_0_0 rfl) rfl (by show 2 * 0 + _ ≤ _; exact Nat.le_of_eq rfl) (hb hby at_119) (fun _ _ => ⟨rfl, e15, (by decide : 1 + 0 ≤ _), (by decide : 7 + 0 ≤ _)⟩)
  dsimp only [Pt.U, Pt.locs, Pt.cells, Pt.slots] at X16 l16 y16 z16 st16 hQ16
  subst l16 y16 z16
  obtain ⟨rfl, N16q, e16⟩ := hQ16      -- what it returned, that it wrote nothing old, and the rest of your Q1
  have N16 := Fr.app N15 N16q
  obtain ⟨fs, hr, hrun, hended, hW, hsame⟩ := X16.leave (v := some (.int (1 : Int32))) (fun h => by rw [Bd.returns] at h; cases h)
  refine ⟨_, _, pre0 _ ?_, hrun, hended, _, _, rfl, ?_, ⟨_, rfl⟩, hW, hsame.mono (by decide) (by decide)⟩
  -- 4. STEPS
  · show Steps p.tables e below (s₁.setTop (mkF m 0 #[.val (.int p1), .val (.int p2), .val (.int p3), .unset, .unset] [])) _
    refine XS.iloadN X0.here hx rfl (hb hby at_0) rfl ?_
    show Steps p.tables e below (s₁.setTop (mkF m 1 #[.val (.int p1), .val (.int p2), .val (.int p3), .unset, .unset] [(.int p2)])) _
    refine X0.ldcInt hx hown (mvT hZ (hw _ (List.mem_of_getElem? (i := 0) rfl))) (g := (mkF m 1 #[.val (.int p1), .val (.int p2), .val (.int p3), .unset, .unset] [(.int p2)])) rfl (hb hby at_1) _ ?_
    show Steps p.tables e below (s₁.setTop (mkF m 3 #[.val (.int p1), .val (.int p2), .val (.int p3), .unset, .unset] [(.int (2147483647 : Int32)), (.int p2)])) _
    refine XS.iand X0.here hx rfl (hb hby at_3) rfl ?_
    show Steps p.tables e below (s₁.setTop (mkF m 4 #[.val (.int p1), .val (.int p2), .val (.int p3), .unset, .unset] [(.int (p2 &&& (2147483647 : Int32)))])) _
    refine XS.iconst X0.here hx rfl (hb hby at_4) ?_
    show Steps p.tables e below (s₁.setTop (mkF m 5 #[.val (.int p1), .val (.int p2), .val (.int p3), .unset, .unset] [(.int (4 : Int32)), (.int (p2 &&& (2147483647 : Int32)))])) _
    refine own_iremE X0 hx rfl (hb hby at_5) rfl (by decide) hoo ?_
    show Steps p.tables e below (s₁.setTop (mkF m 6 #[.val (.int p1), .val (.int p2), .val (.int p3), .unset, .unset] [(.int (3 : Int32))])) _
    refine XS.istoreN X0.here hx rfl (hb hby at_6) rfl (l' := #[.val (.int p1), .val (.int p2), .val (.int p3), .val (.int (3 : Int32)), .unset]) rfl ?_
    show Steps p.tables e below (s₁.setTop (mkF m 7 #[.val (.int p1), .val (.int p2), .val (.int p3), .val (.int (3 : Int32)), .unset] [])) _
    refine XS.bipush X0.here hx rfl (hb hby at_7) ?_
    show Steps p.tables e below (s₁.setTop (mkF m 9 #[.val (.int p1), .val (.int p2), .val (.int p3), .val (.int (3 : Int32)), .unset] [(.int (7 : Int32))])) _
    refine st4 _ ?_
    show Steps p.tables e below (T4.setTop (mkF m 11 #[.val (.int p1), .val (.int p2), .val (.int p3), .val (.int (3 : Int32)), .unset] [(.ref b4)])) _
    refine XS.astore X4.here hx rfl (hb hby at_11) rfl rfl (l' := #[.val (.int p1), .val (.int p2), .val (.int p3), .val (.int (3 : Int32)), .val (.ref b4)]) rfl ?_
    show Steps p.tables e below (T4.setTop (mkF m 13 #[.val (.int p1), .val (.int p2), .val (.int p3), .val (.int (3 : Int32)), .val (.ref b4)] [])) _
    refine XS.aload X4.here hx rfl (hb hby at_13) rfl rfl ?_
    show Steps p.tables e below (T4.setTop (mkF m 15 #[.val (.int p1), .val (.int p2), .val (.int p3), .val (.int (3 : Int32)), .val (.ref b4)] [(.ref b4)])) _
    refine XS.iconst X4.here hx rfl (hb hby at_15) ?_
    show Steps p.tables e below (T4.setTop (mkF m 16 #[.val (.int p1), .val (.int p2), .val (.int p3), .val (.int (3 : Int32)), .val (.ref b4)] [(.int (0 : Int32)), (.ref b4)])) _
    refine XS.iloadN X4.here hx rfl (hb hby at_16) rfl ?_
    show Steps p.tables e below (T4.setTop (mkF m 17 #[.val (.int p1), .val (.int p2), .val (.int p3), .val (.int (3 : Int32)), .val (.ref b4)] [(.int p3), (.int (0 : Int32)), (.ref b4)])) _
    refine XS.i2b X4.here hx rfl (hb hby at_17) rfl ?_
    show Steps p.tables e below (T4.setTop (mkF m 18 #[.val (.int p1), .val (.int p2), .val (.int p3), .val (.int (3 : Int32)), .val (.ref b4)] [(.int (p3.toInt8.toInt32)), (.int (0 : Int32)), (.ref b4)])) _
    refine st5 _ ?_
    show Steps p.tables e below (T5.setTop (mkF m 19 #[.val (.int p1), .val (.int p2), .val (.int p3), .val (.int (3 : Int32)), .val (.ref b4)] [])) _
    refine XS.aload X5.here hx rfl (hb hby at_19) rfl rfl ?_
    show Steps p.tables e below (T5.setTop (mkF m 21 #[.val (.int p1), .val (.int p2), .val (.int p3), .val (.int (3 : Int32)), .val (.ref b4)] [(.ref b4)])) _
    refine XS.iconst X5.here hx rfl (hb hby at_21) ?_
    show Steps p.tables e below (T5.setTop (mkF m 22 #[.val (.int p1), .val (.int p2), .val (.int p3), .val (.int (3 : Int32)), .val (.ref b4)] [(.int (1 : Int32)), (.ref b4)])) _
    refine XS.iloadN X5.here hx rfl (hb hby at_22) rfl ?_
    show Steps p.tables e below (T5.setTop (mkF m 23 #[.val (.int p1), .val (.int p2), .val (.int p3), .val (.int (3 : Int32)), .val (.ref b4)] [(.int p3), (.int (1 : Int32)), (.ref b4)])) _
    refine XS.bipush X5.here hx rfl (hb hby at_23) ?_
    show Steps p.tables e below (T5.setTop (mkF m 25 #[.val (.int p1), .val (.int p2), .val (.int p3), .val (.int (3 : Int32)), .val (.ref b4)] [(.int (8 : Int32)), (.int p3), (.int (1 : Int32)), (.ref b4)])) _
    refine XS.iushr X5.here hx rfl (hb hby at_25) rfl ?_
    show Steps p.tables e below (T5.setTop (mkF m 26 #[.val (.int p1), .val (.int p2), .val (.int p3), .val (.int (3 : Int32)), .val (.ref b4)] [(.int ((p3.toUInt32 >>> ((8 : Int32) &&& 31).toUInt32).toInt32)), (.int (1 : Int32)), (.ref b4)])) _
    refine XS.i2b X5.here hx rfl (hb hby at_26) rfl ?_
    show Steps p.tables e below (T5.setTop (mkF m 27 #[.val (.int p1), .val (.int p2), .val (.int p3), .val (.int (3 : Int32)), .val (.ref b4)] [(.int (((p3.toUInt32 >>> ((8 : Int32) &&& 31).toUInt32).toInt32).toInt8.toInt32)), (.int (1 : Int32)), (.ref b4)])) _
    refine st6 _ ?_
    show Steps p.tables e below (T6.setTop (mkF m 28 #[.val (.int p1), .val (.int p2), .val (.int p3), .val (.int (3 : Int32)), .val (.ref b4)] [])) _
    refine XS.aload X6.here hx rfl (hb hby at_28) rfl rfl ?_
    show Steps p.tables e below (T6.setTop (mkF m 30 #[.val (.int p1), .val (.int p2), .val (.int p3), .val (.int (3 : Int32)), .val (.ref b4)] [(.ref b4)])) _
    refine XS.iconst X6.here hx rfl (hb hby at_30) ?_
    show Steps p.tables e below (T6.setTop (mkF m 31 #[.val (.int p1), .val (.int p2), .val (.int p3), .val (.int (3 : Int32)), .val (.ref b4)] [(.int (2 : Int32)), (.ref b4)])) _
    refine XS.iloadN X6.here hx rfl (hb hby at_31) rfl ?_
    show Steps p.tables e below (T6.setTop (mkF m 32 #[.val (.int p1), .val (.int p2), .val (.int p3), .val (.int (3 : Int32)), .val (.ref b4)] [(.int p3), (.int (2 : Int32)), (.ref b4)])) _
    refine XS.bipush X6.here hx rfl (hb hby at_32) ?_
    show Steps p.tables e below (T6.setTop (mkF m 34 #[.val (.int p1), .val (.int p2), .val (.int p3), .val (.int (3 : Int32)), .val (.ref b4)] [(.int (16 : Int32)), (.int p3), (.int (2 : Int32)), (.ref b4)])) _
    refine XS.iushr X6.here hx rfl (hb hby at_34) rfl ?_
    show Steps p.tables e below (T6.setTop (mkF m 35 #[.val (.int p1), .val (.int p2), .val (.int p3), .val (.int (3 : Int32)), .val (.ref b4)] [(.int ((p3.toUInt32 >>> ((16 : Int32) &&& 31).toUInt32).toInt32)), (.int (2 : Int32)), (.ref b4)])) _
    refine XS.i2b X6.here hx rfl (hb hby at_35) rfl ?_
    show Steps p.tables e below (T6.setTop (mkF m 36 #[.val (.int p1), .val (.int p2), .val (.int p3), .val (.int (3 : Int32)), .val (.ref b4)] [(.int (((p3.toUInt32 >>> ((16 : Int32) &&& 31).toUInt32).toInt32).toInt8.toInt32)), (.int (2 : Int32)), (.ref b4)])) _
    refine st7 _ ?_
    show Steps p.tables e below (T7.setTop (mkF m 37 #[.val (.int p1), .val (.int p2), .val (.int p3), .val (.int (3 : Int32)), .val (.ref b4)] [])) _
    refine XS.aload X7.here hx rfl (hb hby at_37) rfl rfl ?_
    show Steps p.tables e below (T7.setTop (mkF m 39 #[.val (.int p1), .val (.int p2), .val (.int p3), .val (.int (3 : Int32)), .val (.ref b4)] [(.ref b4)])) _
    refine XS.iconst X7.here hx rfl (hb hby at_39) ?_
    show Steps p.tables e below (T7.setTop (mkF m 40 #[.val (.int p1), .val (.int p2), .val (.int p3), .val (.int (3 : Int32)), .val (.ref b4)] [(.int (3 : Int32)), (.ref b4)])) _
    refine XS.iloadN X7.here hx rfl (hb hby at_40) rfl ?_
    show Steps p.tables e below (T7.setTop (mkF m 41 #[.val (.int p1), .val (.int p2), .val (.int p3), .val (.int (3 : Int32)), .val (.ref b4)] [(.int p3), (.int (3 : Int32)), (.ref b4)])) _
    refine XS.bipush X7.here hx rfl (hb hby at_41) ?_
    show Steps p.tables e below (T7.setTop (mkF m 43 #[.val (.int p1), .val (.int p2), .val (.int p3), .val (.int (3 : Int32)), .val (.ref b4)] [(.int (24 : Int32)), (.int p3), (.int (3 : Int32)), (.ref b4)])) _
    refine XS.iushr X7.here hx rfl (hb hby at_43) rfl ?_
    show Steps p.tables e below (T7.setTop (mkF m 44 #[.val (.int p1), .val (.int p2), .val (.int p3), .val (.int (3 : Int32)), .val (.ref b4)] [(.int ((p3.toUInt32 >>> ((24 : Int32) &&& 31).toUInt32).toInt32)), (.int (3 : Int32)), (.ref b4)])) _
    refine XS.i2b X7.here hx rfl (hb hby at_44) rfl ?_
    show Steps p.tables e below (T7.setTop (mkF m 45 #[.val (.int p1), .val (.int p2), .val (.int p3), .val (.int (3 : Int32)), .val (.ref b4)] [(.int (((p3.toUInt32 >>> ((24 : Int32) &&& 31).toUInt32).toInt32).toInt8.toInt32)), (.int (3 : Int32)), (.ref b4)])) _
    refine st8 _ ?_
    show Steps p.tables e below (T8.setTop (mkF m 46 #[.val (.int p1), .val (.int p2), .val (.int p3), .val (.int (3 : Int32)), .val (.ref b4)] [])) _
    refine XS.aload X8.here hx rfl (hb hby at_46) rfl rfl ?_
    show Steps p.tables e below (T8.setTop (mkF m 48 #[.val (.int p1), .val (.int p2), .val (.int p3), .val (.int (3 : Int32)), .val (.ref b4)] [(.ref b4)])) _
    refine XS.iconst X8.here hx rfl (hb hby at_48) ?_
    show Steps p.tables e below (T8.setTop (mkF m 49 #[.val (.int p1), .val (.int p2), .val (.int p3), .val (.int (3 : Int32)), .val (.ref b4)] [(.int (4 : Int32)), (.ref b4)])) _
    refine XS.iloadN X8.here hx rfl (hb hby at_49) rfl ?_
    show Steps p.tables e below (T8.setTop (mkF m 50 #[.val (.int p1), .val (.int p2), .val (.int p3), .val (.int (3 : Int32)), .val (.ref b4)] [(.int p3), (.int (4 : Int32)), (.ref b4)])) _
    refine XS.iconst X8.here hx rfl (hb hby at_50) ?_
    show Steps p.tables e below (T8.setTop (mkF m 51 #[.val (.int p1), .val (.int p2), .val (.int p3), .val (.int (3 : Int32)), .val (.ref b4)] [(.int (-1 : Int32)), (.int p3), (.int (4 : Int32)), (.ref b4)])) _
    refine XS.ixor X8.here hx rfl (hb hby at_51) rfl ?_
    show Steps p.tables e below (T8.setTop (mkF m 52 #[.val (.int p1), .val (.int p2), .val (.int p3), .val (.int (3 : Int32)), .val (.ref b4)] [(.int (p3 ^^^ (-1 : Int32))), (.int (4 : Int32)), (.ref b4)])) _
    refine XS.i2b X8.here hx rfl (hb hby at_52) rfl ?_
    show Steps p.tables e below (T8.setTop (mkF m 53 #[.val (.int p1), .val (.int p2), .val (.int p3), .val (.int (3 : Int32)), .val (.ref b4)] [(.int ((p3 ^^^ (-1 : Int32)).toInt8.toInt32)), (.int (4 : Int32)), (.ref b4)])) _
    refine st9 _ ?_
    show Steps p.tables e below (T9.setTop (mkF m 54 #[.val (.int p1), .val (.int p2), .val (.int p3), .val (.int (3 : Int32)), .val (.ref b4)] [])) _
    refine XS.aload X9.here hx rfl (hb hby at_54) rfl rfl ?_
    show Steps p.tables e below (T9.setTop (mkF m 56 #[.val (.int p1), .val (.int p2), .val (.int p3), .val (.int (3 : Int32)), .val (.ref b4)] [(.ref b4)])) _
    refine XS.iconst X9.here hx rfl (hb hby at_56) ?_
    show Steps p.tables e below (T9.setTop (mkF m 57 #[.val (.int p1), .val (.int p2), .val (.int p3), .val (.int (3 : Int32)), .val (.ref b4)] [(.int (5 : Int32)), (.ref b4)])) _
    refine XS.iloadN X9.here hx rfl (hb hby at_57) rfl ?_
    show Steps p.tables e below (T9.setTop (mkF m 58 #[.val (.int p1), .val (.int p2), .val (.int p3), .val (.int (3 : Int32)), .val (.ref b4)] [(.int p3), (.int (5 : Int32)), (.ref b4)])) _
    refine XS.iconst X9.here hx rfl (hb hby at_58) ?_
    show Steps p.tables e below (T9.setTop (mkF m 59 #[.val (.int p1), .val (.int p2), .val (.int p3), .val (.int (3 : Int32)), .val (.ref b4)] [(.int (-1 : Int32)), (.int p3), (.int (5 : Int32)), (.ref b4)])) _
    refine XS.ixor X9.here hx rfl (hb hby at_59) rfl ?_
    show Steps p.tables e below (T9.setTop (mkF m 60 #[.val (.int p1), .val (.int p2), .val (.int p3), .val (.int (3 : Int32)), .val (.ref b4)] [(.int (p3 ^^^ (-1 : Int32))), (.int (5 : Int32)), (.ref b4)])) _
    refine XS.bipush X9.here hx rfl (hb hby at_60) ?_
    show Steps p.tables e below (T9.setTop (mkF m 62 #[.val (.int p1), .val (.int p2), .val (.int p3), .val (.int (3 : Int32)), .val (.ref b4)] [(.int (8 : Int32)), (.int (p3 ^^^ (-1 : Int32))), (.int (5 : Int32)), (.ref b4)])) _
    refine XS.iushr X9.here hx rfl (hb hby at_62) rfl ?_
    show Steps p.tables e below (T9.setTop (mkF m 63 #[.val (.int p1), .val (.int p2), .val (.int p3), .val (.int (3 : Int32)), .val (.ref b4)] [(.int (((p3 ^^^ (-1 : Int32)).toUInt32 >>> ((8 : Int32) &&& 31).toUInt32).toInt32)), (.int (5 : Int32)), (.ref b4)])) _
    refine XS.i2b X9.here hx rfl (hb hby at_63) rfl ?_
    show Steps p.tables e below (T9.setTop (mkF m 64 #[.val (.int p1), .val (.int p2), .val (.int p3), .val (.int (3 : Int32)), .val (.ref b4)] [(.int ((((p3 ^^^ (-1 : Int32)).toUInt32 >>> ((8 : Int32) &&& 31).toUInt32).toInt32).toInt8.toInt32)), (.int (5 : Int32)), (.ref b4)])) _
    refine st10 _ ?_
    show Steps p.tables e below (T10.setTop (mkF m 65 #[.val (.int p1), .val (.int p2), .val (.int p3), .val (.int (3 : Int32)), .val (.ref b4)] [])) _
    refine XS.aload X10.here hx rfl (hb hby at_65) rfl rfl ?_
    show Steps p.tables e below (T10.setTop (mkF m 67 #[.val (.int p1), .val (.int p2), .val (.int p3), .val (.int (3 : Int32)), .val (.ref b4)] [(.ref b4)])) _
    refine XS.bipush X10.here hx rfl (hb hby at_67) ?_
    show Steps p.tables e below (T10.setTop (mkF m 69 #[.val (.int p1), .val (.int p2), .val (.int p3), .val (.int (3 : Int32)), .val (.ref b4)] [(.int (6 : Int32)), (.ref b4)])) _
    refine XS.iloadN X10.here hx rfl (hb hby at_69) rfl ?_
    show Steps p.tables e below (T10.setTop (mkF m 70 #[.val (.int p1), .val (.int p2), .val (.int p3), .val (.int (3 : Int32)), .val (.ref b4)] [(.int p3), (.int (6 : Int32)), (.ref b4)])) _
    refine XS.iconst X10.here hx rfl (hb hby at_70) ?_
    show Steps p.tables e below (T10.setTop (mkF m 71 #[.val (.int p1), .val (.int p2), .val (.int p3), .val (.int (3 : Int32)), .val (.ref b4)] [(.int (-1 : Int32)), (.int p3), (.int (6 : Int32)), (.ref b4)])) _
    refine XS.ixor X10.here hx rfl (hb hby at_71) rfl ?_
    show Steps p.tables e below (T10.setTop (mkF m 72 #[.val (.int p1), .val (.int p2), .val (.int p3), .val (.int (3 : Int32)), .val (.ref b4)] [(.int (p3 ^^^ (-1 : Int32))), (.int (6 : Int32)), (.ref b4)])) _
    refine XS.bipush X10.here hx rfl (hb hby at_72) ?_
    show Steps p.tables e below (T10.setTop (mkF m 74 #[.val (.int p1), .val (.int p2), .val (.int p3), .val (.int (3 : Int32)), .val (.ref b4)] [(.int (16 : Int32)), (.int (p3 ^^^ (-1 : Int32))), (.int (6 : Int32)), (.ref b4)])) _
    refine XS.iushr X10.here hx rfl (hb hby at_74) rfl ?_
    show Steps p.tables e below (T10.setTop (mkF m 75 #[.val (.int p1), .val (.int p2), .val (.int p3), .val (.int (3 : Int32)), .val (.ref b4)] [(.int (((p3 ^^^ (-1 : Int32)).toUInt32 >>> ((16 : Int32) &&& 31).toUInt32).toInt32)), (.int (6 : Int32)), (.ref b4)])) _
    refine XS.i2b X10.here hx rfl (hb hby at_75) rfl ?_
    show Steps p.tables e below (T10.setTop (mkF m 76 #[.val (.int p1), .val (.int p2), .val (.int p3), .val (.int (3 : Int32)), .val (.ref b4)] [(.int ((((p3 ^^^ (-1 : Int32)).toUInt32 >>> ((16 : Int32) &&& 31).toUInt32).toInt32).toInt8.toInt32)), (.int (6 : Int32)), (.ref b4)])) _
    refine st11 _ ?_
    show Steps p.tables e below (T11.setTop (mkF m 77 #[.val (.int p1), .val (.int p2), .val (.int p3), .val (.int (3 : Int32)), .val (.ref b4)] [])) _
    refine XS.aload X11.here hx rfl (hb hby at_77) rfl rfl ?_
    show Steps p.tables e below (T11.setTop (mkF m 79 #[.val (.int p1), .val (.int p2), .val (.int p3), .val (.int (3 : Int32)), .val (.ref b4)] [(.ref b4)])) _
    refine XS.iloadN X11.here hx rfl (hb hby at_79) rfl ?_
    show Steps p.tables e below (T11.setTop (mkF m 80 #[.val (.int p1), .val (.int p2), .val (.int p3), .val (.int (3 : Int32)), .val (.ref b4)] [(.int (3 : Int32)), (.ref b4)])) _
    refine XS.iloadN X11.here hx rfl (hb hby at_80) rfl ?_
    show Steps p.tables e below (T11.setTop (mkF m 81 #[.val (.int p1), .val (.int p2), .val (.int p3), .val (.int (3 : Int32)), .val (.ref b4)] [(.int p1), (.int (3 : Int32)), (.ref b4)])) _
    refine XS.bipush X11.here hx rfl (hb hby at_81) ?_
    show Steps p.tables e below (T11.setTop (mkF m 83 #[.val (.int p1), .val (.int p2), .val (.int p3), .val (.int (3 : Int32)), .val (.ref b4)] [(.int (24 : Int32)), (.int p1), (.int (3 : Int32)), (.ref b4)])) _
    refine XS.iushr X11.here hx rfl (hb hby at_83) rfl ?_
    show Steps p.tables e below (T11.setTop (mkF m 84 #[.val (.int p1), .val (.int p2), .val (.int p3), .val (.int (3 : Int32)), .val (.ref b4)] [(.int ((p1.toUInt32 >>> ((24 : Int32) &&& 31).toUInt32).toInt32)), (.int (3 : Int32)), (.ref b4)])) _
    refine XS.i2b X11.here hx rfl (hb hby at_84) rfl ?_
    show Steps p.tables e below (T11.setTop (mkF m 85 #[.val (.int p1), .val (.int p2), .val (.int p3), .val (.int (3 : Int32)), .val (.ref b4)] [(.int (((p1.toUInt32 >>> ((24 : Int32) &&& 31).toUInt32).toInt32).toInt8.toInt32)), (.int (3 : Int32)), (.ref b4)])) _
    refine st12 _ ?_
    show Steps p.tables e below (T12.setTop (mkF m 86 #[.val (.int p1), .val (.int p2), .val (.int p3), .val (.int (3 : Int32)), .val (.ref b4)] [])) _
    refine XS.aload X12.here hx rfl (hb hby at_86) rfl rfl ?_
    show Steps p.tables e below (T12.setTop (mkF m 88 #[.val (.int p1), .val (.int p2), .val (.int p3), .val (.int (3 : Int32)), .val (.ref b4)] [(.ref b4)])) _
    refine XS.iloadN X12.here hx rfl (hb hby at_88) rfl ?_
    show Steps p.tables e below (T12.setTop (mkF m 89 #[.val (.int p1), .val (.int p2), .val (.int p3), .val (.int (3 : Int32)), .val (.ref b4)] [(.int (3 : Int32)), (.ref b4)])) _
    refine XS.iconst X12.here hx rfl (hb hby at_89) ?_
    show Steps p.tables e below (T12.setTop (mkF m 90 #[.val (.int p1), .val (.int p2), .val (.int p3), .val (.int (3 : Int32)), .val (.ref b4)] [(.int (1 : Int32)), (.int (3 : Int32)), (.ref b4)])) _
    refine XS.iadd X12.here hx rfl (hb hby at_90) rfl ?_
    show Steps p.tables e below (T12.setTop (mkF m 91 #[.val (.int p1), .val (.int p2), .val (.int p3), .val (.int (3 : Int32)), .val (.ref b4)] [(.int ((3 : Int32) + (1 : Int32))), (.ref b4)])) _
    refine XS.iloadN X12.here hx rfl (hb hby at_91) rfl ?_
    show Steps p.tables e below (T12.setTop (mkF m 92 #[.val (.int p1), .val (.int p2), .val (.int p3), .val (.int (3 : Int32)), .val (.ref b4)] [(.int p1), (.int ((3 : Int32) + (1 : Int32))), (.ref b4)])) _
    refine XS.bipush X12.here hx rfl (hb hby at_92) ?_
    show Steps p.tables e below (T12.setTop (mkF m 94 #[.val (.int p1), .val (.int p2), .val (.int p3), .val (.int (3 : Int32)), .val (.ref b4)] [(.int (16 : Int32)), (.int p1), (.int ((3 : Int32) + (1 : Int32))), (.ref b4)])) _
    refine XS.iushr X12.here hx rfl (hb hby at_94) rfl ?_
    show Steps p.tables e below (T12.setTop (mkF m 95 #[.val (.int p1), .val (.int p2), .val (.int p3), .val (.int (3 : Int32)), .val (.ref b4)] [(.int ((p1.toUInt32 >>> ((16 : Int32) &&& 31).toUInt32).toInt32)), (.int ((3 : Int32) + (1 : Int32))), (.ref b4)])) _
    refine XS.i2b X12.here hx rfl (hb hby at_95) rfl ?_
    show Steps p.tables e below (T12.setTop (mkF m 96 #[.val (.int p1), .val (.int p2), .val (.int p3), .val (.int (3 : Int32)), .val (.ref b4)] [(.int (((p1.toUInt32 >>> ((16 : Int32) &&& 31).toUInt32).toInt32).toInt8.toInt32)), (.int ((3 : Int32) + (1 : Int32))), (.ref b4)])) _
    refine st13 _ ?_
    show Steps p.tables e below (T13.setTop (mkF m 97 #[.val (.int p1), .val (.int p2), .val (.int p3), .val (.int (3 : Int32)), .val (.ref b4)] [])) _
    refine XS.aload X13.here hx rfl (hb hby at_97) rfl rfl ?_
    show Steps p.tables e below (T13.setTop (mkF m 99 #[.val (.int p1), .val (.int p2), .val (.int p3), .val (.int (3 : Int32)), .val (.ref b4)] [(.ref b4)])) _
    refine XS.iloadN X13.here hx rfl (hb hby at_99) rfl ?_
    show Steps p.tables e below (T13.setTop (mkF m 100 #[.val (.int p1), .val (.int p2), .val (.int p3), .val (.int (3 : Int32)), .val (.ref b4)] [(.int (3 : Int32)), (.ref b4)])) _
    refine XS.iconst X13.here hx rfl (hb hby at_100) ?_
    show Steps p.tables e below (T13.setTop (mkF m 101 #[.val (.int p1), .val (.int p2), .val (.int p3), .val (.int (3 : Int32)), .val (.ref b4)] [(.int (2 : Int32)), (.int (3 : Int32)), (.ref b4)])) _
    refine XS.iadd X13.here hx rfl (hb hby at_101) rfl ?_
    show Steps p.tables e below (T13.setTop (mkF m 102 #[.val (.int p1), .val (.int p2), .val (.int p3), .val (.int (3 : Int32)), .val (.ref b4)] [(.int ((3 : Int32) + (2 : Int32))), (.ref b4)])) _
    refine XS.iloadN X13.here hx rfl (hb hby at_102) rfl ?_
    show Steps p.tables e below (T13.setTop (mkF m 103 #[.val (.int p1), .val (.int p2), .val (.int p3), .val (.int (3 : Int32)), .val (.ref b4)] [(.int p1), (.int ((3 : Int32) + (2 : Int32))), (.ref b4)])) _
    refine XS.bipush X13.here hx rfl (hb hby at_103) ?_
    show Steps p.tables e below (T13.setTop (mkF m 105 #[.val (.int p1), .val (.int p2), .val (.int p3), .val (.int (3 : Int32)), .val (.ref b4)] [(.int (8 : Int32)), (.int p1), (.int ((3 : Int32) + (2 : Int32))), (.ref b4)])) _
    refine XS.iushr X13.here hx rfl (hb hby at_105) rfl ?_
    show Steps p.tables e below (T13.setTop (mkF m 106 #[.val (.int p1), .val (.int p2), .val (.int p3), .val (.int (3 : Int32)), .val (.ref b4)] [(.int ((p1.toUInt32 >>> ((8 : Int32) &&& 31).toUInt32).toInt32)), (.int ((3 : Int32) + (2 : Int32))), (.ref b4)])) _
    refine XS.i2b X13.here hx rfl (hb hby at_106) rfl ?_
    show Steps p.tables e below (T13.setTop (mkF m 107 #[.val (.int p1), .val (.int p2), .val (.int p3), .val (.int (3 : Int32)), .val (.ref b4)] [(.int (((p1.toUInt32 >>> ((8 : Int32) &&& 31).toUInt32).toInt32).toInt8.toInt32)), (.int ((3 : Int32) + (2 : Int32))), (.ref b4)])) _
    refine st14 _ ?_
    show Steps p.tables e below (T14.setTop (mkF m 108 #[.val (.int p1), .val (.int p2), .val (.int p3), .val (.int (3 : Int32)), .val (.ref b4)] [])) _
    refine XS.aload X14.here hx rfl (hb hby at_108) rfl rfl ?_
    show Steps p.tables e below (T14.setTop (mkF m 110 #[.val (.int p1), .val (.int p2), .val (.int p3), .val (.int (3 : Int32)), .val (.ref b4)] [(.ref b4)])) _
    refine XS.iloadN X14.here hx rfl (hb hby at_110) rfl ?_
    show Steps p.tables e below (T14.setTop (mkF m 111 #[.val (.int p1), .val (.int p2), .val (.int p3), .val (.int (3 : Int32)), .val (.ref b4)] [(.int (3 : Int32)), (.ref b4)])) _
    refine XS.iconst X14.here hx rfl (hb hby at_111) ?_
    show Steps p.tables e below (T14.setTop (mkF m 112 #[.val (.int p1), .val (.int p2), .val (.int p3), .val (.int (3 : Int32)), .val (.ref b4)] [(.int (3 : Int32)), (.int (3 : Int32)), (.ref b4)])) _
    refine XS.iadd X14.here hx rfl (hb hby at_112) rfl ?_
    show Steps p.tables e below (T14.setTop (mkF m 113 #[.val (.int p1), .val (.int p2), .val (.int p3), .val (.int (3 : Int32)), .val (.ref b4)] [(.int ((3 : Int32) + (3 : Int32))), (.ref b4)])) _
    refine XS.iloadN X14.here hx rfl (hb hby at_113) rfl ?_
    show Steps p.tables e below (T14.setTop (mkF m 114 #[.val (.int p1), .val (.int p2), .val (.int p3), .val (.int (3 : Int32)), .val (.ref b4)] [(.int p1), (.int ((3 : Int32) + (3 : Int32))), (.ref b4)])) _
    refine XS.i2b X14.here hx rfl (hb hby at_114) rfl ?_
    show Steps p.tables e below (T14.setTop (mkF m 115 #[.val (.int p1), .val (.int p2), .val (.int p3), .val (.int (3 : Int32)), .val (.ref b4)] [(.int (p1.toInt8.toInt32)), (.int ((3 : Int32) + (3 : Int32))), (.ref b4)])) _
    refine st15 _ ?_
    show Steps p.tables e below (T15.setTop (mkF m 116 #[.val (.int p1), .val (.int p2), .val (.int p3), .val (.int (3 : Int32)), .val (.ref b4)] [])) _
    refine XS.aload X15.here hx rfl (hb hby at_116) rfl rfl ?_
    show Steps p.tables e below (T15.setTop (mkF m 118 #[.val (.int p1), .val (.int p2), .val (.int p3), .val (.int (3 : Int32)), .val (.ref b4)] [(.ref b4)])) _
    refine XS.iloadN X15.here hx rfl (hb hby at_118) rfl ?_
    show Steps p.tables e below (T15.setTop (mkF m 119 #[.val (.int p1), .val (.int p2), .val (.int p3), .val (.int (3 : Int32)), .val (.ref b4)] [(.int (3 : Int32)), (.ref b4)])) _
    refine st16 _ ?_
    show Steps p.tables e below (T16.setTop (mkF m 122 #[.val (.int p1), .val (.int p2), .val (.int p3), .val (.int (3 : Int32)), .val (.ref b4)] [(.int (((((((((p1.toUInt32 >>> ((24 : Int32) &&& 31).toUInt32).toInt32).toInt8.toInt32).toInt8.toInt32) &&& (255 : Int32)) <<< ((24 : Int32) &&& 31)) ||| ((((((p1.toUInt32 >>> ((16 : Int32) &&& 31).toUInt32).toInt32).toInt8.toInt32).toInt8.toInt32) &&& (255 : Int32)) <<< ((16 : Int32) &&& 31))) ||| ((((((p1.toUInt32 >>> ((8 : Int32) &&& 31).toUInt32).toInt32).toInt8.toInt32).toInt8.toInt32) &&& (255 : Int32)) <<< ((8 : Int32) &&& 31))) ||| ((((p1).toInt8.toInt32).toInt8.toInt32) &&& (255 : Int32))))])) _
    refine XS.iloadN X16.here hx rfl (hb hby at_122) rfl ?_
    show Steps p.tables e below (T16.setTop (mkF m 123 #[.val (.int p1), .val (.int p2), .val (.int p3), .val (.int (3 : Int32)), .val (.ref b4)] [(.int p1), (.int (((((((((p1.toUInt32 >>> ((24 : Int32) &&& 31).toUInt32).toInt32).toInt8.toInt32).toInt8.toInt32) &&& (255 : Int32)) <<< ((24 : Int32) &&& 31)) ||| ((((((p1.toUInt32 >>> ((16 : Int32) &&& 31).toUInt32).toInt32).toInt8.toInt32).toInt8.toInt32) &&& (255 : Int32)) <<< ((16 : Int32) &&& 31))) ||| ((((((p1.toUInt32 >>> ((8 : Int32) &&& 31).toUInt32).toInt32).toInt8.toInt32).toInt8.toInt32) &&& (255 : Int32)) <<< ((8 : Int32) &&& 31))) ||| ((((p1).toInt8.toInt32).toInt8.toInt32) &&& (255 : Int32))))])) _
    refine XS.icmpNo X16.here hx rfl (hb hby at_123) rfl (teq (own_be p1 : (((((((((p1.toUInt32 >>> ((24 : Int32) &&& 31).toUInt32).toInt32).toInt8.toInt32).toInt8.toInt32) &&& (255 : Int32)) <<< ((24 : Int32) &&& 31)) ||| ((((((p1.toUInt32 >>> ((16 : Int32) &&& 31).toUInt32).toInt32).toInt8.toInt32).toInt8.toInt32) &&& (255 : Int32)) <<< ((16 : Int32) &&& 31))) ||| ((((((p1.toUInt32 >>> ((8 : Int32) &&& 31).toUInt32).toInt32).toInt8.toInt32).toInt8.toInt32) &&& (255 : Int32)) <<< ((8 : Int32) &&& 31))) ||| ((((p1).toInt8.toInt32).toInt8.toInt32) &&& (255 : Int32))) = p1)).2 ?_
    show Steps p.tables e below (T16.setTop (mkF m 126 #[.val (.int p1), .val (.int p2), .val (.int p3), .val (.int (3 : Int32)), .val (.ref b4)] [])) _
    refine XS.iconst X16.here hx rfl (hb hby at_126) ?_
    show Steps p.tables e below (T16.setTop (mkF m 127 #[.val (.int p1), .val (.int p2), .val (.int p3), .val (.int (3 : Int32)), .val (.ref b4)] [(.int (1 : Int32))])) _
    refine XS.goto X16.here hx rfl (pc0 := 127) (pc' := 131) rfl (hb hby at_127) (by decide) (by decide) ?_
    show Steps p.tables e below (T16.setTop (mkF m 131 #[.val (.int p1), .val (.int p2), .val (.int p3), .val (.int (3 : Int32)), .val (.ref b4)] [(.int (1 : Int32))])) _
    exact retN X16 hx (t := .boolean) Bd.returns (by simp) (hb hby at_131) hr
  · show Ql (some (.int (1 : Int32))) n0 _ _
    exact ⟨rfl, N16⟩
theorem rm0 (l : Launch) (Z : State) (a0 : Array Value) (hw : ∀ d ∈ tables_1, d.before a0 Z = true) (ws : List Jvm.Cond) (p1 p2 p3 : Int32) (h0 : Heap) (n0 : Nat) (Z0 : n0 ≤ h0.size) :
    MetFree l x (head1 (Jvm.Cond.code x code maxLocals ret :: ws) room_1) (fun a U => a = #[(.int p1), (.int p2), (.int p3)] ∧ Z.Warmed39 U.vm ∧ U.heap = h0) (fun _ _ _ _ _ => True) (fun _ U o U' => ∃ v L, o = .returned v ∧ Ql (some (.int (1 : Int32))) n0 v L ∧ FrameEnd U o U' L room_1.cells room_1.slots) := by
  rcases own_rem4 p2 with h | h | h | h
  · exact rm0_o0 l Z a0 hw ws p1 p2 p3 h0 n0 Z0 h
  · exact rm0_o1 l Z a0 hw ws p1 p2 p3 h0 n0 Z0 h
  · exact rm0_o2 l Z a0 hw ws p1 p2 p3 h0 n0 Z0 h
  · exact rm0_o3 l Z a0 hw ws p1 p2 p3 h0 n0 Z0 h
set_option maxRecDepth 65536 in
set_option maxHeartbeats 40000000 in
theorem comes_1 {Post : Tables → Env → Array Value → State → Outcome → State → Prop} (hpost : ∀ tb e args s v u, (limb_1_1.after args s (.returned v) u = true ∧ limb_1_2.after args s (.returned v) u = true ∧ True) → FrameEnd s (.returned v) u (Jvm.fieldLocs frame_1_writes args s ++ Jvm.arrayLocs frame_1_arrays args s ++ Jvm.staticLocs frame_1_statics s) 16 128 → Post tb e args s (.returned v) u) :
    ArmFor flags0 classFile x code maxLocals ret World_1 tables_1 room_1 Calls_1 rest_1 Pre_1 Post := by
  intro l hfl _ _ p e ha hc hk s m args below hf hA hF happ hP
  obtain ⟨hcalls, hrest, hpre⟩ := hP
  obtain ⟨-, -, -, hnamed, -, -, -, hat⟩ := (Spec.applies_iff hf).mp happ
  obtain ⟨hg, hn⟩ := and_e (Cond.before_iff.mp (show (Jvm.Cond.and given_1 narrow_1).before args s = true from hpre))
  obtain ⟨g17, g18⟩ := and_e hg
  obtain ⟨g19, g20⟩ := and_e g18
  obtain ⟨g21, g22⟩ := and_e g20
  obtain ⟨w0, w1, w2, rfl⟩ : ∃ w0 w1 w2 : Value, args = #[w0, w1, w2] := by
    have hs : args.size = 3 := by simpa [Cond.value, given_1] using g17
    obtain ⟨L⟩ := args
    match L, hs with
    | [w0, w1, w2], _ => exact ⟨w0, w1, w2, rfl⟩
  have hw := fun d (hd : d ∈ tables_1) => atoms_spec (ws := Jvm.Cond.code x code maxLocals ret :: tables_1) hat d (List.mem_cons_of_mem _ hd)
  have hfit : Fit s := fun {y c} hc i hi => by
    obtain ⟨ha, rfl⟩ := Array.getElem?_eq_some_iff.mp hc
    have q := List.all_eq_true.mp ((Array.all_eq_true_iff_forall_mem.mp hF) _ (Array.getElem_mem ha)) i (List.mem_range.mpr hi)
    simpa [Array.getElem?_eq_getElem hi] using q
  obtain ⟨i0, ei0⟩ := is_v g19
  obtain rfl : w0 = (.int i0) := Option.some.inj ei0
  obtain ⟨i1, ei1⟩ := is_v g21
  obtain rfl : w1 = (.int i1) := Option.some.inj ei1
  obtain ⟨i2, ei2⟩ := is_v g22
  obtain rfl : w2 = (.int i2) := Option.some.inj ei2

  obtain ⟨n, o, h1, h2, h3, _, L, rfl, ⟨rfl, N⟩, hq⟩ := rm0 l s _ hw tables_1 i0 i1 i2 s.heap s.heap.size (Nat.le_refl _) p e ha hc hk s m _ below hf ((Spec.applies_iff_loose hf).mp happ).1 ⟨rfl, State.Warmed39.refl s, rfl⟩ trivial
  refine ⟨n, _, h1, h2, h3, hpost _ _ _ _ _ _ ⟨Cond.after_iff.mpr rfl, Cond.after_iff.mpr (eq_i res_at (Term.int_eval (1)) rfl), trivial⟩ ⟨hq.1, hq.2.1, (hq.2.2.sift fun y hy => Or.inr (N y hy)).mono (by decide) (by decide)⟩⟩
theorem main_1_1 : Claimed_1_1 := comes_1 fun _ _ _ _ _ _ h hF => ⟨h.1, hF⟩
theorem main_1_2 : Claimed_1_2 := comes_1 fun _ _ _ _ _ _ h hF => ⟨h.2.1, hF⟩
end Jvm.Pilot.@@N@@
namespace Jvm.Pilot.@@N@@
open Jvm Jvm.ClassFile Sem Op Lib Jvm.Free Jvm.Stand Jvm.Pilot.@@N@@.Jvm.D
/-! MADE BY PROGRAM (witnessworld.py) out of the Statement's table words and the real class files: 9 classes; the members and pool entries that the words name. The judged class is class 1, her method 1. -/
namespace start1
open Jvm.ClassFile
def u (s : String) : CpInfo := .utf8 (stringToUtf16 s)
/-- a pool by its gaps: so many unusable entries, then the entry; so many at the end -/
def gap : Nat → List CpInfo → List CpInfo
  | 0, r => r
  | n + 1, r => .unusable :: gap n r
def poolList (es : List (Nat × CpInfo)) (last : Nat) : List CpInfo := es.foldr (fun e r => gap e.1 (e.2 :: r)) (gap last [])
def pool (es : List (Nat × CpInfo)) (last : Nat) : Array CpInfo := ⟨poolList es last⟩
def fileOf (pool : Array CpInfo) (this : Nat) (attrs : Array Attribute := #[]) (ms : Array MethodInfo := #[]) (fl : Nat := 33) (sup : Nat := 0) (ifs : Array Nat := #[]) (fds : Array FieldInfo := #[]) : ClassFile where
  minorVersion := 0
  majorVersion := 65
  constantPool := pool
  accessFlags := fl
  thisClass := this
  superClass := sup
  interfaces := ifs
  fields := fds
  methods := ms
  attributes := attrs
def plain (name : String) (sup : Option ClassId) : Class where
  name := name
  kind := .ordinary
  loader := none
  accessFlags := 33
  super := sup
  interfaces := #[]
  cf := none
  fields := #[]
  methods := #[]
  instanceTypes := #[]
  staticTypes := #[]
  resolved := #[]
  callSites := []
  init := .initialized
  statics := none
  mirror := none

def pool0 : Array CpInfo := pool [(5, u "<init>"), (0, u "()V"), (1, .class_ 10), (1, u "java/lang/Object")] 113

def k0m0 : Method := { name := "<init>", desc := "()V", sig := { parameters := [], returnType := none }, accessFlags := 1, code := none }
/-- java/lang/Object -/
def k0 : Class := { plain "java/lang/Object" none with
  accessFlags := 33
  interfaces := #[]
  cf := some (fileOf pool0 8 #[] #[{ accessFlags := 1, nameIndex := 5, descriptorIndex := 6, attributes := #[] }] 33 0 #[] #[])
  fields := #[]
  methods := #[k0m0]
  instanceTypes := #[]
  staticTypes := #[]
  resolved := Array.replicate 124 none
  statics := none }

def pool1 : Array CpInfo := pool [(2, .class_ 4), (1, u "java/lang/Object"), (0, u "<init>"), (0, u "()V"), (0, .integer 2147483647), (0, .methodref 9 10), (0, .class_ 11), (0, .nameAndType 12 13), (0, u "com/example/telegrid/telegrid/esp3/BigEndian"), (0, u "intAt"), (0, u "([BI)I"), (0, .class_ 15), (0, u "com/example/telegrid/telegrid/esp3/BigEndianIntAtPinLaw"), (2, u "law"), (0, u "(III)Z")] 5

def k1m0 : Method := { name := "<init>", desc := "()V", sig := { parameters := [], returnType := none }, accessFlags := 2, code := none }
def k1c1 : Code := { maxStack := 4, maxLocals := 5, code := code, exceptionTable := #[], attributes := #[] }
def k1m1 : Method := { name := "law", desc := "(III)Z", sig := { parameters := [.int, .int, .int], returnType := some .boolean }, accessFlags := 9, code := some k1c1 }
/-- com/example/telegrid/telegrid/esp3/BigEndianIntAtPinLaw -/
def k1 : Class := { plain "com/example/telegrid/telegrid/esp3/BigEndianIntAtPinLaw" (some 0) with
  accessFlags := 49
  interfaces := #[]
  cf := some (fileOf pool1 14 #[] #[{ accessFlags := 2, nameIndex := 5, descriptorIndex := 6, attributes := #[] }, { accessFlags := 9, nameIndex := 18, descriptorIndex := 19, attributes := #[] }] 49 2 #[] #[])
  fields := #[]
  methods := #[k1m0, k1m1]
  instanceTypes := #[]
  staticTypes := #[]
  resolved := Array.replicate 25 none
  statics := none }

def pool2 : Array CpInfo := pool [(2, .class_ 4), (1, u "java/lang/Object"), (0, u "<init>"), (0, u "()V"), (0, .class_ 8), (0, u "com/example/telegrid/telegrid/esp3/BigEndian"), (2, u "intAt"), (0, u "([BI)I")] 2

def k2m0 : Method := { name := "<init>", desc := "()V", sig := { parameters := [], returnType := none }, accessFlags := 2, code := none }
def k2c1 : Code := { maxStack := 4, maxLocals := 2, code := prog_54_method_2_code, exceptionTable := #[], attributes := #[] }
def k2m1 : Method := { name := "intAt", desc := "([BI)I", sig := { parameters := [(.array .byte), .int], returnType := some .int }, accessFlags := 9, code := some k2c1 }
/-- com/example/telegrid/telegrid/esp3/BigEndian -/
def k2 : Class := { plain "com/example/telegrid/telegrid/esp3/BigEndian" (some 0) with
  accessFlags := 49
  interfaces := #[]
  cf := some (fileOf pool2 7 #[] #[{ accessFlags := 2, nameIndex := 5, descriptorIndex := 6, attributes := #[] }, { accessFlags := 9, nameIndex := 11, descriptorIndex := 12, attributes := #[] }] 49 2 #[] #[])
  fields := #[]
  methods := #[k2m0, k2m1]
  instanceTypes := #[]
  staticTypes := #[]
  resolved := Array.replicate 15 none
  statics := none }

def pool3 : Array CpInfo := pool [(1, u "java/lang/Cloneable"), (0, .class_ 1), (0, u "java/lang/Object"), (0, .class_ 3)] 3

/-- java/lang/Cloneable -/
def k3 : Class := { plain "java/lang/Cloneable" (some 0) with
  accessFlags := 1537
  interfaces := #[]
  cf := some (fileOf pool3 2 #[] #[] 1537 4 #[] #[])
  fields := #[]
  methods := #[]
  instanceTypes := #[]
  staticTypes := #[]
  resolved := Array.replicate 8 none
  statics := none }

def pool4 : Array CpInfo := pool [(1, u "java/io/Serializable"), (0, .class_ 1), (0, u "java/lang/Object"), (0, .class_ 3)] 3

/-- java/io/Serializable -/
def k4 : Class := { plain "java/io/Serializable" (some 0) with
  accessFlags := 1537
  interfaces := #[]
  cf := some (fileOf pool4 2 #[] #[] 1537 4 #[] #[])
  fields := #[]
  methods := #[]
  instanceTypes := #[]
  staticTypes := #[]
  resolved := Array.replicate 8 none
  statics := none }

/-- the primitive byte -/
def k5 : Class := { plain "byte" none with kind := .primitive 'B', accessFlags := 0x411 }
/-- [B -/
def k6 : Class := { plain "[B" (some 0) with kind := .array 5 .byte, interfaces := #[3, 4], accessFlags := 1041 }

/-- the primitive int -/
def k7 : Class := { plain "int" none with kind := .primitive 'I', accessFlags := 0x411 }
/-- [I -/
def k8 : Class := { plain "[I" (some 0) with kind := .array 7 .int, interfaces := #[3, 4], accessFlags := 1041 }

def heap : Heap := #[]
def classes : Array Class := #[k0, k1, k2, k3, k4, k5, k6, k7, k8]
def interned : List (Array UInt16 × Addr) := []
def slotsUsed : Nat := 0
def theMethod : MethodId := ⟨1, 1⟩
def args0 : Array Value := #[.int 5, .int 1, .int 1]
def aboutOver (below : List Frame) : State where
  vm := { classes := classes, interned := interned.toArray }
  heap := heap
  slotsUsed := slotsUsed
  threads := #[{ frames := .invoking theMethod args0 :: below }]
def below0 : List Frame := [.native { method := ⟨0, 0⟩, args := #[] }]
def about1 : State := aboutOver below0
def p0 : Program := .bare "" "" ""
def e0 : Env := launch0.env 0 0 0
theorem w_frames : about1.frames = Frame.invoking theMethod args0 :: below0 := rfl
set_option maxRecDepth 65536 in
theorem w_args : argsFit about1.vm theMethod args0 = true := by decide +kernel
set_option maxRecDepth 65536 in
theorem w_heap : heapFits about1 = true := by decide +kernel
set_option maxRecDepth 65536 in
theorem w_runnable : about1.curStatus? = some .runnable := by decide +kernel
set_option maxRecDepth 65536 in
theorem w_alone : about1.alone = true := by decide +kernel
set_option maxRecDepth 65536 in
theorem w_named : about1.methodNamed? x = some theMethod := by decide +kernel
set_option maxRecDepth 65536 in
theorem w_hears : about1.hears theMethod below0 = true := by decide +kernel
set_option maxRecDepth 65536 in
theorem w_ripe : about1.ripe theMethod args0 below0 = true := by decide +kernel
theorem w_running : about1.status = .running := rfl
set_option maxRecDepth 65536 in
theorem w_room : about1.hasRoom e0.platform room_1 = true :=
  launch0.hasRoom_least _ room_1 (by decide +kernel) (by decide +kernel) (by decide +kernel) (by decide +kernel) (by decide +kernel) (by decide +kernel)
theorem allAtoms_all (ts : List Jvm.Cond) (a : Array Jvm.Value) (st : Jvm.State) : (allAtoms ts).before a st = ts.all (fun c => c.before a st) := by
  induction ts with
  | nil => rfl
  | cons c t ih =>
    show (Jvm.Cond.and c (allAtoms t)).before a st = _
    rw [Jvm.Cond.before_and, ih, List.all_cons]
def words1 : List Jvm.Cond := Jvm.Cond.code x code maxLocals ret :: tables_1
/-- a 'code' word, met by the world's own term for the bytes: nothing is compared byte by byte -/
theorem code_word {y : MethodName} {bytes : ByteArray} {mx : Nat} {rt : Option FieldType} {a : Array Value} {s : State} {m : MethodId} {meth : Method} {c : Code} (h1 : s.methodNamed? y = some m) (h2 : s.vm.method? m = some meth) (h3 : meth.code = some c) (h4 : c.code = bytes)
    (h5 : (c.maxLocals == mx && c.exceptionTable.isEmpty && decide (c.maxStack ≤ mostOperands) && decide (meth.sig.returnType = rt) && !meth.locks && decide (parseMethodDescriptor y.desc = some meth.sig)) = true) : (Jvm.Cond.code y bytes mx rt).before a s = true := by
  simp only [Bool.and_eq_true, beq_iff_eq, Bool.not_eq_true', decide_eq_true_eq] at h5
  obtain ⟨⟨⟨⟨⟨g1, g2⟩, g3⟩, g4⟩, g5⟩, g6⟩ := h5
  simp [Cond.before, Cond.holds, Cond.value, h1, h2, h3, h4, g1, g2, g3, g4, g5, g6]
def isCode : Jvm.Cond → Bool
  | .code _ _ _ _ => true
  | _ => false
theorem all_split {L : List Jvm.Cond} {P : Jvm.Cond → Bool} (h1 : L.all (fun c => isCode c || P c) = true) (h2 : ∀ c ∈ L.filter isCode, P c = true) : L.all P = true := by
  refine List.all_eq_true.mpr fun c hc => ?_
  have h := List.all_eq_true.mp h1 c hc
  rcases Bool.eq_false_or_eq_true (isCode c) with hi | hi
  · exact h2 c (List.mem_filter.mpr ⟨hc, hi⟩)
  · simpa [hi] using h
set_option maxRecDepth 65536 in
theorem w_c0 : (Jvm.Cond.code x code maxLocals ret).before args0 about1 = true := code_word (m := ⟨1, 1⟩) (meth := k1m1) (c := k1c1) (by decide +kernel) rfl rfl rfl (by decide +kernel)
set_option maxRecDepth 65536 in
theorem w_c1 : (Jvm.Cond.code ({ cls := "com/example/telegrid/telegrid/esp3/BigEndian", name := "intAt", desc := "([BI)I" } : Jvm.MethodName) prog_54_method_2_code (2 : Nat) (Option.some Jvm.ClassFile.FieldType.int)).before args0 about1 = true := code_word (m := ⟨2, 1⟩) (meth := k2m1) (c := k2c1) (by decide +kernel) rfl rfl rfl (by decide +kernel)
def codes1 : List Jvm.Cond := [Jvm.Cond.code x code maxLocals ret, Jvm.Cond.code ({ cls := "com/example/telegrid/telegrid/esp3/BigEndian", name := "intAt", desc := "([BI)I" } : Jvm.MethodName) prog_54_method_2_code (2 : Nat) (Option.some Jvm.ClassFile.FieldType.int)]
set_option maxRecDepth 65536 in
theorem codes_eq : words1.filter isCode = codes1 := rfl
theorem w_codes : ∀ c ∈ words1.filter isCode, c.before args0 about1 = true := by
  rw [codes_eq]
  intro c hc
  simp only [codes1, List.mem_cons, List.not_mem_nil, or_false] at hc
  rcases hc with rfl | rfl
  · exact w_c0
  · exact w_c1
set_option maxRecDepth 65536 in
theorem w_t1 : words1.all (fun c => isCode c || c.before args0 about1) = true := by decide +kernel
theorem w_tables : (allAtoms (Jvm.Cond.code x code maxLocals ret :: tables_1)).before args0 about1 = true := by
  rw [allAtoms_all]
  show words1.all (fun c => c.before args0 about1) = true
  refine all_split ?_ w_codes
  rw [w_t1]
set_option maxRecDepth 65536 in
theorem w_case : (Jvm.Cond.and given_1 narrow_1).before args0 about1 = true := by decide +kernel
theorem w_applies : (headSpec (Jvm.Cond.code x code maxLocals ret :: tables_1) room_1).applies x e0.platform about1 = true :=
  (Spec.applies_iff w_frames).mpr ⟨w_running, w_runnable, w_alone, w_named, w_hears, w_ripe, w_room, w_tables⟩
theorem atStart : AtStart classFile x code maxLocals ret World_1 tables_1 room_1 Calls_1 rest_1 Pre_1 launch0 p0 e0 about1 theMethod args0 below0 :=
  ⟨lists_1, trivial, launch0.admits_env _ _ _, launch0.least_env, fairChoices_fair.cas, fairChoices_fair.clock, w_frames, w_args, w_heap, w_applies, trivial, trivial, w_case⟩
end start1
theorem witness_1 : WitnessClaimed_1 := ⟨start1.p0, start1.e0, start1.about1, start1.theMethod, start1.args0, start1.below0, start1.atStart⟩
end Jvm.Pilot.@@N@@
