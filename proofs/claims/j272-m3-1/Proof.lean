import JvmDerived
import JvmDerived.Pilot.@@N@@Statement
import JvmDerived.Pilot.@@N@@Code
set_option linter.unusedVariables false
set_option linter.unusedSimpArgs false
namespace Jvm.RoadKit
open Sem ClassFile Op Lib Jvm.Stand Jvm.Free Jvm.LawKit
section New
variable {p : Program} {l : Launch} {e : Env} {R : Room} {s : State} {m : MethodId} {args : Array Value} {below : List Frame} {meth : Method} {c : Code} {T : State} {locs : List Loc} {cells slots : Nat}
theorem retI (X : Stand p l e R s m args below meth c T locs cells slots) (hx : p.tables.exec = Jvm.exec) {pc : Nat} {Ls : Array Slot} {z : Int32} {rest : List Value} (hret : meth.sig.returnType = some .int) (hd : decode c.code pc = .ok (.ireturn, 1)) {fs : List Frame}
    (hl : ∀ (f : JFrame) (acts : List Action), f.method = m → f.locked = none → f.entered = [] → (doReturn e (T.setTop f) acts (some (.int z))).1 = T.setFrames fs) : Steps p.tables e below (T.setTop (mkF m pc Ls (.int z :: rest))) (T.setFrames fs) := by
  have hm' : T.vm.method? m = some meth := X.method'
  have hn : narrow .int (.int z) = .int z := rfl
  show Steps p.tables e below (T.setTop { method := m, pc := pc, locals := Ls, stack := _ :: rest, locked := none }) _
  jvm_step X.here [X.here.top, hx, hd, hm', hret, hn]
  first | (intro acts; rw [hl _ acts rfl rfl rfl]) | rw [hl _ _ rfl rfl rfl]
  exact Steps.refl _
end New
end Jvm.RoadKit
namespace Jvm.Pilot.@@N@@
open Jvm Jvm.ClassFile Sem Op Lib Jvm.Free Jvm.Stand Jvm.LawKit Jvm.RoadKit Bundle Jvm.Pilot.@@N@@.Jvm.D
def Qv (val : Option Value) (h0 : Heap) (n0 : Nat) (v : Option Value) (h : Heap) (L : List Loc) : Prop := v = val ∧ Fr n0 L ∧ h = h0
def Ql (val : Option Value) (n0 : Nat) (v : Option Value) (L : List Loc) : Prop := v = val ∧ Fr n0 L
theorem own_enum {Z : State} {args : Array Value} {C n d K : String} {k : Int32} (hx : (Cond.exactly (.static C n d) K).value args Z none Z [] = some true) (ho : (Cond.eq (.field (.static C n d) "java/lang/Enum" "ordinal" "I") (.int k)).value args Z none Z [] = some true) (hi : (Cond.initialized C).before args Z = true) (hl : (Cond.laysStatic C n d).before args Z = true) : ∃ a, Sta Z Z.heap C n d (.ref a) ∧ Exa Z Z.heap a K ∧ Fld Z Z.heap a "java/lang/Enum" "ordinal" "I" (.int k) := by
  obtain ⟨a, ev⟩ := exa_v hx
  refine ⟨a, Sta.start ev (Or.inr ⟨hi, hl⟩), Exa.start ev hx, Fld.start ?_⟩
  have h := Jvm.Free.NT.SwA.eq_int (Cond.before_iff.mpr ho)
  rw [fld_at ev] at h; exact h
abbrev own_rem (x y : Int32) : Int32 := x % y
theorem own_lcd (x y : Int64) : lcmpW x y = if x > y then 1 else if x = y then 0 else -1 := rfl
theorem own_cmp {i j : Int} {a b : UInt64} {d : Int64} (ha : FP.Core.DInt i a) (hb : FP.Core.DInt j b) (hd : d.toInt = i - j) (o : CmpOp) : cmpValue (FP.dcmp a b) o = lcmpW d 0 := by
  have e : FP.dcmp a b = some (compare i j) := FP.Core.dcmp_int ha hb
  rw [e, own_lcd]
  have z : (0 : Int64).toInt = 0 := rfl
  rcases Int.lt_trichotomy i j with h | h | h
  · have c : compare i j = .lt := by rw [Int.compare_eq_lt]; exact h
    have n1 : ¬ d > 0 := fun q => by have := Int64.lt_iff_toInt_lt.mp q; omega
    have n2 : ¬ d = 0 := fun q => by rw [q] at hd; omega
    rw [c, if_neg n1, if_neg n2]; cases o <;> rfl
  · have c : compare i j = .eq := by rw [Int.compare_eq_eq]; exact h
    have n1 : ¬ d > 0 := fun q => by have := Int64.lt_iff_toInt_lt.mp q; omega
    have n2 : d = 0 := Int64.toInt_inj.mp (by omega)
    rw [c, if_neg n1, if_pos n2]; cases o <;> rfl
  · have c : compare i j = .gt := by rw [Int.compare_eq_gt]; exact h
    have n1 : d > 0 := Int64.lt_iff_toInt_lt.mpr (by omega)
    rw [c, if_pos n1]; cases o <;> rfl
theorem own_dneg (x : Int32) : FP.Core.DInt (-x.toInt) (FP.dneg (FP.i2d x)) := by
  have hn : FP.dIsNaN (FP.i2d x) = false := Jvm.Free.Fl.noNaN64_no.mp (Jvm.Free.Fl.i2d_fin x).noNaN
  rw [FP.dneg_core hn]
  exact FP.Core.dneg_int (FP.Core.i2d_int x)
theorem own_pos (x : Int32) : x.toInt64.toInt = x.toInt := Int32.toInt_toInt64 x
theorem own_neg (x : Int32) : (-x.toInt64).toInt = -x.toInt := by
  rw [Int64.toInt_neg, own_pos, Int.bmod_eq_of_le] <;> have := Int32.toInt_lt x <;> have := Int32.le_toInt x <;> omega
theorem own_sub {a b : Int64} {i j : Int} (ha : a.toInt = i) (hb : b.toInt = j) (h1 : -2147483648 ≤ i) (h2 : i ≤ 2147483648) (h3 : -2147483648 ≤ j) (h4 : j ≤ 2147483648) : (a - b).toInt = i - j := by
  rw [Int64.toInt_sub, ha, hb, Int.bmod_eq_of_le] <;> omega
theorem own_rng (x : Int32) : -2147483648 ≤ x.toInt ∧ x.toInt ≤ 2147483648 ∧ -2147483648 ≤ -x.toInt ∧ -x.toInt ≤ 2147483648 := by
  have := Int32.toInt_lt x; have := Int32.le_toInt x; omega
theorem d1_0 : decode method_2_code 0 = .ok (.iload_n 0, 1) := by decide +kernel
theorem d1_1 : decode method_2_code 1 = .ok (.ifCond .ne 7, 3) := by decide +kernel
theorem d1_4 : decode method_2_code 4 = .ok (.getstatic 7, 3) := by decide +kernel
theorem d1_7 : decode method_2_code 7 = .ok (.areturn, 1) := by decide +kernel
theorem pn_1 : plainName "com/example/axisplan/axisplan/query/RelationHoldsPinLaw" = true := by first | (simp [plainName, overriddenIn]; done) | decide +kernel
theorem ef_1 (m : MethodId) (x0 : Int32) : entryFrame m #[(.int x0)] 1 = mkF m 0 #[.val (.int x0)] [] := by first | (simp [entryFrame, mkF, argsToLocals, Value.category]; done) | rfl
set_option maxRecDepth 65536 in
set_option maxHeartbeats 40000000 in
theorem rm1_f (l : Launch) (Z : State) (a0 : Array Value) (hw : ∀ d ∈ tables_1, d.before a0 Z = true) (ws : List Jvm.Cond) (p1 : Int32) (w2 : Addr) (h0 : Heap) (n0 : Nat) (Z0 : n0 ≤ h0.size) (S_EQUAL : Sta Z h0 "com/example/axisplan/axisplan/query/Comparison$Relation" "EQUAL" "Lcom/example/axisplan/axisplan/query/Comparison$Relation;" (.ref w2)) (hc1 : p1 = (0 : Int32)) :
    MetFree l (⟨"com/example/axisplan/axisplan/query/RelationHoldsPinLaw", "pick", "(I)Lcom/example/axisplan/axisplan/query/Comparison$Relation;"⟩ : MethodName) (head1 (Jvm.Cond.code (⟨"com/example/axisplan/axisplan/query/RelationHoldsPinLaw", "pick", "(I)Lcom/example/axisplan/axisplan/query/Comparison$Relation;"⟩ : MethodName) method_2_code 1 (some (.object "com/example/axisplan/axisplan/query/Comparison$Relation")) :: ws) ({ frames := 0, cells := 0, slots := 0, locals := 0 } : Room)) (fun a U => a = #[(.int p1)] ∧ Z.Warmed39 U.vm ∧ U.heap = h0) (fun _ _ _ _ _ => True) (fun _ U o U' => ∃ v L, o = .returned v ∧ Qv (some (.ref w2)) h0 n0 v U'.heap L ∧ FrameEnd U o U' L ({ frames := 0, cells := 0, slots := 0, locals := 0 } : Room).cells ({ frames := 0, cells := 0, slots := 0, locals := 0 } : Room).slots) := by
  refine MetFree.of_bodySF (plainFor_of_name pn_1) hisR ?_
  intro p e s m args below meth c s₁ Bd hml0 hP hK
  obtain ⟨rfl, hZ, hh⟩ := hP
  have hx := Bd.exec
  have hby := Bd.bytes
  have hml : c.maxLocals = 1 := hml0
  have hown : s.vm.findClass "com/example/axisplan/axisplan/query/RelationHoldsPinLaw" = some m.cls := findClass_of_methodNamed Bd.named
  have hnm := (name_of_methodNamed Bd.named Bd.method).1
  have X0 : Stand p l e ({ frames := 0, cells := 0, slots := 0, locals := 0 } : Room) s m #[(.int p1)] below meth c s₁ [] 0 0 := Stand.of_body Bd
  have e0 : s₁.heap = h0 := by rw [← hh, Bd.state]; rfl
  have N0 := Fr.nil n0
  have pre0 : ∀ t, Steps p.tables e below (s₁.setTop (mkF m 0 #[.val (.int p1)] [])) t → Steps p.tables e below (s₁.setTop (entryFrame m #[(.int p1)] 1)) t := fun t k => castTop (ef_1 m p1) k
  -- 3. LAWS
  obtain ⟨T3, X3, e3, st3⟩ := getS2 X0 hx hZ hown (host := "") (Or.inl (hw _ (List.mem_of_getElem? (i := 5) rfl))) Via.refl e0 S_EQUAL (g := (mkF m 4 #[.val (.int p1)] [])) rfl (hb hby d1_4)
  obtain ⟨fs, hr, hrun, hended, hW, hsame⟩ := X3.leave (v := some (.ref w2)) (fun h => by rw [Bd.returns] at h; cases h)
  refine ⟨_, _, pre0 _ ?_, hrun, hended, _, _, rfl, ?_, ⟨_, rfl⟩, hW, hsame.mono (by decide) (by decide)⟩
  -- 4. STEPS
  · show Steps p.tables e below (s₁.setTop (mkF m 0 #[.val (.int p1)] [])) _
    refine XS.iloadN X0.here hx rfl (hb hby d1_0) rfl ?_
    show Steps p.tables e below (s₁.setTop (mkF m 1 #[.val (.int p1)] [(.int p1)])) _
    refine XS.ifNo X0.here hx rfl (hb hby d1_1) rfl ((if0 _ _).trans (teq hc1).2) ?_
    show Steps p.tables e below (s₁.setTop (mkF m 4 #[.val (.int p1)] [])) _
    refine st3 _ ?_
    show Steps p.tables e below (T3.setTop (mkF m 7 #[.val (.int p1)] [(.ref w2)])) _
    jvm_step X3.here [X3.here.top, hx, (hb hby d1_7), X3.method', Bd.returns, Value.isRef, FieldType.isReference]
    first | (intro acts; rw [hr _ acts rfl rfl rfl]) | rw [hr _ _ rfl rfl rfl]
    exact Steps.refl _
  · show Qv (some (.ref w2)) h0 n0 _ T3.heap _
    rw [e3]
    exact ⟨rfl, N0, rfl⟩
theorem d1_8 : decode method_2_code 8 = .ok (.iload_n 0, 1) := by decide +kernel
theorem d1_9 : decode method_2_code 9 = .ok (.iconst 1, 1) := by decide +kernel
theorem d1_10 : decode method_2_code 10 = .ok (.if_icmp .ne 7, 3) := by decide +kernel
theorem d1_13 : decode method_2_code 13 = .ok (.getstatic 13, 3) := by decide +kernel
theorem d1_16 : decode method_2_code 16 = .ok (.areturn, 1) := by decide +kernel
set_option maxRecDepth 65536 in
set_option maxHeartbeats 40000000 in
theorem rm1_tf (l : Launch) (Z : State) (a0 : Array Value) (hw : ∀ d ∈ tables_1, d.before a0 Z = true) (ws : List Jvm.Cond) (p1 : Int32) (w2 : Addr) (h0 : Heap) (n0 : Nat) (Z0 : n0 ≤ h0.size) (S_NOT_EQUAL : Sta Z h0 "com/example/axisplan/axisplan/query/Comparison$Relation" "NOT_EQUAL" "Lcom/example/axisplan/axisplan/query/Comparison$Relation;" (.ref w2)) (hc1 : ¬ (p1 = (0 : Int32))) (hc10 : p1 = (1 : Int32)) :
    MetFree l (⟨"com/example/axisplan/axisplan/query/RelationHoldsPinLaw", "pick", "(I)Lcom/example/axisplan/axisplan/query/Comparison$Relation;"⟩ : MethodName) (head1 (Jvm.Cond.code (⟨"com/example/axisplan/axisplan/query/RelationHoldsPinLaw", "pick", "(I)Lcom/example/axisplan/axisplan/query/Comparison$Relation;"⟩ : MethodName) method_2_code 1 (some (.object "com/example/axisplan/axisplan/query/Comparison$Relation")) :: ws) ({ frames := 0, cells := 0, slots := 0, locals := 0 } : Room)) (fun a U => a = #[(.int p1)] ∧ Z.Warmed39 U.vm ∧ U.heap = h0) (fun _ _ _ _ _ => True) (fun _ U o U' => ∃ v L, o = .returned v ∧ Qv (some (.ref w2)) h0 n0 v U'.heap L ∧ FrameEnd U o U' L ({ frames := 0, cells := 0, slots := 0, locals := 0 } : Room).cells ({ frames := 0, cells := 0, slots := 0, locals := 0 } : Room).slots) := by
  refine MetFree.of_bodySF (plainFor_of_name pn_1) hisR ?_
  intro p e s m args below meth c s₁ Bd hml0 hP hK
  obtain ⟨rfl, hZ, hh⟩ := hP
  have hx := Bd.exec
  have hby := Bd.bytes
  have hml : c.maxLocals = 1 := hml0
  have hown : s.vm.findClass "com/example/axisplan/axisplan/query/RelationHoldsPinLaw" = some m.cls := findClass_of_methodNamed Bd.named
  have hnm := (name_of_methodNamed Bd.named Bd.method).1
  have X0 : Stand p l e ({ frames := 0, cells := 0, slots := 0, locals := 0 } : Room) s m #[(.int p1)] below meth c s₁ [] 0 0 := Stand.of_body Bd
  have e0 : s₁.heap = h0 := by rw [← hh, Bd.state]; rfl
  have N0 := Fr.nil n0
  have pre0 : ∀ t, Steps p.tables e below (s₁.setTop (mkF m 0 #[.val (.int p1)] [])) t → Steps p.tables e below (s₁.setTop (entryFrame m #[(.int p1)] 1)) t := fun t k => castTop (ef_1 m p1) k
  -- 3. LAWS
  obtain ⟨T3, X3, e3, st3⟩ := getS2 X0 hx hZ hown (host := "") (Or.inl (hw _ (List.mem_of_getElem? (i := 25) rfl))) Via.refl e0 S_NOT_EQUAL (g := (mkF m 13 #[.val (.int p1)] [])) rfl (hb hby d1_13)
  obtain ⟨fs, hr, hrun, hended, hW, hsame⟩ := X3.leave (v := some (.ref w2)) (fun h => by rw [Bd.returns] at h; cases h)
  refine ⟨_, _, pre0 _ ?_, hrun, hended, _, _, rfl, ?_, ⟨_, rfl⟩, hW, hsame.mono (by decide) (by decide)⟩
  -- 4. STEPS
  · show Steps p.tables e below (s₁.setTop (mkF m 0 #[.val (.int p1)] [])) _
    refine XS.iloadN X0.here hx rfl (hb hby d1_0) rfl ?_
    show Steps p.tables e below (s₁.setTop (mkF m 1 #[.val (.int p1)] [(.int p1)])) _
    refine XS.ifYes X0.here hx rfl (pc0 := 1) (pc' := 8) rfl (hb hby d1_1) rfl ((if0 _ _).trans (feq hc1).2) (by decide) (by decide) ?_
    show Steps p.tables e below (s₁.setTop (mkF m 8 #[.val (.int p1)] [])) _
    refine XS.iloadN X0.here hx rfl (hb hby d1_8) rfl ?_
    show Steps p.tables e below (s₁.setTop (mkF m 9 #[.val (.int p1)] [(.int p1)])) _
    refine XS.iconst X0.here hx rfl (hb hby d1_9) ?_
    show Steps p.tables e below (s₁.setTop (mkF m 10 #[.val (.int p1)] [(.int (1 : Int32)), (.int p1)])) _
    refine XS.icmpNo X0.here hx rfl (hb hby d1_10) rfl (teq hc10).2 ?_
    show Steps p.tables e below (s₁.setTop (mkF m 13 #[.val (.int p1)] [])) _
    refine st3 _ ?_
    show Steps p.tables e below (T3.setTop (mkF m 16 #[.val (.int p1)] [(.ref w2)])) _
    jvm_step X3.here [X3.here.top, hx, (hb hby d1_16), X3.method', Bd.returns, Value.isRef, FieldType.isReference]
    first | (intro acts; rw [hr _ acts rfl rfl rfl]) | rw [hr _ _ rfl rfl rfl]
    exact Steps.refl _
  · show Qv (some (.ref w2)) h0 n0 _ T3.heap _
    rw [e3]
    exact ⟨rfl, N0, rfl⟩
theorem d1_17 : decode method_2_code 17 = .ok (.iload_n 0, 1) := by decide +kernel
theorem d1_18 : decode method_2_code 18 = .ok (.iconst 2, 1) := by decide +kernel
theorem d1_19 : decode method_2_code 19 = .ok (.if_icmp .ne 7, 3) := by decide +kernel
theorem d1_22 : decode method_2_code 22 = .ok (.getstatic 16, 3) := by decide +kernel
theorem d1_25 : decode method_2_code 25 = .ok (.areturn, 1) := by decide +kernel
set_option maxRecDepth 65536 in
set_option maxHeartbeats 40000000 in
theorem rm1_ttf (l : Launch) (Z : State) (a0 : Array Value) (hw : ∀ d ∈ tables_1, d.before a0 Z = true) (ws : List Jvm.Cond) (p1 : Int32) (w2 : Addr) (h0 : Heap) (n0 : Nat) (Z0 : n0 ≤ h0.size) (S_LESS : Sta Z h0 "com/example/axisplan/axisplan/query/Comparison$Relation" "LESS" "Lcom/example/axisplan/axisplan/query/Comparison$Relation;" (.ref w2)) (hc1 : ¬ (p1 = (0 : Int32))) (hc10 : ¬ (p1 = (1 : Int32))) (hc19 : p1 = (2 : Int32)) :
    MetFree l (⟨"com/example/axisplan/axisplan/query/RelationHoldsPinLaw", "pick", "(I)Lcom/example/axisplan/axisplan/query/Comparison$Relation;"⟩ : MethodName) (head1 (Jvm.Cond.code (⟨"com/example/axisplan/axisplan/query/RelationHoldsPinLaw", "pick", "(I)Lcom/example/axisplan/axisplan/query/Comparison$Relation;"⟩ : MethodName) method_2_code 1 (some (.object "com/example/axisplan/axisplan/query/Comparison$Relation")) :: ws) ({ frames := 0, cells := 0, slots := 0, locals := 0 } : Room)) (fun a U => a = #[(.int p1)] ∧ Z.Warmed39 U.vm ∧ U.heap = h0) (fun _ _ _ _ _ => True) (fun _ U o U' => ∃ v L, o = .returned v ∧ Qv (some (.ref w2)) h0 n0 v U'.heap L ∧ FrameEnd U o U' L ({ frames := 0, cells := 0, slots := 0, locals := 0 } : Room).cells ({ frames := 0, cells := 0, slots := 0, locals := 0 } : Room).slots) := by
  refine MetFree.of_bodySF (plainFor_of_name pn_1) hisR ?_
  intro p e s m args below meth c s₁ Bd hml0 hP hK
  obtain ⟨rfl, hZ, hh⟩ := hP
  have hx := Bd.exec
  have hby := Bd.bytes
  have hml : c.maxLocals = 1 := hml0
  have hown : s.vm.findClass "com/example/axisplan/axisplan/query/RelationHoldsPinLaw" = some m.cls := findClass_of_methodNamed Bd.named
  have hnm := (name_of_methodNamed Bd.named Bd.method).1
  have X0 : Stand p l e ({ frames := 0, cells := 0, slots := 0, locals := 0 } : Room) s m #[(.int p1)] below meth c s₁ [] 0 0 := Stand.of_body Bd
  have e0 : s₁.heap = h0 := by rw [← hh, Bd.state]; rfl
  have N0 := Fr.nil n0
  have pre0 : ∀ t, Steps p.tables e below (s₁.setTop (mkF m 0 #[.val (.int p1)] [])) t → Steps p.tables e below (s₁.setTop (entryFrame m #[(.int p1)] 1)) t := fun t k => castTop (ef_1 m p1) k
  -- 3. LAWS
  obtain ⟨T3, X3, e3, st3⟩ := getS2 X0 hx hZ hown (host := "") (Or.inl (hw _ (List.mem_of_getElem? (i := 33) rfl))) Via.refl e0 S_LESS (g := (mkF m 22 #[.val (.int p1)] [])) rfl (hb hby d1_22)
  obtain ⟨fs, hr, hrun, hended, hW, hsame⟩ := X3.leave (v := some (.ref w2)) (fun h => by rw [Bd.returns] at h; cases h)
  refine ⟨_, _, pre0 _ ?_, hrun, hended, _, _, rfl, ?_, ⟨_, rfl⟩, hW, hsame.mono (by decide) (by decide)⟩
  -- 4. STEPS
  · show Steps p.tables e below (s₁.setTop (mkF m 0 #[.val (.int p1)] [])) _
    refine XS.iloadN X0.here hx rfl (hb hby d1_0) rfl ?_
    show Steps p.tables e below (s₁.setTop (mkF m 1 #[.val (.int p1)] [(.int p1)])) _
    refine XS.ifYes X0.here hx rfl (pc0 := 1) (pc' := 8) rfl (hb hby d1_1) rfl ((if0 _ _).trans (feq hc1).2) (by decide) (by decide) ?_
    show Steps p.tables e below (s₁.setTop (mkF m 8 #[.val (.int p1)] [])) _
    refine XS.iloadN X0.here hx rfl (hb hby d1_8) rfl ?_
    show Steps p.tables e below (s₁.setTop (mkF m 9 #[.val (.int p1)] [(.int p1)])) _
    refine XS.iconst X0.here hx rfl (hb hby d1_9) ?_
    show Steps p.tables e below (s₁.setTop (mkF m 10 #[.val (.int p1)] [(.int (1 : Int32)), (.int p1)])) _
    refine XS.icmpYes X0.here hx rfl (pc0 := 10) (pc' := 17) rfl (hb hby d1_10) rfl (feq hc10).2 (by decide) (by decide) ?_
    show Steps p.tables e below (s₁.setTop (mkF m 17 #[.val (.int p1)] [])) _
    refine XS.iloadN X0.here hx rfl (hb hby d1_17) rfl ?_
    show Steps p.tables e below (s₁.setTop (mkF m 18 #[.val (.int p1)] [(.int p1)])) _
    refine XS.iconst X0.here hx rfl (hb hby d1_18) ?_
    show Steps p.tables e below (s₁.setTop (mkF m 19 #[.val (.int p1)] [(.int (2 : Int32)), (.int p1)])) _
    refine XS.icmpNo X0.here hx rfl (hb hby d1_19) rfl (teq hc19).2 ?_
    show Steps p.tables e below (s₁.setTop (mkF m 22 #[.val (.int p1)] [])) _
    refine st3 _ ?_
    show Steps p.tables e below (T3.setTop (mkF m 25 #[.val (.int p1)] [(.ref w2)])) _
    jvm_step X3.here [X3.here.top, hx, (hb hby d1_25), X3.method', Bd.returns, Value.isRef, FieldType.isReference]
    first | (intro acts; rw [hr _ acts rfl rfl rfl]) | rw [hr _ _ rfl rfl rfl]
    exact Steps.refl _
  · show Qv (some (.ref w2)) h0 n0 _ T3.heap _
    rw [e3]
    exact ⟨rfl, N0, rfl⟩
theorem d1_26 : decode method_2_code 26 = .ok (.iload_n 0, 1) := by decide +kernel
theorem d1_27 : decode method_2_code 27 = .ok (.iconst 3, 1) := by decide +kernel
theorem d1_28 : decode method_2_code 28 = .ok (.if_icmp .ne 7, 3) := by decide +kernel
theorem d1_31 : decode method_2_code 31 = .ok (.getstatic 19, 3) := by decide +kernel
theorem d1_34 : decode method_2_code 34 = .ok (.areturn, 1) := by decide +kernel
set_option maxRecDepth 65536 in
set_option maxHeartbeats 40000000 in
theorem rm1_tttf (l : Launch) (Z : State) (a0 : Array Value) (hw : ∀ d ∈ tables_1, d.before a0 Z = true) (ws : List Jvm.Cond) (p1 : Int32) (w2 : Addr) (h0 : Heap) (n0 : Nat) (Z0 : n0 ≤ h0.size) (S_LESS_OR_EQUAL : Sta Z h0 "com/example/axisplan/axisplan/query/Comparison$Relation" "LESS_OR_EQUAL" "Lcom/example/axisplan/axisplan/query/Comparison$Relation;" (.ref w2)) (hc1 : ¬ (p1 = (0 : Int32))) (hc10 : ¬ (p1 = (1 : Int32))) (hc19 : ¬ (p1 = (2 : Int32))) (hc28 : p1 = (3 : Int32)) :
    MetFree l (⟨"com/example/axisplan/axisplan/query/RelationHoldsPinLaw", "pick", "(I)Lcom/example/axisplan/axisplan/query/Comparison$Relation;"⟩ : MethodName) (head1 (Jvm.Cond.code (⟨"com/example/axisplan/axisplan/query/RelationHoldsPinLaw", "pick", "(I)Lcom/example/axisplan/axisplan/query/Comparison$Relation;"⟩ : MethodName) method_2_code 1 (some (.object "com/example/axisplan/axisplan/query/Comparison$Relation")) :: ws) ({ frames := 0, cells := 0, slots := 0, locals := 0 } : Room)) (fun a U => a = #[(.int p1)] ∧ Z.Warmed39 U.vm ∧ U.heap = h0) (fun _ _ _ _ _ => True) (fun _ U o U' => ∃ v L, o = .returned v ∧ Qv (some (.ref w2)) h0 n0 v U'.heap L ∧ FrameEnd U o U' L ({ frames := 0, cells := 0, slots := 0, locals := 0 } : Room).cells ({ frames := 0, cells := 0, slots := 0, locals := 0 } : Room).slots) := by
  refine MetFree.of_bodySF (plainFor_of_name pn_1) hisR ?_
  intro p e s m args below meth c s₁ Bd hml0 hP hK
  obtain ⟨rfl, hZ, hh⟩ := hP
  have hx := Bd.exec
  have hby := Bd.bytes
  have hml : c.maxLocals = 1 := hml0
  have hown : s.vm.findClass "com/example/axisplan/axisplan/query/RelationHoldsPinLaw" = some m.cls := findClass_of_methodNamed Bd.named
  have hnm := (name_of_methodNamed Bd.named Bd.method).1
  have X0 : Stand p l e ({ frames := 0, cells := 0, slots := 0, locals := 0 } : Room) s m #[(.int p1)] below meth c s₁ [] 0 0 := Stand.of_body Bd
  have e0 : s₁.heap = h0 := by rw [← hh, Bd.state]; rfl
  have N0 := Fr.nil n0
  have pre0 : ∀ t, Steps p.tables e below (s₁.setTop (mkF m 0 #[.val (.int p1)] [])) t → Steps p.tables e below (s₁.setTop (entryFrame m #[(.int p1)] 1)) t := fun t k => castTop (ef_1 m p1) k
  -- 3. LAWS
  obtain ⟨T3, X3, e3, st3⟩ := getS2 X0 hx hZ hown (host := "") (Or.inl (hw _ (List.mem_of_getElem? (i := 29) rfl))) Via.refl e0 S_LESS_OR_EQUAL (g := (mkF m 31 #[.val (.int p1)] [])) rfl (hb hby d1_31)
  obtain ⟨fs, hr, hrun, hended, hW, hsame⟩ := X3.leave (v := some (.ref w2)) (fun h => by rw [Bd.returns] at h; cases h)
  refine ⟨_, _, pre0 _ ?_, hrun, hended, _, _, rfl, ?_, ⟨_, rfl⟩, hW, hsame.mono (by decide) (by decide)⟩
  -- 4. STEPS
  · show Steps p.tables e below (s₁.setTop (mkF m 0 #[.val (.int p1)] [])) _
    refine XS.iloadN X0.here hx rfl (hb hby d1_0) rfl ?_
    show Steps p.tables e below (s₁.setTop (mkF m 1 #[.val (.int p1)] [(.int p1)])) _
    refine XS.ifYes X0.here hx rfl (pc0 := 1) (pc' := 8) rfl (hb hby d1_1) rfl ((if0 _ _).trans (feq hc1).2) (by decide) (by decide) ?_
    show Steps p.tables e below (s₁.setTop (mkF m 8 #[.val (.int p1)] [])) _
    refine XS.iloadN X0.here hx rfl (hb hby d1_8) rfl ?_
    show Steps p.tables e below (s₁.setTop (mkF m 9 #[.val (.int p1)] [(.int p1)])) _
    refine XS.iconst X0.here hx rfl (hb hby d1_9) ?_
    show Steps p.tables e below (s₁.setTop (mkF m 10 #[.val (.int p1)] [(.int (1 : Int32)), (.int p1)])) _
    refine XS.icmpYes X0.here hx rfl (pc0 := 10) (pc' := 17) rfl (hb hby d1_10) rfl (feq hc10).2 (by decide) (by decide) ?_
    show Steps p.tables e below (s₁.setTop (mkF m 17 #[.val (.int p1)] [])) _
    refine XS.iloadN X0.here hx rfl (hb hby d1_17) rfl ?_
    show Steps p.tables e below (s₁.setTop (mkF m 18 #[.val (.int p1)] [(.int p1)])) _
    refine XS.iconst X0.here hx rfl (hb hby d1_18) ?_
    show Steps p.tables e below (s₁.setTop (mkF m 19 #[.val (.int p1)] [(.int (2 : Int32)), (.int p1)])) _
    refine XS.icmpYes X0.here hx rfl (pc0 := 19) (pc' := 26) rfl (hb hby d1_19) rfl (feq hc19).2 (by decide) (by decide) ?_
    show Steps p.tables e below (s₁.setTop (mkF m 26 #[.val (.int p1)] [])) _
    refine XS.iloadN X0.here hx rfl (hb hby d1_26) rfl ?_
    show Steps p.tables e below (s₁.setTop (mkF m 27 #[.val (.int p1)] [(.int p1)])) _
    refine XS.iconst X0.here hx rfl (hb hby d1_27) ?_
    show Steps p.tables e below (s₁.setTop (mkF m 28 #[.val (.int p1)] [(.int (3 : Int32)), (.int p1)])) _
    refine XS.icmpNo X0.here hx rfl (hb hby d1_28) rfl (teq hc28).2 ?_
    show Steps p.tables e below (s₁.setTop (mkF m 31 #[.val (.int p1)] [])) _
    refine st3 _ ?_
    show Steps p.tables e below (T3.setTop (mkF m 34 #[.val (.int p1)] [(.ref w2)])) _
    jvm_step X3.here [X3.here.top, hx, (hb hby d1_34), X3.method', Bd.returns, Value.isRef, FieldType.isReference]
    first | (intro acts; rw [hr _ acts rfl rfl rfl]) | rw [hr _ _ rfl rfl rfl]
    exact Steps.refl _
  · show Qv (some (.ref w2)) h0 n0 _ T3.heap _
    rw [e3]
    exact ⟨rfl, N0, rfl⟩
theorem d1_35 : decode method_2_code 35 = .ok (.iload_n 0, 1) := by decide +kernel
theorem d1_36 : decode method_2_code 36 = .ok (.iconst 4, 1) := by decide +kernel
theorem d1_37 : decode method_2_code 37 = .ok (.if_icmp .ne 7, 3) := by decide +kernel
theorem d1_40 : decode method_2_code 40 = .ok (.getstatic 22, 3) := by decide +kernel
theorem d1_43 : decode method_2_code 43 = .ok (.areturn, 1) := by decide +kernel
set_option maxRecDepth 65536 in
set_option maxHeartbeats 40000000 in
theorem rm1_ttttf (l : Launch) (Z : State) (a0 : Array Value) (hw : ∀ d ∈ tables_1, d.before a0 Z = true) (ws : List Jvm.Cond) (p1 : Int32) (w2 : Addr) (h0 : Heap) (n0 : Nat) (Z0 : n0 ≤ h0.size) (S_GREATER : Sta Z h0 "com/example/axisplan/axisplan/query/Comparison$Relation" "GREATER" "Lcom/example/axisplan/axisplan/query/Comparison$Relation;" (.ref w2)) (hc1 : ¬ (p1 = (0 : Int32))) (hc10 : ¬ (p1 = (1 : Int32))) (hc19 : ¬ (p1 = (2 : Int32))) (hc28 : ¬ (p1 = (3 : Int32))) (hc37 : p1 = (4 : Int32)) :
    MetFree l (⟨"com/example/axisplan/axisplan/query/RelationHoldsPinLaw", "pick", "(I)Lcom/example/axisplan/axisplan/query/Comparison$Relation;"⟩ : MethodName) (head1 (Jvm.Cond.code (⟨"com/example/axisplan/axisplan/query/RelationHoldsPinLaw", "pick", "(I)Lcom/example/axisplan/axisplan/query/Comparison$Relation;"⟩ : MethodName) method_2_code 1 (some (.object "com/example/axisplan/axisplan/query/Comparison$Relation")) :: ws) ({ frames := 0, cells := 0, slots := 0, locals := 0 } : Room)) (fun a U => a = #[(.int p1)] ∧ Z.Warmed39 U.vm ∧ U.heap = h0) (fun _ _ _ _ _ => True) (fun _ U o U' => ∃ v L, o = .returned v ∧ Qv (some (.ref w2)) h0 n0 v U'.heap L ∧ FrameEnd U o U' L ({ frames := 0, cells := 0, slots := 0, locals := 0 } : Room).cells ({ frames := 0, cells := 0, slots := 0, locals := 0 } : Room).slots) := by
  refine MetFree.of_bodySF (plainFor_of_name pn_1) hisR ?_
  intro p e s m args below meth c s₁ Bd hml0 hP hK
  obtain ⟨rfl, hZ, hh⟩ := hP
  have hx := Bd.exec
  have hby := Bd.bytes
  have hml : c.maxLocals = 1 := hml0
  have hown : s.vm.findClass "com/example/axisplan/axisplan/query/RelationHoldsPinLaw" = some m.cls := findClass_of_methodNamed Bd.named
  have hnm := (name_of_methodNamed Bd.named Bd.method).1
  have X0 : Stand p l e ({ frames := 0, cells := 0, slots := 0, locals := 0 } : Room) s m #[(.int p1)] below meth c s₁ [] 0 0 := Stand.of_body Bd
  have e0 : s₁.heap = h0 := by rw [← hh, Bd.state]; rfl
  have N0 := Fr.nil n0
  have pre0 : ∀ t, Steps p.tables e below (s₁.setTop (mkF m 0 #[.val (.int p1)] [])) t → Steps p.tables e below (s₁.setTop (entryFrame m #[(.int p1)] 1)) t := fun t k => castTop (ef_1 m p1) k
  -- 3. LAWS
  obtain ⟨T3, X3, e3, st3⟩ := getS2 X0 hx hZ hown (host := "") (Or.inl (hw _ (List.mem_of_getElem? (i := 27) rfl))) Via.refl e0 S_GREATER (g := (mkF m 40 #[.val (.int p1)] [])) rfl (hb hby d1_40)
  obtain ⟨fs, hr, hrun, hended, hW, hsame⟩ := X3.leave (v := some (.ref w2)) (fun h => by rw [Bd.returns] at h; cases h)
  refine ⟨_, _, pre0 _ ?_, hrun, hended, _, _, rfl, ?_, ⟨_, rfl⟩, hW, hsame.mono (by decide) (by decide)⟩
  -- 4. STEPS
  · show Steps p.tables e below (s₁.setTop (mkF m 0 #[.val (.int p1)] [])) _
    refine XS.iloadN X0.here hx rfl (hb hby d1_0) rfl ?_
    show Steps p.tables e below (s₁.setTop (mkF m 1 #[.val (.int p1)] [(.int p1)])) _
    refine XS.ifYes X0.here hx rfl (pc0 := 1) (pc' := 8) rfl (hb hby d1_1) rfl ((if0 _ _).trans (feq hc1).2) (by decide) (by decide) ?_
    show Steps p.tables e below (s₁.setTop (mkF m 8 #[.val (.int p1)] [])) _
    refine XS.iloadN X0.here hx rfl (hb hby d1_8) rfl ?_
    show Steps p.tables e below (s₁.setTop (mkF m 9 #[.val (.int p1)] [(.int p1)])) _
    refine XS.iconst X0.here hx rfl (hb hby d1_9) ?_
    show Steps p.tables e below (s₁.setTop (mkF m 10 #[.val (.int p1)] [(.int (1 : Int32)), (.int p1)])) _
    refine XS.icmpYes X0.here hx rfl (pc0 := 10) (pc' := 17) rfl (hb hby d1_10) rfl (feq hc10).2 (by decide) (by decide) ?_
    show Steps p.tables e below (s₁.setTop (mkF m 17 #[.val (.int p1)] [])) _
    refine XS.iloadN X0.here hx rfl (hb hby d1_17) rfl ?_
    show Steps p.tables e below (s₁.setTop (mkF m 18 #[.val (.int p1)] [(.int p1)])) _
    refine XS.iconst X0.here hx rfl (hb hby d1_18) ?_
    show Steps p.tables e below (s₁.setTop (mkF m 19 #[.val (.int p1)] [(.int (2 : Int32)), (.int p1)])) _
    refine XS.icmpYes X0.here hx rfl (pc0 := 19) (pc' := 26) rfl (hb hby d1_19) rfl (feq hc19).2 (by decide) (by decide) ?_
    show Steps p.tables e below (s₁.setTop (mkF m 26 #[.val (.int p1)] [])) _
    refine XS.iloadN X0.here hx rfl (hb hby d1_26) rfl ?_
    show Steps p.tables e below (s₁.setTop (mkF m 27 #[.val (.int p1)] [(.int p1)])) _
    refine XS.iconst X0.here hx rfl (hb hby d1_27) ?_
    show Steps p.tables e below (s₁.setTop (mkF m 28 #[.val (.int p1)] [(.int (3 : Int32)), (.int p1)])) _
    refine XS.icmpYes X0.here hx rfl (pc0 := 28) (pc' := 35) rfl (hb hby d1_28) rfl (feq hc28).2 (by decide) (by decide) ?_
    show Steps p.tables e below (s₁.setTop (mkF m 35 #[.val (.int p1)] [])) _
    refine XS.iloadN X0.here hx rfl (hb hby d1_35) rfl ?_
    show Steps p.tables e below (s₁.setTop (mkF m 36 #[.val (.int p1)] [(.int p1)])) _
    refine XS.iconst X0.here hx rfl (hb hby d1_36) ?_
    show Steps p.tables e below (s₁.setTop (mkF m 37 #[.val (.int p1)] [(.int (4 : Int32)), (.int p1)])) _
    refine XS.icmpNo X0.here hx rfl (hb hby d1_37) rfl (teq hc37).2 ?_
    show Steps p.tables e below (s₁.setTop (mkF m 40 #[.val (.int p1)] [])) _
    refine st3 _ ?_
    show Steps p.tables e below (T3.setTop (mkF m 43 #[.val (.int p1)] [(.ref w2)])) _
    jvm_step X3.here [X3.here.top, hx, (hb hby d1_43), X3.method', Bd.returns, Value.isRef, FieldType.isReference]
    first | (intro acts; rw [hr _ acts rfl rfl rfl]) | rw [hr _ _ rfl rfl rfl]
    exact Steps.refl _
  · show Qv (some (.ref w2)) h0 n0 _ T3.heap _
    rw [e3]
    exact ⟨rfl, N0, rfl⟩
theorem d1_44 : decode method_2_code 44 = .ok (.getstatic 25, 3) := by decide +kernel
theorem d1_47 : decode method_2_code 47 = .ok (.areturn, 1) := by decide +kernel
set_option maxRecDepth 65536 in
set_option maxHeartbeats 40000000 in
theorem rm1_ttttt (l : Launch) (Z : State) (a0 : Array Value) (hw : ∀ d ∈ tables_1, d.before a0 Z = true) (ws : List Jvm.Cond) (p1 : Int32) (w2 : Addr) (h0 : Heap) (n0 : Nat) (Z0 : n0 ≤ h0.size) (S_GREATER_OR_EQUAL : Sta Z h0 "com/example/axisplan/axisplan/query/Comparison$Relation" "GREATER_OR_EQUAL" "Lcom/example/axisplan/axisplan/query/Comparison$Relation;" (.ref w2)) (hc1 : ¬ (p1 = (0 : Int32))) (hc10 : ¬ (p1 = (1 : Int32))) (hc19 : ¬ (p1 = (2 : Int32))) (hc28 : ¬ (p1 = (3 : Int32))) (hc37 : ¬ (p1 = (4 : Int32))) :
    MetFree l (⟨"com/example/axisplan/axisplan/query/RelationHoldsPinLaw", "pick", "(I)Lcom/example/axisplan/axisplan/query/Comparison$Relation;"⟩ : MethodName) (head1 (Jvm.Cond.code (⟨"com/example/axisplan/axisplan/query/RelationHoldsPinLaw", "pick", "(I)Lcom/example/axisplan/axisplan/query/Comparison$Relation;"⟩ : MethodName) method_2_code 1 (some (.object "com/example/axisplan/axisplan/query/Comparison$Relation")) :: ws) ({ frames := 0, cells := 0, slots := 0, locals := 0 } : Room)) (fun a U => a = #[(.int p1)] ∧ Z.Warmed39 U.vm ∧ U.heap = h0) (fun _ _ _ _ _ => True) (fun _ U o U' => ∃ v L, o = .returned v ∧ Qv (some (.ref w2)) h0 n0 v U'.heap L ∧ FrameEnd U o U' L ({ frames := 0, cells := 0, slots := 0, locals := 0 } : Room).cells ({ frames := 0, cells := 0, slots := 0, locals := 0 } : Room).slots) := by
  refine MetFree.of_bodySF (plainFor_of_name pn_1) hisR ?_
  intro p e s m args below meth c s₁ Bd hml0 hP hK
  obtain ⟨rfl, hZ, hh⟩ := hP
  have hx := Bd.exec
  have hby := Bd.bytes
  have hml : c.maxLocals = 1 := hml0
  have hown : s.vm.findClass "com/example/axisplan/axisplan/query/RelationHoldsPinLaw" = some m.cls := findClass_of_methodNamed Bd.named
  have hnm := (name_of_methodNamed Bd.named Bd.method).1
  have X0 : Stand p l e ({ frames := 0, cells := 0, slots := 0, locals := 0 } : Room) s m #[(.int p1)] below meth c s₁ [] 0 0 := Stand.of_body Bd
  have e0 : s₁.heap = h0 := by rw [← hh, Bd.state]; rfl
  have N0 := Fr.nil n0
  have pre0 : ∀ t, Steps p.tables e below (s₁.setTop (mkF m 0 #[.val (.int p1)] [])) t → Steps p.tables e below (s₁.setTop (entryFrame m #[(.int p1)] 1)) t := fun t k => castTop (ef_1 m p1) k
  -- 3. LAWS
  obtain ⟨T3, X3, e3, st3⟩ := getS2 X0 hx hZ hown (host := "") (Or.inl (hw _ (List.mem_of_getElem? (i := 31) rfl))) Via.refl e0 S_GREATER_OR_EQUAL (g := (mkF m 44 #[.val (.int p1)] [])) rfl (hb hby d1_44)
  obtain ⟨fs, hr, hrun, hended, hW, hsame⟩ := X3.leave (v := some (.ref w2)) (fun h => by rw [Bd.returns] at h; cases h)
  refine ⟨_, _, pre0 _ ?_, hrun, hended, _, _, rfl, ?_, ⟨_, rfl⟩, hW, hsame.mono (by decide) (by decide)⟩
  -- 4. STEPS
  · show Steps p.tables e below (s₁.setTop (mkF m 0 #[.val (.int p1)] [])) _
    refine XS.iloadN X0.here hx rfl (hb hby d1_0) rfl ?_
    show Steps p.tables e below (s₁.setTop (mkF m 1 #[.val (.int p1)] [(.int p1)])) _
    refine XS.ifYes X0.here hx rfl (pc0 := 1) (pc' := 8) rfl (hb hby d1_1) rfl ((if0 _ _).trans (feq hc1).2) (by decide) (by decide) ?_
    show Steps p.tables e below (s₁.setTop (mkF m 8 #[.val (.int p1)] [])) _
    refine XS.iloadN X0.here hx rfl (hb hby d1_8) rfl ?_
    show Steps p.tables e below (s₁.setTop (mkF m 9 #[.val (.int p1)] [(.int p1)])) _
    refine XS.iconst X0.here hx rfl (hb hby d1_9) ?_
    show Steps p.tables e below (s₁.setTop (mkF m 10 #[.val (.int p1)] [(.int (1 : Int32)), (.int p1)])) _
    refine XS.icmpYes X0.here hx rfl (pc0 := 10) (pc' := 17) rfl (hb hby d1_10) rfl (feq hc10).2 (by decide) (by decide) ?_
    show Steps p.tables e below (s₁.setTop (mkF m 17 #[.val (.int p1)] [])) _
    refine XS.iloadN X0.here hx rfl (hb hby d1_17) rfl ?_
    show Steps p.tables e below (s₁.setTop (mkF m 18 #[.val (.int p1)] [(.int p1)])) _
    refine XS.iconst X0.here hx rfl (hb hby d1_18) ?_
    show Steps p.tables e below (s₁.setTop (mkF m 19 #[.val (.int p1)] [(.int (2 : Int32)), (.int p1)])) _
    refine XS.icmpYes X0.here hx rfl (pc0 := 19) (pc' := 26) rfl (hb hby d1_19) rfl (feq hc19).2 (by decide) (by decide) ?_
    show Steps p.tables e below (s₁.setTop (mkF m 26 #[.val (.int p1)] [])) _
    refine XS.iloadN X0.here hx rfl (hb hby d1_26) rfl ?_
    show Steps p.tables e below (s₁.setTop (mkF m 27 #[.val (.int p1)] [(.int p1)])) _
    refine XS.iconst X0.here hx rfl (hb hby d1_27) ?_
    show Steps p.tables e below (s₁.setTop (mkF m 28 #[.val (.int p1)] [(.int (3 : Int32)), (.int p1)])) _
    refine XS.icmpYes X0.here hx rfl (pc0 := 28) (pc' := 35) rfl (hb hby d1_28) rfl (feq hc28).2 (by decide) (by decide) ?_
    show Steps p.tables e below (s₁.setTop (mkF m 35 #[.val (.int p1)] [])) _
    refine XS.iloadN X0.here hx rfl (hb hby d1_35) rfl ?_
    show Steps p.tables e below (s₁.setTop (mkF m 36 #[.val (.int p1)] [(.int p1)])) _
    refine XS.iconst X0.here hx rfl (hb hby d1_36) ?_
    show Steps p.tables e below (s₁.setTop (mkF m 37 #[.val (.int p1)] [(.int (4 : Int32)), (.int p1)])) _
    refine XS.icmpYes X0.here hx rfl (pc0 := 37) (pc' := 44) rfl (hb hby d1_37) rfl (feq hc37).2 (by decide) (by decide) ?_
    show Steps p.tables e below (s₁.setTop (mkF m 44 #[.val (.int p1)] [])) _
    refine st3 _ ?_
    show Steps p.tables e below (T3.setTop (mkF m 47 #[.val (.int p1)] [(.ref w2)])) _
    jvm_step X3.here [X3.here.top, hx, (hb hby d1_47), X3.method', Bd.returns, Value.isRef, FieldType.isReference]
    first | (intro acts; rw [hr _ acts rfl rfl rfl]) | rw [hr _ _ rfl rfl rfl]
    exact Steps.refl _
  · show Qv (some (.ref w2)) h0 n0 _ T3.heap _
    rw [e3]
    exact ⟨rfl, N0, rfl⟩
theorem d3_0 : decode jdk_37_method_2_code 0 = .ok (.aload_n 0, 1) := by decide +kernel
theorem d3_1 : decode jdk_37_method_2_code 1 = .ok (.getfield 7, 3) := by decide +kernel
theorem d3_4 : decode jdk_37_method_2_code 4 = .ok (.ireturn, 1) := by decide +kernel
theorem pn_3 : plainName "java/lang/Enum" = true := by first | (simp [plainName, overriddenIn]; done) | decide +kernel
theorem ef_3 (m : MethodId) (x0 : Addr) : entryFrame m #[(.ref x0)] 1 = mkF m 0 #[.val (.ref x0)] [] := by first | (simp [entryFrame, mkF, argsToLocals, Value.category]; done) | rfl
set_option maxRecDepth 65536 in
set_option maxHeartbeats 40000000 in
theorem rm3 (l : Launch) (Z : State) (a0 : Array Value) (hw : ∀ d ∈ tables_1, d.before a0 Z = true) (ws : List Jvm.Cond) (a1 : Addr) (w2 : Int32) (h0 : Heap) (n0 : Nat) (Z0 : n0 ≤ h0.size) (F_ordinal_a1 : Fld Z h0 a1 "java/lang/Enum" "ordinal" "I" (.int w2)) :
    MetFree l (⟨"java/lang/Enum", "ordinal", "()I"⟩ : MethodName) (head1 (Jvm.Cond.code (⟨"java/lang/Enum", "ordinal", "()I"⟩ : MethodName) jdk_37_method_2_code 1 (some .int) :: ws) ({ frames := 0, cells := 0, slots := 0, locals := 0 } : Room)) (fun a U => a = #[(.ref a1)] ∧ Z.Warmed39 U.vm ∧ U.heap = h0) (fun _ _ _ _ _ => True) (fun _ U o U' => ∃ v L, o = .returned v ∧ Qv (some (.int w2)) h0 n0 v U'.heap L ∧ FrameEnd U o U' L ({ frames := 0, cells := 0, slots := 0, locals := 0 } : Room).cells ({ frames := 0, cells := 0, slots := 0, locals := 0 } : Room).slots) := by
  refine MetFree.of_bodySF (plainFor_of_name pn_3) hisR ?_
  intro p e s m args below meth c s₁ Bd hml0 hP hK
  obtain ⟨rfl, hZ, hh⟩ := hP
  have hx := Bd.exec
  have hby := Bd.bytes
  have hml : c.maxLocals = 1 := hml0
  have hown : s.vm.findClass "java/lang/Enum" = some m.cls := findClass_of_methodNamed Bd.named
  have hnm := (name_of_methodNamed Bd.named Bd.method).1
  have X0 : Stand p l e ({ frames := 0, cells := 0, slots := 0, locals := 0 } : Room) s m #[(.ref a1)] below meth c s₁ [] 0 0 := Stand.of_body Bd
  have e0 : s₁.heap = h0 := by rw [← hh, Bd.state]; rfl
  have N0 := Fr.nil n0
  have pre0 : ∀ t, Steps p.tables e below (s₁.setTop (mkF m 0 #[.val (.ref a1)] [])) t → Steps p.tables e below (s₁.setTop (entryFrame m #[(.ref a1)] 1)) t := fun t k => castTop (ef_3 m a1) k
  -- 3. LAWS
  obtain ⟨T3, X3, e3, st3⟩ := getF X0 hx hZ hown (host := "") (Or.inl (hw _ (List.mem_of_getElem? (i := 20) rfl))) Via.refl e0 F_ordinal_a1 (g := (mkF m 1 #[.val (.ref a1)] [(.ref a1)])) rfl rfl (hb hby d3_1)
  obtain ⟨fs, hr, hrun, hended, hW, hsame⟩ := X3.leave (v := some (.int w2)) (fun h => by rw [Bd.returns] at h; cases h)
  refine ⟨_, _, pre0 _ ?_, hrun, hended, _, _, rfl, ?_, ⟨_, rfl⟩, hW, hsame.mono (by decide) (by decide)⟩
  -- 4. STEPS
  · show Steps p.tables e below (s₁.setTop (mkF m 0 #[.val (.ref a1)] [])) _
    refine XS.aloadN X0.here hx rfl (hb hby d3_0) rfl rfl ?_
    show Steps p.tables e below (s₁.setTop (mkF m 1 #[.val (.ref a1)] [(.ref a1)])) _
    refine st3 _ ?_
    show Steps p.tables e below (T3.setTop (mkF m 4 #[.val (.ref a1)] [(.int w2)])) _
    exact retI X3 hx Bd.returns (hb hby d3_4) hr      -- retI stands in the head ('lawwalk <made dir>' prints it)
  · show Qv (some (.int w2)) h0 n0 _ T3.heap _
    rw [e3]
    exact ⟨rfl, N0, rfl⟩
theorem d2_0 : decode prog_24_method_8_code 0 = .ok (.aload_n 0, 1) := by decide +kernel
theorem d2_1 : decode prog_24_method_8_code 1 = .ok (.invokevirtual 50, 3) := by decide +kernel
theorem d2_4 : decode prog_24_method_8_code 4 = .ok (.tableswitch 40 0 5 #[50, 64, 78, 92, 106, 120], 40) := by decide +kernel
theorem d2_54 : decode prog_24_method_8_code 54 = .ok (.dload_n 1, 1) := by decide +kernel
theorem d2_55 : decode prog_24_method_8_code 55 = .ok (.dload_n 3, 1) := by decide +kernel
theorem d2_56 : decode prog_24_method_8_code 56 = .ok (.dcmp .l, 1) := by decide +kernel
theorem d2_57 : decode prog_24_method_8_code 57 = .ok (.ifCond .ne 7, 3) := by decide +kernel
theorem d2_60 : decode prog_24_method_8_code 60 = .ok (.iconst 1, 1) := by decide +kernel
theorem d2_61 : decode prog_24_method_8_code 61 = .ok (.goto 74, 3) := by decide +kernel
theorem d2_135 : decode prog_24_method_8_code 135 = .ok (.ireturn, 1) := by decide +kernel
theorem pn_2 : plainName "com/example/axisplan/axisplan/query/Comparison$Relation" = true := by first | (simp [plainName, overriddenIn]; done) | decide +kernel
theorem pd_2_2 : parseMethodDescriptor "()I" = some ⟨[], some .int⟩ := by decide +kernel
theorem ef_2 (m : MethodId) (x0 : Addr) (x1 : UInt64) (x2 : UInt64) : entryFrame m #[(.ref x0), (.double x1), (.double x2)] 5 = mkF m 0 #[.val (.ref x0), .val (.double x1), .second, .val (.double x2), .second] [] := by first | (simp [entryFrame, mkF, argsToLocals, Value.category]; done) | rfl
set_option maxRecDepth 65536 in
set_option maxHeartbeats 40000000 in
theorem rm2_0f (l : Launch) (Z : State) (a0 : Array Value) (hw : ∀ d ∈ tables_1, d.before a0 Z = true) (ws : List Jvm.Cond) (a1 : Addr) (d2 : UInt64) (d3 : UInt64) (h0 : Heap) (n0 : Nat) (Z0 : n0 ≤ h0.size) (O_a1 : Fld Z h0 a1 "java/lang/Enum" "ordinal" "I" (.int (0 : Int32))) (E_a1 : Exa Z h0 a1 "com/example/axisplan/axisplan/query/Comparison$Relation") (hc57 : (cmpValue (FP.dcmp d2 d3) .l) = (0 : Int32)) :
    MetFree l (⟨"com/example/axisplan/axisplan/query/Comparison$Relation", "holds", "(DD)Z"⟩ : MethodName) (head1 (Jvm.Cond.code (⟨"com/example/axisplan/axisplan/query/Comparison$Relation", "holds", "(DD)Z"⟩ : MethodName) prog_24_method_8_code 5 (some .boolean) :: ws) ({ frames := 1, cells := 0, slots := 0, locals := 12 } : Room)) (fun a U => a = #[(.ref a1), (.double d2), (.double d3)] ∧ Z.Warmed39 U.vm ∧ U.heap = h0) (fun _ _ _ _ _ => True) (fun _ U o U' => ∃ v L, o = .returned v ∧ Qv (some (.int (1 : Int32))) h0 n0 v U'.heap L ∧ FrameEnd U o U' L ({ frames := 1, cells := 0, slots := 0, locals := 12 } : Room).cells ({ frames := 1, cells := 0, slots := 0, locals := 12 } : Room).slots) := by
  refine MetFree.of_bodySF (plainFor_of_name pn_2) hisR ?_
  intro p e s m args below meth c s₁ Bd hml0 hP hK
  obtain ⟨rfl, hZ, hh⟩ := hP
  have hx := Bd.exec
  have hby := Bd.bytes
  have hml : c.maxLocals = 5 := hml0
  have hown : s.vm.findClass "com/example/axisplan/axisplan/query/Comparison$Relation" = some m.cls := findClass_of_methodNamed Bd.named
  have hnm := (name_of_methodNamed Bd.named Bd.method).1
  have X0 : Stand p l e ({ frames := 1, cells := 0, slots := 0, locals := 12 } : Room) s m #[(.ref a1), (.double d2), (.double d3)] below meth c s₁ [] 0 0 := Stand.of_body Bd
  have e0 : s₁.heap = h0 := by rw [← hh, Bd.state]; rfl
  have N0 := Fr.nil n0
  have pre0 : ∀ t, Steps p.tables e below (s₁.setTop (mkF m 0 #[.val (.ref a1), .val (.double d2), .second, .val (.double d3), .second] [])) t → Steps p.tables e below (s₁.setTop (entryFrame m #[(.ref a1), (.double d2), (.double d3)] 5)) t := fun t k => castTop (ef_2 m a1 d2 d3) k
  -- 3. LAWS
  -- pc 1: com/example/axisplan/axisplan/query/Comparison$Relation.ordinal by the contract of the body that the receiver's class selects, rm3
  obtain ⟨cq4, kq4, q4a, q4b, q4c⟩ := isOf hZ e0 E_a1
  obtain ⟨_, _, ⟨T4, L4, k4, n4⟩, -, X4, ⟨Lc4, hQ4, l4, y4, z4⟩, st4⟩ := X0.virtualBackUp hx (x := (⟨"com/example/axisplan/axisplan/query/Comparison$Relation", "ordinal", "()I"⟩ : MethodName)) (y := (⟨"java/lang/Enum", "ordinal", "()I"⟩ : MethodName)) (owner := "java/lang/Enum") hown (mvT hZ (hw _ (List.mem_of_getElem? (i := 13) rfl))) (mvT hZ (hw _ (List.mem_of_getElem? (i := 14) rfl))) (mvT hZ (hw _ (List.mem_of_getElem? (i := 15) rfl))) (by decide) (mvT hZ (hw _ (List.mem_of_getElem? (i := 17) rfl))) (mvT hZ (hw _ (List.mem_of_getElem? (i := 16) rfl))) (backOf (W := 0) (rm3 l Z a0 hw [] a1 (0 : Int32) h0 n0 Z0 O_a1) hZ (hw _ (List.mem_of_getElem? (i := 19) rfl)) (hw _ (List.mem_of_getElem? (i := 18) rfl)) (by decide) (by decide)) q4a q4c (g := (mkF m 1 #[.val (.ref a1), .val (.double d2), .second, .val (.double d3), .second] [(.ref a1)])) rfl (by rw [hml]; rfl) (Steps.refl _) (argsL := []) (rest := []) (lenOf pd_2_2 rfl) rfl (by show 2 * 0 + _ ≤ _; exact Nat.le_of_eq rfl) (hb hby d2_1) (fun _ _ => ⟨rfl, e0, (by decide : 0 + 0 ≤ _), (by decide : 0 + 0 ≤ _)⟩)
  dsimp only [Pt.U, Pt.locs, Pt.cells, Pt.slots] at X4 l4 y4 z4 st4 hQ4
  subst l4 y4 z4
  obtain ⟨rfl, N4q, e4⟩ := hQ4
  have N4 := Fr.app N0 N4q
  obtain ⟨fs, hr, hrun, hended, hW, hsame⟩ := X4.leave (v := some (.int (1 : Int32))) (fun h => by rw [Bd.returns] at h; cases h)
  refine ⟨_, _, pre0 _ ?_, hrun, hended, _, _, rfl, ?_, ⟨_, rfl⟩, hW, hsame.mono (by decide) (by decide)⟩
  -- 4. STEPS
  · show Steps p.tables e below (s₁.setTop (mkF m 0 #[.val (.ref a1), .val (.double d2), .second, .val (.double d3), .second] [])) _
    refine XS.aloadN X0.here hx rfl (hb hby d2_0) rfl rfl ?_
    show Steps p.tables e below (s₁.setTop (mkF m 1 #[.val (.ref a1), .val (.double d2), .second, .val (.double d3), .second] [(.ref a1)])) _
    refine st4.trans ?_
    show Steps p.tables e below (T4.setTop (mkF m 4 #[.val (.ref a1), .val (.double d2), .second, .val (.double d3), .second] [(.int (0 : Int32))])) _
    refine XS.tswIn X4.here hx rfl (i := (0 : Int32)) (pc0 := 4) (pc' := 54) (o := 50) rfl (hb hby d2_4) rfl (by rw [show (0 : Int32) = (0 : Int32) from (rfl : (0 : Int32) = (0 : Int32))]; decide) (by rw [show (0 : Int32) = (0 : Int32) from (rfl : (0 : Int32) = (0 : Int32))]; rfl) (by decide) (by decide) ?_
    show Steps p.tables e below (T4.setTop (mkF m 54 #[.val (.ref a1), .val (.double d2), .second, .val (.double d3), .second] [])) _
    refine XS.dloadN X4.here hx rfl (hb hby d2_54) rfl ?_
    show Steps p.tables e below (T4.setTop (mkF m 55 #[.val (.ref a1), .val (.double d2), .second, .val (.double d3), .second] [(.double d2)])) _
    refine XS.dloadN X4.here hx rfl (hb hby d2_55) rfl ?_
    show Steps p.tables e below (T4.setTop (mkF m 56 #[.val (.ref a1), .val (.double d2), .second, .val (.double d3), .second] [(.double d3), (.double d2)])) _
    refine XS.dcmpS X4.here hx rfl (hb hby d2_56) rfl rfl ?_
    show Steps p.tables e below (T4.setTop (mkF m 57 #[.val (.ref a1), .val (.double d2), .second, .val (.double d3), .second] [(.int (cmpValue (FP.dcmp d2 d3) .l))])) _
    refine XS.ifNo X4.here hx rfl (hb hby d2_57) rfl ((if0 _ _).trans (teq hc57).2) ?_
    show Steps p.tables e below (T4.setTop (mkF m 60 #[.val (.ref a1), .val (.double d2), .second, .val (.double d3), .second] [])) _
    refine XS.iconst X4.here hx rfl (hb hby d2_60) ?_
    show Steps p.tables e below (T4.setTop (mkF m 61 #[.val (.ref a1), .val (.double d2), .second, .val (.double d3), .second] [(.int (1 : Int32))])) _
    refine XS.goto X4.here hx rfl (pc0 := 61) (pc' := 135) rfl (hb hby d2_61) (by decide) (by decide) ?_
    show Steps p.tables e below (T4.setTop (mkF m 135 #[.val (.ref a1), .val (.double d2), .second, .val (.double d3), .second] [(.int (1 : Int32))])) _
    exact retN X4 hx (t := .boolean) Bd.returns (by simp) (hb hby d2_135) hr
  · show Qv (some (.int (1 : Int32))) h0 n0 _ T4.heap _
    exact ⟨rfl, N4, e4⟩
theorem d2_64 : decode prog_24_method_8_code 64 = .ok (.iconst 0, 1) := by decide +kernel
theorem d2_65 : decode prog_24_method_8_code 65 = .ok (.goto 70, 3) := by decide +kernel
set_option maxRecDepth 65536 in
set_option maxHeartbeats 40000000 in
theorem rm2_0t (l : Launch) (Z : State) (a0 : Array Value) (hw : ∀ d ∈ tables_1, d.before a0 Z = true) (ws : List Jvm.Cond) (a1 : Addr) (d2 : UInt64) (d3 : UInt64) (h0 : Heap) (n0 : Nat) (Z0 : n0 ≤ h0.size) (O_a1 : Fld Z h0 a1 "java/lang/Enum" "ordinal" "I" (.int (0 : Int32))) (E_a1 : Exa Z h0 a1 "com/example/axisplan/axisplan/query/Comparison$Relation") (hc57 : ¬ ((cmpValue (FP.dcmp d2 d3) .l) = (0 : Int32))) :
    MetFree l (⟨"com/example/axisplan/axisplan/query/Comparison$Relation", "holds", "(DD)Z"⟩ : MethodName) (head1 (Jvm.Cond.code (⟨"com/example/axisplan/axisplan/query/Comparison$Relation", "holds", "(DD)Z"⟩ : MethodName) prog_24_method_8_code 5 (some .boolean) :: ws) ({ frames := 1, cells := 0, slots := 0, locals := 12 } : Room)) (fun a U => a = #[(.ref a1), (.double d2), (.double d3)] ∧ Z.Warmed39 U.vm ∧ U.heap = h0) (fun _ _ _ _ _ => True) (fun _ U o U' => ∃ v L, o = .returned v ∧ Qv (some (.int (0 : Int32))) h0 n0 v U'.heap L ∧ FrameEnd U o U' L ({ frames := 1, cells := 0, slots := 0, locals := 12 } : Room).cells ({ frames := 1, cells := 0, slots := 0, locals := 12 } : Room).slots) := by
  refine MetFree.of_bodySF (plainFor_of_name pn_2) hisR ?_
  intro p e s m args below meth c s₁ Bd hml0 hP hK
  obtain ⟨rfl, hZ, hh⟩ := hP
  have hx := Bd.exec
  have hby := Bd.bytes
  have hml : c.maxLocals = 5 := hml0
  have hown : s.vm.findClass "com/example/axisplan/axisplan/query/Comparison$Relation" = some m.cls := findClass_of_methodNamed Bd.named
  have hnm := (name_of_methodNamed Bd.named Bd.method).1
  have X0 : Stand p l e ({ frames := 1, cells := 0, slots := 0, locals := 12 } : Room) s m #[(.ref a1), (.double d2), (.double d3)] below meth c s₁ [] 0 0 := Stand.of_body Bd
  have e0 : s₁.heap = h0 := by rw [← hh, Bd.state]; rfl
  have N0 := Fr.nil n0
  have pre0 : ∀ t, Steps p.tables e below (s₁.setTop (mkF m 0 #[.val (.ref a1), .val (.double d2), .second, .val (.double d3), .second] [])) t → Steps p.tables e below (s₁.setTop (entryFrame m #[(.ref a1), (.double d2), (.double d3)] 5)) t := fun t k => castTop (ef_2 m a1 d2 d3) k
  -- 3. LAWS
  -- pc 1: com/example/axisplan/axisplan/query/Comparison$Relation.ordinal by the contract of the body that the receiver's class selects, rm3
  obtain ⟨cq4, kq4, q4a, q4b, q4c⟩ := isOf hZ e0 E_a1
  obtain ⟨_, _, ⟨T4, L4, k4, n4⟩, -, X4, ⟨Lc4, hQ4, l4, y4, z4⟩, st4⟩ := X0.virtualBackUp hx (x := (⟨"com/example/axisplan/axisplan/query/Comparison$Relation", "ordinal", "()I"⟩ : MethodName)) (y := (⟨"java/lang/Enum", "ordinal", "()I"⟩ : MethodName)) (owner := "java/lang/Enum") hown (mvT hZ (hw _ (List.mem_of_getElem? (i := 13) rfl))) (mvT hZ (hw _ (List.mem_of_getElem? (i := 14) rfl))) (mvT hZ (hw _ (List.mem_of_getElem? (i := 15) rfl))) (by decide) (mvT hZ (hw _ (List.mem_of_getElem? (i := 17) rfl))) (mvT hZ (hw _ (List.mem_of_getElem? (i := 16) rfl))) (backOf (W := 0) (rm3 l Z a0 hw [] a1 (0 : Int32) h0 n0 Z0 O_a1) hZ (hw _ (List.mem_of_getElem? (i := 19) rfl)) (hw _ (List.mem_of_getElem? (i := 18) rfl)) (by decide) (by decide)) q4a q4c (g := (mkF m 1 #[.val (.ref a1), .val (.double d2), .second, .val (.double d3), .second] [(.ref a1)])) rfl (by rw [hml]; rfl) (Steps.refl _) (argsL := []) (rest := []) (lenOf pd_2_2 rfl) rfl (by show 2 * 0 + _ ≤ _; exact Nat.le_of_eq rfl) (hb hby d2_1) (fun _ _ => ⟨rfl, e0, (by decide : 0 + 0 ≤ _), (by decide : 0 + 0 ≤ _)⟩)
  dsimp only [Pt.U, Pt.locs, Pt.cells, Pt.slots] at X4 l4 y4 z4 st4 hQ4
  subst l4 y4 z4
  obtain ⟨rfl, N4q, e4⟩ := hQ4
  have N4 := Fr.app N0 N4q
  obtain ⟨fs, hr, hrun, hended, hW, hsame⟩ := X4.leave (v := some (.int (0 : Int32))) (fun h => by rw [Bd.returns] at h; cases h)
  refine ⟨_, _, pre0 _ ?_, hrun, hended, _, _, rfl, ?_, ⟨_, rfl⟩, hW, hsame.mono (by decide) (by decide)⟩
  -- 4. STEPS
  · show Steps p.tables e below (s₁.setTop (mkF m 0 #[.val (.ref a1), .val (.double d2), .second, .val (.double d3), .second] [])) _
    refine XS.aloadN X0.here hx rfl (hb hby d2_0) rfl rfl ?_
    show Steps p.tables e below (s₁.setTop (mkF m 1 #[.val (.ref a1), .val (.double d2), .second, .val (.double d3), .second] [(.ref a1)])) _
    refine st4.trans ?_
    show Steps p.tables e below (T4.setTop (mkF m 4 #[.val (.ref a1), .val (.double d2), .second, .val (.double d3), .second] [(.int (0 : Int32))])) _
    refine XS.tswIn X4.here hx rfl (i := (0 : Int32)) (pc0 := 4) (pc' := 54) (o := 50) rfl (hb hby d2_4) rfl (by rw [show (0 : Int32) = (0 : Int32) from (rfl : (0 : Int32) = (0 : Int32))]; decide) (by rw [show (0 : Int32) = (0 : Int32) from (rfl : (0 : Int32) = (0 : Int32))]; rfl) (by decide) (by decide) ?_
    show Steps p.tables e below (T4.setTop (mkF m 54 #[.val (.ref a1), .val (.double d2), .second, .val (.double d3), .second] [])) _
    refine XS.dloadN X4.here hx rfl (hb hby d2_54) rfl ?_
    show Steps p.tables e below (T4.setTop (mkF m 55 #[.val (.ref a1), .val (.double d2), .second, .val (.double d3), .second] [(.double d2)])) _
    refine XS.dloadN X4.here hx rfl (hb hby d2_55) rfl ?_
    show Steps p.tables e below (T4.setTop (mkF m 56 #[.val (.ref a1), .val (.double d2), .second, .val (.double d3), .second] [(.double d3), (.double d2)])) _
    refine XS.dcmpS X4.here hx rfl (hb hby d2_56) rfl rfl ?_
    show Steps p.tables e below (T4.setTop (mkF m 57 #[.val (.ref a1), .val (.double d2), .second, .val (.double d3), .second] [(.int (cmpValue (FP.dcmp d2 d3) .l))])) _
    refine XS.ifYes X4.here hx rfl (pc0 := 57) (pc' := 64) rfl (hb hby d2_57) rfl ((if0 _ _).trans (feq hc57).2) (by decide) (by decide) ?_
    show Steps p.tables e below (T4.setTop (mkF m 64 #[.val (.ref a1), .val (.double d2), .second, .val (.double d3), .second] [])) _
    refine XS.iconst X4.here hx rfl (hb hby d2_64) ?_
    show Steps p.tables e below (T4.setTop (mkF m 65 #[.val (.ref a1), .val (.double d2), .second, .val (.double d3), .second] [(.int (0 : Int32))])) _
    refine XS.goto X4.here hx rfl (pc0 := 65) (pc' := 135) rfl (hb hby d2_65) (by decide) (by decide) ?_
    show Steps p.tables e below (T4.setTop (mkF m 135 #[.val (.ref a1), .val (.double d2), .second, .val (.double d3), .second] [(.int (0 : Int32))])) _
    exact retN X4 hx (t := .boolean) Bd.returns (by simp) (hb hby d2_135) hr
  · show Qv (some (.int (0 : Int32))) h0 n0 _ T4.heap _
    exact ⟨rfl, N4, e4⟩
theorem d2_68 : decode prog_24_method_8_code 68 = .ok (.dload_n 1, 1) := by decide +kernel
theorem d2_69 : decode prog_24_method_8_code 69 = .ok (.dload_n 3, 1) := by decide +kernel
theorem d2_70 : decode prog_24_method_8_code 70 = .ok (.dcmp .l, 1) := by decide +kernel
theorem d2_71 : decode prog_24_method_8_code 71 = .ok (.ifCond .eq 7, 3) := by decide +kernel
theorem d2_74 : decode prog_24_method_8_code 74 = .ok (.iconst 1, 1) := by decide +kernel
theorem d2_75 : decode prog_24_method_8_code 75 = .ok (.goto 60, 3) := by decide +kernel
set_option maxRecDepth 65536 in
set_option maxHeartbeats 40000000 in
theorem rm2_1f (l : Launch) (Z : State) (a0 : Array Value) (hw : ∀ d ∈ tables_1, d.before a0 Z = true) (ws : List Jvm.Cond) (a1 : Addr) (d2 : UInt64) (d3 : UInt64) (h0 : Heap) (n0 : Nat) (Z0 : n0 ≤ h0.size) (O_a1 : Fld Z h0 a1 "java/lang/Enum" "ordinal" "I" (.int (1 : Int32))) (E_a1 : Exa Z h0 a1 "com/example/axisplan/axisplan/query/Comparison$Relation") (hc71 : ¬ ((cmpValue (FP.dcmp d2 d3) .l) = (0 : Int32))) :
    MetFree l (⟨"com/example/axisplan/axisplan/query/Comparison$Relation", "holds", "(DD)Z"⟩ : MethodName) (head1 (Jvm.Cond.code (⟨"com/example/axisplan/axisplan/query/Comparison$Relation", "holds", "(DD)Z"⟩ : MethodName) prog_24_method_8_code 5 (some .boolean) :: ws) ({ frames := 1, cells := 0, slots := 0, locals := 12 } : Room)) (fun a U => a = #[(.ref a1), (.double d2), (.double d3)] ∧ Z.Warmed39 U.vm ∧ U.heap = h0) (fun _ _ _ _ _ => True) (fun _ U o U' => ∃ v L, o = .returned v ∧ Qv (some (.int (1 : Int32))) h0 n0 v U'.heap L ∧ FrameEnd U o U' L ({ frames := 1, cells := 0, slots := 0, locals := 12 } : Room).cells ({ frames := 1, cells := 0, slots := 0, locals := 12 } : Room).slots) := by
  refine MetFree.of_bodySF (plainFor_of_name pn_2) hisR ?_
  intro p e s m args below meth c s₁ Bd hml0 hP hK
  obtain ⟨rfl, hZ, hh⟩ := hP
  have hx := Bd.exec
  have hby := Bd.bytes
  have hml : c.maxLocals = 5 := hml0
  have hown : s.vm.findClass "com/example/axisplan/axisplan/query/Comparison$Relation" = some m.cls := findClass_of_methodNamed Bd.named
  have hnm := (name_of_methodNamed Bd.named Bd.method).1
  have X0 : Stand p l e ({ frames := 1, cells := 0, slots := 0, locals := 12 } : Room) s m #[(.ref a1), (.double d2), (.double d3)] below meth c s₁ [] 0 0 := Stand.of_body Bd
  have e0 : s₁.heap = h0 := by rw [← hh, Bd.state]; rfl
  have N0 := Fr.nil n0
  have pre0 : ∀ t, Steps p.tables e below (s₁.setTop (mkF m 0 #[.val (.ref a1), .val (.double d2), .second, .val (.double d3), .second] [])) t → Steps p.tables e below (s₁.setTop (entryFrame m #[(.ref a1), (.double d2), (.double d3)] 5)) t := fun t k => castTop (ef_2 m a1 d2 d3) k
  -- 3. LAWS
  -- pc 1: com/example/axisplan/axisplan/query/Comparison$Relation.ordinal by the contract of the body that the receiver's class selects, rm3
  obtain ⟨cq4, kq4, q4a, q4b, q4c⟩ := isOf hZ e0 E_a1
  obtain ⟨_, _, ⟨T4, L4, k4, n4⟩, -, X4, ⟨Lc4, hQ4, l4, y4, z4⟩, st4⟩ := X0.virtualBackUp hx (x := (⟨"com/example/axisplan/axisplan/query/Comparison$Relation", "ordinal", "()I"⟩ : MethodName)) (y := (⟨"java/lang/Enum", "ordinal", "()I"⟩ : MethodName)) (owner := "java/lang/Enum") hown (mvT hZ (hw _ (List.mem_of_getElem? (i := 13) rfl))) (mvT hZ (hw _ (List.mem_of_getElem? (i := 14) rfl))) (mvT hZ (hw _ (List.mem_of_getElem? (i := 15) rfl))) (by decide) (mvT hZ (hw _ (List.mem_of_getElem? (i := 17) rfl))) (mvT hZ (hw _ (List.mem_of_getElem? (i := 16) rfl))) (backOf (W := 0) (rm3 l Z a0 hw [] a1 (1 : Int32) h0 n0 Z0 O_a1) hZ (hw _ (List.mem_of_getElem? (i := 19) rfl)) (hw _ (List.mem_of_getElem? (i := 18) rfl)) (by decide) (by decide)) q4a q4c (g := (mkF m 1 #[.val (.ref a1), .val (.double d2), .second, .val (.double d3), .second] [(.ref a1)])) rfl (by rw [hml]; rfl) (Steps.refl _) (argsL := []) (rest := []) (lenOf pd_2_2 rfl) rfl (by show 2 * 0 + _ ≤ _; exact Nat.le_of_eq rfl) (hb hby d2_1) (fun _ _ => ⟨rfl, e0, (by decide : 0 + 0 ≤ _), (by decide : 0 + 0 ≤ _)⟩)
  dsimp only [Pt.U, Pt.locs, Pt.cells, Pt.slots] at X4 l4 y4 z4 st4 hQ4
  subst l4 y4 z4
  obtain ⟨rfl, N4q, e4⟩ := hQ4
  have N4 := Fr.app N0 N4q
  obtain ⟨fs, hr, hrun, hended, hW, hsame⟩ := X4.leave (v := some (.int (1 : Int32))) (fun h => by rw [Bd.returns] at h; cases h)
  refine ⟨_, _, pre0 _ ?_, hrun, hended, _, _, rfl, ?_, ⟨_, rfl⟩, hW, hsame.mono (by decide) (by decide)⟩
  -- 4. STEPS
  · show Steps p.tables e below (s₁.setTop (mkF m 0 #[.val (.ref a1), .val (.double d2), .second, .val (.double d3), .second] [])) _
    refine XS.aloadN X0.here hx rfl (hb hby d2_0) rfl rfl ?_
    show Steps p.tables e below (s₁.setTop (mkF m 1 #[.val (.ref a1), .val (.double d2), .second, .val (.double d3), .second] [(.ref a1)])) _
    refine st4.trans ?_
    show Steps p.tables e below (T4.setTop (mkF m 4 #[.val (.ref a1), .val (.double d2), .second, .val (.double d3), .second] [(.int (1 : Int32))])) _
    refine XS.tswIn X4.here hx rfl (i := (1 : Int32)) (pc0 := 4) (pc' := 68) (o := 64) rfl (hb hby d2_4) rfl (by rw [show (1 : Int32) = (1 : Int32) from (rfl : (1 : Int32) = (1 : Int32))]; decide) (by rw [show (1 : Int32) = (1 : Int32) from (rfl : (1 : Int32) = (1 : Int32))]; rfl) (by decide) (by decide) ?_
    show Steps p.tables e below (T4.setTop (mkF m 68 #[.val (.ref a1), .val (.double d2), .second, .val (.double d3), .second] [])) _
    refine XS.dloadN X4.here hx rfl (hb hby d2_68) rfl ?_
    show Steps p.tables e below (T4.setTop (mkF m 69 #[.val (.ref a1), .val (.double d2), .second, .val (.double d3), .second] [(.double d2)])) _
    refine XS.dloadN X4.here hx rfl (hb hby d2_69) rfl ?_
    show Steps p.tables e below (T4.setTop (mkF m 70 #[.val (.ref a1), .val (.double d2), .second, .val (.double d3), .second] [(.double d3), (.double d2)])) _
    refine XS.dcmpS X4.here hx rfl (hb hby d2_70) rfl rfl ?_
    show Steps p.tables e below (T4.setTop (mkF m 71 #[.val (.ref a1), .val (.double d2), .second, .val (.double d3), .second] [(.int (cmpValue (FP.dcmp d2 d3) .l))])) _
    refine XS.ifNo X4.here hx rfl (hb hby d2_71) rfl ((if0 _ _).trans (feq hc71).1) ?_
    show Steps p.tables e below (T4.setTop (mkF m 74 #[.val (.ref a1), .val (.double d2), .second, .val (.double d3), .second] [])) _
    refine XS.iconst X4.here hx rfl (hb hby d2_74) ?_
    show Steps p.tables e below (T4.setTop (mkF m 75 #[.val (.ref a1), .val (.double d2), .second, .val (.double d3), .second] [(.int (1 : Int32))])) _
    refine XS.goto X4.here hx rfl (pc0 := 75) (pc' := 135) rfl (hb hby d2_75) (by decide) (by decide) ?_
    show Steps p.tables e below (T4.setTop (mkF m 135 #[.val (.ref a1), .val (.double d2), .second, .val (.double d3), .second] [(.int (1 : Int32))])) _
    exact retN X4 hx (t := .boolean) Bd.returns (by simp) (hb hby d2_135) hr
  · show Qv (some (.int (1 : Int32))) h0 n0 _ T4.heap _
    exact ⟨rfl, N4, e4⟩
theorem d2_78 : decode prog_24_method_8_code 78 = .ok (.iconst 0, 1) := by decide +kernel
theorem d2_79 : decode prog_24_method_8_code 79 = .ok (.goto 56, 3) := by decide +kernel
set_option maxRecDepth 65536 in
set_option maxHeartbeats 40000000 in
theorem rm2_1t (l : Launch) (Z : State) (a0 : Array Value) (hw : ∀ d ∈ tables_1, d.before a0 Z = true) (ws : List Jvm.Cond) (a1 : Addr) (d2 : UInt64) (d3 : UInt64) (h0 : Heap) (n0 : Nat) (Z0 : n0 ≤ h0.size) (O_a1 : Fld Z h0 a1 "java/lang/Enum" "ordinal" "I" (.int (1 : Int32))) (E_a1 : Exa Z h0 a1 "com/example/axisplan/axisplan/query/Comparison$Relation") (hc71 : (cmpValue (FP.dcmp d2 d3) .l) = (0 : Int32)) :
    MetFree l (⟨"com/example/axisplan/axisplan/query/Comparison$Relation", "holds", "(DD)Z"⟩ : MethodName) (head1 (Jvm.Cond.code (⟨"com/example/axisplan/axisplan/query/Comparison$Relation", "holds", "(DD)Z"⟩ : MethodName) prog_24_method_8_code 5 (some .boolean) :: ws) ({ frames := 1, cells := 0, slots := 0, locals := 12 } : Room)) (fun a U => a = #[(.ref a1), (.double d2), (.double d3)] ∧ Z.Warmed39 U.vm ∧ U.heap = h0) (fun _ _ _ _ _ => True) (fun _ U o U' => ∃ v L, o = .returned v ∧ Qv (some (.int (0 : Int32))) h0 n0 v U'.heap L ∧ FrameEnd U o U' L ({ frames := 1, cells := 0, slots := 0, locals := 12 } : Room).cells ({ frames := 1, cells := 0, slots := 0, locals := 12 } : Room).slots) := by
  refine MetFree.of_bodySF (plainFor_of_name pn_2) hisR ?_
  intro p e s m args below meth c s₁ Bd hml0 hP hK
  obtain ⟨rfl, hZ, hh⟩ := hP
  have hx := Bd.exec
  have hby := Bd.bytes
  have hml : c.maxLocals = 5 := hml0
  have hown : s.vm.findClass "com/example/axisplan/axisplan/query/Comparison$Relation" = some m.cls := findClass_of_methodNamed Bd.named
  have hnm := (name_of_methodNamed Bd.named Bd.method).1
  have X0 : Stand p l e ({ frames := 1, cells := 0, slots := 0, locals := 12 } : Room) s m #[(.ref a1), (.double d2), (.double d3)] below meth c s₁ [] 0 0 := Stand.of_body Bd
  have e0 : s₁.heap = h0 := by rw [← hh, Bd.state]; rfl
  have N0 := Fr.nil n0
  have pre0 : ∀ t, Steps p.tables e below (s₁.setTop (mkF m 0 #[.val (.ref a1), .val (.double d2), .second, .val (.double d3), .second] [])) t → Steps p.tables e below (s₁.setTop (entryFrame m #[(.ref a1), (.double d2), (.double d3)] 5)) t := fun t k => castTop (ef_2 m a1 d2 d3) k
  -- 3. LAWS
  -- pc 1: com/example/axisplan/axisplan/query/Comparison$Relation.ordinal by the contract of the body that the receiver's class selects, rm3
  obtain ⟨cq4, kq4, q4a, q4b, q4c⟩ := isOf hZ e0 E_a1
  obtain ⟨_, _, ⟨T4, L4, k4, n4⟩, -, X4, ⟨Lc4, hQ4, l4, y4, z4⟩, st4⟩ := X0.virtualBackUp hx (x := (⟨"com/example/axisplan/axisplan/query/Comparison$Relation", "ordinal", "()I"⟩ : MethodName)) (y := (⟨"java/lang/Enum", "ordinal", "()I"⟩ : MethodName)) (owner := "java/lang/Enum") hown (mvT hZ (hw _ (List.mem_of_getElem? (i := 13) rfl))) (mvT hZ (hw _ (List.mem_of_getElem? (i := 14) rfl))) (mvT hZ (hw _ (List.mem_of_getElem? (i := 15) rfl))) (by decide) (mvT hZ (hw _ (List.mem_of_getElem? (i := 17) rfl))) (mvT hZ (hw _ (List.mem_of_getElem? (i := 16) rfl))) (backOf (W := 0) (rm3 l Z a0 hw [] a1 (1 : Int32) h0 n0 Z0 O_a1) hZ (hw _ (List.mem_of_getElem? (i := 19) rfl)) (hw _ (List.mem_of_getElem? (i := 18) rfl)) (by decide) (by decide)) q4a q4c (g := (mkF m 1 #[.val (.ref a1), .val (.double d2), .second, .val (.double d3), .second] [(.ref a1)])) rfl (by rw [hml]; rfl) (Steps.refl _) (argsL := []) (rest := []) (lenOf pd_2_2 rfl) rfl (by show 2 * 0 + _ ≤ _; exact Nat.le_of_eq rfl) (hb hby d2_1) (fun _ _ => ⟨rfl, e0, (by decide : 0 + 0 ≤ _), (by decide : 0 + 0 ≤ _)⟩)
  dsimp only [Pt.U, Pt.locs, Pt.cells, Pt.slots] at X4 l4 y4 z4 st4 hQ4
  subst l4 y4 z4
  obtain ⟨rfl, N4q, e4⟩ := hQ4
  have N4 := Fr.app N0 N4q
  obtain ⟨fs, hr, hrun, hended, hW, hsame⟩ := X4.leave (v := some (.int (0 : Int32))) (fun h => by rw [Bd.returns] at h; cases h)
  refine ⟨_, _, pre0 _ ?_, hrun, hended, _, _, rfl, ?_, ⟨_, rfl⟩, hW, hsame.mono (by decide) (by decide)⟩
  -- 4. STEPS
  · show Steps p.tables e below (s₁.setTop (mkF m 0 #[.val (.ref a1), .val (.double d2), .second, .val (.double d3), .second] [])) _
    refine XS.aloadN X0.here hx rfl (hb hby d2_0) rfl rfl ?_
    show Steps p.tables e below (s₁.setTop (mkF m 1 #[.val (.ref a1), .val (.double d2), .second, .val (.double d3), .second] [(.ref a1)])) _
    refine st4.trans ?_
    show Steps p.tables e below (T4.setTop (mkF m 4 #[.val (.ref a1), .val (.double d2), .second, .val (.double d3), .second] [(.int (1 : Int32))])) _
    refine XS.tswIn X4.here hx rfl (i := (1 : Int32)) (pc0 := 4) (pc' := 68) (o := 64) rfl (hb hby d2_4) rfl (by rw [show (1 : Int32) = (1 : Int32) from (rfl : (1 : Int32) = (1 : Int32))]; decide) (by rw [show (1 : Int32) = (1 : Int32) from (rfl : (1 : Int32) = (1 : Int32))]; rfl) (by decide) (by decide) ?_
    show Steps p.tables e below (T4.setTop (mkF m 68 #[.val (.ref a1), .val (.double d2), .second, .val (.double d3), .second] [])) _
    refine XS.dloadN X4.here hx rfl (hb hby d2_68) rfl ?_
    show Steps p.tables e below (T4.setTop (mkF m 69 #[.val (.ref a1), .val (.double d2), .second, .val (.double d3), .second] [(.double d2)])) _
    refine XS.dloadN X4.here hx rfl (hb hby d2_69) rfl ?_
    show Steps p.tables e below (T4.setTop (mkF m 70 #[.val (.ref a1), .val (.double d2), .second, .val (.double d3), .second] [(.double d3), (.double d2)])) _
    refine XS.dcmpS X4.here hx rfl (hb hby d2_70) rfl rfl ?_
    show Steps p.tables e below (T4.setTop (mkF m 71 #[.val (.ref a1), .val (.double d2), .second, .val (.double d3), .second] [(.int (cmpValue (FP.dcmp d2 d3) .l))])) _
    refine XS.ifYes X4.here hx rfl (pc0 := 71) (pc' := 78) rfl (hb hby d2_71) rfl ((if0 _ _).trans (teq hc71).1) (by decide) (by decide) ?_
    show Steps p.tables e below (T4.setTop (mkF m 78 #[.val (.ref a1), .val (.double d2), .second, .val (.double d3), .second] [])) _
    refine XS.iconst X4.here hx rfl (hb hby d2_78) ?_
    show Steps p.tables e below (T4.setTop (mkF m 79 #[.val (.ref a1), .val (.double d2), .second, .val (.double d3), .second] [(.int (0 : Int32))])) _
    refine XS.goto X4.here hx rfl (pc0 := 79) (pc' := 135) rfl (hb hby d2_79) (by decide) (by decide) ?_
    show Steps p.tables e below (T4.setTop (mkF m 135 #[.val (.ref a1), .val (.double d2), .second, .val (.double d3), .second] [(.int (0 : Int32))])) _
    exact retN X4 hx (t := .boolean) Bd.returns (by simp) (hb hby d2_135) hr
  · show Qv (some (.int (0 : Int32))) h0 n0 _ T4.heap _
    exact ⟨rfl, N4, e4⟩
theorem d2_82 : decode prog_24_method_8_code 82 = .ok (.dload_n 1, 1) := by decide +kernel
theorem d2_83 : decode prog_24_method_8_code 83 = .ok (.dload_n 3, 1) := by decide +kernel
theorem d2_84 : decode prog_24_method_8_code 84 = .ok (.dcmp .g, 1) := by decide +kernel
theorem d2_85 : decode prog_24_method_8_code 85 = .ok (.ifCond .ge 7, 3) := by decide +kernel
theorem d2_88 : decode prog_24_method_8_code 88 = .ok (.iconst 1, 1) := by decide +kernel
theorem d2_89 : decode prog_24_method_8_code 89 = .ok (.goto 46, 3) := by decide +kernel
set_option maxRecDepth 65536 in
set_option maxHeartbeats 40000000 in
theorem rm2_2f (l : Launch) (Z : State) (a0 : Array Value) (hw : ∀ d ∈ tables_1, d.before a0 Z = true) (ws : List Jvm.Cond) (a1 : Addr) (d2 : UInt64) (d3 : UInt64) (h0 : Heap) (n0 : Nat) (Z0 : n0 ≤ h0.size) (O_a1 : Fld Z h0 a1 "java/lang/Enum" "ordinal" "I" (.int (2 : Int32))) (E_a1 : Exa Z h0 a1 "com/example/axisplan/axisplan/query/Comparison$Relation") (hc85 : (cmpValue (FP.dcmp d2 d3) .g) < (0 : Int32)) :
    MetFree l (⟨"com/example/axisplan/axisplan/query/Comparison$Relation", "holds", "(DD)Z"⟩ : MethodName) (head1 (Jvm.Cond.code (⟨"com/example/axisplan/axisplan/query/Comparison$Relation", "holds", "(DD)Z"⟩ : MethodName) prog_24_method_8_code 5 (some .boolean) :: ws) ({ frames := 1, cells := 0, slots := 0, locals := 12 } : Room)) (fun a U => a = #[(.ref a1), (.double d2), (.double d3)] ∧ Z.Warmed39 U.vm ∧ U.heap = h0) (fun _ _ _ _ _ => True) (fun _ U o U' => ∃ v L, o = .returned v ∧ Qv (some (.int (1 : Int32))) h0 n0 v U'.heap L ∧ FrameEnd U o U' L ({ frames := 1, cells := 0, slots := 0, locals := 12 } : Room).cells ({ frames := 1, cells := 0, slots := 0, locals := 12 } : Room).slots) := by
  refine MetFree.of_bodySF (plainFor_of_name pn_2) hisR ?_
  intro p e s m args below meth c s₁ Bd hml0 hP hK
  obtain ⟨rfl, hZ, hh⟩ := hP
  have hx := Bd.exec
  have hby := Bd.bytes
  have hml : c.maxLocals = 5 := hml0
  have hown : s.vm.findClass "com/example/axisplan/axisplan/query/Comparison$Relation" = some m.cls := findClass_of_methodNamed Bd.named
  have hnm := (name_of_methodNamed Bd.named Bd.method).1
  have X0 : Stand p l e ({ frames := 1, cells := 0, slots := 0, locals := 12 } : Room) s m #[(.ref a1), (.double d2), (.double d3)] below meth c s₁ [] 0 0 := Stand.of_body Bd
  have e0 : s₁.heap = h0 := by rw [← hh, Bd.state]; rfl
  have N0 := Fr.nil n0
  have pre0 : ∀ t, Steps p.tables e below (s₁.setTop (mkF m 0 #[.val (.ref a1), .val (.double d2), .second, .val (.double d3), .second] [])) t → Steps p.tables e below (s₁.setTop (entryFrame m #[(.ref a1), (.double d2), (.double d3)] 5)) t := fun t k => castTop (ef_2 m a1 d2 d3) k
  -- 3. LAWS
  -- pc 1: com/example/axisplan/axisplan/query/Comparison$Relation.ordinal by the contract of the body that the receiver's class selects, rm3
  obtain ⟨cq4, kq4, q4a, q4b, q4c⟩ := isOf hZ e0 E_a1
  obtain ⟨_, _, ⟨T4, L4, k4, n4⟩, -, X4, ⟨Lc4, hQ4, l4, y4, z4⟩, st4⟩ := X0.virtualBackUp hx (x := (⟨"com/example/axisplan/axisplan/query/Comparison$Relation", "ordinal", "()I"⟩ : MethodName)) (y := (⟨"java/lang/Enum", "ordinal", "()I"⟩ : MethodName)) (owner := "java/lang/Enum") hown (mvT hZ (hw _ (List.mem_of_getElem? (i := 13) rfl))) (mvT hZ (hw _ (List.mem_of_getElem? (i := 14) rfl))) (mvT hZ (hw _ (List.mem_of_getElem? (i := 15) rfl))) (by decide) (mvT hZ (hw _ (List.mem_of_getElem? (i := 17) rfl))) (mvT hZ (hw _ (List.mem_of_getElem? (i := 16) rfl))) (backOf (W := 0) (rm3 l Z a0 hw [] a1 (2 : Int32) h0 n0 Z0 O_a1) hZ (hw _ (List.mem_of_getElem? (i := 19) rfl)) (hw _ (List.mem_of_getElem? (i := 18) rfl)) (by decide) (by decide)) q4a q4c (g := (mkF m 1 #[.val (.ref a1), .val (.double d2), .second, .val (.double d3), .second] [(.ref a1)])) rfl (by rw [hml]; rfl) (Steps.refl _) (argsL := []) (rest := []) (lenOf pd_2_2 rfl) rfl (by show 2 * 0 + _ ≤ _; exact Nat.le_of_eq rfl) (hb hby d2_1) (fun _ _ => ⟨rfl, e0, (by decide : 0 + 0 ≤ _), (by decide : 0 + 0 ≤ _)⟩)
  dsimp only [Pt.U, Pt.locs, Pt.cells, Pt.slots] at X4 l4 y4 z4 st4 hQ4
  subst l4 y4 z4
  obtain ⟨rfl, N4q, e4⟩ := hQ4
  have N4 := Fr.app N0 N4q
  obtain ⟨fs, hr, hrun, hended, hW, hsame⟩ := X4.leave (v := some (.int (1 : Int32))) (fun h => by rw [Bd.returns] at h; cases h)
  refine ⟨_, _, pre0 _ ?_, hrun, hended, _, _, rfl, ?_, ⟨_, rfl⟩, hW, hsame.mono (by decide) (by decide)⟩
  -- 4. STEPS
  · show Steps p.tables e below (s₁.setTop (mkF m 0 #[.val (.ref a1), .val (.double d2), .second, .val (.double d3), .second] [])) _
    refine XS.aloadN X0.here hx rfl (hb hby d2_0) rfl rfl ?_
    show Steps p.tables e below (s₁.setTop (mkF m 1 #[.val (.ref a1), .val (.double d2), .second, .val (.double d3), .second] [(.ref a1)])) _
    refine st4.trans ?_
    show Steps p.tables e below (T4.setTop (mkF m 4 #[.val (.ref a1), .val (.double d2), .second, .val (.double d3), .second] [(.int (2 : Int32))])) _
    refine XS.tswIn X4.here hx rfl (i := (2 : Int32)) (pc0 := 4) (pc' := 82) (o := 78) rfl (hb hby d2_4) rfl (by rw [show (2 : Int32) = (2 : Int32) from (rfl : (2 : Int32) = (2 : Int32))]; decide) (by rw [show (2 : Int32) = (2 : Int32) from (rfl : (2 : Int32) = (2 : Int32))]; rfl) (by decide) (by decide) ?_
    show Steps p.tables e below (T4.setTop (mkF m 82 #[.val (.ref a1), .val (.double d2), .second, .val (.double d3), .second] [])) _
    refine XS.dloadN X4.here hx rfl (hb hby d2_82) rfl ?_
    show Steps p.tables e below (T4.setTop (mkF m 83 #[.val (.ref a1), .val (.double d2), .second, .val (.double d3), .second] [(.double d2)])) _
    refine XS.dloadN X4.here hx rfl (hb hby d2_83) rfl ?_
    show Steps p.tables e below (T4.setTop (mkF m 84 #[.val (.ref a1), .val (.double d2), .second, .val (.double d3), .second] [(.double d3), (.double d2)])) _
    refine XS.dcmpS X4.here hx rfl (hb hby d2_84) rfl rfl ?_
    show Steps p.tables e below (T4.setTop (mkF m 85 #[.val (.ref a1), .val (.double d2), .second, .val (.double d3), .second] [(.int (cmpValue (FP.dcmp d2 d3) .g))])) _
    refine XS.ifNo X4.here hx rfl (hb hby d2_85) rfl ((if0 _ _).trans (tlt hc85).2.1) ?_
    show Steps p.tables e below (T4.setTop (mkF m 88 #[.val (.ref a1), .val (.double d2), .second, .val (.double d3), .second] [])) _
    refine XS.iconst X4.here hx rfl (hb hby d2_88) ?_
    show Steps p.tables e below (T4.setTop (mkF m 89 #[.val (.ref a1), .val (.double d2), .second, .val (.double d3), .second] [(.int (1 : Int32))])) _
    refine XS.goto X4.here hx rfl (pc0 := 89) (pc' := 135) rfl (hb hby d2_89) (by decide) (by decide) ?_
    show Steps p.tables e below (T4.setTop (mkF m 135 #[.val (.ref a1), .val (.double d2), .second, .val (.double d3), .second] [(.int (1 : Int32))])) _
    exact retN X4 hx (t := .boolean) Bd.returns (by simp) (hb hby d2_135) hr
  · show Qv (some (.int (1 : Int32))) h0 n0 _ T4.heap _
    exact ⟨rfl, N4, e4⟩
theorem d2_92 : decode prog_24_method_8_code 92 = .ok (.iconst 0, 1) := by decide +kernel
theorem d2_93 : decode prog_24_method_8_code 93 = .ok (.goto 42, 3) := by decide +kernel
set_option maxRecDepth 65536 in
set_option maxHeartbeats 40000000 in
theorem rm2_2t (l : Launch) (Z : State) (a0 : Array Value) (hw : ∀ d ∈ tables_1, d.before a0 Z = true) (ws : List Jvm.Cond) (a1 : Addr) (d2 : UInt64) (d3 : UInt64) (h0 : Heap) (n0 : Nat) (Z0 : n0 ≤ h0.size) (O_a1 : Fld Z h0 a1 "java/lang/Enum" "ordinal" "I" (.int (2 : Int32))) (E_a1 : Exa Z h0 a1 "com/example/axisplan/axisplan/query/Comparison$Relation") (hc85 : ¬ ((cmpValue (FP.dcmp d2 d3) .g) < (0 : Int32))) :
    MetFree l (⟨"com/example/axisplan/axisplan/query/Comparison$Relation", "holds", "(DD)Z"⟩ : MethodName) (head1 (Jvm.Cond.code (⟨"com/example/axisplan/axisplan/query/Comparison$Relation", "holds", "(DD)Z"⟩ : MethodName) prog_24_method_8_code 5 (some .boolean) :: ws) ({ frames := 1, cells := 0, slots := 0, locals := 12 } : Room)) (fun a U => a = #[(.ref a1), (.double d2), (.double d3)] ∧ Z.Warmed39 U.vm ∧ U.heap = h0) (fun _ _ _ _ _ => True) (fun _ U o U' => ∃ v L, o = .returned v ∧ Qv (some (.int (0 : Int32))) h0 n0 v U'.heap L ∧ FrameEnd U o U' L ({ frames := 1, cells := 0, slots := 0, locals := 12 } : Room).cells ({ frames := 1, cells := 0, slots := 0, locals := 12 } : Room).slots) := by
  refine MetFree.of_bodySF (plainFor_of_name pn_2) hisR ?_
  intro p e s m args below meth c s₁ Bd hml0 hP hK
  obtain ⟨rfl, hZ, hh⟩ := hP
  have hx := Bd.exec
  have hby := Bd.bytes
  have hml : c.maxLocals = 5 := hml0
  have hown : s.vm.findClass "com/example/axisplan/axisplan/query/Comparison$Relation" = some m.cls := findClass_of_methodNamed Bd.named
  have hnm := (name_of_methodNamed Bd.named Bd.method).1
  have X0 : Stand p l e ({ frames := 1, cells := 0, slots := 0, locals := 12 } : Room) s m #[(.ref a1), (.double d2), (.double d3)] below meth c s₁ [] 0 0 := Stand.of_body Bd
  have e0 : s₁.heap = h0 := by rw [← hh, Bd.state]; rfl
  have N0 := Fr.nil n0
  have pre0 : ∀ t, Steps p.tables e below (s₁.setTop (mkF m 0 #[.val (.ref a1), .val (.double d2), .second, .val (.double d3), .second] [])) t → Steps p.tables e below (s₁.setTop (entryFrame m #[(.ref a1), (.double d2), (.double d3)] 5)) t := fun t k => castTop (ef_2 m a1 d2 d3) k
  -- 3. LAWS
  -- pc 1: com/example/axisplan/axisplan/query/Comparison$Relation.ordinal by the contract of the body that the receiver's class selects, rm3
  obtain ⟨cq4, kq4, q4a, q4b, q4c⟩ := isOf hZ e0 E_a1
  obtain ⟨_, _, ⟨T4, L4, k4, n4⟩, -, X4, ⟨Lc4, hQ4, l4, y4, z4⟩, st4⟩ := X0.virtualBackUp hx (x := (⟨"com/example/axisplan/axisplan/query/Comparison$Relation", "ordinal", "()I"⟩ : MethodName)) (y := (⟨"java/lang/Enum", "ordinal", "()I"⟩ : MethodName)) (owner := "java/lang/Enum") hown (mvT hZ (hw _ (List.mem_of_getElem? (i := 13) rfl))) (mvT hZ (hw _ (List.mem_of_getElem? (i := 14) rfl))) (mvT hZ (hw _ (List.mem_of_getElem? (i := 15) rfl))) (by decide) (mvT hZ (hw _ (List.mem_of_getElem? (i := 17) rfl))) (mvT hZ (hw _ (List.mem_of_getElem? (i := 16) rfl))) (backOf (W := 0) (rm3 l Z a0 hw [] a1 (2 : Int32) h0 n0 Z0 O_a1) hZ (hw _ (List.mem_of_getElem? (i := 19) rfl)) (hw _ (List.mem_of_getElem? (i := 18) rfl)) (by decide) (by decide)) q4a q4c (g := (mkF m 1 #[.val (.ref a1), .val (.double d2), .second, .val (.double d3), .second] [(.ref a1)])) rfl (by rw [hml]; rfl) (Steps.refl _) (argsL := []) (rest := []) (lenOf pd_2_2 rfl) rfl (by show 2 * 0 + _ ≤ _; exact Nat.le_of_eq rfl) (hb hby d2_1) (fun _ _ => ⟨rfl, e0, (by decide : 0 + 0 ≤ _), (by decide : 0 + 0 ≤ _)⟩)
  dsimp only [Pt.U, Pt.locs, Pt.cells, Pt.slots] at X4 l4 y4 z4 st4 hQ4
  subst l4 y4 z4
  obtain ⟨rfl, N4q, e4⟩ := hQ4
  have N4 := Fr.app N0 N4q
  obtain ⟨fs, hr, hrun, hended, hW, hsame⟩ := X4.leave (v := some (.int (0 : Int32))) (fun h => by rw [Bd.returns] at h; cases h)
  refine ⟨_, _, pre0 _ ?_, hrun, hended, _, _, rfl, ?_, ⟨_, rfl⟩, hW, hsame.mono (by decide) (by decide)⟩
  -- 4. STEPS
  · show Steps p.tables e below (s₁.setTop (mkF m 0 #[.val (.ref a1), .val (.double d2), .second, .val (.double d3), .second] [])) _
    refine XS.aloadN X0.here hx rfl (hb hby d2_0) rfl rfl ?_
    show Steps p.tables e below (s₁.setTop (mkF m 1 #[.val (.ref a1), .val (.double d2), .second, .val (.double d3), .second] [(.ref a1)])) _
    refine st4.trans ?_
    show Steps p.tables e below (T4.setTop (mkF m 4 #[.val (.ref a1), .val (.double d2), .second, .val (.double d3), .second] [(.int (2 : Int32))])) _
    refine XS.tswIn X4.here hx rfl (i := (2 : Int32)) (pc0 := 4) (pc' := 82) (o := 78) rfl (hb hby d2_4) rfl (by rw [show (2 : Int32) = (2 : Int32) from (rfl : (2 : Int32) = (2 : Int32))]; decide) (by rw [show (2 : Int32) = (2 : Int32) from (rfl : (2 : Int32) = (2 : Int32))]; rfl) (by decide) (by decide) ?_
    show Steps p.tables e below (T4.setTop (mkF m 82 #[.val (.ref a1), .val (.double d2), .second, .val (.double d3), .second] [])) _
    refine XS.dloadN X4.here hx rfl (hb hby d2_82) rfl ?_
    show Steps p.tables e below (T4.setTop (mkF m 83 #[.val (.ref a1), .val (.double d2), .second, .val (.double d3), .second] [(.double d2)])) _
    refine XS.dloadN X4.here hx rfl (hb hby d2_83) rfl ?_
    show Steps p.tables e below (T4.setTop (mkF m 84 #[.val (.ref a1), .val (.double d2), .second, .val (.double d3), .second] [(.double d3), (.double d2)])) _
    refine XS.dcmpS X4.here hx rfl (hb hby d2_84) rfl rfl ?_
    show Steps p.tables e below (T4.setTop (mkF m 85 #[.val (.ref a1), .val (.double d2), .second, .val (.double d3), .second] [(.int (cmpValue (FP.dcmp d2 d3) .g))])) _
    refine XS.ifYes X4.here hx rfl (pc0 := 85) (pc' := 92) rfl (hb hby d2_85) rfl ((if0 _ _).trans (flt hc85).2.1) (by decide) (by decide) ?_
    show Steps p.tables e below (T4.setTop (mkF m 92 #[.val (.ref a1), .val (.double d2), .second, .val (.double d3), .second] [])) _
    refine XS.iconst X4.here hx rfl (hb hby d2_92) ?_
    show Steps p.tables e below (T4.setTop (mkF m 93 #[.val (.ref a1), .val (.double d2), .second, .val (.double d3), .second] [(.int (0 : Int32))])) _
    refine XS.goto X4.here hx rfl (pc0 := 93) (pc' := 135) rfl (hb hby d2_93) (by decide) (by decide) ?_
    show Steps p.tables e below (T4.setTop (mkF m 135 #[.val (.ref a1), .val (.double d2), .second, .val (.double d3), .second] [(.int (0 : Int32))])) _
    exact retN X4 hx (t := .boolean) Bd.returns (by simp) (hb hby d2_135) hr
  · show Qv (some (.int (0 : Int32))) h0 n0 _ T4.heap _
    exact ⟨rfl, N4, e4⟩
theorem d2_96 : decode prog_24_method_8_code 96 = .ok (.dload_n 1, 1) := by decide +kernel
theorem d2_97 : decode prog_24_method_8_code 97 = .ok (.dload_n 3, 1) := by decide +kernel
theorem d2_98 : decode prog_24_method_8_code 98 = .ok (.dcmp .g, 1) := by decide +kernel
theorem d2_99 : decode prog_24_method_8_code 99 = .ok (.ifCond .gt 7, 3) := by decide +kernel
theorem d2_102 : decode prog_24_method_8_code 102 = .ok (.iconst 1, 1) := by decide +kernel
theorem d2_103 : decode prog_24_method_8_code 103 = .ok (.goto 32, 3) := by decide +kernel
set_option maxRecDepth 65536 in
set_option maxHeartbeats 40000000 in
theorem rm2_3f (l : Launch) (Z : State) (a0 : Array Value) (hw : ∀ d ∈ tables_1, d.before a0 Z = true) (ws : List Jvm.Cond) (a1 : Addr) (d2 : UInt64) (d3 : UInt64) (h0 : Heap) (n0 : Nat) (Z0 : n0 ≤ h0.size) (O_a1 : Fld Z h0 a1 "java/lang/Enum" "ordinal" "I" (.int (3 : Int32))) (E_a1 : Exa Z h0 a1 "com/example/axisplan/axisplan/query/Comparison$Relation") (hc99 : ¬ ((0 : Int32) < (cmpValue (FP.dcmp d2 d3) .g))) :
    MetFree l (⟨"com/example/axisplan/axisplan/query/Comparison$Relation", "holds", "(DD)Z"⟩ : MethodName) (head1 (Jvm.Cond.code (⟨"com/example/axisplan/axisplan/query/Comparison$Relation", "holds", "(DD)Z"⟩ : MethodName) prog_24_method_8_code 5 (some .boolean) :: ws) ({ frames := 1, cells := 0, slots := 0, locals := 12 } : Room)) (fun a U => a = #[(.ref a1), (.double d2), (.double d3)] ∧ Z.Warmed39 U.vm ∧ U.heap = h0) (fun _ _ _ _ _ => True) (fun _ U o U' => ∃ v L, o = .returned v ∧ Qv (some (.int (1 : Int32))) h0 n0 v U'.heap L ∧ FrameEnd U o U' L ({ frames := 1, cells := 0, slots := 0, locals := 12 } : Room).cells ({ frames := 1, cells := 0, slots := 0, locals := 12 } : Room).slots) := by
  refine MetFree.of_bodySF (plainFor_of_name pn_2) hisR ?_
  intro p e s m args below meth c s₁ Bd hml0 hP hK
  obtain ⟨rfl, hZ, hh⟩ := hP
  have hx := Bd.exec
  have hby := Bd.bytes
  have hml : c.maxLocals = 5 := hml0
  have hown : s.vm.findClass "com/example/axisplan/axisplan/query/Comparison$Relation" = some m.cls := findClass_of_methodNamed Bd.named
  have hnm := (name_of_methodNamed Bd.named Bd.method).1
  have X0 : Stand p l e ({ frames := 1, cells := 0, slots := 0, locals := 12 } : Room) s m #[(.ref a1), (.double d2), (.double d3)] below meth c s₁ [] 0 0 := Stand.of_body Bd
  have e0 : s₁.heap = h0 := by rw [← hh, Bd.state]; rfl
  have N0 := Fr.nil n0
  have pre0 : ∀ t, Steps p.tables e below (s₁.setTop (mkF m 0 #[.val (.ref a1), .val (.double d2), .second, .val (.double d3), .second] [])) t → Steps p.tables e below (s₁.setTop (entryFrame m #[(.ref a1), (.double d2), (.double d3)] 5)) t := fun t k => castTop (ef_2 m a1 d2 d3) k
  -- 3. LAWS
  -- pc 1: com/example/axisplan/axisplan/query/Comparison$Relation.ordinal by the contract of the body that the receiver's class selects, rm3
  obtain ⟨cq4, kq4, q4a, q4b, q4c⟩ := isOf hZ e0 E_a1
  obtain ⟨_, _, ⟨T4, L4, k4, n4⟩, -, X4, ⟨Lc4, hQ4, l4, y4, z4⟩, st4⟩ := X0.virtualBackUp hx (x := (⟨"com/example/axisplan/axisplan/query/Comparison$Relation", "ordinal", "()I"⟩ : MethodName)) (y := (⟨"java/lang/Enum", "ordinal", "()I"⟩ : MethodName)) (owner := "java/lang/Enum") hown (mvT hZ (hw _ (List.mem_of_getElem? (i := 13) rfl))) (mvT hZ (hw _ (List.mem_of_getElem? (i := 14) rfl))) (mvT hZ (hw _ (List.mem_of_getElem? (i := 15) rfl))) (by decide) (mvT hZ (hw _ (List.mem_of_getElem? (i := 17) rfl))) (mvT hZ (hw _ (List.mem_of_getElem? (i := 16) rfl))) (backOf (W := 0) (rm3 l Z a0 hw [] a1 (3 : Int32) h0 n0 Z0 O_a1) hZ (hw _ (List.mem_of_getElem? (i := 19) rfl)) (hw _ (List.mem_of_getElem? (i := 18) rfl)) (by decide) (by decide)) q4a q4c (g := (mkF m 1 #[.val (.ref a1), .val (.double d2), .second, .val (.double d3), .second] [(.ref a1)])) rfl (by rw [hml]; rfl) (Steps.refl _) (argsL := []) (rest := []) (lenOf pd_2_2 rfl) rfl (by show 2 * 0 + _ ≤ _; exact Nat.le_of_eq rfl) (hb hby d2_1) (fun _ _ => ⟨rfl, e0, (by decide : 0 + 0 ≤ _), (by decide : 0 + 0 ≤ _)⟩)
  dsimp only [Pt.U, Pt.locs, Pt.cells, Pt.slots] at X4 l4 y4 z4 st4 hQ4
  subst l4 y4 z4
  obtain ⟨rfl, N4q, e4⟩ := hQ4
  have N4 := Fr.app N0 N4q
  obtain ⟨fs, hr, hrun, hended, hW, hsame⟩ := X4.leave (v := some (.int (1 : Int32))) (fun h => by rw [Bd.returns] at h; cases h)
  refine ⟨_, _, pre0 _ ?_, hrun, hended, _, _, rfl, ?_, ⟨_, rfl⟩, hW, hsame.mono (by decide) (by decide)⟩
  -- 4. STEPS
  · show Steps p.tables e below (s₁.setTop (mkF m 0 #[.val (.ref a1), .val (.double d2), .second, .val (.double d3), .second] [])) _
    refine XS.aloadN X0.here hx rfl (hb hby d2_0) rfl rfl ?_
    show Steps p.tables e below (s₁.setTop (mkF m 1 #[.val (.ref a1), .val (.double d2), .second, .val (.double d3), .second] [(.ref a1)])) _
    refine st4.trans ?_
    show Steps p.tables e below (T4.setTop (mkF m 4 #[.val (.ref a1), .val (.double d2), .second, .val (.double d3), .second] [(.int (3 : Int32))])) _
    refine XS.tswIn X4.here hx rfl (i := (3 : Int32)) (pc0 := 4) (pc' := 96) (o := 92) rfl (hb hby d2_4) rfl (by rw [show (3 : Int32) = (3 : Int32) from (rfl : (3 : Int32) = (3 : Int32))]; decide) (by rw [show (3 : Int32) = (3 : Int32) from (rfl : (3 : Int32) = (3 : Int32))]; rfl) (by decide) (by decide) ?_
    show Steps p.tables e below (T4.setTop (mkF m 96 #[.val (.ref a1), .val (.double d2), .second, .val (.double d3), .second] [])) _
    refine XS.dloadN X4.here hx rfl (hb hby d2_96) rfl ?_
    show Steps p.tables e below (T4.setTop (mkF m 97 #[.val (.ref a1), .val (.double d2), .second, .val (.double d3), .second] [(.double d2)])) _
    refine XS.dloadN X4.here hx rfl (hb hby d2_97) rfl ?_
    show Steps p.tables e below (T4.setTop (mkF m 98 #[.val (.ref a1), .val (.double d2), .second, .val (.double d3), .second] [(.double d3), (.double d2)])) _
    refine XS.dcmpS X4.here hx rfl (hb hby d2_98) rfl rfl ?_
    show Steps p.tables e below (T4.setTop (mkF m 99 #[.val (.ref a1), .val (.double d2), .second, .val (.double d3), .second] [(.int (cmpValue (FP.dcmp d2 d3) .g))])) _
    refine XS.ifNo X4.here hx rfl (hb hby d2_99) rfl ((if0 _ _).trans (flt hc99).2.2.1) ?_
    show Steps p.tables e below (T4.setTop (mkF m 102 #[.val (.ref a1), .val (.double d2), .second, .val (.double d3), .second] [])) _
    refine XS.iconst X4.here hx rfl (hb hby d2_102) ?_
    show Steps p.tables e below (T4.setTop (mkF m 103 #[.val (.ref a1), .val (.double d2), .second, .val (.double d3), .second] [(.int (1 : Int32))])) _
    refine XS.goto X4.here hx rfl (pc0 := 103) (pc' := 135) rfl (hb hby d2_103) (by decide) (by decide) ?_
    show Steps p.tables e below (T4.setTop (mkF m 135 #[.val (.ref a1), .val (.double d2), .second, .val (.double d3), .second] [(.int (1 : Int32))])) _
    exact retN X4 hx (t := .boolean) Bd.returns (by simp) (hb hby d2_135) hr
  · show Qv (some (.int (1 : Int32))) h0 n0 _ T4.heap _
    exact ⟨rfl, N4, e4⟩
theorem d2_106 : decode prog_24_method_8_code 106 = .ok (.iconst 0, 1) := by decide +kernel
theorem d2_107 : decode prog_24_method_8_code 107 = .ok (.goto 28, 3) := by decide +kernel
set_option maxRecDepth 65536 in
set_option maxHeartbeats 40000000 in
theorem rm2_3t (l : Launch) (Z : State) (a0 : Array Value) (hw : ∀ d ∈ tables_1, d.before a0 Z = true) (ws : List Jvm.Cond) (a1 : Addr) (d2 : UInt64) (d3 : UInt64) (h0 : Heap) (n0 : Nat) (Z0 : n0 ≤ h0.size) (O_a1 : Fld Z h0 a1 "java/lang/Enum" "ordinal" "I" (.int (3 : Int32))) (E_a1 : Exa Z h0 a1 "com/example/axisplan/axisplan/query/Comparison$Relation") (hc99 : (0 : Int32) < (cmpValue (FP.dcmp d2 d3) .g)) :
    MetFree l (⟨"com/example/axisplan/axisplan/query/Comparison$Relation", "holds", "(DD)Z"⟩ : MethodName) (head1 (Jvm.Cond.code (⟨"com/example/axisplan/axisplan/query/Comparison$Relation", "holds", "(DD)Z"⟩ : MethodName) prog_24_method_8_code 5 (some .boolean) :: ws) ({ frames := 1, cells := 0, slots := 0, locals := 12 } : Room)) (fun a U => a = #[(.ref a1), (.double d2), (.double d3)] ∧ Z.Warmed39 U.vm ∧ U.heap = h0) (fun _ _ _ _ _ => True) (fun _ U o U' => ∃ v L, o = .returned v ∧ Qv (some (.int (0 : Int32))) h0 n0 v U'.heap L ∧ FrameEnd U o U' L ({ frames := 1, cells := 0, slots := 0, locals := 12 } : Room).cells ({ frames := 1, cells := 0, slots := 0, locals := 12 } : Room).slots) := by
  refine MetFree.of_bodySF (plainFor_of_name pn_2) hisR ?_
  intro p e s m args below meth c s₁ Bd hml0 hP hK
  obtain ⟨rfl, hZ, hh⟩ := hP
  have hx := Bd.exec
  have hby := Bd.bytes
  have hml : c.maxLocals = 5 := hml0
  have hown : s.vm.findClass "com/example/axisplan/axisplan/query/Comparison$Relation" = some m.cls := findClass_of_methodNamed Bd.named
  have hnm := (name_of_methodNamed Bd.named Bd.method).1
  have X0 : Stand p l e ({ frames := 1, cells := 0, slots := 0, locals := 12 } : Room) s m #[(.ref a1), (.double d2), (.double d3)] below meth c s₁ [] 0 0 := Stand.of_body Bd
  have e0 : s₁.heap = h0 := by rw [← hh, Bd.state]; rfl
  have N0 := Fr.nil n0
  have pre0 : ∀ t, Steps p.tables e below (s₁.setTop (mkF m 0 #[.val (.ref a1), .val (.double d2), .second, .val (.double d3), .second] [])) t → Steps p.tables e below (s₁.setTop (entryFrame m #[(.ref a1), (.double d2), (.double d3)] 5)) t := fun t k => castTop (ef_2 m a1 d2 d3) k
  -- 3. LAWS
  -- pc 1: com/example/axisplan/axisplan/query/Comparison$Relation.ordinal by the contract of the body that the receiver's class selects, rm3
  obtain ⟨cq4, kq4, q4a, q4b, q4c⟩ := isOf hZ e0 E_a1
  obtain ⟨_, _, ⟨T4, L4, k4, n4⟩, -, X4, ⟨Lc4, hQ4, l4, y4, z4⟩, st4⟩ := X0.virtualBackUp hx (x := (⟨"com/example/axisplan/axisplan/query/Comparison$Relation", "ordinal", "()I"⟩ : MethodName)) (y := (⟨"java/lang/Enum", "ordinal", "()I"⟩ : MethodName)) (owner := "java/lang/Enum") hown (mvT hZ (hw _ (List.mem_of_getElem? (i := 13) rfl))) (mvT hZ (hw _ (List.mem_of_getElem? (i := 14) rfl))) (mvT hZ (hw _ (List.mem_of_getElem? (i := 15) rfl))) (by decide) (mvT hZ (hw _ (List.mem_of_getElem? (i := 17) rfl))) (mvT hZ (hw _ (List.mem_of_getElem? (i := 16) rfl))) (backOf (W := 0) (rm3 l Z a0 hw [] a1 (3 : Int32) h0 n0 Z0 O_a1) hZ (hw _ (List.mem_of_getElem? (i := 19) rfl)) (hw _ (List.mem_of_getElem? (i := 18) rfl)) (by decide) (by decide)) q4a q4c (g := (mkF m 1 #[.val (.ref a1), .val (.double d2), .second, .val (.double d3), .second] [(.ref a1)])) rfl (by rw [hml]; rfl) (Steps.refl _) (argsL := []) (rest := []) (lenOf pd_2_2 rfl) rfl (by show 2 * 0 + _ ≤ _; exact Nat.le_of_eq rfl) (hb hby d2_1) (fun _ _ => ⟨rfl, e0, (by decide : 0 + 0 ≤ _), (by decide : 0 + 0 ≤ _)⟩)
  dsimp only [Pt.U, Pt.locs, Pt.cells, Pt.slots] at X4 l4 y4 z4 st4 hQ4
  subst l4 y4 z4
  obtain ⟨rfl, N4q, e4⟩ := hQ4
  have N4 := Fr.app N0 N4q
  obtain ⟨fs, hr, hrun, hended, hW, hsame⟩ := X4.leave (v := some (.int (0 : Int32))) (fun h => by rw [Bd.returns] at h; cases h)
  refine ⟨_, _, pre0 _ ?_, hrun, hended, _, _, rfl, ?_, ⟨_, rfl⟩, hW, hsame.mono (by decide) (by decide)⟩
  -- 4. STEPS
  · show Steps p.tables e below (s₁.setTop (mkF m 0 #[.val (.ref a1), .val (.double d2), .second, .val (.double d3), .second] [])) _
    refine XS.aloadN X0.here hx rfl (hb hby d2_0) rfl rfl ?_
    show Steps p.tables e below (s₁.setTop (mkF m 1 #[.val (.ref a1), .val (.double d2), .second, .val (.double d3), .second] [(.ref a1)])) _
    refine st4.trans ?_
    show Steps p.tables e below (T4.setTop (mkF m 4 #[.val (.ref a1), .val (.double d2), .second, .val (.double d3), .second] [(.int (3 : Int32))])) _
    refine XS.tswIn X4.here hx rfl (i := (3 : Int32)) (pc0 := 4) (pc' := 96) (o := 92) rfl (hb hby d2_4) rfl (by rw [show (3 : Int32) = (3 : Int32) from (rfl : (3 : Int32) = (3 : Int32))]; decide) (by rw [show (3 : Int32) = (3 : Int32) from (rfl : (3 : Int32) = (3 : Int32))]; rfl) (by decide) (by decide) ?_
    show Steps p.tables e below (T4.setTop (mkF m 96 #[.val (.ref a1), .val (.double d2), .second, .val (.double d3), .second] [])) _
    refine XS.dloadN X4.here hx rfl (hb hby d2_96) rfl ?_
    show Steps p.tables e below (T4.setTop (mkF m 97 #[.val (.ref a1), .val (.double d2), .second, .val (.double d3), .second] [(.double d2)])) _
    refine XS.dloadN X4.here hx rfl (hb hby d2_97) rfl ?_
    show Steps p.tables e below (T4.setTop (mkF m 98 #[.val (.ref a1), .val (.double d2), .second, .val (.double d3), .second] [(.double d3), (.double d2)])) _
    refine XS.dcmpS X4.here hx rfl (hb hby d2_98) rfl rfl ?_
    show Steps p.tables e below (T4.setTop (mkF m 99 #[.val (.ref a1), .val (.double d2), .second, .val (.double d3), .second] [(.int (cmpValue (FP.dcmp d2 d3) .g))])) _
    refine XS.ifYes X4.here hx rfl (pc0 := 99) (pc' := 106) rfl (hb hby d2_99) rfl ((if0 _ _).trans (tlt hc99).2.2.1) (by decide) (by decide) ?_
    show Steps p.tables e below (T4.setTop (mkF m 106 #[.val (.ref a1), .val (.double d2), .second, .val (.double d3), .second] [])) _
    refine XS.iconst X4.here hx rfl (hb hby d2_106) ?_
    show Steps p.tables e below (T4.setTop (mkF m 107 #[.val (.ref a1), .val (.double d2), .second, .val (.double d3), .second] [(.int (0 : Int32))])) _
    refine XS.goto X4.here hx rfl (pc0 := 107) (pc' := 135) rfl (hb hby d2_107) (by decide) (by decide) ?_
    show Steps p.tables e below (T4.setTop (mkF m 135 #[.val (.ref a1), .val (.double d2), .second, .val (.double d3), .second] [(.int (0 : Int32))])) _
    exact retN X4 hx (t := .boolean) Bd.returns (by simp) (hb hby d2_135) hr
  · show Qv (some (.int (0 : Int32))) h0 n0 _ T4.heap _
    exact ⟨rfl, N4, e4⟩
theorem d2_110 : decode prog_24_method_8_code 110 = .ok (.dload_n 1, 1) := by decide +kernel
theorem d2_111 : decode prog_24_method_8_code 111 = .ok (.dload_n 3, 1) := by decide +kernel
theorem d2_112 : decode prog_24_method_8_code 112 = .ok (.dcmp .l, 1) := by decide +kernel
theorem d2_113 : decode prog_24_method_8_code 113 = .ok (.ifCond .le 7, 3) := by decide +kernel
theorem d2_116 : decode prog_24_method_8_code 116 = .ok (.iconst 1, 1) := by decide +kernel
theorem d2_117 : decode prog_24_method_8_code 117 = .ok (.goto 18, 3) := by decide +kernel
set_option maxRecDepth 65536 in
set_option maxHeartbeats 40000000 in
theorem rm2_4f (l : Launch) (Z : State) (a0 : Array Value) (hw : ∀ d ∈ tables_1, d.before a0 Z = true) (ws : List Jvm.Cond) (a1 : Addr) (d2 : UInt64) (d3 : UInt64) (h0 : Heap) (n0 : Nat) (Z0 : n0 ≤ h0.size) (O_a1 : Fld Z h0 a1 "java/lang/Enum" "ordinal" "I" (.int (4 : Int32))) (E_a1 : Exa Z h0 a1 "com/example/axisplan/axisplan/query/Comparison$Relation") (hc113 : (0 : Int32) < (cmpValue (FP.dcmp d2 d3) .l)) :
    MetFree l (⟨"com/example/axisplan/axisplan/query/Comparison$Relation", "holds", "(DD)Z"⟩ : MethodName) (head1 (Jvm.Cond.code (⟨"com/example/axisplan/axisplan/query/Comparison$Relation", "holds", "(DD)Z"⟩ : MethodName) prog_24_method_8_code 5 (some .boolean) :: ws) ({ frames := 1, cells := 0, slots := 0, locals := 12 } : Room)) (fun a U => a = #[(.ref a1), (.double d2), (.double d3)] ∧ Z.Warmed39 U.vm ∧ U.heap = h0) (fun _ _ _ _ _ => True) (fun _ U o U' => ∃ v L, o = .returned v ∧ Qv (some (.int (1 : Int32))) h0 n0 v U'.heap L ∧ FrameEnd U o U' L ({ frames := 1, cells := 0, slots := 0, locals := 12 } : Room).cells ({ frames := 1, cells := 0, slots := 0, locals := 12 } : Room).slots) := by
  refine MetFree.of_bodySF (plainFor_of_name pn_2) hisR ?_
  intro p e s m args below meth c s₁ Bd hml0 hP hK
  obtain ⟨rfl, hZ, hh⟩ := hP
  have hx := Bd.exec
  have hby := Bd.bytes
  have hml : c.maxLocals = 5 := hml0
  have hown : s.vm.findClass "com/example/axisplan/axisplan/query/Comparison$Relation" = some m.cls := findClass_of_methodNamed Bd.named
  have hnm := (name_of_methodNamed Bd.named Bd.method).1
  have X0 : Stand p l e ({ frames := 1, cells := 0, slots := 0, locals := 12 } : Room) s m #[(.ref a1), (.double d2), (.double d3)] below meth c s₁ [] 0 0 := Stand.of_body Bd
  have e0 : s₁.heap = h0 := by rw [← hh, Bd.state]; rfl
  have N0 := Fr.nil n0
  have pre0 : ∀ t, Steps p.tables e below (s₁.setTop (mkF m 0 #[.val (.ref a1), .val (.double d2), .second, .val (.double d3), .second] [])) t → Steps p.tables e below (s₁.setTop (entryFrame m #[(.ref a1), (.double d2), (.double d3)] 5)) t := fun t k => castTop (ef_2 m a1 d2 d3) k
  -- 3. LAWS
  -- pc 1: com/example/axisplan/axisplan/query/Comparison$Relation.ordinal by the contract of the body that the receiver's class selects, rm3
  obtain ⟨cq4, kq4, q4a, q4b, q4c⟩ := isOf hZ e0 E_a1
  obtain ⟨_, _, ⟨T4, L4, k4, n4⟩, -, X4, ⟨Lc4, hQ4, l4, y4, z4⟩, st4⟩ := X0.virtualBackUp hx (x := (⟨"com/example/axisplan/axisplan/query/Comparison$Relation", "ordinal", "()I"⟩ : MethodName)) (y := (⟨"java/lang/Enum", "ordinal", "()I"⟩ : MethodName)) (owner := "java/lang/Enum") hown (mvT hZ (hw _ (List.mem_of_getElem? (i := 13) rfl))) (mvT hZ (hw _ (List.mem_of_getElem? (i := 14) rfl))) (mvT hZ (hw _ (List.mem_of_getElem? (i := 15) rfl))) (by decide) (mvT hZ (hw _ (List.mem_of_getElem? (i := 17) rfl))) (mvT hZ (hw _ (List.mem_of_getElem? (i := 16) rfl))) (backOf (W := 0) (rm3 l Z a0 hw [] a1 (4 : Int32) h0 n0 Z0 O_a1) hZ (hw _ (List.mem_of_getElem? (i := 19) rfl)) (hw _ (List.mem_of_getElem? (i := 18) rfl)) (by decide) (by decide)) q4a q4c (g := (mkF m 1 #[.val (.ref a1), .val (.double d2), .second, .val (.double d3), .second] [(.ref a1)])) rfl (by rw [hml]; rfl) (Steps.refl _) (argsL := []) (rest := []) (lenOf pd_2_2 rfl) rfl (by show 2 * 0 + _ ≤ _; exact Nat.le_of_eq rfl) (hb hby d2_1) (fun _ _ => ⟨rfl, e0, (by decide : 0 + 0 ≤ _), (by decide : 0 + 0 ≤ _)⟩)
  dsimp only [Pt.U, Pt.locs, Pt.cells, Pt.slots] at X4 l4 y4 z4 st4 hQ4
  subst l4 y4 z4
  obtain ⟨rfl, N4q, e4⟩ := hQ4
  have N4 := Fr.app N0 N4q
  obtain ⟨fs, hr, hrun, hended, hW, hsame⟩ := X4.leave (v := some (.int (1 : Int32))) (fun h => by rw [Bd.returns] at h; cases h)
  refine ⟨_, _, pre0 _ ?_, hrun, hended, _, _, rfl, ?_, ⟨_, rfl⟩, hW, hsame.mono (by decide) (by decide)⟩
  -- 4. STEPS
  · show Steps p.tables e below (s₁.setTop (mkF m 0 #[.val (.ref a1), .val (.double d2), .second, .val (.double d3), .second] [])) _
    refine XS.aloadN X0.here hx rfl (hb hby d2_0) rfl rfl ?_
    show Steps p.tables e below (s₁.setTop (mkF m 1 #[.val (.ref a1), .val (.double d2), .second, .val (.double d3), .second] [(.ref a1)])) _
    refine st4.trans ?_
    show Steps p.tables e below (T4.setTop (mkF m 4 #[.val (.ref a1), .val (.double d2), .second, .val (.double d3), .second] [(.int (4 : Int32))])) _
    refine XS.tswIn X4.here hx rfl (i := (4 : Int32)) (pc0 := 4) (pc' := 110) (o := 106) rfl (hb hby d2_4) rfl (by rw [show (4 : Int32) = (4 : Int32) from (rfl : (4 : Int32) = (4 : Int32))]; decide) (by rw [show (4 : Int32) = (4 : Int32) from (rfl : (4 : Int32) = (4 : Int32))]; rfl) (by decide) (by decide) ?_
    show Steps p.tables e below (T4.setTop (mkF m 110 #[.val (.ref a1), .val (.double d2), .second, .val (.double d3), .second] [])) _
    refine XS.dloadN X4.here hx rfl (hb hby d2_110) rfl ?_
    show Steps p.tables e below (T4.setTop (mkF m 111 #[.val (.ref a1), .val (.double d2), .second, .val (.double d3), .second] [(.double d2)])) _
    refine XS.dloadN X4.here hx rfl (hb hby d2_111) rfl ?_
    show Steps p.tables e below (T4.setTop (mkF m 112 #[.val (.ref a1), .val (.double d2), .second, .val (.double d3), .second] [(.double d3), (.double d2)])) _
    refine XS.dcmpS X4.here hx rfl (hb hby d2_112) rfl rfl ?_
    show Steps p.tables e below (T4.setTop (mkF m 113 #[.val (.ref a1), .val (.double d2), .second, .val (.double d3), .second] [(.int (cmpValue (FP.dcmp d2 d3) .l))])) _
    refine XS.ifNo X4.here hx rfl (hb hby d2_113) rfl ((if0 _ _).trans (tlt hc113).2.2.2) ?_
    show Steps p.tables e below (T4.setTop (mkF m 116 #[.val (.ref a1), .val (.double d2), .second, .val (.double d3), .second] [])) _
    refine XS.iconst X4.here hx rfl (hb hby d2_116) ?_
    show Steps p.tables e below (T4.setTop (mkF m 117 #[.val (.ref a1), .val (.double d2), .second, .val (.double d3), .second] [(.int (1 : Int32))])) _
    refine XS.goto X4.here hx rfl (pc0 := 117) (pc' := 135) rfl (hb hby d2_117) (by decide) (by decide) ?_
    show Steps p.tables e below (T4.setTop (mkF m 135 #[.val (.ref a1), .val (.double d2), .second, .val (.double d3), .second] [(.int (1 : Int32))])) _
    exact retN X4 hx (t := .boolean) Bd.returns (by simp) (hb hby d2_135) hr
  · show Qv (some (.int (1 : Int32))) h0 n0 _ T4.heap _
    exact ⟨rfl, N4, e4⟩
theorem d2_120 : decode prog_24_method_8_code 120 = .ok (.iconst 0, 1) := by decide +kernel
theorem d2_121 : decode prog_24_method_8_code 121 = .ok (.goto 14, 3) := by decide +kernel
set_option maxRecDepth 65536 in
set_option maxHeartbeats 40000000 in
theorem rm2_4t (l : Launch) (Z : State) (a0 : Array Value) (hw : ∀ d ∈ tables_1, d.before a0 Z = true) (ws : List Jvm.Cond) (a1 : Addr) (d2 : UInt64) (d3 : UInt64) (h0 : Heap) (n0 : Nat) (Z0 : n0 ≤ h0.size) (O_a1 : Fld Z h0 a1 "java/lang/Enum" "ordinal" "I" (.int (4 : Int32))) (E_a1 : Exa Z h0 a1 "com/example/axisplan/axisplan/query/Comparison$Relation") (hc113 : ¬ ((0 : Int32) < (cmpValue (FP.dcmp d2 d3) .l))) :
    MetFree l (⟨"com/example/axisplan/axisplan/query/Comparison$Relation", "holds", "(DD)Z"⟩ : MethodName) (head1 (Jvm.Cond.code (⟨"com/example/axisplan/axisplan/query/Comparison$Relation", "holds", "(DD)Z"⟩ : MethodName) prog_24_method_8_code 5 (some .boolean) :: ws) ({ frames := 1, cells := 0, slots := 0, locals := 12 } : Room)) (fun a U => a = #[(.ref a1), (.double d2), (.double d3)] ∧ Z.Warmed39 U.vm ∧ U.heap = h0) (fun _ _ _ _ _ => True) (fun _ U o U' => ∃ v L, o = .returned v ∧ Qv (some (.int (0 : Int32))) h0 n0 v U'.heap L ∧ FrameEnd U o U' L ({ frames := 1, cells := 0, slots := 0, locals := 12 } : Room).cells ({ frames := 1, cells := 0, slots := 0, locals := 12 } : Room).slots) := by
  refine MetFree.of_bodySF (plainFor_of_name pn_2) hisR ?_
  intro p e s m args below meth c s₁ Bd hml0 hP hK
  obtain ⟨rfl, hZ, hh⟩ := hP
  have hx := Bd.exec
  have hby := Bd.bytes
  have hml : c.maxLocals = 5 := hml0
  have hown : s.vm.findClass "com/example/axisplan/axisplan/query/Comparison$Relation" = some m.cls := findClass_of_methodNamed Bd.named
  have hnm := (name_of_methodNamed Bd.named Bd.method).1
  have X0 : Stand p l e ({ frames := 1, cells := 0, slots := 0, locals := 12 } : Room) s m #[(.ref a1), (.double d2), (.double d3)] below meth c s₁ [] 0 0 := Stand.of_body Bd
  have e0 : s₁.heap = h0 := by rw [← hh, Bd.state]; rfl
  have N0 := Fr.nil n0
  have pre0 : ∀ t, Steps p.tables e below (s₁.setTop (mkF m 0 #[.val (.ref a1), .val (.double d2), .second, .val (.double d3), .second] [])) t → Steps p.tables e below (s₁.setTop (entryFrame m #[(.ref a1), (.double d2), (.double d3)] 5)) t := fun t k => castTop (ef_2 m a1 d2 d3) k
  -- 3. LAWS
  -- pc 1: com/example/axisplan/axisplan/query/Comparison$Relation.ordinal by the contract of the body that the receiver's class selects, rm3
  obtain ⟨cq4, kq4, q4a, q4b, q4c⟩ := isOf hZ e0 E_a1
  obtain ⟨_, _, ⟨T4, L4, k4, n4⟩, -, X4, ⟨Lc4, hQ4, l4, y4, z4⟩, st4⟩ := X0.virtualBackUp hx (x := (⟨"com/example/axisplan/axisplan/query/Comparison$Relation", "ordinal", "()I"⟩ : MethodName)) (y := (⟨"java/lang/Enum", "ordinal", "()I"⟩ : MethodName)) (owner := "java/lang/Enum") hown (mvT hZ (hw _ (List.mem_of_getElem? (i := 13) rfl))) (mvT hZ (hw _ (List.mem_of_getElem? (i := 14) rfl))) (mvT hZ (hw _ (List.mem_of_getElem? (i := 15) rfl))) (by decide) (mvT hZ (hw _ (List.mem_of_getElem? (i := 17) rfl))) (mvT hZ (hw _ (List.mem_of_getElem? (i := 16) rfl))) (backOf (W := 0) (rm3 l Z a0 hw [] a1 (4 : Int32) h0 n0 Z0 O_a1) hZ (hw _ (List.mem_of_getElem? (i := 19) rfl)) (hw _ (List.mem_of_getElem? (i := 18) rfl)) (by decide) (by decide)) q4a q4c (g := (mkF m 1 #[.val (.ref a1), .val (.double d2), .second, .val (.double d3), .second] [(.ref a1)])) rfl (by rw [hml]; rfl) (Steps.refl _) (argsL := []) (rest := []) (lenOf pd_2_2 rfl) rfl (by show 2 * 0 + _ ≤ _; exact Nat.le_of_eq rfl) (hb hby d2_1) (fun _ _ => ⟨rfl, e0, (by decide : 0 + 0 ≤ _), (by decide : 0 + 0 ≤ _)⟩)
  dsimp only [Pt.U, Pt.locs, Pt.cells, Pt.slots] at X4 l4 y4 z4 st4 hQ4
  subst l4 y4 z4
  obtain ⟨rfl, N4q, e4⟩ := hQ4
  have N4 := Fr.app N0 N4q
  obtain ⟨fs, hr, hrun, hended, hW, hsame⟩ := X4.leave (v := some (.int (0 : Int32))) (fun h => by rw [Bd.returns] at h; cases h)
  refine ⟨_, _, pre0 _ ?_, hrun, hended, _, _, rfl, ?_, ⟨_, rfl⟩, hW, hsame.mono (by decide) (by decide)⟩
  -- 4. STEPS
  · show Steps p.tables e below (s₁.setTop (mkF m 0 #[.val (.ref a1), .val (.double d2), .second, .val (.double d3), .second] [])) _
    refine XS.aloadN X0.here hx rfl (hb hby d2_0) rfl rfl ?_
    show Steps p.tables e below (s₁.setTop (mkF m 1 #[.val (.ref a1), .val (.double d2), .second, .val (.double d3), .second] [(.ref a1)])) _
    refine st4.trans ?_
    show Steps p.tables e below (T4.setTop (mkF m 4 #[.val (.ref a1), .val (.double d2), .second, .val (.double d3), .second] [(.int (4 : Int32))])) _
    refine XS.tswIn X4.here hx rfl (i := (4 : Int32)) (pc0 := 4) (pc' := 110) (o := 106) rfl (hb hby d2_4) rfl (by rw [show (4 : Int32) = (4 : Int32) from (rfl : (4 : Int32) = (4 : Int32))]; decide) (by rw [show (4 : Int32) = (4 : Int32) from (rfl : (4 : Int32) = (4 : Int32))]; rfl) (by decide) (by decide) ?_
    show Steps p.tables e below (T4.setTop (mkF m 110 #[.val (.ref a1), .val (.double d2), .second, .val (.double d3), .second] [])) _
    refine XS.dloadN X4.here hx rfl (hb hby d2_110) rfl ?_
    show Steps p.tables e below (T4.setTop (mkF m 111 #[.val (.ref a1), .val (.double d2), .second, .val (.double d3), .second] [(.double d2)])) _
    refine XS.dloadN X4.here hx rfl (hb hby d2_111) rfl ?_
    show Steps p.tables e below (T4.setTop (mkF m 112 #[.val (.ref a1), .val (.double d2), .second, .val (.double d3), .second] [(.double d3), (.double d2)])) _
    refine XS.dcmpS X4.here hx rfl (hb hby d2_112) rfl rfl ?_
    show Steps p.tables e below (T4.setTop (mkF m 113 #[.val (.ref a1), .val (.double d2), .second, .val (.double d3), .second] [(.int (cmpValue (FP.dcmp d2 d3) .l))])) _
    refine XS.ifYes X4.here hx rfl (pc0 := 113) (pc' := 120) rfl (hb hby d2_113) rfl ((if0 _ _).trans (flt hc113).2.2.2) (by decide) (by decide) ?_
    show Steps p.tables e below (T4.setTop (mkF m 120 #[.val (.ref a1), .val (.double d2), .second, .val (.double d3), .second] [])) _
    refine XS.iconst X4.here hx rfl (hb hby d2_120) ?_
    show Steps p.tables e below (T4.setTop (mkF m 121 #[.val (.ref a1), .val (.double d2), .second, .val (.double d3), .second] [(.int (0 : Int32))])) _
    refine XS.goto X4.here hx rfl (pc0 := 121) (pc' := 135) rfl (hb hby d2_121) (by decide) (by decide) ?_
    show Steps p.tables e below (T4.setTop (mkF m 135 #[.val (.ref a1), .val (.double d2), .second, .val (.double d3), .second] [(.int (0 : Int32))])) _
    exact retN X4 hx (t := .boolean) Bd.returns (by simp) (hb hby d2_135) hr
  · show Qv (some (.int (0 : Int32))) h0 n0 _ T4.heap _
    exact ⟨rfl, N4, e4⟩
theorem d2_124 : decode prog_24_method_8_code 124 = .ok (.dload_n 1, 1) := by decide +kernel
theorem d2_125 : decode prog_24_method_8_code 125 = .ok (.dload_n 3, 1) := by decide +kernel
theorem d2_126 : decode prog_24_method_8_code 126 = .ok (.dcmp .l, 1) := by decide +kernel
theorem d2_127 : decode prog_24_method_8_code 127 = .ok (.ifCond .lt 7, 3) := by decide +kernel
theorem d2_130 : decode prog_24_method_8_code 130 = .ok (.iconst 1, 1) := by decide +kernel
theorem d2_131 : decode prog_24_method_8_code 131 = .ok (.goto 4, 3) := by decide +kernel
set_option maxRecDepth 65536 in
set_option maxHeartbeats 40000000 in
theorem rm2_5f (l : Launch) (Z : State) (a0 : Array Value) (hw : ∀ d ∈ tables_1, d.before a0 Z = true) (ws : List Jvm.Cond) (a1 : Addr) (d2 : UInt64) (d3 : UInt64) (h0 : Heap) (n0 : Nat) (Z0 : n0 ≤ h0.size) (O_a1 : Fld Z h0 a1 "java/lang/Enum" "ordinal" "I" (.int (5 : Int32))) (E_a1 : Exa Z h0 a1 "com/example/axisplan/axisplan/query/Comparison$Relation") (hc127 : ¬ ((cmpValue (FP.dcmp d2 d3) .l) < (0 : Int32))) :
    MetFree l (⟨"com/example/axisplan/axisplan/query/Comparison$Relation", "holds", "(DD)Z"⟩ : MethodName) (head1 (Jvm.Cond.code (⟨"com/example/axisplan/axisplan/query/Comparison$Relation", "holds", "(DD)Z"⟩ : MethodName) prog_24_method_8_code 5 (some .boolean) :: ws) ({ frames := 1, cells := 0, slots := 0, locals := 12 } : Room)) (fun a U => a = #[(.ref a1), (.double d2), (.double d3)] ∧ Z.Warmed39 U.vm ∧ U.heap = h0) (fun _ _ _ _ _ => True) (fun _ U o U' => ∃ v L, o = .returned v ∧ Qv (some (.int (1 : Int32))) h0 n0 v U'.heap L ∧ FrameEnd U o U' L ({ frames := 1, cells := 0, slots := 0, locals := 12 } : Room).cells ({ frames := 1, cells := 0, slots := 0, locals := 12 } : Room).slots) := by
  refine MetFree.of_bodySF (plainFor_of_name pn_2) hisR ?_
  intro p e s m args below meth c s₁ Bd hml0 hP hK
  obtain ⟨rfl, hZ, hh⟩ := hP
  have hx := Bd.exec
  have hby := Bd.bytes
  have hml : c.maxLocals = 5 := hml0
  have hown : s.vm.findClass "com/example/axisplan/axisplan/query/Comparison$Relation" = some m.cls := findClass_of_methodNamed Bd.named
  have hnm := (name_of_methodNamed Bd.named Bd.method).1
  have X0 : Stand p l e ({ frames := 1, cells := 0, slots := 0, locals := 12 } : Room) s m #[(.ref a1), (.double d2), (.double d3)] below meth c s₁ [] 0 0 := Stand.of_body Bd
  have e0 : s₁.heap = h0 := by rw [← hh, Bd.state]; rfl
  have N0 := Fr.nil n0
  have pre0 : ∀ t, Steps p.tables e below (s₁.setTop (mkF m 0 #[.val (.ref a1), .val (.double d2), .second, .val (.double d3), .second] [])) t → Steps p.tables e below (s₁.setTop (entryFrame m #[(.ref a1), (.double d2), (.double d3)] 5)) t := fun t k => castTop (ef_2 m a1 d2 d3) k
  -- 3. LAWS
  -- pc 1: com/example/axisplan/axisplan/query/Comparison$Relation.ordinal by the contract of the body that the receiver's class selects, rm3
  obtain ⟨cq4, kq4, q4a, q4b, q4c⟩ := isOf hZ e0 E_a1
  obtain ⟨_, _, ⟨T4, L4, k4, n4⟩, -, X4, ⟨Lc4, hQ4, l4, y4, z4⟩, st4⟩ := X0.virtualBackUp hx (x := (⟨"com/example/axisplan/axisplan/query/Comparison$Relation", "ordinal", "()I"⟩ : MethodName)) (y := (⟨"java/lang/Enum", "ordinal", "()I"⟩ : MethodName)) (owner := "java/lang/Enum") hown (mvT hZ (hw _ (List.mem_of_getElem? (i := 13) rfl))) (mvT hZ (hw _ (List.mem_of_getElem? (i := 14) rfl))) (mvT hZ (hw _ (List.mem_of_getElem? (i := 15) rfl))) (by decide) (mvT hZ (hw _ (List.mem_of_getElem? (i := 17) rfl))) (mvT hZ (hw _ (List.mem_of_getElem? (i := 16) rfl))) (backOf (W := 0) (rm3 l Z a0 hw [] a1 (5 : Int32) h0 n0 Z0 O_a1) hZ (hw _ (List.mem_of_getElem? (i := 19) rfl)) (hw _ (List.mem_of_getElem? (i := 18) rfl)) (by decide) (by decide)) q4a q4c (g := (mkF m 1 #[.val (.ref a1), .val (.double d2), .second, .val (.double d3), .second] [(.ref a1)])) rfl (by rw [hml]; rfl) (Steps.refl _) (argsL := []) (rest := []) (lenOf pd_2_2 rfl) rfl (by show 2 * 0 + _ ≤ _; exact Nat.le_of_eq rfl) (hb hby d2_1) (fun _ _ => ⟨rfl, e0, (by decide : 0 + 0 ≤ _), (by decide : 0 + 0 ≤ _)⟩)
  dsimp only [Pt.U, Pt.locs, Pt.cells, Pt.slots] at X4 l4 y4 z4 st4 hQ4
  subst l4 y4 z4
  obtain ⟨rfl, N4q, e4⟩ := hQ4
  have N4 := Fr.app N0 N4q
  obtain ⟨fs, hr, hrun, hended, hW, hsame⟩ := X4.leave (v := some (.int (1 : Int32))) (fun h => by rw [Bd.returns] at h; cases h)
  refine ⟨_, _, pre0 _ ?_, hrun, hended, _, _, rfl, ?_, ⟨_, rfl⟩, hW, hsame.mono (by decide) (by decide)⟩
  -- 4. STEPS
  · show Steps p.tables e below (s₁.setTop (mkF m 0 #[.val (.ref a1), .val (.double d2), .second, .val (.double d3), .second] [])) _
    refine XS.aloadN X0.here hx rfl (hb hby d2_0) rfl rfl ?_
    show Steps p.tables e below (s₁.setTop (mkF m 1 #[.val (.ref a1), .val (.double d2), .second, .val (.double d3), .second] [(.ref a1)])) _
    refine st4.trans ?_
    show Steps p.tables e below (T4.setTop (mkF m 4 #[.val (.ref a1), .val (.double d2), .second, .val (.double d3), .second] [(.int (5 : Int32))])) _
    refine XS.tswIn X4.here hx rfl (i := (5 : Int32)) (pc0 := 4) (pc' := 124) (o := 120) rfl (hb hby d2_4) rfl (by rw [show (5 : Int32) = (5 : Int32) from (rfl : (5 : Int32) = (5 : Int32))]; decide) (by rw [show (5 : Int32) = (5 : Int32) from (rfl : (5 : Int32) = (5 : Int32))]; rfl) (by decide) (by decide) ?_
    show Steps p.tables e below (T4.setTop (mkF m 124 #[.val (.ref a1), .val (.double d2), .second, .val (.double d3), .second] [])) _
    refine XS.dloadN X4.here hx rfl (hb hby d2_124) rfl ?_
    show Steps p.tables e below (T4.setTop (mkF m 125 #[.val (.ref a1), .val (.double d2), .second, .val (.double d3), .second] [(.double d2)])) _
    refine XS.dloadN X4.here hx rfl (hb hby d2_125) rfl ?_
    show Steps p.tables e below (T4.setTop (mkF m 126 #[.val (.ref a1), .val (.double d2), .second, .val (.double d3), .second] [(.double d3), (.double d2)])) _
    refine XS.dcmpS X4.here hx rfl (hb hby d2_126) rfl rfl ?_
    show Steps p.tables e below (T4.setTop (mkF m 127 #[.val (.ref a1), .val (.double d2), .second, .val (.double d3), .second] [(.int (cmpValue (FP.dcmp d2 d3) .l))])) _
    refine XS.ifNo X4.here hx rfl (hb hby d2_127) rfl ((if0 _ _).trans (flt hc127).1) ?_
    show Steps p.tables e below (T4.setTop (mkF m 130 #[.val (.ref a1), .val (.double d2), .second, .val (.double d3), .second] [])) _
    refine XS.iconst X4.here hx rfl (hb hby d2_130) ?_
    show Steps p.tables e below (T4.setTop (mkF m 131 #[.val (.ref a1), .val (.double d2), .second, .val (.double d3), .second] [(.int (1 : Int32))])) _
    refine XS.goto X4.here hx rfl (pc0 := 131) (pc' := 135) rfl (hb hby d2_131) (by decide) (by decide) ?_
    show Steps p.tables e below (T4.setTop (mkF m 135 #[.val (.ref a1), .val (.double d2), .second, .val (.double d3), .second] [(.int (1 : Int32))])) _
    exact retN X4 hx (t := .boolean) Bd.returns (by simp) (hb hby d2_135) hr
  · show Qv (some (.int (1 : Int32))) h0 n0 _ T4.heap _
    exact ⟨rfl, N4, e4⟩
theorem d2_134 : decode prog_24_method_8_code 134 = .ok (.iconst 0, 1) := by decide +kernel
set_option maxRecDepth 65536 in
set_option maxHeartbeats 40000000 in
theorem rm2_5t (l : Launch) (Z : State) (a0 : Array Value) (hw : ∀ d ∈ tables_1, d.before a0 Z = true) (ws : List Jvm.Cond) (a1 : Addr) (d2 : UInt64) (d3 : UInt64) (h0 : Heap) (n0 : Nat) (Z0 : n0 ≤ h0.size) (O_a1 : Fld Z h0 a1 "java/lang/Enum" "ordinal" "I" (.int (5 : Int32))) (E_a1 : Exa Z h0 a1 "com/example/axisplan/axisplan/query/Comparison$Relation") (hc127 : (cmpValue (FP.dcmp d2 d3) .l) < (0 : Int32)) :
    MetFree l (⟨"com/example/axisplan/axisplan/query/Comparison$Relation", "holds", "(DD)Z"⟩ : MethodName) (head1 (Jvm.Cond.code (⟨"com/example/axisplan/axisplan/query/Comparison$Relation", "holds", "(DD)Z"⟩ : MethodName) prog_24_method_8_code 5 (some .boolean) :: ws) ({ frames := 1, cells := 0, slots := 0, locals := 12 } : Room)) (fun a U => a = #[(.ref a1), (.double d2), (.double d3)] ∧ Z.Warmed39 U.vm ∧ U.heap = h0) (fun _ _ _ _ _ => True) (fun _ U o U' => ∃ v L, o = .returned v ∧ Qv (some (.int (0 : Int32))) h0 n0 v U'.heap L ∧ FrameEnd U o U' L ({ frames := 1, cells := 0, slots := 0, locals := 12 } : Room).cells ({ frames := 1, cells := 0, slots := 0, locals := 12 } : Room).slots) := by
  refine MetFree.of_bodySF (plainFor_of_name pn_2) hisR ?_
  intro p e s m args below meth c s₁ Bd hml0 hP hK
  obtain ⟨rfl, hZ, hh⟩ := hP
  have hx := Bd.exec
  have hby := Bd.bytes
  have hml : c.maxLocals = 5 := hml0
  have hown : s.vm.findClass "com/example/axisplan/axisplan/query/Comparison$Relation" = some m.cls := findClass_of_methodNamed Bd.named
  have hnm := (name_of_methodNamed Bd.named Bd.method).1
  have X0 : Stand p l e ({ frames := 1, cells := 0, slots := 0, locals := 12 } : Room) s m #[(.ref a1), (.double d2), (.double d3)] below meth c s₁ [] 0 0 := Stand.of_body Bd
  have e0 : s₁.heap = h0 := by rw [← hh, Bd.state]; rfl
  have N0 := Fr.nil n0
  have pre0 : ∀ t, Steps p.tables e below (s₁.setTop (mkF m 0 #[.val (.ref a1), .val (.double d2), .second, .val (.double d3), .second] [])) t → Steps p.tables e below (s₁.setTop (entryFrame m #[(.ref a1), (.double d2), (.double d3)] 5)) t := fun t k => castTop (ef_2 m a1 d2 d3) k
  -- 3. LAWS
  -- pc 1: com/example/axisplan/axisplan/query/Comparison$Relation.ordinal by the contract of the body that the receiver's class selects, rm3
  obtain ⟨cq4, kq4, q4a, q4b, q4c⟩ := isOf hZ e0 E_a1
  obtain ⟨_, _, ⟨T4, L4, k4, n4⟩, -, X4, ⟨Lc4, hQ4, l4, y4, z4⟩, st4⟩ := X0.virtualBackUp hx (x := (⟨"com/example/axisplan/axisplan/query/Comparison$Relation", "ordinal", "()I"⟩ : MethodName)) (y := (⟨"java/lang/Enum", "ordinal", "()I"⟩ : MethodName)) (owner := "java/lang/Enum") hown (mvT hZ (hw _ (List.mem_of_getElem? (i := 13) rfl))) (mvT hZ (hw _ (List.mem_of_getElem? (i := 14) rfl))) (mvT hZ (hw _ (List.mem_of_getElem? (i := 15) rfl))) (by decide) (mvT hZ (hw _ (List.mem_of_getElem? (i := 17) rfl))) (mvT hZ (hw _ (List.mem_of_getElem? (i := 16) rfl))) (backOf (W := 0) (rm3 l Z a0 hw [] a1 (5 : Int32) h0 n0 Z0 O_a1) hZ (hw _ (List.mem_of_getElem? (i := 19) rfl)) (hw _ (List.mem_of_getElem? (i := 18) rfl)) (by decide) (by decide)) q4a q4c (g := (mkF m 1 #[.val (.ref a1), .val (.double d2), .second, .val (.double d3), .second] [(.ref a1)])) rfl (by rw [hml]; rfl) (Steps.refl _) (argsL := []) (rest := []) (lenOf pd_2_2 rfl) rfl (by show 2 * 0 + _ ≤ _; exact Nat.le_of_eq rfl) (hb hby d2_1) (fun _ _ => ⟨rfl, e0, (by decide : 0 + 0 ≤ _), (by decide : 0 + 0 ≤ _)⟩)
  dsimp only [Pt.U, Pt.locs, Pt.cells, Pt.slots] at X4 l4 y4 z4 st4 hQ4
  subst l4 y4 z4
  obtain ⟨rfl, N4q, e4⟩ := hQ4
  have N4 := Fr.app N0 N4q
  obtain ⟨fs, hr, hrun, hended, hW, hsame⟩ := X4.leave (v := some (.int (0 : Int32))) (fun h => by rw [Bd.returns] at h; cases h)
  refine ⟨_, _, pre0 _ ?_, hrun, hended, _, _, rfl, ?_, ⟨_, rfl⟩, hW, hsame.mono (by decide) (by decide)⟩
  -- 4. STEPS
  · show Steps p.tables e below (s₁.setTop (mkF m 0 #[.val (.ref a1), .val (.double d2), .second, .val (.double d3), .second] [])) _
    refine XS.aloadN X0.here hx rfl (hb hby d2_0) rfl rfl ?_
    show Steps p.tables e below (s₁.setTop (mkF m 1 #[.val (.ref a1), .val (.double d2), .second, .val (.double d3), .second] [(.ref a1)])) _
    refine st4.trans ?_
    show Steps p.tables e below (T4.setTop (mkF m 4 #[.val (.ref a1), .val (.double d2), .second, .val (.double d3), .second] [(.int (5 : Int32))])) _
    refine XS.tswIn X4.here hx rfl (i := (5 : Int32)) (pc0 := 4) (pc' := 124) (o := 120) rfl (hb hby d2_4) rfl (by rw [show (5 : Int32) = (5 : Int32) from (rfl : (5 : Int32) = (5 : Int32))]; decide) (by rw [show (5 : Int32) = (5 : Int32) from (rfl : (5 : Int32) = (5 : Int32))]; rfl) (by decide) (by decide) ?_
    show Steps p.tables e below (T4.setTop (mkF m 124 #[.val (.ref a1), .val (.double d2), .second, .val (.double d3), .second] [])) _
    refine XS.dloadN X4.here hx rfl (hb hby d2_124) rfl ?_
    show Steps p.tables e below (T4.setTop (mkF m 125 #[.val (.ref a1), .val (.double d2), .second, .val (.double d3), .second] [(.double d2)])) _
    refine XS.dloadN X4.here hx rfl (hb hby d2_125) rfl ?_
    show Steps p.tables e below (T4.setTop (mkF m 126 #[.val (.ref a1), .val (.double d2), .second, .val (.double d3), .second] [(.double d3), (.double d2)])) _
    refine XS.dcmpS X4.here hx rfl (hb hby d2_126) rfl rfl ?_
    show Steps p.tables e below (T4.setTop (mkF m 127 #[.val (.ref a1), .val (.double d2), .second, .val (.double d3), .second] [(.int (cmpValue (FP.dcmp d2 d3) .l))])) _
    refine XS.ifYes X4.here hx rfl (pc0 := 127) (pc' := 134) rfl (hb hby d2_127) rfl ((if0 _ _).trans (tlt hc127).1) (by decide) (by decide) ?_
    show Steps p.tables e below (T4.setTop (mkF m 134 #[.val (.ref a1), .val (.double d2), .second, .val (.double d3), .second] [])) _
    refine XS.iconst X4.here hx rfl (hb hby d2_134) ?_
    show Steps p.tables e below (T4.setTop (mkF m 135 #[.val (.ref a1), .val (.double d2), .second, .val (.double d3), .second] [(.int (0 : Int32))])) _
    exact retN X4 hx (t := .boolean) Bd.returns (by simp) (hb hby d2_135) hr
  · show Qv (some (.int (0 : Int32))) h0 n0 _ T4.heap _
    exact ⟨rfl, N4, e4⟩
theorem d4_0 : decode method_3_code 0 = .ok (.iload_n 0, 1) := by decide +kernel
theorem d4_1 : decode method_3_code 1 = .ok (.ifCond .ne 15, 3) := by decide +kernel
theorem d4_4 : decode method_3_code 4 = .ok (.lload_n 1, 1) := by decide +kernel
theorem d4_5 : decode method_3_code 5 = .ok (.lconst 0, 1) := by decide +kernel
theorem d4_6 : decode method_3_code 6 = .ok (.lcmp, 1) := by decide +kernel
theorem d4_7 : decode method_3_code 7 = .ok (.ifCond .ne 7, 3) := by decide +kernel
theorem d4_10 : decode method_3_code 10 = .ok (.iconst 1, 1) := by decide +kernel
theorem d4_11 : decode method_3_code 11 = .ok (.goto 4, 3) := by decide +kernel
theorem d4_15 : decode method_3_code 15 = .ok (.ireturn, 1) := by decide +kernel
theorem pn_4 : plainName "com/example/axisplan/axisplan/query/RelationHoldsPinLaw" = true := by first | (simp [plainName, overriddenIn]; done) | decide +kernel
theorem ef_4 (m : MethodId) (x0 : Int32) (x1 : Int64) : entryFrame m #[(.int x0), (.long x1)] 3 = mkF m 0 #[.val (.int x0), .val (.long x1), .second] [] := by first | (simp [entryFrame, mkF, argsToLocals, Value.category]; done) | rfl
set_option maxRecDepth 65536 in
set_option maxHeartbeats 40000000 in
theorem rm4_0f (l : Launch) (Z : State) (a0 : Array Value) (hw : ∀ d ∈ tables_1, d.before a0 Z = true) (ws : List Jvm.Cond) (p1 : Int32) (q2 : Int64) (h0 : Heap) (n0 : Nat) (Z0 : n0 ≤ h0.size) (hc1 : p1 = (0 : Int32)) (hc7 : (lcmpW q2 (0 : Int64)) = (0 : Int32)) :
    MetFree l (⟨"com/example/axisplan/axisplan/query/RelationHoldsPinLaw", "expected", "(IJ)Z"⟩ : MethodName) (head1 (Jvm.Cond.code (⟨"com/example/axisplan/axisplan/query/RelationHoldsPinLaw", "expected", "(IJ)Z"⟩ : MethodName) method_3_code 3 (some .boolean) :: ws) ({ frames := 0, cells := 0, slots := 0, locals := 0 } : Room)) (fun a U => a = #[(.int p1), (.long q2)] ∧ Z.Warmed39 U.vm ∧ U.heap = h0) (fun _ _ _ _ _ => True) (fun _ U o U' => ∃ v L, o = .returned v ∧ Qv (some (.int (1 : Int32))) h0 n0 v U'.heap L ∧ FrameEnd U o U' L ({ frames := 0, cells := 0, slots := 0, locals := 0 } : Room).cells ({ frames := 0, cells := 0, slots := 0, locals := 0 } : Room).slots) := by
  refine MetFree.of_bodySF (plainFor_of_name pn_4) hisR ?_
  intro p e s m args below meth c s₁ Bd hml0 hP hK
  obtain ⟨rfl, hZ, hh⟩ := hP
  have hx := Bd.exec
  have hby := Bd.bytes
  have hml : c.maxLocals = 3 := hml0
  have hown : s.vm.findClass "com/example/axisplan/axisplan/query/RelationHoldsPinLaw" = some m.cls := findClass_of_methodNamed Bd.named
  have hnm := (name_of_methodNamed Bd.named Bd.method).1
  have X0 : Stand p l e ({ frames := 0, cells := 0, slots := 0, locals := 0 } : Room) s m #[(.int p1), (.long q2)] below meth c s₁ [] 0 0 := Stand.of_body Bd
  have e0 : s₁.heap = h0 := by rw [← hh, Bd.state]; rfl
  have N0 := Fr.nil n0
  have pre0 : ∀ t, Steps p.tables e below (s₁.setTop (mkF m 0 #[.val (.int p1), .val (.long q2), .second] [])) t → Steps p.tables e below (s₁.setTop (entryFrame m #[(.int p1), (.long q2)] 3)) t := fun t k => castTop (ef_4 m p1 q2) k
  -- 3. LAWS

  obtain ⟨fs, hr, hrun, hended, hW, hsame⟩ := X0.leave (v := some (.int (1 : Int32))) (fun h => by rw [Bd.returns] at h; cases h)
  refine ⟨_, _, pre0 _ ?_, hrun, hended, _, _, rfl, ?_, ⟨_, rfl⟩, hW, hsame.mono (by decide) (by decide)⟩
  -- 4. STEPS
  · show Steps p.tables e below (s₁.setTop (mkF m 0 #[.val (.int p1), .val (.long q2), .second] [])) _
    refine XS.iloadN X0.here hx rfl (hb hby d4_0) rfl ?_
    show Steps p.tables e below (s₁.setTop (mkF m 1 #[.val (.int p1), .val (.long q2), .second] [(.int p1)])) _
    refine XS.ifNo X0.here hx rfl (hb hby d4_1) rfl ((if0 _ _).trans (teq hc1).2) ?_
    show Steps p.tables e below (s₁.setTop (mkF m 4 #[.val (.int p1), .val (.long q2), .second] [])) _
    refine XS.lloadN X0.here hx rfl (hb hby d4_4) rfl ?_
    show Steps p.tables e below (s₁.setTop (mkF m 5 #[.val (.int p1), .val (.long q2), .second] [(.long q2)])) _
    refine XS.lconst X0.here hx rfl (hb hby d4_5) ?_
    show Steps p.tables e below (s₁.setTop (mkF m 6 #[.val (.int p1), .val (.long q2), .second] [(.long (0 : Int64)), (.long q2)])) _
    refine XS.lcmp X0.here hx rfl (hb hby d4_6) rfl ?_
    show Steps p.tables e below (s₁.setTop (mkF m 7 #[.val (.int p1), .val (.long q2), .second] [(.int (lcmpW q2 (0 : Int64)))])) _
    refine XS.ifNo X0.here hx rfl (hb hby d4_7) rfl ((if0 _ _).trans (teq hc7).2) ?_
    show Steps p.tables e below (s₁.setTop (mkF m 10 #[.val (.int p1), .val (.long q2), .second] [])) _
    refine XS.iconst X0.here hx rfl (hb hby d4_10) ?_
    show Steps p.tables e below (s₁.setTop (mkF m 11 #[.val (.int p1), .val (.long q2), .second] [(.int (1 : Int32))])) _
    refine XS.goto X0.here hx rfl (pc0 := 11) (pc' := 15) rfl (hb hby d4_11) (by decide) (by decide) ?_
    show Steps p.tables e below (s₁.setTop (mkF m 15 #[.val (.int p1), .val (.long q2), .second] [(.int (1 : Int32))])) _
    exact retN X0 hx (t := .boolean) Bd.returns (by simp) (hb hby d4_15) hr
  · show Qv (some (.int (1 : Int32))) h0 n0 _ s₁.heap _
    rw [e0]
    exact ⟨rfl, N0, rfl⟩
theorem d4_14 : decode method_3_code 14 = .ok (.iconst 0, 1) := by decide +kernel
set_option maxRecDepth 65536 in
set_option maxHeartbeats 40000000 in
theorem rm4_0t (l : Launch) (Z : State) (a0 : Array Value) (hw : ∀ d ∈ tables_1, d.before a0 Z = true) (ws : List Jvm.Cond) (p1 : Int32) (q2 : Int64) (h0 : Heap) (n0 : Nat) (Z0 : n0 ≤ h0.size) (hc1 : p1 = (0 : Int32)) (hc7 : ¬ ((lcmpW q2 (0 : Int64)) = (0 : Int32))) :
    MetFree l (⟨"com/example/axisplan/axisplan/query/RelationHoldsPinLaw", "expected", "(IJ)Z"⟩ : MethodName) (head1 (Jvm.Cond.code (⟨"com/example/axisplan/axisplan/query/RelationHoldsPinLaw", "expected", "(IJ)Z"⟩ : MethodName) method_3_code 3 (some .boolean) :: ws) ({ frames := 0, cells := 0, slots := 0, locals := 0 } : Room)) (fun a U => a = #[(.int p1), (.long q2)] ∧ Z.Warmed39 U.vm ∧ U.heap = h0) (fun _ _ _ _ _ => True) (fun _ U o U' => ∃ v L, o = .returned v ∧ Qv (some (.int (0 : Int32))) h0 n0 v U'.heap L ∧ FrameEnd U o U' L ({ frames := 0, cells := 0, slots := 0, locals := 0 } : Room).cells ({ frames := 0, cells := 0, slots := 0, locals := 0 } : Room).slots) := by
  refine MetFree.of_bodySF (plainFor_of_name pn_4) hisR ?_
  intro p e s m args below meth c s₁ Bd hml0 hP hK
  obtain ⟨rfl, hZ, hh⟩ := hP
  have hx := Bd.exec
  have hby := Bd.bytes
  have hml : c.maxLocals = 3 := hml0
  have hown : s.vm.findClass "com/example/axisplan/axisplan/query/RelationHoldsPinLaw" = some m.cls := findClass_of_methodNamed Bd.named
  have hnm := (name_of_methodNamed Bd.named Bd.method).1
  have X0 : Stand p l e ({ frames := 0, cells := 0, slots := 0, locals := 0 } : Room) s m #[(.int p1), (.long q2)] below meth c s₁ [] 0 0 := Stand.of_body Bd
  have e0 : s₁.heap = h0 := by rw [← hh, Bd.state]; rfl
  have N0 := Fr.nil n0
  have pre0 : ∀ t, Steps p.tables e below (s₁.setTop (mkF m 0 #[.val (.int p1), .val (.long q2), .second] [])) t → Steps p.tables e below (s₁.setTop (entryFrame m #[(.int p1), (.long q2)] 3)) t := fun t k => castTop (ef_4 m p1 q2) k
  -- 3. LAWS

  obtain ⟨fs, hr, hrun, hended, hW, hsame⟩ := X0.leave (v := some (.int (0 : Int32))) (fun h => by rw [Bd.returns] at h; cases h)
  refine ⟨_, _, pre0 _ ?_, hrun, hended, _, _, rfl, ?_, ⟨_, rfl⟩, hW, hsame.mono (by decide) (by decide)⟩
  -- 4. STEPS
  · show Steps p.tables e below (s₁.setTop (mkF m 0 #[.val (.int p1), .val (.long q2), .second] [])) _
    refine XS.iloadN X0.here hx rfl (hb hby d4_0) rfl ?_
    show Steps p.tables e below (s₁.setTop (mkF m 1 #[.val (.int p1), .val (.long q2), .second] [(.int p1)])) _
    refine XS.ifNo X0.here hx rfl (hb hby d4_1) rfl ((if0 _ _).trans (teq hc1).2) ?_
    show Steps p.tables e below (s₁.setTop (mkF m 4 #[.val (.int p1), .val (.long q2), .second] [])) _
    refine XS.lloadN X0.here hx rfl (hb hby d4_4) rfl ?_
    show Steps p.tables e below (s₁.setTop (mkF m 5 #[.val (.int p1), .val (.long q2), .second] [(.long q2)])) _
    refine XS.lconst X0.here hx rfl (hb hby d4_5) ?_
    show Steps p.tables e below (s₁.setTop (mkF m 6 #[.val (.int p1), .val (.long q2), .second] [(.long (0 : Int64)), (.long q2)])) _
    refine XS.lcmp X0.here hx rfl (hb hby d4_6) rfl ?_
    show Steps p.tables e below (s₁.setTop (mkF m 7 #[.val (.int p1), .val (.long q2), .second] [(.int (lcmpW q2 (0 : Int64)))])) _
    refine XS.ifYes X0.here hx rfl (pc0 := 7) (pc' := 14) rfl (hb hby d4_7) rfl ((if0 _ _).trans (feq hc7).2) (by decide) (by decide) ?_
    show Steps p.tables e below (s₁.setTop (mkF m 14 #[.val (.int p1), .val (.long q2), .second] [])) _
    refine XS.iconst X0.here hx rfl (hb hby d4_14) ?_
    show Steps p.tables e below (s₁.setTop (mkF m 15 #[.val (.int p1), .val (.long q2), .second] [(.int (0 : Int32))])) _
    exact retN X0 hx (t := .boolean) Bd.returns (by simp) (hb hby d4_15) hr
  · show Qv (some (.int (0 : Int32))) h0 n0 _ s₁.heap _
    rw [e0]
    exact ⟨rfl, N0, rfl⟩
theorem d4_16 : decode method_3_code 16 = .ok (.iload_n 0, 1) := by decide +kernel
theorem d4_17 : decode method_3_code 17 = .ok (.iconst 1, 1) := by decide +kernel
theorem d4_18 : decode method_3_code 18 = .ok (.if_icmp .ne 15, 3) := by decide +kernel
theorem d4_21 : decode method_3_code 21 = .ok (.lload_n 1, 1) := by decide +kernel
theorem d4_22 : decode method_3_code 22 = .ok (.lconst 0, 1) := by decide +kernel
theorem d4_23 : decode method_3_code 23 = .ok (.lcmp, 1) := by decide +kernel
theorem d4_24 : decode method_3_code 24 = .ok (.ifCond .eq 7, 3) := by decide +kernel
theorem d4_27 : decode method_3_code 27 = .ok (.iconst 1, 1) := by decide +kernel
theorem d4_28 : decode method_3_code 28 = .ok (.goto 4, 3) := by decide +kernel
theorem d4_32 : decode method_3_code 32 = .ok (.ireturn, 1) := by decide +kernel
set_option maxRecDepth 65536 in
set_option maxHeartbeats 40000000 in
theorem rm4_1f (l : Launch) (Z : State) (a0 : Array Value) (hw : ∀ d ∈ tables_1, d.before a0 Z = true) (ws : List Jvm.Cond) (p1 : Int32) (q2 : Int64) (h0 : Heap) (n0 : Nat) (Z0 : n0 ≤ h0.size) (hc1 : ¬ (p1 = (0 : Int32))) (hc18 : p1 = (1 : Int32)) (hc24 : ¬ ((lcmpW q2 (0 : Int64)) = (0 : Int32))) :
    MetFree l (⟨"com/example/axisplan/axisplan/query/RelationHoldsPinLaw", "expected", "(IJ)Z"⟩ : MethodName) (head1 (Jvm.Cond.code (⟨"com/example/axisplan/axisplan/query/RelationHoldsPinLaw", "expected", "(IJ)Z"⟩ : MethodName) method_3_code 3 (some .boolean) :: ws) ({ frames := 0, cells := 0, slots := 0, locals := 0 } : Room)) (fun a U => a = #[(.int p1), (.long q2)] ∧ Z.Warmed39 U.vm ∧ U.heap = h0) (fun _ _ _ _ _ => True) (fun _ U o U' => ∃ v L, o = .returned v ∧ Qv (some (.int (1 : Int32))) h0 n0 v U'.heap L ∧ FrameEnd U o U' L ({ frames := 0, cells := 0, slots := 0, locals := 0 } : Room).cells ({ frames := 0, cells := 0, slots := 0, locals := 0 } : Room).slots) := by
  refine MetFree.of_bodySF (plainFor_of_name pn_4) hisR ?_
  intro p e s m args below meth c s₁ Bd hml0 hP hK
  obtain ⟨rfl, hZ, hh⟩ := hP
  have hx := Bd.exec
  have hby := Bd.bytes
  have hml : c.maxLocals = 3 := hml0
  have hown : s.vm.findClass "com/example/axisplan/axisplan/query/RelationHoldsPinLaw" = some m.cls := findClass_of_methodNamed Bd.named
  have hnm := (name_of_methodNamed Bd.named Bd.method).1
  have X0 : Stand p l e ({ frames := 0, cells := 0, slots := 0, locals := 0 } : Room) s m #[(.int p1), (.long q2)] below meth c s₁ [] 0 0 := Stand.of_body Bd
  have e0 : s₁.heap = h0 := by rw [← hh, Bd.state]; rfl
  have N0 := Fr.nil n0
  have pre0 : ∀ t, Steps p.tables e below (s₁.setTop (mkF m 0 #[.val (.int p1), .val (.long q2), .second] [])) t → Steps p.tables e below (s₁.setTop (entryFrame m #[(.int p1), (.long q2)] 3)) t := fun t k => castTop (ef_4 m p1 q2) k
  -- 3. LAWS

  obtain ⟨fs, hr, hrun, hended, hW, hsame⟩ := X0.leave (v := some (.int (1 : Int32))) (fun h => by rw [Bd.returns] at h; cases h)
  refine ⟨_, _, pre0 _ ?_, hrun, hended, _, _, rfl, ?_, ⟨_, rfl⟩, hW, hsame.mono (by decide) (by decide)⟩
  -- 4. STEPS
  · show Steps p.tables e below (s₁.setTop (mkF m 0 #[.val (.int p1), .val (.long q2), .second] [])) _
    refine XS.iloadN X0.here hx rfl (hb hby d4_0) rfl ?_
    show Steps p.tables e below (s₁.setTop (mkF m 1 #[.val (.int p1), .val (.long q2), .second] [(.int p1)])) _
    refine XS.ifYes X0.here hx rfl (pc0 := 1) (pc' := 16) rfl (hb hby d4_1) rfl ((if0 _ _).trans (feq hc1).2) (by decide) (by decide) ?_
    show Steps p.tables e below (s₁.setTop (mkF m 16 #[.val (.int p1), .val (.long q2), .second] [])) _
    refine XS.iloadN X0.here hx rfl (hb hby d4_16) rfl ?_
    show Steps p.tables e below (s₁.setTop (mkF m 17 #[.val (.int p1), .val (.long q2), .second] [(.int p1)])) _
    refine XS.iconst X0.here hx rfl (hb hby d4_17) ?_
    show Steps p.tables e below (s₁.setTop (mkF m 18 #[.val (.int p1), .val (.long q2), .second] [(.int (1 : Int32)), (.int p1)])) _
    refine XS.icmpNo X0.here hx rfl (hb hby d4_18) rfl (teq hc18).2 ?_
    show Steps p.tables e below (s₁.setTop (mkF m 21 #[.val (.int p1), .val (.long q2), .second] [])) _
    refine XS.lloadN X0.here hx rfl (hb hby d4_21) rfl ?_
    show Steps p.tables e below (s₁.setTop (mkF m 22 #[.val (.int p1), .val (.long q2), .second] [(.long q2)])) _
    refine XS.lconst X0.here hx rfl (hb hby d4_22) ?_
    show Steps p.tables e below (s₁.setTop (mkF m 23 #[.val (.int p1), .val (.long q2), .second] [(.long (0 : Int64)), (.long q2)])) _
    refine XS.lcmp X0.here hx rfl (hb hby d4_23) rfl ?_
    show Steps p.tables e below (s₁.setTop (mkF m 24 #[.val (.int p1), .val (.long q2), .second] [(.int (lcmpW q2 (0 : Int64)))])) _
    refine XS.ifNo X0.here hx rfl (hb hby d4_24) rfl ((if0 _ _).trans (feq hc24).1) ?_
    show Steps p.tables e below (s₁.setTop (mkF m 27 #[.val (.int p1), .val (.long q2), .second] [])) _
    refine XS.iconst X0.here hx rfl (hb hby d4_27) ?_
    show Steps p.tables e below (s₁.setTop (mkF m 28 #[.val (.int p1), .val (.long q2), .second] [(.int (1 : Int32))])) _
    refine XS.goto X0.here hx rfl (pc0 := 28) (pc' := 32) rfl (hb hby d4_28) (by decide) (by decide) ?_
    show Steps p.tables e below (s₁.setTop (mkF m 32 #[.val (.int p1), .val (.long q2), .second] [(.int (1 : Int32))])) _
    exact retN X0 hx (t := .boolean) Bd.returns (by simp) (hb hby d4_32) hr
  · show Qv (some (.int (1 : Int32))) h0 n0 _ s₁.heap _
    rw [e0]
    exact ⟨rfl, N0, rfl⟩
theorem d4_31 : decode method_3_code 31 = .ok (.iconst 0, 1) := by decide +kernel
set_option maxRecDepth 65536 in
set_option maxHeartbeats 40000000 in
theorem rm4_1t (l : Launch) (Z : State) (a0 : Array Value) (hw : ∀ d ∈ tables_1, d.before a0 Z = true) (ws : List Jvm.Cond) (p1 : Int32) (q2 : Int64) (h0 : Heap) (n0 : Nat) (Z0 : n0 ≤ h0.size) (hc1 : ¬ (p1 = (0 : Int32))) (hc18 : p1 = (1 : Int32)) (hc24 : (lcmpW q2 (0 : Int64)) = (0 : Int32)) :
    MetFree l (⟨"com/example/axisplan/axisplan/query/RelationHoldsPinLaw", "expected", "(IJ)Z"⟩ : MethodName) (head1 (Jvm.Cond.code (⟨"com/example/axisplan/axisplan/query/RelationHoldsPinLaw", "expected", "(IJ)Z"⟩ : MethodName) method_3_code 3 (some .boolean) :: ws) ({ frames := 0, cells := 0, slots := 0, locals := 0 } : Room)) (fun a U => a = #[(.int p1), (.long q2)] ∧ Z.Warmed39 U.vm ∧ U.heap = h0) (fun _ _ _ _ _ => True) (fun _ U o U' => ∃ v L, o = .returned v ∧ Qv (some (.int (0 : Int32))) h0 n0 v U'.heap L ∧ FrameEnd U o U' L ({ frames := 0, cells := 0, slots := 0, locals := 0 } : Room).cells ({ frames := 0, cells := 0, slots := 0, locals := 0 } : Room).slots) := by
  refine MetFree.of_bodySF (plainFor_of_name pn_4) hisR ?_
  intro p e s m args below meth c s₁ Bd hml0 hP hK
  obtain ⟨rfl, hZ, hh⟩ := hP
  have hx := Bd.exec
  have hby := Bd.bytes
  have hml : c.maxLocals = 3 := hml0
  have hown : s.vm.findClass "com/example/axisplan/axisplan/query/RelationHoldsPinLaw" = some m.cls := findClass_of_methodNamed Bd.named
  have hnm := (name_of_methodNamed Bd.named Bd.method).1
  have X0 : Stand p l e ({ frames := 0, cells := 0, slots := 0, locals := 0 } : Room) s m #[(.int p1), (.long q2)] below meth c s₁ [] 0 0 := Stand.of_body Bd
  have e0 : s₁.heap = h0 := by rw [← hh, Bd.state]; rfl
  have N0 := Fr.nil n0
  have pre0 : ∀ t, Steps p.tables e below (s₁.setTop (mkF m 0 #[.val (.int p1), .val (.long q2), .second] [])) t → Steps p.tables e below (s₁.setTop (entryFrame m #[(.int p1), (.long q2)] 3)) t := fun t k => castTop (ef_4 m p1 q2) k
  -- 3. LAWS

  obtain ⟨fs, hr, hrun, hended, hW, hsame⟩ := X0.leave (v := some (.int (0 : Int32))) (fun h => by rw [Bd.returns] at h; cases h)
  refine ⟨_, _, pre0 _ ?_, hrun, hended, _, _, rfl, ?_, ⟨_, rfl⟩, hW, hsame.mono (by decide) (by decide)⟩
  -- 4. STEPS
  · show Steps p.tables e below (s₁.setTop (mkF m 0 #[.val (.int p1), .val (.long q2), .second] [])) _
    refine XS.iloadN X0.here hx rfl (hb hby d4_0) rfl ?_
    show Steps p.tables e below (s₁.setTop (mkF m 1 #[.val (.int p1), .val (.long q2), .second] [(.int p1)])) _
    refine XS.ifYes X0.here hx rfl (pc0 := 1) (pc' := 16) rfl (hb hby d4_1) rfl ((if0 _ _).trans (feq hc1).2) (by decide) (by decide) ?_
    show Steps p.tables e below (s₁.setTop (mkF m 16 #[.val (.int p1), .val (.long q2), .second] [])) _
    refine XS.iloadN X0.here hx rfl (hb hby d4_16) rfl ?_
    show Steps p.tables e below (s₁.setTop (mkF m 17 #[.val (.int p1), .val (.long q2), .second] [(.int p1)])) _
    refine XS.iconst X0.here hx rfl (hb hby d4_17) ?_
    show Steps p.tables e below (s₁.setTop (mkF m 18 #[.val (.int p1), .val (.long q2), .second] [(.int (1 : Int32)), (.int p1)])) _
    refine XS.icmpNo X0.here hx rfl (hb hby d4_18) rfl (teq hc18).2 ?_
    show Steps p.tables e below (s₁.setTop (mkF m 21 #[.val (.int p1), .val (.long q2), .second] [])) _
    refine XS.lloadN X0.here hx rfl (hb hby d4_21) rfl ?_
    show Steps p.tables e below (s₁.setTop (mkF m 22 #[.val (.int p1), .val (.long q2), .second] [(.long q2)])) _
    refine XS.lconst X0.here hx rfl (hb hby d4_22) ?_
    show Steps p.tables e below (s₁.setTop (mkF m 23 #[.val (.int p1), .val (.long q2), .second] [(.long (0 : Int64)), (.long q2)])) _
    refine XS.lcmp X0.here hx rfl (hb hby d4_23) rfl ?_
    show Steps p.tables e below (s₁.setTop (mkF m 24 #[.val (.int p1), .val (.long q2), .second] [(.int (lcmpW q2 (0 : Int64)))])) _
    refine XS.ifYes X0.here hx rfl (pc0 := 24) (pc' := 31) rfl (hb hby d4_24) rfl ((if0 _ _).trans (teq hc24).1) (by decide) (by decide) ?_
    show Steps p.tables e below (s₁.setTop (mkF m 31 #[.val (.int p1), .val (.long q2), .second] [])) _
    refine XS.iconst X0.here hx rfl (hb hby d4_31) ?_
    show Steps p.tables e below (s₁.setTop (mkF m 32 #[.val (.int p1), .val (.long q2), .second] [(.int (0 : Int32))])) _
    exact retN X0 hx (t := .boolean) Bd.returns (by simp) (hb hby d4_32) hr
  · show Qv (some (.int (0 : Int32))) h0 n0 _ s₁.heap _
    rw [e0]
    exact ⟨rfl, N0, rfl⟩
theorem d4_33 : decode method_3_code 33 = .ok (.iload_n 0, 1) := by decide +kernel
theorem d4_34 : decode method_3_code 34 = .ok (.iconst 2, 1) := by decide +kernel
theorem d4_35 : decode method_3_code 35 = .ok (.if_icmp .ne 15, 3) := by decide +kernel
theorem d4_38 : decode method_3_code 38 = .ok (.lload_n 1, 1) := by decide +kernel
theorem d4_39 : decode method_3_code 39 = .ok (.lconst 0, 1) := by decide +kernel
theorem d4_40 : decode method_3_code 40 = .ok (.lcmp, 1) := by decide +kernel
theorem d4_41 : decode method_3_code 41 = .ok (.ifCond .ge 7, 3) := by decide +kernel
theorem d4_44 : decode method_3_code 44 = .ok (.iconst 1, 1) := by decide +kernel
theorem d4_45 : decode method_3_code 45 = .ok (.goto 4, 3) := by decide +kernel
theorem d4_49 : decode method_3_code 49 = .ok (.ireturn, 1) := by decide +kernel
set_option maxRecDepth 65536 in
set_option maxHeartbeats 40000000 in
theorem rm4_2f (l : Launch) (Z : State) (a0 : Array Value) (hw : ∀ d ∈ tables_1, d.before a0 Z = true) (ws : List Jvm.Cond) (p1 : Int32) (q2 : Int64) (h0 : Heap) (n0 : Nat) (Z0 : n0 ≤ h0.size) (hc1 : ¬ (p1 = (0 : Int32))) (hc18 : ¬ (p1 = (1 : Int32))) (hc35 : p1 = (2 : Int32)) (hc41 : (lcmpW q2 (0 : Int64)) < (0 : Int32)) :
    MetFree l (⟨"com/example/axisplan/axisplan/query/RelationHoldsPinLaw", "expected", "(IJ)Z"⟩ : MethodName) (head1 (Jvm.Cond.code (⟨"com/example/axisplan/axisplan/query/RelationHoldsPinLaw", "expected", "(IJ)Z"⟩ : MethodName) method_3_code 3 (some .boolean) :: ws) ({ frames := 0, cells := 0, slots := 0, locals := 0 } : Room)) (fun a U => a = #[(.int p1), (.long q2)] ∧ Z.Warmed39 U.vm ∧ U.heap = h0) (fun _ _ _ _ _ => True) (fun _ U o U' => ∃ v L, o = .returned v ∧ Qv (some (.int (1 : Int32))) h0 n0 v U'.heap L ∧ FrameEnd U o U' L ({ frames := 0, cells := 0, slots := 0, locals := 0 } : Room).cells ({ frames := 0, cells := 0, slots := 0, locals := 0 } : Room).slots) := by
  refine MetFree.of_bodySF (plainFor_of_name pn_4) hisR ?_
  intro p e s m args below meth c s₁ Bd hml0 hP hK
  obtain ⟨rfl, hZ, hh⟩ := hP
  have hx := Bd.exec
  have hby := Bd.bytes
  have hml : c.maxLocals = 3 := hml0
  have hown : s.vm.findClass "com/example/axisplan/axisplan/query/RelationHoldsPinLaw" = some m.cls := findClass_of_methodNamed Bd.named
  have hnm := (name_of_methodNamed Bd.named Bd.method).1
  have X0 : Stand p l e ({ frames := 0, cells := 0, slots := 0, locals := 0 } : Room) s m #[(.int p1), (.long q2)] below meth c s₁ [] 0 0 := Stand.of_body Bd
  have e0 : s₁.heap = h0 := by rw [← hh, Bd.state]; rfl
  have N0 := Fr.nil n0
  have pre0 : ∀ t, Steps p.tables e below (s₁.setTop (mkF m 0 #[.val (.int p1), .val (.long q2), .second] [])) t → Steps p.tables e below (s₁.setTop (entryFrame m #[(.int p1), (.long q2)] 3)) t := fun t k => castTop (ef_4 m p1 q2) k
  -- 3. LAWS

  obtain ⟨fs, hr, hrun, hended, hW, hsame⟩ := X0.leave (v := some (.int (1 : Int32))) (fun h => by rw [Bd.returns] at h; cases h)
  refine ⟨_, _, pre0 _ ?_, hrun, hended, _, _, rfl, ?_, ⟨_, rfl⟩, hW, hsame.mono (by decide) (by decide)⟩
  -- 4. STEPS
  · show Steps p.tables e below (s₁.setTop (mkF m 0 #[.val (.int p1), .val (.long q2), .second] [])) _
    refine XS.iloadN X0.here hx rfl (hb hby d4_0) rfl ?_
    show Steps p.tables e below (s₁.setTop (mkF m 1 #[.val (.int p1), .val (.long q2), .second] [(.int p1)])) _
    refine XS.ifYes X0.here hx rfl (pc0 := 1) (pc' := 16) rfl (hb hby d4_1) rfl ((if0 _ _).trans (feq hc1).2) (by decide) (by decide) ?_
    show Steps p.tables e below (s₁.setTop (mkF m 16 #[.val (.int p1), .val (.long q2), .second] [])) _
    refine XS.iloadN X0.here hx rfl (hb hby d4_16) rfl ?_
    show Steps p.tables e below (s₁.setTop (mkF m 17 #[.val (.int p1), .val (.long q2), .second] [(.int p1)])) _
    refine XS.iconst X0.here hx rfl (hb hby d4_17) ?_
    show Steps p.tables e below (s₁.setTop (mkF m 18 #[.val (.int p1), .val (.long q2), .second] [(.int (1 : Int32)), (.int p1)])) _
    refine XS.icmpYes X0.here hx rfl (pc0 := 18) (pc' := 33) rfl (hb hby d4_18) rfl (feq hc18).2 (by decide) (by decide) ?_
    show Steps p.tables e below (s₁.setTop (mkF m 33 #[.val (.int p1), .val (.long q2), .second] [])) _
    refine XS.iloadN X0.here hx rfl (hb hby d4_33) rfl ?_
    show Steps p.tables e below (s₁.setTop (mkF m 34 #[.val (.int p1), .val (.long q2), .second] [(.int p1)])) _
    refine XS.iconst X0.here hx rfl (hb hby d4_34) ?_
    show Steps p.tables e below (s₁.setTop (mkF m 35 #[.val (.int p1), .val (.long q2), .second] [(.int (2 : Int32)), (.int p1)])) _
    refine XS.icmpNo X0.here hx rfl (hb hby d4_35) rfl (teq hc35).2 ?_
    show Steps p.tables e below (s₁.setTop (mkF m 38 #[.val (.int p1), .val (.long q2), .second] [])) _
    refine XS.lloadN X0.here hx rfl (hb hby d4_38) rfl ?_
    show Steps p.tables e below (s₁.setTop (mkF m 39 #[.val (.int p1), .val (.long q2), .second] [(.long q2)])) _
    refine XS.lconst X0.here hx rfl (hb hby d4_39) ?_
    show Steps p.tables e below (s₁.setTop (mkF m 40 #[.val (.int p1), .val (.long q2), .second] [(.long (0 : Int64)), (.long q2)])) _
    refine XS.lcmp X0.here hx rfl (hb hby d4_40) rfl ?_
    show Steps p.tables e below (s₁.setTop (mkF m 41 #[.val (.int p1), .val (.long q2), .second] [(.int (lcmpW q2 (0 : Int64)))])) _
    refine XS.ifNo X0.here hx rfl (hb hby d4_41) rfl ((if0 _ _).trans (tlt hc41).2.1) ?_
    show Steps p.tables e below (s₁.setTop (mkF m 44 #[.val (.int p1), .val (.long q2), .second] [])) _
    refine XS.iconst X0.here hx rfl (hb hby d4_44) ?_
    show Steps p.tables e below (s₁.setTop (mkF m 45 #[.val (.int p1), .val (.long q2), .second] [(.int (1 : Int32))])) _
    refine XS.goto X0.here hx rfl (pc0 := 45) (pc' := 49) rfl (hb hby d4_45) (by decide) (by decide) ?_
    show Steps p.tables e below (s₁.setTop (mkF m 49 #[.val (.int p1), .val (.long q2), .second] [(.int (1 : Int32))])) _
    exact retN X0 hx (t := .boolean) Bd.returns (by simp) (hb hby d4_49) hr
  · show Qv (some (.int (1 : Int32))) h0 n0 _ s₁.heap _
    rw [e0]
    exact ⟨rfl, N0, rfl⟩
theorem d4_48 : decode method_3_code 48 = .ok (.iconst 0, 1) := by decide +kernel
set_option maxRecDepth 65536 in
set_option maxHeartbeats 40000000 in
theorem rm4_2t (l : Launch) (Z : State) (a0 : Array Value) (hw : ∀ d ∈ tables_1, d.before a0 Z = true) (ws : List Jvm.Cond) (p1 : Int32) (q2 : Int64) (h0 : Heap) (n0 : Nat) (Z0 : n0 ≤ h0.size) (hc1 : ¬ (p1 = (0 : Int32))) (hc18 : ¬ (p1 = (1 : Int32))) (hc35 : p1 = (2 : Int32)) (hc41 : ¬ ((lcmpW q2 (0 : Int64)) < (0 : Int32))) :
    MetFree l (⟨"com/example/axisplan/axisplan/query/RelationHoldsPinLaw", "expected", "(IJ)Z"⟩ : MethodName) (head1 (Jvm.Cond.code (⟨"com/example/axisplan/axisplan/query/RelationHoldsPinLaw", "expected", "(IJ)Z"⟩ : MethodName) method_3_code 3 (some .boolean) :: ws) ({ frames := 0, cells := 0, slots := 0, locals := 0 } : Room)) (fun a U => a = #[(.int p1), (.long q2)] ∧ Z.Warmed39 U.vm ∧ U.heap = h0) (fun _ _ _ _ _ => True) (fun _ U o U' => ∃ v L, o = .returned v ∧ Qv (some (.int (0 : Int32))) h0 n0 v U'.heap L ∧ FrameEnd U o U' L ({ frames := 0, cells := 0, slots := 0, locals := 0 } : Room).cells ({ frames := 0, cells := 0, slots := 0, locals := 0 } : Room).slots) := by
  refine MetFree.of_bodySF (plainFor_of_name pn_4) hisR ?_
  intro p e s m args below meth c s₁ Bd hml0 hP hK
  obtain ⟨rfl, hZ, hh⟩ := hP
  have hx := Bd.exec
  have hby := Bd.bytes
  have hml : c.maxLocals = 3 := hml0
  have hown : s.vm.findClass "com/example/axisplan/axisplan/query/RelationHoldsPinLaw" = some m.cls := findClass_of_methodNamed Bd.named
  have hnm := (name_of_methodNamed Bd.named Bd.method).1
  have X0 : Stand p l e ({ frames := 0, cells := 0, slots := 0, locals := 0 } : Room) s m #[(.int p1), (.long q2)] below meth c s₁ [] 0 0 := Stand.of_body Bd
  have e0 : s₁.heap = h0 := by rw [← hh, Bd.state]; rfl
  have N0 := Fr.nil n0
  have pre0 : ∀ t, Steps p.tables e below (s₁.setTop (mkF m 0 #[.val (.int p1), .val (.long q2), .second] [])) t → Steps p.tables e below (s₁.setTop (entryFrame m #[(.int p1), (.long q2)] 3)) t := fun t k => castTop (ef_4 m p1 q2) k
  -- 3. LAWS

  obtain ⟨fs, hr, hrun, hended, hW, hsame⟩ := X0.leave (v := some (.int (0 : Int32))) (fun h => by rw [Bd.returns] at h; cases h)
  refine ⟨_, _, pre0 _ ?_, hrun, hended, _, _, rfl, ?_, ⟨_, rfl⟩, hW, hsame.mono (by decide) (by decide)⟩
  -- 4. STEPS
  · show Steps p.tables e below (s₁.setTop (mkF m 0 #[.val (.int p1), .val (.long q2), .second] [])) _
    refine XS.iloadN X0.here hx rfl (hb hby d4_0) rfl ?_
    show Steps p.tables e below (s₁.setTop (mkF m 1 #[.val (.int p1), .val (.long q2), .second] [(.int p1)])) _
    refine XS.ifYes X0.here hx rfl (pc0 := 1) (pc' := 16) rfl (hb hby d4_1) rfl ((if0 _ _).trans (feq hc1).2) (by decide) (by decide) ?_
    show Steps p.tables e below (s₁.setTop (mkF m 16 #[.val (.int p1), .val (.long q2), .second] [])) _
    refine XS.iloadN X0.here hx rfl (hb hby d4_16) rfl ?_
    show Steps p.tables e below (s₁.setTop (mkF m 17 #[.val (.int p1), .val (.long q2), .second] [(.int p1)])) _
    refine XS.iconst X0.here hx rfl (hb hby d4_17) ?_
    show Steps p.tables e below (s₁.setTop (mkF m 18 #[.val (.int p1), .val (.long q2), .second] [(.int (1 : Int32)), (.int p1)])) _
    refine XS.icmpYes X0.here hx rfl (pc0 := 18) (pc' := 33) rfl (hb hby d4_18) rfl (feq hc18).2 (by decide) (by decide) ?_
    show Steps p.tables e below (s₁.setTop (mkF m 33 #[.val (.int p1), .val (.long q2), .second] [])) _
    refine XS.iloadN X0.here hx rfl (hb hby d4_33) rfl ?_
    show Steps p.tables e below (s₁.setTop (mkF m 34 #[.val (.int p1), .val (.long q2), .second] [(.int p1)])) _
    refine XS.iconst X0.here hx rfl (hb hby d4_34) ?_
    show Steps p.tables e below (s₁.setTop (mkF m 35 #[.val (.int p1), .val (.long q2), .second] [(.int (2 : Int32)), (.int p1)])) _
    refine XS.icmpNo X0.here hx rfl (hb hby d4_35) rfl (teq hc35).2 ?_
    show Steps p.tables e below (s₁.setTop (mkF m 38 #[.val (.int p1), .val (.long q2), .second] [])) _
    refine XS.lloadN X0.here hx rfl (hb hby d4_38) rfl ?_
    show Steps p.tables e below (s₁.setTop (mkF m 39 #[.val (.int p1), .val (.long q2), .second] [(.long q2)])) _
    refine XS.lconst X0.here hx rfl (hb hby d4_39) ?_
    show Steps p.tables e below (s₁.setTop (mkF m 40 #[.val (.int p1), .val (.long q2), .second] [(.long (0 : Int64)), (.long q2)])) _
    refine XS.lcmp X0.here hx rfl (hb hby d4_40) rfl ?_
    show Steps p.tables e below (s₁.setTop (mkF m 41 #[.val (.int p1), .val (.long q2), .second] [(.int (lcmpW q2 (0 : Int64)))])) _
    refine XS.ifYes X0.here hx rfl (pc0 := 41) (pc' := 48) rfl (hb hby d4_41) rfl ((if0 _ _).trans (flt hc41).2.1) (by decide) (by decide) ?_
    show Steps p.tables e below (s₁.setTop (mkF m 48 #[.val (.int p1), .val (.long q2), .second] [])) _
    refine XS.iconst X0.here hx rfl (hb hby d4_48) ?_
    show Steps p.tables e below (s₁.setTop (mkF m 49 #[.val (.int p1), .val (.long q2), .second] [(.int (0 : Int32))])) _
    exact retN X0 hx (t := .boolean) Bd.returns (by simp) (hb hby d4_49) hr
  · show Qv (some (.int (0 : Int32))) h0 n0 _ s₁.heap _
    rw [e0]
    exact ⟨rfl, N0, rfl⟩
theorem d4_50 : decode method_3_code 50 = .ok (.iload_n 0, 1) := by decide +kernel
theorem d4_51 : decode method_3_code 51 = .ok (.iconst 3, 1) := by decide +kernel
theorem d4_52 : decode method_3_code 52 = .ok (.if_icmp .ne 15, 3) := by decide +kernel
theorem d4_55 : decode method_3_code 55 = .ok (.lload_n 1, 1) := by decide +kernel
theorem d4_56 : decode method_3_code 56 = .ok (.lconst 0, 1) := by decide +kernel
theorem d4_57 : decode method_3_code 57 = .ok (.lcmp, 1) := by decide +kernel
theorem d4_58 : decode method_3_code 58 = .ok (.ifCond .gt 7, 3) := by decide +kernel
theorem d4_61 : decode method_3_code 61 = .ok (.iconst 1, 1) := by decide +kernel
theorem d4_62 : decode method_3_code 62 = .ok (.goto 4, 3) := by decide +kernel
theorem d4_66 : decode method_3_code 66 = .ok (.ireturn, 1) := by decide +kernel
set_option maxRecDepth 65536 in
set_option maxHeartbeats 40000000 in
theorem rm4_3f (l : Launch) (Z : State) (a0 : Array Value) (hw : ∀ d ∈ tables_1, d.before a0 Z = true) (ws : List Jvm.Cond) (p1 : Int32) (q2 : Int64) (h0 : Heap) (n0 : Nat) (Z0 : n0 ≤ h0.size) (hc1 : ¬ (p1 = (0 : Int32))) (hc18 : ¬ (p1 = (1 : Int32))) (hc35 : ¬ (p1 = (2 : Int32))) (hc52 : p1 = (3 : Int32)) (hc58 : ¬ ((0 : Int32) < (lcmpW q2 (0 : Int64)))) :
    MetFree l (⟨"com/example/axisplan/axisplan/query/RelationHoldsPinLaw", "expected", "(IJ)Z"⟩ : MethodName) (head1 (Jvm.Cond.code (⟨"com/example/axisplan/axisplan/query/RelationHoldsPinLaw", "expected", "(IJ)Z"⟩ : MethodName) method_3_code 3 (some .boolean) :: ws) ({ frames := 0, cells := 0, slots := 0, locals := 0 } : Room)) (fun a U => a = #[(.int p1), (.long q2)] ∧ Z.Warmed39 U.vm ∧ U.heap = h0) (fun _ _ _ _ _ => True) (fun _ U o U' => ∃ v L, o = .returned v ∧ Qv (some (.int (1 : Int32))) h0 n0 v U'.heap L ∧ FrameEnd U o U' L ({ frames := 0, cells := 0, slots := 0, locals := 0 } : Room).cells ({ frames := 0, cells := 0, slots := 0, locals := 0 } : Room).slots) := by
  refine MetFree.of_bodySF (plainFor_of_name pn_4) hisR ?_
  intro p e s m args below meth c s₁ Bd hml0 hP hK
  obtain ⟨rfl, hZ, hh⟩ := hP
  have hx := Bd.exec
  have hby := Bd.bytes
  have hml : c.maxLocals = 3 := hml0
  have hown : s.vm.findClass "com/example/axisplan/axisplan/query/RelationHoldsPinLaw" = some m.cls := findClass_of_methodNamed Bd.named
  have hnm := (name_of_methodNamed Bd.named Bd.method).1
  have X0 : Stand p l e ({ frames := 0, cells := 0, slots := 0, locals := 0 } : Room) s m #[(.int p1), (.long q2)] below meth c s₁ [] 0 0 := Stand.of_body Bd
  have e0 : s₁.heap = h0 := by rw [← hh, Bd.state]; rfl
  have N0 := Fr.nil n0
  have pre0 : ∀ t, Steps p.tables e below (s₁.setTop (mkF m 0 #[.val (.int p1), .val (.long q2), .second] [])) t → Steps p.tables e below (s₁.setTop (entryFrame m #[(.int p1), (.long q2)] 3)) t := fun t k => castTop (ef_4 m p1 q2) k
  -- 3. LAWS

  obtain ⟨fs, hr, hrun, hended, hW, hsame⟩ := X0.leave (v := some (.int (1 : Int32))) (fun h => by rw [Bd.returns] at h; cases h)
  refine ⟨_, _, pre0 _ ?_, hrun, hended, _, _, rfl, ?_, ⟨_, rfl⟩, hW, hsame.mono (by decide) (by decide)⟩
  -- 4. STEPS
  · show Steps p.tables e below (s₁.setTop (mkF m 0 #[.val (.int p1), .val (.long q2), .second] [])) _
    refine XS.iloadN X0.here hx rfl (hb hby d4_0) rfl ?_
    show Steps p.tables e below (s₁.setTop (mkF m 1 #[.val (.int p1), .val (.long q2), .second] [(.int p1)])) _
    refine XS.ifYes X0.here hx rfl (pc0 := 1) (pc' := 16) rfl (hb hby d4_1) rfl ((if0 _ _).trans (feq hc1).2) (by decide) (by decide) ?_
    show Steps p.tables e below (s₁.setTop (mkF m 16 #[.val (.int p1), .val (.long q2), .second] [])) _
    refine XS.iloadN X0.here hx rfl (hb hby d4_16) rfl ?_
    show Steps p.tables e below (s₁.setTop (mkF m 17 #[.val (.int p1), .val (.long q2), .second] [(.int p1)])) _
    refine XS.iconst X0.here hx rfl (hb hby d4_17) ?_
    show Steps p.tables e below (s₁.setTop (mkF m 18 #[.val (.int p1), .val (.long q2), .second] [(.int (1 : Int32)), (.int p1)])) _
    refine XS.icmpYes X0.here hx rfl (pc0 := 18) (pc' := 33) rfl (hb hby d4_18) rfl (feq hc18).2 (by decide) (by decide) ?_
    show Steps p.tables e below (s₁.setTop (mkF m 33 #[.val (.int p1), .val (.long q2), .second] [])) _
    refine XS.iloadN X0.here hx rfl (hb hby d4_33) rfl ?_
    show Steps p.tables e below (s₁.setTop (mkF m 34 #[.val (.int p1), .val (.long q2), .second] [(.int p1)])) _
    refine XS.iconst X0.here hx rfl (hb hby d4_34) ?_
    show Steps p.tables e below (s₁.setTop (mkF m 35 #[.val (.int p1), .val (.long q2), .second] [(.int (2 : Int32)), (.int p1)])) _
    refine XS.icmpYes X0.here hx rfl (pc0 := 35) (pc' := 50) rfl (hb hby d4_35) rfl (feq hc35).2 (by decide) (by decide) ?_
    show Steps p.tables e below (s₁.setTop (mkF m 50 #[.val (.int p1), .val (.long q2), .second] [])) _
    refine XS.iloadN X0.here hx rfl (hb hby d4_50) rfl ?_
    show Steps p.tables e below (s₁.setTop (mkF m 51 #[.val (.int p1), .val (.long q2), .second] [(.int p1)])) _
    refine XS.iconst X0.here hx rfl (hb hby d4_51) ?_
    show Steps p.tables e below (s₁.setTop (mkF m 52 #[.val (.int p1), .val (.long q2), .second] [(.int (3 : Int32)), (.int p1)])) _
    refine XS.icmpNo X0.here hx rfl (hb hby d4_52) rfl (teq hc52).2 ?_
    show Steps p.tables e below (s₁.setTop (mkF m 55 #[.val (.int p1), .val (.long q2), .second] [])) _
    refine XS.lloadN X0.here hx rfl (hb hby d4_55) rfl ?_
    show Steps p.tables e below (s₁.setTop (mkF m 56 #[.val (.int p1), .val (.long q2), .second] [(.long q2)])) _
    refine XS.lconst X0.here hx rfl (hb hby d4_56) ?_
    show Steps p.tables e below (s₁.setTop (mkF m 57 #[.val (.int p1), .val (.long q2), .second] [(.long (0 : Int64)), (.long q2)])) _
    refine XS.lcmp X0.here hx rfl (hb hby d4_57) rfl ?_
    show Steps p.tables e below (s₁.setTop (mkF m 58 #[.val (.int p1), .val (.long q2), .second] [(.int (lcmpW q2 (0 : Int64)))])) _
    refine XS.ifNo X0.here hx rfl (hb hby d4_58) rfl ((if0 _ _).trans (flt hc58).2.2.1) ?_
    show Steps p.tables e below (s₁.setTop (mkF m 61 #[.val (.int p1), .val (.long q2), .second] [])) _
    refine XS.iconst X0.here hx rfl (hb hby d4_61) ?_
    show Steps p.tables e below (s₁.setTop (mkF m 62 #[.val (.int p1), .val (.long q2), .second] [(.int (1 : Int32))])) _
    refine XS.goto X0.here hx rfl (pc0 := 62) (pc' := 66) rfl (hb hby d4_62) (by decide) (by decide) ?_
    show Steps p.tables e below (s₁.setTop (mkF m 66 #[.val (.int p1), .val (.long q2), .second] [(.int (1 : Int32))])) _
    exact retN X0 hx (t := .boolean) Bd.returns (by simp) (hb hby d4_66) hr
  · show Qv (some (.int (1 : Int32))) h0 n0 _ s₁.heap _
    rw [e0]
    exact ⟨rfl, N0, rfl⟩
theorem d4_65 : decode method_3_code 65 = .ok (.iconst 0, 1) := by decide +kernel
set_option maxRecDepth 65536 in
set_option maxHeartbeats 40000000 in
theorem rm4_3t (l : Launch) (Z : State) (a0 : Array Value) (hw : ∀ d ∈ tables_1, d.before a0 Z = true) (ws : List Jvm.Cond) (p1 : Int32) (q2 : Int64) (h0 : Heap) (n0 : Nat) (Z0 : n0 ≤ h0.size) (hc1 : ¬ (p1 = (0 : Int32))) (hc18 : ¬ (p1 = (1 : Int32))) (hc35 : ¬ (p1 = (2 : Int32))) (hc52 : p1 = (3 : Int32)) (hc58 : (0 : Int32) < (lcmpW q2 (0 : Int64))) :
    MetFree l (⟨"com/example/axisplan/axisplan/query/RelationHoldsPinLaw", "expected", "(IJ)Z"⟩ : MethodName) (head1 (Jvm.Cond.code (⟨"com/example/axisplan/axisplan/query/RelationHoldsPinLaw", "expected", "(IJ)Z"⟩ : MethodName) method_3_code 3 (some .boolean) :: ws) ({ frames := 0, cells := 0, slots := 0, locals := 0 } : Room)) (fun a U => a = #[(.int p1), (.long q2)] ∧ Z.Warmed39 U.vm ∧ U.heap = h0) (fun _ _ _ _ _ => True) (fun _ U o U' => ∃ v L, o = .returned v ∧ Qv (some (.int (0 : Int32))) h0 n0 v U'.heap L ∧ FrameEnd U o U' L ({ frames := 0, cells := 0, slots := 0, locals := 0 } : Room).cells ({ frames := 0, cells := 0, slots := 0, locals := 0 } : Room).slots) := by
  refine MetFree.of_bodySF (plainFor_of_name pn_4) hisR ?_
  intro p e s m args below meth c s₁ Bd hml0 hP hK
  obtain ⟨rfl, hZ, hh⟩ := hP
  have hx := Bd.exec
  have hby := Bd.bytes
  have hml : c.maxLocals = 3 := hml0
  have hown : s.vm.findClass "com/example/axisplan/axisplan/query/RelationHoldsPinLaw" = some m.cls := findClass_of_methodNamed Bd.named
  have hnm := (name_of_methodNamed Bd.named Bd.method).1
  have X0 : Stand p l e ({ frames := 0, cells := 0, slots := 0, locals := 0 } : Room) s m #[(.int p1), (.long q2)] below meth c s₁ [] 0 0 := Stand.of_body Bd
  have e0 : s₁.heap = h0 := by rw [← hh, Bd.state]; rfl
  have N0 := Fr.nil n0
  have pre0 : ∀ t, Steps p.tables e below (s₁.setTop (mkF m 0 #[.val (.int p1), .val (.long q2), .second] [])) t → Steps p.tables e below (s₁.setTop (entryFrame m #[(.int p1), (.long q2)] 3)) t := fun t k => castTop (ef_4 m p1 q2) k
  -- 3. LAWS

  obtain ⟨fs, hr, hrun, hended, hW, hsame⟩ := X0.leave (v := some (.int (0 : Int32))) (fun h => by rw [Bd.returns] at h; cases h)
  refine ⟨_, _, pre0 _ ?_, hrun, hended, _, _, rfl, ?_, ⟨_, rfl⟩, hW, hsame.mono (by decide) (by decide)⟩
  -- 4. STEPS
  · show Steps p.tables e below (s₁.setTop (mkF m 0 #[.val (.int p1), .val (.long q2), .second] [])) _
    refine XS.iloadN X0.here hx rfl (hb hby d4_0) rfl ?_
    show Steps p.tables e below (s₁.setTop (mkF m 1 #[.val (.int p1), .val (.long q2), .second] [(.int p1)])) _
    refine XS.ifYes X0.here hx rfl (pc0 := 1) (pc' := 16) rfl (hb hby d4_1) rfl ((if0 _ _).trans (feq hc1).2) (by decide) (by decide) ?_
    show Steps p.tables e below (s₁.setTop (mkF m 16 #[.val (.int p1), .val (.long q2), .second] [])) _
    refine XS.iloadN X0.here hx rfl (hb hby d4_16) rfl ?_
    show Steps p.tables e below (s₁.setTop (mkF m 17 #[.val (.int p1), .val (.long q2), .second] [(.int p1)])) _
    refine XS.iconst X0.here hx rfl (hb hby d4_17) ?_
    show Steps p.tables e below (s₁.setTop (mkF m 18 #[.val (.int p1), .val (.long q2), .second] [(.int (1 : Int32)), (.int p1)])) _
    refine XS.icmpYes X0.here hx rfl (pc0 := 18) (pc' := 33) rfl (hb hby d4_18) rfl (feq hc18).2 (by decide) (by decide) ?_
    show Steps p.tables e below (s₁.setTop (mkF m 33 #[.val (.int p1), .val (.long q2), .second] [])) _
    refine XS.iloadN X0.here hx rfl (hb hby d4_33) rfl ?_
    show Steps p.tables e below (s₁.setTop (mkF m 34 #[.val (.int p1), .val (.long q2), .second] [(.int p1)])) _
    refine XS.iconst X0.here hx rfl (hb hby d4_34) ?_
    show Steps p.tables e below (s₁.setTop (mkF m 35 #[.val (.int p1), .val (.long q2), .second] [(.int (2 : Int32)), (.int p1)])) _
    refine XS.icmpYes X0.here hx rfl (pc0 := 35) (pc' := 50) rfl (hb hby d4_35) rfl (feq hc35).2 (by decide) (by decide) ?_
    show Steps p.tables e below (s₁.setTop (mkF m 50 #[.val (.int p1), .val (.long q2), .second] [])) _
    refine XS.iloadN X0.here hx rfl (hb hby d4_50) rfl ?_
    show Steps p.tables e below (s₁.setTop (mkF m 51 #[.val (.int p1), .val (.long q2), .second] [(.int p1)])) _
    refine XS.iconst X0.here hx rfl (hb hby d4_51) ?_
    show Steps p.tables e below (s₁.setTop (mkF m 52 #[.val (.int p1), .val (.long q2), .second] [(.int (3 : Int32)), (.int p1)])) _
    refine XS.icmpNo X0.here hx rfl (hb hby d4_52) rfl (teq hc52).2 ?_
    show Steps p.tables e below (s₁.setTop (mkF m 55 #[.val (.int p1), .val (.long q2), .second] [])) _
    refine XS.lloadN X0.here hx rfl (hb hby d4_55) rfl ?_
    show Steps p.tables e below (s₁.setTop (mkF m 56 #[.val (.int p1), .val (.long q2), .second] [(.long q2)])) _
    refine XS.lconst X0.here hx rfl (hb hby d4_56) ?_
    show Steps p.tables e below (s₁.setTop (mkF m 57 #[.val (.int p1), .val (.long q2), .second] [(.long (0 : Int64)), (.long q2)])) _
    refine XS.lcmp X0.here hx rfl (hb hby d4_57) rfl ?_
    show Steps p.tables e below (s₁.setTop (mkF m 58 #[.val (.int p1), .val (.long q2), .second] [(.int (lcmpW q2 (0 : Int64)))])) _
    refine XS.ifYes X0.here hx rfl (pc0 := 58) (pc' := 65) rfl (hb hby d4_58) rfl ((if0 _ _).trans (tlt hc58).2.2.1) (by decide) (by decide) ?_
    show Steps p.tables e below (s₁.setTop (mkF m 65 #[.val (.int p1), .val (.long q2), .second] [])) _
    refine XS.iconst X0.here hx rfl (hb hby d4_65) ?_
    show Steps p.tables e below (s₁.setTop (mkF m 66 #[.val (.int p1), .val (.long q2), .second] [(.int (0 : Int32))])) _
    exact retN X0 hx (t := .boolean) Bd.returns (by simp) (hb hby d4_66) hr
  · show Qv (some (.int (0 : Int32))) h0 n0 _ s₁.heap _
    rw [e0]
    exact ⟨rfl, N0, rfl⟩
theorem d4_67 : decode method_3_code 67 = .ok (.iload_n 0, 1) := by decide +kernel
theorem d4_68 : decode method_3_code 68 = .ok (.iconst 4, 1) := by decide +kernel
theorem d4_69 : decode method_3_code 69 = .ok (.if_icmp .ne 15, 3) := by decide +kernel
theorem d4_72 : decode method_3_code 72 = .ok (.lload_n 1, 1) := by decide +kernel
theorem d4_73 : decode method_3_code 73 = .ok (.lconst 0, 1) := by decide +kernel
theorem d4_74 : decode method_3_code 74 = .ok (.lcmp, 1) := by decide +kernel
theorem d4_75 : decode method_3_code 75 = .ok (.ifCond .le 7, 3) := by decide +kernel
theorem d4_78 : decode method_3_code 78 = .ok (.iconst 1, 1) := by decide +kernel
theorem d4_79 : decode method_3_code 79 = .ok (.goto 4, 3) := by decide +kernel
theorem d4_83 : decode method_3_code 83 = .ok (.ireturn, 1) := by decide +kernel
set_option maxRecDepth 65536 in
set_option maxHeartbeats 40000000 in
theorem rm4_4f (l : Launch) (Z : State) (a0 : Array Value) (hw : ∀ d ∈ tables_1, d.before a0 Z = true) (ws : List Jvm.Cond) (p1 : Int32) (q2 : Int64) (h0 : Heap) (n0 : Nat) (Z0 : n0 ≤ h0.size) (hc1 : ¬ (p1 = (0 : Int32))) (hc18 : ¬ (p1 = (1 : Int32))) (hc35 : ¬ (p1 = (2 : Int32))) (hc52 : ¬ (p1 = (3 : Int32))) (hc69 : p1 = (4 : Int32)) (hc75 : (0 : Int32) < (lcmpW q2 (0 : Int64))) :
    MetFree l (⟨"com/example/axisplan/axisplan/query/RelationHoldsPinLaw", "expected", "(IJ)Z"⟩ : MethodName) (head1 (Jvm.Cond.code (⟨"com/example/axisplan/axisplan/query/RelationHoldsPinLaw", "expected", "(IJ)Z"⟩ : MethodName) method_3_code 3 (some .boolean) :: ws) ({ frames := 0, cells := 0, slots := 0, locals := 0 } : Room)) (fun a U => a = #[(.int p1), (.long q2)] ∧ Z.Warmed39 U.vm ∧ U.heap = h0) (fun _ _ _ _ _ => True) (fun _ U o U' => ∃ v L, o = .returned v ∧ Qv (some (.int (1 : Int32))) h0 n0 v U'.heap L ∧ FrameEnd U o U' L ({ frames := 0, cells := 0, slots := 0, locals := 0 } : Room).cells ({ frames := 0, cells := 0, slots := 0, locals := 0 } : Room).slots) := by
  refine MetFree.of_bodySF (plainFor_of_name pn_4) hisR ?_
  intro p e s m args below meth c s₁ Bd hml0 hP hK
  obtain ⟨rfl, hZ, hh⟩ := hP
  have hx := Bd.exec
  have hby := Bd.bytes
  have hml : c.maxLocals = 3 := hml0
  have hown : s.vm.findClass "com/example/axisplan/axisplan/query/RelationHoldsPinLaw" = some m.cls := findClass_of_methodNamed Bd.named
  have hnm := (name_of_methodNamed Bd.named Bd.method).1
  have X0 : Stand p l e ({ frames := 0, cells := 0, slots := 0, locals := 0 } : Room) s m #[(.int p1), (.long q2)] below meth c s₁ [] 0 0 := Stand.of_body Bd
  have e0 : s₁.heap = h0 := by rw [← hh, Bd.state]; rfl
  have N0 := Fr.nil n0
  have pre0 : ∀ t, Steps p.tables e below (s₁.setTop (mkF m 0 #[.val (.int p1), .val (.long q2), .second] [])) t → Steps p.tables e below (s₁.setTop (entryFrame m #[(.int p1), (.long q2)] 3)) t := fun t k => castTop (ef_4 m p1 q2) k
  -- 3. LAWS

  obtain ⟨fs, hr, hrun, hended, hW, hsame⟩ := X0.leave (v := some (.int (1 : Int32))) (fun h => by rw [Bd.returns] at h; cases h)
  refine ⟨_, _, pre0 _ ?_, hrun, hended, _, _, rfl, ?_, ⟨_, rfl⟩, hW, hsame.mono (by decide) (by decide)⟩
  -- 4. STEPS
  · show Steps p.tables e below (s₁.setTop (mkF m 0 #[.val (.int p1), .val (.long q2), .second] [])) _
    refine XS.iloadN X0.here hx rfl (hb hby d4_0) rfl ?_
    show Steps p.tables e below (s₁.setTop (mkF m 1 #[.val (.int p1), .val (.long q2), .second] [(.int p1)])) _
    refine XS.ifYes X0.here hx rfl (pc0 := 1) (pc' := 16) rfl (hb hby d4_1) rfl ((if0 _ _).trans (feq hc1).2) (by decide) (by decide) ?_
    show Steps p.tables e below (s₁.setTop (mkF m 16 #[.val (.int p1), .val (.long q2), .second] [])) _
    refine XS.iloadN X0.here hx rfl (hb hby d4_16) rfl ?_
    show Steps p.tables e below (s₁.setTop (mkF m 17 #[.val (.int p1), .val (.long q2), .second] [(.int p1)])) _
    refine XS.iconst X0.here hx rfl (hb hby d4_17) ?_
    show Steps p.tables e below (s₁.setTop (mkF m 18 #[.val (.int p1), .val (.long q2), .second] [(.int (1 : Int32)), (.int p1)])) _
    refine XS.icmpYes X0.here hx rfl (pc0 := 18) (pc' := 33) rfl (hb hby d4_18) rfl (feq hc18).2 (by decide) (by decide) ?_
    show Steps p.tables e below (s₁.setTop (mkF m 33 #[.val (.int p1), .val (.long q2), .second] [])) _
    refine XS.iloadN X0.here hx rfl (hb hby d4_33) rfl ?_
    show Steps p.tables e below (s₁.setTop (mkF m 34 #[.val (.int p1), .val (.long q2), .second] [(.int p1)])) _
    refine XS.iconst X0.here hx rfl (hb hby d4_34) ?_
    show Steps p.tables e below (s₁.setTop (mkF m 35 #[.val (.int p1), .val (.long q2), .second] [(.int (2 : Int32)), (.int p1)])) _
    refine XS.icmpYes X0.here hx rfl (pc0 := 35) (pc' := 50) rfl (hb hby d4_35) rfl (feq hc35).2 (by decide) (by decide) ?_
    show Steps p.tables e below (s₁.setTop (mkF m 50 #[.val (.int p1), .val (.long q2), .second] [])) _
    refine XS.iloadN X0.here hx rfl (hb hby d4_50) rfl ?_
    show Steps p.tables e below (s₁.setTop (mkF m 51 #[.val (.int p1), .val (.long q2), .second] [(.int p1)])) _
    refine XS.iconst X0.here hx rfl (hb hby d4_51) ?_
    show Steps p.tables e below (s₁.setTop (mkF m 52 #[.val (.int p1), .val (.long q2), .second] [(.int (3 : Int32)), (.int p1)])) _
    refine XS.icmpYes X0.here hx rfl (pc0 := 52) (pc' := 67) rfl (hb hby d4_52) rfl (feq hc52).2 (by decide) (by decide) ?_
    show Steps p.tables e below (s₁.setTop (mkF m 67 #[.val (.int p1), .val (.long q2), .second] [])) _
    refine XS.iloadN X0.here hx rfl (hb hby d4_67) rfl ?_
    show Steps p.tables e below (s₁.setTop (mkF m 68 #[.val (.int p1), .val (.long q2), .second] [(.int p1)])) _
    refine XS.iconst X0.here hx rfl (hb hby d4_68) ?_
    show Steps p.tables e below (s₁.setTop (mkF m 69 #[.val (.int p1), .val (.long q2), .second] [(.int (4 : Int32)), (.int p1)])) _
    refine XS.icmpNo X0.here hx rfl (hb hby d4_69) rfl (teq hc69).2 ?_
    show Steps p.tables e below (s₁.setTop (mkF m 72 #[.val (.int p1), .val (.long q2), .second] [])) _
    refine XS.lloadN X0.here hx rfl (hb hby d4_72) rfl ?_
    show Steps p.tables e below (s₁.setTop (mkF m 73 #[.val (.int p1), .val (.long q2), .second] [(.long q2)])) _
    refine XS.lconst X0.here hx rfl (hb hby d4_73) ?_
    show Steps p.tables e below (s₁.setTop (mkF m 74 #[.val (.int p1), .val (.long q2), .second] [(.long (0 : Int64)), (.long q2)])) _
    refine XS.lcmp X0.here hx rfl (hb hby d4_74) rfl ?_
    show Steps p.tables e below (s₁.setTop (mkF m 75 #[.val (.int p1), .val (.long q2), .second] [(.int (lcmpW q2 (0 : Int64)))])) _
    refine XS.ifNo X0.here hx rfl (hb hby d4_75) rfl ((if0 _ _).trans (tlt hc75).2.2.2) ?_
    show Steps p.tables e below (s₁.setTop (mkF m 78 #[.val (.int p1), .val (.long q2), .second] [])) _
    refine XS.iconst X0.here hx rfl (hb hby d4_78) ?_
    show Steps p.tables e below (s₁.setTop (mkF m 79 #[.val (.int p1), .val (.long q2), .second] [(.int (1 : Int32))])) _
    refine XS.goto X0.here hx rfl (pc0 := 79) (pc' := 83) rfl (hb hby d4_79) (by decide) (by decide) ?_
    show Steps p.tables e below (s₁.setTop (mkF m 83 #[.val (.int p1), .val (.long q2), .second] [(.int (1 : Int32))])) _
    exact retN X0 hx (t := .boolean) Bd.returns (by simp) (hb hby d4_83) hr
  · show Qv (some (.int (1 : Int32))) h0 n0 _ s₁.heap _
    rw [e0]
    exact ⟨rfl, N0, rfl⟩
theorem d4_82 : decode method_3_code 82 = .ok (.iconst 0, 1) := by decide +kernel
set_option maxRecDepth 65536 in
set_option maxHeartbeats 40000000 in
theorem rm4_4t (l : Launch) (Z : State) (a0 : Array Value) (hw : ∀ d ∈ tables_1, d.before a0 Z = true) (ws : List Jvm.Cond) (p1 : Int32) (q2 : Int64) (h0 : Heap) (n0 : Nat) (Z0 : n0 ≤ h0.size) (hc1 : ¬ (p1 = (0 : Int32))) (hc18 : ¬ (p1 = (1 : Int32))) (hc35 : ¬ (p1 = (2 : Int32))) (hc52 : ¬ (p1 = (3 : Int32))) (hc69 : p1 = (4 : Int32)) (hc75 : ¬ ((0 : Int32) < (lcmpW q2 (0 : Int64)))) :
    MetFree l (⟨"com/example/axisplan/axisplan/query/RelationHoldsPinLaw", "expected", "(IJ)Z"⟩ : MethodName) (head1 (Jvm.Cond.code (⟨"com/example/axisplan/axisplan/query/RelationHoldsPinLaw", "expected", "(IJ)Z"⟩ : MethodName) method_3_code 3 (some .boolean) :: ws) ({ frames := 0, cells := 0, slots := 0, locals := 0 } : Room)) (fun a U => a = #[(.int p1), (.long q2)] ∧ Z.Warmed39 U.vm ∧ U.heap = h0) (fun _ _ _ _ _ => True) (fun _ U o U' => ∃ v L, o = .returned v ∧ Qv (some (.int (0 : Int32))) h0 n0 v U'.heap L ∧ FrameEnd U o U' L ({ frames := 0, cells := 0, slots := 0, locals := 0 } : Room).cells ({ frames := 0, cells := 0, slots := 0, locals := 0 } : Room).slots) := by
  refine MetFree.of_bodySF (plainFor_of_name pn_4) hisR ?_
  intro p e s m args below meth c s₁ Bd hml0 hP hK
  obtain ⟨rfl, hZ, hh⟩ := hP
  have hx := Bd.exec
  have hby := Bd.bytes
  have hml : c.maxLocals = 3 := hml0
  have hown : s.vm.findClass "com/example/axisplan/axisplan/query/RelationHoldsPinLaw" = some m.cls := findClass_of_methodNamed Bd.named
  have hnm := (name_of_methodNamed Bd.named Bd.method).1
  have X0 : Stand p l e ({ frames := 0, cells := 0, slots := 0, locals := 0 } : Room) s m #[(.int p1), (.long q2)] below meth c s₁ [] 0 0 := Stand.of_body Bd
  have e0 : s₁.heap = h0 := by rw [← hh, Bd.state]; rfl
  have N0 := Fr.nil n0
  have pre0 : ∀ t, Steps p.tables e below (s₁.setTop (mkF m 0 #[.val (.int p1), .val (.long q2), .second] [])) t → Steps p.tables e below (s₁.setTop (entryFrame m #[(.int p1), (.long q2)] 3)) t := fun t k => castTop (ef_4 m p1 q2) k
  -- 3. LAWS

  obtain ⟨fs, hr, hrun, hended, hW, hsame⟩ := X0.leave (v := some (.int (0 : Int32))) (fun h => by rw [Bd.returns] at h; cases h)
  refine ⟨_, _, pre0 _ ?_, hrun, hended, _, _, rfl, ?_, ⟨_, rfl⟩, hW, hsame.mono (by decide) (by decide)⟩
  -- 4. STEPS
  · show Steps p.tables e below (s₁.setTop (mkF m 0 #[.val (.int p1), .val (.long q2), .second] [])) _
    refine XS.iloadN X0.here hx rfl (hb hby d4_0) rfl ?_
    show Steps p.tables e below (s₁.setTop (mkF m 1 #[.val (.int p1), .val (.long q2), .second] [(.int p1)])) _
    refine XS.ifYes X0.here hx rfl (pc0 := 1) (pc' := 16) rfl (hb hby d4_1) rfl ((if0 _ _).trans (feq hc1).2) (by decide) (by decide) ?_
    show Steps p.tables e below (s₁.setTop (mkF m 16 #[.val (.int p1), .val (.long q2), .second] [])) _
    refine XS.iloadN X0.here hx rfl (hb hby d4_16) rfl ?_
    show Steps p.tables e below (s₁.setTop (mkF m 17 #[.val (.int p1), .val (.long q2), .second] [(.int p1)])) _
    refine XS.iconst X0.here hx rfl (hb hby d4_17) ?_
    show Steps p.tables e below (s₁.setTop (mkF m 18 #[.val (.int p1), .val (.long q2), .second] [(.int (1 : Int32)), (.int p1)])) _
    refine XS.icmpYes X0.here hx rfl (pc0 := 18) (pc' := 33) rfl (hb hby d4_18) rfl (feq hc18).2 (by decide) (by decide) ?_
    show Steps p.tables e below (s₁.setTop (mkF m 33 #[.val (.int p1), .val (.long q2), .second] [])) _
    refine XS.iloadN X0.here hx rfl (hb hby d4_33) rfl ?_
    show Steps p.tables e below (s₁.setTop (mkF m 34 #[.val (.int p1), .val (.long q2), .second] [(.int p1)])) _
    refine XS.iconst X0.here hx rfl (hb hby d4_34) ?_
    show Steps p.tables e below (s₁.setTop (mkF m 35 #[.val (.int p1), .val (.long q2), .second] [(.int (2 : Int32)), (.int p1)])) _
    refine XS.icmpYes X0.here hx rfl (pc0 := 35) (pc' := 50) rfl (hb hby d4_35) rfl (feq hc35).2 (by decide) (by decide) ?_
    show Steps p.tables e below (s₁.setTop (mkF m 50 #[.val (.int p1), .val (.long q2), .second] [])) _
    refine XS.iloadN X0.here hx rfl (hb hby d4_50) rfl ?_
    show Steps p.tables e below (s₁.setTop (mkF m 51 #[.val (.int p1), .val (.long q2), .second] [(.int p1)])) _
    refine XS.iconst X0.here hx rfl (hb hby d4_51) ?_
    show Steps p.tables e below (s₁.setTop (mkF m 52 #[.val (.int p1), .val (.long q2), .second] [(.int (3 : Int32)), (.int p1)])) _
    refine XS.icmpYes X0.here hx rfl (pc0 := 52) (pc' := 67) rfl (hb hby d4_52) rfl (feq hc52).2 (by decide) (by decide) ?_
    show Steps p.tables e below (s₁.setTop (mkF m 67 #[.val (.int p1), .val (.long q2), .second] [])) _
    refine XS.iloadN X0.here hx rfl (hb hby d4_67) rfl ?_
    show Steps p.tables e below (s₁.setTop (mkF m 68 #[.val (.int p1), .val (.long q2), .second] [(.int p1)])) _
    refine XS.iconst X0.here hx rfl (hb hby d4_68) ?_
    show Steps p.tables e below (s₁.setTop (mkF m 69 #[.val (.int p1), .val (.long q2), .second] [(.int (4 : Int32)), (.int p1)])) _
    refine XS.icmpNo X0.here hx rfl (hb hby d4_69) rfl (teq hc69).2 ?_
    show Steps p.tables e below (s₁.setTop (mkF m 72 #[.val (.int p1), .val (.long q2), .second] [])) _
    refine XS.lloadN X0.here hx rfl (hb hby d4_72) rfl ?_
    show Steps p.tables e below (s₁.setTop (mkF m 73 #[.val (.int p1), .val (.long q2), .second] [(.long q2)])) _
    refine XS.lconst X0.here hx rfl (hb hby d4_73) ?_
    show Steps p.tables e below (s₁.setTop (mkF m 74 #[.val (.int p1), .val (.long q2), .second] [(.long (0 : Int64)), (.long q2)])) _
    refine XS.lcmp X0.here hx rfl (hb hby d4_74) rfl ?_
    show Steps p.tables e below (s₁.setTop (mkF m 75 #[.val (.int p1), .val (.long q2), .second] [(.int (lcmpW q2 (0 : Int64)))])) _
    refine XS.ifYes X0.here hx rfl (pc0 := 75) (pc' := 82) rfl (hb hby d4_75) rfl ((if0 _ _).trans (flt hc75).2.2.2) (by decide) (by decide) ?_
    show Steps p.tables e below (s₁.setTop (mkF m 82 #[.val (.int p1), .val (.long q2), .second] [])) _
    refine XS.iconst X0.here hx rfl (hb hby d4_82) ?_
    show Steps p.tables e below (s₁.setTop (mkF m 83 #[.val (.int p1), .val (.long q2), .second] [(.int (0 : Int32))])) _
    exact retN X0 hx (t := .boolean) Bd.returns (by simp) (hb hby d4_83) hr
  · show Qv (some (.int (0 : Int32))) h0 n0 _ s₁.heap _
    rw [e0]
    exact ⟨rfl, N0, rfl⟩
theorem d4_84 : decode method_3_code 84 = .ok (.lload_n 1, 1) := by decide +kernel
theorem d4_85 : decode method_3_code 85 = .ok (.lconst 0, 1) := by decide +kernel
theorem d4_86 : decode method_3_code 86 = .ok (.lcmp, 1) := by decide +kernel
theorem d4_87 : decode method_3_code 87 = .ok (.ifCond .lt 7, 3) := by decide +kernel
theorem d4_90 : decode method_3_code 90 = .ok (.iconst 1, 1) := by decide +kernel
theorem d4_91 : decode method_3_code 91 = .ok (.goto 4, 3) := by decide +kernel
theorem d4_95 : decode method_3_code 95 = .ok (.ireturn, 1) := by decide +kernel
set_option maxRecDepth 65536 in
set_option maxHeartbeats 40000000 in
theorem rm4_5f (l : Launch) (Z : State) (a0 : Array Value) (hw : ∀ d ∈ tables_1, d.before a0 Z = true) (ws : List Jvm.Cond) (p1 : Int32) (q2 : Int64) (h0 : Heap) (n0 : Nat) (Z0 : n0 ≤ h0.size) (hc1 : ¬ (p1 = (0 : Int32))) (hc18 : ¬ (p1 = (1 : Int32))) (hc35 : ¬ (p1 = (2 : Int32))) (hc52 : ¬ (p1 = (3 : Int32))) (hc69 : ¬ (p1 = (4 : Int32))) (hc87 : ¬ ((lcmpW q2 (0 : Int64)) < (0 : Int32))) :
    MetFree l (⟨"com/example/axisplan/axisplan/query/RelationHoldsPinLaw", "expected", "(IJ)Z"⟩ : MethodName) (head1 (Jvm.Cond.code (⟨"com/example/axisplan/axisplan/query/RelationHoldsPinLaw", "expected", "(IJ)Z"⟩ : MethodName) method_3_code 3 (some .boolean) :: ws) ({ frames := 0, cells := 0, slots := 0, locals := 0 } : Room)) (fun a U => a = #[(.int p1), (.long q2)] ∧ Z.Warmed39 U.vm ∧ U.heap = h0) (fun _ _ _ _ _ => True) (fun _ U o U' => ∃ v L, o = .returned v ∧ Qv (some (.int (1 : Int32))) h0 n0 v U'.heap L ∧ FrameEnd U o U' L ({ frames := 0, cells := 0, slots := 0, locals := 0 } : Room).cells ({ frames := 0, cells := 0, slots := 0, locals := 0 } : Room).slots) := by
  refine MetFree.of_bodySF (plainFor_of_name pn_4) hisR ?_
  intro p e s m args below meth c s₁ Bd hml0 hP hK
  obtain ⟨rfl, hZ, hh⟩ := hP
  have hx := Bd.exec
  have hby := Bd.bytes
  have hml : c.maxLocals = 3 := hml0
  have hown : s.vm.findClass "com/example/axisplan/axisplan/query/RelationHoldsPinLaw" = some m.cls := findClass_of_methodNamed Bd.named
  have hnm := (name_of_methodNamed Bd.named Bd.method).1
  have X0 : Stand p l e ({ frames := 0, cells := 0, slots := 0, locals := 0 } : Room) s m #[(.int p1), (.long q2)] below meth c s₁ [] 0 0 := Stand.of_body Bd
  have e0 : s₁.heap = h0 := by rw [← hh, Bd.state]; rfl
  have N0 := Fr.nil n0
  have pre0 : ∀ t, Steps p.tables e below (s₁.setTop (mkF m 0 #[.val (.int p1), .val (.long q2), .second] [])) t → Steps p.tables e below (s₁.setTop (entryFrame m #[(.int p1), (.long q2)] 3)) t := fun t k => castTop (ef_4 m p1 q2) k
  -- 3. LAWS

  obtain ⟨fs, hr, hrun, hended, hW, hsame⟩ := X0.leave (v := some (.int (1 : Int32))) (fun h => by rw [Bd.returns] at h; cases h)
  refine ⟨_, _, pre0 _ ?_, hrun, hended, _, _, rfl, ?_, ⟨_, rfl⟩, hW, hsame.mono (by decide) (by decide)⟩
  -- 4. STEPS
  · show Steps p.tables e below (s₁.setTop (mkF m 0 #[.val (.int p1), .val (.long q2), .second] [])) _
    refine XS.iloadN X0.here hx rfl (hb hby d4_0) rfl ?_
    show Steps p.tables e below (s₁.setTop (mkF m 1 #[.val (.int p1), .val (.long q2), .second] [(.int p1)])) _
    refine XS.ifYes X0.here hx rfl (pc0 := 1) (pc' := 16) rfl (hb hby d4_1) rfl ((if0 _ _).trans (feq hc1).2) (by decide) (by decide) ?_
    show Steps p.tables e below (s₁.setTop (mkF m 16 #[.val (.int p1), .val (.long q2), .second] [])) _
    refine XS.iloadN X0.here hx rfl (hb hby d4_16) rfl ?_
    show Steps p.tables e below (s₁.setTop (mkF m 17 #[.val (.int p1), .val (.long q2), .second] [(.int p1)])) _
    refine XS.iconst X0.here hx rfl (hb hby d4_17) ?_
    show Steps p.tables e below (s₁.setTop (mkF m 18 #[.val (.int p1), .val (.long q2), .second] [(.int (1 : Int32)), (.int p1)])) _
    refine XS.icmpYes X0.here hx rfl (pc0 := 18) (pc' := 33) rfl (hb hby d4_18) rfl (feq hc18).2 (by decide) (by decide) ?_
    show Steps p.tables e below (s₁.setTop (mkF m 33 #[.val (.int p1), .val (.long q2), .second] [])) _
    refine XS.iloadN X0.here hx rfl (hb hby d4_33) rfl ?_
    show Steps p.tables e below (s₁.setTop (mkF m 34 #[.val (.int p1), .val (.long q2), .second] [(.int p1)])) _
    refine XS.iconst X0.here hx rfl (hb hby d4_34) ?_
    show Steps p.tables e below (s₁.setTop (mkF m 35 #[.val (.int p1), .val (.long q2), .second] [(.int (2 : Int32)), (.int p1)])) _
    refine XS.icmpYes X0.here hx rfl (pc0 := 35) (pc' := 50) rfl (hb hby d4_35) rfl (feq hc35).2 (by decide) (by decide) ?_
    show Steps p.tables e below (s₁.setTop (mkF m 50 #[.val (.int p1), .val (.long q2), .second] [])) _
    refine XS.iloadN X0.here hx rfl (hb hby d4_50) rfl ?_
    show Steps p.tables e below (s₁.setTop (mkF m 51 #[.val (.int p1), .val (.long q2), .second] [(.int p1)])) _
    refine XS.iconst X0.here hx rfl (hb hby d4_51) ?_
    show Steps p.tables e below (s₁.setTop (mkF m 52 #[.val (.int p1), .val (.long q2), .second] [(.int (3 : Int32)), (.int p1)])) _
    refine XS.icmpYes X0.here hx rfl (pc0 := 52) (pc' := 67) rfl (hb hby d4_52) rfl (feq hc52).2 (by decide) (by decide) ?_
    show Steps p.tables e below (s₁.setTop (mkF m 67 #[.val (.int p1), .val (.long q2), .second] [])) _
    refine XS.iloadN X0.here hx rfl (hb hby d4_67) rfl ?_
    show Steps p.tables e below (s₁.setTop (mkF m 68 #[.val (.int p1), .val (.long q2), .second] [(.int p1)])) _
    refine XS.iconst X0.here hx rfl (hb hby d4_68) ?_
    show Steps p.tables e below (s₁.setTop (mkF m 69 #[.val (.int p1), .val (.long q2), .second] [(.int (4 : Int32)), (.int p1)])) _
    refine XS.icmpYes X0.here hx rfl (pc0 := 69) (pc' := 84) rfl (hb hby d4_69) rfl (feq hc69).2 (by decide) (by decide) ?_
    show Steps p.tables e below (s₁.setTop (mkF m 84 #[.val (.int p1), .val (.long q2), .second] [])) _
    refine XS.lloadN X0.here hx rfl (hb hby d4_84) rfl ?_
    show Steps p.tables e below (s₁.setTop (mkF m 85 #[.val (.int p1), .val (.long q2), .second] [(.long q2)])) _
    refine XS.lconst X0.here hx rfl (hb hby d4_85) ?_
    show Steps p.tables e below (s₁.setTop (mkF m 86 #[.val (.int p1), .val (.long q2), .second] [(.long (0 : Int64)), (.long q2)])) _
    refine XS.lcmp X0.here hx rfl (hb hby d4_86) rfl ?_
    show Steps p.tables e below (s₁.setTop (mkF m 87 #[.val (.int p1), .val (.long q2), .second] [(.int (lcmpW q2 (0 : Int64)))])) _
    refine XS.ifNo X0.here hx rfl (hb hby d4_87) rfl ((if0 _ _).trans (flt hc87).1) ?_
    show Steps p.tables e below (s₁.setTop (mkF m 90 #[.val (.int p1), .val (.long q2), .second] [])) _
    refine XS.iconst X0.here hx rfl (hb hby d4_90) ?_
    show Steps p.tables e below (s₁.setTop (mkF m 91 #[.val (.int p1), .val (.long q2), .second] [(.int (1 : Int32))])) _
    refine XS.goto X0.here hx rfl (pc0 := 91) (pc' := 95) rfl (hb hby d4_91) (by decide) (by decide) ?_
    show Steps p.tables e below (s₁.setTop (mkF m 95 #[.val (.int p1), .val (.long q2), .second] [(.int (1 : Int32))])) _
    exact retN X0 hx (t := .boolean) Bd.returns (by simp) (hb hby d4_95) hr
  · show Qv (some (.int (1 : Int32))) h0 n0 _ s₁.heap _
    rw [e0]
    exact ⟨rfl, N0, rfl⟩
theorem d4_94 : decode method_3_code 94 = .ok (.iconst 0, 1) := by decide +kernel
set_option maxRecDepth 65536 in
set_option maxHeartbeats 40000000 in
theorem rm4_5t (l : Launch) (Z : State) (a0 : Array Value) (hw : ∀ d ∈ tables_1, d.before a0 Z = true) (ws : List Jvm.Cond) (p1 : Int32) (q2 : Int64) (h0 : Heap) (n0 : Nat) (Z0 : n0 ≤ h0.size) (hc1 : ¬ (p1 = (0 : Int32))) (hc18 : ¬ (p1 = (1 : Int32))) (hc35 : ¬ (p1 = (2 : Int32))) (hc52 : ¬ (p1 = (3 : Int32))) (hc69 : ¬ (p1 = (4 : Int32))) (hc87 : (lcmpW q2 (0 : Int64)) < (0 : Int32)) :
    MetFree l (⟨"com/example/axisplan/axisplan/query/RelationHoldsPinLaw", "expected", "(IJ)Z"⟩ : MethodName) (head1 (Jvm.Cond.code (⟨"com/example/axisplan/axisplan/query/RelationHoldsPinLaw", "expected", "(IJ)Z"⟩ : MethodName) method_3_code 3 (some .boolean) :: ws) ({ frames := 0, cells := 0, slots := 0, locals := 0 } : Room)) (fun a U => a = #[(.int p1), (.long q2)] ∧ Z.Warmed39 U.vm ∧ U.heap = h0) (fun _ _ _ _ _ => True) (fun _ U o U' => ∃ v L, o = .returned v ∧ Qv (some (.int (0 : Int32))) h0 n0 v U'.heap L ∧ FrameEnd U o U' L ({ frames := 0, cells := 0, slots := 0, locals := 0 } : Room).cells ({ frames := 0, cells := 0, slots := 0, locals := 0 } : Room).slots) := by
  refine MetFree.of_bodySF (plainFor_of_name pn_4) hisR ?_
  intro p e s m args below meth c s₁ Bd hml0 hP hK
  obtain ⟨rfl, hZ, hh⟩ := hP
  have hx := Bd.exec
  have hby := Bd.bytes
  have hml : c.maxLocals = 3 := hml0
  have hown : s.vm.findClass "com/example/axisplan/axisplan/query/RelationHoldsPinLaw" = some m.cls := findClass_of_methodNamed Bd.named
  have hnm := (name_of_methodNamed Bd.named Bd.method).1
  have X0 : Stand p l e ({ frames := 0, cells := 0, slots := 0, locals := 0 } : Room) s m #[(.int p1), (.long q2)] below meth c s₁ [] 0 0 := Stand.of_body Bd
  have e0 : s₁.heap = h0 := by rw [← hh, Bd.state]; rfl
  have N0 := Fr.nil n0
  have pre0 : ∀ t, Steps p.tables e below (s₁.setTop (mkF m 0 #[.val (.int p1), .val (.long q2), .second] [])) t → Steps p.tables e below (s₁.setTop (entryFrame m #[(.int p1), (.long q2)] 3)) t := fun t k => castTop (ef_4 m p1 q2) k
  -- 3. LAWS

  obtain ⟨fs, hr, hrun, hended, hW, hsame⟩ := X0.leave (v := some (.int (0 : Int32))) (fun h => by rw [Bd.returns] at h; cases h)
  refine ⟨_, _, pre0 _ ?_, hrun, hended, _, _, rfl, ?_, ⟨_, rfl⟩, hW, hsame.mono (by decide) (by decide)⟩
  -- 4. STEPS
  · show Steps p.tables e below (s₁.setTop (mkF m 0 #[.val (.int p1), .val (.long q2), .second] [])) _
    refine XS.iloadN X0.here hx rfl (hb hby d4_0) rfl ?_
    show Steps p.tables e below (s₁.setTop (mkF m 1 #[.val (.int p1), .val (.long q2), .second] [(.int p1)])) _
    refine XS.ifYes X0.here hx rfl (pc0 := 1) (pc' := 16) rfl (hb hby d4_1) rfl ((if0 _ _).trans (feq hc1).2) (by decide) (by decide) ?_
    show Steps p.tables e below (s₁.setTop (mkF m 16 #[.val (.int p1), .val (.long q2), .second] [])) _
    refine XS.iloadN X0.here hx rfl (hb hby d4_16) rfl ?_
    show Steps p.tables e below (s₁.setTop (mkF m 17 #[.val (.int p1), .val (.long q2), .second] [(.int p1)])) _
    refine XS.iconst X0.here hx rfl (hb hby d4_17) ?_
    show Steps p.tables e below (s₁.setTop (mkF m 18 #[.val (.int p1), .val (.long q2), .second] [(.int (1 : Int32)), (.int p1)])) _
    refine XS.icmpYes X0.here hx rfl (pc0 := 18) (pc' := 33) rfl (hb hby d4_18) rfl (feq hc18).2 (by decide) (by decide) ?_
    show Steps p.tables e below (s₁.setTop (mkF m 33 #[.val (.int p1), .val (.long q2), .second] [])) _
    refine XS.iloadN X0.here hx rfl (hb hby d4_33) rfl ?_
    show Steps p.tables e below (s₁.setTop (mkF m 34 #[.val (.int p1), .val (.long q2), .second] [(.int p1)])) _
    refine XS.iconst X0.here hx rfl (hb hby d4_34) ?_
    show Steps p.tables e below (s₁.setTop (mkF m 35 #[.val (.int p1), .val (.long q2), .second] [(.int (2 : Int32)), (.int p1)])) _
    refine XS.icmpYes X0.here hx rfl (pc0 := 35) (pc' := 50) rfl (hb hby d4_35) rfl (feq hc35).2 (by decide) (by decide) ?_
    show Steps p.tables e below (s₁.setTop (mkF m 50 #[.val (.int p1), .val (.long q2), .second] [])) _
    refine XS.iloadN X0.here hx rfl (hb hby d4_50) rfl ?_
    show Steps p.tables e below (s₁.setTop (mkF m 51 #[.val (.int p1), .val (.long q2), .second] [(.int p1)])) _
    refine XS.iconst X0.here hx rfl (hb hby d4_51) ?_
    show Steps p.tables e below (s₁.setTop (mkF m 52 #[.val (.int p1), .val (.long q2), .second] [(.int (3 : Int32)), (.int p1)])) _
    refine XS.icmpYes X0.here hx rfl (pc0 := 52) (pc' := 67) rfl (hb hby d4_52) rfl (feq hc52).2 (by decide) (by decide) ?_
    show Steps p.tables e below (s₁.setTop (mkF m 67 #[.val (.int p1), .val (.long q2), .second] [])) _
    refine XS.iloadN X0.here hx rfl (hb hby d4_67) rfl ?_
    show Steps p.tables e below (s₁.setTop (mkF m 68 #[.val (.int p1), .val (.long q2), .second] [(.int p1)])) _
    refine XS.iconst X0.here hx rfl (hb hby d4_68) ?_
    show Steps p.tables e below (s₁.setTop (mkF m 69 #[.val (.int p1), .val (.long q2), .second] [(.int (4 : Int32)), (.int p1)])) _
    refine XS.icmpYes X0.here hx rfl (pc0 := 69) (pc' := 84) rfl (hb hby d4_69) rfl (feq hc69).2 (by decide) (by decide) ?_
    show Steps p.tables e below (s₁.setTop (mkF m 84 #[.val (.int p1), .val (.long q2), .second] [])) _
    refine XS.lloadN X0.here hx rfl (hb hby d4_84) rfl ?_
    show Steps p.tables e below (s₁.setTop (mkF m 85 #[.val (.int p1), .val (.long q2), .second] [(.long q2)])) _
    refine XS.lconst X0.here hx rfl (hb hby d4_85) ?_
    show Steps p.tables e below (s₁.setTop (mkF m 86 #[.val (.int p1), .val (.long q2), .second] [(.long (0 : Int64)), (.long q2)])) _
    refine XS.lcmp X0.here hx rfl (hb hby d4_86) rfl ?_
    show Steps p.tables e below (s₁.setTop (mkF m 87 #[.val (.int p1), .val (.long q2), .second] [(.int (lcmpW q2 (0 : Int64)))])) _
    refine XS.ifYes X0.here hx rfl (pc0 := 87) (pc' := 94) rfl (hb hby d4_87) rfl ((if0 _ _).trans (tlt hc87).1) (by decide) (by decide) ?_
    show Steps p.tables e below (s₁.setTop (mkF m 94 #[.val (.int p1), .val (.long q2), .second] [])) _
    refine XS.iconst X0.here hx rfl (hb hby d4_94) ?_
    show Steps p.tables e below (s₁.setTop (mkF m 95 #[.val (.int p1), .val (.long q2), .second] [(.int (0 : Int32))])) _
    exact retN X0 hx (t := .boolean) Bd.returns (by simp) (hb hby d4_95) hr
  · show Qv (some (.int (0 : Int32))) h0 n0 _ s₁.heap _
    rw [e0]
    exact ⟨rfl, N0, rfl⟩
theorem pn_0 : plainName "com/example/axisplan/axisplan/query/RelationHoldsPinLaw" = true := by first | (simp [plainName, overriddenIn]; done) | decide +kernel
theorem pd_0_0 : parseMethodDescriptor "(I)Lcom/example/axisplan/axisplan/query/Comparison$Relation;" = some ⟨[.int], some (.object "com/example/axisplan/axisplan/query/Comparison$Relation")⟩ := by decide +kernel
theorem pd_0_1 : parseMethodDescriptor "(DD)Z" = some ⟨[.double, .double], some .boolean⟩ := by decide +kernel
theorem pd_0_3 : parseMethodDescriptor "(IJ)Z" = some ⟨[.int, .long], some .boolean⟩ := by decide +kernel
theorem ef_0 (m : MethodId) (x0 : Int32) (x1 : Int32) (x2 : Int32) (x3 : Int32) : entryFrame m #[(.int x0), (.int x1), (.int x2), (.int x3)] maxLocals = mkF m 0 #[.val (.int x0), .val (.int x1), .val (.int x2), .val (.int x3), .unset, .unset, .unset, .unset, .unset, .unset, .unset, .unset, .unset, .unset, .unset, .unset, .unset, .unset] [] := by first | (simp [entryFrame, mkF, argsToLocals, Value.category, maxLocals]; done) | rfl
set_option maxRecDepth 65536 in
set_option maxHeartbeats 40000000 in
theorem rm0_s00 (l : Launch) (Z : State) (a0 : Array Value) (hw : ∀ d ∈ tables_1, d.before a0 Z = true) (ws : List Jvm.Cond) (p1 : Int32) (p2 : Int32) (p3 : Int32) (p4 : Int32) (h0 : Heap) (n0 : Nat) (Z0 : n0 ≤ h0.size) (kk : Addr) (bb : Int32) (EK : Exa Z h0 kk "com/example/axisplan/axisplan/query/Comparison$Relation") (M1 : MetFree l (⟨"com/example/axisplan/axisplan/query/RelationHoldsPinLaw", "pick", "(I)Lcom/example/axisplan/axisplan/query/Comparison$Relation;"⟩ : MethodName) (head1 (Jvm.Cond.code (⟨"com/example/axisplan/axisplan/query/RelationHoldsPinLaw", "pick", "(I)Lcom/example/axisplan/axisplan/query/Comparison$Relation;"⟩ : MethodName) method_2_code 1 (some (.object "com/example/axisplan/axisplan/query/Comparison$Relation")) :: []) ({ frames := 0, cells := 0, slots := 0, locals := 0 } : Room)) (fun a U => a = #[(.int (own_rem (p1 &&& (2147483647 : Int32)) (6 : Int32)))] ∧ Z.Warmed39 U.vm ∧ U.heap = h0) (fun _ _ _ _ _ => True) (fun _ U o U' => ∃ v L, o = .returned v ∧ Qv (some (.ref kk)) h0 n0 v U'.heap L ∧ FrameEnd U o U' L ({ frames := 0, cells := 0, slots := 0, locals := 0 } : Room).cells ({ frames := 0, cells := 0, slots := 0, locals := 0 } : Room).slots)) (M2 : MetFree l (⟨"com/example/axisplan/axisplan/query/Comparison$Relation", "holds", "(DD)Z"⟩ : MethodName) (head1 (Jvm.Cond.code (⟨"com/example/axisplan/axisplan/query/Comparison$Relation", "holds", "(DD)Z"⟩ : MethodName) prog_24_method_8_code 5 (some .boolean) :: []) ({ frames := 1, cells := 0, slots := 0, locals := 12 } : Room)) (fun a U => a = #[(.ref kk), (.double (FP.i2d p2)), (.double (FP.i2d p3))] ∧ Z.Warmed39 U.vm ∧ U.heap = h0) (fun _ _ _ _ _ => True) (fun _ U o U' => ∃ v L, o = .returned v ∧ Qv (some (.int bb)) h0 n0 v U'.heap L ∧ FrameEnd U o U' L ({ frames := 1, cells := 0, slots := 0, locals := 12 } : Room).cells ({ frames := 1, cells := 0, slots := 0, locals := 12 } : Room).slots)) (M3 : MetFree l (⟨"com/example/axisplan/axisplan/query/RelationHoldsPinLaw", "expected", "(IJ)Z"⟩ : MethodName) (head1 (Jvm.Cond.code (⟨"com/example/axisplan/axisplan/query/RelationHoldsPinLaw", "expected", "(IJ)Z"⟩ : MethodName) method_3_code 3 (some .boolean) :: []) ({ frames := 0, cells := 0, slots := 0, locals := 0 } : Room)) (fun a U => a = #[(.int (own_rem (p1 &&& (2147483647 : Int32)) (6 : Int32))), (.long ((p2.toInt64) - (p3.toInt64)))] ∧ Z.Warmed39 U.vm ∧ U.heap = h0) (fun _ _ _ _ _ => True) (fun _ U o U' => ∃ v L, o = .returned v ∧ Qv (some (.int bb)) h0 n0 v U'.heap L ∧ FrameEnd U o U' L ({ frames := 0, cells := 0, slots := 0, locals := 0 } : Room).cells ({ frames := 0, cells := 0, slots := 0, locals := 0 } : Room).slots)) (hc12 : (p4 &&& (1 : Int32)) = (0 : Int32)) (hc25 : (p4 &&& (2 : Int32)) = (0 : Int32)) :
    MetFree l x (head1 (Jvm.Cond.code x code maxLocals ret :: ws) room_1) (fun a U => a = #[(.int p1), (.int p2), (.int p3), (.int p4)] ∧ Z.Warmed39 U.vm ∧ U.heap = h0) (fun _ _ _ _ _ => True) (fun _ U o U' => ∃ v L, o = .returned v ∧ Ql (some (.int (1 : Int32))) n0 v L ∧ FrameEnd U o U' L room_1.cells room_1.slots) := by
  refine MetFree.of_bodySF (plainFor_of_name pn_0) hisR ?_
  intro p e s m args below meth c s₁ Bd hml0 hP hK
  obtain ⟨rfl, hZ, hh⟩ := hP
  have hx := Bd.exec
  have hby := Bd.bytes
  have hml : c.maxLocals = 18 := hml0
  have hown : s.vm.findClass "com/example/axisplan/axisplan/query/RelationHoldsPinLaw" = some m.cls := findClass_of_methodNamed Bd.named
  have hnm := (name_of_methodNamed Bd.named Bd.method).1
  have X0 : Stand p l e room_1 s m #[(.int p1), (.int p2), (.int p3), (.int p4)] below meth c s₁ [] 0 0 := Stand.of_body Bd
  have e0 : s₁.heap = h0 := by rw [← hh, Bd.state]; rfl
  have N0 := Fr.nil n0
  have pre0 : ∀ t, Steps p.tables e below (s₁.setTop (mkF m 0 #[.val (.int p1), .val (.int p2), .val (.int p3), .val (.int p4), .unset, .unset, .unset, .unset, .unset, .unset, .unset, .unset, .unset, .unset, .unset, .unset, .unset, .unset] [])) t → Steps p.tables e below (s₁.setTop (entryFrame m #[(.int p1), (.int p2), (.int p3), (.int p4)] maxLocals)) t := fun t k => castTop (ef_0 m p1 p2 p3 p4) k
  -- 3. LAWS
  -- pc 104: com/example/axisplan/axisplan/query/RelationHoldsPinLaw.pick by its contract rm1
  obtain ⟨_, _, ⟨T5, L5, k5, n5⟩, -, X5, ⟨Lc5, hQ5, l5, y5, z5⟩, st5⟩ := Jvm.LawKit.callS X0 hx (y := (⟨"com/example/axisplan/axisplan/query/RelationHoldsPinLaw", "pick", "(I)Lcom/example/axisplan/axisplan/query/Comparison$Relation;"⟩ : MethodName)) hown (mvT hZ (hw _ (List.mem_of_getElem? (i := 1) rfl))) (mvT hZ (hw _ (List.mem_of_getElem? (i := 2) rfl))) (mvT hZ (hw _ (List.mem_of_getElem? (i := 3) rfl))) (mvT hZ (hw _ (List.mem_of_getElem? (i := 4) rfl))) (by decide) (backOf (W := 0) M1 hZ (hw _ (List.mem_of_getElem? (i := 4) rfl)) (hw _ (List.mem_of_getElem? (i := 3) rfl)) (by decide) (by decide)) (g := (mkF m 104 #[.val (.int p1), .val (.int p2), .val (.int p3), .val (.int p4), .val (.int (own_rem (p1 &&& (2147483647 : Int32)) (6 : Int32))), .val (.int (0 : Int32)), .val (.int (0 : Int32)), .val (.double (FP.i2d p2)), .second, .val (.double (FP.i2d p3)), .second, .val (.long (p2.toInt64)), .second, .val (.long (p3.toInt64)), .second, .val (.long ((p2.toInt64) - (p3.toInt64))), .second, .unset] [(.int (own_rem (p1 &&& (2147483647 : Int32)) (6 : Int32)))])) rfl (by rw [hml]; rfl) (argsL := [(.int (own_rem (p1 &&& (2147483647 : Int32)) (6 : Int32)))]) (rest := []) (lenOf pd_0_0 rfl) rfl (by show 2 * 0 + _ ≤ _; exact Nat.le_of_eq rfl) (hb hby at_104) (fun _ _ => ⟨rfl, e0, (by decide : 0 + 0 ≤ _), (by decide : 0 + 0 ≤ _)⟩)
  dsimp only [Pt.U, Pt.locs, Pt.cells, Pt.slots] at X5 l5 y5 z5 st5 hQ5
  subst l5 y5 z5
  obtain ⟨rfl, N5q, e5⟩ := hQ5
  have N5 := Fr.app N0 N5q
  -- pc 115: com/example/axisplan/axisplan/query/Comparison$Relation.holds by the contract of the body that the receiver's class selects, rm2
  -- ✋ yours, out of the call's Q: E_kk : Exa Z h0 kk "com/example/axisplan/axisplan/query/Comparison$Relation"
  obtain ⟨cq6, kq6, q6a, q6b, q6c⟩ := isOf hZ rfl (show Exa Z T5.heap kk "com/example/axisplan/axisplan/query/Comparison$Relation" from e5.symm ▸ EK)
  obtain ⟨_, _, ⟨T6, L6, k6, n6⟩, -, X6, ⟨Lc6, hQ6, l6, y6, z6⟩, st6⟩ := X5.virtualBack hx (y := (⟨"com/example/axisplan/axisplan/query/Comparison$Relation", "holds", "(DD)Z"⟩ : MethodName)) (z := (⟨"com/example/axisplan/axisplan/query/Comparison$Relation", "holds", "(DD)Z"⟩ : MethodName)) hown (mvT hZ (hw _ (List.mem_of_getElem? (i := 8) rfl))) (mvT hZ (hw _ (List.mem_of_getElem? (i := 9) rfl))) (notFace_of_selects (args := #[]) (mvT hZ (hw _ (List.mem_of_getElem? (i := 11) rfl)))) (mvT hZ (hw _ (List.mem_of_getElem? (i := 11) rfl))) (mvT hZ (hw _ (List.mem_of_getElem? (i := 10) rfl))) (by decide) (backOf (W := 0) (e5.symm ▸ M2) hZ (hw _ (List.mem_of_getElem? (i := 12) rfl)) (hw _ (List.mem_of_getElem? (i := 6) rfl)) (by decide) (by decide)) q6a q6c (g := (mkF m 115 #[.val (.int p1), .val (.int p2), .val (.int p3), .val (.int p4), .val (.int (own_rem (p1 &&& (2147483647 : Int32)) (6 : Int32))), .val (.int (0 : Int32)), .val (.int (0 : Int32)), .val (.double (FP.i2d p2)), .second, .val (.double (FP.i2d p3)), .second, .val (.long (p2.toInt64)), .second, .val (.long (p3.toInt64)), .second, .val (.long ((p2.toInt64) - (p3.toInt64))), .second, .val (.ref kk)] [(.double (FP.i2d p3)), (.double (FP.i2d p2)), (.ref kk)])) rfl (by rw [hml]; rfl) (Steps.refl _) (argsL := [(.double (FP.i2d p2)), (.double (FP.i2d p3))]) (rest := []) (lenOf pd_0_1 rfl) rfl (by show 2 * 0 + _ ≤ _; exact Nat.le_of_eq rfl) (hb hby at_115) (fun _ _ => ⟨rfl, rfl, (by decide : 0 + 0 ≤ _), (by decide : 0 + 0 ≤ _)⟩)
  dsimp only [Pt.U, Pt.locs, Pt.cells, Pt.slots] at X6 l6 y6 z6 st6 hQ6
  subst l6 y6 z6
  obtain ⟨rfl, N6q, e6⟩ := hQ6
  have N6 := Fr.app N5 N6q
  -- pc 122: com/example/axisplan/axisplan/query/RelationHoldsPinLaw.expected by its contract rm4
  obtain ⟨_, _, ⟨T7, L7, k7, n7⟩, -, X7, ⟨Lc7, hQ7, l7, y7, z7⟩, st7⟩ := Jvm.LawKit.callS X6 hx (y := (⟨"com/example/axisplan/axisplan/query/RelationHoldsPinLaw", "expected", "(IJ)Z"⟩ : MethodName)) hown (mvT hZ (hw _ (List.mem_of_getElem? (i := 22) rfl))) (mvT hZ (hw _ (List.mem_of_getElem? (i := 23) rfl))) (mvT hZ (hw _ (List.mem_of_getElem? (i := 3) rfl))) (mvT hZ (hw _ (List.mem_of_getElem? (i := 24) rfl))) (by decide) (backOf (W := 1) ((e6.trans e5).symm ▸ M3) hZ (hw _ (List.mem_of_getElem? (i := 24) rfl)) (hw _ (List.mem_of_getElem? (i := 3) rfl)) (by decide) (by decide)) (g := (mkF m 122 #[.val (.int p1), .val (.int p2), .val (.int p3), .val (.int p4), .val (.int (own_rem (p1 &&& (2147483647 : Int32)) (6 : Int32))), .val (.int (0 : Int32)), .val (.int (0 : Int32)), .val (.double (FP.i2d p2)), .second, .val (.double (FP.i2d p3)), .second, .val (.long (p2.toInt64)), .second, .val (.long (p3.toInt64)), .second, .val (.long ((p2.toInt64) - (p3.toInt64))), .second, .val (.ref kk)] [(.long ((p2.toInt64) - (p3.toInt64))), (.int (own_rem (p1 &&& (2147483647 : Int32)) (6 : Int32))), (.int bb)])) rfl (by rw [hml]; rfl) (argsL := [(.int (own_rem (p1 &&& (2147483647 : Int32)) (6 : Int32))), (.long ((p2.toInt64) - (p3.toInt64)))]) (rest := [(.int bb)]) (lenOf pd_0_3 rfl) rfl (by show 2 * 0 + _ ≤ _; exact Nat.le_of_eq rfl) (hb hby at_122) (fun _ _ => ⟨rfl, rfl, (by decide : 0 + 0 ≤ _), (by decide : 0 + 0 ≤ _)⟩)
  dsimp only [Pt.U, Pt.locs, Pt.cells, Pt.slots] at X7 l7 y7 z7 st7 hQ7
  subst l7 y7 z7
  obtain ⟨rfl, N7q, e7⟩ := hQ7
  have N7 := Fr.app N6 N7q
  obtain ⟨fs, hr, hrun, hended, hW, hsame⟩ := X7.leave (v := some (.int (1 : Int32))) (fun h => by rw [Bd.returns] at h; cases h)
  refine ⟨_, _, pre0 _ ?_, hrun, hended, _, _, rfl, ?_, ⟨_, rfl⟩, hW, hsame.mono (by decide) (by decide)⟩
  -- 4. STEPS
  · show Steps p.tables e below (s₁.setTop (mkF m 0 #[.val (.int p1), .val (.int p2), .val (.int p3), .val (.int p4), .unset, .unset, .unset, .unset, .unset, .unset, .unset, .unset, .unset, .unset, .unset, .unset, .unset, .unset] [])) _
    refine XS.iloadN X0.here hx rfl (hb hby at_0) rfl ?_
    show Steps p.tables e below (s₁.setTop (mkF m 1 #[.val (.int p1), .val (.int p2), .val (.int p3), .val (.int p4), .unset, .unset, .unset, .unset, .unset, .unset, .unset, .unset, .unset, .unset, .unset, .unset, .unset, .unset] [(.int p1)])) _
    refine X0.ldcInt hx hown (mvT hZ (hw _ (List.mem_of_getElem? (i := 0) rfl))) (g := (mkF m 1 #[.val (.int p1), .val (.int p2), .val (.int p3), .val (.int p4), .unset, .unset, .unset, .unset, .unset, .unset, .unset, .unset, .unset, .unset, .unset, .unset, .unset, .unset] [(.int p1)])) rfl (hb hby at_1) _ ?_
    show Steps p.tables e below (s₁.setTop (mkF m 3 #[.val (.int p1), .val (.int p2), .val (.int p3), .val (.int p4), .unset, .unset, .unset, .unset, .unset, .unset, .unset, .unset, .unset, .unset, .unset, .unset, .unset, .unset] [(.int (2147483647 : Int32)), (.int p1)])) _
    refine XS.iand X0.here hx rfl (hb hby at_3) rfl ?_
    show Steps p.tables e below (s₁.setTop (mkF m 4 #[.val (.int p1), .val (.int p2), .val (.int p3), .val (.int p4), .unset, .unset, .unset, .unset, .unset, .unset, .unset, .unset, .unset, .unset, .unset, .unset, .unset, .unset] [(.int (p1 &&& (2147483647 : Int32)))])) _
    refine XS.bipush X0.here hx rfl (hb hby at_4) ?_
    show Steps p.tables e below (s₁.setTop (mkF m 6 #[.val (.int p1), .val (.int p2), .val (.int p3), .val (.int p4), .unset, .unset, .unset, .unset, .unset, .unset, .unset, .unset, .unset, .unset, .unset, .unset, .unset, .unset] [(.int (6 : Int32)), (.int (p1 &&& (2147483647 : Int32)))])) _
    refine iremM X0 hx rfl (hb hby at_6) rfl (by decide) ?_
    show Steps p.tables e below (s₁.setTop (mkF m 7 #[.val (.int p1), .val (.int p2), .val (.int p3), .val (.int p4), .unset, .unset, .unset, .unset, .unset, .unset, .unset, .unset, .unset, .unset, .unset, .unset, .unset, .unset] [(.int (own_rem (p1 &&& (2147483647 : Int32)) (6 : Int32)))])) _
    refine XS.istore X0.here hx rfl (hb hby at_7) rfl (l' := #[.val (.int p1), .val (.int p2), .val (.int p3), .val (.int p4), .val (.int (own_rem (p1 &&& (2147483647 : Int32)) (6 : Int32))), .unset, .unset, .unset, .unset, .unset, .unset, .unset, .unset, .unset, .unset, .unset, .unset, .unset]) rfl ?_
    show Steps p.tables e below (s₁.setTop (mkF m 9 #[.val (.int p1), .val (.int p2), .val (.int p3), .val (.int p4), .val (.int (own_rem (p1 &&& (2147483647 : Int32)) (6 : Int32))), .unset, .unset, .unset, .unset, .unset, .unset, .unset, .unset, .unset, .unset, .unset, .unset, .unset] [])) _
    refine XS.iloadN X0.here hx rfl (hb hby at_9) rfl ?_
    show Steps p.tables e below (s₁.setTop (mkF m 10 #[.val (.int p1), .val (.int p2), .val (.int p3), .val (.int p4), .val (.int (own_rem (p1 &&& (2147483647 : Int32)) (6 : Int32))), .unset, .unset, .unset, .unset, .unset, .unset, .unset, .unset, .unset, .unset, .unset, .unset, .unset] [(.int p4)])) _
    refine XS.iconst X0.here hx rfl (hb hby at_10) ?_
    show Steps p.tables e below (s₁.setTop (mkF m 11 #[.val (.int p1), .val (.int p2), .val (.int p3), .val (.int p4), .val (.int (own_rem (p1 &&& (2147483647 : Int32)) (6 : Int32))), .unset, .unset, .unset, .unset, .unset, .unset, .unset, .unset, .unset, .unset, .unset, .unset, .unset] [(.int (1 : Int32)), (.int p4)])) _
    refine XS.iand X0.here hx rfl (hb hby at_11) rfl ?_
    show Steps p.tables e below (s₁.setTop (mkF m 12 #[.val (.int p1), .val (.int p2), .val (.int p3), .val (.int p4), .val (.int (own_rem (p1 &&& (2147483647 : Int32)) (6 : Int32))), .unset, .unset, .unset, .unset, .unset, .unset, .unset, .unset, .unset, .unset, .unset, .unset, .unset] [(.int (p4 &&& (1 : Int32)))])) _
    refine XS.ifYes X0.here hx rfl (pc0 := 12) (pc' := 19) rfl (hb hby at_12) rfl ((if0 _ _).trans (teq hc12).1) (by decide) (by decide) ?_
    show Steps p.tables e below (s₁.setTop (mkF m 19 #[.val (.int p1), .val (.int p2), .val (.int p3), .val (.int p4), .val (.int (own_rem (p1 &&& (2147483647 : Int32)) (6 : Int32))), .unset, .unset, .unset, .unset, .unset, .unset, .unset, .unset, .unset, .unset, .unset, .unset, .unset] [])) _
    refine XS.iconst X0.here hx rfl (hb hby at_19) ?_
    show Steps p.tables e below (s₁.setTop (mkF m 20 #[.val (.int p1), .val (.int p2), .val (.int p3), .val (.int p4), .val (.int (own_rem (p1 &&& (2147483647 : Int32)) (6 : Int32))), .unset, .unset, .unset, .unset, .unset, .unset, .unset, .unset, .unset, .unset, .unset, .unset, .unset] [(.int (0 : Int32))])) _
    refine XS.istore X0.here hx rfl (hb hby at_20) rfl (l' := #[.val (.int p1), .val (.int p2), .val (.int p3), .val (.int p4), .val (.int (own_rem (p1 &&& (2147483647 : Int32)) (6 : Int32))), .val (.int (0 : Int32)), .unset, .unset, .unset, .unset, .unset, .unset, .unset, .unset, .unset, .unset, .unset, .unset]) rfl ?_
    show Steps p.tables e below (s₁.setTop (mkF m 22 #[.val (.int p1), .val (.int p2), .val (.int p3), .val (.int p4), .val (.int (own_rem (p1 &&& (2147483647 : Int32)) (6 : Int32))), .val (.int (0 : Int32)), .unset, .unset, .unset, .unset, .unset, .unset, .unset, .unset, .unset, .unset, .unset, .unset] [])) _
    refine XS.iloadN X0.here hx rfl (hb hby at_22) rfl ?_
    show Steps p.tables e below (s₁.setTop (mkF m 23 #[.val (.int p1), .val (.int p2), .val (.int p3), .val (.int p4), .val (.int (own_rem (p1 &&& (2147483647 : Int32)) (6 : Int32))), .val (.int (0 : Int32)), .unset, .unset, .unset, .unset, .unset, .unset, .unset, .unset, .unset, .unset, .unset, .unset] [(.int p4)])) _
    refine XS.iconst X0.here hx rfl (hb hby at_23) ?_
    show Steps p.tables e below (s₁.setTop (mkF m 24 #[.val (.int p1), .val (.int p2), .val (.int p3), .val (.int p4), .val (.int (own_rem (p1 &&& (2147483647 : Int32)) (6 : Int32))), .val (.int (0 : Int32)), .unset, .unset, .unset, .unset, .unset, .unset, .unset, .unset, .unset, .unset, .unset, .unset] [(.int (2 : Int32)), (.int p4)])) _
    refine XS.iand X0.here hx rfl (hb hby at_24) rfl ?_
    show Steps p.tables e below (s₁.setTop (mkF m 25 #[.val (.int p1), .val (.int p2), .val (.int p3), .val (.int p4), .val (.int (own_rem (p1 &&& (2147483647 : Int32)) (6 : Int32))), .val (.int (0 : Int32)), .unset, .unset, .unset, .unset, .unset, .unset, .unset, .unset, .unset, .unset, .unset, .unset] [(.int (p4 &&& (2 : Int32)))])) _
    refine XS.ifYes X0.here hx rfl (pc0 := 25) (pc' := 32) rfl (hb hby at_25) rfl ((if0 _ _).trans (teq hc25).1) (by decide) (by decide) ?_
    show Steps p.tables e below (s₁.setTop (mkF m 32 #[.val (.int p1), .val (.int p2), .val (.int p3), .val (.int p4), .val (.int (own_rem (p1 &&& (2147483647 : Int32)) (6 : Int32))), .val (.int (0 : Int32)), .unset, .unset, .unset, .unset, .unset, .unset, .unset, .unset, .unset, .unset, .unset, .unset] [])) _
    refine XS.iconst X0.here hx rfl (hb hby at_32) ?_
    show Steps p.tables e below (s₁.setTop (mkF m 33 #[.val (.int p1), .val (.int p2), .val (.int p3), .val (.int p4), .val (.int (own_rem (p1 &&& (2147483647 : Int32)) (6 : Int32))), .val (.int (0 : Int32)), .unset, .unset, .unset, .unset, .unset, .unset, .unset, .unset, .unset, .unset, .unset, .unset] [(.int (0 : Int32))])) _
    refine XS.istore X0.here hx rfl (hb hby at_33) rfl (l' := #[.val (.int p1), .val (.int p2), .val (.int p3), .val (.int p4), .val (.int (own_rem (p1 &&& (2147483647 : Int32)) (6 : Int32))), .val (.int (0 : Int32)), .val (.int (0 : Int32)), .unset, .unset, .unset, .unset, .unset, .unset, .unset, .unset, .unset, .unset, .unset]) rfl ?_
    show Steps p.tables e below (s₁.setTop (mkF m 35 #[.val (.int p1), .val (.int p2), .val (.int p3), .val (.int p4), .val (.int (own_rem (p1 &&& (2147483647 : Int32)) (6 : Int32))), .val (.int (0 : Int32)), .val (.int (0 : Int32)), .unset, .unset, .unset, .unset, .unset, .unset, .unset, .unset, .unset, .unset, .unset] [])) _
    refine XS.iload X0.here hx rfl (hb hby at_35) rfl ?_
    show Steps p.tables e below (s₁.setTop (mkF m 37 #[.val (.int p1), .val (.int p2), .val (.int p3), .val (.int p4), .val (.int (own_rem (p1 &&& (2147483647 : Int32)) (6 : Int32))), .val (.int (0 : Int32)), .val (.int (0 : Int32)), .unset, .unset, .unset, .unset, .unset, .unset, .unset, .unset, .unset, .unset, .unset] [(.int (0 : Int32))])) _
    refine XS.ifYes X0.here hx rfl (pc0 := 37) (pc' := 46) rfl (hb hby at_37) rfl ((if0 _ _).trans (teq (rfl : (0 : Int32) = (0 : Int32))).1) (by decide) (by decide) ?_
    show Steps p.tables e below (s₁.setTop (mkF m 46 #[.val (.int p1), .val (.int p2), .val (.int p3), .val (.int p4), .val (.int (own_rem (p1 &&& (2147483647 : Int32)) (6 : Int32))), .val (.int (0 : Int32)), .val (.int (0 : Int32)), .unset, .unset, .unset, .unset, .unset, .unset, .unset, .unset, .unset, .unset, .unset] [])) _
    refine XS.iloadN X0.here hx rfl (hb hby at_46) rfl ?_
    show Steps p.tables e below (s₁.setTop (mkF m 47 #[.val (.int p1), .val (.int p2), .val (.int p3), .val (.int p4), .val (.int (own_rem (p1 &&& (2147483647 : Int32)) (6 : Int32))), .val (.int (0 : Int32)), .val (.int (0 : Int32)), .unset, .unset, .unset, .unset, .unset, .unset, .unset, .unset, .unset, .unset, .unset] [(.int p2)])) _
    refine XS.i2dS X0.here hx rfl (hb hby at_47) rfl rfl ?_
    show Steps p.tables e below (s₁.setTop (mkF m 48 #[.val (.int p1), .val (.int p2), .val (.int p3), .val (.int p4), .val (.int (own_rem (p1 &&& (2147483647 : Int32)) (6 : Int32))), .val (.int (0 : Int32)), .val (.int (0 : Int32)), .unset, .unset, .unset, .unset, .unset, .unset, .unset, .unset, .unset, .unset, .unset] [(.double (FP.i2d p2))])) _
    refine XS.dstore X0.here hx rfl (hb hby at_48) rfl (l' := #[.val (.int p1), .val (.int p2), .val (.int p3), .val (.int p4), .val (.int (own_rem (p1 &&& (2147483647 : Int32)) (6 : Int32))), .val (.int (0 : Int32)), .val (.int (0 : Int32)), .val (.double (FP.i2d p2)), .second, .unset, .unset, .unset, .unset, .unset, .unset, .unset, .unset, .unset]) rfl ?_
    show Steps p.tables e below (s₁.setTop (mkF m 50 #[.val (.int p1), .val (.int p2), .val (.int p3), .val (.int p4), .val (.int (own_rem (p1 &&& (2147483647 : Int32)) (6 : Int32))), .val (.int (0 : Int32)), .val (.int (0 : Int32)), .val (.double (FP.i2d p2)), .second, .unset, .unset, .unset, .unset, .unset, .unset, .unset, .unset, .unset] [])) _
    refine XS.iload X0.here hx rfl (hb hby at_50) rfl ?_
    show Steps p.tables e below (s₁.setTop (mkF m 52 #[.val (.int p1), .val (.int p2), .val (.int p3), .val (.int p4), .val (.int (own_rem (p1 &&& (2147483647 : Int32)) (6 : Int32))), .val (.int (0 : Int32)), .val (.int (0 : Int32)), .val (.double (FP.i2d p2)), .second, .unset, .unset, .unset, .unset, .unset, .unset, .unset, .unset, .unset] [(.int (0 : Int32))])) _
    refine XS.ifYes X0.here hx rfl (pc0 := 52) (pc' := 61) rfl (hb hby at_52) rfl ((if0 _ _).trans (teq (rfl : (0 : Int32) = (0 : Int32))).1) (by decide) (by decide) ?_
    show Steps p.tables e below (s₁.setTop (mkF m 61 #[.val (.int p1), .val (.int p2), .val (.int p3), .val (.int p4), .val (.int (own_rem (p1 &&& (2147483647 : Int32)) (6 : Int32))), .val (.int (0 : Int32)), .val (.int (0 : Int32)), .val (.double (FP.i2d p2)), .second, .unset, .unset, .unset, .unset, .unset, .unset, .unset, .unset, .unset] [])) _
    refine XS.iloadN X0.here hx rfl (hb hby at_61) rfl ?_
    show Steps p.tables e below (s₁.setTop (mkF m 62 #[.val (.int p1), .val (.int p2), .val (.int p3), .val (.int p4), .val (.int (own_rem (p1 &&& (2147483647 : Int32)) (6 : Int32))), .val (.int (0 : Int32)), .val (.int (0 : Int32)), .val (.double (FP.i2d p2)), .second, .unset, .unset, .unset, .unset, .unset, .unset, .unset, .unset, .unset] [(.int p3)])) _
    refine XS.i2dS X0.here hx rfl (hb hby at_62) rfl rfl ?_
    show Steps p.tables e below (s₁.setTop (mkF m 63 #[.val (.int p1), .val (.int p2), .val (.int p3), .val (.int p4), .val (.int (own_rem (p1 &&& (2147483647 : Int32)) (6 : Int32))), .val (.int (0 : Int32)), .val (.int (0 : Int32)), .val (.double (FP.i2d p2)), .second, .unset, .unset, .unset, .unset, .unset, .unset, .unset, .unset, .unset] [(.double (FP.i2d p3))])) _
    refine XS.dstore X0.here hx rfl (hb hby at_63) rfl (l' := #[.val (.int p1), .val (.int p2), .val (.int p3), .val (.int p4), .val (.int (own_rem (p1 &&& (2147483647 : Int32)) (6 : Int32))), .val (.int (0 : Int32)), .val (.int (0 : Int32)), .val (.double (FP.i2d p2)), .second, .val (.double (FP.i2d p3)), .second, .unset, .unset, .unset, .unset, .unset, .unset, .unset]) rfl ?_
    show Steps p.tables e below (s₁.setTop (mkF m 65 #[.val (.int p1), .val (.int p2), .val (.int p3), .val (.int p4), .val (.int (own_rem (p1 &&& (2147483647 : Int32)) (6 : Int32))), .val (.int (0 : Int32)), .val (.int (0 : Int32)), .val (.double (FP.i2d p2)), .second, .val (.double (FP.i2d p3)), .second, .unset, .unset, .unset, .unset, .unset, .unset, .unset] [])) _
    refine XS.iload X0.here hx rfl (hb hby at_65) rfl ?_
    show Steps p.tables e below (s₁.setTop (mkF m 67 #[.val (.int p1), .val (.int p2), .val (.int p3), .val (.int p4), .val (.int (own_rem (p1 &&& (2147483647 : Int32)) (6 : Int32))), .val (.int (0 : Int32)), .val (.int (0 : Int32)), .val (.double (FP.i2d p2)), .second, .val (.double (FP.i2d p3)), .second, .unset, .unset, .unset, .unset, .unset, .unset, .unset] [(.int (0 : Int32))])) _
    refine XS.ifYes X0.here hx rfl (pc0 := 67) (pc' := 76) rfl (hb hby at_67) rfl ((if0 _ _).trans (teq (rfl : (0 : Int32) = (0 : Int32))).1) (by decide) (by decide) ?_
    show Steps p.tables e below (s₁.setTop (mkF m 76 #[.val (.int p1), .val (.int p2), .val (.int p3), .val (.int p4), .val (.int (own_rem (p1 &&& (2147483647 : Int32)) (6 : Int32))), .val (.int (0 : Int32)), .val (.int (0 : Int32)), .val (.double (FP.i2d p2)), .second, .val (.double (FP.i2d p3)), .second, .unset, .unset, .unset, .unset, .unset, .unset, .unset] [])) _
    refine XS.iloadN X0.here hx rfl (hb hby at_76) rfl ?_
    show Steps p.tables e below (s₁.setTop (mkF m 77 #[.val (.int p1), .val (.int p2), .val (.int p3), .val (.int p4), .val (.int (own_rem (p1 &&& (2147483647 : Int32)) (6 : Int32))), .val (.int (0 : Int32)), .val (.int (0 : Int32)), .val (.double (FP.i2d p2)), .second, .val (.double (FP.i2d p3)), .second, .unset, .unset, .unset, .unset, .unset, .unset, .unset] [(.int p2)])) _
    refine XS.i2l X0.here hx rfl (hb hby at_77) rfl ?_
    show Steps p.tables e below (s₁.setTop (mkF m 78 #[.val (.int p1), .val (.int p2), .val (.int p3), .val (.int p4), .val (.int (own_rem (p1 &&& (2147483647 : Int32)) (6 : Int32))), .val (.int (0 : Int32)), .val (.int (0 : Int32)), .val (.double (FP.i2d p2)), .second, .val (.double (FP.i2d p3)), .second, .unset, .unset, .unset, .unset, .unset, .unset, .unset] [(.long (p2.toInt64))])) _
    refine XS.lstore X0.here hx rfl (hb hby at_78) rfl (l' := #[.val (.int p1), .val (.int p2), .val (.int p3), .val (.int p4), .val (.int (own_rem (p1 &&& (2147483647 : Int32)) (6 : Int32))), .val (.int (0 : Int32)), .val (.int (0 : Int32)), .val (.double (FP.i2d p2)), .second, .val (.double (FP.i2d p3)), .second, .val (.long (p2.toInt64)), .second, .unset, .unset, .unset, .unset, .unset]) rfl ?_
    show Steps p.tables e below (s₁.setTop (mkF m 80 #[.val (.int p1), .val (.int p2), .val (.int p3), .val (.int p4), .val (.int (own_rem (p1 &&& (2147483647 : Int32)) (6 : Int32))), .val (.int (0 : Int32)), .val (.int (0 : Int32)), .val (.double (FP.i2d p2)), .second, .val (.double (FP.i2d p3)), .second, .val (.long (p2.toInt64)), .second, .unset, .unset, .unset, .unset, .unset] [])) _
    refine XS.iload X0.here hx rfl (hb hby at_80) rfl ?_
    show Steps p.tables e below (s₁.setTop (mkF m 82 #[.val (.int p1), .val (.int p2), .val (.int p3), .val (.int p4), .val (.int (own_rem (p1 &&& (2147483647 : Int32)) (6 : Int32))), .val (.int (0 : Int32)), .val (.int (0 : Int32)), .val (.double (FP.i2d p2)), .second, .val (.double (FP.i2d p3)), .second, .val (.long (p2.toInt64)), .second, .unset, .unset, .unset, .unset, .unset] [(.int (0 : Int32))])) _
    refine XS.ifYes X0.here hx rfl (pc0 := 82) (pc' := 91) rfl (hb hby at_82) rfl ((if0 _ _).trans (teq (rfl : (0 : Int32) = (0 : Int32))).1) (by decide) (by decide) ?_
    show Steps p.tables e below (s₁.setTop (mkF m 91 #[.val (.int p1), .val (.int p2), .val (.int p3), .val (.int p4), .val (.int (own_rem (p1 &&& (2147483647 : Int32)) (6 : Int32))), .val (.int (0 : Int32)), .val (.int (0 : Int32)), .val (.double (FP.i2d p2)), .second, .val (.double (FP.i2d p3)), .second, .val (.long (p2.toInt64)), .second, .unset, .unset, .unset, .unset, .unset] [])) _
    refine XS.iloadN X0.here hx rfl (hb hby at_91) rfl ?_
    show Steps p.tables e below (s₁.setTop (mkF m 92 #[.val (.int p1), .val (.int p2), .val (.int p3), .val (.int p4), .val (.int (own_rem (p1 &&& (2147483647 : Int32)) (6 : Int32))), .val (.int (0 : Int32)), .val (.int (0 : Int32)), .val (.double (FP.i2d p2)), .second, .val (.double (FP.i2d p3)), .second, .val (.long (p2.toInt64)), .second, .unset, .unset, .unset, .unset, .unset] [(.int p3)])) _
    refine XS.i2l X0.here hx rfl (hb hby at_92) rfl ?_
    show Steps p.tables e below (s₁.setTop (mkF m 93 #[.val (.int p1), .val (.int p2), .val (.int p3), .val (.int p4), .val (.int (own_rem (p1 &&& (2147483647 : Int32)) (6 : Int32))), .val (.int (0 : Int32)), .val (.int (0 : Int32)), .val (.double (FP.i2d p2)), .second, .val (.double (FP.i2d p3)), .second, .val (.long (p2.toInt64)), .second, .unset, .unset, .unset, .unset, .unset] [(.long (p3.toInt64))])) _
    refine XS.lstore X0.here hx rfl (hb hby at_93) rfl (l' := #[.val (.int p1), .val (.int p2), .val (.int p3), .val (.int p4), .val (.int (own_rem (p1 &&& (2147483647 : Int32)) (6 : Int32))), .val (.int (0 : Int32)), .val (.int (0 : Int32)), .val (.double (FP.i2d p2)), .second, .val (.double (FP.i2d p3)), .second, .val (.long (p2.toInt64)), .second, .val (.long (p3.toInt64)), .second, .unset, .unset, .unset]) rfl ?_
    show Steps p.tables e below (s₁.setTop (mkF m 95 #[.val (.int p1), .val (.int p2), .val (.int p3), .val (.int p4), .val (.int (own_rem (p1 &&& (2147483647 : Int32)) (6 : Int32))), .val (.int (0 : Int32)), .val (.int (0 : Int32)), .val (.double (FP.i2d p2)), .second, .val (.double (FP.i2d p3)), .second, .val (.long (p2.toInt64)), .second, .val (.long (p3.toInt64)), .second, .unset, .unset, .unset] [])) _
    refine XS.lload X0.here hx rfl (hb hby at_95) rfl ?_
    show Steps p.tables e below (s₁.setTop (mkF m 97 #[.val (.int p1), .val (.int p2), .val (.int p3), .val (.int p4), .val (.int (own_rem (p1 &&& (2147483647 : Int32)) (6 : Int32))), .val (.int (0 : Int32)), .val (.int (0 : Int32)), .val (.double (FP.i2d p2)), .second, .val (.double (FP.i2d p3)), .second, .val (.long (p2.toInt64)), .second, .val (.long (p3.toInt64)), .second, .unset, .unset, .unset] [(.long (p2.toInt64))])) _
    refine XS.lload X0.here hx rfl (hb hby at_97) rfl ?_
    show Steps p.tables e below (s₁.setTop (mkF m 99 #[.val (.int p1), .val (.int p2), .val (.int p3), .val (.int p4), .val (.int (own_rem (p1 &&& (2147483647 : Int32)) (6 : Int32))), .val (.int (0 : Int32)), .val (.int (0 : Int32)), .val (.double (FP.i2d p2)), .second, .val (.double (FP.i2d p3)), .second, .val (.long (p2.toInt64)), .second, .val (.long (p3.toInt64)), .second, .unset, .unset, .unset] [(.long (p3.toInt64)), (.long (p2.toInt64))])) _
    refine XS.lsub X0.here hx rfl (hb hby at_99) rfl ?_
    show Steps p.tables e below (s₁.setTop (mkF m 100 #[.val (.int p1), .val (.int p2), .val (.int p3), .val (.int p4), .val (.int (own_rem (p1 &&& (2147483647 : Int32)) (6 : Int32))), .val (.int (0 : Int32)), .val (.int (0 : Int32)), .val (.double (FP.i2d p2)), .second, .val (.double (FP.i2d p3)), .second, .val (.long (p2.toInt64)), .second, .val (.long (p3.toInt64)), .second, .unset, .unset, .unset] [(.long ((p2.toInt64) - (p3.toInt64)))])) _
    refine XS.lstore X0.here hx rfl (hb hby at_100) rfl (l' := #[.val (.int p1), .val (.int p2), .val (.int p3), .val (.int p4), .val (.int (own_rem (p1 &&& (2147483647 : Int32)) (6 : Int32))), .val (.int (0 : Int32)), .val (.int (0 : Int32)), .val (.double (FP.i2d p2)), .second, .val (.double (FP.i2d p3)), .second, .val (.long (p2.toInt64)), .second, .val (.long (p3.toInt64)), .second, .val (.long ((p2.toInt64) - (p3.toInt64))), .second, .unset]) rfl ?_
    show Steps p.tables e below (s₁.setTop (mkF m 102 #[.val (.int p1), .val (.int p2), .val (.int p3), .val (.int p4), .val (.int (own_rem (p1 &&& (2147483647 : Int32)) (6 : Int32))), .val (.int (0 : Int32)), .val (.int (0 : Int32)), .val (.double (FP.i2d p2)), .second, .val (.double (FP.i2d p3)), .second, .val (.long (p2.toInt64)), .second, .val (.long (p3.toInt64)), .second, .val (.long ((p2.toInt64) - (p3.toInt64))), .second, .unset] [])) _
    refine XS.iload X0.here hx rfl (hb hby at_102) rfl ?_
    show Steps p.tables e below (s₁.setTop (mkF m 104 #[.val (.int p1), .val (.int p2), .val (.int p3), .val (.int p4), .val (.int (own_rem (p1 &&& (2147483647 : Int32)) (6 : Int32))), .val (.int (0 : Int32)), .val (.int (0 : Int32)), .val (.double (FP.i2d p2)), .second, .val (.double (FP.i2d p3)), .second, .val (.long (p2.toInt64)), .second, .val (.long (p3.toInt64)), .second, .val (.long ((p2.toInt64) - (p3.toInt64))), .second, .unset] [(.int (own_rem (p1 &&& (2147483647 : Int32)) (6 : Int32)))])) _
    refine st5 _ ?_
    show Steps p.tables e below (T5.setTop (mkF m 107 #[.val (.int p1), .val (.int p2), .val (.int p3), .val (.int p4), .val (.int (own_rem (p1 &&& (2147483647 : Int32)) (6 : Int32))), .val (.int (0 : Int32)), .val (.int (0 : Int32)), .val (.double (FP.i2d p2)), .second, .val (.double (FP.i2d p3)), .second, .val (.long (p2.toInt64)), .second, .val (.long (p3.toInt64)), .second, .val (.long ((p2.toInt64) - (p3.toInt64))), .second, .unset] [(.ref kk)])) _
    refine XS.astore X5.here hx rfl (hb hby at_107) rfl rfl (l' := #[.val (.int p1), .val (.int p2), .val (.int p3), .val (.int p4), .val (.int (own_rem (p1 &&& (2147483647 : Int32)) (6 : Int32))), .val (.int (0 : Int32)), .val (.int (0 : Int32)), .val (.double (FP.i2d p2)), .second, .val (.double (FP.i2d p3)), .second, .val (.long (p2.toInt64)), .second, .val (.long (p3.toInt64)), .second, .val (.long ((p2.toInt64) - (p3.toInt64))), .second, .val (.ref kk)]) rfl ?_
    show Steps p.tables e below (T5.setTop (mkF m 109 #[.val (.int p1), .val (.int p2), .val (.int p3), .val (.int p4), .val (.int (own_rem (p1 &&& (2147483647 : Int32)) (6 : Int32))), .val (.int (0 : Int32)), .val (.int (0 : Int32)), .val (.double (FP.i2d p2)), .second, .val (.double (FP.i2d p3)), .second, .val (.long (p2.toInt64)), .second, .val (.long (p3.toInt64)), .second, .val (.long ((p2.toInt64) - (p3.toInt64))), .second, .val (.ref kk)] [])) _
    refine XS.aload X5.here hx rfl (hb hby at_109) rfl rfl ?_
    show Steps p.tables e below (T5.setTop (mkF m 111 #[.val (.int p1), .val (.int p2), .val (.int p3), .val (.int p4), .val (.int (own_rem (p1 &&& (2147483647 : Int32)) (6 : Int32))), .val (.int (0 : Int32)), .val (.int (0 : Int32)), .val (.double (FP.i2d p2)), .second, .val (.double (FP.i2d p3)), .second, .val (.long (p2.toInt64)), .second, .val (.long (p3.toInt64)), .second, .val (.long ((p2.toInt64) - (p3.toInt64))), .second, .val (.ref kk)] [(.ref kk)])) _
    refine XS.dload X5.here hx rfl (hb hby at_111) rfl ?_
    show Steps p.tables e below (T5.setTop (mkF m 113 #[.val (.int p1), .val (.int p2), .val (.int p3), .val (.int p4), .val (.int (own_rem (p1 &&& (2147483647 : Int32)) (6 : Int32))), .val (.int (0 : Int32)), .val (.int (0 : Int32)), .val (.double (FP.i2d p2)), .second, .val (.double (FP.i2d p3)), .second, .val (.long (p2.toInt64)), .second, .val (.long (p3.toInt64)), .second, .val (.long ((p2.toInt64) - (p3.toInt64))), .second, .val (.ref kk)] [(.double (FP.i2d p2)), (.ref kk)])) _
    refine XS.dload X5.here hx rfl (hb hby at_113) rfl ?_
    show Steps p.tables e below (T5.setTop (mkF m 115 #[.val (.int p1), .val (.int p2), .val (.int p3), .val (.int p4), .val (.int (own_rem (p1 &&& (2147483647 : Int32)) (6 : Int32))), .val (.int (0 : Int32)), .val (.int (0 : Int32)), .val (.double (FP.i2d p2)), .second, .val (.double (FP.i2d p3)), .second, .val (.long (p2.toInt64)), .second, .val (.long (p3.toInt64)), .second, .val (.long ((p2.toInt64) - (p3.toInt64))), .second, .val (.ref kk)] [(.double (FP.i2d p3)), (.double (FP.i2d p2)), (.ref kk)])) _
    refine st6.trans ?_
    show Steps p.tables e below (T6.setTop (mkF m 118 #[.val (.int p1), .val (.int p2), .val (.int p3), .val (.int p4), .val (.int (own_rem (p1 &&& (2147483647 : Int32)) (6 : Int32))), .val (.int (0 : Int32)), .val (.int (0 : Int32)), .val (.double (FP.i2d p2)), .second, .val (.double (FP.i2d p3)), .second, .val (.long (p2.toInt64)), .second, .val (.long (p3.toInt64)), .second, .val (.long ((p2.toInt64) - (p3.toInt64))), .second, .val (.ref kk)] [(.int bb)])) _
    refine XS.iload X6.here hx rfl (hb hby at_118) rfl ?_
    show Steps p.tables e below (T6.setTop (mkF m 120 #[.val (.int p1), .val (.int p2), .val (.int p3), .val (.int p4), .val (.int (own_rem (p1 &&& (2147483647 : Int32)) (6 : Int32))), .val (.int (0 : Int32)), .val (.int (0 : Int32)), .val (.double (FP.i2d p2)), .second, .val (.double (FP.i2d p3)), .second, .val (.long (p2.toInt64)), .second, .val (.long (p3.toInt64)), .second, .val (.long ((p2.toInt64) - (p3.toInt64))), .second, .val (.ref kk)] [(.int (own_rem (p1 &&& (2147483647 : Int32)) (6 : Int32))), (.int bb)])) _
    refine XS.lload X6.here hx rfl (hb hby at_120) rfl ?_
    show Steps p.tables e below (T6.setTop (mkF m 122 #[.val (.int p1), .val (.int p2), .val (.int p3), .val (.int p4), .val (.int (own_rem (p1 &&& (2147483647 : Int32)) (6 : Int32))), .val (.int (0 : Int32)), .val (.int (0 : Int32)), .val (.double (FP.i2d p2)), .second, .val (.double (FP.i2d p3)), .second, .val (.long (p2.toInt64)), .second, .val (.long (p3.toInt64)), .second, .val (.long ((p2.toInt64) - (p3.toInt64))), .second, .val (.ref kk)] [(.long ((p2.toInt64) - (p3.toInt64))), (.int (own_rem (p1 &&& (2147483647 : Int32)) (6 : Int32))), (.int bb)])) _
    refine st7 _ ?_
    show Steps p.tables e below (T7.setTop (mkF m 125 #[.val (.int p1), .val (.int p2), .val (.int p3), .val (.int p4), .val (.int (own_rem (p1 &&& (2147483647 : Int32)) (6 : Int32))), .val (.int (0 : Int32)), .val (.int (0 : Int32)), .val (.double (FP.i2d p2)), .second, .val (.double (FP.i2d p3)), .second, .val (.long (p2.toInt64)), .second, .val (.long (p3.toInt64)), .second, .val (.long ((p2.toInt64) - (p3.toInt64))), .second, .val (.ref kk)] [(.int bb), (.int bb)])) _
    refine XS.icmpNo X7.here hx rfl (hb hby at_125) rfl (teq (rfl : bb = bb)).2 ?_
    show Steps p.tables e below (T7.setTop (mkF m 128 #[.val (.int p1), .val (.int p2), .val (.int p3), .val (.int p4), .val (.int (own_rem (p1 &&& (2147483647 : Int32)) (6 : Int32))), .val (.int (0 : Int32)), .val (.int (0 : Int32)), .val (.double (FP.i2d p2)), .second, .val (.double (FP.i2d p3)), .second, .val (.long (p2.toInt64)), .second, .val (.long (p3.toInt64)), .second, .val (.long ((p2.toInt64) - (p3.toInt64))), .second, .val (.ref kk)] [])) _
    refine XS.iconst X7.here hx rfl (hb hby at_128) ?_
    show Steps p.tables e below (T7.setTop (mkF m 129 #[.val (.int p1), .val (.int p2), .val (.int p3), .val (.int p4), .val (.int (own_rem (p1 &&& (2147483647 : Int32)) (6 : Int32))), .val (.int (0 : Int32)), .val (.int (0 : Int32)), .val (.double (FP.i2d p2)), .second, .val (.double (FP.i2d p3)), .second, .val (.long (p2.toInt64)), .second, .val (.long (p3.toInt64)), .second, .val (.long ((p2.toInt64) - (p3.toInt64))), .second, .val (.ref kk)] [(.int (1 : Int32))])) _
    refine XS.goto X7.here hx rfl (pc0 := 129) (pc' := 133) rfl (hb hby at_129) (by decide) (by decide) ?_
    show Steps p.tables e below (T7.setTop (mkF m 133 #[.val (.int p1), .val (.int p2), .val (.int p3), .val (.int p4), .val (.int (own_rem (p1 &&& (2147483647 : Int32)) (6 : Int32))), .val (.int (0 : Int32)), .val (.int (0 : Int32)), .val (.double (FP.i2d p2)), .second, .val (.double (FP.i2d p3)), .second, .val (.long (p2.toInt64)), .second, .val (.long (p3.toInt64)), .second, .val (.long ((p2.toInt64) - (p3.toInt64))), .second, .val (.ref kk)] [(.int (1 : Int32))])) _
    exact retN X7 hx (t := .boolean) Bd.returns (by simp) (hb hby at_133) hr
  · show Ql (some (.int (1 : Int32))) n0 _ _
    exact ⟨rfl, N7⟩
theorem rmS00 (l : Launch) (Z : State) (a0 : Array Value) (hw : ∀ d ∈ tables_1, d.before a0 Z = true) (ws : List Jvm.Cond) (p1 p2 p3 p4 : Int32) (h0 : Heap) (n0 : Nat) (Z0 : n0 ≤ h0.size) (s1 : (p4 &&& (1 : Int32)) = (0 : Int32)) (s2 : (p4 &&& (2 : Int32)) = (0 : Int32)) (k_EQUAL : Addr) (S_EQUAL : Sta Z h0 "com/example/axisplan/axisplan/query/Comparison$Relation" "EQUAL" "Lcom/example/axisplan/axisplan/query/Comparison$Relation;" (.ref k_EQUAL)) (E_EQUAL : Exa Z h0 k_EQUAL "com/example/axisplan/axisplan/query/Comparison$Relation") (O_EQUAL : Fld Z h0 k_EQUAL "java/lang/Enum" "ordinal" "I" (.int (0 : Int32))) (k_NOT_EQUAL : Addr) (S_NOT_EQUAL : Sta Z h0 "com/example/axisplan/axisplan/query/Comparison$Relation" "NOT_EQUAL" "Lcom/example/axisplan/axisplan/query/Comparison$Relation;" (.ref k_NOT_EQUAL)) (E_NOT_EQUAL : Exa Z h0 k_NOT_EQUAL "com/example/axisplan/axisplan/query/Comparison$Relation") (O_NOT_EQUAL : Fld Z h0 k_NOT_EQUAL "java/lang/Enum" "ordinal" "I" (.int (1 : Int32))) (k_GREATER : Addr) (S_GREATER : Sta Z h0 "com/example/axisplan/axisplan/query/Comparison$Relation" "GREATER" "Lcom/example/axisplan/axisplan/query/Comparison$Relation;" (.ref k_GREATER)) (E_GREATER : Exa Z h0 k_GREATER "com/example/axisplan/axisplan/query/Comparison$Relation") (O_GREATER : Fld Z h0 k_GREATER "java/lang/Enum" "ordinal" "I" (.int (4 : Int32))) (k_LESS_OR_EQUAL : Addr) (S_LESS_OR_EQUAL : Sta Z h0 "com/example/axisplan/axisplan/query/Comparison$Relation" "LESS_OR_EQUAL" "Lcom/example/axisplan/axisplan/query/Comparison$Relation;" (.ref k_LESS_OR_EQUAL)) (E_LESS_OR_EQUAL : Exa Z h0 k_LESS_OR_EQUAL "com/example/axisplan/axisplan/query/Comparison$Relation") (O_LESS_OR_EQUAL : Fld Z h0 k_LESS_OR_EQUAL "java/lang/Enum" "ordinal" "I" (.int (3 : Int32))) (k_GREATER_OR_EQUAL : Addr) (S_GREATER_OR_EQUAL : Sta Z h0 "com/example/axisplan/axisplan/query/Comparison$Relation" "GREATER_OR_EQUAL" "Lcom/example/axisplan/axisplan/query/Comparison$Relation;" (.ref k_GREATER_OR_EQUAL)) (E_GREATER_OR_EQUAL : Exa Z h0 k_GREATER_OR_EQUAL "com/example/axisplan/axisplan/query/Comparison$Relation") (O_GREATER_OR_EQUAL : Fld Z h0 k_GREATER_OR_EQUAL "java/lang/Enum" "ordinal" "I" (.int (5 : Int32))) (k_LESS : Addr) (S_LESS : Sta Z h0 "com/example/axisplan/axisplan/query/Comparison$Relation" "LESS" "Lcom/example/axisplan/axisplan/query/Comparison$Relation;" (.ref k_LESS)) (E_LESS : Exa Z h0 k_LESS "com/example/axisplan/axisplan/query/Comparison$Relation") (O_LESS : Fld Z h0 k_LESS "java/lang/Enum" "ordinal" "I" (.int (2 : Int32))) :
    MetFree l x (head1 (Jvm.Cond.code x code maxLocals ret :: ws) room_1) (fun a U => a = #[(.int p1), (.int p2), (.int p3), (.int p4)] ∧ Z.Warmed39 U.vm ∧ U.heap = h0) (fun _ _ _ _ _ => True) (fun _ U o U' => ∃ v L, o = .returned v ∧ Ql (some (.int (1 : Int32))) n0 v L ∧ FrameEnd U o U' L room_1.cells room_1.slots) := by
  have hA : FP.Core.DInt (p2.toInt) (FP.i2d p2) := FP.Core.i2d_int p2
  have hB : FP.Core.DInt (p3.toInt) (FP.i2d p3) := FP.Core.i2d_int p3
  obtain ⟨r1, r2, r3, r4⟩ := own_rng p2
  obtain ⟨r5, r6, r7, r8⟩ := own_rng p3
  have hD : (((p2.toInt64) - (p3.toInt64))).toInt = (p2.toInt) - (p3.toInt) := own_sub (own_pos p2) (own_pos p3) (by omega) (by omega) (by omega) (by omega)
  have hl := own_cmp hA hB hD .l
  have hg := own_cmp hA hB hD .g
  by_cases c0 : (own_rem (p1 &&& (2147483647 : Int32)) (6 : Int32)) = (0 : Int32)
  · by_cases hh' : (lcmpW ((p2.toInt64) - (p3.toInt64)) (0 : Int64)) = (0 : Int32)
    · exact rm0_s00 l Z a0 hw ws p1 p2 p3 p4 h0 n0 Z0 k_EQUAL 1 E_EQUAL (rm1_f l Z a0 hw [] _ k_EQUAL h0 n0 Z0 S_EQUAL c0) (rm2_0f l Z a0 hw [] k_EQUAL _ _ h0 n0 Z0 O_EQUAL E_EQUAL (by rw [hl]; exact hh')) (rm4_0f l Z a0 hw [] _ _ h0 n0 Z0 c0 hh') s1 s2
    · exact rm0_s00 l Z a0 hw ws p1 p2 p3 p4 h0 n0 Z0 k_EQUAL 0 E_EQUAL (rm1_f l Z a0 hw [] _ k_EQUAL h0 n0 Z0 S_EQUAL c0) (rm2_0t l Z a0 hw [] k_EQUAL _ _ h0 n0 Z0 O_EQUAL E_EQUAL (by rw [hl]; exact hh')) (rm4_0t l Z a0 hw [] _ _ h0 n0 Z0 c0 hh') s1 s2
  by_cases c1 : (own_rem (p1 &&& (2147483647 : Int32)) (6 : Int32)) = (1 : Int32)
  · by_cases hh' : (lcmpW ((p2.toInt64) - (p3.toInt64)) (0 : Int64)) = (0 : Int32)
    · exact rm0_s00 l Z a0 hw ws p1 p2 p3 p4 h0 n0 Z0 k_NOT_EQUAL 0 E_NOT_EQUAL (rm1_tf l Z a0 hw [] _ k_NOT_EQUAL h0 n0 Z0 S_NOT_EQUAL c0 c1) (rm2_1t l Z a0 hw [] k_NOT_EQUAL _ _ h0 n0 Z0 O_NOT_EQUAL E_NOT_EQUAL (by rw [hl]; exact hh')) (rm4_1t l Z a0 hw [] _ _ h0 n0 Z0 c0 c1 hh') s1 s2
    · exact rm0_s00 l Z a0 hw ws p1 p2 p3 p4 h0 n0 Z0 k_NOT_EQUAL 1 E_NOT_EQUAL (rm1_tf l Z a0 hw [] _ k_NOT_EQUAL h0 n0 Z0 S_NOT_EQUAL c0 c1) (rm2_1f l Z a0 hw [] k_NOT_EQUAL _ _ h0 n0 Z0 O_NOT_EQUAL E_NOT_EQUAL (by rw [hl]; exact hh')) (rm4_1f l Z a0 hw [] _ _ h0 n0 Z0 c0 c1 hh') s1 s2
  by_cases c2 : (own_rem (p1 &&& (2147483647 : Int32)) (6 : Int32)) = (2 : Int32)
  · by_cases hh' : (lcmpW ((p2.toInt64) - (p3.toInt64)) (0 : Int64)) < (0 : Int32)
    · exact rm0_s00 l Z a0 hw ws p1 p2 p3 p4 h0 n0 Z0 k_LESS 1 E_LESS (rm1_ttf l Z a0 hw [] _ k_LESS h0 n0 Z0 S_LESS c0 c1 c2) (rm2_2f l Z a0 hw [] k_LESS _ _ h0 n0 Z0 O_LESS E_LESS (by rw [hg]; exact hh')) (rm4_2f l Z a0 hw [] _ _ h0 n0 Z0 c0 c1 c2 hh') s1 s2
    · exact rm0_s00 l Z a0 hw ws p1 p2 p3 p4 h0 n0 Z0 k_LESS 0 E_LESS (rm1_ttf l Z a0 hw [] _ k_LESS h0 n0 Z0 S_LESS c0 c1 c2) (rm2_2t l Z a0 hw [] k_LESS _ _ h0 n0 Z0 O_LESS E_LESS (by rw [hg]; exact hh')) (rm4_2t l Z a0 hw [] _ _ h0 n0 Z0 c0 c1 c2 hh') s1 s2
  by_cases c3 : (own_rem (p1 &&& (2147483647 : Int32)) (6 : Int32)) = (3 : Int32)
  · by_cases hh' : (0 : Int32) < (lcmpW ((p2.toInt64) - (p3.toInt64)) (0 : Int64))
    · exact rm0_s00 l Z a0 hw ws p1 p2 p3 p4 h0 n0 Z0 k_LESS_OR_EQUAL 0 E_LESS_OR_EQUAL (rm1_tttf l Z a0 hw [] _ k_LESS_OR_EQUAL h0 n0 Z0 S_LESS_OR_EQUAL c0 c1 c2 c3) (rm2_3t l Z a0 hw [] k_LESS_OR_EQUAL _ _ h0 n0 Z0 O_LESS_OR_EQUAL E_LESS_OR_EQUAL (by rw [hg]; exact hh')) (rm4_3t l Z a0 hw [] _ _ h0 n0 Z0 c0 c1 c2 c3 hh') s1 s2
    · exact rm0_s00 l Z a0 hw ws p1 p2 p3 p4 h0 n0 Z0 k_LESS_OR_EQUAL 1 E_LESS_OR_EQUAL (rm1_tttf l Z a0 hw [] _ k_LESS_OR_EQUAL h0 n0 Z0 S_LESS_OR_EQUAL c0 c1 c2 c3) (rm2_3f l Z a0 hw [] k_LESS_OR_EQUAL _ _ h0 n0 Z0 O_LESS_OR_EQUAL E_LESS_OR_EQUAL (by rw [hg]; exact hh')) (rm4_3f l Z a0 hw [] _ _ h0 n0 Z0 c0 c1 c2 c3 hh') s1 s2
  by_cases c4 : (own_rem (p1 &&& (2147483647 : Int32)) (6 : Int32)) = (4 : Int32)
  · by_cases hh' : (0 : Int32) < (lcmpW ((p2.toInt64) - (p3.toInt64)) (0 : Int64))
    · exact rm0_s00 l Z a0 hw ws p1 p2 p3 p4 h0 n0 Z0 k_GREATER 1 E_GREATER (rm1_ttttf l Z a0 hw [] _ k_GREATER h0 n0 Z0 S_GREATER c0 c1 c2 c3 c4) (rm2_4f l Z a0 hw [] k_GREATER _ _ h0 n0 Z0 O_GREATER E_GREATER (by rw [hl]; exact hh')) (rm4_4f l Z a0 hw [] _ _ h0 n0 Z0 c0 c1 c2 c3 c4 hh') s1 s2
    · exact rm0_s00 l Z a0 hw ws p1 p2 p3 p4 h0 n0 Z0 k_GREATER 0 E_GREATER (rm1_ttttf l Z a0 hw [] _ k_GREATER h0 n0 Z0 S_GREATER c0 c1 c2 c3 c4) (rm2_4t l Z a0 hw [] k_GREATER _ _ h0 n0 Z0 O_GREATER E_GREATER (by rw [hl]; exact hh')) (rm4_4t l Z a0 hw [] _ _ h0 n0 Z0 c0 c1 c2 c3 c4 hh') s1 s2
  · by_cases hh' : (lcmpW ((p2.toInt64) - (p3.toInt64)) (0 : Int64)) < (0 : Int32)
    · exact rm0_s00 l Z a0 hw ws p1 p2 p3 p4 h0 n0 Z0 k_GREATER_OR_EQUAL 0 E_GREATER_OR_EQUAL (rm1_ttttt l Z a0 hw [] _ k_GREATER_OR_EQUAL h0 n0 Z0 S_GREATER_OR_EQUAL c0 c1 c2 c3 c4) (rm2_5t l Z a0 hw [] k_GREATER_OR_EQUAL _ _ h0 n0 Z0 O_GREATER_OR_EQUAL E_GREATER_OR_EQUAL (by rw [hl]; exact hh')) (rm4_5t l Z a0 hw [] _ _ h0 n0 Z0 c0 c1 c2 c3 c4 hh') s1 s2
    · exact rm0_s00 l Z a0 hw ws p1 p2 p3 p4 h0 n0 Z0 k_GREATER_OR_EQUAL 1 E_GREATER_OR_EQUAL (rm1_ttttt l Z a0 hw [] _ k_GREATER_OR_EQUAL h0 n0 Z0 S_GREATER_OR_EQUAL c0 c1 c2 c3 c4) (rm2_5f l Z a0 hw [] k_GREATER_OR_EQUAL _ _ h0 n0 Z0 O_GREATER_OR_EQUAL E_GREATER_OR_EQUAL (by rw [hl]; exact hh')) (rm4_5f l Z a0 hw [] _ _ h0 n0 Z0 c0 c1 c2 c3 c4 hh') s1 s2
set_option maxRecDepth 65536 in
set_option maxHeartbeats 40000000 in
theorem rm0_s01 (l : Launch) (Z : State) (a0 : Array Value) (hw : ∀ d ∈ tables_1, d.before a0 Z = true) (ws : List Jvm.Cond) (p1 : Int32) (p2 : Int32) (p3 : Int32) (p4 : Int32) (h0 : Heap) (n0 : Nat) (Z0 : n0 ≤ h0.size) (kk : Addr) (bb : Int32) (EK : Exa Z h0 kk "com/example/axisplan/axisplan/query/Comparison$Relation") (M1 : MetFree l (⟨"com/example/axisplan/axisplan/query/RelationHoldsPinLaw", "pick", "(I)Lcom/example/axisplan/axisplan/query/Comparison$Relation;"⟩ : MethodName) (head1 (Jvm.Cond.code (⟨"com/example/axisplan/axisplan/query/RelationHoldsPinLaw", "pick", "(I)Lcom/example/axisplan/axisplan/query/Comparison$Relation;"⟩ : MethodName) method_2_code 1 (some (.object "com/example/axisplan/axisplan/query/Comparison$Relation")) :: []) ({ frames := 0, cells := 0, slots := 0, locals := 0 } : Room)) (fun a U => a = #[(.int (own_rem (p1 &&& (2147483647 : Int32)) (6 : Int32)))] ∧ Z.Warmed39 U.vm ∧ U.heap = h0) (fun _ _ _ _ _ => True) (fun _ U o U' => ∃ v L, o = .returned v ∧ Qv (some (.ref kk)) h0 n0 v U'.heap L ∧ FrameEnd U o U' L ({ frames := 0, cells := 0, slots := 0, locals := 0 } : Room).cells ({ frames := 0, cells := 0, slots := 0, locals := 0 } : Room).slots)) (M2 : MetFree l (⟨"com/example/axisplan/axisplan/query/Comparison$Relation", "holds", "(DD)Z"⟩ : MethodName) (head1 (Jvm.Cond.code (⟨"com/example/axisplan/axisplan/query/Comparison$Relation", "holds", "(DD)Z"⟩ : MethodName) prog_24_method_8_code 5 (some .boolean) :: []) ({ frames := 1, cells := 0, slots := 0, locals := 12 } : Room)) (fun a U => a = #[(.ref kk), (.double (FP.i2d p2)), (.double (FP.dneg (FP.i2d p3)))] ∧ Z.Warmed39 U.vm ∧ U.heap = h0) (fun _ _ _ _ _ => True) (fun _ U o U' => ∃ v L, o = .returned v ∧ Qv (some (.int bb)) h0 n0 v U'.heap L ∧ FrameEnd U o U' L ({ frames := 1, cells := 0, slots := 0, locals := 12 } : Room).cells ({ frames := 1, cells := 0, slots := 0, locals := 12 } : Room).slots)) (M3 : MetFree l (⟨"com/example/axisplan/axisplan/query/RelationHoldsPinLaw", "expected", "(IJ)Z"⟩ : MethodName) (head1 (Jvm.Cond.code (⟨"com/example/axisplan/axisplan/query/RelationHoldsPinLaw", "expected", "(IJ)Z"⟩ : MethodName) method_3_code 3 (some .boolean) :: []) ({ frames := 0, cells := 0, slots := 0, locals := 0 } : Room)) (fun a U => a = #[(.int (own_rem (p1 &&& (2147483647 : Int32)) (6 : Int32))), (.long ((p2.toInt64) - (-(p3.toInt64))))] ∧ Z.Warmed39 U.vm ∧ U.heap = h0) (fun _ _ _ _ _ => True) (fun _ U o U' => ∃ v L, o = .returned v ∧ Qv (some (.int bb)) h0 n0 v U'.heap L ∧ FrameEnd U o U' L ({ frames := 0, cells := 0, slots := 0, locals := 0 } : Room).cells ({ frames := 0, cells := 0, slots := 0, locals := 0 } : Room).slots)) (hc12 : (p4 &&& (1 : Int32)) = (0 : Int32)) (hc25 : ¬ ((p4 &&& (2 : Int32)) = (0 : Int32))) (hc52 : ¬ ((1 : Int32) = (0 : Int32))) (hc82 : ¬ ((1 : Int32) = (0 : Int32))) :
    MetFree l x (head1 (Jvm.Cond.code x code maxLocals ret :: ws) room_1) (fun a U => a = #[(.int p1), (.int p2), (.int p3), (.int p4)] ∧ Z.Warmed39 U.vm ∧ U.heap = h0) (fun _ _ _ _ _ => True) (fun _ U o U' => ∃ v L, o = .returned v ∧ Ql (some (.int (1 : Int32))) n0 v L ∧ FrameEnd U o U' L room_1.cells room_1.slots) := by
  refine MetFree.of_bodySF (plainFor_of_name pn_0) hisR ?_
  intro p e s m args below meth c s₁ Bd hml0 hP hK
  obtain ⟨rfl, hZ, hh⟩ := hP
  have hx := Bd.exec
  have hby := Bd.bytes
  have hml : c.maxLocals = 18 := hml0
  have hown : s.vm.findClass "com/example/axisplan/axisplan/query/RelationHoldsPinLaw" = some m.cls := findClass_of_methodNamed Bd.named
  have hnm := (name_of_methodNamed Bd.named Bd.method).1
  have X0 : Stand p l e room_1 s m #[(.int p1), (.int p2), (.int p3), (.int p4)] below meth c s₁ [] 0 0 := Stand.of_body Bd
  have e0 : s₁.heap = h0 := by rw [← hh, Bd.state]; rfl
  have N0 := Fr.nil n0
  have pre0 : ∀ t, Steps p.tables e below (s₁.setTop (mkF m 0 #[.val (.int p1), .val (.int p2), .val (.int p3), .val (.int p4), .unset, .unset, .unset, .unset, .unset, .unset, .unset, .unset, .unset, .unset, .unset, .unset, .unset, .unset] [])) t → Steps p.tables e below (s₁.setTop (entryFrame m #[(.int p1), (.int p2), (.int p3), (.int p4)] maxLocals)) t := fun t k => castTop (ef_0 m p1 p2 p3 p4) k
  -- 3. LAWS
  -- pc 104: com/example/axisplan/axisplan/query/RelationHoldsPinLaw.pick by its contract rm1
  obtain ⟨_, _, ⟨T5, L5, k5, n5⟩, -, X5, ⟨Lc5, hQ5, l5, y5, z5⟩, st5⟩ := Jvm.LawKit.callS X0 hx (y := (⟨"com/example/axisplan/axisplan/query/RelationHoldsPinLaw", "pick", "(I)Lcom/example/axisplan/axisplan/query/Comparison$Relation;"⟩ : MethodName)) hown (mvT hZ (hw _ (List.mem_of_getElem? (i := 1) rfl))) (mvT hZ (hw _ (List.mem_of_getElem? (i := 2) rfl))) (mvT hZ (hw _ (List.mem_of_getElem? (i := 3) rfl))) (mvT hZ (hw _ (List.mem_of_getElem? (i := 4) rfl))) (by decide) (backOf (W := 0) M1 hZ (hw _ (List.mem_of_getElem? (i := 4) rfl)) (hw _ (List.mem_of_getElem? (i := 3) rfl)) (by decide) (by decide)) (g := (mkF m 104 #[.val (.int p1), .val (.int p2), .val (.int p3), .val (.int p4), .val (.int (own_rem (p1 &&& (2147483647 : Int32)) (6 : Int32))), .val (.int (0 : Int32)), .val (.int (1 : Int32)), .val (.double (FP.i2d p2)), .second, .val (.double (FP.dneg (FP.i2d p3))), .second, .val (.long (p2.toInt64)), .second, .val (.long (-(p3.toInt64))), .second, .val (.long ((p2.toInt64) - (-(p3.toInt64)))), .second, .unset] [(.int (own_rem (p1 &&& (2147483647 : Int32)) (6 : Int32)))])) rfl (by rw [hml]; rfl) (argsL := [(.int (own_rem (p1 &&& (2147483647 : Int32)) (6 : Int32)))]) (rest := []) (lenOf pd_0_0 rfl) rfl (by show 2 * 0 + _ ≤ _; exact Nat.le_of_eq rfl) (hb hby at_104) (fun _ _ => ⟨rfl, e0, (by decide : 0 + 0 ≤ _), (by decide : 0 + 0 ≤ _)⟩)
  dsimp only [Pt.U, Pt.locs, Pt.cells, Pt.slots] at X5 l5 y5 z5 st5 hQ5
  subst l5 y5 z5
  obtain ⟨rfl, N5q, e5⟩ := hQ5
  have N5 := Fr.app N0 N5q
  -- pc 115: com/example/axisplan/axisplan/query/Comparison$Relation.holds by the contract of the body that the receiver's class selects, rm2
  -- ✋ yours, out of the call's Q: E_kk : Exa Z h0 kk "com/example/axisplan/axisplan/query/Comparison$Relation"
  obtain ⟨cq6, kq6, q6a, q6b, q6c⟩ := isOf hZ rfl (show Exa Z T5.heap kk "com/example/axisplan/axisplan/query/Comparison$Relation" from e5.symm ▸ EK)
  obtain ⟨_, _, ⟨T6, L6, k6, n6⟩, -, X6, ⟨Lc6, hQ6, l6, y6, z6⟩, st6⟩ := X5.virtualBack hx (y := (⟨"com/example/axisplan/axisplan/query/Comparison$Relation", "holds", "(DD)Z"⟩ : MethodName)) (z := (⟨"com/example/axisplan/axisplan/query/Comparison$Relation", "holds", "(DD)Z"⟩ : MethodName)) hown (mvT hZ (hw _ (List.mem_of_getElem? (i := 8) rfl))) (mvT hZ (hw _ (List.mem_of_getElem? (i := 9) rfl))) (notFace_of_selects (args := #[]) (mvT hZ (hw _ (List.mem_of_getElem? (i := 11) rfl)))) (mvT hZ (hw _ (List.mem_of_getElem? (i := 11) rfl))) (mvT hZ (hw _ (List.mem_of_getElem? (i := 10) rfl))) (by decide) (backOf (W := 0) (e5.symm ▸ M2) hZ (hw _ (List.mem_of_getElem? (i := 12) rfl)) (hw _ (List.mem_of_getElem? (i := 6) rfl)) (by decide) (by decide)) q6a q6c (g := (mkF m 115 #[.val (.int p1), .val (.int p2), .val (.int p3), .val (.int p4), .val (.int (own_rem (p1 &&& (2147483647 : Int32)) (6 : Int32))), .val (.int (0 : Int32)), .val (.int (1 : Int32)), .val (.double (FP.i2d p2)), .second, .val (.double (FP.dneg (FP.i2d p3))), .second, .val (.long (p2.toInt64)), .second, .val (.long (-(p3.toInt64))), .second, .val (.long ((p2.toInt64) - (-(p3.toInt64)))), .second, .val (.ref kk)] [(.double (FP.dneg (FP.i2d p3))), (.double (FP.i2d p2)), (.ref kk)])) rfl (by rw [hml]; rfl) (Steps.refl _) (argsL := [(.double (FP.i2d p2)), (.double (FP.dneg (FP.i2d p3)))]) (rest := []) (lenOf pd_0_1 rfl) rfl (by show 2 * 0 + _ ≤ _; exact Nat.le_of_eq rfl) (hb hby at_115) (fun _ _ => ⟨rfl, rfl, (by decide : 0 + 0 ≤ _), (by decide : 0 + 0 ≤ _)⟩)
  dsimp only [Pt.U, Pt.locs, Pt.cells, Pt.slots] at X6 l6 y6 z6 st6 hQ6
  subst l6 y6 z6
  obtain ⟨rfl, N6q, e6⟩ := hQ6
  have N6 := Fr.app N5 N6q
  -- pc 122: com/example/axisplan/axisplan/query/RelationHoldsPinLaw.expected by its contract rm4
  obtain ⟨_, _, ⟨T7, L7, k7, n7⟩, -, X7, ⟨Lc7, hQ7, l7, y7, z7⟩, st7⟩ := Jvm.LawKit.callS X6 hx (y := (⟨"com/example/axisplan/axisplan/query/RelationHoldsPinLaw", "expected", "(IJ)Z"⟩ : MethodName)) hown (mvT hZ (hw _ (List.mem_of_getElem? (i := 22) rfl))) (mvT hZ (hw _ (List.mem_of_getElem? (i := 23) rfl))) (mvT hZ (hw _ (List.mem_of_getElem? (i := 3) rfl))) (mvT hZ (hw _ (List.mem_of_getElem? (i := 24) rfl))) (by decide) (backOf (W := 1) ((e6.trans e5).symm ▸ M3) hZ (hw _ (List.mem_of_getElem? (i := 24) rfl)) (hw _ (List.mem_of_getElem? (i := 3) rfl)) (by decide) (by decide)) (g := (mkF m 122 #[.val (.int p1), .val (.int p2), .val (.int p3), .val (.int p4), .val (.int (own_rem (p1 &&& (2147483647 : Int32)) (6 : Int32))), .val (.int (0 : Int32)), .val (.int (1 : Int32)), .val (.double (FP.i2d p2)), .second, .val (.double (FP.dneg (FP.i2d p3))), .second, .val (.long (p2.toInt64)), .second, .val (.long (-(p3.toInt64))), .second, .val (.long ((p2.toInt64) - (-(p3.toInt64)))), .second, .val (.ref kk)] [(.long ((p2.toInt64) - (-(p3.toInt64)))), (.int (own_rem (p1 &&& (2147483647 : Int32)) (6 : Int32))), (.int bb)])) rfl (by rw [hml]; rfl) (argsL := [(.int (own_rem (p1 &&& (2147483647 : Int32)) (6 : Int32))), (.long ((p2.toInt64) - (-(p3.toInt64))))]) (rest := [(.int bb)]) (lenOf pd_0_3 rfl) rfl (by show 2 * 0 + _ ≤ _; exact Nat.le_of_eq rfl) (hb hby at_122) (fun _ _ => ⟨rfl, rfl, (by decide : 0 + 0 ≤ _), (by decide : 0 + 0 ≤ _)⟩)
  dsimp only [Pt.U, Pt.locs, Pt.cells, Pt.slots] at X7 l7 y7 z7 st7 hQ7
  subst l7 y7 z7
  obtain ⟨rfl, N7q, e7⟩ := hQ7
  have N7 := Fr.app N6 N7q
  obtain ⟨fs, hr, hrun, hended, hW, hsame⟩ := X7.leave (v := some (.int (1 : Int32))) (fun h => by rw [Bd.returns] at h; cases h)
  refine ⟨_, _, pre0 _ ?_, hrun, hended, _, _, rfl, ?_, ⟨_, rfl⟩, hW, hsame.mono (by decide) (by decide)⟩
  -- 4. STEPS
  · show Steps p.tables e below (s₁.setTop (mkF m 0 #[.val (.int p1), .val (.int p2), .val (.int p3), .val (.int p4), .unset, .unset, .unset, .unset, .unset, .unset, .unset, .unset, .unset, .unset, .unset, .unset, .unset, .unset] [])) _
    refine XS.iloadN X0.here hx rfl (hb hby at_0) rfl ?_
    show Steps p.tables e below (s₁.setTop (mkF m 1 #[.val (.int p1), .val (.int p2), .val (.int p3), .val (.int p4), .unset, .unset, .unset, .unset, .unset, .unset, .unset, .unset, .unset, .unset, .unset, .unset, .unset, .unset] [(.int p1)])) _
    refine X0.ldcInt hx hown (mvT hZ (hw _ (List.mem_of_getElem? (i := 0) rfl))) (g := (mkF m 1 #[.val (.int p1), .val (.int p2), .val (.int p3), .val (.int p4), .unset, .unset, .unset, .unset, .unset, .unset, .unset, .unset, .unset, .unset, .unset, .unset, .unset, .unset] [(.int p1)])) rfl (hb hby at_1) _ ?_
    show Steps p.tables e below (s₁.setTop (mkF m 3 #[.val (.int p1), .val (.int p2), .val (.int p3), .val (.int p4), .unset, .unset, .unset, .unset, .unset, .unset, .unset, .unset, .unset, .unset, .unset, .unset, .unset, .unset] [(.int (2147483647 : Int32)), (.int p1)])) _
    refine XS.iand X0.here hx rfl (hb hby at_3) rfl ?_
    show Steps p.tables e below (s₁.setTop (mkF m 4 #[.val (.int p1), .val (.int p2), .val (.int p3), .val (.int p4), .unset, .unset, .unset, .unset, .unset, .unset, .unset, .unset, .unset, .unset, .unset, .unset, .unset, .unset] [(.int (p1 &&& (2147483647 : Int32)))])) _
    refine XS.bipush X0.here hx rfl (hb hby at_4) ?_
    show Steps p.tables e below (s₁.setTop (mkF m 6 #[.val (.int p1), .val (.int p2), .val (.int p3), .val (.int p4), .unset, .unset, .unset, .unset, .unset, .unset, .unset, .unset, .unset, .unset, .unset, .unset, .unset, .unset] [(.int (6 : Int32)), (.int (p1 &&& (2147483647 : Int32)))])) _
    refine iremM X0 hx rfl (hb hby at_6) rfl (by decide) ?_
    show Steps p.tables e below (s₁.setTop (mkF m 7 #[.val (.int p1), .val (.int p2), .val (.int p3), .val (.int p4), .unset, .unset, .unset, .unset, .unset, .unset, .unset, .unset, .unset, .unset, .unset, .unset, .unset, .unset] [(.int (own_rem (p1 &&& (2147483647 : Int32)) (6 : Int32)))])) _
    refine XS.istore X0.here hx rfl (hb hby at_7) rfl (l' := #[.val (.int p1), .val (.int p2), .val (.int p3), .val (.int p4), .val (.int (own_rem (p1 &&& (2147483647 : Int32)) (6 : Int32))), .unset, .unset, .unset, .unset, .unset, .unset, .unset, .unset, .unset, .unset, .unset, .unset, .unset]) rfl ?_
    show Steps p.tables e below (s₁.setTop (mkF m 9 #[.val (.int p1), .val (.int p2), .val (.int p3), .val (.int p4), .val (.int (own_rem (p1 &&& (2147483647 : Int32)) (6 : Int32))), .unset, .unset, .unset, .unset, .unset, .unset, .unset, .unset, .unset, .unset, .unset, .unset, .unset] [])) _
    refine XS.iloadN X0.here hx rfl (hb hby at_9) rfl ?_
    show Steps p.tables e below (s₁.setTop (mkF m 10 #[.val (.int p1), .val (.int p2), .val (.int p3), .val (.int p4), .val (.int (own_rem (p1 &&& (2147483647 : Int32)) (6 : Int32))), .unset, .unset, .unset, .unset, .unset, .unset, .unset, .unset, .unset, .unset, .unset, .unset, .unset] [(.int p4)])) _
    refine XS.iconst X0.here hx rfl (hb hby at_10) ?_
    show Steps p.tables e below (s₁.setTop (mkF m 11 #[.val (.int p1), .val (.int p2), .val (.int p3), .val (.int p4), .val (.int (own_rem (p1 &&& (2147483647 : Int32)) (6 : Int32))), .unset, .unset, .unset, .unset, .unset, .unset, .unset, .unset, .unset, .unset, .unset, .unset, .unset] [(.int (1 : Int32)), (.int p4)])) _
    refine XS.iand X0.here hx rfl (hb hby at_11) rfl ?_
    show Steps p.tables e below (s₁.setTop (mkF m 12 #[.val (.int p1), .val (.int p2), .val (.int p3), .val (.int p4), .val (.int (own_rem (p1 &&& (2147483647 : Int32)) (6 : Int32))), .unset, .unset, .unset, .unset, .unset, .unset, .unset, .unset, .unset, .unset, .unset, .unset, .unset] [(.int (p4 &&& (1 : Int32)))])) _
    refine XS.ifYes X0.here hx rfl (pc0 := 12) (pc' := 19) rfl (hb hby at_12) rfl ((if0 _ _).trans (teq hc12).1) (by decide) (by decide) ?_
    show Steps p.tables e below (s₁.setTop (mkF m 19 #[.val (.int p1), .val (.int p2), .val (.int p3), .val (.int p4), .val (.int (own_rem (p1 &&& (2147483647 : Int32)) (6 : Int32))), .unset, .unset, .unset, .unset, .unset, .unset, .unset, .unset, .unset, .unset, .unset, .unset, .unset] [])) _
    refine XS.iconst X0.here hx rfl (hb hby at_19) ?_
    show Steps p.tables e below (s₁.setTop (mkF m 20 #[.val (.int p1), .val (.int p2), .val (.int p3), .val (.int p4), .val (.int (own_rem (p1 &&& (2147483647 : Int32)) (6 : Int32))), .unset, .unset, .unset, .unset, .unset, .unset, .unset, .unset, .unset, .unset, .unset, .unset, .unset] [(.int (0 : Int32))])) _
    refine XS.istore X0.here hx rfl (hb hby at_20) rfl (l' := #[.val (.int p1), .val (.int p2), .val (.int p3), .val (.int p4), .val (.int (own_rem (p1 &&& (2147483647 : Int32)) (6 : Int32))), .val (.int (0 : Int32)), .unset, .unset, .unset, .unset, .unset, .unset, .unset, .unset, .unset, .unset, .unset, .unset]) rfl ?_
    show Steps p.tables e below (s₁.setTop (mkF m 22 #[.val (.int p1), .val (.int p2), .val (.int p3), .val (.int p4), .val (.int (own_rem (p1 &&& (2147483647 : Int32)) (6 : Int32))), .val (.int (0 : Int32)), .unset, .unset, .unset, .unset, .unset, .unset, .unset, .unset, .unset, .unset, .unset, .unset] [])) _
    refine XS.iloadN X0.here hx rfl (hb hby at_22) rfl ?_
    show Steps p.tables e below (s₁.setTop (mkF m 23 #[.val (.int p1), .val (.int p2), .val (.int p3), .val (.int p4), .val (.int (own_rem (p1 &&& (2147483647 : Int32)) (6 : Int32))), .val (.int (0 : Int32)), .unset, .unset, .unset, .unset, .unset, .unset, .unset, .unset, .unset, .unset, .unset, .unset] [(.int p4)])) _
    refine XS.iconst X0.here hx rfl (hb hby at_23) ?_
    show Steps p.tables e below (s₁.setTop (mkF m 24 #[.val (.int p1), .val (.int p2), .val (.int p3), .val (.int p4), .val (.int (own_rem (p1 &&& (2147483647 : Int32)) (6 : Int32))), .val (.int (0 : Int32)), .unset, .unset, .unset, .unset, .unset, .unset, .unset, .unset, .unset, .unset, .unset, .unset] [(.int (2 : Int32)), (.int p4)])) _
    refine XS.iand X0.here hx rfl (hb hby at_24) rfl ?_
    show Steps p.tables e below (s₁.setTop (mkF m 25 #[.val (.int p1), .val (.int p2), .val (.int p3), .val (.int p4), .val (.int (own_rem (p1 &&& (2147483647 : Int32)) (6 : Int32))), .val (.int (0 : Int32)), .unset, .unset, .unset, .unset, .unset, .unset, .unset, .unset, .unset, .unset, .unset, .unset] [(.int (p4 &&& (2 : Int32)))])) _
    refine XS.ifNo X0.here hx rfl (hb hby at_25) rfl ((if0 _ _).trans (feq hc25).1) ?_
    show Steps p.tables e below (s₁.setTop (mkF m 28 #[.val (.int p1), .val (.int p2), .val (.int p3), .val (.int p4), .val (.int (own_rem (p1 &&& (2147483647 : Int32)) (6 : Int32))), .val (.int (0 : Int32)), .unset, .unset, .unset, .unset, .unset, .unset, .unset, .unset, .unset, .unset, .unset, .unset] [])) _
    refine XS.iconst X0.here hx rfl (hb hby at_28) ?_
    show Steps p.tables e below (s₁.setTop (mkF m 29 #[.val (.int p1), .val (.int p2), .val (.int p3), .val (.int p4), .val (.int (own_rem (p1 &&& (2147483647 : Int32)) (6 : Int32))), .val (.int (0 : Int32)), .unset, .unset, .unset, .unset, .unset, .unset, .unset, .unset, .unset, .unset, .unset, .unset] [(.int (1 : Int32))])) _
    refine XS.goto X0.here hx rfl (pc0 := 29) (pc' := 33) rfl (hb hby at_29) (by decide) (by decide) ?_
    show Steps p.tables e below (s₁.setTop (mkF m 33 #[.val (.int p1), .val (.int p2), .val (.int p3), .val (.int p4), .val (.int (own_rem (p1 &&& (2147483647 : Int32)) (6 : Int32))), .val (.int (0 : Int32)), .unset, .unset, .unset, .unset, .unset, .unset, .unset, .unset, .unset, .unset, .unset, .unset] [(.int (1 : Int32))])) _
    refine XS.istore X0.here hx rfl (hb hby at_33) rfl (l' := #[.val (.int p1), .val (.int p2), .val (.int p3), .val (.int p4), .val (.int (own_rem (p1 &&& (2147483647 : Int32)) (6 : Int32))), .val (.int (0 : Int32)), .val (.int (1 : Int32)), .unset, .unset, .unset, .unset, .unset, .unset, .unset, .unset, .unset, .unset, .unset]) rfl ?_
    show Steps p.tables e below (s₁.setTop (mkF m 35 #[.val (.int p1), .val (.int p2), .val (.int p3), .val (.int p4), .val (.int (own_rem (p1 &&& (2147483647 : Int32)) (6 : Int32))), .val (.int (0 : Int32)), .val (.int (1 : Int32)), .unset, .unset, .unset, .unset, .unset, .unset, .unset, .unset, .unset, .unset, .unset] [])) _
    refine XS.iload X0.here hx rfl (hb hby at_35) rfl ?_
    show Steps p.tables e below (s₁.setTop (mkF m 37 #[.val (.int p1), .val (.int p2), .val (.int p3), .val (.int p4), .val (.int (own_rem (p1 &&& (2147483647 : Int32)) (6 : Int32))), .val (.int (0 : Int32)), .val (.int (1 : Int32)), .unset, .unset, .unset, .unset, .unset, .unset, .unset, .unset, .unset, .unset, .unset] [(.int (0 : Int32))])) _
    refine XS.ifYes X0.here hx rfl (pc0 := 37) (pc' := 46) rfl (hb hby at_37) rfl ((if0 _ _).trans (teq (rfl : (0 : Int32) = (0 : Int32))).1) (by decide) (by decide) ?_
    show Steps p.tables e below (s₁.setTop (mkF m 46 #[.val (.int p1), .val (.int p2), .val (.int p3), .val (.int p4), .val (.int (own_rem (p1 &&& (2147483647 : Int32)) (6 : Int32))), .val (.int (0 : Int32)), .val (.int (1 : Int32)), .unset, .unset, .unset, .unset, .unset, .unset, .unset, .unset, .unset, .unset, .unset] [])) _
    refine XS.iloadN X0.here hx rfl (hb hby at_46) rfl ?_
    show Steps p.tables e below (s₁.setTop (mkF m 47 #[.val (.int p1), .val (.int p2), .val (.int p3), .val (.int p4), .val (.int (own_rem (p1 &&& (2147483647 : Int32)) (6 : Int32))), .val (.int (0 : Int32)), .val (.int (1 : Int32)), .unset, .unset, .unset, .unset, .unset, .unset, .unset, .unset, .unset, .unset, .unset] [(.int p2)])) _
    refine XS.i2dS X0.here hx rfl (hb hby at_47) rfl rfl ?_
    show Steps p.tables e below (s₁.setTop (mkF m 48 #[.val (.int p1), .val (.int p2), .val (.int p3), .val (.int p4), .val (.int (own_rem (p1 &&& (2147483647 : Int32)) (6 : Int32))), .val (.int (0 : Int32)), .val (.int (1 : Int32)), .unset, .unset, .unset, .unset, .unset, .unset, .unset, .unset, .unset, .unset, .unset] [(.double (FP.i2d p2))])) _
    refine XS.dstore X0.here hx rfl (hb hby at_48) rfl (l' := #[.val (.int p1), .val (.int p2), .val (.int p3), .val (.int p4), .val (.int (own_rem (p1 &&& (2147483647 : Int32)) (6 : Int32))), .val (.int (0 : Int32)), .val (.int (1 : Int32)), .val (.double (FP.i2d p2)), .second, .unset, .unset, .unset, .unset, .unset, .unset, .unset, .unset, .unset]) rfl ?_
    show Steps p.tables e below (s₁.setTop (mkF m 50 #[.val (.int p1), .val (.int p2), .val (.int p3), .val (.int p4), .val (.int (own_rem (p1 &&& (2147483647 : Int32)) (6 : Int32))), .val (.int (0 : Int32)), .val (.int (1 : Int32)), .val (.double (FP.i2d p2)), .second, .unset, .unset, .unset, .unset, .unset, .unset, .unset, .unset, .unset] [])) _
    refine XS.iload X0.here hx rfl (hb hby at_50) rfl ?_
    show Steps p.tables e below (s₁.setTop (mkF m 52 #[.val (.int p1), .val (.int p2), .val (.int p3), .val (.int p4), .val (.int (own_rem (p1 &&& (2147483647 : Int32)) (6 : Int32))), .val (.int (0 : Int32)), .val (.int (1 : Int32)), .val (.double (FP.i2d p2)), .second, .unset, .unset, .unset, .unset, .unset, .unset, .unset, .unset, .unset] [(.int (1 : Int32))])) _
    refine XS.ifNo X0.here hx rfl (hb hby at_52) rfl ((if0 _ _).trans (feq hc52).1) ?_
    show Steps p.tables e below (s₁.setTop (mkF m 55 #[.val (.int p1), .val (.int p2), .val (.int p3), .val (.int p4), .val (.int (own_rem (p1 &&& (2147483647 : Int32)) (6 : Int32))), .val (.int (0 : Int32)), .val (.int (1 : Int32)), .val (.double (FP.i2d p2)), .second, .unset, .unset, .unset, .unset, .unset, .unset, .unset, .unset, .unset] [])) _
    refine XS.iloadN X0.here hx rfl (hb hby at_55) rfl ?_
    show Steps p.tables e below (s₁.setTop (mkF m 56 #[.val (.int p1), .val (.int p2), .val (.int p3), .val (.int p4), .val (.int (own_rem (p1 &&& (2147483647 : Int32)) (6 : Int32))), .val (.int (0 : Int32)), .val (.int (1 : Int32)), .val (.double (FP.i2d p2)), .second, .unset, .unset, .unset, .unset, .unset, .unset, .unset, .unset, .unset] [(.int p3)])) _
    refine XS.i2dS X0.here hx rfl (hb hby at_56) rfl rfl ?_
    show Steps p.tables e below (s₁.setTop (mkF m 57 #[.val (.int p1), .val (.int p2), .val (.int p3), .val (.int p4), .val (.int (own_rem (p1 &&& (2147483647 : Int32)) (6 : Int32))), .val (.int (0 : Int32)), .val (.int (1 : Int32)), .val (.double (FP.i2d p2)), .second, .unset, .unset, .unset, .unset, .unset, .unset, .unset, .unset, .unset] [(.double (FP.i2d p3))])) _
    refine XS.dnegS X0.here hx rfl (hb hby at_57) rfl rfl ?_
    show Steps p.tables e below (s₁.setTop (mkF m 58 #[.val (.int p1), .val (.int p2), .val (.int p3), .val (.int p4), .val (.int (own_rem (p1 &&& (2147483647 : Int32)) (6 : Int32))), .val (.int (0 : Int32)), .val (.int (1 : Int32)), .val (.double (FP.i2d p2)), .second, .unset, .unset, .unset, .unset, .unset, .unset, .unset, .unset, .unset] [(.double (FP.dneg (FP.i2d p3)))])) _
    refine XS.goto X0.here hx rfl (pc0 := 58) (pc' := 63) rfl (hb hby at_58) (by decide) (by decide) ?_
    show Steps p.tables e below (s₁.setTop (mkF m 63 #[.val (.int p1), .val (.int p2), .val (.int p3), .val (.int p4), .val (.int (own_rem (p1 &&& (2147483647 : Int32)) (6 : Int32))), .val (.int (0 : Int32)), .val (.int (1 : Int32)), .val (.double (FP.i2d p2)), .second, .unset, .unset, .unset, .unset, .unset, .unset, .unset, .unset, .unset] [(.double (FP.dneg (FP.i2d p3)))])) _
    refine XS.dstore X0.here hx rfl (hb hby at_63) rfl (l' := #[.val (.int p1), .val (.int p2), .val (.int p3), .val (.int p4), .val (.int (own_rem (p1 &&& (2147483647 : Int32)) (6 : Int32))), .val (.int (0 : Int32)), .val (.int (1 : Int32)), .val (.double (FP.i2d p2)), .second, .val (.double (FP.dneg (FP.i2d p3))), .second, .unset, .unset, .unset, .unset, .unset, .unset, .unset]) rfl ?_
    show Steps p.tables e below (s₁.setTop (mkF m 65 #[.val (.int p1), .val (.int p2), .val (.int p3), .val (.int p4), .val (.int (own_rem (p1 &&& (2147483647 : Int32)) (6 : Int32))), .val (.int (0 : Int32)), .val (.int (1 : Int32)), .val (.double (FP.i2d p2)), .second, .val (.double (FP.dneg (FP.i2d p3))), .second, .unset, .unset, .unset, .unset, .unset, .unset, .unset] [])) _
    refine XS.iload X0.here hx rfl (hb hby at_65) rfl ?_
    show Steps p.tables e below (s₁.setTop (mkF m 67 #[.val (.int p1), .val (.int p2), .val (.int p3), .val (.int p4), .val (.int (own_rem (p1 &&& (2147483647 : Int32)) (6 : Int32))), .val (.int (0 : Int32)), .val (.int (1 : Int32)), .val (.double (FP.i2d p2)), .second, .val (.double (FP.dneg (FP.i2d p3))), .second, .unset, .unset, .unset, .unset, .unset, .unset, .unset] [(.int (0 : Int32))])) _
    refine XS.ifYes X0.here hx rfl (pc0 := 67) (pc' := 76) rfl (hb hby at_67) rfl ((if0 _ _).trans (teq (rfl : (0 : Int32) = (0 : Int32))).1) (by decide) (by decide) ?_
    show Steps p.tables e below (s₁.setTop (mkF m 76 #[.val (.int p1), .val (.int p2), .val (.int p3), .val (.int p4), .val (.int (own_rem (p1 &&& (2147483647 : Int32)) (6 : Int32))), .val (.int (0 : Int32)), .val (.int (1 : Int32)), .val (.double (FP.i2d p2)), .second, .val (.double (FP.dneg (FP.i2d p3))), .second, .unset, .unset, .unset, .unset, .unset, .unset, .unset] [])) _
    refine XS.iloadN X0.here hx rfl (hb hby at_76) rfl ?_
    show Steps p.tables e below (s₁.setTop (mkF m 77 #[.val (.int p1), .val (.int p2), .val (.int p3), .val (.int p4), .val (.int (own_rem (p1 &&& (2147483647 : Int32)) (6 : Int32))), .val (.int (0 : Int32)), .val (.int (1 : Int32)), .val (.double (FP.i2d p2)), .second, .val (.double (FP.dneg (FP.i2d p3))), .second, .unset, .unset, .unset, .unset, .unset, .unset, .unset] [(.int p2)])) _
    refine XS.i2l X0.here hx rfl (hb hby at_77) rfl ?_
    show Steps p.tables e below (s₁.setTop (mkF m 78 #[.val (.int p1), .val (.int p2), .val (.int p3), .val (.int p4), .val (.int (own_rem (p1 &&& (2147483647 : Int32)) (6 : Int32))), .val (.int (0 : Int32)), .val (.int (1 : Int32)), .val (.double (FP.i2d p2)), .second, .val (.double (FP.dneg (FP.i2d p3))), .second, .unset, .unset, .unset, .unset, .unset, .unset, .unset] [(.long (p2.toInt64))])) _
    refine XS.lstore X0.here hx rfl (hb hby at_78) rfl (l' := #[.val (.int p1), .val (.int p2), .val (.int p3), .val (.int p4), .val (.int (own_rem (p1 &&& (2147483647 : Int32)) (6 : Int32))), .val (.int (0 : Int32)), .val (.int (1 : Int32)), .val (.double (FP.i2d p2)), .second, .val (.double (FP.dneg (FP.i2d p3))), .second, .val (.long (p2.toInt64)), .second, .unset, .unset, .unset, .unset, .unset]) rfl ?_
    show Steps p.tables e below (s₁.setTop (mkF m 80 #[.val (.int p1), .val (.int p2), .val (.int p3), .val (.int p4), .val (.int (own_rem (p1 &&& (2147483647 : Int32)) (6 : Int32))), .val (.int (0 : Int32)), .val (.int (1 : Int32)), .val (.double (FP.i2d p2)), .second, .val (.double (FP.dneg (FP.i2d p3))), .second, .val (.long (p2.toInt64)), .second, .unset, .unset, .unset, .unset, .unset] [])) _
    refine XS.iload X0.here hx rfl (hb hby at_80) rfl ?_
    show Steps p.tables e below (s₁.setTop (mkF m 82 #[.val (.int p1), .val (.int p2), .val (.int p3), .val (.int p4), .val (.int (own_rem (p1 &&& (2147483647 : Int32)) (6 : Int32))), .val (.int (0 : Int32)), .val (.int (1 : Int32)), .val (.double (FP.i2d p2)), .second, .val (.double (FP.dneg (FP.i2d p3))), .second, .val (.long (p2.toInt64)), .second, .unset, .unset, .unset, .unset, .unset] [(.int (1 : Int32))])) _
    refine XS.ifNo X0.here hx rfl (hb hby at_82) rfl ((if0 _ _).trans (feq hc82).1) ?_
    show Steps p.tables e below (s₁.setTop (mkF m 85 #[.val (.int p1), .val (.int p2), .val (.int p3), .val (.int p4), .val (.int (own_rem (p1 &&& (2147483647 : Int32)) (6 : Int32))), .val (.int (0 : Int32)), .val (.int (1 : Int32)), .val (.double (FP.i2d p2)), .second, .val (.double (FP.dneg (FP.i2d p3))), .second, .val (.long (p2.toInt64)), .second, .unset, .unset, .unset, .unset, .unset] [])) _
    refine XS.iloadN X0.here hx rfl (hb hby at_85) rfl ?_
    show Steps p.tables e below (s₁.setTop (mkF m 86 #[.val (.int p1), .val (.int p2), .val (.int p3), .val (.int p4), .val (.int (own_rem (p1 &&& (2147483647 : Int32)) (6 : Int32))), .val (.int (0 : Int32)), .val (.int (1 : Int32)), .val (.double (FP.i2d p2)), .second, .val (.double (FP.dneg (FP.i2d p3))), .second, .val (.long (p2.toInt64)), .second, .unset, .unset, .unset, .unset, .unset] [(.int p3)])) _
    refine XS.i2l X0.here hx rfl (hb hby at_86) rfl ?_
    show Steps p.tables e below (s₁.setTop (mkF m 87 #[.val (.int p1), .val (.int p2), .val (.int p3), .val (.int p4), .val (.int (own_rem (p1 &&& (2147483647 : Int32)) (6 : Int32))), .val (.int (0 : Int32)), .val (.int (1 : Int32)), .val (.double (FP.i2d p2)), .second, .val (.double (FP.dneg (FP.i2d p3))), .second, .val (.long (p2.toInt64)), .second, .unset, .unset, .unset, .unset, .unset] [(.long (p3.toInt64))])) _
    refine XS.lneg X0.here hx rfl (hb hby at_87) rfl ?_
    show Steps p.tables e below (s₁.setTop (mkF m 88 #[.val (.int p1), .val (.int p2), .val (.int p3), .val (.int p4), .val (.int (own_rem (p1 &&& (2147483647 : Int32)) (6 : Int32))), .val (.int (0 : Int32)), .val (.int (1 : Int32)), .val (.double (FP.i2d p2)), .second, .val (.double (FP.dneg (FP.i2d p3))), .second, .val (.long (p2.toInt64)), .second, .unset, .unset, .unset, .unset, .unset] [(.long (-(p3.toInt64)))])) _
    refine XS.goto X0.here hx rfl (pc0 := 88) (pc' := 93) rfl (hb hby at_88) (by decide) (by decide) ?_
    show Steps p.tables e below (s₁.setTop (mkF m 93 #[.val (.int p1), .val (.int p2), .val (.int p3), .val (.int p4), .val (.int (own_rem (p1 &&& (2147483647 : Int32)) (6 : Int32))), .val (.int (0 : Int32)), .val (.int (1 : Int32)), .val (.double (FP.i2d p2)), .second, .val (.double (FP.dneg (FP.i2d p3))), .second, .val (.long (p2.toInt64)), .second, .unset, .unset, .unset, .unset, .unset] [(.long (-(p3.toInt64)))])) _
    refine XS.lstore X0.here hx rfl (hb hby at_93) rfl (l' := #[.val (.int p1), .val (.int p2), .val (.int p3), .val (.int p4), .val (.int (own_rem (p1 &&& (2147483647 : Int32)) (6 : Int32))), .val (.int (0 : Int32)), .val (.int (1 : Int32)), .val (.double (FP.i2d p2)), .second, .val (.double (FP.dneg (FP.i2d p3))), .second, .val (.long (p2.toInt64)), .second, .val (.long (-(p3.toInt64))), .second, .unset, .unset, .unset]) rfl ?_
    show Steps p.tables e below (s₁.setTop (mkF m 95 #[.val (.int p1), .val (.int p2), .val (.int p3), .val (.int p4), .val (.int (own_rem (p1 &&& (2147483647 : Int32)) (6 : Int32))), .val (.int (0 : Int32)), .val (.int (1 : Int32)), .val (.double (FP.i2d p2)), .second, .val (.double (FP.dneg (FP.i2d p3))), .second, .val (.long (p2.toInt64)), .second, .val (.long (-(p3.toInt64))), .second, .unset, .unset, .unset] [])) _
    refine XS.lload X0.here hx rfl (hb hby at_95) rfl ?_
    show Steps p.tables e below (s₁.setTop (mkF m 97 #[.val (.int p1), .val (.int p2), .val (.int p3), .val (.int p4), .val (.int (own_rem (p1 &&& (2147483647 : Int32)) (6 : Int32))), .val (.int (0 : Int32)), .val (.int (1 : Int32)), .val (.double (FP.i2d p2)), .second, .val (.double (FP.dneg (FP.i2d p3))), .second, .val (.long (p2.toInt64)), .second, .val (.long (-(p3.toInt64))), .second, .unset, .unset, .unset] [(.long (p2.toInt64))])) _
    refine XS.lload X0.here hx rfl (hb hby at_97) rfl ?_
    show Steps p.tables e below (s₁.setTop (mkF m 99 #[.val (.int p1), .val (.int p2), .val (.int p3), .val (.int p4), .val (.int (own_rem (p1 &&& (2147483647 : Int32)) (6 : Int32))), .val (.int (0 : Int32)), .val (.int (1 : Int32)), .val (.double (FP.i2d p2)), .second, .val (.double (FP.dneg (FP.i2d p3))), .second, .val (.long (p2.toInt64)), .second, .val (.long (-(p3.toInt64))), .second, .unset, .unset, .unset] [(.long (-(p3.toInt64))), (.long (p2.toInt64))])) _
    refine XS.lsub X0.here hx rfl (hb hby at_99) rfl ?_
    show Steps p.tables e below (s₁.setTop (mkF m 100 #[.val (.int p1), .val (.int p2), .val (.int p3), .val (.int p4), .val (.int (own_rem (p1 &&& (2147483647 : Int32)) (6 : Int32))), .val (.int (0 : Int32)), .val (.int (1 : Int32)), .val (.double (FP.i2d p2)), .second, .val (.double (FP.dneg (FP.i2d p3))), .second, .val (.long (p2.toInt64)), .second, .val (.long (-(p3.toInt64))), .second, .unset, .unset, .unset] [(.long ((p2.toInt64) - (-(p3.toInt64))))])) _
    refine XS.lstore X0.here hx rfl (hb hby at_100) rfl (l' := #[.val (.int p1), .val (.int p2), .val (.int p3), .val (.int p4), .val (.int (own_rem (p1 &&& (2147483647 : Int32)) (6 : Int32))), .val (.int (0 : Int32)), .val (.int (1 : Int32)), .val (.double (FP.i2d p2)), .second, .val (.double (FP.dneg (FP.i2d p3))), .second, .val (.long (p2.toInt64)), .second, .val (.long (-(p3.toInt64))), .second, .val (.long ((p2.toInt64) - (-(p3.toInt64)))), .second, .unset]) rfl ?_
    show Steps p.tables e below (s₁.setTop (mkF m 102 #[.val (.int p1), .val (.int p2), .val (.int p3), .val (.int p4), .val (.int (own_rem (p1 &&& (2147483647 : Int32)) (6 : Int32))), .val (.int (0 : Int32)), .val (.int (1 : Int32)), .val (.double (FP.i2d p2)), .second, .val (.double (FP.dneg (FP.i2d p3))), .second, .val (.long (p2.toInt64)), .second, .val (.long (-(p3.toInt64))), .second, .val (.long ((p2.toInt64) - (-(p3.toInt64)))), .second, .unset] [])) _
    refine XS.iload X0.here hx rfl (hb hby at_102) rfl ?_
    show Steps p.tables e below (s₁.setTop (mkF m 104 #[.val (.int p1), .val (.int p2), .val (.int p3), .val (.int p4), .val (.int (own_rem (p1 &&& (2147483647 : Int32)) (6 : Int32))), .val (.int (0 : Int32)), .val (.int (1 : Int32)), .val (.double (FP.i2d p2)), .second, .val (.double (FP.dneg (FP.i2d p3))), .second, .val (.long (p2.toInt64)), .second, .val (.long (-(p3.toInt64))), .second, .val (.long ((p2.toInt64) - (-(p3.toInt64)))), .second, .unset] [(.int (own_rem (p1 &&& (2147483647 : Int32)) (6 : Int32)))])) _
    refine st5 _ ?_
    show Steps p.tables e below (T5.setTop (mkF m 107 #[.val (.int p1), .val (.int p2), .val (.int p3), .val (.int p4), .val (.int (own_rem (p1 &&& (2147483647 : Int32)) (6 : Int32))), .val (.int (0 : Int32)), .val (.int (1 : Int32)), .val (.double (FP.i2d p2)), .second, .val (.double (FP.dneg (FP.i2d p3))), .second, .val (.long (p2.toInt64)), .second, .val (.long (-(p3.toInt64))), .second, .val (.long ((p2.toInt64) - (-(p3.toInt64)))), .second, .unset] [(.ref kk)])) _
    refine XS.astore X5.here hx rfl (hb hby at_107) rfl rfl (l' := #[.val (.int p1), .val (.int p2), .val (.int p3), .val (.int p4), .val (.int (own_rem (p1 &&& (2147483647 : Int32)) (6 : Int32))), .val (.int (0 : Int32)), .val (.int (1 : Int32)), .val (.double (FP.i2d p2)), .second, .val (.double (FP.dneg (FP.i2d p3))), .second, .val (.long (p2.toInt64)), .second, .val (.long (-(p3.toInt64))), .second, .val (.long ((p2.toInt64) - (-(p3.toInt64)))), .second, .val (.ref kk)]) rfl ?_
    show Steps p.tables e below (T5.setTop (mkF m 109 #[.val (.int p1), .val (.int p2), .val (.int p3), .val (.int p4), .val (.int (own_rem (p1 &&& (2147483647 : Int32)) (6 : Int32))), .val (.int (0 : Int32)), .val (.int (1 : Int32)), .val (.double (FP.i2d p2)), .second, .val (.double (FP.dneg (FP.i2d p3))), .second, .val (.long (p2.toInt64)), .second, .val (.long (-(p3.toInt64))), .second, .val (.long ((p2.toInt64) - (-(p3.toInt64)))), .second, .val (.ref kk)] [])) _
    refine XS.aload X5.here hx rfl (hb hby at_109) rfl rfl ?_
    show Steps p.tables e below (T5.setTop (mkF m 111 #[.val (.int p1), .val (.int p2), .val (.int p3), .val (.int p4), .val (.int (own_rem (p1 &&& (2147483647 : Int32)) (6 : Int32))), .val (.int (0 : Int32)), .val (.int (1 : Int32)), .val (.double (FP.i2d p2)), .second, .val (.double (FP.dneg (FP.i2d p3))), .second, .val (.long (p2.toInt64)), .second, .val (.long (-(p3.toInt64))), .second, .val (.long ((p2.toInt64) - (-(p3.toInt64)))), .second, .val (.ref kk)] [(.ref kk)])) _
    refine XS.dload X5.here hx rfl (hb hby at_111) rfl ?_
    show Steps p.tables e below (T5.setTop (mkF m 113 #[.val (.int p1), .val (.int p2), .val (.int p3), .val (.int p4), .val (.int (own_rem (p1 &&& (2147483647 : Int32)) (6 : Int32))), .val (.int (0 : Int32)), .val (.int (1 : Int32)), .val (.double (FP.i2d p2)), .second, .val (.double (FP.dneg (FP.i2d p3))), .second, .val (.long (p2.toInt64)), .second, .val (.long (-(p3.toInt64))), .second, .val (.long ((p2.toInt64) - (-(p3.toInt64)))), .second, .val (.ref kk)] [(.double (FP.i2d p2)), (.ref kk)])) _
    refine XS.dload X5.here hx rfl (hb hby at_113) rfl ?_
    show Steps p.tables e below (T5.setTop (mkF m 115 #[.val (.int p1), .val (.int p2), .val (.int p3), .val (.int p4), .val (.int (own_rem (p1 &&& (2147483647 : Int32)) (6 : Int32))), .val (.int (0 : Int32)), .val (.int (1 : Int32)), .val (.double (FP.i2d p2)), .second, .val (.double (FP.dneg (FP.i2d p3))), .second, .val (.long (p2.toInt64)), .second, .val (.long (-(p3.toInt64))), .second, .val (.long ((p2.toInt64) - (-(p3.toInt64)))), .second, .val (.ref kk)] [(.double (FP.dneg (FP.i2d p3))), (.double (FP.i2d p2)), (.ref kk)])) _
    refine st6.trans ?_
    show Steps p.tables e below (T6.setTop (mkF m 118 #[.val (.int p1), .val (.int p2), .val (.int p3), .val (.int p4), .val (.int (own_rem (p1 &&& (2147483647 : Int32)) (6 : Int32))), .val (.int (0 : Int32)), .val (.int (1 : Int32)), .val (.double (FP.i2d p2)), .second, .val (.double (FP.dneg (FP.i2d p3))), .second, .val (.long (p2.toInt64)), .second, .val (.long (-(p3.toInt64))), .second, .val (.long ((p2.toInt64) - (-(p3.toInt64)))), .second, .val (.ref kk)] [(.int bb)])) _
    refine XS.iload X6.here hx rfl (hb hby at_118) rfl ?_
    show Steps p.tables e below (T6.setTop (mkF m 120 #[.val (.int p1), .val (.int p2), .val (.int p3), .val (.int p4), .val (.int (own_rem (p1 &&& (2147483647 : Int32)) (6 : Int32))), .val (.int (0 : Int32)), .val (.int (1 : Int32)), .val (.double (FP.i2d p2)), .second, .val (.double (FP.dneg (FP.i2d p3))), .second, .val (.long (p2.toInt64)), .second, .val (.long (-(p3.toInt64))), .second, .val (.long ((p2.toInt64) - (-(p3.toInt64)))), .second, .val (.ref kk)] [(.int (own_rem (p1 &&& (2147483647 : Int32)) (6 : Int32))), (.int bb)])) _
    refine XS.lload X6.here hx rfl (hb hby at_120) rfl ?_
    show Steps p.tables e below (T6.setTop (mkF m 122 #[.val (.int p1), .val (.int p2), .val (.int p3), .val (.int p4), .val (.int (own_rem (p1 &&& (2147483647 : Int32)) (6 : Int32))), .val (.int (0 : Int32)), .val (.int (1 : Int32)), .val (.double (FP.i2d p2)), .second, .val (.double (FP.dneg (FP.i2d p3))), .second, .val (.long (p2.toInt64)), .second, .val (.long (-(p3.toInt64))), .second, .val (.long ((p2.toInt64) - (-(p3.toInt64)))), .second, .val (.ref kk)] [(.long ((p2.toInt64) - (-(p3.toInt64)))), (.int (own_rem (p1 &&& (2147483647 : Int32)) (6 : Int32))), (.int bb)])) _
    refine st7 _ ?_
    show Steps p.tables e below (T7.setTop (mkF m 125 #[.val (.int p1), .val (.int p2), .val (.int p3), .val (.int p4), .val (.int (own_rem (p1 &&& (2147483647 : Int32)) (6 : Int32))), .val (.int (0 : Int32)), .val (.int (1 : Int32)), .val (.double (FP.i2d p2)), .second, .val (.double (FP.dneg (FP.i2d p3))), .second, .val (.long (p2.toInt64)), .second, .val (.long (-(p3.toInt64))), .second, .val (.long ((p2.toInt64) - (-(p3.toInt64)))), .second, .val (.ref kk)] [(.int bb), (.int bb)])) _
    refine XS.icmpNo X7.here hx rfl (hb hby at_125) rfl (teq (rfl : bb = bb)).2 ?_
    show Steps p.tables e below (T7.setTop (mkF m 128 #[.val (.int p1), .val (.int p2), .val (.int p3), .val (.int p4), .val (.int (own_rem (p1 &&& (2147483647 : Int32)) (6 : Int32))), .val (.int (0 : Int32)), .val (.int (1 : Int32)), .val (.double (FP.i2d p2)), .second, .val (.double (FP.dneg (FP.i2d p3))), .second, .val (.long (p2.toInt64)), .second, .val (.long (-(p3.toInt64))), .second, .val (.long ((p2.toInt64) - (-(p3.toInt64)))), .second, .val (.ref kk)] [])) _
    refine XS.iconst X7.here hx rfl (hb hby at_128) ?_
    show Steps p.tables e below (T7.setTop (mkF m 129 #[.val (.int p1), .val (.int p2), .val (.int p3), .val (.int p4), .val (.int (own_rem (p1 &&& (2147483647 : Int32)) (6 : Int32))), .val (.int (0 : Int32)), .val (.int (1 : Int32)), .val (.double (FP.i2d p2)), .second, .val (.double (FP.dneg (FP.i2d p3))), .second, .val (.long (p2.toInt64)), .second, .val (.long (-(p3.toInt64))), .second, .val (.long ((p2.toInt64) - (-(p3.toInt64)))), .second, .val (.ref kk)] [(.int (1 : Int32))])) _
    refine XS.goto X7.here hx rfl (pc0 := 129) (pc' := 133) rfl (hb hby at_129) (by decide) (by decide) ?_
    show Steps p.tables e below (T7.setTop (mkF m 133 #[.val (.int p1), .val (.int p2), .val (.int p3), .val (.int p4), .val (.int (own_rem (p1 &&& (2147483647 : Int32)) (6 : Int32))), .val (.int (0 : Int32)), .val (.int (1 : Int32)), .val (.double (FP.i2d p2)), .second, .val (.double (FP.dneg (FP.i2d p3))), .second, .val (.long (p2.toInt64)), .second, .val (.long (-(p3.toInt64))), .second, .val (.long ((p2.toInt64) - (-(p3.toInt64)))), .second, .val (.ref kk)] [(.int (1 : Int32))])) _
    exact retN X7 hx (t := .boolean) Bd.returns (by simp) (hb hby at_133) hr
  · show Ql (some (.int (1 : Int32))) n0 _ _
    exact ⟨rfl, N7⟩
theorem rmS01 (l : Launch) (Z : State) (a0 : Array Value) (hw : ∀ d ∈ tables_1, d.before a0 Z = true) (ws : List Jvm.Cond) (p1 p2 p3 p4 : Int32) (h0 : Heap) (n0 : Nat) (Z0 : n0 ≤ h0.size) (s1 : (p4 &&& (1 : Int32)) = (0 : Int32)) (s2 : ¬ (p4 &&& (2 : Int32)) = (0 : Int32)) (k_EQUAL : Addr) (S_EQUAL : Sta Z h0 "com/example/axisplan/axisplan/query/Comparison$Relation" "EQUAL" "Lcom/example/axisplan/axisplan/query/Comparison$Relation;" (.ref k_EQUAL)) (E_EQUAL : Exa Z h0 k_EQUAL "com/example/axisplan/axisplan/query/Comparison$Relation") (O_EQUAL : Fld Z h0 k_EQUAL "java/lang/Enum" "ordinal" "I" (.int (0 : Int32))) (k_NOT_EQUAL : Addr) (S_NOT_EQUAL : Sta Z h0 "com/example/axisplan/axisplan/query/Comparison$Relation" "NOT_EQUAL" "Lcom/example/axisplan/axisplan/query/Comparison$Relation;" (.ref k_NOT_EQUAL)) (E_NOT_EQUAL : Exa Z h0 k_NOT_EQUAL "com/example/axisplan/axisplan/query/Comparison$Relation") (O_NOT_EQUAL : Fld Z h0 k_NOT_EQUAL "java/lang/Enum" "ordinal" "I" (.int (1 : Int32))) (k_GREATER : Addr) (S_GREATER : Sta Z h0 "com/example/axisplan/axisplan/query/Comparison$Relation" "GREATER" "Lcom/example/axisplan/axisplan/query/Comparison$Relation;" (.ref k_GREATER)) (E_GREATER : Exa Z h0 k_GREATER "com/example/axisplan/axisplan/query/Comparison$Relation") (O_GREATER : Fld Z h0 k_GREATER "java/lang/Enum" "ordinal" "I" (.int (4 : Int32))) (k_LESS_OR_EQUAL : Addr) (S_LESS_OR_EQUAL : Sta Z h0 "com/example/axisplan/axisplan/query/Comparison$Relation" "LESS_OR_EQUAL" "Lcom/example/axisplan/axisplan/query/Comparison$Relation;" (.ref k_LESS_OR_EQUAL)) (E_LESS_OR_EQUAL : Exa Z h0 k_LESS_OR_EQUAL "com/example/axisplan/axisplan/query/Comparison$Relation") (O_LESS_OR_EQUAL : Fld Z h0 k_LESS_OR_EQUAL "java/lang/Enum" "ordinal" "I" (.int (3 : Int32))) (k_GREATER_OR_EQUAL : Addr) (S_GREATER_OR_EQUAL : Sta Z h0 "com/example/axisplan/axisplan/query/Comparison$Relation" "GREATER_OR_EQUAL" "Lcom/example/axisplan/axisplan/query/Comparison$Relation;" (.ref k_GREATER_OR_EQUAL)) (E_GREATER_OR_EQUAL : Exa Z h0 k_GREATER_OR_EQUAL "com/example/axisplan/axisplan/query/Comparison$Relation") (O_GREATER_OR_EQUAL : Fld Z h0 k_GREATER_OR_EQUAL "java/lang/Enum" "ordinal" "I" (.int (5 : Int32))) (k_LESS : Addr) (S_LESS : Sta Z h0 "com/example/axisplan/axisplan/query/Comparison$Relation" "LESS" "Lcom/example/axisplan/axisplan/query/Comparison$Relation;" (.ref k_LESS)) (E_LESS : Exa Z h0 k_LESS "com/example/axisplan/axisplan/query/Comparison$Relation") (O_LESS : Fld Z h0 k_LESS "java/lang/Enum" "ordinal" "I" (.int (2 : Int32))) :
    MetFree l x (head1 (Jvm.Cond.code x code maxLocals ret :: ws) room_1) (fun a U => a = #[(.int p1), (.int p2), (.int p3), (.int p4)] ∧ Z.Warmed39 U.vm ∧ U.heap = h0) (fun _ _ _ _ _ => True) (fun _ U o U' => ∃ v L, o = .returned v ∧ Ql (some (.int (1 : Int32))) n0 v L ∧ FrameEnd U o U' L room_1.cells room_1.slots) := by
  have hA : FP.Core.DInt (p2.toInt) (FP.i2d p2) := FP.Core.i2d_int p2
  have hB : FP.Core.DInt (-p3.toInt) (FP.dneg (FP.i2d p3)) := own_dneg p3
  obtain ⟨r1, r2, r3, r4⟩ := own_rng p2
  obtain ⟨r5, r6, r7, r8⟩ := own_rng p3
  have hD : (((p2.toInt64) - (-(p3.toInt64)))).toInt = (p2.toInt) - (-p3.toInt) := own_sub (own_pos p2) (own_neg p3) (by omega) (by omega) (by omega) (by omega)
  have hl := own_cmp hA hB hD .l
  have hg := own_cmp hA hB hD .g
  by_cases c0 : (own_rem (p1 &&& (2147483647 : Int32)) (6 : Int32)) = (0 : Int32)
  · by_cases hh' : (lcmpW ((p2.toInt64) - (-(p3.toInt64))) (0 : Int64)) = (0 : Int32)
    · exact rm0_s01 l Z a0 hw ws p1 p2 p3 p4 h0 n0 Z0 k_EQUAL 1 E_EQUAL (rm1_f l Z a0 hw [] _ k_EQUAL h0 n0 Z0 S_EQUAL c0) (rm2_0f l Z a0 hw [] k_EQUAL _ _ h0 n0 Z0 O_EQUAL E_EQUAL (by rw [hl]; exact hh')) (rm4_0f l Z a0 hw [] _ _ h0 n0 Z0 c0 hh') s1 s2 (by decide) (by decide)
    · exact rm0_s01 l Z a0 hw ws p1 p2 p3 p4 h0 n0 Z0 k_EQUAL 0 E_EQUAL (rm1_f l Z a0 hw [] _ k_EQUAL h0 n0 Z0 S_EQUAL c0) (rm2_0t l Z a0 hw [] k_EQUAL _ _ h0 n0 Z0 O_EQUAL E_EQUAL (by rw [hl]; exact hh')) (rm4_0t l Z a0 hw [] _ _ h0 n0 Z0 c0 hh') s1 s2 (by decide) (by decide)
  by_cases c1 : (own_rem (p1 &&& (2147483647 : Int32)) (6 : Int32)) = (1 : Int32)
  · by_cases hh' : (lcmpW ((p2.toInt64) - (-(p3.toInt64))) (0 : Int64)) = (0 : Int32)
    · exact rm0_s01 l Z a0 hw ws p1 p2 p3 p4 h0 n0 Z0 k_NOT_EQUAL 0 E_NOT_EQUAL (rm1_tf l Z a0 hw [] _ k_NOT_EQUAL h0 n0 Z0 S_NOT_EQUAL c0 c1) (rm2_1t l Z a0 hw [] k_NOT_EQUAL _ _ h0 n0 Z0 O_NOT_EQUAL E_NOT_EQUAL (by rw [hl]; exact hh')) (rm4_1t l Z a0 hw [] _ _ h0 n0 Z0 c0 c1 hh') s1 s2 (by decide) (by decide)
    · exact rm0_s01 l Z a0 hw ws p1 p2 p3 p4 h0 n0 Z0 k_NOT_EQUAL 1 E_NOT_EQUAL (rm1_tf l Z a0 hw [] _ k_NOT_EQUAL h0 n0 Z0 S_NOT_EQUAL c0 c1) (rm2_1f l Z a0 hw [] k_NOT_EQUAL _ _ h0 n0 Z0 O_NOT_EQUAL E_NOT_EQUAL (by rw [hl]; exact hh')) (rm4_1f l Z a0 hw [] _ _ h0 n0 Z0 c0 c1 hh') s1 s2 (by decide) (by decide)
  by_cases c2 : (own_rem (p1 &&& (2147483647 : Int32)) (6 : Int32)) = (2 : Int32)
  · by_cases hh' : (lcmpW ((p2.toInt64) - (-(p3.toInt64))) (0 : Int64)) < (0 : Int32)
    · exact rm0_s01 l Z a0 hw ws p1 p2 p3 p4 h0 n0 Z0 k_LESS 1 E_LESS (rm1_ttf l Z a0 hw [] _ k_LESS h0 n0 Z0 S_LESS c0 c1 c2) (rm2_2f l Z a0 hw [] k_LESS _ _ h0 n0 Z0 O_LESS E_LESS (by rw [hg]; exact hh')) (rm4_2f l Z a0 hw [] _ _ h0 n0 Z0 c0 c1 c2 hh') s1 s2 (by decide) (by decide)
    · exact rm0_s01 l Z a0 hw ws p1 p2 p3 p4 h0 n0 Z0 k_LESS 0 E_LESS (rm1_ttf l Z a0 hw [] _ k_LESS h0 n0 Z0 S_LESS c0 c1 c2) (rm2_2t l Z a0 hw [] k_LESS _ _ h0 n0 Z0 O_LESS E_LESS (by rw [hg]; exact hh')) (rm4_2t l Z a0 hw [] _ _ h0 n0 Z0 c0 c1 c2 hh') s1 s2 (by decide) (by decide)
  by_cases c3 : (own_rem (p1 &&& (2147483647 : Int32)) (6 : Int32)) = (3 : Int32)
  · by_cases hh' : (0 : Int32) < (lcmpW ((p2.toInt64) - (-(p3.toInt64))) (0 : Int64))
    · exact rm0_s01 l Z a0 hw ws p1 p2 p3 p4 h0 n0 Z0 k_LESS_OR_EQUAL 0 E_LESS_OR_EQUAL (rm1_tttf l Z a0 hw [] _ k_LESS_OR_EQUAL h0 n0 Z0 S_LESS_OR_EQUAL c0 c1 c2 c3) (rm2_3t l Z a0 hw [] k_LESS_OR_EQUAL _ _ h0 n0 Z0 O_LESS_OR_EQUAL E_LESS_OR_EQUAL (by rw [hg]; exact hh')) (rm4_3t l Z a0 hw [] _ _ h0 n0 Z0 c0 c1 c2 c3 hh') s1 s2 (by decide) (by decide)
    · exact rm0_s01 l Z a0 hw ws p1 p2 p3 p4 h0 n0 Z0 k_LESS_OR_EQUAL 1 E_LESS_OR_EQUAL (rm1_tttf l Z a0 hw [] _ k_LESS_OR_EQUAL h0 n0 Z0 S_LESS_OR_EQUAL c0 c1 c2 c3) (rm2_3f l Z a0 hw [] k_LESS_OR_EQUAL _ _ h0 n0 Z0 O_LESS_OR_EQUAL E_LESS_OR_EQUAL (by rw [hg]; exact hh')) (rm4_3f l Z a0 hw [] _ _ h0 n0 Z0 c0 c1 c2 c3 hh') s1 s2 (by decide) (by decide)
  by_cases c4 : (own_rem (p1 &&& (2147483647 : Int32)) (6 : Int32)) = (4 : Int32)
  · by_cases hh' : (0 : Int32) < (lcmpW ((p2.toInt64) - (-(p3.toInt64))) (0 : Int64))
    · exact rm0_s01 l Z a0 hw ws p1 p2 p3 p4 h0 n0 Z0 k_GREATER 1 E_GREATER (rm1_ttttf l Z a0 hw [] _ k_GREATER h0 n0 Z0 S_GREATER c0 c1 c2 c3 c4) (rm2_4f l Z a0 hw [] k_GREATER _ _ h0 n0 Z0 O_GREATER E_GREATER (by rw [hl]; exact hh')) (rm4_4f l Z a0 hw [] _ _ h0 n0 Z0 c0 c1 c2 c3 c4 hh') s1 s2 (by decide) (by decide)
    · exact rm0_s01 l Z a0 hw ws p1 p2 p3 p4 h0 n0 Z0 k_GREATER 0 E_GREATER (rm1_ttttf l Z a0 hw [] _ k_GREATER h0 n0 Z0 S_GREATER c0 c1 c2 c3 c4) (rm2_4t l Z a0 hw [] k_GREATER _ _ h0 n0 Z0 O_GREATER E_GREATER (by rw [hl]; exact hh')) (rm4_4t l Z a0 hw [] _ _ h0 n0 Z0 c0 c1 c2 c3 c4 hh') s1 s2 (by decide) (by decide)
  · by_cases hh' : (lcmpW ((p2.toInt64) - (-(p3.toInt64))) (0 : Int64)) < (0 : Int32)
    · exact rm0_s01 l Z a0 hw ws p1 p2 p3 p4 h0 n0 Z0 k_GREATER_OR_EQUAL 0 E_GREATER_OR_EQUAL (rm1_ttttt l Z a0 hw [] _ k_GREATER_OR_EQUAL h0 n0 Z0 S_GREATER_OR_EQUAL c0 c1 c2 c3 c4) (rm2_5t l Z a0 hw [] k_GREATER_OR_EQUAL _ _ h0 n0 Z0 O_GREATER_OR_EQUAL E_GREATER_OR_EQUAL (by rw [hl]; exact hh')) (rm4_5t l Z a0 hw [] _ _ h0 n0 Z0 c0 c1 c2 c3 c4 hh') s1 s2 (by decide) (by decide)
    · exact rm0_s01 l Z a0 hw ws p1 p2 p3 p4 h0 n0 Z0 k_GREATER_OR_EQUAL 1 E_GREATER_OR_EQUAL (rm1_ttttt l Z a0 hw [] _ k_GREATER_OR_EQUAL h0 n0 Z0 S_GREATER_OR_EQUAL c0 c1 c2 c3 c4) (rm2_5f l Z a0 hw [] k_GREATER_OR_EQUAL _ _ h0 n0 Z0 O_GREATER_OR_EQUAL E_GREATER_OR_EQUAL (by rw [hl]; exact hh')) (rm4_5f l Z a0 hw [] _ _ h0 n0 Z0 c0 c1 c2 c3 c4 hh') s1 s2 (by decide) (by decide)
set_option maxRecDepth 65536 in
set_option maxHeartbeats 40000000 in
theorem rm0_s10 (l : Launch) (Z : State) (a0 : Array Value) (hw : ∀ d ∈ tables_1, d.before a0 Z = true) (ws : List Jvm.Cond) (p1 : Int32) (p2 : Int32) (p3 : Int32) (p4 : Int32) (h0 : Heap) (n0 : Nat) (Z0 : n0 ≤ h0.size) (kk : Addr) (bb : Int32) (EK : Exa Z h0 kk "com/example/axisplan/axisplan/query/Comparison$Relation") (M1 : MetFree l (⟨"com/example/axisplan/axisplan/query/RelationHoldsPinLaw", "pick", "(I)Lcom/example/axisplan/axisplan/query/Comparison$Relation;"⟩ : MethodName) (head1 (Jvm.Cond.code (⟨"com/example/axisplan/axisplan/query/RelationHoldsPinLaw", "pick", "(I)Lcom/example/axisplan/axisplan/query/Comparison$Relation;"⟩ : MethodName) method_2_code 1 (some (.object "com/example/axisplan/axisplan/query/Comparison$Relation")) :: []) ({ frames := 0, cells := 0, slots := 0, locals := 0 } : Room)) (fun a U => a = #[(.int (own_rem (p1 &&& (2147483647 : Int32)) (6 : Int32)))] ∧ Z.Warmed39 U.vm ∧ U.heap = h0) (fun _ _ _ _ _ => True) (fun _ U o U' => ∃ v L, o = .returned v ∧ Qv (some (.ref kk)) h0 n0 v U'.heap L ∧ FrameEnd U o U' L ({ frames := 0, cells := 0, slots := 0, locals := 0 } : Room).cells ({ frames := 0, cells := 0, slots := 0, locals := 0 } : Room).slots)) (M2 : MetFree l (⟨"com/example/axisplan/axisplan/query/Comparison$Relation", "holds", "(DD)Z"⟩ : MethodName) (head1 (Jvm.Cond.code (⟨"com/example/axisplan/axisplan/query/Comparison$Relation", "holds", "(DD)Z"⟩ : MethodName) prog_24_method_8_code 5 (some .boolean) :: []) ({ frames := 1, cells := 0, slots := 0, locals := 12 } : Room)) (fun a U => a = #[(.ref kk), (.double (FP.dneg (FP.i2d p2))), (.double (FP.i2d p3))] ∧ Z.Warmed39 U.vm ∧ U.heap = h0) (fun _ _ _ _ _ => True) (fun _ U o U' => ∃ v L, o = .returned v ∧ Qv (some (.int bb)) h0 n0 v U'.heap L ∧ FrameEnd U o U' L ({ frames := 1, cells := 0, slots := 0, locals := 12 } : Room).cells ({ frames := 1, cells := 0, slots := 0, locals := 12 } : Room).slots)) (M3 : MetFree l (⟨"com/example/axisplan/axisplan/query/RelationHoldsPinLaw", "expected", "(IJ)Z"⟩ : MethodName) (head1 (Jvm.Cond.code (⟨"com/example/axisplan/axisplan/query/RelationHoldsPinLaw", "expected", "(IJ)Z"⟩ : MethodName) method_3_code 3 (some .boolean) :: []) ({ frames := 0, cells := 0, slots := 0, locals := 0 } : Room)) (fun a U => a = #[(.int (own_rem (p1 &&& (2147483647 : Int32)) (6 : Int32))), (.long ((-(p2.toInt64)) - (p3.toInt64)))] ∧ Z.Warmed39 U.vm ∧ U.heap = h0) (fun _ _ _ _ _ => True) (fun _ U o U' => ∃ v L, o = .returned v ∧ Qv (some (.int bb)) h0 n0 v U'.heap L ∧ FrameEnd U o U' L ({ frames := 0, cells := 0, slots := 0, locals := 0 } : Room).cells ({ frames := 0, cells := 0, slots := 0, locals := 0 } : Room).slots)) (hc12 : ¬ ((p4 &&& (1 : Int32)) = (0 : Int32))) (hc25 : (p4 &&& (2 : Int32)) = (0 : Int32)) (hc37 : ¬ ((1 : Int32) = (0 : Int32))) (hc67 : ¬ ((1 : Int32) = (0 : Int32))) :
    MetFree l x (head1 (Jvm.Cond.code x code maxLocals ret :: ws) room_1) (fun a U => a = #[(.int p1), (.int p2), (.int p3), (.int p4)] ∧ Z.Warmed39 U.vm ∧ U.heap = h0) (fun _ _ _ _ _ => True) (fun _ U o U' => ∃ v L, o = .returned v ∧ Ql (some (.int (1 : Int32))) n0 v L ∧ FrameEnd U o U' L room_1.cells room_1.slots) := by
  refine MetFree.of_bodySF (plainFor_of_name pn_0) hisR ?_
  intro p e s m args below meth c s₁ Bd hml0 hP hK
  obtain ⟨rfl, hZ, hh⟩ := hP
  have hx := Bd.exec
  have hby := Bd.bytes
  have hml : c.maxLocals = 18 := hml0
  have hown : s.vm.findClass "com/example/axisplan/axisplan/query/RelationHoldsPinLaw" = some m.cls := findClass_of_methodNamed Bd.named
  have hnm := (name_of_methodNamed Bd.named Bd.method).1
  have X0 : Stand p l e room_1 s m #[(.int p1), (.int p2), (.int p3), (.int p4)] below meth c s₁ [] 0 0 := Stand.of_body Bd
  have e0 : s₁.heap = h0 := by rw [← hh, Bd.state]; rfl
  have N0 := Fr.nil n0
  have pre0 : ∀ t, Steps p.tables e below (s₁.setTop (mkF m 0 #[.val (.int p1), .val (.int p2), .val (.int p3), .val (.int p4), .unset, .unset, .unset, .unset, .unset, .unset, .unset, .unset, .unset, .unset, .unset, .unset, .unset, .unset] [])) t → Steps p.tables e below (s₁.setTop (entryFrame m #[(.int p1), (.int p2), (.int p3), (.int p4)] maxLocals)) t := fun t k => castTop (ef_0 m p1 p2 p3 p4) k
  -- 3. LAWS
  -- pc 104: com/example/axisplan/axisplan/query/RelationHoldsPinLaw.pick by its contract rm1
  obtain ⟨_, _, ⟨T5, L5, k5, n5⟩, -, X5, ⟨Lc5, hQ5, l5, y5, z5⟩, st5⟩ := Jvm.LawKit.callS X0 hx (y := (⟨"com/example/axisplan/axisplan/query/RelationHoldsPinLaw", "pick", "(I)Lcom/example/axisplan/axisplan/query/Comparison$Relation;"⟩ : MethodName)) hown (mvT hZ (hw _ (List.mem_of_getElem? (i := 1) rfl))) (mvT hZ (hw _ (List.mem_of_getElem? (i := 2) rfl))) (mvT hZ (hw _ (List.mem_of_getElem? (i := 3) rfl))) (mvT hZ (hw _ (List.mem_of_getElem? (i := 4) rfl))) (by decide) (backOf (W := 0) M1 hZ (hw _ (List.mem_of_getElem? (i := 4) rfl)) (hw _ (List.mem_of_getElem? (i := 3) rfl)) (by decide) (by decide)) (g := (mkF m 104 #[.val (.int p1), .val (.int p2), .val (.int p3), .val (.int p4), .val (.int (own_rem (p1 &&& (2147483647 : Int32)) (6 : Int32))), .val (.int (1 : Int32)), .val (.int (0 : Int32)), .val (.double (FP.dneg (FP.i2d p2))), .second, .val (.double (FP.i2d p3)), .second, .val (.long (-(p2.toInt64))), .second, .val (.long (p3.toInt64)), .second, .val (.long ((-(p2.toInt64)) - (p3.toInt64))), .second, .unset] [(.int (own_rem (p1 &&& (2147483647 : Int32)) (6 : Int32)))])) rfl (by rw [hml]; rfl) (argsL := [(.int (own_rem (p1 &&& (2147483647 : Int32)) (6 : Int32)))]) (rest := []) (lenOf pd_0_0 rfl) rfl (by show 2 * 0 + _ ≤ _; exact Nat.le_of_eq rfl) (hb hby at_104) (fun _ _ => ⟨rfl, e0, (by decide : 0 + 0 ≤ _), (by decide : 0 + 0 ≤ _)⟩)
  dsimp only [Pt.U, Pt.locs, Pt.cells, Pt.slots] at X5 l5 y5 z5 st5 hQ5
  subst l5 y5 z5
  obtain ⟨rfl, N5q, e5⟩ := hQ5
  have N5 := Fr.app N0 N5q
  -- pc 115: com/example/axisplan/axisplan/query/Comparison$Relation.holds by the contract of the body that the receiver's class selects, rm2
  -- ✋ yours, out of the call's Q: E_kk : Exa Z h0 kk "com/example/axisplan/axisplan/query/Comparison$Relation"
  obtain ⟨cq6, kq6, q6a, q6b, q6c⟩ := isOf hZ rfl (show Exa Z T5.heap kk "com/example/axisplan/axisplan/query/Comparison$Relation" from e5.symm ▸ EK)
  obtain ⟨_, _, ⟨T6, L6, k6, n6⟩, -, X6, ⟨Lc6, hQ6, l6, y6, z6⟩, st6⟩ := X5.virtualBack hx (y := (⟨"com/example/axisplan/axisplan/query/Comparison$Relation", "holds", "(DD)Z"⟩ : MethodName)) (z := (⟨"com/example/axisplan/axisplan/query/Comparison$Relation", "holds", "(DD)Z"⟩ : MethodName)) hown (mvT hZ (hw _ (List.mem_of_getElem? (i := 8) rfl))) (mvT hZ (hw _ (List.mem_of_getElem? (i := 9) rfl))) (notFace_of_selects (args := #[]) (mvT hZ (hw _ (List.mem_of_getElem? (i := 11) rfl)))) (mvT hZ (hw _ (List.mem_of_getElem? (i := 11) rfl))) (mvT hZ (hw _ (List.mem_of_getElem? (i := 10) rfl))) (by decide) (backOf (W := 0) (e5.symm ▸ M2) hZ (hw _ (List.mem_of_getElem? (i := 12) rfl)) (hw _ (List.mem_of_getElem? (i := 6) rfl)) (by decide) (by decide)) q6a q6c (g := (mkF m 115 #[.val (.int p1), .val (.int p2), .val (.int p3), .val (.int p4), .val (.int (own_rem (p1 &&& (2147483647 : Int32)) (6 : Int32))), .val (.int (1 : Int32)), .val (.int (0 : Int32)), .val (.double (FP.dneg (FP.i2d p2))), .second, .val (.double (FP.i2d p3)), .second, .val (.long (-(p2.toInt64))), .second, .val (.long (p3.toInt64)), .second, .val (.long ((-(p2.toInt64)) - (p3.toInt64))), .second, .val (.ref kk)] [(.double (FP.i2d p3)), (.double (FP.dneg (FP.i2d p2))), (.ref kk)])) rfl (by rw [hml]; rfl) (Steps.refl _) (argsL := [(.double (FP.dneg (FP.i2d p2))), (.double (FP.i2d p3))]) (rest := []) (lenOf pd_0_1 rfl) rfl (by show 2 * 0 + _ ≤ _; exact Nat.le_of_eq rfl) (hb hby at_115) (fun _ _ => ⟨rfl, rfl, (by decide : 0 + 0 ≤ _), (by decide : 0 + 0 ≤ _)⟩)
  dsimp only [Pt.U, Pt.locs, Pt.cells, Pt.slots] at X6 l6 y6 z6 st6 hQ6
  subst l6 y6 z6
  obtain ⟨rfl, N6q, e6⟩ := hQ6
  have N6 := Fr.app N5 N6q
  -- pc 122: com/example/axisplan/axisplan/query/RelationHoldsPinLaw.expected by its contract rm4
  obtain ⟨_, _, ⟨T7, L7, k7, n7⟩, -, X7, ⟨Lc7, hQ7, l7, y7, z7⟩, st7⟩ := Jvm.LawKit.callS X6 hx (y := (⟨"com/example/axisplan/axisplan/query/RelationHoldsPinLaw", "expected", "(IJ)Z"⟩ : MethodName)) hown (mvT hZ (hw _ (List.mem_of_getElem? (i := 22) rfl))) (mvT hZ (hw _ (List.mem_of_getElem? (i := 23) rfl))) (mvT hZ (hw _ (List.mem_of_getElem? (i := 3) rfl))) (mvT hZ (hw _ (List.mem_of_getElem? (i := 24) rfl))) (by decide) (backOf (W := 1) ((e6.trans e5).symm ▸ M3) hZ (hw _ (List.mem_of_getElem? (i := 24) rfl)) (hw _ (List.mem_of_getElem? (i := 3) rfl)) (by decide) (by decide)) (g := (mkF m 122 #[.val (.int p1), .val (.int p2), .val (.int p3), .val (.int p4), .val (.int (own_rem (p1 &&& (2147483647 : Int32)) (6 : Int32))), .val (.int (1 : Int32)), .val (.int (0 : Int32)), .val (.double (FP.dneg (FP.i2d p2))), .second, .val (.double (FP.i2d p3)), .second, .val (.long (-(p2.toInt64))), .second, .val (.long (p3.toInt64)), .second, .val (.long ((-(p2.toInt64)) - (p3.toInt64))), .second, .val (.ref kk)] [(.long ((-(p2.toInt64)) - (p3.toInt64))), (.int (own_rem (p1 &&& (2147483647 : Int32)) (6 : Int32))), (.int bb)])) rfl (by rw [hml]; rfl) (argsL := [(.int (own_rem (p1 &&& (2147483647 : Int32)) (6 : Int32))), (.long ((-(p2.toInt64)) - (p3.toInt64)))]) (rest := [(.int bb)]) (lenOf pd_0_3 rfl) rfl (by show 2 * 0 + _ ≤ _; exact Nat.le_of_eq rfl) (hb hby at_122) (fun _ _ => ⟨rfl, rfl, (by decide : 0 + 0 ≤ _), (by decide : 0 + 0 ≤ _)⟩)
  dsimp only [Pt.U, Pt.locs, Pt.cells, Pt.slots] at X7 l7 y7 z7 st7 hQ7
  subst l7 y7 z7
  obtain ⟨rfl, N7q, e7⟩ := hQ7
  have N7 := Fr.app N6 N7q
  obtain ⟨fs, hr, hrun, hended, hW, hsame⟩ := X7.leave (v := some (.int (1 : Int32))) (fun h => by rw [Bd.returns] at h; cases h)
  refine ⟨_, _, pre0 _ ?_, hrun, hended, _, _, rfl, ?_, ⟨_, rfl⟩, hW, hsame.mono (by decide) (by decide)⟩
  -- 4. STEPS
  · show Steps p.tables e below (s₁.setTop (mkF m 0 #[.val (.int p1), .val (.int p2), .val (.int p3), .val (.int p4), .unset, .unset, .unset, .unset, .unset, .unset, .unset, .unset, .unset, .unset, .unset, .unset, .unset, .unset] [])) _
    refine XS.iloadN X0.here hx rfl (hb hby at_0) rfl ?_
    show Steps p.tables e below (s₁.setTop (mkF m 1 #[.val (.int p1), .val (.int p2), .val (.int p3), .val (.int p4), .unset, .unset, .unset, .unset, .unset, .unset, .unset, .unset, .unset, .unset, .unset, .unset, .unset, .unset] [(.int p1)])) _
    refine X0.ldcInt hx hown (mvT hZ (hw _ (List.mem_of_getElem? (i := 0) rfl))) (g := (mkF m 1 #[.val (.int p1), .val (.int p2), .val (.int p3), .val (.int p4), .unset, .unset, .unset, .unset, .unset, .unset, .unset, .unset, .unset, .unset, .unset, .unset, .unset, .unset] [(.int p1)])) rfl (hb hby at_1) _ ?_
    show Steps p.tables e below (s₁.setTop (mkF m 3 #[.val (.int p1), .val (.int p2), .val (.int p3), .val (.int p4), .unset, .unset, .unset, .unset, .unset, .unset, .unset, .unset, .unset, .unset, .unset, .unset, .unset, .unset] [(.int (2147483647 : Int32)), (.int p1)])) _
    refine XS.iand X0.here hx rfl (hb hby at_3) rfl ?_
    show Steps p.tables e below (s₁.setTop (mkF m 4 #[.val (.int p1), .val (.int p2), .val (.int p3), .val (.int p4), .unset, .unset, .unset, .unset, .unset, .unset, .unset, .unset, .unset, .unset, .unset, .unset, .unset, .unset] [(.int (p1 &&& (2147483647 : Int32)))])) _
    refine XS.bipush X0.here hx rfl (hb hby at_4) ?_
    show Steps p.tables e below (s₁.setTop (mkF m 6 #[.val (.int p1), .val (.int p2), .val (.int p3), .val (.int p4), .unset, .unset, .unset, .unset, .unset, .unset, .unset, .unset, .unset, .unset, .unset, .unset, .unset, .unset] [(.int (6 : Int32)), (.int (p1 &&& (2147483647 : Int32)))])) _
    refine iremM X0 hx rfl (hb hby at_6) rfl (by decide) ?_
    show Steps p.tables e below (s₁.setTop (mkF m 7 #[.val (.int p1), .val (.int p2), .val (.int p3), .val (.int p4), .unset, .unset, .unset, .unset, .unset, .unset, .unset, .unset, .unset, .unset, .unset, .unset, .unset, .unset] [(.int (own_rem (p1 &&& (2147483647 : Int32)) (6 : Int32)))])) _
    refine XS.istore X0.here hx rfl (hb hby at_7) rfl (l' := #[.val (.int p1), .val (.int p2), .val (.int p3), .val (.int p4), .val (.int (own_rem (p1 &&& (2147483647 : Int32)) (6 : Int32))), .unset, .unset, .unset, .unset, .unset, .unset, .unset, .unset, .unset, .unset, .unset, .unset, .unset]) rfl ?_
    show Steps p.tables e below (s₁.setTop (mkF m 9 #[.val (.int p1), .val (.int p2), .val (.int p3), .val (.int p4), .val (.int (own_rem (p1 &&& (2147483647 : Int32)) (6 : Int32))), .unset, .unset, .unset, .unset, .unset, .unset, .unset, .unset, .unset, .unset, .unset, .unset, .unset] [])) _
    refine XS.iloadN X0.here hx rfl (hb hby at_9) rfl ?_
    show Steps p.tables e below (s₁.setTop (mkF m 10 #[.val (.int p1), .val (.int p2), .val (.int p3), .val (.int p4), .val (.int (own_rem (p1 &&& (2147483647 : Int32)) (6 : Int32))), .unset, .unset, .unset, .unset, .unset, .unset, .unset, .unset, .unset, .unset, .unset, .unset, .unset] [(.int p4)])) _
    refine XS.iconst X0.here hx rfl (hb hby at_10) ?_
    show Steps p.tables e below (s₁.setTop (mkF m 11 #[.val (.int p1), .val (.int p2), .val (.int p3), .val (.int p4), .val (.int (own_rem (p1 &&& (2147483647 : Int32)) (6 : Int32))), .unset, .unset, .unset, .unset, .unset, .unset, .unset, .unset, .unset, .unset, .unset, .unset, .unset] [(.int (1 : Int32)), (.int p4)])) _
    refine XS.iand X0.here hx rfl (hb hby at_11) rfl ?_
    show Steps p.tables e below (s₁.setTop (mkF m 12 #[.val (.int p1), .val (.int p2), .val (.int p3), .val (.int p4), .val (.int (own_rem (p1 &&& (2147483647 : Int32)) (6 : Int32))), .unset, .unset, .unset, .unset, .unset, .unset, .unset, .unset, .unset, .unset, .unset, .unset, .unset] [(.int (p4 &&& (1 : Int32)))])) _
    refine XS.ifNo X0.here hx rfl (hb hby at_12) rfl ((if0 _ _).trans (feq hc12).1) ?_
    show Steps p.tables e below (s₁.setTop (mkF m 15 #[.val (.int p1), .val (.int p2), .val (.int p3), .val (.int p4), .val (.int (own_rem (p1 &&& (2147483647 : Int32)) (6 : Int32))), .unset, .unset, .unset, .unset, .unset, .unset, .unset, .unset, .unset, .unset, .unset, .unset, .unset] [])) _
    refine XS.iconst X0.here hx rfl (hb hby at_15) ?_
    show Steps p.tables e below (s₁.setTop (mkF m 16 #[.val (.int p1), .val (.int p2), .val (.int p3), .val (.int p4), .val (.int (own_rem (p1 &&& (2147483647 : Int32)) (6 : Int32))), .unset, .unset, .unset, .unset, .unset, .unset, .unset, .unset, .unset, .unset, .unset, .unset, .unset] [(.int (1 : Int32))])) _
    refine XS.goto X0.here hx rfl (pc0 := 16) (pc' := 20) rfl (hb hby at_16) (by decide) (by decide) ?_
    show Steps p.tables e below (s₁.setTop (mkF m 20 #[.val (.int p1), .val (.int p2), .val (.int p3), .val (.int p4), .val (.int (own_rem (p1 &&& (2147483647 : Int32)) (6 : Int32))), .unset, .unset, .unset, .unset, .unset, .unset, .unset, .unset, .unset, .unset, .unset, .unset, .unset] [(.int (1 : Int32))])) _
    refine XS.istore X0.here hx rfl (hb hby at_20) rfl (l' := #[.val (.int p1), .val (.int p2), .val (.int p3), .val (.int p4), .val (.int (own_rem (p1 &&& (2147483647 : Int32)) (6 : Int32))), .val (.int (1 : Int32)), .unset, .unset, .unset, .unset, .unset, .unset, .unset, .unset, .unset, .unset, .unset, .unset]) rfl ?_
    show Steps p.tables e below (s₁.setTop (mkF m 22 #[.val (.int p1), .val (.int p2), .val (.int p3), .val (.int p4), .val (.int (own_rem (p1 &&& (2147483647 : Int32)) (6 : Int32))), .val (.int (1 : Int32)), .unset, .unset, .unset, .unset, .unset, .unset, .unset, .unset, .unset, .unset, .unset, .unset] [])) _
    refine XS.iloadN X0.here hx rfl (hb hby at_22) rfl ?_
    show Steps p.tables e below (s₁.setTop (mkF m 23 #[.val (.int p1), .val (.int p2), .val (.int p3), .val (.int p4), .val (.int (own_rem (p1 &&& (2147483647 : Int32)) (6 : Int32))), .val (.int (1 : Int32)), .unset, .unset, .unset, .unset, .unset, .unset, .unset, .unset, .unset, .unset, .unset, .unset] [(.int p4)])) _
    refine XS.iconst X0.here hx rfl (hb hby at_23) ?_
    show Steps p.tables e below (s₁.setTop (mkF m 24 #[.val (.int p1), .val (.int p2), .val (.int p3), .val (.int p4), .val (.int (own_rem (p1 &&& (2147483647 : Int32)) (6 : Int32))), .val (.int (1 : Int32)), .unset, .unset, .unset, .unset, .unset, .unset, .unset, .unset, .unset, .unset, .unset, .unset] [(.int (2 : Int32)), (.int p4)])) _
    refine XS.iand X0.here hx rfl (hb hby at_24) rfl ?_
    show Steps p.tables e below (s₁.setTop (mkF m 25 #[.val (.int p1), .val (.int p2), .val (.int p3), .val (.int p4), .val (.int (own_rem (p1 &&& (2147483647 : Int32)) (6 : Int32))), .val (.int (1 : Int32)), .unset, .unset, .unset, .unset, .unset, .unset, .unset, .unset, .unset, .unset, .unset, .unset] [(.int (p4 &&& (2 : Int32)))])) _
    refine XS.ifYes X0.here hx rfl (pc0 := 25) (pc' := 32) rfl (hb hby at_25) rfl ((if0 _ _).trans (teq hc25).1) (by decide) (by decide) ?_
    show Steps p.tables e below (s₁.setTop (mkF m 32 #[.val (.int p1), .val (.int p2), .val (.int p3), .val (.int p4), .val (.int (own_rem (p1 &&& (2147483647 : Int32)) (6 : Int32))), .val (.int (1 : Int32)), .unset, .unset, .unset, .unset, .unset, .unset, .unset, .unset, .unset, .unset, .unset, .unset] [])) _
    refine XS.iconst X0.here hx rfl (hb hby at_32) ?_
    show Steps p.tables e below (s₁.setTop (mkF m 33 #[.val (.int p1), .val (.int p2), .val (.int p3), .val (.int p4), .val (.int (own_rem (p1 &&& (2147483647 : Int32)) (6 : Int32))), .val (.int (1 : Int32)), .unset, .unset, .unset, .unset, .unset, .unset, .unset, .unset, .unset, .unset, .unset, .unset] [(.int (0 : Int32))])) _
    refine XS.istore X0.here hx rfl (hb hby at_33) rfl (l' := #[.val (.int p1), .val (.int p2), .val (.int p3), .val (.int p4), .val (.int (own_rem (p1 &&& (2147483647 : Int32)) (6 : Int32))), .val (.int (1 : Int32)), .val (.int (0 : Int32)), .unset, .unset, .unset, .unset, .unset, .unset, .unset, .unset, .unset, .unset, .unset]) rfl ?_
    show Steps p.tables e below (s₁.setTop (mkF m 35 #[.val (.int p1), .val (.int p2), .val (.int p3), .val (.int p4), .val (.int (own_rem (p1 &&& (2147483647 : Int32)) (6 : Int32))), .val (.int (1 : Int32)), .val (.int (0 : Int32)), .unset, .unset, .unset, .unset, .unset, .unset, .unset, .unset, .unset, .unset, .unset] [])) _
    refine XS.iload X0.here hx rfl (hb hby at_35) rfl ?_
    show Steps p.tables e below (s₁.setTop (mkF m 37 #[.val (.int p1), .val (.int p2), .val (.int p3), .val (.int p4), .val (.int (own_rem (p1 &&& (2147483647 : Int32)) (6 : Int32))), .val (.int (1 : Int32)), .val (.int (0 : Int32)), .unset, .unset, .unset, .unset, .unset, .unset, .unset, .unset, .unset, .unset, .unset] [(.int (1 : Int32))])) _
    refine XS.ifNo X0.here hx rfl (hb hby at_37) rfl ((if0 _ _).trans (feq hc37).1) ?_
    show Steps p.tables e below (s₁.setTop (mkF m 40 #[.val (.int p1), .val (.int p2), .val (.int p3), .val (.int p4), .val (.int (own_rem (p1 &&& (2147483647 : Int32)) (6 : Int32))), .val (.int (1 : Int32)), .val (.int (0 : Int32)), .unset, .unset, .unset, .unset, .unset, .unset, .unset, .unset, .unset, .unset, .unset] [])) _
    refine XS.iloadN X0.here hx rfl (hb hby at_40) rfl ?_
    show Steps p.tables e below (s₁.setTop (mkF m 41 #[.val (.int p1), .val (.int p2), .val (.int p3), .val (.int p4), .val (.int (own_rem (p1 &&& (2147483647 : Int32)) (6 : Int32))), .val (.int (1 : Int32)), .val (.int (0 : Int32)), .unset, .unset, .unset, .unset, .unset, .unset, .unset, .unset, .unset, .unset, .unset] [(.int p2)])) _
    refine XS.i2dS X0.here hx rfl (hb hby at_41) rfl rfl ?_
    show Steps p.tables e below (s₁.setTop (mkF m 42 #[.val (.int p1), .val (.int p2), .val (.int p3), .val (.int p4), .val (.int (own_rem (p1 &&& (2147483647 : Int32)) (6 : Int32))), .val (.int (1 : Int32)), .val (.int (0 : Int32)), .unset, .unset, .unset, .unset, .unset, .unset, .unset, .unset, .unset, .unset, .unset] [(.double (FP.i2d p2))])) _
    refine XS.dnegS X0.here hx rfl (hb hby at_42) rfl rfl ?_
    show Steps p.tables e below (s₁.setTop (mkF m 43 #[.val (.int p1), .val (.int p2), .val (.int p3), .val (.int p4), .val (.int (own_rem (p1 &&& (2147483647 : Int32)) (6 : Int32))), .val (.int (1 : Int32)), .val (.int (0 : Int32)), .unset, .unset, .unset, .unset, .unset, .unset, .unset, .unset, .unset, .unset, .unset] [(.double (FP.dneg (FP.i2d p2)))])) _
    refine XS.goto X0.here hx rfl (pc0 := 43) (pc' := 48) rfl (hb hby at_43) (by decide) (by decide) ?_
    show Steps p.tables e below (s₁.setTop (mkF m 48 #[.val (.int p1), .val (.int p2), .val (.int p3), .val (.int p4), .val (.int (own_rem (p1 &&& (2147483647 : Int32)) (6 : Int32))), .val (.int (1 : Int32)), .val (.int (0 : Int32)), .unset, .unset, .unset, .unset, .unset, .unset, .unset, .unset, .unset, .unset, .unset] [(.double (FP.dneg (FP.i2d p2)))])) _
    refine XS.dstore X0.here hx rfl (hb hby at_48) rfl (l' := #[.val (.int p1), .val (.int p2), .val (.int p3), .val (.int p4), .val (.int (own_rem (p1 &&& (2147483647 : Int32)) (6 : Int32))), .val (.int (1 : Int32)), .val (.int (0 : Int32)), .val (.double (FP.dneg (FP.i2d p2))), .second, .unset, .unset, .unset, .unset, .unset, .unset, .unset, .unset, .unset]) rfl ?_
    show Steps p.tables e below (s₁.setTop (mkF m 50 #[.val (.int p1), .val (.int p2), .val (.int p3), .val (.int p4), .val (.int (own_rem (p1 &&& (2147483647 : Int32)) (6 : Int32))), .val (.int (1 : Int32)), .val (.int (0 : Int32)), .val (.double (FP.dneg (FP.i2d p2))), .second, .unset, .unset, .unset, .unset, .unset, .unset, .unset, .unset, .unset] [])) _
    refine XS.iload X0.here hx rfl (hb hby at_50) rfl ?_
    show Steps p.tables e below (s₁.setTop (mkF m 52 #[.val (.int p1), .val (.int p2), .val (.int p3), .val (.int p4), .val (.int (own_rem (p1 &&& (2147483647 : Int32)) (6 : Int32))), .val (.int (1 : Int32)), .val (.int (0 : Int32)), .val (.double (FP.dneg (FP.i2d p2))), .second, .unset, .unset, .unset, .unset, .unset, .unset, .unset, .unset, .unset] [(.int (0 : Int32))])) _
    refine XS.ifYes X0.here hx rfl (pc0 := 52) (pc' := 61) rfl (hb hby at_52) rfl ((if0 _ _).trans (teq (rfl : (0 : Int32) = (0 : Int32))).1) (by decide) (by decide) ?_
    show Steps p.tables e below (s₁.setTop (mkF m 61 #[.val (.int p1), .val (.int p2), .val (.int p3), .val (.int p4), .val (.int (own_rem (p1 &&& (2147483647 : Int32)) (6 : Int32))), .val (.int (1 : Int32)), .val (.int (0 : Int32)), .val (.double (FP.dneg (FP.i2d p2))), .second, .unset, .unset, .unset, .unset, .unset, .unset, .unset, .unset, .unset] [])) _
    refine XS.iloadN X0.here hx rfl (hb hby at_61) rfl ?_
    show Steps p.tables e below (s₁.setTop (mkF m 62 #[.val (.int p1), .val (.int p2), .val (.int p3), .val (.int p4), .val (.int (own_rem (p1 &&& (2147483647 : Int32)) (6 : Int32))), .val (.int (1 : Int32)), .val (.int (0 : Int32)), .val (.double (FP.dneg (FP.i2d p2))), .second, .unset, .unset, .unset, .unset, .unset, .unset, .unset, .unset, .unset] [(.int p3)])) _
    refine XS.i2dS X0.here hx rfl (hb hby at_62) rfl rfl ?_
    show Steps p.tables e below (s₁.setTop (mkF m 63 #[.val (.int p1), .val (.int p2), .val (.int p3), .val (.int p4), .val (.int (own_rem (p1 &&& (2147483647 : Int32)) (6 : Int32))), .val (.int (1 : Int32)), .val (.int (0 : Int32)), .val (.double (FP.dneg (FP.i2d p2))), .second, .unset, .unset, .unset, .unset, .unset, .unset, .unset, .unset, .unset] [(.double (FP.i2d p3))])) _
    refine XS.dstore X0.here hx rfl (hb hby at_63) rfl (l' := #[.val (.int p1), .val (.int p2), .val (.int p3), .val (.int p4), .val (.int (own_rem (p1 &&& (2147483647 : Int32)) (6 : Int32))), .val (.int (1 : Int32)), .val (.int (0 : Int32)), .val (.double (FP.dneg (FP.i2d p2))), .second, .val (.double (FP.i2d p3)), .second, .unset, .unset, .unset, .unset, .unset, .unset, .unset]) rfl ?_
    show Steps p.tables e below (s₁.setTop (mkF m 65 #[.val (.int p1), .val (.int p2), .val (.int p3), .val (.int p4), .val (.int (own_rem (p1 &&& (2147483647 : Int32)) (6 : Int32))), .val (.int (1 : Int32)), .val (.int (0 : Int32)), .val (.double (FP.dneg (FP.i2d p2))), .second, .val (.double (FP.i2d p3)), .second, .unset, .unset, .unset, .unset, .unset, .unset, .unset] [])) _
    refine XS.iload X0.here hx rfl (hb hby at_65) rfl ?_
    show Steps p.tables e below (s₁.setTop (mkF m 67 #[.val (.int p1), .val (.int p2), .val (.int p3), .val (.int p4), .val (.int (own_rem (p1 &&& (2147483647 : Int32)) (6 : Int32))), .val (.int (1 : Int32)), .val (.int (0 : Int32)), .val (.double (FP.dneg (FP.i2d p2))), .second, .val (.double (FP.i2d p3)), .second, .unset, .unset, .unset, .unset, .unset, .unset, .unset] [(.int (1 : Int32))])) _
    refine XS.ifNo X0.here hx rfl (hb hby at_67) rfl ((if0 _ _).trans (feq hc67).1) ?_
    show Steps p.tables e below (s₁.setTop (mkF m 70 #[.val (.int p1), .val (.int p2), .val (.int p3), .val (.int p4), .val (.int (own_rem (p1 &&& (2147483647 : Int32)) (6 : Int32))), .val (.int (1 : Int32)), .val (.int (0 : Int32)), .val (.double (FP.dneg (FP.i2d p2))), .second, .val (.double (FP.i2d p3)), .second, .unset, .unset, .unset, .unset, .unset, .unset, .unset] [])) _
    refine XS.iloadN X0.here hx rfl (hb hby at_70) rfl ?_
    show Steps p.tables e below (s₁.setTop (mkF m 71 #[.val (.int p1), .val (.int p2), .val (.int p3), .val (.int p4), .val (.int (own_rem (p1 &&& (2147483647 : Int32)) (6 : Int32))), .val (.int (1 : Int32)), .val (.int (0 : Int32)), .val (.double (FP.dneg (FP.i2d p2))), .second, .val (.double (FP.i2d p3)), .second, .unset, .unset, .unset, .unset, .unset, .unset, .unset] [(.int p2)])) _
    refine XS.i2l X0.here hx rfl (hb hby at_71) rfl ?_
    show Steps p.tables e below (s₁.setTop (mkF m 72 #[.val (.int p1), .val (.int p2), .val (.int p3), .val (.int p4), .val (.int (own_rem (p1 &&& (2147483647 : Int32)) (6 : Int32))), .val (.int (1 : Int32)), .val (.int (0 : Int32)), .val (.double (FP.dneg (FP.i2d p2))), .second, .val (.double (FP.i2d p3)), .second, .unset, .unset, .unset, .unset, .unset, .unset, .unset] [(.long (p2.toInt64))])) _
    refine XS.lneg X0.here hx rfl (hb hby at_72) rfl ?_
    show Steps p.tables e below (s₁.setTop (mkF m 73 #[.val (.int p1), .val (.int p2), .val (.int p3), .val (.int p4), .val (.int (own_rem (p1 &&& (2147483647 : Int32)) (6 : Int32))), .val (.int (1 : Int32)), .val (.int (0 : Int32)), .val (.double (FP.dneg (FP.i2d p2))), .second, .val (.double (FP.i2d p3)), .second, .unset, .unset, .unset, .unset, .unset, .unset, .unset] [(.long (-(p2.toInt64)))])) _
    refine XS.goto X0.here hx rfl (pc0 := 73) (pc' := 78) rfl (hb hby at_73) (by decide) (by decide) ?_
    show Steps p.tables e below (s₁.setTop (mkF m 78 #[.val (.int p1), .val (.int p2), .val (.int p3), .val (.int p4), .val (.int (own_rem (p1 &&& (2147483647 : Int32)) (6 : Int32))), .val (.int (1 : Int32)), .val (.int (0 : Int32)), .val (.double (FP.dneg (FP.i2d p2))), .second, .val (.double (FP.i2d p3)), .second, .unset, .unset, .unset, .unset, .unset, .unset, .unset] [(.long (-(p2.toInt64)))])) _
    refine XS.lstore X0.here hx rfl (hb hby at_78) rfl (l' := #[.val (.int p1), .val (.int p2), .val (.int p3), .val (.int p4), .val (.int (own_rem (p1 &&& (2147483647 : Int32)) (6 : Int32))), .val (.int (1 : Int32)), .val (.int (0 : Int32)), .val (.double (FP.dneg (FP.i2d p2))), .second, .val (.double (FP.i2d p3)), .second, .val (.long (-(p2.toInt64))), .second, .unset, .unset, .unset, .unset, .unset]) rfl ?_
    show Steps p.tables e below (s₁.setTop (mkF m 80 #[.val (.int p1), .val (.int p2), .val (.int p3), .val (.int p4), .val (.int (own_rem (p1 &&& (2147483647 : Int32)) (6 : Int32))), .val (.int (1 : Int32)), .val (.int (0 : Int32)), .val (.double (FP.dneg (FP.i2d p2))), .second, .val (.double (FP.i2d p3)), .second, .val (.long (-(p2.toInt64))), .second, .unset, .unset, .unset, .unset, .unset] [])) _
    refine XS.iload X0.here hx rfl (hb hby at_80) rfl ?_
    show Steps p.tables e below (s₁.setTop (mkF m 82 #[.val (.int p1), .val (.int p2), .val (.int p3), .val (.int p4), .val (.int (own_rem (p1 &&& (2147483647 : Int32)) (6 : Int32))), .val (.int (1 : Int32)), .val (.int (0 : Int32)), .val (.double (FP.dneg (FP.i2d p2))), .second, .val (.double (FP.i2d p3)), .second, .val (.long (-(p2.toInt64))), .second, .unset, .unset, .unset, .unset, .unset] [(.int (0 : Int32))])) _
    refine XS.ifYes X0.here hx rfl (pc0 := 82) (pc' := 91) rfl (hb hby at_82) rfl ((if0 _ _).trans (teq (rfl : (0 : Int32) = (0 : Int32))).1) (by decide) (by decide) ?_
    show Steps p.tables e below (s₁.setTop (mkF m 91 #[.val (.int p1), .val (.int p2), .val (.int p3), .val (.int p4), .val (.int (own_rem (p1 &&& (2147483647 : Int32)) (6 : Int32))), .val (.int (1 : Int32)), .val (.int (0 : Int32)), .val (.double (FP.dneg (FP.i2d p2))), .second, .val (.double (FP.i2d p3)), .second, .val (.long (-(p2.toInt64))), .second, .unset, .unset, .unset, .unset, .unset] [])) _
    refine XS.iloadN X0.here hx rfl (hb hby at_91) rfl ?_
    show Steps p.tables e below (s₁.setTop (mkF m 92 #[.val (.int p1), .val (.int p2), .val (.int p3), .val (.int p4), .val (.int (own_rem (p1 &&& (2147483647 : Int32)) (6 : Int32))), .val (.int (1 : Int32)), .val (.int (0 : Int32)), .val (.double (FP.dneg (FP.i2d p2))), .second, .val (.double (FP.i2d p3)), .second, .val (.long (-(p2.toInt64))), .second, .unset, .unset, .unset, .unset, .unset] [(.int p3)])) _
    refine XS.i2l X0.here hx rfl (hb hby at_92) rfl ?_
    show Steps p.tables e below (s₁.setTop (mkF m 93 #[.val (.int p1), .val (.int p2), .val (.int p3), .val (.int p4), .val (.int (own_rem (p1 &&& (2147483647 : Int32)) (6 : Int32))), .val (.int (1 : Int32)), .val (.int (0 : Int32)), .val (.double (FP.dneg (FP.i2d p2))), .second, .val (.double (FP.i2d p3)), .second, .val (.long (-(p2.toInt64))), .second, .unset, .unset, .unset, .unset, .unset] [(.long (p3.toInt64))])) _
    refine XS.lstore X0.here hx rfl (hb hby at_93) rfl (l' := #[.val (.int p1), .val (.int p2), .val (.int p3), .val (.int p4), .val (.int (own_rem (p1 &&& (2147483647 : Int32)) (6 : Int32))), .val (.int (1 : Int32)), .val (.int (0 : Int32)), .val (.double (FP.dneg (FP.i2d p2))), .second, .val (.double (FP.i2d p3)), .second, .val (.long (-(p2.toInt64))), .second, .val (.long (p3.toInt64)), .second, .unset, .unset, .unset]) rfl ?_
    show Steps p.tables e below (s₁.setTop (mkF m 95 #[.val (.int p1), .val (.int p2), .val (.int p3), .val (.int p4), .val (.int (own_rem (p1 &&& (2147483647 : Int32)) (6 : Int32))), .val (.int (1 : Int32)), .val (.int (0 : Int32)), .val (.double (FP.dneg (FP.i2d p2))), .second, .val (.double (FP.i2d p3)), .second, .val (.long (-(p2.toInt64))), .second, .val (.long (p3.toInt64)), .second, .unset, .unset, .unset] [])) _
    refine XS.lload X0.here hx rfl (hb hby at_95) rfl ?_
    show Steps p.tables e below (s₁.setTop (mkF m 97 #[.val (.int p1), .val (.int p2), .val (.int p3), .val (.int p4), .val (.int (own_rem (p1 &&& (2147483647 : Int32)) (6 : Int32))), .val (.int (1 : Int32)), .val (.int (0 : Int32)), .val (.double (FP.dneg (FP.i2d p2))), .second, .val (.double (FP.i2d p3)), .second, .val (.long (-(p2.toInt64))), .second, .val (.long (p3.toInt64)), .second, .unset, .unset, .unset] [(.long (-(p2.toInt64)))])) _
    refine XS.lload X0.here hx rfl (hb hby at_97) rfl ?_
    show Steps p.tables e below (s₁.setTop (mkF m 99 #[.val (.int p1), .val (.int p2), .val (.int p3), .val (.int p4), .val (.int (own_rem (p1 &&& (2147483647 : Int32)) (6 : Int32))), .val (.int (1 : Int32)), .val (.int (0 : Int32)), .val (.double (FP.dneg (FP.i2d p2))), .second, .val (.double (FP.i2d p3)), .second, .val (.long (-(p2.toInt64))), .second, .val (.long (p3.toInt64)), .second, .unset, .unset, .unset] [(.long (p3.toInt64)), (.long (-(p2.toInt64)))])) _
    refine XS.lsub X0.here hx rfl (hb hby at_99) rfl ?_
    show Steps p.tables e below (s₁.setTop (mkF m 100 #[.val (.int p1), .val (.int p2), .val (.int p3), .val (.int p4), .val (.int (own_rem (p1 &&& (2147483647 : Int32)) (6 : Int32))), .val (.int (1 : Int32)), .val (.int (0 : Int32)), .val (.double (FP.dneg (FP.i2d p2))), .second, .val (.double (FP.i2d p3)), .second, .val (.long (-(p2.toInt64))), .second, .val (.long (p3.toInt64)), .second, .unset, .unset, .unset] [(.long ((-(p2.toInt64)) - (p3.toInt64)))])) _
    refine XS.lstore X0.here hx rfl (hb hby at_100) rfl (l' := #[.val (.int p1), .val (.int p2), .val (.int p3), .val (.int p4), .val (.int (own_rem (p1 &&& (2147483647 : Int32)) (6 : Int32))), .val (.int (1 : Int32)), .val (.int (0 : Int32)), .val (.double (FP.dneg (FP.i2d p2))), .second, .val (.double (FP.i2d p3)), .second, .val (.long (-(p2.toInt64))), .second, .val (.long (p3.toInt64)), .second, .val (.long ((-(p2.toInt64)) - (p3.toInt64))), .second, .unset]) rfl ?_
    show Steps p.tables e below (s₁.setTop (mkF m 102 #[.val (.int p1), .val (.int p2), .val (.int p3), .val (.int p4), .val (.int (own_rem (p1 &&& (2147483647 : Int32)) (6 : Int32))), .val (.int (1 : Int32)), .val (.int (0 : Int32)), .val (.double (FP.dneg (FP.i2d p2))), .second, .val (.double (FP.i2d p3)), .second, .val (.long (-(p2.toInt64))), .second, .val (.long (p3.toInt64)), .second, .val (.long ((-(p2.toInt64)) - (p3.toInt64))), .second, .unset] [])) _
    refine XS.iload X0.here hx rfl (hb hby at_102) rfl ?_
    show Steps p.tables e below (s₁.setTop (mkF m 104 #[.val (.int p1), .val (.int p2), .val (.int p3), .val (.int p4), .val (.int (own_rem (p1 &&& (2147483647 : Int32)) (6 : Int32))), .val (.int (1 : Int32)), .val (.int (0 : Int32)), .val (.double (FP.dneg (FP.i2d p2))), .second, .val (.double (FP.i2d p3)), .second, .val (.long (-(p2.toInt64))), .second, .val (.long (p3.toInt64)), .second, .val (.long ((-(p2.toInt64)) - (p3.toInt64))), .second, .unset] [(.int (own_rem (p1 &&& (2147483647 : Int32)) (6 : Int32)))])) _
    refine st5 _ ?_
    show Steps p.tables e below (T5.setTop (mkF m 107 #[.val (.int p1), .val (.int p2), .val (.int p3), .val (.int p4), .val (.int (own_rem (p1 &&& (2147483647 : Int32)) (6 : Int32))), .val (.int (1 : Int32)), .val (.int (0 : Int32)), .val (.double (FP.dneg (FP.i2d p2))), .second, .val (.double (FP.i2d p3)), .second, .val (.long (-(p2.toInt64))), .second, .val (.long (p3.toInt64)), .second, .val (.long ((-(p2.toInt64)) - (p3.toInt64))), .second, .unset] [(.ref kk)])) _
    refine XS.astore X5.here hx rfl (hb hby at_107) rfl rfl (l' := #[.val (.int p1), .val (.int p2), .val (.int p3), .val (.int p4), .val (.int (own_rem (p1 &&& (2147483647 : Int32)) (6 : Int32))), .val (.int (1 : Int32)), .val (.int (0 : Int32)), .val (.double (FP.dneg (FP.i2d p2))), .second, .val (.double (FP.i2d p3)), .second, .val (.long (-(p2.toInt64))), .second, .val (.long (p3.toInt64)), .second, .val (.long ((-(p2.toInt64)) - (p3.toInt64))), .second, .val (.ref kk)]) rfl ?_
    show Steps p.tables e below (T5.setTop (mkF m 109 #[.val (.int p1), .val (.int p2), .val (.int p3), .val (.int p4), .val (.int (own_rem (p1 &&& (2147483647 : Int32)) (6 : Int32))), .val (.int (1 : Int32)), .val (.int (0 : Int32)), .val (.double (FP.dneg (FP.i2d p2))), .second, .val (.double (FP.i2d p3)), .second, .val (.long (-(p2.toInt64))), .second, .val (.long (p3.toInt64)), .second, .val (.long ((-(p2.toInt64)) - (p3.toInt64))), .second, .val (.ref kk)] [])) _
    refine XS.aload X5.here hx rfl (hb hby at_109) rfl rfl ?_
    show Steps p.tables e below (T5.setTop (mkF m 111 #[.val (.int p1), .val (.int p2), .val (.int p3), .val (.int p4), .val (.int (own_rem (p1 &&& (2147483647 : Int32)) (6 : Int32))), .val (.int (1 : Int32)), .val (.int (0 : Int32)), .val (.double (FP.dneg (FP.i2d p2))), .second, .val (.double (FP.i2d p3)), .second, .val (.long (-(p2.toInt64))), .second, .val (.long (p3.toInt64)), .second, .val (.long ((-(p2.toInt64)) - (p3.toInt64))), .second, .val (.ref kk)] [(.ref kk)])) _
    refine XS.dload X5.here hx rfl (hb hby at_111) rfl ?_
    show Steps p.tables e below (T5.setTop (mkF m 113 #[.val (.int p1), .val (.int p2), .val (.int p3), .val (.int p4), .val (.int (own_rem (p1 &&& (2147483647 : Int32)) (6 : Int32))), .val (.int (1 : Int32)), .val (.int (0 : Int32)), .val (.double (FP.dneg (FP.i2d p2))), .second, .val (.double (FP.i2d p3)), .second, .val (.long (-(p2.toInt64))), .second, .val (.long (p3.toInt64)), .second, .val (.long ((-(p2.toInt64)) - (p3.toInt64))), .second, .val (.ref kk)] [(.double (FP.dneg (FP.i2d p2))), (.ref kk)])) _
    refine XS.dload X5.here hx rfl (hb hby at_113) rfl ?_
    show Steps p.tables e below (T5.setTop (mkF m 115 #[.val (.int p1), .val (.int p2), .val (.int p3), .val (.int p4), .val (.int (own_rem (p1 &&& (2147483647 : Int32)) (6 : Int32))), .val (.int (1 : Int32)), .val (.int (0 : Int32)), .val (.double (FP.dneg (FP.i2d p2))), .second, .val (.double (FP.i2d p3)), .second, .val (.long (-(p2.toInt64))), .second, .val (.long (p3.toInt64)), .second, .val (.long ((-(p2.toInt64)) - (p3.toInt64))), .second, .val (.ref kk)] [(.double (FP.i2d p3)), (.double (FP.dneg (FP.i2d p2))), (.ref kk)])) _
    refine st6.trans ?_
    show Steps p.tables e below (T6.setTop (mkF m 118 #[.val (.int p1), .val (.int p2), .val (.int p3), .val (.int p4), .val (.int (own_rem (p1 &&& (2147483647 : Int32)) (6 : Int32))), .val (.int (1 : Int32)), .val (.int (0 : Int32)), .val (.double (FP.dneg (FP.i2d p2))), .second, .val (.double (FP.i2d p3)), .second, .val (.long (-(p2.toInt64))), .second, .val (.long (p3.toInt64)), .second, .val (.long ((-(p2.toInt64)) - (p3.toInt64))), .second, .val (.ref kk)] [(.int bb)])) _
    refine XS.iload X6.here hx rfl (hb hby at_118) rfl ?_
    show Steps p.tables e below (T6.setTop (mkF m 120 #[.val (.int p1), .val (.int p2), .val (.int p3), .val (.int p4), .val (.int (own_rem (p1 &&& (2147483647 : Int32)) (6 : Int32))), .val (.int (1 : Int32)), .val (.int (0 : Int32)), .val (.double (FP.dneg (FP.i2d p2))), .second, .val (.double (FP.i2d p3)), .second, .val (.long (-(p2.toInt64))), .second, .val (.long (p3.toInt64)), .second, .val (.long ((-(p2.toInt64)) - (p3.toInt64))), .second, .val (.ref kk)] [(.int (own_rem (p1 &&& (2147483647 : Int32)) (6 : Int32))), (.int bb)])) _
    refine XS.lload X6.here hx rfl (hb hby at_120) rfl ?_
    show Steps p.tables e below (T6.setTop (mkF m 122 #[.val (.int p1), .val (.int p2), .val (.int p3), .val (.int p4), .val (.int (own_rem (p1 &&& (2147483647 : Int32)) (6 : Int32))), .val (.int (1 : Int32)), .val (.int (0 : Int32)), .val (.double (FP.dneg (FP.i2d p2))), .second, .val (.double (FP.i2d p3)), .second, .val (.long (-(p2.toInt64))), .second, .val (.long (p3.toInt64)), .second, .val (.long ((-(p2.toInt64)) - (p3.toInt64))), .second, .val (.ref kk)] [(.long ((-(p2.toInt64)) - (p3.toInt64))), (.int (own_rem (p1 &&& (2147483647 : Int32)) (6 : Int32))), (.int bb)])) _
    refine st7 _ ?_
    show Steps p.tables e below (T7.setTop (mkF m 125 #[.val (.int p1), .val (.int p2), .val (.int p3), .val (.int p4), .val (.int (own_rem (p1 &&& (2147483647 : Int32)) (6 : Int32))), .val (.int (1 : Int32)), .val (.int (0 : Int32)), .val (.double (FP.dneg (FP.i2d p2))), .second, .val (.double (FP.i2d p3)), .second, .val (.long (-(p2.toInt64))), .second, .val (.long (p3.toInt64)), .second, .val (.long ((-(p2.toInt64)) - (p3.toInt64))), .second, .val (.ref kk)] [(.int bb), (.int bb)])) _
    refine XS.icmpNo X7.here hx rfl (hb hby at_125) rfl (teq (rfl : bb = bb)).2 ?_
    show Steps p.tables e below (T7.setTop (mkF m 128 #[.val (.int p1), .val (.int p2), .val (.int p3), .val (.int p4), .val (.int (own_rem (p1 &&& (2147483647 : Int32)) (6 : Int32))), .val (.int (1 : Int32)), .val (.int (0 : Int32)), .val (.double (FP.dneg (FP.i2d p2))), .second, .val (.double (FP.i2d p3)), .second, .val (.long (-(p2.toInt64))), .second, .val (.long (p3.toInt64)), .second, .val (.long ((-(p2.toInt64)) - (p3.toInt64))), .second, .val (.ref kk)] [])) _
    refine XS.iconst X7.here hx rfl (hb hby at_128) ?_
    show Steps p.tables e below (T7.setTop (mkF m 129 #[.val (.int p1), .val (.int p2), .val (.int p3), .val (.int p4), .val (.int (own_rem (p1 &&& (2147483647 : Int32)) (6 : Int32))), .val (.int (1 : Int32)), .val (.int (0 : Int32)), .val (.double (FP.dneg (FP.i2d p2))), .second, .val (.double (FP.i2d p3)), .second, .val (.long (-(p2.toInt64))), .second, .val (.long (p3.toInt64)), .second, .val (.long ((-(p2.toInt64)) - (p3.toInt64))), .second, .val (.ref kk)] [(.int (1 : Int32))])) _
    refine XS.goto X7.here hx rfl (pc0 := 129) (pc' := 133) rfl (hb hby at_129) (by decide) (by decide) ?_
    show Steps p.tables e below (T7.setTop (mkF m 133 #[.val (.int p1), .val (.int p2), .val (.int p3), .val (.int p4), .val (.int (own_rem (p1 &&& (2147483647 : Int32)) (6 : Int32))), .val (.int (1 : Int32)), .val (.int (0 : Int32)), .val (.double (FP.dneg (FP.i2d p2))), .second, .val (.double (FP.i2d p3)), .second, .val (.long (-(p2.toInt64))), .second, .val (.long (p3.toInt64)), .second, .val (.long ((-(p2.toInt64)) - (p3.toInt64))), .second, .val (.ref kk)] [(.int (1 : Int32))])) _
    exact retN X7 hx (t := .boolean) Bd.returns (by simp) (hb hby at_133) hr
  · show Ql (some (.int (1 : Int32))) n0 _ _
    exact ⟨rfl, N7⟩
theorem rmS10 (l : Launch) (Z : State) (a0 : Array Value) (hw : ∀ d ∈ tables_1, d.before a0 Z = true) (ws : List Jvm.Cond) (p1 p2 p3 p4 : Int32) (h0 : Heap) (n0 : Nat) (Z0 : n0 ≤ h0.size) (s1 : ¬ (p4 &&& (1 : Int32)) = (0 : Int32)) (s2 : (p4 &&& (2 : Int32)) = (0 : Int32)) (k_EQUAL : Addr) (S_EQUAL : Sta Z h0 "com/example/axisplan/axisplan/query/Comparison$Relation" "EQUAL" "Lcom/example/axisplan/axisplan/query/Comparison$Relation;" (.ref k_EQUAL)) (E_EQUAL : Exa Z h0 k_EQUAL "com/example/axisplan/axisplan/query/Comparison$Relation") (O_EQUAL : Fld Z h0 k_EQUAL "java/lang/Enum" "ordinal" "I" (.int (0 : Int32))) (k_NOT_EQUAL : Addr) (S_NOT_EQUAL : Sta Z h0 "com/example/axisplan/axisplan/query/Comparison$Relation" "NOT_EQUAL" "Lcom/example/axisplan/axisplan/query/Comparison$Relation;" (.ref k_NOT_EQUAL)) (E_NOT_EQUAL : Exa Z h0 k_NOT_EQUAL "com/example/axisplan/axisplan/query/Comparison$Relation") (O_NOT_EQUAL : Fld Z h0 k_NOT_EQUAL "java/lang/Enum" "ordinal" "I" (.int (1 : Int32))) (k_GREATER : Addr) (S_GREATER : Sta Z h0 "com/example/axisplan/axisplan/query/Comparison$Relation" "GREATER" "Lcom/example/axisplan/axisplan/query/Comparison$Relation;" (.ref k_GREATER)) (E_GREATER : Exa Z h0 k_GREATER "com/example/axisplan/axisplan/query/Comparison$Relation") (O_GREATER : Fld Z h0 k_GREATER "java/lang/Enum" "ordinal" "I" (.int (4 : Int32))) (k_LESS_OR_EQUAL : Addr) (S_LESS_OR_EQUAL : Sta Z h0 "com/example/axisplan/axisplan/query/Comparison$Relation" "LESS_OR_EQUAL" "Lcom/example/axisplan/axisplan/query/Comparison$Relation;" (.ref k_LESS_OR_EQUAL)) (E_LESS_OR_EQUAL : Exa Z h0 k_LESS_OR_EQUAL "com/example/axisplan/axisplan/query/Comparison$Relation") (O_LESS_OR_EQUAL : Fld Z h0 k_LESS_OR_EQUAL "java/lang/Enum" "ordinal" "I" (.int (3 : Int32))) (k_GREATER_OR_EQUAL : Addr) (S_GREATER_OR_EQUAL : Sta Z h0 "com/example/axisplan/axisplan/query/Comparison$Relation" "GREATER_OR_EQUAL" "Lcom/example/axisplan/axisplan/query/Comparison$Relation;" (.ref k_GREATER_OR_EQUAL)) (E_GREATER_OR_EQUAL : Exa Z h0 k_GREATER_OR_EQUAL "com/example/axisplan/axisplan/query/Comparison$Relation") (O_GREATER_OR_EQUAL : Fld Z h0 k_GREATER_OR_EQUAL "java/lang/Enum" "ordinal" "I" (.int (5 : Int32))) (k_LESS : Addr) (S_LESS : Sta Z h0 "com/example/axisplan/axisplan/query/Comparison$Relation" "LESS" "Lcom/example/axisplan/axisplan/query/Comparison$Relation;" (.ref k_LESS)) (E_LESS : Exa Z h0 k_LESS "com/example/axisplan/axisplan/query/Comparison$Relation") (O_LESS : Fld Z h0 k_LESS "java/lang/Enum" "ordinal" "I" (.int (2 : Int32))) :
    MetFree l x (head1 (Jvm.Cond.code x code maxLocals ret :: ws) room_1) (fun a U => a = #[(.int p1), (.int p2), (.int p3), (.int p4)] ∧ Z.Warmed39 U.vm ∧ U.heap = h0) (fun _ _ _ _ _ => True) (fun _ U o U' => ∃ v L, o = .returned v ∧ Ql (some (.int (1 : Int32))) n0 v L ∧ FrameEnd U o U' L room_1.cells room_1.slots) := by
  have hA : FP.Core.DInt (-p2.toInt) (FP.dneg (FP.i2d p2)) := own_dneg p2
  have hB : FP.Core.DInt (p3.toInt) (FP.i2d p3) := FP.Core.i2d_int p3
  obtain ⟨r1, r2, r3, r4⟩ := own_rng p2
  obtain ⟨r5, r6, r7, r8⟩ := own_rng p3
  have hD : (((-(p2.toInt64)) - (p3.toInt64))).toInt = (-p2.toInt) - (p3.toInt) := own_sub (own_neg p2) (own_pos p3) (by omega) (by omega) (by omega) (by omega)
  have hl := own_cmp hA hB hD .l
  have hg := own_cmp hA hB hD .g
  by_cases c0 : (own_rem (p1 &&& (2147483647 : Int32)) (6 : Int32)) = (0 : Int32)
  · by_cases hh' : (lcmpW ((-(p2.toInt64)) - (p3.toInt64)) (0 : Int64)) = (0 : Int32)
    · exact rm0_s10 l Z a0 hw ws p1 p2 p3 p4 h0 n0 Z0 k_EQUAL 1 E_EQUAL (rm1_f l Z a0 hw [] _ k_EQUAL h0 n0 Z0 S_EQUAL c0) (rm2_0f l Z a0 hw [] k_EQUAL _ _ h0 n0 Z0 O_EQUAL E_EQUAL (by rw [hl]; exact hh')) (rm4_0f l Z a0 hw [] _ _ h0 n0 Z0 c0 hh') s1 s2 (by decide) (by decide)
    · exact rm0_s10 l Z a0 hw ws p1 p2 p3 p4 h0 n0 Z0 k_EQUAL 0 E_EQUAL (rm1_f l Z a0 hw [] _ k_EQUAL h0 n0 Z0 S_EQUAL c0) (rm2_0t l Z a0 hw [] k_EQUAL _ _ h0 n0 Z0 O_EQUAL E_EQUAL (by rw [hl]; exact hh')) (rm4_0t l Z a0 hw [] _ _ h0 n0 Z0 c0 hh') s1 s2 (by decide) (by decide)
  by_cases c1 : (own_rem (p1 &&& (2147483647 : Int32)) (6 : Int32)) = (1 : Int32)
  · by_cases hh' : (lcmpW ((-(p2.toInt64)) - (p3.toInt64)) (0 : Int64)) = (0 : Int32)
    · exact rm0_s10 l Z a0 hw ws p1 p2 p3 p4 h0 n0 Z0 k_NOT_EQUAL 0 E_NOT_EQUAL (rm1_tf l Z a0 hw [] _ k_NOT_EQUAL h0 n0 Z0 S_NOT_EQUAL c0 c1) (rm2_1t l Z a0 hw [] k_NOT_EQUAL _ _ h0 n0 Z0 O_NOT_EQUAL E_NOT_EQUAL (by rw [hl]; exact hh')) (rm4_1t l Z a0 hw [] _ _ h0 n0 Z0 c0 c1 hh') s1 s2 (by decide) (by decide)
    · exact rm0_s10 l Z a0 hw ws p1 p2 p3 p4 h0 n0 Z0 k_NOT_EQUAL 1 E_NOT_EQUAL (rm1_tf l Z a0 hw [] _ k_NOT_EQUAL h0 n0 Z0 S_NOT_EQUAL c0 c1) (rm2_1f l Z a0 hw [] k_NOT_EQUAL _ _ h0 n0 Z0 O_NOT_EQUAL E_NOT_EQUAL (by rw [hl]; exact hh')) (rm4_1f l Z a0 hw [] _ _ h0 n0 Z0 c0 c1 hh') s1 s2 (by decide) (by decide)
  by_cases c2 : (own_rem (p1 &&& (2147483647 : Int32)) (6 : Int32)) = (2 : Int32)
  · by_cases hh' : (lcmpW ((-(p2.toInt64)) - (p3.toInt64)) (0 : Int64)) < (0 : Int32)
    · exact rm0_s10 l Z a0 hw ws p1 p2 p3 p4 h0 n0 Z0 k_LESS 1 E_LESS (rm1_ttf l Z a0 hw [] _ k_LESS h0 n0 Z0 S_LESS c0 c1 c2) (rm2_2f l Z a0 hw [] k_LESS _ _ h0 n0 Z0 O_LESS E_LESS (by rw [hg]; exact hh')) (rm4_2f l Z a0 hw [] _ _ h0 n0 Z0 c0 c1 c2 hh') s1 s2 (by decide) (by decide)
    · exact rm0_s10 l Z a0 hw ws p1 p2 p3 p4 h0 n0 Z0 k_LESS 0 E_LESS (rm1_ttf l Z a0 hw [] _ k_LESS h0 n0 Z0 S_LESS c0 c1 c2) (rm2_2t l Z a0 hw [] k_LESS _ _ h0 n0 Z0 O_LESS E_LESS (by rw [hg]; exact hh')) (rm4_2t l Z a0 hw [] _ _ h0 n0 Z0 c0 c1 c2 hh') s1 s2 (by decide) (by decide)
  by_cases c3 : (own_rem (p1 &&& (2147483647 : Int32)) (6 : Int32)) = (3 : Int32)
  · by_cases hh' : (0 : Int32) < (lcmpW ((-(p2.toInt64)) - (p3.toInt64)) (0 : Int64))
    · exact rm0_s10 l Z a0 hw ws p1 p2 p3 p4 h0 n0 Z0 k_LESS_OR_EQUAL 0 E_LESS_OR_EQUAL (rm1_tttf l Z a0 hw [] _ k_LESS_OR_EQUAL h0 n0 Z0 S_LESS_OR_EQUAL c0 c1 c2 c3) (rm2_3t l Z a0 hw [] k_LESS_OR_EQUAL _ _ h0 n0 Z0 O_LESS_OR_EQUAL E_LESS_OR_EQUAL (by rw [hg]; exact hh')) (rm4_3t l Z a0 hw [] _ _ h0 n0 Z0 c0 c1 c2 c3 hh') s1 s2 (by decide) (by decide)
    · exact rm0_s10 l Z a0 hw ws p1 p2 p3 p4 h0 n0 Z0 k_LESS_OR_EQUAL 1 E_LESS_OR_EQUAL (rm1_tttf l Z a0 hw [] _ k_LESS_OR_EQUAL h0 n0 Z0 S_LESS_OR_EQUAL c0 c1 c2 c3) (rm2_3f l Z a0 hw [] k_LESS_OR_EQUAL _ _ h0 n0 Z0 O_LESS_OR_EQUAL E_LESS_OR_EQUAL (by rw [hg]; exact hh')) (rm4_3f l Z a0 hw [] _ _ h0 n0 Z0 c0 c1 c2 c3 hh') s1 s2 (by decide) (by decide)
  by_cases c4 : (own_rem (p1 &&& (2147483647 : Int32)) (6 : Int32)) = (4 : Int32)
  · by_cases hh' : (0 : Int32) < (lcmpW ((-(p2.toInt64)) - (p3.toInt64)) (0 : Int64))
    · exact rm0_s10 l Z a0 hw ws p1 p2 p3 p4 h0 n0 Z0 k_GREATER 1 E_GREATER (rm1_ttttf l Z a0 hw [] _ k_GREATER h0 n0 Z0 S_GREATER c0 c1 c2 c3 c4) (rm2_4f l Z a0 hw [] k_GREATER _ _ h0 n0 Z0 O_GREATER E_GREATER (by rw [hl]; exact hh')) (rm4_4f l Z a0 hw [] _ _ h0 n0 Z0 c0 c1 c2 c3 c4 hh') s1 s2 (by decide) (by decide)
    · exact rm0_s10 l Z a0 hw ws p1 p2 p3 p4 h0 n0 Z0 k_GREATER 0 E_GREATER (rm1_ttttf l Z a0 hw [] _ k_GREATER h0 n0 Z0 S_GREATER c0 c1 c2 c3 c4) (rm2_4t l Z a0 hw [] k_GREATER _ _ h0 n0 Z0 O_GREATER E_GREATER (by rw [hl]; exact hh')) (rm4_4t l Z a0 hw [] _ _ h0 n0 Z0 c0 c1 c2 c3 c4 hh') s1 s2 (by decide) (by decide)
  · by_cases hh' : (lcmpW ((-(p2.toInt64)) - (p3.toInt64)) (0 : Int64)) < (0 : Int32)
    · exact rm0_s10 l Z a0 hw ws p1 p2 p3 p4 h0 n0 Z0 k_GREATER_OR_EQUAL 0 E_GREATER_OR_EQUAL (rm1_ttttt l Z a0 hw [] _ k_GREATER_OR_EQUAL h0 n0 Z0 S_GREATER_OR_EQUAL c0 c1 c2 c3 c4) (rm2_5t l Z a0 hw [] k_GREATER_OR_EQUAL _ _ h0 n0 Z0 O_GREATER_OR_EQUAL E_GREATER_OR_EQUAL (by rw [hl]; exact hh')) (rm4_5t l Z a0 hw [] _ _ h0 n0 Z0 c0 c1 c2 c3 c4 hh') s1 s2 (by decide) (by decide)
    · exact rm0_s10 l Z a0 hw ws p1 p2 p3 p4 h0 n0 Z0 k_GREATER_OR_EQUAL 1 E_GREATER_OR_EQUAL (rm1_ttttt l Z a0 hw [] _ k_GREATER_OR_EQUAL h0 n0 Z0 S_GREATER_OR_EQUAL c0 c1 c2 c3 c4) (rm2_5f l Z a0 hw [] k_GREATER_OR_EQUAL _ _ h0 n0 Z0 O_GREATER_OR_EQUAL E_GREATER_OR_EQUAL (by rw [hl]; exact hh')) (rm4_5f l Z a0 hw [] _ _ h0 n0 Z0 c0 c1 c2 c3 c4 hh') s1 s2 (by decide) (by decide)
set_option maxRecDepth 65536 in
set_option maxHeartbeats 40000000 in
theorem rm0_s11 (l : Launch) (Z : State) (a0 : Array Value) (hw : ∀ d ∈ tables_1, d.before a0 Z = true) (ws : List Jvm.Cond) (p1 : Int32) (p2 : Int32) (p3 : Int32) (p4 : Int32) (h0 : Heap) (n0 : Nat) (Z0 : n0 ≤ h0.size) (kk : Addr) (bb : Int32) (EK : Exa Z h0 kk "com/example/axisplan/axisplan/query/Comparison$Relation") (M1 : MetFree l (⟨"com/example/axisplan/axisplan/query/RelationHoldsPinLaw", "pick", "(I)Lcom/example/axisplan/axisplan/query/Comparison$Relation;"⟩ : MethodName) (head1 (Jvm.Cond.code (⟨"com/example/axisplan/axisplan/query/RelationHoldsPinLaw", "pick", "(I)Lcom/example/axisplan/axisplan/query/Comparison$Relation;"⟩ : MethodName) method_2_code 1 (some (.object "com/example/axisplan/axisplan/query/Comparison$Relation")) :: []) ({ frames := 0, cells := 0, slots := 0, locals := 0 } : Room)) (fun a U => a = #[(.int (own_rem (p1 &&& (2147483647 : Int32)) (6 : Int32)))] ∧ Z.Warmed39 U.vm ∧ U.heap = h0) (fun _ _ _ _ _ => True) (fun _ U o U' => ∃ v L, o = .returned v ∧ Qv (some (.ref kk)) h0 n0 v U'.heap L ∧ FrameEnd U o U' L ({ frames := 0, cells := 0, slots := 0, locals := 0 } : Room).cells ({ frames := 0, cells := 0, slots := 0, locals := 0 } : Room).slots)) (M2 : MetFree l (⟨"com/example/axisplan/axisplan/query/Comparison$Relation", "holds", "(DD)Z"⟩ : MethodName) (head1 (Jvm.Cond.code (⟨"com/example/axisplan/axisplan/query/Comparison$Relation", "holds", "(DD)Z"⟩ : MethodName) prog_24_method_8_code 5 (some .boolean) :: []) ({ frames := 1, cells := 0, slots := 0, locals := 12 } : Room)) (fun a U => a = #[(.ref kk), (.double (FP.dneg (FP.i2d p2))), (.double (FP.dneg (FP.i2d p3)))] ∧ Z.Warmed39 U.vm ∧ U.heap = h0) (fun _ _ _ _ _ => True) (fun _ U o U' => ∃ v L, o = .returned v ∧ Qv (some (.int bb)) h0 n0 v U'.heap L ∧ FrameEnd U o U' L ({ frames := 1, cells := 0, slots := 0, locals := 12 } : Room).cells ({ frames := 1, cells := 0, slots := 0, locals := 12 } : Room).slots)) (M3 : MetFree l (⟨"com/example/axisplan/axisplan/query/RelationHoldsPinLaw", "expected", "(IJ)Z"⟩ : MethodName) (head1 (Jvm.Cond.code (⟨"com/example/axisplan/axisplan/query/RelationHoldsPinLaw", "expected", "(IJ)Z"⟩ : MethodName) method_3_code 3 (some .boolean) :: []) ({ frames := 0, cells := 0, slots := 0, locals := 0 } : Room)) (fun a U => a = #[(.int (own_rem (p1 &&& (2147483647 : Int32)) (6 : Int32))), (.long ((-(p2.toInt64)) - (-(p3.toInt64))))] ∧ Z.Warmed39 U.vm ∧ U.heap = h0) (fun _ _ _ _ _ => True) (fun _ U o U' => ∃ v L, o = .returned v ∧ Qv (some (.int bb)) h0 n0 v U'.heap L ∧ FrameEnd U o U' L ({ frames := 0, cells := 0, slots := 0, locals := 0 } : Room).cells ({ frames := 0, cells := 0, slots := 0, locals := 0 } : Room).slots)) (hc12 : ¬ ((p4 &&& (1 : Int32)) = (0 : Int32))) (hc25 : ¬ ((p4 &&& (2 : Int32)) = (0 : Int32))) (hc37 : ¬ ((1 : Int32) = (0 : Int32))) (hc52 : ¬ ((1 : Int32) = (0 : Int32))) (hc67 : ¬ ((1 : Int32) = (0 : Int32))) (hc82 : ¬ ((1 : Int32) = (0 : Int32))) :
    MetFree l x (head1 (Jvm.Cond.code x code maxLocals ret :: ws) room_1) (fun a U => a = #[(.int p1), (.int p2), (.int p3), (.int p4)] ∧ Z.Warmed39 U.vm ∧ U.heap = h0) (fun _ _ _ _ _ => True) (fun _ U o U' => ∃ v L, o = .returned v ∧ Ql (some (.int (1 : Int32))) n0 v L ∧ FrameEnd U o U' L room_1.cells room_1.slots) := by
  refine MetFree.of_bodySF (plainFor_of_name pn_0) hisR ?_
  intro p e s m args below meth c s₁ Bd hml0 hP hK
  obtain ⟨rfl, hZ, hh⟩ := hP
  have hx := Bd.exec
  have hby := Bd.bytes
  have hml : c.maxLocals = 18 := hml0
  have hown : s.vm.findClass "com/example/axisplan/axisplan/query/RelationHoldsPinLaw" = some m.cls := findClass_of_methodNamed Bd.named
  have hnm := (name_of_methodNamed Bd.named Bd.method).1
  have X0 : Stand p l e room_1 s m #[(.int p1), (.int p2), (.int p3), (.int p4)] below meth c s₁ [] 0 0 := Stand.of_body Bd
  have e0 : s₁.heap = h0 := by rw [← hh, Bd.state]; rfl
  have N0 := Fr.nil n0
  have pre0 : ∀ t, Steps p.tables e below (s₁.setTop (mkF m 0 #[.val (.int p1), .val (.int p2), .val (.int p3), .val (.int p4), .unset, .unset, .unset, .unset, .unset, .unset, .unset, .unset, .unset, .unset, .unset, .unset, .unset, .unset] [])) t → Steps p.tables e below (s₁.setTop (entryFrame m #[(.int p1), (.int p2), (.int p3), (.int p4)] maxLocals)) t := fun t k => castTop (ef_0 m p1 p2 p3 p4) k
  -- 3. LAWS
  -- pc 104: com/example/axisplan/axisplan/query/RelationHoldsPinLaw.pick by its contract rm1
  obtain ⟨_, _, ⟨T5, L5, k5, n5⟩, -, X5, ⟨Lc5, hQ5, l5, y5, z5⟩, st5⟩ := Jvm.LawKit.callS X0 hx (y := (⟨"com/example/axisplan/axisplan/query/RelationHoldsPinLaw", "pick", "(I)Lcom/example/axisplan/axisplan/query/Comparison$Relation;"⟩ : MethodName)) hown (mvT hZ (hw _ (List.mem_of_getElem? (i := 1) rfl))) (mvT hZ (hw _ (List.mem_of_getElem? (i := 2) rfl))) (mvT hZ (hw _ (List.mem_of_getElem? (i := 3) rfl))) (mvT hZ (hw _ (List.mem_of_getElem? (i := 4) rfl))) (by decide) (backOf (W := 0) M1 hZ (hw _ (List.mem_of_getElem? (i := 4) rfl)) (hw _ (List.mem_of_getElem? (i := 3) rfl)) (by decide) (by decide)) (g := (mkF m 104 #[.val (.int p1), .val (.int p2), .val (.int p3), .val (.int p4), .val (.int (own_rem (p1 &&& (2147483647 : Int32)) (6 : Int32))), .val (.int (1 : Int32)), .val (.int (1 : Int32)), .val (.double (FP.dneg (FP.i2d p2))), .second, .val (.double (FP.dneg (FP.i2d p3))), .second, .val (.long (-(p2.toInt64))), .second, .val (.long (-(p3.toInt64))), .second, .val (.long ((-(p2.toInt64)) - (-(p3.toInt64)))), .second, .unset] [(.int (own_rem (p1 &&& (2147483647 : Int32)) (6 : Int32)))])) rfl (by rw [hml]; rfl) (argsL := [(.int (own_rem (p1 &&& (2147483647 : Int32)) (6 : Int32)))]) (rest := []) (lenOf pd_0_0 rfl) rfl (by show 2 * 0 + _ ≤ _; exact Nat.le_of_eq rfl) (hb hby at_104) (fun _ _ => ⟨rfl, e0, (by decide : 0 + 0 ≤ _), (by decide : 0 + 0 ≤ _)⟩)
  dsimp only [Pt.U, Pt.locs, Pt.cells, Pt.slots] at X5 l5 y5 z5 st5 hQ5
  subst l5 y5 z5
  obtain ⟨rfl, N5q, e5⟩ := hQ5
  have N5 := Fr.app N0 N5q
  -- pc 115: com/example/axisplan/axisplan/query/Comparison$Relation.holds by the contract of the body that the receiver's class selects, rm2
  -- ✋ yours, out of the call's Q: E_kk : Exa Z h0 kk "com/example/axisplan/axisplan/query/Comparison$Relation"
  obtain ⟨cq6, kq6, q6a, q6b, q6c⟩ := isOf hZ rfl (show Exa Z T5.heap kk "com/example/axisplan/axisplan/query/Comparison$Relation" from e5.symm ▸ EK)
  obtain ⟨_, _, ⟨T6, L6, k6, n6⟩, -, X6, ⟨Lc6, hQ6, l6, y6, z6⟩, st6⟩ := X5.virtualBack hx (y := (⟨"com/example/axisplan/axisplan/query/Comparison$Relation", "holds", "(DD)Z"⟩ : MethodName)) (z := (⟨"com/example/axisplan/axisplan/query/Comparison$Relation", "holds", "(DD)Z"⟩ : MethodName)) hown (mvT hZ (hw _ (List.mem_of_getElem? (i := 8) rfl))) (mvT hZ (hw _ (List.mem_of_getElem? (i := 9) rfl))) (notFace_of_selects (args := #[]) (mvT hZ (hw _ (List.mem_of_getElem? (i := 11) rfl)))) (mvT hZ (hw _ (List.mem_of_getElem? (i := 11) rfl))) (mvT hZ (hw _ (List.mem_of_getElem? (i := 10) rfl))) (by decide) (backOf (W := 0) (e5.symm ▸ M2) hZ (hw _ (List.mem_of_getElem? (i := 12) rfl)) (hw _ (List.mem_of_getElem? (i := 6) rfl)) (by decide) (by decide)) q6a q6c (g := (mkF m 115 #[.val (.int p1), .val (.int p2), .val (.int p3), .val (.int p4), .val (.int (own_rem (p1 &&& (2147483647 : Int32)) (6 : Int32))), .val (.int (1 : Int32)), .val (.int (1 : Int32)), .val (.double (FP.dneg (FP.i2d p2))), .second, .val (.double (FP.dneg (FP.i2d p3))), .second, .val (.long (-(p2.toInt64))), .second, .val (.long (-(p3.toInt64))), .second, .val (.long ((-(p2.toInt64)) - (-(p3.toInt64)))), .second, .val (.ref kk)] [(.double (FP.dneg (FP.i2d p3))), (.double (FP.dneg (FP.i2d p2))), (.ref kk)])) rfl (by rw [hml]; rfl) (Steps.refl _) (argsL := [(.double (FP.dneg (FP.i2d p2))), (.double (FP.dneg (FP.i2d p3)))]) (rest := []) (lenOf pd_0_1 rfl) rfl (by show 2 * 0 + _ ≤ _; exact Nat.le_of_eq rfl) (hb hby at_115) (fun _ _ => ⟨rfl, rfl, (by decide : 0 + 0 ≤ _), (by decide : 0 + 0 ≤ _)⟩)
  dsimp only [Pt.U, Pt.locs, Pt.cells, Pt.slots] at X6 l6 y6 z6 st6 hQ6
  subst l6 y6 z6
  obtain ⟨rfl, N6q, e6⟩ := hQ6
  have N6 := Fr.app N5 N6q
  -- pc 122: com/example/axisplan/axisplan/query/RelationHoldsPinLaw.expected by its contract rm4
  obtain ⟨_, _, ⟨T7, L7, k7, n7⟩, -, X7, ⟨Lc7, hQ7, l7, y7, z7⟩, st7⟩ := Jvm.LawKit.callS X6 hx (y := (⟨"com/example/axisplan/axisplan/query/RelationHoldsPinLaw", "expected", "(IJ)Z"⟩ : MethodName)) hown (mvT hZ (hw _ (List.mem_of_getElem? (i := 22) rfl))) (mvT hZ (hw _ (List.mem_of_getElem? (i := 23) rfl))) (mvT hZ (hw _ (List.mem_of_getElem? (i := 3) rfl))) (mvT hZ (hw _ (List.mem_of_getElem? (i := 24) rfl))) (by decide) (backOf (W := 1) ((e6.trans e5).symm ▸ M3) hZ (hw _ (List.mem_of_getElem? (i := 24) rfl)) (hw _ (List.mem_of_getElem? (i := 3) rfl)) (by decide) (by decide)) (g := (mkF m 122 #[.val (.int p1), .val (.int p2), .val (.int p3), .val (.int p4), .val (.int (own_rem (p1 &&& (2147483647 : Int32)) (6 : Int32))), .val (.int (1 : Int32)), .val (.int (1 : Int32)), .val (.double (FP.dneg (FP.i2d p2))), .second, .val (.double (FP.dneg (FP.i2d p3))), .second, .val (.long (-(p2.toInt64))), .second, .val (.long (-(p3.toInt64))), .second, .val (.long ((-(p2.toInt64)) - (-(p3.toInt64)))), .second, .val (.ref kk)] [(.long ((-(p2.toInt64)) - (-(p3.toInt64)))), (.int (own_rem (p1 &&& (2147483647 : Int32)) (6 : Int32))), (.int bb)])) rfl (by rw [hml]; rfl) (argsL := [(.int (own_rem (p1 &&& (2147483647 : Int32)) (6 : Int32))), (.long ((-(p2.toInt64)) - (-(p3.toInt64))))]) (rest := [(.int bb)]) (lenOf pd_0_3 rfl) rfl (by show 2 * 0 + _ ≤ _; exact Nat.le_of_eq rfl) (hb hby at_122) (fun _ _ => ⟨rfl, rfl, (by decide : 0 + 0 ≤ _), (by decide : 0 + 0 ≤ _)⟩)
  dsimp only [Pt.U, Pt.locs, Pt.cells, Pt.slots] at X7 l7 y7 z7 st7 hQ7
  subst l7 y7 z7
  obtain ⟨rfl, N7q, e7⟩ := hQ7
  have N7 := Fr.app N6 N7q
  obtain ⟨fs, hr, hrun, hended, hW, hsame⟩ := X7.leave (v := some (.int (1 : Int32))) (fun h => by rw [Bd.returns] at h; cases h)
  refine ⟨_, _, pre0 _ ?_, hrun, hended, _, _, rfl, ?_, ⟨_, rfl⟩, hW, hsame.mono (by decide) (by decide)⟩
  -- 4. STEPS
  · show Steps p.tables e below (s₁.setTop (mkF m 0 #[.val (.int p1), .val (.int p2), .val (.int p3), .val (.int p4), .unset, .unset, .unset, .unset, .unset, .unset, .unset, .unset, .unset, .unset, .unset, .unset, .unset, .unset] [])) _
    refine XS.iloadN X0.here hx rfl (hb hby at_0) rfl ?_
    show Steps p.tables e below (s₁.setTop (mkF m 1 #[.val (.int p1), .val (.int p2), .val (.int p3), .val (.int p4), .unset, .unset, .unset, .unset, .unset, .unset, .unset, .unset, .unset, .unset, .unset, .unset, .unset, .unset] [(.int p1)])) _
    refine X0.ldcInt hx hown (mvT hZ (hw _ (List.mem_of_getElem? (i := 0) rfl))) (g := (mkF m 1 #[.val (.int p1), .val (.int p2), .val (.int p3), .val (.int p4), .unset, .unset, .unset, .unset, .unset, .unset, .unset, .unset, .unset, .unset, .unset, .unset, .unset, .unset] [(.int p1)])) rfl (hb hby at_1) _ ?_
    show Steps p.tables e below (s₁.setTop (mkF m 3 #[.val (.int p1), .val (.int p2), .val (.int p3), .val (.int p4), .unset, .unset, .unset, .unset, .unset, .unset, .unset, .unset, .unset, .unset, .unset, .unset, .unset, .unset] [(.int (2147483647 : Int32)), (.int p1)])) _
    refine XS.iand X0.here hx rfl (hb hby at_3) rfl ?_
    show Steps p.tables e below (s₁.setTop (mkF m 4 #[.val (.int p1), .val (.int p2), .val (.int p3), .val (.int p4), .unset, .unset, .unset, .unset, .unset, .unset, .unset, .unset, .unset, .unset, .unset, .unset, .unset, .unset] [(.int (p1 &&& (2147483647 : Int32)))])) _
    refine XS.bipush X0.here hx rfl (hb hby at_4) ?_
    show Steps p.tables e below (s₁.setTop (mkF m 6 #[.val (.int p1), .val (.int p2), .val (.int p3), .val (.int p4), .unset, .unset, .unset, .unset, .unset, .unset, .unset, .unset, .unset, .unset, .unset, .unset, .unset, .unset] [(.int (6 : Int32)), (.int (p1 &&& (2147483647 : Int32)))])) _
    refine iremM X0 hx rfl (hb hby at_6) rfl (by decide) ?_
    show Steps p.tables e below (s₁.setTop (mkF m 7 #[.val (.int p1), .val (.int p2), .val (.int p3), .val (.int p4), .unset, .unset, .unset, .unset, .unset, .unset, .unset, .unset, .unset, .unset, .unset, .unset, .unset, .unset] [(.int (own_rem (p1 &&& (2147483647 : Int32)) (6 : Int32)))])) _
    refine XS.istore X0.here hx rfl (hb hby at_7) rfl (l' := #[.val (.int p1), .val (.int p2), .val (.int p3), .val (.int p4), .val (.int (own_rem (p1 &&& (2147483647 : Int32)) (6 : Int32))), .unset, .unset, .unset, .unset, .unset, .unset, .unset, .unset, .unset, .unset, .unset, .unset, .unset]) rfl ?_
    show Steps p.tables e below (s₁.setTop (mkF m 9 #[.val (.int p1), .val (.int p2), .val (.int p3), .val (.int p4), .val (.int (own_rem (p1 &&& (2147483647 : Int32)) (6 : Int32))), .unset, .unset, .unset, .unset, .unset, .unset, .unset, .unset, .unset, .unset, .unset, .unset, .unset] [])) _
    refine XS.iloadN X0.here hx rfl (hb hby at_9) rfl ?_
    show Steps p.tables e below (s₁.setTop (mkF m 10 #[.val (.int p1), .val (.int p2), .val (.int p3), .val (.int p4), .val (.int (own_rem (p1 &&& (2147483647 : Int32)) (6 : Int32))), .unset, .unset, .unset, .unset, .unset, .unset, .unset, .unset, .unset, .unset, .unset, .unset, .unset] [(.int p4)])) _
    refine XS.iconst X0.here hx rfl (hb hby at_10) ?_
    show Steps p.tables e below (s₁.setTop (mkF m 11 #[.val (.int p1), .val (.int p2), .val (.int p3), .val (.int p4), .val (.int (own_rem (p1 &&& (2147483647 : Int32)) (6 : Int32))), .unset, .unset, .unset, .unset, .unset, .unset, .unset, .unset, .unset, .unset, .unset, .unset, .unset] [(.int (1 : Int32)), (.int p4)])) _
    refine XS.iand X0.here hx rfl (hb hby at_11) rfl ?_
    show Steps p.tables e below (s₁.setTop (mkF m 12 #[.val (.int p1), .val (.int p2), .val (.int p3), .val (.int p4), .val (.int (own_rem (p1 &&& (2147483647 : Int32)) (6 : Int32))), .unset, .unset, .unset, .unset, .unset, .unset, .unset, .unset, .unset, .unset, .unset, .unset, .unset] [(.int (p4 &&& (1 : Int32)))])) _
    refine XS.ifNo X0.here hx rfl (hb hby at_12) rfl ((if0 _ _).trans (feq hc12).1) ?_
    show Steps p.tables e below (s₁.setTop (mkF m 15 #[.val (.int p1), .val (.int p2), .val (.int p3), .val (.int p4), .val (.int (own_rem (p1 &&& (2147483647 : Int32)) (6 : Int32))), .unset, .unset, .unset, .unset, .unset, .unset, .unset, .unset, .unset, .unset, .unset, .unset, .unset] [])) _
    refine XS.iconst X0.here hx rfl (hb hby at_15) ?_
    show Steps p.tables e below (s₁.setTop (mkF m 16 #[.val (.int p1), .val (.int p2), .val (.int p3), .val (.int p4), .val (.int (own_rem (p1 &&& (2147483647 : Int32)) (6 : Int32))), .unset, .unset, .unset, .unset, .unset, .unset, .unset, .unset, .unset, .unset, .unset, .unset, .unset] [(.int (1 : Int32))])) _
    refine XS.goto X0.here hx rfl (pc0 := 16) (pc' := 20) rfl (hb hby at_16) (by decide) (by decide) ?_
    show Steps p.tables e below (s₁.setTop (mkF m 20 #[.val (.int p1), .val (.int p2), .val (.int p3), .val (.int p4), .val (.int (own_rem (p1 &&& (2147483647 : Int32)) (6 : Int32))), .unset, .unset, .unset, .unset, .unset, .unset, .unset, .unset, .unset, .unset, .unset, .unset, .unset] [(.int (1 : Int32))])) _
    refine XS.istore X0.here hx rfl (hb hby at_20) rfl (l' := #[.val (.int p1), .val (.int p2), .val (.int p3), .val (.int p4), .val (.int (own_rem (p1 &&& (2147483647 : Int32)) (6 : Int32))), .val (.int (1 : Int32)), .unset, .unset, .unset, .unset, .unset, .unset, .unset, .unset, .unset, .unset, .unset, .unset]) rfl ?_
    show Steps p.tables e below (s₁.setTop (mkF m 22 #[.val (.int p1), .val (.int p2), .val (.int p3), .val (.int p4), .val (.int (own_rem (p1 &&& (2147483647 : Int32)) (6 : Int32))), .val (.int (1 : Int32)), .unset, .unset, .unset, .unset, .unset, .unset, .unset, .unset, .unset, .unset, .unset, .unset] [])) _
    refine XS.iloadN X0.here hx rfl (hb hby at_22) rfl ?_
    show Steps p.tables e below (s₁.setTop (mkF m 23 #[.val (.int p1), .val (.int p2), .val (.int p3), .val (.int p4), .val (.int (own_rem (p1 &&& (2147483647 : Int32)) (6 : Int32))), .val (.int (1 : Int32)), .unset, .unset, .unset, .unset, .unset, .unset, .unset, .unset, .unset, .unset, .unset, .unset] [(.int p4)])) _
    refine XS.iconst X0.here hx rfl (hb hby at_23) ?_
    show Steps p.tables e below (s₁.setTop (mkF m 24 #[.val (.int p1), .val (.int p2), .val (.int p3), .val (.int p4), .val (.int (own_rem (p1 &&& (2147483647 : Int32)) (6 : Int32))), .val (.int (1 : Int32)), .unset, .unset, .unset, .unset, .unset, .unset, .unset, .unset, .unset, .unset, .unset, .unset] [(.int (2 : Int32)), (.int p4)])) _
    refine XS.iand X0.here hx rfl (hb hby at_24) rfl ?_
    show Steps p.tables e below (s₁.setTop (mkF m 25 #[.val (.int p1), .val (.int p2), .val (.int p3), .val (.int p4), .val (.int (own_rem (p1 &&& (2147483647 : Int32)) (6 : Int32))), .val (.int (1 : Int32)), .unset, .unset, .unset, .unset, .unset, .unset, .unset, .unset, .unset, .unset, .unset, .unset] [(.int (p4 &&& (2 : Int32)))])) _
    refine XS.ifNo X0.here hx rfl (hb hby at_25) rfl ((if0 _ _).trans (feq hc25).1) ?_
    show Steps p.tables e below (s₁.setTop (mkF m 28 #[.val (.int p1), .val (.int p2), .val (.int p3), .val (.int p4), .val (.int (own_rem (p1 &&& (2147483647 : Int32)) (6 : Int32))), .val (.int (1 : Int32)), .unset, .unset, .unset, .unset, .unset, .unset, .unset, .unset, .unset, .unset, .unset, .unset] [])) _
    refine XS.iconst X0.here hx rfl (hb hby at_28) ?_
    show Steps p.tables e below (s₁.setTop (mkF m 29 #[.val (.int p1), .val (.int p2), .val (.int p3), .val (.int p4), .val (.int (own_rem (p1 &&& (2147483647 : Int32)) (6 : Int32))), .val (.int (1 : Int32)), .unset, .unset, .unset, .unset, .unset, .unset, .unset, .unset, .unset, .unset, .unset, .unset] [(.int (1 : Int32))])) _
    refine XS.goto X0.here hx rfl (pc0 := 29) (pc' := 33) rfl (hb hby at_29) (by decide) (by decide) ?_
    show Steps p.tables e below (s₁.setTop (mkF m 33 #[.val (.int p1), .val (.int p2), .val (.int p3), .val (.int p4), .val (.int (own_rem (p1 &&& (2147483647 : Int32)) (6 : Int32))), .val (.int (1 : Int32)), .unset, .unset, .unset, .unset, .unset, .unset, .unset, .unset, .unset, .unset, .unset, .unset] [(.int (1 : Int32))])) _
    refine XS.istore X0.here hx rfl (hb hby at_33) rfl (l' := #[.val (.int p1), .val (.int p2), .val (.int p3), .val (.int p4), .val (.int (own_rem (p1 &&& (2147483647 : Int32)) (6 : Int32))), .val (.int (1 : Int32)), .val (.int (1 : Int32)), .unset, .unset, .unset, .unset, .unset, .unset, .unset, .unset, .unset, .unset, .unset]) rfl ?_
    show Steps p.tables e below (s₁.setTop (mkF m 35 #[.val (.int p1), .val (.int p2), .val (.int p3), .val (.int p4), .val (.int (own_rem (p1 &&& (2147483647 : Int32)) (6 : Int32))), .val (.int (1 : Int32)), .val (.int (1 : Int32)), .unset, .unset, .unset, .unset, .unset, .unset, .unset, .unset, .unset, .unset, .unset] [])) _
    refine XS.iload X0.here hx rfl (hb hby at_35) rfl ?_
    show Steps p.tables e below (s₁.setTop (mkF m 37 #[.val (.int p1), .val (.int p2), .val (.int p3), .val (.int p4), .val (.int (own_rem (p1 &&& (2147483647 : Int32)) (6 : Int32))), .val (.int (1 : Int32)), .val (.int (1 : Int32)), .unset, .unset, .unset, .unset, .unset, .unset, .unset, .unset, .unset, .unset, .unset] [(.int (1 : Int32))])) _
    refine XS.ifNo X0.here hx rfl (hb hby at_37) rfl ((if0 _ _).trans (feq hc37).1) ?_
    show Steps p.tables e below (s₁.setTop (mkF m 40 #[.val (.int p1), .val (.int p2), .val (.int p3), .val (.int p4), .val (.int (own_rem (p1 &&& (2147483647 : Int32)) (6 : Int32))), .val (.int (1 : Int32)), .val (.int (1 : Int32)), .unset, .unset, .unset, .unset, .unset, .unset, .unset, .unset, .unset, .unset, .unset] [])) _
    refine XS.iloadN X0.here hx rfl (hb hby at_40) rfl ?_
    show Steps p.tables e below (s₁.setTop (mkF m 41 #[.val (.int p1), .val (.int p2), .val (.int p3), .val (.int p4), .val (.int (own_rem (p1 &&& (2147483647 : Int32)) (6 : Int32))), .val (.int (1 : Int32)), .val (.int (1 : Int32)), .unset, .unset, .unset, .unset, .unset, .unset, .unset, .unset, .unset, .unset, .unset] [(.int p2)])) _
    refine XS.i2dS X0.here hx rfl (hb hby at_41) rfl rfl ?_
    show Steps p.tables e below (s₁.setTop (mkF m 42 #[.val (.int p1), .val (.int p2), .val (.int p3), .val (.int p4), .val (.int (own_rem (p1 &&& (2147483647 : Int32)) (6 : Int32))), .val (.int (1 : Int32)), .val (.int (1 : Int32)), .unset, .unset, .unset, .unset, .unset, .unset, .unset, .unset, .unset, .unset, .unset] [(.double (FP.i2d p2))])) _
    refine XS.dnegS X0.here hx rfl (hb hby at_42) rfl rfl ?_
    show Steps p.tables e below (s₁.setTop (mkF m 43 #[.val (.int p1), .val (.int p2), .val (.int p3), .val (.int p4), .val (.int (own_rem (p1 &&& (2147483647 : Int32)) (6 : Int32))), .val (.int (1 : Int32)), .val (.int (1 : Int32)), .unset, .unset, .unset, .unset, .unset, .unset, .unset, .unset, .unset, .unset, .unset] [(.double (FP.dneg (FP.i2d p2)))])) _
    refine XS.goto X0.here hx rfl (pc0 := 43) (pc' := 48) rfl (hb hby at_43) (by decide) (by decide) ?_
    show Steps p.tables e below (s₁.setTop (mkF m 48 #[.val (.int p1), .val (.int p2), .val (.int p3), .val (.int p4), .val (.int (own_rem (p1 &&& (2147483647 : Int32)) (6 : Int32))), .val (.int (1 : Int32)), .val (.int (1 : Int32)), .unset, .unset, .unset, .unset, .unset, .unset, .unset, .unset, .unset, .unset, .unset] [(.double (FP.dneg (FP.i2d p2)))])) _
    refine XS.dstore X0.here hx rfl (hb hby at_48) rfl (l' := #[.val (.int p1), .val (.int p2), .val (.int p3), .val (.int p4), .val (.int (own_rem (p1 &&& (2147483647 : Int32)) (6 : Int32))), .val (.int (1 : Int32)), .val (.int (1 : Int32)), .val (.double (FP.dneg (FP.i2d p2))), .second, .unset, .unset, .unset, .unset, .unset, .unset, .unset, .unset, .unset]) rfl ?_
    show Steps p.tables e below (s₁.setTop (mkF m 50 #[.val (.int p1), .val (.int p2), .val (.int p3), .val (.int p4), .val (.int (own_rem (p1 &&& (2147483647 : Int32)) (6 : Int32))), .val (.int (1 : Int32)), .val (.int (1 : Int32)), .val (.double (FP.dneg (FP.i2d p2))), .second, .unset, .unset, .unset, .unset, .unset, .unset, .unset, .unset, .unset] [])) _
    refine XS.iload X0.here hx rfl (hb hby at_50) rfl ?_
    show Steps p.tables e below (s₁.setTop (mkF m 52 #[.val (.int p1), .val (.int p2), .val (.int p3), .val (.int p4), .val (.int (own_rem (p1 &&& (2147483647 : Int32)) (6 : Int32))), .val (.int (1 : Int32)), .val (.int (1 : Int32)), .val (.double (FP.dneg (FP.i2d p2))), .second, .unset, .unset, .unset, .unset, .unset, .unset, .unset, .unset, .unset] [(.int (1 : Int32))])) _
    refine XS.ifNo X0.here hx rfl (hb hby at_52) rfl ((if0 _ _).trans (feq hc52).1) ?_
    show Steps p.tables e below (s₁.setTop (mkF m 55 #[.val (.int p1), .val (.int p2), .val (.int p3), .val (.int p4), .val (.int (own_rem (p1 &&& (2147483647 : Int32)) (6 : Int32))), .val (.int (1 : Int32)), .val (.int (1 : Int32)), .val (.double (FP.dneg (FP.i2d p2))), .second, .unset, .unset, .unset, .unset, .unset, .unset, .unset, .unset, .unset] [])) _
    refine XS.iloadN X0.here hx rfl (hb hby at_55) rfl ?_
    show Steps p.tables e below (s₁.setTop (mkF m 56 #[.val (.int p1), .val (.int p2), .val (.int p3), .val (.int p4), .val (.int (own_rem (p1 &&& (2147483647 : Int32)) (6 : Int32))), .val (.int (1 : Int32)), .val (.int (1 : Int32)), .val (.double (FP.dneg (FP.i2d p2))), .second, .unset, .unset, .unset, .unset, .unset, .unset, .unset, .unset, .unset] [(.int p3)])) _
    refine XS.i2dS X0.here hx rfl (hb hby at_56) rfl rfl ?_
    show Steps p.tables e below (s₁.setTop (mkF m 57 #[.val (.int p1), .val (.int p2), .val (.int p3), .val (.int p4), .val (.int (own_rem (p1 &&& (2147483647 : Int32)) (6 : Int32))), .val (.int (1 : Int32)), .val (.int (1 : Int32)), .val (.double (FP.dneg (FP.i2d p2))), .second, .unset, .unset, .unset, .unset, .unset, .unset, .unset, .unset, .unset] [(.double (FP.i2d p3))])) _
    refine XS.dnegS X0.here hx rfl (hb hby at_57) rfl rfl ?_
    show Steps p.tables e below (s₁.setTop (mkF m 58 #[.val (.int p1), .val (.int p2), .val (.int p3), .val (.int p4), .val (.int (own_rem (p1 &&& (2147483647 : Int32)) (6 : Int32))), .val (.int (1 : Int32)), .val (.int (1 : Int32)), .val (.double (FP.dneg (FP.i2d p2))), .second, .unset, .unset, .unset, .unset, .unset, .unset, .unset, .unset, .unset] [(.double (FP.dneg (FP.i2d p3)))])) _
    refine XS.goto X0.here hx rfl (pc0 := 58) (pc' := 63) rfl (hb hby at_58) (by decide) (by decide) ?_
    show Steps p.tables e below (s₁.setTop (mkF m 63 #[.val (.int p1), .val (.int p2), .val (.int p3), .val (.int p4), .val (.int (own_rem (p1 &&& (2147483647 : Int32)) (6 : Int32))), .val (.int (1 : Int32)), .val (.int (1 : Int32)), .val (.double (FP.dneg (FP.i2d p2))), .second, .unset, .unset, .unset, .unset, .unset, .unset, .unset, .unset, .unset] [(.double (FP.dneg (FP.i2d p3)))])) _
    refine XS.dstore X0.here hx rfl (hb hby at_63) rfl (l' := #[.val (.int p1), .val (.int p2), .val (.int p3), .val (.int p4), .val (.int (own_rem (p1 &&& (2147483647 : Int32)) (6 : Int32))), .val (.int (1 : Int32)), .val (.int (1 : Int32)), .val (.double (FP.dneg (FP.i2d p2))), .second, .val (.double (FP.dneg (FP.i2d p3))), .second, .unset, .unset, .unset, .unset, .unset, .unset, .unset]) rfl ?_
    show Steps p.tables e below (s₁.setTop (mkF m 65 #[.val (.int p1), .val (.int p2), .val (.int p3), .val (.int p4), .val (.int (own_rem (p1 &&& (2147483647 : Int32)) (6 : Int32))), .val (.int (1 : Int32)), .val (.int (1 : Int32)), .val (.double (FP.dneg (FP.i2d p2))), .second, .val (.double (FP.dneg (FP.i2d p3))), .second, .unset, .unset, .unset, .unset, .unset, .unset, .unset] [])) _
    refine XS.iload X0.here hx rfl (hb hby at_65) rfl ?_
    show Steps p.tables e below (s₁.setTop (mkF m 67 #[.val (.int p1), .val (.int p2), .val (.int p3), .val (.int p4), .val (.int (own_rem (p1 &&& (2147483647 : Int32)) (6 : Int32))), .val (.int (1 : Int32)), .val (.int (1 : Int32)), .val (.double (FP.dneg (FP.i2d p2))), .second, .val (.double (FP.dneg (FP.i2d p3))), .second, .unset, .unset, .unset, .unset, .unset, .unset, .unset] [(.int (1 : Int32))])) _
    refine XS.ifNo X0.here hx rfl (hb hby at_67) rfl ((if0 _ _).trans (feq hc67).1) ?_
    show Steps p.tables e below (s₁.setTop (mkF m 70 #[.val (.int p1), .val (.int p2), .val (.int p3), .val (.int p4), .val (.int (own_rem (p1 &&& (2147483647 : Int32)) (6 : Int32))), .val (.int (1 : Int32)), .val (.int (1 : Int32)), .val (.double (FP.dneg (FP.i2d p2))), .second, .val (.double (FP.dneg (FP.i2d p3))), .second, .unset, .unset, .unset, .unset, .unset, .unset, .unset] [])) _
    refine XS.iloadN X0.here hx rfl (hb hby at_70) rfl ?_
    show Steps p.tables e below (s₁.setTop (mkF m 71 #[.val (.int p1), .val (.int p2), .val (.int p3), .val (.int p4), .val (.int (own_rem (p1 &&& (2147483647 : Int32)) (6 : Int32))), .val (.int (1 : Int32)), .val (.int (1 : Int32)), .val (.double (FP.dneg (FP.i2d p2))), .second, .val (.double (FP.dneg (FP.i2d p3))), .second, .unset, .unset, .unset, .unset, .unset, .unset, .unset] [(.int p2)])) _
    refine XS.i2l X0.here hx rfl (hb hby at_71) rfl ?_
    show Steps p.tables e below (s₁.setTop (mkF m 72 #[.val (.int p1), .val (.int p2), .val (.int p3), .val (.int p4), .val (.int (own_rem (p1 &&& (2147483647 : Int32)) (6 : Int32))), .val (.int (1 : Int32)), .val (.int (1 : Int32)), .val (.double (FP.dneg (FP.i2d p2))), .second, .val (.double (FP.dneg (FP.i2d p3))), .second, .unset, .unset, .unset, .unset, .unset, .unset, .unset] [(.long (p2.toInt64))])) _
    refine XS.lneg X0.here hx rfl (hb hby at_72) rfl ?_
    show Steps p.tables e below (s₁.setTop (mkF m 73 #[.val (.int p1), .val (.int p2), .val (.int p3), .val (.int p4), .val (.int (own_rem (p1 &&& (2147483647 : Int32)) (6 : Int32))), .val (.int (1 : Int32)), .val (.int (1 : Int32)), .val (.double (FP.dneg (FP.i2d p2))), .second, .val (.double (FP.dneg (FP.i2d p3))), .second, .unset, .unset, .unset, .unset, .unset, .unset, .unset] [(.long (-(p2.toInt64)))])) _
    refine XS.goto X0.here hx rfl (pc0 := 73) (pc' := 78) rfl (hb hby at_73) (by decide) (by decide) ?_
    show Steps p.tables e below (s₁.setTop (mkF m 78 #[.val (.int p1), .val (.int p2), .val (.int p3), .val (.int p4), .val (.int (own_rem (p1 &&& (2147483647 : Int32)) (6 : Int32))), .val (.int (1 : Int32)), .val (.int (1 : Int32)), .val (.double (FP.dneg (FP.i2d p2))), .second, .val (.double (FP.dneg (FP.i2d p3))), .second, .unset, .unset, .unset, .unset, .unset, .unset, .unset] [(.long (-(p2.toInt64)))])) _
    refine XS.lstore X0.here hx rfl (hb hby at_78) rfl (l' := #[.val (.int p1), .val (.int p2), .val (.int p3), .val (.int p4), .val (.int (own_rem (p1 &&& (2147483647 : Int32)) (6 : Int32))), .val (.int (1 : Int32)), .val (.int (1 : Int32)), .val (.double (FP.dneg (FP.i2d p2))), .second, .val (.double (FP.dneg (FP.i2d p3))), .second, .val (.long (-(p2.toInt64))), .second, .unset, .unset, .unset, .unset, .unset]) rfl ?_
    show Steps p.tables e below (s₁.setTop (mkF m 80 #[.val (.int p1), .val (.int p2), .val (.int p3), .val (.int p4), .val (.int (own_rem (p1 &&& (2147483647 : Int32)) (6 : Int32))), .val (.int (1 : Int32)), .val (.int (1 : Int32)), .val (.double (FP.dneg (FP.i2d p2))), .second, .val (.double (FP.dneg (FP.i2d p3))), .second, .val (.long (-(p2.toInt64))), .second, .unset, .unset, .unset, .unset, .unset] [])) _
    refine XS.iload X0.here hx rfl (hb hby at_80) rfl ?_
    show Steps p.tables e below (s₁.setTop (mkF m 82 #[.val (.int p1), .val (.int p2), .val (.int p3), .val (.int p4), .val (.int (own_rem (p1 &&& (2147483647 : Int32)) (6 : Int32))), .val (.int (1 : Int32)), .val (.int (1 : Int32)), .val (.double (FP.dneg (FP.i2d p2))), .second, .val (.double (FP.dneg (FP.i2d p3))), .second, .val (.long (-(p2.toInt64))), .second, .unset, .unset, .unset, .unset, .unset] [(.int (1 : Int32))])) _
    refine XS.ifNo X0.here hx rfl (hb hby at_82) rfl ((if0 _ _).trans (feq hc82).1) ?_
    show Steps p.tables e below (s₁.setTop (mkF m 85 #[.val (.int p1), .val (.int p2), .val (.int p3), .val (.int p4), .val (.int (own_rem (p1 &&& (2147483647 : Int32)) (6 : Int32))), .val (.int (1 : Int32)), .val (.int (1 : Int32)), .val (.double (FP.dneg (FP.i2d p2))), .second, .val (.double (FP.dneg (FP.i2d p3))), .second, .val (.long (-(p2.toInt64))), .second, .unset, .unset, .unset, .unset, .unset] [])) _
    refine XS.iloadN X0.here hx rfl (hb hby at_85) rfl ?_
    show Steps p.tables e below (s₁.setTop (mkF m 86 #[.val (.int p1), .val (.int p2), .val (.int p3), .val (.int p4), .val (.int (own_rem (p1 &&& (2147483647 : Int32)) (6 : Int32))), .val (.int (1 : Int32)), .val (.int (1 : Int32)), .val (.double (FP.dneg (FP.i2d p2))), .second, .val (.double (FP.dneg (FP.i2d p3))), .second, .val (.long (-(p2.toInt64))), .second, .unset, .unset, .unset, .unset, .unset] [(.int p3)])) _
    refine XS.i2l X0.here hx rfl (hb hby at_86) rfl ?_
    show Steps p.tables e below (s₁.setTop (mkF m 87 #[.val (.int p1), .val (.int p2), .val (.int p3), .val (.int p4), .val (.int (own_rem (p1 &&& (2147483647 : Int32)) (6 : Int32))), .val (.int (1 : Int32)), .val (.int (1 : Int32)), .val (.double (FP.dneg (FP.i2d p2))), .second, .val (.double (FP.dneg (FP.i2d p3))), .second, .val (.long (-(p2.toInt64))), .second, .unset, .unset, .unset, .unset, .unset] [(.long (p3.toInt64))])) _
    refine XS.lneg X0.here hx rfl (hb hby at_87) rfl ?_
    show Steps p.tables e below (s₁.setTop (mkF m 88 #[.val (.int p1), .val (.int p2), .val (.int p3), .val (.int p4), .val (.int (own_rem (p1 &&& (2147483647 : Int32)) (6 : Int32))), .val (.int (1 : Int32)), .val (.int (1 : Int32)), .val (.double (FP.dneg (FP.i2d p2))), .second, .val (.double (FP.dneg (FP.i2d p3))), .second, .val (.long (-(p2.toInt64))), .second, .unset, .unset, .unset, .unset, .unset] [(.long (-(p3.toInt64)))])) _
    refine XS.goto X0.here hx rfl (pc0 := 88) (pc' := 93) rfl (hb hby at_88) (by decide) (by decide) ?_
    show Steps p.tables e below (s₁.setTop (mkF m 93 #[.val (.int p1), .val (.int p2), .val (.int p3), .val (.int p4), .val (.int (own_rem (p1 &&& (2147483647 : Int32)) (6 : Int32))), .val (.int (1 : Int32)), .val (.int (1 : Int32)), .val (.double (FP.dneg (FP.i2d p2))), .second, .val (.double (FP.dneg (FP.i2d p3))), .second, .val (.long (-(p2.toInt64))), .second, .unset, .unset, .unset, .unset, .unset] [(.long (-(p3.toInt64)))])) _
    refine XS.lstore X0.here hx rfl (hb hby at_93) rfl (l' := #[.val (.int p1), .val (.int p2), .val (.int p3), .val (.int p4), .val (.int (own_rem (p1 &&& (2147483647 : Int32)) (6 : Int32))), .val (.int (1 : Int32)), .val (.int (1 : Int32)), .val (.double (FP.dneg (FP.i2d p2))), .second, .val (.double (FP.dneg (FP.i2d p3))), .second, .val (.long (-(p2.toInt64))), .second, .val (.long (-(p3.toInt64))), .second, .unset, .unset, .unset]) rfl ?_
    show Steps p.tables e below (s₁.setTop (mkF m 95 #[.val (.int p1), .val (.int p2), .val (.int p3), .val (.int p4), .val (.int (own_rem (p1 &&& (2147483647 : Int32)) (6 : Int32))), .val (.int (1 : Int32)), .val (.int (1 : Int32)), .val (.double (FP.dneg (FP.i2d p2))), .second, .val (.double (FP.dneg (FP.i2d p3))), .second, .val (.long (-(p2.toInt64))), .second, .val (.long (-(p3.toInt64))), .second, .unset, .unset, .unset] [])) _
    refine XS.lload X0.here hx rfl (hb hby at_95) rfl ?_
    show Steps p.tables e below (s₁.setTop (mkF m 97 #[.val (.int p1), .val (.int p2), .val (.int p3), .val (.int p4), .val (.int (own_rem (p1 &&& (2147483647 : Int32)) (6 : Int32))), .val (.int (1 : Int32)), .val (.int (1 : Int32)), .val (.double (FP.dneg (FP.i2d p2))), .second, .val (.double (FP.dneg (FP.i2d p3))), .second, .val (.long (-(p2.toInt64))), .second, .val (.long (-(p3.toInt64))), .second, .unset, .unset, .unset] [(.long (-(p2.toInt64)))])) _
    refine XS.lload X0.here hx rfl (hb hby at_97) rfl ?_
    show Steps p.tables e below (s₁.setTop (mkF m 99 #[.val (.int p1), .val (.int p2), .val (.int p3), .val (.int p4), .val (.int (own_rem (p1 &&& (2147483647 : Int32)) (6 : Int32))), .val (.int (1 : Int32)), .val (.int (1 : Int32)), .val (.double (FP.dneg (FP.i2d p2))), .second, .val (.double (FP.dneg (FP.i2d p3))), .second, .val (.long (-(p2.toInt64))), .second, .val (.long (-(p3.toInt64))), .second, .unset, .unset, .unset] [(.long (-(p3.toInt64))), (.long (-(p2.toInt64)))])) _
    refine XS.lsub X0.here hx rfl (hb hby at_99) rfl ?_
    show Steps p.tables e below (s₁.setTop (mkF m 100 #[.val (.int p1), .val (.int p2), .val (.int p3), .val (.int p4), .val (.int (own_rem (p1 &&& (2147483647 : Int32)) (6 : Int32))), .val (.int (1 : Int32)), .val (.int (1 : Int32)), .val (.double (FP.dneg (FP.i2d p2))), .second, .val (.double (FP.dneg (FP.i2d p3))), .second, .val (.long (-(p2.toInt64))), .second, .val (.long (-(p3.toInt64))), .second, .unset, .unset, .unset] [(.long ((-(p2.toInt64)) - (-(p3.toInt64))))])) _
    refine XS.lstore X0.here hx rfl (hb hby at_100) rfl (l' := #[.val (.int p1), .val (.int p2), .val (.int p3), .val (.int p4), .val (.int (own_rem (p1 &&& (2147483647 : Int32)) (6 : Int32))), .val (.int (1 : Int32)), .val (.int (1 : Int32)), .val (.double (FP.dneg (FP.i2d p2))), .second, .val (.double (FP.dneg (FP.i2d p3))), .second, .val (.long (-(p2.toInt64))), .second, .val (.long (-(p3.toInt64))), .second, .val (.long ((-(p2.toInt64)) - (-(p3.toInt64)))), .second, .unset]) rfl ?_
    show Steps p.tables e below (s₁.setTop (mkF m 102 #[.val (.int p1), .val (.int p2), .val (.int p3), .val (.int p4), .val (.int (own_rem (p1 &&& (2147483647 : Int32)) (6 : Int32))), .val (.int (1 : Int32)), .val (.int (1 : Int32)), .val (.double (FP.dneg (FP.i2d p2))), .second, .val (.double (FP.dneg (FP.i2d p3))), .second, .val (.long (-(p2.toInt64))), .second, .val (.long (-(p3.toInt64))), .second, .val (.long ((-(p2.toInt64)) - (-(p3.toInt64)))), .second, .unset] [])) _
    refine XS.iload X0.here hx rfl (hb hby at_102) rfl ?_
    show Steps p.tables e below (s₁.setTop (mkF m 104 #[.val (.int p1), .val (.int p2), .val (.int p3), .val (.int p4), .val (.int (own_rem (p1 &&& (2147483647 : Int32)) (6 : Int32))), .val (.int (1 : Int32)), .val (.int (1 : Int32)), .val (.double (FP.dneg (FP.i2d p2))), .second, .val (.double (FP.dneg (FP.i2d p3))), .second, .val (.long (-(p2.toInt64))), .second, .val (.long (-(p3.toInt64))), .second, .val (.long ((-(p2.toInt64)) - (-(p3.toInt64)))), .second, .unset] [(.int (own_rem (p1 &&& (2147483647 : Int32)) (6 : Int32)))])) _
    refine st5 _ ?_
    show Steps p.tables e below (T5.setTop (mkF m 107 #[.val (.int p1), .val (.int p2), .val (.int p3), .val (.int p4), .val (.int (own_rem (p1 &&& (2147483647 : Int32)) (6 : Int32))), .val (.int (1 : Int32)), .val (.int (1 : Int32)), .val (.double (FP.dneg (FP.i2d p2))), .second, .val (.double (FP.dneg (FP.i2d p3))), .second, .val (.long (-(p2.toInt64))), .second, .val (.long (-(p3.toInt64))), .second, .val (.long ((-(p2.toInt64)) - (-(p3.toInt64)))), .second, .unset] [(.ref kk)])) _
    refine XS.astore X5.here hx rfl (hb hby at_107) rfl rfl (l' := #[.val (.int p1), .val (.int p2), .val (.int p3), .val (.int p4), .val (.int (own_rem (p1 &&& (2147483647 : Int32)) (6 : Int32))), .val (.int (1 : Int32)), .val (.int (1 : Int32)), .val (.double (FP.dneg (FP.i2d p2))), .second, .val (.double (FP.dneg (FP.i2d p3))), .second, .val (.long (-(p2.toInt64))), .second, .val (.long (-(p3.toInt64))), .second, .val (.long ((-(p2.toInt64)) - (-(p3.toInt64)))), .second, .val (.ref kk)]) rfl ?_
    show Steps p.tables e below (T5.setTop (mkF m 109 #[.val (.int p1), .val (.int p2), .val (.int p3), .val (.int p4), .val (.int (own_rem (p1 &&& (2147483647 : Int32)) (6 : Int32))), .val (.int (1 : Int32)), .val (.int (1 : Int32)), .val (.double (FP.dneg (FP.i2d p2))), .second, .val (.double (FP.dneg (FP.i2d p3))), .second, .val (.long (-(p2.toInt64))), .second, .val (.long (-(p3.toInt64))), .second, .val (.long ((-(p2.toInt64)) - (-(p3.toInt64)))), .second, .val (.ref kk)] [])) _
    refine XS.aload X5.here hx rfl (hb hby at_109) rfl rfl ?_
    show Steps p.tables e below (T5.setTop (mkF m 111 #[.val (.int p1), .val (.int p2), .val (.int p3), .val (.int p4), .val (.int (own_rem (p1 &&& (2147483647 : Int32)) (6 : Int32))), .val (.int (1 : Int32)), .val (.int (1 : Int32)), .val (.double (FP.dneg (FP.i2d p2))), .second, .val (.double (FP.dneg (FP.i2d p3))), .second, .val (.long (-(p2.toInt64))), .second, .val (.long (-(p3.toInt64))), .second, .val (.long ((-(p2.toInt64)) - (-(p3.toInt64)))), .second, .val (.ref kk)] [(.ref kk)])) _
    refine XS.dload X5.here hx rfl (hb hby at_111) rfl ?_
    show Steps p.tables e below (T5.setTop (mkF m 113 #[.val (.int p1), .val (.int p2), .val (.int p3), .val (.int p4), .val (.int (own_rem (p1 &&& (2147483647 : Int32)) (6 : Int32))), .val (.int (1 : Int32)), .val (.int (1 : Int32)), .val (.double (FP.dneg (FP.i2d p2))), .second, .val (.double (FP.dneg (FP.i2d p3))), .second, .val (.long (-(p2.toInt64))), .second, .val (.long (-(p3.toInt64))), .second, .val (.long ((-(p2.toInt64)) - (-(p3.toInt64)))), .second, .val (.ref kk)] [(.double (FP.dneg (FP.i2d p2))), (.ref kk)])) _
    refine XS.dload X5.here hx rfl (hb hby at_113) rfl ?_
    show Steps p.tables e below (T5.setTop (mkF m 115 #[.val (.int p1), .val (.int p2), .val (.int p3), .val (.int p4), .val (.int (own_rem (p1 &&& (2147483647 : Int32)) (6 : Int32))), .val (.int (1 : Int32)), .val (.int (1 : Int32)), .val (.double (FP.dneg (FP.i2d p2))), .second, .val (.double (FP.dneg (FP.i2d p3))), .second, .val (.long (-(p2.toInt64))), .second, .val (.long (-(p3.toInt64))), .second, .val (.long ((-(p2.toInt64)) - (-(p3.toInt64)))), .second, .val (.ref kk)] [(.double (FP.dneg (FP.i2d p3))), (.double (FP.dneg (FP.i2d p2))), (.ref kk)])) _
    refine st6.trans ?_
    show Steps p.tables e below (T6.setTop (mkF m 118 #[.val (.int p1), .val (.int p2), .val (.int p3), .val (.int p4), .val (.int (own_rem (p1 &&& (2147483647 : Int32)) (6 : Int32))), .val (.int (1 : Int32)), .val (.int (1 : Int32)), .val (.double (FP.dneg (FP.i2d p2))), .second, .val (.double (FP.dneg (FP.i2d p3))), .second, .val (.long (-(p2.toInt64))), .second, .val (.long (-(p3.toInt64))), .second, .val (.long ((-(p2.toInt64)) - (-(p3.toInt64)))), .second, .val (.ref kk)] [(.int bb)])) _
    refine XS.iload X6.here hx rfl (hb hby at_118) rfl ?_
    show Steps p.tables e below (T6.setTop (mkF m 120 #[.val (.int p1), .val (.int p2), .val (.int p3), .val (.int p4), .val (.int (own_rem (p1 &&& (2147483647 : Int32)) (6 : Int32))), .val (.int (1 : Int32)), .val (.int (1 : Int32)), .val (.double (FP.dneg (FP.i2d p2))), .second, .val (.double (FP.dneg (FP.i2d p3))), .second, .val (.long (-(p2.toInt64))), .second, .val (.long (-(p3.toInt64))), .second, .val (.long ((-(p2.toInt64)) - (-(p3.toInt64)))), .second, .val (.ref kk)] [(.int (own_rem (p1 &&& (2147483647 : Int32)) (6 : Int32))), (.int bb)])) _
    refine XS.lload X6.here hx rfl (hb hby at_120) rfl ?_
    show Steps p.tables e below (T6.setTop (mkF m 122 #[.val (.int p1), .val (.int p2), .val (.int p3), .val (.int p4), .val (.int (own_rem (p1 &&& (2147483647 : Int32)) (6 : Int32))), .val (.int (1 : Int32)), .val (.int (1 : Int32)), .val (.double (FP.dneg (FP.i2d p2))), .second, .val (.double (FP.dneg (FP.i2d p3))), .second, .val (.long (-(p2.toInt64))), .second, .val (.long (-(p3.toInt64))), .second, .val (.long ((-(p2.toInt64)) - (-(p3.toInt64)))), .second, .val (.ref kk)] [(.long ((-(p2.toInt64)) - (-(p3.toInt64)))), (.int (own_rem (p1 &&& (2147483647 : Int32)) (6 : Int32))), (.int bb)])) _
    refine st7 _ ?_
    show Steps p.tables e below (T7.setTop (mkF m 125 #[.val (.int p1), .val (.int p2), .val (.int p3), .val (.int p4), .val (.int (own_rem (p1 &&& (2147483647 : Int32)) (6 : Int32))), .val (.int (1 : Int32)), .val (.int (1 : Int32)), .val (.double (FP.dneg (FP.i2d p2))), .second, .val (.double (FP.dneg (FP.i2d p3))), .second, .val (.long (-(p2.toInt64))), .second, .val (.long (-(p3.toInt64))), .second, .val (.long ((-(p2.toInt64)) - (-(p3.toInt64)))), .second, .val (.ref kk)] [(.int bb), (.int bb)])) _
    refine XS.icmpNo X7.here hx rfl (hb hby at_125) rfl (teq (rfl : bb = bb)).2 ?_
    show Steps p.tables e below (T7.setTop (mkF m 128 #[.val (.int p1), .val (.int p2), .val (.int p3), .val (.int p4), .val (.int (own_rem (p1 &&& (2147483647 : Int32)) (6 : Int32))), .val (.int (1 : Int32)), .val (.int (1 : Int32)), .val (.double (FP.dneg (FP.i2d p2))), .second, .val (.double (FP.dneg (FP.i2d p3))), .second, .val (.long (-(p2.toInt64))), .second, .val (.long (-(p3.toInt64))), .second, .val (.long ((-(p2.toInt64)) - (-(p3.toInt64)))), .second, .val (.ref kk)] [])) _
    refine XS.iconst X7.here hx rfl (hb hby at_128) ?_
    show Steps p.tables e below (T7.setTop (mkF m 129 #[.val (.int p1), .val (.int p2), .val (.int p3), .val (.int p4), .val (.int (own_rem (p1 &&& (2147483647 : Int32)) (6 : Int32))), .val (.int (1 : Int32)), .val (.int (1 : Int32)), .val (.double (FP.dneg (FP.i2d p2))), .second, .val (.double (FP.dneg (FP.i2d p3))), .second, .val (.long (-(p2.toInt64))), .second, .val (.long (-(p3.toInt64))), .second, .val (.long ((-(p2.toInt64)) - (-(p3.toInt64)))), .second, .val (.ref kk)] [(.int (1 : Int32))])) _
    refine XS.goto X7.here hx rfl (pc0 := 129) (pc' := 133) rfl (hb hby at_129) (by decide) (by decide) ?_
    show Steps p.tables e below (T7.setTop (mkF m 133 #[.val (.int p1), .val (.int p2), .val (.int p3), .val (.int p4), .val (.int (own_rem (p1 &&& (2147483647 : Int32)) (6 : Int32))), .val (.int (1 : Int32)), .val (.int (1 : Int32)), .val (.double (FP.dneg (FP.i2d p2))), .second, .val (.double (FP.dneg (FP.i2d p3))), .second, .val (.long (-(p2.toInt64))), .second, .val (.long (-(p3.toInt64))), .second, .val (.long ((-(p2.toInt64)) - (-(p3.toInt64)))), .second, .val (.ref kk)] [(.int (1 : Int32))])) _
    exact retN X7 hx (t := .boolean) Bd.returns (by simp) (hb hby at_133) hr
  · show Ql (some (.int (1 : Int32))) n0 _ _
    exact ⟨rfl, N7⟩
theorem rmS11 (l : Launch) (Z : State) (a0 : Array Value) (hw : ∀ d ∈ tables_1, d.before a0 Z = true) (ws : List Jvm.Cond) (p1 p2 p3 p4 : Int32) (h0 : Heap) (n0 : Nat) (Z0 : n0 ≤ h0.size) (s1 : ¬ (p4 &&& (1 : Int32)) = (0 : Int32)) (s2 : ¬ (p4 &&& (2 : Int32)) = (0 : Int32)) (k_EQUAL : Addr) (S_EQUAL : Sta Z h0 "com/example/axisplan/axisplan/query/Comparison$Relation" "EQUAL" "Lcom/example/axisplan/axisplan/query/Comparison$Relation;" (.ref k_EQUAL)) (E_EQUAL : Exa Z h0 k_EQUAL "com/example/axisplan/axisplan/query/Comparison$Relation") (O_EQUAL : Fld Z h0 k_EQUAL "java/lang/Enum" "ordinal" "I" (.int (0 : Int32))) (k_NOT_EQUAL : Addr) (S_NOT_EQUAL : Sta Z h0 "com/example/axisplan/axisplan/query/Comparison$Relation" "NOT_EQUAL" "Lcom/example/axisplan/axisplan/query/Comparison$Relation;" (.ref k_NOT_EQUAL)) (E_NOT_EQUAL : Exa Z h0 k_NOT_EQUAL "com/example/axisplan/axisplan/query/Comparison$Relation") (O_NOT_EQUAL : Fld Z h0 k_NOT_EQUAL "java/lang/Enum" "ordinal" "I" (.int (1 : Int32))) (k_GREATER : Addr) (S_GREATER : Sta Z h0 "com/example/axisplan/axisplan/query/Comparison$Relation" "GREATER" "Lcom/example/axisplan/axisplan/query/Comparison$Relation;" (.ref k_GREATER)) (E_GREATER : Exa Z h0 k_GREATER "com/example/axisplan/axisplan/query/Comparison$Relation") (O_GREATER : Fld Z h0 k_GREATER "java/lang/Enum" "ordinal" "I" (.int (4 : Int32))) (k_LESS_OR_EQUAL : Addr) (S_LESS_OR_EQUAL : Sta Z h0 "com/example/axisplan/axisplan/query/Comparison$Relation" "LESS_OR_EQUAL" "Lcom/example/axisplan/axisplan/query/Comparison$Relation;" (.ref k_LESS_OR_EQUAL)) (E_LESS_OR_EQUAL : Exa Z h0 k_LESS_OR_EQUAL "com/example/axisplan/axisplan/query/Comparison$Relation") (O_LESS_OR_EQUAL : Fld Z h0 k_LESS_OR_EQUAL "java/lang/Enum" "ordinal" "I" (.int (3 : Int32))) (k_GREATER_OR_EQUAL : Addr) (S_GREATER_OR_EQUAL : Sta Z h0 "com/example/axisplan/axisplan/query/Comparison$Relation" "GREATER_OR_EQUAL" "Lcom/example/axisplan/axisplan/query/Comparison$Relation;" (.ref k_GREATER_OR_EQUAL)) (E_GREATER_OR_EQUAL : Exa Z h0 k_GREATER_OR_EQUAL "com/example/axisplan/axisplan/query/Comparison$Relation") (O_GREATER_OR_EQUAL : Fld Z h0 k_GREATER_OR_EQUAL "java/lang/Enum" "ordinal" "I" (.int (5 : Int32))) (k_LESS : Addr) (S_LESS : Sta Z h0 "com/example/axisplan/axisplan/query/Comparison$Relation" "LESS" "Lcom/example/axisplan/axisplan/query/Comparison$Relation;" (.ref k_LESS)) (E_LESS : Exa Z h0 k_LESS "com/example/axisplan/axisplan/query/Comparison$Relation") (O_LESS : Fld Z h0 k_LESS "java/lang/Enum" "ordinal" "I" (.int (2 : Int32))) :
    MetFree l x (head1 (Jvm.Cond.code x code maxLocals ret :: ws) room_1) (fun a U => a = #[(.int p1), (.int p2), (.int p3), (.int p4)] ∧ Z.Warmed39 U.vm ∧ U.heap = h0) (fun _ _ _ _ _ => True) (fun _ U o U' => ∃ v L, o = .returned v ∧ Ql (some (.int (1 : Int32))) n0 v L ∧ FrameEnd U o U' L room_1.cells room_1.slots) := by
  have hA : FP.Core.DInt (-p2.toInt) (FP.dneg (FP.i2d p2)) := own_dneg p2
  have hB : FP.Core.DInt (-p3.toInt) (FP.dneg (FP.i2d p3)) := own_dneg p3
  obtain ⟨r1, r2, r3, r4⟩ := own_rng p2
  obtain ⟨r5, r6, r7, r8⟩ := own_rng p3
  have hD : (((-(p2.toInt64)) - (-(p3.toInt64)))).toInt = (-p2.toInt) - (-p3.toInt) := own_sub (own_neg p2) (own_neg p3) (by omega) (by omega) (by omega) (by omega)
  have hl := own_cmp hA hB hD .l
  have hg := own_cmp hA hB hD .g
  by_cases c0 : (own_rem (p1 &&& (2147483647 : Int32)) (6 : Int32)) = (0 : Int32)
  · by_cases hh' : (lcmpW ((-(p2.toInt64)) - (-(p3.toInt64))) (0 : Int64)) = (0 : Int32)
    · exact rm0_s11 l Z a0 hw ws p1 p2 p3 p4 h0 n0 Z0 k_EQUAL 1 E_EQUAL (rm1_f l Z a0 hw [] _ k_EQUAL h0 n0 Z0 S_EQUAL c0) (rm2_0f l Z a0 hw [] k_EQUAL _ _ h0 n0 Z0 O_EQUAL E_EQUAL (by rw [hl]; exact hh')) (rm4_0f l Z a0 hw [] _ _ h0 n0 Z0 c0 hh') s1 s2 (by decide) (by decide) (by decide) (by decide)
    · exact rm0_s11 l Z a0 hw ws p1 p2 p3 p4 h0 n0 Z0 k_EQUAL 0 E_EQUAL (rm1_f l Z a0 hw [] _ k_EQUAL h0 n0 Z0 S_EQUAL c0) (rm2_0t l Z a0 hw [] k_EQUAL _ _ h0 n0 Z0 O_EQUAL E_EQUAL (by rw [hl]; exact hh')) (rm4_0t l Z a0 hw [] _ _ h0 n0 Z0 c0 hh') s1 s2 (by decide) (by decide) (by decide) (by decide)
  by_cases c1 : (own_rem (p1 &&& (2147483647 : Int32)) (6 : Int32)) = (1 : Int32)
  · by_cases hh' : (lcmpW ((-(p2.toInt64)) - (-(p3.toInt64))) (0 : Int64)) = (0 : Int32)
    · exact rm0_s11 l Z a0 hw ws p1 p2 p3 p4 h0 n0 Z0 k_NOT_EQUAL 0 E_NOT_EQUAL (rm1_tf l Z a0 hw [] _ k_NOT_EQUAL h0 n0 Z0 S_NOT_EQUAL c0 c1) (rm2_1t l Z a0 hw [] k_NOT_EQUAL _ _ h0 n0 Z0 O_NOT_EQUAL E_NOT_EQUAL (by rw [hl]; exact hh')) (rm4_1t l Z a0 hw [] _ _ h0 n0 Z0 c0 c1 hh') s1 s2 (by decide) (by decide) (by decide) (by decide)
    · exact rm0_s11 l Z a0 hw ws p1 p2 p3 p4 h0 n0 Z0 k_NOT_EQUAL 1 E_NOT_EQUAL (rm1_tf l Z a0 hw [] _ k_NOT_EQUAL h0 n0 Z0 S_NOT_EQUAL c0 c1) (rm2_1f l Z a0 hw [] k_NOT_EQUAL _ _ h0 n0 Z0 O_NOT_EQUAL E_NOT_EQUAL (by rw [hl]; exact hh')) (rm4_1f l Z a0 hw [] _ _ h0 n0 Z0 c0 c1 hh') s1 s2 (by decide) (by decide) (by decide) (by decide)
  by_cases c2 : (own_rem (p1 &&& (2147483647 : Int32)) (6 : Int32)) = (2 : Int32)
  · by_cases hh' : (lcmpW ((-(p2.toInt64)) - (-(p3.toInt64))) (0 : Int64)) < (0 : Int32)
    · exact rm0_s11 l Z a0 hw ws p1 p2 p3 p4 h0 n0 Z0 k_LESS 1 E_LESS (rm1_ttf l Z a0 hw [] _ k_LESS h0 n0 Z0 S_LESS c0 c1 c2) (rm2_2f l Z a0 hw [] k_LESS _ _ h0 n0 Z0 O_LESS E_LESS (by rw [hg]; exact hh')) (rm4_2f l Z a0 hw [] _ _ h0 n0 Z0 c0 c1 c2 hh') s1 s2 (by decide) (by decide) (by decide) (by decide)
    · exact rm0_s11 l Z a0 hw ws p1 p2 p3 p4 h0 n0 Z0 k_LESS 0 E_LESS (rm1_ttf l Z a0 hw [] _ k_LESS h0 n0 Z0 S_LESS c0 c1 c2) (rm2_2t l Z a0 hw [] k_LESS _ _ h0 n0 Z0 O_LESS E_LESS (by rw [hg]; exact hh')) (rm4_2t l Z a0 hw [] _ _ h0 n0 Z0 c0 c1 c2 hh') s1 s2 (by decide) (by decide) (by decide) (by decide)
  by_cases c3 : (own_rem (p1 &&& (2147483647 : Int32)) (6 : Int32)) = (3 : Int32)
  · by_cases hh' : (0 : Int32) < (lcmpW ((-(p2.toInt64)) - (-(p3.toInt64))) (0 : Int64))
    · exact rm0_s11 l Z a0 hw ws p1 p2 p3 p4 h0 n0 Z0 k_LESS_OR_EQUAL 0 E_LESS_OR_EQUAL (rm1_tttf l Z a0 hw [] _ k_LESS_OR_EQUAL h0 n0 Z0 S_LESS_OR_EQUAL c0 c1 c2 c3) (rm2_3t l Z a0 hw [] k_LESS_OR_EQUAL _ _ h0 n0 Z0 O_LESS_OR_EQUAL E_LESS_OR_EQUAL (by rw [hg]; exact hh')) (rm4_3t l Z a0 hw [] _ _ h0 n0 Z0 c0 c1 c2 c3 hh') s1 s2 (by decide) (by decide) (by decide) (by decide)
    · exact rm0_s11 l Z a0 hw ws p1 p2 p3 p4 h0 n0 Z0 k_LESS_OR_EQUAL 1 E_LESS_OR_EQUAL (rm1_tttf l Z a0 hw [] _ k_LESS_OR_EQUAL h0 n0 Z0 S_LESS_OR_EQUAL c0 c1 c2 c3) (rm2_3f l Z a0 hw [] k_LESS_OR_EQUAL _ _ h0 n0 Z0 O_LESS_OR_EQUAL E_LESS_OR_EQUAL (by rw [hg]; exact hh')) (rm4_3f l Z a0 hw [] _ _ h0 n0 Z0 c0 c1 c2 c3 hh') s1 s2 (by decide) (by decide) (by decide) (by decide)
  by_cases c4 : (own_rem (p1 &&& (2147483647 : Int32)) (6 : Int32)) = (4 : Int32)
  · by_cases hh' : (0 : Int32) < (lcmpW ((-(p2.toInt64)) - (-(p3.toInt64))) (0 : Int64))
    · exact rm0_s11 l Z a0 hw ws p1 p2 p3 p4 h0 n0 Z0 k_GREATER 1 E_GREATER (rm1_ttttf l Z a0 hw [] _ k_GREATER h0 n0 Z0 S_GREATER c0 c1 c2 c3 c4) (rm2_4f l Z a0 hw [] k_GREATER _ _ h0 n0 Z0 O_GREATER E_GREATER (by rw [hl]; exact hh')) (rm4_4f l Z a0 hw [] _ _ h0 n0 Z0 c0 c1 c2 c3 c4 hh') s1 s2 (by decide) (by decide) (by decide) (by decide)
    · exact rm0_s11 l Z a0 hw ws p1 p2 p3 p4 h0 n0 Z0 k_GREATER 0 E_GREATER (rm1_ttttf l Z a0 hw [] _ k_GREATER h0 n0 Z0 S_GREATER c0 c1 c2 c3 c4) (rm2_4t l Z a0 hw [] k_GREATER _ _ h0 n0 Z0 O_GREATER E_GREATER (by rw [hl]; exact hh')) (rm4_4t l Z a0 hw [] _ _ h0 n0 Z0 c0 c1 c2 c3 c4 hh') s1 s2 (by decide) (by decide) (by decide) (by decide)
  · by_cases hh' : (lcmpW ((-(p2.toInt64)) - (-(p3.toInt64))) (0 : Int64)) < (0 : Int32)
    · exact rm0_s11 l Z a0 hw ws p1 p2 p3 p4 h0 n0 Z0 k_GREATER_OR_EQUAL 0 E_GREATER_OR_EQUAL (rm1_ttttt l Z a0 hw [] _ k_GREATER_OR_EQUAL h0 n0 Z0 S_GREATER_OR_EQUAL c0 c1 c2 c3 c4) (rm2_5t l Z a0 hw [] k_GREATER_OR_EQUAL _ _ h0 n0 Z0 O_GREATER_OR_EQUAL E_GREATER_OR_EQUAL (by rw [hl]; exact hh')) (rm4_5t l Z a0 hw [] _ _ h0 n0 Z0 c0 c1 c2 c3 c4 hh') s1 s2 (by decide) (by decide) (by decide) (by decide)
    · exact rm0_s11 l Z a0 hw ws p1 p2 p3 p4 h0 n0 Z0 k_GREATER_OR_EQUAL 1 E_GREATER_OR_EQUAL (rm1_ttttt l Z a0 hw [] _ k_GREATER_OR_EQUAL h0 n0 Z0 S_GREATER_OR_EQUAL c0 c1 c2 c3 c4) (rm2_5f l Z a0 hw [] k_GREATER_OR_EQUAL _ _ h0 n0 Z0 O_GREATER_OR_EQUAL E_GREATER_OR_EQUAL (by rw [hl]; exact hh')) (rm4_5f l Z a0 hw [] _ _ h0 n0 Z0 c0 c1 c2 c3 c4 hh') s1 s2 (by decide) (by decide) (by decide) (by decide)
theorem rm0 (l : Launch) (Z : State) (a0 : Array Value) (hw : ∀ d ∈ tables_1, d.before a0 Z = true) (ws : List Jvm.Cond) (p1 p2 p3 p4 : Int32) (h0 : Heap) (n0 : Nat) (Z0 : n0 ≤ h0.size) (k_EQUAL : Addr) (S_EQUAL : Sta Z h0 "com/example/axisplan/axisplan/query/Comparison$Relation" "EQUAL" "Lcom/example/axisplan/axisplan/query/Comparison$Relation;" (.ref k_EQUAL)) (E_EQUAL : Exa Z h0 k_EQUAL "com/example/axisplan/axisplan/query/Comparison$Relation") (O_EQUAL : Fld Z h0 k_EQUAL "java/lang/Enum" "ordinal" "I" (.int (0 : Int32))) (k_NOT_EQUAL : Addr) (S_NOT_EQUAL : Sta Z h0 "com/example/axisplan/axisplan/query/Comparison$Relation" "NOT_EQUAL" "Lcom/example/axisplan/axisplan/query/Comparison$Relation;" (.ref k_NOT_EQUAL)) (E_NOT_EQUAL : Exa Z h0 k_NOT_EQUAL "com/example/axisplan/axisplan/query/Comparison$Relation") (O_NOT_EQUAL : Fld Z h0 k_NOT_EQUAL "java/lang/Enum" "ordinal" "I" (.int (1 : Int32))) (k_GREATER : Addr) (S_GREATER : Sta Z h0 "com/example/axisplan/axisplan/query/Comparison$Relation" "GREATER" "Lcom/example/axisplan/axisplan/query/Comparison$Relation;" (.ref k_GREATER)) (E_GREATER : Exa Z h0 k_GREATER "com/example/axisplan/axisplan/query/Comparison$Relation") (O_GREATER : Fld Z h0 k_GREATER "java/lang/Enum" "ordinal" "I" (.int (4 : Int32))) (k_LESS_OR_EQUAL : Addr) (S_LESS_OR_EQUAL : Sta Z h0 "com/example/axisplan/axisplan/query/Comparison$Relation" "LESS_OR_EQUAL" "Lcom/example/axisplan/axisplan/query/Comparison$Relation;" (.ref k_LESS_OR_EQUAL)) (E_LESS_OR_EQUAL : Exa Z h0 k_LESS_OR_EQUAL "com/example/axisplan/axisplan/query/Comparison$Relation") (O_LESS_OR_EQUAL : Fld Z h0 k_LESS_OR_EQUAL "java/lang/Enum" "ordinal" "I" (.int (3 : Int32))) (k_GREATER_OR_EQUAL : Addr) (S_GREATER_OR_EQUAL : Sta Z h0 "com/example/axisplan/axisplan/query/Comparison$Relation" "GREATER_OR_EQUAL" "Lcom/example/axisplan/axisplan/query/Comparison$Relation;" (.ref k_GREATER_OR_EQUAL)) (E_GREATER_OR_EQUAL : Exa Z h0 k_GREATER_OR_EQUAL "com/example/axisplan/axisplan/query/Comparison$Relation") (O_GREATER_OR_EQUAL : Fld Z h0 k_GREATER_OR_EQUAL "java/lang/Enum" "ordinal" "I" (.int (5 : Int32))) (k_LESS : Addr) (S_LESS : Sta Z h0 "com/example/axisplan/axisplan/query/Comparison$Relation" "LESS" "Lcom/example/axisplan/axisplan/query/Comparison$Relation;" (.ref k_LESS)) (E_LESS : Exa Z h0 k_LESS "com/example/axisplan/axisplan/query/Comparison$Relation") (O_LESS : Fld Z h0 k_LESS "java/lang/Enum" "ordinal" "I" (.int (2 : Int32))) :
    MetFree l x (head1 (Jvm.Cond.code x code maxLocals ret :: ws) room_1) (fun a U => a = #[(.int p1), (.int p2), (.int p3), (.int p4)] ∧ Z.Warmed39 U.vm ∧ U.heap = h0) (fun _ _ _ _ _ => True) (fun _ U o U' => ∃ v L, o = .returned v ∧ Ql (some (.int (1 : Int32))) n0 v L ∧ FrameEnd U o U' L room_1.cells room_1.slots) := by
  by_cases s1 : (p4 &&& (1 : Int32)) = (0 : Int32)
  · by_cases s2 : (p4 &&& (2 : Int32)) = (0 : Int32)
    · exact rmS00 l Z a0 hw ws p1 p2 p3 p4 h0 n0 Z0 s1 s2 k_EQUAL S_EQUAL E_EQUAL O_EQUAL k_NOT_EQUAL S_NOT_EQUAL E_NOT_EQUAL O_NOT_EQUAL k_GREATER S_GREATER E_GREATER O_GREATER k_LESS_OR_EQUAL S_LESS_OR_EQUAL E_LESS_OR_EQUAL O_LESS_OR_EQUAL k_GREATER_OR_EQUAL S_GREATER_OR_EQUAL E_GREATER_OR_EQUAL O_GREATER_OR_EQUAL k_LESS S_LESS E_LESS O_LESS
    · exact rmS01 l Z a0 hw ws p1 p2 p3 p4 h0 n0 Z0 s1 s2 k_EQUAL S_EQUAL E_EQUAL O_EQUAL k_NOT_EQUAL S_NOT_EQUAL E_NOT_EQUAL O_NOT_EQUAL k_GREATER S_GREATER E_GREATER O_GREATER k_LESS_OR_EQUAL S_LESS_OR_EQUAL E_LESS_OR_EQUAL O_LESS_OR_EQUAL k_GREATER_OR_EQUAL S_GREATER_OR_EQUAL E_GREATER_OR_EQUAL O_GREATER_OR_EQUAL k_LESS S_LESS E_LESS O_LESS
  · by_cases s2 : (p4 &&& (2 : Int32)) = (0 : Int32)
    · exact rmS10 l Z a0 hw ws p1 p2 p3 p4 h0 n0 Z0 s1 s2 k_EQUAL S_EQUAL E_EQUAL O_EQUAL k_NOT_EQUAL S_NOT_EQUAL E_NOT_EQUAL O_NOT_EQUAL k_GREATER S_GREATER E_GREATER O_GREATER k_LESS_OR_EQUAL S_LESS_OR_EQUAL E_LESS_OR_EQUAL O_LESS_OR_EQUAL k_GREATER_OR_EQUAL S_GREATER_OR_EQUAL E_GREATER_OR_EQUAL O_GREATER_OR_EQUAL k_LESS S_LESS E_LESS O_LESS
    · exact rmS11 l Z a0 hw ws p1 p2 p3 p4 h0 n0 Z0 s1 s2 k_EQUAL S_EQUAL E_EQUAL O_EQUAL k_NOT_EQUAL S_NOT_EQUAL E_NOT_EQUAL O_NOT_EQUAL k_GREATER S_GREATER E_GREATER O_GREATER k_LESS_OR_EQUAL S_LESS_OR_EQUAL E_LESS_OR_EQUAL O_LESS_OR_EQUAL k_GREATER_OR_EQUAL S_GREATER_OR_EQUAL E_GREATER_OR_EQUAL O_GREATER_OR_EQUAL k_LESS S_LESS E_LESS O_LESS
set_option maxRecDepth 65536 in
set_option maxHeartbeats 40000000 in
theorem comes_1 {Post : Tables → Env → Array Value → State → Outcome → State → Prop} (hpost : ∀ tb e args s v u, (limb_1_1.after args s (.returned v) u = true ∧ limb_1_2.after args s (.returned v) u = true ∧ True) → FrameEnd s (.returned v) u (Jvm.fieldLocs frame_1_writes args s ++ Jvm.arrayLocs frame_1_arrays args s ++ Jvm.staticLocs frame_1_statics s) 0 0 → Post tb e args s (.returned v) u) :
    ArmFor flags0 classFile x code maxLocals ret World_1 tables_1 room_1 Calls_1 rest_1 Pre_1 Post := by
  intro l hfl _ _ p e ha hc hk s m args below hf hA hF happ hP
  obtain ⟨hcalls, hrest, hpre⟩ := hP
  obtain ⟨-, -, -, hnamed, -, -, -, hat⟩ := (Spec.applies_iff hf).mp happ
  obtain ⟨hg, hn⟩ := and_e (Cond.before_iff.mp (show (Jvm.Cond.and given_1 narrow_1).before args s = true from hpre))
  obtain ⟨g8, g9⟩ := and_e hg
  obtain ⟨g10, g11⟩ := and_e g9
  obtain ⟨g12, g13⟩ := and_e g11
  obtain ⟨g14, g15⟩ := and_e g13
  obtain ⟨w0, w1, w2, w3, rfl⟩ : ∃ w0 w1 w2 w3 : Value, args = #[w0, w1, w2, w3] := by
    have hs : args.size = 4 := by simpa [Cond.value, given_1] using g8
    obtain ⟨L⟩ := args
    match L, hs with
    | [w0, w1, w2, w3], _ => exact ⟨w0, w1, w2, w3, rfl⟩
  have hw := fun d (hd : d ∈ tables_1) => atoms_spec (ws := Jvm.Cond.code x code maxLocals ret :: tables_1) hat d (List.mem_cons_of_mem _ hd)
  have hfit : Fit s := fun {y c} hc i hi => by
    obtain ⟨ha, rfl⟩ := Array.getElem?_eq_some_iff.mp hc
    have q := List.all_eq_true.mp ((Array.all_eq_true_iff_forall_mem.mp hF) _ (Array.getElem_mem ha)) i (List.mem_range.mpr hi)
    simpa [Array.getElem?_eq_getElem hi] using q
  obtain ⟨i0, ei0⟩ := is_v g10
  obtain rfl : w0 = (.int i0) := Option.some.inj ei0
  obtain ⟨i1, ei1⟩ := is_v g12
  obtain rfl : w1 = (.int i1) := Option.some.inj ei1
  obtain ⟨i2, ei2⟩ := is_v g14
  obtain rfl : w2 = (.int i2) := Option.some.inj ei2
  obtain ⟨i3, ei3⟩ := is_v g15
  obtain rfl : w3 = (.int i3) := Option.some.inj ei3
  obtain ⟨nw0, nx0⟩ := and_e hn
  obtain ⟨nw1, nx1⟩ := and_e nx0
  obtain ⟨nw2, nx2⟩ := and_e nx1
  obtain ⟨nw3, nx3⟩ := and_e nx2
  obtain ⟨nw4, nx4⟩ := and_e nx3
  obtain ⟨nw5, nx5⟩ := and_e nx4
  obtain ⟨nw6, nx6⟩ := and_e nx5
  obtain ⟨nw7, nx7⟩ := and_e nx6
  obtain ⟨nw8, nx8⟩ := and_e nx7
  obtain ⟨nw9, nx9⟩ := and_e nx8
  obtain ⟨nw10, nx10⟩ := and_e nx9
  obtain ⟨k_EQUAL, S_EQUAL, E_EQUAL, O_EQUAL⟩ := own_enum nw0 nw1 (hw _ (List.mem_of_getElem? (i := 6) rfl)) (hw _ (List.mem_of_getElem? (i := 7) rfl))
  obtain ⟨k_NOT_EQUAL, S_NOT_EQUAL, E_NOT_EQUAL, O_NOT_EQUAL⟩ := own_enum nw2 nw3 (hw _ (List.mem_of_getElem? (i := 6) rfl)) (hw _ (List.mem_of_getElem? (i := 26) rfl))
  obtain ⟨k_GREATER, S_GREATER, E_GREATER, O_GREATER⟩ := own_enum nw4 nw5 (hw _ (List.mem_of_getElem? (i := 6) rfl)) (hw _ (List.mem_of_getElem? (i := 28) rfl))
  obtain ⟨k_LESS_OR_EQUAL, S_LESS_OR_EQUAL, E_LESS_OR_EQUAL, O_LESS_OR_EQUAL⟩ := own_enum nw6 nw7 (hw _ (List.mem_of_getElem? (i := 6) rfl)) (hw _ (List.mem_of_getElem? (i := 30) rfl))
  obtain ⟨k_GREATER_OR_EQUAL, S_GREATER_OR_EQUAL, E_GREATER_OR_EQUAL, O_GREATER_OR_EQUAL⟩ := own_enum nw8 nw9 (hw _ (List.mem_of_getElem? (i := 6) rfl)) (hw _ (List.mem_of_getElem? (i := 32) rfl))
  obtain ⟨k_LESS, S_LESS, E_LESS, O_LESS⟩ := own_enum nw10 nx10 (hw _ (List.mem_of_getElem? (i := 6) rfl)) (hw _ (List.mem_of_getElem? (i := 34) rfl))
  obtain ⟨n, o, h1, h2, h3, _, L, rfl, ⟨rfl, N⟩, hq⟩ := rm0 l s _ hw tables_1 i0 i1 i2 i3 s.heap s.heap.size (Nat.le_refl _) k_EQUAL S_EQUAL E_EQUAL O_EQUAL k_NOT_EQUAL S_NOT_EQUAL E_NOT_EQUAL O_NOT_EQUAL k_GREATER S_GREATER E_GREATER O_GREATER k_LESS_OR_EQUAL S_LESS_OR_EQUAL E_LESS_OR_EQUAL O_LESS_OR_EQUAL k_GREATER_OR_EQUAL S_GREATER_OR_EQUAL E_GREATER_OR_EQUAL O_GREATER_OR_EQUAL k_LESS S_LESS E_LESS O_LESS p e ha hc hk s m _ below hf ((Spec.applies_iff_loose hf).mp happ).1 ⟨rfl, State.Warmed39.refl s, rfl⟩ trivial
  refine ⟨n, _, h1, h2, h3, hpost _ _ _ _ _ _ ⟨Cond.after_iff.mpr rfl, Cond.after_iff.mpr (eq_i res_at (Term.int_eval (1)) rfl), trivial⟩ ⟨hq.1, hq.2.1, (hq.2.2.sift fun y hy => Or.inr (N y hy)).mono (by decide) (by decide)⟩⟩
theorem main_1_1 : Claimed_1_1 := comes_1 fun _ _ _ _ _ _ h hF => ⟨h.1, hF⟩
theorem main_1_2 : Claimed_1_2 := comes_1 fun _ _ _ _ _ _ h hF => ⟨h.2.1, hF⟩
end Jvm.Pilot.@@N@@
namespace Jvm.Pilot.@@N@@
open Jvm Jvm.ClassFile Sem Op Lib Jvm.Free Jvm.Stand Jvm.Pilot.@@N@@.Jvm.D
/-! MADE BY PROGRAM (witnessworld.py) out of the Statement's table words and the real class files: 13 classes; the members and pool entries that the words name. The judged class is class 1, her method 3. -/
namespace start1
open Jvm.ClassFile
def u (s : String) : CpInfo := .utf8 (stringToUtf16 s)
/-- a pool by its gaps: so many unusable entries, then the entry; so many at the end -/
def gap : Nat → List CpInfo → List CpInfo
  | 0, r => r
  | n + 1, r => .unusable :: gap n r
def poolList (es : List (Nat × CpInfo)) (last : Nat) : List CpInfo := es.foldr (fun e r => gap e.1 (e.2 :: r)) (gap last [])
def pool (es : List (Nat × CpInfo)) (last : Nat) : Array CpInfo := ⟨poolList es last⟩
def fileOf (pool : Array CpInfo) (this : Nat) (attrs : Array Attribute := #[]) (ms : Array MethodInfo := #[]) (fl : Nat := 33) (sup : Nat := 0) (ifs : Array Nat := #[]) (fds : Array FieldInfo := #[]) : ClassFile where
  minorVersion := 0
  majorVersion := 65
  constantPool := pool
  accessFlags := fl
  thisClass := this
  superClass := sup
  interfaces := ifs
  fields := fds
  methods := ms
  attributes := attrs
def plain (name : String) (sup : Option ClassId) : Class where
  name := name
  kind := .ordinary
  loader := none
  accessFlags := 33
  super := sup
  interfaces := #[]
  cf := none
  fields := #[]
  methods := #[]
  instanceTypes := #[]
  staticTypes := #[]
  resolved := #[]
  callSites := []
  init := .initialized
  statics := none
  mirror := none

def pool0 : Array CpInfo := pool [(5, u "<init>"), (0, u "()V"), (1, .class_ 10), (1, u "java/lang/Object")] 113

def k0m0 : Method := { name := "<init>", desc := "()V", sig := { parameters := [], returnType := none }, accessFlags := 1, code := none }
/-- java/lang/Object -/
def k0 : Class := { plain "java/lang/Object" none with
  accessFlags := 33
  interfaces := #[]
  cf := some (fileOf pool0 8 #[] #[{ accessFlags := 1, nameIndex := 5, descriptorIndex := 6, attributes := #[] }] 33 0 #[] #[])
  fields := #[]
  methods := #[k0m0]
  instanceTypes := #[]
  staticTypes := #[]
  resolved := Array.replicate 124 none
  statics := none }

def pool1 : Array CpInfo := pool [(2, .class_ 4), (1, u "java/lang/Object"), (0, u "<init>"), (0, u "()V"), (0, .fieldref 8 9), (0, .class_ 10), (0, .nameAndType 11 12), (0, u "com/example/axisplan/axisplan/query/Comparison$Relation"), (0, u "EQUAL"), (0, u "Lcom/example/axisplan/axisplan/query/Comparison$Relation;"), (0, .fieldref 8 14), (0, .nameAndType 15 12), (0, u "NOT_EQUAL"), (0, .fieldref 8 17), (0, .nameAndType 18 12), (0, u "LESS"), (0, .fieldref 8 20), (0, .nameAndType 21 12), (0, u "LESS_OR_EQUAL"), (0, .fieldref 8 23), (0, .nameAndType 24 12), (0, u "GREATER"), (0, .fieldref 8 26), (0, .nameAndType 27 12), (0, u "GREATER_OR_EQUAL"), (0, .integer 2147483647), (0, .methodref 30 31), (0, .class_ 32), (0, .nameAndType 33 34), (0, u "com/example/axisplan/axisplan/query/RelationHoldsPinLaw"), (0, u "pick"), (0, u "(I)Lcom/example/axisplan/axisplan/query/Comparison$Relation;"), (0, .methodref 8 36), (0, .nameAndType 37 38), (0, u "holds"), (0, u "(DD)Z"), (0, .methodref 30 40), (0, .nameAndType 41 42), (0, u "expected"), (0, u "(IJ)Z"), (3, u "law"), (0, u "(IIII)Z")] 6

def k1m0 : Method := { name := "<init>", desc := "()V", sig := { parameters := [], returnType := none }, accessFlags := 2, code := none }
def k1c1 : Code := { maxStack := 2, maxLocals := 1, code := method_2_code, exceptionTable := #[], attributes := #[] }
def k1m1 : Method := { name := "pick", desc := "(I)Lcom/example/axisplan/axisplan/query/Comparison$Relation;", sig := { parameters := [.int], returnType := some (.object "com/example/axisplan/axisplan/query/Comparison$Relation") }, accessFlags := 10, code := some k1c1 }
def k1c2 : Code := { maxStack := 4, maxLocals := 3, code := method_3_code, exceptionTable := #[], attributes := #[] }
def k1m2 : Method := { name := "expected", desc := "(IJ)Z", sig := { parameters := [.int, .long], returnType := some .boolean }, accessFlags := 10, code := some k1c2 }
def k1c3 : Code := { maxStack := 5, maxLocals := 18, code := code, exceptionTable := #[], attributes := #[] }
def k1m3 : Method := { name := "law", desc := "(IIII)Z", sig := { parameters := [.int, .int, .int, .int], returnType := some .boolean }, accessFlags := 9, code := some k1c3 }
/-- com/example/axisplan/axisplan/query/RelationHoldsPinLaw -/
def k1 : Class := { plain "com/example/axisplan/axisplan/query/RelationHoldsPinLaw" (some 0) with
  accessFlags := 49
  interfaces := #[]
  cf := some (fileOf pool1 30 #[] #[{ accessFlags := 2, nameIndex := 5, descriptorIndex := 6, attributes := #[] }, { accessFlags := 10, nameIndex := 33, descriptorIndex := 34, attributes := #[] }, { accessFlags := 10, nameIndex := 41, descriptorIndex := 42, attributes := #[] }, { accessFlags := 9, nameIndex := 46, descriptorIndex := 47, attributes := #[] }] 49 2 #[] #[])
  fields := #[]
  methods := #[k1m0, k1m1, k1m2, k1m3]
  instanceTypes := #[]
  staticTypes := #[]
  resolved := Array.replicate 54 none
  statics := none }

def pool2 : Array CpInfo := pool [(1, .class_ 2), (0, u "java/lang/constant/Constable"), (0, .class_ 4), (0, u "java/lang/Object")] 6

/-- java/lang/constant/Constable -/
def k2 : Class := { plain "java/lang/constant/Constable" (some 0) with
  accessFlags := 1537
  interfaces := #[]
  cf := some (fileOf pool2 1 #[] #[] 1537 3 #[] #[])
  fields := #[]
  methods := #[]
  instanceTypes := #[]
  staticTypes := #[]
  resolved := Array.replicate 11 none
  statics := none }

def pool3 : Array CpInfo := pool [(1, .class_ 2), (0, u "java/lang/Comparable"), (0, .class_ 4), (0, u "java/lang/Object")] 7

/-- java/lang/Comparable -/
def k3 : Class := { plain "java/lang/Comparable" (some 0) with
  accessFlags := 1537
  interfaces := #[]
  cf := some (fileOf pool3 1 #[] #[] 1537 3 #[] #[])
  fields := #[]
  methods := #[]
  instanceTypes := #[]
  staticTypes := #[]
  resolved := Array.replicate 12 none
  statics := none }

def pool4 : Array CpInfo := pool [(1, .class_ 2), (0, u "java/io/Serializable"), (0, .class_ 4), (0, u "java/lang/Object")] 2

/-- java/io/Serializable -/
def k4 : Class := { plain "java/io/Serializable" (some 0) with
  accessFlags := 1537
  interfaces := #[]
  cf := some (fileOf pool4 1 #[] #[] 1537 3 #[] #[])
  fields := #[]
  methods := #[]
  instanceTypes := #[]
  staticTypes := #[]
  resolved := Array.replicate 7 none
  statics := none }

def pool5 : Array CpInfo := pool [(2, .class_ 4), (1, u "java/lang/Enum"), (0, u "name"), (0, u "Ljava/lang/String;"), (0, .fieldref 2 8), (0, .nameAndType 9 10), (0, u "ordinal"), (0, u "I"), (1, .class_ 14), (1, u "java/lang/Object"), (4, u "hash"), (86, .class_ 108), (1, u "java/lang/Enum$EnumDesc"), (2, .class_ 112), (0, u "java/lang/constant/Constable"), (0, .class_ 114), (0, u "java/lang/Comparable"), (0, .class_ 116), (0, u "java/io/Serializable"), (9, u "()I")] 77

def k5c0 : Code := { maxStack := 1, maxLocals := 1, code := jdk_37_method_2_code, exceptionTable := #[], attributes := #[] }
def k5m0 : Method := { name := "ordinal", desc := "()I", sig := { parameters := [], returnType := some .int }, accessFlags := 17, code := some k5c0 }
/-- java/lang/Enum -/
def k5 : Class := { plain "java/lang/Enum" (some 0) with
  accessFlags := 1057
  interfaces := #[2, 3, 4]
  cf := some (fileOf pool5 2 #[.nestMembers #[106]] #[{ accessFlags := 17, nameIndex := 9, descriptorIndex := 126, attributes := #[] }] 1057 12 #[111, 113, 115] #[{ accessFlags := 18, nameIndex := 5, descriptorIndex := 6, attributes := #[] }, { accessFlags := 18, nameIndex := 9, descriptorIndex := 10, attributes := #[] }, { accessFlags := 2, nameIndex := 19, descriptorIndex := 10, attributes := #[] }])
  fields := #[{ name := "name", type := (.object "java/lang/String"), accessFlags := 18, slot := 0, constantValue := 0 }, { name := "ordinal", type := .int, accessFlags := 18, slot := 1, constantValue := 0 }, { name := "hash", type := .int, accessFlags := 2, slot := 2, constantValue := 0 }]
  methods := #[k5m0]
  instanceTypes := #[(.object "java/lang/String"), .int, .int]
  staticTypes := #[]
  resolved := Array.replicate 204 none
  statics := none }

def pool6 : Array CpInfo := pool [(32, .class_ 34), (1, u "com/example/axisplan/axisplan/query/Operator"), (2, .class_ 38), (0, u "java/lang/Object")] 11

/-- com/example/axisplan/axisplan/query/Operator -/
def k6 : Class := { plain "com/example/axisplan/axisplan/query/Operator" (some 0) with
  accessFlags := 1536
  interfaces := #[]
  cf := some (fileOf pool6 32 #[] #[] 1536 37 #[] #[])
  fields := #[]
  methods := #[]
  instanceTypes := #[]
  staticTypes := #[]
  resolved := Array.replicate 50 none
  statics := none }

def pool7 : Array CpInfo := pool [(1, .class_ 2), (0, u "com/example/axisplan/axisplan/query/Comparison$Relation"), (2, u "EQUAL"), (0, u "Lcom/example/axisplan/axisplan/query/Comparison$Relation;"), (2, u "NOT_EQUAL"), (2, u "LESS"), (2, u "LESS_OR_EQUAL"), (2, u "GREATER"), (2, u "GREATER_OR_EQUAL"), (2, u "$VALUES"), (0, u "[Lcom/example/axisplan/axisplan/query/Comparison$Relation;"), (6, .class_ 34), (1, u "java/lang/Enum"), (8, u "token"), (0, u "Ljava/lang/String;"), (0, .class_ 46), (0, u "com/example/axisplan/axisplan/query/Comparison"), (3, .methodref 1 51), (0, .nameAndType 52 53), (0, u "ordinal"), (0, u "()I"), (36, .class_ 91), (0, u "com/example/axisplan/axisplan/query/Operator"), (15, u "holds"), (0, u "(DD)Z")] 13

def k7c0 : Code := { maxStack := 4, maxLocals := 5, code := prog_24_method_8_code, exceptionTable := #[], attributes := #[] }
def k7m0 : Method := { name := "holds", desc := "(DD)Z", sig := { parameters := [.double, .double], returnType := some .boolean }, accessFlags := 0, code := some k7c0 }
/-- com/example/axisplan/axisplan/query/Comparison$Relation -/
def k7 : Class := { plain "com/example/axisplan/axisplan/query/Comparison$Relation" (some 5) with
  accessFlags := 16432
  interfaces := #[6]
  cf := some (fileOf pool7 1 #[.nestHost 45] #[{ accessFlags := 0, nameIndex := 107, descriptorIndex := 108, attributes := #[] }] 16432 32 #[90] #[{ accessFlags := 16409, nameIndex := 5, descriptorIndex := 6, attributes := #[] }, { accessFlags := 16409, nameIndex := 9, descriptorIndex := 6, attributes := #[] }, { accessFlags := 16409, nameIndex := 12, descriptorIndex := 6, attributes := #[] }, { accessFlags := 16409, nameIndex := 15, descriptorIndex := 6, attributes := #[] }, { accessFlags := 16409, nameIndex := 18, descriptorIndex := 6, attributes := #[] }, { accessFlags := 16409, nameIndex := 21, descriptorIndex := 6, attributes := #[] }, { accessFlags := 18, nameIndex := 43, descriptorIndex := 44, attributes := #[] }, { accessFlags := 4122, nameIndex := 24, descriptorIndex := 25, attributes := #[] }])
  fields := #[{ name := "EQUAL", type := (.object "com/example/axisplan/axisplan/query/Comparison$Relation"), accessFlags := 16409, slot := 0, constantValue := 0 }, { name := "NOT_EQUAL", type := (.object "com/example/axisplan/axisplan/query/Comparison$Relation"), accessFlags := 16409, slot := 1, constantValue := 0 }, { name := "LESS", type := (.object "com/example/axisplan/axisplan/query/Comparison$Relation"), accessFlags := 16409, slot := 2, constantValue := 0 }, { name := "LESS_OR_EQUAL", type := (.object "com/example/axisplan/axisplan/query/Comparison$Relation"), accessFlags := 16409, slot := 3, constantValue := 0 }, { name := "GREATER", type := (.object "com/example/axisplan/axisplan/query/Comparison$Relation"), accessFlags := 16409, slot := 4, constantValue := 0 }, { name := "GREATER_OR_EQUAL", type := (.object "com/example/axisplan/axisplan/query/Comparison$Relation"), accessFlags := 16409, slot := 5, constantValue := 0 }, { name := "token", type := (.object "java/lang/String"), accessFlags := 18, slot := 3, constantValue := 0 }, { name := "$VALUES", type := (.array (.object "com/example/axisplan/axisplan/query/Comparison$Relation")), accessFlags := 4122, slot := 6, constantValue := 0 }]
  methods := #[k7m0]
  instanceTypes := #[(.object "java/lang/String"), .int, .int, (.object "java/lang/String")]
  staticTypes := #[(.object "com/example/axisplan/axisplan/query/Comparison$Relation"), (.object "com/example/axisplan/axisplan/query/Comparison$Relation"), (.object "com/example/axisplan/axisplan/query/Comparison$Relation"), (.object "com/example/axisplan/axisplan/query/Comparison$Relation"), (.object "com/example/axisplan/axisplan/query/Comparison$Relation"), (.object "com/example/axisplan/axisplan/query/Comparison$Relation"), (.array (.object "com/example/axisplan/axisplan/query/Comparison$Relation"))]
  resolved := Array.replicate 122 none
  statics := some 0 }

def pool8 : Array CpInfo := pool [(1, u "java/lang/Cloneable"), (0, .class_ 1), (0, u "java/lang/Object"), (0, .class_ 3)] 3

/-- java/lang/Cloneable -/
def k8 : Class := { plain "java/lang/Cloneable" (some 0) with
  accessFlags := 1537
  interfaces := #[]
  cf := some (fileOf pool8 2 #[] #[] 1537 4 #[] #[])
  fields := #[]
  methods := #[]
  instanceTypes := #[]
  staticTypes := #[]
  resolved := Array.replicate 8 none
  statics := none }

/-- the primitive byte -/
def k9 : Class := { plain "byte" none with kind := .primitive 'B', accessFlags := 0x411 }
/-- [B -/
def k10 : Class := { plain "[B" (some 0) with kind := .array 9 .byte, interfaces := #[8, 4], accessFlags := 1041 }

/-- the primitive int -/
def k11 : Class := { plain "int" none with kind := .primitive 'I', accessFlags := 0x411 }
/-- [I -/
def k12 : Class := { plain "[I" (some 0) with kind := .array 11 .int, interfaces := #[8, 4], accessFlags := 1041 }

def heap : Heap := #[{ cls := 7, slots := #[.ref 1, .ref 2, .ref 6, .ref 4, .ref 3, .ref 5, .null], vm := .statics 7 },
  { cls := 7, slots := #[.null, .int 0, .int 0, .null], vm := .none },
  { cls := 7, slots := #[.null, .int 1, .int 0, .null], vm := .none },
  { cls := 7, slots := #[.null, .int 4, .int 0, .null], vm := .none },
  { cls := 7, slots := #[.null, .int 3, .int 0, .null], vm := .none },
  { cls := 7, slots := #[.null, .int 5, .int 0, .null], vm := .none },
  { cls := 7, slots := #[.null, .int 2, .int 0, .null], vm := .none }]
def classes : Array Class := #[k0, k1, k2, k3, k4, k5, k6, k7, k8, k9, k10, k11, k12]
def interned : List (Array UInt16 × Addr) := []
def slotsUsed : Nat := 31
def theMethod : MethodId := ⟨1, 3⟩
def args0 : Array Value := #[.int 5, .int 5, .int 7, .int 0]
def aboutOver (below : List Frame) : State where
  vm := { classes := classes, interned := interned.toArray }
  heap := heap
  slotsUsed := slotsUsed
  threads := #[{ frames := .invoking theMethod args0 :: below }]
def below0 : List Frame := [.native { method := ⟨0, 0⟩, args := #[] }]
def about1 : State := aboutOver below0
def p0 : Program := .bare "" "" ""
def e0 : Env := launch0.env 0 0 0
theorem w_frames : about1.frames = Frame.invoking theMethod args0 :: below0 := rfl
set_option maxRecDepth 65536 in
theorem w_args : argsFit about1.vm theMethod args0 = true := by decide +kernel
set_option maxRecDepth 65536 in
theorem w_heap : heapFits about1 = true := by decide +kernel
set_option maxRecDepth 65536 in
theorem w_runnable : about1.curStatus? = some .runnable := by decide +kernel
set_option maxRecDepth 65536 in
theorem w_alone : about1.alone = true := by decide +kernel
set_option maxRecDepth 65536 in
theorem w_named : about1.methodNamed? x = some theMethod := by decide +kernel
set_option maxRecDepth 65536 in
theorem w_hears : about1.hears theMethod below0 = true := by decide +kernel
set_option maxRecDepth 65536 in
theorem w_ripe : about1.ripe theMethod args0 below0 = true := by decide +kernel
theorem w_running : about1.status = .running := rfl
set_option maxRecDepth 65536 in
theorem w_room : about1.hasRoom e0.platform room_1 = true :=
  launch0.hasRoom_least _ room_1 (by decide +kernel) (by decide +kernel) (by decide +kernel) (by decide +kernel) (by decide +kernel) (by decide +kernel)
theorem allAtoms_all (ts : List Jvm.Cond) (a : Array Jvm.Value) (st : Jvm.State) : (allAtoms ts).before a st = ts.all (fun c => c.before a st) := by
  induction ts with
  | nil => rfl
  | cons c t ih =>
    show (Jvm.Cond.and c (allAtoms t)).before a st = _
    rw [Jvm.Cond.before_and, ih, List.all_cons]
def words1 : List Jvm.Cond := Jvm.Cond.code x code maxLocals ret :: tables_1
/-- a 'code' word, met by the world's own term for the bytes: nothing is compared byte by byte -/
theorem code_word {y : MethodName} {bytes : ByteArray} {mx : Nat} {rt : Option FieldType} {a : Array Value} {s : State} {m : MethodId} {meth : Method} {c : Code} (h1 : s.methodNamed? y = some m) (h2 : s.vm.method? m = some meth) (h3 : meth.code = some c) (h4 : c.code = bytes)
    (h5 : (c.maxLocals == mx && c.exceptionTable.isEmpty && decide (c.maxStack ≤ mostOperands) && decide (meth.sig.returnType = rt) && !meth.locks && decide (parseMethodDescriptor y.desc = some meth.sig)) = true) : (Jvm.Cond.code y bytes mx rt).before a s = true := by
  simp only [Bool.and_eq_true, beq_iff_eq, Bool.not_eq_true', decide_eq_true_eq] at h5
  obtain ⟨⟨⟨⟨⟨g1, g2⟩, g3⟩, g4⟩, g5⟩, g6⟩ := h5
  simp [Cond.before, Cond.holds, Cond.value, h1, h2, h3, h4, g1, g2, g3, g4, g5, g6]
def isCode : Jvm.Cond → Bool
  | .code _ _ _ _ => true
  | _ => false
theorem all_split {L : List Jvm.Cond} {P : Jvm.Cond → Bool} (h1 : L.all (fun c => isCode c || P c) = true) (h2 : ∀ c ∈ L.filter isCode, P c = true) : L.all P = true := by
  refine List.all_eq_true.mpr fun c hc => ?_
  have h := List.all_eq_true.mp h1 c hc
  rcases Bool.eq_false_or_eq_true (isCode c) with hi | hi
  · exact h2 c (List.mem_filter.mpr ⟨hc, hi⟩)
  · simpa [hi] using h
set_option maxRecDepth 65536 in
theorem w_c0 : (Jvm.Cond.code x code maxLocals ret).before args0 about1 = true := code_word (m := ⟨1, 3⟩) (meth := k1m3) (c := k1c3) (by decide +kernel) rfl rfl rfl (by decide +kernel)
set_option maxRecDepth 65536 in
theorem w_c1 : (Jvm.Cond.code ({ cls := "com/example/axisplan/axisplan/query/RelationHoldsPinLaw", name := "pick", desc := "(I)Lcom/example/axisplan/axisplan/query/Comparison$Relation;" } : Jvm.MethodName) method_2_code (1 : Nat) (Option.some (Jvm.ClassFile.FieldType.object "com/example/axisplan/axisplan/query/Comparison$Relation"))).before args0 about1 = true := code_word (m := ⟨1, 1⟩) (meth := k1m1) (c := k1c1) (by decide +kernel) rfl rfl rfl (by decide +kernel)
set_option maxRecDepth 65536 in
theorem w_c2 : (Jvm.Cond.code ({ cls := "com/example/axisplan/axisplan/query/Comparison$Relation", name := "holds", desc := "(DD)Z" } : Jvm.MethodName) prog_24_method_8_code (5 : Nat) (Option.some Jvm.ClassFile.FieldType.boolean)).before args0 about1 = true := code_word (m := ⟨7, 0⟩) (meth := k7m0) (c := k7c0) (by decide +kernel) rfl rfl rfl (by decide +kernel)
set_option maxRecDepth 65536 in
theorem w_c3 : (Jvm.Cond.code ({ cls := "java/lang/Enum", name := "ordinal", desc := "()I" } : Jvm.MethodName) jdk_37_method_2_code (1 : Nat) (Option.some Jvm.ClassFile.FieldType.int)).before args0 about1 = true := code_word (m := ⟨5, 0⟩) (meth := k5m0) (c := k5c0) (by decide +kernel) rfl rfl rfl (by decide +kernel)
set_option maxRecDepth 65536 in
theorem w_c4 : (Jvm.Cond.code ({ cls := "com/example/axisplan/axisplan/query/RelationHoldsPinLaw", name := "expected", desc := "(IJ)Z" } : Jvm.MethodName) method_3_code (3 : Nat) (Option.some Jvm.ClassFile.FieldType.boolean)).before args0 about1 = true := code_word (m := ⟨1, 2⟩) (meth := k1m2) (c := k1c2) (by decide +kernel) rfl rfl rfl (by decide +kernel)
def codes1 : List Jvm.Cond := [Jvm.Cond.code x code maxLocals ret, Jvm.Cond.code ({ cls := "com/example/axisplan/axisplan/query/RelationHoldsPinLaw", name := "pick", desc := "(I)Lcom/example/axisplan/axisplan/query/Comparison$Relation;" } : Jvm.MethodName) method_2_code (1 : Nat) (Option.some (Jvm.ClassFile.FieldType.object "com/example/axisplan/axisplan/query/Comparison$Relation")), Jvm.Cond.code ({ cls := "com/example/axisplan/axisplan/query/Comparison$Relation", name := "holds", desc := "(DD)Z" } : Jvm.MethodName) prog_24_method_8_code (5 : Nat) (Option.some Jvm.ClassFile.FieldType.boolean), Jvm.Cond.code ({ cls := "java/lang/Enum", name := "ordinal", desc := "()I" } : Jvm.MethodName) jdk_37_method_2_code (1 : Nat) (Option.some Jvm.ClassFile.FieldType.int), Jvm.Cond.code ({ cls := "com/example/axisplan/axisplan/query/RelationHoldsPinLaw", name := "expected", desc := "(IJ)Z" } : Jvm.MethodName) method_3_code (3 : Nat) (Option.some Jvm.ClassFile.FieldType.boolean)]
set_option maxRecDepth 65536 in
theorem codes_eq : words1.filter isCode = codes1 := rfl
theorem w_codes : ∀ c ∈ words1.filter isCode, c.before args0 about1 = true := by
  rw [codes_eq]
  intro c hc
  simp only [codes1, List.mem_cons, List.not_mem_nil, or_false] at hc
  rcases hc with rfl | rfl | rfl | rfl | rfl
  · exact w_c0
  · exact w_c1
  · exact w_c2
  · exact w_c3
  · exact w_c4
set_option maxRecDepth 65536 in
theorem w_t1 : (words1.take 24).all (fun c => isCode c || c.before args0 about1) = true := by decide +kernel
set_option maxRecDepth 65536 in
theorem w_t2 : (words1.drop 24).all (fun c => isCode c || c.before args0 about1) = true := by decide +kernel
theorem w_tables : (allAtoms (Jvm.Cond.code x code maxLocals ret :: tables_1)).before args0 about1 = true := by
  rw [allAtoms_all]
  show words1.all (fun c => c.before args0 about1) = true
  refine all_split ?_ w_codes
  rw [← List.take_append_drop 24 words1, List.all_append, w_t1, w_t2]
  rfl
set_option maxRecDepth 65536 in
theorem w_case : (Jvm.Cond.and given_1 narrow_1).before args0 about1 = true := by decide +kernel
theorem w_applies : (headSpec (Jvm.Cond.code x code maxLocals ret :: tables_1) room_1).applies x e0.platform about1 = true :=
  (Spec.applies_iff w_frames).mpr ⟨w_running, w_runnable, w_alone, w_named, w_hears, w_ripe, w_room, w_tables⟩
theorem atStart : AtStart classFile x code maxLocals ret World_1 tables_1 room_1 Calls_1 rest_1 Pre_1 launch0 p0 e0 about1 theMethod args0 below0 :=
  ⟨lists_1, trivial, launch0.admits_env _ _ _, launch0.least_env, fairChoices_fair.cas, fairChoices_fair.clock, w_frames, w_args, w_heap, w_applies, trivial, trivial, w_case⟩
end start1
theorem witness_1 : WitnessClaimed_1 := ⟨start1.p0, start1.e0, start1.about1, start1.theMethod, start1.args0, start1.below0, start1.atStart⟩
end Jvm.Pilot.@@N@@
