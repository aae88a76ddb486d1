import JvmDerived
import JvmDerived.Pilot.@@N@@Statement
import JvmDerived.Pilot.@@N@@Code
set_option linter.unusedVariables false
set_option linter.unusedSimpArgs false
namespace Jvm.RoadKit
open Sem ClassFile Op Lib Jvm.Stand Jvm.Free Jvm.LawKit
section New
variable {p : Program} {l : Launch} {e : Env} {R : Room} {s : State} {m : MethodId} {args : Array Value} {below : List Frame} {meth : Method} {c : Code} {T : State} {locs : List Loc} {cells slots : Nat}
theorem retI (X : Stand p l e R s m args below meth c T locs cells slots) (hx : p.tables.exec = Jvm.exec) {pc : Nat} {Ls : Array Slot} {z : Int32} {rest : List Value} (hret : meth.sig.returnType = some .int) (hd : decode c.code pc = .ok (.ireturn, 1)) {fs : List Frame}
    (hl : ∀ (f : JFrame) (acts : List Action), f.method = m → f.locked = none → f.entered = [] → (doReturn e (T.setTop f) acts (some (.int z))).1 = T.setFrames fs) : Steps p.tables e below (T.setTop (mkF m pc Ls (.int z :: rest))) (T.setFrames fs) := by
  have hm' : T.vm.method? m = some meth := X.method'
  have hn : narrow .int (.int z) = .int z := rfl
  show Steps p.tables e below (T.setTop { method := m, pc := pc, locals := Ls, stack := _ :: rest, locked := none }) _
  jvm_step X.here [X.here.top, hx, hd, hm', hret, hn]
  first | (intro acts; rw [hl _ acts rfl rfl rfl]) | rw [hl _ _ rfl rfl rfl]
  exact Steps.refl _
end New
end Jvm.RoadKit
namespace Jvm.Pilot.@@N@@
open Jvm Jvm.ClassFile Sem Op Lib Jvm.Free Jvm.Stand Jvm.LawKit Jvm.RoadKit Bundle Jvm.Pilot.@@N@@.Jvm.D
def Qv (val : Option Value) (h0 : Heap) (n0 : Nat) (v : Option Value) (h : Heap) (L : List Loc) : Prop := v = val ∧ Fr n0 L ∧ h = h0
def Ql (val : Option Value) (n0 : Nat) (v : Option Value) (L : List Loc) : Prop := v = val ∧ Fr n0 L
theorem own_ext {h h' : Heap} (K : Keep h h' []) : Ext h h' := ⟨K.1, fun a c q => K.2.1 a c q nin0⟩
theorem own_kp {h h' : Heap} (e : h' = h) : Keep h h' [] := e ▸ Keep.refl _ _
def own_pick (a b c : Int32) : Int32 := if (((a.toUInt32 >>> ((8 : Int32) &&& 31).toUInt32).toInt32) &&& (1 : Int32)) = 0 then c else b &&& 255
def own_eq3 (x1 x2 x3 y1 y2 y3 : Int32) : Int32 := if y1 = x1 ∧ y2 = x2 ∧ y3 = x3 then 1 else 0
theorem own_self (x y z : Int32) : ¬ own_eq3 x y z x y z = 0 := by simp [own_eq3]
theorem own_hi (x : Int32) : (x &&& 255) &&& (-256) = 0 := by
  rw [Int32.and_assoc]
  have : (255 : Int32) &&& (-256) = 0 := by decide
  rw [this, Int32.and_zero]
theorem own_hip (a b c : Int32) (h : c &&& (-256) = 0) : own_pick a b c &&& (-256) = 0 := by
  unfold own_pick
  split
  · exact h
  · exact own_hi b
theorem own_hi3 {a b c : Int32} (h1 : a &&& (-256) = 0) (h2 : b &&& (-256) = 0) (h3 : c &&& (-256) = 0) : ((a ||| b) ||| c) &&& (-256) = 0 := by
  have h1' := congrArg Int32.toBitVec h1
  have h2' := congrArg Int32.toBitVec h2
  have h3' := congrArg Int32.toBitVec h3
  apply Int32.toBitVec_inj.mp
  simp only [Int32.toBitVec_and, Int32.toBitVec_or] at *
  apply BitVec.eq_of_getLsbD_eq
  intro i hi
  have q1 := congrArg (fun z => z.getLsbD i) h1'
  have q2 := congrArg (fun z => z.getLsbD i) h2'
  have q3 := congrArg (fun z => z.getLsbD i) h3'
  simp only [BitVec.getLsbD_and, BitVec.getLsbD_or] at *
  revert q1 q2 q3
  cases a.toBitVec.getLsbD i <;> cases b.toBitVec.getLsbD i <;> cases c.toBitVec.getLsbD i <;> simp
theorem own_NSroot {Z : State} {a0 : Array Value} {O K : String} {k : Nat} (w : (Cond.noSuperclass O).before a0 Z = true) (wk : (Cond.instantiable K k).before a0 Z = true) (hn : O ≠ K) : NS Z O K := by
  obtain ⟨c, kc, h1, h2, h3, -, -⟩ := Cond.noSuperclass_spec w
  obtain ⟨t, kt, g1, -⟩ := Cond.instantiable_spec wk
  have ne := ids_ne h1 g1 hn
  refine ⟨c, t, h1, g1, fun fuel => ?_⟩
  cases fuel with
  | zero => rfl
  | succ f => simp [Vm.isSubclassAux, ne, h2, h3]
theorem own_notEep {Z : State} {a0 : Array Value} {C S K : String} {k : Nat} {h : Heap} {a : Addr} (w : (Cond.superclass C S).before a0 Z = true) (wk : (Cond.instantiable K k).before a0 Z = true) (n : NS Z C K) (hn : C ≠ K) (E : Exa Z h a C) : Ins Z h a K false := by
  obtain ⟨c, t, h0, g0, n3⟩ := n
  obtain ⟨p, kc, kp, h1, h2, h3, h4, h5, -⟩ := Cond.superclass_spec h0 w
  obtain ⟨t', kt, g1, g2, g3, g4, -⟩ := Cond.instantiable_spec wk
  cases g0.symm.trans g1
  have g5 : kt.isInterface = false := by
    cases hb : kt.isInterface
    · rfl
    · rw [hb] at g4; simp at g4
  have ne := ids_ne h0 g0 hn
  obtain ⟨cell, ke, e1, e2, e3, e4, -⟩ := E
  cases h0.symm.trans e2
  refine ⟨cell, t, e1, g0, ?_⟩
  have q : Z.vm.assignable cell.cls t = false := by
    show Z.vm.assignableAux (255 + 1) cell.cls t = false
    simp [Vm.assignableAux, ne, h2, g2, h5, g3, g5, Vm.isSubclass, n3]
  simp [q]
def Qo (Z : State) (h0 : Heap) (n0 : Nat) (v : Option Value) (h : Heap) (L : List Loc) : Prop := ∃ a : Addr, v = some (.ref a) ∧ Fr n0 L ∧ Keep h0 h [] ∧ Exa Z h a "java/lang/Integer"
def Qi (Z : State) (a1 : Addr) (h0 : Heap) (n0 : Nat) (v : Option Value) (h : Heap) (L : List Loc) : Prop := v = none ∧ Fr n0 L ∧ Keep h0 h [a1] ∧ Exa Z h a1 "java/lang/Integer"
def Qe (Z : State) (a1 : Addr) (x y z : Int32) (h0 : Heap) (n0 : Nat) (v : Option Value) (h : Heap) (L : List Loc) : Prop := v = none ∧ Fr n0 L ∧ Keep h0 h [a1] ∧ Exa Z h a1 "com/example/telegrid/telegrid/erp1/Eep" ∧ Fld Z h a1 "com/example/telegrid/telegrid/erp1/Eep" "rorg" "I" (.int x) ∧ Fld Z h a1 "com/example/telegrid/telegrid/erp1/Eep" "func" "I" (.int y) ∧ Fld Z h a1 "com/example/telegrid/telegrid/erp1/Eep" "type" "I" (.int z)
theorem d1_0 : decode method_2_code 0 = .ok (.iload_n 0, 1) := by decide +kernel
theorem d1_1 : decode method_2_code 1 = .ok (.bipush 8, 2) := by decide +kernel
theorem d1_3 : decode method_2_code 3 = .ok (.iushr, 1) := by decide +kernel
theorem d1_4 : decode method_2_code 4 = .ok (.iconst 1, 1) := by decide +kernel
theorem d1_5 : decode method_2_code 5 = .ok (.iand, 1) := by decide +kernel
theorem d1_6 : decode method_2_code 6 = .ok (.ifCond .eq 11, 3) := by decide +kernel
theorem d1_9 : decode method_2_code 9 = .ok (.iload_n 1, 1) := by decide +kernel
theorem d1_10 : decode method_2_code 10 = .ok (.sipush 255, 3) := by decide +kernel
theorem d1_13 : decode method_2_code 13 = .ok (.iand, 1) := by decide +kernel
theorem d1_14 : decode method_2_code 14 = .ok (.goto 4, 3) := by decide +kernel
theorem d1_18 : decode method_2_code 18 = .ok (.ireturn, 1) := by decide +kernel
theorem pn_1 : plainName "com/example/telegrid/telegrid/erp1/EepEqualsPinLaw" = true := by first | (simp [plainName, overriddenIn]; done) | decide +kernel
theorem ef_1 (m : MethodId) (x0 : Int32) (x1 : Int32) (x2 : Int32) : entryFrame m #[(.int x0), (.int x1), (.int x2)] 3 = mkF m 0 #[.val (.int x0), .val (.int x1), .val (.int x2)] [] := by first | (simp [entryFrame, mkF, argsToLocals, Value.category]; done) | rfl
set_option maxRecDepth 65536 in
set_option maxHeartbeats 40000000 in
theorem rm1_f (l : Launch) (Z : State) (a0 : Array Value) (hw : ∀ d ∈ tables_1, d.before a0 Z = true) (ws : List Jvm.Cond) (p1 : Int32) (p2 : Int32) (p3 : Int32) (h0 : Heap) (n0 : Nat) (Z0 : n0 ≤ h0.size) (hc6 : ¬ ((((p1.toUInt32 >>> ((8 : Int32) &&& 31).toUInt32).toInt32) &&& (1 : Int32)) = (0 : Int32))) :
    MetFree l (⟨"com/example/telegrid/telegrid/erp1/EepEqualsPinLaw", "pick", "(III)I"⟩ : MethodName) (head1 (Jvm.Cond.code (⟨"com/example/telegrid/telegrid/erp1/EepEqualsPinLaw", "pick", "(III)I"⟩ : MethodName) method_2_code 3 (some .int) :: ws) ({ frames := 0, cells := 0, slots := 0, locals := 0 } : Room)) (fun a U => a = #[(.int p1), (.int p2), (.int p3)] ∧ Z.Warmed39 U.vm ∧ U.heap = h0) (fun _ _ _ _ _ => True) (fun _ U o U' => ∃ v L, o = .returned v ∧ Qv (some (.int (p2 &&& (255 : Int32)))) h0 n0 v U'.heap L ∧ FrameEnd U o U' L ({ frames := 0, cells := 0, slots := 0, locals := 0 } : Room).cells ({ frames := 0, cells := 0, slots := 0, locals := 0 } : Room).slots) := by
  refine MetFree.of_bodySF (plainFor_of_name pn_1) hisR ?_
  intro p e s m args below meth c s₁ Bd hml0 hP hK
  obtain ⟨rfl, hZ, hh⟩ := hP
  have hx := Bd.exec
  have hby := Bd.bytes
  have hml : c.maxLocals = 3 := hml0
  have hown : s.vm.findClass "com/example/telegrid/telegrid/erp1/EepEqualsPinLaw" = some m.cls := findClass_of_methodNamed Bd.named
  have hnm := (name_of_methodNamed Bd.named Bd.method).1
  have X0 : Stand p l e ({ frames := 0, cells := 0, slots := 0, locals := 0 } : Room) s m #[(.int p1), (.int p2), (.int p3)] below meth c s₁ [] 0 0 := Stand.of_body Bd
  have e0 : s₁.heap = h0 := by rw [← hh, Bd.state]; rfl
  have N0 := Fr.nil n0
  have pre0 : ∀ t, Steps p.tables e below (s₁.setTop (mkF m 0 #[.val (.int p1), .val (.int p2), .val (.int p3)] [])) t → Steps p.tables e below (s₁.setTop (entryFrame m #[(.int p1), (.int p2), (.int p3)] 3)) t := fun t k => castTop (ef_1 m p1 p2 p3) k
  -- 3. LAWS

  obtain ⟨fs, hr, hrun, hended, hW, hsame⟩ := X0.leave (v := some (.int (p2 &&& (255 : Int32)))) (fun h => by rw [Bd.returns] at h; cases h)
  refine ⟨_, _, pre0 _ ?_, hrun, hended, _, _, rfl, ?_, ⟨_, rfl⟩, hW, hsame.mono (by decide) (by decide)⟩
  -- 4. STEPS
  · show Steps p.tables e below (s₁.setTop (mkF m 0 #[.val (.int p1), .val (.int p2), .val (.int p3)] [])) _
    refine XS.iloadN X0.here hx rfl (hb hby d1_0) rfl ?_
    show Steps p.tables e below (s₁.setTop (mkF m 1 #[.val (.int p1), .val (.int p2), .val (.int p3)] [(.int p1)])) _
    refine XS.bipush X0.here hx rfl (hb hby d1_1) ?_
    show Steps p.tables e below (s₁.setTop (mkF m 3 #[.val (.int p1), .val (.int p2), .val (.int p3)] [(.int (8 : Int32)), (.int p1)])) _
    refine XS.iushr X0.here hx rfl (hb hby d1_3) rfl ?_
    show Steps p.tables e below (s₁.setTop (mkF m 4 #[.val (.int p1), .val (.int p2), .val (.int p3)] [(.int ((p1.toUInt32 >>> ((8 : Int32) &&& 31).toUInt32).toInt32))])) _
    refine XS.iconst X0.here hx rfl (hb hby d1_4) ?_
    show Steps p.tables e below (s₁.setTop (mkF m 5 #[.val (.int p1), .val (.int p2), .val (.int p3)] [(.int (1 : Int32)), (.int ((p1.toUInt32 >>> ((8 : Int32) &&& 31).toUInt32).toInt32))])) _
    refine XS.iand X0.here hx rfl (hb hby d1_5) rfl ?_
    show Steps p.tables e below (s₁.setTop (mkF m 6 #[.val (.int p1), .val (.int p2), .val (.int p3)] [(.int (((p1.toUInt32 >>> ((8 : Int32) &&& 31).toUInt32).toInt32) &&& (1 : Int32)))])) _
    refine XS.ifNo X0.here hx rfl (hb hby d1_6) rfl ((if0 _ _).trans (feq hc6).1) ?_
    show Steps p.tables e below (s₁.setTop (mkF m 9 #[.val (.int p1), .val (.int p2), .val (.int p3)] [])) _
    refine XS.iloadN X0.here hx rfl (hb hby d1_9) rfl ?_
    show Steps p.tables e below (s₁.setTop (mkF m 10 #[.val (.int p1), .val (.int p2), .val (.int p3)] [(.int p2)])) _
    refine XS.sipush X0.here hx rfl (hb hby d1_10) ?_
    show Steps p.tables e below (s₁.setTop (mkF m 13 #[.val (.int p1), .val (.int p2), .val (.int p3)] [(.int (255 : Int32)), (.int p2)])) _
    refine XS.iand X0.here hx rfl (hb hby d1_13) rfl ?_
    show Steps p.tables e below (s₁.setTop (mkF m 14 #[.val (.int p1), .val (.int p2), .val (.int p3)] [(.int (p2 &&& (255 : Int32)))])) _
    refine XS.goto X0.here hx rfl (pc0 := 14) (pc' := 18) rfl (hb hby d1_14) (by decide) (by decide) ?_
    show Steps p.tables e below (s₁.setTop (mkF m 18 #[.val (.int p1), .val (.int p2), .val (.int p3)] [(.int (p2 &&& (255 : Int32)))])) _
    exact retI X0 hx Bd.returns (hb hby d1_18) hr      -- retI stands in the head ('lawwalk <made dir>' prints it)
  · show Qv (some (.int (p2 &&& (255 : Int32)))) h0 n0 _ s₁.heap _
    rw [e0]
    exact ⟨rfl, N0, rfl⟩
theorem d1_17 : decode method_2_code 17 = .ok (.iload_n 2, 1) := by decide +kernel
set_option maxRecDepth 65536 in
set_option maxHeartbeats 40000000 in
theorem rm1_t (l : Launch) (Z : State) (a0 : Array Value) (hw : ∀ d ∈ tables_1, d.before a0 Z = true) (ws : List Jvm.Cond) (p1 : Int32) (p2 : Int32) (p3 : Int32) (h0 : Heap) (n0 : Nat) (Z0 : n0 ≤ h0.size) (hc6 : (((p1.toUInt32 >>> ((8 : Int32) &&& 31).toUInt32).toInt32) &&& (1 : Int32)) = (0 : Int32)) :
    MetFree l (⟨"com/example/telegrid/telegrid/erp1/EepEqualsPinLaw", "pick", "(III)I"⟩ : MethodName) (head1 (Jvm.Cond.code (⟨"com/example/telegrid/telegrid/erp1/EepEqualsPinLaw", "pick", "(III)I"⟩ : MethodName) method_2_code 3 (some .int) :: ws) ({ frames := 0, cells := 0, slots := 0, locals := 0 } : Room)) (fun a U => a = #[(.int p1), (.int p2), (.int p3)] ∧ Z.Warmed39 U.vm ∧ U.heap = h0) (fun _ _ _ _ _ => True) (fun _ U o U' => ∃ v L, o = .returned v ∧ Qv (some (.int p3)) h0 n0 v U'.heap L ∧ FrameEnd U o U' L ({ frames := 0, cells := 0, slots := 0, locals := 0 } : Room).cells ({ frames := 0, cells := 0, slots := 0, locals := 0 } : Room).slots) := by
  refine MetFree.of_bodySF (plainFor_of_name pn_1) hisR ?_
  intro p e s m args below meth c s₁ Bd hml0 hP hK
  obtain ⟨rfl, hZ, hh⟩ := hP
  have hx := Bd.exec
  have hby := Bd.bytes
  have hml : c.maxLocals = 3 := hml0
  have hown : s.vm.findClass "com/example/telegrid/telegrid/erp1/EepEqualsPinLaw" = some m.cls := findClass_of_methodNamed Bd.named
  have hnm := (name_of_methodNamed Bd.named Bd.method).1
  have X0 : Stand p l e ({ frames := 0, cells := 0, slots := 0, locals := 0 } : Room) s m #[(.int p1), (.int p2), (.int p3)] below meth c s₁ [] 0 0 := Stand.of_body Bd
  have e0 : s₁.heap = h0 := by rw [← hh, Bd.state]; rfl
  have N0 := Fr.nil n0
  have pre0 : ∀ t, Steps p.tables e below (s₁.setTop (mkF m 0 #[.val (.int p1), .val (.int p2), .val (.int p3)] [])) t → Steps p.tables e below (s₁.setTop (entryFrame m #[(.int p1), (.int p2), (.int p3)] 3)) t := fun t k => castTop (ef_1 m p1 p2 p3) k
  -- 3. LAWS

  obtain ⟨fs, hr, hrun, hended, hW, hsame⟩ := X0.leave (v := some (.int p3)) (fun h => by rw [Bd.returns] at h; cases h)
  refine ⟨_, _, pre0 _ ?_, hrun, hended, _, _, rfl, ?_, ⟨_, rfl⟩, hW, hsame.mono (by decide) (by decide)⟩
  -- 4. STEPS
  · show Steps p.tables e below (s₁.setTop (mkF m 0 #[.val (.int p1), .val (.int p2), .val (.int p3)] [])) _
    refine XS.iloadN X0.here hx rfl (hb hby d1_0) rfl ?_
    show Steps p.tables e below (s₁.setTop (mkF m 1 #[.val (.int p1), .val (.int p2), .val (.int p3)] [(.int p1)])) _
    refine XS.bipush X0.here hx rfl (hb hby d1_1) ?_
    show Steps p.tables e below (s₁.setTop (mkF m 3 #[.val (.int p1), .val (.int p2), .val (.int p3)] [(.int (8 : Int32)), (.int p1)])) _
    refine XS.iushr X0.here hx rfl (hb hby d1_3) rfl ?_
    show Steps p.tables e below (s₁.setTop (mkF m 4 #[.val (.int p1), .val (.int p2), .val (.int p3)] [(.int ((p1.toUInt32 >>> ((8 : Int32) &&& 31).toUInt32).toInt32))])) _
    refine XS.iconst X0.here hx rfl (hb hby d1_4) ?_
    show Steps p.tables e below (s₁.setTop (mkF m 5 #[.val (.int p1), .val (.int p2), .val (.int p3)] [(.int (1 : Int32)), (.int ((p1.toUInt32 >>> ((8 : Int32) &&& 31).toUInt32).toInt32))])) _
    refine XS.iand X0.here hx rfl (hb hby d1_5) rfl ?_
    show Steps p.tables e below (s₁.setTop (mkF m 6 #[.val (.int p1), .val (.int p2), .val (.int p3)] [(.int (((p1.toUInt32 >>> ((8 : Int32) &&& 31).toUInt32).toInt32) &&& (1 : Int32)))])) _
    refine XS.ifYes X0.here hx rfl (pc0 := 6) (pc' := 17) rfl (hb hby d1_6) rfl ((if0 _ _).trans (teq hc6).1) (by decide) (by decide) ?_
    show Steps p.tables e below (s₁.setTop (mkF m 17 #[.val (.int p1), .val (.int p2), .val (.int p3)] [])) _
    refine XS.iloadN X0.here hx rfl (hb hby d1_17) rfl ?_
    show Steps p.tables e below (s₁.setTop (mkF m 18 #[.val (.int p1), .val (.int p2), .val (.int p3)] [(.int p3)])) _
    exact retI X0 hx Bd.returns (hb hby d1_18) hr      -- retI stands in the head ('lawwalk <made dir>' prints it)
  · show Qv (some (.int p3)) h0 n0 _ s₁.heap _
    rw [e0]
    exact ⟨rfl, N0, rfl⟩
theorem rm1 (l : Launch) (Z : State) (a0 : Array Value) (hw : ∀ d ∈ tables_1, d.before a0 Z = true) (ws : List Jvm.Cond) (p1 p2 p3 : Int32) (h0 : Heap) (n0 : Nat) (Z0 : n0 ≤ h0.size) :
    MetFree l (⟨"com/example/telegrid/telegrid/erp1/EepEqualsPinLaw", "pick", "(III)I"⟩ : MethodName) (head1 (Jvm.Cond.code (⟨"com/example/telegrid/telegrid/erp1/EepEqualsPinLaw", "pick", "(III)I"⟩ : MethodName) method_2_code 3 (some .int) :: ws) ({ frames := 0, cells := 0, slots := 0, locals := 0 } : Room)) (fun a U => a = #[(.int p1), (.int p2), (.int p3)] ∧ Z.Warmed39 U.vm ∧ U.heap = h0) (fun _ _ _ _ _ => True) (fun _ U o U' => ∃ v L, o = .returned v ∧ Qv (some (.int (own_pick p1 p2 p3))) h0 n0 v U'.heap L ∧ FrameEnd U o U' L ({ frames := 0, cells := 0, slots := 0, locals := 0 } : Room).cells ({ frames := 0, cells := 0, slots := 0, locals := 0 } : Room).slots) := by
  by_cases h : (((p1.toUInt32 >>> ((8 : Int32) &&& 31).toUInt32).toInt32) &&& (1 : Int32)) = 0
  · have e : own_pick p1 p2 p3 = p3 := by unfold own_pick; rw [if_pos h]
    rw [e]; exact rm1_t l Z a0 hw ws p1 p2 p3 h0 n0 Z0 h
  · have e : own_pick p1 p2 p3 = p2 &&& 255 := by unfold own_pick; rw [if_neg h]
    rw [e]; exact rm1_f l Z a0 hw ws p1 p2 p3 h0 n0 Z0 h
theorem d2_0 : decode prog_50_method_1_code 0 = .ok (.aload_n 0, 1) := by decide +kernel
theorem d2_1 : decode prog_50_method_1_code 1 = .ok (.invokespecial 1, 3) := by decide +kernel
theorem d2_4 : decode prog_50_method_1_code 4 = .ok (.iload_n 1, 1) := by decide +kernel
theorem d2_5 : decode prog_50_method_1_code 5 = .ok (.iload_n 2, 1) := by decide +kernel
theorem d2_6 : decode prog_50_method_1_code 6 = .ok (.ior, 1) := by decide +kernel
theorem d2_7 : decode prog_50_method_1_code 7 = .ok (.iload_n 3, 1) := by decide +kernel
theorem d2_8 : decode prog_50_method_1_code 8 = .ok (.ior, 1) := by decide +kernel
theorem d2_9 : decode prog_50_method_1_code 9 = .ok (.sipush (-256), 3) := by decide +kernel
theorem d2_12 : decode prog_50_method_1_code 12 = .ok (.iand, 1) := by decide +kernel
theorem d2_13 : decode prog_50_method_1_code 13 = .ok (.ifCond .eq 19, 3) := by decide +kernel
theorem d2_32 : decode prog_50_method_1_code 32 = .ok (.aload_n 0, 1) := by decide +kernel
theorem d2_33 : decode prog_50_method_1_code 33 = .ok (.iload_n 1, 1) := by decide +kernel
theorem d2_34 : decode prog_50_method_1_code 34 = .ok (.putfield 16, 3) := by decide +kernel
theorem d2_37 : decode prog_50_method_1_code 37 = .ok (.aload_n 0, 1) := by decide +kernel
theorem d2_38 : decode prog_50_method_1_code 38 = .ok (.iload_n 2, 1) := by decide +kernel
theorem d2_39 : decode prog_50_method_1_code 39 = .ok (.putfield 22, 3) := by decide +kernel
theorem d2_42 : decode prog_50_method_1_code 42 = .ok (.aload_n 0, 1) := by decide +kernel
theorem d2_43 : decode prog_50_method_1_code 43 = .ok (.iload_n 3, 1) := by decide +kernel
theorem d2_44 : decode prog_50_method_1_code 44 = .ok (.putfield 25, 3) := by decide +kernel
theorem d2_47 : decode prog_50_method_1_code 47 = .ok (.return_, 1) := by decide +kernel
theorem pn_2 : plainName "com/example/telegrid/telegrid/erp1/Eep" = true := by first | (simp [plainName, overriddenIn]; done) | decide +kernel
theorem ef_2 (m : MethodId) (x0 : Addr) (x1 : Int32) (x2 : Int32) (x3 : Int32) : entryFrame m #[(.ref x0), (.int x1), (.int x2), (.int x3)] 4 = mkF m 0 #[.val (.ref x0), .val (.int x1), .val (.int x2), .val (.int x3)] [] := by first | (simp [entryFrame, mkF, argsToLocals, Value.category]; done) | rfl
set_option maxRecDepth 65536 in
set_option maxHeartbeats 40000000 in
theorem rm2 (l : Launch) (Z : State) (a0 : Array Value) (hw : ∀ d ∈ tables_1, d.before a0 Z = true) (ws : List Jvm.Cond) (a1 : Addr) (p2 : Int32) (p3 : Int32) (p4 : Int32) (u_rorg_a1 : Value) (u_func_a1 : Value) (u_type_a1 : Value) (h0 : Heap) (n0 : Nat) (Z0 : n0 ≤ h0.size) (E_a1 : Exa Z h0 a1 "com/example/telegrid/telegrid/erp1/Eep") (F_rorg_a1 : Fld Z h0 a1 "com/example/telegrid/telegrid/erp1/Eep" "rorg" "I" u_rorg_a1) (g_a1 : n0 ≤ a1) (F_func_a1 : Fld Z h0 a1 "com/example/telegrid/telegrid/erp1/Eep" "func" "I" u_func_a1) (F_type_a1 : Fld Z h0 a1 "com/example/telegrid/telegrid/erp1/Eep" "type" "I" u_type_a1) (hc13 : (((p2 ||| p3) ||| p4) &&& (-256 : Int32)) = (0 : Int32)) :
    MetFree l (⟨"com/example/telegrid/telegrid/erp1/Eep", "<init>", "(III)V"⟩ : MethodName) (head1 (Jvm.Cond.code (⟨"com/example/telegrid/telegrid/erp1/Eep", "<init>", "(III)V"⟩ : MethodName) prog_50_method_1_code 4 none :: ws) ({ frames := 1, cells := 0, slots := 0, locals := 12 } : Room)) (fun a U => a = #[(.ref a1), (.int p2), (.int p3), (.int p4)] ∧ Z.Warmed39 U.vm ∧ U.heap = h0) (fun _ _ _ _ _ => True) (fun _ U o U' => ∃ v L, o = .returned v ∧ Qe Z a1 p2 p3 p4 h0 n0 v U'.heap L ∧ FrameEnd U o U' L ({ frames := 1, cells := 0, slots := 0, locals := 12 } : Room).cells ({ frames := 1, cells := 0, slots := 0, locals := 12 } : Room).slots) := by
  refine MetFree.of_bodySF (plainFor_of_name pn_2) hisR ?_
  intro p e s m args below meth c s₁ Bd hml0 hP hK
  obtain ⟨rfl, hZ, hh⟩ := hP
  have hx := Bd.exec
  have hby := Bd.bytes
  have hml : c.maxLocals = 4 := hml0
  have hown : s.vm.findClass "com/example/telegrid/telegrid/erp1/Eep" = some m.cls := findClass_of_methodNamed Bd.named
  have hnm := (name_of_methodNamed Bd.named Bd.method).1
  have X0 : Stand p l e ({ frames := 1, cells := 0, slots := 0, locals := 12 } : Room) s m #[(.ref a1), (.int p2), (.int p3), (.int p4)] below meth c s₁ [] 0 0 := Stand.of_body Bd
  have e0 : s₁.heap = h0 := by rw [← hh, Bd.state]; rfl
  have N0 := Fr.nil n0
  have pre0 : ∀ t, Steps p.tables e below (s₁.setTop (mkF m 0 #[.val (.ref a1), .val (.int p2), .val (.int p3), .val (.int p4)] [])) t → Steps p.tables e below (s₁.setTop (entryFrame m #[(.ref a1), (.int p2), (.int p3), (.int p4)] 4)) t := fun t k => castTop (ef_2 m a1 p2 p3 p4) k
  -- 3. LAWS
  obtain ⟨T5, X5, e5, st5⟩ := initO X0 hx hZ hown (hw _ (List.mem_of_getElem? (i := 10) rfl)) (hw _ (List.mem_of_getElem? (i := 11) rfl)) (hw _ (List.mem_of_getElem? (i := 12) rfl)) e0 (g := (mkF m 1 #[.val (.ref a1), .val (.int p2), .val (.int p3), .val (.int p4)] [(.ref a1)])) rfl (by rw [hml]; rfl) rfl (hb hby d2_1) (by decide) (W := 0) (by show 2 * 0 + _ ≤ _; exact Nat.le_of_eq rfl) (by decide)
  obtain ⟨T6, h6, X6, e6, W6, st6⟩ := putF X5 hx hZ hown (host := "") (Or.inl (hw _ (List.mem_of_getElem? (i := 13) rfl))) Via.refl e5 F_rorg_a1 E_a1 (Or.inr ⟨(hw _ (List.mem_of_getElem? (i := 14) rfl)), rfl, hnm⟩) (hw _ (List.mem_of_getElem? (i := 5) rfl)) (ty := .int) (by decide) rfl rfl (g := (mkF m 34 #[.val (.ref a1), .val (.int p2), .val (.int p3), .val (.int p4)] [(.int p2), (.ref a1)])) rfl rfl (hb hby d2_34)
  have Fw6 := F_rorg_a1.same W6      -- the field now holds (.int p2)
  have K6 : Keep h0 h6 [a1] := (Keep.refl h0 [a1]).wr W6 (Or.inl (List.mem_of_getElem? (i := 0) rfl))
  have N6 := Fr.snoc X6 N0 g_a1
  obtain ⟨T7, h7, X7, e7, W7, st7⟩ := putF X6 hx hZ hown (host := "") (Or.inl (hw _ (List.mem_of_getElem? (i := 15) rfl))) Via.refl e6 (F_func_a1.other W6 (Or.inr (slot_ne (Or.inr (hw _ (List.mem_of_getElem? (i := 16) rfl))) (Or.inr (hw _ (List.mem_of_getElem? (i := 14) rfl))) (by decide) (t := .int) (t' := .int) (by decide) (by decide)))) (E_a1.wr W6) (Or.inr ⟨(hw _ (List.mem_of_getElem? (i := 16) rfl)), rfl, hnm⟩) (hw _ (List.mem_of_getElem? (i := 5) rfl)) (ty := .int) (by decide) rfl rfl (g := (mkF m 39 #[.val (.ref a1), .val (.int p2), .val (.int p3), .val (.int p4)] [(.int p3), (.ref a1)])) rfl rfl (hb hby d2_39)
  have Fw7 := (F_func_a1.other W6 (Or.inr (slot_ne (Or.inr (hw _ (List.mem_of_getElem? (i := 16) rfl))) (Or.inr (hw _ (List.mem_of_getElem? (i := 14) rfl))) (by decide) (t := .int) (t' := .int) (by decide) (by decide)))).same W7      -- the field now holds (.int p3)
  have K7 : Keep h0 h7 [a1] := K6.wr W7 (Or.inl (List.mem_of_getElem? (i := 0) rfl))
  have N7 := Fr.snoc X7 N6 g_a1
  obtain ⟨T8, h8, X8, e8, W8, st8⟩ := putF X7 hx hZ hown (host := "") (Or.inl (hw _ (List.mem_of_getElem? (i := 17) rfl))) Via.refl e7 ((F_type_a1.other W6 (Or.inr (slot_ne (Or.inr (hw _ (List.mem_of_getElem? (i := 18) rfl))) (Or.inr (hw _ (List.mem_of_getElem? (i := 14) rfl))) (by decide) (t := .int) (t' := .int) (by decide) (by decide)))).other W7 (Or.inr (slot_ne (Or.inr (hw _ (List.mem_of_getElem? (i := 18) rfl))) (Or.inr (hw _ (List.mem_of_getElem? (i := 16) rfl))) (by decide) (t := .int) (t' := .int) (by decide) (by decide)))) ((E_a1.wr W6).wr W7) (Or.inr ⟨(hw _ (List.mem_of_getElem? (i := 18) rfl)), rfl, hnm⟩) (hw _ (List.mem_of_getElem? (i := 5) rfl)) (ty := .int) (by decide) rfl rfl (g := (mkF m 44 #[.val (.ref a1), .val (.int p2), .val (.int p3), .val (.int p4)] [(.int p4), (.ref a1)])) rfl rfl (hb hby d2_44)
  have Fw8 := ((F_type_a1.other W6 (Or.inr (slot_ne (Or.inr (hw _ (List.mem_of_getElem? (i := 18) rfl))) (Or.inr (hw _ (List.mem_of_getElem? (i := 14) rfl))) (by decide) (t := .int) (t' := .int) (by decide) (by decide)))).other W7 (Or.inr (slot_ne (Or.inr (hw _ (List.mem_of_getElem? (i := 18) rfl))) (Or.inr (hw _ (List.mem_of_getElem? (i := 16) rfl))) (by decide) (t := .int) (t' := .int) (by decide) (by decide)))).same W8      -- the field now holds (.int p4)
  have K8 : Keep h0 h8 [a1] := K7.wr W8 (Or.inl (List.mem_of_getElem? (i := 0) rfl))
  have N8 := Fr.snoc X8 N7 g_a1
  obtain ⟨fs, hr, hrun, hended, hW, hsame⟩ := X8.leave (v := none) (fun _ => rfl)
  refine ⟨_, _, pre0 _ ?_, hrun, hended, _, _, rfl, ?_, ⟨_, rfl⟩, hW, hsame.mono (by decide) (by decide)⟩
  -- 4. STEPS
  · show Steps p.tables e below (s₁.setTop (mkF m 0 #[.val (.ref a1), .val (.int p2), .val (.int p3), .val (.int p4)] [])) _
    refine XS.aloadN X0.here hx rfl (hb hby d2_0) rfl rfl ?_
    show Steps p.tables e below (s₁.setTop (mkF m 1 #[.val (.ref a1), .val (.int p2), .val (.int p3), .val (.int p4)] [(.ref a1)])) _
    refine st5 _ ?_
    show Steps p.tables e below (T5.setTop (mkF m 4 #[.val (.ref a1), .val (.int p2), .val (.int p3), .val (.int p4)] [])) _
    refine XS.iloadN X5.here hx rfl (hb hby d2_4) rfl ?_
    show Steps p.tables e below (T5.setTop (mkF m 5 #[.val (.ref a1), .val (.int p2), .val (.int p3), .val (.int p4)] [(.int p2)])) _
    refine XS.iloadN X5.here hx rfl (hb hby d2_5) rfl ?_
    show Steps p.tables e below (T5.setTop (mkF m 6 #[.val (.ref a1), .val (.int p2), .val (.int p3), .val (.int p4)] [(.int p3), (.int p2)])) _
    refine XS.ior X5.here hx rfl (hb hby d2_6) rfl ?_
    show Steps p.tables e below (T5.setTop (mkF m 7 #[.val (.ref a1), .val (.int p2), .val (.int p3), .val (.int p4)] [(.int (p2 ||| p3))])) _
    refine XS.iloadN X5.here hx rfl (hb hby d2_7) rfl ?_
    show Steps p.tables e below (T5.setTop (mkF m 8 #[.val (.ref a1), .val (.int p2), .val (.int p3), .val (.int p4)] [(.int p4), (.int (p2 ||| p3))])) _
    refine XS.ior X5.here hx rfl (hb hby d2_8) rfl ?_
    show Steps p.tables e below (T5.setTop (mkF m 9 #[.val (.ref a1), .val (.int p2), .val (.int p3), .val (.int p4)] [(.int ((p2 ||| p3) ||| p4))])) _
    refine XS.sipush X5.here hx rfl (hb hby d2_9) ?_
    show Steps p.tables e below (T5.setTop (mkF m 12 #[.val (.ref a1), .val (.int p2), .val (.int p3), .val (.int p4)] [(.int (-256 : Int32)), (.int ((p2 ||| p3) ||| p4))])) _
    refine XS.iand X5.here hx rfl (hb hby d2_12) rfl ?_
    show Steps p.tables e below (T5.setTop (mkF m 13 #[.val (.ref a1), .val (.int p2), .val (.int p3), .val (.int p4)] [(.int (((p2 ||| p3) ||| p4) &&& (-256 : Int32)))])) _
    refine XS.ifYes X5.here hx rfl (pc0 := 13) (pc' := 32) rfl (hb hby d2_13) rfl ((if0 _ _).trans (teq hc13).1) (by decide) (by decide) ?_
    show Steps p.tables e below (T5.setTop (mkF m 32 #[.val (.ref a1), .val (.int p2), .val (.int p3), .val (.int p4)] [])) _
    refine XS.aloadN X5.here hx rfl (hb hby d2_32) rfl rfl ?_
    show Steps p.tables e below (T5.setTop (mkF m 33 #[.val (.ref a1), .val (.int p2), .val (.int p3), .val (.int p4)] [(.ref a1)])) _
    refine XS.iloadN X5.here hx rfl (hb hby d2_33) rfl ?_
    show Steps p.tables e below (T5.setTop (mkF m 34 #[.val (.ref a1), .val (.int p2), .val (.int p3), .val (.int p4)] [(.int p2), (.ref a1)])) _
    refine st6 _ ?_
    show Steps p.tables e below (T6.setTop (mkF m 37 #[.val (.ref a1), .val (.int p2), .val (.int p3), .val (.int p4)] [])) _
    refine XS.aloadN X6.here hx rfl (hb hby d2_37) rfl rfl ?_
    show Steps p.tables e below (T6.setTop (mkF m 38 #[.val (.ref a1), .val (.int p2), .val (.int p3), .val (.int p4)] [(.ref a1)])) _
    refine XS.iloadN X6.here hx rfl (hb hby d2_38) rfl ?_
    show Steps p.tables e below (T6.setTop (mkF m 39 #[.val (.ref a1), .val (.int p2), .val (.int p3), .val (.int p4)] [(.int p3), (.ref a1)])) _
    refine st7 _ ?_
    show Steps p.tables e below (T7.setTop (mkF m 42 #[.val (.ref a1), .val (.int p2), .val (.int p3), .val (.int p4)] [])) _
    refine XS.aloadN X7.here hx rfl (hb hby d2_42) rfl rfl ?_
    show Steps p.tables e below (T7.setTop (mkF m 43 #[.val (.ref a1), .val (.int p2), .val (.int p3), .val (.int p4)] [(.ref a1)])) _
    refine XS.iloadN X7.here hx rfl (hb hby d2_43) rfl ?_
    show Steps p.tables e below (T7.setTop (mkF m 44 #[.val (.ref a1), .val (.int p2), .val (.int p3), .val (.int p4)] [(.int p4), (.ref a1)])) _
    refine st8 _ ?_
    show Steps p.tables e below (T8.setTop (mkF m 47 #[.val (.ref a1), .val (.int p2), .val (.int p3), .val (.int p4)] [])) _
    exact X8.returnOut hx Bd.returns (hb hby d2_47) hr
  · show Qe Z a1 p2 p3 p4 h0 n0 _ T8.heap _
    rw [e8]
    exact ⟨rfl, N8, K8, (((E_a1.wr W6).wr W7).wr W8), ((Fw6.other W7 (Or.inr (slot_ne (Or.inr (hw _ (List.mem_of_getElem? (i := 14) rfl))) (Or.inr (hw _ (List.mem_of_getElem? (i := 16) rfl))) (by decide) (t := .int) (t' := .int) (by decide) (by decide)))).other W8 (Or.inr (slot_ne (Or.inr (hw _ (List.mem_of_getElem? (i := 14) rfl))) (Or.inr (hw _ (List.mem_of_getElem? (i := 18) rfl))) (by decide) (t := .int) (t' := .int) (by decide) (by decide)))), (Fw7.other W8 (Or.inr (slot_ne (Or.inr (hw _ (List.mem_of_getElem? (i := 16) rfl))) (Or.inr (hw _ (List.mem_of_getElem? (i := 18) rfl))) (by decide) (t := .int) (t' := .int) (by decide) (by decide)))), Fw8⟩
theorem d7_0 : decode jdk_18_method_1_code 0 = .ok (.aload_n 0, 1) := by decide +kernel
theorem d7_1 : decode jdk_18_method_1_code 1 = .ok (.invokespecial 1, 3) := by decide +kernel
theorem d7_4 : decode jdk_18_method_1_code 4 = .ok (.return_, 1) := by decide +kernel
theorem pn_7 : plainName "java/lang/Number" = true := by first | (simp [plainName, overriddenIn]; done) | decide +kernel
theorem ef_7 (m : MethodId) (x0 : Addr) : entryFrame m #[(.ref x0)] 1 = mkF m 0 #[.val (.ref x0)] [] := by first | (simp [entryFrame, mkF, argsToLocals, Value.category]; done) | rfl
set_option maxRecDepth 65536 in
set_option maxHeartbeats 40000000 in
theorem rm7 (l : Launch) (Z : State) (a0 : Array Value) (hw : ∀ d ∈ tables_1, d.before a0 Z = true) (ws : List Jvm.Cond) (a1 : Addr) (h0 : Heap) (n0 : Nat) (Z0 : n0 ≤ h0.size) :
    MetFree l (⟨"java/lang/Number", "<init>", "()V"⟩ : MethodName) (head1 (Jvm.Cond.code (⟨"java/lang/Number", "<init>", "()V"⟩ : MethodName) jdk_18_method_1_code 1 none :: ws) ({ frames := 1, cells := 0, slots := 0, locals := 12 } : Room)) (fun a U => a = #[(.ref a1)] ∧ Z.Warmed39 U.vm ∧ U.heap = h0) (fun _ _ _ _ _ => True) (fun _ U o U' => ∃ v L, o = .returned v ∧ Qv (none) h0 n0 v U'.heap L ∧ FrameEnd U o U' L ({ frames := 1, cells := 0, slots := 0, locals := 12 } : Room).cells ({ frames := 1, cells := 0, slots := 0, locals := 12 } : Room).slots) := by
  refine MetFree.of_bodySF (plainFor_of_name pn_7) hisR ?_
  intro p e s m args below meth c s₁ Bd hml0 hP hK
  obtain ⟨rfl, hZ, hh⟩ := hP
  have hx := Bd.exec
  have hby := Bd.bytes
  have hml : c.maxLocals = 1 := hml0
  have hown : s.vm.findClass "java/lang/Number" = some m.cls := findClass_of_methodNamed Bd.named
  have hnm := (name_of_methodNamed Bd.named Bd.method).1
  have X0 : Stand p l e ({ frames := 1, cells := 0, slots := 0, locals := 12 } : Room) s m #[(.ref a1)] below meth c s₁ [] 0 0 := Stand.of_body Bd
  have e0 : s₁.heap = h0 := by rw [← hh, Bd.state]; rfl
  have N0 := Fr.nil n0
  have pre0 : ∀ t, Steps p.tables e below (s₁.setTop (mkF m 0 #[.val (.ref a1)] [])) t → Steps p.tables e below (s₁.setTop (entryFrame m #[(.ref a1)] 1)) t := fun t k => castTop (ef_7 m a1) k
  -- 3. LAWS
  obtain ⟨T2, X2, e2, st2⟩ := initO X0 hx hZ hown (hw _ (List.mem_of_getElem? (i := 48) rfl)) (hw _ (List.mem_of_getElem? (i := 11) rfl)) (hw _ (List.mem_of_getElem? (i := 12) rfl)) e0 (g := (mkF m 1 #[.val (.ref a1)] [(.ref a1)])) rfl (by rw [hml]; rfl) rfl (hb hby d7_1) (by decide) (W := 0) (by show 2 * 0 + _ ≤ _; exact Nat.le_of_eq rfl) (by decide)
  obtain ⟨fs, hr, hrun, hended, hW, hsame⟩ := X2.leave (v := none) (fun _ => rfl)
  refine ⟨_, _, pre0 _ ?_, hrun, hended, _, _, rfl, ?_, ⟨_, rfl⟩, hW, hsame.mono (by decide) (by decide)⟩
  -- 4. STEPS
  · show Steps p.tables e below (s₁.setTop (mkF m 0 #[.val (.ref a1)] [])) _
    refine XS.aloadN X0.here hx rfl (hb hby d7_0) rfl rfl ?_
    show Steps p.tables e below (s₁.setTop (mkF m 1 #[.val (.ref a1)] [(.ref a1)])) _
    refine st2 _ ?_
    show Steps p.tables e below (T2.setTop (mkF m 4 #[.val (.ref a1)] [])) _
    exact X2.returnOut hx Bd.returns (hb hby d7_4) hr
  · show Qv (none) h0 n0 _ T2.heap _
    rw [e2]
    exact ⟨rfl, N0, rfl⟩
theorem d6_0 : decode jdk_33_method_23_code 0 = .ok (.aload_n 0, 1) := by decide +kernel
theorem d6_1 : decode jdk_33_method_23_code 1 = .ok (.invokespecial 202, 3) := by decide +kernel
theorem d6_4 : decode jdk_33_method_23_code 4 = .ok (.aload_n 0, 1) := by decide +kernel
theorem d6_5 : decode jdk_33_method_23_code 5 = .ok (.iload_n 1, 1) := by decide +kernel
theorem d6_6 : decode jdk_33_method_23_code 6 = .ok (.putfield 205, 3) := by decide +kernel
theorem d6_9 : decode jdk_33_method_23_code 9 = .ok (.return_, 1) := by decide +kernel
theorem pn_6 : plainName "java/lang/Integer" = true := by first | (simp [plainName, overriddenIn]; done) | decide +kernel
theorem pd_6_2 : parseMethodDescriptor "()V" = some ⟨[], none⟩ := by decide +kernel
theorem ef_6 (m : MethodId) (x0 : Addr) (x1 : Int32) : entryFrame m #[(.ref x0), (.int x1)] 2 = mkF m 0 #[.val (.ref x0), .val (.int x1)] [] := by first | (simp [entryFrame, mkF, argsToLocals, Value.category]; done) | rfl
set_option maxRecDepth 65536 in
set_option maxHeartbeats 40000000 in
theorem rm6 (l : Launch) (Z : State) (a0 : Array Value) (hw : ∀ d ∈ tables_1, d.before a0 Z = true) (ws : List Jvm.Cond) (a1 : Addr) (p2 : Int32) (u_value_a1 : Value) (h0 : Heap) (n0 : Nat) (Z0 : n0 ≤ h0.size) (E_a1 : Exa Z h0 a1 "java/lang/Integer") (F_value_a1 : Fld Z h0 a1 "java/lang/Integer" "value" "I" u_value_a1) (g_a1 : n0 ≤ a1) :
    MetFree l (⟨"java/lang/Integer", "<init>", "(I)V"⟩ : MethodName) (head1 (Jvm.Cond.code (⟨"java/lang/Integer", "<init>", "(I)V"⟩ : MethodName) jdk_33_method_23_code 2 none :: ws) ({ frames := 2, cells := 0, slots := 0, locals := 24 } : Room)) (fun a U => a = #[(.ref a1), (.int p2)] ∧ Z.Warmed39 U.vm ∧ U.heap = h0) (fun _ _ _ _ _ => True) (fun _ U o U' => ∃ v L, o = .returned v ∧ Qi Z a1 h0 n0 v U'.heap L ∧ FrameEnd U o U' L ({ frames := 2, cells := 0, slots := 0, locals := 24 } : Room).cells ({ frames := 2, cells := 0, slots := 0, locals := 24 } : Room).slots) := by
  refine MetFree.of_bodySF (plainFor_of_name pn_6) hisR ?_
  intro p e s m args below meth c s₁ Bd hml0 hP hK
  obtain ⟨rfl, hZ, hh⟩ := hP
  have hx := Bd.exec
  have hby := Bd.bytes
  have hml : c.maxLocals = 2 := hml0
  have hown : s.vm.findClass "java/lang/Integer" = some m.cls := findClass_of_methodNamed Bd.named
  have hnm := (name_of_methodNamed Bd.named Bd.method).1
  have X0 : Stand p l e ({ frames := 2, cells := 0, slots := 0, locals := 24 } : Room) s m #[(.ref a1), (.int p2)] below meth c s₁ [] 0 0 := Stand.of_body Bd
  have e0 : s₁.heap = h0 := by rw [← hh, Bd.state]; rfl
  have N0 := Fr.nil n0
  have pre0 : ∀ t, Steps p.tables e below (s₁.setTop (mkF m 0 #[.val (.ref a1), .val (.int p2)] [])) t → Steps p.tables e below (s₁.setTop (entryFrame m #[(.ref a1), (.int p2)] 2)) t := fun t k => castTop (ef_6 m a1 p2) k
  -- 3. LAWS
  -- pc 1: the constructor of java/lang/Number by its contract rm7
  obtain ⟨_, _, ⟨T3, L3, k3, n3⟩, -, X3, ⟨Lc3, hQ3, l3, y3, z3⟩, st3⟩ := X0.specialBack hx (y := (⟨"java/lang/Number", "<init>", "()V"⟩ : MethodName)) rfl hown (mvT hZ (hw _ (List.mem_of_getElem? (i := 42) rfl))) (mvT hZ (hw _ (List.mem_of_getElem? (i := 43) rfl))) (mvT hZ (hw _ (List.mem_of_getElem? (i := 47) rfl))) (by decide) (backOf (W := 0) (rm7 l Z a0 hw [] a1 h0 n0 Z0) hZ (hw _ (List.mem_of_getElem? (i := 47) rfl)) (hw _ (List.mem_of_getElem? (i := 46) rfl)) (by decide) (by decide)) (g := (mkF m 1 #[.val (.ref a1), .val (.int p2)] [(.ref a1)])) rfl (by rw [hml]; rfl) (Steps.refl _) (a := a1) (argsL := []) (rest := []) (lenOf pd_6_2 rfl) rfl (by show 2 * 0 + _ ≤ _; exact Nat.le_of_eq rfl) (hb hby d6_1) (fun _ _ => ⟨rfl, e0, (by decide : 0 + 0 ≤ _), (by decide : 0 + 0 ≤ _)⟩)
  dsimp only [Pt.U, Pt.locs, Pt.cells, Pt.slots] at X3 l3 y3 z3 st3 hQ3
  subst l3 y3 z3
  obtain ⟨rfl, N3q, e3⟩ := hQ3
  have N3 := Fr.app N0 N3q
  have Kc3 : Keep h0 T3.heap [] := own_kp e3
  have Kh3 : Keep h0 T3.heap [a1] := e3 ▸ Keep.refl _ _
  obtain ⟨T4, h4, X4, e4, W4, st4⟩ := putF X3 hx hZ hown (host := "") (Or.inl (hw _ (List.mem_of_getElem? (i := 49) rfl))) Via.refl rfl (F_value_a1.keep Kc3 nin0) (E_a1.keep Kc3) (Or.inr ⟨(hw _ (List.mem_of_getElem? (i := 50) rfl)), rfl, hnm⟩) (hw _ (List.mem_of_getElem? (i := 37) rfl)) (ty := .int) (by decide) rfl rfl (g := (mkF m 6 #[.val (.ref a1), .val (.int p2)] [(.int p2), (.ref a1)])) rfl rfl (hb hby d6_6)
  have Fw4 := (F_value_a1.keep Kc3 nin0).same W4      -- the field now holds (.int p2)
  have K4 : Keep h0 h4 [a1] := Kh3.wr W4 (Or.inl (List.mem_of_getElem? (i := 0) rfl))
  have N4 := Fr.snoc X4 N3 g_a1
  obtain ⟨fs, hr, hrun, hended, hW, hsame⟩ := X4.leave (v := none) (fun _ => rfl)
  refine ⟨_, _, pre0 _ ?_, hrun, hended, _, _, rfl, ?_, ⟨_, rfl⟩, hW, hsame.mono (by decide) (by decide)⟩
  -- 4. STEPS
  · show Steps p.tables e below (s₁.setTop (mkF m 0 #[.val (.ref a1), .val (.int p2)] [])) _
    refine XS.aloadN X0.here hx rfl (hb hby d6_0) rfl rfl ?_
    show Steps p.tables e below (s₁.setTop (mkF m 1 #[.val (.ref a1), .val (.int p2)] [(.ref a1)])) _
    refine st3.trans ?_
    show Steps p.tables e below (T3.setTop (mkF m 4 #[.val (.ref a1), .val (.int p2)] [])) _
    refine XS.aloadN X3.here hx rfl (hb hby d6_4) rfl rfl ?_
    show Steps p.tables e below (T3.setTop (mkF m 5 #[.val (.ref a1), .val (.int p2)] [(.ref a1)])) _
    refine XS.iloadN X3.here hx rfl (hb hby d6_5) rfl ?_
    show Steps p.tables e below (T3.setTop (mkF m 6 #[.val (.ref a1), .val (.int p2)] [(.int p2), (.ref a1)])) _
    refine st4 _ ?_
    show Steps p.tables e below (T4.setTop (mkF m 9 #[.val (.ref a1), .val (.int p2)] [])) _
    exact X4.returnOut hx Bd.returns (hb hby d6_9) hr
  · show Qi Z a1 h0 n0 _ T4.heap _
    rw [e4]
    exact ⟨rfl, N4, K4, ((E_a1.keep Kc3).wr W4)⟩
theorem d4_0 : decode jdk_33_method_22_code 0 = .ok (.iload_n 0, 1) := by decide +kernel
theorem d4_1 : decode jdk_33_method_22_code 1 = .ok (.bipush (-128), 2) := by decide +kernel
theorem d4_3 : decode jdk_33_method_22_code 3 = .ok (.if_icmp .lt 20, 3) := by decide +kernel
theorem d4_6 : decode jdk_33_method_22_code 6 = .ok (.iload_n 0, 1) := by decide +kernel
theorem d4_7 : decode jdk_33_method_22_code 7 = .ok (.getstatic 191, 3) := by decide +kernel
theorem d4_10 : decode jdk_33_method_22_code 10 = .ok (.if_icmp .gt 13, 3) := by decide +kernel
theorem d4_13 : decode jdk_33_method_22_code 13 = .ok (.getstatic 195, 3) := by decide +kernel
theorem d4_16 : decode jdk_33_method_22_code 16 = .ok (.iload_n 0, 1) := by decide +kernel
theorem d4_17 : decode jdk_33_method_22_code 17 = .ok (.sipush 128, 3) := by decide +kernel
theorem d4_20 : decode jdk_33_method_22_code 20 = .ok (.iadd, 1) := by decide +kernel
theorem d4_21 : decode jdk_33_method_22_code 21 = .ok (.aaload, 1) := by decide +kernel
theorem d4_22 : decode jdk_33_method_22_code 22 = .ok (.areturn, 1) := by decide +kernel
theorem pn_4 : plainName "java/lang/Integer" = true := by first | (simp [plainName, overriddenIn]; done) | decide +kernel
theorem ef_4 (m : MethodId) (x0 : Int32) : entryFrame m #[(.int x0)] 1 = mkF m 0 #[.val (.int x0)] [] := by first | (simp [entryFrame, mkF, argsToLocals, Value.category]; done) | rfl
set_option maxRecDepth 65536 in
set_option maxHeartbeats 40000000 in
theorem rm4_ff (l : Launch) (Z : State) (a0 : Array Value) (hw : ∀ d ∈ tables_1, d.before a0 Z = true) (ws : List Jvm.Cond) (p1 : Int32) (w2 : Int32) (w4 : Addr) (w6 : Addr) (cl_w4 : Cell) (h0 : Heap) (n0 : Nat) (Z0 : n0 ≤ h0.size) (E6 : Exa Z h0 w6 "java/lang/Integer") (S_high : Sta Z h0 "java/lang/Integer$IntegerCache" "high" "I" (.int w2)) (S_cache : Sta Z h0 "java/lang/Integer$IntegerCache" "cache" "[Ljava/lang/Integer;" (.ref w4)) (Ar_w4 : Arr Z h0 w4 cl_w4 (.object "java/lang/Integer")) (hin21 : ¬ ((p1 + (128 : Int32)) < 0 ∨ cl_w4.slots.size ≤ ((p1 + (128 : Int32))).toNatClampNeg)) (hat21 : cl_w4.slots[((p1 + (128 : Int32))).toNatClampNeg]? = some (.ref w6)) (hc3 : ¬ (p1 < (-128 : Int32))) (hc10 : ¬ (w2 < p1)) :
    MetFree l (⟨"java/lang/Integer", "valueOf", "(I)Ljava/lang/Integer;"⟩ : MethodName) (head1 (Jvm.Cond.code (⟨"java/lang/Integer", "valueOf", "(I)Ljava/lang/Integer;"⟩ : MethodName) jdk_33_method_22_code 1 (some (.object "java/lang/Integer")) :: ws) ({ frames := 3, cells := 1, slots := 1, locals := 38 } : Room)) (fun a U => a = #[(.int p1)] ∧ Z.Warmed39 U.vm ∧ U.heap = h0) (fun _ _ _ _ _ => True) (fun _ U o U' => ∃ v L, o = .returned v ∧ Qo Z h0 n0 v U'.heap L ∧ FrameEnd U o U' L ({ frames := 3, cells := 1, slots := 1, locals := 38 } : Room).cells ({ frames := 3, cells := 1, slots := 1, locals := 38 } : Room).slots) := by
  refine MetFree.of_bodySF (plainFor_of_name pn_4) hisR ?_
  intro p e s m args below meth c s₁ Bd hml0 hP hK
  obtain ⟨rfl, hZ, hh⟩ := hP
  have hx := Bd.exec
  have hby := Bd.bytes
  have hml : c.maxLocals = 1 := hml0
  have hown : s.vm.findClass "java/lang/Integer" = some m.cls := findClass_of_methodNamed Bd.named
  have hnm := (name_of_methodNamed Bd.named Bd.method).1
  have X0 : Stand p l e ({ frames := 3, cells := 1, slots := 1, locals := 38 } : Room) s m #[(.int p1)] below meth c s₁ [] 0 0 := Stand.of_body Bd
  have e0 : s₁.heap = h0 := by rw [← hh, Bd.state]; rfl
  have N0 := Fr.nil n0
  have pre0 : ∀ t, Steps p.tables e below (s₁.setTop (mkF m 0 #[.val (.int p1)] [])) t → Steps p.tables e below (s₁.setTop (entryFrame m #[(.int p1)] 1)) t := fun t k => castTop (ef_4 m p1) k
  -- 3. LAWS
  obtain ⟨T3, X3, e3, st3⟩ := getS2 X0 hx hZ hown (host := "") (Or.inl (hw _ (List.mem_of_getElem? (i := 23) rfl))) Via.refl e0 S_high (g := (mkF m 7 #[.val (.int p1)] [(.int p1)])) rfl (hb hby d4_7)
  obtain ⟨T5, X5, e5, st5⟩ := getS2 X3 hx hZ hown (host := "") (Or.inl (hw _ (List.mem_of_getElem? (i := 25) rfl))) Via.refl e3 S_cache (g := (mkF m 13 #[.val (.int p1)] [])) rfl (hb hby d4_13)
  obtain ⟨fs, hr, hrun, hended, hW, hsame⟩ := X5.leave (v := some (.ref w6)) (fun h => by rw [Bd.returns] at h; cases h)
  refine ⟨_, _, pre0 _ ?_, hrun, hended, _, _, rfl, ?_, ⟨_, rfl⟩, hW, hsame.mono (by decide) (by decide)⟩
  -- 4. STEPS
  · show Steps p.tables e below (s₁.setTop (mkF m 0 #[.val (.int p1)] [])) _
    refine XS.iloadN X0.here hx rfl (hb hby d4_0) rfl ?_
    show Steps p.tables e below (s₁.setTop (mkF m 1 #[.val (.int p1)] [(.int p1)])) _
    refine XS.bipush X0.here hx rfl (hb hby d4_1) ?_
    show Steps p.tables e below (s₁.setTop (mkF m 3 #[.val (.int p1)] [(.int (-128 : Int32)), (.int p1)])) _
    refine XS.icmpNo X0.here hx rfl (hb hby d4_3) rfl (flt hc3).1 ?_
    show Steps p.tables e below (s₁.setTop (mkF m 6 #[.val (.int p1)] [])) _
    refine XS.iloadN X0.here hx rfl (hb hby d4_6) rfl ?_
    show Steps p.tables e below (s₁.setTop (mkF m 7 #[.val (.int p1)] [(.int p1)])) _
    refine st3 _ ?_
    show Steps p.tables e below (T3.setTop (mkF m 10 #[.val (.int p1)] [(.int w2), (.int p1)])) _
    refine XS.icmpNo X3.here hx rfl (hb hby d4_10) rfl (flt hc10).2.2.1 ?_
    show Steps p.tables e below (T3.setTop (mkF m 13 #[.val (.int p1)] [])) _
    refine st5 _ ?_
    show Steps p.tables e below (T5.setTop (mkF m 16 #[.val (.int p1)] [(.ref w4)])) _
    refine XS.iloadN X5.here hx rfl (hb hby d4_16) rfl ?_
    show Steps p.tables e below (T5.setTop (mkF m 17 #[.val (.int p1)] [(.int p1), (.ref w4)])) _
    refine XS.sipush X5.here hx rfl (hb hby d4_17) ?_
    show Steps p.tables e below (T5.setTop (mkF m 20 #[.val (.int p1)] [(.int (128 : Int32)), (.int p1), (.ref w4)])) _
    refine XS.iadd X5.here hx rfl (hb hby d4_20) rfl ?_
    show Steps p.tables e below (T5.setTop (mkF m 21 #[.val (.int p1)] [(.int (p1 + (128 : Int32))), (.ref w4)])) _
    refine X5.aaload hx (j := (p1 + (128 : Int32))) (v := (.ref w6)) (by rw [e5]; exact Ar_w4.1) (State.isArrayOf_alike hZ.alike Ar_w4.2.1) rfl Ar_w4.2.2 hin21 hat21 (g := (mkF m 21 #[.val (.int p1)] [(.int (p1 + (128 : Int32))), (.ref w4)])) rfl rfl (hb hby d4_21) _ ?_
    show Steps p.tables e below (T5.setTop (mkF m 22 #[.val (.int p1)] [(.ref w6)])) _
    jvm_step X5.here [X5.here.top, hx, (hb hby d4_22), X5.method', Bd.returns, Value.isRef, FieldType.isReference]
    first | (intro acts; rw [hr _ acts rfl rfl rfl]) | rw [hr _ _ rfl rfl rfl]
    exact Steps.refl _
  · show Qo Z h0 n0 _ T5.heap _
    rw [e5]
    exact ⟨w6, rfl, N0, Keep.refl _ _, E6⟩
theorem d4_23 : decode jdk_33_method_22_code 23 = .ok (.new 1, 3) := by decide +kernel
theorem d4_26 : decode jdk_33_method_22_code 26 = .ok (.dup, 1) := by decide +kernel
theorem d4_27 : decode jdk_33_method_22_code 27 = .ok (.iload_n 0, 1) := by decide +kernel
theorem d4_28 : decode jdk_33_method_22_code 28 = .ok (.invokespecial 199, 3) := by decide +kernel
theorem d4_31 : decode jdk_33_method_22_code 31 = .ok (.areturn, 1) := by decide +kernel
theorem pd_4_5 : parseMethodDescriptor "(I)V" = some ⟨[.int], none⟩ := by decide +kernel
set_option maxRecDepth 65536 in
set_option maxHeartbeats 40000000 in
theorem rm4_t (l : Launch) (Z : State) (a0 : Array Value) (hw : ∀ d ∈ tables_1, d.before a0 Z = true) (ws : List Jvm.Cond) (p1 : Int32) (h0 : Heap) (n0 : Nat) (Z0 : n0 ≤ h0.size) (hc3 : p1 < (-128 : Int32)) :
    MetFree l (⟨"java/lang/Integer", "valueOf", "(I)Ljava/lang/Integer;"⟩ : MethodName) (head1 (Jvm.Cond.code (⟨"java/lang/Integer", "valueOf", "(I)Ljava/lang/Integer;"⟩ : MethodName) jdk_33_method_22_code 1 (some (.object "java/lang/Integer")) :: ws) ({ frames := 3, cells := 1, slots := 1, locals := 38 } : Room)) (fun a U => a = #[(.int p1)] ∧ Z.Warmed39 U.vm ∧ U.heap = h0) (fun _ _ _ _ _ => True) (fun _ U o U' => ∃ v L, o = .returned v ∧ Qo Z h0 n0 v U'.heap L ∧ FrameEnd U o U' L ({ frames := 3, cells := 1, slots := 1, locals := 38 } : Room).cells ({ frames := 3, cells := 1, slots := 1, locals := 38 } : Room).slots) := by
  refine MetFree.of_bodySF (plainFor_of_name pn_4) hisR ?_
  intro p e s m args below meth c s₁ Bd hml0 hP hK
  obtain ⟨rfl, hZ, hh⟩ := hP
  have hx := Bd.exec
  have hby := Bd.bytes
  have hml : c.maxLocals = 1 := hml0
  have hown : s.vm.findClass "java/lang/Integer" = some m.cls := findClass_of_methodNamed Bd.named
  have hnm := (name_of_methodNamed Bd.named Bd.method).1
  have X0 : Stand p l e ({ frames := 3, cells := 1, slots := 1, locals := 38 } : Room) s m #[(.int p1)] below meth c s₁ [] 0 0 := Stand.of_body Bd
  have e0 : s₁.heap = h0 := by rw [← hh, Bd.state]; rfl
  have N0 := Fr.nil n0
  have pre0 : ∀ t, Steps p.tables e below (s₁.setTop (mkF m 0 #[.val (.int p1)] [])) t → Steps p.tables e below (s₁.setTop (entryFrame m #[(.int p1)] 1)) t := fun t k => castTop (ef_4 m p1) k
  -- 3. LAWS
  obtain ⟨T2, h2, X2, e2, E2, A2, D2, -, st2⟩ := newO X0 hx hZ hown (hw _ (List.mem_of_getElem? (i := 36) rfl)) (hw _ (List.mem_of_getElem? (i := 37) rfl)) (hw _ (List.mem_of_getElem? (i := 21) rfl)) e0 (g := (mkF m 23 #[.val (.int p1)] [])) rfl (hb hby d4_23) (by decide) (by decide)
  obtain ⟨b2, g2⟩ : ∃ z, z = h0.size := ⟨_, rfl⟩      -- the fresh object's address
  rw [← g2] at A2 D2 st2      -- A2 : Exa Z h2 b2 "java/lang/Integer"; E2 : Ext h0 h2 (carries every older fact: .ext E2)
  have F_value_b2 : Fld Z h2 b2 "java/lang/Integer" "value" "I" (.int (0 : Int32)) := D2 (Or.inr (hw _ (List.mem_of_getElem? (i := 50) rfl))) (ty := .int) (by decide)
  have E_b2 := A2
  have g_b2 : n0 ≤ b2 := Nat.le_trans Z0 (Nat.le_of_eq g2.symm)
  have sz_b2 : h0.size ≤ b2 := (Nat.le_trans (Keep.refl h0 []).1 (Nat.le_of_eq g2.symm))
  have K2 : Keep h0 h2 [] := (Keep.refl h0 []).ext E2
  -- pc 28: the constructor of java/lang/Integer by its contract rm6
  obtain ⟨_, _, ⟨T3, L3, k3, n3⟩, -, X3, ⟨Lc3, hQ3, l3, y3, z3⟩, st3⟩ := X2.specialBack hx (y := (⟨"java/lang/Integer", "<init>", "(I)V"⟩ : MethodName)) rfl hown (mvT hZ (hw _ (List.mem_of_getElem? (i := 38) rfl))) (mvT hZ (hw _ (List.mem_of_getElem? (i := 39) rfl))) (mvT hZ (hw _ (List.mem_of_getElem? (i := 41) rfl))) (by decide) (backOf (W := 1) (rm6 l Z a0 hw [] b2 p1 (.int (0 : Int32)) h2 n0 (Nat.le_trans Z0 K2.1) E_b2 F_value_b2 g_b2) hZ (hw _ (List.mem_of_getElem? (i := 41) rfl)) (hw _ (List.mem_of_getElem? (i := 21) rfl)) (by decide) (by decide)) (g := (mkF m 28 #[.val (.int p1)] [(.int p1), (.ref b2), (.ref b2)])) rfl (by rw [hml]; rfl) (Steps.refl _) (a := b2) (argsL := [(.int p1)]) (rest := [(.ref b2)]) (lenOf pd_4_5 rfl) rfl (by show 2 * 0 + _ ≤ _; exact Nat.le_of_eq rfl) (hb hby d4_28) (fun _ _ => ⟨rfl, e2, (by decide : 1 + 0 ≤ _), (by decide : 1 + 0 ≤ _)⟩)
  dsimp only [Pt.U, Pt.locs, Pt.cells, Pt.slots] at X3 l3 y3 z3 st3 hQ3
  subst l3 y3 z3
  obtain ⟨rfl, N3q, Kc3, EE3⟩ := hQ3
  have N3 := Fr.app N0 N3q
  have Kh3 : Keep h0 T3.heap [] := K2.trans Kc3 (allS (Or.inr sz_b2) all0)
  obtain ⟨fs, hr, hrun, hended, hW, hsame⟩ := X3.leave (v := some (.ref b2)) (fun h => by rw [Bd.returns] at h; cases h)
  refine ⟨_, _, pre0 _ ?_, hrun, hended, _, _, rfl, ?_, ⟨_, rfl⟩, hW, hsame.mono (by decide) (by decide)⟩
  -- 4. STEPS
  · show Steps p.tables e below (s₁.setTop (mkF m 0 #[.val (.int p1)] [])) _
    refine XS.iloadN X0.here hx rfl (hb hby d4_0) rfl ?_
    show Steps p.tables e below (s₁.setTop (mkF m 1 #[.val (.int p1)] [(.int p1)])) _
    refine XS.bipush X0.here hx rfl (hb hby d4_1) ?_
    show Steps p.tables e below (s₁.setTop (mkF m 3 #[.val (.int p1)] [(.int (-128 : Int32)), (.int p1)])) _
    refine XS.icmpYes X0.here hx rfl (pc0 := 3) (pc' := 23) rfl (hb hby d4_3) rfl (tlt hc3).1 (by decide) (by decide) ?_
    show Steps p.tables e below (s₁.setTop (mkF m 23 #[.val (.int p1)] [])) _
    refine st2 _ ?_
    show Steps p.tables e below (T2.setTop (mkF m 26 #[.val (.int p1)] [(.ref b2)])) _
    refine XS.dup X2.here hx rfl (hb hby d4_26) rfl rfl ?_
    show Steps p.tables e below (T2.setTop (mkF m 27 #[.val (.int p1)] [(.ref b2), (.ref b2)])) _
    refine XS.iloadN X2.here hx rfl (hb hby d4_27) rfl ?_
    show Steps p.tables e below (T2.setTop (mkF m 28 #[.val (.int p1)] [(.int p1), (.ref b2), (.ref b2)])) _
    refine st3.trans ?_
    show Steps p.tables e below (T3.setTop (mkF m 31 #[.val (.int p1)] [(.ref b2)])) _
    jvm_step X3.here [X3.here.top, hx, (hb hby d4_31), X3.method', Bd.returns, Value.isRef, FieldType.isReference]
    first | (intro acts; rw [hr _ acts rfl rfl rfl]) | rw [hr _ _ rfl rfl rfl]
    exact Steps.refl _
  · show Qo Z h0 n0 _ T3.heap _
    exact ⟨b2, rfl, N3, Kh3, EE3⟩
set_option maxRecDepth 65536 in
set_option maxHeartbeats 40000000 in
theorem rm4_ft (l : Launch) (Z : State) (a0 : Array Value) (hw : ∀ d ∈ tables_1, d.before a0 Z = true) (ws : List Jvm.Cond) (p1 : Int32) (w2 : Int32) (h0 : Heap) (n0 : Nat) (Z0 : n0 ≤ h0.size) (S_high : Sta Z h0 "java/lang/Integer$IntegerCache" "high" "I" (.int w2)) (hc3 : ¬ (p1 < (-128 : Int32))) (hc10 : w2 < p1) :
    MetFree l (⟨"java/lang/Integer", "valueOf", "(I)Ljava/lang/Integer;"⟩ : MethodName) (head1 (Jvm.Cond.code (⟨"java/lang/Integer", "valueOf", "(I)Ljava/lang/Integer;"⟩ : MethodName) jdk_33_method_22_code 1 (some (.object "java/lang/Integer")) :: ws) ({ frames := 3, cells := 1, slots := 1, locals := 38 } : Room)) (fun a U => a = #[(.int p1)] ∧ Z.Warmed39 U.vm ∧ U.heap = h0) (fun _ _ _ _ _ => True) (fun _ U o U' => ∃ v L, o = .returned v ∧ Qo Z h0 n0 v U'.heap L ∧ FrameEnd U o U' L ({ frames := 3, cells := 1, slots := 1, locals := 38 } : Room).cells ({ frames := 3, cells := 1, slots := 1, locals := 38 } : Room).slots) := by
  refine MetFree.of_bodySF (plainFor_of_name pn_4) hisR ?_
  intro p e s m args below meth c s₁ Bd hml0 hP hK
  obtain ⟨rfl, hZ, hh⟩ := hP
  have hx := Bd.exec
  have hby := Bd.bytes
  have hml : c.maxLocals = 1 := hml0
  have hown : s.vm.findClass "java/lang/Integer" = some m.cls := findClass_of_methodNamed Bd.named
  have hnm := (name_of_methodNamed Bd.named Bd.method).1
  have X0 : Stand p l e ({ frames := 3, cells := 1, slots := 1, locals := 38 } : Room) s m #[(.int p1)] below meth c s₁ [] 0 0 := Stand.of_body Bd
  have e0 : s₁.heap = h0 := by rw [← hh, Bd.state]; rfl
  have N0 := Fr.nil n0
  have pre0 : ∀ t, Steps p.tables e below (s₁.setTop (mkF m 0 #[.val (.int p1)] [])) t → Steps p.tables e below (s₁.setTop (entryFrame m #[(.int p1)] 1)) t := fun t k => castTop (ef_4 m p1) k
  -- 3. LAWS
  obtain ⟨T3, X3, e3, st3⟩ := getS2 X0 hx hZ hown (host := "") (Or.inl (hw _ (List.mem_of_getElem? (i := 23) rfl))) Via.refl e0 S_high (g := (mkF m 7 #[.val (.int p1)] [(.int p1)])) rfl (hb hby d4_7)
  obtain ⟨T4, h4, X4, e4, E4, A4, D4, -, st4⟩ := newO X3 hx hZ hown (hw _ (List.mem_of_getElem? (i := 36) rfl)) (hw _ (List.mem_of_getElem? (i := 37) rfl)) (hw _ (List.mem_of_getElem? (i := 21) rfl)) e3 (g := (mkF m 23 #[.val (.int p1)] [])) rfl (hb hby d4_23) (by decide) (by decide)
  obtain ⟨b4, g4⟩ : ∃ z, z = h0.size := ⟨_, rfl⟩      -- the fresh object's address
  rw [← g4] at A4 D4 st4      -- A4 : Exa Z h4 b4 "java/lang/Integer"; E4 : Ext h0 h4 (carries every older fact: .ext E4)
  have F_value_b4 : Fld Z h4 b4 "java/lang/Integer" "value" "I" (.int (0 : Int32)) := D4 (Or.inr (hw _ (List.mem_of_getElem? (i := 50) rfl))) (ty := .int) (by decide)
  have E_b4 := A4
  have g_b4 : n0 ≤ b4 := Nat.le_trans Z0 (Nat.le_of_eq g4.symm)
  have sz_b4 : h0.size ≤ b4 := (Nat.le_trans (Keep.refl h0 []).1 (Nat.le_of_eq g4.symm))
  have K4 : Keep h0 h4 [] := (Keep.refl h0 []).ext E4
  -- pc 28: the constructor of java/lang/Integer by its contract rm6
  obtain ⟨_, _, ⟨T5, L5, k5, n5⟩, -, X5, ⟨Lc5, hQ5, l5, y5, z5⟩, st5⟩ := X4.specialBack hx (y := (⟨"java/lang/Integer", "<init>", "(I)V"⟩ : MethodName)) rfl hown (mvT hZ (hw _ (List.mem_of_getElem? (i := 38) rfl))) (mvT hZ (hw _ (List.mem_of_getElem? (i := 39) rfl))) (mvT hZ (hw _ (List.mem_of_getElem? (i := 41) rfl))) (by decide) (backOf (W := 1) (rm6 l Z a0 hw [] b4 p1 (.int (0 : Int32)) h4 n0 (Nat.le_trans Z0 K4.1) E_b4 F_value_b4 g_b4) hZ (hw _ (List.mem_of_getElem? (i := 41) rfl)) (hw _ (List.mem_of_getElem? (i := 21) rfl)) (by decide) (by decide)) (g := (mkF m 28 #[.val (.int p1)] [(.int p1), (.ref b4), (.ref b4)])) rfl (by rw [hml]; rfl) (Steps.refl _) (a := b4) (argsL := [(.int p1)]) (rest := [(.ref b4)]) (lenOf pd_4_5 rfl) rfl (by show 2 * 0 + _ ≤ _; exact Nat.le_of_eq rfl) (hb hby d4_28) (fun _ _ => ⟨rfl, e4, (by decide : 1 + 0 ≤ _), (by decide : 1 + 0 ≤ _)⟩)
  dsimp only [Pt.U, Pt.locs, Pt.cells, Pt.slots] at X5 l5 y5 z5 st5 hQ5
  subst l5 y5 z5
  obtain ⟨rfl, N5q, Kc5, EE5⟩ := hQ5
  have N5 := Fr.app N0 N5q
  have Kh5 : Keep h0 T5.heap [] := K4.trans Kc5 (allS (Or.inr sz_b4) all0)
  obtain ⟨fs, hr, hrun, hended, hW, hsame⟩ := X5.leave (v := some (.ref b4)) (fun h => by rw [Bd.returns] at h; cases h)
  refine ⟨_, _, pre0 _ ?_, hrun, hended, _, _, rfl, ?_, ⟨_, rfl⟩, hW, hsame.mono (by decide) (by decide)⟩
  -- 4. STEPS
  · show Steps p.tables e below (s₁.setTop (mkF m 0 #[.val (.int p1)] [])) _
    refine XS.iloadN X0.here hx rfl (hb hby d4_0) rfl ?_
    show Steps p.tables e below (s₁.setTop (mkF m 1 #[.val (.int p1)] [(.int p1)])) _
    refine XS.bipush X0.here hx rfl (hb hby d4_1) ?_
    show Steps p.tables e below (s₁.setTop (mkF m 3 #[.val (.int p1)] [(.int (-128 : Int32)), (.int p1)])) _
    refine XS.icmpNo X0.here hx rfl (hb hby d4_3) rfl (flt hc3).1 ?_
    show Steps p.tables e below (s₁.setTop (mkF m 6 #[.val (.int p1)] [])) _
    refine XS.iloadN X0.here hx rfl (hb hby d4_6) rfl ?_
    show Steps p.tables e below (s₁.setTop (mkF m 7 #[.val (.int p1)] [(.int p1)])) _
    refine st3 _ ?_
    show Steps p.tables e below (T3.setTop (mkF m 10 #[.val (.int p1)] [(.int w2), (.int p1)])) _
    refine XS.icmpYes X3.here hx rfl (pc0 := 10) (pc' := 23) rfl (hb hby d4_10) rfl (tlt hc10).2.2.1 (by decide) (by decide) ?_
    show Steps p.tables e below (T3.setTop (mkF m 23 #[.val (.int p1)] [])) _
    refine st4 _ ?_
    show Steps p.tables e below (T4.setTop (mkF m 26 #[.val (.int p1)] [(.ref b4)])) _
    refine XS.dup X4.here hx rfl (hb hby d4_26) rfl rfl ?_
    show Steps p.tables e below (T4.setTop (mkF m 27 #[.val (.int p1)] [(.ref b4), (.ref b4)])) _
    refine XS.iloadN X4.here hx rfl (hb hby d4_27) rfl ?_
    show Steps p.tables e below (T4.setTop (mkF m 28 #[.val (.int p1)] [(.int p1), (.ref b4), (.ref b4)])) _
    refine st5.trans ?_
    show Steps p.tables e below (T5.setTop (mkF m 31 #[.val (.int p1)] [(.ref b4)])) _
    jvm_step X5.here [X5.here.top, hx, (hb hby d4_31), X5.method', Bd.returns, Value.isRef, FieldType.isReference]
    first | (intro acts; rw [hr _ acts rfl rfl rfl]) | rw [hr _ _ rfl rfl rfl]
    exact Steps.refl _
  · show Qo Z h0 n0 _ T5.heap _
    exact ⟨b4, rfl, N5, Kh5, EE5⟩
theorem rm4 (l : Launch) (Z : State) (a0 : Array Value) (hw : ∀ d ∈ tables_1, d.before a0 Z = true) (ws : List Jvm.Cond) (p1 : Int32) (w4 : Addr) (cl : Cell) (h0 : Heap) (n0 : Nat) (Z0 : n0 ≤ h0.size) (SH : Sta Z h0 "java/lang/Integer$IntegerCache" "high" "I" (.int (127 : Int32))) (SC : Sta Z h0 "java/lang/Integer$IntegerCache" "cache" "[Ljava/lang/Integer;" (.ref w4)) (A : Arr Z h0 w4 cl (.object "java/lang/Integer")) (hsz : cl.slots.size = 256) (B : ∀ j : Int32, ¬ (j < 0 ∨ cl.slots.size ≤ j.toNatClampNeg) → ∃ b : Addr, cl.slots[j.toNatClampNeg]? = some (.ref b) ∧ Exa Z h0 b "java/lang/Integer") :
    MetFree l (⟨"java/lang/Integer", "valueOf", "(I)Ljava/lang/Integer;"⟩ : MethodName) (head1 (Jvm.Cond.code (⟨"java/lang/Integer", "valueOf", "(I)Ljava/lang/Integer;"⟩ : MethodName) jdk_33_method_22_code 1 (some (.object "java/lang/Integer")) :: ws) ({ frames := 3, cells := 1, slots := 1, locals := 38 } : Room)) (fun a U => a = #[(.int p1)] ∧ Z.Warmed39 U.vm ∧ U.heap = h0) (fun _ _ _ _ _ => True) (fun _ U o U' => ∃ v L, o = .returned v ∧ Qo Z h0 n0 v U'.heap L ∧ FrameEnd U o U' L ({ frames := 3, cells := 1, slots := 1, locals := 38 } : Room).cells ({ frames := 3, cells := 1, slots := 1, locals := 38 } : Room).slots) := by
  by_cases h1 : p1 < (-128 : Int32)
  · exact rm4_t l Z a0 hw ws p1 h0 n0 Z0 h1
  by_cases h2 : (127 : Int32) < p1
  · exact rm4_ft l Z a0 hw ws p1 (127 : Int32) h0 n0 Z0 SH h1 h2
  · have hj : ¬ ((p1 + (128 : Int32)) < 0 ∨ cl.slots.size ≤ ((p1 + (128 : Int32))).toNatClampNeg) := by
      rw [Int32.lt_iff_toInt_lt] at h1 h2
      have a1 : (-128 : Int32).toInt = -128 := by decide
      have a2 : (127 : Int32).toInt = 127 := by decide
      have a3 : (128 : Int32).toInt = 128 := by decide
      have a4 : (0 : Int32).toInt = 0 := by decide
      rw [a1] at h1; rw [a2] at h2
      have e : (p1 + 128).toInt = p1.toInt + 128 := by
        rw [Int32.toInt_add, a3, Int.bmod_eq_of_le] <;> omega
      rw [hsz, Int32.lt_iff_toInt_lt, e, a4]
      simp only [Int32.toNatClampNeg, e]
      omega
    obtain ⟨b, B1, B2⟩ := B _ hj
    exact rm4_ff l Z a0 hw ws p1 (127 : Int32) w4 b cl h0 n0 Z0 B2 SH SC A hj B1 h1 h2
theorem d5_0 : decode prog_50_method_9_code 0 = .ok (.aload_n 1, 1) := by decide +kernel
theorem d5_1 : decode prog_50_method_9_code 1 = .ok (.instanceof 17, 3) := by decide +kernel
theorem d5_4 : decode prog_50_method_9_code 4 = .ok (.ifCond .eq 45, 3) := by decide +kernel
theorem d5_7 : decode prog_50_method_9_code 7 = .ok (.aload_n 1, 1) := by decide +kernel
theorem d5_8 : decode prog_50_method_9_code 8 = .ok (.checkcast 17, 3) := by decide +kernel
theorem d5_11 : decode prog_50_method_9_code 11 = .ok (.astore_n 2, 1) := by decide +kernel
theorem d5_12 : decode prog_50_method_9_code 12 = .ok (.aload_n 2, 1) := by decide +kernel
theorem d5_13 : decode prog_50_method_9_code 13 = .ok (.getfield 16, 3) := by decide +kernel
theorem d5_16 : decode prog_50_method_9_code 16 = .ok (.aload_n 0, 1) := by decide +kernel
theorem d5_17 : decode prog_50_method_9_code 17 = .ok (.getfield 16, 3) := by decide +kernel
theorem d5_20 : decode prog_50_method_9_code 20 = .ok (.if_icmp .ne 29, 3) := by decide +kernel
theorem d5_49 : decode prog_50_method_9_code 49 = .ok (.iconst 0, 1) := by decide +kernel
theorem d5_50 : decode prog_50_method_9_code 50 = .ok (.ireturn, 1) := by decide +kernel
theorem pn_5 : plainName "com/example/telegrid/telegrid/erp1/Eep" = true := by first | (simp [plainName, overriddenIn]; done) | decide +kernel
theorem ef_5 (m : MethodId) (x0 : Addr) (x1 : Addr) : entryFrame m #[(.ref x0), (.ref x1)] 3 = mkF m 0 #[.val (.ref x0), .val (.ref x1), .unset] [] := by first | (simp [entryFrame, mkF, argsToLocals, Value.category]; done) | rfl
set_option maxRecDepth 65536 in
set_option maxHeartbeats 40000000 in
theorem rm5_ft (l : Launch) (Z : State) (a0 : Array Value) (hw : ∀ d ∈ tables_1, d.before a0 Z = true) (ws : List Jvm.Cond) (a1 : Addr) (a2 : Addr) (w5 : Int32) (w7 : Int32) (h0 : Heap) (n0 : Nat) (Z0 : n0 ≤ h0.size) (I_a2 : Ins Z h0 a2 "com/example/telegrid/telegrid/erp1/Eep" true) (F_rorg_a2 : Fld Z h0 a2 "com/example/telegrid/telegrid/erp1/Eep" "rorg" "I" (.int w5)) (F_rorg_a1 : Fld Z h0 a1 "com/example/telegrid/telegrid/erp1/Eep" "rorg" "I" (.int w7)) (hc4 : ¬ ((1 : Int32) = (0 : Int32))) (hc20 : ¬ (w5 = w7)) :
    MetFree l (⟨"com/example/telegrid/telegrid/erp1/Eep", "equals", "(Ljava/lang/Object;)Z"⟩ : MethodName) (head1 (Jvm.Cond.code (⟨"com/example/telegrid/telegrid/erp1/Eep", "equals", "(Ljava/lang/Object;)Z"⟩ : MethodName) prog_50_method_9_code 3 (some .boolean) :: ws) ({ frames := 0, cells := 0, slots := 0, locals := 0 } : Room)) (fun a U => a = #[(.ref a1), (.ref a2)] ∧ Z.Warmed39 U.vm ∧ U.heap = h0) (fun _ _ _ _ _ => True) (fun _ U o U' => ∃ v L, o = .returned v ∧ Qv (some (.int (0 : Int32))) h0 n0 v U'.heap L ∧ FrameEnd U o U' L ({ frames := 0, cells := 0, slots := 0, locals := 0 } : Room).cells ({ frames := 0, cells := 0, slots := 0, locals := 0 } : Room).slots) := by
  refine MetFree.of_bodySF (plainFor_of_name pn_5) hisR ?_
  intro p e s m args below meth c s₁ Bd hml0 hP hK
  obtain ⟨rfl, hZ, hh⟩ := hP
  have hx := Bd.exec
  have hby := Bd.bytes
  have hml : c.maxLocals = 3 := hml0
  have hown : s.vm.findClass "com/example/telegrid/telegrid/erp1/Eep" = some m.cls := findClass_of_methodNamed Bd.named
  have hnm := (name_of_methodNamed Bd.named Bd.method).1
  have X0 : Stand p l e ({ frames := 0, cells := 0, slots := 0, locals := 0 } : Room) s m #[(.ref a1), (.ref a2)] below meth c s₁ [] 0 0 := Stand.of_body Bd
  have e0 : s₁.heap = h0 := by rw [← hh, Bd.state]; rfl
  have N0 := Fr.nil n0
  have pre0 : ∀ t, Steps p.tables e below (s₁.setTop (mkF m 0 #[.val (.ref a1), .val (.ref a2), .unset] [])) t → Steps p.tables e below (s₁.setTop (entryFrame m #[(.ref a1), (.ref a2)] 3)) t := fun t k => castTop (ef_5 m a1 a2) k
  -- 3. LAWS
  obtain ⟨T3, X3, e3, st3⟩ := instY X0 hx hZ hown (hw _ (List.mem_of_getElem? (i := 31) rfl)) e0 I_a2 (g := (mkF m 1 #[.val (.ref a1), .val (.ref a2), .unset] [(.ref a2)])) rfl rfl (hb hby d5_1)
  -- I_a2: the object is one of com/example/telegrid/telegrid/erp1/Eep: (Ins.self E) of its Exa, or (Ins.of_exa E (the castable word))
  obtain ⟨T4, X4, e4, st4⟩ := castY X3 hx hZ hown (hw _ (List.mem_of_getElem? (i := 31) rfl)) e3 I_a2 (g := (mkF m 8 #[.val (.ref a1), .val (.ref a2), .unset] [(.ref a2)])) rfl rfl (hb hby d5_8)
  obtain ⟨T6, X6, e6, st6⟩ := getF X4 hx hZ hown (host := "") (Or.inl (hw _ (List.mem_of_getElem? (i := 13) rfl))) Via.refl e4 F_rorg_a2 (g := (mkF m 13 #[.val (.ref a1), .val (.ref a2), .val (.ref a2)] [(.ref a2)])) rfl rfl (hb hby d5_13)
  obtain ⟨T8, X8, e8, st8⟩ := getF X6 hx hZ hown (host := "") (Or.inl (hw _ (List.mem_of_getElem? (i := 13) rfl))) Via.refl e6 F_rorg_a1 (g := (mkF m 17 #[.val (.ref a1), .val (.ref a2), .val (.ref a2)] [(.ref a1), (.int w5)])) rfl rfl (hb hby d5_17)
  obtain ⟨fs, hr, hrun, hended, hW, hsame⟩ := X8.leave (v := some (.int (0 : Int32))) (fun h => by rw [Bd.returns] at h; cases h)
  refine ⟨_, _, pre0 _ ?_, hrun, hended, _, _, rfl, ?_, ⟨_, rfl⟩, hW, hsame.mono (by decide) (by decide)⟩
  -- 4. STEPS
  · show Steps p.tables e below (s₁.setTop (mkF m 0 #[.val (.ref a1), .val (.ref a2), .unset] [])) _
    refine XS.aloadN X0.here hx rfl (hb hby d5_0) rfl rfl ?_
    show Steps p.tables e below (s₁.setTop (mkF m 1 #[.val (.ref a1), .val (.ref a2), .unset] [(.ref a2)])) _
    refine st3 _ ?_
    show Steps p.tables e below (T3.setTop (mkF m 4 #[.val (.ref a1), .val (.ref a2), .unset] [(.int (1 : Int32))])) _
    refine XS.ifNo X3.here hx rfl (hb hby d5_4) rfl ((if0 _ _).trans (feq hc4).1) ?_
    show Steps p.tables e below (T3.setTop (mkF m 7 #[.val (.ref a1), .val (.ref a2), .unset] [])) _
    refine XS.aloadN X3.here hx rfl (hb hby d5_7) rfl rfl ?_
    show Steps p.tables e below (T3.setTop (mkF m 8 #[.val (.ref a1), .val (.ref a2), .unset] [(.ref a2)])) _
    refine st4 _ ?_
    show Steps p.tables e below (T4.setTop (mkF m 11 #[.val (.ref a1), .val (.ref a2), .unset] [(.ref a2)])) _
    refine XS.astoreN X4.here hx rfl (hb hby d5_11) rfl rfl (l' := #[.val (.ref a1), .val (.ref a2), .val (.ref a2)]) rfl ?_
    show Steps p.tables e below (T4.setTop (mkF m 12 #[.val (.ref a1), .val (.ref a2), .val (.ref a2)] [])) _
    refine XS.aloadN X4.here hx rfl (hb hby d5_12) rfl rfl ?_
    show Steps p.tables e below (T4.setTop (mkF m 13 #[.val (.ref a1), .val (.ref a2), .val (.ref a2)] [(.ref a2)])) _
    refine st6 _ ?_
    show Steps p.tables e below (T6.setTop (mkF m 16 #[.val (.ref a1), .val (.ref a2), .val (.ref a2)] [(.int w5)])) _
    refine XS.aloadN X6.here hx rfl (hb hby d5_16) rfl rfl ?_
    show Steps p.tables e below (T6.setTop (mkF m 17 #[.val (.ref a1), .val (.ref a2), .val (.ref a2)] [(.ref a1), (.int w5)])) _
    refine st8 _ ?_
    show Steps p.tables e below (T8.setTop (mkF m 20 #[.val (.ref a1), .val (.ref a2), .val (.ref a2)] [(.int w7), (.int w5)])) _
    refine XS.icmpYes X8.here hx rfl (pc0 := 20) (pc' := 49) rfl (hb hby d5_20) rfl (feq hc20).2 (by decide) (by decide) ?_
    show Steps p.tables e below (T8.setTop (mkF m 49 #[.val (.ref a1), .val (.ref a2), .val (.ref a2)] [])) _
    refine XS.iconst X8.here hx rfl (hb hby d5_49) ?_
    show Steps p.tables e below (T8.setTop (mkF m 50 #[.val (.ref a1), .val (.ref a2), .val (.ref a2)] [(.int (0 : Int32))])) _
    exact retN X8 hx (t := .boolean) Bd.returns (by simp) (hb hby d5_50) hr
  · show Qv (some (.int (0 : Int32))) h0 n0 _ T8.heap _
    rw [e8]
    exact ⟨rfl, N0, rfl⟩
theorem d5_23 : decode prog_50_method_9_code 23 = .ok (.aload_n 2, 1) := by decide +kernel
theorem d5_24 : decode prog_50_method_9_code 24 = .ok (.getfield 22, 3) := by decide +kernel
theorem d5_27 : decode prog_50_method_9_code 27 = .ok (.aload_n 0, 1) := by decide +kernel
theorem d5_28 : decode prog_50_method_9_code 28 = .ok (.getfield 22, 3) := by decide +kernel
theorem d5_31 : decode prog_50_method_9_code 31 = .ok (.if_icmp .ne 18, 3) := by decide +kernel
set_option maxRecDepth 65536 in
set_option maxHeartbeats 40000000 in
theorem rm5_fft (l : Launch) (Z : State) (a0 : Array Value) (hw : ∀ d ∈ tables_1, d.before a0 Z = true) (ws : List Jvm.Cond) (a1 : Addr) (a2 : Addr) (w5 : Int32) (w7 : Int32) (w9 : Int32) (w11 : Int32) (h0 : Heap) (n0 : Nat) (Z0 : n0 ≤ h0.size) (I_a2 : Ins Z h0 a2 "com/example/telegrid/telegrid/erp1/Eep" true) (F_rorg_a2 : Fld Z h0 a2 "com/example/telegrid/telegrid/erp1/Eep" "rorg" "I" (.int w5)) (F_rorg_a1 : Fld Z h0 a1 "com/example/telegrid/telegrid/erp1/Eep" "rorg" "I" (.int w7)) (F_func_a2 : Fld Z h0 a2 "com/example/telegrid/telegrid/erp1/Eep" "func" "I" (.int w9)) (F_func_a1 : Fld Z h0 a1 "com/example/telegrid/telegrid/erp1/Eep" "func" "I" (.int w11)) (hc4 : ¬ ((1 : Int32) = (0 : Int32))) (hc20 : w5 = w7) (hc31 : ¬ (w9 = w11)) :
    MetFree l (⟨"com/example/telegrid/telegrid/erp1/Eep", "equals", "(Ljava/lang/Object;)Z"⟩ : MethodName) (head1 (Jvm.Cond.code (⟨"com/example/telegrid/telegrid/erp1/Eep", "equals", "(Ljava/lang/Object;)Z"⟩ : MethodName) prog_50_method_9_code 3 (some .boolean) :: ws) ({ frames := 0, cells := 0, slots := 0, locals := 0 } : Room)) (fun a U => a = #[(.ref a1), (.ref a2)] ∧ Z.Warmed39 U.vm ∧ U.heap = h0) (fun _ _ _ _ _ => True) (fun _ U o U' => ∃ v L, o = .returned v ∧ Qv (some (.int (0 : Int32))) h0 n0 v U'.heap L ∧ FrameEnd U o U' L ({ frames := 0, cells := 0, slots := 0, locals := 0 } : Room).cells ({ frames := 0, cells := 0, slots := 0, locals := 0 } : Room).slots) := by
  refine MetFree.of_bodySF (plainFor_of_name pn_5) hisR ?_
  intro p e s m args below meth c s₁ Bd hml0 hP hK
  obtain ⟨rfl, hZ, hh⟩ := hP
  have hx := Bd.exec
  have hby := Bd.bytes
  have hml : c.maxLocals = 3 := hml0
  have hown : s.vm.findClass "com/example/telegrid/telegrid/erp1/Eep" = some m.cls := findClass_of_methodNamed Bd.named
  have hnm := (name_of_methodNamed Bd.named Bd.method).1
  have X0 : Stand p l e ({ frames := 0, cells := 0, slots := 0, locals := 0 } : Room) s m #[(.ref a1), (.ref a2)] below meth c s₁ [] 0 0 := Stand.of_body Bd
  have e0 : s₁.heap = h0 := by rw [← hh, Bd.state]; rfl
  have N0 := Fr.nil n0
  have pre0 : ∀ t, Steps p.tables e below (s₁.setTop (mkF m 0 #[.val (.ref a1), .val (.ref a2), .unset] [])) t → Steps p.tables e below (s₁.setTop (entryFrame m #[(.ref a1), (.ref a2)] 3)) t := fun t k => castTop (ef_5 m a1 a2) k
  -- 3. LAWS
  obtain ⟨T3, X3, e3, st3⟩ := instY X0 hx hZ hown (hw _ (List.mem_of_getElem? (i := 31) rfl)) e0 I_a2 (g := (mkF m 1 #[.val (.ref a1), .val (.ref a2), .unset] [(.ref a2)])) rfl rfl (hb hby d5_1)
  -- I_a2: the object is one of com/example/telegrid/telegrid/erp1/Eep: (Ins.self E) of its Exa, or (Ins.of_exa E (the castable word))
  obtain ⟨T4, X4, e4, st4⟩ := castY X3 hx hZ hown (hw _ (List.mem_of_getElem? (i := 31) rfl)) e3 I_a2 (g := (mkF m 8 #[.val (.ref a1), .val (.ref a2), .unset] [(.ref a2)])) rfl rfl (hb hby d5_8)
  obtain ⟨T6, X6, e6, st6⟩ := getF X4 hx hZ hown (host := "") (Or.inl (hw _ (List.mem_of_getElem? (i := 13) rfl))) Via.refl e4 F_rorg_a2 (g := (mkF m 13 #[.val (.ref a1), .val (.ref a2), .val (.ref a2)] [(.ref a2)])) rfl rfl (hb hby d5_13)
  obtain ⟨T8, X8, e8, st8⟩ := getF X6 hx hZ hown (host := "") (Or.inl (hw _ (List.mem_of_getElem? (i := 13) rfl))) Via.refl e6 F_rorg_a1 (g := (mkF m 17 #[.val (.ref a1), .val (.ref a2), .val (.ref a2)] [(.ref a1), (.int w5)])) rfl rfl (hb hby d5_17)
  obtain ⟨T10, X10, e10, st10⟩ := getF X8 hx hZ hown (host := "") (Or.inl (hw _ (List.mem_of_getElem? (i := 15) rfl))) Via.refl e8 F_func_a2 (g := (mkF m 24 #[.val (.ref a1), .val (.ref a2), .val (.ref a2)] [(.ref a2)])) rfl rfl (hb hby d5_24)
  obtain ⟨T12, X12, e12, st12⟩ := getF X10 hx hZ hown (host := "") (Or.inl (hw _ (List.mem_of_getElem? (i := 15) rfl))) Via.refl e10 F_func_a1 (g := (mkF m 28 #[.val (.ref a1), .val (.ref a2), .val (.ref a2)] [(.ref a1), (.int w9)])) rfl rfl (hb hby d5_28)
  obtain ⟨fs, hr, hrun, hended, hW, hsame⟩ := X12.leave (v := some (.int (0 : Int32))) (fun h => by rw [Bd.returns] at h; cases h)
  refine ⟨_, _, pre0 _ ?_, hrun, hended, _, _, rfl, ?_, ⟨_, rfl⟩, hW, hsame.mono (by decide) (by decide)⟩
  -- 4. STEPS
  · show Steps p.tables e below (s₁.setTop (mkF m 0 #[.val (.ref a1), .val (.ref a2), .unset] [])) _
    refine XS.aloadN X0.here hx rfl (hb hby d5_0) rfl rfl ?_
    show Steps p.tables e below (s₁.setTop (mkF m 1 #[.val (.ref a1), .val (.ref a2), .unset] [(.ref a2)])) _
    refine st3 _ ?_
    show Steps p.tables e below (T3.setTop (mkF m 4 #[.val (.ref a1), .val (.ref a2), .unset] [(.int (1 : Int32))])) _
    refine XS.ifNo X3.here hx rfl (hb hby d5_4) rfl ((if0 _ _).trans (feq hc4).1) ?_
    show Steps p.tables e below (T3.setTop (mkF m 7 #[.val (.ref a1), .val (.ref a2), .unset] [])) _
    refine XS.aloadN X3.here hx rfl (hb hby d5_7) rfl rfl ?_
    show Steps p.tables e below (T3.setTop (mkF m 8 #[.val (.ref a1), .val (.ref a2), .unset] [(.ref a2)])) _
    refine st4 _ ?_
    show Steps p.tables e below (T4.setTop (mkF m 11 #[.val (.ref a1), .val (.ref a2), .unset] [(.ref a2)])) _
    refine XS.astoreN X4.here hx rfl (hb hby d5_11) rfl rfl (l' := #[.val (.ref a1), .val (.ref a2), .val (.ref a2)]) rfl ?_
    show Steps p.tables e below (T4.setTop (mkF m 12 #[.val (.ref a1), .val (.ref a2), .val (.ref a2)] [])) _
    refine XS.aloadN X4.here hx rfl (hb hby d5_12) rfl rfl ?_
    show Steps p.tables e below (T4.setTop (mkF m 13 #[.val (.ref a1), .val (.ref a2), .val (.ref a2)] [(.ref a2)])) _
    refine st6 _ ?_
    show Steps p.tables e below (T6.setTop (mkF m 16 #[.val (.ref a1), .val (.ref a2), .val (.ref a2)] [(.int w5)])) _
    refine XS.aloadN X6.here hx rfl (hb hby d5_16) rfl rfl ?_
    show Steps p.tables e below (T6.setTop (mkF m 17 #[.val (.ref a1), .val (.ref a2), .val (.ref a2)] [(.ref a1), (.int w5)])) _
    refine st8 _ ?_
    show Steps p.tables e below (T8.setTop (mkF m 20 #[.val (.ref a1), .val (.ref a2), .val (.ref a2)] [(.int w7), (.int w5)])) _
    refine XS.icmpNo X8.here hx rfl (hb hby d5_20) rfl (teq hc20).2 ?_
    show Steps p.tables e below (T8.setTop (mkF m 23 #[.val (.ref a1), .val (.ref a2), .val (.ref a2)] [])) _
    refine XS.aloadN X8.here hx rfl (hb hby d5_23) rfl rfl ?_
    show Steps p.tables e below (T8.setTop (mkF m 24 #[.val (.ref a1), .val (.ref a2), .val (.ref a2)] [(.ref a2)])) _
    refine st10 _ ?_
    show Steps p.tables e below (T10.setTop (mkF m 27 #[.val (.ref a1), .val (.ref a2), .val (.ref a2)] [(.int w9)])) _
    refine XS.aloadN X10.here hx rfl (hb hby d5_27) rfl rfl ?_
    show Steps p.tables e below (T10.setTop (mkF m 28 #[.val (.ref a1), .val (.ref a2), .val (.ref a2)] [(.ref a1), (.int w9)])) _
    refine st12 _ ?_
    show Steps p.tables e below (T12.setTop (mkF m 31 #[.val (.ref a1), .val (.ref a2), .val (.ref a2)] [(.int w11), (.int w9)])) _
    refine XS.icmpYes X12.here hx rfl (pc0 := 31) (pc' := 49) rfl (hb hby d5_31) rfl (feq hc31).2 (by decide) (by decide) ?_
    show Steps p.tables e below (T12.setTop (mkF m 49 #[.val (.ref a1), .val (.ref a2), .val (.ref a2)] [])) _
    refine XS.iconst X12.here hx rfl (hb hby d5_49) ?_
    show Steps p.tables e below (T12.setTop (mkF m 50 #[.val (.ref a1), .val (.ref a2), .val (.ref a2)] [(.int (0 : Int32))])) _
    exact retN X12 hx (t := .boolean) Bd.returns (by simp) (hb hby d5_50) hr
  · show Qv (some (.int (0 : Int32))) h0 n0 _ T12.heap _
    rw [e12]
    exact ⟨rfl, N0, rfl⟩
theorem d5_34 : decode prog_50_method_9_code 34 = .ok (.aload_n 2, 1) := by decide +kernel
theorem d5_35 : decode prog_50_method_9_code 35 = .ok (.getfield 25, 3) := by decide +kernel
theorem d5_38 : decode prog_50_method_9_code 38 = .ok (.aload_n 0, 1) := by decide +kernel
theorem d5_39 : decode prog_50_method_9_code 39 = .ok (.getfield 25, 3) := by decide +kernel
theorem d5_42 : decode prog_50_method_9_code 42 = .ok (.if_icmp .ne 7, 3) := by decide +kernel
set_option maxRecDepth 65536 in
set_option maxHeartbeats 40000000 in
theorem rm5_ffft (l : Launch) (Z : State) (a0 : Array Value) (hw : ∀ d ∈ tables_1, d.before a0 Z = true) (ws : List Jvm.Cond) (a1 : Addr) (a2 : Addr) (w5 : Int32) (w7 : Int32) (w9 : Int32) (w11 : Int32) (w13 : Int32) (w15 : Int32) (h0 : Heap) (n0 : Nat) (Z0 : n0 ≤ h0.size) (I_a2 : Ins Z h0 a2 "com/example/telegrid/telegrid/erp1/Eep" true) (F_rorg_a2 : Fld Z h0 a2 "com/example/telegrid/telegrid/erp1/Eep" "rorg" "I" (.int w5)) (F_rorg_a1 : Fld Z h0 a1 "com/example/telegrid/telegrid/erp1/Eep" "rorg" "I" (.int w7)) (F_func_a2 : Fld Z h0 a2 "com/example/telegrid/telegrid/erp1/Eep" "func" "I" (.int w9)) (F_func_a1 : Fld Z h0 a1 "com/example/telegrid/telegrid/erp1/Eep" "func" "I" (.int w11)) (F_type_a2 : Fld Z h0 a2 "com/example/telegrid/telegrid/erp1/Eep" "type" "I" (.int w13)) (F_type_a1 : Fld Z h0 a1 "com/example/telegrid/telegrid/erp1/Eep" "type" "I" (.int w15)) (hc4 : ¬ ((1 : Int32) = (0 : Int32))) (hc20 : w5 = w7) (hc31 : w9 = w11) (hc42 : ¬ (w13 = w15)) :
    MetFree l (⟨"com/example/telegrid/telegrid/erp1/Eep", "equals", "(Ljava/lang/Object;)Z"⟩ : MethodName) (head1 (Jvm.Cond.code (⟨"com/example/telegrid/telegrid/erp1/Eep", "equals", "(Ljava/lang/Object;)Z"⟩ : MethodName) prog_50_method_9_code 3 (some .boolean) :: ws) ({ frames := 0, cells := 0, slots := 0, locals := 0 } : Room)) (fun a U => a = #[(.ref a1), (.ref a2)] ∧ Z.Warmed39 U.vm ∧ U.heap = h0) (fun _ _ _ _ _ => True) (fun _ U o U' => ∃ v L, o = .returned v ∧ Qv (some (.int (0 : Int32))) h0 n0 v U'.heap L ∧ FrameEnd U o U' L ({ frames := 0, cells := 0, slots := 0, locals := 0 } : Room).cells ({ frames := 0, cells := 0, slots := 0, locals := 0 } : Room).slots) := by
  refine MetFree.of_bodySF (plainFor_of_name pn_5) hisR ?_
  intro p e s m args below meth c s₁ Bd hml0 hP hK
  obtain ⟨rfl, hZ, hh⟩ := hP
  have hx := Bd.exec
  have hby := Bd.bytes
  have hml : c.maxLocals = 3 := hml0
  have hown : s.vm.findClass "com/example/telegrid/telegrid/erp1/Eep" = some m.cls := findClass_of_methodNamed Bd.named
  have hnm := (name_of_methodNamed Bd.named Bd.method).1
  have X0 : Stand p l e ({ frames := 0, cells := 0, slots := 0, locals := 0 } : Room) s m #[(.ref a1), (.ref a2)] below meth c s₁ [] 0 0 := Stand.of_body Bd
  have e0 : s₁.heap = h0 := by rw [← hh, Bd.state]; rfl
  have N0 := Fr.nil n0
  have pre0 : ∀ t, Steps p.tables e below (s₁.setTop (mkF m 0 #[.val (.ref a1), .val (.ref a2), .unset] [])) t → Steps p.tables e below (s₁.setTop (entryFrame m #[(.ref a1), (.ref a2)] 3)) t := fun t k => castTop (ef_5 m a1 a2) k
  -- 3. LAWS
  obtain ⟨T3, X3, e3, st3⟩ := instY X0 hx hZ hown (hw _ (List.mem_of_getElem? (i := 31) rfl)) e0 I_a2 (g := (mkF m 1 #[.val (.ref a1), .val (.ref a2), .unset] [(.ref a2)])) rfl rfl (hb hby d5_1)
  -- I_a2: the object is one of com/example/telegrid/telegrid/erp1/Eep: (Ins.self E) of its Exa, or (Ins.of_exa E (the castable word))
  obtain ⟨T4, X4, e4, st4⟩ := castY X3 hx hZ hown (hw _ (List.mem_of_getElem? (i := 31) rfl)) e3 I_a2 (g := (mkF m 8 #[.val (.ref a1), .val (.ref a2), .unset] [(.ref a2)])) rfl rfl (hb hby d5_8)
  obtain ⟨T6, X6, e6, st6⟩ := getF X4 hx hZ hown (host := "") (Or.inl (hw _ (List.mem_of_getElem? (i := 13) rfl))) Via.refl e4 F_rorg_a2 (g := (mkF m 13 #[.val (.ref a1), .val (.ref a2), .val (.ref a2)] [(.ref a2)])) rfl rfl (hb hby d5_13)
  obtain ⟨T8, X8, e8, st8⟩ := getF X6 hx hZ hown (host := "") (Or.inl (hw _ (List.mem_of_getElem? (i := 13) rfl))) Via.refl e6 F_rorg_a1 (g := (mkF m 17 #[.val (.ref a1), .val (.ref a2), .val (.ref a2)] [(.ref a1), (.int w5)])) rfl rfl (hb hby d5_17)
  obtain ⟨T10, X10, e10, st10⟩ := getF X8 hx hZ hown (host := "") (Or.inl (hw _ (List.mem_of_getElem? (i := 15) rfl))) Via.refl e8 F_func_a2 (g := (mkF m 24 #[.val (.ref a1), .val (.ref a2), .val (.ref a2)] [(.ref a2)])) rfl rfl (hb hby d5_24)
  obtain ⟨T12, X12, e12, st12⟩ := getF X10 hx hZ hown (host := "") (Or.inl (hw _ (List.mem_of_getElem? (i := 15) rfl))) Via.refl e10 F_func_a1 (g := (mkF m 28 #[.val (.ref a1), .val (.ref a2), .val (.ref a2)] [(.ref a1), (.int w9)])) rfl rfl (hb hby d5_28)
  obtain ⟨T14, X14, e14, st14⟩ := getF X12 hx hZ hown (host := "") (Or.inl (hw _ (List.mem_of_getElem? (i := 17) rfl))) Via.refl e12 F_type_a2 (g := (mkF m 35 #[.val (.ref a1), .val (.ref a2), .val (.ref a2)] [(.ref a2)])) rfl rfl (hb hby d5_35)
  obtain ⟨T16, X16, e16, st16⟩ := getF X14 hx hZ hown (host := "") (Or.inl (hw _ (List.mem_of_getElem? (i := 17) rfl))) Via.refl e14 F_type_a1 (g := (mkF m 39 #[.val (.ref a1), .val (.ref a2), .val (.ref a2)] [(.ref a1), (.int w13)])) rfl rfl (hb hby d5_39)
  obtain ⟨fs, hr, hrun, hended, hW, hsame⟩ := X16.leave (v := some (.int (0 : Int32))) (fun h => by rw [Bd.returns] at h; cases h)
  refine ⟨_, _, pre0 _ ?_, hrun, hended, _, _, rfl, ?_, ⟨_, rfl⟩, hW, hsame.mono (by decide) (by decide)⟩
  -- 4. STEPS
  · show Steps p.tables e below (s₁.setTop (mkF m 0 #[.val (.ref a1), .val (.ref a2), .unset] [])) _
    refine XS.aloadN X0.here hx rfl (hb hby d5_0) rfl rfl ?_
    show Steps p.tables e below (s₁.setTop (mkF m 1 #[.val (.ref a1), .val (.ref a2), .unset] [(.ref a2)])) _
    refine st3 _ ?_
    show Steps p.tables e below (T3.setTop (mkF m 4 #[.val (.ref a1), .val (.ref a2), .unset] [(.int (1 : Int32))])) _
    refine XS.ifNo X3.here hx rfl (hb hby d5_4) rfl ((if0 _ _).trans (feq hc4).1) ?_
    show Steps p.tables e below (T3.setTop (mkF m 7 #[.val (.ref a1), .val (.ref a2), .unset] [])) _
    refine XS.aloadN X3.here hx rfl (hb hby d5_7) rfl rfl ?_
    show Steps p.tables e below (T3.setTop (mkF m 8 #[.val (.ref a1), .val (.ref a2), .unset] [(.ref a2)])) _
    refine st4 _ ?_
    show Steps p.tables e below (T4.setTop (mkF m 11 #[.val (.ref a1), .val (.ref a2), .unset] [(.ref a2)])) _
    refine XS.astoreN X4.here hx rfl (hb hby d5_11) rfl rfl (l' := #[.val (.ref a1), .val (.ref a2), .val (.ref a2)]) rfl ?_
    show Steps p.tables e below (T4.setTop (mkF m 12 #[.val (.ref a1), .val (.ref a2), .val (.ref a2)] [])) _
    refine XS.aloadN X4.here hx rfl (hb hby d5_12) rfl rfl ?_
    show Steps p.tables e below (T4.setTop (mkF m 13 #[.val (.ref a1), .val (.ref a2), .val (.ref a2)] [(.ref a2)])) _
    refine st6 _ ?_
    show Steps p.tables e below (T6.setTop (mkF m 16 #[.val (.ref a1), .val (.ref a2), .val (.ref a2)] [(.int w5)])) _
    refine XS.aloadN X6.here hx rfl (hb hby d5_16) rfl rfl ?_
    show Steps p.tables e below (T6.setTop (mkF m 17 #[.val (.ref a1), .val (.ref a2), .val (.ref a2)] [(.ref a1), (.int w5)])) _
    refine st8 _ ?_
    show Steps p.tables e below (T8.setTop (mkF m 20 #[.val (.ref a1), .val (.ref a2), .val (.ref a2)] [(.int w7), (.int w5)])) _
    refine XS.icmpNo X8.here hx rfl (hb hby d5_20) rfl (teq hc20).2 ?_
    show Steps p.tables e below (T8.setTop (mkF m 23 #[.val (.ref a1), .val (.ref a2), .val (.ref a2)] [])) _
    refine XS.aloadN X8.here hx rfl (hb hby d5_23) rfl rfl ?_
    show Steps p.tables e below (T8.setTop (mkF m 24 #[.val (.ref a1), .val (.ref a2), .val (.ref a2)] [(.ref a2)])) _
    refine st10 _ ?_
    show Steps p.tables e below (T10.setTop (mkF m 27 #[.val (.ref a1), .val (.ref a2), .val (.ref a2)] [(.int w9)])) _
    refine XS.aloadN X10.here hx rfl (hb hby d5_27) rfl rfl ?_
    show Steps p.tables e below (T10.setTop (mkF m 28 #[.val (.ref a1), .val (.ref a2), .val (.ref a2)] [(.ref a1), (.int w9)])) _
    refine st12 _ ?_
    show Steps p.tables e below (T12.setTop (mkF m 31 #[.val (.ref a1), .val (.ref a2), .val (.ref a2)] [(.int w11), (.int w9)])) _
    refine XS.icmpNo X12.here hx rfl (hb hby d5_31) rfl (teq hc31).2 ?_
    show Steps p.tables e below (T12.setTop (mkF m 34 #[.val (.ref a1), .val (.ref a2), .val (.ref a2)] [])) _
    refine XS.aloadN X12.here hx rfl (hb hby d5_34) rfl rfl ?_
    show Steps p.tables e below (T12.setTop (mkF m 35 #[.val (.ref a1), .val (.ref a2), .val (.ref a2)] [(.ref a2)])) _
    refine st14 _ ?_
    show Steps p.tables e below (T14.setTop (mkF m 38 #[.val (.ref a1), .val (.ref a2), .val (.ref a2)] [(.int w13)])) _
    refine XS.aloadN X14.here hx rfl (hb hby d5_38) rfl rfl ?_
    show Steps p.tables e below (T14.setTop (mkF m 39 #[.val (.ref a1), .val (.ref a2), .val (.ref a2)] [(.ref a1), (.int w13)])) _
    refine st16 _ ?_
    show Steps p.tables e below (T16.setTop (mkF m 42 #[.val (.ref a1), .val (.ref a2), .val (.ref a2)] [(.int w15), (.int w13)])) _
    refine XS.icmpYes X16.here hx rfl (pc0 := 42) (pc' := 49) rfl (hb hby d5_42) rfl (feq hc42).2 (by decide) (by decide) ?_
    show Steps p.tables e below (T16.setTop (mkF m 49 #[.val (.ref a1), .val (.ref a2), .val (.ref a2)] [])) _
    refine XS.iconst X16.here hx rfl (hb hby d5_49) ?_
    show Steps p.tables e below (T16.setTop (mkF m 50 #[.val (.ref a1), .val (.ref a2), .val (.ref a2)] [(.int (0 : Int32))])) _
    exact retN X16 hx (t := .boolean) Bd.returns (by simp) (hb hby d5_50) hr
  · show Qv (some (.int (0 : Int32))) h0 n0 _ T16.heap _
    rw [e16]
    exact ⟨rfl, N0, rfl⟩
theorem d5_45 : decode prog_50_method_9_code 45 = .ok (.iconst 1, 1) := by decide +kernel
theorem d5_46 : decode prog_50_method_9_code 46 = .ok (.goto 4, 3) := by decide +kernel
set_option maxRecDepth 65536 in
set_option maxHeartbeats 40000000 in
theorem rm5_ffff (l : Launch) (Z : State) (a0 : Array Value) (hw : ∀ d ∈ tables_1, d.before a0 Z = true) (ws : List Jvm.Cond) (a1 : Addr) (a2 : Addr) (w5 : Int32) (w7 : Int32) (w9 : Int32) (w11 : Int32) (w13 : Int32) (w15 : Int32) (h0 : Heap) (n0 : Nat) (Z0 : n0 ≤ h0.size) (I_a2 : Ins Z h0 a2 "com/example/telegrid/telegrid/erp1/Eep" true) (F_rorg_a2 : Fld Z h0 a2 "com/example/telegrid/telegrid/erp1/Eep" "rorg" "I" (.int w5)) (F_rorg_a1 : Fld Z h0 a1 "com/example/telegrid/telegrid/erp1/Eep" "rorg" "I" (.int w7)) (F_func_a2 : Fld Z h0 a2 "com/example/telegrid/telegrid/erp1/Eep" "func" "I" (.int w9)) (F_func_a1 : Fld Z h0 a1 "com/example/telegrid/telegrid/erp1/Eep" "func" "I" (.int w11)) (F_type_a2 : Fld Z h0 a2 "com/example/telegrid/telegrid/erp1/Eep" "type" "I" (.int w13)) (F_type_a1 : Fld Z h0 a1 "com/example/telegrid/telegrid/erp1/Eep" "type" "I" (.int w15)) (hc4 : ¬ ((1 : Int32) = (0 : Int32))) (hc20 : w5 = w7) (hc31 : w9 = w11) (hc42 : w13 = w15) :
    MetFree l (⟨"com/example/telegrid/telegrid/erp1/Eep", "equals", "(Ljava/lang/Object;)Z"⟩ : MethodName) (head1 (Jvm.Cond.code (⟨"com/example/telegrid/telegrid/erp1/Eep", "equals", "(Ljava/lang/Object;)Z"⟩ : MethodName) prog_50_method_9_code 3 (some .boolean) :: ws) ({ frames := 0, cells := 0, slots := 0, locals := 0 } : Room)) (fun a U => a = #[(.ref a1), (.ref a2)] ∧ Z.Warmed39 U.vm ∧ U.heap = h0) (fun _ _ _ _ _ => True) (fun _ U o U' => ∃ v L, o = .returned v ∧ Qv (some (.int (1 : Int32))) h0 n0 v U'.heap L ∧ FrameEnd U o U' L ({ frames := 0, cells := 0, slots := 0, locals := 0 } : Room).cells ({ frames := 0, cells := 0, slots := 0, locals := 0 } : Room).slots) := by
  refine MetFree.of_bodySF (plainFor_of_name pn_5) hisR ?_
  intro p e s m args below meth c s₁ Bd hml0 hP hK
  obtain ⟨rfl, hZ, hh⟩ := hP
  have hx := Bd.exec
  have hby := Bd.bytes
  have hml : c.maxLocals = 3 := hml0
  have hown : s.vm.findClass "com/example/telegrid/telegrid/erp1/Eep" = some m.cls := findClass_of_methodNamed Bd.named
  have hnm := (name_of_methodNamed Bd.named Bd.method).1
  have X0 : Stand p l e ({ frames := 0, cells := 0, slots := 0, locals := 0 } : Room) s m #[(.ref a1), (.ref a2)] below meth c s₁ [] 0 0 := Stand.of_body Bd
  have e0 : s₁.heap = h0 := by rw [← hh, Bd.state]; rfl
  have N0 := Fr.nil n0
  have pre0 : ∀ t, Steps p.tables e below (s₁.setTop (mkF m 0 #[.val (.ref a1), .val (.ref a2), .unset] [])) t → Steps p.tables e below (s₁.setTop (entryFrame m #[(.ref a1), (.ref a2)] 3)) t := fun t k => castTop (ef_5 m a1 a2) k
  -- 3. LAWS
  obtain ⟨T3, X3, e3, st3⟩ := instY X0 hx hZ hown (hw _ (List.mem_of_getElem? (i := 31) rfl)) e0 I_a2 (g := (mkF m 1 #[.val (.ref a1), .val (.ref a2), .unset] [(.ref a2)])) rfl rfl (hb hby d5_1)
  -- I_a2: the object is one of com/example/telegrid/telegrid/erp1/Eep: (Ins.self E) of its Exa, or (Ins.of_exa E (the castable word))
  obtain ⟨T4, X4, e4, st4⟩ := castY X3 hx hZ hown (hw _ (List.mem_of_getElem? (i := 31) rfl)) e3 I_a2 (g := (mkF m 8 #[.val (.ref a1), .val (.ref a2), .unset] [(.ref a2)])) rfl rfl (hb hby d5_8)
  obtain ⟨T6, X6, e6, st6⟩ := getF X4 hx hZ hown (host := "") (Or.inl (hw _ (List.mem_of_getElem? (i := 13) rfl))) Via.refl e4 F_rorg_a2 (g := (mkF m 13 #[.val (.ref a1), .val (.ref a2), .val (.ref a2)] [(.ref a2)])) rfl rfl (hb hby d5_13)
  obtain ⟨T8, X8, e8, st8⟩ := getF X6 hx hZ hown (host := "") (Or.inl (hw _ (List.mem_of_getElem? (i := 13) rfl))) Via.refl e6 F_rorg_a1 (g := (mkF m 17 #[.val (.ref a1), .val (.ref a2), .val (.ref a2)] [(.ref a1), (.int w5)])) rfl rfl (hb hby d5_17)
  obtain ⟨T10, X10, e10, st10⟩ := getF X8 hx hZ hown (host := "") (Or.inl (hw _ (List.mem_of_getElem? (i := 15) rfl))) Via.refl e8 F_func_a2 (g := (mkF m 24 #[.val (.ref a1), .val (.ref a2), .val (.ref a2)] [(.ref a2)])) rfl rfl (hb hby d5_24)
  obtain ⟨T12, X12, e12, st12⟩ := getF X10 hx hZ hown (host := "") (Or.inl (hw _ (List.mem_of_getElem? (i := 15) rfl))) Via.refl e10 F_func_a1 (g := (mkF m 28 #[.val (.ref a1), .val (.ref a2), .val (.ref a2)] [(.ref a1), (.int w9)])) rfl rfl (hb hby d5_28)
  obtain ⟨T14, X14, e14, st14⟩ := getF X12 hx hZ hown (host := "") (Or.inl (hw _ (List.mem_of_getElem? (i := 17) rfl))) Via.refl e12 F_type_a2 (g := (mkF m 35 #[.val (.ref a1), .val (.ref a2), .val (.ref a2)] [(.ref a2)])) rfl rfl (hb hby d5_35)
  obtain ⟨T16, X16, e16, st16⟩ := getF X14 hx hZ hown (host := "") (Or.inl (hw _ (List.mem_of_getElem? (i := 17) rfl))) Via.refl e14 F_type_a1 (g := (mkF m 39 #[.val (.ref a1), .val (.ref a2), .val (.ref a2)] [(.ref a1), (.int w13)])) rfl rfl (hb hby d5_39)
  obtain ⟨fs, hr, hrun, hended, hW, hsame⟩ := X16.leave (v := some (.int (1 : Int32))) (fun h => by rw [Bd.returns] at h; cases h)
  refine ⟨_, _, pre0 _ ?_, hrun, hended, _, _, rfl, ?_, ⟨_, rfl⟩, hW, hsame.mono (by decide) (by decide)⟩
  -- 4. STEPS
  · show Steps p.tables e below (s₁.setTop (mkF m 0 #[.val (.ref a1), .val (.ref a2), .unset] [])) _
    refine XS.aloadN X0.here hx rfl (hb hby d5_0) rfl rfl ?_
    show Steps p.tables e below (s₁.setTop (mkF m 1 #[.val (.ref a1), .val (.ref a2), .unset] [(.ref a2)])) _
    refine st3 _ ?_
    show Steps p.tables e below (T3.setTop (mkF m 4 #[.val (.ref a1), .val (.ref a2), .unset] [(.int (1 : Int32))])) _
    refine XS.ifNo X3.here hx rfl (hb hby d5_4) rfl ((if0 _ _).trans (feq hc4).1) ?_
    show Steps p.tables e below (T3.setTop (mkF m 7 #[.val (.ref a1), .val (.ref a2), .unset] [])) _
    refine XS.aloadN X3.here hx rfl (hb hby d5_7) rfl rfl ?_
    show Steps p.tables e below (T3.setTop (mkF m 8 #[.val (.ref a1), .val (.ref a2), .unset] [(.ref a2)])) _
    refine st4 _ ?_
    show Steps p.tables e below (T4.setTop (mkF m 11 #[.val (.ref a1), .val (.ref a2), .unset] [(.ref a2)])) _
    refine XS.astoreN X4.here hx rfl (hb hby d5_11) rfl rfl (l' := #[.val (.ref a1), .val (.ref a2), .val (.ref a2)]) rfl ?_
    show Steps p.tables e below (T4.setTop (mkF m 12 #[.val (.ref a1), .val (.ref a2), .val (.ref a2)] [])) _
    refine XS.aloadN X4.here hx rfl (hb hby d5_12) rfl rfl ?_
    show Steps p.tables e below (T4.setTop (mkF m 13 #[.val (.ref a1), .val (.ref a2), .val (.ref a2)] [(.ref a2)])) _
    refine st6 _ ?_
    show Steps p.tables e below (T6.setTop (mkF m 16 #[.val (.ref a1), .val (.ref a2), .val (.ref a2)] [(.int w5)])) _
    refine XS.aloadN X6.here hx rfl (hb hby d5_16) rfl rfl ?_
    show Steps p.tables e below (T6.setTop (mkF m 17 #[.val (.ref a1), .val (.ref a2), .val (.ref a2)] [(.ref a1), (.int w5)])) _
    refine st8 _ ?_
    show Steps p.tables e below (T8.setTop (mkF m 20 #[.val (.ref a1), .val (.ref a2), .val (.ref a2)] [(.int w7), (.int w5)])) _
    refine XS.icmpNo X8.here hx rfl (hb hby d5_20) rfl (teq hc20).2 ?_
    show Steps p.tables e below (T8.setTop (mkF m 23 #[.val (.ref a1), .val (.ref a2), .val (.ref a2)] [])) _
    refine XS.aloadN X8.here hx rfl (hb hby d5_23) rfl rfl ?_
    show Steps p.tables e below (T8.setTop (mkF m 24 #[.val (.ref a1), .val (.ref a2), .val (.ref a2)] [(.ref a2)])) _
    refine st10 _ ?_
    show Steps p.tables e below (T10.setTop (mkF m 27 #[.val (.ref a1), .val (.ref a2), .val (.ref a2)] [(.int w9)])) _
    refine XS.aloadN X10.here hx rfl (hb hby d5_27) rfl rfl ?_
    show Steps p.tables e below (T10.setTop (mkF m 28 #[.val (.ref a1), .val (.ref a2), .val (.ref a2)] [(.ref a1), (.int w9)])) _
    refine st12 _ ?_
    show Steps p.tables e below (T12.setTop (mkF m 31 #[.val (.ref a1), .val (.ref a2), .val (.ref a2)] [(.int w11), (.int w9)])) _
    refine XS.icmpNo X12.here hx rfl (hb hby d5_31) rfl (teq hc31).2 ?_
    show Steps p.tables e below (T12.setTop (mkF m 34 #[.val (.ref a1), .val (.ref a2), .val (.ref a2)] [])) _
    refine XS.aloadN X12.here hx rfl (hb hby d5_34) rfl rfl ?_
    show Steps p.tables e below (T12.setTop (mkF m 35 #[.val (.ref a1), .val (.ref a2), .val (.ref a2)] [(.ref a2)])) _
    refine st14 _ ?_
    show Steps p.tables e below (T14.setTop (mkF m 38 #[.val (.ref a1), .val (.ref a2), .val (.ref a2)] [(.int w13)])) _
    refine XS.aloadN X14.here hx rfl (hb hby d5_38) rfl rfl ?_
    show Steps p.tables e below (T14.setTop (mkF m 39 #[.val (.ref a1), .val (.ref a2), .val (.ref a2)] [(.ref a1), (.int w13)])) _
    refine st16 _ ?_
    show Steps p.tables e below (T16.setTop (mkF m 42 #[.val (.ref a1), .val (.ref a2), .val (.ref a2)] [(.int w15), (.int w13)])) _
    refine XS.icmpNo X16.here hx rfl (hb hby d5_42) rfl (teq hc42).2 ?_
    show Steps p.tables e below (T16.setTop (mkF m 45 #[.val (.ref a1), .val (.ref a2), .val (.ref a2)] [])) _
    refine XS.iconst X16.here hx rfl (hb hby d5_45) ?_
    show Steps p.tables e below (T16.setTop (mkF m 46 #[.val (.ref a1), .val (.ref a2), .val (.ref a2)] [(.int (1 : Int32))])) _
    refine XS.goto X16.here hx rfl (pc0 := 46) (pc' := 50) rfl (hb hby d5_46) (by decide) (by decide) ?_
    show Steps p.tables e below (T16.setTop (mkF m 50 #[.val (.ref a1), .val (.ref a2), .val (.ref a2)] [(.int (1 : Int32))])) _
    exact retN X16 hx (t := .boolean) Bd.returns (by simp) (hb hby d5_50) hr
  · show Qv (some (.int (1 : Int32))) h0 n0 _ T16.heap _
    rw [e16]
    exact ⟨rfl, N0, rfl⟩
set_option maxRecDepth 65536 in
set_option maxHeartbeats 40000000 in
theorem rm5_no (l : Launch) (Z : State) (a0 : Array Value) (hw : ∀ d ∈ tables_1, d.before a0 Z = true) (ws : List Jvm.Cond) (a1 : Addr) (a2 : Addr) (CC_a2 : String) (h0 : Heap) (n0 : Nat) (Z0 : n0 ≤ h0.size) (I_a2 : Ins Z h0 a2 "com/example/telegrid/telegrid/erp1/Eep" false) (X_a2 : Exa Z h0 a2 CC_a2) :
    MetFree l (⟨"com/example/telegrid/telegrid/erp1/Eep", "equals", "(Ljava/lang/Object;)Z"⟩ : MethodName) (head1 (Jvm.Cond.code (⟨"com/example/telegrid/telegrid/erp1/Eep", "equals", "(Ljava/lang/Object;)Z"⟩ : MethodName) prog_50_method_9_code 3 (some .boolean) :: ws) ({ frames := 0, cells := 0, slots := 0, locals := 0 } : Room)) (fun a U => a = #[(.ref a1), (.ref a2)] ∧ Z.Warmed39 U.vm ∧ U.heap = h0) (fun _ _ _ _ _ => True) (fun _ U o U' => ∃ v L, o = .returned v ∧ Qv (some (.int (0 : Int32))) h0 n0 v U'.heap L ∧ FrameEnd U o U' L ({ frames := 0, cells := 0, slots := 0, locals := 0 } : Room).cells ({ frames := 0, cells := 0, slots := 0, locals := 0 } : Room).slots) := by
  refine MetFree.of_bodySF (plainFor_of_name pn_5) hisR ?_
  intro p e s m args below meth c s₁ Bd hml0 hP hK
  obtain ⟨rfl, hZ, hh⟩ := hP
  have hx := Bd.exec
  have hby := Bd.bytes
  have hml : c.maxLocals = 3 := hml0
  have hown : s.vm.findClass "com/example/telegrid/telegrid/erp1/Eep" = some m.cls := findClass_of_methodNamed Bd.named
  have hnm := (name_of_methodNamed Bd.named Bd.method).1
  have X0 : Stand p l e ({ frames := 0, cells := 0, slots := 0, locals := 0 } : Room) s m #[(.ref a1), (.ref a2)] below meth c s₁ [] 0 0 := Stand.of_body Bd
  have e0 : s₁.heap = h0 := by rw [← hh, Bd.state]; rfl
  have N0 := Fr.nil n0
  have pre0 : ∀ t, Steps p.tables e below (s₁.setTop (mkF m 0 #[.val (.ref a1), .val (.ref a2), .unset] [])) t → Steps p.tables e below (s₁.setTop (entryFrame m #[(.ref a1), (.ref a2)] 3)) t := fun t k => castTop (ef_5 m a1 a2) k
  -- 3. LAWS
  obtain ⟨T3, X3, e3, st3⟩ := instN X0 hx hZ hown (hw _ (List.mem_of_getElem? (i := 31) rfl)) e0 (hh.symm ▸ I_a2) (hh.symm ▸ X_a2) (g := (mkF m 1 #[.val (.ref a1), .val (.ref a2), .unset] [(.ref a2)])) rfl rfl (hb hby d5_1)
  obtain ⟨fs, hr, hrun, hended, hW, hsame⟩ := X3.leave (v := some (.int (0 : Int32))) (fun h => by rw [Bd.returns] at h; cases h)
  refine ⟨_, _, pre0 _ ?_, hrun, hended, _, _, rfl, ?_, ⟨_, rfl⟩, hW, hsame.mono (by decide) (by decide)⟩
  -- 4. STEPS
  · show Steps p.tables e below (s₁.setTop (mkF m 0 #[.val (.ref a1), .val (.ref a2), .unset] [])) _
    refine XS.aloadN X0.here hx rfl (hb hby d5_0) rfl rfl ?_
    show Steps p.tables e below (s₁.setTop (mkF m 1 #[.val (.ref a1), .val (.ref a2), .unset] [(.ref a2)])) _
    refine st3 _ ?_
    show Steps p.tables e below (T3.setTop (mkF m 4 #[.val (.ref a1), .val (.ref a2), .unset] [(.int (0 : Int32))])) _
    refine XS.ifYes X3.here hx rfl (pc0 := 4) (pc' := 49) rfl (hb hby d5_4) rfl ((if0 _ _).trans (teq (rfl : (0 : Int32) = (0 : Int32))).1) (by decide) (by decide) ?_
    show Steps p.tables e below (T3.setTop (mkF m 49 #[.val (.ref a1), .val (.ref a2), .unset] [])) _
    refine XS.iconst X3.here hx rfl (hb hby d5_49) ?_
    show Steps p.tables e below (T3.setTop (mkF m 50 #[.val (.ref a1), .val (.ref a2), .unset] [(.int (0 : Int32))])) _
    exact retN X3 hx (t := .boolean) Bd.returns (by simp) (hb hby d5_50) hr
  · show Qv (some (.int (0 : Int32))) h0 n0 _ T3.heap _
    rw [e3]
    exact ⟨rfl, N0, rfl⟩
theorem ef_5_null (m : MethodId) (x0 : Addr) : entryFrame m #[(.ref x0), .null] 3 = mkF m 0 #[.val (.ref x0), .val .null, .unset] [] := by first | (simp [entryFrame, mkF, argsToLocals, Value.category]; done) | rfl
set_option maxRecDepth 65536 in
set_option maxHeartbeats 40000000 in
theorem rm5_null (l : Launch) (Z : State) (a0 : Array Value) (hw : ∀ d ∈ tables_1, d.before a0 Z = true) (ws : List Jvm.Cond) (a1 : Addr) (h0 : Heap) (n0 : Nat) (Z0 : n0 ≤ h0.size) :
    MetFree l (⟨"com/example/telegrid/telegrid/erp1/Eep", "equals", "(Ljava/lang/Object;)Z"⟩ : MethodName) (head1 (Jvm.Cond.code (⟨"com/example/telegrid/telegrid/erp1/Eep", "equals", "(Ljava/lang/Object;)Z"⟩ : MethodName) prog_50_method_9_code 3 (some .boolean) :: ws) ({ frames := 0, cells := 0, slots := 0, locals := 0 } : Room)) (fun a U => a = #[(.ref a1), .null] ∧ Z.Warmed39 U.vm ∧ U.heap = h0) (fun _ _ _ _ _ => True) (fun _ U o U' => ∃ v L, o = .returned v ∧ Qv (some (.int (0 : Int32))) h0 n0 v U'.heap L ∧ FrameEnd U o U' L ({ frames := 0, cells := 0, slots := 0, locals := 0 } : Room).cells ({ frames := 0, cells := 0, slots := 0, locals := 0 } : Room).slots) := by
  refine MetFree.of_bodySF (plainFor_of_name pn_5) hisR ?_
  intro p e s m args below meth c s₁ Bd hml0 hP hK
  obtain ⟨rfl, hZ, hh⟩ := hP
  have hx := Bd.exec
  have hby := Bd.bytes
  have hml : c.maxLocals = 3 := hml0
  have hown : s.vm.findClass "com/example/telegrid/telegrid/erp1/Eep" = some m.cls := findClass_of_methodNamed Bd.named
  have hnm := (name_of_methodNamed Bd.named Bd.method).1
  have X0 : Stand p l e ({ frames := 0, cells := 0, slots := 0, locals := 0 } : Room) s m #[(.ref a1), .null] below meth c s₁ [] 0 0 := Stand.of_body Bd
  have e0 : s₁.heap = h0 := by rw [← hh, Bd.state]; rfl
  have N0 := Fr.nil n0
  have pre0 : ∀ t, Steps p.tables e below (s₁.setTop (mkF m 0 #[.val (.ref a1), .val .null, .unset] [])) t → Steps p.tables e below (s₁.setTop (entryFrame m #[(.ref a1), .null] 3)) t := fun t k => castTop (ef_5_null m a1) k
  -- 3. LAWS

  obtain ⟨fs, hr, hrun, hended, hW, hsame⟩ := X0.leave (v := some (.int (0 : Int32))) (fun h => by rw [Bd.returns] at h; cases h)
  refine ⟨_, _, pre0 _ ?_, hrun, hended, _, _, rfl, ?_, ⟨_, rfl⟩, hW, hsame.mono (by decide) (by decide)⟩
  -- 4. STEPS
  · show Steps p.tables e below (s₁.setTop (mkF m 0 #[.val (.ref a1), .val .null, .unset] [])) _
    refine XS.aloadN X0.here hx rfl (hb hby d5_0) rfl rfl ?_
    show Steps p.tables e below (s₁.setTop (mkF m 1 #[.val (.ref a1), .val .null, .unset] [.null])) _
    refine X0.instanceofNull hx (g := (mkF m 1 #[.val (.ref a1), .val .null, .unset] [.null])) rfl rfl (hb hby d5_1) _ ?_
    show Steps p.tables e below (s₁.setTop (mkF m 4 #[.val (.ref a1), .val .null, .unset] [(.int (0 : Int32))])) _
    refine XS.ifYes X0.here hx rfl (pc0 := 4) (pc' := 49) rfl (hb hby d5_4) rfl ((if0 _ _).trans (teq (rfl : (0 : Int32) = (0 : Int32))).1) (by decide) (by decide) ?_
    show Steps p.tables e below (s₁.setTop (mkF m 49 #[.val (.ref a1), .val .null, .unset] [])) _
    refine XS.iconst X0.here hx rfl (hb hby d5_49) ?_
    show Steps p.tables e below (s₁.setTop (mkF m 50 #[.val (.ref a1), .val .null, .unset] [(.int (0 : Int32))])) _
    exact retN X0 hx (t := .boolean) Bd.returns (by simp) (hb hby d5_50) hr
  · show Qv (some (.int (0 : Int32))) h0 n0 _ s₁.heap _
    rw [e0]
    exact ⟨rfl, N0, rfl⟩
theorem rm5 (l : Launch) (Z : State) (a0 : Array Value) (hw : ∀ d ∈ tables_1, d.before a0 Z = true) (ws : List Jvm.Cond) (a1 a2 : Addr) (x1 x2 x3 y1 y2 y3 : Int32) (h0 : Heap) (n0 : Nat) (Z0 : n0 ≤ h0.size) (E2 : Exa Z h0 a2 "com/example/telegrid/telegrid/erp1/Eep") (X1 : Fld Z h0 a1 "com/example/telegrid/telegrid/erp1/Eep" "rorg" "I" (.int x1)) (X2 : Fld Z h0 a1 "com/example/telegrid/telegrid/erp1/Eep" "func" "I" (.int x2)) (X3 : Fld Z h0 a1 "com/example/telegrid/telegrid/erp1/Eep" "type" "I" (.int x3)) (Y1 : Fld Z h0 a2 "com/example/telegrid/telegrid/erp1/Eep" "rorg" "I" (.int y1)) (Y2 : Fld Z h0 a2 "com/example/telegrid/telegrid/erp1/Eep" "func" "I" (.int y2)) (Y3 : Fld Z h0 a2 "com/example/telegrid/telegrid/erp1/Eep" "type" "I" (.int y3)) :
    MetFree l (⟨"com/example/telegrid/telegrid/erp1/Eep", "equals", "(Ljava/lang/Object;)Z"⟩ : MethodName) (head1 (Jvm.Cond.code (⟨"com/example/telegrid/telegrid/erp1/Eep", "equals", "(Ljava/lang/Object;)Z"⟩ : MethodName) prog_50_method_9_code 3 (some .boolean) :: ws) ({ frames := 0, cells := 0, slots := 0, locals := 0 } : Room)) (fun a U => a = #[(.ref a1), (.ref a2)] ∧ Z.Warmed39 U.vm ∧ U.heap = h0) (fun _ _ _ _ _ => True) (fun _ U o U' => ∃ v L, o = .returned v ∧ Qv (some (.int (own_eq3 x1 x2 x3 y1 y2 y3))) h0 n0 v U'.heap L ∧ FrameEnd U o U' L ({ frames := 0, cells := 0, slots := 0, locals := 0 } : Room).cells ({ frames := 0, cells := 0, slots := 0, locals := 0 } : Room).slots) := by
  by_cases h1 : y1 = x1
  · by_cases h2 : y2 = x2
    · by_cases h3 : y3 = x3
      · have e : own_eq3 x1 x2 x3 y1 y2 y3 = 1 := by simp [own_eq3, h1, h2, h3]
        rw [e]; exact rm5_ffff l Z a0 hw ws a1 a2 y1 x1 y2 x2 y3 x3 h0 n0 Z0 (Ins.self E2) Y1 X1 Y2 X2 Y3 X3 (by decide) h1 h2 h3
      · have e : own_eq3 x1 x2 x3 y1 y2 y3 = 0 := by simp [own_eq3, h3]
        rw [e]; exact rm5_ffft l Z a0 hw ws a1 a2 y1 x1 y2 x2 y3 x3 h0 n0 Z0 (Ins.self E2) Y1 X1 Y2 X2 Y3 X3 (by decide) h1 h2 h3
    · have e : own_eq3 x1 x2 x3 y1 y2 y3 = 0 := by simp [own_eq3, h2]
      rw [e]; exact rm5_fft l Z a0 hw ws a1 a2 y1 x1 y2 x2 h0 n0 Z0 (Ins.self E2) Y1 X1 Y2 X2 (by decide) h1 h2
  · have e : own_eq3 x1 x2 x3 y1 y2 y3 = 0 := by simp [own_eq3, h1]
    rw [e]; exact rm5_ft l Z a0 hw ws a1 a2 y1 x1 h0 n0 Z0 (Ins.self E2) Y1 X1 (by decide) h1
theorem pn_0 : plainName "com/example/telegrid/telegrid/erp1/EepEqualsPinLaw" = true := by first | (simp [plainName, overriddenIn]; done) | decide +kernel
theorem pd_0_0 : parseMethodDescriptor "(III)I" = some ⟨[.int, .int, .int], some .int⟩ := by decide +kernel
theorem pd_0_1 : parseMethodDescriptor "(III)V" = some ⟨[.int, .int, .int], none⟩ := by decide +kernel
theorem pd_0_3 : parseMethodDescriptor "(I)Ljava/lang/Integer;" = some ⟨[.int], some (.object "java/lang/Integer")⟩ := by decide +kernel
theorem pd_0_4 : parseMethodDescriptor "(Ljava/lang/Object;)Z" = some ⟨[(.object "java/lang/Object")], some .boolean⟩ := by decide +kernel
theorem ef_0 (m : MethodId) (x0 : Int32) (x1 : Int32) (x2 : Int32) (x3 : Int32) (x4 : Int32) (x5 : Int32) : entryFrame m #[(.int x0), (.int x1), (.int x2), (.int x3), (.int x4), (.int x5)] maxLocals = mkF m 0 #[.val (.int x0), .val (.int x1), .val (.int x2), .val (.int x3), .val (.int x4), .val (.int x5), .unset, .unset, .unset, .unset, .unset, .unset, .unset, .unset, .unset, .unset] [] := by first | (simp [entryFrame, mkF, argsToLocals, Value.category, maxLocals]; done) | rfl
set_option maxRecDepth 65536 in
set_option maxHeartbeats 40000000 in
theorem rm0_fff (l : Launch) (Z : State) (a0 : Array Value) (hw : ∀ d ∈ tables_1, d.before a0 Z = true) (ws : List Jvm.Cond) (p1 : Int32) (p2 : Int32) (p3 : Int32) (p4 : Int32) (p5 : Int32) (p6 : Int32) (h0 : Heap) (n0 : Nat) (Z0 : n0 ≤ h0.size) (w4 : Addr) (cl : Cell) (SH : Sta Z h0 "java/lang/Integer$IntegerCache" "high" "I" (.int (127 : Int32))) (SC : Sta Z h0 "java/lang/Integer$IntegerCache" "cache" "[Ljava/lang/Integer;" (.ref w4)) (AC : Arr Z h0 w4 cl (.object "java/lang/Integer")) (hsz : cl.slots.size = 256) (BC : ∀ j : Int32, ¬ (j < 0 ∨ cl.slots.size ≤ j.toNatClampNeg) → ∃ b : Addr, cl.slots[j.toNatClampNeg]? = some (.ref b) ∧ Exa Z h0 b "java/lang/Integer") (hE0 : (p1 &&& (255 : Int32)) = (own_pick p4 p4 (p1 &&& (255 : Int32)))) (hE1 : (p2 &&& (255 : Int32)) = (own_pick p5 p5 (p2 &&& (255 : Int32)))) (hE2 : (p3 &&& (255 : Int32)) = (own_pick p6 p6 (p3 &&& (255 : Int32)))) (hv : own_eq3 (p1 &&& (255 : Int32)) (p2 &&& (255 : Int32)) (p3 &&& (255 : Int32)) (own_pick p4 p4 (p1 &&& (255 : Int32))) (own_pick p5 p5 (p2 &&& (255 : Int32))) (own_pick p6 p6 (p3 &&& (255 : Int32))) = 1) (hv2 : own_eq3 (own_pick p4 p4 (p1 &&& (255 : Int32))) (own_pick p5 p5 (p2 &&& (255 : Int32))) (own_pick p6 p6 (p3 &&& (255 : Int32))) (p1 &&& (255 : Int32)) (p2 &&& (255 : Int32)) (p3 &&& (255 : Int32)) = 1) :
    MetFree l x (head1 (Jvm.Cond.code x code maxLocals ret :: ws) room_1) (fun a U => a = #[(.int p1), (.int p2), (.int p3), (.int p4), (.int p5), (.int p6)] ∧ Z.Warmed39 U.vm ∧ U.heap = h0) (fun _ _ _ _ _ => True) (fun _ U o U' => ∃ v L, o = .returned v ∧ Ql (some (.int (1 : Int32))) n0 v L ∧ FrameEnd U o U' L room_1.cells room_1.slots) := by
  refine MetFree.of_bodySF (plainFor_of_name pn_0) hisR ?_
  intro p e s m args below meth c s₁ Bd hml0 hP hK
  obtain ⟨rfl, hZ, hh⟩ := hP
  have hx := Bd.exec
  have hby := Bd.bytes
  have hml : c.maxLocals = 16 := hml0
  have hown : s.vm.findClass "com/example/telegrid/telegrid/erp1/EepEqualsPinLaw" = some m.cls := findClass_of_methodNamed Bd.named
  have hnm := (name_of_methodNamed Bd.named Bd.method).1
  have X0 : Stand p l e room_1 s m #[(.int p1), (.int p2), (.int p3), (.int p4), (.int p5), (.int p6)] below meth c s₁ [] 0 0 := Stand.of_body Bd
  have e0 : s₁.heap = h0 := by rw [← hh, Bd.state]; rfl
  have N0 := Fr.nil n0
  have pre0 : ∀ t, Steps p.tables e below (s₁.setTop (mkF m 0 #[.val (.int p1), .val (.int p2), .val (.int p3), .val (.int p4), .val (.int p5), .val (.int p6), .unset, .unset, .unset, .unset, .unset, .unset, .unset, .unset, .unset, .unset] [])) t → Steps p.tables e below (s₁.setTop (entryFrame m #[(.int p1), (.int p2), (.int p3), (.int p4), (.int p5), (.int p6)] maxLocals)) t := fun t k => castTop (ef_0 m p1 p2 p3 p4 p5 p6) k
  -- 3. LAWS
  -- pc 25: com/example/telegrid/telegrid/erp1/EepEqualsPinLaw.pick by its contract rm1
  obtain ⟨_, _, ⟨T7, L7, k7, n7⟩, -, X7, ⟨Lc7, hQ7, l7, y7, z7⟩, st7⟩ := Jvm.LawKit.callS X0 hx (y := (⟨"com/example/telegrid/telegrid/erp1/EepEqualsPinLaw", "pick", "(III)I"⟩ : MethodName)) hown (mvT hZ (hw _ (List.mem_of_getElem? (i := 0) rfl))) (mvT hZ (hw _ (List.mem_of_getElem? (i := 1) rfl))) (mvT hZ (hw _ (List.mem_of_getElem? (i := 2) rfl))) (mvT hZ (hw _ (List.mem_of_getElem? (i := 3) rfl))) (by decide) (backOf (W := 0) (rm1 l Z a0 hw [] p4 p4 (p1 &&& (255 : Int32)) h0 n0 Z0) hZ (hw _ (List.mem_of_getElem? (i := 3) rfl)) (hw _ (List.mem_of_getElem? (i := 2) rfl)) (by decide) (by decide)) (g := (mkF m 25 #[.val (.int p1), .val (.int p2), .val (.int p3), .val (.int p4), .val (.int p5), .val (.int p6), .val (.int (p1 &&& (255 : Int32))), .val (.int (p2 &&& (255 : Int32))), .val (.int (p3 &&& (255 : Int32))), .unset, .unset, .unset, .unset, .unset, .unset, .unset] [(.int (p1 &&& (255 : Int32))), (.int p4), (.int p4)])) rfl (by rw [hml]; rfl) (argsL := [(.int p4), (.int p4), (.int (p1 &&& (255 : Int32)))]) (rest := []) (lenOf pd_0_0 rfl) rfl (by show 2 * 0 + _ ≤ _; exact Nat.le_of_eq rfl) (hb hby at_25) (fun _ _ => ⟨rfl, e0, (by decide : 0 + 0 ≤ _), (by decide : 0 + 0 ≤ _)⟩)
  dsimp only [Pt.U, Pt.locs, Pt.cells, Pt.slots] at X7 l7 y7 z7 st7 hQ7
  subst l7 y7 z7
  obtain ⟨rfl, N7q, e7⟩ := hQ7
  have N7 := Fr.app N0 N7q
  have Kc7 : Keep h0 T7.heap [] := own_kp e7
  -- pc 36: com/example/telegrid/telegrid/erp1/EepEqualsPinLaw.pick by its contract rm1
  obtain ⟨_, _, ⟨T8, L8, k8, n8⟩, -, X8, ⟨Lc8, hQ8, l8, y8, z8⟩, st8⟩ := Jvm.LawKit.callS X7 hx (y := (⟨"com/example/telegrid/telegrid/erp1/EepEqualsPinLaw", "pick", "(III)I"⟩ : MethodName)) hown (mvT hZ (hw _ (List.mem_of_getElem? (i := 0) rfl))) (mvT hZ (hw _ (List.mem_of_getElem? (i := 1) rfl))) (mvT hZ (hw _ (List.mem_of_getElem? (i := 2) rfl))) (mvT hZ (hw _ (List.mem_of_getElem? (i := 3) rfl))) (by decide) (backOf (W := 0) (rm1 l Z a0 hw [] p5 p5 (p2 &&& (255 : Int32)) T7.heap n0 (Nat.le_trans Z0 Kc7.1)) hZ (hw _ (List.mem_of_getElem? (i := 3) rfl)) (hw _ (List.mem_of_getElem? (i := 2) rfl)) (by decide) (by decide)) (g := (mkF m 36 #[.val (.int p1), .val (.int p2), .val (.int p3), .val (.int p4), .val (.int p5), .val (.int p6), .val (.int (p1 &&& (255 : Int32))), .val (.int (p2 &&& (255 : Int32))), .val (.int (p3 &&& (255 : Int32))), .val (.int (own_pick p4 p4 (p1 &&& (255 : Int32)))), .unset, .unset, .unset, .unset, .unset, .unset] [(.int (p2 &&& (255 : Int32))), (.int p5), (.int p5)])) rfl (by rw [hml]; rfl) (argsL := [(.int p5), (.int p5), (.int (p2 &&& (255 : Int32)))]) (rest := []) (lenOf pd_0_0 rfl) rfl (by show 2 * 0 + _ ≤ _; exact Nat.le_of_eq rfl) (hb hby at_36) (fun _ _ => ⟨rfl, rfl, (by decide : 0 + 0 ≤ _), (by decide : 0 + 0 ≤ _)⟩)
  dsimp only [Pt.U, Pt.locs, Pt.cells, Pt.slots] at X8 l8 y8 z8 st8 hQ8
  subst l8 y8 z8
  obtain ⟨rfl, N8q, e8⟩ := hQ8
  have N8 := Fr.app N7 N8q
  have Kc8 : Keep T7.heap T8.heap [] := own_kp e8
  -- pc 47: com/example/telegrid/telegrid/erp1/EepEqualsPinLaw.pick by its contract rm1
  obtain ⟨_, _, ⟨T9, L9, k9, n9⟩, -, X9, ⟨Lc9, hQ9, l9, y9, z9⟩, st9⟩ := Jvm.LawKit.callS X8 hx (y := (⟨"com/example/telegrid/telegrid/erp1/EepEqualsPinLaw", "pick", "(III)I"⟩ : MethodName)) hown (mvT hZ (hw _ (List.mem_of_getElem? (i := 0) rfl))) (mvT hZ (hw _ (List.mem_of_getElem? (i := 1) rfl))) (mvT hZ (hw _ (List.mem_of_getElem? (i := 2) rfl))) (mvT hZ (hw _ (List.mem_of_getElem? (i := 3) rfl))) (by decide) (backOf (W := 0) (rm1 l Z a0 hw [] p6 p6 (p3 &&& (255 : Int32)) T8.heap n0 (Nat.le_trans (Nat.le_trans Z0 Kc7.1) Kc8.1)) hZ (hw _ (List.mem_of_getElem? (i := 3) rfl)) (hw _ (List.mem_of_getElem? (i := 2) rfl)) (by decide) (by decide)) (g := (mkF m 47 #[.val (.int p1), .val (.int p2), .val (.int p3), .val (.int p4), .val (.int p5), .val (.int p6), .val (.int (p1 &&& (255 : Int32))), .val (.int (p2 &&& (255 : Int32))), .val (.int (p3 &&& (255 : Int32))), .val (.int (own_pick p4 p4 (p1 &&& (255 : Int32)))), .val (.int (own_pick p5 p5 (p2 &&& (255 : Int32)))), .unset, .unset, .unset, .unset, .unset] [(.int (p3 &&& (255 : Int32))), (.int p6), (.int p6)])) rfl (by rw [hml]; rfl) (argsL := [(.int p6), (.int p6), (.int (p3 &&& (255 : Int32)))]) (rest := []) (lenOf pd_0_0 rfl) rfl (by show 2 * 0 + _ ≤ _; exact Nat.le_of_eq rfl) (hb hby at_47) (fun _ _ => ⟨rfl, rfl, (by decide : 0 + 0 ≤ _), (by decide : 0 + 0 ≤ _)⟩)
  dsimp only [Pt.U, Pt.locs, Pt.cells, Pt.slots] at X9 l9 y9 z9 st9 hQ9
  subst l9 y9 z9
  obtain ⟨rfl, N9q, e9⟩ := hQ9
  have N9 := Fr.app N8 N9q
  have Kc9 : Keep T8.heap T9.heap [] := own_kp e9
  have Kh9 : Keep h0 T9.heap [] := (Kc7.trans Kc8 all0).trans Kc9 all0
  obtain ⟨T10, h10, X10, e10, E10, A10, D10, -, st10⟩ := newO X9 hx hZ hown (hw _ (List.mem_of_getElem? (i := 4) rfl)) (hw _ (List.mem_of_getElem? (i := 5) rfl)) (hw _ (List.mem_of_getElem? (i := 6) rfl)) rfl (g := (mkF m 52 #[.val (.int p1), .val (.int p2), .val (.int p3), .val (.int p4), .val (.int p5), .val (.int p6), .val (.int (p1 &&& (255 : Int32))), .val (.int (p2 &&& (255 : Int32))), .val (.int (p3 &&& (255 : Int32))), .val (.int (own_pick p4 p4 (p1 &&& (255 : Int32)))), .val (.int (own_pick p5 p5 (p2 &&& (255 : Int32)))), .val (.int (own_pick p6 p6 (p3 &&& (255 : Int32)))), .unset, .unset, .unset, .unset] [])) rfl (hb hby at_52) (by decide) (by decide)
  obtain ⟨b10, g10⟩ : ∃ z, z = T9.heap.size := ⟨_, rfl⟩      -- the fresh object's address
  rw [← g10] at A10 D10 st10      -- A10 : Exa Z h10 b10 "com/example/telegrid/telegrid/erp1/Eep"; E10 : Ext T9.heap h10 (carries every older fact: .ext E10)
  have F_rorg_b10 : Fld Z h10 b10 "com/example/telegrid/telegrid/erp1/Eep" "rorg" "I" (.int (0 : Int32)) := D10 (Or.inr (hw _ (List.mem_of_getElem? (i := 14) rfl))) (ty := .int) (by decide)
  have F_func_b10 : Fld Z h10 b10 "com/example/telegrid/telegrid/erp1/Eep" "func" "I" (.int (0 : Int32)) := D10 (Or.inr (hw _ (List.mem_of_getElem? (i := 16) rfl))) (ty := .int) (by decide)
  have F_type_b10 : Fld Z h10 b10 "com/example/telegrid/telegrid/erp1/Eep" "type" "I" (.int (0 : Int32)) := D10 (Or.inr (hw _ (List.mem_of_getElem? (i := 18) rfl))) (ty := .int) (by decide)
  have E_b10 := A10
  have g_b10 : n0 ≤ b10 := Nat.le_trans (Nat.le_trans (Nat.le_trans (Nat.le_trans Z0 Kc7.1) Kc8.1) Kc9.1) (Nat.le_of_eq g10.symm)
  have sz_b10 : h0.size ≤ b10 := (Nat.le_trans Kh9.1 (Nat.le_of_eq g10.symm))
  have K10 : Keep h0 h10 [] := Kh9.ext E10
  -- pc 62: the constructor of com/example/telegrid/telegrid/erp1/Eep by its contract rm2
  obtain ⟨_, _, ⟨T11, L11, k11, n11⟩, -, X11, ⟨Lc11, hQ11, l11, y11, z11⟩, st11⟩ := X10.specialBack hx (y := (⟨"com/example/telegrid/telegrid/erp1/Eep", "<init>", "(III)V"⟩ : MethodName)) rfl hown (mvT hZ (hw _ (List.mem_of_getElem? (i := 7) rfl))) (mvT hZ (hw _ (List.mem_of_getElem? (i := 8) rfl))) (mvT hZ (hw _ (List.mem_of_getElem? (i := 9) rfl))) (by decide) (backOf (W := 1) (rm2 l Z a0 hw [] b10 (p1 &&& (255 : Int32)) (p2 &&& (255 : Int32)) (p3 &&& (255 : Int32)) (.int (0 : Int32)) (.int (0 : Int32)) (.int (0 : Int32)) h10 n0 (Nat.le_trans Z0 K10.1) E_b10 F_rorg_b10 g_b10 F_func_b10 F_type_b10 (own_hi3 (own_hi p1) (own_hi p2) (own_hi p3))) hZ (hw _ (List.mem_of_getElem? (i := 9) rfl)) (hw _ (List.mem_of_getElem? (i := 6) rfl)) (by decide) (by decide)) (g := (mkF m 62 #[.val (.int p1), .val (.int p2), .val (.int p3), .val (.int p4), .val (.int p5), .val (.int p6), .val (.int (p1 &&& (255 : Int32))), .val (.int (p2 &&& (255 : Int32))), .val (.int (p3 &&& (255 : Int32))), .val (.int (own_pick p4 p4 (p1 &&& (255 : Int32)))), .val (.int (own_pick p5 p5 (p2 &&& (255 : Int32)))), .val (.int (own_pick p6 p6 (p3 &&& (255 : Int32)))), .unset, .unset, .unset, .unset] [(.int (p3 &&& (255 : Int32))), (.int (p2 &&& (255 : Int32))), (.int (p1 &&& (255 : Int32))), (.ref b10), (.ref b10)])) rfl (by rw [hml]; rfl) (Steps.refl _) (a := b10) (argsL := [(.int (p1 &&& (255 : Int32))), (.int (p2 &&& (255 : Int32))), (.int (p3 &&& (255 : Int32)))]) (rest := [(.ref b10)]) (lenOf pd_0_1 rfl) rfl (by show 2 * 0 + _ ≤ _; exact Nat.le_of_eq rfl) (hb hby at_62) (fun _ _ => ⟨rfl, e10, (by decide : 1 + 0 ≤ _), (by decide : 3 + 0 ≤ _)⟩)
  dsimp only [Pt.U, Pt.locs, Pt.cells, Pt.slots] at X11 l11 y11 z11 st11 hQ11
  subst l11 y11 z11
  obtain ⟨rfl, N11q, Kc11, EE11, R1_11, R2_11, R3_11⟩ := hQ11
  have N11 := Fr.app N9 N11q
  have Kh11 : Keep h0 T11.heap [] := K10.trans Kc11 (allS (Or.inr sz_b10) all0)
  obtain ⟨T12, h12, X12, e12, E12, A12, D12, -, st12⟩ := newO X11 hx hZ hown (hw _ (List.mem_of_getElem? (i := 4) rfl)) (hw _ (List.mem_of_getElem? (i := 5) rfl)) (hw _ (List.mem_of_getElem? (i := 6) rfl)) rfl (g := (mkF m 67 #[.val (.int p1), .val (.int p2), .val (.int p3), .val (.int p4), .val (.int p5), .val (.int p6), .val (.int (p1 &&& (255 : Int32))), .val (.int (p2 &&& (255 : Int32))), .val (.int (p3 &&& (255 : Int32))), .val (.int (own_pick p4 p4 (p1 &&& (255 : Int32)))), .val (.int (own_pick p5 p5 (p2 &&& (255 : Int32)))), .val (.int (own_pick p6 p6 (p3 &&& (255 : Int32)))), .val (.ref b10), .unset, .unset, .unset] [])) rfl (hb hby at_67) (by decide) (by decide)
  obtain ⟨b12, g12⟩ : ∃ z, z = T11.heap.size := ⟨_, rfl⟩      -- the fresh object's address
  rw [← g12] at A12 D12 st12      -- A12 : Exa Z h12 b12 "com/example/telegrid/telegrid/erp1/Eep"; E12 : Ext T11.heap h12 (carries every older fact: .ext E12)
  have F_rorg_b12 : Fld Z h12 b12 "com/example/telegrid/telegrid/erp1/Eep" "rorg" "I" (.int (0 : Int32)) := D12 (Or.inr (hw _ (List.mem_of_getElem? (i := 14) rfl))) (ty := .int) (by decide)
  have F_func_b12 : Fld Z h12 b12 "com/example/telegrid/telegrid/erp1/Eep" "func" "I" (.int (0 : Int32)) := D12 (Or.inr (hw _ (List.mem_of_getElem? (i := 16) rfl))) (ty := .int) (by decide)
  have F_type_b12 : Fld Z h12 b12 "com/example/telegrid/telegrid/erp1/Eep" "type" "I" (.int (0 : Int32)) := D12 (Or.inr (hw _ (List.mem_of_getElem? (i := 18) rfl))) (ty := .int) (by decide)
  have E_b12 := A12
  have g_b12 : n0 ≤ b12 := Nat.le_trans (Nat.le_trans (Nat.le_trans (Nat.le_trans (Nat.le_trans (Nat.le_trans Z0 Kc7.1) Kc8.1) Kc9.1) E10.1) Kc11.1) (Nat.le_of_eq g12.symm)
  have sz_b12 : h0.size ≤ b12 := (Nat.le_trans Kh11.1 (Nat.le_of_eq g12.symm))
  have K12 : Keep h0 h12 [] := Kh11.ext E12
  -- pc 77: the constructor of com/example/telegrid/telegrid/erp1/Eep by its contract rm2
  obtain ⟨_, _, ⟨T13, L13, k13, n13⟩, -, X13, ⟨Lc13, hQ13, l13, y13, z13⟩, st13⟩ := X12.specialBack hx (y := (⟨"com/example/telegrid/telegrid/erp1/Eep", "<init>", "(III)V"⟩ : MethodName)) rfl hown (mvT hZ (hw _ (List.mem_of_getElem? (i := 7) rfl))) (mvT hZ (hw _ (List.mem_of_getElem? (i := 8) rfl))) (mvT hZ (hw _ (List.mem_of_getElem? (i := 9) rfl))) (by decide) (backOf (W := 1) (rm2 l Z a0 hw [] b12 (own_pick p4 p4 (p1 &&& (255 : Int32))) (own_pick p5 p5 (p2 &&& (255 : Int32))) (own_pick p6 p6 (p3 &&& (255 : Int32))) (.int (0 : Int32)) (.int (0 : Int32)) (.int (0 : Int32)) h12 n0 (Nat.le_trans Z0 K12.1) E_b12 F_rorg_b12 g_b12 F_func_b12 F_type_b12 (own_hi3 (own_hip _ _ _ (own_hi p1)) (own_hip _ _ _ (own_hi p2)) (own_hip _ _ _ (own_hi p3)))) hZ (hw _ (List.mem_of_getElem? (i := 9) rfl)) (hw _ (List.mem_of_getElem? (i := 6) rfl)) (by decide) (by decide)) (g := (mkF m 77 #[.val (.int p1), .val (.int p2), .val (.int p3), .val (.int p4), .val (.int p5), .val (.int p6), .val (.int (p1 &&& (255 : Int32))), .val (.int (p2 &&& (255 : Int32))), .val (.int (p3 &&& (255 : Int32))), .val (.int (own_pick p4 p4 (p1 &&& (255 : Int32)))), .val (.int (own_pick p5 p5 (p2 &&& (255 : Int32)))), .val (.int (own_pick p6 p6 (p3 &&& (255 : Int32)))), .val (.ref b10), .unset, .unset, .unset] [(.int (own_pick p6 p6 (p3 &&& (255 : Int32)))), (.int (own_pick p5 p5 (p2 &&& (255 : Int32)))), (.int (own_pick p4 p4 (p1 &&& (255 : Int32)))), (.ref b12), (.ref b12)])) rfl (by rw [hml]; rfl) (Steps.refl _) (a := b12) (argsL := [(.int (own_pick p4 p4 (p1 &&& (255 : Int32)))), (.int (own_pick p5 p5 (p2 &&& (255 : Int32)))), (.int (own_pick p6 p6 (p3 &&& (255 : Int32))))]) (rest := [(.ref b12)]) (lenOf pd_0_1 rfl) rfl (by show 2 * 0 + _ ≤ _; exact Nat.le_of_eq rfl) (hb hby at_77) (fun _ _ => ⟨rfl, e12, (by decide : 2 + 0 ≤ _), (by decide : 6 + 0 ≤ _)⟩)
  dsimp only [Pt.U, Pt.locs, Pt.cells, Pt.slots] at X13 l13 y13 z13 st13 hQ13
  subst l13 y13 z13
  obtain ⟨rfl, N13q, Kc13, EB_13, S1_13, S2_13, S3_13⟩ := hQ13
  have N13 := Fr.app N11 N13q
  have Kh13 : Keep h0 T13.heap [] := K12.trans Kc13 (allS (Or.inr sz_b12) all0)
  have nAB : b10 ≠ b12 := Nat.ne_of_lt (by rw [g12]; exact R1_11.lt)
  have EA_13 := (EE11.ext E12).keep Kc13
  have R1_13 := (R1_11.ext E12).keep Kc13 (ninS nAB nin0)
  have R2_13 := (R2_11.ext E12).keep Kc13 (ninS nAB nin0)
  have R3_13 := (R3_11.ext E12).keep Kc13 (ninS nAB nin0)
  -- pc 111: java/lang/Integer.valueOf by its contract rm4
  obtain ⟨_, _, ⟨T14, L14, k14, n14⟩, -, X14, ⟨Lc14, hQ14, l14, y14, z14⟩, st14⟩ := Jvm.LawKit.callS X13 hx (y := (⟨"java/lang/Integer", "valueOf", "(I)Ljava/lang/Integer;"⟩ : MethodName)) hown (mvT hZ (hw _ (List.mem_of_getElem? (i := 19) rfl))) (mvT hZ (hw _ (List.mem_of_getElem? (i := 20) rfl))) (mvT hZ (hw _ (List.mem_of_getElem? (i := 21) rfl))) (mvT hZ (hw _ (List.mem_of_getElem? (i := 22) rfl))) (by decide) (backOf (W := 0) (rm4 l Z a0 hw [] p3 w4 cl T13.heap n0 (Nat.le_trans Z0 Kh13.1) (SH.ext (own_ext Kh13)) (SC.ext (own_ext Kh13)) (AC.ext (own_ext Kh13)) hsz (fun j hj => by obtain ⟨b, q1, q2⟩ := BC j hj; exact ⟨b, q1, q2.keep Kh13⟩)) hZ (hw _ (List.mem_of_getElem? (i := 22) rfl)) (hw _ (List.mem_of_getElem? (i := 21) rfl)) (by decide) (by decide)) (g := (mkF m 111 #[.val (.int p1), .val (.int p2), .val (.int p3), .val (.int p4), .val (.int p5), .val (.int p6), .val (.int (p1 &&& (255 : Int32))), .val (.int (p2 &&& (255 : Int32))), .val (.int (p3 &&& (255 : Int32))), .val (.int (own_pick p4 p4 (p1 &&& (255 : Int32)))), .val (.int (own_pick p5 p5 (p2 &&& (255 : Int32)))), .val (.int (own_pick p6 p6 (p3 &&& (255 : Int32)))), .val (.ref b10), .val (.ref b12), .val (.int (1 : Int32)), .unset] [(.int p3)])) rfl (by rw [hml]; rfl) (argsL := [(.int p3)]) (rest := []) (lenOf pd_0_3 rfl) rfl (by show 2 * 0 + _ ≤ _; exact Nat.le_of_eq rfl) (hb hby at_111) (fun _ _ => ⟨rfl, rfl, (by decide : 2 + 1 ≤ _), (by decide : 6 + 1 ≤ _)⟩)
  dsimp only [Pt.U, Pt.locs, Pt.cells, Pt.slots] at X14 l14 y14 z14 st14 hQ14
  subst l14 y14 z14
  obtain ⟨a14, rfl, N14q, Kc14, EO_14⟩ := hQ14
  have N14 := Fr.app N13 N14q
  have Kh14 : Keep h0 T14.heap [] := Kh13.trans Kc14 all0
  have R1_14 := R1_13.keep Kc14 nin0
  have R2_14 := R2_13.keep Kc14 nin0
  have R3_14 := R3_13.keep Kc14 nin0
  have S1_14 := S1_13.keep Kc14 nin0
  have S2_14 := S2_13.keep Kc14 nin0
  have S3_14 := S3_13.keep Kc14 nin0
  have EA_14 := EA_13.keep Kc14
  have EB_14 := EB_13.keep Kc14
  -- pc 120: com/example/telegrid/telegrid/erp1/Eep.equals by the contract of the body that the receiver's class selects, rm5
  obtain ⟨cq15, kq15, q15a, q15b, q15c⟩ := isOf hZ rfl ((((E_b10.keep Kc11).ext E12).keep Kc13).keep Kc14)
  obtain ⟨_, _, ⟨T15, L15, k15, n15⟩, -, X15, ⟨Lc15, hQ15, l15, y15, z15⟩, st15⟩ := X14.virtualBack hx (y := (⟨"com/example/telegrid/telegrid/erp1/Eep", "equals", "(Ljava/lang/Object;)Z"⟩ : MethodName)) (z := (⟨"com/example/telegrid/telegrid/erp1/Eep", "equals", "(Ljava/lang/Object;)Z"⟩ : MethodName)) hown (mvT hZ (hw _ (List.mem_of_getElem? (i := 26) rfl))) (mvT hZ (hw _ (List.mem_of_getElem? (i := 27) rfl))) (notFace_of_selects (args := #[]) (mvT hZ (hw _ (List.mem_of_getElem? (i := 29) rfl)))) (mvT hZ (hw _ (List.mem_of_getElem? (i := 29) rfl))) (mvT hZ (hw _ (List.mem_of_getElem? (i := 28) rfl))) (by decide) (backOf (W := 0) (rm5 l Z a0 hw [] b10 b12 (p1 &&& (255 : Int32)) (p2 &&& (255 : Int32)) (p3 &&& (255 : Int32)) (own_pick p4 p4 (p1 &&& (255 : Int32))) (own_pick p5 p5 (p2 &&& (255 : Int32))) (own_pick p6 p6 (p3 &&& (255 : Int32))) T14.heap n0 (Nat.le_trans Z0 Kh14.1) EB_14 R1_14 R2_14 R3_14 S1_14 S2_14 S3_14) hZ (hw _ (List.mem_of_getElem? (i := 30) rfl)) (hw _ (List.mem_of_getElem? (i := 6) rfl)) (by decide) (by decide)) q15a q15c (g := (mkF m 120 #[.val (.int p1), .val (.int p2), .val (.int p3), .val (.int p4), .val (.int p5), .val (.int p6), .val (.int (p1 &&& (255 : Int32))), .val (.int (p2 &&& (255 : Int32))), .val (.int (p3 &&& (255 : Int32))), .val (.int (own_pick p4 p4 (p1 &&& (255 : Int32)))), .val (.int (own_pick p5 p5 (p2 &&& (255 : Int32)))), .val (.int (own_pick p6 p6 (p3 &&& (255 : Int32)))), .val (.ref b10), .val (.ref b12), .val (.int (1 : Int32)), .val (.ref a14)] [(.ref b12), (.ref b10)])) rfl (by rw [hml]; rfl) (Steps.refl _) (argsL := [(.ref b12)]) (rest := []) (lenOf pd_0_4 rfl) rfl (by show 2 * 0 + _ ≤ _; exact Nat.le_of_eq rfl) (hb hby at_120) (fun _ _ => ⟨rfl, rfl, (by decide : 3 + 0 ≤ _), (by decide : 7 + 0 ≤ _)⟩)
  dsimp only [Pt.U, Pt.locs, Pt.cells, Pt.slots] at X15 l15 y15 z15 st15 hQ15
  subst l15 y15 z15
  obtain ⟨rfl, N15q, e15⟩ := hQ15
  have N15 := Fr.app N14 N15q
  have Kc15 : Keep T14.heap T15.heap [] := own_kp e15
  have Kh15 : Keep h0 T15.heap [] := Kh14.trans Kc15 all0
  have R1_15 := R1_14.keep Kc15 nin0
  have R2_15 := R2_14.keep Kc15 nin0
  have R3_15 := R3_14.keep Kc15 nin0
  have S1_15 := S1_14.keep Kc15 nin0
  have S2_15 := S2_14.keep Kc15 nin0
  have S3_15 := S3_14.keep Kc15 nin0
  have EA_15 := EA_14.keep Kc15
  have EB_15 := EB_14.keep Kc15
  have EO_15 := EO_14.keep Kc15
  -- pc 132: com/example/telegrid/telegrid/erp1/Eep.equals by the contract of the body that the receiver's class selects, rm5
  obtain ⟨cq16, kq16, q16a, q16b, q16c⟩ := isOf hZ rfl (((E_b12.keep Kc13).keep Kc14).keep Kc15)
  obtain ⟨_, _, ⟨T16, L16, k16, n16⟩, -, X16, ⟨Lc16, hQ16, l16, y16, z16⟩, st16⟩ := X15.virtualBack hx (y := (⟨"com/example/telegrid/telegrid/erp1/Eep", "equals", "(Ljava/lang/Object;)Z"⟩ : MethodName)) (z := (⟨"com/example/telegrid/telegrid/erp1/Eep", "equals", "(Ljava/lang/Object;)Z"⟩ : MethodName)) hown (mvT hZ (hw _ (List.mem_of_getElem? (i := 26) rfl))) (mvT hZ (hw _ (List.mem_of_getElem? (i := 27) rfl))) (notFace_of_selects (args := #[]) (mvT hZ (hw _ (List.mem_of_getElem? (i := 29) rfl)))) (mvT hZ (hw _ (List.mem_of_getElem? (i := 29) rfl))) (mvT hZ (hw _ (List.mem_of_getElem? (i := 28) rfl))) (by decide) (backOf (W := 0) (rm5 l Z a0 hw [] b12 b10 (own_pick p4 p4 (p1 &&& (255 : Int32))) (own_pick p5 p5 (p2 &&& (255 : Int32))) (own_pick p6 p6 (p3 &&& (255 : Int32))) (p1 &&& (255 : Int32)) (p2 &&& (255 : Int32)) (p3 &&& (255 : Int32)) T15.heap n0 (Nat.le_trans Z0 Kh15.1) EA_15 S1_15 S2_15 S3_15 R1_15 R2_15 R3_15) hZ (hw _ (List.mem_of_getElem? (i := 30) rfl)) (hw _ (List.mem_of_getElem? (i := 6) rfl)) (by decide) (by decide)) q16a q16c (g := (mkF m 132 #[.val (.int p1), .val (.int p2), .val (.int p3), .val (.int p4), .val (.int p5), .val (.int p6), .val (.int (p1 &&& (255 : Int32))), .val (.int (p2 &&& (255 : Int32))), .val (.int (p3 &&& (255 : Int32))), .val (.int (own_pick p4 p4 (p1 &&& (255 : Int32)))), .val (.int (own_pick p5 p5 (p2 &&& (255 : Int32)))), .val (.int (own_pick p6 p6 (p3 &&& (255 : Int32)))), .val (.ref b10), .val (.ref b12), .val (.int (1 : Int32)), .val (.ref a14)] [(.ref b10), (.ref b12)])) rfl (by rw [hml]; rfl) (Steps.refl _) (argsL := [(.ref b10)]) (rest := []) (lenOf pd_0_4 rfl) rfl (by show 2 * 0 + _ ≤ _; exact Nat.le_of_eq rfl) (hb hby at_132) (fun _ _ => ⟨rfl, rfl, (by decide : 3 + 0 ≤ _), (by decide : 7 + 0 ≤ _)⟩)
  dsimp only [Pt.U, Pt.locs, Pt.cells, Pt.slots] at X16 l16 y16 z16 st16 hQ16
  subst l16 y16 z16
  obtain ⟨rfl, N16q, e16⟩ := hQ16
  have N16 := Fr.app N15 N16q
  have Kc16 : Keep T15.heap T16.heap [] := own_kp e16
  have Kh16 : Keep h0 T16.heap [] := Kh15.trans Kc16 all0
  have R1_16 := R1_15.keep Kc16 nin0
  have R2_16 := R2_15.keep Kc16 nin0
  have R3_16 := R3_15.keep Kc16 nin0
  have S1_16 := S1_15.keep Kc16 nin0
  have S2_16 := S2_15.keep Kc16 nin0
  have S3_16 := S3_15.keep Kc16 nin0
  have EA_16 := EA_15.keep Kc16
  have EB_16 := EB_15.keep Kc16
  have EO_16 := EO_15.keep Kc16
  -- pc 144: com/example/telegrid/telegrid/erp1/Eep.equals by the contract of the body that the receiver's class selects, rm5
  obtain ⟨cq17, kq17, q17a, q17b, q17c⟩ := isOf hZ rfl ((((((E_b10.keep Kc11).ext E12).keep Kc13).keep Kc14).keep Kc15).keep Kc16)
  obtain ⟨_, _, ⟨T17, L17, k17, n17⟩, -, X17, ⟨Lc17, hQ17, l17, y17, z17⟩, st17⟩ := X16.virtualBack hx (y := (⟨"com/example/telegrid/telegrid/erp1/Eep", "equals", "(Ljava/lang/Object;)Z"⟩ : MethodName)) (z := (⟨"com/example/telegrid/telegrid/erp1/Eep", "equals", "(Ljava/lang/Object;)Z"⟩ : MethodName)) hown (mvT hZ (hw _ (List.mem_of_getElem? (i := 26) rfl))) (mvT hZ (hw _ (List.mem_of_getElem? (i := 27) rfl))) (notFace_of_selects (args := #[]) (mvT hZ (hw _ (List.mem_of_getElem? (i := 29) rfl)))) (mvT hZ (hw _ (List.mem_of_getElem? (i := 29) rfl))) (mvT hZ (hw _ (List.mem_of_getElem? (i := 28) rfl))) (by decide) (backOf (W := 0) (rm5 l Z a0 hw [] b10 b10 (p1 &&& (255 : Int32)) (p2 &&& (255 : Int32)) (p3 &&& (255 : Int32)) (p1 &&& (255 : Int32)) (p2 &&& (255 : Int32)) (p3 &&& (255 : Int32)) T16.heap n0 (Nat.le_trans Z0 Kh16.1) EA_16 R1_16 R2_16 R3_16 R1_16 R2_16 R3_16) hZ (hw _ (List.mem_of_getElem? (i := 30) rfl)) (hw _ (List.mem_of_getElem? (i := 6) rfl)) (by decide) (by decide)) q17a q17c (g := (mkF m 144 #[.val (.int p1), .val (.int p2), .val (.int p3), .val (.int p4), .val (.int p5), .val (.int p6), .val (.int (p1 &&& (255 : Int32))), .val (.int (p2 &&& (255 : Int32))), .val (.int (p3 &&& (255 : Int32))), .val (.int (own_pick p4 p4 (p1 &&& (255 : Int32)))), .val (.int (own_pick p5 p5 (p2 &&& (255 : Int32)))), .val (.int (own_pick p6 p6 (p3 &&& (255 : Int32)))), .val (.ref b10), .val (.ref b12), .val (.int (1 : Int32)), .val (.ref a14)] [(.ref b10), (.ref b10)])) rfl (by rw [hml]; rfl) (Steps.refl _) (argsL := [(.ref b10)]) (rest := []) (lenOf pd_0_4 rfl) rfl (by show 2 * 0 + _ ≤ _; exact Nat.le_of_eq rfl) (hb hby at_144) (fun _ _ => ⟨rfl, rfl, (by decide : 3 + 0 ≤ _), (by decide : 7 + 0 ≤ _)⟩)
  dsimp only [Pt.U, Pt.locs, Pt.cells, Pt.slots] at X17 l17 y17 z17 st17 hQ17
  subst l17 y17 z17
  obtain ⟨rfl, N17q, e17⟩ := hQ17
  have N17 := Fr.app N16 N17q
  have Kc17 : Keep T16.heap T17.heap [] := own_kp e17
  have Kh17 : Keep h0 T17.heap [] := Kh16.trans Kc17 all0
  have R1_17 := R1_16.keep Kc17 nin0
  have R2_17 := R2_16.keep Kc17 nin0
  have R3_17 := R3_16.keep Kc17 nin0
  have S1_17 := S1_16.keep Kc17 nin0
  have S2_17 := S2_16.keep Kc17 nin0
  have S3_17 := S3_16.keep Kc17 nin0
  have EA_17 := EA_16.keep Kc17
  have EB_17 := EB_16.keep Kc17
  have EO_17 := EO_16.keep Kc17
  -- pc 153: com/example/telegrid/telegrid/erp1/Eep.equals by the contract of the body that the receiver's class selects, rm5
  obtain ⟨cq18, kq18, q18a, q18b, q18c⟩ := isOf hZ rfl (((((((E_b10.keep Kc11).ext E12).keep Kc13).keep Kc14).keep Kc15).keep Kc16).keep Kc17)
  obtain ⟨_, _, ⟨T18, L18, k18, n18⟩, -, X18, ⟨Lc18, hQ18, l18, y18, z18⟩, st18⟩ := X17.virtualBack hx (y := (⟨"com/example/telegrid/telegrid/erp1/Eep", "equals", "(Ljava/lang/Object;)Z"⟩ : MethodName)) (z := (⟨"com/example/telegrid/telegrid/erp1/Eep", "equals", "(Ljava/lang/Object;)Z"⟩ : MethodName)) hown (mvT hZ (hw _ (List.mem_of_getElem? (i := 26) rfl))) (mvT hZ (hw _ (List.mem_of_getElem? (i := 27) rfl))) (notFace_of_selects (args := #[]) (mvT hZ (hw _ (List.mem_of_getElem? (i := 29) rfl)))) (mvT hZ (hw _ (List.mem_of_getElem? (i := 29) rfl))) (mvT hZ (hw _ (List.mem_of_getElem? (i := 28) rfl))) (by decide) (backOf (W := 0) (rm5_null l Z a0 hw [] b10 T17.heap n0 (Nat.le_trans Z0 Kh17.1)) hZ (hw _ (List.mem_of_getElem? (i := 30) rfl)) (hw _ (List.mem_of_getElem? (i := 6) rfl)) (by decide) (by decide)) q18a q18c (g := (mkF m 153 #[.val (.int p1), .val (.int p2), .val (.int p3), .val (.int p4), .val (.int p5), .val (.int p6), .val (.int (p1 &&& (255 : Int32))), .val (.int (p2 &&& (255 : Int32))), .val (.int (p3 &&& (255 : Int32))), .val (.int (own_pick p4 p4 (p1 &&& (255 : Int32)))), .val (.int (own_pick p5 p5 (p2 &&& (255 : Int32)))), .val (.int (own_pick p6 p6 (p3 &&& (255 : Int32)))), .val (.ref b10), .val (.ref b12), .val (.int (1 : Int32)), .val (.ref a14)] [.null, (.ref b10)])) rfl (by rw [hml]; rfl) (Steps.refl _) (argsL := [.null]) (rest := []) (lenOf pd_0_4 rfl) rfl (by show 2 * 0 + _ ≤ _; exact Nat.le_of_eq rfl) (hb hby at_153) (fun _ _ => ⟨rfl, rfl, (by decide : 3 + 0 ≤ _), (by decide : 7 + 0 ≤ _)⟩)
  dsimp only [Pt.U, Pt.locs, Pt.cells, Pt.slots] at X18 l18 y18 z18 st18 hQ18
  subst l18 y18 z18
  obtain ⟨rfl, N18q, e18⟩ := hQ18
  have N18 := Fr.app N17 N18q
  have Kc18 : Keep T17.heap T18.heap [] := own_kp e18
  have Kh18 : Keep h0 T18.heap [] := Kh17.trans Kc18 all0
  have EO_18 := EO_17.keep Kc18
  -- pc 163: com/example/telegrid/telegrid/erp1/Eep.equals by the contract of the body that the receiver's class selects, rm5
  obtain ⟨cq19, kq19, q19a, q19b, q19c⟩ := isOf hZ rfl ((((((((E_b10.keep Kc11).ext E12).keep Kc13).keep Kc14).keep Kc15).keep Kc16).keep Kc17).keep Kc18)
  obtain ⟨_, _, ⟨T19, L19, k19, n19⟩, -, X19, ⟨Lc19, hQ19, l19, y19, z19⟩, st19⟩ := X18.virtualBack hx (y := (⟨"com/example/telegrid/telegrid/erp1/Eep", "equals", "(Ljava/lang/Object;)Z"⟩ : MethodName)) (z := (⟨"com/example/telegrid/telegrid/erp1/Eep", "equals", "(Ljava/lang/Object;)Z"⟩ : MethodName)) hown (mvT hZ (hw _ (List.mem_of_getElem? (i := 26) rfl))) (mvT hZ (hw _ (List.mem_of_getElem? (i := 27) rfl))) (notFace_of_selects (args := #[]) (mvT hZ (hw _ (List.mem_of_getElem? (i := 29) rfl)))) (mvT hZ (hw _ (List.mem_of_getElem? (i := 29) rfl))) (mvT hZ (hw _ (List.mem_of_getElem? (i := 28) rfl))) (by decide) (backOf (W := 0) (rm5_no l Z a0 hw [] b10 a14 "java/lang/Integer" T18.heap n0 (Nat.le_trans Z0 Kh18.1) (own_notEep (hw _ (List.mem_of_getElem? (i := 33) rfl)) (hw _ (List.mem_of_getElem? (i := 5) rfl)) (NS.step (hw _ (List.mem_of_getElem? (i := 33) rfl)) (NS.step (hw _ (List.mem_of_getElem? (i := 34) rfl)) (own_NSroot (hw _ (List.mem_of_getElem? (i := 35) rfl)) (hw _ (List.mem_of_getElem? (i := 5) rfl)) (by decide)) (by decide)) (by decide)) (by decide) EO_18) EO_18) hZ (hw _ (List.mem_of_getElem? (i := 30) rfl)) (hw _ (List.mem_of_getElem? (i := 6) rfl)) (by decide) (by decide)) q19a q19c (g := (mkF m 163 #[.val (.int p1), .val (.int p2), .val (.int p3), .val (.int p4), .val (.int p5), .val (.int p6), .val (.int (p1 &&& (255 : Int32))), .val (.int (p2 &&& (255 : Int32))), .val (.int (p3 &&& (255 : Int32))), .val (.int (own_pick p4 p4 (p1 &&& (255 : Int32)))), .val (.int (own_pick p5 p5 (p2 &&& (255 : Int32)))), .val (.int (own_pick p6 p6 (p3 &&& (255 : Int32)))), .val (.ref b10), .val (.ref b12), .val (.int (1 : Int32)), .val (.ref a14)] [(.ref a14), (.ref b10)])) rfl (by rw [hml]; rfl) (Steps.refl _) (argsL := [(.ref a14)]) (rest := []) (lenOf pd_0_4 rfl) rfl (by show 2 * 0 + _ ≤ _; exact Nat.le_of_eq rfl) (hb hby at_163) (fun _ _ => ⟨rfl, rfl, (by decide : 3 + 0 ≤ _), (by decide : 7 + 0 ≤ _)⟩)
  dsimp only [Pt.U, Pt.locs, Pt.cells, Pt.slots] at X19 l19 y19 z19 st19 hQ19
  subst l19 y19 z19
  obtain ⟨rfl, N19q, e19⟩ := hQ19
  have N19 := Fr.app N18 N19q
  obtain ⟨fs, hr, hrun, hended, hW, hsame⟩ := X19.leave (v := some (.int (1 : Int32))) (fun h => by rw [Bd.returns] at h; cases h)
  refine ⟨_, _, pre0 _ ?_, hrun, hended, _, _, rfl, ?_, ⟨_, rfl⟩, hW, hsame.mono (by decide) (by decide)⟩
  -- 4. STEPS
  · show Steps p.tables e below (s₁.setTop (mkF m 0 #[.val (.int p1), .val (.int p2), .val (.int p3), .val (.int p4), .val (.int p5), .val (.int p6), .unset, .unset, .unset, .unset, .unset, .unset, .unset, .unset, .unset, .unset] [])) _
    refine XS.iloadN X0.here hx rfl (hb hby at_0) rfl ?_
    show Steps p.tables e below (s₁.setTop (mkF m 1 #[.val (.int p1), .val (.int p2), .val (.int p3), .val (.int p4), .val (.int p5), .val (.int p6), .unset, .unset, .unset, .unset, .unset, .unset, .unset, .unset, .unset, .unset] [(.int p1)])) _
    refine XS.sipush X0.here hx rfl (hb hby at_1) ?_
    show Steps p.tables e below (s₁.setTop (mkF m 4 #[.val (.int p1), .val (.int p2), .val (.int p3), .val (.int p4), .val (.int p5), .val (.int p6), .unset, .unset, .unset, .unset, .unset, .unset, .unset, .unset, .unset, .unset] [(.int (255 : Int32)), (.int p1)])) _
    refine XS.iand X0.here hx rfl (hb hby at_4) rfl ?_
    show Steps p.tables e below (s₁.setTop (mkF m 5 #[.val (.int p1), .val (.int p2), .val (.int p3), .val (.int p4), .val (.int p5), .val (.int p6), .unset, .unset, .unset, .unset, .unset, .unset, .unset, .unset, .unset, .unset] [(.int (p1 &&& (255 : Int32)))])) _
    refine XS.istore X0.here hx rfl (hb hby at_5) rfl (l' := #[.val (.int p1), .val (.int p2), .val (.int p3), .val (.int p4), .val (.int p5), .val (.int p6), .val (.int (p1 &&& (255 : Int32))), .unset, .unset, .unset, .unset, .unset, .unset, .unset, .unset, .unset]) rfl ?_
    show Steps p.tables e below (s₁.setTop (mkF m 7 #[.val (.int p1), .val (.int p2), .val (.int p3), .val (.int p4), .val (.int p5), .val (.int p6), .val (.int (p1 &&& (255 : Int32))), .unset, .unset, .unset, .unset, .unset, .unset, .unset, .unset, .unset] [])) _
    refine XS.iloadN X0.here hx rfl (hb hby at_7) rfl ?_
    show Steps p.tables e below (s₁.setTop (mkF m 8 #[.val (.int p1), .val (.int p2), .val (.int p3), .val (.int p4), .val (.int p5), .val (.int p6), .val (.int (p1 &&& (255 : Int32))), .unset, .unset, .unset, .unset, .unset, .unset, .unset, .unset, .unset] [(.int p2)])) _
    refine XS.sipush X0.here hx rfl (hb hby at_8) ?_
    show Steps p.tables e below (s₁.setTop (mkF m 11 #[.val (.int p1), .val (.int p2), .val (.int p3), .val (.int p4), .val (.int p5), .val (.int p6), .val (.int (p1 &&& (255 : Int32))), .unset, .unset, .unset, .unset, .unset, .unset, .unset, .unset, .unset] [(.int (255 : Int32)), (.int p2)])) _
    refine XS.iand X0.here hx rfl (hb hby at_11) rfl ?_
    show Steps p.tables e below (s₁.setTop (mkF m 12 #[.val (.int p1), .val (.int p2), .val (.int p3), .val (.int p4), .val (.int p5), .val (.int p6), .val (.int (p1 &&& (255 : Int32))), .unset, .unset, .unset, .unset, .unset, .unset, .unset, .unset, .unset] [(.int (p2 &&& (255 : Int32)))])) _
    refine XS.istore X0.here hx rfl (hb hby at_12) rfl (l' := #[.val (.int p1), .val (.int p2), .val (.int p3), .val (.int p4), .val (.int p5), .val (.int p6), .val (.int (p1 &&& (255 : Int32))), .val (.int (p2 &&& (255 : Int32))), .unset, .unset, .unset, .unset, .unset, .unset, .unset, .unset]) rfl ?_
    show Steps p.tables e below (s₁.setTop (mkF m 14 #[.val (.int p1), .val (.int p2), .val (.int p3), .val (.int p4), .val (.int p5), .val (.int p6), .val (.int (p1 &&& (255 : Int32))), .val (.int (p2 &&& (255 : Int32))), .unset, .unset, .unset, .unset, .unset, .unset, .unset, .unset] [])) _
    refine XS.iloadN X0.here hx rfl (hb hby at_14) rfl ?_
    show Steps p.tables e below (s₁.setTop (mkF m 15 #[.val (.int p1), .val (.int p2), .val (.int p3), .val (.int p4), .val (.int p5), .val (.int p6), .val (.int (p1 &&& (255 : Int32))), .val (.int (p2 &&& (255 : Int32))), .unset, .unset, .unset, .unset, .unset, .unset, .unset, .unset] [(.int p3)])) _
    refine XS.sipush X0.here hx rfl (hb hby at_15) ?_
    show Steps p.tables e below (s₁.setTop (mkF m 18 #[.val (.int p1), .val (.int p2), .val (.int p3), .val (.int p4), .val (.int p5), .val (.int p6), .val (.int (p1 &&& (255 : Int32))), .val (.int (p2 &&& (255 : Int32))), .unset, .unset, .unset, .unset, .unset, .unset, .unset, .unset] [(.int (255 : Int32)), (.int p3)])) _
    refine XS.iand X0.here hx rfl (hb hby at_18) rfl ?_
    show Steps p.tables e below (s₁.setTop (mkF m 19 #[.val (.int p1), .val (.int p2), .val (.int p3), .val (.int p4), .val (.int p5), .val (.int p6), .val (.int (p1 &&& (255 : Int32))), .val (.int (p2 &&& (255 : Int32))), .unset, .unset, .unset, .unset, .unset, .unset, .unset, .unset] [(.int (p3 &&& (255 : Int32)))])) _
    refine XS.istore X0.here hx rfl (hb hby at_19) rfl (l' := #[.val (.int p1), .val (.int p2), .val (.int p3), .val (.int p4), .val (.int p5), .val (.int p6), .val (.int (p1 &&& (255 : Int32))), .val (.int (p2 &&& (255 : Int32))), .val (.int (p3 &&& (255 : Int32))), .unset, .unset, .unset, .unset, .unset, .unset, .unset]) rfl ?_
    show Steps p.tables e below (s₁.setTop (mkF m 21 #[.val (.int p1), .val (.int p2), .val (.int p3), .val (.int p4), .val (.int p5), .val (.int p6), .val (.int (p1 &&& (255 : Int32))), .val (.int (p2 &&& (255 : Int32))), .val (.int (p3 &&& (255 : Int32))), .unset, .unset, .unset, .unset, .unset, .unset, .unset] [])) _
    refine XS.iloadN X0.here hx rfl (hb hby at_21) rfl ?_
    show Steps p.tables e below (s₁.setTop (mkF m 22 #[.val (.int p1), .val (.int p2), .val (.int p3), .val (.int p4), .val (.int p5), .val (.int p6), .val (.int (p1 &&& (255 : Int32))), .val (.int (p2 &&& (255 : Int32))), .val (.int (p3 &&& (255 : Int32))), .unset, .unset, .unset, .unset, .unset, .unset, .unset] [(.int p4)])) _
    refine XS.iloadN X0.here hx rfl (hb hby at_22) rfl ?_
    show Steps p.tables e below (s₁.setTop (mkF m 23 #[.val (.int p1), .val (.int p2), .val (.int p3), .val (.int p4), .val (.int p5), .val (.int p6), .val (.int (p1 &&& (255 : Int32))), .val (.int (p2 &&& (255 : Int32))), .val (.int (p3 &&& (255 : Int32))), .unset, .unset, .unset, .unset, .unset, .unset, .unset] [(.int p4), (.int p4)])) _
    refine XS.iload X0.here hx rfl (hb hby at_23) rfl ?_
    show Steps p.tables e below (s₁.setTop (mkF m 25 #[.val (.int p1), .val (.int p2), .val (.int p3), .val (.int p4), .val (.int p5), .val (.int p6), .val (.int (p1 &&& (255 : Int32))), .val (.int (p2 &&& (255 : Int32))), .val (.int (p3 &&& (255 : Int32))), .unset, .unset, .unset, .unset, .unset, .unset, .unset] [(.int (p1 &&& (255 : Int32))), (.int p4), (.int p4)])) _
    refine st7 _ ?_
    show Steps p.tables e below (T7.setTop (mkF m 28 #[.val (.int p1), .val (.int p2), .val (.int p3), .val (.int p4), .val (.int p5), .val (.int p6), .val (.int (p1 &&& (255 : Int32))), .val (.int (p2 &&& (255 : Int32))), .val (.int (p3 &&& (255 : Int32))), .unset, .unset, .unset, .unset, .unset, .unset, .unset] [(.int (own_pick p4 p4 (p1 &&& (255 : Int32))))])) _
    refine XS.istore X7.here hx rfl (hb hby at_28) rfl (l' := #[.val (.int p1), .val (.int p2), .val (.int p3), .val (.int p4), .val (.int p5), .val (.int p6), .val (.int (p1 &&& (255 : Int32))), .val (.int (p2 &&& (255 : Int32))), .val (.int (p3 &&& (255 : Int32))), .val (.int (own_pick p4 p4 (p1 &&& (255 : Int32)))), .unset, .unset, .unset, .unset, .unset, .unset]) rfl ?_
    show Steps p.tables e below (T7.setTop (mkF m 30 #[.val (.int p1), .val (.int p2), .val (.int p3), .val (.int p4), .val (.int p5), .val (.int p6), .val (.int (p1 &&& (255 : Int32))), .val (.int (p2 &&& (255 : Int32))), .val (.int (p3 &&& (255 : Int32))), .val (.int (own_pick p4 p4 (p1 &&& (255 : Int32)))), .unset, .unset, .unset, .unset, .unset, .unset] [])) _
    refine XS.iload X7.here hx rfl (hb hby at_30) rfl ?_
    show Steps p.tables e below (T7.setTop (mkF m 32 #[.val (.int p1), .val (.int p2), .val (.int p3), .val (.int p4), .val (.int p5), .val (.int p6), .val (.int (p1 &&& (255 : Int32))), .val (.int (p2 &&& (255 : Int32))), .val (.int (p3 &&& (255 : Int32))), .val (.int (own_pick p4 p4 (p1 &&& (255 : Int32)))), .unset, .unset, .unset, .unset, .unset, .unset] [(.int p5)])) _
    refine XS.iload X7.here hx rfl (hb hby at_32) rfl ?_
    show Steps p.tables e below (T7.setTop (mkF m 34 #[.val (.int p1), .val (.int p2), .val (.int p3), .val (.int p4), .val (.int p5), .val (.int p6), .val (.int (p1 &&& (255 : Int32))), .val (.int (p2 &&& (255 : Int32))), .val (.int (p3 &&& (255 : Int32))), .val (.int (own_pick p4 p4 (p1 &&& (255 : Int32)))), .unset, .unset, .unset, .unset, .unset, .unset] [(.int p5), (.int p5)])) _
    refine XS.iload X7.here hx rfl (hb hby at_34) rfl ?_
    show Steps p.tables e below (T7.setTop (mkF m 36 #[.val (.int p1), .val (.int p2), .val (.int p3), .val (.int p4), .val (.int p5), .val (.int p6), .val (.int (p1 &&& (255 : Int32))), .val (.int (p2 &&& (255 : Int32))), .val (.int (p3 &&& (255 : Int32))), .val (.int (own_pick p4 p4 (p1 &&& (255 : Int32)))), .unset, .unset, .unset, .unset, .unset, .unset] [(.int (p2 &&& (255 : Int32))), (.int p5), (.int p5)])) _
    refine st8 _ ?_
    show Steps p.tables e below (T8.setTop (mkF m 39 #[.val (.int p1), .val (.int p2), .val (.int p3), .val (.int p4), .val (.int p5), .val (.int p6), .val (.int (p1 &&& (255 : Int32))), .val (.int (p2 &&& (255 : Int32))), .val (.int (p3 &&& (255 : Int32))), .val (.int (own_pick p4 p4 (p1 &&& (255 : Int32)))), .unset, .unset, .unset, .unset, .unset, .unset] [(.int (own_pick p5 p5 (p2 &&& (255 : Int32))))])) _
    refine XS.istore X8.here hx rfl (hb hby at_39) rfl (l' := #[.val (.int p1), .val (.int p2), .val (.int p3), .val (.int p4), .val (.int p5), .val (.int p6), .val (.int (p1 &&& (255 : Int32))), .val (.int (p2 &&& (255 : Int32))), .val (.int (p3 &&& (255 : Int32))), .val (.int (own_pick p4 p4 (p1 &&& (255 : Int32)))), .val (.int (own_pick p5 p5 (p2 &&& (255 : Int32)))), .unset, .unset, .unset, .unset, .unset]) rfl ?_
    show Steps p.tables e below (T8.setTop (mkF m 41 #[.val (.int p1), .val (.int p2), .val (.int p3), .val (.int p4), .val (.int p5), .val (.int p6), .val (.int (p1 &&& (255 : Int32))), .val (.int (p2 &&& (255 : Int32))), .val (.int (p3 &&& (255 : Int32))), .val (.int (own_pick p4 p4 (p1 &&& (255 : Int32)))), .val (.int (own_pick p5 p5 (p2 &&& (255 : Int32)))), .unset, .unset, .unset, .unset, .unset] [])) _
    refine XS.iload X8.here hx rfl (hb hby at_41) rfl ?_
    show Steps p.tables e below (T8.setTop (mkF m 43 #[.val (.int p1), .val (.int p2), .val (.int p3), .val (.int p4), .val (.int p5), .val (.int p6), .val (.int (p1 &&& (255 : Int32))), .val (.int (p2 &&& (255 : Int32))), .val (.int (p3 &&& (255 : Int32))), .val (.int (own_pick p4 p4 (p1 &&& (255 : Int32)))), .val (.int (own_pick p5 p5 (p2 &&& (255 : Int32)))), .unset, .unset, .unset, .unset, .unset] [(.int p6)])) _
    refine XS.iload X8.here hx rfl (hb hby at_43) rfl ?_
    show Steps p.tables e below (T8.setTop (mkF m 45 #[.val (.int p1), .val (.int p2), .val (.int p3), .val (.int p4), .val (.int p5), .val (.int p6), .val (.int (p1 &&& (255 : Int32))), .val (.int (p2 &&& (255 : Int32))), .val (.int (p3 &&& (255 : Int32))), .val (.int (own_pick p4 p4 (p1 &&& (255 : Int32)))), .val (.int (own_pick p5 p5 (p2 &&& (255 : Int32)))), .unset, .unset, .unset, .unset, .unset] [(.int p6), (.int p6)])) _
    refine XS.iload X8.here hx rfl (hb hby at_45) rfl ?_
    show Steps p.tables e below (T8.setTop (mkF m 47 #[.val (.int p1), .val (.int p2), .val (.int p3), .val (.int p4), .val (.int p5), .val (.int p6), .val (.int (p1 &&& (255 : Int32))), .val (.int (p2 &&& (255 : Int32))), .val (.int (p3 &&& (255 : Int32))), .val (.int (own_pick p4 p4 (p1 &&& (255 : Int32)))), .val (.int (own_pick p5 p5 (p2 &&& (255 : Int32)))), .unset, .unset, .unset, .unset, .unset] [(.int (p3 &&& (255 : Int32))), (.int p6), (.int p6)])) _
    refine st9 _ ?_
    show Steps p.tables e below (T9.setTop (mkF m 50 #[.val (.int p1), .val (.int p2), .val (.int p3), .val (.int p4), .val (.int p5), .val (.int p6), .val (.int (p1 &&& (255 : Int32))), .val (.int (p2 &&& (255 : Int32))), .val (.int (p3 &&& (255 : Int32))), .val (.int (own_pick p4 p4 (p1 &&& (255 : Int32)))), .val (.int (own_pick p5 p5 (p2 &&& (255 : Int32)))), .unset, .unset, .unset, .unset, .unset] [(.int (own_pick p6 p6 (p3 &&& (255 : Int32))))])) _
    refine XS.istore X9.here hx rfl (hb hby at_50) rfl (l' := #[.val (.int p1), .val (.int p2), .val (.int p3), .val (.int p4), .val (.int p5), .val (.int p6), .val (.int (p1 &&& (255 : Int32))), .val (.int (p2 &&& (255 : Int32))), .val (.int (p3 &&& (255 : Int32))), .val (.int (own_pick p4 p4 (p1 &&& (255 : Int32)))), .val (.int (own_pick p5 p5 (p2 &&& (255 : Int32)))), .val (.int (own_pick p6 p6 (p3 &&& (255 : Int32)))), .unset, .unset, .unset, .unset]) rfl ?_
    show Steps p.tables e below (T9.setTop (mkF m 52 #[.val (.int p1), .val (.int p2), .val (.int p3), .val (.int p4), .val (.int p5), .val (.int p6), .val (.int (p1 &&& (255 : Int32))), .val (.int (p2 &&& (255 : Int32))), .val (.int (p3 &&& (255 : Int32))), .val (.int (own_pick p4 p4 (p1 &&& (255 : Int32)))), .val (.int (own_pick p5 p5 (p2 &&& (255 : Int32)))), .val (.int (own_pick p6 p6 (p3 &&& (255 : Int32)))), .unset, .unset, .unset, .unset] [])) _
    refine st10 _ ?_
    show Steps p.tables e below (T10.setTop (mkF m 55 #[.val (.int p1), .val (.int p2), .val (.int p3), .val (.int p4), .val (.int p5), .val (.int p6), .val (.int (p1 &&& (255 : Int32))), .val (.int (p2 &&& (255 : Int32))), .val (.int (p3 &&& (255 : Int32))), .val (.int (own_pick p4 p4 (p1 &&& (255 : Int32)))), .val (.int (own_pick p5 p5 (p2 &&& (255 : Int32)))), .val (.int (own_pick p6 p6 (p3 &&& (255 : Int32)))), .unset, .unset, .unset, .unset] [(.ref b10)])) _
    refine XS.dup X10.here hx rfl (hb hby at_55) rfl rfl ?_
    show Steps p.tables e below (T10.setTop (mkF m 56 #[.val (.int p1), .val (.int p2), .val (.int p3), .val (.int p4), .val (.int p5), .val (.int p6), .val (.int (p1 &&& (255 : Int32))), .val (.int (p2 &&& (255 : Int32))), .val (.int (p3 &&& (255 : Int32))), .val (.int (own_pick p4 p4 (p1 &&& (255 : Int32)))), .val (.int (own_pick p5 p5 (p2 &&& (255 : Int32)))), .val (.int (own_pick p6 p6 (p3 &&& (255 : Int32)))), .unset, .unset, .unset, .unset] [(.ref b10), (.ref b10)])) _
    refine XS.iload X10.here hx rfl (hb hby at_56) rfl ?_
    show Steps p.tables e below (T10.setTop (mkF m 58 #[.val (.int p1), .val (.int p2), .val (.int p3), .val (.int p4), .val (.int p5), .val (.int p6), .val (.int (p1 &&& (255 : Int32))), .val (.int (p2 &&& (255 : Int32))), .val (.int (p3 &&& (255 : Int32))), .val (.int (own_pick p4 p4 (p1 &&& (255 : Int32)))), .val (.int (own_pick p5 p5 (p2 &&& (255 : Int32)))), .val (.int (own_pick p6 p6 (p3 &&& (255 : Int32)))), .unset, .unset, .unset, .unset] [(.int (p1 &&& (255 : Int32))), (.ref b10), (.ref b10)])) _
    refine XS.iload X10.here hx rfl (hb hby at_58) rfl ?_
    show Steps p.tables e below (T10.setTop (mkF m 60 #[.val (.int p1), .val (.int p2), .val (.int p3), .val (.int p4), .val (.int p5), .val (.int p6), .val (.int (p1 &&& (255 : Int32))), .val (.int (p2 &&& (255 : Int32))), .val (.int (p3 &&& (255 : Int32))), .val (.int (own_pick p4 p4 (p1 &&& (255 : Int32)))), .val (.int (own_pick p5 p5 (p2 &&& (255 : Int32)))), .val (.int (own_pick p6 p6 (p3 &&& (255 : Int32)))), .unset, .unset, .unset, .unset] [(.int (p2 &&& (255 : Int32))), (.int (p1 &&& (255 : Int32))), (.ref b10), (.ref b10)])) _
    refine XS.iload X10.here hx rfl (hb hby at_60) rfl ?_
    show Steps p.tables e below (T10.setTop (mkF m 62 #[.val (.int p1), .val (.int p2), .val (.int p3), .val (.int p4), .val (.int p5), .val (.int p6), .val (.int (p1 &&& (255 : Int32))), .val (.int (p2 &&& (255 : Int32))), .val (.int (p3 &&& (255 : Int32))), .val (.int (own_pick p4 p4 (p1 &&& (255 : Int32)))), .val (.int (own_pick p5 p5 (p2 &&& (255 : Int32)))), .val (.int (own_pick p6 p6 (p3 &&& (255 : Int32)))), .unset, .unset, .unset, .unset] [(.int (p3 &&& (255 : Int32))), (.int (p2 &&& (255 : Int32))), (.int (p1 &&& (255 : Int32))), (.ref b10), (.ref b10)])) _
    refine st11.trans ?_
    show Steps p.tables e below (T11.setTop (mkF m 65 #[.val (.int p1), .val (.int p2), .val (.int p3), .val (.int p4), .val (.int p5), .val (.int p6), .val (.int (p1 &&& (255 : Int32))), .val (.int (p2 &&& (255 : Int32))), .val (.int (p3 &&& (255 : Int32))), .val (.int (own_pick p4 p4 (p1 &&& (255 : Int32)))), .val (.int (own_pick p5 p5 (p2 &&& (255 : Int32)))), .val (.int (own_pick p6 p6 (p3 &&& (255 : Int32)))), .unset, .unset, .unset, .unset] [(.ref b10)])) _
    refine XS.astore X11.here hx rfl (hb hby at_65) rfl rfl (l' := #[.val (.int p1), .val (.int p2), .val (.int p3), .val (.int p4), .val (.int p5), .val (.int p6), .val (.int (p1 &&& (255 : Int32))), .val (.int (p2 &&& (255 : Int32))), .val (.int (p3 &&& (255 : Int32))), .val (.int (own_pick p4 p4 (p1 &&& (255 : Int32)))), .val (.int (own_pick p5 p5 (p2 &&& (255 : Int32)))), .val (.int (own_pick p6 p6 (p3 &&& (255 : Int32)))), .val (.ref b10), .unset, .unset, .unset]) rfl ?_
    show Steps p.tables e below (T11.setTop (mkF m 67 #[.val (.int p1), .val (.int p2), .val (.int p3), .val (.int p4), .val (.int p5), .val (.int p6), .val (.int (p1 &&& (255 : Int32))), .val (.int (p2 &&& (255 : Int32))), .val (.int (p3 &&& (255 : Int32))), .val (.int (own_pick p4 p4 (p1 &&& (255 : Int32)))), .val (.int (own_pick p5 p5 (p2 &&& (255 : Int32)))), .val (.int (own_pick p6 p6 (p3 &&& (255 : Int32)))), .val (.ref b10), .unset, .unset, .unset] [])) _
    refine st12 _ ?_
    show Steps p.tables e below (T12.setTop (mkF m 70 #[.val (.int p1), .val (.int p2), .val (.int p3), .val (.int p4), .val (.int p5), .val (.int p6), .val (.int (p1 &&& (255 : Int32))), .val (.int (p2 &&& (255 : Int32))), .val (.int (p3 &&& (255 : Int32))), .val (.int (own_pick p4 p4 (p1 &&& (255 : Int32)))), .val (.int (own_pick p5 p5 (p2 &&& (255 : Int32)))), .val (.int (own_pick p6 p6 (p3 &&& (255 : Int32)))), .val (.ref b10), .unset, .unset, .unset] [(.ref b12)])) _
    refine XS.dup X12.here hx rfl (hb hby at_70) rfl rfl ?_
    show Steps p.tables e below (T12.setTop (mkF m 71 #[.val (.int p1), .val (.int p2), .val (.int p3), .val (.int p4), .val (.int p5), .val (.int p6), .val (.int (p1 &&& (255 : Int32))), .val (.int (p2 &&& (255 : Int32))), .val (.int (p3 &&& (255 : Int32))), .val (.int (own_pick p4 p4 (p1 &&& (255 : Int32)))), .val (.int (own_pick p5 p5 (p2 &&& (255 : Int32)))), .val (.int (own_pick p6 p6 (p3 &&& (255 : Int32)))), .val (.ref b10), .unset, .unset, .unset] [(.ref b12), (.ref b12)])) _
    refine XS.iload X12.here hx rfl (hb hby at_71) rfl ?_
    show Steps p.tables e below (T12.setTop (mkF m 73 #[.val (.int p1), .val (.int p2), .val (.int p3), .val (.int p4), .val (.int p5), .val (.int p6), .val (.int (p1 &&& (255 : Int32))), .val (.int (p2 &&& (255 : Int32))), .val (.int (p3 &&& (255 : Int32))), .val (.int (own_pick p4 p4 (p1 &&& (255 : Int32)))), .val (.int (own_pick p5 p5 (p2 &&& (255 : Int32)))), .val (.int (own_pick p6 p6 (p3 &&& (255 : Int32)))), .val (.ref b10), .unset, .unset, .unset] [(.int (own_pick p4 p4 (p1 &&& (255 : Int32)))), (.ref b12), (.ref b12)])) _
    refine XS.iload X12.here hx rfl (hb hby at_73) rfl ?_
    show Steps p.tables e below (T12.setTop (mkF m 75 #[.val (.int p1), .val (.int p2), .val (.int p3), .val (.int p4), .val (.int p5), .val (.int p6), .val (.int (p1 &&& (255 : Int32))), .val (.int (p2 &&& (255 : Int32))), .val (.int (p3 &&& (255 : Int32))), .val (.int (own_pick p4 p4 (p1 &&& (255 : Int32)))), .val (.int (own_pick p5 p5 (p2 &&& (255 : Int32)))), .val (.int (own_pick p6 p6 (p3 &&& (255 : Int32)))), .val (.ref b10), .unset, .unset, .unset] [(.int (own_pick p5 p5 (p2 &&& (255 : Int32)))), (.int (own_pick p4 p4 (p1 &&& (255 : Int32)))), (.ref b12), (.ref b12)])) _
    refine XS.iload X12.here hx rfl (hb hby at_75) rfl ?_
    show Steps p.tables e below (T12.setTop (mkF m 77 #[.val (.int p1), .val (.int p2), .val (.int p3), .val (.int p4), .val (.int p5), .val (.int p6), .val (.int (p1 &&& (255 : Int32))), .val (.int (p2 &&& (255 : Int32))), .val (.int (p3 &&& (255 : Int32))), .val (.int (own_pick p4 p4 (p1 &&& (255 : Int32)))), .val (.int (own_pick p5 p5 (p2 &&& (255 : Int32)))), .val (.int (own_pick p6 p6 (p3 &&& (255 : Int32)))), .val (.ref b10), .unset, .unset, .unset] [(.int (own_pick p6 p6 (p3 &&& (255 : Int32)))), (.int (own_pick p5 p5 (p2 &&& (255 : Int32)))), (.int (own_pick p4 p4 (p1 &&& (255 : Int32)))), (.ref b12), (.ref b12)])) _
    refine st13.trans ?_
    show Steps p.tables e below (T13.setTop (mkF m 80 #[.val (.int p1), .val (.int p2), .val (.int p3), .val (.int p4), .val (.int p5), .val (.int p6), .val (.int (p1 &&& (255 : Int32))), .val (.int (p2 &&& (255 : Int32))), .val (.int (p3 &&& (255 : Int32))), .val (.int (own_pick p4 p4 (p1 &&& (255 : Int32)))), .val (.int (own_pick p5 p5 (p2 &&& (255 : Int32)))), .val (.int (own_pick p6 p6 (p3 &&& (255 : Int32)))), .val (.ref b10), .unset, .unset, .unset] [(.ref b12)])) _
    refine XS.astore X13.here hx rfl (hb hby at_80) rfl rfl (l' := #[.val (.int p1), .val (.int p2), .val (.int p3), .val (.int p4), .val (.int p5), .val (.int p6), .val (.int (p1 &&& (255 : Int32))), .val (.int (p2 &&& (255 : Int32))), .val (.int (p3 &&& (255 : Int32))), .val (.int (own_pick p4 p4 (p1 &&& (255 : Int32)))), .val (.int (own_pick p5 p5 (p2 &&& (255 : Int32)))), .val (.int (own_pick p6 p6 (p3 &&& (255 : Int32)))), .val (.ref b10), .val (.ref b12), .unset, .unset]) rfl ?_
    show Steps p.tables e below (T13.setTop (mkF m 82 #[.val (.int p1), .val (.int p2), .val (.int p3), .val (.int p4), .val (.int p5), .val (.int p6), .val (.int (p1 &&& (255 : Int32))), .val (.int (p2 &&& (255 : Int32))), .val (.int (p3 &&& (255 : Int32))), .val (.int (own_pick p4 p4 (p1 &&& (255 : Int32)))), .val (.int (own_pick p5 p5 (p2 &&& (255 : Int32)))), .val (.int (own_pick p6 p6 (p3 &&& (255 : Int32)))), .val (.ref b10), .val (.ref b12), .unset, .unset] [])) _
    refine XS.iload X13.here hx rfl (hb hby at_82) rfl ?_
    show Steps p.tables e below (T13.setTop (mkF m 84 #[.val (.int p1), .val (.int p2), .val (.int p3), .val (.int p4), .val (.int p5), .val (.int p6), .val (.int (p1 &&& (255 : Int32))), .val (.int (p2 &&& (255 : Int32))), .val (.int (p3 &&& (255 : Int32))), .val (.int (own_pick p4 p4 (p1 &&& (255 : Int32)))), .val (.int (own_pick p5 p5 (p2 &&& (255 : Int32)))), .val (.int (own_pick p6 p6 (p3 &&& (255 : Int32)))), .val (.ref b10), .val (.ref b12), .unset, .unset] [(.int (p1 &&& (255 : Int32)))])) _
    refine XS.iload X13.here hx rfl (hb hby at_84) rfl ?_
    show Steps p.tables e below (T13.setTop (mkF m 86 #[.val (.int p1), .val (.int p2), .val (.int p3), .val (.int p4), .val (.int p5), .val (.int p6), .val (.int (p1 &&& (255 : Int32))), .val (.int (p2 &&& (255 : Int32))), .val (.int (p3 &&& (255 : Int32))), .val (.int (own_pick p4 p4 (p1 &&& (255 : Int32)))), .val (.int (own_pick p5 p5 (p2 &&& (255 : Int32)))), .val (.int (own_pick p6 p6 (p3 &&& (255 : Int32)))), .val (.ref b10), .val (.ref b12), .unset, .unset] [(.int (own_pick p4 p4 (p1 &&& (255 : Int32)))), (.int (p1 &&& (255 : Int32)))])) _
    refine XS.icmpNo X13.here hx rfl (hb hby at_86) rfl (teq (by first | exact hE0 | exact hE1 | exact hE2 | exact hv | exact hv2 | exact own_self _ _ _ | decide : (p1 &&& (255 : Int32)) = (own_pick p4 p4 (p1 &&& (255 : Int32))))).2 ?_
    show Steps p.tables e below (T13.setTop (mkF m 89 #[.val (.int p1), .val (.int p2), .val (.int p3), .val (.int p4), .val (.int p5), .val (.int p6), .val (.int (p1 &&& (255 : Int32))), .val (.int (p2 &&& (255 : Int32))), .val (.int (p3 &&& (255 : Int32))), .val (.int (own_pick p4 p4 (p1 &&& (255 : Int32)))), .val (.int (own_pick p5 p5 (p2 &&& (255 : Int32)))), .val (.int (own_pick p6 p6 (p3 &&& (255 : Int32)))), .val (.ref b10), .val (.ref b12), .unset, .unset] [])) _
    refine XS.iload X13.here hx rfl (hb hby at_89) rfl ?_
    show Steps p.tables e below (T13.setTop (mkF m 91 #[.val (.int p1), .val (.int p2), .val (.int p3), .val (.int p4), .val (.int p5), .val (.int p6), .val (.int (p1 &&& (255 : Int32))), .val (.int (p2 &&& (255 : Int32))), .val (.int (p3 &&& (255 : Int32))), .val (.int (own_pick p4 p4 (p1 &&& (255 : Int32)))), .val (.int (own_pick p5 p5 (p2 &&& (255 : Int32)))), .val (.int (own_pick p6 p6 (p3 &&& (255 : Int32)))), .val (.ref b10), .val (.ref b12), .unset, .unset] [(.int (p2 &&& (255 : Int32)))])) _
    refine XS.iload X13.here hx rfl (hb hby at_91) rfl ?_
    show Steps p.tables e below (T13.setTop (mkF m 93 #[.val (.int p1), .val (.int p2), .val (.int p3), .val (.int p4), .val (.int p5), .val (.int p6), .val (.int (p1 &&& (255 : Int32))), .val (.int (p2 &&& (255 : Int32))), .val (.int (p3 &&& (255 : Int32))), .val (.int (own_pick p4 p4 (p1 &&& (255 : Int32)))), .val (.int (own_pick p5 p5 (p2 &&& (255 : Int32)))), .val (.int (own_pick p6 p6 (p3 &&& (255 : Int32)))), .val (.ref b10), .val (.ref b12), .unset, .unset] [(.int (own_pick p5 p5 (p2 &&& (255 : Int32)))), (.int (p2 &&& (255 : Int32)))])) _
    refine XS.icmpNo X13.here hx rfl (hb hby at_93) rfl (teq (by first | exact hE0 | exact hE1 | exact hE2 | exact hv | exact hv2 | exact own_self _ _ _ | decide : (p2 &&& (255 : Int32)) = (own_pick p5 p5 (p2 &&& (255 : Int32))))).2 ?_
    show Steps p.tables e below (T13.setTop (mkF m 96 #[.val (.int p1), .val (.int p2), .val (.int p3), .val (.int p4), .val (.int p5), .val (.int p6), .val (.int (p1 &&& (255 : Int32))), .val (.int (p2 &&& (255 : Int32))), .val (.int (p3 &&& (255 : Int32))), .val (.int (own_pick p4 p4 (p1 &&& (255 : Int32)))), .val (.int (own_pick p5 p5 (p2 &&& (255 : Int32)))), .val (.int (own_pick p6 p6 (p3 &&& (255 : Int32)))), .val (.ref b10), .val (.ref b12), .unset, .unset] [])) _
    refine XS.iload X13.here hx rfl (hb hby at_96) rfl ?_
    show Steps p.tables e below (T13.setTop (mkF m 98 #[.val (.int p1), .val (.int p2), .val (.int p3), .val (.int p4), .val (.int p5), .val (.int p6), .val (.int (p1 &&& (255 : Int32))), .val (.int (p2 &&& (255 : Int32))), .val (.int (p3 &&& (255 : Int32))), .val (.int (own_pick p4 p4 (p1 &&& (255 : Int32)))), .val (.int (own_pick p5 p5 (p2 &&& (255 : Int32)))), .val (.int (own_pick p6 p6 (p3 &&& (255 : Int32)))), .val (.ref b10), .val (.ref b12), .unset, .unset] [(.int (p3 &&& (255 : Int32)))])) _
    refine XS.iload X13.here hx rfl (hb hby at_98) rfl ?_
    show Steps p.tables e below (T13.setTop (mkF m 100 #[.val (.int p1), .val (.int p2), .val (.int p3), .val (.int p4), .val (.int p5), .val (.int p6), .val (.int (p1 &&& (255 : Int32))), .val (.int (p2 &&& (255 : Int32))), .val (.int (p3 &&& (255 : Int32))), .val (.int (own_pick p4 p4 (p1 &&& (255 : Int32)))), .val (.int (own_pick p5 p5 (p2 &&& (255 : Int32)))), .val (.int (own_pick p6 p6 (p3 &&& (255 : Int32)))), .val (.ref b10), .val (.ref b12), .unset, .unset] [(.int (own_pick p6 p6 (p3 &&& (255 : Int32)))), (.int (p3 &&& (255 : Int32)))])) _
    refine XS.icmpNo X13.here hx rfl (hb hby at_100) rfl (teq (by first | exact hE0 | exact hE1 | exact hE2 | exact hv | exact hv2 | exact own_self _ _ _ | decide : (p3 &&& (255 : Int32)) = (own_pick p6 p6 (p3 &&& (255 : Int32))))).2 ?_
    show Steps p.tables e below (T13.setTop (mkF m 103 #[.val (.int p1), .val (.int p2), .val (.int p3), .val (.int p4), .val (.int p5), .val (.int p6), .val (.int (p1 &&& (255 : Int32))), .val (.int (p2 &&& (255 : Int32))), .val (.int (p3 &&& (255 : Int32))), .val (.int (own_pick p4 p4 (p1 &&& (255 : Int32)))), .val (.int (own_pick p5 p5 (p2 &&& (255 : Int32)))), .val (.int (own_pick p6 p6 (p3 &&& (255 : Int32)))), .val (.ref b10), .val (.ref b12), .unset, .unset] [])) _
    refine XS.iconst X13.here hx rfl (hb hby at_103) ?_
    show Steps p.tables e below (T13.setTop (mkF m 104 #[.val (.int p1), .val (.int p2), .val (.int p3), .val (.int p4), .val (.int p5), .val (.int p6), .val (.int (p1 &&& (255 : Int32))), .val (.int (p2 &&& (255 : Int32))), .val (.int (p3 &&& (255 : Int32))), .val (.int (own_pick p4 p4 (p1 &&& (255 : Int32)))), .val (.int (own_pick p5 p5 (p2 &&& (255 : Int32)))), .val (.int (own_pick p6 p6 (p3 &&& (255 : Int32)))), .val (.ref b10), .val (.ref b12), .unset, .unset] [(.int (1 : Int32))])) _
    refine XS.goto X13.here hx rfl (pc0 := 104) (pc' := 108) rfl (hb hby at_104) (by decide) (by decide) ?_
    show Steps p.tables e below (T13.setTop (mkF m 108 #[.val (.int p1), .val (.int p2), .val (.int p3), .val (.int p4), .val (.int p5), .val (.int p6), .val (.int (p1 &&& (255 : Int32))), .val (.int (p2 &&& (255 : Int32))), .val (.int (p3 &&& (255 : Int32))), .val (.int (own_pick p4 p4 (p1 &&& (255 : Int32)))), .val (.int (own_pick p5 p5 (p2 &&& (255 : Int32)))), .val (.int (own_pick p6 p6 (p3 &&& (255 : Int32)))), .val (.ref b10), .val (.ref b12), .unset, .unset] [(.int (1 : Int32))])) _
    refine XS.istore X13.here hx rfl (hb hby at_108) rfl (l' := #[.val (.int p1), .val (.int p2), .val (.int p3), .val (.int p4), .val (.int p5), .val (.int p6), .val (.int (p1 &&& (255 : Int32))), .val (.int (p2 &&& (255 : Int32))), .val (.int (p3 &&& (255 : Int32))), .val (.int (own_pick p4 p4 (p1 &&& (255 : Int32)))), .val (.int (own_pick p5 p5 (p2 &&& (255 : Int32)))), .val (.int (own_pick p6 p6 (p3 &&& (255 : Int32)))), .val (.ref b10), .val (.ref b12), .val (.int (1 : Int32)), .unset]) rfl ?_
    show Steps p.tables e below (T13.setTop (mkF m 110 #[.val (.int p1), .val (.int p2), .val (.int p3), .val (.int p4), .val (.int p5), .val (.int p6), .val (.int (p1 &&& (255 : Int32))), .val (.int (p2 &&& (255 : Int32))), .val (.int (p3 &&& (255 : Int32))), .val (.int (own_pick p4 p4 (p1 &&& (255 : Int32)))), .val (.int (own_pick p5 p5 (p2 &&& (255 : Int32)))), .val (.int (own_pick p6 p6 (p3 &&& (255 : Int32)))), .val (.ref b10), .val (.ref b12), .val (.int (1 : Int32)), .unset] [])) _
    refine XS.iloadN X13.here hx rfl (hb hby at_110) rfl ?_
    show Steps p.tables e below (T13.setTop (mkF m 111 #[.val (.int p1), .val (.int p2), .val (.int p3), .val (.int p4), .val (.int p5), .val (.int p6), .val (.int (p1 &&& (255 : Int32))), .val (.int (p2 &&& (255 : Int32))), .val (.int (p3 &&& (255 : Int32))), .val (.int (own_pick p4 p4 (p1 &&& (255 : Int32)))), .val (.int (own_pick p5 p5 (p2 &&& (255 : Int32)))), .val (.int (own_pick p6 p6 (p3 &&& (255 : Int32)))), .val (.ref b10), .val (.ref b12), .val (.int (1 : Int32)), .unset] [(.int p3)])) _
    refine st14 _ ?_
    show Steps p.tables e below (T14.setTop (mkF m 114 #[.val (.int p1), .val (.int p2), .val (.int p3), .val (.int p4), .val (.int p5), .val (.int p6), .val (.int (p1 &&& (255 : Int32))), .val (.int (p2 &&& (255 : Int32))), .val (.int (p3 &&& (255 : Int32))), .val (.int (own_pick p4 p4 (p1 &&& (255 : Int32)))), .val (.int (own_pick p5 p5 (p2 &&& (255 : Int32)))), .val (.int (own_pick p6 p6 (p3 &&& (255 : Int32)))), .val (.ref b10), .val (.ref b12), .val (.int (1 : Int32)), .unset] [(.ref a14)])) _
    refine XS.astore X14.here hx rfl (hb hby at_114) rfl rfl (l' := #[.val (.int p1), .val (.int p2), .val (.int p3), .val (.int p4), .val (.int p5), .val (.int p6), .val (.int (p1 &&& (255 : Int32))), .val (.int (p2 &&& (255 : Int32))), .val (.int (p3 &&& (255 : Int32))), .val (.int (own_pick p4 p4 (p1 &&& (255 : Int32)))), .val (.int (own_pick p5 p5 (p2 &&& (255 : Int32)))), .val (.int (own_pick p6 p6 (p3 &&& (255 : Int32)))), .val (.ref b10), .val (.ref b12), .val (.int (1 : Int32)), .val (.ref a14)]) rfl ?_
    show Steps p.tables e below (T14.setTop (mkF m 116 #[.val (.int p1), .val (.int p2), .val (.int p3), .val (.int p4), .val (.int p5), .val (.int p6), .val (.int (p1 &&& (255 : Int32))), .val (.int (p2 &&& (255 : Int32))), .val (.int (p3 &&& (255 : Int32))), .val (.int (own_pick p4 p4 (p1 &&& (255 : Int32)))), .val (.int (own_pick p5 p5 (p2 &&& (255 : Int32)))), .val (.int (own_pick p6 p6 (p3 &&& (255 : Int32)))), .val (.ref b10), .val (.ref b12), .val (.int (1 : Int32)), .val (.ref a14)] [])) _
    refine XS.aload X14.here hx rfl (hb hby at_116) rfl rfl ?_
    show Steps p.tables e below (T14.setTop (mkF m 118 #[.val (.int p1), .val (.int p2), .val (.int p3), .val (.int p4), .val (.int p5), .val (.int p6), .val (.int (p1 &&& (255 : Int32))), .val (.int (p2 &&& (255 : Int32))), .val (.int (p3 &&& (255 : Int32))), .val (.int (own_pick p4 p4 (p1 &&& (255 : Int32)))), .val (.int (own_pick p5 p5 (p2 &&& (255 : Int32)))), .val (.int (own_pick p6 p6 (p3 &&& (255 : Int32)))), .val (.ref b10), .val (.ref b12), .val (.int (1 : Int32)), .val (.ref a14)] [(.ref b10)])) _
    refine XS.aload X14.here hx rfl (hb hby at_118) rfl rfl ?_
    show Steps p.tables e below (T14.setTop (mkF m 120 #[.val (.int p1), .val (.int p2), .val (.int p3), .val (.int p4), .val (.int p5), .val (.int p6), .val (.int (p1 &&& (255 : Int32))), .val (.int (p2 &&& (255 : Int32))), .val (.int (p3 &&& (255 : Int32))), .val (.int (own_pick p4 p4 (p1 &&& (255 : Int32)))), .val (.int (own_pick p5 p5 (p2 &&& (255 : Int32)))), .val (.int (own_pick p6 p6 (p3 &&& (255 : Int32)))), .val (.ref b10), .val (.ref b12), .val (.int (1 : Int32)), .val (.ref a14)] [(.ref b12), (.ref b10)])) _
    refine st15.trans ?_
    show Steps p.tables e below (T15.setTop (mkF m 123 #[.val (.int p1), .val (.int p2), .val (.int p3), .val (.int p4), .val (.int p5), .val (.int p6), .val (.int (p1 &&& (255 : Int32))), .val (.int (p2 &&& (255 : Int32))), .val (.int (p3 &&& (255 : Int32))), .val (.int (own_pick p4 p4 (p1 &&& (255 : Int32)))), .val (.int (own_pick p5 p5 (p2 &&& (255 : Int32)))), .val (.int (own_pick p6 p6 (p3 &&& (255 : Int32)))), .val (.ref b10), .val (.ref b12), .val (.int (1 : Int32)), .val (.ref a14)] [(.int (own_eq3 (p1 &&& (255 : Int32)) (p2 &&& (255 : Int32)) (p3 &&& (255 : Int32)) (own_pick p4 p4 (p1 &&& (255 : Int32))) (own_pick p5 p5 (p2 &&& (255 : Int32))) (own_pick p6 p6 (p3 &&& (255 : Int32)))))])) _
    refine XS.iload X15.here hx rfl (hb hby at_123) rfl ?_
    show Steps p.tables e below (T15.setTop (mkF m 125 #[.val (.int p1), .val (.int p2), .val (.int p3), .val (.int p4), .val (.int p5), .val (.int p6), .val (.int (p1 &&& (255 : Int32))), .val (.int (p2 &&& (255 : Int32))), .val (.int (p3 &&& (255 : Int32))), .val (.int (own_pick p4 p4 (p1 &&& (255 : Int32)))), .val (.int (own_pick p5 p5 (p2 &&& (255 : Int32)))), .val (.int (own_pick p6 p6 (p3 &&& (255 : Int32)))), .val (.ref b10), .val (.ref b12), .val (.int (1 : Int32)), .val (.ref a14)] [(.int (1 : Int32)), (.int (own_eq3 (p1 &&& (255 : Int32)) (p2 &&& (255 : Int32)) (p3 &&& (255 : Int32)) (own_pick p4 p4 (p1 &&& (255 : Int32))) (own_pick p5 p5 (p2 &&& (255 : Int32))) (own_pick p6 p6 (p3 &&& (255 : Int32)))))])) _
    refine XS.icmpNo X15.here hx rfl (hb hby at_125) rfl (teq (by first | exact hE0 | exact hE1 | exact hE2 | exact hv | exact hv2 | exact own_self _ _ _ | decide : (own_eq3 (p1 &&& (255 : Int32)) (p2 &&& (255 : Int32)) (p3 &&& (255 : Int32)) (own_pick p4 p4 (p1 &&& (255 : Int32))) (own_pick p5 p5 (p2 &&& (255 : Int32))) (own_pick p6 p6 (p3 &&& (255 : Int32)))) = (1 : Int32))).2 ?_
    show Steps p.tables e below (T15.setTop (mkF m 128 #[.val (.int p1), .val (.int p2), .val (.int p3), .val (.int p4), .val (.int p5), .val (.int p6), .val (.int (p1 &&& (255 : Int32))), .val (.int (p2 &&& (255 : Int32))), .val (.int (p3 &&& (255 : Int32))), .val (.int (own_pick p4 p4 (p1 &&& (255 : Int32)))), .val (.int (own_pick p5 p5 (p2 &&& (255 : Int32)))), .val (.int (own_pick p6 p6 (p3 &&& (255 : Int32)))), .val (.ref b10), .val (.ref b12), .val (.int (1 : Int32)), .val (.ref a14)] [])) _
    refine XS.aload X15.here hx rfl (hb hby at_128) rfl rfl ?_
    show Steps p.tables e below (T15.setTop (mkF m 130 #[.val (.int p1), .val (.int p2), .val (.int p3), .val (.int p4), .val (.int p5), .val (.int p6), .val (.int (p1 &&& (255 : Int32))), .val (.int (p2 &&& (255 : Int32))), .val (.int (p3 &&& (255 : Int32))), .val (.int (own_pick p4 p4 (p1 &&& (255 : Int32)))), .val (.int (own_pick p5 p5 (p2 &&& (255 : Int32)))), .val (.int (own_pick p6 p6 (p3 &&& (255 : Int32)))), .val (.ref b10), .val (.ref b12), .val (.int (1 : Int32)), .val (.ref a14)] [(.ref b12)])) _
    refine XS.aload X15.here hx rfl (hb hby at_130) rfl rfl ?_
    show Steps p.tables e below (T15.setTop (mkF m 132 #[.val (.int p1), .val (.int p2), .val (.int p3), .val (.int p4), .val (.int p5), .val (.int p6), .val (.int (p1 &&& (255 : Int32))), .val (.int (p2 &&& (255 : Int32))), .val (.int (p3 &&& (255 : Int32))), .val (.int (own_pick p4 p4 (p1 &&& (255 : Int32)))), .val (.int (own_pick p5 p5 (p2 &&& (255 : Int32)))), .val (.int (own_pick p6 p6 (p3 &&& (255 : Int32)))), .val (.ref b10), .val (.ref b12), .val (.int (1 : Int32)), .val (.ref a14)] [(.ref b10), (.ref b12)])) _
    refine st16.trans ?_
    show Steps p.tables e below (T16.setTop (mkF m 135 #[.val (.int p1), .val (.int p2), .val (.int p3), .val (.int p4), .val (.int p5), .val (.int p6), .val (.int (p1 &&& (255 : Int32))), .val (.int (p2 &&& (255 : Int32))), .val (.int (p3 &&& (255 : Int32))), .val (.int (own_pick p4 p4 (p1 &&& (255 : Int32)))), .val (.int (own_pick p5 p5 (p2 &&& (255 : Int32)))), .val (.int (own_pick p6 p6 (p3 &&& (255 : Int32)))), .val (.ref b10), .val (.ref b12), .val (.int (1 : Int32)), .val (.ref a14)] [(.int (own_eq3 (own_pick p4 p4 (p1 &&& (255 : Int32))) (own_pick p5 p5 (p2 &&& (255 : Int32))) (own_pick p6 p6 (p3 &&& (255 : Int32))) (p1 &&& (255 : Int32)) (p2 &&& (255 : Int32)) (p3 &&& (255 : Int32))))])) _
    refine XS.iload X16.here hx rfl (hb hby at_135) rfl ?_
    show Steps p.tables e below (T16.setTop (mkF m 137 #[.val (.int p1), .val (.int p2), .val (.int p3), .val (.int p4), .val (.int p5), .val (.int p6), .val (.int (p1 &&& (255 : Int32))), .val (.int (p2 &&& (255 : Int32))), .val (.int (p3 &&& (255 : Int32))), .val (.int (own_pick p4 p4 (p1 &&& (255 : Int32)))), .val (.int (own_pick p5 p5 (p2 &&& (255 : Int32)))), .val (.int (own_pick p6 p6 (p3 &&& (255 : Int32)))), .val (.ref b10), .val (.ref b12), .val (.int (1 : Int32)), .val (.ref a14)] [(.int (1 : Int32)), (.int (own_eq3 (own_pick p4 p4 (p1 &&& (255 : Int32))) (own_pick p5 p5 (p2 &&& (255 : Int32))) (own_pick p6 p6 (p3 &&& (255 : Int32))) (p1 &&& (255 : Int32)) (p2 &&& (255 : Int32)) (p3 &&& (255 : Int32))))])) _
    refine XS.icmpNo X16.here hx rfl (hb hby at_137) rfl (teq (by first | exact hE0 | exact hE1 | exact hE2 | exact hv | exact hv2 | exact own_self _ _ _ | decide : (own_eq3 (own_pick p4 p4 (p1 &&& (255 : Int32))) (own_pick p5 p5 (p2 &&& (255 : Int32))) (own_pick p6 p6 (p3 &&& (255 : Int32))) (p1 &&& (255 : Int32)) (p2 &&& (255 : Int32)) (p3 &&& (255 : Int32))) = (1 : Int32))).2 ?_
    show Steps p.tables e below (T16.setTop (mkF m 140 #[.val (.int p1), .val (.int p2), .val (.int p3), .val (.int p4), .val (.int p5), .val (.int p6), .val (.int (p1 &&& (255 : Int32))), .val (.int (p2 &&& (255 : Int32))), .val (.int (p3 &&& (255 : Int32))), .val (.int (own_pick p4 p4 (p1 &&& (255 : Int32)))), .val (.int (own_pick p5 p5 (p2 &&& (255 : Int32)))), .val (.int (own_pick p6 p6 (p3 &&& (255 : Int32)))), .val (.ref b10), .val (.ref b12), .val (.int (1 : Int32)), .val (.ref a14)] [])) _
    refine XS.aload X16.here hx rfl (hb hby at_140) rfl rfl ?_
    show Steps p.tables e below (T16.setTop (mkF m 142 #[.val (.int p1), .val (.int p2), .val (.int p3), .val (.int p4), .val (.int p5), .val (.int p6), .val (.int (p1 &&& (255 : Int32))), .val (.int (p2 &&& (255 : Int32))), .val (.int (p3 &&& (255 : Int32))), .val (.int (own_pick p4 p4 (p1 &&& (255 : Int32)))), .val (.int (own_pick p5 p5 (p2 &&& (255 : Int32)))), .val (.int (own_pick p6 p6 (p3 &&& (255 : Int32)))), .val (.ref b10), .val (.ref b12), .val (.int (1 : Int32)), .val (.ref a14)] [(.ref b10)])) _
    refine XS.aload X16.here hx rfl (hb hby at_142) rfl rfl ?_
    show Steps p.tables e below (T16.setTop (mkF m 144 #[.val (.int p1), .val (.int p2), .val (.int p3), .val (.int p4), .val (.int p5), .val (.int p6), .val (.int (p1 &&& (255 : Int32))), .val (.int (p2 &&& (255 : Int32))), .val (.int (p3 &&& (255 : Int32))), .val (.int (own_pick p4 p4 (p1 &&& (255 : Int32)))), .val (.int (own_pick p5 p5 (p2 &&& (255 : Int32)))), .val (.int (own_pick p6 p6 (p3 &&& (255 : Int32)))), .val (.ref b10), .val (.ref b12), .val (.int (1 : Int32)), .val (.ref a14)] [(.ref b10), (.ref b10)])) _
    refine st17.trans ?_
    show Steps p.tables e below (T17.setTop (mkF m 147 #[.val (.int p1), .val (.int p2), .val (.int p3), .val (.int p4), .val (.int p5), .val (.int p6), .val (.int (p1 &&& (255 : Int32))), .val (.int (p2 &&& (255 : Int32))), .val (.int (p3 &&& (255 : Int32))), .val (.int (own_pick p4 p4 (p1 &&& (255 : Int32)))), .val (.int (own_pick p5 p5 (p2 &&& (255 : Int32)))), .val (.int (own_pick p6 p6 (p3 &&& (255 : Int32)))), .val (.ref b10), .val (.ref b12), .val (.int (1 : Int32)), .val (.ref a14)] [(.int (own_eq3 (p1 &&& (255 : Int32)) (p2 &&& (255 : Int32)) (p3 &&& (255 : Int32)) (p1 &&& (255 : Int32)) (p2 &&& (255 : Int32)) (p3 &&& (255 : Int32))))])) _
    refine XS.ifNo X17.here hx rfl (hb hby at_147) rfl ((if0 _ _).trans (feq (by first | exact hE0 | exact hE1 | exact hE2 | exact hv | exact hv2 | exact own_self _ _ _ | decide : ¬ ((own_eq3 (p1 &&& (255 : Int32)) (p2 &&& (255 : Int32)) (p3 &&& (255 : Int32)) (p1 &&& (255 : Int32)) (p2 &&& (255 : Int32)) (p3 &&& (255 : Int32))) = (0 : Int32)))).1) ?_
    show Steps p.tables e below (T17.setTop (mkF m 150 #[.val (.int p1), .val (.int p2), .val (.int p3), .val (.int p4), .val (.int p5), .val (.int p6), .val (.int (p1 &&& (255 : Int32))), .val (.int (p2 &&& (255 : Int32))), .val (.int (p3 &&& (255 : Int32))), .val (.int (own_pick p4 p4 (p1 &&& (255 : Int32)))), .val (.int (own_pick p5 p5 (p2 &&& (255 : Int32)))), .val (.int (own_pick p6 p6 (p3 &&& (255 : Int32)))), .val (.ref b10), .val (.ref b12), .val (.int (1 : Int32)), .val (.ref a14)] [])) _
    refine XS.aload X17.here hx rfl (hb hby at_150) rfl rfl ?_
    show Steps p.tables e below (T17.setTop (mkF m 152 #[.val (.int p1), .val (.int p2), .val (.int p3), .val (.int p4), .val (.int p5), .val (.int p6), .val (.int (p1 &&& (255 : Int32))), .val (.int (p2 &&& (255 : Int32))), .val (.int (p3 &&& (255 : Int32))), .val (.int (own_pick p4 p4 (p1 &&& (255 : Int32)))), .val (.int (own_pick p5 p5 (p2 &&& (255 : Int32)))), .val (.int (own_pick p6 p6 (p3 &&& (255 : Int32)))), .val (.ref b10), .val (.ref b12), .val (.int (1 : Int32)), .val (.ref a14)] [(.ref b10)])) _
    refine XS.aconstNull X17.here hx rfl (hb hby at_152) ?_
    show Steps p.tables e below (T17.setTop (mkF m 153 #[.val (.int p1), .val (.int p2), .val (.int p3), .val (.int p4), .val (.int p5), .val (.int p6), .val (.int (p1 &&& (255 : Int32))), .val (.int (p2 &&& (255 : Int32))), .val (.int (p3 &&& (255 : Int32))), .val (.int (own_pick p4 p4 (p1 &&& (255 : Int32)))), .val (.int (own_pick p5 p5 (p2 &&& (255 : Int32)))), .val (.int (own_pick p6 p6 (p3 &&& (255 : Int32)))), .val (.ref b10), .val (.ref b12), .val (.int (1 : Int32)), .val (.ref a14)] [.null, (.ref b10)])) _
    refine st18.trans ?_
    show Steps p.tables e below (T18.setTop (mkF m 156 #[.val (.int p1), .val (.int p2), .val (.int p3), .val (.int p4), .val (.int p5), .val (.int p6), .val (.int (p1 &&& (255 : Int32))), .val (.int (p2 &&& (255 : Int32))), .val (.int (p3 &&& (255 : Int32))), .val (.int (own_pick p4 p4 (p1 &&& (255 : Int32)))), .val (.int (own_pick p5 p5 (p2 &&& (255 : Int32)))), .val (.int (own_pick p6 p6 (p3 &&& (255 : Int32)))), .val (.ref b10), .val (.ref b12), .val (.int (1 : Int32)), .val (.ref a14)] [(.int (0 : Int32))])) _
    refine XS.ifNo X18.here hx rfl (hb hby at_156) rfl ((if0 _ _).trans (teq (by first | exact hE0 | exact hE1 | exact hE2 | exact hv | exact hv2 | exact own_self _ _ _ | decide : (0 : Int32) = (0 : Int32))).2) ?_
    show Steps p.tables e below (T18.setTop (mkF m 159 #[.val (.int p1), .val (.int p2), .val (.int p3), .val (.int p4), .val (.int p5), .val (.int p6), .val (.int (p1 &&& (255 : Int32))), .val (.int (p2 &&& (255 : Int32))), .val (.int (p3 &&& (255 : Int32))), .val (.int (own_pick p4 p4 (p1 &&& (255 : Int32)))), .val (.int (own_pick p5 p5 (p2 &&& (255 : Int32)))), .val (.int (own_pick p6 p6 (p3 &&& (255 : Int32)))), .val (.ref b10), .val (.ref b12), .val (.int (1 : Int32)), .val (.ref a14)] [])) _
    refine XS.aload X18.here hx rfl (hb hby at_159) rfl rfl ?_
    show Steps p.tables e below (T18.setTop (mkF m 161 #[.val (.int p1), .val (.int p2), .val (.int p3), .val (.int p4), .val (.int p5), .val (.int p6), .val (.int (p1 &&& (255 : Int32))), .val (.int (p2 &&& (255 : Int32))), .val (.int (p3 &&& (255 : Int32))), .val (.int (own_pick p4 p4 (p1 &&& (255 : Int32)))), .val (.int (own_pick p5 p5 (p2 &&& (255 : Int32)))), .val (.int (own_pick p6 p6 (p3 &&& (255 : Int32)))), .val (.ref b10), .val (.ref b12), .val (.int (1 : Int32)), .val (.ref a14)] [(.ref b10)])) _
    refine XS.aload X18.here hx rfl (hb hby at_161) rfl rfl ?_
    show Steps p.tables e below (T18.setTop (mkF m 163 #[.val (.int p1), .val (.int p2), .val (.int p3), .val (.int p4), .val (.int p5), .val (.int p6), .val (.int (p1 &&& (255 : Int32))), .val (.int (p2 &&& (255 : Int32))), .val (.int (p3 &&& (255 : Int32))), .val (.int (own_pick p4 p4 (p1 &&& (255 : Int32)))), .val (.int (own_pick p5 p5 (p2 &&& (255 : Int32)))), .val (.int (own_pick p6 p6 (p3 &&& (255 : Int32)))), .val (.ref b10), .val (.ref b12), .val (.int (1 : Int32)), .val (.ref a14)] [(.ref a14), (.ref b10)])) _
    refine st19.trans ?_
    show Steps p.tables e below (T19.setTop (mkF m 166 #[.val (.int p1), .val (.int p2), .val (.int p3), .val (.int p4), .val (.int p5), .val (.int p6), .val (.int (p1 &&& (255 : Int32))), .val (.int (p2 &&& (255 : Int32))), .val (.int (p3 &&& (255 : Int32))), .val (.int (own_pick p4 p4 (p1 &&& (255 : Int32)))), .val (.int (own_pick p5 p5 (p2 &&& (255 : Int32)))), .val (.int (own_pick p6 p6 (p3 &&& (255 : Int32)))), .val (.ref b10), .val (.ref b12), .val (.int (1 : Int32)), .val (.ref a14)] [(.int (0 : Int32))])) _
    refine XS.ifNo X19.here hx rfl (hb hby at_166) rfl ((if0 _ _).trans (teq (by first | exact hE0 | exact hE1 | exact hE2 | exact hv | exact hv2 | exact own_self _ _ _ | decide : (0 : Int32) = (0 : Int32))).2) ?_
    show Steps p.tables e below (T19.setTop (mkF m 169 #[.val (.int p1), .val (.int p2), .val (.int p3), .val (.int p4), .val (.int p5), .val (.int p6), .val (.int (p1 &&& (255 : Int32))), .val (.int (p2 &&& (255 : Int32))), .val (.int (p3 &&& (255 : Int32))), .val (.int (own_pick p4 p4 (p1 &&& (255 : Int32)))), .val (.int (own_pick p5 p5 (p2 &&& (255 : Int32)))), .val (.int (own_pick p6 p6 (p3 &&& (255 : Int32)))), .val (.ref b10), .val (.ref b12), .val (.int (1 : Int32)), .val (.ref a14)] [])) _
    refine XS.iconst X19.here hx rfl (hb hby at_169) ?_
    show Steps p.tables e below (T19.setTop (mkF m 170 #[.val (.int p1), .val (.int p2), .val (.int p3), .val (.int p4), .val (.int p5), .val (.int p6), .val (.int (p1 &&& (255 : Int32))), .val (.int (p2 &&& (255 : Int32))), .val (.int (p3 &&& (255 : Int32))), .val (.int (own_pick p4 p4 (p1 &&& (255 : Int32)))), .val (.int (own_pick p5 p5 (p2 &&& (255 : Int32)))), .val (.int (own_pick p6 p6 (p3 &&& (255 : Int32)))), .val (.ref b10), .val (.ref b12), .val (.int (1 : Int32)), .val (.ref a14)] [(.int (1 : Int32))])) _
    refine XS.goto X19.here hx rfl (pc0 := 170) (pc' := 174) rfl (hb hby at_170) (by decide) (by decide) ?_
    show Steps p.tables e below (T19.setTop (mkF m 174 #[.val (.int p1), .val (.int p2), .val (.int p3), .val (.int p4), .val (.int p5), .val (.int p6), .val (.int (p1 &&& (255 : Int32))), .val (.int (p2 &&& (255 : Int32))), .val (.int (p3 &&& (255 : Int32))), .val (.int (own_pick p4 p4 (p1 &&& (255 : Int32)))), .val (.int (own_pick p5 p5 (p2 &&& (255 : Int32)))), .val (.int (own_pick p6 p6 (p3 &&& (255 : Int32)))), .val (.ref b10), .val (.ref b12), .val (.int (1 : Int32)), .val (.ref a14)] [(.int (1 : Int32))])) _
    exact retN X19 hx (t := .boolean) Bd.returns (by simp) (hb hby at_174) hr
  · show Ql (some (.int (1 : Int32))) n0 _ _
    exact ⟨rfl, N19⟩
set_option maxRecDepth 65536 in
set_option maxHeartbeats 40000000 in
theorem rm0_t (l : Launch) (Z : State) (a0 : Array Value) (hw : ∀ d ∈ tables_1, d.before a0 Z = true) (ws : List Jvm.Cond) (p1 : Int32) (p2 : Int32) (p3 : Int32) (p4 : Int32) (p5 : Int32) (p6 : Int32) (h0 : Heap) (n0 : Nat) (Z0 : n0 ≤ h0.size) (w4 : Addr) (cl : Cell) (SH : Sta Z h0 "java/lang/Integer$IntegerCache" "high" "I" (.int (127 : Int32))) (SC : Sta Z h0 "java/lang/Integer$IntegerCache" "cache" "[Ljava/lang/Integer;" (.ref w4)) (AC : Arr Z h0 w4 cl (.object "java/lang/Integer")) (hsz : cl.slots.size = 256) (BC : ∀ j : Int32, ¬ (j < 0 ∨ cl.slots.size ≤ j.toNatClampNeg) → ∃ b : Addr, cl.slots[j.toNatClampNeg]? = some (.ref b) ∧ Exa Z h0 b "java/lang/Integer") (hE0 : ¬ ((p1 &&& (255 : Int32)) = (own_pick p4 p4 (p1 &&& (255 : Int32))))) (hv : own_eq3 (p1 &&& (255 : Int32)) (p2 &&& (255 : Int32)) (p3 &&& (255 : Int32)) (own_pick p4 p4 (p1 &&& (255 : Int32))) (own_pick p5 p5 (p2 &&& (255 : Int32))) (own_pick p6 p6 (p3 &&& (255 : Int32))) = 0) (hv2 : own_eq3 (own_pick p4 p4 (p1 &&& (255 : Int32))) (own_pick p5 p5 (p2 &&& (255 : Int32))) (own_pick p6 p6 (p3 &&& (255 : Int32))) (p1 &&& (255 : Int32)) (p2 &&& (255 : Int32)) (p3 &&& (255 : Int32)) = 0) :
    MetFree l x (head1 (Jvm.Cond.code x code maxLocals ret :: ws) room_1) (fun a U => a = #[(.int p1), (.int p2), (.int p3), (.int p4), (.int p5), (.int p6)] ∧ Z.Warmed39 U.vm ∧ U.heap = h0) (fun _ _ _ _ _ => True) (fun _ U o U' => ∃ v L, o = .returned v ∧ Ql (some (.int (1 : Int32))) n0 v L ∧ FrameEnd U o U' L room_1.cells room_1.slots) := by
  refine MetFree.of_bodySF (plainFor_of_name pn_0) hisR ?_
  intro p e s m args below meth c s₁ Bd hml0 hP hK
  obtain ⟨rfl, hZ, hh⟩ := hP
  have hx := Bd.exec
  have hby := Bd.bytes
  have hml : c.maxLocals = 16 := hml0
  have hown : s.vm.findClass "com/example/telegrid/telegrid/erp1/EepEqualsPinLaw" = some m.cls := findClass_of_methodNamed Bd.named
  have hnm := (name_of_methodNamed Bd.named Bd.method).1
  have X0 : Stand p l e room_1 s m #[(.int p1), (.int p2), (.int p3), (.int p4), (.int p5), (.int p6)] below meth c s₁ [] 0 0 := Stand.of_body Bd
  have e0 : s₁.heap = h0 := by rw [← hh, Bd.state]; rfl
  have N0 := Fr.nil n0
  have pre0 : ∀ t, Steps p.tables e below (s₁.setTop (mkF m 0 #[.val (.int p1), .val (.int p2), .val (.int p3), .val (.int p4), .val (.int p5), .val (.int p6), .unset, .unset, .unset, .unset, .unset, .unset, .unset, .unset, .unset, .unset] [])) t → Steps p.tables e below (s₁.setTop (entryFrame m #[(.int p1), (.int p2), (.int p3), (.int p4), (.int p5), (.int p6)] maxLocals)) t := fun t k => castTop (ef_0 m p1 p2 p3 p4 p5 p6) k
  -- 3. LAWS
  -- pc 25: com/example/telegrid/telegrid/erp1/EepEqualsPinLaw.pick by its contract rm1
  obtain ⟨_, _, ⟨T7, L7, k7, n7⟩, -, X7, ⟨Lc7, hQ7, l7, y7, z7⟩, st7⟩ := Jvm.LawKit.callS X0 hx (y := (⟨"com/example/telegrid/telegrid/erp1/EepEqualsPinLaw", "pick", "(III)I"⟩ : MethodName)) hown (mvT hZ (hw _ (List.mem_of_getElem? (i := 0) rfl))) (mvT hZ (hw _ (List.mem_of_getElem? (i := 1) rfl))) (mvT hZ (hw _ (List.mem_of_getElem? (i := 2) rfl))) (mvT hZ (hw _ (List.mem_of_getElem? (i := 3) rfl))) (by decide) (backOf (W := 0) (rm1 l Z a0 hw [] p4 p4 (p1 &&& (255 : Int32)) h0 n0 Z0) hZ (hw _ (List.mem_of_getElem? (i := 3) rfl)) (hw _ (List.mem_of_getElem? (i := 2) rfl)) (by decide) (by decide)) (g := (mkF m 25 #[.val (.int p1), .val (.int p2), .val (.int p3), .val (.int p4), .val (.int p5), .val (.int p6), .val (.int (p1 &&& (255 : Int32))), .val (.int (p2 &&& (255 : Int32))), .val (.int (p3 &&& (255 : Int32))), .unset, .unset, .unset, .unset, .unset, .unset, .unset] [(.int (p1 &&& (255 : Int32))), (.int p4), (.int p4)])) rfl (by rw [hml]; rfl) (argsL := [(.int p4), (.int p4), (.int (p1 &&& (255 : Int32)))]) (rest := []) (lenOf pd_0_0 rfl) rfl (by show 2 * 0 + _ ≤ _; exact Nat.le_of_eq rfl) (hb hby at_25) (fun _ _ => ⟨rfl, e0, (by decide : 0 + 0 ≤ _), (by decide : 0 + 0 ≤ _)⟩)
  dsimp only [Pt.U, Pt.locs, Pt.cells, Pt.slots] at X7 l7 y7 z7 st7 hQ7
  subst l7 y7 z7
  obtain ⟨rfl, N7q, e7⟩ := hQ7
  have N7 := Fr.app N0 N7q
  have Kc7 : Keep h0 T7.heap [] := own_kp e7
  -- pc 36: com/example/telegrid/telegrid/erp1/EepEqualsPinLaw.pick by its contract rm1
  obtain ⟨_, _, ⟨T8, L8, k8, n8⟩, -, X8, ⟨Lc8, hQ8, l8, y8, z8⟩, st8⟩ := Jvm.LawKit.callS X7 hx (y := (⟨"com/example/telegrid/telegrid/erp1/EepEqualsPinLaw", "pick", "(III)I"⟩ : MethodName)) hown (mvT hZ (hw _ (List.mem_of_getElem? (i := 0) rfl))) (mvT hZ (hw _ (List.mem_of_getElem? (i := 1) rfl))) (mvT hZ (hw _ (List.mem_of_getElem? (i := 2) rfl))) (mvT hZ (hw _ (List.mem_of_getElem? (i := 3) rfl))) (by decide) (backOf (W := 0) (rm1 l Z a0 hw [] p5 p5 (p2 &&& (255 : Int32)) T7.heap n0 (Nat.le_trans Z0 Kc7.1)) hZ (hw _ (List.mem_of_getElem? (i := 3) rfl)) (hw _ (List.mem_of_getElem? (i := 2) rfl)) (by decide) (by decide)) (g := (mkF m 36 #[.val (.int p1), .val (.int p2), .val (.int p3), .val (.int p4), .val (.int p5), .val (.int p6), .val (.int (p1 &&& (255 : Int32))), .val (.int (p2 &&& (255 : Int32))), .val (.int (p3 &&& (255 : Int32))), .val (.int (own_pick p4 p4 (p1 &&& (255 : Int32)))), .unset, .unset, .unset, .unset, .unset, .unset] [(.int (p2 &&& (255 : Int32))), (.int p5), (.int p5)])) rfl (by rw [hml]; rfl) (argsL := [(.int p5), (.int p5), (.int (p2 &&& (255 : Int32)))]) (rest := []) (lenOf pd_0_0 rfl) rfl (by show 2 * 0 + _ ≤ _; exact Nat.le_of_eq rfl) (hb hby at_36) (fun _ _ => ⟨rfl, rfl, (by decide : 0 + 0 ≤ _), (by decide : 0 + 0 ≤ _)⟩)
  dsimp only [Pt.U, Pt.locs, Pt.cells, Pt.slots] at X8 l8 y8 z8 st8 hQ8
  subst l8 y8 z8
  obtain ⟨rfl, N8q, e8⟩ := hQ8
  have N8 := Fr.app N7 N8q
  have Kc8 : Keep T7.heap T8.heap [] := own_kp e8
  -- pc 47: com/example/telegrid/telegrid/erp1/EepEqualsPinLaw.pick by its contract rm1
  obtain ⟨_, _, ⟨T9, L9, k9, n9⟩, -, X9, ⟨Lc9, hQ9, l9, y9, z9⟩, st9⟩ := Jvm.LawKit.callS X8 hx (y := (⟨"com/example/telegrid/telegrid/erp1/EepEqualsPinLaw", "pick", "(III)I"⟩ : MethodName)) hown (mvT hZ (hw _ (List.mem_of_getElem? (i := 0) rfl))) (mvT hZ (hw _ (List.mem_of_getElem? (i := 1) rfl))) (mvT hZ (hw _ (List.mem_of_getElem? (i := 2) rfl))) (mvT hZ (hw _ (List.mem_of_getElem? (i := 3) rfl))) (by decide) (backOf (W := 0) (rm1 l Z a0 hw [] p6 p6 (p3 &&& (255 : Int32)) T8.heap n0 (Nat.le_trans (Nat.le_trans Z0 Kc7.1) Kc8.1)) hZ (hw _ (List.mem_of_getElem? (i := 3) rfl)) (hw _ (List.mem_of_getElem? (i := 2) rfl)) (by decide) (by decide)) (g := (mkF m 47 #[.val (.int p1), .val (.int p2), .val (.int p3), .val (.int p4), .val (.int p5), .val (.int p6), .val (.int (p1 &&& (255 : Int32))), .val (.int (p2 &&& (255 : Int32))), .val (.int (p3 &&& (255 : Int32))), .val (.int (own_pick p4 p4 (p1 &&& (255 : Int32)))), .val (.int (own_pick p5 p5 (p2 &&& (255 : Int32)))), .unset, .unset, .unset, .unset, .unset] [(.int (p3 &&& (255 : Int32))), (.int p6), (.int p6)])) rfl (by rw [hml]; rfl) (argsL := [(.int p6), (.int p6), (.int (p3 &&& (255 : Int32)))]) (rest := []) (lenOf pd_0_0 rfl) rfl (by show 2 * 0 + _ ≤ _; exact Nat.le_of_eq rfl) (hb hby at_47) (fun _ _ => ⟨rfl, rfl, (by decide : 0 + 0 ≤ _), (by decide : 0 + 0 ≤ _)⟩)
  dsimp only [Pt.U, Pt.locs, Pt.cells, Pt.slots] at X9 l9 y9 z9 st9 hQ9
  subst l9 y9 z9
  obtain ⟨rfl, N9q, e9⟩ := hQ9
  have N9 := Fr.app N8 N9q
  have Kc9 : Keep T8.heap T9.heap [] := own_kp e9
  have Kh9 : Keep h0 T9.heap [] := (Kc7.trans Kc8 all0).trans Kc9 all0
  obtain ⟨T10, h10, X10, e10, E10, A10, D10, -, st10⟩ := newO X9 hx hZ hown (hw _ (List.mem_of_getElem? (i := 4) rfl)) (hw _ (List.mem_of_getElem? (i := 5) rfl)) (hw _ (List.mem_of_getElem? (i := 6) rfl)) rfl (g := (mkF m 52 #[.val (.int p1), .val (.int p2), .val (.int p3), .val (.int p4), .val (.int p5), .val (.int p6), .val (.int (p1 &&& (255 : Int32))), .val (.int (p2 &&& (255 : Int32))), .val (.int (p3 &&& (255 : Int32))), .val (.int (own_pick p4 p4 (p1 &&& (255 : Int32)))), .val (.int (own_pick p5 p5 (p2 &&& (255 : Int32)))), .val (.int (own_pick p6 p6 (p3 &&& (255 : Int32)))), .unset, .unset, .unset, .unset] [])) rfl (hb hby at_52) (by decide) (by decide)
  obtain ⟨b10, g10⟩ : ∃ z, z = T9.heap.size := ⟨_, rfl⟩      -- the fresh object's address
  rw [← g10] at A10 D10 st10      -- A10 : Exa Z h10 b10 "com/example/telegrid/telegrid/erp1/Eep"; E10 : Ext T9.heap h10 (carries every older fact: .ext E10)
  have F_rorg_b10 : Fld Z h10 b10 "com/example/telegrid/telegrid/erp1/Eep" "rorg" "I" (.int (0 : Int32)) := D10 (Or.inr (hw _ (List.mem_of_getElem? (i := 14) rfl))) (ty := .int) (by decide)
  have F_func_b10 : Fld Z h10 b10 "com/example/telegrid/telegrid/erp1/Eep" "func" "I" (.int (0 : Int32)) := D10 (Or.inr (hw _ (List.mem_of_getElem? (i := 16) rfl))) (ty := .int) (by decide)
  have F_type_b10 : Fld Z h10 b10 "com/example/telegrid/telegrid/erp1/Eep" "type" "I" (.int (0 : Int32)) := D10 (Or.inr (hw _ (List.mem_of_getElem? (i := 18) rfl))) (ty := .int) (by decide)
  have E_b10 := A10
  have g_b10 : n0 ≤ b10 := Nat.le_trans (Nat.le_trans (Nat.le_trans (Nat.le_trans Z0 Kc7.1) Kc8.1) Kc9.1) (Nat.le_of_eq g10.symm)
  have sz_b10 : h0.size ≤ b10 := (Nat.le_trans Kh9.1 (Nat.le_of_eq g10.symm))
  have K10 : Keep h0 h10 [] := Kh9.ext E10
  -- pc 62: the constructor of com/example/telegrid/telegrid/erp1/Eep by its contract rm2
  obtain ⟨_, _, ⟨T11, L11, k11, n11⟩, -, X11, ⟨Lc11, hQ11, l11, y11, z11⟩, st11⟩ := X10.specialBack hx (y := (⟨"com/example/telegrid/telegrid/erp1/Eep", "<init>", "(III)V"⟩ : MethodName)) rfl hown (mvT hZ (hw _ (List.mem_of_getElem? (i := 7) rfl))) (mvT hZ (hw _ (List.mem_of_getElem? (i := 8) rfl))) (mvT hZ (hw _ (List.mem_of_getElem? (i := 9) rfl))) (by decide) (backOf (W := 1) (rm2 l Z a0 hw [] b10 (p1 &&& (255 : Int32)) (p2 &&& (255 : Int32)) (p3 &&& (255 : Int32)) (.int (0 : Int32)) (.int (0 : Int32)) (.int (0 : Int32)) h10 n0 (Nat.le_trans Z0 K10.1) E_b10 F_rorg_b10 g_b10 F_func_b10 F_type_b10 (own_hi3 (own_hi p1) (own_hi p2) (own_hi p3))) hZ (hw _ (List.mem_of_getElem? (i := 9) rfl)) (hw _ (List.mem_of_getElem? (i := 6) rfl)) (by decide) (by decide)) (g := (mkF m 62 #[.val (.int p1), .val (.int p2), .val (.int p3), .val (.int p4), .val (.int p5), .val (.int p6), .val (.int (p1 &&& (255 : Int32))), .val (.int (p2 &&& (255 : Int32))), .val (.int (p3 &&& (255 : Int32))), .val (.int (own_pick p4 p4 (p1 &&& (255 : Int32)))), .val (.int (own_pick p5 p5 (p2 &&& (255 : Int32)))), .val (.int (own_pick p6 p6 (p3 &&& (255 : Int32)))), .unset, .unset, .unset, .unset] [(.int (p3 &&& (255 : Int32))), (.int (p2 &&& (255 : Int32))), (.int (p1 &&& (255 : Int32))), (.ref b10), (.ref b10)])) rfl (by rw [hml]; rfl) (Steps.refl _) (a := b10) (argsL := [(.int (p1 &&& (255 : Int32))), (.int (p2 &&& (255 : Int32))), (.int (p3 &&& (255 : Int32)))]) (rest := [(.ref b10)]) (lenOf pd_0_1 rfl) rfl (by show 2 * 0 + _ ≤ _; exact Nat.le_of_eq rfl) (hb hby at_62) (fun _ _ => ⟨rfl, e10, (by decide : 1 + 0 ≤ _), (by decide : 3 + 0 ≤ _)⟩)
  dsimp only [Pt.U, Pt.locs, Pt.cells, Pt.slots] at X11 l11 y11 z11 st11 hQ11
  subst l11 y11 z11
  obtain ⟨rfl, N11q, Kc11, EE11, R1_11, R2_11, R3_11⟩ := hQ11
  have N11 := Fr.app N9 N11q
  have Kh11 : Keep h0 T11.heap [] := K10.trans Kc11 (allS (Or.inr sz_b10) all0)
  obtain ⟨T12, h12, X12, e12, E12, A12, D12, -, st12⟩ := newO X11 hx hZ hown (hw _ (List.mem_of_getElem? (i := 4) rfl)) (hw _ (List.mem_of_getElem? (i := 5) rfl)) (hw _ (List.mem_of_getElem? (i := 6) rfl)) rfl (g := (mkF m 67 #[.val (.int p1), .val (.int p2), .val (.int p3), .val (.int p4), .val (.int p5), .val (.int p6), .val (.int (p1 &&& (255 : Int32))), .val (.int (p2 &&& (255 : Int32))), .val (.int (p3 &&& (255 : Int32))), .val (.int (own_pick p4 p4 (p1 &&& (255 : Int32)))), .val (.int (own_pick p5 p5 (p2 &&& (255 : Int32)))), .val (.int (own_pick p6 p6 (p3 &&& (255 : Int32)))), .val (.ref b10), .unset, .unset, .unset] [])) rfl (hb hby at_67) (by decide) (by decide)
  obtain ⟨b12, g12⟩ : ∃ z, z = T11.heap.size := ⟨_, rfl⟩      -- the fresh object's address
  rw [← g12] at A12 D12 st12      -- A12 : Exa Z h12 b12 "com/example/telegrid/telegrid/erp1/Eep"; E12 : Ext T11.heap h12 (carries every older fact: .ext E12)
  have F_rorg_b12 : Fld Z h12 b12 "com/example/telegrid/telegrid/erp1/Eep" "rorg" "I" (.int (0 : Int32)) := D12 (Or.inr (hw _ (List.mem_of_getElem? (i := 14) rfl))) (ty := .int) (by decide)
  have F_func_b12 : Fld Z h12 b12 "com/example/telegrid/telegrid/erp1/Eep" "func" "I" (.int (0 : Int32)) := D12 (Or.inr (hw _ (List.mem_of_getElem? (i := 16) rfl))) (ty := .int) (by decide)
  have F_type_b12 : Fld Z h12 b12 "com/example/telegrid/telegrid/erp1/Eep" "type" "I" (.int (0 : Int32)) := D12 (Or.inr (hw _ (List.mem_of_getElem? (i := 18) rfl))) (ty := .int) (by decide)
  have E_b12 := A12
  have g_b12 : n0 ≤ b12 := Nat.le_trans (Nat.le_trans (Nat.le_trans (Nat.le_trans (Nat.le_trans (Nat.le_trans Z0 Kc7.1) Kc8.1) Kc9.1) E10.1) Kc11.1) (Nat.le_of_eq g12.symm)
  have sz_b12 : h0.size ≤ b12 := (Nat.le_trans Kh11.1 (Nat.le_of_eq g12.symm))
  have K12 : Keep h0 h12 [] := Kh11.ext E12
  -- pc 77: the constructor of com/example/telegrid/telegrid/erp1/Eep by its contract rm2
  obtain ⟨_, _, ⟨T13, L13, k13, n13⟩, -, X13, ⟨Lc13, hQ13, l13, y13, z13⟩, st13⟩ := X12.specialBack hx (y := (⟨"com/example/telegrid/telegrid/erp1/Eep", "<init>", "(III)V"⟩ : MethodName)) rfl hown (mvT hZ (hw _ (List.mem_of_getElem? (i := 7) rfl))) (mvT hZ (hw _ (List.mem_of_getElem? (i := 8) rfl))) (mvT hZ (hw _ (List.mem_of_getElem? (i := 9) rfl))) (by decide) (backOf (W := 1) (rm2 l Z a0 hw [] b12 (own_pick p4 p4 (p1 &&& (255 : Int32))) (own_pick p5 p5 (p2 &&& (255 : Int32))) (own_pick p6 p6 (p3 &&& (255 : Int32))) (.int (0 : Int32)) (.int (0 : Int32)) (.int (0 : Int32)) h12 n0 (Nat.le_trans Z0 K12.1) E_b12 F_rorg_b12 g_b12 F_func_b12 F_type_b12 (own_hi3 (own_hip _ _ _ (own_hi p1)) (own_hip _ _ _ (own_hi p2)) (own_hip _ _ _ (own_hi p3)))) hZ (hw _ (List.mem_of_getElem? (i := 9) rfl)) (hw _ (List.mem_of_getElem? (i := 6) rfl)) (by decide) (by decide)) (g := (mkF m 77 #[.val (.int p1), .val (.int p2), .val (.int p3), .val (.int p4), .val (.int p5), .val (.int p6), .val (.int (p1 &&& (255 : Int32))), .val (.int (p2 &&& (255 : Int32))), .val (.int (p3 &&& (255 : Int32))), .val (.int (own_pick p4 p4 (p1 &&& (255 : Int32)))), .val (.int (own_pick p5 p5 (p2 &&& (255 : Int32)))), .val (.int (own_pick p6 p6 (p3 &&& (255 : Int32)))), .val (.ref b10), .unset, .unset, .unset] [(.int (own_pick p6 p6 (p3 &&& (255 : Int32)))), (.int (own_pick p5 p5 (p2 &&& (255 : Int32)))), (.int (own_pick p4 p4 (p1 &&& (255 : Int32)))), (.ref b12), (.ref b12)])) rfl (by rw [hml]; rfl) (Steps.refl _) (a := b12) (argsL := [(.int (own_pick p4 p4 (p1 &&& (255 : Int32)))), (.int (own_pick p5 p5 (p2 &&& (255 : Int32)))), (.int (own_pick p6 p6 (p3 &&& (255 : Int32))))]) (rest := [(.ref b12)]) (lenOf pd_0_1 rfl) rfl (by show 2 * 0 + _ ≤ _; exact Nat.le_of_eq rfl) (hb hby at_77) (fun _ _ => ⟨rfl, e12, (by decide : 2 + 0 ≤ _), (by decide : 6 + 0 ≤ _)⟩)
  dsimp only [Pt.U, Pt.locs, Pt.cells, Pt.slots] at X13 l13 y13 z13 st13 hQ13
  subst l13 y13 z13
  obtain ⟨rfl, N13q, Kc13, EB_13, S1_13, S2_13, S3_13⟩ := hQ13
  have N13 := Fr.app N11 N13q
  have Kh13 : Keep h0 T13.heap [] := K12.trans Kc13 (allS (Or.inr sz_b12) all0)
  have nAB : b10 ≠ b12 := Nat.ne_of_lt (by rw [g12]; exact R1_11.lt)
  have EA_13 := (EE11.ext E12).keep Kc13
  have R1_13 := (R1_11.ext E12).keep Kc13 (ninS nAB nin0)
  have R2_13 := (R2_11.ext E12).keep Kc13 (ninS nAB nin0)
  have R3_13 := (R3_11.ext E12).keep Kc13 (ninS nAB nin0)
  -- pc 111: java/lang/Integer.valueOf by its contract rm4
  obtain ⟨_, _, ⟨T14, L14, k14, n14⟩, -, X14, ⟨Lc14, hQ14, l14, y14, z14⟩, st14⟩ := Jvm.LawKit.callS X13 hx (y := (⟨"java/lang/Integer", "valueOf", "(I)Ljava/lang/Integer;"⟩ : MethodName)) hown (mvT hZ (hw _ (List.mem_of_getElem? (i := 19) rfl))) (mvT hZ (hw _ (List.mem_of_getElem? (i := 20) rfl))) (mvT hZ (hw _ (List.mem_of_getElem? (i := 21) rfl))) (mvT hZ (hw _ (List.mem_of_getElem? (i := 22) rfl))) (by decide) (backOf (W := 0) (rm4 l Z a0 hw [] p3 w4 cl T13.heap n0 (Nat.le_trans Z0 Kh13.1) (SH.ext (own_ext Kh13)) (SC.ext (own_ext Kh13)) (AC.ext (own_ext Kh13)) hsz (fun j hj => by obtain ⟨b, q1, q2⟩ := BC j hj; exact ⟨b, q1, q2.keep Kh13⟩)) hZ (hw _ (List.mem_of_getElem? (i := 22) rfl)) (hw _ (List.mem_of_getElem? (i := 21) rfl)) (by decide) (by decide)) (g := (mkF m 111 #[.val (.int p1), .val (.int p2), .val (.int p3), .val (.int p4), .val (.int p5), .val (.int p6), .val (.int (p1 &&& (255 : Int32))), .val (.int (p2 &&& (255 : Int32))), .val (.int (p3 &&& (255 : Int32))), .val (.int (own_pick p4 p4 (p1 &&& (255 : Int32)))), .val (.int (own_pick p5 p5 (p2 &&& (255 : Int32)))), .val (.int (own_pick p6 p6 (p3 &&& (255 : Int32)))), .val (.ref b10), .val (.ref b12), .val (.int (0 : Int32)), .unset] [(.int p3)])) rfl (by rw [hml]; rfl) (argsL := [(.int p3)]) (rest := []) (lenOf pd_0_3 rfl) rfl (by show 2 * 0 + _ ≤ _; exact Nat.le_of_eq rfl) (hb hby at_111) (fun _ _ => ⟨rfl, rfl, (by decide : 2 + 1 ≤ _), (by decide : 6 + 1 ≤ _)⟩)
  dsimp only [Pt.U, Pt.locs, Pt.cells, Pt.slots] at X14 l14 y14 z14 st14 hQ14
  subst l14 y14 z14
  obtain ⟨a14, rfl, N14q, Kc14, EO_14⟩ := hQ14
  have N14 := Fr.app N13 N14q
  have Kh14 : Keep h0 T14.heap [] := Kh13.trans Kc14 all0
  have R1_14 := R1_13.keep Kc14 nin0
  have R2_14 := R2_13.keep Kc14 nin0
  have R3_14 := R3_13.keep Kc14 nin0
  have S1_14 := S1_13.keep Kc14 nin0
  have S2_14 := S2_13.keep Kc14 nin0
  have S3_14 := S3_13.keep Kc14 nin0
  have EA_14 := EA_13.keep Kc14
  have EB_14 := EB_13.keep Kc14
  -- pc 120: com/example/telegrid/telegrid/erp1/Eep.equals by the contract of the body that the receiver's class selects, rm5
  obtain ⟨cq15, kq15, q15a, q15b, q15c⟩ := isOf hZ rfl ((((E_b10.keep Kc11).ext E12).keep Kc13).keep Kc14)
  obtain ⟨_, _, ⟨T15, L15, k15, n15⟩, -, X15, ⟨Lc15, hQ15, l15, y15, z15⟩, st15⟩ := X14.virtualBack hx (y := (⟨"com/example/telegrid/telegrid/erp1/Eep", "equals", "(Ljava/lang/Object;)Z"⟩ : MethodName)) (z := (⟨"com/example/telegrid/telegrid/erp1/Eep", "equals", "(Ljava/lang/Object;)Z"⟩ : MethodName)) hown (mvT hZ (hw _ (List.mem_of_getElem? (i := 26) rfl))) (mvT hZ (hw _ (List.mem_of_getElem? (i := 27) rfl))) (notFace_of_selects (args := #[]) (mvT hZ (hw _ (List.mem_of_getElem? (i := 29) rfl)))) (mvT hZ (hw _ (List.mem_of_getElem? (i := 29) rfl))) (mvT hZ (hw _ (List.mem_of_getElem? (i := 28) rfl))) (by decide) (backOf (W := 0) (rm5 l Z a0 hw [] b10 b12 (p1 &&& (255 : Int32)) (p2 &&& (255 : Int32)) (p3 &&& (255 : Int32)) (own_pick p4 p4 (p1 &&& (255 : Int32))) (own_pick p5 p5 (p2 &&& (255 : Int32))) (own_pick p6 p6 (p3 &&& (255 : Int32))) T14.heap n0 (Nat.le_trans Z0 Kh14.1) EB_14 R1_14 R2_14 R3_14 S1_14 S2_14 S3_14) hZ (hw _ (List.mem_of_getElem? (i := 30) rfl)) (hw _ (List.mem_of_getElem? (i := 6) rfl)) (by decide) (by decide)) q15a q15c (g := (mkF m 120 #[.val (.int p1), .val (.int p2), .val (.int p3), .val (.int p4), .val (.int p5), .val (.int p6), .val (.int (p1 &&& (255 : Int32))), .val (.int (p2 &&& (255 : Int32))), .val (.int (p3 &&& (255 : Int32))), .val (.int (own_pick p4 p4 (p1 &&& (255 : Int32)))), .val (.int (own_pick p5 p5 (p2 &&& (255 : Int32)))), .val (.int (own_pick p6 p6 (p3 &&& (255 : Int32)))), .val (.ref b10), .val (.ref b12), .val (.int (0 : Int32)), .val (.ref a14)] [(.ref b12), (.ref b10)])) rfl (by rw [hml]; rfl) (Steps.refl _) (argsL := [(.ref b12)]) (rest := []) (lenOf pd_0_4 rfl) rfl (by show 2 * 0 + _ ≤ _; exact Nat.le_of_eq rfl) (hb hby at_120) (fun _ _ => ⟨rfl, rfl, (by decide : 3 + 0 ≤ _), (by decide : 7 + 0 ≤ _)⟩)
  dsimp only [Pt.U, Pt.locs, Pt.cells, Pt.slots] at X15 l15 y15 z15 st15 hQ15
  subst l15 y15 z15
  obtain ⟨rfl, N15q, e15⟩ := hQ15
  have N15 := Fr.app N14 N15q
  have Kc15 : Keep T14.heap T15.heap [] := own_kp e15
  have Kh15 : Keep h0 T15.heap [] := Kh14.trans Kc15 all0
  have R1_15 := R1_14.keep Kc15 nin0
  have R2_15 := R2_14.keep Kc15 nin0
  have R3_15 := R3_14.keep Kc15 nin0
  have S1_15 := S1_14.keep Kc15 nin0
  have S2_15 := S2_14.keep Kc15 nin0
  have S3_15 := S3_14.keep Kc15 nin0
  have EA_15 := EA_14.keep Kc15
  have EB_15 := EB_14.keep Kc15
  have EO_15 := EO_14.keep Kc15
  -- pc 132: com/example/telegrid/telegrid/erp1/Eep.equals by the contract of the body that the receiver's class selects, rm5
  obtain ⟨cq16, kq16, q16a, q16b, q16c⟩ := isOf hZ rfl (((E_b12.keep Kc13).keep Kc14).keep Kc15)
  obtain ⟨_, _, ⟨T16, L16, k16, n16⟩, -, X16, ⟨Lc16, hQ16, l16, y16, z16⟩, st16⟩ := X15.virtualBack hx (y := (⟨"com/example/telegrid/telegrid/erp1/Eep", "equals", "(Ljava/lang/Object;)Z"⟩ : MethodName)) (z := (⟨"com/example/telegrid/telegrid/erp1/Eep", "equals", "(Ljava/lang/Object;)Z"⟩ : MethodName)) hown (mvT hZ (hw _ (List.mem_of_getElem? (i := 26) rfl))) (mvT hZ (hw _ (List.mem_of_getElem? (i := 27) rfl))) (notFace_of_selects (args := #[]) (mvT hZ (hw _ (List.mem_of_getElem? (i := 29) rfl)))) (mvT hZ (hw _ (List.mem_of_getElem? (i := 29) rfl))) (mvT hZ (hw _ (List.mem_of_getElem? (i := 28) rfl))) (by decide) (backOf (W := 0) (rm5 l Z a0 hw [] b12 b10 (own_pick p4 p4 (p1 &&& (255 : Int32))) (own_pick p5 p5 (p2 &&& (255 : Int32))) (own_pick p6 p6 (p3 &&& (255 : Int32))) (p1 &&& (255 : Int32)) (p2 &&& (255 : Int32)) (p3 &&& (255 : Int32)) T15.heap n0 (Nat.le_trans Z0 Kh15.1) EA_15 S1_15 S2_15 S3_15 R1_15 R2_15 R3_15) hZ (hw _ (List.mem_of_getElem? (i := 30) rfl)) (hw _ (List.mem_of_getElem? (i := 6) rfl)) (by decide) (by decide)) q16a q16c (g := (mkF m 132 #[.val (.int p1), .val (.int p2), .val (.int p3), .val (.int p4), .val (.int p5), .val (.int p6), .val (.int (p1 &&& (255 : Int32))), .val (.int (p2 &&& (255 : Int32))), .val (.int (p3 &&& (255 : Int32))), .val (.int (own_pick p4 p4 (p1 &&& (255 : Int32)))), .val (.int (own_pick p5 p5 (p2 &&& (255 : Int32)))), .val (.int (own_pick p6 p6 (p3 &&& (255 : Int32)))), .val (.ref b10), .val (.ref b12), .val (.int (0 : Int32)), .val (.ref a14)] [(.ref b10), (.ref b12)])) rfl (by rw [hml]; rfl) (Steps.refl _) (argsL := [(.ref b10)]) (rest := []) (lenOf pd_0_4 rfl) rfl (by show 2 * 0 + _ ≤ _; exact Nat.le_of_eq rfl) (hb hby at_132) (fun _ _ => ⟨rfl, rfl, (by decide : 3 + 0 ≤ _), (by decide : 7 + 0 ≤ _)⟩)
  dsimp only [Pt.U, Pt.locs, Pt.cells, Pt.slots] at X16 l16 y16 z16 st16 hQ16
  subst l16 y16 z16
  obtain ⟨rfl, N16q, e16⟩ := hQ16
  have N16 := Fr.app N15 N16q
  have Kc16 : Keep T15.heap T16.heap [] := own_kp e16
  have Kh16 : Keep h0 T16.heap [] := Kh15.trans Kc16 all0
  have R1_16 := R1_15.keep Kc16 nin0
  have R2_16 := R2_15.keep Kc16 nin0
  have R3_16 := R3_15.keep Kc16 nin0
  have S1_16 := S1_15.keep Kc16 nin0
  have S2_16 := S2_15.keep Kc16 nin0
  have S3_16 := S3_15.keep Kc16 nin0
  have EA_16 := EA_15.keep Kc16
  have EB_16 := EB_15.keep Kc16
  have EO_16 := EO_15.keep Kc16
  -- pc 144: com/example/telegrid/telegrid/erp1/Eep.equals by the contract of the body that the receiver's class selects, rm5
  obtain ⟨cq17, kq17, q17a, q17b, q17c⟩ := isOf hZ rfl ((((((E_b10.keep Kc11).ext E12).keep Kc13).keep Kc14).keep Kc15).keep Kc16)
  obtain ⟨_, _, ⟨T17, L17, k17, n17⟩, -, X17, ⟨Lc17, hQ17, l17, y17, z17⟩, st17⟩ := X16.virtualBack hx (y := (⟨"com/example/telegrid/telegrid/erp1/Eep", "equals", "(Ljava/lang/Object;)Z"⟩ : MethodName)) (z := (⟨"com/example/telegrid/telegrid/erp1/Eep", "equals", "(Ljava/lang/Object;)Z"⟩ : MethodName)) hown (mvT hZ (hw _ (List.mem_of_getElem? (i := 26) rfl))) (mvT hZ (hw _ (List.mem_of_getElem? (i := 27) rfl))) (notFace_of_selects (args := #[]) (mvT hZ (hw _ (List.mem_of_getElem? (i := 29) rfl)))) (mvT hZ (hw _ (List.mem_of_getElem? (i := 29) rfl))) (mvT hZ (hw _ (List.mem_of_getElem? (i := 28) rfl))) (by decide) (backOf (W := 0) (rm5 l Z a0 hw [] b10 b10 (p1 &&& (255 : Int32)) (p2 &&& (255 : Int32)) (p3 &&& (255 : Int32)) (p1 &&& (255 : Int32)) (p2 &&& (255 : Int32)) (p3 &&& (255 : Int32)) T16.heap n0 (Nat.le_trans Z0 Kh16.1) EA_16 R1_16 R2_16 R3_16 R1_16 R2_16 R3_16) hZ (hw _ (List.mem_of_getElem? (i := 30) rfl)) (hw _ (List.mem_of_getElem? (i := 6) rfl)) (by decide) (by decide)) q17a q17c (g := (mkF m 144 #[.val (.int p1), .val (.int p2), .val (.int p3), .val (.int p4), .val (.int p5), .val (.int p6), .val (.int (p1 &&& (255 : Int32))), .val (.int (p2 &&& (255 : Int32))), .val (.int (p3 &&& (255 : Int32))), .val (.int (own_pick p4 p4 (p1 &&& (255 : Int32)))), .val (.int (own_pick p5 p5 (p2 &&& (255 : Int32)))), .val (.int (own_pick p6 p6 (p3 &&& (255 : Int32)))), .val (.ref b10), .val (.ref b12), .val (.int (0 : Int32)), .val (.ref a14)] [(.ref b10), (.ref b10)])) rfl (by rw [hml]; rfl) (Steps.refl _) (argsL := [(.ref b10)]) (rest := []) (lenOf pd_0_4 rfl) rfl (by show 2 * 0 + _ ≤ _; exact Nat.le_of_eq rfl) (hb hby at_144) (fun _ _ => ⟨rfl, rfl, (by decide : 3 + 0 ≤ _), (by decide : 7 + 0 ≤ _)⟩)
  dsimp only [Pt.U, Pt.locs, Pt.cells, Pt.slots] at X17 l17 y17 z17 st17 hQ17
  subst l17 y17 z17
  obtain ⟨rfl, N17q, e17⟩ := hQ17
  have N17 := Fr.app N16 N17q
  have Kc17 : Keep T16.heap T17.heap [] := own_kp e17
  have Kh17 : Keep h0 T17.heap [] := Kh16.trans Kc17 all0
  have R1_17 := R1_16.keep Kc17 nin0
  have R2_17 := R2_16.keep Kc17 nin0
  have R3_17 := R3_16.keep Kc17 nin0
  have S1_17 := S1_16.keep Kc17 nin0
  have S2_17 := S2_16.keep Kc17 nin0
  have S3_17 := S3_16.keep Kc17 nin0
  have EA_17 := EA_16.keep Kc17
  have EB_17 := EB_16.keep Kc17
  have EO_17 := EO_16.keep Kc17
  -- pc 153: com/example/telegrid/telegrid/erp1/Eep.equals by the contract of the body that the receiver's class selects, rm5
  obtain ⟨cq18, kq18, q18a, q18b, q18c⟩ := isOf hZ rfl (((((((E_b10.keep Kc11).ext E12).keep Kc13).keep Kc14).keep Kc15).keep Kc16).keep Kc17)
  obtain ⟨_, _, ⟨T18, L18, k18, n18⟩, -, X18, ⟨Lc18, hQ18, l18, y18, z18⟩, st18⟩ := X17.virtualBack hx (y := (⟨"com/example/telegrid/telegrid/erp1/Eep", "equals", "(Ljava/lang/Object;)Z"⟩ : MethodName)) (z := (⟨"com/example/telegrid/telegrid/erp1/Eep", "equals", "(Ljava/lang/Object;)Z"⟩ : MethodName)) hown (mvT hZ (hw _ (List.mem_of_getElem? (i := 26) rfl))) (mvT hZ (hw _ (List.mem_of_getElem? (i := 27) rfl))) (notFace_of_selects (args := #[]) (mvT hZ (hw _ (List.mem_of_getElem? (i := 29) rfl)))) (mvT hZ (hw _ (List.mem_of_getElem? (i := 29) rfl))) (mvT hZ (hw _ (List.mem_of_getElem? (i := 28) rfl))) (by decide) (backOf (W := 0) (rm5_null l Z a0 hw [] b10 T17.heap n0 (Nat.le_trans Z0 Kh17.1)) hZ (hw _ (List.mem_of_getElem? (i := 30) rfl)) (hw _ (List.mem_of_getElem? (i := 6) rfl)) (by decide) (by decide)) q18a q18c (g := (mkF m 153 #[.val (.int p1), .val (.int p2), .val (.int p3), .val (.int p4), .val (.int p5), .val (.int p6), .val (.int (p1 &&& (255 : Int32))), .val (.int (p2 &&& (255 : Int32))), .val (.int (p3 &&& (255 : Int32))), .val (.int (own_pick p4 p4 (p1 &&& (255 : Int32)))), .val (.int (own_pick p5 p5 (p2 &&& (255 : Int32)))), .val (.int (own_pick p6 p6 (p3 &&& (255 : Int32)))), .val (.ref b10), .val (.ref b12), .val (.int (0 : Int32)), .val (.ref a14)] [.null, (.ref b10)])) rfl (by rw [hml]; rfl) (Steps.refl _) (argsL := [.null]) (rest := []) (lenOf pd_0_4 rfl) rfl (by show 2 * 0 + _ ≤ _; exact Nat.le_of_eq rfl) (hb hby at_153) (fun _ _ => ⟨rfl, rfl, (by decide : 3 + 0 ≤ _), (by decide : 7 + 0 ≤ _)⟩)
  dsimp only [Pt.U, Pt.locs, Pt.cells, Pt.slots] at X18 l18 y18 z18 st18 hQ18
  subst l18 y18 z18
  obtain ⟨rfl, N18q, e18⟩ := hQ18
  have N18 := Fr.app N17 N18q
  have Kc18 : Keep T17.heap T18.heap [] := own_kp e18
  have Kh18 : Keep h0 T18.heap [] := Kh17.trans Kc18 all0
  have EO_18 := EO_17.keep Kc18
  -- pc 163: com/example/telegrid/telegrid/erp1/Eep.equals by the contract of the body that the receiver's class selects, rm5
  obtain ⟨cq19, kq19, q19a, q19b, q19c⟩ := isOf hZ rfl ((((((((E_b10.keep Kc11).ext E12).keep Kc13).keep Kc14).keep Kc15).keep Kc16).keep Kc17).keep Kc18)
  obtain ⟨_, _, ⟨T19, L19, k19, n19⟩, -, X19, ⟨Lc19, hQ19, l19, y19, z19⟩, st19⟩ := X18.virtualBack hx (y := (⟨"com/example/telegrid/telegrid/erp1/Eep", "equals", "(Ljava/lang/Object;)Z"⟩ : MethodName)) (z := (⟨"com/example/telegrid/telegrid/erp1/Eep", "equals", "(Ljava/lang/Object;)Z"⟩ : MethodName)) hown (mvT hZ (hw _ (List.mem_of_getElem? (i := 26) rfl))) (mvT hZ (hw _ (List.mem_of_getElem? (i := 27) rfl))) (notFace_of_selects (args := #[]) (mvT hZ (hw _ (List.mem_of_getElem? (i := 29) rfl)))) (mvT hZ (hw _ (List.mem_of_getElem? (i := 29) rfl))) (mvT hZ (hw _ (List.mem_of_getElem? (i := 28) rfl))) (by decide) (backOf (W := 0) (rm5_no l Z a0 hw [] b10 a14 "java/lang/Integer" T18.heap n0 (Nat.le_trans Z0 Kh18.1) (own_notEep (hw _ (List.mem_of_getElem? (i := 33) rfl)) (hw _ (List.mem_of_getElem? (i := 5) rfl)) (NS.step (hw _ (List.mem_of_getElem? (i := 33) rfl)) (NS.step (hw _ (List.mem_of_getElem? (i := 34) rfl)) (own_NSroot (hw _ (List.mem_of_getElem? (i := 35) rfl)) (hw _ (List.mem_of_getElem? (i := 5) rfl)) (by decide)) (by decide)) (by decide)) (by decide) EO_18) EO_18) hZ (hw _ (List.mem_of_getElem? (i := 30) rfl)) (hw _ (List.mem_of_getElem? (i := 6) rfl)) (by decide) (by decide)) q19a q19c (g := (mkF m 163 #[.val (.int p1), .val (.int p2), .val (.int p3), .val (.int p4), .val (.int p5), .val (.int p6), .val (.int (p1 &&& (255 : Int32))), .val (.int (p2 &&& (255 : Int32))), .val (.int (p3 &&& (255 : Int32))), .val (.int (own_pick p4 p4 (p1 &&& (255 : Int32)))), .val (.int (own_pick p5 p5 (p2 &&& (255 : Int32)))), .val (.int (own_pick p6 p6 (p3 &&& (255 : Int32)))), .val (.ref b10), .val (.ref b12), .val (.int (0 : Int32)), .val (.ref a14)] [(.ref a14), (.ref b10)])) rfl (by rw [hml]; rfl) (Steps.refl _) (argsL := [(.ref a14)]) (rest := []) (lenOf pd_0_4 rfl) rfl (by show 2 * 0 + _ ≤ _; exact Nat.le_of_eq rfl) (hb hby at_163) (fun _ _ => ⟨rfl, rfl, (by decide : 3 + 0 ≤ _), (by decide : 7 + 0 ≤ _)⟩)
  dsimp only [Pt.U, Pt.locs, Pt.cells, Pt.slots] at X19 l19 y19 z19 st19 hQ19
  subst l19 y19 z19
  obtain ⟨rfl, N19q, e19⟩ := hQ19
  have N19 := Fr.app N18 N19q
  obtain ⟨fs, hr, hrun, hended, hW, hsame⟩ := X19.leave (v := some (.int (1 : Int32))) (fun h => by rw [Bd.returns] at h; cases h)
  refine ⟨_, _, pre0 _ ?_, hrun, hended, _, _, rfl, ?_, ⟨_, rfl⟩, hW, hsame.mono (by decide) (by decide)⟩
  -- 4. STEPS
  · show Steps p.tables e below (s₁.setTop (mkF m 0 #[.val (.int p1), .val (.int p2), .val (.int p3), .val (.int p4), .val (.int p5), .val (.int p6), .unset, .unset, .unset, .unset, .unset, .unset, .unset, .unset, .unset, .unset] [])) _
    refine XS.iloadN X0.here hx rfl (hb hby at_0) rfl ?_
    show Steps p.tables e below (s₁.setTop (mkF m 1 #[.val (.int p1), .val (.int p2), .val (.int p3), .val (.int p4), .val (.int p5), .val (.int p6), .unset, .unset, .unset, .unset, .unset, .unset, .unset, .unset, .unset, .unset] [(.int p1)])) _
    refine XS.sipush X0.here hx rfl (hb hby at_1) ?_
    show Steps p.tables e below (s₁.setTop (mkF m 4 #[.val (.int p1), .val (.int p2), .val (.int p3), .val (.int p4), .val (.int p5), .val (.int p6), .unset, .unset, .unset, .unset, .unset, .unset, .unset, .unset, .unset, .unset] [(.int (255 : Int32)), (.int p1)])) _
    refine XS.iand X0.here hx rfl (hb hby at_4) rfl ?_
    show Steps p.tables e below (s₁.setTop (mkF m 5 #[.val (.int p1), .val (.int p2), .val (.int p3), .val (.int p4), .val (.int p5), .val (.int p6), .unset, .unset, .unset, .unset, .unset, .unset, .unset, .unset, .unset, .unset] [(.int (p1 &&& (255 : Int32)))])) _
    refine XS.istore X0.here hx rfl (hb hby at_5) rfl (l' := #[.val (.int p1), .val (.int p2), .val (.int p3), .val (.int p4), .val (.int p5), .val (.int p6), .val (.int (p1 &&& (255 : Int32))), .unset, .unset, .unset, .unset, .unset, .unset, .unset, .unset, .unset]) rfl ?_
    show Steps p.tables e below (s₁.setTop (mkF m 7 #[.val (.int p1), .val (.int p2), .val (.int p3), .val (.int p4), .val (.int p5), .val (.int p6), .val (.int (p1 &&& (255 : Int32))), .unset, .unset, .unset, .unset, .unset, .unset, .unset, .unset, .unset] [])) _
    refine XS.iloadN X0.here hx rfl (hb hby at_7) rfl ?_
    show Steps p.tables e below (s₁.setTop (mkF m 8 #[.val (.int p1), .val (.int p2), .val (.int p3), .val (.int p4), .val (.int p5), .val (.int p6), .val (.int (p1 &&& (255 : Int32))), .unset, .unset, .unset, .unset, .unset, .unset, .unset, .unset, .unset] [(.int p2)])) _
    refine XS.sipush X0.here hx rfl (hb hby at_8) ?_
    show Steps p.tables e below (s₁.setTop (mkF m 11 #[.val (.int p1), .val (.int p2), .val (.int p3), .val (.int p4), .val (.int p5), .val (.int p6), .val (.int (p1 &&& (255 : Int32))), .unset, .unset, .unset, .unset, .unset, .unset, .unset, .unset, .unset] [(.int (255 : Int32)), (.int p2)])) _
    refine XS.iand X0.here hx rfl (hb hby at_11) rfl ?_
    show Steps p.tables e below (s₁.setTop (mkF m 12 #[.val (.int p1), .val (.int p2), .val (.int p3), .val (.int p4), .val (.int p5), .val (.int p6), .val (.int (p1 &&& (255 : Int32))), .unset, .unset, .unset, .unset, .unset, .unset, .unset, .unset, .unset] [(.int (p2 &&& (255 : Int32)))])) _
    refine XS.istore X0.here hx rfl (hb hby at_12) rfl (l' := #[.val (.int p1), .val (.int p2), .val (.int p3), .val (.int p4), .val (.int p5), .val (.int p6), .val (.int (p1 &&& (255 : Int32))), .val (.int (p2 &&& (255 : Int32))), .unset, .unset, .unset, .unset, .unset, .unset, .unset, .unset]) rfl ?_
    show Steps p.tables e below (s₁.setTop (mkF m 14 #[.val (.int p1), .val (.int p2), .val (.int p3), .val (.int p4), .val (.int p5), .val (.int p6), .val (.int (p1 &&& (255 : Int32))), .val (.int (p2 &&& (255 : Int32))), .unset, .unset, .unset, .unset, .unset, .unset, .unset, .unset] [])) _
    refine XS.iloadN X0.here hx rfl (hb hby at_14) rfl ?_
    show Steps p.tables e below (s₁.setTop (mkF m 15 #[.val (.int p1), .val (.int p2), .val (.int p3), .val (.int p4), .val (.int p5), .val (.int p6), .val (.int (p1 &&& (255 : Int32))), .val (.int (p2 &&& (255 : Int32))), .unset, .unset, .unset, .unset, .unset, .unset, .unset, .unset] [(.int p3)])) _
    refine XS.sipush X0.here hx rfl (hb hby at_15) ?_
    show Steps p.tables e below (s₁.setTop (mkF m 18 #[.val (.int p1), .val (.int p2), .val (.int p3), .val (.int p4), .val (.int p5), .val (.int p6), .val (.int (p1 &&& (255 : Int32))), .val (.int (p2 &&& (255 : Int32))), .unset, .unset, .unset, .unset, .unset, .unset, .unset, .unset] [(.int (255 : Int32)), (.int p3)])) _
    refine XS.iand X0.here hx rfl (hb hby at_18) rfl ?_
    show Steps p.tables e below (s₁.setTop (mkF m 19 #[.val (.int p1), .val (.int p2), .val (.int p3), .val (.int p4), .val (.int p5), .val (.int p6), .val (.int (p1 &&& (255 : Int32))), .val (.int (p2 &&& (255 : Int32))), .unset, .unset, .unset, .unset, .unset, .unset, .unset, .unset] [(.int (p3 &&& (255 : Int32)))])) _
    refine XS.istore X0.here hx rfl (hb hby at_19) rfl (l' := #[.val (.int p1), .val (.int p2), .val (.int p3), .val (.int p4), .val (.int p5), .val (.int p6), .val (.int (p1 &&& (255 : Int32))), .val (.int (p2 &&& (255 : Int32))), .val (.int (p3 &&& (255 : Int32))), .unset, .unset, .unset, .unset, .unset, .unset, .unset]) rfl ?_
    show Steps p.tables e below (s₁.setTop (mkF m 21 #[.val (.int p1), .val (.int p2), .val (.int p3), .val (.int p4), .val (.int p5), .val (.int p6), .val (.int (p1 &&& (255 : Int32))), .val (.int (p2 &&& (255 : Int32))), .val (.int (p3 &&& (255 : Int32))), .unset, .unset, .unset, .unset, .unset, .unset, .unset] [])) _
    refine XS.iloadN X0.here hx rfl (hb hby at_21) rfl ?_
    show Steps p.tables e below (s₁.setTop (mkF m 22 #[.val (.int p1), .val (.int p2), .val (.int p3), .val (.int p4), .val (.int p5), .val (.int p6), .val (.int (p1 &&& (255 : Int32))), .val (.int (p2 &&& (255 : Int32))), .val (.int (p3 &&& (255 : Int32))), .unset, .unset, .unset, .unset, .unset, .unset, .unset] [(.int p4)])) _
    refine XS.iloadN X0.here hx rfl (hb hby at_22) rfl ?_
    show Steps p.tables e below (s₁.setTop (mkF m 23 #[.val (.int p1), .val (.int p2), .val (.int p3), .val (.int p4), .val (.int p5), .val (.int p6), .val (.int (p1 &&& (255 : Int32))), .val (.int (p2 &&& (255 : Int32))), .val (.int (p3 &&& (255 : Int32))), .unset, .unset, .unset, .unset, .unset, .unset, .unset] [(.int p4), (.int p4)])) _
    refine XS.iload X0.here hx rfl (hb hby at_23) rfl ?_
    show Steps p.tables e below (s₁.setTop (mkF m 25 #[.val (.int p1), .val (.int p2), .val (.int p3), .val (.int p4), .val (.int p5), .val (.int p6), .val (.int (p1 &&& (255 : Int32))), .val (.int (p2 &&& (255 : Int32))), .val (.int (p3 &&& (255 : Int32))), .unset, .unset, .unset, .unset, .unset, .unset, .unset] [(.int (p1 &&& (255 : Int32))), (.int p4), (.int p4)])) _
    refine st7 _ ?_
    show Steps p.tables e below (T7.setTop (mkF m 28 #[.val (.int p1), .val (.int p2), .val (.int p3), .val (.int p4), .val (.int p5), .val (.int p6), .val (.int (p1 &&& (255 : Int32))), .val (.int (p2 &&& (255 : Int32))), .val (.int (p3 &&& (255 : Int32))), .unset, .unset, .unset, .unset, .unset, .unset, .unset] [(.int (own_pick p4 p4 (p1 &&& (255 : Int32))))])) _
    refine XS.istore X7.here hx rfl (hb hby at_28) rfl (l' := #[.val (.int p1), .val (.int p2), .val (.int p3), .val (.int p4), .val (.int p5), .val (.int p6), .val (.int (p1 &&& (255 : Int32))), .val (.int (p2 &&& (255 : Int32))), .val (.int (p3 &&& (255 : Int32))), .val (.int (own_pick p4 p4 (p1 &&& (255 : Int32)))), .unset, .unset, .unset, .unset, .unset, .unset]) rfl ?_
    show Steps p.tables e below (T7.setTop (mkF m 30 #[.val (.int p1), .val (.int p2), .val (.int p3), .val (.int p4), .val (.int p5), .val (.int p6), .val (.int (p1 &&& (255 : Int32))), .val (.int (p2 &&& (255 : Int32))), .val (.int (p3 &&& (255 : Int32))), .val (.int (own_pick p4 p4 (p1 &&& (255 : Int32)))), .unset, .unset, .unset, .unset, .unset, .unset] [])) _
    refine XS.iload X7.here hx rfl (hb hby at_30) rfl ?_
    show Steps p.tables e below (T7.setTop (mkF m 32 #[.val (.int p1), .val (.int p2), .val (.int p3), .val (.int p4), .val (.int p5), .val (.int p6), .val (.int (p1 &&& (255 : Int32))), .val (.int (p2 &&& (255 : Int32))), .val (.int (p3 &&& (255 : Int32))), .val (.int (own_pick p4 p4 (p1 &&& (255 : Int32)))), .unset, .unset, .unset, .unset, .unset, .unset] [(.int p5)])) _
    refine XS.iload X7.here hx rfl (hb hby at_32) rfl ?_
    show Steps p.tables e below (T7.setTop (mkF m 34 #[.val (.int p1), .val (.int p2), .val (.int p3), .val (.int p4), .val (.int p5), .val (.int p6), .val (.int (p1 &&& (255 : Int32))), .val (.int (p2 &&& (255 : Int32))), .val (.int (p3 &&& (255 : Int32))), .val (.int (own_pick p4 p4 (p1 &&& (255 : Int32)))), .unset, .unset, .unset, .unset, .unset, .unset] [(.int p5), (.int p5)])) _
    refine XS.iload X7.here hx rfl (hb hby at_34) rfl ?_
    show Steps p.tables e below (T7.setTop (mkF m 36 #[.val (.int p1), .val (.int p2), .val (.int p3), .val (.int p4), .val (.int p5), .val (.int p6), .val (.int (p1 &&& (255 : Int32))), .val (.int (p2 &&& (255 : Int32))), .val (.int (p3 &&& (255 : Int32))), .val (.int (own_pick p4 p4 (p1 &&& (255 : Int32)))), .unset, .unset, .unset, .unset, .unset, .unset] [(.int (p2 &&& (255 : Int32))), (.int p5), (.int p5)])) _
    refine st8 _ ?_
    show Steps p.tables e below (T8.setTop (mkF m 39 #[.val (.int p1), .val (.int p2), .val (.int p3), .val (.int p4), .val (.int p5), .val (.int p6), .val (.int (p1 &&& (255 : Int32))), .val (.int (p2 &&& (255 : Int32))), .val (.int (p3 &&& (255 : Int32))), .val (.int (own_pick p4 p4 (p1 &&& (255 : Int32)))), .unset, .unset, .unset, .unset, .unset, .unset] [(.int (own_pick p5 p5 (p2 &&& (255 : Int32))))])) _
    refine XS.istore X8.here hx rfl (hb hby at_39) rfl (l' := #[.val (.int p1), .val (.int p2), .val (.int p3), .val (.int p4), .val (.int p5), .val (.int p6), .val (.int (p1 &&& (255 : Int32))), .val (.int (p2 &&& (255 : Int32))), .val (.int (p3 &&& (255 : Int32))), .val (.int (own_pick p4 p4 (p1 &&& (255 : Int32)))), .val (.int (own_pick p5 p5 (p2 &&& (255 : Int32)))), .unset, .unset, .unset, .unset, .unset]) rfl ?_
    show Steps p.tables e below (T8.setTop (mkF m 41 #[.val (.int p1), .val (.int p2), .val (.int p3), .val (.int p4), .val (.int p5), .val (.int p6), .val (.int (p1 &&& (255 : Int32))), .val (.int (p2 &&& (255 : Int32))), .val (.int (p3 &&& (255 : Int32))), .val (.int (own_pick p4 p4 (p1 &&& (255 : Int32)))), .val (.int (own_pick p5 p5 (p2 &&& (255 : Int32)))), .unset, .unset, .unset, .unset, .unset] [])) _
    refine XS.iload X8.here hx rfl (hb hby at_41) rfl ?_
    show Steps p.tables e below (T8.setTop (mkF m 43 #[.val (.int p1), .val (.int p2), .val (.int p3), .val (.int p4), .val (.int p5), .val (.int p6), .val (.int (p1 &&& (255 : Int32))), .val (.int (p2 &&& (255 : Int32))), .val (.int (p3 &&& (255 : Int32))), .val (.int (own_pick p4 p4 (p1 &&& (255 : Int32)))), .val (.int (own_pick p5 p5 (p2 &&& (255 : Int32)))), .unset, .unset, .unset, .unset, .unset] [(.int p6)])) _
    refine XS.iload X8.here hx rfl (hb hby at_43) rfl ?_
    show Steps p.tables e below (T8.setTop (mkF m 45 #[.val (.int p1), .val (.int p2), .val (.int p3), .val (.int p4), .val (.int p5), .val (.int p6), .val (.int (p1 &&& (255 : Int32))), .val (.int (p2 &&& (255 : Int32))), .val (.int (p3 &&& (255 : Int32))), .val (.int (own_pick p4 p4 (p1 &&& (255 : Int32)))), .val (.int (own_pick p5 p5 (p2 &&& (255 : Int32)))), .unset, .unset, .unset, .unset, .unset] [(.int p6), (.int p6)])) _
    refine XS.iload X8.here hx rfl (hb hby at_45) rfl ?_
    show Steps p.tables e below (T8.setTop (mkF m 47 #[.val (.int p1), .val (.int p2), .val (.int p3), .val (.int p4), .val (.int p5), .val (.int p6), .val (.int (p1 &&& (255 : Int32))), .val (.int (p2 &&& (255 : Int32))), .val (.int (p3 &&& (255 : Int32))), .val (.int (own_pick p4 p4 (p1 &&& (255 : Int32)))), .val (.int (own_pick p5 p5 (p2 &&& (255 : Int32)))), .unset, .unset, .unset, .unset, .unset] [(.int (p3 &&& (255 : Int32))), (.int p6), (.int p6)])) _
    refine st9 _ ?_
    show Steps p.tables e below (T9.setTop (mkF m 50 #[.val (.int p1), .val (.int p2), .val (.int p3), .val (.int p4), .val (.int p5), .val (.int p6), .val (.int (p1 &&& (255 : Int32))), .val (.int (p2 &&& (255 : Int32))), .val (.int (p3 &&& (255 : Int32))), .val (.int (own_pick p4 p4 (p1 &&& (255 : Int32)))), .val (.int (own_pick p5 p5 (p2 &&& (255 : Int32)))), .unset, .unset, .unset, .unset, .unset] [(.int (own_pick p6 p6 (p3 &&& (255 : Int32))))])) _
    refine XS.istore X9.here hx rfl (hb hby at_50) rfl (l' := #[.val (.int p1), .val (.int p2), .val (.int p3), .val (.int p4), .val (.int p5), .val (.int p6), .val (.int (p1 &&& (255 : Int32))), .val (.int (p2 &&& (255 : Int32))), .val (.int (p3 &&& (255 : Int32))), .val (.int (own_pick p4 p4 (p1 &&& (255 : Int32)))), .val (.int (own_pick p5 p5 (p2 &&& (255 : Int32)))), .val (.int (own_pick p6 p6 (p3 &&& (255 : Int32)))), .unset, .unset, .unset, .unset]) rfl ?_
    show Steps p.tables e below (T9.setTop (mkF m 52 #[.val (.int p1), .val (.int p2), .val (.int p3), .val (.int p4), .val (.int p5), .val (.int p6), .val (.int (p1 &&& (255 : Int32))), .val (.int (p2 &&& (255 : Int32))), .val (.int (p3 &&& (255 : Int32))), .val (.int (own_pick p4 p4 (p1 &&& (255 : Int32)))), .val (.int (own_pick p5 p5 (p2 &&& (255 : Int32)))), .val (.int (own_pick p6 p6 (p3 &&& (255 : Int32)))), .unset, .unset, .unset, .unset] [])) _
    refine st10 _ ?_
    show Steps p.tables e below (T10.setTop (mkF m 55 #[.val (.int p1), .val (.int p2), .val (.int p3), .val (.int p4), .val (.int p5), .val (.int p6), .val (.int (p1 &&& (255 : Int32))), .val (.int (p2 &&& (255 : Int32))), .val (.int (p3 &&& (255 : Int32))), .val (.int (own_pick p4 p4 (p1 &&& (255 : Int32)))), .val (.int (own_pick p5 p5 (p2 &&& (255 : Int32)))), .val (.int (own_pick p6 p6 (p3 &&& (255 : Int32)))), .unset, .unset, .unset, .unset] [(.ref b10)])) _
    refine XS.dup X10.here hx rfl (hb hby at_55) rfl rfl ?_
    show Steps p.tables e below (T10.setTop (mkF m 56 #[.val (.int p1), .val (.int p2), .val (.int p3), .val (.int p4), .val (.int p5), .val (.int p6), .val (.int (p1 &&& (255 : Int32))), .val (.int (p2 &&& (255 : Int32))), .val (.int (p3 &&& (255 : Int32))), .val (.int (own_pick p4 p4 (p1 &&& (255 : Int32)))), .val (.int (own_pick p5 p5 (p2 &&& (255 : Int32)))), .val (.int (own_pick p6 p6 (p3 &&& (255 : Int32)))), .unset, .unset, .unset, .unset] [(.ref b10), (.ref b10)])) _
    refine XS.iload X10.here hx rfl (hb hby at_56) rfl ?_
    show Steps p.tables e below (T10.setTop (mkF m 58 #[.val (.int p1), .val (.int p2), .val (.int p3), .val (.int p4), .val (.int p5), .val (.int p6), .val (.int (p1 &&& (255 : Int32))), .val (.int (p2 &&& (255 : Int32))), .val (.int (p3 &&& (255 : Int32))), .val (.int (own_pick p4 p4 (p1 &&& (255 : Int32)))), .val (.int (own_pick p5 p5 (p2 &&& (255 : Int32)))), .val (.int (own_pick p6 p6 (p3 &&& (255 : Int32)))), .unset, .unset, .unset, .unset] [(.int (p1 &&& (255 : Int32))), (.ref b10), (.ref b10)])) _
    refine XS.iload X10.here hx rfl (hb hby at_58) rfl ?_
    show Steps p.tables e below (T10.setTop (mkF m 60 #[.val (.int p1), .val (.int p2), .val (.int p3), .val (.int p4), .val (.int p5), .val (.int p6), .val (.int (p1 &&& (255 : Int32))), .val (.int (p2 &&& (255 : Int32))), .val (.int (p3 &&& (255 : Int32))), .val (.int (own_pick p4 p4 (p1 &&& (255 : Int32)))), .val (.int (own_pick p5 p5 (p2 &&& (255 : Int32)))), .val (.int (own_pick p6 p6 (p3 &&& (255 : Int32)))), .unset, .unset, .unset, .unset] [(.int (p2 &&& (255 : Int32))), (.int (p1 &&& (255 : Int32))), (.ref b10), (.ref b10)])) _
    refine XS.iload X10.here hx rfl (hb hby at_60) rfl ?_
    show Steps p.tables e below (T10.setTop (mkF m 62 #[.val (.int p1), .val (.int p2), .val (.int p3), .val (.int p4), .val (.int p5), .val (.int p6), .val (.int (p1 &&& (255 : Int32))), .val (.int (p2 &&& (255 : Int32))), .val (.int (p3 &&& (255 : Int32))), .val (.int (own_pick p4 p4 (p1 &&& (255 : Int32)))), .val (.int (own_pick p5 p5 (p2 &&& (255 : Int32)))), .val (.int (own_pick p6 p6 (p3 &&& (255 : Int32)))), .unset, .unset, .unset, .unset] [(.int (p3 &&& (255 : Int32))), (.int (p2 &&& (255 : Int32))), (.int (p1 &&& (255 : Int32))), (.ref b10), (.ref b10)])) _
    refine st11.trans ?_
    show Steps p.tables e below (T11.setTop (mkF m 65 #[.val (.int p1), .val (.int p2), .val (.int p3), .val (.int p4), .val (.int p5), .val (.int p6), .val (.int (p1 &&& (255 : Int32))), .val (.int (p2 &&& (255 : Int32))), .val (.int (p3 &&& (255 : Int32))), .val (.int (own_pick p4 p4 (p1 &&& (255 : Int32)))), .val (.int (own_pick p5 p5 (p2 &&& (255 : Int32)))), .val (.int (own_pick p6 p6 (p3 &&& (255 : Int32)))), .unset, .unset, .unset, .unset] [(.ref b10)])) _
    refine XS.astore X11.here hx rfl (hb hby at_65) rfl rfl (l' := #[.val (.int p1), .val (.int p2), .val (.int p3), .val (.int p4), .val (.int p5), .val (.int p6), .val (.int (p1 &&& (255 : Int32))), .val (.int (p2 &&& (255 : Int32))), .val (.int (p3 &&& (255 : Int32))), .val (.int (own_pick p4 p4 (p1 &&& (255 : Int32)))), .val (.int (own_pick p5 p5 (p2 &&& (255 : Int32)))), .val (.int (own_pick p6 p6 (p3 &&& (255 : Int32)))), .val (.ref b10), .unset, .unset, .unset]) rfl ?_
    show Steps p.tables e below (T11.setTop (mkF m 67 #[.val (.int p1), .val (.int p2), .val (.int p3), .val (.int p4), .val (.int p5), .val (.int p6), .val (.int (p1 &&& (255 : Int32))), .val (.int (p2 &&& (255 : Int32))), .val (.int (p3 &&& (255 : Int32))), .val (.int (own_pick p4 p4 (p1 &&& (255 : Int32)))), .val (.int (own_pick p5 p5 (p2 &&& (255 : Int32)))), .val (.int (own_pick p6 p6 (p3 &&& (255 : Int32)))), .val (.ref b10), .unset, .unset, .unset] [])) _
    refine st12 _ ?_
    show Steps p.tables e below (T12.setTop (mkF m 70 #[.val (.int p1), .val (.int p2), .val (.int p3), .val (.int p4), .val (.int p5), .val (.int p6), .val (.int (p1 &&& (255 : Int32))), .val (.int (p2 &&& (255 : Int32))), .val (.int (p3 &&& (255 : Int32))), .val (.int (own_pick p4 p4 (p1 &&& (255 : Int32)))), .val (.int (own_pick p5 p5 (p2 &&& (255 : Int32)))), .val (.int (own_pick p6 p6 (p3 &&& (255 : Int32)))), .val (.ref b10), .unset, .unset, .unset] [(.ref b12)])) _
    refine XS.dup X12.here hx rfl (hb hby at_70) rfl rfl ?_
    show Steps p.tables e below (T12.setTop (mkF m 71 #[.val (.int p1), .val (.int p2), .val (.int p3), .val (.int p4), .val (.int p5), .val (.int p6), .val (.int (p1 &&& (255 : Int32))), .val (.int (p2 &&& (255 : Int32))), .val (.int (p3 &&& (255 : Int32))), .val (.int (own_pick p4 p4 (p1 &&& (255 : Int32)))), .val (.int (own_pick p5 p5 (p2 &&& (255 : Int32)))), .val (.int (own_pick p6 p6 (p3 &&& (255 : Int32)))), .val (.ref b10), .unset, .unset, .unset] [(.ref b12), (.ref b12)])) _
    refine XS.iload X12.here hx rfl (hb hby at_71) rfl ?_
    show Steps p.tables e below (T12.setTop (mkF m 73 #[.val (.int p1), .val (.int p2), .val (.int p3), .val (.int p4), .val (.int p5), .val (.int p6), .val (.int (p1 &&& (255 : Int32))), .val (.int (p2 &&& (255 : Int32))), .val (.int (p3 &&& (255 : Int32))), .val (.int (own_pick p4 p4 (p1 &&& (255 : Int32)))), .val (.int (own_pick p5 p5 (p2 &&& (255 : Int32)))), .val (.int (own_pick p6 p6 (p3 &&& (255 : Int32)))), .val (.ref b10), .unset, .unset, .unset] [(.int (own_pick p4 p4 (p1 &&& (255 : Int32)))), (.ref b12), (.ref b12)])) _
    refine XS.iload X12.here hx rfl (hb hby at_73) rfl ?_
    show Steps p.tables e below (T12.setTop (mkF m 75 #[.val (.int p1), .val (.int p2), .val (.int p3), .val (.int p4), .val (.int p5), .val (.int p6), .val (.int (p1 &&& (255 : Int32))), .val (.int (p2 &&& (255 : Int32))), .val (.int (p3 &&& (255 : Int32))), .val (.int (own_pick p4 p4 (p1 &&& (255 : Int32)))), .val (.int (own_pick p5 p5 (p2 &&& (255 : Int32)))), .val (.int (own_pick p6 p6 (p3 &&& (255 : Int32)))), .val (.ref b10), .unset, .unset, .unset] [(.int (own_pick p5 p5 (p2 &&& (255 : Int32)))), (.int (own_pick p4 p4 (p1 &&& (255 : Int32)))), (.ref b12), (.ref b12)])) _
    refine XS.iload X12.here hx rfl (hb hby at_75) rfl ?_
    show Steps p.tables e below (T12.setTop (mkF m 77 #[.val (.int p1), .val (.int p2), .val (.int p3), .val (.int p4), .val (.int p5), .val (.int p6), .val (.int (p1 &&& (255 : Int32))), .val (.int (p2 &&& (255 : Int32))), .val (.int (p3 &&& (255 : Int32))), .val (.int (own_pick p4 p4 (p1 &&& (255 : Int32)))), .val (.int (own_pick p5 p5 (p2 &&& (255 : Int32)))), .val (.int (own_pick p6 p6 (p3 &&& (255 : Int32)))), .val (.ref b10), .unset, .unset, .unset] [(.int (own_pick p6 p6 (p3 &&& (255 : Int32)))), (.int (own_pick p5 p5 (p2 &&& (255 : Int32)))), (.int (own_pick p4 p4 (p1 &&& (255 : Int32)))), (.ref b12), (.ref b12)])) _
    refine st13.trans ?_
    show Steps p.tables e below (T13.setTop (mkF m 80 #[.val (.int p1), .val (.int p2), .val (.int p3), .val (.int p4), .val (.int p5), .val (.int p6), .val (.int (p1 &&& (255 : Int32))), .val (.int (p2 &&& (255 : Int32))), .val (.int (p3 &&& (255 : Int32))), .val (.int (own_pick p4 p4 (p1 &&& (255 : Int32)))), .val (.int (own_pick p5 p5 (p2 &&& (255 : Int32)))), .val (.int (own_pick p6 p6 (p3 &&& (255 : Int32)))), .val (.ref b10), .unset, .unset, .unset] [(.ref b12)])) _
    refine XS.astore X13.here hx rfl (hb hby at_80) rfl rfl (l' := #[.val (.int p1), .val (.int p2), .val (.int p3), .val (.int p4), .val (.int p5), .val (.int p6), .val (.int (p1 &&& (255 : Int32))), .val (.int (p2 &&& (255 : Int32))), .val (.int (p3 &&& (255 : Int32))), .val (.int (own_pick p4 p4 (p1 &&& (255 : Int32)))), .val (.int (own_pick p5 p5 (p2 &&& (255 : Int32)))), .val (.int (own_pick p6 p6 (p3 &&& (255 : Int32)))), .val (.ref b10), .val (.ref b12), .unset, .unset]) rfl ?_
    show Steps p.tables e below (T13.setTop (mkF m 82 #[.val (.int p1), .val (.int p2), .val (.int p3), .val (.int p4), .val (.int p5), .val (.int p6), .val (.int (p1 &&& (255 : Int32))), .val (.int (p2 &&& (255 : Int32))), .val (.int (p3 &&& (255 : Int32))), .val (.int (own_pick p4 p4 (p1 &&& (255 : Int32)))), .val (.int (own_pick p5 p5 (p2 &&& (255 : Int32)))), .val (.int (own_pick p6 p6 (p3 &&& (255 : Int32)))), .val (.ref b10), .val (.ref b12), .unset, .unset] [])) _
    refine XS.iload X13.here hx rfl (hb hby at_82) rfl ?_
    show Steps p.tables e below (T13.setTop (mkF m 84 #[.val (.int p1), .val (.int p2), .val (.int p3), .val (.int p4), .val (.int p5), .val (.int p6), .val (.int (p1 &&& (255 : Int32))), .val (.int (p2 &&& (255 : Int32))), .val (.int (p3 &&& (255 : Int32))), .val (.int (own_pick p4 p4 (p1 &&& (255 : Int32)))), .val (.int (own_pick p5 p5 (p2 &&& (255 : Int32)))), .val (.int (own_pick p6 p6 (p3 &&& (255 : Int32)))), .val (.ref b10), .val (.ref b12), .unset, .unset] [(.int (p1 &&& (255 : Int32)))])) _
    refine XS.iload X13.here hx rfl (hb hby at_84) rfl ?_
    show Steps p.tables e below (T13.setTop (mkF m 86 #[.val (.int p1), .val (.int p2), .val (.int p3), .val (.int p4), .val (.int p5), .val (.int p6), .val (.int (p1 &&& (255 : Int32))), .val (.int (p2 &&& (255 : Int32))), .val (.int (p3 &&& (255 : Int32))), .val (.int (own_pick p4 p4 (p1 &&& (255 : Int32)))), .val (.int (own_pick p5 p5 (p2 &&& (255 : Int32)))), .val (.int (own_pick p6 p6 (p3 &&& (255 : Int32)))), .val (.ref b10), .val (.ref b12), .unset, .unset] [(.int (own_pick p4 p4 (p1 &&& (255 : Int32)))), (.int (p1 &&& (255 : Int32)))])) _
    refine XS.icmpYes X13.here hx rfl (pc0 := 86) (pc' := 107) rfl (hb hby at_86) rfl (feq (by first | exact hE0 | exact hv | exact hv2 | exact own_self _ _ _ | decide : ¬ ((p1 &&& (255 : Int32)) = (own_pick p4 p4 (p1 &&& (255 : Int32)))))).2 (by decide) (by decide) ?_
    show Steps p.tables e below (T13.setTop (mkF m 107 #[.val (.int p1), .val (.int p2), .val (.int p3), .val (.int p4), .val (.int p5), .val (.int p6), .val (.int (p1 &&& (255 : Int32))), .val (.int (p2 &&& (255 : Int32))), .val (.int (p3 &&& (255 : Int32))), .val (.int (own_pick p4 p4 (p1 &&& (255 : Int32)))), .val (.int (own_pick p5 p5 (p2 &&& (255 : Int32)))), .val (.int (own_pick p6 p6 (p3 &&& (255 : Int32)))), .val (.ref b10), .val (.ref b12), .unset, .unset] [])) _
    refine XS.iconst X13.here hx rfl (hb hby at_107) ?_
    show Steps p.tables e below (T13.setTop (mkF m 108 #[.val (.int p1), .val (.int p2), .val (.int p3), .val (.int p4), .val (.int p5), .val (.int p6), .val (.int (p1 &&& (255 : Int32))), .val (.int (p2 &&& (255 : Int32))), .val (.int (p3 &&& (255 : Int32))), .val (.int (own_pick p4 p4 (p1 &&& (255 : Int32)))), .val (.int (own_pick p5 p5 (p2 &&& (255 : Int32)))), .val (.int (own_pick p6 p6 (p3 &&& (255 : Int32)))), .val (.ref b10), .val (.ref b12), .unset, .unset] [(.int (0 : Int32))])) _
    refine XS.istore X13.here hx rfl (hb hby at_108) rfl (l' := #[.val (.int p1), .val (.int p2), .val (.int p3), .val (.int p4), .val (.int p5), .val (.int p6), .val (.int (p1 &&& (255 : Int32))), .val (.int (p2 &&& (255 : Int32))), .val (.int (p3 &&& (255 : Int32))), .val (.int (own_pick p4 p4 (p1 &&& (255 : Int32)))), .val (.int (own_pick p5 p5 (p2 &&& (255 : Int32)))), .val (.int (own_pick p6 p6 (p3 &&& (255 : Int32)))), .val (.ref b10), .val (.ref b12), .val (.int (0 : Int32)), .unset]) rfl ?_
    show Steps p.tables e below (T13.setTop (mkF m 110 #[.val (.int p1), .val (.int p2), .val (.int p3), .val (.int p4), .val (.int p5), .val (.int p6), .val (.int (p1 &&& (255 : Int32))), .val (.int (p2 &&& (255 : Int32))), .val (.int (p3 &&& (255 : Int32))), .val (.int (own_pick p4 p4 (p1 &&& (255 : Int32)))), .val (.int (own_pick p5 p5 (p2 &&& (255 : Int32)))), .val (.int (own_pick p6 p6 (p3 &&& (255 : Int32)))), .val (.ref b10), .val (.ref b12), .val (.int (0 : Int32)), .unset] [])) _
    refine XS.iloadN X13.here hx rfl (hb hby at_110) rfl ?_
    show Steps p.tables e below (T13.setTop (mkF m 111 #[.val (.int p1), .val (.int p2), .val (.int p3), .val (.int p4), .val (.int p5), .val (.int p6), .val (.int (p1 &&& (255 : Int32))), .val (.int (p2 &&& (255 : Int32))), .val (.int (p3 &&& (255 : Int32))), .val (.int (own_pick p4 p4 (p1 &&& (255 : Int32)))), .val (.int (own_pick p5 p5 (p2 &&& (255 : Int32)))), .val (.int (own_pick p6 p6 (p3 &&& (255 : Int32)))), .val (.ref b10), .val (.ref b12), .val (.int (0 : Int32)), .unset] [(.int p3)])) _
    refine st14 _ ?_
    show Steps p.tables e below (T14.setTop (mkF m 114 #[.val (.int p1), .val (.int p2), .val (.int p3), .val (.int p4), .val (.int p5), .val (.int p6), .val (.int (p1 &&& (255 : Int32))), .val (.int (p2 &&& (255 : Int32))), .val (.int (p3 &&& (255 : Int32))), .val (.int (own_pick p4 p4 (p1 &&& (255 : Int32)))), .val (.int (own_pick p5 p5 (p2 &&& (255 : Int32)))), .val (.int (own_pick p6 p6 (p3 &&& (255 : Int32)))), .val (.ref b10), .val (.ref b12), .val (.int (0 : Int32)), .unset] [(.ref a14)])) _
    refine XS.astore X14.here hx rfl (hb hby at_114) rfl rfl (l' := #[.val (.int p1), .val (.int p2), .val (.int p3), .val (.int p4), .val (.int p5), .val (.int p6), .val (.int (p1 &&& (255 : Int32))), .val (.int (p2 &&& (255 : Int32))), .val (.int (p3 &&& (255 : Int32))), .val (.int (own_pick p4 p4 (p1 &&& (255 : Int32)))), .val (.int (own_pick p5 p5 (p2 &&& (255 : Int32)))), .val (.int (own_pick p6 p6 (p3 &&& (255 : Int32)))), .val (.ref b10), .val (.ref b12), .val (.int (0 : Int32)), .val (.ref a14)]) rfl ?_
    show Steps p.tables e below (T14.setTop (mkF m 116 #[.val (.int p1), .val (.int p2), .val (.int p3), .val (.int p4), .val (.int p5), .val (.int p6), .val (.int (p1 &&& (255 : Int32))), .val (.int (p2 &&& (255 : Int32))), .val (.int (p3 &&& (255 : Int32))), .val (.int (own_pick p4 p4 (p1 &&& (255 : Int32)))), .val (.int (own_pick p5 p5 (p2 &&& (255 : Int32)))), .val (.int (own_pick p6 p6 (p3 &&& (255 : Int32)))), .val (.ref b10), .val (.ref b12), .val (.int (0 : Int32)), .val (.ref a14)] [])) _
    refine XS.aload X14.here hx rfl (hb hby at_116) rfl rfl ?_
    show Steps p.tables e below (T14.setTop (mkF m 118 #[.val (.int p1), .val (.int p2), .val (.int p3), .val (.int p4), .val (.int p5), .val (.int p6), .val (.int (p1 &&& (255 : Int32))), .val (.int (p2 &&& (255 : Int32))), .val (.int (p3 &&& (255 : Int32))), .val (.int (own_pick p4 p4 (p1 &&& (255 : Int32)))), .val (.int (own_pick p5 p5 (p2 &&& (255 : Int32)))), .val (.int (own_pick p6 p6 (p3 &&& (255 : Int32)))), .val (.ref b10), .val (.ref b12), .val (.int (0 : Int32)), .val (.ref a14)] [(.ref b10)])) _
    refine XS.aload X14.here hx rfl (hb hby at_118) rfl rfl ?_
    show Steps p.tables e below (T14.setTop (mkF m 120 #[.val (.int p1), .val (.int p2), .val (.int p3), .val (.int p4), .val (.int p5), .val (.int p6), .val (.int (p1 &&& (255 : Int32))), .val (.int (p2 &&& (255 : Int32))), .val (.int (p3 &&& (255 : Int32))), .val (.int (own_pick p4 p4 (p1 &&& (255 : Int32)))), .val (.int (own_pick p5 p5 (p2 &&& (255 : Int32)))), .val (.int (own_pick p6 p6 (p3 &&& (255 : Int32)))), .val (.ref b10), .val (.ref b12), .val (.int (0 : Int32)), .val (.ref a14)] [(.ref b12), (.ref b10)])) _
    refine st15.trans ?_
    show Steps p.tables e below (T15.setTop (mkF m 123 #[.val (.int p1), .val (.int p2), .val (.int p3), .val (.int p4), .val (.int p5), .val (.int p6), .val (.int (p1 &&& (255 : Int32))), .val (.int (p2 &&& (255 : Int32))), .val (.int (p3 &&& (255 : Int32))), .val (.int (own_pick p4 p4 (p1 &&& (255 : Int32)))), .val (.int (own_pick p5 p5 (p2 &&& (255 : Int32)))), .val (.int (own_pick p6 p6 (p3 &&& (255 : Int32)))), .val (.ref b10), .val (.ref b12), .val (.int (0 : Int32)), .val (.ref a14)] [(.int (own_eq3 (p1 &&& (255 : Int32)) (p2 &&& (255 : Int32)) (p3 &&& (255 : Int32)) (own_pick p4 p4 (p1 &&& (255 : Int32))) (own_pick p5 p5 (p2 &&& (255 : Int32))) (own_pick p6 p6 (p3 &&& (255 : Int32)))))])) _
    refine XS.iload X15.here hx rfl (hb hby at_123) rfl ?_
    show Steps p.tables e below (T15.setTop (mkF m 125 #[.val (.int p1), .val (.int p2), .val (.int p3), .val (.int p4), .val (.int p5), .val (.int p6), .val (.int (p1 &&& (255 : Int32))), .val (.int (p2 &&& (255 : Int32))), .val (.int (p3 &&& (255 : Int32))), .val (.int (own_pick p4 p4 (p1 &&& (255 : Int32)))), .val (.int (own_pick p5 p5 (p2 &&& (255 : Int32)))), .val (.int (own_pick p6 p6 (p3 &&& (255 : Int32)))), .val (.ref b10), .val (.ref b12), .val (.int (0 : Int32)), .val (.ref a14)] [(.int (0 : Int32)), (.int (own_eq3 (p1 &&& (255 : Int32)) (p2 &&& (255 : Int32)) (p3 &&& (255 : Int32)) (own_pick p4 p4 (p1 &&& (255 : Int32))) (own_pick p5 p5 (p2 &&& (255 : Int32))) (own_pick p6 p6 (p3 &&& (255 : Int32)))))])) _
    refine XS.icmpNo X15.here hx rfl (hb hby at_125) rfl (teq (by first | exact hE0 | exact hv | exact hv2 | exact own_self _ _ _ | decide : (own_eq3 (p1 &&& (255 : Int32)) (p2 &&& (255 : Int32)) (p3 &&& (255 : Int32)) (own_pick p4 p4 (p1 &&& (255 : Int32))) (own_pick p5 p5 (p2 &&& (255 : Int32))) (own_pick p6 p6 (p3 &&& (255 : Int32)))) = (0 : Int32))).2 ?_
    show Steps p.tables e below (T15.setTop (mkF m 128 #[.val (.int p1), .val (.int p2), .val (.int p3), .val (.int p4), .val (.int p5), .val (.int p6), .val (.int (p1 &&& (255 : Int32))), .val (.int (p2 &&& (255 : Int32))), .val (.int (p3 &&& (255 : Int32))), .val (.int (own_pick p4 p4 (p1 &&& (255 : Int32)))), .val (.int (own_pick p5 p5 (p2 &&& (255 : Int32)))), .val (.int (own_pick p6 p6 (p3 &&& (255 : Int32)))), .val (.ref b10), .val (.ref b12), .val (.int (0 : Int32)), .val (.ref a14)] [])) _
    refine XS.aload X15.here hx rfl (hb hby at_128) rfl rfl ?_
    show Steps p.tables e below (T15.setTop (mkF m 130 #[.val (.int p1), .val (.int p2), .val (.int p3), .val (.int p4), .val (.int p5), .val (.int p6), .val (.int (p1 &&& (255 : Int32))), .val (.int (p2 &&& (255 : Int32))), .val (.int (p3 &&& (255 : Int32))), .val (.int (own_pick p4 p4 (p1 &&& (255 : Int32)))), .val (.int (own_pick p5 p5 (p2 &&& (255 : Int32)))), .val (.int (own_pick p6 p6 (p3 &&& (255 : Int32)))), .val (.ref b10), .val (.ref b12), .val (.int (0 : Int32)), .val (.ref a14)] [(.ref b12)])) _
    refine XS.aload X15.here hx rfl (hb hby at_130) rfl rfl ?_
    show Steps p.tables e below (T15.setTop (mkF m 132 #[.val (.int p1), .val (.int p2), .val (.int p3), .val (.int p4), .val (.int p5), .val (.int p6), .val (.int (p1 &&& (255 : Int32))), .val (.int (p2 &&& (255 : Int32))), .val (.int (p3 &&& (255 : Int32))), .val (.int (own_pick p4 p4 (p1 &&& (255 : Int32)))), .val (.int (own_pick p5 p5 (p2 &&& (255 : Int32)))), .val (.int (own_pick p6 p6 (p3 &&& (255 : Int32)))), .val (.ref b10), .val (.ref b12), .val (.int (0 : Int32)), .val (.ref a14)] [(.ref b10), (.ref b12)])) _
    refine st16.trans ?_
    show Steps p.tables e below (T16.setTop (mkF m 135 #[.val (.int p1), .val (.int p2), .val (.int p3), .val (.int p4), .val (.int p5), .val (.int p6), .val (.int (p1 &&& (255 : Int32))), .val (.int (p2 &&& (255 : Int32))), .val (.int (p3 &&& (255 : Int32))), .val (.int (own_pick p4 p4 (p1 &&& (255 : Int32)))), .val (.int (own_pick p5 p5 (p2 &&& (255 : Int32)))), .val (.int (own_pick p6 p6 (p3 &&& (255 : Int32)))), .val (.ref b10), .val (.ref b12), .val (.int (0 : Int32)), .val (.ref a14)] [(.int (own_eq3 (own_pick p4 p4 (p1 &&& (255 : Int32))) (own_pick p5 p5 (p2 &&& (255 : Int32))) (own_pick p6 p6 (p3 &&& (255 : Int32))) (p1 &&& (255 : Int32)) (p2 &&& (255 : Int32)) (p3 &&& (255 : Int32))))])) _
    refine XS.iload X16.here hx rfl (hb hby at_135) rfl ?_
    show Steps p.tables e below (T16.setTop (mkF m 137 #[.val (.int p1), .val (.int p2), .val (.int p3), .val (.int p4), .val (.int p5), .val (.int p6), .val (.int (p1 &&& (255 : Int32))), .val (.int (p2 &&& (255 : Int32))), .val (.int (p3 &&& (255 : Int32))), .val (.int (own_pick p4 p4 (p1 &&& (255 : Int32)))), .val (.int (own_pick p5 p5 (p2 &&& (255 : Int32)))), .val (.int (own_pick p6 p6 (p3 &&& (255 : Int32)))), .val (.ref b10), .val (.ref b12), .val (.int (0 : Int32)), .val (.ref a14)] [(.int (0 : Int32)), (.int (own_eq3 (own_pick p4 p4 (p1 &&& (255 : Int32))) (own_pick p5 p5 (p2 &&& (255 : Int32))) (own_pick p6 p6 (p3 &&& (255 : Int32))) (p1 &&& (255 : Int32)) (p2 &&& (255 : Int32)) (p3 &&& (255 : Int32))))])) _
    refine XS.icmpNo X16.here hx rfl (hb hby at_137) rfl (teq (by first | exact hE0 | exact hv | exact hv2 | exact own_self _ _ _ | decide : (own_eq3 (own_pick p4 p4 (p1 &&& (255 : Int32))) (own_pick p5 p5 (p2 &&& (255 : Int32))) (own_pick p6 p6 (p3 &&& (255 : Int32))) (p1 &&& (255 : Int32)) (p2 &&& (255 : Int32)) (p3 &&& (255 : Int32))) = (0 : Int32))).2 ?_
    show Steps p.tables e below (T16.setTop (mkF m 140 #[.val (.int p1), .val (.int p2), .val (.int p3), .val (.int p4), .val (.int p5), .val (.int p6), .val (.int (p1 &&& (255 : Int32))), .val (.int (p2 &&& (255 : Int32))), .val (.int (p3 &&& (255 : Int32))), .val (.int (own_pick p4 p4 (p1 &&& (255 : Int32)))), .val (.int (own_pick p5 p5 (p2 &&& (255 : Int32)))), .val (.int (own_pick p6 p6 (p3 &&& (255 : Int32)))), .val (.ref b10), .val (.ref b12), .val (.int (0 : Int32)), .val (.ref a14)] [])) _
    refine XS.aload X16.here hx rfl (hb hby at_140) rfl rfl ?_
    show Steps p.tables e below (T16.setTop (mkF m 142 #[.val (.int p1), .val (.int p2), .val (.int p3), .val (.int p4), .val (.int p5), .val (.int p6), .val (.int (p1 &&& (255 : Int32))), .val (.int (p2 &&& (255 : Int32))), .val (.int (p3 &&& (255 : Int32))), .val (.int (own_pick p4 p4 (p1 &&& (255 : Int32)))), .val (.int (own_pick p5 p5 (p2 &&& (255 : Int32)))), .val (.int (own_pick p6 p6 (p3 &&& (255 : Int32)))), .val (.ref b10), .val (.ref b12), .val (.int (0 : Int32)), .val (.ref a14)] [(.ref b10)])) _
    refine XS.aload X16.here hx rfl (hb hby at_142) rfl rfl ?_
    show Steps p.tables e below (T16.setTop (mkF m 144 #[.val (.int p1), .val (.int p2), .val (.int p3), .val (.int p4), .val (.int p5), .val (.int p6), .val (.int (p1 &&& (255 : Int32))), .val (.int (p2 &&& (255 : Int32))), .val (.int (p3 &&& (255 : Int32))), .val (.int (own_pick p4 p4 (p1 &&& (255 : Int32)))), .val (.int (own_pick p5 p5 (p2 &&& (255 : Int32)))), .val (.int (own_pick p6 p6 (p3 &&& (255 : Int32)))), .val (.ref b10), .val (.ref b12), .val (.int (0 : Int32)), .val (.ref a14)] [(.ref b10), (.ref b10)])) _
    refine st17.trans ?_
    show Steps p.tables e below (T17.setTop (mkF m 147 #[.val (.int p1), .val (.int p2), .val (.int p3), .val (.int p4), .val (.int p5), .val (.int p6), .val (.int (p1 &&& (255 : Int32))), .val (.int (p2 &&& (255 : Int32))), .val (.int (p3 &&& (255 : Int32))), .val (.int (own_pick p4 p4 (p1 &&& (255 : Int32)))), .val (.int (own_pick p5 p5 (p2 &&& (255 : Int32)))), .val (.int (own_pick p6 p6 (p3 &&& (255 : Int32)))), .val (.ref b10), .val (.ref b12), .val (.int (0 : Int32)), .val (.ref a14)] [(.int (own_eq3 (p1 &&& (255 : Int32)) (p2 &&& (255 : Int32)) (p3 &&& (255 : Int32)) (p1 &&& (255 : Int32)) (p2 &&& (255 : Int32)) (p3 &&& (255 : Int32))))])) _
    refine XS.ifNo X17.here hx rfl (hb hby at_147) rfl ((if0 _ _).trans (feq (by first | exact hE0 | exact hv | exact hv2 | exact own_self _ _ _ | decide : ¬ ((own_eq3 (p1 &&& (255 : Int32)) (p2 &&& (255 : Int32)) (p3 &&& (255 : Int32)) (p1 &&& (255 : Int32)) (p2 &&& (255 : Int32)) (p3 &&& (255 : Int32))) = (0 : Int32)))).1) ?_
    show Steps p.tables e below (T17.setTop (mkF m 150 #[.val (.int p1), .val (.int p2), .val (.int p3), .val (.int p4), .val (.int p5), .val (.int p6), .val (.int (p1 &&& (255 : Int32))), .val (.int (p2 &&& (255 : Int32))), .val (.int (p3 &&& (255 : Int32))), .val (.int (own_pick p4 p4 (p1 &&& (255 : Int32)))), .val (.int (own_pick p5 p5 (p2 &&& (255 : Int32)))), .val (.int (own_pick p6 p6 (p3 &&& (255 : Int32)))), .val (.ref b10), .val (.ref b12), .val (.int (0 : Int32)), .val (.ref a14)] [])) _
    refine XS.aload X17.here hx rfl (hb hby at_150) rfl rfl ?_
    show Steps p.tables e below (T17.setTop (mkF m 152 #[.val (.int p1), .val (.int p2), .val (.int p3), .val (.int p4), .val (.int p5), .val (.int p6), .val (.int (p1 &&& (255 : Int32))), .val (.int (p2 &&& (255 : Int32))), .val (.int (p3 &&& (255 : Int32))), .val (.int (own_pick p4 p4 (p1 &&& (255 : Int32)))), .val (.int (own_pick p5 p5 (p2 &&& (255 : Int32)))), .val (.int (own_pick p6 p6 (p3 &&& (255 : Int32)))), .val (.ref b10), .val (.ref b12), .val (.int (0 : Int32)), .val (.ref a14)] [(.ref b10)])) _
    refine XS.aconstNull X17.here hx rfl (hb hby at_152) ?_
    show Steps p.tables e below (T17.setTop (mkF m 153 #[.val (.int p1), .val (.int p2), .val (.int p3), .val (.int p4), .val (.int p5), .val (.int p6), .val (.int (p1 &&& (255 : Int32))), .val (.int (p2 &&& (255 : Int32))), .val (.int (p3 &&& (255 : Int32))), .val (.int (own_pick p4 p4 (p1 &&& (255 : Int32)))), .val (.int (own_pick p5 p5 (p2 &&& (255 : Int32)))), .val (.int (own_pick p6 p6 (p3 &&& (255 : Int32)))), .val (.ref b10), .val (.ref b12), .val (.int (0 : Int32)), .val (.ref a14)] [.null, (.ref b10)])) _
    refine st18.trans ?_
    show Steps p.tables e below (T18.setTop (mkF m 156 #[.val (.int p1), .val (.int p2), .val (.int p3), .val (.int p4), .val (.int p5), .val (.int p6), .val (.int (p1 &&& (255 : Int32))), .val (.int (p2 &&& (255 : Int32))), .val (.int (p3 &&& (255 : Int32))), .val (.int (own_pick p4 p4 (p1 &&& (255 : Int32)))), .val (.int (own_pick p5 p5 (p2 &&& (255 : Int32)))), .val (.int (own_pick p6 p6 (p3 &&& (255 : Int32)))), .val (.ref b10), .val (.ref b12), .val (.int (0 : Int32)), .val (.ref a14)] [(.int (0 : Int32))])) _
    refine XS.ifNo X18.here hx rfl (hb hby at_156) rfl ((if0 _ _).trans (teq (by first | exact hE0 | exact hv | exact hv2 | exact own_self _ _ _ | decide : (0 : Int32) = (0 : Int32))).2) ?_
    show Steps p.tables e below (T18.setTop (mkF m 159 #[.val (.int p1), .val (.int p2), .val (.int p3), .val (.int p4), .val (.int p5), .val (.int p6), .val (.int (p1 &&& (255 : Int32))), .val (.int (p2 &&& (255 : Int32))), .val (.int (p3 &&& (255 : Int32))), .val (.int (own_pick p4 p4 (p1 &&& (255 : Int32)))), .val (.int (own_pick p5 p5 (p2 &&& (255 : Int32)))), .val (.int (own_pick p6 p6 (p3 &&& (255 : Int32)))), .val (.ref b10), .val (.ref b12), .val (.int (0 : Int32)), .val (.ref a14)] [])) _
    refine XS.aload X18.here hx rfl (hb hby at_159) rfl rfl ?_
    show Steps p.tables e below (T18.setTop (mkF m 161 #[.val (.int p1), .val (.int p2), .val (.int p3), .val (.int p4), .val (.int p5), .val (.int p6), .val (.int (p1 &&& (255 : Int32))), .val (.int (p2 &&& (255 : Int32))), .val (.int (p3 &&& (255 : Int32))), .val (.int (own_pick p4 p4 (p1 &&& (255 : Int32)))), .val (.int (own_pick p5 p5 (p2 &&& (255 : Int32)))), .val (.int (own_pick p6 p6 (p3 &&& (255 : Int32)))), .val (.ref b10), .val (.ref b12), .val (.int (0 : Int32)), .val (.ref a14)] [(.ref b10)])) _
    refine XS.aload X18.here hx rfl (hb hby at_161) rfl rfl ?_
    show Steps p.tables e below (T18.setTop (mkF m 163 #[.val (.int p1), .val (.int p2), .val (.int p3), .val (.int p4), .val (.int p5), .val (.int p6), .val (.int (p1 &&& (255 : Int32))), .val (.int (p2 &&& (255 : Int32))), .val (.int (p3 &&& (255 : Int32))), .val (.int (own_pick p4 p4 (p1 &&& (255 : Int32)))), .val (.int (own_pick p5 p5 (p2 &&& (255 : Int32)))), .val (.int (own_pick p6 p6 (p3 &&& (255 : Int32)))), .val (.ref b10), .val (.ref b12), .val (.int (0 : Int32)), .val (.ref a14)] [(.ref a14), (.ref b10)])) _
    refine st19.trans ?_
    show Steps p.tables e below (T19.setTop (mkF m 166 #[.val (.int p1), .val (.int p2), .val (.int p3), .val (.int p4), .val (.int p5), .val (.int p6), .val (.int (p1 &&& (255 : Int32))), .val (.int (p2 &&& (255 : Int32))), .val (.int (p3 &&& (255 : Int32))), .val (.int (own_pick p4 p4 (p1 &&& (255 : Int32)))), .val (.int (own_pick p5 p5 (p2 &&& (255 : Int32)))), .val (.int (own_pick p6 p6 (p3 &&& (255 : Int32)))), .val (.ref b10), .val (.ref b12), .val (.int (0 : Int32)), .val (.ref a14)] [(.int (0 : Int32))])) _
    refine XS.ifNo X19.here hx rfl (hb hby at_166) rfl ((if0 _ _).trans (teq (by first | exact hE0 | exact hv | exact hv2 | exact own_self _ _ _ | decide : (0 : Int32) = (0 : Int32))).2) ?_
    show Steps p.tables e below (T19.setTop (mkF m 169 #[.val (.int p1), .val (.int p2), .val (.int p3), .val (.int p4), .val (.int p5), .val (.int p6), .val (.int (p1 &&& (255 : Int32))), .val (.int (p2 &&& (255 : Int32))), .val (.int (p3 &&& (255 : Int32))), .val (.int (own_pick p4 p4 (p1 &&& (255 : Int32)))), .val (.int (own_pick p5 p5 (p2 &&& (255 : Int32)))), .val (.int (own_pick p6 p6 (p3 &&& (255 : Int32)))), .val (.ref b10), .val (.ref b12), .val (.int (0 : Int32)), .val (.ref a14)] [])) _
    refine XS.iconst X19.here hx rfl (hb hby at_169) ?_
    show Steps p.tables e below (T19.setTop (mkF m 170 #[.val (.int p1), .val (.int p2), .val (.int p3), .val (.int p4), .val (.int p5), .val (.int p6), .val (.int (p1 &&& (255 : Int32))), .val (.int (p2 &&& (255 : Int32))), .val (.int (p3 &&& (255 : Int32))), .val (.int (own_pick p4 p4 (p1 &&& (255 : Int32)))), .val (.int (own_pick p5 p5 (p2 &&& (255 : Int32)))), .val (.int (own_pick p6 p6 (p3 &&& (255 : Int32)))), .val (.ref b10), .val (.ref b12), .val (.int (0 : Int32)), .val (.ref a14)] [(.int (1 : Int32))])) _
    refine XS.goto X19.here hx rfl (pc0 := 170) (pc' := 174) rfl (hb hby at_170) (by decide) (by decide) ?_
    show Steps p.tables e below (T19.setTop (mkF m 174 #[.val (.int p1), .val (.int p2), .val (.int p3), .val (.int p4), .val (.int p5), .val (.int p6), .val (.int (p1 &&& (255 : Int32))), .val (.int (p2 &&& (255 : Int32))), .val (.int (p3 &&& (255 : Int32))), .val (.int (own_pick p4 p4 (p1 &&& (255 : Int32)))), .val (.int (own_pick p5 p5 (p2 &&& (255 : Int32)))), .val (.int (own_pick p6 p6 (p3 &&& (255 : Int32)))), .val (.ref b10), .val (.ref b12), .val (.int (0 : Int32)), .val (.ref a14)] [(.int (1 : Int32))])) _
    exact retN X19 hx (t := .boolean) Bd.returns (by simp) (hb hby at_174) hr
  · show Ql (some (.int (1 : Int32))) n0 _ _
    exact ⟨rfl, N19⟩
set_option maxRecDepth 65536 in
set_option maxHeartbeats 40000000 in
theorem rm0_ft (l : Launch) (Z : State) (a0 : Array Value) (hw : ∀ d ∈ tables_1, d.before a0 Z = true) (ws : List Jvm.Cond) (p1 : Int32) (p2 : Int32) (p3 : Int32) (p4 : Int32) (p5 : Int32) (p6 : Int32) (h0 : Heap) (n0 : Nat) (Z0 : n0 ≤ h0.size) (w4 : Addr) (cl : Cell) (SH : Sta Z h0 "java/lang/Integer$IntegerCache" "high" "I" (.int (127 : Int32))) (SC : Sta Z h0 "java/lang/Integer$IntegerCache" "cache" "[Ljava/lang/Integer;" (.ref w4)) (AC : Arr Z h0 w4 cl (.object "java/lang/Integer")) (hsz : cl.slots.size = 256) (BC : ∀ j : Int32, ¬ (j < 0 ∨ cl.slots.size ≤ j.toNatClampNeg) → ∃ b : Addr, cl.slots[j.toNatClampNeg]? = some (.ref b) ∧ Exa Z h0 b "java/lang/Integer") (hE0 : (p1 &&& (255 : Int32)) = (own_pick p4 p4 (p1 &&& (255 : Int32)))) (hE1 : ¬ ((p2 &&& (255 : Int32)) = (own_pick p5 p5 (p2 &&& (255 : Int32))))) (hv : own_eq3 (p1 &&& (255 : Int32)) (p2 &&& (255 : Int32)) (p3 &&& (255 : Int32)) (own_pick p4 p4 (p1 &&& (255 : Int32))) (own_pick p5 p5 (p2 &&& (255 : Int32))) (own_pick p6 p6 (p3 &&& (255 : Int32))) = 0) (hv2 : own_eq3 (own_pick p4 p4 (p1 &&& (255 : Int32))) (own_pick p5 p5 (p2 &&& (255 : Int32))) (own_pick p6 p6 (p3 &&& (255 : Int32))) (p1 &&& (255 : Int32)) (p2 &&& (255 : Int32)) (p3 &&& (255 : Int32)) = 0) :
    MetFree l x (head1 (Jvm.Cond.code x code maxLocals ret :: ws) room_1) (fun a U => a = #[(.int p1), (.int p2), (.int p3), (.int p4), (.int p5), (.int p6)] ∧ Z.Warmed39 U.vm ∧ U.heap = h0) (fun _ _ _ _ _ => True) (fun _ U o U' => ∃ v L, o = .returned v ∧ Ql (some (.int (1 : Int32))) n0 v L ∧ FrameEnd U o U' L room_1.cells room_1.slots) := by
  refine MetFree.of_bodySF (plainFor_of_name pn_0) hisR ?_
  intro p e s m args below meth c s₁ Bd hml0 hP hK
  obtain ⟨rfl, hZ, hh⟩ := hP
  have hx := Bd.exec
  have hby := Bd.bytes
  have hml : c.maxLocals = 16 := hml0
  have hown : s.vm.findClass "com/example/telegrid/telegrid/erp1/EepEqualsPinLaw" = some m.cls := findClass_of_methodNamed Bd.named
  have hnm := (name_of_methodNamed Bd.named Bd.method).1
  have X0 : Stand p l e room_1 s m #[(.int p1), (.int p2), (.int p3), (.int p4), (.int p5), (.int p6)] below meth c s₁ [] 0 0 := Stand.of_body Bd
  have e0 : s₁.heap = h0 := by rw [← hh, Bd.state]; rfl
  have N0 := Fr.nil n0
  have pre0 : ∀ t, Steps p.tables e below (s₁.setTop (mkF m 0 #[.val (.int p1), .val (.int p2), .val (.int p3), .val (.int p4), .val (.int p5), .val (.int p6), .unset, .unset, .unset, .unset, .unset, .unset, .unset, .unset, .unset, .unset] [])) t → Steps p.tables e below (s₁.setTop (entryFrame m #[(.int p1), (.int p2), (.int p3), (.int p4), (.int p5), (.int p6)] maxLocals)) t := fun t k => castTop (ef_0 m p1 p2 p3 p4 p5 p6) k
  -- 3. LAWS
  -- pc 25: com/example/telegrid/telegrid/erp1/EepEqualsPinLaw.pick by its contract rm1
  obtain ⟨_, _, ⟨T7, L7, k7, n7⟩, -, X7, ⟨Lc7, hQ7, l7, y7, z7⟩, st7⟩ := Jvm.LawKit.callS X0 hx (y := (⟨"com/example/telegrid/telegrid/erp1/EepEqualsPinLaw", "pick", "(III)I"⟩ : MethodName)) hown (mvT hZ (hw _ (List.mem_of_getElem? (i := 0) rfl))) (mvT hZ (hw _ (List.mem_of_getElem? (i := 1) rfl))) (mvT hZ (hw _ (List.mem_of_getElem? (i := 2) rfl))) (mvT hZ (hw _ (List.mem_of_getElem? (i := 3) rfl))) (by decide) (backOf (W := 0) (rm1 l Z a0 hw [] p4 p4 (p1 &&& (255 : Int32)) h0 n0 Z0) hZ (hw _ (List.mem_of_getElem? (i := 3) rfl)) (hw _ (List.mem_of_getElem? (i := 2) rfl)) (by decide) (by decide)) (g := (mkF m 25 #[.val (.int p1), .val (.int p2), .val (.int p3), .val (.int p4), .val (.int p5), .val (.int p6), .val (.int (p1 &&& (255 : Int32))), .val (.int (p2 &&& (255 : Int32))), .val (.int (p3 &&& (255 : Int32))), .unset, .unset, .unset, .unset, .unset, .unset, .unset] [(.int (p1 &&& (255 : Int32))), (.int p4), (.int p4)])) rfl (by rw [hml]; rfl) (argsL := [(.int p4), (.int p4), (.int (p1 &&& (255 : Int32)))]) (rest := []) (lenOf pd_0_0 rfl) rfl (by show 2 * 0 + _ ≤ _; exact Nat.le_of_eq rfl) (hb hby at_25) (fun _ _ => ⟨rfl, e0, (by decide : 0 + 0 ≤ _), (by decide : 0 + 0 ≤ _)⟩)
  dsimp only [Pt.U, Pt.locs, Pt.cells, Pt.slots] at X7 l7 y7 z7 st7 hQ7
  subst l7 y7 z7
  obtain ⟨rfl, N7q, e7⟩ := hQ7
  have N7 := Fr.app N0 N7q
  have Kc7 : Keep h0 T7.heap [] := own_kp e7
  -- pc 36: com/example/telegrid/telegrid/erp1/EepEqualsPinLaw.pick by its contract rm1
  obtain ⟨_, _, ⟨T8, L8, k8, n8⟩, -, X8, ⟨Lc8, hQ8, l8, y8, z8⟩, st8⟩ := Jvm.LawKit.callS X7 hx (y := (⟨"com/example/telegrid/telegrid/erp1/EepEqualsPinLaw", "pick", "(III)I"⟩ : MethodName)) hown (mvT hZ (hw _ (List.mem_of_getElem? (i := 0) rfl))) (mvT hZ (hw _ (List.mem_of_getElem? (i := 1) rfl))) (mvT hZ (hw _ (List.mem_of_getElem? (i := 2) rfl))) (mvT hZ (hw _ (List.mem_of_getElem? (i := 3) rfl))) (by decide) (backOf (W := 0) (rm1 l Z a0 hw [] p5 p5 (p2 &&& (255 : Int32)) T7.heap n0 (Nat.le_trans Z0 Kc7.1)) hZ (hw _ (List.mem_of_getElem? (i := 3) rfl)) (hw _ (List.mem_of_getElem? (i := 2) rfl)) (by decide) (by decide)) (g := (mkF m 36 #[.val (.int p1), .val (.int p2), .val (.int p3), .val (.int p4), .val (.int p5), .val (.int p6), .val (.int (p1 &&& (255 : Int32))), .val (.int (p2 &&& (255 : Int32))), .val (.int (p3 &&& (255 : Int32))), .val (.int (own_pick p4 p4 (p1 &&& (255 : Int32)))), .unset, .unset, .unset, .unset, .unset, .unset] [(.int (p2 &&& (255 : Int32))), (.int p5), (.int p5)])) rfl (by rw [hml]; rfl) (argsL := [(.int p5), (.int p5), (.int (p2 &&& (255 : Int32)))]) (rest := []) (lenOf pd_0_0 rfl) rfl (by show 2 * 0 + _ ≤ _; exact Nat.le_of_eq rfl) (hb hby at_36) (fun _ _ => ⟨rfl, rfl, (by decide : 0 + 0 ≤ _), (by decide : 0 + 0 ≤ _)⟩)
  dsimp only [Pt.U, Pt.locs, Pt.cells, Pt.slots] at X8 l8 y8 z8 st8 hQ8
  subst l8 y8 z8
  obtain ⟨rfl, N8q, e8⟩ := hQ8
  have N8 := Fr.app N7 N8q
  have Kc8 : Keep T7.heap T8.heap [] := own_kp e8
  -- pc 47: com/example/telegrid/telegrid/erp1/EepEqualsPinLaw.pick by its contract rm1
  obtain ⟨_, _, ⟨T9, L9, k9, n9⟩, -, X9, ⟨Lc9, hQ9, l9, y9, z9⟩, st9⟩ := Jvm.LawKit.callS X8 hx (y := (⟨"com/example/telegrid/telegrid/erp1/EepEqualsPinLaw", "pick", "(III)I"⟩ : MethodName)) hown (mvT hZ (hw _ (List.mem_of_getElem? (i := 0) rfl))) (mvT hZ (hw _ (List.mem_of_getElem? (i := 1) rfl))) (mvT hZ (hw _ (List.mem_of_getElem? (i := 2) rfl))) (mvT hZ (hw _ (List.mem_of_getElem? (i := 3) rfl))) (by decide) (backOf (W := 0) (rm1 l Z a0 hw [] p6 p6 (p3 &&& (255 : Int32)) T8.heap n0 (Nat.le_trans (Nat.le_trans Z0 Kc7.1) Kc8.1)) hZ (hw _ (List.mem_of_getElem? (i := 3) rfl)) (hw _ (List.mem_of_getElem? (i := 2) rfl)) (by decide) (by decide)) (g := (mkF m 47 #[.val (.int p1), .val (.int p2), .val (.int p3), .val (.int p4), .val (.int p5), .val (.int p6), .val (.int (p1 &&& (255 : Int32))), .val (.int (p2 &&& (255 : Int32))), .val (.int (p3 &&& (255 : Int32))), .val (.int (own_pick p4 p4 (p1 &&& (255 : Int32)))), .val (.int (own_pick p5 p5 (p2 &&& (255 : Int32)))), .unset, .unset, .unset, .unset, .unset] [(.int (p3 &&& (255 : Int32))), (.int p6), (.int p6)])) rfl (by rw [hml]; rfl) (argsL := [(.int p6), (.int p6), (.int (p3 &&& (255 : Int32)))]) (rest := []) (lenOf pd_0_0 rfl) rfl (by show 2 * 0 + _ ≤ _; exact Nat.le_of_eq rfl) (hb hby at_47) (fun _ _ => ⟨rfl, rfl, (by decide : 0 + 0 ≤ _), (by decide : 0 + 0 ≤ _)⟩)
  dsimp only [Pt.U, Pt.locs, Pt.cells, Pt.slots] at X9 l9 y9 z9 st9 hQ9
  subst l9 y9 z9
  obtain ⟨rfl, N9q, e9⟩ := hQ9
  have N9 := Fr.app N8 N9q
  have Kc9 : Keep T8.heap T9.heap [] := own_kp e9
  have Kh9 : Keep h0 T9.heap [] := (Kc7.trans Kc8 all0).trans Kc9 all0
  obtain ⟨T10, h10, X10, e10, E10, A10, D10, -, st10⟩ := newO X9 hx hZ hown (hw _ (List.mem_of_getElem? (i := 4) rfl)) (hw _ (List.mem_of_getElem? (i := 5) rfl)) (hw _ (List.mem_of_getElem? (i := 6) rfl)) rfl (g := (mkF m 52 #[.val (.int p1), .val (.int p2), .val (.int p3), .val (.int p4), .val (.int p5), .val (.int p6), .val (.int (p1 &&& (255 : Int32))), .val (.int (p2 &&& (255 : Int32))), .val (.int (p3 &&& (255 : Int32))), .val (.int (own_pick p4 p4 (p1 &&& (255 : Int32)))), .val (.int (own_pick p5 p5 (p2 &&& (255 : Int32)))), .val (.int (own_pick p6 p6 (p3 &&& (255 : Int32)))), .unset, .unset, .unset, .unset] [])) rfl (hb hby at_52) (by decide) (by decide)
  obtain ⟨b10, g10⟩ : ∃ z, z = T9.heap.size := ⟨_, rfl⟩      -- the fresh object's address
  rw [← g10] at A10 D10 st10      -- A10 : Exa Z h10 b10 "com/example/telegrid/telegrid/erp1/Eep"; E10 : Ext T9.heap h10 (carries every older fact: .ext E10)
  have F_rorg_b10 : Fld Z h10 b10 "com/example/telegrid/telegrid/erp1/Eep" "rorg" "I" (.int (0 : Int32)) := D10 (Or.inr (hw _ (List.mem_of_getElem? (i := 14) rfl))) (ty := .int) (by decide)
  have F_func_b10 : Fld Z h10 b10 "com/example/telegrid/telegrid/erp1/Eep" "func" "I" (.int (0 : Int32)) := D10 (Or.inr (hw _ (List.mem_of_getElem? (i := 16) rfl))) (ty := .int) (by decide)
  have F_type_b10 : Fld Z h10 b10 "com/example/telegrid/telegrid/erp1/Eep" "type" "I" (.int (0 : Int32)) := D10 (Or.inr (hw _ (List.mem_of_getElem? (i := 18) rfl))) (ty := .int) (by decide)
  have E_b10 := A10
  have g_b10 : n0 ≤ b10 := Nat.le_trans (Nat.le_trans (Nat.le_trans (Nat.le_trans Z0 Kc7.1) Kc8.1) Kc9.1) (Nat.le_of_eq g10.symm)
  have sz_b10 : h0.size ≤ b10 := (Nat.le_trans Kh9.1 (Nat.le_of_eq g10.symm))
  have K10 : Keep h0 h10 [] := Kh9.ext E10
  -- pc 62: the constructor of com/example/telegrid/telegrid/erp1/Eep by its contract rm2
  obtain ⟨_, _, ⟨T11, L11, k11, n11⟩, -, X11, ⟨Lc11, hQ11, l11, y11, z11⟩, st11⟩ := X10.specialBack hx (y := (⟨"com/example/telegrid/telegrid/erp1/Eep", "<init>", "(III)V"⟩ : MethodName)) rfl hown (mvT hZ (hw _ (List.mem_of_getElem? (i := 7) rfl))) (mvT hZ (hw _ (List.mem_of_getElem? (i := 8) rfl))) (mvT hZ (hw _ (List.mem_of_getElem? (i := 9) rfl))) (by decide) (backOf (W := 1) (rm2 l Z a0 hw [] b10 (p1 &&& (255 : Int32)) (p2 &&& (255 : Int32)) (p3 &&& (255 : Int32)) (.int (0 : Int32)) (.int (0 : Int32)) (.int (0 : Int32)) h10 n0 (Nat.le_trans Z0 K10.1) E_b10 F_rorg_b10 g_b10 F_func_b10 F_type_b10 (own_hi3 (own_hi p1) (own_hi p2) (own_hi p3))) hZ (hw _ (List.mem_of_getElem? (i := 9) rfl)) (hw _ (List.mem_of_getElem? (i := 6) rfl)) (by decide) (by decide)) (g := (mkF m 62 #[.val (.int p1), .val (.int p2), .val (.int p3), .val (.int p4), .val (.int p5), .val (.int p6), .val (.int (p1 &&& (255 : Int32))), .val (.int (p2 &&& (255 : Int32))), .val (.int (p3 &&& (255 : Int32))), .val (.int (own_pick p4 p4 (p1 &&& (255 : Int32)))), .val (.int (own_pick p5 p5 (p2 &&& (255 : Int32)))), .val (.int (own_pick p6 p6 (p3 &&& (255 : Int32)))), .unset, .unset, .unset, .unset] [(.int (p3 &&& (255 : Int32))), (.int (p2 &&& (255 : Int32))), (.int (p1 &&& (255 : Int32))), (.ref b10), (.ref b10)])) rfl (by rw [hml]; rfl) (Steps.refl _) (a := b10) (argsL := [(.int (p1 &&& (255 : Int32))), (.int (p2 &&& (255 : Int32))), (.int (p3 &&& (255 : Int32)))]) (rest := [(.ref b10)]) (lenOf pd_0_1 rfl) rfl (by show 2 * 0 + _ ≤ _; exact Nat.le_of_eq rfl) (hb hby at_62) (fun _ _ => ⟨rfl, e10, (by decide : 1 + 0 ≤ _), (by decide : 3 + 0 ≤ _)⟩)
  dsimp only [Pt.U, Pt.locs, Pt.cells, Pt.slots] at X11 l11 y11 z11 st11 hQ11
  subst l11 y11 z11
  obtain ⟨rfl, N11q, Kc11, EE11, R1_11, R2_11, R3_11⟩ := hQ11
  have N11 := Fr.app N9 N11q
  have Kh11 : Keep h0 T11.heap [] := K10.trans Kc11 (allS (Or.inr sz_b10) all0)
  obtain ⟨T12, h12, X12, e12, E12, A12, D12, -, st12⟩ := newO X11 hx hZ hown (hw _ (List.mem_of_getElem? (i := 4) rfl)) (hw _ (List.mem_of_getElem? (i := 5) rfl)) (hw _ (List.mem_of_getElem? (i := 6) rfl)) rfl (g := (mkF m 67 #[.val (.int p1), .val (.int p2), .val (.int p3), .val (.int p4), .val (.int p5), .val (.int p6), .val (.int (p1 &&& (255 : Int32))), .val (.int (p2 &&& (255 : Int32))), .val (.int (p3 &&& (255 : Int32))), .val (.int (own_pick p4 p4 (p1 &&& (255 : Int32)))), .val (.int (own_pick p5 p5 (p2 &&& (255 : Int32)))), .val (.int (own_pick p6 p6 (p3 &&& (255 : Int32)))), .val (.ref b10), .unset, .unset, .unset] [])) rfl (hb hby at_67) (by decide) (by decide)
  obtain ⟨b12, g12⟩ : ∃ z, z = T11.heap.size := ⟨_, rfl⟩      -- the fresh object's address
  rw [← g12] at A12 D12 st12      -- A12 : Exa Z h12 b12 "com/example/telegrid/telegrid/erp1/Eep"; E12 : Ext T11.heap h12 (carries every older fact: .ext E12)
  have F_rorg_b12 : Fld Z h12 b12 "com/example/telegrid/telegrid/erp1/Eep" "rorg" "I" (.int (0 : Int32)) := D12 (Or.inr (hw _ (List.mem_of_getElem? (i := 14) rfl))) (ty := .int) (by decide)
  have F_func_b12 : Fld Z h12 b12 "com/example/telegrid/telegrid/erp1/Eep" "func" "I" (.int (0 : Int32)) := D12 (Or.inr (hw _ (List.mem_of_getElem? (i := 16) rfl))) (ty := .int) (by decide)
  have F_type_b12 : Fld Z h12 b12 "com/example/telegrid/telegrid/erp1/Eep" "type" "I" (.int (0 : Int32)) := D12 (Or.inr (hw _ (List.mem_of_getElem? (i := 18) rfl))) (ty := .int) (by decide)
  have E_b12 := A12
  have g_b12 : n0 ≤ b12 := Nat.le_trans (Nat.le_trans (Nat.le_trans (Nat.le_trans (Nat.le_trans (Nat.le_trans Z0 Kc7.1) Kc8.1) Kc9.1) E10.1) Kc11.1) (Nat.le_of_eq g12.symm)
  have sz_b12 : h0.size ≤ b12 := (Nat.le_trans Kh11.1 (Nat.le_of_eq g12.symm))
  have K12 : Keep h0 h12 [] := Kh11.ext E12
  -- pc 77: the constructor of com/example/telegrid/telegrid/erp1/Eep by its contract rm2
  obtain ⟨_, _, ⟨T13, L13, k13, n13⟩, -, X13, ⟨Lc13, hQ13, l13, y13, z13⟩, st13⟩ := X12.specialBack hx (y := (⟨"com/example/telegrid/telegrid/erp1/Eep", "<init>", "(III)V"⟩ : MethodName)) rfl hown (mvT hZ (hw _ (List.mem_of_getElem? (i := 7) rfl))) (mvT hZ (hw _ (List.mem_of_getElem? (i := 8) rfl))) (mvT hZ (hw _ (List.mem_of_getElem? (i := 9) rfl))) (by decide) (backOf (W := 1) (rm2 l Z a0 hw [] b12 (own_pick p4 p4 (p1 &&& (255 : Int32))) (own_pick p5 p5 (p2 &&& (255 : Int32))) (own_pick p6 p6 (p3 &&& (255 : Int32))) (.int (0 : Int32)) (.int (0 : Int32)) (.int (0 : Int32)) h12 n0 (Nat.le_trans Z0 K12.1) E_b12 F_rorg_b12 g_b12 F_func_b12 F_type_b12 (own_hi3 (own_hip _ _ _ (own_hi p1)) (own_hip _ _ _ (own_hi p2)) (own_hip _ _ _ (own_hi p3)))) hZ (hw _ (List.mem_of_getElem? (i := 9) rfl)) (hw _ (List.mem_of_getElem? (i := 6) rfl)) (by decide) (by decide)) (g := (mkF m 77 #[.val (.int p1), .val (.int p2), .val (.int p3), .val (.int p4), .val (.int p5), .val (.int p6), .val (.int (p1 &&& (255 : Int32))), .val (.int (p2 &&& (255 : Int32))), .val (.int (p3 &&& (255 : Int32))), .val (.int (own_pick p4 p4 (p1 &&& (255 : Int32)))), .val (.int (own_pick p5 p5 (p2 &&& (255 : Int32)))), .val (.int (own_pick p6 p6 (p3 &&& (255 : Int32)))), .val (.ref b10), .unset, .unset, .unset] [(.int (own_pick p6 p6 (p3 &&& (255 : Int32)))), (.int (own_pick p5 p5 (p2 &&& (255 : Int32)))), (.int (own_pick p4 p4 (p1 &&& (255 : Int32)))), (.ref b12), (.ref b12)])) rfl (by rw [hml]; rfl) (Steps.refl _) (a := b12) (argsL := [(.int (own_pick p4 p4 (p1 &&& (255 : Int32)))), (.int (own_pick p5 p5 (p2 &&& (255 : Int32)))), (.int (own_pick p6 p6 (p3 &&& (255 : Int32))))]) (rest := [(.ref b12)]) (lenOf pd_0_1 rfl) rfl (by show 2 * 0 + _ ≤ _; exact Nat.le_of_eq rfl) (hb hby at_77) (fun _ _ => ⟨rfl, e12, (by decide : 2 + 0 ≤ _), (by decide : 6 + 0 ≤ _)⟩)
  dsimp only [Pt.U, Pt.locs, Pt.cells, Pt.slots] at X13 l13 y13 z13 st13 hQ13
  subst l13 y13 z13
  obtain ⟨rfl, N13q, Kc13, EB_13, S1_13, S2_13, S3_13⟩ := hQ13
  have N13 := Fr.app N11 N13q
  have Kh13 : Keep h0 T13.heap [] := K12.trans Kc13 (allS (Or.inr sz_b12) all0)
  have nAB : b10 ≠ b12 := Nat.ne_of_lt (by rw [g12]; exact R1_11.lt)
  have EA_13 := (EE11.ext E12).keep Kc13
  have R1_13 := (R1_11.ext E12).keep Kc13 (ninS nAB nin0)
  have R2_13 := (R2_11.ext E12).keep Kc13 (ninS nAB nin0)
  have R3_13 := (R3_11.ext E12).keep Kc13 (ninS nAB nin0)
  -- pc 111: java/lang/Integer.valueOf by its contract rm4
  obtain ⟨_, _, ⟨T14, L14, k14, n14⟩, -, X14, ⟨Lc14, hQ14, l14, y14, z14⟩, st14⟩ := Jvm.LawKit.callS X13 hx (y := (⟨"java/lang/Integer", "valueOf", "(I)Ljava/lang/Integer;"⟩ : MethodName)) hown (mvT hZ (hw _ (List.mem_of_getElem? (i := 19) rfl))) (mvT hZ (hw _ (List.mem_of_getElem? (i := 20) rfl))) (mvT hZ (hw _ (List.mem_of_getElem? (i := 21) rfl))) (mvT hZ (hw _ (List.mem_of_getElem? (i := 22) rfl))) (by decide) (backOf (W := 0) (rm4 l Z a0 hw [] p3 w4 cl T13.heap n0 (Nat.le_trans Z0 Kh13.1) (SH.ext (own_ext Kh13)) (SC.ext (own_ext Kh13)) (AC.ext (own_ext Kh13)) hsz (fun j hj => by obtain ⟨b, q1, q2⟩ := BC j hj; exact ⟨b, q1, q2.keep Kh13⟩)) hZ (hw _ (List.mem_of_getElem? (i := 22) rfl)) (hw _ (List.mem_of_getElem? (i := 21) rfl)) (by decide) (by decide)) (g := (mkF m 111 #[.val (.int p1), .val (.int p2), .val (.int p3), .val (.int p4), .val (.int p5), .val (.int p6), .val (.int (p1 &&& (255 : Int32))), .val (.int (p2 &&& (255 : Int32))), .val (.int (p3 &&& (255 : Int32))), .val (.int (own_pick p4 p4 (p1 &&& (255 : Int32)))), .val (.int (own_pick p5 p5 (p2 &&& (255 : Int32)))), .val (.int (own_pick p6 p6 (p3 &&& (255 : Int32)))), .val (.ref b10), .val (.ref b12), .val (.int (0 : Int32)), .unset] [(.int p3)])) rfl (by rw [hml]; rfl) (argsL := [(.int p3)]) (rest := []) (lenOf pd_0_3 rfl) rfl (by show 2 * 0 + _ ≤ _; exact Nat.le_of_eq rfl) (hb hby at_111) (fun _ _ => ⟨rfl, rfl, (by decide : 2 + 1 ≤ _), (by decide : 6 + 1 ≤ _)⟩)
  dsimp only [Pt.U, Pt.locs, Pt.cells, Pt.slots] at X14 l14 y14 z14 st14 hQ14
  subst l14 y14 z14
  obtain ⟨a14, rfl, N14q, Kc14, EO_14⟩ := hQ14
  have N14 := Fr.app N13 N14q
  have Kh14 : Keep h0 T14.heap [] := Kh13.trans Kc14 all0
  have R1_14 := R1_13.keep Kc14 nin0
  have R2_14 := R2_13.keep Kc14 nin0
  have R3_14 := R3_13.keep Kc14 nin0
  have S1_14 := S1_13.keep Kc14 nin0
  have S2_14 := S2_13.keep Kc14 nin0
  have S3_14 := S3_13.keep Kc14 nin0
  have EA_14 := EA_13.keep Kc14
  have EB_14 := EB_13.keep Kc14
  -- pc 120: com/example/telegrid/telegrid/erp1/Eep.equals by the contract of the body that the receiver's class selects, rm5
  obtain ⟨cq15, kq15, q15a, q15b, q15c⟩ := isOf hZ rfl ((((E_b10.keep Kc11).ext E12).keep Kc13).keep Kc14)
  obtain ⟨_, _, ⟨T15, L15, k15, n15⟩, -, X15, ⟨Lc15, hQ15, l15, y15, z15⟩, st15⟩ := X14.virtualBack hx (y := (⟨"com/example/telegrid/telegrid/erp1/Eep", "equals", "(Ljava/lang/Object;)Z"⟩ : MethodName)) (z := (⟨"com/example/telegrid/telegrid/erp1/Eep", "equals", "(Ljava/lang/Object;)Z"⟩ : MethodName)) hown (mvT hZ (hw _ (List.mem_of_getElem? (i := 26) rfl))) (mvT hZ (hw _ (List.mem_of_getElem? (i := 27) rfl))) (notFace_of_selects (args := #[]) (mvT hZ (hw _ (List.mem_of_getElem? (i := 29) rfl)))) (mvT hZ (hw _ (List.mem_of_getElem? (i := 29) rfl))) (mvT hZ (hw _ (List.mem_of_getElem? (i := 28) rfl))) (by decide) (backOf (W := 0) (rm5 l Z a0 hw [] b10 b12 (p1 &&& (255 : Int32)) (p2 &&& (255 : Int32)) (p3 &&& (255 : Int32)) (own_pick p4 p4 (p1 &&& (255 : Int32))) (own_pick p5 p5 (p2 &&& (255 : Int32))) (own_pick p6 p6 (p3 &&& (255 : Int32))) T14.heap n0 (Nat.le_trans Z0 Kh14.1) EB_14 R1_14 R2_14 R3_14 S1_14 S2_14 S3_14) hZ (hw _ (List.mem_of_getElem? (i := 30) rfl)) (hw _ (List.mem_of_getElem? (i := 6) rfl)) (by decide) (by decide)) q15a q15c (g := (mkF m 120 #[.val (.int p1), .val (.int p2), .val (.int p3), .val (.int p4), .val (.int p5), .val (.int p6), .val (.int (p1 &&& (255 : Int32))), .val (.int (p2 &&& (255 : Int32))), .val (.int (p3 &&& (255 : Int32))), .val (.int (own_pick p4 p4 (p1 &&& (255 : Int32)))), .val (.int (own_pick p5 p5 (p2 &&& (255 : Int32)))), .val (.int (own_pick p6 p6 (p3 &&& (255 : Int32)))), .val (.ref b10), .val (.ref b12), .val (.int (0 : Int32)), .val (.ref a14)] [(.ref b12), (.ref b10)])) rfl (by rw [hml]; rfl) (Steps.refl _) (argsL := [(.ref b12)]) (rest := []) (lenOf pd_0_4 rfl) rfl (by show 2 * 0 + _ ≤ _; exact Nat.le_of_eq rfl) (hb hby at_120) (fun _ _ => ⟨rfl, rfl, (by decide : 3 + 0 ≤ _), (by decide : 7 + 0 ≤ _)⟩)
  dsimp only [Pt.U, Pt.locs, Pt.cells, Pt.slots] at X15 l15 y15 z15 st15 hQ15
  subst l15 y15 z15
  obtain ⟨rfl, N15q, e15⟩ := hQ15
  have N15 := Fr.app N14 N15q
  have Kc15 : Keep T14.heap T15.heap [] := own_kp e15
  have Kh15 : Keep h0 T15.heap [] := Kh14.trans Kc15 all0
  have R1_15 := R1_14.keep Kc15 nin0
  have R2_15 := R2_14.keep Kc15 nin0
  have R3_15 := R3_14.keep Kc15 nin0
  have S1_15 := S1_14.keep Kc15 nin0
  have S2_15 := S2_14.keep Kc15 nin0
  have S3_15 := S3_14.keep Kc15 nin0
  have EA_15 := EA_14.keep Kc15
  have EB_15 := EB_14.keep Kc15
  have EO_15 := EO_14.keep Kc15
  -- pc 132: com/example/telegrid/telegrid/erp1/Eep.equals by the contract of the body that the receiver's class selects, rm5
  obtain ⟨cq16, kq16, q16a, q16b, q16c⟩ := isOf hZ rfl (((E_b12.keep Kc13).keep Kc14).keep Kc15)
  obtain ⟨_, _, ⟨T16, L16, k16, n16⟩, -, X16, ⟨Lc16, hQ16, l16, y16, z16⟩, st16⟩ := X15.virtualBack hx (y := (⟨"com/example/telegrid/telegrid/erp1/Eep", "equals", "(Ljava/lang/Object;)Z"⟩ : MethodName)) (z := (⟨"com/example/telegrid/telegrid/erp1/Eep", "equals", "(Ljava/lang/Object;)Z"⟩ : MethodName)) hown (mvT hZ (hw _ (List.mem_of_getElem? (i := 26) rfl))) (mvT hZ (hw _ (List.mem_of_getElem? (i := 27) rfl))) (notFace_of_selects (args := #[]) (mvT hZ (hw _ (List.mem_of_getElem? (i := 29) rfl)))) (mvT hZ (hw _ (List.mem_of_getElem? (i := 29) rfl))) (mvT hZ (hw _ (List.mem_of_getElem? (i := 28) rfl))) (by decide) (backOf (W := 0) (rm5 l Z a0 hw [] b12 b10 (own_pick p4 p4 (p1 &&& (255 : Int32))) (own_pick p5 p5 (p2 &&& (255 : Int32))) (own_pick p6 p6 (p3 &&& (255 : Int32))) (p1 &&& (255 : Int32)) (p2 &&& (255 : Int32)) (p3 &&& (255 : Int32)) T15.heap n0 (Nat.le_trans Z0 Kh15.1) EA_15 S1_15 S2_15 S3_15 R1_15 R2_15 R3_15) hZ (hw _ (List.mem_of_getElem? (i := 30) rfl)) (hw _ (List.mem_of_getElem? (i := 6) rfl)) (by decide) (by decide)) q16a q16c (g := (mkF m 132 #[.val (.int p1), .val (.int p2), .val (.int p3), .val (.int p4), .val (.int p5), .val (.int p6), .val (.int (p1 &&& (255 : Int32))), .val (.int (p2 &&& (255 : Int32))), .val (.int (p3 &&& (255 : Int32))), .val (.int (own_pick p4 p4 (p1 &&& (255 : Int32)))), .val (.int (own_pick p5 p5 (p2 &&& (255 : Int32)))), .val (.int (own_pick p6 p6 (p3 &&& (255 : Int32)))), .val (.ref b10), .val (.ref b12), .val (.int (0 : Int32)), .val (.ref a14)] [(.ref b10), (.ref b12)])) rfl (by rw [hml]; rfl) (Steps.refl _) (argsL := [(.ref b10)]) (rest := []) (lenOf pd_0_4 rfl) rfl (by show 2 * 0 + _ ≤ _; exact Nat.le_of_eq rfl) (hb hby at_132) (fun _ _ => ⟨rfl, rfl, (by decide : 3 + 0 ≤ _), (by decide : 7 + 0 ≤ _)⟩)
  dsimp only [Pt.U, Pt.locs, Pt.cells, Pt.slots] at X16 l16 y16 z16 st16 hQ16
  subst l16 y16 z16
  obtain ⟨rfl, N16q, e16⟩ := hQ16
  have N16 := Fr.app N15 N16q
  have Kc16 : Keep T15.heap T16.heap [] := own_kp e16
  have Kh16 : Keep h0 T16.heap [] := Kh15.trans Kc16 all0
  have R1_16 := R1_15.keep Kc16 nin0
  have R2_16 := R2_15.keep Kc16 nin0
  have R3_16 := R3_15.keep Kc16 nin0
  have S1_16 := S1_15.keep Kc16 nin0
  have S2_16 := S2_15.keep Kc16 nin0
  have S3_16 := S3_15.keep Kc16 nin0
  have EA_16 := EA_15.keep Kc16
  have EB_16 := EB_15.keep Kc16
  have EO_16 := EO_15.keep Kc16
  -- pc 144: com/example/telegrid/telegrid/erp1/Eep.equals by the contract of the body that the receiver's class selects, rm5
  obtain ⟨cq17, kq17, q17a, q17b, q17c⟩ := isOf hZ rfl ((((((E_b10.keep Kc11).ext E12).keep Kc13).keep Kc14).keep Kc15).keep Kc16)
  obtain ⟨_, _, ⟨T17, L17, k17, n17⟩, -, X17, ⟨Lc17, hQ17, l17, y17, z17⟩, st17⟩ := X16.virtualBack hx (y := (⟨"com/example/telegrid/telegrid/erp1/Eep", "equals", "(Ljava/lang/Object;)Z"⟩ : MethodName)) (z := (⟨"com/example/telegrid/telegrid/erp1/Eep", "equals", "(Ljava/lang/Object;)Z"⟩ : MethodName)) hown (mvT hZ (hw _ (List.mem_of_getElem? (i := 26) rfl))) (mvT hZ (hw _ (List.mem_of_getElem? (i := 27) rfl))) (notFace_of_selects (args := #[]) (mvT hZ (hw _ (List.mem_of_getElem? (i := 29) rfl)))) (mvT hZ (hw _ (List.mem_of_getElem? (i := 29) rfl))) (mvT hZ (hw _ (List.mem_of_getElem? (i := 28) rfl))) (by decide) (backOf (W := 0) (rm5 l Z a0 hw [] b10 b10 (p1 &&& (255 : Int32)) (p2 &&& (255 : Int32)) (p3 &&& (255 : Int32)) (p1 &&& (255 : Int32)) (p2 &&& (255 : Int32)) (p3 &&& (255 : Int32)) T16.heap n0 (Nat.le_trans Z0 Kh16.1) EA_16 R1_16 R2_16 R3_16 R1_16 R2_16 R3_16) hZ (hw _ (List.mem_of_getElem? (i := 30) rfl)) (hw _ (List.mem_of_getElem? (i := 6) rfl)) (by decide) (by decide)) q17a q17c (g := (mkF m 144 #[.val (.int p1), .val (.int p2), .val (.int p3), .val (.int p4), .val (.int p5), .val (.int p6), .val (.int (p1 &&& (255 : Int32))), .val (.int (p2 &&& (255 : Int32))), .val (.int (p3 &&& (255 : Int32))), .val (.int (own_pick p4 p4 (p1 &&& (255 : Int32)))), .val (.int (own_pick p5 p5 (p2 &&& (255 : Int32)))), .val (.int (own_pick p6 p6 (p3 &&& (255 : Int32)))), .val (.ref b10), .val (.ref b12), .val (.int (0 : Int32)), .val (.ref a14)] [(.ref b10), (.ref b10)])) rfl (by rw [hml]; rfl) (Steps.refl _) (argsL := [(.ref b10)]) (rest := []) (lenOf pd_0_4 rfl) rfl (by show 2 * 0 + _ ≤ _; exact Nat.le_of_eq rfl) (hb hby at_144) (fun _ _ => ⟨rfl, rfl, (by decide : 3 + 0 ≤ _), (by decide : 7 + 0 ≤ _)⟩)
  dsimp only [Pt.U, Pt.locs, Pt.cells, Pt.slots] at X17 l17 y17 z17 st17 hQ17
  subst l17 y17 z17
  obtain ⟨rfl, N17q, e17⟩ := hQ17
  have N17 := Fr.app N16 N17q
  have Kc17 : Keep T16.heap T17.heap [] := own_kp e17
  have Kh17 : Keep h0 T17.heap [] := Kh16.trans Kc17 all0
  have R1_17 := R1_16.keep Kc17 nin0
  have R2_17 := R2_16.keep Kc17 nin0
  have R3_17 := R3_16.keep Kc17 nin0
  have S1_17 := S1_16.keep Kc17 nin0
  have S2_17 := S2_16.keep Kc17 nin0
  have S3_17 := S3_16.keep Kc17 nin0
  have EA_17 := EA_16.keep Kc17
  have EB_17 := EB_16.keep Kc17
  have EO_17 := EO_16.keep Kc17
  -- pc 153: com/example/telegrid/telegrid/erp1/Eep.equals by the contract of the body that the receiver's class selects, rm5
  obtain ⟨cq18, kq18, q18a, q18b, q18c⟩ := isOf hZ rfl (((((((E_b10.keep Kc11).ext E12).keep Kc13).keep Kc14).keep Kc15).keep Kc16).keep Kc17)
  obtain ⟨_, _, ⟨T18, L18, k18, n18⟩, -, X18, ⟨Lc18, hQ18, l18, y18, z18⟩, st18⟩ := X17.virtualBack hx (y := (⟨"com/example/telegrid/telegrid/erp1/Eep", "equals", "(Ljava/lang/Object;)Z"⟩ : MethodName)) (z := (⟨"com/example/telegrid/telegrid/erp1/Eep", "equals", "(Ljava/lang/Object;)Z"⟩ : MethodName)) hown (mvT hZ (hw _ (List.mem_of_getElem? (i := 26) rfl))) (mvT hZ (hw _ (List.mem_of_getElem? (i := 27) rfl))) (notFace_of_selects (args := #[]) (mvT hZ (hw _ (List.mem_of_getElem? (i := 29) rfl)))) (mvT hZ (hw _ (List.mem_of_getElem? (i := 29) rfl))) (mvT hZ (hw _ (List.mem_of_getElem? (i := 28) rfl))) (by decide) (backOf (W := 0) (rm5_null l Z a0 hw [] b10 T17.heap n0 (Nat.le_trans Z0 Kh17.1)) hZ (hw _ (List.mem_of_getElem? (i := 30) rfl)) (hw _ (List.mem_of_getElem? (i := 6) rfl)) (by decide) (by decide)) q18a q18c (g := (mkF m 153 #[.val (.int p1), .val (.int p2), .val (.int p3), .val (.int p4), .val (.int p5), .val (.int p6), .val (.int (p1 &&& (255 : Int32))), .val (.int (p2 &&& (255 : Int32))), .val (.int (p3 &&& (255 : Int32))), .val (.int (own_pick p4 p4 (p1 &&& (255 : Int32)))), .val (.int (own_pick p5 p5 (p2 &&& (255 : Int32)))), .val (.int (own_pick p6 p6 (p3 &&& (255 : Int32)))), .val (.ref b10), .val (.ref b12), .val (.int (0 : Int32)), .val (.ref a14)] [.null, (.ref b10)])) rfl (by rw [hml]; rfl) (Steps.refl _) (argsL := [.null]) (rest := []) (lenOf pd_0_4 rfl) rfl (by show 2 * 0 + _ ≤ _; exact Nat.le_of_eq rfl) (hb hby at_153) (fun _ _ => ⟨rfl, rfl, (by decide : 3 + 0 ≤ _), (by decide : 7 + 0 ≤ _)⟩)
  dsimp only [Pt.U, Pt.locs, Pt.cells, Pt.slots] at X18 l18 y18 z18 st18 hQ18
  subst l18 y18 z18
  obtain ⟨rfl, N18q, e18⟩ := hQ18
  have N18 := Fr.app N17 N18q
  have Kc18 : Keep T17.heap T18.heap [] := own_kp e18
  have Kh18 : Keep h0 T18.heap [] := Kh17.trans Kc18 all0
  have EO_18 := EO_17.keep Kc18
  -- pc 163: com/example/telegrid/telegrid/erp1/Eep.equals by the contract of the body that the receiver's class selects, rm5
  obtain ⟨cq19, kq19, q19a, q19b, q19c⟩ := isOf hZ rfl ((((((((E_b10.keep Kc11).ext E12).keep Kc13).keep Kc14).keep Kc15).keep Kc16).keep Kc17).keep Kc18)
  obtain ⟨_, _, ⟨T19, L19, k19, n19⟩, -, X19, ⟨Lc19, hQ19, l19, y19, z19⟩, st19⟩ := X18.virtualBack hx (y := (⟨"com/example/telegrid/telegrid/erp1/Eep", "equals", "(Ljava/lang/Object;)Z"⟩ : MethodName)) (z := (⟨"com/example/telegrid/telegrid/erp1/Eep", "equals", "(Ljava/lang/Object;)Z"⟩ : MethodName)) hown (mvT hZ (hw _ (List.mem_of_getElem? (i := 26) rfl))) (mvT hZ (hw _ (List.mem_of_getElem? (i := 27) rfl))) (notFace_of_selects (args := #[]) (mvT hZ (hw _ (List.mem_of_getElem? (i := 29) rfl)))) (mvT hZ (hw _ (List.mem_of_getElem? (i := 29) rfl))) (mvT hZ (hw _ (List.mem_of_getElem? (i := 28) rfl))) (by decide) (backOf (W := 0) (rm5_no l Z a0 hw [] b10 a14 "java/lang/Integer" T18.heap n0 (Nat.le_trans Z0 Kh18.1) (own_notEep (hw _ (List.mem_of_getElem? (i := 33) rfl)) (hw _ (List.mem_of_getElem? (i := 5) rfl)) (NS.step (hw _ (List.mem_of_getElem? (i := 33) rfl)) (NS.step (hw _ (List.mem_of_getElem? (i := 34) rfl)) (own_NSroot (hw _ (List.mem_of_getElem? (i := 35) rfl)) (hw _ (List.mem_of_getElem? (i := 5) rfl)) (by decide)) (by decide)) (by decide)) (by decide) EO_18) EO_18) hZ (hw _ (List.mem_of_getElem? (i := 30) rfl)) (hw _ (List.mem_of_getElem? (i := 6) rfl)) (by decide) (by decide)) q19a q19c (g := (mkF m 163 #[.val (.int p1), .val (.int p2), .val (.int p3), .val (.int p4), .val (.int p5), .val (.int p6), .val (.int (p1 &&& (255 : Int32))), .val (.int (p2 &&& (255 : Int32))), .val (.int (p3 &&& (255 : Int32))), .val (.int (own_pick p4 p4 (p1 &&& (255 : Int32)))), .val (.int (own_pick p5 p5 (p2 &&& (255 : Int32)))), .val (.int (own_pick p6 p6 (p3 &&& (255 : Int32)))), .val (.ref b10), .val (.ref b12), .val (.int (0 : Int32)), .val (.ref a14)] [(.ref a14), (.ref b10)])) rfl (by rw [hml]; rfl) (Steps.refl _) (argsL := [(.ref a14)]) (rest := []) (lenOf pd_0_4 rfl) rfl (by show 2 * 0 + _ ≤ _; exact Nat.le_of_eq rfl) (hb hby at_163) (fun _ _ => ⟨rfl, rfl, (by decide : 3 + 0 ≤ _), (by decide : 7 + 0 ≤ _)⟩)
  dsimp only [Pt.U, Pt.locs, Pt.cells, Pt.slots] at X19 l19 y19 z19 st19 hQ19
  subst l19 y19 z19
  obtain ⟨rfl, N19q, e19⟩ := hQ19
  have N19 := Fr.app N18 N19q
  obtain ⟨fs, hr, hrun, hended, hW, hsame⟩ := X19.leave (v := some (.int (1 : Int32))) (fun h => by rw [Bd.returns] at h; cases h)
  refine ⟨_, _, pre0 _ ?_, hrun, hended, _, _, rfl, ?_, ⟨_, rfl⟩, hW, hsame.mono (by decide) (by decide)⟩
  -- 4. STEPS
  · show Steps p.tables e below (s₁.setTop (mkF m 0 #[.val (.int p1), .val (.int p2), .val (.int p3), .val (.int p4), .val (.int p5), .val (.int p6), .unset, .unset, .unset, .unset, .unset, .unset, .unset, .unset, .unset, .unset] [])) _
    refine XS.iloadN X0.here hx rfl (hb hby at_0) rfl ?_
    show Steps p.tables e below (s₁.setTop (mkF m 1 #[.val (.int p1), .val (.int p2), .val (.int p3), .val (.int p4), .val (.int p5), .val (.int p6), .unset, .unset, .unset, .unset, .unset, .unset, .unset, .unset, .unset, .unset] [(.int p1)])) _
    refine XS.sipush X0.here hx rfl (hb hby at_1) ?_
    show Steps p.tables e below (s₁.setTop (mkF m 4 #[.val (.int p1), .val (.int p2), .val (.int p3), .val (.int p4), .val (.int p5), .val (.int p6), .unset, .unset, .unset, .unset, .unset, .unset, .unset, .unset, .unset, .unset] [(.int (255 : Int32)), (.int p1)])) _
    refine XS.iand X0.here hx rfl (hb hby at_4) rfl ?_
    show Steps p.tables e below (s₁.setTop (mkF m 5 #[.val (.int p1), .val (.int p2), .val (.int p3), .val (.int p4), .val (.int p5), .val (.int p6), .unset, .unset, .unset, .unset, .unset, .unset, .unset, .unset, .unset, .unset] [(.int (p1 &&& (255 : Int32)))])) _
    refine XS.istore X0.here hx rfl (hb hby at_5) rfl (l' := #[.val (.int p1), .val (.int p2), .val (.int p3), .val (.int p4), .val (.int p5), .val (.int p6), .val (.int (p1 &&& (255 : Int32))), .unset, .unset, .unset, .unset, .unset, .unset, .unset, .unset, .unset]) rfl ?_
    show Steps p.tables e below (s₁.setTop (mkF m 7 #[.val (.int p1), .val (.int p2), .val (.int p3), .val (.int p4), .val (.int p5), .val (.int p6), .val (.int (p1 &&& (255 : Int32))), .unset, .unset, .unset, .unset, .unset, .unset, .unset, .unset, .unset] [])) _
    refine XS.iloadN X0.here hx rfl (hb hby at_7) rfl ?_
    show Steps p.tables e below (s₁.setTop (mkF m 8 #[.val (.int p1), .val (.int p2), .val (.int p3), .val (.int p4), .val (.int p5), .val (.int p6), .val (.int (p1 &&& (255 : Int32))), .unset, .unset, .unset, .unset, .unset, .unset, .unset, .unset, .unset] [(.int p2)])) _
    refine XS.sipush X0.here hx rfl (hb hby at_8) ?_
    show Steps p.tables e below (s₁.setTop (mkF m 11 #[.val (.int p1), .val (.int p2), .val (.int p3), .val (.int p4), .val (.int p5), .val (.int p6), .val (.int (p1 &&& (255 : Int32))), .unset, .unset, .unset, .unset, .unset, .unset, .unset, .unset, .unset] [(.int (255 : Int32)), (.int p2)])) _
    refine XS.iand X0.here hx rfl (hb hby at_11) rfl ?_
    show Steps p.tables e below (s₁.setTop (mkF m 12 #[.val (.int p1), .val (.int p2), .val (.int p3), .val (.int p4), .val (.int p5), .val (.int p6), .val (.int (p1 &&& (255 : Int32))), .unset, .unset, .unset, .unset, .unset, .unset, .unset, .unset, .unset] [(.int (p2 &&& (255 : Int32)))])) _
    refine XS.istore X0.here hx rfl (hb hby at_12) rfl (l' := #[.val (.int p1), .val (.int p2), .val (.int p3), .val (.int p4), .val (.int p5), .val (.int p6), .val (.int (p1 &&& (255 : Int32))), .val (.int (p2 &&& (255 : Int32))), .unset, .unset, .unset, .unset, .unset, .unset, .unset, .unset]) rfl ?_
    show Steps p.tables e below (s₁.setTop (mkF m 14 #[.val (.int p1), .val (.int p2), .val (.int p3), .val (.int p4), .val (.int p5), .val (.int p6), .val (.int (p1 &&& (255 : Int32))), .val (.int (p2 &&& (255 : Int32))), .unset, .unset, .unset, .unset, .unset, .unset, .unset, .unset] [])) _
    refine XS.iloadN X0.here hx rfl (hb hby at_14) rfl ?_
    show Steps p.tables e below (s₁.setTop (mkF m 15 #[.val (.int p1), .val (.int p2), .val (.int p3), .val (.int p4), .val (.int p5), .val (.int p6), .val (.int (p1 &&& (255 : Int32))), .val (.int (p2 &&& (255 : Int32))), .unset, .unset, .unset, .unset, .unset, .unset, .unset, .unset] [(.int p3)])) _
    refine XS.sipush X0.here hx rfl (hb hby at_15) ?_
    show Steps p.tables e below (s₁.setTop (mkF m 18 #[.val (.int p1), .val (.int p2), .val (.int p3), .val (.int p4), .val (.int p5), .val (.int p6), .val (.int (p1 &&& (255 : Int32))), .val (.int (p2 &&& (255 : Int32))), .unset, .unset, .unset, .unset, .unset, .unset, .unset, .unset] [(.int (255 : Int32)), (.int p3)])) _
    refine XS.iand X0.here hx rfl (hb hby at_18) rfl ?_
    show Steps p.tables e below (s₁.setTop (mkF m 19 #[.val (.int p1), .val (.int p2), .val (.int p3), .val (.int p4), .val (.int p5), .val (.int p6), .val (.int (p1 &&& (255 : Int32))), .val (.int (p2 &&& (255 : Int32))), .unset, .unset, .unset, .unset, .unset, .unset, .unset, .unset] [(.int (p3 &&& (255 : Int32)))])) _
    refine XS.istore X0.here hx rfl (hb hby at_19) rfl (l' := #[.val (.int p1), .val (.int p2), .val (.int p3), .val (.int p4), .val (.int p5), .val (.int p6), .val (.int (p1 &&& (255 : Int32))), .val (.int (p2 &&& (255 : Int32))), .val (.int (p3 &&& (255 : Int32))), .unset, .unset, .unset, .unset, .unset, .unset, .unset]) rfl ?_
    show Steps p.tables e below (s₁.setTop (mkF m 21 #[.val (.int p1), .val (.int p2), .val (.int p3), .val (.int p4), .val (.int p5), .val (.int p6), .val (.int (p1 &&& (255 : Int32))), .val (.int (p2 &&& (255 : Int32))), .val (.int (p3 &&& (255 : Int32))), .unset, .unset, .unset, .unset, .unset, .unset, .unset] [])) _
    refine XS.iloadN X0.here hx rfl (hb hby at_21) rfl ?_
    show Steps p.tables e below (s₁.setTop (mkF m 22 #[.val (.int p1), .val (.int p2), .val (.int p3), .val (.int p4), .val (.int p5), .val (.int p6), .val (.int (p1 &&& (255 : Int32))), .val (.int (p2 &&& (255 : Int32))), .val (.int (p3 &&& (255 : Int32))), .unset, .unset, .unset, .unset, .unset, .unset, .unset] [(.int p4)])) _
    refine XS.iloadN X0.here hx rfl (hb hby at_22) rfl ?_
    show Steps p.tables e below (s₁.setTop (mkF m 23 #[.val (.int p1), .val (.int p2), .val (.int p3), .val (.int p4), .val (.int p5), .val (.int p6), .val (.int (p1 &&& (255 : Int32))), .val (.int (p2 &&& (255 : Int32))), .val (.int (p3 &&& (255 : Int32))), .unset, .unset, .unset, .unset, .unset, .unset, .unset] [(.int p4), (.int p4)])) _
    refine XS.iload X0.here hx rfl (hb hby at_23) rfl ?_
    show Steps p.tables e below (s₁.setTop (mkF m 25 #[.val (.int p1), .val (.int p2), .val (.int p3), .val (.int p4), .val (.int p5), .val (.int p6), .val (.int (p1 &&& (255 : Int32))), .val (.int (p2 &&& (255 : Int32))), .val (.int (p3 &&& (255 : Int32))), .unset, .unset, .unset, .unset, .unset, .unset, .unset] [(.int (p1 &&& (255 : Int32))), (.int p4), (.int p4)])) _
    refine st7 _ ?_
    show Steps p.tables e below (T7.setTop (mkF m 28 #[.val (.int p1), .val (.int p2), .val (.int p3), .val (.int p4), .val (.int p5), .val (.int p6), .val (.int (p1 &&& (255 : Int32))), .val (.int (p2 &&& (255 : Int32))), .val (.int (p3 &&& (255 : Int32))), .unset, .unset, .unset, .unset, .unset, .unset, .unset] [(.int (own_pick p4 p4 (p1 &&& (255 : Int32))))])) _
    refine XS.istore X7.here hx rfl (hb hby at_28) rfl (l' := #[.val (.int p1), .val (.int p2), .val (.int p3), .val (.int p4), .val (.int p5), .val (.int p6), .val (.int (p1 &&& (255 : Int32))), .val (.int (p2 &&& (255 : Int32))), .val (.int (p3 &&& (255 : Int32))), .val (.int (own_pick p4 p4 (p1 &&& (255 : Int32)))), .unset, .unset, .unset, .unset, .unset, .unset]) rfl ?_
    show Steps p.tables e below (T7.setTop (mkF m 30 #[.val (.int p1), .val (.int p2), .val (.int p3), .val (.int p4), .val (.int p5), .val (.int p6), .val (.int (p1 &&& (255 : Int32))), .val (.int (p2 &&& (255 : Int32))), .val (.int (p3 &&& (255 : Int32))), .val (.int (own_pick p4 p4 (p1 &&& (255 : Int32)))), .unset, .unset, .unset, .unset, .unset, .unset] [])) _
    refine XS.iload X7.here hx rfl (hb hby at_30) rfl ?_
    show Steps p.tables e below (T7.setTop (mkF m 32 #[.val (.int p1), .val (.int p2), .val (.int p3), .val (.int p4), .val (.int p5), .val (.int p6), .val (.int (p1 &&& (255 : Int32))), .val (.int (p2 &&& (255 : Int32))), .val (.int (p3 &&& (255 : Int32))), .val (.int (own_pick p4 p4 (p1 &&& (255 : Int32)))), .unset, .unset, .unset, .unset, .unset, .unset] [(.int p5)])) _
    refine XS.iload X7.here hx rfl (hb hby at_32) rfl ?_
    show Steps p.tables e below (T7.setTop (mkF m 34 #[.val (.int p1), .val (.int p2), .val (.int p3), .val (.int p4), .val (.int p5), .val (.int p6), .val (.int (p1 &&& (255 : Int32))), .val (.int (p2 &&& (255 : Int32))), .val (.int (p3 &&& (255 : Int32))), .val (.int (own_pick p4 p4 (p1 &&& (255 : Int32)))), .unset, .unset, .unset, .unset, .unset, .unset] [(.int p5), (.int p5)])) _
    refine XS.iload X7.here hx rfl (hb hby at_34) rfl ?_
    show Steps p.tables e below (T7.setTop (mkF m 36 #[.val (.int p1), .val (.int p2), .val (.int p3), .val (.int p4), .val (.int p5), .val (.int p6), .val (.int (p1 &&& (255 : Int32))), .val (.int (p2 &&& (255 : Int32))), .val (.int (p3 &&& (255 : Int32))), .val (.int (own_pick p4 p4 (p1 &&& (255 : Int32)))), .unset, .unset, .unset, .unset, .unset, .unset] [(.int (p2 &&& (255 : Int32))), (.int p5), (.int p5)])) _
    refine st8 _ ?_
    show Steps p.tables e below (T8.setTop (mkF m 39 #[.val (.int p1), .val (.int p2), .val (.int p3), .val (.int p4), .val (.int p5), .val (.int p6), .val (.int (p1 &&& (255 : Int32))), .val (.int (p2 &&& (255 : Int32))), .val (.int (p3 &&& (255 : Int32))), .val (.int (own_pick p4 p4 (p1 &&& (255 : Int32)))), .unset, .unset, .unset, .unset, .unset, .unset] [(.int (own_pick p5 p5 (p2 &&& (255 : Int32))))])) _
    refine XS.istore X8.here hx rfl (hb hby at_39) rfl (l' := #[.val (.int p1), .val (.int p2), .val (.int p3), .val (.int p4), .val (.int p5), .val (.int p6), .val (.int (p1 &&& (255 : Int32))), .val (.int (p2 &&& (255 : Int32))), .val (.int (p3 &&& (255 : Int32))), .val (.int (own_pick p4 p4 (p1 &&& (255 : Int32)))), .val (.int (own_pick p5 p5 (p2 &&& (255 : Int32)))), .unset, .unset, .unset, .unset, .unset]) rfl ?_
    show Steps p.tables e below (T8.setTop (mkF m 41 #[.val (.int p1), .val (.int p2), .val (.int p3), .val (.int p4), .val (.int p5), .val (.int p6), .val (.int (p1 &&& (255 : Int32))), .val (.int (p2 &&& (255 : Int32))), .val (.int (p3 &&& (255 : Int32))), .val (.int (own_pick p4 p4 (p1 &&& (255 : Int32)))), .val (.int (own_pick p5 p5 (p2 &&& (255 : Int32)))), .unset, .unset, .unset, .unset, .unset] [])) _
    refine XS.iload X8.here hx rfl (hb hby at_41) rfl ?_
    show Steps p.tables e below (T8.setTop (mkF m 43 #[.val (.int p1), .val (.int p2), .val (.int p3), .val (.int p4), .val (.int p5), .val (.int p6), .val (.int (p1 &&& (255 : Int32))), .val (.int (p2 &&& (255 : Int32))), .val (.int (p3 &&& (255 : Int32))), .val (.int (own_pick p4 p4 (p1 &&& (255 : Int32)))), .val (.int (own_pick p5 p5 (p2 &&& (255 : Int32)))), .unset, .unset, .unset, .unset, .unset] [(.int p6)])) _
    refine XS.iload X8.here hx rfl (hb hby at_43) rfl ?_
    show Steps p.tables e below (T8.setTop (mkF m 45 #[.val (.int p1), .val (.int p2), .val (.int p3), .val (.int p4), .val (.int p5), .val (.int p6), .val (.int (p1 &&& (255 : Int32))), .val (.int (p2 &&& (255 : Int32))), .val (.int (p3 &&& (255 : Int32))), .val (.int (own_pick p4 p4 (p1 &&& (255 : Int32)))), .val (.int (own_pick p5 p5 (p2 &&& (255 : Int32)))), .unset, .unset, .unset, .unset, .unset] [(.int p6), (.int p6)])) _
    refine XS.iload X8.here hx rfl (hb hby at_45) rfl ?_
    show Steps p.tables e below (T8.setTop (mkF m 47 #[.val (.int p1), .val (.int p2), .val (.int p3), .val (.int p4), .val (.int p5), .val (.int p6), .val (.int (p1 &&& (255 : Int32))), .val (.int (p2 &&& (255 : Int32))), .val (.int (p3 &&& (255 : Int32))), .val (.int (own_pick p4 p4 (p1 &&& (255 : Int32)))), .val (.int (own_pick p5 p5 (p2 &&& (255 : Int32)))), .unset, .unset, .unset, .unset, .unset] [(.int (p3 &&& (255 : Int32))), (.int p6), (.int p6)])) _
    refine st9 _ ?_
    show Steps p.tables e below (T9.setTop (mkF m 50 #[.val (.int p1), .val (.int p2), .val (.int p3), .val (.int p4), .val (.int p5), .val (.int p6), .val (.int (p1 &&& (255 : Int32))), .val (.int (p2 &&& (255 : Int32))), .val (.int (p3 &&& (255 : Int32))), .val (.int (own_pick p4 p4 (p1 &&& (255 : Int32)))), .val (.int (own_pick p5 p5 (p2 &&& (255 : Int32)))), .unset, .unset, .unset, .unset, .unset] [(.int (own_pick p6 p6 (p3 &&& (255 : Int32))))])) _
    refine XS.istore X9.here hx rfl (hb hby at_50) rfl (l' := #[.val (.int p1), .val (.int p2), .val (.int p3), .val (.int p4), .val (.int p5), .val (.int p6), .val (.int (p1 &&& (255 : Int32))), .val (.int (p2 &&& (255 : Int32))), .val (.int (p3 &&& (255 : Int32))), .val (.int (own_pick p4 p4 (p1 &&& (255 : Int32)))), .val (.int (own_pick p5 p5 (p2 &&& (255 : Int32)))), .val (.int (own_pick p6 p6 (p3 &&& (255 : Int32)))), .unset, .unset, .unset, .unset]) rfl ?_
    show Steps p.tables e below (T9.setTop (mkF m 52 #[.val (.int p1), .val (.int p2), .val (.int p3), .val (.int p4), .val (.int p5), .val (.int p6), .val (.int (p1 &&& (255 : Int32))), .val (.int (p2 &&& (255 : Int32))), .val (.int (p3 &&& (255 : Int32))), .val (.int (own_pick p4 p4 (p1 &&& (255 : Int32)))), .val (.int (own_pick p5 p5 (p2 &&& (255 : Int32)))), .val (.int (own_pick p6 p6 (p3 &&& (255 : Int32)))), .unset, .unset, .unset, .unset] [])) _
    refine st10 _ ?_
    show Steps p.tables e below (T10.setTop (mkF m 55 #[.val (.int p1), .val (.int p2), .val (.int p3), .val (.int p4), .val (.int p5), .val (.int p6), .val (.int (p1 &&& (255 : Int32))), .val (.int (p2 &&& (255 : Int32))), .val (.int (p3 &&& (255 : Int32))), .val (.int (own_pick p4 p4 (p1 &&& (255 : Int32)))), .val (.int (own_pick p5 p5 (p2 &&& (255 : Int32)))), .val (.int (own_pick p6 p6 (p3 &&& (255 : Int32)))), .unset, .unset, .unset, .unset] [(.ref b10)])) _
    refine XS.dup X10.here hx rfl (hb hby at_55) rfl rfl ?_
    show Steps p.tables e below (T10.setTop (mkF m 56 #[.val (.int p1), .val (.int p2), .val (.int p3), .val (.int p4), .val (.int p5), .val (.int p6), .val (.int (p1 &&& (255 : Int32))), .val (.int (p2 &&& (255 : Int32))), .val (.int (p3 &&& (255 : Int32))), .val (.int (own_pick p4 p4 (p1 &&& (255 : Int32)))), .val (.int (own_pick p5 p5 (p2 &&& (255 : Int32)))), .val (.int (own_pick p6 p6 (p3 &&& (255 : Int32)))), .unset, .unset, .unset, .unset] [(.ref b10), (.ref b10)])) _
    refine XS.iload X10.here hx rfl (hb hby at_56) rfl ?_
    show Steps p.tables e below (T10.setTop (mkF m 58 #[.val (.int p1), .val (.int p2), .val (.int p3), .val (.int p4), .val (.int p5), .val (.int p6), .val (.int (p1 &&& (255 : Int32))), .val (.int (p2 &&& (255 : Int32))), .val (.int (p3 &&& (255 : Int32))), .val (.int (own_pick p4 p4 (p1 &&& (255 : Int32)))), .val (.int (own_pick p5 p5 (p2 &&& (255 : Int32)))), .val (.int (own_pick p6 p6 (p3 &&& (255 : Int32)))), .unset, .unset, .unset, .unset] [(.int (p1 &&& (255 : Int32))), (.ref b10), (.ref b10)])) _
    refine XS.iload X10.here hx rfl (hb hby at_58) rfl ?_
    show Steps p.tables e below (T10.setTop (mkF m 60 #[.val (.int p1), .val (.int p2), .val (.int p3), .val (.int p4), .val (.int p5), .val (.int p6), .val (.int (p1 &&& (255 : Int32))), .val (.int (p2 &&& (255 : Int32))), .val (.int (p3 &&& (255 : Int32))), .val (.int (own_pick p4 p4 (p1 &&& (255 : Int32)))), .val (.int (own_pick p5 p5 (p2 &&& (255 : Int32)))), .val (.int (own_pick p6 p6 (p3 &&& (255 : Int32)))), .unset, .unset, .unset, .unset] [(.int (p2 &&& (255 : Int32))), (.int (p1 &&& (255 : Int32))), (.ref b10), (.ref b10)])) _
    refine XS.iload X10.here hx rfl (hb hby at_60) rfl ?_
    show Steps p.tables e below (T10.setTop (mkF m 62 #[.val (.int p1), .val (.int p2), .val (.int p3), .val (.int p4), .val (.int p5), .val (.int p6), .val (.int (p1 &&& (255 : Int32))), .val (.int (p2 &&& (255 : Int32))), .val (.int (p3 &&& (255 : Int32))), .val (.int (own_pick p4 p4 (p1 &&& (255 : Int32)))), .val (.int (own_pick p5 p5 (p2 &&& (255 : Int32)))), .val (.int (own_pick p6 p6 (p3 &&& (255 : Int32)))), .unset, .unset, .unset, .unset] [(.int (p3 &&& (255 : Int32))), (.int (p2 &&& (255 : Int32))), (.int (p1 &&& (255 : Int32))), (.ref b10), (.ref b10)])) _
    refine st11.trans ?_
    show Steps p.tables e below (T11.setTop (mkF m 65 #[.val (.int p1), .val (.int p2), .val (.int p3), .val (.int p4), .val (.int p5), .val (.int p6), .val (.int (p1 &&& (255 : Int32))), .val (.int (p2 &&& (255 : Int32))), .val (.int (p3 &&& (255 : Int32))), .val (.int (own_pick p4 p4 (p1 &&& (255 : Int32)))), .val (.int (own_pick p5 p5 (p2 &&& (255 : Int32)))), .val (.int (own_pick p6 p6 (p3 &&& (255 : Int32)))), .unset, .unset, .unset, .unset] [(.ref b10)])) _
    refine XS.astore X11.here hx rfl (hb hby at_65) rfl rfl (l' := #[.val (.int p1), .val (.int p2), .val (.int p3), .val (.int p4), .val (.int p5), .val (.int p6), .val (.int (p1 &&& (255 : Int32))), .val (.int (p2 &&& (255 : Int32))), .val (.int (p3 &&& (255 : Int32))), .val (.int (own_pick p4 p4 (p1 &&& (255 : Int32)))), .val (.int (own_pick p5 p5 (p2 &&& (255 : Int32)))), .val (.int (own_pick p6 p6 (p3 &&& (255 : Int32)))), .val (.ref b10), .unset, .unset, .unset]) rfl ?_
    show Steps p.tables e below (T11.setTop (mkF m 67 #[.val (.int p1), .val (.int p2), .val (.int p3), .val (.int p4), .val (.int p5), .val (.int p6), .val (.int (p1 &&& (255 : Int32))), .val (.int (p2 &&& (255 : Int32))), .val (.int (p3 &&& (255 : Int32))), .val (.int (own_pick p4 p4 (p1 &&& (255 : Int32)))), .val (.int (own_pick p5 p5 (p2 &&& (255 : Int32)))), .val (.int (own_pick p6 p6 (p3 &&& (255 : Int32)))), .val (.ref b10), .unset, .unset, .unset] [])) _
    refine st12 _ ?_
    show Steps p.tables e below (T12.setTop (mkF m 70 #[.val (.int p1), .val (.int p2), .val (.int p3), .val (.int p4), .val (.int p5), .val (.int p6), .val (.int (p1 &&& (255 : Int32))), .val (.int (p2 &&& (255 : Int32))), .val (.int (p3 &&& (255 : Int32))), .val (.int (own_pick p4 p4 (p1 &&& (255 : Int32)))), .val (.int (own_pick p5 p5 (p2 &&& (255 : Int32)))), .val (.int (own_pick p6 p6 (p3 &&& (255 : Int32)))), .val (.ref b10), .unset, .unset, .unset] [(.ref b12)])) _
    refine XS.dup X12.here hx rfl (hb hby at_70) rfl rfl ?_
    show Steps p.tables e below (T12.setTop (mkF m 71 #[.val (.int p1), .val (.int p2), .val (.int p3), .val (.int p4), .val (.int p5), .val (.int p6), .val (.int (p1 &&& (255 : Int32))), .val (.int (p2 &&& (255 : Int32))), .val (.int (p3 &&& (255 : Int32))), .val (.int (own_pick p4 p4 (p1 &&& (255 : Int32)))), .val (.int (own_pick p5 p5 (p2 &&& (255 : Int32)))), .val (.int (own_pick p6 p6 (p3 &&& (255 : Int32)))), .val (.ref b10), .unset, .unset, .unset] [(.ref b12), (.ref b12)])) _
    refine XS.iload X12.here hx rfl (hb hby at_71) rfl ?_
    show Steps p.tables e below (T12.setTop (mkF m 73 #[.val (.int p1), .val (.int p2), .val (.int p3), .val (.int p4), .val (.int p5), .val (.int p6), .val (.int (p1 &&& (255 : Int32))), .val (.int (p2 &&& (255 : Int32))), .val (.int (p3 &&& (255 : Int32))), .val (.int (own_pick p4 p4 (p1 &&& (255 : Int32)))), .val (.int (own_pick p5 p5 (p2 &&& (255 : Int32)))), .val (.int (own_pick p6 p6 (p3 &&& (255 : Int32)))), .val (.ref b10), .unset, .unset, .unset] [(.int (own_pick p4 p4 (p1 &&& (255 : Int32)))), (.ref b12), (.ref b12)])) _
    refine XS.iload X12.here hx rfl (hb hby at_73) rfl ?_
    show Steps p.tables e below (T12.setTop (mkF m 75 #[.val (.int p1), .val (.int p2), .val (.int p3), .val (.int p4), .val (.int p5), .val (.int p6), .val (.int (p1 &&& (255 : Int32))), .val (.int (p2 &&& (255 : Int32))), .val (.int (p3 &&& (255 : Int32))), .val (.int (own_pick p4 p4 (p1 &&& (255 : Int32)))), .val (.int (own_pick p5 p5 (p2 &&& (255 : Int32)))), .val (.int (own_pick p6 p6 (p3 &&& (255 : Int32)))), .val (.ref b10), .unset, .unset, .unset] [(.int (own_pick p5 p5 (p2 &&& (255 : Int32)))), (.int (own_pick p4 p4 (p1 &&& (255 : Int32)))), (.ref b12), (.ref b12)])) _
    refine XS.iload X12.here hx rfl (hb hby at_75) rfl ?_
    show Steps p.tables e below (T12.setTop (mkF m 77 #[.val (.int p1), .val (.int p2), .val (.int p3), .val (.int p4), .val (.int p5), .val (.int p6), .val (.int (p1 &&& (255 : Int32))), .val (.int (p2 &&& (255 : Int32))), .val (.int (p3 &&& (255 : Int32))), .val (.int (own_pick p4 p4 (p1 &&& (255 : Int32)))), .val (.int (own_pick p5 p5 (p2 &&& (255 : Int32)))), .val (.int (own_pick p6 p6 (p3 &&& (255 : Int32)))), .val (.ref b10), .unset, .unset, .unset] [(.int (own_pick p6 p6 (p3 &&& (255 : Int32)))), (.int (own_pick p5 p5 (p2 &&& (255 : Int32)))), (.int (own_pick p4 p4 (p1 &&& (255 : Int32)))), (.ref b12), (.ref b12)])) _
    refine st13.trans ?_
    show Steps p.tables e below (T13.setTop (mkF m 80 #[.val (.int p1), .val (.int p2), .val (.int p3), .val (.int p4), .val (.int p5), .val (.int p6), .val (.int (p1 &&& (255 : Int32))), .val (.int (p2 &&& (255 : Int32))), .val (.int (p3 &&& (255 : Int32))), .val (.int (own_pick p4 p4 (p1 &&& (255 : Int32)))), .val (.int (own_pick p5 p5 (p2 &&& (255 : Int32)))), .val (.int (own_pick p6 p6 (p3 &&& (255 : Int32)))), .val (.ref b10), .unset, .unset, .unset] [(.ref b12)])) _
    refine XS.astore X13.here hx rfl (hb hby at_80) rfl rfl (l' := #[.val (.int p1), .val (.int p2), .val (.int p3), .val (.int p4), .val (.int p5), .val (.int p6), .val (.int (p1 &&& (255 : Int32))), .val (.int (p2 &&& (255 : Int32))), .val (.int (p3 &&& (255 : Int32))), .val (.int (own_pick p4 p4 (p1 &&& (255 : Int32)))), .val (.int (own_pick p5 p5 (p2 &&& (255 : Int32)))), .val (.int (own_pick p6 p6 (p3 &&& (255 : Int32)))), .val (.ref b10), .val (.ref b12), .unset, .unset]) rfl ?_
    show Steps p.tables e below (T13.setTop (mkF m 82 #[.val (.int p1), .val (.int p2), .val (.int p3), .val (.int p4), .val (.int p5), .val (.int p6), .val (.int (p1 &&& (255 : Int32))), .val (.int (p2 &&& (255 : Int32))), .val (.int (p3 &&& (255 : Int32))), .val (.int (own_pick p4 p4 (p1 &&& (255 : Int32)))), .val (.int (own_pick p5 p5 (p2 &&& (255 : Int32)))), .val (.int (own_pick p6 p6 (p3 &&& (255 : Int32)))), .val (.ref b10), .val (.ref b12), .unset, .unset] [])) _
    refine XS.iload X13.here hx rfl (hb hby at_82) rfl ?_
    show Steps p.tables e below (T13.setTop (mkF m 84 #[.val (.int p1), .val (.int p2), .val (.int p3), .val (.int p4), .val (.int p5), .val (.int p6), .val (.int (p1 &&& (255 : Int32))), .val (.int (p2 &&& (255 : Int32))), .val (.int (p3 &&& (255 : Int32))), .val (.int (own_pick p4 p4 (p1 &&& (255 : Int32)))), .val (.int (own_pick p5 p5 (p2 &&& (255 : Int32)))), .val (.int (own_pick p6 p6 (p3 &&& (255 : Int32)))), .val (.ref b10), .val (.ref b12), .unset, .unset] [(.int (p1 &&& (255 : Int32)))])) _
    refine XS.iload X13.here hx rfl (hb hby at_84) rfl ?_
    show Steps p.tables e below (T13.setTop (mkF m 86 #[.val (.int p1), .val (.int p2), .val (.int p3), .val (.int p4), .val (.int p5), .val (.int p6), .val (.int (p1 &&& (255 : Int32))), .val (.int (p2 &&& (255 : Int32))), .val (.int (p3 &&& (255 : Int32))), .val (.int (own_pick p4 p4 (p1 &&& (255 : Int32)))), .val (.int (own_pick p5 p5 (p2 &&& (255 : Int32)))), .val (.int (own_pick p6 p6 (p3 &&& (255 : Int32)))), .val (.ref b10), .val (.ref b12), .unset, .unset] [(.int (own_pick p4 p4 (p1 &&& (255 : Int32)))), (.int (p1 &&& (255 : Int32)))])) _
    refine XS.icmpNo X13.here hx rfl (hb hby at_86) rfl (teq (by first | exact hE0 | exact hE1 | exact hv | exact hv2 | exact own_self _ _ _ | decide : (p1 &&& (255 : Int32)) = (own_pick p4 p4 (p1 &&& (255 : Int32))))).2 ?_
    show Steps p.tables e below (T13.setTop (mkF m 89 #[.val (.int p1), .val (.int p2), .val (.int p3), .val (.int p4), .val (.int p5), .val (.int p6), .val (.int (p1 &&& (255 : Int32))), .val (.int (p2 &&& (255 : Int32))), .val (.int (p3 &&& (255 : Int32))), .val (.int (own_pick p4 p4 (p1 &&& (255 : Int32)))), .val (.int (own_pick p5 p5 (p2 &&& (255 : Int32)))), .val (.int (own_pick p6 p6 (p3 &&& (255 : Int32)))), .val (.ref b10), .val (.ref b12), .unset, .unset] [])) _
    refine XS.iload X13.here hx rfl (hb hby at_89) rfl ?_
    show Steps p.tables e below (T13.setTop (mkF m 91 #[.val (.int p1), .val (.int p2), .val (.int p3), .val (.int p4), .val (.int p5), .val (.int p6), .val (.int (p1 &&& (255 : Int32))), .val (.int (p2 &&& (255 : Int32))), .val (.int (p3 &&& (255 : Int32))), .val (.int (own_pick p4 p4 (p1 &&& (255 : Int32)))), .val (.int (own_pick p5 p5 (p2 &&& (255 : Int32)))), .val (.int (own_pick p6 p6 (p3 &&& (255 : Int32)))), .val (.ref b10), .val (.ref b12), .unset, .unset] [(.int (p2 &&& (255 : Int32)))])) _
    refine XS.iload X13.here hx rfl (hb hby at_91) rfl ?_
    show Steps p.tables e below (T13.setTop (mkF m 93 #[.val (.int p1), .val (.int p2), .val (.int p3), .val (.int p4), .val (.int p5), .val (.int p6), .val (.int (p1 &&& (255 : Int32))), .val (.int (p2 &&& (255 : Int32))), .val (.int (p3 &&& (255 : Int32))), .val (.int (own_pick p4 p4 (p1 &&& (255 : Int32)))), .val (.int (own_pick p5 p5 (p2 &&& (255 : Int32)))), .val (.int (own_pick p6 p6 (p3 &&& (255 : Int32)))), .val (.ref b10), .val (.ref b12), .unset, .unset] [(.int (own_pick p5 p5 (p2 &&& (255 : Int32)))), (.int (p2 &&& (255 : Int32)))])) _
    refine XS.icmpYes X13.here hx rfl (pc0 := 93) (pc' := 107) rfl (hb hby at_93) rfl (feq (by first | exact hE0 | exact hE1 | exact hv | exact hv2 | exact own_self _ _ _ | decide : ¬ ((p2 &&& (255 : Int32)) = (own_pick p5 p5 (p2 &&& (255 : Int32)))))).2 (by decide) (by decide) ?_
    show Steps p.tables e below (T13.setTop (mkF m 107 #[.val (.int p1), .val (.int p2), .val (.int p3), .val (.int p4), .val (.int p5), .val (.int p6), .val (.int (p1 &&& (255 : Int32))), .val (.int (p2 &&& (255 : Int32))), .val (.int (p3 &&& (255 : Int32))), .val (.int (own_pick p4 p4 (p1 &&& (255 : Int32)))), .val (.int (own_pick p5 p5 (p2 &&& (255 : Int32)))), .val (.int (own_pick p6 p6 (p3 &&& (255 : Int32)))), .val (.ref b10), .val (.ref b12), .unset, .unset] [])) _
    refine XS.iconst X13.here hx rfl (hb hby at_107) ?_
    show Steps p.tables e below (T13.setTop (mkF m 108 #[.val (.int p1), .val (.int p2), .val (.int p3), .val (.int p4), .val (.int p5), .val (.int p6), .val (.int (p1 &&& (255 : Int32))), .val (.int (p2 &&& (255 : Int32))), .val (.int (p3 &&& (255 : Int32))), .val (.int (own_pick p4 p4 (p1 &&& (255 : Int32)))), .val (.int (own_pick p5 p5 (p2 &&& (255 : Int32)))), .val (.int (own_pick p6 p6 (p3 &&& (255 : Int32)))), .val (.ref b10), .val (.ref b12), .unset, .unset] [(.int (0 : Int32))])) _
    refine XS.istore X13.here hx rfl (hb hby at_108) rfl (l' := #[.val (.int p1), .val (.int p2), .val (.int p3), .val (.int p4), .val (.int p5), .val (.int p6), .val (.int (p1 &&& (255 : Int32))), .val (.int (p2 &&& (255 : Int32))), .val (.int (p3 &&& (255 : Int32))), .val (.int (own_pick p4 p4 (p1 &&& (255 : Int32)))), .val (.int (own_pick p5 p5 (p2 &&& (255 : Int32)))), .val (.int (own_pick p6 p6 (p3 &&& (255 : Int32)))), .val (.ref b10), .val (.ref b12), .val (.int (0 : Int32)), .unset]) rfl ?_
    show Steps p.tables e below (T13.setTop (mkF m 110 #[.val (.int p1), .val (.int p2), .val (.int p3), .val (.int p4), .val (.int p5), .val (.int p6), .val (.int (p1 &&& (255 : Int32))), .val (.int (p2 &&& (255 : Int32))), .val (.int (p3 &&& (255 : Int32))), .val (.int (own_pick p4 p4 (p1 &&& (255 : Int32)))), .val (.int (own_pick p5 p5 (p2 &&& (255 : Int32)))), .val (.int (own_pick p6 p6 (p3 &&& (255 : Int32)))), .val (.ref b10), .val (.ref b12), .val (.int (0 : Int32)), .unset] [])) _
    refine XS.iloadN X13.here hx rfl (hb hby at_110) rfl ?_
    show Steps p.tables e below (T13.setTop (mkF m 111 #[.val (.int p1), .val (.int p2), .val (.int p3), .val (.int p4), .val (.int p5), .val (.int p6), .val (.int (p1 &&& (255 : Int32))), .val (.int (p2 &&& (255 : Int32))), .val (.int (p3 &&& (255 : Int32))), .val (.int (own_pick p4 p4 (p1 &&& (255 : Int32)))), .val (.int (own_pick p5 p5 (p2 &&& (255 : Int32)))), .val (.int (own_pick p6 p6 (p3 &&& (255 : Int32)))), .val (.ref b10), .val (.ref b12), .val (.int (0 : Int32)), .unset] [(.int p3)])) _
    refine st14 _ ?_
    show Steps p.tables e below (T14.setTop (mkF m 114 #[.val (.int p1), .val (.int p2), .val (.int p3), .val (.int p4), .val (.int p5), .val (.int p6), .val (.int (p1 &&& (255 : Int32))), .val (.int (p2 &&& (255 : Int32))), .val (.int (p3 &&& (255 : Int32))), .val (.int (own_pick p4 p4 (p1 &&& (255 : Int32)))), .val (.int (own_pick p5 p5 (p2 &&& (255 : Int32)))), .val (.int (own_pick p6 p6 (p3 &&& (255 : Int32)))), .val (.ref b10), .val (.ref b12), .val (.int (0 : Int32)), .unset] [(.ref a14)])) _
    refine XS.astore X14.here hx rfl (hb hby at_114) rfl rfl (l' := #[.val (.int p1), .val (.int p2), .val (.int p3), .val (.int p4), .val (.int p5), .val (.int p6), .val (.int (p1 &&& (255 : Int32))), .val (.int (p2 &&& (255 : Int32))), .val (.int (p3 &&& (255 : Int32))), .val (.int (own_pick p4 p4 (p1 &&& (255 : Int32)))), .val (.int (own_pick p5 p5 (p2 &&& (255 : Int32)))), .val (.int (own_pick p6 p6 (p3 &&& (255 : Int32)))), .val (.ref b10), .val (.ref b12), .val (.int (0 : Int32)), .val (.ref a14)]) rfl ?_
    show Steps p.tables e below (T14.setTop (mkF m 116 #[.val (.int p1), .val (.int p2), .val (.int p3), .val (.int p4), .val (.int p5), .val (.int p6), .val (.int (p1 &&& (255 : Int32))), .val (.int (p2 &&& (255 : Int32))), .val (.int (p3 &&& (255 : Int32))), .val (.int (own_pick p4 p4 (p1 &&& (255 : Int32)))), .val (.int (own_pick p5 p5 (p2 &&& (255 : Int32)))), .val (.int (own_pick p6 p6 (p3 &&& (255 : Int32)))), .val (.ref b10), .val (.ref b12), .val (.int (0 : Int32)), .val (.ref a14)] [])) _
    refine XS.aload X14.here hx rfl (hb hby at_116) rfl rfl ?_
    show Steps p.tables e below (T14.setTop (mkF m 118 #[.val (.int p1), .val (.int p2), .val (.int p3), .val (.int p4), .val (.int p5), .val (.int p6), .val (.int (p1 &&& (255 : Int32))), .val (.int (p2 &&& (255 : Int32))), .val (.int (p3 &&& (255 : Int32))), .val (.int (own_pick p4 p4 (p1 &&& (255 : Int32)))), .val (.int (own_pick p5 p5 (p2 &&& (255 : Int32)))), .val (.int (own_pick p6 p6 (p3 &&& (255 : Int32)))), .val (.ref b10), .val (.ref b12), .val (.int (0 : Int32)), .val (.ref a14)] [(.ref b10)])) _
    refine XS.aload X14.here hx rfl (hb hby at_118) rfl rfl ?_
    show Steps p.tables e below (T14.setTop (mkF m 120 #[.val (.int p1), .val (.int p2), .val (.int p3), .val (.int p4), .val (.int p5), .val (.int p6), .val (.int (p1 &&& (255 : Int32))), .val (.int (p2 &&& (255 : Int32))), .val (.int (p3 &&& (255 : Int32))), .val (.int (own_pick p4 p4 (p1 &&& (255 : Int32)))), .val (.int (own_pick p5 p5 (p2 &&& (255 : Int32)))), .val (.int (own_pick p6 p6 (p3 &&& (255 : Int32)))), .val (.ref b10), .val (.ref b12), .val (.int (0 : Int32)), .val (.ref a14)] [(.ref b12), (.ref b10)])) _
    refine st15.trans ?_
    show Steps p.tables e below (T15.setTop (mkF m 123 #[.val (.int p1), .val (.int p2), .val (.int p3), .val (.int p4), .val (.int p5), .val (.int p6), .val (.int (p1 &&& (255 : Int32))), .val (.int (p2 &&& (255 : Int32))), .val (.int (p3 &&& (255 : Int32))), .val (.int (own_pick p4 p4 (p1 &&& (255 : Int32)))), .val (.int (own_pick p5 p5 (p2 &&& (255 : Int32)))), .val (.int (own_pick p6 p6 (p3 &&& (255 : Int32)))), .val (.ref b10), .val (.ref b12), .val (.int (0 : Int32)), .val (.ref a14)] [(.int (own_eq3 (p1 &&& (255 : Int32)) (p2 &&& (255 : Int32)) (p3 &&& (255 : Int32)) (own_pick p4 p4 (p1 &&& (255 : Int32))) (own_pick p5 p5 (p2 &&& (255 : Int32))) (own_pick p6 p6 (p3 &&& (255 : Int32)))))])) _
    refine XS.iload X15.here hx rfl (hb hby at_123) rfl ?_
    show Steps p.tables e below (T15.setTop (mkF m 125 #[.val (.int p1), .val (.int p2), .val (.int p3), .val (.int p4), .val (.int p5), .val (.int p6), .val (.int (p1 &&& (255 : Int32))), .val (.int (p2 &&& (255 : Int32))), .val (.int (p3 &&& (255 : Int32))), .val (.int (own_pick p4 p4 (p1 &&& (255 : Int32)))), .val (.int (own_pick p5 p5 (p2 &&& (255 : Int32)))), .val (.int (own_pick p6 p6 (p3 &&& (255 : Int32)))), .val (.ref b10), .val (.ref b12), .val (.int (0 : Int32)), .val (.ref a14)] [(.int (0 : Int32)), (.int (own_eq3 (p1 &&& (255 : Int32)) (p2 &&& (255 : Int32)) (p3 &&& (255 : Int32)) (own_pick p4 p4 (p1 &&& (255 : Int32))) (own_pick p5 p5 (p2 &&& (255 : Int32))) (own_pick p6 p6 (p3 &&& (255 : Int32)))))])) _
    refine XS.icmpNo X15.here hx rfl (hb hby at_125) rfl (teq (by first | exact hE0 | exact hE1 | exact hv | exact hv2 | exact own_self _ _ _ | decide : (own_eq3 (p1 &&& (255 : Int32)) (p2 &&& (255 : Int32)) (p3 &&& (255 : Int32)) (own_pick p4 p4 (p1 &&& (255 : Int32))) (own_pick p5 p5 (p2 &&& (255 : Int32))) (own_pick p6 p6 (p3 &&& (255 : Int32)))) = (0 : Int32))).2 ?_
    show Steps p.tables e below (T15.setTop (mkF m 128 #[.val (.int p1), .val (.int p2), .val (.int p3), .val (.int p4), .val (.int p5), .val (.int p6), .val (.int (p1 &&& (255 : Int32))), .val (.int (p2 &&& (255 : Int32))), .val (.int (p3 &&& (255 : Int32))), .val (.int (own_pick p4 p4 (p1 &&& (255 : Int32)))), .val (.int (own_pick p5 p5 (p2 &&& (255 : Int32)))), .val (.int (own_pick p6 p6 (p3 &&& (255 : Int32)))), .val (.ref b10), .val (.ref b12), .val (.int (0 : Int32)), .val (.ref a14)] [])) _
    refine XS.aload X15.here hx rfl (hb hby at_128) rfl rfl ?_
    show Steps p.tables e below (T15.setTop (mkF m 130 #[.val (.int p1), .val (.int p2), .val (.int p3), .val (.int p4), .val (.int p5), .val (.int p6), .val (.int (p1 &&& (255 : Int32))), .val (.int (p2 &&& (255 : Int32))), .val (.int (p3 &&& (255 : Int32))), .val (.int (own_pick p4 p4 (p1 &&& (255 : Int32)))), .val (.int (own_pick p5 p5 (p2 &&& (255 : Int32)))), .val (.int (own_pick p6 p6 (p3 &&& (255 : Int32)))), .val (.ref b10), .val (.ref b12), .val (.int (0 : Int32)), .val (.ref a14)] [(.ref b12)])) _
    refine XS.aload X15.here hx rfl (hb hby at_130) rfl rfl ?_
    show Steps p.tables e below (T15.setTop (mkF m 132 #[.val (.int p1), .val (.int p2), .val (.int p3), .val (.int p4), .val (.int p5), .val (.int p6), .val (.int (p1 &&& (255 : Int32))), .val (.int (p2 &&& (255 : Int32))), .val (.int (p3 &&& (255 : Int32))), .val (.int (own_pick p4 p4 (p1 &&& (255 : Int32)))), .val (.int (own_pick p5 p5 (p2 &&& (255 : Int32)))), .val (.int (own_pick p6 p6 (p3 &&& (255 : Int32)))), .val (.ref b10), .val (.ref b12), .val (.int (0 : Int32)), .val (.ref a14)] [(.ref b10), (.ref b12)])) _
    refine st16.trans ?_
    show Steps p.tables e below (T16.setTop (mkF m 135 #[.val (.int p1), .val (.int p2), .val (.int p3), .val (.int p4), .val (.int p5), .val (.int p6), .val (.int (p1 &&& (255 : Int32))), .val (.int (p2 &&& (255 : Int32))), .val (.int (p3 &&& (255 : Int32))), .val (.int (own_pick p4 p4 (p1 &&& (255 : Int32)))), .val (.int (own_pick p5 p5 (p2 &&& (255 : Int32)))), .val (.int (own_pick p6 p6 (p3 &&& (255 : Int32)))), .val (.ref b10), .val (.ref b12), .val (.int (0 : Int32)), .val (.ref a14)] [(.int (own_eq3 (own_pick p4 p4 (p1 &&& (255 : Int32))) (own_pick p5 p5 (p2 &&& (255 : Int32))) (own_pick p6 p6 (p3 &&& (255 : Int32))) (p1 &&& (255 : Int32)) (p2 &&& (255 : Int32)) (p3 &&& (255 : Int32))))])) _
    refine XS.iload X16.here hx rfl (hb hby at_135) rfl ?_
    show Steps p.tables e below (T16.setTop (mkF m 137 #[.val (.int p1), .val (.int p2), .val (.int p3), .val (.int p4), .val (.int p5), .val (.int p6), .val (.int (p1 &&& (255 : Int32))), .val (.int (p2 &&& (255 : Int32))), .val (.int (p3 &&& (255 : Int32))), .val (.int (own_pick p4 p4 (p1 &&& (255 : Int32)))), .val (.int (own_pick p5 p5 (p2 &&& (255 : Int32)))), .val (.int (own_pick p6 p6 (p3 &&& (255 : Int32)))), .val (.ref b10), .val (.ref b12), .val (.int (0 : Int32)), .val (.ref a14)] [(.int (0 : Int32)), (.int (own_eq3 (own_pick p4 p4 (p1 &&& (255 : Int32))) (own_pick p5 p5 (p2 &&& (255 : Int32))) (own_pick p6 p6 (p3 &&& (255 : Int32))) (p1 &&& (255 : Int32)) (p2 &&& (255 : Int32)) (p3 &&& (255 : Int32))))])) _
    refine XS.icmpNo X16.here hx rfl (hb hby at_137) rfl (teq (by first | exact hE0 | exact hE1 | exact hv | exact hv2 | exact own_self _ _ _ | decide : (own_eq3 (own_pick p4 p4 (p1 &&& (255 : Int32))) (own_pick p5 p5 (p2 &&& (255 : Int32))) (own_pick p6 p6 (p3 &&& (255 : Int32))) (p1 &&& (255 : Int32)) (p2 &&& (255 : Int32)) (p3 &&& (255 : Int32))) = (0 : Int32))).2 ?_
    show Steps p.tables e below (T16.setTop (mkF m 140 #[.val (.int p1), .val (.int p2), .val (.int p3), .val (.int p4), .val (.int p5), .val (.int p6), .val (.int (p1 &&& (255 : Int32))), .val (.int (p2 &&& (255 : Int32))), .val (.int (p3 &&& (255 : Int32))), .val (.int (own_pick p4 p4 (p1 &&& (255 : Int32)))), .val (.int (own_pick p5 p5 (p2 &&& (255 : Int32)))), .val (.int (own_pick p6 p6 (p3 &&& (255 : Int32)))), .val (.ref b10), .val (.ref b12), .val (.int (0 : Int32)), .val (.ref a14)] [])) _
    refine XS.aload X16.here hx rfl (hb hby at_140) rfl rfl ?_
    show Steps p.tables e below (T16.setTop (mkF m 142 #[.val (.int p1), .val (.int p2), .val (.int p3), .val (.int p4), .val (.int p5), .val (.int p6), .val (.int (p1 &&& (255 : Int32))), .val (.int (p2 &&& (255 : Int32))), .val (.int (p3 &&& (255 : Int32))), .val (.int (own_pick p4 p4 (p1 &&& (255 : Int32)))), .val (.int (own_pick p5 p5 (p2 &&& (255 : Int32)))), .val (.int (own_pick p6 p6 (p3 &&& (255 : Int32)))), .val (.ref b10), .val (.ref b12), .val (.int (0 : Int32)), .val (.ref a14)] [(.ref b10)])) _
    refine XS.aload X16.here hx rfl (hb hby at_142) rfl rfl ?_
    show Steps p.tables e below (T16.setTop (mkF m 144 #[.val (.int p1), .val (.int p2), .val (.int p3), .val (.int p4), .val (.int p5), .val (.int p6), .val (.int (p1 &&& (255 : Int32))), .val (.int (p2 &&& (255 : Int32))), .val (.int (p3 &&& (255 : Int32))), .val (.int (own_pick p4 p4 (p1 &&& (255 : Int32)))), .val (.int (own_pick p5 p5 (p2 &&& (255 : Int32)))), .val (.int (own_pick p6 p6 (p3 &&& (255 : Int32)))), .val (.ref b10), .val (.ref b12), .val (.int (0 : Int32)), .val (.ref a14)] [(.ref b10), (.ref b10)])) _
    refine st17.trans ?_
    show Steps p.tables e below (T17.setTop (mkF m 147 #[.val (.int p1), .val (.int p2), .val (.int p3), .val (.int p4), .val (.int p5), .val (.int p6), .val (.int (p1 &&& (255 : Int32))), .val (.int (p2 &&& (255 : Int32))), .val (.int (p3 &&& (255 : Int32))), .val (.int (own_pick p4 p4 (p1 &&& (255 : Int32)))), .val (.int (own_pick p5 p5 (p2 &&& (255 : Int32)))), .val (.int (own_pick p6 p6 (p3 &&& (255 : Int32)))), .val (.ref b10), .val (.ref b12), .val (.int (0 : Int32)), .val (.ref a14)] [(.int (own_eq3 (p1 &&& (255 : Int32)) (p2 &&& (255 : Int32)) (p3 &&& (255 : Int32)) (p1 &&& (255 : Int32)) (p2 &&& (255 : Int32)) (p3 &&& (255 : Int32))))])) _
    refine XS.ifNo X17.here hx rfl (hb hby at_147) rfl ((if0 _ _).trans (feq (by first | exact hE0 | exact hE1 | exact hv | exact hv2 | exact own_self _ _ _ | decide : ¬ ((own_eq3 (p1 &&& (255 : Int32)) (p2 &&& (255 : Int32)) (p3 &&& (255 : Int32)) (p1 &&& (255 : Int32)) (p2 &&& (255 : Int32)) (p3 &&& (255 : Int32))) = (0 : Int32)))).1) ?_
    show Steps p.tables e below (T17.setTop (mkF m 150 #[.val (.int p1), .val (.int p2), .val (.int p3), .val (.int p4), .val (.int p5), .val (.int p6), .val (.int (p1 &&& (255 : Int32))), .val (.int (p2 &&& (255 : Int32))), .val (.int (p3 &&& (255 : Int32))), .val (.int (own_pick p4 p4 (p1 &&& (255 : Int32)))), .val (.int (own_pick p5 p5 (p2 &&& (255 : Int32)))), .val (.int (own_pick p6 p6 (p3 &&& (255 : Int32)))), .val (.ref b10), .val (.ref b12), .val (.int (0 : Int32)), .val (.ref a14)] [])) _
    refine XS.aload X17.here hx rfl (hb hby at_150) rfl rfl ?_
    show Steps p.tables e below (T17.setTop (mkF m 152 #[.val (.int p1), .val (.int p2), .val (.int p3), .val (.int p4), .val (.int p5), .val (.int p6), .val (.int (p1 &&& (255 : Int32))), .val (.int (p2 &&& (255 : Int32))), .val (.int (p3 &&& (255 : Int32))), .val (.int (own_pick p4 p4 (p1 &&& (255 : Int32)))), .val (.int (own_pick p5 p5 (p2 &&& (255 : Int32)))), .val (.int (own_pick p6 p6 (p3 &&& (255 : Int32)))), .val (.ref b10), .val (.ref b12), .val (.int (0 : Int32)), .val (.ref a14)] [(.ref b10)])) _
    refine XS.aconstNull X17.here hx rfl (hb hby at_152) ?_
    show Steps p.tables e below (T17.setTop (mkF m 153 #[.val (.int p1), .val (.int p2), .val (.int p3), .val (.int p4), .val (.int p5), .val (.int p6), .val (.int (p1 &&& (255 : Int32))), .val (.int (p2 &&& (255 : Int32))), .val (.int (p3 &&& (255 : Int32))), .val (.int (own_pick p4 p4 (p1 &&& (255 : Int32)))), .val (.int (own_pick p5 p5 (p2 &&& (255 : Int32)))), .val (.int (own_pick p6 p6 (p3 &&& (255 : Int32)))), .val (.ref b10), .val (.ref b12), .val (.int (0 : Int32)), .val (.ref a14)] [.null, (.ref b10)])) _
    refine st18.trans ?_
    show Steps p.tables e below (T18.setTop (mkF m 156 #[.val (.int p1), .val (.int p2), .val (.int p3), .val (.int p4), .val (.int p5), .val (.int p6), .val (.int (p1 &&& (255 : Int32))), .val (.int (p2 &&& (255 : Int32))), .val (.int (p3 &&& (255 : Int32))), .val (.int (own_pick p4 p4 (p1 &&& (255 : Int32)))), .val (.int (own_pick p5 p5 (p2 &&& (255 : Int32)))), .val (.int (own_pick p6 p6 (p3 &&& (255 : Int32)))), .val (.ref b10), .val (.ref b12), .val (.int (0 : Int32)), .val (.ref a14)] [(.int (0 : Int32))])) _
    refine XS.ifNo X18.here hx rfl (hb hby at_156) rfl ((if0 _ _).trans (teq (by first | exact hE0 | exact hE1 | exact hv | exact hv2 | exact own_self _ _ _ | decide : (0 : Int32) = (0 : Int32))).2) ?_
    show Steps p.tables e below (T18.setTop (mkF m 159 #[.val (.int p1), .val (.int p2), .val (.int p3), .val (.int p4), .val (.int p5), .val (.int p6), .val (.int (p1 &&& (255 : Int32))), .val (.int (p2 &&& (255 : Int32))), .val (.int (p3 &&& (255 : Int32))), .val (.int (own_pick p4 p4 (p1 &&& (255 : Int32)))), .val (.int (own_pick p5 p5 (p2 &&& (255 : Int32)))), .val (.int (own_pick p6 p6 (p3 &&& (255 : Int32)))), .val (.ref b10), .val (.ref b12), .val (.int (0 : Int32)), .val (.ref a14)] [])) _
    refine XS.aload X18.here hx rfl (hb hby at_159) rfl rfl ?_
    show Steps p.tables e below (T18.setTop (mkF m 161 #[.val (.int p1), .val (.int p2), .val (.int p3), .val (.int p4), .val (.int p5), .val (.int p6), .val (.int (p1 &&& (255 : Int32))), .val (.int (p2 &&& (255 : Int32))), .val (.int (p3 &&& (255 : Int32))), .val (.int (own_pick p4 p4 (p1 &&& (255 : Int32)))), .val (.int (own_pick p5 p5 (p2 &&& (255 : Int32)))), .val (.int (own_pick p6 p6 (p3 &&& (255 : Int32)))), .val (.ref b10), .val (.ref b12), .val (.int (0 : Int32)), .val (.ref a14)] [(.ref b10)])) _
    refine XS.aload X18.here hx rfl (hb hby at_161) rfl rfl ?_
    show Steps p.tables e below (T18.setTop (mkF m 163 #[.val (.int p1), .val (.int p2), .val (.int p3), .val (.int p4), .val (.int p5), .val (.int p6), .val (.int (p1 &&& (255 : Int32))), .val (.int (p2 &&& (255 : Int32))), .val (.int (p3 &&& (255 : Int32))), .val (.int (own_pick p4 p4 (p1 &&& (255 : Int32)))), .val (.int (own_pick p5 p5 (p2 &&& (255 : Int32)))), .val (.int (own_pick p6 p6 (p3 &&& (255 : Int32)))), .val (.ref b10), .val (.ref b12), .val (.int (0 : Int32)), .val (.ref a14)] [(.ref a14), (.ref b10)])) _
    refine st19.trans ?_
    show Steps p.tables e below (T19.setTop (mkF m 166 #[.val (.int p1), .val (.int p2), .val (.int p3), .val (.int p4), .val (.int p5), .val (.int p6), .val (.int (p1 &&& (255 : Int32))), .val (.int (p2 &&& (255 : Int32))), .val (.int (p3 &&& (255 : Int32))), .val (.int (own_pick p4 p4 (p1 &&& (255 : Int32)))), .val (.int (own_pick p5 p5 (p2 &&& (255 : Int32)))), .val (.int (own_pick p6 p6 (p3 &&& (255 : Int32)))), .val (.ref b10), .val (.ref b12), .val (.int (0 : Int32)), .val (.ref a14)] [(.int (0 : Int32))])) _
    refine XS.ifNo X19.here hx rfl (hb hby at_166) rfl ((if0 _ _).trans (teq (by first | exact hE0 | exact hE1 | exact hv | exact hv2 | exact own_self _ _ _ | decide : (0 : Int32) = (0 : Int32))).2) ?_
    show Steps p.tables e below (T19.setTop (mkF m 169 #[.val (.int p1), .val (.int p2), .val (.int p3), .val (.int p4), .val (.int p5), .val (.int p6), .val (.int (p1 &&& (255 : Int32))), .val (.int (p2 &&& (255 : Int32))), .val (.int (p3 &&& (255 : Int32))), .val (.int (own_pick p4 p4 (p1 &&& (255 : Int32)))), .val (.int (own_pick p5 p5 (p2 &&& (255 : Int32)))), .val (.int (own_pick p6 p6 (p3 &&& (255 : Int32)))), .val (.ref b10), .val (.ref b12), .val (.int (0 : Int32)), .val (.ref a14)] [])) _
    refine XS.iconst X19.here hx rfl (hb hby at_169) ?_
    show Steps p.tables e below (T19.setTop (mkF m 170 #[.val (.int p1), .val (.int p2), .val (.int p3), .val (.int p4), .val (.int p5), .val (.int p6), .val (.int (p1 &&& (255 : Int32))), .val (.int (p2 &&& (255 : Int32))), .val (.int (p3 &&& (255 : Int32))), .val (.int (own_pick p4 p4 (p1 &&& (255 : Int32)))), .val (.int (own_pick p5 p5 (p2 &&& (255 : Int32)))), .val (.int (own_pick p6 p6 (p3 &&& (255 : Int32)))), .val (.ref b10), .val (.ref b12), .val (.int (0 : Int32)), .val (.ref a14)] [(.int (1 : Int32))])) _
    refine XS.goto X19.here hx rfl (pc0 := 170) (pc' := 174) rfl (hb hby at_170) (by decide) (by decide) ?_
    show Steps p.tables e below (T19.setTop (mkF m 174 #[.val (.int p1), .val (.int p2), .val (.int p3), .val (.int p4), .val (.int p5), .val (.int p6), .val (.int (p1 &&& (255 : Int32))), .val (.int (p2 &&& (255 : Int32))), .val (.int (p3 &&& (255 : Int32))), .val (.int (own_pick p4 p4 (p1 &&& (255 : Int32)))), .val (.int (own_pick p5 p5 (p2 &&& (255 : Int32)))), .val (.int (own_pick p6 p6 (p3 &&& (255 : Int32)))), .val (.ref b10), .val (.ref b12), .val (.int (0 : Int32)), .val (.ref a14)] [(.int (1 : Int32))])) _
    exact retN X19 hx (t := .boolean) Bd.returns (by simp) (hb hby at_174) hr
  · show Ql (some (.int (1 : Int32))) n0 _ _
    exact ⟨rfl, N19⟩
set_option maxRecDepth 65536 in
set_option maxHeartbeats 40000000 in
theorem rm0_fft (l : Launch) (Z : State) (a0 : Array Value) (hw : ∀ d ∈ tables_1, d.before a0 Z = true) (ws : List Jvm.Cond) (p1 : Int32) (p2 : Int32) (p3 : Int32) (p4 : Int32) (p5 : Int32) (p6 : Int32) (h0 : Heap) (n0 : Nat) (Z0 : n0 ≤ h0.size) (w4 : Addr) (cl : Cell) (SH : Sta Z h0 "java/lang/Integer$IntegerCache" "high" "I" (.int (127 : Int32))) (SC : Sta Z h0 "java/lang/Integer$IntegerCache" "cache" "[Ljava/lang/Integer;" (.ref w4)) (AC : Arr Z h0 w4 cl (.object "java/lang/Integer")) (hsz : cl.slots.size = 256) (BC : ∀ j : Int32, ¬ (j < 0 ∨ cl.slots.size ≤ j.toNatClampNeg) → ∃ b : Addr, cl.slots[j.toNatClampNeg]? = some (.ref b) ∧ Exa Z h0 b "java/lang/Integer") (hE0 : (p1 &&& (255 : Int32)) = (own_pick p4 p4 (p1 &&& (255 : Int32)))) (hE1 : (p2 &&& (255 : Int32)) = (own_pick p5 p5 (p2 &&& (255 : Int32)))) (hE2 : ¬ ((p3 &&& (255 : Int32)) = (own_pick p6 p6 (p3 &&& (255 : Int32))))) (hv : own_eq3 (p1 &&& (255 : Int32)) (p2 &&& (255 : Int32)) (p3 &&& (255 : Int32)) (own_pick p4 p4 (p1 &&& (255 : Int32))) (own_pick p5 p5 (p2 &&& (255 : Int32))) (own_pick p6 p6 (p3 &&& (255 : Int32))) = 0) (hv2 : own_eq3 (own_pick p4 p4 (p1 &&& (255 : Int32))) (own_pick p5 p5 (p2 &&& (255 : Int32))) (own_pick p6 p6 (p3 &&& (255 : Int32))) (p1 &&& (255 : Int32)) (p2 &&& (255 : Int32)) (p3 &&& (255 : Int32)) = 0) :
    MetFree l x (head1 (Jvm.Cond.code x code maxLocals ret :: ws) room_1) (fun a U => a = #[(.int p1), (.int p2), (.int p3), (.int p4), (.int p5), (.int p6)] ∧ Z.Warmed39 U.vm ∧ U.heap = h0) (fun _ _ _ _ _ => True) (fun _ U o U' => ∃ v L, o = .returned v ∧ Ql (some (.int (1 : Int32))) n0 v L ∧ FrameEnd U o U' L room_1.cells room_1.slots) := by
  refine MetFree.of_bodySF (plainFor_of_name pn_0) hisR ?_
  intro p e s m args below meth c s₁ Bd hml0 hP hK
  obtain ⟨rfl, hZ, hh⟩ := hP
  have hx := Bd.exec
  have hby := Bd.bytes
  have hml : c.maxLocals = 16 := hml0
  have hown : s.vm.findClass "com/example/telegrid/telegrid/erp1/EepEqualsPinLaw" = some m.cls := findClass_of_methodNamed Bd.named
  have hnm := (name_of_methodNamed Bd.named Bd.method).1
  have X0 : Stand p l e room_1 s m #[(.int p1), (.int p2), (.int p3), (.int p4), (.int p5), (.int p6)] below meth c s₁ [] 0 0 := Stand.of_body Bd
  have e0 : s₁.heap = h0 := by rw [← hh, Bd.state]; rfl
  have N0 := Fr.nil n0
  have pre0 : ∀ t, Steps p.tables e below (s₁.setTop (mkF m 0 #[.val (.int p1), .val (.int p2), .val (.int p3), .val (.int p4), .val (.int p5), .val (.int p6), .unset, .unset, .unset, .unset, .unset, .unset, .unset, .unset, .unset, .unset] [])) t → Steps p.tables e below (s₁.setTop (entryFrame m #[(.int p1), (.int p2), (.int p3), (.int p4), (.int p5), (.int p6)] maxLocals)) t := fun t k => castTop (ef_0 m p1 p2 p3 p4 p5 p6) k
  -- 3. LAWS
  -- pc 25: com/example/telegrid/telegrid/erp1/EepEqualsPinLaw.pick by its contract rm1
  obtain ⟨_, _, ⟨T7, L7, k7, n7⟩, -, X7, ⟨Lc7, hQ7, l7, y7, z7⟩, st7⟩ := Jvm.LawKit.callS X0 hx (y := (⟨"com/example/telegrid/telegrid/erp1/EepEqualsPinLaw", "pick", "(III)I"⟩ : MethodName)) hown (mvT hZ (hw _ (List.mem_of_getElem? (i := 0) rfl))) (mvT hZ (hw _ (List.mem_of_getElem? (i := 1) rfl))) (mvT hZ (hw _ (List.mem_of_getElem? (i := 2) rfl))) (mvT hZ (hw _ (List.mem_of_getElem? (i := 3) rfl))) (by decide) (backOf (W := 0) (rm1 l Z a0 hw [] p4 p4 (p1 &&& (255 : Int32)) h0 n0 Z0) hZ (hw _ (List.mem_of_getElem? (i := 3) rfl)) (hw _ (List.mem_of_getElem? (i := 2) rfl)) (by decide) (by decide)) (g := (mkF m 25 #[.val (.int p1), .val (.int p2), .val (.int p3), .val (.int p4), .val (.int p5), .val (.int p6), .val (.int (p1 &&& (255 : Int32))), .val (.int (p2 &&& (255 : Int32))), .val (.int (p3 &&& (255 : Int32))), .unset, .unset, .unset, .unset, .unset, .unset, .unset] [(.int (p1 &&& (255 : Int32))), (.int p4), (.int p4)])) rfl (by rw [hml]; rfl) (argsL := [(.int p4), (.int p4), (.int (p1 &&& (255 : Int32)))]) (rest := []) (lenOf pd_0_0 rfl) rfl (by show 2 * 0 + _ ≤ _; exact Nat.le_of_eq rfl) (hb hby at_25) (fun _ _ => ⟨rfl, e0, (by decide : 0 + 0 ≤ _), (by decide : 0 + 0 ≤ _)⟩)
  dsimp only [Pt.U, Pt.locs, Pt.cells, Pt.slots] at X7 l7 y7 z7 st7 hQ7
  subst l7 y7 z7
  obtain ⟨rfl, N7q, e7⟩ := hQ7
  have N7 := Fr.app N0 N7q
  have Kc7 : Keep h0 T7.heap [] := own_kp e7
  -- pc 36: com/example/telegrid/telegrid/erp1/EepEqualsPinLaw.pick by its contract rm1
  obtain ⟨_, _, ⟨T8, L8, k8, n8⟩, -, X8, ⟨Lc8, hQ8, l8, y8, z8⟩, st8⟩ := Jvm.LawKit.callS X7 hx (y := (⟨"com/example/telegrid/telegrid/erp1/EepEqualsPinLaw", "pick", "(III)I"⟩ : MethodName)) hown (mvT hZ (hw _ (List.mem_of_getElem? (i := 0) rfl))) (mvT hZ (hw _ (List.mem_of_getElem? (i := 1) rfl))) (mvT hZ (hw _ (List.mem_of_getElem? (i := 2) rfl))) (mvT hZ (hw _ (List.mem_of_getElem? (i := 3) rfl))) (by decide) (backOf (W := 0) (rm1 l Z a0 hw [] p5 p5 (p2 &&& (255 : Int32)) T7.heap n0 (Nat.le_trans Z0 Kc7.1)) hZ (hw _ (List.mem_of_getElem? (i := 3) rfl)) (hw _ (List.mem_of_getElem? (i := 2) rfl)) (by decide) (by decide)) (g := (mkF m 36 #[.val (.int p1), .val (.int p2), .val (.int p3), .val (.int p4), .val (.int p5), .val (.int p6), .val (.int (p1 &&& (255 : Int32))), .val (.int (p2 &&& (255 : Int32))), .val (.int (p3 &&& (255 : Int32))), .val (.int (own_pick p4 p4 (p1 &&& (255 : Int32)))), .unset, .unset, .unset, .unset, .unset, .unset] [(.int (p2 &&& (255 : Int32))), (.int p5), (.int p5)])) rfl (by rw [hml]; rfl) (argsL := [(.int p5), (.int p5), (.int (p2 &&& (255 : Int32)))]) (rest := []) (lenOf pd_0_0 rfl) rfl (by show 2 * 0 + _ ≤ _; exact Nat.le_of_eq rfl) (hb hby at_36) (fun _ _ => ⟨rfl, rfl, (by decide : 0 + 0 ≤ _), (by decide : 0 + 0 ≤ _)⟩)
  dsimp only [Pt.U, Pt.locs, Pt.cells, Pt.slots] at X8 l8 y8 z8 st8 hQ8
  subst l8 y8 z8
  obtain ⟨rfl, N8q, e8⟩ := hQ8
  have N8 := Fr.app N7 N8q
  have Kc8 : Keep T7.heap T8.heap [] := own_kp e8
  -- pc 47: com/example/telegrid/telegrid/erp1/EepEqualsPinLaw.pick by its contract rm1
  obtain ⟨_, _, ⟨T9, L9, k9, n9⟩, -, X9, ⟨Lc9, hQ9, l9, y9, z9⟩, st9⟩ := Jvm.LawKit.callS X8 hx (y := (⟨"com/example/telegrid/telegrid/erp1/EepEqualsPinLaw", "pick", "(III)I"⟩ : MethodName)) hown (mvT hZ (hw _ (List.mem_of_getElem? (i := 0) rfl))) (mvT hZ (hw _ (List.mem_of_getElem? (i := 1) rfl))) (mvT hZ (hw _ (List.mem_of_getElem? (i := 2) rfl))) (mvT hZ (hw _ (List.mem_of_getElem? (i := 3) rfl))) (by decide) (backOf (W := 0) (rm1 l Z a0 hw [] p6 p6 (p3 &&& (255 : Int32)) T8.heap n0 (Nat.le_trans (Nat.le_trans Z0 Kc7.1) Kc8.1)) hZ (hw _ (List.mem_of_getElem? (i := 3) rfl)) (hw _ (List.mem_of_getElem? (i := 2) rfl)) (by decide) (by decide)) (g := (mkF m 47 #[.val (.int p1), .val (.int p2), .val (.int p3), .val (.int p4), .val (.int p5), .val (.int p6), .val (.int (p1 &&& (255 : Int32))), .val (.int (p2 &&& (255 : Int32))), .val (.int (p3 &&& (255 : Int32))), .val (.int (own_pick p4 p4 (p1 &&& (255 : Int32)))), .val (.int (own_pick p5 p5 (p2 &&& (255 : Int32)))), .unset, .unset, .unset, .unset, .unset] [(.int (p3 &&& (255 : Int32))), (.int p6), (.int p6)])) rfl (by rw [hml]; rfl) (argsL := [(.int p6), (.int p6), (.int (p3 &&& (255 : Int32)))]) (rest := []) (lenOf pd_0_0 rfl) rfl (by show 2 * 0 + _ ≤ _; exact Nat.le_of_eq rfl) (hb hby at_47) (fun _ _ => ⟨rfl, rfl, (by decide : 0 + 0 ≤ _), (by decide : 0 + 0 ≤ _)⟩)
  dsimp only [Pt.U, Pt.locs, Pt.cells, Pt.slots] at X9 l9 y9 z9 st9 hQ9
  subst l9 y9 z9
  obtain ⟨rfl, N9q, e9⟩ := hQ9
  have N9 := Fr.app N8 N9q
  have Kc9 : Keep T8.heap T9.heap [] := own_kp e9
  have Kh9 : Keep h0 T9.heap [] := (Kc7.trans Kc8 all0).trans Kc9 all0
  obtain ⟨T10, h10, X10, e10, E10, A10, D10, -, st10⟩ := newO X9 hx hZ hown (hw _ (List.mem_of_getElem? (i := 4) rfl)) (hw _ (List.mem_of_getElem? (i := 5) rfl)) (hw _ (List.mem_of_getElem? (i := 6) rfl)) rfl (g := (mkF m 52 #[.val (.int p1), .val (.int p2), .val (.int p3), .val (.int p4), .val (.int p5), .val (.int p6), .val (.int (p1 &&& (255 : Int32))), .val (.int (p2 &&& (255 : Int32))), .val (.int (p3 &&& (255 : Int32))), .val (.int (own_pick p4 p4 (p1 &&& (255 : Int32)))), .val (.int (own_pick p5 p5 (p2 &&& (255 : Int32)))), .val (.int (own_pick p6 p6 (p3 &&& (255 : Int32)))), .unset, .unset, .unset, .unset] [])) rfl (hb hby at_52) (by decide) (by decide)
  obtain ⟨b10, g10⟩ : ∃ z, z = T9.heap.size := ⟨_, rfl⟩      -- the fresh object's address
  rw [← g10] at A10 D10 st10      -- A10 : Exa Z h10 b10 "com/example/telegrid/telegrid/erp1/Eep"; E10 : Ext T9.heap h10 (carries every older fact: .ext E10)
  have F_rorg_b10 : Fld Z h10 b10 "com/example/telegrid/telegrid/erp1/Eep" "rorg" "I" (.int (0 : Int32)) := D10 (Or.inr (hw _ (List.mem_of_getElem? (i := 14) rfl))) (ty := .int) (by decide)
  have F_func_b10 : Fld Z h10 b10 "com/example/telegrid/telegrid/erp1/Eep" "func" "I" (.int (0 : Int32)) := D10 (Or.inr (hw _ (List.mem_of_getElem? (i := 16) rfl))) (ty := .int) (by decide)
  have F_type_b10 : Fld Z h10 b10 "com/example/telegrid/telegrid/erp1/Eep" "type" "I" (.int (0 : Int32)) := D10 (Or.inr (hw _ (List.mem_of_getElem? (i := 18) rfl))) (ty := .int) (by decide)
  have E_b10 := A10
  have g_b10 : n0 ≤ b10 := Nat.le_trans (Nat.le_trans (Nat.le_trans (Nat.le_trans Z0 Kc7.1) Kc8.1) Kc9.1) (Nat.le_of_eq g10.symm)
  have sz_b10 : h0.size ≤ b10 := (Nat.le_trans Kh9.1 (Nat.le_of_eq g10.symm))
  have K10 : Keep h0 h10 [] := Kh9.ext E10
  -- pc 62: the constructor of com/example/telegrid/telegrid/erp1/Eep by its contract rm2
  obtain ⟨_, _, ⟨T11, L11, k11, n11⟩, -, X11, ⟨Lc11, hQ11, l11, y11, z11⟩, st11⟩ := X10.specialBack hx (y := (⟨"com/example/telegrid/telegrid/erp1/Eep", "<init>", "(III)V"⟩ : MethodName)) rfl hown (mvT hZ (hw _ (List.mem_of_getElem? (i := 7) rfl))) (mvT hZ (hw _ (List.mem_of_getElem? (i := 8) rfl))) (mvT hZ (hw _ (List.mem_of_getElem? (i := 9) rfl))) (by decide) (backOf (W := 1) (rm2 l Z a0 hw [] b10 (p1 &&& (255 : Int32)) (p2 &&& (255 : Int32)) (p3 &&& (255 : Int32)) (.int (0 : Int32)) (.int (0 : Int32)) (.int (0 : Int32)) h10 n0 (Nat.le_trans Z0 K10.1) E_b10 F_rorg_b10 g_b10 F_func_b10 F_type_b10 (own_hi3 (own_hi p1) (own_hi p2) (own_hi p3))) hZ (hw _ (List.mem_of_getElem? (i := 9) rfl)) (hw _ (List.mem_of_getElem? (i := 6) rfl)) (by decide) (by decide)) (g := (mkF m 62 #[.val (.int p1), .val (.int p2), .val (.int p3), .val (.int p4), .val (.int p5), .val (.int p6), .val (.int (p1 &&& (255 : Int32))), .val (.int (p2 &&& (255 : Int32))), .val (.int (p3 &&& (255 : Int32))), .val (.int (own_pick p4 p4 (p1 &&& (255 : Int32)))), .val (.int (own_pick p5 p5 (p2 &&& (255 : Int32)))), .val (.int (own_pick p6 p6 (p3 &&& (255 : Int32)))), .unset, .unset, .unset, .unset] [(.int (p3 &&& (255 : Int32))), (.int (p2 &&& (255 : Int32))), (.int (p1 &&& (255 : Int32))), (.ref b10), (.ref b10)])) rfl (by rw [hml]; rfl) (Steps.refl _) (a := b10) (argsL := [(.int (p1 &&& (255 : Int32))), (.int (p2 &&& (255 : Int32))), (.int (p3 &&& (255 : Int32)))]) (rest := [(.ref b10)]) (lenOf pd_0_1 rfl) rfl (by show 2 * 0 + _ ≤ _; exact Nat.le_of_eq rfl) (hb hby at_62) (fun _ _ => ⟨rfl, e10, (by decide : 1 + 0 ≤ _), (by decide : 3 + 0 ≤ _)⟩)
  dsimp only [Pt.U, Pt.locs, Pt.cells, Pt.slots] at X11 l11 y11 z11 st11 hQ11
  subst l11 y11 z11
  obtain ⟨rfl, N11q, Kc11, EE11, R1_11, R2_11, R3_11⟩ := hQ11
  have N11 := Fr.app N9 N11q
  have Kh11 : Keep h0 T11.heap [] := K10.trans Kc11 (allS (Or.inr sz_b10) all0)
  obtain ⟨T12, h12, X12, e12, E12, A12, D12, -, st12⟩ := newO X11 hx hZ hown (hw _ (List.mem_of_getElem? (i := 4) rfl)) (hw _ (List.mem_of_getElem? (i := 5) rfl)) (hw _ (List.mem_of_getElem? (i := 6) rfl)) rfl (g := (mkF m 67 #[.val (.int p1), .val (.int p2), .val (.int p3), .val (.int p4), .val (.int p5), .val (.int p6), .val (.int (p1 &&& (255 : Int32))), .val (.int (p2 &&& (255 : Int32))), .val (.int (p3 &&& (255 : Int32))), .val (.int (own_pick p4 p4 (p1 &&& (255 : Int32)))), .val (.int (own_pick p5 p5 (p2 &&& (255 : Int32)))), .val (.int (own_pick p6 p6 (p3 &&& (255 : Int32)))), .val (.ref b10), .unset, .unset, .unset] [])) rfl (hb hby at_67) (by decide) (by decide)
  obtain ⟨b12, g12⟩ : ∃ z, z = T11.heap.size := ⟨_, rfl⟩      -- the fresh object's address
  rw [← g12] at A12 D12 st12      -- A12 : Exa Z h12 b12 "com/example/telegrid/telegrid/erp1/Eep"; E12 : Ext T11.heap h12 (carries every older fact: .ext E12)
  have F_rorg_b12 : Fld Z h12 b12 "com/example/telegrid/telegrid/erp1/Eep" "rorg" "I" (.int (0 : Int32)) := D12 (Or.inr (hw _ (List.mem_of_getElem? (i := 14) rfl))) (ty := .int) (by decide)
  have F_func_b12 : Fld Z h12 b12 "com/example/telegrid/telegrid/erp1/Eep" "func" "I" (.int (0 : Int32)) := D12 (Or.inr (hw _ (List.mem_of_getElem? (i := 16) rfl))) (ty := .int) (by decide)
  have F_type_b12 : Fld Z h12 b12 "com/example/telegrid/telegrid/erp1/Eep" "type" "I" (.int (0 : Int32)) := D12 (Or.inr (hw _ (List.mem_of_getElem? (i := 18) rfl))) (ty := .int) (by decide)
  have E_b12 := A12
  have g_b12 : n0 ≤ b12 := Nat.le_trans (Nat.le_trans (Nat.le_trans (Nat.le_trans (Nat.le_trans (Nat.le_trans Z0 Kc7.1) Kc8.1) Kc9.1) E10.1) Kc11.1) (Nat.le_of_eq g12.symm)
  have sz_b12 : h0.size ≤ b12 := (Nat.le_trans Kh11.1 (Nat.le_of_eq g12.symm))
  have K12 : Keep h0 h12 [] := Kh11.ext E12
  -- pc 77: the constructor of com/example/telegrid/telegrid/erp1/Eep by its contract rm2
  obtain ⟨_, _, ⟨T13, L13, k13, n13⟩, -, X13, ⟨Lc13, hQ13, l13, y13, z13⟩, st13⟩ := X12.specialBack hx (y := (⟨"com/example/telegrid/telegrid/erp1/Eep", "<init>", "(III)V"⟩ : MethodName)) rfl hown (mvT hZ (hw _ (List.mem_of_getElem? (i := 7) rfl))) (mvT hZ (hw _ (List.mem_of_getElem? (i := 8) rfl))) (mvT hZ (hw _ (List.mem_of_getElem? (i := 9) rfl))) (by decide) (backOf (W := 1) (rm2 l Z a0 hw [] b12 (own_pick p4 p4 (p1 &&& (255 : Int32))) (own_pick p5 p5 (p2 &&& (255 : Int32))) (own_pick p6 p6 (p3 &&& (255 : Int32))) (.int (0 : Int32)) (.int (0 : Int32)) (.int (0 : Int32)) h12 n0 (Nat.le_trans Z0 K12.1) E_b12 F_rorg_b12 g_b12 F_func_b12 F_type_b12 (own_hi3 (own_hip _ _ _ (own_hi p1)) (own_hip _ _ _ (own_hi p2)) (own_hip _ _ _ (own_hi p3)))) hZ (hw _ (List.mem_of_getElem? (i := 9) rfl)) (hw _ (List.mem_of_getElem? (i := 6) rfl)) (by decide) (by decide)) (g := (mkF m 77 #[.val (.int p1), .val (.int p2), .val (.int p3), .val (.int p4), .val (.int p5), .val (.int p6), .val (.int (p1 &&& (255 : Int32))), .val (.int (p2 &&& (255 : Int32))), .val (.int (p3 &&& (255 : Int32))), .val (.int (own_pick p4 p4 (p1 &&& (255 : Int32)))), .val (.int (own_pick p5 p5 (p2 &&& (255 : Int32)))), .val (.int (own_pick p6 p6 (p3 &&& (255 : Int32)))), .val (.ref b10), .unset, .unset, .unset] [(.int (own_pick p6 p6 (p3 &&& (255 : Int32)))), (.int (own_pick p5 p5 (p2 &&& (255 : Int32)))), (.int (own_pick p4 p4 (p1 &&& (255 : Int32)))), (.ref b12), (.ref b12)])) rfl (by rw [hml]; rfl) (Steps.refl _) (a := b12) (argsL := [(.int (own_pick p4 p4 (p1 &&& (255 : Int32)))), (.int (own_pick p5 p5 (p2 &&& (255 : Int32)))), (.int (own_pick p6 p6 (p3 &&& (255 : Int32))))]) (rest := [(.ref b12)]) (lenOf pd_0_1 rfl) rfl (by show 2 * 0 + _ ≤ _; exact Nat.le_of_eq rfl) (hb hby at_77) (fun _ _ => ⟨rfl, e12, (by decide : 2 + 0 ≤ _), (by decide : 6 + 0 ≤ _)⟩)
  dsimp only [Pt.U, Pt.locs, Pt.cells, Pt.slots] at X13 l13 y13 z13 st13 hQ13
  subst l13 y13 z13
  obtain ⟨rfl, N13q, Kc13, EB_13, S1_13, S2_13, S3_13⟩ := hQ13
  have N13 := Fr.app N11 N13q
  have Kh13 : Keep h0 T13.heap [] := K12.trans Kc13 (allS (Or.inr sz_b12) all0)
  have nAB : b10 ≠ b12 := Nat.ne_of_lt (by rw [g12]; exact R1_11.lt)
  have EA_13 := (EE11.ext E12).keep Kc13
  have R1_13 := (R1_11.ext E12).keep Kc13 (ninS nAB nin0)
  have R2_13 := (R2_11.ext E12).keep Kc13 (ninS nAB nin0)
  have R3_13 := (R3_11.ext E12).keep Kc13 (ninS nAB nin0)
  -- pc 111: java/lang/Integer.valueOf by its contract rm4
  obtain ⟨_, _, ⟨T14, L14, k14, n14⟩, -, X14, ⟨Lc14, hQ14, l14, y14, z14⟩, st14⟩ := Jvm.LawKit.callS X13 hx (y := (⟨"java/lang/Integer", "valueOf", "(I)Ljava/lang/Integer;"⟩ : MethodName)) hown (mvT hZ (hw _ (List.mem_of_getElem? (i := 19) rfl))) (mvT hZ (hw _ (List.mem_of_getElem? (i := 20) rfl))) (mvT hZ (hw _ (List.mem_of_getElem? (i := 21) rfl))) (mvT hZ (hw _ (List.mem_of_getElem? (i := 22) rfl))) (by decide) (backOf (W := 0) (rm4 l Z a0 hw [] p3 w4 cl T13.heap n0 (Nat.le_trans Z0 Kh13.1) (SH.ext (own_ext Kh13)) (SC.ext (own_ext Kh13)) (AC.ext (own_ext Kh13)) hsz (fun j hj => by obtain ⟨b, q1, q2⟩ := BC j hj; exact ⟨b, q1, q2.keep Kh13⟩)) hZ (hw _ (List.mem_of_getElem? (i := 22) rfl)) (hw _ (List.mem_of_getElem? (i := 21) rfl)) (by decide) (by decide)) (g := (mkF m 111 #[.val (.int p1), .val (.int p2), .val (.int p3), .val (.int p4), .val (.int p5), .val (.int p6), .val (.int (p1 &&& (255 : Int32))), .val (.int (p2 &&& (255 : Int32))), .val (.int (p3 &&& (255 : Int32))), .val (.int (own_pick p4 p4 (p1 &&& (255 : Int32)))), .val (.int (own_pick p5 p5 (p2 &&& (255 : Int32)))), .val (.int (own_pick p6 p6 (p3 &&& (255 : Int32)))), .val (.ref b10), .val (.ref b12), .val (.int (0 : Int32)), .unset] [(.int p3)])) rfl (by rw [hml]; rfl) (argsL := [(.int p3)]) (rest := []) (lenOf pd_0_3 rfl) rfl (by show 2 * 0 + _ ≤ _; exact Nat.le_of_eq rfl) (hb hby at_111) (fun _ _ => ⟨rfl, rfl, (by decide : 2 + 1 ≤ _), (by decide : 6 + 1 ≤ _)⟩)
  dsimp only [Pt.U, Pt.locs, Pt.cells, Pt.slots] at X14 l14 y14 z14 st14 hQ14
  subst l14 y14 z14
  obtain ⟨a14, rfl, N14q, Kc14, EO_14⟩ := hQ14
  have N14 := Fr.app N13 N14q
  have Kh14 : Keep h0 T14.heap [] := Kh13.trans Kc14 all0
  have R1_14 := R1_13.keep Kc14 nin0
  have R2_14 := R2_13.keep Kc14 nin0
  have R3_14 := R3_13.keep Kc14 nin0
  have S1_14 := S1_13.keep Kc14 nin0
  have S2_14 := S2_13.keep Kc14 nin0
  have S3_14 := S3_13.keep Kc14 nin0
  have EA_14 := EA_13.keep Kc14
  have EB_14 := EB_13.keep Kc14
  -- pc 120: com/example/telegrid/telegrid/erp1/Eep.equals by the contract of the body that the receiver's class selects, rm5
  obtain ⟨cq15, kq15, q15a, q15b, q15c⟩ := isOf hZ rfl ((((E_b10.keep Kc11).ext E12).keep Kc13).keep Kc14)
  obtain ⟨_, _, ⟨T15, L15, k15, n15⟩, -, X15, ⟨Lc15, hQ15, l15, y15, z15⟩, st15⟩ := X14.virtualBack hx (y := (⟨"com/example/telegrid/telegrid/erp1/Eep", "equals", "(Ljava/lang/Object;)Z"⟩ : MethodName)) (z := (⟨"com/example/telegrid/telegrid/erp1/Eep", "equals", "(Ljava/lang/Object;)Z"⟩ : MethodName)) hown (mvT hZ (hw _ (List.mem_of_getElem? (i := 26) rfl))) (mvT hZ (hw _ (List.mem_of_getElem? (i := 27) rfl))) (notFace_of_selects (args := #[]) (mvT hZ (hw _ (List.mem_of_getElem? (i := 29) rfl)))) (mvT hZ (hw _ (List.mem_of_getElem? (i := 29) rfl))) (mvT hZ (hw _ (List.mem_of_getElem? (i := 28) rfl))) (by decide) (backOf (W := 0) (rm5 l Z a0 hw [] b10 b12 (p1 &&& (255 : Int32)) (p2 &&& (255 : Int32)) (p3 &&& (255 : Int32)) (own_pick p4 p4 (p1 &&& (255 : Int32))) (own_pick p5 p5 (p2 &&& (255 : Int32))) (own_pick p6 p6 (p3 &&& (255 : Int32))) T14.heap n0 (Nat.le_trans Z0 Kh14.1) EB_14 R1_14 R2_14 R3_14 S1_14 S2_14 S3_14) hZ (hw _ (List.mem_of_getElem? (i := 30) rfl)) (hw _ (List.mem_of_getElem? (i := 6) rfl)) (by decide) (by decide)) q15a q15c (g := (mkF m 120 #[.val (.int p1), .val (.int p2), .val (.int p3), .val (.int p4), .val (.int p5), .val (.int p6), .val (.int (p1 &&& (255 : Int32))), .val (.int (p2 &&& (255 : Int32))), .val (.int (p3 &&& (255 : Int32))), .val (.int (own_pick p4 p4 (p1 &&& (255 : Int32)))), .val (.int (own_pick p5 p5 (p2 &&& (255 : Int32)))), .val (.int (own_pick p6 p6 (p3 &&& (255 : Int32)))), .val (.ref b10), .val (.ref b12), .val (.int (0 : Int32)), .val (.ref a14)] [(.ref b12), (.ref b10)])) rfl (by rw [hml]; rfl) (Steps.refl _) (argsL := [(.ref b12)]) (rest := []) (lenOf pd_0_4 rfl) rfl (by show 2 * 0 + _ ≤ _; exact Nat.le_of_eq rfl) (hb hby at_120) (fun _ _ => ⟨rfl, rfl, (by decide : 3 + 0 ≤ _), (by decide : 7 + 0 ≤ _)⟩)
  dsimp only [Pt.U, Pt.locs, Pt.cells, Pt.slots] at X15 l15 y15 z15 st15 hQ15
  subst l15 y15 z15
  obtain ⟨rfl, N15q, e15⟩ := hQ15
  have N15 := Fr.app N14 N15q
  have Kc15 : Keep T14.heap T15.heap [] := own_kp e15
  have Kh15 : Keep h0 T15.heap [] := Kh14.trans Kc15 all0
  have R1_15 := R1_14.keep Kc15 nin0
  have R2_15 := R2_14.keep Kc15 nin0
  have R3_15 := R3_14.keep Kc15 nin0
  have S1_15 := S1_14.keep Kc15 nin0
  have S2_15 := S2_14.keep Kc15 nin0
  have S3_15 := S3_14.keep Kc15 nin0
  have EA_15 := EA_14.keep Kc15
  have EB_15 := EB_14.keep Kc15
  have EO_15 := EO_14.keep Kc15
  -- pc 132: com/example/telegrid/telegrid/erp1/Eep.equals by the contract of the body that the receiver's class selects, rm5
  obtain ⟨cq16, kq16, q16a, q16b, q16c⟩ := isOf hZ rfl (((E_b12.keep Kc13).keep Kc14).keep Kc15)
  obtain ⟨_, _, ⟨T16, L16, k16, n16⟩, -, X16, ⟨Lc16, hQ16, l16, y16, z16⟩, st16⟩ := X15.virtualBack hx (y := (⟨"com/example/telegrid/telegrid/erp1/Eep", "equals", "(Ljava/lang/Object;)Z"⟩ : MethodName)) (z := (⟨"com/example/telegrid/telegrid/erp1/Eep", "equals", "(Ljava/lang/Object;)Z"⟩ : MethodName)) hown (mvT hZ (hw _ (List.mem_of_getElem? (i := 26) rfl))) (mvT hZ (hw _ (List.mem_of_getElem? (i := 27) rfl))) (notFace_of_selects (args := #[]) (mvT hZ (hw _ (List.mem_of_getElem? (i := 29) rfl)))) (mvT hZ (hw _ (List.mem_of_getElem? (i := 29) rfl))) (mvT hZ (hw _ (List.mem_of_getElem? (i := 28) rfl))) (by decide) (backOf (W := 0) (rm5 l Z a0 hw [] b12 b10 (own_pick p4 p4 (p1 &&& (255 : Int32))) (own_pick p5 p5 (p2 &&& (255 : Int32))) (own_pick p6 p6 (p3 &&& (255 : Int32))) (p1 &&& (255 : Int32)) (p2 &&& (255 : Int32)) (p3 &&& (255 : Int32)) T15.heap n0 (Nat.le_trans Z0 Kh15.1) EA_15 S1_15 S2_15 S3_15 R1_15 R2_15 R3_15) hZ (hw _ (List.mem_of_getElem? (i := 30) rfl)) (hw _ (List.mem_of_getElem? (i := 6) rfl)) (by decide) (by decide)) q16a q16c (g := (mkF m 132 #[.val (.int p1), .val (.int p2), .val (.int p3), .val (.int p4), .val (.int p5), .val (.int p6), .val (.int (p1 &&& (255 : Int32))), .val (.int (p2 &&& (255 : Int32))), .val (.int (p3 &&& (255 : Int32))), .val (.int (own_pick p4 p4 (p1 &&& (255 : Int32)))), .val (.int (own_pick p5 p5 (p2 &&& (255 : Int32)))), .val (.int (own_pick p6 p6 (p3 &&& (255 : Int32)))), .val (.ref b10), .val (.ref b12), .val (.int (0 : Int32)), .val (.ref a14)] [(.ref b10), (.ref b12)])) rfl (by rw [hml]; rfl) (Steps.refl _) (argsL := [(.ref b10)]) (rest := []) (lenOf pd_0_4 rfl) rfl (by show 2 * 0 + _ ≤ _; exact Nat.le_of_eq rfl) (hb hby at_132) (fun _ _ => ⟨rfl, rfl, (by decide : 3 + 0 ≤ _), (by decide : 7 + 0 ≤ _)⟩)
  dsimp only [Pt.U, Pt.locs, Pt.cells, Pt.slots] at X16 l16 y16 z16 st16 hQ16
  subst l16 y16 z16
  obtain ⟨rfl, N16q, e16⟩ := hQ16
  have N16 := Fr.app N15 N16q
  have Kc16 : Keep T15.heap T16.heap [] := own_kp e16
  have Kh16 : Keep h0 T16.heap [] := Kh15.trans Kc16 all0
  have R1_16 := R1_15.keep Kc16 nin0
  have R2_16 := R2_15.keep Kc16 nin0
  have R3_16 := R3_15.keep Kc16 nin0
  have S1_16 := S1_15.keep Kc16 nin0
  have S2_16 := S2_15.keep Kc16 nin0
  have S3_16 := S3_15.keep Kc16 nin0
  have EA_16 := EA_15.keep Kc16
  have EB_16 := EB_15.keep Kc16
  have EO_16 := EO_15.keep Kc16
  -- pc 144: com/example/telegrid/telegrid/erp1/Eep.equals by the contract of the body that the receiver's class selects, rm5
  obtain ⟨cq17, kq17, q17a, q17b, q17c⟩ := isOf hZ rfl ((((((E_b10.keep Kc11).ext E12).keep Kc13).keep Kc14).keep Kc15).keep Kc16)
  obtain ⟨_, _, ⟨T17, L17, k17, n17⟩, -, X17, ⟨Lc17, hQ17, l17, y17, z17⟩, st17⟩ := X16.virtualBack hx (y := (⟨"com/example/telegrid/telegrid/erp1/Eep", "equals", "(Ljava/lang/Object;)Z"⟩ : MethodName)) (z := (⟨"com/example/telegrid/telegrid/erp1/Eep", "equals", "(Ljava/lang/Object;)Z"⟩ : MethodName)) hown (mvT hZ (hw _ (List.mem_of_getElem? (i := 26) rfl))) (mvT hZ (hw _ (List.mem_of_getElem? (i := 27) rfl))) (notFace_of_selects (args := #[]) (mvT hZ (hw _ (List.mem_of_getElem? (i := 29) rfl)))) (mvT hZ (hw _ (List.mem_of_getElem? (i := 29) rfl))) (mvT hZ (hw _ (List.mem_of_getElem? (i := 28) rfl))) (by decide) (backOf (W := 0) (rm5 l Z a0 hw [] b10 b10 (p1 &&& (255 : Int32)) (p2 &&& (255 : Int32)) (p3 &&& (255 : Int32)) (p1 &&& (255 : Int32)) (p2 &&& (255 : Int32)) (p3 &&& (255 : Int32)) T16.heap n0 (Nat.le_trans Z0 Kh16.1) EA_16 R1_16 R2_16 R3_16 R1_16 R2_16 R3_16) hZ (hw _ (List.mem_of_getElem? (i := 30) rfl)) (hw _ (List.mem_of_getElem? (i := 6) rfl)) (by decide) (by decide)) q17a q17c (g := (mkF m 144 #[.val (.int p1), .val (.int p2), .val (.int p3), .val (.int p4), .val (.int p5), .val (.int p6), .val (.int (p1 &&& (255 : Int32))), .val (.int (p2 &&& (255 : Int32))), .val (.int (p3 &&& (255 : Int32))), .val (.int (own_pick p4 p4 (p1 &&& (255 : Int32)))), .val (.int (own_pick p5 p5 (p2 &&& (255 : Int32)))), .val (.int (own_pick p6 p6 (p3 &&& (255 : Int32)))), .val (.ref b10), .val (.ref b12), .val (.int (0 : Int32)), .val (.ref a14)] [(.ref b10), (.ref b10)])) rfl (by rw [hml]; rfl) (Steps.refl _) (argsL := [(.ref b10)]) (rest := []) (lenOf pd_0_4 rfl) rfl (by show 2 * 0 + _ ≤ _; exact Nat.le_of_eq rfl) (hb hby at_144) (fun _ _ => ⟨rfl, rfl, (by decide : 3 + 0 ≤ _), (by decide : 7 + 0 ≤ _)⟩)
  dsimp only [Pt.U, Pt.locs, Pt.cells, Pt.slots] at X17 l17 y17 z17 st17 hQ17
  subst l17 y17 z17
  obtain ⟨rfl, N17q, e17⟩ := hQ17
  have N17 := Fr.app N16 N17q
  have Kc17 : Keep T16.heap T17.heap [] := own_kp e17
  have Kh17 : Keep h0 T17.heap [] := Kh16.trans Kc17 all0
  have R1_17 := R1_16.keep Kc17 nin0
  have R2_17 := R2_16.keep Kc17 nin0
  have R3_17 := R3_16.keep Kc17 nin0
  have S1_17 := S1_16.keep Kc17 nin0
  have S2_17 := S2_16.keep Kc17 nin0
  have S3_17 := S3_16.keep Kc17 nin0
  have EA_17 := EA_16.keep Kc17
  have EB_17 := EB_16.keep Kc17
  have EO_17 := EO_16.keep Kc17
  -- pc 153: com/example/telegrid/telegrid/erp1/Eep.equals by the contract of the body that the receiver's class selects, rm5
  obtain ⟨cq18, kq18, q18a, q18b, q18c⟩ := isOf hZ rfl (((((((E_b10.keep Kc11).ext E12).keep Kc13).keep Kc14).keep Kc15).keep Kc16).keep Kc17)
  obtain ⟨_, _, ⟨T18, L18, k18, n18⟩, -, X18, ⟨Lc18, hQ18, l18, y18, z18⟩, st18⟩ := X17.virtualBack hx (y := (⟨"com/example/telegrid/telegrid/erp1/Eep", "equals", "(Ljava/lang/Object;)Z"⟩ : MethodName)) (z := (⟨"com/example/telegrid/telegrid/erp1/Eep", "equals", "(Ljava/lang/Object;)Z"⟩ : MethodName)) hown (mvT hZ (hw _ (List.mem_of_getElem? (i := 26) rfl))) (mvT hZ (hw _ (List.mem_of_getElem? (i := 27) rfl))) (notFace_of_selects (args := #[]) (mvT hZ (hw _ (List.mem_of_getElem? (i := 29) rfl)))) (mvT hZ (hw _ (List.mem_of_getElem? (i := 29) rfl))) (mvT hZ (hw _ (List.mem_of_getElem? (i := 28) rfl))) (by decide) (backOf (W := 0) (rm5_null l Z a0 hw [] b10 T17.heap n0 (Nat.le_trans Z0 Kh17.1)) hZ (hw _ (List.mem_of_getElem? (i := 30) rfl)) (hw _ (List.mem_of_getElem? (i := 6) rfl)) (by decide) (by decide)) q18a q18c (g := (mkF m 153 #[.val (.int p1), .val (.int p2), .val (.int p3), .val (.int p4), .val (.int p5), .val (.int p6), .val (.int (p1 &&& (255 : Int32))), .val (.int (p2 &&& (255 : Int32))), .val (.int (p3 &&& (255 : Int32))), .val (.int (own_pick p4 p4 (p1 &&& (255 : Int32)))), .val (.int (own_pick p5 p5 (p2 &&& (255 : Int32)))), .val (.int (own_pick p6 p6 (p3 &&& (255 : Int32)))), .val (.ref b10), .val (.ref b12), .val (.int (0 : Int32)), .val (.ref a14)] [.null, (.ref b10)])) rfl (by rw [hml]; rfl) (Steps.refl _) (argsL := [.null]) (rest := []) (lenOf pd_0_4 rfl) rfl (by show 2 * 0 + _ ≤ _; exact Nat.le_of_eq rfl) (hb hby at_153) (fun _ _ => ⟨rfl, rfl, (by decide : 3 + 0 ≤ _), (by decide : 7 + 0 ≤ _)⟩)
  dsimp only [Pt.U, Pt.locs, Pt.cells, Pt.slots] at X18 l18 y18 z18 st18 hQ18
  subst l18 y18 z18
  obtain ⟨rfl, N18q, e18⟩ := hQ18
  have N18 := Fr.app N17 N18q
  have Kc18 : Keep T17.heap T18.heap [] := own_kp e18
  have Kh18 : Keep h0 T18.heap [] := Kh17.trans Kc18 all0
  have EO_18 := EO_17.keep Kc18
  -- pc 163: com/example/telegrid/telegrid/erp1/Eep.equals by the contract of the body that the receiver's class selects, rm5
  obtain ⟨cq19, kq19, q19a, q19b, q19c⟩ := isOf hZ rfl ((((((((E_b10.keep Kc11).ext E12).keep Kc13).keep Kc14).keep Kc15).keep Kc16).keep Kc17).keep Kc18)
  obtain ⟨_, _, ⟨T19, L19, k19, n19⟩, -, X19, ⟨Lc19, hQ19, l19, y19, z19⟩, st19⟩ := X18.virtualBack hx (y := (⟨"com/example/telegrid/telegrid/erp1/Eep", "equals", "(Ljava/lang/Object;)Z"⟩ : MethodName)) (z := (⟨"com/example/telegrid/telegrid/erp1/Eep", "equals", "(Ljava/lang/Object;)Z"⟩ : MethodName)) hown (mvT hZ (hw _ (List.mem_of_getElem? (i := 26) rfl))) (mvT hZ (hw _ (List.mem_of_getElem? (i := 27) rfl))) (notFace_of_selects (args := #[]) (mvT hZ (hw _ (List.mem_of_getElem? (i := 29) rfl)))) (mvT hZ (hw _ (List.mem_of_getElem? (i := 29) rfl))) (mvT hZ (hw _ (List.mem_of_getElem? (i := 28) rfl))) (by decide) (backOf (W := 0) (rm5_no l Z a0 hw [] b10 a14 "java/lang/Integer" T18.heap n0 (Nat.le_trans Z0 Kh18.1) (own_notEep (hw _ (List.mem_of_getElem? (i := 33) rfl)) (hw _ (List.mem_of_getElem? (i := 5) rfl)) (NS.step (hw _ (List.mem_of_getElem? (i := 33) rfl)) (NS.step (hw _ (List.mem_of_getElem? (i := 34) rfl)) (own_NSroot (hw _ (List.mem_of_getElem? (i := 35) rfl)) (hw _ (List.mem_of_getElem? (i := 5) rfl)) (by decide)) (by decide)) (by decide)) (by decide) EO_18) EO_18) hZ (hw _ (List.mem_of_getElem? (i := 30) rfl)) (hw _ (List.mem_of_getElem? (i := 6) rfl)) (by decide) (by decide)) q19a q19c (g := (mkF m 163 #[.val (.int p1), .val (.int p2), .val (.int p3), .val (.int p4), .val (.int p5), .val (.int p6), .val (.int (p1 &&& (255 : Int32))), .val (.int (p2 &&& (255 : Int32))), .val (.int (p3 &&& (255 : Int32))), .val (.int (own_pick p4 p4 (p1 &&& (255 : Int32)))), .val (.int (own_pick p5 p5 (p2 &&& (255 : Int32)))), .val (.int (own_pick p6 p6 (p3 &&& (255 : Int32)))), .val (.ref b10), .val (.ref b12), .val (.int (0 : Int32)), .val (.ref a14)] [(.ref a14), (.ref b10)])) rfl (by rw [hml]; rfl) (Steps.refl _) (argsL := [(.ref a14)]) (rest := []) (lenOf pd_0_4 rfl) rfl (by show 2 * 0 + _ ≤ _; exact Nat.le_of_eq rfl) (hb hby at_163) (fun _ _ => ⟨rfl, rfl, (by decide : 3 + 0 ≤ _), (by decide : 7 + 0 ≤ _)⟩)
  dsimp only [Pt.U, Pt.locs, Pt.cells, Pt.slots] at X19 l19 y19 z19 st19 hQ19
  subst l19 y19 z19
  obtain ⟨rfl, N19q, e19⟩ := hQ19
  have N19 := Fr.app N18 N19q
  obtain ⟨fs, hr, hrun, hended, hW, hsame⟩ := X19.leave (v := some (.int (1 : Int32))) (fun h => by rw [Bd.returns] at h; cases h)
  refine ⟨_, _, pre0 _ ?_, hrun, hended, _, _, rfl, ?_, ⟨_, rfl⟩, hW, hsame.mono (by decide) (by decide)⟩
  -- 4. STEPS
  · show Steps p.tables e below (s₁.setTop (mkF m 0 #[.val (.int p1), .val (.int p2), .val (.int p3), .val (.int p4), .val (.int p5), .val (.int p6), .unset, .unset, .unset, .unset, .unset, .unset, .unset, .unset, .unset, .unset] [])) _
    refine XS.iloadN X0.here hx rfl (hb hby at_0) rfl ?_
    show Steps p.tables e below (s₁.setTop (mkF m 1 #[.val (.int p1), .val (.int p2), .val (.int p3), .val (.int p4), .val (.int p5), .val (.int p6), .unset, .unset, .unset, .unset, .unset, .unset, .unset, .unset, .unset, .unset] [(.int p1)])) _
    refine XS.sipush X0.here hx rfl (hb hby at_1) ?_
    show Steps p.tables e below (s₁.setTop (mkF m 4 #[.val (.int p1), .val (.int p2), .val (.int p3), .val (.int p4), .val (.int p5), .val (.int p6), .unset, .unset, .unset, .unset, .unset, .unset, .unset, .unset, .unset, .unset] [(.int (255 : Int32)), (.int p1)])) _
    refine XS.iand X0.here hx rfl (hb hby at_4) rfl ?_
    show Steps p.tables e below (s₁.setTop (mkF m 5 #[.val (.int p1), .val (.int p2), .val (.int p3), .val (.int p4), .val (.int p5), .val (.int p6), .unset, .unset, .unset, .unset, .unset, .unset, .unset, .unset, .unset, .unset] [(.int (p1 &&& (255 : Int32)))])) _
    refine XS.istore X0.here hx rfl (hb hby at_5) rfl (l' := #[.val (.int p1), .val (.int p2), .val (.int p3), .val (.int p4), .val (.int p5), .val (.int p6), .val (.int (p1 &&& (255 : Int32))), .unset, .unset, .unset, .unset, .unset, .unset, .unset, .unset, .unset]) rfl ?_
    show Steps p.tables e below (s₁.setTop (mkF m 7 #[.val (.int p1), .val (.int p2), .val (.int p3), .val (.int p4), .val (.int p5), .val (.int p6), .val (.int (p1 &&& (255 : Int32))), .unset, .unset, .unset, .unset, .unset, .unset, .unset, .unset, .unset] [])) _
    refine XS.iloadN X0.here hx rfl (hb hby at_7) rfl ?_
    show Steps p.tables e below (s₁.setTop (mkF m 8 #[.val (.int p1), .val (.int p2), .val (.int p3), .val (.int p4), .val (.int p5), .val (.int p6), .val (.int (p1 &&& (255 : Int32))), .unset, .unset, .unset, .unset, .unset, .unset, .unset, .unset, .unset] [(.int p2)])) _
    refine XS.sipush X0.here hx rfl (hb hby at_8) ?_
    show Steps p.tables e below (s₁.setTop (mkF m 11 #[.val (.int p1), .val (.int p2), .val (.int p3), .val (.int p4), .val (.int p5), .val (.int p6), .val (.int (p1 &&& (255 : Int32))), .unset, .unset, .unset, .unset, .unset, .unset, .unset, .unset, .unset] [(.int (255 : Int32)), (.int p2)])) _
    refine XS.iand X0.here hx rfl (hb hby at_11) rfl ?_
    show Steps p.tables e below (s₁.setTop (mkF m 12 #[.val (.int p1), .val (.int p2), .val (.int p3), .val (.int p4), .val (.int p5), .val (.int p6), .val (.int (p1 &&& (255 : Int32))), .unset, .unset, .unset, .unset, .unset, .unset, .unset, .unset, .unset] [(.int (p2 &&& (255 : Int32)))])) _
    refine XS.istore X0.here hx rfl (hb hby at_12) rfl (l' := #[.val (.int p1), .val (.int p2), .val (.int p3), .val (.int p4), .val (.int p5), .val (.int p6), .val (.int (p1 &&& (255 : Int32))), .val (.int (p2 &&& (255 : Int32))), .unset, .unset, .unset, .unset, .unset, .unset, .unset, .unset]) rfl ?_
    show Steps p.tables e below (s₁.setTop (mkF m 14 #[.val (.int p1), .val (.int p2), .val (.int p3), .val (.int p4), .val (.int p5), .val (.int p6), .val (.int (p1 &&& (255 : Int32))), .val (.int (p2 &&& (255 : Int32))), .unset, .unset, .unset, .unset, .unset, .unset, .unset, .unset] [])) _
    refine XS.iloadN X0.here hx rfl (hb hby at_14) rfl ?_
    show Steps p.tables e below (s₁.setTop (mkF m 15 #[.val (.int p1), .val (.int p2), .val (.int p3), .val (.int p4), .val (.int p5), .val (.int p6), .val (.int (p1 &&& (255 : Int32))), .val (.int (p2 &&& (255 : Int32))), .unset, .unset, .unset, .unset, .unset, .unset, .unset, .unset] [(.int p3)])) _
    refine XS.sipush X0.here hx rfl (hb hby at_15) ?_
    show Steps p.tables e below (s₁.setTop (mkF m 18 #[.val (.int p1), .val (.int p2), .val (.int p3), .val (.int p4), .val (.int p5), .val (.int p6), .val (.int (p1 &&& (255 : Int32))), .val (.int (p2 &&& (255 : Int32))), .unset, .unset, .unset, .unset, .unset, .unset, .unset, .unset] [(.int (255 : Int32)), (.int p3)])) _
    refine XS.iand X0.here hx rfl (hb hby at_18) rfl ?_
    show Steps p.tables e below (s₁.setTop (mkF m 19 #[.val (.int p1), .val (.int p2), .val (.int p3), .val (.int p4), .val (.int p5), .val (.int p6), .val (.int (p1 &&& (255 : Int32))), .val (.int (p2 &&& (255 : Int32))), .unset, .unset, .unset, .unset, .unset, .unset, .unset, .unset] [(.int (p3 &&& (255 : Int32)))])) _
    refine XS.istore X0.here hx rfl (hb hby at_19) rfl (l' := #[.val (.int p1), .val (.int p2), .val (.int p3), .val (.int p4), .val (.int p5), .val (.int p6), .val (.int (p1 &&& (255 : Int32))), .val (.int (p2 &&& (255 : Int32))), .val (.int (p3 &&& (255 : Int32))), .unset, .unset, .unset, .unset, .unset, .unset, .unset]) rfl ?_
    show Steps p.tables e below (s₁.setTop (mkF m 21 #[.val (.int p1), .val (.int p2), .val (.int p3), .val (.int p4), .val (.int p5), .val (.int p6), .val (.int (p1 &&& (255 : Int32))), .val (.int (p2 &&& (255 : Int32))), .val (.int (p3 &&& (255 : Int32))), .unset, .unset, .unset, .unset, .unset, .unset, .unset] [])) _
    refine XS.iloadN X0.here hx rfl (hb hby at_21) rfl ?_
    show Steps p.tables e below (s₁.setTop (mkF m 22 #[.val (.int p1), .val (.int p2), .val (.int p3), .val (.int p4), .val (.int p5), .val (.int p6), .val (.int (p1 &&& (255 : Int32))), .val (.int (p2 &&& (255 : Int32))), .val (.int (p3 &&& (255 : Int32))), .unset, .unset, .unset, .unset, .unset, .unset, .unset] [(.int p4)])) _
    refine XS.iloadN X0.here hx rfl (hb hby at_22) rfl ?_
    show Steps p.tables e below (s₁.setTop (mkF m 23 #[.val (.int p1), .val (.int p2), .val (.int p3), .val (.int p4), .val (.int p5), .val (.int p6), .val (.int (p1 &&& (255 : Int32))), .val (.int (p2 &&& (255 : Int32))), .val (.int (p3 &&& (255 : Int32))), .unset, .unset, .unset, .unset, .unset, .unset, .unset] [(.int p4), (.int p4)])) _
    refine XS.iload X0.here hx rfl (hb hby at_23) rfl ?_
    show Steps p.tables e below (s₁.setTop (mkF m 25 #[.val (.int p1), .val (.int p2), .val (.int p3), .val (.int p4), .val (.int p5), .val (.int p6), .val (.int (p1 &&& (255 : Int32))), .val (.int (p2 &&& (255 : Int32))), .val (.int (p3 &&& (255 : Int32))), .unset, .unset, .unset, .unset, .unset, .unset, .unset] [(.int (p1 &&& (255 : Int32))), (.int p4), (.int p4)])) _
    refine st7 _ ?_
    show Steps p.tables e below (T7.setTop (mkF m 28 #[.val (.int p1), .val (.int p2), .val (.int p3), .val (.int p4), .val (.int p5), .val (.int p6), .val (.int (p1 &&& (255 : Int32))), .val (.int (p2 &&& (255 : Int32))), .val (.int (p3 &&& (255 : Int32))), .unset, .unset, .unset, .unset, .unset, .unset, .unset] [(.int (own_pick p4 p4 (p1 &&& (255 : Int32))))])) _
    refine XS.istore X7.here hx rfl (hb hby at_28) rfl (l' := #[.val (.int p1), .val (.int p2), .val (.int p3), .val (.int p4), .val (.int p5), .val (.int p6), .val (.int (p1 &&& (255 : Int32))), .val (.int (p2 &&& (255 : Int32))), .val (.int (p3 &&& (255 : Int32))), .val (.int (own_pick p4 p4 (p1 &&& (255 : Int32)))), .unset, .unset, .unset, .unset, .unset, .unset]) rfl ?_
    show Steps p.tables e below (T7.setTop (mkF m 30 #[.val (.int p1), .val (.int p2), .val (.int p3), .val (.int p4), .val (.int p5), .val (.int p6), .val (.int (p1 &&& (255 : Int32))), .val (.int (p2 &&& (255 : Int32))), .val (.int (p3 &&& (255 : Int32))), .val (.int (own_pick p4 p4 (p1 &&& (255 : Int32)))), .unset, .unset, .unset, .unset, .unset, .unset] [])) _
    refine XS.iload X7.here hx rfl (hb hby at_30) rfl ?_
    show Steps p.tables e below (T7.setTop (mkF m 32 #[.val (.int p1), .val (.int p2), .val (.int p3), .val (.int p4), .val (.int p5), .val (.int p6), .val (.int (p1 &&& (255 : Int32))), .val (.int (p2 &&& (255 : Int32))), .val (.int (p3 &&& (255 : Int32))), .val (.int (own_pick p4 p4 (p1 &&& (255 : Int32)))), .unset, .unset, .unset, .unset, .unset, .unset] [(.int p5)])) _
    refine XS.iload X7.here hx rfl (hb hby at_32) rfl ?_
    show Steps p.tables e below (T7.setTop (mkF m 34 #[.val (.int p1), .val (.int p2), .val (.int p3), .val (.int p4), .val (.int p5), .val (.int p6), .val (.int (p1 &&& (255 : Int32))), .val (.int (p2 &&& (255 : Int32))), .val (.int (p3 &&& (255 : Int32))), .val (.int (own_pick p4 p4 (p1 &&& (255 : Int32)))), .unset, .unset, .unset, .unset, .unset, .unset] [(.int p5), (.int p5)])) _
    refine XS.iload X7.here hx rfl (hb hby at_34) rfl ?_
    show Steps p.tables e below (T7.setTop (mkF m 36 #[.val (.int p1), .val (.int p2), .val (.int p3), .val (.int p4), .val (.int p5), .val (.int p6), .val (.int (p1 &&& (255 : Int32))), .val (.int (p2 &&& (255 : Int32))), .val (.int (p3 &&& (255 : Int32))), .val (.int (own_pick p4 p4 (p1 &&& (255 : Int32)))), .unset, .unset, .unset, .unset, .unset, .unset] [(.int (p2 &&& (255 : Int32))), (.int p5), (.int p5)])) _
    refine st8 _ ?_
    show Steps p.tables e below (T8.setTop (mkF m 39 #[.val (.int p1), .val (.int p2), .val (.int p3), .val (.int p4), .val (.int p5), .val (.int p6), .val (.int (p1 &&& (255 : Int32))), .val (.int (p2 &&& (255 : Int32))), .val (.int (p3 &&& (255 : Int32))), .val (.int (own_pick p4 p4 (p1 &&& (255 : Int32)))), .unset, .unset, .unset, .unset, .unset, .unset] [(.int (own_pick p5 p5 (p2 &&& (255 : Int32))))])) _
    refine XS.istore X8.here hx rfl (hb hby at_39) rfl (l' := #[.val (.int p1), .val (.int p2), .val (.int p3), .val (.int p4), .val (.int p5), .val (.int p6), .val (.int (p1 &&& (255 : Int32))), .val (.int (p2 &&& (255 : Int32))), .val (.int (p3 &&& (255 : Int32))), .val (.int (own_pick p4 p4 (p1 &&& (255 : Int32)))), .val (.int (own_pick p5 p5 (p2 &&& (255 : Int32)))), .unset, .unset, .unset, .unset, .unset]) rfl ?_
    show Steps p.tables e below (T8.setTop (mkF m 41 #[.val (.int p1), .val (.int p2), .val (.int p3), .val (.int p4), .val (.int p5), .val (.int p6), .val (.int (p1 &&& (255 : Int32))), .val (.int (p2 &&& (255 : Int32))), .val (.int (p3 &&& (255 : Int32))), .val (.int (own_pick p4 p4 (p1 &&& (255 : Int32)))), .val (.int (own_pick p5 p5 (p2 &&& (255 : Int32)))), .unset, .unset, .unset, .unset, .unset] [])) _
    refine XS.iload X8.here hx rfl (hb hby at_41) rfl ?_
    show Steps p.tables e below (T8.setTop (mkF m 43 #[.val (.int p1), .val (.int p2), .val (.int p3), .val (.int p4), .val (.int p5), .val (.int p6), .val (.int (p1 &&& (255 : Int32))), .val (.int (p2 &&& (255 : Int32))), .val (.int (p3 &&& (255 : Int32))), .val (.int (own_pick p4 p4 (p1 &&& (255 : Int32)))), .val (.int (own_pick p5 p5 (p2 &&& (255 : Int32)))), .unset, .unset, .unset, .unset, .unset] [(.int p6)])) _
    refine XS.iload X8.here hx rfl (hb hby at_43) rfl ?_
    show Steps p.tables e below (T8.setTop (mkF m 45 #[.val (.int p1), .val (.int p2), .val (.int p3), .val (.int p4), .val (.int p5), .val (.int p6), .val (.int (p1 &&& (255 : Int32))), .val (.int (p2 &&& (255 : Int32))), .val (.int (p3 &&& (255 : Int32))), .val (.int (own_pick p4 p4 (p1 &&& (255 : Int32)))), .val (.int (own_pick p5 p5 (p2 &&& (255 : Int32)))), .unset, .unset, .unset, .unset, .unset] [(.int p6), (.int p6)])) _
    refine XS.iload X8.here hx rfl (hb hby at_45) rfl ?_
    show Steps p.tables e below (T8.setTop (mkF m 47 #[.val (.int p1), .val (.int p2), .val (.int p3), .val (.int p4), .val (.int p5), .val (.int p6), .val (.int (p1 &&& (255 : Int32))), .val (.int (p2 &&& (255 : Int32))), .val (.int (p3 &&& (255 : Int32))), .val (.int (own_pick p4 p4 (p1 &&& (255 : Int32)))), .val (.int (own_pick p5 p5 (p2 &&& (255 : Int32)))), .unset, .unset, .unset, .unset, .unset] [(.int (p3 &&& (255 : Int32))), (.int p6), (.int p6)])) _
    refine st9 _ ?_
    show Steps p.tables e below (T9.setTop (mkF m 50 #[.val (.int p1), .val (.int p2), .val (.int p3), .val (.int p4), .val (.int p5), .val (.int p6), .val (.int (p1 &&& (255 : Int32))), .val (.int (p2 &&& (255 : Int32))), .val (.int (p3 &&& (255 : Int32))), .val (.int (own_pick p4 p4 (p1 &&& (255 : Int32)))), .val (.int (own_pick p5 p5 (p2 &&& (255 : Int32)))), .unset, .unset, .unset, .unset, .unset] [(.int (own_pick p6 p6 (p3 &&& (255 : Int32))))])) _
    refine XS.istore X9.here hx rfl (hb hby at_50) rfl (l' := #[.val (.int p1), .val (.int p2), .val (.int p3), .val (.int p4), .val (.int p5), .val (.int p6), .val (.int (p1 &&& (255 : Int32))), .val (.int (p2 &&& (255 : Int32))), .val (.int (p3 &&& (255 : Int32))), .val (.int (own_pick p4 p4 (p1 &&& (255 : Int32)))), .val (.int (own_pick p5 p5 (p2 &&& (255 : Int32)))), .val (.int (own_pick p6 p6 (p3 &&& (255 : Int32)))), .unset, .unset, .unset, .unset]) rfl ?_
    show Steps p.tables e below (T9.setTop (mkF m 52 #[.val (.int p1), .val (.int p2), .val (.int p3), .val (.int p4), .val (.int p5), .val (.int p6), .val (.int (p1 &&& (255 : Int32))), .val (.int (p2 &&& (255 : Int32))), .val (.int (p3 &&& (255 : Int32))), .val (.int (own_pick p4 p4 (p1 &&& (255 : Int32)))), .val (.int (own_pick p5 p5 (p2 &&& (255 : Int32)))), .val (.int (own_pick p6 p6 (p3 &&& (255 : Int32)))), .unset, .unset, .unset, .unset] [])) _
    refine st10 _ ?_
    show Steps p.tables e below (T10.setTop (mkF m 55 #[.val (.int p1), .val (.int p2), .val (.int p3), .val (.int p4), .val (.int p5), .val (.int p6), .val (.int (p1 &&& (255 : Int32))), .val (.int (p2 &&& (255 : Int32))), .val (.int (p3 &&& (255 : Int32))), .val (.int (own_pick p4 p4 (p1 &&& (255 : Int32)))), .val (.int (own_pick p5 p5 (p2 &&& (255 : Int32)))), .val (.int (own_pick p6 p6 (p3 &&& (255 : Int32)))), .unset, .unset, .unset, .unset] [(.ref b10)])) _
    refine XS.dup X10.here hx rfl (hb hby at_55) rfl rfl ?_
    show Steps p.tables e below (T10.setTop (mkF m 56 #[.val (.int p1), .val (.int p2), .val (.int p3), .val (.int p4), .val (.int p5), .val (.int p6), .val (.int (p1 &&& (255 : Int32))), .val (.int (p2 &&& (255 : Int32))), .val (.int (p3 &&& (255 : Int32))), .val (.int (own_pick p4 p4 (p1 &&& (255 : Int32)))), .val (.int (own_pick p5 p5 (p2 &&& (255 : Int32)))), .val (.int (own_pick p6 p6 (p3 &&& (255 : Int32)))), .unset, .unset, .unset, .unset] [(.ref b10), (.ref b10)])) _
    refine XS.iload X10.here hx rfl (hb hby at_56) rfl ?_
    show Steps p.tables e below (T10.setTop (mkF m 58 #[.val (.int p1), .val (.int p2), .val (.int p3), .val (.int p4), .val (.int p5), .val (.int p6), .val (.int (p1 &&& (255 : Int32))), .val (.int (p2 &&& (255 : Int32))), .val (.int (p3 &&& (255 : Int32))), .val (.int (own_pick p4 p4 (p1 &&& (255 : Int32)))), .val (.int (own_pick p5 p5 (p2 &&& (255 : Int32)))), .val (.int (own_pick p6 p6 (p3 &&& (255 : Int32)))), .unset, .unset, .unset, .unset] [(.int (p1 &&& (255 : Int32))), (.ref b10), (.ref b10)])) _
    refine XS.iload X10.here hx rfl (hb hby at_58) rfl ?_
    show Steps p.tables e below (T10.setTop (mkF m 60 #[.val (.int p1), .val (.int p2), .val (.int p3), .val (.int p4), .val (.int p5), .val (.int p6), .val (.int (p1 &&& (255 : Int32))), .val (.int (p2 &&& (255 : Int32))), .val (.int (p3 &&& (255 : Int32))), .val (.int (own_pick p4 p4 (p1 &&& (255 : Int32)))), .val (.int (own_pick p5 p5 (p2 &&& (255 : Int32)))), .val (.int (own_pick p6 p6 (p3 &&& (255 : Int32)))), .unset, .unset, .unset, .unset] [(.int (p2 &&& (255 : Int32))), (.int (p1 &&& (255 : Int32))), (.ref b10), (.ref b10)])) _
    refine XS.iload X10.here hx rfl (hb hby at_60) rfl ?_
    show Steps p.tables e below (T10.setTop (mkF m 62 #[.val (.int p1), .val (.int p2), .val (.int p3), .val (.int p4), .val (.int p5), .val (.int p6), .val (.int (p1 &&& (255 : Int32))), .val (.int (p2 &&& (255 : Int32))), .val (.int (p3 &&& (255 : Int32))), .val (.int (own_pick p4 p4 (p1 &&& (255 : Int32)))), .val (.int (own_pick p5 p5 (p2 &&& (255 : Int32)))), .val (.int (own_pick p6 p6 (p3 &&& (255 : Int32)))), .unset, .unset, .unset, .unset] [(.int (p3 &&& (255 : Int32))), (.int (p2 &&& (255 : Int32))), (.int (p1 &&& (255 : Int32))), (.ref b10), (.ref b10)])) _
    refine st11.trans ?_
    show Steps p.tables e below (T11.setTop (mkF m 65 #[.val (.int p1), .val (.int p2), .val (.int p3), .val (.int p4), .val (.int p5), .val (.int p6), .val (.int (p1 &&& (255 : Int32))), .val (.int (p2 &&& (255 : Int32))), .val (.int (p3 &&& (255 : Int32))), .val (.int (own_pick p4 p4 (p1 &&& (255 : Int32)))), .val (.int (own_pick p5 p5 (p2 &&& (255 : Int32)))), .val (.int (own_pick p6 p6 (p3 &&& (255 : Int32)))), .unset, .unset, .unset, .unset] [(.ref b10)])) _
    refine XS.astore X11.here hx rfl (hb hby at_65) rfl rfl (l' := #[.val (.int p1), .val (.int p2), .val (.int p3), .val (.int p4), .val (.int p5), .val (.int p6), .val (.int (p1 &&& (255 : Int32))), .val (.int (p2 &&& (255 : Int32))), .val (.int (p3 &&& (255 : Int32))), .val (.int (own_pick p4 p4 (p1 &&& (255 : Int32)))), .val (.int (own_pick p5 p5 (p2 &&& (255 : Int32)))), .val (.int (own_pick p6 p6 (p3 &&& (255 : Int32)))), .val (.ref b10), .unset, .unset, .unset]) rfl ?_
    show Steps p.tables e below (T11.setTop (mkF m 67 #[.val (.int p1), .val (.int p2), .val (.int p3), .val (.int p4), .val (.int p5), .val (.int p6), .val (.int (p1 &&& (255 : Int32))), .val (.int (p2 &&& (255 : Int32))), .val (.int (p3 &&& (255 : Int32))), .val (.int (own_pick p4 p4 (p1 &&& (255 : Int32)))), .val (.int (own_pick p5 p5 (p2 &&& (255 : Int32)))), .val (.int (own_pick p6 p6 (p3 &&& (255 : Int32)))), .val (.ref b10), .unset, .unset, .unset] [])) _
    refine st12 _ ?_
    show Steps p.tables e below (T12.setTop (mkF m 70 #[.val (.int p1), .val (.int p2), .val (.int p3), .val (.int p4), .val (.int p5), .val (.int p6), .val (.int (p1 &&& (255 : Int32))), .val (.int (p2 &&& (255 : Int32))), .val (.int (p3 &&& (255 : Int32))), .val (.int (own_pick p4 p4 (p1 &&& (255 : Int32)))), .val (.int (own_pick p5 p5 (p2 &&& (255 : Int32)))), .val (.int (own_pick p6 p6 (p3 &&& (255 : Int32)))), .val (.ref b10), .unset, .unset, .unset] [(.ref b12)])) _
    refine XS.dup X12.here hx rfl (hb hby at_70) rfl rfl ?_
    show Steps p.tables e below (T12.setTop (mkF m 71 #[.val (.int p1), .val (.int p2), .val (.int p3), .val (.int p4), .val (.int p5), .val (.int p6), .val (.int (p1 &&& (255 : Int32))), .val (.int (p2 &&& (255 : Int32))), .val (.int (p3 &&& (255 : Int32))), .val (.int (own_pick p4 p4 (p1 &&& (255 : Int32)))), .val (.int (own_pick p5 p5 (p2 &&& (255 : Int32)))), .val (.int (own_pick p6 p6 (p3 &&& (255 : Int32)))), .val (.ref b10), .unset, .unset, .unset] [(.ref b12), (.ref b12)])) _
    refine XS.iload X12.here hx rfl (hb hby at_71) rfl ?_
    show Steps p.tables e below (T12.setTop (mkF m 73 #[.val (.int p1), .val (.int p2), .val (.int p3), .val (.int p4), .val (.int p5), .val (.int p6), .val (.int (p1 &&& (255 : Int32))), .val (.int (p2 &&& (255 : Int32))), .val (.int (p3 &&& (255 : Int32))), .val (.int (own_pick p4 p4 (p1 &&& (255 : Int32)))), .val (.int (own_pick p5 p5 (p2 &&& (255 : Int32)))), .val (.int (own_pick p6 p6 (p3 &&& (255 : Int32)))), .val (.ref b10), .unset, .unset, .unset] [(.int (own_pick p4 p4 (p1 &&& (255 : Int32)))), (.ref b12), (.ref b12)])) _
    refine XS.iload X12.here hx rfl (hb hby at_73) rfl ?_
    show Steps p.tables e below (T12.setTop (mkF m 75 #[.val (.int p1), .val (.int p2), .val (.int p3), .val (.int p4), .val (.int p5), .val (.int p6), .val (.int (p1 &&& (255 : Int32))), .val (.int (p2 &&& (255 : Int32))), .val (.int (p3 &&& (255 : Int32))), .val (.int (own_pick p4 p4 (p1 &&& (255 : Int32)))), .val (.int (own_pick p5 p5 (p2 &&& (255 : Int32)))), .val (.int (own_pick p6 p6 (p3 &&& (255 : Int32)))), .val (.ref b10), .unset, .unset, .unset] [(.int (own_pick p5 p5 (p2 &&& (255 : Int32)))), (.int (own_pick p4 p4 (p1 &&& (255 : Int32)))), (.ref b12), (.ref b12)])) _
    refine XS.iload X12.here hx rfl (hb hby at_75) rfl ?_
    show Steps p.tables e below (T12.setTop (mkF m 77 #[.val (.int p1), .val (.int p2), .val (.int p3), .val (.int p4), .val (.int p5), .val (.int p6), .val (.int (p1 &&& (255 : Int32))), .val (.int (p2 &&& (255 : Int32))), .val (.int (p3 &&& (255 : Int32))), .val (.int (own_pick p4 p4 (p1 &&& (255 : Int32)))), .val (.int (own_pick p5 p5 (p2 &&& (255 : Int32)))), .val (.int (own_pick p6 p6 (p3 &&& (255 : Int32)))), .val (.ref b10), .unset, .unset, .unset] [(.int (own_pick p6 p6 (p3 &&& (255 : Int32)))), (.int (own_pick p5 p5 (p2 &&& (255 : Int32)))), (.int (own_pick p4 p4 (p1 &&& (255 : Int32)))), (.ref b12), (.ref b12)])) _
    refine st13.trans ?_
    show Steps p.tables e below (T13.setTop (mkF m 80 #[.val (.int p1), .val (.int p2), .val (.int p3), .val (.int p4), .val (.int p5), .val (.int p6), .val (.int (p1 &&& (255 : Int32))), .val (.int (p2 &&& (255 : Int32))), .val (.int (p3 &&& (255 : Int32))), .val (.int (own_pick p4 p4 (p1 &&& (255 : Int32)))), .val (.int (own_pick p5 p5 (p2 &&& (255 : Int32)))), .val (.int (own_pick p6 p6 (p3 &&& (255 : Int32)))), .val (.ref b10), .unset, .unset, .unset] [(.ref b12)])) _
    refine XS.astore X13.here hx rfl (hb hby at_80) rfl rfl (l' := #[.val (.int p1), .val (.int p2), .val (.int p3), .val (.int p4), .val (.int p5), .val (.int p6), .val (.int (p1 &&& (255 : Int32))), .val (.int (p2 &&& (255 : Int32))), .val (.int (p3 &&& (255 : Int32))), .val (.int (own_pick p4 p4 (p1 &&& (255 : Int32)))), .val (.int (own_pick p5 p5 (p2 &&& (255 : Int32)))), .val (.int (own_pick p6 p6 (p3 &&& (255 : Int32)))), .val (.ref b10), .val (.ref b12), .unset, .unset]) rfl ?_
    show Steps p.tables e below (T13.setTop (mkF m 82 #[.val (.int p1), .val (.int p2), .val (.int p3), .val (.int p4), .val (.int p5), .val (.int p6), .val (.int (p1 &&& (255 : Int32))), .val (.int (p2 &&& (255 : Int32))), .val (.int (p3 &&& (255 : Int32))), .val (.int (own_pick p4 p4 (p1 &&& (255 : Int32)))), .val (.int (own_pick p5 p5 (p2 &&& (255 : Int32)))), .val (.int (own_pick p6 p6 (p3 &&& (255 : Int32)))), .val (.ref b10), .val (.ref b12), .unset, .unset] [])) _
    refine XS.iload X13.here hx rfl (hb hby at_82) rfl ?_
    show Steps p.tables e below (T13.setTop (mkF m 84 #[.val (.int p1), .val (.int p2), .val (.int p3), .val (.int p4), .val (.int p5), .val (.int p6), .val (.int (p1 &&& (255 : Int32))), .val (.int (p2 &&& (255 : Int32))), .val (.int (p3 &&& (255 : Int32))), .val (.int (own_pick p4 p4 (p1 &&& (255 : Int32)))), .val (.int (own_pick p5 p5 (p2 &&& (255 : Int32)))), .val (.int (own_pick p6 p6 (p3 &&& (255 : Int32)))), .val (.ref b10), .val (.ref b12), .unset, .unset] [(.int (p1 &&& (255 : Int32)))])) _
    refine XS.iload X13.here hx rfl (hb hby at_84) rfl ?_
    show Steps p.tables e below (T13.setTop (mkF m 86 #[.val (.int p1), .val (.int p2), .val (.int p3), .val (.int p4), .val (.int p5), .val (.int p6), .val (.int (p1 &&& (255 : Int32))), .val (.int (p2 &&& (255 : Int32))), .val (.int (p3 &&& (255 : Int32))), .val (.int (own_pick p4 p4 (p1 &&& (255 : Int32)))), .val (.int (own_pick p5 p5 (p2 &&& (255 : Int32)))), .val (.int (own_pick p6 p6 (p3 &&& (255 : Int32)))), .val (.ref b10), .val (.ref b12), .unset, .unset] [(.int (own_pick p4 p4 (p1 &&& (255 : Int32)))), (.int (p1 &&& (255 : Int32)))])) _
    refine XS.icmpNo X13.here hx rfl (hb hby at_86) rfl (teq (by first | exact hE0 | exact hE1 | exact hE2 | exact hv | exact hv2 | exact own_self _ _ _ | decide : (p1 &&& (255 : Int32)) = (own_pick p4 p4 (p1 &&& (255 : Int32))))).2 ?_
    show Steps p.tables e below (T13.setTop (mkF m 89 #[.val (.int p1), .val (.int p2), .val (.int p3), .val (.int p4), .val (.int p5), .val (.int p6), .val (.int (p1 &&& (255 : Int32))), .val (.int (p2 &&& (255 : Int32))), .val (.int (p3 &&& (255 : Int32))), .val (.int (own_pick p4 p4 (p1 &&& (255 : Int32)))), .val (.int (own_pick p5 p5 (p2 &&& (255 : Int32)))), .val (.int (own_pick p6 p6 (p3 &&& (255 : Int32)))), .val (.ref b10), .val (.ref b12), .unset, .unset] [])) _
    refine XS.iload X13.here hx rfl (hb hby at_89) rfl ?_
    show Steps p.tables e below (T13.setTop (mkF m 91 #[.val (.int p1), .val (.int p2), .val (.int p3), .val (.int p4), .val (.int p5), .val (.int p6), .val (.int (p1 &&& (255 : Int32))), .val (.int (p2 &&& (255 : Int32))), .val (.int (p3 &&& (255 : Int32))), .val (.int (own_pick p4 p4 (p1 &&& (255 : Int32)))), .val (.int (own_pick p5 p5 (p2 &&& (255 : Int32)))), .val (.int (own_pick p6 p6 (p3 &&& (255 : Int32)))), .val (.ref b10), .val (.ref b12), .unset, .unset] [(.int (p2 &&& (255 : Int32)))])) _
    refine XS.iload X13.here hx rfl (hb hby at_91) rfl ?_
    show Steps p.tables e below (T13.setTop (mkF m 93 #[.val (.int p1), .val (.int p2), .val (.int p3), .val (.int p4), .val (.int p5), .val (.int p6), .val (.int (p1 &&& (255 : Int32))), .val (.int (p2 &&& (255 : Int32))), .val (.int (p3 &&& (255 : Int32))), .val (.int (own_pick p4 p4 (p1 &&& (255 : Int32)))), .val (.int (own_pick p5 p5 (p2 &&& (255 : Int32)))), .val (.int (own_pick p6 p6 (p3 &&& (255 : Int32)))), .val (.ref b10), .val (.ref b12), .unset, .unset] [(.int (own_pick p5 p5 (p2 &&& (255 : Int32)))), (.int (p2 &&& (255 : Int32)))])) _
    refine XS.icmpNo X13.here hx rfl (hb hby at_93) rfl (teq (by first | exact hE0 | exact hE1 | exact hE2 | exact hv | exact hv2 | exact own_self _ _ _ | decide : (p2 &&& (255 : Int32)) = (own_pick p5 p5 (p2 &&& (255 : Int32))))).2 ?_
    show Steps p.tables e below (T13.setTop (mkF m 96 #[.val (.int p1), .val (.int p2), .val (.int p3), .val (.int p4), .val (.int p5), .val (.int p6), .val (.int (p1 &&& (255 : Int32))), .val (.int (p2 &&& (255 : Int32))), .val (.int (p3 &&& (255 : Int32))), .val (.int (own_pick p4 p4 (p1 &&& (255 : Int32)))), .val (.int (own_pick p5 p5 (p2 &&& (255 : Int32)))), .val (.int (own_pick p6 p6 (p3 &&& (255 : Int32)))), .val (.ref b10), .val (.ref b12), .unset, .unset] [])) _
    refine XS.iload X13.here hx rfl (hb hby at_96) rfl ?_
    show Steps p.tables e below (T13.setTop (mkF m 98 #[.val (.int p1), .val (.int p2), .val (.int p3), .val (.int p4), .val (.int p5), .val (.int p6), .val (.int (p1 &&& (255 : Int32))), .val (.int (p2 &&& (255 : Int32))), .val (.int (p3 &&& (255 : Int32))), .val (.int (own_pick p4 p4 (p1 &&& (255 : Int32)))), .val (.int (own_pick p5 p5 (p2 &&& (255 : Int32)))), .val (.int (own_pick p6 p6 (p3 &&& (255 : Int32)))), .val (.ref b10), .val (.ref b12), .unset, .unset] [(.int (p3 &&& (255 : Int32)))])) _
    refine XS.iload X13.here hx rfl (hb hby at_98) rfl ?_
    show Steps p.tables e below (T13.setTop (mkF m 100 #[.val (.int p1), .val (.int p2), .val (.int p3), .val (.int p4), .val (.int p5), .val (.int p6), .val (.int (p1 &&& (255 : Int32))), .val (.int (p2 &&& (255 : Int32))), .val (.int (p3 &&& (255 : Int32))), .val (.int (own_pick p4 p4 (p1 &&& (255 : Int32)))), .val (.int (own_pick p5 p5 (p2 &&& (255 : Int32)))), .val (.int (own_pick p6 p6 (p3 &&& (255 : Int32)))), .val (.ref b10), .val (.ref b12), .unset, .unset] [(.int (own_pick p6 p6 (p3 &&& (255 : Int32)))), (.int (p3 &&& (255 : Int32)))])) _
    refine XS.icmpYes X13.here hx rfl (pc0 := 100) (pc' := 107) rfl (hb hby at_100) rfl (feq (by first | exact hE0 | exact hE1 | exact hE2 | exact hv | exact hv2 | exact own_self _ _ _ | decide : ¬ ((p3 &&& (255 : Int32)) = (own_pick p6 p6 (p3 &&& (255 : Int32)))))).2 (by decide) (by decide) ?_
    show Steps p.tables e below (T13.setTop (mkF m 107 #[.val (.int p1), .val (.int p2), .val (.int p3), .val (.int p4), .val (.int p5), .val (.int p6), .val (.int (p1 &&& (255 : Int32))), .val (.int (p2 &&& (255 : Int32))), .val (.int (p3 &&& (255 : Int32))), .val (.int (own_pick p4 p4 (p1 &&& (255 : Int32)))), .val (.int (own_pick p5 p5 (p2 &&& (255 : Int32)))), .val (.int (own_pick p6 p6 (p3 &&& (255 : Int32)))), .val (.ref b10), .val (.ref b12), .unset, .unset] [])) _
    refine XS.iconst X13.here hx rfl (hb hby at_107) ?_
    show Steps p.tables e below (T13.setTop (mkF m 108 #[.val (.int p1), .val (.int p2), .val (.int p3), .val (.int p4), .val (.int p5), .val (.int p6), .val (.int (p1 &&& (255 : Int32))), .val (.int (p2 &&& (255 : Int32))), .val (.int (p3 &&& (255 : Int32))), .val (.int (own_pick p4 p4 (p1 &&& (255 : Int32)))), .val (.int (own_pick p5 p5 (p2 &&& (255 : Int32)))), .val (.int (own_pick p6 p6 (p3 &&& (255 : Int32)))), .val (.ref b10), .val (.ref b12), .unset, .unset] [(.int (0 : Int32))])) _
    refine XS.istore X13.here hx rfl (hb hby at_108) rfl (l' := #[.val (.int p1), .val (.int p2), .val (.int p3), .val (.int p4), .val (.int p5), .val (.int p6), .val (.int (p1 &&& (255 : Int32))), .val (.int (p2 &&& (255 : Int32))), .val (.int (p3 &&& (255 : Int32))), .val (.int (own_pick p4 p4 (p1 &&& (255 : Int32)))), .val (.int (own_pick p5 p5 (p2 &&& (255 : Int32)))), .val (.int (own_pick p6 p6 (p3 &&& (255 : Int32)))), .val (.ref b10), .val (.ref b12), .val (.int (0 : Int32)), .unset]) rfl ?_
    show Steps p.tables e below (T13.setTop (mkF m 110 #[.val (.int p1), .val (.int p2), .val (.int p3), .val (.int p4), .val (.int p5), .val (.int p6), .val (.int (p1 &&& (255 : Int32))), .val (.int (p2 &&& (255 : Int32))), .val (.int (p3 &&& (255 : Int32))), .val (.int (own_pick p4 p4 (p1 &&& (255 : Int32)))), .val (.int (own_pick p5 p5 (p2 &&& (255 : Int32)))), .val (.int (own_pick p6 p6 (p3 &&& (255 : Int32)))), .val (.ref b10), .val (.ref b12), .val (.int (0 : Int32)), .unset] [])) _
    refine XS.iloadN X13.here hx rfl (hb hby at_110) rfl ?_
    show Steps p.tables e below (T13.setTop (mkF m 111 #[.val (.int p1), .val (.int p2), .val (.int p3), .val (.int p4), .val (.int p5), .val (.int p6), .val (.int (p1 &&& (255 : Int32))), .val (.int (p2 &&& (255 : Int32))), .val (.int (p3 &&& (255 : Int32))), .val (.int (own_pick p4 p4 (p1 &&& (255 : Int32)))), .val (.int (own_pick p5 p5 (p2 &&& (255 : Int32)))), .val (.int (own_pick p6 p6 (p3 &&& (255 : Int32)))), .val (.ref b10), .val (.ref b12), .val (.int (0 : Int32)), .unset] [(.int p3)])) _
    refine st14 _ ?_
    show Steps p.tables e below (T14.setTop (mkF m 114 #[.val (.int p1), .val (.int p2), .val (.int p3), .val (.int p4), .val (.int p5), .val (.int p6), .val (.int (p1 &&& (255 : Int32))), .val (.int (p2 &&& (255 : Int32))), .val (.int (p3 &&& (255 : Int32))), .val (.int (own_pick p4 p4 (p1 &&& (255 : Int32)))), .val (.int (own_pick p5 p5 (p2 &&& (255 : Int32)))), .val (.int (own_pick p6 p6 (p3 &&& (255 : Int32)))), .val (.ref b10), .val (.ref b12), .val (.int (0 : Int32)), .unset] [(.ref a14)])) _
    refine XS.astore X14.here hx rfl (hb hby at_114) rfl rfl (l' := #[.val (.int p1), .val (.int p2), .val (.int p3), .val (.int p4), .val (.int p5), .val (.int p6), .val (.int (p1 &&& (255 : Int32))), .val (.int (p2 &&& (255 : Int32))), .val (.int (p3 &&& (255 : Int32))), .val (.int (own_pick p4 p4 (p1 &&& (255 : Int32)))), .val (.int (own_pick p5 p5 (p2 &&& (255 : Int32)))), .val (.int (own_pick p6 p6 (p3 &&& (255 : Int32)))), .val (.ref b10), .val (.ref b12), .val (.int (0 : Int32)), .val (.ref a14)]) rfl ?_
    show Steps p.tables e below (T14.setTop (mkF m 116 #[.val (.int p1), .val (.int p2), .val (.int p3), .val (.int p4), .val (.int p5), .val (.int p6), .val (.int (p1 &&& (255 : Int32))), .val (.int (p2 &&& (255 : Int32))), .val (.int (p3 &&& (255 : Int32))), .val (.int (own_pick p4 p4 (p1 &&& (255 : Int32)))), .val (.int (own_pick p5 p5 (p2 &&& (255 : Int32)))), .val (.int (own_pick p6 p6 (p3 &&& (255 : Int32)))), .val (.ref b10), .val (.ref b12), .val (.int (0 : Int32)), .val (.ref a14)] [])) _
    refine XS.aload X14.here hx rfl (hb hby at_116) rfl rfl ?_
    show Steps p.tables e below (T14.setTop (mkF m 118 #[.val (.int p1), .val (.int p2), .val (.int p3), .val (.int p4), .val (.int p5), .val (.int p6), .val (.int (p1 &&& (255 : Int32))), .val (.int (p2 &&& (255 : Int32))), .val (.int (p3 &&& (255 : Int32))), .val (.int (own_pick p4 p4 (p1 &&& (255 : Int32)))), .val (.int (own_pick p5 p5 (p2 &&& (255 : Int32)))), .val (.int (own_pick p6 p6 (p3 &&& (255 : Int32)))), .val (.ref b10), .val (.ref b12), .val (.int (0 : Int32)), .val (.ref a14)] [(.ref b10)])) _
    refine XS.aload X14.here hx rfl (hb hby at_118) rfl rfl ?_
    show Steps p.tables e below (T14.setTop (mkF m 120 #[.val (.int p1), .val (.int p2), .val (.int p3), .val (.int p4), .val (.int p5), .val (.int p6), .val (.int (p1 &&& (255 : Int32))), .val (.int (p2 &&& (255 : Int32))), .val (.int (p3 &&& (255 : Int32))), .val (.int (own_pick p4 p4 (p1 &&& (255 : Int32)))), .val (.int (own_pick p5 p5 (p2 &&& (255 : Int32)))), .val (.int (own_pick p6 p6 (p3 &&& (255 : Int32)))), .val (.ref b10), .val (.ref b12), .val (.int (0 : Int32)), .val (.ref a14)] [(.ref b12), (.ref b10)])) _
    refine st15.trans ?_
    show Steps p.tables e below (T15.setTop (mkF m 123 #[.val (.int p1), .val (.int p2), .val (.int p3), .val (.int p4), .val (.int p5), .val (.int p6), .val (.int (p1 &&& (255 : Int32))), .val (.int (p2 &&& (255 : Int32))), .val (.int (p3 &&& (255 : Int32))), .val (.int (own_pick p4 p4 (p1 &&& (255 : Int32)))), .val (.int (own_pick p5 p5 (p2 &&& (255 : Int32)))), .val (.int (own_pick p6 p6 (p3 &&& (255 : Int32)))), .val (.ref b10), .val (.ref b12), .val (.int (0 : Int32)), .val (.ref a14)] [(.int (own_eq3 (p1 &&& (255 : Int32)) (p2 &&& (255 : Int32)) (p3 &&& (255 : Int32)) (own_pick p4 p4 (p1 &&& (255 : Int32))) (own_pick p5 p5 (p2 &&& (255 : Int32))) (own_pick p6 p6 (p3 &&& (255 : Int32)))))])) _
    refine XS.iload X15.here hx rfl (hb hby at_123) rfl ?_
    show Steps p.tables e below (T15.setTop (mkF m 125 #[.val (.int p1), .val (.int p2), .val (.int p3), .val (.int p4), .val (.int p5), .val (.int p6), .val (.int (p1 &&& (255 : Int32))), .val (.int (p2 &&& (255 : Int32))), .val (.int (p3 &&& (255 : Int32))), .val (.int (own_pick p4 p4 (p1 &&& (255 : Int32)))), .val (.int (own_pick p5 p5 (p2 &&& (255 : Int32)))), .val (.int (own_pick p6 p6 (p3 &&& (255 : Int32)))), .val (.ref b10), .val (.ref b12), .val (.int (0 : Int32)), .val (.ref a14)] [(.int (0 : Int32)), (.int (own_eq3 (p1 &&& (255 : Int32)) (p2 &&& (255 : Int32)) (p3 &&& (255 : Int32)) (own_pick p4 p4 (p1 &&& (255 : Int32))) (own_pick p5 p5 (p2 &&& (255 : Int32))) (own_pick p6 p6 (p3 &&& (255 : Int32)))))])) _
    refine XS.icmpNo X15.here hx rfl (hb hby at_125) rfl (teq (by first | exact hE0 | exact hE1 | exact hE2 | exact hv | exact hv2 | exact own_self _ _ _ | decide : (own_eq3 (p1 &&& (255 : Int32)) (p2 &&& (255 : Int32)) (p3 &&& (255 : Int32)) (own_pick p4 p4 (p1 &&& (255 : Int32))) (own_pick p5 p5 (p2 &&& (255 : Int32))) (own_pick p6 p6 (p3 &&& (255 : Int32)))) = (0 : Int32))).2 ?_
    show Steps p.tables e below (T15.setTop (mkF m 128 #[.val (.int p1), .val (.int p2), .val (.int p3), .val (.int p4), .val (.int p5), .val (.int p6), .val (.int (p1 &&& (255 : Int32))), .val (.int (p2 &&& (255 : Int32))), .val (.int (p3 &&& (255 : Int32))), .val (.int (own_pick p4 p4 (p1 &&& (255 : Int32)))), .val (.int (own_pick p5 p5 (p2 &&& (255 : Int32)))), .val (.int (own_pick p6 p6 (p3 &&& (255 : Int32)))), .val (.ref b10), .val (.ref b12), .val (.int (0 : Int32)), .val (.ref a14)] [])) _
    refine XS.aload X15.here hx rfl (hb hby at_128) rfl rfl ?_
    show Steps p.tables e below (T15.setTop (mkF m 130 #[.val (.int p1), .val (.int p2), .val (.int p3), .val (.int p4), .val (.int p5), .val (.int p6), .val (.int (p1 &&& (255 : Int32))), .val (.int (p2 &&& (255 : Int32))), .val (.int (p3 &&& (255 : Int32))), .val (.int (own_pick p4 p4 (p1 &&& (255 : Int32)))), .val (.int (own_pick p5 p5 (p2 &&& (255 : Int32)))), .val (.int (own_pick p6 p6 (p3 &&& (255 : Int32)))), .val (.ref b10), .val (.ref b12), .val (.int (0 : Int32)), .val (.ref a14)] [(.ref b12)])) _
    refine XS.aload X15.here hx rfl (hb hby at_130) rfl rfl ?_
    show Steps p.tables e below (T15.setTop (mkF m 132 #[.val (.int p1), .val (.int p2), .val (.int p3), .val (.int p4), .val (.int p5), .val (.int p6), .val (.int (p1 &&& (255 : Int32))), .val (.int (p2 &&& (255 : Int32))), .val (.int (p3 &&& (255 : Int32))), .val (.int (own_pick p4 p4 (p1 &&& (255 : Int32)))), .val (.int (own_pick p5 p5 (p2 &&& (255 : Int32)))), .val (.int (own_pick p6 p6 (p3 &&& (255 : Int32)))), .val (.ref b10), .val (.ref b12), .val (.int (0 : Int32)), .val (.ref a14)] [(.ref b10), (.ref b12)])) _
    refine st16.trans ?_
    show Steps p.tables e below (T16.setTop (mkF m 135 #[.val (.int p1), .val (.int p2), .val (.int p3), .val (.int p4), .val (.int p5), .val (.int p6), .val (.int (p1 &&& (255 : Int32))), .val (.int (p2 &&& (255 : Int32))), .val (.int (p3 &&& (255 : Int32))), .val (.int (own_pick p4 p4 (p1 &&& (255 : Int32)))), .val (.int (own_pick p5 p5 (p2 &&& (255 : Int32)))), .val (.int (own_pick p6 p6 (p3 &&& (255 : Int32)))), .val (.ref b10), .val (.ref b12), .val (.int (0 : Int32)), .val (.ref a14)] [(.int (own_eq3 (own_pick p4 p4 (p1 &&& (255 : Int32))) (own_pick p5 p5 (p2 &&& (255 : Int32))) (own_pick p6 p6 (p3 &&& (255 : Int32))) (p1 &&& (255 : Int32)) (p2 &&& (255 : Int32)) (p3 &&& (255 : Int32))))])) _
    refine XS.iload X16.here hx rfl (hb hby at_135) rfl ?_
    show Steps p.tables e below (T16.setTop (mkF m 137 #[.val (.int p1), .val (.int p2), .val (.int p3), .val (.int p4), .val (.int p5), .val (.int p6), .val (.int (p1 &&& (255 : Int32))), .val (.int (p2 &&& (255 : Int32))), .val (.int (p3 &&& (255 : Int32))), .val (.int (own_pick p4 p4 (p1 &&& (255 : Int32)))), .val (.int (own_pick p5 p5 (p2 &&& (255 : Int32)))), .val (.int (own_pick p6 p6 (p3 &&& (255 : Int32)))), .val (.ref b10), .val (.ref b12), .val (.int (0 : Int32)), .val (.ref a14)] [(.int (0 : Int32)), (.int (own_eq3 (own_pick p4 p4 (p1 &&& (255 : Int32))) (own_pick p5 p5 (p2 &&& (255 : Int32))) (own_pick p6 p6 (p3 &&& (255 : Int32))) (p1 &&& (255 : Int32)) (p2 &&& (255 : Int32)) (p3 &&& (255 : Int32))))])) _
    refine XS.icmpNo X16.here hx rfl (hb hby at_137) rfl (teq (by first | exact hE0 | exact hE1 | exact hE2 | exact hv | exact hv2 | exact own_self _ _ _ | decide : (own_eq3 (own_pick p4 p4 (p1 &&& (255 : Int32))) (own_pick p5 p5 (p2 &&& (255 : Int32))) (own_pick p6 p6 (p3 &&& (255 : Int32))) (p1 &&& (255 : Int32)) (p2 &&& (255 : Int32)) (p3 &&& (255 : Int32))) = (0 : Int32))).2 ?_
    show Steps p.tables e below (T16.setTop (mkF m 140 #[.val (.int p1), .val (.int p2), .val (.int p3), .val (.int p4), .val (.int p5), .val (.int p6), .val (.int (p1 &&& (255 : Int32))), .val (.int (p2 &&& (255 : Int32))), .val (.int (p3 &&& (255 : Int32))), .val (.int (own_pick p4 p4 (p1 &&& (255 : Int32)))), .val (.int (own_pick p5 p5 (p2 &&& (255 : Int32)))), .val (.int (own_pick p6 p6 (p3 &&& (255 : Int32)))), .val (.ref b10), .val (.ref b12), .val (.int (0 : Int32)), .val (.ref a14)] [])) _
    refine XS.aload X16.here hx rfl (hb hby at_140) rfl rfl ?_
    show Steps p.tables e below (T16.setTop (mkF m 142 #[.val (.int p1), .val (.int p2), .val (.int p3), .val (.int p4), .val (.int p5), .val (.int p6), .val (.int (p1 &&& (255 : Int32))), .val (.int (p2 &&& (255 : Int32))), .val (.int (p3 &&& (255 : Int32))), .val (.int (own_pick p4 p4 (p1 &&& (255 : Int32)))), .val (.int (own_pick p5 p5 (p2 &&& (255 : Int32)))), .val (.int (own_pick p6 p6 (p3 &&& (255 : Int32)))), .val (.ref b10), .val (.ref b12), .val (.int (0 : Int32)), .val (.ref a14)] [(.ref b10)])) _
    refine XS.aload X16.here hx rfl (hb hby at_142) rfl rfl ?_
    show Steps p.tables e below (T16.setTop (mkF m 144 #[.val (.int p1), .val (.int p2), .val (.int p3), .val (.int p4), .val (.int p5), .val (.int p6), .val (.int (p1 &&& (255 : Int32))), .val (.int (p2 &&& (255 : Int32))), .val (.int (p3 &&& (255 : Int32))), .val (.int (own_pick p4 p4 (p1 &&& (255 : Int32)))), .val (.int (own_pick p5 p5 (p2 &&& (255 : Int32)))), .val (.int (own_pick p6 p6 (p3 &&& (255 : Int32)))), .val (.ref b10), .val (.ref b12), .val (.int (0 : Int32)), .val (.ref a14)] [(.ref b10), (.ref b10)])) _
    refine st17.trans ?_
    show Steps p.tables e below (T17.setTop (mkF m 147 #[.val (.int p1), .val (.int p2), .val (.int p3), .val (.int p4), .val (.int p5), .val (.int p6), .val (.int (p1 &&& (255 : Int32))), .val (.int (p2 &&& (255 : Int32))), .val (.int (p3 &&& (255 : Int32))), .val (.int (own_pick p4 p4 (p1 &&& (255 : Int32)))), .val (.int (own_pick p5 p5 (p2 &&& (255 : Int32)))), .val (.int (own_pick p6 p6 (p3 &&& (255 : Int32)))), .val (.ref b10), .val (.ref b12), .val (.int (0 : Int32)), .val (.ref a14)] [(.int (own_eq3 (p1 &&& (255 : Int32)) (p2 &&& (255 : Int32)) (p3 &&& (255 : Int32)) (p1 &&& (255 : Int32)) (p2 &&& (255 : Int32)) (p3 &&& (255 : Int32))))])) _
    refine XS.ifNo X17.here hx rfl (hb hby at_147) rfl ((if0 _ _).trans (feq (by first | exact hE0 | exact hE1 | exact hE2 | exact hv | exact hv2 | exact own_self _ _ _ | decide : ¬ ((own_eq3 (p1 &&& (255 : Int32)) (p2 &&& (255 : Int32)) (p3 &&& (255 : Int32)) (p1 &&& (255 : Int32)) (p2 &&& (255 : Int32)) (p3 &&& (255 : Int32))) = (0 : Int32)))).1) ?_
    show Steps p.tables e below (T17.setTop (mkF m 150 #[.val (.int p1), .val (.int p2), .val (.int p3), .val (.int p4), .val (.int p5), .val (.int p6), .val (.int (p1 &&& (255 : Int32))), .val (.int (p2 &&& (255 : Int32))), .val (.int (p3 &&& (255 : Int32))), .val (.int (own_pick p4 p4 (p1 &&& (255 : Int32)))), .val (.int (own_pick p5 p5 (p2 &&& (255 : Int32)))), .val (.int (own_pick p6 p6 (p3 &&& (255 : Int32)))), .val (.ref b10), .val (.ref b12), .val (.int (0 : Int32)), .val (.ref a14)] [])) _
    refine XS.aload X17.here hx rfl (hb hby at_150) rfl rfl ?_
    show Steps p.tables e below (T17.setTop (mkF m 152 #[.val (.int p1), .val (.int p2), .val (.int p3), .val (.int p4), .val (.int p5), .val (.int p6), .val (.int (p1 &&& (255 : Int32))), .val (.int (p2 &&& (255 : Int32))), .val (.int (p3 &&& (255 : Int32))), .val (.int (own_pick p4 p4 (p1 &&& (255 : Int32)))), .val (.int (own_pick p5 p5 (p2 &&& (255 : Int32)))), .val (.int (own_pick p6 p6 (p3 &&& (255 : Int32)))), .val (.ref b10), .val (.ref b12), .val (.int (0 : Int32)), .val (.ref a14)] [(.ref b10)])) _
    refine XS.aconstNull X17.here hx rfl (hb hby at_152) ?_
    show Steps p.tables e below (T17.setTop (mkF m 153 #[.val (.int p1), .val (.int p2), .val (.int p3), .val (.int p4), .val (.int p5), .val (.int p6), .val (.int (p1 &&& (255 : Int32))), .val (.int (p2 &&& (255 : Int32))), .val (.int (p3 &&& (255 : Int32))), .val (.int (own_pick p4 p4 (p1 &&& (255 : Int32)))), .val (.int (own_pick p5 p5 (p2 &&& (255 : Int32)))), .val (.int (own_pick p6 p6 (p3 &&& (255 : Int32)))), .val (.ref b10), .val (.ref b12), .val (.int (0 : Int32)), .val (.ref a14)] [.null, (.ref b10)])) _
    refine st18.trans ?_
    show Steps p.tables e below (T18.setTop (mkF m 156 #[.val (.int p1), .val (.int p2), .val (.int p3), .val (.int p4), .val (.int p5), .val (.int p6), .val (.int (p1 &&& (255 : Int32))), .val (.int (p2 &&& (255 : Int32))), .val (.int (p3 &&& (255 : Int32))), .val (.int (own_pick p4 p4 (p1 &&& (255 : Int32)))), .val (.int (own_pick p5 p5 (p2 &&& (255 : Int32)))), .val (.int (own_pick p6 p6 (p3 &&& (255 : Int32)))), .val (.ref b10), .val (.ref b12), .val (.int (0 : Int32)), .val (.ref a14)] [(.int (0 : Int32))])) _
    refine XS.ifNo X18.here hx rfl (hb hby at_156) rfl ((if0 _ _).trans (teq (by first | exact hE0 | exact hE1 | exact hE2 | exact hv | exact hv2 | exact own_self _ _ _ | decide : (0 : Int32) = (0 : Int32))).2) ?_
    show Steps p.tables e below (T18.setTop (mkF m 159 #[.val (.int p1), .val (.int p2), .val (.int p3), .val (.int p4), .val (.int p5), .val (.int p6), .val (.int (p1 &&& (255 : Int32))), .val (.int (p2 &&& (255 : Int32))), .val (.int (p3 &&& (255 : Int32))), .val (.int (own_pick p4 p4 (p1 &&& (255 : Int32)))), .val (.int (own_pick p5 p5 (p2 &&& (255 : Int32)))), .val (.int (own_pick p6 p6 (p3 &&& (255 : Int32)))), .val (.ref b10), .val (.ref b12), .val (.int (0 : Int32)), .val (.ref a14)] [])) _
    refine XS.aload X18.here hx rfl (hb hby at_159) rfl rfl ?_
    show Steps p.tables e below (T18.setTop (mkF m 161 #[.val (.int p1), .val (.int p2), .val (.int p3), .val (.int p4), .val (.int p5), .val (.int p6), .val (.int (p1 &&& (255 : Int32))), .val (.int (p2 &&& (255 : Int32))), .val (.int (p3 &&& (255 : Int32))), .val (.int (own_pick p4 p4 (p1 &&& (255 : Int32)))), .val (.int (own_pick p5 p5 (p2 &&& (255 : Int32)))), .val (.int (own_pick p6 p6 (p3 &&& (255 : Int32)))), .val (.ref b10), .val (.ref b12), .val (.int (0 : Int32)), .val (.ref a14)] [(.ref b10)])) _
    refine XS.aload X18.here hx rfl (hb hby at_161) rfl rfl ?_
    show Steps p.tables e below (T18.setTop (mkF m 163 #[.val (.int p1), .val (.int p2), .val (.int p3), .val (.int p4), .val (.int p5), .val (.int p6), .val (.int (p1 &&& (255 : Int32))), .val (.int (p2 &&& (255 : Int32))), .val (.int (p3 &&& (255 : Int32))), .val (.int (own_pick p4 p4 (p1 &&& (255 : Int32)))), .val (.int (own_pick p5 p5 (p2 &&& (255 : Int32)))), .val (.int (own_pick p6 p6 (p3 &&& (255 : Int32)))), .val (.ref b10), .val (.ref b12), .val (.int (0 : Int32)), .val (.ref a14)] [(.ref a14), (.ref b10)])) _
    refine st19.trans ?_
    show Steps p.tables e below (T19.setTop (mkF m 166 #[.val (.int p1), .val (.int p2), .val (.int p3), .val (.int p4), .val (.int p5), .val (.int p6), .val (.int (p1 &&& (255 : Int32))), .val (.int (p2 &&& (255 : Int32))), .val (.int (p3 &&& (255 : Int32))), .val (.int (own_pick p4 p4 (p1 &&& (255 : Int32)))), .val (.int (own_pick p5 p5 (p2 &&& (255 : Int32)))), .val (.int (own_pick p6 p6 (p3 &&& (255 : Int32)))), .val (.ref b10), .val (.ref b12), .val (.int (0 : Int32)), .val (.ref a14)] [(.int (0 : Int32))])) _
    refine XS.ifNo X19.here hx rfl (hb hby at_166) rfl ((if0 _ _).trans (teq (by first | exact hE0 | exact hE1 | exact hE2 | exact hv | exact hv2 | exact own_self _ _ _ | decide : (0 : Int32) = (0 : Int32))).2) ?_
    show Steps p.tables e below (T19.setTop (mkF m 169 #[.val (.int p1), .val (.int p2), .val (.int p3), .val (.int p4), .val (.int p5), .val (.int p6), .val (.int (p1 &&& (255 : Int32))), .val (.int (p2 &&& (255 : Int32))), .val (.int (p3 &&& (255 : Int32))), .val (.int (own_pick p4 p4 (p1 &&& (255 : Int32)))), .val (.int (own_pick p5 p5 (p2 &&& (255 : Int32)))), .val (.int (own_pick p6 p6 (p3 &&& (255 : Int32)))), .val (.ref b10), .val (.ref b12), .val (.int (0 : Int32)), .val (.ref a14)] [])) _
    refine XS.iconst X19.here hx rfl (hb hby at_169) ?_
    show Steps p.tables e below (T19.setTop (mkF m 170 #[.val (.int p1), .val (.int p2), .val (.int p3), .val (.int p4), .val (.int p5), .val (.int p6), .val (.int (p1 &&& (255 : Int32))), .val (.int (p2 &&& (255 : Int32))), .val (.int (p3 &&& (255 : Int32))), .val (.int (own_pick p4 p4 (p1 &&& (255 : Int32)))), .val (.int (own_pick p5 p5 (p2 &&& (255 : Int32)))), .val (.int (own_pick p6 p6 (p3 &&& (255 : Int32)))), .val (.ref b10), .val (.ref b12), .val (.int (0 : Int32)), .val (.ref a14)] [(.int (1 : Int32))])) _
    refine XS.goto X19.here hx rfl (pc0 := 170) (pc' := 174) rfl (hb hby at_170) (by decide) (by decide) ?_
    show Steps p.tables e below (T19.setTop (mkF m 174 #[.val (.int p1), .val (.int p2), .val (.int p3), .val (.int p4), .val (.int p5), .val (.int p6), .val (.int (p1 &&& (255 : Int32))), .val (.int (p2 &&& (255 : Int32))), .val (.int (p3 &&& (255 : Int32))), .val (.int (own_pick p4 p4 (p1 &&& (255 : Int32)))), .val (.int (own_pick p5 p5 (p2 &&& (255 : Int32)))), .val (.int (own_pick p6 p6 (p3 &&& (255 : Int32)))), .val (.ref b10), .val (.ref b12), .val (.int (0 : Int32)), .val (.ref a14)] [(.int (1 : Int32))])) _
    exact retN X19 hx (t := .boolean) Bd.returns (by simp) (hb hby at_174) hr
  · show Ql (some (.int (1 : Int32))) n0 _ _
    exact ⟨rfl, N19⟩
theorem rm0 (l : Launch) (Z : State) (a0 : Array Value) (hw : ∀ d ∈ tables_1, d.before a0 Z = true) (ws : List Jvm.Cond) (p1 p2 p3 p4 p5 p6 : Int32) (h0 : Heap) (n0 : Nat) (Z0 : n0 ≤ h0.size) (w4 : Addr) (cl : Cell) (SH : Sta Z h0 "java/lang/Integer$IntegerCache" "high" "I" (.int (127 : Int32))) (SC : Sta Z h0 "java/lang/Integer$IntegerCache" "cache" "[Ljava/lang/Integer;" (.ref w4)) (AC : Arr Z h0 w4 cl (.object "java/lang/Integer")) (hsz : cl.slots.size = 256) (BC : ∀ j : Int32, ¬ (j < 0 ∨ cl.slots.size ≤ j.toNatClampNeg) → ∃ b : Addr, cl.slots[j.toNatClampNeg]? = some (.ref b) ∧ Exa Z h0 b "java/lang/Integer") :
    MetFree l x (head1 (Jvm.Cond.code x code maxLocals ret :: ws) room_1) (fun a U => a = #[(.int p1), (.int p2), (.int p3), (.int p4), (.int p5), (.int p6)] ∧ Z.Warmed39 U.vm ∧ U.heap = h0) (fun _ _ _ _ _ => True) (fun _ U o U' => ∃ v L, o = .returned v ∧ Ql (some (.int (1 : Int32))) n0 v L ∧ FrameEnd U o U' L room_1.cells room_1.slots) := by
  by_cases h1 : (p1 &&& (255 : Int32)) = (own_pick p4 p4 (p1 &&& (255 : Int32)))
  · by_cases h2 : (p2 &&& (255 : Int32)) = (own_pick p5 p5 (p2 &&& (255 : Int32)))
    · by_cases h3 : (p3 &&& (255 : Int32)) = (own_pick p6 p6 (p3 &&& (255 : Int32)))
      · exact rm0_fff l Z a0 hw ws p1 p2 p3 p4 p5 p6 h0 n0 Z0 w4 cl SH SC AC hsz BC h1 h2 h3 (by unfold own_eq3; rw [if_pos ⟨h1.symm, h2.symm, h3.symm⟩]) (by unfold own_eq3; rw [if_pos ⟨h1, h2, h3⟩])
      · exact rm0_fft l Z a0 hw ws p1 p2 p3 p4 p5 p6 h0 n0 Z0 w4 cl SH SC AC hsz BC h1 h2 h3 (by unfold own_eq3; rw [if_neg (fun q => h3 q.2.2.symm)]) (by unfold own_eq3; rw [if_neg (fun q => h3 q.2.2)])
    · exact rm0_ft l Z a0 hw ws p1 p2 p3 p4 p5 p6 h0 n0 Z0 w4 cl SH SC AC hsz BC h1 h2 (by unfold own_eq3; rw [if_neg (fun q => h2 q.2.1.symm)]) (by unfold own_eq3; rw [if_neg (fun q => h2 q.2.1)])
  · exact rm0_t l Z a0 hw ws p1 p2 p3 p4 p5 p6 h0 n0 Z0 w4 cl SH SC AC hsz BC h1 (by unfold own_eq3; rw [if_neg (fun q => h1 q.1.symm)]) (by unfold own_eq3; rw [if_neg (fun q => h1 q.1)])
theorem own_st_idx {C n d : String} {args : Array Value} {s : State} {idx : List Nat} : (Term.static C n d).eval args s none idx s = (Term.static C n d).eval args s none [] s := by rfl
theorem own_sub_idx {args : Array Value} {s : State} {j : Int32} (nn : ¬ j < 0) : (Term.sub (.index 0) (.int 128)).eval args s none [j.toNatClampNeg] s = some (.int (j - 128)) := by
  have h := idx_at (args := args) (first := s) (o := none) (s := s) nn
  simp [Term.eval]
  exact (back32 nn).1
set_option maxRecDepth 65536 in
set_option maxHeartbeats 40000000 in
theorem comes_1 {Post : Tables → Env → Array Value → State → Outcome → State → Prop} (hpost : ∀ tb e args s v u, (limb_1_1.after args s (.returned v) u = true ∧ limb_1_2.after args s (.returned v) u = true ∧ True) → FrameEnd s (.returned v) u (Jvm.fieldLocs frame_1_writes args s ++ Jvm.arrayLocs frame_1_arrays args s ++ Jvm.staticLocs frame_1_statics s) 16 128 → Post tb e args s (.returned v) u) :
    ArmFor flags0 classFile x code maxLocals ret World_1 tables_1 room_1 Calls_1 rest_1 Pre_1 Post := by
  intro l hfl _ _ p e ha hc hk s m args below hf hA hF happ hP
  obtain ⟨hcalls, hrest, hpre⟩ := hP
  obtain ⟨-, -, -, hnamed, -, -, -, hat⟩ := (Spec.applies_iff hf).mp happ
  obtain ⟨hg, hn⟩ := and_e (Cond.before_iff.mp (show (Jvm.Cond.and given_1 narrow_1).before args s = true from hpre))
  obtain ⟨g20, g21⟩ := and_e hg
  obtain ⟨g22, g23⟩ := and_e g21
  obtain ⟨g24, g25⟩ := and_e g23
  obtain ⟨g26, g27⟩ := and_e g25
  obtain ⟨g28, g29⟩ := and_e g27
  obtain ⟨g30, g31⟩ := and_e g29
  obtain ⟨w0, w1, w2, w3, w4, w5, rfl⟩ : ∃ w0 w1 w2 w3 w4 w5 : Value, args = #[w0, w1, w2, w3, w4, w5] := by
    have hs : args.size = 6 := by simpa [Cond.value, given_1] using g20
    obtain ⟨L⟩ := args
    match L, hs with
    | [w0, w1, w2, w3, w4, w5], _ => exact ⟨w0, w1, w2, w3, w4, w5, rfl⟩
  have hw := fun d (hd : d ∈ tables_1) => atoms_spec (ws := Jvm.Cond.code x code maxLocals ret :: tables_1) hat d (List.mem_cons_of_mem _ hd)
  have hfit : Fit s := fun {y c} hc i hi => by
    obtain ⟨ha, rfl⟩ := Array.getElem?_eq_some_iff.mp hc
    have q := List.all_eq_true.mp ((Array.all_eq_true_iff_forall_mem.mp hF) _ (Array.getElem_mem ha)) i (List.mem_range.mpr hi)
    simpa [Array.getElem?_eq_getElem hi] using q
  -- the named sets: hsets indexes jdkStatics_1 (Statement.lean): (hsets _ (List.mem_of_getElem? (i := n) rfl)) is its n-th word, before the call
  obtain ⟨hsets, hown0⟩ := atoms_of _ (rest_1_c_eq ▸ (show rest_1_c.before _ s = true from hrest))
  have hr0 := Cond.before_iff.mp hown0
  obtain ⟨i0, ei0⟩ := is_v g22
  obtain rfl : w0 = (.int i0) := Option.some.inj ei0
  obtain ⟨i1, ei1⟩ := is_v g24
  obtain rfl : w1 = (.int i1) := Option.some.inj ei1
  obtain ⟨i2, ei2⟩ := is_v g26
  obtain rfl : w2 = (.int i2) := Option.some.inj ei2
  obtain ⟨i3, ei3⟩ := is_v g28
  obtain rfl : w3 = (.int i3) := Option.some.inj ei3
  obtain ⟨i4, ei4⟩ := is_v g30
  obtain rfl : w4 = (.int i4) := Option.some.inj ei4
  obtain ⟨i5, ei5⟩ := is_v g31
  obtain rfl : w5 = (.int i5) := Option.some.inj ei5
  have eH := Jvm.Free.NT.SwA.eq_int (hsets _ (List.mem_of_getElem? (i := 3) rfl))
  have SH : Sta s s.heap "java/lang/Integer$IntegerCache" "high" "I" (.int (127 : Int32)) := Sta.start eH (Or.inl (hsets _ (List.mem_of_getElem? (i := 1) rfl)))
  obtain ⟨aC, eC⟩ := arr_v (Cond.before_iff.mp (hsets _ (List.mem_of_getElem? (i := 4) rfl)))
  have SC : Sta s s.heap "java/lang/Integer$IntegerCache" "cache" "[Ljava/lang/Integer;" (.ref aC) := Sta.start eC (Or.inr ⟨(hw _ (List.mem_of_getElem? (i := 24) rfl)), (hsets _ (List.mem_of_getElem? (i := 2) rfl))⟩)
  obtain ⟨clC, AC⟩ := Arr.start eC (Cond.before_iff.mp (hsets _ (List.mem_of_getElem? (i := 4) rfl)))
  obtain ⟨sz1, sz2⟩ := Jvm.Free.IntBox.length_fwd (hsets _ (List.mem_of_getElem? (i := 6) rfl)) eC AC.1 AC.2.1 AC.2.2
  have BX : Bxs s aC clC "java/lang/Integer" "I" (256 : Int32) (fun j => .int (j - 128)) := Bxs.start (fun idx => own_st_idx.trans eC) AC sz1 sz2 (by decide) (Cond.before_iff.mp (hsets _ (List.mem_of_getElem? (i := 7) rfl))) (fun X j nn hq => eqv_i (own_sub_idx nn) hq)
  have szC : clC.slots.size = 256 := BX.2.1
  obtain ⟨n, o, h1, h2, h3, _, L, rfl, ⟨rfl, N⟩, hq⟩ := rm0 l s _ hw tables_1 i0 i1 i2 i3 i4 i5 s.heap s.heap.size (Nat.le_refl _) aC clC SH SC AC szC (fun j hj => by obtain ⟨b, q1, q2, -⟩ := BX.2.2.2 j hj; exact ⟨b, q1, q2⟩) p e ha hc hk s m _ below hf ((Spec.applies_iff_loose hf).mp happ).1 ⟨rfl, State.Warmed39.refl s, rfl⟩ trivial
  refine ⟨n, _, h1, h2, h3, hpost _ _ _ _ _ _ ⟨Cond.after_iff.mpr rfl, Cond.after_iff.mpr (eq_i res_at (Term.int_eval (1)) rfl), trivial⟩ ⟨hq.1, hq.2.1, (hq.2.2.sift fun y hy => Or.inr (N y hy)).mono (by decide) (by decide)⟩⟩
theorem main_1_1 : Claimed_1_1 := comes_1 fun _ _ _ _ _ _ h hF => ⟨h.1, hF⟩
theorem main_1_2 : Claimed_1_2 := comes_1 fun _ _ _ _ _ _ h hF => ⟨h.2.1, hF⟩
end Jvm.Pilot.@@N@@
namespace Jvm.Pilot.@@N@@
open Jvm Jvm.ClassFile Sem Op Lib Jvm.Free Jvm.Stand Jvm.Pilot.@@N@@.Jvm.D
/-! MADE BY PROGRAM (witnessworld.py) out of the Statement's table words and the real class files: 16 classes; the members and pool entries that the words name. The judged class is class 1, her method 2. -/
namespace start1
open Jvm.ClassFile
def u (s : String) : CpInfo := .utf8 (stringToUtf16 s)
/-- a pool by its gaps: so many unusable entries, then the entry; so many at the end -/
def gap : Nat → List CpInfo → List CpInfo
  | 0, r => r
  | n + 1, r => .unusable :: gap n r
def poolList (es : List (Nat × CpInfo)) (last : Nat) : List CpInfo := es.foldr (fun e r => gap e.1 (e.2 :: r)) (gap last [])
def pool (es : List (Nat × CpInfo)) (last : Nat) : Array CpInfo := ⟨poolList es last⟩
def fileOf (pool : Array CpInfo) (this : Nat) (attrs : Array Attribute := #[]) (ms : Array MethodInfo := #[]) (fl : Nat := 33) (sup : Nat := 0) (ifs : Array Nat := #[]) (fds : Array FieldInfo := #[]) : ClassFile where
  minorVersion := 0
  majorVersion := 65
  constantPool := pool
  accessFlags := fl
  thisClass := this
  superClass := sup
  interfaces := ifs
  fields := fds
  methods := ms
  attributes := attrs
def plain (name : String) (sup : Option ClassId) : Class where
  name := name
  kind := .ordinary
  loader := none
  accessFlags := 33
  super := sup
  interfaces := #[]
  cf := none
  fields := #[]
  methods := #[]
  instanceTypes := #[]
  staticTypes := #[]
  resolved := #[]
  callSites := []
  init := .initialized
  statics := none
  mirror := none

def pool0 : Array CpInfo := pool [(5, u "<init>"), (0, u "()V"), (1, .class_ 10), (1, u "java/lang/Object")] 113

def k0c0 : Code := { maxStack := 0, maxLocals := 1, code := object_method_1_code, exceptionTable := #[], attributes := #[] }
def k0m0 : Method := { name := "<init>", desc := "()V", sig := { parameters := [], returnType := none }, accessFlags := 1, code := some k0c0 }
/-- java/lang/Object -/
def k0 : Class := { plain "java/lang/Object" none with
  accessFlags := 33
  interfaces := #[]
  cf := some (fileOf pool0 8 #[] #[{ accessFlags := 1, nameIndex := 5, descriptorIndex := 6, attributes := #[] }] 33 0 #[] #[])
  fields := #[]
  methods := #[k0m0]
  instanceTypes := #[]
  staticTypes := #[]
  resolved := Array.replicate 124 none
  statics := none }

def pool1 : Array CpInfo := pool [(2, .class_ 4), (1, u "java/lang/Object"), (0, u "<init>"), (0, u "()V"), (0, .methodref 8 9), (0, .class_ 10), (0, .nameAndType 11 12), (0, u "com/example/telegrid/telegrid/erp1/EepEqualsPinLaw"), (0, u "pick"), (0, u "(III)I"), (0, .class_ 14), (0, u "com/example/telegrid/telegrid/erp1/Eep"), (0, .methodref 13 16), (0, .nameAndType 5 17), (0, u "(III)V"), (0, .methodref 19 20), (0, .class_ 21), (0, .nameAndType 22 23), (0, u "java/lang/Integer"), (0, u "valueOf"), (0, u "(I)Ljava/lang/Integer;"), (0, .methodref 13 25), (0, .nameAndType 26 27), (0, u "equals"), (0, u "(Ljava/lang/Object;)Z"), (3, u "law"), (0, u "(IIIIII)Z")] 2

def k1m0 : Method := { name := "<init>", desc := "()V", sig := { parameters := [], returnType := none }, accessFlags := 1, code := none }
def k1c1 : Code := { maxStack := 2, maxLocals := 3, code := method_2_code, exceptionTable := #[], attributes := #[] }
def k1m1 : Method := { name := "pick", desc := "(III)I", sig := { parameters := [.int, .int, .int], returnType := some .int }, accessFlags := 10, code := some k1c1 }
def k1c2 : Code := { maxStack := 5, maxLocals := 16, code := code, exceptionTable := #[], attributes := #[] }
def k1m2 : Method := { name := "law", desc := "(IIIIII)Z", sig := { parameters := [.int, .int, .int, .int, .int, .int], returnType := some .boolean }, accessFlags := 9, code := some k1c2 }
/-- com/example/telegrid/telegrid/erp1/EepEqualsPinLaw -/
def k1 : Class := { plain "com/example/telegrid/telegrid/erp1/EepEqualsPinLaw" (some 0) with
  accessFlags := 49
  interfaces := #[]
  cf := some (fileOf pool1 8 #[] #[{ accessFlags := 1, nameIndex := 5, descriptorIndex := 6, attributes := #[] }, { accessFlags := 10, nameIndex := 11, descriptorIndex := 12, attributes := #[] }, { accessFlags := 9, nameIndex := 31, descriptorIndex := 32, attributes := #[] }] 49 2 #[] #[])
  fields := #[]
  methods := #[k1m0, k1m1, k1m2]
  instanceTypes := #[]
  staticTypes := #[]
  resolved := Array.replicate 35 none
  statics := none }

def pool2 : Array CpInfo := pool [(1, .methodref 2 3), (0, .class_ 4), (0, .nameAndType 5 6), (0, u "java/lang/Object"), (0, u "<init>"), (0, u "()V"), (9, .fieldref 17 18), (0, .class_ 19), (0, .nameAndType 20 21), (0, u "com/example/telegrid/telegrid/erp1/Eep"), (0, u "rorg"), (0, u "I"), (0, .fieldref 17 23), (0, .nameAndType 24 21), (0, u "func"), (0, .fieldref 17 26), (0, .nameAndType 27 21), (0, u "type"), (2, u "TEXT"), (0, u "Ljava/util/regex/Pattern;"), (27, u "(III)V"), (32, u "BITS"), (2, u "MAX_FUNC"), (1, u "MAX_TYPE"), (1, u "FUNC_SHIFT"), (1, u "RORG_SHIFT"), (10, u "equals"), (0, u "(Ljava/lang/Object;)Z")] 27

def k2c0 : Code := { maxStack := 5, maxLocals := 4, code := prog_50_method_1_code, exceptionTable := #[], attributes := #[] }
def k2m0 : Method := { name := "<init>", desc := "(III)V", sig := { parameters := [.int, .int, .int], returnType := none }, accessFlags := 1, code := some k2c0 }
def k2c1 : Code := { maxStack := 2, maxLocals := 3, code := prog_50_method_9_code, exceptionTable := #[], attributes := #[] }
def k2m1 : Method := { name := "equals", desc := "(Ljava/lang/Object;)Z", sig := { parameters := [(.object "java/lang/Object")], returnType := some .boolean }, accessFlags := 1, code := some k2c1 }
/-- com/example/telegrid/telegrid/erp1/Eep -/
def k2 : Class := { plain "com/example/telegrid/telegrid/erp1/Eep" (some 0) with
  accessFlags := 49
  interfaces := #[]
  cf := some (fileOf pool2 17 #[] #[{ accessFlags := 1, nameIndex := 5, descriptorIndex := 59, attributes := #[] }, { accessFlags := 1, nameIndex := 112, descriptorIndex := 113, attributes := #[] }] 49 2 #[] #[{ accessFlags := 25, nameIndex := 92, descriptorIndex := 21, attributes := #[] }, { accessFlags := 26, nameIndex := 95, descriptorIndex := 21, attributes := #[] }, { accessFlags := 26, nameIndex := 97, descriptorIndex := 21, attributes := #[] }, { accessFlags := 26, nameIndex := 99, descriptorIndex := 21, attributes := #[] }, { accessFlags := 26, nameIndex := 101, descriptorIndex := 21, attributes := #[] }, { accessFlags := 26, nameIndex := 30, descriptorIndex := 31, attributes := #[] }, { accessFlags := 18, nameIndex := 20, descriptorIndex := 21, attributes := #[] }, { accessFlags := 18, nameIndex := 24, descriptorIndex := 21, attributes := #[] }, { accessFlags := 18, nameIndex := 27, descriptorIndex := 21, attributes := #[] }])
  fields := #[{ name := "BITS", type := .int, accessFlags := 25, slot := 0, constantValue := 0 }, { name := "MAX_FUNC", type := .int, accessFlags := 26, slot := 1, constantValue := 0 }, { name := "MAX_TYPE", type := .int, accessFlags := 26, slot := 2, constantValue := 0 }, { name := "FUNC_SHIFT", type := .int, accessFlags := 26, slot := 3, constantValue := 0 }, { name := "RORG_SHIFT", type := .int, accessFlags := 26, slot := 4, constantValue := 0 }, { name := "TEXT", type := (.object "java/util/regex/Pattern"), accessFlags := 26, slot := 5, constantValue := 0 }, { name := "rorg", type := .int, accessFlags := 18, slot := 0, constantValue := 0 }, { name := "func", type := .int, accessFlags := 18, slot := 1, constantValue := 0 }, { name := "type", type := .int, accessFlags := 18, slot := 2, constantValue := 0 }]
  methods := #[k2m0, k2m1]
  instanceTypes := #[.int, .int, .int]
  staticTypes := #[.int, .int, .int, .int, .int, (.object "java/util/regex/Pattern")]
  resolved := Array.replicate 141 none
  statics := none }

def pool3 : Array CpInfo := pool [(1, .class_ 2), (0, u "java/io/Serializable"), (0, .class_ 4), (0, u "java/lang/Object")] 2

/-- java/io/Serializable -/
def k3 : Class := { plain "java/io/Serializable" (some 0) with
  accessFlags := 1537
  interfaces := #[]
  cf := some (fileOf pool3 1 #[] #[] 1537 3 #[] #[])
  fields := #[]
  methods := #[]
  instanceTypes := #[]
  staticTypes := #[]
  resolved := Array.replicate 7 none
  statics := none }

def pool4 : Array CpInfo := pool [(1, .methodref 2 3), (0, .class_ 4), (0, .nameAndType 5 6), (0, u "java/lang/Object"), (0, u "<init>"), (0, u "()V"), (1, .class_ 10), (1, u "java/lang/Number"), (2, .class_ 14), (0, u "java/io/Serializable"), (0, u "serialVersionUID"), (0, u "J")] 20

def k4c0 : Code := { maxStack := 1, maxLocals := 1, code := jdk_18_method_1_code, exceptionTable := #[], attributes := #[] }
def k4m0 : Method := { name := "<init>", desc := "()V", sig := { parameters := [], returnType := none }, accessFlags := 1, code := some k4c0 }
/-- java/lang/Number -/
def k4 : Class := { plain "java/lang/Number" (some 0) with
  accessFlags := 1057
  interfaces := #[3]
  cf := some (fileOf pool4 8 #[] #[{ accessFlags := 1, nameIndex := 5, descriptorIndex := 6, attributes := #[] }] 1057 2 #[13] #[{ accessFlags := 26, nameIndex := 15, descriptorIndex := 16, attributes := #[] }])
  fields := #[{ name := "serialVersionUID", type := .long, accessFlags := 26, slot := 0, constantValue := 0 }]
  methods := #[k4m0]
  instanceTypes := #[]
  staticTypes := #[.long]
  resolved := Array.replicate 37 none
  statics := none }

def pool5 : Array CpInfo := pool [(1, .class_ 2), (0, u "java/lang/Comparable"), (0, .class_ 4), (0, u "java/lang/Object")] 7

/-- java/lang/Comparable -/
def k5 : Class := { plain "java/lang/Comparable" (some 0) with
  accessFlags := 1537
  interfaces := #[]
  cf := some (fileOf pool5 1 #[] #[] 1537 3 #[] #[])
  fields := #[]
  methods := #[]
  instanceTypes := #[]
  staticTypes := #[]
  resolved := Array.replicate 12 none
  statics := none }

def pool6 : Array CpInfo := pool [(1, .class_ 2), (0, u "java/lang/constant/Constable"), (0, .class_ 4), (0, u "java/lang/Object")] 6

/-- java/lang/constant/Constable -/
def k6 : Class := { plain "java/lang/constant/Constable" (some 0) with
  accessFlags := 1537
  interfaces := #[]
  cf := some (fileOf pool6 1 #[] #[] 1537 3 #[] #[])
  fields := #[]
  methods := #[]
  instanceTypes := #[]
  staticTypes := #[]
  resolved := Array.replicate 11 none
  statics := none }

def pool7 : Array CpInfo := pool [(1, .class_ 2), (0, u "java/lang/constant/ConstantDesc"), (0, .class_ 4), (0, u "java/lang/Object")] 32

/-- java/lang/constant/ConstantDesc -/
def k7 : Class := { plain "java/lang/constant/ConstantDesc" (some 0) with
  accessFlags := 1537
  interfaces := #[]
  cf := some (fileOf pool7 1 #[] #[] 1537 3 #[] #[])
  fields := #[]
  methods := #[]
  instanceTypes := #[]
  staticTypes := #[]
  resolved := Array.replicate 37 none
  statics := none }

def pool8 : Array CpInfo := pool [(1, .class_ 2), (0, u "java/lang/Integer"), (16, u "digits"), (0, u "[C"), (46, u "<init>"), (17, u "DigitOnes"), (0, u "[B"), (2, u "DigitTens"), (10, .nameAndType 67 101), (0, u "()V"), (85, u "valueOf"), (0, u "(I)Ljava/lang/Integer;"), (0, .class_ 190), (0, u "java/lang/Integer$IntegerCache"), (0, .fieldref 189 192), (0, .nameAndType 193 194), (0, u "high"), (0, u "I"), (0, .fieldref 189 196), (0, .nameAndType 197 198), (0, u "cache"), (0, u "[Ljava/lang/Integer;"), (0, .methodref 1 200), (0, .nameAndType 67 201), (0, u "(I)V"), (0, .methodref 203 100), (0, .class_ 204), (0, u "java/lang/Number"), (0, .fieldref 1 206), (0, .nameAndType 207 194), (0, u "value"), (94, u "TYPE"), (0, u "Ljava/lang/Class;"), (0, .class_ 305), (0, u "java/lang/Comparable"), (0, .class_ 307), (0, u "java/lang/constant/Constable"), (0, .class_ 309), (0, u "java/lang/constant/ConstantDesc"), (0, u "MIN_VALUE"), (1, u "MAX_VALUE"), (3, u "SIZE"), (1, u "BYTES"), (1, u "serialVersionUID"), (0, u "J")] 131

def k8c0 : Code := { maxStack := 3, maxLocals := 1, code := jdk_33_method_22_code, exceptionTable := #[], attributes := #[] }
def k8m0 : Method := { name := "valueOf", desc := "(I)Ljava/lang/Integer;", sig := { parameters := [.int], returnType := some (.object "java/lang/Integer") }, accessFlags := 9, code := some k8c0 }
def k8c1 : Code := { maxStack := 2, maxLocals := 2, code := jdk_33_method_23_code, exceptionTable := #[], attributes := #[] }
def k8m1 : Method := { name := "<init>", desc := "(I)V", sig := { parameters := [.int], returnType := none }, accessFlags := 1, code := some k8c1 }
/-- java/lang/Integer -/
def k8 : Class := { plain "java/lang/Integer" (some 4) with
  accessFlags := 49
  interfaces := #[5, 6, 7]
  cf := some (fileOf pool8 1 #[.nestMembers #[189]] #[{ accessFlags := 9, nameIndex := 187, descriptorIndex := 188, attributes := #[] }, { accessFlags := 1, nameIndex := 67, descriptorIndex := 201, attributes := #[] }] 49 203 #[304, 306, 308] #[{ accessFlags := 25, nameIndex := 310, descriptorIndex := 194, attributes := #[] }, { accessFlags := 25, nameIndex := 312, descriptorIndex := 194, attributes := #[] }, { accessFlags := 25, nameIndex := 302, descriptorIndex := 303, attributes := #[] }, { accessFlags := 24, nameIndex := 19, descriptorIndex := 20, attributes := #[] }, { accessFlags := 24, nameIndex := 89, descriptorIndex := 86, attributes := #[] }, { accessFlags := 24, nameIndex := 85, descriptorIndex := 86, attributes := #[] }, { accessFlags := 18, nameIndex := 207, descriptorIndex := 194, attributes := #[] }, { accessFlags := 25, nameIndex := 316, descriptorIndex := 194, attributes := #[] }, { accessFlags := 25, nameIndex := 318, descriptorIndex := 194, attributes := #[] }, { accessFlags := 26, nameIndex := 320, descriptorIndex := 321, attributes := #[] }])
  fields := #[{ name := "MIN_VALUE", type := .int, accessFlags := 25, slot := 0, constantValue := 0 }, { name := "MAX_VALUE", type := .int, accessFlags := 25, slot := 1, constantValue := 0 }, { name := "TYPE", type := (.object "java/lang/Class"), accessFlags := 25, slot := 2, constantValue := 0 }, { name := "digits", type := (.array .char), accessFlags := 24, slot := 3, constantValue := 0 }, { name := "DigitTens", type := (.array .byte), accessFlags := 24, slot := 4, constantValue := 0 }, { name := "DigitOnes", type := (.array .byte), accessFlags := 24, slot := 5, constantValue := 0 }, { name := "value", type := .int, accessFlags := 18, slot := 0, constantValue := 0 }, { name := "SIZE", type := .int, accessFlags := 25, slot := 6, constantValue := 0 }, { name := "BYTES", type := .int, accessFlags := 25, slot := 7, constantValue := 0 }, { name := "serialVersionUID", type := .long, accessFlags := 26, slot := 8, constantValue := 0 }]
  methods := #[k8m0, k8m1]
  instanceTypes := #[.int]
  staticTypes := #[.int, .int, (.object "java/lang/Class"), (.array .char), (.array .byte), (.array .byte), .int, .int, .long]
  resolved := Array.replicate 453 none
  statics := none }

def pool9 : Array CpInfo := pool [(2, .class_ 4), (1, u "java/lang/Object"), (0, u "<init>"), (0, u "()V"), (0, .class_ 8), (0, u "java/lang/Integer"), (7, .class_ 18), (1, u "java/lang/Integer$IntegerCache"), (0, u "$assertionsDisabled"), (0, u "Z"), (26, u "high"), (0, u "I"), (8, u "archivedCache"), (0, u "[Ljava/lang/Integer;"), (12, u "cache"), (0, u "low")] 27

def k9m0 : Method := { name := "<init>", desc := "()V", sig := { parameters := [], returnType := none }, accessFlags := 2, code := none }
/-- java/lang/Integer$IntegerCache -/
def k9 : Class := { plain "java/lang/Integer$IntegerCache" (some 0) with
  accessFlags := 48
  interfaces := #[]
  cf := some (fileOf pool9 16 #[.nestHost 7] #[{ accessFlags := 2, nameIndex := 5, descriptorIndex := 6, attributes := #[] }] 48 2 #[] #[{ accessFlags := 24, nameIndex := 72, descriptorIndex := 48, attributes := #[] }, { accessFlags := 24, nameIndex := 47, descriptorIndex := 48, attributes := #[] }, { accessFlags := 24, nameIndex := 71, descriptorIndex := 58, attributes := #[] }, { accessFlags := 8, nameIndex := 57, descriptorIndex := 58, attributes := #[] }, { accessFlags := 4120, nameIndex := 19, descriptorIndex := 20, attributes := #[] }])
  fields := #[{ name := "low", type := .int, accessFlags := 24, slot := 0, constantValue := 0 }, { name := "high", type := .int, accessFlags := 24, slot := 1, constantValue := 0 }, { name := "cache", type := (.array (.object "java/lang/Integer")), accessFlags := 24, slot := 2, constantValue := 0 }, { name := "archivedCache", type := (.array (.object "java/lang/Integer")), accessFlags := 8, slot := 3, constantValue := 0 }, { name := "$assertionsDisabled", type := .boolean, accessFlags := 4120, slot := 4, constantValue := 0 }]
  methods := #[k9m0]
  instanceTypes := #[]
  staticTypes := #[.int, .int, (.array (.object "java/lang/Integer")), (.array (.object "java/lang/Integer")), .boolean]
  resolved := Array.replicate 100 none
  statics := some 0 }

def pool10 : Array CpInfo := pool [(1, u "java/lang/Cloneable"), (0, .class_ 1), (0, u "java/lang/Object"), (0, .class_ 3)] 3

/-- java/lang/Cloneable -/
def k10 : Class := { plain "java/lang/Cloneable" (some 0) with
  accessFlags := 1537
  interfaces := #[]
  cf := some (fileOf pool10 2 #[] #[] 1537 4 #[] #[])
  fields := #[]
  methods := #[]
  instanceTypes := #[]
  staticTypes := #[]
  resolved := Array.replicate 8 none
  statics := none }

/-- the primitive byte -/
def k11 : Class := { plain "byte" none with kind := .primitive 'B', accessFlags := 0x411 }
/-- [B -/
def k12 : Class := { plain "[B" (some 0) with kind := .array 11 .byte, interfaces := #[10, 3], accessFlags := 1041 }

/-- the primitive int -/
def k13 : Class := { plain "int" none with kind := .primitive 'I', accessFlags := 0x411 }
/-- [I -/
def k14 : Class := { plain "[I" (some 0) with kind := .array 13 .int, interfaces := #[10, 3], accessFlags := 1041 }

/-- [Ljava/lang/Integer; -/
def k15 : Class := { plain "[Ljava/lang/Integer;" (some 0) with kind := .array 8 (.object "java/lang/Integer"), interfaces := #[10, 3], accessFlags := 1041 }

def heap : Heap := #[{ cls := 9, slots := #[.int 0, .int 127, .ref 1, .null, .int 0], vm := .statics 9 },
  { cls := 15, slots := #[.ref 2, .ref 3, .ref 4, .ref 5, .ref 6, .ref 7, .ref 8, .ref 9, .ref 10, .ref 11, .ref 12, .ref 13, .ref 14, .ref 15, .ref 16, .ref 17, .ref 18, .ref 19, .ref 20, .ref 21, .ref 22, .ref 23, .ref 24, .ref 25, .ref 26, .ref 27, .ref 28, .ref 29, .ref 30, .ref 31, .ref 32, .ref 33, .ref 34, .ref 35, .ref 36, .ref 37, .ref 38, .ref 39, .ref 40, .ref 41, .ref 42, .ref 43, .ref 44, .ref 45, .ref 46, .ref 47, .ref 48, .ref 49, .ref 50, .ref 51, .ref 52, .ref 53, .ref 54, .ref 55, .ref 56, .ref 57, .ref 58, .ref 59, .ref 60, .ref 61, .ref 62, .ref 63, .ref 64, .ref 65, .ref 66, .ref 67, .ref 68, .ref 69, .ref 70, .ref 71, .ref 72, .ref 73, .ref 74, .ref 75, .ref 76, .ref 77, .ref 78, .ref 79, .ref 80, .ref 81, .ref 82, .ref 83, .ref 84, .ref 85, .ref 86, .ref 87, .ref 88, .ref 89, .ref 90, .ref 91, .ref 92, .ref 93, .ref 94, .ref 95, .ref 96, .ref 97, .ref 98, .ref 99, .ref 100, .ref 101, .ref 102, .ref 103, .ref 104, .ref 105, .ref 106, .ref 107, .ref 108, .ref 109, .ref 110, .ref 111, .ref 112, .ref 113, .ref 114, .ref 115, .ref 116, .ref 117, .ref 118, .ref 119, .ref 120, .ref 121, .ref 122, .ref 123, .ref 124, .ref 125, .ref 126, .ref 127, .ref 128, .ref 129, .ref 130, .ref 131, .ref 132, .ref 133, .ref 134, .ref 135, .ref 136, .ref 137, .ref 138, .ref 139, .ref 140, .ref 141, .ref 142, .ref 143, .ref 144, .ref 145, .ref 146, .ref 147, .ref 148, .ref 149, .ref 150, .ref 151, .ref 152, .ref 153, .ref 154, .ref 155, .ref 156, .ref 157, .ref 158, .ref 159, .ref 160, .ref 161, .ref 162, .ref 163, .ref 164, .ref 165, .ref 166, .ref 167, .ref 168, .ref 169, .ref 170, .ref 171, .ref 172, .ref 173, .ref 174, .ref 175, .ref 176, .ref 177, .ref 178, .ref 179, .ref 180, .ref 181, .ref 182, .ref 183, .ref 184, .ref 185, .ref 186, .ref 187, .ref 188, .ref 189, .ref 190, .ref 191, .ref 192, .ref 193, .ref 194, .ref 195, .ref 196, .ref 197, .ref 198, .ref 199, .ref 200, .ref 201, .ref 202, .ref 203, .ref 204, .ref 205, .ref 206, .ref 207, .ref 208, .ref 209, .ref 210, .ref 211, .ref 212, .ref 213, .ref 214, .ref 215, .ref 216, .ref 217, .ref 218, .ref 219, .ref 220, .ref 221, .ref 222, .ref 223, .ref 224, .ref 225, .ref 226, .ref 227, .ref 228, .ref 229, .ref 230, .ref 231, .ref 232, .ref 233, .ref 234, .ref 235, .ref 236, .ref 237, .ref 238, .ref 239, .ref 240, .ref 241, .ref 242, .ref 243, .ref 244, .ref 245, .ref 246, .ref 247, .ref 248, .ref 249, .ref 250, .ref 251, .ref 252, .ref 253, .ref 254, .ref 255, .ref 256, .ref 257], vm := .none },
  { cls := 8, slots := #[.int (-128)], vm := .none },
  { cls := 8, slots := #[.int (-127)], vm := .none },
  { cls := 8, slots := #[.int (-126)], vm := .none },
  { cls := 8, slots := #[.int (-125)], vm := .none },
  { cls := 8, slots := #[.int (-124)], vm := .none },
  { cls := 8, slots := #[.int (-123)], vm := .none },
  { cls := 8, slots := #[.int (-122)], vm := .none },
  { cls := 8, slots := #[.int (-121)], vm := .none },
  { cls := 8, slots := #[.int (-120)], vm := .none },
  { cls := 8, slots := #[.int (-119)], vm := .none },
  { cls := 8, slots := #[.int (-118)], vm := .none },
  { cls := 8, slots := #[.int (-117)], vm := .none },
  { cls := 8, slots := #[.int (-116)], vm := .none },
  { cls := 8, slots := #[.int (-115)], vm := .none },
  { cls := 8, slots := #[.int (-114)], vm := .none },
  { cls := 8, slots := #[.int (-113)], vm := .none },
  { cls := 8, slots := #[.int (-112)], vm := .none },
  { cls := 8, slots := #[.int (-111)], vm := .none },
  { cls := 8, slots := #[.int (-110)], vm := .none },
  { cls := 8, slots := #[.int (-109)], vm := .none },
  { cls := 8, slots := #[.int (-108)], vm := .none },
  { cls := 8, slots := #[.int (-107)], vm := .none },
  { cls := 8, slots := #[.int (-106)], vm := .none },
  { cls := 8, slots := #[.int (-105)], vm := .none },
  { cls := 8, slots := #[.int (-104)], vm := .none },
  { cls := 8, slots := #[.int (-103)], vm := .none },
  { cls := 8, slots := #[.int (-102)], vm := .none },
  { cls := 8, slots := #[.int (-101)], vm := .none },
  { cls := 8, slots := #[.int (-100)], vm := .none },
  { cls := 8, slots := #[.int (-99)], vm := .none },
  { cls := 8, slots := #[.int (-98)], vm := .none },
  { cls := 8, slots := #[.int (-97)], vm := .none },
  { cls := 8, slots := #[.int (-96)], vm := .none },
  { cls := 8, slots := #[.int (-95)], vm := .none },
  { cls := 8, slots := #[.int (-94)], vm := .none },
  { cls := 8, slots := #[.int (-93)], vm := .none },
  { cls := 8, slots := #[.int (-92)], vm := .none },
  { cls := 8, slots := #[.int (-91)], vm := .none },
  { cls := 8, slots := #[.int (-90)], vm := .none },
  { cls := 8, slots := #[.int (-89)], vm := .none },
  { cls := 8, slots := #[.int (-88)], vm := .none },
  { cls := 8, slots := #[.int (-87)], vm := .none },
  { cls := 8, slots := #[.int (-86)], vm := .none },
  { cls := 8, slots := #[.int (-85)], vm := .none },
  { cls := 8, slots := #[.int (-84)], vm := .none },
  { cls := 8, slots := #[.int (-83)], vm := .none },
  { cls := 8, slots := #[.int (-82)], vm := .none },
  { cls := 8, slots := #[.int (-81)], vm := .none },
  { cls := 8, slots := #[.int (-80)], vm := .none },
  { cls := 8, slots := #[.int (-79)], vm := .none },
  { cls := 8, slots := #[.int (-78)], vm := .none },
  { cls := 8, slots := #[.int (-77)], vm := .none },
  { cls := 8, slots := #[.int (-76)], vm := .none },
  { cls := 8, slots := #[.int (-75)], vm := .none },
  { cls := 8, slots := #[.int (-74)], vm := .none },
  { cls := 8, slots := #[.int (-73)], vm := .none },
  { cls := 8, slots := #[.int (-72)], vm := .none },
  { cls := 8, slots := #[.int (-71)], vm := .none },
  { cls := 8, slots := #[.int (-70)], vm := .none },
  { cls := 8, slots := #[.int (-69)], vm := .none },
  { cls := 8, slots := #[.int (-68)], vm := .none },
  { cls := 8, slots := #[.int (-67)], vm := .none },
  { cls := 8, slots := #[.int (-66)], vm := .none },
  { cls := 8, slots := #[.int (-65)], vm := .none },
  { cls := 8, slots := #[.int (-64)], vm := .none },
  { cls := 8, slots := #[.int (-63)], vm := .none },
  { cls := 8, slots := #[.int (-62)], vm := .none },
  { cls := 8, slots := #[.int (-61)], vm := .none },
  { cls := 8, slots := #[.int (-60)], vm := .none },
  { cls := 8, slots := #[.int (-59)], vm := .none },
  { cls := 8, slots := #[.int (-58)], vm := .none },
  { cls := 8, slots := #[.int (-57)], vm := .none },
  { cls := 8, slots := #[.int (-56)], vm := .none },
  { cls := 8, slots := #[.int (-55)], vm := .none },
  { cls := 8, slots := #[.int (-54)], vm := .none },
  { cls := 8, slots := #[.int (-53)], vm := .none },
  { cls := 8, slots := #[.int (-52)], vm := .none },
  { cls := 8, slots := #[.int (-51)], vm := .none },
  { cls := 8, slots := #[.int (-50)], vm := .none },
  { cls := 8, slots := #[.int (-49)], vm := .none },
  { cls := 8, slots := #[.int (-48)], vm := .none },
  { cls := 8, slots := #[.int (-47)], vm := .none },
  { cls := 8, slots := #[.int (-46)], vm := .none },
  { cls := 8, slots := #[.int (-45)], vm := .none },
  { cls := 8, slots := #[.int (-44)], vm := .none },
  { cls := 8, slots := #[.int (-43)], vm := .none },
  { cls := 8, slots := #[.int (-42)], vm := .none },
  { cls := 8, slots := #[.int (-41)], vm := .none },
  { cls := 8, slots := #[.int (-40)], vm := .none },
  { cls := 8, slots := #[.int (-39)], vm := .none },
  { cls := 8, slots := #[.int (-38)], vm := .none },
  { cls := 8, slots := #[.int (-37)], vm := .none },
  { cls := 8, slots := #[.int (-36)], vm := .none },
  { cls := 8, slots := #[.int (-35)], vm := .none },
  { cls := 8, slots := #[.int (-34)], vm := .none },
  { cls := 8, slots := #[.int (-33)], vm := .none },
  { cls := 8, slots := #[.int (-32)], vm := .none },
  { cls := 8, slots := #[.int (-31)], vm := .none },
  { cls := 8, slots := #[.int (-30)], vm := .none },
  { cls := 8, slots := #[.int (-29)], vm := .none },
  { cls := 8, slots := #[.int (-28)], vm := .none },
  { cls := 8, slots := #[.int (-27)], vm := .none },
  { cls := 8, slots := #[.int (-26)], vm := .none },
  { cls := 8, slots := #[.int (-25)], vm := .none },
  { cls := 8, slots := #[.int (-24)], vm := .none },
  { cls := 8, slots := #[.int (-23)], vm := .none },
  { cls := 8, slots := #[.int (-22)], vm := .none },
  { cls := 8, slots := #[.int (-21)], vm := .none },
  { cls := 8, slots := #[.int (-20)], vm := .none },
  { cls := 8, slots := #[.int (-19)], vm := .none },
  { cls := 8, slots := #[.int (-18)], vm := .none },
  { cls := 8, slots := #[.int (-17)], vm := .none },
  { cls := 8, slots := #[.int (-16)], vm := .none },
  { cls := 8, slots := #[.int (-15)], vm := .none },
  { cls := 8, slots := #[.int (-14)], vm := .none },
  { cls := 8, slots := #[.int (-13)], vm := .none },
  { cls := 8, slots := #[.int (-12)], vm := .none },
  { cls := 8, slots := #[.int (-11)], vm := .none },
  { cls := 8, slots := #[.int (-10)], vm := .none },
  { cls := 8, slots := #[.int (-9)], vm := .none },
  { cls := 8, slots := #[.int (-8)], vm := .none },
  { cls := 8, slots := #[.int (-7)], vm := .none },
  { cls := 8, slots := #[.int (-6)], vm := .none },
  { cls := 8, slots := #[.int (-5)], vm := .none },
  { cls := 8, slots := #[.int (-4)], vm := .none },
  { cls := 8, slots := #[.int (-3)], vm := .none },
  { cls := 8, slots := #[.int (-2)], vm := .none },
  { cls := 8, slots := #[.int (-1)], vm := .none },
  { cls := 8, slots := #[.int 0], vm := .none },
  { cls := 8, slots := #[.int 1], vm := .none },
  { cls := 8, slots := #[.int 2], vm := .none },
  { cls := 8, slots := #[.int 3], vm := .none },
  { cls := 8, slots := #[.int 4], vm := .none },
  { cls := 8, slots := #[.int 5], vm := .none },
  { cls := 8, slots := #[.int 6], vm := .none },
  { cls := 8, slots := #[.int 7], vm := .none },
  { cls := 8, slots := #[.int 8], vm := .none },
  { cls := 8, slots := #[.int 9], vm := .none },
  { cls := 8, slots := #[.int 10], vm := .none },
  { cls := 8, slots := #[.int 11], vm := .none },
  { cls := 8, slots := #[.int 12], vm := .none },
  { cls := 8, slots := #[.int 13], vm := .none },
  { cls := 8, slots := #[.int 14], vm := .none },
  { cls := 8, slots := #[.int 15], vm := .none },
  { cls := 8, slots := #[.int 16], vm := .none },
  { cls := 8, slots := #[.int 17], vm := .none },
  { cls := 8, slots := #[.int 18], vm := .none },
  { cls := 8, slots := #[.int 19], vm := .none },
  { cls := 8, slots := #[.int 20], vm := .none },
  { cls := 8, slots := #[.int 21], vm := .none },
  { cls := 8, slots := #[.int 22], vm := .none },
  { cls := 8, slots := #[.int 23], vm := .none },
  { cls := 8, slots := #[.int 24], vm := .none },
  { cls := 8, slots := #[.int 25], vm := .none },
  { cls := 8, slots := #[.int 26], vm := .none },
  { cls := 8, slots := #[.int 27], vm := .none },
  { cls := 8, slots := #[.int 28], vm := .none },
  { cls := 8, slots := #[.int 29], vm := .none },
  { cls := 8, slots := #[.int 30], vm := .none },
  { cls := 8, slots := #[.int 31], vm := .none },
  { cls := 8, slots := #[.int 32], vm := .none },
  { cls := 8, slots := #[.int 33], vm := .none },
  { cls := 8, slots := #[.int 34], vm := .none },
  { cls := 8, slots := #[.int 35], vm := .none },
  { cls := 8, slots := #[.int 36], vm := .none },
  { cls := 8, slots := #[.int 37], vm := .none },
  { cls := 8, slots := #[.int 38], vm := .none },
  { cls := 8, slots := #[.int 39], vm := .none },
  { cls := 8, slots := #[.int 40], vm := .none },
  { cls := 8, slots := #[.int 41], vm := .none },
  { cls := 8, slots := #[.int 42], vm := .none },
  { cls := 8, slots := #[.int 43], vm := .none },
  { cls := 8, slots := #[.int 44], vm := .none },
  { cls := 8, slots := #[.int 45], vm := .none },
  { cls := 8, slots := #[.int 46], vm := .none },
  { cls := 8, slots := #[.int 47], vm := .none },
  { cls := 8, slots := #[.int 48], vm := .none },
  { cls := 8, slots := #[.int 49], vm := .none },
  { cls := 8, slots := #[.int 50], vm := .none },
  { cls := 8, slots := #[.int 51], vm := .none },
  { cls := 8, slots := #[.int 52], vm := .none },
  { cls := 8, slots := #[.int 53], vm := .none },
  { cls := 8, slots := #[.int 54], vm := .none },
  { cls := 8, slots := #[.int 55], vm := .none },
  { cls := 8, slots := #[.int 56], vm := .none },
  { cls := 8, slots := #[.int 57], vm := .none },
  { cls := 8, slots := #[.int 58], vm := .none },
  { cls := 8, slots := #[.int 59], vm := .none },
  { cls := 8, slots := #[.int 60], vm := .none },
  { cls := 8, slots := #[.int 61], vm := .none },
  { cls := 8, slots := #[.int 62], vm := .none },
  { cls := 8, slots := #[.int 63], vm := .none },
  { cls := 8, slots := #[.int 64], vm := .none },
  { cls := 8, slots := #[.int 65], vm := .none },
  { cls := 8, slots := #[.int 66], vm := .none },
  { cls := 8, slots := #[.int 67], vm := .none },
  { cls := 8, slots := #[.int 68], vm := .none },
  { cls := 8, slots := #[.int 69], vm := .none },
  { cls := 8, slots := #[.int 70], vm := .none },
  { cls := 8, slots := #[.int 71], vm := .none },
  { cls := 8, slots := #[.int 72], vm := .none },
  { cls := 8, slots := #[.int 73], vm := .none },
  { cls := 8, slots := #[.int 74], vm := .none },
  { cls := 8, slots := #[.int 75], vm := .none },
  { cls := 8, slots := #[.int 76], vm := .none },
  { cls := 8, slots := #[.int 77], vm := .none },
  { cls := 8, slots := #[.int 78], vm := .none },
  { cls := 8, slots := #[.int 79], vm := .none },
  { cls := 8, slots := #[.int 80], vm := .none },
  { cls := 8, slots := #[.int 81], vm := .none },
  { cls := 8, slots := #[.int 82], vm := .none },
  { cls := 8, slots := #[.int 83], vm := .none },
  { cls := 8, slots := #[.int 84], vm := .none },
  { cls := 8, slots := #[.int 85], vm := .none },
  { cls := 8, slots := #[.int 86], vm := .none },
  { cls := 8, slots := #[.int 87], vm := .none },
  { cls := 8, slots := #[.int 88], vm := .none },
  { cls := 8, slots := #[.int 89], vm := .none },
  { cls := 8, slots := #[.int 90], vm := .none },
  { cls := 8, slots := #[.int 91], vm := .none },
  { cls := 8, slots := #[.int 92], vm := .none },
  { cls := 8, slots := #[.int 93], vm := .none },
  { cls := 8, slots := #[.int 94], vm := .none },
  { cls := 8, slots := #[.int 95], vm := .none },
  { cls := 8, slots := #[.int 96], vm := .none },
  { cls := 8, slots := #[.int 97], vm := .none },
  { cls := 8, slots := #[.int 98], vm := .none },
  { cls := 8, slots := #[.int 99], vm := .none },
  { cls := 8, slots := #[.int 100], vm := .none },
  { cls := 8, slots := #[.int 101], vm := .none },
  { cls := 8, slots := #[.int 102], vm := .none },
  { cls := 8, slots := #[.int 103], vm := .none },
  { cls := 8, slots := #[.int 104], vm := .none },
  { cls := 8, slots := #[.int 105], vm := .none },
  { cls := 8, slots := #[.int 106], vm := .none },
  { cls := 8, slots := #[.int 107], vm := .none },
  { cls := 8, slots := #[.int 108], vm := .none },
  { cls := 8, slots := #[.int 109], vm := .none },
  { cls := 8, slots := #[.int 110], vm := .none },
  { cls := 8, slots := #[.int 111], vm := .none },
  { cls := 8, slots := #[.int 112], vm := .none },
  { cls := 8, slots := #[.int 113], vm := .none },
  { cls := 8, slots := #[.int 114], vm := .none },
  { cls := 8, slots := #[.int 115], vm := .none },
  { cls := 8, slots := #[.int 116], vm := .none },
  { cls := 8, slots := #[.int 117], vm := .none },
  { cls := 8, slots := #[.int 118], vm := .none },
  { cls := 8, slots := #[.int 119], vm := .none },
  { cls := 8, slots := #[.int 120], vm := .none },
  { cls := 8, slots := #[.int 121], vm := .none },
  { cls := 8, slots := #[.int 122], vm := .none },
  { cls := 8, slots := #[.int 123], vm := .none },
  { cls := 8, slots := #[.int 124], vm := .none },
  { cls := 8, slots := #[.int 125], vm := .none },
  { cls := 8, slots := #[.int 126], vm := .none },
  { cls := 8, slots := #[.int 127], vm := .none }]
def classes : Array Class := #[k0, k1, k2, k3, k4, k5, k6, k7, k8, k9, k10, k11, k12, k13, k14, k15]
def interned : List (Array UInt16 × Addr) := []
def slotsUsed : Nat := 517
def theMethod : MethodId := ⟨1, 2⟩
def args0 : Array Value := #[.int 5, .int 6, .int 7, .int 261, .int 6, .int 7]
def aboutOver (below : List Frame) : State where
  vm := { classes := classes, interned := interned.toArray }
  heap := heap
  slotsUsed := slotsUsed
  threads := #[{ frames := .invoking theMethod args0 :: below }]
def below0 : List Frame := [.native { method := ⟨0, 0⟩, args := #[] }]
def about1 : State := aboutOver below0
def p0 : Program := .bare "" "" ""
def e0 : Env := launch0.env 0 0 0
theorem w_frames : about1.frames = Frame.invoking theMethod args0 :: below0 := rfl
set_option maxRecDepth 65536 in
theorem w_args : argsFit about1.vm theMethod args0 = true := by decide +kernel
set_option maxRecDepth 65536 in
theorem w_heap : heapFits about1 = true := by decide +kernel
set_option maxRecDepth 65536 in
theorem w_runnable : about1.curStatus? = some .runnable := by decide +kernel
set_option maxRecDepth 65536 in
theorem w_alone : about1.alone = true := by decide +kernel
set_option maxRecDepth 65536 in
theorem w_named : about1.methodNamed? x = some theMethod := by decide +kernel
set_option maxRecDepth 65536 in
theorem w_hears : about1.hears theMethod below0 = true := by decide +kernel
set_option maxRecDepth 65536 in
theorem w_ripe : about1.ripe theMethod args0 below0 = true := by decide +kernel
theorem w_running : about1.status = .running := rfl
set_option maxRecDepth 65536 in
theorem w_room : about1.hasRoom e0.platform room_1 = true :=
  launch0.hasRoom_least _ room_1 (by decide +kernel) (by decide +kernel) (by decide +kernel) (by decide +kernel) (by decide +kernel) (by decide +kernel)
theorem allAtoms_all (ts : List Jvm.Cond) (a : Array Jvm.Value) (st : Jvm.State) : (allAtoms ts).before a st = ts.all (fun c => c.before a st) := by
  induction ts with
  | nil => rfl
  | cons c t ih =>
    show (Jvm.Cond.and c (allAtoms t)).before a st = _
    rw [Jvm.Cond.before_and, ih, List.all_cons]
def words1 : List Jvm.Cond := Jvm.Cond.code x code maxLocals ret :: tables_1
/-- a 'code' word, met by the world's own term for the bytes: nothing is compared byte by byte -/
theorem code_word {y : MethodName} {bytes : ByteArray} {mx : Nat} {rt : Option FieldType} {a : Array Value} {s : State} {m : MethodId} {meth : Method} {c : Code} (h1 : s.methodNamed? y = some m) (h2 : s.vm.method? m = some meth) (h3 : meth.code = some c) (h4 : c.code = bytes)
    (h5 : (c.maxLocals == mx && c.exceptionTable.isEmpty && decide (c.maxStack ≤ mostOperands) && decide (meth.sig.returnType = rt) && !meth.locks && decide (parseMethodDescriptor y.desc = some meth.sig)) = true) : (Jvm.Cond.code y bytes mx rt).before a s = true := by
  simp only [Bool.and_eq_true, beq_iff_eq, Bool.not_eq_true', decide_eq_true_eq] at h5
  obtain ⟨⟨⟨⟨⟨g1, g2⟩, g3⟩, g4⟩, g5⟩, g6⟩ := h5
  simp [Cond.before, Cond.holds, Cond.value, h1, h2, h3, h4, g1, g2, g3, g4, g5, g6]
def isCode : Jvm.Cond → Bool
  | .code _ _ _ _ => true
  | _ => false
theorem all_split {L : List Jvm.Cond} {P : Jvm.Cond → Bool} (h1 : L.all (fun c => isCode c || P c) = true) (h2 : ∀ c ∈ L.filter isCode, P c = true) : L.all P = true := by
  refine List.all_eq_true.mpr fun c hc => ?_
  have h := List.all_eq_true.mp h1 c hc
  rcases Bool.eq_false_or_eq_true (isCode c) with hi | hi
  · exact h2 c (List.mem_filter.mpr ⟨hc, hi⟩)
  · simpa [hi] using h
set_option maxRecDepth 65536 in
theorem w_c0 : (Jvm.Cond.code x code maxLocals ret).before args0 about1 = true := code_word (m := ⟨1, 2⟩) (meth := k1m2) (c := k1c2) (by decide +kernel) rfl rfl rfl (by decide +kernel)
set_option maxRecDepth 65536 in
theorem w_c1 : (Jvm.Cond.code ({ cls := "com/example/telegrid/telegrid/erp1/EepEqualsPinLaw", name := "pick", desc := "(III)I" } : Jvm.MethodName) method_2_code (3 : Nat) (Option.some Jvm.ClassFile.FieldType.int)).before args0 about1 = true := code_word (m := ⟨1, 1⟩) (meth := k1m1) (c := k1c1) (by decide +kernel) rfl rfl rfl (by decide +kernel)
set_option maxRecDepth 65536 in
theorem w_c2 : (Jvm.Cond.code ({ cls := "com/example/telegrid/telegrid/erp1/Eep", name := "<init>", desc := "(III)V" } : Jvm.MethodName) prog_50_method_1_code (4 : Nat) (Option.none : Option Jvm.ClassFile.FieldType)).before args0 about1 = true := code_word (m := ⟨2, 0⟩) (meth := k2m0) (c := k2c0) (by decide +kernel) rfl rfl rfl (by decide +kernel)
set_option maxRecDepth 65536 in
theorem w_c3 : (Jvm.Cond.code ({ cls := "java/lang/Object", name := "<init>", desc := "()V" } : Jvm.MethodName) object_method_1_code (1 : Nat) (Option.none : Option Jvm.ClassFile.FieldType)).before args0 about1 = true := code_word (m := ⟨0, 0⟩) (meth := k0m0) (c := k0c0) (by decide +kernel) rfl rfl rfl (by decide +kernel)
set_option maxRecDepth 65536 in
theorem w_c4 : (Jvm.Cond.code ({ cls := "java/lang/Integer", name := "valueOf", desc := "(I)Ljava/lang/Integer;" } : Jvm.MethodName) jdk_33_method_22_code (1 : Nat) (Option.some (Jvm.ClassFile.FieldType.object "java/lang/Integer"))).before args0 about1 = true := code_word (m := ⟨8, 0⟩) (meth := k8m0) (c := k8c0) (by decide +kernel) rfl rfl rfl (by decide +kernel)
set_option maxRecDepth 65536 in
theorem w_c5 : (Jvm.Cond.code ({ cls := "com/example/telegrid/telegrid/erp1/Eep", name := "equals", desc := "(Ljava/lang/Object;)Z" } : Jvm.MethodName) prog_50_method_9_code (3 : Nat) (Option.some Jvm.ClassFile.FieldType.boolean)).before args0 about1 = true := code_word (m := ⟨2, 1⟩) (meth := k2m1) (c := k2c1) (by decide +kernel) rfl rfl rfl (by decide +kernel)
set_option maxRecDepth 65536 in
theorem w_c6 : (Jvm.Cond.code ({ cls := "java/lang/Integer", name := "<init>", desc := "(I)V" } : Jvm.MethodName) jdk_33_method_23_code (2 : Nat) (Option.none : Option Jvm.ClassFile.FieldType)).before args0 about1 = true := code_word (m := ⟨8, 1⟩) (meth := k8m1) (c := k8c1) (by decide +kernel) rfl rfl rfl (by decide +kernel)
set_option maxRecDepth 65536 in
theorem w_c7 : (Jvm.Cond.code ({ cls := "java/lang/Number", name := "<init>", desc := "()V" } : Jvm.MethodName) jdk_18_method_1_code (1 : Nat) (Option.none : Option Jvm.ClassFile.FieldType)).before args0 about1 = true := code_word (m := ⟨4, 0⟩) (meth := k4m0) (c := k4c0) (by decide +kernel) rfl rfl rfl (by decide +kernel)
def codes1 : List Jvm.Cond := [Jvm.Cond.code x code maxLocals ret, Jvm.Cond.code ({ cls := "com/example/telegrid/telegrid/erp1/EepEqualsPinLaw", name := "pick", desc := "(III)I" } : Jvm.MethodName) method_2_code (3 : Nat) (Option.some Jvm.ClassFile.FieldType.int), Jvm.Cond.code ({ cls := "com/example/telegrid/telegrid/erp1/Eep", name := "<init>", desc := "(III)V" } : Jvm.MethodName) prog_50_method_1_code (4 : Nat) (Option.none : Option Jvm.ClassFile.FieldType), Jvm.Cond.code ({ cls := "java/lang/Object", name := "<init>", desc := "()V" } : Jvm.MethodName) object_method_1_code (1 : Nat) (Option.none : Option Jvm.ClassFile.FieldType), Jvm.Cond.code ({ cls := "java/lang/Integer", name := "valueOf", desc := "(I)Ljava/lang/Integer;" } : Jvm.MethodName) jdk_33_method_22_code (1 : Nat) (Option.some (Jvm.ClassFile.FieldType.object "java/lang/Integer")), Jvm.Cond.code ({ cls := "com/example/telegrid/telegrid/erp1/Eep", name := "equals", desc := "(Ljava/lang/Object;)Z" } : Jvm.MethodName) prog_50_method_9_code (3 : Nat) (Option.some Jvm.ClassFile.FieldType.boolean), Jvm.Cond.code ({ cls := "java/lang/Integer", name := "<init>", desc := "(I)V" } : Jvm.MethodName) jdk_33_method_23_code (2 : Nat) (Option.none : Option Jvm.ClassFile.FieldType), Jvm.Cond.code ({ cls := "java/lang/Number", name := "<init>", desc := "()V" } : Jvm.MethodName) jdk_18_method_1_code (1 : Nat) (Option.none : Option Jvm.ClassFile.FieldType)]
set_option maxRecDepth 65536 in
theorem codes_eq : words1.filter isCode = codes1 := rfl
theorem w_codes : ∀ c ∈ words1.filter isCode, c.before args0 about1 = true := by
  rw [codes_eq]
  intro c hc
  simp only [codes1, List.mem_cons, List.not_mem_nil, or_false] at hc
  rcases hc with rfl | rfl | rfl | rfl | rfl | rfl | rfl | rfl
  · exact w_c0
  · exact w_c1
  · exact w_c2
  · exact w_c3
  · exact w_c4
  · exact w_c5
  · exact w_c6
  · exact w_c7
set_option maxRecDepth 65536 in
theorem w_t1 : (words1.take 24).all (fun c => isCode c || c.before args0 about1) = true := by decide +kernel
set_option maxRecDepth 65536 in
theorem w_t2 : ((words1.drop 24).take 24).all (fun c => isCode c || c.before args0 about1) = true := by decide +kernel
set_option maxRecDepth 65536 in
theorem w_t3 : ((words1.drop 24).drop 24).all (fun c => isCode c || c.before args0 about1) = true := by decide +kernel
theorem w_tables : (allAtoms (Jvm.Cond.code x code maxLocals ret :: tables_1)).before args0 about1 = true := by
  rw [allAtoms_all]
  show words1.all (fun c => c.before args0 about1) = true
  refine all_split ?_ w_codes
  rw [← List.take_append_drop 24 words1, List.all_append, w_t1, ← List.take_append_drop 24 (words1.drop 24), List.all_append, w_t2, w_t3]
  rfl
set_option maxRecDepth 65536 in
theorem w_rest : rest_1_c.before args0 about1 = true := by decide +kernel
set_option maxRecDepth 65536 in
theorem w_case : (Jvm.Cond.and given_1 narrow_1).before args0 about1 = true := by decide +kernel
theorem w_applies : (headSpec (Jvm.Cond.code x code maxLocals ret :: tables_1) room_1).applies x e0.platform about1 = true :=
  (Spec.applies_iff w_frames).mpr ⟨w_running, w_runnable, w_alone, w_named, w_hears, w_ripe, w_room, w_tables⟩
theorem atStart : AtStart classFile x code maxLocals ret World_1 tables_1 room_1 Calls_1 rest_1 Pre_1 launch0 p0 e0 about1 theMethod args0 below0 :=
  ⟨lists_1, trivial, launch0.admits_env _ _ _, launch0.least_env, fairChoices_fair.cas, fairChoices_fair.clock, w_frames, w_args, w_heap, w_applies, trivial, w_rest, w_case⟩
end start1
theorem witness_1 : WitnessClaimed_1 := ⟨start1.p0, start1.e0, start1.about1, start1.theMethod, start1.args0, start1.below0, start1.atStart⟩
end Jvm.Pilot.@@N@@
