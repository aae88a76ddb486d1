import JvmDerived
import JvmDerived.Pilot.@@N@@Statement
import JvmDerived.Pilot.@@N@@Code
set_option linter.unusedVariables false
set_option linter.unusedSimpArgs false
namespace Jvm.RoadKit
open Sem ClassFile Op Lib Jvm.Stand Jvm.Free Jvm.LawKit
section New
variable {p : Program} {l : Launch} {e : Env} {R : Room} {s : State} {m : MethodId} {args : Array Value} {below : List Frame} {meth : Method} {c : Code} {T : State} {locs : List Loc} {cells slots : Nat}
theorem retI (X : Stand p l e R s m args below meth c T locs cells slots) (hx : p.tables.exec = Jvm.exec) {pc : Nat} {Ls : Array Slot} {z : Int32} {rest : List Value} (hret : meth.sig.returnType = some .int) (hd : decode c.code pc = .ok (.ireturn, 1)) {fs : List Frame}
    (hl : ∀ (f : JFrame) (acts : List Action), f.method = m → f.locked = none → f.entered = [] → (doReturn e (T.setTop f) acts (some (.int z))).1 = T.setFrames fs) : Steps p.tables e below (T.setTop (mkF m pc Ls (.int z :: rest))) (T.setFrames fs) := by
  have hm' : T.vm.method? m = some meth := X.method'
  have hn : narrow .int (.int z) = .int z := rfl
  show Steps p.tables e below (T.setTop { method := m, pc := pc, locals := Ls, stack := _ :: rest, locked := none }) _
  jvm_step X.here [X.here.top, hx, hd, hm', hret, hn]
  first | (intro acts; rw [hl _ acts rfl rfl rfl]) | rw [hl _ _ rfl rfl rfl]
  exact Steps.refl _
end New
end Jvm.RoadKit
namespace Jvm.Pilot.@@N@@
open Jvm Jvm.ClassFile Sem Op Lib Jvm.Free Jvm.Stand Jvm.LawKit Jvm.RoadKit Bundle Jvm.Pilot.@@N@@.Jvm.D
def Qv (val : Option Value) (h0 : Heap) (n0 : Nat) (v : Option Value) (h : Heap) (L : List Loc) : Prop := v = val ∧ Fr n0 L ∧ h = h0
def Ql (val : Option Value) (n0 : Nat) (v : Option Value) (L : List Loc) : Prop := v = val ∧ Fr n0 L
theorem own_enum {Z : State} {args : Array Value} {C n d K : String} {k : Int32} (hx : (Cond.exactly (.static C n d) K).value args Z none Z [] = some true) (ho : (Cond.eq (.field (.static C n d) "java/lang/Enum" "ordinal" "I") (.int k)).value args Z none Z [] = some true) (hi : (Cond.initialized C).before args Z = true) (hl : (Cond.laysStatic C n d).before args Z = true) : ∃ a, Sta Z Z.heap C n d (.ref a) ∧ Exa Z Z.heap a K ∧ Fld Z Z.heap a "java/lang/Enum" "ordinal" "I" (.int k) := by
  obtain ⟨a, ev⟩ := exa_v hx
  refine ⟨a, Sta.start ev (Or.inr ⟨hi, hl⟩), Exa.start ev hx, Fld.start ?_⟩
  have h := Jvm.Free.NT.SwA.eq_int (Cond.before_iff.mpr ho)
  rw [fld_at ev] at h; exact h
abbrev own_rem (x y : Int32) : Int32 := x % y
def own_takes (a o : Addr) (lv : Int32) : Int32 := if a = o then (if lv = 0 then 1 else 0) else if lv < 1 then 0 else if 2 < lv then 0 else 1
theorem own_tk1 {a o : Addr} {lv : Int32} (h : a ≠ o) (hl : lv = 1) : own_takes a o lv = 1 := by subst hl; unfold own_takes; rw [if_neg h]; decide
theorem own_tk2 {a o : Addr} {lv : Int32} (h : a ≠ o) (hl : lv = 2) : own_takes a o lv = 1 := by subst hl; unfold own_takes; rw [if_neg h]; decide
theorem own_tk0 {a o : Addr} {lv : Int32} (h : a ≠ o) (h1 : ¬ lv = 1) (h2 : ¬ lv = 2) : own_takes a o lv = 0 := by
  unfold own_takes
  rw [if_neg h]
  by_cases c1 : lv < 1
  · rw [if_pos c1]
  by_cases c2 : 2 < lv
  · rw [if_neg c1, if_pos c2]
  · exfalso
    rw [Int32.lt_iff_toInt_lt] at c1 c2
    have e1 : (1 : Int32).toInt = 1 := by decide
    have e2 : (2 : Int32).toInt = 2 := by decide
    rw [e1] at c1; rw [e2] at c2
    have n1 : lv.toInt ≠ 1 := fun q => h1 (Int32.toInt_inj.mp (by rw [q, e1]))
    have n2 : lv.toInt ≠ 2 := fun q => h2 (Int32.toInt_inj.mp (by rw [q, e2]))
    omega
theorem d1_0 : decode prog_73_method_5_code 0 = .ok (.aload_n 0, 1) := by decide +kernel
theorem d1_1 : decode prog_73_method_5_code 1 = .ok (.getstatic 3, 3) := by decide +kernel
theorem d1_4 : decode prog_73_method_5_code 4 = .ok (.if_acmp .ne 15, 3) := by decide +kernel
theorem d1_7 : decode prog_73_method_5_code 7 = .ok (.iload_n 1, 1) := by decide +kernel
theorem d1_8 : decode prog_73_method_5_code 8 = .ok (.ifCond .ne 7, 3) := by decide +kernel
theorem d1_11 : decode prog_73_method_5_code 11 = .ok (.iconst 1, 1) := by decide +kernel
theorem d1_12 : decode prog_73_method_5_code 12 = .ok (.goto 22, 3) := by decide +kernel
theorem d1_34 : decode prog_73_method_5_code 34 = .ok (.ireturn, 1) := by decide +kernel
theorem pn_1 : plainName "com/example/telegrid/telegrid/esp3/RepeaterMode" = true := by first | (simp [plainName, overriddenIn]; done) | decide +kernel
theorem ef_1 (m : MethodId) (x0 : Addr) (x1 : Int32) : entryFrame m #[(.ref x0), (.int x1)] 2 = mkF m 0 #[.val (.ref x0), .val (.int x1)] [] := by first | (simp [entryFrame, mkF, argsToLocals, Value.category]; done) | rfl
set_option maxRecDepth 65536 in
set_option maxHeartbeats 40000000 in
theorem rm1_ff (l : Launch) (Z : State) (a0 : Array Value) (hw : ∀ d ∈ tables_1, d.before a0 Z = true) (ws : List Jvm.Cond) (a1 : Addr) (p2 : Int32) (w3 : Addr) (h0 : Heap) (n0 : Nat) (Z0 : n0 ≤ h0.size) (S_OFF : Sta Z h0 "com/example/telegrid/telegrid/esp3/RepeaterMode" "OFF" "Lcom/example/telegrid/telegrid/esp3/RepeaterMode;" (.ref w3)) (ha4 : a1 = w3) (hc8 : p2 = (0 : Int32)) :
    MetFree l (⟨"com/example/telegrid/telegrid/esp3/RepeaterMode", "takes", "(I)Z"⟩ : MethodName) (head1 (Jvm.Cond.code (⟨"com/example/telegrid/telegrid/esp3/RepeaterMode", "takes", "(I)Z"⟩ : MethodName) prog_73_method_5_code 2 (some .boolean) :: ws) ({ frames := 0, cells := 0, slots := 0, locals := 0 } : Room)) (fun a U => a = #[(.ref a1), (.int p2)] ∧ Z.Warmed39 U.vm ∧ U.heap = h0) (fun _ _ _ _ _ => True) (fun _ U o U' => ∃ v L, o = .returned v ∧ Qv (some (.int (1 : Int32))) h0 n0 v U'.heap L ∧ FrameEnd U o U' L ({ frames := 0, cells := 0, slots := 0, locals := 0 } : Room).cells ({ frames := 0, cells := 0, slots := 0, locals := 0 } : Room).slots) := by
  refine MetFree.of_bodySF (plainFor_of_name pn_1) hisR ?_
  intro p e s m args below meth c s₁ Bd hml0 hP hK
  obtain ⟨rfl, hZ, hh⟩ := hP
  have hx := Bd.exec
  have hby := Bd.bytes
  have hml : c.maxLocals = 2 := hml0
  have hown : s.vm.findClass "com/example/telegrid/telegrid/esp3/RepeaterMode" = some m.cls := findClass_of_methodNamed Bd.named
  have hnm := (name_of_methodNamed Bd.named Bd.method).1
  have X0 : Stand p l e ({ frames := 0, cells := 0, slots := 0, locals := 0 } : Room) s m #[(.ref a1), (.int p2)] below meth c s₁ [] 0 0 := Stand.of_body Bd
  have e0 : s₁.heap = h0 := by rw [← hh, Bd.state]; rfl
  have N0 := Fr.nil n0
  have pre0 : ∀ t, Steps p.tables e below (s₁.setTop (mkF m 0 #[.val (.ref a1), .val (.int p2)] [])) t → Steps p.tables e below (s₁.setTop (entryFrame m #[(.ref a1), (.int p2)] 2)) t := fun t k => castTop (ef_1 m a1 p2) k
  -- 3. LAWS
  obtain ⟨T4, X4, e4, st4⟩ := getS2 X0 hx hZ hown (host := "") (Or.inl (hw _ (List.mem_of_getElem? (i := 9) rfl))) Via.refl e0 S_OFF (g := (mkF m 1 #[.val (.ref a1), .val (.int p2)] [(.ref a1)])) rfl (hb hby d1_1)
  obtain ⟨fs, hr, hrun, hended, hW, hsame⟩ := X4.leave (v := some (.int (1 : Int32))) (fun h => by rw [Bd.returns] at h; cases h)
  refine ⟨_, _, pre0 _ ?_, hrun, hended, _, _, rfl, ?_, ⟨_, rfl⟩, hW, hsame.mono (by decide) (by decide)⟩
  -- 4. STEPS
  · show Steps p.tables e below (s₁.setTop (mkF m 0 #[.val (.ref a1), .val (.int p2)] [])) _
    refine XS.aloadN X0.here hx rfl (hb hby d1_0) rfl rfl ?_
    show Steps p.tables e below (s₁.setTop (mkF m 1 #[.val (.ref a1), .val (.int p2)] [(.ref a1)])) _
    refine st4 _ ?_
    show Steps p.tables e below (T4.setTop (mkF m 4 #[.val (.ref a1), .val (.int p2)] [(.ref w3), (.ref a1)])) _
    refine Jvm.RoadKit.acmp (g := (mkF m 4 #[.val (.ref a1), .val (.int p2)] [(.ref w3), (.ref a1)])) X4 hx rfl rfl rfl (pc0 := 4) (pc' := 7) (same := true) rfl (hb hby d1_4) rfl (decide_eq_true (congrArg Value.ref ha4)) (by decide) (by decide) ?_
    show Steps p.tables e below (T4.setTop (mkF m 7 #[.val (.ref a1), .val (.int p2)] [])) _
    refine XS.iloadN X4.here hx rfl (hb hby d1_7) rfl ?_
    show Steps p.tables e below (T4.setTop (mkF m 8 #[.val (.ref a1), .val (.int p2)] [(.int p2)])) _
    refine XS.ifNo X4.here hx rfl (hb hby d1_8) rfl ((if0 _ _).trans (teq hc8).2) ?_
    show Steps p.tables e below (T4.setTop (mkF m 11 #[.val (.ref a1), .val (.int p2)] [])) _
    refine XS.iconst X4.here hx rfl (hb hby d1_11) ?_
    show Steps p.tables e below (T4.setTop (mkF m 12 #[.val (.ref a1), .val (.int p2)] [(.int (1 : Int32))])) _
    refine XS.goto X4.here hx rfl (pc0 := 12) (pc' := 34) rfl (hb hby d1_12) (by decide) (by decide) ?_
    show Steps p.tables e below (T4.setTop (mkF m 34 #[.val (.ref a1), .val (.int p2)] [(.int (1 : Int32))])) _
    exact retN X4 hx (t := .boolean) Bd.returns (by simp) (hb hby d1_34) hr
  · show Qv (some (.int (1 : Int32))) h0 n0 _ T4.heap _
    rw [e4]
    exact ⟨rfl, N0, rfl⟩
theorem d1_15 : decode prog_73_method_5_code 15 = .ok (.iconst 0, 1) := by decide +kernel
theorem d1_16 : decode prog_73_method_5_code 16 = .ok (.goto 18, 3) := by decide +kernel
set_option maxRecDepth 65536 in
set_option maxHeartbeats 40000000 in
theorem rm1_ft (l : Launch) (Z : State) (a0 : Array Value) (hw : ∀ d ∈ tables_1, d.before a0 Z = true) (ws : List Jvm.Cond) (a1 : Addr) (p2 : Int32) (w3 : Addr) (h0 : Heap) (n0 : Nat) (Z0 : n0 ≤ h0.size) (S_OFF : Sta Z h0 "com/example/telegrid/telegrid/esp3/RepeaterMode" "OFF" "Lcom/example/telegrid/telegrid/esp3/RepeaterMode;" (.ref w3)) (ha4 : a1 = w3) (hc8 : ¬ (p2 = (0 : Int32))) :
    MetFree l (⟨"com/example/telegrid/telegrid/esp3/RepeaterMode", "takes", "(I)Z"⟩ : MethodName) (head1 (Jvm.Cond.code (⟨"com/example/telegrid/telegrid/esp3/RepeaterMode", "takes", "(I)Z"⟩ : MethodName) prog_73_method_5_code 2 (some .boolean) :: ws) ({ frames := 0, cells := 0, slots := 0, locals := 0 } : Room)) (fun a U => a = #[(.ref a1), (.int p2)] ∧ Z.Warmed39 U.vm ∧ U.heap = h0) (fun _ _ _ _ _ => True) (fun _ U o U' => ∃ v L, o = .returned v ∧ Qv (some (.int (0 : Int32))) h0 n0 v U'.heap L ∧ FrameEnd U o U' L ({ frames := 0, cells := 0, slots := 0, locals := 0 } : Room).cells ({ frames := 0, cells := 0, slots := 0, locals := 0 } : Room).slots) := by
  refine MetFree.of_bodySF (plainFor_of_name pn_1) hisR ?_
  intro p e s m args below meth c s₁ Bd hml0 hP hK
  obtain ⟨rfl, hZ, hh⟩ := hP
  have hx := Bd.exec
  have hby := Bd.bytes
  have hml : c.maxLocals = 2 := hml0
  have hown : s.vm.findClass "com/example/telegrid/telegrid/esp3/RepeaterMode" = some m.cls := findClass_of_methodNamed Bd.named
  have hnm := (name_of_methodNamed Bd.named Bd.method).1
  have X0 : Stand p l e ({ frames := 0, cells := 0, slots := 0, locals := 0 } : Room) s m #[(.ref a1), (.int p2)] below meth c s₁ [] 0 0 := Stand.of_body Bd
  have e0 : s₁.heap = h0 := by rw [← hh, Bd.state]; rfl
  have N0 := Fr.nil n0
  have pre0 : ∀ t, Steps p.tables e below (s₁.setTop (mkF m 0 #[.val (.ref a1), .val (.int p2)] [])) t → Steps p.tables e below (s₁.setTop (entryFrame m #[(.ref a1), (.int p2)] 2)) t := fun t k => castTop (ef_1 m a1 p2) k
  -- 3. LAWS
  obtain ⟨T4, X4, e4, st4⟩ := getS2 X0 hx hZ hown (host := "") (Or.inl (hw _ (List.mem_of_getElem? (i := 9) rfl))) Via.refl e0 S_OFF (g := (mkF m 1 #[.val (.ref a1), .val (.int p2)] [(.ref a1)])) rfl (hb hby d1_1)
  obtain ⟨fs, hr, hrun, hended, hW, hsame⟩ := X4.leave (v := some (.int (0 : Int32))) (fun h => by rw [Bd.returns] at h; cases h)
  refine ⟨_, _, pre0 _ ?_, hrun, hended, _, _, rfl, ?_, ⟨_, rfl⟩, hW, hsame.mono (by decide) (by decide)⟩
  -- 4. STEPS
  · show Steps p.tables e below (s₁.setTop (mkF m 0 #[.val (.ref a1), .val (.int p2)] [])) _
    refine XS.aloadN X0.here hx rfl (hb hby d1_0) rfl rfl ?_
    show Steps p.tables e below (s₁.setTop (mkF m 1 #[.val (.ref a1), .val (.int p2)] [(.ref a1)])) _
    refine st4 _ ?_
    show Steps p.tables e below (T4.setTop (mkF m 4 #[.val (.ref a1), .val (.int p2)] [(.ref w3), (.ref a1)])) _
    refine Jvm.RoadKit.acmp (g := (mkF m 4 #[.val (.ref a1), .val (.int p2)] [(.ref w3), (.ref a1)])) X4 hx rfl rfl rfl (pc0 := 4) (pc' := 7) (same := true) rfl (hb hby d1_4) rfl (decide_eq_true (congrArg Value.ref ha4)) (by decide) (by decide) ?_
    show Steps p.tables e below (T4.setTop (mkF m 7 #[.val (.ref a1), .val (.int p2)] [])) _
    refine XS.iloadN X4.here hx rfl (hb hby d1_7) rfl ?_
    show Steps p.tables e below (T4.setTop (mkF m 8 #[.val (.ref a1), .val (.int p2)] [(.int p2)])) _
    refine XS.ifYes X4.here hx rfl (pc0 := 8) (pc' := 15) rfl (hb hby d1_8) rfl ((if0 _ _).trans (feq hc8).2) (by decide) (by decide) ?_
    show Steps p.tables e below (T4.setTop (mkF m 15 #[.val (.ref a1), .val (.int p2)] [])) _
    refine XS.iconst X4.here hx rfl (hb hby d1_15) ?_
    show Steps p.tables e below (T4.setTop (mkF m 16 #[.val (.ref a1), .val (.int p2)] [(.int (0 : Int32))])) _
    refine XS.goto X4.here hx rfl (pc0 := 16) (pc' := 34) rfl (hb hby d1_16) (by decide) (by decide) ?_
    show Steps p.tables e below (T4.setTop (mkF m 34 #[.val (.ref a1), .val (.int p2)] [(.int (0 : Int32))])) _
    exact retN X4 hx (t := .boolean) Bd.returns (by simp) (hb hby d1_34) hr
  · show Qv (some (.int (0 : Int32))) h0 n0 _ T4.heap _
    rw [e4]
    exact ⟨rfl, N0, rfl⟩
theorem d1_19 : decode prog_73_method_5_code 19 = .ok (.iload_n 1, 1) := by decide +kernel
theorem d1_20 : decode prog_73_method_5_code 20 = .ok (.iconst 1, 1) := by decide +kernel
theorem d1_21 : decode prog_73_method_5_code 21 = .ok (.if_icmp .lt 12, 3) := by decide +kernel
theorem d1_33 : decode prog_73_method_5_code 33 = .ok (.iconst 0, 1) := by decide +kernel
set_option maxRecDepth 65536 in
set_option maxHeartbeats 40000000 in
theorem rm1_tt (l : Launch) (Z : State) (a0 : Array Value) (hw : ∀ d ∈ tables_1, d.before a0 Z = true) (ws : List Jvm.Cond) (a1 : Addr) (p2 : Int32) (w3 : Addr) (h0 : Heap) (n0 : Nat) (Z0 : n0 ≤ h0.size) (S_OFF : Sta Z h0 "com/example/telegrid/telegrid/esp3/RepeaterMode" "OFF" "Lcom/example/telegrid/telegrid/esp3/RepeaterMode;" (.ref w3)) (ha4 : ¬ (a1 = w3)) (hc21 : p2 < (1 : Int32)) :
    MetFree l (⟨"com/example/telegrid/telegrid/esp3/RepeaterMode", "takes", "(I)Z"⟩ : MethodName) (head1 (Jvm.Cond.code (⟨"com/example/telegrid/telegrid/esp3/RepeaterMode", "takes", "(I)Z"⟩ : MethodName) prog_73_method_5_code 2 (some .boolean) :: ws) ({ frames := 0, cells := 0, slots := 0, locals := 0 } : Room)) (fun a U => a = #[(.ref a1), (.int p2)] ∧ Z.Warmed39 U.vm ∧ U.heap = h0) (fun _ _ _ _ _ => True) (fun _ U o U' => ∃ v L, o = .returned v ∧ Qv (some (.int (0 : Int32))) h0 n0 v U'.heap L ∧ FrameEnd U o U' L ({ frames := 0, cells := 0, slots := 0, locals := 0 } : Room).cells ({ frames := 0, cells := 0, slots := 0, locals := 0 } : Room).slots) := by
  refine MetFree.of_bodySF (plainFor_of_name pn_1) hisR ?_
  intro p e s m args below meth c s₁ Bd hml0 hP hK
  obtain ⟨rfl, hZ, hh⟩ := hP
  have hx := Bd.exec
  have hby := Bd.bytes
  have hml : c.maxLocals = 2 := hml0
  have hown : s.vm.findClass "com/example/telegrid/telegrid/esp3/RepeaterMode" = some m.cls := findClass_of_methodNamed Bd.named
  have hnm := (name_of_methodNamed Bd.named Bd.method).1
  have X0 : Stand p l e ({ frames := 0, cells := 0, slots := 0, locals := 0 } : Room) s m #[(.ref a1), (.int p2)] below meth c s₁ [] 0 0 := Stand.of_body Bd
  have e0 : s₁.heap = h0 := by rw [← hh, Bd.state]; rfl
  have N0 := Fr.nil n0
  have pre0 : ∀ t, Steps p.tables e below (s₁.setTop (mkF m 0 #[.val (.ref a1), .val (.int p2)] [])) t → Steps p.tables e below (s₁.setTop (entryFrame m #[(.ref a1), (.int p2)] 2)) t := fun t k => castTop (ef_1 m a1 p2) k
  -- 3. LAWS
  obtain ⟨T4, X4, e4, st4⟩ := getS2 X0 hx hZ hown (host := "") (Or.inl (hw _ (List.mem_of_getElem? (i := 9) rfl))) Via.refl e0 S_OFF (g := (mkF m 1 #[.val (.ref a1), .val (.int p2)] [(.ref a1)])) rfl (hb hby d1_1)
  obtain ⟨fs, hr, hrun, hended, hW, hsame⟩ := X4.leave (v := some (.int (0 : Int32))) (fun h => by rw [Bd.returns] at h; cases h)
  refine ⟨_, _, pre0 _ ?_, hrun, hended, _, _, rfl, ?_, ⟨_, rfl⟩, hW, hsame.mono (by decide) (by decide)⟩
  -- 4. STEPS
  · show Steps p.tables e below (s₁.setTop (mkF m 0 #[.val (.ref a1), .val (.int p2)] [])) _
    refine XS.aloadN X0.here hx rfl (hb hby d1_0) rfl rfl ?_
    show Steps p.tables e below (s₁.setTop (mkF m 1 #[.val (.ref a1), .val (.int p2)] [(.ref a1)])) _
    refine st4 _ ?_
    show Steps p.tables e below (T4.setTop (mkF m 4 #[.val (.ref a1), .val (.int p2)] [(.ref w3), (.ref a1)])) _
    refine Jvm.RoadKit.acmp (g := (mkF m 4 #[.val (.ref a1), .val (.int p2)] [(.ref w3), (.ref a1)])) X4 hx rfl rfl rfl (pc0 := 4) (pc' := 19) (same := false) rfl (hb hby d1_4) rfl (decide_eq_false fun q => ha4 (Value.ref.inj q)) (by decide) (by decide) ?_
    show Steps p.tables e below (T4.setTop (mkF m 19 #[.val (.ref a1), .val (.int p2)] [])) _
    refine XS.iloadN X4.here hx rfl (hb hby d1_19) rfl ?_
    show Steps p.tables e below (T4.setTop (mkF m 20 #[.val (.ref a1), .val (.int p2)] [(.int p2)])) _
    refine XS.iconst X4.here hx rfl (hb hby d1_20) ?_
    show Steps p.tables e below (T4.setTop (mkF m 21 #[.val (.ref a1), .val (.int p2)] [(.int (1 : Int32)), (.int p2)])) _
    refine XS.icmpYes X4.here hx rfl (pc0 := 21) (pc' := 33) rfl (hb hby d1_21) rfl (tlt hc21).1 (by decide) (by decide) ?_
    show Steps p.tables e below (T4.setTop (mkF m 33 #[.val (.ref a1), .val (.int p2)] [])) _
    refine XS.iconst X4.here hx rfl (hb hby d1_33) ?_
    show Steps p.tables e below (T4.setTop (mkF m 34 #[.val (.ref a1), .val (.int p2)] [(.int (0 : Int32))])) _
    exact retN X4 hx (t := .boolean) Bd.returns (by simp) (hb hby d1_34) hr
  · show Qv (some (.int (0 : Int32))) h0 n0 _ T4.heap _
    rw [e4]
    exact ⟨rfl, N0, rfl⟩
theorem d1_24 : decode prog_73_method_5_code 24 = .ok (.iload_n 1, 1) := by decide +kernel
theorem d1_25 : decode prog_73_method_5_code 25 = .ok (.iconst 2, 1) := by decide +kernel
theorem d1_26 : decode prog_73_method_5_code 26 = .ok (.if_icmp .gt 7, 3) := by decide +kernel
set_option maxRecDepth 65536 in
set_option maxHeartbeats 40000000 in
theorem rm1_tft (l : Launch) (Z : State) (a0 : Array Value) (hw : ∀ d ∈ tables_1, d.before a0 Z = true) (ws : List Jvm.Cond) (a1 : Addr) (p2 : Int32) (w3 : Addr) (h0 : Heap) (n0 : Nat) (Z0 : n0 ≤ h0.size) (S_OFF : Sta Z h0 "com/example/telegrid/telegrid/esp3/RepeaterMode" "OFF" "Lcom/example/telegrid/telegrid/esp3/RepeaterMode;" (.ref w3)) (ha4 : ¬ (a1 = w3)) (hc21 : ¬ (p2 < (1 : Int32))) (hc26 : (2 : Int32) < p2) :
    MetFree l (⟨"com/example/telegrid/telegrid/esp3/RepeaterMode", "takes", "(I)Z"⟩ : MethodName) (head1 (Jvm.Cond.code (⟨"com/example/telegrid/telegrid/esp3/RepeaterMode", "takes", "(I)Z"⟩ : MethodName) prog_73_method_5_code 2 (some .boolean) :: ws) ({ frames := 0, cells := 0, slots := 0, locals := 0 } : Room)) (fun a U => a = #[(.ref a1), (.int p2)] ∧ Z.Warmed39 U.vm ∧ U.heap = h0) (fun _ _ _ _ _ => True) (fun _ U o U' => ∃ v L, o = .returned v ∧ Qv (some (.int (0 : Int32))) h0 n0 v U'.heap L ∧ FrameEnd U o U' L ({ frames := 0, cells := 0, slots := 0, locals := 0 } : Room).cells ({ frames := 0, cells := 0, slots := 0, locals := 0 } : Room).slots) := by
  refine MetFree.of_bodySF (plainFor_of_name pn_1) hisR ?_
  intro p e s m args below meth c s₁ Bd hml0 hP hK
  obtain ⟨rfl, hZ, hh⟩ := hP
  have hx := Bd.exec
  have hby := Bd.bytes
  have hml : c.maxLocals = 2 := hml0
  have hown : s.vm.findClass "com/example/telegrid/telegrid/esp3/RepeaterMode" = some m.cls := findClass_of_methodNamed Bd.named
  have hnm := (name_of_methodNamed Bd.named Bd.method).1
  have X0 : Stand p l e ({ frames := 0, cells := 0, slots := 0, locals := 0 } : Room) s m #[(.ref a1), (.int p2)] below meth c s₁ [] 0 0 := Stand.of_body Bd
  have e0 : s₁.heap = h0 := by rw [← hh, Bd.state]; rfl
  have N0 := Fr.nil n0
  have pre0 : ∀ t, Steps p.tables e below (s₁.setTop (mkF m 0 #[.val (.ref a1), .val (.int p2)] [])) t → Steps p.tables e below (s₁.setTop (entryFrame m #[(.ref a1), (.int p2)] 2)) t := fun t k => castTop (ef_1 m a1 p2) k
  -- 3. LAWS
  obtain ⟨T4, X4, e4, st4⟩ := getS2 X0 hx hZ hown (host := "") (Or.inl (hw _ (List.mem_of_getElem? (i := 9) rfl))) Via.refl e0 S_OFF (g := (mkF m 1 #[.val (.ref a1), .val (.int p2)] [(.ref a1)])) rfl (hb hby d1_1)
  obtain ⟨fs, hr, hrun, hended, hW, hsame⟩ := X4.leave (v := some (.int (0 : Int32))) (fun h => by rw [Bd.returns] at h; cases h)
  refine ⟨_, _, pre0 _ ?_, hrun, hended, _, _, rfl, ?_, ⟨_, rfl⟩, hW, hsame.mono (by decide) (by decide)⟩
  -- 4. STEPS
  · show Steps p.tables e below (s₁.setTop (mkF m 0 #[.val (.ref a1), .val (.int p2)] [])) _
    refine XS.aloadN X0.here hx rfl (hb hby d1_0) rfl rfl ?_
    show Steps p.tables e below (s₁.setTop (mkF m 1 #[.val (.ref a1), .val (.int p2)] [(.ref a1)])) _
    refine st4 _ ?_
    show Steps p.tables e below (T4.setTop (mkF m 4 #[.val (.ref a1), .val (.int p2)] [(.ref w3), (.ref a1)])) _
    refine Jvm.RoadKit.acmp (g := (mkF m 4 #[.val (.ref a1), .val (.int p2)] [(.ref w3), (.ref a1)])) X4 hx rfl rfl rfl (pc0 := 4) (pc' := 19) (same := false) rfl (hb hby d1_4) rfl (decide_eq_false fun q => ha4 (Value.ref.inj q)) (by decide) (by decide) ?_
    show Steps p.tables e below (T4.setTop (mkF m 19 #[.val (.ref a1), .val (.int p2)] [])) _
    refine XS.iloadN X4.here hx rfl (hb hby d1_19) rfl ?_
    show Steps p.tables e below (T4.setTop (mkF m 20 #[.val (.ref a1), .val (.int p2)] [(.int p2)])) _
    refine XS.iconst X4.here hx rfl (hb hby d1_20) ?_
    show Steps p.tables e below (T4.setTop (mkF m 21 #[.val (.ref a1), .val (.int p2)] [(.int (1 : Int32)), (.int p2)])) _
    refine XS.icmpNo X4.here hx rfl (hb hby d1_21) rfl (flt hc21).1 ?_
    show Steps p.tables e below (T4.setTop (mkF m 24 #[.val (.ref a1), .val (.int p2)] [])) _
    refine XS.iloadN X4.here hx rfl (hb hby d1_24) rfl ?_
    show Steps p.tables e below (T4.setTop (mkF m 25 #[.val (.ref a1), .val (.int p2)] [(.int p2)])) _
    refine XS.iconst X4.here hx rfl (hb hby d1_25) ?_
    show Steps p.tables e below (T4.setTop (mkF m 26 #[.val (.ref a1), .val (.int p2)] [(.int (2 : Int32)), (.int p2)])) _
    refine XS.icmpYes X4.here hx rfl (pc0 := 26) (pc' := 33) rfl (hb hby d1_26) rfl (tlt hc26).2.2.1 (by decide) (by decide) ?_
    show Steps p.tables e below (T4.setTop (mkF m 33 #[.val (.ref a1), .val (.int p2)] [])) _
    refine XS.iconst X4.here hx rfl (hb hby d1_33) ?_
    show Steps p.tables e below (T4.setTop (mkF m 34 #[.val (.ref a1), .val (.int p2)] [(.int (0 : Int32))])) _
    exact retN X4 hx (t := .boolean) Bd.returns (by simp) (hb hby d1_34) hr
  · show Qv (some (.int (0 : Int32))) h0 n0 _ T4.heap _
    rw [e4]
    exact ⟨rfl, N0, rfl⟩
theorem d1_29 : decode prog_73_method_5_code 29 = .ok (.iconst 1, 1) := by decide +kernel
theorem d1_30 : decode prog_73_method_5_code 30 = .ok (.goto 4, 3) := by decide +kernel
set_option maxRecDepth 65536 in
set_option maxHeartbeats 40000000 in
theorem rm1_tff (l : Launch) (Z : State) (a0 : Array Value) (hw : ∀ d ∈ tables_1, d.before a0 Z = true) (ws : List Jvm.Cond) (a1 : Addr) (p2 : Int32) (w3 : Addr) (h0 : Heap) (n0 : Nat) (Z0 : n0 ≤ h0.size) (S_OFF : Sta Z h0 "com/example/telegrid/telegrid/esp3/RepeaterMode" "OFF" "Lcom/example/telegrid/telegrid/esp3/RepeaterMode;" (.ref w3)) (ha4 : ¬ (a1 = w3)) (hc21 : ¬ (p2 < (1 : Int32))) (hc26 : ¬ ((2 : Int32) < p2)) :
    MetFree l (⟨"com/example/telegrid/telegrid/esp3/RepeaterMode", "takes", "(I)Z"⟩ : MethodName) (head1 (Jvm.Cond.code (⟨"com/example/telegrid/telegrid/esp3/RepeaterMode", "takes", "(I)Z"⟩ : MethodName) prog_73_method_5_code 2 (some .boolean) :: ws) ({ frames := 0, cells := 0, slots := 0, locals := 0 } : Room)) (fun a U => a = #[(.ref a1), (.int p2)] ∧ Z.Warmed39 U.vm ∧ U.heap = h0) (fun _ _ _ _ _ => True) (fun _ U o U' => ∃ v L, o = .returned v ∧ Qv (some (.int (1 : Int32))) h0 n0 v U'.heap L ∧ FrameEnd U o U' L ({ frames := 0, cells := 0, slots := 0, locals := 0 } : Room).cells ({ frames := 0, cells := 0, slots := 0, locals := 0 } : Room).slots) := by
  refine MetFree.of_bodySF (plainFor_of_name pn_1) hisR ?_
  intro p e s m args below meth c s₁ Bd hml0 hP hK
  obtain ⟨rfl, hZ, hh⟩ := hP
  have hx := Bd.exec
  have hby := Bd.bytes
  have hml : c.maxLocals = 2 := hml0
  have hown : s.vm.findClass "com/example/telegrid/telegrid/esp3/RepeaterMode" = some m.cls := findClass_of_methodNamed Bd.named
  have hnm := (name_of_methodNamed Bd.named Bd.method).1
  have X0 : Stand p l e ({ frames := 0, cells := 0, slots := 0, locals := 0 } : Room) s m #[(.ref a1), (.int p2)] below meth c s₁ [] 0 0 := Stand.of_body Bd
  have e0 : s₁.heap = h0 := by rw [← hh, Bd.state]; rfl
  have N0 := Fr.nil n0
  have pre0 : ∀ t, Steps p.tables e below (s₁.setTop (mkF m 0 #[.val (.ref a1), .val (.int p2)] [])) t → Steps p.tables e below (s₁.setTop (entryFrame m #[(.ref a1), (.int p2)] 2)) t := fun t k => castTop (ef_1 m a1 p2) k
  -- 3. LAWS
  obtain ⟨T4, X4, e4, st4⟩ := getS2 X0 hx hZ hown (host := "") (Or.inl (hw _ (List.mem_of_getElem? (i := 9) rfl))) Via.refl e0 S_OFF (g := (mkF m 1 #[.val (.ref a1), .val (.int p2)] [(.ref a1)])) rfl (hb hby d1_1)
  obtain ⟨fs, hr, hrun, hended, hW, hsame⟩ := X4.leave (v := some (.int (1 : Int32))) (fun h => by rw [Bd.returns] at h; cases h)
  refine ⟨_, _, pre0 _ ?_, hrun, hended, _, _, rfl, ?_, ⟨_, rfl⟩, hW, hsame.mono (by decide) (by decide)⟩
  -- 4. STEPS
  · show Steps p.tables e below (s₁.setTop (mkF m 0 #[.val (.ref a1), .val (.int p2)] [])) _
    refine XS.aloadN X0.here hx rfl (hb hby d1_0) rfl rfl ?_
    show Steps p.tables e below (s₁.setTop (mkF m 1 #[.val (.ref a1), .val (.int p2)] [(.ref a1)])) _
    refine st4 _ ?_
    show Steps p.tables e below (T4.setTop (mkF m 4 #[.val (.ref a1), .val (.int p2)] [(.ref w3), (.ref a1)])) _
    refine Jvm.RoadKit.acmp (g := (mkF m 4 #[.val (.ref a1), .val (.int p2)] [(.ref w3), (.ref a1)])) X4 hx rfl rfl rfl (pc0 := 4) (pc' := 19) (same := false) rfl (hb hby d1_4) rfl (decide_eq_false fun q => ha4 (Value.ref.inj q)) (by decide) (by decide) ?_
    show Steps p.tables e below (T4.setTop (mkF m 19 #[.val (.ref a1), .val (.int p2)] [])) _
    refine XS.iloadN X4.here hx rfl (hb hby d1_19) rfl ?_
    show Steps p.tables e below (T4.setTop (mkF m 20 #[.val (.ref a1), .val (.int p2)] [(.int p2)])) _
    refine XS.iconst X4.here hx rfl (hb hby d1_20) ?_
    show Steps p.tables e below (T4.setTop (mkF m 21 #[.val (.ref a1), .val (.int p2)] [(.int (1 : Int32)), (.int p2)])) _
    refine XS.icmpNo X4.here hx rfl (hb hby d1_21) rfl (flt hc21).1 ?_
    show Steps p.tables e below (T4.setTop (mkF m 24 #[.val (.ref a1), .val (.int p2)] [])) _
    refine XS.iloadN X4.here hx rfl (hb hby d1_24) rfl ?_
    show Steps p.tables e below (T4.setTop (mkF m 25 #[.val (.ref a1), .val (.int p2)] [(.int p2)])) _
    refine XS.iconst X4.here hx rfl (hb hby d1_25) ?_
    show Steps p.tables e below (T4.setTop (mkF m 26 #[.val (.ref a1), .val (.int p2)] [(.int (2 : Int32)), (.int p2)])) _
    refine XS.icmpNo X4.here hx rfl (hb hby d1_26) rfl (flt hc26).2.2.1 ?_
    show Steps p.tables e below (T4.setTop (mkF m 29 #[.val (.ref a1), .val (.int p2)] [])) _
    refine XS.iconst X4.here hx rfl (hb hby d1_29) ?_
    show Steps p.tables e below (T4.setTop (mkF m 30 #[.val (.ref a1), .val (.int p2)] [(.int (1 : Int32))])) _
    refine XS.goto X4.here hx rfl (pc0 := 30) (pc' := 34) rfl (hb hby d1_30) (by decide) (by decide) ?_
    show Steps p.tables e below (T4.setTop (mkF m 34 #[.val (.ref a1), .val (.int p2)] [(.int (1 : Int32))])) _
    exact retN X4 hx (t := .boolean) Bd.returns (by simp) (hb hby d1_34) hr
  · show Qv (some (.int (1 : Int32))) h0 n0 _ T4.heap _
    rw [e4]
    exact ⟨rfl, N0, rfl⟩
theorem rm1 (l : Launch) (Z : State) (a0 : Array Value) (hw : ∀ d ∈ tables_1, d.before a0 Z = true) (ws : List Jvm.Cond) (a1 : Addr) (p2 : Int32) (wO : Addr) (h0 : Heap) (n0 : Nat) (Z0 : n0 ≤ h0.size) (SO : Sta Z h0 "com/example/telegrid/telegrid/esp3/RepeaterMode" "OFF" "Lcom/example/telegrid/telegrid/esp3/RepeaterMode;" (.ref wO)) :
    MetFree l (⟨"com/example/telegrid/telegrid/esp3/RepeaterMode", "takes", "(I)Z"⟩ : MethodName) (head1 (Jvm.Cond.code (⟨"com/example/telegrid/telegrid/esp3/RepeaterMode", "takes", "(I)Z"⟩ : MethodName) prog_73_method_5_code 2 (some .boolean) :: ws) ({ frames := 0, cells := 0, slots := 0, locals := 0 } : Room)) (fun a U => a = #[(.ref a1), (.int p2)] ∧ Z.Warmed39 U.vm ∧ U.heap = h0) (fun _ _ _ _ _ => True) (fun _ U o U' => ∃ v L, o = .returned v ∧ Qv (some (.int (own_takes a1 wO p2))) h0 n0 v U'.heap L ∧ FrameEnd U o U' L ({ frames := 0, cells := 0, slots := 0, locals := 0 } : Room).cells ({ frames := 0, cells := 0, slots := 0, locals := 0 } : Room).slots) := by
  by_cases h1 : a1 = wO
  · by_cases h2 : p2 = 0
    · have e : own_takes a1 wO p2 = 1 := by simp [own_takes, h1, h2]
      rw [e]; exact rm1_ff l Z a0 hw ws a1 p2 wO h0 n0 Z0 SO h1 h2
    · have e : own_takes a1 wO p2 = 0 := by simp [own_takes, h1, h2]
      rw [e]; exact rm1_ft l Z a0 hw ws a1 p2 wO h0 n0 Z0 SO h1 h2
  by_cases h2 : p2 < 1
  · have e : own_takes a1 wO p2 = 0 := by simp [own_takes, h1, h2]
    rw [e]; exact rm1_tt l Z a0 hw ws a1 p2 wO h0 n0 Z0 SO h1 h2
  by_cases h3 : 2 < p2
  · have e : own_takes a1 wO p2 = 0 := by simp [own_takes, h1, h2, h3]
    rw [e]; exact rm1_tft l Z a0 hw ws a1 p2 wO h0 n0 Z0 SO h1 h2 h3
  · have e : own_takes a1 wO p2 = 1 := by simp [own_takes, h1, h2, h3]
    rw [e]; exact rm1_tff l Z a0 hw ws a1 p2 wO h0 n0 Z0 SO h1 h2 h3
theorem pn_0 : plainName "com/example/telegrid/telegrid/esp3/RepeaterModeTakesPinLaw" = true := by first | (simp [plainName, overriddenIn]; done) | decide +kernel
theorem pd_0_0 : parseMethodDescriptor "(I)Z" = some ⟨[.int], some .boolean⟩ := by decide +kernel
theorem ef_0 (m : MethodId) (x0 : Int32) (x1 : Int32) (x2 : Int32) : entryFrame m #[(.int x0), (.int x1), (.int x2)] maxLocals = mkF m 0 #[.val (.int x0), .val (.int x1), .val (.int x2), .unset, .unset, .unset, .unset] [] := by first | (simp [entryFrame, mkF, argsToLocals, Value.category, maxLocals]; done) | rfl
set_option maxRecDepth 65536 in
set_option maxHeartbeats 40000000 in
theorem rm0_ftfff (l : Launch) (Z : State) (a0 : Array Value) (hw : ∀ d ∈ tables_1, d.before a0 Z = true) (ws : List Jvm.Cond) (p1 : Int32) (p2 : Int32) (p3 : Int32) (w4 : Addr) (h0 : Heap) (n0 : Nat) (Z0 : n0 ≤ h0.size) (wO : Addr) (SO : Sta Z h0 "com/example/telegrid/telegrid/esp3/RepeaterMode" "OFF" "Lcom/example/telegrid/telegrid/esp3/RepeaterMode;" (.ref wO)) (hv : own_takes w4 wO ((p2 &&& (7 : Int32)) - (2 : Int32)) = 1) (S_OFF : Sta Z h0 "com/example/telegrid/telegrid/esp3/RepeaterMode" "OFF" "Lcom/example/telegrid/telegrid/esp3/RepeaterMode;" (.ref w4)) (E_w4 : Exa Z h0 w4 "com/example/telegrid/telegrid/esp3/RepeaterMode") (hc8 : (own_rem (p1 &&& (2147483647 : Int32)) (3 : Int32)) = (0 : Int32)) (hc40 : (p3 &&& (1 : Int32)) = (0 : Int32)) (hc58 : (own_rem (p1 &&& (2147483647 : Int32)) (3 : Int32)) = (0 : Int32)) (hc63 : ((p2 &&& (7 : Int32)) - (2 : Int32)) = (0 : Int32)) :
    MetFree l x (head1 (Jvm.Cond.code x code maxLocals ret :: ws) room_1) (fun a U => a = #[(.int p1), (.int p2), (.int p3)] ∧ Z.Warmed39 U.vm ∧ U.heap = h0) (fun _ _ _ _ _ => True) (fun _ U o U' => ∃ v L, o = .returned v ∧ Ql (some (.int (1 : Int32))) n0 v L ∧ FrameEnd U o U' L room_1.cells room_1.slots) := by
  refine MetFree.of_bodySF (plainFor_of_name pn_0) hisR ?_
  intro p e s m args below meth c s₁ Bd hml0 hP hK
  obtain ⟨rfl, hZ, hh⟩ := hP
  have hx := Bd.exec
  have hby := Bd.bytes
  have hml : c.maxLocals = 7 := hml0
  have hown : s.vm.findClass "com/example/telegrid/telegrid/esp3/RepeaterModeTakesPinLaw" = some m.cls := findClass_of_methodNamed Bd.named
  have hnm := (name_of_methodNamed Bd.named Bd.method).1
  have X0 : Stand p l e room_1 s m #[(.int p1), (.int p2), (.int p3)] below meth c s₁ [] 0 0 := Stand.of_body Bd
  have e0 : s₁.heap = h0 := by rw [← hh, Bd.state]; rfl
  have N0 := Fr.nil n0
  have pre0 : ∀ t, Steps p.tables e below (s₁.setTop (mkF m 0 #[.val (.int p1), .val (.int p2), .val (.int p3), .unset, .unset, .unset, .unset] [])) t → Steps p.tables e below (s₁.setTop (entryFrame m #[(.int p1), (.int p2), (.int p3)] maxLocals)) t := fun t k => castTop (ef_0 m p1 p2 p3) k
  -- 3. LAWS
  obtain ⟨T5, X5, e5, st5⟩ := getS2 X0 hx hZ hown (host := "") (Or.inl (hw _ (List.mem_of_getElem? (i := 1) rfl))) Via.refl e0 S_OFF (g := (mkF m 11 #[.val (.int p1), .val (.int p2), .val (.int p3), .val (.int (own_rem (p1 &&& (2147483647 : Int32)) (3 : Int32))), .unset, .unset, .unset] [])) rfl (hb hby at_11)
  -- pc 99: com/example/telegrid/telegrid/esp3/RepeaterMode.takes by the contract of the body that the receiver's class selects, rm1
  obtain ⟨cq6, kq6, q6a, q6b, q6c⟩ := isOf hZ e5 E_w4
  obtain ⟨_, _, ⟨T6, L6, k6, n6⟩, -, X6, ⟨Lc6, hQ6, l6, y6, z6⟩, st6⟩ := X5.virtualBack hx (y := (⟨"com/example/telegrid/telegrid/esp3/RepeaterMode", "takes", "(I)Z"⟩ : MethodName)) (z := (⟨"com/example/telegrid/telegrid/esp3/RepeaterMode", "takes", "(I)Z"⟩ : MethodName)) hown (mvT hZ (hw _ (List.mem_of_getElem? (i := 4) rfl))) (mvT hZ (hw _ (List.mem_of_getElem? (i := 5) rfl))) (notFace_of_selects (args := #[]) (mvT hZ (hw _ (List.mem_of_getElem? (i := 7) rfl)))) (mvT hZ (hw _ (List.mem_of_getElem? (i := 7) rfl))) (mvT hZ (hw _ (List.mem_of_getElem? (i := 6) rfl))) (by decide) (backOf (W := 0) (rm1 l Z a0 hw [] w4 ((p2 &&& (7 : Int32)) - (2 : Int32)) wO h0 n0 Z0 SO) hZ (hw _ (List.mem_of_getElem? (i := 8) rfl)) (hw _ (List.mem_of_getElem? (i := 2) rfl)) (by decide) (by decide)) q6a q6c (g := (mkF m 99 #[.val (.int p1), .val (.int p2), .val (.int p3), .val (.int (own_rem (p1 &&& (2147483647 : Int32)) (3 : Int32))), .val (.ref w4), .val (.int ((p2 &&& (7 : Int32)) - (2 : Int32))), .val (.int (1 : Int32))] [(.int ((p2 &&& (7 : Int32)) - (2 : Int32))), (.ref w4)])) rfl (by rw [hml]; rfl) (Steps.refl _) (argsL := [(.int ((p2 &&& (7 : Int32)) - (2 : Int32)))]) (rest := []) (lenOf pd_0_0 rfl) rfl (by show 2 * 0 + _ ≤ _; exact Nat.le_of_eq rfl) (hb hby at_99) (fun _ _ => ⟨rfl, e5, (by decide : 0 + 0 ≤ _), (by decide : 0 + 0 ≤ _)⟩)
  dsimp only [Pt.U, Pt.locs, Pt.cells, Pt.slots] at X6 l6 y6 z6 st6 hQ6
  subst l6 y6 z6
  obtain ⟨rfl, N6q, e4⟩ := hQ6      -- what it returned, that it wrote nothing old, and the rest of your Q1
  have N6 := Fr.app N0 N6q
  obtain ⟨fs, hr, hrun, hended, hW, hsame⟩ := X6.leave (v := some (.int (1 : Int32))) (fun h => by rw [Bd.returns] at h; cases h)
  refine ⟨_, _, pre0 _ ?_, hrun, hended, _, _, rfl, ?_, ⟨_, rfl⟩, hW, hsame.mono (by decide) (by decide)⟩
  -- 4. STEPS
  · show Steps p.tables e below (s₁.setTop (mkF m 0 #[.val (.int p1), .val (.int p2), .val (.int p3), .unset, .unset, .unset, .unset] [])) _
    refine XS.iloadN X0.here hx rfl (hb hby at_0) rfl ?_
    show Steps p.tables e below (s₁.setTop (mkF m 1 #[.val (.int p1), .val (.int p2), .val (.int p3), .unset, .unset, .unset, .unset] [(.int p1)])) _
    refine X0.ldcInt hx hown (mvT hZ (hw _ (List.mem_of_getElem? (i := 0) rfl))) (g := (mkF m 1 #[.val (.int p1), .val (.int p2), .val (.int p3), .unset, .unset, .unset, .unset] [(.int p1)])) rfl (hb hby at_1) _ ?_
    show Steps p.tables e below (s₁.setTop (mkF m 3 #[.val (.int p1), .val (.int p2), .val (.int p3), .unset, .unset, .unset, .unset] [(.int (2147483647 : Int32)), (.int p1)])) _
    refine XS.iand X0.here hx rfl (hb hby at_3) rfl ?_
    show Steps p.tables e below (s₁.setTop (mkF m 4 #[.val (.int p1), .val (.int p2), .val (.int p3), .unset, .unset, .unset, .unset] [(.int (p1 &&& (2147483647 : Int32)))])) _
    refine XS.iconst X0.here hx rfl (hb hby at_4) ?_
    show Steps p.tables e below (s₁.setTop (mkF m 5 #[.val (.int p1), .val (.int p2), .val (.int p3), .unset, .unset, .unset, .unset] [(.int (3 : Int32)), (.int (p1 &&& (2147483647 : Int32)))])) _
    refine iremM X0 hx rfl (hb hby at_5) rfl (by decide) ?_
    show Steps p.tables e below (s₁.setTop (mkF m 6 #[.val (.int p1), .val (.int p2), .val (.int p3), .unset, .unset, .unset, .unset] [(.int (own_rem (p1 &&& (2147483647 : Int32)) (3 : Int32)))])) _
    refine XS.istoreN X0.here hx rfl (hb hby at_6) rfl (l' := #[.val (.int p1), .val (.int p2), .val (.int p3), .val (.int (own_rem (p1 &&& (2147483647 : Int32)) (3 : Int32))), .unset, .unset, .unset]) rfl ?_
    show Steps p.tables e below (s₁.setTop (mkF m 7 #[.val (.int p1), .val (.int p2), .val (.int p3), .val (.int (own_rem (p1 &&& (2147483647 : Int32)) (3 : Int32))), .unset, .unset, .unset] [])) _
    refine XS.iloadN X0.here hx rfl (hb hby at_7) rfl ?_
    show Steps p.tables e below (s₁.setTop (mkF m 8 #[.val (.int p1), .val (.int p2), .val (.int p3), .val (.int (own_rem (p1 &&& (2147483647 : Int32)) (3 : Int32))), .unset, .unset, .unset] [(.int (own_rem (p1 &&& (2147483647 : Int32)) (3 : Int32)))])) _
    refine XS.ifNo X0.here hx rfl (hb hby at_8) rfl ((if0 _ _).trans (teq hc8).2) ?_
    show Steps p.tables e below (s₁.setTop (mkF m 11 #[.val (.int p1), .val (.int p2), .val (.int p3), .val (.int (own_rem (p1 &&& (2147483647 : Int32)) (3 : Int32))), .unset, .unset, .unset] [])) _
    refine st5 _ ?_
    show Steps p.tables e below (T5.setTop (mkF m 14 #[.val (.int p1), .val (.int p2), .val (.int p3), .val (.int (own_rem (p1 &&& (2147483647 : Int32)) (3 : Int32))), .unset, .unset, .unset] [(.ref w4)])) _
    refine XS.astore X5.here hx rfl (hb hby at_14) rfl rfl (l' := #[.val (.int p1), .val (.int p2), .val (.int p3), .val (.int (own_rem (p1 &&& (2147483647 : Int32)) (3 : Int32))), .val (.ref w4), .unset, .unset]) rfl ?_
    show Steps p.tables e below (T5.setTop (mkF m 16 #[.val (.int p1), .val (.int p2), .val (.int p3), .val (.int (own_rem (p1 &&& (2147483647 : Int32)) (3 : Int32))), .val (.ref w4), .unset, .unset] [])) _
    refine XS.goto X5.here hx rfl (pc0 := 16) (pc' := 37) rfl (hb hby at_16) (by decide) (by decide) ?_
    show Steps p.tables e below (T5.setTop (mkF m 37 #[.val (.int p1), .val (.int p2), .val (.int p3), .val (.int (own_rem (p1 &&& (2147483647 : Int32)) (3 : Int32))), .val (.ref w4), .unset, .unset] [])) _
    refine XS.iloadN X5.here hx rfl (hb hby at_37) rfl ?_
    show Steps p.tables e below (T5.setTop (mkF m 38 #[.val (.int p1), .val (.int p2), .val (.int p3), .val (.int (own_rem (p1 &&& (2147483647 : Int32)) (3 : Int32))), .val (.ref w4), .unset, .unset] [(.int p3)])) _
    refine XS.iconst X5.here hx rfl (hb hby at_38) ?_
    show Steps p.tables e below (T5.setTop (mkF m 39 #[.val (.int p1), .val (.int p2), .val (.int p3), .val (.int (own_rem (p1 &&& (2147483647 : Int32)) (3 : Int32))), .val (.ref w4), .unset, .unset] [(.int (1 : Int32)), (.int p3)])) _
    refine XS.iand X5.here hx rfl (hb hby at_39) rfl ?_
    show Steps p.tables e below (T5.setTop (mkF m 40 #[.val (.int p1), .val (.int p2), .val (.int p3), .val (.int (own_rem (p1 &&& (2147483647 : Int32)) (3 : Int32))), .val (.ref w4), .unset, .unset] [(.int (p3 &&& (1 : Int32)))])) _
    refine XS.ifYes X5.here hx rfl (pc0 := 40) (pc' := 49) rfl (hb hby at_40) rfl ((if0 _ _).trans (teq hc40).1) (by decide) (by decide) ?_
    show Steps p.tables e below (T5.setTop (mkF m 49 #[.val (.int p1), .val (.int p2), .val (.int p3), .val (.int (own_rem (p1 &&& (2147483647 : Int32)) (3 : Int32))), .val (.ref w4), .unset, .unset] [])) _
    refine XS.iloadN X5.here hx rfl (hb hby at_49) rfl ?_
    show Steps p.tables e below (T5.setTop (mkF m 50 #[.val (.int p1), .val (.int p2), .val (.int p3), .val (.int (own_rem (p1 &&& (2147483647 : Int32)) (3 : Int32))), .val (.ref w4), .unset, .unset] [(.int p2)])) _
    refine XS.bipush X5.here hx rfl (hb hby at_50) ?_
    show Steps p.tables e below (T5.setTop (mkF m 52 #[.val (.int p1), .val (.int p2), .val (.int p3), .val (.int (own_rem (p1 &&& (2147483647 : Int32)) (3 : Int32))), .val (.ref w4), .unset, .unset] [(.int (7 : Int32)), (.int p2)])) _
    refine XS.iand X5.here hx rfl (hb hby at_52) rfl ?_
    show Steps p.tables e below (T5.setTop (mkF m 53 #[.val (.int p1), .val (.int p2), .val (.int p3), .val (.int (own_rem (p1 &&& (2147483647 : Int32)) (3 : Int32))), .val (.ref w4), .unset, .unset] [(.int (p2 &&& (7 : Int32)))])) _
    refine XS.iconst X5.here hx rfl (hb hby at_53) ?_
    show Steps p.tables e below (T5.setTop (mkF m 54 #[.val (.int p1), .val (.int p2), .val (.int p3), .val (.int (own_rem (p1 &&& (2147483647 : Int32)) (3 : Int32))), .val (.ref w4), .unset, .unset] [(.int (2 : Int32)), (.int (p2 &&& (7 : Int32)))])) _
    refine XS.isub X5.here hx rfl (hb hby at_54) rfl ?_
    show Steps p.tables e below (T5.setTop (mkF m 55 #[.val (.int p1), .val (.int p2), .val (.int p3), .val (.int (own_rem (p1 &&& (2147483647 : Int32)) (3 : Int32))), .val (.ref w4), .unset, .unset] [(.int ((p2 &&& (7 : Int32)) - (2 : Int32)))])) _
    refine XS.istore X5.here hx rfl (hb hby at_55) rfl (l' := #[.val (.int p1), .val (.int p2), .val (.int p3), .val (.int (own_rem (p1 &&& (2147483647 : Int32)) (3 : Int32))), .val (.ref w4), .val (.int ((p2 &&& (7 : Int32)) - (2 : Int32))), .unset]) rfl ?_
    show Steps p.tables e below (T5.setTop (mkF m 57 #[.val (.int p1), .val (.int p2), .val (.int p3), .val (.int (own_rem (p1 &&& (2147483647 : Int32)) (3 : Int32))), .val (.ref w4), .val (.int ((p2 &&& (7 : Int32)) - (2 : Int32))), .unset] [])) _
    refine XS.iloadN X5.here hx rfl (hb hby at_57) rfl ?_
    show Steps p.tables e below (T5.setTop (mkF m 58 #[.val (.int p1), .val (.int p2), .val (.int p3), .val (.int (own_rem (p1 &&& (2147483647 : Int32)) (3 : Int32))), .val (.ref w4), .val (.int ((p2 &&& (7 : Int32)) - (2 : Int32))), .unset] [(.int (own_rem (p1 &&& (2147483647 : Int32)) (3 : Int32)))])) _
    refine XS.ifNo X5.here hx rfl (hb hby at_58) rfl ((if0 _ _).trans (teq hc58).2) ?_
    show Steps p.tables e below (T5.setTop (mkF m 61 #[.val (.int p1), .val (.int p2), .val (.int p3), .val (.int (own_rem (p1 &&& (2147483647 : Int32)) (3 : Int32))), .val (.ref w4), .val (.int ((p2 &&& (7 : Int32)) - (2 : Int32))), .unset] [])) _
    refine XS.iload X5.here hx rfl (hb hby at_61) rfl ?_
    show Steps p.tables e below (T5.setTop (mkF m 63 #[.val (.int p1), .val (.int p2), .val (.int p3), .val (.int (own_rem (p1 &&& (2147483647 : Int32)) (3 : Int32))), .val (.ref w4), .val (.int ((p2 &&& (7 : Int32)) - (2 : Int32))), .unset] [(.int ((p2 &&& (7 : Int32)) - (2 : Int32)))])) _
    refine XS.ifNo X5.here hx rfl (hb hby at_63) rfl ((if0 _ _).trans (teq hc63).2) ?_
    show Steps p.tables e below (T5.setTop (mkF m 66 #[.val (.int p1), .val (.int p2), .val (.int p3), .val (.int (own_rem (p1 &&& (2147483647 : Int32)) (3 : Int32))), .val (.ref w4), .val (.int ((p2 &&& (7 : Int32)) - (2 : Int32))), .unset] [])) _
    refine XS.iconst X5.here hx rfl (hb hby at_66) ?_
    show Steps p.tables e below (T5.setTop (mkF m 67 #[.val (.int p1), .val (.int p2), .val (.int p3), .val (.int (own_rem (p1 &&& (2147483647 : Int32)) (3 : Int32))), .val (.ref w4), .val (.int ((p2 &&& (7 : Int32)) - (2 : Int32))), .unset] [(.int (1 : Int32))])) _
    refine XS.goto X5.here hx rfl (pc0 := 67) (pc' := 71) rfl (hb hby at_67) (by decide) (by decide) ?_
    show Steps p.tables e below (T5.setTop (mkF m 71 #[.val (.int p1), .val (.int p2), .val (.int p3), .val (.int (own_rem (p1 &&& (2147483647 : Int32)) (3 : Int32))), .val (.ref w4), .val (.int ((p2 &&& (7 : Int32)) - (2 : Int32))), .unset] [(.int (1 : Int32))])) _
    refine XS.istore X5.here hx rfl (hb hby at_71) rfl (l' := #[.val (.int p1), .val (.int p2), .val (.int p3), .val (.int (own_rem (p1 &&& (2147483647 : Int32)) (3 : Int32))), .val (.ref w4), .val (.int ((p2 &&& (7 : Int32)) - (2 : Int32))), .val (.int (1 : Int32))]) rfl ?_
    show Steps p.tables e below (T5.setTop (mkF m 73 #[.val (.int p1), .val (.int p2), .val (.int p3), .val (.int (own_rem (p1 &&& (2147483647 : Int32)) (3 : Int32))), .val (.ref w4), .val (.int ((p2 &&& (7 : Int32)) - (2 : Int32))), .val (.int (1 : Int32))] [])) _
    refine XS.goto X5.here hx rfl (pc0 := 73) (pc' := 95) rfl (hb hby at_73) (by decide) (by decide) ?_
    show Steps p.tables e below (T5.setTop (mkF m 95 #[.val (.int p1), .val (.int p2), .val (.int p3), .val (.int (own_rem (p1 &&& (2147483647 : Int32)) (3 : Int32))), .val (.ref w4), .val (.int ((p2 &&& (7 : Int32)) - (2 : Int32))), .val (.int (1 : Int32))] [])) _
    refine XS.aload X5.here hx rfl (hb hby at_95) rfl rfl ?_
    show Steps p.tables e below (T5.setTop (mkF m 97 #[.val (.int p1), .val (.int p2), .val (.int p3), .val (.int (own_rem (p1 &&& (2147483647 : Int32)) (3 : Int32))), .val (.ref w4), .val (.int ((p2 &&& (7 : Int32)) - (2 : Int32))), .val (.int (1 : Int32))] [(.ref w4)])) _
    refine XS.iload X5.here hx rfl (hb hby at_97) rfl ?_
    show Steps p.tables e below (T5.setTop (mkF m 99 #[.val (.int p1), .val (.int p2), .val (.int p3), .val (.int (own_rem (p1 &&& (2147483647 : Int32)) (3 : Int32))), .val (.ref w4), .val (.int ((p2 &&& (7 : Int32)) - (2 : Int32))), .val (.int (1 : Int32))] [(.int ((p2 &&& (7 : Int32)) - (2 : Int32))), (.ref w4)])) _
    refine st6.trans ?_
    show Steps p.tables e below (T6.setTop (mkF m 102 #[.val (.int p1), .val (.int p2), .val (.int p3), .val (.int (own_rem (p1 &&& (2147483647 : Int32)) (3 : Int32))), .val (.ref w4), .val (.int ((p2 &&& (7 : Int32)) - (2 : Int32))), .val (.int (1 : Int32))] [(.int (own_takes w4 wO ((p2 &&& (7 : Int32)) - (2 : Int32))))])) _
    refine XS.iload X6.here hx rfl (hb hby at_102) rfl ?_
    show Steps p.tables e below (T6.setTop (mkF m 104 #[.val (.int p1), .val (.int p2), .val (.int p3), .val (.int (own_rem (p1 &&& (2147483647 : Int32)) (3 : Int32))), .val (.ref w4), .val (.int ((p2 &&& (7 : Int32)) - (2 : Int32))), .val (.int (1 : Int32))] [(.int (1 : Int32)), (.int (own_takes w4 wO ((p2 &&& (7 : Int32)) - (2 : Int32))))])) _
    refine XS.icmpNo X6.here hx rfl (hb hby at_104) rfl (teq (hv : (own_takes w4 wO ((p2 &&& (7 : Int32)) - (2 : Int32))) = (1 : Int32))).2 ?_
    show Steps p.tables e below (T6.setTop (mkF m 107 #[.val (.int p1), .val (.int p2), .val (.int p3), .val (.int (own_rem (p1 &&& (2147483647 : Int32)) (3 : Int32))), .val (.ref w4), .val (.int ((p2 &&& (7 : Int32)) - (2 : Int32))), .val (.int (1 : Int32))] [])) _
    refine XS.iconst X6.here hx rfl (hb hby at_107) ?_
    show Steps p.tables e below (T6.setTop (mkF m 108 #[.val (.int p1), .val (.int p2), .val (.int p3), .val (.int (own_rem (p1 &&& (2147483647 : Int32)) (3 : Int32))), .val (.ref w4), .val (.int ((p2 &&& (7 : Int32)) - (2 : Int32))), .val (.int (1 : Int32))] [(.int (1 : Int32))])) _
    refine XS.goto X6.here hx rfl (pc0 := 108) (pc' := 112) rfl (hb hby at_108) (by decide) (by decide) ?_
    show Steps p.tables e below (T6.setTop (mkF m 112 #[.val (.int p1), .val (.int p2), .val (.int p3), .val (.int (own_rem (p1 &&& (2147483647 : Int32)) (3 : Int32))), .val (.ref w4), .val (.int ((p2 &&& (7 : Int32)) - (2 : Int32))), .val (.int (1 : Int32))] [(.int (1 : Int32))])) _
    exact retN X6 hx (t := .boolean) Bd.returns (by simp) (hb hby at_112) hr
  · show Ql (some (.int (1 : Int32))) n0 _ _
    exact ⟨rfl, N6⟩
set_option maxRecDepth 65536 in
set_option maxHeartbeats 40000000 in
theorem rm0_ftftf (l : Launch) (Z : State) (a0 : Array Value) (hw : ∀ d ∈ tables_1, d.before a0 Z = true) (ws : List Jvm.Cond) (p1 : Int32) (p2 : Int32) (p3 : Int32) (w4 : Addr) (h0 : Heap) (n0 : Nat) (Z0 : n0 ≤ h0.size) (wO : Addr) (SO : Sta Z h0 "com/example/telegrid/telegrid/esp3/RepeaterMode" "OFF" "Lcom/example/telegrid/telegrid/esp3/RepeaterMode;" (.ref wO)) (hv : own_takes w4 wO ((p2 &&& (7 : Int32)) - (2 : Int32)) = 0) (S_OFF : Sta Z h0 "com/example/telegrid/telegrid/esp3/RepeaterMode" "OFF" "Lcom/example/telegrid/telegrid/esp3/RepeaterMode;" (.ref w4)) (E_w4 : Exa Z h0 w4 "com/example/telegrid/telegrid/esp3/RepeaterMode") (hc8 : (own_rem (p1 &&& (2147483647 : Int32)) (3 : Int32)) = (0 : Int32)) (hc40 : (p3 &&& (1 : Int32)) = (0 : Int32)) (hc58 : (own_rem (p1 &&& (2147483647 : Int32)) (3 : Int32)) = (0 : Int32)) (hc63 : ¬ (((p2 &&& (7 : Int32)) - (2 : Int32)) = (0 : Int32))) :
    MetFree l x (head1 (Jvm.Cond.code x code maxLocals ret :: ws) room_1) (fun a U => a = #[(.int p1), (.int p2), (.int p3)] ∧ Z.Warmed39 U.vm ∧ U.heap = h0) (fun _ _ _ _ _ => True) (fun _ U o U' => ∃ v L, o = .returned v ∧ Ql (some (.int (1 : Int32))) n0 v L ∧ FrameEnd U o U' L room_1.cells room_1.slots) := by
  refine MetFree.of_bodySF (plainFor_of_name pn_0) hisR ?_
  intro p e s m args below meth c s₁ Bd hml0 hP hK
  obtain ⟨rfl, hZ, hh⟩ := hP
  have hx := Bd.exec
  have hby := Bd.bytes
  have hml : c.maxLocals = 7 := hml0
  have hown : s.vm.findClass "com/example/telegrid/telegrid/esp3/RepeaterModeTakesPinLaw" = some m.cls := findClass_of_methodNamed Bd.named
  have hnm := (name_of_methodNamed Bd.named Bd.method).1
  have X0 : Stand p l e room_1 s m #[(.int p1), (.int p2), (.int p3)] below meth c s₁ [] 0 0 := Stand.of_body Bd
  have e0 : s₁.heap = h0 := by rw [← hh, Bd.state]; rfl
  have N0 := Fr.nil n0
  have pre0 : ∀ t, Steps p.tables e below (s₁.setTop (mkF m 0 #[.val (.int p1), .val (.int p2), .val (.int p3), .unset, .unset, .unset, .unset] [])) t → Steps p.tables e below (s₁.setTop (entryFrame m #[(.int p1), (.int p2), (.int p3)] maxLocals)) t := fun t k => castTop (ef_0 m p1 p2 p3) k
  -- 3. LAWS
  obtain ⟨T5, X5, e5, st5⟩ := getS2 X0 hx hZ hown (host := "") (Or.inl (hw _ (List.mem_of_getElem? (i := 1) rfl))) Via.refl e0 S_OFF (g := (mkF m 11 #[.val (.int p1), .val (.int p2), .val (.int p3), .val (.int (own_rem (p1 &&& (2147483647 : Int32)) (3 : Int32))), .unset, .unset, .unset] [])) rfl (hb hby at_11)
  -- pc 99: com/example/telegrid/telegrid/esp3/RepeaterMode.takes by the contract of the body that the receiver's class selects, rm1
  obtain ⟨cq6, kq6, q6a, q6b, q6c⟩ := isOf hZ e5 E_w4
  obtain ⟨_, _, ⟨T6, L6, k6, n6⟩, -, X6, ⟨Lc6, hQ6, l6, y6, z6⟩, st6⟩ := X5.virtualBack hx (y := (⟨"com/example/telegrid/telegrid/esp3/RepeaterMode", "takes", "(I)Z"⟩ : MethodName)) (z := (⟨"com/example/telegrid/telegrid/esp3/RepeaterMode", "takes", "(I)Z"⟩ : MethodName)) hown (mvT hZ (hw _ (List.mem_of_getElem? (i := 4) rfl))) (mvT hZ (hw _ (List.mem_of_getElem? (i := 5) rfl))) (notFace_of_selects (args := #[]) (mvT hZ (hw _ (List.mem_of_getElem? (i := 7) rfl)))) (mvT hZ (hw _ (List.mem_of_getElem? (i := 7) rfl))) (mvT hZ (hw _ (List.mem_of_getElem? (i := 6) rfl))) (by decide) (backOf (W := 0) (rm1 l Z a0 hw [] w4 ((p2 &&& (7 : Int32)) - (2 : Int32)) wO h0 n0 Z0 SO) hZ (hw _ (List.mem_of_getElem? (i := 8) rfl)) (hw _ (List.mem_of_getElem? (i := 2) rfl)) (by decide) (by decide)) q6a q6c (g := (mkF m 99 #[.val (.int p1), .val (.int p2), .val (.int p3), .val (.int (own_rem (p1 &&& (2147483647 : Int32)) (3 : Int32))), .val (.ref w4), .val (.int ((p2 &&& (7 : Int32)) - (2 : Int32))), .val (.int (0 : Int32))] [(.int ((p2 &&& (7 : Int32)) - (2 : Int32))), (.ref w4)])) rfl (by rw [hml]; rfl) (Steps.refl _) (argsL := [(.int ((p2 &&& (7 : Int32)) - (2 : Int32)))]) (rest := []) (lenOf pd_0_0 rfl) rfl (by show 2 * 0 + _ ≤ _; exact Nat.le_of_eq rfl) (hb hby at_99) (fun _ _ => ⟨rfl, e5, (by decide : 0 + 0 ≤ _), (by decide : 0 + 0 ≤ _)⟩)
  dsimp only [Pt.U, Pt.locs, Pt.cells, Pt.slots] at X6 l6 y6 z6 st6 hQ6
  subst l6 y6 z6
  obtain ⟨rfl, N6q, e4⟩ := hQ6      -- what it returned, that it wrote nothing old, and the rest of your Q1
  have N6 := Fr.app N0 N6q
  obtain ⟨fs, hr, hrun, hended, hW, hsame⟩ := X6.leave (v := some (.int (1 : Int32))) (fun h => by rw [Bd.returns] at h; cases h)
  refine ⟨_, _, pre0 _ ?_, hrun, hended, _, _, rfl, ?_, ⟨_, rfl⟩, hW, hsame.mono (by decide) (by decide)⟩
  -- 4. STEPS
  · show Steps p.tables e below (s₁.setTop (mkF m 0 #[.val (.int p1), .val (.int p2), .val (.int p3), .unset, .unset, .unset, .unset] [])) _
    refine XS.iloadN X0.here hx rfl (hb hby at_0) rfl ?_
    show Steps p.tables e below (s₁.setTop (mkF m 1 #[.val (.int p1), .val (.int p2), .val (.int p3), .unset, .unset, .unset, .unset] [(.int p1)])) _
    refine X0.ldcInt hx hown (mvT hZ (hw _ (List.mem_of_getElem? (i := 0) rfl))) (g := (mkF m 1 #[.val (.int p1), .val (.int p2), .val (.int p3), .unset, .unset, .unset, .unset] [(.int p1)])) rfl (hb hby at_1) _ ?_
    show Steps p.tables e below (s₁.setTop (mkF m 3 #[.val (.int p1), .val (.int p2), .val (.int p3), .unset, .unset, .unset, .unset] [(.int (2147483647 : Int32)), (.int p1)])) _
    refine XS.iand X0.here hx rfl (hb hby at_3) rfl ?_
    show Steps p.tables e below (s₁.setTop (mkF m 4 #[.val (.int p1), .val (.int p2), .val (.int p3), .unset, .unset, .unset, .unset] [(.int (p1 &&& (2147483647 : Int32)))])) _
    refine XS.iconst X0.here hx rfl (hb hby at_4) ?_
    show Steps p.tables e below (s₁.setTop (mkF m 5 #[.val (.int p1), .val (.int p2), .val (.int p3), .unset, .unset, .unset, .unset] [(.int (3 : Int32)), (.int (p1 &&& (2147483647 : Int32)))])) _
    refine iremM X0 hx rfl (hb hby at_5) rfl (by decide) ?_
    show Steps p.tables e below (s₁.setTop (mkF m 6 #[.val (.int p1), .val (.int p2), .val (.int p3), .unset, .unset, .unset, .unset] [(.int (own_rem (p1 &&& (2147483647 : Int32)) (3 : Int32)))])) _
    refine XS.istoreN X0.here hx rfl (hb hby at_6) rfl (l' := #[.val (.int p1), .val (.int p2), .val (.int p3), .val (.int (own_rem (p1 &&& (2147483647 : Int32)) (3 : Int32))), .unset, .unset, .unset]) rfl ?_
    show Steps p.tables e below (s₁.setTop (mkF m 7 #[.val (.int p1), .val (.int p2), .val (.int p3), .val (.int (own_rem (p1 &&& (2147483647 : Int32)) (3 : Int32))), .unset, .unset, .unset] [])) _
    refine XS.iloadN X0.here hx rfl (hb hby at_7) rfl ?_
    show Steps p.tables e below (s₁.setTop (mkF m 8 #[.val (.int p1), .val (.int p2), .val (.int p3), .val (.int (own_rem (p1 &&& (2147483647 : Int32)) (3 : Int32))), .unset, .unset, .unset] [(.int (own_rem (p1 &&& (2147483647 : Int32)) (3 : Int32)))])) _
    refine XS.ifNo X0.here hx rfl (hb hby at_8) rfl ((if0 _ _).trans (teq hc8).2) ?_
    show Steps p.tables e below (s₁.setTop (mkF m 11 #[.val (.int p1), .val (.int p2), .val (.int p3), .val (.int (own_rem (p1 &&& (2147483647 : Int32)) (3 : Int32))), .unset, .unset, .unset] [])) _
    refine st5 _ ?_
    show Steps p.tables e below (T5.setTop (mkF m 14 #[.val (.int p1), .val (.int p2), .val (.int p3), .val (.int (own_rem (p1 &&& (2147483647 : Int32)) (3 : Int32))), .unset, .unset, .unset] [(.ref w4)])) _
    refine XS.astore X5.here hx rfl (hb hby at_14) rfl rfl (l' := #[.val (.int p1), .val (.int p2), .val (.int p3), .val (.int (own_rem (p1 &&& (2147483647 : Int32)) (3 : Int32))), .val (.ref w4), .unset, .unset]) rfl ?_
    show Steps p.tables e below (T5.setTop (mkF m 16 #[.val (.int p1), .val (.int p2), .val (.int p3), .val (.int (own_rem (p1 &&& (2147483647 : Int32)) (3 : Int32))), .val (.ref w4), .unset, .unset] [])) _
    refine XS.goto X5.here hx rfl (pc0 := 16) (pc' := 37) rfl (hb hby at_16) (by decide) (by decide) ?_
    show Steps p.tables e below (T5.setTop (mkF m 37 #[.val (.int p1), .val (.int p2), .val (.int p3), .val (.int (own_rem (p1 &&& (2147483647 : Int32)) (3 : Int32))), .val (.ref w4), .unset, .unset] [])) _
    refine XS.iloadN X5.here hx rfl (hb hby at_37) rfl ?_
    show Steps p.tables e below (T5.setTop (mkF m 38 #[.val (.int p1), .val (.int p2), .val (.int p3), .val (.int (own_rem (p1 &&& (2147483647 : Int32)) (3 : Int32))), .val (.ref w4), .unset, .unset] [(.int p3)])) _
    refine XS.iconst X5.here hx rfl (hb hby at_38) ?_
    show Steps p.tables e below (T5.setTop (mkF m 39 #[.val (.int p1), .val (.int p2), .val (.int p3), .val (.int (own_rem (p1 &&& (2147483647 : Int32)) (3 : Int32))), .val (.ref w4), .unset, .unset] [(.int (1 : Int32)), (.int p3)])) _
    refine XS.iand X5.here hx rfl (hb hby at_39) rfl ?_
    show Steps p.tables e below (T5.setTop (mkF m 40 #[.val (.int p1), .val (.int p2), .val (.int p3), .val (.int (own_rem (p1 &&& (2147483647 : Int32)) (3 : Int32))), .val (.ref w4), .unset, .unset] [(.int (p3 &&& (1 : Int32)))])) _
    refine XS.ifYes X5.here hx rfl (pc0 := 40) (pc' := 49) rfl (hb hby at_40) rfl ((if0 _ _).trans (teq hc40).1) (by decide) (by decide) ?_
    show Steps p.tables e below (T5.setTop (mkF m 49 #[.val (.int p1), .val (.int p2), .val (.int p3), .val (.int (own_rem (p1 &&& (2147483647 : Int32)) (3 : Int32))), .val (.ref w4), .unset, .unset] [])) _
    refine XS.iloadN X5.here hx rfl (hb hby at_49) rfl ?_
    show Steps p.tables e below (T5.setTop (mkF m 50 #[.val (.int p1), .val (.int p2), .val (.int p3), .val (.int (own_rem (p1 &&& (2147483647 : Int32)) (3 : Int32))), .val (.ref w4), .unset, .unset] [(.int p2)])) _
    refine XS.bipush X5.here hx rfl (hb hby at_50) ?_
    show Steps p.tables e below (T5.setTop (mkF m 52 #[.val (.int p1), .val (.int p2), .val (.int p3), .val (.int (own_rem (p1 &&& (2147483647 : Int32)) (3 : Int32))), .val (.ref w4), .unset, .unset] [(.int (7 : Int32)), (.int p2)])) _
    refine XS.iand X5.here hx rfl (hb hby at_52) rfl ?_
    show Steps p.tables e below (T5.setTop (mkF m 53 #[.val (.int p1), .val (.int p2), .val (.int p3), .val (.int (own_rem (p1 &&& (2147483647 : Int32)) (3 : Int32))), .val (.ref w4), .unset, .unset] [(.int (p2 &&& (7 : Int32)))])) _
    refine XS.iconst X5.here hx rfl (hb hby at_53) ?_
    show Steps p.tables e below (T5.setTop (mkF m 54 #[.val (.int p1), .val (.int p2), .val (.int p3), .val (.int (own_rem (p1 &&& (2147483647 : Int32)) (3 : Int32))), .val (.ref w4), .unset, .unset] [(.int (2 : Int32)), (.int (p2 &&& (7 : Int32)))])) _
    refine XS.isub X5.here hx rfl (hb hby at_54) rfl ?_
    show Steps p.tables e below (T5.setTop (mkF m 55 #[.val (.int p1), .val (.int p2), .val (.int p3), .val (.int (own_rem (p1 &&& (2147483647 : Int32)) (3 : Int32))), .val (.ref w4), .unset, .unset] [(.int ((p2 &&& (7 : Int32)) - (2 : Int32)))])) _
    refine XS.istore X5.here hx rfl (hb hby at_55) rfl (l' := #[.val (.int p1), .val (.int p2), .val (.int p3), .val (.int (own_rem (p1 &&& (2147483647 : Int32)) (3 : Int32))), .val (.ref w4), .val (.int ((p2 &&& (7 : Int32)) - (2 : Int32))), .unset]) rfl ?_
    show Steps p.tables e below (T5.setTop (mkF m 57 #[.val (.int p1), .val (.int p2), .val (.int p3), .val (.int (own_rem (p1 &&& (2147483647 : Int32)) (3 : Int32))), .val (.ref w4), .val (.int ((p2 &&& (7 : Int32)) - (2 : Int32))), .unset] [])) _
    refine XS.iloadN X5.here hx rfl (hb hby at_57) rfl ?_
    show Steps p.tables e below (T5.setTop (mkF m 58 #[.val (.int p1), .val (.int p2), .val (.int p3), .val (.int (own_rem (p1 &&& (2147483647 : Int32)) (3 : Int32))), .val (.ref w4), .val (.int ((p2 &&& (7 : Int32)) - (2 : Int32))), .unset] [(.int (own_rem (p1 &&& (2147483647 : Int32)) (3 : Int32)))])) _
    refine XS.ifNo X5.here hx rfl (hb hby at_58) rfl ((if0 _ _).trans (teq hc58).2) ?_
    show Steps p.tables e below (T5.setTop (mkF m 61 #[.val (.int p1), .val (.int p2), .val (.int p3), .val (.int (own_rem (p1 &&& (2147483647 : Int32)) (3 : Int32))), .val (.ref w4), .val (.int ((p2 &&& (7 : Int32)) - (2 : Int32))), .unset] [])) _
    refine XS.iload X5.here hx rfl (hb hby at_61) rfl ?_
    show Steps p.tables e below (T5.setTop (mkF m 63 #[.val (.int p1), .val (.int p2), .val (.int p3), .val (.int (own_rem (p1 &&& (2147483647 : Int32)) (3 : Int32))), .val (.ref w4), .val (.int ((p2 &&& (7 : Int32)) - (2 : Int32))), .unset] [(.int ((p2 &&& (7 : Int32)) - (2 : Int32)))])) _
    refine XS.ifYes X5.here hx rfl (pc0 := 63) (pc' := 70) rfl (hb hby at_63) rfl ((if0 _ _).trans (feq hc63).2) (by decide) (by decide) ?_
    show Steps p.tables e below (T5.setTop (mkF m 70 #[.val (.int p1), .val (.int p2), .val (.int p3), .val (.int (own_rem (p1 &&& (2147483647 : Int32)) (3 : Int32))), .val (.ref w4), .val (.int ((p2 &&& (7 : Int32)) - (2 : Int32))), .unset] [])) _
    refine XS.iconst X5.here hx rfl (hb hby at_70) ?_
    show Steps p.tables e below (T5.setTop (mkF m 71 #[.val (.int p1), .val (.int p2), .val (.int p3), .val (.int (own_rem (p1 &&& (2147483647 : Int32)) (3 : Int32))), .val (.ref w4), .val (.int ((p2 &&& (7 : Int32)) - (2 : Int32))), .unset] [(.int (0 : Int32))])) _
    refine XS.istore X5.here hx rfl (hb hby at_71) rfl (l' := #[.val (.int p1), .val (.int p2), .val (.int p3), .val (.int (own_rem (p1 &&& (2147483647 : Int32)) (3 : Int32))), .val (.ref w4), .val (.int ((p2 &&& (7 : Int32)) - (2 : Int32))), .val (.int (0 : Int32))]) rfl ?_
    show Steps p.tables e below (T5.setTop (mkF m 73 #[.val (.int p1), .val (.int p2), .val (.int p3), .val (.int (own_rem (p1 &&& (2147483647 : Int32)) (3 : Int32))), .val (.ref w4), .val (.int ((p2 &&& (7 : Int32)) - (2 : Int32))), .val (.int (0 : Int32))] [])) _
    refine XS.goto X5.here hx rfl (pc0 := 73) (pc' := 95) rfl (hb hby at_73) (by decide) (by decide) ?_
    show Steps p.tables e below (T5.setTop (mkF m 95 #[.val (.int p1), .val (.int p2), .val (.int p3), .val (.int (own_rem (p1 &&& (2147483647 : Int32)) (3 : Int32))), .val (.ref w4), .val (.int ((p2 &&& (7 : Int32)) - (2 : Int32))), .val (.int (0 : Int32))] [])) _
    refine XS.aload X5.here hx rfl (hb hby at_95) rfl rfl ?_
    show Steps p.tables e below (T5.setTop (mkF m 97 #[.val (.int p1), .val (.int p2), .val (.int p3), .val (.int (own_rem (p1 &&& (2147483647 : Int32)) (3 : Int32))), .val (.ref w4), .val (.int ((p2 &&& (7 : Int32)) - (2 : Int32))), .val (.int (0 : Int32))] [(.ref w4)])) _
    refine XS.iload X5.here hx rfl (hb hby at_97) rfl ?_
    show Steps p.tables e below (T5.setTop (mkF m 99 #[.val (.int p1), .val (.int p2), .val (.int p3), .val (.int (own_rem (p1 &&& (2147483647 : Int32)) (3 : Int32))), .val (.ref w4), .val (.int ((p2 &&& (7 : Int32)) - (2 : Int32))), .val (.int (0 : Int32))] [(.int ((p2 &&& (7 : Int32)) - (2 : Int32))), (.ref w4)])) _
    refine st6.trans ?_
    show Steps p.tables e below (T6.setTop (mkF m 102 #[.val (.int p1), .val (.int p2), .val (.int p3), .val (.int (own_rem (p1 &&& (2147483647 : Int32)) (3 : Int32))), .val (.ref w4), .val (.int ((p2 &&& (7 : Int32)) - (2 : Int32))), .val (.int (0 : Int32))] [(.int (own_takes w4 wO ((p2 &&& (7 : Int32)) - (2 : Int32))))])) _
    refine XS.iload X6.here hx rfl (hb hby at_102) rfl ?_
    show Steps p.tables e below (T6.setTop (mkF m 104 #[.val (.int p1), .val (.int p2), .val (.int p3), .val (.int (own_rem (p1 &&& (2147483647 : Int32)) (3 : Int32))), .val (.ref w4), .val (.int ((p2 &&& (7 : Int32)) - (2 : Int32))), .val (.int (0 : Int32))] [(.int (0 : Int32)), (.int (own_takes w4 wO ((p2 &&& (7 : Int32)) - (2 : Int32))))])) _
    refine XS.icmpNo X6.here hx rfl (hb hby at_104) rfl (teq (hv : (own_takes w4 wO ((p2 &&& (7 : Int32)) - (2 : Int32))) = (0 : Int32))).2 ?_
    show Steps p.tables e below (T6.setTop (mkF m 107 #[.val (.int p1), .val (.int p2), .val (.int p3), .val (.int (own_rem (p1 &&& (2147483647 : Int32)) (3 : Int32))), .val (.ref w4), .val (.int ((p2 &&& (7 : Int32)) - (2 : Int32))), .val (.int (0 : Int32))] [])) _
    refine XS.iconst X6.here hx rfl (hb hby at_107) ?_
    show Steps p.tables e below (T6.setTop (mkF m 108 #[.val (.int p1), .val (.int p2), .val (.int p3), .val (.int (own_rem (p1 &&& (2147483647 : Int32)) (3 : Int32))), .val (.ref w4), .val (.int ((p2 &&& (7 : Int32)) - (2 : Int32))), .val (.int (0 : Int32))] [(.int (1 : Int32))])) _
    refine XS.goto X6.here hx rfl (pc0 := 108) (pc' := 112) rfl (hb hby at_108) (by decide) (by decide) ?_
    show Steps p.tables e below (T6.setTop (mkF m 112 #[.val (.int p1), .val (.int p2), .val (.int p3), .val (.int (own_rem (p1 &&& (2147483647 : Int32)) (3 : Int32))), .val (.ref w4), .val (.int ((p2 &&& (7 : Int32)) - (2 : Int32))), .val (.int (0 : Int32))] [(.int (1 : Int32))])) _
    exact retN X6 hx (t := .boolean) Bd.returns (by simp) (hb hby at_112) hr
  · show Ql (some (.int (1 : Int32))) n0 _ _
    exact ⟨rfl, N6⟩
set_option maxRecDepth 65536 in
set_option maxHeartbeats 40000000 in
theorem rm0_fffff (l : Launch) (Z : State) (a0 : Array Value) (hw : ∀ d ∈ tables_1, d.before a0 Z = true) (ws : List Jvm.Cond) (p1 : Int32) (p2 : Int32) (p3 : Int32) (w4 : Addr) (h0 : Heap) (n0 : Nat) (Z0 : n0 ≤ h0.size) (wO : Addr) (SO : Sta Z h0 "com/example/telegrid/telegrid/esp3/RepeaterMode" "OFF" "Lcom/example/telegrid/telegrid/esp3/RepeaterMode;" (.ref wO)) (hv : own_takes w4 wO p2 = 1) (S_OFF : Sta Z h0 "com/example/telegrid/telegrid/esp3/RepeaterMode" "OFF" "Lcom/example/telegrid/telegrid/esp3/RepeaterMode;" (.ref w4)) (E_w4 : Exa Z h0 w4 "com/example/telegrid/telegrid/esp3/RepeaterMode") (hc8 : (own_rem (p1 &&& (2147483647 : Int32)) (3 : Int32)) = (0 : Int32)) (hc40 : ¬ ((p3 &&& (1 : Int32)) = (0 : Int32))) (hc58 : (own_rem (p1 &&& (2147483647 : Int32)) (3 : Int32)) = (0 : Int32)) (hc63 : p2 = (0 : Int32)) :
    MetFree l x (head1 (Jvm.Cond.code x code maxLocals ret :: ws) room_1) (fun a U => a = #[(.int p1), (.int p2), (.int p3)] ∧ Z.Warmed39 U.vm ∧ U.heap = h0) (fun _ _ _ _ _ => True) (fun _ U o U' => ∃ v L, o = .returned v ∧ Ql (some (.int (1 : Int32))) n0 v L ∧ FrameEnd U o U' L room_1.cells room_1.slots) := by
  refine MetFree.of_bodySF (plainFor_of_name pn_0) hisR ?_
  intro p e s m args below meth c s₁ Bd hml0 hP hK
  obtain ⟨rfl, hZ, hh⟩ := hP
  have hx := Bd.exec
  have hby := Bd.bytes
  have hml : c.maxLocals = 7 := hml0
  have hown : s.vm.findClass "com/example/telegrid/telegrid/esp3/RepeaterModeTakesPinLaw" = some m.cls := findClass_of_methodNamed Bd.named
  have hnm := (name_of_methodNamed Bd.named Bd.method).1
  have X0 : Stand p l e room_1 s m #[(.int p1), (.int p2), (.int p3)] below meth c s₁ [] 0 0 := Stand.of_body Bd
  have e0 : s₁.heap = h0 := by rw [← hh, Bd.state]; rfl
  have N0 := Fr.nil n0
  have pre0 : ∀ t, Steps p.tables e below (s₁.setTop (mkF m 0 #[.val (.int p1), .val (.int p2), .val (.int p3), .unset, .unset, .unset, .unset] [])) t → Steps p.tables e below (s₁.setTop (entryFrame m #[(.int p1), (.int p2), (.int p3)] maxLocals)) t := fun t k => castTop (ef_0 m p1 p2 p3) k
  -- 3. LAWS
  obtain ⟨T5, X5, e5, st5⟩ := getS2 X0 hx hZ hown (host := "") (Or.inl (hw _ (List.mem_of_getElem? (i := 1) rfl))) Via.refl e0 S_OFF (g := (mkF m 11 #[.val (.int p1), .val (.int p2), .val (.int p3), .val (.int (own_rem (p1 &&& (2147483647 : Int32)) (3 : Int32))), .unset, .unset, .unset] [])) rfl (hb hby at_11)
  -- pc 99: com/example/telegrid/telegrid/esp3/RepeaterMode.takes by the contract of the body that the receiver's class selects, rm1
  obtain ⟨cq6, kq6, q6a, q6b, q6c⟩ := isOf hZ e5 E_w4
  obtain ⟨_, _, ⟨T6, L6, k6, n6⟩, -, X6, ⟨Lc6, hQ6, l6, y6, z6⟩, st6⟩ := X5.virtualBack hx (y := (⟨"com/example/telegrid/telegrid/esp3/RepeaterMode", "takes", "(I)Z"⟩ : MethodName)) (z := (⟨"com/example/telegrid/telegrid/esp3/RepeaterMode", "takes", "(I)Z"⟩ : MethodName)) hown (mvT hZ (hw _ (List.mem_of_getElem? (i := 4) rfl))) (mvT hZ (hw _ (List.mem_of_getElem? (i := 5) rfl))) (notFace_of_selects (args := #[]) (mvT hZ (hw _ (List.mem_of_getElem? (i := 7) rfl)))) (mvT hZ (hw _ (List.mem_of_getElem? (i := 7) rfl))) (mvT hZ (hw _ (List.mem_of_getElem? (i := 6) rfl))) (by decide) (backOf (W := 0) (rm1 l Z a0 hw [] w4 p2 wO h0 n0 Z0 SO) hZ (hw _ (List.mem_of_getElem? (i := 8) rfl)) (hw _ (List.mem_of_getElem? (i := 2) rfl)) (by decide) (by decide)) q6a q6c (g := (mkF m 99 #[.val (.int p1), .val (.int p2), .val (.int p3), .val (.int (own_rem (p1 &&& (2147483647 : Int32)) (3 : Int32))), .val (.ref w4), .val (.int p2), .val (.int (1 : Int32))] [(.int p2), (.ref w4)])) rfl (by rw [hml]; rfl) (Steps.refl _) (argsL := [(.int p2)]) (rest := []) (lenOf pd_0_0 rfl) rfl (by show 2 * 0 + _ ≤ _; exact Nat.le_of_eq rfl) (hb hby at_99) (fun _ _ => ⟨rfl, e5, (by decide : 0 + 0 ≤ _), (by decide : 0 + 0 ≤ _)⟩)
  dsimp only [Pt.U, Pt.locs, Pt.cells, Pt.slots] at X6 l6 y6 z6 st6 hQ6
  subst l6 y6 z6
  obtain ⟨rfl, N6q, e4⟩ := hQ6      -- what it returned, that it wrote nothing old, and the rest of your Q1
  have N6 := Fr.app N0 N6q
  obtain ⟨fs, hr, hrun, hended, hW, hsame⟩ := X6.leave (v := some (.int (1 : Int32))) (fun h => by rw [Bd.returns] at h; cases h)
  refine ⟨_, _, pre0 _ ?_, hrun, hended, _, _, rfl, ?_, ⟨_, rfl⟩, hW, hsame.mono (by decide) (by decide)⟩
  -- 4. STEPS
  · show Steps p.tables e below (s₁.setTop (mkF m 0 #[.val (.int p1), .val (.int p2), .val (.int p3), .unset, .unset, .unset, .unset] [])) _
    refine XS.iloadN X0.here hx rfl (hb hby at_0) rfl ?_
    show Steps p.tables e below (s₁.setTop (mkF m 1 #[.val (.int p1), .val (.int p2), .val (.int p3), .unset, .unset, .unset, .unset] [(.int p1)])) _
    refine X0.ldcInt hx hown (mvT hZ (hw _ (List.mem_of_getElem? (i := 0) rfl))) (g := (mkF m 1 #[.val (.int p1), .val (.int p2), .val (.int p3), .unset, .unset, .unset, .unset] [(.int p1)])) rfl (hb hby at_1) _ ?_
    show Steps p.tables e below (s₁.setTop (mkF m 3 #[.val (.int p1), .val (.int p2), .val (.int p3), .unset, .unset, .unset, .unset] [(.int (2147483647 : Int32)), (.int p1)])) _
    refine XS.iand X0.here hx rfl (hb hby at_3) rfl ?_
    show Steps p.tables e below (s₁.setTop (mkF m 4 #[.val (.int p1), .val (.int p2), .val (.int p3), .unset, .unset, .unset, .unset] [(.int (p1 &&& (2147483647 : Int32)))])) _
    refine XS.iconst X0.here hx rfl (hb hby at_4) ?_
    show Steps p.tables e below (s₁.setTop (mkF m 5 #[.val (.int p1), .val (.int p2), .val (.int p3), .unset, .unset, .unset, .unset] [(.int (3 : Int32)), (.int (p1 &&& (2147483647 : Int32)))])) _
    refine iremM X0 hx rfl (hb hby at_5) rfl (by decide) ?_
    show Steps p.tables e below (s₁.setTop (mkF m 6 #[.val (.int p1), .val (.int p2), .val (.int p3), .unset, .unset, .unset, .unset] [(.int (own_rem (p1 &&& (2147483647 : Int32)) (3 : Int32)))])) _
    refine XS.istoreN X0.here hx rfl (hb hby at_6) rfl (l' := #[.val (.int p1), .val (.int p2), .val (.int p3), .val (.int (own_rem (p1 &&& (2147483647 : Int32)) (3 : Int32))), .unset, .unset, .unset]) rfl ?_
    show Steps p.tables e below (s₁.setTop (mkF m 7 #[.val (.int p1), .val (.int p2), .val (.int p3), .val (.int (own_rem (p1 &&& (2147483647 : Int32)) (3 : Int32))), .unset, .unset, .unset] [])) _
    refine XS.iloadN X0.here hx rfl (hb hby at_7) rfl ?_
    show Steps p.tables e below (s₁.setTop (mkF m 8 #[.val (.int p1), .val (.int p2), .val (.int p3), .val (.int (own_rem (p1 &&& (2147483647 : Int32)) (3 : Int32))), .unset, .unset, .unset] [(.int (own_rem (p1 &&& (2147483647 : Int32)) (3 : Int32)))])) _
    refine XS.ifNo X0.here hx rfl (hb hby at_8) rfl ((if0 _ _).trans (teq hc8).2) ?_
    show Steps p.tables e below (s₁.setTop (mkF m 11 #[.val (.int p1), .val (.int p2), .val (.int p3), .val (.int (own_rem (p1 &&& (2147483647 : Int32)) (3 : Int32))), .unset, .unset, .unset] [])) _
    refine st5 _ ?_
    show Steps p.tables e below (T5.setTop (mkF m 14 #[.val (.int p1), .val (.int p2), .val (.int p3), .val (.int (own_rem (p1 &&& (2147483647 : Int32)) (3 : Int32))), .unset, .unset, .unset] [(.ref w4)])) _
    refine XS.astore X5.here hx rfl (hb hby at_14) rfl rfl (l' := #[.val (.int p1), .val (.int p2), .val (.int p3), .val (.int (own_rem (p1 &&& (2147483647 : Int32)) (3 : Int32))), .val (.ref w4), .unset, .unset]) rfl ?_
    show Steps p.tables e below (T5.setTop (mkF m 16 #[.val (.int p1), .val (.int p2), .val (.int p3), .val (.int (own_rem (p1 &&& (2147483647 : Int32)) (3 : Int32))), .val (.ref w4), .unset, .unset] [])) _
    refine XS.goto X5.here hx rfl (pc0 := 16) (pc' := 37) rfl (hb hby at_16) (by decide) (by decide) ?_
    show Steps p.tables e below (T5.setTop (mkF m 37 #[.val (.int p1), .val (.int p2), .val (.int p3), .val (.int (own_rem (p1 &&& (2147483647 : Int32)) (3 : Int32))), .val (.ref w4), .unset, .unset] [])) _
    refine XS.iloadN X5.here hx rfl (hb hby at_37) rfl ?_
    show Steps p.tables e below (T5.setTop (mkF m 38 #[.val (.int p1), .val (.int p2), .val (.int p3), .val (.int (own_rem (p1 &&& (2147483647 : Int32)) (3 : Int32))), .val (.ref w4), .unset, .unset] [(.int p3)])) _
    refine XS.iconst X5.here hx rfl (hb hby at_38) ?_
    show Steps p.tables e below (T5.setTop (mkF m 39 #[.val (.int p1), .val (.int p2), .val (.int p3), .val (.int (own_rem (p1 &&& (2147483647 : Int32)) (3 : Int32))), .val (.ref w4), .unset, .unset] [(.int (1 : Int32)), (.int p3)])) _
    refine XS.iand X5.here hx rfl (hb hby at_39) rfl ?_
    show Steps p.tables e below (T5.setTop (mkF m 40 #[.val (.int p1), .val (.int p2), .val (.int p3), .val (.int (own_rem (p1 &&& (2147483647 : Int32)) (3 : Int32))), .val (.ref w4), .unset, .unset] [(.int (p3 &&& (1 : Int32)))])) _
    refine XS.ifNo X5.here hx rfl (hb hby at_40) rfl ((if0 _ _).trans (feq hc40).1) ?_
    show Steps p.tables e below (T5.setTop (mkF m 43 #[.val (.int p1), .val (.int p2), .val (.int p3), .val (.int (own_rem (p1 &&& (2147483647 : Int32)) (3 : Int32))), .val (.ref w4), .unset, .unset] [])) _
    refine XS.iloadN X5.here hx rfl (hb hby at_43) rfl ?_
    show Steps p.tables e below (T5.setTop (mkF m 44 #[.val (.int p1), .val (.int p2), .val (.int p3), .val (.int (own_rem (p1 &&& (2147483647 : Int32)) (3 : Int32))), .val (.ref w4), .unset, .unset] [(.int p2)])) _
    refine XS.istore X5.here hx rfl (hb hby at_44) rfl (l' := #[.val (.int p1), .val (.int p2), .val (.int p3), .val (.int (own_rem (p1 &&& (2147483647 : Int32)) (3 : Int32))), .val (.ref w4), .val (.int p2), .unset]) rfl ?_
    show Steps p.tables e below (T5.setTop (mkF m 46 #[.val (.int p1), .val (.int p2), .val (.int p3), .val (.int (own_rem (p1 &&& (2147483647 : Int32)) (3 : Int32))), .val (.ref w4), .val (.int p2), .unset] [])) _
    refine XS.goto X5.here hx rfl (pc0 := 46) (pc' := 57) rfl (hb hby at_46) (by decide) (by decide) ?_
    show Steps p.tables e below (T5.setTop (mkF m 57 #[.val (.int p1), .val (.int p2), .val (.int p3), .val (.int (own_rem (p1 &&& (2147483647 : Int32)) (3 : Int32))), .val (.ref w4), .val (.int p2), .unset] [])) _
    refine XS.iloadN X5.here hx rfl (hb hby at_57) rfl ?_
    show Steps p.tables e below (T5.setTop (mkF m 58 #[.val (.int p1), .val (.int p2), .val (.int p3), .val (.int (own_rem (p1 &&& (2147483647 : Int32)) (3 : Int32))), .val (.ref w4), .val (.int p2), .unset] [(.int (own_rem (p1 &&& (2147483647 : Int32)) (3 : Int32)))])) _
    refine XS.ifNo X5.here hx rfl (hb hby at_58) rfl ((if0 _ _).trans (teq hc58).2) ?_
    show Steps p.tables e below (T5.setTop (mkF m 61 #[.val (.int p1), .val (.int p2), .val (.int p3), .val (.int (own_rem (p1 &&& (2147483647 : Int32)) (3 : Int32))), .val (.ref w4), .val (.int p2), .unset] [])) _
    refine XS.iload X5.here hx rfl (hb hby at_61) rfl ?_
    show Steps p.tables e below (T5.setTop (mkF m 63 #[.val (.int p1), .val (.int p2), .val (.int p3), .val (.int (own_rem (p1 &&& (2147483647 : Int32)) (3 : Int32))), .val (.ref w4), .val (.int p2), .unset] [(.int p2)])) _
    refine XS.ifNo X5.here hx rfl (hb hby at_63) rfl ((if0 _ _).trans (teq hc63).2) ?_
    show Steps p.tables e below (T5.setTop (mkF m 66 #[.val (.int p1), .val (.int p2), .val (.int p3), .val (.int (own_rem (p1 &&& (2147483647 : Int32)) (3 : Int32))), .val (.ref w4), .val (.int p2), .unset] [])) _
    refine XS.iconst X5.here hx rfl (hb hby at_66) ?_
    show Steps p.tables e below (T5.setTop (mkF m 67 #[.val (.int p1), .val (.int p2), .val (.int p3), .val (.int (own_rem (p1 &&& (2147483647 : Int32)) (3 : Int32))), .val (.ref w4), .val (.int p2), .unset] [(.int (1 : Int32))])) _
    refine XS.goto X5.here hx rfl (pc0 := 67) (pc' := 71) rfl (hb hby at_67) (by decide) (by decide) ?_
    show Steps p.tables e below (T5.setTop (mkF m 71 #[.val (.int p1), .val (.int p2), .val (.int p3), .val (.int (own_rem (p1 &&& (2147483647 : Int32)) (3 : Int32))), .val (.ref w4), .val (.int p2), .unset] [(.int (1 : Int32))])) _
    refine XS.istore X5.here hx rfl (hb hby at_71) rfl (l' := #[.val (.int p1), .val (.int p2), .val (.int p3), .val (.int (own_rem (p1 &&& (2147483647 : Int32)) (3 : Int32))), .val (.ref w4), .val (.int p2), .val (.int (1 : Int32))]) rfl ?_
    show Steps p.tables e below (T5.setTop (mkF m 73 #[.val (.int p1), .val (.int p2), .val (.int p3), .val (.int (own_rem (p1 &&& (2147483647 : Int32)) (3 : Int32))), .val (.ref w4), .val (.int p2), .val (.int (1 : Int32))] [])) _
    refine XS.goto X5.here hx rfl (pc0 := 73) (pc' := 95) rfl (hb hby at_73) (by decide) (by decide) ?_
    show Steps p.tables e below (T5.setTop (mkF m 95 #[.val (.int p1), .val (.int p2), .val (.int p3), .val (.int (own_rem (p1 &&& (2147483647 : Int32)) (3 : Int32))), .val (.ref w4), .val (.int p2), .val (.int (1 : Int32))] [])) _
    refine XS.aload X5.here hx rfl (hb hby at_95) rfl rfl ?_
    show Steps p.tables e below (T5.setTop (mkF m 97 #[.val (.int p1), .val (.int p2), .val (.int p3), .val (.int (own_rem (p1 &&& (2147483647 : Int32)) (3 : Int32))), .val (.ref w4), .val (.int p2), .val (.int (1 : Int32))] [(.ref w4)])) _
    refine XS.iload X5.here hx rfl (hb hby at_97) rfl ?_
    show Steps p.tables e below (T5.setTop (mkF m 99 #[.val (.int p1), .val (.int p2), .val (.int p3), .val (.int (own_rem (p1 &&& (2147483647 : Int32)) (3 : Int32))), .val (.ref w4), .val (.int p2), .val (.int (1 : Int32))] [(.int p2), (.ref w4)])) _
    refine st6.trans ?_
    show Steps p.tables e below (T6.setTop (mkF m 102 #[.val (.int p1), .val (.int p2), .val (.int p3), .val (.int (own_rem (p1 &&& (2147483647 : Int32)) (3 : Int32))), .val (.ref w4), .val (.int p2), .val (.int (1 : Int32))] [(.int (own_takes w4 wO p2))])) _
    refine XS.iload X6.here hx rfl (hb hby at_102) rfl ?_
    show Steps p.tables e below (T6.setTop (mkF m 104 #[.val (.int p1), .val (.int p2), .val (.int p3), .val (.int (own_rem (p1 &&& (2147483647 : Int32)) (3 : Int32))), .val (.ref w4), .val (.int p2), .val (.int (1 : Int32))] [(.int (1 : Int32)), (.int (own_takes w4 wO p2))])) _
    refine XS.icmpNo X6.here hx rfl (hb hby at_104) rfl (teq (hv : (own_takes w4 wO p2) = (1 : Int32))).2 ?_
    show Steps p.tables e below (T6.setTop (mkF m 107 #[.val (.int p1), .val (.int p2), .val (.int p3), .val (.int (own_rem (p1 &&& (2147483647 : Int32)) (3 : Int32))), .val (.ref w4), .val (.int p2), .val (.int (1 : Int32))] [])) _
    refine XS.iconst X6.here hx rfl (hb hby at_107) ?_
    show Steps p.tables e below (T6.setTop (mkF m 108 #[.val (.int p1), .val (.int p2), .val (.int p3), .val (.int (own_rem (p1 &&& (2147483647 : Int32)) (3 : Int32))), .val (.ref w4), .val (.int p2), .val (.int (1 : Int32))] [(.int (1 : Int32))])) _
    refine XS.goto X6.here hx rfl (pc0 := 108) (pc' := 112) rfl (hb hby at_108) (by decide) (by decide) ?_
    show Steps p.tables e below (T6.setTop (mkF m 112 #[.val (.int p1), .val (.int p2), .val (.int p3), .val (.int (own_rem (p1 &&& (2147483647 : Int32)) (3 : Int32))), .val (.ref w4), .val (.int p2), .val (.int (1 : Int32))] [(.int (1 : Int32))])) _
    exact retN X6 hx (t := .boolean) Bd.returns (by simp) (hb hby at_112) hr
  · show Ql (some (.int (1 : Int32))) n0 _ _
    exact ⟨rfl, N6⟩
set_option maxRecDepth 65536 in
set_option maxHeartbeats 40000000 in
theorem rm0_ffftf (l : Launch) (Z : State) (a0 : Array Value) (hw : ∀ d ∈ tables_1, d.before a0 Z = true) (ws : List Jvm.Cond) (p1 : Int32) (p2 : Int32) (p3 : Int32) (w4 : Addr) (h0 : Heap) (n0 : Nat) (Z0 : n0 ≤ h0.size) (wO : Addr) (SO : Sta Z h0 "com/example/telegrid/telegrid/esp3/RepeaterMode" "OFF" "Lcom/example/telegrid/telegrid/esp3/RepeaterMode;" (.ref wO)) (hv : own_takes w4 wO p2 = 0) (S_OFF : Sta Z h0 "com/example/telegrid/telegrid/esp3/RepeaterMode" "OFF" "Lcom/example/telegrid/telegrid/esp3/RepeaterMode;" (.ref w4)) (E_w4 : Exa Z h0 w4 "com/example/telegrid/telegrid/esp3/RepeaterMode") (hc8 : (own_rem (p1 &&& (2147483647 : Int32)) (3 : Int32)) = (0 : Int32)) (hc40 : ¬ ((p3 &&& (1 : Int32)) = (0 : Int32))) (hc58 : (own_rem (p1 &&& (2147483647 : Int32)) (3 : Int32)) = (0 : Int32)) (hc63 : ¬ (p2 = (0 : Int32))) :
    MetFree l x (head1 (Jvm.Cond.code x code maxLocals ret :: ws) room_1) (fun a U => a = #[(.int p1), (.int p2), (.int p3)] ∧ Z.Warmed39 U.vm ∧ U.heap = h0) (fun _ _ _ _ _ => True) (fun _ U o U' => ∃ v L, o = .returned v ∧ Ql (some (.int (1 : Int32))) n0 v L ∧ FrameEnd U o U' L room_1.cells room_1.slots) := by
  refine MetFree.of_bodySF (plainFor_of_name pn_0) hisR ?_
  intro p e s m args below meth c s₁ Bd hml0 hP hK
  obtain ⟨rfl, hZ, hh⟩ := hP
  have hx := Bd.exec
  have hby := Bd.bytes
  have hml : c.maxLocals = 7 := hml0
  have hown : s.vm.findClass "com/example/telegrid/telegrid/esp3/RepeaterModeTakesPinLaw" = some m.cls := findClass_of_methodNamed Bd.named
  have hnm := (name_of_methodNamed Bd.named Bd.method).1
  have X0 : Stand p l e room_1 s m #[(.int p1), (.int p2), (.int p3)] below meth c s₁ [] 0 0 := Stand.of_body Bd
  have e0 : s₁.heap = h0 := by rw [← hh, Bd.state]; rfl
  have N0 := Fr.nil n0
  have pre0 : ∀ t, Steps p.tables e below (s₁.setTop (mkF m 0 #[.val (.int p1), .val (.int p2), .val (.int p3), .unset, .unset, .unset, .unset] [])) t → Steps p.tables e below (s₁.setTop (entryFrame m #[(.int p1), (.int p2), (.int p3)] maxLocals)) t := fun t k => castTop (ef_0 m p1 p2 p3) k
  -- 3. LAWS
  obtain ⟨T5, X5, e5, st5⟩ := getS2 X0 hx hZ hown (host := "") (Or.inl (hw _ (List.mem_of_getElem? (i := 1) rfl))) Via.refl e0 S_OFF (g := (mkF m 11 #[.val (.int p1), .val (.int p2), .val (.int p3), .val (.int (own_rem (p1 &&& (2147483647 : Int32)) (3 : Int32))), .unset, .unset, .unset] [])) rfl (hb hby at_11)
  -- pc 99: com/example/telegrid/telegrid/esp3/RepeaterMode.takes by the contract of the body that the receiver's class selects, rm1
  obtain ⟨cq6, kq6, q6a, q6b, q6c⟩ := isOf hZ e5 E_w4
  obtain ⟨_, _, ⟨T6, L6, k6, n6⟩, -, X6, ⟨Lc6, hQ6, l6, y6, z6⟩, st6⟩ := X5.virtualBack hx (y := (⟨"com/example/telegrid/telegrid/esp3/RepeaterMode", "takes", "(I)Z"⟩ : MethodName)) (z := (⟨"com/example/telegrid/telegrid/esp3/RepeaterMode", "takes", "(I)Z"⟩ : MethodName)) hown (mvT hZ (hw _ (List.mem_of_getElem? (i := 4) rfl))) (mvT hZ (hw _ (List.mem_of_getElem? (i := 5) rfl))) (notFace_of_selects (args := #[]) (mvT hZ (hw _ (List.mem_of_getElem? (i := 7) rfl)))) (mvT hZ (hw _ (List.mem_of_getElem? (i := 7) rfl))) (mvT hZ (hw _ (List.mem_of_getElem? (i := 6) rfl))) (by decide) (backOf (W := 0) (rm1 l Z a0 hw [] w4 p2 wO h0 n0 Z0 SO) hZ (hw _ (List.mem_of_getElem? (i := 8) rfl)) (hw _ (List.mem_of_getElem? (i := 2) rfl)) (by decide) (by decide)) q6a q6c (g := (mkF m 99 #[.val (.int p1), .val (.int p2), .val (.int p3), .val (.int (own_rem (p1 &&& (2147483647 : Int32)) (3 : Int32))), .val (.ref w4), .val (.int p2), .val (.int (0 : Int32))] [(.int p2), (.ref w4)])) rfl (by rw [hml]; rfl) (Steps.refl _) (argsL := [(.int p2)]) (rest := []) (lenOf pd_0_0 rfl) rfl (by show 2 * 0 + _ ≤ _; exact Nat.le_of_eq rfl) (hb hby at_99) (fun _ _ => ⟨rfl, e5, (by decide : 0 + 0 ≤ _), (by decide : 0 + 0 ≤ _)⟩)
  dsimp only [Pt.U, Pt.locs, Pt.cells, Pt.slots] at X6 l6 y6 z6 st6 hQ6
  subst l6 y6 z6
  obtain ⟨rfl, N6q, e4⟩ := hQ6      -- what it returned, that it wrote nothing old, and the rest of your Q1
  have N6 := Fr.app N0 N6q
  obtain ⟨fs, hr, hrun, hended, hW, hsame⟩ := X6.leave (v := some (.int (1 : Int32))) (fun h => by rw [Bd.returns] at h; cases h)
  refine ⟨_, _, pre0 _ ?_, hrun, hended, _, _, rfl, ?_, ⟨_, rfl⟩, hW, hsame.mono (by decide) (by decide)⟩
  -- 4. STEPS
  · show Steps p.tables e below (s₁.setTop (mkF m 0 #[.val (.int p1), .val (.int p2), .val (.int p3), .unset, .unset, .unset, .unset] [])) _
    refine XS.iloadN X0.here hx rfl (hb hby at_0) rfl ?_
    show Steps p.tables e below (s₁.setTop (mkF m 1 #[.val (.int p1), .val (.int p2), .val (.int p3), .unset, .unset, .unset, .unset] [(.int p1)])) _
    refine X0.ldcInt hx hown (mvT hZ (hw _ (List.mem_of_getElem? (i := 0) rfl))) (g := (mkF m 1 #[.val (.int p1), .val (.int p2), .val (.int p3), .unset, .unset, .unset, .unset] [(.int p1)])) rfl (hb hby at_1) _ ?_
    show Steps p.tables e below (s₁.setTop (mkF m 3 #[.val (.int p1), .val (.int p2), .val (.int p3), .unset, .unset, .unset, .unset] [(.int (2147483647 : Int32)), (.int p1)])) _
    refine XS.iand X0.here hx rfl (hb hby at_3) rfl ?_
    show Steps p.tables e below (s₁.setTop (mkF m 4 #[.val (.int p1), .val (.int p2), .val (.int p3), .unset, .unset, .unset, .unset] [(.int (p1 &&& (2147483647 : Int32)))])) _
    refine XS.iconst X0.here hx rfl (hb hby at_4) ?_
    show Steps p.tables e below (s₁.setTop (mkF m 5 #[.val (.int p1), .val (.int p2), .val (.int p3), .unset, .unset, .unset, .unset] [(.int (3 : Int32)), (.int (p1 &&& (2147483647 : Int32)))])) _
    refine iremM X0 hx rfl (hb hby at_5) rfl (by decide) ?_
    show Steps p.tables e below (s₁.setTop (mkF m 6 #[.val (.int p1), .val (.int p2), .val (.int p3), .unset, .unset, .unset, .unset] [(.int (own_rem (p1 &&& (2147483647 : Int32)) (3 : Int32)))])) _
    refine XS.istoreN X0.here hx rfl (hb hby at_6) rfl (l' := #[.val (.int p1), .val (.int p2), .val (.int p3), .val (.int (own_rem (p1 &&& (2147483647 : Int32)) (3 : Int32))), .unset, .unset, .unset]) rfl ?_
    show Steps p.tables e below (s₁.setTop (mkF m 7 #[.val (.int p1), .val (.int p2), .val (.int p3), .val (.int (own_rem (p1 &&& (2147483647 : Int32)) (3 : Int32))), .unset, .unset, .unset] [])) _
    refine XS.iloadN X0.here hx rfl (hb hby at_7) rfl ?_
    show Steps p.tables e below (s₁.setTop (mkF m 8 #[.val (.int p1), .val (.int p2), .val (.int p3), .val (.int (own_rem (p1 &&& (2147483647 : Int32)) (3 : Int32))), .unset, .unset, .unset] [(.int (own_rem (p1 &&& (2147483647 : Int32)) (3 : Int32)))])) _
    refine XS.ifNo X0.here hx rfl (hb hby at_8) rfl ((if0 _ _).trans (teq hc8).2) ?_
    show Steps p.tables e below (s₁.setTop (mkF m 11 #[.val (.int p1), .val (.int p2), .val (.int p3), .val (.int (own_rem (p1 &&& (2147483647 : Int32)) (3 : Int32))), .unset, .unset, .unset] [])) _
    refine st5 _ ?_
    show Steps p.tables e below (T5.setTop (mkF m 14 #[.val (.int p1), .val (.int p2), .val (.int p3), .val (.int (own_rem (p1 &&& (2147483647 : Int32)) (3 : Int32))), .unset, .unset, .unset] [(.ref w4)])) _
    refine XS.astore X5.here hx rfl (hb hby at_14) rfl rfl (l' := #[.val (.int p1), .val (.int p2), .val (.int p3), .val (.int (own_rem (p1 &&& (2147483647 : Int32)) (3 : Int32))), .val (.ref w4), .unset, .unset]) rfl ?_
    show Steps p.tables e below (T5.setTop (mkF m 16 #[.val (.int p1), .val (.int p2), .val (.int p3), .val (.int (own_rem (p1 &&& (2147483647 : Int32)) (3 : Int32))), .val (.ref w4), .unset, .unset] [])) _
    refine XS.goto X5.here hx rfl (pc0 := 16) (pc' := 37) rfl (hb hby at_16) (by decide) (by decide) ?_
    show Steps p.tables e below (T5.setTop (mkF m 37 #[.val (.int p1), .val (.int p2), .val (.int p3), .val (.int (own_rem (p1 &&& (2147483647 : Int32)) (3 : Int32))), .val (.ref w4), .unset, .unset] [])) _
    refine XS.iloadN X5.here hx rfl (hb hby at_37) rfl ?_
    show Steps p.tables e below (T5.setTop (mkF m 38 #[.val (.int p1), .val (.int p2), .val (.int p3), .val (.int (own_rem (p1 &&& (2147483647 : Int32)) (3 : Int32))), .val (.ref w4), .unset, .unset] [(.int p3)])) _
    refine XS.iconst X5.here hx rfl (hb hby at_38) ?_
    show Steps p.tables e below (T5.setTop (mkF m 39 #[.val (.int p1), .val (.int p2), .val (.int p3), .val (.int (own_rem (p1 &&& (2147483647 : Int32)) (3 : Int32))), .val (.ref w4), .unset, .unset] [(.int (1 : Int32)), (.int p3)])) _
    refine XS.iand X5.here hx rfl (hb hby at_39) rfl ?_
    show Steps p.tables e below (T5.setTop (mkF m 40 #[.val (.int p1), .val (.int p2), .val (.int p3), .val (.int (own_rem (p1 &&& (2147483647 : Int32)) (3 : Int32))), .val (.ref w4), .unset, .unset] [(.int (p3 &&& (1 : Int32)))])) _
    refine XS.ifNo X5.here hx rfl (hb hby at_40) rfl ((if0 _ _).trans (feq hc40).1) ?_
    show Steps p.tables e below (T5.setTop (mkF m 43 #[.val (.int p1), .val (.int p2), .val (.int p3), .val (.int (own_rem (p1 &&& (2147483647 : Int32)) (3 : Int32))), .val (.ref w4), .unset, .unset] [])) _
    refine XS.iloadN X5.here hx rfl (hb hby at_43) rfl ?_
    show Steps p.tables e below (T5.setTop (mkF m 44 #[.val (.int p1), .val (.int p2), .val (.int p3), .val (.int (own_rem (p1 &&& (2147483647 : Int32)) (3 : Int32))), .val (.ref w4), .unset, .unset] [(.int p2)])) _
    refine XS.istore X5.here hx rfl (hb hby at_44) rfl (l' := #[.val (.int p1), .val (.int p2), .val (.int p3), .val (.int (own_rem (p1 &&& (2147483647 : Int32)) (3 : Int32))), .val (.ref w4), .val (.int p2), .unset]) rfl ?_
    show Steps p.tables e below (T5.setTop (mkF m 46 #[.val (.int p1), .val (.int p2), .val (.int p3), .val (.int (own_rem (p1 &&& (2147483647 : Int32)) (3 : Int32))), .val (.ref w4), .val (.int p2), .unset] [])) _
    refine XS.goto X5.here hx rfl (pc0 := 46) (pc' := 57) rfl (hb hby at_46) (by decide) (by decide) ?_
    show Steps p.tables e below (T5.setTop (mkF m 57 #[.val (.int p1), .val (.int p2), .val (.int p3), .val (.int (own_rem (p1 &&& (2147483647 : Int32)) (3 : Int32))), .val (.ref w4), .val (.int p2), .unset] [])) _
    refine XS.iloadN X5.here hx rfl (hb hby at_57) rfl ?_
    show Steps p.tables e below (T5.setTop (mkF m 58 #[.val (.int p1), .val (.int p2), .val (.int p3), .val (.int (own_rem (p1 &&& (2147483647 : Int32)) (3 : Int32))), .val (.ref w4), .val (.int p2), .unset] [(.int (own_rem (p1 &&& (2147483647 : Int32)) (3 : Int32)))])) _
    refine XS.ifNo X5.here hx rfl (hb hby at_58) rfl ((if0 _ _).trans (teq hc58).2) ?_
    show Steps p.tables e below (T5.setTop (mkF m 61 #[.val (.int p1), .val (.int p2), .val (.int p3), .val (.int (own_rem (p1 &&& (2147483647 : Int32)) (3 : Int32))), .val (.ref w4), .val (.int p2), .unset] [])) _
    refine XS.iload X5.here hx rfl (hb hby at_61) rfl ?_
    show Steps p.tables e below (T5.setTop (mkF m 63 #[.val (.int p1), .val (.int p2), .val (.int p3), .val (.int (own_rem (p1 &&& (2147483647 : Int32)) (3 : Int32))), .val (.ref w4), .val (.int p2), .unset] [(.int p2)])) _
    refine XS.ifYes X5.here hx rfl (pc0 := 63) (pc' := 70) rfl (hb hby at_63) rfl ((if0 _ _).trans (feq hc63).2) (by decide) (by decide) ?_
    show Steps p.tables e below (T5.setTop (mkF m 70 #[.val (.int p1), .val (.int p2), .val (.int p3), .val (.int (own_rem (p1 &&& (2147483647 : Int32)) (3 : Int32))), .val (.ref w4), .val (.int p2), .unset] [])) _
    refine XS.iconst X5.here hx rfl (hb hby at_70) ?_
    show Steps p.tables e below (T5.setTop (mkF m 71 #[.val (.int p1), .val (.int p2), .val (.int p3), .val (.int (own_rem (p1 &&& (2147483647 : Int32)) (3 : Int32))), .val (.ref w4), .val (.int p2), .unset] [(.int (0 : Int32))])) _
    refine XS.istore X5.here hx rfl (hb hby at_71) rfl (l' := #[.val (.int p1), .val (.int p2), .val (.int p3), .val (.int (own_rem (p1 &&& (2147483647 : Int32)) (3 : Int32))), .val (.ref w4), .val (.int p2), .val (.int (0 : Int32))]) rfl ?_
    show Steps p.tables e below (T5.setTop (mkF m 73 #[.val (.int p1), .val (.int p2), .val (.int p3), .val (.int (own_rem (p1 &&& (2147483647 : Int32)) (3 : Int32))), .val (.ref w4), .val (.int p2), .val (.int (0 : Int32))] [])) _
    refine XS.goto X5.here hx rfl (pc0 := 73) (pc' := 95) rfl (hb hby at_73) (by decide) (by decide) ?_
    show Steps p.tables e below (T5.setTop (mkF m 95 #[.val (.int p1), .val (.int p2), .val (.int p3), .val (.int (own_rem (p1 &&& (2147483647 : Int32)) (3 : Int32))), .val (.ref w4), .val (.int p2), .val (.int (0 : Int32))] [])) _
    refine XS.aload X5.here hx rfl (hb hby at_95) rfl rfl ?_
    show Steps p.tables e below (T5.setTop (mkF m 97 #[.val (.int p1), .val (.int p2), .val (.int p3), .val (.int (own_rem (p1 &&& (2147483647 : Int32)) (3 : Int32))), .val (.ref w4), .val (.int p2), .val (.int (0 : Int32))] [(.ref w4)])) _
    refine XS.iload X5.here hx rfl (hb hby at_97) rfl ?_
    show Steps p.tables e below (T5.setTop (mkF m 99 #[.val (.int p1), .val (.int p2), .val (.int p3), .val (.int (own_rem (p1 &&& (2147483647 : Int32)) (3 : Int32))), .val (.ref w4), .val (.int p2), .val (.int (0 : Int32))] [(.int p2), (.ref w4)])) _
    refine st6.trans ?_
    show Steps p.tables e below (T6.setTop (mkF m 102 #[.val (.int p1), .val (.int p2), .val (.int p3), .val (.int (own_rem (p1 &&& (2147483647 : Int32)) (3 : Int32))), .val (.ref w4), .val (.int p2), .val (.int (0 : Int32))] [(.int (own_takes w4 wO p2))])) _
    refine XS.iload X6.here hx rfl (hb hby at_102) rfl ?_
    show Steps p.tables e below (T6.setTop (mkF m 104 #[.val (.int p1), .val (.int p2), .val (.int p3), .val (.int (own_rem (p1 &&& (2147483647 : Int32)) (3 : Int32))), .val (.ref w4), .val (.int p2), .val (.int (0 : Int32))] [(.int (0 : Int32)), (.int (own_takes w4 wO p2))])) _
    refine XS.icmpNo X6.here hx rfl (hb hby at_104) rfl (teq (hv : (own_takes w4 wO p2) = (0 : Int32))).2 ?_
    show Steps p.tables e below (T6.setTop (mkF m 107 #[.val (.int p1), .val (.int p2), .val (.int p3), .val (.int (own_rem (p1 &&& (2147483647 : Int32)) (3 : Int32))), .val (.ref w4), .val (.int p2), .val (.int (0 : Int32))] [])) _
    refine XS.iconst X6.here hx rfl (hb hby at_107) ?_
    show Steps p.tables e below (T6.setTop (mkF m 108 #[.val (.int p1), .val (.int p2), .val (.int p3), .val (.int (own_rem (p1 &&& (2147483647 : Int32)) (3 : Int32))), .val (.ref w4), .val (.int p2), .val (.int (0 : Int32))] [(.int (1 : Int32))])) _
    refine XS.goto X6.here hx rfl (pc0 := 108) (pc' := 112) rfl (hb hby at_108) (by decide) (by decide) ?_
    show Steps p.tables e below (T6.setTop (mkF m 112 #[.val (.int p1), .val (.int p2), .val (.int p3), .val (.int (own_rem (p1 &&& (2147483647 : Int32)) (3 : Int32))), .val (.ref w4), .val (.int p2), .val (.int (0 : Int32))] [(.int (1 : Int32))])) _
    exact retN X6 hx (t := .boolean) Bd.returns (by simp) (hb hby at_112) hr
  · show Ql (some (.int (1 : Int32))) n0 _ _
    exact ⟨rfl, N6⟩
set_option maxRecDepth 65536 in
set_option maxHeartbeats 40000000 in
theorem rm0_tftttf (l : Launch) (Z : State) (a0 : Array Value) (hw : ∀ d ∈ tables_1, d.before a0 Z = true) (ws : List Jvm.Cond) (p1 : Int32) (p2 : Int32) (p3 : Int32) (w4 : Addr) (h0 : Heap) (n0 : Nat) (Z0 : n0 ≤ h0.size) (wO : Addr) (SO : Sta Z h0 "com/example/telegrid/telegrid/esp3/RepeaterMode" "OFF" "Lcom/example/telegrid/telegrid/esp3/RepeaterMode;" (.ref wO)) (hv : own_takes w4 wO ((p2 &&& (7 : Int32)) - (2 : Int32)) = 1) (S_ON : Sta Z h0 "com/example/telegrid/telegrid/esp3/RepeaterMode" "ON" "Lcom/example/telegrid/telegrid/esp3/RepeaterMode;" (.ref w4)) (E_w4 : Exa Z h0 w4 "com/example/telegrid/telegrid/esp3/RepeaterMode") (hc8 : ¬ ((own_rem (p1 &&& (2147483647 : Int32)) (3 : Int32)) = (0 : Int32))) (hc21 : (own_rem (p1 &&& (2147483647 : Int32)) (3 : Int32)) = (1 : Int32)) (hc40 : (p3 &&& (1 : Int32)) = (0 : Int32)) (hc58 : ¬ ((own_rem (p1 &&& (2147483647 : Int32)) (3 : Int32)) = (0 : Int32))) (hc79 : ((p2 &&& (7 : Int32)) - (2 : Int32)) = (1 : Int32)) :
    MetFree l x (head1 (Jvm.Cond.code x code maxLocals ret :: ws) room_1) (fun a U => a = #[(.int p1), (.int p2), (.int p3)] ∧ Z.Warmed39 U.vm ∧ U.heap = h0) (fun _ _ _ _ _ => True) (fun _ U o U' => ∃ v L, o = .returned v ∧ Ql (some (.int (1 : Int32))) n0 v L ∧ FrameEnd U o U' L room_1.cells room_1.slots) := by
  refine MetFree.of_bodySF (plainFor_of_name pn_0) hisR ?_
  intro p e s m args below meth c s₁ Bd hml0 hP hK
  obtain ⟨rfl, hZ, hh⟩ := hP
  have hx := Bd.exec
  have hby := Bd.bytes
  have hml : c.maxLocals = 7 := hml0
  have hown : s.vm.findClass "com/example/telegrid/telegrid/esp3/RepeaterModeTakesPinLaw" = some m.cls := findClass_of_methodNamed Bd.named
  have hnm := (name_of_methodNamed Bd.named Bd.method).1
  have X0 : Stand p l e room_1 s m #[(.int p1), (.int p2), (.int p3)] below meth c s₁ [] 0 0 := Stand.of_body Bd
  have e0 : s₁.heap = h0 := by rw [← hh, Bd.state]; rfl
  have N0 := Fr.nil n0
  have pre0 : ∀ t, Steps p.tables e below (s₁.setTop (mkF m 0 #[.val (.int p1), .val (.int p2), .val (.int p3), .unset, .unset, .unset, .unset] [])) t → Steps p.tables e below (s₁.setTop (entryFrame m #[(.int p1), (.int p2), (.int p3)] maxLocals)) t := fun t k => castTop (ef_0 m p1 p2 p3) k
  -- 3. LAWS
  obtain ⟨T5, X5, e5, st5⟩ := getS2 X0 hx hZ hown (host := "") (Or.inl (hw _ (List.mem_of_getElem? (i := 10) rfl))) Via.refl e0 S_ON (g := (mkF m 24 #[.val (.int p1), .val (.int p2), .val (.int p3), .val (.int (own_rem (p1 &&& (2147483647 : Int32)) (3 : Int32))), .unset, .unset, .unset] [])) rfl (hb hby at_24)
  -- pc 99: com/example/telegrid/telegrid/esp3/RepeaterMode.takes by the contract of the body that the receiver's class selects, rm1
  obtain ⟨cq6, kq6, q6a, q6b, q6c⟩ := isOf hZ e5 E_w4
  obtain ⟨_, _, ⟨T6, L6, k6, n6⟩, -, X6, ⟨Lc6, hQ6, l6, y6, z6⟩, st6⟩ := X5.virtualBack hx (y := (⟨"com/example/telegrid/telegrid/esp3/RepeaterMode", "takes", "(I)Z"⟩ : MethodName)) (z := (⟨"com/example/telegrid/telegrid/esp3/RepeaterMode", "takes", "(I)Z"⟩ : MethodName)) hown (mvT hZ (hw _ (List.mem_of_getElem? (i := 4) rfl))) (mvT hZ (hw _ (List.mem_of_getElem? (i := 5) rfl))) (notFace_of_selects (args := #[]) (mvT hZ (hw _ (List.mem_of_getElem? (i := 7) rfl)))) (mvT hZ (hw _ (List.mem_of_getElem? (i := 7) rfl))) (mvT hZ (hw _ (List.mem_of_getElem? (i := 6) rfl))) (by decide) (backOf (W := 0) (rm1 l Z a0 hw [] w4 ((p2 &&& (7 : Int32)) - (2 : Int32)) wO h0 n0 Z0 SO) hZ (hw _ (List.mem_of_getElem? (i := 8) rfl)) (hw _ (List.mem_of_getElem? (i := 2) rfl)) (by decide) (by decide)) q6a q6c (g := (mkF m 99 #[.val (.int p1), .val (.int p2), .val (.int p3), .val (.int (own_rem (p1 &&& (2147483647 : Int32)) (3 : Int32))), .val (.ref w4), .val (.int ((p2 &&& (7 : Int32)) - (2 : Int32))), .val (.int (1 : Int32))] [(.int ((p2 &&& (7 : Int32)) - (2 : Int32))), (.ref w4)])) rfl (by rw [hml]; rfl) (Steps.refl _) (argsL := [(.int ((p2 &&& (7 : Int32)) - (2 : Int32)))]) (rest := []) (lenOf pd_0_0 rfl) rfl (by show 2 * 0 + _ ≤ _; exact Nat.le_of_eq rfl) (hb hby at_99) (fun _ _ => ⟨rfl, e5, (by decide : 0 + 0 ≤ _), (by decide : 0 + 0 ≤ _)⟩)
  dsimp only [Pt.U, Pt.locs, Pt.cells, Pt.slots] at X6 l6 y6 z6 st6 hQ6
  subst l6 y6 z6
  obtain ⟨rfl, N6q, e4⟩ := hQ6      -- what it returned, that it wrote nothing old, and the rest of your Q1
  have N6 := Fr.app N0 N6q
  obtain ⟨fs, hr, hrun, hended, hW, hsame⟩ := X6.leave (v := some (.int (1 : Int32))) (fun h => by rw [Bd.returns] at h; cases h)
  refine ⟨_, _, pre0 _ ?_, hrun, hended, _, _, rfl, ?_, ⟨_, rfl⟩, hW, hsame.mono (by decide) (by decide)⟩
  -- 4. STEPS
  · show Steps p.tables e below (s₁.setTop (mkF m 0 #[.val (.int p1), .val (.int p2), .val (.int p3), .unset, .unset, .unset, .unset] [])) _
    refine XS.iloadN X0.here hx rfl (hb hby at_0) rfl ?_
    show Steps p.tables e below (s₁.setTop (mkF m 1 #[.val (.int p1), .val (.int p2), .val (.int p3), .unset, .unset, .unset, .unset] [(.int p1)])) _
    refine X0.ldcInt hx hown (mvT hZ (hw _ (List.mem_of_getElem? (i := 0) rfl))) (g := (mkF m 1 #[.val (.int p1), .val (.int p2), .val (.int p3), .unset, .unset, .unset, .unset] [(.int p1)])) rfl (hb hby at_1) _ ?_
    show Steps p.tables e below (s₁.setTop (mkF m 3 #[.val (.int p1), .val (.int p2), .val (.int p3), .unset, .unset, .unset, .unset] [(.int (2147483647 : Int32)), (.int p1)])) _
    refine XS.iand X0.here hx rfl (hb hby at_3) rfl ?_
    show Steps p.tables e below (s₁.setTop (mkF m 4 #[.val (.int p1), .val (.int p2), .val (.int p3), .unset, .unset, .unset, .unset] [(.int (p1 &&& (2147483647 : Int32)))])) _
    refine XS.iconst X0.here hx rfl (hb hby at_4) ?_
    show Steps p.tables e below (s₁.setTop (mkF m 5 #[.val (.int p1), .val (.int p2), .val (.int p3), .unset, .unset, .unset, .unset] [(.int (3 : Int32)), (.int (p1 &&& (2147483647 : Int32)))])) _
    refine iremM X0 hx rfl (hb hby at_5) rfl (by decide) ?_
    show Steps p.tables e below (s₁.setTop (mkF m 6 #[.val (.int p1), .val (.int p2), .val (.int p3), .unset, .unset, .unset, .unset] [(.int (own_rem (p1 &&& (2147483647 : Int32)) (3 : Int32)))])) _
    refine XS.istoreN X0.here hx rfl (hb hby at_6) rfl (l' := #[.val (.int p1), .val (.int p2), .val (.int p3), .val (.int (own_rem (p1 &&& (2147483647 : Int32)) (3 : Int32))), .unset, .unset, .unset]) rfl ?_
    show Steps p.tables e below (s₁.setTop (mkF m 7 #[.val (.int p1), .val (.int p2), .val (.int p3), .val (.int (own_rem (p1 &&& (2147483647 : Int32)) (3 : Int32))), .unset, .unset, .unset] [])) _
    refine XS.iloadN X0.here hx rfl (hb hby at_7) rfl ?_
    show Steps p.tables e below (s₁.setTop (mkF m 8 #[.val (.int p1), .val (.int p2), .val (.int p3), .val (.int (own_rem (p1 &&& (2147483647 : Int32)) (3 : Int32))), .unset, .unset, .unset] [(.int (own_rem (p1 &&& (2147483647 : Int32)) (3 : Int32)))])) _
    refine XS.ifYes X0.here hx rfl (pc0 := 8) (pc' := 19) rfl (hb hby at_8) rfl ((if0 _ _).trans (feq hc8).2) (by decide) (by decide) ?_
    show Steps p.tables e below (s₁.setTop (mkF m 19 #[.val (.int p1), .val (.int p2), .val (.int p3), .val (.int (own_rem (p1 &&& (2147483647 : Int32)) (3 : Int32))), .unset, .unset, .unset] [])) _
    refine XS.iloadN X0.here hx rfl (hb hby at_19) rfl ?_
    show Steps p.tables e below (s₁.setTop (mkF m 20 #[.val (.int p1), .val (.int p2), .val (.int p3), .val (.int (own_rem (p1 &&& (2147483647 : Int32)) (3 : Int32))), .unset, .unset, .unset] [(.int (own_rem (p1 &&& (2147483647 : Int32)) (3 : Int32)))])) _
    refine XS.iconst X0.here hx rfl (hb hby at_20) ?_
    show Steps p.tables e below (s₁.setTop (mkF m 21 #[.val (.int p1), .val (.int p2), .val (.int p3), .val (.int (own_rem (p1 &&& (2147483647 : Int32)) (3 : Int32))), .unset, .unset, .unset] [(.int (1 : Int32)), (.int (own_rem (p1 &&& (2147483647 : Int32)) (3 : Int32)))])) _
    refine XS.icmpNo X0.here hx rfl (hb hby at_21) rfl (teq hc21).2 ?_
    show Steps p.tables e below (s₁.setTop (mkF m 24 #[.val (.int p1), .val (.int p2), .val (.int p3), .val (.int (own_rem (p1 &&& (2147483647 : Int32)) (3 : Int32))), .unset, .unset, .unset] [])) _
    refine st5 _ ?_
    show Steps p.tables e below (T5.setTop (mkF m 27 #[.val (.int p1), .val (.int p2), .val (.int p3), .val (.int (own_rem (p1 &&& (2147483647 : Int32)) (3 : Int32))), .unset, .unset, .unset] [(.ref w4)])) _
    refine XS.astore X5.here hx rfl (hb hby at_27) rfl rfl (l' := #[.val (.int p1), .val (.int p2), .val (.int p3), .val (.int (own_rem (p1 &&& (2147483647 : Int32)) (3 : Int32))), .val (.ref w4), .unset, .unset]) rfl ?_
    show Steps p.tables e below (T5.setTop (mkF m 29 #[.val (.int p1), .val (.int p2), .val (.int p3), .val (.int (own_rem (p1 &&& (2147483647 : Int32)) (3 : Int32))), .val (.ref w4), .unset, .unset] [])) _
    refine XS.goto X5.here hx rfl (pc0 := 29) (pc' := 37) rfl (hb hby at_29) (by decide) (by decide) ?_
    show Steps p.tables e below (T5.setTop (mkF m 37 #[.val (.int p1), .val (.int p2), .val (.int p3), .val (.int (own_rem (p1 &&& (2147483647 : Int32)) (3 : Int32))), .val (.ref w4), .unset, .unset] [])) _
    refine XS.iloadN X5.here hx rfl (hb hby at_37) rfl ?_
    show Steps p.tables e below (T5.setTop (mkF m 38 #[.val (.int p1), .val (.int p2), .val (.int p3), .val (.int (own_rem (p1 &&& (2147483647 : Int32)) (3 : Int32))), .val (.ref w4), .unset, .unset] [(.int p3)])) _
    refine XS.iconst X5.here hx rfl (hb hby at_38) ?_
    show Steps p.tables e below (T5.setTop (mkF m 39 #[.val (.int p1), .val (.int p2), .val (.int p3), .val (.int (own_rem (p1 &&& (2147483647 : Int32)) (3 : Int32))), .val (.ref w4), .unset, .unset] [(.int (1 : Int32)), (.int p3)])) _
    refine XS.iand X5.here hx rfl (hb hby at_39) rfl ?_
    show Steps p.tables e below (T5.setTop (mkF m 40 #[.val (.int p1), .val (.int p2), .val (.int p3), .val (.int (own_rem (p1 &&& (2147483647 : Int32)) (3 : Int32))), .val (.ref w4), .unset, .unset] [(.int (p3 &&& (1 : Int32)))])) _
    refine XS.ifYes X5.here hx rfl (pc0 := 40) (pc' := 49) rfl (hb hby at_40) rfl ((if0 _ _).trans (teq hc40).1) (by decide) (by decide) ?_
    show Steps p.tables e below (T5.setTop (mkF m 49 #[.val (.int p1), .val (.int p2), .val (.int p3), .val (.int (own_rem (p1 &&& (2147483647 : Int32)) (3 : Int32))), .val (.ref w4), .unset, .unset] [])) _
    refine XS.iloadN X5.here hx rfl (hb hby at_49) rfl ?_
    show Steps p.tables e below (T5.setTop (mkF m 50 #[.val (.int p1), .val (.int p2), .val (.int p3), .val (.int (own_rem (p1 &&& (2147483647 : Int32)) (3 : Int32))), .val (.ref w4), .unset, .unset] [(.int p2)])) _
    refine XS.bipush X5.here hx rfl (hb hby at_50) ?_
    show Steps p.tables e below (T5.setTop (mkF m 52 #[.val (.int p1), .val (.int p2), .val (.int p3), .val (.int (own_rem (p1 &&& (2147483647 : Int32)) (3 : Int32))), .val (.ref w4), .unset, .unset] [(.int (7 : Int32)), (.int p2)])) _
    refine XS.iand X5.here hx rfl (hb hby at_52) rfl ?_
    show Steps p.tables e below (T5.setTop (mkF m 53 #[.val (.int p1), .val (.int p2), .val (.int p3), .val (.int (own_rem (p1 &&& (2147483647 : Int32)) (3 : Int32))), .val (.ref w4), .unset, .unset] [(.int (p2 &&& (7 : Int32)))])) _
    refine XS.iconst X5.here hx rfl (hb hby at_53) ?_
    show Steps p.tables e below (T5.setTop (mkF m 54 #[.val (.int p1), .val (.int p2), .val (.int p3), .val (.int (own_rem (p1 &&& (2147483647 : Int32)) (3 : Int32))), .val (.ref w4), .unset, .unset] [(.int (2 : Int32)), (.int (p2 &&& (7 : Int32)))])) _
    refine XS.isub X5.here hx rfl (hb hby at_54) rfl ?_
    show Steps p.tables e below (T5.setTop (mkF m 55 #[.val (.int p1), .val (.int p2), .val (.int p3), .val (.int (own_rem (p1 &&& (2147483647 : Int32)) (3 : Int32))), .val (.ref w4), .unset, .unset] [(.int ((p2 &&& (7 : Int32)) - (2 : Int32)))])) _
    refine XS.istore X5.here hx rfl (hb hby at_55) rfl (l' := #[.val (.int p1), .val (.int p2), .val (.int p3), .val (.int (own_rem (p1 &&& (2147483647 : Int32)) (3 : Int32))), .val (.ref w4), .val (.int ((p2 &&& (7 : Int32)) - (2 : Int32))), .unset]) rfl ?_
    show Steps p.tables e below (T5.setTop (mkF m 57 #[.val (.int p1), .val (.int p2), .val (.int p3), .val (.int (own_rem (p1 &&& (2147483647 : Int32)) (3 : Int32))), .val (.ref w4), .val (.int ((p2 &&& (7 : Int32)) - (2 : Int32))), .unset] [])) _
    refine XS.iloadN X5.here hx rfl (hb hby at_57) rfl ?_
    show Steps p.tables e below (T5.setTop (mkF m 58 #[.val (.int p1), .val (.int p2), .val (.int p3), .val (.int (own_rem (p1 &&& (2147483647 : Int32)) (3 : Int32))), .val (.ref w4), .val (.int ((p2 &&& (7 : Int32)) - (2 : Int32))), .unset] [(.int (own_rem (p1 &&& (2147483647 : Int32)) (3 : Int32)))])) _
    refine XS.ifYes X5.here hx rfl (pc0 := 58) (pc' := 76) rfl (hb hby at_58) rfl ((if0 _ _).trans (feq hc58).2) (by decide) (by decide) ?_
    show Steps p.tables e below (T5.setTop (mkF m 76 #[.val (.int p1), .val (.int p2), .val (.int p3), .val (.int (own_rem (p1 &&& (2147483647 : Int32)) (3 : Int32))), .val (.ref w4), .val (.int ((p2 &&& (7 : Int32)) - (2 : Int32))), .unset] [])) _
    refine XS.iload X5.here hx rfl (hb hby at_76) rfl ?_
    show Steps p.tables e below (T5.setTop (mkF m 78 #[.val (.int p1), .val (.int p2), .val (.int p3), .val (.int (own_rem (p1 &&& (2147483647 : Int32)) (3 : Int32))), .val (.ref w4), .val (.int ((p2 &&& (7 : Int32)) - (2 : Int32))), .unset] [(.int ((p2 &&& (7 : Int32)) - (2 : Int32)))])) _
    refine XS.iconst X5.here hx rfl (hb hby at_78) ?_
    show Steps p.tables e below (T5.setTop (mkF m 79 #[.val (.int p1), .val (.int p2), .val (.int p3), .val (.int (own_rem (p1 &&& (2147483647 : Int32)) (3 : Int32))), .val (.ref w4), .val (.int ((p2 &&& (7 : Int32)) - (2 : Int32))), .unset] [(.int (1 : Int32)), (.int ((p2 &&& (7 : Int32)) - (2 : Int32)))])) _
    refine XS.icmpYes X5.here hx rfl (pc0 := 79) (pc' := 88) rfl (hb hby at_79) rfl (teq hc79).1 (by decide) (by decide) ?_
    show Steps p.tables e below (T5.setTop (mkF m 88 #[.val (.int p1), .val (.int p2), .val (.int p3), .val (.int (own_rem (p1 &&& (2147483647 : Int32)) (3 : Int32))), .val (.ref w4), .val (.int ((p2 &&& (7 : Int32)) - (2 : Int32))), .unset] [])) _
    refine XS.iconst X5.here hx rfl (hb hby at_88) ?_
    show Steps p.tables e below (T5.setTop (mkF m 89 #[.val (.int p1), .val (.int p2), .val (.int p3), .val (.int (own_rem (p1 &&& (2147483647 : Int32)) (3 : Int32))), .val (.ref w4), .val (.int ((p2 &&& (7 : Int32)) - (2 : Int32))), .unset] [(.int (1 : Int32))])) _
    refine XS.goto X5.here hx rfl (pc0 := 89) (pc' := 93) rfl (hb hby at_89) (by decide) (by decide) ?_
    show Steps p.tables e below (T5.setTop (mkF m 93 #[.val (.int p1), .val (.int p2), .val (.int p3), .val (.int (own_rem (p1 &&& (2147483647 : Int32)) (3 : Int32))), .val (.ref w4), .val (.int ((p2 &&& (7 : Int32)) - (2 : Int32))), .unset] [(.int (1 : Int32))])) _
    refine XS.istore X5.here hx rfl (hb hby at_93) rfl (l' := #[.val (.int p1), .val (.int p2), .val (.int p3), .val (.int (own_rem (p1 &&& (2147483647 : Int32)) (3 : Int32))), .val (.ref w4), .val (.int ((p2 &&& (7 : Int32)) - (2 : Int32))), .val (.int (1 : Int32))]) rfl ?_
    show Steps p.tables e below (T5.setTop (mkF m 95 #[.val (.int p1), .val (.int p2), .val (.int p3), .val (.int (own_rem (p1 &&& (2147483647 : Int32)) (3 : Int32))), .val (.ref w4), .val (.int ((p2 &&& (7 : Int32)) - (2 : Int32))), .val (.int (1 : Int32))] [])) _
    refine XS.aload X5.here hx rfl (hb hby at_95) rfl rfl ?_
    show Steps p.tables e below (T5.setTop (mkF m 97 #[.val (.int p1), .val (.int p2), .val (.int p3), .val (.int (own_rem (p1 &&& (2147483647 : Int32)) (3 : Int32))), .val (.ref w4), .val (.int ((p2 &&& (7 : Int32)) - (2 : Int32))), .val (.int (1 : Int32))] [(.ref w4)])) _
    refine XS.iload X5.here hx rfl (hb hby at_97) rfl ?_
    show Steps p.tables e below (T5.setTop (mkF m 99 #[.val (.int p1), .val (.int p2), .val (.int p3), .val (.int (own_rem (p1 &&& (2147483647 : Int32)) (3 : Int32))), .val (.ref w4), .val (.int ((p2 &&& (7 : Int32)) - (2 : Int32))), .val (.int (1 : Int32))] [(.int ((p2 &&& (7 : Int32)) - (2 : Int32))), (.ref w4)])) _
    refine st6.trans ?_
    show Steps p.tables e below (T6.setTop (mkF m 102 #[.val (.int p1), .val (.int p2), .val (.int p3), .val (.int (own_rem (p1 &&& (2147483647 : Int32)) (3 : Int32))), .val (.ref w4), .val (.int ((p2 &&& (7 : Int32)) - (2 : Int32))), .val (.int (1 : Int32))] [(.int (own_takes w4 wO ((p2 &&& (7 : Int32)) - (2 : Int32))))])) _
    refine XS.iload X6.here hx rfl (hb hby at_102) rfl ?_
    show Steps p.tables e below (T6.setTop (mkF m 104 #[.val (.int p1), .val (.int p2), .val (.int p3), .val (.int (own_rem (p1 &&& (2147483647 : Int32)) (3 : Int32))), .val (.ref w4), .val (.int ((p2 &&& (7 : Int32)) - (2 : Int32))), .val (.int (1 : Int32))] [(.int (1 : Int32)), (.int (own_takes w4 wO ((p2 &&& (7 : Int32)) - (2 : Int32))))])) _
    refine XS.icmpNo X6.here hx rfl (hb hby at_104) rfl (teq (hv : (own_takes w4 wO ((p2 &&& (7 : Int32)) - (2 : Int32))) = (1 : Int32))).2 ?_
    show Steps p.tables e below (T6.setTop (mkF m 107 #[.val (.int p1), .val (.int p2), .val (.int p3), .val (.int (own_rem (p1 &&& (2147483647 : Int32)) (3 : Int32))), .val (.ref w4), .val (.int ((p2 &&& (7 : Int32)) - (2 : Int32))), .val (.int (1 : Int32))] [])) _
    refine XS.iconst X6.here hx rfl (hb hby at_107) ?_
    show Steps p.tables e below (T6.setTop (mkF m 108 #[.val (.int p1), .val (.int p2), .val (.int p3), .val (.int (own_rem (p1 &&& (2147483647 : Int32)) (3 : Int32))), .val (.ref w4), .val (.int ((p2 &&& (7 : Int32)) - (2 : Int32))), .val (.int (1 : Int32))] [(.int (1 : Int32))])) _
    refine XS.goto X6.here hx rfl (pc0 := 108) (pc' := 112) rfl (hb hby at_108) (by decide) (by decide) ?_
    show Steps p.tables e below (T6.setTop (mkF m 112 #[.val (.int p1), .val (.int p2), .val (.int p3), .val (.int (own_rem (p1 &&& (2147483647 : Int32)) (3 : Int32))), .val (.ref w4), .val (.int ((p2 &&& (7 : Int32)) - (2 : Int32))), .val (.int (1 : Int32))] [(.int (1 : Int32))])) _
    exact retN X6 hx (t := .boolean) Bd.returns (by simp) (hb hby at_112) hr
  · show Ql (some (.int (1 : Int32))) n0 _ _
    exact ⟨rfl, N6⟩
set_option maxRecDepth 65536 in
set_option maxHeartbeats 40000000 in
theorem rm0_tfttfff (l : Launch) (Z : State) (a0 : Array Value) (hw : ∀ d ∈ tables_1, d.before a0 Z = true) (ws : List Jvm.Cond) (p1 : Int32) (p2 : Int32) (p3 : Int32) (w4 : Addr) (h0 : Heap) (n0 : Nat) (Z0 : n0 ≤ h0.size) (wO : Addr) (SO : Sta Z h0 "com/example/telegrid/telegrid/esp3/RepeaterMode" "OFF" "Lcom/example/telegrid/telegrid/esp3/RepeaterMode;" (.ref wO)) (hv : own_takes w4 wO ((p2 &&& (7 : Int32)) - (2 : Int32)) = 1) (S_ON : Sta Z h0 "com/example/telegrid/telegrid/esp3/RepeaterMode" "ON" "Lcom/example/telegrid/telegrid/esp3/RepeaterMode;" (.ref w4)) (E_w4 : Exa Z h0 w4 "com/example/telegrid/telegrid/esp3/RepeaterMode") (hc8 : ¬ ((own_rem (p1 &&& (2147483647 : Int32)) (3 : Int32)) = (0 : Int32))) (hc21 : (own_rem (p1 &&& (2147483647 : Int32)) (3 : Int32)) = (1 : Int32)) (hc40 : (p3 &&& (1 : Int32)) = (0 : Int32)) (hc58 : ¬ ((own_rem (p1 &&& (2147483647 : Int32)) (3 : Int32)) = (0 : Int32))) (hc79 : ¬ (((p2 &&& (7 : Int32)) - (2 : Int32)) = (1 : Int32))) (hc85 : ((p2 &&& (7 : Int32)) - (2 : Int32)) = (2 : Int32)) :
    MetFree l x (head1 (Jvm.Cond.code x code maxLocals ret :: ws) room_1) (fun a U => a = #[(.int p1), (.int p2), (.int p3)] ∧ Z.Warmed39 U.vm ∧ U.heap = h0) (fun _ _ _ _ _ => True) (fun _ U o U' => ∃ v L, o = .returned v ∧ Ql (some (.int (1 : Int32))) n0 v L ∧ FrameEnd U o U' L room_1.cells room_1.slots) := by
  refine MetFree.of_bodySF (plainFor_of_name pn_0) hisR ?_
  intro p e s m args below meth c s₁ Bd hml0 hP hK
  obtain ⟨rfl, hZ, hh⟩ := hP
  have hx := Bd.exec
  have hby := Bd.bytes
  have hml : c.maxLocals = 7 := hml0
  have hown : s.vm.findClass "com/example/telegrid/telegrid/esp3/RepeaterModeTakesPinLaw" = some m.cls := findClass_of_methodNamed Bd.named
  have hnm := (name_of_methodNamed Bd.named Bd.method).1
  have X0 : Stand p l e room_1 s m #[(.int p1), (.int p2), (.int p3)] below meth c s₁ [] 0 0 := Stand.of_body Bd
  have e0 : s₁.heap = h0 := by rw [← hh, Bd.state]; rfl
  have N0 := Fr.nil n0
  have pre0 : ∀ t, Steps p.tables e below (s₁.setTop (mkF m 0 #[.val (.int p1), .val (.int p2), .val (.int p3), .unset, .unset, .unset, .unset] [])) t → Steps p.tables e below (s₁.setTop (entryFrame m #[(.int p1), (.int p2), (.int p3)] maxLocals)) t := fun t k => castTop (ef_0 m p1 p2 p3) k
  -- 3. LAWS
  obtain ⟨T5, X5, e5, st5⟩ := getS2 X0 hx hZ hown (host := "") (Or.inl (hw _ (List.mem_of_getElem? (i := 10) rfl))) Via.refl e0 S_ON (g := (mkF m 24 #[.val (.int p1), .val (.int p2), .val (.int p3), .val (.int (own_rem (p1 &&& (2147483647 : Int32)) (3 : Int32))), .unset, .unset, .unset] [])) rfl (hb hby at_24)
  -- pc 99: com/example/telegrid/telegrid/esp3/RepeaterMode.takes by the contract of the body that the receiver's class selects, rm1
  obtain ⟨cq6, kq6, q6a, q6b, q6c⟩ := isOf hZ e5 E_w4
  obtain ⟨_, _, ⟨T6, L6, k6, n6⟩, -, X6, ⟨Lc6, hQ6, l6, y6, z6⟩, st6⟩ := X5.virtualBack hx (y := (⟨"com/example/telegrid/telegrid/esp3/RepeaterMode", "takes", "(I)Z"⟩ : MethodName)) (z := (⟨"com/example/telegrid/telegrid/esp3/RepeaterMode", "takes", "(I)Z"⟩ : MethodName)) hown (mvT hZ (hw _ (List.mem_of_getElem? (i := 4) rfl))) (mvT hZ (hw _ (List.mem_of_getElem? (i := 5) rfl))) (notFace_of_selects (args := #[]) (mvT hZ (hw _ (List.mem_of_getElem? (i := 7) rfl)))) (mvT hZ (hw _ (List.mem_of_getElem? (i := 7) rfl))) (mvT hZ (hw _ (List.mem_of_getElem? (i := 6) rfl))) (by decide) (backOf (W := 0) (rm1 l Z a0 hw [] w4 ((p2 &&& (7 : Int32)) - (2 : Int32)) wO h0 n0 Z0 SO) hZ (hw _ (List.mem_of_getElem? (i := 8) rfl)) (hw _ (List.mem_of_getElem? (i := 2) rfl)) (by decide) (by decide)) q6a q6c (g := (mkF m 99 #[.val (.int p1), .val (.int p2), .val (.int p3), .val (.int (own_rem (p1 &&& (2147483647 : Int32)) (3 : Int32))), .val (.ref w4), .val (.int ((p2 &&& (7 : Int32)) - (2 : Int32))), .val (.int (1 : Int32))] [(.int ((p2 &&& (7 : Int32)) - (2 : Int32))), (.ref w4)])) rfl (by rw [hml]; rfl) (Steps.refl _) (argsL := [(.int ((p2 &&& (7 : Int32)) - (2 : Int32)))]) (rest := []) (lenOf pd_0_0 rfl) rfl (by show 2 * 0 + _ ≤ _; exact Nat.le_of_eq rfl) (hb hby at_99) (fun _ _ => ⟨rfl, e5, (by decide : 0 + 0 ≤ _), (by decide : 0 + 0 ≤ _)⟩)
  dsimp only [Pt.U, Pt.locs, Pt.cells, Pt.slots] at X6 l6 y6 z6 st6 hQ6
  subst l6 y6 z6
  obtain ⟨rfl, N6q, e4⟩ := hQ6      -- what it returned, that it wrote nothing old, and the rest of your Q1
  have N6 := Fr.app N0 N6q
  obtain ⟨fs, hr, hrun, hended, hW, hsame⟩ := X6.leave (v := some (.int (1 : Int32))) (fun h => by rw [Bd.returns] at h; cases h)
  refine ⟨_, _, pre0 _ ?_, hrun, hended, _, _, rfl, ?_, ⟨_, rfl⟩, hW, hsame.mono (by decide) (by decide)⟩
  -- 4. STEPS
  · show Steps p.tables e below (s₁.setTop (mkF m 0 #[.val (.int p1), .val (.int p2), .val (.int p3), .unset, .unset, .unset, .unset] [])) _
    refine XS.iloadN X0.here hx rfl (hb hby at_0) rfl ?_
    show Steps p.tables e below (s₁.setTop (mkF m 1 #[.val (.int p1), .val (.int p2), .val (.int p3), .unset, .unset, .unset, .unset] [(.int p1)])) _
    refine X0.ldcInt hx hown (mvT hZ (hw _ (List.mem_of_getElem? (i := 0) rfl))) (g := (mkF m 1 #[.val (.int p1), .val (.int p2), .val (.int p3), .unset, .unset, .unset, .unset] [(.int p1)])) rfl (hb hby at_1) _ ?_
    show Steps p.tables e below (s₁.setTop (mkF m 3 #[.val (.int p1), .val (.int p2), .val (.int p3), .unset, .unset, .unset, .unset] [(.int (2147483647 : Int32)), (.int p1)])) _
    refine XS.iand X0.here hx rfl (hb hby at_3) rfl ?_
    show Steps p.tables e below (s₁.setTop (mkF m 4 #[.val (.int p1), .val (.int p2), .val (.int p3), .unset, .unset, .unset, .unset] [(.int (p1 &&& (2147483647 : Int32)))])) _
    refine XS.iconst X0.here hx rfl (hb hby at_4) ?_
    show Steps p.tables e below (s₁.setTop (mkF m 5 #[.val (.int p1), .val (.int p2), .val (.int p3), .unset, .unset, .unset, .unset] [(.int (3 : Int32)), (.int (p1 &&& (2147483647 : Int32)))])) _
    refine iremM X0 hx rfl (hb hby at_5) rfl (by decide) ?_
    show Steps p.tables e below (s₁.setTop (mkF m 6 #[.val (.int p1), .val (.int p2), .val (.int p3), .unset, .unset, .unset, .unset] [(.int (own_rem (p1 &&& (2147483647 : Int32)) (3 : Int32)))])) _
    refine XS.istoreN X0.here hx rfl (hb hby at_6) rfl (l' := #[.val (.int p1), .val (.int p2), .val (.int p3), .val (.int (own_rem (p1 &&& (2147483647 : Int32)) (3 : Int32))), .unset, .unset, .unset]) rfl ?_
    show Steps p.tables e below (s₁.setTop (mkF m 7 #[.val (.int p1), .val (.int p2), .val (.int p3), .val (.int (own_rem (p1 &&& (2147483647 : Int32)) (3 : Int32))), .unset, .unset, .unset] [])) _
    refine XS.iloadN X0.here hx rfl (hb hby at_7) rfl ?_
    show Steps p.tables e below (s₁.setTop (mkF m 8 #[.val (.int p1), .val (.int p2), .val (.int p3), .val (.int (own_rem (p1 &&& (2147483647 : Int32)) (3 : Int32))), .unset, .unset, .unset] [(.int (own_rem (p1 &&& (2147483647 : Int32)) (3 : Int32)))])) _
    refine XS.ifYes X0.here hx rfl (pc0 := 8) (pc' := 19) rfl (hb hby at_8) rfl ((if0 _ _).trans (feq hc8).2) (by decide) (by decide) ?_
    show Steps p.tables e below (s₁.setTop (mkF m 19 #[.val (.int p1), .val (.int p2), .val (.int p3), .val (.int (own_rem (p1 &&& (2147483647 : Int32)) (3 : Int32))), .unset, .unset, .unset] [])) _
    refine XS.iloadN X0.here hx rfl (hb hby at_19) rfl ?_
    show Steps p.tables e below (s₁.setTop (mkF m 20 #[.val (.int p1), .val (.int p2), .val (.int p3), .val (.int (own_rem (p1 &&& (2147483647 : Int32)) (3 : Int32))), .unset, .unset, .unset] [(.int (own_rem (p1 &&& (2147483647 : Int32)) (3 : Int32)))])) _
    refine XS.iconst X0.here hx rfl (hb hby at_20) ?_
    show Steps p.tables e below (s₁.setTop (mkF m 21 #[.val (.int p1), .val (.int p2), .val (.int p3), .val (.int (own_rem (p1 &&& (2147483647 : Int32)) (3 : Int32))), .unset, .unset, .unset] [(.int (1 : Int32)), (.int (own_rem (p1 &&& (2147483647 : Int32)) (3 : Int32)))])) _
    refine XS.icmpNo X0.here hx rfl (hb hby at_21) rfl (teq hc21).2 ?_
    show Steps p.tables e below (s₁.setTop (mkF m 24 #[.val (.int p1), .val (.int p2), .val (.int p3), .val (.int (own_rem (p1 &&& (2147483647 : Int32)) (3 : Int32))), .unset, .unset, .unset] [])) _
    refine st5 _ ?_
    show Steps p.tables e below (T5.setTop (mkF m 27 #[.val (.int p1), .val (.int p2), .val (.int p3), .val (.int (own_rem (p1 &&& (2147483647 : Int32)) (3 : Int32))), .unset, .unset, .unset] [(.ref w4)])) _
    refine XS.astore X5.here hx rfl (hb hby at_27) rfl rfl (l' := #[.val (.int p1), .val (.int p2), .val (.int p3), .val (.int (own_rem (p1 &&& (2147483647 : Int32)) (3 : Int32))), .val (.ref w4), .unset, .unset]) rfl ?_
    show Steps p.tables e below (T5.setTop (mkF m 29 #[.val (.int p1), .val (.int p2), .val (.int p3), .val (.int (own_rem (p1 &&& (2147483647 : Int32)) (3 : Int32))), .val (.ref w4), .unset, .unset] [])) _
    refine XS.goto X5.here hx rfl (pc0 := 29) (pc' := 37) rfl (hb hby at_29) (by decide) (by decide) ?_
    show Steps p.tables e below (T5.setTop (mkF m 37 #[.val (.int p1), .val (.int p2), .val (.int p3), .val (.int (own_rem (p1 &&& (2147483647 : Int32)) (3 : Int32))), .val (.ref w4), .unset, .unset] [])) _
    refine XS.iloadN X5.here hx rfl (hb hby at_37) rfl ?_
    show Steps p.tables e below (T5.setTop (mkF m 38 #[.val (.int p1), .val (.int p2), .val (.int p3), .val (.int (own_rem (p1 &&& (2147483647 : Int32)) (3 : Int32))), .val (.ref w4), .unset, .unset] [(.int p3)])) _
    refine XS.iconst X5.here hx rfl (hb hby at_38) ?_
    show Steps p.tables e below (T5.setTop (mkF m 39 #[.val (.int p1), .val (.int p2), .val (.int p3), .val (.int (own_rem (p1 &&& (2147483647 : Int32)) (3 : Int32))), .val (.ref w4), .unset, .unset] [(.int (1 : Int32)), (.int p3)])) _
    refine XS.iand X5.here hx rfl (hb hby at_39) rfl ?_
    show Steps p.tables e below (T5.setTop (mkF m 40 #[.val (.int p1), .val (.int p2), .val (.int p3), .val (.int (own_rem (p1 &&& (2147483647 : Int32)) (3 : Int32))), .val (.ref w4), .unset, .unset] [(.int (p3 &&& (1 : Int32)))])) _
    refine XS.ifYes X5.here hx rfl (pc0 := 40) (pc' := 49) rfl (hb hby at_40) rfl ((if0 _ _).trans (teq hc40).1) (by decide) (by decide) ?_
    show Steps p.tables e below (T5.setTop (mkF m 49 #[.val (.int p1), .val (.int p2), .val (.int p3), .val (.int (own_rem (p1 &&& (2147483647 : Int32)) (3 : Int32))), .val (.ref w4), .unset, .unset] [])) _
    refine XS.iloadN X5.here hx rfl (hb hby at_49) rfl ?_
    show Steps p.tables e below (T5.setTop (mkF m 50 #[.val (.int p1), .val (.int p2), .val (.int p3), .val (.int (own_rem (p1 &&& (2147483647 : Int32)) (3 : Int32))), .val (.ref w4), .unset, .unset] [(.int p2)])) _
    refine XS.bipush X5.here hx rfl (hb hby at_50) ?_
    show Steps p.tables e below (T5.setTop (mkF m 52 #[.val (.int p1), .val (.int p2), .val (.int p3), .val (.int (own_rem (p1 &&& (2147483647 : Int32)) (3 : Int32))), .val (.ref w4), .unset, .unset] [(.int (7 : Int32)), (.int p2)])) _
    refine XS.iand X5.here hx rfl (hb hby at_52) rfl ?_
    show Steps p.tables e below (T5.setTop (mkF m 53 #[.val (.int p1), .val (.int p2), .val (.int p3), .val (.int (own_rem (p1 &&& (2147483647 : Int32)) (3 : Int32))), .val (.ref w4), .unset, .unset] [(.int (p2 &&& (7 : Int32)))])) _
    refine XS.iconst X5.here hx rfl (hb hby at_53) ?_
    show Steps p.tables e below (T5.setTop (mkF m 54 #[.val (.int p1), .val (.int p2), .val (.int p3), .val (.int (own_rem (p1 &&& (2147483647 : Int32)) (3 : Int32))), .val (.ref w4), .unset, .unset] [(.int (2 : Int32)), (.int (p2 &&& (7 : Int32)))])) _
    refine XS.isub X5.here hx rfl (hb hby at_54) rfl ?_
    show Steps p.tables e below (T5.setTop (mkF m 55 #[.val (.int p1), .val (.int p2), .val (.int p3), .val (.int (own_rem (p1 &&& (2147483647 : Int32)) (3 : Int32))), .val (.ref w4), .unset, .unset] [(.int ((p2 &&& (7 : Int32)) - (2 : Int32)))])) _
    refine XS.istore X5.here hx rfl (hb hby at_55) rfl (l' := #[.val (.int p1), .val (.int p2), .val (.int p3), .val (.int (own_rem (p1 &&& (2147483647 : Int32)) (3 : Int32))), .val (.ref w4), .val (.int ((p2 &&& (7 : Int32)) - (2 : Int32))), .unset]) rfl ?_
    show Steps p.tables e below (T5.setTop (mkF m 57 #[.val (.int p1), .val (.int p2), .val (.int p3), .val (.int (own_rem (p1 &&& (2147483647 : Int32)) (3 : Int32))), .val (.ref w4), .val (.int ((p2 &&& (7 : Int32)) - (2 : Int32))), .unset] [])) _
    refine XS.iloadN X5.here hx rfl (hb hby at_57) rfl ?_
    show Steps p.tables e below (T5.setTop (mkF m 58 #[.val (.int p1), .val (.int p2), .val (.int p3), .val (.int (own_rem (p1 &&& (2147483647 : Int32)) (3 : Int32))), .val (.ref w4), .val (.int ((p2 &&& (7 : Int32)) - (2 : Int32))), .unset] [(.int (own_rem (p1 &&& (2147483647 : Int32)) (3 : Int32)))])) _
    refine XS.ifYes X5.here hx rfl (pc0 := 58) (pc' := 76) rfl (hb hby at_58) rfl ((if0 _ _).trans (feq hc58).2) (by decide) (by decide) ?_
    show Steps p.tables e below (T5.setTop (mkF m 76 #[.val (.int p1), .val (.int p2), .val (.int p3), .val (.int (own_rem (p1 &&& (2147483647 : Int32)) (3 : Int32))), .val (.ref w4), .val (.int ((p2 &&& (7 : Int32)) - (2 : Int32))), .unset] [])) _
    refine XS.iload X5.here hx rfl (hb hby at_76) rfl ?_
    show Steps p.tables e below (T5.setTop (mkF m 78 #[.val (.int p1), .val (.int p2), .val (.int p3), .val (.int (own_rem (p1 &&& (2147483647 : Int32)) (3 : Int32))), .val (.ref w4), .val (.int ((p2 &&& (7 : Int32)) - (2 : Int32))), .unset] [(.int ((p2 &&& (7 : Int32)) - (2 : Int32)))])) _
    refine XS.iconst X5.here hx rfl (hb hby at_78) ?_
    show Steps p.tables e below (T5.setTop (mkF m 79 #[.val (.int p1), .val (.int p2), .val (.int p3), .val (.int (own_rem (p1 &&& (2147483647 : Int32)) (3 : Int32))), .val (.ref w4), .val (.int ((p2 &&& (7 : Int32)) - (2 : Int32))), .unset] [(.int (1 : Int32)), (.int ((p2 &&& (7 : Int32)) - (2 : Int32)))])) _
    refine XS.icmpNo X5.here hx rfl (hb hby at_79) rfl (feq hc79).1 ?_
    show Steps p.tables e below (T5.setTop (mkF m 82 #[.val (.int p1), .val (.int p2), .val (.int p3), .val (.int (own_rem (p1 &&& (2147483647 : Int32)) (3 : Int32))), .val (.ref w4), .val (.int ((p2 &&& (7 : Int32)) - (2 : Int32))), .unset] [])) _
    refine XS.iload X5.here hx rfl (hb hby at_82) rfl ?_
    show Steps p.tables e below (T5.setTop (mkF m 84 #[.val (.int p1), .val (.int p2), .val (.int p3), .val (.int (own_rem (p1 &&& (2147483647 : Int32)) (3 : Int32))), .val (.ref w4), .val (.int ((p2 &&& (7 : Int32)) - (2 : Int32))), .unset] [(.int ((p2 &&& (7 : Int32)) - (2 : Int32)))])) _
    refine XS.iconst X5.here hx rfl (hb hby at_84) ?_
    show Steps p.tables e below (T5.setTop (mkF m 85 #[.val (.int p1), .val (.int p2), .val (.int p3), .val (.int (own_rem (p1 &&& (2147483647 : Int32)) (3 : Int32))), .val (.ref w4), .val (.int ((p2 &&& (7 : Int32)) - (2 : Int32))), .unset] [(.int (2 : Int32)), (.int ((p2 &&& (7 : Int32)) - (2 : Int32)))])) _
    refine XS.icmpNo X5.here hx rfl (hb hby at_85) rfl (teq hc85).2 ?_
    show Steps p.tables e below (T5.setTop (mkF m 88 #[.val (.int p1), .val (.int p2), .val (.int p3), .val (.int (own_rem (p1 &&& (2147483647 : Int32)) (3 : Int32))), .val (.ref w4), .val (.int ((p2 &&& (7 : Int32)) - (2 : Int32))), .unset] [])) _
    refine XS.iconst X5.here hx rfl (hb hby at_88) ?_
    show Steps p.tables e below (T5.setTop (mkF m 89 #[.val (.int p1), .val (.int p2), .val (.int p3), .val (.int (own_rem (p1 &&& (2147483647 : Int32)) (3 : Int32))), .val (.ref w4), .val (.int ((p2 &&& (7 : Int32)) - (2 : Int32))), .unset] [(.int (1 : Int32))])) _
    refine XS.goto X5.here hx rfl (pc0 := 89) (pc' := 93) rfl (hb hby at_89) (by decide) (by decide) ?_
    show Steps p.tables e below (T5.setTop (mkF m 93 #[.val (.int p1), .val (.int p2), .val (.int p3), .val (.int (own_rem (p1 &&& (2147483647 : Int32)) (3 : Int32))), .val (.ref w4), .val (.int ((p2 &&& (7 : Int32)) - (2 : Int32))), .unset] [(.int (1 : Int32))])) _
    refine XS.istore X5.here hx rfl (hb hby at_93) rfl (l' := #[.val (.int p1), .val (.int p2), .val (.int p3), .val (.int (own_rem (p1 &&& (2147483647 : Int32)) (3 : Int32))), .val (.ref w4), .val (.int ((p2 &&& (7 : Int32)) - (2 : Int32))), .val (.int (1 : Int32))]) rfl ?_
    show Steps p.tables e below (T5.setTop (mkF m 95 #[.val (.int p1), .val (.int p2), .val (.int p3), .val (.int (own_rem (p1 &&& (2147483647 : Int32)) (3 : Int32))), .val (.ref w4), .val (.int ((p2 &&& (7 : Int32)) - (2 : Int32))), .val (.int (1 : Int32))] [])) _
    refine XS.aload X5.here hx rfl (hb hby at_95) rfl rfl ?_
    show Steps p.tables e below (T5.setTop (mkF m 97 #[.val (.int p1), .val (.int p2), .val (.int p3), .val (.int (own_rem (p1 &&& (2147483647 : Int32)) (3 : Int32))), .val (.ref w4), .val (.int ((p2 &&& (7 : Int32)) - (2 : Int32))), .val (.int (1 : Int32))] [(.ref w4)])) _
    refine XS.iload X5.here hx rfl (hb hby at_97) rfl ?_
    show Steps p.tables e below (T5.setTop (mkF m 99 #[.val (.int p1), .val (.int p2), .val (.int p3), .val (.int (own_rem (p1 &&& (2147483647 : Int32)) (3 : Int32))), .val (.ref w4), .val (.int ((p2 &&& (7 : Int32)) - (2 : Int32))), .val (.int (1 : Int32))] [(.int ((p2 &&& (7 : Int32)) - (2 : Int32))), (.ref w4)])) _
    refine st6.trans ?_
    show Steps p.tables e below (T6.setTop (mkF m 102 #[.val (.int p1), .val (.int p2), .val (.int p3), .val (.int (own_rem (p1 &&& (2147483647 : Int32)) (3 : Int32))), .val (.ref w4), .val (.int ((p2 &&& (7 : Int32)) - (2 : Int32))), .val (.int (1 : Int32))] [(.int (own_takes w4 wO ((p2 &&& (7 : Int32)) - (2 : Int32))))])) _
    refine XS.iload X6.here hx rfl (hb hby at_102) rfl ?_
    show Steps p.tables e below (T6.setTop (mkF m 104 #[.val (.int p1), .val (.int p2), .val (.int p3), .val (.int (own_rem (p1 &&& (2147483647 : Int32)) (3 : Int32))), .val (.ref w4), .val (.int ((p2 &&& (7 : Int32)) - (2 : Int32))), .val (.int (1 : Int32))] [(.int (1 : Int32)), (.int (own_takes w4 wO ((p2 &&& (7 : Int32)) - (2 : Int32))))])) _
    refine XS.icmpNo X6.here hx rfl (hb hby at_104) rfl (teq (hv : (own_takes w4 wO ((p2 &&& (7 : Int32)) - (2 : Int32))) = (1 : Int32))).2 ?_
    show Steps p.tables e below (T6.setTop (mkF m 107 #[.val (.int p1), .val (.int p2), .val (.int p3), .val (.int (own_rem (p1 &&& (2147483647 : Int32)) (3 : Int32))), .val (.ref w4), .val (.int ((p2 &&& (7 : Int32)) - (2 : Int32))), .val (.int (1 : Int32))] [])) _
    refine XS.iconst X6.here hx rfl (hb hby at_107) ?_
    show Steps p.tables e below (T6.setTop (mkF m 108 #[.val (.int p1), .val (.int p2), .val (.int p3), .val (.int (own_rem (p1 &&& (2147483647 : Int32)) (3 : Int32))), .val (.ref w4), .val (.int ((p2 &&& (7 : Int32)) - (2 : Int32))), .val (.int (1 : Int32))] [(.int (1 : Int32))])) _
    refine XS.goto X6.here hx rfl (pc0 := 108) (pc' := 112) rfl (hb hby at_108) (by decide) (by decide) ?_
    show Steps p.tables e below (T6.setTop (mkF m 112 #[.val (.int p1), .val (.int p2), .val (.int p3), .val (.int (own_rem (p1 &&& (2147483647 : Int32)) (3 : Int32))), .val (.ref w4), .val (.int ((p2 &&& (7 : Int32)) - (2 : Int32))), .val (.int (1 : Int32))] [(.int (1 : Int32))])) _
    exact retN X6 hx (t := .boolean) Bd.returns (by simp) (hb hby at_112) hr
  · show Ql (some (.int (1 : Int32))) n0 _ _
    exact ⟨rfl, N6⟩
set_option maxRecDepth 65536 in
set_option maxHeartbeats 40000000 in
theorem rm0_tfttftf (l : Launch) (Z : State) (a0 : Array Value) (hw : ∀ d ∈ tables_1, d.before a0 Z = true) (ws : List Jvm.Cond) (p1 : Int32) (p2 : Int32) (p3 : Int32) (w4 : Addr) (h0 : Heap) (n0 : Nat) (Z0 : n0 ≤ h0.size) (wO : Addr) (SO : Sta Z h0 "com/example/telegrid/telegrid/esp3/RepeaterMode" "OFF" "Lcom/example/telegrid/telegrid/esp3/RepeaterMode;" (.ref wO)) (hv : own_takes w4 wO ((p2 &&& (7 : Int32)) - (2 : Int32)) = 0) (S_ON : Sta Z h0 "com/example/telegrid/telegrid/esp3/RepeaterMode" "ON" "Lcom/example/telegrid/telegrid/esp3/RepeaterMode;" (.ref w4)) (E_w4 : Exa Z h0 w4 "com/example/telegrid/telegrid/esp3/RepeaterMode") (hc8 : ¬ ((own_rem (p1 &&& (2147483647 : Int32)) (3 : Int32)) = (0 : Int32))) (hc21 : (own_rem (p1 &&& (2147483647 : Int32)) (3 : Int32)) = (1 : Int32)) (hc40 : (p3 &&& (1 : Int32)) = (0 : Int32)) (hc58 : ¬ ((own_rem (p1 &&& (2147483647 : Int32)) (3 : Int32)) = (0 : Int32))) (hc79 : ¬ (((p2 &&& (7 : Int32)) - (2 : Int32)) = (1 : Int32))) (hc85 : ¬ (((p2 &&& (7 : Int32)) - (2 : Int32)) = (2 : Int32))) :
    MetFree l x (head1 (Jvm.Cond.code x code maxLocals ret :: ws) room_1) (fun a U => a = #[(.int p1), (.int p2), (.int p3)] ∧ Z.Warmed39 U.vm ∧ U.heap = h0) (fun _ _ _ _ _ => True) (fun _ U o U' => ∃ v L, o = .returned v ∧ Ql (some (.int (1 : Int32))) n0 v L ∧ FrameEnd U o U' L room_1.cells room_1.slots) := by
  refine MetFree.of_bodySF (plainFor_of_name pn_0) hisR ?_
  intro p e s m args below meth c s₁ Bd hml0 hP hK
  obtain ⟨rfl, hZ, hh⟩ := hP
  have hx := Bd.exec
  have hby := Bd.bytes
  have hml : c.maxLocals = 7 := hml0
  have hown : s.vm.findClass "com/example/telegrid/telegrid/esp3/RepeaterModeTakesPinLaw" = some m.cls := findClass_of_methodNamed Bd.named
  have hnm := (name_of_methodNamed Bd.named Bd.method).1
  have X0 : Stand p l e room_1 s m #[(.int p1), (.int p2), (.int p3)] below meth c s₁ [] 0 0 := Stand.of_body Bd
  have e0 : s₁.heap = h0 := by rw [← hh, Bd.state]; rfl
  have N0 := Fr.nil n0
  have pre0 : ∀ t, Steps p.tables e below (s₁.setTop (mkF m 0 #[.val (.int p1), .val (.int p2), .val (.int p3), .unset, .unset, .unset, .unset] [])) t → Steps p.tables e below (s₁.setTop (entryFrame m #[(.int p1), (.int p2), (.int p3)] maxLocals)) t := fun t k => castTop (ef_0 m p1 p2 p3) k
  -- 3. LAWS
  obtain ⟨T5, X5, e5, st5⟩ := getS2 X0 hx hZ hown (host := "") (Or.inl (hw _ (List.mem_of_getElem? (i := 10) rfl))) Via.refl e0 S_ON (g := (mkF m 24 #[.val (.int p1), .val (.int p2), .val (.int p3), .val (.int (own_rem (p1 &&& (2147483647 : Int32)) (3 : Int32))), .unset, .unset, .unset] [])) rfl (hb hby at_24)
  -- pc 99: com/example/telegrid/telegrid/esp3/RepeaterMode.takes by the contract of the body that the receiver's class selects, rm1
  obtain ⟨cq6, kq6, q6a, q6b, q6c⟩ := isOf hZ e5 E_w4
  obtain ⟨_, _, ⟨T6, L6, k6, n6⟩, -, X6, ⟨Lc6, hQ6, l6, y6, z6⟩, st6⟩ := X5.virtualBack hx (y := (⟨"com/example/telegrid/telegrid/esp3/RepeaterMode", "takes", "(I)Z"⟩ : MethodName)) (z := (⟨"com/example/telegrid/telegrid/esp3/RepeaterMode", "takes", "(I)Z"⟩ : MethodName)) hown (mvT hZ (hw _ (List.mem_of_getElem? (i := 4) rfl))) (mvT hZ (hw _ (List.mem_of_getElem? (i := 5) rfl))) (notFace_of_selects (args := #[]) (mvT hZ (hw _ (List.mem_of_getElem? (i := 7) rfl)))) (mvT hZ (hw _ (List.mem_of_getElem? (i := 7) rfl))) (mvT hZ (hw _ (List.mem_of_getElem? (i := 6) rfl))) (by decide) (backOf (W := 0) (rm1 l Z a0 hw [] w4 ((p2 &&& (7 : Int32)) - (2 : Int32)) wO h0 n0 Z0 SO) hZ (hw _ (List.mem_of_getElem? (i := 8) rfl)) (hw _ (List.mem_of_getElem? (i := 2) rfl)) (by decide) (by decide)) q6a q6c (g := (mkF m 99 #[.val (.int p1), .val (.int p2), .val (.int p3), .val (.int (own_rem (p1 &&& (2147483647 : Int32)) (3 : Int32))), .val (.ref w4), .val (.int ((p2 &&& (7 : Int32)) - (2 : Int32))), .val (.int (0 : Int32))] [(.int ((p2 &&& (7 : Int32)) - (2 : Int32))), (.ref w4)])) rfl (by rw [hml]; rfl) (Steps.refl _) (argsL := [(.int ((p2 &&& (7 : Int32)) - (2 : Int32)))]) (rest := []) (lenOf pd_0_0 rfl) rfl (by show 2 * 0 + _ ≤ _; exact Nat.le_of_eq rfl) (hb hby at_99) (fun _ _ => ⟨rfl, e5, (by decide : 0 + 0 ≤ _), (by decide : 0 + 0 ≤ _)⟩)
  dsimp only [Pt.U, Pt.locs, Pt.cells, Pt.slots] at X6 l6 y6 z6 st6 hQ6
  subst l6 y6 z6
  obtain ⟨rfl, N6q, e4⟩ := hQ6      -- what it returned, that it wrote nothing old, and the rest of your Q1
  have N6 := Fr.app N0 N6q
  obtain ⟨fs, hr, hrun, hended, hW, hsame⟩ := X6.leave (v := some (.int (1 : Int32))) (fun h => by rw [Bd.returns] at h; cases h)
  refine ⟨_, _, pre0 _ ?_, hrun, hended, _, _, rfl, ?_, ⟨_, rfl⟩, hW, hsame.mono (by decide) (by decide)⟩
  -- 4. STEPS
  · show Steps p.tables e below (s₁.setTop (mkF m 0 #[.val (.int p1), .val (.int p2), .val (.int p3), .unset, .unset, .unset, .unset] [])) _
    refine XS.iloadN X0.here hx rfl (hb hby at_0) rfl ?_
    show Steps p.tables e below (s₁.setTop (mkF m 1 #[.val (.int p1), .val (.int p2), .val (.int p3), .unset, .unset, .unset, .unset] [(.int p1)])) _
    refine X0.ldcInt hx hown (mvT hZ (hw _ (List.mem_of_getElem? (i := 0) rfl))) (g := (mkF m 1 #[.val (.int p1), .val (.int p2), .val (.int p3), .unset, .unset, .unset, .unset] [(.int p1)])) rfl (hb hby at_1) _ ?_
    show Steps p.tables e below (s₁.setTop (mkF m 3 #[.val (.int p1), .val (.int p2), .val (.int p3), .unset, .unset, .unset, .unset] [(.int (2147483647 : Int32)), (.int p1)])) _
    refine XS.iand X0.here hx rfl (hb hby at_3) rfl ?_
    show Steps p.tables e below (s₁.setTop (mkF m 4 #[.val (.int p1), .val (.int p2), .val (.int p3), .unset, .unset, .unset, .unset] [(.int (p1 &&& (2147483647 : Int32)))])) _
    refine XS.iconst X0.here hx rfl (hb hby at_4) ?_
    show Steps p.tables e below (s₁.setTop (mkF m 5 #[.val (.int p1), .val (.int p2), .val (.int p3), .unset, .unset, .unset, .unset] [(.int (3 : Int32)), (.int (p1 &&& (2147483647 : Int32)))])) _
    refine iremM X0 hx rfl (hb hby at_5) rfl (by decide) ?_
    show Steps p.tables e below (s₁.setTop (mkF m 6 #[.val (.int p1), .val (.int p2), .val (.int p3), .unset, .unset, .unset, .unset] [(.int (own_rem (p1 &&& (2147483647 : Int32)) (3 : Int32)))])) _
    refine XS.istoreN X0.here hx rfl (hb hby at_6) rfl (l' := #[.val (.int p1), .val (.int p2), .val (.int p3), .val (.int (own_rem (p1 &&& (2147483647 : Int32)) (3 : Int32))), .unset, .unset, .unset]) rfl ?_
    show Steps p.tables e below (s₁.setTop (mkF m 7 #[.val (.int p1), .val (.int p2), .val (.int p3), .val (.int (own_rem (p1 &&& (2147483647 : Int32)) (3 : Int32))), .unset, .unset, .unset] [])) _
    refine XS.iloadN X0.here hx rfl (hb hby at_7) rfl ?_
    show Steps p.tables e below (s₁.setTop (mkF m 8 #[.val (.int p1), .val (.int p2), .val (.int p3), .val (.int (own_rem (p1 &&& (2147483647 : Int32)) (3 : Int32))), .unset, .unset, .unset] [(.int (own_rem (p1 &&& (2147483647 : Int32)) (3 : Int32)))])) _
    refine XS.ifYes X0.here hx rfl (pc0 := 8) (pc' := 19) rfl (hb hby at_8) rfl ((if0 _ _).trans (feq hc8).2) (by decide) (by decide) ?_
    show Steps p.tables e below (s₁.setTop (mkF m 19 #[.val (.int p1), .val (.int p2), .val (.int p3), .val (.int (own_rem (p1 &&& (2147483647 : Int32)) (3 : Int32))), .unset, .unset, .unset] [])) _
    refine XS.iloadN X0.here hx rfl (hb hby at_19) rfl ?_
    show Steps p.tables e below (s₁.setTop (mkF m 20 #[.val (.int p1), .val (.int p2), .val (.int p3), .val (.int (own_rem (p1 &&& (2147483647 : Int32)) (3 : Int32))), .unset, .unset, .unset] [(.int (own_rem (p1 &&& (2147483647 : Int32)) (3 : Int32)))])) _
    refine XS.iconst X0.here hx rfl (hb hby at_20) ?_
    show Steps p.tables e below (s₁.setTop (mkF m 21 #[.val (.int p1), .val (.int p2), .val (.int p3), .val (.int (own_rem (p1 &&& (2147483647 : Int32)) (3 : Int32))), .unset, .unset, .unset] [(.int (1 : Int32)), (.int (own_rem (p1 &&& (2147483647 : Int32)) (3 : Int32)))])) _
    refine XS.icmpNo X0.here hx rfl (hb hby at_21) rfl (teq hc21).2 ?_
    show Steps p.tables e below (s₁.setTop (mkF m 24 #[.val (.int p1), .val (.int p2), .val (.int p3), .val (.int (own_rem (p1 &&& (2147483647 : Int32)) (3 : Int32))), .unset, .unset, .unset] [])) _
    refine st5 _ ?_
    show Steps p.tables e below (T5.setTop (mkF m 27 #[.val (.int p1), .val (.int p2), .val (.int p3), .val (.int (own_rem (p1 &&& (2147483647 : Int32)) (3 : Int32))), .unset, .unset, .unset] [(.ref w4)])) _
    refine XS.astore X5.here hx rfl (hb hby at_27) rfl rfl (l' := #[.val (.int p1), .val (.int p2), .val (.int p3), .val (.int (own_rem (p1 &&& (2147483647 : Int32)) (3 : Int32))), .val (.ref w4), .unset, .unset]) rfl ?_
    show Steps p.tables e below (T5.setTop (mkF m 29 #[.val (.int p1), .val (.int p2), .val (.int p3), .val (.int (own_rem (p1 &&& (2147483647 : Int32)) (3 : Int32))), .val (.ref w4), .unset, .unset] [])) _
    refine XS.goto X5.here hx rfl (pc0 := 29) (pc' := 37) rfl (hb hby at_29) (by decide) (by decide) ?_
    show Steps p.tables e below (T5.setTop (mkF m 37 #[.val (.int p1), .val (.int p2), .val (.int p3), .val (.int (own_rem (p1 &&& (2147483647 : Int32)) (3 : Int32))), .val (.ref w4), .unset, .unset] [])) _
    refine XS.iloadN X5.here hx rfl (hb hby at_37) rfl ?_
    show Steps p.tables e below (T5.setTop (mkF m 38 #[.val (.int p1), .val (.int p2), .val (.int p3), .val (.int (own_rem (p1 &&& (2147483647 : Int32)) (3 : Int32))), .val (.ref w4), .unset, .unset] [(.int p3)])) _
    refine XS.iconst X5.here hx rfl (hb hby at_38) ?_
    show Steps p.tables e below (T5.setTop (mkF m 39 #[.val (.int p1), .val (.int p2), .val (.int p3), .val (.int (own_rem (p1 &&& (2147483647 : Int32)) (3 : Int32))), .val (.ref w4), .unset, .unset] [(.int (1 : Int32)), (.int p3)])) _
    refine XS.iand X5.here hx rfl (hb hby at_39) rfl ?_
    show Steps p.tables e below (T5.setTop (mkF m 40 #[.val (.int p1), .val (.int p2), .val (.int p3), .val (.int (own_rem (p1 &&& (2147483647 : Int32)) (3 : Int32))), .val (.ref w4), .unset, .unset] [(.int (p3 &&& (1 : Int32)))])) _
    refine XS.ifYes X5.here hx rfl (pc0 := 40) (pc' := 49) rfl (hb hby at_40) rfl ((if0 _ _).trans (teq hc40).1) (by decide) (by decide) ?_
    show Steps p.tables e below (T5.setTop (mkF m 49 #[.val (.int p1), .val (.int p2), .val (.int p3), .val (.int (own_rem (p1 &&& (2147483647 : Int32)) (3 : Int32))), .val (.ref w4), .unset, .unset] [])) _
    refine XS.iloadN X5.here hx rfl (hb hby at_49) rfl ?_
    show Steps p.tables e below (T5.setTop (mkF m 50 #[.val (.int p1), .val (.int p2), .val (.int p3), .val (.int (own_rem (p1 &&& (2147483647 : Int32)) (3 : Int32))), .val (.ref w4), .unset, .unset] [(.int p2)])) _
    refine XS.bipush X5.here hx rfl (hb hby at_50) ?_
    show Steps p.tables e below (T5.setTop (mkF m 52 #[.val (.int p1), .val (.int p2), .val (.int p3), .val (.int (own_rem (p1 &&& (2147483647 : Int32)) (3 : Int32))), .val (.ref w4), .unset, .unset] [(.int (7 : Int32)), (.int p2)])) _
    refine XS.iand X5.here hx rfl (hb hby at_52) rfl ?_
    show Steps p.tables e below (T5.setTop (mkF m 53 #[.val (.int p1), .val (.int p2), .val (.int p3), .val (.int (own_rem (p1 &&& (2147483647 : Int32)) (3 : Int32))), .val (.ref w4), .unset, .unset] [(.int (p2 &&& (7 : Int32)))])) _
    refine XS.iconst X5.here hx rfl (hb hby at_53) ?_
    show Steps p.tables e below (T5.setTop (mkF m 54 #[.val (.int p1), .val (.int p2), .val (.int p3), .val (.int (own_rem (p1 &&& (2147483647 : Int32)) (3 : Int32))), .val (.ref w4), .unset, .unset] [(.int (2 : Int32)), (.int (p2 &&& (7 : Int32)))])) _
    refine XS.isub X5.here hx rfl (hb hby at_54) rfl ?_
    show Steps p.tables e below (T5.setTop (mkF m 55 #[.val (.int p1), .val (.int p2), .val (.int p3), .val (.int (own_rem (p1 &&& (2147483647 : Int32)) (3 : Int32))), .val (.ref w4), .unset, .unset] [(.int ((p2 &&& (7 : Int32)) - (2 : Int32)))])) _
    refine XS.istore X5.here hx rfl (hb hby at_55) rfl (l' := #[.val (.int p1), .val (.int p2), .val (.int p3), .val (.int (own_rem (p1 &&& (2147483647 : Int32)) (3 : Int32))), .val (.ref w4), .val (.int ((p2 &&& (7 : Int32)) - (2 : Int32))), .unset]) rfl ?_
    show Steps p.tables e below (T5.setTop (mkF m 57 #[.val (.int p1), .val (.int p2), .val (.int p3), .val (.int (own_rem (p1 &&& (2147483647 : Int32)) (3 : Int32))), .val (.ref w4), .val (.int ((p2 &&& (7 : Int32)) - (2 : Int32))), .unset] [])) _
    refine XS.iloadN X5.here hx rfl (hb hby at_57) rfl ?_
    show Steps p.tables e below (T5.setTop (mkF m 58 #[.val (.int p1), .val (.int p2), .val (.int p3), .val (.int (own_rem (p1 &&& (2147483647 : Int32)) (3 : Int32))), .val (.ref w4), .val (.int ((p2 &&& (7 : Int32)) - (2 : Int32))), .unset] [(.int (own_rem (p1 &&& (2147483647 : Int32)) (3 : Int32)))])) _
    refine XS.ifYes X5.here hx rfl (pc0 := 58) (pc' := 76) rfl (hb hby at_58) rfl ((if0 _ _).trans (feq hc58).2) (by decide) (by decide) ?_
    show Steps p.tables e below (T5.setTop (mkF m 76 #[.val (.int p1), .val (.int p2), .val (.int p3), .val (.int (own_rem (p1 &&& (2147483647 : Int32)) (3 : Int32))), .val (.ref w4), .val (.int ((p2 &&& (7 : Int32)) - (2 : Int32))), .unset] [])) _
    refine XS.iload X5.here hx rfl (hb hby at_76) rfl ?_
    show Steps p.tables e below (T5.setTop (mkF m 78 #[.val (.int p1), .val (.int p2), .val (.int p3), .val (.int (own_rem (p1 &&& (2147483647 : Int32)) (3 : Int32))), .val (.ref w4), .val (.int ((p2 &&& (7 : Int32)) - (2 : Int32))), .unset] [(.int ((p2 &&& (7 : Int32)) - (2 : Int32)))])) _
    refine XS.iconst X5.here hx rfl (hb hby at_78) ?_
    show Steps p.tables e below (T5.setTop (mkF m 79 #[.val (.int p1), .val (.int p2), .val (.int p3), .val (.int (own_rem (p1 &&& (2147483647 : Int32)) (3 : Int32))), .val (.ref w4), .val (.int ((p2 &&& (7 : Int32)) - (2 : Int32))), .unset] [(.int (1 : Int32)), (.int ((p2 &&& (7 : Int32)) - (2 : Int32)))])) _
    refine XS.icmpNo X5.here hx rfl (hb hby at_79) rfl (feq hc79).1 ?_
    show Steps p.tables e below (T5.setTop (mkF m 82 #[.val (.int p1), .val (.int p2), .val (.int p3), .val (.int (own_rem (p1 &&& (2147483647 : Int32)) (3 : Int32))), .val (.ref w4), .val (.int ((p2 &&& (7 : Int32)) - (2 : Int32))), .unset] [])) _
    refine XS.iload X5.here hx rfl (hb hby at_82) rfl ?_
    show Steps p.tables e below (T5.setTop (mkF m 84 #[.val (.int p1), .val (.int p2), .val (.int p3), .val (.int (own_rem (p1 &&& (2147483647 : Int32)) (3 : Int32))), .val (.ref w4), .val (.int ((p2 &&& (7 : Int32)) - (2 : Int32))), .unset] [(.int ((p2 &&& (7 : Int32)) - (2 : Int32)))])) _
    refine XS.iconst X5.here hx rfl (hb hby at_84) ?_
    show Steps p.tables e below (T5.setTop (mkF m 85 #[.val (.int p1), .val (.int p2), .val (.int p3), .val (.int (own_rem (p1 &&& (2147483647 : Int32)) (3 : Int32))), .val (.ref w4), .val (.int ((p2 &&& (7 : Int32)) - (2 : Int32))), .unset] [(.int (2 : Int32)), (.int ((p2 &&& (7 : Int32)) - (2 : Int32)))])) _
    refine XS.icmpYes X5.here hx rfl (pc0 := 85) (pc' := 92) rfl (hb hby at_85) rfl (feq hc85).2 (by decide) (by decide) ?_
    show Steps p.tables e below (T5.setTop (mkF m 92 #[.val (.int p1), .val (.int p2), .val (.int p3), .val (.int (own_rem (p1 &&& (2147483647 : Int32)) (3 : Int32))), .val (.ref w4), .val (.int ((p2 &&& (7 : Int32)) - (2 : Int32))), .unset] [])) _
    refine XS.iconst X5.here hx rfl (hb hby at_92) ?_
    show Steps p.tables e below (T5.setTop (mkF m 93 #[.val (.int p1), .val (.int p2), .val (.int p3), .val (.int (own_rem (p1 &&& (2147483647 : Int32)) (3 : Int32))), .val (.ref w4), .val (.int ((p2 &&& (7 : Int32)) - (2 : Int32))), .unset] [(.int (0 : Int32))])) _
    refine XS.istore X5.here hx rfl (hb hby at_93) rfl (l' := #[.val (.int p1), .val (.int p2), .val (.int p3), .val (.int (own_rem (p1 &&& (2147483647 : Int32)) (3 : Int32))), .val (.ref w4), .val (.int ((p2 &&& (7 : Int32)) - (2 : Int32))), .val (.int (0 : Int32))]) rfl ?_
    show Steps p.tables e below (T5.setTop (mkF m 95 #[.val (.int p1), .val (.int p2), .val (.int p3), .val (.int (own_rem (p1 &&& (2147483647 : Int32)) (3 : Int32))), .val (.ref w4), .val (.int ((p2 &&& (7 : Int32)) - (2 : Int32))), .val (.int (0 : Int32))] [])) _
    refine XS.aload X5.here hx rfl (hb hby at_95) rfl rfl ?_
    show Steps p.tables e below (T5.setTop (mkF m 97 #[.val (.int p1), .val (.int p2), .val (.int p3), .val (.int (own_rem (p1 &&& (2147483647 : Int32)) (3 : Int32))), .val (.ref w4), .val (.int ((p2 &&& (7 : Int32)) - (2 : Int32))), .val (.int (0 : Int32))] [(.ref w4)])) _
    refine XS.iload X5.here hx rfl (hb hby at_97) rfl ?_
    show Steps p.tables e below (T5.setTop (mkF m 99 #[.val (.int p1), .val (.int p2), .val (.int p3), .val (.int (own_rem (p1 &&& (2147483647 : Int32)) (3 : Int32))), .val (.ref w4), .val (.int ((p2 &&& (7 : Int32)) - (2 : Int32))), .val (.int (0 : Int32))] [(.int ((p2 &&& (7 : Int32)) - (2 : Int32))), (.ref w4)])) _
    refine st6.trans ?_
    show Steps p.tables e below (T6.setTop (mkF m 102 #[.val (.int p1), .val (.int p2), .val (.int p3), .val (.int (own_rem (p1 &&& (2147483647 : Int32)) (3 : Int32))), .val (.ref w4), .val (.int ((p2 &&& (7 : Int32)) - (2 : Int32))), .val (.int (0 : Int32))] [(.int (own_takes w4 wO ((p2 &&& (7 : Int32)) - (2 : Int32))))])) _
    refine XS.iload X6.here hx rfl (hb hby at_102) rfl ?_
    show Steps p.tables e below (T6.setTop (mkF m 104 #[.val (.int p1), .val (.int p2), .val (.int p3), .val (.int (own_rem (p1 &&& (2147483647 : Int32)) (3 : Int32))), .val (.ref w4), .val (.int ((p2 &&& (7 : Int32)) - (2 : Int32))), .val (.int (0 : Int32))] [(.int (0 : Int32)), (.int (own_takes w4 wO ((p2 &&& (7 : Int32)) - (2 : Int32))))])) _
    refine XS.icmpNo X6.here hx rfl (hb hby at_104) rfl (teq (hv : (own_takes w4 wO ((p2 &&& (7 : Int32)) - (2 : Int32))) = (0 : Int32))).2 ?_
    show Steps p.tables e below (T6.setTop (mkF m 107 #[.val (.int p1), .val (.int p2), .val (.int p3), .val (.int (own_rem (p1 &&& (2147483647 : Int32)) (3 : Int32))), .val (.ref w4), .val (.int ((p2 &&& (7 : Int32)) - (2 : Int32))), .val (.int (0 : Int32))] [])) _
    refine XS.iconst X6.here hx rfl (hb hby at_107) ?_
    show Steps p.tables e below (T6.setTop (mkF m 108 #[.val (.int p1), .val (.int p2), .val (.int p3), .val (.int (own_rem (p1 &&& (2147483647 : Int32)) (3 : Int32))), .val (.ref w4), .val (.int ((p2 &&& (7 : Int32)) - (2 : Int32))), .val (.int (0 : Int32))] [(.int (1 : Int32))])) _
    refine XS.goto X6.here hx rfl (pc0 := 108) (pc' := 112) rfl (hb hby at_108) (by decide) (by decide) ?_
    show Steps p.tables e below (T6.setTop (mkF m 112 #[.val (.int p1), .val (.int p2), .val (.int p3), .val (.int (own_rem (p1 &&& (2147483647 : Int32)) (3 : Int32))), .val (.ref w4), .val (.int ((p2 &&& (7 : Int32)) - (2 : Int32))), .val (.int (0 : Int32))] [(.int (1 : Int32))])) _
    exact retN X6 hx (t := .boolean) Bd.returns (by simp) (hb hby at_112) hr
  · show Ql (some (.int (1 : Int32))) n0 _ _
    exact ⟨rfl, N6⟩
set_option maxRecDepth 65536 in
set_option maxHeartbeats 40000000 in
theorem rm0_tffttf (l : Launch) (Z : State) (a0 : Array Value) (hw : ∀ d ∈ tables_1, d.before a0 Z = true) (ws : List Jvm.Cond) (p1 : Int32) (p2 : Int32) (p3 : Int32) (w4 : Addr) (h0 : Heap) (n0 : Nat) (Z0 : n0 ≤ h0.size) (wO : Addr) (SO : Sta Z h0 "com/example/telegrid/telegrid/esp3/RepeaterMode" "OFF" "Lcom/example/telegrid/telegrid/esp3/RepeaterMode;" (.ref wO)) (hv : own_takes w4 wO p2 = 1) (S_ON : Sta Z h0 "com/example/telegrid/telegrid/esp3/RepeaterMode" "ON" "Lcom/example/telegrid/telegrid/esp3/RepeaterMode;" (.ref w4)) (E_w4 : Exa Z h0 w4 "com/example/telegrid/telegrid/esp3/RepeaterMode") (hc8 : ¬ ((own_rem (p1 &&& (2147483647 : Int32)) (3 : Int32)) = (0 : Int32))) (hc21 : (own_rem (p1 &&& (2147483647 : Int32)) (3 : Int32)) = (1 : Int32)) (hc40 : ¬ ((p3 &&& (1 : Int32)) = (0 : Int32))) (hc58 : ¬ ((own_rem (p1 &&& (2147483647 : Int32)) (3 : Int32)) = (0 : Int32))) (hc79 : p2 = (1 : Int32)) :
    MetFree l x (head1 (Jvm.Cond.code x code maxLocals ret :: ws) room_1) (fun a U => a = #[(.int p1), (.int p2), (.int p3)] ∧ Z.Warmed39 U.vm ∧ U.heap = h0) (fun _ _ _ _ _ => True) (fun _ U o U' => ∃ v L, o = .returned v ∧ Ql (some (.int (1 : Int32))) n0 v L ∧ FrameEnd U o U' L room_1.cells room_1.slots) := by
  refine MetFree.of_bodySF (plainFor_of_name pn_0) hisR ?_
  intro p e s m args below meth c s₁ Bd hml0 hP hK
  obtain ⟨rfl, hZ, hh⟩ := hP
  have hx := Bd.exec
  have hby := Bd.bytes
  have hml : c.maxLocals = 7 := hml0
  have hown : s.vm.findClass "com/example/telegrid/telegrid/esp3/RepeaterModeTakesPinLaw" = some m.cls := findClass_of_methodNamed Bd.named
  have hnm := (name_of_methodNamed Bd.named Bd.method).1
  have X0 : Stand p l e room_1 s m #[(.int p1), (.int p2), (.int p3)] below meth c s₁ [] 0 0 := Stand.of_body Bd
  have e0 : s₁.heap = h0 := by rw [← hh, Bd.state]; rfl
  have N0 := Fr.nil n0
  have pre0 : ∀ t, Steps p.tables e below (s₁.setTop (mkF m 0 #[.val (.int p1), .val (.int p2), .val (.int p3), .unset, .unset, .unset, .unset] [])) t → Steps p.tables e below (s₁.setTop (entryFrame m #[(.int p1), (.int p2), (.int p3)] maxLocals)) t := fun t k => castTop (ef_0 m p1 p2 p3) k
  -- 3. LAWS
  obtain ⟨T5, X5, e5, st5⟩ := getS2 X0 hx hZ hown (host := "") (Or.inl (hw _ (List.mem_of_getElem? (i := 10) rfl))) Via.refl e0 S_ON (g := (mkF m 24 #[.val (.int p1), .val (.int p2), .val (.int p3), .val (.int (own_rem (p1 &&& (2147483647 : Int32)) (3 : Int32))), .unset, .unset, .unset] [])) rfl (hb hby at_24)
  -- pc 99: com/example/telegrid/telegrid/esp3/RepeaterMode.takes by the contract of the body that the receiver's class selects, rm1
  obtain ⟨cq6, kq6, q6a, q6b, q6c⟩ := isOf hZ e5 E_w4
  obtain ⟨_, _, ⟨T6, L6, k6, n6⟩, -, X6, ⟨Lc6, hQ6, l6, y6, z6⟩, st6⟩ := X5.virtualBack hx (y := (⟨"com/example/telegrid/telegrid/esp3/RepeaterMode", "takes", "(I)Z"⟩ : MethodName)) (z := (⟨"com/example/telegrid/telegrid/esp3/RepeaterMode", "takes", "(I)Z"⟩ : MethodName)) hown (mvT hZ (hw _ (List.mem_of_getElem? (i := 4) rfl))) (mvT hZ (hw _ (List.mem_of_getElem? (i := 5) rfl))) (notFace_of_selects (args := #[]) (mvT hZ (hw _ (List.mem_of_getElem? (i := 7) rfl)))) (mvT hZ (hw _ (List.mem_of_getElem? (i := 7) rfl))) (mvT hZ (hw _ (List.mem_of_getElem? (i := 6) rfl))) (by decide) (backOf (W := 0) (rm1 l Z a0 hw [] w4 p2 wO h0 n0 Z0 SO) hZ (hw _ (List.mem_of_getElem? (i := 8) rfl)) (hw _ (List.mem_of_getElem? (i := 2) rfl)) (by decide) (by decide)) q6a q6c (g := (mkF m 99 #[.val (.int p1), .val (.int p2), .val (.int p3), .val (.int (own_rem (p1 &&& (2147483647 : Int32)) (3 : Int32))), .val (.ref w4), .val (.int p2), .val (.int (1 : Int32))] [(.int p2), (.ref w4)])) rfl (by rw [hml]; rfl) (Steps.refl _) (argsL := [(.int p2)]) (rest := []) (lenOf pd_0_0 rfl) rfl (by show 2 * 0 + _ ≤ _; exact Nat.le_of_eq rfl) (hb hby at_99) (fun _ _ => ⟨rfl, e5, (by decide : 0 + 0 ≤ _), (by decide : 0 + 0 ≤ _)⟩)
  dsimp only [Pt.U, Pt.locs, Pt.cells, Pt.slots] at X6 l6 y6 z6 st6 hQ6
  subst l6 y6 z6
  obtain ⟨rfl, N6q, e4⟩ := hQ6      -- what it returned, that it wrote nothing old, and the rest of your Q1
  have N6 := Fr.app N0 N6q
  obtain ⟨fs, hr, hrun, hended, hW, hsame⟩ := X6.leave (v := some (.int (1 : Int32))) (fun h => by rw [Bd.returns] at h; cases h)
  refine ⟨_, _, pre0 _ ?_, hrun, hended, _, _, rfl, ?_, ⟨_, rfl⟩, hW, hsame.mono (by decide) (by decide)⟩
  -- 4. STEPS
  · show Steps p.tables e below (s₁.setTop (mkF m 0 #[.val (.int p1), .val (.int p2), .val (.int p3), .unset, .unset, .unset, .unset] [])) _
    refine XS.iloadN X0.here hx rfl (hb hby at_0) rfl ?_
    show Steps p.tables e below (s₁.setTop (mkF m 1 #[.val (.int p1), .val (.int p2), .val (.int p3), .unset, .unset, .unset, .unset] [(.int p1)])) _
    refine X0.ldcInt hx hown (mvT hZ (hw _ (List.mem_of_getElem? (i := 0) rfl))) (g := (mkF m 1 #[.val (.int p1), .val (.int p2), .val (.int p3), .unset, .unset, .unset, .unset] [(.int p1)])) rfl (hb hby at_1) _ ?_
    show Steps p.tables e below (s₁.setTop (mkF m 3 #[.val (.int p1), .val (.int p2), .val (.int p3), .unset, .unset, .unset, .unset] [(.int (2147483647 : Int32)), (.int p1)])) _
    refine XS.iand X0.here hx rfl (hb hby at_3) rfl ?_
    show Steps p.tables e below (s₁.setTop (mkF m 4 #[.val (.int p1), .val (.int p2), .val (.int p3), .unset, .unset, .unset, .unset] [(.int (p1 &&& (2147483647 : Int32)))])) _
    refine XS.iconst X0.here hx rfl (hb hby at_4) ?_
    show Steps p.tables e below (s₁.setTop (mkF m 5 #[.val (.int p1), .val (.int p2), .val (.int p3), .unset, .unset, .unset, .unset] [(.int (3 : Int32)), (.int (p1 &&& (2147483647 : Int32)))])) _
    refine iremM X0 hx rfl (hb hby at_5) rfl (by decide) ?_
    show Steps p.tables e below (s₁.setTop (mkF m 6 #[.val (.int p1), .val (.int p2), .val (.int p3), .unset, .unset, .unset, .unset] [(.int (own_rem (p1 &&& (2147483647 : Int32)) (3 : Int32)))])) _
    refine XS.istoreN X0.here hx rfl (hb hby at_6) rfl (l' := #[.val (.int p1), .val (.int p2), .val (.int p3), .val (.int (own_rem (p1 &&& (2147483647 : Int32)) (3 : Int32))), .unset, .unset, .unset]) rfl ?_
    show Steps p.tables e below (s₁.setTop (mkF m 7 #[.val (.int p1), .val (.int p2), .val (.int p3), .val (.int (own_rem (p1 &&& (2147483647 : Int32)) (3 : Int32))), .unset, .unset, .unset] [])) _
    refine XS.iloadN X0.here hx rfl (hb hby at_7) rfl ?_
    show Steps p.tables e below (s₁.setTop (mkF m 8 #[.val (.int p1), .val (.int p2), .val (.int p3), .val (.int (own_rem (p1 &&& (2147483647 : Int32)) (3 : Int32))), .unset, .unset, .unset] [(.int (own_rem (p1 &&& (2147483647 : Int32)) (3 : Int32)))])) _
    refine XS.ifYes X0.here hx rfl (pc0 := 8) (pc' := 19) rfl (hb hby at_8) rfl ((if0 _ _).trans (feq hc8).2) (by decide) (by decide) ?_
    show Steps p.tables e below (s₁.setTop (mkF m 19 #[.val (.int p1), .val (.int p2), .val (.int p3), .val (.int (own_rem (p1 &&& (2147483647 : Int32)) (3 : Int32))), .unset, .unset, .unset] [])) _
    refine XS.iloadN X0.here hx rfl (hb hby at_19) rfl ?_
    show Steps p.tables e below (s₁.setTop (mkF m 20 #[.val (.int p1), .val (.int p2), .val (.int p3), .val (.int (own_rem (p1 &&& (2147483647 : Int32)) (3 : Int32))), .unset, .unset, .unset] [(.int (own_rem (p1 &&& (2147483647 : Int32)) (3 : Int32)))])) _
    refine XS.iconst X0.here hx rfl (hb hby at_20) ?_
    show Steps p.tables e below (s₁.setTop (mkF m 21 #[.val (.int p1), .val (.int p2), .val (.int p3), .val (.int (own_rem (p1 &&& (2147483647 : Int32)) (3 : Int32))), .unset, .unset, .unset] [(.int (1 : Int32)), (.int (own_rem (p1 &&& (2147483647 : Int32)) (3 : Int32)))])) _
    refine XS.icmpNo X0.here hx rfl (hb hby at_21) rfl (teq hc21).2 ?_
    show Steps p.tables e below (s₁.setTop (mkF m 24 #[.val (.int p1), .val (.int p2), .val (.int p3), .val (.int (own_rem (p1 &&& (2147483647 : Int32)) (3 : Int32))), .unset, .unset, .unset] [])) _
    refine st5 _ ?_
    show Steps p.tables e below (T5.setTop (mkF m 27 #[.val (.int p1), .val (.int p2), .val (.int p3), .val (.int (own_rem (p1 &&& (2147483647 : Int32)) (3 : Int32))), .unset, .unset, .unset] [(.ref w4)])) _
    refine XS.astore X5.here hx rfl (hb hby at_27) rfl rfl (l' := #[.val (.int p1), .val (.int p2), .val (.int p3), .val (.int (own_rem (p1 &&& (2147483647 : Int32)) (3 : Int32))), .val (.ref w4), .unset, .unset]) rfl ?_
    show Steps p.tables e below (T5.setTop (mkF m 29 #[.val (.int p1), .val (.int p2), .val (.int p3), .val (.int (own_rem (p1 &&& (2147483647 : Int32)) (3 : Int32))), .val (.ref w4), .unset, .unset] [])) _
    refine XS.goto X5.here hx rfl (pc0 := 29) (pc' := 37) rfl (hb hby at_29) (by decide) (by decide) ?_
    show Steps p.tables e below (T5.setTop (mkF m 37 #[.val (.int p1), .val (.int p2), .val (.int p3), .val (.int (own_rem (p1 &&& (2147483647 : Int32)) (3 : Int32))), .val (.ref w4), .unset, .unset] [])) _
    refine XS.iloadN X5.here hx rfl (hb hby at_37) rfl ?_
    show Steps p.tables e below (T5.setTop (mkF m 38 #[.val (.int p1), .val (.int p2), .val (.int p3), .val (.int (own_rem (p1 &&& (2147483647 : Int32)) (3 : Int32))), .val (.ref w4), .unset, .unset] [(.int p3)])) _
    refine XS.iconst X5.here hx rfl (hb hby at_38) ?_
    show Steps p.tables e below (T5.setTop (mkF m 39 #[.val (.int p1), .val (.int p2), .val (.int p3), .val (.int (own_rem (p1 &&& (2147483647 : Int32)) (3 : Int32))), .val (.ref w4), .unset, .unset] [(.int (1 : Int32)), (.int p3)])) _
    refine XS.iand X5.here hx rfl (hb hby at_39) rfl ?_
    show Steps p.tables e below (T5.setTop (mkF m 40 #[.val (.int p1), .val (.int p2), .val (.int p3), .val (.int (own_rem (p1 &&& (2147483647 : Int32)) (3 : Int32))), .val (.ref w4), .unset, .unset] [(.int (p3 &&& (1 : Int32)))])) _
    refine XS.ifNo X5.here hx rfl (hb hby at_40) rfl ((if0 _ _).trans (feq hc40).1) ?_
    show Steps p.tables e below (T5.setTop (mkF m 43 #[.val (.int p1), .val (.int p2), .val (.int p3), .val (.int (own_rem (p1 &&& (2147483647 : Int32)) (3 : Int32))), .val (.ref w4), .unset, .unset] [])) _
    refine XS.iloadN X5.here hx rfl (hb hby at_43) rfl ?_
    show Steps p.tables e below (T5.setTop (mkF m 44 #[.val (.int p1), .val (.int p2), .val (.int p3), .val (.int (own_rem (p1 &&& (2147483647 : Int32)) (3 : Int32))), .val (.ref w4), .unset, .unset] [(.int p2)])) _
    refine XS.istore X5.here hx rfl (hb hby at_44) rfl (l' := #[.val (.int p1), .val (.int p2), .val (.int p3), .val (.int (own_rem (p1 &&& (2147483647 : Int32)) (3 : Int32))), .val (.ref w4), .val (.int p2), .unset]) rfl ?_
    show Steps p.tables e below (T5.setTop (mkF m 46 #[.val (.int p1), .val (.int p2), .val (.int p3), .val (.int (own_rem (p1 &&& (2147483647 : Int32)) (3 : Int32))), .val (.ref w4), .val (.int p2), .unset] [])) _
    refine XS.goto X5.here hx rfl (pc0 := 46) (pc' := 57) rfl (hb hby at_46) (by decide) (by decide) ?_
    show Steps p.tables e below (T5.setTop (mkF m 57 #[.val (.int p1), .val (.int p2), .val (.int p3), .val (.int (own_rem (p1 &&& (2147483647 : Int32)) (3 : Int32))), .val (.ref w4), .val (.int p2), .unset] [])) _
    refine XS.iloadN X5.here hx rfl (hb hby at_57) rfl ?_
    show Steps p.tables e below (T5.setTop (mkF m 58 #[.val (.int p1), .val (.int p2), .val (.int p3), .val (.int (own_rem (p1 &&& (2147483647 : Int32)) (3 : Int32))), .val (.ref w4), .val (.int p2), .unset] [(.int (own_rem (p1 &&& (2147483647 : Int32)) (3 : Int32)))])) _
    refine XS.ifYes X5.here hx rfl (pc0 := 58) (pc' := 76) rfl (hb hby at_58) rfl ((if0 _ _).trans (feq hc58).2) (by decide) (by decide) ?_
    show Steps p.tables e below (T5.setTop (mkF m 76 #[.val (.int p1), .val (.int p2), .val (.int p3), .val (.int (own_rem (p1 &&& (2147483647 : Int32)) (3 : Int32))), .val (.ref w4), .val (.int p2), .unset] [])) _
    refine XS.iload X5.here hx rfl (hb hby at_76) rfl ?_
    show Steps p.tables e below (T5.setTop (mkF m 78 #[.val (.int p1), .val (.int p2), .val (.int p3), .val (.int (own_rem (p1 &&& (2147483647 : Int32)) (3 : Int32))), .val (.ref w4), .val (.int p2), .unset] [(.int p2)])) _
    refine XS.iconst X5.here hx rfl (hb hby at_78) ?_
    show Steps p.tables e below (T5.setTop (mkF m 79 #[.val (.int p1), .val (.int p2), .val (.int p3), .val (.int (own_rem (p1 &&& (2147483647 : Int32)) (3 : Int32))), .val (.ref w4), .val (.int p2), .unset] [(.int (1 : Int32)), (.int p2)])) _
    refine XS.icmpYes X5.here hx rfl (pc0 := 79) (pc' := 88) rfl (hb hby at_79) rfl (teq hc79).1 (by decide) (by decide) ?_
    show Steps p.tables e below (T5.setTop (mkF m 88 #[.val (.int p1), .val (.int p2), .val (.int p3), .val (.int (own_rem (p1 &&& (2147483647 : Int32)) (3 : Int32))), .val (.ref w4), .val (.int p2), .unset] [])) _
    refine XS.iconst X5.here hx rfl (hb hby at_88) ?_
    show Steps p.tables e below (T5.setTop (mkF m 89 #[.val (.int p1), .val (.int p2), .val (.int p3), .val (.int (own_rem (p1 &&& (2147483647 : Int32)) (3 : Int32))), .val (.ref w4), .val (.int p2), .unset] [(.int (1 : Int32))])) _
    refine XS.goto X5.here hx rfl (pc0 := 89) (pc' := 93) rfl (hb hby at_89) (by decide) (by decide) ?_
    show Steps p.tables e below (T5.setTop (mkF m 93 #[.val (.int p1), .val (.int p2), .val (.int p3), .val (.int (own_rem (p1 &&& (2147483647 : Int32)) (3 : Int32))), .val (.ref w4), .val (.int p2), .unset] [(.int (1 : Int32))])) _
    refine XS.istore X5.here hx rfl (hb hby at_93) rfl (l' := #[.val (.int p1), .val (.int p2), .val (.int p3), .val (.int (own_rem (p1 &&& (2147483647 : Int32)) (3 : Int32))), .val (.ref w4), .val (.int p2), .val (.int (1 : Int32))]) rfl ?_
    show Steps p.tables e below (T5.setTop (mkF m 95 #[.val (.int p1), .val (.int p2), .val (.int p3), .val (.int (own_rem (p1 &&& (2147483647 : Int32)) (3 : Int32))), .val (.ref w4), .val (.int p2), .val (.int (1 : Int32))] [])) _
    refine XS.aload X5.here hx rfl (hb hby at_95) rfl rfl ?_
    show Steps p.tables e below (T5.setTop (mkF m 97 #[.val (.int p1), .val (.int p2), .val (.int p3), .val (.int (own_rem (p1 &&& (2147483647 : Int32)) (3 : Int32))), .val (.ref w4), .val (.int p2), .val (.int (1 : Int32))] [(.ref w4)])) _
    refine XS.iload X5.here hx rfl (hb hby at_97) rfl ?_
    show Steps p.tables e below (T5.setTop (mkF m 99 #[.val (.int p1), .val (.int p2), .val (.int p3), .val (.int (own_rem (p1 &&& (2147483647 : Int32)) (3 : Int32))), .val (.ref w4), .val (.int p2), .val (.int (1 : Int32))] [(.int p2), (.ref w4)])) _
    refine st6.trans ?_
    show Steps p.tables e below (T6.setTop (mkF m 102 #[.val (.int p1), .val (.int p2), .val (.int p3), .val (.int (own_rem (p1 &&& (2147483647 : Int32)) (3 : Int32))), .val (.ref w4), .val (.int p2), .val (.int (1 : Int32))] [(.int (own_takes w4 wO p2))])) _
    refine XS.iload X6.here hx rfl (hb hby at_102) rfl ?_
    show Steps p.tables e below (T6.setTop (mkF m 104 #[.val (.int p1), .val (.int p2), .val (.int p3), .val (.int (own_rem (p1 &&& (2147483647 : Int32)) (3 : Int32))), .val (.ref w4), .val (.int p2), .val (.int (1 : Int32))] [(.int (1 : Int32)), (.int (own_takes w4 wO p2))])) _
    refine XS.icmpNo X6.here hx rfl (hb hby at_104) rfl (teq (hv : (own_takes w4 wO p2) = (1 : Int32))).2 ?_
    show Steps p.tables e below (T6.setTop (mkF m 107 #[.val (.int p1), .val (.int p2), .val (.int p3), .val (.int (own_rem (p1 &&& (2147483647 : Int32)) (3 : Int32))), .val (.ref w4), .val (.int p2), .val (.int (1 : Int32))] [])) _
    refine XS.iconst X6.here hx rfl (hb hby at_107) ?_
    show Steps p.tables e below (T6.setTop (mkF m 108 #[.val (.int p1), .val (.int p2), .val (.int p3), .val (.int (own_rem (p1 &&& (2147483647 : Int32)) (3 : Int32))), .val (.ref w4), .val (.int p2), .val (.int (1 : Int32))] [(.int (1 : Int32))])) _
    refine XS.goto X6.here hx rfl (pc0 := 108) (pc' := 112) rfl (hb hby at_108) (by decide) (by decide) ?_
    show Steps p.tables e below (T6.setTop (mkF m 112 #[.val (.int p1), .val (.int p2), .val (.int p3), .val (.int (own_rem (p1 &&& (2147483647 : Int32)) (3 : Int32))), .val (.ref w4), .val (.int p2), .val (.int (1 : Int32))] [(.int (1 : Int32))])) _
    exact retN X6 hx (t := .boolean) Bd.returns (by simp) (hb hby at_112) hr
  · show Ql (some (.int (1 : Int32))) n0 _ _
    exact ⟨rfl, N6⟩
set_option maxRecDepth 65536 in
set_option maxHeartbeats 40000000 in
theorem rm0_tfftfff (l : Launch) (Z : State) (a0 : Array Value) (hw : ∀ d ∈ tables_1, d.before a0 Z = true) (ws : List Jvm.Cond) (p1 : Int32) (p2 : Int32) (p3 : Int32) (w4 : Addr) (h0 : Heap) (n0 : Nat) (Z0 : n0 ≤ h0.size) (wO : Addr) (SO : Sta Z h0 "com/example/telegrid/telegrid/esp3/RepeaterMode" "OFF" "Lcom/example/telegrid/telegrid/esp3/RepeaterMode;" (.ref wO)) (hv : own_takes w4 wO p2 = 1) (S_ON : Sta Z h0 "com/example/telegrid/telegrid/esp3/RepeaterMode" "ON" "Lcom/example/telegrid/telegrid/esp3/RepeaterMode;" (.ref w4)) (E_w4 : Exa Z h0 w4 "com/example/telegrid/telegrid/esp3/RepeaterMode") (hc8 : ¬ ((own_rem (p1 &&& (2147483647 : Int32)) (3 : Int32)) = (0 : Int32))) (hc21 : (own_rem (p1 &&& (2147483647 : Int32)) (3 : Int32)) = (1 : Int32)) (hc40 : ¬ ((p3 &&& (1 : Int32)) = (0 : Int32))) (hc58 : ¬ ((own_rem (p1 &&& (2147483647 : Int32)) (3 : Int32)) = (0 : Int32))) (hc79 : ¬ (p2 = (1 : Int32))) (hc85 : p2 = (2 : Int32)) :
    MetFree l x (head1 (Jvm.Cond.code x code maxLocals ret :: ws) room_1) (fun a U => a = #[(.int p1), (.int p2), (.int p3)] ∧ Z.Warmed39 U.vm ∧ U.heap = h0) (fun _ _ _ _ _ => True) (fun _ U o U' => ∃ v L, o = .returned v ∧ Ql (some (.int (1 : Int32))) n0 v L ∧ FrameEnd U o U' L room_1.cells room_1.slots) := by
  refine MetFree.of_bodySF (plainFor_of_name pn_0) hisR ?_
  intro p e s m args below meth c s₁ Bd hml0 hP hK
  obtain ⟨rfl, hZ, hh⟩ := hP
  have hx := Bd.exec
  have hby := Bd.bytes
  have hml : c.maxLocals = 7 := hml0
  have hown : s.vm.findClass "com/example/telegrid/telegrid/esp3/RepeaterModeTakesPinLaw" = some m.cls := findClass_of_methodNamed Bd.named
  have hnm := (name_of_methodNamed Bd.named Bd.method).1
  have X0 : Stand p l e room_1 s m #[(.int p1), (.int p2), (.int p3)] below meth c s₁ [] 0 0 := Stand.of_body Bd
  have e0 : s₁.heap = h0 := by rw [← hh, Bd.state]; rfl
  have N0 := Fr.nil n0
  have pre0 : ∀ t, Steps p.tables e below (s₁.setTop (mkF m 0 #[.val (.int p1), .val (.int p2), .val (.int p3), .unset, .unset, .unset, .unset] [])) t → Steps p.tables e below (s₁.setTop (entryFrame m #[(.int p1), (.int p2), (.int p3)] maxLocals)) t := fun t k => castTop (ef_0 m p1 p2 p3) k
  -- 3. LAWS
  obtain ⟨T5, X5, e5, st5⟩ := getS2 X0 hx hZ hown (host := "") (Or.inl (hw _ (List.mem_of_getElem? (i := 10) rfl))) Via.refl e0 S_ON (g := (mkF m 24 #[.val (.int p1), .val (.int p2), .val (.int p3), .val (.int (own_rem (p1 &&& (2147483647 : Int32)) (3 : Int32))), .unset, .unset, .unset] [])) rfl (hb hby at_24)
  -- pc 99: com/example/telegrid/telegrid/esp3/RepeaterMode.takes by the contract of the body that the receiver's class selects, rm1
  obtain ⟨cq6, kq6, q6a, q6b, q6c⟩ := isOf hZ e5 E_w4
  obtain ⟨_, _, ⟨T6, L6, k6, n6⟩, -, X6, ⟨Lc6, hQ6, l6, y6, z6⟩, st6⟩ := X5.virtualBack hx (y := (⟨"com/example/telegrid/telegrid/esp3/RepeaterMode", "takes", "(I)Z"⟩ : MethodName)) (z := (⟨"com/example/telegrid/telegrid/esp3/RepeaterMode", "takes", "(I)Z"⟩ : MethodName)) hown (mvT hZ (hw _ (List.mem_of_getElem? (i := 4) rfl))) (mvT hZ (hw _ (List.mem_of_getElem? (i := 5) rfl))) (notFace_of_selects (args := #[]) (mvT hZ (hw _ (List.mem_of_getElem? (i := 7) rfl)))) (mvT hZ (hw _ (List.mem_of_getElem? (i := 7) rfl))) (mvT hZ (hw _ (List.mem_of_getElem? (i := 6) rfl))) (by decide) (backOf (W := 0) (rm1 l Z a0 hw [] w4 p2 wO h0 n0 Z0 SO) hZ (hw _ (List.mem_of_getElem? (i := 8) rfl)) (hw _ (List.mem_of_getElem? (i := 2) rfl)) (by decide) (by decide)) q6a q6c (g := (mkF m 99 #[.val (.int p1), .val (.int p2), .val (.int p3), .val (.int (own_rem (p1 &&& (2147483647 : Int32)) (3 : Int32))), .val (.ref w4), .val (.int p2), .val (.int (1 : Int32))] [(.int p2), (.ref w4)])) rfl (by rw [hml]; rfl) (Steps.refl _) (argsL := [(.int p2)]) (rest := []) (lenOf pd_0_0 rfl) rfl (by show 2 * 0 + _ ≤ _; exact Nat.le_of_eq rfl) (hb hby at_99) (fun _ _ => ⟨rfl, e5, (by decide : 0 + 0 ≤ _), (by decide : 0 + 0 ≤ _)⟩)
  dsimp only [Pt.U, Pt.locs, Pt.cells, Pt.slots] at X6 l6 y6 z6 st6 hQ6
  subst l6 y6 z6
  obtain ⟨rfl, N6q, e4⟩ := hQ6      -- what it returned, that it wrote nothing old, and the rest of your Q1
  have N6 := Fr.app N0 N6q
  obtain ⟨fs, hr, hrun, hended, hW, hsame⟩ := X6.leave (v := some (.int (1 : Int32))) (fun h => by rw [Bd.returns] at h; cases h)
  refine ⟨_, _, pre0 _ ?_, hrun, hended, _, _, rfl, ?_, ⟨_, rfl⟩, hW, hsame.mono (by decide) (by decide)⟩
  -- 4. STEPS
  · show Steps p.tables e below (s₁.setTop (mkF m 0 #[.val (.int p1), .val (.int p2), .val (.int p3), .unset, .unset, .unset, .unset] [])) _
    refine XS.iloadN X0.here hx rfl (hb hby at_0) rfl ?_
    show Steps p.tables e below (s₁.setTop (mkF m 1 #[.val (.int p1), .val (.int p2), .val (.int p3), .unset, .unset, .unset, .unset] [(.int p1)])) _
    refine X0.ldcInt hx hown (mvT hZ (hw _ (List.mem_of_getElem? (i := 0) rfl))) (g := (mkF m 1 #[.val (.int p1), .val (.int p2), .val (.int p3), .unset, .unset, .unset, .unset] [(.int p1)])) rfl (hb hby at_1) _ ?_
    show Steps p.tables e below (s₁.setTop (mkF m 3 #[.val (.int p1), .val (.int p2), .val (.int p3), .unset, .unset, .unset, .unset] [(.int (2147483647 : Int32)), (.int p1)])) _
    refine XS.iand X0.here hx rfl (hb hby at_3) rfl ?_
    show Steps p.tables e below (s₁.setTop (mkF m 4 #[.val (.int p1), .val (.int p2), .val (.int p3), .unset, .unset, .unset, .unset] [(.int (p1 &&& (2147483647 : Int32)))])) _
    refine XS.iconst X0.here hx rfl (hb hby at_4) ?_
    show Steps p.tables e below (s₁.setTop (mkF m 5 #[.val (.int p1), .val (.int p2), .val (.int p3), .unset, .unset, .unset, .unset] [(.int (3 : Int32)), (.int (p1 &&& (2147483647 : Int32)))])) _
    refine iremM X0 hx rfl (hb hby at_5) rfl (by decide) ?_
    show Steps p.tables e below (s₁.setTop (mkF m 6 #[.val (.int p1), .val (.int p2), .val (.int p3), .unset, .unset, .unset, .unset] [(.int (own_rem (p1 &&& (2147483647 : Int32)) (3 : Int32)))])) _
    refine XS.istoreN X0.here hx rfl (hb hby at_6) rfl (l' := #[.val (.int p1), .val (.int p2), .val (.int p3), .val (.int (own_rem (p1 &&& (2147483647 : Int32)) (3 : Int32))), .unset, .unset, .unset]) rfl ?_
    show Steps p.tables e below (s₁.setTop (mkF m 7 #[.val (.int p1), .val (.int p2), .val (.int p3), .val (.int (own_rem (p1 &&& (2147483647 : Int32)) (3 : Int32))), .unset, .unset, .unset] [])) _
    refine XS.iloadN X0.here hx rfl (hb hby at_7) rfl ?_
    show Steps p.tables e below (s₁.setTop (mkF m 8 #[.val (.int p1), .val (.int p2), .val (.int p3), .val (.int (own_rem (p1 &&& (2147483647 : Int32)) (3 : Int32))), .unset, .unset, .unset] [(.int (own_rem (p1 &&& (2147483647 : Int32)) (3 : Int32)))])) _
    refine XS.ifYes X0.here hx rfl (pc0 := 8) (pc' := 19) rfl (hb hby at_8) rfl ((if0 _ _).trans (feq hc8).2) (by decide) (by decide) ?_
    show Steps p.tables e below (s₁.setTop (mkF m 19 #[.val (.int p1), .val (.int p2), .val (.int p3), .val (.int (own_rem (p1 &&& (2147483647 : Int32)) (3 : Int32))), .unset, .unset, .unset] [])) _
    refine XS.iloadN X0.here hx rfl (hb hby at_19) rfl ?_
    show Steps p.tables e below (s₁.setTop (mkF m 20 #[.val (.int p1), .val (.int p2), .val (.int p3), .val (.int (own_rem (p1 &&& (2147483647 : Int32)) (3 : Int32))), .unset, .unset, .unset] [(.int (own_rem (p1 &&& (2147483647 : Int32)) (3 : Int32)))])) _
    refine XS.iconst X0.here hx rfl (hb hby at_20) ?_
    show Steps p.tables e below (s₁.setTop (mkF m 21 #[.val (.int p1), .val (.int p2), .val (.int p3), .val (.int (own_rem (p1 &&& (2147483647 : Int32)) (3 : Int32))), .unset, .unset, .unset] [(.int (1 : Int32)), (.int (own_rem (p1 &&& (2147483647 : Int32)) (3 : Int32)))])) _
    refine XS.icmpNo X0.here hx rfl (hb hby at_21) rfl (teq hc21).2 ?_
    show Steps p.tables e below (s₁.setTop (mkF m 24 #[.val (.int p1), .val (.int p2), .val (.int p3), .val (.int (own_rem (p1 &&& (2147483647 : Int32)) (3 : Int32))), .unset, .unset, .unset] [])) _
    refine st5 _ ?_
    show Steps p.tables e below (T5.setTop (mkF m 27 #[.val (.int p1), .val (.int p2), .val (.int p3), .val (.int (own_rem (p1 &&& (2147483647 : Int32)) (3 : Int32))), .unset, .unset, .unset] [(.ref w4)])) _
    refine XS.astore X5.here hx rfl (hb hby at_27) rfl rfl (l' := #[.val (.int p1), .val (.int p2), .val (.int p3), .val (.int (own_rem (p1 &&& (2147483647 : Int32)) (3 : Int32))), .val (.ref w4), .unset, .unset]) rfl ?_
    show Steps p.tables e below (T5.setTop (mkF m 29 #[.val (.int p1), .val (.int p2), .val (.int p3), .val (.int (own_rem (p1 &&& (2147483647 : Int32)) (3 : Int32))), .val (.ref w4), .unset, .unset] [])) _
    refine XS.goto X5.here hx rfl (pc0 := 29) (pc' := 37) rfl (hb hby at_29) (by decide) (by decide) ?_
    show Steps p.tables e below (T5.setTop (mkF m 37 #[.val (.int p1), .val (.int p2), .val (.int p3), .val (.int (own_rem (p1 &&& (2147483647 : Int32)) (3 : Int32))), .val (.ref w4), .unset, .unset] [])) _
    refine XS.iloadN X5.here hx rfl (hb hby at_37) rfl ?_
    show Steps p.tables e below (T5.setTop (mkF m 38 #[.val (.int p1), .val (.int p2), .val (.int p3), .val (.int (own_rem (p1 &&& (2147483647 : Int32)) (3 : Int32))), .val (.ref w4), .unset, .unset] [(.int p3)])) _
    refine XS.iconst X5.here hx rfl (hb hby at_38) ?_
    show Steps p.tables e below (T5.setTop (mkF m 39 #[.val (.int p1), .val (.int p2), .val (.int p3), .val (.int (own_rem (p1 &&& (2147483647 : Int32)) (3 : Int32))), .val (.ref w4), .unset, .unset] [(.int (1 : Int32)), (.int p3)])) _
    refine XS.iand X5.here hx rfl (hb hby at_39) rfl ?_
    show Steps p.tables e below (T5.setTop (mkF m 40 #[.val (.int p1), .val (.int p2), .val (.int p3), .val (.int (own_rem (p1 &&& (2147483647 : Int32)) (3 : Int32))), .val (.ref w4), .unset, .unset] [(.int (p3 &&& (1 : Int32)))])) _
    refine XS.ifNo X5.here hx rfl (hb hby at_40) rfl ((if0 _ _).trans (feq hc40).1) ?_
    show Steps p.tables e below (T5.setTop (mkF m 43 #[.val (.int p1), .val (.int p2), .val (.int p3), .val (.int (own_rem (p1 &&& (2147483647 : Int32)) (3 : Int32))), .val (.ref w4), .unset, .unset] [])) _
    refine XS.iloadN X5.here hx rfl (hb hby at_43) rfl ?_
    show Steps p.tables e below (T5.setTop (mkF m 44 #[.val (.int p1), .val (.int p2), .val (.int p3), .val (.int (own_rem (p1 &&& (2147483647 : Int32)) (3 : Int32))), .val (.ref w4), .unset, .unset] [(.int p2)])) _
    refine XS.istore X5.here hx rfl (hb hby at_44) rfl (l' := #[.val (.int p1), .val (.int p2), .val (.int p3), .val (.int (own_rem (p1 &&& (2147483647 : Int32)) (3 : Int32))), .val (.ref w4), .val (.int p2), .unset]) rfl ?_
    show Steps p.tables e below (T5.setTop (mkF m 46 #[.val (.int p1), .val (.int p2), .val (.int p3), .val (.int (own_rem (p1 &&& (2147483647 : Int32)) (3 : Int32))), .val (.ref w4), .val (.int p2), .unset] [])) _
    refine XS.goto X5.here hx rfl (pc0 := 46) (pc' := 57) rfl (hb hby at_46) (by decide) (by decide) ?_
    show Steps p.tables e below (T5.setTop (mkF m 57 #[.val (.int p1), .val (.int p2), .val (.int p3), .val (.int (own_rem (p1 &&& (2147483647 : Int32)) (3 : Int32))), .val (.ref w4), .val (.int p2), .unset] [])) _
    refine XS.iloadN X5.here hx rfl (hb hby at_57) rfl ?_
    show Steps p.tables e below (T5.setTop (mkF m 58 #[.val (.int p1), .val (.int p2), .val (.int p3), .val (.int (own_rem (p1 &&& (2147483647 : Int32)) (3 : Int32))), .val (.ref w4), .val (.int p2), .unset] [(.int (own_rem (p1 &&& (2147483647 : Int32)) (3 : Int32)))])) _
    refine XS.ifYes X5.here hx rfl (pc0 := 58) (pc' := 76) rfl (hb hby at_58) rfl ((if0 _ _).trans (feq hc58).2) (by decide) (by decide) ?_
    show Steps p.tables e below (T5.setTop (mkF m 76 #[.val (.int p1), .val (.int p2), .val (.int p3), .val (.int (own_rem (p1 &&& (2147483647 : Int32)) (3 : Int32))), .val (.ref w4), .val (.int p2), .unset] [])) _
    refine XS.iload X5.here hx rfl (hb hby at_76) rfl ?_
    show Steps p.tables e below (T5.setTop (mkF m 78 #[.val (.int p1), .val (.int p2), .val (.int p3), .val (.int (own_rem (p1 &&& (2147483647 : Int32)) (3 : Int32))), .val (.ref w4), .val (.int p2), .unset] [(.int p2)])) _
    refine XS.iconst X5.here hx rfl (hb hby at_78) ?_
    show Steps p.tables e below (T5.setTop (mkF m 79 #[.val (.int p1), .val (.int p2), .val (.int p3), .val (.int (own_rem (p1 &&& (2147483647 : Int32)) (3 : Int32))), .val (.ref w4), .val (.int p2), .unset] [(.int (1 : Int32)), (.int p2)])) _
    refine XS.icmpNo X5.here hx rfl (hb hby at_79) rfl (feq hc79).1 ?_
    show Steps p.tables e below (T5.setTop (mkF m 82 #[.val (.int p1), .val (.int p2), .val (.int p3), .val (.int (own_rem (p1 &&& (2147483647 : Int32)) (3 : Int32))), .val (.ref w4), .val (.int p2), .unset] [])) _
    refine XS.iload X5.here hx rfl (hb hby at_82) rfl ?_
    show Steps p.tables e below (T5.setTop (mkF m 84 #[.val (.int p1), .val (.int p2), .val (.int p3), .val (.int (own_rem (p1 &&& (2147483647 : Int32)) (3 : Int32))), .val (.ref w4), .val (.int p2), .unset] [(.int p2)])) _
    refine XS.iconst X5.here hx rfl (hb hby at_84) ?_
    show Steps p.tables e below (T5.setTop (mkF m 85 #[.val (.int p1), .val (.int p2), .val (.int p3), .val (.int (own_rem (p1 &&& (2147483647 : Int32)) (3 : Int32))), .val (.ref w4), .val (.int p2), .unset] [(.int (2 : Int32)), (.int p2)])) _
    refine XS.icmpNo X5.here hx rfl (hb hby at_85) rfl (teq hc85).2 ?_
    show Steps p.tables e below (T5.setTop (mkF m 88 #[.val (.int p1), .val (.int p2), .val (.int p3), .val (.int (own_rem (p1 &&& (2147483647 : Int32)) (3 : Int32))), .val (.ref w4), .val (.int p2), .unset] [])) _
    refine XS.iconst X5.here hx rfl (hb hby at_88) ?_
    show Steps p.tables e below (T5.setTop (mkF m 89 #[.val (.int p1), .val (.int p2), .val (.int p3), .val (.int (own_rem (p1 &&& (2147483647 : Int32)) (3 : Int32))), .val (.ref w4), .val (.int p2), .unset] [(.int (1 : Int32))])) _
    refine XS.goto X5.here hx rfl (pc0 := 89) (pc' := 93) rfl (hb hby at_89) (by decide) (by decide) ?_
    show Steps p.tables e below (T5.setTop (mkF m 93 #[.val (.int p1), .val (.int p2), .val (.int p3), .val (.int (own_rem (p1 &&& (2147483647 : Int32)) (3 : Int32))), .val (.ref w4), .val (.int p2), .unset] [(.int (1 : Int32))])) _
    refine XS.istore X5.here hx rfl (hb hby at_93) rfl (l' := #[.val (.int p1), .val (.int p2), .val (.int p3), .val (.int (own_rem (p1 &&& (2147483647 : Int32)) (3 : Int32))), .val (.ref w4), .val (.int p2), .val (.int (1 : Int32))]) rfl ?_
    show Steps p.tables e below (T5.setTop (mkF m 95 #[.val (.int p1), .val (.int p2), .val (.int p3), .val (.int (own_rem (p1 &&& (2147483647 : Int32)) (3 : Int32))), .val (.ref w4), .val (.int p2), .val (.int (1 : Int32))] [])) _
    refine XS.aload X5.here hx rfl (hb hby at_95) rfl rfl ?_
    show Steps p.tables e below (T5.setTop (mkF m 97 #[.val (.int p1), .val (.int p2), .val (.int p3), .val (.int (own_rem (p1 &&& (2147483647 : Int32)) (3 : Int32))), .val (.ref w4), .val (.int p2), .val (.int (1 : Int32))] [(.ref w4)])) _
    refine XS.iload X5.here hx rfl (hb hby at_97) rfl ?_
    show Steps p.tables e below (T5.setTop (mkF m 99 #[.val (.int p1), .val (.int p2), .val (.int p3), .val (.int (own_rem (p1 &&& (2147483647 : Int32)) (3 : Int32))), .val (.ref w4), .val (.int p2), .val (.int (1 : Int32))] [(.int p2), (.ref w4)])) _
    refine st6.trans ?_
    show Steps p.tables e below (T6.setTop (mkF m 102 #[.val (.int p1), .val (.int p2), .val (.int p3), .val (.int (own_rem (p1 &&& (2147483647 : Int32)) (3 : Int32))), .val (.ref w4), .val (.int p2), .val (.int (1 : Int32))] [(.int (own_takes w4 wO p2))])) _
    refine XS.iload X6.here hx rfl (hb hby at_102) rfl ?_
    show Steps p.tables e below (T6.setTop (mkF m 104 #[.val (.int p1), .val (.int p2), .val (.int p3), .val (.int (own_rem (p1 &&& (2147483647 : Int32)) (3 : Int32))), .val (.ref w4), .val (.int p2), .val (.int (1 : Int32))] [(.int (1 : Int32)), (.int (own_takes w4 wO p2))])) _
    refine XS.icmpNo X6.here hx rfl (hb hby at_104) rfl (teq (hv : (own_takes w4 wO p2) = (1 : Int32))).2 ?_
    show Steps p.tables e below (T6.setTop (mkF m 107 #[.val (.int p1), .val (.int p2), .val (.int p3), .val (.int (own_rem (p1 &&& (2147483647 : Int32)) (3 : Int32))), .val (.ref w4), .val (.int p2), .val (.int (1 : Int32))] [])) _
    refine XS.iconst X6.here hx rfl (hb hby at_107) ?_
    show Steps p.tables e below (T6.setTop (mkF m 108 #[.val (.int p1), .val (.int p2), .val (.int p3), .val (.int (own_rem (p1 &&& (2147483647 : Int32)) (3 : Int32))), .val (.ref w4), .val (.int p2), .val (.int (1 : Int32))] [(.int (1 : Int32))])) _
    refine XS.goto X6.here hx rfl (pc0 := 108) (pc' := 112) rfl (hb hby at_108) (by decide) (by decide) ?_
    show Steps p.tables e below (T6.setTop (mkF m 112 #[.val (.int p1), .val (.int p2), .val (.int p3), .val (.int (own_rem (p1 &&& (2147483647 : Int32)) (3 : Int32))), .val (.ref w4), .val (.int p2), .val (.int (1 : Int32))] [(.int (1 : Int32))])) _
    exact retN X6 hx (t := .boolean) Bd.returns (by simp) (hb hby at_112) hr
  · show Ql (some (.int (1 : Int32))) n0 _ _
    exact ⟨rfl, N6⟩
set_option maxRecDepth 65536 in
set_option maxHeartbeats 40000000 in
theorem rm0_tfftftf (l : Launch) (Z : State) (a0 : Array Value) (hw : ∀ d ∈ tables_1, d.before a0 Z = true) (ws : List Jvm.Cond) (p1 : Int32) (p2 : Int32) (p3 : Int32) (w4 : Addr) (h0 : Heap) (n0 : Nat) (Z0 : n0 ≤ h0.size) (wO : Addr) (SO : Sta Z h0 "com/example/telegrid/telegrid/esp3/RepeaterMode" "OFF" "Lcom/example/telegrid/telegrid/esp3/RepeaterMode;" (.ref wO)) (hv : own_takes w4 wO p2 = 0) (S_ON : Sta Z h0 "com/example/telegrid/telegrid/esp3/RepeaterMode" "ON" "Lcom/example/telegrid/telegrid/esp3/RepeaterMode;" (.ref w4)) (E_w4 : Exa Z h0 w4 "com/example/telegrid/telegrid/esp3/RepeaterMode") (hc8 : ¬ ((own_rem (p1 &&& (2147483647 : Int32)) (3 : Int32)) = (0 : Int32))) (hc21 : (own_rem (p1 &&& (2147483647 : Int32)) (3 : Int32)) = (1 : Int32)) (hc40 : ¬ ((p3 &&& (1 : Int32)) = (0 : Int32))) (hc58 : ¬ ((own_rem (p1 &&& (2147483647 : Int32)) (3 : Int32)) = (0 : Int32))) (hc79 : ¬ (p2 = (1 : Int32))) (hc85 : ¬ (p2 = (2 : Int32))) :
    MetFree l x (head1 (Jvm.Cond.code x code maxLocals ret :: ws) room_1) (fun a U => a = #[(.int p1), (.int p2), (.int p3)] ∧ Z.Warmed39 U.vm ∧ U.heap = h0) (fun _ _ _ _ _ => True) (fun _ U o U' => ∃ v L, o = .returned v ∧ Ql (some (.int (1 : Int32))) n0 v L ∧ FrameEnd U o U' L room_1.cells room_1.slots) := by
  refine MetFree.of_bodySF (plainFor_of_name pn_0) hisR ?_
  intro p e s m args below meth c s₁ Bd hml0 hP hK
  obtain ⟨rfl, hZ, hh⟩ := hP
  have hx := Bd.exec
  have hby := Bd.bytes
  have hml : c.maxLocals = 7 := hml0
  have hown : s.vm.findClass "com/example/telegrid/telegrid/esp3/RepeaterModeTakesPinLaw" = some m.cls := findClass_of_methodNamed Bd.named
  have hnm := (name_of_methodNamed Bd.named Bd.method).1
  have X0 : Stand p l e room_1 s m #[(.int p1), (.int p2), (.int p3)] below meth c s₁ [] 0 0 := Stand.of_body Bd
  have e0 : s₁.heap = h0 := by rw [← hh, Bd.state]; rfl
  have N0 := Fr.nil n0
  have pre0 : ∀ t, Steps p.tables e below (s₁.setTop (mkF m 0 #[.val (.int p1), .val (.int p2), .val (.int p3), .unset, .unset, .unset, .unset] [])) t → Steps p.tables e below (s₁.setTop (entryFrame m #[(.int p1), (.int p2), (.int p3)] maxLocals)) t := fun t k => castTop (ef_0 m p1 p2 p3) k
  -- 3. LAWS
  obtain ⟨T5, X5, e5, st5⟩ := getS2 X0 hx hZ hown (host := "") (Or.inl (hw _ (List.mem_of_getElem? (i := 10) rfl))) Via.refl e0 S_ON (g := (mkF m 24 #[.val (.int p1), .val (.int p2), .val (.int p3), .val (.int (own_rem (p1 &&& (2147483647 : Int32)) (3 : Int32))), .unset, .unset, .unset] [])) rfl (hb hby at_24)
  -- pc 99: com/example/telegrid/telegrid/esp3/RepeaterMode.takes by the contract of the body that the receiver's class selects, rm1
  obtain ⟨cq6, kq6, q6a, q6b, q6c⟩ := isOf hZ e5 E_w4
  obtain ⟨_, _, ⟨T6, L6, k6, n6⟩, -, X6, ⟨Lc6, hQ6, l6, y6, z6⟩, st6⟩ := X5.virtualBack hx (y := (⟨"com/example/telegrid/telegrid/esp3/RepeaterMode", "takes", "(I)Z"⟩ : MethodName)) (z := (⟨"com/example/telegrid/telegrid/esp3/RepeaterMode", "takes", "(I)Z"⟩ : MethodName)) hown (mvT hZ (hw _ (List.mem_of_getElem? (i := 4) rfl))) (mvT hZ (hw _ (List.mem_of_getElem? (i := 5) rfl))) (notFace_of_selects (args := #[]) (mvT hZ (hw _ (List.mem_of_getElem? (i := 7) rfl)))) (mvT hZ (hw _ (List.mem_of_getElem? (i := 7) rfl))) (mvT hZ (hw _ (List.mem_of_getElem? (i := 6) rfl))) (by decide) (backOf (W := 0) (rm1 l Z a0 hw [] w4 p2 wO h0 n0 Z0 SO) hZ (hw _ (List.mem_of_getElem? (i := 8) rfl)) (hw _ (List.mem_of_getElem? (i := 2) rfl)) (by decide) (by decide)) q6a q6c (g := (mkF m 99 #[.val (.int p1), .val (.int p2), .val (.int p3), .val (.int (own_rem (p1 &&& (2147483647 : Int32)) (3 : Int32))), .val (.ref w4), .val (.int p2), .val (.int (0 : Int32))] [(.int p2), (.ref w4)])) rfl (by rw [hml]; rfl) (Steps.refl _) (argsL := [(.int p2)]) (rest := []) (lenOf pd_0_0 rfl) rfl (by show 2 * 0 + _ ≤ _; exact Nat.le_of_eq rfl) (hb hby at_99) (fun _ _ => ⟨rfl, e5, (by decide : 0 + 0 ≤ _), (by decide : 0 + 0 ≤ _)⟩)
  dsimp only [Pt.U, Pt.locs, Pt.cells, Pt.slots] at X6 l6 y6 z6 st6 hQ6
  subst l6 y6 z6
  obtain ⟨rfl, N6q, e4⟩ := hQ6      -- what it returned, that it wrote nothing old, and the rest of your Q1
  have N6 := Fr.app N0 N6q
  obtain ⟨fs, hr, hrun, hended, hW, hsame⟩ := X6.leave (v := some (.int (1 : Int32))) (fun h => by rw [Bd.returns] at h; cases h)
  refine ⟨_, _, pre0 _ ?_, hrun, hended, _, _, rfl, ?_, ⟨_, rfl⟩, hW, hsame.mono (by decide) (by decide)⟩
  -- 4. STEPS
  · show Steps p.tables e below (s₁.setTop (mkF m 0 #[.val (.int p1), .val (.int p2), .val (.int p3), .unset, .unset, .unset, .unset] [])) _
    refine XS.iloadN X0.here hx rfl (hb hby at_0) rfl ?_
    show Steps p.tables e below (s₁.setTop (mkF m 1 #[.val (.int p1), .val (.int p2), .val (.int p3), .unset, .unset, .unset, .unset] [(.int p1)])) _
    refine X0.ldcInt hx hown (mvT hZ (hw _ (List.mem_of_getElem? (i := 0) rfl))) (g := (mkF m 1 #[.val (.int p1), .val (.int p2), .val (.int p3), .unset, .unset, .unset, .unset] [(.int p1)])) rfl (hb hby at_1) _ ?_
    show Steps p.tables e below (s₁.setTop (mkF m 3 #[.val (.int p1), .val (.int p2), .val (.int p3), .unset, .unset, .unset, .unset] [(.int (2147483647 : Int32)), (.int p1)])) _
    refine XS.iand X0.here hx rfl (hb hby at_3) rfl ?_
    show Steps p.tables e below (s₁.setTop (mkF m 4 #[.val (.int p1), .val (.int p2), .val (.int p3), .unset, .unset, .unset, .unset] [(.int (p1 &&& (2147483647 : Int32)))])) _
    refine XS.iconst X0.here hx rfl (hb hby at_4) ?_
    show Steps p.tables e below (s₁.setTop (mkF m 5 #[.val (.int p1), .val (.int p2), .val (.int p3), .unset, .unset, .unset, .unset] [(.int (3 : Int32)), (.int (p1 &&& (2147483647 : Int32)))])) _
    refine iremM X0 hx rfl (hb hby at_5) rfl (by decide) ?_
    show Steps p.tables e below (s₁.setTop (mkF m 6 #[.val (.int p1), .val (.int p2), .val (.int p3), .unset, .unset, .unset, .unset] [(.int (own_rem (p1 &&& (2147483647 : Int32)) (3 : Int32)))])) _
    refine XS.istoreN X0.here hx rfl (hb hby at_6) rfl (l' := #[.val (.int p1), .val (.int p2), .val (.int p3), .val (.int (own_rem (p1 &&& (2147483647 : Int32)) (3 : Int32))), .unset, .unset, .unset]) rfl ?_
    show Steps p.tables e below (s₁.setTop (mkF m 7 #[.val (.int p1), .val (.int p2), .val (.int p3), .val (.int (own_rem (p1 &&& (2147483647 : Int32)) (3 : Int32))), .unset, .unset, .unset] [])) _
    refine XS.iloadN X0.here hx rfl (hb hby at_7) rfl ?_
    show Steps p.tables e below (s₁.setTop (mkF m 8 #[.val (.int p1), .val (.int p2), .val (.int p3), .val (.int (own_rem (p1 &&& (2147483647 : Int32)) (3 : Int32))), .unset, .unset, .unset] [(.int (own_rem (p1 &&& (2147483647 : Int32)) (3 : Int32)))])) _
    refine XS.ifYes X0.here hx rfl (pc0 := 8) (pc' := 19) rfl (hb hby at_8) rfl ((if0 _ _).trans (feq hc8).2) (by decide) (by decide) ?_
    show Steps p.tables e below (s₁.setTop (mkF m 19 #[.val (.int p1), .val (.int p2), .val (.int p3), .val (.int (own_rem (p1 &&& (2147483647 : Int32)) (3 : Int32))), .unset, .unset, .unset] [])) _
    refine XS.iloadN X0.here hx rfl (hb hby at_19) rfl ?_
    show Steps p.tables e below (s₁.setTop (mkF m 20 #[.val (.int p1), .val (.int p2), .val (.int p3), .val (.int (own_rem (p1 &&& (2147483647 : Int32)) (3 : Int32))), .unset, .unset, .unset] [(.int (own_rem (p1 &&& (2147483647 : Int32)) (3 : Int32)))])) _
    refine XS.iconst X0.here hx rfl (hb hby at_20) ?_
    show Steps p.tables e below (s₁.setTop (mkF m 21 #[.val (.int p1), .val (.int p2), .val (.int p3), .val (.int (own_rem (p1 &&& (2147483647 : Int32)) (3 : Int32))), .unset, .unset, .unset] [(.int (1 : Int32)), (.int (own_rem (p1 &&& (2147483647 : Int32)) (3 : Int32)))])) _
    refine XS.icmpNo X0.here hx rfl (hb hby at_21) rfl (teq hc21).2 ?_
    show Steps p.tables e below (s₁.setTop (mkF m 24 #[.val (.int p1), .val (.int p2), .val (.int p3), .val (.int (own_rem (p1 &&& (2147483647 : Int32)) (3 : Int32))), .unset, .unset, .unset] [])) _
    refine st5 _ ?_
    show Steps p.tables e below (T5.setTop (mkF m 27 #[.val (.int p1), .val (.int p2), .val (.int p3), .val (.int (own_rem (p1 &&& (2147483647 : Int32)) (3 : Int32))), .unset, .unset, .unset] [(.ref w4)])) _
    refine XS.astore X5.here hx rfl (hb hby at_27) rfl rfl (l' := #[.val (.int p1), .val (.int p2), .val (.int p3), .val (.int (own_rem (p1 &&& (2147483647 : Int32)) (3 : Int32))), .val (.ref w4), .unset, .unset]) rfl ?_
    show Steps p.tables e below (T5.setTop (mkF m 29 #[.val (.int p1), .val (.int p2), .val (.int p3), .val (.int (own_rem (p1 &&& (2147483647 : Int32)) (3 : Int32))), .val (.ref w4), .unset, .unset] [])) _
    refine XS.goto X5.here hx rfl (pc0 := 29) (pc' := 37) rfl (hb hby at_29) (by decide) (by decide) ?_
    show Steps p.tables e below (T5.setTop (mkF m 37 #[.val (.int p1), .val (.int p2), .val (.int p3), .val (.int (own_rem (p1 &&& (2147483647 : Int32)) (3 : Int32))), .val (.ref w4), .unset, .unset] [])) _
    refine XS.iloadN X5.here hx rfl (hb hby at_37) rfl ?_
    show Steps p.tables e below (T5.setTop (mkF m 38 #[.val (.int p1), .val (.int p2), .val (.int p3), .val (.int (own_rem (p1 &&& (2147483647 : Int32)) (3 : Int32))), .val (.ref w4), .unset, .unset] [(.int p3)])) _
    refine XS.iconst X5.here hx rfl (hb hby at_38) ?_
    show Steps p.tables e below (T5.setTop (mkF m 39 #[.val (.int p1), .val (.int p2), .val (.int p3), .val (.int (own_rem (p1 &&& (2147483647 : Int32)) (3 : Int32))), .val (.ref w4), .unset, .unset] [(.int (1 : Int32)), (.int p3)])) _
    refine XS.iand X5.here hx rfl (hb hby at_39) rfl ?_
    show Steps p.tables e below (T5.setTop (mkF m 40 #[.val (.int p1), .val (.int p2), .val (.int p3), .val (.int (own_rem (p1 &&& (2147483647 : Int32)) (3 : Int32))), .val (.ref w4), .unset, .unset] [(.int (p3 &&& (1 : Int32)))])) _
    refine XS.ifNo X5.here hx rfl (hb hby at_40) rfl ((if0 _ _).trans (feq hc40).1) ?_
    show Steps p.tables e below (T5.setTop (mkF m 43 #[.val (.int p1), .val (.int p2), .val (.int p3), .val (.int (own_rem (p1 &&& (2147483647 : Int32)) (3 : Int32))), .val (.ref w4), .unset, .unset] [])) _
    refine XS.iloadN X5.here hx rfl (hb hby at_43) rfl ?_
    show Steps p.tables e below (T5.setTop (mkF m 44 #[.val (.int p1), .val (.int p2), .val (.int p3), .val (.int (own_rem (p1 &&& (2147483647 : Int32)) (3 : Int32))), .val (.ref w4), .unset, .unset] [(.int p2)])) _
    refine XS.istore X5.here hx rfl (hb hby at_44) rfl (l' := #[.val (.int p1), .val (.int p2), .val (.int p3), .val (.int (own_rem (p1 &&& (2147483647 : Int32)) (3 : Int32))), .val (.ref w4), .val (.int p2), .unset]) rfl ?_
    show Steps p.tables e below (T5.setTop (mkF m 46 #[.val (.int p1), .val (.int p2), .val (.int p3), .val (.int (own_rem (p1 &&& (2147483647 : Int32)) (3 : Int32))), .val (.ref w4), .val (.int p2), .unset] [])) _
    refine XS.goto X5.here hx rfl (pc0 := 46) (pc' := 57) rfl (hb hby at_46) (by decide) (by decide) ?_
    show Steps p.tables e below (T5.setTop (mkF m 57 #[.val (.int p1), .val (.int p2), .val (.int p3), .val (.int (own_rem (p1 &&& (2147483647 : Int32)) (3 : Int32))), .val (.ref w4), .val (.int p2), .unset] [])) _
    refine XS.iloadN X5.here hx rfl (hb hby at_57) rfl ?_
    show Steps p.tables e below (T5.setTop (mkF m 58 #[.val (.int p1), .val (.int p2), .val (.int p3), .val (.int (own_rem (p1 &&& (2147483647 : Int32)) (3 : Int32))), .val (.ref w4), .val (.int p2), .unset] [(.int (own_rem (p1 &&& (2147483647 : Int32)) (3 : Int32)))])) _
    refine XS.ifYes X5.here hx rfl (pc0 := 58) (pc' := 76) rfl (hb hby at_58) rfl ((if0 _ _).trans (feq hc58).2) (by decide) (by decide) ?_
    show Steps p.tables e below (T5.setTop (mkF m 76 #[.val (.int p1), .val (.int p2), .val (.int p3), .val (.int (own_rem (p1 &&& (2147483647 : Int32)) (3 : Int32))), .val (.ref w4), .val (.int p2), .unset] [])) _
    refine XS.iload X5.here hx rfl (hb hby at_76) rfl ?_
    show Steps p.tables e below (T5.setTop (mkF m 78 #[.val (.int p1), .val (.int p2), .val (.int p3), .val (.int (own_rem (p1 &&& (2147483647 : Int32)) (3 : Int32))), .val (.ref w4), .val (.int p2), .unset] [(.int p2)])) _
    refine XS.iconst X5.here hx rfl (hb hby at_78) ?_
    show Steps p.tables e below (T5.setTop (mkF m 79 #[.val (.int p1), .val (.int p2), .val (.int p3), .val (.int (own_rem (p1 &&& (2147483647 : Int32)) (3 : Int32))), .val (.ref w4), .val (.int p2), .unset] [(.int (1 : Int32)), (.int p2)])) _
    refine XS.icmpNo X5.here hx rfl (hb hby at_79) rfl (feq hc79).1 ?_
    show Steps p.tables e below (T5.setTop (mkF m 82 #[.val (.int p1), .val (.int p2), .val (.int p3), .val (.int (own_rem (p1 &&& (2147483647 : Int32)) (3 : Int32))), .val (.ref w4), .val (.int p2), .unset] [])) _
    refine XS.iload X5.here hx rfl (hb hby at_82) rfl ?_
    show Steps p.tables e below (T5.setTop (mkF m 84 #[.val (.int p1), .val (.int p2), .val (.int p3), .val (.int (own_rem (p1 &&& (2147483647 : Int32)) (3 : Int32))), .val (.ref w4), .val (.int p2), .unset] [(.int p2)])) _
    refine XS.iconst X5.here hx rfl (hb hby at_84) ?_
    show Steps p.tables e below (T5.setTop (mkF m 85 #[.val (.int p1), .val (.int p2), .val (.int p3), .val (.int (own_rem (p1 &&& (2147483647 : Int32)) (3 : Int32))), .val (.ref w4), .val (.int p2), .unset] [(.int (2 : Int32)), (.int p2)])) _
    refine XS.icmpYes X5.here hx rfl (pc0 := 85) (pc' := 92) rfl (hb hby at_85) rfl (feq hc85).2 (by decide) (by decide) ?_
    show Steps p.tables e below (T5.setTop (mkF m 92 #[.val (.int p1), .val (.int p2), .val (.int p3), .val (.int (own_rem (p1 &&& (2147483647 : Int32)) (3 : Int32))), .val (.ref w4), .val (.int p2), .unset] [])) _
    refine XS.iconst X5.here hx rfl (hb hby at_92) ?_
    show Steps p.tables e below (T5.setTop (mkF m 93 #[.val (.int p1), .val (.int p2), .val (.int p3), .val (.int (own_rem (p1 &&& (2147483647 : Int32)) (3 : Int32))), .val (.ref w4), .val (.int p2), .unset] [(.int (0 : Int32))])) _
    refine XS.istore X5.here hx rfl (hb hby at_93) rfl (l' := #[.val (.int p1), .val (.int p2), .val (.int p3), .val (.int (own_rem (p1 &&& (2147483647 : Int32)) (3 : Int32))), .val (.ref w4), .val (.int p2), .val (.int (0 : Int32))]) rfl ?_
    show Steps p.tables e below (T5.setTop (mkF m 95 #[.val (.int p1), .val (.int p2), .val (.int p3), .val (.int (own_rem (p1 &&& (2147483647 : Int32)) (3 : Int32))), .val (.ref w4), .val (.int p2), .val (.int (0 : Int32))] [])) _
    refine XS.aload X5.here hx rfl (hb hby at_95) rfl rfl ?_
    show Steps p.tables e below (T5.setTop (mkF m 97 #[.val (.int p1), .val (.int p2), .val (.int p3), .val (.int (own_rem (p1 &&& (2147483647 : Int32)) (3 : Int32))), .val (.ref w4), .val (.int p2), .val (.int (0 : Int32))] [(.ref w4)])) _
    refine XS.iload X5.here hx rfl (hb hby at_97) rfl ?_
    show Steps p.tables e below (T5.setTop (mkF m 99 #[.val (.int p1), .val (.int p2), .val (.int p3), .val (.int (own_rem (p1 &&& (2147483647 : Int32)) (3 : Int32))), .val (.ref w4), .val (.int p2), .val (.int (0 : Int32))] [(.int p2), (.ref w4)])) _
    refine st6.trans ?_
    show Steps p.tables e below (T6.setTop (mkF m 102 #[.val (.int p1), .val (.int p2), .val (.int p3), .val (.int (own_rem (p1 &&& (2147483647 : Int32)) (3 : Int32))), .val (.ref w4), .val (.int p2), .val (.int (0 : Int32))] [(.int (own_takes w4 wO p2))])) _
    refine XS.iload X6.here hx rfl (hb hby at_102) rfl ?_
    show Steps p.tables e below (T6.setTop (mkF m 104 #[.val (.int p1), .val (.int p2), .val (.int p3), .val (.int (own_rem (p1 &&& (2147483647 : Int32)) (3 : Int32))), .val (.ref w4), .val (.int p2), .val (.int (0 : Int32))] [(.int (0 : Int32)), (.int (own_takes w4 wO p2))])) _
    refine XS.icmpNo X6.here hx rfl (hb hby at_104) rfl (teq (hv : (own_takes w4 wO p2) = (0 : Int32))).2 ?_
    show Steps p.tables e below (T6.setTop (mkF m 107 #[.val (.int p1), .val (.int p2), .val (.int p3), .val (.int (own_rem (p1 &&& (2147483647 : Int32)) (3 : Int32))), .val (.ref w4), .val (.int p2), .val (.int (0 : Int32))] [])) _
    refine XS.iconst X6.here hx rfl (hb hby at_107) ?_
    show Steps p.tables e below (T6.setTop (mkF m 108 #[.val (.int p1), .val (.int p2), .val (.int p3), .val (.int (own_rem (p1 &&& (2147483647 : Int32)) (3 : Int32))), .val (.ref w4), .val (.int p2), .val (.int (0 : Int32))] [(.int (1 : Int32))])) _
    refine XS.goto X6.here hx rfl (pc0 := 108) (pc' := 112) rfl (hb hby at_108) (by decide) (by decide) ?_
    show Steps p.tables e below (T6.setTop (mkF m 112 #[.val (.int p1), .val (.int p2), .val (.int p3), .val (.int (own_rem (p1 &&& (2147483647 : Int32)) (3 : Int32))), .val (.ref w4), .val (.int p2), .val (.int (0 : Int32))] [(.int (1 : Int32))])) _
    exact retN X6 hx (t := .boolean) Bd.returns (by simp) (hb hby at_112) hr
  · show Ql (some (.int (1 : Int32))) n0 _ _
    exact ⟨rfl, N6⟩
set_option maxRecDepth 65536 in
set_option maxHeartbeats 40000000 in
theorem rm0_tttttf (l : Launch) (Z : State) (a0 : Array Value) (hw : ∀ d ∈ tables_1, d.before a0 Z = true) (ws : List Jvm.Cond) (p1 : Int32) (p2 : Int32) (p3 : Int32) (w4 : Addr) (h0 : Heap) (n0 : Nat) (Z0 : n0 ≤ h0.size) (wO : Addr) (SO : Sta Z h0 "com/example/telegrid/telegrid/esp3/RepeaterMode" "OFF" "Lcom/example/telegrid/telegrid/esp3/RepeaterMode;" (.ref wO)) (hv : own_takes w4 wO ((p2 &&& (7 : Int32)) - (2 : Int32)) = 1) (S_SELECTIVE : Sta Z h0 "com/example/telegrid/telegrid/esp3/RepeaterMode" "SELECTIVE" "Lcom/example/telegrid/telegrid/esp3/RepeaterMode;" (.ref w4)) (E_w4 : Exa Z h0 w4 "com/example/telegrid/telegrid/esp3/RepeaterMode") (hc8 : ¬ ((own_rem (p1 &&& (2147483647 : Int32)) (3 : Int32)) = (0 : Int32))) (hc21 : ¬ ((own_rem (p1 &&& (2147483647 : Int32)) (3 : Int32)) = (1 : Int32))) (hc40 : (p3 &&& (1 : Int32)) = (0 : Int32)) (hc58 : ¬ ((own_rem (p1 &&& (2147483647 : Int32)) (3 : Int32)) = (0 : Int32))) (hc79 : ((p2 &&& (7 : Int32)) - (2 : Int32)) = (1 : Int32)) :
    MetFree l x (head1 (Jvm.Cond.code x code maxLocals ret :: ws) room_1) (fun a U => a = #[(.int p1), (.int p2), (.int p3)] ∧ Z.Warmed39 U.vm ∧ U.heap = h0) (fun _ _ _ _ _ => True) (fun _ U o U' => ∃ v L, o = .returned v ∧ Ql (some (.int (1 : Int32))) n0 v L ∧ FrameEnd U o U' L room_1.cells room_1.slots) := by
  refine MetFree.of_bodySF (plainFor_of_name pn_0) hisR ?_
  intro p e s m args below meth c s₁ Bd hml0 hP hK
  obtain ⟨rfl, hZ, hh⟩ := hP
  have hx := Bd.exec
  have hby := Bd.bytes
  have hml : c.maxLocals = 7 := hml0
  have hown : s.vm.findClass "com/example/telegrid/telegrid/esp3/RepeaterModeTakesPinLaw" = some m.cls := findClass_of_methodNamed Bd.named
  have hnm := (name_of_methodNamed Bd.named Bd.method).1
  have X0 : Stand p l e room_1 s m #[(.int p1), (.int p2), (.int p3)] below meth c s₁ [] 0 0 := Stand.of_body Bd
  have e0 : s₁.heap = h0 := by rw [← hh, Bd.state]; rfl
  have N0 := Fr.nil n0
  have pre0 : ∀ t, Steps p.tables e below (s₁.setTop (mkF m 0 #[.val (.int p1), .val (.int p2), .val (.int p3), .unset, .unset, .unset, .unset] [])) t → Steps p.tables e below (s₁.setTop (entryFrame m #[(.int p1), (.int p2), (.int p3)] maxLocals)) t := fun t k => castTop (ef_0 m p1 p2 p3) k
  -- 3. LAWS
  obtain ⟨T5, X5, e5, st5⟩ := getS2 X0 hx hZ hown (host := "") (Or.inl (hw _ (List.mem_of_getElem? (i := 12) rfl))) Via.refl e0 S_SELECTIVE (g := (mkF m 32 #[.val (.int p1), .val (.int p2), .val (.int p3), .val (.int (own_rem (p1 &&& (2147483647 : Int32)) (3 : Int32))), .unset, .unset, .unset] [])) rfl (hb hby at_32)
  -- pc 99: com/example/telegrid/telegrid/esp3/RepeaterMode.takes by the contract of the body that the receiver's class selects, rm1
  obtain ⟨cq6, kq6, q6a, q6b, q6c⟩ := isOf hZ e5 E_w4
  obtain ⟨_, _, ⟨T6, L6, k6, n6⟩, -, X6, ⟨Lc6, hQ6, l6, y6, z6⟩, st6⟩ := X5.virtualBack hx (y := (⟨"com/example/telegrid/telegrid/esp3/RepeaterMode", "takes", "(I)Z"⟩ : MethodName)) (z := (⟨"com/example/telegrid/telegrid/esp3/RepeaterMode", "takes", "(I)Z"⟩ : MethodName)) hown (mvT hZ (hw _ (List.mem_of_getElem? (i := 4) rfl))) (mvT hZ (hw _ (List.mem_of_getElem? (i := 5) rfl))) (notFace_of_selects (args := #[]) (mvT hZ (hw _ (List.mem_of_getElem? (i := 7) rfl)))) (mvT hZ (hw _ (List.mem_of_getElem? (i := 7) rfl))) (mvT hZ (hw _ (List.mem_of_getElem? (i := 6) rfl))) (by decide) (backOf (W := 0) (rm1 l Z a0 hw [] w4 ((p2 &&& (7 : Int32)) - (2 : Int32)) wO h0 n0 Z0 SO) hZ (hw _ (List.mem_of_getElem? (i := 8) rfl)) (hw _ (List.mem_of_getElem? (i := 2) rfl)) (by decide) (by decide)) q6a q6c (g := (mkF m 99 #[.val (.int p1), .val (.int p2), .val (.int p3), .val (.int (own_rem (p1 &&& (2147483647 : Int32)) (3 : Int32))), .val (.ref w4), .val (.int ((p2 &&& (7 : Int32)) - (2 : Int32))), .val (.int (1 : Int32))] [(.int ((p2 &&& (7 : Int32)) - (2 : Int32))), (.ref w4)])) rfl (by rw [hml]; rfl) (Steps.refl _) (argsL := [(.int ((p2 &&& (7 : Int32)) - (2 : Int32)))]) (rest := []) (lenOf pd_0_0 rfl) rfl (by show 2 * 0 + _ ≤ _; exact Nat.le_of_eq rfl) (hb hby at_99) (fun _ _ => ⟨rfl, e5, (by decide : 0 + 0 ≤ _), (by decide : 0 + 0 ≤ _)⟩)
  dsimp only [Pt.U, Pt.locs, Pt.cells, Pt.slots] at X6 l6 y6 z6 st6 hQ6
  subst l6 y6 z6
  obtain ⟨rfl, N6q, e4⟩ := hQ6      -- what it returned, that it wrote nothing old, and the rest of your Q1
  have N6 := Fr.app N0 N6q
  obtain ⟨fs, hr, hrun, hended, hW, hsame⟩ := X6.leave (v := some (.int (1 : Int32))) (fun h => by rw [Bd.returns] at h; cases h)
  refine ⟨_, _, pre0 _ ?_, hrun, hended, _, _, rfl, ?_, ⟨_, rfl⟩, hW, hsame.mono (by decide) (by decide)⟩
  -- 4. STEPS
  · show Steps p.tables e below (s₁.setTop (mkF m 0 #[.val (.int p1), .val (.int p2), .val (.int p3), .unset, .unset, .unset, .unset] [])) _
    refine XS.iloadN X0.here hx rfl (hb hby at_0) rfl ?_
    show Steps p.tables e below (s₁.setTop (mkF m 1 #[.val (.int p1), .val (.int p2), .val (.int p3), .unset, .unset, .unset, .unset] [(.int p1)])) _
    refine X0.ldcInt hx hown (mvT hZ (hw _ (List.mem_of_getElem? (i := 0) rfl))) (g := (mkF m 1 #[.val (.int p1), .val (.int p2), .val (.int p3), .unset, .unset, .unset, .unset] [(.int p1)])) rfl (hb hby at_1) _ ?_
    show Steps p.tables e below (s₁.setTop (mkF m 3 #[.val (.int p1), .val (.int p2), .val (.int p3), .unset, .unset, .unset, .unset] [(.int (2147483647 : Int32)), (.int p1)])) _
    refine XS.iand X0.here hx rfl (hb hby at_3) rfl ?_
    show Steps p.tables e below (s₁.setTop (mkF m 4 #[.val (.int p1), .val (.int p2), .val (.int p3), .unset, .unset, .unset, .unset] [(.int (p1 &&& (2147483647 : Int32)))])) _
    refine XS.iconst X0.here hx rfl (hb hby at_4) ?_
    show Steps p.tables e below (s₁.setTop (mkF m 5 #[.val (.int p1), .val (.int p2), .val (.int p3), .unset, .unset, .unset, .unset] [(.int (3 : Int32)), (.int (p1 &&& (2147483647 : Int32)))])) _
    refine iremM X0 hx rfl (hb hby at_5) rfl (by decide) ?_
    show Steps p.tables e below (s₁.setTop (mkF m 6 #[.val (.int p1), .val (.int p2), .val (.int p3), .unset, .unset, .unset, .unset] [(.int (own_rem (p1 &&& (2147483647 : Int32)) (3 : Int32)))])) _
    refine XS.istoreN X0.here hx rfl (hb hby at_6) rfl (l' := #[.val (.int p1), .val (.int p2), .val (.int p3), .val (.int (own_rem (p1 &&& (2147483647 : Int32)) (3 : Int32))), .unset, .unset, .unset]) rfl ?_
    show Steps p.tables e below (s₁.setTop (mkF m 7 #[.val (.int p1), .val (.int p2), .val (.int p3), .val (.int (own_rem (p1 &&& (2147483647 : Int32)) (3 : Int32))), .unset, .unset, .unset] [])) _
    refine XS.iloadN X0.here hx rfl (hb hby at_7) rfl ?_
    show Steps p.tables e below (s₁.setTop (mkF m 8 #[.val (.int p1), .val (.int p2), .val (.int p3), .val (.int (own_rem (p1 &&& (2147483647 : Int32)) (3 : Int32))), .unset, .unset, .unset] [(.int (own_rem (p1 &&& (2147483647 : Int32)) (3 : Int32)))])) _
    refine XS.ifYes X0.here hx rfl (pc0 := 8) (pc' := 19) rfl (hb hby at_8) rfl ((if0 _ _).trans (feq hc8).2) (by decide) (by decide) ?_
    show Steps p.tables e below (s₁.setTop (mkF m 19 #[.val (.int p1), .val (.int p2), .val (.int p3), .val (.int (own_rem (p1 &&& (2147483647 : Int32)) (3 : Int32))), .unset, .unset, .unset] [])) _
    refine XS.iloadN X0.here hx rfl (hb hby at_19) rfl ?_
    show Steps p.tables e below (s₁.setTop (mkF m 20 #[.val (.int p1), .val (.int p2), .val (.int p3), .val (.int (own_rem (p1 &&& (2147483647 : Int32)) (3 : Int32))), .unset, .unset, .unset] [(.int (own_rem (p1 &&& (2147483647 : Int32)) (3 : Int32)))])) _
    refine XS.iconst X0.here hx rfl (hb hby at_20) ?_
    show Steps p.tables e below (s₁.setTop (mkF m 21 #[.val (.int p1), .val (.int p2), .val (.int p3), .val (.int (own_rem (p1 &&& (2147483647 : Int32)) (3 : Int32))), .unset, .unset, .unset] [(.int (1 : Int32)), (.int (own_rem (p1 &&& (2147483647 : Int32)) (3 : Int32)))])) _
    refine XS.icmpYes X0.here hx rfl (pc0 := 21) (pc' := 32) rfl (hb hby at_21) rfl (feq hc21).2 (by decide) (by decide) ?_
    show Steps p.tables e below (s₁.setTop (mkF m 32 #[.val (.int p1), .val (.int p2), .val (.int p3), .val (.int (own_rem (p1 &&& (2147483647 : Int32)) (3 : Int32))), .unset, .unset, .unset] [])) _
    refine st5 _ ?_
    show Steps p.tables e below (T5.setTop (mkF m 35 #[.val (.int p1), .val (.int p2), .val (.int p3), .val (.int (own_rem (p1 &&& (2147483647 : Int32)) (3 : Int32))), .unset, .unset, .unset] [(.ref w4)])) _
    refine XS.astore X5.here hx rfl (hb hby at_35) rfl rfl (l' := #[.val (.int p1), .val (.int p2), .val (.int p3), .val (.int (own_rem (p1 &&& (2147483647 : Int32)) (3 : Int32))), .val (.ref w4), .unset, .unset]) rfl ?_
    show Steps p.tables e below (T5.setTop (mkF m 37 #[.val (.int p1), .val (.int p2), .val (.int p3), .val (.int (own_rem (p1 &&& (2147483647 : Int32)) (3 : Int32))), .val (.ref w4), .unset, .unset] [])) _
    refine XS.iloadN X5.here hx rfl (hb hby at_37) rfl ?_
    show Steps p.tables e below (T5.setTop (mkF m 38 #[.val (.int p1), .val (.int p2), .val (.int p3), .val (.int (own_rem (p1 &&& (2147483647 : Int32)) (3 : Int32))), .val (.ref w4), .unset, .unset] [(.int p3)])) _
    refine XS.iconst X5.here hx rfl (hb hby at_38) ?_
    show Steps p.tables e below (T5.setTop (mkF m 39 #[.val (.int p1), .val (.int p2), .val (.int p3), .val (.int (own_rem (p1 &&& (2147483647 : Int32)) (3 : Int32))), .val (.ref w4), .unset, .unset] [(.int (1 : Int32)), (.int p3)])) _
    refine XS.iand X5.here hx rfl (hb hby at_39) rfl ?_
    show Steps p.tables e below (T5.setTop (mkF m 40 #[.val (.int p1), .val (.int p2), .val (.int p3), .val (.int (own_rem (p1 &&& (2147483647 : Int32)) (3 : Int32))), .val (.ref w4), .unset, .unset] [(.int (p3 &&& (1 : Int32)))])) _
    refine XS.ifYes X5.here hx rfl (pc0 := 40) (pc' := 49) rfl (hb hby at_40) rfl ((if0 _ _).trans (teq hc40).1) (by decide) (by decide) ?_
    show Steps p.tables e below (T5.setTop (mkF m 49 #[.val (.int p1), .val (.int p2), .val (.int p3), .val (.int (own_rem (p1 &&& (2147483647 : Int32)) (3 : Int32))), .val (.ref w4), .unset, .unset] [])) _
    refine XS.iloadN X5.here hx rfl (hb hby at_49) rfl ?_
    show Steps p.tables e below (T5.setTop (mkF m 50 #[.val (.int p1), .val (.int p2), .val (.int p3), .val (.int (own_rem (p1 &&& (2147483647 : Int32)) (3 : Int32))), .val (.ref w4), .unset, .unset] [(.int p2)])) _
    refine XS.bipush X5.here hx rfl (hb hby at_50) ?_
    show Steps p.tables e below (T5.setTop (mkF m 52 #[.val (.int p1), .val (.int p2), .val (.int p3), .val (.int (own_rem (p1 &&& (2147483647 : Int32)) (3 : Int32))), .val (.ref w4), .unset, .unset] [(.int (7 : Int32)), (.int p2)])) _
    refine XS.iand X5.here hx rfl (hb hby at_52) rfl ?_
    show Steps p.tables e below (T5.setTop (mkF m 53 #[.val (.int p1), .val (.int p2), .val (.int p3), .val (.int (own_rem (p1 &&& (2147483647 : Int32)) (3 : Int32))), .val (.ref w4), .unset, .unset] [(.int (p2 &&& (7 : Int32)))])) _
    refine XS.iconst X5.here hx rfl (hb hby at_53) ?_
    show Steps p.tables e below (T5.setTop (mkF m 54 #[.val (.int p1), .val (.int p2), .val (.int p3), .val (.int (own_rem (p1 &&& (2147483647 : Int32)) (3 : Int32))), .val (.ref w4), .unset, .unset] [(.int (2 : Int32)), (.int (p2 &&& (7 : Int32)))])) _
    refine XS.isub X5.here hx rfl (hb hby at_54) rfl ?_
    show Steps p.tables e below (T5.setTop (mkF m 55 #[.val (.int p1), .val (.int p2), .val (.int p3), .val (.int (own_rem (p1 &&& (2147483647 : Int32)) (3 : Int32))), .val (.ref w4), .unset, .unset] [(.int ((p2 &&& (7 : Int32)) - (2 : Int32)))])) _
    refine XS.istore X5.here hx rfl (hb hby at_55) rfl (l' := #[.val (.int p1), .val (.int p2), .val (.int p3), .val (.int (own_rem (p1 &&& (2147483647 : Int32)) (3 : Int32))), .val (.ref w4), .val (.int ((p2 &&& (7 : Int32)) - (2 : Int32))), .unset]) rfl ?_
    show Steps p.tables e below (T5.setTop (mkF m 57 #[.val (.int p1), .val (.int p2), .val (.int p3), .val (.int (own_rem (p1 &&& (2147483647 : Int32)) (3 : Int32))), .val (.ref w4), .val (.int ((p2 &&& (7 : Int32)) - (2 : Int32))), .unset] [])) _
    refine XS.iloadN X5.here hx rfl (hb hby at_57) rfl ?_
    show Steps p.tables e below (T5.setTop (mkF m 58 #[.val (.int p1), .val (.int p2), .val (.int p3), .val (.int (own_rem (p1 &&& (2147483647 : Int32)) (3 : Int32))), .val (.ref w4), .val (.int ((p2 &&& (7 : Int32)) - (2 : Int32))), .unset] [(.int (own_rem (p1 &&& (2147483647 : Int32)) (3 : Int32)))])) _
    refine XS.ifYes X5.here hx rfl (pc0 := 58) (pc' := 76) rfl (hb hby at_58) rfl ((if0 _ _).trans (feq hc58).2) (by decide) (by decide) ?_
    show Steps p.tables e below (T5.setTop (mkF m 76 #[.val (.int p1), .val (.int p2), .val (.int p3), .val (.int (own_rem (p1 &&& (2147483647 : Int32)) (3 : Int32))), .val (.ref w4), .val (.int ((p2 &&& (7 : Int32)) - (2 : Int32))), .unset] [])) _
    refine XS.iload X5.here hx rfl (hb hby at_76) rfl ?_
    show Steps p.tables e below (T5.setTop (mkF m 78 #[.val (.int p1), .val (.int p2), .val (.int p3), .val (.int (own_rem (p1 &&& (2147483647 : Int32)) (3 : Int32))), .val (.ref w4), .val (.int ((p2 &&& (7 : Int32)) - (2 : Int32))), .unset] [(.int ((p2 &&& (7 : Int32)) - (2 : Int32)))])) _
    refine XS.iconst X5.here hx rfl (hb hby at_78) ?_
    show Steps p.tables e below (T5.setTop (mkF m 79 #[.val (.int p1), .val (.int p2), .val (.int p3), .val (.int (own_rem (p1 &&& (2147483647 : Int32)) (3 : Int32))), .val (.ref w4), .val (.int ((p2 &&& (7 : Int32)) - (2 : Int32))), .unset] [(.int (1 : Int32)), (.int ((p2 &&& (7 : Int32)) - (2 : Int32)))])) _
    refine XS.icmpYes X5.here hx rfl (pc0 := 79) (pc' := 88) rfl (hb hby at_79) rfl (teq hc79).1 (by decide) (by decide) ?_
    show Steps p.tables e below (T5.setTop (mkF m 88 #[.val (.int p1), .val (.int p2), .val (.int p3), .val (.int (own_rem (p1 &&& (2147483647 : Int32)) (3 : Int32))), .val (.ref w4), .val (.int ((p2 &&& (7 : Int32)) - (2 : Int32))), .unset] [])) _
    refine XS.iconst X5.here hx rfl (hb hby at_88) ?_
    show Steps p.tables e below (T5.setTop (mkF m 89 #[.val (.int p1), .val (.int p2), .val (.int p3), .val (.int (own_rem (p1 &&& (2147483647 : Int32)) (3 : Int32))), .val (.ref w4), .val (.int ((p2 &&& (7 : Int32)) - (2 : Int32))), .unset] [(.int (1 : Int32))])) _
    refine XS.goto X5.here hx rfl (pc0 := 89) (pc' := 93) rfl (hb hby at_89) (by decide) (by decide) ?_
    show Steps p.tables e below (T5.setTop (mkF m 93 #[.val (.int p1), .val (.int p2), .val (.int p3), .val (.int (own_rem (p1 &&& (2147483647 : Int32)) (3 : Int32))), .val (.ref w4), .val (.int ((p2 &&& (7 : Int32)) - (2 : Int32))), .unset] [(.int (1 : Int32))])) _
    refine XS.istore X5.here hx rfl (hb hby at_93) rfl (l' := #[.val (.int p1), .val (.int p2), .val (.int p3), .val (.int (own_rem (p1 &&& (2147483647 : Int32)) (3 : Int32))), .val (.ref w4), .val (.int ((p2 &&& (7 : Int32)) - (2 : Int32))), .val (.int (1 : Int32))]) rfl ?_
    show Steps p.tables e below (T5.setTop (mkF m 95 #[.val (.int p1), .val (.int p2), .val (.int p3), .val (.int (own_rem (p1 &&& (2147483647 : Int32)) (3 : Int32))), .val (.ref w4), .val (.int ((p2 &&& (7 : Int32)) - (2 : Int32))), .val (.int (1 : Int32))] [])) _
    refine XS.aload X5.here hx rfl (hb hby at_95) rfl rfl ?_
    show Steps p.tables e below (T5.setTop (mkF m 97 #[.val (.int p1), .val (.int p2), .val (.int p3), .val (.int (own_rem (p1 &&& (2147483647 : Int32)) (3 : Int32))), .val (.ref w4), .val (.int ((p2 &&& (7 : Int32)) - (2 : Int32))), .val (.int (1 : Int32))] [(.ref w4)])) _
    refine XS.iload X5.here hx rfl (hb hby at_97) rfl ?_
    show Steps p.tables e below (T5.setTop (mkF m 99 #[.val (.int p1), .val (.int p2), .val (.int p3), .val (.int (own_rem (p1 &&& (2147483647 : Int32)) (3 : Int32))), .val (.ref w4), .val (.int ((p2 &&& (7 : Int32)) - (2 : Int32))), .val (.int (1 : Int32))] [(.int ((p2 &&& (7 : Int32)) - (2 : Int32))), (.ref w4)])) _
    refine st6.trans ?_
    show Steps p.tables e below (T6.setTop (mkF m 102 #[.val (.int p1), .val (.int p2), .val (.int p3), .val (.int (own_rem (p1 &&& (2147483647 : Int32)) (3 : Int32))), .val (.ref w4), .val (.int ((p2 &&& (7 : Int32)) - (2 : Int32))), .val (.int (1 : Int32))] [(.int (own_takes w4 wO ((p2 &&& (7 : Int32)) - (2 : Int32))))])) _
    refine XS.iload X6.here hx rfl (hb hby at_102) rfl ?_
    show Steps p.tables e below (T6.setTop (mkF m 104 #[.val (.int p1), .val (.int p2), .val (.int p3), .val (.int (own_rem (p1 &&& (2147483647 : Int32)) (3 : Int32))), .val (.ref w4), .val (.int ((p2 &&& (7 : Int32)) - (2 : Int32))), .val (.int (1 : Int32))] [(.int (1 : Int32)), (.int (own_takes w4 wO ((p2 &&& (7 : Int32)) - (2 : Int32))))])) _
    refine XS.icmpNo X6.here hx rfl (hb hby at_104) rfl (teq (hv : (own_takes w4 wO ((p2 &&& (7 : Int32)) - (2 : Int32))) = (1 : Int32))).2 ?_
    show Steps p.tables e below (T6.setTop (mkF m 107 #[.val (.int p1), .val (.int p2), .val (.int p3), .val (.int (own_rem (p1 &&& (2147483647 : Int32)) (3 : Int32))), .val (.ref w4), .val (.int ((p2 &&& (7 : Int32)) - (2 : Int32))), .val (.int (1 : Int32))] [])) _
    refine XS.iconst X6.here hx rfl (hb hby at_107) ?_
    show Steps p.tables e below (T6.setTop (mkF m 108 #[.val (.int p1), .val (.int p2), .val (.int p3), .val (.int (own_rem (p1 &&& (2147483647 : Int32)) (3 : Int32))), .val (.ref w4), .val (.int ((p2 &&& (7 : Int32)) - (2 : Int32))), .val (.int (1 : Int32))] [(.int (1 : Int32))])) _
    refine XS.goto X6.here hx rfl (pc0 := 108) (pc' := 112) rfl (hb hby at_108) (by decide) (by decide) ?_
    show Steps p.tables e below (T6.setTop (mkF m 112 #[.val (.int p1), .val (.int p2), .val (.int p3), .val (.int (own_rem (p1 &&& (2147483647 : Int32)) (3 : Int32))), .val (.ref w4), .val (.int ((p2 &&& (7 : Int32)) - (2 : Int32))), .val (.int (1 : Int32))] [(.int (1 : Int32))])) _
    exact retN X6 hx (t := .boolean) Bd.returns (by simp) (hb hby at_112) hr
  · show Ql (some (.int (1 : Int32))) n0 _ _
    exact ⟨rfl, N6⟩
set_option maxRecDepth 65536 in
set_option maxHeartbeats 40000000 in
theorem rm0_ttttfff (l : Launch) (Z : State) (a0 : Array Value) (hw : ∀ d ∈ tables_1, d.before a0 Z = true) (ws : List Jvm.Cond) (p1 : Int32) (p2 : Int32) (p3 : Int32) (w4 : Addr) (h0 : Heap) (n0 : Nat) (Z0 : n0 ≤ h0.size) (wO : Addr) (SO : Sta Z h0 "com/example/telegrid/telegrid/esp3/RepeaterMode" "OFF" "Lcom/example/telegrid/telegrid/esp3/RepeaterMode;" (.ref wO)) (hv : own_takes w4 wO ((p2 &&& (7 : Int32)) - (2 : Int32)) = 1) (S_SELECTIVE : Sta Z h0 "com/example/telegrid/telegrid/esp3/RepeaterMode" "SELECTIVE" "Lcom/example/telegrid/telegrid/esp3/RepeaterMode;" (.ref w4)) (E_w4 : Exa Z h0 w4 "com/example/telegrid/telegrid/esp3/RepeaterMode") (hc8 : ¬ ((own_rem (p1 &&& (2147483647 : Int32)) (3 : Int32)) = (0 : Int32))) (hc21 : ¬ ((own_rem (p1 &&& (2147483647 : Int32)) (3 : Int32)) = (1 : Int32))) (hc40 : (p3 &&& (1 : Int32)) = (0 : Int32)) (hc58 : ¬ ((own_rem (p1 &&& (2147483647 : Int32)) (3 : Int32)) = (0 : Int32))) (hc79 : ¬ (((p2 &&& (7 : Int32)) - (2 : Int32)) = (1 : Int32))) (hc85 : ((p2 &&& (7 : Int32)) - (2 : Int32)) = (2 : Int32)) :
    MetFree l x (head1 (Jvm.Cond.code x code maxLocals ret :: ws) room_1) (fun a U => a = #[(.int p1), (.int p2), (.int p3)] ∧ Z.Warmed39 U.vm ∧ U.heap = h0) (fun _ _ _ _ _ => True) (fun _ U o U' => ∃ v L, o = .returned v ∧ Ql (some (.int (1 : Int32))) n0 v L ∧ FrameEnd U o U' L room_1.cells room_1.slots) := by
  refine MetFree.of_bodySF (plainFor_of_name pn_0) hisR ?_
  intro p e s m args below meth c s₁ Bd hml0 hP hK
  obtain ⟨rfl, hZ, hh⟩ := hP
  have hx := Bd.exec
  have hby := Bd.bytes
  have hml : c.maxLocals = 7 := hml0
  have hown : s.vm.findClass "com/example/telegrid/telegrid/esp3/RepeaterModeTakesPinLaw" = some m.cls := findClass_of_methodNamed Bd.named
  have hnm := (name_of_methodNamed Bd.named Bd.method).1
  have X0 : Stand p l e room_1 s m #[(.int p1), (.int p2), (.int p3)] below meth c s₁ [] 0 0 := Stand.of_body Bd
  have e0 : s₁.heap = h0 := by rw [← hh, Bd.state]; rfl
  have N0 := Fr.nil n0
  have pre0 : ∀ t, Steps p.tables e below (s₁.setTop (mkF m 0 #[.val (.int p1), .val (.int p2), .val (.int p3), .unset, .unset, .unset, .unset] [])) t → Steps p.tables e below (s₁.setTop (entryFrame m #[(.int p1), (.int p2), (.int p3)] maxLocals)) t := fun t k => castTop (ef_0 m p1 p2 p3) k
  -- 3. LAWS
  obtain ⟨T5, X5, e5, st5⟩ := getS2 X0 hx hZ hown (host := "") (Or.inl (hw _ (List.mem_of_getElem? (i := 12) rfl))) Via.refl e0 S_SELECTIVE (g := (mkF m 32 #[.val (.int p1), .val (.int p2), .val (.int p3), .val (.int (own_rem (p1 &&& (2147483647 : Int32)) (3 : Int32))), .unset, .unset, .unset] [])) rfl (hb hby at_32)
  -- pc 99: com/example/telegrid/telegrid/esp3/RepeaterMode.takes by the contract of the body that the receiver's class selects, rm1
  obtain ⟨cq6, kq6, q6a, q6b, q6c⟩ := isOf hZ e5 E_w4
  obtain ⟨_, _, ⟨T6, L6, k6, n6⟩, -, X6, ⟨Lc6, hQ6, l6, y6, z6⟩, st6⟩ := X5.virtualBack hx (y := (⟨"com/example/telegrid/telegrid/esp3/RepeaterMode", "takes", "(I)Z"⟩ : MethodName)) (z := (⟨"com/example/telegrid/telegrid/esp3/RepeaterMode", "takes", "(I)Z"⟩ : MethodName)) hown (mvT hZ (hw _ (List.mem_of_getElem? (i := 4) rfl))) (mvT hZ (hw _ (List.mem_of_getElem? (i := 5) rfl))) (notFace_of_selects (args := #[]) (mvT hZ (hw _ (List.mem_of_getElem? (i := 7) rfl)))) (mvT hZ (hw _ (List.mem_of_getElem? (i := 7) rfl))) (mvT hZ (hw _ (List.mem_of_getElem? (i := 6) rfl))) (by decide) (backOf (W := 0) (rm1 l Z a0 hw [] w4 ((p2 &&& (7 : Int32)) - (2 : Int32)) wO h0 n0 Z0 SO) hZ (hw _ (List.mem_of_getElem? (i := 8) rfl)) (hw _ (List.mem_of_getElem? (i := 2) rfl)) (by decide) (by decide)) q6a q6c (g := (mkF m 99 #[.val (.int p1), .val (.int p2), .val (.int p3), .val (.int (own_rem (p1 &&& (2147483647 : Int32)) (3 : Int32))), .val (.ref w4), .val (.int ((p2 &&& (7 : Int32)) - (2 : Int32))), .val (.int (1 : Int32))] [(.int ((p2 &&& (7 : Int32)) - (2 : Int32))), (.ref w4)])) rfl (by rw [hml]; rfl) (Steps.refl _) (argsL := [(.int ((p2 &&& (7 : Int32)) - (2 : Int32)))]) (rest := []) (lenOf pd_0_0 rfl) rfl (by show 2 * 0 + _ ≤ _; exact Nat.le_of_eq rfl) (hb hby at_99) (fun _ _ => ⟨rfl, e5, (by decide : 0 + 0 ≤ _), (by decide : 0 + 0 ≤ _)⟩)
  dsimp only [Pt.U, Pt.locs, Pt.cells, Pt.slots] at X6 l6 y6 z6 st6 hQ6
  subst l6 y6 z6
  obtain ⟨rfl, N6q, e4⟩ := hQ6      -- what it returned, that it wrote nothing old, and the rest of your Q1
  have N6 := Fr.app N0 N6q
  obtain ⟨fs, hr, hrun, hended, hW, hsame⟩ := X6.leave (v := some (.int (1 : Int32))) (fun h => by rw [Bd.returns] at h; cases h)
  refine ⟨_, _, pre0 _ ?_, hrun, hended, _, _, rfl, ?_, ⟨_, rfl⟩, hW, hsame.mono (by decide) (by decide)⟩
  -- 4. STEPS
  · show Steps p.tables e below (s₁.setTop (mkF m 0 #[.val (.int p1), .val (.int p2), .val (.int p3), .unset, .unset, .unset, .unset] [])) _
    refine XS.iloadN X0.here hx rfl (hb hby at_0) rfl ?_
    show Steps p.tables e below (s₁.setTop (mkF m 1 #[.val (.int p1), .val (.int p2), .val (.int p3), .unset, .unset, .unset, .unset] [(.int p1)])) _
    refine X0.ldcInt hx hown (mvT hZ (hw _ (List.mem_of_getElem? (i := 0) rfl))) (g := (mkF m 1 #[.val (.int p1), .val (.int p2), .val (.int p3), .unset, .unset, .unset, .unset] [(.int p1)])) rfl (hb hby at_1) _ ?_
    show Steps p.tables e below (s₁.setTop (mkF m 3 #[.val (.int p1), .val (.int p2), .val (.int p3), .unset, .unset, .unset, .unset] [(.int (2147483647 : Int32)), (.int p1)])) _
    refine XS.iand X0.here hx rfl (hb hby at_3) rfl ?_
    show Steps p.tables e below (s₁.setTop (mkF m 4 #[.val (.int p1), .val (.int p2), .val (.int p3), .unset, .unset, .unset, .unset] [(.int (p1 &&& (2147483647 : Int32)))])) _
    refine XS.iconst X0.here hx rfl (hb hby at_4) ?_
    show Steps p.tables e below (s₁.setTop (mkF m 5 #[.val (.int p1), .val (.int p2), .val (.int p3), .unset, .unset, .unset, .unset] [(.int (3 : Int32)), (.int (p1 &&& (2147483647 : Int32)))])) _
    refine iremM X0 hx rfl (hb hby at_5) rfl (by decide) ?_
    show Steps p.tables e below (s₁.setTop (mkF m 6 #[.val (.int p1), .val (.int p2), .val (.int p3), .unset, .unset, .unset, .unset] [(.int (own_rem (p1 &&& (2147483647 : Int32)) (3 : Int32)))])) _
    refine XS.istoreN X0.here hx rfl (hb hby at_6) rfl (l' := #[.val (.int p1), .val (.int p2), .val (.int p3), .val (.int (own_rem (p1 &&& (2147483647 : Int32)) (3 : Int32))), .unset, .unset, .unset]) rfl ?_
    show Steps p.tables e below (s₁.setTop (mkF m 7 #[.val (.int p1), .val (.int p2), .val (.int p3), .val (.int (own_rem (p1 &&& (2147483647 : Int32)) (3 : Int32))), .unset, .unset, .unset] [])) _
    refine XS.iloadN X0.here hx rfl (hb hby at_7) rfl ?_
    show Steps p.tables e below (s₁.setTop (mkF m 8 #[.val (.int p1), .val (.int p2), .val (.int p3), .val (.int (own_rem (p1 &&& (2147483647 : Int32)) (3 : Int32))), .unset, .unset, .unset] [(.int (own_rem (p1 &&& (2147483647 : Int32)) (3 : Int32)))])) _
    refine XS.ifYes X0.here hx rfl (pc0 := 8) (pc' := 19) rfl (hb hby at_8) rfl ((if0 _ _).trans (feq hc8).2) (by decide) (by decide) ?_
    show Steps p.tables e below (s₁.setTop (mkF m 19 #[.val (.int p1), .val (.int p2), .val (.int p3), .val (.int (own_rem (p1 &&& (2147483647 : Int32)) (3 : Int32))), .unset, .unset, .unset] [])) _
    refine XS.iloadN X0.here hx rfl (hb hby at_19) rfl ?_
    show Steps p.tables e below (s₁.setTop (mkF m 20 #[.val (.int p1), .val (.int p2), .val (.int p3), .val (.int (own_rem (p1 &&& (2147483647 : Int32)) (3 : Int32))), .unset, .unset, .unset] [(.int (own_rem (p1 &&& (2147483647 : Int32)) (3 : Int32)))])) _
    refine XS.iconst X0.here hx rfl (hb hby at_20) ?_
    show Steps p.tables e below (s₁.setTop (mkF m 21 #[.val (.int p1), .val (.int p2), .val (.int p3), .val (.int (own_rem (p1 &&& (2147483647 : Int32)) (3 : Int32))), .unset, .unset, .unset] [(.int (1 : Int32)), (.int (own_rem (p1 &&& (2147483647 : Int32)) (3 : Int32)))])) _
    refine XS.icmpYes X0.here hx rfl (pc0 := 21) (pc' := 32) rfl (hb hby at_21) rfl (feq hc21).2 (by decide) (by decide) ?_
    show Steps p.tables e below (s₁.setTop (mkF m 32 #[.val (.int p1), .val (.int p2), .val (.int p3), .val (.int (own_rem (p1 &&& (2147483647 : Int32)) (3 : Int32))), .unset, .unset, .unset] [])) _
    refine st5 _ ?_
    show Steps p.tables e below (T5.setTop (mkF m 35 #[.val (.int p1), .val (.int p2), .val (.int p3), .val (.int (own_rem (p1 &&& (2147483647 : Int32)) (3 : Int32))), .unset, .unset, .unset] [(.ref w4)])) _
    refine XS.astore X5.here hx rfl (hb hby at_35) rfl rfl (l' := #[.val (.int p1), .val (.int p2), .val (.int p3), .val (.int (own_rem (p1 &&& (2147483647 : Int32)) (3 : Int32))), .val (.ref w4), .unset, .unset]) rfl ?_
    show Steps p.tables e below (T5.setTop (mkF m 37 #[.val (.int p1), .val (.int p2), .val (.int p3), .val (.int (own_rem (p1 &&& (2147483647 : Int32)) (3 : Int32))), .val (.ref w4), .unset, .unset] [])) _
    refine XS.iloadN X5.here hx rfl (hb hby at_37) rfl ?_
    show Steps p.tables e below (T5.setTop (mkF m 38 #[.val (.int p1), .val (.int p2), .val (.int p3), .val (.int (own_rem (p1 &&& (2147483647 : Int32)) (3 : Int32))), .val (.ref w4), .unset, .unset] [(.int p3)])) _
    refine XS.iconst X5.here hx rfl (hb hby at_38) ?_
    show Steps p.tables e below (T5.setTop (mkF m 39 #[.val (.int p1), .val (.int p2), .val (.int p3), .val (.int (own_rem (p1 &&& (2147483647 : Int32)) (3 : Int32))), .val (.ref w4), .unset, .unset] [(.int (1 : Int32)), (.int p3)])) _
    refine XS.iand X5.here hx rfl (hb hby at_39) rfl ?_
    show Steps p.tables e below (T5.setTop (mkF m 40 #[.val (.int p1), .val (.int p2), .val (.int p3), .val (.int (own_rem (p1 &&& (2147483647 : Int32)) (3 : Int32))), .val (.ref w4), .unset, .unset] [(.int (p3 &&& (1 : Int32)))])) _
    refine XS.ifYes X5.here hx rfl (pc0 := 40) (pc' := 49) rfl (hb hby at_40) rfl ((if0 _ _).trans (teq hc40).1) (by decide) (by decide) ?_
    show Steps p.tables e below (T5.setTop (mkF m 49 #[.val (.int p1), .val (.int p2), .val (.int p3), .val (.int (own_rem (p1 &&& (2147483647 : Int32)) (3 : Int32))), .val (.ref w4), .unset, .unset] [])) _
    refine XS.iloadN X5.here hx rfl (hb hby at_49) rfl ?_
    show Steps p.tables e below (T5.setTop (mkF m 50 #[.val (.int p1), .val (.int p2), .val (.int p3), .val (.int (own_rem (p1 &&& (2147483647 : Int32)) (3 : Int32))), .val (.ref w4), .unset, .unset] [(.int p2)])) _
    refine XS.bipush X5.here hx rfl (hb hby at_50) ?_
    show Steps p.tables e below (T5.setTop (mkF m 52 #[.val (.int p1), .val (.int p2), .val (.int p3), .val (.int (own_rem (p1 &&& (2147483647 : Int32)) (3 : Int32))), .val (.ref w4), .unset, .unset] [(.int (7 : Int32)), (.int p2)])) _
    refine XS.iand X5.here hx rfl (hb hby at_52) rfl ?_
    show Steps p.tables e below (T5.setTop (mkF m 53 #[.val (.int p1), .val (.int p2), .val (.int p3), .val (.int (own_rem (p1 &&& (2147483647 : Int32)) (3 : Int32))), .val (.ref w4), .unset, .unset] [(.int (p2 &&& (7 : Int32)))])) _
    refine XS.iconst X5.here hx rfl (hb hby at_53) ?_
    show Steps p.tables e below (T5.setTop (mkF m 54 #[.val (.int p1), .val (.int p2), .val (.int p3), .val (.int (own_rem (p1 &&& (2147483647 : Int32)) (3 : Int32))), .val (.ref w4), .unset, .unset] [(.int (2 : Int32)), (.int (p2 &&& (7 : Int32)))])) _
    refine XS.isub X5.here hx rfl (hb hby at_54) rfl ?_
    show Steps p.tables e below (T5.setTop (mkF m 55 #[.val (.int p1), .val (.int p2), .val (.int p3), .val (.int (own_rem (p1 &&& (2147483647 : Int32)) (3 : Int32))), .val (.ref w4), .unset, .unset] [(.int ((p2 &&& (7 : Int32)) - (2 : Int32)))])) _
    refine XS.istore X5.here hx rfl (hb hby at_55) rfl (l' := #[.val (.int p1), .val (.int p2), .val (.int p3), .val (.int (own_rem (p1 &&& (2147483647 : Int32)) (3 : Int32))), .val (.ref w4), .val (.int ((p2 &&& (7 : Int32)) - (2 : Int32))), .unset]) rfl ?_
    show Steps p.tables e below (T5.setTop (mkF m 57 #[.val (.int p1), .val (.int p2), .val (.int p3), .val (.int (own_rem (p1 &&& (2147483647 : Int32)) (3 : Int32))), .val (.ref w4), .val (.int ((p2 &&& (7 : Int32)) - (2 : Int32))), .unset] [])) _
    refine XS.iloadN X5.here hx rfl (hb hby at_57) rfl ?_
    show Steps p.tables e below (T5.setTop (mkF m 58 #[.val (.int p1), .val (.int p2), .val (.int p3), .val (.int (own_rem (p1 &&& (2147483647 : Int32)) (3 : Int32))), .val (.ref w4), .val (.int ((p2 &&& (7 : Int32)) - (2 : Int32))), .unset] [(.int (own_rem (p1 &&& (2147483647 : Int32)) (3 : Int32)))])) _
    refine XS.ifYes X5.here hx rfl (pc0 := 58) (pc' := 76) rfl (hb hby at_58) rfl ((if0 _ _).trans (feq hc58).2) (by decide) (by decide) ?_
    show Steps p.tables e below (T5.setTop (mkF m 76 #[.val (.int p1), .val (.int p2), .val (.int p3), .val (.int (own_rem (p1 &&& (2147483647 : Int32)) (3 : Int32))), .val (.ref w4), .val (.int ((p2 &&& (7 : Int32)) - (2 : Int32))), .unset] [])) _
    refine XS.iload X5.here hx rfl (hb hby at_76) rfl ?_
    show Steps p.tables e below (T5.setTop (mkF m 78 #[.val (.int p1), .val (.int p2), .val (.int p3), .val (.int (own_rem (p1 &&& (2147483647 : Int32)) (3 : Int32))), .val (.ref w4), .val (.int ((p2 &&& (7 : Int32)) - (2 : Int32))), .unset] [(.int ((p2 &&& (7 : Int32)) - (2 : Int32)))])) _
    refine XS.iconst X5.here hx rfl (hb hby at_78) ?_
    show Steps p.tables e below (T5.setTop (mkF m 79 #[.val (.int p1), .val (.int p2), .val (.int p3), .val (.int (own_rem (p1 &&& (2147483647 : Int32)) (3 : Int32))), .val (.ref w4), .val (.int ((p2 &&& (7 : Int32)) - (2 : Int32))), .unset] [(.int (1 : Int32)), (.int ((p2 &&& (7 : Int32)) - (2 : Int32)))])) _
    refine XS.icmpNo X5.here hx rfl (hb hby at_79) rfl (feq hc79).1 ?_
    show Steps p.tables e below (T5.setTop (mkF m 82 #[.val (.int p1), .val (.int p2), .val (.int p3), .val (.int (own_rem (p1 &&& (2147483647 : Int32)) (3 : Int32))), .val (.ref w4), .val (.int ((p2 &&& (7 : Int32)) - (2 : Int32))), .unset] [])) _
    refine XS.iload X5.here hx rfl (hb hby at_82) rfl ?_
    show Steps p.tables e below (T5.setTop (mkF m 84 #[.val (.int p1), .val (.int p2), .val (.int p3), .val (.int (own_rem (p1 &&& (2147483647 : Int32)) (3 : Int32))), .val (.ref w4), .val (.int ((p2 &&& (7 : Int32)) - (2 : Int32))), .unset] [(.int ((p2 &&& (7 : Int32)) - (2 : Int32)))])) _
    refine XS.iconst X5.here hx rfl (hb hby at_84) ?_
    show Steps p.tables e below (T5.setTop (mkF m 85 #[.val (.int p1), .val (.int p2), .val (.int p3), .val (.int (own_rem (p1 &&& (2147483647 : Int32)) (3 : Int32))), .val (.ref w4), .val (.int ((p2 &&& (7 : Int32)) - (2 : Int32))), .unset] [(.int (2 : Int32)), (.int ((p2 &&& (7 : Int32)) - (2 : Int32)))])) _
    refine XS.icmpNo X5.here hx rfl (hb hby at_85) rfl (teq hc85).2 ?_
    show Steps p.tables e below (T5.setTop (mkF m 88 #[.val (.int p1), .val (.int p2), .val (.int p3), .val (.int (own_rem (p1 &&& (2147483647 : Int32)) (3 : Int32))), .val (.ref w4), .val (.int ((p2 &&& (7 : Int32)) - (2 : Int32))), .unset] [])) _
    refine XS.iconst X5.here hx rfl (hb hby at_88) ?_
    show Steps p.tables e below (T5.setTop (mkF m 89 #[.val (.int p1), .val (.int p2), .val (.int p3), .val (.int (own_rem (p1 &&& (2147483647 : Int32)) (3 : Int32))), .val (.ref w4), .val (.int ((p2 &&& (7 : Int32)) - (2 : Int32))), .unset] [(.int (1 : Int32))])) _
    refine XS.goto X5.here hx rfl (pc0 := 89) (pc' := 93) rfl (hb hby at_89) (by decide) (by decide) ?_
    show Steps p.tables e below (T5.setTop (mkF m 93 #[.val (.int p1), .val (.int p2), .val (.int p3), .val (.int (own_rem (p1 &&& (2147483647 : Int32)) (3 : Int32))), .val (.ref w4), .val (.int ((p2 &&& (7 : Int32)) - (2 : Int32))), .unset] [(.int (1 : Int32))])) _
    refine XS.istore X5.here hx rfl (hb hby at_93) rfl (l' := #[.val (.int p1), .val (.int p2), .val (.int p3), .val (.int (own_rem (p1 &&& (2147483647 : Int32)) (3 : Int32))), .val (.ref w4), .val (.int ((p2 &&& (7 : Int32)) - (2 : Int32))), .val (.int (1 : Int32))]) rfl ?_
    show Steps p.tables e below (T5.setTop (mkF m 95 #[.val (.int p1), .val (.int p2), .val (.int p3), .val (.int (own_rem (p1 &&& (2147483647 : Int32)) (3 : Int32))), .val (.ref w4), .val (.int ((p2 &&& (7 : Int32)) - (2 : Int32))), .val (.int (1 : Int32))] [])) _
    refine XS.aload X5.here hx rfl (hb hby at_95) rfl rfl ?_
    show Steps p.tables e below (T5.setTop (mkF m 97 #[.val (.int p1), .val (.int p2), .val (.int p3), .val (.int (own_rem (p1 &&& (2147483647 : Int32)) (3 : Int32))), .val (.ref w4), .val (.int ((p2 &&& (7 : Int32)) - (2 : Int32))), .val (.int (1 : Int32))] [(.ref w4)])) _
    refine XS.iload X5.here hx rfl (hb hby at_97) rfl ?_
    show Steps p.tables e below (T5.setTop (mkF m 99 #[.val (.int p1), .val (.int p2), .val (.int p3), .val (.int (own_rem (p1 &&& (2147483647 : Int32)) (3 : Int32))), .val (.ref w4), .val (.int ((p2 &&& (7 : Int32)) - (2 : Int32))), .val (.int (1 : Int32))] [(.int ((p2 &&& (7 : Int32)) - (2 : Int32))), (.ref w4)])) _
    refine st6.trans ?_
    show Steps p.tables e below (T6.setTop (mkF m 102 #[.val (.int p1), .val (.int p2), .val (.int p3), .val (.int (own_rem (p1 &&& (2147483647 : Int32)) (3 : Int32))), .val (.ref w4), .val (.int ((p2 &&& (7 : Int32)) - (2 : Int32))), .val (.int (1 : Int32))] [(.int (own_takes w4 wO ((p2 &&& (7 : Int32)) - (2 : Int32))))])) _
    refine XS.iload X6.here hx rfl (hb hby at_102) rfl ?_
    show Steps p.tables e below (T6.setTop (mkF m 104 #[.val (.int p1), .val (.int p2), .val (.int p3), .val (.int (own_rem (p1 &&& (2147483647 : Int32)) (3 : Int32))), .val (.ref w4), .val (.int ((p2 &&& (7 : Int32)) - (2 : Int32))), .val (.int (1 : Int32))] [(.int (1 : Int32)), (.int (own_takes w4 wO ((p2 &&& (7 : Int32)) - (2 : Int32))))])) _
    refine XS.icmpNo X6.here hx rfl (hb hby at_104) rfl (teq (hv : (own_takes w4 wO ((p2 &&& (7 : Int32)) - (2 : Int32))) = (1 : Int32))).2 ?_
    show Steps p.tables e below (T6.setTop (mkF m 107 #[.val (.int p1), .val (.int p2), .val (.int p3), .val (.int (own_rem (p1 &&& (2147483647 : Int32)) (3 : Int32))), .val (.ref w4), .val (.int ((p2 &&& (7 : Int32)) - (2 : Int32))), .val (.int (1 : Int32))] [])) _
    refine XS.iconst X6.here hx rfl (hb hby at_107) ?_
    show Steps p.tables e below (T6.setTop (mkF m 108 #[.val (.int p1), .val (.int p2), .val (.int p3), .val (.int (own_rem (p1 &&& (2147483647 : Int32)) (3 : Int32))), .val (.ref w4), .val (.int ((p2 &&& (7 : Int32)) - (2 : Int32))), .val (.int (1 : Int32))] [(.int (1 : Int32))])) _
    refine XS.goto X6.here hx rfl (pc0 := 108) (pc' := 112) rfl (hb hby at_108) (by decide) (by decide) ?_
    show Steps p.tables e below (T6.setTop (mkF m 112 #[.val (.int p1), .val (.int p2), .val (.int p3), .val (.int (own_rem (p1 &&& (2147483647 : Int32)) (3 : Int32))), .val (.ref w4), .val (.int ((p2 &&& (7 : Int32)) - (2 : Int32))), .val (.int (1 : Int32))] [(.int (1 : Int32))])) _
    exact retN X6 hx (t := .boolean) Bd.returns (by simp) (hb hby at_112) hr
  · show Ql (some (.int (1 : Int32))) n0 _ _
    exact ⟨rfl, N6⟩
set_option maxRecDepth 65536 in
set_option maxHeartbeats 40000000 in
theorem rm0_ttttftf (l : Launch) (Z : State) (a0 : Array Value) (hw : ∀ d ∈ tables_1, d.before a0 Z = true) (ws : List Jvm.Cond) (p1 : Int32) (p2 : Int32) (p3 : Int32) (w4 : Addr) (h0 : Heap) (n0 : Nat) (Z0 : n0 ≤ h0.size) (wO : Addr) (SO : Sta Z h0 "com/example/telegrid/telegrid/esp3/RepeaterMode" "OFF" "Lcom/example/telegrid/telegrid/esp3/RepeaterMode;" (.ref wO)) (hv : own_takes w4 wO ((p2 &&& (7 : Int32)) - (2 : Int32)) = 0) (S_SELECTIVE : Sta Z h0 "com/example/telegrid/telegrid/esp3/RepeaterMode" "SELECTIVE" "Lcom/example/telegrid/telegrid/esp3/RepeaterMode;" (.ref w4)) (E_w4 : Exa Z h0 w4 "com/example/telegrid/telegrid/esp3/RepeaterMode") (hc8 : ¬ ((own_rem (p1 &&& (2147483647 : Int32)) (3 : Int32)) = (0 : Int32))) (hc21 : ¬ ((own_rem (p1 &&& (2147483647 : Int32)) (3 : Int32)) = (1 : Int32))) (hc40 : (p3 &&& (1 : Int32)) = (0 : Int32)) (hc58 : ¬ ((own_rem (p1 &&& (2147483647 : Int32)) (3 : Int32)) = (0 : Int32))) (hc79 : ¬ (((p2 &&& (7 : Int32)) - (2 : Int32)) = (1 : Int32))) (hc85 : ¬ (((p2 &&& (7 : Int32)) - (2 : Int32)) = (2 : Int32))) :
    MetFree l x (head1 (Jvm.Cond.code x code maxLocals ret :: ws) room_1) (fun a U => a = #[(.int p1), (.int p2), (.int p3)] ∧ Z.Warmed39 U.vm ∧ U.heap = h0) (fun _ _ _ _ _ => True) (fun _ U o U' => ∃ v L, o = .returned v ∧ Ql (some (.int (1 : Int32))) n0 v L ∧ FrameEnd U o U' L room_1.cells room_1.slots) := by
  refine MetFree.of_bodySF (plainFor_of_name pn_0) hisR ?_
  intro p e s m args below meth c s₁ Bd hml0 hP hK
  obtain ⟨rfl, hZ, hh⟩ := hP
  have hx := Bd.exec
  have hby := Bd.bytes
  have hml : c.maxLocals = 7 := hml0
  have hown : s.vm.findClass "com/example/telegrid/telegrid/esp3/RepeaterModeTakesPinLaw" = some m.cls := findClass_of_methodNamed Bd.named
  have hnm := (name_of_methodNamed Bd.named Bd.method).1
  have X0 : Stand p l e room_1 s m #[(.int p1), (.int p2), (.int p3)] below meth c s₁ [] 0 0 := Stand.of_body Bd
  have e0 : s₁.heap = h0 := by rw [← hh, Bd.state]; rfl
  have N0 := Fr.nil n0
  have pre0 : ∀ t, Steps p.tables e below (s₁.setTop (mkF m 0 #[.val (.int p1), .val (.int p2), .val (.int p3), .unset, .unset, .unset, .unset] [])) t → Steps p.tables e below (s₁.setTop (entryFrame m #[(.int p1), (.int p2), (.int p3)] maxLocals)) t := fun t k => castTop (ef_0 m p1 p2 p3) k
  -- 3. LAWS
  obtain ⟨T5, X5, e5, st5⟩ := getS2 X0 hx hZ hown (host := "") (Or.inl (hw _ (List.mem_of_getElem? (i := 12) rfl))) Via.refl e0 S_SELECTIVE (g := (mkF m 32 #[.val (.int p1), .val (.int p2), .val (.int p3), .val (.int (own_rem (p1 &&& (2147483647 : Int32)) (3 : Int32))), .unset, .unset, .unset] [])) rfl (hb hby at_32)
  -- pc 99: com/example/telegrid/telegrid/esp3/RepeaterMode.takes by the contract of the body that the receiver's class selects, rm1
  obtain ⟨cq6, kq6, q6a, q6b, q6c⟩ := isOf hZ e5 E_w4
  obtain ⟨_, _, ⟨T6, L6, k6, n6⟩, -, X6, ⟨Lc6, hQ6, l6, y6, z6⟩, st6⟩ := X5.virtualBack hx (y := (⟨"com/example/telegrid/telegrid/esp3/RepeaterMode", "takes", "(I)Z"⟩ : MethodName)) (z := (⟨"com/example/telegrid/telegrid/esp3/RepeaterMode", "takes", "(I)Z"⟩ : MethodName)) hown (mvT hZ (hw _ (List.mem_of_getElem? (i := 4) rfl))) (mvT hZ (hw _ (List.mem_of_getElem? (i := 5) rfl))) (notFace_of_selects (args := #[]) (mvT hZ (hw _ (List.mem_of_getElem? (i := 7) rfl)))) (mvT hZ (hw _ (List.mem_of_getElem? (i := 7) rfl))) (mvT hZ (hw _ (List.mem_of_getElem? (i := 6) rfl))) (by decide) (backOf (W := 0) (rm1 l Z a0 hw [] w4 ((p2 &&& (7 : Int32)) - (2 : Int32)) wO h0 n0 Z0 SO) hZ (hw _ (List.mem_of_getElem? (i := 8) rfl)) (hw _ (List.mem_of_getElem? (i := 2) rfl)) (by decide) (by decide)) q6a q6c (g := (mkF m 99 #[.val (.int p1), .val (.int p2), .val (.int p3), .val (.int (own_rem (p1 &&& (2147483647 : Int32)) (3 : Int32))), .val (.ref w4), .val (.int ((p2 &&& (7 : Int32)) - (2 : Int32))), .val (.int (0 : Int32))] [(.int ((p2 &&& (7 : Int32)) - (2 : Int32))), (.ref w4)])) rfl (by rw [hml]; rfl) (Steps.refl _) (argsL := [(.int ((p2 &&& (7 : Int32)) - (2 : Int32)))]) (rest := []) (lenOf pd_0_0 rfl) rfl (by show 2 * 0 + _ ≤ _; exact Nat.le_of_eq rfl) (hb hby at_99) (fun _ _ => ⟨rfl, e5, (by decide : 0 + 0 ≤ _), (by decide : 0 + 0 ≤ _)⟩)
  dsimp only [Pt.U, Pt.locs, Pt.cells, Pt.slots] at X6 l6 y6 z6 st6 hQ6
  subst l6 y6 z6
  obtain ⟨rfl, N6q, e4⟩ := hQ6      -- what it returned, that it wrote nothing old, and the rest of your Q1
  have N6 := Fr.app N0 N6q
  obtain ⟨fs, hr, hrun, hended, hW, hsame⟩ := X6.leave (v := some (.int (1 : Int32))) (fun h => by rw [Bd.returns] at h; cases h)
  refine ⟨_, _, pre0 _ ?_, hrun, hended, _, _, rfl, ?_, ⟨_, rfl⟩, hW, hsame.mono (by decide) (by decide)⟩
  -- 4. STEPS
  · show Steps p.tables e below (s₁.setTop (mkF m 0 #[.val (.int p1), .val (.int p2), .val (.int p3), .unset, .unset, .unset, .unset] [])) _
    refine XS.iloadN X0.here hx rfl (hb hby at_0) rfl ?_
    show Steps p.tables e below (s₁.setTop (mkF m 1 #[.val (.int p1), .val (.int p2), .val (.int p3), .unset, .unset, .unset, .unset] [(.int p1)])) _
    refine X0.ldcInt hx hown (mvT hZ (hw _ (List.mem_of_getElem? (i := 0) rfl))) (g := (mkF m 1 #[.val (.int p1), .val (.int p2), .val (.int p3), .unset, .unset, .unset, .unset] [(.int p1)])) rfl (hb hby at_1) _ ?_
    show Steps p.tables e below (s₁.setTop (mkF m 3 #[.val (.int p1), .val (.int p2), .val (.int p3), .unset, .unset, .unset, .unset] [(.int (2147483647 : Int32)), (.int p1)])) _
    refine XS.iand X0.here hx rfl (hb hby at_3) rfl ?_
    show Steps p.tables e below (s₁.setTop (mkF m 4 #[.val (.int p1), .val (.int p2), .val (.int p3), .unset, .unset, .unset, .unset] [(.int (p1 &&& (2147483647 : Int32)))])) _
    refine XS.iconst X0.here hx rfl (hb hby at_4) ?_
    show Steps p.tables e below (s₁.setTop (mkF m 5 #[.val (.int p1), .val (.int p2), .val (.int p3), .unset, .unset, .unset, .unset] [(.int (3 : Int32)), (.int (p1 &&& (2147483647 : Int32)))])) _
    refine iremM X0 hx rfl (hb hby at_5) rfl (by decide) ?_
    show Steps p.tables e below (s₁.setTop (mkF m 6 #[.val (.int p1), .val (.int p2), .val (.int p3), .unset, .unset, .unset, .unset] [(.int (own_rem (p1 &&& (2147483647 : Int32)) (3 : Int32)))])) _
    refine XS.istoreN X0.here hx rfl (hb hby at_6) rfl (l' := #[.val (.int p1), .val (.int p2), .val (.int p3), .val (.int (own_rem (p1 &&& (2147483647 : Int32)) (3 : Int32))), .unset, .unset, .unset]) rfl ?_
    show Steps p.tables e below (s₁.setTop (mkF m 7 #[.val (.int p1), .val (.int p2), .val (.int p3), .val (.int (own_rem (p1 &&& (2147483647 : Int32)) (3 : Int32))), .unset, .unset, .unset] [])) _
    refine XS.iloadN X0.here hx rfl (hb hby at_7) rfl ?_
    show Steps p.tables e below (s₁.setTop (mkF m 8 #[.val (.int p1), .val (.int p2), .val (.int p3), .val (.int (own_rem (p1 &&& (2147483647 : Int32)) (3 : Int32))), .unset, .unset, .unset] [(.int (own_rem (p1 &&& (2147483647 : Int32)) (3 : Int32)))])) _
    refine XS.ifYes X0.here hx rfl (pc0 := 8) (pc' := 19) rfl (hb hby at_8) rfl ((if0 _ _).trans (feq hc8).2) (by decide) (by decide) ?_
    show Steps p.tables e below (s₁.setTop (mkF m 19 #[.val (.int p1), .val (.int p2), .val (.int p3), .val (.int (own_rem (p1 &&& (2147483647 : Int32)) (3 : Int32))), .unset, .unset, .unset] [])) _
    refine XS.iloadN X0.here hx rfl (hb hby at_19) rfl ?_
    show Steps p.tables e below (s₁.setTop (mkF m 20 #[.val (.int p1), .val (.int p2), .val (.int p3), .val (.int (own_rem (p1 &&& (2147483647 : Int32)) (3 : Int32))), .unset, .unset, .unset] [(.int (own_rem (p1 &&& (2147483647 : Int32)) (3 : Int32)))])) _
    refine XS.iconst X0.here hx rfl (hb hby at_20) ?_
    show Steps p.tables e below (s₁.setTop (mkF m 21 #[.val (.int p1), .val (.int p2), .val (.int p3), .val (.int (own_rem (p1 &&& (2147483647 : Int32)) (3 : Int32))), .unset, .unset, .unset] [(.int (1 : Int32)), (.int (own_rem (p1 &&& (2147483647 : Int32)) (3 : Int32)))])) _
    refine XS.icmpYes X0.here hx rfl (pc0 := 21) (pc' := 32) rfl (hb hby at_21) rfl (feq hc21).2 (by decide) (by decide) ?_
    show Steps p.tables e below (s₁.setTop (mkF m 32 #[.val (.int p1), .val (.int p2), .val (.int p3), .val (.int (own_rem (p1 &&& (2147483647 : Int32)) (3 : Int32))), .unset, .unset, .unset] [])) _
    refine st5 _ ?_
    show Steps p.tables e below (T5.setTop (mkF m 35 #[.val (.int p1), .val (.int p2), .val (.int p3), .val (.int (own_rem (p1 &&& (2147483647 : Int32)) (3 : Int32))), .unset, .unset, .unset] [(.ref w4)])) _
    refine XS.astore X5.here hx rfl (hb hby at_35) rfl rfl (l' := #[.val (.int p1), .val (.int p2), .val (.int p3), .val (.int (own_rem (p1 &&& (2147483647 : Int32)) (3 : Int32))), .val (.ref w4), .unset, .unset]) rfl ?_
    show Steps p.tables e below (T5.setTop (mkF m 37 #[.val (.int p1), .val (.int p2), .val (.int p3), .val (.int (own_rem (p1 &&& (2147483647 : Int32)) (3 : Int32))), .val (.ref w4), .unset, .unset] [])) _
    refine XS.iloadN X5.here hx rfl (hb hby at_37) rfl ?_
    show Steps p.tables e below (T5.setTop (mkF m 38 #[.val (.int p1), .val (.int p2), .val (.int p3), .val (.int (own_rem (p1 &&& (2147483647 : Int32)) (3 : Int32))), .val (.ref w4), .unset, .unset] [(.int p3)])) _
    refine XS.iconst X5.here hx rfl (hb hby at_38) ?_
    show Steps p.tables e below (T5.setTop (mkF m 39 #[.val (.int p1), .val (.int p2), .val (.int p3), .val (.int (own_rem (p1 &&& (2147483647 : Int32)) (3 : Int32))), .val (.ref w4), .unset, .unset] [(.int (1 : Int32)), (.int p3)])) _
    refine XS.iand X5.here hx rfl (hb hby at_39) rfl ?_
    show Steps p.tables e below (T5.setTop (mkF m 40 #[.val (.int p1), .val (.int p2), .val (.int p3), .val (.int (own_rem (p1 &&& (2147483647 : Int32)) (3 : Int32))), .val (.ref w4), .unset, .unset] [(.int (p3 &&& (1 : Int32)))])) _
    refine XS.ifYes X5.here hx rfl (pc0 := 40) (pc' := 49) rfl (hb hby at_40) rfl ((if0 _ _).trans (teq hc40).1) (by decide) (by decide) ?_
    show Steps p.tables e below (T5.setTop (mkF m 49 #[.val (.int p1), .val (.int p2), .val (.int p3), .val (.int (own_rem (p1 &&& (2147483647 : Int32)) (3 : Int32))), .val (.ref w4), .unset, .unset] [])) _
    refine XS.iloadN X5.here hx rfl (hb hby at_49) rfl ?_
    show Steps p.tables e below (T5.setTop (mkF m 50 #[.val (.int p1), .val (.int p2), .val (.int p3), .val (.int (own_rem (p1 &&& (2147483647 : Int32)) (3 : Int32))), .val (.ref w4), .unset, .unset] [(.int p2)])) _
    refine XS.bipush X5.here hx rfl (hb hby at_50) ?_
    show Steps p.tables e below (T5.setTop (mkF m 52 #[.val (.int p1), .val (.int p2), .val (.int p3), .val (.int (own_rem (p1 &&& (2147483647 : Int32)) (3 : Int32))), .val (.ref w4), .unset, .unset] [(.int (7 : Int32)), (.int p2)])) _
    refine XS.iand X5.here hx rfl (hb hby at_52) rfl ?_
    show Steps p.tables e below (T5.setTop (mkF m 53 #[.val (.int p1), .val (.int p2), .val (.int p3), .val (.int (own_rem (p1 &&& (2147483647 : Int32)) (3 : Int32))), .val (.ref w4), .unset, .unset] [(.int (p2 &&& (7 : Int32)))])) _
    refine XS.iconst X5.here hx rfl (hb hby at_53) ?_
    show Steps p.tables e below (T5.setTop (mkF m 54 #[.val (.int p1), .val (.int p2), .val (.int p3), .val (.int (own_rem (p1 &&& (2147483647 : Int32)) (3 : Int32))), .val (.ref w4), .unset, .unset] [(.int (2 : Int32)), (.int (p2 &&& (7 : Int32)))])) _
    refine XS.isub X5.here hx rfl (hb hby at_54) rfl ?_
    show Steps p.tables e below (T5.setTop (mkF m 55 #[.val (.int p1), .val (.int p2), .val (.int p3), .val (.int (own_rem (p1 &&& (2147483647 : Int32)) (3 : Int32))), .val (.ref w4), .unset, .unset] [(.int ((p2 &&& (7 : Int32)) - (2 : Int32)))])) _
    refine XS.istore X5.here hx rfl (hb hby at_55) rfl (l' := #[.val (.int p1), .val (.int p2), .val (.int p3), .val (.int (own_rem (p1 &&& (2147483647 : Int32)) (3 : Int32))), .val (.ref w4), .val (.int ((p2 &&& (7 : Int32)) - (2 : Int32))), .unset]) rfl ?_
    show Steps p.tables e below (T5.setTop (mkF m 57 #[.val (.int p1), .val (.int p2), .val (.int p3), .val (.int (own_rem (p1 &&& (2147483647 : Int32)) (3 : Int32))), .val (.ref w4), .val (.int ((p2 &&& (7 : Int32)) - (2 : Int32))), .unset] [])) _
    refine XS.iloadN X5.here hx rfl (hb hby at_57) rfl ?_
    show Steps p.tables e below (T5.setTop (mkF m 58 #[.val (.int p1), .val (.int p2), .val (.int p3), .val (.int (own_rem (p1 &&& (2147483647 : Int32)) (3 : Int32))), .val (.ref w4), .val (.int ((p2 &&& (7 : Int32)) - (2 : Int32))), .unset] [(.int (own_rem (p1 &&& (2147483647 : Int32)) (3 : Int32)))])) _
    refine XS.ifYes X5.here hx rfl (pc0 := 58) (pc' := 76) rfl (hb hby at_58) rfl ((if0 _ _).trans (feq hc58).2) (by decide) (by decide) ?_
    show Steps p.tables e below (T5.setTop (mkF m 76 #[.val (.int p1), .val (.int p2), .val (.int p3), .val (.int (own_rem (p1 &&& (2147483647 : Int32)) (3 : Int32))), .val (.ref w4), .val (.int ((p2 &&& (7 : Int32)) - (2 : Int32))), .unset] [])) _
    refine XS.iload X5.here hx rfl (hb hby at_76) rfl ?_
    show Steps p.tables e below (T5.setTop (mkF m 78 #[.val (.int p1), .val (.int p2), .val (.int p3), .val (.int (own_rem (p1 &&& (2147483647 : Int32)) (3 : Int32))), .val (.ref w4), .val (.int ((p2 &&& (7 : Int32)) - (2 : Int32))), .unset] [(.int ((p2 &&& (7 : Int32)) - (2 : Int32)))])) _
    refine XS.iconst X5.here hx rfl (hb hby at_78) ?_
    show Steps p.tables e below (T5.setTop (mkF m 79 #[.val (.int p1), .val (.int p2), .val (.int p3), .val (.int (own_rem (p1 &&& (2147483647 : Int32)) (3 : Int32))), .val (.ref w4), .val (.int ((p2 &&& (7 : Int32)) - (2 : Int32))), .unset] [(.int (1 : Int32)), (.int ((p2 &&& (7 : Int32)) - (2 : Int32)))])) _
    refine XS.icmpNo X5.here hx rfl (hb hby at_79) rfl (feq hc79).1 ?_
    show Steps p.tables e below (T5.setTop (mkF m 82 #[.val (.int p1), .val (.int p2), .val (.int p3), .val (.int (own_rem (p1 &&& (2147483647 : Int32)) (3 : Int32))), .val (.ref w4), .val (.int ((p2 &&& (7 : Int32)) - (2 : Int32))), .unset] [])) _
    refine XS.iload X5.here hx rfl (hb hby at_82) rfl ?_
    show Steps p.tables e below (T5.setTop (mkF m 84 #[.val (.int p1), .val (.int p2), .val (.int p3), .val (.int (own_rem (p1 &&& (2147483647 : Int32)) (3 : Int32))), .val (.ref w4), .val (.int ((p2 &&& (7 : Int32)) - (2 : Int32))), .unset] [(.int ((p2 &&& (7 : Int32)) - (2 : Int32)))])) _
    refine XS.iconst X5.here hx rfl (hb hby at_84) ?_
    show Steps p.tables e below (T5.setTop (mkF m 85 #[.val (.int p1), .val (.int p2), .val (.int p3), .val (.int (own_rem (p1 &&& (2147483647 : Int32)) (3 : Int32))), .val (.ref w4), .val (.int ((p2 &&& (7 : Int32)) - (2 : Int32))), .unset] [(.int (2 : Int32)), (.int ((p2 &&& (7 : Int32)) - (2 : Int32)))])) _
    refine XS.icmpYes X5.here hx rfl (pc0 := 85) (pc' := 92) rfl (hb hby at_85) rfl (feq hc85).2 (by decide) (by decide) ?_
    show Steps p.tables e below (T5.setTop (mkF m 92 #[.val (.int p1), .val (.int p2), .val (.int p3), .val (.int (own_rem (p1 &&& (2147483647 : Int32)) (3 : Int32))), .val (.ref w4), .val (.int ((p2 &&& (7 : Int32)) - (2 : Int32))), .unset] [])) _
    refine XS.iconst X5.here hx rfl (hb hby at_92) ?_
    show Steps p.tables e below (T5.setTop (mkF m 93 #[.val (.int p1), .val (.int p2), .val (.int p3), .val (.int (own_rem (p1 &&& (2147483647 : Int32)) (3 : Int32))), .val (.ref w4), .val (.int ((p2 &&& (7 : Int32)) - (2 : Int32))), .unset] [(.int (0 : Int32))])) _
    refine XS.istore X5.here hx rfl (hb hby at_93) rfl (l' := #[.val (.int p1), .val (.int p2), .val (.int p3), .val (.int (own_rem (p1 &&& (2147483647 : Int32)) (3 : Int32))), .val (.ref w4), .val (.int ((p2 &&& (7 : Int32)) - (2 : Int32))), .val (.int (0 : Int32))]) rfl ?_
    show Steps p.tables e below (T5.setTop (mkF m 95 #[.val (.int p1), .val (.int p2), .val (.int p3), .val (.int (own_rem (p1 &&& (2147483647 : Int32)) (3 : Int32))), .val (.ref w4), .val (.int ((p2 &&& (7 : Int32)) - (2 : Int32))), .val (.int (0 : Int32))] [])) _
    refine XS.aload X5.here hx rfl (hb hby at_95) rfl rfl ?_
    show Steps p.tables e below (T5.setTop (mkF m 97 #[.val (.int p1), .val (.int p2), .val (.int p3), .val (.int (own_rem (p1 &&& (2147483647 : Int32)) (3 : Int32))), .val (.ref w4), .val (.int ((p2 &&& (7 : Int32)) - (2 : Int32))), .val (.int (0 : Int32))] [(.ref w4)])) _
    refine XS.iload X5.here hx rfl (hb hby at_97) rfl ?_
    show Steps p.tables e below (T5.setTop (mkF m 99 #[.val (.int p1), .val (.int p2), .val (.int p3), .val (.int (own_rem (p1 &&& (2147483647 : Int32)) (3 : Int32))), .val (.ref w4), .val (.int ((p2 &&& (7 : Int32)) - (2 : Int32))), .val (.int (0 : Int32))] [(.int ((p2 &&& (7 : Int32)) - (2 : Int32))), (.ref w4)])) _
    refine st6.trans ?_
    show Steps p.tables e below (T6.setTop (mkF m 102 #[.val (.int p1), .val (.int p2), .val (.int p3), .val (.int (own_rem (p1 &&& (2147483647 : Int32)) (3 : Int32))), .val (.ref w4), .val (.int ((p2 &&& (7 : Int32)) - (2 : Int32))), .val (.int (0 : Int32))] [(.int (own_takes w4 wO ((p2 &&& (7 : Int32)) - (2 : Int32))))])) _
    refine XS.iload X6.here hx rfl (hb hby at_102) rfl ?_
    show Steps p.tables e below (T6.setTop (mkF m 104 #[.val (.int p1), .val (.int p2), .val (.int p3), .val (.int (own_rem (p1 &&& (2147483647 : Int32)) (3 : Int32))), .val (.ref w4), .val (.int ((p2 &&& (7 : Int32)) - (2 : Int32))), .val (.int (0 : Int32))] [(.int (0 : Int32)), (.int (own_takes w4 wO ((p2 &&& (7 : Int32)) - (2 : Int32))))])) _
    refine XS.icmpNo X6.here hx rfl (hb hby at_104) rfl (teq (hv : (own_takes w4 wO ((p2 &&& (7 : Int32)) - (2 : Int32))) = (0 : Int32))).2 ?_
    show Steps p.tables e below (T6.setTop (mkF m 107 #[.val (.int p1), .val (.int p2), .val (.int p3), .val (.int (own_rem (p1 &&& (2147483647 : Int32)) (3 : Int32))), .val (.ref w4), .val (.int ((p2 &&& (7 : Int32)) - (2 : Int32))), .val (.int (0 : Int32))] [])) _
    refine XS.iconst X6.here hx rfl (hb hby at_107) ?_
    show Steps p.tables e below (T6.setTop (mkF m 108 #[.val (.int p1), .val (.int p2), .val (.int p3), .val (.int (own_rem (p1 &&& (2147483647 : Int32)) (3 : Int32))), .val (.ref w4), .val (.int ((p2 &&& (7 : Int32)) - (2 : Int32))), .val (.int (0 : Int32))] [(.int (1 : Int32))])) _
    refine XS.goto X6.here hx rfl (pc0 := 108) (pc' := 112) rfl (hb hby at_108) (by decide) (by decide) ?_
    show Steps p.tables e below (T6.setTop (mkF m 112 #[.val (.int p1), .val (.int p2), .val (.int p3), .val (.int (own_rem (p1 &&& (2147483647 : Int32)) (3 : Int32))), .val (.ref w4), .val (.int ((p2 &&& (7 : Int32)) - (2 : Int32))), .val (.int (0 : Int32))] [(.int (1 : Int32))])) _
    exact retN X6 hx (t := .boolean) Bd.returns (by simp) (hb hby at_112) hr
  · show Ql (some (.int (1 : Int32))) n0 _ _
    exact ⟨rfl, N6⟩
set_option maxRecDepth 65536 in
set_option maxHeartbeats 40000000 in
theorem rm0_ttfttf (l : Launch) (Z : State) (a0 : Array Value) (hw : ∀ d ∈ tables_1, d.before a0 Z = true) (ws : List Jvm.Cond) (p1 : Int32) (p2 : Int32) (p3 : Int32) (w4 : Addr) (h0 : Heap) (n0 : Nat) (Z0 : n0 ≤ h0.size) (wO : Addr) (SO : Sta Z h0 "com/example/telegrid/telegrid/esp3/RepeaterMode" "OFF" "Lcom/example/telegrid/telegrid/esp3/RepeaterMode;" (.ref wO)) (hv : own_takes w4 wO p2 = 1) (S_SELECTIVE : Sta Z h0 "com/example/telegrid/telegrid/esp3/RepeaterMode" "SELECTIVE" "Lcom/example/telegrid/telegrid/esp3/RepeaterMode;" (.ref w4)) (E_w4 : Exa Z h0 w4 "com/example/telegrid/telegrid/esp3/RepeaterMode") (hc8 : ¬ ((own_rem (p1 &&& (2147483647 : Int32)) (3 : Int32)) = (0 : Int32))) (hc21 : ¬ ((own_rem (p1 &&& (2147483647 : Int32)) (3 : Int32)) = (1 : Int32))) (hc40 : ¬ ((p3 &&& (1 : Int32)) = (0 : Int32))) (hc58 : ¬ ((own_rem (p1 &&& (2147483647 : Int32)) (3 : Int32)) = (0 : Int32))) (hc79 : p2 = (1 : Int32)) :
    MetFree l x (head1 (Jvm.Cond.code x code maxLocals ret :: ws) room_1) (fun a U => a = #[(.int p1), (.int p2), (.int p3)] ∧ Z.Warmed39 U.vm ∧ U.heap = h0) (fun _ _ _ _ _ => True) (fun _ U o U' => ∃ v L, o = .returned v ∧ Ql (some (.int (1 : Int32))) n0 v L ∧ FrameEnd U o U' L room_1.cells room_1.slots) := by
  refine MetFree.of_bodySF (plainFor_of_name pn_0) hisR ?_
  intro p e s m args below meth c s₁ Bd hml0 hP hK
  obtain ⟨rfl, hZ, hh⟩ := hP
  have hx := Bd.exec
  have hby := Bd.bytes
  have hml : c.maxLocals = 7 := hml0
  have hown : s.vm.findClass "com/example/telegrid/telegrid/esp3/RepeaterModeTakesPinLaw" = some m.cls := findClass_of_methodNamed Bd.named
  have hnm := (name_of_methodNamed Bd.named Bd.method).1
  have X0 : Stand p l e room_1 s m #[(.int p1), (.int p2), (.int p3)] below meth c s₁ [] 0 0 := Stand.of_body Bd
  have e0 : s₁.heap = h0 := by rw [← hh, Bd.state]; rfl
  have N0 := Fr.nil n0
  have pre0 : ∀ t, Steps p.tables e below (s₁.setTop (mkF m 0 #[.val (.int p1), .val (.int p2), .val (.int p3), .unset, .unset, .unset, .unset] [])) t → Steps p.tables e below (s₁.setTop (entryFrame m #[(.int p1), (.int p2), (.int p3)] maxLocals)) t := fun t k => castTop (ef_0 m p1 p2 p3) k
  -- 3. LAWS
  obtain ⟨T5, X5, e5, st5⟩ := getS2 X0 hx hZ hown (host := "") (Or.inl (hw _ (List.mem_of_getElem? (i := 12) rfl))) Via.refl e0 S_SELECTIVE (g := (mkF m 32 #[.val (.int p1), .val (.int p2), .val (.int p3), .val (.int (own_rem (p1 &&& (2147483647 : Int32)) (3 : Int32))), .unset, .unset, .unset] [])) rfl (hb hby at_32)
  -- pc 99: com/example/telegrid/telegrid/esp3/RepeaterMode.takes by the contract of the body that the receiver's class selects, rm1
  obtain ⟨cq6, kq6, q6a, q6b, q6c⟩ := isOf hZ e5 E_w4
  obtain ⟨_, _, ⟨T6, L6, k6, n6⟩, -, X6, ⟨Lc6, hQ6, l6, y6, z6⟩, st6⟩ := X5.virtualBack hx (y := (⟨"com/example/telegrid/telegrid/esp3/RepeaterMode", "takes", "(I)Z"⟩ : MethodName)) (z := (⟨"com/example/telegrid/telegrid/esp3/RepeaterMode", "takes", "(I)Z"⟩ : MethodName)) hown (mvT hZ (hw _ (List.mem_of_getElem? (i := 4) rfl))) (mvT hZ (hw _ (List.mem_of_getElem? (i := 5) rfl))) (notFace_of_selects (args := #[]) (mvT hZ (hw _ (List.mem_of_getElem? (i := 7) rfl)))) (mvT hZ (hw _ (List.mem_of_getElem? (i := 7) rfl))) (mvT hZ (hw _ (List.mem_of_getElem? (i := 6) rfl))) (by decide) (backOf (W := 0) (rm1 l Z a0 hw [] w4 p2 wO h0 n0 Z0 SO) hZ (hw _ (List.mem_of_getElem? (i := 8) rfl)) (hw _ (List.mem_of_getElem? (i := 2) rfl)) (by decide) (by decide)) q6a q6c (g := (mkF m 99 #[.val (.int p1), .val (.int p2), .val (.int p3), .val (.int (own_rem (p1 &&& (2147483647 : Int32)) (3 : Int32))), .val (.ref w4), .val (.int p2), .val (.int (1 : Int32))] [(.int p2), (.ref w4)])) rfl (by rw [hml]; rfl) (Steps.refl _) (argsL := [(.int p2)]) (rest := []) (lenOf pd_0_0 rfl) rfl (by show 2 * 0 + _ ≤ _; exact Nat.le_of_eq rfl) (hb hby at_99) (fun _ _ => ⟨rfl, e5, (by decide : 0 + 0 ≤ _), (by decide : 0 + 0 ≤ _)⟩)
  dsimp only [Pt.U, Pt.locs, Pt.cells, Pt.slots] at X6 l6 y6 z6 st6 hQ6
  subst l6 y6 z6
  obtain ⟨rfl, N6q, e4⟩ := hQ6      -- what it returned, that it wrote nothing old, and the rest of your Q1
  have N6 := Fr.app N0 N6q
  obtain ⟨fs, hr, hrun, hended, hW, hsame⟩ := X6.leave (v := some (.int (1 : Int32))) (fun h => by rw [Bd.returns] at h; cases h)
  refine ⟨_, _, pre0 _ ?_, hrun, hended, _, _, rfl, ?_, ⟨_, rfl⟩, hW, hsame.mono (by decide) (by decide)⟩
  -- 4. STEPS
  · show Steps p.tables e below (s₁.setTop (mkF m 0 #[.val (.int p1), .val (.int p2), .val (.int p3), .unset, .unset, .unset, .unset] [])) _
    refine XS.iloadN X0.here hx rfl (hb hby at_0) rfl ?_
    show Steps p.tables e below (s₁.setTop (mkF m 1 #[.val (.int p1), .val (.int p2), .val (.int p3), .unset, .unset, .unset, .unset] [(.int p1)])) _
    refine X0.ldcInt hx hown (mvT hZ (hw _ (List.mem_of_getElem? (i := 0) rfl))) (g := (mkF m 1 #[.val (.int p1), .val (.int p2), .val (.int p3), .unset, .unset, .unset, .unset] [(.int p1)])) rfl (hb hby at_1) _ ?_
    show Steps p.tables e below (s₁.setTop (mkF m 3 #[.val (.int p1), .val (.int p2), .val (.int p3), .unset, .unset, .unset, .unset] [(.int (2147483647 : Int32)), (.int p1)])) _
    refine XS.iand X0.here hx rfl (hb hby at_3) rfl ?_
    show Steps p.tables e below (s₁.setTop (mkF m 4 #[.val (.int p1), .val (.int p2), .val (.int p3), .unset, .unset, .unset, .unset] [(.int (p1 &&& (2147483647 : Int32)))])) _
    refine XS.iconst X0.here hx rfl (hb hby at_4) ?_
    show Steps p.tables e below (s₁.setTop (mkF m 5 #[.val (.int p1), .val (.int p2), .val (.int p3), .unset, .unset, .unset, .unset] [(.int (3 : Int32)), (.int (p1 &&& (2147483647 : Int32)))])) _
    refine iremM X0 hx rfl (hb hby at_5) rfl (by decide) ?_
    show Steps p.tables e below (s₁.setTop (mkF m 6 #[.val (.int p1), .val (.int p2), .val (.int p3), .unset, .unset, .unset, .unset] [(.int (own_rem (p1 &&& (2147483647 : Int32)) (3 : Int32)))])) _
    refine XS.istoreN X0.here hx rfl (hb hby at_6) rfl (l' := #[.val (.int p1), .val (.int p2), .val (.int p3), .val (.int (own_rem (p1 &&& (2147483647 : Int32)) (3 : Int32))), .unset, .unset, .unset]) rfl ?_
    show Steps p.tables e below (s₁.setTop (mkF m 7 #[.val (.int p1), .val (.int p2), .val (.int p3), .val (.int (own_rem (p1 &&& (2147483647 : Int32)) (3 : Int32))), .unset, .unset, .unset] [])) _
    refine XS.iloadN X0.here hx rfl (hb hby at_7) rfl ?_
    show Steps p.tables e below (s₁.setTop (mkF m 8 #[.val (.int p1), .val (.int p2), .val (.int p3), .val (.int (own_rem (p1 &&& (2147483647 : Int32)) (3 : Int32))), .unset, .unset, .unset] [(.int (own_rem (p1 &&& (2147483647 : Int32)) (3 : Int32)))])) _
    refine XS.ifYes X0.here hx rfl (pc0 := 8) (pc' := 19) rfl (hb hby at_8) rfl ((if0 _ _).trans (feq hc8).2) (by decide) (by decide) ?_
    show Steps p.tables e below (s₁.setTop (mkF m 19 #[.val (.int p1), .val (.int p2), .val (.int p3), .val (.int (own_rem (p1 &&& (2147483647 : Int32)) (3 : Int32))), .unset, .unset, .unset] [])) _
    refine XS.iloadN X0.here hx rfl (hb hby at_19) rfl ?_
    show Steps p.tables e below (s₁.setTop (mkF m 20 #[.val (.int p1), .val (.int p2), .val (.int p3), .val (.int (own_rem (p1 &&& (2147483647 : Int32)) (3 : Int32))), .unset, .unset, .unset] [(.int (own_rem (p1 &&& (2147483647 : Int32)) (3 : Int32)))])) _
    refine XS.iconst X0.here hx rfl (hb hby at_20) ?_
    show Steps p.tables e below (s₁.setTop (mkF m 21 #[.val (.int p1), .val (.int p2), .val (.int p3), .val (.int (own_rem (p1 &&& (2147483647 : Int32)) (3 : Int32))), .unset, .unset, .unset] [(.int (1 : Int32)), (.int (own_rem (p1 &&& (2147483647 : Int32)) (3 : Int32)))])) _
    refine XS.icmpYes X0.here hx rfl (pc0 := 21) (pc' := 32) rfl (hb hby at_21) rfl (feq hc21).2 (by decide) (by decide) ?_
    show Steps p.tables e below (s₁.setTop (mkF m 32 #[.val (.int p1), .val (.int p2), .val (.int p3), .val (.int (own_rem (p1 &&& (2147483647 : Int32)) (3 : Int32))), .unset, .unset, .unset] [])) _
    refine st5 _ ?_
    show Steps p.tables e below (T5.setTop (mkF m 35 #[.val (.int p1), .val (.int p2), .val (.int p3), .val (.int (own_rem (p1 &&& (2147483647 : Int32)) (3 : Int32))), .unset, .unset, .unset] [(.ref w4)])) _
    refine XS.astore X5.here hx rfl (hb hby at_35) rfl rfl (l' := #[.val (.int p1), .val (.int p2), .val (.int p3), .val (.int (own_rem (p1 &&& (2147483647 : Int32)) (3 : Int32))), .val (.ref w4), .unset, .unset]) rfl ?_
    show Steps p.tables e below (T5.setTop (mkF m 37 #[.val (.int p1), .val (.int p2), .val (.int p3), .val (.int (own_rem (p1 &&& (2147483647 : Int32)) (3 : Int32))), .val (.ref w4), .unset, .unset] [])) _
    refine XS.iloadN X5.here hx rfl (hb hby at_37) rfl ?_
    show Steps p.tables e below (T5.setTop (mkF m 38 #[.val (.int p1), .val (.int p2), .val (.int p3), .val (.int (own_rem (p1 &&& (2147483647 : Int32)) (3 : Int32))), .val (.ref w4), .unset, .unset] [(.int p3)])) _
    refine XS.iconst X5.here hx rfl (hb hby at_38) ?_
    show Steps p.tables e below (T5.setTop (mkF m 39 #[.val (.int p1), .val (.int p2), .val (.int p3), .val (.int (own_rem (p1 &&& (2147483647 : Int32)) (3 : Int32))), .val (.ref w4), .unset, .unset] [(.int (1 : Int32)), (.int p3)])) _
    refine XS.iand X5.here hx rfl (hb hby at_39) rfl ?_
    show Steps p.tables e below (T5.setTop (mkF m 40 #[.val (.int p1), .val (.int p2), .val (.int p3), .val (.int (own_rem (p1 &&& (2147483647 : Int32)) (3 : Int32))), .val (.ref w4), .unset, .unset] [(.int (p3 &&& (1 : Int32)))])) _
    refine XS.ifNo X5.here hx rfl (hb hby at_40) rfl ((if0 _ _).trans (feq hc40).1) ?_
    show Steps p.tables e below (T5.setTop (mkF m 43 #[.val (.int p1), .val (.int p2), .val (.int p3), .val (.int (own_rem (p1 &&& (2147483647 : Int32)) (3 : Int32))), .val (.ref w4), .unset, .unset] [])) _
    refine XS.iloadN X5.here hx rfl (hb hby at_43) rfl ?_
    show Steps p.tables e below (T5.setTop (mkF m 44 #[.val (.int p1), .val (.int p2), .val (.int p3), .val (.int (own_rem (p1 &&& (2147483647 : Int32)) (3 : Int32))), .val (.ref w4), .unset, .unset] [(.int p2)])) _
    refine XS.istore X5.here hx rfl (hb hby at_44) rfl (l' := #[.val (.int p1), .val (.int p2), .val (.int p3), .val (.int (own_rem (p1 &&& (2147483647 : Int32)) (3 : Int32))), .val (.ref w4), .val (.int p2), .unset]) rfl ?_
    show Steps p.tables e below (T5.setTop (mkF m 46 #[.val (.int p1), .val (.int p2), .val (.int p3), .val (.int (own_rem (p1 &&& (2147483647 : Int32)) (3 : Int32))), .val (.ref w4), .val (.int p2), .unset] [])) _
    refine XS.goto X5.here hx rfl (pc0 := 46) (pc' := 57) rfl (hb hby at_46) (by decide) (by decide) ?_
    show Steps p.tables e below (T5.setTop (mkF m 57 #[.val (.int p1), .val (.int p2), .val (.int p3), .val (.int (own_rem (p1 &&& (2147483647 : Int32)) (3 : Int32))), .val (.ref w4), .val (.int p2), .unset] [])) _
    refine XS.iloadN X5.here hx rfl (hb hby at_57) rfl ?_
    show Steps p.tables e below (T5.setTop (mkF m 58 #[.val (.int p1), .val (.int p2), .val (.int p3), .val (.int (own_rem (p1 &&& (2147483647 : Int32)) (3 : Int32))), .val (.ref w4), .val (.int p2), .unset] [(.int (own_rem (p1 &&& (2147483647 : Int32)) (3 : Int32)))])) _
    refine XS.ifYes X5.here hx rfl (pc0 := 58) (pc' := 76) rfl (hb hby at_58) rfl ((if0 _ _).trans (feq hc58).2) (by decide) (by decide) ?_
    show Steps p.tables e below (T5.setTop (mkF m 76 #[.val (.int p1), .val (.int p2), .val (.int p3), .val (.int (own_rem (p1 &&& (2147483647 : Int32)) (3 : Int32))), .val (.ref w4), .val (.int p2), .unset] [])) _
    refine XS.iload X5.here hx rfl (hb hby at_76) rfl ?_
    show Steps p.tables e below (T5.setTop (mkF m 78 #[.val (.int p1), .val (.int p2), .val (.int p3), .val (.int (own_rem (p1 &&& (2147483647 : Int32)) (3 : Int32))), .val (.ref w4), .val (.int p2), .unset] [(.int p2)])) _
    refine XS.iconst X5.here hx rfl (hb hby at_78) ?_
    show Steps p.tables e below (T5.setTop (mkF m 79 #[.val (.int p1), .val (.int p2), .val (.int p3), .val (.int (own_rem (p1 &&& (2147483647 : Int32)) (3 : Int32))), .val (.ref w4), .val (.int p2), .unset] [(.int (1 : Int32)), (.int p2)])) _
    refine XS.icmpYes X5.here hx rfl (pc0 := 79) (pc' := 88) rfl (hb hby at_79) rfl (teq hc79).1 (by decide) (by decide) ?_
    show Steps p.tables e below (T5.setTop (mkF m 88 #[.val (.int p1), .val (.int p2), .val (.int p3), .val (.int (own_rem (p1 &&& (2147483647 : Int32)) (3 : Int32))), .val (.ref w4), .val (.int p2), .unset] [])) _
    refine XS.iconst X5.here hx rfl (hb hby at_88) ?_
    show Steps p.tables e below (T5.setTop (mkF m 89 #[.val (.int p1), .val (.int p2), .val (.int p3), .val (.int (own_rem (p1 &&& (2147483647 : Int32)) (3 : Int32))), .val (.ref w4), .val (.int p2), .unset] [(.int (1 : Int32))])) _
    refine XS.goto X5.here hx rfl (pc0 := 89) (pc' := 93) rfl (hb hby at_89) (by decide) (by decide) ?_
    show Steps p.tables e below (T5.setTop (mkF m 93 #[.val (.int p1), .val (.int p2), .val (.int p3), .val (.int (own_rem (p1 &&& (2147483647 : Int32)) (3 : Int32))), .val (.ref w4), .val (.int p2), .unset] [(.int (1 : Int32))])) _
    refine XS.istore X5.here hx rfl (hb hby at_93) rfl (l' := #[.val (.int p1), .val (.int p2), .val (.int p3), .val (.int (own_rem (p1 &&& (2147483647 : Int32)) (3 : Int32))), .val (.ref w4), .val (.int p2), .val (.int (1 : Int32))]) rfl ?_
    show Steps p.tables e below (T5.setTop (mkF m 95 #[.val (.int p1), .val (.int p2), .val (.int p3), .val (.int (own_rem (p1 &&& (2147483647 : Int32)) (3 : Int32))), .val (.ref w4), .val (.int p2), .val (.int (1 : Int32))] [])) _
    refine XS.aload X5.here hx rfl (hb hby at_95) rfl rfl ?_
    show Steps p.tables e below (T5.setTop (mkF m 97 #[.val (.int p1), .val (.int p2), .val (.int p3), .val (.int (own_rem (p1 &&& (2147483647 : Int32)) (3 : Int32))), .val (.ref w4), .val (.int p2), .val (.int (1 : Int32))] [(.ref w4)])) _
    refine XS.iload X5.here hx rfl (hb hby at_97) rfl ?_
    show Steps p.tables e below (T5.setTop (mkF m 99 #[.val (.int p1), .val (.int p2), .val (.int p3), .val (.int (own_rem (p1 &&& (2147483647 : Int32)) (3 : Int32))), .val (.ref w4), .val (.int p2), .val (.int (1 : Int32))] [(.int p2), (.ref w4)])) _
    refine st6.trans ?_
    show Steps p.tables e below (T6.setTop (mkF m 102 #[.val (.int p1), .val (.int p2), .val (.int p3), .val (.int (own_rem (p1 &&& (2147483647 : Int32)) (3 : Int32))), .val (.ref w4), .val (.int p2), .val (.int (1 : Int32))] [(.int (own_takes w4 wO p2))])) _
    refine XS.iload X6.here hx rfl (hb hby at_102) rfl ?_
    show Steps p.tables e below (T6.setTop (mkF m 104 #[.val (.int p1), .val (.int p2), .val (.int p3), .val (.int (own_rem (p1 &&& (2147483647 : Int32)) (3 : Int32))), .val (.ref w4), .val (.int p2), .val (.int (1 : Int32))] [(.int (1 : Int32)), (.int (own_takes w4 wO p2))])) _
    refine XS.icmpNo X6.here hx rfl (hb hby at_104) rfl (teq (hv : (own_takes w4 wO p2) = (1 : Int32))).2 ?_
    show Steps p.tables e below (T6.setTop (mkF m 107 #[.val (.int p1), .val (.int p2), .val (.int p3), .val (.int (own_rem (p1 &&& (2147483647 : Int32)) (3 : Int32))), .val (.ref w4), .val (.int p2), .val (.int (1 : Int32))] [])) _
    refine XS.iconst X6.here hx rfl (hb hby at_107) ?_
    show Steps p.tables e below (T6.setTop (mkF m 108 #[.val (.int p1), .val (.int p2), .val (.int p3), .val (.int (own_rem (p1 &&& (2147483647 : Int32)) (3 : Int32))), .val (.ref w4), .val (.int p2), .val (.int (1 : Int32))] [(.int (1 : Int32))])) _
    refine XS.goto X6.here hx rfl (pc0 := 108) (pc' := 112) rfl (hb hby at_108) (by decide) (by decide) ?_
    show Steps p.tables e below (T6.setTop (mkF m 112 #[.val (.int p1), .val (.int p2), .val (.int p3), .val (.int (own_rem (p1 &&& (2147483647 : Int32)) (3 : Int32))), .val (.ref w4), .val (.int p2), .val (.int (1 : Int32))] [(.int (1 : Int32))])) _
    exact retN X6 hx (t := .boolean) Bd.returns (by simp) (hb hby at_112) hr
  · show Ql (some (.int (1 : Int32))) n0 _ _
    exact ⟨rfl, N6⟩
set_option maxRecDepth 65536 in
set_option maxHeartbeats 40000000 in
theorem rm0_ttftfff (l : Launch) (Z : State) (a0 : Array Value) (hw : ∀ d ∈ tables_1, d.before a0 Z = true) (ws : List Jvm.Cond) (p1 : Int32) (p2 : Int32) (p3 : Int32) (w4 : Addr) (h0 : Heap) (n0 : Nat) (Z0 : n0 ≤ h0.size) (wO : Addr) (SO : Sta Z h0 "com/example/telegrid/telegrid/esp3/RepeaterMode" "OFF" "Lcom/example/telegrid/telegrid/esp3/RepeaterMode;" (.ref wO)) (hv : own_takes w4 wO p2 = 1) (S_SELECTIVE : Sta Z h0 "com/example/telegrid/telegrid/esp3/RepeaterMode" "SELECTIVE" "Lcom/example/telegrid/telegrid/esp3/RepeaterMode;" (.ref w4)) (E_w4 : Exa Z h0 w4 "com/example/telegrid/telegrid/esp3/RepeaterMode") (hc8 : ¬ ((own_rem (p1 &&& (2147483647 : Int32)) (3 : Int32)) = (0 : Int32))) (hc21 : ¬ ((own_rem (p1 &&& (2147483647 : Int32)) (3 : Int32)) = (1 : Int32))) (hc40 : ¬ ((p3 &&& (1 : Int32)) = (0 : Int32))) (hc58 : ¬ ((own_rem (p1 &&& (2147483647 : Int32)) (3 : Int32)) = (0 : Int32))) (hc79 : ¬ (p2 = (1 : Int32))) (hc85 : p2 = (2 : Int32)) :
    MetFree l x (head1 (Jvm.Cond.code x code maxLocals ret :: ws) room_1) (fun a U => a = #[(.int p1), (.int p2), (.int p3)] ∧ Z.Warmed39 U.vm ∧ U.heap = h0) (fun _ _ _ _ _ => True) (fun _ U o U' => ∃ v L, o = .returned v ∧ Ql (some (.int (1 : Int32))) n0 v L ∧ FrameEnd U o U' L room_1.cells room_1.slots) := by
  refine MetFree.of_bodySF (plainFor_of_name pn_0) hisR ?_
  intro p e s m args below meth c s₁ Bd hml0 hP hK
  obtain ⟨rfl, hZ, hh⟩ := hP
  have hx := Bd.exec
  have hby := Bd.bytes
  have hml : c.maxLocals = 7 := hml0
  have hown : s.vm.findClass "com/example/telegrid/telegrid/esp3/RepeaterModeTakesPinLaw" = some m.cls := findClass_of_methodNamed Bd.named
  have hnm := (name_of_methodNamed Bd.named Bd.method).1
  have X0 : Stand p l e room_1 s m #[(.int p1), (.int p2), (.int p3)] below meth c s₁ [] 0 0 := Stand.of_body Bd
  have e0 : s₁.heap = h0 := by rw [← hh, Bd.state]; rfl
  have N0 := Fr.nil n0
  have pre0 : ∀ t, Steps p.tables e below (s₁.setTop (mkF m 0 #[.val (.int p1), .val (.int p2), .val (.int p3), .unset, .unset, .unset, .unset] [])) t → Steps p.tables e below (s₁.setTop (entryFrame m #[(.int p1), (.int p2), (.int p3)] maxLocals)) t := fun t k => castTop (ef_0 m p1 p2 p3) k
  -- 3. LAWS
  obtain ⟨T5, X5, e5, st5⟩ := getS2 X0 hx hZ hown (host := "") (Or.inl (hw _ (List.mem_of_getElem? (i := 12) rfl))) Via.refl e0 S_SELECTIVE (g := (mkF m 32 #[.val (.int p1), .val (.int p2), .val (.int p3), .val (.int (own_rem (p1 &&& (2147483647 : Int32)) (3 : Int32))), .unset, .unset, .unset] [])) rfl (hb hby at_32)
  -- pc 99: com/example/telegrid/telegrid/esp3/RepeaterMode.takes by the contract of the body that the receiver's class selects, rm1
  obtain ⟨cq6, kq6, q6a, q6b, q6c⟩ := isOf hZ e5 E_w4
  obtain ⟨_, _, ⟨T6, L6, k6, n6⟩, -, X6, ⟨Lc6, hQ6, l6, y6, z6⟩, st6⟩ := X5.virtualBack hx (y := (⟨"com/example/telegrid/telegrid/esp3/RepeaterMode", "takes", "(I)Z"⟩ : MethodName)) (z := (⟨"com/example/telegrid/telegrid/esp3/RepeaterMode", "takes", "(I)Z"⟩ : MethodName)) hown (mvT hZ (hw _ (List.mem_of_getElem? (i := 4) rfl))) (mvT hZ (hw _ (List.mem_of_getElem? (i := 5) rfl))) (notFace_of_selects (args := #[]) (mvT hZ (hw _ (List.mem_of_getElem? (i := 7) rfl)))) (mvT hZ (hw _ (List.mem_of_getElem? (i := 7) rfl))) (mvT hZ (hw _ (List.mem_of_getElem? (i := 6) rfl))) (by decide) (backOf (W := 0) (rm1 l Z a0 hw [] w4 p2 wO h0 n0 Z0 SO) hZ (hw _ (List.mem_of_getElem? (i := 8) rfl)) (hw _ (List.mem_of_getElem? (i := 2) rfl)) (by decide) (by decide)) q6a q6c (g := (mkF m 99 #[.val (.int p1), .val (.int p2), .val (.int p3), .val (.int (own_rem (p1 &&& (2147483647 : Int32)) (3 : Int32))), .val (.ref w4), .val (.int p2), .val (.int (1 : Int32))] [(.int p2), (.ref w4)])) rfl (by rw [hml]; rfl) (Steps.refl _) (argsL := [(.int p2)]) (rest := []) (lenOf pd_0_0 rfl) rfl (by show 2 * 0 + _ ≤ _; exact Nat.le_of_eq rfl) (hb hby at_99) (fun _ _ => ⟨rfl, e5, (by decide : 0 + 0 ≤ _), (by decide : 0 + 0 ≤ _)⟩)
  dsimp only [Pt.U, Pt.locs, Pt.cells, Pt.slots] at X6 l6 y6 z6 st6 hQ6
  subst l6 y6 z6
  obtain ⟨rfl, N6q, e4⟩ := hQ6      -- what it returned, that it wrote nothing old, and the rest of your Q1
  have N6 := Fr.app N0 N6q
  obtain ⟨fs, hr, hrun, hended, hW, hsame⟩ := X6.leave (v := some (.int (1 : Int32))) (fun h => by rw [Bd.returns] at h; cases h)
  refine ⟨_, _, pre0 _ ?_, hrun, hended, _, _, rfl, ?_, ⟨_, rfl⟩, hW, hsame.mono (by decide) (by decide)⟩
  -- 4. STEPS
  · show Steps p.tables e below (s₁.setTop (mkF m 0 #[.val (.int p1), .val (.int p2), .val (.int p3), .unset, .unset, .unset, .unset] [])) _
    refine XS.iloadN X0.here hx rfl (hb hby at_0) rfl ?_
    show Steps p.tables e below (s₁.setTop (mkF m 1 #[.val (.int p1), .val (.int p2), .val (.int p3), .unset, .unset, .unset, .unset] [(.int p1)])) _
    refine X0.ldcInt hx hown (mvT hZ (hw _ (List.mem_of_getElem? (i := 0) rfl))) (g := (mkF m 1 #[.val (.int p1), .val (.int p2), .val (.int p3), .unset, .unset, .unset, .unset] [(.int p1)])) rfl (hb hby at_1) _ ?_
    show Steps p.tables e below (s₁.setTop (mkF m 3 #[.val (.int p1), .val (.int p2), .val (.int p3), .unset, .unset, .unset, .unset] [(.int (2147483647 : Int32)), (.int p1)])) _
    refine XS.iand X0.here hx rfl (hb hby at_3) rfl ?_
    show Steps p.tables e below (s₁.setTop (mkF m 4 #[.val (.int p1), .val (.int p2), .val (.int p3), .unset, .unset, .unset, .unset] [(.int (p1 &&& (2147483647 : Int32)))])) _
    refine XS.iconst X0.here hx rfl (hb hby at_4) ?_
    show Steps p.tables e below (s₁.setTop (mkF m 5 #[.val (.int p1), .val (.int p2), .val (.int p3), .unset, .unset, .unset, .unset] [(.int (3 : Int32)), (.int (p1 &&& (2147483647 : Int32)))])) _
    refine iremM X0 hx rfl (hb hby at_5) rfl (by decide) ?_
    show Steps p.tables e below (s₁.setTop (mkF m 6 #[.val (.int p1), .val (.int p2), .val (.int p3), .unset, .unset, .unset, .unset] [(.int (own_rem (p1 &&& (2147483647 : Int32)) (3 : Int32)))])) _
    refine XS.istoreN X0.here hx rfl (hb hby at_6) rfl (l' := #[.val (.int p1), .val (.int p2), .val (.int p3), .val (.int (own_rem (p1 &&& (2147483647 : Int32)) (3 : Int32))), .unset, .unset, .unset]) rfl ?_
    show Steps p.tables e below (s₁.setTop (mkF m 7 #[.val (.int p1), .val (.int p2), .val (.int p3), .val (.int (own_rem (p1 &&& (2147483647 : Int32)) (3 : Int32))), .unset, .unset, .unset] [])) _
    refine XS.iloadN X0.here hx rfl (hb hby at_7) rfl ?_
    show Steps p.tables e below (s₁.setTop (mkF m 8 #[.val (.int p1), .val (.int p2), .val (.int p3), .val (.int (own_rem (p1 &&& (2147483647 : Int32)) (3 : Int32))), .unset, .unset, .unset] [(.int (own_rem (p1 &&& (2147483647 : Int32)) (3 : Int32)))])) _
    refine XS.ifYes X0.here hx rfl (pc0 := 8) (pc' := 19) rfl (hb hby at_8) rfl ((if0 _ _).trans (feq hc8).2) (by decide) (by decide) ?_
    show Steps p.tables e below (s₁.setTop (mkF m 19 #[.val (.int p1), .val (.int p2), .val (.int p3), .val (.int (own_rem (p1 &&& (2147483647 : Int32)) (3 : Int32))), .unset, .unset, .unset] [])) _
    refine XS.iloadN X0.here hx rfl (hb hby at_19) rfl ?_
    show Steps p.tables e below (s₁.setTop (mkF m 20 #[.val (.int p1), .val (.int p2), .val (.int p3), .val (.int (own_rem (p1 &&& (2147483647 : Int32)) (3 : Int32))), .unset, .unset, .unset] [(.int (own_rem (p1 &&& (2147483647 : Int32)) (3 : Int32)))])) _
    refine XS.iconst X0.here hx rfl (hb hby at_20) ?_
    show Steps p.tables e below (s₁.setTop (mkF m 21 #[.val (.int p1), .val (.int p2), .val (.int p3), .val (.int (own_rem (p1 &&& (2147483647 : Int32)) (3 : Int32))), .unset, .unset, .unset] [(.int (1 : Int32)), (.int (own_rem (p1 &&& (2147483647 : Int32)) (3 : Int32)))])) _
    refine XS.icmpYes X0.here hx rfl (pc0 := 21) (pc' := 32) rfl (hb hby at_21) rfl (feq hc21).2 (by decide) (by decide) ?_
    show Steps p.tables e below (s₁.setTop (mkF m 32 #[.val (.int p1), .val (.int p2), .val (.int p3), .val (.int (own_rem (p1 &&& (2147483647 : Int32)) (3 : Int32))), .unset, .unset, .unset] [])) _
    refine st5 _ ?_
    show Steps p.tables e below (T5.setTop (mkF m 35 #[.val (.int p1), .val (.int p2), .val (.int p3), .val (.int (own_rem (p1 &&& (2147483647 : Int32)) (3 : Int32))), .unset, .unset, .unset] [(.ref w4)])) _
    refine XS.astore X5.here hx rfl (hb hby at_35) rfl rfl (l' := #[.val (.int p1), .val (.int p2), .val (.int p3), .val (.int (own_rem (p1 &&& (2147483647 : Int32)) (3 : Int32))), .val (.ref w4), .unset, .unset]) rfl ?_
    show Steps p.tables e below (T5.setTop (mkF m 37 #[.val (.int p1), .val (.int p2), .val (.int p3), .val (.int (own_rem (p1 &&& (2147483647 : Int32)) (3 : Int32))), .val (.ref w4), .unset, .unset] [])) _
    refine XS.iloadN X5.here hx rfl (hb hby at_37) rfl ?_
    show Steps p.tables e below (T5.setTop (mkF m 38 #[.val (.int p1), .val (.int p2), .val (.int p3), .val (.int (own_rem (p1 &&& (2147483647 : Int32)) (3 : Int32))), .val (.ref w4), .unset, .unset] [(.int p3)])) _
    refine XS.iconst X5.here hx rfl (hb hby at_38) ?_
    show Steps p.tables e below (T5.setTop (mkF m 39 #[.val (.int p1), .val (.int p2), .val (.int p3), .val (.int (own_rem (p1 &&& (2147483647 : Int32)) (3 : Int32))), .val (.ref w4), .unset, .unset] [(.int (1 : Int32)), (.int p3)])) _
    refine XS.iand X5.here hx rfl (hb hby at_39) rfl ?_
    show Steps p.tables e below (T5.setTop (mkF m 40 #[.val (.int p1), .val (.int p2), .val (.int p3), .val (.int (own_rem (p1 &&& (2147483647 : Int32)) (3 : Int32))), .val (.ref w4), .unset, .unset] [(.int (p3 &&& (1 : Int32)))])) _
    refine XS.ifNo X5.here hx rfl (hb hby at_40) rfl ((if0 _ _).trans (feq hc40).1) ?_
    show Steps p.tables e below (T5.setTop (mkF m 43 #[.val (.int p1), .val (.int p2), .val (.int p3), .val (.int (own_rem (p1 &&& (2147483647 : Int32)) (3 : Int32))), .val (.ref w4), .unset, .unset] [])) _
    refine XS.iloadN X5.here hx rfl (hb hby at_43) rfl ?_
    show Steps p.tables e below (T5.setTop (mkF m 44 #[.val (.int p1), .val (.int p2), .val (.int p3), .val (.int (own_rem (p1 &&& (2147483647 : Int32)) (3 : Int32))), .val (.ref w4), .unset, .unset] [(.int p2)])) _
    refine XS.istore X5.here hx rfl (hb hby at_44) rfl (l' := #[.val (.int p1), .val (.int p2), .val (.int p3), .val (.int (own_rem (p1 &&& (2147483647 : Int32)) (3 : Int32))), .val (.ref w4), .val (.int p2), .unset]) rfl ?_
    show Steps p.tables e below (T5.setTop (mkF m 46 #[.val (.int p1), .val (.int p2), .val (.int p3), .val (.int (own_rem (p1 &&& (2147483647 : Int32)) (3 : Int32))), .val (.ref w4), .val (.int p2), .unset] [])) _
    refine XS.goto X5.here hx rfl (pc0 := 46) (pc' := 57) rfl (hb hby at_46) (by decide) (by decide) ?_
    show Steps p.tables e below (T5.setTop (mkF m 57 #[.val (.int p1), .val (.int p2), .val (.int p3), .val (.int (own_rem (p1 &&& (2147483647 : Int32)) (3 : Int32))), .val (.ref w4), .val (.int p2), .unset] [])) _
    refine XS.iloadN X5.here hx rfl (hb hby at_57) rfl ?_
    show Steps p.tables e below (T5.setTop (mkF m 58 #[.val (.int p1), .val (.int p2), .val (.int p3), .val (.int (own_rem (p1 &&& (2147483647 : Int32)) (3 : Int32))), .val (.ref w4), .val (.int p2), .unset] [(.int (own_rem (p1 &&& (2147483647 : Int32)) (3 : Int32)))])) _
    refine XS.ifYes X5.here hx rfl (pc0 := 58) (pc' := 76) rfl (hb hby at_58) rfl ((if0 _ _).trans (feq hc58).2) (by decide) (by decide) ?_
    show Steps p.tables e below (T5.setTop (mkF m 76 #[.val (.int p1), .val (.int p2), .val (.int p3), .val (.int (own_rem (p1 &&& (2147483647 : Int32)) (3 : Int32))), .val (.ref w4), .val (.int p2), .unset] [])) _
    refine XS.iload X5.here hx rfl (hb hby at_76) rfl ?_
    show Steps p.tables e below (T5.setTop (mkF m 78 #[.val (.int p1), .val (.int p2), .val (.int p3), .val (.int (own_rem (p1 &&& (2147483647 : Int32)) (3 : Int32))), .val (.ref w4), .val (.int p2), .unset] [(.int p2)])) _
    refine XS.iconst X5.here hx rfl (hb hby at_78) ?_
    show Steps p.tables e below (T5.setTop (mkF m 79 #[.val (.int p1), .val (.int p2), .val (.int p3), .val (.int (own_rem (p1 &&& (2147483647 : Int32)) (3 : Int32))), .val (.ref w4), .val (.int p2), .unset] [(.int (1 : Int32)), (.int p2)])) _
    refine XS.icmpNo X5.here hx rfl (hb hby at_79) rfl (feq hc79).1 ?_
    show Steps p.tables e below (T5.setTop (mkF m 82 #[.val (.int p1), .val (.int p2), .val (.int p3), .val (.int (own_rem (p1 &&& (2147483647 : Int32)) (3 : Int32))), .val (.ref w4), .val (.int p2), .unset] [])) _
    refine XS.iload X5.here hx rfl (hb hby at_82) rfl ?_
    show Steps p.tables e below (T5.setTop (mkF m 84 #[.val (.int p1), .val (.int p2), .val (.int p3), .val (.int (own_rem (p1 &&& (2147483647 : Int32)) (3 : Int32))), .val (.ref w4), .val (.int p2), .unset] [(.int p2)])) _
    refine XS.iconst X5.here hx rfl (hb hby at_84) ?_
    show Steps p.tables e below (T5.setTop (mkF m 85 #[.val (.int p1), .val (.int p2), .val (.int p3), .val (.int (own_rem (p1 &&& (2147483647 : Int32)) (3 : Int32))), .val (.ref w4), .val (.int p2), .unset] [(.int (2 : Int32)), (.int p2)])) _
    refine XS.icmpNo X5.here hx rfl (hb hby at_85) rfl (teq hc85).2 ?_
    show Steps p.tables e below (T5.setTop (mkF m 88 #[.val (.int p1), .val (.int p2), .val (.int p3), .val (.int (own_rem (p1 &&& (2147483647 : Int32)) (3 : Int32))), .val (.ref w4), .val (.int p2), .unset] [])) _
    refine XS.iconst X5.here hx rfl (hb hby at_88) ?_
    show Steps p.tables e below (T5.setTop (mkF m 89 #[.val (.int p1), .val (.int p2), .val (.int p3), .val (.int (own_rem (p1 &&& (2147483647 : Int32)) (3 : Int32))), .val (.ref w4), .val (.int p2), .unset] [(.int (1 : Int32))])) _
    refine XS.goto X5.here hx rfl (pc0 := 89) (pc' := 93) rfl (hb hby at_89) (by decide) (by decide) ?_
    show Steps p.tables e below (T5.setTop (mkF m 93 #[.val (.int p1), .val (.int p2), .val (.int p3), .val (.int (own_rem (p1 &&& (2147483647 : Int32)) (3 : Int32))), .val (.ref w4), .val (.int p2), .unset] [(.int (1 : Int32))])) _
    refine XS.istore X5.here hx rfl (hb hby at_93) rfl (l' := #[.val (.int p1), .val (.int p2), .val (.int p3), .val (.int (own_rem (p1 &&& (2147483647 : Int32)) (3 : Int32))), .val (.ref w4), .val (.int p2), .val (.int (1 : Int32))]) rfl ?_
    show Steps p.tables e below (T5.setTop (mkF m 95 #[.val (.int p1), .val (.int p2), .val (.int p3), .val (.int (own_rem (p1 &&& (2147483647 : Int32)) (3 : Int32))), .val (.ref w4), .val (.int p2), .val (.int (1 : Int32))] [])) _
    refine XS.aload X5.here hx rfl (hb hby at_95) rfl rfl ?_
    show Steps p.tables e below (T5.setTop (mkF m 97 #[.val (.int p1), .val (.int p2), .val (.int p3), .val (.int (own_rem (p1 &&& (2147483647 : Int32)) (3 : Int32))), .val (.ref w4), .val (.int p2), .val (.int (1 : Int32))] [(.ref w4)])) _
    refine XS.iload X5.here hx rfl (hb hby at_97) rfl ?_
    show Steps p.tables e below (T5.setTop (mkF m 99 #[.val (.int p1), .val (.int p2), .val (.int p3), .val (.int (own_rem (p1 &&& (2147483647 : Int32)) (3 : Int32))), .val (.ref w4), .val (.int p2), .val (.int (1 : Int32))] [(.int p2), (.ref w4)])) _
    refine st6.trans ?_
    show Steps p.tables e below (T6.setTop (mkF m 102 #[.val (.int p1), .val (.int p2), .val (.int p3), .val (.int (own_rem (p1 &&& (2147483647 : Int32)) (3 : Int32))), .val (.ref w4), .val (.int p2), .val (.int (1 : Int32))] [(.int (own_takes w4 wO p2))])) _
    refine XS.iload X6.here hx rfl (hb hby at_102) rfl ?_
    show Steps p.tables e below (T6.setTop (mkF m 104 #[.val (.int p1), .val (.int p2), .val (.int p3), .val (.int (own_rem (p1 &&& (2147483647 : Int32)) (3 : Int32))), .val (.ref w4), .val (.int p2), .val (.int (1 : Int32))] [(.int (1 : Int32)), (.int (own_takes w4 wO p2))])) _
    refine XS.icmpNo X6.here hx rfl (hb hby at_104) rfl (teq (hv : (own_takes w4 wO p2) = (1 : Int32))).2 ?_
    show Steps p.tables e below (T6.setTop (mkF m 107 #[.val (.int p1), .val (.int p2), .val (.int p3), .val (.int (own_rem (p1 &&& (2147483647 : Int32)) (3 : Int32))), .val (.ref w4), .val (.int p2), .val (.int (1 : Int32))] [])) _
    refine XS.iconst X6.here hx rfl (hb hby at_107) ?_
    show Steps p.tables e below (T6.setTop (mkF m 108 #[.val (.int p1), .val (.int p2), .val (.int p3), .val (.int (own_rem (p1 &&& (2147483647 : Int32)) (3 : Int32))), .val (.ref w4), .val (.int p2), .val (.int (1 : Int32))] [(.int (1 : Int32))])) _
    refine XS.goto X6.here hx rfl (pc0 := 108) (pc' := 112) rfl (hb hby at_108) (by decide) (by decide) ?_
    show Steps p.tables e below (T6.setTop (mkF m 112 #[.val (.int p1), .val (.int p2), .val (.int p3), .val (.int (own_rem (p1 &&& (2147483647 : Int32)) (3 : Int32))), .val (.ref w4), .val (.int p2), .val (.int (1 : Int32))] [(.int (1 : Int32))])) _
    exact retN X6 hx (t := .boolean) Bd.returns (by simp) (hb hby at_112) hr
  · show Ql (some (.int (1 : Int32))) n0 _ _
    exact ⟨rfl, N6⟩
set_option maxRecDepth 65536 in
set_option maxHeartbeats 40000000 in
theorem rm0_ttftftf (l : Launch) (Z : State) (a0 : Array Value) (hw : ∀ d ∈ tables_1, d.before a0 Z = true) (ws : List Jvm.Cond) (p1 : Int32) (p2 : Int32) (p3 : Int32) (w4 : Addr) (h0 : Heap) (n0 : Nat) (Z0 : n0 ≤ h0.size) (wO : Addr) (SO : Sta Z h0 "com/example/telegrid/telegrid/esp3/RepeaterMode" "OFF" "Lcom/example/telegrid/telegrid/esp3/RepeaterMode;" (.ref wO)) (hv : own_takes w4 wO p2 = 0) (S_SELECTIVE : Sta Z h0 "com/example/telegrid/telegrid/esp3/RepeaterMode" "SELECTIVE" "Lcom/example/telegrid/telegrid/esp3/RepeaterMode;" (.ref w4)) (E_w4 : Exa Z h0 w4 "com/example/telegrid/telegrid/esp3/RepeaterMode") (hc8 : ¬ ((own_rem (p1 &&& (2147483647 : Int32)) (3 : Int32)) = (0 : Int32))) (hc21 : ¬ ((own_rem (p1 &&& (2147483647 : Int32)) (3 : Int32)) = (1 : Int32))) (hc40 : ¬ ((p3 &&& (1 : Int32)) = (0 : Int32))) (hc58 : ¬ ((own_rem (p1 &&& (2147483647 : Int32)) (3 : Int32)) = (0 : Int32))) (hc79 : ¬ (p2 = (1 : Int32))) (hc85 : ¬ (p2 = (2 : Int32))) :
    MetFree l x (head1 (Jvm.Cond.code x code maxLocals ret :: ws) room_1) (fun a U => a = #[(.int p1), (.int p2), (.int p3)] ∧ Z.Warmed39 U.vm ∧ U.heap = h0) (fun _ _ _ _ _ => True) (fun _ U o U' => ∃ v L, o = .returned v ∧ Ql (some (.int (1 : Int32))) n0 v L ∧ FrameEnd U o U' L room_1.cells room_1.slots) := by
  refine MetFree.of_bodySF (plainFor_of_name pn_0) hisR ?_
  intro p e s m args below meth c s₁ Bd hml0 hP hK
  obtain ⟨rfl, hZ, hh⟩ := hP
  have hx := Bd.exec
  have hby := Bd.bytes
  have hml : c.maxLocals = 7 := hml0
  have hown : s.vm.findClass "com/example/telegrid/telegrid/esp3/RepeaterModeTakesPinLaw" = some m.cls := findClass_of_methodNamed Bd.named
  have hnm := (name_of_methodNamed Bd.named Bd.method).1
  have X0 : Stand p l e room_1 s m #[(.int p1), (.int p2), (.int p3)] below meth c s₁ [] 0 0 := Stand.of_body Bd
  have e0 : s₁.heap = h0 := by rw [← hh, Bd.state]; rfl
  have N0 := Fr.nil n0
  have pre0 : ∀ t, Steps p.tables e below (s₁.setTop (mkF m 0 #[.val (.int p1), .val (.int p2), .val (.int p3), .unset, .unset, .unset, .unset] [])) t → Steps p.tables e below (s₁.setTop (entryFrame m #[(.int p1), (.int p2), (.int p3)] maxLocals)) t := fun t k => castTop (ef_0 m p1 p2 p3) k
  -- 3. LAWS
  obtain ⟨T5, X5, e5, st5⟩ := getS2 X0 hx hZ hown (host := "") (Or.inl (hw _ (List.mem_of_getElem? (i := 12) rfl))) Via.refl e0 S_SELECTIVE (g := (mkF m 32 #[.val (.int p1), .val (.int p2), .val (.int p3), .val (.int (own_rem (p1 &&& (2147483647 : Int32)) (3 : Int32))), .unset, .unset, .unset] [])) rfl (hb hby at_32)
  -- pc 99: com/example/telegrid/telegrid/esp3/RepeaterMode.takes by the contract of the body that the receiver's class selects, rm1
  obtain ⟨cq6, kq6, q6a, q6b, q6c⟩ := isOf hZ e5 E_w4
  obtain ⟨_, _, ⟨T6, L6, k6, n6⟩, -, X6, ⟨Lc6, hQ6, l6, y6, z6⟩, st6⟩ := X5.virtualBack hx (y := (⟨"com/example/telegrid/telegrid/esp3/RepeaterMode", "takes", "(I)Z"⟩ : MethodName)) (z := (⟨"com/example/telegrid/telegrid/esp3/RepeaterMode", "takes", "(I)Z"⟩ : MethodName)) hown (mvT hZ (hw _ (List.mem_of_getElem? (i := 4) rfl))) (mvT hZ (hw _ (List.mem_of_getElem? (i := 5) rfl))) (notFace_of_selects (args := #[]) (mvT hZ (hw _ (List.mem_of_getElem? (i := 7) rfl)))) (mvT hZ (hw _ (List.mem_of_getElem? (i := 7) rfl))) (mvT hZ (hw _ (List.mem_of_getElem? (i := 6) rfl))) (by decide) (backOf (W := 0) (rm1 l Z a0 hw [] w4 p2 wO h0 n0 Z0 SO) hZ (hw _ (List.mem_of_getElem? (i := 8) rfl)) (hw _ (List.mem_of_getElem? (i := 2) rfl)) (by decide) (by decide)) q6a q6c (g := (mkF m 99 #[.val (.int p1), .val (.int p2), .val (.int p3), .val (.int (own_rem (p1 &&& (2147483647 : Int32)) (3 : Int32))), .val (.ref w4), .val (.int p2), .val (.int (0 : Int32))] [(.int p2), (.ref w4)])) rfl (by rw [hml]; rfl) (Steps.refl _) (argsL := [(.int p2)]) (rest := []) (lenOf pd_0_0 rfl) rfl (by show 2 * 0 + _ ≤ _; exact Nat.le_of_eq rfl) (hb hby at_99) (fun _ _ => ⟨rfl, e5, (by decide : 0 + 0 ≤ _), (by decide : 0 + 0 ≤ _)⟩)
  dsimp only [Pt.U, Pt.locs, Pt.cells, Pt.slots] at X6 l6 y6 z6 st6 hQ6
  subst l6 y6 z6
  obtain ⟨rfl, N6q, e4⟩ := hQ6      -- what it returned, that it wrote nothing old, and the rest of your Q1
  have N6 := Fr.app N0 N6q
  obtain ⟨fs, hr, hrun, hended, hW, hsame⟩ := X6.leave (v := some (.int (1 : Int32))) (fun h => by rw [Bd.returns] at h; cases h)
  refine ⟨_, _, pre0 _ ?_, hrun, hended, _, _, rfl, ?_, ⟨_, rfl⟩, hW, hsame.mono (by decide) (by decide)⟩
  -- 4. STEPS
  · show Steps p.tables e below (s₁.setTop (mkF m 0 #[.val (.int p1), .val (.int p2), .val (.int p3), .unset, .unset, .unset, .unset] [])) _
    refine XS.iloadN X0.here hx rfl (hb hby at_0) rfl ?_
    show Steps p.tables e below (s₁.setTop (mkF m 1 #[.val (.int p1), .val (.int p2), .val (.int p3), .unset, .unset, .unset, .unset] [(.int p1)])) _
    refine X0.ldcInt hx hown (mvT hZ (hw _ (List.mem_of_getElem? (i := 0) rfl))) (g := (mkF m 1 #[.val (.int p1), .val (.int p2), .val (.int p3), .unset, .unset, .unset, .unset] [(.int p1)])) rfl (hb hby at_1) _ ?_
    show Steps p.tables e below (s₁.setTop (mkF m 3 #[.val (.int p1), .val (.int p2), .val (.int p3), .unset, .unset, .unset, .unset] [(.int (2147483647 : Int32)), (.int p1)])) _
    refine XS.iand X0.here hx rfl (hb hby at_3) rfl ?_
    show Steps p.tables e below (s₁.setTop (mkF m 4 #[.val (.int p1), .val (.int p2), .val (.int p3), .unset, .unset, .unset, .unset] [(.int (p1 &&& (2147483647 : Int32)))])) _
    refine XS.iconst X0.here hx rfl (hb hby at_4) ?_
    show Steps p.tables e below (s₁.setTop (mkF m 5 #[.val (.int p1), .val (.int p2), .val (.int p3), .unset, .unset, .unset, .unset] [(.int (3 : Int32)), (.int (p1 &&& (2147483647 : Int32)))])) _
    refine iremM X0 hx rfl (hb hby at_5) rfl (by decide) ?_
    show Steps p.tables e below (s₁.setTop (mkF m 6 #[.val (.int p1), .val (.int p2), .val (.int p3), .unset, .unset, .unset, .unset] [(.int (own_rem (p1 &&& (2147483647 : Int32)) (3 : Int32)))])) _
    refine XS.istoreN X0.here hx rfl (hb hby at_6) rfl (l' := #[.val (.int p1), .val (.int p2), .val (.int p3), .val (.int (own_rem (p1 &&& (2147483647 : Int32)) (3 : Int32))), .unset, .unset, .unset]) rfl ?_
    show Steps p.tables e below (s₁.setTop (mkF m 7 #[.val (.int p1), .val (.int p2), .val (.int p3), .val (.int (own_rem (p1 &&& (2147483647 : Int32)) (3 : Int32))), .unset, .unset, .unset] [])) _
    refine XS.iloadN X0.here hx rfl (hb hby at_7) rfl ?_
    show Steps p.tables e below (s₁.setTop (mkF m 8 #[.val (.int p1), .val (.int p2), .val (.int p3), .val (.int (own_rem (p1 &&& (2147483647 : Int32)) (3 : Int32))), .unset, .unset, .unset] [(.int (own_rem (p1 &&& (2147483647 : Int32)) (3 : Int32)))])) _
    refine XS.ifYes X0.here hx rfl (pc0 := 8) (pc' := 19) rfl (hb hby at_8) rfl ((if0 _ _).trans (feq hc8).2) (by decide) (by decide) ?_
    show Steps p.tables e below (s₁.setTop (mkF m 19 #[.val (.int p1), .val (.int p2), .val (.int p3), .val (.int (own_rem (p1 &&& (2147483647 : Int32)) (3 : Int32))), .unset, .unset, .unset] [])) _
    refine XS.iloadN X0.here hx rfl (hb hby at_19) rfl ?_
    show Steps p.tables e below (s₁.setTop (mkF m 20 #[.val (.int p1), .val (.int p2), .val (.int p3), .val (.int (own_rem (p1 &&& (2147483647 : Int32)) (3 : Int32))), .unset, .unset, .unset] [(.int (own_rem (p1 &&& (2147483647 : Int32)) (3 : Int32)))])) _
    refine XS.iconst X0.here hx rfl (hb hby at_20) ?_
    show Steps p.tables e below (s₁.setTop (mkF m 21 #[.val (.int p1), .val (.int p2), .val (.int p3), .val (.int (own_rem (p1 &&& (2147483647 : Int32)) (3 : Int32))), .unset, .unset, .unset] [(.int (1 : Int32)), (.int (own_rem (p1 &&& (2147483647 : Int32)) (3 : Int32)))])) _
    refine XS.icmpYes X0.here hx rfl (pc0 := 21) (pc' := 32) rfl (hb hby at_21) rfl (feq hc21).2 (by decide) (by decide) ?_
    show Steps p.tables e below (s₁.setTop (mkF m 32 #[.val (.int p1), .val (.int p2), .val (.int p3), .val (.int (own_rem (p1 &&& (2147483647 : Int32)) (3 : Int32))), .unset, .unset, .unset] [])) _
    refine st5 _ ?_
    show Steps p.tables e below (T5.setTop (mkF m 35 #[.val (.int p1), .val (.int p2), .val (.int p3), .val (.int (own_rem (p1 &&& (2147483647 : Int32)) (3 : Int32))), .unset, .unset, .unset] [(.ref w4)])) _
    refine XS.astore X5.here hx rfl (hb hby at_35) rfl rfl (l' := #[.val (.int p1), .val (.int p2), .val (.int p3), .val (.int (own_rem (p1 &&& (2147483647 : Int32)) (3 : Int32))), .val (.ref w4), .unset, .unset]) rfl ?_
    show Steps p.tables e below (T5.setTop (mkF m 37 #[.val (.int p1), .val (.int p2), .val (.int p3), .val (.int (own_rem (p1 &&& (2147483647 : Int32)) (3 : Int32))), .val (.ref w4), .unset, .unset] [])) _
    refine XS.iloadN X5.here hx rfl (hb hby at_37) rfl ?_
    show Steps p.tables e below (T5.setTop (mkF m 38 #[.val (.int p1), .val (.int p2), .val (.int p3), .val (.int (own_rem (p1 &&& (2147483647 : Int32)) (3 : Int32))), .val (.ref w4), .unset, .unset] [(.int p3)])) _
    refine XS.iconst X5.here hx rfl (hb hby at_38) ?_
    show Steps p.tables e below (T5.setTop (mkF m 39 #[.val (.int p1), .val (.int p2), .val (.int p3), .val (.int (own_rem (p1 &&& (2147483647 : Int32)) (3 : Int32))), .val (.ref w4), .unset, .unset] [(.int (1 : Int32)), (.int p3)])) _
    refine XS.iand X5.here hx rfl (hb hby at_39) rfl ?_
    show Steps p.tables e below (T5.setTop (mkF m 40 #[.val (.int p1), .val (.int p2), .val (.int p3), .val (.int (own_rem (p1 &&& (2147483647 : Int32)) (3 : Int32))), .val (.ref w4), .unset, .unset] [(.int (p3 &&& (1 : Int32)))])) _
    refine XS.ifNo X5.here hx rfl (hb hby at_40) rfl ((if0 _ _).trans (feq hc40).1) ?_
    show Steps p.tables e below (T5.setTop (mkF m 43 #[.val (.int p1), .val (.int p2), .val (.int p3), .val (.int (own_rem (p1 &&& (2147483647 : Int32)) (3 : Int32))), .val (.ref w4), .unset, .unset] [])) _
    refine XS.iloadN X5.here hx rfl (hb hby at_43) rfl ?_
    show Steps p.tables e below (T5.setTop (mkF m 44 #[.val (.int p1), .val (.int p2), .val (.int p3), .val (.int (own_rem (p1 &&& (2147483647 : Int32)) (3 : Int32))), .val (.ref w4), .unset, .unset] [(.int p2)])) _
    refine XS.istore X5.here hx rfl (hb hby at_44) rfl (l' := #[.val (.int p1), .val (.int p2), .val (.int p3), .val (.int (own_rem (p1 &&& (2147483647 : Int32)) (3 : Int32))), .val (.ref w4), .val (.int p2), .unset]) rfl ?_
    show Steps p.tables e below (T5.setTop (mkF m 46 #[.val (.int p1), .val (.int p2), .val (.int p3), .val (.int (own_rem (p1 &&& (2147483647 : Int32)) (3 : Int32))), .val (.ref w4), .val (.int p2), .unset] [])) _
    refine XS.goto X5.here hx rfl (pc0 := 46) (pc' := 57) rfl (hb hby at_46) (by decide) (by decide) ?_
    show Steps p.tables e below (T5.setTop (mkF m 57 #[.val (.int p1), .val (.int p2), .val (.int p3), .val (.int (own_rem (p1 &&& (2147483647 : Int32)) (3 : Int32))), .val (.ref w4), .val (.int p2), .unset] [])) _
    refine XS.iloadN X5.here hx rfl (hb hby at_57) rfl ?_
    show Steps p.tables e below (T5.setTop (mkF m 58 #[.val (.int p1), .val (.int p2), .val (.int p3), .val (.int (own_rem (p1 &&& (2147483647 : Int32)) (3 : Int32))), .val (.ref w4), .val (.int p2), .unset] [(.int (own_rem (p1 &&& (2147483647 : Int32)) (3 : Int32)))])) _
    refine XS.ifYes X5.here hx rfl (pc0 := 58) (pc' := 76) rfl (hb hby at_58) rfl ((if0 _ _).trans (feq hc58).2) (by decide) (by decide) ?_
    show Steps p.tables e below (T5.setTop (mkF m 76 #[.val (.int p1), .val (.int p2), .val (.int p3), .val (.int (own_rem (p1 &&& (2147483647 : Int32)) (3 : Int32))), .val (.ref w4), .val (.int p2), .unset] [])) _
    refine XS.iload X5.here hx rfl (hb hby at_76) rfl ?_
    show Steps p.tables e below (T5.setTop (mkF m 78 #[.val (.int p1), .val (.int p2), .val (.int p3), .val (.int (own_rem (p1 &&& (2147483647 : Int32)) (3 : Int32))), .val (.ref w4), .val (.int p2), .unset] [(.int p2)])) _
    refine XS.iconst X5.here hx rfl (hb hby at_78) ?_
    show Steps p.tables e below (T5.setTop (mkF m 79 #[.val (.int p1), .val (.int p2), .val (.int p3), .val (.int (own_rem (p1 &&& (2147483647 : Int32)) (3 : Int32))), .val (.ref w4), .val (.int p2), .unset] [(.int (1 : Int32)), (.int p2)])) _
    refine XS.icmpNo X5.here hx rfl (hb hby at_79) rfl (feq hc79).1 ?_
    show Steps p.tables e below (T5.setTop (mkF m 82 #[.val (.int p1), .val (.int p2), .val (.int p3), .val (.int (own_rem (p1 &&& (2147483647 : Int32)) (3 : Int32))), .val (.ref w4), .val (.int p2), .unset] [])) _
    refine XS.iload X5.here hx rfl (hb hby at_82) rfl ?_
    show Steps p.tables e below (T5.setTop (mkF m 84 #[.val (.int p1), .val (.int p2), .val (.int p3), .val (.int (own_rem (p1 &&& (2147483647 : Int32)) (3 : Int32))), .val (.ref w4), .val (.int p2), .unset] [(.int p2)])) _
    refine XS.iconst X5.here hx rfl (hb hby at_84) ?_
    show Steps p.tables e below (T5.setTop (mkF m 85 #[.val (.int p1), .val (.int p2), .val (.int p3), .val (.int (own_rem (p1 &&& (2147483647 : Int32)) (3 : Int32))), .val (.ref w4), .val (.int p2), .unset] [(.int (2 : Int32)), (.int p2)])) _
    refine XS.icmpYes X5.here hx rfl (pc0 := 85) (pc' := 92) rfl (hb hby at_85) rfl (feq hc85).2 (by decide) (by decide) ?_
    show Steps p.tables e below (T5.setTop (mkF m 92 #[.val (.int p1), .val (.int p2), .val (.int p3), .val (.int (own_rem (p1 &&& (2147483647 : Int32)) (3 : Int32))), .val (.ref w4), .val (.int p2), .unset] [])) _
    refine XS.iconst X5.here hx rfl (hb hby at_92) ?_
    show Steps p.tables e below (T5.setTop (mkF m 93 #[.val (.int p1), .val (.int p2), .val (.int p3), .val (.int (own_rem (p1 &&& (2147483647 : Int32)) (3 : Int32))), .val (.ref w4), .val (.int p2), .unset] [(.int (0 : Int32))])) _
    refine XS.istore X5.here hx rfl (hb hby at_93) rfl (l' := #[.val (.int p1), .val (.int p2), .val (.int p3), .val (.int (own_rem (p1 &&& (2147483647 : Int32)) (3 : Int32))), .val (.ref w4), .val (.int p2), .val (.int (0 : Int32))]) rfl ?_
    show Steps p.tables e below (T5.setTop (mkF m 95 #[.val (.int p1), .val (.int p2), .val (.int p3), .val (.int (own_rem (p1 &&& (2147483647 : Int32)) (3 : Int32))), .val (.ref w4), .val (.int p2), .val (.int (0 : Int32))] [])) _
    refine XS.aload X5.here hx rfl (hb hby at_95) rfl rfl ?_
    show Steps p.tables e below (T5.setTop (mkF m 97 #[.val (.int p1), .val (.int p2), .val (.int p3), .val (.int (own_rem (p1 &&& (2147483647 : Int32)) (3 : Int32))), .val (.ref w4), .val (.int p2), .val (.int (0 : Int32))] [(.ref w4)])) _
    refine XS.iload X5.here hx rfl (hb hby at_97) rfl ?_
    show Steps p.tables e below (T5.setTop (mkF m 99 #[.val (.int p1), .val (.int p2), .val (.int p3), .val (.int (own_rem (p1 &&& (2147483647 : Int32)) (3 : Int32))), .val (.ref w4), .val (.int p2), .val (.int (0 : Int32))] [(.int p2), (.ref w4)])) _
    refine st6.trans ?_
    show Steps p.tables e below (T6.setTop (mkF m 102 #[.val (.int p1), .val (.int p2), .val (.int p3), .val (.int (own_rem (p1 &&& (2147483647 : Int32)) (3 : Int32))), .val (.ref w4), .val (.int p2), .val (.int (0 : Int32))] [(.int (own_takes w4 wO p2))])) _
    refine XS.iload X6.here hx rfl (hb hby at_102) rfl ?_
    show Steps p.tables e below (T6.setTop (mkF m 104 #[.val (.int p1), .val (.int p2), .val (.int p3), .val (.int (own_rem (p1 &&& (2147483647 : Int32)) (3 : Int32))), .val (.ref w4), .val (.int p2), .val (.int (0 : Int32))] [(.int (0 : Int32)), (.int (own_takes w4 wO p2))])) _
    refine XS.icmpNo X6.here hx rfl (hb hby at_104) rfl (teq (hv : (own_takes w4 wO p2) = (0 : Int32))).2 ?_
    show Steps p.tables e below (T6.setTop (mkF m 107 #[.val (.int p1), .val (.int p2), .val (.int p3), .val (.int (own_rem (p1 &&& (2147483647 : Int32)) (3 : Int32))), .val (.ref w4), .val (.int p2), .val (.int (0 : Int32))] [])) _
    refine XS.iconst X6.here hx rfl (hb hby at_107) ?_
    show Steps p.tables e below (T6.setTop (mkF m 108 #[.val (.int p1), .val (.int p2), .val (.int p3), .val (.int (own_rem (p1 &&& (2147483647 : Int32)) (3 : Int32))), .val (.ref w4), .val (.int p2), .val (.int (0 : Int32))] [(.int (1 : Int32))])) _
    refine XS.goto X6.here hx rfl (pc0 := 108) (pc' := 112) rfl (hb hby at_108) (by decide) (by decide) ?_
    show Steps p.tables e below (T6.setTop (mkF m 112 #[.val (.int p1), .val (.int p2), .val (.int p3), .val (.int (own_rem (p1 &&& (2147483647 : Int32)) (3 : Int32))), .val (.ref w4), .val (.int p2), .val (.int (0 : Int32))] [(.int (1 : Int32))])) _
    exact retN X6 hx (t := .boolean) Bd.returns (by simp) (hb hby at_112) hr
  · show Ql (some (.int (1 : Int32))) n0 _ _
    exact ⟨rfl, N6⟩
theorem rm0 (l : Launch) (Z : State) (a0 : Array Value) (hw : ∀ d ∈ tables_1, d.before a0 Z = true) (ws : List Jvm.Cond) (p1 p2 p3 : Int32) (h0 : Heap) (n0 : Nat) (Z0 : n0 ≤ h0.size) (k_OFF : Addr) (S_OFF : Sta Z h0 "com/example/telegrid/telegrid/esp3/RepeaterMode" "OFF" "Lcom/example/telegrid/telegrid/esp3/RepeaterMode;" (.ref k_OFF)) (E_OFF : Exa Z h0 k_OFF "com/example/telegrid/telegrid/esp3/RepeaterMode") (O_OFF : Fld Z h0 k_OFF "java/lang/Enum" "ordinal" "I" (.int (0 : Int32))) (k_ON : Addr) (S_ON : Sta Z h0 "com/example/telegrid/telegrid/esp3/RepeaterMode" "ON" "Lcom/example/telegrid/telegrid/esp3/RepeaterMode;" (.ref k_ON)) (E_ON : Exa Z h0 k_ON "com/example/telegrid/telegrid/esp3/RepeaterMode") (O_ON : Fld Z h0 k_ON "java/lang/Enum" "ordinal" "I" (.int (1 : Int32))) (k_SELECTIVE : Addr) (S_SELECTIVE : Sta Z h0 "com/example/telegrid/telegrid/esp3/RepeaterMode" "SELECTIVE" "Lcom/example/telegrid/telegrid/esp3/RepeaterMode;" (.ref k_SELECTIVE)) (E_SELECTIVE : Exa Z h0 k_SELECTIVE "com/example/telegrid/telegrid/esp3/RepeaterMode") (O_SELECTIVE : Fld Z h0 k_SELECTIVE "java/lang/Enum" "ordinal" "I" (.int (2 : Int32))) :
    MetFree l x (head1 (Jvm.Cond.code x code maxLocals ret :: ws) room_1) (fun a U => a = #[(.int p1), (.int p2), (.int p3)] ∧ Z.Warmed39 U.vm ∧ U.heap = h0) (fun _ _ _ _ _ => True) (fun _ U o U' => ∃ v L, o = .returned v ∧ Ql (some (.int (1 : Int32))) n0 v L ∧ FrameEnd U o U' L room_1.cells room_1.slots) := by
  have n1 : k_ON ≠ k_OFF := O_ON.ne O_OFF (by decide)
  have n2 : k_SELECTIVE ≠ k_OFF := O_SELECTIVE.ne O_OFF (by decide)
  by_cases k0 : (own_rem (p1 &&& (2147483647 : Int32)) (3 : Int32)) = (0 : Int32)
  · by_cases ho : (p3 &&& (1 : Int32)) = (0 : Int32)
    · by_cases z : ((p2 &&& (7 : Int32)) - (2 : Int32)) = (0 : Int32)
      · exact rm0_ftfff l Z a0 hw ws p1 p2 p3 k_OFF h0 n0 Z0 k_OFF S_OFF (by simp [own_takes, z]) S_OFF E_OFF k0 ho k0 z
      · exact rm0_ftftf l Z a0 hw ws p1 p2 p3 k_OFF h0 n0 Z0 k_OFF S_OFF (by simp [own_takes, z]) S_OFF E_OFF k0 ho k0 z
    · by_cases z : p2 = (0 : Int32)
      · exact rm0_fffff l Z a0 hw ws p1 p2 p3 k_OFF h0 n0 Z0 k_OFF S_OFF (by simp [own_takes, z]) S_OFF E_OFF k0 ho k0 z
      · exact rm0_ffftf l Z a0 hw ws p1 p2 p3 k_OFF h0 n0 Z0 k_OFF S_OFF (by simp [own_takes, z]) S_OFF E_OFF k0 ho k0 z
  by_cases k1 : (own_rem (p1 &&& (2147483647 : Int32)) (3 : Int32)) = (1 : Int32)
  · by_cases ho : (p3 &&& (1 : Int32)) = (0 : Int32)
    · by_cases z1 : ((p2 &&& (7 : Int32)) - (2 : Int32)) = (1 : Int32)
      · exact rm0_tftttf l Z a0 hw ws p1 p2 p3 k_ON h0 n0 Z0 k_OFF S_OFF (own_tk1 n1 z1) S_ON E_ON k0 k1 ho k0 z1
      by_cases z2 : ((p2 &&& (7 : Int32)) - (2 : Int32)) = (2 : Int32)
      · exact rm0_tfttfff l Z a0 hw ws p1 p2 p3 k_ON h0 n0 Z0 k_OFF S_OFF (own_tk2 n1 z2) S_ON E_ON k0 k1 ho k0 z1 z2
      · exact rm0_tfttftf l Z a0 hw ws p1 p2 p3 k_ON h0 n0 Z0 k_OFF S_OFF (own_tk0 n1 z1 z2) S_ON E_ON k0 k1 ho k0 z1 z2
    · by_cases z1 : p2 = (1 : Int32)
      · exact rm0_tffttf l Z a0 hw ws p1 p2 p3 k_ON h0 n0 Z0 k_OFF S_OFF (own_tk1 n1 z1) S_ON E_ON k0 k1 ho k0 z1
      by_cases z2 : p2 = (2 : Int32)
      · exact rm0_tfftfff l Z a0 hw ws p1 p2 p3 k_ON h0 n0 Z0 k_OFF S_OFF (own_tk2 n1 z2) S_ON E_ON k0 k1 ho k0 z1 z2
      · exact rm0_tfftftf l Z a0 hw ws p1 p2 p3 k_ON h0 n0 Z0 k_OFF S_OFF (own_tk0 n1 z1 z2) S_ON E_ON k0 k1 ho k0 z1 z2
  · by_cases ho : (p3 &&& (1 : Int32)) = (0 : Int32)
    · by_cases z1 : ((p2 &&& (7 : Int32)) - (2 : Int32)) = (1 : Int32)
      · exact rm0_tttttf l Z a0 hw ws p1 p2 p3 k_SELECTIVE h0 n0 Z0 k_OFF S_OFF (own_tk1 n2 z1) S_SELECTIVE E_SELECTIVE k0 k1 ho k0 z1
      by_cases z2 : ((p2 &&& (7 : Int32)) - (2 : Int32)) = (2 : Int32)
      · exact rm0_ttttfff l Z a0 hw ws p1 p2 p3 k_SELECTIVE h0 n0 Z0 k_OFF S_OFF (own_tk2 n2 z2) S_SELECTIVE E_SELECTIVE k0 k1 ho k0 z1 z2
      · exact rm0_ttttftf l Z a0 hw ws p1 p2 p3 k_SELECTIVE h0 n0 Z0 k_OFF S_OFF (own_tk0 n2 z1 z2) S_SELECTIVE E_SELECTIVE k0 k1 ho k0 z1 z2
    · by_cases z1 : p2 = (1 : Int32)
      · exact rm0_ttfttf l Z a0 hw ws p1 p2 p3 k_SELECTIVE h0 n0 Z0 k_OFF S_OFF (own_tk1 n2 z1) S_SELECTIVE E_SELECTIVE k0 k1 ho k0 z1
      by_cases z2 : p2 = (2 : Int32)
      · exact rm0_ttftfff l Z a0 hw ws p1 p2 p3 k_SELECTIVE h0 n0 Z0 k_OFF S_OFF (own_tk2 n2 z2) S_SELECTIVE E_SELECTIVE k0 k1 ho k0 z1 z2
      · exact rm0_ttftftf l Z a0 hw ws p1 p2 p3 k_SELECTIVE h0 n0 Z0 k_OFF S_OFF (own_tk0 n2 z1 z2) S_SELECTIVE E_SELECTIVE k0 k1 ho k0 z1 z2
set_option maxRecDepth 65536 in
set_option maxHeartbeats 40000000 in
theorem comes_1 {Post : Tables → Env → Array Value → State → Outcome → State → Prop} (hpost : ∀ tb e args s v u, (limb_1_1.after args s (.returned v) u = true ∧ limb_1_2.after args s (.returned v) u = true ∧ True) → FrameEnd s (.returned v) u (Jvm.fieldLocs frame_1_writes args s ++ Jvm.arrayLocs frame_1_arrays args s ++ Jvm.staticLocs frame_1_statics s) 0 0 → Post tb e args s (.returned v) u) :
    ArmFor flags0 classFile x code maxLocals ret World_1 tables_1 room_1 Calls_1 rest_1 Pre_1 Post := by
  intro l hfl _ _ p e ha hc hk s m args below hf hA hF happ hP
  obtain ⟨hcalls, hrest, hpre⟩ := hP
  obtain ⟨-, -, -, hnamed, -, -, -, hat⟩ := (Spec.applies_iff hf).mp happ
  obtain ⟨hg, hn⟩ := and_e (Cond.before_iff.mp (show (Jvm.Cond.and given_1 narrow_1).before args s = true from hpre))
  obtain ⟨g7, g8⟩ := and_e hg
  obtain ⟨g9, g10⟩ := and_e g8
  obtain ⟨g11, g12⟩ := and_e g10
  obtain ⟨w0, w1, w2, rfl⟩ : ∃ w0 w1 w2 : Value, args = #[w0, w1, w2] := by
    have hs : args.size = 3 := by simpa [Cond.value, given_1] using g7
    obtain ⟨L⟩ := args
    match L, hs with
    | [w0, w1, w2], _ => exact ⟨w0, w1, w2, rfl⟩
  have hw := fun d (hd : d ∈ tables_1) => atoms_spec (ws := Jvm.Cond.code x code maxLocals ret :: tables_1) hat d (List.mem_cons_of_mem _ hd)
  have hfit : Fit s := fun {y c} hc i hi => by
    obtain ⟨ha, rfl⟩ := Array.getElem?_eq_some_iff.mp hc
    have q := List.all_eq_true.mp ((Array.all_eq_true_iff_forall_mem.mp hF) _ (Array.getElem_mem ha)) i (List.mem_range.mpr hi)
    simpa [Array.getElem?_eq_getElem hi] using q
  obtain ⟨i0, ei0⟩ := is_v g9
  obtain rfl : w0 = (.int i0) := Option.some.inj ei0
  obtain ⟨i1, ei1⟩ := is_v g11
  obtain rfl : w1 = (.int i1) := Option.some.inj ei1
  obtain ⟨i2, ei2⟩ := is_v g12
  obtain rfl : w2 = (.int i2) := Option.some.inj ei2
  obtain ⟨nw0, nx0⟩ := and_e hn
  obtain ⟨nw1, nx1⟩ := and_e nx0
  obtain ⟨nw2, nx2⟩ := and_e nx1
  obtain ⟨nw3, nx3⟩ := and_e nx2
  obtain ⟨nw4, nx4⟩ := and_e nx3
  obtain ⟨k_OFF, S_OFF, E_OFF, O_OFF⟩ := own_enum nw0 nw3 (hw _ (List.mem_of_getElem? (i := 2) rfl)) (hw _ (List.mem_of_getElem? (i := 3) rfl))
  obtain ⟨k_ON, S_ON, E_ON, O_ON⟩ := own_enum nw1 nw2 (hw _ (List.mem_of_getElem? (i := 2) rfl)) (hw _ (List.mem_of_getElem? (i := 11) rfl))
  obtain ⟨k_SELECTIVE, S_SELECTIVE, E_SELECTIVE, O_SELECTIVE⟩ := own_enum nw4 nx4 (hw _ (List.mem_of_getElem? (i := 2) rfl)) (hw _ (List.mem_of_getElem? (i := 13) rfl))
  obtain ⟨n, o, h1, h2, h3, _, L, rfl, ⟨rfl, N⟩, hq⟩ := rm0 l s _ hw tables_1 i0 i1 i2 s.heap s.heap.size (Nat.le_refl _) k_OFF S_OFF E_OFF O_OFF k_ON S_ON E_ON O_ON k_SELECTIVE S_SELECTIVE E_SELECTIVE O_SELECTIVE p e ha hc hk s m _ below hf ((Spec.applies_iff_loose hf).mp happ).1 ⟨rfl, State.Warmed39.refl s, rfl⟩ trivial
  refine ⟨n, _, h1, h2, h3, hpost _ _ _ _ _ _ ⟨Cond.after_iff.mpr rfl, Cond.after_iff.mpr (eq_i res_at (Term.int_eval (1)) rfl), trivial⟩ ⟨hq.1, hq.2.1, (hq.2.2.sift fun y hy => Or.inr (N y hy)).mono (by decide) (by decide)⟩⟩
theorem main_1_1 : Claimed_1_1 := comes_1 fun _ _ _ _ _ _ h hF => ⟨h.1, hF⟩
theorem main_1_2 : Claimed_1_2 := comes_1 fun _ _ _ _ _ _ h hF => ⟨h.2.1, hF⟩
end Jvm.Pilot.@@N@@
namespace Jvm.Pilot.@@N@@
open Jvm Jvm.ClassFile Sem Op Lib Jvm.Free Jvm.Stand Jvm.Pilot.@@N@@.Jvm.D
/-! MADE BY PROGRAM (witnessworld.py) out of the Statement's table words and the real class files: 12 classes; the members and pool entries that the words name. The judged class is class 1, her method 1. -/
namespace start1
open Jvm.ClassFile
def u (s : String) : CpInfo := .utf8 (stringToUtf16 s)
/-- a pool by its gaps: so many unusable entries, then the entry; so many at the end -/
def gap : Nat → List CpInfo → List CpInfo
  | 0, r => r
  | n + 1, r => .unusable :: gap n r
def poolList (es : List (Nat × CpInfo)) (last : Nat) : List CpInfo := es.foldr (fun e r => gap e.1 (e.2 :: r)) (gap last [])
def pool (es : List (Nat × CpInfo)) (last : Nat) : Array CpInfo := ⟨poolList es last⟩
def fileOf (pool : Array CpInfo) (this : Nat) (attrs : Array Attribute := #[]) (ms : Array MethodInfo := #[]) (fl : Nat := 33) (sup : Nat := 0) (ifs : Array Nat := #[]) (fds : Array FieldInfo := #[]) : ClassFile where
  minorVersion := 0
  majorVersion := 65
  constantPool := pool
  accessFlags := fl
  thisClass := this
  superClass := sup
  interfaces := ifs
  fields := fds
  methods := ms
  attributes := attrs
def plain (name : String) (sup : Option ClassId) : Class where
  name := name
  kind := .ordinary
  loader := none
  accessFlags := 33
  super := sup
  interfaces := #[]
  cf := none
  fields := #[]
  methods := #[]
  instanceTypes := #[]
  staticTypes := #[]
  resolved := #[]
  callSites := []
  init := .initialized
  statics := none
  mirror := none

def pool0 : Array CpInfo := pool [(5, u "<init>"), (0, u "()V"), (1, .class_ 10), (1, u "java/lang/Object")] 113

def k0m0 : Method := { name := "<init>", desc := "()V", sig := { parameters := [], returnType := none }, accessFlags := 1, code := none }
/-- java/lang/Object -/
def k0 : Class := { plain "java/lang/Object" none with
  accessFlags := 33
  interfaces := #[]
  cf := some (fileOf pool0 8 #[] #[{ accessFlags := 1, nameIndex := 5, descriptorIndex := 6, attributes := #[] }] 33 0 #[] #[])
  fields := #[]
  methods := #[k0m0]
  instanceTypes := #[]
  staticTypes := #[]
  resolved := Array.replicate 124 none
  statics := none }

def pool1 : Array CpInfo := pool [(2, .class_ 4), (1, u "java/lang/Object"), (0, u "<init>"), (0, u "()V"), (0, .integer 2147483647), (0, .fieldref 9 10), (0, .class_ 11), (0, .nameAndType 12 13), (0, u "com/example/telegrid/telegrid/esp3/RepeaterMode"), (0, u "OFF"), (0, u "Lcom/example/telegrid/telegrid/esp3/RepeaterMode;"), (0, .fieldref 9 15), (0, .nameAndType 16 13), (0, u "ON"), (0, .fieldref 9 18), (0, .nameAndType 19 13), (0, u "SELECTIVE"), (0, .methodref 9 21), (0, .nameAndType 22 23), (0, u "takes"), (0, u "(I)Z"), (0, .class_ 25), (0, u "com/example/telegrid/telegrid/esp3/RepeaterModeTakesPinLaw"), (2, u "law"), (0, u "(III)Z")] 3

def k1m0 : Method := { name := "<init>", desc := "()V", sig := { parameters := [], returnType := none }, accessFlags := 1, code := none }
def k1c1 : Code := { maxStack := 2, maxLocals := 7, code := code, exceptionTable := #[], attributes := #[] }
def k1m1 : Method := { name := "law", desc := "(III)Z", sig := { parameters := [.int, .int, .int], returnType := some .boolean }, accessFlags := 9, code := some k1c1 }
/-- com/example/telegrid/telegrid/esp3/RepeaterModeTakesPinLaw -/
def k1 : Class := { plain "com/example/telegrid/telegrid/esp3/RepeaterModeTakesPinLaw" (some 0) with
  accessFlags := 49
  interfaces := #[]
  cf := some (fileOf pool1 24 #[] #[{ accessFlags := 1, nameIndex := 5, descriptorIndex := 6, attributes := #[] }, { accessFlags := 9, nameIndex := 28, descriptorIndex := 29, attributes := #[] }] 49 2 #[] #[])
  fields := #[]
  methods := #[k1m0, k1m1]
  instanceTypes := #[]
  staticTypes := #[]
  resolved := Array.replicate 33 none
  statics := none }

def pool2 : Array CpInfo := pool [(1, .class_ 2), (0, u "java/lang/constant/Constable"), (0, .class_ 4), (0, u "java/lang/Object")] 6

/-- java/lang/constant/Constable -/
def k2 : Class := { plain "java/lang/constant/Constable" (some 0) with
  accessFlags := 1537
  interfaces := #[]
  cf := some (fileOf pool2 1 #[] #[] 1537 3 #[] #[])
  fields := #[]
  methods := #[]
  instanceTypes := #[]
  staticTypes := #[]
  resolved := Array.replicate 11 none
  statics := none }

def pool3 : Array CpInfo := pool [(1, .class_ 2), (0, u "java/lang/Comparable"), (0, .class_ 4), (0, u "java/lang/Object")] 7

/-- java/lang/Comparable -/
def k3 : Class := { plain "java/lang/Comparable" (some 0) with
  accessFlags := 1537
  interfaces := #[]
  cf := some (fileOf pool3 1 #[] #[] 1537 3 #[] #[])
  fields := #[]
  methods := #[]
  instanceTypes := #[]
  staticTypes := #[]
  resolved := Array.replicate 12 none
  statics := none }

def pool4 : Array CpInfo := pool [(1, .class_ 2), (0, u "java/io/Serializable"), (0, .class_ 4), (0, u "java/lang/Object")] 2

/-- java/io/Serializable -/
def k4 : Class := { plain "java/io/Serializable" (some 0) with
  accessFlags := 1537
  interfaces := #[]
  cf := some (fileOf pool4 1 #[] #[] 1537 3 #[] #[])
  fields := #[]
  methods := #[]
  instanceTypes := #[]
  staticTypes := #[]
  resolved := Array.replicate 7 none
  statics := none }

def pool5 : Array CpInfo := pool [(2, .class_ 4), (1, u "java/lang/Enum"), (0, u "name"), (0, u "Ljava/lang/String;"), (2, u "ordinal"), (0, u "I"), (1, .class_ 14), (1, u "java/lang/Object"), (4, u "hash"), (86, .class_ 108), (1, u "java/lang/Enum$EnumDesc"), (2, .class_ 112), (0, u "java/lang/constant/Constable"), (0, .class_ 114), (0, u "java/lang/Comparable"), (0, .class_ 116), (0, u "java/io/Serializable")] 87

/-- java/lang/Enum -/
def k5 : Class := { plain "java/lang/Enum" (some 0) with
  accessFlags := 1057
  interfaces := #[2, 3, 4]
  cf := some (fileOf pool5 2 #[.nestMembers #[106]] #[] 1057 12 #[111, 113, 115] #[{ accessFlags := 18, nameIndex := 5, descriptorIndex := 6, attributes := #[] }, { accessFlags := 18, nameIndex := 9, descriptorIndex := 10, attributes := #[] }, { accessFlags := 2, nameIndex := 19, descriptorIndex := 10, attributes := #[] }])
  fields := #[{ name := "name", type := (.object "java/lang/String"), accessFlags := 18, slot := 0, constantValue := 0 }, { name := "ordinal", type := .int, accessFlags := 18, slot := 1, constantValue := 0 }, { name := "hash", type := .int, accessFlags := 2, slot := 2, constantValue := 0 }]
  methods := #[]
  instanceTypes := #[(.object "java/lang/String"), .int, .int]
  staticTypes := #[]
  resolved := Array.replicate 204 none
  statics := none }

def pool6 : Array CpInfo := pool [(1, .class_ 2), (0, u "com/example/telegrid/telegrid/esp3/RepeaterMode"), (0, .fieldref 1 4), (0, .nameAndType 5 6), (0, u "OFF"), (0, u "Lcom/example/telegrid/telegrid/esp3/RepeaterMode;"), (2, u "ON"), (2, u "SELECTIVE"), (2, u "$VALUES"), (0, u "[Lcom/example/telegrid/telegrid/esp3/RepeaterMode;"), (6, .class_ 25), (1, u "java/lang/Enum"), (8, u "code"), (0, u "I"), (2, u "takes"), (0, u "(I)Z"), (16, u "BY_CODE"), (0, u "Lcom/example/telegrid/telegrid/esp3/CodeTable;"), (32, u "MAX_LEVEL")] 48

def k6c0 : Code := { maxStack := 2, maxLocals := 2, code := prog_73_method_5_code, exceptionTable := #[], attributes := #[] }
def k6m0 : Method := { name := "takes", desc := "(I)Z", sig := { parameters := [.int], returnType := some .boolean }, accessFlags := 1, code := some k6c0 }
/-- com/example/telegrid/telegrid/esp3/RepeaterMode -/
def k6 : Class := { plain "com/example/telegrid/telegrid/esp3/RepeaterMode" (some 5) with
  accessFlags := 16433
  interfaces := #[]
  cf := some (fileOf pool6 1 #[] #[{ accessFlags := 1, nameIndex := 38, descriptorIndex := 39, attributes := #[] }] 16433 23 #[] #[{ accessFlags := 16409, nameIndex := 5, descriptorIndex := 6, attributes := #[] }, { accessFlags := 16409, nameIndex := 9, descriptorIndex := 6, attributes := #[] }, { accessFlags := 16409, nameIndex := 12, descriptorIndex := 6, attributes := #[] }, { accessFlags := 25, nameIndex := 90, descriptorIndex := 35, attributes := #[] }, { accessFlags := 26, nameIndex := 56, descriptorIndex := 57, attributes := #[] }, { accessFlags := 18, nameIndex := 34, descriptorIndex := 35, attributes := #[] }, { accessFlags := 4122, nameIndex := 15, descriptorIndex := 16, attributes := #[] }])
  fields := #[{ name := "OFF", type := (.object "com/example/telegrid/telegrid/esp3/RepeaterMode"), accessFlags := 16409, slot := 0, constantValue := 0 }, { name := "ON", type := (.object "com/example/telegrid/telegrid/esp3/RepeaterMode"), accessFlags := 16409, slot := 1, constantValue := 0 }, { name := "SELECTIVE", type := (.object "com/example/telegrid/telegrid/esp3/RepeaterMode"), accessFlags := 16409, slot := 2, constantValue := 0 }, { name := "MAX_LEVEL", type := .int, accessFlags := 25, slot := 3, constantValue := 0 }, { name := "BY_CODE", type := (.object "com/example/telegrid/telegrid/esp3/CodeTable"), accessFlags := 26, slot := 4, constantValue := 0 }, { name := "code", type := .int, accessFlags := 18, slot := 3, constantValue := 0 }, { name := "$VALUES", type := (.array (.object "com/example/telegrid/telegrid/esp3/RepeaterMode")), accessFlags := 4122, slot := 5, constantValue := 0 }]
  methods := #[k6m0]
  instanceTypes := #[(.object "java/lang/String"), .int, .int, .int]
  staticTypes := #[(.object "com/example/telegrid/telegrid/esp3/RepeaterMode"), (.object "com/example/telegrid/telegrid/esp3/RepeaterMode"), (.object "com/example/telegrid/telegrid/esp3/RepeaterMode"), .int, (.object "com/example/telegrid/telegrid/esp3/CodeTable"), (.array (.object "com/example/telegrid/telegrid/esp3/RepeaterMode"))]
  resolved := Array.replicate 139 none
  statics := some 0 }

def pool7 : Array CpInfo := pool [(1, u "java/lang/Cloneable"), (0, .class_ 1), (0, u "java/lang/Object"), (0, .class_ 3)] 3

/-- java/lang/Cloneable -/
def k7 : Class := { plain "java/lang/Cloneable" (some 0) with
  accessFlags := 1537
  interfaces := #[]
  cf := some (fileOf pool7 2 #[] #[] 1537 4 #[] #[])
  fields := #[]
  methods := #[]
  instanceTypes := #[]
  staticTypes := #[]
  resolved := Array.replicate 8 none
  statics := none }

/-- the primitive byte -/
def k8 : Class := { plain "byte" none with kind := .primitive 'B', accessFlags := 0x411 }
/-- [B -/
def k9 : Class := { plain "[B" (some 0) with kind := .array 8 .byte, interfaces := #[7, 4], accessFlags := 1041 }

/-- the primitive int -/
def k10 : Class := { plain "int" none with kind := .primitive 'I', accessFlags := 0x411 }
/-- [I -/
def k11 : Class := { plain "[I" (some 0) with kind := .array 10 .int, interfaces := #[7, 4], accessFlags := 1041 }

def heap : Heap := #[{ cls := 6, slots := #[.ref 1, .ref 2, .ref 3, .int 0, .null, .null], vm := .statics 6 },
  { cls := 6, slots := #[.null, .int 0, .int 0, .int 0], vm := .none },
  { cls := 6, slots := #[.null, .int 1, .int 0, .int 0], vm := .none },
  { cls := 6, slots := #[.null, .int 2, .int 0, .int 0], vm := .none }]
def classes : Array Class := #[k0, k1, k2, k3, k4, k5, k6, k7, k8, k9, k10, k11]
def interned : List (Array UInt16 × Addr) := []
def slotsUsed : Nat := 18
def theMethod : MethodId := ⟨1, 1⟩
def args0 : Array Value := #[.int 5, .int 1, .int 1]
def aboutOver (below : List Frame) : State where
  vm := { classes := classes, interned := interned.toArray }
  heap := heap
  slotsUsed := slotsUsed
  threads := #[{ frames := .invoking theMethod args0 :: below }]
def below0 : List Frame := [.native { method := ⟨0, 0⟩, args := #[] }]
def about1 : State := aboutOver below0
def p0 : Program := .bare "" "" ""
def e0 : Env := launch0.env 0 0 0
theorem w_frames : about1.frames = Frame.invoking theMethod args0 :: below0 := rfl
set_option maxRecDepth 65536 in
theorem w_args : argsFit about1.vm theMethod args0 = true := by decide +kernel
set_option maxRecDepth 65536 in
theorem w_heap : heapFits about1 = true := by decide +kernel
set_option maxRecDepth 65536 in
theorem w_runnable : about1.curStatus? = some .runnable := by decide +kernel
set_option maxRecDepth 65536 in
theorem w_alone : about1.alone = true := by decide +kernel
set_option maxRecDepth 65536 in
theorem w_named : about1.methodNamed? x = some theMethod := by decide +kernel
set_option maxRecDepth 65536 in
theorem w_hears : about1.hears theMethod below0 = true := by decide +kernel
set_option maxRecDepth 65536 in
theorem w_ripe : about1.ripe theMethod args0 below0 = true := by decide +kernel
theorem w_running : about1.status = .running := rfl
set_option maxRecDepth 65536 in
theorem w_room : about1.hasRoom e0.platform room_1 = true :=
  launch0.hasRoom_least _ room_1 (by decide +kernel) (by decide +kernel) (by decide +kernel) (by decide +kernel) (by decide +kernel) (by decide +kernel)
theorem allAtoms_all (ts : List Jvm.Cond) (a : Array Jvm.Value) (st : Jvm.State) : (allAtoms ts).before a st = ts.all (fun c => c.before a st) := by
  induction ts with
  | nil => rfl
  | cons c t ih =>
    show (Jvm.Cond.and c (allAtoms t)).before a st = _
    rw [Jvm.Cond.before_and, ih, List.all_cons]
def words1 : List Jvm.Cond := Jvm.Cond.code x code maxLocals ret :: tables_1
/-- a 'code' word, met by the world's own term for the bytes: nothing is compared byte by byte -/
theorem code_word {y : MethodName} {bytes : ByteArray} {mx : Nat} {rt : Option FieldType} {a : Array Value} {s : State} {m : MethodId} {meth : Method} {c : Code} (h1 : s.methodNamed? y = some m) (h2 : s.vm.method? m = some meth) (h3 : meth.code = some c) (h4 : c.code = bytes)
    (h5 : (c.maxLocals == mx && c.exceptionTable.isEmpty && decide (c.maxStack ≤ mostOperands) && decide (meth.sig.returnType = rt) && !meth.locks && decide (parseMethodDescriptor y.desc = some meth.sig)) = true) : (Jvm.Cond.code y bytes mx rt).before a s = true := by
  simp only [Bool.and_eq_true, beq_iff_eq, Bool.not_eq_true', decide_eq_true_eq] at h5
  obtain ⟨⟨⟨⟨⟨g1, g2⟩, g3⟩, g4⟩, g5⟩, g6⟩ := h5
  simp [Cond.before, Cond.holds, Cond.value, h1, h2, h3, h4, g1, g2, g3, g4, g5, g6]
def isCode : Jvm.Cond → Bool
  | .code _ _ _ _ => true
  | _ => false
theorem all_split {L : List Jvm.Cond} {P : Jvm.Cond → Bool} (h1 : L.all (fun c => isCode c || P c) = true) (h2 : ∀ c ∈ L.filter isCode, P c = true) : L.all P = true := by
  refine List.all_eq_true.mpr fun c hc => ?_
  have h := List.all_eq_true.mp h1 c hc
  rcases Bool.eq_false_or_eq_true (isCode c) with hi | hi
  · exact h2 c (List.mem_filter.mpr ⟨hc, hi⟩)
  · simpa [hi] using h
set_option maxRecDepth 65536 in
theorem w_c0 : (Jvm.Cond.code x code maxLocals ret).before args0 about1 = true := code_word (m := ⟨1, 1⟩) (meth := k1m1) (c := k1c1) (by decide +kernel) rfl rfl rfl (by decide +kernel)
set_option maxRecDepth 65536 in
theorem w_c1 : (Jvm.Cond.code ({ cls := "com/example/telegrid/telegrid/esp3/RepeaterMode", name := "takes", desc := "(I)Z" } : Jvm.MethodName) prog_73_method_5_code (2 : Nat) (Option.some Jvm.ClassFile.FieldType.boolean)).before args0 about1 = true := code_word (m := ⟨6, 0⟩) (meth := k6m0) (c := k6c0) (by decide +kernel) rfl rfl rfl (by decide +kernel)
def codes1 : List Jvm.Cond := [Jvm.Cond.code x code maxLocals ret, Jvm.Cond.code ({ cls := "com/example/telegrid/telegrid/esp3/RepeaterMode", name := "takes", desc := "(I)Z" } : Jvm.MethodName) prog_73_method_5_code (2 : Nat) (Option.some Jvm.ClassFile.FieldType.boolean)]
set_option maxRecDepth 65536 in
theorem codes_eq : words1.filter isCode = codes1 := rfl
theorem w_codes : ∀ c ∈ words1.filter isCode, c.before args0 about1 = true := by
  rw [codes_eq]
  intro c hc
  simp only [codes1, List.mem_cons, List.not_mem_nil, or_false] at hc
  rcases hc with rfl | rfl
  · exact w_c0
  · exact w_c1
set_option maxRecDepth 65536 in
theorem w_t1 : words1.all (fun c => isCode c || c.before args0 about1) = true := by decide +kernel
theorem w_tables : (allAtoms (Jvm.Cond.code x code maxLocals ret :: tables_1)).before args0 about1 = true := by
  rw [allAtoms_all]
  show words1.all (fun c => c.before args0 about1) = true
  refine all_split ?_ w_codes
  rw [w_t1]
set_option maxRecDepth 65536 in
theorem w_case : (Jvm.Cond.and given_1 narrow_1).before args0 about1 = true := by decide +kernel
theorem w_applies : (headSpec (Jvm.Cond.code x code maxLocals ret :: tables_1) room_1).applies x e0.platform about1 = true :=
  (Spec.applies_iff w_frames).mpr ⟨w_running, w_runnable, w_alone, w_named, w_hears, w_ripe, w_room, w_tables⟩
theorem atStart : AtStart classFile x code maxLocals ret World_1 tables_1 room_1 Calls_1 rest_1 Pre_1 launch0 p0 e0 about1 theMethod args0 below0 :=
  ⟨lists_1, trivial, launch0.admits_env _ _ _, launch0.least_env, fairChoices_fair.cas, fairChoices_fair.clock, w_frames, w_args, w_heap, w_applies, trivial, trivial, w_case⟩
end start1
theorem witness_1 : WitnessClaimed_1 := ⟨start1.p0, start1.e0, start1.about1, start1.theMethod, start1.args0, start1.below0, start1.atStart⟩
end Jvm.Pilot.@@N@@
