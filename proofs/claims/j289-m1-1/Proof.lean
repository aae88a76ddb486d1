import JvmDerived
import JvmDerived.Pilot.@@N@@Statement
import JvmDerived.Pilot.@@N@@Code
set_option linter.unusedVariables false
set_option linter.unusedSimpArgs false
namespace Jvm.RoadKit
open Sem ClassFile Op Lib Jvm.Stand Jvm.Free Jvm.LawKit
section New
variable {p : Program} {l : Launch} {e : Env} {R : Room} {s : State} {m : MethodId} {args : Array Value} {below : List Frame} {meth : Method} {c : Code} {T : State} {locs : List Loc} {cells slots : Nat}
theorem retI (X : Stand p l e R s m args below meth c T locs cells slots) (hx : p.tables.exec = Jvm.exec) {pc : Nat} {Ls : Array Slot} {z : Int32} {rest : List Value} (hret : meth.sig.returnType = some .int) (hd : decode c.code pc = .ok (.ireturn, 1)) {fs : List Frame}
    (hl : ∀ (f : JFrame) (acts : List Action), f.method = m → f.locked = none → f.entered = [] → (doReturn e (T.setTop f) acts (some (.int z))).1 = T.setFrames fs) : Steps p.tables e below (T.setTop (mkF m pc Ls (.int z :: rest))) (T.setFrames fs) := by
  have hm' : T.vm.method? m = some meth := X.method'
  have hn : narrow .int (.int z) = .int z := rfl
  show Steps p.tables e below (T.setTop { method := m, pc := pc, locals := Ls, stack := _ :: rest, locked := none }) _
  jvm_step X.here [X.here.top, hx, hd, hm', hret, hn]
  first | (intro acts; rw [hl _ acts rfl rfl rfl]) | rw [hl _ _ rfl rfl rfl]
  exact Steps.refl _
end New
end Jvm.RoadKit
namespace Jvm.Pilot.@@N@@
open Jvm Jvm.ClassFile Sem Op Lib Jvm.Free Jvm.Stand Jvm.LawKit Jvm.RoadKit Bundle Jvm.Pilot.@@N@@.Jvm.D
def Qv (val : Option Value) (h0 : Heap) (n0 : Nat) (v : Option Value) (h : Heap) (L : List Loc) : Prop := v = val ∧ Fr n0 L ∧ h = h0
def Ql (val : Option Value) (n0 : Nat) (v : Option Value) (L : List Loc) : Prop := v = val ∧ Fr n0 L
theorem own_oneU : One .unset := One.u
theorem own_oneI {z : Int32} : One (.val (.int z)) := One.val rfl
theorem own_oneR {z : Addr} : One (.val (.ref z)) := One.val rfl
theorem own_lcd (x y : Int64) : lcmpW x y = if x > y then 1 else if x = y then 0 else -1 := rfl
theorem own_lc0 {x y : Int64} : lcmpW x y = 0 ↔ x = y := by
  rw [own_lcd]
  by_cases h1 : x > y
  · have : x ≠ y := fun e => by subst e; exact absurd h1 (by simp [Int64.lt_irrefl])
    simp [h1, this]
  · by_cases h2 : x = y
    · simp [h1, h2]
    · simp [h1, h2]
def own_tagok (t w : Int32) : Int32 := if w = -1 then (if t < 0 then 0 else 1) else if w = -2147483648 then (if t < -1 then 1 else 0) else if w = t then 1 else 0
def own_match (s : Int32) (c : Int64) (t f : Int32) (ic : Int64) (w : Int32) : Int32 := if ic = c then (if f = -2 then own_tagok t w else if f = s then own_tagok t w else 0) else 0
def own_tag (P raw : Int32) : Int32 := if P = 4 then -1 else if P = 5 then 0 else if P = 6 then -2 else if P = 7 then -2147483648 else raw
def own_from (P src raw : Int32) : Int32 := if P = 1 then -2 else if P = 2 then src else raw
def own_with (P t raw : Int32) : Int32 := if P = 1 then t else if P = 2 then -1 else if P = 3 then -2147483648 else raw
def own_same (a b : Int64) : Int32 := if a = b then 1 else 0
def own_fok (f s : Int32) : Int32 := if f = -2 then 1 else if f = s then 1 else 0
def own_tok (t w : Int32) : Int32 := if w = -1 then (if t < 0 then 0 else 1) else if w = -2147483648 then (if t < 0 then (if t = -1 then 0 else 1) else 0) else if w = t then 1 else 0
def own_and3 (a b c : Int32) : Int32 := if a = 0 then 0 else if b = 0 then 0 else if c = 0 then 0 else 1
theorem own_tagok_eq (t w : Int32) : own_tagok t w = own_tok t w := by
  unfold own_tagok own_tok
  by_cases h1 : w = -1
  · simp [h1]
  by_cases h2 : w = -2147483648
  · rw [if_neg h1, if_neg h1, if_pos h2, if_pos h2]
    have e0 : (0 : Int32).toInt = 0 := by decide
    have e1 : (-1 : Int32).toInt = -1 := by decide
    by_cases h3 : t < -1
    · have h4 : t < 0 := by rw [Int32.lt_iff_toInt_lt] at *; omega
      have h5 : ¬ t = -1 := fun q => by rw [Int32.lt_iff_toInt_lt, q] at h3; omega
      rw [if_pos h3, if_pos h4, if_neg h5]
    · rw [if_neg h3]
      by_cases h4 : t < 0
      · have h5 : t = -1 := by
          apply Int32.toInt_inj.mp
          rw [Int32.lt_iff_toInt_lt] at h3 h4; omega
        rw [if_pos h4, if_pos h5]
      · rw [if_neg h4]
  · rw [if_neg h1, if_neg h1, if_neg h2, if_neg h2]
theorem own_tok01 (t w : Int32) : own_tok t w = 0 ∨ own_tok t w = 1 := by
  unfold own_tok
  repeat' split
  all_goals first | exact Or.inl rfl | exact Or.inr rfl
theorem own_agree (s : Int32) (c : Int64) (t f : Int32) (ic : Int64) (w : Int32) : own_match s c t f ic w = own_and3 (own_same ic c) (own_fok f s) (own_tok t w) := by
  have hk := own_tok01 t w
  unfold own_match own_and3 own_same own_fok
  rw [own_tagok_eq]
  generalize own_tok t w = k at *
  by_cases h1 : ic = c <;> by_cases h2 : f = -2 <;> by_cases h3 : f = s <;> rcases hk with rfl | rfl <;> simp [h1, h2, h3]
theorem d1_0 : decode prog_30_method_7_code 0 = .ok (.lload 5, 2) := by decide +kernel
theorem d1_2 : decode prog_30_method_7_code 2 = .ok (.lload_n 1, 1) := by decide +kernel
theorem d1_3 : decode prog_30_method_7_code 3 = .ok (.lcmp, 1) := by decide +kernel
theorem d1_4 : decode prog_30_method_7_code 4 = .ok (.ifCond .ne 16, 3) := by decide +kernel
theorem d1_20 : decode prog_30_method_7_code 20 = .ok (.iconst 0, 1) := by decide +kernel
theorem d1_21 : decode prog_30_method_7_code 21 = .ok (.ireturn, 1) := by decide +kernel
theorem pn_1 : plainName "com/example/cablegram/cablegram/engine/Envelope" = true := by first | (simp [plainName, overriddenIn]; done) | decide +kernel
theorem ef_1 (m : MethodId) (x0 : Int32) (x1 : Int64) (x2 : Int32) (x3 : Int32) (x4 : Int64) (x5 : Int32) : entryFrame m #[(.int x0), (.long x1), (.int x2), (.int x3), (.long x4), (.int x5)] 8 = mkF m 0 #[.val (.int x0), .val (.long x1), .second, .val (.int x2), .val (.int x3), .val (.long x4), .second, .val (.int x5)] [] := by first | (simp [entryFrame, mkF, argsToLocals, Value.category]; done) | rfl
set_option maxRecDepth 65536 in
set_option maxHeartbeats 40000000 in
theorem rm1_t (l : Launch) (Z : State) (a0 : Array Value) (hw : ∀ d ∈ tables_1, d.before a0 Z = true) (ws : List Jvm.Cond) (p1 : Int32) (q2 : Int64) (p3 : Int32) (p4 : Int32) (q5 : Int64) (p6 : Int32) (h0 : Heap) (n0 : Nat) (Z0 : n0 ≤ h0.size) (hc4 : ¬ ((lcmpW q5 q2) = (0 : Int32))) :
    MetFree l (⟨"com/example/cablegram/cablegram/engine/Envelope", "matches", "(IJIIJI)Z"⟩ : MethodName) (head1 (Jvm.Cond.code (⟨"com/example/cablegram/cablegram/engine/Envelope", "matches", "(IJIIJI)Z"⟩ : MethodName) prog_30_method_7_code 8 (some .boolean) :: ws) ({ frames := 0, cells := 0, slots := 0, locals := 0 } : Room)) (fun a U => a = #[(.int p1), (.long q2), (.int p3), (.int p4), (.long q5), (.int p6)] ∧ Z.Warmed39 U.vm ∧ U.heap = h0) (fun _ _ _ _ _ => True) (fun _ U o U' => ∃ v L, o = .returned v ∧ Qv (some (.int (0 : Int32))) h0 n0 v U'.heap L ∧ FrameEnd U o U' L ({ frames := 0, cells := 0, slots := 0, locals := 0 } : Room).cells ({ frames := 0, cells := 0, slots := 0, locals := 0 } : Room).slots) := by
  refine MetFree.of_bodySF (plainFor_of_name pn_1) hisR ?_
  intro p e s m args below meth c s₁ Bd hml0 hP hK
  obtain ⟨rfl, hZ, hh⟩ := hP
  have hx := Bd.exec
  have hby := Bd.bytes
  have hml : c.maxLocals = 8 := hml0
  have hown : s.vm.findClass "com/example/cablegram/cablegram/engine/Envelope" = some m.cls := findClass_of_methodNamed Bd.named
  have hnm := (name_of_methodNamed Bd.named Bd.method).1
  have X0 : Stand p l e ({ frames := 0, cells := 0, slots := 0, locals := 0 } : Room) s m #[(.int p1), (.long q2), (.int p3), (.int p4), (.long q5), (.int p6)] below meth c s₁ [] 0 0 := Stand.of_body Bd
  have e0 : s₁.heap = h0 := by rw [← hh, Bd.state]; rfl
  have N0 := Fr.nil n0
  have pre0 : ∀ t, Steps p.tables e below (s₁.setTop (mkF m 0 #[.val (.int p1), .val (.long q2), .second, .val (.int p3), .val (.int p4), .val (.long q5), .second, .val (.int p6)] [])) t → Steps p.tables e below (s₁.setTop (entryFrame m #[(.int p1), (.long q2), (.int p3), (.int p4), (.long q5), (.int p6)] 8)) t := fun t k => castTop (ef_1 m p1 q2 p3 p4 q5 p6) k
  -- 3. LAWS

  obtain ⟨fs, hr, hrun, hended, hW, hsame⟩ := X0.leave (v := some (.int (0 : Int32))) (fun h => by rw [Bd.returns] at h; cases h)
  refine ⟨_, _, pre0 _ ?_, hrun, hended, _, _, rfl, ?_, ⟨_, rfl⟩, hW, hsame.mono (by decide) (by decide)⟩
  -- 4. STEPS
  · show Steps p.tables e below (s₁.setTop (mkF m 0 #[.val (.int p1), .val (.long q2), .second, .val (.int p3), .val (.int p4), .val (.long q5), .second, .val (.int p6)] [])) _
    refine XS.lload X0.here hx rfl (hb hby d1_0) rfl ?_
    show Steps p.tables e below (s₁.setTop (mkF m 2 #[.val (.int p1), .val (.long q2), .second, .val (.int p3), .val (.int p4), .val (.long q5), .second, .val (.int p6)] [(.long q5)])) _
    refine XS.lloadN X0.here hx rfl (hb hby d1_2) rfl ?_
    show Steps p.tables e below (s₁.setTop (mkF m 3 #[.val (.int p1), .val (.long q2), .second, .val (.int p3), .val (.int p4), .val (.long q5), .second, .val (.int p6)] [(.long q2), (.long q5)])) _
    refine XS.lcmp X0.here hx rfl (hb hby d1_3) rfl ?_
    show Steps p.tables e below (s₁.setTop (mkF m 4 #[.val (.int p1), .val (.long q2), .second, .val (.int p3), .val (.int p4), .val (.long q5), .second, .val (.int p6)] [(.int (lcmpW q5 q2))])) _
    refine XS.ifYes X0.here hx rfl (pc0 := 4) (pc' := 20) rfl (hb hby d1_4) rfl ((if0 _ _).trans (feq hc4).2) (by decide) (by decide) ?_
    show Steps p.tables e below (s₁.setTop (mkF m 20 #[.val (.int p1), .val (.long q2), .second, .val (.int p3), .val (.int p4), .val (.long q5), .second, .val (.int p6)] [])) _
    refine XS.iconst X0.here hx rfl (hb hby d1_20) ?_
    show Steps p.tables e below (s₁.setTop (mkF m 21 #[.val (.int p1), .val (.long q2), .second, .val (.int p3), .val (.int p4), .val (.long q5), .second, .val (.int p6)] [(.int (0 : Int32))])) _
    exact retN X0 hx (t := .boolean) Bd.returns (by simp) (hb hby d1_21) hr
  · show Qv (some (.int (0 : Int32))) h0 n0 _ s₁.heap _
    rw [e0]
    exact ⟨rfl, N0, rfl⟩
theorem d1_7 : decode prog_30_method_7_code 7 = .ok (.iload 4, 2) := by decide +kernel
theorem d1_9 : decode prog_30_method_7_code 9 = .ok (.bipush (-2), 2) := by decide +kernel
theorem d1_11 : decode prog_30_method_7_code 11 = .ok (.if_icmp .eq 11, 3) := by decide +kernel
theorem d1_14 : decode prog_30_method_7_code 14 = .ok (.iload 4, 2) := by decide +kernel
theorem d1_16 : decode prog_30_method_7_code 16 = .ok (.iload_n 0, 1) := by decide +kernel
theorem d1_17 : decode prog_30_method_7_code 17 = .ok (.if_icmp .eq 5, 3) := by decide +kernel
set_option maxRecDepth 65536 in
set_option maxHeartbeats 40000000 in
theorem rm1_fff (l : Launch) (Z : State) (a0 : Array Value) (hw : ∀ d ∈ tables_1, d.before a0 Z = true) (ws : List Jvm.Cond) (p1 : Int32) (q2 : Int64) (p3 : Int32) (p4 : Int32) (q5 : Int64) (p6 : Int32) (h0 : Heap) (n0 : Nat) (Z0 : n0 ≤ h0.size) (hc4 : (lcmpW q5 q2) = (0 : Int32)) (hc11 : ¬ (p4 = (-2 : Int32))) (hc17 : ¬ (p4 = p1)) :
    MetFree l (⟨"com/example/cablegram/cablegram/engine/Envelope", "matches", "(IJIIJI)Z"⟩ : MethodName) (head1 (Jvm.Cond.code (⟨"com/example/cablegram/cablegram/engine/Envelope", "matches", "(IJIIJI)Z"⟩ : MethodName) prog_30_method_7_code 8 (some .boolean) :: ws) ({ frames := 0, cells := 0, slots := 0, locals := 0 } : Room)) (fun a U => a = #[(.int p1), (.long q2), (.int p3), (.int p4), (.long q5), (.int p6)] ∧ Z.Warmed39 U.vm ∧ U.heap = h0) (fun _ _ _ _ _ => True) (fun _ U o U' => ∃ v L, o = .returned v ∧ Qv (some (.int (0 : Int32))) h0 n0 v U'.heap L ∧ FrameEnd U o U' L ({ frames := 0, cells := 0, slots := 0, locals := 0 } : Room).cells ({ frames := 0, cells := 0, slots := 0, locals := 0 } : Room).slots) := by
  refine MetFree.of_bodySF (plainFor_of_name pn_1) hisR ?_
  intro p e s m args below meth c s₁ Bd hml0 hP hK
  obtain ⟨rfl, hZ, hh⟩ := hP
  have hx := Bd.exec
  have hby := Bd.bytes
  have hml : c.maxLocals = 8 := hml0
  have hown : s.vm.findClass "com/example/cablegram/cablegram/engine/Envelope" = some m.cls := findClass_of_methodNamed Bd.named
  have hnm := (name_of_methodNamed Bd.named Bd.method).1
  have X0 : Stand p l e ({ frames := 0, cells := 0, slots := 0, locals := 0 } : Room) s m #[(.int p1), (.long q2), (.int p3), (.int p4), (.long q5), (.int p6)] below meth c s₁ [] 0 0 := Stand.of_body Bd
  have e0 : s₁.heap = h0 := by rw [← hh, Bd.state]; rfl
  have N0 := Fr.nil n0
  have pre0 : ∀ t, Steps p.tables e below (s₁.setTop (mkF m 0 #[.val (.int p1), .val (.long q2), .second, .val (.int p3), .val (.int p4), .val (.long q5), .second, .val (.int p6)] [])) t → Steps p.tables e below (s₁.setTop (entryFrame m #[(.int p1), (.long q2), (.int p3), (.int p4), (.long q5), (.int p6)] 8)) t := fun t k => castTop (ef_1 m p1 q2 p3 p4 q5 p6) k
  -- 3. LAWS

  obtain ⟨fs, hr, hrun, hended, hW, hsame⟩ := X0.leave (v := some (.int (0 : Int32))) (fun h => by rw [Bd.returns] at h; cases h)
  refine ⟨_, _, pre0 _ ?_, hrun, hended, _, _, rfl, ?_, ⟨_, rfl⟩, hW, hsame.mono (by decide) (by decide)⟩
  -- 4. STEPS
  · show Steps p.tables e below (s₁.setTop (mkF m 0 #[.val (.int p1), .val (.long q2), .second, .val (.int p3), .val (.int p4), .val (.long q5), .second, .val (.int p6)] [])) _
    refine XS.lload X0.here hx rfl (hb hby d1_0) rfl ?_
    show Steps p.tables e below (s₁.setTop (mkF m 2 #[.val (.int p1), .val (.long q2), .second, .val (.int p3), .val (.int p4), .val (.long q5), .second, .val (.int p6)] [(.long q5)])) _
    refine XS.lloadN X0.here hx rfl (hb hby d1_2) rfl ?_
    show Steps p.tables e below (s₁.setTop (mkF m 3 #[.val (.int p1), .val (.long q2), .second, .val (.int p3), .val (.int p4), .val (.long q5), .second, .val (.int p6)] [(.long q2), (.long q5)])) _
    refine XS.lcmp X0.here hx rfl (hb hby d1_3) rfl ?_
    show Steps p.tables e below (s₁.setTop (mkF m 4 #[.val (.int p1), .val (.long q2), .second, .val (.int p3), .val (.int p4), .val (.long q5), .second, .val (.int p6)] [(.int (lcmpW q5 q2))])) _
    refine XS.ifNo X0.here hx rfl (hb hby d1_4) rfl ((if0 _ _).trans (teq hc4).2) ?_
    show Steps p.tables e below (s₁.setTop (mkF m 7 #[.val (.int p1), .val (.long q2), .second, .val (.int p3), .val (.int p4), .val (.long q5), .second, .val (.int p6)] [])) _
    refine XS.iload X0.here hx rfl (hb hby d1_7) rfl ?_
    show Steps p.tables e below (s₁.setTop (mkF m 9 #[.val (.int p1), .val (.long q2), .second, .val (.int p3), .val (.int p4), .val (.long q5), .second, .val (.int p6)] [(.int p4)])) _
    refine XS.bipush X0.here hx rfl (hb hby d1_9) ?_
    show Steps p.tables e below (s₁.setTop (mkF m 11 #[.val (.int p1), .val (.long q2), .second, .val (.int p3), .val (.int p4), .val (.long q5), .second, .val (.int p6)] [(.int (-2 : Int32)), (.int p4)])) _
    refine XS.icmpNo X0.here hx rfl (hb hby d1_11) rfl (feq hc11).1 ?_
    show Steps p.tables e below (s₁.setTop (mkF m 14 #[.val (.int p1), .val (.long q2), .second, .val (.int p3), .val (.int p4), .val (.long q5), .second, .val (.int p6)] [])) _
    refine XS.iload X0.here hx rfl (hb hby d1_14) rfl ?_
    show Steps p.tables e below (s₁.setTop (mkF m 16 #[.val (.int p1), .val (.long q2), .second, .val (.int p3), .val (.int p4), .val (.long q5), .second, .val (.int p6)] [(.int p4)])) _
    refine XS.iloadN X0.here hx rfl (hb hby d1_16) rfl ?_
    show Steps p.tables e below (s₁.setTop (mkF m 17 #[.val (.int p1), .val (.long q2), .second, .val (.int p3), .val (.int p4), .val (.long q5), .second, .val (.int p6)] [(.int p1), (.int p4)])) _
    refine XS.icmpNo X0.here hx rfl (hb hby d1_17) rfl (feq hc17).1 ?_
    show Steps p.tables e below (s₁.setTop (mkF m 20 #[.val (.int p1), .val (.long q2), .second, .val (.int p3), .val (.int p4), .val (.long q5), .second, .val (.int p6)] [])) _
    refine XS.iconst X0.here hx rfl (hb hby d1_20) ?_
    show Steps p.tables e below (s₁.setTop (mkF m 21 #[.val (.int p1), .val (.long q2), .second, .val (.int p3), .val (.int p4), .val (.long q5), .second, .val (.int p6)] [(.int (0 : Int32))])) _
    exact retN X0 hx (t := .boolean) Bd.returns (by simp) (hb hby d1_21) hr
  · show Qv (some (.int (0 : Int32))) h0 n0 _ s₁.heap _
    rw [e0]
    exact ⟨rfl, N0, rfl⟩
theorem d1_22 : decode prog_30_method_7_code 22 = .ok (.iload 7, 2) := by decide +kernel
theorem d1_24 : decode prog_30_method_7_code 24 = .ok (.iconst (-1), 1) := by decide +kernel
theorem d1_25 : decode prog_30_method_7_code 25 = .ok (.if_icmp .ne 13, 3) := by decide +kernel
theorem d1_28 : decode prog_30_method_7_code 28 = .ok (.iload_n 3, 1) := by decide +kernel
theorem d1_29 : decode prog_30_method_7_code 29 = .ok (.ifCond .lt 7, 3) := by decide +kernel
theorem d1_32 : decode prog_30_method_7_code 32 = .ok (.iconst 1, 1) := by decide +kernel
theorem d1_33 : decode prog_30_method_7_code 33 = .ok (.goto 4, 3) := by decide +kernel
theorem d1_37 : decode prog_30_method_7_code 37 = .ok (.ireturn, 1) := by decide +kernel
set_option maxRecDepth 65536 in
set_option maxHeartbeats 40000000 in
theorem rm1_ftff (l : Launch) (Z : State) (a0 : Array Value) (hw : ∀ d ∈ tables_1, d.before a0 Z = true) (ws : List Jvm.Cond) (p1 : Int32) (q2 : Int64) (p3 : Int32) (p4 : Int32) (q5 : Int64) (p6 : Int32) (h0 : Heap) (n0 : Nat) (Z0 : n0 ≤ h0.size) (hc4 : (lcmpW q5 q2) = (0 : Int32)) (hc11 : p4 = (-2 : Int32)) (hc25 : p6 = (-1 : Int32)) (hc29 : ¬ (p3 < (0 : Int32))) :
    MetFree l (⟨"com/example/cablegram/cablegram/engine/Envelope", "matches", "(IJIIJI)Z"⟩ : MethodName) (head1 (Jvm.Cond.code (⟨"com/example/cablegram/cablegram/engine/Envelope", "matches", "(IJIIJI)Z"⟩ : MethodName) prog_30_method_7_code 8 (some .boolean) :: ws) ({ frames := 0, cells := 0, slots := 0, locals := 0 } : Room)) (fun a U => a = #[(.int p1), (.long q2), (.int p3), (.int p4), (.long q5), (.int p6)] ∧ Z.Warmed39 U.vm ∧ U.heap = h0) (fun _ _ _ _ _ => True) (fun _ U o U' => ∃ v L, o = .returned v ∧ Qv (some (.int (1 : Int32))) h0 n0 v U'.heap L ∧ FrameEnd U o U' L ({ frames := 0, cells := 0, slots := 0, locals := 0 } : Room).cells ({ frames := 0, cells := 0, slots := 0, locals := 0 } : Room).slots) := by
  refine MetFree.of_bodySF (plainFor_of_name pn_1) hisR ?_
  intro p e s m args below meth c s₁ Bd hml0 hP hK
  obtain ⟨rfl, hZ, hh⟩ := hP
  have hx := Bd.exec
  have hby := Bd.bytes
  have hml : c.maxLocals = 8 := hml0
  have hown : s.vm.findClass "com/example/cablegram/cablegram/engine/Envelope" = some m.cls := findClass_of_methodNamed Bd.named
  have hnm := (name_of_methodNamed Bd.named Bd.method).1
  have X0 : Stand p l e ({ frames := 0, cells := 0, slots := 0, locals := 0 } : Room) s m #[(.int p1), (.long q2), (.int p3), (.int p4), (.long q5), (.int p6)] below meth c s₁ [] 0 0 := Stand.of_body Bd
  have e0 : s₁.heap = h0 := by rw [← hh, Bd.state]; rfl
  have N0 := Fr.nil n0
  have pre0 : ∀ t, Steps p.tables e below (s₁.setTop (mkF m 0 #[.val (.int p1), .val (.long q2), .second, .val (.int p3), .val (.int p4), .val (.long q5), .second, .val (.int p6)] [])) t → Steps p.tables e below (s₁.setTop (entryFrame m #[(.int p1), (.long q2), (.int p3), (.int p4), (.long q5), (.int p6)] 8)) t := fun t k => castTop (ef_1 m p1 q2 p3 p4 q5 p6) k
  -- 3. LAWS

  obtain ⟨fs, hr, hrun, hended, hW, hsame⟩ := X0.leave (v := some (.int (1 : Int32))) (fun h => by rw [Bd.returns] at h; cases h)
  refine ⟨_, _, pre0 _ ?_, hrun, hended, _, _, rfl, ?_, ⟨_, rfl⟩, hW, hsame.mono (by decide) (by decide)⟩
  -- 4. STEPS
  · show Steps p.tables e below (s₁.setTop (mkF m 0 #[.val (.int p1), .val (.long q2), .second, .val (.int p3), .val (.int p4), .val (.long q5), .second, .val (.int p6)] [])) _
    refine XS.lload X0.here hx rfl (hb hby d1_0) rfl ?_
    show Steps p.tables e below (s₁.setTop (mkF m 2 #[.val (.int p1), .val (.long q2), .second, .val (.int p3), .val (.int p4), .val (.long q5), .second, .val (.int p6)] [(.long q5)])) _
    refine XS.lloadN X0.here hx rfl (hb hby d1_2) rfl ?_
    show Steps p.tables e below (s₁.setTop (mkF m 3 #[.val (.int p1), .val (.long q2), .second, .val (.int p3), .val (.int p4), .val (.long q5), .second, .val (.int p6)] [(.long q2), (.long q5)])) _
    refine XS.lcmp X0.here hx rfl (hb hby d1_3) rfl ?_
    show Steps p.tables e below (s₁.setTop (mkF m 4 #[.val (.int p1), .val (.long q2), .second, .val (.int p3), .val (.int p4), .val (.long q5), .second, .val (.int p6)] [(.int (lcmpW q5 q2))])) _
    refine XS.ifNo X0.here hx rfl (hb hby d1_4) rfl ((if0 _ _).trans (teq hc4).2) ?_
    show Steps p.tables e below (s₁.setTop (mkF m 7 #[.val (.int p1), .val (.long q2), .second, .val (.int p3), .val (.int p4), .val (.long q5), .second, .val (.int p6)] [])) _
    refine XS.iload X0.here hx rfl (hb hby d1_7) rfl ?_
    show Steps p.tables e below (s₁.setTop (mkF m 9 #[.val (.int p1), .val (.long q2), .second, .val (.int p3), .val (.int p4), .val (.long q5), .second, .val (.int p6)] [(.int p4)])) _
    refine XS.bipush X0.here hx rfl (hb hby d1_9) ?_
    show Steps p.tables e below (s₁.setTop (mkF m 11 #[.val (.int p1), .val (.long q2), .second, .val (.int p3), .val (.int p4), .val (.long q5), .second, .val (.int p6)] [(.int (-2 : Int32)), (.int p4)])) _
    refine XS.icmpYes X0.here hx rfl (pc0 := 11) (pc' := 22) rfl (hb hby d1_11) rfl (teq hc11).1 (by decide) (by decide) ?_
    show Steps p.tables e below (s₁.setTop (mkF m 22 #[.val (.int p1), .val (.long q2), .second, .val (.int p3), .val (.int p4), .val (.long q5), .second, .val (.int p6)] [])) _
    refine XS.iload X0.here hx rfl (hb hby d1_22) rfl ?_
    show Steps p.tables e below (s₁.setTop (mkF m 24 #[.val (.int p1), .val (.long q2), .second, .val (.int p3), .val (.int p4), .val (.long q5), .second, .val (.int p6)] [(.int p6)])) _
    refine XS.iconst X0.here hx rfl (hb hby d1_24) ?_
    show Steps p.tables e below (s₁.setTop (mkF m 25 #[.val (.int p1), .val (.long q2), .second, .val (.int p3), .val (.int p4), .val (.long q5), .second, .val (.int p6)] [(.int (-1 : Int32)), (.int p6)])) _
    refine XS.icmpNo X0.here hx rfl (hb hby d1_25) rfl (teq hc25).2 ?_
    show Steps p.tables e below (s₁.setTop (mkF m 28 #[.val (.int p1), .val (.long q2), .second, .val (.int p3), .val (.int p4), .val (.long q5), .second, .val (.int p6)] [])) _
    refine XS.iloadN X0.here hx rfl (hb hby d1_28) rfl ?_
    show Steps p.tables e below (s₁.setTop (mkF m 29 #[.val (.int p1), .val (.long q2), .second, .val (.int p3), .val (.int p4), .val (.long q5), .second, .val (.int p6)] [(.int p3)])) _
    refine XS.ifNo X0.here hx rfl (hb hby d1_29) rfl ((if0 _ _).trans (flt hc29).1) ?_
    show Steps p.tables e below (s₁.setTop (mkF m 32 #[.val (.int p1), .val (.long q2), .second, .val (.int p3), .val (.int p4), .val (.long q5), .second, .val (.int p6)] [])) _
    refine XS.iconst X0.here hx rfl (hb hby d1_32) ?_
    show Steps p.tables e below (s₁.setTop (mkF m 33 #[.val (.int p1), .val (.long q2), .second, .val (.int p3), .val (.int p4), .val (.long q5), .second, .val (.int p6)] [(.int (1 : Int32))])) _
    refine XS.goto X0.here hx rfl (pc0 := 33) (pc' := 37) rfl (hb hby d1_33) (by decide) (by decide) ?_
    show Steps p.tables e below (s₁.setTop (mkF m 37 #[.val (.int p1), .val (.long q2), .second, .val (.int p3), .val (.int p4), .val (.long q5), .second, .val (.int p6)] [(.int (1 : Int32))])) _
    exact retN X0 hx (t := .boolean) Bd.returns (by simp) (hb hby d1_37) hr
  · show Qv (some (.int (1 : Int32))) h0 n0 _ s₁.heap _
    rw [e0]
    exact ⟨rfl, N0, rfl⟩
theorem d1_36 : decode prog_30_method_7_code 36 = .ok (.iconst 0, 1) := by decide +kernel
set_option maxRecDepth 65536 in
set_option maxHeartbeats 40000000 in
theorem rm1_ftft (l : Launch) (Z : State) (a0 : Array Value) (hw : ∀ d ∈ tables_1, d.before a0 Z = true) (ws : List Jvm.Cond) (p1 : Int32) (q2 : Int64) (p3 : Int32) (p4 : Int32) (q5 : Int64) (p6 : Int32) (h0 : Heap) (n0 : Nat) (Z0 : n0 ≤ h0.size) (hc4 : (lcmpW q5 q2) = (0 : Int32)) (hc11 : p4 = (-2 : Int32)) (hc25 : p6 = (-1 : Int32)) (hc29 : p3 < (0 : Int32)) :
    MetFree l (⟨"com/example/cablegram/cablegram/engine/Envelope", "matches", "(IJIIJI)Z"⟩ : MethodName) (head1 (Jvm.Cond.code (⟨"com/example/cablegram/cablegram/engine/Envelope", "matches", "(IJIIJI)Z"⟩ : MethodName) prog_30_method_7_code 8 (some .boolean) :: ws) ({ frames := 0, cells := 0, slots := 0, locals := 0 } : Room)) (fun a U => a = #[(.int p1), (.long q2), (.int p3), (.int p4), (.long q5), (.int p6)] ∧ Z.Warmed39 U.vm ∧ U.heap = h0) (fun _ _ _ _ _ => True) (fun _ U o U' => ∃ v L, o = .returned v ∧ Qv (some (.int (0 : Int32))) h0 n0 v U'.heap L ∧ FrameEnd U o U' L ({ frames := 0, cells := 0, slots := 0, locals := 0 } : Room).cells ({ frames := 0, cells := 0, slots := 0, locals := 0 } : Room).slots) := by
  refine MetFree.of_bodySF (plainFor_of_name pn_1) hisR ?_
  intro p e s m args below meth c s₁ Bd hml0 hP hK
  obtain ⟨rfl, hZ, hh⟩ := hP
  have hx := Bd.exec
  have hby := Bd.bytes
  have hml : c.maxLocals = 8 := hml0
  have hown : s.vm.findClass "com/example/cablegram/cablegram/engine/Envelope" = some m.cls := findClass_of_methodNamed Bd.named
  have hnm := (name_of_methodNamed Bd.named Bd.method).1
  have X0 : Stand p l e ({ frames := 0, cells := 0, slots := 0, locals := 0 } : Room) s m #[(.int p1), (.long q2), (.int p3), (.int p4), (.long q5), (.int p6)] below meth c s₁ [] 0 0 := Stand.of_body Bd
  have e0 : s₁.heap = h0 := by rw [← hh, Bd.state]; rfl
  have N0 := Fr.nil n0
  have pre0 : ∀ t, Steps p.tables e below (s₁.setTop (mkF m 0 #[.val (.int p1), .val (.long q2), .second, .val (.int p3), .val (.int p4), .val (.long q5), .second, .val (.int p6)] [])) t → Steps p.tables e below (s₁.setTop (entryFrame m #[(.int p1), (.long q2), (.int p3), (.int p4), (.long q5), (.int p6)] 8)) t := fun t k => castTop (ef_1 m p1 q2 p3 p4 q5 p6) k
  -- 3. LAWS

  obtain ⟨fs, hr, hrun, hended, hW, hsame⟩ := X0.leave (v := some (.int (0 : Int32))) (fun h => by rw [Bd.returns] at h; cases h)
  refine ⟨_, _, pre0 _ ?_, hrun, hended, _, _, rfl, ?_, ⟨_, rfl⟩, hW, hsame.mono (by decide) (by decide)⟩
  -- 4. STEPS
  · show Steps p.tables e below (s₁.setTop (mkF m 0 #[.val (.int p1), .val (.long q2), .second, .val (.int p3), .val (.int p4), .val (.long q5), .second, .val (.int p6)] [])) _
    refine XS.lload X0.here hx rfl (hb hby d1_0) rfl ?_
    show Steps p.tables e below (s₁.setTop (mkF m 2 #[.val (.int p1), .val (.long q2), .second, .val (.int p3), .val (.int p4), .val (.long q5), .second, .val (.int p6)] [(.long q5)])) _
    refine XS.lloadN X0.here hx rfl (hb hby d1_2) rfl ?_
    show Steps p.tables e below (s₁.setTop (mkF m 3 #[.val (.int p1), .val (.long q2), .second, .val (.int p3), .val (.int p4), .val (.long q5), .second, .val (.int p6)] [(.long q2), (.long q5)])) _
    refine XS.lcmp X0.here hx rfl (hb hby d1_3) rfl ?_
    show Steps p.tables e below (s₁.setTop (mkF m 4 #[.val (.int p1), .val (.long q2), .second, .val (.int p3), .val (.int p4), .val (.long q5), .second, .val (.int p6)] [(.int (lcmpW q5 q2))])) _
    refine XS.ifNo X0.here hx rfl (hb hby d1_4) rfl ((if0 _ _).trans (teq hc4).2) ?_
    show Steps p.tables e below (s₁.setTop (mkF m 7 #[.val (.int p1), .val (.long q2), .second, .val (.int p3), .val (.int p4), .val (.long q5), .second, .val (.int p6)] [])) _
    refine XS.iload X0.here hx rfl (hb hby d1_7) rfl ?_
    show Steps p.tables e below (s₁.setTop (mkF m 9 #[.val (.int p1), .val (.long q2), .second, .val (.int p3), .val (.int p4), .val (.long q5), .second, .val (.int p6)] [(.int p4)])) _
    refine XS.bipush X0.here hx rfl (hb hby d1_9) ?_
    show Steps p.tables e below (s₁.setTop (mkF m 11 #[.val (.int p1), .val (.long q2), .second, .val (.int p3), .val (.int p4), .val (.long q5), .second, .val (.int p6)] [(.int (-2 : Int32)), (.int p4)])) _
    refine XS.icmpYes X0.here hx rfl (pc0 := 11) (pc' := 22) rfl (hb hby d1_11) rfl (teq hc11).1 (by decide) (by decide) ?_
    show Steps p.tables e below (s₁.setTop (mkF m 22 #[.val (.int p1), .val (.long q2), .second, .val (.int p3), .val (.int p4), .val (.long q5), .second, .val (.int p6)] [])) _
    refine XS.iload X0.here hx rfl (hb hby d1_22) rfl ?_
    show Steps p.tables e below (s₁.setTop (mkF m 24 #[.val (.int p1), .val (.long q2), .second, .val (.int p3), .val (.int p4), .val (.long q5), .second, .val (.int p6)] [(.int p6)])) _
    refine XS.iconst X0.here hx rfl (hb hby d1_24) ?_
    show Steps p.tables e below (s₁.setTop (mkF m 25 #[.val (.int p1), .val (.long q2), .second, .val (.int p3), .val (.int p4), .val (.long q5), .second, .val (.int p6)] [(.int (-1 : Int32)), (.int p6)])) _
    refine XS.icmpNo X0.here hx rfl (hb hby d1_25) rfl (teq hc25).2 ?_
    show Steps p.tables e below (s₁.setTop (mkF m 28 #[.val (.int p1), .val (.long q2), .second, .val (.int p3), .val (.int p4), .val (.long q5), .second, .val (.int p6)] [])) _
    refine XS.iloadN X0.here hx rfl (hb hby d1_28) rfl ?_
    show Steps p.tables e below (s₁.setTop (mkF m 29 #[.val (.int p1), .val (.long q2), .second, .val (.int p3), .val (.int p4), .val (.long q5), .second, .val (.int p6)] [(.int p3)])) _
    refine XS.ifYes X0.here hx rfl (pc0 := 29) (pc' := 36) rfl (hb hby d1_29) rfl ((if0 _ _).trans (tlt hc29).1) (by decide) (by decide) ?_
    show Steps p.tables e below (s₁.setTop (mkF m 36 #[.val (.int p1), .val (.long q2), .second, .val (.int p3), .val (.int p4), .val (.long q5), .second, .val (.int p6)] [])) _
    refine XS.iconst X0.here hx rfl (hb hby d1_36) ?_
    show Steps p.tables e below (s₁.setTop (mkF m 37 #[.val (.int p1), .val (.long q2), .second, .val (.int p3), .val (.int p4), .val (.long q5), .second, .val (.int p6)] [(.int (0 : Int32))])) _
    exact retN X0 hx (t := .boolean) Bd.returns (by simp) (hb hby d1_37) hr
  · show Qv (some (.int (0 : Int32))) h0 n0 _ s₁.heap _
    rw [e0]
    exact ⟨rfl, N0, rfl⟩
theorem d1_38 : decode prog_30_method_7_code 38 = .ok (.iload 7, 2) := by decide +kernel
theorem d1_40 : decode prog_30_method_7_code 40 = .ok (.ldc 43, 2) := by decide +kernel
theorem d1_42 : decode prog_30_method_7_code 42 = .ok (.if_icmp .ne 16, 3) := by decide +kernel
theorem d1_45 : decode prog_30_method_7_code 45 = .ok (.iload_n 3, 1) := by decide +kernel
theorem d1_46 : decode prog_30_method_7_code 46 = .ok (.iconst (-1), 1) := by decide +kernel
theorem d1_47 : decode prog_30_method_7_code 47 = .ok (.if_icmp .ge 7, 3) := by decide +kernel
theorem d1_50 : decode prog_30_method_7_code 50 = .ok (.iconst 1, 1) := by decide +kernel
theorem d1_51 : decode prog_30_method_7_code 51 = .ok (.goto 18, 3) := by decide +kernel
theorem d1_69 : decode prog_30_method_7_code 69 = .ok (.ireturn, 1) := by decide +kernel
set_option maxRecDepth 65536 in
set_option maxHeartbeats 40000000 in
theorem rm1_fttff (l : Launch) (Z : State) (a0 : Array Value) (hw : ∀ d ∈ tables_1, d.before a0 Z = true) (ws : List Jvm.Cond) (p1 : Int32) (q2 : Int64) (p3 : Int32) (p4 : Int32) (q5 : Int64) (p6 : Int32) (h0 : Heap) (n0 : Nat) (Z0 : n0 ≤ h0.size) (hc4 : (lcmpW q5 q2) = (0 : Int32)) (hc11 : p4 = (-2 : Int32)) (hc25 : ¬ (p6 = (-1 : Int32))) (hc42 : p6 = (-2147483648 : Int32)) (hc47 : p3 < (-1 : Int32)) :
    MetFree l (⟨"com/example/cablegram/cablegram/engine/Envelope", "matches", "(IJIIJI)Z"⟩ : MethodName) (head1 (Jvm.Cond.code (⟨"com/example/cablegram/cablegram/engine/Envelope", "matches", "(IJIIJI)Z"⟩ : MethodName) prog_30_method_7_code 8 (some .boolean) :: ws) ({ frames := 0, cells := 0, slots := 0, locals := 0 } : Room)) (fun a U => a = #[(.int p1), (.long q2), (.int p3), (.int p4), (.long q5), (.int p6)] ∧ Z.Warmed39 U.vm ∧ U.heap = h0) (fun _ _ _ _ _ => True) (fun _ U o U' => ∃ v L, o = .returned v ∧ Qv (some (.int (1 : Int32))) h0 n0 v U'.heap L ∧ FrameEnd U o U' L ({ frames := 0, cells := 0, slots := 0, locals := 0 } : Room).cells ({ frames := 0, cells := 0, slots := 0, locals := 0 } : Room).slots) := by
  refine MetFree.of_bodySF (plainFor_of_name pn_1) hisR ?_
  intro p e s m args below meth c s₁ Bd hml0 hP hK
  obtain ⟨rfl, hZ, hh⟩ := hP
  have hx := Bd.exec
  have hby := Bd.bytes
  have hml : c.maxLocals = 8 := hml0
  have hown : s.vm.findClass "com/example/cablegram/cablegram/engine/Envelope" = some m.cls := findClass_of_methodNamed Bd.named
  have hnm := (name_of_methodNamed Bd.named Bd.method).1
  have X0 : Stand p l e ({ frames := 0, cells := 0, slots := 0, locals := 0 } : Room) s m #[(.int p1), (.long q2), (.int p3), (.int p4), (.long q5), (.int p6)] below meth c s₁ [] 0 0 := Stand.of_body Bd
  have e0 : s₁.heap = h0 := by rw [← hh, Bd.state]; rfl
  have N0 := Fr.nil n0
  have pre0 : ∀ t, Steps p.tables e below (s₁.setTop (mkF m 0 #[.val (.int p1), .val (.long q2), .second, .val (.int p3), .val (.int p4), .val (.long q5), .second, .val (.int p6)] [])) t → Steps p.tables e below (s₁.setTop (entryFrame m #[(.int p1), (.long q2), (.int p3), (.int p4), (.long q5), (.int p6)] 8)) t := fun t k => castTop (ef_1 m p1 q2 p3 p4 q5 p6) k
  -- 3. LAWS

  obtain ⟨fs, hr, hrun, hended, hW, hsame⟩ := X0.leave (v := some (.int (1 : Int32))) (fun h => by rw [Bd.returns] at h; cases h)
  refine ⟨_, _, pre0 _ ?_, hrun, hended, _, _, rfl, ?_, ⟨_, rfl⟩, hW, hsame.mono (by decide) (by decide)⟩
  -- 4. STEPS
  · show Steps p.tables e below (s₁.setTop (mkF m 0 #[.val (.int p1), .val (.long q2), .second, .val (.int p3), .val (.int p4), .val (.long q5), .second, .val (.int p6)] [])) _
    refine XS.lload X0.here hx rfl (hb hby d1_0) rfl ?_
    show Steps p.tables e below (s₁.setTop (mkF m 2 #[.val (.int p1), .val (.long q2), .second, .val (.int p3), .val (.int p4), .val (.long q5), .second, .val (.int p6)] [(.long q5)])) _
    refine XS.lloadN X0.here hx rfl (hb hby d1_2) rfl ?_
    show Steps p.tables e below (s₁.setTop (mkF m 3 #[.val (.int p1), .val (.long q2), .second, .val (.int p3), .val (.int p4), .val (.long q5), .second, .val (.int p6)] [(.long q2), (.long q5)])) _
    refine XS.lcmp X0.here hx rfl (hb hby d1_3) rfl ?_
    show Steps p.tables e below (s₁.setTop (mkF m 4 #[.val (.int p1), .val (.long q2), .second, .val (.int p3), .val (.int p4), .val (.long q5), .second, .val (.int p6)] [(.int (lcmpW q5 q2))])) _
    refine XS.ifNo X0.here hx rfl (hb hby d1_4) rfl ((if0 _ _).trans (teq hc4).2) ?_
    show Steps p.tables e below (s₁.setTop (mkF m 7 #[.val (.int p1), .val (.long q2), .second, .val (.int p3), .val (.int p4), .val (.long q5), .second, .val (.int p6)] [])) _
    refine XS.iload X0.here hx rfl (hb hby d1_7) rfl ?_
    show Steps p.tables e below (s₁.setTop (mkF m 9 #[.val (.int p1), .val (.long q2), .second, .val (.int p3), .val (.int p4), .val (.long q5), .second, .val (.int p6)] [(.int p4)])) _
    refine XS.bipush X0.here hx rfl (hb hby d1_9) ?_
    show Steps p.tables e below (s₁.setTop (mkF m 11 #[.val (.int p1), .val (.long q2), .second, .val (.int p3), .val (.int p4), .val (.long q5), .second, .val (.int p6)] [(.int (-2 : Int32)), (.int p4)])) _
    refine XS.icmpYes X0.here hx rfl (pc0 := 11) (pc' := 22) rfl (hb hby d1_11) rfl (teq hc11).1 (by decide) (by decide) ?_
    show Steps p.tables e below (s₁.setTop (mkF m 22 #[.val (.int p1), .val (.long q2), .second, .val (.int p3), .val (.int p4), .val (.long q5), .second, .val (.int p6)] [])) _
    refine XS.iload X0.here hx rfl (hb hby d1_22) rfl ?_
    show Steps p.tables e below (s₁.setTop (mkF m 24 #[.val (.int p1), .val (.long q2), .second, .val (.int p3), .val (.int p4), .val (.long q5), .second, .val (.int p6)] [(.int p6)])) _
    refine XS.iconst X0.here hx rfl (hb hby d1_24) ?_
    show Steps p.tables e below (s₁.setTop (mkF m 25 #[.val (.int p1), .val (.long q2), .second, .val (.int p3), .val (.int p4), .val (.long q5), .second, .val (.int p6)] [(.int (-1 : Int32)), (.int p6)])) _
    refine XS.icmpYes X0.here hx rfl (pc0 := 25) (pc' := 38) rfl (hb hby d1_25) rfl (feq hc25).2 (by decide) (by decide) ?_
    show Steps p.tables e below (s₁.setTop (mkF m 38 #[.val (.int p1), .val (.long q2), .second, .val (.int p3), .val (.int p4), .val (.long q5), .second, .val (.int p6)] [])) _
    refine XS.iload X0.here hx rfl (hb hby d1_38) rfl ?_
    show Steps p.tables e below (s₁.setTop (mkF m 40 #[.val (.int p1), .val (.long q2), .second, .val (.int p3), .val (.int p4), .val (.long q5), .second, .val (.int p6)] [(.int p6)])) _
    refine X0.ldcInt hx hown (mvT hZ (hw _ (List.mem_of_getElem? (i := 5) rfl))) (g := (mkF m 40 #[.val (.int p1), .val (.long q2), .second, .val (.int p3), .val (.int p4), .val (.long q5), .second, .val (.int p6)] [(.int p6)])) rfl (hb hby d1_40) _ ?_
    show Steps p.tables e below (s₁.setTop (mkF m 42 #[.val (.int p1), .val (.long q2), .second, .val (.int p3), .val (.int p4), .val (.long q5), .second, .val (.int p6)] [(.int (-2147483648 : Int32)), (.int p6)])) _
    refine XS.icmpNo X0.here hx rfl (hb hby d1_42) rfl (teq hc42).2 ?_
    show Steps p.tables e below (s₁.setTop (mkF m 45 #[.val (.int p1), .val (.long q2), .second, .val (.int p3), .val (.int p4), .val (.long q5), .second, .val (.int p6)] [])) _
    refine XS.iloadN X0.here hx rfl (hb hby d1_45) rfl ?_
    show Steps p.tables e below (s₁.setTop (mkF m 46 #[.val (.int p1), .val (.long q2), .second, .val (.int p3), .val (.int p4), .val (.long q5), .second, .val (.int p6)] [(.int p3)])) _
    refine XS.iconst X0.here hx rfl (hb hby d1_46) ?_
    show Steps p.tables e below (s₁.setTop (mkF m 47 #[.val (.int p1), .val (.long q2), .second, .val (.int p3), .val (.int p4), .val (.long q5), .second, .val (.int p6)] [(.int (-1 : Int32)), (.int p3)])) _
    refine XS.icmpNo X0.here hx rfl (hb hby d1_47) rfl (tlt hc47).2.1 ?_
    show Steps p.tables e below (s₁.setTop (mkF m 50 #[.val (.int p1), .val (.long q2), .second, .val (.int p3), .val (.int p4), .val (.long q5), .second, .val (.int p6)] [])) _
    refine XS.iconst X0.here hx rfl (hb hby d1_50) ?_
    show Steps p.tables e below (s₁.setTop (mkF m 51 #[.val (.int p1), .val (.long q2), .second, .val (.int p3), .val (.int p4), .val (.long q5), .second, .val (.int p6)] [(.int (1 : Int32))])) _
    refine XS.goto X0.here hx rfl (pc0 := 51) (pc' := 69) rfl (hb hby d1_51) (by decide) (by decide) ?_
    show Steps p.tables e below (s₁.setTop (mkF m 69 #[.val (.int p1), .val (.long q2), .second, .val (.int p3), .val (.int p4), .val (.long q5), .second, .val (.int p6)] [(.int (1 : Int32))])) _
    exact retN X0 hx (t := .boolean) Bd.returns (by simp) (hb hby d1_69) hr
  · show Qv (some (.int (1 : Int32))) h0 n0 _ s₁.heap _
    rw [e0]
    exact ⟨rfl, N0, rfl⟩
theorem d1_54 : decode prog_30_method_7_code 54 = .ok (.iconst 0, 1) := by decide +kernel
theorem d1_55 : decode prog_30_method_7_code 55 = .ok (.goto 14, 3) := by decide +kernel
set_option maxRecDepth 65536 in
set_option maxHeartbeats 40000000 in
theorem rm1_fttft (l : Launch) (Z : State) (a0 : Array Value) (hw : ∀ d ∈ tables_1, d.before a0 Z = true) (ws : List Jvm.Cond) (p1 : Int32) (q2 : Int64) (p3 : Int32) (p4 : Int32) (q5 : Int64) (p6 : Int32) (h0 : Heap) (n0 : Nat) (Z0 : n0 ≤ h0.size) (hc4 : (lcmpW q5 q2) = (0 : Int32)) (hc11 : p4 = (-2 : Int32)) (hc25 : ¬ (p6 = (-1 : Int32))) (hc42 : p6 = (-2147483648 : Int32)) (hc47 : ¬ (p3 < (-1 : Int32))) :
    MetFree l (⟨"com/example/cablegram/cablegram/engine/Envelope", "matches", "(IJIIJI)Z"⟩ : MethodName) (head1 (Jvm.Cond.code (⟨"com/example/cablegram/cablegram/engine/Envelope", "matches", "(IJIIJI)Z"⟩ : MethodName) prog_30_method_7_code 8 (some .boolean) :: ws) ({ frames := 0, cells := 0, slots := 0, locals := 0 } : Room)) (fun a U => a = #[(.int p1), (.long q2), (.int p3), (.int p4), (.long q5), (.int p6)] ∧ Z.Warmed39 U.vm ∧ U.heap = h0) (fun _ _ _ _ _ => True) (fun _ U o U' => ∃ v L, o = .returned v ∧ Qv (some (.int (0 : Int32))) h0 n0 v U'.heap L ∧ FrameEnd U o U' L ({ frames := 0, cells := 0, slots := 0, locals := 0 } : Room).cells ({ frames := 0, cells := 0, slots := 0, locals := 0 } : Room).slots) := by
  refine MetFree.of_bodySF (plainFor_of_name pn_1) hisR ?_
  intro p e s m args below meth c s₁ Bd hml0 hP hK
  obtain ⟨rfl, hZ, hh⟩ := hP
  have hx := Bd.exec
  have hby := Bd.bytes
  have hml : c.maxLocals = 8 := hml0
  have hown : s.vm.findClass "com/example/cablegram/cablegram/engine/Envelope" = some m.cls := findClass_of_methodNamed Bd.named
  have hnm := (name_of_methodNamed Bd.named Bd.method).1
  have X0 : Stand p l e ({ frames := 0, cells := 0, slots := 0, locals := 0 } : Room) s m #[(.int p1), (.long q2), (.int p3), (.int p4), (.long q5), (.int p6)] below meth c s₁ [] 0 0 := Stand.of_body Bd
  have e0 : s₁.heap = h0 := by rw [← hh, Bd.state]; rfl
  have N0 := Fr.nil n0
  have pre0 : ∀ t, Steps p.tables e below (s₁.setTop (mkF m 0 #[.val (.int p1), .val (.long q2), .second, .val (.int p3), .val (.int p4), .val (.long q5), .second, .val (.int p6)] [])) t → Steps p.tables e below (s₁.setTop (entryFrame m #[(.int p1), (.long q2), (.int p3), (.int p4), (.long q5), (.int p6)] 8)) t := fun t k => castTop (ef_1 m p1 q2 p3 p4 q5 p6) k
  -- 3. LAWS

  obtain ⟨fs, hr, hrun, hended, hW, hsame⟩ := X0.leave (v := some (.int (0 : Int32))) (fun h => by rw [Bd.returns] at h; cases h)
  refine ⟨_, _, pre0 _ ?_, hrun, hended, _, _, rfl, ?_, ⟨_, rfl⟩, hW, hsame.mono (by decide) (by decide)⟩
  -- 4. STEPS
  · show Steps p.tables e below (s₁.setTop (mkF m 0 #[.val (.int p1), .val (.long q2), .second, .val (.int p3), .val (.int p4), .val (.long q5), .second, .val (.int p6)] [])) _
    refine XS.lload X0.here hx rfl (hb hby d1_0) rfl ?_
    show Steps p.tables e below (s₁.setTop (mkF m 2 #[.val (.int p1), .val (.long q2), .second, .val (.int p3), .val (.int p4), .val (.long q5), .second, .val (.int p6)] [(.long q5)])) _
    refine XS.lloadN X0.here hx rfl (hb hby d1_2) rfl ?_
    show Steps p.tables e below (s₁.setTop (mkF m 3 #[.val (.int p1), .val (.long q2), .second, .val (.int p3), .val (.int p4), .val (.long q5), .second, .val (.int p6)] [(.long q2), (.long q5)])) _
    refine XS.lcmp X0.here hx rfl (hb hby d1_3) rfl ?_
    show Steps p.tables e below (s₁.setTop (mkF m 4 #[.val (.int p1), .val (.long q2), .second, .val (.int p3), .val (.int p4), .val (.long q5), .second, .val (.int p6)] [(.int (lcmpW q5 q2))])) _
    refine XS.ifNo X0.here hx rfl (hb hby d1_4) rfl ((if0 _ _).trans (teq hc4).2) ?_
    show Steps p.tables e below (s₁.setTop (mkF m 7 #[.val (.int p1), .val (.long q2), .second, .val (.int p3), .val (.int p4), .val (.long q5), .second, .val (.int p6)] [])) _
    refine XS.iload X0.here hx rfl (hb hby d1_7) rfl ?_
    show Steps p.tables e below (s₁.setTop (mkF m 9 #[.val (.int p1), .val (.long q2), .second, .val (.int p3), .val (.int p4), .val (.long q5), .second, .val (.int p6)] [(.int p4)])) _
    refine XS.bipush X0.here hx rfl (hb hby d1_9) ?_
    show Steps p.tables e below (s₁.setTop (mkF m 11 #[.val (.int p1), .val (.long q2), .second, .val (.int p3), .val (.int p4), .val (.long q5), .second, .val (.int p6)] [(.int (-2 : Int32)), (.int p4)])) _
    refine XS.icmpYes X0.here hx rfl (pc0 := 11) (pc' := 22) rfl (hb hby d1_11) rfl (teq hc11).1 (by decide) (by decide) ?_
    show Steps p.tables e below (s₁.setTop (mkF m 22 #[.val (.int p1), .val (.long q2), .second, .val (.int p3), .val (.int p4), .val (.long q5), .second, .val (.int p6)] [])) _
    refine XS.iload X0.here hx rfl (hb hby d1_22) rfl ?_
    show Steps p.tables e below (s₁.setTop (mkF m 24 #[.val (.int p1), .val (.long q2), .second, .val (.int p3), .val (.int p4), .val (.long q5), .second, .val (.int p6)] [(.int p6)])) _
    refine XS.iconst X0.here hx rfl (hb hby d1_24) ?_
    show Steps p.tables e below (s₁.setTop (mkF m 25 #[.val (.int p1), .val (.long q2), .second, .val (.int p3), .val (.int p4), .val (.long q5), .second, .val (.int p6)] [(.int (-1 : Int32)), (.int p6)])) _
    refine XS.icmpYes X0.here hx rfl (pc0 := 25) (pc' := 38) rfl (hb hby d1_25) rfl (feq hc25).2 (by decide) (by decide) ?_
    show Steps p.tables e below (s₁.setTop (mkF m 38 #[.val (.int p1), .val (.long q2), .second, .val (.int p3), .val (.int p4), .val (.long q5), .second, .val (.int p6)] [])) _
    refine XS.iload X0.here hx rfl (hb hby d1_38) rfl ?_
    show Steps p.tables e below (s₁.setTop (mkF m 40 #[.val (.int p1), .val (.long q2), .second, .val (.int p3), .val (.int p4), .val (.long q5), .second, .val (.int p6)] [(.int p6)])) _
    refine X0.ldcInt hx hown (mvT hZ (hw _ (List.mem_of_getElem? (i := 5) rfl))) (g := (mkF m 40 #[.val (.int p1), .val (.long q2), .second, .val (.int p3), .val (.int p4), .val (.long q5), .second, .val (.int p6)] [(.int p6)])) rfl (hb hby d1_40) _ ?_
    show Steps p.tables e below (s₁.setTop (mkF m 42 #[.val (.int p1), .val (.long q2), .second, .val (.int p3), .val (.int p4), .val (.long q5), .second, .val (.int p6)] [(.int (-2147483648 : Int32)), (.int p6)])) _
    refine XS.icmpNo X0.here hx rfl (hb hby d1_42) rfl (teq hc42).2 ?_
    show Steps p.tables e below (s₁.setTop (mkF m 45 #[.val (.int p1), .val (.long q2), .second, .val (.int p3), .val (.int p4), .val (.long q5), .second, .val (.int p6)] [])) _
    refine XS.iloadN X0.here hx rfl (hb hby d1_45) rfl ?_
    show Steps p.tables e below (s₁.setTop (mkF m 46 #[.val (.int p1), .val (.long q2), .second, .val (.int p3), .val (.int p4), .val (.long q5), .second, .val (.int p6)] [(.int p3)])) _
    refine XS.iconst X0.here hx rfl (hb hby d1_46) ?_
    show Steps p.tables e below (s₁.setTop (mkF m 47 #[.val (.int p1), .val (.long q2), .second, .val (.int p3), .val (.int p4), .val (.long q5), .second, .val (.int p6)] [(.int (-1 : Int32)), (.int p3)])) _
    refine XS.icmpYes X0.here hx rfl (pc0 := 47) (pc' := 54) rfl (hb hby d1_47) rfl (flt hc47).2.1 (by decide) (by decide) ?_
    show Steps p.tables e below (s₁.setTop (mkF m 54 #[.val (.int p1), .val (.long q2), .second, .val (.int p3), .val (.int p4), .val (.long q5), .second, .val (.int p6)] [])) _
    refine XS.iconst X0.here hx rfl (hb hby d1_54) ?_
    show Steps p.tables e below (s₁.setTop (mkF m 55 #[.val (.int p1), .val (.long q2), .second, .val (.int p3), .val (.int p4), .val (.long q5), .second, .val (.int p6)] [(.int (0 : Int32))])) _
    refine XS.goto X0.here hx rfl (pc0 := 55) (pc' := 69) rfl (hb hby d1_55) (by decide) (by decide) ?_
    show Steps p.tables e below (s₁.setTop (mkF m 69 #[.val (.int p1), .val (.long q2), .second, .val (.int p3), .val (.int p4), .val (.long q5), .second, .val (.int p6)] [(.int (0 : Int32))])) _
    exact retN X0 hx (t := .boolean) Bd.returns (by simp) (hb hby d1_69) hr
  · show Qv (some (.int (0 : Int32))) h0 n0 _ s₁.heap _
    rw [e0]
    exact ⟨rfl, N0, rfl⟩
theorem d1_58 : decode prog_30_method_7_code 58 = .ok (.iload 7, 2) := by decide +kernel
theorem d1_60 : decode prog_30_method_7_code 60 = .ok (.iload_n 3, 1) := by decide +kernel
theorem d1_61 : decode prog_30_method_7_code 61 = .ok (.if_icmp .ne 7, 3) := by decide +kernel
theorem d1_64 : decode prog_30_method_7_code 64 = .ok (.iconst 1, 1) := by decide +kernel
theorem d1_65 : decode prog_30_method_7_code 65 = .ok (.goto 4, 3) := by decide +kernel
set_option maxRecDepth 65536 in
set_option maxHeartbeats 40000000 in
theorem rm1_ftttf (l : Launch) (Z : State) (a0 : Array Value) (hw : ∀ d ∈ tables_1, d.before a0 Z = true) (ws : List Jvm.Cond) (p1 : Int32) (q2 : Int64) (p3 : Int32) (p4 : Int32) (q5 : Int64) (p6 : Int32) (h0 : Heap) (n0 : Nat) (Z0 : n0 ≤ h0.size) (hc4 : (lcmpW q5 q2) = (0 : Int32)) (hc11 : p4 = (-2 : Int32)) (hc25 : ¬ (p6 = (-1 : Int32))) (hc42 : ¬ (p6 = (-2147483648 : Int32))) (hc61 : p6 = p3) :
    MetFree l (⟨"com/example/cablegram/cablegram/engine/Envelope", "matches", "(IJIIJI)Z"⟩ : MethodName) (head1 (Jvm.Cond.code (⟨"com/example/cablegram/cablegram/engine/Envelope", "matches", "(IJIIJI)Z"⟩ : MethodName) prog_30_method_7_code 8 (some .boolean) :: ws) ({ frames := 0, cells := 0, slots := 0, locals := 0 } : Room)) (fun a U => a = #[(.int p1), (.long q2), (.int p3), (.int p4), (.long q5), (.int p6)] ∧ Z.Warmed39 U.vm ∧ U.heap = h0) (fun _ _ _ _ _ => True) (fun _ U o U' => ∃ v L, o = .returned v ∧ Qv (some (.int (1 : Int32))) h0 n0 v U'.heap L ∧ FrameEnd U o U' L ({ frames := 0, cells := 0, slots := 0, locals := 0 } : Room).cells ({ frames := 0, cells := 0, slots := 0, locals := 0 } : Room).slots) := by
  refine MetFree.of_bodySF (plainFor_of_name pn_1) hisR ?_
  intro p e s m args below meth c s₁ Bd hml0 hP hK
  obtain ⟨rfl, hZ, hh⟩ := hP
  have hx := Bd.exec
  have hby := Bd.bytes
  have hml : c.maxLocals = 8 := hml0
  have hown : s.vm.findClass "com/example/cablegram/cablegram/engine/Envelope" = some m.cls := findClass_of_methodNamed Bd.named
  have hnm := (name_of_methodNamed Bd.named Bd.method).1
  have X0 : Stand p l e ({ frames := 0, cells := 0, slots := 0, locals := 0 } : Room) s m #[(.int p1), (.long q2), (.int p3), (.int p4), (.long q5), (.int p6)] below meth c s₁ [] 0 0 := Stand.of_body Bd
  have e0 : s₁.heap = h0 := by rw [← hh, Bd.state]; rfl
  have N0 := Fr.nil n0
  have pre0 : ∀ t, Steps p.tables e below (s₁.setTop (mkF m 0 #[.val (.int p1), .val (.long q2), .second, .val (.int p3), .val (.int p4), .val (.long q5), .second, .val (.int p6)] [])) t → Steps p.tables e below (s₁.setTop (entryFrame m #[(.int p1), (.long q2), (.int p3), (.int p4), (.long q5), (.int p6)] 8)) t := fun t k => castTop (ef_1 m p1 q2 p3 p4 q5 p6) k
  -- 3. LAWS

  obtain ⟨fs, hr, hrun, hended, hW, hsame⟩ := X0.leave (v := some (.int (1 : Int32))) (fun h => by rw [Bd.returns] at h; cases h)
  refine ⟨_, _, pre0 _ ?_, hrun, hended, _, _, rfl, ?_, ⟨_, rfl⟩, hW, hsame.mono (by decide) (by decide)⟩
  -- 4. STEPS
  · show Steps p.tables e below (s₁.setTop (mkF m 0 #[.val (.int p1), .val (.long q2), .second, .val (.int p3), .val (.int p4), .val (.long q5), .second, .val (.int p6)] [])) _
    refine XS.lload X0.here hx rfl (hb hby d1_0) rfl ?_
    show Steps p.tables e below (s₁.setTop (mkF m 2 #[.val (.int p1), .val (.long q2), .second, .val (.int p3), .val (.int p4), .val (.long q5), .second, .val (.int p6)] [(.long q5)])) _
    refine XS.lloadN X0.here hx rfl (hb hby d1_2) rfl ?_
    show Steps p.tables e below (s₁.setTop (mkF m 3 #[.val (.int p1), .val (.long q2), .second, .val (.int p3), .val (.int p4), .val (.long q5), .second, .val (.int p6)] [(.long q2), (.long q5)])) _
    refine XS.lcmp X0.here hx rfl (hb hby d1_3) rfl ?_
    show Steps p.tables e below (s₁.setTop (mkF m 4 #[.val (.int p1), .val (.long q2), .second, .val (.int p3), .val (.int p4), .val (.long q5), .second, .val (.int p6)] [(.int (lcmpW q5 q2))])) _
    refine XS.ifNo X0.here hx rfl (hb hby d1_4) rfl ((if0 _ _).trans (teq hc4).2) ?_
    show Steps p.tables e below (s₁.setTop (mkF m 7 #[.val (.int p1), .val (.long q2), .second, .val (.int p3), .val (.int p4), .val (.long q5), .second, .val (.int p6)] [])) _
    refine XS.iload X0.here hx rfl (hb hby d1_7) rfl ?_
    show Steps p.tables e below (s₁.setTop (mkF m 9 #[.val (.int p1), .val (.long q2), .second, .val (.int p3), .val (.int p4), .val (.long q5), .second, .val (.int p6)] [(.int p4)])) _
    refine XS.bipush X0.here hx rfl (hb hby d1_9) ?_
    show Steps p.tables e below (s₁.setTop (mkF m 11 #[.val (.int p1), .val (.long q2), .second, .val (.int p3), .val (.int p4), .val (.long q5), .second, .val (.int p6)] [(.int (-2 : Int32)), (.int p4)])) _
    refine XS.icmpYes X0.here hx rfl (pc0 := 11) (pc' := 22) rfl (hb hby d1_11) rfl (teq hc11).1 (by decide) (by decide) ?_
    show Steps p.tables e below (s₁.setTop (mkF m 22 #[.val (.int p1), .val (.long q2), .second, .val (.int p3), .val (.int p4), .val (.long q5), .second, .val (.int p6)] [])) _
    refine XS.iload X0.here hx rfl (hb hby d1_22) rfl ?_
    show Steps p.tables e below (s₁.setTop (mkF m 24 #[.val (.int p1), .val (.long q2), .second, .val (.int p3), .val (.int p4), .val (.long q5), .second, .val (.int p6)] [(.int p6)])) _
    refine XS.iconst X0.here hx rfl (hb hby d1_24) ?_
    show Steps p.tables e below (s₁.setTop (mkF m 25 #[.val (.int p1), .val (.long q2), .second, .val (.int p3), .val (.int p4), .val (.long q5), .second, .val (.int p6)] [(.int (-1 : Int32)), (.int p6)])) _
    refine XS.icmpYes X0.here hx rfl (pc0 := 25) (pc' := 38) rfl (hb hby d1_25) rfl (feq hc25).2 (by decide) (by decide) ?_
    show Steps p.tables e below (s₁.setTop (mkF m 38 #[.val (.int p1), .val (.long q2), .second, .val (.int p3), .val (.int p4), .val (.long q5), .second, .val (.int p6)] [])) _
    refine XS.iload X0.here hx rfl (hb hby d1_38) rfl ?_
    show Steps p.tables e below (s₁.setTop (mkF m 40 #[.val (.int p1), .val (.long q2), .second, .val (.int p3), .val (.int p4), .val (.long q5), .second, .val (.int p6)] [(.int p6)])) _
    refine X0.ldcInt hx hown (mvT hZ (hw _ (List.mem_of_getElem? (i := 5) rfl))) (g := (mkF m 40 #[.val (.int p1), .val (.long q2), .second, .val (.int p3), .val (.int p4), .val (.long q5), .second, .val (.int p6)] [(.int p6)])) rfl (hb hby d1_40) _ ?_
    show Steps p.tables e below (s₁.setTop (mkF m 42 #[.val (.int p1), .val (.long q2), .second, .val (.int p3), .val (.int p4), .val (.long q5), .second, .val (.int p6)] [(.int (-2147483648 : Int32)), (.int p6)])) _
    refine XS.icmpYes X0.here hx rfl (pc0 := 42) (pc' := 58) rfl (hb hby d1_42) rfl (feq hc42).2 (by decide) (by decide) ?_
    show Steps p.tables e below (s₁.setTop (mkF m 58 #[.val (.int p1), .val (.long q2), .second, .val (.int p3), .val (.int p4), .val (.long q5), .second, .val (.int p6)] [])) _
    refine XS.iload X0.here hx rfl (hb hby d1_58) rfl ?_
    show Steps p.tables e below (s₁.setTop (mkF m 60 #[.val (.int p1), .val (.long q2), .second, .val (.int p3), .val (.int p4), .val (.long q5), .second, .val (.int p6)] [(.int p6)])) _
    refine XS.iloadN X0.here hx rfl (hb hby d1_60) rfl ?_
    show Steps p.tables e below (s₁.setTop (mkF m 61 #[.val (.int p1), .val (.long q2), .second, .val (.int p3), .val (.int p4), .val (.long q5), .second, .val (.int p6)] [(.int p3), (.int p6)])) _
    refine XS.icmpNo X0.here hx rfl (hb hby d1_61) rfl (teq hc61).2 ?_
    show Steps p.tables e below (s₁.setTop (mkF m 64 #[.val (.int p1), .val (.long q2), .second, .val (.int p3), .val (.int p4), .val (.long q5), .second, .val (.int p6)] [])) _
    refine XS.iconst X0.here hx rfl (hb hby d1_64) ?_
    show Steps p.tables e below (s₁.setTop (mkF m 65 #[.val (.int p1), .val (.long q2), .second, .val (.int p3), .val (.int p4), .val (.long q5), .second, .val (.int p6)] [(.int (1 : Int32))])) _
    refine XS.goto X0.here hx rfl (pc0 := 65) (pc' := 69) rfl (hb hby d1_65) (by decide) (by decide) ?_
    show Steps p.tables e below (s₁.setTop (mkF m 69 #[.val (.int p1), .val (.long q2), .second, .val (.int p3), .val (.int p4), .val (.long q5), .second, .val (.int p6)] [(.int (1 : Int32))])) _
    exact retN X0 hx (t := .boolean) Bd.returns (by simp) (hb hby d1_69) hr
  · show Qv (some (.int (1 : Int32))) h0 n0 _ s₁.heap _
    rw [e0]
    exact ⟨rfl, N0, rfl⟩
theorem d1_68 : decode prog_30_method_7_code 68 = .ok (.iconst 0, 1) := by decide +kernel
set_option maxRecDepth 65536 in
set_option maxHeartbeats 40000000 in
theorem rm1_ftttt (l : Launch) (Z : State) (a0 : Array Value) (hw : ∀ d ∈ tables_1, d.before a0 Z = true) (ws : List Jvm.Cond) (p1 : Int32) (q2 : Int64) (p3 : Int32) (p4 : Int32) (q5 : Int64) (p6 : Int32) (h0 : Heap) (n0 : Nat) (Z0 : n0 ≤ h0.size) (hc4 : (lcmpW q5 q2) = (0 : Int32)) (hc11 : p4 = (-2 : Int32)) (hc25 : ¬ (p6 = (-1 : Int32))) (hc42 : ¬ (p6 = (-2147483648 : Int32))) (hc61 : ¬ (p6 = p3)) :
    MetFree l (⟨"com/example/cablegram/cablegram/engine/Envelope", "matches", "(IJIIJI)Z"⟩ : MethodName) (head1 (Jvm.Cond.code (⟨"com/example/cablegram/cablegram/engine/Envelope", "matches", "(IJIIJI)Z"⟩ : MethodName) prog_30_method_7_code 8 (some .boolean) :: ws) ({ frames := 0, cells := 0, slots := 0, locals := 0 } : Room)) (fun a U => a = #[(.int p1), (.long q2), (.int p3), (.int p4), (.long q5), (.int p6)] ∧ Z.Warmed39 U.vm ∧ U.heap = h0) (fun _ _ _ _ _ => True) (fun _ U o U' => ∃ v L, o = .returned v ∧ Qv (some (.int (0 : Int32))) h0 n0 v U'.heap L ∧ FrameEnd U o U' L ({ frames := 0, cells := 0, slots := 0, locals := 0 } : Room).cells ({ frames := 0, cells := 0, slots := 0, locals := 0 } : Room).slots) := by
  refine MetFree.of_bodySF (plainFor_of_name pn_1) hisR ?_
  intro p e s m args below meth c s₁ Bd hml0 hP hK
  obtain ⟨rfl, hZ, hh⟩ := hP
  have hx := Bd.exec
  have hby := Bd.bytes
  have hml : c.maxLocals = 8 := hml0
  have hown : s.vm.findClass "com/example/cablegram/cablegram/engine/Envelope" = some m.cls := findClass_of_methodNamed Bd.named
  have hnm := (name_of_methodNamed Bd.named Bd.method).1
  have X0 : Stand p l e ({ frames := 0, cells := 0, slots := 0, locals := 0 } : Room) s m #[(.int p1), (.long q2), (.int p3), (.int p4), (.long q5), (.int p6)] below meth c s₁ [] 0 0 := Stand.of_body Bd
  have e0 : s₁.heap = h0 := by rw [← hh, Bd.state]; rfl
  have N0 := Fr.nil n0
  have pre0 : ∀ t, Steps p.tables e below (s₁.setTop (mkF m 0 #[.val (.int p1), .val (.long q2), .second, .val (.int p3), .val (.int p4), .val (.long q5), .second, .val (.int p6)] [])) t → Steps p.tables e below (s₁.setTop (entryFrame m #[(.int p1), (.long q2), (.int p3), (.int p4), (.long q5), (.int p6)] 8)) t := fun t k => castTop (ef_1 m p1 q2 p3 p4 q5 p6) k
  -- 3. LAWS

  obtain ⟨fs, hr, hrun, hended, hW, hsame⟩ := X0.leave (v := some (.int (0 : Int32))) (fun h => by rw [Bd.returns] at h; cases h)
  refine ⟨_, _, pre0 _ ?_, hrun, hended, _, _, rfl, ?_, ⟨_, rfl⟩, hW, hsame.mono (by decide) (by decide)⟩
  -- 4. STEPS
  · show Steps p.tables e below (s₁.setTop (mkF m 0 #[.val (.int p1), .val (.long q2), .second, .val (.int p3), .val (.int p4), .val (.long q5), .second, .val (.int p6)] [])) _
    refine XS.lload X0.here hx rfl (hb hby d1_0) rfl ?_
    show Steps p.tables e below (s₁.setTop (mkF m 2 #[.val (.int p1), .val (.long q2), .second, .val (.int p3), .val (.int p4), .val (.long q5), .second, .val (.int p6)] [(.long q5)])) _
    refine XS.lloadN X0.here hx rfl (hb hby d1_2) rfl ?_
    show Steps p.tables e below (s₁.setTop (mkF m 3 #[.val (.int p1), .val (.long q2), .second, .val (.int p3), .val (.int p4), .val (.long q5), .second, .val (.int p6)] [(.long q2), (.long q5)])) _
    refine XS.lcmp X0.here hx rfl (hb hby d1_3) rfl ?_
    show Steps p.tables e below (s₁.setTop (mkF m 4 #[.val (.int p1), .val (.long q2), .second, .val (.int p3), .val (.int p4), .val (.long q5), .second, .val (.int p6)] [(.int (lcmpW q5 q2))])) _
    refine XS.ifNo X0.here hx rfl (hb hby d1_4) rfl ((if0 _ _).trans (teq hc4).2) ?_
    show Steps p.tables e below (s₁.setTop (mkF m 7 #[.val (.int p1), .val (.long q2), .second, .val (.int p3), .val (.int p4), .val (.long q5), .second, .val (.int p6)] [])) _
    refine XS.iload X0.here hx rfl (hb hby d1_7) rfl ?_
    show Steps p.tables e below (s₁.setTop (mkF m 9 #[.val (.int p1), .val (.long q2), .second, .val (.int p3), .val (.int p4), .val (.long q5), .second, .val (.int p6)] [(.int p4)])) _
    refine XS.bipush X0.here hx rfl (hb hby d1_9) ?_
    show Steps p.tables e below (s₁.setTop (mkF m 11 #[.val (.int p1), .val (.long q2), .second, .val (.int p3), .val (.int p4), .val (.long q5), .second, .val (.int p6)] [(.int (-2 : Int32)), (.int p4)])) _
    refine XS.icmpYes X0.here hx rfl (pc0 := 11) (pc' := 22) rfl (hb hby d1_11) rfl (teq hc11).1 (by decide) (by decide) ?_
    show Steps p.tables e below (s₁.setTop (mkF m 22 #[.val (.int p1), .val (.long q2), .second, .val (.int p3), .val (.int p4), .val (.long q5), .second, .val (.int p6)] [])) _
    refine XS.iload X0.here hx rfl (hb hby d1_22) rfl ?_
    show Steps p.tables e below (s₁.setTop (mkF m 24 #[.val (.int p1), .val (.long q2), .second, .val (.int p3), .val (.int p4), .val (.long q5), .second, .val (.int p6)] [(.int p6)])) _
    refine XS.iconst X0.here hx rfl (hb hby d1_24) ?_
    show Steps p.tables e below (s₁.setTop (mkF m 25 #[.val (.int p1), .val (.long q2), .second, .val (.int p3), .val (.int p4), .val (.long q5), .second, .val (.int p6)] [(.int (-1 : Int32)), (.int p6)])) _
    refine XS.icmpYes X0.here hx rfl (pc0 := 25) (pc' := 38) rfl (hb hby d1_25) rfl (feq hc25).2 (by decide) (by decide) ?_
    show Steps p.tables e below (s₁.setTop (mkF m 38 #[.val (.int p1), .val (.long q2), .second, .val (.int p3), .val (.int p4), .val (.long q5), .second, .val (.int p6)] [])) _
    refine XS.iload X0.here hx rfl (hb hby d1_38) rfl ?_
    show Steps p.tables e below (s₁.setTop (mkF m 40 #[.val (.int p1), .val (.long q2), .second, .val (.int p3), .val (.int p4), .val (.long q5), .second, .val (.int p6)] [(.int p6)])) _
    refine X0.ldcInt hx hown (mvT hZ (hw _ (List.mem_of_getElem? (i := 5) rfl))) (g := (mkF m 40 #[.val (.int p1), .val (.long q2), .second, .val (.int p3), .val (.int p4), .val (.long q5), .second, .val (.int p6)] [(.int p6)])) rfl (hb hby d1_40) _ ?_
    show Steps p.tables e below (s₁.setTop (mkF m 42 #[.val (.int p1), .val (.long q2), .second, .val (.int p3), .val (.int p4), .val (.long q5), .second, .val (.int p6)] [(.int (-2147483648 : Int32)), (.int p6)])) _
    refine XS.icmpYes X0.here hx rfl (pc0 := 42) (pc' := 58) rfl (hb hby d1_42) rfl (feq hc42).2 (by decide) (by decide) ?_
    show Steps p.tables e below (s₁.setTop (mkF m 58 #[.val (.int p1), .val (.long q2), .second, .val (.int p3), .val (.int p4), .val (.long q5), .second, .val (.int p6)] [])) _
    refine XS.iload X0.here hx rfl (hb hby d1_58) rfl ?_
    show Steps p.tables e below (s₁.setTop (mkF m 60 #[.val (.int p1), .val (.long q2), .second, .val (.int p3), .val (.int p4), .val (.long q5), .second, .val (.int p6)] [(.int p6)])) _
    refine XS.iloadN X0.here hx rfl (hb hby d1_60) rfl ?_
    show Steps p.tables e below (s₁.setTop (mkF m 61 #[.val (.int p1), .val (.long q2), .second, .val (.int p3), .val (.int p4), .val (.long q5), .second, .val (.int p6)] [(.int p3), (.int p6)])) _
    refine XS.icmpYes X0.here hx rfl (pc0 := 61) (pc' := 68) rfl (hb hby d1_61) rfl (feq hc61).2 (by decide) (by decide) ?_
    show Steps p.tables e below (s₁.setTop (mkF m 68 #[.val (.int p1), .val (.long q2), .second, .val (.int p3), .val (.int p4), .val (.long q5), .second, .val (.int p6)] [])) _
    refine XS.iconst X0.here hx rfl (hb hby d1_68) ?_
    show Steps p.tables e below (s₁.setTop (mkF m 69 #[.val (.int p1), .val (.long q2), .second, .val (.int p3), .val (.int p4), .val (.long q5), .second, .val (.int p6)] [(.int (0 : Int32))])) _
    exact retN X0 hx (t := .boolean) Bd.returns (by simp) (hb hby d1_69) hr
  · show Qv (some (.int (0 : Int32))) h0 n0 _ s₁.heap _
    rw [e0]
    exact ⟨rfl, N0, rfl⟩
set_option maxRecDepth 65536 in
set_option maxHeartbeats 40000000 in
theorem rm1_fftff (l : Launch) (Z : State) (a0 : Array Value) (hw : ∀ d ∈ tables_1, d.before a0 Z = true) (ws : List Jvm.Cond) (p1 : Int32) (q2 : Int64) (p3 : Int32) (p4 : Int32) (q5 : Int64) (p6 : Int32) (h0 : Heap) (n0 : Nat) (Z0 : n0 ≤ h0.size) (hc4 : (lcmpW q5 q2) = (0 : Int32)) (hc11 : ¬ (p4 = (-2 : Int32))) (hc17 : p4 = p1) (hc25 : p6 = (-1 : Int32)) (hc29 : ¬ (p3 < (0 : Int32))) :
    MetFree l (⟨"com/example/cablegram/cablegram/engine/Envelope", "matches", "(IJIIJI)Z"⟩ : MethodName) (head1 (Jvm.Cond.code (⟨"com/example/cablegram/cablegram/engine/Envelope", "matches", "(IJIIJI)Z"⟩ : MethodName) prog_30_method_7_code 8 (some .boolean) :: ws) ({ frames := 0, cells := 0, slots := 0, locals := 0 } : Room)) (fun a U => a = #[(.int p1), (.long q2), (.int p3), (.int p4), (.long q5), (.int p6)] ∧ Z.Warmed39 U.vm ∧ U.heap = h0) (fun _ _ _ _ _ => True) (fun _ U o U' => ∃ v L, o = .returned v ∧ Qv (some (.int (1 : Int32))) h0 n0 v U'.heap L ∧ FrameEnd U o U' L ({ frames := 0, cells := 0, slots := 0, locals := 0 } : Room).cells ({ frames := 0, cells := 0, slots := 0, locals := 0 } : Room).slots) := by
  refine MetFree.of_bodySF (plainFor_of_name pn_1) hisR ?_
  intro p e s m args below meth c s₁ Bd hml0 hP hK
  obtain ⟨rfl, hZ, hh⟩ := hP
  have hx := Bd.exec
  have hby := Bd.bytes
  have hml : c.maxLocals = 8 := hml0
  have hown : s.vm.findClass "com/example/cablegram/cablegram/engine/Envelope" = some m.cls := findClass_of_methodNamed Bd.named
  have hnm := (name_of_methodNamed Bd.named Bd.method).1
  have X0 : Stand p l e ({ frames := 0, cells := 0, slots := 0, locals := 0 } : Room) s m #[(.int p1), (.long q2), (.int p3), (.int p4), (.long q5), (.int p6)] below meth c s₁ [] 0 0 := Stand.of_body Bd
  have e0 : s₁.heap = h0 := by rw [← hh, Bd.state]; rfl
  have N0 := Fr.nil n0
  have pre0 : ∀ t, Steps p.tables e below (s₁.setTop (mkF m 0 #[.val (.int p1), .val (.long q2), .second, .val (.int p3), .val (.int p4), .val (.long q5), .second, .val (.int p6)] [])) t → Steps p.tables e below (s₁.setTop (entryFrame m #[(.int p1), (.long q2), (.int p3), (.int p4), (.long q5), (.int p6)] 8)) t := fun t k => castTop (ef_1 m p1 q2 p3 p4 q5 p6) k
  -- 3. LAWS

  obtain ⟨fs, hr, hrun, hended, hW, hsame⟩ := X0.leave (v := some (.int (1 : Int32))) (fun h => by rw [Bd.returns] at h; cases h)
  refine ⟨_, _, pre0 _ ?_, hrun, hended, _, _, rfl, ?_, ⟨_, rfl⟩, hW, hsame.mono (by decide) (by decide)⟩
  -- 4. STEPS
  · show Steps p.tables e below (s₁.setTop (mkF m 0 #[.val (.int p1), .val (.long q2), .second, .val (.int p3), .val (.int p4), .val (.long q5), .second, .val (.int p6)] [])) _
    refine XS.lload X0.here hx rfl (hb hby d1_0) rfl ?_
    show Steps p.tables e below (s₁.setTop (mkF m 2 #[.val (.int p1), .val (.long q2), .second, .val (.int p3), .val (.int p4), .val (.long q5), .second, .val (.int p6)] [(.long q5)])) _
    refine XS.lloadN X0.here hx rfl (hb hby d1_2) rfl ?_
    show Steps p.tables e below (s₁.setTop (mkF m 3 #[.val (.int p1), .val (.long q2), .second, .val (.int p3), .val (.int p4), .val (.long q5), .second, .val (.int p6)] [(.long q2), (.long q5)])) _
    refine XS.lcmp X0.here hx rfl (hb hby d1_3) rfl ?_
    show Steps p.tables e below (s₁.setTop (mkF m 4 #[.val (.int p1), .val (.long q2), .second, .val (.int p3), .val (.int p4), .val (.long q5), .second, .val (.int p6)] [(.int (lcmpW q5 q2))])) _
    refine XS.ifNo X0.here hx rfl (hb hby d1_4) rfl ((if0 _ _).trans (teq hc4).2) ?_
    show Steps p.tables e below (s₁.setTop (mkF m 7 #[.val (.int p1), .val (.long q2), .second, .val (.int p3), .val (.int p4), .val (.long q5), .second, .val (.int p6)] [])) _
    refine XS.iload X0.here hx rfl (hb hby d1_7) rfl ?_
    show Steps p.tables e below (s₁.setTop (mkF m 9 #[.val (.int p1), .val (.long q2), .second, .val (.int p3), .val (.int p4), .val (.long q5), .second, .val (.int p6)] [(.int p4)])) _
    refine XS.bipush X0.here hx rfl (hb hby d1_9) ?_
    show Steps p.tables e below (s₁.setTop (mkF m 11 #[.val (.int p1), .val (.long q2), .second, .val (.int p3), .val (.int p4), .val (.long q5), .second, .val (.int p6)] [(.int (-2 : Int32)), (.int p4)])) _
    refine XS.icmpNo X0.here hx rfl (hb hby d1_11) rfl (feq hc11).1 ?_
    show Steps p.tables e below (s₁.setTop (mkF m 14 #[.val (.int p1), .val (.long q2), .second, .val (.int p3), .val (.int p4), .val (.long q5), .second, .val (.int p6)] [])) _
    refine XS.iload X0.here hx rfl (hb hby d1_14) rfl ?_
    show Steps p.tables e below (s₁.setTop (mkF m 16 #[.val (.int p1), .val (.long q2), .second, .val (.int p3), .val (.int p4), .val (.long q5), .second, .val (.int p6)] [(.int p4)])) _
    refine XS.iloadN X0.here hx rfl (hb hby d1_16) rfl ?_
    show Steps p.tables e below (s₁.setTop (mkF m 17 #[.val (.int p1), .val (.long q2), .second, .val (.int p3), .val (.int p4), .val (.long q5), .second, .val (.int p6)] [(.int p1), (.int p4)])) _
    refine XS.icmpYes X0.here hx rfl (pc0 := 17) (pc' := 22) rfl (hb hby d1_17) rfl (teq hc17).1 (by decide) (by decide) ?_
    show Steps p.tables e below (s₁.setTop (mkF m 22 #[.val (.int p1), .val (.long q2), .second, .val (.int p3), .val (.int p4), .val (.long q5), .second, .val (.int p6)] [])) _
    refine XS.iload X0.here hx rfl (hb hby d1_22) rfl ?_
    show Steps p.tables e below (s₁.setTop (mkF m 24 #[.val (.int p1), .val (.long q2), .second, .val (.int p3), .val (.int p4), .val (.long q5), .second, .val (.int p6)] [(.int p6)])) _
    refine XS.iconst X0.here hx rfl (hb hby d1_24) ?_
    show Steps p.tables e below (s₁.setTop (mkF m 25 #[.val (.int p1), .val (.long q2), .second, .val (.int p3), .val (.int p4), .val (.long q5), .second, .val (.int p6)] [(.int (-1 : Int32)), (.int p6)])) _
    refine XS.icmpNo X0.here hx rfl (hb hby d1_25) rfl (teq hc25).2 ?_
    show Steps p.tables e below (s₁.setTop (mkF m 28 #[.val (.int p1), .val (.long q2), .second, .val (.int p3), .val (.int p4), .val (.long q5), .second, .val (.int p6)] [])) _
    refine XS.iloadN X0.here hx rfl (hb hby d1_28) rfl ?_
    show Steps p.tables e below (s₁.setTop (mkF m 29 #[.val (.int p1), .val (.long q2), .second, .val (.int p3), .val (.int p4), .val (.long q5), .second, .val (.int p6)] [(.int p3)])) _
    refine XS.ifNo X0.here hx rfl (hb hby d1_29) rfl ((if0 _ _).trans (flt hc29).1) ?_
    show Steps p.tables e below (s₁.setTop (mkF m 32 #[.val (.int p1), .val (.long q2), .second, .val (.int p3), .val (.int p4), .val (.long q5), .second, .val (.int p6)] [])) _
    refine XS.iconst X0.here hx rfl (hb hby d1_32) ?_
    show Steps p.tables e below (s₁.setTop (mkF m 33 #[.val (.int p1), .val (.long q2), .second, .val (.int p3), .val (.int p4), .val (.long q5), .second, .val (.int p6)] [(.int (1 : Int32))])) _
    refine XS.goto X0.here hx rfl (pc0 := 33) (pc' := 37) rfl (hb hby d1_33) (by decide) (by decide) ?_
    show Steps p.tables e below (s₁.setTop (mkF m 37 #[.val (.int p1), .val (.long q2), .second, .val (.int p3), .val (.int p4), .val (.long q5), .second, .val (.int p6)] [(.int (1 : Int32))])) _
    exact retN X0 hx (t := .boolean) Bd.returns (by simp) (hb hby d1_37) hr
  · show Qv (some (.int (1 : Int32))) h0 n0 _ s₁.heap _
    rw [e0]
    exact ⟨rfl, N0, rfl⟩
set_option maxRecDepth 65536 in
set_option maxHeartbeats 40000000 in
theorem rm1_fftft (l : Launch) (Z : State) (a0 : Array Value) (hw : ∀ d ∈ tables_1, d.before a0 Z = true) (ws : List Jvm.Cond) (p1 : Int32) (q2 : Int64) (p3 : Int32) (p4 : Int32) (q5 : Int64) (p6 : Int32) (h0 : Heap) (n0 : Nat) (Z0 : n0 ≤ h0.size) (hc4 : (lcmpW q5 q2) = (0 : Int32)) (hc11 : ¬ (p4 = (-2 : Int32))) (hc17 : p4 = p1) (hc25 : p6 = (-1 : Int32)) (hc29 : p3 < (0 : Int32)) :
    MetFree l (⟨"com/example/cablegram/cablegram/engine/Envelope", "matches", "(IJIIJI)Z"⟩ : MethodName) (head1 (Jvm.Cond.code (⟨"com/example/cablegram/cablegram/engine/Envelope", "matches", "(IJIIJI)Z"⟩ : MethodName) prog_30_method_7_code 8 (some .boolean) :: ws) ({ frames := 0, cells := 0, slots := 0, locals := 0 } : Room)) (fun a U => a = #[(.int p1), (.long q2), (.int p3), (.int p4), (.long q5), (.int p6)] ∧ Z.Warmed39 U.vm ∧ U.heap = h0) (fun _ _ _ _ _ => True) (fun _ U o U' => ∃ v L, o = .returned v ∧ Qv (some (.int (0 : Int32))) h0 n0 v U'.heap L ∧ FrameEnd U o U' L ({ frames := 0, cells := 0, slots := 0, locals := 0 } : Room).cells ({ frames := 0, cells := 0, slots := 0, locals := 0 } : Room).slots) := by
  refine MetFree.of_bodySF (plainFor_of_name pn_1) hisR ?_
  intro p e s m args below meth c s₁ Bd hml0 hP hK
  obtain ⟨rfl, hZ, hh⟩ := hP
  have hx := Bd.exec
  have hby := Bd.bytes
  have hml : c.maxLocals = 8 := hml0
  have hown : s.vm.findClass "com/example/cablegram/cablegram/engine/Envelope" = some m.cls := findClass_of_methodNamed Bd.named
  have hnm := (name_of_methodNamed Bd.named Bd.method).1
  have X0 : Stand p l e ({ frames := 0, cells := 0, slots := 0, locals := 0 } : Room) s m #[(.int p1), (.long q2), (.int p3), (.int p4), (.long q5), (.int p6)] below meth c s₁ [] 0 0 := Stand.of_body Bd
  have e0 : s₁.heap = h0 := by rw [← hh, Bd.state]; rfl
  have N0 := Fr.nil n0
  have pre0 : ∀ t, Steps p.tables e below (s₁.setTop (mkF m 0 #[.val (.int p1), .val (.long q2), .second, .val (.int p3), .val (.int p4), .val (.long q5), .second, .val (.int p6)] [])) t → Steps p.tables e below (s₁.setTop (entryFrame m #[(.int p1), (.long q2), (.int p3), (.int p4), (.long q5), (.int p6)] 8)) t := fun t k => castTop (ef_1 m p1 q2 p3 p4 q5 p6) k
  -- 3. LAWS

  obtain ⟨fs, hr, hrun, hended, hW, hsame⟩ := X0.leave (v := some (.int (0 : Int32))) (fun h => by rw [Bd.returns] at h; cases h)
  refine ⟨_, _, pre0 _ ?_, hrun, hended, _, _, rfl, ?_, ⟨_, rfl⟩, hW, hsame.mono (by decide) (by decide)⟩
  -- 4. STEPS
  · show Steps p.tables e below (s₁.setTop (mkF m 0 #[.val (.int p1), .val (.long q2), .second, .val (.int p3), .val (.int p4), .val (.long q5), .second, .val (.int p6)] [])) _
    refine XS.lload X0.here hx rfl (hb hby d1_0) rfl ?_
    show Steps p.tables e below (s₁.setTop (mkF m 2 #[.val (.int p1), .val (.long q2), .second, .val (.int p3), .val (.int p4), .val (.long q5), .second, .val (.int p6)] [(.long q5)])) _
    refine XS.lloadN X0.here hx rfl (hb hby d1_2) rfl ?_
    show Steps p.tables e below (s₁.setTop (mkF m 3 #[.val (.int p1), .val (.long q2), .second, .val (.int p3), .val (.int p4), .val (.long q5), .second, .val (.int p6)] [(.long q2), (.long q5)])) _
    refine XS.lcmp X0.here hx rfl (hb hby d1_3) rfl ?_
    show Steps p.tables e below (s₁.setTop (mkF m 4 #[.val (.int p1), .val (.long q2), .second, .val (.int p3), .val (.int p4), .val (.long q5), .second, .val (.int p6)] [(.int (lcmpW q5 q2))])) _
    refine XS.ifNo X0.here hx rfl (hb hby d1_4) rfl ((if0 _ _).trans (teq hc4).2) ?_
    show Steps p.tables e below (s₁.setTop (mkF m 7 #[.val (.int p1), .val (.long q2), .second, .val (.int p3), .val (.int p4), .val (.long q5), .second, .val (.int p6)] [])) _
    refine XS.iload X0.here hx rfl (hb hby d1_7) rfl ?_
    show Steps p.tables e below (s₁.setTop (mkF m 9 #[.val (.int p1), .val (.long q2), .second, .val (.int p3), .val (.int p4), .val (.long q5), .second, .val (.int p6)] [(.int p4)])) _
    refine XS.bipush X0.here hx rfl (hb hby d1_9) ?_
    show Steps p.tables e below (s₁.setTop (mkF m 11 #[.val (.int p1), .val (.long q2), .second, .val (.int p3), .val (.int p4), .val (.long q5), .second, .val (.int p6)] [(.int (-2 : Int32)), (.int p4)])) _
    refine XS.icmpNo X0.here hx rfl (hb hby d1_11) rfl (feq hc11).1 ?_
    show Steps p.tables e below (s₁.setTop (mkF m 14 #[.val (.int p1), .val (.long q2), .second, .val (.int p3), .val (.int p4), .val (.long q5), .second, .val (.int p6)] [])) _
    refine XS.iload X0.here hx rfl (hb hby d1_14) rfl ?_
    show Steps p.tables e below (s₁.setTop (mkF m 16 #[.val (.int p1), .val (.long q2), .second, .val (.int p3), .val (.int p4), .val (.long q5), .second, .val (.int p6)] [(.int p4)])) _
    refine XS.iloadN X0.here hx rfl (hb hby d1_16) rfl ?_
    show Steps p.tables e below (s₁.setTop (mkF m 17 #[.val (.int p1), .val (.long q2), .second, .val (.int p3), .val (.int p4), .val (.long q5), .second, .val (.int p6)] [(.int p1), (.int p4)])) _
    refine XS.icmpYes X0.here hx rfl (pc0 := 17) (pc' := 22) rfl (hb hby d1_17) rfl (teq hc17).1 (by decide) (by decide) ?_
    show Steps p.tables e below (s₁.setTop (mkF m 22 #[.val (.int p1), .val (.long q2), .second, .val (.int p3), .val (.int p4), .val (.long q5), .second, .val (.int p6)] [])) _
    refine XS.iload X0.here hx rfl (hb hby d1_22) rfl ?_
    show Steps p.tables e below (s₁.setTop (mkF m 24 #[.val (.int p1), .val (.long q2), .second, .val (.int p3), .val (.int p4), .val (.long q5), .second, .val (.int p6)] [(.int p6)])) _
    refine XS.iconst X0.here hx rfl (hb hby d1_24) ?_
    show Steps p.tables e below (s₁.setTop (mkF m 25 #[.val (.int p1), .val (.long q2), .second, .val (.int p3), .val (.int p4), .val (.long q5), .second, .val (.int p6)] [(.int (-1 : Int32)), (.int p6)])) _
    refine XS.icmpNo X0.here hx rfl (hb hby d1_25) rfl (teq hc25).2 ?_
    show Steps p.tables e below (s₁.setTop (mkF m 28 #[.val (.int p1), .val (.long q2), .second, .val (.int p3), .val (.int p4), .val (.long q5), .second, .val (.int p6)] [])) _
    refine XS.iloadN X0.here hx rfl (hb hby d1_28) rfl ?_
    show Steps p.tables e below (s₁.setTop (mkF m 29 #[.val (.int p1), .val (.long q2), .second, .val (.int p3), .val (.int p4), .val (.long q5), .second, .val (.int p6)] [(.int p3)])) _
    refine XS.ifYes X0.here hx rfl (pc0 := 29) (pc' := 36) rfl (hb hby d1_29) rfl ((if0 _ _).trans (tlt hc29).1) (by decide) (by decide) ?_
    show Steps p.tables e below (s₁.setTop (mkF m 36 #[.val (.int p1), .val (.long q2), .second, .val (.int p3), .val (.int p4), .val (.long q5), .second, .val (.int p6)] [])) _
    refine XS.iconst X0.here hx rfl (hb hby d1_36) ?_
    show Steps p.tables e below (s₁.setTop (mkF m 37 #[.val (.int p1), .val (.long q2), .second, .val (.int p3), .val (.int p4), .val (.long q5), .second, .val (.int p6)] [(.int (0 : Int32))])) _
    exact retN X0 hx (t := .boolean) Bd.returns (by simp) (hb hby d1_37) hr
  · show Qv (some (.int (0 : Int32))) h0 n0 _ s₁.heap _
    rw [e0]
    exact ⟨rfl, N0, rfl⟩
set_option maxRecDepth 65536 in
set_option maxHeartbeats 40000000 in
theorem rm1_ffttff (l : Launch) (Z : State) (a0 : Array Value) (hw : ∀ d ∈ tables_1, d.before a0 Z = true) (ws : List Jvm.Cond) (p1 : Int32) (q2 : Int64) (p3 : Int32) (p4 : Int32) (q5 : Int64) (p6 : Int32) (h0 : Heap) (n0 : Nat) (Z0 : n0 ≤ h0.size) (hc4 : (lcmpW q5 q2) = (0 : Int32)) (hc11 : ¬ (p4 = (-2 : Int32))) (hc17 : p4 = p1) (hc25 : ¬ (p6 = (-1 : Int32))) (hc42 : p6 = (-2147483648 : Int32)) (hc47 : p3 < (-1 : Int32)) :
    MetFree l (⟨"com/example/cablegram/cablegram/engine/Envelope", "matches", "(IJIIJI)Z"⟩ : MethodName) (head1 (Jvm.Cond.code (⟨"com/example/cablegram/cablegram/engine/Envelope", "matches", "(IJIIJI)Z"⟩ : MethodName) prog_30_method_7_code 8 (some .boolean) :: ws) ({ frames := 0, cells := 0, slots := 0, locals := 0 } : Room)) (fun a U => a = #[(.int p1), (.long q2), (.int p3), (.int p4), (.long q5), (.int p6)] ∧ Z.Warmed39 U.vm ∧ U.heap = h0) (fun _ _ _ _ _ => True) (fun _ U o U' => ∃ v L, o = .returned v ∧ Qv (some (.int (1 : Int32))) h0 n0 v U'.heap L ∧ FrameEnd U o U' L ({ frames := 0, cells := 0, slots := 0, locals := 0 } : Room).cells ({ frames := 0, cells := 0, slots := 0, locals := 0 } : Room).slots) := by
  refine MetFree.of_bodySF (plainFor_of_name pn_1) hisR ?_
  intro p e s m args below meth c s₁ Bd hml0 hP hK
  obtain ⟨rfl, hZ, hh⟩ := hP
  have hx := Bd.exec
  have hby := Bd.bytes
  have hml : c.maxLocals = 8 := hml0
  have hown : s.vm.findClass "com/example/cablegram/cablegram/engine/Envelope" = some m.cls := findClass_of_methodNamed Bd.named
  have hnm := (name_of_methodNamed Bd.named Bd.method).1
  have X0 : Stand p l e ({ frames := 0, cells := 0, slots := 0, locals := 0 } : Room) s m #[(.int p1), (.long q2), (.int p3), (.int p4), (.long q5), (.int p6)] below meth c s₁ [] 0 0 := Stand.of_body Bd
  have e0 : s₁.heap = h0 := by rw [← hh, Bd.state]; rfl
  have N0 := Fr.nil n0
  have pre0 : ∀ t, Steps p.tables e below (s₁.setTop (mkF m 0 #[.val (.int p1), .val (.long q2), .second, .val (.int p3), .val (.int p4), .val (.long q5), .second, .val (.int p6)] [])) t → Steps p.tables e below (s₁.setTop (entryFrame m #[(.int p1), (.long q2), (.int p3), (.int p4), (.long q5), (.int p6)] 8)) t := fun t k => castTop (ef_1 m p1 q2 p3 p4 q5 p6) k
  -- 3. LAWS

  obtain ⟨fs, hr, hrun, hended, hW, hsame⟩ := X0.leave (v := some (.int (1 : Int32))) (fun h => by rw [Bd.returns] at h; cases h)
  refine ⟨_, _, pre0 _ ?_, hrun, hended, _, _, rfl, ?_, ⟨_, rfl⟩, hW, hsame.mono (by decide) (by decide)⟩
  -- 4. STEPS
  · show Steps p.tables e below (s₁.setTop (mkF m 0 #[.val (.int p1), .val (.long q2), .second, .val (.int p3), .val (.int p4), .val (.long q5), .second, .val (.int p6)] [])) _
    refine XS.lload X0.here hx rfl (hb hby d1_0) rfl ?_
    show Steps p.tables e below (s₁.setTop (mkF m 2 #[.val (.int p1), .val (.long q2), .second, .val (.int p3), .val (.int p4), .val (.long q5), .second, .val (.int p6)] [(.long q5)])) _
    refine XS.lloadN X0.here hx rfl (hb hby d1_2) rfl ?_
    show Steps p.tables e below (s₁.setTop (mkF m 3 #[.val (.int p1), .val (.long q2), .second, .val (.int p3), .val (.int p4), .val (.long q5), .second, .val (.int p6)] [(.long q2), (.long q5)])) _
    refine XS.lcmp X0.here hx rfl (hb hby d1_3) rfl ?_
    show Steps p.tables e below (s₁.setTop (mkF m 4 #[.val (.int p1), .val (.long q2), .second, .val (.int p3), .val (.int p4), .val (.long q5), .second, .val (.int p6)] [(.int (lcmpW q5 q2))])) _
    refine XS.ifNo X0.here hx rfl (hb hby d1_4) rfl ((if0 _ _).trans (teq hc4).2) ?_
    show Steps p.tables e below (s₁.setTop (mkF m 7 #[.val (.int p1), .val (.long q2), .second, .val (.int p3), .val (.int p4), .val (.long q5), .second, .val (.int p6)] [])) _
    refine XS.iload X0.here hx rfl (hb hby d1_7) rfl ?_
    show Steps p.tables e below (s₁.setTop (mkF m 9 #[.val (.int p1), .val (.long q2), .second, .val (.int p3), .val (.int p4), .val (.long q5), .second, .val (.int p6)] [(.int p4)])) _
    refine XS.bipush X0.here hx rfl (hb hby d1_9) ?_
    show Steps p.tables e below (s₁.setTop (mkF m 11 #[.val (.int p1), .val (.long q2), .second, .val (.int p3), .val (.int p4), .val (.long q5), .second, .val (.int p6)] [(.int (-2 : Int32)), (.int p4)])) _
    refine XS.icmpNo X0.here hx rfl (hb hby d1_11) rfl (feq hc11).1 ?_
    show Steps p.tables e below (s₁.setTop (mkF m 14 #[.val (.int p1), .val (.long q2), .second, .val (.int p3), .val (.int p4), .val (.long q5), .second, .val (.int p6)] [])) _
    refine XS.iload X0.here hx rfl (hb hby d1_14) rfl ?_
    show Steps p.tables e below (s₁.setTop (mkF m 16 #[.val (.int p1), .val (.long q2), .second, .val (.int p3), .val (.int p4), .val (.long q5), .second, .val (.int p6)] [(.int p4)])) _
    refine XS.iloadN X0.here hx rfl (hb hby d1_16) rfl ?_
    show Steps p.tables e below (s₁.setTop (mkF m 17 #[.val (.int p1), .val (.long q2), .second, .val (.int p3), .val (.int p4), .val (.long q5), .second, .val (.int p6)] [(.int p1), (.int p4)])) _
    refine XS.icmpYes X0.here hx rfl (pc0 := 17) (pc' := 22) rfl (hb hby d1_17) rfl (teq hc17).1 (by decide) (by decide) ?_
    show Steps p.tables e below (s₁.setTop (mkF m 22 #[.val (.int p1), .val (.long q2), .second, .val (.int p3), .val (.int p4), .val (.long q5), .second, .val (.int p6)] [])) _
    refine XS.iload X0.here hx rfl (hb hby d1_22) rfl ?_
    show Steps p.tables e below (s₁.setTop (mkF m 24 #[.val (.int p1), .val (.long q2), .second, .val (.int p3), .val (.int p4), .val (.long q5), .second, .val (.int p6)] [(.int p6)])) _
    refine XS.iconst X0.here hx rfl (hb hby d1_24) ?_
    show Steps p.tables e below (s₁.setTop (mkF m 25 #[.val (.int p1), .val (.long q2), .second, .val (.int p3), .val (.int p4), .val (.long q5), .second, .val (.int p6)] [(.int (-1 : Int32)), (.int p6)])) _
    refine XS.icmpYes X0.here hx rfl (pc0 := 25) (pc' := 38) rfl (hb hby d1_25) rfl (feq hc25).2 (by decide) (by decide) ?_
    show Steps p.tables e below (s₁.setTop (mkF m 38 #[.val (.int p1), .val (.long q2), .second, .val (.int p3), .val (.int p4), .val (.long q5), .second, .val (.int p6)] [])) _
    refine XS.iload X0.here hx rfl (hb hby d1_38) rfl ?_
    show Steps p.tables e below (s₁.setTop (mkF m 40 #[.val (.int p1), .val (.long q2), .second, .val (.int p3), .val (.int p4), .val (.long q5), .second, .val (.int p6)] [(.int p6)])) _
    refine X0.ldcInt hx hown (mvT hZ (hw _ (List.mem_of_getElem? (i := 5) rfl))) (g := (mkF m 40 #[.val (.int p1), .val (.long q2), .second, .val (.int p3), .val (.int p4), .val (.long q5), .second, .val (.int p6)] [(.int p6)])) rfl (hb hby d1_40) _ ?_
    show Steps p.tables e below (s₁.setTop (mkF m 42 #[.val (.int p1), .val (.long q2), .second, .val (.int p3), .val (.int p4), .val (.long q5), .second, .val (.int p6)] [(.int (-2147483648 : Int32)), (.int p6)])) _
    refine XS.icmpNo X0.here hx rfl (hb hby d1_42) rfl (teq hc42).2 ?_
    show Steps p.tables e below (s₁.setTop (mkF m 45 #[.val (.int p1), .val (.long q2), .second, .val (.int p3), .val (.int p4), .val (.long q5), .second, .val (.int p6)] [])) _
    refine XS.iloadN X0.here hx rfl (hb hby d1_45) rfl ?_
    show Steps p.tables e below (s₁.setTop (mkF m 46 #[.val (.int p1), .val (.long q2), .second, .val (.int p3), .val (.int p4), .val (.long q5), .second, .val (.int p6)] [(.int p3)])) _
    refine XS.iconst X0.here hx rfl (hb hby d1_46) ?_
    show Steps p.tables e below (s₁.setTop (mkF m 47 #[.val (.int p1), .val (.long q2), .second, .val (.int p3), .val (.int p4), .val (.long q5), .second, .val (.int p6)] [(.int (-1 : Int32)), (.int p3)])) _
    refine XS.icmpNo X0.here hx rfl (hb hby d1_47) rfl (tlt hc47).2.1 ?_
    show Steps p.tables e below (s₁.setTop (mkF m 50 #[.val (.int p1), .val (.long q2), .second, .val (.int p3), .val (.int p4), .val (.long q5), .second, .val (.int p6)] [])) _
    refine XS.iconst X0.here hx rfl (hb hby d1_50) ?_
    show Steps p.tables e below (s₁.setTop (mkF m 51 #[.val (.int p1), .val (.long q2), .second, .val (.int p3), .val (.int p4), .val (.long q5), .second, .val (.int p6)] [(.int (1 : Int32))])) _
    refine XS.goto X0.here hx rfl (pc0 := 51) (pc' := 69) rfl (hb hby d1_51) (by decide) (by decide) ?_
    show Steps p.tables e below (s₁.setTop (mkF m 69 #[.val (.int p1), .val (.long q2), .second, .val (.int p3), .val (.int p4), .val (.long q5), .second, .val (.int p6)] [(.int (1 : Int32))])) _
    exact retN X0 hx (t := .boolean) Bd.returns (by simp) (hb hby d1_69) hr
  · show Qv (some (.int (1 : Int32))) h0 n0 _ s₁.heap _
    rw [e0]
    exact ⟨rfl, N0, rfl⟩
set_option maxRecDepth 65536 in
set_option maxHeartbeats 40000000 in
theorem rm1_ffttft (l : Launch) (Z : State) (a0 : Array Value) (hw : ∀ d ∈ tables_1, d.before a0 Z = true) (ws : List Jvm.Cond) (p1 : Int32) (q2 : Int64) (p3 : Int32) (p4 : Int32) (q5 : Int64) (p6 : Int32) (h0 : Heap) (n0 : Nat) (Z0 : n0 ≤ h0.size) (hc4 : (lcmpW q5 q2) = (0 : Int32)) (hc11 : ¬ (p4 = (-2 : Int32))) (hc17 : p4 = p1) (hc25 : ¬ (p6 = (-1 : Int32))) (hc42 : p6 = (-2147483648 : Int32)) (hc47 : ¬ (p3 < (-1 : Int32))) :
    MetFree l (⟨"com/example/cablegram/cablegram/engine/Envelope", "matches", "(IJIIJI)Z"⟩ : MethodName) (head1 (Jvm.Cond.code (⟨"com/example/cablegram/cablegram/engine/Envelope", "matches", "(IJIIJI)Z"⟩ : MethodName) prog_30_method_7_code 8 (some .boolean) :: ws) ({ frames := 0, cells := 0, slots := 0, locals := 0 } : Room)) (fun a U => a = #[(.int p1), (.long q2), (.int p3), (.int p4), (.long q5), (.int p6)] ∧ Z.Warmed39 U.vm ∧ U.heap = h0) (fun _ _ _ _ _ => True) (fun _ U o U' => ∃ v L, o = .returned v ∧ Qv (some (.int (0 : Int32))) h0 n0 v U'.heap L ∧ FrameEnd U o U' L ({ frames := 0, cells := 0, slots := 0, locals := 0 } : Room).cells ({ frames := 0, cells := 0, slots := 0, locals := 0 } : Room).slots) := by
  refine MetFree.of_bodySF (plainFor_of_name pn_1) hisR ?_
  intro p e s m args below meth c s₁ Bd hml0 hP hK
  obtain ⟨rfl, hZ, hh⟩ := hP
  have hx := Bd.exec
  have hby := Bd.bytes
  have hml : c.maxLocals = 8 := hml0
  have hown : s.vm.findClass "com/example/cablegram/cablegram/engine/Envelope" = some m.cls := findClass_of_methodNamed Bd.named
  have hnm := (name_of_methodNamed Bd.named Bd.method).1
  have X0 : Stand p l e ({ frames := 0, cells := 0, slots := 0, locals := 0 } : Room) s m #[(.int p1), (.long q2), (.int p3), (.int p4), (.long q5), (.int p6)] below meth c s₁ [] 0 0 := Stand.of_body Bd
  have e0 : s₁.heap = h0 := by rw [← hh, Bd.state]; rfl
  have N0 := Fr.nil n0
  have pre0 : ∀ t, Steps p.tables e below (s₁.setTop (mkF m 0 #[.val (.int p1), .val (.long q2), .second, .val (.int p3), .val (.int p4), .val (.long q5), .second, .val (.int p6)] [])) t → Steps p.tables e below (s₁.setTop (entryFrame m #[(.int p1), (.long q2), (.int p3), (.int p4), (.long q5), (.int p6)] 8)) t := fun t k => castTop (ef_1 m p1 q2 p3 p4 q5 p6) k
  -- 3. LAWS

  obtain ⟨fs, hr, hrun, hended, hW, hsame⟩ := X0.leave (v := some (.int (0 : Int32))) (fun h => by rw [Bd.returns] at h; cases h)
  refine ⟨_, _, pre0 _ ?_, hrun, hended, _, _, rfl, ?_, ⟨_, rfl⟩, hW, hsame.mono (by decide) (by decide)⟩
  -- 4. STEPS
  · show Steps p.tables e below (s₁.setTop (mkF m 0 #[.val (.int p1), .val (.long q2), .second, .val (.int p3), .val (.int p4), .val (.long q5), .second, .val (.int p6)] [])) _
    refine XS.lload X0.here hx rfl (hb hby d1_0) rfl ?_
    show Steps p.tables e below (s₁.setTop (mkF m 2 #[.val (.int p1), .val (.long q2), .second, .val (.int p3), .val (.int p4), .val (.long q5), .second, .val (.int p6)] [(.long q5)])) _
    refine XS.lloadN X0.here hx rfl (hb hby d1_2) rfl ?_
    show Steps p.tables e below (s₁.setTop (mkF m 3 #[.val (.int p1), .val (.long q2), .second, .val (.int p3), .val (.int p4), .val (.long q5), .second, .val (.int p6)] [(.long q2), (.long q5)])) _
    refine XS.lcmp X0.here hx rfl (hb hby d1_3) rfl ?_
    show Steps p.tables e below (s₁.setTop (mkF m 4 #[.val (.int p1), .val (.long q2), .second, .val (.int p3), .val (.int p4), .val (.long q5), .second, .val (.int p6)] [(.int (lcmpW q5 q2))])) _
    refine XS.ifNo X0.here hx rfl (hb hby d1_4) rfl ((if0 _ _).trans (teq hc4).2) ?_
    show Steps p.tables e below (s₁.setTop (mkF m 7 #[.val (.int p1), .val (.long q2), .second, .val (.int p3), .val (.int p4), .val (.long q5), .second, .val (.int p6)] [])) _
    refine XS.iload X0.here hx rfl (hb hby d1_7) rfl ?_
    show Steps p.tables e below (s₁.setTop (mkF m 9 #[.val (.int p1), .val (.long q2), .second, .val (.int p3), .val (.int p4), .val (.long q5), .second, .val (.int p6)] [(.int p4)])) _
    refine XS.bipush X0.here hx rfl (hb hby d1_9) ?_
    show Steps p.tables e below (s₁.setTop (mkF m 11 #[.val (.int p1), .val (.long q2), .second, .val (.int p3), .val (.int p4), .val (.long q5), .second, .val (.int p6)] [(.int (-2 : Int32)), (.int p4)])) _
    refine XS.icmpNo X0.here hx rfl (hb hby d1_11) rfl (feq hc11).1 ?_
    show Steps p.tables e below (s₁.setTop (mkF m 14 #[.val (.int p1), .val (.long q2), .second, .val (.int p3), .val (.int p4), .val (.long q5), .second, .val (.int p6)] [])) _
    refine XS.iload X0.here hx rfl (hb hby d1_14) rfl ?_
    show Steps p.tables e below (s₁.setTop (mkF m 16 #[.val (.int p1), .val (.long q2), .second, .val (.int p3), .val (.int p4), .val (.long q5), .second, .val (.int p6)] [(.int p4)])) _
    refine XS.iloadN X0.here hx rfl (hb hby d1_16) rfl ?_
    show Steps p.tables e below (s₁.setTop (mkF m 17 #[.val (.int p1), .val (.long q2), .second, .val (.int p3), .val (.int p4), .val (.long q5), .second, .val (.int p6)] [(.int p1), (.int p4)])) _
    refine XS.icmpYes X0.here hx rfl (pc0 := 17) (pc' := 22) rfl (hb hby d1_17) rfl (teq hc17).1 (by decide) (by decide) ?_
    show Steps p.tables e below (s₁.setTop (mkF m 22 #[.val (.int p1), .val (.long q2), .second, .val (.int p3), .val (.int p4), .val (.long q5), .second, .val (.int p6)] [])) _
    refine XS.iload X0.here hx rfl (hb hby d1_22) rfl ?_
    show Steps p.tables e below (s₁.setTop (mkF m 24 #[.val (.int p1), .val (.long q2), .second, .val (.int p3), .val (.int p4), .val (.long q5), .second, .val (.int p6)] [(.int p6)])) _
    refine XS.iconst X0.here hx rfl (hb hby d1_24) ?_
    show Steps p.tables e below (s₁.setTop (mkF m 25 #[.val (.int p1), .val (.long q2), .second, .val (.int p3), .val (.int p4), .val (.long q5), .second, .val (.int p6)] [(.int (-1 : Int32)), (.int p6)])) _
    refine XS.icmpYes X0.here hx rfl (pc0 := 25) (pc' := 38) rfl (hb hby d1_25) rfl (feq hc25).2 (by decide) (by decide) ?_
    show Steps p.tables e below (s₁.setTop (mkF m 38 #[.val (.int p1), .val (.long q2), .second, .val (.int p3), .val (.int p4), .val (.long q5), .second, .val (.int p6)] [])) _
    refine XS.iload X0.here hx rfl (hb hby d1_38) rfl ?_
    show Steps p.tables e below (s₁.setTop (mkF m 40 #[.val (.int p1), .val (.long q2), .second, .val (.int p3), .val (.int p4), .val (.long q5), .second, .val (.int p6)] [(.int p6)])) _
    refine X0.ldcInt hx hown (mvT hZ (hw _ (List.mem_of_getElem? (i := 5) rfl))) (g := (mkF m 40 #[.val (.int p1), .val (.long q2), .second, .val (.int p3), .val (.int p4), .val (.long q5), .second, .val (.int p6)] [(.int p6)])) rfl (hb hby d1_40) _ ?_
    show Steps p.tables e below (s₁.setTop (mkF m 42 #[.val (.int p1), .val (.long q2), .second, .val (.int p3), .val (.int p4), .val (.long q5), .second, .val (.int p6)] [(.int (-2147483648 : Int32)), (.int p6)])) _
    refine XS.icmpNo X0.here hx rfl (hb hby d1_42) rfl (teq hc42).2 ?_
    show Steps p.tables e below (s₁.setTop (mkF m 45 #[.val (.int p1), .val (.long q2), .second, .val (.int p3), .val (.int p4), .val (.long q5), .second, .val (.int p6)] [])) _
    refine XS.iloadN X0.here hx rfl (hb hby d1_45) rfl ?_
    show Steps p.tables e below (s₁.setTop (mkF m 46 #[.val (.int p1), .val (.long q2), .second, .val (.int p3), .val (.int p4), .val (.long q5), .second, .val (.int p6)] [(.int p3)])) _
    refine XS.iconst X0.here hx rfl (hb hby d1_46) ?_
    show Steps p.tables e below (s₁.setTop (mkF m 47 #[.val (.int p1), .val (.long q2), .second, .val (.int p3), .val (.int p4), .val (.long q5), .second, .val (.int p6)] [(.int (-1 : Int32)), (.int p3)])) _
    refine XS.icmpYes X0.here hx rfl (pc0 := 47) (pc' := 54) rfl (hb hby d1_47) rfl (flt hc47).2.1 (by decide) (by decide) ?_
    show Steps p.tables e below (s₁.setTop (mkF m 54 #[.val (.int p1), .val (.long q2), .second, .val (.int p3), .val (.int p4), .val (.long q5), .second, .val (.int p6)] [])) _
    refine XS.iconst X0.here hx rfl (hb hby d1_54) ?_
    show Steps p.tables e below (s₁.setTop (mkF m 55 #[.val (.int p1), .val (.long q2), .second, .val (.int p3), .val (.int p4), .val (.long q5), .second, .val (.int p6)] [(.int (0 : Int32))])) _
    refine XS.goto X0.here hx rfl (pc0 := 55) (pc' := 69) rfl (hb hby d1_55) (by decide) (by decide) ?_
    show Steps p.tables e below (s₁.setTop (mkF m 69 #[.val (.int p1), .val (.long q2), .second, .val (.int p3), .val (.int p4), .val (.long q5), .second, .val (.int p6)] [(.int (0 : Int32))])) _
    exact retN X0 hx (t := .boolean) Bd.returns (by simp) (hb hby d1_69) hr
  · show Qv (some (.int (0 : Int32))) h0 n0 _ s₁.heap _
    rw [e0]
    exact ⟨rfl, N0, rfl⟩
set_option maxRecDepth 65536 in
set_option maxHeartbeats 40000000 in
theorem rm1_fftttf (l : Launch) (Z : State) (a0 : Array Value) (hw : ∀ d ∈ tables_1, d.before a0 Z = true) (ws : List Jvm.Cond) (p1 : Int32) (q2 : Int64) (p3 : Int32) (p4 : Int32) (q5 : Int64) (p6 : Int32) (h0 : Heap) (n0 : Nat) (Z0 : n0 ≤ h0.size) (hc4 : (lcmpW q5 q2) = (0 : Int32)) (hc11 : ¬ (p4 = (-2 : Int32))) (hc17 : p4 = p1) (hc25 : ¬ (p6 = (-1 : Int32))) (hc42 : ¬ (p6 = (-2147483648 : Int32))) (hc61 : p6 = p3) :
    MetFree l (⟨"com/example/cablegram/cablegram/engine/Envelope", "matches", "(IJIIJI)Z"⟩ : MethodName) (head1 (Jvm.Cond.code (⟨"com/example/cablegram/cablegram/engine/Envelope", "matches", "(IJIIJI)Z"⟩ : MethodName) prog_30_method_7_code 8 (some .boolean) :: ws) ({ frames := 0, cells := 0, slots := 0, locals := 0 } : Room)) (fun a U => a = #[(.int p1), (.long q2), (.int p3), (.int p4), (.long q5), (.int p6)] ∧ Z.Warmed39 U.vm ∧ U.heap = h0) (fun _ _ _ _ _ => True) (fun _ U o U' => ∃ v L, o = .returned v ∧ Qv (some (.int (1 : Int32))) h0 n0 v U'.heap L ∧ FrameEnd U o U' L ({ frames := 0, cells := 0, slots := 0, locals := 0 } : Room).cells ({ frames := 0, cells := 0, slots := 0, locals := 0 } : Room).slots) := by
  refine MetFree.of_bodySF (plainFor_of_name pn_1) hisR ?_
  intro p e s m args below meth c s₁ Bd hml0 hP hK
  obtain ⟨rfl, hZ, hh⟩ := hP
  have hx := Bd.exec
  have hby := Bd.bytes
  have hml : c.maxLocals = 8 := hml0
  have hown : s.vm.findClass "com/example/cablegram/cablegram/engine/Envelope" = some m.cls := findClass_of_methodNamed Bd.named
  have hnm := (name_of_methodNamed Bd.named Bd.method).1
  have X0 : Stand p l e ({ frames := 0, cells := 0, slots := 0, locals := 0 } : Room) s m #[(.int p1), (.long q2), (.int p3), (.int p4), (.long q5), (.int p6)] below meth c s₁ [] 0 0 := Stand.of_body Bd
  have e0 : s₁.heap = h0 := by rw [← hh, Bd.state]; rfl
  have N0 := Fr.nil n0
  have pre0 : ∀ t, Steps p.tables e below (s₁.setTop (mkF m 0 #[.val (.int p1), .val (.long q2), .second, .val (.int p3), .val (.int p4), .val (.long q5), .second, .val (.int p6)] [])) t → Steps p.tables e below (s₁.setTop (entryFrame m #[(.int p1), (.long q2), (.int p3), (.int p4), (.long q5), (.int p6)] 8)) t := fun t k => castTop (ef_1 m p1 q2 p3 p4 q5 p6) k
  -- 3. LAWS

  obtain ⟨fs, hr, hrun, hended, hW, hsame⟩ := X0.leave (v := some (.int (1 : Int32))) (fun h => by rw [Bd.returns] at h; cases h)
  refine ⟨_, _, pre0 _ ?_, hrun, hended, _, _, rfl, ?_, ⟨_, rfl⟩, hW, hsame.mono (by decide) (by decide)⟩
  -- 4. STEPS
  · show Steps p.tables e below (s₁.setTop (mkF m 0 #[.val (.int p1), .val (.long q2), .second, .val (.int p3), .val (.int p4), .val (.long q5), .second, .val (.int p6)] [])) _
    refine XS.lload X0.here hx rfl (hb hby d1_0) rfl ?_
    show Steps p.tables e below (s₁.setTop (mkF m 2 #[.val (.int p1), .val (.long q2), .second, .val (.int p3), .val (.int p4), .val (.long q5), .second, .val (.int p6)] [(.long q5)])) _
    refine XS.lloadN X0.here hx rfl (hb hby d1_2) rfl ?_
    show Steps p.tables e below (s₁.setTop (mkF m 3 #[.val (.int p1), .val (.long q2), .second, .val (.int p3), .val (.int p4), .val (.long q5), .second, .val (.int p6)] [(.long q2), (.long q5)])) _
    refine XS.lcmp X0.here hx rfl (hb hby d1_3) rfl ?_
    show Steps p.tables e below (s₁.setTop (mkF m 4 #[.val (.int p1), .val (.long q2), .second, .val (.int p3), .val (.int p4), .val (.long q5), .second, .val (.int p6)] [(.int (lcmpW q5 q2))])) _
    refine XS.ifNo X0.here hx rfl (hb hby d1_4) rfl ((if0 _ _).trans (teq hc4).2) ?_
    show Steps p.tables e below (s₁.setTop (mkF m 7 #[.val (.int p1), .val (.long q2), .second, .val (.int p3), .val (.int p4), .val (.long q5), .second, .val (.int p6)] [])) _
    refine XS.iload X0.here hx rfl (hb hby d1_7) rfl ?_
    show Steps p.tables e below (s₁.setTop (mkF m 9 #[.val (.int p1), .val (.long q2), .second, .val (.int p3), .val (.int p4), .val (.long q5), .second, .val (.int p6)] [(.int p4)])) _
    refine XS.bipush X0.here hx rfl (hb hby d1_9) ?_
    show Steps p.tables e below (s₁.setTop (mkF m 11 #[.val (.int p1), .val (.long q2), .second, .val (.int p3), .val (.int p4), .val (.long q5), .second, .val (.int p6)] [(.int (-2 : Int32)), (.int p4)])) _
    refine XS.icmpNo X0.here hx rfl (hb hby d1_11) rfl (feq hc11).1 ?_
    show Steps p.tables e below (s₁.setTop (mkF m 14 #[.val (.int p1), .val (.long q2), .second, .val (.int p3), .val (.int p4), .val (.long q5), .second, .val (.int p6)] [])) _
    refine XS.iload X0.here hx rfl (hb hby d1_14) rfl ?_
    show Steps p.tables e below (s₁.setTop (mkF m 16 #[.val (.int p1), .val (.long q2), .second, .val (.int p3), .val (.int p4), .val (.long q5), .second, .val (.int p6)] [(.int p4)])) _
    refine XS.iloadN X0.here hx rfl (hb hby d1_16) rfl ?_
    show Steps p.tables e below (s₁.setTop (mkF m 17 #[.val (.int p1), .val (.long q2), .second, .val (.int p3), .val (.int p4), .val (.long q5), .second, .val (.int p6)] [(.int p1), (.int p4)])) _
    refine XS.icmpYes X0.here hx rfl (pc0 := 17) (pc' := 22) rfl (hb hby d1_17) rfl (teq hc17).1 (by decide) (by decide) ?_
    show Steps p.tables e below (s₁.setTop (mkF m 22 #[.val (.int p1), .val (.long q2), .second, .val (.int p3), .val (.int p4), .val (.long q5), .second, .val (.int p6)] [])) _
    refine XS.iload X0.here hx rfl (hb hby d1_22) rfl ?_
    show Steps p.tables e below (s₁.setTop (mkF m 24 #[.val (.int p1), .val (.long q2), .second, .val (.int p3), .val (.int p4), .val (.long q5), .second, .val (.int p6)] [(.int p6)])) _
    refine XS.iconst X0.here hx rfl (hb hby d1_24) ?_
    show Steps p.tables e below (s₁.setTop (mkF m 25 #[.val (.int p1), .val (.long q2), .second, .val (.int p3), .val (.int p4), .val (.long q5), .second, .val (.int p6)] [(.int (-1 : Int32)), (.int p6)])) _
    refine XS.icmpYes X0.here hx rfl (pc0 := 25) (pc' := 38) rfl (hb hby d1_25) rfl (feq hc25).2 (by decide) (by decide) ?_
    show Steps p.tables e below (s₁.setTop (mkF m 38 #[.val (.int p1), .val (.long q2), .second, .val (.int p3), .val (.int p4), .val (.long q5), .second, .val (.int p6)] [])) _
    refine XS.iload X0.here hx rfl (hb hby d1_38) rfl ?_
    show Steps p.tables e below (s₁.setTop (mkF m 40 #[.val (.int p1), .val (.long q2), .second, .val (.int p3), .val (.int p4), .val (.long q5), .second, .val (.int p6)] [(.int p6)])) _
    refine X0.ldcInt hx hown (mvT hZ (hw _ (List.mem_of_getElem? (i := 5) rfl))) (g := (mkF m 40 #[.val (.int p1), .val (.long q2), .second, .val (.int p3), .val (.int p4), .val (.long q5), .second, .val (.int p6)] [(.int p6)])) rfl (hb hby d1_40) _ ?_
    show Steps p.tables e below (s₁.setTop (mkF m 42 #[.val (.int p1), .val (.long q2), .second, .val (.int p3), .val (.int p4), .val (.long q5), .second, .val (.int p6)] [(.int (-2147483648 : Int32)), (.int p6)])) _
    refine XS.icmpYes X0.here hx rfl (pc0 := 42) (pc' := 58) rfl (hb hby d1_42) rfl (feq hc42).2 (by decide) (by decide) ?_
    show Steps p.tables e below (s₁.setTop (mkF m 58 #[.val (.int p1), .val (.long q2), .second, .val (.int p3), .val (.int p4), .val (.long q5), .second, .val (.int p6)] [])) _
    refine XS.iload X0.here hx rfl (hb hby d1_58) rfl ?_
    show Steps p.tables e below (s₁.setTop (mkF m 60 #[.val (.int p1), .val (.long q2), .second, .val (.int p3), .val (.int p4), .val (.long q5), .second, .val (.int p6)] [(.int p6)])) _
    refine XS.iloadN X0.here hx rfl (hb hby d1_60) rfl ?_
    show Steps p.tables e below (s₁.setTop (mkF m 61 #[.val (.int p1), .val (.long q2), .second, .val (.int p3), .val (.int p4), .val (.long q5), .second, .val (.int p6)] [(.int p3), (.int p6)])) _
    refine XS.icmpNo X0.here hx rfl (hb hby d1_61) rfl (teq hc61).2 ?_
    show Steps p.tables e below (s₁.setTop (mkF m 64 #[.val (.int p1), .val (.long q2), .second, .val (.int p3), .val (.int p4), .val (.long q5), .second, .val (.int p6)] [])) _
    refine XS.iconst X0.here hx rfl (hb hby d1_64) ?_
    show Steps p.tables e below (s₁.setTop (mkF m 65 #[.val (.int p1), .val (.long q2), .second, .val (.int p3), .val (.int p4), .val (.long q5), .second, .val (.int p6)] [(.int (1 : Int32))])) _
    refine XS.goto X0.here hx rfl (pc0 := 65) (pc' := 69) rfl (hb hby d1_65) (by decide) (by decide) ?_
    show Steps p.tables e below (s₁.setTop (mkF m 69 #[.val (.int p1), .val (.long q2), .second, .val (.int p3), .val (.int p4), .val (.long q5), .second, .val (.int p6)] [(.int (1 : Int32))])) _
    exact retN X0 hx (t := .boolean) Bd.returns (by simp) (hb hby d1_69) hr
  · show Qv (some (.int (1 : Int32))) h0 n0 _ s₁.heap _
    rw [e0]
    exact ⟨rfl, N0, rfl⟩
set_option maxRecDepth 65536 in
set_option maxHeartbeats 40000000 in
theorem rm1_fftttt (l : Launch) (Z : State) (a0 : Array Value) (hw : ∀ d ∈ tables_1, d.before a0 Z = true) (ws : List Jvm.Cond) (p1 : Int32) (q2 : Int64) (p3 : Int32) (p4 : Int32) (q5 : Int64) (p6 : Int32) (h0 : Heap) (n0 : Nat) (Z0 : n0 ≤ h0.size) (hc4 : (lcmpW q5 q2) = (0 : Int32)) (hc11 : ¬ (p4 = (-2 : Int32))) (hc17 : p4 = p1) (hc25 : ¬ (p6 = (-1 : Int32))) (hc42 : ¬ (p6 = (-2147483648 : Int32))) (hc61 : ¬ (p6 = p3)) :
    MetFree l (⟨"com/example/cablegram/cablegram/engine/Envelope", "matches", "(IJIIJI)Z"⟩ : MethodName) (head1 (Jvm.Cond.code (⟨"com/example/cablegram/cablegram/engine/Envelope", "matches", "(IJIIJI)Z"⟩ : MethodName) prog_30_method_7_code 8 (some .boolean) :: ws) ({ frames := 0, cells := 0, slots := 0, locals := 0 } : Room)) (fun a U => a = #[(.int p1), (.long q2), (.int p3), (.int p4), (.long q5), (.int p6)] ∧ Z.Warmed39 U.vm ∧ U.heap = h0) (fun _ _ _ _ _ => True) (fun _ U o U' => ∃ v L, o = .returned v ∧ Qv (some (.int (0 : Int32))) h0 n0 v U'.heap L ∧ FrameEnd U o U' L ({ frames := 0, cells := 0, slots := 0, locals := 0 } : Room).cells ({ frames := 0, cells := 0, slots := 0, locals := 0 } : Room).slots) := by
  refine MetFree.of_bodySF (plainFor_of_name pn_1) hisR ?_
  intro p e s m args below meth c s₁ Bd hml0 hP hK
  obtain ⟨rfl, hZ, hh⟩ := hP
  have hx := Bd.exec
  have hby := Bd.bytes
  have hml : c.maxLocals = 8 := hml0
  have hown : s.vm.findClass "com/example/cablegram/cablegram/engine/Envelope" = some m.cls := findClass_of_methodNamed Bd.named
  have hnm := (name_of_methodNamed Bd.named Bd.method).1
  have X0 : Stand p l e ({ frames := 0, cells := 0, slots := 0, locals := 0 } : Room) s m #[(.int p1), (.long q2), (.int p3), (.int p4), (.long q5), (.int p6)] below meth c s₁ [] 0 0 := Stand.of_body Bd
  have e0 : s₁.heap = h0 := by rw [← hh, Bd.state]; rfl
  have N0 := Fr.nil n0
  have pre0 : ∀ t, Steps p.tables e below (s₁.setTop (mkF m 0 #[.val (.int p1), .val (.long q2), .second, .val (.int p3), .val (.int p4), .val (.long q5), .second, .val (.int p6)] [])) t → Steps p.tables e below (s₁.setTop (entryFrame m #[(.int p1), (.long q2), (.int p3), (.int p4), (.long q5), (.int p6)] 8)) t := fun t k => castTop (ef_1 m p1 q2 p3 p4 q5 p6) k
  -- 3. LAWS

  obtain ⟨fs, hr, hrun, hended, hW, hsame⟩ := X0.leave (v := some (.int (0 : Int32))) (fun h => by rw [Bd.returns] at h; cases h)
  refine ⟨_, _, pre0 _ ?_, hrun, hended, _, _, rfl, ?_, ⟨_, rfl⟩, hW, hsame.mono (by decide) (by decide)⟩
  -- 4. STEPS
  · show Steps p.tables e below (s₁.setTop (mkF m 0 #[.val (.int p1), .val (.long q2), .second, .val (.int p3), .val (.int p4), .val (.long q5), .second, .val (.int p6)] [])) _
    refine XS.lload X0.here hx rfl (hb hby d1_0) rfl ?_
    show Steps p.tables e below (s₁.setTop (mkF m 2 #[.val (.int p1), .val (.long q2), .second, .val (.int p3), .val (.int p4), .val (.long q5), .second, .val (.int p6)] [(.long q5)])) _
    refine XS.lloadN X0.here hx rfl (hb hby d1_2) rfl ?_
    show Steps p.tables e below (s₁.setTop (mkF m 3 #[.val (.int p1), .val (.long q2), .second, .val (.int p3), .val (.int p4), .val (.long q5), .second, .val (.int p6)] [(.long q2), (.long q5)])) _
    refine XS.lcmp X0.here hx rfl (hb hby d1_3) rfl ?_
    show Steps p.tables e below (s₁.setTop (mkF m 4 #[.val (.int p1), .val (.long q2), .second, .val (.int p3), .val (.int p4), .val (.long q5), .second, .val (.int p6)] [(.int (lcmpW q5 q2))])) _
    refine XS.ifNo X0.here hx rfl (hb hby d1_4) rfl ((if0 _ _).trans (teq hc4).2) ?_
    show Steps p.tables e below (s₁.setTop (mkF m 7 #[.val (.int p1), .val (.long q2), .second, .val (.int p3), .val (.int p4), .val (.long q5), .second, .val (.int p6)] [])) _
    refine XS.iload X0.here hx rfl (hb hby d1_7) rfl ?_
    show Steps p.tables e below (s₁.setTop (mkF m 9 #[.val (.int p1), .val (.long q2), .second, .val (.int p3), .val (.int p4), .val (.long q5), .second, .val (.int p6)] [(.int p4)])) _
    refine XS.bipush X0.here hx rfl (hb hby d1_9) ?_
    show Steps p.tables e below (s₁.setTop (mkF m 11 #[.val (.int p1), .val (.long q2), .second, .val (.int p3), .val (.int p4), .val (.long q5), .second, .val (.int p6)] [(.int (-2 : Int32)), (.int p4)])) _
    refine XS.icmpNo X0.here hx rfl (hb hby d1_11) rfl (feq hc11).1 ?_
    show Steps p.tables e below (s₁.setTop (mkF m 14 #[.val (.int p1), .val (.long q2), .second, .val (.int p3), .val (.int p4), .val (.long q5), .second, .val (.int p6)] [])) _
    refine XS.iload X0.here hx rfl (hb hby d1_14) rfl ?_
    show Steps p.tables e below (s₁.setTop (mkF m 16 #[.val (.int p1), .val (.long q2), .second, .val (.int p3), .val (.int p4), .val (.long q5), .second, .val (.int p6)] [(.int p4)])) _
    refine XS.iloadN X0.here hx rfl (hb hby d1_16) rfl ?_
    show Steps p.tables e below (s₁.setTop (mkF m 17 #[.val (.int p1), .val (.long q2), .second, .val (.int p3), .val (.int p4), .val (.long q5), .second, .val (.int p6)] [(.int p1), (.int p4)])) _
    refine XS.icmpYes X0.here hx rfl (pc0 := 17) (pc' := 22) rfl (hb hby d1_17) rfl (teq hc17).1 (by decide) (by decide) ?_
    show Steps p.tables e below (s₁.setTop (mkF m 22 #[.val (.int p1), .val (.long q2), .second, .val (.int p3), .val (.int p4), .val (.long q5), .second, .val (.int p6)] [])) _
    refine XS.iload X0.here hx rfl (hb hby d1_22) rfl ?_
    show Steps p.tables e below (s₁.setTop (mkF m 24 #[.val (.int p1), .val (.long q2), .second, .val (.int p3), .val (.int p4), .val (.long q5), .second, .val (.int p6)] [(.int p6)])) _
    refine XS.iconst X0.here hx rfl (hb hby d1_24) ?_
    show Steps p.tables e below (s₁.setTop (mkF m 25 #[.val (.int p1), .val (.long q2), .second, .val (.int p3), .val (.int p4), .val (.long q5), .second, .val (.int p6)] [(.int (-1 : Int32)), (.int p6)])) _
    refine XS.icmpYes X0.here hx rfl (pc0 := 25) (pc' := 38) rfl (hb hby d1_25) rfl (feq hc25).2 (by decide) (by decide) ?_
    show Steps p.tables e below (s₁.setTop (mkF m 38 #[.val (.int p1), .val (.long q2), .second, .val (.int p3), .val (.int p4), .val (.long q5), .second, .val (.int p6)] [])) _
    refine XS.iload X0.here hx rfl (hb hby d1_38) rfl ?_
    show Steps p.tables e below (s₁.setTop (mkF m 40 #[.val (.int p1), .val (.long q2), .second, .val (.int p3), .val (.int p4), .val (.long q5), .second, .val (.int p6)] [(.int p6)])) _
    refine X0.ldcInt hx hown (mvT hZ (hw _ (List.mem_of_getElem? (i := 5) rfl))) (g := (mkF m 40 #[.val (.int p1), .val (.long q2), .second, .val (.int p3), .val (.int p4), .val (.long q5), .second, .val (.int p6)] [(.int p6)])) rfl (hb hby d1_40) _ ?_
    show Steps p.tables e below (s₁.setTop (mkF m 42 #[.val (.int p1), .val (.long q2), .second, .val (.int p3), .val (.int p4), .val (.long q5), .second, .val (.int p6)] [(.int (-2147483648 : Int32)), (.int p6)])) _
    refine XS.icmpYes X0.here hx rfl (pc0 := 42) (pc' := 58) rfl (hb hby d1_42) rfl (feq hc42).2 (by decide) (by decide) ?_
    show Steps p.tables e below (s₁.setTop (mkF m 58 #[.val (.int p1), .val (.long q2), .second, .val (.int p3), .val (.int p4), .val (.long q5), .second, .val (.int p6)] [])) _
    refine XS.iload X0.here hx rfl (hb hby d1_58) rfl ?_
    show Steps p.tables e below (s₁.setTop (mkF m 60 #[.val (.int p1), .val (.long q2), .second, .val (.int p3), .val (.int p4), .val (.long q5), .second, .val (.int p6)] [(.int p6)])) _
    refine XS.iloadN X0.here hx rfl (hb hby d1_60) rfl ?_
    show Steps p.tables e below (s₁.setTop (mkF m 61 #[.val (.int p1), .val (.long q2), .second, .val (.int p3), .val (.int p4), .val (.long q5), .second, .val (.int p6)] [(.int p3), (.int p6)])) _
    refine XS.icmpYes X0.here hx rfl (pc0 := 61) (pc' := 68) rfl (hb hby d1_61) rfl (feq hc61).2 (by decide) (by decide) ?_
    show Steps p.tables e below (s₁.setTop (mkF m 68 #[.val (.int p1), .val (.long q2), .second, .val (.int p3), .val (.int p4), .val (.long q5), .second, .val (.int p6)] [])) _
    refine XS.iconst X0.here hx rfl (hb hby d1_68) ?_
    show Steps p.tables e below (s₁.setTop (mkF m 69 #[.val (.int p1), .val (.long q2), .second, .val (.int p3), .val (.int p4), .val (.long q5), .second, .val (.int p6)] [(.int (0 : Int32))])) _
    exact retN X0 hx (t := .boolean) Bd.returns (by simp) (hb hby d1_69) hr
  · show Qv (some (.int (0 : Int32))) h0 n0 _ s₁.heap _
    rw [e0]
    exact ⟨rfl, N0, rfl⟩
theorem rm1 (l : Launch) (Z : State) (a0 : Array Value) (hw : ∀ d ∈ tables_1, d.before a0 Z = true) (ws : List Jvm.Cond) (p1 : Int32) (q2 : Int64) (p3 p4 : Int32) (q5 : Int64) (p6 : Int32) (h0 : Heap) (n0 : Nat) (Z0 : n0 ≤ h0.size) :
    MetFree l (⟨"com/example/cablegram/cablegram/engine/Envelope", "matches", "(IJIIJI)Z"⟩ : MethodName) (head1 (Jvm.Cond.code (⟨"com/example/cablegram/cablegram/engine/Envelope", "matches", "(IJIIJI)Z"⟩ : MethodName) prog_30_method_7_code 8 (some .boolean) :: ws) ({ frames := 0, cells := 0, slots := 0, locals := 0 } : Room)) (fun a U => a = #[(.int p1), (.long q2), (.int p3), (.int p4), (.long q5), (.int p6)] ∧ Z.Warmed39 U.vm ∧ U.heap = h0) (fun _ _ _ _ _ => True) (fun _ U o U' => ∃ v L, o = .returned v ∧ Qv (some (.int (own_match p1 q2 p3 p4 q5 p6))) h0 n0 v U'.heap L ∧ FrameEnd U o U' L ({ frames := 0, cells := 0, slots := 0, locals := 0 } : Room).cells ({ frames := 0, cells := 0, slots := 0, locals := 0 } : Room).slots) := by
  by_cases h1 : q5 = q2
  · have k1 := own_lc0.mpr h1
    by_cases f1 : p4 = (-2 : Int32)
    · by_cases w1 : p6 = (-1 : Int32)
      · by_cases t1 : p3 < (0 : Int32)
        · rw [show own_match p1 q2 p3 p4 q5 p6 = 0 from by unfold own_match own_tagok; rw [if_pos h1, if_pos f1, if_pos w1, if_pos t1]]
          exact rm1_ftft l Z a0 hw ws p1 q2 p3 p4 q5 p6 h0 n0 Z0 k1 f1 w1 t1
        · rw [show own_match p1 q2 p3 p4 q5 p6 = 1 from by unfold own_match own_tagok; rw [if_pos h1, if_pos f1, if_pos w1, if_neg t1]]
          exact rm1_ftff l Z a0 hw ws p1 q2 p3 p4 q5 p6 h0 n0 Z0 k1 f1 w1 t1
      by_cases w2 : p6 = (-2147483648 : Int32)
      · by_cases t2 : p3 < (-1 : Int32)
        · rw [show own_match p1 q2 p3 p4 q5 p6 = 1 from by unfold own_match own_tagok; rw [if_pos h1, if_pos f1, if_neg w1, if_pos w2, if_pos t2]]
          exact rm1_fttff l Z a0 hw ws p1 q2 p3 p4 q5 p6 h0 n0 Z0 k1 f1 w1 w2 t2
        · rw [show own_match p1 q2 p3 p4 q5 p6 = 0 from by unfold own_match own_tagok; rw [if_pos h1, if_pos f1, if_neg w1, if_pos w2, if_neg t2]]
          exact rm1_fttft l Z a0 hw ws p1 q2 p3 p4 q5 p6 h0 n0 Z0 k1 f1 w1 w2 t2
      by_cases w3 : p6 = p3
      · rw [show own_match p1 q2 p3 p4 q5 p6 = 1 from by unfold own_match own_tagok; rw [if_pos h1, if_pos f1, if_neg w1, if_neg w2, if_pos w3]]
        exact rm1_ftttf l Z a0 hw ws p1 q2 p3 p4 q5 p6 h0 n0 Z0 k1 f1 w1 w2 w3
      · rw [show own_match p1 q2 p3 p4 q5 p6 = 0 from by unfold own_match own_tagok; rw [if_pos h1, if_pos f1, if_neg w1, if_neg w2, if_neg w3]]
        exact rm1_ftttt l Z a0 hw ws p1 q2 p3 p4 q5 p6 h0 n0 Z0 k1 f1 w1 w2 w3
    by_cases f2 : p4 = p1
    · by_cases w1 : p6 = (-1 : Int32)
      · by_cases t1 : p3 < (0 : Int32)
        · rw [show own_match p1 q2 p3 p4 q5 p6 = 0 from by unfold own_match own_tagok; rw [if_pos h1, if_neg f1, if_pos f2, if_pos w1, if_pos t1]]
          exact rm1_fftft l Z a0 hw ws p1 q2 p3 p4 q5 p6 h0 n0 Z0 k1 f1 f2 w1 t1
        · rw [show own_match p1 q2 p3 p4 q5 p6 = 1 from by unfold own_match own_tagok; rw [if_pos h1, if_neg f1, if_pos f2, if_pos w1, if_neg t1]]
          exact rm1_fftff l Z a0 hw ws p1 q2 p3 p4 q5 p6 h0 n0 Z0 k1 f1 f2 w1 t1
      by_cases w2 : p6 = (-2147483648 : Int32)
      · by_cases t2 : p3 < (-1 : Int32)
        · rw [show own_match p1 q2 p3 p4 q5 p6 = 1 from by unfold own_match own_tagok; rw [if_pos h1, if_neg f1, if_pos f2, if_neg w1, if_pos w2, if_pos t2]]
          exact rm1_ffttff l Z a0 hw ws p1 q2 p3 p4 q5 p6 h0 n0 Z0 k1 f1 f2 w1 w2 t2
        · rw [show own_match p1 q2 p3 p4 q5 p6 = 0 from by unfold own_match own_tagok; rw [if_pos h1, if_neg f1, if_pos f2, if_neg w1, if_pos w2, if_neg t2]]
          exact rm1_ffttft l Z a0 hw ws p1 q2 p3 p4 q5 p6 h0 n0 Z0 k1 f1 f2 w1 w2 t2
      by_cases w3 : p6 = p3
      · rw [show own_match p1 q2 p3 p4 q5 p6 = 1 from by unfold own_match own_tagok; rw [if_pos h1, if_neg f1, if_pos f2, if_neg w1, if_neg w2, if_pos w3]]
        exact rm1_fftttf l Z a0 hw ws p1 q2 p3 p4 q5 p6 h0 n0 Z0 k1 f1 f2 w1 w2 w3
      · rw [show own_match p1 q2 p3 p4 q5 p6 = 0 from by unfold own_match own_tagok; rw [if_pos h1, if_neg f1, if_pos f2, if_neg w1, if_neg w2, if_neg w3]]
        exact rm1_fftttt l Z a0 hw ws p1 q2 p3 p4 q5 p6 h0 n0 Z0 k1 f1 f2 w1 w2 w3
    · rw [show own_match p1 q2 p3 p4 q5 p6 = 0 from by unfold own_match; rw [if_pos h1, if_neg f1, if_neg f2]]
      exact rm1_fff l Z a0 hw ws p1 q2 p3 p4 q5 p6 h0 n0 Z0 k1 f1 f2
  · rw [show own_match p1 q2 p3 p4 q5 p6 = 0 from by unfold own_match; rw [if_neg h1]]
    exact rm1_t l Z a0 hw ws p1 q2 p3 p4 q5 p6 h0 n0 Z0 (fun q => h1 (own_lc0.mp q))
theorem os0_9 {s0 : Slot} {s1 : Slot} {s2 : Slot} {s3 : Slot} {s4 : Slot} {s5 : Slot} {s6 : Slot} {s7 : Slot} {z8 : Value} {s10 : Slot} {s11 : Slot} {s12 : Slot} {s13 : Slot} {s14 : Slot} {s15 : Slot} {s16 : Slot} {s17 : Slot} {s18 : Slot} {s19 : Slot} {s20 : Slot} {s21 : Slot} {s22 : Slot} {v : Int32} (h : One s10) : storeLocals #[s0, s1, s2, s3, s4, s5, s6, s7, .val z8, .second, s10, s11, s12, s13, s14, s15, s16, s17, s18, s19, s20, s21, s22] 10 (.int v) = some #[s0, s1, s2, s3, s4, s5, s6, s7, .val z8, .second, .val (.int v), s11, s12, s13, s14, s15, s16, s17, s18, s19, s20, s21, s22] := by
  rcases h with rfl | ⟨w, rfl, hw⟩
  · rfl
  · cases w <;> first | rfl | (simp [Value.category] at hw)
theorem os0_18 {s0 : Slot} {s1 : Slot} {s2 : Slot} {s3 : Slot} {s4 : Slot} {s5 : Slot} {s6 : Slot} {s7 : Slot} {z8 : Value} {z10 : Value} {s11 : Slot} {s12 : Slot} {s13 : Slot} {s14 : Slot} {s15 : Slot} {s16 : Slot} {s17 : Slot} {s18 : Slot} {s19 : Slot} {s20 : Slot} {s21 : Slot} {s22 : Slot} {v : Int32} (h : One s11) : storeLocals #[s0, s1, s2, s3, s4, s5, s6, s7, .val z8, .second, .val z10, s11, s12, s13, s14, s15, s16, s17, s18, s19, s20, s21, s22] 11 (.int v) = some #[s0, s1, s2, s3, s4, s5, s6, s7, .val z8, .second, .val z10, .val (.int v), s12, s13, s14, s15, s16, s17, s18, s19, s20, s21, s22] := by
  rcases h with rfl | ⟨w, rfl, hw⟩
  · rfl
  · cases w <;> first | rfl | (simp [Value.category] at hw)
set_option maxRecDepth 65536 in
set_option maxHeartbeats 40000000 in
theorem tn0_0_66_f {p : Program} {l : Launch} {e : Env} {R : Room} {s : State} {m : MethodId} {args : Array Value} {below : List Frame} {meth : Method} {c : Code} {T0 : State} {locs : List Loc} {cells slots : Nat} {Z : State} {a0 : Array Value} {h0 : Heap} (s0 : Slot) (s1 : Slot) (s2 : Slot) (s3 : Slot) (s4 : Slot) (s5 : Slot) (s6 : Slot) (s7 : Slot) (j8 : Int64) (s10 : Slot) (s11 : Slot) (s12 : Slot) (s13 : Slot) (s14 : Slot) (s15 : Slot) (s16 : Slot) (s17 : Slot) (s18 : Slot) (s19 : Slot) (s20 : Slot) (s21 : Slot) (s22 : Slot)
    (X0 : Stand p l e R s m args below meth c T0 locs cells slots) (hx : p.tables.exec = Jvm.exec) (hZ : Z.Warmed39 s.vm) (hw : ∀ d ∈ tables_1, d.before a0 Z = true) (hby : c.code = code) (hml : c.maxLocals = 23) (hown : s.vm.findClass "com/example/cablegram/cablegram/engine/EnvelopeMatchesPinLaw" = some m.cls) (e0 : T0.heap = h0) (hs10 : One s10) (hs11 : One s11) (hc14 : ((((j8.toUInt64 >>> ((34 : Int32) &&& 0x3f).toInt64.toUInt64).toInt64).toInt32) &&& (7 : Int32)) = (4 : Int32)) :
    ∃ (T' : State), Stand p l e R s m args below meth c T' locs cells slots ∧ T'.heap = h0 ∧
      ∀ target, Steps p.tables e below (T'.setTop (mkF m 66 #[s0, s1, s2, s3, s4, s5, s6, s7, .val (.long j8), .second, .val (.int ((((j8.toUInt64 >>> ((34 : Int32) &&& 0x3f).toInt64.toUInt64).toInt64).toInt32) &&& (7 : Int32))), .val (.int (-1 : Int32)), s12, s13, s14, s15, s16, s17, s18, s19, s20, s21, s22] [])) target → Steps p.tables e below (T0.setTop (mkF m 0 #[s0, s1, s2, s3, s4, s5, s6, s7, .val (.long j8), .second, s10, s11, s12, s13, s14, s15, s16, s17, s18, s19, s20, s21, s22] [])) target := by
  -- 3. LAWS

  refine ⟨T0, X0, e0, fun target kt => ?_⟩
  -- 4. STEPS
  show Steps p.tables e below (T0.setTop (mkF m 0 #[s0, s1, s2, s3, s4, s5, s6, s7, .val (.long j8), .second, s10, s11, s12, s13, s14, s15, s16, s17, s18, s19, s20, s21, s22] [])) _
  refine XS.lload X0.here hx rfl (hb hby at_0) rfl ?_
  show Steps p.tables e below (T0.setTop (mkF m 2 #[s0, s1, s2, s3, s4, s5, s6, s7, .val (.long j8), .second, s10, s11, s12, s13, s14, s15, s16, s17, s18, s19, s20, s21, s22] [(.long j8)])) _
  refine XS.bipush X0.here hx rfl (hb hby at_2) ?_
  show Steps p.tables e below (T0.setTop (mkF m 4 #[s0, s1, s2, s3, s4, s5, s6, s7, .val (.long j8), .second, s10, s11, s12, s13, s14, s15, s16, s17, s18, s19, s20, s21, s22] [(.int (34 : Int32)), (.long j8)])) _
  refine XS.lushr X0.here hx rfl (hb hby at_4) rfl ?_
  show Steps p.tables e below (T0.setTop (mkF m 5 #[s0, s1, s2, s3, s4, s5, s6, s7, .val (.long j8), .second, s10, s11, s12, s13, s14, s15, s16, s17, s18, s19, s20, s21, s22] [(.long ((j8.toUInt64 >>> ((34 : Int32) &&& 0x3f).toInt64.toUInt64).toInt64))])) _
  refine XS.l2i X0.here hx rfl (hb hby at_5) rfl ?_
  show Steps p.tables e below (T0.setTop (mkF m 6 #[s0, s1, s2, s3, s4, s5, s6, s7, .val (.long j8), .second, s10, s11, s12, s13, s14, s15, s16, s17, s18, s19, s20, s21, s22] [(.int (((j8.toUInt64 >>> ((34 : Int32) &&& 0x3f).toInt64.toUInt64).toInt64).toInt32))])) _
  refine XS.bipush X0.here hx rfl (hb hby at_6) ?_
  show Steps p.tables e below (T0.setTop (mkF m 8 #[s0, s1, s2, s3, s4, s5, s6, s7, .val (.long j8), .second, s10, s11, s12, s13, s14, s15, s16, s17, s18, s19, s20, s21, s22] [(.int (7 : Int32)), (.int (((j8.toUInt64 >>> ((34 : Int32) &&& 0x3f).toInt64.toUInt64).toInt64).toInt32))])) _
  refine XS.iand X0.here hx rfl (hb hby at_8) rfl ?_
  show Steps p.tables e below (T0.setTop (mkF m 9 #[s0, s1, s2, s3, s4, s5, s6, s7, .val (.long j8), .second, s10, s11, s12, s13, s14, s15, s16, s17, s18, s19, s20, s21, s22] [(.int ((((j8.toUInt64 >>> ((34 : Int32) &&& 0x3f).toInt64.toUInt64).toInt64).toInt32) &&& (7 : Int32)))])) _
  refine XS.istore X0.here hx rfl (hb hby at_9) rfl (l' := #[s0, s1, s2, s3, s4, s5, s6, s7, .val (.long j8), .second, .val (.int ((((j8.toUInt64 >>> ((34 : Int32) &&& 0x3f).toInt64.toUInt64).toInt64).toInt32) &&& (7 : Int32))), s11, s12, s13, s14, s15, s16, s17, s18, s19, s20, s21, s22]) (os0_9 hs10) ?_
  show Steps p.tables e below (T0.setTop (mkF m 11 #[s0, s1, s2, s3, s4, s5, s6, s7, .val (.long j8), .second, .val (.int ((((j8.toUInt64 >>> ((34 : Int32) &&& 0x3f).toInt64.toUInt64).toInt64).toInt32) &&& (7 : Int32))), s11, s12, s13, s14, s15, s16, s17, s18, s19, s20, s21, s22] [])) _
  refine XS.iload X0.here hx rfl (hb hby at_11) rfl ?_
  show Steps p.tables e below (T0.setTop (mkF m 13 #[s0, s1, s2, s3, s4, s5, s6, s7, .val (.long j8), .second, .val (.int ((((j8.toUInt64 >>> ((34 : Int32) &&& 0x3f).toInt64.toUInt64).toInt64).toInt32) &&& (7 : Int32))), s11, s12, s13, s14, s15, s16, s17, s18, s19, s20, s21, s22] [(.int ((((j8.toUInt64 >>> ((34 : Int32) &&& 0x3f).toInt64.toUInt64).toInt64).toInt32) &&& (7 : Int32)))])) _
  refine XS.iconst X0.here hx rfl (hb hby at_13) ?_
  show Steps p.tables e below (T0.setTop (mkF m 14 #[s0, s1, s2, s3, s4, s5, s6, s7, .val (.long j8), .second, .val (.int ((((j8.toUInt64 >>> ((34 : Int32) &&& 0x3f).toInt64.toUInt64).toInt64).toInt32) &&& (7 : Int32))), s11, s12, s13, s14, s15, s16, s17, s18, s19, s20, s21, s22] [(.int (4 : Int32)), (.int ((((j8.toUInt64 >>> ((34 : Int32) &&& 0x3f).toInt64.toUInt64).toInt64).toInt32) &&& (7 : Int32)))])) _
  refine XS.icmpNo X0.here hx rfl (hb hby at_14) rfl (teq hc14).2 ?_
  show Steps p.tables e below (T0.setTop (mkF m 17 #[s0, s1, s2, s3, s4, s5, s6, s7, .val (.long j8), .second, .val (.int ((((j8.toUInt64 >>> ((34 : Int32) &&& 0x3f).toInt64.toUInt64).toInt64).toInt32) &&& (7 : Int32))), s11, s12, s13, s14, s15, s16, s17, s18, s19, s20, s21, s22] [])) _
  refine XS.iconst X0.here hx rfl (hb hby at_17) ?_
  show Steps p.tables e below (T0.setTop (mkF m 18 #[s0, s1, s2, s3, s4, s5, s6, s7, .val (.long j8), .second, .val (.int ((((j8.toUInt64 >>> ((34 : Int32) &&& 0x3f).toInt64.toUInt64).toInt64).toInt32) &&& (7 : Int32))), s11, s12, s13, s14, s15, s16, s17, s18, s19, s20, s21, s22] [(.int (-1 : Int32))])) _
  refine XS.istore X0.here hx rfl (hb hby at_18) rfl (l' := #[s0, s1, s2, s3, s4, s5, s6, s7, .val (.long j8), .second, .val (.int ((((j8.toUInt64 >>> ((34 : Int32) &&& 0x3f).toInt64.toUInt64).toInt64).toInt32) &&& (7 : Int32))), .val (.int (-1 : Int32)), s12, s13, s14, s15, s16, s17, s18, s19, s20, s21, s22]) (os0_18 hs11) ?_
  show Steps p.tables e below (T0.setTop (mkF m 20 #[s0, s1, s2, s3, s4, s5, s6, s7, .val (.long j8), .second, .val (.int ((((j8.toUInt64 >>> ((34 : Int32) &&& 0x3f).toInt64.toUInt64).toInt64).toInt32) &&& (7 : Int32))), .val (.int (-1 : Int32)), s12, s13, s14, s15, s16, s17, s18, s19, s20, s21, s22] [])) _
  refine XS.goto X0.here hx rfl (pc0 := 20) (pc' := 66) rfl (hb hby at_20) (by decide) (by decide) ?_
  exact kt
theorem os0_30 {s0 : Slot} {s1 : Slot} {s2 : Slot} {s3 : Slot} {s4 : Slot} {s5 : Slot} {s6 : Slot} {s7 : Slot} {z8 : Value} {z10 : Value} {s11 : Slot} {s12 : Slot} {s13 : Slot} {s14 : Slot} {s15 : Slot} {s16 : Slot} {s17 : Slot} {s18 : Slot} {s19 : Slot} {s20 : Slot} {s21 : Slot} {s22 : Slot} {v : Int32} (h : One s11) : storeLocals #[s0, s1, s2, s3, s4, s5, s6, s7, .val z8, .second, .val z10, s11, s12, s13, s14, s15, s16, s17, s18, s19, s20, s21, s22] 11 (.int v) = some #[s0, s1, s2, s3, s4, s5, s6, s7, .val z8, .second, .val z10, .val (.int v), s12, s13, s14, s15, s16, s17, s18, s19, s20, s21, s22] := by
  rcases h with rfl | ⟨w, rfl, hw⟩
  · rfl
  · cases w <;> first | rfl | (simp [Value.category] at hw)
set_option maxRecDepth 65536 in
set_option maxHeartbeats 40000000 in
theorem tn0_0_66_tf {p : Program} {l : Launch} {e : Env} {R : Room} {s : State} {m : MethodId} {args : Array Value} {below : List Frame} {meth : Method} {c : Code} {T0 : State} {locs : List Loc} {cells slots : Nat} {Z : State} {a0 : Array Value} {h0 : Heap} (s0 : Slot) (s1 : Slot) (s2 : Slot) (s3 : Slot) (s4 : Slot) (s5 : Slot) (s6 : Slot) (s7 : Slot) (j8 : Int64) (s10 : Slot) (s11 : Slot) (s12 : Slot) (s13 : Slot) (s14 : Slot) (s15 : Slot) (s16 : Slot) (s17 : Slot) (s18 : Slot) (s19 : Slot) (s20 : Slot) (s21 : Slot) (s22 : Slot)
    (X0 : Stand p l e R s m args below meth c T0 locs cells slots) (hx : p.tables.exec = Jvm.exec) (hZ : Z.Warmed39 s.vm) (hw : ∀ d ∈ tables_1, d.before a0 Z = true) (hby : c.code = code) (hml : c.maxLocals = 23) (hown : s.vm.findClass "com/example/cablegram/cablegram/engine/EnvelopeMatchesPinLaw" = some m.cls) (e0 : T0.heap = h0) (hs10 : One s10) (hs11 : One s11) (hc14 : ¬ (((((j8.toUInt64 >>> ((34 : Int32) &&& 0x3f).toInt64.toUInt64).toInt64).toInt32) &&& (7 : Int32)) = (4 : Int32))) (hc26 : ((((j8.toUInt64 >>> ((34 : Int32) &&& 0x3f).toInt64.toUInt64).toInt64).toInt32) &&& (7 : Int32)) = (5 : Int32)) :
    ∃ (T' : State), Stand p l e R s m args below meth c T' locs cells slots ∧ T'.heap = h0 ∧
      ∀ target, Steps p.tables e below (T'.setTop (mkF m 66 #[s0, s1, s2, s3, s4, s5, s6, s7, .val (.long j8), .second, .val (.int ((((j8.toUInt64 >>> ((34 : Int32) &&& 0x3f).toInt64.toUInt64).toInt64).toInt32) &&& (7 : Int32))), .val (.int (0 : Int32)), s12, s13, s14, s15, s16, s17, s18, s19, s20, s21, s22] [])) target → Steps p.tables e below (T0.setTop (mkF m 0 #[s0, s1, s2, s3, s4, s5, s6, s7, .val (.long j8), .second, s10, s11, s12, s13, s14, s15, s16, s17, s18, s19, s20, s21, s22] [])) target := by
  -- 3. LAWS

  refine ⟨T0, X0, e0, fun target kt => ?_⟩
  -- 4. STEPS
  show Steps p.tables e below (T0.setTop (mkF m 0 #[s0, s1, s2, s3, s4, s5, s6, s7, .val (.long j8), .second, s10, s11, s12, s13, s14, s15, s16, s17, s18, s19, s20, s21, s22] [])) _
  refine XS.lload X0.here hx rfl (hb hby at_0) rfl ?_
  show Steps p.tables e below (T0.setTop (mkF m 2 #[s0, s1, s2, s3, s4, s5, s6, s7, .val (.long j8), .second, s10, s11, s12, s13, s14, s15, s16, s17, s18, s19, s20, s21, s22] [(.long j8)])) _
  refine XS.bipush X0.here hx rfl (hb hby at_2) ?_
  show Steps p.tables e below (T0.setTop (mkF m 4 #[s0, s1, s2, s3, s4, s5, s6, s7, .val (.long j8), .second, s10, s11, s12, s13, s14, s15, s16, s17, s18, s19, s20, s21, s22] [(.int (34 : Int32)), (.long j8)])) _
  refine XS.lushr X0.here hx rfl (hb hby at_4) rfl ?_
  show Steps p.tables e below (T0.setTop (mkF m 5 #[s0, s1, s2, s3, s4, s5, s6, s7, .val (.long j8), .second, s10, s11, s12, s13, s14, s15, s16, s17, s18, s19, s20, s21, s22] [(.long ((j8.toUInt64 >>> ((34 : Int32) &&& 0x3f).toInt64.toUInt64).toInt64))])) _
  refine XS.l2i X0.here hx rfl (hb hby at_5) rfl ?_
  show Steps p.tables e below (T0.setTop (mkF m 6 #[s0, s1, s2, s3, s4, s5, s6, s7, .val (.long j8), .second, s10, s11, s12, s13, s14, s15, s16, s17, s18, s19, s20, s21, s22] [(.int (((j8.toUInt64 >>> ((34 : Int32) &&& 0x3f).toInt64.toUInt64).toInt64).toInt32))])) _
  refine XS.bipush X0.here hx rfl (hb hby at_6) ?_
  show Steps p.tables e below (T0.setTop (mkF m 8 #[s0, s1, s2, s3, s4, s5, s6, s7, .val (.long j8), .second, s10, s11, s12, s13, s14, s15, s16, s17, s18, s19, s20, s21, s22] [(.int (7 : Int32)), (.int (((j8.toUInt64 >>> ((34 : Int32) &&& 0x3f).toInt64.toUInt64).toInt64).toInt32))])) _
  refine XS.iand X0.here hx rfl (hb hby at_8) rfl ?_
  show Steps p.tables e below (T0.setTop (mkF m 9 #[s0, s1, s2, s3, s4, s5, s6, s7, .val (.long j8), .second, s10, s11, s12, s13, s14, s15, s16, s17, s18, s19, s20, s21, s22] [(.int ((((j8.toUInt64 >>> ((34 : Int32) &&& 0x3f).toInt64.toUInt64).toInt64).toInt32) &&& (7 : Int32)))])) _
  refine XS.istore X0.here hx rfl (hb hby at_9) rfl (l' := #[s0, s1, s2, s3, s4, s5, s6, s7, .val (.long j8), .second, .val (.int ((((j8.toUInt64 >>> ((34 : Int32) &&& 0x3f).toInt64.toUInt64).toInt64).toInt32) &&& (7 : Int32))), s11, s12, s13, s14, s15, s16, s17, s18, s19, s20, s21, s22]) (os0_9 hs10) ?_
  show Steps p.tables e below (T0.setTop (mkF m 11 #[s0, s1, s2, s3, s4, s5, s6, s7, .val (.long j8), .second, .val (.int ((((j8.toUInt64 >>> ((34 : Int32) &&& 0x3f).toInt64.toUInt64).toInt64).toInt32) &&& (7 : Int32))), s11, s12, s13, s14, s15, s16, s17, s18, s19, s20, s21, s22] [])) _
  refine XS.iload X0.here hx rfl (hb hby at_11) rfl ?_
  show Steps p.tables e below (T0.setTop (mkF m 13 #[s0, s1, s2, s3, s4, s5, s6, s7, .val (.long j8), .second, .val (.int ((((j8.toUInt64 >>> ((34 : Int32) &&& 0x3f).toInt64.toUInt64).toInt64).toInt32) &&& (7 : Int32))), s11, s12, s13, s14, s15, s16, s17, s18, s19, s20, s21, s22] [(.int ((((j8.toUInt64 >>> ((34 : Int32) &&& 0x3f).toInt64.toUInt64).toInt64).toInt32) &&& (7 : Int32)))])) _
  refine XS.iconst X0.here hx rfl (hb hby at_13) ?_
  show Steps p.tables e below (T0.setTop (mkF m 14 #[s0, s1, s2, s3, s4, s5, s6, s7, .val (.long j8), .second, .val (.int ((((j8.toUInt64 >>> ((34 : Int32) &&& 0x3f).toInt64.toUInt64).toInt64).toInt32) &&& (7 : Int32))), s11, s12, s13, s14, s15, s16, s17, s18, s19, s20, s21, s22] [(.int (4 : Int32)), (.int ((((j8.toUInt64 >>> ((34 : Int32) &&& 0x3f).toInt64.toUInt64).toInt64).toInt32) &&& (7 : Int32)))])) _
  refine XS.icmpYes X0.here hx rfl (pc0 := 14) (pc' := 23) rfl (hb hby at_14) rfl (feq hc14).2 (by decide) (by decide) ?_
  show Steps p.tables e below (T0.setTop (mkF m 23 #[s0, s1, s2, s3, s4, s5, s6, s7, .val (.long j8), .second, .val (.int ((((j8.toUInt64 >>> ((34 : Int32) &&& 0x3f).toInt64.toUInt64).toInt64).toInt32) &&& (7 : Int32))), s11, s12, s13, s14, s15, s16, s17, s18, s19, s20, s21, s22] [])) _
  refine XS.iload X0.here hx rfl (hb hby at_23) rfl ?_
  show Steps p.tables e below (T0.setTop (mkF m 25 #[s0, s1, s2, s3, s4, s5, s6, s7, .val (.long j8), .second, .val (.int ((((j8.toUInt64 >>> ((34 : Int32) &&& 0x3f).toInt64.toUInt64).toInt64).toInt32) &&& (7 : Int32))), s11, s12, s13, s14, s15, s16, s17, s18, s19, s20, s21, s22] [(.int ((((j8.toUInt64 >>> ((34 : Int32) &&& 0x3f).toInt64.toUInt64).toInt64).toInt32) &&& (7 : Int32)))])) _
  refine XS.iconst X0.here hx rfl (hb hby at_25) ?_
  show Steps p.tables e below (T0.setTop (mkF m 26 #[s0, s1, s2, s3, s4, s5, s6, s7, .val (.long j8), .second, .val (.int ((((j8.toUInt64 >>> ((34 : Int32) &&& 0x3f).toInt64.toUInt64).toInt64).toInt32) &&& (7 : Int32))), s11, s12, s13, s14, s15, s16, s17, s18, s19, s20, s21, s22] [(.int (5 : Int32)), (.int ((((j8.toUInt64 >>> ((34 : Int32) &&& 0x3f).toInt64.toUInt64).toInt64).toInt32) &&& (7 : Int32)))])) _
  refine XS.icmpNo X0.here hx rfl (hb hby at_26) rfl (teq hc26).2 ?_
  show Steps p.tables e below (T0.setTop (mkF m 29 #[s0, s1, s2, s3, s4, s5, s6, s7, .val (.long j8), .second, .val (.int ((((j8.toUInt64 >>> ((34 : Int32) &&& 0x3f).toInt64.toUInt64).toInt64).toInt32) &&& (7 : Int32))), s11, s12, s13, s14, s15, s16, s17, s18, s19, s20, s21, s22] [])) _
  refine XS.iconst X0.here hx rfl (hb hby at_29) ?_
  show Steps p.tables e below (T0.setTop (mkF m 30 #[s0, s1, s2, s3, s4, s5, s6, s7, .val (.long j8), .second, .val (.int ((((j8.toUInt64 >>> ((34 : Int32) &&& 0x3f).toInt64.toUInt64).toInt64).toInt32) &&& (7 : Int32))), s11, s12, s13, s14, s15, s16, s17, s18, s19, s20, s21, s22] [(.int (0 : Int32))])) _
  refine XS.istore X0.here hx rfl (hb hby at_30) rfl (l' := #[s0, s1, s2, s3, s4, s5, s6, s7, .val (.long j8), .second, .val (.int ((((j8.toUInt64 >>> ((34 : Int32) &&& 0x3f).toInt64.toUInt64).toInt64).toInt32) &&& (7 : Int32))), .val (.int (0 : Int32)), s12, s13, s14, s15, s16, s17, s18, s19, s20, s21, s22]) (os0_30 hs11) ?_
  show Steps p.tables e below (T0.setTop (mkF m 32 #[s0, s1, s2, s3, s4, s5, s6, s7, .val (.long j8), .second, .val (.int ((((j8.toUInt64 >>> ((34 : Int32) &&& 0x3f).toInt64.toUInt64).toInt64).toInt32) &&& (7 : Int32))), .val (.int (0 : Int32)), s12, s13, s14, s15, s16, s17, s18, s19, s20, s21, s22] [])) _
  refine XS.goto X0.here hx rfl (pc0 := 32) (pc' := 66) rfl (hb hby at_32) (by decide) (by decide) ?_
  exact kt
theorem os0_44 {s0 : Slot} {s1 : Slot} {s2 : Slot} {s3 : Slot} {s4 : Slot} {s5 : Slot} {s6 : Slot} {s7 : Slot} {z8 : Value} {z10 : Value} {s11 : Slot} {s12 : Slot} {s13 : Slot} {s14 : Slot} {s15 : Slot} {s16 : Slot} {s17 : Slot} {s18 : Slot} {s19 : Slot} {s20 : Slot} {s21 : Slot} {s22 : Slot} {v : Int32} (h : One s11) : storeLocals #[s0, s1, s2, s3, s4, s5, s6, s7, .val z8, .second, .val z10, s11, s12, s13, s14, s15, s16, s17, s18, s19, s20, s21, s22] 11 (.int v) = some #[s0, s1, s2, s3, s4, s5, s6, s7, .val z8, .second, .val z10, .val (.int v), s12, s13, s14, s15, s16, s17, s18, s19, s20, s21, s22] := by
  rcases h with rfl | ⟨w, rfl, hw⟩
  · rfl
  · cases w <;> first | rfl | (simp [Value.category] at hw)
set_option maxRecDepth 65536 in
set_option maxHeartbeats 40000000 in
theorem tn0_0_66_ttf {p : Program} {l : Launch} {e : Env} {R : Room} {s : State} {m : MethodId} {args : Array Value} {below : List Frame} {meth : Method} {c : Code} {T0 : State} {locs : List Loc} {cells slots : Nat} {Z : State} {a0 : Array Value} {h0 : Heap} (s0 : Slot) (s1 : Slot) (s2 : Slot) (s3 : Slot) (s4 : Slot) (s5 : Slot) (s6 : Slot) (s7 : Slot) (j8 : Int64) (s10 : Slot) (s11 : Slot) (s12 : Slot) (s13 : Slot) (s14 : Slot) (s15 : Slot) (s16 : Slot) (s17 : Slot) (s18 : Slot) (s19 : Slot) (s20 : Slot) (s21 : Slot) (s22 : Slot)
    (X0 : Stand p l e R s m args below meth c T0 locs cells slots) (hx : p.tables.exec = Jvm.exec) (hZ : Z.Warmed39 s.vm) (hw : ∀ d ∈ tables_1, d.before a0 Z = true) (hby : c.code = code) (hml : c.maxLocals = 23) (hown : s.vm.findClass "com/example/cablegram/cablegram/engine/EnvelopeMatchesPinLaw" = some m.cls) (e0 : T0.heap = h0) (hs10 : One s10) (hs11 : One s11) (hc14 : ¬ (((((j8.toUInt64 >>> ((34 : Int32) &&& 0x3f).toInt64.toUInt64).toInt64).toInt32) &&& (7 : Int32)) = (4 : Int32))) (hc26 : ¬ (((((j8.toUInt64 >>> ((34 : Int32) &&& 0x3f).toInt64.toUInt64).toInt64).toInt32) &&& (7 : Int32)) = (5 : Int32))) (hc39 : ((((j8.toUInt64 >>> ((34 : Int32) &&& 0x3f).toInt64.toUInt64).toInt64).toInt32) &&& (7 : Int32)) = (6 : Int32)) :
    ∃ (T' : State), Stand p l e R s m args below meth c T' locs cells slots ∧ T'.heap = h0 ∧
      ∀ target, Steps p.tables e below (T'.setTop (mkF m 66 #[s0, s1, s2, s3, s4, s5, s6, s7, .val (.long j8), .second, .val (.int ((((j8.toUInt64 >>> ((34 : Int32) &&& 0x3f).toInt64.toUInt64).toInt64).toInt32) &&& (7 : Int32))), .val (.int (-2 : Int32)), s12, s13, s14, s15, s16, s17, s18, s19, s20, s21, s22] [])) target → Steps p.tables e below (T0.setTop (mkF m 0 #[s0, s1, s2, s3, s4, s5, s6, s7, .val (.long j8), .second, s10, s11, s12, s13, s14, s15, s16, s17, s18, s19, s20, s21, s22] [])) target := by
  -- 3. LAWS

  refine ⟨T0, X0, e0, fun target kt => ?_⟩
  -- 4. STEPS
  show Steps p.tables e below (T0.setTop (mkF m 0 #[s0, s1, s2, s3, s4, s5, s6, s7, .val (.long j8), .second, s10, s11, s12, s13, s14, s15, s16, s17, s18, s19, s20, s21, s22] [])) _
  refine XS.lload X0.here hx rfl (hb hby at_0) rfl ?_
  show Steps p.tables e below (T0.setTop (mkF m 2 #[s0, s1, s2, s3, s4, s5, s6, s7, .val (.long j8), .second, s10, s11, s12, s13, s14, s15, s16, s17, s18, s19, s20, s21, s22] [(.long j8)])) _
  refine XS.bipush X0.here hx rfl (hb hby at_2) ?_
  show Steps p.tables e below (T0.setTop (mkF m 4 #[s0, s1, s2, s3, s4, s5, s6, s7, .val (.long j8), .second, s10, s11, s12, s13, s14, s15, s16, s17, s18, s19, s20, s21, s22] [(.int (34 : Int32)), (.long j8)])) _
  refine XS.lushr X0.here hx rfl (hb hby at_4) rfl ?_
  show Steps p.tables e below (T0.setTop (mkF m 5 #[s0, s1, s2, s3, s4, s5, s6, s7, .val (.long j8), .second, s10, s11, s12, s13, s14, s15, s16, s17, s18, s19, s20, s21, s22] [(.long ((j8.toUInt64 >>> ((34 : Int32) &&& 0x3f).toInt64.toUInt64).toInt64))])) _
  refine XS.l2i X0.here hx rfl (hb hby at_5) rfl ?_
  show Steps p.tables e below (T0.setTop (mkF m 6 #[s0, s1, s2, s3, s4, s5, s6, s7, .val (.long j8), .second, s10, s11, s12, s13, s14, s15, s16, s17, s18, s19, s20, s21, s22] [(.int (((j8.toUInt64 >>> ((34 : Int32) &&& 0x3f).toInt64.toUInt64).toInt64).toInt32))])) _
  refine XS.bipush X0.here hx rfl (hb hby at_6) ?_
  show Steps p.tables e below (T0.setTop (mkF m 8 #[s0, s1, s2, s3, s4, s5, s6, s7, .val (.long j8), .second, s10, s11, s12, s13, s14, s15, s16, s17, s18, s19, s20, s21, s22] [(.int (7 : Int32)), (.int (((j8.toUInt64 >>> ((34 : Int32) &&& 0x3f).toInt64.toUInt64).toInt64).toInt32))])) _
  refine XS.iand X0.here hx rfl (hb hby at_8) rfl ?_
  show Steps p.tables e below (T0.setTop (mkF m 9 #[s0, s1, s2, s3, s4, s5, s6, s7, .val (.long j8), .second, s10, s11, s12, s13, s14, s15, s16, s17, s18, s19, s20, s21, s22] [(.int ((((j8.toUInt64 >>> ((34 : Int32) &&& 0x3f).toInt64.toUInt64).toInt64).toInt32) &&& (7 : Int32)))])) _
  refine XS.istore X0.here hx rfl (hb hby at_9) rfl (l' := #[s0, s1, s2, s3, s4, s5, s6, s7, .val (.long j8), .second, .val (.int ((((j8.toUInt64 >>> ((34 : Int32) &&& 0x3f).toInt64.toUInt64).toInt64).toInt32) &&& (7 : Int32))), s11, s12, s13, s14, s15, s16, s17, s18, s19, s20, s21, s22]) (os0_9 hs10) ?_
  show Steps p.tables e below (T0.setTop (mkF m 11 #[s0, s1, s2, s3, s4, s5, s6, s7, .val (.long j8), .second, .val (.int ((((j8.toUInt64 >>> ((34 : Int32) &&& 0x3f).toInt64.toUInt64).toInt64).toInt32) &&& (7 : Int32))), s11, s12, s13, s14, s15, s16, s17, s18, s19, s20, s21, s22] [])) _
  refine XS.iload X0.here hx rfl (hb hby at_11) rfl ?_
  show Steps p.tables e below (T0.setTop (mkF m 13 #[s0, s1, s2, s3, s4, s5, s6, s7, .val (.long j8), .second, .val (.int ((((j8.toUInt64 >>> ((34 : Int32) &&& 0x3f).toInt64.toUInt64).toInt64).toInt32) &&& (7 : Int32))), s11, s12, s13, s14, s15, s16, s17, s18, s19, s20, s21, s22] [(.int ((((j8.toUInt64 >>> ((34 : Int32) &&& 0x3f).toInt64.toUInt64).toInt64).toInt32) &&& (7 : Int32)))])) _
  refine XS.iconst X0.here hx rfl (hb hby at_13) ?_
  show Steps p.tables e below (T0.setTop (mkF m 14 #[s0, s1, s2, s3, s4, s5, s6, s7, .val (.long j8), .second, .val (.int ((((j8.toUInt64 >>> ((34 : Int32) &&& 0x3f).toInt64.toUInt64).toInt64).toInt32) &&& (7 : Int32))), s11, s12, s13, s14, s15, s16, s17, s18, s19, s20, s21, s22] [(.int (4 : Int32)), (.int ((((j8.toUInt64 >>> ((34 : Int32) &&& 0x3f).toInt64.toUInt64).toInt64).toInt32) &&& (7 : Int32)))])) _
  refine XS.icmpYes X0.here hx rfl (pc0 := 14) (pc' := 23) rfl (hb hby at_14) rfl (feq hc14).2 (by decide) (by decide) ?_
  show Steps p.tables e below (T0.setTop (mkF m 23 #[s0, s1, s2, s3, s4, s5, s6, s7, .val (.long j8), .second, .val (.int ((((j8.toUInt64 >>> ((34 : Int32) &&& 0x3f).toInt64.toUInt64).toInt64).toInt32) &&& (7 : Int32))), s11, s12, s13, s14, s15, s16, s17, s18, s19, s20, s21, s22] [])) _
  refine XS.iload X0.here hx rfl (hb hby at_23) rfl ?_
  show Steps p.tables e below (T0.setTop (mkF m 25 #[s0, s1, s2, s3, s4, s5, s6, s7, .val (.long j8), .second, .val (.int ((((j8.toUInt64 >>> ((34 : Int32) &&& 0x3f).toInt64.toUInt64).toInt64).toInt32) &&& (7 : Int32))), s11, s12, s13, s14, s15, s16, s17, s18, s19, s20, s21, s22] [(.int ((((j8.toUInt64 >>> ((34 : Int32) &&& 0x3f).toInt64.toUInt64).toInt64).toInt32) &&& (7 : Int32)))])) _
  refine XS.iconst X0.here hx rfl (hb hby at_25) ?_
  show Steps p.tables e below (T0.setTop (mkF m 26 #[s0, s1, s2, s3, s4, s5, s6, s7, .val (.long j8), .second, .val (.int ((((j8.toUInt64 >>> ((34 : Int32) &&& 0x3f).toInt64.toUInt64).toInt64).toInt32) &&& (7 : Int32))), s11, s12, s13, s14, s15, s16, s17, s18, s19, s20, s21, s22] [(.int (5 : Int32)), (.int ((((j8.toUInt64 >>> ((34 : Int32) &&& 0x3f).toInt64.toUInt64).toInt64).toInt32) &&& (7 : Int32)))])) _
  refine XS.icmpYes X0.here hx rfl (pc0 := 26) (pc' := 35) rfl (hb hby at_26) rfl (feq hc26).2 (by decide) (by decide) ?_
  show Steps p.tables e below (T0.setTop (mkF m 35 #[s0, s1, s2, s3, s4, s5, s6, s7, .val (.long j8), .second, .val (.int ((((j8.toUInt64 >>> ((34 : Int32) &&& 0x3f).toInt64.toUInt64).toInt64).toInt32) &&& (7 : Int32))), s11, s12, s13, s14, s15, s16, s17, s18, s19, s20, s21, s22] [])) _
  refine XS.iload X0.here hx rfl (hb hby at_35) rfl ?_
  show Steps p.tables e below (T0.setTop (mkF m 37 #[s0, s1, s2, s3, s4, s5, s6, s7, .val (.long j8), .second, .val (.int ((((j8.toUInt64 >>> ((34 : Int32) &&& 0x3f).toInt64.toUInt64).toInt64).toInt32) &&& (7 : Int32))), s11, s12, s13, s14, s15, s16, s17, s18, s19, s20, s21, s22] [(.int ((((j8.toUInt64 >>> ((34 : Int32) &&& 0x3f).toInt64.toUInt64).toInt64).toInt32) &&& (7 : Int32)))])) _
  refine XS.bipush X0.here hx rfl (hb hby at_37) ?_
  show Steps p.tables e below (T0.setTop (mkF m 39 #[s0, s1, s2, s3, s4, s5, s6, s7, .val (.long j8), .second, .val (.int ((((j8.toUInt64 >>> ((34 : Int32) &&& 0x3f).toInt64.toUInt64).toInt64).toInt32) &&& (7 : Int32))), s11, s12, s13, s14, s15, s16, s17, s18, s19, s20, s21, s22] [(.int (6 : Int32)), (.int ((((j8.toUInt64 >>> ((34 : Int32) &&& 0x3f).toInt64.toUInt64).toInt64).toInt32) &&& (7 : Int32)))])) _
  refine XS.icmpNo X0.here hx rfl (hb hby at_39) rfl (teq hc39).2 ?_
  show Steps p.tables e below (T0.setTop (mkF m 42 #[s0, s1, s2, s3, s4, s5, s6, s7, .val (.long j8), .second, .val (.int ((((j8.toUInt64 >>> ((34 : Int32) &&& 0x3f).toInt64.toUInt64).toInt64).toInt32) &&& (7 : Int32))), s11, s12, s13, s14, s15, s16, s17, s18, s19, s20, s21, s22] [])) _
  refine XS.bipush X0.here hx rfl (hb hby at_42) ?_
  show Steps p.tables e below (T0.setTop (mkF m 44 #[s0, s1, s2, s3, s4, s5, s6, s7, .val (.long j8), .second, .val (.int ((((j8.toUInt64 >>> ((34 : Int32) &&& 0x3f).toInt64.toUInt64).toInt64).toInt32) &&& (7 : Int32))), s11, s12, s13, s14, s15, s16, s17, s18, s19, s20, s21, s22] [(.int (-2 : Int32))])) _
  refine XS.istore X0.here hx rfl (hb hby at_44) rfl (l' := #[s0, s1, s2, s3, s4, s5, s6, s7, .val (.long j8), .second, .val (.int ((((j8.toUInt64 >>> ((34 : Int32) &&& 0x3f).toInt64.toUInt64).toInt64).toInt32) &&& (7 : Int32))), .val (.int (-2 : Int32)), s12, s13, s14, s15, s16, s17, s18, s19, s20, s21, s22]) (os0_44 hs11) ?_
  show Steps p.tables e below (T0.setTop (mkF m 46 #[s0, s1, s2, s3, s4, s5, s6, s7, .val (.long j8), .second, .val (.int ((((j8.toUInt64 >>> ((34 : Int32) &&& 0x3f).toInt64.toUInt64).toInt64).toInt32) &&& (7 : Int32))), .val (.int (-2 : Int32)), s12, s13, s14, s15, s16, s17, s18, s19, s20, s21, s22] [])) _
  refine XS.goto X0.here hx rfl (pc0 := 46) (pc' := 66) rfl (hb hby at_46) (by decide) (by decide) ?_
  exact kt
theorem os0_58 {s0 : Slot} {s1 : Slot} {s2 : Slot} {s3 : Slot} {s4 : Slot} {s5 : Slot} {s6 : Slot} {s7 : Slot} {z8 : Value} {z10 : Value} {s11 : Slot} {s12 : Slot} {s13 : Slot} {s14 : Slot} {s15 : Slot} {s16 : Slot} {s17 : Slot} {s18 : Slot} {s19 : Slot} {s20 : Slot} {s21 : Slot} {s22 : Slot} {v : Int32} (h : One s11) : storeLocals #[s0, s1, s2, s3, s4, s5, s6, s7, .val z8, .second, .val z10, s11, s12, s13, s14, s15, s16, s17, s18, s19, s20, s21, s22] 11 (.int v) = some #[s0, s1, s2, s3, s4, s5, s6, s7, .val z8, .second, .val z10, .val (.int v), s12, s13, s14, s15, s16, s17, s18, s19, s20, s21, s22] := by
  rcases h with rfl | ⟨w, rfl, hw⟩
  · rfl
  · cases w <;> first | rfl | (simp [Value.category] at hw)
set_option maxRecDepth 65536 in
set_option maxHeartbeats 40000000 in
theorem tn0_0_66_tttf {p : Program} {l : Launch} {e : Env} {R : Room} {s : State} {m : MethodId} {args : Array Value} {below : List Frame} {meth : Method} {c : Code} {T0 : State} {locs : List Loc} {cells slots : Nat} {Z : State} {a0 : Array Value} {h0 : Heap} (s0 : Slot) (s1 : Slot) (s2 : Slot) (s3 : Slot) (s4 : Slot) (s5 : Slot) (s6 : Slot) (s7 : Slot) (j8 : Int64) (s10 : Slot) (s11 : Slot) (s12 : Slot) (s13 : Slot) (s14 : Slot) (s15 : Slot) (s16 : Slot) (s17 : Slot) (s18 : Slot) (s19 : Slot) (s20 : Slot) (s21 : Slot) (s22 : Slot)
    (X0 : Stand p l e R s m args below meth c T0 locs cells slots) (hx : p.tables.exec = Jvm.exec) (hZ : Z.Warmed39 s.vm) (hw : ∀ d ∈ tables_1, d.before a0 Z = true) (hby : c.code = code) (hml : c.maxLocals = 23) (hown : s.vm.findClass "com/example/cablegram/cablegram/engine/EnvelopeMatchesPinLaw" = some m.cls) (e0 : T0.heap = h0) (hs10 : One s10) (hs11 : One s11) (hc14 : ¬ (((((j8.toUInt64 >>> ((34 : Int32) &&& 0x3f).toInt64.toUInt64).toInt64).toInt32) &&& (7 : Int32)) = (4 : Int32))) (hc26 : ¬ (((((j8.toUInt64 >>> ((34 : Int32) &&& 0x3f).toInt64.toUInt64).toInt64).toInt32) &&& (7 : Int32)) = (5 : Int32))) (hc39 : ¬ (((((j8.toUInt64 >>> ((34 : Int32) &&& 0x3f).toInt64.toUInt64).toInt64).toInt32) &&& (7 : Int32)) = (6 : Int32))) (hc53 : ((((j8.toUInt64 >>> ((34 : Int32) &&& 0x3f).toInt64.toUInt64).toInt64).toInt32) &&& (7 : Int32)) = (7 : Int32)) :
    ∃ (T' : State), Stand p l e R s m args below meth c T' locs cells slots ∧ T'.heap = h0 ∧
      ∀ target, Steps p.tables e below (T'.setTop (mkF m 66 #[s0, s1, s2, s3, s4, s5, s6, s7, .val (.long j8), .second, .val (.int ((((j8.toUInt64 >>> ((34 : Int32) &&& 0x3f).toInt64.toUInt64).toInt64).toInt32) &&& (7 : Int32))), .val (.int (-2147483648 : Int32)), s12, s13, s14, s15, s16, s17, s18, s19, s20, s21, s22] [])) target → Steps p.tables e below (T0.setTop (mkF m 0 #[s0, s1, s2, s3, s4, s5, s6, s7, .val (.long j8), .second, s10, s11, s12, s13, s14, s15, s16, s17, s18, s19, s20, s21, s22] [])) target := by
  -- 3. LAWS

  refine ⟨T0, X0, e0, fun target kt => ?_⟩
  -- 4. STEPS
  show Steps p.tables e below (T0.setTop (mkF m 0 #[s0, s1, s2, s3, s4, s5, s6, s7, .val (.long j8), .second, s10, s11, s12, s13, s14, s15, s16, s17, s18, s19, s20, s21, s22] [])) _
  refine XS.lload X0.here hx rfl (hb hby at_0) rfl ?_
  show Steps p.tables e below (T0.setTop (mkF m 2 #[s0, s1, s2, s3, s4, s5, s6, s7, .val (.long j8), .second, s10, s11, s12, s13, s14, s15, s16, s17, s18, s19, s20, s21, s22] [(.long j8)])) _
  refine XS.bipush X0.here hx rfl (hb hby at_2) ?_
  show Steps p.tables e below (T0.setTop (mkF m 4 #[s0, s1, s2, s3, s4, s5, s6, s7, .val (.long j8), .second, s10, s11, s12, s13, s14, s15, s16, s17, s18, s19, s20, s21, s22] [(.int (34 : Int32)), (.long j8)])) _
  refine XS.lushr X0.here hx rfl (hb hby at_4) rfl ?_
  show Steps p.tables e below (T0.setTop (mkF m 5 #[s0, s1, s2, s3, s4, s5, s6, s7, .val (.long j8), .second, s10, s11, s12, s13, s14, s15, s16, s17, s18, s19, s20, s21, s22] [(.long ((j8.toUInt64 >>> ((34 : Int32) &&& 0x3f).toInt64.toUInt64).toInt64))])) _
  refine XS.l2i X0.here hx rfl (hb hby at_5) rfl ?_
  show Steps p.tables e below (T0.setTop (mkF m 6 #[s0, s1, s2, s3, s4, s5, s6, s7, .val (.long j8), .second, s10, s11, s12, s13, s14, s15, s16, s17, s18, s19, s20, s21, s22] [(.int (((j8.toUInt64 >>> ((34 : Int32) &&& 0x3f).toInt64.toUInt64).toInt64).toInt32))])) _
  refine XS.bipush X0.here hx rfl (hb hby at_6) ?_
  show Steps p.tables e below (T0.setTop (mkF m 8 #[s0, s1, s2, s3, s4, s5, s6, s7, .val (.long j8), .second, s10, s11, s12, s13, s14, s15, s16, s17, s18, s19, s20, s21, s22] [(.int (7 : Int32)), (.int (((j8.toUInt64 >>> ((34 : Int32) &&& 0x3f).toInt64.toUInt64).toInt64).toInt32))])) _
  refine XS.iand X0.here hx rfl (hb hby at_8) rfl ?_
  show Steps p.tables e below (T0.setTop (mkF m 9 #[s0, s1, s2, s3, s4, s5, s6, s7, .val (.long j8), .second, s10, s11, s12, s13, s14, s15, s16, s17, s18, s19, s20, s21, s22] [(.int ((((j8.toUInt64 >>> ((34 : Int32) &&& 0x3f).toInt64.toUInt64).toInt64).toInt32) &&& (7 : Int32)))])) _
  refine XS.istore X0.here hx rfl (hb hby at_9) rfl (l' := #[s0, s1, s2, s3, s4, s5, s6, s7, .val (.long j8), .second, .val (.int ((((j8.toUInt64 >>> ((34 : Int32) &&& 0x3f).toInt64.toUInt64).toInt64).toInt32) &&& (7 : Int32))), s11, s12, s13, s14, s15, s16, s17, s18, s19, s20, s21, s22]) (os0_9 hs10) ?_
  show Steps p.tables e below (T0.setTop (mkF m 11 #[s0, s1, s2, s3, s4, s5, s6, s7, .val (.long j8), .second, .val (.int ((((j8.toUInt64 >>> ((34 : Int32) &&& 0x3f).toInt64.toUInt64).toInt64).toInt32) &&& (7 : Int32))), s11, s12, s13, s14, s15, s16, s17, s18, s19, s20, s21, s22] [])) _
  refine XS.iload X0.here hx rfl (hb hby at_11) rfl ?_
  show Steps p.tables e below (T0.setTop (mkF m 13 #[s0, s1, s2, s3, s4, s5, s6, s7, .val (.long j8), .second, .val (.int ((((j8.toUInt64 >>> ((34 : Int32) &&& 0x3f).toInt64.toUInt64).toInt64).toInt32) &&& (7 : Int32))), s11, s12, s13, s14, s15, s16, s17, s18, s19, s20, s21, s22] [(.int ((((j8.toUInt64 >>> ((34 : Int32) &&& 0x3f).toInt64.toUInt64).toInt64).toInt32) &&& (7 : Int32)))])) _
  refine XS.iconst X0.here hx rfl (hb hby at_13) ?_
  show Steps p.tables e below (T0.setTop (mkF m 14 #[s0, s1, s2, s3, s4, s5, s6, s7, .val (.long j8), .second, .val (.int ((((j8.toUInt64 >>> ((34 : Int32) &&& 0x3f).toInt64.toUInt64).toInt64).toInt32) &&& (7 : Int32))), s11, s12, s13, s14, s15, s16, s17, s18, s19, s20, s21, s22] [(.int (4 : Int32)), (.int ((((j8.toUInt64 >>> ((34 : Int32) &&& 0x3f).toInt64.toUInt64).toInt64).toInt32) &&& (7 : Int32)))])) _
  refine XS.icmpYes X0.here hx rfl (pc0 := 14) (pc' := 23) rfl (hb hby at_14) rfl (feq hc14).2 (by decide) (by decide) ?_
  show Steps p.tables e below (T0.setTop (mkF m 23 #[s0, s1, s2, s3, s4, s5, s6, s7, .val (.long j8), .second, .val (.int ((((j8.toUInt64 >>> ((34 : Int32) &&& 0x3f).toInt64.toUInt64).toInt64).toInt32) &&& (7 : Int32))), s11, s12, s13, s14, s15, s16, s17, s18, s19, s20, s21, s22] [])) _
  refine XS.iload X0.here hx rfl (hb hby at_23) rfl ?_
  show Steps p.tables e below (T0.setTop (mkF m 25 #[s0, s1, s2, s3, s4, s5, s6, s7, .val (.long j8), .second, .val (.int ((((j8.toUInt64 >>> ((34 : Int32) &&& 0x3f).toInt64.toUInt64).toInt64).toInt32) &&& (7 : Int32))), s11, s12, s13, s14, s15, s16, s17, s18, s19, s20, s21, s22] [(.int ((((j8.toUInt64 >>> ((34 : Int32) &&& 0x3f).toInt64.toUInt64).toInt64).toInt32) &&& (7 : Int32)))])) _
  refine XS.iconst X0.here hx rfl (hb hby at_25) ?_
  show Steps p.tables e below (T0.setTop (mkF m 26 #[s0, s1, s2, s3, s4, s5, s6, s7, .val (.long j8), .second, .val (.int ((((j8.toUInt64 >>> ((34 : Int32) &&& 0x3f).toInt64.toUInt64).toInt64).toInt32) &&& (7 : Int32))), s11, s12, s13, s14, s15, s16, s17, s18, s19, s20, s21, s22] [(.int (5 : Int32)), (.int ((((j8.toUInt64 >>> ((34 : Int32) &&& 0x3f).toInt64.toUInt64).toInt64).toInt32) &&& (7 : Int32)))])) _
  refine XS.icmpYes X0.here hx rfl (pc0 := 26) (pc' := 35) rfl (hb hby at_26) rfl (feq hc26).2 (by decide) (by decide) ?_
  show Steps p.tables e below (T0.setTop (mkF m 35 #[s0, s1, s2, s3, s4, s5, s6, s7, .val (.long j8), .second, .val (.int ((((j8.toUInt64 >>> ((34 : Int32) &&& 0x3f).toInt64.toUInt64).toInt64).toInt32) &&& (7 : Int32))), s11, s12, s13, s14, s15, s16, s17, s18, s19, s20, s21, s22] [])) _
  refine XS.iload X0.here hx rfl (hb hby at_35) rfl ?_
  show Steps p.tables e below (T0.setTop (mkF m 37 #[s0, s1, s2, s3, s4, s5, s6, s7, .val (.long j8), .second, .val (.int ((((j8.toUInt64 >>> ((34 : Int32) &&& 0x3f).toInt64.toUInt64).toInt64).toInt32) &&& (7 : Int32))), s11, s12, s13, s14, s15, s16, s17, s18, s19, s20, s21, s22] [(.int ((((j8.toUInt64 >>> ((34 : Int32) &&& 0x3f).toInt64.toUInt64).toInt64).toInt32) &&& (7 : Int32)))])) _
  refine XS.bipush X0.here hx rfl (hb hby at_37) ?_
  show Steps p.tables e below (T0.setTop (mkF m 39 #[s0, s1, s2, s3, s4, s5, s6, s7, .val (.long j8), .second, .val (.int ((((j8.toUInt64 >>> ((34 : Int32) &&& 0x3f).toInt64.toUInt64).toInt64).toInt32) &&& (7 : Int32))), s11, s12, s13, s14, s15, s16, s17, s18, s19, s20, s21, s22] [(.int (6 : Int32)), (.int ((((j8.toUInt64 >>> ((34 : Int32) &&& 0x3f).toInt64.toUInt64).toInt64).toInt32) &&& (7 : Int32)))])) _
  refine XS.icmpYes X0.here hx rfl (pc0 := 39) (pc' := 49) rfl (hb hby at_39) rfl (feq hc39).2 (by decide) (by decide) ?_
  show Steps p.tables e below (T0.setTop (mkF m 49 #[s0, s1, s2, s3, s4, s5, s6, s7, .val (.long j8), .second, .val (.int ((((j8.toUInt64 >>> ((34 : Int32) &&& 0x3f).toInt64.toUInt64).toInt64).toInt32) &&& (7 : Int32))), s11, s12, s13, s14, s15, s16, s17, s18, s19, s20, s21, s22] [])) _
  refine XS.iload X0.here hx rfl (hb hby at_49) rfl ?_
  show Steps p.tables e below (T0.setTop (mkF m 51 #[s0, s1, s2, s3, s4, s5, s6, s7, .val (.long j8), .second, .val (.int ((((j8.toUInt64 >>> ((34 : Int32) &&& 0x3f).toInt64.toUInt64).toInt64).toInt32) &&& (7 : Int32))), s11, s12, s13, s14, s15, s16, s17, s18, s19, s20, s21, s22] [(.int ((((j8.toUInt64 >>> ((34 : Int32) &&& 0x3f).toInt64.toUInt64).toInt64).toInt32) &&& (7 : Int32)))])) _
  refine XS.bipush X0.here hx rfl (hb hby at_51) ?_
  show Steps p.tables e below (T0.setTop (mkF m 53 #[s0, s1, s2, s3, s4, s5, s6, s7, .val (.long j8), .second, .val (.int ((((j8.toUInt64 >>> ((34 : Int32) &&& 0x3f).toInt64.toUInt64).toInt64).toInt32) &&& (7 : Int32))), s11, s12, s13, s14, s15, s16, s17, s18, s19, s20, s21, s22] [(.int (7 : Int32)), (.int ((((j8.toUInt64 >>> ((34 : Int32) &&& 0x3f).toInt64.toUInt64).toInt64).toInt32) &&& (7 : Int32)))])) _
  refine XS.icmpNo X0.here hx rfl (hb hby at_53) rfl (teq hc53).2 ?_
  show Steps p.tables e below (T0.setTop (mkF m 56 #[s0, s1, s2, s3, s4, s5, s6, s7, .val (.long j8), .second, .val (.int ((((j8.toUInt64 >>> ((34 : Int32) &&& 0x3f).toInt64.toUInt64).toInt64).toInt32) &&& (7 : Int32))), s11, s12, s13, s14, s15, s16, s17, s18, s19, s20, s21, s22] [])) _
  refine X0.ldcInt hx hown (mvT hZ (hw _ (List.mem_of_getElem? (i := 4) rfl))) (g := (mkF m 56 #[s0, s1, s2, s3, s4, s5, s6, s7, .val (.long j8), .second, .val (.int ((((j8.toUInt64 >>> ((34 : Int32) &&& 0x3f).toInt64.toUInt64).toInt64).toInt32) &&& (7 : Int32))), s11, s12, s13, s14, s15, s16, s17, s18, s19, s20, s21, s22] [])) rfl (hb hby at_56) _ ?_
  show Steps p.tables e below (T0.setTop (mkF m 58 #[s0, s1, s2, s3, s4, s5, s6, s7, .val (.long j8), .second, .val (.int ((((j8.toUInt64 >>> ((34 : Int32) &&& 0x3f).toInt64.toUInt64).toInt64).toInt32) &&& (7 : Int32))), s11, s12, s13, s14, s15, s16, s17, s18, s19, s20, s21, s22] [(.int (-2147483648 : Int32))])) _
  refine XS.istore X0.here hx rfl (hb hby at_58) rfl (l' := #[s0, s1, s2, s3, s4, s5, s6, s7, .val (.long j8), .second, .val (.int ((((j8.toUInt64 >>> ((34 : Int32) &&& 0x3f).toInt64.toUInt64).toInt64).toInt32) &&& (7 : Int32))), .val (.int (-2147483648 : Int32)), s12, s13, s14, s15, s16, s17, s18, s19, s20, s21, s22]) (os0_58 hs11) ?_
  show Steps p.tables e below (T0.setTop (mkF m 60 #[s0, s1, s2, s3, s4, s5, s6, s7, .val (.long j8), .second, .val (.int ((((j8.toUInt64 >>> ((34 : Int32) &&& 0x3f).toInt64.toUInt64).toInt64).toInt32) &&& (7 : Int32))), .val (.int (-2147483648 : Int32)), s12, s13, s14, s15, s16, s17, s18, s19, s20, s21, s22] [])) _
  refine XS.goto X0.here hx rfl (pc0 := 60) (pc' := 66) rfl (hb hby at_60) (by decide) (by decide) ?_
  exact kt
theorem os0_9_tttt {s0 : Slot} {s1 : Slot} {s2 : Slot} {z3 : Value} {s4 : Slot} {s5 : Slot} {s6 : Slot} {s7 : Slot} {z8 : Value} {s10 : Slot} {s11 : Slot} {s12 : Slot} {s13 : Slot} {s14 : Slot} {s15 : Slot} {s16 : Slot} {s17 : Slot} {s18 : Slot} {s19 : Slot} {s20 : Slot} {s21 : Slot} {s22 : Slot} {v : Int32} (h : One s10) : storeLocals #[s0, s1, s2, .val z3, s4, s5, s6, s7, .val z8, .second, s10, s11, s12, s13, s14, s15, s16, s17, s18, s19, s20, s21, s22] 10 (.int v) = some #[s0, s1, s2, .val z3, s4, s5, s6, s7, .val z8, .second, .val (.int v), s11, s12, s13, s14, s15, s16, s17, s18, s19, s20, s21, s22] := by
  rcases h with rfl | ⟨w, rfl, hw⟩
  · rfl
  · cases w <;> first | rfl | (simp [Value.category] at hw)
theorem os0_64 {s0 : Slot} {s1 : Slot} {s2 : Slot} {z3 : Value} {s4 : Slot} {s5 : Slot} {s6 : Slot} {s7 : Slot} {z8 : Value} {z10 : Value} {s11 : Slot} {s12 : Slot} {s13 : Slot} {s14 : Slot} {s15 : Slot} {s16 : Slot} {s17 : Slot} {s18 : Slot} {s19 : Slot} {s20 : Slot} {s21 : Slot} {s22 : Slot} {v : Int32} (h : One s11) : storeLocals #[s0, s1, s2, .val z3, s4, s5, s6, s7, .val z8, .second, .val z10, s11, s12, s13, s14, s15, s16, s17, s18, s19, s20, s21, s22] 11 (.int v) = some #[s0, s1, s2, .val z3, s4, s5, s6, s7, .val z8, .second, .val z10, .val (.int v), s12, s13, s14, s15, s16, s17, s18, s19, s20, s21, s22] := by
  rcases h with rfl | ⟨w, rfl, hw⟩
  · rfl
  · cases w <;> first | rfl | (simp [Value.category] at hw)
set_option maxRecDepth 65536 in
set_option maxHeartbeats 40000000 in
theorem tn0_0_66_tttt {p : Program} {l : Launch} {e : Env} {R : Room} {s : State} {m : MethodId} {args : Array Value} {below : List Frame} {meth : Method} {c : Code} {T0 : State} {locs : List Loc} {cells slots : Nat} {Z : State} {a0 : Array Value} {h0 : Heap} (s0 : Slot) (s1 : Slot) (s2 : Slot) (i3 : Int32) (s4 : Slot) (s5 : Slot) (s6 : Slot) (s7 : Slot) (j8 : Int64) (s10 : Slot) (s11 : Slot) (s12 : Slot) (s13 : Slot) (s14 : Slot) (s15 : Slot) (s16 : Slot) (s17 : Slot) (s18 : Slot) (s19 : Slot) (s20 : Slot) (s21 : Slot) (s22 : Slot)
    (X0 : Stand p l e R s m args below meth c T0 locs cells slots) (hx : p.tables.exec = Jvm.exec) (hZ : Z.Warmed39 s.vm) (hw : ∀ d ∈ tables_1, d.before a0 Z = true) (hby : c.code = code) (hml : c.maxLocals = 23) (hown : s.vm.findClass "com/example/cablegram/cablegram/engine/EnvelopeMatchesPinLaw" = some m.cls) (e0 : T0.heap = h0) (hs10 : One s10) (hs11 : One s11) (hc14 : ¬ (((((j8.toUInt64 >>> ((34 : Int32) &&& 0x3f).toInt64.toUInt64).toInt64).toInt32) &&& (7 : Int32)) = (4 : Int32))) (hc26 : ¬ (((((j8.toUInt64 >>> ((34 : Int32) &&& 0x3f).toInt64.toUInt64).toInt64).toInt32) &&& (7 : Int32)) = (5 : Int32))) (hc39 : ¬ (((((j8.toUInt64 >>> ((34 : Int32) &&& 0x3f).toInt64.toUInt64).toInt64).toInt32) &&& (7 : Int32)) = (6 : Int32))) (hc53 : ¬ (((((j8.toUInt64 >>> ((34 : Int32) &&& 0x3f).toInt64.toUInt64).toInt64).toInt32) &&& (7 : Int32)) = (7 : Int32))) :
    ∃ (T' : State), Stand p l e R s m args below meth c T' locs cells slots ∧ T'.heap = h0 ∧
      ∀ target, Steps p.tables e below (T'.setTop (mkF m 66 #[s0, s1, s2, .val (.int i3), s4, s5, s6, s7, .val (.long j8), .second, .val (.int ((((j8.toUInt64 >>> ((34 : Int32) &&& 0x3f).toInt64.toUInt64).toInt64).toInt32) &&& (7 : Int32))), .val (.int i3), s12, s13, s14, s15, s16, s17, s18, s19, s20, s21, s22] [])) target → Steps p.tables e below (T0.setTop (mkF m 0 #[s0, s1, s2, .val (.int i3), s4, s5, s6, s7, .val (.long j8), .second, s10, s11, s12, s13, s14, s15, s16, s17, s18, s19, s20, s21, s22] [])) target := by
  -- 3. LAWS

  refine ⟨T0, X0, e0, fun target kt => ?_⟩
  -- 4. STEPS
  show Steps p.tables e below (T0.setTop (mkF m 0 #[s0, s1, s2, .val (.int i3), s4, s5, s6, s7, .val (.long j8), .second, s10, s11, s12, s13, s14, s15, s16, s17, s18, s19, s20, s21, s22] [])) _
  refine XS.lload X0.here hx rfl (hb hby at_0) rfl ?_
  show Steps p.tables e below (T0.setTop (mkF m 2 #[s0, s1, s2, .val (.int i3), s4, s5, s6, s7, .val (.long j8), .second, s10, s11, s12, s13, s14, s15, s16, s17, s18, s19, s20, s21, s22] [(.long j8)])) _
  refine XS.bipush X0.here hx rfl (hb hby at_2) ?_
  show Steps p.tables e below (T0.setTop (mkF m 4 #[s0, s1, s2, .val (.int i3), s4, s5, s6, s7, .val (.long j8), .second, s10, s11, s12, s13, s14, s15, s16, s17, s18, s19, s20, s21, s22] [(.int (34 : Int32)), (.long j8)])) _
  refine XS.lushr X0.here hx rfl (hb hby at_4) rfl ?_
  show Steps p.tables e below (T0.setTop (mkF m 5 #[s0, s1, s2, .val (.int i3), s4, s5, s6, s7, .val (.long j8), .second, s10, s11, s12, s13, s14, s15, s16, s17, s18, s19, s20, s21, s22] [(.long ((j8.toUInt64 >>> ((34 : Int32) &&& 0x3f).toInt64.toUInt64).toInt64))])) _
  refine XS.l2i X0.here hx rfl (hb hby at_5) rfl ?_
  show Steps p.tables e below (T0.setTop (mkF m 6 #[s0, s1, s2, .val (.int i3), s4, s5, s6, s7, .val (.long j8), .second, s10, s11, s12, s13, s14, s15, s16, s17, s18, s19, s20, s21, s22] [(.int (((j8.toUInt64 >>> ((34 : Int32) &&& 0x3f).toInt64.toUInt64).toInt64).toInt32))])) _
  refine XS.bipush X0.here hx rfl (hb hby at_6) ?_
  show Steps p.tables e below (T0.setTop (mkF m 8 #[s0, s1, s2, .val (.int i3), s4, s5, s6, s7, .val (.long j8), .second, s10, s11, s12, s13, s14, s15, s16, s17, s18, s19, s20, s21, s22] [(.int (7 : Int32)), (.int (((j8.toUInt64 >>> ((34 : Int32) &&& 0x3f).toInt64.toUInt64).toInt64).toInt32))])) _
  refine XS.iand X0.here hx rfl (hb hby at_8) rfl ?_
  show Steps p.tables e below (T0.setTop (mkF m 9 #[s0, s1, s2, .val (.int i3), s4, s5, s6, s7, .val (.long j8), .second, s10, s11, s12, s13, s14, s15, s16, s17, s18, s19, s20, s21, s22] [(.int ((((j8.toUInt64 >>> ((34 : Int32) &&& 0x3f).toInt64.toUInt64).toInt64).toInt32) &&& (7 : Int32)))])) _
  refine XS.istore X0.here hx rfl (hb hby at_9) rfl (l' := #[s0, s1, s2, .val (.int i3), s4, s5, s6, s7, .val (.long j8), .second, .val (.int ((((j8.toUInt64 >>> ((34 : Int32) &&& 0x3f).toInt64.toUInt64).toInt64).toInt32) &&& (7 : Int32))), s11, s12, s13, s14, s15, s16, s17, s18, s19, s20, s21, s22]) (os0_9_tttt hs10) ?_
  show Steps p.tables e below (T0.setTop (mkF m 11 #[s0, s1, s2, .val (.int i3), s4, s5, s6, s7, .val (.long j8), .second, .val (.int ((((j8.toUInt64 >>> ((34 : Int32) &&& 0x3f).toInt64.toUInt64).toInt64).toInt32) &&& (7 : Int32))), s11, s12, s13, s14, s15, s16, s17, s18, s19, s20, s21, s22] [])) _
  refine XS.iload X0.here hx rfl (hb hby at_11) rfl ?_
  show Steps p.tables e below (T0.setTop (mkF m 13 #[s0, s1, s2, .val (.int i3), s4, s5, s6, s7, .val (.long j8), .second, .val (.int ((((j8.toUInt64 >>> ((34 : Int32) &&& 0x3f).toInt64.toUInt64).toInt64).toInt32) &&& (7 : Int32))), s11, s12, s13, s14, s15, s16, s17, s18, s19, s20, s21, s22] [(.int ((((j8.toUInt64 >>> ((34 : Int32) &&& 0x3f).toInt64.toUInt64).toInt64).toInt32) &&& (7 : Int32)))])) _
  refine XS.iconst X0.here hx rfl (hb hby at_13) ?_
  show Steps p.tables e below (T0.setTop (mkF m 14 #[s0, s1, s2, .val (.int i3), s4, s5, s6, s7, .val (.long j8), .second, .val (.int ((((j8.toUInt64 >>> ((34 : Int32) &&& 0x3f).toInt64.toUInt64).toInt64).toInt32) &&& (7 : Int32))), s11, s12, s13, s14, s15, s16, s17, s18, s19, s20, s21, s22] [(.int (4 : Int32)), (.int ((((j8.toUInt64 >>> ((34 : Int32) &&& 0x3f).toInt64.toUInt64).toInt64).toInt32) &&& (7 : Int32)))])) _
  refine XS.icmpYes X0.here hx rfl (pc0 := 14) (pc' := 23) rfl (hb hby at_14) rfl (feq hc14).2 (by decide) (by decide) ?_
  show Steps p.tables e below (T0.setTop (mkF m 23 #[s0, s1, s2, .val (.int i3), s4, s5, s6, s7, .val (.long j8), .second, .val (.int ((((j8.toUInt64 >>> ((34 : Int32) &&& 0x3f).toInt64.toUInt64).toInt64).toInt32) &&& (7 : Int32))), s11, s12, s13, s14, s15, s16, s17, s18, s19, s20, s21, s22] [])) _
  refine XS.iload X0.here hx rfl (hb hby at_23) rfl ?_
  show Steps p.tables e below (T0.setTop (mkF m 25 #[s0, s1, s2, .val (.int i3), s4, s5, s6, s7, .val (.long j8), .second, .val (.int ((((j8.toUInt64 >>> ((34 : Int32) &&& 0x3f).toInt64.toUInt64).toInt64).toInt32) &&& (7 : Int32))), s11, s12, s13, s14, s15, s16, s17, s18, s19, s20, s21, s22] [(.int ((((j8.toUInt64 >>> ((34 : Int32) &&& 0x3f).toInt64.toUInt64).toInt64).toInt32) &&& (7 : Int32)))])) _
  refine XS.iconst X0.here hx rfl (hb hby at_25) ?_
  show Steps p.tables e below (T0.setTop (mkF m 26 #[s0, s1, s2, .val (.int i3), s4, s5, s6, s7, .val (.long j8), .second, .val (.int ((((j8.toUInt64 >>> ((34 : Int32) &&& 0x3f).toInt64.toUInt64).toInt64).toInt32) &&& (7 : Int32))), s11, s12, s13, s14, s15, s16, s17, s18, s19, s20, s21, s22] [(.int (5 : Int32)), (.int ((((j8.toUInt64 >>> ((34 : Int32) &&& 0x3f).toInt64.toUInt64).toInt64).toInt32) &&& (7 : Int32)))])) _
  refine XS.icmpYes X0.here hx rfl (pc0 := 26) (pc' := 35) rfl (hb hby at_26) rfl (feq hc26).2 (by decide) (by decide) ?_
  show Steps p.tables e below (T0.setTop (mkF m 35 #[s0, s1, s2, .val (.int i3), s4, s5, s6, s7, .val (.long j8), .second, .val (.int ((((j8.toUInt64 >>> ((34 : Int32) &&& 0x3f).toInt64.toUInt64).toInt64).toInt32) &&& (7 : Int32))), s11, s12, s13, s14, s15, s16, s17, s18, s19, s20, s21, s22] [])) _
  refine XS.iload X0.here hx rfl (hb hby at_35) rfl ?_
  show Steps p.tables e below (T0.setTop (mkF m 37 #[s0, s1, s2, .val (.int i3), s4, s5, s6, s7, .val (.long j8), .second, .val (.int ((((j8.toUInt64 >>> ((34 : Int32) &&& 0x3f).toInt64.toUInt64).toInt64).toInt32) &&& (7 : Int32))), s11, s12, s13, s14, s15, s16, s17, s18, s19, s20, s21, s22] [(.int ((((j8.toUInt64 >>> ((34 : Int32) &&& 0x3f).toInt64.toUInt64).toInt64).toInt32) &&& (7 : Int32)))])) _
  refine XS.bipush X0.here hx rfl (hb hby at_37) ?_
  show Steps p.tables e below (T0.setTop (mkF m 39 #[s0, s1, s2, .val (.int i3), s4, s5, s6, s7, .val (.long j8), .second, .val (.int ((((j8.toUInt64 >>> ((34 : Int32) &&& 0x3f).toInt64.toUInt64).toInt64).toInt32) &&& (7 : Int32))), s11, s12, s13, s14, s15, s16, s17, s18, s19, s20, s21, s22] [(.int (6 : Int32)), (.int ((((j8.toUInt64 >>> ((34 : Int32) &&& 0x3f).toInt64.toUInt64).toInt64).toInt32) &&& (7 : Int32)))])) _
  refine XS.icmpYes X0.here hx rfl (pc0 := 39) (pc' := 49) rfl (hb hby at_39) rfl (feq hc39).2 (by decide) (by decide) ?_
  show Steps p.tables e below (T0.setTop (mkF m 49 #[s0, s1, s2, .val (.int i3), s4, s5, s6, s7, .val (.long j8), .second, .val (.int ((((j8.toUInt64 >>> ((34 : Int32) &&& 0x3f).toInt64.toUInt64).toInt64).toInt32) &&& (7 : Int32))), s11, s12, s13, s14, s15, s16, s17, s18, s19, s20, s21, s22] [])) _
  refine XS.iload X0.here hx rfl (hb hby at_49) rfl ?_
  show Steps p.tables e below (T0.setTop (mkF m 51 #[s0, s1, s2, .val (.int i3), s4, s5, s6, s7, .val (.long j8), .second, .val (.int ((((j8.toUInt64 >>> ((34 : Int32) &&& 0x3f).toInt64.toUInt64).toInt64).toInt32) &&& (7 : Int32))), s11, s12, s13, s14, s15, s16, s17, s18, s19, s20, s21, s22] [(.int ((((j8.toUInt64 >>> ((34 : Int32) &&& 0x3f).toInt64.toUInt64).toInt64).toInt32) &&& (7 : Int32)))])) _
  refine XS.bipush X0.here hx rfl (hb hby at_51) ?_
  show Steps p.tables e below (T0.setTop (mkF m 53 #[s0, s1, s2, .val (.int i3), s4, s5, s6, s7, .val (.long j8), .second, .val (.int ((((j8.toUInt64 >>> ((34 : Int32) &&& 0x3f).toInt64.toUInt64).toInt64).toInt32) &&& (7 : Int32))), s11, s12, s13, s14, s15, s16, s17, s18, s19, s20, s21, s22] [(.int (7 : Int32)), (.int ((((j8.toUInt64 >>> ((34 : Int32) &&& 0x3f).toInt64.toUInt64).toInt64).toInt32) &&& (7 : Int32)))])) _
  refine XS.icmpYes X0.here hx rfl (pc0 := 53) (pc' := 63) rfl (hb hby at_53) rfl (feq hc53).2 (by decide) (by decide) ?_
  show Steps p.tables e below (T0.setTop (mkF m 63 #[s0, s1, s2, .val (.int i3), s4, s5, s6, s7, .val (.long j8), .second, .val (.int ((((j8.toUInt64 >>> ((34 : Int32) &&& 0x3f).toInt64.toUInt64).toInt64).toInt32) &&& (7 : Int32))), s11, s12, s13, s14, s15, s16, s17, s18, s19, s20, s21, s22] [])) _
  refine XS.iloadN X0.here hx rfl (hb hby at_63) rfl ?_
  show Steps p.tables e below (T0.setTop (mkF m 64 #[s0, s1, s2, .val (.int i3), s4, s5, s6, s7, .val (.long j8), .second, .val (.int ((((j8.toUInt64 >>> ((34 : Int32) &&& 0x3f).toInt64.toUInt64).toInt64).toInt32) &&& (7 : Int32))), s11, s12, s13, s14, s15, s16, s17, s18, s19, s20, s21, s22] [(.int i3)])) _
  refine XS.istore X0.here hx rfl (hb hby at_64) rfl (l' := #[s0, s1, s2, .val (.int i3), s4, s5, s6, s7, .val (.long j8), .second, .val (.int ((((j8.toUInt64 >>> ((34 : Int32) &&& 0x3f).toInt64.toUInt64).toInt64).toInt32) &&& (7 : Int32))), .val (.int i3), s12, s13, s14, s15, s16, s17, s18, s19, s20, s21, s22]) (os0_64 hs11) ?_
  exact kt
theorem sgA {p : Program} {l : Launch} {e : Env} {R : Room} {s : State} {m : MethodId} {args : Array Value} {below : List Frame} {meth : Method} {c : Code} {T0 : State} {locs : List Loc} {cells slots : Nat} {Z : State} {a0 : Array Value} {h0 : Heap} (s0 : Slot) (s1 : Slot) (s2 : Slot) (i3 : Int32) (s4 : Slot) (s5 : Slot) (s6 : Slot) (s7 : Slot) (j8 : Int64) (s10 : Slot) (s11 : Slot) (s12 : Slot) (s13 : Slot) (s14 : Slot) (s15 : Slot) (s16 : Slot) (s17 : Slot) (s18 : Slot) (s19 : Slot) (s20 : Slot) (s21 : Slot) (s22 : Slot)
    (X0 : Stand p l e R s m args below meth c T0 locs cells slots) (hx : p.tables.exec = Jvm.exec) (hZ : Z.Warmed39 s.vm) (hw : ∀ d ∈ tables_1, d.before a0 Z = true) (hby : c.code = code) (hml : c.maxLocals = 23) (hown : s.vm.findClass "com/example/cablegram/cablegram/engine/EnvelopeMatchesPinLaw" = some m.cls) (e0 : T0.heap = h0) (hs10 : One s10) (hs11 : One s11) :
    ∃ (T' : State), Stand p l e R s m args below meth c T' locs cells slots ∧ T'.heap = h0 ∧
      ∀ target, Steps p.tables e below (T'.setTop (mkF m 66 #[s0, s1, s2, .val (.int i3), s4, s5, s6, s7, .val (.long j8), .second, .val (.int ((((j8.toUInt64 >>> ((34 : Int32) &&& 0x3f).toInt64.toUInt64).toInt64).toInt32) &&& (7 : Int32))), .val (.int (own_tag ((((j8.toUInt64 >>> ((34 : Int32) &&& 0x3f).toInt64.toUInt64).toInt64).toInt32) &&& (7 : Int32)) i3)), s12, s13, s14, s15, s16, s17, s18, s19, s20, s21, s22] [])) target → Steps p.tables e below (T0.setTop (mkF m 0 #[s0, s1, s2, .val (.int i3), s4, s5, s6, s7, .val (.long j8), .second, s10, s11, s12, s13, s14, s15, s16, s17, s18, s19, s20, s21, s22] [])) target := by
  by_cases h0 : ((((j8.toUInt64 >>> ((34 : Int32) &&& 0x3f).toInt64.toUInt64).toInt64).toInt32) &&& (7 : Int32)) = (4 : Int32)
  · rw [show own_tag ((((j8.toUInt64 >>> ((34 : Int32) &&& 0x3f).toInt64.toUInt64).toInt64).toInt32) &&& (7 : Int32)) i3 = (-1 : Int32) from by unfold own_tag; rw [if_pos h0]]
    exact tn0_0_66_f _ _ _ _ _ _ _ _ _ _ _ _ _ _ _ _ _ _ _ _ _ _ X0 hx hZ hw hby hml hown e0 (by first | exact own_oneU | exact own_oneI | exact own_oneR | assumption) (by first | exact own_oneU | exact own_oneI | exact own_oneR | assumption) h0
  by_cases h1 : ((((j8.toUInt64 >>> ((34 : Int32) &&& 0x3f).toInt64.toUInt64).toInt64).toInt32) &&& (7 : Int32)) = (5 : Int32)
  · rw [show own_tag ((((j8.toUInt64 >>> ((34 : Int32) &&& 0x3f).toInt64.toUInt64).toInt64).toInt32) &&& (7 : Int32)) i3 = (0 : Int32) from by unfold own_tag; rw [if_neg h0, if_pos h1]]
    exact tn0_0_66_tf _ _ _ _ _ _ _ _ _ _ _ _ _ _ _ _ _ _ _ _ _ _ X0 hx hZ hw hby hml hown e0 (by first | exact own_oneU | exact own_oneI | exact own_oneR | assumption) (by first | exact own_oneU | exact own_oneI | exact own_oneR | assumption) h0 h1
  by_cases h2 : ((((j8.toUInt64 >>> ((34 : Int32) &&& 0x3f).toInt64.toUInt64).toInt64).toInt32) &&& (7 : Int32)) = (6 : Int32)
  · rw [show own_tag ((((j8.toUInt64 >>> ((34 : Int32) &&& 0x3f).toInt64.toUInt64).toInt64).toInt32) &&& (7 : Int32)) i3 = (-2 : Int32) from by unfold own_tag; rw [if_neg h0, if_neg h1, if_pos h2]]
    exact tn0_0_66_ttf _ _ _ _ _ _ _ _ _ _ _ _ _ _ _ _ _ _ _ _ _ _ X0 hx hZ hw hby hml hown e0 (by first | exact own_oneU | exact own_oneI | exact own_oneR | assumption) (by first | exact own_oneU | exact own_oneI | exact own_oneR | assumption) h0 h1 h2
  by_cases h3 : ((((j8.toUInt64 >>> ((34 : Int32) &&& 0x3f).toInt64.toUInt64).toInt64).toInt32) &&& (7 : Int32)) = (7 : Int32)
  · rw [show own_tag ((((j8.toUInt64 >>> ((34 : Int32) &&& 0x3f).toInt64.toUInt64).toInt64).toInt32) &&& (7 : Int32)) i3 = (-2147483648 : Int32) from by unfold own_tag; rw [if_neg h0, if_neg h1, if_neg h2, if_pos h3]]
    exact tn0_0_66_tttf _ _ _ _ _ _ _ _ _ _ _ _ _ _ _ _ _ _ _ _ _ _ X0 hx hZ hw hby hml hown e0 (by first | exact own_oneU | exact own_oneI | exact own_oneR | assumption) (by first | exact own_oneU | exact own_oneI | exact own_oneR | assumption) h0 h1 h2 h3
  · rw [show own_tag ((((j8.toUInt64 >>> ((34 : Int32) &&& 0x3f).toInt64.toUInt64).toInt64).toInt32) &&& (7 : Int32)) i3 = i3 from by unfold own_tag; rw [if_neg h0, if_neg h1, if_neg h2, if_neg h3]]
    exact tn0_0_66_tttt _ _ _ _ _ _ _ _ _ _ _ _ _ _ _ _ _ _ _ _ _ _ X0 hx hZ hw hby hml hown e0 (by first | exact own_oneU | exact own_oneI | exact own_oneR | assumption) (by first | exact own_oneU | exact own_oneI | exact own_oneR | assumption) h0 h1 h2 h3
theorem os0_74 {s0 : Slot} {s1 : Slot} {s2 : Slot} {s3 : Slot} {z4 : Value} {s6 : Slot} {s7 : Slot} {s8 : Slot} {s9 : Slot} {s10 : Slot} {s11 : Slot} {s12 : Slot} {s13 : Slot} {s14 : Slot} {s15 : Slot} {s16 : Slot} {s17 : Slot} {s18 : Slot} {s19 : Slot} {s20 : Slot} {s21 : Slot} {s22 : Slot} {v : Int32} (h : One s12) : storeLocals #[s0, s1, s2, s3, .val z4, .second, s6, s7, s8, s9, s10, s11, s12, s13, s14, s15, s16, s17, s18, s19, s20, s21, s22] 12 (.int v) = some #[s0, s1, s2, s3, .val z4, .second, s6, s7, s8, s9, s10, s11, .val (.int v), s13, s14, s15, s16, s17, s18, s19, s20, s21, s22] := by
  rcases h with rfl | ⟨w, rfl, hw⟩
  · rfl
  · cases w <;> first | rfl | (simp [Value.category] at hw)
theorem os0_84 {s0 : Slot} {s1 : Slot} {s2 : Slot} {s3 : Slot} {z4 : Value} {s6 : Slot} {s7 : Slot} {s8 : Slot} {s9 : Slot} {s10 : Slot} {s11 : Slot} {z12 : Value} {s13 : Slot} {s14 : Slot} {s15 : Slot} {s16 : Slot} {s17 : Slot} {s18 : Slot} {s19 : Slot} {s20 : Slot} {s21 : Slot} {s22 : Slot} {v : Int32} (h : One s13) : storeLocals #[s0, s1, s2, s3, .val z4, .second, s6, s7, s8, s9, s10, s11, .val z12, s13, s14, s15, s16, s17, s18, s19, s20, s21, s22] 13 (.int v) = some #[s0, s1, s2, s3, .val z4, .second, s6, s7, s8, s9, s10, s11, .val z12, .val (.int v), s14, s15, s16, s17, s18, s19, s20, s21, s22] := by
  rcases h with rfl | ⟨w, rfl, hw⟩
  · rfl
  · cases w <;> first | rfl | (simp [Value.category] at hw)
set_option maxRecDepth 65536 in
set_option maxHeartbeats 40000000 in
theorem tn0_66_106_f {p : Program} {l : Launch} {e : Env} {R : Room} {s : State} {m : MethodId} {args : Array Value} {below : List Frame} {meth : Method} {c : Code} {T0 : State} {locs : List Loc} {cells slots : Nat} {Z : State} {a0 : Array Value} {h0 : Heap} (s0 : Slot) (s1 : Slot) (s2 : Slot) (s3 : Slot) (j4 : Int64) (s6 : Slot) (s7 : Slot) (s8 : Slot) (s9 : Slot) (s10 : Slot) (s11 : Slot) (s12 : Slot) (s13 : Slot) (s14 : Slot) (s15 : Slot) (s16 : Slot) (s17 : Slot) (s18 : Slot) (s19 : Slot) (s20 : Slot) (s21 : Slot) (s22 : Slot)
    (X0 : Stand p l e R s m args below meth c T0 locs cells slots) (hx : p.tables.exec = Jvm.exec) (hZ : Z.Warmed39 s.vm) (hw : ∀ d ∈ tables_1, d.before a0 Z = true) (hby : c.code = code) (hml : c.maxLocals = 23) (hown : s.vm.findClass "com/example/cablegram/cablegram/engine/EnvelopeMatchesPinLaw" = some m.cls) (e0 : T0.heap = h0) (hs12 : One s12) (hs13 : One s13) (hc79 : ((((j4.toUInt64 >>> ((32 : Int32) &&& 0x3f).toInt64.toUInt64).toInt64).toInt32) &&& (3 : Int32)) = (1 : Int32)) :
    ∃ (T' : State), Stand p l e R s m args below meth c T' locs cells slots ∧ T'.heap = h0 ∧
      ∀ target, Steps p.tables e below (T'.setTop (mkF m 106 #[s0, s1, s2, s3, .val (.long j4), .second, s6, s7, s8, s9, s10, s11, .val (.int ((((j4.toUInt64 >>> ((32 : Int32) &&& 0x3f).toInt64.toUInt64).toInt64).toInt32) &&& (3 : Int32))), .val (.int (-2 : Int32)), s14, s15, s16, s17, s18, s19, s20, s21, s22] [])) target → Steps p.tables e below (T0.setTop (mkF m 66 #[s0, s1, s2, s3, .val (.long j4), .second, s6, s7, s8, s9, s10, s11, s12, s13, s14, s15, s16, s17, s18, s19, s20, s21, s22] [])) target := by
  -- 3. LAWS

  refine ⟨T0, X0, e0, fun target kt => ?_⟩
  -- 4. STEPS
  show Steps p.tables e below (T0.setTop (mkF m 66 #[s0, s1, s2, s3, .val (.long j4), .second, s6, s7, s8, s9, s10, s11, s12, s13, s14, s15, s16, s17, s18, s19, s20, s21, s22] [])) _
  refine XS.lload X0.here hx rfl (hb hby at_66) rfl ?_
  show Steps p.tables e below (T0.setTop (mkF m 68 #[s0, s1, s2, s3, .val (.long j4), .second, s6, s7, s8, s9, s10, s11, s12, s13, s14, s15, s16, s17, s18, s19, s20, s21, s22] [(.long j4)])) _
  refine XS.bipush X0.here hx rfl (hb hby at_68) ?_
  show Steps p.tables e below (T0.setTop (mkF m 70 #[s0, s1, s2, s3, .val (.long j4), .second, s6, s7, s8, s9, s10, s11, s12, s13, s14, s15, s16, s17, s18, s19, s20, s21, s22] [(.int (32 : Int32)), (.long j4)])) _
  refine XS.lushr X0.here hx rfl (hb hby at_70) rfl ?_
  show Steps p.tables e below (T0.setTop (mkF m 71 #[s0, s1, s2, s3, .val (.long j4), .second, s6, s7, s8, s9, s10, s11, s12, s13, s14, s15, s16, s17, s18, s19, s20, s21, s22] [(.long ((j4.toUInt64 >>> ((32 : Int32) &&& 0x3f).toInt64.toUInt64).toInt64))])) _
  refine XS.l2i X0.here hx rfl (hb hby at_71) rfl ?_
  show Steps p.tables e below (T0.setTop (mkF m 72 #[s0, s1, s2, s3, .val (.long j4), .second, s6, s7, s8, s9, s10, s11, s12, s13, s14, s15, s16, s17, s18, s19, s20, s21, s22] [(.int (((j4.toUInt64 >>> ((32 : Int32) &&& 0x3f).toInt64.toUInt64).toInt64).toInt32))])) _
  refine XS.iconst X0.here hx rfl (hb hby at_72) ?_
  show Steps p.tables e below (T0.setTop (mkF m 73 #[s0, s1, s2, s3, .val (.long j4), .second, s6, s7, s8, s9, s10, s11, s12, s13, s14, s15, s16, s17, s18, s19, s20, s21, s22] [(.int (3 : Int32)), (.int (((j4.toUInt64 >>> ((32 : Int32) &&& 0x3f).toInt64.toUInt64).toInt64).toInt32))])) _
  refine XS.iand X0.here hx rfl (hb hby at_73) rfl ?_
  show Steps p.tables e below (T0.setTop (mkF m 74 #[s0, s1, s2, s3, .val (.long j4), .second, s6, s7, s8, s9, s10, s11, s12, s13, s14, s15, s16, s17, s18, s19, s20, s21, s22] [(.int ((((j4.toUInt64 >>> ((32 : Int32) &&& 0x3f).toInt64.toUInt64).toInt64).toInt32) &&& (3 : Int32)))])) _
  refine XS.istore X0.here hx rfl (hb hby at_74) rfl (l' := #[s0, s1, s2, s3, .val (.long j4), .second, s6, s7, s8, s9, s10, s11, .val (.int ((((j4.toUInt64 >>> ((32 : Int32) &&& 0x3f).toInt64.toUInt64).toInt64).toInt32) &&& (3 : Int32))), s13, s14, s15, s16, s17, s18, s19, s20, s21, s22]) (os0_74 hs12) ?_
  show Steps p.tables e below (T0.setTop (mkF m 76 #[s0, s1, s2, s3, .val (.long j4), .second, s6, s7, s8, s9, s10, s11, .val (.int ((((j4.toUInt64 >>> ((32 : Int32) &&& 0x3f).toInt64.toUInt64).toInt64).toInt32) &&& (3 : Int32))), s13, s14, s15, s16, s17, s18, s19, s20, s21, s22] [])) _
  refine XS.iload X0.here hx rfl (hb hby at_76) rfl ?_
  show Steps p.tables e below (T0.setTop (mkF m 78 #[s0, s1, s2, s3, .val (.long j4), .second, s6, s7, s8, s9, s10, s11, .val (.int ((((j4.toUInt64 >>> ((32 : Int32) &&& 0x3f).toInt64.toUInt64).toInt64).toInt32) &&& (3 : Int32))), s13, s14, s15, s16, s17, s18, s19, s20, s21, s22] [(.int ((((j4.toUInt64 >>> ((32 : Int32) &&& 0x3f).toInt64.toUInt64).toInt64).toInt32) &&& (3 : Int32)))])) _
  refine XS.iconst X0.here hx rfl (hb hby at_78) ?_
  show Steps p.tables e below (T0.setTop (mkF m 79 #[s0, s1, s2, s3, .val (.long j4), .second, s6, s7, s8, s9, s10, s11, .val (.int ((((j4.toUInt64 >>> ((32 : Int32) &&& 0x3f).toInt64.toUInt64).toInt64).toInt32) &&& (3 : Int32))), s13, s14, s15, s16, s17, s18, s19, s20, s21, s22] [(.int (1 : Int32)), (.int ((((j4.toUInt64 >>> ((32 : Int32) &&& 0x3f).toInt64.toUInt64).toInt64).toInt32) &&& (3 : Int32)))])) _
  refine XS.icmpNo X0.here hx rfl (hb hby at_79) rfl (teq hc79).2 ?_
  show Steps p.tables e below (T0.setTop (mkF m 82 #[s0, s1, s2, s3, .val (.long j4), .second, s6, s7, s8, s9, s10, s11, .val (.int ((((j4.toUInt64 >>> ((32 : Int32) &&& 0x3f).toInt64.toUInt64).toInt64).toInt32) &&& (3 : Int32))), s13, s14, s15, s16, s17, s18, s19, s20, s21, s22] [])) _
  refine XS.bipush X0.here hx rfl (hb hby at_82) ?_
  show Steps p.tables e below (T0.setTop (mkF m 84 #[s0, s1, s2, s3, .val (.long j4), .second, s6, s7, s8, s9, s10, s11, .val (.int ((((j4.toUInt64 >>> ((32 : Int32) &&& 0x3f).toInt64.toUInt64).toInt64).toInt32) &&& (3 : Int32))), s13, s14, s15, s16, s17, s18, s19, s20, s21, s22] [(.int (-2 : Int32))])) _
  refine XS.istore X0.here hx rfl (hb hby at_84) rfl (l' := #[s0, s1, s2, s3, .val (.long j4), .second, s6, s7, s8, s9, s10, s11, .val (.int ((((j4.toUInt64 >>> ((32 : Int32) &&& 0x3f).toInt64.toUInt64).toInt64).toInt32) &&& (3 : Int32))), .val (.int (-2 : Int32)), s14, s15, s16, s17, s18, s19, s20, s21, s22]) (os0_84 hs13) ?_
  show Steps p.tables e below (T0.setTop (mkF m 86 #[s0, s1, s2, s3, .val (.long j4), .second, s6, s7, s8, s9, s10, s11, .val (.int ((((j4.toUInt64 >>> ((32 : Int32) &&& 0x3f).toInt64.toUInt64).toInt64).toInt32) &&& (3 : Int32))), .val (.int (-2 : Int32)), s14, s15, s16, s17, s18, s19, s20, s21, s22] [])) _
  refine XS.goto X0.here hx rfl (pc0 := 86) (pc' := 106) rfl (hb hby at_86) (by decide) (by decide) ?_
  exact kt
theorem os0_74_tf {z0 : Value} {s1 : Slot} {s2 : Slot} {s3 : Slot} {z4 : Value} {s6 : Slot} {s7 : Slot} {s8 : Slot} {s9 : Slot} {s10 : Slot} {s11 : Slot} {s12 : Slot} {s13 : Slot} {s14 : Slot} {s15 : Slot} {s16 : Slot} {s17 : Slot} {s18 : Slot} {s19 : Slot} {s20 : Slot} {s21 : Slot} {s22 : Slot} {v : Int32} (h : One s12) : storeLocals #[.val z0, s1, s2, s3, .val z4, .second, s6, s7, s8, s9, s10, s11, s12, s13, s14, s15, s16, s17, s18, s19, s20, s21, s22] 12 (.int v) = some #[.val z0, s1, s2, s3, .val z4, .second, s6, s7, s8, s9, s10, s11, .val (.int v), s13, s14, s15, s16, s17, s18, s19, s20, s21, s22] := by
  rcases h with rfl | ⟨w, rfl, hw⟩
  · rfl
  · cases w <;> first | rfl | (simp [Value.category] at hw)
theorem os0_96 {z0 : Value} {s1 : Slot} {s2 : Slot} {s3 : Slot} {z4 : Value} {s6 : Slot} {s7 : Slot} {s8 : Slot} {s9 : Slot} {s10 : Slot} {s11 : Slot} {z12 : Value} {s13 : Slot} {s14 : Slot} {s15 : Slot} {s16 : Slot} {s17 : Slot} {s18 : Slot} {s19 : Slot} {s20 : Slot} {s21 : Slot} {s22 : Slot} {v : Int32} (h : One s13) : storeLocals #[.val z0, s1, s2, s3, .val z4, .second, s6, s7, s8, s9, s10, s11, .val z12, s13, s14, s15, s16, s17, s18, s19, s20, s21, s22] 13 (.int v) = some #[.val z0, s1, s2, s3, .val z4, .second, s6, s7, s8, s9, s10, s11, .val z12, .val (.int v), s14, s15, s16, s17, s18, s19, s20, s21, s22] := by
  rcases h with rfl | ⟨w, rfl, hw⟩
  · rfl
  · cases w <;> first | rfl | (simp [Value.category] at hw)
set_option maxRecDepth 65536 in
set_option maxHeartbeats 40000000 in
theorem tn0_66_106_tf {p : Program} {l : Launch} {e : Env} {R : Room} {s : State} {m : MethodId} {args : Array Value} {below : List Frame} {meth : Method} {c : Code} {T0 : State} {locs : List Loc} {cells slots : Nat} {Z : State} {a0 : Array Value} {h0 : Heap} (i0 : Int32) (s1 : Slot) (s2 : Slot) (s3 : Slot) (j4 : Int64) (s6 : Slot) (s7 : Slot) (s8 : Slot) (s9 : Slot) (s10 : Slot) (s11 : Slot) (s12 : Slot) (s13 : Slot) (s14 : Slot) (s15 : Slot) (s16 : Slot) (s17 : Slot) (s18 : Slot) (s19 : Slot) (s20 : Slot) (s21 : Slot) (s22 : Slot)
    (X0 : Stand p l e R s m args below meth c T0 locs cells slots) (hx : p.tables.exec = Jvm.exec) (hZ : Z.Warmed39 s.vm) (hw : ∀ d ∈ tables_1, d.before a0 Z = true) (hby : c.code = code) (hml : c.maxLocals = 23) (hown : s.vm.findClass "com/example/cablegram/cablegram/engine/EnvelopeMatchesPinLaw" = some m.cls) (e0 : T0.heap = h0) (hs12 : One s12) (hs13 : One s13) (hc79 : ¬ (((((j4.toUInt64 >>> ((32 : Int32) &&& 0x3f).toInt64.toUInt64).toInt64).toInt32) &&& (3 : Int32)) = (1 : Int32))) (hc92 : ((((j4.toUInt64 >>> ((32 : Int32) &&& 0x3f).toInt64.toUInt64).toInt64).toInt32) &&& (3 : Int32)) = (2 : Int32)) :
    ∃ (T' : State), Stand p l e R s m args below meth c T' locs cells slots ∧ T'.heap = h0 ∧
      ∀ target, Steps p.tables e below (T'.setTop (mkF m 106 #[.val (.int i0), s1, s2, s3, .val (.long j4), .second, s6, s7, s8, s9, s10, s11, .val (.int ((((j4.toUInt64 >>> ((32 : Int32) &&& 0x3f).toInt64.toUInt64).toInt64).toInt32) &&& (3 : Int32))), .val (.int i0), s14, s15, s16, s17, s18, s19, s20, s21, s22] [])) target → Steps p.tables e below (T0.setTop (mkF m 66 #[.val (.int i0), s1, s2, s3, .val (.long j4), .second, s6, s7, s8, s9, s10, s11, s12, s13, s14, s15, s16, s17, s18, s19, s20, s21, s22] [])) target := by
  -- 3. LAWS

  refine ⟨T0, X0, e0, fun target kt => ?_⟩
  -- 4. STEPS
  show Steps p.tables e below (T0.setTop (mkF m 66 #[.val (.int i0), s1, s2, s3, .val (.long j4), .second, s6, s7, s8, s9, s10, s11, s12, s13, s14, s15, s16, s17, s18, s19, s20, s21, s22] [])) _
  refine XS.lload X0.here hx rfl (hb hby at_66) rfl ?_
  show Steps p.tables e below (T0.setTop (mkF m 68 #[.val (.int i0), s1, s2, s3, .val (.long j4), .second, s6, s7, s8, s9, s10, s11, s12, s13, s14, s15, s16, s17, s18, s19, s20, s21, s22] [(.long j4)])) _
  refine XS.bipush X0.here hx rfl (hb hby at_68) ?_
  show Steps p.tables e below (T0.setTop (mkF m 70 #[.val (.int i0), s1, s2, s3, .val (.long j4), .second, s6, s7, s8, s9, s10, s11, s12, s13, s14, s15, s16, s17, s18, s19, s20, s21, s22] [(.int (32 : Int32)), (.long j4)])) _
  refine XS.lushr X0.here hx rfl (hb hby at_70) rfl ?_
  show Steps p.tables e below (T0.setTop (mkF m 71 #[.val (.int i0), s1, s2, s3, .val (.long j4), .second, s6, s7, s8, s9, s10, s11, s12, s13, s14, s15, s16, s17, s18, s19, s20, s21, s22] [(.long ((j4.toUInt64 >>> ((32 : Int32) &&& 0x3f).toInt64.toUInt64).toInt64))])) _
  refine XS.l2i X0.here hx rfl (hb hby at_71) rfl ?_
  show Steps p.tables e below (T0.setTop (mkF m 72 #[.val (.int i0), s1, s2, s3, .val (.long j4), .second, s6, s7, s8, s9, s10, s11, s12, s13, s14, s15, s16, s17, s18, s19, s20, s21, s22] [(.int (((j4.toUInt64 >>> ((32 : Int32) &&& 0x3f).toInt64.toUInt64).toInt64).toInt32))])) _
  refine XS.iconst X0.here hx rfl (hb hby at_72) ?_
  show Steps p.tables e below (T0.setTop (mkF m 73 #[.val (.int i0), s1, s2, s3, .val (.long j4), .second, s6, s7, s8, s9, s10, s11, s12, s13, s14, s15, s16, s17, s18, s19, s20, s21, s22] [(.int (3 : Int32)), (.int (((j4.toUInt64 >>> ((32 : Int32) &&& 0x3f).toInt64.toUInt64).toInt64).toInt32))])) _
  refine XS.iand X0.here hx rfl (hb hby at_73) rfl ?_
  show Steps p.tables e below (T0.setTop (mkF m 74 #[.val (.int i0), s1, s2, s3, .val (.long j4), .second, s6, s7, s8, s9, s10, s11, s12, s13, s14, s15, s16, s17, s18, s19, s20, s21, s22] [(.int ((((j4.toUInt64 >>> ((32 : Int32) &&& 0x3f).toInt64.toUInt64).toInt64).toInt32) &&& (3 : Int32)))])) _
  refine XS.istore X0.here hx rfl (hb hby at_74) rfl (l' := #[.val (.int i0), s1, s2, s3, .val (.long j4), .second, s6, s7, s8, s9, s10, s11, .val (.int ((((j4.toUInt64 >>> ((32 : Int32) &&& 0x3f).toInt64.toUInt64).toInt64).toInt32) &&& (3 : Int32))), s13, s14, s15, s16, s17, s18, s19, s20, s21, s22]) (os0_74_tf hs12) ?_
  show Steps p.tables e below (T0.setTop (mkF m 76 #[.val (.int i0), s1, s2, s3, .val (.long j4), .second, s6, s7, s8, s9, s10, s11, .val (.int ((((j4.toUInt64 >>> ((32 : Int32) &&& 0x3f).toInt64.toUInt64).toInt64).toInt32) &&& (3 : Int32))), s13, s14, s15, s16, s17, s18, s19, s20, s21, s22] [])) _
  refine XS.iload X0.here hx rfl (hb hby at_76) rfl ?_
  show Steps p.tables e below (T0.setTop (mkF m 78 #[.val (.int i0), s1, s2, s3, .val (.long j4), .second, s6, s7, s8, s9, s10, s11, .val (.int ((((j4.toUInt64 >>> ((32 : Int32) &&& 0x3f).toInt64.toUInt64).toInt64).toInt32) &&& (3 : Int32))), s13, s14, s15, s16, s17, s18, s19, s20, s21, s22] [(.int ((((j4.toUInt64 >>> ((32 : Int32) &&& 0x3f).toInt64.toUInt64).toInt64).toInt32) &&& (3 : Int32)))])) _
  refine XS.iconst X0.here hx rfl (hb hby at_78) ?_
  show Steps p.tables e below (T0.setTop (mkF m 79 #[.val (.int i0), s1, s2, s3, .val (.long j4), .second, s6, s7, s8, s9, s10, s11, .val (.int ((((j4.toUInt64 >>> ((32 : Int32) &&& 0x3f).toInt64.toUInt64).toInt64).toInt32) &&& (3 : Int32))), s13, s14, s15, s16, s17, s18, s19, s20, s21, s22] [(.int (1 : Int32)), (.int ((((j4.toUInt64 >>> ((32 : Int32) &&& 0x3f).toInt64.toUInt64).toInt64).toInt32) &&& (3 : Int32)))])) _
  refine XS.icmpYes X0.here hx rfl (pc0 := 79) (pc' := 89) rfl (hb hby at_79) rfl (feq hc79).2 (by decide) (by decide) ?_
  show Steps p.tables e below (T0.setTop (mkF m 89 #[.val (.int i0), s1, s2, s3, .val (.long j4), .second, s6, s7, s8, s9, s10, s11, .val (.int ((((j4.toUInt64 >>> ((32 : Int32) &&& 0x3f).toInt64.toUInt64).toInt64).toInt32) &&& (3 : Int32))), s13, s14, s15, s16, s17, s18, s19, s20, s21, s22] [])) _
  refine XS.iload X0.here hx rfl (hb hby at_89) rfl ?_
  show Steps p.tables e below (T0.setTop (mkF m 91 #[.val (.int i0), s1, s2, s3, .val (.long j4), .second, s6, s7, s8, s9, s10, s11, .val (.int ((((j4.toUInt64 >>> ((32 : Int32) &&& 0x3f).toInt64.toUInt64).toInt64).toInt32) &&& (3 : Int32))), s13, s14, s15, s16, s17, s18, s19, s20, s21, s22] [(.int ((((j4.toUInt64 >>> ((32 : Int32) &&& 0x3f).toInt64.toUInt64).toInt64).toInt32) &&& (3 : Int32)))])) _
  refine XS.iconst X0.here hx rfl (hb hby at_91) ?_
  show Steps p.tables e below (T0.setTop (mkF m 92 #[.val (.int i0), s1, s2, s3, .val (.long j4), .second, s6, s7, s8, s9, s10, s11, .val (.int ((((j4.toUInt64 >>> ((32 : Int32) &&& 0x3f).toInt64.toUInt64).toInt64).toInt32) &&& (3 : Int32))), s13, s14, s15, s16, s17, s18, s19, s20, s21, s22] [(.int (2 : Int32)), (.int ((((j4.toUInt64 >>> ((32 : Int32) &&& 0x3f).toInt64.toUInt64).toInt64).toInt32) &&& (3 : Int32)))])) _
  refine XS.icmpNo X0.here hx rfl (hb hby at_92) rfl (teq hc92).2 ?_
  show Steps p.tables e below (T0.setTop (mkF m 95 #[.val (.int i0), s1, s2, s3, .val (.long j4), .second, s6, s7, s8, s9, s10, s11, .val (.int ((((j4.toUInt64 >>> ((32 : Int32) &&& 0x3f).toInt64.toUInt64).toInt64).toInt32) &&& (3 : Int32))), s13, s14, s15, s16, s17, s18, s19, s20, s21, s22] [])) _
  refine XS.iloadN X0.here hx rfl (hb hby at_95) rfl ?_
  show Steps p.tables e below (T0.setTop (mkF m 96 #[.val (.int i0), s1, s2, s3, .val (.long j4), .second, s6, s7, s8, s9, s10, s11, .val (.int ((((j4.toUInt64 >>> ((32 : Int32) &&& 0x3f).toInt64.toUInt64).toInt64).toInt32) &&& (3 : Int32))), s13, s14, s15, s16, s17, s18, s19, s20, s21, s22] [(.int i0)])) _
  refine XS.istore X0.here hx rfl (hb hby at_96) rfl (l' := #[.val (.int i0), s1, s2, s3, .val (.long j4), .second, s6, s7, s8, s9, s10, s11, .val (.int ((((j4.toUInt64 >>> ((32 : Int32) &&& 0x3f).toInt64.toUInt64).toInt64).toInt32) &&& (3 : Int32))), .val (.int i0), s14, s15, s16, s17, s18, s19, s20, s21, s22]) (os0_96 hs13) ?_
  show Steps p.tables e below (T0.setTop (mkF m 98 #[.val (.int i0), s1, s2, s3, .val (.long j4), .second, s6, s7, s8, s9, s10, s11, .val (.int ((((j4.toUInt64 >>> ((32 : Int32) &&& 0x3f).toInt64.toUInt64).toInt64).toInt32) &&& (3 : Int32))), .val (.int i0), s14, s15, s16, s17, s18, s19, s20, s21, s22] [])) _
  refine XS.goto X0.here hx rfl (pc0 := 98) (pc' := 106) rfl (hb hby at_98) (by decide) (by decide) ?_
  exact kt
theorem os0_104 {s0 : Slot} {s1 : Slot} {s2 : Slot} {s3 : Slot} {z4 : Value} {s6 : Slot} {s7 : Slot} {s8 : Slot} {s9 : Slot} {s10 : Slot} {s11 : Slot} {z12 : Value} {s13 : Slot} {s14 : Slot} {s15 : Slot} {s16 : Slot} {s17 : Slot} {s18 : Slot} {s19 : Slot} {s20 : Slot} {s21 : Slot} {s22 : Slot} {v : Int32} (h : One s13) : storeLocals #[s0, s1, s2, s3, .val z4, .second, s6, s7, s8, s9, s10, s11, .val z12, s13, s14, s15, s16, s17, s18, s19, s20, s21, s22] 13 (.int v) = some #[s0, s1, s2, s3, .val z4, .second, s6, s7, s8, s9, s10, s11, .val z12, .val (.int v), s14, s15, s16, s17, s18, s19, s20, s21, s22] := by
  rcases h with rfl | ⟨w, rfl, hw⟩
  · rfl
  · cases w <;> first | rfl | (simp [Value.category] at hw)
set_option maxRecDepth 65536 in
set_option maxHeartbeats 40000000 in
theorem tn0_66_106_tt {p : Program} {l : Launch} {e : Env} {R : Room} {s : State} {m : MethodId} {args : Array Value} {below : List Frame} {meth : Method} {c : Code} {T0 : State} {locs : List Loc} {cells slots : Nat} {Z : State} {a0 : Array Value} {h0 : Heap} (s0 : Slot) (s1 : Slot) (s2 : Slot) (s3 : Slot) (j4 : Int64) (s6 : Slot) (s7 : Slot) (s8 : Slot) (s9 : Slot) (s10 : Slot) (s11 : Slot) (s12 : Slot) (s13 : Slot) (s14 : Slot) (s15 : Slot) (s16 : Slot) (s17 : Slot) (s18 : Slot) (s19 : Slot) (s20 : Slot) (s21 : Slot) (s22 : Slot)
    (X0 : Stand p l e R s m args below meth c T0 locs cells slots) (hx : p.tables.exec = Jvm.exec) (hZ : Z.Warmed39 s.vm) (hw : ∀ d ∈ tables_1, d.before a0 Z = true) (hby : c.code = code) (hml : c.maxLocals = 23) (hown : s.vm.findClass "com/example/cablegram/cablegram/engine/EnvelopeMatchesPinLaw" = some m.cls) (e0 : T0.heap = h0) (hs12 : One s12) (hs13 : One s13) (hc79 : ¬ (((((j4.toUInt64 >>> ((32 : Int32) &&& 0x3f).toInt64.toUInt64).toInt64).toInt32) &&& (3 : Int32)) = (1 : Int32))) (hc92 : ¬ (((((j4.toUInt64 >>> ((32 : Int32) &&& 0x3f).toInt64.toUInt64).toInt64).toInt32) &&& (3 : Int32)) = (2 : Int32))) :
    ∃ (T' : State), Stand p l e R s m args below meth c T' locs cells slots ∧ T'.heap = h0 ∧
      ∀ target, Steps p.tables e below (T'.setTop (mkF m 106 #[s0, s1, s2, s3, .val (.long j4), .second, s6, s7, s8, s9, s10, s11, .val (.int ((((j4.toUInt64 >>> ((32 : Int32) &&& 0x3f).toInt64.toUInt64).toInt64).toInt32) &&& (3 : Int32))), .val (.int (j4.toInt32)), s14, s15, s16, s17, s18, s19, s20, s21, s22] [])) target → Steps p.tables e below (T0.setTop (mkF m 66 #[s0, s1, s2, s3, .val (.long j4), .second, s6, s7, s8, s9, s10, s11, s12, s13, s14, s15, s16, s17, s18, s19, s20, s21, s22] [])) target := by
  -- 3. LAWS

  refine ⟨T0, X0, e0, fun target kt => ?_⟩
  -- 4. STEPS
  show Steps p.tables e below (T0.setTop (mkF m 66 #[s0, s1, s2, s3, .val (.long j4), .second, s6, s7, s8, s9, s10, s11, s12, s13, s14, s15, s16, s17, s18, s19, s20, s21, s22] [])) _
  refine XS.lload X0.here hx rfl (hb hby at_66) rfl ?_
  show Steps p.tables e below (T0.setTop (mkF m 68 #[s0, s1, s2, s3, .val (.long j4), .second, s6, s7, s8, s9, s10, s11, s12, s13, s14, s15, s16, s17, s18, s19, s20, s21, s22] [(.long j4)])) _
  refine XS.bipush X0.here hx rfl (hb hby at_68) ?_
  show Steps p.tables e below (T0.setTop (mkF m 70 #[s0, s1, s2, s3, .val (.long j4), .second, s6, s7, s8, s9, s10, s11, s12, s13, s14, s15, s16, s17, s18, s19, s20, s21, s22] [(.int (32 : Int32)), (.long j4)])) _
  refine XS.lushr X0.here hx rfl (hb hby at_70) rfl ?_
  show Steps p.tables e below (T0.setTop (mkF m 71 #[s0, s1, s2, s3, .val (.long j4), .second, s6, s7, s8, s9, s10, s11, s12, s13, s14, s15, s16, s17, s18, s19, s20, s21, s22] [(.long ((j4.toUInt64 >>> ((32 : Int32) &&& 0x3f).toInt64.toUInt64).toInt64))])) _
  refine XS.l2i X0.here hx rfl (hb hby at_71) rfl ?_
  show Steps p.tables e below (T0.setTop (mkF m 72 #[s0, s1, s2, s3, .val (.long j4), .second, s6, s7, s8, s9, s10, s11, s12, s13, s14, s15, s16, s17, s18, s19, s20, s21, s22] [(.int (((j4.toUInt64 >>> ((32 : Int32) &&& 0x3f).toInt64.toUInt64).toInt64).toInt32))])) _
  refine XS.iconst X0.here hx rfl (hb hby at_72) ?_
  show Steps p.tables e below (T0.setTop (mkF m 73 #[s0, s1, s2, s3, .val (.long j4), .second, s6, s7, s8, s9, s10, s11, s12, s13, s14, s15, s16, s17, s18, s19, s20, s21, s22] [(.int (3 : Int32)), (.int (((j4.toUInt64 >>> ((32 : Int32) &&& 0x3f).toInt64.toUInt64).toInt64).toInt32))])) _
  refine XS.iand X0.here hx rfl (hb hby at_73) rfl ?_
  show Steps p.tables e below (T0.setTop (mkF m 74 #[s0, s1, s2, s3, .val (.long j4), .second, s6, s7, s8, s9, s10, s11, s12, s13, s14, s15, s16, s17, s18, s19, s20, s21, s22] [(.int ((((j4.toUInt64 >>> ((32 : Int32) &&& 0x3f).toInt64.toUInt64).toInt64).toInt32) &&& (3 : Int32)))])) _
  refine XS.istore X0.here hx rfl (hb hby at_74) rfl (l' := #[s0, s1, s2, s3, .val (.long j4), .second, s6, s7, s8, s9, s10, s11, .val (.int ((((j4.toUInt64 >>> ((32 : Int32) &&& 0x3f).toInt64.toUInt64).toInt64).toInt32) &&& (3 : Int32))), s13, s14, s15, s16, s17, s18, s19, s20, s21, s22]) (os0_74 hs12) ?_
  show Steps p.tables e below (T0.setTop (mkF m 76 #[s0, s1, s2, s3, .val (.long j4), .second, s6, s7, s8, s9, s10, s11, .val (.int ((((j4.toUInt64 >>> ((32 : Int32) &&& 0x3f).toInt64.toUInt64).toInt64).toInt32) &&& (3 : Int32))), s13, s14, s15, s16, s17, s18, s19, s20, s21, s22] [])) _
  refine XS.iload X0.here hx rfl (hb hby at_76) rfl ?_
  show Steps p.tables e below (T0.setTop (mkF m 78 #[s0, s1, s2, s3, .val (.long j4), .second, s6, s7, s8, s9, s10, s11, .val (.int ((((j4.toUInt64 >>> ((32 : Int32) &&& 0x3f).toInt64.toUInt64).toInt64).toInt32) &&& (3 : Int32))), s13, s14, s15, s16, s17, s18, s19, s20, s21, s22] [(.int ((((j4.toUInt64 >>> ((32 : Int32) &&& 0x3f).toInt64.toUInt64).toInt64).toInt32) &&& (3 : Int32)))])) _
  refine XS.iconst X0.here hx rfl (hb hby at_78) ?_
  show Steps p.tables e below (T0.setTop (mkF m 79 #[s0, s1, s2, s3, .val (.long j4), .second, s6, s7, s8, s9, s10, s11, .val (.int ((((j4.toUInt64 >>> ((32 : Int32) &&& 0x3f).toInt64.toUInt64).toInt64).toInt32) &&& (3 : Int32))), s13, s14, s15, s16, s17, s18, s19, s20, s21, s22] [(.int (1 : Int32)), (.int ((((j4.toUInt64 >>> ((32 : Int32) &&& 0x3f).toInt64.toUInt64).toInt64).toInt32) &&& (3 : Int32)))])) _
  refine XS.icmpYes X0.here hx rfl (pc0 := 79) (pc' := 89) rfl (hb hby at_79) rfl (feq hc79).2 (by decide) (by decide) ?_
  show Steps p.tables e below (T0.setTop (mkF m 89 #[s0, s1, s2, s3, .val (.long j4), .second, s6, s7, s8, s9, s10, s11, .val (.int ((((j4.toUInt64 >>> ((32 : Int32) &&& 0x3f).toInt64.toUInt64).toInt64).toInt32) &&& (3 : Int32))), s13, s14, s15, s16, s17, s18, s19, s20, s21, s22] [])) _
  refine XS.iload X0.here hx rfl (hb hby at_89) rfl ?_
  show Steps p.tables e below (T0.setTop (mkF m 91 #[s0, s1, s2, s3, .val (.long j4), .second, s6, s7, s8, s9, s10, s11, .val (.int ((((j4.toUInt64 >>> ((32 : Int32) &&& 0x3f).toInt64.toUInt64).toInt64).toInt32) &&& (3 : Int32))), s13, s14, s15, s16, s17, s18, s19, s20, s21, s22] [(.int ((((j4.toUInt64 >>> ((32 : Int32) &&& 0x3f).toInt64.toUInt64).toInt64).toInt32) &&& (3 : Int32)))])) _
  refine XS.iconst X0.here hx rfl (hb hby at_91) ?_
  show Steps p.tables e below (T0.setTop (mkF m 92 #[s0, s1, s2, s3, .val (.long j4), .second, s6, s7, s8, s9, s10, s11, .val (.int ((((j4.toUInt64 >>> ((32 : Int32) &&& 0x3f).toInt64.toUInt64).toInt64).toInt32) &&& (3 : Int32))), s13, s14, s15, s16, s17, s18, s19, s20, s21, s22] [(.int (2 : Int32)), (.int ((((j4.toUInt64 >>> ((32 : Int32) &&& 0x3f).toInt64.toUInt64).toInt64).toInt32) &&& (3 : Int32)))])) _
  refine XS.icmpYes X0.here hx rfl (pc0 := 92) (pc' := 101) rfl (hb hby at_92) rfl (feq hc92).2 (by decide) (by decide) ?_
  show Steps p.tables e below (T0.setTop (mkF m 101 #[s0, s1, s2, s3, .val (.long j4), .second, s6, s7, s8, s9, s10, s11, .val (.int ((((j4.toUInt64 >>> ((32 : Int32) &&& 0x3f).toInt64.toUInt64).toInt64).toInt32) &&& (3 : Int32))), s13, s14, s15, s16, s17, s18, s19, s20, s21, s22] [])) _
  refine XS.lload X0.here hx rfl (hb hby at_101) rfl ?_
  show Steps p.tables e below (T0.setTop (mkF m 103 #[s0, s1, s2, s3, .val (.long j4), .second, s6, s7, s8, s9, s10, s11, .val (.int ((((j4.toUInt64 >>> ((32 : Int32) &&& 0x3f).toInt64.toUInt64).toInt64).toInt32) &&& (3 : Int32))), s13, s14, s15, s16, s17, s18, s19, s20, s21, s22] [(.long j4)])) _
  refine XS.l2i X0.here hx rfl (hb hby at_103) rfl ?_
  show Steps p.tables e below (T0.setTop (mkF m 104 #[s0, s1, s2, s3, .val (.long j4), .second, s6, s7, s8, s9, s10, s11, .val (.int ((((j4.toUInt64 >>> ((32 : Int32) &&& 0x3f).toInt64.toUInt64).toInt64).toInt32) &&& (3 : Int32))), s13, s14, s15, s16, s17, s18, s19, s20, s21, s22] [(.int (j4.toInt32))])) _
  refine XS.istore X0.here hx rfl (hb hby at_104) rfl (l' := #[s0, s1, s2, s3, .val (.long j4), .second, s6, s7, s8, s9, s10, s11, .val (.int ((((j4.toUInt64 >>> ((32 : Int32) &&& 0x3f).toInt64.toUInt64).toInt64).toInt32) &&& (3 : Int32))), .val (.int (j4.toInt32)), s14, s15, s16, s17, s18, s19, s20, s21, s22]) (os0_104 hs13) ?_
  exact kt
theorem sgB {p : Program} {l : Launch} {e : Env} {R : Room} {s : State} {m : MethodId} {args : Array Value} {below : List Frame} {meth : Method} {c : Code} {T0 : State} {locs : List Loc} {cells slots : Nat} {Z : State} {a0 : Array Value} {h0 : Heap} (i0 : Int32) (s1 : Slot) (s2 : Slot) (s3 : Slot) (j4 : Int64) (s6 : Slot) (s7 : Slot) (s8 : Slot) (s9 : Slot) (s10 : Slot) (s11 : Slot) (s12 : Slot) (s13 : Slot) (s14 : Slot) (s15 : Slot) (s16 : Slot) (s17 : Slot) (s18 : Slot) (s19 : Slot) (s20 : Slot) (s21 : Slot) (s22 : Slot)
    (X0 : Stand p l e R s m args below meth c T0 locs cells slots) (hx : p.tables.exec = Jvm.exec) (hZ : Z.Warmed39 s.vm) (hw : ∀ d ∈ tables_1, d.before a0 Z = true) (hby : c.code = code) (hml : c.maxLocals = 23) (hown : s.vm.findClass "com/example/cablegram/cablegram/engine/EnvelopeMatchesPinLaw" = some m.cls) (e0 : T0.heap = h0) (hs12 : One s12) (hs13 : One s13) :
    ∃ (T' : State), Stand p l e R s m args below meth c T' locs cells slots ∧ T'.heap = h0 ∧
      ∀ target, Steps p.tables e below (T'.setTop (mkF m 106 #[.val (.int i0), s1, s2, s3, .val (.long j4), .second, s6, s7, s8, s9, s10, s11, .val (.int ((((j4.toUInt64 >>> ((32 : Int32) &&& 0x3f).toInt64.toUInt64).toInt64).toInt32) &&& (3 : Int32))), .val (.int (own_from ((((j4.toUInt64 >>> ((32 : Int32) &&& 0x3f).toInt64.toUInt64).toInt64).toInt32) &&& (3 : Int32)) i0 (j4.toInt32))), s14, s15, s16, s17, s18, s19, s20, s21, s22] [])) target → Steps p.tables e below (T0.setTop (mkF m 66 #[.val (.int i0), s1, s2, s3, .val (.long j4), .second, s6, s7, s8, s9, s10, s11, s12, s13, s14, s15, s16, s17, s18, s19, s20, s21, s22] [])) target := by
  by_cases h0 : ((((j4.toUInt64 >>> ((32 : Int32) &&& 0x3f).toInt64.toUInt64).toInt64).toInt32) &&& (3 : Int32)) = (1 : Int32)
  · rw [show own_from ((((j4.toUInt64 >>> ((32 : Int32) &&& 0x3f).toInt64.toUInt64).toInt64).toInt32) &&& (3 : Int32)) i0 (j4.toInt32) = (-2 : Int32) from by unfold own_from; rw [if_pos h0]]
    exact tn0_66_106_f _ _ _ _ _ _ _ _ _ _ _ _ _ _ _ _ _ _ _ _ _ _ X0 hx hZ hw hby hml hown e0 (by first | exact own_oneU | exact own_oneI | exact own_oneR | assumption) (by first | exact own_oneU | exact own_oneI | exact own_oneR | assumption) h0
  by_cases h1 : ((((j4.toUInt64 >>> ((32 : Int32) &&& 0x3f).toInt64.toUInt64).toInt64).toInt32) &&& (3 : Int32)) = (2 : Int32)
  · rw [show own_from ((((j4.toUInt64 >>> ((32 : Int32) &&& 0x3f).toInt64.toUInt64).toInt64).toInt32) &&& (3 : Int32)) i0 (j4.toInt32) = i0 from by unfold own_from; rw [if_neg h0, if_pos h1]]
    exact tn0_66_106_tf _ _ _ _ _ _ _ _ _ _ _ _ _ _ _ _ _ _ _ _ _ _ X0 hx hZ hw hby hml hown e0 (by first | exact own_oneU | exact own_oneI | exact own_oneR | assumption) (by first | exact own_oneU | exact own_oneI | exact own_oneR | assumption) h0 h1
  · rw [show own_from ((((j4.toUInt64 >>> ((32 : Int32) &&& 0x3f).toInt64.toUInt64).toInt64).toInt32) &&& (3 : Int32)) i0 (j4.toInt32) = (j4.toInt32) from by unfold own_from; rw [if_neg h0, if_neg h1]]
    exact tn0_66_106_tt _ _ _ _ _ _ _ _ _ _ _ _ _ _ _ _ _ _ _ _ _ _ X0 hx hZ hw hby hml hown e0 (by first | exact own_oneU | exact own_oneI | exact own_oneR | assumption) (by first | exact own_oneU | exact own_oneI | exact own_oneR | assumption) h0 h1
set_option maxRecDepth 65536 in
set_option maxHeartbeats 40000000 in
theorem tn0_106_126_f {p : Program} {l : Launch} {e : Env} {R : Room} {s : State} {m : MethodId} {args : Array Value} {below : List Frame} {meth : Method} {c : Code} {T0 : State} {locs : List Loc} {cells slots : Nat} {Z : State} {a0 : Array Value} {h0 : Heap} (s0 : Slot) (j1 : Int64) (s3 : Slot) (j4 : Int64) (s6 : Slot) (s7 : Slot) (s8 : Slot) (s9 : Slot) (s10 : Slot) (s11 : Slot) (s12 : Slot) (s13 : Slot) (s16 : Slot) (s17 : Slot) (s18 : Slot) (s19 : Slot) (s20 : Slot) (s21 : Slot) (s22 : Slot)
    (X0 : Stand p l e R s m args below meth c T0 locs cells slots) (hx : p.tables.exec = Jvm.exec) (hZ : Z.Warmed39 s.vm) (hw : ∀ d ∈ tables_1, d.before a0 Z = true) (hby : c.code = code) (hml : c.maxLocals = 23) (hown : s.vm.findClass "com/example/cablegram/cablegram/engine/EnvelopeMatchesPinLaw" = some m.cls) (e0 : T0.heap = h0) (hc115 : (lcmpW (((j4.toUInt64 >>> ((34 : Int32) &&& 0x3f).toInt64.toUInt64).toInt64) &&& (1 : Int64)) (0 : Int64)) = (0 : Int32)) :
    ∃ (T' : State), Stand p l e R s m args below meth c T' locs cells slots ∧ T'.heap = h0 ∧
      ∀ target, Steps p.tables e below (T'.setTop (mkF m 126 #[s0, .val (.long j1), .second, s3, .val (.long j4), .second, s6, s7, s8, s9, s10, s11, s12, s13, .val (.long j1), .second, s16, s17, s18, s19, s20, s21, s22] [])) target → Steps p.tables e below (T0.setTop (mkF m 106 #[s0, .val (.long j1), .second, s3, .val (.long j4), .second, s6, s7, s8, s9, s10, s11, s12, s13, .unset, .unset, s16, s17, s18, s19, s20, s21, s22] [])) target := by
  -- 3. LAWS

  refine ⟨T0, X0, e0, fun target kt => ?_⟩
  -- 4. STEPS
  show Steps p.tables e below (T0.setTop (mkF m 106 #[s0, .val (.long j1), .second, s3, .val (.long j4), .second, s6, s7, s8, s9, s10, s11, s12, s13, .unset, .unset, s16, s17, s18, s19, s20, s21, s22] [])) _
  refine XS.lload X0.here hx rfl (hb hby at_106) rfl ?_
  show Steps p.tables e below (T0.setTop (mkF m 108 #[s0, .val (.long j1), .second, s3, .val (.long j4), .second, s6, s7, s8, s9, s10, s11, s12, s13, .unset, .unset, s16, s17, s18, s19, s20, s21, s22] [(.long j4)])) _
  refine XS.bipush X0.here hx rfl (hb hby at_108) ?_
  show Steps p.tables e below (T0.setTop (mkF m 110 #[s0, .val (.long j1), .second, s3, .val (.long j4), .second, s6, s7, s8, s9, s10, s11, s12, s13, .unset, .unset, s16, s17, s18, s19, s20, s21, s22] [(.int (34 : Int32)), (.long j4)])) _
  refine XS.lushr X0.here hx rfl (hb hby at_110) rfl ?_
  show Steps p.tables e below (T0.setTop (mkF m 111 #[s0, .val (.long j1), .second, s3, .val (.long j4), .second, s6, s7, s8, s9, s10, s11, s12, s13, .unset, .unset, s16, s17, s18, s19, s20, s21, s22] [(.long ((j4.toUInt64 >>> ((34 : Int32) &&& 0x3f).toInt64.toUInt64).toInt64))])) _
  refine XS.lconst X0.here hx rfl (hb hby at_111) ?_
  show Steps p.tables e below (T0.setTop (mkF m 112 #[s0, .val (.long j1), .second, s3, .val (.long j4), .second, s6, s7, s8, s9, s10, s11, s12, s13, .unset, .unset, s16, s17, s18, s19, s20, s21, s22] [(.long (1 : Int64)), (.long ((j4.toUInt64 >>> ((34 : Int32) &&& 0x3f).toInt64.toUInt64).toInt64))])) _
  refine XS.land X0.here hx rfl (hb hby at_112) rfl ?_
  show Steps p.tables e below (T0.setTop (mkF m 113 #[s0, .val (.long j1), .second, s3, .val (.long j4), .second, s6, s7, s8, s9, s10, s11, s12, s13, .unset, .unset, s16, s17, s18, s19, s20, s21, s22] [(.long (((j4.toUInt64 >>> ((34 : Int32) &&& 0x3f).toInt64.toUInt64).toInt64) &&& (1 : Int64)))])) _
  refine XS.lconst X0.here hx rfl (hb hby at_113) ?_
  show Steps p.tables e below (T0.setTop (mkF m 114 #[s0, .val (.long j1), .second, s3, .val (.long j4), .second, s6, s7, s8, s9, s10, s11, s12, s13, .unset, .unset, s16, s17, s18, s19, s20, s21, s22] [(.long (0 : Int64)), (.long (((j4.toUInt64 >>> ((34 : Int32) &&& 0x3f).toInt64.toUInt64).toInt64) &&& (1 : Int64)))])) _
  refine XS.lcmp X0.here hx rfl (hb hby at_114) rfl ?_
  show Steps p.tables e below (T0.setTop (mkF m 115 #[s0, .val (.long j1), .second, s3, .val (.long j4), .second, s6, s7, s8, s9, s10, s11, s12, s13, .unset, .unset, s16, s17, s18, s19, s20, s21, s22] [(.int (lcmpW (((j4.toUInt64 >>> ((34 : Int32) &&& 0x3f).toInt64.toUInt64).toInt64) &&& (1 : Int64)) (0 : Int64)))])) _
  refine XS.ifNo X0.here hx rfl (hb hby at_115) rfl ((if0 _ _).trans (teq hc115).2) ?_
  show Steps p.tables e below (T0.setTop (mkF m 118 #[s0, .val (.long j1), .second, s3, .val (.long j4), .second, s6, s7, s8, s9, s10, s11, s12, s13, .unset, .unset, s16, s17, s18, s19, s20, s21, s22] [])) _
  refine XS.lloadN X0.here hx rfl (hb hby at_118) rfl ?_
  show Steps p.tables e below (T0.setTop (mkF m 119 #[s0, .val (.long j1), .second, s3, .val (.long j4), .second, s6, s7, s8, s9, s10, s11, s12, s13, .unset, .unset, s16, s17, s18, s19, s20, s21, s22] [(.long j1)])) _
  refine XS.goto X0.here hx rfl (pc0 := 119) (pc' := 124) rfl (hb hby at_119) (by decide) (by decide) ?_
  show Steps p.tables e below (T0.setTop (mkF m 124 #[s0, .val (.long j1), .second, s3, .val (.long j4), .second, s6, s7, s8, s9, s10, s11, s12, s13, .unset, .unset, s16, s17, s18, s19, s20, s21, s22] [(.long j1)])) _
  refine XS.lstore X0.here hx rfl (hb hby at_124) rfl (l' := #[s0, .val (.long j1), .second, s3, .val (.long j4), .second, s6, s7, s8, s9, s10, s11, s12, s13, .val (.long j1), .second, s16, s17, s18, s19, s20, s21, s22]) rfl ?_
  exact kt
set_option maxRecDepth 65536 in
set_option maxHeartbeats 40000000 in
theorem tn0_106_126_t {p : Program} {l : Launch} {e : Env} {R : Room} {s : State} {m : MethodId} {args : Array Value} {below : List Frame} {meth : Method} {c : Code} {T0 : State} {locs : List Loc} {cells slots : Nat} {Z : State} {a0 : Array Value} {h0 : Heap} (s0 : Slot) (s1 : Slot) (s2 : Slot) (s3 : Slot) (j4 : Int64) (j6 : Int64) (s8 : Slot) (s9 : Slot) (s10 : Slot) (s11 : Slot) (s12 : Slot) (s13 : Slot) (s16 : Slot) (s17 : Slot) (s18 : Slot) (s19 : Slot) (s20 : Slot) (s21 : Slot) (s22 : Slot)
    (X0 : Stand p l e R s m args below meth c T0 locs cells slots) (hx : p.tables.exec = Jvm.exec) (hZ : Z.Warmed39 s.vm) (hw : ∀ d ∈ tables_1, d.before a0 Z = true) (hby : c.code = code) (hml : c.maxLocals = 23) (hown : s.vm.findClass "com/example/cablegram/cablegram/engine/EnvelopeMatchesPinLaw" = some m.cls) (e0 : T0.heap = h0) (hc115 : ¬ ((lcmpW (((j4.toUInt64 >>> ((34 : Int32) &&& 0x3f).toInt64.toUInt64).toInt64) &&& (1 : Int64)) (0 : Int64)) = (0 : Int32))) :
    ∃ (T' : State), Stand p l e R s m args below meth c T' locs cells slots ∧ T'.heap = h0 ∧
      ∀ target, Steps p.tables e below (T'.setTop (mkF m 126 #[s0, s1, s2, s3, .val (.long j4), .second, .val (.long j6), .second, s8, s9, s10, s11, s12, s13, .val (.long j6), .second, s16, s17, s18, s19, s20, s21, s22] [])) target → Steps p.tables e below (T0.setTop (mkF m 106 #[s0, s1, s2, s3, .val (.long j4), .second, .val (.long j6), .second, s8, s9, s10, s11, s12, s13, .unset, .unset, s16, s17, s18, s19, s20, s21, s22] [])) target := by
  -- 3. LAWS

  refine ⟨T0, X0, e0, fun target kt => ?_⟩
  -- 4. STEPS
  show Steps p.tables e below (T0.setTop (mkF m 106 #[s0, s1, s2, s3, .val (.long j4), .second, .val (.long j6), .second, s8, s9, s10, s11, s12, s13, .unset, .unset, s16, s17, s18, s19, s20, s21, s22] [])) _
  refine XS.lload X0.here hx rfl (hb hby at_106) rfl ?_
  show Steps p.tables e below (T0.setTop (mkF m 108 #[s0, s1, s2, s3, .val (.long j4), .second, .val (.long j6), .second, s8, s9, s10, s11, s12, s13, .unset, .unset, s16, s17, s18, s19, s20, s21, s22] [(.long j4)])) _
  refine XS.bipush X0.here hx rfl (hb hby at_108) ?_
  show Steps p.tables e below (T0.setTop (mkF m 110 #[s0, s1, s2, s3, .val (.long j4), .second, .val (.long j6), .second, s8, s9, s10, s11, s12, s13, .unset, .unset, s16, s17, s18, s19, s20, s21, s22] [(.int (34 : Int32)), (.long j4)])) _
  refine XS.lushr X0.here hx rfl (hb hby at_110) rfl ?_
  show Steps p.tables e below (T0.setTop (mkF m 111 #[s0, s1, s2, s3, .val (.long j4), .second, .val (.long j6), .second, s8, s9, s10, s11, s12, s13, .unset, .unset, s16, s17, s18, s19, s20, s21, s22] [(.long ((j4.toUInt64 >>> ((34 : Int32) &&& 0x3f).toInt64.toUInt64).toInt64))])) _
  refine XS.lconst X0.here hx rfl (hb hby at_111) ?_
  show Steps p.tables e below (T0.setTop (mkF m 112 #[s0, s1, s2, s3, .val (.long j4), .second, .val (.long j6), .second, s8, s9, s10, s11, s12, s13, .unset, .unset, s16, s17, s18, s19, s20, s21, s22] [(.long (1 : Int64)), (.long ((j4.toUInt64 >>> ((34 : Int32) &&& 0x3f).toInt64.toUInt64).toInt64))])) _
  refine XS.land X0.here hx rfl (hb hby at_112) rfl ?_
  show Steps p.tables e below (T0.setTop (mkF m 113 #[s0, s1, s2, s3, .val (.long j4), .second, .val (.long j6), .second, s8, s9, s10, s11, s12, s13, .unset, .unset, s16, s17, s18, s19, s20, s21, s22] [(.long (((j4.toUInt64 >>> ((34 : Int32) &&& 0x3f).toInt64.toUInt64).toInt64) &&& (1 : Int64)))])) _
  refine XS.lconst X0.here hx rfl (hb hby at_113) ?_
  show Steps p.tables e below (T0.setTop (mkF m 114 #[s0, s1, s2, s3, .val (.long j4), .second, .val (.long j6), .second, s8, s9, s10, s11, s12, s13, .unset, .unset, s16, s17, s18, s19, s20, s21, s22] [(.long (0 : Int64)), (.long (((j4.toUInt64 >>> ((34 : Int32) &&& 0x3f).toInt64.toUInt64).toInt64) &&& (1 : Int64)))])) _
  refine XS.lcmp X0.here hx rfl (hb hby at_114) rfl ?_
  show Steps p.tables e below (T0.setTop (mkF m 115 #[s0, s1, s2, s3, .val (.long j4), .second, .val (.long j6), .second, s8, s9, s10, s11, s12, s13, .unset, .unset, s16, s17, s18, s19, s20, s21, s22] [(.int (lcmpW (((j4.toUInt64 >>> ((34 : Int32) &&& 0x3f).toInt64.toUInt64).toInt64) &&& (1 : Int64)) (0 : Int64)))])) _
  refine XS.ifYes X0.here hx rfl (pc0 := 115) (pc' := 122) rfl (hb hby at_115) rfl ((if0 _ _).trans (feq hc115).2) (by decide) (by decide) ?_
  show Steps p.tables e below (T0.setTop (mkF m 122 #[s0, s1, s2, s3, .val (.long j4), .second, .val (.long j6), .second, s8, s9, s10, s11, s12, s13, .unset, .unset, s16, s17, s18, s19, s20, s21, s22] [])) _
  refine XS.lload X0.here hx rfl (hb hby at_122) rfl ?_
  show Steps p.tables e below (T0.setTop (mkF m 124 #[s0, s1, s2, s3, .val (.long j4), .second, .val (.long j6), .second, s8, s9, s10, s11, s12, s13, .unset, .unset, s16, s17, s18, s19, s20, s21, s22] [(.long j6)])) _
  refine XS.lstore X0.here hx rfl (hb hby at_124) rfl (l' := #[s0, s1, s2, s3, .val (.long j4), .second, .val (.long j6), .second, s8, s9, s10, s11, s12, s13, .val (.long j6), .second, s16, s17, s18, s19, s20, s21, s22]) rfl ?_
  exact kt
def own_ctx (b : Int32) (x y : Int64) : Int64 := if b = 0 then x else y
theorem sgC {p : Program} {l : Launch} {e : Env} {R : Room} {s : State} {m : MethodId} {args : Array Value} {below : List Frame} {meth : Method} {c : Code} {T0 : State} {locs : List Loc} {cells slots : Nat} {Z : State} {a0 : Array Value} {h0 : Heap} (s0 : Slot) (j1 : Int64) (s3 : Slot) (j4 : Int64) (j6 : Int64) (s8 : Slot) (s9 : Slot) (s10 : Slot) (s11 : Slot) (s12 : Slot) (s13 : Slot) (s16 : Slot) (s17 : Slot) (s18 : Slot) (s19 : Slot) (s20 : Slot) (s21 : Slot) (s22 : Slot)
    (X0 : Stand p l e R s m args below meth c T0 locs cells slots) (hx : p.tables.exec = Jvm.exec) (hZ : Z.Warmed39 s.vm) (hw : ∀ d ∈ tables_1, d.before a0 Z = true) (hby : c.code = code) (hml : c.maxLocals = 23) (hown : s.vm.findClass "com/example/cablegram/cablegram/engine/EnvelopeMatchesPinLaw" = some m.cls) (e0 : T0.heap = h0)  :
    ∃ (T' : State), Stand p l e R s m args below meth c T' locs cells slots ∧ T'.heap = h0 ∧
      ∀ target, Steps p.tables e below (T'.setTop (mkF m 126 #[s0, .val (.long j1), .second, s3, .val (.long j4), .second, .val (.long j6), .second, s8, s9, s10, s11, s12, s13, .val (.long (own_ctx (lcmpW (((j4.toUInt64 >>> ((34 : Int32) &&& 0x3f).toInt64.toUInt64).toInt64) &&& (1 : Int64)) (0 : Int64)) j1 j6)), .second, s16, s17, s18, s19, s20, s21, s22] [])) target → Steps p.tables e below (T0.setTop (mkF m 106 #[s0, .val (.long j1), .second, s3, .val (.long j4), .second, .val (.long j6), .second, s8, s9, s10, s11, s12, s13, .unset, .unset, s16, s17, s18, s19, s20, s21, s22] [])) target := by
  by_cases h0' : (lcmpW (((j4.toUInt64 >>> ((34 : Int32) &&& 0x3f).toInt64.toUInt64).toInt64) &&& (1 : Int64)) (0 : Int64)) = (0 : Int32)
  · rw [show own_ctx (lcmpW (((j4.toUInt64 >>> ((34 : Int32) &&& 0x3f).toInt64.toUInt64).toInt64) &&& (1 : Int64)) (0 : Int64)) j1 j6 = j1 from by unfold own_ctx; rw [if_pos h0']]
    exact tn0_106_126_f _ _ _ _ _ _ _ _ _ _ _ _ _ _ _ _ _ _ _ X0 hx hZ hw hby hml hown e0 h0'
  · rw [show own_ctx (lcmpW (((j4.toUInt64 >>> ((34 : Int32) &&& 0x3f).toInt64.toUInt64).toInt64) &&& (1 : Int64)) (0 : Int64)) j1 j6 = j6 from by unfold own_ctx; rw [if_neg h0']]
    exact tn0_106_126_t _ _ _ _ _ _ _ _ _ _ _ _ _ _ _ _ _ _ _ X0 hx hZ hw hby hml hown e0 h0'
theorem os0_134 {s0 : Slot} {s1 : Slot} {s2 : Slot} {s3 : Slot} {s4 : Slot} {s5 : Slot} {s6 : Slot} {s7 : Slot} {z8 : Value} {s10 : Slot} {z11 : Value} {s12 : Slot} {s13 : Slot} {s14 : Slot} {s15 : Slot} {s16 : Slot} {s17 : Slot} {s18 : Slot} {s19 : Slot} {s20 : Slot} {s21 : Slot} {s22 : Slot} {v : Int32} (h : One s16) : storeLocals #[s0, s1, s2, s3, s4, s5, s6, s7, .val z8, .second, s10, .val z11, s12, s13, s14, s15, s16, s17, s18, s19, s20, s21, s22] 16 (.int v) = some #[s0, s1, s2, s3, s4, s5, s6, s7, .val z8, .second, s10, .val z11, s12, s13, s14, s15, .val (.int v), s17, s18, s19, s20, s21, s22] := by
  rcases h with rfl | ⟨w, rfl, hw⟩
  · rfl
  · cases w <;> first | rfl | (simp [Value.category] at hw)
theorem os0_144 {s0 : Slot} {s1 : Slot} {s2 : Slot} {s3 : Slot} {s4 : Slot} {s5 : Slot} {s6 : Slot} {s7 : Slot} {z8 : Value} {s10 : Slot} {z11 : Value} {s12 : Slot} {s13 : Slot} {s14 : Slot} {s15 : Slot} {z16 : Value} {s17 : Slot} {s18 : Slot} {s19 : Slot} {s20 : Slot} {s21 : Slot} {s22 : Slot} {v : Int32} (h : One s17) : storeLocals #[s0, s1, s2, s3, s4, s5, s6, s7, .val z8, .second, s10, .val z11, s12, s13, s14, s15, .val z16, s17, s18, s19, s20, s21, s22] 17 (.int v) = some #[s0, s1, s2, s3, s4, s5, s6, s7, .val z8, .second, s10, .val z11, s12, s13, s14, s15, .val z16, .val (.int v), s18, s19, s20, s21, s22] := by
  rcases h with rfl | ⟨w, rfl, hw⟩
  · rfl
  · cases w <;> first | rfl | (simp [Value.category] at hw)
set_option maxRecDepth 65536 in
set_option maxHeartbeats 40000000 in
theorem tn0_126_179_f {p : Program} {l : Launch} {e : Env} {R : Room} {s : State} {m : MethodId} {args : Array Value} {below : List Frame} {meth : Method} {c : Code} {T0 : State} {locs : List Loc} {cells slots : Nat} {Z : State} {a0 : Array Value} {h0 : Heap} (s0 : Slot) (s1 : Slot) (s2 : Slot) (s3 : Slot) (s4 : Slot) (s5 : Slot) (s6 : Slot) (s7 : Slot) (j8 : Int64) (s10 : Slot) (i11 : Int32) (s12 : Slot) (s13 : Slot) (s14 : Slot) (s15 : Slot) (s16 : Slot) (s17 : Slot) (s18 : Slot) (s19 : Slot) (s20 : Slot) (s21 : Slot) (s22 : Slot)
    (X0 : Stand p l e R s m args below meth c T0 locs cells slots) (hx : p.tables.exec = Jvm.exec) (hZ : Z.Warmed39 s.vm) (hw : ∀ d ∈ tables_1, d.before a0 Z = true) (hby : c.code = code) (hml : c.maxLocals = 23) (hown : s.vm.findClass "com/example/cablegram/cablegram/engine/EnvelopeMatchesPinLaw" = some m.cls) (e0 : T0.heap = h0) (hs16 : One s16) (hs17 : One s17) (hc139 : ((((j8.toUInt64 >>> ((32 : Int32) &&& 0x3f).toInt64.toUInt64).toInt64).toInt32) &&& (3 : Int32)) = (1 : Int32)) :
    ∃ (T' : State), Stand p l e R s m args below meth c T' locs cells slots ∧ T'.heap = h0 ∧
      ∀ target, Steps p.tables e below (T'.setTop (mkF m 179 #[s0, s1, s2, s3, s4, s5, s6, s7, .val (.long j8), .second, s10, .val (.int i11), s12, s13, s14, s15, .val (.int ((((j8.toUInt64 >>> ((32 : Int32) &&& 0x3f).toInt64.toUInt64).toInt64).toInt32) &&& (3 : Int32))), .val (.int i11), s18, s19, s20, s21, s22] [])) target → Steps p.tables e below (T0.setTop (mkF m 126 #[s0, s1, s2, s3, s4, s5, s6, s7, .val (.long j8), .second, s10, .val (.int i11), s12, s13, s14, s15, s16, s17, s18, s19, s20, s21, s22] [])) target := by
  -- 3. LAWS

  refine ⟨T0, X0, e0, fun target kt => ?_⟩
  -- 4. STEPS
  show Steps p.tables e below (T0.setTop (mkF m 126 #[s0, s1, s2, s3, s4, s5, s6, s7, .val (.long j8), .second, s10, .val (.int i11), s12, s13, s14, s15, s16, s17, s18, s19, s20, s21, s22] [])) _
  refine XS.lload X0.here hx rfl (hb hby at_126) rfl ?_
  show Steps p.tables e below (T0.setTop (mkF m 128 #[s0, s1, s2, s3, s4, s5, s6, s7, .val (.long j8), .second, s10, .val (.int i11), s12, s13, s14, s15, s16, s17, s18, s19, s20, s21, s22] [(.long j8)])) _
  refine XS.bipush X0.here hx rfl (hb hby at_128) ?_
  show Steps p.tables e below (T0.setTop (mkF m 130 #[s0, s1, s2, s3, s4, s5, s6, s7, .val (.long j8), .second, s10, .val (.int i11), s12, s13, s14, s15, s16, s17, s18, s19, s20, s21, s22] [(.int (32 : Int32)), (.long j8)])) _
  refine XS.lushr X0.here hx rfl (hb hby at_130) rfl ?_
  show Steps p.tables e below (T0.setTop (mkF m 131 #[s0, s1, s2, s3, s4, s5, s6, s7, .val (.long j8), .second, s10, .val (.int i11), s12, s13, s14, s15, s16, s17, s18, s19, s20, s21, s22] [(.long ((j8.toUInt64 >>> ((32 : Int32) &&& 0x3f).toInt64.toUInt64).toInt64))])) _
  refine XS.l2i X0.here hx rfl (hb hby at_131) rfl ?_
  show Steps p.tables e below (T0.setTop (mkF m 132 #[s0, s1, s2, s3, s4, s5, s6, s7, .val (.long j8), .second, s10, .val (.int i11), s12, s13, s14, s15, s16, s17, s18, s19, s20, s21, s22] [(.int (((j8.toUInt64 >>> ((32 : Int32) &&& 0x3f).toInt64.toUInt64).toInt64).toInt32))])) _
  refine XS.iconst X0.here hx rfl (hb hby at_132) ?_
  show Steps p.tables e below (T0.setTop (mkF m 133 #[s0, s1, s2, s3, s4, s5, s6, s7, .val (.long j8), .second, s10, .val (.int i11), s12, s13, s14, s15, s16, s17, s18, s19, s20, s21, s22] [(.int (3 : Int32)), (.int (((j8.toUInt64 >>> ((32 : Int32) &&& 0x3f).toInt64.toUInt64).toInt64).toInt32))])) _
  refine XS.iand X0.here hx rfl (hb hby at_133) rfl ?_
  show Steps p.tables e below (T0.setTop (mkF m 134 #[s0, s1, s2, s3, s4, s5, s6, s7, .val (.long j8), .second, s10, .val (.int i11), s12, s13, s14, s15, s16, s17, s18, s19, s20, s21, s22] [(.int ((((j8.toUInt64 >>> ((32 : Int32) &&& 0x3f).toInt64.toUInt64).toInt64).toInt32) &&& (3 : Int32)))])) _
  refine XS.istore X0.here hx rfl (hb hby at_134) rfl (l' := #[s0, s1, s2, s3, s4, s5, s6, s7, .val (.long j8), .second, s10, .val (.int i11), s12, s13, s14, s15, .val (.int ((((j8.toUInt64 >>> ((32 : Int32) &&& 0x3f).toInt64.toUInt64).toInt64).toInt32) &&& (3 : Int32))), s17, s18, s19, s20, s21, s22]) (os0_134 hs16) ?_
  show Steps p.tables e below (T0.setTop (mkF m 136 #[s0, s1, s2, s3, s4, s5, s6, s7, .val (.long j8), .second, s10, .val (.int i11), s12, s13, s14, s15, .val (.int ((((j8.toUInt64 >>> ((32 : Int32) &&& 0x3f).toInt64.toUInt64).toInt64).toInt32) &&& (3 : Int32))), s17, s18, s19, s20, s21, s22] [])) _
  refine XS.iload X0.here hx rfl (hb hby at_136) rfl ?_
  show Steps p.tables e below (T0.setTop (mkF m 138 #[s0, s1, s2, s3, s4, s5, s6, s7, .val (.long j8), .second, s10, .val (.int i11), s12, s13, s14, s15, .val (.int ((((j8.toUInt64 >>> ((32 : Int32) &&& 0x3f).toInt64.toUInt64).toInt64).toInt32) &&& (3 : Int32))), s17, s18, s19, s20, s21, s22] [(.int ((((j8.toUInt64 >>> ((32 : Int32) &&& 0x3f).toInt64.toUInt64).toInt64).toInt32) &&& (3 : Int32)))])) _
  refine XS.iconst X0.here hx rfl (hb hby at_138) ?_
  show Steps p.tables e below (T0.setTop (mkF m 139 #[s0, s1, s2, s3, s4, s5, s6, s7, .val (.long j8), .second, s10, .val (.int i11), s12, s13, s14, s15, .val (.int ((((j8.toUInt64 >>> ((32 : Int32) &&& 0x3f).toInt64.toUInt64).toInt64).toInt32) &&& (3 : Int32))), s17, s18, s19, s20, s21, s22] [(.int (1 : Int32)), (.int ((((j8.toUInt64 >>> ((32 : Int32) &&& 0x3f).toInt64.toUInt64).toInt64).toInt32) &&& (3 : Int32)))])) _
  refine XS.icmpNo X0.here hx rfl (hb hby at_139) rfl (teq hc139).2 ?_
  show Steps p.tables e below (T0.setTop (mkF m 142 #[s0, s1, s2, s3, s4, s5, s6, s7, .val (.long j8), .second, s10, .val (.int i11), s12, s13, s14, s15, .val (.int ((((j8.toUInt64 >>> ((32 : Int32) &&& 0x3f).toInt64.toUInt64).toInt64).toInt32) &&& (3 : Int32))), s17, s18, s19, s20, s21, s22] [])) _
  refine XS.iload X0.here hx rfl (hb hby at_142) rfl ?_
  show Steps p.tables e below (T0.setTop (mkF m 144 #[s0, s1, s2, s3, s4, s5, s6, s7, .val (.long j8), .second, s10, .val (.int i11), s12, s13, s14, s15, .val (.int ((((j8.toUInt64 >>> ((32 : Int32) &&& 0x3f).toInt64.toUInt64).toInt64).toInt32) &&& (3 : Int32))), s17, s18, s19, s20, s21, s22] [(.int i11)])) _
  refine XS.istore X0.here hx rfl (hb hby at_144) rfl (l' := #[s0, s1, s2, s3, s4, s5, s6, s7, .val (.long j8), .second, s10, .val (.int i11), s12, s13, s14, s15, .val (.int ((((j8.toUInt64 >>> ((32 : Int32) &&& 0x3f).toInt64.toUInt64).toInt64).toInt32) &&& (3 : Int32))), .val (.int i11), s18, s19, s20, s21, s22]) (os0_144 hs17) ?_
  show Steps p.tables e below (T0.setTop (mkF m 146 #[s0, s1, s2, s3, s4, s5, s6, s7, .val (.long j8), .second, s10, .val (.int i11), s12, s13, s14, s15, .val (.int ((((j8.toUInt64 >>> ((32 : Int32) &&& 0x3f).toInt64.toUInt64).toInt64).toInt32) &&& (3 : Int32))), .val (.int i11), s18, s19, s20, s21, s22] [])) _
  refine XS.goto X0.here hx rfl (pc0 := 146) (pc' := 179) rfl (hb hby at_146) (by decide) (by decide) ?_
  exact kt
theorem os0_134_tf {s0 : Slot} {s1 : Slot} {s2 : Slot} {s3 : Slot} {s4 : Slot} {s5 : Slot} {s6 : Slot} {s7 : Slot} {z8 : Value} {s10 : Slot} {s11 : Slot} {s12 : Slot} {s13 : Slot} {s14 : Slot} {s15 : Slot} {s16 : Slot} {s17 : Slot} {s18 : Slot} {s19 : Slot} {s20 : Slot} {s21 : Slot} {s22 : Slot} {v : Int32} (h : One s16) : storeLocals #[s0, s1, s2, s3, s4, s5, s6, s7, .val z8, .second, s10, s11, s12, s13, s14, s15, s16, s17, s18, s19, s20, s21, s22] 16 (.int v) = some #[s0, s1, s2, s3, s4, s5, s6, s7, .val z8, .second, s10, s11, s12, s13, s14, s15, .val (.int v), s17, s18, s19, s20, s21, s22] := by
  rcases h with rfl | ⟨w, rfl, hw⟩
  · rfl
  · cases w <;> first | rfl | (simp [Value.category] at hw)
theorem os0_156 {s0 : Slot} {s1 : Slot} {s2 : Slot} {s3 : Slot} {s4 : Slot} {s5 : Slot} {s6 : Slot} {s7 : Slot} {z8 : Value} {s10 : Slot} {s11 : Slot} {s12 : Slot} {s13 : Slot} {s14 : Slot} {s15 : Slot} {z16 : Value} {s17 : Slot} {s18 : Slot} {s19 : Slot} {s20 : Slot} {s21 : Slot} {s22 : Slot} {v : Int32} (h : One s17) : storeLocals #[s0, s1, s2, s3, s4, s5, s6, s7, .val z8, .second, s10, s11, s12, s13, s14, s15, .val z16, s17, s18, s19, s20, s21, s22] 17 (.int v) = some #[s0, s1, s2, s3, s4, s5, s6, s7, .val z8, .second, s10, s11, s12, s13, s14, s15, .val z16, .val (.int v), s18, s19, s20, s21, s22] := by
  rcases h with rfl | ⟨w, rfl, hw⟩
  · rfl
  · cases w <;> first | rfl | (simp [Value.category] at hw)
set_option maxRecDepth 65536 in
set_option maxHeartbeats 40000000 in
theorem tn0_126_179_tf {p : Program} {l : Launch} {e : Env} {R : Room} {s : State} {m : MethodId} {args : Array Value} {below : List Frame} {meth : Method} {c : Code} {T0 : State} {locs : List Loc} {cells slots : Nat} {Z : State} {a0 : Array Value} {h0 : Heap} (s0 : Slot) (s1 : Slot) (s2 : Slot) (s3 : Slot) (s4 : Slot) (s5 : Slot) (s6 : Slot) (s7 : Slot) (j8 : Int64) (s10 : Slot) (s11 : Slot) (s12 : Slot) (s13 : Slot) (s14 : Slot) (s15 : Slot) (s16 : Slot) (s17 : Slot) (s18 : Slot) (s19 : Slot) (s20 : Slot) (s21 : Slot) (s22 : Slot)
    (X0 : Stand p l e R s m args below meth c T0 locs cells slots) (hx : p.tables.exec = Jvm.exec) (hZ : Z.Warmed39 s.vm) (hw : ∀ d ∈ tables_1, d.before a0 Z = true) (hby : c.code = code) (hml : c.maxLocals = 23) (hown : s.vm.findClass "com/example/cablegram/cablegram/engine/EnvelopeMatchesPinLaw" = some m.cls) (e0 : T0.heap = h0) (hs16 : One s16) (hs17 : One s17) (hc139 : ¬ (((((j8.toUInt64 >>> ((32 : Int32) &&& 0x3f).toInt64.toUInt64).toInt64).toInt32) &&& (3 : Int32)) = (1 : Int32))) (hc152 : ((((j8.toUInt64 >>> ((32 : Int32) &&& 0x3f).toInt64.toUInt64).toInt64).toInt32) &&& (3 : Int32)) = (2 : Int32)) :
    ∃ (T' : State), Stand p l e R s m args below meth c T' locs cells slots ∧ T'.heap = h0 ∧
      ∀ target, Steps p.tables e below (T'.setTop (mkF m 179 #[s0, s1, s2, s3, s4, s5, s6, s7, .val (.long j8), .second, s10, s11, s12, s13, s14, s15, .val (.int ((((j8.toUInt64 >>> ((32 : Int32) &&& 0x3f).toInt64.toUInt64).toInt64).toInt32) &&& (3 : Int32))), .val (.int (-1 : Int32)), s18, s19, s20, s21, s22] [])) target → Steps p.tables e below (T0.setTop (mkF m 126 #[s0, s1, s2, s3, s4, s5, s6, s7, .val (.long j8), .second, s10, s11, s12, s13, s14, s15, s16, s17, s18, s19, s20, s21, s22] [])) target := by
  -- 3. LAWS

  refine ⟨T0, X0, e0, fun target kt => ?_⟩
  -- 4. STEPS
  show Steps p.tables e below (T0.setTop (mkF m 126 #[s0, s1, s2, s3, s4, s5, s6, s7, .val (.long j8), .second, s10, s11, s12, s13, s14, s15, s16, s17, s18, s19, s20, s21, s22] [])) _
  refine XS.lload X0.here hx rfl (hb hby at_126) rfl ?_
  show Steps p.tables e below (T0.setTop (mkF m 128 #[s0, s1, s2, s3, s4, s5, s6, s7, .val (.long j8), .second, s10, s11, s12, s13, s14, s15, s16, s17, s18, s19, s20, s21, s22] [(.long j8)])) _
  refine XS.bipush X0.here hx rfl (hb hby at_128) ?_
  show Steps p.tables e below (T0.setTop (mkF m 130 #[s0, s1, s2, s3, s4, s5, s6, s7, .val (.long j8), .second, s10, s11, s12, s13, s14, s15, s16, s17, s18, s19, s20, s21, s22] [(.int (32 : Int32)), (.long j8)])) _
  refine XS.lushr X0.here hx rfl (hb hby at_130) rfl ?_
  show Steps p.tables e below (T0.setTop (mkF m 131 #[s0, s1, s2, s3, s4, s5, s6, s7, .val (.long j8), .second, s10, s11, s12, s13, s14, s15, s16, s17, s18, s19, s20, s21, s22] [(.long ((j8.toUInt64 >>> ((32 : Int32) &&& 0x3f).toInt64.toUInt64).toInt64))])) _
  refine XS.l2i X0.here hx rfl (hb hby at_131) rfl ?_
  show Steps p.tables e below (T0.setTop (mkF m 132 #[s0, s1, s2, s3, s4, s5, s6, s7, .val (.long j8), .second, s10, s11, s12, s13, s14, s15, s16, s17, s18, s19, s20, s21, s22] [(.int (((j8.toUInt64 >>> ((32 : Int32) &&& 0x3f).toInt64.toUInt64).toInt64).toInt32))])) _
  refine XS.iconst X0.here hx rfl (hb hby at_132) ?_
  show Steps p.tables e below (T0.setTop (mkF m 133 #[s0, s1, s2, s3, s4, s5, s6, s7, .val (.long j8), .second, s10, s11, s12, s13, s14, s15, s16, s17, s18, s19, s20, s21, s22] [(.int (3 : Int32)), (.int (((j8.toUInt64 >>> ((32 : Int32) &&& 0x3f).toInt64.toUInt64).toInt64).toInt32))])) _
  refine XS.iand X0.here hx rfl (hb hby at_133) rfl ?_
  show Steps p.tables e below (T0.setTop (mkF m 134 #[s0, s1, s2, s3, s4, s5, s6, s7, .val (.long j8), .second, s10, s11, s12, s13, s14, s15, s16, s17, s18, s19, s20, s21, s22] [(.int ((((j8.toUInt64 >>> ((32 : Int32) &&& 0x3f).toInt64.toUInt64).toInt64).toInt32) &&& (3 : Int32)))])) _
  refine XS.istore X0.here hx rfl (hb hby at_134) rfl (l' := #[s0, s1, s2, s3, s4, s5, s6, s7, .val (.long j8), .second, s10, s11, s12, s13, s14, s15, .val (.int ((((j8.toUInt64 >>> ((32 : Int32) &&& 0x3f).toInt64.toUInt64).toInt64).toInt32) &&& (3 : Int32))), s17, s18, s19, s20, s21, s22]) (os0_134_tf hs16) ?_
  show Steps p.tables e below (T0.setTop (mkF m 136 #[s0, s1, s2, s3, s4, s5, s6, s7, .val (.long j8), .second, s10, s11, s12, s13, s14, s15, .val (.int ((((j8.toUInt64 >>> ((32 : Int32) &&& 0x3f).toInt64.toUInt64).toInt64).toInt32) &&& (3 : Int32))), s17, s18, s19, s20, s21, s22] [])) _
  refine XS.iload X0.here hx rfl (hb hby at_136) rfl ?_
  show Steps p.tables e below (T0.setTop (mkF m 138 #[s0, s1, s2, s3, s4, s5, s6, s7, .val (.long j8), .second, s10, s11, s12, s13, s14, s15, .val (.int ((((j8.toUInt64 >>> ((32 : Int32) &&& 0x3f).toInt64.toUInt64).toInt64).toInt32) &&& (3 : Int32))), s17, s18, s19, s20, s21, s22] [(.int ((((j8.toUInt64 >>> ((32 : Int32) &&& 0x3f).toInt64.toUInt64).toInt64).toInt32) &&& (3 : Int32)))])) _
  refine XS.iconst X0.here hx rfl (hb hby at_138) ?_
  show Steps p.tables e below (T0.setTop (mkF m 139 #[s0, s1, s2, s3, s4, s5, s6, s7, .val (.long j8), .second, s10, s11, s12, s13, s14, s15, .val (.int ((((j8.toUInt64 >>> ((32 : Int32) &&& 0x3f).toInt64.toUInt64).toInt64).toInt32) &&& (3 : Int32))), s17, s18, s19, s20, s21, s22] [(.int (1 : Int32)), (.int ((((j8.toUInt64 >>> ((32 : Int32) &&& 0x3f).toInt64.toUInt64).toInt64).toInt32) &&& (3 : Int32)))])) _
  refine XS.icmpYes X0.here hx rfl (pc0 := 139) (pc' := 149) rfl (hb hby at_139) rfl (feq hc139).2 (by decide) (by decide) ?_
  show Steps p.tables e below (T0.setTop (mkF m 149 #[s0, s1, s2, s3, s4, s5, s6, s7, .val (.long j8), .second, s10, s11, s12, s13, s14, s15, .val (.int ((((j8.toUInt64 >>> ((32 : Int32) &&& 0x3f).toInt64.toUInt64).toInt64).toInt32) &&& (3 : Int32))), s17, s18, s19, s20, s21, s22] [])) _
  refine XS.iload X0.here hx rfl (hb hby at_149) rfl ?_
  show Steps p.tables e below (T0.setTop (mkF m 151 #[s0, s1, s2, s3, s4, s5, s6, s7, .val (.long j8), .second, s10, s11, s12, s13, s14, s15, .val (.int ((((j8.toUInt64 >>> ((32 : Int32) &&& 0x3f).toInt64.toUInt64).toInt64).toInt32) &&& (3 : Int32))), s17, s18, s19, s20, s21, s22] [(.int ((((j8.toUInt64 >>> ((32 : Int32) &&& 0x3f).toInt64.toUInt64).toInt64).toInt32) &&& (3 : Int32)))])) _
  refine XS.iconst X0.here hx rfl (hb hby at_151) ?_
  show Steps p.tables e below (T0.setTop (mkF m 152 #[s0, s1, s2, s3, s4, s5, s6, s7, .val (.long j8), .second, s10, s11, s12, s13, s14, s15, .val (.int ((((j8.toUInt64 >>> ((32 : Int32) &&& 0x3f).toInt64.toUInt64).toInt64).toInt32) &&& (3 : Int32))), s17, s18, s19, s20, s21, s22] [(.int (2 : Int32)), (.int ((((j8.toUInt64 >>> ((32 : Int32) &&& 0x3f).toInt64.toUInt64).toInt64).toInt32) &&& (3 : Int32)))])) _
  refine XS.icmpNo X0.here hx rfl (hb hby at_152) rfl (teq hc152).2 ?_
  show Steps p.tables e below (T0.setTop (mkF m 155 #[s0, s1, s2, s3, s4, s5, s6, s7, .val (.long j8), .second, s10, s11, s12, s13, s14, s15, .val (.int ((((j8.toUInt64 >>> ((32 : Int32) &&& 0x3f).toInt64.toUInt64).toInt64).toInt32) &&& (3 : Int32))), s17, s18, s19, s20, s21, s22] [])) _
  refine XS.iconst X0.here hx rfl (hb hby at_155) ?_
  show Steps p.tables e below (T0.setTop (mkF m 156 #[s0, s1, s2, s3, s4, s5, s6, s7, .val (.long j8), .second, s10, s11, s12, s13, s14, s15, .val (.int ((((j8.toUInt64 >>> ((32 : Int32) &&& 0x3f).toInt64.toUInt64).toInt64).toInt32) &&& (3 : Int32))), s17, s18, s19, s20, s21, s22] [(.int (-1 : Int32))])) _
  refine XS.istore X0.here hx rfl (hb hby at_156) rfl (l' := #[s0, s1, s2, s3, s4, s5, s6, s7, .val (.long j8), .second, s10, s11, s12, s13, s14, s15, .val (.int ((((j8.toUInt64 >>> ((32 : Int32) &&& 0x3f).toInt64.toUInt64).toInt64).toInt32) &&& (3 : Int32))), .val (.int (-1 : Int32)), s18, s19, s20, s21, s22]) (os0_156 hs17) ?_
  show Steps p.tables e below (T0.setTop (mkF m 158 #[s0, s1, s2, s3, s4, s5, s6, s7, .val (.long j8), .second, s10, s11, s12, s13, s14, s15, .val (.int ((((j8.toUInt64 >>> ((32 : Int32) &&& 0x3f).toInt64.toUInt64).toInt64).toInt32) &&& (3 : Int32))), .val (.int (-1 : Int32)), s18, s19, s20, s21, s22] [])) _
  refine XS.goto X0.here hx rfl (pc0 := 158) (pc' := 179) rfl (hb hby at_158) (by decide) (by decide) ?_
  exact kt
theorem os0_134_ttf {s0 : Slot} {s1 : Slot} {s2 : Slot} {s3 : Slot} {s4 : Slot} {s5 : Slot} {s6 : Slot} {s7 : Slot} {z8 : Value} {s10 : Slot} {s11 : Slot} {s12 : Slot} {s13 : Slot} {s14 : Slot} {s15 : Slot} {s16 : Slot} {s17 : Slot} {s18 : Slot} {s19 : Slot} {s20 : Slot} {s21 : Slot} {s22 : Slot} {v : Int32} (h : One s16) : storeLocals #[s0, s1, s2, s3, s4, s5, s6, s7, .val z8, .second, s10, s11, s12, s13, s14, s15, s16, s17, s18, s19, s20, s21, s22] 16 (.int v) = some #[s0, s1, s2, s3, s4, s5, s6, s7, .val z8, .second, s10, s11, s12, s13, s14, s15, .val (.int v), s17, s18, s19, s20, s21, s22] := by
  rcases h with rfl | ⟨w, rfl, hw⟩
  · rfl
  · cases w <;> first | rfl | (simp [Value.category] at hw)
theorem os0_169 {s0 : Slot} {s1 : Slot} {s2 : Slot} {s3 : Slot} {s4 : Slot} {s5 : Slot} {s6 : Slot} {s7 : Slot} {z8 : Value} {s10 : Slot} {s11 : Slot} {s12 : Slot} {s13 : Slot} {s14 : Slot} {s15 : Slot} {z16 : Value} {s17 : Slot} {s18 : Slot} {s19 : Slot} {s20 : Slot} {s21 : Slot} {s22 : Slot} {v : Int32} (h : One s17) : storeLocals #[s0, s1, s2, s3, s4, s5, s6, s7, .val z8, .second, s10, s11, s12, s13, s14, s15, .val z16, s17, s18, s19, s20, s21, s22] 17 (.int v) = some #[s0, s1, s2, s3, s4, s5, s6, s7, .val z8, .second, s10, s11, s12, s13, s14, s15, .val z16, .val (.int v), s18, s19, s20, s21, s22] := by
  rcases h with rfl | ⟨w, rfl, hw⟩
  · rfl
  · cases w <;> first | rfl | (simp [Value.category] at hw)
set_option maxRecDepth 65536 in
set_option maxHeartbeats 40000000 in
theorem tn0_126_179_ttf {p : Program} {l : Launch} {e : Env} {R : Room} {s : State} {m : MethodId} {args : Array Value} {below : List Frame} {meth : Method} {c : Code} {T0 : State} {locs : List Loc} {cells slots : Nat} {Z : State} {a0 : Array Value} {h0 : Heap} (s0 : Slot) (s1 : Slot) (s2 : Slot) (s3 : Slot) (s4 : Slot) (s5 : Slot) (s6 : Slot) (s7 : Slot) (j8 : Int64) (s10 : Slot) (s11 : Slot) (s12 : Slot) (s13 : Slot) (s14 : Slot) (s15 : Slot) (s16 : Slot) (s17 : Slot) (s18 : Slot) (s19 : Slot) (s20 : Slot) (s21 : Slot) (s22 : Slot)
    (X0 : Stand p l e R s m args below meth c T0 locs cells slots) (hx : p.tables.exec = Jvm.exec) (hZ : Z.Warmed39 s.vm) (hw : ∀ d ∈ tables_1, d.before a0 Z = true) (hby : c.code = code) (hml : c.maxLocals = 23) (hown : s.vm.findClass "com/example/cablegram/cablegram/engine/EnvelopeMatchesPinLaw" = some m.cls) (e0 : T0.heap = h0) (hs16 : One s16) (hs17 : One s17) (hc139 : ¬ (((((j8.toUInt64 >>> ((32 : Int32) &&& 0x3f).toInt64.toUInt64).toInt64).toInt32) &&& (3 : Int32)) = (1 : Int32))) (hc152 : ¬ (((((j8.toUInt64 >>> ((32 : Int32) &&& 0x3f).toInt64.toUInt64).toInt64).toInt32) &&& (3 : Int32)) = (2 : Int32))) (hc164 : ((((j8.toUInt64 >>> ((32 : Int32) &&& 0x3f).toInt64.toUInt64).toInt64).toInt32) &&& (3 : Int32)) = (3 : Int32)) :
    ∃ (T' : State), Stand p l e R s m args below meth c T' locs cells slots ∧ T'.heap = h0 ∧
      ∀ target, Steps p.tables e below (T'.setTop (mkF m 179 #[s0, s1, s2, s3, s4, s5, s6, s7, .val (.long j8), .second, s10, s11, s12, s13, s14, s15, .val (.int ((((j8.toUInt64 >>> ((32 : Int32) &&& 0x3f).toInt64.toUInt64).toInt64).toInt32) &&& (3 : Int32))), .val (.int (-2147483648 : Int32)), s18, s19, s20, s21, s22] [])) target → Steps p.tables e below (T0.setTop (mkF m 126 #[s0, s1, s2, s3, s4, s5, s6, s7, .val (.long j8), .second, s10, s11, s12, s13, s14, s15, s16, s17, s18, s19, s20, s21, s22] [])) target := by
  -- 3. LAWS

  refine ⟨T0, X0, e0, fun target kt => ?_⟩
  -- 4. STEPS
  show Steps p.tables e below (T0.setTop (mkF m 126 #[s0, s1, s2, s3, s4, s5, s6, s7, .val (.long j8), .second, s10, s11, s12, s13, s14, s15, s16, s17, s18, s19, s20, s21, s22] [])) _
  refine XS.lload X0.here hx rfl (hb hby at_126) rfl ?_
  show Steps p.tables e below (T0.setTop (mkF m 128 #[s0, s1, s2, s3, s4, s5, s6, s7, .val (.long j8), .second, s10, s11, s12, s13, s14, s15, s16, s17, s18, s19, s20, s21, s22] [(.long j8)])) _
  refine XS.bipush X0.here hx rfl (hb hby at_128) ?_
  show Steps p.tables e below (T0.setTop (mkF m 130 #[s0, s1, s2, s3, s4, s5, s6, s7, .val (.long j8), .second, s10, s11, s12, s13, s14, s15, s16, s17, s18, s19, s20, s21, s22] [(.int (32 : Int32)), (.long j8)])) _
  refine XS.lushr X0.here hx rfl (hb hby at_130) rfl ?_
  show Steps p.tables e below (T0.setTop (mkF m 131 #[s0, s1, s2, s3, s4, s5, s6, s7, .val (.long j8), .second, s10, s11, s12, s13, s14, s15, s16, s17, s18, s19, s20, s21, s22] [(.long ((j8.toUInt64 >>> ((32 : Int32) &&& 0x3f).toInt64.toUInt64).toInt64))])) _
  refine XS.l2i X0.here hx rfl (hb hby at_131) rfl ?_
  show Steps p.tables e below (T0.setTop (mkF m 132 #[s0, s1, s2, s3, s4, s5, s6, s7, .val (.long j8), .second, s10, s11, s12, s13, s14, s15, s16, s17, s18, s19, s20, s21, s22] [(.int (((j8.toUInt64 >>> ((32 : Int32) &&& 0x3f).toInt64.toUInt64).toInt64).toInt32))])) _
  refine XS.iconst X0.here hx rfl (hb hby at_132) ?_
  show Steps p.tables e below (T0.setTop (mkF m 133 #[s0, s1, s2, s3, s4, s5, s6, s7, .val (.long j8), .second, s10, s11, s12, s13, s14, s15, s16, s17, s18, s19, s20, s21, s22] [(.int (3 : Int32)), (.int (((j8.toUInt64 >>> ((32 : Int32) &&& 0x3f).toInt64.toUInt64).toInt64).toInt32))])) _
  refine XS.iand X0.here hx rfl (hb hby at_133) rfl ?_
  show Steps p.tables e below (T0.setTop (mkF m 134 #[s0, s1, s2, s3, s4, s5, s6, s7, .val (.long j8), .second, s10, s11, s12, s13, s14, s15, s16, s17, s18, s19, s20, s21, s22] [(.int ((((j8.toUInt64 >>> ((32 : Int32) &&& 0x3f).toInt64.toUInt64).toInt64).toInt32) &&& (3 : Int32)))])) _
  refine XS.istore X0.here hx rfl (hb hby at_134) rfl (l' := #[s0, s1, s2, s3, s4, s5, s6, s7, .val (.long j8), .second, s10, s11, s12, s13, s14, s15, .val (.int ((((j8.toUInt64 >>> ((32 : Int32) &&& 0x3f).toInt64.toUInt64).toInt64).toInt32) &&& (3 : Int32))), s17, s18, s19, s20, s21, s22]) (os0_134_ttf hs16) ?_
  show Steps p.tables e below (T0.setTop (mkF m 136 #[s0, s1, s2, s3, s4, s5, s6, s7, .val (.long j8), .second, s10, s11, s12, s13, s14, s15, .val (.int ((((j8.toUInt64 >>> ((32 : Int32) &&& 0x3f).toInt64.toUInt64).toInt64).toInt32) &&& (3 : Int32))), s17, s18, s19, s20, s21, s22] [])) _
  refine XS.iload X0.here hx rfl (hb hby at_136) rfl ?_
  show Steps p.tables e below (T0.setTop (mkF m 138 #[s0, s1, s2, s3, s4, s5, s6, s7, .val (.long j8), .second, s10, s11, s12, s13, s14, s15, .val (.int ((((j8.toUInt64 >>> ((32 : Int32) &&& 0x3f).toInt64.toUInt64).toInt64).toInt32) &&& (3 : Int32))), s17, s18, s19, s20, s21, s22] [(.int ((((j8.toUInt64 >>> ((32 : Int32) &&& 0x3f).toInt64.toUInt64).toInt64).toInt32) &&& (3 : Int32)))])) _
  refine XS.iconst X0.here hx rfl (hb hby at_138) ?_
  show Steps p.tables e below (T0.setTop (mkF m 139 #[s0, s1, s2, s3, s4, s5, s6, s7, .val (.long j8), .second, s10, s11, s12, s13, s14, s15, .val (.int ((((j8.toUInt64 >>> ((32 : Int32) &&& 0x3f).toInt64.toUInt64).toInt64).toInt32) &&& (3 : Int32))), s17, s18, s19, s20, s21, s22] [(.int (1 : Int32)), (.int ((((j8.toUInt64 >>> ((32 : Int32) &&& 0x3f).toInt64.toUInt64).toInt64).toInt32) &&& (3 : Int32)))])) _
  refine XS.icmpYes X0.here hx rfl (pc0 := 139) (pc' := 149) rfl (hb hby at_139) rfl (feq hc139).2 (by decide) (by decide) ?_
  show Steps p.tables e below (T0.setTop (mkF m 149 #[s0, s1, s2, s3, s4, s5, s6, s7, .val (.long j8), .second, s10, s11, s12, s13, s14, s15, .val (.int ((((j8.toUInt64 >>> ((32 : Int32) &&& 0x3f).toInt64.toUInt64).toInt64).toInt32) &&& (3 : Int32))), s17, s18, s19, s20, s21, s22] [])) _
  refine XS.iload X0.here hx rfl (hb hby at_149) rfl ?_
  show Steps p.tables e below (T0.setTop (mkF m 151 #[s0, s1, s2, s3, s4, s5, s6, s7, .val (.long j8), .second, s10, s11, s12, s13, s14, s15, .val (.int ((((j8.toUInt64 >>> ((32 : Int32) &&& 0x3f).toInt64.toUInt64).toInt64).toInt32) &&& (3 : Int32))), s17, s18, s19, s20, s21, s22] [(.int ((((j8.toUInt64 >>> ((32 : Int32) &&& 0x3f).toInt64.toUInt64).toInt64).toInt32) &&& (3 : Int32)))])) _
  refine XS.iconst X0.here hx rfl (hb hby at_151) ?_
  show Steps p.tables e below (T0.setTop (mkF m 152 #[s0, s1, s2, s3, s4, s5, s6, s7, .val (.long j8), .second, s10, s11, s12, s13, s14, s15, .val (.int ((((j8.toUInt64 >>> ((32 : Int32) &&& 0x3f).toInt64.toUInt64).toInt64).toInt32) &&& (3 : Int32))), s17, s18, s19, s20, s21, s22] [(.int (2 : Int32)), (.int ((((j8.toUInt64 >>> ((32 : Int32) &&& 0x3f).toInt64.toUInt64).toInt64).toInt32) &&& (3 : Int32)))])) _
  refine XS.icmpYes X0.here hx rfl (pc0 := 152) (pc' := 161) rfl (hb hby at_152) rfl (feq hc152).2 (by decide) (by decide) ?_
  show Steps p.tables e below (T0.setTop (mkF m 161 #[s0, s1, s2, s3, s4, s5, s6, s7, .val (.long j8), .second, s10, s11, s12, s13, s14, s15, .val (.int ((((j8.toUInt64 >>> ((32 : Int32) &&& 0x3f).toInt64.toUInt64).toInt64).toInt32) &&& (3 : Int32))), s17, s18, s19, s20, s21, s22] [])) _
  refine XS.iload X0.here hx rfl (hb hby at_161) rfl ?_
  show Steps p.tables e below (T0.setTop (mkF m 163 #[s0, s1, s2, s3, s4, s5, s6, s7, .val (.long j8), .second, s10, s11, s12, s13, s14, s15, .val (.int ((((j8.toUInt64 >>> ((32 : Int32) &&& 0x3f).toInt64.toUInt64).toInt64).toInt32) &&& (3 : Int32))), s17, s18, s19, s20, s21, s22] [(.int ((((j8.toUInt64 >>> ((32 : Int32) &&& 0x3f).toInt64.toUInt64).toInt64).toInt32) &&& (3 : Int32)))])) _
  refine XS.iconst X0.here hx rfl (hb hby at_163) ?_
  show Steps p.tables e below (T0.setTop (mkF m 164 #[s0, s1, s2, s3, s4, s5, s6, s7, .val (.long j8), .second, s10, s11, s12, s13, s14, s15, .val (.int ((((j8.toUInt64 >>> ((32 : Int32) &&& 0x3f).toInt64.toUInt64).toInt64).toInt32) &&& (3 : Int32))), s17, s18, s19, s20, s21, s22] [(.int (3 : Int32)), (.int ((((j8.toUInt64 >>> ((32 : Int32) &&& 0x3f).toInt64.toUInt64).toInt64).toInt32) &&& (3 : Int32)))])) _
  refine XS.icmpNo X0.here hx rfl (hb hby at_164) rfl (teq hc164).2 ?_
  show Steps p.tables e below (T0.setTop (mkF m 167 #[s0, s1, s2, s3, s4, s5, s6, s7, .val (.long j8), .second, s10, s11, s12, s13, s14, s15, .val (.int ((((j8.toUInt64 >>> ((32 : Int32) &&& 0x3f).toInt64.toUInt64).toInt64).toInt32) &&& (3 : Int32))), s17, s18, s19, s20, s21, s22] [])) _
  refine X0.ldcInt hx hown (mvT hZ (hw _ (List.mem_of_getElem? (i := 4) rfl))) (g := (mkF m 167 #[s0, s1, s2, s3, s4, s5, s6, s7, .val (.long j8), .second, s10, s11, s12, s13, s14, s15, .val (.int ((((j8.toUInt64 >>> ((32 : Int32) &&& 0x3f).toInt64.toUInt64).toInt64).toInt32) &&& (3 : Int32))), s17, s18, s19, s20, s21, s22] [])) rfl (hb hby at_167) _ ?_
  show Steps p.tables e below (T0.setTop (mkF m 169 #[s0, s1, s2, s3, s4, s5, s6, s7, .val (.long j8), .second, s10, s11, s12, s13, s14, s15, .val (.int ((((j8.toUInt64 >>> ((32 : Int32) &&& 0x3f).toInt64.toUInt64).toInt64).toInt32) &&& (3 : Int32))), s17, s18, s19, s20, s21, s22] [(.int (-2147483648 : Int32))])) _
  refine XS.istore X0.here hx rfl (hb hby at_169) rfl (l' := #[s0, s1, s2, s3, s4, s5, s6, s7, .val (.long j8), .second, s10, s11, s12, s13, s14, s15, .val (.int ((((j8.toUInt64 >>> ((32 : Int32) &&& 0x3f).toInt64.toUInt64).toInt64).toInt32) &&& (3 : Int32))), .val (.int (-2147483648 : Int32)), s18, s19, s20, s21, s22]) (os0_169 hs17) ?_
  show Steps p.tables e below (T0.setTop (mkF m 171 #[s0, s1, s2, s3, s4, s5, s6, s7, .val (.long j8), .second, s10, s11, s12, s13, s14, s15, .val (.int ((((j8.toUInt64 >>> ((32 : Int32) &&& 0x3f).toInt64.toUInt64).toInt64).toInt32) &&& (3 : Int32))), .val (.int (-2147483648 : Int32)), s18, s19, s20, s21, s22] [])) _
  refine XS.goto X0.here hx rfl (pc0 := 171) (pc' := 179) rfl (hb hby at_171) (by decide) (by decide) ?_
  exact kt
theorem os0_134_ttt {s0 : Slot} {s1 : Slot} {s2 : Slot} {s3 : Slot} {s4 : Slot} {s5 : Slot} {s6 : Slot} {s7 : Slot} {z8 : Value} {s10 : Slot} {s11 : Slot} {s12 : Slot} {s13 : Slot} {s14 : Slot} {s15 : Slot} {s16 : Slot} {s17 : Slot} {s18 : Slot} {s19 : Slot} {s20 : Slot} {s21 : Slot} {s22 : Slot} {v : Int32} (h : One s16) : storeLocals #[s0, s1, s2, s3, s4, s5, s6, s7, .val z8, .second, s10, s11, s12, s13, s14, s15, s16, s17, s18, s19, s20, s21, s22] 16 (.int v) = some #[s0, s1, s2, s3, s4, s5, s6, s7, .val z8, .second, s10, s11, s12, s13, s14, s15, .val (.int v), s17, s18, s19, s20, s21, s22] := by
  rcases h with rfl | ⟨w, rfl, hw⟩
  · rfl
  · cases w <;> first | rfl | (simp [Value.category] at hw)
theorem os0_177 {s0 : Slot} {s1 : Slot} {s2 : Slot} {s3 : Slot} {s4 : Slot} {s5 : Slot} {s6 : Slot} {s7 : Slot} {z8 : Value} {s10 : Slot} {s11 : Slot} {s12 : Slot} {s13 : Slot} {s14 : Slot} {s15 : Slot} {z16 : Value} {s17 : Slot} {s18 : Slot} {s19 : Slot} {s20 : Slot} {s21 : Slot} {s22 : Slot} {v : Int32} (h : One s17) : storeLocals #[s0, s1, s2, s3, s4, s5, s6, s7, .val z8, .second, s10, s11, s12, s13, s14, s15, .val z16, s17, s18, s19, s20, s21, s22] 17 (.int v) = some #[s0, s1, s2, s3, s4, s5, s6, s7, .val z8, .second, s10, s11, s12, s13, s14, s15, .val z16, .val (.int v), s18, s19, s20, s21, s22] := by
  rcases h with rfl | ⟨w, rfl, hw⟩
  · rfl
  · cases w <;> first | rfl | (simp [Value.category] at hw)
set_option maxRecDepth 65536 in
set_option maxHeartbeats 40000000 in
theorem tn0_126_179_ttt {p : Program} {l : Launch} {e : Env} {R : Room} {s : State} {m : MethodId} {args : Array Value} {below : List Frame} {meth : Method} {c : Code} {T0 : State} {locs : List Loc} {cells slots : Nat} {Z : State} {a0 : Array Value} {h0 : Heap} (s0 : Slot) (s1 : Slot) (s2 : Slot) (s3 : Slot) (s4 : Slot) (s5 : Slot) (s6 : Slot) (s7 : Slot) (j8 : Int64) (s10 : Slot) (s11 : Slot) (s12 : Slot) (s13 : Slot) (s14 : Slot) (s15 : Slot) (s16 : Slot) (s17 : Slot) (s18 : Slot) (s19 : Slot) (s20 : Slot) (s21 : Slot) (s22 : Slot)
    (X0 : Stand p l e R s m args below meth c T0 locs cells slots) (hx : p.tables.exec = Jvm.exec) (hZ : Z.Warmed39 s.vm) (hw : ∀ d ∈ tables_1, d.before a0 Z = true) (hby : c.code = code) (hml : c.maxLocals = 23) (hown : s.vm.findClass "com/example/cablegram/cablegram/engine/EnvelopeMatchesPinLaw" = some m.cls) (e0 : T0.heap = h0) (hs16 : One s16) (hs17 : One s17) (hc139 : ¬ (((((j8.toUInt64 >>> ((32 : Int32) &&& 0x3f).toInt64.toUInt64).toInt64).toInt32) &&& (3 : Int32)) = (1 : Int32))) (hc152 : ¬ (((((j8.toUInt64 >>> ((32 : Int32) &&& 0x3f).toInt64.toUInt64).toInt64).toInt32) &&& (3 : Int32)) = (2 : Int32))) (hc164 : ¬ (((((j8.toUInt64 >>> ((32 : Int32) &&& 0x3f).toInt64.toUInt64).toInt64).toInt32) &&& (3 : Int32)) = (3 : Int32))) :
    ∃ (T' : State), Stand p l e R s m args below meth c T' locs cells slots ∧ T'.heap = h0 ∧
      ∀ target, Steps p.tables e below (T'.setTop (mkF m 179 #[s0, s1, s2, s3, s4, s5, s6, s7, .val (.long j8), .second, s10, s11, s12, s13, s14, s15, .val (.int ((((j8.toUInt64 >>> ((32 : Int32) &&& 0x3f).toInt64.toUInt64).toInt64).toInt32) &&& (3 : Int32))), .val (.int (j8.toInt32)), s18, s19, s20, s21, s22] [])) target → Steps p.tables e below (T0.setTop (mkF m 126 #[s0, s1, s2, s3, s4, s5, s6, s7, .val (.long j8), .second, s10, s11, s12, s13, s14, s15, s16, s17, s18, s19, s20, s21, s22] [])) target := by
  -- 3. LAWS

  refine ⟨T0, X0, e0, fun target kt => ?_⟩
  -- 4. STEPS
  show Steps p.tables e below (T0.setTop (mkF m 126 #[s0, s1, s2, s3, s4, s5, s6, s7, .val (.long j8), .second, s10, s11, s12, s13, s14, s15, s16, s17, s18, s19, s20, s21, s22] [])) _
  refine XS.lload X0.here hx rfl (hb hby at_126) rfl ?_
  show Steps p.tables e below (T0.setTop (mkF m 128 #[s0, s1, s2, s3, s4, s5, s6, s7, .val (.long j8), .second, s10, s11, s12, s13, s14, s15, s16, s17, s18, s19, s20, s21, s22] [(.long j8)])) _
  refine XS.bipush X0.here hx rfl (hb hby at_128) ?_
  show Steps p.tables e below (T0.setTop (mkF m 130 #[s0, s1, s2, s3, s4, s5, s6, s7, .val (.long j8), .second, s10, s11, s12, s13, s14, s15, s16, s17, s18, s19, s20, s21, s22] [(.int (32 : Int32)), (.long j8)])) _
  refine XS.lushr X0.here hx rfl (hb hby at_130) rfl ?_
  show Steps p.tables e below (T0.setTop (mkF m 131 #[s0, s1, s2, s3, s4, s5, s6, s7, .val (.long j8), .second, s10, s11, s12, s13, s14, s15, s16, s17, s18, s19, s20, s21, s22] [(.long ((j8.toUInt64 >>> ((32 : Int32) &&& 0x3f).toInt64.toUInt64).toInt64))])) _
  refine XS.l2i X0.here hx rfl (hb hby at_131) rfl ?_
  show Steps p.tables e below (T0.setTop (mkF m 132 #[s0, s1, s2, s3, s4, s5, s6, s7, .val (.long j8), .second, s10, s11, s12, s13, s14, s15, s16, s17, s18, s19, s20, s21, s22] [(.int (((j8.toUInt64 >>> ((32 : Int32) &&& 0x3f).toInt64.toUInt64).toInt64).toInt32))])) _
  refine XS.iconst X0.here hx rfl (hb hby at_132) ?_
  show Steps p.tables e below (T0.setTop (mkF m 133 #[s0, s1, s2, s3, s4, s5, s6, s7, .val (.long j8), .second, s10, s11, s12, s13, s14, s15, s16, s17, s18, s19, s20, s21, s22] [(.int (3 : Int32)), (.int (((j8.toUInt64 >>> ((32 : Int32) &&& 0x3f).toInt64.toUInt64).toInt64).toInt32))])) _
  refine XS.iand X0.here hx rfl (hb hby at_133) rfl ?_
  show Steps p.tables e below (T0.setTop (mkF m 134 #[s0, s1, s2, s3, s4, s5, s6, s7, .val (.long j8), .second, s10, s11, s12, s13, s14, s15, s16, s17, s18, s19, s20, s21, s22] [(.int ((((j8.toUInt64 >>> ((32 : Int32) &&& 0x3f).toInt64.toUInt64).toInt64).toInt32) &&& (3 : Int32)))])) _
  refine XS.istore X0.here hx rfl (hb hby at_134) rfl (l' := #[s0, s1, s2, s3, s4, s5, s6, s7, .val (.long j8), .second, s10, s11, s12, s13, s14, s15, .val (.int ((((j8.toUInt64 >>> ((32 : Int32) &&& 0x3f).toInt64.toUInt64).toInt64).toInt32) &&& (3 : Int32))), s17, s18, s19, s20, s21, s22]) (os0_134_ttt hs16) ?_
  show Steps p.tables e below (T0.setTop (mkF m 136 #[s0, s1, s2, s3, s4, s5, s6, s7, .val (.long j8), .second, s10, s11, s12, s13, s14, s15, .val (.int ((((j8.toUInt64 >>> ((32 : Int32) &&& 0x3f).toInt64.toUInt64).toInt64).toInt32) &&& (3 : Int32))), s17, s18, s19, s20, s21, s22] [])) _
  refine XS.iload X0.here hx rfl (hb hby at_136) rfl ?_
  show Steps p.tables e below (T0.setTop (mkF m 138 #[s0, s1, s2, s3, s4, s5, s6, s7, .val (.long j8), .second, s10, s11, s12, s13, s14, s15, .val (.int ((((j8.toUInt64 >>> ((32 : Int32) &&& 0x3f).toInt64.toUInt64).toInt64).toInt32) &&& (3 : Int32))), s17, s18, s19, s20, s21, s22] [(.int ((((j8.toUInt64 >>> ((32 : Int32) &&& 0x3f).toInt64.toUInt64).toInt64).toInt32) &&& (3 : Int32)))])) _
  refine XS.iconst X0.here hx rfl (hb hby at_138) ?_
  show Steps p.tables e below (T0.setTop (mkF m 139 #[s0, s1, s2, s3, s4, s5, s6, s7, .val (.long j8), .second, s10, s11, s12, s13, s14, s15, .val (.int ((((j8.toUInt64 >>> ((32 : Int32) &&& 0x3f).toInt64.toUInt64).toInt64).toInt32) &&& (3 : Int32))), s17, s18, s19, s20, s21, s22] [(.int (1 : Int32)), (.int ((((j8.toUInt64 >>> ((32 : Int32) &&& 0x3f).toInt64.toUInt64).toInt64).toInt32) &&& (3 : Int32)))])) _
  refine XS.icmpYes X0.here hx rfl (pc0 := 139) (pc' := 149) rfl (hb hby at_139) rfl (feq hc139).2 (by decide) (by decide) ?_
  show Steps p.tables e below (T0.setTop (mkF m 149 #[s0, s1, s2, s3, s4, s5, s6, s7, .val (.long j8), .second, s10, s11, s12, s13, s14, s15, .val (.int ((((j8.toUInt64 >>> ((32 : Int32) &&& 0x3f).toInt64.toUInt64).toInt64).toInt32) &&& (3 : Int32))), s17, s18, s19, s20, s21, s22] [])) _
  refine XS.iload X0.here hx rfl (hb hby at_149) rfl ?_
  show Steps p.tables e below (T0.setTop (mkF m 151 #[s0, s1, s2, s3, s4, s5, s6, s7, .val (.long j8), .second, s10, s11, s12, s13, s14, s15, .val (.int ((((j8.toUInt64 >>> ((32 : Int32) &&& 0x3f).toInt64.toUInt64).toInt64).toInt32) &&& (3 : Int32))), s17, s18, s19, s20, s21, s22] [(.int ((((j8.toUInt64 >>> ((32 : Int32) &&& 0x3f).toInt64.toUInt64).toInt64).toInt32) &&& (3 : Int32)))])) _
  refine XS.iconst X0.here hx rfl (hb hby at_151) ?_
  show Steps p.tables e below (T0.setTop (mkF m 152 #[s0, s1, s2, s3, s4, s5, s6, s7, .val (.long j8), .second, s10, s11, s12, s13, s14, s15, .val (.int ((((j8.toUInt64 >>> ((32 : Int32) &&& 0x3f).toInt64.toUInt64).toInt64).toInt32) &&& (3 : Int32))), s17, s18, s19, s20, s21, s22] [(.int (2 : Int32)), (.int ((((j8.toUInt64 >>> ((32 : Int32) &&& 0x3f).toInt64.toUInt64).toInt64).toInt32) &&& (3 : Int32)))])) _
  refine XS.icmpYes X0.here hx rfl (pc0 := 152) (pc' := 161) rfl (hb hby at_152) rfl (feq hc152).2 (by decide) (by decide) ?_
  show Steps p.tables e below (T0.setTop (mkF m 161 #[s0, s1, s2, s3, s4, s5, s6, s7, .val (.long j8), .second, s10, s11, s12, s13, s14, s15, .val (.int ((((j8.toUInt64 >>> ((32 : Int32) &&& 0x3f).toInt64.toUInt64).toInt64).toInt32) &&& (3 : Int32))), s17, s18, s19, s20, s21, s22] [])) _
  refine XS.iload X0.here hx rfl (hb hby at_161) rfl ?_
  show Steps p.tables e below (T0.setTop (mkF m 163 #[s0, s1, s2, s3, s4, s5, s6, s7, .val (.long j8), .second, s10, s11, s12, s13, s14, s15, .val (.int ((((j8.toUInt64 >>> ((32 : Int32) &&& 0x3f).toInt64.toUInt64).toInt64).toInt32) &&& (3 : Int32))), s17, s18, s19, s20, s21, s22] [(.int ((((j8.toUInt64 >>> ((32 : Int32) &&& 0x3f).toInt64.toUInt64).toInt64).toInt32) &&& (3 : Int32)))])) _
  refine XS.iconst X0.here hx rfl (hb hby at_163) ?_
  show Steps p.tables e below (T0.setTop (mkF m 164 #[s0, s1, s2, s3, s4, s5, s6, s7, .val (.long j8), .second, s10, s11, s12, s13, s14, s15, .val (.int ((((j8.toUInt64 >>> ((32 : Int32) &&& 0x3f).toInt64.toUInt64).toInt64).toInt32) &&& (3 : Int32))), s17, s18, s19, s20, s21, s22] [(.int (3 : Int32)), (.int ((((j8.toUInt64 >>> ((32 : Int32) &&& 0x3f).toInt64.toUInt64).toInt64).toInt32) &&& (3 : Int32)))])) _
  refine XS.icmpYes X0.here hx rfl (pc0 := 164) (pc' := 174) rfl (hb hby at_164) rfl (feq hc164).2 (by decide) (by decide) ?_
  show Steps p.tables e below (T0.setTop (mkF m 174 #[s0, s1, s2, s3, s4, s5, s6, s7, .val (.long j8), .second, s10, s11, s12, s13, s14, s15, .val (.int ((((j8.toUInt64 >>> ((32 : Int32) &&& 0x3f).toInt64.toUInt64).toInt64).toInt32) &&& (3 : Int32))), s17, s18, s19, s20, s21, s22] [])) _
  refine XS.lload X0.here hx rfl (hb hby at_174) rfl ?_
  show Steps p.tables e below (T0.setTop (mkF m 176 #[s0, s1, s2, s3, s4, s5, s6, s7, .val (.long j8), .second, s10, s11, s12, s13, s14, s15, .val (.int ((((j8.toUInt64 >>> ((32 : Int32) &&& 0x3f).toInt64.toUInt64).toInt64).toInt32) &&& (3 : Int32))), s17, s18, s19, s20, s21, s22] [(.long j8)])) _
  refine XS.l2i X0.here hx rfl (hb hby at_176) rfl ?_
  show Steps p.tables e below (T0.setTop (mkF m 177 #[s0, s1, s2, s3, s4, s5, s6, s7, .val (.long j8), .second, s10, s11, s12, s13, s14, s15, .val (.int ((((j8.toUInt64 >>> ((32 : Int32) &&& 0x3f).toInt64.toUInt64).toInt64).toInt32) &&& (3 : Int32))), s17, s18, s19, s20, s21, s22] [(.int (j8.toInt32))])) _
  refine XS.istore X0.here hx rfl (hb hby at_177) rfl (l' := #[s0, s1, s2, s3, s4, s5, s6, s7, .val (.long j8), .second, s10, s11, s12, s13, s14, s15, .val (.int ((((j8.toUInt64 >>> ((32 : Int32) &&& 0x3f).toInt64.toUInt64).toInt64).toInt32) &&& (3 : Int32))), .val (.int (j8.toInt32)), s18, s19, s20, s21, s22]) (os0_177 hs17) ?_
  exact kt
theorem sgD {p : Program} {l : Launch} {e : Env} {R : Room} {s : State} {m : MethodId} {args : Array Value} {below : List Frame} {meth : Method} {c : Code} {T0 : State} {locs : List Loc} {cells slots : Nat} {Z : State} {a0 : Array Value} {h0 : Heap} (s0 : Slot) (s1 : Slot) (s2 : Slot) (s3 : Slot) (s4 : Slot) (s5 : Slot) (s6 : Slot) (s7 : Slot) (j8 : Int64) (s10 : Slot) (i11 : Int32) (s12 : Slot) (s13 : Slot) (s14 : Slot) (s15 : Slot) (s16 : Slot) (s17 : Slot) (s18 : Slot) (s19 : Slot) (s20 : Slot) (s21 : Slot) (s22 : Slot)
    (X0 : Stand p l e R s m args below meth c T0 locs cells slots) (hx : p.tables.exec = Jvm.exec) (hZ : Z.Warmed39 s.vm) (hw : ∀ d ∈ tables_1, d.before a0 Z = true) (hby : c.code = code) (hml : c.maxLocals = 23) (hown : s.vm.findClass "com/example/cablegram/cablegram/engine/EnvelopeMatchesPinLaw" = some m.cls) (e0 : T0.heap = h0) (hs16 : One s16) (hs17 : One s17) :
    ∃ (T' : State), Stand p l e R s m args below meth c T' locs cells slots ∧ T'.heap = h0 ∧
      ∀ target, Steps p.tables e below (T'.setTop (mkF m 179 #[s0, s1, s2, s3, s4, s5, s6, s7, .val (.long j8), .second, s10, .val (.int i11), s12, s13, s14, s15, .val (.int ((((j8.toUInt64 >>> ((32 : Int32) &&& 0x3f).toInt64.toUInt64).toInt64).toInt32) &&& (3 : Int32))), .val (.int (own_with ((((j8.toUInt64 >>> ((32 : Int32) &&& 0x3f).toInt64.toUInt64).toInt64).toInt32) &&& (3 : Int32)) i11 (j8.toInt32))), s18, s19, s20, s21, s22] [])) target → Steps p.tables e below (T0.setTop (mkF m 126 #[s0, s1, s2, s3, s4, s5, s6, s7, .val (.long j8), .second, s10, .val (.int i11), s12, s13, s14, s15, s16, s17, s18, s19, s20, s21, s22] [])) target := by
  by_cases h0 : ((((j8.toUInt64 >>> ((32 : Int32) &&& 0x3f).toInt64.toUInt64).toInt64).toInt32) &&& (3 : Int32)) = (1 : Int32)
  · rw [show own_with ((((j8.toUInt64 >>> ((32 : Int32) &&& 0x3f).toInt64.toUInt64).toInt64).toInt32) &&& (3 : Int32)) i11 (j8.toInt32) = i11 from by unfold own_with; rw [if_pos h0]]
    exact tn0_126_179_f _ _ _ _ _ _ _ _ _ _ _ _ _ _ _ _ _ _ _ _ _ _ X0 hx hZ hw hby hml hown e0 (by first | exact own_oneU | exact own_oneI | exact own_oneR | assumption) (by first | exact own_oneU | exact own_oneI | exact own_oneR | assumption) h0
  by_cases h1 : ((((j8.toUInt64 >>> ((32 : Int32) &&& 0x3f).toInt64.toUInt64).toInt64).toInt32) &&& (3 : Int32)) = (2 : Int32)
  · rw [show own_with ((((j8.toUInt64 >>> ((32 : Int32) &&& 0x3f).toInt64.toUInt64).toInt64).toInt32) &&& (3 : Int32)) i11 (j8.toInt32) = (-1 : Int32) from by unfold own_with; rw [if_neg h0, if_pos h1]]
    exact tn0_126_179_tf _ _ _ _ _ _ _ _ _ _ _ _ _ _ _ _ _ _ _ _ _ _ X0 hx hZ hw hby hml hown e0 (by first | exact own_oneU | exact own_oneI | exact own_oneR | assumption) (by first | exact own_oneU | exact own_oneI | exact own_oneR | assumption) h0 h1
  by_cases h2 : ((((j8.toUInt64 >>> ((32 : Int32) &&& 0x3f).toInt64.toUInt64).toInt64).toInt32) &&& (3 : Int32)) = (3 : Int32)
  · rw [show own_with ((((j8.toUInt64 >>> ((32 : Int32) &&& 0x3f).toInt64.toUInt64).toInt64).toInt32) &&& (3 : Int32)) i11 (j8.toInt32) = (-2147483648 : Int32) from by unfold own_with; rw [if_neg h0, if_neg h1, if_pos h2]]
    exact tn0_126_179_ttf _ _ _ _ _ _ _ _ _ _ _ _ _ _ _ _ _ _ _ _ _ _ X0 hx hZ hw hby hml hown e0 (by first | exact own_oneU | exact own_oneI | exact own_oneR | assumption) (by first | exact own_oneU | exact own_oneI | exact own_oneR | assumption) h0 h1 h2
  · rw [show own_with ((((j8.toUInt64 >>> ((32 : Int32) &&& 0x3f).toInt64.toUInt64).toInt64).toInt32) &&& (3 : Int32)) i11 (j8.toInt32) = (j8.toInt32) from by unfold own_with; rw [if_neg h0, if_neg h1, if_neg h2]]
    exact tn0_126_179_ttt _ _ _ _ _ _ _ _ _ _ _ _ _ _ _ _ _ _ _ _ _ _ X0 hx hZ hw hby hml hown e0 (by first | exact own_oneU | exact own_oneI | exact own_oneR | assumption) (by first | exact own_oneU | exact own_oneI | exact own_oneR | assumption) h0 h1 h2
theorem pd_0_0 : parseMethodDescriptor "(IJIIJI)Z" = some ⟨[.int, .long, .int, .int, .long, .int], some .boolean⟩ := by decide +kernel
theorem os0_192 {z0 : Value} {z1 : Value} {s3 : Slot} {s4 : Slot} {s5 : Slot} {s6 : Slot} {s7 : Slot} {s8 : Slot} {s9 : Slot} {s10 : Slot} {z11 : Value} {s12 : Slot} {z13 : Value} {z14 : Value} {s16 : Slot} {z17 : Value} {s18 : Slot} {s19 : Slot} {s20 : Slot} {s21 : Slot} {s22 : Slot} {v : Int32} (h : One s18) : storeLocals #[.val z0, .val z1, .second, s3, s4, s5, s6, s7, s8, s9, s10, .val z11, s12, .val z13, .val z14, .second, s16, .val z17, s18, s19, s20, s21, s22] 18 (.int v) = some #[.val z0, .val z1, .second, s3, s4, s5, s6, s7, s8, s9, s10, .val z11, s12, .val z13, .val z14, .second, s16, .val z17, .val (.int v), s19, s20, s21, s22] := by
  rcases h with rfl | ⟨w, rfl, hw⟩
  · rfl
  · cases w <;> first | rfl | (simp [Value.category] at hw)
set_option maxRecDepth 65536 in
set_option maxHeartbeats 40000000 in
theorem tn0_179_194_x {p : Program} {l : Launch} {e : Env} {s : State} {m : MethodId} {args : Array Value} {below : List Frame} {meth : Method} {c : Code} {T0 : State} {locs : List Loc} {Z : State} {a0 : Array Value} {h0 : Heap} (n0 : Nat) (Z0 : n0 ≤ h0.size) (i0 : Int32) (j1 : Int64) (s3 : Slot) (s4 : Slot) (s5 : Slot) (s6 : Slot) (s7 : Slot) (s8 : Slot) (s9 : Slot) (s10 : Slot) (i11 : Int32) (s12 : Slot) (i13 : Int32) (j14 : Int64) (s16 : Slot) (i17 : Int32) (s18 : Slot) (s19 : Slot) (s20 : Slot) (s21 : Slot) (s22 : Slot)
    (X0 : Stand p l e room_1 s m args below meth c T0 locs 0 0) (hx : p.tables.exec = Jvm.exec) (hZ : Z.Warmed39 s.vm) (hw : ∀ d ∈ tables_1, d.before a0 Z = true) (hby : c.code = code) (hml : c.maxLocals = 23) (hown : s.vm.findClass "com/example/cablegram/cablegram/engine/EnvelopeMatchesPinLaw" = some m.cls) (e0 : T0.heap = h0) (hs18 : One s18) :
    ∃ (T' : State) (L' : List Loc), Stand p l e room_1 s m args below meth c T' (locs ++ L') 0 0 ∧ T'.heap = h0 ∧ Fr n0 L' ∧
      ∀ target, Steps p.tables e below (T'.setTop (mkF m 194 #[.val (.int i0), .val (.long j1), .second, s3, s4, s5, s6, s7, s8, s9, s10, .val (.int i11), s12, .val (.int i13), .val (.long j14), .second, s16, .val (.int i17), .val (.int (own_match i0 j1 i11 i13 j14 i17)), s19, s20, s21, s22] [])) target → Steps p.tables e below (T0.setTop (mkF m 179 #[.val (.int i0), .val (.long j1), .second, s3, s4, s5, s6, s7, s8, s9, s10, .val (.int i11), s12, .val (.int i13), .val (.long j14), .second, s16, .val (.int i17), s18, s19, s20, s21, s22] [])) target := by
  -- 3. LAWS
  -- pc 189: com/example/cablegram/cablegram/engine/Envelope.matches by its contract rm1
  obtain ⟨_, _, ⟨T7, L7, k7, n7⟩, -, X7, ⟨Lc7, hQ7, l7, y7, z7⟩, st7⟩ := Jvm.LawKit.callS X0 hx (y := (⟨"com/example/cablegram/cablegram/engine/Envelope", "matches", "(IJIIJI)Z"⟩ : MethodName)) hown (mvT hZ (hw _ (List.mem_of_getElem? (i := 0) rfl))) (mvT hZ (hw _ (List.mem_of_getElem? (i := 1) rfl))) (mvT hZ (hw _ (List.mem_of_getElem? (i := 2) rfl))) (mvT hZ (hw _ (List.mem_of_getElem? (i := 3) rfl))) (by decide) (backOf (W := 0) (rm1 l Z a0 hw [] i0 j1 i11 i13 j14 i17 h0 n0 Z0) hZ (hw _ (List.mem_of_getElem? (i := 3) rfl)) (hw _ (List.mem_of_getElem? (i := 2) rfl)) (by decide) (by decide)) (g := (mkF m 189 #[.val (.int i0), .val (.long j1), .second, s3, s4, s5, s6, s7, s8, s9, s10, .val (.int i11), s12, .val (.int i13), .val (.long j14), .second, s16, .val (.int i17), s18, s19, s20, s21, s22] [(.int i17), (.long j14), (.int i13), (.int i11), (.long j1), (.int i0)])) rfl (by rw [hml]; rfl) (argsL := [(.int i0), (.long j1), (.int i11), (.int i13), (.long j14), (.int i17)]) (rest := []) (lenOf pd_0_0 rfl) rfl (by show 2 * 0 + _ ≤ _; exact Nat.le_of_eq rfl) (hb hby at_189) (fun _ _ => ⟨rfl, e0, (by decide : 0 + 0 ≤ _), (by decide : 0 + 0 ≤ _)⟩)
  dsimp only [Pt.U, Pt.locs, Pt.cells, Pt.slots] at X7 l7 y7 z7 st7 hQ7
  subst l7 y7 z7
  obtain ⟨rfl, N7q, e7⟩ := hQ7
  refine ⟨T7, Lc7, X7, e7, N7q, fun target kt => ?_⟩
  -- 4. STEPS
  show Steps p.tables e below (T0.setTop (mkF m 179 #[.val (.int i0), .val (.long j1), .second, s3, s4, s5, s6, s7, s8, s9, s10, .val (.int i11), s12, .val (.int i13), .val (.long j14), .second, s16, .val (.int i17), s18, s19, s20, s21, s22] [])) _
  refine XS.iloadN X0.here hx rfl (hb hby at_179) rfl ?_
  show Steps p.tables e below (T0.setTop (mkF m 180 #[.val (.int i0), .val (.long j1), .second, s3, s4, s5, s6, s7, s8, s9, s10, .val (.int i11), s12, .val (.int i13), .val (.long j14), .second, s16, .val (.int i17), s18, s19, s20, s21, s22] [(.int i0)])) _
  refine XS.lloadN X0.here hx rfl (hb hby at_180) rfl ?_
  show Steps p.tables e below (T0.setTop (mkF m 181 #[.val (.int i0), .val (.long j1), .second, s3, s4, s5, s6, s7, s8, s9, s10, .val (.int i11), s12, .val (.int i13), .val (.long j14), .second, s16, .val (.int i17), s18, s19, s20, s21, s22] [(.long j1), (.int i0)])) _
  refine XS.iload X0.here hx rfl (hb hby at_181) rfl ?_
  show Steps p.tables e below (T0.setTop (mkF m 183 #[.val (.int i0), .val (.long j1), .second, s3, s4, s5, s6, s7, s8, s9, s10, .val (.int i11), s12, .val (.int i13), .val (.long j14), .second, s16, .val (.int i17), s18, s19, s20, s21, s22] [(.int i11), (.long j1), (.int i0)])) _
  refine XS.iload X0.here hx rfl (hb hby at_183) rfl ?_
  show Steps p.tables e below (T0.setTop (mkF m 185 #[.val (.int i0), .val (.long j1), .second, s3, s4, s5, s6, s7, s8, s9, s10, .val (.int i11), s12, .val (.int i13), .val (.long j14), .second, s16, .val (.int i17), s18, s19, s20, s21, s22] [(.int i13), (.int i11), (.long j1), (.int i0)])) _
  refine XS.lload X0.here hx rfl (hb hby at_185) rfl ?_
  show Steps p.tables e below (T0.setTop (mkF m 187 #[.val (.int i0), .val (.long j1), .second, s3, s4, s5, s6, s7, s8, s9, s10, .val (.int i11), s12, .val (.int i13), .val (.long j14), .second, s16, .val (.int i17), s18, s19, s20, s21, s22] [(.long j14), (.int i13), (.int i11), (.long j1), (.int i0)])) _
  refine XS.iload X0.here hx rfl (hb hby at_187) rfl ?_
  show Steps p.tables e below (T0.setTop (mkF m 189 #[.val (.int i0), .val (.long j1), .second, s3, s4, s5, s6, s7, s8, s9, s10, .val (.int i11), s12, .val (.int i13), .val (.long j14), .second, s16, .val (.int i17), s18, s19, s20, s21, s22] [(.int i17), (.long j14), (.int i13), (.int i11), (.long j1), (.int i0)])) _
  refine st7 _ ?_
  show Steps p.tables e below (T7.setTop (mkF m 192 #[.val (.int i0), .val (.long j1), .second, s3, s4, s5, s6, s7, s8, s9, s10, .val (.int i11), s12, .val (.int i13), .val (.long j14), .second, s16, .val (.int i17), s18, s19, s20, s21, s22] [(.int (own_match i0 j1 i11 i13 j14 i17))])) _
  refine XS.istore X7.here hx rfl (hb hby at_192) rfl (l' := #[.val (.int i0), .val (.long j1), .second, s3, s4, s5, s6, s7, s8, s9, s10, .val (.int i11), s12, .val (.int i13), .val (.long j14), .second, s16, .val (.int i17), .val (.int (own_match i0 j1 i11 i13 j14 i17)), s19, s20, s21, s22]) (os0_192 hs18) ?_
  exact kt
theorem os0_206 {s0 : Slot} {z1 : Value} {s3 : Slot} {s4 : Slot} {s5 : Slot} {s6 : Slot} {s7 : Slot} {s8 : Slot} {s9 : Slot} {s10 : Slot} {s11 : Slot} {s12 : Slot} {s13 : Slot} {z14 : Value} {s16 : Slot} {s17 : Slot} {s18 : Slot} {s19 : Slot} {s20 : Slot} {s21 : Slot} {s22 : Slot} {v : Int32} (h : One s19) : storeLocals #[s0, .val z1, .second, s3, s4, s5, s6, s7, s8, s9, s10, s11, s12, s13, .val z14, .second, s16, s17, s18, s19, s20, s21, s22] 19 (.int v) = some #[s0, .val z1, .second, s3, s4, s5, s6, s7, s8, s9, s10, s11, s12, s13, .val z14, .second, s16, s17, s18, .val (.int v), s20, s21, s22] := by
  rcases h with rfl | ⟨w, rfl, hw⟩
  · rfl
  · cases w <;> first | rfl | (simp [Value.category] at hw)
set_option maxRecDepth 65536 in
set_option maxHeartbeats 40000000 in
theorem tn0_194_208_f {p : Program} {l : Launch} {e : Env} {R : Room} {s : State} {m : MethodId} {args : Array Value} {below : List Frame} {meth : Method} {c : Code} {T0 : State} {locs : List Loc} {cells slots : Nat} {Z : State} {a0 : Array Value} {h0 : Heap} (s0 : Slot) (j1 : Int64) (s3 : Slot) (s4 : Slot) (s5 : Slot) (s6 : Slot) (s7 : Slot) (s8 : Slot) (s9 : Slot) (s10 : Slot) (s11 : Slot) (s12 : Slot) (s13 : Slot) (j14 : Int64) (s16 : Slot) (s17 : Slot) (s18 : Slot) (s19 : Slot) (s20 : Slot) (s21 : Slot) (s22 : Slot)
    (X0 : Stand p l e R s m args below meth c T0 locs cells slots) (hx : p.tables.exec = Jvm.exec) (hZ : Z.Warmed39 s.vm) (hw : ∀ d ∈ tables_1, d.before a0 Z = true) (hby : c.code = code) (hml : c.maxLocals = 23) (hown : s.vm.findClass "com/example/cablegram/cablegram/engine/EnvelopeMatchesPinLaw" = some m.cls) (e0 : T0.heap = h0) (hs19 : One s19) (hc198 : (lcmpW j14 j1) = (0 : Int32)) :
    ∃ (T' : State), Stand p l e R s m args below meth c T' locs cells slots ∧ T'.heap = h0 ∧
      ∀ target, Steps p.tables e below (T'.setTop (mkF m 208 #[s0, .val (.long j1), .second, s3, s4, s5, s6, s7, s8, s9, s10, s11, s12, s13, .val (.long j14), .second, s16, s17, s18, .val (.int (1 : Int32)), s20, s21, s22] [])) target → Steps p.tables e below (T0.setTop (mkF m 194 #[s0, .val (.long j1), .second, s3, s4, s5, s6, s7, s8, s9, s10, s11, s12, s13, .val (.long j14), .second, s16, s17, s18, s19, s20, s21, s22] [])) target := by
  -- 3. LAWS

  refine ⟨T0, X0, e0, fun target kt => ?_⟩
  -- 4. STEPS
  show Steps p.tables e below (T0.setTop (mkF m 194 #[s0, .val (.long j1), .second, s3, s4, s5, s6, s7, s8, s9, s10, s11, s12, s13, .val (.long j14), .second, s16, s17, s18, s19, s20, s21, s22] [])) _
  refine XS.lload X0.here hx rfl (hb hby at_194) rfl ?_
  show Steps p.tables e below (T0.setTop (mkF m 196 #[s0, .val (.long j1), .second, s3, s4, s5, s6, s7, s8, s9, s10, s11, s12, s13, .val (.long j14), .second, s16, s17, s18, s19, s20, s21, s22] [(.long j14)])) _
  refine XS.lloadN X0.here hx rfl (hb hby at_196) rfl ?_
  show Steps p.tables e below (T0.setTop (mkF m 197 #[s0, .val (.long j1), .second, s3, s4, s5, s6, s7, s8, s9, s10, s11, s12, s13, .val (.long j14), .second, s16, s17, s18, s19, s20, s21, s22] [(.long j1), (.long j14)])) _
  refine XS.lcmp X0.here hx rfl (hb hby at_197) rfl ?_
  show Steps p.tables e below (T0.setTop (mkF m 198 #[s0, .val (.long j1), .second, s3, s4, s5, s6, s7, s8, s9, s10, s11, s12, s13, .val (.long j14), .second, s16, s17, s18, s19, s20, s21, s22] [(.int (lcmpW j14 j1))])) _
  refine XS.ifNo X0.here hx rfl (hb hby at_198) rfl ((if0 _ _).trans (teq hc198).2) ?_
  show Steps p.tables e below (T0.setTop (mkF m 201 #[s0, .val (.long j1), .second, s3, s4, s5, s6, s7, s8, s9, s10, s11, s12, s13, .val (.long j14), .second, s16, s17, s18, s19, s20, s21, s22] [])) _
  refine XS.iconst X0.here hx rfl (hb hby at_201) ?_
  show Steps p.tables e below (T0.setTop (mkF m 202 #[s0, .val (.long j1), .second, s3, s4, s5, s6, s7, s8, s9, s10, s11, s12, s13, .val (.long j14), .second, s16, s17, s18, s19, s20, s21, s22] [(.int (1 : Int32))])) _
  refine XS.goto X0.here hx rfl (pc0 := 202) (pc' := 206) rfl (hb hby at_202) (by decide) (by decide) ?_
  show Steps p.tables e below (T0.setTop (mkF m 206 #[s0, .val (.long j1), .second, s3, s4, s5, s6, s7, s8, s9, s10, s11, s12, s13, .val (.long j14), .second, s16, s17, s18, s19, s20, s21, s22] [(.int (1 : Int32))])) _
  refine XS.istore X0.here hx rfl (hb hby at_206) rfl (l' := #[s0, .val (.long j1), .second, s3, s4, s5, s6, s7, s8, s9, s10, s11, s12, s13, .val (.long j14), .second, s16, s17, s18, .val (.int (1 : Int32)), s20, s21, s22]) (os0_206 hs19) ?_
  exact kt
set_option maxRecDepth 65536 in
set_option maxHeartbeats 40000000 in
theorem tn0_194_208_t {p : Program} {l : Launch} {e : Env} {R : Room} {s : State} {m : MethodId} {args : Array Value} {below : List Frame} {meth : Method} {c : Code} {T0 : State} {locs : List Loc} {cells slots : Nat} {Z : State} {a0 : Array Value} {h0 : Heap} (s0 : Slot) (j1 : Int64) (s3 : Slot) (s4 : Slot) (s5 : Slot) (s6 : Slot) (s7 : Slot) (s8 : Slot) (s9 : Slot) (s10 : Slot) (s11 : Slot) (s12 : Slot) (s13 : Slot) (j14 : Int64) (s16 : Slot) (s17 : Slot) (s18 : Slot) (s19 : Slot) (s20 : Slot) (s21 : Slot) (s22 : Slot)
    (X0 : Stand p l e R s m args below meth c T0 locs cells slots) (hx : p.tables.exec = Jvm.exec) (hZ : Z.Warmed39 s.vm) (hw : ∀ d ∈ tables_1, d.before a0 Z = true) (hby : c.code = code) (hml : c.maxLocals = 23) (hown : s.vm.findClass "com/example/cablegram/cablegram/engine/EnvelopeMatchesPinLaw" = some m.cls) (e0 : T0.heap = h0) (hs19 : One s19) (hc198 : ¬ ((lcmpW j14 j1) = (0 : Int32))) :
    ∃ (T' : State), Stand p l e R s m args below meth c T' locs cells slots ∧ T'.heap = h0 ∧
      ∀ target, Steps p.tables e below (T'.setTop (mkF m 208 #[s0, .val (.long j1), .second, s3, s4, s5, s6, s7, s8, s9, s10, s11, s12, s13, .val (.long j14), .second, s16, s17, s18, .val (.int (0 : Int32)), s20, s21, s22] [])) target → Steps p.tables e below (T0.setTop (mkF m 194 #[s0, .val (.long j1), .second, s3, s4, s5, s6, s7, s8, s9, s10, s11, s12, s13, .val (.long j14), .second, s16, s17, s18, s19, s20, s21, s22] [])) target := by
  -- 3. LAWS

  refine ⟨T0, X0, e0, fun target kt => ?_⟩
  -- 4. STEPS
  show Steps p.tables e below (T0.setTop (mkF m 194 #[s0, .val (.long j1), .second, s3, s4, s5, s6, s7, s8, s9, s10, s11, s12, s13, .val (.long j14), .second, s16, s17, s18, s19, s20, s21, s22] [])) _
  refine XS.lload X0.here hx rfl (hb hby at_194) rfl ?_
  show Steps p.tables e below (T0.setTop (mkF m 196 #[s0, .val (.long j1), .second, s3, s4, s5, s6, s7, s8, s9, s10, s11, s12, s13, .val (.long j14), .second, s16, s17, s18, s19, s20, s21, s22] [(.long j14)])) _
  refine XS.lloadN X0.here hx rfl (hb hby at_196) rfl ?_
  show Steps p.tables e below (T0.setTop (mkF m 197 #[s0, .val (.long j1), .second, s3, s4, s5, s6, s7, s8, s9, s10, s11, s12, s13, .val (.long j14), .second, s16, s17, s18, s19, s20, s21, s22] [(.long j1), (.long j14)])) _
  refine XS.lcmp X0.here hx rfl (hb hby at_197) rfl ?_
  show Steps p.tables e below (T0.setTop (mkF m 198 #[s0, .val (.long j1), .second, s3, s4, s5, s6, s7, s8, s9, s10, s11, s12, s13, .val (.long j14), .second, s16, s17, s18, s19, s20, s21, s22] [(.int (lcmpW j14 j1))])) _
  refine XS.ifYes X0.here hx rfl (pc0 := 198) (pc' := 205) rfl (hb hby at_198) rfl ((if0 _ _).trans (feq hc198).2) (by decide) (by decide) ?_
  show Steps p.tables e below (T0.setTop (mkF m 205 #[s0, .val (.long j1), .second, s3, s4, s5, s6, s7, s8, s9, s10, s11, s12, s13, .val (.long j14), .second, s16, s17, s18, s19, s20, s21, s22] [])) _
  refine XS.iconst X0.here hx rfl (hb hby at_205) ?_
  show Steps p.tables e below (T0.setTop (mkF m 206 #[s0, .val (.long j1), .second, s3, s4, s5, s6, s7, s8, s9, s10, s11, s12, s13, .val (.long j14), .second, s16, s17, s18, s19, s20, s21, s22] [(.int (0 : Int32))])) _
  refine XS.istore X0.here hx rfl (hb hby at_206) rfl (l' := #[s0, .val (.long j1), .second, s3, s4, s5, s6, s7, s8, s9, s10, s11, s12, s13, .val (.long j14), .second, s16, s17, s18, .val (.int (0 : Int32)), s20, s21, s22]) (os0_206 hs19) ?_
  exact kt
theorem sgF {p : Program} {l : Launch} {e : Env} {R : Room} {s : State} {m : MethodId} {args : Array Value} {below : List Frame} {meth : Method} {c : Code} {T0 : State} {locs : List Loc} {cells slots : Nat} {Z : State} {a0 : Array Value} {h0 : Heap} (s0 : Slot) (j1 : Int64) (s3 : Slot) (s4 : Slot) (s5 : Slot) (s6 : Slot) (s7 : Slot) (s8 : Slot) (s9 : Slot) (s10 : Slot) (s11 : Slot) (s12 : Slot) (s13 : Slot) (j14 : Int64) (s16 : Slot) (s17 : Slot) (s18 : Slot) (s19 : Slot) (s20 : Slot) (s21 : Slot) (s22 : Slot)
    (X0 : Stand p l e R s m args below meth c T0 locs cells slots) (hx : p.tables.exec = Jvm.exec) (hZ : Z.Warmed39 s.vm) (hw : ∀ d ∈ tables_1, d.before a0 Z = true) (hby : c.code = code) (hml : c.maxLocals = 23) (hown : s.vm.findClass "com/example/cablegram/cablegram/engine/EnvelopeMatchesPinLaw" = some m.cls) (e0 : T0.heap = h0) (hs19 : One s19) :
    ∃ (T' : State), Stand p l e R s m args below meth c T' locs cells slots ∧ T'.heap = h0 ∧
      ∀ target, Steps p.tables e below (T'.setTop (mkF m 208 #[s0, .val (.long j1), .second, s3, s4, s5, s6, s7, s8, s9, s10, s11, s12, s13, .val (.long j14), .second, s16, s17, s18, .val (.int (own_same j14 j1)), s20, s21, s22] [])) target → Steps p.tables e below (T0.setTop (mkF m 194 #[s0, .val (.long j1), .second, s3, s4, s5, s6, s7, s8, s9, s10, s11, s12, s13, .val (.long j14), .second, s16, s17, s18, s19, s20, s21, s22] [])) target := by
  by_cases h0' : j14 = j1
  · rw [show own_same j14 j1 = 1 from by unfold own_same; rw [if_pos h0']]
    exact tn0_194_208_f _ _ _ _ _ _ _ _ _ _ _ _ _ _ _ _ _ _ _ _ _ X0 hx hZ hw hby hml hown e0 (by first | exact own_oneU | exact own_oneI | exact own_oneR | assumption) (own_lc0.mpr h0')
  · rw [show own_same j14 j1 = 0 from by unfold own_same; rw [if_neg h0']]
    exact tn0_194_208_t _ _ _ _ _ _ _ _ _ _ _ _ _ _ _ _ _ _ _ _ _ X0 hx hZ hw hby hml hown e0 (by first | exact own_oneU | exact own_oneI | exact own_oneR | assumption) (fun q => h0' (own_lc0.mp q))
theorem os0_226 {s0 : Slot} {s1 : Slot} {s2 : Slot} {s3 : Slot} {s4 : Slot} {s5 : Slot} {s6 : Slot} {s7 : Slot} {s8 : Slot} {s9 : Slot} {s10 : Slot} {s11 : Slot} {s12 : Slot} {z13 : Value} {s14 : Slot} {s15 : Slot} {s16 : Slot} {s17 : Slot} {s18 : Slot} {s19 : Slot} {s20 : Slot} {s21 : Slot} {s22 : Slot} {v : Int32} (h : One s20) : storeLocals #[s0, s1, s2, s3, s4, s5, s6, s7, s8, s9, s10, s11, s12, .val z13, s14, s15, s16, s17, s18, s19, s20, s21, s22] 20 (.int v) = some #[s0, s1, s2, s3, s4, s5, s6, s7, s8, s9, s10, s11, s12, .val z13, s14, s15, s16, s17, s18, s19, .val (.int v), s21, s22] := by
  rcases h with rfl | ⟨w, rfl, hw⟩
  · rfl
  · cases w <;> first | rfl | (simp [Value.category] at hw)
set_option maxRecDepth 65536 in
set_option maxHeartbeats 40000000 in
theorem tn0_208_228_t {p : Program} {l : Launch} {e : Env} {R : Room} {s : State} {m : MethodId} {args : Array Value} {below : List Frame} {meth : Method} {c : Code} {T0 : State} {locs : List Loc} {cells slots : Nat} {Z : State} {a0 : Array Value} {h0 : Heap} (s0 : Slot) (s1 : Slot) (s2 : Slot) (s3 : Slot) (s4 : Slot) (s5 : Slot) (s6 : Slot) (s7 : Slot) (s8 : Slot) (s9 : Slot) (s10 : Slot) (s11 : Slot) (s12 : Slot) (i13 : Int32) (s14 : Slot) (s15 : Slot) (s16 : Slot) (s17 : Slot) (s18 : Slot) (s19 : Slot) (s20 : Slot) (s21 : Slot) (s22 : Slot)
    (X0 : Stand p l e R s m args below meth c T0 locs cells slots) (hx : p.tables.exec = Jvm.exec) (hZ : Z.Warmed39 s.vm) (hw : ∀ d ∈ tables_1, d.before a0 Z = true) (hby : c.code = code) (hml : c.maxLocals = 23) (hown : s.vm.findClass "com/example/cablegram/cablegram/engine/EnvelopeMatchesPinLaw" = some m.cls) (e0 : T0.heap = h0) (hs20 : One s20) (hc212 : i13 = (-2 : Int32)) :
    ∃ (T' : State), Stand p l e R s m args below meth c T' locs cells slots ∧ T'.heap = h0 ∧
      ∀ target, Steps p.tables e below (T'.setTop (mkF m 228 #[s0, s1, s2, s3, s4, s5, s6, s7, s8, s9, s10, s11, s12, .val (.int i13), s14, s15, s16, s17, s18, s19, .val (.int (1 : Int32)), s21, s22] [])) target → Steps p.tables e below (T0.setTop (mkF m 208 #[s0, s1, s2, s3, s4, s5, s6, s7, s8, s9, s10, s11, s12, .val (.int i13), s14, s15, s16, s17, s18, s19, s20, s21, s22] [])) target := by
  -- 3. LAWS

  refine ⟨T0, X0, e0, fun target kt => ?_⟩
  -- 4. STEPS
  show Steps p.tables e below (T0.setTop (mkF m 208 #[s0, s1, s2, s3, s4, s5, s6, s7, s8, s9, s10, s11, s12, .val (.int i13), s14, s15, s16, s17, s18, s19, s20, s21, s22] [])) _
  refine XS.iload X0.here hx rfl (hb hby at_208) rfl ?_
  show Steps p.tables e below (T0.setTop (mkF m 210 #[s0, s1, s2, s3, s4, s5, s6, s7, s8, s9, s10, s11, s12, .val (.int i13), s14, s15, s16, s17, s18, s19, s20, s21, s22] [(.int i13)])) _
  refine XS.bipush X0.here hx rfl (hb hby at_210) ?_
  show Steps p.tables e below (T0.setTop (mkF m 212 #[s0, s1, s2, s3, s4, s5, s6, s7, s8, s9, s10, s11, s12, .val (.int i13), s14, s15, s16, s17, s18, s19, s20, s21, s22] [(.int (-2 : Int32)), (.int i13)])) _
  refine XS.icmpYes X0.here hx rfl (pc0 := 212) (pc' := 221) rfl (hb hby at_212) rfl (teq hc212).1 (by decide) (by decide) ?_
  show Steps p.tables e below (T0.setTop (mkF m 221 #[s0, s1, s2, s3, s4, s5, s6, s7, s8, s9, s10, s11, s12, .val (.int i13), s14, s15, s16, s17, s18, s19, s20, s21, s22] [])) _
  refine XS.iconst X0.here hx rfl (hb hby at_221) ?_
  show Steps p.tables e below (T0.setTop (mkF m 222 #[s0, s1, s2, s3, s4, s5, s6, s7, s8, s9, s10, s11, s12, .val (.int i13), s14, s15, s16, s17, s18, s19, s20, s21, s22] [(.int (1 : Int32))])) _
  refine XS.goto X0.here hx rfl (pc0 := 222) (pc' := 226) rfl (hb hby at_222) (by decide) (by decide) ?_
  show Steps p.tables e below (T0.setTop (mkF m 226 #[s0, s1, s2, s3, s4, s5, s6, s7, s8, s9, s10, s11, s12, .val (.int i13), s14, s15, s16, s17, s18, s19, s20, s21, s22] [(.int (1 : Int32))])) _
  refine XS.istore X0.here hx rfl (hb hby at_226) rfl (l' := #[s0, s1, s2, s3, s4, s5, s6, s7, s8, s9, s10, s11, s12, .val (.int i13), s14, s15, s16, s17, s18, s19, .val (.int (1 : Int32)), s21, s22]) (os0_226 hs20) ?_
  exact kt
theorem os0_226_ff {z0 : Value} {s1 : Slot} {s2 : Slot} {s3 : Slot} {s4 : Slot} {s5 : Slot} {s6 : Slot} {s7 : Slot} {s8 : Slot} {s9 : Slot} {s10 : Slot} {s11 : Slot} {s12 : Slot} {z13 : Value} {s14 : Slot} {s15 : Slot} {s16 : Slot} {s17 : Slot} {s18 : Slot} {s19 : Slot} {s20 : Slot} {s21 : Slot} {s22 : Slot} {v : Int32} (h : One s20) : storeLocals #[.val z0, s1, s2, s3, s4, s5, s6, s7, s8, s9, s10, s11, s12, .val z13, s14, s15, s16, s17, s18, s19, s20, s21, s22] 20 (.int v) = some #[.val z0, s1, s2, s3, s4, s5, s6, s7, s8, s9, s10, s11, s12, .val z13, s14, s15, s16, s17, s18, s19, .val (.int v), s21, s22] := by
  rcases h with rfl | ⟨w, rfl, hw⟩
  · rfl
  · cases w <;> first | rfl | (simp [Value.category] at hw)
set_option maxRecDepth 65536 in
set_option maxHeartbeats 40000000 in
theorem tn0_208_228_ff {p : Program} {l : Launch} {e : Env} {R : Room} {s : State} {m : MethodId} {args : Array Value} {below : List Frame} {meth : Method} {c : Code} {T0 : State} {locs : List Loc} {cells slots : Nat} {Z : State} {a0 : Array Value} {h0 : Heap} (i0 : Int32) (s1 : Slot) (s2 : Slot) (s3 : Slot) (s4 : Slot) (s5 : Slot) (s6 : Slot) (s7 : Slot) (s8 : Slot) (s9 : Slot) (s10 : Slot) (s11 : Slot) (s12 : Slot) (i13 : Int32) (s14 : Slot) (s15 : Slot) (s16 : Slot) (s17 : Slot) (s18 : Slot) (s19 : Slot) (s20 : Slot) (s21 : Slot) (s22 : Slot)
    (X0 : Stand p l e R s m args below meth c T0 locs cells slots) (hx : p.tables.exec = Jvm.exec) (hZ : Z.Warmed39 s.vm) (hw : ∀ d ∈ tables_1, d.before a0 Z = true) (hby : c.code = code) (hml : c.maxLocals = 23) (hown : s.vm.findClass "com/example/cablegram/cablegram/engine/EnvelopeMatchesPinLaw" = some m.cls) (e0 : T0.heap = h0) (hs20 : One s20) (hc212 : ¬ (i13 = (-2 : Int32))) (hc218 : i13 = i0) :
    ∃ (T' : State), Stand p l e R s m args below meth c T' locs cells slots ∧ T'.heap = h0 ∧
      ∀ target, Steps p.tables e below (T'.setTop (mkF m 228 #[.val (.int i0), s1, s2, s3, s4, s5, s6, s7, s8, s9, s10, s11, s12, .val (.int i13), s14, s15, s16, s17, s18, s19, .val (.int (1 : Int32)), s21, s22] [])) target → Steps p.tables e below (T0.setTop (mkF m 208 #[.val (.int i0), s1, s2, s3, s4, s5, s6, s7, s8, s9, s10, s11, s12, .val (.int i13), s14, s15, s16, s17, s18, s19, s20, s21, s22] [])) target := by
  -- 3. LAWS

  refine ⟨T0, X0, e0, fun target kt => ?_⟩
  -- 4. STEPS
  show Steps p.tables e below (T0.setTop (mkF m 208 #[.val (.int i0), s1, s2, s3, s4, s5, s6, s7, s8, s9, s10, s11, s12, .val (.int i13), s14, s15, s16, s17, s18, s19, s20, s21, s22] [])) _
  refine XS.iload X0.here hx rfl (hb hby at_208) rfl ?_
  show Steps p.tables e below (T0.setTop (mkF m 210 #[.val (.int i0), s1, s2, s3, s4, s5, s6, s7, s8, s9, s10, s11, s12, .val (.int i13), s14, s15, s16, s17, s18, s19, s20, s21, s22] [(.int i13)])) _
  refine XS.bipush X0.here hx rfl (hb hby at_210) ?_
  show Steps p.tables e below (T0.setTop (mkF m 212 #[.val (.int i0), s1, s2, s3, s4, s5, s6, s7, s8, s9, s10, s11, s12, .val (.int i13), s14, s15, s16, s17, s18, s19, s20, s21, s22] [(.int (-2 : Int32)), (.int i13)])) _
  refine XS.icmpNo X0.here hx rfl (hb hby at_212) rfl (feq hc212).1 ?_
  show Steps p.tables e below (T0.setTop (mkF m 215 #[.val (.int i0), s1, s2, s3, s4, s5, s6, s7, s8, s9, s10, s11, s12, .val (.int i13), s14, s15, s16, s17, s18, s19, s20, s21, s22] [])) _
  refine XS.iload X0.here hx rfl (hb hby at_215) rfl ?_
  show Steps p.tables e below (T0.setTop (mkF m 217 #[.val (.int i0), s1, s2, s3, s4, s5, s6, s7, s8, s9, s10, s11, s12, .val (.int i13), s14, s15, s16, s17, s18, s19, s20, s21, s22] [(.int i13)])) _
  refine XS.iloadN X0.here hx rfl (hb hby at_217) rfl ?_
  show Steps p.tables e below (T0.setTop (mkF m 218 #[.val (.int i0), s1, s2, s3, s4, s5, s6, s7, s8, s9, s10, s11, s12, .val (.int i13), s14, s15, s16, s17, s18, s19, s20, s21, s22] [(.int i0), (.int i13)])) _
  refine XS.icmpNo X0.here hx rfl (hb hby at_218) rfl (teq hc218).2 ?_
  show Steps p.tables e below (T0.setTop (mkF m 221 #[.val (.int i0), s1, s2, s3, s4, s5, s6, s7, s8, s9, s10, s11, s12, .val (.int i13), s14, s15, s16, s17, s18, s19, s20, s21, s22] [])) _
  refine XS.iconst X0.here hx rfl (hb hby at_221) ?_
  show Steps p.tables e below (T0.setTop (mkF m 222 #[.val (.int i0), s1, s2, s3, s4, s5, s6, s7, s8, s9, s10, s11, s12, .val (.int i13), s14, s15, s16, s17, s18, s19, s20, s21, s22] [(.int (1 : Int32))])) _
  refine XS.goto X0.here hx rfl (pc0 := 222) (pc' := 226) rfl (hb hby at_222) (by decide) (by decide) ?_
  show Steps p.tables e below (T0.setTop (mkF m 226 #[.val (.int i0), s1, s2, s3, s4, s5, s6, s7, s8, s9, s10, s11, s12, .val (.int i13), s14, s15, s16, s17, s18, s19, s20, s21, s22] [(.int (1 : Int32))])) _
  refine XS.istore X0.here hx rfl (hb hby at_226) rfl (l' := #[.val (.int i0), s1, s2, s3, s4, s5, s6, s7, s8, s9, s10, s11, s12, .val (.int i13), s14, s15, s16, s17, s18, s19, .val (.int (1 : Int32)), s21, s22]) (os0_226_ff hs20) ?_
  exact kt
theorem os0_226_ft {z0 : Value} {s1 : Slot} {s2 : Slot} {s3 : Slot} {s4 : Slot} {s5 : Slot} {s6 : Slot} {s7 : Slot} {s8 : Slot} {s9 : Slot} {s10 : Slot} {s11 : Slot} {s12 : Slot} {z13 : Value} {s14 : Slot} {s15 : Slot} {s16 : Slot} {s17 : Slot} {s18 : Slot} {s19 : Slot} {s20 : Slot} {s21 : Slot} {s22 : Slot} {v : Int32} (h : One s20) : storeLocals #[.val z0, s1, s2, s3, s4, s5, s6, s7, s8, s9, s10, s11, s12, .val z13, s14, s15, s16, s17, s18, s19, s20, s21, s22] 20 (.int v) = some #[.val z0, s1, s2, s3, s4, s5, s6, s7, s8, s9, s10, s11, s12, .val z13, s14, s15, s16, s17, s18, s19, .val (.int v), s21, s22] := by
  rcases h with rfl | ⟨w, rfl, hw⟩
  · rfl
  · cases w <;> first | rfl | (simp [Value.category] at hw)
set_option maxRecDepth 65536 in
set_option maxHeartbeats 40000000 in
theorem tn0_208_228_ft {p : Program} {l : Launch} {e : Env} {R : Room} {s : State} {m : MethodId} {args : Array Value} {below : List Frame} {meth : Method} {c : Code} {T0 : State} {locs : List Loc} {cells slots : Nat} {Z : State} {a0 : Array Value} {h0 : Heap} (i0 : Int32) (s1 : Slot) (s2 : Slot) (s3 : Slot) (s4 : Slot) (s5 : Slot) (s6 : Slot) (s7 : Slot) (s8 : Slot) (s9 : Slot) (s10 : Slot) (s11 : Slot) (s12 : Slot) (i13 : Int32) (s14 : Slot) (s15 : Slot) (s16 : Slot) (s17 : Slot) (s18 : Slot) (s19 : Slot) (s20 : Slot) (s21 : Slot) (s22 : Slot)
    (X0 : Stand p l e R s m args below meth c T0 locs cells slots) (hx : p.tables.exec = Jvm.exec) (hZ : Z.Warmed39 s.vm) (hw : ∀ d ∈ tables_1, d.before a0 Z = true) (hby : c.code = code) (hml : c.maxLocals = 23) (hown : s.vm.findClass "com/example/cablegram/cablegram/engine/EnvelopeMatchesPinLaw" = some m.cls) (e0 : T0.heap = h0) (hs20 : One s20) (hc212 : ¬ (i13 = (-2 : Int32))) (hc218 : ¬ (i13 = i0)) :
    ∃ (T' : State), Stand p l e R s m args below meth c T' locs cells slots ∧ T'.heap = h0 ∧
      ∀ target, Steps p.tables e below (T'.setTop (mkF m 228 #[.val (.int i0), s1, s2, s3, s4, s5, s6, s7, s8, s9, s10, s11, s12, .val (.int i13), s14, s15, s16, s17, s18, s19, .val (.int (0 : Int32)), s21, s22] [])) target → Steps p.tables e below (T0.setTop (mkF m 208 #[.val (.int i0), s1, s2, s3, s4, s5, s6, s7, s8, s9, s10, s11, s12, .val (.int i13), s14, s15, s16, s17, s18, s19, s20, s21, s22] [])) target := by
  -- 3. LAWS

  refine ⟨T0, X0, e0, fun target kt => ?_⟩
  -- 4. STEPS
  show Steps p.tables e below (T0.setTop (mkF m 208 #[.val (.int i0), s1, s2, s3, s4, s5, s6, s7, s8, s9, s10, s11, s12, .val (.int i13), s14, s15, s16, s17, s18, s19, s20, s21, s22] [])) _
  refine XS.iload X0.here hx rfl (hb hby at_208) rfl ?_
  show Steps p.tables e below (T0.setTop (mkF m 210 #[.val (.int i0), s1, s2, s3, s4, s5, s6, s7, s8, s9, s10, s11, s12, .val (.int i13), s14, s15, s16, s17, s18, s19, s20, s21, s22] [(.int i13)])) _
  refine XS.bipush X0.here hx rfl (hb hby at_210) ?_
  show Steps p.tables e below (T0.setTop (mkF m 212 #[.val (.int i0), s1, s2, s3, s4, s5, s6, s7, s8, s9, s10, s11, s12, .val (.int i13), s14, s15, s16, s17, s18, s19, s20, s21, s22] [(.int (-2 : Int32)), (.int i13)])) _
  refine XS.icmpNo X0.here hx rfl (hb hby at_212) rfl (feq hc212).1 ?_
  show Steps p.tables e below (T0.setTop (mkF m 215 #[.val (.int i0), s1, s2, s3, s4, s5, s6, s7, s8, s9, s10, s11, s12, .val (.int i13), s14, s15, s16, s17, s18, s19, s20, s21, s22] [])) _
  refine XS.iload X0.here hx rfl (hb hby at_215) rfl ?_
  show Steps p.tables e below (T0.setTop (mkF m 217 #[.val (.int i0), s1, s2, s3, s4, s5, s6, s7, s8, s9, s10, s11, s12, .val (.int i13), s14, s15, s16, s17, s18, s19, s20, s21, s22] [(.int i13)])) _
  refine XS.iloadN X0.here hx rfl (hb hby at_217) rfl ?_
  show Steps p.tables e below (T0.setTop (mkF m 218 #[.val (.int i0), s1, s2, s3, s4, s5, s6, s7, s8, s9, s10, s11, s12, .val (.int i13), s14, s15, s16, s17, s18, s19, s20, s21, s22] [(.int i0), (.int i13)])) _
  refine XS.icmpYes X0.here hx rfl (pc0 := 218) (pc' := 225) rfl (hb hby at_218) rfl (feq hc218).2 (by decide) (by decide) ?_
  show Steps p.tables e below (T0.setTop (mkF m 225 #[.val (.int i0), s1, s2, s3, s4, s5, s6, s7, s8, s9, s10, s11, s12, .val (.int i13), s14, s15, s16, s17, s18, s19, s20, s21, s22] [])) _
  refine XS.iconst X0.here hx rfl (hb hby at_225) ?_
  show Steps p.tables e below (T0.setTop (mkF m 226 #[.val (.int i0), s1, s2, s3, s4, s5, s6, s7, s8, s9, s10, s11, s12, .val (.int i13), s14, s15, s16, s17, s18, s19, s20, s21, s22] [(.int (0 : Int32))])) _
  refine XS.istore X0.here hx rfl (hb hby at_226) rfl (l' := #[.val (.int i0), s1, s2, s3, s4, s5, s6, s7, s8, s9, s10, s11, s12, .val (.int i13), s14, s15, s16, s17, s18, s19, .val (.int (0 : Int32)), s21, s22]) (os0_226_ft hs20) ?_
  exact kt
theorem sgG {p : Program} {l : Launch} {e : Env} {R : Room} {s : State} {m : MethodId} {args : Array Value} {below : List Frame} {meth : Method} {c : Code} {T0 : State} {locs : List Loc} {cells slots : Nat} {Z : State} {a0 : Array Value} {h0 : Heap} (i0 : Int32) (s1 : Slot) (s2 : Slot) (s3 : Slot) (s4 : Slot) (s5 : Slot) (s6 : Slot) (s7 : Slot) (s8 : Slot) (s9 : Slot) (s10 : Slot) (s11 : Slot) (s12 : Slot) (i13 : Int32) (s14 : Slot) (s15 : Slot) (s16 : Slot) (s17 : Slot) (s18 : Slot) (s19 : Slot) (s20 : Slot) (s21 : Slot) (s22 : Slot)
    (X0 : Stand p l e R s m args below meth c T0 locs cells slots) (hx : p.tables.exec = Jvm.exec) (hZ : Z.Warmed39 s.vm) (hw : ∀ d ∈ tables_1, d.before a0 Z = true) (hby : c.code = code) (hml : c.maxLocals = 23) (hown : s.vm.findClass "com/example/cablegram/cablegram/engine/EnvelopeMatchesPinLaw" = some m.cls) (e0 : T0.heap = h0) (hs20 : One s20) :
    ∃ (T' : State), Stand p l e R s m args below meth c T' locs cells slots ∧ T'.heap = h0 ∧
      ∀ target, Steps p.tables e below (T'.setTop (mkF m 228 #[.val (.int i0), s1, s2, s3, s4, s5, s6, s7, s8, s9, s10, s11, s12, .val (.int i13), s14, s15, s16, s17, s18, s19, .val (.int (own_fok i13 i0)), s21, s22] [])) target → Steps p.tables e below (T0.setTop (mkF m 208 #[.val (.int i0), s1, s2, s3, s4, s5, s6, s7, s8, s9, s10, s11, s12, .val (.int i13), s14, s15, s16, s17, s18, s19, s20, s21, s22] [])) target := by
  by_cases h1 : i13 = (-2 : Int32)
  · rw [show own_fok i13 i0 = 1 from by unfold own_fok; rw [if_pos h1]]
    exact tn0_208_228_t _ _ _ _ _ _ _ _ _ _ _ _ _ _ _ _ _ _ _ _ _ _ _ X0 hx hZ hw hby hml hown e0 (by first | exact own_oneU | exact own_oneI | exact own_oneR | assumption) h1
  by_cases h2 : i13 = i0
  · rw [show own_fok i13 i0 = 1 from by unfold own_fok; rw [if_neg h1, if_pos h2]]
    exact tn0_208_228_ff _ _ _ _ _ _ _ _ _ _ _ _ _ _ _ _ _ _ _ _ _ _ _ X0 hx hZ hw hby hml hown e0 (by first | exact own_oneU | exact own_oneI | exact own_oneR | assumption) h1 h2
  · rw [show own_fok i13 i0 = 0 from by unfold own_fok; rw [if_neg h1, if_neg h2]]
    exact tn0_208_228_ft _ _ _ _ _ _ _ _ _ _ _ _ _ _ _ _ _ _ _ _ _ _ _ X0 hx hZ hw hby hml hown e0 (by first | exact own_oneU | exact own_oneI | exact own_oneR | assumption) h1 h2
theorem os0_244 {s0 : Slot} {s1 : Slot} {s2 : Slot} {s3 : Slot} {s4 : Slot} {s5 : Slot} {s6 : Slot} {s7 : Slot} {s8 : Slot} {s9 : Slot} {s10 : Slot} {z11 : Value} {s12 : Slot} {s13 : Slot} {s14 : Slot} {s15 : Slot} {s16 : Slot} {z17 : Value} {s18 : Slot} {s19 : Slot} {s20 : Slot} {s21 : Slot} {s22 : Slot} {v : Int32} (h : One s21) : storeLocals #[s0, s1, s2, s3, s4, s5, s6, s7, s8, s9, s10, .val z11, s12, s13, s14, s15, s16, .val z17, s18, s19, s20, s21, s22] 21 (.int v) = some #[s0, s1, s2, s3, s4, s5, s6, s7, s8, s9, s10, .val z11, s12, s13, s14, s15, s16, .val z17, s18, s19, s20, .val (.int v), s22] := by
  rcases h with rfl | ⟨w, rfl, hw⟩
  · rfl
  · cases w <;> first | rfl | (simp [Value.category] at hw)
set_option maxRecDepth 65536 in
set_option maxHeartbeats 40000000 in
theorem tn0_228_291_ff {p : Program} {l : Launch} {e : Env} {R : Room} {s : State} {m : MethodId} {args : Array Value} {below : List Frame} {meth : Method} {c : Code} {T0 : State} {locs : List Loc} {cells slots : Nat} {Z : State} {a0 : Array Value} {h0 : Heap} (s0 : Slot) (s1 : Slot) (s2 : Slot) (s3 : Slot) (s4 : Slot) (s5 : Slot) (s6 : Slot) (s7 : Slot) (s8 : Slot) (s9 : Slot) (s10 : Slot) (i11 : Int32) (s12 : Slot) (s13 : Slot) (s14 : Slot) (s15 : Slot) (s16 : Slot) (i17 : Int32) (s18 : Slot) (s19 : Slot) (s20 : Slot) (s21 : Slot) (s22 : Slot)
    (X0 : Stand p l e R s m args below meth c T0 locs cells slots) (hx : p.tables.exec = Jvm.exec) (hZ : Z.Warmed39 s.vm) (hw : ∀ d ∈ tables_1, d.before a0 Z = true) (hby : c.code = code) (hml : c.maxLocals = 23) (hown : s.vm.findClass "com/example/cablegram/cablegram/engine/EnvelopeMatchesPinLaw" = some m.cls) (e0 : T0.heap = h0) (hs21 : One s21) (hc231 : i17 = (-1 : Int32)) (hc236 : ¬ (i11 < (0 : Int32))) :
    ∃ (T' : State), Stand p l e R s m args below meth c T' locs cells slots ∧ T'.heap = h0 ∧
      ∀ target, Steps p.tables e below (T'.setTop (mkF m 291 #[s0, s1, s2, s3, s4, s5, s6, s7, s8, s9, s10, .val (.int i11), s12, s13, s14, s15, s16, .val (.int i17), s18, s19, s20, .val (.int (1 : Int32)), s22] [])) target → Steps p.tables e below (T0.setTop (mkF m 228 #[s0, s1, s2, s3, s4, s5, s6, s7, s8, s9, s10, .val (.int i11), s12, s13, s14, s15, s16, .val (.int i17), s18, s19, s20, s21, s22] [])) target := by
  -- 3. LAWS

  refine ⟨T0, X0, e0, fun target kt => ?_⟩
  -- 4. STEPS
  show Steps p.tables e below (T0.setTop (mkF m 228 #[s0, s1, s2, s3, s4, s5, s6, s7, s8, s9, s10, .val (.int i11), s12, s13, s14, s15, s16, .val (.int i17), s18, s19, s20, s21, s22] [])) _
  refine XS.iload X0.here hx rfl (hb hby at_228) rfl ?_
  show Steps p.tables e below (T0.setTop (mkF m 230 #[s0, s1, s2, s3, s4, s5, s6, s7, s8, s9, s10, .val (.int i11), s12, s13, s14, s15, s16, .val (.int i17), s18, s19, s20, s21, s22] [(.int i17)])) _
  refine XS.iconst X0.here hx rfl (hb hby at_230) ?_
  show Steps p.tables e below (T0.setTop (mkF m 231 #[s0, s1, s2, s3, s4, s5, s6, s7, s8, s9, s10, .val (.int i11), s12, s13, s14, s15, s16, .val (.int i17), s18, s19, s20, s21, s22] [(.int (-1 : Int32)), (.int i17)])) _
  refine XS.icmpNo X0.here hx rfl (hb hby at_231) rfl (teq hc231).2 ?_
  show Steps p.tables e below (T0.setTop (mkF m 234 #[s0, s1, s2, s3, s4, s5, s6, s7, s8, s9, s10, .val (.int i11), s12, s13, s14, s15, s16, .val (.int i17), s18, s19, s20, s21, s22] [])) _
  refine XS.iload X0.here hx rfl (hb hby at_234) rfl ?_
  show Steps p.tables e below (T0.setTop (mkF m 236 #[s0, s1, s2, s3, s4, s5, s6, s7, s8, s9, s10, .val (.int i11), s12, s13, s14, s15, s16, .val (.int i17), s18, s19, s20, s21, s22] [(.int i11)])) _
  refine XS.ifNo X0.here hx rfl (hb hby at_236) rfl ((if0 _ _).trans (flt hc236).1) ?_
  show Steps p.tables e below (T0.setTop (mkF m 239 #[s0, s1, s2, s3, s4, s5, s6, s7, s8, s9, s10, .val (.int i11), s12, s13, s14, s15, s16, .val (.int i17), s18, s19, s20, s21, s22] [])) _
  refine XS.iconst X0.here hx rfl (hb hby at_239) ?_
  show Steps p.tables e below (T0.setTop (mkF m 240 #[s0, s1, s2, s3, s4, s5, s6, s7, s8, s9, s10, .val (.int i11), s12, s13, s14, s15, s16, .val (.int i17), s18, s19, s20, s21, s22] [(.int (1 : Int32))])) _
  refine XS.goto X0.here hx rfl (pc0 := 240) (pc' := 244) rfl (hb hby at_240) (by decide) (by decide) ?_
  show Steps p.tables e below (T0.setTop (mkF m 244 #[s0, s1, s2, s3, s4, s5, s6, s7, s8, s9, s10, .val (.int i11), s12, s13, s14, s15, s16, .val (.int i17), s18, s19, s20, s21, s22] [(.int (1 : Int32))])) _
  refine XS.istore X0.here hx rfl (hb hby at_244) rfl (l' := #[s0, s1, s2, s3, s4, s5, s6, s7, s8, s9, s10, .val (.int i11), s12, s13, s14, s15, s16, .val (.int i17), s18, s19, s20, .val (.int (1 : Int32)), s22]) (os0_244 hs21) ?_
  show Steps p.tables e below (T0.setTop (mkF m 246 #[s0, s1, s2, s3, s4, s5, s6, s7, s8, s9, s10, .val (.int i11), s12, s13, s14, s15, s16, .val (.int i17), s18, s19, s20, .val (.int (1 : Int32)), s22] [])) _
  refine XS.goto X0.here hx rfl (pc0 := 246) (pc' := 291) rfl (hb hby at_246) (by decide) (by decide) ?_
  exact kt
set_option maxRecDepth 65536 in
set_option maxHeartbeats 40000000 in
theorem tn0_228_291_ft {p : Program} {l : Launch} {e : Env} {R : Room} {s : State} {m : MethodId} {args : Array Value} {below : List Frame} {meth : Method} {c : Code} {T0 : State} {locs : List Loc} {cells slots : Nat} {Z : State} {a0 : Array Value} {h0 : Heap} (s0 : Slot) (s1 : Slot) (s2 : Slot) (s3 : Slot) (s4 : Slot) (s5 : Slot) (s6 : Slot) (s7 : Slot) (s8 : Slot) (s9 : Slot) (s10 : Slot) (i11 : Int32) (s12 : Slot) (s13 : Slot) (s14 : Slot) (s15 : Slot) (s16 : Slot) (i17 : Int32) (s18 : Slot) (s19 : Slot) (s20 : Slot) (s21 : Slot) (s22 : Slot)
    (X0 : Stand p l e R s m args below meth c T0 locs cells slots) (hx : p.tables.exec = Jvm.exec) (hZ : Z.Warmed39 s.vm) (hw : ∀ d ∈ tables_1, d.before a0 Z = true) (hby : c.code = code) (hml : c.maxLocals = 23) (hown : s.vm.findClass "com/example/cablegram/cablegram/engine/EnvelopeMatchesPinLaw" = some m.cls) (e0 : T0.heap = h0) (hs21 : One s21) (hc231 : i17 = (-1 : Int32)) (hc236 : i11 < (0 : Int32)) :
    ∃ (T' : State), Stand p l e R s m args below meth c T' locs cells slots ∧ T'.heap = h0 ∧
      ∀ target, Steps p.tables e below (T'.setTop (mkF m 291 #[s0, s1, s2, s3, s4, s5, s6, s7, s8, s9, s10, .val (.int i11), s12, s13, s14, s15, s16, .val (.int i17), s18, s19, s20, .val (.int (0 : Int32)), s22] [])) target → Steps p.tables e below (T0.setTop (mkF m 228 #[s0, s1, s2, s3, s4, s5, s6, s7, s8, s9, s10, .val (.int i11), s12, s13, s14, s15, s16, .val (.int i17), s18, s19, s20, s21, s22] [])) target := by
  -- 3. LAWS

  refine ⟨T0, X0, e0, fun target kt => ?_⟩
  -- 4. STEPS
  show Steps p.tables e below (T0.setTop (mkF m 228 #[s0, s1, s2, s3, s4, s5, s6, s7, s8, s9, s10, .val (.int i11), s12, s13, s14, s15, s16, .val (.int i17), s18, s19, s20, s21, s22] [])) _
  refine XS.iload X0.here hx rfl (hb hby at_228) rfl ?_
  show Steps p.tables e below (T0.setTop (mkF m 230 #[s0, s1, s2, s3, s4, s5, s6, s7, s8, s9, s10, .val (.int i11), s12, s13, s14, s15, s16, .val (.int i17), s18, s19, s20, s21, s22] [(.int i17)])) _
  refine XS.iconst X0.here hx rfl (hb hby at_230) ?_
  show Steps p.tables e below (T0.setTop (mkF m 231 #[s0, s1, s2, s3, s4, s5, s6, s7, s8, s9, s10, .val (.int i11), s12, s13, s14, s15, s16, .val (.int i17), s18, s19, s20, s21, s22] [(.int (-1 : Int32)), (.int i17)])) _
  refine XS.icmpNo X0.here hx rfl (hb hby at_231) rfl (teq hc231).2 ?_
  show Steps p.tables e below (T0.setTop (mkF m 234 #[s0, s1, s2, s3, s4, s5, s6, s7, s8, s9, s10, .val (.int i11), s12, s13, s14, s15, s16, .val (.int i17), s18, s19, s20, s21, s22] [])) _
  refine XS.iload X0.here hx rfl (hb hby at_234) rfl ?_
  show Steps p.tables e below (T0.setTop (mkF m 236 #[s0, s1, s2, s3, s4, s5, s6, s7, s8, s9, s10, .val (.int i11), s12, s13, s14, s15, s16, .val (.int i17), s18, s19, s20, s21, s22] [(.int i11)])) _
  refine XS.ifYes X0.here hx rfl (pc0 := 236) (pc' := 243) rfl (hb hby at_236) rfl ((if0 _ _).trans (tlt hc236).1) (by decide) (by decide) ?_
  show Steps p.tables e below (T0.setTop (mkF m 243 #[s0, s1, s2, s3, s4, s5, s6, s7, s8, s9, s10, .val (.int i11), s12, s13, s14, s15, s16, .val (.int i17), s18, s19, s20, s21, s22] [])) _
  refine XS.iconst X0.here hx rfl (hb hby at_243) ?_
  show Steps p.tables e below (T0.setTop (mkF m 244 #[s0, s1, s2, s3, s4, s5, s6, s7, s8, s9, s10, .val (.int i11), s12, s13, s14, s15, s16, .val (.int i17), s18, s19, s20, s21, s22] [(.int (0 : Int32))])) _
  refine XS.istore X0.here hx rfl (hb hby at_244) rfl (l' := #[s0, s1, s2, s3, s4, s5, s6, s7, s8, s9, s10, .val (.int i11), s12, s13, s14, s15, s16, .val (.int i17), s18, s19, s20, .val (.int (0 : Int32)), s22]) (os0_244 hs21) ?_
  show Steps p.tables e below (T0.setTop (mkF m 246 #[s0, s1, s2, s3, s4, s5, s6, s7, s8, s9, s10, .val (.int i11), s12, s13, s14, s15, s16, .val (.int i17), s18, s19, s20, .val (.int (0 : Int32)), s22] [])) _
  refine XS.goto X0.here hx rfl (pc0 := 246) (pc' := 291) rfl (hb hby at_246) (by decide) (by decide) ?_
  exact kt
theorem os0_272 {s0 : Slot} {s1 : Slot} {s2 : Slot} {s3 : Slot} {s4 : Slot} {s5 : Slot} {s6 : Slot} {s7 : Slot} {s8 : Slot} {s9 : Slot} {s10 : Slot} {z11 : Value} {s12 : Slot} {s13 : Slot} {s14 : Slot} {s15 : Slot} {s16 : Slot} {z17 : Value} {s18 : Slot} {s19 : Slot} {s20 : Slot} {s21 : Slot} {s22 : Slot} {v : Int32} (h : One s21) : storeLocals #[s0, s1, s2, s3, s4, s5, s6, s7, s8, s9, s10, .val z11, s12, s13, s14, s15, s16, .val z17, s18, s19, s20, s21, s22] 21 (.int v) = some #[s0, s1, s2, s3, s4, s5, s6, s7, s8, s9, s10, .val z11, s12, s13, s14, s15, s16, .val z17, s18, s19, s20, .val (.int v), s22] := by
  rcases h with rfl | ⟨w, rfl, hw⟩
  · rfl
  · cases w <;> first | rfl | (simp [Value.category] at hw)
set_option maxRecDepth 65536 in
set_option maxHeartbeats 40000000 in
theorem tn0_228_291_tft {p : Program} {l : Launch} {e : Env} {R : Room} {s : State} {m : MethodId} {args : Array Value} {below : List Frame} {meth : Method} {c : Code} {T0 : State} {locs : List Loc} {cells slots : Nat} {Z : State} {a0 : Array Value} {h0 : Heap} (s0 : Slot) (s1 : Slot) (s2 : Slot) (s3 : Slot) (s4 : Slot) (s5 : Slot) (s6 : Slot) (s7 : Slot) (s8 : Slot) (s9 : Slot) (s10 : Slot) (i11 : Int32) (s12 : Slot) (s13 : Slot) (s14 : Slot) (s15 : Slot) (s16 : Slot) (i17 : Int32) (s18 : Slot) (s19 : Slot) (s20 : Slot) (s21 : Slot) (s22 : Slot)
    (X0 : Stand p l e R s m args below meth c T0 locs cells slots) (hx : p.tables.exec = Jvm.exec) (hZ : Z.Warmed39 s.vm) (hw : ∀ d ∈ tables_1, d.before a0 Z = true) (hby : c.code = code) (hml : c.maxLocals = 23) (hown : s.vm.findClass "com/example/cablegram/cablegram/engine/EnvelopeMatchesPinLaw" = some m.cls) (e0 : T0.heap = h0) (hs21 : One s21) (hc231 : ¬ (i17 = (-1 : Int32))) (hc253 : i17 = (-2147483648 : Int32)) (hc258 : ¬ (i11 < (0 : Int32))) :
    ∃ (T' : State), Stand p l e R s m args below meth c T' locs cells slots ∧ T'.heap = h0 ∧
      ∀ target, Steps p.tables e below (T'.setTop (mkF m 291 #[s0, s1, s2, s3, s4, s5, s6, s7, s8, s9, s10, .val (.int i11), s12, s13, s14, s15, s16, .val (.int i17), s18, s19, s20, .val (.int (0 : Int32)), s22] [])) target → Steps p.tables e below (T0.setTop (mkF m 228 #[s0, s1, s2, s3, s4, s5, s6, s7, s8, s9, s10, .val (.int i11), s12, s13, s14, s15, s16, .val (.int i17), s18, s19, s20, s21, s22] [])) target := by
  -- 3. LAWS

  refine ⟨T0, X0, e0, fun target kt => ?_⟩
  -- 4. STEPS
  show Steps p.tables e below (T0.setTop (mkF m 228 #[s0, s1, s2, s3, s4, s5, s6, s7, s8, s9, s10, .val (.int i11), s12, s13, s14, s15, s16, .val (.int i17), s18, s19, s20, s21, s22] [])) _
  refine XS.iload X0.here hx rfl (hb hby at_228) rfl ?_
  show Steps p.tables e below (T0.setTop (mkF m 230 #[s0, s1, s2, s3, s4, s5, s6, s7, s8, s9, s10, .val (.int i11), s12, s13, s14, s15, s16, .val (.int i17), s18, s19, s20, s21, s22] [(.int i17)])) _
  refine XS.iconst X0.here hx rfl (hb hby at_230) ?_
  show Steps p.tables e below (T0.setTop (mkF m 231 #[s0, s1, s2, s3, s4, s5, s6, s7, s8, s9, s10, .val (.int i11), s12, s13, s14, s15, s16, .val (.int i17), s18, s19, s20, s21, s22] [(.int (-1 : Int32)), (.int i17)])) _
  refine XS.icmpYes X0.here hx rfl (pc0 := 231) (pc' := 249) rfl (hb hby at_231) rfl (feq hc231).2 (by decide) (by decide) ?_
  show Steps p.tables e below (T0.setTop (mkF m 249 #[s0, s1, s2, s3, s4, s5, s6, s7, s8, s9, s10, .val (.int i11), s12, s13, s14, s15, s16, .val (.int i17), s18, s19, s20, s21, s22] [])) _
  refine XS.iload X0.here hx rfl (hb hby at_249) rfl ?_
  show Steps p.tables e below (T0.setTop (mkF m 251 #[s0, s1, s2, s3, s4, s5, s6, s7, s8, s9, s10, .val (.int i11), s12, s13, s14, s15, s16, .val (.int i17), s18, s19, s20, s21, s22] [(.int i17)])) _
  refine X0.ldcInt hx hown (mvT hZ (hw _ (List.mem_of_getElem? (i := 4) rfl))) (g := (mkF m 251 #[s0, s1, s2, s3, s4, s5, s6, s7, s8, s9, s10, .val (.int i11), s12, s13, s14, s15, s16, .val (.int i17), s18, s19, s20, s21, s22] [(.int i17)])) rfl (hb hby at_251) _ ?_
  show Steps p.tables e below (T0.setTop (mkF m 253 #[s0, s1, s2, s3, s4, s5, s6, s7, s8, s9, s10, .val (.int i11), s12, s13, s14, s15, s16, .val (.int i17), s18, s19, s20, s21, s22] [(.int (-2147483648 : Int32)), (.int i17)])) _
  refine XS.icmpNo X0.here hx rfl (hb hby at_253) rfl (teq hc253).2 ?_
  show Steps p.tables e below (T0.setTop (mkF m 256 #[s0, s1, s2, s3, s4, s5, s6, s7, s8, s9, s10, .val (.int i11), s12, s13, s14, s15, s16, .val (.int i17), s18, s19, s20, s21, s22] [])) _
  refine XS.iload X0.here hx rfl (hb hby at_256) rfl ?_
  show Steps p.tables e below (T0.setTop (mkF m 258 #[s0, s1, s2, s3, s4, s5, s6, s7, s8, s9, s10, .val (.int i11), s12, s13, s14, s15, s16, .val (.int i17), s18, s19, s20, s21, s22] [(.int i11)])) _
  refine XS.ifYes X0.here hx rfl (pc0 := 258) (pc' := 271) rfl (hb hby at_258) rfl ((if0 _ _).trans (flt hc258).2.1) (by decide) (by decide) ?_
  show Steps p.tables e below (T0.setTop (mkF m 271 #[s0, s1, s2, s3, s4, s5, s6, s7, s8, s9, s10, .val (.int i11), s12, s13, s14, s15, s16, .val (.int i17), s18, s19, s20, s21, s22] [])) _
  refine XS.iconst X0.here hx rfl (hb hby at_271) ?_
  show Steps p.tables e below (T0.setTop (mkF m 272 #[s0, s1, s2, s3, s4, s5, s6, s7, s8, s9, s10, .val (.int i11), s12, s13, s14, s15, s16, .val (.int i17), s18, s19, s20, s21, s22] [(.int (0 : Int32))])) _
  refine XS.istore X0.here hx rfl (hb hby at_272) rfl (l' := #[s0, s1, s2, s3, s4, s5, s6, s7, s8, s9, s10, .val (.int i11), s12, s13, s14, s15, s16, .val (.int i17), s18, s19, s20, .val (.int (0 : Int32)), s22]) (os0_272 hs21) ?_
  show Steps p.tables e below (T0.setTop (mkF m 274 #[s0, s1, s2, s3, s4, s5, s6, s7, s8, s9, s10, .val (.int i11), s12, s13, s14, s15, s16, .val (.int i17), s18, s19, s20, .val (.int (0 : Int32)), s22] [])) _
  refine XS.goto X0.here hx rfl (pc0 := 274) (pc' := 291) rfl (hb hby at_274) (by decide) (by decide) ?_
  exact kt
set_option maxRecDepth 65536 in
set_option maxHeartbeats 40000000 in
theorem tn0_228_291_tfft {p : Program} {l : Launch} {e : Env} {R : Room} {s : State} {m : MethodId} {args : Array Value} {below : List Frame} {meth : Method} {c : Code} {T0 : State} {locs : List Loc} {cells slots : Nat} {Z : State} {a0 : Array Value} {h0 : Heap} (s0 : Slot) (s1 : Slot) (s2 : Slot) (s3 : Slot) (s4 : Slot) (s5 : Slot) (s6 : Slot) (s7 : Slot) (s8 : Slot) (s9 : Slot) (s10 : Slot) (i11 : Int32) (s12 : Slot) (s13 : Slot) (s14 : Slot) (s15 : Slot) (s16 : Slot) (i17 : Int32) (s18 : Slot) (s19 : Slot) (s20 : Slot) (s21 : Slot) (s22 : Slot)
    (X0 : Stand p l e R s m args below meth c T0 locs cells slots) (hx : p.tables.exec = Jvm.exec) (hZ : Z.Warmed39 s.vm) (hw : ∀ d ∈ tables_1, d.before a0 Z = true) (hby : c.code = code) (hml : c.maxLocals = 23) (hown : s.vm.findClass "com/example/cablegram/cablegram/engine/EnvelopeMatchesPinLaw" = some m.cls) (e0 : T0.heap = h0) (hs21 : One s21) (hc231 : ¬ (i17 = (-1 : Int32))) (hc253 : i17 = (-2147483648 : Int32)) (hc258 : i11 < (0 : Int32)) (hc264 : i11 = (-1 : Int32)) :
    ∃ (T' : State), Stand p l e R s m args below meth c T' locs cells slots ∧ T'.heap = h0 ∧
      ∀ target, Steps p.tables e below (T'.setTop (mkF m 291 #[s0, s1, s2, s3, s4, s5, s6, s7, s8, s9, s10, .val (.int i11), s12, s13, s14, s15, s16, .val (.int i17), s18, s19, s20, .val (.int (0 : Int32)), s22] [])) target → Steps p.tables e below (T0.setTop (mkF m 228 #[s0, s1, s2, s3, s4, s5, s6, s7, s8, s9, s10, .val (.int i11), s12, s13, s14, s15, s16, .val (.int i17), s18, s19, s20, s21, s22] [])) target := by
  -- 3. LAWS

  refine ⟨T0, X0, e0, fun target kt => ?_⟩
  -- 4. STEPS
  show Steps p.tables e below (T0.setTop (mkF m 228 #[s0, s1, s2, s3, s4, s5, s6, s7, s8, s9, s10, .val (.int i11), s12, s13, s14, s15, s16, .val (.int i17), s18, s19, s20, s21, s22] [])) _
  refine XS.iload X0.here hx rfl (hb hby at_228) rfl ?_
  show Steps p.tables e below (T0.setTop (mkF m 230 #[s0, s1, s2, s3, s4, s5, s6, s7, s8, s9, s10, .val (.int i11), s12, s13, s14, s15, s16, .val (.int i17), s18, s19, s20, s21, s22] [(.int i17)])) _
  refine XS.iconst X0.here hx rfl (hb hby at_230) ?_
  show Steps p.tables e below (T0.setTop (mkF m 231 #[s0, s1, s2, s3, s4, s5, s6, s7, s8, s9, s10, .val (.int i11), s12, s13, s14, s15, s16, .val (.int i17), s18, s19, s20, s21, s22] [(.int (-1 : Int32)), (.int i17)])) _
  refine XS.icmpYes X0.here hx rfl (pc0 := 231) (pc' := 249) rfl (hb hby at_231) rfl (feq hc231).2 (by decide) (by decide) ?_
  show Steps p.tables e below (T0.setTop (mkF m 249 #[s0, s1, s2, s3, s4, s5, s6, s7, s8, s9, s10, .val (.int i11), s12, s13, s14, s15, s16, .val (.int i17), s18, s19, s20, s21, s22] [])) _
  refine XS.iload X0.here hx rfl (hb hby at_249) rfl ?_
  show Steps p.tables e below (T0.setTop (mkF m 251 #[s0, s1, s2, s3, s4, s5, s6, s7, s8, s9, s10, .val (.int i11), s12, s13, s14, s15, s16, .val (.int i17), s18, s19, s20, s21, s22] [(.int i17)])) _
  refine X0.ldcInt hx hown (mvT hZ (hw _ (List.mem_of_getElem? (i := 4) rfl))) (g := (mkF m 251 #[s0, s1, s2, s3, s4, s5, s6, s7, s8, s9, s10, .val (.int i11), s12, s13, s14, s15, s16, .val (.int i17), s18, s19, s20, s21, s22] [(.int i17)])) rfl (hb hby at_251) _ ?_
  show Steps p.tables e below (T0.setTop (mkF m 253 #[s0, s1, s2, s3, s4, s5, s6, s7, s8, s9, s10, .val (.int i11), s12, s13, s14, s15, s16, .val (.int i17), s18, s19, s20, s21, s22] [(.int (-2147483648 : Int32)), (.int i17)])) _
  refine XS.icmpNo X0.here hx rfl (hb hby at_253) rfl (teq hc253).2 ?_
  show Steps p.tables e below (T0.setTop (mkF m 256 #[s0, s1, s2, s3, s4, s5, s6, s7, s8, s9, s10, .val (.int i11), s12, s13, s14, s15, s16, .val (.int i17), s18, s19, s20, s21, s22] [])) _
  refine XS.iload X0.here hx rfl (hb hby at_256) rfl ?_
  show Steps p.tables e below (T0.setTop (mkF m 258 #[s0, s1, s2, s3, s4, s5, s6, s7, s8, s9, s10, .val (.int i11), s12, s13, s14, s15, s16, .val (.int i17), s18, s19, s20, s21, s22] [(.int i11)])) _
  refine XS.ifNo X0.here hx rfl (hb hby at_258) rfl ((if0 _ _).trans (tlt hc258).2.1) ?_
  show Steps p.tables e below (T0.setTop (mkF m 261 #[s0, s1, s2, s3, s4, s5, s6, s7, s8, s9, s10, .val (.int i11), s12, s13, s14, s15, s16, .val (.int i17), s18, s19, s20, s21, s22] [])) _
  refine XS.iload X0.here hx rfl (hb hby at_261) rfl ?_
  show Steps p.tables e below (T0.setTop (mkF m 263 #[s0, s1, s2, s3, s4, s5, s6, s7, s8, s9, s10, .val (.int i11), s12, s13, s14, s15, s16, .val (.int i17), s18, s19, s20, s21, s22] [(.int i11)])) _
  refine XS.iconst X0.here hx rfl (hb hby at_263) ?_
  show Steps p.tables e below (T0.setTop (mkF m 264 #[s0, s1, s2, s3, s4, s5, s6, s7, s8, s9, s10, .val (.int i11), s12, s13, s14, s15, s16, .val (.int i17), s18, s19, s20, s21, s22] [(.int (-1 : Int32)), (.int i11)])) _
  refine XS.icmpYes X0.here hx rfl (pc0 := 264) (pc' := 271) rfl (hb hby at_264) rfl (teq hc264).1 (by decide) (by decide) ?_
  show Steps p.tables e below (T0.setTop (mkF m 271 #[s0, s1, s2, s3, s4, s5, s6, s7, s8, s9, s10, .val (.int i11), s12, s13, s14, s15, s16, .val (.int i17), s18, s19, s20, s21, s22] [])) _
  refine XS.iconst X0.here hx rfl (hb hby at_271) ?_
  show Steps p.tables e below (T0.setTop (mkF m 272 #[s0, s1, s2, s3, s4, s5, s6, s7, s8, s9, s10, .val (.int i11), s12, s13, s14, s15, s16, .val (.int i17), s18, s19, s20, s21, s22] [(.int (0 : Int32))])) _
  refine XS.istore X0.here hx rfl (hb hby at_272) rfl (l' := #[s0, s1, s2, s3, s4, s5, s6, s7, s8, s9, s10, .val (.int i11), s12, s13, s14, s15, s16, .val (.int i17), s18, s19, s20, .val (.int (0 : Int32)), s22]) (os0_272 hs21) ?_
  show Steps p.tables e below (T0.setTop (mkF m 274 #[s0, s1, s2, s3, s4, s5, s6, s7, s8, s9, s10, .val (.int i11), s12, s13, s14, s15, s16, .val (.int i17), s18, s19, s20, .val (.int (0 : Int32)), s22] [])) _
  refine XS.goto X0.here hx rfl (pc0 := 274) (pc' := 291) rfl (hb hby at_274) (by decide) (by decide) ?_
  exact kt
set_option maxRecDepth 65536 in
set_option maxHeartbeats 40000000 in
theorem tn0_228_291_tfff {p : Program} {l : Launch} {e : Env} {R : Room} {s : State} {m : MethodId} {args : Array Value} {below : List Frame} {meth : Method} {c : Code} {T0 : State} {locs : List Loc} {cells slots : Nat} {Z : State} {a0 : Array Value} {h0 : Heap} (s0 : Slot) (s1 : Slot) (s2 : Slot) (s3 : Slot) (s4 : Slot) (s5 : Slot) (s6 : Slot) (s7 : Slot) (s8 : Slot) (s9 : Slot) (s10 : Slot) (i11 : Int32) (s12 : Slot) (s13 : Slot) (s14 : Slot) (s15 : Slot) (s16 : Slot) (i17 : Int32) (s18 : Slot) (s19 : Slot) (s20 : Slot) (s21 : Slot) (s22 : Slot)
    (X0 : Stand p l e R s m args below meth c T0 locs cells slots) (hx : p.tables.exec = Jvm.exec) (hZ : Z.Warmed39 s.vm) (hw : ∀ d ∈ tables_1, d.before a0 Z = true) (hby : c.code = code) (hml : c.maxLocals = 23) (hown : s.vm.findClass "com/example/cablegram/cablegram/engine/EnvelopeMatchesPinLaw" = some m.cls) (e0 : T0.heap = h0) (hs21 : One s21) (hc231 : ¬ (i17 = (-1 : Int32))) (hc253 : i17 = (-2147483648 : Int32)) (hc258 : i11 < (0 : Int32)) (hc264 : ¬ (i11 = (-1 : Int32))) :
    ∃ (T' : State), Stand p l e R s m args below meth c T' locs cells slots ∧ T'.heap = h0 ∧
      ∀ target, Steps p.tables e below (T'.setTop (mkF m 291 #[s0, s1, s2, s3, s4, s5, s6, s7, s8, s9, s10, .val (.int i11), s12, s13, s14, s15, s16, .val (.int i17), s18, s19, s20, .val (.int (1 : Int32)), s22] [])) target → Steps p.tables e below (T0.setTop (mkF m 228 #[s0, s1, s2, s3, s4, s5, s6, s7, s8, s9, s10, .val (.int i11), s12, s13, s14, s15, s16, .val (.int i17), s18, s19, s20, s21, s22] [])) target := by
  -- 3. LAWS

  refine ⟨T0, X0, e0, fun target kt => ?_⟩
  -- 4. STEPS
  show Steps p.tables e below (T0.setTop (mkF m 228 #[s0, s1, s2, s3, s4, s5, s6, s7, s8, s9, s10, .val (.int i11), s12, s13, s14, s15, s16, .val (.int i17), s18, s19, s20, s21, s22] [])) _
  refine XS.iload X0.here hx rfl (hb hby at_228) rfl ?_
  show Steps p.tables e below (T0.setTop (mkF m 230 #[s0, s1, s2, s3, s4, s5, s6, s7, s8, s9, s10, .val (.int i11), s12, s13, s14, s15, s16, .val (.int i17), s18, s19, s20, s21, s22] [(.int i17)])) _
  refine XS.iconst X0.here hx rfl (hb hby at_230) ?_
  show Steps p.tables e below (T0.setTop (mkF m 231 #[s0, s1, s2, s3, s4, s5, s6, s7, s8, s9, s10, .val (.int i11), s12, s13, s14, s15, s16, .val (.int i17), s18, s19, s20, s21, s22] [(.int (-1 : Int32)), (.int i17)])) _
  refine XS.icmpYes X0.here hx rfl (pc0 := 231) (pc' := 249) rfl (hb hby at_231) rfl (feq hc231).2 (by decide) (by decide) ?_
  show Steps p.tables e below (T0.setTop (mkF m 249 #[s0, s1, s2, s3, s4, s5, s6, s7, s8, s9, s10, .val (.int i11), s12, s13, s14, s15, s16, .val (.int i17), s18, s19, s20, s21, s22] [])) _
  refine XS.iload X0.here hx rfl (hb hby at_249) rfl ?_
  show Steps p.tables e below (T0.setTop (mkF m 251 #[s0, s1, s2, s3, s4, s5, s6, s7, s8, s9, s10, .val (.int i11), s12, s13, s14, s15, s16, .val (.int i17), s18, s19, s20, s21, s22] [(.int i17)])) _
  refine X0.ldcInt hx hown (mvT hZ (hw _ (List.mem_of_getElem? (i := 4) rfl))) (g := (mkF m 251 #[s0, s1, s2, s3, s4, s5, s6, s7, s8, s9, s10, .val (.int i11), s12, s13, s14, s15, s16, .val (.int i17), s18, s19, s20, s21, s22] [(.int i17)])) rfl (hb hby at_251) _ ?_
  show Steps p.tables e below (T0.setTop (mkF m 253 #[s0, s1, s2, s3, s4, s5, s6, s7, s8, s9, s10, .val (.int i11), s12, s13, s14, s15, s16, .val (.int i17), s18, s19, s20, s21, s22] [(.int (-2147483648 : Int32)), (.int i17)])) _
  refine XS.icmpNo X0.here hx rfl (hb hby at_253) rfl (teq hc253).2 ?_
  show Steps p.tables e below (T0.setTop (mkF m 256 #[s0, s1, s2, s3, s4, s5, s6, s7, s8, s9, s10, .val (.int i11), s12, s13, s14, s15, s16, .val (.int i17), s18, s19, s20, s21, s22] [])) _
  refine XS.iload X0.here hx rfl (hb hby at_256) rfl ?_
  show Steps p.tables e below (T0.setTop (mkF m 258 #[s0, s1, s2, s3, s4, s5, s6, s7, s8, s9, s10, .val (.int i11), s12, s13, s14, s15, s16, .val (.int i17), s18, s19, s20, s21, s22] [(.int i11)])) _
  refine XS.ifNo X0.here hx rfl (hb hby at_258) rfl ((if0 _ _).trans (tlt hc258).2.1) ?_
  show Steps p.tables e below (T0.setTop (mkF m 261 #[s0, s1, s2, s3, s4, s5, s6, s7, s8, s9, s10, .val (.int i11), s12, s13, s14, s15, s16, .val (.int i17), s18, s19, s20, s21, s22] [])) _
  refine XS.iload X0.here hx rfl (hb hby at_261) rfl ?_
  show Steps p.tables e below (T0.setTop (mkF m 263 #[s0, s1, s2, s3, s4, s5, s6, s7, s8, s9, s10, .val (.int i11), s12, s13, s14, s15, s16, .val (.int i17), s18, s19, s20, s21, s22] [(.int i11)])) _
  refine XS.iconst X0.here hx rfl (hb hby at_263) ?_
  show Steps p.tables e below (T0.setTop (mkF m 264 #[s0, s1, s2, s3, s4, s5, s6, s7, s8, s9, s10, .val (.int i11), s12, s13, s14, s15, s16, .val (.int i17), s18, s19, s20, s21, s22] [(.int (-1 : Int32)), (.int i11)])) _
  refine XS.icmpNo X0.here hx rfl (hb hby at_264) rfl (feq hc264).1 ?_
  show Steps p.tables e below (T0.setTop (mkF m 267 #[s0, s1, s2, s3, s4, s5, s6, s7, s8, s9, s10, .val (.int i11), s12, s13, s14, s15, s16, .val (.int i17), s18, s19, s20, s21, s22] [])) _
  refine XS.iconst X0.here hx rfl (hb hby at_267) ?_
  show Steps p.tables e below (T0.setTop (mkF m 268 #[s0, s1, s2, s3, s4, s5, s6, s7, s8, s9, s10, .val (.int i11), s12, s13, s14, s15, s16, .val (.int i17), s18, s19, s20, s21, s22] [(.int (1 : Int32))])) _
  refine XS.goto X0.here hx rfl (pc0 := 268) (pc' := 272) rfl (hb hby at_268) (by decide) (by decide) ?_
  show Steps p.tables e below (T0.setTop (mkF m 272 #[s0, s1, s2, s3, s4, s5, s6, s7, s8, s9, s10, .val (.int i11), s12, s13, s14, s15, s16, .val (.int i17), s18, s19, s20, s21, s22] [(.int (1 : Int32))])) _
  refine XS.istore X0.here hx rfl (hb hby at_272) rfl (l' := #[s0, s1, s2, s3, s4, s5, s6, s7, s8, s9, s10, .val (.int i11), s12, s13, s14, s15, s16, .val (.int i17), s18, s19, s20, .val (.int (1 : Int32)), s22]) (os0_272 hs21) ?_
  show Steps p.tables e below (T0.setTop (mkF m 274 #[s0, s1, s2, s3, s4, s5, s6, s7, s8, s9, s10, .val (.int i11), s12, s13, s14, s15, s16, .val (.int i17), s18, s19, s20, .val (.int (1 : Int32)), s22] [])) _
  refine XS.goto X0.here hx rfl (pc0 := 274) (pc' := 291) rfl (hb hby at_274) (by decide) (by decide) ?_
  exact kt
theorem os0_289 {s0 : Slot} {s1 : Slot} {s2 : Slot} {s3 : Slot} {s4 : Slot} {s5 : Slot} {s6 : Slot} {s7 : Slot} {s8 : Slot} {s9 : Slot} {s10 : Slot} {z11 : Value} {s12 : Slot} {s13 : Slot} {s14 : Slot} {s15 : Slot} {s16 : Slot} {z17 : Value} {s18 : Slot} {s19 : Slot} {s20 : Slot} {s21 : Slot} {s22 : Slot} {v : Int32} (h : One s21) : storeLocals #[s0, s1, s2, s3, s4, s5, s6, s7, s8, s9, s10, .val z11, s12, s13, s14, s15, s16, .val z17, s18, s19, s20, s21, s22] 21 (.int v) = some #[s0, s1, s2, s3, s4, s5, s6, s7, s8, s9, s10, .val z11, s12, s13, s14, s15, s16, .val z17, s18, s19, s20, .val (.int v), s22] := by
  rcases h with rfl | ⟨w, rfl, hw⟩
  · rfl
  · cases w <;> first | rfl | (simp [Value.category] at hw)
set_option maxRecDepth 65536 in
set_option maxHeartbeats 40000000 in
theorem tn0_228_291_ttf {p : Program} {l : Launch} {e : Env} {R : Room} {s : State} {m : MethodId} {args : Array Value} {below : List Frame} {meth : Method} {c : Code} {T0 : State} {locs : List Loc} {cells slots : Nat} {Z : State} {a0 : Array Value} {h0 : Heap} (s0 : Slot) (s1 : Slot) (s2 : Slot) (s3 : Slot) (s4 : Slot) (s5 : Slot) (s6 : Slot) (s7 : Slot) (s8 : Slot) (s9 : Slot) (s10 : Slot) (i11 : Int32) (s12 : Slot) (s13 : Slot) (s14 : Slot) (s15 : Slot) (s16 : Slot) (i17 : Int32) (s18 : Slot) (s19 : Slot) (s20 : Slot) (s21 : Slot) (s22 : Slot)
    (X0 : Stand p l e R s m args below meth c T0 locs cells slots) (hx : p.tables.exec = Jvm.exec) (hZ : Z.Warmed39 s.vm) (hw : ∀ d ∈ tables_1, d.before a0 Z = true) (hby : c.code = code) (hml : c.maxLocals = 23) (hown : s.vm.findClass "com/example/cablegram/cablegram/engine/EnvelopeMatchesPinLaw" = some m.cls) (e0 : T0.heap = h0) (hs21 : One s21) (hc231 : ¬ (i17 = (-1 : Int32))) (hc253 : ¬ (i17 = (-2147483648 : Int32))) (hc281 : i17 = i11) :
    ∃ (T' : State), Stand p l e R s m args below meth c T' locs cells slots ∧ T'.heap = h0 ∧
      ∀ target, Steps p.tables e below (T'.setTop (mkF m 291 #[s0, s1, s2, s3, s4, s5, s6, s7, s8, s9, s10, .val (.int i11), s12, s13, s14, s15, s16, .val (.int i17), s18, s19, s20, .val (.int (1 : Int32)), s22] [])) target → Steps p.tables e below (T0.setTop (mkF m 228 #[s0, s1, s2, s3, s4, s5, s6, s7, s8, s9, s10, .val (.int i11), s12, s13, s14, s15, s16, .val (.int i17), s18, s19, s20, s21, s22] [])) target := by
  -- 3. LAWS

  refine ⟨T0, X0, e0, fun target kt => ?_⟩
  -- 4. STEPS
  show Steps p.tables e below (T0.setTop (mkF m 228 #[s0, s1, s2, s3, s4, s5, s6, s7, s8, s9, s10, .val (.int i11), s12, s13, s14, s15, s16, .val (.int i17), s18, s19, s20, s21, s22] [])) _
  refine XS.iload X0.here hx rfl (hb hby at_228) rfl ?_
  show Steps p.tables e below (T0.setTop (mkF m 230 #[s0, s1, s2, s3, s4, s5, s6, s7, s8, s9, s10, .val (.int i11), s12, s13, s14, s15, s16, .val (.int i17), s18, s19, s20, s21, s22] [(.int i17)])) _
  refine XS.iconst X0.here hx rfl (hb hby at_230) ?_
  show Steps p.tables e below (T0.setTop (mkF m 231 #[s0, s1, s2, s3, s4, s5, s6, s7, s8, s9, s10, .val (.int i11), s12, s13, s14, s15, s16, .val (.int i17), s18, s19, s20, s21, s22] [(.int (-1 : Int32)), (.int i17)])) _
  refine XS.icmpYes X0.here hx rfl (pc0 := 231) (pc' := 249) rfl (hb hby at_231) rfl (feq hc231).2 (by decide) (by decide) ?_
  show Steps p.tables e below (T0.setTop (mkF m 249 #[s0, s1, s2, s3, s4, s5, s6, s7, s8, s9, s10, .val (.int i11), s12, s13, s14, s15, s16, .val (.int i17), s18, s19, s20, s21, s22] [])) _
  refine XS.iload X0.here hx rfl (hb hby at_249) rfl ?_
  show Steps p.tables e below (T0.setTop (mkF m 251 #[s0, s1, s2, s3, s4, s5, s6, s7, s8, s9, s10, .val (.int i11), s12, s13, s14, s15, s16, .val (.int i17), s18, s19, s20, s21, s22] [(.int i17)])) _
  refine X0.ldcInt hx hown (mvT hZ (hw _ (List.mem_of_getElem? (i := 4) rfl))) (g := (mkF m 251 #[s0, s1, s2, s3, s4, s5, s6, s7, s8, s9, s10, .val (.int i11), s12, s13, s14, s15, s16, .val (.int i17), s18, s19, s20, s21, s22] [(.int i17)])) rfl (hb hby at_251) _ ?_
  show Steps p.tables e below (T0.setTop (mkF m 253 #[s0, s1, s2, s3, s4, s5, s6, s7, s8, s9, s10, .val (.int i11), s12, s13, s14, s15, s16, .val (.int i17), s18, s19, s20, s21, s22] [(.int (-2147483648 : Int32)), (.int i17)])) _
  refine XS.icmpYes X0.here hx rfl (pc0 := 253) (pc' := 277) rfl (hb hby at_253) rfl (feq hc253).2 (by decide) (by decide) ?_
  show Steps p.tables e below (T0.setTop (mkF m 277 #[s0, s1, s2, s3, s4, s5, s6, s7, s8, s9, s10, .val (.int i11), s12, s13, s14, s15, s16, .val (.int i17), s18, s19, s20, s21, s22] [])) _
  refine XS.iload X0.here hx rfl (hb hby at_277) rfl ?_
  show Steps p.tables e below (T0.setTop (mkF m 279 #[s0, s1, s2, s3, s4, s5, s6, s7, s8, s9, s10, .val (.int i11), s12, s13, s14, s15, s16, .val (.int i17), s18, s19, s20, s21, s22] [(.int i17)])) _
  refine XS.iload X0.here hx rfl (hb hby at_279) rfl ?_
  show Steps p.tables e below (T0.setTop (mkF m 281 #[s0, s1, s2, s3, s4, s5, s6, s7, s8, s9, s10, .val (.int i11), s12, s13, s14, s15, s16, .val (.int i17), s18, s19, s20, s21, s22] [(.int i11), (.int i17)])) _
  refine XS.icmpNo X0.here hx rfl (hb hby at_281) rfl (teq hc281).2 ?_
  show Steps p.tables e below (T0.setTop (mkF m 284 #[s0, s1, s2, s3, s4, s5, s6, s7, s8, s9, s10, .val (.int i11), s12, s13, s14, s15, s16, .val (.int i17), s18, s19, s20, s21, s22] [])) _
  refine XS.iconst X0.here hx rfl (hb hby at_284) ?_
  show Steps p.tables e below (T0.setTop (mkF m 285 #[s0, s1, s2, s3, s4, s5, s6, s7, s8, s9, s10, .val (.int i11), s12, s13, s14, s15, s16, .val (.int i17), s18, s19, s20, s21, s22] [(.int (1 : Int32))])) _
  refine XS.goto X0.here hx rfl (pc0 := 285) (pc' := 289) rfl (hb hby at_285) (by decide) (by decide) ?_
  show Steps p.tables e below (T0.setTop (mkF m 289 #[s0, s1, s2, s3, s4, s5, s6, s7, s8, s9, s10, .val (.int i11), s12, s13, s14, s15, s16, .val (.int i17), s18, s19, s20, s21, s22] [(.int (1 : Int32))])) _
  refine XS.istore X0.here hx rfl (hb hby at_289) rfl (l' := #[s0, s1, s2, s3, s4, s5, s6, s7, s8, s9, s10, .val (.int i11), s12, s13, s14, s15, s16, .val (.int i17), s18, s19, s20, .val (.int (1 : Int32)), s22]) (os0_289 hs21) ?_
  exact kt
set_option maxRecDepth 65536 in
set_option maxHeartbeats 40000000 in
theorem tn0_228_291_ttt {p : Program} {l : Launch} {e : Env} {R : Room} {s : State} {m : MethodId} {args : Array Value} {below : List Frame} {meth : Method} {c : Code} {T0 : State} {locs : List Loc} {cells slots : Nat} {Z : State} {a0 : Array Value} {h0 : Heap} (s0 : Slot) (s1 : Slot) (s2 : Slot) (s3 : Slot) (s4 : Slot) (s5 : Slot) (s6 : Slot) (s7 : Slot) (s8 : Slot) (s9 : Slot) (s10 : Slot) (i11 : Int32) (s12 : Slot) (s13 : Slot) (s14 : Slot) (s15 : Slot) (s16 : Slot) (i17 : Int32) (s18 : Slot) (s19 : Slot) (s20 : Slot) (s21 : Slot) (s22 : Slot)
    (X0 : Stand p l e R s m args below meth c T0 locs cells slots) (hx : p.tables.exec = Jvm.exec) (hZ : Z.Warmed39 s.vm) (hw : ∀ d ∈ tables_1, d.before a0 Z = true) (hby : c.code = code) (hml : c.maxLocals = 23) (hown : s.vm.findClass "com/example/cablegram/cablegram/engine/EnvelopeMatchesPinLaw" = some m.cls) (e0 : T0.heap = h0) (hs21 : One s21) (hc231 : ¬ (i17 = (-1 : Int32))) (hc253 : ¬ (i17 = (-2147483648 : Int32))) (hc281 : ¬ (i17 = i11)) :
    ∃ (T' : State), Stand p l e R s m args below meth c T' locs cells slots ∧ T'.heap = h0 ∧
      ∀ target, Steps p.tables e below (T'.setTop (mkF m 291 #[s0, s1, s2, s3, s4, s5, s6, s7, s8, s9, s10, .val (.int i11), s12, s13, s14, s15, s16, .val (.int i17), s18, s19, s20, .val (.int (0 : Int32)), s22] [])) target → Steps p.tables e below (T0.setTop (mkF m 228 #[s0, s1, s2, s3, s4, s5, s6, s7, s8, s9, s10, .val (.int i11), s12, s13, s14, s15, s16, .val (.int i17), s18, s19, s20, s21, s22] [])) target := by
  -- 3. LAWS

  refine ⟨T0, X0, e0, fun target kt => ?_⟩
  -- 4. STEPS
  show Steps p.tables e below (T0.setTop (mkF m 228 #[s0, s1, s2, s3, s4, s5, s6, s7, s8, s9, s10, .val (.int i11), s12, s13, s14, s15, s16, .val (.int i17), s18, s19, s20, s21, s22] [])) _
  refine XS.iload X0.here hx rfl (hb hby at_228) rfl ?_
  show Steps p.tables e below (T0.setTop (mkF m 230 #[s0, s1, s2, s3, s4, s5, s6, s7, s8, s9, s10, .val (.int i11), s12, s13, s14, s15, s16, .val (.int i17), s18, s19, s20, s21, s22] [(.int i17)])) _
  refine XS.iconst X0.here hx rfl (hb hby at_230) ?_
  show Steps p.tables e below (T0.setTop (mkF m 231 #[s0, s1, s2, s3, s4, s5, s6, s7, s8, s9, s10, .val (.int i11), s12, s13, s14, s15, s16, .val (.int i17), s18, s19, s20, s21, s22] [(.int (-1 : Int32)), (.int i17)])) _
  refine XS.icmpYes X0.here hx rfl (pc0 := 231) (pc' := 249) rfl (hb hby at_231) rfl (feq hc231).2 (by decide) (by decide) ?_
  show Steps p.tables e below (T0.setTop (mkF m 249 #[s0, s1, s2, s3, s4, s5, s6, s7, s8, s9, s10, .val (.int i11), s12, s13, s14, s15, s16, .val (.int i17), s18, s19, s20, s21, s22] [])) _
  refine XS.iload X0.here hx rfl (hb hby at_249) rfl ?_
  show Steps p.tables e below (T0.setTop (mkF m 251 #[s0, s1, s2, s3, s4, s5, s6, s7, s8, s9, s10, .val (.int i11), s12, s13, s14, s15, s16, .val (.int i17), s18, s19, s20, s21, s22] [(.int i17)])) _
  refine X0.ldcInt hx hown (mvT hZ (hw _ (List.mem_of_getElem? (i := 4) rfl))) (g := (mkF m 251 #[s0, s1, s2, s3, s4, s5, s6, s7, s8, s9, s10, .val (.int i11), s12, s13, s14, s15, s16, .val (.int i17), s18, s19, s20, s21, s22] [(.int i17)])) rfl (hb hby at_251) _ ?_
  show Steps p.tables e below (T0.setTop (mkF m 253 #[s0, s1, s2, s3, s4, s5, s6, s7, s8, s9, s10, .val (.int i11), s12, s13, s14, s15, s16, .val (.int i17), s18, s19, s20, s21, s22] [(.int (-2147483648 : Int32)), (.int i17)])) _
  refine XS.icmpYes X0.here hx rfl (pc0 := 253) (pc' := 277) rfl (hb hby at_253) rfl (feq hc253).2 (by decide) (by decide) ?_
  show Steps p.tables e below (T0.setTop (mkF m 277 #[s0, s1, s2, s3, s4, s5, s6, s7, s8, s9, s10, .val (.int i11), s12, s13, s14, s15, s16, .val (.int i17), s18, s19, s20, s21, s22] [])) _
  refine XS.iload X0.here hx rfl (hb hby at_277) rfl ?_
  show Steps p.tables e below (T0.setTop (mkF m 279 #[s0, s1, s2, s3, s4, s5, s6, s7, s8, s9, s10, .val (.int i11), s12, s13, s14, s15, s16, .val (.int i17), s18, s19, s20, s21, s22] [(.int i17)])) _
  refine XS.iload X0.here hx rfl (hb hby at_279) rfl ?_
  show Steps p.tables e below (T0.setTop (mkF m 281 #[s0, s1, s2, s3, s4, s5, s6, s7, s8, s9, s10, .val (.int i11), s12, s13, s14, s15, s16, .val (.int i17), s18, s19, s20, s21, s22] [(.int i11), (.int i17)])) _
  refine XS.icmpYes X0.here hx rfl (pc0 := 281) (pc' := 288) rfl (hb hby at_281) rfl (feq hc281).2 (by decide) (by decide) ?_
  show Steps p.tables e below (T0.setTop (mkF m 288 #[s0, s1, s2, s3, s4, s5, s6, s7, s8, s9, s10, .val (.int i11), s12, s13, s14, s15, s16, .val (.int i17), s18, s19, s20, s21, s22] [])) _
  refine XS.iconst X0.here hx rfl (hb hby at_288) ?_
  show Steps p.tables e below (T0.setTop (mkF m 289 #[s0, s1, s2, s3, s4, s5, s6, s7, s8, s9, s10, .val (.int i11), s12, s13, s14, s15, s16, .val (.int i17), s18, s19, s20, s21, s22] [(.int (0 : Int32))])) _
  refine XS.istore X0.here hx rfl (hb hby at_289) rfl (l' := #[s0, s1, s2, s3, s4, s5, s6, s7, s8, s9, s10, .val (.int i11), s12, s13, s14, s15, s16, .val (.int i17), s18, s19, s20, .val (.int (0 : Int32)), s22]) (os0_289 hs21) ?_
  exact kt
theorem sgH {p : Program} {l : Launch} {e : Env} {R : Room} {s : State} {m : MethodId} {args : Array Value} {below : List Frame} {meth : Method} {c : Code} {T0 : State} {locs : List Loc} {cells slots : Nat} {Z : State} {a0 : Array Value} {h0 : Heap} (s0 : Slot) (s1 : Slot) (s2 : Slot) (s3 : Slot) (s4 : Slot) (s5 : Slot) (s6 : Slot) (s7 : Slot) (s8 : Slot) (s9 : Slot) (s10 : Slot) (i11 : Int32) (s12 : Slot) (s13 : Slot) (s14 : Slot) (s15 : Slot) (s16 : Slot) (i17 : Int32) (s18 : Slot) (s19 : Slot) (s20 : Slot) (s21 : Slot) (s22 : Slot)
    (X0 : Stand p l e R s m args below meth c T0 locs cells slots) (hx : p.tables.exec = Jvm.exec) (hZ : Z.Warmed39 s.vm) (hw : ∀ d ∈ tables_1, d.before a0 Z = true) (hby : c.code = code) (hml : c.maxLocals = 23) (hown : s.vm.findClass "com/example/cablegram/cablegram/engine/EnvelopeMatchesPinLaw" = some m.cls) (e0 : T0.heap = h0) (hs21 : One s21) :
    ∃ (T' : State), Stand p l e R s m args below meth c T' locs cells slots ∧ T'.heap = h0 ∧
      ∀ target, Steps p.tables e below (T'.setTop (mkF m 291 #[s0, s1, s2, s3, s4, s5, s6, s7, s8, s9, s10, .val (.int i11), s12, s13, s14, s15, s16, .val (.int i17), s18, s19, s20, .val (.int (own_tok i11 i17)), s22] [])) target → Steps p.tables e below (T0.setTop (mkF m 228 #[s0, s1, s2, s3, s4, s5, s6, s7, s8, s9, s10, .val (.int i11), s12, s13, s14, s15, s16, .val (.int i17), s18, s19, s20, s21, s22] [])) target := by
  by_cases w1 : i17 = (-1 : Int32)
  · by_cases t1 : i11 < (0 : Int32)
    · rw [show own_tok i11 i17 = 0 from by unfold own_tok; rw [if_pos w1, if_pos t1]]
      exact tn0_228_291_ft _ _ _ _ _ _ _ _ _ _ _ _ _ _ _ _ _ _ _ _ _ _ _ X0 hx hZ hw hby hml hown e0 (by first | exact own_oneU | exact own_oneI | exact own_oneR | assumption) w1 t1
    · rw [show own_tok i11 i17 = 1 from by unfold own_tok; rw [if_pos w1, if_neg t1]]
      exact tn0_228_291_ff _ _ _ _ _ _ _ _ _ _ _ _ _ _ _ _ _ _ _ _ _ _ _ X0 hx hZ hw hby hml hown e0 (by first | exact own_oneU | exact own_oneI | exact own_oneR | assumption) w1 t1
  by_cases w2 : i17 = (-2147483648 : Int32)
  · by_cases t1 : i11 < (0 : Int32)
    · by_cases t2 : i11 = (-1 : Int32)
      · rw [show own_tok i11 i17 = 0 from by unfold own_tok; rw [if_neg w1, if_pos w2, if_pos t1, if_pos t2]]
        exact tn0_228_291_tfft _ _ _ _ _ _ _ _ _ _ _ _ _ _ _ _ _ _ _ _ _ _ _ X0 hx hZ hw hby hml hown e0 (by first | exact own_oneU | exact own_oneI | exact own_oneR | assumption) w1 w2 t1 t2
      · rw [show own_tok i11 i17 = 1 from by unfold own_tok; rw [if_neg w1, if_pos w2, if_pos t1, if_neg t2]]
        exact tn0_228_291_tfff _ _ _ _ _ _ _ _ _ _ _ _ _ _ _ _ _ _ _ _ _ _ _ X0 hx hZ hw hby hml hown e0 (by first | exact own_oneU | exact own_oneI | exact own_oneR | assumption) w1 w2 t1 t2
    · rw [show own_tok i11 i17 = 0 from by unfold own_tok; rw [if_neg w1, if_pos w2, if_neg t1]]
      exact tn0_228_291_tft _ _ _ _ _ _ _ _ _ _ _ _ _ _ _ _ _ _ _ _ _ _ _ X0 hx hZ hw hby hml hown e0 (by first | exact own_oneU | exact own_oneI | exact own_oneR | assumption) w1 w2 t1
  by_cases w3 : i17 = i11
  · rw [show own_tok i11 i17 = 1 from by unfold own_tok; rw [if_neg w1, if_neg w2, if_pos w3]]
    exact tn0_228_291_ttf _ _ _ _ _ _ _ _ _ _ _ _ _ _ _ _ _ _ _ _ _ _ _ X0 hx hZ hw hby hml hown e0 (by first | exact own_oneU | exact own_oneI | exact own_oneR | assumption) w1 w2 w3
  · rw [show own_tok i11 i17 = 0 from by unfold own_tok; rw [if_neg w1, if_neg w2, if_neg w3]]
    exact tn0_228_291_ttt _ _ _ _ _ _ _ _ _ _ _ _ _ _ _ _ _ _ _ _ _ _ _ X0 hx hZ hw hby hml hown e0 (by first | exact own_oneU | exact own_oneI | exact own_oneR | assumption) w1 w2 w3
theorem os0_311 {s0 : Slot} {s1 : Slot} {s2 : Slot} {s3 : Slot} {s4 : Slot} {s5 : Slot} {s6 : Slot} {s7 : Slot} {s8 : Slot} {s9 : Slot} {s10 : Slot} {s11 : Slot} {s12 : Slot} {s13 : Slot} {s14 : Slot} {s15 : Slot} {s16 : Slot} {s17 : Slot} {s18 : Slot} {z19 : Value} {s20 : Slot} {s21 : Slot} {s22 : Slot} {v : Int32} (h : One s22) : storeLocals #[s0, s1, s2, s3, s4, s5, s6, s7, s8, s9, s10, s11, s12, s13, s14, s15, s16, s17, s18, .val z19, s20, s21, s22] 22 (.int v) = some #[s0, s1, s2, s3, s4, s5, s6, s7, s8, s9, s10, s11, s12, s13, s14, s15, s16, s17, s18, .val z19, s20, s21, .val (.int v)] := by
  rcases h with rfl | ⟨w, rfl, hw⟩
  · rfl
  · cases w <;> first | rfl | (simp [Value.category] at hw)
set_option maxRecDepth 65536 in
set_option maxHeartbeats 40000000 in
theorem tn0_291_313_t {p : Program} {l : Launch} {e : Env} {R : Room} {s : State} {m : MethodId} {args : Array Value} {below : List Frame} {meth : Method} {c : Code} {T0 : State} {locs : List Loc} {cells slots : Nat} {Z : State} {a0 : Array Value} {h0 : Heap} (s0 : Slot) (s1 : Slot) (s2 : Slot) (s3 : Slot) (s4 : Slot) (s5 : Slot) (s6 : Slot) (s7 : Slot) (s8 : Slot) (s9 : Slot) (s10 : Slot) (s11 : Slot) (s12 : Slot) (s13 : Slot) (s14 : Slot) (s15 : Slot) (s16 : Slot) (s17 : Slot) (s18 : Slot) (i19 : Int32) (s20 : Slot) (s21 : Slot) (s22 : Slot)
    (X0 : Stand p l e R s m args below meth c T0 locs cells slots) (hx : p.tables.exec = Jvm.exec) (hZ : Z.Warmed39 s.vm) (hw : ∀ d ∈ tables_1, d.before a0 Z = true) (hby : c.code = code) (hml : c.maxLocals = 23) (hown : s.vm.findClass "com/example/cablegram/cablegram/engine/EnvelopeMatchesPinLaw" = some m.cls) (e0 : T0.heap = h0) (hs22 : One s22) (hc293 : i19 = (0 : Int32)) :
    ∃ (T' : State), Stand p l e R s m args below meth c T' locs cells slots ∧ T'.heap = h0 ∧
      ∀ target, Steps p.tables e below (T'.setTop (mkF m 313 #[s0, s1, s2, s3, s4, s5, s6, s7, s8, s9, s10, s11, s12, s13, s14, s15, s16, s17, s18, .val (.int i19), s20, s21, .val (.int (0 : Int32))] [])) target → Steps p.tables e below (T0.setTop (mkF m 291 #[s0, s1, s2, s3, s4, s5, s6, s7, s8, s9, s10, s11, s12, s13, s14, s15, s16, s17, s18, .val (.int i19), s20, s21, s22] [])) target := by
  -- 3. LAWS

  refine ⟨T0, X0, e0, fun target kt => ?_⟩
  -- 4. STEPS
  show Steps p.tables e below (T0.setTop (mkF m 291 #[s0, s1, s2, s3, s4, s5, s6, s7, s8, s9, s10, s11, s12, s13, s14, s15, s16, s17, s18, .val (.int i19), s20, s21, s22] [])) _
  refine XS.iload X0.here hx rfl (hb hby at_291) rfl ?_
  show Steps p.tables e below (T0.setTop (mkF m 293 #[s0, s1, s2, s3, s4, s5, s6, s7, s8, s9, s10, s11, s12, s13, s14, s15, s16, s17, s18, .val (.int i19), s20, s21, s22] [(.int i19)])) _
  refine XS.ifYes X0.here hx rfl (pc0 := 293) (pc' := 310) rfl (hb hby at_293) rfl ((if0 _ _).trans (teq hc293).1) (by decide) (by decide) ?_
  show Steps p.tables e below (T0.setTop (mkF m 310 #[s0, s1, s2, s3, s4, s5, s6, s7, s8, s9, s10, s11, s12, s13, s14, s15, s16, s17, s18, .val (.int i19), s20, s21, s22] [])) _
  refine XS.iconst X0.here hx rfl (hb hby at_310) ?_
  show Steps p.tables e below (T0.setTop (mkF m 311 #[s0, s1, s2, s3, s4, s5, s6, s7, s8, s9, s10, s11, s12, s13, s14, s15, s16, s17, s18, .val (.int i19), s20, s21, s22] [(.int (0 : Int32))])) _
  refine XS.istore X0.here hx rfl (hb hby at_311) rfl (l' := #[s0, s1, s2, s3, s4, s5, s6, s7, s8, s9, s10, s11, s12, s13, s14, s15, s16, s17, s18, .val (.int i19), s20, s21, .val (.int (0 : Int32))]) (os0_311 hs22) ?_
  exact kt
theorem os0_311_ft {s0 : Slot} {s1 : Slot} {s2 : Slot} {s3 : Slot} {s4 : Slot} {s5 : Slot} {s6 : Slot} {s7 : Slot} {s8 : Slot} {s9 : Slot} {s10 : Slot} {s11 : Slot} {s12 : Slot} {s13 : Slot} {s14 : Slot} {s15 : Slot} {s16 : Slot} {s17 : Slot} {s18 : Slot} {z19 : Value} {z20 : Value} {s21 : Slot} {s22 : Slot} {v : Int32} (h : One s22) : storeLocals #[s0, s1, s2, s3, s4, s5, s6, s7, s8, s9, s10, s11, s12, s13, s14, s15, s16, s17, s18, .val z19, .val z20, s21, s22] 22 (.int v) = some #[s0, s1, s2, s3, s4, s5, s6, s7, s8, s9, s10, s11, s12, s13, s14, s15, s16, s17, s18, .val z19, .val z20, s21, .val (.int v)] := by
  rcases h with rfl | ⟨w, rfl, hw⟩
  · rfl
  · cases w <;> first | rfl | (simp [Value.category] at hw)
set_option maxRecDepth 65536 in
set_option maxHeartbeats 40000000 in
theorem tn0_291_313_ft {p : Program} {l : Launch} {e : Env} {R : Room} {s : State} {m : MethodId} {args : Array Value} {below : List Frame} {meth : Method} {c : Code} {T0 : State} {locs : List Loc} {cells slots : Nat} {Z : State} {a0 : Array Value} {h0 : Heap} (s0 : Slot) (s1 : Slot) (s2 : Slot) (s3 : Slot) (s4 : Slot) (s5 : Slot) (s6 : Slot) (s7 : Slot) (s8 : Slot) (s9 : Slot) (s10 : Slot) (s11 : Slot) (s12 : Slot) (s13 : Slot) (s14 : Slot) (s15 : Slot) (s16 : Slot) (s17 : Slot) (s18 : Slot) (i19 : Int32) (i20 : Int32) (s21 : Slot) (s22 : Slot)
    (X0 : Stand p l e R s m args below meth c T0 locs cells slots) (hx : p.tables.exec = Jvm.exec) (hZ : Z.Warmed39 s.vm) (hw : ∀ d ∈ tables_1, d.before a0 Z = true) (hby : c.code = code) (hml : c.maxLocals = 23) (hown : s.vm.findClass "com/example/cablegram/cablegram/engine/EnvelopeMatchesPinLaw" = some m.cls) (e0 : T0.heap = h0) (hs22 : One s22) (hc293 : ¬ (i19 = (0 : Int32))) (hc298 : i20 = (0 : Int32)) :
    ∃ (T' : State), Stand p l e R s m args below meth c T' locs cells slots ∧ T'.heap = h0 ∧
      ∀ target, Steps p.tables e below (T'.setTop (mkF m 313 #[s0, s1, s2, s3, s4, s5, s6, s7, s8, s9, s10, s11, s12, s13, s14, s15, s16, s17, s18, .val (.int i19), .val (.int i20), s21, .val (.int (0 : Int32))] [])) target → Steps p.tables e below (T0.setTop (mkF m 291 #[s0, s1, s2, s3, s4, s5, s6, s7, s8, s9, s10, s11, s12, s13, s14, s15, s16, s17, s18, .val (.int i19), .val (.int i20), s21, s22] [])) target := by
  -- 3. LAWS

  refine ⟨T0, X0, e0, fun target kt => ?_⟩
  -- 4. STEPS
  show Steps p.tables e below (T0.setTop (mkF m 291 #[s0, s1, s2, s3, s4, s5, s6, s7, s8, s9, s10, s11, s12, s13, s14, s15, s16, s17, s18, .val (.int i19), .val (.int i20), s21, s22] [])) _
  refine XS.iload X0.here hx rfl (hb hby at_291) rfl ?_
  show Steps p.tables e below (T0.setTop (mkF m 293 #[s0, s1, s2, s3, s4, s5, s6, s7, s8, s9, s10, s11, s12, s13, s14, s15, s16, s17, s18, .val (.int i19), .val (.int i20), s21, s22] [(.int i19)])) _
  refine XS.ifNo X0.here hx rfl (hb hby at_293) rfl ((if0 _ _).trans (feq hc293).1) ?_
  show Steps p.tables e below (T0.setTop (mkF m 296 #[s0, s1, s2, s3, s4, s5, s6, s7, s8, s9, s10, s11, s12, s13, s14, s15, s16, s17, s18, .val (.int i19), .val (.int i20), s21, s22] [])) _
  refine XS.iload X0.here hx rfl (hb hby at_296) rfl ?_
  show Steps p.tables e below (T0.setTop (mkF m 298 #[s0, s1, s2, s3, s4, s5, s6, s7, s8, s9, s10, s11, s12, s13, s14, s15, s16, s17, s18, .val (.int i19), .val (.int i20), s21, s22] [(.int i20)])) _
  refine XS.ifYes X0.here hx rfl (pc0 := 298) (pc' := 310) rfl (hb hby at_298) rfl ((if0 _ _).trans (teq hc298).1) (by decide) (by decide) ?_
  show Steps p.tables e below (T0.setTop (mkF m 310 #[s0, s1, s2, s3, s4, s5, s6, s7, s8, s9, s10, s11, s12, s13, s14, s15, s16, s17, s18, .val (.int i19), .val (.int i20), s21, s22] [])) _
  refine XS.iconst X0.here hx rfl (hb hby at_310) ?_
  show Steps p.tables e below (T0.setTop (mkF m 311 #[s0, s1, s2, s3, s4, s5, s6, s7, s8, s9, s10, s11, s12, s13, s14, s15, s16, s17, s18, .val (.int i19), .val (.int i20), s21, s22] [(.int (0 : Int32))])) _
  refine XS.istore X0.here hx rfl (hb hby at_311) rfl (l' := #[s0, s1, s2, s3, s4, s5, s6, s7, s8, s9, s10, s11, s12, s13, s14, s15, s16, s17, s18, .val (.int i19), .val (.int i20), s21, .val (.int (0 : Int32))]) (os0_311_ft hs22) ?_
  exact kt
theorem os0_311_fft {s0 : Slot} {s1 : Slot} {s2 : Slot} {s3 : Slot} {s4 : Slot} {s5 : Slot} {s6 : Slot} {s7 : Slot} {s8 : Slot} {s9 : Slot} {s10 : Slot} {s11 : Slot} {s12 : Slot} {s13 : Slot} {s14 : Slot} {s15 : Slot} {s16 : Slot} {s17 : Slot} {s18 : Slot} {z19 : Value} {z20 : Value} {z21 : Value} {s22 : Slot} {v : Int32} (h : One s22) : storeLocals #[s0, s1, s2, s3, s4, s5, s6, s7, s8, s9, s10, s11, s12, s13, s14, s15, s16, s17, s18, .val z19, .val z20, .val z21, s22] 22 (.int v) = some #[s0, s1, s2, s3, s4, s5, s6, s7, s8, s9, s10, s11, s12, s13, s14, s15, s16, s17, s18, .val z19, .val z20, .val z21, .val (.int v)] := by
  rcases h with rfl | ⟨w, rfl, hw⟩
  · rfl
  · cases w <;> first | rfl | (simp [Value.category] at hw)
set_option maxRecDepth 65536 in
set_option maxHeartbeats 40000000 in
theorem tn0_291_313_fft {p : Program} {l : Launch} {e : Env} {R : Room} {s : State} {m : MethodId} {args : Array Value} {below : List Frame} {meth : Method} {c : Code} {T0 : State} {locs : List Loc} {cells slots : Nat} {Z : State} {a0 : Array Value} {h0 : Heap} (s0 : Slot) (s1 : Slot) (s2 : Slot) (s3 : Slot) (s4 : Slot) (s5 : Slot) (s6 : Slot) (s7 : Slot) (s8 : Slot) (s9 : Slot) (s10 : Slot) (s11 : Slot) (s12 : Slot) (s13 : Slot) (s14 : Slot) (s15 : Slot) (s16 : Slot) (s17 : Slot) (s18 : Slot) (i19 : Int32) (i20 : Int32) (i21 : Int32) (s22 : Slot)
    (X0 : Stand p l e R s m args below meth c T0 locs cells slots) (hx : p.tables.exec = Jvm.exec) (hZ : Z.Warmed39 s.vm) (hw : ∀ d ∈ tables_1, d.before a0 Z = true) (hby : c.code = code) (hml : c.maxLocals = 23) (hown : s.vm.findClass "com/example/cablegram/cablegram/engine/EnvelopeMatchesPinLaw" = some m.cls) (e0 : T0.heap = h0) (hs22 : One s22) (hc293 : ¬ (i19 = (0 : Int32))) (hc298 : ¬ (i20 = (0 : Int32))) (hc303 : i21 = (0 : Int32)) :
    ∃ (T' : State), Stand p l e R s m args below meth c T' locs cells slots ∧ T'.heap = h0 ∧
      ∀ target, Steps p.tables e below (T'.setTop (mkF m 313 #[s0, s1, s2, s3, s4, s5, s6, s7, s8, s9, s10, s11, s12, s13, s14, s15, s16, s17, s18, .val (.int i19), .val (.int i20), .val (.int i21), .val (.int (0 : Int32))] [])) target → Steps p.tables e below (T0.setTop (mkF m 291 #[s0, s1, s2, s3, s4, s5, s6, s7, s8, s9, s10, s11, s12, s13, s14, s15, s16, s17, s18, .val (.int i19), .val (.int i20), .val (.int i21), s22] [])) target := by
  -- 3. LAWS

  refine ⟨T0, X0, e0, fun target kt => ?_⟩
  -- 4. STEPS
  show Steps p.tables e below (T0.setTop (mkF m 291 #[s0, s1, s2, s3, s4, s5, s6, s7, s8, s9, s10, s11, s12, s13, s14, s15, s16, s17, s18, .val (.int i19), .val (.int i20), .val (.int i21), s22] [])) _
  refine XS.iload X0.here hx rfl (hb hby at_291) rfl ?_
  show Steps p.tables e below (T0.setTop (mkF m 293 #[s0, s1, s2, s3, s4, s5, s6, s7, s8, s9, s10, s11, s12, s13, s14, s15, s16, s17, s18, .val (.int i19), .val (.int i20), .val (.int i21), s22] [(.int i19)])) _
  refine XS.ifNo X0.here hx rfl (hb hby at_293) rfl ((if0 _ _).trans (feq hc293).1) ?_
  show Steps p.tables e below (T0.setTop (mkF m 296 #[s0, s1, s2, s3, s4, s5, s6, s7, s8, s9, s10, s11, s12, s13, s14, s15, s16, s17, s18, .val (.int i19), .val (.int i20), .val (.int i21), s22] [])) _
  refine XS.iload X0.here hx rfl (hb hby at_296) rfl ?_
  show Steps p.tables e below (T0.setTop (mkF m 298 #[s0, s1, s2, s3, s4, s5, s6, s7, s8, s9, s10, s11, s12, s13, s14, s15, s16, s17, s18, .val (.int i19), .val (.int i20), .val (.int i21), s22] [(.int i20)])) _
  refine XS.ifNo X0.here hx rfl (hb hby at_298) rfl ((if0 _ _).trans (feq hc298).1) ?_
  show Steps p.tables e below (T0.setTop (mkF m 301 #[s0, s1, s2, s3, s4, s5, s6, s7, s8, s9, s10, s11, s12, s13, s14, s15, s16, s17, s18, .val (.int i19), .val (.int i20), .val (.int i21), s22] [])) _
  refine XS.iload X0.here hx rfl (hb hby at_301) rfl ?_
  show Steps p.tables e below (T0.setTop (mkF m 303 #[s0, s1, s2, s3, s4, s5, s6, s7, s8, s9, s10, s11, s12, s13, s14, s15, s16, s17, s18, .val (.int i19), .val (.int i20), .val (.int i21), s22] [(.int i21)])) _
  refine XS.ifYes X0.here hx rfl (pc0 := 303) (pc' := 310) rfl (hb hby at_303) rfl ((if0 _ _).trans (teq hc303).1) (by decide) (by decide) ?_
  show Steps p.tables e below (T0.setTop (mkF m 310 #[s0, s1, s2, s3, s4, s5, s6, s7, s8, s9, s10, s11, s12, s13, s14, s15, s16, s17, s18, .val (.int i19), .val (.int i20), .val (.int i21), s22] [])) _
  refine XS.iconst X0.here hx rfl (hb hby at_310) ?_
  show Steps p.tables e below (T0.setTop (mkF m 311 #[s0, s1, s2, s3, s4, s5, s6, s7, s8, s9, s10, s11, s12, s13, s14, s15, s16, s17, s18, .val (.int i19), .val (.int i20), .val (.int i21), s22] [(.int (0 : Int32))])) _
  refine XS.istore X0.here hx rfl (hb hby at_311) rfl (l' := #[s0, s1, s2, s3, s4, s5, s6, s7, s8, s9, s10, s11, s12, s13, s14, s15, s16, s17, s18, .val (.int i19), .val (.int i20), .val (.int i21), .val (.int (0 : Int32))]) (os0_311_fft hs22) ?_
  exact kt
theorem os0_311_fff {s0 : Slot} {s1 : Slot} {s2 : Slot} {s3 : Slot} {s4 : Slot} {s5 : Slot} {s6 : Slot} {s7 : Slot} {s8 : Slot} {s9 : Slot} {s10 : Slot} {s11 : Slot} {s12 : Slot} {s13 : Slot} {s14 : Slot} {s15 : Slot} {s16 : Slot} {s17 : Slot} {s18 : Slot} {z19 : Value} {z20 : Value} {z21 : Value} {s22 : Slot} {v : Int32} (h : One s22) : storeLocals #[s0, s1, s2, s3, s4, s5, s6, s7, s8, s9, s10, s11, s12, s13, s14, s15, s16, s17, s18, .val z19, .val z20, .val z21, s22] 22 (.int v) = some #[s0, s1, s2, s3, s4, s5, s6, s7, s8, s9, s10, s11, s12, s13, s14, s15, s16, s17, s18, .val z19, .val z20, .val z21, .val (.int v)] := by
  rcases h with rfl | ⟨w, rfl, hw⟩
  · rfl
  · cases w <;> first | rfl | (simp [Value.category] at hw)
set_option maxRecDepth 65536 in
set_option maxHeartbeats 40000000 in
theorem tn0_291_313_fff {p : Program} {l : Launch} {e : Env} {R : Room} {s : State} {m : MethodId} {args : Array Value} {below : List Frame} {meth : Method} {c : Code} {T0 : State} {locs : List Loc} {cells slots : Nat} {Z : State} {a0 : Array Value} {h0 : Heap} (s0 : Slot) (s1 : Slot) (s2 : Slot) (s3 : Slot) (s4 : Slot) (s5 : Slot) (s6 : Slot) (s7 : Slot) (s8 : Slot) (s9 : Slot) (s10 : Slot) (s11 : Slot) (s12 : Slot) (s13 : Slot) (s14 : Slot) (s15 : Slot) (s16 : Slot) (s17 : Slot) (s18 : Slot) (i19 : Int32) (i20 : Int32) (i21 : Int32) (s22 : Slot)
    (X0 : Stand p l e R s m args below meth c T0 locs cells slots) (hx : p.tables.exec = Jvm.exec) (hZ : Z.Warmed39 s.vm) (hw : ∀ d ∈ tables_1, d.before a0 Z = true) (hby : c.code = code) (hml : c.maxLocals = 23) (hown : s.vm.findClass "com/example/cablegram/cablegram/engine/EnvelopeMatchesPinLaw" = some m.cls) (e0 : T0.heap = h0) (hs22 : One s22) (hc293 : ¬ (i19 = (0 : Int32))) (hc298 : ¬ (i20 = (0 : Int32))) (hc303 : ¬ (i21 = (0 : Int32))) :
    ∃ (T' : State), Stand p l e R s m args below meth c T' locs cells slots ∧ T'.heap = h0 ∧
      ∀ target, Steps p.tables e below (T'.setTop (mkF m 313 #[s0, s1, s2, s3, s4, s5, s6, s7, s8, s9, s10, s11, s12, s13, s14, s15, s16, s17, s18, .val (.int i19), .val (.int i20), .val (.int i21), .val (.int (1 : Int32))] [])) target → Steps p.tables e below (T0.setTop (mkF m 291 #[s0, s1, s2, s3, s4, s5, s6, s7, s8, s9, s10, s11, s12, s13, s14, s15, s16, s17, s18, .val (.int i19), .val (.int i20), .val (.int i21), s22] [])) target := by
  -- 3. LAWS

  refine ⟨T0, X0, e0, fun target kt => ?_⟩
  -- 4. STEPS
  show Steps p.tables e below (T0.setTop (mkF m 291 #[s0, s1, s2, s3, s4, s5, s6, s7, s8, s9, s10, s11, s12, s13, s14, s15, s16, s17, s18, .val (.int i19), .val (.int i20), .val (.int i21), s22] [])) _
  refine XS.iload X0.here hx rfl (hb hby at_291) rfl ?_
  show Steps p.tables e below (T0.setTop (mkF m 293 #[s0, s1, s2, s3, s4, s5, s6, s7, s8, s9, s10, s11, s12, s13, s14, s15, s16, s17, s18, .val (.int i19), .val (.int i20), .val (.int i21), s22] [(.int i19)])) _
  refine XS.ifNo X0.here hx rfl (hb hby at_293) rfl ((if0 _ _).trans (feq hc293).1) ?_
  show Steps p.tables e below (T0.setTop (mkF m 296 #[s0, s1, s2, s3, s4, s5, s6, s7, s8, s9, s10, s11, s12, s13, s14, s15, s16, s17, s18, .val (.int i19), .val (.int i20), .val (.int i21), s22] [])) _
  refine XS.iload X0.here hx rfl (hb hby at_296) rfl ?_
  show Steps p.tables e below (T0.setTop (mkF m 298 #[s0, s1, s2, s3, s4, s5, s6, s7, s8, s9, s10, s11, s12, s13, s14, s15, s16, s17, s18, .val (.int i19), .val (.int i20), .val (.int i21), s22] [(.int i20)])) _
  refine XS.ifNo X0.here hx rfl (hb hby at_298) rfl ((if0 _ _).trans (feq hc298).1) ?_
  show Steps p.tables e below (T0.setTop (mkF m 301 #[s0, s1, s2, s3, s4, s5, s6, s7, s8, s9, s10, s11, s12, s13, s14, s15, s16, s17, s18, .val (.int i19), .val (.int i20), .val (.int i21), s22] [])) _
  refine XS.iload X0.here hx rfl (hb hby at_301) rfl ?_
  show Steps p.tables e below (T0.setTop (mkF m 303 #[s0, s1, s2, s3, s4, s5, s6, s7, s8, s9, s10, s11, s12, s13, s14, s15, s16, s17, s18, .val (.int i19), .val (.int i20), .val (.int i21), s22] [(.int i21)])) _
  refine XS.ifNo X0.here hx rfl (hb hby at_303) rfl ((if0 _ _).trans (feq hc303).1) ?_
  show Steps p.tables e below (T0.setTop (mkF m 306 #[s0, s1, s2, s3, s4, s5, s6, s7, s8, s9, s10, s11, s12, s13, s14, s15, s16, s17, s18, .val (.int i19), .val (.int i20), .val (.int i21), s22] [])) _
  refine XS.iconst X0.here hx rfl (hb hby at_306) ?_
  show Steps p.tables e below (T0.setTop (mkF m 307 #[s0, s1, s2, s3, s4, s5, s6, s7, s8, s9, s10, s11, s12, s13, s14, s15, s16, s17, s18, .val (.int i19), .val (.int i20), .val (.int i21), s22] [(.int (1 : Int32))])) _
  refine XS.goto X0.here hx rfl (pc0 := 307) (pc' := 311) rfl (hb hby at_307) (by decide) (by decide) ?_
  show Steps p.tables e below (T0.setTop (mkF m 311 #[s0, s1, s2, s3, s4, s5, s6, s7, s8, s9, s10, s11, s12, s13, s14, s15, s16, s17, s18, .val (.int i19), .val (.int i20), .val (.int i21), s22] [(.int (1 : Int32))])) _
  refine XS.istore X0.here hx rfl (hb hby at_311) rfl (l' := #[s0, s1, s2, s3, s4, s5, s6, s7, s8, s9, s10, s11, s12, s13, s14, s15, s16, s17, s18, .val (.int i19), .val (.int i20), .val (.int i21), .val (.int (1 : Int32))]) (os0_311_fff hs22) ?_
  exact kt
theorem sgI {p : Program} {l : Launch} {e : Env} {R : Room} {s : State} {m : MethodId} {args : Array Value} {below : List Frame} {meth : Method} {c : Code} {T0 : State} {locs : List Loc} {cells slots : Nat} {Z : State} {a0 : Array Value} {h0 : Heap} (s0 : Slot) (s1 : Slot) (s2 : Slot) (s3 : Slot) (s4 : Slot) (s5 : Slot) (s6 : Slot) (s7 : Slot) (s8 : Slot) (s9 : Slot) (s10 : Slot) (s11 : Slot) (s12 : Slot) (s13 : Slot) (s14 : Slot) (s15 : Slot) (s16 : Slot) (s17 : Slot) (s18 : Slot) (i19 : Int32) (i20 : Int32) (i21 : Int32) (s22 : Slot)
    (X0 : Stand p l e R s m args below meth c T0 locs cells slots) (hx : p.tables.exec = Jvm.exec) (hZ : Z.Warmed39 s.vm) (hw : ∀ d ∈ tables_1, d.before a0 Z = true) (hby : c.code = code) (hml : c.maxLocals = 23) (hown : s.vm.findClass "com/example/cablegram/cablegram/engine/EnvelopeMatchesPinLaw" = some m.cls) (e0 : T0.heap = h0) (hs22 : One s22) :
    ∃ (T' : State), Stand p l e R s m args below meth c T' locs cells slots ∧ T'.heap = h0 ∧
      ∀ target, Steps p.tables e below (T'.setTop (mkF m 313 #[s0, s1, s2, s3, s4, s5, s6, s7, s8, s9, s10, s11, s12, s13, s14, s15, s16, s17, s18, .val (.int i19), .val (.int i20), .val (.int i21), .val (.int (own_and3 i19 i20 i21))] [])) target → Steps p.tables e below (T0.setTop (mkF m 291 #[s0, s1, s2, s3, s4, s5, s6, s7, s8, s9, s10, s11, s12, s13, s14, s15, s16, s17, s18, .val (.int i19), .val (.int i20), .val (.int i21), s22] [])) target := by
  by_cases a1 : i19 = (0 : Int32)
  · rw [show own_and3 i19 i20 i21 = 0 from by unfold own_and3; rw [if_pos a1]]
    exact tn0_291_313_t _ _ _ _ _ _ _ _ _ _ _ _ _ _ _ _ _ _ _ _ _ _ _ X0 hx hZ hw hby hml hown e0 (by first | exact own_oneU | exact own_oneI | exact own_oneR | assumption) a1
  by_cases a2 : i20 = (0 : Int32)
  · rw [show own_and3 i19 i20 i21 = 0 from by unfold own_and3; rw [if_neg a1, if_pos a2]]
    exact tn0_291_313_ft _ _ _ _ _ _ _ _ _ _ _ _ _ _ _ _ _ _ _ _ _ _ _ X0 hx hZ hw hby hml hown e0 (by first | exact own_oneU | exact own_oneI | exact own_oneR | assumption) a1 a2
  by_cases a3 : i21 = (0 : Int32)
  · rw [show own_and3 i19 i20 i21 = 0 from by unfold own_and3; rw [if_neg a1, if_neg a2, if_pos a3]]
    exact tn0_291_313_fft _ _ _ _ _ _ _ _ _ _ _ _ _ _ _ _ _ _ _ _ _ _ _ X0 hx hZ hw hby hml hown e0 (by first | exact own_oneU | exact own_oneI | exact own_oneR | assumption) a1 a2 a3
  · rw [show own_and3 i19 i20 i21 = 1 from by unfold own_and3; rw [if_neg a1, if_neg a2, if_neg a3]]
    exact tn0_291_313_fff _ _ _ _ _ _ _ _ _ _ _ _ _ _ _ _ _ _ _ _ _ _ _ X0 hx hZ hw hby hml hown e0 (by first | exact own_oneU | exact own_oneI | exact own_oneR | assumption) a1 a2 a3
set_option maxRecDepth 65536 in
set_option maxHeartbeats 40000000 in
theorem tn0_313_325_f {p : Program} {l : Launch} {e : Env} {R : Room} {s : State} {m : MethodId} {args : Array Value} {below : List Frame} {meth : Method} {c : Code} {T0 : State} {locs : List Loc} {cells slots : Nat} {Z : State} {a0 : Array Value} {h0 : Heap} (s0 : Slot) (s1 : Slot) (s2 : Slot) (s3 : Slot) (s4 : Slot) (s5 : Slot) (s6 : Slot) (s7 : Slot) (s8 : Slot) (s9 : Slot) (s10 : Slot) (s11 : Slot) (s12 : Slot) (s13 : Slot) (s14 : Slot) (s15 : Slot) (s16 : Slot) (s17 : Slot) (i18 : Int32) (s19 : Slot) (s20 : Slot) (s21 : Slot) (i22 : Int32)
    (X0 : Stand p l e R s m args below meth c T0 locs cells slots) (hx : p.tables.exec = Jvm.exec) (hZ : Z.Warmed39 s.vm) (hw : ∀ d ∈ tables_1, d.before a0 Z = true) (hby : c.code = code) (hml : c.maxLocals = 23) (hown : s.vm.findClass "com/example/cablegram/cablegram/engine/EnvelopeMatchesPinLaw" = some m.cls) (e0 : T0.heap = h0) (hc317 : i18 = i22) :
    ∃ (T' : State), Stand p l e R s m args below meth c T' locs cells slots ∧ T'.heap = h0 ∧
      ∀ target, Steps p.tables e below (T'.setTop (mkF m 325 #[s0, s1, s2, s3, s4, s5, s6, s7, s8, s9, s10, s11, s12, s13, s14, s15, s16, s17, .val (.int i18), s19, s20, s21, .val (.int i22)] [(.int (1 : Int32))])) target → Steps p.tables e below (T0.setTop (mkF m 313 #[s0, s1, s2, s3, s4, s5, s6, s7, s8, s9, s10, s11, s12, s13, s14, s15, s16, s17, .val (.int i18), s19, s20, s21, .val (.int i22)] [])) target := by
  -- 3. LAWS

  refine ⟨T0, X0, e0, fun target kt => ?_⟩
  -- 4. STEPS
  show Steps p.tables e below (T0.setTop (mkF m 313 #[s0, s1, s2, s3, s4, s5, s6, s7, s8, s9, s10, s11, s12, s13, s14, s15, s16, s17, .val (.int i18), s19, s20, s21, .val (.int i22)] [])) _
  refine XS.iload X0.here hx rfl (hb hby at_313) rfl ?_
  show Steps p.tables e below (T0.setTop (mkF m 315 #[s0, s1, s2, s3, s4, s5, s6, s7, s8, s9, s10, s11, s12, s13, s14, s15, s16, s17, .val (.int i18), s19, s20, s21, .val (.int i22)] [(.int i18)])) _
  refine XS.iload X0.here hx rfl (hb hby at_315) rfl ?_
  show Steps p.tables e below (T0.setTop (mkF m 317 #[s0, s1, s2, s3, s4, s5, s6, s7, s8, s9, s10, s11, s12, s13, s14, s15, s16, s17, .val (.int i18), s19, s20, s21, .val (.int i22)] [(.int i22), (.int i18)])) _
  refine XS.icmpNo X0.here hx rfl (hb hby at_317) rfl (teq hc317).2 ?_
  show Steps p.tables e below (T0.setTop (mkF m 320 #[s0, s1, s2, s3, s4, s5, s6, s7, s8, s9, s10, s11, s12, s13, s14, s15, s16, s17, .val (.int i18), s19, s20, s21, .val (.int i22)] [])) _
  refine XS.iconst X0.here hx rfl (hb hby at_320) ?_
  show Steps p.tables e below (T0.setTop (mkF m 321 #[s0, s1, s2, s3, s4, s5, s6, s7, s8, s9, s10, s11, s12, s13, s14, s15, s16, s17, .val (.int i18), s19, s20, s21, .val (.int i22)] [(.int (1 : Int32))])) _
  refine XS.goto X0.here hx rfl (pc0 := 321) (pc' := 325) rfl (hb hby at_321) (by decide) (by decide) ?_
  exact kt
theorem pn_0 : plainName "com/example/cablegram/cablegram/engine/EnvelopeMatchesPinLaw" = true := by first | (simp [plainName, overriddenIn]; done) | decide +kernel
theorem ef_0 (m : MethodId) (x0 : Int32) (x1 : Int64) (x2 : Int32) (x3 : Int64) (x4 : Int64) (x5 : Int64) : entryFrame m #[(.int x0), (.long x1), (.int x2), (.long x3), (.long x4), (.long x5)] maxLocals = mkF m 0 #[.val (.int x0), .val (.long x1), .second, .val (.int x2), .val (.long x3), .second, .val (.long x4), .second, .val (.long x5), .second, .unset, .unset, .unset, .unset, .unset, .unset, .unset, .unset, .unset, .unset, .unset, .unset, .unset] [] := by first | (simp [entryFrame, mkF, argsToLocals, Value.category, maxLocals]; done) | rfl

set_option maxRecDepth 65536 in
set_option maxHeartbeats 40000000 in
theorem rm0 (l : Launch) (Z : State) (a0 : Array Value) (hw : ∀ d ∈ tables_1, d.before a0 Z = true) (ws : List Jvm.Cond) (p1 : Int32) (q2 : Int64) (p3 : Int32) (q4 : Int64) (q5 : Int64) (q6 : Int64) (h0 : Heap) (n0 : Nat) (Z0 : n0 ≤ h0.size) :
    MetFree l x (head1 (Jvm.Cond.code x code maxLocals ret :: ws) room_1) (fun a U => a = #[(.int p1), (.long q2), (.int p3), (.long q4), (.long q5), (.long q6)] ∧ Z.Warmed39 U.vm ∧ U.heap = h0) (fun _ _ _ _ _ => True) (fun _ U o U' => ∃ v L, o = .returned v ∧ Ql (some (.int (1 : Int32))) n0 v L ∧ FrameEnd U o U' L room_1.cells room_1.slots) := by
  refine MetFree.of_bodySF (plainFor_of_name pn_0) hisR ?_
  intro p e s m args below meth c s₁ Bd hml0 hP hK
  obtain ⟨rfl, hZ, hh⟩ := hP
  have hx := Bd.exec
  have hby := Bd.bytes
  have hml : c.maxLocals = 23 := hml0
  have hown : s.vm.findClass "com/example/cablegram/cablegram/engine/EnvelopeMatchesPinLaw" = some m.cls := findClass_of_methodNamed Bd.named
  have hnm := (name_of_methodNamed Bd.named Bd.method).1
  have X0 : Stand p l e room_1 s m #[(.int p1), (.long q2), (.int p3), (.long q4), (.long q5), (.long q6)] below meth c s₁ [] 0 0 := Stand.of_body Bd
  have e0 : s₁.heap = h0 := by rw [← hh, Bd.state]; rfl
  have N0 := Fr.nil n0
  have pre0 : ∀ t, Steps p.tables e below (s₁.setTop (mkF m 0 #[.val (.int p1), .val (.long q2), .second, .val (.int p3), .val (.long q4), .second, .val (.long q5), .second, .val (.long q6), .second, .unset, .unset, .unset, .unset, .unset, .unset, .unset, .unset, .unset, .unset, .unset, .unset, .unset] [])) t → Steps p.tables e below (s₁.setTop (entryFrame m #[(.int p1), (.long q2), (.int p3), (.long q4), (.long q5), (.long q6)] maxLocals)) t := fun t k => castTop (ef_0 m p1 q2 p3 q4 q5 q6) k
  obtain ⟨TA, XA, eA, stA⟩ := sgA (.val (.int p1)) (.val (.long q2)) (.second) p3 (.val (.long q4)) (.second) (.val (.long q5)) (.second) q6 (.unset) (.unset) (.unset) (.unset) (.unset) (.unset) (.unset) (.unset) (.unset) (.unset) (.unset) (.unset) (.unset) X0 hx hZ hw hby hml hown e0 (by first | exact own_oneU | exact own_oneI | exact own_oneR | assumption) (by first | exact own_oneU | exact own_oneI | exact own_oneR | assumption)
  obtain ⟨TB, XB, eB, stB⟩ := sgB p1 (.val (.long q2)) (.second) (.val (.int p3)) q4 (.val (.long q5)) (.second) (.val (.long q6)) (.second) (.val (.int ((((q6.toUInt64 >>> ((34 : Int32) &&& 0x3f).toInt64.toUInt64).toInt64).toInt32) &&& (7 : Int32)))) (.val (.int (own_tag ((((q6.toUInt64 >>> ((34 : Int32) &&& 0x3f).toInt64.toUInt64).toInt64).toInt32) &&& (7 : Int32)) p3))) (.unset) (.unset) (.unset) (.unset) (.unset) (.unset) (.unset) (.unset) (.unset) (.unset) (.unset) XA hx hZ hw hby hml hown eA (by first | exact own_oneU | exact own_oneI | exact own_oneR | assumption) (by first | exact own_oneU | exact own_oneI | exact own_oneR | assumption)
  obtain ⟨TC, XC, eC, stC⟩ := sgC (.val (.int p1)) q2 (.val (.int p3)) q4 q5 (.val (.long q6)) (.second) (.val (.int ((((q6.toUInt64 >>> ((34 : Int32) &&& 0x3f).toInt64.toUInt64).toInt64).toInt32) &&& (7 : Int32)))) (.val (.int (own_tag ((((q6.toUInt64 >>> ((34 : Int32) &&& 0x3f).toInt64.toUInt64).toInt64).toInt32) &&& (7 : Int32)) p3))) (.val (.int ((((q4.toUInt64 >>> ((32 : Int32) &&& 0x3f).toInt64.toUInt64).toInt64).toInt32) &&& (3 : Int32)))) (.val (.int (own_from ((((q4.toUInt64 >>> ((32 : Int32) &&& 0x3f).toInt64.toUInt64).toInt64).toInt32) &&& (3 : Int32)) p1 (q4.toInt32)))) (.unset) (.unset) (.unset) (.unset) (.unset) (.unset) (.unset) XB hx hZ hw hby hml hown eB 
  obtain ⟨TD, XD, eD, stD⟩ := sgD (.val (.int p1)) (.val (.long q2)) (.second) (.val (.int p3)) (.val (.long q4)) (.second) (.val (.long q5)) (.second) q6 (.val (.int ((((q6.toUInt64 >>> ((34 : Int32) &&& 0x3f).toInt64.toUInt64).toInt64).toInt32) &&& (7 : Int32)))) (own_tag ((((q6.toUInt64 >>> ((34 : Int32) &&& 0x3f).toInt64.toUInt64).toInt64).toInt32) &&& (7 : Int32)) p3) (.val (.int ((((q4.toUInt64 >>> ((32 : Int32) &&& 0x3f).toInt64.toUInt64).toInt64).toInt32) &&& (3 : Int32)))) (.val (.int (own_from ((((q4.toUInt64 >>> ((32 : Int32) &&& 0x3f).toInt64.toUInt64).toInt64).toInt32) &&& (3 : Int32)) p1 (q4.toInt32)))) (.val (.long (own_ctx (lcmpW (((q4.toUInt64 >>> ((34 : Int32) &&& 0x3f).toInt64.toUInt64).toInt64) &&& (1 : Int64)) (0 : Int64)) q2 q5))) (.second) (.unset) (.unset) (.unset) (.unset) (.unset) (.unset) (.unset) XC hx hZ hw hby hml hown eC (by first | exact own_oneU | exact own_oneI | exact own_oneR | assumption) (by first | exact own_oneU | exact own_oneI | exact own_oneR | assumption)
  obtain ⟨TE, LE, XE, eE, NE, stE⟩ := tn0_179_194_x n0 Z0 p1 q2 (.val (.int p3)) (.val (.long q4)) (.second) (.val (.long q5)) (.second) (.val (.long q6)) (.second) (.val (.int ((((q6.toUInt64 >>> ((34 : Int32) &&& 0x3f).toInt64.toUInt64).toInt64).toInt32) &&& (7 : Int32)))) (own_tag ((((q6.toUInt64 >>> ((34 : Int32) &&& 0x3f).toInt64.toUInt64).toInt64).toInt32) &&& (7 : Int32)) p3) (.val (.int ((((q4.toUInt64 >>> ((32 : Int32) &&& 0x3f).toInt64.toUInt64).toInt64).toInt32) &&& (3 : Int32)))) (own_from ((((q4.toUInt64 >>> ((32 : Int32) &&& 0x3f).toInt64.toUInt64).toInt64).toInt32) &&& (3 : Int32)) p1 (q4.toInt32)) (own_ctx (lcmpW (((q4.toUInt64 >>> ((34 : Int32) &&& 0x3f).toInt64.toUInt64).toInt64) &&& (1 : Int64)) (0 : Int64)) q2 q5) (.val (.int ((((q6.toUInt64 >>> ((32 : Int32) &&& 0x3f).toInt64.toUInt64).toInt64).toInt32) &&& (3 : Int32)))) (own_with ((((q6.toUInt64 >>> ((32 : Int32) &&& 0x3f).toInt64.toUInt64).toInt64).toInt32) &&& (3 : Int32)) (own_tag ((((q6.toUInt64 >>> ((34 : Int32) &&& 0x3f).toInt64.toUInt64).toInt64).toInt32) &&& (7 : Int32)) p3) (q6.toInt32)) (.unset) (.unset) (.unset) (.unset) (.unset) XD hx hZ hw hby hml hown eD own_oneU
  obtain ⟨TF, XF, eF, stF⟩ := sgF (.val (.int p1)) q2 (.val (.int p3)) (.val (.long q4)) (.second) (.val (.long q5)) (.second) (.val (.long q6)) (.second) (.val (.int ((((q6.toUInt64 >>> ((34 : Int32) &&& 0x3f).toInt64.toUInt64).toInt64).toInt32) &&& (7 : Int32)))) (.val (.int (own_tag ((((q6.toUInt64 >>> ((34 : Int32) &&& 0x3f).toInt64.toUInt64).toInt64).toInt32) &&& (7 : Int32)) p3))) (.val (.int ((((q4.toUInt64 >>> ((32 : Int32) &&& 0x3f).toInt64.toUInt64).toInt64).toInt32) &&& (3 : Int32)))) (.val (.int (own_from ((((q4.toUInt64 >>> ((32 : Int32) &&& 0x3f).toInt64.toUInt64).toInt64).toInt32) &&& (3 : Int32)) p1 (q4.toInt32)))) (own_ctx (lcmpW (((q4.toUInt64 >>> ((34 : Int32) &&& 0x3f).toInt64.toUInt64).toInt64) &&& (1 : Int64)) (0 : Int64)) q2 q5) (.val (.int ((((q6.toUInt64 >>> ((32 : Int32) &&& 0x3f).toInt64.toUInt64).toInt64).toInt32) &&& (3 : Int32)))) (.val (.int (own_with ((((q6.toUInt64 >>> ((32 : Int32) &&& 0x3f).toInt64.toUInt64).toInt64).toInt32) &&& (3 : Int32)) (own_tag ((((q6.toUInt64 >>> ((34 : Int32) &&& 0x3f).toInt64.toUInt64).toInt64).toInt32) &&& (7 : Int32)) p3) (q6.toInt32)))) (.val (.int (own_match p1 q2 (own_tag ((((q6.toUInt64 >>> ((34 : Int32) &&& 0x3f).toInt64.toUInt64).toInt64).toInt32) &&& (7 : Int32)) p3) (own_from ((((q4.toUInt64 >>> ((32 : Int32) &&& 0x3f).toInt64.toUInt64).toInt64).toInt32) &&& (3 : Int32)) p1 (q4.toInt32)) (own_ctx (lcmpW (((q4.toUInt64 >>> ((34 : Int32) &&& 0x3f).toInt64.toUInt64).toInt64) &&& (1 : Int64)) (0 : Int64)) q2 q5) (own_with ((((q6.toUInt64 >>> ((32 : Int32) &&& 0x3f).toInt64.toUInt64).toInt64).toInt32) &&& (3 : Int32)) (own_tag ((((q6.toUInt64 >>> ((34 : Int32) &&& 0x3f).toInt64.toUInt64).toInt64).toInt32) &&& (7 : Int32)) p3) (q6.toInt32))))) (.unset) (.unset) (.unset) (.unset) XE hx hZ hw hby hml hown eE (by first | exact own_oneU | exact own_oneI | exact own_oneR | assumption)
  obtain ⟨TG, XG, eG, stG⟩ := sgG p1 (.val (.long q2)) (.second) (.val (.int p3)) (.val (.long q4)) (.second) (.val (.long q5)) (.second) (.val (.long q6)) (.second) (.val (.int ((((q6.toUInt64 >>> ((34 : Int32) &&& 0x3f).toInt64.toUInt64).toInt64).toInt32) &&& (7 : Int32)))) (.val (.int (own_tag ((((q6.toUInt64 >>> ((34 : Int32) &&& 0x3f).toInt64.toUInt64).toInt64).toInt32) &&& (7 : Int32)) p3))) (.val (.int ((((q4.toUInt64 >>> ((32 : Int32) &&& 0x3f).toInt64.toUInt64).toInt64).toInt32) &&& (3 : Int32)))) (own_from ((((q4.toUInt64 >>> ((32 : Int32) &&& 0x3f).toInt64.toUInt64).toInt64).toInt32) &&& (3 : Int32)) p1 (q4.toInt32)) (.val (.long (own_ctx (lcmpW (((q4.toUInt64 >>> ((34 : Int32) &&& 0x3f).toInt64.toUInt64).toInt64) &&& (1 : Int64)) (0 : Int64)) q2 q5))) (.second) (.val (.int ((((q6.toUInt64 >>> ((32 : Int32) &&& 0x3f).toInt64.toUInt64).toInt64).toInt32) &&& (3 : Int32)))) (.val (.int (own_with ((((q6.toUInt64 >>> ((32 : Int32) &&& 0x3f).toInt64.toUInt64).toInt64).toInt32) &&& (3 : Int32)) (own_tag ((((q6.toUInt64 >>> ((34 : Int32) &&& 0x3f).toInt64.toUInt64).toInt64).toInt32) &&& (7 : Int32)) p3) (q6.toInt32)))) (.val (.int (own_match p1 q2 (own_tag ((((q6.toUInt64 >>> ((34 : Int32) &&& 0x3f).toInt64.toUInt64).toInt64).toInt32) &&& (7 : Int32)) p3) (own_from ((((q4.toUInt64 >>> ((32 : Int32) &&& 0x3f).toInt64.toUInt64).toInt64).toInt32) &&& (3 : Int32)) p1 (q4.toInt32)) (own_ctx (lcmpW (((q4.toUInt64 >>> ((34 : Int32) &&& 0x3f).toInt64.toUInt64).toInt64) &&& (1 : Int64)) (0 : Int64)) q2 q5) (own_with ((((q6.toUInt64 >>> ((32 : Int32) &&& 0x3f).toInt64.toUInt64).toInt64).toInt32) &&& (3 : Int32)) (own_tag ((((q6.toUInt64 >>> ((34 : Int32) &&& 0x3f).toInt64.toUInt64).toInt64).toInt32) &&& (7 : Int32)) p3) (q6.toInt32))))) (.val (.int (own_same (own_ctx (lcmpW (((q4.toUInt64 >>> ((34 : Int32) &&& 0x3f).toInt64.toUInt64).toInt64) &&& (1 : Int64)) (0 : Int64)) q2 q5) q2))) (.unset) (.unset) (.unset) XF hx hZ hw hby hml hown eF (by first | exact own_oneU | exact own_oneI | exact own_oneR | assumption)
  obtain ⟨TH, XH, eH, stH⟩ := sgH (.val (.int p1)) (.val (.long q2)) (.second) (.val (.int p3)) (.val (.long q4)) (.second) (.val (.long q5)) (.second) (.val (.long q6)) (.second) (.val (.int ((((q6.toUInt64 >>> ((34 : Int32) &&& 0x3f).toInt64.toUInt64).toInt64).toInt32) &&& (7 : Int32)))) (own_tag ((((q6.toUInt64 >>> ((34 : Int32) &&& 0x3f).toInt64.toUInt64).toInt64).toInt32) &&& (7 : Int32)) p3) (.val (.int ((((q4.toUInt64 >>> ((32 : Int32) &&& 0x3f).toInt64.toUInt64).toInt64).toInt32) &&& (3 : Int32)))) (.val (.int (own_from ((((q4.toUInt64 >>> ((32 : Int32) &&& 0x3f).toInt64.toUInt64).toInt64).toInt32) &&& (3 : Int32)) p1 (q4.toInt32)))) (.val (.long (own_ctx (lcmpW (((q4.toUInt64 >>> ((34 : Int32) &&& 0x3f).toInt64.toUInt64).toInt64) &&& (1 : Int64)) (0 : Int64)) q2 q5))) (.second) (.val (.int ((((q6.toUInt64 >>> ((32 : Int32) &&& 0x3f).toInt64.toUInt64).toInt64).toInt32) &&& (3 : Int32)))) (own_with ((((q6.toUInt64 >>> ((32 : Int32) &&& 0x3f).toInt64.toUInt64).toInt64).toInt32) &&& (3 : Int32)) (own_tag ((((q6.toUInt64 >>> ((34 : Int32) &&& 0x3f).toInt64.toUInt64).toInt64).toInt32) &&& (7 : Int32)) p3) (q6.toInt32)) (.val (.int (own_match p1 q2 (own_tag ((((q6.toUInt64 >>> ((34 : Int32) &&& 0x3f).toInt64.toUInt64).toInt64).toInt32) &&& (7 : Int32)) p3) (own_from ((((q4.toUInt64 >>> ((32 : Int32) &&& 0x3f).toInt64.toUInt64).toInt64).toInt32) &&& (3 : Int32)) p1 (q4.toInt32)) (own_ctx (lcmpW (((q4.toUInt64 >>> ((34 : Int32) &&& 0x3f).toInt64.toUInt64).toInt64) &&& (1 : Int64)) (0 : Int64)) q2 q5) (own_with ((((q6.toUInt64 >>> ((32 : Int32) &&& 0x3f).toInt64.toUInt64).toInt64).toInt32) &&& (3 : Int32)) (own_tag ((((q6.toUInt64 >>> ((34 : Int32) &&& 0x3f).toInt64.toUInt64).toInt64).toInt32) &&& (7 : Int32)) p3) (q6.toInt32))))) (.val (.int (own_same (own_ctx (lcmpW (((q4.toUInt64 >>> ((34 : Int32) &&& 0x3f).toInt64.toUInt64).toInt64) &&& (1 : Int64)) (0 : Int64)) q2 q5) q2))) (.val (.int (own_fok (own_from ((((q4.toUInt64 >>> ((32 : Int32) &&& 0x3f).toInt64.toUInt64).toInt64).toInt32) &&& (3 : Int32)) p1 (q4.toInt32)) p1))) (.unset) (.unset) XG hx hZ hw hby hml hown eG (by first | exact own_oneU | exact own_oneI | exact own_oneR | assumption)
  obtain ⟨TI, XI, eI, stI⟩ := sgI (.val (.int p1)) (.val (.long q2)) (.second) (.val (.int p3)) (.val (.long q4)) (.second) (.val (.long q5)) (.second) (.val (.long q6)) (.second) (.val (.int ((((q6.toUInt64 >>> ((34 : Int32) &&& 0x3f).toInt64.toUInt64).toInt64).toInt32) &&& (7 : Int32)))) (.val (.int (own_tag ((((q6.toUInt64 >>> ((34 : Int32) &&& 0x3f).toInt64.toUInt64).toInt64).toInt32) &&& (7 : Int32)) p3))) (.val (.int ((((q4.toUInt64 >>> ((32 : Int32) &&& 0x3f).toInt64.toUInt64).toInt64).toInt32) &&& (3 : Int32)))) (.val (.int (own_from ((((q4.toUInt64 >>> ((32 : Int32) &&& 0x3f).toInt64.toUInt64).toInt64).toInt32) &&& (3 : Int32)) p1 (q4.toInt32)))) (.val (.long (own_ctx (lcmpW (((q4.toUInt64 >>> ((34 : Int32) &&& 0x3f).toInt64.toUInt64).toInt64) &&& (1 : Int64)) (0 : Int64)) q2 q5))) (.second) (.val (.int ((((q6.toUInt64 >>> ((32 : Int32) &&& 0x3f).toInt64.toUInt64).toInt64).toInt32) &&& (3 : Int32)))) (.val (.int (own_with ((((q6.toUInt64 >>> ((32 : Int32) &&& 0x3f).toInt64.toUInt64).toInt64).toInt32) &&& (3 : Int32)) (own_tag ((((q6.toUInt64 >>> ((34 : Int32) &&& 0x3f).toInt64.toUInt64).toInt64).toInt32) &&& (7 : Int32)) p3) (q6.toInt32)))) (.val (.int (own_match p1 q2 (own_tag ((((q6.toUInt64 >>> ((34 : Int32) &&& 0x3f).toInt64.toUInt64).toInt64).toInt32) &&& (7 : Int32)) p3) (own_from ((((q4.toUInt64 >>> ((32 : Int32) &&& 0x3f).toInt64.toUInt64).toInt64).toInt32) &&& (3 : Int32)) p1 (q4.toInt32)) (own_ctx (lcmpW (((q4.toUInt64 >>> ((34 : Int32) &&& 0x3f).toInt64.toUInt64).toInt64) &&& (1 : Int64)) (0 : Int64)) q2 q5) (own_with ((((q6.toUInt64 >>> ((32 : Int32) &&& 0x3f).toInt64.toUInt64).toInt64).toInt32) &&& (3 : Int32)) (own_tag ((((q6.toUInt64 >>> ((34 : Int32) &&& 0x3f).toInt64.toUInt64).toInt64).toInt32) &&& (7 : Int32)) p3) (q6.toInt32))))) (own_same (own_ctx (lcmpW (((q4.toUInt64 >>> ((34 : Int32) &&& 0x3f).toInt64.toUInt64).toInt64) &&& (1 : Int64)) (0 : Int64)) q2 q5) q2) (own_fok (own_from ((((q4.toUInt64 >>> ((32 : Int32) &&& 0x3f).toInt64.toUInt64).toInt64).toInt32) &&& (3 : Int32)) p1 (q4.toInt32)) p1) (own_tok (own_tag ((((q6.toUInt64 >>> ((34 : Int32) &&& 0x3f).toInt64.toUInt64).toInt64).toInt32) &&& (7 : Int32)) p3) (own_with ((((q6.toUInt64 >>> ((32 : Int32) &&& 0x3f).toInt64.toUInt64).toInt64).toInt32) &&& (3 : Int32)) (own_tag ((((q6.toUInt64 >>> ((34 : Int32) &&& 0x3f).toInt64.toUInt64).toInt64).toInt32) &&& (7 : Int32)) p3) (q6.toInt32))) (.unset) XH hx hZ hw hby hml hown eH (by first | exact own_oneU | exact own_oneI | exact own_oneR | assumption)
  obtain ⟨TJ, XJ, eJ, stJ⟩ := tn0_313_325_f (.val (.int p1)) (.val (.long q2)) (.second) (.val (.int p3)) (.val (.long q4)) (.second) (.val (.long q5)) (.second) (.val (.long q6)) (.second) (.val (.int ((((q6.toUInt64 >>> ((34 : Int32) &&& 0x3f).toInt64.toUInt64).toInt64).toInt32) &&& (7 : Int32)))) (.val (.int (own_tag ((((q6.toUInt64 >>> ((34 : Int32) &&& 0x3f).toInt64.toUInt64).toInt64).toInt32) &&& (7 : Int32)) p3))) (.val (.int ((((q4.toUInt64 >>> ((32 : Int32) &&& 0x3f).toInt64.toUInt64).toInt64).toInt32) &&& (3 : Int32)))) (.val (.int (own_from ((((q4.toUInt64 >>> ((32 : Int32) &&& 0x3f).toInt64.toUInt64).toInt64).toInt32) &&& (3 : Int32)) p1 (q4.toInt32)))) (.val (.long (own_ctx (lcmpW (((q4.toUInt64 >>> ((34 : Int32) &&& 0x3f).toInt64.toUInt64).toInt64) &&& (1 : Int64)) (0 : Int64)) q2 q5))) (.second) (.val (.int ((((q6.toUInt64 >>> ((32 : Int32) &&& 0x3f).toInt64.toUInt64).toInt64).toInt32) &&& (3 : Int32)))) (.val (.int (own_with ((((q6.toUInt64 >>> ((32 : Int32) &&& 0x3f).toInt64.toUInt64).toInt64).toInt32) &&& (3 : Int32)) (own_tag ((((q6.toUInt64 >>> ((34 : Int32) &&& 0x3f).toInt64.toUInt64).toInt64).toInt32) &&& (7 : Int32)) p3) (q6.toInt32)))) (own_match p1 q2 (own_tag ((((q6.toUInt64 >>> ((34 : Int32) &&& 0x3f).toInt64.toUInt64).toInt64).toInt32) &&& (7 : Int32)) p3) (own_from ((((q4.toUInt64 >>> ((32 : Int32) &&& 0x3f).toInt64.toUInt64).toInt64).toInt32) &&& (3 : Int32)) p1 (q4.toInt32)) (own_ctx (lcmpW (((q4.toUInt64 >>> ((34 : Int32) &&& 0x3f).toInt64.toUInt64).toInt64) &&& (1 : Int64)) (0 : Int64)) q2 q5) (own_with ((((q6.toUInt64 >>> ((32 : Int32) &&& 0x3f).toInt64.toUInt64).toInt64).toInt32) &&& (3 : Int32)) (own_tag ((((q6.toUInt64 >>> ((34 : Int32) &&& 0x3f).toInt64.toUInt64).toInt64).toInt32) &&& (7 : Int32)) p3) (q6.toInt32))) (.val (.int (own_same (own_ctx (lcmpW (((q4.toUInt64 >>> ((34 : Int32) &&& 0x3f).toInt64.toUInt64).toInt64) &&& (1 : Int64)) (0 : Int64)) q2 q5) q2))) (.val (.int (own_fok (own_from ((((q4.toUInt64 >>> ((32 : Int32) &&& 0x3f).toInt64.toUInt64).toInt64).toInt32) &&& (3 : Int32)) p1 (q4.toInt32)) p1))) (.val (.int (own_tok (own_tag ((((q6.toUInt64 >>> ((34 : Int32) &&& 0x3f).toInt64.toUInt64).toInt64).toInt32) &&& (7 : Int32)) p3) (own_with ((((q6.toUInt64 >>> ((32 : Int32) &&& 0x3f).toInt64.toUInt64).toInt64).toInt32) &&& (3 : Int32)) (own_tag ((((q6.toUInt64 >>> ((34 : Int32) &&& 0x3f).toInt64.toUInt64).toInt64).toInt32) &&& (7 : Int32)) p3) (q6.toInt32))))) (own_and3 (own_same (own_ctx (lcmpW (((q4.toUInt64 >>> ((34 : Int32) &&& 0x3f).toInt64.toUInt64).toInt64) &&& (1 : Int64)) (0 : Int64)) q2 q5) q2) (own_fok (own_from ((((q4.toUInt64 >>> ((32 : Int32) &&& 0x3f).toInt64.toUInt64).toInt64).toInt32) &&& (3 : Int32)) p1 (q4.toInt32)) p1) (own_tok (own_tag ((((q6.toUInt64 >>> ((34 : Int32) &&& 0x3f).toInt64.toUInt64).toInt64).toInt32) &&& (7 : Int32)) p3) (own_with ((((q6.toUInt64 >>> ((32 : Int32) &&& 0x3f).toInt64.toUInt64).toInt64).toInt32) &&& (3 : Int32)) (own_tag ((((q6.toUInt64 >>> ((34 : Int32) &&& 0x3f).toInt64.toUInt64).toInt64).toInt32) &&& (7 : Int32)) p3) (q6.toInt32)))) XI hx hZ hw hby hml hown eI (own_agree _ _ _ _ _ _)
  have NJ := Fr.app N0 NE
  obtain ⟨fs, hr, hrun, hended, hW, hsame⟩ := XJ.leave (v := some (.int (1 : Int32))) (fun h => by rw [Bd.returns] at h; cases h)
  refine ⟨_, _, pre0 _ ?_, hrun, hended, _, _, rfl, ?_, ⟨_, rfl⟩, hW, hsame.mono (by decide) (by decide)⟩
  · refine stA _ ?_
    refine stB _ ?_
    refine stC _ ?_
    refine stD _ ?_
    refine stE _ ?_
    refine stF _ ?_
    refine stG _ ?_
    refine stH _ ?_
    refine stI _ ?_
    refine stJ _ ?_
    exact retN XJ hx (t := .boolean) Bd.returns (by simp) (hb hby at_325) hr
  · show Ql (some (.int (1 : Int32))) n0 _ _
    exact ⟨rfl, NJ⟩
set_option maxRecDepth 65536 in
set_option maxHeartbeats 40000000 in
theorem comes_1 {Post : Tables → Env → Array Value → State → Outcome → State → Prop} (hpost : ∀ tb e args s v u, (limb_1_1.after args s (.returned v) u = true ∧ limb_1_2.after args s (.returned v) u = true ∧ True) → FrameEnd s (.returned v) u (Jvm.fieldLocs frame_1_writes args s ++ Jvm.arrayLocs frame_1_arrays args s ++ Jvm.staticLocs frame_1_statics s) 0 0 → Post tb e args s (.returned v) u) :
    ArmFor flags0 classFile x code maxLocals ret World_1 tables_1 room_1 Calls_1 rest_1 Pre_1 Post := by
  intro l hfl _ _ p e ha hc hk s m args below hf hA hF happ hP
  obtain ⟨hcalls, hrest, hpre⟩ := hP
  obtain ⟨-, -, -, hnamed, -, -, -, hat⟩ := (Spec.applies_iff hf).mp happ
  obtain ⟨hg, hn⟩ := and_e (Cond.before_iff.mp (show (Jvm.Cond.and given_1 narrow_1).before args s = true from hpre))
  obtain ⟨g8, g9⟩ := and_e hg
  obtain ⟨g10, g11⟩ := and_e g9
  obtain ⟨g12, g13⟩ := and_e g11
  obtain ⟨g14, g15⟩ := and_e g13
  obtain ⟨g16, g17⟩ := and_e g15
  obtain ⟨g18, g19⟩ := and_e g17
  obtain ⟨w0, w1, w2, w3, w4, w5, rfl⟩ : ∃ w0 w1 w2 w3 w4 w5 : Value, args = #[w0, w1, w2, w3, w4, w5] := by
    have hs : args.size = 6 := by simpa [Cond.value, given_1] using g8
    obtain ⟨L⟩ := args
    match L, hs with
    | [w0, w1, w2, w3, w4, w5], _ => exact ⟨w0, w1, w2, w3, w4, w5, rfl⟩
  have hw := fun d (hd : d ∈ tables_1) => atoms_spec (ws := Jvm.Cond.code x code maxLocals ret :: tables_1) hat d (List.mem_cons_of_mem _ hd)
  have hfit : Fit s := fun {y c} hc i hi => by
    obtain ⟨ha, rfl⟩ := Array.getElem?_eq_some_iff.mp hc
    have q := List.all_eq_true.mp ((Array.all_eq_true_iff_forall_mem.mp hF) _ (Array.getElem_mem ha)) i (List.mem_range.mpr hi)
    simpa [Array.getElem?_eq_getElem hi] using q
  obtain ⟨i0, ei0⟩ := is_v g10
  obtain rfl : w0 = (.int i0) := Option.some.inj ei0
  obtain ⟨i1, ei1⟩ := isL_v g12
  obtain rfl : w1 = (.long i1) := Option.some.inj ei1
  obtain ⟨i2, ei2⟩ := is_v g14
  obtain rfl : w2 = (.int i2) := Option.some.inj ei2
  obtain ⟨i3, ei3⟩ := isL_v g16
  obtain rfl : w3 = (.long i3) := Option.some.inj ei3
  obtain ⟨i4, ei4⟩ := isL_v g18
  obtain rfl : w4 = (.long i4) := Option.some.inj ei4
  obtain ⟨i5, ei5⟩ := isL_v g19
  obtain rfl : w5 = (.long i5) := Option.some.inj ei5

  obtain ⟨n, o, h1, h2, h3, _, L, rfl, ⟨rfl, N⟩, hq⟩ := rm0 l s _ hw tables_1 i0 i1 i2 i3 i4 i5 s.heap s.heap.size (Nat.le_refl _) p e ha hc hk s m _ below hf ((Spec.applies_iff_loose hf).mp happ).1 ⟨rfl, State.Warmed39.refl s, rfl⟩ trivial
  refine ⟨n, _, h1, h2, h3, hpost _ _ _ _ _ _ ⟨Cond.after_iff.mpr rfl, Cond.after_iff.mpr (eq_i res_at (Term.int_eval (1)) rfl), trivial⟩ ⟨hq.1, hq.2.1, (hq.2.2.sift fun y hy => Or.inr (N y hy)).mono (by decide) (by decide)⟩⟩
theorem main_1_1 : Claimed_1_1 := comes_1 fun _ _ _ _ _ _ h hF => ⟨h.1, hF⟩
theorem main_1_2 : Claimed_1_2 := comes_1 fun _ _ _ _ _ _ h hF => ⟨h.2.1, hF⟩
end Jvm.Pilot.@@N@@
namespace Jvm.Pilot.@@N@@
open Jvm Jvm.ClassFile Sem Op Lib Jvm.Free Jvm.Stand Jvm.Pilot.@@N@@.Jvm.D
/-! MADE BY PROGRAM (witnessworld.py) out of the Statement's table words and the real class files: 10 classes; the members and pool entries that the words name. The judged class is class 1, her method 1. -/
namespace start1
open Jvm.ClassFile
def u (s : String) : CpInfo := .utf8 (stringToUtf16 s)
/-- a pool by its gaps: so many unusable entries, then the entry; so many at the end -/
def gap : Nat → List CpInfo → List CpInfo
  | 0, r => r
  | n + 1, r => .unusable :: gap n r
def poolList (es : List (Nat × CpInfo)) (last : Nat) : List CpInfo := es.foldr (fun e r => gap e.1 (e.2 :: r)) (gap last [])
def pool (es : List (Nat × CpInfo)) (last : Nat) : Array CpInfo := ⟨poolList es last⟩
def fileOf (pool : Array CpInfo) (this : Nat) (attrs : Array Attribute := #[]) (ms : Array MethodInfo := #[]) (fl : Nat := 33) (sup : Nat := 0) (ifs : Array Nat := #[]) (fds : Array FieldInfo := #[]) : ClassFile where
  minorVersion := 0
  majorVersion := 65
  constantPool := pool
  accessFlags := fl
  thisClass := this
  superClass := sup
  interfaces := ifs
  fields := fds
  methods := ms
  attributes := attrs
def plain (name : String) (sup : Option ClassId) : Class where
  name := name
  kind := .ordinary
  loader := none
  accessFlags := 33
  super := sup
  interfaces := #[]
  cf := none
  fields := #[]
  methods := #[]
  instanceTypes := #[]
  staticTypes := #[]
  resolved := #[]
  callSites := []
  init := .initialized
  statics := none
  mirror := none

def pool0 : Array CpInfo := pool [(5, u "<init>"), (0, u "()V"), (1, .class_ 10), (1, u "java/lang/Object")] 113

def k0m0 : Method := { name := "<init>", desc := "()V", sig := { parameters := [], returnType := none }, accessFlags := 1, code := none }
/-- java/lang/Object -/
def k0 : Class := { plain "java/lang/Object" none with
  accessFlags := 33
  interfaces := #[]
  cf := some (fileOf pool0 8 #[] #[{ accessFlags := 1, nameIndex := 5, descriptorIndex := 6, attributes := #[] }] 33 0 #[] #[])
  fields := #[]
  methods := #[k0m0]
  instanceTypes := #[]
  staticTypes := #[]
  resolved := Array.replicate 124 none
  statics := none }

def pool1 : Array CpInfo := pool [(2, .class_ 4), (1, u "java/lang/Object"), (0, u "<init>"), (0, u "()V"), (2, .integer 2147483648), (0, .class_ 11), (0, u "com/example/cablegram/cablegram/engine/Envelope"), (0, .methodref 10 13), (0, .nameAndType 14 15), (0, u "matches"), (0, u "(IJIIJI)Z"), (0, .class_ 17), (0, u "com/example/cablegram/cablegram/engine/EnvelopeMatchesPinLaw"), (2, u "law"), (0, u "(IJIJJJ)Z")] 3

def k1m0 : Method := { name := "<init>", desc := "()V", sig := { parameters := [], returnType := none }, accessFlags := 1, code := none }
def k1c1 : Code := { maxStack := 8, maxLocals := 23, code := code, exceptionTable := #[], attributes := #[] }
def k1m1 : Method := { name := "law", desc := "(IJIJJJ)Z", sig := { parameters := [.int, .long, .int, .long, .long, .long], returnType := some .boolean }, accessFlags := 9, code := some k1c1 }
/-- com/example/cablegram/cablegram/engine/EnvelopeMatchesPinLaw -/
def k1 : Class := { plain "com/example/cablegram/cablegram/engine/EnvelopeMatchesPinLaw" (some 0) with
  accessFlags := 49
  interfaces := #[]
  cf := some (fileOf pool1 16 #[] #[{ accessFlags := 1, nameIndex := 5, descriptorIndex := 6, attributes := #[] }, { accessFlags := 9, nameIndex := 20, descriptorIndex := 21, attributes := #[] }] 49 2 #[] #[])
  fields := #[]
  methods := #[k1m0, k1m1]
  instanceTypes := #[]
  staticTypes := #[]
  resolved := Array.replicate 25 none
  statics := none }

def pool2 : Array CpInfo := pool [(2, .class_ 4), (1, u "java/lang/Object"), (0, u "<init>"), (0, u "()V"), (0, .class_ 8), (0, u "java/lang/Record")] 13

def k2m0 : Method := { name := "<init>", desc := "()V", sig := { parameters := [], returnType := none }, accessFlags := 4, code := none }
/-- java/lang/Record -/
def k2 : Class := { plain "java/lang/Record" (some 0) with
  accessFlags := 1057
  interfaces := #[]
  cf := some (fileOf pool2 7 #[] #[{ accessFlags := 4, nameIndex := 5, descriptorIndex := 6, attributes := #[] }] 1057 2 #[] #[])
  fields := #[]
  methods := #[k2m0]
  instanceTypes := #[]
  staticTypes := #[]
  resolved := Array.replicate 22 none
  statics := none }

def pool3 : Array CpInfo := pool [(4, .class_ 6), (1, u "java/lang/Record"), (3, .class_ 12), (1, u "com/example/cablegram/cablegram/engine/Envelope"), (0, u "source"), (0, u "I"), (2, u "context"), (0, u "J"), (2, u "tag"), (2, u "type"), (0, u "Lcom/example/cablegram/cablegram/engine/ElementType;"), (2, u "count"), (2, u "entries"), (11, .integer 2147483648), (8, u "matches"), (0, u "(IJIIJI)Z"), (12, u "ANY_SOURCE"), (2, u "ANY_TAG"), (1, u "ANY_LIBRARY_TAG")] 49

def k3c0 : Code := { maxStack := 4, maxLocals := 8, code := prog_30_method_7_code, exceptionTable := #[], attributes := #[] }
def k3m0 : Method := { name := "matches", desc := "(IJIIJI)Z", sig := { parameters := [.int, .long, .int, .int, .long, .int], returnType := some .boolean }, accessFlags := 8, code := some k3c0 }
/-- com/example/cablegram/cablegram/engine/Envelope -/
def k3 : Class := { plain "com/example/cablegram/cablegram/engine/Envelope" (some 2) with
  accessFlags := 49
  interfaces := #[]
  cf := some (fileOf pool3 10 #[] #[{ accessFlags := 8, nameIndex := 52, descriptorIndex := 53, attributes := #[] }] 49 4 #[] #[{ accessFlags := 18, nameIndex := 13, descriptorIndex := 14, attributes := #[] }, { accessFlags := 18, nameIndex := 17, descriptorIndex := 18, attributes := #[] }, { accessFlags := 18, nameIndex := 21, descriptorIndex := 14, attributes := #[] }, { accessFlags := 18, nameIndex := 24, descriptorIndex := 25, attributes := #[] }, { accessFlags := 18, nameIndex := 28, descriptorIndex := 14, attributes := #[] }, { accessFlags := 18, nameIndex := 31, descriptorIndex := 14, attributes := #[] }, { accessFlags := 25, nameIndex := 66, descriptorIndex := 14, attributes := #[] }, { accessFlags := 25, nameIndex := 69, descriptorIndex := 14, attributes := #[] }, { accessFlags := 25, nameIndex := 71, descriptorIndex := 14, attributes := #[] }])
  fields := #[{ name := "source", type := .int, accessFlags := 18, slot := 0, constantValue := 0 }, { name := "context", type := .long, accessFlags := 18, slot := 1, constantValue := 0 }, { name := "tag", type := .int, accessFlags := 18, slot := 2, constantValue := 0 }, { name := "type", type := (.object "com/example/cablegram/cablegram/engine/ElementType"), accessFlags := 18, slot := 3, constantValue := 0 }, { name := "count", type := .int, accessFlags := 18, slot := 4, constantValue := 0 }, { name := "entries", type := .int, accessFlags := 18, slot := 5, constantValue := 0 }, { name := "ANY_SOURCE", type := .int, accessFlags := 25, slot := 0, constantValue := 0 }, { name := "ANY_TAG", type := .int, accessFlags := 25, slot := 1, constantValue := 0 }, { name := "ANY_LIBRARY_TAG", type := .int, accessFlags := 25, slot := 2, constantValue := 0 }]
  methods := #[k3m0]
  instanceTypes := #[.int, .long, .int, (.object "com/example/cablegram/cablegram/engine/ElementType"), .int, .int]
  staticTypes := #[.int, .int, .int]
  resolved := Array.replicate 121 none
  statics := none }

def pool4 : Array CpInfo := pool [(1, u "java/lang/Cloneable"), (0, .class_ 1), (0, u "java/lang/Object"), (0, .class_ 3)] 3

/-- java/lang/Cloneable -/
def k4 : Class := { plain "java/lang/Cloneable" (some 0) with
  accessFlags := 1537
  interfaces := #[]
  cf := some (fileOf pool4 2 #[] #[] 1537 4 #[] #[])
  fields := #[]
  methods := #[]
  instanceTypes := #[]
  staticTypes := #[]
  resolved := Array.replicate 8 none
  statics := none }

def pool5 : Array CpInfo := pool [(1, u "java/io/Serializable"), (0, .class_ 1), (0, u "java/lang/Object"), (0, .class_ 3)] 3

/-- java/io/Serializable -/
def k5 : Class := { plain "java/io/Serializable" (some 0) with
  accessFlags := 1537
  interfaces := #[]
  cf := some (fileOf pool5 2 #[] #[] 1537 4 #[] #[])
  fields := #[]
  methods := #[]
  instanceTypes := #[]
  staticTypes := #[]
  resolved := Array.replicate 8 none
  statics := none }

/-- the primitive byte -/
def k6 : Class := { plain "byte" none with kind := .primitive 'B', accessFlags := 0x411 }
/-- [B -/
def k7 : Class := { plain "[B" (some 0) with kind := .array 6 .byte, interfaces := #[4, 5], accessFlags := 1041 }

/-- the primitive int -/
def k8 : Class := { plain "int" none with kind := .primitive 'I', accessFlags := 0x411 }
/-- [I -/
def k9 : Class := { plain "[I" (some 0) with kind := .array 8 .int, interfaces := #[4, 5], accessFlags := 1041 }

def heap : Heap := #[]
def classes : Array Class := #[k0, k1, k2, k3, k4, k5, k6, k7, k8, k9]
def interned : List (Array UInt16 × Addr) := []
def slotsUsed : Nat := 0
def theMethod : MethodId := ⟨1, 1⟩
def args0 : Array Value := #[.int 5, .long 7, .int 3, .long 5, .long 6, .long 3]
def aboutOver (below : List Frame) : State where
  vm := { classes := classes, interned := interned.toArray }
  heap := heap
  slotsUsed := slotsUsed
  threads := #[{ frames := .invoking theMethod args0 :: below }]
def below0 : List Frame := [.native { method := ⟨0, 0⟩, args := #[] }]
def about1 : State := aboutOver below0
def p0 : Program := .bare "" "" ""
def e0 : Env := launch0.env 0 0 0
theorem w_frames : about1.frames = Frame.invoking theMethod args0 :: below0 := rfl
set_option maxRecDepth 65536 in
theorem w_args : argsFit about1.vm theMethod args0 = true := by decide +kernel
set_option maxRecDepth 65536 in
theorem w_heap : heapFits about1 = true := by decide +kernel
set_option maxRecDepth 65536 in
theorem w_runnable : about1.curStatus? = some .runnable := by decide +kernel
set_option maxRecDepth 65536 in
theorem w_alone : about1.alone = true := by decide +kernel
set_option maxRecDepth 65536 in
theorem w_named : about1.methodNamed? x = some theMethod := by decide +kernel
set_option maxRecDepth 65536 in
theorem w_hears : about1.hears theMethod below0 = true := by decide +kernel
set_option maxRecDepth 65536 in
theorem w_ripe : about1.ripe theMethod args0 below0 = true := by decide +kernel
theorem w_running : about1.status = .running := rfl
set_option maxRecDepth 65536 in
theorem w_room : about1.hasRoom e0.platform room_1 = true :=
  launch0.hasRoom_least _ room_1 (by decide +kernel) (by decide +kernel) (by decide +kernel) (by decide +kernel) (by decide +kernel) (by decide +kernel)
theorem allAtoms_all (ts : List Jvm.Cond) (a : Array Jvm.Value) (st : Jvm.State) : (allAtoms ts).before a st = ts.all (fun c => c.before a st) := by
  induction ts with
  | nil => rfl
  | cons c t ih =>
    show (Jvm.Cond.and c (allAtoms t)).before a st = _
    rw [Jvm.Cond.before_and, ih, List.all_cons]
def words1 : List Jvm.Cond := Jvm.Cond.code x code maxLocals ret :: tables_1
/-- a 'code' word, met by the world's own term for the bytes: nothing is compared byte by byte -/
theorem code_word {y : MethodName} {bytes : ByteArray} {mx : Nat} {rt : Option FieldType} {a : Array Value} {s : State} {m : MethodId} {meth : Method} {c : Code} (h1 : s.methodNamed? y = some m) (h2 : s.vm.method? m = some meth) (h3 : meth.code = some c) (h4 : c.code = bytes)
    (h5 : (c.maxLocals == mx && c.exceptionTable.isEmpty && decide (c.maxStack ≤ mostOperands) && decide (meth.sig.returnType = rt) && !meth.locks && decide (parseMethodDescriptor y.desc = some meth.sig)) = true) : (Jvm.Cond.code y bytes mx rt).before a s = true := by
  simp only [Bool.and_eq_true, beq_iff_eq, Bool.not_eq_true', decide_eq_true_eq] at h5
  obtain ⟨⟨⟨⟨⟨g1, g2⟩, g3⟩, g4⟩, g5⟩, g6⟩ := h5
  simp [Cond.before, Cond.holds, Cond.value, h1, h2, h3, h4, g1, g2, g3, g4, g5, g6]
def isCode : Jvm.Cond → Bool
  | .code _ _ _ _ => true
  | _ => false
theorem all_split {L : List Jvm.Cond} {P : Jvm.Cond → Bool} (h1 : L.all (fun c => isCode c || P c) = true) (h2 : ∀ c ∈ L.filter isCode, P c = true) : L.all P = true := by
  refine List.all_eq_true.mpr fun c hc => ?_
  have h := List.all_eq_true.mp h1 c hc
  rcases Bool.eq_false_or_eq_true (isCode c) with hi | hi
  · exact h2 c (List.mem_filter.mpr ⟨hc, hi⟩)
  · simpa [hi] using h
set_option maxRecDepth 65536 in
theorem w_c0 : (Jvm.Cond.code x code maxLocals ret).before args0 about1 = true := code_word (m := ⟨1, 1⟩) (meth := k1m1) (c := k1c1) (by decide +kernel) rfl rfl rfl (by decide +kernel)
set_option maxRecDepth 65536 in
theorem w_c1 : (Jvm.Cond.code ({ cls := "com/example/cablegram/cablegram/engine/Envelope", name := "matches", desc := "(IJIIJI)Z" } : Jvm.MethodName) prog_30_method_7_code (8 : Nat) (Option.some Jvm.ClassFile.FieldType.boolean)).before args0 about1 = true := code_word (m := ⟨3, 0⟩) (meth := k3m0) (c := k3c0) (by decide +kernel) rfl rfl rfl (by decide +kernel)
def codes1 : List Jvm.Cond := [Jvm.Cond.code x code maxLocals ret, Jvm.Cond.code ({ cls := "com/example/cablegram/cablegram/engine/Envelope", name := "matches", desc := "(IJIIJI)Z" } : Jvm.MethodName) prog_30_method_7_code (8 : Nat) (Option.some Jvm.ClassFile.FieldType.boolean)]
set_option maxRecDepth 65536 in
theorem codes_eq : words1.filter isCode = codes1 := rfl
theorem w_codes : ∀ c ∈ words1.filter isCode, c.before args0 about1 = true := by
  rw [codes_eq]
  intro c hc
  simp only [codes1, List.mem_cons, List.not_mem_nil, or_false] at hc
  rcases hc with rfl | rfl
  · exact w_c0
  · exact w_c1
set_option maxRecDepth 65536 in
theorem w_t1 : words1.all (fun c => isCode c || c.before args0 about1) = true := by decide +kernel
theorem w_tables : (allAtoms (Jvm.Cond.code x code maxLocals ret :: tables_1)).before args0 about1 = true := by
  rw [allAtoms_all]
  show words1.all (fun c => c.before args0 about1) = true
  refine all_split ?_ w_codes
  rw [w_t1]
set_option maxRecDepth 65536 in
theorem w_case : (Jvm.Cond.and given_1 narrow_1).before args0 about1 = true := by decide +kernel
theorem w_applies : (headSpec (Jvm.Cond.code x code maxLocals ret :: tables_1) room_1).applies x e0.platform about1 = true :=
  (Spec.applies_iff w_frames).mpr ⟨w_running, w_runnable, w_alone, w_named, w_hears, w_ripe, w_room, w_tables⟩
theorem atStart : AtStart classFile x code maxLocals ret World_1 tables_1 room_1 Calls_1 rest_1 Pre_1 launch0 p0 e0 about1 theMethod args0 below0 :=
  ⟨lists_1, trivial, launch0.admits_env _ _ _, launch0.least_env, fairChoices_fair.cas, fairChoices_fair.clock, w_frames, w_args, w_heap, w_applies, trivial, trivial, w_case⟩
end start1
theorem witness_1 : WitnessClaimed_1 := ⟨start1.p0, start1.e0, start1.about1, start1.theMethod, start1.args0, start1.below0, start1.atStart⟩
end Jvm.Pilot.@@N@@
