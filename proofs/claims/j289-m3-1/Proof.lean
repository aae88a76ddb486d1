import JvmDerived
import JvmDerived.Pilot.@@N@@Statement
import JvmDerived.Pilot.@@N@@Code
set_option linter.unusedVariables false
set_option linter.unusedSimpArgs false
namespace Jvm.RoadKit
open Sem ClassFile Op Lib Jvm.Stand Jvm.Free Jvm.LawKit
section New
variable {p : Program} {l : Launch} {e : Env} {R : Room} {s : State} {m : MethodId} {args : Array Value} {below : List Frame} {meth : Method} {c : Code} {T : State} {locs : List Loc} {cells slots : Nat}
theorem retI (X : Stand p l e R s m args below meth c T locs cells slots) (hx : p.tables.exec = Jvm.exec) {pc : Nat} {Ls : Array Slot} {z : Int32} {rest : List Value} (hret : meth.sig.returnType = some .int) (hd : decode c.code pc = .ok (.ireturn, 1)) {fs : List Frame}
    (hl : ∀ (f : JFrame) (acts : List Action), f.method = m → f.locked = none → f.entered = [] → (doReturn e (T.setTop f) acts (some (.int z))).1 = T.setFrames fs) : Steps p.tables e below (T.setTop (mkF m pc Ls (.int z :: rest))) (T.setFrames fs) := by
  have hm' : T.vm.method? m = some meth := X.method'
  have hn : narrow .int (.int z) = .int z := rfl
  show Steps p.tables e below (T.setTop { method := m, pc := pc, locals := Ls, stack := _ :: rest, locked := none }) _
  jvm_step X.here [X.here.top, hx, hd, hm', hret, hn]
  first | (intro acts; rw [hl _ acts rfl rfl rfl]) | rw [hl _ _ rfl rfl rfl]
  exact Steps.refl _
end New
end Jvm.RoadKit
namespace Jvm.Pilot.@@N@@
open Jvm Jvm.ClassFile Sem Op Lib Jvm.Free Jvm.Stand Jvm.LawKit Jvm.RoadKit Bundle Jvm.Pilot.@@N@@.Jvm.D
def Qv (val : Option Value) (h0 : Heap) (n0 : Nat) (v : Option Value) (h : Heap) (L : List Loc) : Prop := v = val ∧ Fr n0 L ∧ h = h0
def Ql (val : Option Value) (n0 : Nat) (v : Option Value) (L : List Loc) : Prop := v = val ∧ Fr n0 L
theorem own_ext {h h' : Heap} (K : Keep h h' []) : Ext h h' := ⟨K.1, fun a c q => K.2.1 a c q nin0⟩
theorem own_kp {h h' : Heap} (e : h' = h) : Keep h h' [] := e ▸ Keep.refl _ _
theorem own_oneU : One .unset := One.u
theorem own_oneI {z : Int32} : One (.val (.int z)) := One.val rfl
theorem own_oneR {z : Addr} : One (.val (.ref z)) := One.val rfl
abbrev own_rem (x y : Int32) : Int32 := x % y
theorem own_lcd (x y : Int64) : lcmpW x y = if x > y then 1 else if x = y then 0 else -1 := rfl
theorem own_lc0 {x y : Int64} : lcmpW x y = 0 ↔ x = y := by
  rw [own_lcd]
  by_cases h1 : x > y
  · have : x ≠ y := fun e => by subst e; exact absurd h1 (by simp [Int64.lt_irrefl])
    simp [h1, this]
  · by_cases h2 : x = y
    · simp [h1, h2]
    · simp [h1, h2]
def own_delta (c : Int32) : Int32 := if c = 0 then 0 else if c = 1 then 1 else if c = 2 then -1 else -2147483648
def own_deltaL (c : Int32) : Int64 := if c = 0 then 0 else if c = 1 then 1 else if c = 2 then -1 else -9223372036854775808
theorem own_delta0 (c : Int32) : own_delta c = 0 ↔ c = 0 := by
  unfold own_delta
  by_cases h0 : c = 0
  · simp [h0]
  · rw [if_neg h0]
    refine ⟨fun h => ?_, fun h => absurd h h0⟩
    by_cases h1 : c = 1
    · rw [if_pos h1] at h; exact absurd h (by decide)
    · rw [if_neg h1] at h
      by_cases h2 : c = 2
      · rw [if_pos h2] at h; exact absurd h (by decide)
      · rw [if_neg h2] at h; exact absurd h (by decide)
theorem own_deltaL0 (c : Int32) : own_deltaL c = 0 ↔ c = 0 := by
  unfold own_deltaL
  by_cases h0 : c = 0
  · simp [h0]
  · rw [if_neg h0]
    refine ⟨fun h => ?_, fun h => absurd h h0⟩
    by_cases h1 : c = 1
    · rw [if_pos h1] at h; exact absurd h (by decide)
    · rw [if_neg h1] at h
      by_cases h2 : c = 2
      · rw [if_pos h2] at h; exact absurd h (by decide)
      · rw [if_neg h2] at h; exact absurd h (by decide)
theorem own_add (x d : Int32) : x = x + d ↔ d = 0 := by
  refine ⟨fun h => ?_, fun h => by rw [h, Int32.add_zero]⟩
  have h' : x + d - x = x - x := by rw [← h]
  rw [Int32.sub_self] at h'
  rw [Int32.add_comm, Int32.add_sub_cancel] at h'
  exact h'
theorem own_addL (x d : Int64) : x = x + d ↔ d = 0 := by
  refine ⟨fun h => ?_, fun h => by rw [h, Int64.add_zero]⟩
  have h' : x + d - x = x - x := by rw [← h]
  rw [Int64.sub_self] at h'
  rw [Int64.add_comm, Int64.add_sub_cancel] at h'
  exact h'
def own_is (w1 p1 : Int32) (w2 p2 : Int64) (w3 p3 : Int32) (w4 p4 : Addr) (w5 p5 w6 p6 : Int32) : Int32 := if w1 = p1 ∧ w2 = p2 ∧ w3 = p3 ∧ w4 = p4 ∧ w5 = p5 ∧ w6 = p6 then 1 else 0
def own_exp (c1 c2 c3 c4 c5 k : Int32) : Int32 := if c1 = 0 ∧ c2 = 0 ∧ c3 = 0 ∧ c4 = 0 ∧ c5 = 0 ∧ k = 0 then 1 else 0
theorem own_agree (i0 : Int32) (j1 : Int64) (i3 i4 i5 c1 c2 c3 c4 c5 k : Int32) (ka kb : Addr) (hk : ka = kb ↔ k = 0) : own_is i0 (i0 + own_delta c1) j1 (j1 + own_deltaL c2) i3 (i3 + own_delta c3) ka kb i4 (i4 + own_delta c4) i5 (i5 + own_delta c5) = own_exp c1 c2 c3 c4 c5 k := by
  unfold own_is own_exp
  simp only [own_add, own_addL, own_delta0, own_deltaL0, hk]
  by_cases h : c1 = 0 ∧ c2 = 0 ∧ c3 = 0 ∧ c4 = 0 ∧ c5 = 0 ∧ k = 0
  · rw [if_pos h, if_pos ⟨h.1, h.2.1, h.2.2.1, h.2.2.2.2.2, h.2.2.2.1, h.2.2.2.2.1⟩]
  · rw [if_neg h, if_neg (fun q => h ⟨q.1, q.2.1, q.2.2.1, q.2.2.2.2.1, q.2.2.2.2.2, q.2.2.2.1⟩)]
def own_i (n : Fin 10) : Int32 := Int32.ofNat n.val
def own_cls (n : Fin 10) : String := match n.val with
  | 0 => "com/example/cablegram/cablegram/engine/ElementType$1"
  | 1 => "com/example/cablegram/cablegram/engine/ElementType$2"
  | 2 => "com/example/cablegram/cablegram/engine/ElementType$3"
  | 3 => "com/example/cablegram/cablegram/engine/ElementType$4"
  | 4 => "com/example/cablegram/cablegram/engine/ElementType$5"
  | 5 => "com/example/cablegram/cablegram/engine/ElementType$6"
  | 6 => "com/example/cablegram/cablegram/engine/ElementType$7"
  | 7 => "com/example/cablegram/cablegram/engine/ElementType$8"
  | 8 => "com/example/cablegram/cablegram/engine/ElementType$9"
  | _ => "com/example/cablegram/cablegram/engine/ElementType$10"
theorem own_clsne : ∀ a b : Fin 10, a ≠ b → own_cls a ≠ own_cls b := by decide +kernel
theorem own_sum : ∀ a b : Fin 10, own_rem (own_i a + own_i b) 10 = own_i (a + b) := by decide +kernel
theorem own_i0 : ∀ b : Fin 10, own_i b = 0 ↔ b = 0 := by decide +kernel
theorem own_fix : ∀ a b : Fin 10, a = a + b ↔ b = 0 := by decide +kernel
theorem own_15 : ∀ b : Fin 16, ∃ n : Fin 10, own_rem (Int32.ofNat b.val) 10 = own_i n := by decide +kernel
theorem own_and15 (x : Int32) : ∃ b : Fin 16, x &&& 15 = Int32.ofNat b.val := by
  have h : (x.toBitVec &&& 15#32).toNat ≤ 15 := by rw [BitVec.toNat_and]; exact Nat.and_le_right
  refine ⟨⟨(x.toBitVec &&& 15#32).toNat, by omega⟩, ?_⟩
  apply Int32.toBitVec_inj.mp
  show x.toBitVec &&& 15#32 = BitVec.ofNat 32 (x.toBitVec &&& 15#32).toNat
  rw [BitVec.ofNat_toNat, BitVec.setWidth_eq]
theorem own_pick (x : Int32) : ∃ n : Fin 10, own_rem (x &&& 15) 10 = own_i n := by
  obtain ⟨b, hb⟩ := own_and15 x
  rw [hb]; exact own_15 b
def Qe (Z : State) (a1 : Addr) (p2 : Int32) (q3 : Int64) (p4 : Int32) (a5 : Addr) (p6 p7 : Int32) (h0 : Heap) (n0 : Nat) (v : Option Value) (h : Heap) (L : List Loc) : Prop := v = none ∧ Fr n0 L ∧ Keep h0 h [a1] ∧ Exa Z h a1 "com/example/cablegram/cablegram/engine/Envelope" ∧ Fld Z h a1 "com/example/cablegram/cablegram/engine/Envelope" "source" "I" (.int p2) ∧ Fld Z h a1 "com/example/cablegram/cablegram/engine/Envelope" "context" "J" (.long q3) ∧ Fld Z h a1 "com/example/cablegram/cablegram/engine/Envelope" "tag" "I" (.int p4) ∧ Fld Z h a1 "com/example/cablegram/cablegram/engine/Envelope" "type" "Lcom/example/cablegram/cablegram/engine/ElementType;" (.ref a5) ∧ Fld Z h a1 "com/example/cablegram/cablegram/engine/Envelope" "count" "I" (.int p6) ∧ Fld Z h a1 "com/example/cablegram/cablegram/engine/Envelope" "entries" "I" (.int p7)
theorem d1_0 : decode method_4_code 0 = .ok (.iload_n 0, 1) := by decide +kernel
theorem d1_1 : decode method_4_code 1 = .ok (.ifCond .ne 7, 3) := by decide +kernel
theorem d1_4 : decode method_4_code 4 = .ok (.getstatic 16, 3) := by decide +kernel
theorem d1_7 : decode method_4_code 7 = .ok (.areturn, 1) := by decide +kernel
theorem pn_1 : plainName "com/example/cablegram/cablegram/engine/EnvelopeIsPinLaw" = true := by first | (simp [plainName, overriddenIn]; done) | decide +kernel
theorem ef_1 (m : MethodId) (x0 : Int32) : entryFrame m #[(.int x0)] 1 = mkF m 0 #[.val (.int x0)] [] := by first | (simp [entryFrame, mkF, argsToLocals, Value.category]; done) | rfl
set_option maxRecDepth 65536 in
set_option maxHeartbeats 40000000 in
theorem rm1_f (l : Launch) (Z : State) (a0 : Array Value) (hw : ∀ d ∈ tables_1, d.before a0 Z = true) (ws : List Jvm.Cond) (p1 : Int32) (w2 : Addr) (h0 : Heap) (n0 : Nat) (Z0 : n0 ≤ h0.size) (S_BYTE : Sta Z h0 "com/example/cablegram/cablegram/engine/ElementType" "BYTE" "Lcom/example/cablegram/cablegram/engine/ElementType;" (.ref w2)) (hc1 : p1 = (0 : Int32)) :
    MetFree l (⟨"com/example/cablegram/cablegram/engine/EnvelopeIsPinLaw", "typeOf", "(I)Lcom/example/cablegram/cablegram/engine/ElementType;"⟩ : MethodName) (head1 (Jvm.Cond.code (⟨"com/example/cablegram/cablegram/engine/EnvelopeIsPinLaw", "typeOf", "(I)Lcom/example/cablegram/cablegram/engine/ElementType;"⟩ : MethodName) method_4_code 1 (some (.object "com/example/cablegram/cablegram/engine/ElementType")) :: ws) ({ frames := 0, cells := 0, slots := 0, locals := 0 } : Room)) (fun a U => a = #[(.int p1)] ∧ Z.Warmed39 U.vm ∧ U.heap = h0) (fun _ _ _ _ _ => True) (fun _ U o U' => ∃ v L, o = .returned v ∧ Qv (some (.ref w2)) h0 n0 v U'.heap L ∧ FrameEnd U o U' L ({ frames := 0, cells := 0, slots := 0, locals := 0 } : Room).cells ({ frames := 0, cells := 0, slots := 0, locals := 0 } : Room).slots) := by
  refine MetFree.of_bodySF (plainFor_of_name pn_1) hisR ?_
  intro p e s m args below meth c s₁ Bd hml0 hP hK
  obtain ⟨rfl, hZ, hh⟩ := hP
  have hx := Bd.exec
  have hby := Bd.bytes
  have hml : c.maxLocals = 1 := hml0
  have hown : s.vm.findClass "com/example/cablegram/cablegram/engine/EnvelopeIsPinLaw" = some m.cls := findClass_of_methodNamed Bd.named
  have hnm := (name_of_methodNamed Bd.named Bd.method).1
  have X0 : Stand p l e ({ frames := 0, cells := 0, slots := 0, locals := 0 } : Room) s m #[(.int p1)] below meth c s₁ [] 0 0 := Stand.of_body Bd
  have e0 : s₁.heap = h0 := by rw [← hh, Bd.state]; rfl
  have N0 := Fr.nil n0
  have pre0 : ∀ t, Steps p.tables e below (s₁.setTop (mkF m 0 #[.val (.int p1)] [])) t → Steps p.tables e below (s₁.setTop (entryFrame m #[(.int p1)] 1)) t := fun t k => castTop (ef_1 m p1) k
  -- 3. LAWS
  obtain ⟨T3, X3, e3, st3⟩ := getS2 X0 hx hZ hown (host := "") (Or.inl (hw _ (List.mem_of_getElem? (i := 4) rfl))) Via.refl e0 S_BYTE (g := (mkF m 4 #[.val (.int p1)] [])) rfl (hb hby d1_4)
  obtain ⟨fs, hr, hrun, hended, hW, hsame⟩ := X3.leave (v := some (.ref w2)) (fun h => by rw [Bd.returns] at h; cases h)
  refine ⟨_, _, pre0 _ ?_, hrun, hended, _, _, rfl, ?_, ⟨_, rfl⟩, hW, hsame.mono (by decide) (by decide)⟩
  -- 4. STEPS
  · show Steps p.tables e below (s₁.setTop (mkF m 0 #[.val (.int p1)] [])) _
    refine XS.iloadN X0.here hx rfl (hb hby d1_0) rfl ?_
    show Steps p.tables e below (s₁.setTop (mkF m 1 #[.val (.int p1)] [(.int p1)])) _
    refine XS.ifNo X0.here hx rfl (hb hby d1_1) rfl ((if0 _ _).trans (teq hc1).2) ?_
    show Steps p.tables e below (s₁.setTop (mkF m 4 #[.val (.int p1)] [])) _
    refine st3 _ ?_
    show Steps p.tables e below (T3.setTop (mkF m 7 #[.val (.int p1)] [(.ref w2)])) _
    jvm_step X3.here [X3.here.top, hx, (hb hby d1_7), X3.method', Bd.returns, Value.isRef, FieldType.isReference]
    first | (intro acts; rw [hr _ acts rfl rfl rfl]) | rw [hr _ _ rfl rfl rfl]
    exact Steps.refl _
  · show Qv (some (.ref w2)) h0 n0 _ T3.heap _
    rw [e3]
    exact ⟨rfl, N0, rfl⟩
theorem d1_8 : decode method_4_code 8 = .ok (.iload_n 0, 1) := by decide +kernel
theorem d1_9 : decode method_4_code 9 = .ok (.iconst 1, 1) := by decide +kernel
theorem d1_10 : decode method_4_code 10 = .ok (.if_icmp .ne 7, 3) := by decide +kernel
theorem d1_13 : decode method_4_code 13 = .ok (.getstatic 22, 3) := by decide +kernel
theorem d1_16 : decode method_4_code 16 = .ok (.areturn, 1) := by decide +kernel
set_option maxRecDepth 65536 in
set_option maxHeartbeats 40000000 in
theorem rm1_tf (l : Launch) (Z : State) (a0 : Array Value) (hw : ∀ d ∈ tables_1, d.before a0 Z = true) (ws : List Jvm.Cond) (p1 : Int32) (w2 : Addr) (h0 : Heap) (n0 : Nat) (Z0 : n0 ≤ h0.size) (S_CHAR : Sta Z h0 "com/example/cablegram/cablegram/engine/ElementType" "CHAR" "Lcom/example/cablegram/cablegram/engine/ElementType;" (.ref w2)) (hc1 : ¬ (p1 = (0 : Int32))) (hc10 : p1 = (1 : Int32)) :
    MetFree l (⟨"com/example/cablegram/cablegram/engine/EnvelopeIsPinLaw", "typeOf", "(I)Lcom/example/cablegram/cablegram/engine/ElementType;"⟩ : MethodName) (head1 (Jvm.Cond.code (⟨"com/example/cablegram/cablegram/engine/EnvelopeIsPinLaw", "typeOf", "(I)Lcom/example/cablegram/cablegram/engine/ElementType;"⟩ : MethodName) method_4_code 1 (some (.object "com/example/cablegram/cablegram/engine/ElementType")) :: ws) ({ frames := 0, cells := 0, slots := 0, locals := 0 } : Room)) (fun a U => a = #[(.int p1)] ∧ Z.Warmed39 U.vm ∧ U.heap = h0) (fun _ _ _ _ _ => True) (fun _ U o U' => ∃ v L, o = .returned v ∧ Qv (some (.ref w2)) h0 n0 v U'.heap L ∧ FrameEnd U o U' L ({ frames := 0, cells := 0, slots := 0, locals := 0 } : Room).cells ({ frames := 0, cells := 0, slots := 0, locals := 0 } : Room).slots) := by
  refine MetFree.of_bodySF (plainFor_of_name pn_1) hisR ?_
  intro p e s m args below meth c s₁ Bd hml0 hP hK
  obtain ⟨rfl, hZ, hh⟩ := hP
  have hx := Bd.exec
  have hby := Bd.bytes
  have hml : c.maxLocals = 1 := hml0
  have hown : s.vm.findClass "com/example/cablegram/cablegram/engine/EnvelopeIsPinLaw" = some m.cls := findClass_of_methodNamed Bd.named
  have hnm := (name_of_methodNamed Bd.named Bd.method).1
  have X0 : Stand p l e ({ frames := 0, cells := 0, slots := 0, locals := 0 } : Room) s m #[(.int p1)] below meth c s₁ [] 0 0 := Stand.of_body Bd
  have e0 : s₁.heap = h0 := by rw [← hh, Bd.state]; rfl
  have N0 := Fr.nil n0
  have pre0 : ∀ t, Steps p.tables e below (s₁.setTop (mkF m 0 #[.val (.int p1)] [])) t → Steps p.tables e below (s₁.setTop (entryFrame m #[(.int p1)] 1)) t := fun t k => castTop (ef_1 m p1) k
  -- 3. LAWS
  obtain ⟨T3, X3, e3, st3⟩ := getS2 X0 hx hZ hown (host := "") (Or.inl (hw _ (List.mem_of_getElem? (i := 53) rfl))) Via.refl e0 S_CHAR (g := (mkF m 13 #[.val (.int p1)] [])) rfl (hb hby d1_13)
  obtain ⟨fs, hr, hrun, hended, hW, hsame⟩ := X3.leave (v := some (.ref w2)) (fun h => by rw [Bd.returns] at h; cases h)
  refine ⟨_, _, pre0 _ ?_, hrun, hended, _, _, rfl, ?_, ⟨_, rfl⟩, hW, hsame.mono (by decide) (by decide)⟩
  -- 4. STEPS
  · show Steps p.tables e below (s₁.setTop (mkF m 0 #[.val (.int p1)] [])) _
    refine XS.iloadN X0.here hx rfl (hb hby d1_0) rfl ?_
    show Steps p.tables e below (s₁.setTop (mkF m 1 #[.val (.int p1)] [(.int p1)])) _
    refine XS.ifYes X0.here hx rfl (pc0 := 1) (pc' := 8) rfl (hb hby d1_1) rfl ((if0 _ _).trans (feq hc1).2) (by decide) (by decide) ?_
    show Steps p.tables e below (s₁.setTop (mkF m 8 #[.val (.int p1)] [])) _
    refine XS.iloadN X0.here hx rfl (hb hby d1_8) rfl ?_
    show Steps p.tables e below (s₁.setTop (mkF m 9 #[.val (.int p1)] [(.int p1)])) _
    refine XS.iconst X0.here hx rfl (hb hby d1_9) ?_
    show Steps p.tables e below (s₁.setTop (mkF m 10 #[.val (.int p1)] [(.int (1 : Int32)), (.int p1)])) _
    refine XS.icmpNo X0.here hx rfl (hb hby d1_10) rfl (teq hc10).2 ?_
    show Steps p.tables e below (s₁.setTop (mkF m 13 #[.val (.int p1)] [])) _
    refine st3 _ ?_
    show Steps p.tables e below (T3.setTop (mkF m 16 #[.val (.int p1)] [(.ref w2)])) _
    jvm_step X3.here [X3.here.top, hx, (hb hby d1_16), X3.method', Bd.returns, Value.isRef, FieldType.isReference]
    first | (intro acts; rw [hr _ acts rfl rfl rfl]) | rw [hr _ _ rfl rfl rfl]
    exact Steps.refl _
  · show Qv (some (.ref w2)) h0 n0 _ T3.heap _
    rw [e3]
    exact ⟨rfl, N0, rfl⟩
theorem d1_17 : decode method_4_code 17 = .ok (.iload_n 0, 1) := by decide +kernel
theorem d1_18 : decode method_4_code 18 = .ok (.iconst 2, 1) := by decide +kernel
theorem d1_19 : decode method_4_code 19 = .ok (.if_icmp .ne 7, 3) := by decide +kernel
theorem d1_22 : decode method_4_code 22 = .ok (.getstatic 25, 3) := by decide +kernel
theorem d1_25 : decode method_4_code 25 = .ok (.areturn, 1) := by decide +kernel
set_option maxRecDepth 65536 in
set_option maxHeartbeats 40000000 in
theorem rm1_ttf (l : Launch) (Z : State) (a0 : Array Value) (hw : ∀ d ∈ tables_1, d.before a0 Z = true) (ws : List Jvm.Cond) (p1 : Int32) (w2 : Addr) (h0 : Heap) (n0 : Nat) (Z0 : n0 ≤ h0.size) (S_SHORT : Sta Z h0 "com/example/cablegram/cablegram/engine/ElementType" "SHORT" "Lcom/example/cablegram/cablegram/engine/ElementType;" (.ref w2)) (hc1 : ¬ (p1 = (0 : Int32))) (hc10 : ¬ (p1 = (1 : Int32))) (hc19 : p1 = (2 : Int32)) :
    MetFree l (⟨"com/example/cablegram/cablegram/engine/EnvelopeIsPinLaw", "typeOf", "(I)Lcom/example/cablegram/cablegram/engine/ElementType;"⟩ : MethodName) (head1 (Jvm.Cond.code (⟨"com/example/cablegram/cablegram/engine/EnvelopeIsPinLaw", "typeOf", "(I)Lcom/example/cablegram/cablegram/engine/ElementType;"⟩ : MethodName) method_4_code 1 (some (.object "com/example/cablegram/cablegram/engine/ElementType")) :: ws) ({ frames := 0, cells := 0, slots := 0, locals := 0 } : Room)) (fun a U => a = #[(.int p1)] ∧ Z.Warmed39 U.vm ∧ U.heap = h0) (fun _ _ _ _ _ => True) (fun _ U o U' => ∃ v L, o = .returned v ∧ Qv (some (.ref w2)) h0 n0 v U'.heap L ∧ FrameEnd U o U' L ({ frames := 0, cells := 0, slots := 0, locals := 0 } : Room).cells ({ frames := 0, cells := 0, slots := 0, locals := 0 } : Room).slots) := by
  refine MetFree.of_bodySF (plainFor_of_name pn_1) hisR ?_
  intro p e s m args below meth c s₁ Bd hml0 hP hK
  obtain ⟨rfl, hZ, hh⟩ := hP
  have hx := Bd.exec
  have hby := Bd.bytes
  have hml : c.maxLocals = 1 := hml0
  have hown : s.vm.findClass "com/example/cablegram/cablegram/engine/EnvelopeIsPinLaw" = some m.cls := findClass_of_methodNamed Bd.named
  have hnm := (name_of_methodNamed Bd.named Bd.method).1
  have X0 : Stand p l e ({ frames := 0, cells := 0, slots := 0, locals := 0 } : Room) s m #[(.int p1)] below meth c s₁ [] 0 0 := Stand.of_body Bd
  have e0 : s₁.heap = h0 := by rw [← hh, Bd.state]; rfl
  have N0 := Fr.nil n0
  have pre0 : ∀ t, Steps p.tables e below (s₁.setTop (mkF m 0 #[.val (.int p1)] [])) t → Steps p.tables e below (s₁.setTop (entryFrame m #[(.int p1)] 1)) t := fun t k => castTop (ef_1 m p1) k
  -- 3. LAWS
  obtain ⟨T3, X3, e3, st3⟩ := getS2 X0 hx hZ hown (host := "") (Or.inl (hw _ (List.mem_of_getElem? (i := 63) rfl))) Via.refl e0 S_SHORT (g := (mkF m 22 #[.val (.int p1)] [])) rfl (hb hby d1_22)
  obtain ⟨fs, hr, hrun, hended, hW, hsame⟩ := X3.leave (v := some (.ref w2)) (fun h => by rw [Bd.returns] at h; cases h)
  refine ⟨_, _, pre0 _ ?_, hrun, hended, _, _, rfl, ?_, ⟨_, rfl⟩, hW, hsame.mono (by decide) (by decide)⟩
  -- 4. STEPS
  · show Steps p.tables e below (s₁.setTop (mkF m 0 #[.val (.int p1)] [])) _
    refine XS.iloadN X0.here hx rfl (hb hby d1_0) rfl ?_
    show Steps p.tables e below (s₁.setTop (mkF m 1 #[.val (.int p1)] [(.int p1)])) _
    refine XS.ifYes X0.here hx rfl (pc0 := 1) (pc' := 8) rfl (hb hby d1_1) rfl ((if0 _ _).trans (feq hc1).2) (by decide) (by decide) ?_
    show Steps p.tables e below (s₁.setTop (mkF m 8 #[.val (.int p1)] [])) _
    refine XS.iloadN X0.here hx rfl (hb hby d1_8) rfl ?_
    show Steps p.tables e below (s₁.setTop (mkF m 9 #[.val (.int p1)] [(.int p1)])) _
    refine XS.iconst X0.here hx rfl (hb hby d1_9) ?_
    show Steps p.tables e below (s₁.setTop (mkF m 10 #[.val (.int p1)] [(.int (1 : Int32)), (.int p1)])) _
    refine XS.icmpYes X0.here hx rfl (pc0 := 10) (pc' := 17) rfl (hb hby d1_10) rfl (feq hc10).2 (by decide) (by decide) ?_
    show Steps p.tables e below (s₁.setTop (mkF m 17 #[.val (.int p1)] [])) _
    refine XS.iloadN X0.here hx rfl (hb hby d1_17) rfl ?_
    show Steps p.tables e below (s₁.setTop (mkF m 18 #[.val (.int p1)] [(.int p1)])) _
    refine XS.iconst X0.here hx rfl (hb hby d1_18) ?_
    show Steps p.tables e below (s₁.setTop (mkF m 19 #[.val (.int p1)] [(.int (2 : Int32)), (.int p1)])) _
    refine XS.icmpNo X0.here hx rfl (hb hby d1_19) rfl (teq hc19).2 ?_
    show Steps p.tables e below (s₁.setTop (mkF m 22 #[.val (.int p1)] [])) _
    refine st3 _ ?_
    show Steps p.tables e below (T3.setTop (mkF m 25 #[.val (.int p1)] [(.ref w2)])) _
    jvm_step X3.here [X3.here.top, hx, (hb hby d1_25), X3.method', Bd.returns, Value.isRef, FieldType.isReference]
    first | (intro acts; rw [hr _ acts rfl rfl rfl]) | rw [hr _ _ rfl rfl rfl]
    exact Steps.refl _
  · show Qv (some (.ref w2)) h0 n0 _ T3.heap _
    rw [e3]
    exact ⟨rfl, N0, rfl⟩
theorem d1_26 : decode method_4_code 26 = .ok (.iload_n 0, 1) := by decide +kernel
theorem d1_27 : decode method_4_code 27 = .ok (.iconst 3, 1) := by decide +kernel
theorem d1_28 : decode method_4_code 28 = .ok (.if_icmp .ne 7, 3) := by decide +kernel
theorem d1_31 : decode method_4_code 31 = .ok (.getstatic 28, 3) := by decide +kernel
theorem d1_34 : decode method_4_code 34 = .ok (.areturn, 1) := by decide +kernel
set_option maxRecDepth 65536 in
set_option maxHeartbeats 40000000 in
theorem rm1_tttf (l : Launch) (Z : State) (a0 : Array Value) (hw : ∀ d ∈ tables_1, d.before a0 Z = true) (ws : List Jvm.Cond) (p1 : Int32) (w2 : Addr) (h0 : Heap) (n0 : Nat) (Z0 : n0 ≤ h0.size) (S_BOOLEAN : Sta Z h0 "com/example/cablegram/cablegram/engine/ElementType" "BOOLEAN" "Lcom/example/cablegram/cablegram/engine/ElementType;" (.ref w2)) (hc1 : ¬ (p1 = (0 : Int32))) (hc10 : ¬ (p1 = (1 : Int32))) (hc19 : ¬ (p1 = (2 : Int32))) (hc28 : p1 = (3 : Int32)) :
    MetFree l (⟨"com/example/cablegram/cablegram/engine/EnvelopeIsPinLaw", "typeOf", "(I)Lcom/example/cablegram/cablegram/engine/ElementType;"⟩ : MethodName) (head1 (Jvm.Cond.code (⟨"com/example/cablegram/cablegram/engine/EnvelopeIsPinLaw", "typeOf", "(I)Lcom/example/cablegram/cablegram/engine/ElementType;"⟩ : MethodName) method_4_code 1 (some (.object "com/example/cablegram/cablegram/engine/ElementType")) :: ws) ({ frames := 0, cells := 0, slots := 0, locals := 0 } : Room)) (fun a U => a = #[(.int p1)] ∧ Z.Warmed39 U.vm ∧ U.heap = h0) (fun _ _ _ _ _ => True) (fun _ U o U' => ∃ v L, o = .returned v ∧ Qv (some (.ref w2)) h0 n0 v U'.heap L ∧ FrameEnd U o U' L ({ frames := 0, cells := 0, slots := 0, locals := 0 } : Room).cells ({ frames := 0, cells := 0, slots := 0, locals := 0 } : Room).slots) := by
  refine MetFree.of_bodySF (plainFor_of_name pn_1) hisR ?_
  intro p e s m args below meth c s₁ Bd hml0 hP hK
  obtain ⟨rfl, hZ, hh⟩ := hP
  have hx := Bd.exec
  have hby := Bd.bytes
  have hml : c.maxLocals = 1 := hml0
  have hown : s.vm.findClass "com/example/cablegram/cablegram/engine/EnvelopeIsPinLaw" = some m.cls := findClass_of_methodNamed Bd.named
  have hnm := (name_of_methodNamed Bd.named Bd.method).1
  have X0 : Stand p l e ({ frames := 0, cells := 0, slots := 0, locals := 0 } : Room) s m #[(.int p1)] below meth c s₁ [] 0 0 := Stand.of_body Bd
  have e0 : s₁.heap = h0 := by rw [← hh, Bd.state]; rfl
  have N0 := Fr.nil n0
  have pre0 : ∀ t, Steps p.tables e below (s₁.setTop (mkF m 0 #[.val (.int p1)] [])) t → Steps p.tables e below (s₁.setTop (entryFrame m #[(.int p1)] 1)) t := fun t k => castTop (ef_1 m p1) k
  -- 3. LAWS
  obtain ⟨T3, X3, e3, st3⟩ := getS2 X0 hx hZ hown (host := "") (Or.inl (hw _ (List.mem_of_getElem? (i := 61) rfl))) Via.refl e0 S_BOOLEAN (g := (mkF m 31 #[.val (.int p1)] [])) rfl (hb hby d1_31)
  obtain ⟨fs, hr, hrun, hended, hW, hsame⟩ := X3.leave (v := some (.ref w2)) (fun h => by rw [Bd.returns] at h; cases h)
  refine ⟨_, _, pre0 _ ?_, hrun, hended, _, _, rfl, ?_, ⟨_, rfl⟩, hW, hsame.mono (by decide) (by decide)⟩
  -- 4. STEPS
  · show Steps p.tables e below (s₁.setTop (mkF m 0 #[.val (.int p1)] [])) _
    refine XS.iloadN X0.here hx rfl (hb hby d1_0) rfl ?_
    show Steps p.tables e below (s₁.setTop (mkF m 1 #[.val (.int p1)] [(.int p1)])) _
    refine XS.ifYes X0.here hx rfl (pc0 := 1) (pc' := 8) rfl (hb hby d1_1) rfl ((if0 _ _).trans (feq hc1).2) (by decide) (by decide) ?_
    show Steps p.tables e below (s₁.setTop (mkF m 8 #[.val (.int p1)] [])) _
    refine XS.iloadN X0.here hx rfl (hb hby d1_8) rfl ?_
    show Steps p.tables e below (s₁.setTop (mkF m 9 #[.val (.int p1)] [(.int p1)])) _
    refine XS.iconst X0.here hx rfl (hb hby d1_9) ?_
    show Steps p.tables e below (s₁.setTop (mkF m 10 #[.val (.int p1)] [(.int (1 : Int32)), (.int p1)])) _
    refine XS.icmpYes X0.here hx rfl (pc0 := 10) (pc' := 17) rfl (hb hby d1_10) rfl (feq hc10).2 (by decide) (by decide) ?_
    show Steps p.tables e below (s₁.setTop (mkF m 17 #[.val (.int p1)] [])) _
    refine XS.iloadN X0.here hx rfl (hb hby d1_17) rfl ?_
    show Steps p.tables e below (s₁.setTop (mkF m 18 #[.val (.int p1)] [(.int p1)])) _
    refine XS.iconst X0.here hx rfl (hb hby d1_18) ?_
    show Steps p.tables e below (s₁.setTop (mkF m 19 #[.val (.int p1)] [(.int (2 : Int32)), (.int p1)])) _
    refine XS.icmpYes X0.here hx rfl (pc0 := 19) (pc' := 26) rfl (hb hby d1_19) rfl (feq hc19).2 (by decide) (by decide) ?_
    show Steps p.tables e below (s₁.setTop (mkF m 26 #[.val (.int p1)] [])) _
    refine XS.iloadN X0.here hx rfl (hb hby d1_26) rfl ?_
    show Steps p.tables e below (s₁.setTop (mkF m 27 #[.val (.int p1)] [(.int p1)])) _
    refine XS.iconst X0.here hx rfl (hb hby d1_27) ?_
    show Steps p.tables e below (s₁.setTop (mkF m 28 #[.val (.int p1)] [(.int (3 : Int32)), (.int p1)])) _
    refine XS.icmpNo X0.here hx rfl (hb hby d1_28) rfl (teq hc28).2 ?_
    show Steps p.tables e below (s₁.setTop (mkF m 31 #[.val (.int p1)] [])) _
    refine st3 _ ?_
    show Steps p.tables e below (T3.setTop (mkF m 34 #[.val (.int p1)] [(.ref w2)])) _
    jvm_step X3.here [X3.here.top, hx, (hb hby d1_34), X3.method', Bd.returns, Value.isRef, FieldType.isReference]
    first | (intro acts; rw [hr _ acts rfl rfl rfl]) | rw [hr _ _ rfl rfl rfl]
    exact Steps.refl _
  · show Qv (some (.ref w2)) h0 n0 _ T3.heap _
    rw [e3]
    exact ⟨rfl, N0, rfl⟩
theorem d1_35 : decode method_4_code 35 = .ok (.iload_n 0, 1) := by decide +kernel
theorem d1_36 : decode method_4_code 36 = .ok (.iconst 4, 1) := by decide +kernel
theorem d1_37 : decode method_4_code 37 = .ok (.if_icmp .ne 7, 3) := by decide +kernel
theorem d1_40 : decode method_4_code 40 = .ok (.getstatic 31, 3) := by decide +kernel
theorem d1_43 : decode method_4_code 43 = .ok (.areturn, 1) := by decide +kernel
set_option maxRecDepth 65536 in
set_option maxHeartbeats 40000000 in
theorem rm1_ttttf (l : Launch) (Z : State) (a0 : Array Value) (hw : ∀ d ∈ tables_1, d.before a0 Z = true) (ws : List Jvm.Cond) (p1 : Int32) (w2 : Addr) (h0 : Heap) (n0 : Nat) (Z0 : n0 ≤ h0.size) (S_INT : Sta Z h0 "com/example/cablegram/cablegram/engine/ElementType" "INT" "Lcom/example/cablegram/cablegram/engine/ElementType;" (.ref w2)) (hc1 : ¬ (p1 = (0 : Int32))) (hc10 : ¬ (p1 = (1 : Int32))) (hc19 : ¬ (p1 = (2 : Int32))) (hc28 : ¬ (p1 = (3 : Int32))) (hc37 : p1 = (4 : Int32)) :
    MetFree l (⟨"com/example/cablegram/cablegram/engine/EnvelopeIsPinLaw", "typeOf", "(I)Lcom/example/cablegram/cablegram/engine/ElementType;"⟩ : MethodName) (head1 (Jvm.Cond.code (⟨"com/example/cablegram/cablegram/engine/EnvelopeIsPinLaw", "typeOf", "(I)Lcom/example/cablegram/cablegram/engine/ElementType;"⟩ : MethodName) method_4_code 1 (some (.object "com/example/cablegram/cablegram/engine/ElementType")) :: ws) ({ frames := 0, cells := 0, slots := 0, locals := 0 } : Room)) (fun a U => a = #[(.int p1)] ∧ Z.Warmed39 U.vm ∧ U.heap = h0) (fun _ _ _ _ _ => True) (fun _ U o U' => ∃ v L, o = .returned v ∧ Qv (some (.ref w2)) h0 n0 v U'.heap L ∧ FrameEnd U o U' L ({ frames := 0, cells := 0, slots := 0, locals := 0 } : Room).cells ({ frames := 0, cells := 0, slots := 0, locals := 0 } : Room).slots) := by
  refine MetFree.of_bodySF (plainFor_of_name pn_1) hisR ?_
  intro p e s m args below meth c s₁ Bd hml0 hP hK
  obtain ⟨rfl, hZ, hh⟩ := hP
  have hx := Bd.exec
  have hby := Bd.bytes
  have hml : c.maxLocals = 1 := hml0
  have hown : s.vm.findClass "com/example/cablegram/cablegram/engine/EnvelopeIsPinLaw" = some m.cls := findClass_of_methodNamed Bd.named
  have hnm := (name_of_methodNamed Bd.named Bd.method).1
  have X0 : Stand p l e ({ frames := 0, cells := 0, slots := 0, locals := 0 } : Room) s m #[(.int p1)] below meth c s₁ [] 0 0 := Stand.of_body Bd
  have e0 : s₁.heap = h0 := by rw [← hh, Bd.state]; rfl
  have N0 := Fr.nil n0
  have pre0 : ∀ t, Steps p.tables e below (s₁.setTop (mkF m 0 #[.val (.int p1)] [])) t → Steps p.tables e below (s₁.setTop (entryFrame m #[(.int p1)] 1)) t := fun t k => castTop (ef_1 m p1) k
  -- 3. LAWS
  obtain ⟨T3, X3, e3, st3⟩ := getS2 X0 hx hZ hown (host := "") (Or.inl (hw _ (List.mem_of_getElem? (i := 49) rfl))) Via.refl e0 S_INT (g := (mkF m 40 #[.val (.int p1)] [])) rfl (hb hby d1_40)
  obtain ⟨fs, hr, hrun, hended, hW, hsame⟩ := X3.leave (v := some (.ref w2)) (fun h => by rw [Bd.returns] at h; cases h)
  refine ⟨_, _, pre0 _ ?_, hrun, hended, _, _, rfl, ?_, ⟨_, rfl⟩, hW, hsame.mono (by decide) (by decide)⟩
  -- 4. STEPS
  · show Steps p.tables e below (s₁.setTop (mkF m 0 #[.val (.int p1)] [])) _
    refine XS.iloadN X0.here hx rfl (hb hby d1_0) rfl ?_
    show Steps p.tables e below (s₁.setTop (mkF m 1 #[.val (.int p1)] [(.int p1)])) _
    refine XS.ifYes X0.here hx rfl (pc0 := 1) (pc' := 8) rfl (hb hby d1_1) rfl ((if0 _ _).trans (feq hc1).2) (by decide) (by decide) ?_
    show Steps p.tables e below (s₁.setTop (mkF m 8 #[.val (.int p1)] [])) _
    refine XS.iloadN X0.here hx rfl (hb hby d1_8) rfl ?_
    show Steps p.tables e below (s₁.setTop (mkF m 9 #[.val (.int p1)] [(.int p1)])) _
    refine XS.iconst X0.here hx rfl (hb hby d1_9) ?_
    show Steps p.tables e below (s₁.setTop (mkF m 10 #[.val (.int p1)] [(.int (1 : Int32)), (.int p1)])) _
    refine XS.icmpYes X0.here hx rfl (pc0 := 10) (pc' := 17) rfl (hb hby d1_10) rfl (feq hc10).2 (by decide) (by decide) ?_
    show Steps p.tables e below (s₁.setTop (mkF m 17 #[.val (.int p1)] [])) _
    refine XS.iloadN X0.here hx rfl (hb hby d1_17) rfl ?_
    show Steps p.tables e below (s₁.setTop (mkF m 18 #[.val (.int p1)] [(.int p1)])) _
    refine XS.iconst X0.here hx rfl (hb hby d1_18) ?_
    show Steps p.tables e below (s₁.setTop (mkF m 19 #[.val (.int p1)] [(.int (2 : Int32)), (.int p1)])) _
    refine XS.icmpYes X0.here hx rfl (pc0 := 19) (pc' := 26) rfl (hb hby d1_19) rfl (feq hc19).2 (by decide) (by decide) ?_
    show Steps p.tables e below (s₁.setTop (mkF m 26 #[.val (.int p1)] [])) _
    refine XS.iloadN X0.here hx rfl (hb hby d1_26) rfl ?_
    show Steps p.tables e below (s₁.setTop (mkF m 27 #[.val (.int p1)] [(.int p1)])) _
    refine XS.iconst X0.here hx rfl (hb hby d1_27) ?_
    show Steps p.tables e below (s₁.setTop (mkF m 28 #[.val (.int p1)] [(.int (3 : Int32)), (.int p1)])) _
    refine XS.icmpYes X0.here hx rfl (pc0 := 28) (pc' := 35) rfl (hb hby d1_28) rfl (feq hc28).2 (by decide) (by decide) ?_
    show Steps p.tables e below (s₁.setTop (mkF m 35 #[.val (.int p1)] [])) _
    refine XS.iloadN X0.here hx rfl (hb hby d1_35) rfl ?_
    show Steps p.tables e below (s₁.setTop (mkF m 36 #[.val (.int p1)] [(.int p1)])) _
    refine XS.iconst X0.here hx rfl (hb hby d1_36) ?_
    show Steps p.tables e below (s₁.setTop (mkF m 37 #[.val (.int p1)] [(.int (4 : Int32)), (.int p1)])) _
    refine XS.icmpNo X0.here hx rfl (hb hby d1_37) rfl (teq hc37).2 ?_
    show Steps p.tables e below (s₁.setTop (mkF m 40 #[.val (.int p1)] [])) _
    refine st3 _ ?_
    show Steps p.tables e below (T3.setTop (mkF m 43 #[.val (.int p1)] [(.ref w2)])) _
    jvm_step X3.here [X3.here.top, hx, (hb hby d1_43), X3.method', Bd.returns, Value.isRef, FieldType.isReference]
    first | (intro acts; rw [hr _ acts rfl rfl rfl]) | rw [hr _ _ rfl rfl rfl]
    exact Steps.refl _
  · show Qv (some (.ref w2)) h0 n0 _ T3.heap _
    rw [e3]
    exact ⟨rfl, N0, rfl⟩
theorem d1_44 : decode method_4_code 44 = .ok (.iload_n 0, 1) := by decide +kernel
theorem d1_45 : decode method_4_code 45 = .ok (.iconst 5, 1) := by decide +kernel
theorem d1_46 : decode method_4_code 46 = .ok (.if_icmp .ne 7, 3) := by decide +kernel
theorem d1_49 : decode method_4_code 49 = .ok (.getstatic 34, 3) := by decide +kernel
theorem d1_52 : decode method_4_code 52 = .ok (.areturn, 1) := by decide +kernel
set_option maxRecDepth 65536 in
set_option maxHeartbeats 40000000 in
theorem rm1_tttttf (l : Launch) (Z : State) (a0 : Array Value) (hw : ∀ d ∈ tables_1, d.before a0 Z = true) (ws : List Jvm.Cond) (p1 : Int32) (w2 : Addr) (h0 : Heap) (n0 : Nat) (Z0 : n0 ≤ h0.size) (S_LONG : Sta Z h0 "com/example/cablegram/cablegram/engine/ElementType" "LONG" "Lcom/example/cablegram/cablegram/engine/ElementType;" (.ref w2)) (hc1 : ¬ (p1 = (0 : Int32))) (hc10 : ¬ (p1 = (1 : Int32))) (hc19 : ¬ (p1 = (2 : Int32))) (hc28 : ¬ (p1 = (3 : Int32))) (hc37 : ¬ (p1 = (4 : Int32))) (hc46 : p1 = (5 : Int32)) :
    MetFree l (⟨"com/example/cablegram/cablegram/engine/EnvelopeIsPinLaw", "typeOf", "(I)Lcom/example/cablegram/cablegram/engine/ElementType;"⟩ : MethodName) (head1 (Jvm.Cond.code (⟨"com/example/cablegram/cablegram/engine/EnvelopeIsPinLaw", "typeOf", "(I)Lcom/example/cablegram/cablegram/engine/ElementType;"⟩ : MethodName) method_4_code 1 (some (.object "com/example/cablegram/cablegram/engine/ElementType")) :: ws) ({ frames := 0, cells := 0, slots := 0, locals := 0 } : Room)) (fun a U => a = #[(.int p1)] ∧ Z.Warmed39 U.vm ∧ U.heap = h0) (fun _ _ _ _ _ => True) (fun _ U o U' => ∃ v L, o = .returned v ∧ Qv (some (.ref w2)) h0 n0 v U'.heap L ∧ FrameEnd U o U' L ({ frames := 0, cells := 0, slots := 0, locals := 0 } : Room).cells ({ frames := 0, cells := 0, slots := 0, locals := 0 } : Room).slots) := by
  refine MetFree.of_bodySF (plainFor_of_name pn_1) hisR ?_
  intro p e s m args below meth c s₁ Bd hml0 hP hK
  obtain ⟨rfl, hZ, hh⟩ := hP
  have hx := Bd.exec
  have hby := Bd.bytes
  have hml : c.maxLocals = 1 := hml0
  have hown : s.vm.findClass "com/example/cablegram/cablegram/engine/EnvelopeIsPinLaw" = some m.cls := findClass_of_methodNamed Bd.named
  have hnm := (name_of_methodNamed Bd.named Bd.method).1
  have X0 : Stand p l e ({ frames := 0, cells := 0, slots := 0, locals := 0 } : Room) s m #[(.int p1)] below meth c s₁ [] 0 0 := Stand.of_body Bd
  have e0 : s₁.heap = h0 := by rw [← hh, Bd.state]; rfl
  have N0 := Fr.nil n0
  have pre0 : ∀ t, Steps p.tables e below (s₁.setTop (mkF m 0 #[.val (.int p1)] [])) t → Steps p.tables e below (s₁.setTop (entryFrame m #[(.int p1)] 1)) t := fun t k => castTop (ef_1 m p1) k
  -- 3. LAWS
  obtain ⟨T3, X3, e3, st3⟩ := getS2 X0 hx hZ hown (host := "") (Or.inl (hw _ (List.mem_of_getElem? (i := 47) rfl))) Via.refl e0 S_LONG (g := (mkF m 49 #[.val (.int p1)] [])) rfl (hb hby d1_49)
  obtain ⟨fs, hr, hrun, hended, hW, hsame⟩ := X3.leave (v := some (.ref w2)) (fun h => by rw [Bd.returns] at h; cases h)
  refine ⟨_, _, pre0 _ ?_, hrun, hended, _, _, rfl, ?_, ⟨_, rfl⟩, hW, hsame.mono (by decide) (by decide)⟩
  -- 4. STEPS
  · show Steps p.tables e below (s₁.setTop (mkF m 0 #[.val (.int p1)] [])) _
    refine XS.iloadN X0.here hx rfl (hb hby d1_0) rfl ?_
    show Steps p.tables e below (s₁.setTop (mkF m 1 #[.val (.int p1)] [(.int p1)])) _
    refine XS.ifYes X0.here hx rfl (pc0 := 1) (pc' := 8) rfl (hb hby d1_1) rfl ((if0 _ _).trans (feq hc1).2) (by decide) (by decide) ?_
    show Steps p.tables e below (s₁.setTop (mkF m 8 #[.val (.int p1)] [])) _
    refine XS.iloadN X0.here hx rfl (hb hby d1_8) rfl ?_
    show Steps p.tables e below (s₁.setTop (mkF m 9 #[.val (.int p1)] [(.int p1)])) _
    refine XS.iconst X0.here hx rfl (hb hby d1_9) ?_
    show Steps p.tables e below (s₁.setTop (mkF m 10 #[.val (.int p1)] [(.int (1 : Int32)), (.int p1)])) _
    refine XS.icmpYes X0.here hx rfl (pc0 := 10) (pc' := 17) rfl (hb hby d1_10) rfl (feq hc10).2 (by decide) (by decide) ?_
    show Steps p.tables e below (s₁.setTop (mkF m 17 #[.val (.int p1)] [])) _
    refine XS.iloadN X0.here hx rfl (hb hby d1_17) rfl ?_
    show Steps p.tables e below (s₁.setTop (mkF m 18 #[.val (.int p1)] [(.int p1)])) _
    refine XS.iconst X0.here hx rfl (hb hby d1_18) ?_
    show Steps p.tables e below (s₁.setTop (mkF m 19 #[.val (.int p1)] [(.int (2 : Int32)), (.int p1)])) _
    refine XS.icmpYes X0.here hx rfl (pc0 := 19) (pc' := 26) rfl (hb hby d1_19) rfl (feq hc19).2 (by decide) (by decide) ?_
    show Steps p.tables e below (s₁.setTop (mkF m 26 #[.val (.int p1)] [])) _
    refine XS.iloadN X0.here hx rfl (hb hby d1_26) rfl ?_
    show Steps p.tables e below (s₁.setTop (mkF m 27 #[.val (.int p1)] [(.int p1)])) _
    refine XS.iconst X0.here hx rfl (hb hby d1_27) ?_
    show Steps p.tables e below (s₁.setTop (mkF m 28 #[.val (.int p1)] [(.int (3 : Int32)), (.int p1)])) _
    refine XS.icmpYes X0.here hx rfl (pc0 := 28) (pc' := 35) rfl (hb hby d1_28) rfl (feq hc28).2 (by decide) (by decide) ?_
    show Steps p.tables e below (s₁.setTop (mkF m 35 #[.val (.int p1)] [])) _
    refine XS.iloadN X0.here hx rfl (hb hby d1_35) rfl ?_
    show Steps p.tables e below (s₁.setTop (mkF m 36 #[.val (.int p1)] [(.int p1)])) _
    refine XS.iconst X0.here hx rfl (hb hby d1_36) ?_
    show Steps p.tables e below (s₁.setTop (mkF m 37 #[.val (.int p1)] [(.int (4 : Int32)), (.int p1)])) _
    refine XS.icmpYes X0.here hx rfl (pc0 := 37) (pc' := 44) rfl (hb hby d1_37) rfl (feq hc37).2 (by decide) (by decide) ?_
    show Steps p.tables e below (s₁.setTop (mkF m 44 #[.val (.int p1)] [])) _
    refine XS.iloadN X0.here hx rfl (hb hby d1_44) rfl ?_
    show Steps p.tables e below (s₁.setTop (mkF m 45 #[.val (.int p1)] [(.int p1)])) _
    refine XS.iconst X0.here hx rfl (hb hby d1_45) ?_
    show Steps p.tables e below (s₁.setTop (mkF m 46 #[.val (.int p1)] [(.int (5 : Int32)), (.int p1)])) _
    refine XS.icmpNo X0.here hx rfl (hb hby d1_46) rfl (teq hc46).2 ?_
    show Steps p.tables e below (s₁.setTop (mkF m 49 #[.val (.int p1)] [])) _
    refine st3 _ ?_
    show Steps p.tables e below (T3.setTop (mkF m 52 #[.val (.int p1)] [(.ref w2)])) _
    jvm_step X3.here [X3.here.top, hx, (hb hby d1_52), X3.method', Bd.returns, Value.isRef, FieldType.isReference]
    first | (intro acts; rw [hr _ acts rfl rfl rfl]) | rw [hr _ _ rfl rfl rfl]
    exact Steps.refl _
  · show Qv (some (.ref w2)) h0 n0 _ T3.heap _
    rw [e3]
    exact ⟨rfl, N0, rfl⟩
theorem d1_53 : decode method_4_code 53 = .ok (.iload_n 0, 1) := by decide +kernel
theorem d1_54 : decode method_4_code 54 = .ok (.bipush 6, 2) := by decide +kernel
theorem d1_56 : decode method_4_code 56 = .ok (.if_icmp .ne 7, 3) := by decide +kernel
theorem d1_59 : decode method_4_code 59 = .ok (.getstatic 37, 3) := by decide +kernel
theorem d1_62 : decode method_4_code 62 = .ok (.areturn, 1) := by decide +kernel
set_option maxRecDepth 65536 in
set_option maxHeartbeats 40000000 in
theorem rm1_ttttttf (l : Launch) (Z : State) (a0 : Array Value) (hw : ∀ d ∈ tables_1, d.before a0 Z = true) (ws : List Jvm.Cond) (p1 : Int32) (w2 : Addr) (h0 : Heap) (n0 : Nat) (Z0 : n0 ≤ h0.size) (S_FLOAT : Sta Z h0 "com/example/cablegram/cablegram/engine/ElementType" "FLOAT" "Lcom/example/cablegram/cablegram/engine/ElementType;" (.ref w2)) (hc1 : ¬ (p1 = (0 : Int32))) (hc10 : ¬ (p1 = (1 : Int32))) (hc19 : ¬ (p1 = (2 : Int32))) (hc28 : ¬ (p1 = (3 : Int32))) (hc37 : ¬ (p1 = (4 : Int32))) (hc46 : ¬ (p1 = (5 : Int32))) (hc56 : p1 = (6 : Int32)) :
    MetFree l (⟨"com/example/cablegram/cablegram/engine/EnvelopeIsPinLaw", "typeOf", "(I)Lcom/example/cablegram/cablegram/engine/ElementType;"⟩ : MethodName) (head1 (Jvm.Cond.code (⟨"com/example/cablegram/cablegram/engine/EnvelopeIsPinLaw", "typeOf", "(I)Lcom/example/cablegram/cablegram/engine/ElementType;"⟩ : MethodName) method_4_code 1 (some (.object "com/example/cablegram/cablegram/engine/ElementType")) :: ws) ({ frames := 0, cells := 0, slots := 0, locals := 0 } : Room)) (fun a U => a = #[(.int p1)] ∧ Z.Warmed39 U.vm ∧ U.heap = h0) (fun _ _ _ _ _ => True) (fun _ U o U' => ∃ v L, o = .returned v ∧ Qv (some (.ref w2)) h0 n0 v U'.heap L ∧ FrameEnd U o U' L ({ frames := 0, cells := 0, slots := 0, locals := 0 } : Room).cells ({ frames := 0, cells := 0, slots := 0, locals := 0 } : Room).slots) := by
  refine MetFree.of_bodySF (plainFor_of_name pn_1) hisR ?_
  intro p e s m args below meth c s₁ Bd hml0 hP hK
  obtain ⟨rfl, hZ, hh⟩ := hP
  have hx := Bd.exec
  have hby := Bd.bytes
  have hml : c.maxLocals = 1 := hml0
  have hown : s.vm.findClass "com/example/cablegram/cablegram/engine/EnvelopeIsPinLaw" = some m.cls := findClass_of_methodNamed Bd.named
  have hnm := (name_of_methodNamed Bd.named Bd.method).1
  have X0 : Stand p l e ({ frames := 0, cells := 0, slots := 0, locals := 0 } : Room) s m #[(.int p1)] below meth c s₁ [] 0 0 := Stand.of_body Bd
  have e0 : s₁.heap = h0 := by rw [← hh, Bd.state]; rfl
  have N0 := Fr.nil n0
  have pre0 : ∀ t, Steps p.tables e below (s₁.setTop (mkF m 0 #[.val (.int p1)] [])) t → Steps p.tables e below (s₁.setTop (entryFrame m #[(.int p1)] 1)) t := fun t k => castTop (ef_1 m p1) k
  -- 3. LAWS
  obtain ⟨T3, X3, e3, st3⟩ := getS2 X0 hx hZ hown (host := "") (Or.inl (hw _ (List.mem_of_getElem? (i := 51) rfl))) Via.refl e0 S_FLOAT (g := (mkF m 59 #[.val (.int p1)] [])) rfl (hb hby d1_59)
  obtain ⟨fs, hr, hrun, hended, hW, hsame⟩ := X3.leave (v := some (.ref w2)) (fun h => by rw [Bd.returns] at h; cases h)
  refine ⟨_, _, pre0 _ ?_, hrun, hended, _, _, rfl, ?_, ⟨_, rfl⟩, hW, hsame.mono (by decide) (by decide)⟩
  -- 4. STEPS
  · show Steps p.tables e below (s₁.setTop (mkF m 0 #[.val (.int p1)] [])) _
    refine XS.iloadN X0.here hx rfl (hb hby d1_0) rfl ?_
    show Steps p.tables e below (s₁.setTop (mkF m 1 #[.val (.int p1)] [(.int p1)])) _
    refine XS.ifYes X0.here hx rfl (pc0 := 1) (pc' := 8) rfl (hb hby d1_1) rfl ((if0 _ _).trans (feq hc1).2) (by decide) (by decide) ?_
    show Steps p.tables e below (s₁.setTop (mkF m 8 #[.val (.int p1)] [])) _
    refine XS.iloadN X0.here hx rfl (hb hby d1_8) rfl ?_
    show Steps p.tables e below (s₁.setTop (mkF m 9 #[.val (.int p1)] [(.int p1)])) _
    refine XS.iconst X0.here hx rfl (hb hby d1_9) ?_
    show Steps p.tables e below (s₁.setTop (mkF m 10 #[.val (.int p1)] [(.int (1 : Int32)), (.int p1)])) _
    refine XS.icmpYes X0.here hx rfl (pc0 := 10) (pc' := 17) rfl (hb hby d1_10) rfl (feq hc10).2 (by decide) (by decide) ?_
    show Steps p.tables e below (s₁.setTop (mkF m 17 #[.val (.int p1)] [])) _
    refine XS.iloadN X0.here hx rfl (hb hby d1_17) rfl ?_
    show Steps p.tables e below (s₁.setTop (mkF m 18 #[.val (.int p1)] [(.int p1)])) _
    refine XS.iconst X0.here hx rfl (hb hby d1_18) ?_
    show Steps p.tables e below (s₁.setTop (mkF m 19 #[.val (.int p1)] [(.int (2 : Int32)), (.int p1)])) _
    refine XS.icmpYes X0.here hx rfl (pc0 := 19) (pc' := 26) rfl (hb hby d1_19) rfl (feq hc19).2 (by decide) (by decide) ?_
    show Steps p.tables e below (s₁.setTop (mkF m 26 #[.val (.int p1)] [])) _
    refine XS.iloadN X0.here hx rfl (hb hby d1_26) rfl ?_
    show Steps p.tables e below (s₁.setTop (mkF m 27 #[.val (.int p1)] [(.int p1)])) _
    refine XS.iconst X0.here hx rfl (hb hby d1_27) ?_
    show Steps p.tables e below (s₁.setTop (mkF m 28 #[.val (.int p1)] [(.int (3 : Int32)), (.int p1)])) _
    refine XS.icmpYes X0.here hx rfl (pc0 := 28) (pc' := 35) rfl (hb hby d1_28) rfl (feq hc28).2 (by decide) (by decide) ?_
    show Steps p.tables e below (s₁.setTop (mkF m 35 #[.val (.int p1)] [])) _
    refine XS.iloadN X0.here hx rfl (hb hby d1_35) rfl ?_
    show Steps p.tables e below (s₁.setTop (mkF m 36 #[.val (.int p1)] [(.int p1)])) _
    refine XS.iconst X0.here hx rfl (hb hby d1_36) ?_
    show Steps p.tables e below (s₁.setTop (mkF m 37 #[.val (.int p1)] [(.int (4 : Int32)), (.int p1)])) _
    refine XS.icmpYes X0.here hx rfl (pc0 := 37) (pc' := 44) rfl (hb hby d1_37) rfl (feq hc37).2 (by decide) (by decide) ?_
    show Steps p.tables e below (s₁.setTop (mkF m 44 #[.val (.int p1)] [])) _
    refine XS.iloadN X0.here hx rfl (hb hby d1_44) rfl ?_
    show Steps p.tables e below (s₁.setTop (mkF m 45 #[.val (.int p1)] [(.int p1)])) _
    refine XS.iconst X0.here hx rfl (hb hby d1_45) ?_
    show Steps p.tables e below (s₁.setTop (mkF m 46 #[.val (.int p1)] [(.int (5 : Int32)), (.int p1)])) _
    refine XS.icmpYes X0.here hx rfl (pc0 := 46) (pc' := 53) rfl (hb hby d1_46) rfl (feq hc46).2 (by decide) (by decide) ?_
    show Steps p.tables e below (s₁.setTop (mkF m 53 #[.val (.int p1)] [])) _
    refine XS.iloadN X0.here hx rfl (hb hby d1_53) rfl ?_
    show Steps p.tables e below (s₁.setTop (mkF m 54 #[.val (.int p1)] [(.int p1)])) _
    refine XS.bipush X0.here hx rfl (hb hby d1_54) ?_
    show Steps p.tables e below (s₁.setTop (mkF m 56 #[.val (.int p1)] [(.int (6 : Int32)), (.int p1)])) _
    refine XS.icmpNo X0.here hx rfl (hb hby d1_56) rfl (teq hc56).2 ?_
    show Steps p.tables e below (s₁.setTop (mkF m 59 #[.val (.int p1)] [])) _
    refine st3 _ ?_
    show Steps p.tables e below (T3.setTop (mkF m 62 #[.val (.int p1)] [(.ref w2)])) _
    jvm_step X3.here [X3.here.top, hx, (hb hby d1_62), X3.method', Bd.returns, Value.isRef, FieldType.isReference]
    first | (intro acts; rw [hr _ acts rfl rfl rfl]) | rw [hr _ _ rfl rfl rfl]
    exact Steps.refl _
  · show Qv (some (.ref w2)) h0 n0 _ T3.heap _
    rw [e3]
    exact ⟨rfl, N0, rfl⟩
theorem d1_63 : decode method_4_code 63 = .ok (.iload_n 0, 1) := by decide +kernel
theorem d1_64 : decode method_4_code 64 = .ok (.bipush 7, 2) := by decide +kernel
theorem d1_66 : decode method_4_code 66 = .ok (.if_icmp .ne 7, 3) := by decide +kernel
theorem d1_69 : decode method_4_code 69 = .ok (.getstatic 40, 3) := by decide +kernel
theorem d1_72 : decode method_4_code 72 = .ok (.areturn, 1) := by decide +kernel
set_option maxRecDepth 65536 in
set_option maxHeartbeats 40000000 in
theorem rm1_tttttttf (l : Launch) (Z : State) (a0 : Array Value) (hw : ∀ d ∈ tables_1, d.before a0 Z = true) (ws : List Jvm.Cond) (p1 : Int32) (w2 : Addr) (h0 : Heap) (n0 : Nat) (Z0 : n0 ≤ h0.size) (S_DOUBLE : Sta Z h0 "com/example/cablegram/cablegram/engine/ElementType" "DOUBLE" "Lcom/example/cablegram/cablegram/engine/ElementType;" (.ref w2)) (hc1 : ¬ (p1 = (0 : Int32))) (hc10 : ¬ (p1 = (1 : Int32))) (hc19 : ¬ (p1 = (2 : Int32))) (hc28 : ¬ (p1 = (3 : Int32))) (hc37 : ¬ (p1 = (4 : Int32))) (hc46 : ¬ (p1 = (5 : Int32))) (hc56 : ¬ (p1 = (6 : Int32))) (hc66 : p1 = (7 : Int32)) :
    MetFree l (⟨"com/example/cablegram/cablegram/engine/EnvelopeIsPinLaw", "typeOf", "(I)Lcom/example/cablegram/cablegram/engine/ElementType;"⟩ : MethodName) (head1 (Jvm.Cond.code (⟨"com/example/cablegram/cablegram/engine/EnvelopeIsPinLaw", "typeOf", "(I)Lcom/example/cablegram/cablegram/engine/ElementType;"⟩ : MethodName) method_4_code 1 (some (.object "com/example/cablegram/cablegram/engine/ElementType")) :: ws) ({ frames := 0, cells := 0, slots := 0, locals := 0 } : Room)) (fun a U => a = #[(.int p1)] ∧ Z.Warmed39 U.vm ∧ U.heap = h0) (fun _ _ _ _ _ => True) (fun _ U o U' => ∃ v L, o = .returned v ∧ Qv (some (.ref w2)) h0 n0 v U'.heap L ∧ FrameEnd U o U' L ({ frames := 0, cells := 0, slots := 0, locals := 0 } : Room).cells ({ frames := 0, cells := 0, slots := 0, locals := 0 } : Room).slots) := by
  refine MetFree.of_bodySF (plainFor_of_name pn_1) hisR ?_
  intro p e s m args below meth c s₁ Bd hml0 hP hK
  obtain ⟨rfl, hZ, hh⟩ := hP
  have hx := Bd.exec
  have hby := Bd.bytes
  have hml : c.maxLocals = 1 := hml0
  have hown : s.vm.findClass "com/example/cablegram/cablegram/engine/EnvelopeIsPinLaw" = some m.cls := findClass_of_methodNamed Bd.named
  have hnm := (name_of_methodNamed Bd.named Bd.method).1
  have X0 : Stand p l e ({ frames := 0, cells := 0, slots := 0, locals := 0 } : Room) s m #[(.int p1)] below meth c s₁ [] 0 0 := Stand.of_body Bd
  have e0 : s₁.heap = h0 := by rw [← hh, Bd.state]; rfl
  have N0 := Fr.nil n0
  have pre0 : ∀ t, Steps p.tables e below (s₁.setTop (mkF m 0 #[.val (.int p1)] [])) t → Steps p.tables e below (s₁.setTop (entryFrame m #[(.int p1)] 1)) t := fun t k => castTop (ef_1 m p1) k
  -- 3. LAWS
  obtain ⟨T3, X3, e3, st3⟩ := getS2 X0 hx hZ hown (host := "") (Or.inl (hw _ (List.mem_of_getElem? (i := 57) rfl))) Via.refl e0 S_DOUBLE (g := (mkF m 69 #[.val (.int p1)] [])) rfl (hb hby d1_69)
  obtain ⟨fs, hr, hrun, hended, hW, hsame⟩ := X3.leave (v := some (.ref w2)) (fun h => by rw [Bd.returns] at h; cases h)
  refine ⟨_, _, pre0 _ ?_, hrun, hended, _, _, rfl, ?_, ⟨_, rfl⟩, hW, hsame.mono (by decide) (by decide)⟩
  -- 4. STEPS
  · show Steps p.tables e below (s₁.setTop (mkF m 0 #[.val (.int p1)] [])) _
    refine XS.iloadN X0.here hx rfl (hb hby d1_0) rfl ?_
    show Steps p.tables e below (s₁.setTop (mkF m 1 #[.val (.int p1)] [(.int p1)])) _
    refine XS.ifYes X0.here hx rfl (pc0 := 1) (pc' := 8) rfl (hb hby d1_1) rfl ((if0 _ _).trans (feq hc1).2) (by decide) (by decide) ?_
    show Steps p.tables e below (s₁.setTop (mkF m 8 #[.val (.int p1)] [])) _
    refine XS.iloadN X0.here hx rfl (hb hby d1_8) rfl ?_
    show Steps p.tables e below (s₁.setTop (mkF m 9 #[.val (.int p1)] [(.int p1)])) _
    refine XS.iconst X0.here hx rfl (hb hby d1_9) ?_
    show Steps p.tables e below (s₁.setTop (mkF m 10 #[.val (.int p1)] [(.int (1 : Int32)), (.int p1)])) _
    refine XS.icmpYes X0.here hx rfl (pc0 := 10) (pc' := 17) rfl (hb hby d1_10) rfl (feq hc10).2 (by decide) (by decide) ?_
    show Steps p.tables e below (s₁.setTop (mkF m 17 #[.val (.int p1)] [])) _
    refine XS.iloadN X0.here hx rfl (hb hby d1_17) rfl ?_
    show Steps p.tables e below (s₁.setTop (mkF m 18 #[.val (.int p1)] [(.int p1)])) _
    refine XS.iconst X0.here hx rfl (hb hby d1_18) ?_
    show Steps p.tables e below (s₁.setTop (mkF m 19 #[.val (.int p1)] [(.int (2 : Int32)), (.int p1)])) _
    refine XS.icmpYes X0.here hx rfl (pc0 := 19) (pc' := 26) rfl (hb hby d1_19) rfl (feq hc19).2 (by decide) (by decide) ?_
    show Steps p.tables e below (s₁.setTop (mkF m 26 #[.val (.int p1)] [])) _
    refine XS.iloadN X0.here hx rfl (hb hby d1_26) rfl ?_
    show Steps p.tables e below (s₁.setTop (mkF m 27 #[.val (.int p1)] [(.int p1)])) _
    refine XS.iconst X0.here hx rfl (hb hby d1_27) ?_
    show Steps p.tables e below (s₁.setTop (mkF m 28 #[.val (.int p1)] [(.int (3 : Int32)), (.int p1)])) _
    refine XS.icmpYes X0.here hx rfl (pc0 := 28) (pc' := 35) rfl (hb hby d1_28) rfl (feq hc28).2 (by decide) (by decide) ?_
    show Steps p.tables e below (s₁.setTop (mkF m 35 #[.val (.int p1)] [])) _
    refine XS.iloadN X0.here hx rfl (hb hby d1_35) rfl ?_
    show Steps p.tables e below (s₁.setTop (mkF m 36 #[.val (.int p1)] [(.int p1)])) _
    refine XS.iconst X0.here hx rfl (hb hby d1_36) ?_
    show Steps p.tables e below (s₁.setTop (mkF m 37 #[.val (.int p1)] [(.int (4 : Int32)), (.int p1)])) _
    refine XS.icmpYes X0.here hx rfl (pc0 := 37) (pc' := 44) rfl (hb hby d1_37) rfl (feq hc37).2 (by decide) (by decide) ?_
    show Steps p.tables e below (s₁.setTop (mkF m 44 #[.val (.int p1)] [])) _
    refine XS.iloadN X0.here hx rfl (hb hby d1_44) rfl ?_
    show Steps p.tables e below (s₁.setTop (mkF m 45 #[.val (.int p1)] [(.int p1)])) _
    refine XS.iconst X0.here hx rfl (hb hby d1_45) ?_
    show Steps p.tables e below (s₁.setTop (mkF m 46 #[.val (.int p1)] [(.int (5 : Int32)), (.int p1)])) _
    refine XS.icmpYes X0.here hx rfl (pc0 := 46) (pc' := 53) rfl (hb hby d1_46) rfl (feq hc46).2 (by decide) (by decide) ?_
    show Steps p.tables e below (s₁.setTop (mkF m 53 #[.val (.int p1)] [])) _
    refine XS.iloadN X0.here hx rfl (hb hby d1_53) rfl ?_
    show Steps p.tables e below (s₁.setTop (mkF m 54 #[.val (.int p1)] [(.int p1)])) _
    refine XS.bipush X0.here hx rfl (hb hby d1_54) ?_
    show Steps p.tables e below (s₁.setTop (mkF m 56 #[.val (.int p1)] [(.int (6 : Int32)), (.int p1)])) _
    refine XS.icmpYes X0.here hx rfl (pc0 := 56) (pc' := 63) rfl (hb hby d1_56) rfl (feq hc56).2 (by decide) (by decide) ?_
    show Steps p.tables e below (s₁.setTop (mkF m 63 #[.val (.int p1)] [])) _
    refine XS.iloadN X0.here hx rfl (hb hby d1_63) rfl ?_
    show Steps p.tables e below (s₁.setTop (mkF m 64 #[.val (.int p1)] [(.int p1)])) _
    refine XS.bipush X0.here hx rfl (hb hby d1_64) ?_
    show Steps p.tables e below (s₁.setTop (mkF m 66 #[.val (.int p1)] [(.int (7 : Int32)), (.int p1)])) _
    refine XS.icmpNo X0.here hx rfl (hb hby d1_66) rfl (teq hc66).2 ?_
    show Steps p.tables e below (s₁.setTop (mkF m 69 #[.val (.int p1)] [])) _
    refine st3 _ ?_
    show Steps p.tables e below (T3.setTop (mkF m 72 #[.val (.int p1)] [(.ref w2)])) _
    jvm_step X3.here [X3.here.top, hx, (hb hby d1_72), X3.method', Bd.returns, Value.isRef, FieldType.isReference]
    first | (intro acts; rw [hr _ acts rfl rfl rfl]) | rw [hr _ _ rfl rfl rfl]
    exact Steps.refl _
  · show Qv (some (.ref w2)) h0 n0 _ T3.heap _
    rw [e3]
    exact ⟨rfl, N0, rfl⟩
theorem d1_73 : decode method_4_code 73 = .ok (.iload_n 0, 1) := by decide +kernel
theorem d1_74 : decode method_4_code 74 = .ok (.bipush 8, 2) := by decide +kernel
theorem d1_76 : decode method_4_code 76 = .ok (.if_icmp .ne 7, 3) := by decide +kernel
theorem d1_79 : decode method_4_code 79 = .ok (.getstatic 43, 3) := by decide +kernel
theorem d1_82 : decode method_4_code 82 = .ok (.areturn, 1) := by decide +kernel
set_option maxRecDepth 65536 in
set_option maxHeartbeats 40000000 in
theorem rm1_ttttttttf (l : Launch) (Z : State) (a0 : Array Value) (hw : ∀ d ∈ tables_1, d.before a0 Z = true) (ws : List Jvm.Cond) (p1 : Int32) (w2 : Addr) (h0 : Heap) (n0 : Nat) (Z0 : n0 ≤ h0.size) (S_OBJECT : Sta Z h0 "com/example/cablegram/cablegram/engine/ElementType" "OBJECT" "Lcom/example/cablegram/cablegram/engine/ElementType;" (.ref w2)) (hc1 : ¬ (p1 = (0 : Int32))) (hc10 : ¬ (p1 = (1 : Int32))) (hc19 : ¬ (p1 = (2 : Int32))) (hc28 : ¬ (p1 = (3 : Int32))) (hc37 : ¬ (p1 = (4 : Int32))) (hc46 : ¬ (p1 = (5 : Int32))) (hc56 : ¬ (p1 = (6 : Int32))) (hc66 : ¬ (p1 = (7 : Int32))) (hc76 : p1 = (8 : Int32)) :
    MetFree l (⟨"com/example/cablegram/cablegram/engine/EnvelopeIsPinLaw", "typeOf", "(I)Lcom/example/cablegram/cablegram/engine/ElementType;"⟩ : MethodName) (head1 (Jvm.Cond.code (⟨"com/example/cablegram/cablegram/engine/EnvelopeIsPinLaw", "typeOf", "(I)Lcom/example/cablegram/cablegram/engine/ElementType;"⟩ : MethodName) method_4_code 1 (some (.object "com/example/cablegram/cablegram/engine/ElementType")) :: ws) ({ frames := 0, cells := 0, slots := 0, locals := 0 } : Room)) (fun a U => a = #[(.int p1)] ∧ Z.Warmed39 U.vm ∧ U.heap = h0) (fun _ _ _ _ _ => True) (fun _ U o U' => ∃ v L, o = .returned v ∧ Qv (some (.ref w2)) h0 n0 v U'.heap L ∧ FrameEnd U o U' L ({ frames := 0, cells := 0, slots := 0, locals := 0 } : Room).cells ({ frames := 0, cells := 0, slots := 0, locals := 0 } : Room).slots) := by
  refine MetFree.of_bodySF (plainFor_of_name pn_1) hisR ?_
  intro p e s m args below meth c s₁ Bd hml0 hP hK
  obtain ⟨rfl, hZ, hh⟩ := hP
  have hx := Bd.exec
  have hby := Bd.bytes
  have hml : c.maxLocals = 1 := hml0
  have hown : s.vm.findClass "com/example/cablegram/cablegram/engine/EnvelopeIsPinLaw" = some m.cls := findClass_of_methodNamed Bd.named
  have hnm := (name_of_methodNamed Bd.named Bd.method).1
  have X0 : Stand p l e ({ frames := 0, cells := 0, slots := 0, locals := 0 } : Room) s m #[(.int p1)] below meth c s₁ [] 0 0 := Stand.of_body Bd
  have e0 : s₁.heap = h0 := by rw [← hh, Bd.state]; rfl
  have N0 := Fr.nil n0
  have pre0 : ∀ t, Steps p.tables e below (s₁.setTop (mkF m 0 #[.val (.int p1)] [])) t → Steps p.tables e below (s₁.setTop (entryFrame m #[(.int p1)] 1)) t := fun t k => castTop (ef_1 m p1) k
  -- 3. LAWS
  obtain ⟨T3, X3, e3, st3⟩ := getS2 X0 hx hZ hown (host := "") (Or.inl (hw _ (List.mem_of_getElem? (i := 55) rfl))) Via.refl e0 S_OBJECT (g := (mkF m 79 #[.val (.int p1)] [])) rfl (hb hby d1_79)
  obtain ⟨fs, hr, hrun, hended, hW, hsame⟩ := X3.leave (v := some (.ref w2)) (fun h => by rw [Bd.returns] at h; cases h)
  refine ⟨_, _, pre0 _ ?_, hrun, hended, _, _, rfl, ?_, ⟨_, rfl⟩, hW, hsame.mono (by decide) (by decide)⟩
  -- 4. STEPS
  · show Steps p.tables e below (s₁.setTop (mkF m 0 #[.val (.int p1)] [])) _
    refine XS.iloadN X0.here hx rfl (hb hby d1_0) rfl ?_
    show Steps p.tables e below (s₁.setTop (mkF m 1 #[.val (.int p1)] [(.int p1)])) _
    refine XS.ifYes X0.here hx rfl (pc0 := 1) (pc' := 8) rfl (hb hby d1_1) rfl ((if0 _ _).trans (feq hc1).2) (by decide) (by decide) ?_
    show Steps p.tables e below (s₁.setTop (mkF m 8 #[.val (.int p1)] [])) _
    refine XS.iloadN X0.here hx rfl (hb hby d1_8) rfl ?_
    show Steps p.tables e below (s₁.setTop (mkF m 9 #[.val (.int p1)] [(.int p1)])) _
    refine XS.iconst X0.here hx rfl (hb hby d1_9) ?_
    show Steps p.tables e below (s₁.setTop (mkF m 10 #[.val (.int p1)] [(.int (1 : Int32)), (.int p1)])) _
    refine XS.icmpYes X0.here hx rfl (pc0 := 10) (pc' := 17) rfl (hb hby d1_10) rfl (feq hc10).2 (by decide) (by decide) ?_
    show Steps p.tables e below (s₁.setTop (mkF m 17 #[.val (.int p1)] [])) _
    refine XS.iloadN X0.here hx rfl (hb hby d1_17) rfl ?_
    show Steps p.tables e below (s₁.setTop (mkF m 18 #[.val (.int p1)] [(.int p1)])) _
    refine XS.iconst X0.here hx rfl (hb hby d1_18) ?_
    show Steps p.tables e below (s₁.setTop (mkF m 19 #[.val (.int p1)] [(.int (2 : Int32)), (.int p1)])) _
    refine XS.icmpYes X0.here hx rfl (pc0 := 19) (pc' := 26) rfl (hb hby d1_19) rfl (feq hc19).2 (by decide) (by decide) ?_
    show Steps p.tables e below (s₁.setTop (mkF m 26 #[.val (.int p1)] [])) _
    refine XS.iloadN X0.here hx rfl (hb hby d1_26) rfl ?_
    show Steps p.tables e below (s₁.setTop (mkF m 27 #[.val (.int p1)] [(.int p1)])) _
    refine XS.iconst X0.here hx rfl (hb hby d1_27) ?_
    show Steps p.tables e below (s₁.setTop (mkF m 28 #[.val (.int p1)] [(.int (3 : Int32)), (.int p1)])) _
    refine XS.icmpYes X0.here hx rfl (pc0 := 28) (pc' := 35) rfl (hb hby d1_28) rfl (feq hc28).2 (by decide) (by decide) ?_
    show Steps p.tables e below (s₁.setTop (mkF m 35 #[.val (.int p1)] [])) _
    refine XS.iloadN X0.here hx rfl (hb hby d1_35) rfl ?_
    show Steps p.tables e below (s₁.setTop (mkF m 36 #[.val (.int p1)] [(.int p1)])) _
    refine XS.iconst X0.here hx rfl (hb hby d1_36) ?_
    show Steps p.tables e below (s₁.setTop (mkF m 37 #[.val (.int p1)] [(.int (4 : Int32)), (.int p1)])) _
    refine XS.icmpYes X0.here hx rfl (pc0 := 37) (pc' := 44) rfl (hb hby d1_37) rfl (feq hc37).2 (by decide) (by decide) ?_
    show Steps p.tables e below (s₁.setTop (mkF m 44 #[.val (.int p1)] [])) _
    refine XS.iloadN X0.here hx rfl (hb hby d1_44) rfl ?_
    show Steps p.tables e below (s₁.setTop (mkF m 45 #[.val (.int p1)] [(.int p1)])) _
    refine XS.iconst X0.here hx rfl (hb hby d1_45) ?_
    show Steps p.tables e below (s₁.setTop (mkF m 46 #[.val (.int p1)] [(.int (5 : Int32)), (.int p1)])) _
    refine XS.icmpYes X0.here hx rfl (pc0 := 46) (pc' := 53) rfl (hb hby d1_46) rfl (feq hc46).2 (by decide) (by decide) ?_
    show Steps p.tables e below (s₁.setTop (mkF m 53 #[.val (.int p1)] [])) _
    refine XS.iloadN X0.here hx rfl (hb hby d1_53) rfl ?_
    show Steps p.tables e below (s₁.setTop (mkF m 54 #[.val (.int p1)] [(.int p1)])) _
    refine XS.bipush X0.here hx rfl (hb hby d1_54) ?_
    show Steps p.tables e below (s₁.setTop (mkF m 56 #[.val (.int p1)] [(.int (6 : Int32)), (.int p1)])) _
    refine XS.icmpYes X0.here hx rfl (pc0 := 56) (pc' := 63) rfl (hb hby d1_56) rfl (feq hc56).2 (by decide) (by decide) ?_
    show Steps p.tables e below (s₁.setTop (mkF m 63 #[.val (.int p1)] [])) _
    refine XS.iloadN X0.here hx rfl (hb hby d1_63) rfl ?_
    show Steps p.tables e below (s₁.setTop (mkF m 64 #[.val (.int p1)] [(.int p1)])) _
    refine XS.bipush X0.here hx rfl (hb hby d1_64) ?_
    show Steps p.tables e below (s₁.setTop (mkF m 66 #[.val (.int p1)] [(.int (7 : Int32)), (.int p1)])) _
    refine XS.icmpYes X0.here hx rfl (pc0 := 66) (pc' := 73) rfl (hb hby d1_66) rfl (feq hc66).2 (by decide) (by decide) ?_
    show Steps p.tables e below (s₁.setTop (mkF m 73 #[.val (.int p1)] [])) _
    refine XS.iloadN X0.here hx rfl (hb hby d1_73) rfl ?_
    show Steps p.tables e below (s₁.setTop (mkF m 74 #[.val (.int p1)] [(.int p1)])) _
    refine XS.bipush X0.here hx rfl (hb hby d1_74) ?_
    show Steps p.tables e below (s₁.setTop (mkF m 76 #[.val (.int p1)] [(.int (8 : Int32)), (.int p1)])) _
    refine XS.icmpNo X0.here hx rfl (hb hby d1_76) rfl (teq hc76).2 ?_
    show Steps p.tables e below (s₁.setTop (mkF m 79 #[.val (.int p1)] [])) _
    refine st3 _ ?_
    show Steps p.tables e below (T3.setTop (mkF m 82 #[.val (.int p1)] [(.ref w2)])) _
    jvm_step X3.here [X3.here.top, hx, (hb hby d1_82), X3.method', Bd.returns, Value.isRef, FieldType.isReference]
    first | (intro acts; rw [hr _ acts rfl rfl rfl]) | rw [hr _ _ rfl rfl rfl]
    exact Steps.refl _
  · show Qv (some (.ref w2)) h0 n0 _ T3.heap _
    rw [e3]
    exact ⟨rfl, N0, rfl⟩
theorem d1_83 : decode method_4_code 83 = .ok (.getstatic 46, 3) := by decide +kernel
theorem d1_86 : decode method_4_code 86 = .ok (.areturn, 1) := by decide +kernel
set_option maxRecDepth 65536 in
set_option maxHeartbeats 40000000 in
theorem rm1_ttttttttt (l : Launch) (Z : State) (a0 : Array Value) (hw : ∀ d ∈ tables_1, d.before a0 Z = true) (ws : List Jvm.Cond) (p1 : Int32) (w2 : Addr) (h0 : Heap) (n0 : Nat) (Z0 : n0 ≤ h0.size) (S_PACKED : Sta Z h0 "com/example/cablegram/cablegram/engine/ElementType" "PACKED" "Lcom/example/cablegram/cablegram/engine/ElementType;" (.ref w2)) (hc1 : ¬ (p1 = (0 : Int32))) (hc10 : ¬ (p1 = (1 : Int32))) (hc19 : ¬ (p1 = (2 : Int32))) (hc28 : ¬ (p1 = (3 : Int32))) (hc37 : ¬ (p1 = (4 : Int32))) (hc46 : ¬ (p1 = (5 : Int32))) (hc56 : ¬ (p1 = (6 : Int32))) (hc66 : ¬ (p1 = (7 : Int32))) (hc76 : ¬ (p1 = (8 : Int32))) :
    MetFree l (⟨"com/example/cablegram/cablegram/engine/EnvelopeIsPinLaw", "typeOf", "(I)Lcom/example/cablegram/cablegram/engine/ElementType;"⟩ : MethodName) (head1 (Jvm.Cond.code (⟨"com/example/cablegram/cablegram/engine/EnvelopeIsPinLaw", "typeOf", "(I)Lcom/example/cablegram/cablegram/engine/ElementType;"⟩ : MethodName) method_4_code 1 (some (.object "com/example/cablegram/cablegram/engine/ElementType")) :: ws) ({ frames := 0, cells := 0, slots := 0, locals := 0 } : Room)) (fun a U => a = #[(.int p1)] ∧ Z.Warmed39 U.vm ∧ U.heap = h0) (fun _ _ _ _ _ => True) (fun _ U o U' => ∃ v L, o = .returned v ∧ Qv (some (.ref w2)) h0 n0 v U'.heap L ∧ FrameEnd U o U' L ({ frames := 0, cells := 0, slots := 0, locals := 0 } : Room).cells ({ frames := 0, cells := 0, slots := 0, locals := 0 } : Room).slots) := by
  refine MetFree.of_bodySF (plainFor_of_name pn_1) hisR ?_
  intro p e s m args below meth c s₁ Bd hml0 hP hK
  obtain ⟨rfl, hZ, hh⟩ := hP
  have hx := Bd.exec
  have hby := Bd.bytes
  have hml : c.maxLocals = 1 := hml0
  have hown : s.vm.findClass "com/example/cablegram/cablegram/engine/EnvelopeIsPinLaw" = some m.cls := findClass_of_methodNamed Bd.named
  have hnm := (name_of_methodNamed Bd.named Bd.method).1
  have X0 : Stand p l e ({ frames := 0, cells := 0, slots := 0, locals := 0 } : Room) s m #[(.int p1)] below meth c s₁ [] 0 0 := Stand.of_body Bd
  have e0 : s₁.heap = h0 := by rw [← hh, Bd.state]; rfl
  have N0 := Fr.nil n0
  have pre0 : ∀ t, Steps p.tables e below (s₁.setTop (mkF m 0 #[.val (.int p1)] [])) t → Steps p.tables e below (s₁.setTop (entryFrame m #[(.int p1)] 1)) t := fun t k => castTop (ef_1 m p1) k
  -- 3. LAWS
  obtain ⟨T3, X3, e3, st3⟩ := getS2 X0 hx hZ hown (host := "") (Or.inl (hw _ (List.mem_of_getElem? (i := 59) rfl))) Via.refl e0 S_PACKED (g := (mkF m 83 #[.val (.int p1)] [])) rfl (hb hby d1_83)
  obtain ⟨fs, hr, hrun, hended, hW, hsame⟩ := X3.leave (v := some (.ref w2)) (fun h => by rw [Bd.returns] at h; cases h)
  refine ⟨_, _, pre0 _ ?_, hrun, hended, _, _, rfl, ?_, ⟨_, rfl⟩, hW, hsame.mono (by decide) (by decide)⟩
  -- 4. STEPS
  · show Steps p.tables e below (s₁.setTop (mkF m 0 #[.val (.int p1)] [])) _
    refine XS.iloadN X0.here hx rfl (hb hby d1_0) rfl ?_
    show Steps p.tables e below (s₁.setTop (mkF m 1 #[.val (.int p1)] [(.int p1)])) _
    refine XS.ifYes X0.here hx rfl (pc0 := 1) (pc' := 8) rfl (hb hby d1_1) rfl ((if0 _ _).trans (feq hc1).2) (by decide) (by decide) ?_
    show Steps p.tables e below (s₁.setTop (mkF m 8 #[.val (.int p1)] [])) _
    refine XS.iloadN X0.here hx rfl (hb hby d1_8) rfl ?_
    show Steps p.tables e below (s₁.setTop (mkF m 9 #[.val (.int p1)] [(.int p1)])) _
    refine XS.iconst X0.here hx rfl (hb hby d1_9) ?_
    show Steps p.tables e below (s₁.setTop (mkF m 10 #[.val (.int p1)] [(.int (1 : Int32)), (.int p1)])) _
    refine XS.icmpYes X0.here hx rfl (pc0 := 10) (pc' := 17) rfl (hb hby d1_10) rfl (feq hc10).2 (by decide) (by decide) ?_
    show Steps p.tables e below (s₁.setTop (mkF m 17 #[.val (.int p1)] [])) _
    refine XS.iloadN X0.here hx rfl (hb hby d1_17) rfl ?_
    show Steps p.tables e below (s₁.setTop (mkF m 18 #[.val (.int p1)] [(.int p1)])) _
    refine XS.iconst X0.here hx rfl (hb hby d1_18) ?_
    show Steps p.tables e below (s₁.setTop (mkF m 19 #[.val (.int p1)] [(.int (2 : Int32)), (.int p1)])) _
    refine XS.icmpYes X0.here hx rfl (pc0 := 19) (pc' := 26) rfl (hb hby d1_19) rfl (feq hc19).2 (by decide) (by decide) ?_
    show Steps p.tables e below (s₁.setTop (mkF m 26 #[.val (.int p1)] [])) _
    refine XS.iloadN X0.here hx rfl (hb hby d1_26) rfl ?_
    show Steps p.tables e below (s₁.setTop (mkF m 27 #[.val (.int p1)] [(.int p1)])) _
    refine XS.iconst X0.here hx rfl (hb hby d1_27) ?_
    show Steps p.tables e below (s₁.setTop (mkF m 28 #[.val (.int p1)] [(.int (3 : Int32)), (.int p1)])) _
    refine XS.icmpYes X0.here hx rfl (pc0 := 28) (pc' := 35) rfl (hb hby d1_28) rfl (feq hc28).2 (by decide) (by decide) ?_
    show Steps p.tables e below (s₁.setTop (mkF m 35 #[.val (.int p1)] [])) _
    refine XS.iloadN X0.here hx rfl (hb hby d1_35) rfl ?_
    show Steps p.tables e below (s₁.setTop (mkF m 36 #[.val (.int p1)] [(.int p1)])) _
    refine XS.iconst X0.here hx rfl (hb hby d1_36) ?_
    show Steps p.tables e below (s₁.setTop (mkF m 37 #[.val (.int p1)] [(.int (4 : Int32)), (.int p1)])) _
    refine XS.icmpYes X0.here hx rfl (pc0 := 37) (pc' := 44) rfl (hb hby d1_37) rfl (feq hc37).2 (by decide) (by decide) ?_
    show Steps p.tables e below (s₁.setTop (mkF m 44 #[.val (.int p1)] [])) _
    refine XS.iloadN X0.here hx rfl (hb hby d1_44) rfl ?_
    show Steps p.tables e below (s₁.setTop (mkF m 45 #[.val (.int p1)] [(.int p1)])) _
    refine XS.iconst X0.here hx rfl (hb hby d1_45) ?_
    show Steps p.tables e below (s₁.setTop (mkF m 46 #[.val (.int p1)] [(.int (5 : Int32)), (.int p1)])) _
    refine XS.icmpYes X0.here hx rfl (pc0 := 46) (pc' := 53) rfl (hb hby d1_46) rfl (feq hc46).2 (by decide) (by decide) ?_
    show Steps p.tables e below (s₁.setTop (mkF m 53 #[.val (.int p1)] [])) _
    refine XS.iloadN X0.here hx rfl (hb hby d1_53) rfl ?_
    show Steps p.tables e below (s₁.setTop (mkF m 54 #[.val (.int p1)] [(.int p1)])) _
    refine XS.bipush X0.here hx rfl (hb hby d1_54) ?_
    show Steps p.tables e below (s₁.setTop (mkF m 56 #[.val (.int p1)] [(.int (6 : Int32)), (.int p1)])) _
    refine XS.icmpYes X0.here hx rfl (pc0 := 56) (pc' := 63) rfl (hb hby d1_56) rfl (feq hc56).2 (by decide) (by decide) ?_
    show Steps p.tables e below (s₁.setTop (mkF m 63 #[.val (.int p1)] [])) _
    refine XS.iloadN X0.here hx rfl (hb hby d1_63) rfl ?_
    show Steps p.tables e below (s₁.setTop (mkF m 64 #[.val (.int p1)] [(.int p1)])) _
    refine XS.bipush X0.here hx rfl (hb hby d1_64) ?_
    show Steps p.tables e below (s₁.setTop (mkF m 66 #[.val (.int p1)] [(.int (7 : Int32)), (.int p1)])) _
    refine XS.icmpYes X0.here hx rfl (pc0 := 66) (pc' := 73) rfl (hb hby d1_66) rfl (feq hc66).2 (by decide) (by decide) ?_
    show Steps p.tables e below (s₁.setTop (mkF m 73 #[.val (.int p1)] [])) _
    refine XS.iloadN X0.here hx rfl (hb hby d1_73) rfl ?_
    show Steps p.tables e below (s₁.setTop (mkF m 74 #[.val (.int p1)] [(.int p1)])) _
    refine XS.bipush X0.here hx rfl (hb hby d1_74) ?_
    show Steps p.tables e below (s₁.setTop (mkF m 76 #[.val (.int p1)] [(.int (8 : Int32)), (.int p1)])) _
    refine XS.icmpYes X0.here hx rfl (pc0 := 76) (pc' := 83) rfl (hb hby d1_76) rfl (feq hc76).2 (by decide) (by decide) ?_
    show Steps p.tables e below (s₁.setTop (mkF m 83 #[.val (.int p1)] [])) _
    refine st3 _ ?_
    show Steps p.tables e below (T3.setTop (mkF m 86 #[.val (.int p1)] [(.ref w2)])) _
    jvm_step X3.here [X3.here.top, hx, (hb hby d1_86), X3.method', Bd.returns, Value.isRef, FieldType.isReference]
    first | (intro acts; rw [hr _ acts rfl rfl rfl]) | rw [hr _ _ rfl rfl rfl]
    exact Steps.refl _
  · show Qv (some (.ref w2)) h0 n0 _ T3.heap _
    rw [e3]
    exact ⟨rfl, N0, rfl⟩
theorem own_typ (l : Launch) (Z : State) (a0 : Array Value) (hw : ∀ d ∈ tables_1, d.before a0 Z = true) (h0 : Heap) (n0 : Nat) (Z0 : n0 ≤ h0.size) (k_BYTE : Addr) (S_BYTE : Sta Z h0 "com/example/cablegram/cablegram/engine/ElementType" "BYTE" "Lcom/example/cablegram/cablegram/engine/ElementType;" (.ref k_BYTE)) (E_BYTE : Exa Z h0 k_BYTE "com/example/cablegram/cablegram/engine/ElementType$1") (k_CHAR : Addr) (S_CHAR : Sta Z h0 "com/example/cablegram/cablegram/engine/ElementType" "CHAR" "Lcom/example/cablegram/cablegram/engine/ElementType;" (.ref k_CHAR)) (E_CHAR : Exa Z h0 k_CHAR "com/example/cablegram/cablegram/engine/ElementType$2") (k_SHORT : Addr) (S_SHORT : Sta Z h0 "com/example/cablegram/cablegram/engine/ElementType" "SHORT" "Lcom/example/cablegram/cablegram/engine/ElementType;" (.ref k_SHORT)) (E_SHORT : Exa Z h0 k_SHORT "com/example/cablegram/cablegram/engine/ElementType$3") (k_BOOLEAN : Addr) (S_BOOLEAN : Sta Z h0 "com/example/cablegram/cablegram/engine/ElementType" "BOOLEAN" "Lcom/example/cablegram/cablegram/engine/ElementType;" (.ref k_BOOLEAN)) (E_BOOLEAN : Exa Z h0 k_BOOLEAN "com/example/cablegram/cablegram/engine/ElementType$4") (k_INT : Addr) (S_INT : Sta Z h0 "com/example/cablegram/cablegram/engine/ElementType" "INT" "Lcom/example/cablegram/cablegram/engine/ElementType;" (.ref k_INT)) (E_INT : Exa Z h0 k_INT "com/example/cablegram/cablegram/engine/ElementType$5") (k_LONG : Addr) (S_LONG : Sta Z h0 "com/example/cablegram/cablegram/engine/ElementType" "LONG" "Lcom/example/cablegram/cablegram/engine/ElementType;" (.ref k_LONG)) (E_LONG : Exa Z h0 k_LONG "com/example/cablegram/cablegram/engine/ElementType$6") (k_FLOAT : Addr) (S_FLOAT : Sta Z h0 "com/example/cablegram/cablegram/engine/ElementType" "FLOAT" "Lcom/example/cablegram/cablegram/engine/ElementType;" (.ref k_FLOAT)) (E_FLOAT : Exa Z h0 k_FLOAT "com/example/cablegram/cablegram/engine/ElementType$7") (k_DOUBLE : Addr) (S_DOUBLE : Sta Z h0 "com/example/cablegram/cablegram/engine/ElementType" "DOUBLE" "Lcom/example/cablegram/cablegram/engine/ElementType;" (.ref k_DOUBLE)) (E_DOUBLE : Exa Z h0 k_DOUBLE "com/example/cablegram/cablegram/engine/ElementType$8") (k_OBJECT : Addr) (S_OBJECT : Sta Z h0 "com/example/cablegram/cablegram/engine/ElementType" "OBJECT" "Lcom/example/cablegram/cablegram/engine/ElementType;" (.ref k_OBJECT)) (E_OBJECT : Exa Z h0 k_OBJECT "com/example/cablegram/cablegram/engine/ElementType$9") (k_PACKED : Addr) (S_PACKED : Sta Z h0 "com/example/cablegram/cablegram/engine/ElementType" "PACKED" "Lcom/example/cablegram/cablegram/engine/ElementType;" (.ref k_PACKED)) (E_PACKED : Exa Z h0 k_PACKED "com/example/cablegram/cablegram/engine/ElementType$10") (n : Fin 10) : ∃ a : Addr, MetFree l (⟨"com/example/cablegram/cablegram/engine/EnvelopeIsPinLaw", "typeOf", "(I)Lcom/example/cablegram/cablegram/engine/ElementType;"⟩ : MethodName) (head1 (Jvm.Cond.code (⟨"com/example/cablegram/cablegram/engine/EnvelopeIsPinLaw", "typeOf", "(I)Lcom/example/cablegram/cablegram/engine/ElementType;"⟩ : MethodName) method_4_code 1 (some (.object "com/example/cablegram/cablegram/engine/ElementType")) :: []) ({ frames := 0, cells := 0, slots := 0, locals := 0 } : Room)) (fun a U => a = #[(.int (own_i n))] ∧ Z.Warmed39 U.vm ∧ U.heap = h0) (fun _ _ _ _ _ => True) (fun _ U o U' => ∃ v L, o = .returned v ∧ Qv (some (.ref a)) h0 n0 v U'.heap L ∧ FrameEnd U o U' L ({ frames := 0, cells := 0, slots := 0, locals := 0 } : Room).cells ({ frames := 0, cells := 0, slots := 0, locals := 0 } : Room).slots) ∧ Exa Z h0 a (own_cls n) := by
  match n with
  | ⟨0, _⟩ => exact ⟨k_BYTE, rm1_f l Z a0 hw [] _ k_BYTE h0 n0 Z0 S_BYTE (by show Int32.ofNat 0 = (0 : Int32); decide), E_BYTE⟩
  | ⟨1, _⟩ => exact ⟨k_CHAR, rm1_tf l Z a0 hw [] _ k_CHAR h0 n0 Z0 S_CHAR (by show ¬ (Int32.ofNat 1 = (0 : Int32)); decide) (by show Int32.ofNat 1 = (1 : Int32); decide), E_CHAR⟩
  | ⟨2, _⟩ => exact ⟨k_SHORT, rm1_ttf l Z a0 hw [] _ k_SHORT h0 n0 Z0 S_SHORT (by show ¬ (Int32.ofNat 2 = (0 : Int32)); decide) (by show ¬ (Int32.ofNat 2 = (1 : Int32)); decide) (by show Int32.ofNat 2 = (2 : Int32); decide), E_SHORT⟩
  | ⟨3, _⟩ => exact ⟨k_BOOLEAN, rm1_tttf l Z a0 hw [] _ k_BOOLEAN h0 n0 Z0 S_BOOLEAN (by show ¬ (Int32.ofNat 3 = (0 : Int32)); decide) (by show ¬ (Int32.ofNat 3 = (1 : Int32)); decide) (by show ¬ (Int32.ofNat 3 = (2 : Int32)); decide) (by show Int32.ofNat 3 = (3 : Int32); decide), E_BOOLEAN⟩
  | ⟨4, _⟩ => exact ⟨k_INT, rm1_ttttf l Z a0 hw [] _ k_INT h0 n0 Z0 S_INT (by show ¬ (Int32.ofNat 4 = (0 : Int32)); decide) (by show ¬ (Int32.ofNat 4 = (1 : Int32)); decide) (by show ¬ (Int32.ofNat 4 = (2 : Int32)); decide) (by show ¬ (Int32.ofNat 4 = (3 : Int32)); decide) (by show Int32.ofNat 4 = (4 : Int32); decide), E_INT⟩
  | ⟨5, _⟩ => exact ⟨k_LONG, rm1_tttttf l Z a0 hw [] _ k_LONG h0 n0 Z0 S_LONG (by show ¬ (Int32.ofNat 5 = (0 : Int32)); decide) (by show ¬ (Int32.ofNat 5 = (1 : Int32)); decide) (by show ¬ (Int32.ofNat 5 = (2 : Int32)); decide) (by show ¬ (Int32.ofNat 5 = (3 : Int32)); decide) (by show ¬ (Int32.ofNat 5 = (4 : Int32)); decide) (by show Int32.ofNat 5 = (5 : Int32); decide), E_LONG⟩
  | ⟨6, _⟩ => exact ⟨k_FLOAT, rm1_ttttttf l Z a0 hw [] _ k_FLOAT h0 n0 Z0 S_FLOAT (by show ¬ (Int32.ofNat 6 = (0 : Int32)); decide) (by show ¬ (Int32.ofNat 6 = (1 : Int32)); decide) (by show ¬ (Int32.ofNat 6 = (2 : Int32)); decide) (by show ¬ (Int32.ofNat 6 = (3 : Int32)); decide) (by show ¬ (Int32.ofNat 6 = (4 : Int32)); decide) (by show ¬ (Int32.ofNat 6 = (5 : Int32)); decide) (by show Int32.ofNat 6 = (6 : Int32); decide), E_FLOAT⟩
  | ⟨7, _⟩ => exact ⟨k_DOUBLE, rm1_tttttttf l Z a0 hw [] _ k_DOUBLE h0 n0 Z0 S_DOUBLE (by show ¬ (Int32.ofNat 7 = (0 : Int32)); decide) (by show ¬ (Int32.ofNat 7 = (1 : Int32)); decide) (by show ¬ (Int32.ofNat 7 = (2 : Int32)); decide) (by show ¬ (Int32.ofNat 7 = (3 : Int32)); decide) (by show ¬ (Int32.ofNat 7 = (4 : Int32)); decide) (by show ¬ (Int32.ofNat 7 = (5 : Int32)); decide) (by show ¬ (Int32.ofNat 7 = (6 : Int32)); decide) (by show Int32.ofNat 7 = (7 : Int32); decide), E_DOUBLE⟩
  | ⟨8, _⟩ => exact ⟨k_OBJECT, rm1_ttttttttf l Z a0 hw [] _ k_OBJECT h0 n0 Z0 S_OBJECT (by show ¬ (Int32.ofNat 8 = (0 : Int32)); decide) (by show ¬ (Int32.ofNat 8 = (1 : Int32)); decide) (by show ¬ (Int32.ofNat 8 = (2 : Int32)); decide) (by show ¬ (Int32.ofNat 8 = (3 : Int32)); decide) (by show ¬ (Int32.ofNat 8 = (4 : Int32)); decide) (by show ¬ (Int32.ofNat 8 = (5 : Int32)); decide) (by show ¬ (Int32.ofNat 8 = (6 : Int32)); decide) (by show ¬ (Int32.ofNat 8 = (7 : Int32)); decide) (by show Int32.ofNat 8 = (8 : Int32); decide), E_OBJECT⟩
  | ⟨9, _⟩ => exact ⟨k_PACKED, rm1_ttttttttt l Z a0 hw [] _ k_PACKED h0 n0 Z0 S_PACKED (by show ¬ (Int32.ofNat 9 = (0 : Int32)); decide) (by show ¬ (Int32.ofNat 9 = (1 : Int32)); decide) (by show ¬ (Int32.ofNat 9 = (2 : Int32)); decide) (by show ¬ (Int32.ofNat 9 = (3 : Int32)); decide) (by show ¬ (Int32.ofNat 9 = (4 : Int32)); decide) (by show ¬ (Int32.ofNat 9 = (5 : Int32)); decide) (by show ¬ (Int32.ofNat 9 = (6 : Int32)); decide) (by show ¬ (Int32.ofNat 9 = (7 : Int32)); decide) (by show ¬ (Int32.ofNat 9 = (8 : Int32)); decide), E_PACKED⟩
theorem d3_0 : decode jdk_30_method_1_code 0 = .ok (.aload_n 0, 1) := by decide +kernel
theorem d3_1 : decode jdk_30_method_1_code 1 = .ok (.invokespecial 1, 3) := by decide +kernel
theorem d3_4 : decode jdk_30_method_1_code 4 = .ok (.return_, 1) := by decide +kernel
theorem pn_3 : plainName "java/lang/Record" = true := by first | (simp [plainName, overriddenIn]; done) | decide +kernel
theorem ef_3 (m : MethodId) (x0 : Addr) : entryFrame m #[(.ref x0)] 1 = mkF m 0 #[.val (.ref x0)] [] := by first | (simp [entryFrame, mkF, argsToLocals, Value.category]; done) | rfl
set_option maxRecDepth 65536 in
set_option maxHeartbeats 40000000 in
theorem rm3 (l : Launch) (Z : State) (a0 : Array Value) (hw : ∀ d ∈ tables_1, d.before a0 Z = true) (ws : List Jvm.Cond) (a1 : Addr) (h0 : Heap) (n0 : Nat) (Z0 : n0 ≤ h0.size) :
    MetFree l (⟨"java/lang/Record", "<init>", "()V"⟩ : MethodName) (head1 (Jvm.Cond.code (⟨"java/lang/Record", "<init>", "()V"⟩ : MethodName) jdk_30_method_1_code 1 none :: ws) ({ frames := 1, cells := 0, slots := 0, locals := 12 } : Room)) (fun a U => a = #[(.ref a1)] ∧ Z.Warmed39 U.vm ∧ U.heap = h0) (fun _ _ _ _ _ => True) (fun _ U o U' => ∃ v L, o = .returned v ∧ Qv (none) h0 n0 v U'.heap L ∧ FrameEnd U o U' L ({ frames := 1, cells := 0, slots := 0, locals := 12 } : Room).cells ({ frames := 1, cells := 0, slots := 0, locals := 12 } : Room).slots) := by
  refine MetFree.of_bodySF (plainFor_of_name pn_3) hisR ?_
  intro p e s m args below meth c s₁ Bd hml0 hP hK
  obtain ⟨rfl, hZ, hh⟩ := hP
  have hx := Bd.exec
  have hby := Bd.bytes
  have hml : c.maxLocals = 1 := hml0
  have hown : s.vm.findClass "java/lang/Record" = some m.cls := findClass_of_methodNamed Bd.named
  have hnm := (name_of_methodNamed Bd.named Bd.method).1
  have X0 : Stand p l e ({ frames := 1, cells := 0, slots := 0, locals := 12 } : Room) s m #[(.ref a1)] below meth c s₁ [] 0 0 := Stand.of_body Bd
  have e0 : s₁.heap = h0 := by rw [← hh, Bd.state]; rfl
  have N0 := Fr.nil n0
  have pre0 : ∀ t, Steps p.tables e below (s₁.setTop (mkF m 0 #[.val (.ref a1)] [])) t → Steps p.tables e below (s₁.setTop (entryFrame m #[(.ref a1)] 1)) t := fun t k => castTop (ef_3 m a1) k
  -- 3. LAWS
  obtain ⟨T2, X2, e2, st2⟩ := initO X0 hx hZ hown (hw _ (List.mem_of_getElem? (i := 18) rfl)) (hw _ (List.mem_of_getElem? (i := 19) rfl)) (hw _ (List.mem_of_getElem? (i := 20) rfl)) e0 (g := (mkF m 1 #[.val (.ref a1)] [(.ref a1)])) rfl (by rw [hml]; rfl) rfl (hb hby d3_1) (by decide) (W := 0) (by show 2 * 0 + _ ≤ _; exact Nat.le_of_eq rfl) (by decide)
  obtain ⟨fs, hr, hrun, hended, hW, hsame⟩ := X2.leave (v := none) (fun _ => rfl)
  refine ⟨_, _, pre0 _ ?_, hrun, hended, _, _, rfl, ?_, ⟨_, rfl⟩, hW, hsame.mono (by decide) (by decide)⟩
  -- 4. STEPS
  · show Steps p.tables e below (s₁.setTop (mkF m 0 #[.val (.ref a1)] [])) _
    refine XS.aloadN X0.here hx rfl (hb hby d3_0) rfl rfl ?_
    show Steps p.tables e below (s₁.setTop (mkF m 1 #[.val (.ref a1)] [(.ref a1)])) _
    refine st2 _ ?_
    show Steps p.tables e below (T2.setTop (mkF m 4 #[.val (.ref a1)] [])) _
    exact X2.returnOut hx Bd.returns (hb hby d3_4) hr
  · show Qv (none) h0 n0 _ T2.heap _
    rw [e2]
    exact ⟨rfl, N0, rfl⟩
theorem d2_0 : decode prog_30_method_2_code 0 = .ok (.aload_n 0, 1) := by decide +kernel
theorem d2_1 : decode prog_30_method_2_code 1 = .ok (.invokespecial 3, 3) := by decide +kernel
theorem d2_4 : decode prog_30_method_2_code 4 = .ok (.aload_n 0, 1) := by decide +kernel
theorem d2_5 : decode prog_30_method_2_code 5 = .ok (.iload_n 1, 1) := by decide +kernel
theorem d2_6 : decode prog_30_method_2_code 6 = .ok (.putfield 9, 3) := by decide +kernel
theorem d2_9 : decode prog_30_method_2_code 9 = .ok (.aload_n 0, 1) := by decide +kernel
theorem d2_10 : decode prog_30_method_2_code 10 = .ok (.lload_n 2, 1) := by decide +kernel
theorem d2_11 : decode prog_30_method_2_code 11 = .ok (.putfield 15, 3) := by decide +kernel
theorem d2_14 : decode prog_30_method_2_code 14 = .ok (.aload_n 0, 1) := by decide +kernel
theorem d2_15 : decode prog_30_method_2_code 15 = .ok (.iload 4, 2) := by decide +kernel
theorem d2_17 : decode prog_30_method_2_code 17 = .ok (.putfield 19, 3) := by decide +kernel
theorem d2_20 : decode prog_30_method_2_code 20 = .ok (.aload_n 0, 1) := by decide +kernel
theorem d2_21 : decode prog_30_method_2_code 21 = .ok (.aload 5, 2) := by decide +kernel
theorem d2_23 : decode prog_30_method_2_code 23 = .ok (.putfield 22, 3) := by decide +kernel
theorem d2_26 : decode prog_30_method_2_code 26 = .ok (.aload_n 0, 1) := by decide +kernel
theorem d2_27 : decode prog_30_method_2_code 27 = .ok (.iload 6, 2) := by decide +kernel
theorem d2_29 : decode prog_30_method_2_code 29 = .ok (.putfield 26, 3) := by decide +kernel
theorem d2_32 : decode prog_30_method_2_code 32 = .ok (.aload_n 0, 1) := by decide +kernel
theorem d2_33 : decode prog_30_method_2_code 33 = .ok (.iload 7, 2) := by decide +kernel
theorem d2_35 : decode prog_30_method_2_code 35 = .ok (.putfield 29, 3) := by decide +kernel
theorem d2_38 : decode prog_30_method_2_code 38 = .ok (.return_, 1) := by decide +kernel
theorem pn_2 : plainName "com/example/cablegram/cablegram/engine/Envelope" = true := by first | (simp [plainName, overriddenIn]; done) | decide +kernel
theorem pd_2_2 : parseMethodDescriptor "()V" = some ⟨[], none⟩ := by decide +kernel
theorem ef_2 (m : MethodId) (x0 : Addr) (x1 : Int32) (x2 : Int64) (x3 : Int32) (x4 : Addr) (x5 : Int32) (x6 : Int32) : entryFrame m #[(.ref x0), (.int x1), (.long x2), (.int x3), (.ref x4), (.int x5), (.int x6)] 8 = mkF m 0 #[.val (.ref x0), .val (.int x1), .val (.long x2), .second, .val (.int x3), .val (.ref x4), .val (.int x5), .val (.int x6)] [] := by first | (simp [entryFrame, mkF, argsToLocals, Value.category]; done) | rfl
set_option maxRecDepth 65536 in
set_option maxHeartbeats 40000000 in
theorem rm2 (l : Launch) (Z : State) (a0 : Array Value) (hw : ∀ d ∈ tables_1, d.before a0 Z = true) (ws : List Jvm.Cond) (a1 : Addr) (p2 : Int32) (q3 : Int64) (p4 : Int32) (a5 : Addr) (p6 : Int32) (p7 : Int32) (u_source_a1 : Value) (u_context_a1 : Value) (u_tag_a1 : Value) (u_type_a1 : Value) (u_count_a1 : Value) (u_entries_a1 : Value) (h0 : Heap) (n0 : Nat) (Z0 : n0 ≤ h0.size) (E_a1 : Exa Z h0 a1 "com/example/cablegram/cablegram/engine/Envelope") (F_source_a1 : Fld Z h0 a1 "com/example/cablegram/cablegram/engine/Envelope" "source" "I" u_source_a1) (g_a1 : n0 ≤ a1) (F_context_a1 : Fld Z h0 a1 "com/example/cablegram/cablegram/engine/Envelope" "context" "J" u_context_a1) (F_tag_a1 : Fld Z h0 a1 "com/example/cablegram/cablegram/engine/Envelope" "tag" "I" u_tag_a1) (F_type_a1 : Fld Z h0 a1 "com/example/cablegram/cablegram/engine/Envelope" "type" "Lcom/example/cablegram/cablegram/engine/ElementType;" u_type_a1) (F_count_a1 : Fld Z h0 a1 "com/example/cablegram/cablegram/engine/Envelope" "count" "I" u_count_a1) (F_entries_a1 : Fld Z h0 a1 "com/example/cablegram/cablegram/engine/Envelope" "entries" "I" u_entries_a1) :
    MetFree l (⟨"com/example/cablegram/cablegram/engine/Envelope", "<init>", "(IJILcom/example/cablegram/cablegram/engine/ElementType;II)V"⟩ : MethodName) (head1 (Jvm.Cond.code (⟨"com/example/cablegram/cablegram/engine/Envelope", "<init>", "(IJILcom/example/cablegram/cablegram/engine/ElementType;II)V"⟩ : MethodName) prog_30_method_2_code 8 none :: ws) ({ frames := 2, cells := 0, slots := 0, locals := 24 } : Room)) (fun a U => a = #[(.ref a1), (.int p2), (.long q3), (.int p4), (.ref a5), (.int p6), (.int p7)] ∧ Z.Warmed39 U.vm ∧ U.heap = h0) (fun _ _ _ _ _ => True) (fun _ U o U' => ∃ v L, o = .returned v ∧ Qe Z a1 p2 q3 p4 a5 p6 p7 h0 n0 v U'.heap L ∧ FrameEnd U o U' L ({ frames := 2, cells := 0, slots := 0, locals := 24 } : Room).cells ({ frames := 2, cells := 0, slots := 0, locals := 24 } : Room).slots) := by
  refine MetFree.of_bodySF (plainFor_of_name pn_2) hisR ?_
  intro p e s m args below meth c s₁ Bd hml0 hP hK
  obtain ⟨rfl, hZ, hh⟩ := hP
  have hx := Bd.exec
  have hby := Bd.bytes
  have hml : c.maxLocals = 8 := hml0
  have hown : s.vm.findClass "com/example/cablegram/cablegram/engine/Envelope" = some m.cls := findClass_of_methodNamed Bd.named
  have hnm := (name_of_methodNamed Bd.named Bd.method).1
  have X0 : Stand p l e ({ frames := 2, cells := 0, slots := 0, locals := 24 } : Room) s m #[(.ref a1), (.int p2), (.long q3), (.int p4), (.ref a5), (.int p6), (.int p7)] below meth c s₁ [] 0 0 := Stand.of_body Bd
  have e0 : s₁.heap = h0 := by rw [← hh, Bd.state]; rfl
  have N0 := Fr.nil n0
  have pre0 : ∀ t, Steps p.tables e below (s₁.setTop (mkF m 0 #[.val (.ref a1), .val (.int p2), .val (.long q3), .second, .val (.int p4), .val (.ref a5), .val (.int p6), .val (.int p7)] [])) t → Steps p.tables e below (s₁.setTop (entryFrame m #[(.ref a1), (.int p2), (.long q3), (.int p4), (.ref a5), (.int p6), (.int p7)] 8)) t := fun t k => castTop (ef_2 m a1 p2 q3 p4 a5 p6 p7) k
  -- 3. LAWS
  -- pc 1: the constructor of java/lang/Record by its contract rm3
  obtain ⟨_, _, ⟨T8, L8, k8, n8⟩, -, X8, ⟨Lc8, hQ8, l8, y8, z8⟩, st8⟩ := X0.specialBack hx (y := (⟨"java/lang/Record", "<init>", "()V"⟩ : MethodName)) rfl hown (mvT hZ (hw _ (List.mem_of_getElem? (i := 13) rfl))) (mvT hZ (hw _ (List.mem_of_getElem? (i := 14) rfl))) (mvT hZ (hw _ (List.mem_of_getElem? (i := 17) rfl))) (by decide) (backOf (W := 0) (rm3 l Z a0 hw [] a1 h0 n0 Z0) hZ (hw _ (List.mem_of_getElem? (i := 17) rfl)) (hw _ (List.mem_of_getElem? (i := 16) rfl)) (by decide) (by decide)) (g := (mkF m 1 #[.val (.ref a1), .val (.int p2), .val (.long q3), .second, .val (.int p4), .val (.ref a5), .val (.int p6), .val (.int p7)] [(.ref a1)])) rfl (by rw [hml]; rfl) (Steps.refl _) (a := a1) (argsL := []) (rest := []) (lenOf pd_2_2 rfl) rfl (by show 2 * 0 + _ ≤ _; exact Nat.le_of_eq rfl) (hb hby d2_1) (fun _ _ => ⟨rfl, e0, (by decide : 0 + 0 ≤ _), (by decide : 0 + 0 ≤ _)⟩)
  dsimp only [Pt.U, Pt.locs, Pt.cells, Pt.slots] at X8 l8 y8 z8 st8 hQ8
  subst l8 y8 z8
  obtain ⟨rfl, N8q, e8⟩ := hQ8
  have N8 := Fr.app N0 N8q
  have Kc8 : Keep h0 T8.heap [] := own_kp e8
  have Kh8 : Keep h0 T8.heap [a1] := e8 ▸ Keep.refl _ _
  obtain ⟨T9, h9, X9, e9, W9, st9⟩ := putF X8 hx hZ hown (host := "") (Or.inl (hw _ (List.mem_of_getElem? (i := 21) rfl))) Via.refl rfl (F_source_a1.keep Kc8 nin0) (E_a1.keep Kc8) (Or.inr ⟨(hw _ (List.mem_of_getElem? (i := 22) rfl)), rfl, hnm⟩) (hw _ (List.mem_of_getElem? (i := 8) rfl)) (ty := .int) (by decide) rfl rfl (g := (mkF m 6 #[.val (.ref a1), .val (.int p2), .val (.long q3), .second, .val (.int p4), .val (.ref a5), .val (.int p6), .val (.int p7)] [(.int p2), (.ref a1)])) rfl rfl (hb hby d2_6)
  have Fw9 := (F_source_a1.keep Kc8 nin0).same W9      -- the field now holds (.int p2)
  have K9 : Keep h0 h9 [a1] := Kh8.wr W9 (Or.inl (List.mem_of_getElem? (i := 0) rfl))
  have N9 := Fr.snoc X9 N8 g_a1
  obtain ⟨T10, h10, X10, e10, W10, st10⟩ := putF X9 hx hZ hown (host := "") (Or.inl (hw _ (List.mem_of_getElem? (i := 23) rfl))) Via.refl e9 ((F_context_a1.keep Kc8 nin0).other W9 (Or.inr (slot_ne (Or.inr (hw _ (List.mem_of_getElem? (i := 24) rfl))) (Or.inr (hw _ (List.mem_of_getElem? (i := 22) rfl))) (by decide) (t := .long) (t' := .int) (by decide) (by decide)))) ((E_a1.keep Kc8).wr W9) (Or.inr ⟨(hw _ (List.mem_of_getElem? (i := 24) rfl)), rfl, hnm⟩) (hw _ (List.mem_of_getElem? (i := 8) rfl)) (ty := .long) (by decide) rfl rfl (g := (mkF m 11 #[.val (.ref a1), .val (.int p2), .val (.long q3), .second, .val (.int p4), .val (.ref a5), .val (.int p6), .val (.int p7)] [(.long q3), (.ref a1)])) rfl rfl (hb hby d2_11)
  have Fw10 := ((F_context_a1.keep Kc8 nin0).other W9 (Or.inr (slot_ne (Or.inr (hw _ (List.mem_of_getElem? (i := 24) rfl))) (Or.inr (hw _ (List.mem_of_getElem? (i := 22) rfl))) (by decide) (t := .long) (t' := .int) (by decide) (by decide)))).same W10      -- the field now holds (.long q3)
  have K10 : Keep h0 h10 [a1] := K9.wr W10 (Or.inl (List.mem_of_getElem? (i := 0) rfl))
  have N10 := Fr.snoc X10 N9 g_a1
  obtain ⟨T11, h11, X11, e11, W11, st11⟩ := putF X10 hx hZ hown (host := "") (Or.inl (hw _ (List.mem_of_getElem? (i := 25) rfl))) Via.refl e10 (((F_tag_a1.keep Kc8 nin0).other W9 (Or.inr (slot_ne (Or.inr (hw _ (List.mem_of_getElem? (i := 26) rfl))) (Or.inr (hw _ (List.mem_of_getElem? (i := 22) rfl))) (by decide) (t := .int) (t' := .int) (by decide) (by decide)))).other W10 (Or.inr (slot_ne (Or.inr (hw _ (List.mem_of_getElem? (i := 26) rfl))) (Or.inr (hw _ (List.mem_of_getElem? (i := 24) rfl))) (by decide) (t := .int) (t' := .long) (by decide) (by decide)))) (((E_a1.keep Kc8).wr W9).wr W10) (Or.inr ⟨(hw _ (List.mem_of_getElem? (i := 26) rfl)), rfl, hnm⟩) (hw _ (List.mem_of_getElem? (i := 8) rfl)) (ty := .int) (by decide) rfl rfl (g := (mkF m 17 #[.val (.ref a1), .val (.int p2), .val (.long q3), .second, .val (.int p4), .val (.ref a5), .val (.int p6), .val (.int p7)] [(.int p4), (.ref a1)])) rfl rfl (hb hby d2_17)
  have Fw11 := (((F_tag_a1.keep Kc8 nin0).other W9 (Or.inr (slot_ne (Or.inr (hw _ (List.mem_of_getElem? (i := 26) rfl))) (Or.inr (hw _ (List.mem_of_getElem? (i := 22) rfl))) (by decide) (t := .int) (t' := .int) (by decide) (by decide)))).other W10 (Or.inr (slot_ne (Or.inr (hw _ (List.mem_of_getElem? (i := 26) rfl))) (Or.inr (hw _ (List.mem_of_getElem? (i := 24) rfl))) (by decide) (t := .int) (t' := .long) (by decide) (by decide)))).same W11      -- the field now holds (.int p4)
  have K11 : Keep h0 h11 [a1] := K10.wr W11 (Or.inl (List.mem_of_getElem? (i := 0) rfl))
  have N11 := Fr.snoc X11 N10 g_a1
  obtain ⟨T12, h12, X12, e12, W12, st12⟩ := putF X11 hx hZ hown (host := "") (Or.inl (hw _ (List.mem_of_getElem? (i := 27) rfl))) Via.refl e11 ((((F_type_a1.keep Kc8 nin0).other W9 (Or.inr (slot_ne (Or.inr (hw _ (List.mem_of_getElem? (i := 28) rfl))) (Or.inr (hw _ (List.mem_of_getElem? (i := 22) rfl))) (by decide) (t := (.object "com/example/cablegram/cablegram/engine/ElementType")) (t' := .int) (by decide) (by decide)))).other W10 (Or.inr (slot_ne (Or.inr (hw _ (List.mem_of_getElem? (i := 28) rfl))) (Or.inr (hw _ (List.mem_of_getElem? (i := 24) rfl))) (by decide) (t := (.object "com/example/cablegram/cablegram/engine/ElementType")) (t' := .long) (by decide) (by decide)))).other W11 (Or.inr (slot_ne (Or.inr (hw _ (List.mem_of_getElem? (i := 28) rfl))) (Or.inr (hw _ (List.mem_of_getElem? (i := 26) rfl))) (by decide) (t := (.object "com/example/cablegram/cablegram/engine/ElementType")) (t' := .int) (by decide) (by decide)))) ((((E_a1.keep Kc8).wr W9).wr W10).wr W11) (Or.inr ⟨(hw _ (List.mem_of_getElem? (i := 28) rfl)), rfl, hnm⟩) (hw _ (List.mem_of_getElem? (i := 8) rfl)) (ty := (.object "com/example/cablegram/cablegram/engine/ElementType")) (by decide) rfl rfl (g := (mkF m 23 #[.val (.ref a1), .val (.int p2), .val (.long q3), .second, .val (.int p4), .val (.ref a5), .val (.int p6), .val (.int p7)] [(.ref a5), (.ref a1)])) rfl rfl (hb hby d2_23)
  have Fw12 := ((((F_type_a1.keep Kc8 nin0).other W9 (Or.inr (slot_ne (Or.inr (hw _ (List.mem_of_getElem? (i := 28) rfl))) (Or.inr (hw _ (List.mem_of_getElem? (i := 22) rfl))) (by decide) (t := (.object "com/example/cablegram/cablegram/engine/ElementType")) (t' := .int) (by decide) (by decide)))).other W10 (Or.inr (slot_ne (Or.inr (hw _ (List.mem_of_getElem? (i := 28) rfl))) (Or.inr (hw _ (List.mem_of_getElem? (i := 24) rfl))) (by decide) (t := (.object "com/example/cablegram/cablegram/engine/ElementType")) (t' := .long) (by decide) (by decide)))).other W11 (Or.inr (slot_ne (Or.inr (hw _ (List.mem_of_getElem? (i := 28) rfl))) (Or.inr (hw _ (List.mem_of_getElem? (i := 26) rfl))) (by decide) (t := (.object "com/example/cablegram/cablegram/engine/ElementType")) (t' := .int) (by decide) (by decide)))).same W12      -- the field now holds (.ref a5)
  have K12 : Keep h0 h12 [a1] := K11.wr W12 (Or.inl (List.mem_of_getElem? (i := 0) rfl))
  have N12 := Fr.snoc X12 N11 g_a1
  obtain ⟨T13, h13, X13, e13, W13, st13⟩ := putF X12 hx hZ hown (host := "") (Or.inl (hw _ (List.mem_of_getElem? (i := 29) rfl))) Via.refl e12 (((((F_count_a1.keep Kc8 nin0).other W9 (Or.inr (slot_ne (Or.inr (hw _ (List.mem_of_getElem? (i := 30) rfl))) (Or.inr (hw _ (List.mem_of_getElem? (i := 22) rfl))) (by decide) (t := .int) (t' := .int) (by decide) (by decide)))).other W10 (Or.inr (slot_ne (Or.inr (hw _ (List.mem_of_getElem? (i := 30) rfl))) (Or.inr (hw _ (List.mem_of_getElem? (i := 24) rfl))) (by decide) (t := .int) (t' := .long) (by decide) (by decide)))).other W11 (Or.inr (slot_ne (Or.inr (hw _ (List.mem_of_getElem? (i := 30) rfl))) (Or.inr (hw _ (List.mem_of_getElem? (i := 26) rfl))) (by decide) (t := .int) (t' := .int) (by decide) (by decide)))).other W12 (Or.inr (slot_ne (Or.inr (hw _ (List.mem_of_getElem? (i := 30) rfl))) (Or.inr (hw _ (List.mem_of_getElem? (i := 28) rfl))) (by decide) (t := .int) (t' := (.object "com/example/cablegram/cablegram/engine/ElementType")) (by decide) (by decide)))) (((((E_a1.keep Kc8).wr W9).wr W10).wr W11).wr W12) (Or.inr ⟨(hw _ (List.mem_of_getElem? (i := 30) rfl)), rfl, hnm⟩) (hw _ (List.mem_of_getElem? (i := 8) rfl)) (ty := .int) (by decide) rfl rfl (g := (mkF m 29 #[.val (.ref a1), .val (.int p2), .val (.long q3), .second, .val (.int p4), .val (.ref a5), .val (.int p6), .val (.int p7)] [(.int p6), (.ref a1)])) rfl rfl (hb hby d2_29)
  have Fw13 := (((((F_count_a1.keep Kc8 nin0).other W9 (Or.inr (slot_ne (Or.inr (hw _ (List.mem_of_getElem? (i := 30) rfl))) (Or.inr (hw _ (List.mem_of_getElem? (i := 22) rfl))) (by decide) (t := .int) (t' := .int) (by decide) (by decide)))).other W10 (Or.inr (slot_ne (Or.inr (hw _ (List.mem_of_getElem? (i := 30) rfl))) (Or.inr (hw _ (List.mem_of_getElem? (i := 24) rfl))) (by decide) (t := .int) (t' := .long) (by decide) (by decide)))).other W11 (Or.inr (slot_ne (Or.inr (hw _ (List.mem_of_getElem? (i := 30) rfl))) (Or.inr (hw _ (List.mem_of_getElem? (i := 26) rfl))) (by decide) (t := .int) (t' := .int) (by decide) (by decide)))).other W12 (Or.inr (slot_ne (Or.inr (hw _ (List.mem_of_getElem? (i := 30) rfl))) (Or.inr (hw _ (List.mem_of_getElem? (i := 28) rfl))) (by decide) (t := .int) (t' := (.object "com/example/cablegram/cablegram/engine/ElementType")) (by decide) (by decide)))).same W13      -- the field now holds (.int p6)
  have K13 : Keep h0 h13 [a1] := K12.wr W13 (Or.inl (List.mem_of_getElem? (i := 0) rfl))
  have N13 := Fr.snoc X13 N12 g_a1
  obtain ⟨T14, h14, X14, e14, W14, st14⟩ := putF X13 hx hZ hown (host := "") (Or.inl (hw _ (List.mem_of_getElem? (i := 31) rfl))) Via.refl e13 ((((((F_entries_a1.keep Kc8 nin0).other W9 (Or.inr (slot_ne (Or.inr (hw _ (List.mem_of_getElem? (i := 32) rfl))) (Or.inr (hw _ (List.mem_of_getElem? (i := 22) rfl))) (by decide) (t := .int) (t' := .int) (by decide) (by decide)))).other W10 (Or.inr (slot_ne (Or.inr (hw _ (List.mem_of_getElem? (i := 32) rfl))) (Or.inr (hw _ (List.mem_of_getElem? (i := 24) rfl))) (by decide) (t := .int) (t' := .long) (by decide) (by decide)))).other W11 (Or.inr (slot_ne (Or.inr (hw _ (List.mem_of_getElem? (i := 32) rfl))) (Or.inr (hw _ (List.mem_of_getElem? (i := 26) rfl))) (by decide) (t := .int) (t' := .int) (by decide) (by decide)))).other W12 (Or.inr (slot_ne (Or.inr (hw _ (List.mem_of_getElem? (i := 32) rfl))) (Or.inr (hw _ (List.mem_of_getElem? (i := 28) rfl))) (by decide) (t := .int) (t' := (.object "com/example/cablegram/cablegram/engine/ElementType")) (by decide) (by decide)))).other W13 (Or.inr (slot_ne (Or.inr (hw _ (List.mem_of_getElem? (i := 32) rfl))) (Or.inr (hw _ (List.mem_of_getElem? (i := 30) rfl))) (by decide) (t := .int) (t' := .int) (by decide) (by decide)))) ((((((E_a1.keep Kc8).wr W9).wr W10).wr W11).wr W12).wr W13) (Or.inr ⟨(hw _ (List.mem_of_getElem? (i := 32) rfl)), rfl, hnm⟩) (hw _ (List.mem_of_getElem? (i := 8) rfl)) (ty := .int) (by decide) rfl rfl (g := (mkF m 35 #[.val (.ref a1), .val (.int p2), .val (.long q3), .second, .val (.int p4), .val (.ref a5), .val (.int p6), .val (.int p7)] [(.int p7), (.ref a1)])) rfl rfl (hb hby d2_35)
  have Fw14 := ((((((F_entries_a1.keep Kc8 nin0).other W9 (Or.inr (slot_ne (Or.inr (hw _ (List.mem_of_getElem? (i := 32) rfl))) (Or.inr (hw _ (List.mem_of_getElem? (i := 22) rfl))) (by decide) (t := .int) (t' := .int) (by decide) (by decide)))).other W10 (Or.inr (slot_ne (Or.inr (hw _ (List.mem_of_getElem? (i := 32) rfl))) (Or.inr (hw _ (List.mem_of_getElem? (i := 24) rfl))) (by decide) (t := .int) (t' := .long) (by decide) (by decide)))).other W11 (Or.inr (slot_ne (Or.inr (hw _ (List.mem_of_getElem? (i := 32) rfl))) (Or.inr (hw _ (List.mem_of_getElem? (i := 26) rfl))) (by decide) (t := .int) (t' := .int) (by decide) (by decide)))).other W12 (Or.inr (slot_ne (Or.inr (hw _ (List.mem_of_getElem? (i := 32) rfl))) (Or.inr (hw _ (List.mem_of_getElem? (i := 28) rfl))) (by decide) (t := .int) (t' := (.object "com/example/cablegram/cablegram/engine/ElementType")) (by decide) (by decide)))).other W13 (Or.inr (slot_ne (Or.inr (hw _ (List.mem_of_getElem? (i := 32) rfl))) (Or.inr (hw _ (List.mem_of_getElem? (i := 30) rfl))) (by decide) (t := .int) (t' := .int) (by decide) (by decide)))).same W14      -- the field now holds (.int p7)
  have K14 : Keep h0 h14 [a1] := K13.wr W14 (Or.inl (List.mem_of_getElem? (i := 0) rfl))
  have N14 := Fr.snoc X14 N13 g_a1
  obtain ⟨fs, hr, hrun, hended, hW, hsame⟩ := X14.leave (v := none) (fun _ => rfl)
  refine ⟨_, _, pre0 _ ?_, hrun, hended, _, _, rfl, ?_, ⟨_, rfl⟩, hW, hsame.mono (by decide) (by decide)⟩
  -- 4. STEPS
  · show Steps p.tables e below (s₁.setTop (mkF m 0 #[.val (.ref a1), .val (.int p2), .val (.long q3), .second, .val (.int p4), .val (.ref a5), .val (.int p6), .val (.int p7)] [])) _
    refine XS.aloadN X0.here hx rfl (hb hby d2_0) rfl rfl ?_
    show Steps p.tables e below (s₁.setTop (mkF m 1 #[.val (.ref a1), .val (.int p2), .val (.long q3), .second, .val (.int p4), .val (.ref a5), .val (.int p6), .val (.int p7)] [(.ref a1)])) _
    refine st8.trans ?_
    show Steps p.tables e below (T8.setTop (mkF m 4 #[.val (.ref a1), .val (.int p2), .val (.long q3), .second, .val (.int p4), .val (.ref a5), .val (.int p6), .val (.int p7)] [])) _
    refine XS.aloadN X8.here hx rfl (hb hby d2_4) rfl rfl ?_
    show Steps p.tables e below (T8.setTop (mkF m 5 #[.val (.ref a1), .val (.int p2), .val (.long q3), .second, .val (.int p4), .val (.ref a5), .val (.int p6), .val (.int p7)] [(.ref a1)])) _
    refine XS.iloadN X8.here hx rfl (hb hby d2_5) rfl ?_
    show Steps p.tables e below (T8.setTop (mkF m 6 #[.val (.ref a1), .val (.int p2), .val (.long q3), .second, .val (.int p4), .val (.ref a5), .val (.int p6), .val (.int p7)] [(.int p2), (.ref a1)])) _
    refine st9 _ ?_
    show Steps p.tables e below (T9.setTop (mkF m 9 #[.val (.ref a1), .val (.int p2), .val (.long q3), .second, .val (.int p4), .val (.ref a5), .val (.int p6), .val (.int p7)] [])) _
    refine XS.aloadN X9.here hx rfl (hb hby d2_9) rfl rfl ?_
    show Steps p.tables e below (T9.setTop (mkF m 10 #[.val (.ref a1), .val (.int p2), .val (.long q3), .second, .val (.int p4), .val (.ref a5), .val (.int p6), .val (.int p7)] [(.ref a1)])) _
    refine XS.lloadN X9.here hx rfl (hb hby d2_10) rfl ?_
    show Steps p.tables e below (T9.setTop (mkF m 11 #[.val (.ref a1), .val (.int p2), .val (.long q3), .second, .val (.int p4), .val (.ref a5), .val (.int p6), .val (.int p7)] [(.long q3), (.ref a1)])) _
    refine st10 _ ?_
    show Steps p.tables e below (T10.setTop (mkF m 14 #[.val (.ref a1), .val (.int p2), .val (.long q3), .second, .val (.int p4), .val (.ref a5), .val (.int p6), .val (.int p7)] [])) _
    refine XS.aloadN X10.here hx rfl (hb hby d2_14) rfl rfl ?_
    show Steps p.tables e below (T10.setTop (mkF m 15 #[.val (.ref a1), .val (.int p2), .val (.long q3), .second, .val (.int p4), .val (.ref a5), .val (.int p6), .val (.int p7)] [(.ref a1)])) _
    refine XS.iload X10.here hx rfl (hb hby d2_15) rfl ?_
    show Steps p.tables e below (T10.setTop (mkF m 17 #[.val (.ref a1), .val (.int p2), .val (.long q3), .second, .val (.int p4), .val (.ref a5), .val (.int p6), .val (.int p7)] [(.int p4), (.ref a1)])) _
    refine st11 _ ?_
    show Steps p.tables e below (T11.setTop (mkF m 20 #[.val (.ref a1), .val (.int p2), .val (.long q3), .second, .val (.int p4), .val (.ref a5), .val (.int p6), .val (.int p7)] [])) _
    refine XS.aloadN X11.here hx rfl (hb hby d2_20) rfl rfl ?_
    show Steps p.tables e below (T11.setTop (mkF m 21 #[.val (.ref a1), .val (.int p2), .val (.long q3), .second, .val (.int p4), .val (.ref a5), .val (.int p6), .val (.int p7)] [(.ref a1)])) _
    refine XS.aload X11.here hx rfl (hb hby d2_21) rfl rfl ?_
    show Steps p.tables e below (T11.setTop (mkF m 23 #[.val (.ref a1), .val (.int p2), .val (.long q3), .second, .val (.int p4), .val (.ref a5), .val (.int p6), .val (.int p7)] [(.ref a5), (.ref a1)])) _
    refine st12 _ ?_
    show Steps p.tables e below (T12.setTop (mkF m 26 #[.val (.ref a1), .val (.int p2), .val (.long q3), .second, .val (.int p4), .val (.ref a5), .val (.int p6), .val (.int p7)] [])) _
    refine XS.aloadN X12.here hx rfl (hb hby d2_26) rfl rfl ?_
    show Steps p.tables e below (T12.setTop (mkF m 27 #[.val (.ref a1), .val (.int p2), .val (.long q3), .second, .val (.int p4), .val (.ref a5), .val (.int p6), .val (.int p7)] [(.ref a1)])) _
    refine XS.iload X12.here hx rfl (hb hby d2_27) rfl ?_
    show Steps p.tables e below (T12.setTop (mkF m 29 #[.val (.ref a1), .val (.int p2), .val (.long q3), .second, .val (.int p4), .val (.ref a5), .val (.int p6), .val (.int p7)] [(.int p6), (.ref a1)])) _
    refine st13 _ ?_
    show Steps p.tables e below (T13.setTop (mkF m 32 #[.val (.ref a1), .val (.int p2), .val (.long q3), .second, .val (.int p4), .val (.ref a5), .val (.int p6), .val (.int p7)] [])) _
    refine XS.aloadN X13.here hx rfl (hb hby d2_32) rfl rfl ?_
    show Steps p.tables e below (T13.setTop (mkF m 33 #[.val (.ref a1), .val (.int p2), .val (.long q3), .second, .val (.int p4), .val (.ref a5), .val (.int p6), .val (.int p7)] [(.ref a1)])) _
    refine XS.iload X13.here hx rfl (hb hby d2_33) rfl ?_
    show Steps p.tables e below (T13.setTop (mkF m 35 #[.val (.ref a1), .val (.int p2), .val (.long q3), .second, .val (.int p4), .val (.ref a5), .val (.int p6), .val (.int p7)] [(.int p7), (.ref a1)])) _
    refine st14 _ ?_
    show Steps p.tables e below (T14.setTop (mkF m 38 #[.val (.ref a1), .val (.int p2), .val (.long q3), .second, .val (.int p4), .val (.ref a5), .val (.int p6), .val (.int p7)] [])) _
    exact X14.returnOut hx Bd.returns (hb hby d2_38) hr
  · show Qe Z a1 p2 q3 p4 a5 p6 p7 h0 n0 _ T14.heap _
    rw [e14]
    exact ⟨rfl, N14, K14, (((((((E_a1.keep Kc8).wr W9).wr W10).wr W11).wr W12).wr W13).wr W14), (((((Fw9.other W10 (Or.inr (slot_ne (Or.inr (hw _ (List.mem_of_getElem? (i := 22) rfl))) (Or.inr (hw _ (List.mem_of_getElem? (i := 24) rfl))) (by decide) (t := .int) (t' := .long) (by decide) (by decide)))).other W11 (Or.inr (slot_ne (Or.inr (hw _ (List.mem_of_getElem? (i := 22) rfl))) (Or.inr (hw _ (List.mem_of_getElem? (i := 26) rfl))) (by decide) (t := .int) (t' := .int) (by decide) (by decide)))).other W12 (Or.inr (slot_ne (Or.inr (hw _ (List.mem_of_getElem? (i := 22) rfl))) (Or.inr (hw _ (List.mem_of_getElem? (i := 28) rfl))) (by decide) (t := .int) (t' := (.object "com/example/cablegram/cablegram/engine/ElementType")) (by decide) (by decide)))).other W13 (Or.inr (slot_ne (Or.inr (hw _ (List.mem_of_getElem? (i := 22) rfl))) (Or.inr (hw _ (List.mem_of_getElem? (i := 30) rfl))) (by decide) (t := .int) (t' := .int) (by decide) (by decide)))).other W14 (Or.inr (slot_ne (Or.inr (hw _ (List.mem_of_getElem? (i := 22) rfl))) (Or.inr (hw _ (List.mem_of_getElem? (i := 32) rfl))) (by decide) (t := .int) (t' := .int) (by decide) (by decide)))), ((((Fw10.other W11 (Or.inr (slot_ne (Or.inr (hw _ (List.mem_of_getElem? (i := 24) rfl))) (Or.inr (hw _ (List.mem_of_getElem? (i := 26) rfl))) (by decide) (t := .long) (t' := .int) (by decide) (by decide)))).other W12 (Or.inr (slot_ne (Or.inr (hw _ (List.mem_of_getElem? (i := 24) rfl))) (Or.inr (hw _ (List.mem_of_getElem? (i := 28) rfl))) (by decide) (t := .long) (t' := (.object "com/example/cablegram/cablegram/engine/ElementType")) (by decide) (by decide)))).other W13 (Or.inr (slot_ne (Or.inr (hw _ (List.mem_of_getElem? (i := 24) rfl))) (Or.inr (hw _ (List.mem_of_getElem? (i := 30) rfl))) (by decide) (t := .long) (t' := .int) (by decide) (by decide)))).other W14 (Or.inr (slot_ne (Or.inr (hw _ (List.mem_of_getElem? (i := 24) rfl))) (Or.inr (hw _ (List.mem_of_getElem? (i := 32) rfl))) (by decide) (t := .long) (t' := .int) (by decide) (by decide)))), (((Fw11.other W12 (Or.inr (slot_ne (Or.inr (hw _ (List.mem_of_getElem? (i := 26) rfl))) (Or.inr (hw _ (List.mem_of_getElem? (i := 28) rfl))) (by decide) (t := .int) (t' := (.object "com/example/cablegram/cablegram/engine/ElementType")) (by decide) (by decide)))).other W13 (Or.inr (slot_ne (Or.inr (hw _ (List.mem_of_getElem? (i := 26) rfl))) (Or.inr (hw _ (List.mem_of_getElem? (i := 30) rfl))) (by decide) (t := .int) (t' := .int) (by decide) (by decide)))).other W14 (Or.inr (slot_ne (Or.inr (hw _ (List.mem_of_getElem? (i := 26) rfl))) (Or.inr (hw _ (List.mem_of_getElem? (i := 32) rfl))) (by decide) (t := .int) (t' := .int) (by decide) (by decide)))), ((Fw12.other W13 (Or.inr (slot_ne (Or.inr (hw _ (List.mem_of_getElem? (i := 28) rfl))) (Or.inr (hw _ (List.mem_of_getElem? (i := 30) rfl))) (by decide) (t := (.object "com/example/cablegram/cablegram/engine/ElementType")) (t' := .int) (by decide) (by decide)))).other W14 (Or.inr (slot_ne (Or.inr (hw _ (List.mem_of_getElem? (i := 28) rfl))) (Or.inr (hw _ (List.mem_of_getElem? (i := 32) rfl))) (by decide) (t := (.object "com/example/cablegram/cablegram/engine/ElementType")) (t' := .int) (by decide) (by decide)))), (Fw13.other W14 (Or.inr (slot_ne (Or.inr (hw _ (List.mem_of_getElem? (i := 30) rfl))) (Or.inr (hw _ (List.mem_of_getElem? (i := 32) rfl))) (by decide) (t := .int) (t' := .int) (by decide) (by decide)))), Fw14⟩
theorem d5_0 : decode method_2_code 0 = .ok (.iload_n 0, 1) := by decide +kernel
theorem d5_1 : decode method_2_code 1 = .ok (.ifCond .ne 5, 3) := by decide +kernel
theorem d5_4 : decode method_2_code 4 = .ok (.iconst 0, 1) := by decide +kernel
theorem d5_5 : decode method_2_code 5 = .ok (.ireturn, 1) := by decide +kernel
theorem pn_5 : plainName "com/example/cablegram/cablegram/engine/EnvelopeIsPinLaw" = true := by first | (simp [plainName, overriddenIn]; done) | decide +kernel
theorem ef_5 (m : MethodId) (x0 : Int32) : entryFrame m #[(.int x0)] 1 = mkF m 0 #[.val (.int x0)] [] := by first | (simp [entryFrame, mkF, argsToLocals, Value.category]; done) | rfl
set_option maxRecDepth 65536 in
set_option maxHeartbeats 40000000 in
theorem rm5_f (l : Launch) (Z : State) (a0 : Array Value) (hw : ∀ d ∈ tables_1, d.before a0 Z = true) (ws : List Jvm.Cond) (p1 : Int32) (h0 : Heap) (n0 : Nat) (Z0 : n0 ≤ h0.size) (hc1 : p1 = (0 : Int32)) :
    MetFree l (⟨"com/example/cablegram/cablegram/engine/EnvelopeIsPinLaw", "delta", "(I)I"⟩ : MethodName) (head1 (Jvm.Cond.code (⟨"com/example/cablegram/cablegram/engine/EnvelopeIsPinLaw", "delta", "(I)I"⟩ : MethodName) method_2_code 1 (some .int) :: ws) ({ frames := 0, cells := 0, slots := 0, locals := 0 } : Room)) (fun a U => a = #[(.int p1)] ∧ Z.Warmed39 U.vm ∧ U.heap = h0) (fun _ _ _ _ _ => True) (fun _ U o U' => ∃ v L, o = .returned v ∧ Qv (some (.int (0 : Int32))) h0 n0 v U'.heap L ∧ FrameEnd U o U' L ({ frames := 0, cells := 0, slots := 0, locals := 0 } : Room).cells ({ frames := 0, cells := 0, slots := 0, locals := 0 } : Room).slots) := by
  refine MetFree.of_bodySF (plainFor_of_name pn_5) hisR ?_
  intro p e s m args below meth c s₁ Bd hml0 hP hK
  obtain ⟨rfl, hZ, hh⟩ := hP
  have hx := Bd.exec
  have hby := Bd.bytes
  have hml : c.maxLocals = 1 := hml0
  have hown : s.vm.findClass "com/example/cablegram/cablegram/engine/EnvelopeIsPinLaw" = some m.cls := findClass_of_methodNamed Bd.named
  have hnm := (name_of_methodNamed Bd.named Bd.method).1
  have X0 : Stand p l e ({ frames := 0, cells := 0, slots := 0, locals := 0 } : Room) s m #[(.int p1)] below meth c s₁ [] 0 0 := Stand.of_body Bd
  have e0 : s₁.heap = h0 := by rw [← hh, Bd.state]; rfl
  have N0 := Fr.nil n0
  have pre0 : ∀ t, Steps p.tables e below (s₁.setTop (mkF m 0 #[.val (.int p1)] [])) t → Steps p.tables e below (s₁.setTop (entryFrame m #[(.int p1)] 1)) t := fun t k => castTop (ef_5 m p1) k
  -- 3. LAWS

  obtain ⟨fs, hr, hrun, hended, hW, hsame⟩ := X0.leave (v := some (.int (0 : Int32))) (fun h => by rw [Bd.returns] at h; cases h)
  refine ⟨_, _, pre0 _ ?_, hrun, hended, _, _, rfl, ?_, ⟨_, rfl⟩, hW, hsame.mono (by decide) (by decide)⟩
  -- 4. STEPS
  · show Steps p.tables e below (s₁.setTop (mkF m 0 #[.val (.int p1)] [])) _
    refine XS.iloadN X0.here hx rfl (hb hby d5_0) rfl ?_
    show Steps p.tables e below (s₁.setTop (mkF m 1 #[.val (.int p1)] [(.int p1)])) _
    refine XS.ifNo X0.here hx rfl (hb hby d5_1) rfl ((if0 _ _).trans (teq hc1).2) ?_
    show Steps p.tables e below (s₁.setTop (mkF m 4 #[.val (.int p1)] [])) _
    refine XS.iconst X0.here hx rfl (hb hby d5_4) ?_
    show Steps p.tables e below (s₁.setTop (mkF m 5 #[.val (.int p1)] [(.int (0 : Int32))])) _
    exact retI X0 hx Bd.returns (hb hby d5_5) hr      -- retI stands in the head ('lawwalk <made dir>' prints it)
  · show Qv (some (.int (0 : Int32))) h0 n0 _ s₁.heap _
    rw [e0]
    exact ⟨rfl, N0, rfl⟩
theorem d6_0 : decode method_3_code 0 = .ok (.iload_n 0, 1) := by decide +kernel
theorem d6_1 : decode method_3_code 1 = .ok (.ifCond .ne 5, 3) := by decide +kernel
theorem d6_4 : decode method_3_code 4 = .ok (.lconst 0, 1) := by decide +kernel
theorem d6_5 : decode method_3_code 5 = .ok (.lreturn, 1) := by decide +kernel
theorem pn_6 : plainName "com/example/cablegram/cablegram/engine/EnvelopeIsPinLaw" = true := by first | (simp [plainName, overriddenIn]; done) | decide +kernel
theorem ef_6 (m : MethodId) (x0 : Int32) : entryFrame m #[(.int x0)] 1 = mkF m 0 #[.val (.int x0)] [] := by first | (simp [entryFrame, mkF, argsToLocals, Value.category]; done) | rfl
set_option maxRecDepth 65536 in
set_option maxHeartbeats 40000000 in
theorem rm6_f (l : Launch) (Z : State) (a0 : Array Value) (hw : ∀ d ∈ tables_1, d.before a0 Z = true) (ws : List Jvm.Cond) (p1 : Int32) (h0 : Heap) (n0 : Nat) (Z0 : n0 ≤ h0.size) (hc1 : p1 = (0 : Int32)) :
    MetFree l (⟨"com/example/cablegram/cablegram/engine/EnvelopeIsPinLaw", "deltaLong", "(I)J"⟩ : MethodName) (head1 (Jvm.Cond.code (⟨"com/example/cablegram/cablegram/engine/EnvelopeIsPinLaw", "deltaLong", "(I)J"⟩ : MethodName) method_3_code 1 (some .long) :: ws) ({ frames := 0, cells := 0, slots := 0, locals := 0 } : Room)) (fun a U => a = #[(.int p1)] ∧ Z.Warmed39 U.vm ∧ U.heap = h0) (fun _ _ _ _ _ => True) (fun _ U o U' => ∃ v L, o = .returned v ∧ Qv (some (.long (0 : Int64))) h0 n0 v U'.heap L ∧ FrameEnd U o U' L ({ frames := 0, cells := 0, slots := 0, locals := 0 } : Room).cells ({ frames := 0, cells := 0, slots := 0, locals := 0 } : Room).slots) := by
  refine MetFree.of_bodySF (plainFor_of_name pn_6) hisR ?_
  intro p e s m args below meth c s₁ Bd hml0 hP hK
  obtain ⟨rfl, hZ, hh⟩ := hP
  have hx := Bd.exec
  have hby := Bd.bytes
  have hml : c.maxLocals = 1 := hml0
  have hown : s.vm.findClass "com/example/cablegram/cablegram/engine/EnvelopeIsPinLaw" = some m.cls := findClass_of_methodNamed Bd.named
  have hnm := (name_of_methodNamed Bd.named Bd.method).1
  have X0 : Stand p l e ({ frames := 0, cells := 0, slots := 0, locals := 0 } : Room) s m #[(.int p1)] below meth c s₁ [] 0 0 := Stand.of_body Bd
  have e0 : s₁.heap = h0 := by rw [← hh, Bd.state]; rfl
  have N0 := Fr.nil n0
  have pre0 : ∀ t, Steps p.tables e below (s₁.setTop (mkF m 0 #[.val (.int p1)] [])) t → Steps p.tables e below (s₁.setTop (entryFrame m #[(.int p1)] 1)) t := fun t k => castTop (ef_6 m p1) k
  -- 3. LAWS

  obtain ⟨fs, hr, hrun, hended, hW, hsame⟩ := X0.leave (v := some (.long (0 : Int64))) (fun h => by rw [Bd.returns] at h; cases h)
  refine ⟨_, _, pre0 _ ?_, hrun, hended, _, _, rfl, ?_, ⟨_, rfl⟩, hW, hsame.mono (by decide) (by decide)⟩
  -- 4. STEPS
  · show Steps p.tables e below (s₁.setTop (mkF m 0 #[.val (.int p1)] [])) _
    refine XS.iloadN X0.here hx rfl (hb hby d6_0) rfl ?_
    show Steps p.tables e below (s₁.setTop (mkF m 1 #[.val (.int p1)] [(.int p1)])) _
    refine XS.ifNo X0.here hx rfl (hb hby d6_1) rfl ((if0 _ _).trans (teq hc1).2) ?_
    show Steps p.tables e below (s₁.setTop (mkF m 4 #[.val (.int p1)] [])) _
    refine XS.lconst X0.here hx rfl (hb hby d6_4) ?_
    show Steps p.tables e below (s₁.setTop (mkF m 5 #[.val (.int p1)] [(.long (0 : Int64))])) _
    jvm_step X0.here [X0.here.top, hx, (hb hby d6_5), X0.method', Bd.returns, narrow]
    first | (intro acts; rw [hr _ acts rfl rfl rfl]) | rw [hr _ _ rfl rfl rfl]
    exact Steps.refl _
  · show Qv (some (.long (0 : Int64))) h0 n0 _ s₁.heap _
    rw [e0]
    exact ⟨rfl, N0, rfl⟩
theorem d5_6 : decode method_2_code 6 = .ok (.iload_n 0, 1) := by decide +kernel
theorem d5_7 : decode method_2_code 7 = .ok (.iconst 1, 1) := by decide +kernel
theorem d5_8 : decode method_2_code 8 = .ok (.if_icmp .ne 5, 3) := by decide +kernel
theorem d5_11 : decode method_2_code 11 = .ok (.iconst 1, 1) := by decide +kernel
theorem d5_12 : decode method_2_code 12 = .ok (.ireturn, 1) := by decide +kernel
set_option maxRecDepth 65536 in
set_option maxHeartbeats 40000000 in
theorem rm5_tf (l : Launch) (Z : State) (a0 : Array Value) (hw : ∀ d ∈ tables_1, d.before a0 Z = true) (ws : List Jvm.Cond) (p1 : Int32) (h0 : Heap) (n0 : Nat) (Z0 : n0 ≤ h0.size) (hc1 : ¬ (p1 = (0 : Int32))) (hc8 : p1 = (1 : Int32)) :
    MetFree l (⟨"com/example/cablegram/cablegram/engine/EnvelopeIsPinLaw", "delta", "(I)I"⟩ : MethodName) (head1 (Jvm.Cond.code (⟨"com/example/cablegram/cablegram/engine/EnvelopeIsPinLaw", "delta", "(I)I"⟩ : MethodName) method_2_code 1 (some .int) :: ws) ({ frames := 0, cells := 0, slots := 0, locals := 0 } : Room)) (fun a U => a = #[(.int p1)] ∧ Z.Warmed39 U.vm ∧ U.heap = h0) (fun _ _ _ _ _ => True) (fun _ U o U' => ∃ v L, o = .returned v ∧ Qv (some (.int (1 : Int32))) h0 n0 v U'.heap L ∧ FrameEnd U o U' L ({ frames := 0, cells := 0, slots := 0, locals := 0 } : Room).cells ({ frames := 0, cells := 0, slots := 0, locals := 0 } : Room).slots) := by
  refine MetFree.of_bodySF (plainFor_of_name pn_5) hisR ?_
  intro p e s m args below meth c s₁ Bd hml0 hP hK
  obtain ⟨rfl, hZ, hh⟩ := hP
  have hx := Bd.exec
  have hby := Bd.bytes
  have hml : c.maxLocals = 1 := hml0
  have hown : s.vm.findClass "com/example/cablegram/cablegram/engine/EnvelopeIsPinLaw" = some m.cls := findClass_of_methodNamed Bd.named
  have hnm := (name_of_methodNamed Bd.named Bd.method).1
  have X0 : Stand p l e ({ frames := 0, cells := 0, slots := 0, locals := 0 } : Room) s m #[(.int p1)] below meth c s₁ [] 0 0 := Stand.of_body Bd
  have e0 : s₁.heap = h0 := by rw [← hh, Bd.state]; rfl
  have N0 := Fr.nil n0
  have pre0 : ∀ t, Steps p.tables e below (s₁.setTop (mkF m 0 #[.val (.int p1)] [])) t → Steps p.tables e below (s₁.setTop (entryFrame m #[(.int p1)] 1)) t := fun t k => castTop (ef_5 m p1) k
  -- 3. LAWS

  obtain ⟨fs, hr, hrun, hended, hW, hsame⟩ := X0.leave (v := some (.int (1 : Int32))) (fun h => by rw [Bd.returns] at h; cases h)
  refine ⟨_, _, pre0 _ ?_, hrun, hended, _, _, rfl, ?_, ⟨_, rfl⟩, hW, hsame.mono (by decide) (by decide)⟩
  -- 4. STEPS
  · show Steps p.tables e below (s₁.setTop (mkF m 0 #[.val (.int p1)] [])) _
    refine XS.iloadN X0.here hx rfl (hb hby d5_0) rfl ?_
    show Steps p.tables e below (s₁.setTop (mkF m 1 #[.val (.int p1)] [(.int p1)])) _
    refine XS.ifYes X0.here hx rfl (pc0 := 1) (pc' := 6) rfl (hb hby d5_1) rfl ((if0 _ _).trans (feq hc1).2) (by decide) (by decide) ?_
    show Steps p.tables e below (s₁.setTop (mkF m 6 #[.val (.int p1)] [])) _
    refine XS.iloadN X0.here hx rfl (hb hby d5_6) rfl ?_
    show Steps p.tables e below (s₁.setTop (mkF m 7 #[.val (.int p1)] [(.int p1)])) _
    refine XS.iconst X0.here hx rfl (hb hby d5_7) ?_
    show Steps p.tables e below (s₁.setTop (mkF m 8 #[.val (.int p1)] [(.int (1 : Int32)), (.int p1)])) _
    refine XS.icmpNo X0.here hx rfl (hb hby d5_8) rfl (teq hc8).2 ?_
    show Steps p.tables e below (s₁.setTop (mkF m 11 #[.val (.int p1)] [])) _
    refine XS.iconst X0.here hx rfl (hb hby d5_11) ?_
    show Steps p.tables e below (s₁.setTop (mkF m 12 #[.val (.int p1)] [(.int (1 : Int32))])) _
    exact retI X0 hx Bd.returns (hb hby d5_12) hr      -- retI stands in the head ('lawwalk <made dir>' prints it)
  · show Qv (some (.int (1 : Int32))) h0 n0 _ s₁.heap _
    rw [e0]
    exact ⟨rfl, N0, rfl⟩
theorem d6_6 : decode method_3_code 6 = .ok (.iload_n 0, 1) := by decide +kernel
theorem d6_7 : decode method_3_code 7 = .ok (.iconst 1, 1) := by decide +kernel
theorem d6_8 : decode method_3_code 8 = .ok (.if_icmp .ne 5, 3) := by decide +kernel
theorem d6_11 : decode method_3_code 11 = .ok (.lconst 1, 1) := by decide +kernel
theorem d6_12 : decode method_3_code 12 = .ok (.lreturn, 1) := by decide +kernel
set_option maxRecDepth 65536 in
set_option maxHeartbeats 40000000 in
theorem rm6_tf (l : Launch) (Z : State) (a0 : Array Value) (hw : ∀ d ∈ tables_1, d.before a0 Z = true) (ws : List Jvm.Cond) (p1 : Int32) (h0 : Heap) (n0 : Nat) (Z0 : n0 ≤ h0.size) (hc1 : ¬ (p1 = (0 : Int32))) (hc8 : p1 = (1 : Int32)) :
    MetFree l (⟨"com/example/cablegram/cablegram/engine/EnvelopeIsPinLaw", "deltaLong", "(I)J"⟩ : MethodName) (head1 (Jvm.Cond.code (⟨"com/example/cablegram/cablegram/engine/EnvelopeIsPinLaw", "deltaLong", "(I)J"⟩ : MethodName) method_3_code 1 (some .long) :: ws) ({ frames := 0, cells := 0, slots := 0, locals := 0 } : Room)) (fun a U => a = #[(.int p1)] ∧ Z.Warmed39 U.vm ∧ U.heap = h0) (fun _ _ _ _ _ => True) (fun _ U o U' => ∃ v L, o = .returned v ∧ Qv (some (.long (1 : Int64))) h0 n0 v U'.heap L ∧ FrameEnd U o U' L ({ frames := 0, cells := 0, slots := 0, locals := 0 } : Room).cells ({ frames := 0, cells := 0, slots := 0, locals := 0 } : Room).slots) := by
  refine MetFree.of_bodySF (plainFor_of_name pn_6) hisR ?_
  intro p e s m args below meth c s₁ Bd hml0 hP hK
  obtain ⟨rfl, hZ, hh⟩ := hP
  have hx := Bd.exec
  have hby := Bd.bytes
  have hml : c.maxLocals = 1 := hml0
  have hown : s.vm.findClass "com/example/cablegram/cablegram/engine/EnvelopeIsPinLaw" = some m.cls := findClass_of_methodNamed Bd.named
  have hnm := (name_of_methodNamed Bd.named Bd.method).1
  have X0 : Stand p l e ({ frames := 0, cells := 0, slots := 0, locals := 0 } : Room) s m #[(.int p1)] below meth c s₁ [] 0 0 := Stand.of_body Bd
  have e0 : s₁.heap = h0 := by rw [← hh, Bd.state]; rfl
  have N0 := Fr.nil n0
  have pre0 : ∀ t, Steps p.tables e below (s₁.setTop (mkF m 0 #[.val (.int p1)] [])) t → Steps p.tables e below (s₁.setTop (entryFrame m #[(.int p1)] 1)) t := fun t k => castTop (ef_6 m p1) k
  -- 3. LAWS

  obtain ⟨fs, hr, hrun, hended, hW, hsame⟩ := X0.leave (v := some (.long (1 : Int64))) (fun h => by rw [Bd.returns] at h; cases h)
  refine ⟨_, _, pre0 _ ?_, hrun, hended, _, _, rfl, ?_, ⟨_, rfl⟩, hW, hsame.mono (by decide) (by decide)⟩
  -- 4. STEPS
  · show Steps p.tables e below (s₁.setTop (mkF m 0 #[.val (.int p1)] [])) _
    refine XS.iloadN X0.here hx rfl (hb hby d6_0) rfl ?_
    show Steps p.tables e below (s₁.setTop (mkF m 1 #[.val (.int p1)] [(.int p1)])) _
    refine XS.ifYes X0.here hx rfl (pc0 := 1) (pc' := 6) rfl (hb hby d6_1) rfl ((if0 _ _).trans (feq hc1).2) (by decide) (by decide) ?_
    show Steps p.tables e below (s₁.setTop (mkF m 6 #[.val (.int p1)] [])) _
    refine XS.iloadN X0.here hx rfl (hb hby d6_6) rfl ?_
    show Steps p.tables e below (s₁.setTop (mkF m 7 #[.val (.int p1)] [(.int p1)])) _
    refine XS.iconst X0.here hx rfl (hb hby d6_7) ?_
    show Steps p.tables e below (s₁.setTop (mkF m 8 #[.val (.int p1)] [(.int (1 : Int32)), (.int p1)])) _
    refine XS.icmpNo X0.here hx rfl (hb hby d6_8) rfl (teq hc8).2 ?_
    show Steps p.tables e below (s₁.setTop (mkF m 11 #[.val (.int p1)] [])) _
    refine XS.lconst X0.here hx rfl (hb hby d6_11) ?_
    show Steps p.tables e below (s₁.setTop (mkF m 12 #[.val (.int p1)] [(.long (1 : Int64))])) _
    jvm_step X0.here [X0.here.top, hx, (hb hby d6_12), X0.method', Bd.returns, narrow]
    first | (intro acts; rw [hr _ acts rfl rfl rfl]) | rw [hr _ _ rfl rfl rfl]
    exact Steps.refl _
  · show Qv (some (.long (1 : Int64))) h0 n0 _ s₁.heap _
    rw [e0]
    exact ⟨rfl, N0, rfl⟩
theorem d5_13 : decode method_2_code 13 = .ok (.iload_n 0, 1) := by decide +kernel
theorem d5_14 : decode method_2_code 14 = .ok (.iconst 2, 1) := by decide +kernel
theorem d5_15 : decode method_2_code 15 = .ok (.if_icmp .ne 5, 3) := by decide +kernel
theorem d5_18 : decode method_2_code 18 = .ok (.iconst (-1), 1) := by decide +kernel
theorem d5_19 : decode method_2_code 19 = .ok (.ireturn, 1) := by decide +kernel
set_option maxRecDepth 65536 in
set_option maxHeartbeats 40000000 in
theorem rm5_ttf (l : Launch) (Z : State) (a0 : Array Value) (hw : ∀ d ∈ tables_1, d.before a0 Z = true) (ws : List Jvm.Cond) (p1 : Int32) (h0 : Heap) (n0 : Nat) (Z0 : n0 ≤ h0.size) (hc1 : ¬ (p1 = (0 : Int32))) (hc8 : ¬ (p1 = (1 : Int32))) (hc15 : p1 = (2 : Int32)) :
    MetFree l (⟨"com/example/cablegram/cablegram/engine/EnvelopeIsPinLaw", "delta", "(I)I"⟩ : MethodName) (head1 (Jvm.Cond.code (⟨"com/example/cablegram/cablegram/engine/EnvelopeIsPinLaw", "delta", "(I)I"⟩ : MethodName) method_2_code 1 (some .int) :: ws) ({ frames := 0, cells := 0, slots := 0, locals := 0 } : Room)) (fun a U => a = #[(.int p1)] ∧ Z.Warmed39 U.vm ∧ U.heap = h0) (fun _ _ _ _ _ => True) (fun _ U o U' => ∃ v L, o = .returned v ∧ Qv (some (.int (-1 : Int32))) h0 n0 v U'.heap L ∧ FrameEnd U o U' L ({ frames := 0, cells := 0, slots := 0, locals := 0 } : Room).cells ({ frames := 0, cells := 0, slots := 0, locals := 0 } : Room).slots) := by
  refine MetFree.of_bodySF (plainFor_of_name pn_5) hisR ?_
  intro p e s m args below meth c s₁ Bd hml0 hP hK
  obtain ⟨rfl, hZ, hh⟩ := hP
  have hx := Bd.exec
  have hby := Bd.bytes
  have hml : c.maxLocals = 1 := hml0
  have hown : s.vm.findClass "com/example/cablegram/cablegram/engine/EnvelopeIsPinLaw" = some m.cls := findClass_of_methodNamed Bd.named
  have hnm := (name_of_methodNamed Bd.named Bd.method).1
  have X0 : Stand p l e ({ frames := 0, cells := 0, slots := 0, locals := 0 } : Room) s m #[(.int p1)] below meth c s₁ [] 0 0 := Stand.of_body Bd
  have e0 : s₁.heap = h0 := by rw [← hh, Bd.state]; rfl
  have N0 := Fr.nil n0
  have pre0 : ∀ t, Steps p.tables e below (s₁.setTop (mkF m 0 #[.val (.int p1)] [])) t → Steps p.tables e below (s₁.setTop (entryFrame m #[(.int p1)] 1)) t := fun t k => castTop (ef_5 m p1) k
  -- 3. LAWS

  obtain ⟨fs, hr, hrun, hended, hW, hsame⟩ := X0.leave (v := some (.int (-1 : Int32))) (fun h => by rw [Bd.returns] at h; cases h)
  refine ⟨_, _, pre0 _ ?_, hrun, hended, _, _, rfl, ?_, ⟨_, rfl⟩, hW, hsame.mono (by decide) (by decide)⟩
  -- 4. STEPS
  · show Steps p.tables e below (s₁.setTop (mkF m 0 #[.val (.int p1)] [])) _
    refine XS.iloadN X0.here hx rfl (hb hby d5_0) rfl ?_
    show Steps p.tables e below (s₁.setTop (mkF m 1 #[.val (.int p1)] [(.int p1)])) _
    refine XS.ifYes X0.here hx rfl (pc0 := 1) (pc' := 6) rfl (hb hby d5_1) rfl ((if0 _ _).trans (feq hc1).2) (by decide) (by decide) ?_
    show Steps p.tables e below (s₁.setTop (mkF m 6 #[.val (.int p1)] [])) _
    refine XS.iloadN X0.here hx rfl (hb hby d5_6) rfl ?_
    show Steps p.tables e below (s₁.setTop (mkF m 7 #[.val (.int p1)] [(.int p1)])) _
    refine XS.iconst X0.here hx rfl (hb hby d5_7) ?_
    show Steps p.tables e below (s₁.setTop (mkF m 8 #[.val (.int p1)] [(.int (1 : Int32)), (.int p1)])) _
    refine XS.icmpYes X0.here hx rfl (pc0 := 8) (pc' := 13) rfl (hb hby d5_8) rfl (feq hc8).2 (by decide) (by decide) ?_
    show Steps p.tables e below (s₁.setTop (mkF m 13 #[.val (.int p1)] [])) _
    refine XS.iloadN X0.here hx rfl (hb hby d5_13) rfl ?_
    show Steps p.tables e below (s₁.setTop (mkF m 14 #[.val (.int p1)] [(.int p1)])) _
    refine XS.iconst X0.here hx rfl (hb hby d5_14) ?_
    show Steps p.tables e below (s₁.setTop (mkF m 15 #[.val (.int p1)] [(.int (2 : Int32)), (.int p1)])) _
    refine XS.icmpNo X0.here hx rfl (hb hby d5_15) rfl (teq hc15).2 ?_
    show Steps p.tables e below (s₁.setTop (mkF m 18 #[.val (.int p1)] [])) _
    refine XS.iconst X0.here hx rfl (hb hby d5_18) ?_
    show Steps p.tables e below (s₁.setTop (mkF m 19 #[.val (.int p1)] [(.int (-1 : Int32))])) _
    exact retI X0 hx Bd.returns (hb hby d5_19) hr      -- retI stands in the head ('lawwalk <made dir>' prints it)
  · show Qv (some (.int (-1 : Int32))) h0 n0 _ s₁.heap _
    rw [e0]
    exact ⟨rfl, N0, rfl⟩
theorem d6_13 : decode method_3_code 13 = .ok (.iload_n 0, 1) := by decide +kernel
theorem d6_14 : decode method_3_code 14 = .ok (.iconst 2, 1) := by decide +kernel
theorem d6_15 : decode method_3_code 15 = .ok (.if_icmp .ne 7, 3) := by decide +kernel
theorem d6_18 : decode method_3_code 18 = .ok (.ldc2_w 10, 3) := by decide +kernel
theorem d6_21 : decode method_3_code 21 = .ok (.lreturn, 1) := by decide +kernel
set_option maxRecDepth 65536 in
set_option maxHeartbeats 40000000 in
theorem rm6_ttf (l : Launch) (Z : State) (a0 : Array Value) (hw : ∀ d ∈ tables_1, d.before a0 Z = true) (ws : List Jvm.Cond) (p1 : Int32) (h0 : Heap) (n0 : Nat) (Z0 : n0 ≤ h0.size) (hc1 : ¬ (p1 = (0 : Int32))) (hc8 : ¬ (p1 = (1 : Int32))) (hc15 : p1 = (2 : Int32)) :
    MetFree l (⟨"com/example/cablegram/cablegram/engine/EnvelopeIsPinLaw", "deltaLong", "(I)J"⟩ : MethodName) (head1 (Jvm.Cond.code (⟨"com/example/cablegram/cablegram/engine/EnvelopeIsPinLaw", "deltaLong", "(I)J"⟩ : MethodName) method_3_code 1 (some .long) :: ws) ({ frames := 0, cells := 0, slots := 0, locals := 0 } : Room)) (fun a U => a = #[(.int p1)] ∧ Z.Warmed39 U.vm ∧ U.heap = h0) (fun _ _ _ _ _ => True) (fun _ U o U' => ∃ v L, o = .returned v ∧ Qv (some (.long (-1 : Int64))) h0 n0 v U'.heap L ∧ FrameEnd U o U' L ({ frames := 0, cells := 0, slots := 0, locals := 0 } : Room).cells ({ frames := 0, cells := 0, slots := 0, locals := 0 } : Room).slots) := by
  refine MetFree.of_bodySF (plainFor_of_name pn_6) hisR ?_
  intro p e s m args below meth c s₁ Bd hml0 hP hK
  obtain ⟨rfl, hZ, hh⟩ := hP
  have hx := Bd.exec
  have hby := Bd.bytes
  have hml : c.maxLocals = 1 := hml0
  have hown : s.vm.findClass "com/example/cablegram/cablegram/engine/EnvelopeIsPinLaw" = some m.cls := findClass_of_methodNamed Bd.named
  have hnm := (name_of_methodNamed Bd.named Bd.method).1
  have X0 : Stand p l e ({ frames := 0, cells := 0, slots := 0, locals := 0 } : Room) s m #[(.int p1)] below meth c s₁ [] 0 0 := Stand.of_body Bd
  have e0 : s₁.heap = h0 := by rw [← hh, Bd.state]; rfl
  have N0 := Fr.nil n0
  have pre0 : ∀ t, Steps p.tables e below (s₁.setTop (mkF m 0 #[.val (.int p1)] [])) t → Steps p.tables e below (s₁.setTop (entryFrame m #[(.int p1)] 1)) t := fun t k => castTop (ef_6 m p1) k
  -- 3. LAWS

  obtain ⟨fs, hr, hrun, hended, hW, hsame⟩ := X0.leave (v := some (.long (-1 : Int64))) (fun h => by rw [Bd.returns] at h; cases h)
  refine ⟨_, _, pre0 _ ?_, hrun, hended, _, _, rfl, ?_, ⟨_, rfl⟩, hW, hsame.mono (by decide) (by decide)⟩
  -- 4. STEPS
  · show Steps p.tables e below (s₁.setTop (mkF m 0 #[.val (.int p1)] [])) _
    refine XS.iloadN X0.here hx rfl (hb hby d6_0) rfl ?_
    show Steps p.tables e below (s₁.setTop (mkF m 1 #[.val (.int p1)] [(.int p1)])) _
    refine XS.ifYes X0.here hx rfl (pc0 := 1) (pc' := 6) rfl (hb hby d6_1) rfl ((if0 _ _).trans (feq hc1).2) (by decide) (by decide) ?_
    show Steps p.tables e below (s₁.setTop (mkF m 6 #[.val (.int p1)] [])) _
    refine XS.iloadN X0.here hx rfl (hb hby d6_6) rfl ?_
    show Steps p.tables e below (s₁.setTop (mkF m 7 #[.val (.int p1)] [(.int p1)])) _
    refine XS.iconst X0.here hx rfl (hb hby d6_7) ?_
    show Steps p.tables e below (s₁.setTop (mkF m 8 #[.val (.int p1)] [(.int (1 : Int32)), (.int p1)])) _
    refine XS.icmpYes X0.here hx rfl (pc0 := 8) (pc' := 13) rfl (hb hby d6_8) rfl (feq hc8).2 (by decide) (by decide) ?_
    show Steps p.tables e below (s₁.setTop (mkF m 13 #[.val (.int p1)] [])) _
    refine XS.iloadN X0.here hx rfl (hb hby d6_13) rfl ?_
    show Steps p.tables e below (s₁.setTop (mkF m 14 #[.val (.int p1)] [(.int p1)])) _
    refine XS.iconst X0.here hx rfl (hb hby d6_14) ?_
    show Steps p.tables e below (s₁.setTop (mkF m 15 #[.val (.int p1)] [(.int (2 : Int32)), (.int p1)])) _
    refine XS.icmpNo X0.here hx rfl (hb hby d6_15) rfl (teq hc15).2 ?_
    show Steps p.tables e below (s₁.setTop (mkF m 18 #[.val (.int p1)] [])) _
    refine X0.ldc2Long hx hown (mvT hZ (hw _ (List.mem_of_getElem? (i := 45) rfl))) (g := (mkF m 18 #[.val (.int p1)] [])) rfl (hb hby d6_18) _ ?_
    show Steps p.tables e below (s₁.setTop (mkF m 21 #[.val (.int p1)] [(.long (-1 : Int64))])) _
    jvm_step X0.here [X0.here.top, hx, (hb hby d6_21), X0.method', Bd.returns, narrow]
    first | (intro acts; rw [hr _ acts rfl rfl rfl]) | rw [hr _ _ rfl rfl rfl]
    exact Steps.refl _
  · show Qv (some (.long (-1 : Int64))) h0 n0 _ s₁.heap _
    rw [e0]
    exact ⟨rfl, N0, rfl⟩
theorem d5_20 : decode method_2_code 20 = .ok (.ldc 9, 2) := by decide +kernel
theorem d5_22 : decode method_2_code 22 = .ok (.ireturn, 1) := by decide +kernel
set_option maxRecDepth 65536 in
set_option maxHeartbeats 40000000 in
theorem rm5_ttt (l : Launch) (Z : State) (a0 : Array Value) (hw : ∀ d ∈ tables_1, d.before a0 Z = true) (ws : List Jvm.Cond) (p1 : Int32) (h0 : Heap) (n0 : Nat) (Z0 : n0 ≤ h0.size) (hc1 : ¬ (p1 = (0 : Int32))) (hc8 : ¬ (p1 = (1 : Int32))) (hc15 : ¬ (p1 = (2 : Int32))) :
    MetFree l (⟨"com/example/cablegram/cablegram/engine/EnvelopeIsPinLaw", "delta", "(I)I"⟩ : MethodName) (head1 (Jvm.Cond.code (⟨"com/example/cablegram/cablegram/engine/EnvelopeIsPinLaw", "delta", "(I)I"⟩ : MethodName) method_2_code 1 (some .int) :: ws) ({ frames := 0, cells := 0, slots := 0, locals := 0 } : Room)) (fun a U => a = #[(.int p1)] ∧ Z.Warmed39 U.vm ∧ U.heap = h0) (fun _ _ _ _ _ => True) (fun _ U o U' => ∃ v L, o = .returned v ∧ Qv (some (.int (-2147483648 : Int32))) h0 n0 v U'.heap L ∧ FrameEnd U o U' L ({ frames := 0, cells := 0, slots := 0, locals := 0 } : Room).cells ({ frames := 0, cells := 0, slots := 0, locals := 0 } : Room).slots) := by
  refine MetFree.of_bodySF (plainFor_of_name pn_5) hisR ?_
  intro p e s m args below meth c s₁ Bd hml0 hP hK
  obtain ⟨rfl, hZ, hh⟩ := hP
  have hx := Bd.exec
  have hby := Bd.bytes
  have hml : c.maxLocals = 1 := hml0
  have hown : s.vm.findClass "com/example/cablegram/cablegram/engine/EnvelopeIsPinLaw" = some m.cls := findClass_of_methodNamed Bd.named
  have hnm := (name_of_methodNamed Bd.named Bd.method).1
  have X0 : Stand p l e ({ frames := 0, cells := 0, slots := 0, locals := 0 } : Room) s m #[(.int p1)] below meth c s₁ [] 0 0 := Stand.of_body Bd
  have e0 : s₁.heap = h0 := by rw [← hh, Bd.state]; rfl
  have N0 := Fr.nil n0
  have pre0 : ∀ t, Steps p.tables e below (s₁.setTop (mkF m 0 #[.val (.int p1)] [])) t → Steps p.tables e below (s₁.setTop (entryFrame m #[(.int p1)] 1)) t := fun t k => castTop (ef_5 m p1) k
  -- 3. LAWS

  obtain ⟨fs, hr, hrun, hended, hW, hsame⟩ := X0.leave (v := some (.int (-2147483648 : Int32))) (fun h => by rw [Bd.returns] at h; cases h)
  refine ⟨_, _, pre0 _ ?_, hrun, hended, _, _, rfl, ?_, ⟨_, rfl⟩, hW, hsame.mono (by decide) (by decide)⟩
  -- 4. STEPS
  · show Steps p.tables e below (s₁.setTop (mkF m 0 #[.val (.int p1)] [])) _
    refine XS.iloadN X0.here hx rfl (hb hby d5_0) rfl ?_
    show Steps p.tables e below (s₁.setTop (mkF m 1 #[.val (.int p1)] [(.int p1)])) _
    refine XS.ifYes X0.here hx rfl (pc0 := 1) (pc' := 6) rfl (hb hby d5_1) rfl ((if0 _ _).trans (feq hc1).2) (by decide) (by decide) ?_
    show Steps p.tables e below (s₁.setTop (mkF m 6 #[.val (.int p1)] [])) _
    refine XS.iloadN X0.here hx rfl (hb hby d5_6) rfl ?_
    show Steps p.tables e below (s₁.setTop (mkF m 7 #[.val (.int p1)] [(.int p1)])) _
    refine XS.iconst X0.here hx rfl (hb hby d5_7) ?_
    show Steps p.tables e below (s₁.setTop (mkF m 8 #[.val (.int p1)] [(.int (1 : Int32)), (.int p1)])) _
    refine XS.icmpYes X0.here hx rfl (pc0 := 8) (pc' := 13) rfl (hb hby d5_8) rfl (feq hc8).2 (by decide) (by decide) ?_
    show Steps p.tables e below (s₁.setTop (mkF m 13 #[.val (.int p1)] [])) _
    refine XS.iloadN X0.here hx rfl (hb hby d5_13) rfl ?_
    show Steps p.tables e below (s₁.setTop (mkF m 14 #[.val (.int p1)] [(.int p1)])) _
    refine XS.iconst X0.here hx rfl (hb hby d5_14) ?_
    show Steps p.tables e below (s₁.setTop (mkF m 15 #[.val (.int p1)] [(.int (2 : Int32)), (.int p1)])) _
    refine XS.icmpYes X0.here hx rfl (pc0 := 15) (pc' := 20) rfl (hb hby d5_15) rfl (feq hc15).2 (by decide) (by decide) ?_
    show Steps p.tables e below (s₁.setTop (mkF m 20 #[.val (.int p1)] [])) _
    refine X0.ldcInt hx hown (mvT hZ (hw _ (List.mem_of_getElem? (i := 44) rfl))) (g := (mkF m 20 #[.val (.int p1)] [])) rfl (hb hby d5_20) _ ?_
    show Steps p.tables e below (s₁.setTop (mkF m 22 #[.val (.int p1)] [(.int (-2147483648 : Int32))])) _
    exact retI X0 hx Bd.returns (hb hby d5_22) hr      -- retI stands in the head ('lawwalk <made dir>' prints it)
  · show Qv (some (.int (-2147483648 : Int32))) h0 n0 _ s₁.heap _
    rw [e0]
    exact ⟨rfl, N0, rfl⟩
theorem d6_22 : decode method_3_code 22 = .ok (.ldc2_w 14, 3) := by decide +kernel
theorem d6_25 : decode method_3_code 25 = .ok (.lreturn, 1) := by decide +kernel
set_option maxRecDepth 65536 in
set_option maxHeartbeats 40000000 in
theorem rm6_ttt (l : Launch) (Z : State) (a0 : Array Value) (hw : ∀ d ∈ tables_1, d.before a0 Z = true) (ws : List Jvm.Cond) (p1 : Int32) (h0 : Heap) (n0 : Nat) (Z0 : n0 ≤ h0.size) (hc1 : ¬ (p1 = (0 : Int32))) (hc8 : ¬ (p1 = (1 : Int32))) (hc15 : ¬ (p1 = (2 : Int32))) :
    MetFree l (⟨"com/example/cablegram/cablegram/engine/EnvelopeIsPinLaw", "deltaLong", "(I)J"⟩ : MethodName) (head1 (Jvm.Cond.code (⟨"com/example/cablegram/cablegram/engine/EnvelopeIsPinLaw", "deltaLong", "(I)J"⟩ : MethodName) method_3_code 1 (some .long) :: ws) ({ frames := 0, cells := 0, slots := 0, locals := 0 } : Room)) (fun a U => a = #[(.int p1)] ∧ Z.Warmed39 U.vm ∧ U.heap = h0) (fun _ _ _ _ _ => True) (fun _ U o U' => ∃ v L, o = .returned v ∧ Qv (some (.long (-9223372036854775808 : Int64))) h0 n0 v U'.heap L ∧ FrameEnd U o U' L ({ frames := 0, cells := 0, slots := 0, locals := 0 } : Room).cells ({ frames := 0, cells := 0, slots := 0, locals := 0 } : Room).slots) := by
  refine MetFree.of_bodySF (plainFor_of_name pn_6) hisR ?_
  intro p e s m args below meth c s₁ Bd hml0 hP hK
  obtain ⟨rfl, hZ, hh⟩ := hP
  have hx := Bd.exec
  have hby := Bd.bytes
  have hml : c.maxLocals = 1 := hml0
  have hown : s.vm.findClass "com/example/cablegram/cablegram/engine/EnvelopeIsPinLaw" = some m.cls := findClass_of_methodNamed Bd.named
  have hnm := (name_of_methodNamed Bd.named Bd.method).1
  have X0 : Stand p l e ({ frames := 0, cells := 0, slots := 0, locals := 0 } : Room) s m #[(.int p1)] below meth c s₁ [] 0 0 := Stand.of_body Bd
  have e0 : s₁.heap = h0 := by rw [← hh, Bd.state]; rfl
  have N0 := Fr.nil n0
  have pre0 : ∀ t, Steps p.tables e below (s₁.setTop (mkF m 0 #[.val (.int p1)] [])) t → Steps p.tables e below (s₁.setTop (entryFrame m #[(.int p1)] 1)) t := fun t k => castTop (ef_6 m p1) k
  -- 3. LAWS

  obtain ⟨fs, hr, hrun, hended, hW, hsame⟩ := X0.leave (v := some (.long (-9223372036854775808 : Int64))) (fun h => by rw [Bd.returns] at h; cases h)
  refine ⟨_, _, pre0 _ ?_, hrun, hended, _, _, rfl, ?_, ⟨_, rfl⟩, hW, hsame.mono (by decide) (by decide)⟩
  -- 4. STEPS
  · show Steps p.tables e below (s₁.setTop (mkF m 0 #[.val (.int p1)] [])) _
    refine XS.iloadN X0.here hx rfl (hb hby d6_0) rfl ?_
    show Steps p.tables e below (s₁.setTop (mkF m 1 #[.val (.int p1)] [(.int p1)])) _
    refine XS.ifYes X0.here hx rfl (pc0 := 1) (pc' := 6) rfl (hb hby d6_1) rfl ((if0 _ _).trans (feq hc1).2) (by decide) (by decide) ?_
    show Steps p.tables e below (s₁.setTop (mkF m 6 #[.val (.int p1)] [])) _
    refine XS.iloadN X0.here hx rfl (hb hby d6_6) rfl ?_
    show Steps p.tables e below (s₁.setTop (mkF m 7 #[.val (.int p1)] [(.int p1)])) _
    refine XS.iconst X0.here hx rfl (hb hby d6_7) ?_
    show Steps p.tables e below (s₁.setTop (mkF m 8 #[.val (.int p1)] [(.int (1 : Int32)), (.int p1)])) _
    refine XS.icmpYes X0.here hx rfl (pc0 := 8) (pc' := 13) rfl (hb hby d6_8) rfl (feq hc8).2 (by decide) (by decide) ?_
    show Steps p.tables e below (s₁.setTop (mkF m 13 #[.val (.int p1)] [])) _
    refine XS.iloadN X0.here hx rfl (hb hby d6_13) rfl ?_
    show Steps p.tables e below (s₁.setTop (mkF m 14 #[.val (.int p1)] [(.int p1)])) _
    refine XS.iconst X0.here hx rfl (hb hby d6_14) ?_
    show Steps p.tables e below (s₁.setTop (mkF m 15 #[.val (.int p1)] [(.int (2 : Int32)), (.int p1)])) _
    refine XS.icmpYes X0.here hx rfl (pc0 := 15) (pc' := 22) rfl (hb hby d6_15) rfl (feq hc15).2 (by decide) (by decide) ?_
    show Steps p.tables e below (s₁.setTop (mkF m 22 #[.val (.int p1)] [])) _
    refine X0.ldc2Long hx hown (mvT hZ (hw _ (List.mem_of_getElem? (i := 46) rfl))) (g := (mkF m 22 #[.val (.int p1)] [])) rfl (hb hby d6_22) _ ?_
    show Steps p.tables e below (s₁.setTop (mkF m 25 #[.val (.int p1)] [(.long (-9223372036854775808 : Int64))])) _
    jvm_step X0.here [X0.here.top, hx, (hb hby d6_25), X0.method', Bd.returns, narrow]
    first | (intro acts; rw [hr _ acts rfl rfl rfl]) | rw [hr _ _ rfl rfl rfl]
    exact Steps.refl _
  · show Qv (some (.long (-9223372036854775808 : Int64))) h0 n0 _ s₁.heap _
    rw [e0]
    exact ⟨rfl, N0, rfl⟩
theorem rm5 (l : Launch) (Z : State) (a0 : Array Value) (hw : ∀ d ∈ tables_1, d.before a0 Z = true) (ws : List Jvm.Cond) (p1 : Int32) (h0 : Heap) (n0 : Nat) (Z0 : n0 ≤ h0.size) :
    MetFree l (⟨"com/example/cablegram/cablegram/engine/EnvelopeIsPinLaw", "delta", "(I)I"⟩ : MethodName) (head1 (Jvm.Cond.code (⟨"com/example/cablegram/cablegram/engine/EnvelopeIsPinLaw", "delta", "(I)I"⟩ : MethodName) method_2_code 1 (some .int) :: ws) ({ frames := 0, cells := 0, slots := 0, locals := 0 } : Room)) (fun a U => a = #[(.int p1)] ∧ Z.Warmed39 U.vm ∧ U.heap = h0) (fun _ _ _ _ _ => True) (fun _ U o U' => ∃ v L, o = .returned v ∧ Qv (some (.int (own_delta p1))) h0 n0 v U'.heap L ∧ FrameEnd U o U' L ({ frames := 0, cells := 0, slots := 0, locals := 0 } : Room).cells ({ frames := 0, cells := 0, slots := 0, locals := 0 } : Room).slots) := by
  by_cases h0' : p1 = 0
  · rw [show own_delta p1 = 0 from by unfold own_delta; rw [if_pos h0']]
    exact rm5_f l Z a0 hw ws p1 h0 n0 Z0 h0'
  by_cases h1 : p1 = 1
  · rw [show own_delta p1 = 1 from by unfold own_delta; rw [if_neg h0', if_pos h1]]
    exact rm5_tf l Z a0 hw ws p1 h0 n0 Z0 h0' h1
  by_cases h2 : p1 = 2
  · rw [show own_delta p1 = -1 from by unfold own_delta; rw [if_neg h0', if_neg h1, if_pos h2]]
    exact rm5_ttf l Z a0 hw ws p1 h0 n0 Z0 h0' h1 h2
  · rw [show own_delta p1 = -2147483648 from by unfold own_delta; rw [if_neg h0', if_neg h1, if_neg h2]]
    exact rm5_ttt l Z a0 hw ws p1 h0 n0 Z0 h0' h1 h2
theorem rm6 (l : Launch) (Z : State) (a0 : Array Value) (hw : ∀ d ∈ tables_1, d.before a0 Z = true) (ws : List Jvm.Cond) (p1 : Int32) (h0 : Heap) (n0 : Nat) (Z0 : n0 ≤ h0.size) :
    MetFree l (⟨"com/example/cablegram/cablegram/engine/EnvelopeIsPinLaw", "deltaLong", "(I)J"⟩ : MethodName) (head1 (Jvm.Cond.code (⟨"com/example/cablegram/cablegram/engine/EnvelopeIsPinLaw", "deltaLong", "(I)J"⟩ : MethodName) method_3_code 1 (some .long) :: ws) ({ frames := 0, cells := 0, slots := 0, locals := 0 } : Room)) (fun a U => a = #[(.int p1)] ∧ Z.Warmed39 U.vm ∧ U.heap = h0) (fun _ _ _ _ _ => True) (fun _ U o U' => ∃ v L, o = .returned v ∧ Qv (some (.long (own_deltaL p1))) h0 n0 v U'.heap L ∧ FrameEnd U o U' L ({ frames := 0, cells := 0, slots := 0, locals := 0 } : Room).cells ({ frames := 0, cells := 0, slots := 0, locals := 0 } : Room).slots) := by
  by_cases h0' : p1 = 0
  · rw [show own_deltaL p1 = 0 from by unfold own_deltaL; rw [if_pos h0']]
    exact rm6_f l Z a0 hw ws p1 h0 n0 Z0 h0'
  by_cases h1 : p1 = 1
  · rw [show own_deltaL p1 = 1 from by unfold own_deltaL; rw [if_neg h0', if_pos h1]]
    exact rm6_tf l Z a0 hw ws p1 h0 n0 Z0 h0' h1
  by_cases h2 : p1 = 2
  · rw [show own_deltaL p1 = -1 from by unfold own_deltaL; rw [if_neg h0', if_neg h1, if_pos h2]]
    exact rm6_ttf l Z a0 hw ws p1 h0 n0 Z0 h0' h1 h2
  · rw [show own_deltaL p1 = -9223372036854775808 from by unfold own_deltaL; rw [if_neg h0', if_neg h1, if_neg h2]]
    exact rm6_ttt l Z a0 hw ws p1 h0 n0 Z0 h0' h1 h2
theorem d7_0 : decode prog_30_method_4_code 0 = .ok (.aload_n 0, 1) := by decide +kernel
theorem d7_1 : decode prog_30_method_4_code 1 = .ok (.getfield 9, 3) := by decide +kernel
theorem d7_4 : decode prog_30_method_4_code 4 = .ok (.iload_n 1, 1) := by decide +kernel
theorem d7_5 : decode prog_30_method_4_code 5 = .ok (.if_icmp .ne 52, 3) := by decide +kernel
theorem d7_57 : decode prog_30_method_4_code 57 = .ok (.iconst 0, 1) := by decide +kernel
theorem d7_58 : decode prog_30_method_4_code 58 = .ok (.ireturn, 1) := by decide +kernel
theorem pn_7 : plainName "com/example/cablegram/cablegram/engine/Envelope" = true := by first | (simp [plainName, overriddenIn]; done) | decide +kernel
theorem ef_7 (m : MethodId) (x0 : Addr) (x1 : Int32) (x2 : Int64) (x3 : Int32) (x4 : Addr) (x5 : Int32) (x6 : Int32) : entryFrame m #[(.ref x0), (.int x1), (.long x2), (.int x3), (.ref x4), (.int x5), (.int x6)] 8 = mkF m 0 #[.val (.ref x0), .val (.int x1), .val (.long x2), .second, .val (.int x3), .val (.ref x4), .val (.int x5), .val (.int x6)] [] := by first | (simp [entryFrame, mkF, argsToLocals, Value.category]; done) | rfl
set_option maxRecDepth 65536 in
set_option maxHeartbeats 40000000 in
theorem rm7_t (l : Launch) (Z : State) (a0 : Array Value) (hw : ∀ d ∈ tables_1, d.before a0 Z = true) (ws : List Jvm.Cond) (a1 : Addr) (p2 : Int32) (q3 : Int64) (p4 : Int32) (a5 : Addr) (p6 : Int32) (p7 : Int32) (w8 : Int32) (h0 : Heap) (n0 : Nat) (Z0 : n0 ≤ h0.size) (F_source_a1 : Fld Z h0 a1 "com/example/cablegram/cablegram/engine/Envelope" "source" "I" (.int w8)) (hc5 : ¬ (w8 = p2)) :
    MetFree l (⟨"com/example/cablegram/cablegram/engine/Envelope", "is", "(IJILcom/example/cablegram/cablegram/engine/ElementType;II)Z"⟩ : MethodName) (head1 (Jvm.Cond.code (⟨"com/example/cablegram/cablegram/engine/Envelope", "is", "(IJILcom/example/cablegram/cablegram/engine/ElementType;II)Z"⟩ : MethodName) prog_30_method_4_code 8 (some .boolean) :: ws) ({ frames := 0, cells := 0, slots := 0, locals := 0 } : Room)) (fun a U => a = #[(.ref a1), (.int p2), (.long q3), (.int p4), (.ref a5), (.int p6), (.int p7)] ∧ Z.Warmed39 U.vm ∧ U.heap = h0) (fun _ _ _ _ _ => True) (fun _ U o U' => ∃ v L, o = .returned v ∧ Qv (some (.int (0 : Int32))) h0 n0 v U'.heap L ∧ FrameEnd U o U' L ({ frames := 0, cells := 0, slots := 0, locals := 0 } : Room).cells ({ frames := 0, cells := 0, slots := 0, locals := 0 } : Room).slots) := by
  refine MetFree.of_bodySF (plainFor_of_name pn_7) hisR ?_
  intro p e s m args below meth c s₁ Bd hml0 hP hK
  obtain ⟨rfl, hZ, hh⟩ := hP
  have hx := Bd.exec
  have hby := Bd.bytes
  have hml : c.maxLocals = 8 := hml0
  have hown : s.vm.findClass "com/example/cablegram/cablegram/engine/Envelope" = some m.cls := findClass_of_methodNamed Bd.named
  have hnm := (name_of_methodNamed Bd.named Bd.method).1
  have X0 : Stand p l e ({ frames := 0, cells := 0, slots := 0, locals := 0 } : Room) s m #[(.ref a1), (.int p2), (.long q3), (.int p4), (.ref a5), (.int p6), (.int p7)] below meth c s₁ [] 0 0 := Stand.of_body Bd
  have e0 : s₁.heap = h0 := by rw [← hh, Bd.state]; rfl
  have N0 := Fr.nil n0
  have pre0 : ∀ t, Steps p.tables e below (s₁.setTop (mkF m 0 #[.val (.ref a1), .val (.int p2), .val (.long q3), .second, .val (.int p4), .val (.ref a5), .val (.int p6), .val (.int p7)] [])) t → Steps p.tables e below (s₁.setTop (entryFrame m #[(.ref a1), (.int p2), (.long q3), (.int p4), (.ref a5), (.int p6), (.int p7)] 8)) t := fun t k => castTop (ef_7 m a1 p2 q3 p4 a5 p6 p7) k
  -- 3. LAWS
  obtain ⟨T9, X9, e9, st9⟩ := getF X0 hx hZ hown (host := "") (Or.inl (hw _ (List.mem_of_getElem? (i := 21) rfl))) Via.refl e0 F_source_a1 (g := (mkF m 1 #[.val (.ref a1), .val (.int p2), .val (.long q3), .second, .val (.int p4), .val (.ref a5), .val (.int p6), .val (.int p7)] [(.ref a1)])) rfl rfl (hb hby d7_1)
  obtain ⟨fs, hr, hrun, hended, hW, hsame⟩ := X9.leave (v := some (.int (0 : Int32))) (fun h => by rw [Bd.returns] at h; cases h)
  refine ⟨_, _, pre0 _ ?_, hrun, hended, _, _, rfl, ?_, ⟨_, rfl⟩, hW, hsame.mono (by decide) (by decide)⟩
  -- 4. STEPS
  · show Steps p.tables e below (s₁.setTop (mkF m 0 #[.val (.ref a1), .val (.int p2), .val (.long q3), .second, .val (.int p4), .val (.ref a5), .val (.int p6), .val (.int p7)] [])) _
    refine XS.aloadN X0.here hx rfl (hb hby d7_0) rfl rfl ?_
    show Steps p.tables e below (s₁.setTop (mkF m 1 #[.val (.ref a1), .val (.int p2), .val (.long q3), .second, .val (.int p4), .val (.ref a5), .val (.int p6), .val (.int p7)] [(.ref a1)])) _
    refine st9 _ ?_
    show Steps p.tables e below (T9.setTop (mkF m 4 #[.val (.ref a1), .val (.int p2), .val (.long q3), .second, .val (.int p4), .val (.ref a5), .val (.int p6), .val (.int p7)] [(.int w8)])) _
    refine XS.iloadN X9.here hx rfl (hb hby d7_4) rfl ?_
    show Steps p.tables e below (T9.setTop (mkF m 5 #[.val (.ref a1), .val (.int p2), .val (.long q3), .second, .val (.int p4), .val (.ref a5), .val (.int p6), .val (.int p7)] [(.int p2), (.int w8)])) _
    refine XS.icmpYes X9.here hx rfl (pc0 := 5) (pc' := 57) rfl (hb hby d7_5) rfl (feq hc5).2 (by decide) (by decide) ?_
    show Steps p.tables e below (T9.setTop (mkF m 57 #[.val (.ref a1), .val (.int p2), .val (.long q3), .second, .val (.int p4), .val (.ref a5), .val (.int p6), .val (.int p7)] [])) _
    refine XS.iconst X9.here hx rfl (hb hby d7_57) ?_
    show Steps p.tables e below (T9.setTop (mkF m 58 #[.val (.ref a1), .val (.int p2), .val (.long q3), .second, .val (.int p4), .val (.ref a5), .val (.int p6), .val (.int p7)] [(.int (0 : Int32))])) _
    exact retN X9 hx (t := .boolean) Bd.returns (by simp) (hb hby d7_58) hr
  · show Qv (some (.int (0 : Int32))) h0 n0 _ T9.heap _
    rw [e9]
    exact ⟨rfl, N0, rfl⟩
theorem d7_8 : decode prog_30_method_4_code 8 = .ok (.aload_n 0, 1) := by decide +kernel
theorem d7_9 : decode prog_30_method_4_code 9 = .ok (.getfield 15, 3) := by decide +kernel
theorem d7_12 : decode prog_30_method_4_code 12 = .ok (.lload_n 2, 1) := by decide +kernel
theorem d7_13 : decode prog_30_method_4_code 13 = .ok (.lcmp, 1) := by decide +kernel
theorem d7_14 : decode prog_30_method_4_code 14 = .ok (.ifCond .ne 43, 3) := by decide +kernel
set_option maxRecDepth 65536 in
set_option maxHeartbeats 40000000 in
theorem rm7_ft (l : Launch) (Z : State) (a0 : Array Value) (hw : ∀ d ∈ tables_1, d.before a0 Z = true) (ws : List Jvm.Cond) (a1 : Addr) (p2 : Int32) (q3 : Int64) (p4 : Int32) (a5 : Addr) (p6 : Int32) (p7 : Int32) (w8 : Int32) (w10 : Int64) (h0 : Heap) (n0 : Nat) (Z0 : n0 ≤ h0.size) (F_source_a1 : Fld Z h0 a1 "com/example/cablegram/cablegram/engine/Envelope" "source" "I" (.int w8)) (F_context_a1 : Fld Z h0 a1 "com/example/cablegram/cablegram/engine/Envelope" "context" "J" (.long w10)) (hc5 : w8 = p2) (hc14 : ¬ ((lcmpW w10 q3) = (0 : Int32))) :
    MetFree l (⟨"com/example/cablegram/cablegram/engine/Envelope", "is", "(IJILcom/example/cablegram/cablegram/engine/ElementType;II)Z"⟩ : MethodName) (head1 (Jvm.Cond.code (⟨"com/example/cablegram/cablegram/engine/Envelope", "is", "(IJILcom/example/cablegram/cablegram/engine/ElementType;II)Z"⟩ : MethodName) prog_30_method_4_code 8 (some .boolean) :: ws) ({ frames := 0, cells := 0, slots := 0, locals := 0 } : Room)) (fun a U => a = #[(.ref a1), (.int p2), (.long q3), (.int p4), (.ref a5), (.int p6), (.int p7)] ∧ Z.Warmed39 U.vm ∧ U.heap = h0) (fun _ _ _ _ _ => True) (fun _ U o U' => ∃ v L, o = .returned v ∧ Qv (some (.int (0 : Int32))) h0 n0 v U'.heap L ∧ FrameEnd U o U' L ({ frames := 0, cells := 0, slots := 0, locals := 0 } : Room).cells ({ frames := 0, cells := 0, slots := 0, locals := 0 } : Room).slots) := by
  refine MetFree.of_bodySF (plainFor_of_name pn_7) hisR ?_
  intro p e s m args below meth c s₁ Bd hml0 hP hK
  obtain ⟨rfl, hZ, hh⟩ := hP
  have hx := Bd.exec
  have hby := Bd.bytes
  have hml : c.maxLocals = 8 := hml0
  have hown : s.vm.findClass "com/example/cablegram/cablegram/engine/Envelope" = some m.cls := findClass_of_methodNamed Bd.named
  have hnm := (name_of_methodNamed Bd.named Bd.method).1
  have X0 : Stand p l e ({ frames := 0, cells := 0, slots := 0, locals := 0 } : Room) s m #[(.ref a1), (.int p2), (.long q3), (.int p4), (.ref a5), (.int p6), (.int p7)] below meth c s₁ [] 0 0 := Stand.of_body Bd
  have e0 : s₁.heap = h0 := by rw [← hh, Bd.state]; rfl
  have N0 := Fr.nil n0
  have pre0 : ∀ t, Steps p.tables e below (s₁.setTop (mkF m 0 #[.val (.ref a1), .val (.int p2), .val (.long q3), .second, .val (.int p4), .val (.ref a5), .val (.int p6), .val (.int p7)] [])) t → Steps p.tables e below (s₁.setTop (entryFrame m #[(.ref a1), (.int p2), (.long q3), (.int p4), (.ref a5), (.int p6), (.int p7)] 8)) t := fun t k => castTop (ef_7 m a1 p2 q3 p4 a5 p6 p7) k
  -- 3. LAWS
  obtain ⟨T9, X9, e9, st9⟩ := getF X0 hx hZ hown (host := "") (Or.inl (hw _ (List.mem_of_getElem? (i := 21) rfl))) Via.refl e0 F_source_a1 (g := (mkF m 1 #[.val (.ref a1), .val (.int p2), .val (.long q3), .second, .val (.int p4), .val (.ref a5), .val (.int p6), .val (.int p7)] [(.ref a1)])) rfl rfl (hb hby d7_1)
  obtain ⟨T11, X11, e11, st11⟩ := getF X9 hx hZ hown (host := "") (Or.inl (hw _ (List.mem_of_getElem? (i := 23) rfl))) Via.refl e9 F_context_a1 (g := (mkF m 9 #[.val (.ref a1), .val (.int p2), .val (.long q3), .second, .val (.int p4), .val (.ref a5), .val (.int p6), .val (.int p7)] [(.ref a1)])) rfl rfl (hb hby d7_9)
  obtain ⟨fs, hr, hrun, hended, hW, hsame⟩ := X11.leave (v := some (.int (0 : Int32))) (fun h => by rw [Bd.returns] at h; cases h)
  refine ⟨_, _, pre0 _ ?_, hrun, hended, _, _, rfl, ?_, ⟨_, rfl⟩, hW, hsame.mono (by decide) (by decide)⟩
  -- 4. STEPS
  · show Steps p.tables e below (s₁.setTop (mkF m 0 #[.val (.ref a1), .val (.int p2), .val (.long q3), .second, .val (.int p4), .val (.ref a5), .val (.int p6), .val (.int p7)] [])) _
    refine XS.aloadN X0.here hx rfl (hb hby d7_0) rfl rfl ?_
    show Steps p.tables e below (s₁.setTop (mkF m 1 #[.val (.ref a1), .val (.int p2), .val (.long q3), .second, .val (.int p4), .val (.ref a5), .val (.int p6), .val (.int p7)] [(.ref a1)])) _
    refine st9 _ ?_
    show Steps p.tables e below (T9.setTop (mkF m 4 #[.val (.ref a1), .val (.int p2), .val (.long q3), .second, .val (.int p4), .val (.ref a5), .val (.int p6), .val (.int p7)] [(.int w8)])) _
    refine XS.iloadN X9.here hx rfl (hb hby d7_4) rfl ?_
    show Steps p.tables e below (T9.setTop (mkF m 5 #[.val (.ref a1), .val (.int p2), .val (.long q3), .second, .val (.int p4), .val (.ref a5), .val (.int p6), .val (.int p7)] [(.int p2), (.int w8)])) _
    refine XS.icmpNo X9.here hx rfl (hb hby d7_5) rfl (teq hc5).2 ?_
    show Steps p.tables e below (T9.setTop (mkF m 8 #[.val (.ref a1), .val (.int p2), .val (.long q3), .second, .val (.int p4), .val (.ref a5), .val (.int p6), .val (.int p7)] [])) _
    refine XS.aloadN X9.here hx rfl (hb hby d7_8) rfl rfl ?_
    show Steps p.tables e below (T9.setTop (mkF m 9 #[.val (.ref a1), .val (.int p2), .val (.long q3), .second, .val (.int p4), .val (.ref a5), .val (.int p6), .val (.int p7)] [(.ref a1)])) _
    refine st11 _ ?_
    show Steps p.tables e below (T11.setTop (mkF m 12 #[.val (.ref a1), .val (.int p2), .val (.long q3), .second, .val (.int p4), .val (.ref a5), .val (.int p6), .val (.int p7)] [(.long w10)])) _
    refine XS.lloadN X11.here hx rfl (hb hby d7_12) rfl ?_
    show Steps p.tables e below (T11.setTop (mkF m 13 #[.val (.ref a1), .val (.int p2), .val (.long q3), .second, .val (.int p4), .val (.ref a5), .val (.int p6), .val (.int p7)] [(.long q3), (.long w10)])) _
    refine XS.lcmp X11.here hx rfl (hb hby d7_13) rfl ?_
    show Steps p.tables e below (T11.setTop (mkF m 14 #[.val (.ref a1), .val (.int p2), .val (.long q3), .second, .val (.int p4), .val (.ref a5), .val (.int p6), .val (.int p7)] [(.int (lcmpW w10 q3))])) _
    refine XS.ifYes X11.here hx rfl (pc0 := 14) (pc' := 57) rfl (hb hby d7_14) rfl ((if0 _ _).trans (feq hc14).2) (by decide) (by decide) ?_
    show Steps p.tables e below (T11.setTop (mkF m 57 #[.val (.ref a1), .val (.int p2), .val (.long q3), .second, .val (.int p4), .val (.ref a5), .val (.int p6), .val (.int p7)] [])) _
    refine XS.iconst X11.here hx rfl (hb hby d7_57) ?_
    show Steps p.tables e below (T11.setTop (mkF m 58 #[.val (.ref a1), .val (.int p2), .val (.long q3), .second, .val (.int p4), .val (.ref a5), .val (.int p6), .val (.int p7)] [(.int (0 : Int32))])) _
    exact retN X11 hx (t := .boolean) Bd.returns (by simp) (hb hby d7_58) hr
  · show Qv (some (.int (0 : Int32))) h0 n0 _ T11.heap _
    rw [e11]
    exact ⟨rfl, N0, rfl⟩
theorem d7_17 : decode prog_30_method_4_code 17 = .ok (.aload_n 0, 1) := by decide +kernel
theorem d7_18 : decode prog_30_method_4_code 18 = .ok (.getfield 19, 3) := by decide +kernel
theorem d7_21 : decode prog_30_method_4_code 21 = .ok (.iload 4, 2) := by decide +kernel
theorem d7_23 : decode prog_30_method_4_code 23 = .ok (.if_icmp .ne 34, 3) := by decide +kernel
set_option maxRecDepth 65536 in
set_option maxHeartbeats 40000000 in
theorem rm7_fft (l : Launch) (Z : State) (a0 : Array Value) (hw : ∀ d ∈ tables_1, d.before a0 Z = true) (ws : List Jvm.Cond) (a1 : Addr) (p2 : Int32) (q3 : Int64) (p4 : Int32) (a5 : Addr) (p6 : Int32) (p7 : Int32) (w8 : Int32) (w10 : Int64) (w12 : Int32) (h0 : Heap) (n0 : Nat) (Z0 : n0 ≤ h0.size) (F_source_a1 : Fld Z h0 a1 "com/example/cablegram/cablegram/engine/Envelope" "source" "I" (.int w8)) (F_context_a1 : Fld Z h0 a1 "com/example/cablegram/cablegram/engine/Envelope" "context" "J" (.long w10)) (F_tag_a1 : Fld Z h0 a1 "com/example/cablegram/cablegram/engine/Envelope" "tag" "I" (.int w12)) (hc5 : w8 = p2) (hc14 : (lcmpW w10 q3) = (0 : Int32)) (hc23 : ¬ (w12 = p4)) :
    MetFree l (⟨"com/example/cablegram/cablegram/engine/Envelope", "is", "(IJILcom/example/cablegram/cablegram/engine/ElementType;II)Z"⟩ : MethodName) (head1 (Jvm.Cond.code (⟨"com/example/cablegram/cablegram/engine/Envelope", "is", "(IJILcom/example/cablegram/cablegram/engine/ElementType;II)Z"⟩ : MethodName) prog_30_method_4_code 8 (some .boolean) :: ws) ({ frames := 0, cells := 0, slots := 0, locals := 0 } : Room)) (fun a U => a = #[(.ref a1), (.int p2), (.long q3), (.int p4), (.ref a5), (.int p6), (.int p7)] ∧ Z.Warmed39 U.vm ∧ U.heap = h0) (fun _ _ _ _ _ => True) (fun _ U o U' => ∃ v L, o = .returned v ∧ Qv (some (.int (0 : Int32))) h0 n0 v U'.heap L ∧ FrameEnd U o U' L ({ frames := 0, cells := 0, slots := 0, locals := 0 } : Room).cells ({ frames := 0, cells := 0, slots := 0, locals := 0 } : Room).slots) := by
  refine MetFree.of_bodySF (plainFor_of_name pn_7) hisR ?_
  intro p e s m args below meth c s₁ Bd hml0 hP hK
  obtain ⟨rfl, hZ, hh⟩ := hP
  have hx := Bd.exec
  have hby := Bd.bytes
  have hml : c.maxLocals = 8 := hml0
  have hown : s.vm.findClass "com/example/cablegram/cablegram/engine/Envelope" = some m.cls := findClass_of_methodNamed Bd.named
  have hnm := (name_of_methodNamed Bd.named Bd.method).1
  have X0 : Stand p l e ({ frames := 0, cells := 0, slots := 0, locals := 0 } : Room) s m #[(.ref a1), (.int p2), (.long q3), (.int p4), (.ref a5), (.int p6), (.int p7)] below meth c s₁ [] 0 0 := Stand.of_body Bd
  have e0 : s₁.heap = h0 := by rw [← hh, Bd.state]; rfl
  have N0 := Fr.nil n0
  have pre0 : ∀ t, Steps p.tables e below (s₁.setTop (mkF m 0 #[.val (.ref a1), .val (.int p2), .val (.long q3), .second, .val (.int p4), .val (.ref a5), .val (.int p6), .val (.int p7)] [])) t → Steps p.tables e below (s₁.setTop (entryFrame m #[(.ref a1), (.int p2), (.long q3), (.int p4), (.ref a5), (.int p6), (.int p7)] 8)) t := fun t k => castTop (ef_7 m a1 p2 q3 p4 a5 p6 p7) k
  -- 3. LAWS
  obtain ⟨T9, X9, e9, st9⟩ := getF X0 hx hZ hown (host := "") (Or.inl (hw _ (List.mem_of_getElem? (i := 21) rfl))) Via.refl e0 F_source_a1 (g := (mkF m 1 #[.val (.ref a1), .val (.int p2), .val (.long q3), .second, .val (.int p4), .val (.ref a5), .val (.int p6), .val (.int p7)] [(.ref a1)])) rfl rfl (hb hby d7_1)
  obtain ⟨T11, X11, e11, st11⟩ := getF X9 hx hZ hown (host := "") (Or.inl (hw _ (List.mem_of_getElem? (i := 23) rfl))) Via.refl e9 F_context_a1 (g := (mkF m 9 #[.val (.ref a1), .val (.int p2), .val (.long q3), .second, .val (.int p4), .val (.ref a5), .val (.int p6), .val (.int p7)] [(.ref a1)])) rfl rfl (hb hby d7_9)
  obtain ⟨T13, X13, e13, st13⟩ := getF X11 hx hZ hown (host := "") (Or.inl (hw _ (List.mem_of_getElem? (i := 25) rfl))) Via.refl e11 F_tag_a1 (g := (mkF m 18 #[.val (.ref a1), .val (.int p2), .val (.long q3), .second, .val (.int p4), .val (.ref a5), .val (.int p6), .val (.int p7)] [(.ref a1)])) rfl rfl (hb hby d7_18)
  obtain ⟨fs, hr, hrun, hended, hW, hsame⟩ := X13.leave (v := some (.int (0 : Int32))) (fun h => by rw [Bd.returns] at h; cases h)
  refine ⟨_, _, pre0 _ ?_, hrun, hended, _, _, rfl, ?_, ⟨_, rfl⟩, hW, hsame.mono (by decide) (by decide)⟩
  -- 4. STEPS
  · show Steps p.tables e below (s₁.setTop (mkF m 0 #[.val (.ref a1), .val (.int p2), .val (.long q3), .second, .val (.int p4), .val (.ref a5), .val (.int p6), .val (.int p7)] [])) _
    refine XS.aloadN X0.here hx rfl (hb hby d7_0) rfl rfl ?_
    show Steps p.tables e below (s₁.setTop (mkF m 1 #[.val (.ref a1), .val (.int p2), .val (.long q3), .second, .val (.int p4), .val (.ref a5), .val (.int p6), .val (.int p7)] [(.ref a1)])) _
    refine st9 _ ?_
    show Steps p.tables e below (T9.setTop (mkF m 4 #[.val (.ref a1), .val (.int p2), .val (.long q3), .second, .val (.int p4), .val (.ref a5), .val (.int p6), .val (.int p7)] [(.int w8)])) _
    refine XS.iloadN X9.here hx rfl (hb hby d7_4) rfl ?_
    show Steps p.tables e below (T9.setTop (mkF m 5 #[.val (.ref a1), .val (.int p2), .val (.long q3), .second, .val (.int p4), .val (.ref a5), .val (.int p6), .val (.int p7)] [(.int p2), (.int w8)])) _
    refine XS.icmpNo X9.here hx rfl (hb hby d7_5) rfl (teq hc5).2 ?_
    show Steps p.tables e below (T9.setTop (mkF m 8 #[.val (.ref a1), .val (.int p2), .val (.long q3), .second, .val (.int p4), .val (.ref a5), .val (.int p6), .val (.int p7)] [])) _
    refine XS.aloadN X9.here hx rfl (hb hby d7_8) rfl rfl ?_
    show Steps p.tables e below (T9.setTop (mkF m 9 #[.val (.ref a1), .val (.int p2), .val (.long q3), .second, .val (.int p4), .val (.ref a5), .val (.int p6), .val (.int p7)] [(.ref a1)])) _
    refine st11 _ ?_
    show Steps p.tables e below (T11.setTop (mkF m 12 #[.val (.ref a1), .val (.int p2), .val (.long q3), .second, .val (.int p4), .val (.ref a5), .val (.int p6), .val (.int p7)] [(.long w10)])) _
    refine XS.lloadN X11.here hx rfl (hb hby d7_12) rfl ?_
    show Steps p.tables e below (T11.setTop (mkF m 13 #[.val (.ref a1), .val (.int p2), .val (.long q3), .second, .val (.int p4), .val (.ref a5), .val (.int p6), .val (.int p7)] [(.long q3), (.long w10)])) _
    refine XS.lcmp X11.here hx rfl (hb hby d7_13) rfl ?_
    show Steps p.tables e below (T11.setTop (mkF m 14 #[.val (.ref a1), .val (.int p2), .val (.long q3), .second, .val (.int p4), .val (.ref a5), .val (.int p6), .val (.int p7)] [(.int (lcmpW w10 q3))])) _
    refine XS.ifNo X11.here hx rfl (hb hby d7_14) rfl ((if0 _ _).trans (teq hc14).2) ?_
    show Steps p.tables e below (T11.setTop (mkF m 17 #[.val (.ref a1), .val (.int p2), .val (.long q3), .second, .val (.int p4), .val (.ref a5), .val (.int p6), .val (.int p7)] [])) _
    refine XS.aloadN X11.here hx rfl (hb hby d7_17) rfl rfl ?_
    show Steps p.tables e below (T11.setTop (mkF m 18 #[.val (.ref a1), .val (.int p2), .val (.long q3), .second, .val (.int p4), .val (.ref a5), .val (.int p6), .val (.int p7)] [(.ref a1)])) _
    refine st13 _ ?_
    show Steps p.tables e below (T13.setTop (mkF m 21 #[.val (.ref a1), .val (.int p2), .val (.long q3), .second, .val (.int p4), .val (.ref a5), .val (.int p6), .val (.int p7)] [(.int w12)])) _
    refine XS.iload X13.here hx rfl (hb hby d7_21) rfl ?_
    show Steps p.tables e below (T13.setTop (mkF m 23 #[.val (.ref a1), .val (.int p2), .val (.long q3), .second, .val (.int p4), .val (.ref a5), .val (.int p6), .val (.int p7)] [(.int p4), (.int w12)])) _
    refine XS.icmpYes X13.here hx rfl (pc0 := 23) (pc' := 57) rfl (hb hby d7_23) rfl (feq hc23).2 (by decide) (by decide) ?_
    show Steps p.tables e below (T13.setTop (mkF m 57 #[.val (.ref a1), .val (.int p2), .val (.long q3), .second, .val (.int p4), .val (.ref a5), .val (.int p6), .val (.int p7)] [])) _
    refine XS.iconst X13.here hx rfl (hb hby d7_57) ?_
    show Steps p.tables e below (T13.setTop (mkF m 58 #[.val (.ref a1), .val (.int p2), .val (.long q3), .second, .val (.int p4), .val (.ref a5), .val (.int p6), .val (.int p7)] [(.int (0 : Int32))])) _
    exact retN X13 hx (t := .boolean) Bd.returns (by simp) (hb hby d7_58) hr
  · show Qv (some (.int (0 : Int32))) h0 n0 _ T13.heap _
    rw [e13]
    exact ⟨rfl, N0, rfl⟩
theorem d7_26 : decode prog_30_method_4_code 26 = .ok (.aload_n 0, 1) := by decide +kernel
theorem d7_27 : decode prog_30_method_4_code 27 = .ok (.getfield 22, 3) := by decide +kernel
theorem d7_30 : decode prog_30_method_4_code 30 = .ok (.aload 5, 2) := by decide +kernel
theorem d7_32 : decode prog_30_method_4_code 32 = .ok (.if_acmp .ne 25, 3) := by decide +kernel
set_option maxRecDepth 65536 in
set_option maxHeartbeats 40000000 in
theorem rm7_ffft (l : Launch) (Z : State) (a0 : Array Value) (hw : ∀ d ∈ tables_1, d.before a0 Z = true) (ws : List Jvm.Cond) (a1 : Addr) (p2 : Int32) (q3 : Int64) (p4 : Int32) (a5 : Addr) (p6 : Int32) (p7 : Int32) (w8 : Int32) (w10 : Int64) (w12 : Int32) (w14 : Addr) (h0 : Heap) (n0 : Nat) (Z0 : n0 ≤ h0.size) (F_source_a1 : Fld Z h0 a1 "com/example/cablegram/cablegram/engine/Envelope" "source" "I" (.int w8)) (F_context_a1 : Fld Z h0 a1 "com/example/cablegram/cablegram/engine/Envelope" "context" "J" (.long w10)) (F_tag_a1 : Fld Z h0 a1 "com/example/cablegram/cablegram/engine/Envelope" "tag" "I" (.int w12)) (F_type_a1 : Fld Z h0 a1 "com/example/cablegram/cablegram/engine/Envelope" "type" "Lcom/example/cablegram/cablegram/engine/ElementType;" (.ref w14)) (hc5 : w8 = p2) (hc14 : (lcmpW w10 q3) = (0 : Int32)) (hc23 : w12 = p4) (ha32 : ¬ (w14 = a5)) :
    MetFree l (⟨"com/example/cablegram/cablegram/engine/Envelope", "is", "(IJILcom/example/cablegram/cablegram/engine/ElementType;II)Z"⟩ : MethodName) (head1 (Jvm.Cond.code (⟨"com/example/cablegram/cablegram/engine/Envelope", "is", "(IJILcom/example/cablegram/cablegram/engine/ElementType;II)Z"⟩ : MethodName) prog_30_method_4_code 8 (some .boolean) :: ws) ({ frames := 0, cells := 0, slots := 0, locals := 0 } : Room)) (fun a U => a = #[(.ref a1), (.int p2), (.long q3), (.int p4), (.ref a5), (.int p6), (.int p7)] ∧ Z.Warmed39 U.vm ∧ U.heap = h0) (fun _ _ _ _ _ => True) (fun _ U o U' => ∃ v L, o = .returned v ∧ Qv (some (.int (0 : Int32))) h0 n0 v U'.heap L ∧ FrameEnd U o U' L ({ frames := 0, cells := 0, slots := 0, locals := 0 } : Room).cells ({ frames := 0, cells := 0, slots := 0, locals := 0 } : Room).slots) := by
  refine MetFree.of_bodySF (plainFor_of_name pn_7) hisR ?_
  intro p e s m args below meth c s₁ Bd hml0 hP hK
  obtain ⟨rfl, hZ, hh⟩ := hP
  have hx := Bd.exec
  have hby := Bd.bytes
  have hml : c.maxLocals = 8 := hml0
  have hown : s.vm.findClass "com/example/cablegram/cablegram/engine/Envelope" = some m.cls := findClass_of_methodNamed Bd.named
  have hnm := (name_of_methodNamed Bd.named Bd.method).1
  have X0 : Stand p l e ({ frames := 0, cells := 0, slots := 0, locals := 0 } : Room) s m #[(.ref a1), (.int p2), (.long q3), (.int p4), (.ref a5), (.int p6), (.int p7)] below meth c s₁ [] 0 0 := Stand.of_body Bd
  have e0 : s₁.heap = h0 := by rw [← hh, Bd.state]; rfl
  have N0 := Fr.nil n0
  have pre0 : ∀ t, Steps p.tables e below (s₁.setTop (mkF m 0 #[.val (.ref a1), .val (.int p2), .val (.long q3), .second, .val (.int p4), .val (.ref a5), .val (.int p6), .val (.int p7)] [])) t → Steps p.tables e below (s₁.setTop (entryFrame m #[(.ref a1), (.int p2), (.long q3), (.int p4), (.ref a5), (.int p6), (.int p7)] 8)) t := fun t k => castTop (ef_7 m a1 p2 q3 p4 a5 p6 p7) k
  -- 3. LAWS
  obtain ⟨T9, X9, e9, st9⟩ := getF X0 hx hZ hown (host := "") (Or.inl (hw _ (List.mem_of_getElem? (i := 21) rfl))) Via.refl e0 F_source_a1 (g := (mkF m 1 #[.val (.ref a1), .val (.int p2), .val (.long q3), .second, .val (.int p4), .val (.ref a5), .val (.int p6), .val (.int p7)] [(.ref a1)])) rfl rfl (hb hby d7_1)
  obtain ⟨T11, X11, e11, st11⟩ := getF X9 hx hZ hown (host := "") (Or.inl (hw _ (List.mem_of_getElem? (i := 23) rfl))) Via.refl e9 F_context_a1 (g := (mkF m 9 #[.val (.ref a1), .val (.int p2), .val (.long q3), .second, .val (.int p4), .val (.ref a5), .val (.int p6), .val (.int p7)] [(.ref a1)])) rfl rfl (hb hby d7_9)
  obtain ⟨T13, X13, e13, st13⟩ := getF X11 hx hZ hown (host := "") (Or.inl (hw _ (List.mem_of_getElem? (i := 25) rfl))) Via.refl e11 F_tag_a1 (g := (mkF m 18 #[.val (.ref a1), .val (.int p2), .val (.long q3), .second, .val (.int p4), .val (.ref a5), .val (.int p6), .val (.int p7)] [(.ref a1)])) rfl rfl (hb hby d7_18)
  obtain ⟨T15, X15, e15, st15⟩ := getF X13 hx hZ hown (host := "") (Or.inl (hw _ (List.mem_of_getElem? (i := 27) rfl))) Via.refl e13 F_type_a1 (g := (mkF m 27 #[.val (.ref a1), .val (.int p2), .val (.long q3), .second, .val (.int p4), .val (.ref a5), .val (.int p6), .val (.int p7)] [(.ref a1)])) rfl rfl (hb hby d7_27)
  obtain ⟨fs, hr, hrun, hended, hW, hsame⟩ := X15.leave (v := some (.int (0 : Int32))) (fun h => by rw [Bd.returns] at h; cases h)
  refine ⟨_, _, pre0 _ ?_, hrun, hended, _, _, rfl, ?_, ⟨_, rfl⟩, hW, hsame.mono (by decide) (by decide)⟩
  -- 4. STEPS
  · show Steps p.tables e below (s₁.setTop (mkF m 0 #[.val (.ref a1), .val (.int p2), .val (.long q3), .second, .val (.int p4), .val (.ref a5), .val (.int p6), .val (.int p7)] [])) _
    refine XS.aloadN X0.here hx rfl (hb hby d7_0) rfl rfl ?_
    show Steps p.tables e below (s₁.setTop (mkF m 1 #[.val (.ref a1), .val (.int p2), .val (.long q3), .second, .val (.int p4), .val (.ref a5), .val (.int p6), .val (.int p7)] [(.ref a1)])) _
    refine st9 _ ?_
    show Steps p.tables e below (T9.setTop (mkF m 4 #[.val (.ref a1), .val (.int p2), .val (.long q3), .second, .val (.int p4), .val (.ref a5), .val (.int p6), .val (.int p7)] [(.int w8)])) _
    refine XS.iloadN X9.here hx rfl (hb hby d7_4) rfl ?_
    show Steps p.tables e below (T9.setTop (mkF m 5 #[.val (.ref a1), .val (.int p2), .val (.long q3), .second, .val (.int p4), .val (.ref a5), .val (.int p6), .val (.int p7)] [(.int p2), (.int w8)])) _
    refine XS.icmpNo X9.here hx rfl (hb hby d7_5) rfl (teq hc5).2 ?_
    show Steps p.tables e below (T9.setTop (mkF m 8 #[.val (.ref a1), .val (.int p2), .val (.long q3), .second, .val (.int p4), .val (.ref a5), .val (.int p6), .val (.int p7)] [])) _
    refine XS.aloadN X9.here hx rfl (hb hby d7_8) rfl rfl ?_
    show Steps p.tables e below (T9.setTop (mkF m 9 #[.val (.ref a1), .val (.int p2), .val (.long q3), .second, .val (.int p4), .val (.ref a5), .val (.int p6), .val (.int p7)] [(.ref a1)])) _
    refine st11 _ ?_
    show Steps p.tables e below (T11.setTop (mkF m 12 #[.val (.ref a1), .val (.int p2), .val (.long q3), .second, .val (.int p4), .val (.ref a5), .val (.int p6), .val (.int p7)] [(.long w10)])) _
    refine XS.lloadN X11.here hx rfl (hb hby d7_12) rfl ?_
    show Steps p.tables e below (T11.setTop (mkF m 13 #[.val (.ref a1), .val (.int p2), .val (.long q3), .second, .val (.int p4), .val (.ref a5), .val (.int p6), .val (.int p7)] [(.long q3), (.long w10)])) _
    refine XS.lcmp X11.here hx rfl (hb hby d7_13) rfl ?_
    show Steps p.tables e below (T11.setTop (mkF m 14 #[.val (.ref a1), .val (.int p2), .val (.long q3), .second, .val (.int p4), .val (.ref a5), .val (.int p6), .val (.int p7)] [(.int (lcmpW w10 q3))])) _
    refine XS.ifNo X11.here hx rfl (hb hby d7_14) rfl ((if0 _ _).trans (teq hc14).2) ?_
    show Steps p.tables e below (T11.setTop (mkF m 17 #[.val (.ref a1), .val (.int p2), .val (.long q3), .second, .val (.int p4), .val (.ref a5), .val (.int p6), .val (.int p7)] [])) _
    refine XS.aloadN X11.here hx rfl (hb hby d7_17) rfl rfl ?_
    show Steps p.tables e below (T11.setTop (mkF m 18 #[.val (.ref a1), .val (.int p2), .val (.long q3), .second, .val (.int p4), .val (.ref a5), .val (.int p6), .val (.int p7)] [(.ref a1)])) _
    refine st13 _ ?_
    show Steps p.tables e below (T13.setTop (mkF m 21 #[.val (.ref a1), .val (.int p2), .val (.long q3), .second, .val (.int p4), .val (.ref a5), .val (.int p6), .val (.int p7)] [(.int w12)])) _
    refine XS.iload X13.here hx rfl (hb hby d7_21) rfl ?_
    show Steps p.tables e below (T13.setTop (mkF m 23 #[.val (.ref a1), .val (.int p2), .val (.long q3), .second, .val (.int p4), .val (.ref a5), .val (.int p6), .val (.int p7)] [(.int p4), (.int w12)])) _
    refine XS.icmpNo X13.here hx rfl (hb hby d7_23) rfl (teq hc23).2 ?_
    show Steps p.tables e below (T13.setTop (mkF m 26 #[.val (.ref a1), .val (.int p2), .val (.long q3), .second, .val (.int p4), .val (.ref a5), .val (.int p6), .val (.int p7)] [])) _
    refine XS.aloadN X13.here hx rfl (hb hby d7_26) rfl rfl ?_
    show Steps p.tables e below (T13.setTop (mkF m 27 #[.val (.ref a1), .val (.int p2), .val (.long q3), .second, .val (.int p4), .val (.ref a5), .val (.int p6), .val (.int p7)] [(.ref a1)])) _
    refine st15 _ ?_
    show Steps p.tables e below (T15.setTop (mkF m 30 #[.val (.ref a1), .val (.int p2), .val (.long q3), .second, .val (.int p4), .val (.ref a5), .val (.int p6), .val (.int p7)] [(.ref w14)])) _
    refine XS.aload X15.here hx rfl (hb hby d7_30) rfl rfl ?_
    show Steps p.tables e below (T15.setTop (mkF m 32 #[.val (.ref a1), .val (.int p2), .val (.long q3), .second, .val (.int p4), .val (.ref a5), .val (.int p6), .val (.int p7)] [(.ref a5), (.ref w14)])) _
    refine Jvm.RoadKit.acmp (g := (mkF m 32 #[.val (.ref a1), .val (.int p2), .val (.long q3), .second, .val (.int p4), .val (.ref a5), .val (.int p6), .val (.int p7)] [(.ref a5), (.ref w14)])) X15 hx rfl rfl rfl (pc0 := 32) (pc' := 57) (same := false) rfl (hb hby d7_32) rfl (decide_eq_false fun q => ha32 (Value.ref.inj q)) (by decide) (by decide) ?_
    show Steps p.tables e below (T15.setTop (mkF m 57 #[.val (.ref a1), .val (.int p2), .val (.long q3), .second, .val (.int p4), .val (.ref a5), .val (.int p6), .val (.int p7)] [])) _
    refine XS.iconst X15.here hx rfl (hb hby d7_57) ?_
    show Steps p.tables e below (T15.setTop (mkF m 58 #[.val (.ref a1), .val (.int p2), .val (.long q3), .second, .val (.int p4), .val (.ref a5), .val (.int p6), .val (.int p7)] [(.int (0 : Int32))])) _
    exact retN X15 hx (t := .boolean) Bd.returns (by simp) (hb hby d7_58) hr
  · show Qv (some (.int (0 : Int32))) h0 n0 _ T15.heap _
    rw [e15]
    exact ⟨rfl, N0, rfl⟩
theorem d7_35 : decode prog_30_method_4_code 35 = .ok (.aload_n 0, 1) := by decide +kernel
theorem d7_36 : decode prog_30_method_4_code 36 = .ok (.getfield 26, 3) := by decide +kernel
theorem d7_39 : decode prog_30_method_4_code 39 = .ok (.iload 6, 2) := by decide +kernel
theorem d7_41 : decode prog_30_method_4_code 41 = .ok (.if_icmp .ne 16, 3) := by decide +kernel
set_option maxRecDepth 65536 in
set_option maxHeartbeats 40000000 in
theorem rm7_fffft (l : Launch) (Z : State) (a0 : Array Value) (hw : ∀ d ∈ tables_1, d.before a0 Z = true) (ws : List Jvm.Cond) (a1 : Addr) (p2 : Int32) (q3 : Int64) (p4 : Int32) (a5 : Addr) (p6 : Int32) (p7 : Int32) (w8 : Int32) (w10 : Int64) (w12 : Int32) (w14 : Addr) (w16 : Int32) (h0 : Heap) (n0 : Nat) (Z0 : n0 ≤ h0.size) (F_source_a1 : Fld Z h0 a1 "com/example/cablegram/cablegram/engine/Envelope" "source" "I" (.int w8)) (F_context_a1 : Fld Z h0 a1 "com/example/cablegram/cablegram/engine/Envelope" "context" "J" (.long w10)) (F_tag_a1 : Fld Z h0 a1 "com/example/cablegram/cablegram/engine/Envelope" "tag" "I" (.int w12)) (F_type_a1 : Fld Z h0 a1 "com/example/cablegram/cablegram/engine/Envelope" "type" "Lcom/example/cablegram/cablegram/engine/ElementType;" (.ref w14)) (F_count_a1 : Fld Z h0 a1 "com/example/cablegram/cablegram/engine/Envelope" "count" "I" (.int w16)) (hc5 : w8 = p2) (hc14 : (lcmpW w10 q3) = (0 : Int32)) (hc23 : w12 = p4) (ha32 : w14 = a5) (hc41 : ¬ (w16 = p6)) :
    MetFree l (⟨"com/example/cablegram/cablegram/engine/Envelope", "is", "(IJILcom/example/cablegram/cablegram/engine/ElementType;II)Z"⟩ : MethodName) (head1 (Jvm.Cond.code (⟨"com/example/cablegram/cablegram/engine/Envelope", "is", "(IJILcom/example/cablegram/cablegram/engine/ElementType;II)Z"⟩ : MethodName) prog_30_method_4_code 8 (some .boolean) :: ws) ({ frames := 0, cells := 0, slots := 0, locals := 0 } : Room)) (fun a U => a = #[(.ref a1), (.int p2), (.long q3), (.int p4), (.ref a5), (.int p6), (.int p7)] ∧ Z.Warmed39 U.vm ∧ U.heap = h0) (fun _ _ _ _ _ => True) (fun _ U o U' => ∃ v L, o = .returned v ∧ Qv (some (.int (0 : Int32))) h0 n0 v U'.heap L ∧ FrameEnd U o U' L ({ frames := 0, cells := 0, slots := 0, locals := 0 } : Room).cells ({ frames := 0, cells := 0, slots := 0, locals := 0 } : Room).slots) := by
  refine MetFree.of_bodySF (plainFor_of_name pn_7) hisR ?_
  intro p e s m args below meth c s₁ Bd hml0 hP hK
  obtain ⟨rfl, hZ, hh⟩ := hP
  have hx := Bd.exec
  have hby := Bd.bytes
  have hml : c.maxLocals = 8 := hml0
  have hown : s.vm.findClass "com/example/cablegram/cablegram/engine/Envelope" = some m.cls := findClass_of_methodNamed Bd.named
  have hnm := (name_of_methodNamed Bd.named Bd.method).1
  have X0 : Stand p l e ({ frames := 0, cells := 0, slots := 0, locals := 0 } : Room) s m #[(.ref a1), (.int p2), (.long q3), (.int p4), (.ref a5), (.int p6), (.int p7)] below meth c s₁ [] 0 0 := Stand.of_body Bd
  have e0 : s₁.heap = h0 := by rw [← hh, Bd.state]; rfl
  have N0 := Fr.nil n0
  have pre0 : ∀ t, Steps p.tables e below (s₁.setTop (mkF m 0 #[.val (.ref a1), .val (.int p2), .val (.long q3), .second, .val (.int p4), .val (.ref a5), .val (.int p6), .val (.int p7)] [])) t → Steps p.tables e below (s₁.setTop (entryFrame m #[(.ref a1), (.int p2), (.long q3), (.int p4), (.ref a5), (.int p6), (.int p7)] 8)) t := fun t k => castTop (ef_7 m a1 p2 q3 p4 a5 p6 p7) k
  -- 3. LAWS
  obtain ⟨T9, X9, e9, st9⟩ := getF X0 hx hZ hown (host := "") (Or.inl (hw _ (List.mem_of_getElem? (i := 21) rfl))) Via.refl e0 F_source_a1 (g := (mkF m 1 #[.val (.ref a1), .val (.int p2), .val (.long q3), .second, .val (.int p4), .val (.ref a5), .val (.int p6), .val (.int p7)] [(.ref a1)])) rfl rfl (hb hby d7_1)
  obtain ⟨T11, X11, e11, st11⟩ := getF X9 hx hZ hown (host := "") (Or.inl (hw _ (List.mem_of_getElem? (i := 23) rfl))) Via.refl e9 F_context_a1 (g := (mkF m 9 #[.val (.ref a1), .val (.int p2), .val (.long q3), .second, .val (.int p4), .val (.ref a5), .val (.int p6), .val (.int p7)] [(.ref a1)])) rfl rfl (hb hby d7_9)
  obtain ⟨T13, X13, e13, st13⟩ := getF X11 hx hZ hown (host := "") (Or.inl (hw _ (List.mem_of_getElem? (i := 25) rfl))) Via.refl e11 F_tag_a1 (g := (mkF m 18 #[.val (.ref a1), .val (.int p2), .val (.long q3), .second, .val (.int p4), .val (.ref a5), .val (.int p6), .val (.int p7)] [(.ref a1)])) rfl rfl (hb hby d7_18)
  obtain ⟨T15, X15, e15, st15⟩ := getF X13 hx hZ hown (host := "") (Or.inl (hw _ (List.mem_of_getElem? (i := 27) rfl))) Via.refl e13 F_type_a1 (g := (mkF m 27 #[.val (.ref a1), .val (.int p2), .val (.long q3), .second, .val (.int p4), .val (.ref a5), .val (.int p6), .val (.int p7)] [(.ref a1)])) rfl rfl (hb hby d7_27)
  obtain ⟨T17, X17, e17, st17⟩ := getF X15 hx hZ hown (host := "") (Or.inl (hw _ (List.mem_of_getElem? (i := 29) rfl))) Via.refl e15 F_count_a1 (g := (mkF m 36 #[.val (.ref a1), .val (.int p2), .val (.long q3), .second, .val (.int p4), .val (.ref a5), .val (.int p6), .val (.int p7)] [(.ref a1)])) rfl rfl (hb hby d7_36)
  obtain ⟨fs, hr, hrun, hended, hW, hsame⟩ := X17.leave (v := some (.int (0 : Int32))) (fun h => by rw [Bd.returns] at h; cases h)
  refine ⟨_, _, pre0 _ ?_, hrun, hended, _, _, rfl, ?_, ⟨_, rfl⟩, hW, hsame.mono (by decide) (by decide)⟩
  -- 4. STEPS
  · show Steps p.tables e below (s₁.setTop (mkF m 0 #[.val (.ref a1), .val (.int p2), .val (.long q3), .second, .val (.int p4), .val (.ref a5), .val (.int p6), .val (.int p7)] [])) _
    refine XS.aloadN X0.here hx rfl (hb hby d7_0) rfl rfl ?_
    show Steps p.tables e below (s₁.setTop (mkF m 1 #[.val (.ref a1), .val (.int p2), .val (.long q3), .second, .val (.int p4), .val (.ref a5), .val (.int p6), .val (.int p7)] [(.ref a1)])) _
    refine st9 _ ?_
    show Steps p.tables e below (T9.setTop (mkF m 4 #[.val (.ref a1), .val (.int p2), .val (.long q3), .second, .val (.int p4), .val (.ref a5), .val (.int p6), .val (.int p7)] [(.int w8)])) _
    refine XS.iloadN X9.here hx rfl (hb hby d7_4) rfl ?_
    show Steps p.tables e below (T9.setTop (mkF m 5 #[.val (.ref a1), .val (.int p2), .val (.long q3), .second, .val (.int p4), .val (.ref a5), .val (.int p6), .val (.int p7)] [(.int p2), (.int w8)])) _
    refine XS.icmpNo X9.here hx rfl (hb hby d7_5) rfl (teq hc5).2 ?_
    show Steps p.tables e below (T9.setTop (mkF m 8 #[.val (.ref a1), .val (.int p2), .val (.long q3), .second, .val (.int p4), .val (.ref a5), .val (.int p6), .val (.int p7)] [])) _
    refine XS.aloadN X9.here hx rfl (hb hby d7_8) rfl rfl ?_
    show Steps p.tables e below (T9.setTop (mkF m 9 #[.val (.ref a1), .val (.int p2), .val (.long q3), .second, .val (.int p4), .val (.ref a5), .val (.int p6), .val (.int p7)] [(.ref a1)])) _
    refine st11 _ ?_
    show Steps p.tables e below (T11.setTop (mkF m 12 #[.val (.ref a1), .val (.int p2), .val (.long q3), .second, .val (.int p4), .val (.ref a5), .val (.int p6), .val (.int p7)] [(.long w10)])) _
    refine XS.lloadN X11.here hx rfl (hb hby d7_12) rfl ?_
    show Steps p.tables e below (T11.setTop (mkF m 13 #[.val (.ref a1), .val (.int p2), .val (.long q3), .second, .val (.int p4), .val (.ref a5), .val (.int p6), .val (.int p7)] [(.long q3), (.long w10)])) _
    refine XS.lcmp X11.here hx rfl (hb hby d7_13) rfl ?_
    show Steps p.tables e below (T11.setTop (mkF m 14 #[.val (.ref a1), .val (.int p2), .val (.long q3), .second, .val (.int p4), .val (.ref a5), .val (.int p6), .val (.int p7)] [(.int (lcmpW w10 q3))])) _
    refine XS.ifNo X11.here hx rfl (hb hby d7_14) rfl ((if0 _ _).trans (teq hc14).2) ?_
    show Steps p.tables e below (T11.setTop (mkF m 17 #[.val (.ref a1), .val (.int p2), .val (.long q3), .second, .val (.int p4), .val (.ref a5), .val (.int p6), .val (.int p7)] [])) _
    refine XS.aloadN X11.here hx rfl (hb hby d7_17) rfl rfl ?_
    show Steps p.tables e below (T11.setTop (mkF m 18 #[.val (.ref a1), .val (.int p2), .val (.long q3), .second, .val (.int p4), .val (.ref a5), .val (.int p6), .val (.int p7)] [(.ref a1)])) _
    refine st13 _ ?_
    show Steps p.tables e below (T13.setTop (mkF m 21 #[.val (.ref a1), .val (.int p2), .val (.long q3), .second, .val (.int p4), .val (.ref a5), .val (.int p6), .val (.int p7)] [(.int w12)])) _
    refine XS.iload X13.here hx rfl (hb hby d7_21) rfl ?_
    show Steps p.tables e below (T13.setTop (mkF m 23 #[.val (.ref a1), .val (.int p2), .val (.long q3), .second, .val (.int p4), .val (.ref a5), .val (.int p6), .val (.int p7)] [(.int p4), (.int w12)])) _
    refine XS.icmpNo X13.here hx rfl (hb hby d7_23) rfl (teq hc23).2 ?_
    show Steps p.tables e below (T13.setTop (mkF m 26 #[.val (.ref a1), .val (.int p2), .val (.long q3), .second, .val (.int p4), .val (.ref a5), .val (.int p6), .val (.int p7)] [])) _
    refine XS.aloadN X13.here hx rfl (hb hby d7_26) rfl rfl ?_
    show Steps p.tables e below (T13.setTop (mkF m 27 #[.val (.ref a1), .val (.int p2), .val (.long q3), .second, .val (.int p4), .val (.ref a5), .val (.int p6), .val (.int p7)] [(.ref a1)])) _
    refine st15 _ ?_
    show Steps p.tables e below (T15.setTop (mkF m 30 #[.val (.ref a1), .val (.int p2), .val (.long q3), .second, .val (.int p4), .val (.ref a5), .val (.int p6), .val (.int p7)] [(.ref w14)])) _
    refine XS.aload X15.here hx rfl (hb hby d7_30) rfl rfl ?_
    show Steps p.tables e below (T15.setTop (mkF m 32 #[.val (.ref a1), .val (.int p2), .val (.long q3), .second, .val (.int p4), .val (.ref a5), .val (.int p6), .val (.int p7)] [(.ref a5), (.ref w14)])) _
    refine Jvm.RoadKit.acmp (g := (mkF m 32 #[.val (.ref a1), .val (.int p2), .val (.long q3), .second, .val (.int p4), .val (.ref a5), .val (.int p6), .val (.int p7)] [(.ref a5), (.ref w14)])) X15 hx rfl rfl rfl (pc0 := 32) (pc' := 35) (same := true) rfl (hb hby d7_32) rfl (decide_eq_true (congrArg Value.ref ha32)) (by decide) (by decide) ?_
    show Steps p.tables e below (T15.setTop (mkF m 35 #[.val (.ref a1), .val (.int p2), .val (.long q3), .second, .val (.int p4), .val (.ref a5), .val (.int p6), .val (.int p7)] [])) _
    refine XS.aloadN X15.here hx rfl (hb hby d7_35) rfl rfl ?_
    show Steps p.tables e below (T15.setTop (mkF m 36 #[.val (.ref a1), .val (.int p2), .val (.long q3), .second, .val (.int p4), .val (.ref a5), .val (.int p6), .val (.int p7)] [(.ref a1)])) _
    refine st17 _ ?_
    show Steps p.tables e below (T17.setTop (mkF m 39 #[.val (.ref a1), .val (.int p2), .val (.long q3), .second, .val (.int p4), .val (.ref a5), .val (.int p6), .val (.int p7)] [(.int w16)])) _
    refine XS.iload X17.here hx rfl (hb hby d7_39) rfl ?_
    show Steps p.tables e below (T17.setTop (mkF m 41 #[.val (.ref a1), .val (.int p2), .val (.long q3), .second, .val (.int p4), .val (.ref a5), .val (.int p6), .val (.int p7)] [(.int p6), (.int w16)])) _
    refine XS.icmpYes X17.here hx rfl (pc0 := 41) (pc' := 57) rfl (hb hby d7_41) rfl (feq hc41).2 (by decide) (by decide) ?_
    show Steps p.tables e below (T17.setTop (mkF m 57 #[.val (.ref a1), .val (.int p2), .val (.long q3), .second, .val (.int p4), .val (.ref a5), .val (.int p6), .val (.int p7)] [])) _
    refine XS.iconst X17.here hx rfl (hb hby d7_57) ?_
    show Steps p.tables e below (T17.setTop (mkF m 58 #[.val (.ref a1), .val (.int p2), .val (.long q3), .second, .val (.int p4), .val (.ref a5), .val (.int p6), .val (.int p7)] [(.int (0 : Int32))])) _
    exact retN X17 hx (t := .boolean) Bd.returns (by simp) (hb hby d7_58) hr
  · show Qv (some (.int (0 : Int32))) h0 n0 _ T17.heap _
    rw [e17]
    exact ⟨rfl, N0, rfl⟩
theorem d7_44 : decode prog_30_method_4_code 44 = .ok (.aload_n 0, 1) := by decide +kernel
theorem d7_45 : decode prog_30_method_4_code 45 = .ok (.getfield 29, 3) := by decide +kernel
theorem d7_48 : decode prog_30_method_4_code 48 = .ok (.iload 7, 2) := by decide +kernel
theorem d7_50 : decode prog_30_method_4_code 50 = .ok (.if_icmp .ne 7, 3) := by decide +kernel
set_option maxRecDepth 65536 in
set_option maxHeartbeats 40000000 in
theorem rm7_ffffft (l : Launch) (Z : State) (a0 : Array Value) (hw : ∀ d ∈ tables_1, d.before a0 Z = true) (ws : List Jvm.Cond) (a1 : Addr) (p2 : Int32) (q3 : Int64) (p4 : Int32) (a5 : Addr) (p6 : Int32) (p7 : Int32) (w8 : Int32) (w10 : Int64) (w12 : Int32) (w14 : Addr) (w16 : Int32) (w18 : Int32) (h0 : Heap) (n0 : Nat) (Z0 : n0 ≤ h0.size) (F_source_a1 : Fld Z h0 a1 "com/example/cablegram/cablegram/engine/Envelope" "source" "I" (.int w8)) (F_context_a1 : Fld Z h0 a1 "com/example/cablegram/cablegram/engine/Envelope" "context" "J" (.long w10)) (F_tag_a1 : Fld Z h0 a1 "com/example/cablegram/cablegram/engine/Envelope" "tag" "I" (.int w12)) (F_type_a1 : Fld Z h0 a1 "com/example/cablegram/cablegram/engine/Envelope" "type" "Lcom/example/cablegram/cablegram/engine/ElementType;" (.ref w14)) (F_count_a1 : Fld Z h0 a1 "com/example/cablegram/cablegram/engine/Envelope" "count" "I" (.int w16)) (F_entries_a1 : Fld Z h0 a1 "com/example/cablegram/cablegram/engine/Envelope" "entries" "I" (.int w18)) (hc5 : w8 = p2) (hc14 : (lcmpW w10 q3) = (0 : Int32)) (hc23 : w12 = p4) (ha32 : w14 = a5) (hc41 : w16 = p6) (hc50 : ¬ (w18 = p7)) :
    MetFree l (⟨"com/example/cablegram/cablegram/engine/Envelope", "is", "(IJILcom/example/cablegram/cablegram/engine/ElementType;II)Z"⟩ : MethodName) (head1 (Jvm.Cond.code (⟨"com/example/cablegram/cablegram/engine/Envelope", "is", "(IJILcom/example/cablegram/cablegram/engine/ElementType;II)Z"⟩ : MethodName) prog_30_method_4_code 8 (some .boolean) :: ws) ({ frames := 0, cells := 0, slots := 0, locals := 0 } : Room)) (fun a U => a = #[(.ref a1), (.int p2), (.long q3), (.int p4), (.ref a5), (.int p6), (.int p7)] ∧ Z.Warmed39 U.vm ∧ U.heap = h0) (fun _ _ _ _ _ => True) (fun _ U o U' => ∃ v L, o = .returned v ∧ Qv (some (.int (0 : Int32))) h0 n0 v U'.heap L ∧ FrameEnd U o U' L ({ frames := 0, cells := 0, slots := 0, locals := 0 } : Room).cells ({ frames := 0, cells := 0, slots := 0, locals := 0 } : Room).slots) := by
  refine MetFree.of_bodySF (plainFor_of_name pn_7) hisR ?_
  intro p e s m args below meth c s₁ Bd hml0 hP hK
  obtain ⟨rfl, hZ, hh⟩ := hP
  have hx := Bd.exec
  have hby := Bd.bytes
  have hml : c.maxLocals = 8 := hml0
  have hown : s.vm.findClass "com/example/cablegram/cablegram/engine/Envelope" = some m.cls := findClass_of_methodNamed Bd.named
  have hnm := (name_of_methodNamed Bd.named Bd.method).1
  have X0 : Stand p l e ({ frames := 0, cells := 0, slots := 0, locals := 0 } : Room) s m #[(.ref a1), (.int p2), (.long q3), (.int p4), (.ref a5), (.int p6), (.int p7)] below meth c s₁ [] 0 0 := Stand.of_body Bd
  have e0 : s₁.heap = h0 := by rw [← hh, Bd.state]; rfl
  have N0 := Fr.nil n0
  have pre0 : ∀ t, Steps p.tables e below (s₁.setTop (mkF m 0 #[.val (.ref a1), .val (.int p2), .val (.long q3), .second, .val (.int p4), .val (.ref a5), .val (.int p6), .val (.int p7)] [])) t → Steps p.tables e below (s₁.setTop (entryFrame m #[(.ref a1), (.int p2), (.long q3), (.int p4), (.ref a5), (.int p6), (.int p7)] 8)) t := fun t k => castTop (ef_7 m a1 p2 q3 p4 a5 p6 p7) k
  -- 3. LAWS
  obtain ⟨T9, X9, e9, st9⟩ := getF X0 hx hZ hown (host := "") (Or.inl (hw _ (List.mem_of_getElem? (i := 21) rfl))) Via.refl e0 F_source_a1 (g := (mkF m 1 #[.val (.ref a1), .val (.int p2), .val (.long q3), .second, .val (.int p4), .val (.ref a5), .val (.int p6), .val (.int p7)] [(.ref a1)])) rfl rfl (hb hby d7_1)
  obtain ⟨T11, X11, e11, st11⟩ := getF X9 hx hZ hown (host := "") (Or.inl (hw _ (List.mem_of_getElem? (i := 23) rfl))) Via.refl e9 F_context_a1 (g := (mkF m 9 #[.val (.ref a1), .val (.int p2), .val (.long q3), .second, .val (.int p4), .val (.ref a5), .val (.int p6), .val (.int p7)] [(.ref a1)])) rfl rfl (hb hby d7_9)
  obtain ⟨T13, X13, e13, st13⟩ := getF X11 hx hZ hown (host := "") (Or.inl (hw _ (List.mem_of_getElem? (i := 25) rfl))) Via.refl e11 F_tag_a1 (g := (mkF m 18 #[.val (.ref a1), .val (.int p2), .val (.long q3), .second, .val (.int p4), .val (.ref a5), .val (.int p6), .val (.int p7)] [(.ref a1)])) rfl rfl (hb hby d7_18)
  obtain ⟨T15, X15, e15, st15⟩ := getF X13 hx hZ hown (host := "") (Or.inl (hw _ (List.mem_of_getElem? (i := 27) rfl))) Via.refl e13 F_type_a1 (g := (mkF m 27 #[.val (.ref a1), .val (.int p2), .val (.long q3), .second, .val (.int p4), .val (.ref a5), .val (.int p6), .val (.int p7)] [(.ref a1)])) rfl rfl (hb hby d7_27)
  obtain ⟨T17, X17, e17, st17⟩ := getF X15 hx hZ hown (host := "") (Or.inl (hw _ (List.mem_of_getElem? (i := 29) rfl))) Via.refl e15 F_count_a1 (g := (mkF m 36 #[.val (.ref a1), .val (.int p2), .val (.long q3), .second, .val (.int p4), .val (.ref a5), .val (.int p6), .val (.int p7)] [(.ref a1)])) rfl rfl (hb hby d7_36)
  obtain ⟨T19, X19, e19, st19⟩ := getF X17 hx hZ hown (host := "") (Or.inl (hw _ (List.mem_of_getElem? (i := 31) rfl))) Via.refl e17 F_entries_a1 (g := (mkF m 45 #[.val (.ref a1), .val (.int p2), .val (.long q3), .second, .val (.int p4), .val (.ref a5), .val (.int p6), .val (.int p7)] [(.ref a1)])) rfl rfl (hb hby d7_45)
  obtain ⟨fs, hr, hrun, hended, hW, hsame⟩ := X19.leave (v := some (.int (0 : Int32))) (fun h => by rw [Bd.returns] at h; cases h)
  refine ⟨_, _, pre0 _ ?_, hrun, hended, _, _, rfl, ?_, ⟨_, rfl⟩, hW, hsame.mono (by decide) (by decide)⟩
  -- 4. STEPS
  · show Steps p.tables e below (s₁.setTop (mkF m 0 #[.val (.ref a1), .val (.int p2), .val (.long q3), .second, .val (.int p4), .val (.ref a5), .val (.int p6), .val (.int p7)] [])) _
    refine XS.aloadN X0.here hx rfl (hb hby d7_0) rfl rfl ?_
    show Steps p.tables e below (s₁.setTop (mkF m 1 #[.val (.ref a1), .val (.int p2), .val (.long q3), .second, .val (.int p4), .val (.ref a5), .val (.int p6), .val (.int p7)] [(.ref a1)])) _
    refine st9 _ ?_
    show Steps p.tables e below (T9.setTop (mkF m 4 #[.val (.ref a1), .val (.int p2), .val (.long q3), .second, .val (.int p4), .val (.ref a5), .val (.int p6), .val (.int p7)] [(.int w8)])) _
    refine XS.iloadN X9.here hx rfl (hb hby d7_4) rfl ?_
    show Steps p.tables e below (T9.setTop (mkF m 5 #[.val (.ref a1), .val (.int p2), .val (.long q3), .second, .val (.int p4), .val (.ref a5), .val (.int p6), .val (.int p7)] [(.int p2), (.int w8)])) _
    refine XS.icmpNo X9.here hx rfl (hb hby d7_5) rfl (teq hc5).2 ?_
    show Steps p.tables e below (T9.setTop (mkF m 8 #[.val (.ref a1), .val (.int p2), .val (.long q3), .second, .val (.int p4), .val (.ref a5), .val (.int p6), .val (.int p7)] [])) _
    refine XS.aloadN X9.here hx rfl (hb hby d7_8) rfl rfl ?_
    show Steps p.tables e below (T9.setTop (mkF m 9 #[.val (.ref a1), .val (.int p2), .val (.long q3), .second, .val (.int p4), .val (.ref a5), .val (.int p6), .val (.int p7)] [(.ref a1)])) _
    refine st11 _ ?_
    show Steps p.tables e below (T11.setTop (mkF m 12 #[.val (.ref a1), .val (.int p2), .val (.long q3), .second, .val (.int p4), .val (.ref a5), .val (.int p6), .val (.int p7)] [(.long w10)])) _
    refine XS.lloadN X11.here hx rfl (hb hby d7_12) rfl ?_
    show Steps p.tables e below (T11.setTop (mkF m 13 #[.val (.ref a1), .val (.int p2), .val (.long q3), .second, .val (.int p4), .val (.ref a5), .val (.int p6), .val (.int p7)] [(.long q3), (.long w10)])) _
    refine XS.lcmp X11.here hx rfl (hb hby d7_13) rfl ?_
    show Steps p.tables e below (T11.setTop (mkF m 14 #[.val (.ref a1), .val (.int p2), .val (.long q3), .second, .val (.int p4), .val (.ref a5), .val (.int p6), .val (.int p7)] [(.int (lcmpW w10 q3))])) _
    refine XS.ifNo X11.here hx rfl (hb hby d7_14) rfl ((if0 _ _).trans (teq hc14).2) ?_
    show Steps p.tables e below (T11.setTop (mkF m 17 #[.val (.ref a1), .val (.int p2), .val (.long q3), .second, .val (.int p4), .val (.ref a5), .val (.int p6), .val (.int p7)] [])) _
    refine XS.aloadN X11.here hx rfl (hb hby d7_17) rfl rfl ?_
    show Steps p.tables e below (T11.setTop (mkF m 18 #[.val (.ref a1), .val (.int p2), .val (.long q3), .second, .val (.int p4), .val (.ref a5), .val (.int p6), .val (.int p7)] [(.ref a1)])) _
    refine st13 _ ?_
    show Steps p.tables e below (T13.setTop (mkF m 21 #[.val (.ref a1), .val (.int p2), .val (.long q3), .second, .val (.int p4), .val (.ref a5), .val (.int p6), .val (.int p7)] [(.int w12)])) _
    refine XS.iload X13.here hx rfl (hb hby d7_21) rfl ?_
    show Steps p.tables e below (T13.setTop (mkF m 23 #[.val (.ref a1), .val (.int p2), .val (.long q3), .second, .val (.int p4), .val (.ref a5), .val (.int p6), .val (.int p7)] [(.int p4), (.int w12)])) _
    refine XS.icmpNo X13.here hx rfl (hb hby d7_23) rfl (teq hc23).2 ?_
    show Steps p.tables e below (T13.setTop (mkF m 26 #[.val (.ref a1), .val (.int p2), .val (.long q3), .second, .val (.int p4), .val (.ref a5), .val (.int p6), .val (.int p7)] [])) _
    refine XS.aloadN X13.here hx rfl (hb hby d7_26) rfl rfl ?_
    show Steps p.tables e below (T13.setTop (mkF m 27 #[.val (.ref a1), .val (.int p2), .val (.long q3), .second, .val (.int p4), .val (.ref a5), .val (.int p6), .val (.int p7)] [(.ref a1)])) _
    refine st15 _ ?_
    show Steps p.tables e below (T15.setTop (mkF m 30 #[.val (.ref a1), .val (.int p2), .val (.long q3), .second, .val (.int p4), .val (.ref a5), .val (.int p6), .val (.int p7)] [(.ref w14)])) _
    refine XS.aload X15.here hx rfl (hb hby d7_30) rfl rfl ?_
    show Steps p.tables e below (T15.setTop (mkF m 32 #[.val (.ref a1), .val (.int p2), .val (.long q3), .second, .val (.int p4), .val (.ref a5), .val (.int p6), .val (.int p7)] [(.ref a5), (.ref w14)])) _
    refine Jvm.RoadKit.acmp (g := (mkF m 32 #[.val (.ref a1), .val (.int p2), .val (.long q3), .second, .val (.int p4), .val (.ref a5), .val (.int p6), .val (.int p7)] [(.ref a5), (.ref w14)])) X15 hx rfl rfl rfl (pc0 := 32) (pc' := 35) (same := true) rfl (hb hby d7_32) rfl (decide_eq_true (congrArg Value.ref ha32)) (by decide) (by decide) ?_
    show Steps p.tables e below (T15.setTop (mkF m 35 #[.val (.ref a1), .val (.int p2), .val (.long q3), .second, .val (.int p4), .val (.ref a5), .val (.int p6), .val (.int p7)] [])) _
    refine XS.aloadN X15.here hx rfl (hb hby d7_35) rfl rfl ?_
    show Steps p.tables e below (T15.setTop (mkF m 36 #[.val (.ref a1), .val (.int p2), .val (.long q3), .second, .val (.int p4), .val (.ref a5), .val (.int p6), .val (.int p7)] [(.ref a1)])) _
    refine st17 _ ?_
    show Steps p.tables e below (T17.setTop (mkF m 39 #[.val (.ref a1), .val (.int p2), .val (.long q3), .second, .val (.int p4), .val (.ref a5), .val (.int p6), .val (.int p7)] [(.int w16)])) _
    refine XS.iload X17.here hx rfl (hb hby d7_39) rfl ?_
    show Steps p.tables e below (T17.setTop (mkF m 41 #[.val (.ref a1), .val (.int p2), .val (.long q3), .second, .val (.int p4), .val (.ref a5), .val (.int p6), .val (.int p7)] [(.int p6), (.int w16)])) _
    refine XS.icmpNo X17.here hx rfl (hb hby d7_41) rfl (teq hc41).2 ?_
    show Steps p.tables e below (T17.setTop (mkF m 44 #[.val (.ref a1), .val (.int p2), .val (.long q3), .second, .val (.int p4), .val (.ref a5), .val (.int p6), .val (.int p7)] [])) _
    refine XS.aloadN X17.here hx rfl (hb hby d7_44) rfl rfl ?_
    show Steps p.tables e below (T17.setTop (mkF m 45 #[.val (.ref a1), .val (.int p2), .val (.long q3), .second, .val (.int p4), .val (.ref a5), .val (.int p6), .val (.int p7)] [(.ref a1)])) _
    refine st19 _ ?_
    show Steps p.tables e below (T19.setTop (mkF m 48 #[.val (.ref a1), .val (.int p2), .val (.long q3), .second, .val (.int p4), .val (.ref a5), .val (.int p6), .val (.int p7)] [(.int w18)])) _
    refine XS.iload X19.here hx rfl (hb hby d7_48) rfl ?_
    show Steps p.tables e below (T19.setTop (mkF m 50 #[.val (.ref a1), .val (.int p2), .val (.long q3), .second, .val (.int p4), .val (.ref a5), .val (.int p6), .val (.int p7)] [(.int p7), (.int w18)])) _
    refine XS.icmpYes X19.here hx rfl (pc0 := 50) (pc' := 57) rfl (hb hby d7_50) rfl (feq hc50).2 (by decide) (by decide) ?_
    show Steps p.tables e below (T19.setTop (mkF m 57 #[.val (.ref a1), .val (.int p2), .val (.long q3), .second, .val (.int p4), .val (.ref a5), .val (.int p6), .val (.int p7)] [])) _
    refine XS.iconst X19.here hx rfl (hb hby d7_57) ?_
    show Steps p.tables e below (T19.setTop (mkF m 58 #[.val (.ref a1), .val (.int p2), .val (.long q3), .second, .val (.int p4), .val (.ref a5), .val (.int p6), .val (.int p7)] [(.int (0 : Int32))])) _
    exact retN X19 hx (t := .boolean) Bd.returns (by simp) (hb hby d7_58) hr
  · show Qv (some (.int (0 : Int32))) h0 n0 _ T19.heap _
    rw [e19]
    exact ⟨rfl, N0, rfl⟩
theorem d7_53 : decode prog_30_method_4_code 53 = .ok (.iconst 1, 1) := by decide +kernel
theorem d7_54 : decode prog_30_method_4_code 54 = .ok (.goto 4, 3) := by decide +kernel
set_option maxRecDepth 65536 in
set_option maxHeartbeats 40000000 in
theorem rm7_ffffff (l : Launch) (Z : State) (a0 : Array Value) (hw : ∀ d ∈ tables_1, d.before a0 Z = true) (ws : List Jvm.Cond) (a1 : Addr) (p2 : Int32) (q3 : Int64) (p4 : Int32) (a5 : Addr) (p6 : Int32) (p7 : Int32) (w8 : Int32) (w10 : Int64) (w12 : Int32) (w14 : Addr) (w16 : Int32) (w18 : Int32) (h0 : Heap) (n0 : Nat) (Z0 : n0 ≤ h0.size) (F_source_a1 : Fld Z h0 a1 "com/example/cablegram/cablegram/engine/Envelope" "source" "I" (.int w8)) (F_context_a1 : Fld Z h0 a1 "com/example/cablegram/cablegram/engine/Envelope" "context" "J" (.long w10)) (F_tag_a1 : Fld Z h0 a1 "com/example/cablegram/cablegram/engine/Envelope" "tag" "I" (.int w12)) (F_type_a1 : Fld Z h0 a1 "com/example/cablegram/cablegram/engine/Envelope" "type" "Lcom/example/cablegram/cablegram/engine/ElementType;" (.ref w14)) (F_count_a1 : Fld Z h0 a1 "com/example/cablegram/cablegram/engine/Envelope" "count" "I" (.int w16)) (F_entries_a1 : Fld Z h0 a1 "com/example/cablegram/cablegram/engine/Envelope" "entries" "I" (.int w18)) (hc5 : w8 = p2) (hc14 : (lcmpW w10 q3) = (0 : Int32)) (hc23 : w12 = p4) (ha32 : w14 = a5) (hc41 : w16 = p6) (hc50 : w18 = p7) :
    MetFree l (⟨"com/example/cablegram/cablegram/engine/Envelope", "is", "(IJILcom/example/cablegram/cablegram/engine/ElementType;II)Z"⟩ : MethodName) (head1 (Jvm.Cond.code (⟨"com/example/cablegram/cablegram/engine/Envelope", "is", "(IJILcom/example/cablegram/cablegram/engine/ElementType;II)Z"⟩ : MethodName) prog_30_method_4_code 8 (some .boolean) :: ws) ({ frames := 0, cells := 0, slots := 0, locals := 0 } : Room)) (fun a U => a = #[(.ref a1), (.int p2), (.long q3), (.int p4), (.ref a5), (.int p6), (.int p7)] ∧ Z.Warmed39 U.vm ∧ U.heap = h0) (fun _ _ _ _ _ => True) (fun _ U o U' => ∃ v L, o = .returned v ∧ Qv (some (.int (1 : Int32))) h0 n0 v U'.heap L ∧ FrameEnd U o U' L ({ frames := 0, cells := 0, slots := 0, locals := 0 } : Room).cells ({ frames := 0, cells := 0, slots := 0, locals := 0 } : Room).slots) := by
  refine MetFree.of_bodySF (plainFor_of_name pn_7) hisR ?_
  intro p e s m args below meth c s₁ Bd hml0 hP hK
  obtain ⟨rfl, hZ, hh⟩ := hP
  have hx := Bd.exec
  have hby := Bd.bytes
  have hml : c.maxLocals = 8 := hml0
  have hown : s.vm.findClass "com/example/cablegram/cablegram/engine/Envelope" = some m.cls := findClass_of_methodNamed Bd.named
  have hnm := (name_of_methodNamed Bd.named Bd.method).1
  have X0 : Stand p l e ({ frames := 0, cells := 0, slots := 0, locals := 0 } : Room) s m #[(.ref a1), (.int p2), (.long q3), (.int p4), (.ref a5), (.int p6), (.int p7)] below meth c s₁ [] 0 0 := Stand.of_body Bd
  have e0 : s₁.heap = h0 := by rw [← hh, Bd.state]; rfl
  have N0 := Fr.nil n0
  have pre0 : ∀ t, Steps p.tables e below (s₁.setTop (mkF m 0 #[.val (.ref a1), .val (.int p2), .val (.long q3), .second, .val (.int p4), .val (.ref a5), .val (.int p6), .val (.int p7)] [])) t → Steps p.tables e below (s₁.setTop (entryFrame m #[(.ref a1), (.int p2), (.long q3), (.int p4), (.ref a5), (.int p6), (.int p7)] 8)) t := fun t k => castTop (ef_7 m a1 p2 q3 p4 a5 p6 p7) k
  -- 3. LAWS
  obtain ⟨T9, X9, e9, st9⟩ := getF X0 hx hZ hown (host := "") (Or.inl (hw _ (List.mem_of_getElem? (i := 21) rfl))) Via.refl e0 F_source_a1 (g := (mkF m 1 #[.val (.ref a1), .val (.int p2), .val (.long q3), .second, .val (.int p4), .val (.ref a5), .val (.int p6), .val (.int p7)] [(.ref a1)])) rfl rfl (hb hby d7_1)
  obtain ⟨T11, X11, e11, st11⟩ := getF X9 hx hZ hown (host := "") (Or.inl (hw _ (List.mem_of_getElem? (i := 23) rfl))) Via.refl e9 F_context_a1 (g := (mkF m 9 #[.val (.ref a1), .val (.int p2), .val (.long q3), .second, .val (.int p4), .val (.ref a5), .val (.int p6), .val (.int p7)] [(.ref a1)])) rfl rfl (hb hby d7_9)
  obtain ⟨T13, X13, e13, st13⟩ := getF X11 hx hZ hown (host := "") (Or.inl (hw _ (List.mem_of_getElem? (i := 25) rfl))) Via.refl e11 F_tag_a1 (g := (mkF m 18 #[.val (.ref a1), .val (.int p2), .val (.long q3), .second, .val (.int p4), .val (.ref a5), .val (.int p6), .val (.int p7)] [(.ref a1)])) rfl rfl (hb hby d7_18)
  obtain ⟨T15, X15, e15, st15⟩ := getF X13 hx hZ hown (host := "") (Or.inl (hw _ (List.mem_of_getElem? (i := 27) rfl))) Via.refl e13 F_type_a1 (g := (mkF m 27 #[.val (.ref a1), .val (.int p2), .val (.long q3), .second, .val (.int p4), .val (.ref a5), .val (.int p6), .val (.int p7)] [(.ref a1)])) rfl rfl (hb hby d7_27)
  obtain ⟨T17, X17, e17, st17⟩ := getF X15 hx hZ hown (host := "") (Or.inl (hw _ (List.mem_of_getElem? (i := 29) rfl))) Via.refl e15 F_count_a1 (g := (mkF m 36 #[.val (.ref a1), .val (.int p2), .val (.long q3), .second, .val (.int p4), .val (.ref a5), .val (.int p6), .val (.int p7)] [(.ref a1)])) rfl rfl (hb hby d7_36)
  obtain ⟨T19, X19, e19, st19⟩ := getF X17 hx hZ hown (host := "") (Or.inl (hw _ (List.mem_of_getElem? (i := 31) rfl))) Via.refl e17 F_entries_a1 (g := (mkF m 45 #[.val (.ref a1), .val (.int p2), .val (.long q3), .second, .val (.int p4), .val (.ref a5), .val (.int p6), .val (.int p7)] [(.ref a1)])) rfl rfl (hb hby d7_45)
  obtain ⟨fs, hr, hrun, hended, hW, hsame⟩ := X19.leave (v := some (.int (1 : Int32))) (fun h => by rw [Bd.returns] at h; cases h)
  refine ⟨_, _, pre0 _ ?_, hrun, hended, _, _, rfl, ?_, ⟨_, rfl⟩, hW, hsame.mono (by decide) (by decide)⟩
  -- 4. STEPS
  · show Steps p.tables e below (s₁.setTop (mkF m 0 #[.val (.ref a1), .val (.int p2), .val (.long q3), .second, .val (.int p4), .val (.ref a5), .val (.int p6), .val (.int p7)] [])) _
    refine XS.aloadN X0.here hx rfl (hb hby d7_0) rfl rfl ?_
    show Steps p.tables e below (s₁.setTop (mkF m 1 #[.val (.ref a1), .val (.int p2), .val (.long q3), .second, .val (.int p4), .val (.ref a5), .val (.int p6), .val (.int p7)] [(.ref a1)])) _
    refine st9 _ ?_
    show Steps p.tables e below (T9.setTop (mkF m 4 #[.val (.ref a1), .val (.int p2), .val (.long q3), .second, .val (.int p4), .val (.ref a5), .val (.int p6), .val (.int p7)] [(.int w8)])) _
    refine XS.iloadN X9.here hx rfl (hb hby d7_4) rfl ?_
    show Steps p.tables e below (T9.setTop (mkF m 5 #[.val (.ref a1), .val (.int p2), .val (.long q3), .second, .val (.int p4), .val (.ref a5), .val (.int p6), .val (.int p7)] [(.int p2), (.int w8)])) _
    refine XS.icmpNo X9.here hx rfl (hb hby d7_5) rfl (teq hc5).2 ?_
    show Steps p.tables e below (T9.setTop (mkF m 8 #[.val (.ref a1), .val (.int p2), .val (.long q3), .second, .val (.int p4), .val (.ref a5), .val (.int p6), .val (.int p7)] [])) _
    refine XS.aloadN X9.here hx rfl (hb hby d7_8) rfl rfl ?_
    show Steps p.tables e below (T9.setTop (mkF m 9 #[.val (.ref a1), .val (.int p2), .val (.long q3), .second, .val (.int p4), .val (.ref a5), .val (.int p6), .val (.int p7)] [(.ref a1)])) _
    refine st11 _ ?_
    show Steps p.tables e below (T11.setTop (mkF m 12 #[.val (.ref a1), .val (.int p2), .val (.long q3), .second, .val (.int p4), .val (.ref a5), .val (.int p6), .val (.int p7)] [(.long w10)])) _
    refine XS.lloadN X11.here hx rfl (hb hby d7_12) rfl ?_
    show Steps p.tables e below (T11.setTop (mkF m 13 #[.val (.ref a1), .val (.int p2), .val (.long q3), .second, .val (.int p4), .val (.ref a5), .val (.int p6), .val (.int p7)] [(.long q3), (.long w10)])) _
    refine XS.lcmp X11.here hx rfl (hb hby d7_13) rfl ?_
    show Steps p.tables e below (T11.setTop (mkF m 14 #[.val (.ref a1), .val (.int p2), .val (.long q3), .second, .val (.int p4), .val (.ref a5), .val (.int p6), .val (.int p7)] [(.int (lcmpW w10 q3))])) _
    refine XS.ifNo X11.here hx rfl (hb hby d7_14) rfl ((if0 _ _).trans (teq hc14).2) ?_
    show Steps p.tables e below (T11.setTop (mkF m 17 #[.val (.ref a1), .val (.int p2), .val (.long q3), .second, .val (.int p4), .val (.ref a5), .val (.int p6), .val (.int p7)] [])) _
    refine XS.aloadN X11.here hx rfl (hb hby d7_17) rfl rfl ?_
    show Steps p.tables e below (T11.setTop (mkF m 18 #[.val (.ref a1), .val (.int p2), .val (.long q3), .second, .val (.int p4), .val (.ref a5), .val (.int p6), .val (.int p7)] [(.ref a1)])) _
    refine st13 _ ?_
    show Steps p.tables e below (T13.setTop (mkF m 21 #[.val (.ref a1), .val (.int p2), .val (.long q3), .second, .val (.int p4), .val (.ref a5), .val (.int p6), .val (.int p7)] [(.int w12)])) _
    refine XS.iload X13.here hx rfl (hb hby d7_21) rfl ?_
    show Steps p.tables e below (T13.setTop (mkF m 23 #[.val (.ref a1), .val (.int p2), .val (.long q3), .second, .val (.int p4), .val (.ref a5), .val (.int p6), .val (.int p7)] [(.int p4), (.int w12)])) _
    refine XS.icmpNo X13.here hx rfl (hb hby d7_23) rfl (teq hc23).2 ?_
    show Steps p.tables e below (T13.setTop (mkF m 26 #[.val (.ref a1), .val (.int p2), .val (.long q3), .second, .val (.int p4), .val (.ref a5), .val (.int p6), .val (.int p7)] [])) _
    refine XS.aloadN X13.here hx rfl (hb hby d7_26) rfl rfl ?_
    show Steps p.tables e below (T13.setTop (mkF m 27 #[.val (.ref a1), .val (.int p2), .val (.long q3), .second, .val (.int p4), .val (.ref a5), .val (.int p6), .val (.int p7)] [(.ref a1)])) _
    refine st15 _ ?_
    show Steps p.tables e below (T15.setTop (mkF m 30 #[.val (.ref a1), .val (.int p2), .val (.long q3), .second, .val (.int p4), .val (.ref a5), .val (.int p6), .val (.int p7)] [(.ref w14)])) _
    refine XS.aload X15.here hx rfl (hb hby d7_30) rfl rfl ?_
    show Steps p.tables e below (T15.setTop (mkF m 32 #[.val (.ref a1), .val (.int p2), .val (.long q3), .second, .val (.int p4), .val (.ref a5), .val (.int p6), .val (.int p7)] [(.ref a5), (.ref w14)])) _
    refine Jvm.RoadKit.acmp (g := (mkF m 32 #[.val (.ref a1), .val (.int p2), .val (.long q3), .second, .val (.int p4), .val (.ref a5), .val (.int p6), .val (.int p7)] [(.ref a5), (.ref w14)])) X15 hx rfl rfl rfl (pc0 := 32) (pc' := 35) (same := true) rfl (hb hby d7_32) rfl (decide_eq_true (congrArg Value.ref ha32)) (by decide) (by decide) ?_
    show Steps p.tables e below (T15.setTop (mkF m 35 #[.val (.ref a1), .val (.int p2), .val (.long q3), .second, .val (.int p4), .val (.ref a5), .val (.int p6), .val (.int p7)] [])) _
    refine XS.aloadN X15.here hx rfl (hb hby d7_35) rfl rfl ?_
    show Steps p.tables e below (T15.setTop (mkF m 36 #[.val (.ref a1), .val (.int p2), .val (.long q3), .second, .val (.int p4), .val (.ref a5), .val (.int p6), .val (.int p7)] [(.ref a1)])) _
    refine st17 _ ?_
    show Steps p.tables e below (T17.setTop (mkF m 39 #[.val (.ref a1), .val (.int p2), .val (.long q3), .second, .val (.int p4), .val (.ref a5), .val (.int p6), .val (.int p7)] [(.int w16)])) _
    refine XS.iload X17.here hx rfl (hb hby d7_39) rfl ?_
    show Steps p.tables e below (T17.setTop (mkF m 41 #[.val (.ref a1), .val (.int p2), .val (.long q3), .second, .val (.int p4), .val (.ref a5), .val (.int p6), .val (.int p7)] [(.int p6), (.int w16)])) _
    refine XS.icmpNo X17.here hx rfl (hb hby d7_41) rfl (teq hc41).2 ?_
    show Steps p.tables e below (T17.setTop (mkF m 44 #[.val (.ref a1), .val (.int p2), .val (.long q3), .second, .val (.int p4), .val (.ref a5), .val (.int p6), .val (.int p7)] [])) _
    refine XS.aloadN X17.here hx rfl (hb hby d7_44) rfl rfl ?_
    show Steps p.tables e below (T17.setTop (mkF m 45 #[.val (.ref a1), .val (.int p2), .val (.long q3), .second, .val (.int p4), .val (.ref a5), .val (.int p6), .val (.int p7)] [(.ref a1)])) _
    refine st19 _ ?_
    show Steps p.tables e below (T19.setTop (mkF m 48 #[.val (.ref a1), .val (.int p2), .val (.long q3), .second, .val (.int p4), .val (.ref a5), .val (.int p6), .val (.int p7)] [(.int w18)])) _
    refine XS.iload X19.here hx rfl (hb hby d7_48) rfl ?_
    show Steps p.tables e below (T19.setTop (mkF m 50 #[.val (.ref a1), .val (.int p2), .val (.long q3), .second, .val (.int p4), .val (.ref a5), .val (.int p6), .val (.int p7)] [(.int p7), (.int w18)])) _
    refine XS.icmpNo X19.here hx rfl (hb hby d7_50) rfl (teq hc50).2 ?_
    show Steps p.tables e below (T19.setTop (mkF m 53 #[.val (.ref a1), .val (.int p2), .val (.long q3), .second, .val (.int p4), .val (.ref a5), .val (.int p6), .val (.int p7)] [])) _
    refine XS.iconst X19.here hx rfl (hb hby d7_53) ?_
    show Steps p.tables e below (T19.setTop (mkF m 54 #[.val (.ref a1), .val (.int p2), .val (.long q3), .second, .val (.int p4), .val (.ref a5), .val (.int p6), .val (.int p7)] [(.int (1 : Int32))])) _
    refine XS.goto X19.here hx rfl (pc0 := 54) (pc' := 58) rfl (hb hby d7_54) (by decide) (by decide) ?_
    show Steps p.tables e below (T19.setTop (mkF m 58 #[.val (.ref a1), .val (.int p2), .val (.long q3), .second, .val (.int p4), .val (.ref a5), .val (.int p6), .val (.int p7)] [(.int (1 : Int32))])) _
    exact retN X19 hx (t := .boolean) Bd.returns (by simp) (hb hby d7_58) hr
  · show Qv (some (.int (1 : Int32))) h0 n0 _ T19.heap _
    rw [e19]
    exact ⟨rfl, N0, rfl⟩
theorem rm7 (l : Launch) (Z : State) (a0 : Array Value) (hw : ∀ d ∈ tables_1, d.before a0 Z = true) (ws : List Jvm.Cond) (a1 : Addr) (p2 : Int32) (q3 : Int64) (p4 : Int32) (a5 : Addr) (p6 p7 : Int32) (x1 : Int32) (x2 : Int64) (x3 : Int32) (x4 : Addr) (x5 x6 : Int32) (h0 : Heap) (n0 : Nat) (Z0 : n0 ≤ h0.size) (G1 : Fld Z h0 a1 "com/example/cablegram/cablegram/engine/Envelope" "source" "I" (.int x1)) (G2 : Fld Z h0 a1 "com/example/cablegram/cablegram/engine/Envelope" "context" "J" (.long x2)) (G3 : Fld Z h0 a1 "com/example/cablegram/cablegram/engine/Envelope" "tag" "I" (.int x3)) (G4 : Fld Z h0 a1 "com/example/cablegram/cablegram/engine/Envelope" "type" "Lcom/example/cablegram/cablegram/engine/ElementType;" (.ref x4)) (G5 : Fld Z h0 a1 "com/example/cablegram/cablegram/engine/Envelope" "count" "I" (.int x5)) (G6 : Fld Z h0 a1 "com/example/cablegram/cablegram/engine/Envelope" "entries" "I" (.int x6)) :
    MetFree l (⟨"com/example/cablegram/cablegram/engine/Envelope", "is", "(IJILcom/example/cablegram/cablegram/engine/ElementType;II)Z"⟩ : MethodName) (head1 (Jvm.Cond.code (⟨"com/example/cablegram/cablegram/engine/Envelope", "is", "(IJILcom/example/cablegram/cablegram/engine/ElementType;II)Z"⟩ : MethodName) prog_30_method_4_code 8 (some .boolean) :: ws) ({ frames := 0, cells := 0, slots := 0, locals := 0 } : Room)) (fun a U => a = #[(.ref a1), (.int p2), (.long q3), (.int p4), (.ref a5), (.int p6), (.int p7)] ∧ Z.Warmed39 U.vm ∧ U.heap = h0) (fun _ _ _ _ _ => True) (fun _ U o U' => ∃ v L, o = .returned v ∧ Qv (some (.int (own_is x1 p2 x2 q3 x3 p4 x4 a5 x5 p6 x6 p7))) h0 n0 v U'.heap L ∧ FrameEnd U o U' L ({ frames := 0, cells := 0, slots := 0, locals := 0 } : Room).cells ({ frames := 0, cells := 0, slots := 0, locals := 0 } : Room).slots) := by
  by_cases g0 : x1 = p2
  · by_cases g1 : x2 = q3
    · by_cases g2 : x3 = p4
      · by_cases g3 : x4 = a5
        · by_cases g4 : x5 = p6
          · by_cases g5 : x6 = p7
            · rw [show own_is x1 p2 x2 q3 x3 p4 x4 a5 x5 p6 x6 p7 = 1 from by unfold own_is; rw [if_pos ⟨g0, g1, g2, g3, g4, g5⟩]]
              exact rm7_ffffff l Z a0 hw ws a1 p2 q3 p4 a5 p6 p7 x1 x2 x3 x4 x5 x6 h0 n0 Z0 G1 G2 G3 G4 G5 G6 g0 (own_lc0.mpr g1) g2 g3 g4 g5
            · rw [show own_is x1 p2 x2 q3 x3 p4 x4 a5 x5 p6 x6 p7 = 0 from by unfold own_is; rw [if_neg (fun q => g5 q.2.2.2.2.2)]]
              exact rm7_ffffft l Z a0 hw ws a1 p2 q3 p4 a5 p6 p7 x1 x2 x3 x4 x5 x6 h0 n0 Z0 G1 G2 G3 G4 G5 G6 g0 (own_lc0.mpr g1) g2 g3 g4 g5
          · rw [show own_is x1 p2 x2 q3 x3 p4 x4 a5 x5 p6 x6 p7 = 0 from by unfold own_is; rw [if_neg (fun q => g4 q.2.2.2.2.1)]]
            exact rm7_fffft l Z a0 hw ws a1 p2 q3 p4 a5 p6 p7 x1 x2 x3 x4 x5 h0 n0 Z0 G1 G2 G3 G4 G5 g0 (own_lc0.mpr g1) g2 g3 g4
        · rw [show own_is x1 p2 x2 q3 x3 p4 x4 a5 x5 p6 x6 p7 = 0 from by unfold own_is; rw [if_neg (fun q => g3 q.2.2.2.1)]]
          exact rm7_ffft l Z a0 hw ws a1 p2 q3 p4 a5 p6 p7 x1 x2 x3 x4 h0 n0 Z0 G1 G2 G3 G4 g0 (own_lc0.mpr g1) g2 g3
      · rw [show own_is x1 p2 x2 q3 x3 p4 x4 a5 x5 p6 x6 p7 = 0 from by unfold own_is; rw [if_neg (fun q => g2 q.2.2.1)]]
        exact rm7_fft l Z a0 hw ws a1 p2 q3 p4 a5 p6 p7 x1 x2 x3 h0 n0 Z0 G1 G2 G3 g0 (own_lc0.mpr g1) g2
    · rw [show own_is x1 p2 x2 q3 x3 p4 x4 a5 x5 p6 x6 p7 = 0 from by unfold own_is; rw [if_neg (fun q => g1 q.2.1)]]
      exact rm7_ft l Z a0 hw ws a1 p2 q3 p4 a5 p6 p7 x1 x2 h0 n0 Z0 G1 G2 g0 (fun q => g1 (own_lc0.mp q))
  · rw [show own_is x1 p2 x2 q3 x3 p4 x4 a5 x5 p6 x6 p7 = 0 from by unfold own_is; rw [if_neg (fun q => g0 q.1)]]
    exact rm7_t l Z a0 hw ws a1 p2 q3 p4 a5 p6 p7 x1 h0 n0 Z0 G1 g0
theorem os0_4 {s0 : Slot} {s1 : Slot} {s2 : Slot} {s3 : Slot} {s4 : Slot} {s5 : Slot} {z6 : Value} {s7 : Slot} {s8 : Slot} {s9 : Slot} {s10 : Slot} {s11 : Slot} {s12 : Slot} {s13 : Slot} {s14 : Slot} {s15 : Slot} {s16 : Slot} {s17 : Slot} {s18 : Slot} {s19 : Slot} {s20 : Slot} {s21 : Slot} {s22 : Slot} {s23 : Slot} {s24 : Slot} {s25 : Slot} {v : Int32} (h : One s7) : storeLocals #[s0, s1, s2, s3, s4, s5, .val z6, s7, s8, s9, s10, s11, s12, s13, s14, s15, s16, s17, s18, s19, s20, s21, s22, s23, s24, s25] 7 (.int v) = some #[s0, s1, s2, s3, s4, s5, .val z6, .val (.int v), s8, s9, s10, s11, s12, s13, s14, s15, s16, s17, s18, s19, s20, s21, s22, s23, s24, s25] := by
  rcases h with rfl | ⟨w, rfl, hw⟩
  · rfl
  · cases w <;> first | rfl | (simp [Value.category] at hw)
theorem os0_12 {s0 : Slot} {s1 : Slot} {s2 : Slot} {s3 : Slot} {s4 : Slot} {s5 : Slot} {z6 : Value} {z7 : Value} {s8 : Slot} {s9 : Slot} {s10 : Slot} {s11 : Slot} {s12 : Slot} {s13 : Slot} {s14 : Slot} {s15 : Slot} {s16 : Slot} {s17 : Slot} {s18 : Slot} {s19 : Slot} {s20 : Slot} {s21 : Slot} {s22 : Slot} {s23 : Slot} {s24 : Slot} {s25 : Slot} {v : Int32} (h : One s8) : storeLocals #[s0, s1, s2, s3, s4, s5, .val z6, .val z7, s8, s9, s10, s11, s12, s13, s14, s15, s16, s17, s18, s19, s20, s21, s22, s23, s24, s25] 8 (.int v) = some #[s0, s1, s2, s3, s4, s5, .val z6, .val z7, .val (.int v), s9, s10, s11, s12, s13, s14, s15, s16, s17, s18, s19, s20, s21, s22, s23, s24, s25] := by
  rcases h with rfl | ⟨w, rfl, hw⟩
  · rfl
  · cases w <;> first | rfl | (simp [Value.category] at hw)
theorem os0_20 {s0 : Slot} {s1 : Slot} {s2 : Slot} {s3 : Slot} {s4 : Slot} {s5 : Slot} {z6 : Value} {z7 : Value} {z8 : Value} {s9 : Slot} {s10 : Slot} {s11 : Slot} {s12 : Slot} {s13 : Slot} {s14 : Slot} {s15 : Slot} {s16 : Slot} {s17 : Slot} {s18 : Slot} {s19 : Slot} {s20 : Slot} {s21 : Slot} {s22 : Slot} {s23 : Slot} {s24 : Slot} {s25 : Slot} {v : Int32} (h : One s9) : storeLocals #[s0, s1, s2, s3, s4, s5, .val z6, .val z7, .val z8, s9, s10, s11, s12, s13, s14, s15, s16, s17, s18, s19, s20, s21, s22, s23, s24, s25] 9 (.int v) = some #[s0, s1, s2, s3, s4, s5, .val z6, .val z7, .val z8, .val (.int v), s10, s11, s12, s13, s14, s15, s16, s17, s18, s19, s20, s21, s22, s23, s24, s25] := by
  rcases h with rfl | ⟨w, rfl, hw⟩
  · rfl
  · cases w <;> first | rfl | (simp [Value.category] at hw)
theorem os0_29 {s0 : Slot} {s1 : Slot} {s2 : Slot} {s3 : Slot} {s4 : Slot} {s5 : Slot} {z6 : Value} {z7 : Value} {z8 : Value} {z9 : Value} {s10 : Slot} {s11 : Slot} {s12 : Slot} {s13 : Slot} {s14 : Slot} {s15 : Slot} {s16 : Slot} {s17 : Slot} {s18 : Slot} {s19 : Slot} {s20 : Slot} {s21 : Slot} {s22 : Slot} {s23 : Slot} {s24 : Slot} {s25 : Slot} {v : Int32} (h : One s10) : storeLocals #[s0, s1, s2, s3, s4, s5, .val z6, .val z7, .val z8, .val z9, s10, s11, s12, s13, s14, s15, s16, s17, s18, s19, s20, s21, s22, s23, s24, s25] 10 (.int v) = some #[s0, s1, s2, s3, s4, s5, .val z6, .val z7, .val z8, .val z9, .val (.int v), s11, s12, s13, s14, s15, s16, s17, s18, s19, s20, s21, s22, s23, s24, s25] := by
  rcases h with rfl | ⟨w, rfl, hw⟩
  · rfl
  · cases w <;> first | rfl | (simp [Value.category] at hw)
theorem os0_38 {s0 : Slot} {s1 : Slot} {s2 : Slot} {s3 : Slot} {s4 : Slot} {s5 : Slot} {z6 : Value} {z7 : Value} {z8 : Value} {z9 : Value} {z10 : Value} {s11 : Slot} {s12 : Slot} {s13 : Slot} {s14 : Slot} {s15 : Slot} {s16 : Slot} {s17 : Slot} {s18 : Slot} {s19 : Slot} {s20 : Slot} {s21 : Slot} {s22 : Slot} {s23 : Slot} {s24 : Slot} {s25 : Slot} {v : Int32} (h : One s11) : storeLocals #[s0, s1, s2, s3, s4, s5, .val z6, .val z7, .val z8, .val z9, .val z10, s11, s12, s13, s14, s15, s16, s17, s18, s19, s20, s21, s22, s23, s24, s25] 11 (.int v) = some #[s0, s1, s2, s3, s4, s5, .val z6, .val z7, .val z8, .val z9, .val z10, .val (.int v), s12, s13, s14, s15, s16, s17, s18, s19, s20, s21, s22, s23, s24, s25] := by
  rcases h with rfl | ⟨w, rfl, hw⟩
  · rfl
  · cases w <;> first | rfl | (simp [Value.category] at hw)
theorem os0_51 {s0 : Slot} {s1 : Slot} {s2 : Slot} {s3 : Slot} {s4 : Slot} {s5 : Slot} {z6 : Value} {z7 : Value} {z8 : Value} {z9 : Value} {z10 : Value} {z11 : Value} {s12 : Slot} {s13 : Slot} {s14 : Slot} {s15 : Slot} {s16 : Slot} {s17 : Slot} {s18 : Slot} {s19 : Slot} {s20 : Slot} {s21 : Slot} {s22 : Slot} {s23 : Slot} {s24 : Slot} {s25 : Slot} {v : Int32} (h : One s12) : storeLocals #[s0, s1, s2, s3, s4, s5, .val z6, .val z7, .val z8, .val z9, .val z10, .val z11, s12, s13, s14, s15, s16, s17, s18, s19, s20, s21, s22, s23, s24, s25] 12 (.int v) = some #[s0, s1, s2, s3, s4, s5, .val z6, .val z7, .val z8, .val z9, .val z10, .val z11, .val (.int v), s13, s14, s15, s16, s17, s18, s19, s20, s21, s22, s23, s24, s25] := by
  rcases h with rfl | ⟨w, rfl, hw⟩
  · rfl
  · cases w <;> first | rfl | (simp [Value.category] at hw)
theorem os0_64 {s0 : Slot} {s1 : Slot} {s2 : Slot} {s3 : Slot} {s4 : Slot} {s5 : Slot} {z6 : Value} {z7 : Value} {z8 : Value} {z9 : Value} {z10 : Value} {z11 : Value} {z12 : Value} {s13 : Slot} {s14 : Slot} {s15 : Slot} {s16 : Slot} {s17 : Slot} {s18 : Slot} {s19 : Slot} {s20 : Slot} {s21 : Slot} {s22 : Slot} {s23 : Slot} {s24 : Slot} {s25 : Slot} {v : Int32} (h : One s13) : storeLocals #[s0, s1, s2, s3, s4, s5, .val z6, .val z7, .val z8, .val z9, .val z10, .val z11, .val z12, s13, s14, s15, s16, s17, s18, s19, s20, s21, s22, s23, s24, s25] 13 (.int v) = some #[s0, s1, s2, s3, s4, s5, .val z6, .val z7, .val z8, .val z9, .val z10, .val z11, .val z12, .val (.int v), s14, s15, s16, s17, s18, s19, s20, s21, s22, s23, s24, s25] := by
  rcases h with rfl | ⟨w, rfl, hw⟩
  · rfl
  · cases w <;> first | rfl | (simp [Value.category] at hw)
theorem os0_74 {s0 : Slot} {s1 : Slot} {s2 : Slot} {s3 : Slot} {s4 : Slot} {s5 : Slot} {z6 : Value} {z7 : Value} {z8 : Value} {z9 : Value} {z10 : Value} {z11 : Value} {z12 : Value} {z13 : Value} {s14 : Slot} {s15 : Slot} {s16 : Slot} {s17 : Slot} {s18 : Slot} {s19 : Slot} {s20 : Slot} {s21 : Slot} {s22 : Slot} {s23 : Slot} {s24 : Slot} {s25 : Slot} {v : Int32} (h : One s14) : storeLocals #[s0, s1, s2, s3, s4, s5, .val z6, .val z7, .val z8, .val z9, .val z10, .val z11, .val z12, .val z13, s14, s15, s16, s17, s18, s19, s20, s21, s22, s23, s24, s25] 14 (.int v) = some #[s0, s1, s2, s3, s4, s5, .val z6, .val z7, .val z8, .val z9, .val z10, .val z11, .val z12, .val z13, .val (.int v), s15, s16, s17, s18, s19, s20, s21, s22, s23, s24, s25] := by
  rcases h with rfl | ⟨w, rfl, hw⟩
  · rfl
  · cases w <;> first | rfl | (simp [Value.category] at hw)
set_option maxRecDepth 65536 in
set_option maxHeartbeats 40000000 in
theorem tn0_0_76_x {p : Program} {l : Launch} {e : Env} {R : Room} {s : State} {m : MethodId} {args : Array Value} {below : List Frame} {meth : Method} {c : Code} {T0 : State} {locs : List Loc} {cells slots : Nat} {Z : State} {a0 : Array Value} {h0 : Heap} (s0 : Slot) (s1 : Slot) (s2 : Slot) (s3 : Slot) (s4 : Slot) (s5 : Slot) (i6 : Int32) (s7 : Slot) (s8 : Slot) (s9 : Slot) (s10 : Slot) (s11 : Slot) (s12 : Slot) (s13 : Slot) (s14 : Slot) (s15 : Slot) (s16 : Slot) (s17 : Slot) (s18 : Slot) (s19 : Slot) (s20 : Slot) (s21 : Slot) (s22 : Slot) (s23 : Slot) (s24 : Slot) (s25 : Slot)
    (X0 : Stand p l e R s m args below meth c T0 locs cells slots) (hx : p.tables.exec = Jvm.exec) (hZ : Z.Warmed39 s.vm) (hw : ∀ d ∈ tables_1, d.before a0 Z = true) (hby : c.code = code) (hml : c.maxLocals = 26) (hown : s.vm.findClass "com/example/cablegram/cablegram/engine/EnvelopeIsPinLaw" = some m.cls) (e0 : T0.heap = h0) (hs7 : One s7) (hs8 : One s8) (hs9 : One s9) (hs10 : One s10) (hs11 : One s11) (hs12 : One s12) (hs13 : One s13) (hs14 : One s14) :
    ∃ (T' : State), Stand p l e R s m args below meth c T' locs cells slots ∧ T'.heap = h0 ∧
      ∀ target, Steps p.tables e below (T'.setTop (mkF m 76 #[s0, s1, s2, s3, s4, s5, .val (.int i6), .val (.int (i6 &&& (3 : Int32))), .val (.int (((i6.toUInt32 >>> ((2 : Int32) &&& 31).toUInt32).toInt32) &&& (3 : Int32))), .val (.int (((i6.toUInt32 >>> ((4 : Int32) &&& 31).toUInt32).toInt32) &&& (3 : Int32))), .val (.int (((i6.toUInt32 >>> ((6 : Int32) &&& 31).toUInt32).toInt32) &&& (3 : Int32))), .val (.int (((i6.toUInt32 >>> ((8 : Int32) &&& 31).toUInt32).toInt32) &&& (3 : Int32))), .val (.int (own_rem (((i6.toUInt32 >>> ((10 : Int32) &&& 31).toUInt32).toInt32) &&& (15 : Int32)) (10 : Int32))), .val (.int (own_rem (((i6.toUInt32 >>> ((14 : Int32) &&& 31).toUInt32).toInt32) &&& (15 : Int32)) (10 : Int32))), .val (.int (own_rem ((own_rem (((i6.toUInt32 >>> ((10 : Int32) &&& 31).toUInt32).toInt32) &&& (15 : Int32)) (10 : Int32)) + (own_rem (((i6.toUInt32 >>> ((14 : Int32) &&& 31).toUInt32).toInt32) &&& (15 : Int32)) (10 : Int32))) (10 : Int32))), s15, s16, s17, s18, s19, s20, s21, s22, s23, s24, s25] [])) target → Steps p.tables e below (T0.setTop (mkF m 0 #[s0, s1, s2, s3, s4, s5, .val (.int i6), s7, s8, s9, s10, s11, s12, s13, s14, s15, s16, s17, s18, s19, s20, s21, s22, s23, s24, s25] [])) target := by
  -- 3. LAWS

  refine ⟨T0, X0, e0, fun target kt => ?_⟩
  -- 4. STEPS
  show Steps p.tables e below (T0.setTop (mkF m 0 #[s0, s1, s2, s3, s4, s5, .val (.int i6), s7, s8, s9, s10, s11, s12, s13, s14, s15, s16, s17, s18, s19, s20, s21, s22, s23, s24, s25] [])) _
  refine XS.iload X0.here hx rfl (hb hby at_0) rfl ?_
  show Steps p.tables e below (T0.setTop (mkF m 2 #[s0, s1, s2, s3, s4, s5, .val (.int i6), s7, s8, s9, s10, s11, s12, s13, s14, s15, s16, s17, s18, s19, s20, s21, s22, s23, s24, s25] [(.int i6)])) _
  refine XS.iconst X0.here hx rfl (hb hby at_2) ?_
  show Steps p.tables e below (T0.setTop (mkF m 3 #[s0, s1, s2, s3, s4, s5, .val (.int i6), s7, s8, s9, s10, s11, s12, s13, s14, s15, s16, s17, s18, s19, s20, s21, s22, s23, s24, s25] [(.int (3 : Int32)), (.int i6)])) _
  refine XS.iand X0.here hx rfl (hb hby at_3) rfl ?_
  show Steps p.tables e below (T0.setTop (mkF m 4 #[s0, s1, s2, s3, s4, s5, .val (.int i6), s7, s8, s9, s10, s11, s12, s13, s14, s15, s16, s17, s18, s19, s20, s21, s22, s23, s24, s25] [(.int (i6 &&& (3 : Int32)))])) _
  refine XS.istore X0.here hx rfl (hb hby at_4) rfl (l' := #[s0, s1, s2, s3, s4, s5, .val (.int i6), .val (.int (i6 &&& (3 : Int32))), s8, s9, s10, s11, s12, s13, s14, s15, s16, s17, s18, s19, s20, s21, s22, s23, s24, s25]) (os0_4 hs7) ?_
  show Steps p.tables e below (T0.setTop (mkF m 6 #[s0, s1, s2, s3, s4, s5, .val (.int i6), .val (.int (i6 &&& (3 : Int32))), s8, s9, s10, s11, s12, s13, s14, s15, s16, s17, s18, s19, s20, s21, s22, s23, s24, s25] [])) _
  refine XS.iload X0.here hx rfl (hb hby at_6) rfl ?_
  show Steps p.tables e below (T0.setTop (mkF m 8 #[s0, s1, s2, s3, s4, s5, .val (.int i6), .val (.int (i6 &&& (3 : Int32))), s8, s9, s10, s11, s12, s13, s14, s15, s16, s17, s18, s19, s20, s21, s22, s23, s24, s25] [(.int i6)])) _
  refine XS.iconst X0.here hx rfl (hb hby at_8) ?_
  show Steps p.tables e below (T0.setTop (mkF m 9 #[s0, s1, s2, s3, s4, s5, .val (.int i6), .val (.int (i6 &&& (3 : Int32))), s8, s9, s10, s11, s12, s13, s14, s15, s16, s17, s18, s19, s20, s21, s22, s23, s24, s25] [(.int (2 : Int32)), (.int i6)])) _
  refine XS.iushr X0.here hx rfl (hb hby at_9) rfl ?_
  show Steps p.tables e below (T0.setTop (mkF m 10 #[s0, s1, s2, s3, s4, s5, .val (.int i6), .val (.int (i6 &&& (3 : Int32))), s8, s9, s10, s11, s12, s13, s14, s15, s16, s17, s18, s19, s20, s21, s22, s23, s24, s25] [(.int ((i6.toUInt32 >>> ((2 : Int32) &&& 31).toUInt32).toInt32))])) _
  refine XS.iconst X0.here hx rfl (hb hby at_10) ?_
  show Steps p.tables e below (T0.setTop (mkF m 11 #[s0, s1, s2, s3, s4, s5, .val (.int i6), .val (.int (i6 &&& (3 : Int32))), s8, s9, s10, s11, s12, s13, s14, s15, s16, s17, s18, s19, s20, s21, s22, s23, s24, s25] [(.int (3 : Int32)), (.int ((i6.toUInt32 >>> ((2 : Int32) &&& 31).toUInt32).toInt32))])) _
  refine XS.iand X0.here hx rfl (hb hby at_11) rfl ?_
  show Steps p.tables e below (T0.setTop (mkF m 12 #[s0, s1, s2, s3, s4, s5, .val (.int i6), .val (.int (i6 &&& (3 : Int32))), s8, s9, s10, s11, s12, s13, s14, s15, s16, s17, s18, s19, s20, s21, s22, s23, s24, s25] [(.int (((i6.toUInt32 >>> ((2 : Int32) &&& 31).toUInt32).toInt32) &&& (3 : Int32)))])) _
  refine XS.istore X0.here hx rfl (hb hby at_12) rfl (l' := #[s0, s1, s2, s3, s4, s5, .val (.int i6), .val (.int (i6 &&& (3 : Int32))), .val (.int (((i6.toUInt32 >>> ((2 : Int32) &&& 31).toUInt32).toInt32) &&& (3 : Int32))), s9, s10, s11, s12, s13, s14, s15, s16, s17, s18, s19, s20, s21, s22, s23, s24, s25]) (os0_12 hs8) ?_
  show Steps p.tables e below (T0.setTop (mkF m 14 #[s0, s1, s2, s3, s4, s5, .val (.int i6), .val (.int (i6 &&& (3 : Int32))), .val (.int (((i6.toUInt32 >>> ((2 : Int32) &&& 31).toUInt32).toInt32) &&& (3 : Int32))), s9, s10, s11, s12, s13, s14, s15, s16, s17, s18, s19, s20, s21, s22, s23, s24, s25] [])) _
  refine XS.iload X0.here hx rfl (hb hby at_14) rfl ?_
  show Steps p.tables e below (T0.setTop (mkF m 16 #[s0, s1, s2, s3, s4, s5, .val (.int i6), .val (.int (i6 &&& (3 : Int32))), .val (.int (((i6.toUInt32 >>> ((2 : Int32) &&& 31).toUInt32).toInt32) &&& (3 : Int32))), s9, s10, s11, s12, s13, s14, s15, s16, s17, s18, s19, s20, s21, s22, s23, s24, s25] [(.int i6)])) _
  refine XS.iconst X0.here hx rfl (hb hby at_16) ?_
  show Steps p.tables e below (T0.setTop (mkF m 17 #[s0, s1, s2, s3, s4, s5, .val (.int i6), .val (.int (i6 &&& (3 : Int32))), .val (.int (((i6.toUInt32 >>> ((2 : Int32) &&& 31).toUInt32).toInt32) &&& (3 : Int32))), s9, s10, s11, s12, s13, s14, s15, s16, s17, s18, s19, s20, s21, s22, s23, s24, s25] [(.int (4 : Int32)), (.int i6)])) _
  refine XS.iushr X0.here hx rfl (hb hby at_17) rfl ?_
  show Steps p.tables e below (T0.setTop (mkF m 18 #[s0, s1, s2, s3, s4, s5, .val (.int i6), .val (.int (i6 &&& (3 : Int32))), .val (.int (((i6.toUInt32 >>> ((2 : Int32) &&& 31).toUInt32).toInt32) &&& (3 : Int32))), s9, s10, s11, s12, s13, s14, s15, s16, s17, s18, s19, s20, s21, s22, s23, s24, s25] [(.int ((i6.toUInt32 >>> ((4 : Int32) &&& 31).toUInt32).toInt32))])) _
  refine XS.iconst X0.here hx rfl (hb hby at_18) ?_
  show Steps p.tables e below (T0.setTop (mkF m 19 #[s0, s1, s2, s3, s4, s5, .val (.int i6), .val (.int (i6 &&& (3 : Int32))), .val (.int (((i6.toUInt32 >>> ((2 : Int32) &&& 31).toUInt32).toInt32) &&& (3 : Int32))), s9, s10, s11, s12, s13, s14, s15, s16, s17, s18, s19, s20, s21, s22, s23, s24, s25] [(.int (3 : Int32)), (.int ((i6.toUInt32 >>> ((4 : Int32) &&& 31).toUInt32).toInt32))])) _
  refine XS.iand X0.here hx rfl (hb hby at_19) rfl ?_
  show Steps p.tables e below (T0.setTop (mkF m 20 #[s0, s1, s2, s3, s4, s5, .val (.int i6), .val (.int (i6 &&& (3 : Int32))), .val (.int (((i6.toUInt32 >>> ((2 : Int32) &&& 31).toUInt32).toInt32) &&& (3 : Int32))), s9, s10, s11, s12, s13, s14, s15, s16, s17, s18, s19, s20, s21, s22, s23, s24, s25] [(.int (((i6.toUInt32 >>> ((4 : Int32) &&& 31).toUInt32).toInt32) &&& (3 : Int32)))])) _
  refine XS.istore X0.here hx rfl (hb hby at_20) rfl (l' := #[s0, s1, s2, s3, s4, s5, .val (.int i6), .val (.int (i6 &&& (3 : Int32))), .val (.int (((i6.toUInt32 >>> ((2 : Int32) &&& 31).toUInt32).toInt32) &&& (3 : Int32))), .val (.int (((i6.toUInt32 >>> ((4 : Int32) &&& 31).toUInt32).toInt32) &&& (3 : Int32))), s10, s11, s12, s13, s14, s15, s16, s17, s18, s19, s20, s21, s22, s23, s24, s25]) (os0_20 hs9) ?_
  show Steps p.tables e below (T0.setTop (mkF m 22 #[s0, s1, s2, s3, s4, s5, .val (.int i6), .val (.int (i6 &&& (3 : Int32))), .val (.int (((i6.toUInt32 >>> ((2 : Int32) &&& 31).toUInt32).toInt32) &&& (3 : Int32))), .val (.int (((i6.toUInt32 >>> ((4 : Int32) &&& 31).toUInt32).toInt32) &&& (3 : Int32))), s10, s11, s12, s13, s14, s15, s16, s17, s18, s19, s20, s21, s22, s23, s24, s25] [])) _
  refine XS.iload X0.here hx rfl (hb hby at_22) rfl ?_
  show Steps p.tables e below (T0.setTop (mkF m 24 #[s0, s1, s2, s3, s4, s5, .val (.int i6), .val (.int (i6 &&& (3 : Int32))), .val (.int (((i6.toUInt32 >>> ((2 : Int32) &&& 31).toUInt32).toInt32) &&& (3 : Int32))), .val (.int (((i6.toUInt32 >>> ((4 : Int32) &&& 31).toUInt32).toInt32) &&& (3 : Int32))), s10, s11, s12, s13, s14, s15, s16, s17, s18, s19, s20, s21, s22, s23, s24, s25] [(.int i6)])) _
  refine XS.bipush X0.here hx rfl (hb hby at_24) ?_
  show Steps p.tables e below (T0.setTop (mkF m 26 #[s0, s1, s2, s3, s4, s5, .val (.int i6), .val (.int (i6 &&& (3 : Int32))), .val (.int (((i6.toUInt32 >>> ((2 : Int32) &&& 31).toUInt32).toInt32) &&& (3 : Int32))), .val (.int (((i6.toUInt32 >>> ((4 : Int32) &&& 31).toUInt32).toInt32) &&& (3 : Int32))), s10, s11, s12, s13, s14, s15, s16, s17, s18, s19, s20, s21, s22, s23, s24, s25] [(.int (6 : Int32)), (.int i6)])) _
  refine XS.iushr X0.here hx rfl (hb hby at_26) rfl ?_
  show Steps p.tables e below (T0.setTop (mkF m 27 #[s0, s1, s2, s3, s4, s5, .val (.int i6), .val (.int (i6 &&& (3 : Int32))), .val (.int (((i6.toUInt32 >>> ((2 : Int32) &&& 31).toUInt32).toInt32) &&& (3 : Int32))), .val (.int (((i6.toUInt32 >>> ((4 : Int32) &&& 31).toUInt32).toInt32) &&& (3 : Int32))), s10, s11, s12, s13, s14, s15, s16, s17, s18, s19, s20, s21, s22, s23, s24, s25] [(.int ((i6.toUInt32 >>> ((6 : Int32) &&& 31).toUInt32).toInt32))])) _
  refine XS.iconst X0.here hx rfl (hb hby at_27) ?_
  show Steps p.tables e below (T0.setTop (mkF m 28 #[s0, s1, s2, s3, s4, s5, .val (.int i6), .val (.int (i6 &&& (3 : Int32))), .val (.int (((i6.toUInt32 >>> ((2 : Int32) &&& 31).toUInt32).toInt32) &&& (3 : Int32))), .val (.int (((i6.toUInt32 >>> ((4 : Int32) &&& 31).toUInt32).toInt32) &&& (3 : Int32))), s10, s11, s12, s13, s14, s15, s16, s17, s18, s19, s20, s21, s22, s23, s24, s25] [(.int (3 : Int32)), (.int ((i6.toUInt32 >>> ((6 : Int32) &&& 31).toUInt32).toInt32))])) _
  refine XS.iand X0.here hx rfl (hb hby at_28) rfl ?_
  show Steps p.tables e below (T0.setTop (mkF m 29 #[s0, s1, s2, s3, s4, s5, .val (.int i6), .val (.int (i6 &&& (3 : Int32))), .val (.int (((i6.toUInt32 >>> ((2 : Int32) &&& 31).toUInt32).toInt32) &&& (3 : Int32))), .val (.int (((i6.toUInt32 >>> ((4 : Int32) &&& 31).toUInt32).toInt32) &&& (3 : Int32))), s10, s11, s12, s13, s14, s15, s16, s17, s18, s19, s20, s21, s22, s23, s24, s25] [(.int (((i6.toUInt32 >>> ((6 : Int32) &&& 31).toUInt32).toInt32) &&& (3 : Int32)))])) _
  refine XS.istore X0.here hx rfl (hb hby at_29) rfl (l' := #[s0, s1, s2, s3, s4, s5, .val (.int i6), .val (.int (i6 &&& (3 : Int32))), .val (.int (((i6.toUInt32 >>> ((2 : Int32) &&& 31).toUInt32).toInt32) &&& (3 : Int32))), .val (.int (((i6.toUInt32 >>> ((4 : Int32) &&& 31).toUInt32).toInt32) &&& (3 : Int32))), .val (.int (((i6.toUInt32 >>> ((6 : Int32) &&& 31).toUInt32).toInt32) &&& (3 : Int32))), s11, s12, s13, s14, s15, s16, s17, s18, s19, s20, s21, s22, s23, s24, s25]) (os0_29 hs10) ?_
  show Steps p.tables e below (T0.setTop (mkF m 31 #[s0, s1, s2, s3, s4, s5, .val (.int i6), .val (.int (i6 &&& (3 : Int32))), .val (.int (((i6.toUInt32 >>> ((2 : Int32) &&& 31).toUInt32).toInt32) &&& (3 : Int32))), .val (.int (((i6.toUInt32 >>> ((4 : Int32) &&& 31).toUInt32).toInt32) &&& (3 : Int32))), .val (.int (((i6.toUInt32 >>> ((6 : Int32) &&& 31).toUInt32).toInt32) &&& (3 : Int32))), s11, s12, s13, s14, s15, s16, s17, s18, s19, s20, s21, s22, s23, s24, s25] [])) _
  refine XS.iload X0.here hx rfl (hb hby at_31) rfl ?_
  show Steps p.tables e below (T0.setTop (mkF m 33 #[s0, s1, s2, s3, s4, s5, .val (.int i6), .val (.int (i6 &&& (3 : Int32))), .val (.int (((i6.toUInt32 >>> ((2 : Int32) &&& 31).toUInt32).toInt32) &&& (3 : Int32))), .val (.int (((i6.toUInt32 >>> ((4 : Int32) &&& 31).toUInt32).toInt32) &&& (3 : Int32))), .val (.int (((i6.toUInt32 >>> ((6 : Int32) &&& 31).toUInt32).toInt32) &&& (3 : Int32))), s11, s12, s13, s14, s15, s16, s17, s18, s19, s20, s21, s22, s23, s24, s25] [(.int i6)])) _
  refine XS.bipush X0.here hx rfl (hb hby at_33) ?_
  show Steps p.tables e below (T0.setTop (mkF m 35 #[s0, s1, s2, s3, s4, s5, .val (.int i6), .val (.int (i6 &&& (3 : Int32))), .val (.int (((i6.toUInt32 >>> ((2 : Int32) &&& 31).toUInt32).toInt32) &&& (3 : Int32))), .val (.int (((i6.toUInt32 >>> ((4 : Int32) &&& 31).toUInt32).toInt32) &&& (3 : Int32))), .val (.int (((i6.toUInt32 >>> ((6 : Int32) &&& 31).toUInt32).toInt32) &&& (3 : Int32))), s11, s12, s13, s14, s15, s16, s17, s18, s19, s20, s21, s22, s23, s24, s25] [(.int (8 : Int32)), (.int i6)])) _
  refine XS.iushr X0.here hx rfl (hb hby at_35) rfl ?_
  show Steps p.tables e below (T0.setTop (mkF m 36 #[s0, s1, s2, s3, s4, s5, .val (.int i6), .val (.int (i6 &&& (3 : Int32))), .val (.int (((i6.toUInt32 >>> ((2 : Int32) &&& 31).toUInt32).toInt32) &&& (3 : Int32))), .val (.int (((i6.toUInt32 >>> ((4 : Int32) &&& 31).toUInt32).toInt32) &&& (3 : Int32))), .val (.int (((i6.toUInt32 >>> ((6 : Int32) &&& 31).toUInt32).toInt32) &&& (3 : Int32))), s11, s12, s13, s14, s15, s16, s17, s18, s19, s20, s21, s22, s23, s24, s25] [(.int ((i6.toUInt32 >>> ((8 : Int32) &&& 31).toUInt32).toInt32))])) _
  refine XS.iconst X0.here hx rfl (hb hby at_36) ?_
  show Steps p.tables e below (T0.setTop (mkF m 37 #[s0, s1, s2, s3, s4, s5, .val (.int i6), .val (.int (i6 &&& (3 : Int32))), .val (.int (((i6.toUInt32 >>> ((2 : Int32) &&& 31).toUInt32).toInt32) &&& (3 : Int32))), .val (.int (((i6.toUInt32 >>> ((4 : Int32) &&& 31).toUInt32).toInt32) &&& (3 : Int32))), .val (.int (((i6.toUInt32 >>> ((6 : Int32) &&& 31).toUInt32).toInt32) &&& (3 : Int32))), s11, s12, s13, s14, s15, s16, s17, s18, s19, s20, s21, s22, s23, s24, s25] [(.int (3 : Int32)), (.int ((i6.toUInt32 >>> ((8 : Int32) &&& 31).toUInt32).toInt32))])) _
  refine XS.iand X0.here hx rfl (hb hby at_37) rfl ?_
  show Steps p.tables e below (T0.setTop (mkF m 38 #[s0, s1, s2, s3, s4, s5, .val (.int i6), .val (.int (i6 &&& (3 : Int32))), .val (.int (((i6.toUInt32 >>> ((2 : Int32) &&& 31).toUInt32).toInt32) &&& (3 : Int32))), .val (.int (((i6.toUInt32 >>> ((4 : Int32) &&& 31).toUInt32).toInt32) &&& (3 : Int32))), .val (.int (((i6.toUInt32 >>> ((6 : Int32) &&& 31).toUInt32).toInt32) &&& (3 : Int32))), s11, s12, s13, s14, s15, s16, s17, s18, s19, s20, s21, s22, s23, s24, s25] [(.int (((i6.toUInt32 >>> ((8 : Int32) &&& 31).toUInt32).toInt32) &&& (3 : Int32)))])) _
  refine XS.istore X0.here hx rfl (hb hby at_38) rfl (l' := #[s0, s1, s2, s3, s4, s5, .val (.int i6), .val (.int (i6 &&& (3 : Int32))), .val (.int (((i6.toUInt32 >>> ((2 : Int32) &&& 31).toUInt32).toInt32) &&& (3 : Int32))), .val (.int (((i6.toUInt32 >>> ((4 : Int32) &&& 31).toUInt32).toInt32) &&& (3 : Int32))), .val (.int (((i6.toUInt32 >>> ((6 : Int32) &&& 31).toUInt32).toInt32) &&& (3 : Int32))), .val (.int (((i6.toUInt32 >>> ((8 : Int32) &&& 31).toUInt32).toInt32) &&& (3 : Int32))), s12, s13, s14, s15, s16, s17, s18, s19, s20, s21, s22, s23, s24, s25]) (os0_38 hs11) ?_
  show Steps p.tables e below (T0.setTop (mkF m 40 #[s0, s1, s2, s3, s4, s5, .val (.int i6), .val (.int (i6 &&& (3 : Int32))), .val (.int (((i6.toUInt32 >>> ((2 : Int32) &&& 31).toUInt32).toInt32) &&& (3 : Int32))), .val (.int (((i6.toUInt32 >>> ((4 : Int32) &&& 31).toUInt32).toInt32) &&& (3 : Int32))), .val (.int (((i6.toUInt32 >>> ((6 : Int32) &&& 31).toUInt32).toInt32) &&& (3 : Int32))), .val (.int (((i6.toUInt32 >>> ((8 : Int32) &&& 31).toUInt32).toInt32) &&& (3 : Int32))), s12, s13, s14, s15, s16, s17, s18, s19, s20, s21, s22, s23, s24, s25] [])) _
  refine XS.iload X0.here hx rfl (hb hby at_40) rfl ?_
  show Steps p.tables e below (T0.setTop (mkF m 42 #[s0, s1, s2, s3, s4, s5, .val (.int i6), .val (.int (i6 &&& (3 : Int32))), .val (.int (((i6.toUInt32 >>> ((2 : Int32) &&& 31).toUInt32).toInt32) &&& (3 : Int32))), .val (.int (((i6.toUInt32 >>> ((4 : Int32) &&& 31).toUInt32).toInt32) &&& (3 : Int32))), .val (.int (((i6.toUInt32 >>> ((6 : Int32) &&& 31).toUInt32).toInt32) &&& (3 : Int32))), .val (.int (((i6.toUInt32 >>> ((8 : Int32) &&& 31).toUInt32).toInt32) &&& (3 : Int32))), s12, s13, s14, s15, s16, s17, s18, s19, s20, s21, s22, s23, s24, s25] [(.int i6)])) _
  refine XS.bipush X0.here hx rfl (hb hby at_42) ?_
  show Steps p.tables e below (T0.setTop (mkF m 44 #[s0, s1, s2, s3, s4, s5, .val (.int i6), .val (.int (i6 &&& (3 : Int32))), .val (.int (((i6.toUInt32 >>> ((2 : Int32) &&& 31).toUInt32).toInt32) &&& (3 : Int32))), .val (.int (((i6.toUInt32 >>> ((4 : Int32) &&& 31).toUInt32).toInt32) &&& (3 : Int32))), .val (.int (((i6.toUInt32 >>> ((6 : Int32) &&& 31).toUInt32).toInt32) &&& (3 : Int32))), .val (.int (((i6.toUInt32 >>> ((8 : Int32) &&& 31).toUInt32).toInt32) &&& (3 : Int32))), s12, s13, s14, s15, s16, s17, s18, s19, s20, s21, s22, s23, s24, s25] [(.int (10 : Int32)), (.int i6)])) _
  refine XS.iushr X0.here hx rfl (hb hby at_44) rfl ?_
  show Steps p.tables e below (T0.setTop (mkF m 45 #[s0, s1, s2, s3, s4, s5, .val (.int i6), .val (.int (i6 &&& (3 : Int32))), .val (.int (((i6.toUInt32 >>> ((2 : Int32) &&& 31).toUInt32).toInt32) &&& (3 : Int32))), .val (.int (((i6.toUInt32 >>> ((4 : Int32) &&& 31).toUInt32).toInt32) &&& (3 : Int32))), .val (.int (((i6.toUInt32 >>> ((6 : Int32) &&& 31).toUInt32).toInt32) &&& (3 : Int32))), .val (.int (((i6.toUInt32 >>> ((8 : Int32) &&& 31).toUInt32).toInt32) &&& (3 : Int32))), s12, s13, s14, s15, s16, s17, s18, s19, s20, s21, s22, s23, s24, s25] [(.int ((i6.toUInt32 >>> ((10 : Int32) &&& 31).toUInt32).toInt32))])) _
  refine XS.bipush X0.here hx rfl (hb hby at_45) ?_
  show Steps p.tables e below (T0.setTop (mkF m 47 #[s0, s1, s2, s3, s4, s5, .val (.int i6), .val (.int (i6 &&& (3 : Int32))), .val (.int (((i6.toUInt32 >>> ((2 : Int32) &&& 31).toUInt32).toInt32) &&& (3 : Int32))), .val (.int (((i6.toUInt32 >>> ((4 : Int32) &&& 31).toUInt32).toInt32) &&& (3 : Int32))), .val (.int (((i6.toUInt32 >>> ((6 : Int32) &&& 31).toUInt32).toInt32) &&& (3 : Int32))), .val (.int (((i6.toUInt32 >>> ((8 : Int32) &&& 31).toUInt32).toInt32) &&& (3 : Int32))), s12, s13, s14, s15, s16, s17, s18, s19, s20, s21, s22, s23, s24, s25] [(.int (15 : Int32)), (.int ((i6.toUInt32 >>> ((10 : Int32) &&& 31).toUInt32).toInt32))])) _
  refine XS.iand X0.here hx rfl (hb hby at_47) rfl ?_
  show Steps p.tables e below (T0.setTop (mkF m 48 #[s0, s1, s2, s3, s4, s5, .val (.int i6), .val (.int (i6 &&& (3 : Int32))), .val (.int (((i6.toUInt32 >>> ((2 : Int32) &&& 31).toUInt32).toInt32) &&& (3 : Int32))), .val (.int (((i6.toUInt32 >>> ((4 : Int32) &&& 31).toUInt32).toInt32) &&& (3 : Int32))), .val (.int (((i6.toUInt32 >>> ((6 : Int32) &&& 31).toUInt32).toInt32) &&& (3 : Int32))), .val (.int (((i6.toUInt32 >>> ((8 : Int32) &&& 31).toUInt32).toInt32) &&& (3 : Int32))), s12, s13, s14, s15, s16, s17, s18, s19, s20, s21, s22, s23, s24, s25] [(.int (((i6.toUInt32 >>> ((10 : Int32) &&& 31).toUInt32).toInt32) &&& (15 : Int32)))])) _
  refine XS.bipush X0.here hx rfl (hb hby at_48) ?_
  show Steps p.tables e below (T0.setTop (mkF m 50 #[s0, s1, s2, s3, s4, s5, .val (.int i6), .val (.int (i6 &&& (3 : Int32))), .val (.int (((i6.toUInt32 >>> ((2 : Int32) &&& 31).toUInt32).toInt32) &&& (3 : Int32))), .val (.int (((i6.toUInt32 >>> ((4 : Int32) &&& 31).toUInt32).toInt32) &&& (3 : Int32))), .val (.int (((i6.toUInt32 >>> ((6 : Int32) &&& 31).toUInt32).toInt32) &&& (3 : Int32))), .val (.int (((i6.toUInt32 >>> ((8 : Int32) &&& 31).toUInt32).toInt32) &&& (3 : Int32))), s12, s13, s14, s15, s16, s17, s18, s19, s20, s21, s22, s23, s24, s25] [(.int (10 : Int32)), (.int (((i6.toUInt32 >>> ((10 : Int32) &&& 31).toUInt32).toInt32) &&& (15 : Int32)))])) _
  refine iremM X0 hx rfl (hb hby at_50) rfl (by decide) ?_
  show Steps p.tables e below (T0.setTop (mkF m 51 #[s0, s1, s2, s3, s4, s5, .val (.int i6), .val (.int (i6 &&& (3 : Int32))), .val (.int (((i6.toUInt32 >>> ((2 : Int32) &&& 31).toUInt32).toInt32) &&& (3 : Int32))), .val (.int (((i6.toUInt32 >>> ((4 : Int32) &&& 31).toUInt32).toInt32) &&& (3 : Int32))), .val (.int (((i6.toUInt32 >>> ((6 : Int32) &&& 31).toUInt32).toInt32) &&& (3 : Int32))), .val (.int (((i6.toUInt32 >>> ((8 : Int32) &&& 31).toUInt32).toInt32) &&& (3 : Int32))), s12, s13, s14, s15, s16, s17, s18, s19, s20, s21, s22, s23, s24, s25] [(.int (own_rem (((i6.toUInt32 >>> ((10 : Int32) &&& 31).toUInt32).toInt32) &&& (15 : Int32)) (10 : Int32)))])) _
  refine XS.istore X0.here hx rfl (hb hby at_51) rfl (l' := #[s0, s1, s2, s3, s4, s5, .val (.int i6), .val (.int (i6 &&& (3 : Int32))), .val (.int (((i6.toUInt32 >>> ((2 : Int32) &&& 31).toUInt32).toInt32) &&& (3 : Int32))), .val (.int (((i6.toUInt32 >>> ((4 : Int32) &&& 31).toUInt32).toInt32) &&& (3 : Int32))), .val (.int (((i6.toUInt32 >>> ((6 : Int32) &&& 31).toUInt32).toInt32) &&& (3 : Int32))), .val (.int (((i6.toUInt32 >>> ((8 : Int32) &&& 31).toUInt32).toInt32) &&& (3 : Int32))), .val (.int (own_rem (((i6.toUInt32 >>> ((10 : Int32) &&& 31).toUInt32).toInt32) &&& (15 : Int32)) (10 : Int32))), s13, s14, s15, s16, s17, s18, s19, s20, s21, s22, s23, s24, s25]) (os0_51 hs12) ?_
  show Steps p.tables e below (T0.setTop (mkF m 53 #[s0, s1, s2, s3, s4, s5, .val (.int i6), .val (.int (i6 &&& (3 : Int32))), .val (.int (((i6.toUInt32 >>> ((2 : Int32) &&& 31).toUInt32).toInt32) &&& (3 : Int32))), .val (.int (((i6.toUInt32 >>> ((4 : Int32) &&& 31).toUInt32).toInt32) &&& (3 : Int32))), .val (.int (((i6.toUInt32 >>> ((6 : Int32) &&& 31).toUInt32).toInt32) &&& (3 : Int32))), .val (.int (((i6.toUInt32 >>> ((8 : Int32) &&& 31).toUInt32).toInt32) &&& (3 : Int32))), .val (.int (own_rem (((i6.toUInt32 >>> ((10 : Int32) &&& 31).toUInt32).toInt32) &&& (15 : Int32)) (10 : Int32))), s13, s14, s15, s16, s17, s18, s19, s20, s21, s22, s23, s24, s25] [])) _
  refine XS.iload X0.here hx rfl (hb hby at_53) rfl ?_
  show Steps p.tables e below (T0.setTop (mkF m 55 #[s0, s1, s2, s3, s4, s5, .val (.int i6), .val (.int (i6 &&& (3 : Int32))), .val (.int (((i6.toUInt32 >>> ((2 : Int32) &&& 31).toUInt32).toInt32) &&& (3 : Int32))), .val (.int (((i6.toUInt32 >>> ((4 : Int32) &&& 31).toUInt32).toInt32) &&& (3 : Int32))), .val (.int (((i6.toUInt32 >>> ((6 : Int32) &&& 31).toUInt32).toInt32) &&& (3 : Int32))), .val (.int (((i6.toUInt32 >>> ((8 : Int32) &&& 31).toUInt32).toInt32) &&& (3 : Int32))), .val (.int (own_rem (((i6.toUInt32 >>> ((10 : Int32) &&& 31).toUInt32).toInt32) &&& (15 : Int32)) (10 : Int32))), s13, s14, s15, s16, s17, s18, s19, s20, s21, s22, s23, s24, s25] [(.int i6)])) _
  refine XS.bipush X0.here hx rfl (hb hby at_55) ?_
  show Steps p.tables e below (T0.setTop (mkF m 57 #[s0, s1, s2, s3, s4, s5, .val (.int i6), .val (.int (i6 &&& (3 : Int32))), .val (.int (((i6.toUInt32 >>> ((2 : Int32) &&& 31).toUInt32).toInt32) &&& (3 : Int32))), .val (.int (((i6.toUInt32 >>> ((4 : Int32) &&& 31).toUInt32).toInt32) &&& (3 : Int32))), .val (.int (((i6.toUInt32 >>> ((6 : Int32) &&& 31).toUInt32).toInt32) &&& (3 : Int32))), .val (.int (((i6.toUInt32 >>> ((8 : Int32) &&& 31).toUInt32).toInt32) &&& (3 : Int32))), .val (.int (own_rem (((i6.toUInt32 >>> ((10 : Int32) &&& 31).toUInt32).toInt32) &&& (15 : Int32)) (10 : Int32))), s13, s14, s15, s16, s17, s18, s19, s20, s21, s22, s23, s24, s25] [(.int (14 : Int32)), (.int i6)])) _
  refine XS.iushr X0.here hx rfl (hb hby at_57) rfl ?_
  show Steps p.tables e below (T0.setTop (mkF m 58 #[s0, s1, s2, s3, s4, s5, .val (.int i6), .val (.int (i6 &&& (3 : Int32))), .val (.int (((i6.toUInt32 >>> ((2 : Int32) &&& 31).toUInt32).toInt32) &&& (3 : Int32))), .val (.int (((i6.toUInt32 >>> ((4 : Int32) &&& 31).toUInt32).toInt32) &&& (3 : Int32))), .val (.int (((i6.toUInt32 >>> ((6 : Int32) &&& 31).toUInt32).toInt32) &&& (3 : Int32))), .val (.int (((i6.toUInt32 >>> ((8 : Int32) &&& 31).toUInt32).toInt32) &&& (3 : Int32))), .val (.int (own_rem (((i6.toUInt32 >>> ((10 : Int32) &&& 31).toUInt32).toInt32) &&& (15 : Int32)) (10 : Int32))), s13, s14, s15, s16, s17, s18, s19, s20, s21, s22, s23, s24, s25] [(.int ((i6.toUInt32 >>> ((14 : Int32) &&& 31).toUInt32).toInt32))])) _
  refine XS.bipush X0.here hx rfl (hb hby at_58) ?_
  show Steps p.tables e below (T0.setTop (mkF m 60 #[s0, s1, s2, s3, s4, s5, .val (.int i6), .val (.int (i6 &&& (3 : Int32))), .val (.int (((i6.toUInt32 >>> ((2 : Int32) &&& 31).toUInt32).toInt32) &&& (3 : Int32))), .val (.int (((i6.toUInt32 >>> ((4 : Int32) &&& 31).toUInt32).toInt32) &&& (3 : Int32))), .val (.int (((i6.toUInt32 >>> ((6 : Int32) &&& 31).toUInt32).toInt32) &&& (3 : Int32))), .val (.int (((i6.toUInt32 >>> ((8 : Int32) &&& 31).toUInt32).toInt32) &&& (3 : Int32))), .val (.int (own_rem (((i6.toUInt32 >>> ((10 : Int32) &&& 31).toUInt32).toInt32) &&& (15 : Int32)) (10 : Int32))), s13, s14, s15, s16, s17, s18, s19, s20, s21, s22, s23, s24, s25] [(.int (15 : Int32)), (.int ((i6.toUInt32 >>> ((14 : Int32) &&& 31).toUInt32).toInt32))])) _
  refine XS.iand X0.here hx rfl (hb hby at_60) rfl ?_
  show Steps p.tables e below (T0.setTop (mkF m 61 #[s0, s1, s2, s3, s4, s5, .val (.int i6), .val (.int (i6 &&& (3 : Int32))), .val (.int (((i6.toUInt32 >>> ((2 : Int32) &&& 31).toUInt32).toInt32) &&& (3 : Int32))), .val (.int (((i6.toUInt32 >>> ((4 : Int32) &&& 31).toUInt32).toInt32) &&& (3 : Int32))), .val (.int (((i6.toUInt32 >>> ((6 : Int32) &&& 31).toUInt32).toInt32) &&& (3 : Int32))), .val (.int (((i6.toUInt32 >>> ((8 : Int32) &&& 31).toUInt32).toInt32) &&& (3 : Int32))), .val (.int (own_rem (((i6.toUInt32 >>> ((10 : Int32) &&& 31).toUInt32).toInt32) &&& (15 : Int32)) (10 : Int32))), s13, s14, s15, s16, s17, s18, s19, s20, s21, s22, s23, s24, s25] [(.int (((i6.toUInt32 >>> ((14 : Int32) &&& 31).toUInt32).toInt32) &&& (15 : Int32)))])) _
  refine XS.bipush X0.here hx rfl (hb hby at_61) ?_
  show Steps p.tables e below (T0.setTop (mkF m 63 #[s0, s1, s2, s3, s4, s5, .val (.int i6), .val (.int (i6 &&& (3 : Int32))), .val (.int (((i6.toUInt32 >>> ((2 : Int32) &&& 31).toUInt32).toInt32) &&& (3 : Int32))), .val (.int (((i6.toUInt32 >>> ((4 : Int32) &&& 31).toUInt32).toInt32) &&& (3 : Int32))), .val (.int (((i6.toUInt32 >>> ((6 : Int32) &&& 31).toUInt32).toInt32) &&& (3 : Int32))), .val (.int (((i6.toUInt32 >>> ((8 : Int32) &&& 31).toUInt32).toInt32) &&& (3 : Int32))), .val (.int (own_rem (((i6.toUInt32 >>> ((10 : Int32) &&& 31).toUInt32).toInt32) &&& (15 : Int32)) (10 : Int32))), s13, s14, s15, s16, s17, s18, s19, s20, s21, s22, s23, s24, s25] [(.int (10 : Int32)), (.int (((i6.toUInt32 >>> ((14 : Int32) &&& 31).toUInt32).toInt32) &&& (15 : Int32)))])) _
  refine iremM X0 hx rfl (hb hby at_63) rfl (by decide) ?_
  show Steps p.tables e below (T0.setTop (mkF m 64 #[s0, s1, s2, s3, s4, s5, .val (.int i6), .val (.int (i6 &&& (3 : Int32))), .val (.int (((i6.toUInt32 >>> ((2 : Int32) &&& 31).toUInt32).toInt32) &&& (3 : Int32))), .val (.int (((i6.toUInt32 >>> ((4 : Int32) &&& 31).toUInt32).toInt32) &&& (3 : Int32))), .val (.int (((i6.toUInt32 >>> ((6 : Int32) &&& 31).toUInt32).toInt32) &&& (3 : Int32))), .val (.int (((i6.toUInt32 >>> ((8 : Int32) &&& 31).toUInt32).toInt32) &&& (3 : Int32))), .val (.int (own_rem (((i6.toUInt32 >>> ((10 : Int32) &&& 31).toUInt32).toInt32) &&& (15 : Int32)) (10 : Int32))), s13, s14, s15, s16, s17, s18, s19, s20, s21, s22, s23, s24, s25] [(.int (own_rem (((i6.toUInt32 >>> ((14 : Int32) &&& 31).toUInt32).toInt32) &&& (15 : Int32)) (10 : Int32)))])) _
  refine XS.istore X0.here hx rfl (hb hby at_64) rfl (l' := #[s0, s1, s2, s3, s4, s5, .val (.int i6), .val (.int (i6 &&& (3 : Int32))), .val (.int (((i6.toUInt32 >>> ((2 : Int32) &&& 31).toUInt32).toInt32) &&& (3 : Int32))), .val (.int (((i6.toUInt32 >>> ((4 : Int32) &&& 31).toUInt32).toInt32) &&& (3 : Int32))), .val (.int (((i6.toUInt32 >>> ((6 : Int32) &&& 31).toUInt32).toInt32) &&& (3 : Int32))), .val (.int (((i6.toUInt32 >>> ((8 : Int32) &&& 31).toUInt32).toInt32) &&& (3 : Int32))), .val (.int (own_rem (((i6.toUInt32 >>> ((10 : Int32) &&& 31).toUInt32).toInt32) &&& (15 : Int32)) (10 : Int32))), .val (.int (own_rem (((i6.toUInt32 >>> ((14 : Int32) &&& 31).toUInt32).toInt32) &&& (15 : Int32)) (10 : Int32))), s14, s15, s16, s17, s18, s19, s20, s21, s22, s23, s24, s25]) (os0_64 hs13) ?_
  show Steps p.tables e below (T0.setTop (mkF m 66 #[s0, s1, s2, s3, s4, s5, .val (.int i6), .val (.int (i6 &&& (3 : Int32))), .val (.int (((i6.toUInt32 >>> ((2 : Int32) &&& 31).toUInt32).toInt32) &&& (3 : Int32))), .val (.int (((i6.toUInt32 >>> ((4 : Int32) &&& 31).toUInt32).toInt32) &&& (3 : Int32))), .val (.int (((i6.toUInt32 >>> ((6 : Int32) &&& 31).toUInt32).toInt32) &&& (3 : Int32))), .val (.int (((i6.toUInt32 >>> ((8 : Int32) &&& 31).toUInt32).toInt32) &&& (3 : Int32))), .val (.int (own_rem (((i6.toUInt32 >>> ((10 : Int32) &&& 31).toUInt32).toInt32) &&& (15 : Int32)) (10 : Int32))), .val (.int (own_rem (((i6.toUInt32 >>> ((14 : Int32) &&& 31).toUInt32).toInt32) &&& (15 : Int32)) (10 : Int32))), s14, s15, s16, s17, s18, s19, s20, s21, s22, s23, s24, s25] [])) _
  refine XS.iload X0.here hx rfl (hb hby at_66) rfl ?_
  show Steps p.tables e below (T0.setTop (mkF m 68 #[s0, s1, s2, s3, s4, s5, .val (.int i6), .val (.int (i6 &&& (3 : Int32))), .val (.int (((i6.toUInt32 >>> ((2 : Int32) &&& 31).toUInt32).toInt32) &&& (3 : Int32))), .val (.int (((i6.toUInt32 >>> ((4 : Int32) &&& 31).toUInt32).toInt32) &&& (3 : Int32))), .val (.int (((i6.toUInt32 >>> ((6 : Int32) &&& 31).toUInt32).toInt32) &&& (3 : Int32))), .val (.int (((i6.toUInt32 >>> ((8 : Int32) &&& 31).toUInt32).toInt32) &&& (3 : Int32))), .val (.int (own_rem (((i6.toUInt32 >>> ((10 : Int32) &&& 31).toUInt32).toInt32) &&& (15 : Int32)) (10 : Int32))), .val (.int (own_rem (((i6.toUInt32 >>> ((14 : Int32) &&& 31).toUInt32).toInt32) &&& (15 : Int32)) (10 : Int32))), s14, s15, s16, s17, s18, s19, s20, s21, s22, s23, s24, s25] [(.int (own_rem (((i6.toUInt32 >>> ((10 : Int32) &&& 31).toUInt32).toInt32) &&& (15 : Int32)) (10 : Int32)))])) _
  refine XS.iload X0.here hx rfl (hb hby at_68) rfl ?_
  show Steps p.tables e below (T0.setTop (mkF m 70 #[s0, s1, s2, s3, s4, s5, .val (.int i6), .val (.int (i6 &&& (3 : Int32))), .val (.int (((i6.toUInt32 >>> ((2 : Int32) &&& 31).toUInt32).toInt32) &&& (3 : Int32))), .val (.int (((i6.toUInt32 >>> ((4 : Int32) &&& 31).toUInt32).toInt32) &&& (3 : Int32))), .val (.int (((i6.toUInt32 >>> ((6 : Int32) &&& 31).toUInt32).toInt32) &&& (3 : Int32))), .val (.int (((i6.toUInt32 >>> ((8 : Int32) &&& 31).toUInt32).toInt32) &&& (3 : Int32))), .val (.int (own_rem (((i6.toUInt32 >>> ((10 : Int32) &&& 31).toUInt32).toInt32) &&& (15 : Int32)) (10 : Int32))), .val (.int (own_rem (((i6.toUInt32 >>> ((14 : Int32) &&& 31).toUInt32).toInt32) &&& (15 : Int32)) (10 : Int32))), s14, s15, s16, s17, s18, s19, s20, s21, s22, s23, s24, s25] [(.int (own_rem (((i6.toUInt32 >>> ((14 : Int32) &&& 31).toUInt32).toInt32) &&& (15 : Int32)) (10 : Int32))), (.int (own_rem (((i6.toUInt32 >>> ((10 : Int32) &&& 31).toUInt32).toInt32) &&& (15 : Int32)) (10 : Int32)))])) _
  refine XS.iadd X0.here hx rfl (hb hby at_70) rfl ?_
  show Steps p.tables e below (T0.setTop (mkF m 71 #[s0, s1, s2, s3, s4, s5, .val (.int i6), .val (.int (i6 &&& (3 : Int32))), .val (.int (((i6.toUInt32 >>> ((2 : Int32) &&& 31).toUInt32).toInt32) &&& (3 : Int32))), .val (.int (((i6.toUInt32 >>> ((4 : Int32) &&& 31).toUInt32).toInt32) &&& (3 : Int32))), .val (.int (((i6.toUInt32 >>> ((6 : Int32) &&& 31).toUInt32).toInt32) &&& (3 : Int32))), .val (.int (((i6.toUInt32 >>> ((8 : Int32) &&& 31).toUInt32).toInt32) &&& (3 : Int32))), .val (.int (own_rem (((i6.toUInt32 >>> ((10 : Int32) &&& 31).toUInt32).toInt32) &&& (15 : Int32)) (10 : Int32))), .val (.int (own_rem (((i6.toUInt32 >>> ((14 : Int32) &&& 31).toUInt32).toInt32) &&& (15 : Int32)) (10 : Int32))), s14, s15, s16, s17, s18, s19, s20, s21, s22, s23, s24, s25] [(.int ((own_rem (((i6.toUInt32 >>> ((10 : Int32) &&& 31).toUInt32).toInt32) &&& (15 : Int32)) (10 : Int32)) + (own_rem (((i6.toUInt32 >>> ((14 : Int32) &&& 31).toUInt32).toInt32) &&& (15 : Int32)) (10 : Int32))))])) _
  refine XS.bipush X0.here hx rfl (hb hby at_71) ?_
  show Steps p.tables e below (T0.setTop (mkF m 73 #[s0, s1, s2, s3, s4, s5, .val (.int i6), .val (.int (i6 &&& (3 : Int32))), .val (.int (((i6.toUInt32 >>> ((2 : Int32) &&& 31).toUInt32).toInt32) &&& (3 : Int32))), .val (.int (((i6.toUInt32 >>> ((4 : Int32) &&& 31).toUInt32).toInt32) &&& (3 : Int32))), .val (.int (((i6.toUInt32 >>> ((6 : Int32) &&& 31).toUInt32).toInt32) &&& (3 : Int32))), .val (.int (((i6.toUInt32 >>> ((8 : Int32) &&& 31).toUInt32).toInt32) &&& (3 : Int32))), .val (.int (own_rem (((i6.toUInt32 >>> ((10 : Int32) &&& 31).toUInt32).toInt32) &&& (15 : Int32)) (10 : Int32))), .val (.int (own_rem (((i6.toUInt32 >>> ((14 : Int32) &&& 31).toUInt32).toInt32) &&& (15 : Int32)) (10 : Int32))), s14, s15, s16, s17, s18, s19, s20, s21, s22, s23, s24, s25] [(.int (10 : Int32)), (.int ((own_rem (((i6.toUInt32 >>> ((10 : Int32) &&& 31).toUInt32).toInt32) &&& (15 : Int32)) (10 : Int32)) + (own_rem (((i6.toUInt32 >>> ((14 : Int32) &&& 31).toUInt32).toInt32) &&& (15 : Int32)) (10 : Int32))))])) _
  refine iremM X0 hx rfl (hb hby at_73) rfl (by decide) ?_
  show Steps p.tables e below (T0.setTop (mkF m 74 #[s0, s1, s2, s3, s4, s5, .val (.int i6), .val (.int (i6 &&& (3 : Int32))), .val (.int (((i6.toUInt32 >>> ((2 : Int32) &&& 31).toUInt32).toInt32) &&& (3 : Int32))), .val (.int (((i6.toUInt32 >>> ((4 : Int32) &&& 31).toUInt32).toInt32) &&& (3 : Int32))), .val (.int (((i6.toUInt32 >>> ((6 : Int32) &&& 31).toUInt32).toInt32) &&& (3 : Int32))), .val (.int (((i6.toUInt32 >>> ((8 : Int32) &&& 31).toUInt32).toInt32) &&& (3 : Int32))), .val (.int (own_rem (((i6.toUInt32 >>> ((10 : Int32) &&& 31).toUInt32).toInt32) &&& (15 : Int32)) (10 : Int32))), .val (.int (own_rem (((i6.toUInt32 >>> ((14 : Int32) &&& 31).toUInt32).toInt32) &&& (15 : Int32)) (10 : Int32))), s14, s15, s16, s17, s18, s19, s20, s21, s22, s23, s24, s25] [(.int (own_rem ((own_rem (((i6.toUInt32 >>> ((10 : Int32) &&& 31).toUInt32).toInt32) &&& (15 : Int32)) (10 : Int32)) + (own_rem (((i6.toUInt32 >>> ((14 : Int32) &&& 31).toUInt32).toInt32) &&& (15 : Int32)) (10 : Int32))) (10 : Int32)))])) _
  refine XS.istore X0.here hx rfl (hb hby at_74) rfl (l' := #[s0, s1, s2, s3, s4, s5, .val (.int i6), .val (.int (i6 &&& (3 : Int32))), .val (.int (((i6.toUInt32 >>> ((2 : Int32) &&& 31).toUInt32).toInt32) &&& (3 : Int32))), .val (.int (((i6.toUInt32 >>> ((4 : Int32) &&& 31).toUInt32).toInt32) &&& (3 : Int32))), .val (.int (((i6.toUInt32 >>> ((6 : Int32) &&& 31).toUInt32).toInt32) &&& (3 : Int32))), .val (.int (((i6.toUInt32 >>> ((8 : Int32) &&& 31).toUInt32).toInt32) &&& (3 : Int32))), .val (.int (own_rem (((i6.toUInt32 >>> ((10 : Int32) &&& 31).toUInt32).toInt32) &&& (15 : Int32)) (10 : Int32))), .val (.int (own_rem (((i6.toUInt32 >>> ((14 : Int32) &&& 31).toUInt32).toInt32) &&& (15 : Int32)) (10 : Int32))), .val (.int (own_rem ((own_rem (((i6.toUInt32 >>> ((10 : Int32) &&& 31).toUInt32).toInt32) &&& (15 : Int32)) (10 : Int32)) + (own_rem (((i6.toUInt32 >>> ((14 : Int32) &&& 31).toUInt32).toInt32) &&& (15 : Int32)) (10 : Int32))) (10 : Int32))), s15, s16, s17, s18, s19, s20, s21, s22, s23, s24, s25]) (os0_74 hs14) ?_
  exact kt
theorem pd_0_0 : parseMethodDescriptor "(I)Lcom/example/cablegram/cablegram/engine/ElementType;" = some ⟨[.int], some (.object "com/example/cablegram/cablegram/engine/ElementType")⟩ := by decide +kernel
theorem pd_0_1 : parseMethodDescriptor "(IJILcom/example/cablegram/cablegram/engine/ElementType;II)V" = some ⟨[.int, .long, .int, (.object "com/example/cablegram/cablegram/engine/ElementType"), .int, .int], none⟩ := by decide +kernel
theorem pd_0_3 : parseMethodDescriptor "(I)I" = some ⟨[.int], some .int⟩ := by decide +kernel
theorem pd_0_4 : parseMethodDescriptor "(I)J" = some ⟨[.int], some .long⟩ := by decide +kernel
theorem os0_81 {z0 : Value} {z1 : Value} {z3 : Value} {z4 : Value} {z5 : Value} {s6 : Slot} {z7 : Value} {z8 : Value} {z9 : Value} {z10 : Value} {z11 : Value} {z12 : Value} {s13 : Slot} {z14 : Value} {s15 : Slot} {s16 : Slot} {s17 : Slot} {s18 : Slot} {s19 : Slot} {s20 : Slot} {s21 : Slot} {s22 : Slot} {s23 : Slot} {s24 : Slot} {s25 : Slot} {v : Addr} (h : One s15) : storeLocals #[.val z0, .val z1, .second, .val z3, .val z4, .val z5, s6, .val z7, .val z8, .val z9, .val z10, .val z11, .val z12, s13, .val z14, s15, s16, s17, s18, s19, s20, s21, s22, s23, s24, s25] 15 (.ref v) = some #[.val z0, .val z1, .second, .val z3, .val z4, .val z5, s6, .val z7, .val z8, .val z9, .val z10, .val z11, .val z12, s13, .val z14, .val (.ref v), s16, s17, s18, s19, s20, s21, s22, s23, s24, s25] := by
  rcases h with rfl | ⟨w, rfl, hw⟩
  · rfl
  · cases w <;> first | rfl | (simp [Value.category] at hw)
theorem os0_88 {z0 : Value} {z1 : Value} {z3 : Value} {z4 : Value} {z5 : Value} {s6 : Slot} {z7 : Value} {z8 : Value} {z9 : Value} {z10 : Value} {z11 : Value} {z12 : Value} {s13 : Slot} {z14 : Value} {z15 : Value} {s16 : Slot} {s17 : Slot} {s18 : Slot} {s19 : Slot} {s20 : Slot} {s21 : Slot} {s22 : Slot} {s23 : Slot} {s24 : Slot} {s25 : Slot} {v : Addr} (h : One s16) : storeLocals #[.val z0, .val z1, .second, .val z3, .val z4, .val z5, s6, .val z7, .val z8, .val z9, .val z10, .val z11, .val z12, s13, .val z14, .val z15, s16, s17, s18, s19, s20, s21, s22, s23, s24, s25] 16 (.ref v) = some #[.val z0, .val z1, .second, .val z3, .val z4, .val z5, s6, .val z7, .val z8, .val z9, .val z10, .val z11, .val z12, s13, .val z14, .val z15, .val (.ref v), s17, s18, s19, s20, s21, s22, s23, s24, s25] := by
  rcases h with rfl | ⟨w, rfl, hw⟩
  · rfl
  · cases w <;> first | rfl | (simp [Value.category] at hw)
theorem os0_106 {z0 : Value} {z1 : Value} {z3 : Value} {z4 : Value} {z5 : Value} {s6 : Slot} {z7 : Value} {z8 : Value} {z9 : Value} {z10 : Value} {z11 : Value} {z12 : Value} {s13 : Slot} {z14 : Value} {z15 : Value} {z16 : Value} {s17 : Slot} {s18 : Slot} {s19 : Slot} {s20 : Slot} {s21 : Slot} {s22 : Slot} {s23 : Slot} {s24 : Slot} {s25 : Slot} {v : Addr} (h : One s17) : storeLocals #[.val z0, .val z1, .second, .val z3, .val z4, .val z5, s6, .val z7, .val z8, .val z9, .val z10, .val z11, .val z12, s13, .val z14, .val z15, .val z16, s17, s18, s19, s20, s21, s22, s23, s24, s25] 17 (.ref v) = some #[.val z0, .val z1, .second, .val z3, .val z4, .val z5, s6, .val z7, .val z8, .val z9, .val z10, .val z11, .val z12, s13, .val z14, .val z15, .val z16, .val (.ref v), s18, s19, s20, s21, s22, s23, s24, s25] := by
  rcases h with rfl | ⟨w, rfl, hw⟩
  · rfl
  · cases w <;> first | rfl | (simp [Value.category] at hw)
theorem os0_115 {z0 : Value} {z1 : Value} {z3 : Value} {z4 : Value} {z5 : Value} {s6 : Slot} {z7 : Value} {z8 : Value} {z9 : Value} {z10 : Value} {z11 : Value} {z12 : Value} {s13 : Slot} {z14 : Value} {z15 : Value} {z16 : Value} {z17 : Value} {s18 : Slot} {s19 : Slot} {s20 : Slot} {s21 : Slot} {s22 : Slot} {s23 : Slot} {s24 : Slot} {s25 : Slot} {v : Int32} (h : One s18) : storeLocals #[.val z0, .val z1, .second, .val z3, .val z4, .val z5, s6, .val z7, .val z8, .val z9, .val z10, .val z11, .val z12, s13, .val z14, .val z15, .val z16, .val z17, s18, s19, s20, s21, s22, s23, s24, s25] 18 (.int v) = some #[.val z0, .val z1, .second, .val z3, .val z4, .val z5, s6, .val z7, .val z8, .val z9, .val z10, .val z11, .val z12, s13, .val z14, .val z15, .val z16, .val z17, .val (.int v), s19, s20, s21, s22, s23, s24, s25] := by
  rcases h with rfl | ⟨w, rfl, hw⟩
  · rfl
  · cases w <;> first | rfl | (simp [Value.category] at hw)
theorem os0_133 {z0 : Value} {z1 : Value} {z3 : Value} {z4 : Value} {z5 : Value} {s6 : Slot} {z7 : Value} {z8 : Value} {z9 : Value} {z10 : Value} {z11 : Value} {z12 : Value} {s13 : Slot} {z14 : Value} {z15 : Value} {z16 : Value} {z17 : Value} {z18 : Value} {z19 : Value} {s21 : Slot} {s22 : Slot} {s23 : Slot} {s24 : Slot} {s25 : Slot} {v : Int32} (h : One s21) : storeLocals #[.val z0, .val z1, .second, .val z3, .val z4, .val z5, s6, .val z7, .val z8, .val z9, .val z10, .val z11, .val z12, s13, .val z14, .val z15, .val z16, .val z17, .val z18, .val z19, .second, s21, s22, s23, s24, s25] 21 (.int v) = some #[.val z0, .val z1, .second, .val z3, .val z4, .val z5, s6, .val z7, .val z8, .val z9, .val z10, .val z11, .val z12, s13, .val z14, .val z15, .val z16, .val z17, .val z18, .val z19, .second, .val (.int v), s22, s23, s24, s25] := by
  rcases h with rfl | ⟨w, rfl, hw⟩
  · rfl
  · cases w <;> first | rfl | (simp [Value.category] at hw)
theorem os0_143 {z0 : Value} {z1 : Value} {z3 : Value} {z4 : Value} {z5 : Value} {s6 : Slot} {z7 : Value} {z8 : Value} {z9 : Value} {z10 : Value} {z11 : Value} {z12 : Value} {s13 : Slot} {z14 : Value} {z15 : Value} {z16 : Value} {z17 : Value} {z18 : Value} {z19 : Value} {z21 : Value} {s22 : Slot} {s23 : Slot} {s24 : Slot} {s25 : Slot} {v : Int32} (h : One s22) : storeLocals #[.val z0, .val z1, .second, .val z3, .val z4, .val z5, s6, .val z7, .val z8, .val z9, .val z10, .val z11, .val z12, s13, .val z14, .val z15, .val z16, .val z17, .val z18, .val z19, .second, .val z21, s22, s23, s24, s25] 22 (.int v) = some #[.val z0, .val z1, .second, .val z3, .val z4, .val z5, s6, .val z7, .val z8, .val z9, .val z10, .val z11, .val z12, s13, .val z14, .val z15, .val z16, .val z17, .val z18, .val z19, .second, .val z21, .val (.int v), s23, s24, s25] := by
  rcases h with rfl | ⟨w, rfl, hw⟩
  · rfl
  · cases w <;> first | rfl | (simp [Value.category] at hw)
theorem os0_153 {z0 : Value} {z1 : Value} {z3 : Value} {z4 : Value} {z5 : Value} {s6 : Slot} {z7 : Value} {z8 : Value} {z9 : Value} {z10 : Value} {z11 : Value} {z12 : Value} {s13 : Slot} {z14 : Value} {z15 : Value} {z16 : Value} {z17 : Value} {z18 : Value} {z19 : Value} {z21 : Value} {z22 : Value} {s23 : Slot} {s24 : Slot} {s25 : Slot} {v : Int32} (h : One s23) : storeLocals #[.val z0, .val z1, .second, .val z3, .val z4, .val z5, s6, .val z7, .val z8, .val z9, .val z10, .val z11, .val z12, s13, .val z14, .val z15, .val z16, .val z17, .val z18, .val z19, .second, .val z21, .val z22, s23, s24, s25] 23 (.int v) = some #[.val z0, .val z1, .second, .val z3, .val z4, .val z5, s6, .val z7, .val z8, .val z9, .val z10, .val z11, .val z12, s13, .val z14, .val z15, .val z16, .val z17, .val z18, .val z19, .second, .val z21, .val z22, .val (.int v), s24, s25] := by
  rcases h with rfl | ⟨w, rfl, hw⟩
  · rfl
  · cases w <;> first | rfl | (simp [Value.category] at hw)
set_option maxRecDepth 65536 in
set_option maxHeartbeats 40000000 in
theorem tn0_76_155_x {p : Program} {l : Launch} {e : Env} {s : State} {m : MethodId} {args : Array Value} {below : List Frame} {meth : Method} {c : Code} {T0 : State} {locs : List Loc} {Z : State} {a0 : Array Value} {h0 : Heap} {n0 : Nat} (i0 : Int32) (j1 : Int64) (i3 : Int32) (i4 : Int32) (i5 : Int32) (s6 : Slot) (i7 : Int32) (i8 : Int32) (i9 : Int32) (i10 : Int32) (i11 : Int32) (i12 : Int32) (s13 : Slot) (i14 : Int32) (s15 : Slot) (s16 : Slot) (s17 : Slot) (s18 : Slot) (s21 : Slot) (s22 : Slot) (s23 : Slot) (s24 : Slot) (s25 : Slot)
    (X0 : Stand p l e room_1 s m args below meth c T0 locs 0 0) (hx : p.tables.exec = Jvm.exec) (hZ : Z.Warmed39 s.vm) (hw : ∀ d ∈ tables_1, d.before a0 Z = true) (hby : c.code = code) (hml : c.maxLocals = 26) (hown : s.vm.findClass "com/example/cablegram/cablegram/engine/EnvelopeIsPinLaw" = some m.cls) (e0 : T0.heap = h0) (Z0 : n0 ≤ h0.size) (N0 : Fr n0 locs) (ka : Addr) (kb : Addr) (MA : MetFree l (⟨"com/example/cablegram/cablegram/engine/EnvelopeIsPinLaw", "typeOf", "(I)Lcom/example/cablegram/cablegram/engine/ElementType;"⟩ : MethodName) (head1 (Jvm.Cond.code (⟨"com/example/cablegram/cablegram/engine/EnvelopeIsPinLaw", "typeOf", "(I)Lcom/example/cablegram/cablegram/engine/ElementType;"⟩ : MethodName) method_4_code 1 (some (.object "com/example/cablegram/cablegram/engine/ElementType")) :: []) ({ frames := 0, cells := 0, slots := 0, locals := 0 } : Room)) (fun a U => a = #[(.int i12)] ∧ Z.Warmed39 U.vm ∧ U.heap = h0) (fun _ _ _ _ _ => True) (fun _ U o U' => ∃ v L, o = .returned v ∧ Qv (some (.ref ka)) h0 n0 v U'.heap L ∧ FrameEnd U o U' L ({ frames := 0, cells := 0, slots := 0, locals := 0 } : Room).cells ({ frames := 0, cells := 0, slots := 0, locals := 0 } : Room).slots)) (MB : MetFree l (⟨"com/example/cablegram/cablegram/engine/EnvelopeIsPinLaw", "typeOf", "(I)Lcom/example/cablegram/cablegram/engine/ElementType;"⟩ : MethodName) (head1 (Jvm.Cond.code (⟨"com/example/cablegram/cablegram/engine/EnvelopeIsPinLaw", "typeOf", "(I)Lcom/example/cablegram/cablegram/engine/ElementType;"⟩ : MethodName) method_4_code 1 (some (.object "com/example/cablegram/cablegram/engine/ElementType")) :: []) ({ frames := 0, cells := 0, slots := 0, locals := 0 } : Room)) (fun a U => a = #[(.int i14)] ∧ Z.Warmed39 U.vm ∧ U.heap = h0) (fun _ _ _ _ _ => True) (fun _ U o U' => ∃ v L, o = .returned v ∧ Qv (some (.ref kb)) h0 n0 v U'.heap L ∧ FrameEnd U o U' L ({ frames := 0, cells := 0, slots := 0, locals := 0 } : Room).cells ({ frames := 0, cells := 0, slots := 0, locals := 0 } : Room).slots)) (hs15 : One s15) (hs16 : One s16) (hs17 : One s17) (hs18 : One s18) (hs21 : One s21) (hs22 : One s22) (hs23 : One s23) :
    ∃ (T' : State) (L' : List Loc) (b9 : Addr), Stand p l e room_1 s m args below meth c T' L' 1 6 ∧ Fr n0 L' ∧ n0 ≤ T'.heap.size ∧ Exa Z T'.heap b9 "com/example/cablegram/cablegram/engine/Envelope" ∧ Fld Z T'.heap b9 "com/example/cablegram/cablegram/engine/Envelope" "source" "I" (.int i0) ∧ Fld Z T'.heap b9 "com/example/cablegram/cablegram/engine/Envelope" "context" "J" (.long j1) ∧ Fld Z T'.heap b9 "com/example/cablegram/cablegram/engine/Envelope" "tag" "I" (.int i3) ∧ Fld Z T'.heap b9 "com/example/cablegram/cablegram/engine/Envelope" "type" "Lcom/example/cablegram/cablegram/engine/ElementType;" (.ref ka) ∧ Fld Z T'.heap b9 "com/example/cablegram/cablegram/engine/Envelope" "count" "I" (.int i4) ∧ Fld Z T'.heap b9 "com/example/cablegram/cablegram/engine/Envelope" "entries" "I" (.int i5) ∧
      ∀ target, Steps p.tables e below (T'.setTop (mkF m 155 #[.val (.int i0), .val (.long j1), .second, .val (.int i3), .val (.int i4), .val (.int i5), s6, .val (.int i7), .val (.int i8), .val (.int i9), .val (.int i10), .val (.int i11), .val (.int i12), s13, .val (.int i14), .val (.ref ka), .val (.ref kb), .val (.ref b9), .val (.int (i0 + (own_delta i7))), .val (.long (j1 + (own_deltaL i8))), .second, .val (.int (i3 + (own_delta i9))), .val (.int (i4 + (own_delta i10))), .val (.int (i5 + (own_delta i11))), s24, s25] [])) target → Steps p.tables e below (T0.setTop (mkF m 76 #[.val (.int i0), .val (.long j1), .second, .val (.int i3), .val (.int i4), .val (.int i5), s6, .val (.int i7), .val (.int i8), .val (.int i9), .val (.int i10), .val (.int i11), .val (.int i12), s13, .val (.int i14), s15, s16, s17, s18, .unset, .unset, s21, s22, s23, s24, s25] [])) target := by
  -- 3. LAWS
  -- pc 78: com/example/cablegram/cablegram/engine/EnvelopeIsPinLaw.typeOf by its contract rm1
  obtain ⟨_, _, ⟨T7, L7, k7, n7⟩, -, X7, ⟨Lc7, hQ7, l7, y7, z7⟩, st7⟩ := Jvm.LawKit.callS X0 hx (y := (⟨"com/example/cablegram/cablegram/engine/EnvelopeIsPinLaw", "typeOf", "(I)Lcom/example/cablegram/cablegram/engine/ElementType;"⟩ : MethodName)) hown (mvT hZ (hw _ (List.mem_of_getElem? (i := 0) rfl))) (mvT hZ (hw _ (List.mem_of_getElem? (i := 1) rfl))) (mvT hZ (hw _ (List.mem_of_getElem? (i := 2) rfl))) (mvT hZ (hw _ (List.mem_of_getElem? (i := 3) rfl))) (by decide) (backOf (W := 0) MA hZ (hw _ (List.mem_of_getElem? (i := 3) rfl)) (hw _ (List.mem_of_getElem? (i := 2) rfl)) (by decide) (by decide)) (g := (mkF m 78 #[.val (.int i0), .val (.long j1), .second, .val (.int i3), .val (.int i4), .val (.int i5), s6, .val (.int i7), .val (.int i8), .val (.int i9), .val (.int i10), .val (.int i11), .val (.int i12), s13, .val (.int i14), s15, s16, s17, s18, .unset, .unset, s21, s22, s23, s24, s25] [(.int i12)])) rfl (by rw [hml]; rfl) (argsL := [(.int i12)]) (rest := []) (lenOf pd_0_0 rfl) rfl (by show 2 * 0 + _ ≤ _; exact Nat.le_of_eq rfl) (hb hby at_78) (fun _ _ => ⟨rfl, e0, (by decide : 0 + 0 ≤ _), (by decide : 0 + 0 ≤ _)⟩)
  dsimp only [Pt.U, Pt.locs, Pt.cells, Pt.slots] at X7 l7 y7 z7 st7 hQ7
  subst l7 y7 z7
  obtain ⟨rfl, N7q, e7⟩ := hQ7
  have N7 := Fr.app N0 N7q
  have Kc7 : Keep h0 T7.heap [] := own_kp e7
  -- pc 85: com/example/cablegram/cablegram/engine/EnvelopeIsPinLaw.typeOf by its contract rm1
  obtain ⟨_, _, ⟨T8, L8, k8, n8⟩, -, X8, ⟨Lc8, hQ8, l8, y8, z8⟩, st8⟩ := Jvm.LawKit.callS X7 hx (y := (⟨"com/example/cablegram/cablegram/engine/EnvelopeIsPinLaw", "typeOf", "(I)Lcom/example/cablegram/cablegram/engine/ElementType;"⟩ : MethodName)) hown (mvT hZ (hw _ (List.mem_of_getElem? (i := 0) rfl))) (mvT hZ (hw _ (List.mem_of_getElem? (i := 1) rfl))) (mvT hZ (hw _ (List.mem_of_getElem? (i := 2) rfl))) (mvT hZ (hw _ (List.mem_of_getElem? (i := 3) rfl))) (by decide) (backOf (W := 0) (e7.symm ▸ MB) hZ (hw _ (List.mem_of_getElem? (i := 3) rfl)) (hw _ (List.mem_of_getElem? (i := 2) rfl)) (by decide) (by decide)) (g := (mkF m 85 #[.val (.int i0), .val (.long j1), .second, .val (.int i3), .val (.int i4), .val (.int i5), s6, .val (.int i7), .val (.int i8), .val (.int i9), .val (.int i10), .val (.int i11), .val (.int i12), s13, .val (.int i14), .val (.ref ka), s16, s17, s18, .unset, .unset, s21, s22, s23, s24, s25] [(.int i14)])) rfl (by rw [hml]; rfl) (argsL := [(.int i14)]) (rest := []) (lenOf pd_0_0 rfl) rfl (by show 2 * 0 + _ ≤ _; exact Nat.le_of_eq rfl) (hb hby at_85) (fun _ _ => ⟨rfl, rfl, (by decide : 0 + 0 ≤ _), (by decide : 0 + 0 ≤ _)⟩)
  dsimp only [Pt.U, Pt.locs, Pt.cells, Pt.slots] at X8 l8 y8 z8 st8 hQ8
  subst l8 y8 z8
  obtain ⟨rfl, N8q, e8⟩ := hQ8
  have N8 := Fr.app N7 N8q
  have Kc8 : Keep T7.heap T8.heap [] := own_kp e8
  have Kh8 : Keep h0 T8.heap [] := Kc7.trans Kc8 all0
  obtain ⟨T9, h9, X9, e9, E9, A9, D9, -, st9⟩ := newO X8 hx hZ hown (hw _ (List.mem_of_getElem? (i := 7) rfl)) (hw _ (List.mem_of_getElem? (i := 8) rfl)) (hw _ (List.mem_of_getElem? (i := 9) rfl)) rfl (g := (mkF m 90 #[.val (.int i0), .val (.long j1), .second, .val (.int i3), .val (.int i4), .val (.int i5), s6, .val (.int i7), .val (.int i8), .val (.int i9), .val (.int i10), .val (.int i11), .val (.int i12), s13, .val (.int i14), .val (.ref ka), .val (.ref kb), s17, s18, .unset, .unset, s21, s22, s23, s24, s25] [])) rfl (hb hby at_90) (by decide) (by decide)
  obtain ⟨b9, g9⟩ : ∃ z, z = T8.heap.size := ⟨_, rfl⟩      -- the fresh object's address
  rw [← g9] at A9 D9 st9      -- A9 : Exa Z h9 b9 "com/example/cablegram/cablegram/engine/Envelope"; E9 : Ext T8.heap h9 (carries every older fact: .ext E9)
  have F_source_b9 : Fld Z h9 b9 "com/example/cablegram/cablegram/engine/Envelope" "source" "I" (.int (0 : Int32)) := D9 (Or.inr (hw _ (List.mem_of_getElem? (i := 22) rfl))) (ty := .int) (by decide)
  have F_context_b9 : Fld Z h9 b9 "com/example/cablegram/cablegram/engine/Envelope" "context" "J" (.long (0 : Int64)) := D9 (Or.inr (hw _ (List.mem_of_getElem? (i := 24) rfl))) (ty := .long) (by decide)
  have F_tag_b9 : Fld Z h9 b9 "com/example/cablegram/cablegram/engine/Envelope" "tag" "I" (.int (0 : Int32)) := D9 (Or.inr (hw _ (List.mem_of_getElem? (i := 26) rfl))) (ty := .int) (by decide)
  have F_type_b9 : Fld Z h9 b9 "com/example/cablegram/cablegram/engine/Envelope" "type" "Lcom/example/cablegram/cablegram/engine/ElementType;" .null := D9 (Or.inr (hw _ (List.mem_of_getElem? (i := 28) rfl))) (ty := (.object "com/example/cablegram/cablegram/engine/ElementType")) (by decide)
  have F_count_b9 : Fld Z h9 b9 "com/example/cablegram/cablegram/engine/Envelope" "count" "I" (.int (0 : Int32)) := D9 (Or.inr (hw _ (List.mem_of_getElem? (i := 30) rfl))) (ty := .int) (by decide)
  have F_entries_b9 : Fld Z h9 b9 "com/example/cablegram/cablegram/engine/Envelope" "entries" "I" (.int (0 : Int32)) := D9 (Or.inr (hw _ (List.mem_of_getElem? (i := 32) rfl))) (ty := .int) (by decide)
  have E_b9 := A9
  have g_b9 : n0 ≤ b9 := Nat.le_trans (Nat.le_trans (Nat.le_trans Z0 Kc7.1) Kc8.1) (Nat.le_of_eq g9.symm)
  have sz_b9 : h0.size ≤ b9 := (Nat.le_trans Kh8.1 (Nat.le_of_eq g9.symm))
  have K9 : Keep h0 h9 [] := Kh8.ext E9
  -- pc 103: the constructor of com/example/cablegram/cablegram/engine/Envelope by its contract rm2
  obtain ⟨_, _, ⟨T10, L10, k10, n10⟩, -, X10, ⟨Lc10, hQ10, l10, y10, z10⟩, st10⟩ := X9.specialBack hx (y := (⟨"com/example/cablegram/cablegram/engine/Envelope", "<init>", "(IJILcom/example/cablegram/cablegram/engine/ElementType;II)V"⟩ : MethodName)) rfl hown (mvT hZ (hw _ (List.mem_of_getElem? (i := 10) rfl))) (mvT hZ (hw _ (List.mem_of_getElem? (i := 11) rfl))) (mvT hZ (hw _ (List.mem_of_getElem? (i := 12) rfl))) (by decide) (backOf (W := 1) (rm2 l Z a0 hw [] b9 i0 j1 i3 ka i4 i5 (.int (0 : Int32)) (.long (0 : Int64)) (.int (0 : Int32)) .null (.int (0 : Int32)) (.int (0 : Int32)) h9 n0 (Nat.le_trans Z0 K9.1) E_b9 F_source_b9 g_b9 F_context_b9 F_tag_b9 F_type_b9 F_count_b9 F_entries_b9) hZ (hw _ (List.mem_of_getElem? (i := 12) rfl)) (hw _ (List.mem_of_getElem? (i := 9) rfl)) (by decide) (by decide)) (g := (mkF m 103 #[.val (.int i0), .val (.long j1), .second, .val (.int i3), .val (.int i4), .val (.int i5), s6, .val (.int i7), .val (.int i8), .val (.int i9), .val (.int i10), .val (.int i11), .val (.int i12), s13, .val (.int i14), .val (.ref ka), .val (.ref kb), s17, s18, .unset, .unset, s21, s22, s23, s24, s25] [(.int i5), (.int i4), (.ref ka), (.int i3), (.long j1), (.int i0), (.ref b9), (.ref b9)])) rfl (by rw [hml]; rfl) (Steps.refl _) (a := b9) (argsL := [(.int i0), (.long j1), (.int i3), (.ref ka), (.int i4), (.int i5)]) (rest := [(.ref b9)]) (lenOf pd_0_1 rfl) rfl (by show 2 * 0 + _ ≤ _; exact Nat.le_of_eq rfl) (hb hby at_103) (fun _ _ => ⟨rfl, e9, (by decide : 1 + 0 ≤ _), (by decide : 6 + 0 ≤ _)⟩)
  dsimp only [Pt.U, Pt.locs, Pt.cells, Pt.slots] at X10 l10 y10 z10 st10 hQ10
  subst l10 y10 z10
  obtain ⟨rfl, N10q, Kc10, EE_10, G1_10, G2_10, G3_10, G4_10, G5_10, G6_10⟩ := hQ10
  have N10 := Fr.app N8 N10q
  have Kh10 : Keep h0 T10.heap [] := K9.trans Kc10 (allS (Or.inr sz_b9) all0)
  -- pc 111: com/example/cablegram/cablegram/engine/EnvelopeIsPinLaw.delta by its contract rm5
  obtain ⟨_, _, ⟨T11, L11, k11, n11⟩, -, X11, ⟨Lc11, hQ11, l11, y11, z11⟩, st11⟩ := Jvm.LawKit.callS X10 hx (y := (⟨"com/example/cablegram/cablegram/engine/EnvelopeIsPinLaw", "delta", "(I)I"⟩ : MethodName)) hown (mvT hZ (hw _ (List.mem_of_getElem? (i := 33) rfl))) (mvT hZ (hw _ (List.mem_of_getElem? (i := 34) rfl))) (mvT hZ (hw _ (List.mem_of_getElem? (i := 2) rfl))) (mvT hZ (hw _ (List.mem_of_getElem? (i := 35) rfl))) (by decide) (backOf (W := 1) (rm5 l Z a0 hw [] i7 T10.heap n0 (Nat.le_trans Z0 Kh10.1)) hZ (hw _ (List.mem_of_getElem? (i := 35) rfl)) (hw _ (List.mem_of_getElem? (i := 2) rfl)) (by decide) (by decide)) (g := (mkF m 111 #[.val (.int i0), .val (.long j1), .second, .val (.int i3), .val (.int i4), .val (.int i5), s6, .val (.int i7), .val (.int i8), .val (.int i9), .val (.int i10), .val (.int i11), .val (.int i12), s13, .val (.int i14), .val (.ref ka), .val (.ref kb), .val (.ref b9), s18, .unset, .unset, s21, s22, s23, s24, s25] [(.int i7), (.int i0)])) rfl (by rw [hml]; rfl) (argsL := [(.int i7)]) (rest := [(.int i0)]) (lenOf pd_0_3 rfl) rfl (by show 2 * 0 + _ ≤ _; exact Nat.le_of_eq rfl) (hb hby at_111) (fun _ _ => ⟨rfl, rfl, (by decide : 1 + 0 ≤ _), (by decide : 6 + 0 ≤ _)⟩)
  dsimp only [Pt.U, Pt.locs, Pt.cells, Pt.slots] at X11 l11 y11 z11 st11 hQ11
  subst l11 y11 z11
  obtain ⟨rfl, N11q, e11⟩ := hQ11
  have N11 := Fr.app N10 N11q
  have Kc11 : Keep T10.heap T11.heap [] := own_kp e11
  have Kh11 : Keep h0 T11.heap [] := Kh10.trans Kc11 all0
  have EE_11 := EE_10.keep Kc11
  have G1_11 := G1_10.keep Kc11 nin0
  have G2_11 := G2_10.keep Kc11 nin0
  have G3_11 := G3_10.keep Kc11 nin0
  have G4_11 := G4_10.keep Kc11 nin0
  have G5_11 := G5_10.keep Kc11 nin0
  have G6_11 := G6_10.keep Kc11 nin0
  -- pc 120: com/example/cablegram/cablegram/engine/EnvelopeIsPinLaw.deltaLong by its contract rm6
  obtain ⟨_, _, ⟨T12, L12, k12, n12⟩, -, X12, ⟨Lc12, hQ12, l12, y12, z12⟩, st12⟩ := Jvm.LawKit.callS X11 hx (y := (⟨"com/example/cablegram/cablegram/engine/EnvelopeIsPinLaw", "deltaLong", "(I)J"⟩ : MethodName)) hown (mvT hZ (hw _ (List.mem_of_getElem? (i := 36) rfl))) (mvT hZ (hw _ (List.mem_of_getElem? (i := 37) rfl))) (mvT hZ (hw _ (List.mem_of_getElem? (i := 2) rfl))) (mvT hZ (hw _ (List.mem_of_getElem? (i := 38) rfl))) (by decide) (backOf (W := 2) (rm6 l Z a0 hw [] i8 T11.heap n0 (Nat.le_trans Z0 Kh11.1)) hZ (hw _ (List.mem_of_getElem? (i := 38) rfl)) (hw _ (List.mem_of_getElem? (i := 2) rfl)) (by decide) (by decide)) (g := (mkF m 120 #[.val (.int i0), .val (.long j1), .second, .val (.int i3), .val (.int i4), .val (.int i5), s6, .val (.int i7), .val (.int i8), .val (.int i9), .val (.int i10), .val (.int i11), .val (.int i12), s13, .val (.int i14), .val (.ref ka), .val (.ref kb), .val (.ref b9), .val (.int (i0 + (own_delta i7))), .unset, .unset, s21, s22, s23, s24, s25] [(.int i8), (.long j1)])) rfl (by rw [hml]; rfl) (argsL := [(.int i8)]) (rest := [(.long j1)]) (lenOf pd_0_4 rfl) rfl (by show 2 * 0 + _ ≤ _; exact Nat.le_of_eq rfl) (hb hby at_120) (fun _ _ => ⟨rfl, rfl, (by decide : 1 + 0 ≤ _), (by decide : 6 + 0 ≤ _)⟩)
  dsimp only [Pt.U, Pt.locs, Pt.cells, Pt.slots] at X12 l12 y12 z12 st12 hQ12
  subst l12 y12 z12
  obtain ⟨rfl, N12q, e12⟩ := hQ12
  have N12 := Fr.app N11 N12q
  have Kc12 : Keep T11.heap T12.heap [] := own_kp e12
  have Kh12 : Keep h0 T12.heap [] := Kh11.trans Kc12 all0
  have EE_12 := EE_11.keep Kc12
  have G1_12 := G1_11.keep Kc12 nin0
  have G2_12 := G2_11.keep Kc12 nin0
  have G3_12 := G3_11.keep Kc12 nin0
  have G4_12 := G4_11.keep Kc12 nin0
  have G5_12 := G5_11.keep Kc12 nin0
  have G6_12 := G6_11.keep Kc12 nin0
  -- pc 129: com/example/cablegram/cablegram/engine/EnvelopeIsPinLaw.delta by its contract rm5
  obtain ⟨_, _, ⟨T13, L13, k13, n13⟩, -, X13, ⟨Lc13, hQ13, l13, y13, z13⟩, st13⟩ := Jvm.LawKit.callS X12 hx (y := (⟨"com/example/cablegram/cablegram/engine/EnvelopeIsPinLaw", "delta", "(I)I"⟩ : MethodName)) hown (mvT hZ (hw _ (List.mem_of_getElem? (i := 33) rfl))) (mvT hZ (hw _ (List.mem_of_getElem? (i := 34) rfl))) (mvT hZ (hw _ (List.mem_of_getElem? (i := 2) rfl))) (mvT hZ (hw _ (List.mem_of_getElem? (i := 35) rfl))) (by decide) (backOf (W := 1) (rm5 l Z a0 hw [] i9 T12.heap n0 (Nat.le_trans Z0 Kh12.1)) hZ (hw _ (List.mem_of_getElem? (i := 35) rfl)) (hw _ (List.mem_of_getElem? (i := 2) rfl)) (by decide) (by decide)) (g := (mkF m 129 #[.val (.int i0), .val (.long j1), .second, .val (.int i3), .val (.int i4), .val (.int i5), s6, .val (.int i7), .val (.int i8), .val (.int i9), .val (.int i10), .val (.int i11), .val (.int i12), s13, .val (.int i14), .val (.ref ka), .val (.ref kb), .val (.ref b9), .val (.int (i0 + (own_delta i7))), .val (.long (j1 + (own_deltaL i8))), .second, s21, s22, s23, s24, s25] [(.int i9), (.int i3)])) rfl (by rw [hml]; rfl) (argsL := [(.int i9)]) (rest := [(.int i3)]) (lenOf pd_0_3 rfl) rfl (by show 2 * 0 + _ ≤ _; exact Nat.le_of_eq rfl) (hb hby at_129) (fun _ _ => ⟨rfl, rfl, (by decide : 1 + 0 ≤ _), (by decide : 6 + 0 ≤ _)⟩)
  dsimp only [Pt.U, Pt.locs, Pt.cells, Pt.slots] at X13 l13 y13 z13 st13 hQ13
  subst l13 y13 z13
  obtain ⟨rfl, N13q, e13⟩ := hQ13
  have N13 := Fr.app N12 N13q
  have Kc13 : Keep T12.heap T13.heap [] := own_kp e13
  have Kh13 : Keep h0 T13.heap [] := Kh12.trans Kc13 all0
  have EE_13 := EE_12.keep Kc13
  have G1_13 := G1_12.keep Kc13 nin0
  have G2_13 := G2_12.keep Kc13 nin0
  have G3_13 := G3_12.keep Kc13 nin0
  have G4_13 := G4_12.keep Kc13 nin0
  have G5_13 := G5_12.keep Kc13 nin0
  have G6_13 := G6_12.keep Kc13 nin0
  -- pc 139: com/example/cablegram/cablegram/engine/EnvelopeIsPinLaw.delta by its contract rm5
  obtain ⟨_, _, ⟨T14, L14, k14, n14⟩, -, X14, ⟨Lc14, hQ14, l14, y14, z14⟩, st14⟩ := Jvm.LawKit.callS X13 hx (y := (⟨"com/example/cablegram/cablegram/engine/EnvelopeIsPinLaw", "delta", "(I)I"⟩ : MethodName)) hown (mvT hZ (hw _ (List.mem_of_getElem? (i := 33) rfl))) (mvT hZ (hw _ (List.mem_of_getElem? (i := 34) rfl))) (mvT hZ (hw _ (List.mem_of_getElem? (i := 2) rfl))) (mvT hZ (hw _ (List.mem_of_getElem? (i := 35) rfl))) (by decide) (backOf (W := 1) (rm5 l Z a0 hw [] i10 T13.heap n0 (Nat.le_trans Z0 Kh13.1)) hZ (hw _ (List.mem_of_getElem? (i := 35) rfl)) (hw _ (List.mem_of_getElem? (i := 2) rfl)) (by decide) (by decide)) (g := (mkF m 139 #[.val (.int i0), .val (.long j1), .second, .val (.int i3), .val (.int i4), .val (.int i5), s6, .val (.int i7), .val (.int i8), .val (.int i9), .val (.int i10), .val (.int i11), .val (.int i12), s13, .val (.int i14), .val (.ref ka), .val (.ref kb), .val (.ref b9), .val (.int (i0 + (own_delta i7))), .val (.long (j1 + (own_deltaL i8))), .second, .val (.int (i3 + (own_delta i9))), s22, s23, s24, s25] [(.int i10), (.int i4)])) rfl (by rw [hml]; rfl) (argsL := [(.int i10)]) (rest := [(.int i4)]) (lenOf pd_0_3 rfl) rfl (by show 2 * 0 + _ ≤ _; exact Nat.le_of_eq rfl) (hb hby at_139) (fun _ _ => ⟨rfl, rfl, (by decide : 1 + 0 ≤ _), (by decide : 6 + 0 ≤ _)⟩)
  dsimp only [Pt.U, Pt.locs, Pt.cells, Pt.slots] at X14 l14 y14 z14 st14 hQ14
  subst l14 y14 z14
  obtain ⟨rfl, N14q, e14⟩ := hQ14
  have N14 := Fr.app N13 N14q
  have Kc14 : Keep T13.heap T14.heap [] := own_kp e14
  have Kh14 : Keep h0 T14.heap [] := Kh13.trans Kc14 all0
  have EE_14 := EE_13.keep Kc14
  have G1_14 := G1_13.keep Kc14 nin0
  have G2_14 := G2_13.keep Kc14 nin0
  have G3_14 := G3_13.keep Kc14 nin0
  have G4_14 := G4_13.keep Kc14 nin0
  have G5_14 := G5_13.keep Kc14 nin0
  have G6_14 := G6_13.keep Kc14 nin0
  -- pc 149: com/example/cablegram/cablegram/engine/EnvelopeIsPinLaw.delta by its contract rm5
  obtain ⟨_, _, ⟨T15, L15, k15, n15⟩, -, X15, ⟨Lc15, hQ15, l15, y15, z15⟩, st15⟩ := Jvm.LawKit.callS X14 hx (y := (⟨"com/example/cablegram/cablegram/engine/EnvelopeIsPinLaw", "delta", "(I)I"⟩ : MethodName)) hown (mvT hZ (hw _ (List.mem_of_getElem? (i := 33) rfl))) (mvT hZ (hw _ (List.mem_of_getElem? (i := 34) rfl))) (mvT hZ (hw _ (List.mem_of_getElem? (i := 2) rfl))) (mvT hZ (hw _ (List.mem_of_getElem? (i := 35) rfl))) (by decide) (backOf (W := 1) (rm5 l Z a0 hw [] i11 T14.heap n0 (Nat.le_trans Z0 Kh14.1)) hZ (hw _ (List.mem_of_getElem? (i := 35) rfl)) (hw _ (List.mem_of_getElem? (i := 2) rfl)) (by decide) (by decide)) (g := (mkF m 149 #[.val (.int i0), .val (.long j1), .second, .val (.int i3), .val (.int i4), .val (.int i5), s6, .val (.int i7), .val (.int i8), .val (.int i9), .val (.int i10), .val (.int i11), .val (.int i12), s13, .val (.int i14), .val (.ref ka), .val (.ref kb), .val (.ref b9), .val (.int (i0 + (own_delta i7))), .val (.long (j1 + (own_deltaL i8))), .second, .val (.int (i3 + (own_delta i9))), .val (.int (i4 + (own_delta i10))), s23, s24, s25] [(.int i11), (.int i5)])) rfl (by rw [hml]; rfl) (argsL := [(.int i11)]) (rest := [(.int i5)]) (lenOf pd_0_3 rfl) rfl (by show 2 * 0 + _ ≤ _; exact Nat.le_of_eq rfl) (hb hby at_149) (fun _ _ => ⟨rfl, rfl, (by decide : 1 + 0 ≤ _), (by decide : 6 + 0 ≤ _)⟩)
  dsimp only [Pt.U, Pt.locs, Pt.cells, Pt.slots] at X15 l15 y15 z15 st15 hQ15
  subst l15 y15 z15
  obtain ⟨rfl, N15q, e15⟩ := hQ15
  have N15 := Fr.app N14 N15q
  have Kc15 : Keep T14.heap T15.heap [] := own_kp e15
  have Kh15 : Keep h0 T15.heap [] := Kh14.trans Kc15 all0
  have EE_15 := EE_14.keep Kc15
  have G1_15 := G1_14.keep Kc15 nin0
  have G2_15 := G2_14.keep Kc15 nin0
  have G3_15 := G3_14.keep Kc15 nin0
  have G4_15 := G4_14.keep Kc15 nin0
  have G5_15 := G5_14.keep Kc15 nin0
  have G6_15 := G6_14.keep Kc15 nin0
  refine ⟨T15, _, b9, X15, N15, Nat.le_trans Z0 Kh15.1, EE_15, G1_15, G2_15, G3_15, G4_15, G5_15, G6_15, fun target kt => ?_⟩
  -- 4. STEPS
  show Steps p.tables e below (T0.setTop (mkF m 76 #[.val (.int i0), .val (.long j1), .second, .val (.int i3), .val (.int i4), .val (.int i5), s6, .val (.int i7), .val (.int i8), .val (.int i9), .val (.int i10), .val (.int i11), .val (.int i12), s13, .val (.int i14), s15, s16, s17, s18, .unset, .unset, s21, s22, s23, s24, s25] [])) _
  refine XS.iload X0.here hx rfl (hb hby at_76) rfl ?_
  show Steps p.tables e below (T0.setTop (mkF m 78 #[.val (.int i0), .val (.long j1), .second, .val (.int i3), .val (.int i4), .val (.int i5), s6, .val (.int i7), .val (.int i8), .val (.int i9), .val (.int i10), .val (.int i11), .val (.int i12), s13, .val (.int i14), s15, s16, s17, s18, .unset, .unset, s21, s22, s23, s24, s25] [(.int i12)])) _
  refine st7 _ ?_
  show Steps p.tables e below (T7.setTop (mkF m 81 #[.val (.int i0), .val (.long j1), .second, .val (.int i3), .val (.int i4), .val (.int i5), s6, .val (.int i7), .val (.int i8), .val (.int i9), .val (.int i10), .val (.int i11), .val (.int i12), s13, .val (.int i14), s15, s16, s17, s18, .unset, .unset, s21, s22, s23, s24, s25] [(.ref ka)])) _
  refine XS.astore X7.here hx rfl (hb hby at_81) rfl rfl (l' := #[.val (.int i0), .val (.long j1), .second, .val (.int i3), .val (.int i4), .val (.int i5), s6, .val (.int i7), .val (.int i8), .val (.int i9), .val (.int i10), .val (.int i11), .val (.int i12), s13, .val (.int i14), .val (.ref ka), s16, s17, s18, .unset, .unset, s21, s22, s23, s24, s25]) (os0_81 hs15) ?_
  show Steps p.tables e below (T7.setTop (mkF m 83 #[.val (.int i0), .val (.long j1), .second, .val (.int i3), .val (.int i4), .val (.int i5), s6, .val (.int i7), .val (.int i8), .val (.int i9), .val (.int i10), .val (.int i11), .val (.int i12), s13, .val (.int i14), .val (.ref ka), s16, s17, s18, .unset, .unset, s21, s22, s23, s24, s25] [])) _
  refine XS.iload X7.here hx rfl (hb hby at_83) rfl ?_
  show Steps p.tables e below (T7.setTop (mkF m 85 #[.val (.int i0), .val (.long j1), .second, .val (.int i3), .val (.int i4), .val (.int i5), s6, .val (.int i7), .val (.int i8), .val (.int i9), .val (.int i10), .val (.int i11), .val (.int i12), s13, .val (.int i14), .val (.ref ka), s16, s17, s18, .unset, .unset, s21, s22, s23, s24, s25] [(.int i14)])) _
  refine st8 _ ?_
  show Steps p.tables e below (T8.setTop (mkF m 88 #[.val (.int i0), .val (.long j1), .second, .val (.int i3), .val (.int i4), .val (.int i5), s6, .val (.int i7), .val (.int i8), .val (.int i9), .val (.int i10), .val (.int i11), .val (.int i12), s13, .val (.int i14), .val (.ref ka), s16, s17, s18, .unset, .unset, s21, s22, s23, s24, s25] [(.ref kb)])) _
  refine XS.astore X8.here hx rfl (hb hby at_88) rfl rfl (l' := #[.val (.int i0), .val (.long j1), .second, .val (.int i3), .val (.int i4), .val (.int i5), s6, .val (.int i7), .val (.int i8), .val (.int i9), .val (.int i10), .val (.int i11), .val (.int i12), s13, .val (.int i14), .val (.ref ka), .val (.ref kb), s17, s18, .unset, .unset, s21, s22, s23, s24, s25]) (os0_88 hs16) ?_
  show Steps p.tables e below (T8.setTop (mkF m 90 #[.val (.int i0), .val (.long j1), .second, .val (.int i3), .val (.int i4), .val (.int i5), s6, .val (.int i7), .val (.int i8), .val (.int i9), .val (.int i10), .val (.int i11), .val (.int i12), s13, .val (.int i14), .val (.ref ka), .val (.ref kb), s17, s18, .unset, .unset, s21, s22, s23, s24, s25] [])) _
  refine st9 _ ?_
  show Steps p.tables e below (T9.setTop (mkF m 93 #[.val (.int i0), .val (.long j1), .second, .val (.int i3), .val (.int i4), .val (.int i5), s6, .val (.int i7), .val (.int i8), .val (.int i9), .val (.int i10), .val (.int i11), .val (.int i12), s13, .val (.int i14), .val (.ref ka), .val (.ref kb), s17, s18, .unset, .unset, s21, s22, s23, s24, s25] [(.ref b9)])) _
  refine XS.dup X9.here hx rfl (hb hby at_93) rfl rfl ?_
  show Steps p.tables e below (T9.setTop (mkF m 94 #[.val (.int i0), .val (.long j1), .second, .val (.int i3), .val (.int i4), .val (.int i5), s6, .val (.int i7), .val (.int i8), .val (.int i9), .val (.int i10), .val (.int i11), .val (.int i12), s13, .val (.int i14), .val (.ref ka), .val (.ref kb), s17, s18, .unset, .unset, s21, s22, s23, s24, s25] [(.ref b9), (.ref b9)])) _
  refine XS.iloadN X9.here hx rfl (hb hby at_94) rfl ?_
  show Steps p.tables e below (T9.setTop (mkF m 95 #[.val (.int i0), .val (.long j1), .second, .val (.int i3), .val (.int i4), .val (.int i5), s6, .val (.int i7), .val (.int i8), .val (.int i9), .val (.int i10), .val (.int i11), .val (.int i12), s13, .val (.int i14), .val (.ref ka), .val (.ref kb), s17, s18, .unset, .unset, s21, s22, s23, s24, s25] [(.int i0), (.ref b9), (.ref b9)])) _
  refine XS.lloadN X9.here hx rfl (hb hby at_95) rfl ?_
  show Steps p.tables e below (T9.setTop (mkF m 96 #[.val (.int i0), .val (.long j1), .second, .val (.int i3), .val (.int i4), .val (.int i5), s6, .val (.int i7), .val (.int i8), .val (.int i9), .val (.int i10), .val (.int i11), .val (.int i12), s13, .val (.int i14), .val (.ref ka), .val (.ref kb), s17, s18, .unset, .unset, s21, s22, s23, s24, s25] [(.long j1), (.int i0), (.ref b9), (.ref b9)])) _
  refine XS.iloadN X9.here hx rfl (hb hby at_96) rfl ?_
  show Steps p.tables e below (T9.setTop (mkF m 97 #[.val (.int i0), .val (.long j1), .second, .val (.int i3), .val (.int i4), .val (.int i5), s6, .val (.int i7), .val (.int i8), .val (.int i9), .val (.int i10), .val (.int i11), .val (.int i12), s13, .val (.int i14), .val (.ref ka), .val (.ref kb), s17, s18, .unset, .unset, s21, s22, s23, s24, s25] [(.int i3), (.long j1), (.int i0), (.ref b9), (.ref b9)])) _
  refine XS.aload X9.here hx rfl (hb hby at_97) rfl rfl ?_
  show Steps p.tables e below (T9.setTop (mkF m 99 #[.val (.int i0), .val (.long j1), .second, .val (.int i3), .val (.int i4), .val (.int i5), s6, .val (.int i7), .val (.int i8), .val (.int i9), .val (.int i10), .val (.int i11), .val (.int i12), s13, .val (.int i14), .val (.ref ka), .val (.ref kb), s17, s18, .unset, .unset, s21, s22, s23, s24, s25] [(.ref ka), (.int i3), (.long j1), (.int i0), (.ref b9), (.ref b9)])) _
  refine XS.iload X9.here hx rfl (hb hby at_99) rfl ?_
  show Steps p.tables e below (T9.setTop (mkF m 101 #[.val (.int i0), .val (.long j1), .second, .val (.int i3), .val (.int i4), .val (.int i5), s6, .val (.int i7), .val (.int i8), .val (.int i9), .val (.int i10), .val (.int i11), .val (.int i12), s13, .val (.int i14), .val (.ref ka), .val (.ref kb), s17, s18, .unset, .unset, s21, s22, s23, s24, s25] [(.int i4), (.ref ka), (.int i3), (.long j1), (.int i0), (.ref b9), (.ref b9)])) _
  refine XS.iload X9.here hx rfl (hb hby at_101) rfl ?_
  show Steps p.tables e below (T9.setTop (mkF m 103 #[.val (.int i0), .val (.long j1), .second, .val (.int i3), .val (.int i4), .val (.int i5), s6, .val (.int i7), .val (.int i8), .val (.int i9), .val (.int i10), .val (.int i11), .val (.int i12), s13, .val (.int i14), .val (.ref ka), .val (.ref kb), s17, s18, .unset, .unset, s21, s22, s23, s24, s25] [(.int i5), (.int i4), (.ref ka), (.int i3), (.long j1), (.int i0), (.ref b9), (.ref b9)])) _
  refine st10.trans ?_
  show Steps p.tables e below (T10.setTop (mkF m 106 #[.val (.int i0), .val (.long j1), .second, .val (.int i3), .val (.int i4), .val (.int i5), s6, .val (.int i7), .val (.int i8), .val (.int i9), .val (.int i10), .val (.int i11), .val (.int i12), s13, .val (.int i14), .val (.ref ka), .val (.ref kb), s17, s18, .unset, .unset, s21, s22, s23, s24, s25] [(.ref b9)])) _
  refine XS.astore X10.here hx rfl (hb hby at_106) rfl rfl (l' := #[.val (.int i0), .val (.long j1), .second, .val (.int i3), .val (.int i4), .val (.int i5), s6, .val (.int i7), .val (.int i8), .val (.int i9), .val (.int i10), .val (.int i11), .val (.int i12), s13, .val (.int i14), .val (.ref ka), .val (.ref kb), .val (.ref b9), s18, .unset, .unset, s21, s22, s23, s24, s25]) (os0_106 hs17) ?_
  show Steps p.tables e below (T10.setTop (mkF m 108 #[.val (.int i0), .val (.long j1), .second, .val (.int i3), .val (.int i4), .val (.int i5), s6, .val (.int i7), .val (.int i8), .val (.int i9), .val (.int i10), .val (.int i11), .val (.int i12), s13, .val (.int i14), .val (.ref ka), .val (.ref kb), .val (.ref b9), s18, .unset, .unset, s21, s22, s23, s24, s25] [])) _
  refine XS.iloadN X10.here hx rfl (hb hby at_108) rfl ?_
  show Steps p.tables e below (T10.setTop (mkF m 109 #[.val (.int i0), .val (.long j1), .second, .val (.int i3), .val (.int i4), .val (.int i5), s6, .val (.int i7), .val (.int i8), .val (.int i9), .val (.int i10), .val (.int i11), .val (.int i12), s13, .val (.int i14), .val (.ref ka), .val (.ref kb), .val (.ref b9), s18, .unset, .unset, s21, s22, s23, s24, s25] [(.int i0)])) _
  refine XS.iload X10.here hx rfl (hb hby at_109) rfl ?_
  show Steps p.tables e below (T10.setTop (mkF m 111 #[.val (.int i0), .val (.long j1), .second, .val (.int i3), .val (.int i4), .val (.int i5), s6, .val (.int i7), .val (.int i8), .val (.int i9), .val (.int i10), .val (.int i11), .val (.int i12), s13, .val (.int i14), .val (.ref ka), .val (.ref kb), .val (.ref b9), s18, .unset, .unset, s21, s22, s23, s24, s25] [(.int i7), (.int i0)])) _
  refine st11 _ ?_
  show Steps p.tables e below (T11.setTop (mkF m 114 #[.val (.int i0), .val (.long j1), .second, .val (.int i3), .val (.int i4), .val (.int i5), s6, .val (.int i7), .val (.int i8), .val (.int i9), .val (.int i10), .val (.int i11), .val (.int i12), s13, .val (.int i14), .val (.ref ka), .val (.ref kb), .val (.ref b9), s18, .unset, .unset, s21, s22, s23, s24, s25] [(.int (own_delta i7)), (.int i0)])) _
  refine XS.iadd X11.here hx rfl (hb hby at_114) rfl ?_
  show Steps p.tables e below (T11.setTop (mkF m 115 #[.val (.int i0), .val (.long j1), .second, .val (.int i3), .val (.int i4), .val (.int i5), s6, .val (.int i7), .val (.int i8), .val (.int i9), .val (.int i10), .val (.int i11), .val (.int i12), s13, .val (.int i14), .val (.ref ka), .val (.ref kb), .val (.ref b9), s18, .unset, .unset, s21, s22, s23, s24, s25] [(.int (i0 + (own_delta i7)))])) _
  refine XS.istore X11.here hx rfl (hb hby at_115) rfl (l' := #[.val (.int i0), .val (.long j1), .second, .val (.int i3), .val (.int i4), .val (.int i5), s6, .val (.int i7), .val (.int i8), .val (.int i9), .val (.int i10), .val (.int i11), .val (.int i12), s13, .val (.int i14), .val (.ref ka), .val (.ref kb), .val (.ref b9), .val (.int (i0 + (own_delta i7))), .unset, .unset, s21, s22, s23, s24, s25]) (os0_115 hs18) ?_
  show Steps p.tables e below (T11.setTop (mkF m 117 #[.val (.int i0), .val (.long j1), .second, .val (.int i3), .val (.int i4), .val (.int i5), s6, .val (.int i7), .val (.int i8), .val (.int i9), .val (.int i10), .val (.int i11), .val (.int i12), s13, .val (.int i14), .val (.ref ka), .val (.ref kb), .val (.ref b9), .val (.int (i0 + (own_delta i7))), .unset, .unset, s21, s22, s23, s24, s25] [])) _
  refine XS.lloadN X11.here hx rfl (hb hby at_117) rfl ?_
  show Steps p.tables e below (T11.setTop (mkF m 118 #[.val (.int i0), .val (.long j1), .second, .val (.int i3), .val (.int i4), .val (.int i5), s6, .val (.int i7), .val (.int i8), .val (.int i9), .val (.int i10), .val (.int i11), .val (.int i12), s13, .val (.int i14), .val (.ref ka), .val (.ref kb), .val (.ref b9), .val (.int (i0 + (own_delta i7))), .unset, .unset, s21, s22, s23, s24, s25] [(.long j1)])) _
  refine XS.iload X11.here hx rfl (hb hby at_118) rfl ?_
  show Steps p.tables e below (T11.setTop (mkF m 120 #[.val (.int i0), .val (.long j1), .second, .val (.int i3), .val (.int i4), .val (.int i5), s6, .val (.int i7), .val (.int i8), .val (.int i9), .val (.int i10), .val (.int i11), .val (.int i12), s13, .val (.int i14), .val (.ref ka), .val (.ref kb), .val (.ref b9), .val (.int (i0 + (own_delta i7))), .unset, .unset, s21, s22, s23, s24, s25] [(.int i8), (.long j1)])) _
  refine st12 _ ?_
  show Steps p.tables e below (T12.setTop (mkF m 123 #[.val (.int i0), .val (.long j1), .second, .val (.int i3), .val (.int i4), .val (.int i5), s6, .val (.int i7), .val (.int i8), .val (.int i9), .val (.int i10), .val (.int i11), .val (.int i12), s13, .val (.int i14), .val (.ref ka), .val (.ref kb), .val (.ref b9), .val (.int (i0 + (own_delta i7))), .unset, .unset, s21, s22, s23, s24, s25] [(.long (own_deltaL i8)), (.long j1)])) _
  refine XS.ladd X12.here hx rfl (hb hby at_123) rfl ?_
  show Steps p.tables e below (T12.setTop (mkF m 124 #[.val (.int i0), .val (.long j1), .second, .val (.int i3), .val (.int i4), .val (.int i5), s6, .val (.int i7), .val (.int i8), .val (.int i9), .val (.int i10), .val (.int i11), .val (.int i12), s13, .val (.int i14), .val (.ref ka), .val (.ref kb), .val (.ref b9), .val (.int (i0 + (own_delta i7))), .unset, .unset, s21, s22, s23, s24, s25] [(.long (j1 + (own_deltaL i8)))])) _
  refine XS.lstore X12.here hx rfl (hb hby at_124) rfl (l' := #[.val (.int i0), .val (.long j1), .second, .val (.int i3), .val (.int i4), .val (.int i5), s6, .val (.int i7), .val (.int i8), .val (.int i9), .val (.int i10), .val (.int i11), .val (.int i12), s13, .val (.int i14), .val (.ref ka), .val (.ref kb), .val (.ref b9), .val (.int (i0 + (own_delta i7))), .val (.long (j1 + (own_deltaL i8))), .second, s21, s22, s23, s24, s25]) rfl ?_
  show Steps p.tables e below (T12.setTop (mkF m 126 #[.val (.int i0), .val (.long j1), .second, .val (.int i3), .val (.int i4), .val (.int i5), s6, .val (.int i7), .val (.int i8), .val (.int i9), .val (.int i10), .val (.int i11), .val (.int i12), s13, .val (.int i14), .val (.ref ka), .val (.ref kb), .val (.ref b9), .val (.int (i0 + (own_delta i7))), .val (.long (j1 + (own_deltaL i8))), .second, s21, s22, s23, s24, s25] [])) _
  refine XS.iloadN X12.here hx rfl (hb hby at_126) rfl ?_
  show Steps p.tables e below (T12.setTop (mkF m 127 #[.val (.int i0), .val (.long j1), .second, .val (.int i3), .val (.int i4), .val (.int i5), s6, .val (.int i7), .val (.int i8), .val (.int i9), .val (.int i10), .val (.int i11), .val (.int i12), s13, .val (.int i14), .val (.ref ka), .val (.ref kb), .val (.ref b9), .val (.int (i0 + (own_delta i7))), .val (.long (j1 + (own_deltaL i8))), .second, s21, s22, s23, s24, s25] [(.int i3)])) _
  refine XS.iload X12.here hx rfl (hb hby at_127) rfl ?_
  show Steps p.tables e below (T12.setTop (mkF m 129 #[.val (.int i0), .val (.long j1), .second, .val (.int i3), .val (.int i4), .val (.int i5), s6, .val (.int i7), .val (.int i8), .val (.int i9), .val (.int i10), .val (.int i11), .val (.int i12), s13, .val (.int i14), .val (.ref ka), .val (.ref kb), .val (.ref b9), .val (.int (i0 + (own_delta i7))), .val (.long (j1 + (own_deltaL i8))), .second, s21, s22, s23, s24, s25] [(.int i9), (.int i3)])) _
  refine st13 _ ?_
  show Steps p.tables e below (T13.setTop (mkF m 132 #[.val (.int i0), .val (.long j1), .second, .val (.int i3), .val (.int i4), .val (.int i5), s6, .val (.int i7), .val (.int i8), .val (.int i9), .val (.int i10), .val (.int i11), .val (.int i12), s13, .val (.int i14), .val (.ref ka), .val (.ref kb), .val (.ref b9), .val (.int (i0 + (own_delta i7))), .val (.long (j1 + (own_deltaL i8))), .second, s21, s22, s23, s24, s25] [(.int (own_delta i9)), (.int i3)])) _
  refine XS.iadd X13.here hx rfl (hb hby at_132) rfl ?_
  show Steps p.tables e below (T13.setTop (mkF m 133 #[.val (.int i0), .val (.long j1), .second, .val (.int i3), .val (.int i4), .val (.int i5), s6, .val (.int i7), .val (.int i8), .val (.int i9), .val (.int i10), .val (.int i11), .val (.int i12), s13, .val (.int i14), .val (.ref ka), .val (.ref kb), .val (.ref b9), .val (.int (i0 + (own_delta i7))), .val (.long (j1 + (own_deltaL i8))), .second, s21, s22, s23, s24, s25] [(.int (i3 + (own_delta i9)))])) _
  refine XS.istore X13.here hx rfl (hb hby at_133) rfl (l' := #[.val (.int i0), .val (.long j1), .second, .val (.int i3), .val (.int i4), .val (.int i5), s6, .val (.int i7), .val (.int i8), .val (.int i9), .val (.int i10), .val (.int i11), .val (.int i12), s13, .val (.int i14), .val (.ref ka), .val (.ref kb), .val (.ref b9), .val (.int (i0 + (own_delta i7))), .val (.long (j1 + (own_deltaL i8))), .second, .val (.int (i3 + (own_delta i9))), s22, s23, s24, s25]) (os0_133 hs21) ?_
  show Steps p.tables e below (T13.setTop (mkF m 135 #[.val (.int i0), .val (.long j1), .second, .val (.int i3), .val (.int i4), .val (.int i5), s6, .val (.int i7), .val (.int i8), .val (.int i9), .val (.int i10), .val (.int i11), .val (.int i12), s13, .val (.int i14), .val (.ref ka), .val (.ref kb), .val (.ref b9), .val (.int (i0 + (own_delta i7))), .val (.long (j1 + (own_deltaL i8))), .second, .val (.int (i3 + (own_delta i9))), s22, s23, s24, s25] [])) _
  refine XS.iload X13.here hx rfl (hb hby at_135) rfl ?_
  show Steps p.tables e below (T13.setTop (mkF m 137 #[.val (.int i0), .val (.long j1), .second, .val (.int i3), .val (.int i4), .val (.int i5), s6, .val (.int i7), .val (.int i8), .val (.int i9), .val (.int i10), .val (.int i11), .val (.int i12), s13, .val (.int i14), .val (.ref ka), .val (.ref kb), .val (.ref b9), .val (.int (i0 + (own_delta i7))), .val (.long (j1 + (own_deltaL i8))), .second, .val (.int (i3 + (own_delta i9))), s22, s23, s24, s25] [(.int i4)])) _
  refine XS.iload X13.here hx rfl (hb hby at_137) rfl ?_
  show Steps p.tables e below (T13.setTop (mkF m 139 #[.val (.int i0), .val (.long j1), .second, .val (.int i3), .val (.int i4), .val (.int i5), s6, .val (.int i7), .val (.int i8), .val (.int i9), .val (.int i10), .val (.int i11), .val (.int i12), s13, .val (.int i14), .val (.ref ka), .val (.ref kb), .val (.ref b9), .val (.int (i0 + (own_delta i7))), .val (.long (j1 + (own_deltaL i8))), .second, .val (.int (i3 + (own_delta i9))), s22, s23, s24, s25] [(.int i10), (.int i4)])) _
  refine st14 _ ?_
  show Steps p.tables e below (T14.setTop (mkF m 142 #[.val (.int i0), .val (.long j1), .second, .val (.int i3), .val (.int i4), .val (.int i5), s6, .val (.int i7), .val (.int i8), .val (.int i9), .val (.int i10), .val (.int i11), .val (.int i12), s13, .val (.int i14), .val (.ref ka), .val (.ref kb), .val (.ref b9), .val (.int (i0 + (own_delta i7))), .val (.long (j1 + (own_deltaL i8))), .second, .val (.int (i3 + (own_delta i9))), s22, s23, s24, s25] [(.int (own_delta i10)), (.int i4)])) _
  refine XS.iadd X14.here hx rfl (hb hby at_142) rfl ?_
  show Steps p.tables e below (T14.setTop (mkF m 143 #[.val (.int i0), .val (.long j1), .second, .val (.int i3), .val (.int i4), .val (.int i5), s6, .val (.int i7), .val (.int i8), .val (.int i9), .val (.int i10), .val (.int i11), .val (.int i12), s13, .val (.int i14), .val (.ref ka), .val (.ref kb), .val (.ref b9), .val (.int (i0 + (own_delta i7))), .val (.long (j1 + (own_deltaL i8))), .second, .val (.int (i3 + (own_delta i9))), s22, s23, s24, s25] [(.int (i4 + (own_delta i10)))])) _
  refine XS.istore X14.here hx rfl (hb hby at_143) rfl (l' := #[.val (.int i0), .val (.long j1), .second, .val (.int i3), .val (.int i4), .val (.int i5), s6, .val (.int i7), .val (.int i8), .val (.int i9), .val (.int i10), .val (.int i11), .val (.int i12), s13, .val (.int i14), .val (.ref ka), .val (.ref kb), .val (.ref b9), .val (.int (i0 + (own_delta i7))), .val (.long (j1 + (own_deltaL i8))), .second, .val (.int (i3 + (own_delta i9))), .val (.int (i4 + (own_delta i10))), s23, s24, s25]) (os0_143 hs22) ?_
  show Steps p.tables e below (T14.setTop (mkF m 145 #[.val (.int i0), .val (.long j1), .second, .val (.int i3), .val (.int i4), .val (.int i5), s6, .val (.int i7), .val (.int i8), .val (.int i9), .val (.int i10), .val (.int i11), .val (.int i12), s13, .val (.int i14), .val (.ref ka), .val (.ref kb), .val (.ref b9), .val (.int (i0 + (own_delta i7))), .val (.long (j1 + (own_deltaL i8))), .second, .val (.int (i3 + (own_delta i9))), .val (.int (i4 + (own_delta i10))), s23, s24, s25] [])) _
  refine XS.iload X14.here hx rfl (hb hby at_145) rfl ?_
  show Steps p.tables e below (T14.setTop (mkF m 147 #[.val (.int i0), .val (.long j1), .second, .val (.int i3), .val (.int i4), .val (.int i5), s6, .val (.int i7), .val (.int i8), .val (.int i9), .val (.int i10), .val (.int i11), .val (.int i12), s13, .val (.int i14), .val (.ref ka), .val (.ref kb), .val (.ref b9), .val (.int (i0 + (own_delta i7))), .val (.long (j1 + (own_deltaL i8))), .second, .val (.int (i3 + (own_delta i9))), .val (.int (i4 + (own_delta i10))), s23, s24, s25] [(.int i5)])) _
  refine XS.iload X14.here hx rfl (hb hby at_147) rfl ?_
  show Steps p.tables e below (T14.setTop (mkF m 149 #[.val (.int i0), .val (.long j1), .second, .val (.int i3), .val (.int i4), .val (.int i5), s6, .val (.int i7), .val (.int i8), .val (.int i9), .val (.int i10), .val (.int i11), .val (.int i12), s13, .val (.int i14), .val (.ref ka), .val (.ref kb), .val (.ref b9), .val (.int (i0 + (own_delta i7))), .val (.long (j1 + (own_deltaL i8))), .second, .val (.int (i3 + (own_delta i9))), .val (.int (i4 + (own_delta i10))), s23, s24, s25] [(.int i11), (.int i5)])) _
  refine st15 _ ?_
  show Steps p.tables e below (T15.setTop (mkF m 152 #[.val (.int i0), .val (.long j1), .second, .val (.int i3), .val (.int i4), .val (.int i5), s6, .val (.int i7), .val (.int i8), .val (.int i9), .val (.int i10), .val (.int i11), .val (.int i12), s13, .val (.int i14), .val (.ref ka), .val (.ref kb), .val (.ref b9), .val (.int (i0 + (own_delta i7))), .val (.long (j1 + (own_deltaL i8))), .second, .val (.int (i3 + (own_delta i9))), .val (.int (i4 + (own_delta i10))), s23, s24, s25] [(.int (own_delta i11)), (.int i5)])) _
  refine XS.iadd X15.here hx rfl (hb hby at_152) rfl ?_
  show Steps p.tables e below (T15.setTop (mkF m 153 #[.val (.int i0), .val (.long j1), .second, .val (.int i3), .val (.int i4), .val (.int i5), s6, .val (.int i7), .val (.int i8), .val (.int i9), .val (.int i10), .val (.int i11), .val (.int i12), s13, .val (.int i14), .val (.ref ka), .val (.ref kb), .val (.ref b9), .val (.int (i0 + (own_delta i7))), .val (.long (j1 + (own_deltaL i8))), .second, .val (.int (i3 + (own_delta i9))), .val (.int (i4 + (own_delta i10))), s23, s24, s25] [(.int (i5 + (own_delta i11)))])) _
  refine XS.istore X15.here hx rfl (hb hby at_153) rfl (l' := #[.val (.int i0), .val (.long j1), .second, .val (.int i3), .val (.int i4), .val (.int i5), s6, .val (.int i7), .val (.int i8), .val (.int i9), .val (.int i10), .val (.int i11), .val (.int i12), s13, .val (.int i14), .val (.ref ka), .val (.ref kb), .val (.ref b9), .val (.int (i0 + (own_delta i7))), .val (.long (j1 + (own_deltaL i8))), .second, .val (.int (i3 + (own_delta i9))), .val (.int (i4 + (own_delta i10))), .val (.int (i5 + (own_delta i11))), s24, s25]) (os0_153 hs23) ?_
  exact kt
theorem os0_190 {s0 : Slot} {s1 : Slot} {s2 : Slot} {s3 : Slot} {s4 : Slot} {s5 : Slot} {s6 : Slot} {z7 : Value} {s8 : Slot} {s9 : Slot} {s10 : Slot} {s11 : Slot} {s12 : Slot} {s13 : Slot} {s14 : Slot} {s15 : Slot} {s16 : Slot} {s17 : Slot} {s18 : Slot} {s19 : Slot} {s20 : Slot} {s21 : Slot} {s22 : Slot} {s23 : Slot} {s24 : Slot} {s25 : Slot} {v : Int32} (h : One s24) : storeLocals #[s0, s1, s2, s3, s4, s5, s6, .val z7, s8, s9, s10, s11, s12, s13, s14, s15, s16, s17, s18, s19, s20, s21, s22, s23, s24, s25] 24 (.int v) = some #[s0, s1, s2, s3, s4, s5, s6, .val z7, s8, s9, s10, s11, s12, s13, s14, s15, s16, s17, s18, s19, s20, s21, s22, s23, .val (.int v), s25] := by
  rcases h with rfl | ⟨w, rfl, hw⟩
  · rfl
  · cases w <;> first | rfl | (simp [Value.category] at hw)
set_option maxRecDepth 65536 in
set_option maxHeartbeats 40000000 in
theorem tn0_155_192_t {p : Program} {l : Launch} {e : Env} {R : Room} {s : State} {m : MethodId} {args : Array Value} {below : List Frame} {meth : Method} {c : Code} {T0 : State} {locs : List Loc} {cells slots : Nat} {Z : State} {a0 : Array Value} {h0 : Heap} (s0 : Slot) (s1 : Slot) (s2 : Slot) (s3 : Slot) (s4 : Slot) (s5 : Slot) (s6 : Slot) (i7 : Int32) (s8 : Slot) (s9 : Slot) (s10 : Slot) (s11 : Slot) (s12 : Slot) (s13 : Slot) (s14 : Slot) (s15 : Slot) (s16 : Slot) (s17 : Slot) (s18 : Slot) (s19 : Slot) (s20 : Slot) (s21 : Slot) (s22 : Slot) (s23 : Slot) (s24 : Slot) (s25 : Slot)
    (X0 : Stand p l e R s m args below meth c T0 locs cells slots) (hx : p.tables.exec = Jvm.exec) (hZ : Z.Warmed39 s.vm) (hw : ∀ d ∈ tables_1, d.before a0 Z = true) (hby : c.code = code) (hml : c.maxLocals = 26) (hown : s.vm.findClass "com/example/cablegram/cablegram/engine/EnvelopeIsPinLaw" = some m.cls) (e0 : T0.heap = h0) (hs24 : One s24) (hc157 : ¬ (i7 = (0 : Int32))) :
    ∃ (T' : State), Stand p l e R s m args below meth c T' locs cells slots ∧ T'.heap = h0 ∧
      ∀ target, Steps p.tables e below (T'.setTop (mkF m 192 #[s0, s1, s2, s3, s4, s5, s6, .val (.int i7), s8, s9, s10, s11, s12, s13, s14, s15, s16, s17, s18, s19, s20, s21, s22, s23, .val (.int (0 : Int32)), s25] [])) target → Steps p.tables e below (T0.setTop (mkF m 155 #[s0, s1, s2, s3, s4, s5, s6, .val (.int i7), s8, s9, s10, s11, s12, s13, s14, s15, s16, s17, s18, s19, s20, s21, s22, s23, s24, s25] [])) target := by
  -- 3. LAWS

  refine ⟨T0, X0, e0, fun target kt => ?_⟩
  -- 4. STEPS
  show Steps p.tables e below (T0.setTop (mkF m 155 #[s0, s1, s2, s3, s4, s5, s6, .val (.int i7), s8, s9, s10, s11, s12, s13, s14, s15, s16, s17, s18, s19, s20, s21, s22, s23, s24, s25] [])) _
  refine XS.iload X0.here hx rfl (hb hby at_155) rfl ?_
  show Steps p.tables e below (T0.setTop (mkF m 157 #[s0, s1, s2, s3, s4, s5, s6, .val (.int i7), s8, s9, s10, s11, s12, s13, s14, s15, s16, s17, s18, s19, s20, s21, s22, s23, s24, s25] [(.int i7)])) _
  refine XS.ifYes X0.here hx rfl (pc0 := 157) (pc' := 189) rfl (hb hby at_157) rfl ((if0 _ _).trans (feq hc157).2) (by decide) (by decide) ?_
  show Steps p.tables e below (T0.setTop (mkF m 189 #[s0, s1, s2, s3, s4, s5, s6, .val (.int i7), s8, s9, s10, s11, s12, s13, s14, s15, s16, s17, s18, s19, s20, s21, s22, s23, s24, s25] [])) _
  refine XS.iconst X0.here hx rfl (hb hby at_189) ?_
  show Steps p.tables e below (T0.setTop (mkF m 190 #[s0, s1, s2, s3, s4, s5, s6, .val (.int i7), s8, s9, s10, s11, s12, s13, s14, s15, s16, s17, s18, s19, s20, s21, s22, s23, s24, s25] [(.int (0 : Int32))])) _
  refine XS.istore X0.here hx rfl (hb hby at_190) rfl (l' := #[s0, s1, s2, s3, s4, s5, s6, .val (.int i7), s8, s9, s10, s11, s12, s13, s14, s15, s16, s17, s18, s19, s20, s21, s22, s23, .val (.int (0 : Int32)), s25]) (os0_190 hs24) ?_
  exact kt
theorem os0_190_ft {s0 : Slot} {s1 : Slot} {s2 : Slot} {s3 : Slot} {s4 : Slot} {s5 : Slot} {s6 : Slot} {z7 : Value} {z8 : Value} {s9 : Slot} {s10 : Slot} {s11 : Slot} {s12 : Slot} {s13 : Slot} {s14 : Slot} {s15 : Slot} {s16 : Slot} {s17 : Slot} {s18 : Slot} {s19 : Slot} {s20 : Slot} {s21 : Slot} {s22 : Slot} {s23 : Slot} {s24 : Slot} {s25 : Slot} {v : Int32} (h : One s24) : storeLocals #[s0, s1, s2, s3, s4, s5, s6, .val z7, .val z8, s9, s10, s11, s12, s13, s14, s15, s16, s17, s18, s19, s20, s21, s22, s23, s24, s25] 24 (.int v) = some #[s0, s1, s2, s3, s4, s5, s6, .val z7, .val z8, s9, s10, s11, s12, s13, s14, s15, s16, s17, s18, s19, s20, s21, s22, s23, .val (.int v), s25] := by
  rcases h with rfl | ⟨w, rfl, hw⟩
  · rfl
  · cases w <;> first | rfl | (simp [Value.category] at hw)
set_option maxRecDepth 65536 in
set_option maxHeartbeats 40000000 in
theorem tn0_155_192_ft {p : Program} {l : Launch} {e : Env} {R : Room} {s : State} {m : MethodId} {args : Array Value} {below : List Frame} {meth : Method} {c : Code} {T0 : State} {locs : List Loc} {cells slots : Nat} {Z : State} {a0 : Array Value} {h0 : Heap} (s0 : Slot) (s1 : Slot) (s2 : Slot) (s3 : Slot) (s4 : Slot) (s5 : Slot) (s6 : Slot) (i7 : Int32) (i8 : Int32) (s9 : Slot) (s10 : Slot) (s11 : Slot) (s12 : Slot) (s13 : Slot) (s14 : Slot) (s15 : Slot) (s16 : Slot) (s17 : Slot) (s18 : Slot) (s19 : Slot) (s20 : Slot) (s21 : Slot) (s22 : Slot) (s23 : Slot) (s24 : Slot) (s25 : Slot)
    (X0 : Stand p l e R s m args below meth c T0 locs cells slots) (hx : p.tables.exec = Jvm.exec) (hZ : Z.Warmed39 s.vm) (hw : ∀ d ∈ tables_1, d.before a0 Z = true) (hby : c.code = code) (hml : c.maxLocals = 26) (hown : s.vm.findClass "com/example/cablegram/cablegram/engine/EnvelopeIsPinLaw" = some m.cls) (e0 : T0.heap = h0) (hs24 : One s24) (hc157 : i7 = (0 : Int32)) (hc162 : ¬ (i8 = (0 : Int32))) :
    ∃ (T' : State), Stand p l e R s m args below meth c T' locs cells slots ∧ T'.heap = h0 ∧
      ∀ target, Steps p.tables e below (T'.setTop (mkF m 192 #[s0, s1, s2, s3, s4, s5, s6, .val (.int i7), .val (.int i8), s9, s10, s11, s12, s13, s14, s15, s16, s17, s18, s19, s20, s21, s22, s23, .val (.int (0 : Int32)), s25] [])) target → Steps p.tables e below (T0.setTop (mkF m 155 #[s0, s1, s2, s3, s4, s5, s6, .val (.int i7), .val (.int i8), s9, s10, s11, s12, s13, s14, s15, s16, s17, s18, s19, s20, s21, s22, s23, s24, s25] [])) target := by
  -- 3. LAWS

  refine ⟨T0, X0, e0, fun target kt => ?_⟩
  -- 4. STEPS
  show Steps p.tables e below (T0.setTop (mkF m 155 #[s0, s1, s2, s3, s4, s5, s6, .val (.int i7), .val (.int i8), s9, s10, s11, s12, s13, s14, s15, s16, s17, s18, s19, s20, s21, s22, s23, s24, s25] [])) _
  refine XS.iload X0.here hx rfl (hb hby at_155) rfl ?_
  show Steps p.tables e below (T0.setTop (mkF m 157 #[s0, s1, s2, s3, s4, s5, s6, .val (.int i7), .val (.int i8), s9, s10, s11, s12, s13, s14, s15, s16, s17, s18, s19, s20, s21, s22, s23, s24, s25] [(.int i7)])) _
  refine XS.ifNo X0.here hx rfl (hb hby at_157) rfl ((if0 _ _).trans (teq hc157).2) ?_
  show Steps p.tables e below (T0.setTop (mkF m 160 #[s0, s1, s2, s3, s4, s5, s6, .val (.int i7), .val (.int i8), s9, s10, s11, s12, s13, s14, s15, s16, s17, s18, s19, s20, s21, s22, s23, s24, s25] [])) _
  refine XS.iload X0.here hx rfl (hb hby at_160) rfl ?_
  show Steps p.tables e below (T0.setTop (mkF m 162 #[s0, s1, s2, s3, s4, s5, s6, .val (.int i7), .val (.int i8), s9, s10, s11, s12, s13, s14, s15, s16, s17, s18, s19, s20, s21, s22, s23, s24, s25] [(.int i8)])) _
  refine XS.ifYes X0.here hx rfl (pc0 := 162) (pc' := 189) rfl (hb hby at_162) rfl ((if0 _ _).trans (feq hc162).2) (by decide) (by decide) ?_
  show Steps p.tables e below (T0.setTop (mkF m 189 #[s0, s1, s2, s3, s4, s5, s6, .val (.int i7), .val (.int i8), s9, s10, s11, s12, s13, s14, s15, s16, s17, s18, s19, s20, s21, s22, s23, s24, s25] [])) _
  refine XS.iconst X0.here hx rfl (hb hby at_189) ?_
  show Steps p.tables e below (T0.setTop (mkF m 190 #[s0, s1, s2, s3, s4, s5, s6, .val (.int i7), .val (.int i8), s9, s10, s11, s12, s13, s14, s15, s16, s17, s18, s19, s20, s21, s22, s23, s24, s25] [(.int (0 : Int32))])) _
  refine XS.istore X0.here hx rfl (hb hby at_190) rfl (l' := #[s0, s1, s2, s3, s4, s5, s6, .val (.int i7), .val (.int i8), s9, s10, s11, s12, s13, s14, s15, s16, s17, s18, s19, s20, s21, s22, s23, .val (.int (0 : Int32)), s25]) (os0_190_ft hs24) ?_
  exact kt
theorem os0_190_fft {s0 : Slot} {s1 : Slot} {s2 : Slot} {s3 : Slot} {s4 : Slot} {s5 : Slot} {s6 : Slot} {z7 : Value} {z8 : Value} {z9 : Value} {s10 : Slot} {s11 : Slot} {s12 : Slot} {s13 : Slot} {s14 : Slot} {s15 : Slot} {s16 : Slot} {s17 : Slot} {s18 : Slot} {s19 : Slot} {s20 : Slot} {s21 : Slot} {s22 : Slot} {s23 : Slot} {s24 : Slot} {s25 : Slot} {v : Int32} (h : One s24) : storeLocals #[s0, s1, s2, s3, s4, s5, s6, .val z7, .val z8, .val z9, s10, s11, s12, s13, s14, s15, s16, s17, s18, s19, s20, s21, s22, s23, s24, s25] 24 (.int v) = some #[s0, s1, s2, s3, s4, s5, s6, .val z7, .val z8, .val z9, s10, s11, s12, s13, s14, s15, s16, s17, s18, s19, s20, s21, s22, s23, .val (.int v), s25] := by
  rcases h with rfl | ⟨w, rfl, hw⟩
  · rfl
  · cases w <;> first | rfl | (simp [Value.category] at hw)
set_option maxRecDepth 65536 in
set_option maxHeartbeats 40000000 in
theorem tn0_155_192_fft {p : Program} {l : Launch} {e : Env} {R : Room} {s : State} {m : MethodId} {args : Array Value} {below : List Frame} {meth : Method} {c : Code} {T0 : State} {locs : List Loc} {cells slots : Nat} {Z : State} {a0 : Array Value} {h0 : Heap} (s0 : Slot) (s1 : Slot) (s2 : Slot) (s3 : Slot) (s4 : Slot) (s5 : Slot) (s6 : Slot) (i7 : Int32) (i8 : Int32) (i9 : Int32) (s10 : Slot) (s11 : Slot) (s12 : Slot) (s13 : Slot) (s14 : Slot) (s15 : Slot) (s16 : Slot) (s17 : Slot) (s18 : Slot) (s19 : Slot) (s20 : Slot) (s21 : Slot) (s22 : Slot) (s23 : Slot) (s24 : Slot) (s25 : Slot)
    (X0 : Stand p l e R s m args below meth c T0 locs cells slots) (hx : p.tables.exec = Jvm.exec) (hZ : Z.Warmed39 s.vm) (hw : ∀ d ∈ tables_1, d.before a0 Z = true) (hby : c.code = code) (hml : c.maxLocals = 26) (hown : s.vm.findClass "com/example/cablegram/cablegram/engine/EnvelopeIsPinLaw" = some m.cls) (e0 : T0.heap = h0) (hs24 : One s24) (hc157 : i7 = (0 : Int32)) (hc162 : i8 = (0 : Int32)) (hc167 : ¬ (i9 = (0 : Int32))) :
    ∃ (T' : State), Stand p l e R s m args below meth c T' locs cells slots ∧ T'.heap = h0 ∧
      ∀ target, Steps p.tables e below (T'.setTop (mkF m 192 #[s0, s1, s2, s3, s4, s5, s6, .val (.int i7), .val (.int i8), .val (.int i9), s10, s11, s12, s13, s14, s15, s16, s17, s18, s19, s20, s21, s22, s23, .val (.int (0 : Int32)), s25] [])) target → Steps p.tables e below (T0.setTop (mkF m 155 #[s0, s1, s2, s3, s4, s5, s6, .val (.int i7), .val (.int i8), .val (.int i9), s10, s11, s12, s13, s14, s15, s16, s17, s18, s19, s20, s21, s22, s23, s24, s25] [])) target := by
  -- 3. LAWS

  refine ⟨T0, X0, e0, fun target kt => ?_⟩
  -- 4. STEPS
  show Steps p.tables e below (T0.setTop (mkF m 155 #[s0, s1, s2, s3, s4, s5, s6, .val (.int i7), .val (.int i8), .val (.int i9), s10, s11, s12, s13, s14, s15, s16, s17, s18, s19, s20, s21, s22, s23, s24, s25] [])) _
  refine XS.iload X0.here hx rfl (hb hby at_155) rfl ?_
  show Steps p.tables e below (T0.setTop (mkF m 157 #[s0, s1, s2, s3, s4, s5, s6, .val (.int i7), .val (.int i8), .val (.int i9), s10, s11, s12, s13, s14, s15, s16, s17, s18, s19, s20, s21, s22, s23, s24, s25] [(.int i7)])) _
  refine XS.ifNo X0.here hx rfl (hb hby at_157) rfl ((if0 _ _).trans (teq hc157).2) ?_
  show Steps p.tables e below (T0.setTop (mkF m 160 #[s0, s1, s2, s3, s4, s5, s6, .val (.int i7), .val (.int i8), .val (.int i9), s10, s11, s12, s13, s14, s15, s16, s17, s18, s19, s20, s21, s22, s23, s24, s25] [])) _
  refine XS.iload X0.here hx rfl (hb hby at_160) rfl ?_
  show Steps p.tables e below (T0.setTop (mkF m 162 #[s0, s1, s2, s3, s4, s5, s6, .val (.int i7), .val (.int i8), .val (.int i9), s10, s11, s12, s13, s14, s15, s16, s17, s18, s19, s20, s21, s22, s23, s24, s25] [(.int i8)])) _
  refine XS.ifNo X0.here hx rfl (hb hby at_162) rfl ((if0 _ _).trans (teq hc162).2) ?_
  show Steps p.tables e below (T0.setTop (mkF m 165 #[s0, s1, s2, s3, s4, s5, s6, .val (.int i7), .val (.int i8), .val (.int i9), s10, s11, s12, s13, s14, s15, s16, s17, s18, s19, s20, s21, s22, s23, s24, s25] [])) _
  refine XS.iload X0.here hx rfl (hb hby at_165) rfl ?_
  show Steps p.tables e below (T0.setTop (mkF m 167 #[s0, s1, s2, s3, s4, s5, s6, .val (.int i7), .val (.int i8), .val (.int i9), s10, s11, s12, s13, s14, s15, s16, s17, s18, s19, s20, s21, s22, s23, s24, s25] [(.int i9)])) _
  refine XS.ifYes X0.here hx rfl (pc0 := 167) (pc' := 189) rfl (hb hby at_167) rfl ((if0 _ _).trans (feq hc167).2) (by decide) (by decide) ?_
  show Steps p.tables e below (T0.setTop (mkF m 189 #[s0, s1, s2, s3, s4, s5, s6, .val (.int i7), .val (.int i8), .val (.int i9), s10, s11, s12, s13, s14, s15, s16, s17, s18, s19, s20, s21, s22, s23, s24, s25] [])) _
  refine XS.iconst X0.here hx rfl (hb hby at_189) ?_
  show Steps p.tables e below (T0.setTop (mkF m 190 #[s0, s1, s2, s3, s4, s5, s6, .val (.int i7), .val (.int i8), .val (.int i9), s10, s11, s12, s13, s14, s15, s16, s17, s18, s19, s20, s21, s22, s23, s24, s25] [(.int (0 : Int32))])) _
  refine XS.istore X0.here hx rfl (hb hby at_190) rfl (l' := #[s0, s1, s2, s3, s4, s5, s6, .val (.int i7), .val (.int i8), .val (.int i9), s10, s11, s12, s13, s14, s15, s16, s17, s18, s19, s20, s21, s22, s23, .val (.int (0 : Int32)), s25]) (os0_190_fft hs24) ?_
  exact kt
theorem os0_190_ffft {s0 : Slot} {s1 : Slot} {s2 : Slot} {s3 : Slot} {s4 : Slot} {s5 : Slot} {s6 : Slot} {z7 : Value} {z8 : Value} {z9 : Value} {z10 : Value} {s11 : Slot} {s12 : Slot} {s13 : Slot} {s14 : Slot} {s15 : Slot} {s16 : Slot} {s17 : Slot} {s18 : Slot} {s19 : Slot} {s20 : Slot} {s21 : Slot} {s22 : Slot} {s23 : Slot} {s24 : Slot} {s25 : Slot} {v : Int32} (h : One s24) : storeLocals #[s0, s1, s2, s3, s4, s5, s6, .val z7, .val z8, .val z9, .val z10, s11, s12, s13, s14, s15, s16, s17, s18, s19, s20, s21, s22, s23, s24, s25] 24 (.int v) = some #[s0, s1, s2, s3, s4, s5, s6, .val z7, .val z8, .val z9, .val z10, s11, s12, s13, s14, s15, s16, s17, s18, s19, s20, s21, s22, s23, .val (.int v), s25] := by
  rcases h with rfl | ⟨w, rfl, hw⟩
  · rfl
  · cases w <;> first | rfl | (simp [Value.category] at hw)
set_option maxRecDepth 65536 in
set_option maxHeartbeats 40000000 in
theorem tn0_155_192_ffft {p : Program} {l : Launch} {e : Env} {R : Room} {s : State} {m : MethodId} {args : Array Value} {below : List Frame} {meth : Method} {c : Code} {T0 : State} {locs : List Loc} {cells slots : Nat} {Z : State} {a0 : Array Value} {h0 : Heap} (s0 : Slot) (s1 : Slot) (s2 : Slot) (s3 : Slot) (s4 : Slot) (s5 : Slot) (s6 : Slot) (i7 : Int32) (i8 : Int32) (i9 : Int32) (i10 : Int32) (s11 : Slot) (s12 : Slot) (s13 : Slot) (s14 : Slot) (s15 : Slot) (s16 : Slot) (s17 : Slot) (s18 : Slot) (s19 : Slot) (s20 : Slot) (s21 : Slot) (s22 : Slot) (s23 : Slot) (s24 : Slot) (s25 : Slot)
    (X0 : Stand p l e R s m args below meth c T0 locs cells slots) (hx : p.tables.exec = Jvm.exec) (hZ : Z.Warmed39 s.vm) (hw : ∀ d ∈ tables_1, d.before a0 Z = true) (hby : c.code = code) (hml : c.maxLocals = 26) (hown : s.vm.findClass "com/example/cablegram/cablegram/engine/EnvelopeIsPinLaw" = some m.cls) (e0 : T0.heap = h0) (hs24 : One s24) (hc157 : i7 = (0 : Int32)) (hc162 : i8 = (0 : Int32)) (hc167 : i9 = (0 : Int32)) (hc172 : ¬ (i10 = (0 : Int32))) :
    ∃ (T' : State), Stand p l e R s m args below meth c T' locs cells slots ∧ T'.heap = h0 ∧
      ∀ target, Steps p.tables e below (T'.setTop (mkF m 192 #[s0, s1, s2, s3, s4, s5, s6, .val (.int i7), .val (.int i8), .val (.int i9), .val (.int i10), s11, s12, s13, s14, s15, s16, s17, s18, s19, s20, s21, s22, s23, .val (.int (0 : Int32)), s25] [])) target → Steps p.tables e below (T0.setTop (mkF m 155 #[s0, s1, s2, s3, s4, s5, s6, .val (.int i7), .val (.int i8), .val (.int i9), .val (.int i10), s11, s12, s13, s14, s15, s16, s17, s18, s19, s20, s21, s22, s23, s24, s25] [])) target := by
  -- 3. LAWS

  refine ⟨T0, X0, e0, fun target kt => ?_⟩
  -- 4. STEPS
  show Steps p.tables e below (T0.setTop (mkF m 155 #[s0, s1, s2, s3, s4, s5, s6, .val (.int i7), .val (.int i8), .val (.int i9), .val (.int i10), s11, s12, s13, s14, s15, s16, s17, s18, s19, s20, s21, s22, s23, s24, s25] [])) _
  refine XS.iload X0.here hx rfl (hb hby at_155) rfl ?_
  show Steps p.tables e below (T0.setTop (mkF m 157 #[s0, s1, s2, s3, s4, s5, s6, .val (.int i7), .val (.int i8), .val (.int i9), .val (.int i10), s11, s12, s13, s14, s15, s16, s17, s18, s19, s20, s21, s22, s23, s24, s25] [(.int i7)])) _
  refine XS.ifNo X0.here hx rfl (hb hby at_157) rfl ((if0 _ _).trans (teq hc157).2) ?_
  show Steps p.tables e below (T0.setTop (mkF m 160 #[s0, s1, s2, s3, s4, s5, s6, .val (.int i7), .val (.int i8), .val (.int i9), .val (.int i10), s11, s12, s13, s14, s15, s16, s17, s18, s19, s20, s21, s22, s23, s24, s25] [])) _
  refine XS.iload X0.here hx rfl (hb hby at_160) rfl ?_
  show Steps p.tables e below (T0.setTop (mkF m 162 #[s0, s1, s2, s3, s4, s5, s6, .val (.int i7), .val (.int i8), .val (.int i9), .val (.int i10), s11, s12, s13, s14, s15, s16, s17, s18, s19, s20, s21, s22, s23, s24, s25] [(.int i8)])) _
  refine XS.ifNo X0.here hx rfl (hb hby at_162) rfl ((if0 _ _).trans (teq hc162).2) ?_
  show Steps p.tables e below (T0.setTop (mkF m 165 #[s0, s1, s2, s3, s4, s5, s6, .val (.int i7), .val (.int i8), .val (.int i9), .val (.int i10), s11, s12, s13, s14, s15, s16, s17, s18, s19, s20, s21, s22, s23, s24, s25] [])) _
  refine XS.iload X0.here hx rfl (hb hby at_165) rfl ?_
  show Steps p.tables e below (T0.setTop (mkF m 167 #[s0, s1, s2, s3, s4, s5, s6, .val (.int i7), .val (.int i8), .val (.int i9), .val (.int i10), s11, s12, s13, s14, s15, s16, s17, s18, s19, s20, s21, s22, s23, s24, s25] [(.int i9)])) _
  refine XS.ifNo X0.here hx rfl (hb hby at_167) rfl ((if0 _ _).trans (teq hc167).2) ?_
  show Steps p.tables e below (T0.setTop (mkF m 170 #[s0, s1, s2, s3, s4, s5, s6, .val (.int i7), .val (.int i8), .val (.int i9), .val (.int i10), s11, s12, s13, s14, s15, s16, s17, s18, s19, s20, s21, s22, s23, s24, s25] [])) _
  refine XS.iload X0.here hx rfl (hb hby at_170) rfl ?_
  show Steps p.tables e below (T0.setTop (mkF m 172 #[s0, s1, s2, s3, s4, s5, s6, .val (.int i7), .val (.int i8), .val (.int i9), .val (.int i10), s11, s12, s13, s14, s15, s16, s17, s18, s19, s20, s21, s22, s23, s24, s25] [(.int i10)])) _
  refine XS.ifYes X0.here hx rfl (pc0 := 172) (pc' := 189) rfl (hb hby at_172) rfl ((if0 _ _).trans (feq hc172).2) (by decide) (by decide) ?_
  show Steps p.tables e below (T0.setTop (mkF m 189 #[s0, s1, s2, s3, s4, s5, s6, .val (.int i7), .val (.int i8), .val (.int i9), .val (.int i10), s11, s12, s13, s14, s15, s16, s17, s18, s19, s20, s21, s22, s23, s24, s25] [])) _
  refine XS.iconst X0.here hx rfl (hb hby at_189) ?_
  show Steps p.tables e below (T0.setTop (mkF m 190 #[s0, s1, s2, s3, s4, s5, s6, .val (.int i7), .val (.int i8), .val (.int i9), .val (.int i10), s11, s12, s13, s14, s15, s16, s17, s18, s19, s20, s21, s22, s23, s24, s25] [(.int (0 : Int32))])) _
  refine XS.istore X0.here hx rfl (hb hby at_190) rfl (l' := #[s0, s1, s2, s3, s4, s5, s6, .val (.int i7), .val (.int i8), .val (.int i9), .val (.int i10), s11, s12, s13, s14, s15, s16, s17, s18, s19, s20, s21, s22, s23, .val (.int (0 : Int32)), s25]) (os0_190_ffft hs24) ?_
  exact kt
theorem os0_190_fffft {s0 : Slot} {s1 : Slot} {s2 : Slot} {s3 : Slot} {s4 : Slot} {s5 : Slot} {s6 : Slot} {z7 : Value} {z8 : Value} {z9 : Value} {z10 : Value} {z11 : Value} {s12 : Slot} {s13 : Slot} {s14 : Slot} {s15 : Slot} {s16 : Slot} {s17 : Slot} {s18 : Slot} {s19 : Slot} {s20 : Slot} {s21 : Slot} {s22 : Slot} {s23 : Slot} {s24 : Slot} {s25 : Slot} {v : Int32} (h : One s24) : storeLocals #[s0, s1, s2, s3, s4, s5, s6, .val z7, .val z8, .val z9, .val z10, .val z11, s12, s13, s14, s15, s16, s17, s18, s19, s20, s21, s22, s23, s24, s25] 24 (.int v) = some #[s0, s1, s2, s3, s4, s5, s6, .val z7, .val z8, .val z9, .val z10, .val z11, s12, s13, s14, s15, s16, s17, s18, s19, s20, s21, s22, s23, .val (.int v), s25] := by
  rcases h with rfl | ⟨w, rfl, hw⟩
  · rfl
  · cases w <;> first | rfl | (simp [Value.category] at hw)
set_option maxRecDepth 65536 in
set_option maxHeartbeats 40000000 in
theorem tn0_155_192_fffft {p : Program} {l : Launch} {e : Env} {R : Room} {s : State} {m : MethodId} {args : Array Value} {below : List Frame} {meth : Method} {c : Code} {T0 : State} {locs : List Loc} {cells slots : Nat} {Z : State} {a0 : Array Value} {h0 : Heap} (s0 : Slot) (s1 : Slot) (s2 : Slot) (s3 : Slot) (s4 : Slot) (s5 : Slot) (s6 : Slot) (i7 : Int32) (i8 : Int32) (i9 : Int32) (i10 : Int32) (i11 : Int32) (s12 : Slot) (s13 : Slot) (s14 : Slot) (s15 : Slot) (s16 : Slot) (s17 : Slot) (s18 : Slot) (s19 : Slot) (s20 : Slot) (s21 : Slot) (s22 : Slot) (s23 : Slot) (s24 : Slot) (s25 : Slot)
    (X0 : Stand p l e R s m args below meth c T0 locs cells slots) (hx : p.tables.exec = Jvm.exec) (hZ : Z.Warmed39 s.vm) (hw : ∀ d ∈ tables_1, d.before a0 Z = true) (hby : c.code = code) (hml : c.maxLocals = 26) (hown : s.vm.findClass "com/example/cablegram/cablegram/engine/EnvelopeIsPinLaw" = some m.cls) (e0 : T0.heap = h0) (hs24 : One s24) (hc157 : i7 = (0 : Int32)) (hc162 : i8 = (0 : Int32)) (hc167 : i9 = (0 : Int32)) (hc172 : i10 = (0 : Int32)) (hc177 : ¬ (i11 = (0 : Int32))) :
    ∃ (T' : State), Stand p l e R s m args below meth c T' locs cells slots ∧ T'.heap = h0 ∧
      ∀ target, Steps p.tables e below (T'.setTop (mkF m 192 #[s0, s1, s2, s3, s4, s5, s6, .val (.int i7), .val (.int i8), .val (.int i9), .val (.int i10), .val (.int i11), s12, s13, s14, s15, s16, s17, s18, s19, s20, s21, s22, s23, .val (.int (0 : Int32)), s25] [])) target → Steps p.tables e below (T0.setTop (mkF m 155 #[s0, s1, s2, s3, s4, s5, s6, .val (.int i7), .val (.int i8), .val (.int i9), .val (.int i10), .val (.int i11), s12, s13, s14, s15, s16, s17, s18, s19, s20, s21, s22, s23, s24, s25] [])) target := by
  -- 3. LAWS

  refine ⟨T0, X0, e0, fun target kt => ?_⟩
  -- 4. STEPS
  show Steps p.tables e below (T0.setTop (mkF m 155 #[s0, s1, s2, s3, s4, s5, s6, .val (.int i7), .val (.int i8), .val (.int i9), .val (.int i10), .val (.int i11), s12, s13, s14, s15, s16, s17, s18, s19, s20, s21, s22, s23, s24, s25] [])) _
  refine XS.iload X0.here hx rfl (hb hby at_155) rfl ?_
  show Steps p.tables e below (T0.setTop (mkF m 157 #[s0, s1, s2, s3, s4, s5, s6, .val (.int i7), .val (.int i8), .val (.int i9), .val (.int i10), .val (.int i11), s12, s13, s14, s15, s16, s17, s18, s19, s20, s21, s22, s23, s24, s25] [(.int i7)])) _
  refine XS.ifNo X0.here hx rfl (hb hby at_157) rfl ((if0 _ _).trans (teq hc157).2) ?_
  show Steps p.tables e below (T0.setTop (mkF m 160 #[s0, s1, s2, s3, s4, s5, s6, .val (.int i7), .val (.int i8), .val (.int i9), .val (.int i10), .val (.int i11), s12, s13, s14, s15, s16, s17, s18, s19, s20, s21, s22, s23, s24, s25] [])) _
  refine XS.iload X0.here hx rfl (hb hby at_160) rfl ?_
  show Steps p.tables e below (T0.setTop (mkF m 162 #[s0, s1, s2, s3, s4, s5, s6, .val (.int i7), .val (.int i8), .val (.int i9), .val (.int i10), .val (.int i11), s12, s13, s14, s15, s16, s17, s18, s19, s20, s21, s22, s23, s24, s25] [(.int i8)])) _
  refine XS.ifNo X0.here hx rfl (hb hby at_162) rfl ((if0 _ _).trans (teq hc162).2) ?_
  show Steps p.tables e below (T0.setTop (mkF m 165 #[s0, s1, s2, s3, s4, s5, s6, .val (.int i7), .val (.int i8), .val (.int i9), .val (.int i10), .val (.int i11), s12, s13, s14, s15, s16, s17, s18, s19, s20, s21, s22, s23, s24, s25] [])) _
  refine XS.iload X0.here hx rfl (hb hby at_165) rfl ?_
  show Steps p.tables e below (T0.setTop (mkF m 167 #[s0, s1, s2, s3, s4, s5, s6, .val (.int i7), .val (.int i8), .val (.int i9), .val (.int i10), .val (.int i11), s12, s13, s14, s15, s16, s17, s18, s19, s20, s21, s22, s23, s24, s25] [(.int i9)])) _
  refine XS.ifNo X0.here hx rfl (hb hby at_167) rfl ((if0 _ _).trans (teq hc167).2) ?_
  show Steps p.tables e below (T0.setTop (mkF m 170 #[s0, s1, s2, s3, s4, s5, s6, .val (.int i7), .val (.int i8), .val (.int i9), .val (.int i10), .val (.int i11), s12, s13, s14, s15, s16, s17, s18, s19, s20, s21, s22, s23, s24, s25] [])) _
  refine XS.iload X0.here hx rfl (hb hby at_170) rfl ?_
  show Steps p.tables e below (T0.setTop (mkF m 172 #[s0, s1, s2, s3, s4, s5, s6, .val (.int i7), .val (.int i8), .val (.int i9), .val (.int i10), .val (.int i11), s12, s13, s14, s15, s16, s17, s18, s19, s20, s21, s22, s23, s24, s25] [(.int i10)])) _
  refine XS.ifNo X0.here hx rfl (hb hby at_172) rfl ((if0 _ _).trans (teq hc172).2) ?_
  show Steps p.tables e below (T0.setTop (mkF m 175 #[s0, s1, s2, s3, s4, s5, s6, .val (.int i7), .val (.int i8), .val (.int i9), .val (.int i10), .val (.int i11), s12, s13, s14, s15, s16, s17, s18, s19, s20, s21, s22, s23, s24, s25] [])) _
  refine XS.iload X0.here hx rfl (hb hby at_175) rfl ?_
  show Steps p.tables e below (T0.setTop (mkF m 177 #[s0, s1, s2, s3, s4, s5, s6, .val (.int i7), .val (.int i8), .val (.int i9), .val (.int i10), .val (.int i11), s12, s13, s14, s15, s16, s17, s18, s19, s20, s21, s22, s23, s24, s25] [(.int i11)])) _
  refine XS.ifYes X0.here hx rfl (pc0 := 177) (pc' := 189) rfl (hb hby at_177) rfl ((if0 _ _).trans (feq hc177).2) (by decide) (by decide) ?_
  show Steps p.tables e below (T0.setTop (mkF m 189 #[s0, s1, s2, s3, s4, s5, s6, .val (.int i7), .val (.int i8), .val (.int i9), .val (.int i10), .val (.int i11), s12, s13, s14, s15, s16, s17, s18, s19, s20, s21, s22, s23, s24, s25] [])) _
  refine XS.iconst X0.here hx rfl (hb hby at_189) ?_
  show Steps p.tables e below (T0.setTop (mkF m 190 #[s0, s1, s2, s3, s4, s5, s6, .val (.int i7), .val (.int i8), .val (.int i9), .val (.int i10), .val (.int i11), s12, s13, s14, s15, s16, s17, s18, s19, s20, s21, s22, s23, s24, s25] [(.int (0 : Int32))])) _
  refine XS.istore X0.here hx rfl (hb hby at_190) rfl (l' := #[s0, s1, s2, s3, s4, s5, s6, .val (.int i7), .val (.int i8), .val (.int i9), .val (.int i10), .val (.int i11), s12, s13, s14, s15, s16, s17, s18, s19, s20, s21, s22, s23, .val (.int (0 : Int32)), s25]) (os0_190_fffft hs24) ?_
  exact kt
theorem os0_190_ffffft {s0 : Slot} {s1 : Slot} {s2 : Slot} {s3 : Slot} {s4 : Slot} {s5 : Slot} {s6 : Slot} {z7 : Value} {z8 : Value} {z9 : Value} {z10 : Value} {z11 : Value} {s12 : Slot} {z13 : Value} {s14 : Slot} {s15 : Slot} {s16 : Slot} {s17 : Slot} {s18 : Slot} {s19 : Slot} {s20 : Slot} {s21 : Slot} {s22 : Slot} {s23 : Slot} {s24 : Slot} {s25 : Slot} {v : Int32} (h : One s24) : storeLocals #[s0, s1, s2, s3, s4, s5, s6, .val z7, .val z8, .val z9, .val z10, .val z11, s12, .val z13, s14, s15, s16, s17, s18, s19, s20, s21, s22, s23, s24, s25] 24 (.int v) = some #[s0, s1, s2, s3, s4, s5, s6, .val z7, .val z8, .val z9, .val z10, .val z11, s12, .val z13, s14, s15, s16, s17, s18, s19, s20, s21, s22, s23, .val (.int v), s25] := by
  rcases h with rfl | ⟨w, rfl, hw⟩
  · rfl
  · cases w <;> first | rfl | (simp [Value.category] at hw)
set_option maxRecDepth 65536 in
set_option maxHeartbeats 40000000 in
theorem tn0_155_192_ffffft {p : Program} {l : Launch} {e : Env} {R : Room} {s : State} {m : MethodId} {args : Array Value} {below : List Frame} {meth : Method} {c : Code} {T0 : State} {locs : List Loc} {cells slots : Nat} {Z : State} {a0 : Array Value} {h0 : Heap} (s0 : Slot) (s1 : Slot) (s2 : Slot) (s3 : Slot) (s4 : Slot) (s5 : Slot) (s6 : Slot) (i7 : Int32) (i8 : Int32) (i9 : Int32) (i10 : Int32) (i11 : Int32) (s12 : Slot) (i13 : Int32) (s14 : Slot) (s15 : Slot) (s16 : Slot) (s17 : Slot) (s18 : Slot) (s19 : Slot) (s20 : Slot) (s21 : Slot) (s22 : Slot) (s23 : Slot) (s24 : Slot) (s25 : Slot)
    (X0 : Stand p l e R s m args below meth c T0 locs cells slots) (hx : p.tables.exec = Jvm.exec) (hZ : Z.Warmed39 s.vm) (hw : ∀ d ∈ tables_1, d.before a0 Z = true) (hby : c.code = code) (hml : c.maxLocals = 26) (hown : s.vm.findClass "com/example/cablegram/cablegram/engine/EnvelopeIsPinLaw" = some m.cls) (e0 : T0.heap = h0) (hs24 : One s24) (hc157 : i7 = (0 : Int32)) (hc162 : i8 = (0 : Int32)) (hc167 : i9 = (0 : Int32)) (hc172 : i10 = (0 : Int32)) (hc177 : i11 = (0 : Int32)) (hc182 : ¬ (i13 = (0 : Int32))) :
    ∃ (T' : State), Stand p l e R s m args below meth c T' locs cells slots ∧ T'.heap = h0 ∧
      ∀ target, Steps p.tables e below (T'.setTop (mkF m 192 #[s0, s1, s2, s3, s4, s5, s6, .val (.int i7), .val (.int i8), .val (.int i9), .val (.int i10), .val (.int i11), s12, .val (.int i13), s14, s15, s16, s17, s18, s19, s20, s21, s22, s23, .val (.int (0 : Int32)), s25] [])) target → Steps p.tables e below (T0.setTop (mkF m 155 #[s0, s1, s2, s3, s4, s5, s6, .val (.int i7), .val (.int i8), .val (.int i9), .val (.int i10), .val (.int i11), s12, .val (.int i13), s14, s15, s16, s17, s18, s19, s20, s21, s22, s23, s24, s25] [])) target := by
  -- 3. LAWS

  refine ⟨T0, X0, e0, fun target kt => ?_⟩
  -- 4. STEPS
  show Steps p.tables e below (T0.setTop (mkF m 155 #[s0, s1, s2, s3, s4, s5, s6, .val (.int i7), .val (.int i8), .val (.int i9), .val (.int i10), .val (.int i11), s12, .val (.int i13), s14, s15, s16, s17, s18, s19, s20, s21, s22, s23, s24, s25] [])) _
  refine XS.iload X0.here hx rfl (hb hby at_155) rfl ?_
  show Steps p.tables e below (T0.setTop (mkF m 157 #[s0, s1, s2, s3, s4, s5, s6, .val (.int i7), .val (.int i8), .val (.int i9), .val (.int i10), .val (.int i11), s12, .val (.int i13), s14, s15, s16, s17, s18, s19, s20, s21, s22, s23, s24, s25] [(.int i7)])) _
  refine XS.ifNo X0.here hx rfl (hb hby at_157) rfl ((if0 _ _).trans (teq hc157).2) ?_
  show Steps p.tables e below (T0.setTop (mkF m 160 #[s0, s1, s2, s3, s4, s5, s6, .val (.int i7), .val (.int i8), .val (.int i9), .val (.int i10), .val (.int i11), s12, .val (.int i13), s14, s15, s16, s17, s18, s19, s20, s21, s22, s23, s24, s25] [])) _
  refine XS.iload X0.here hx rfl (hb hby at_160) rfl ?_
  show Steps p.tables e below (T0.setTop (mkF m 162 #[s0, s1, s2, s3, s4, s5, s6, .val (.int i7), .val (.int i8), .val (.int i9), .val (.int i10), .val (.int i11), s12, .val (.int i13), s14, s15, s16, s17, s18, s19, s20, s21, s22, s23, s24, s25] [(.int i8)])) _
  refine XS.ifNo X0.here hx rfl (hb hby at_162) rfl ((if0 _ _).trans (teq hc162).2) ?_
  show Steps p.tables e below (T0.setTop (mkF m 165 #[s0, s1, s2, s3, s4, s5, s6, .val (.int i7), .val (.int i8), .val (.int i9), .val (.int i10), .val (.int i11), s12, .val (.int i13), s14, s15, s16, s17, s18, s19, s20, s21, s22, s23, s24, s25] [])) _
  refine XS.iload X0.here hx rfl (hb hby at_165) rfl ?_
  show Steps p.tables e below (T0.setTop (mkF m 167 #[s0, s1, s2, s3, s4, s5, s6, .val (.int i7), .val (.int i8), .val (.int i9), .val (.int i10), .val (.int i11), s12, .val (.int i13), s14, s15, s16, s17, s18, s19, s20, s21, s22, s23, s24, s25] [(.int i9)])) _
  refine XS.ifNo X0.here hx rfl (hb hby at_167) rfl ((if0 _ _).trans (teq hc167).2) ?_
  show Steps p.tables e below (T0.setTop (mkF m 170 #[s0, s1, s2, s3, s4, s5, s6, .val (.int i7), .val (.int i8), .val (.int i9), .val (.int i10), .val (.int i11), s12, .val (.int i13), s14, s15, s16, s17, s18, s19, s20, s21, s22, s23, s24, s25] [])) _
  refine XS.iload X0.here hx rfl (hb hby at_170) rfl ?_
  show Steps p.tables e below (T0.setTop (mkF m 172 #[s0, s1, s2, s3, s4, s5, s6, .val (.int i7), .val (.int i8), .val (.int i9), .val (.int i10), .val (.int i11), s12, .val (.int i13), s14, s15, s16, s17, s18, s19, s20, s21, s22, s23, s24, s25] [(.int i10)])) _
  refine XS.ifNo X0.here hx rfl (hb hby at_172) rfl ((if0 _ _).trans (teq hc172).2) ?_
  show Steps p.tables e below (T0.setTop (mkF m 175 #[s0, s1, s2, s3, s4, s5, s6, .val (.int i7), .val (.int i8), .val (.int i9), .val (.int i10), .val (.int i11), s12, .val (.int i13), s14, s15, s16, s17, s18, s19, s20, s21, s22, s23, s24, s25] [])) _
  refine XS.iload X0.here hx rfl (hb hby at_175) rfl ?_
  show Steps p.tables e below (T0.setTop (mkF m 177 #[s0, s1, s2, s3, s4, s5, s6, .val (.int i7), .val (.int i8), .val (.int i9), .val (.int i10), .val (.int i11), s12, .val (.int i13), s14, s15, s16, s17, s18, s19, s20, s21, s22, s23, s24, s25] [(.int i11)])) _
  refine XS.ifNo X0.here hx rfl (hb hby at_177) rfl ((if0 _ _).trans (teq hc177).2) ?_
  show Steps p.tables e below (T0.setTop (mkF m 180 #[s0, s1, s2, s3, s4, s5, s6, .val (.int i7), .val (.int i8), .val (.int i9), .val (.int i10), .val (.int i11), s12, .val (.int i13), s14, s15, s16, s17, s18, s19, s20, s21, s22, s23, s24, s25] [])) _
  refine XS.iload X0.here hx rfl (hb hby at_180) rfl ?_
  show Steps p.tables e below (T0.setTop (mkF m 182 #[s0, s1, s2, s3, s4, s5, s6, .val (.int i7), .val (.int i8), .val (.int i9), .val (.int i10), .val (.int i11), s12, .val (.int i13), s14, s15, s16, s17, s18, s19, s20, s21, s22, s23, s24, s25] [(.int i13)])) _
  refine XS.ifYes X0.here hx rfl (pc0 := 182) (pc' := 189) rfl (hb hby at_182) rfl ((if0 _ _).trans (feq hc182).2) (by decide) (by decide) ?_
  show Steps p.tables e below (T0.setTop (mkF m 189 #[s0, s1, s2, s3, s4, s5, s6, .val (.int i7), .val (.int i8), .val (.int i9), .val (.int i10), .val (.int i11), s12, .val (.int i13), s14, s15, s16, s17, s18, s19, s20, s21, s22, s23, s24, s25] [])) _
  refine XS.iconst X0.here hx rfl (hb hby at_189) ?_
  show Steps p.tables e below (T0.setTop (mkF m 190 #[s0, s1, s2, s3, s4, s5, s6, .val (.int i7), .val (.int i8), .val (.int i9), .val (.int i10), .val (.int i11), s12, .val (.int i13), s14, s15, s16, s17, s18, s19, s20, s21, s22, s23, s24, s25] [(.int (0 : Int32))])) _
  refine XS.istore X0.here hx rfl (hb hby at_190) rfl (l' := #[s0, s1, s2, s3, s4, s5, s6, .val (.int i7), .val (.int i8), .val (.int i9), .val (.int i10), .val (.int i11), s12, .val (.int i13), s14, s15, s16, s17, s18, s19, s20, s21, s22, s23, .val (.int (0 : Int32)), s25]) (os0_190_ffffft hs24) ?_
  exact kt
theorem os0_190_ffffff {s0 : Slot} {s1 : Slot} {s2 : Slot} {s3 : Slot} {s4 : Slot} {s5 : Slot} {s6 : Slot} {z7 : Value} {z8 : Value} {z9 : Value} {z10 : Value} {z11 : Value} {s12 : Slot} {z13 : Value} {s14 : Slot} {s15 : Slot} {s16 : Slot} {s17 : Slot} {s18 : Slot} {s19 : Slot} {s20 : Slot} {s21 : Slot} {s22 : Slot} {s23 : Slot} {s24 : Slot} {s25 : Slot} {v : Int32} (h : One s24) : storeLocals #[s0, s1, s2, s3, s4, s5, s6, .val z7, .val z8, .val z9, .val z10, .val z11, s12, .val z13, s14, s15, s16, s17, s18, s19, s20, s21, s22, s23, s24, s25] 24 (.int v) = some #[s0, s1, s2, s3, s4, s5, s6, .val z7, .val z8, .val z9, .val z10, .val z11, s12, .val z13, s14, s15, s16, s17, s18, s19, s20, s21, s22, s23, .val (.int v), s25] := by
  rcases h with rfl | ⟨w, rfl, hw⟩
  · rfl
  · cases w <;> first | rfl | (simp [Value.category] at hw)
set_option maxRecDepth 65536 in
set_option maxHeartbeats 40000000 in
theorem tn0_155_192_ffffff {p : Program} {l : Launch} {e : Env} {R : Room} {s : State} {m : MethodId} {args : Array Value} {below : List Frame} {meth : Method} {c : Code} {T0 : State} {locs : List Loc} {cells slots : Nat} {Z : State} {a0 : Array Value} {h0 : Heap} (s0 : Slot) (s1 : Slot) (s2 : Slot) (s3 : Slot) (s4 : Slot) (s5 : Slot) (s6 : Slot) (i7 : Int32) (i8 : Int32) (i9 : Int32) (i10 : Int32) (i11 : Int32) (s12 : Slot) (i13 : Int32) (s14 : Slot) (s15 : Slot) (s16 : Slot) (s17 : Slot) (s18 : Slot) (s19 : Slot) (s20 : Slot) (s21 : Slot) (s22 : Slot) (s23 : Slot) (s24 : Slot) (s25 : Slot)
    (X0 : Stand p l e R s m args below meth c T0 locs cells slots) (hx : p.tables.exec = Jvm.exec) (hZ : Z.Warmed39 s.vm) (hw : ∀ d ∈ tables_1, d.before a0 Z = true) (hby : c.code = code) (hml : c.maxLocals = 26) (hown : s.vm.findClass "com/example/cablegram/cablegram/engine/EnvelopeIsPinLaw" = some m.cls) (e0 : T0.heap = h0) (hs24 : One s24) (hc157 : i7 = (0 : Int32)) (hc162 : i8 = (0 : Int32)) (hc167 : i9 = (0 : Int32)) (hc172 : i10 = (0 : Int32)) (hc177 : i11 = (0 : Int32)) (hc182 : i13 = (0 : Int32)) :
    ∃ (T' : State), Stand p l e R s m args below meth c T' locs cells slots ∧ T'.heap = h0 ∧
      ∀ target, Steps p.tables e below (T'.setTop (mkF m 192 #[s0, s1, s2, s3, s4, s5, s6, .val (.int i7), .val (.int i8), .val (.int i9), .val (.int i10), .val (.int i11), s12, .val (.int i13), s14, s15, s16, s17, s18, s19, s20, s21, s22, s23, .val (.int (1 : Int32)), s25] [])) target → Steps p.tables e below (T0.setTop (mkF m 155 #[s0, s1, s2, s3, s4, s5, s6, .val (.int i7), .val (.int i8), .val (.int i9), .val (.int i10), .val (.int i11), s12, .val (.int i13), s14, s15, s16, s17, s18, s19, s20, s21, s22, s23, s24, s25] [])) target := by
  -- 3. LAWS

  refine ⟨T0, X0, e0, fun target kt => ?_⟩
  -- 4. STEPS
  show Steps p.tables e below (T0.setTop (mkF m 155 #[s0, s1, s2, s3, s4, s5, s6, .val (.int i7), .val (.int i8), .val (.int i9), .val (.int i10), .val (.int i11), s12, .val (.int i13), s14, s15, s16, s17, s18, s19, s20, s21, s22, s23, s24, s25] [])) _
  refine XS.iload X0.here hx rfl (hb hby at_155) rfl ?_
  show Steps p.tables e below (T0.setTop (mkF m 157 #[s0, s1, s2, s3, s4, s5, s6, .val (.int i7), .val (.int i8), .val (.int i9), .val (.int i10), .val (.int i11), s12, .val (.int i13), s14, s15, s16, s17, s18, s19, s20, s21, s22, s23, s24, s25] [(.int i7)])) _
  refine XS.ifNo X0.here hx rfl (hb hby at_157) rfl ((if0 _ _).trans (teq hc157).2) ?_
  show Steps p.tables e below (T0.setTop (mkF m 160 #[s0, s1, s2, s3, s4, s5, s6, .val (.int i7), .val (.int i8), .val (.int i9), .val (.int i10), .val (.int i11), s12, .val (.int i13), s14, s15, s16, s17, s18, s19, s20, s21, s22, s23, s24, s25] [])) _
  refine XS.iload X0.here hx rfl (hb hby at_160) rfl ?_
  show Steps p.tables e below (T0.setTop (mkF m 162 #[s0, s1, s2, s3, s4, s5, s6, .val (.int i7), .val (.int i8), .val (.int i9), .val (.int i10), .val (.int i11), s12, .val (.int i13), s14, s15, s16, s17, s18, s19, s20, s21, s22, s23, s24, s25] [(.int i8)])) _
  refine XS.ifNo X0.here hx rfl (hb hby at_162) rfl ((if0 _ _).trans (teq hc162).2) ?_
  show Steps p.tables e below (T0.setTop (mkF m 165 #[s0, s1, s2, s3, s4, s5, s6, .val (.int i7), .val (.int i8), .val (.int i9), .val (.int i10), .val (.int i11), s12, .val (.int i13), s14, s15, s16, s17, s18, s19, s20, s21, s22, s23, s24, s25] [])) _
  refine XS.iload X0.here hx rfl (hb hby at_165) rfl ?_
  show Steps p.tables e below (T0.setTop (mkF m 167 #[s0, s1, s2, s3, s4, s5, s6, .val (.int i7), .val (.int i8), .val (.int i9), .val (.int i10), .val (.int i11), s12, .val (.int i13), s14, s15, s16, s17, s18, s19, s20, s21, s22, s23, s24, s25] [(.int i9)])) _
  refine XS.ifNo X0.here hx rfl (hb hby at_167) rfl ((if0 _ _).trans (teq hc167).2) ?_
  show Steps p.tables e below (T0.setTop (mkF m 170 #[s0, s1, s2, s3, s4, s5, s6, .val (.int i7), .val (.int i8), .val (.int i9), .val (.int i10), .val (.int i11), s12, .val (.int i13), s14, s15, s16, s17, s18, s19, s20, s21, s22, s23, s24, s25] [])) _
  refine XS.iload X0.here hx rfl (hb hby at_170) rfl ?_
  show Steps p.tables e below (T0.setTop (mkF m 172 #[s0, s1, s2, s3, s4, s5, s6, .val (.int i7), .val (.int i8), .val (.int i9), .val (.int i10), .val (.int i11), s12, .val (.int i13), s14, s15, s16, s17, s18, s19, s20, s21, s22, s23, s24, s25] [(.int i10)])) _
  refine XS.ifNo X0.here hx rfl (hb hby at_172) rfl ((if0 _ _).trans (teq hc172).2) ?_
  show Steps p.tables e below (T0.setTop (mkF m 175 #[s0, s1, s2, s3, s4, s5, s6, .val (.int i7), .val (.int i8), .val (.int i9), .val (.int i10), .val (.int i11), s12, .val (.int i13), s14, s15, s16, s17, s18, s19, s20, s21, s22, s23, s24, s25] [])) _
  refine XS.iload X0.here hx rfl (hb hby at_175) rfl ?_
  show Steps p.tables e below (T0.setTop (mkF m 177 #[s0, s1, s2, s3, s4, s5, s6, .val (.int i7), .val (.int i8), .val (.int i9), .val (.int i10), .val (.int i11), s12, .val (.int i13), s14, s15, s16, s17, s18, s19, s20, s21, s22, s23, s24, s25] [(.int i11)])) _
  refine XS.ifNo X0.here hx rfl (hb hby at_177) rfl ((if0 _ _).trans (teq hc177).2) ?_
  show Steps p.tables e below (T0.setTop (mkF m 180 #[s0, s1, s2, s3, s4, s5, s6, .val (.int i7), .val (.int i8), .val (.int i9), .val (.int i10), .val (.int i11), s12, .val (.int i13), s14, s15, s16, s17, s18, s19, s20, s21, s22, s23, s24, s25] [])) _
  refine XS.iload X0.here hx rfl (hb hby at_180) rfl ?_
  show Steps p.tables e below (T0.setTop (mkF m 182 #[s0, s1, s2, s3, s4, s5, s6, .val (.int i7), .val (.int i8), .val (.int i9), .val (.int i10), .val (.int i11), s12, .val (.int i13), s14, s15, s16, s17, s18, s19, s20, s21, s22, s23, s24, s25] [(.int i13)])) _
  refine XS.ifNo X0.here hx rfl (hb hby at_182) rfl ((if0 _ _).trans (teq hc182).2) ?_
  show Steps p.tables e below (T0.setTop (mkF m 185 #[s0, s1, s2, s3, s4, s5, s6, .val (.int i7), .val (.int i8), .val (.int i9), .val (.int i10), .val (.int i11), s12, .val (.int i13), s14, s15, s16, s17, s18, s19, s20, s21, s22, s23, s24, s25] [])) _
  refine XS.iconst X0.here hx rfl (hb hby at_185) ?_
  show Steps p.tables e below (T0.setTop (mkF m 186 #[s0, s1, s2, s3, s4, s5, s6, .val (.int i7), .val (.int i8), .val (.int i9), .val (.int i10), .val (.int i11), s12, .val (.int i13), s14, s15, s16, s17, s18, s19, s20, s21, s22, s23, s24, s25] [(.int (1 : Int32))])) _
  refine XS.goto X0.here hx rfl (pc0 := 186) (pc' := 190) rfl (hb hby at_186) (by decide) (by decide) ?_
  show Steps p.tables e below (T0.setTop (mkF m 190 #[s0, s1, s2, s3, s4, s5, s6, .val (.int i7), .val (.int i8), .val (.int i9), .val (.int i10), .val (.int i11), s12, .val (.int i13), s14, s15, s16, s17, s18, s19, s20, s21, s22, s23, s24, s25] [(.int (1 : Int32))])) _
  refine XS.istore X0.here hx rfl (hb hby at_190) rfl (l' := #[s0, s1, s2, s3, s4, s5, s6, .val (.int i7), .val (.int i8), .val (.int i9), .val (.int i10), .val (.int i11), s12, .val (.int i13), s14, s15, s16, s17, s18, s19, s20, s21, s22, s23, .val (.int (1 : Int32)), s25]) (os0_190_ffffff hs24) ?_
  exact kt
theorem sgX {p : Program} {l : Launch} {e : Env} {R : Room} {s : State} {m : MethodId} {args : Array Value} {below : List Frame} {meth : Method} {c : Code} {T0 : State} {locs : List Loc} {cells slots : Nat} {Z : State} {a0 : Array Value} {h0 : Heap} (s0 : Slot) (s1 : Slot) (s2 : Slot) (s3 : Slot) (s4 : Slot) (s5 : Slot) (s6 : Slot) (i7 : Int32) (i8 : Int32) (i9 : Int32) (i10 : Int32) (i11 : Int32) (s12 : Slot) (i13 : Int32) (s14 : Slot) (s15 : Slot) (s16 : Slot) (s17 : Slot) (s18 : Slot) (s19 : Slot) (s20 : Slot) (s21 : Slot) (s22 : Slot) (s23 : Slot) (s24 : Slot) (s25 : Slot)
    (X0 : Stand p l e R s m args below meth c T0 locs cells slots) (hx : p.tables.exec = Jvm.exec) (hZ : Z.Warmed39 s.vm) (hw : ∀ d ∈ tables_1, d.before a0 Z = true) (hby : c.code = code) (hml : c.maxLocals = 26) (hown : s.vm.findClass "com/example/cablegram/cablegram/engine/EnvelopeIsPinLaw" = some m.cls) (e0 : T0.heap = h0) (hs24 : One s24) :
    ∃ (T' : State), Stand p l e R s m args below meth c T' locs cells slots ∧ T'.heap = h0 ∧
      ∀ target, Steps p.tables e below (T'.setTop (mkF m 192 #[s0, s1, s2, s3, s4, s5, s6, .val (.int i7), .val (.int i8), .val (.int i9), .val (.int i10), .val (.int i11), s12, .val (.int i13), s14, s15, s16, s17, s18, s19, s20, s21, s22, s23, .val (.int (own_exp i7 i8 i9 i10 i11 i13)), s25] [])) target → Steps p.tables e below (T0.setTop (mkF m 155 #[s0, s1, s2, s3, s4, s5, s6, .val (.int i7), .val (.int i8), .val (.int i9), .val (.int i10), .val (.int i11), s12, .val (.int i13), s14, s15, s16, s17, s18, s19, s20, s21, s22, s23, s24, s25] [])) target := by
  by_cases g0 : i7 = (0 : Int32)
  · by_cases g1 : i8 = (0 : Int32)
    · by_cases g2 : i9 = (0 : Int32)
      · by_cases g3 : i10 = (0 : Int32)
        · by_cases g4 : i11 = (0 : Int32)
          · by_cases g5 : i13 = (0 : Int32)
            · rw [show own_exp i7 i8 i9 i10 i11 i13 = 1 from by unfold own_exp; rw [if_pos ⟨g0, g1, g2, g3, g4, g5⟩]]
              exact tn0_155_192_ffffff _ _ _ _ _ _ _ _ _ _ _ _ _ _ _ _ _ _ _ _ _ _ _ _ _ _ X0 hx hZ hw hby hml hown e0 (by first | exact own_oneU | exact own_oneI | exact own_oneR | assumption) g0 g1 g2 g3 g4 g5
            · rw [show own_exp i7 i8 i9 i10 i11 i13 = 0 from by unfold own_exp; rw [if_neg (fun q => g5 q.2.2.2.2.2)]]
              exact tn0_155_192_ffffft _ _ _ _ _ _ _ _ _ _ _ _ _ _ _ _ _ _ _ _ _ _ _ _ _ _ X0 hx hZ hw hby hml hown e0 (by first | exact own_oneU | exact own_oneI | exact own_oneR | assumption) g0 g1 g2 g3 g4 g5
          · rw [show own_exp i7 i8 i9 i10 i11 i13 = 0 from by unfold own_exp; rw [if_neg (fun q => g4 q.2.2.2.2.1)]]
            exact tn0_155_192_fffft _ _ _ _ _ _ _ _ _ _ _ _ _ _ _ _ _ _ _ _ _ _ _ _ _ _ X0 hx hZ hw hby hml hown e0 (by first | exact own_oneU | exact own_oneI | exact own_oneR | assumption) g0 g1 g2 g3 g4
        · rw [show own_exp i7 i8 i9 i10 i11 i13 = 0 from by unfold own_exp; rw [if_neg (fun q => g3 q.2.2.2.1)]]
          exact tn0_155_192_ffft _ _ _ _ _ _ _ _ _ _ _ _ _ _ _ _ _ _ _ _ _ _ _ _ _ _ X0 hx hZ hw hby hml hown e0 (by first | exact own_oneU | exact own_oneI | exact own_oneR | assumption) g0 g1 g2 g3
      · rw [show own_exp i7 i8 i9 i10 i11 i13 = 0 from by unfold own_exp; rw [if_neg (fun q => g2 q.2.2.1)]]
        exact tn0_155_192_fft _ _ _ _ _ _ _ _ _ _ _ _ _ _ _ _ _ _ _ _ _ _ _ _ _ _ X0 hx hZ hw hby hml hown e0 (by first | exact own_oneU | exact own_oneI | exact own_oneR | assumption) g0 g1 g2
    · rw [show own_exp i7 i8 i9 i10 i11 i13 = 0 from by unfold own_exp; rw [if_neg (fun q => g1 q.2.1)]]
      exact tn0_155_192_ft _ _ _ _ _ _ _ _ _ _ _ _ _ _ _ _ _ _ _ _ _ _ _ _ _ _ X0 hx hZ hw hby hml hown e0 (by first | exact own_oneU | exact own_oneI | exact own_oneR | assumption) g0 g1
  · rw [show own_exp i7 i8 i9 i10 i11 i13 = 0 from by unfold own_exp; rw [if_neg (fun q => g0 q.1)]]
    exact tn0_155_192_t _ _ _ _ _ _ _ _ _ _ _ _ _ _ _ _ _ _ _ _ _ _ _ _ _ _ X0 hx hZ hw hby hml hown e0 (by first | exact own_oneU | exact own_oneI | exact own_oneR | assumption) g0
theorem pd_0_5 : parseMethodDescriptor "(IJILcom/example/cablegram/cablegram/engine/ElementType;II)Z" = some ⟨[.int, .long, .int, (.object "com/example/cablegram/cablegram/engine/ElementType"), .int, .int], some .boolean⟩ := by decide +kernel
theorem os0_209 {s0 : Slot} {s1 : Slot} {s2 : Slot} {s3 : Slot} {s4 : Slot} {s5 : Slot} {s6 : Slot} {s7 : Slot} {s8 : Slot} {s9 : Slot} {s10 : Slot} {s11 : Slot} {s12 : Slot} {s13 : Slot} {s14 : Slot} {s15 : Slot} {z16 : Value} {z17 : Value} {z18 : Value} {z19 : Value} {z21 : Value} {z22 : Value} {z23 : Value} {z24 : Value} {s25 : Slot} {v : Int32} (h : One s25) : storeLocals #[s0, s1, s2, s3, s4, s5, s6, s7, s8, s9, s10, s11, s12, s13, s14, s15, .val z16, .val z17, .val z18, .val z19, .second, .val z21, .val z22, .val z23, .val z24, s25] 25 (.int v) = some #[s0, s1, s2, s3, s4, s5, s6, s7, s8, s9, s10, s11, s12, s13, s14, s15, .val z16, .val z17, .val z18, .val z19, .second, .val z21, .val z22, .val z23, .val z24, .val (.int v)] := by
  rcases h with rfl | ⟨w, rfl, hw⟩
  · rfl
  · cases w <;> first | rfl | (simp [Value.category] at hw)
set_option maxRecDepth 65536 in
set_option maxHeartbeats 40000000 in
theorem tn0_192_223_x {p : Program} {l : Launch} {e : Env} {s : State} {m : MethodId} {args : Array Value} {below : List Frame} {meth : Method} {c : Code} {T0 : State} {locs : List Loc} {Z : State} {a0 : Array Value} {h0 : Heap} {n0 : Nat} (s0 : Slot) (s1 : Slot) (s2 : Slot) (s3 : Slot) (s4 : Slot) (s5 : Slot) (s6 : Slot) (s7 : Slot) (s8 : Slot) (s9 : Slot) (s10 : Slot) (s11 : Slot) (s12 : Slot) (s13 : Slot) (s14 : Slot) (s15 : Slot) (o16 : Addr) (o17 : Addr) (i18 : Int32) (j19 : Int64) (i21 : Int32) (i22 : Int32) (i23 : Int32) (i24 : Int32) (s25 : Slot)
    (X0 : Stand p l e room_1 s m args below meth c T0 locs 1 6) (hx : p.tables.exec = Jvm.exec) (hZ : Z.Warmed39 s.vm) (hw : ∀ d ∈ tables_1, d.before a0 Z = true) (hby : c.code = code) (hml : c.maxLocals = 26) (hown : s.vm.findClass "com/example/cablegram/cablegram/engine/EnvelopeIsPinLaw" = some m.cls) (e0 : T0.heap = h0) (Z0 : n0 ≤ h0.size) (N0 : Fr n0 locs) (x1 : Int32) (x2 : Int64) (x3 : Int32) (x4 : Addr) (x5 : Int32) (x6 : Int32) (G1 : Fld Z h0 o17 "com/example/cablegram/cablegram/engine/Envelope" "source" "I" (.int x1)) (G2 : Fld Z h0 o17 "com/example/cablegram/cablegram/engine/Envelope" "context" "J" (.long x2)) (G3 : Fld Z h0 o17 "com/example/cablegram/cablegram/engine/Envelope" "tag" "I" (.int x3)) (G4 : Fld Z h0 o17 "com/example/cablegram/cablegram/engine/Envelope" "type" "Lcom/example/cablegram/cablegram/engine/ElementType;" (.ref x4)) (G5 : Fld Z h0 o17 "com/example/cablegram/cablegram/engine/Envelope" "count" "I" (.int x5)) (G6 : Fld Z h0 o17 "com/example/cablegram/cablegram/engine/Envelope" "entries" "I" (.int x6)) (hv : own_is x1 i18 x2 j19 x3 i21 x4 o16 x5 i22 x6 i23 = i24) (E_o17 : Exa Z h0 o17 "com/example/cablegram/cablegram/engine/Envelope") (hs25 : One s25) :
    ∃ (T' : State) (L' : List Loc), Stand p l e room_1 s m args below meth c T' L' 1 6 ∧ Fr n0 L' ∧
      ∀ target, Steps p.tables e below (T'.setTop (mkF m 223 #[s0, s1, s2, s3, s4, s5, s6, s7, s8, s9, s10, s11, s12, s13, s14, s15, .val (.ref o16), .val (.ref o17), .val (.int i18), .val (.long j19), .second, .val (.int i21), .val (.int i22), .val (.int i23), .val (.int i24), .val (.int (own_is x1 i18 x2 j19 x3 i21 x4 o16 x5 i22 x6 i23))] [(.int (1 : Int32))])) target → Steps p.tables e below (T0.setTop (mkF m 192 #[s0, s1, s2, s3, s4, s5, s6, s7, s8, s9, s10, s11, s12, s13, s14, s15, .val (.ref o16), .val (.ref o17), .val (.int i18), .val (.long j19), .second, .val (.int i21), .val (.int i22), .val (.int i23), .val (.int i24), s25] [])) target := by
  -- 3. LAWS
  -- pc 206: com/example/cablegram/cablegram/engine/Envelope.is by the contract of the body that the receiver's class selects, rm7
  obtain ⟨cq7, kq7, q7a, q7b, q7c⟩ := isOf hZ e0 E_o17
  obtain ⟨_, _, ⟨T7, L7, k7, n7⟩, -, X7, ⟨Lc7, hQ7, l7, y7, z7⟩, st7⟩ := X0.virtualBack hx (y := (⟨"com/example/cablegram/cablegram/engine/Envelope", "is", "(IJILcom/example/cablegram/cablegram/engine/ElementType;II)Z"⟩ : MethodName)) (z := (⟨"com/example/cablegram/cablegram/engine/Envelope", "is", "(IJILcom/example/cablegram/cablegram/engine/ElementType;II)Z"⟩ : MethodName)) hown (mvT hZ (hw _ (List.mem_of_getElem? (i := 39) rfl))) (mvT hZ (hw _ (List.mem_of_getElem? (i := 40) rfl))) (notFace_of_selects (args := #[]) (mvT hZ (hw _ (List.mem_of_getElem? (i := 42) rfl)))) (mvT hZ (hw _ (List.mem_of_getElem? (i := 42) rfl))) (mvT hZ (hw _ (List.mem_of_getElem? (i := 41) rfl))) (by decide) (backOf (W := 0) (rm7 l Z a0 hw [] o17 i18 j19 i21 o16 i22 i23 x1 x2 x3 x4 x5 x6 h0 n0 Z0 G1 G2 G3 G4 G5 G6) hZ (hw _ (List.mem_of_getElem? (i := 43) rfl)) (hw _ (List.mem_of_getElem? (i := 9) rfl)) (by decide) (by decide)) q7a q7c (g := (mkF m 206 #[s0, s1, s2, s3, s4, s5, s6, s7, s8, s9, s10, s11, s12, s13, s14, s15, .val (.ref o16), .val (.ref o17), .val (.int i18), .val (.long j19), .second, .val (.int i21), .val (.int i22), .val (.int i23), .val (.int i24), s25] [(.int i23), (.int i22), (.ref o16), (.int i21), (.long j19), (.int i18), (.ref o17)])) rfl (by rw [hml]; rfl) (Steps.refl _) (argsL := [(.int i18), (.long j19), (.int i21), (.ref o16), (.int i22), (.int i23)]) (rest := []) (lenOf pd_0_5 rfl) rfl (by show 2 * 0 + _ ≤ _; exact Nat.le_of_eq rfl) (hb hby at_206) (fun _ _ => ⟨rfl, e0, (by decide : 1 + 0 ≤ _), (by decide : 6 + 0 ≤ _)⟩)
  dsimp only [Pt.U, Pt.locs, Pt.cells, Pt.slots] at X7 l7 y7 z7 st7 hQ7
  subst l7 y7 z7
  obtain ⟨rfl, N7q, e7⟩ := hQ7
  have N7 := Fr.app N0 N7q
  refine ⟨T7, _, X7, N7, fun target kt => ?_⟩
  -- 4. STEPS
  show Steps p.tables e below (T0.setTop (mkF m 192 #[s0, s1, s2, s3, s4, s5, s6, s7, s8, s9, s10, s11, s12, s13, s14, s15, .val (.ref o16), .val (.ref o17), .val (.int i18), .val (.long j19), .second, .val (.int i21), .val (.int i22), .val (.int i23), .val (.int i24), s25] [])) _
  refine XS.aload X0.here hx rfl (hb hby at_192) rfl rfl ?_
  show Steps p.tables e below (T0.setTop (mkF m 194 #[s0, s1, s2, s3, s4, s5, s6, s7, s8, s9, s10, s11, s12, s13, s14, s15, .val (.ref o16), .val (.ref o17), .val (.int i18), .val (.long j19), .second, .val (.int i21), .val (.int i22), .val (.int i23), .val (.int i24), s25] [(.ref o17)])) _
  refine XS.iload X0.here hx rfl (hb hby at_194) rfl ?_
  show Steps p.tables e below (T0.setTop (mkF m 196 #[s0, s1, s2, s3, s4, s5, s6, s7, s8, s9, s10, s11, s12, s13, s14, s15, .val (.ref o16), .val (.ref o17), .val (.int i18), .val (.long j19), .second, .val (.int i21), .val (.int i22), .val (.int i23), .val (.int i24), s25] [(.int i18), (.ref o17)])) _
  refine XS.lload X0.here hx rfl (hb hby at_196) rfl ?_
  show Steps p.tables e below (T0.setTop (mkF m 198 #[s0, s1, s2, s3, s4, s5, s6, s7, s8, s9, s10, s11, s12, s13, s14, s15, .val (.ref o16), .val (.ref o17), .val (.int i18), .val (.long j19), .second, .val (.int i21), .val (.int i22), .val (.int i23), .val (.int i24), s25] [(.long j19), (.int i18), (.ref o17)])) _
  refine XS.iload X0.here hx rfl (hb hby at_198) rfl ?_
  show Steps p.tables e below (T0.setTop (mkF m 200 #[s0, s1, s2, s3, s4, s5, s6, s7, s8, s9, s10, s11, s12, s13, s14, s15, .val (.ref o16), .val (.ref o17), .val (.int i18), .val (.long j19), .second, .val (.int i21), .val (.int i22), .val (.int i23), .val (.int i24), s25] [(.int i21), (.long j19), (.int i18), (.ref o17)])) _
  refine XS.aload X0.here hx rfl (hb hby at_200) rfl rfl ?_
  show Steps p.tables e below (T0.setTop (mkF m 202 #[s0, s1, s2, s3, s4, s5, s6, s7, s8, s9, s10, s11, s12, s13, s14, s15, .val (.ref o16), .val (.ref o17), .val (.int i18), .val (.long j19), .second, .val (.int i21), .val (.int i22), .val (.int i23), .val (.int i24), s25] [(.ref o16), (.int i21), (.long j19), (.int i18), (.ref o17)])) _
  refine XS.iload X0.here hx rfl (hb hby at_202) rfl ?_
  show Steps p.tables e below (T0.setTop (mkF m 204 #[s0, s1, s2, s3, s4, s5, s6, s7, s8, s9, s10, s11, s12, s13, s14, s15, .val (.ref o16), .val (.ref o17), .val (.int i18), .val (.long j19), .second, .val (.int i21), .val (.int i22), .val (.int i23), .val (.int i24), s25] [(.int i22), (.ref o16), (.int i21), (.long j19), (.int i18), (.ref o17)])) _
  refine XS.iload X0.here hx rfl (hb hby at_204) rfl ?_
  show Steps p.tables e below (T0.setTop (mkF m 206 #[s0, s1, s2, s3, s4, s5, s6, s7, s8, s9, s10, s11, s12, s13, s14, s15, .val (.ref o16), .val (.ref o17), .val (.int i18), .val (.long j19), .second, .val (.int i21), .val (.int i22), .val (.int i23), .val (.int i24), s25] [(.int i23), (.int i22), (.ref o16), (.int i21), (.long j19), (.int i18), (.ref o17)])) _
  refine st7.trans ?_
  show Steps p.tables e below (T7.setTop (mkF m 209 #[s0, s1, s2, s3, s4, s5, s6, s7, s8, s9, s10, s11, s12, s13, s14, s15, .val (.ref o16), .val (.ref o17), .val (.int i18), .val (.long j19), .second, .val (.int i21), .val (.int i22), .val (.int i23), .val (.int i24), s25] [(.int (own_is x1 i18 x2 j19 x3 i21 x4 o16 x5 i22 x6 i23))])) _
  refine XS.istore X7.here hx rfl (hb hby at_209) rfl (l' := #[s0, s1, s2, s3, s4, s5, s6, s7, s8, s9, s10, s11, s12, s13, s14, s15, .val (.ref o16), .val (.ref o17), .val (.int i18), .val (.long j19), .second, .val (.int i21), .val (.int i22), .val (.int i23), .val (.int i24), .val (.int (own_is x1 i18 x2 j19 x3 i21 x4 o16 x5 i22 x6 i23))]) (os0_209 hs25) ?_
  show Steps p.tables e below (T7.setTop (mkF m 211 #[s0, s1, s2, s3, s4, s5, s6, s7, s8, s9, s10, s11, s12, s13, s14, s15, .val (.ref o16), .val (.ref o17), .val (.int i18), .val (.long j19), .second, .val (.int i21), .val (.int i22), .val (.int i23), .val (.int i24), .val (.int (own_is x1 i18 x2 j19 x3 i21 x4 o16 x5 i22 x6 i23))] [])) _
  refine XS.iload X7.here hx rfl (hb hby at_211) rfl ?_
  show Steps p.tables e below (T7.setTop (mkF m 213 #[s0, s1, s2, s3, s4, s5, s6, s7, s8, s9, s10, s11, s12, s13, s14, s15, .val (.ref o16), .val (.ref o17), .val (.int i18), .val (.long j19), .second, .val (.int i21), .val (.int i22), .val (.int i23), .val (.int i24), .val (.int (own_is x1 i18 x2 j19 x3 i21 x4 o16 x5 i22 x6 i23))] [(.int (own_is x1 i18 x2 j19 x3 i21 x4 o16 x5 i22 x6 i23))])) _
  refine XS.iload X7.here hx rfl (hb hby at_213) rfl ?_
  show Steps p.tables e below (T7.setTop (mkF m 215 #[s0, s1, s2, s3, s4, s5, s6, s7, s8, s9, s10, s11, s12, s13, s14, s15, .val (.ref o16), .val (.ref o17), .val (.int i18), .val (.long j19), .second, .val (.int i21), .val (.int i22), .val (.int i23), .val (.int i24), .val (.int (own_is x1 i18 x2 j19 x3 i21 x4 o16 x5 i22 x6 i23))] [(.int i24), (.int (own_is x1 i18 x2 j19 x3 i21 x4 o16 x5 i22 x6 i23))])) _
  refine XS.icmpNo X7.here hx rfl (hb hby at_215) rfl (teq (hv : (own_is x1 i18 x2 j19 x3 i21 x4 o16 x5 i22 x6 i23) = i24)).2 ?_
  show Steps p.tables e below (T7.setTop (mkF m 218 #[s0, s1, s2, s3, s4, s5, s6, s7, s8, s9, s10, s11, s12, s13, s14, s15, .val (.ref o16), .val (.ref o17), .val (.int i18), .val (.long j19), .second, .val (.int i21), .val (.int i22), .val (.int i23), .val (.int i24), .val (.int (own_is x1 i18 x2 j19 x3 i21 x4 o16 x5 i22 x6 i23))] [])) _
  refine XS.iconst X7.here hx rfl (hb hby at_218) ?_
  show Steps p.tables e below (T7.setTop (mkF m 219 #[s0, s1, s2, s3, s4, s5, s6, s7, s8, s9, s10, s11, s12, s13, s14, s15, .val (.ref o16), .val (.ref o17), .val (.int i18), .val (.long j19), .second, .val (.int i21), .val (.int i22), .val (.int i23), .val (.int i24), .val (.int (own_is x1 i18 x2 j19 x3 i21 x4 o16 x5 i22 x6 i23))] [(.int (1 : Int32))])) _
  refine XS.goto X7.here hx rfl (pc0 := 219) (pc' := 223) rfl (hb hby at_219) (by decide) (by decide) ?_
  exact kt
theorem pn_0 : plainName "com/example/cablegram/cablegram/engine/EnvelopeIsPinLaw" = true := by first | (simp [plainName, overriddenIn]; done) | decide +kernel
theorem ef_0 (m : MethodId) (x0 : Int32) (x1 : Int64) (x2 : Int32) (x3 : Int32) (x4 : Int32) (x5 : Int32) : entryFrame m #[(.int x0), (.long x1), (.int x2), (.int x3), (.int x4), (.int x5)] maxLocals = mkF m 0 #[.val (.int x0), .val (.long x1), .second, .val (.int x2), .val (.int x3), .val (.int x4), .val (.int x5), .unset, .unset, .unset, .unset, .unset, .unset, .unset, .unset, .unset, .unset, .unset, .unset, .unset, .unset, .unset, .unset, .unset, .unset, .unset] [] := by first | (simp [entryFrame, mkF, argsToLocals, Value.category, maxLocals]; done) | rfl

set_option maxRecDepth 65536 in
set_option maxHeartbeats 40000000 in
theorem rm0 (l : Launch) (Z : State) (a0 : Array Value) (hw : ∀ d ∈ tables_1, d.before a0 Z = true) (ws : List Jvm.Cond) (p1 : Int32) (q2 : Int64) (p3 : Int32) (p4 : Int32) (p5 : Int32) (p6 : Int32) (h0 : Heap) (n0 : Nat) (Z0 : n0 ≤ h0.size) (k_BYTE : Addr) (S_BYTE : Sta Z h0 "com/example/cablegram/cablegram/engine/ElementType" "BYTE" "Lcom/example/cablegram/cablegram/engine/ElementType;" (.ref k_BYTE)) (E_BYTE : Exa Z h0 k_BYTE "com/example/cablegram/cablegram/engine/ElementType$1") (k_CHAR : Addr) (S_CHAR : Sta Z h0 "com/example/cablegram/cablegram/engine/ElementType" "CHAR" "Lcom/example/cablegram/cablegram/engine/ElementType;" (.ref k_CHAR)) (E_CHAR : Exa Z h0 k_CHAR "com/example/cablegram/cablegram/engine/ElementType$2") (k_SHORT : Addr) (S_SHORT : Sta Z h0 "com/example/cablegram/cablegram/engine/ElementType" "SHORT" "Lcom/example/cablegram/cablegram/engine/ElementType;" (.ref k_SHORT)) (E_SHORT : Exa Z h0 k_SHORT "com/example/cablegram/cablegram/engine/ElementType$3") (k_BOOLEAN : Addr) (S_BOOLEAN : Sta Z h0 "com/example/cablegram/cablegram/engine/ElementType" "BOOLEAN" "Lcom/example/cablegram/cablegram/engine/ElementType;" (.ref k_BOOLEAN)) (E_BOOLEAN : Exa Z h0 k_BOOLEAN "com/example/cablegram/cablegram/engine/ElementType$4") (k_INT : Addr) (S_INT : Sta Z h0 "com/example/cablegram/cablegram/engine/ElementType" "INT" "Lcom/example/cablegram/cablegram/engine/ElementType;" (.ref k_INT)) (E_INT : Exa Z h0 k_INT "com/example/cablegram/cablegram/engine/ElementType$5") (k_LONG : Addr) (S_LONG : Sta Z h0 "com/example/cablegram/cablegram/engine/ElementType" "LONG" "Lcom/example/cablegram/cablegram/engine/ElementType;" (.ref k_LONG)) (E_LONG : Exa Z h0 k_LONG "com/example/cablegram/cablegram/engine/ElementType$6") (k_FLOAT : Addr) (S_FLOAT : Sta Z h0 "com/example/cablegram/cablegram/engine/ElementType" "FLOAT" "Lcom/example/cablegram/cablegram/engine/ElementType;" (.ref k_FLOAT)) (E_FLOAT : Exa Z h0 k_FLOAT "com/example/cablegram/cablegram/engine/ElementType$7") (k_DOUBLE : Addr) (S_DOUBLE : Sta Z h0 "com/example/cablegram/cablegram/engine/ElementType" "DOUBLE" "Lcom/example/cablegram/cablegram/engine/ElementType;" (.ref k_DOUBLE)) (E_DOUBLE : Exa Z h0 k_DOUBLE "com/example/cablegram/cablegram/engine/ElementType$8") (k_OBJECT : Addr) (S_OBJECT : Sta Z h0 "com/example/cablegram/cablegram/engine/ElementType" "OBJECT" "Lcom/example/cablegram/cablegram/engine/ElementType;" (.ref k_OBJECT)) (E_OBJECT : Exa Z h0 k_OBJECT "com/example/cablegram/cablegram/engine/ElementType$9") (k_PACKED : Addr) (S_PACKED : Sta Z h0 "com/example/cablegram/cablegram/engine/ElementType" "PACKED" "Lcom/example/cablegram/cablegram/engine/ElementType;" (.ref k_PACKED)) (E_PACKED : Exa Z h0 k_PACKED "com/example/cablegram/cablegram/engine/ElementType$10") :
    MetFree l x (head1 (Jvm.Cond.code x code maxLocals ret :: ws) room_1) (fun a U => a = #[(.int p1), (.long q2), (.int p3), (.int p4), (.int p5), (.int p6)] ∧ Z.Warmed39 U.vm ∧ U.heap = h0) (fun _ _ _ _ _ => True) (fun _ U o U' => ∃ v L, o = .returned v ∧ Ql (some (.int (1 : Int32))) n0 v L ∧ FrameEnd U o U' L room_1.cells room_1.slots) := by
  refine MetFree.of_bodySF (plainFor_of_name pn_0) hisR ?_
  intro p e s m args below meth c s₁ Bd hml0 hP hK
  obtain ⟨rfl, hZ, hh⟩ := hP
  have hx := Bd.exec
  have hby := Bd.bytes
  have hml : c.maxLocals = 26 := hml0
  have hown : s.vm.findClass "com/example/cablegram/cablegram/engine/EnvelopeIsPinLaw" = some m.cls := findClass_of_methodNamed Bd.named
  have hnm := (name_of_methodNamed Bd.named Bd.method).1
  have X0 : Stand p l e room_1 s m #[(.int p1), (.long q2), (.int p3), (.int p4), (.int p5), (.int p6)] below meth c s₁ [] 0 0 := Stand.of_body Bd
  have e0 : s₁.heap = h0 := by rw [← hh, Bd.state]; rfl
  have N0 := Fr.nil n0
  have pre0 : ∀ t, Steps p.tables e below (s₁.setTop (mkF m 0 #[.val (.int p1), .val (.long q2), .second, .val (.int p3), .val (.int p4), .val (.int p5), .val (.int p6), .unset, .unset, .unset, .unset, .unset, .unset, .unset, .unset, .unset, .unset, .unset, .unset, .unset, .unset, .unset, .unset, .unset, .unset, .unset] [])) t → Steps p.tables e below (s₁.setTop (entryFrame m #[(.int p1), (.long q2), (.int p3), (.int p4), (.int p5), (.int p6)] maxLocals)) t := fun t k => castTop (ef_0 m p1 q2 p3 p4 p5 p6) k
  obtain ⟨TA, XA, eA, stA⟩ := tn0_0_76_x (.val (.int p1)) (.val (.long q2)) (.second) (.val (.int p3)) (.val (.int p4)) (.val (.int p5)) p6 (.unset) (.unset) (.unset) (.unset) (.unset) (.unset) (.unset) (.unset) (.unset) (.unset) (.unset) (.unset) (.unset) (.unset) (.unset) (.unset) (.unset) (.unset) (.unset) X0 hx hZ hw hby hml hown e0 (by first | exact own_oneU | exact own_oneI | exact own_oneR | assumption) (by first | exact own_oneU | exact own_oneI | exact own_oneR | assumption) (by first | exact own_oneU | exact own_oneI | exact own_oneR | assumption) (by first | exact own_oneU | exact own_oneI | exact own_oneR | assumption) (by first | exact own_oneU | exact own_oneI | exact own_oneR | assumption) (by first | exact own_oneU | exact own_oneI | exact own_oneR | assumption) (by first | exact own_oneU | exact own_oneI | exact own_oneR | assumption) (by first | exact own_oneU | exact own_oneI | exact own_oneR | assumption)
  obtain ⟨nt, hnt⟩ := own_pick ((p6.toUInt32 >>> ((10 : Int32) &&& 31).toUInt32).toInt32)
  obtain ⟨nk, hnk⟩ := own_pick ((p6.toUInt32 >>> ((14 : Int32) &&& 31).toUInt32).toInt32)
  have hnq : (own_rem ((own_rem (((p6.toUInt32 >>> ((10 : Int32) &&& 31).toUInt32).toInt32) &&& (15 : Int32)) (10 : Int32)) + (own_rem (((p6.toUInt32 >>> ((14 : Int32) &&& 31).toUInt32).toInt32) &&& (15 : Int32)) (10 : Int32))) (10 : Int32)) = own_i (nt + nk) := by
    show own_rem ((own_rem (((p6.toUInt32 >>> ((10 : Int32) &&& 31).toUInt32).toInt32) &&& (15 : Int32)) (10 : Int32)) + (own_rem (((p6.toUInt32 >>> ((14 : Int32) &&& 31).toUInt32).toInt32) &&& (15 : Int32)) (10 : Int32))) 10 = _
    rw [show (own_rem (((p6.toUInt32 >>> ((10 : Int32) &&& 31).toUInt32).toInt32) &&& (15 : Int32)) (10 : Int32)) = own_i nt from hnt, show (own_rem (((p6.toUInt32 >>> ((14 : Int32) &&& 31).toUInt32).toInt32) &&& (15 : Int32)) (10 : Int32)) = own_i nk from hnk]; exact own_sum nt nk
  obtain ⟨ka, MA, EA⟩ := own_typ l Z a0 hw h0 n0 Z0 k_BYTE S_BYTE E_BYTE k_CHAR S_CHAR E_CHAR k_SHORT S_SHORT E_SHORT k_BOOLEAN S_BOOLEAN E_BOOLEAN k_INT S_INT E_INT k_LONG S_LONG E_LONG k_FLOAT S_FLOAT E_FLOAT k_DOUBLE S_DOUBLE E_DOUBLE k_OBJECT S_OBJECT E_OBJECT k_PACKED S_PACKED E_PACKED nt
  obtain ⟨kb, MB, hab⟩ : ∃ kb : Addr, (MetFree l (⟨"com/example/cablegram/cablegram/engine/EnvelopeIsPinLaw", "typeOf", "(I)Lcom/example/cablegram/cablegram/engine/ElementType;"⟩ : MethodName) (head1 (Jvm.Cond.code (⟨"com/example/cablegram/cablegram/engine/EnvelopeIsPinLaw", "typeOf", "(I)Lcom/example/cablegram/cablegram/engine/ElementType;"⟩ : MethodName) method_4_code 1 (some (.object "com/example/cablegram/cablegram/engine/ElementType")) :: []) ({ frames := 0, cells := 0, slots := 0, locals := 0 } : Room)) (fun a U => a = #[(.int (own_i (nt + nk)))] ∧ Z.Warmed39 U.vm ∧ U.heap = h0) (fun _ _ _ _ _ => True) (fun _ U o U' => ∃ v L, o = .returned v ∧ Qv (some (.ref kb)) h0 n0 v U'.heap L ∧ FrameEnd U o U' L ({ frames := 0, cells := 0, slots := 0, locals := 0 } : Room).cells ({ frames := 0, cells := 0, slots := 0, locals := 0 } : Room).slots)) ∧ (ka = kb ↔ nk = 0) := by
    by_cases hq : nt = nt + nk
    · rw [← hq]
      exact ⟨ka, MA, fun _ => (own_fix nt nk).mp hq, fun _ => rfl⟩
    · obtain ⟨kb, MB, EB⟩ := own_typ l Z a0 hw h0 n0 Z0 k_BYTE S_BYTE E_BYTE k_CHAR S_CHAR E_CHAR k_SHORT S_SHORT E_SHORT k_BOOLEAN S_BOOLEAN E_BOOLEAN k_INT S_INT E_INT k_LONG S_LONG E_LONG k_FLOAT S_FLOAT E_FLOAT k_DOUBLE S_DOUBLE E_DOUBLE k_OBJECT S_OBJECT E_OBJECT k_PACKED S_PACKED E_PACKED (nt + nk)
      exact ⟨kb, MB, fun q => absurd q (ne_exa EA EB (own_clsne _ _ hq)), fun q => absurd ((own_fix nt nk).mpr q) hq⟩
  have hkk : ka = kb ↔ (own_rem (((p6.toUInt32 >>> ((14 : Int32) &&& 31).toUInt32).toInt32) &&& (15 : Int32)) (10 : Int32)) = 0 := by rw [show (own_rem (((p6.toUInt32 >>> ((14 : Int32) &&& 31).toUInt32).toInt32) &&& (15 : Int32)) (10 : Int32)) = own_i nk from hnk, own_i0]; exact hab
  obtain ⟨TB, LB, b9, XB, NB, ZB, EB, G1, G2, G3, G4, G5, G6, stB⟩ := tn0_76_155_x (n0 := n0) p1 q2 p3 p4 p5 (.val (.int p6)) (p6 &&& (3 : Int32)) (((p6.toUInt32 >>> ((2 : Int32) &&& 31).toUInt32).toInt32) &&& (3 : Int32)) (((p6.toUInt32 >>> ((4 : Int32) &&& 31).toUInt32).toInt32) &&& (3 : Int32)) (((p6.toUInt32 >>> ((6 : Int32) &&& 31).toUInt32).toInt32) &&& (3 : Int32)) (((p6.toUInt32 >>> ((8 : Int32) &&& 31).toUInt32).toInt32) &&& (3 : Int32)) (own_rem (((p6.toUInt32 >>> ((10 : Int32) &&& 31).toUInt32).toInt32) &&& (15 : Int32)) (10 : Int32)) (.val (.int (own_rem (((p6.toUInt32 >>> ((14 : Int32) &&& 31).toUInt32).toInt32) &&& (15 : Int32)) (10 : Int32)))) (own_rem ((own_rem (((p6.toUInt32 >>> ((10 : Int32) &&& 31).toUInt32).toInt32) &&& (15 : Int32)) (10 : Int32)) + (own_rem (((p6.toUInt32 >>> ((14 : Int32) &&& 31).toUInt32).toInt32) &&& (15 : Int32)) (10 : Int32))) (10 : Int32)) (.unset) (.unset) (.unset) (.unset) (.unset) (.unset) (.unset) (.unset) (.unset) XA hx hZ hw hby hml hown eA Z0 N0 ka kb (by rw [show (own_rem (((p6.toUInt32 >>> ((10 : Int32) &&& 31).toUInt32).toInt32) &&& (15 : Int32)) (10 : Int32)) = own_i nt from hnt]; exact MA) (by rw [hnq]; exact MB) (by first | exact own_oneU | exact own_oneI | exact own_oneR | assumption) (by first | exact own_oneU | exact own_oneI | exact own_oneR | assumption) (by first | exact own_oneU | exact own_oneI | exact own_oneR | assumption) (by first | exact own_oneU | exact own_oneI | exact own_oneR | assumption) (by first | exact own_oneU | exact own_oneI | exact own_oneR | assumption) (by first | exact own_oneU | exact own_oneI | exact own_oneR | assumption) (by first | exact own_oneU | exact own_oneI | exact own_oneR | assumption)
  obtain ⟨TC, XC, eC, stC⟩ := sgX (.val (.int p1)) (.val (.long q2)) (.second) (.val (.int p3)) (.val (.int p4)) (.val (.int p5)) (.val (.int p6)) (p6 &&& (3 : Int32)) (((p6.toUInt32 >>> ((2 : Int32) &&& 31).toUInt32).toInt32) &&& (3 : Int32)) (((p6.toUInt32 >>> ((4 : Int32) &&& 31).toUInt32).toInt32) &&& (3 : Int32)) (((p6.toUInt32 >>> ((6 : Int32) &&& 31).toUInt32).toInt32) &&& (3 : Int32)) (((p6.toUInt32 >>> ((8 : Int32) &&& 31).toUInt32).toInt32) &&& (3 : Int32)) (.val (.int (own_rem (((p6.toUInt32 >>> ((10 : Int32) &&& 31).toUInt32).toInt32) &&& (15 : Int32)) (10 : Int32)))) (own_rem (((p6.toUInt32 >>> ((14 : Int32) &&& 31).toUInt32).toInt32) &&& (15 : Int32)) (10 : Int32)) (.val (.int (own_rem ((own_rem (((p6.toUInt32 >>> ((10 : Int32) &&& 31).toUInt32).toInt32) &&& (15 : Int32)) (10 : Int32)) + (own_rem (((p6.toUInt32 >>> ((14 : Int32) &&& 31).toUInt32).toInt32) &&& (15 : Int32)) (10 : Int32))) (10 : Int32)))) (.val (.ref ka)) (.val (.ref kb)) (.val (.ref b9)) (.val (.int (p1 + (own_delta (p6 &&& (3 : Int32)))))) (.val (.long (q2 + (own_deltaL (((p6.toUInt32 >>> ((2 : Int32) &&& 31).toUInt32).toInt32) &&& (3 : Int32)))))) (.second) (.val (.int (p3 + (own_delta (((p6.toUInt32 >>> ((4 : Int32) &&& 31).toUInt32).toInt32) &&& (3 : Int32)))))) (.val (.int (p4 + (own_delta (((p6.toUInt32 >>> ((6 : Int32) &&& 31).toUInt32).toInt32) &&& (3 : Int32)))))) (.val (.int (p5 + (own_delta (((p6.toUInt32 >>> ((8 : Int32) &&& 31).toUInt32).toInt32) &&& (3 : Int32)))))) (.unset) (.unset) XB hx hZ hw hby hml hown (rfl : TB.heap = TB.heap) (by first | exact own_oneU | exact own_oneI | exact own_oneR | assumption)
  obtain ⟨TD, LD, XD, ND, stD⟩ := tn0_192_223_x (n0 := n0) (.val (.int p1)) (.val (.long q2)) (.second) (.val (.int p3)) (.val (.int p4)) (.val (.int p5)) (.val (.int p6)) (.val (.int (p6 &&& (3 : Int32)))) (.val (.int (((p6.toUInt32 >>> ((2 : Int32) &&& 31).toUInt32).toInt32) &&& (3 : Int32)))) (.val (.int (((p6.toUInt32 >>> ((4 : Int32) &&& 31).toUInt32).toInt32) &&& (3 : Int32)))) (.val (.int (((p6.toUInt32 >>> ((6 : Int32) &&& 31).toUInt32).toInt32) &&& (3 : Int32)))) (.val (.int (((p6.toUInt32 >>> ((8 : Int32) &&& 31).toUInt32).toInt32) &&& (3 : Int32)))) (.val (.int (own_rem (((p6.toUInt32 >>> ((10 : Int32) &&& 31).toUInt32).toInt32) &&& (15 : Int32)) (10 : Int32)))) (.val (.int (own_rem (((p6.toUInt32 >>> ((14 : Int32) &&& 31).toUInt32).toInt32) &&& (15 : Int32)) (10 : Int32)))) (.val (.int (own_rem ((own_rem (((p6.toUInt32 >>> ((10 : Int32) &&& 31).toUInt32).toInt32) &&& (15 : Int32)) (10 : Int32)) + (own_rem (((p6.toUInt32 >>> ((14 : Int32) &&& 31).toUInt32).toInt32) &&& (15 : Int32)) (10 : Int32))) (10 : Int32)))) (.val (.ref ka)) kb b9 (p1 + (own_delta (p6 &&& (3 : Int32)))) (q2 + (own_deltaL (((p6.toUInt32 >>> ((2 : Int32) &&& 31).toUInt32).toInt32) &&& (3 : Int32)))) (p3 + (own_delta (((p6.toUInt32 >>> ((4 : Int32) &&& 31).toUInt32).toInt32) &&& (3 : Int32)))) (p4 + (own_delta (((p6.toUInt32 >>> ((6 : Int32) &&& 31).toUInt32).toInt32) &&& (3 : Int32)))) (p5 + (own_delta (((p6.toUInt32 >>> ((8 : Int32) &&& 31).toUInt32).toInt32) &&& (3 : Int32)))) (own_exp (p6 &&& (3 : Int32)) (((p6.toUInt32 >>> ((2 : Int32) &&& 31).toUInt32).toInt32) &&& (3 : Int32)) (((p6.toUInt32 >>> ((4 : Int32) &&& 31).toUInt32).toInt32) &&& (3 : Int32)) (((p6.toUInt32 >>> ((6 : Int32) &&& 31).toUInt32).toInt32) &&& (3 : Int32)) (((p6.toUInt32 >>> ((8 : Int32) &&& 31).toUInt32).toInt32) &&& (3 : Int32)) (own_rem (((p6.toUInt32 >>> ((14 : Int32) &&& 31).toUInt32).toInt32) &&& (15 : Int32)) (10 : Int32))) (.unset) XC hx hZ hw hby hml hown eC ZB NB p1 q2 p3 ka p4 p5 G1 G2 G3 G4 G5 G6 (own_agree _ _ _ _ _ _ _ _ _ _ _ _ _ hkk) EB (by first | exact own_oneU | exact own_oneI | exact own_oneR | assumption)
  obtain ⟨fs, hr, hrun, hended, hW, hsame⟩ := XD.leave (v := some (.int (1 : Int32))) (fun h => by rw [Bd.returns] at h; cases h)
  refine ⟨_, _, pre0 _ ?_, hrun, hended, _, _, rfl, ?_, ⟨_, rfl⟩, hW, hsame.mono (by decide) (by decide)⟩
  · refine stA _ ?_
    refine stB _ ?_
    refine stC _ ?_
    refine stD _ ?_
    exact retN XD hx (t := .boolean) Bd.returns (by simp) (hb hby at_223) hr
  · show Ql (some (.int (1 : Int32))) n0 _ _
    exact ⟨rfl, ND⟩
theorem own_enumX {Z : State} {args : Array Value} {C n d K : String} (hx : (Cond.exactly (.static C n d) K).value args Z none Z [] = some true) (hi : (Cond.initialized C).before args Z = true) (hl : (Cond.laysStatic C n d).before args Z = true) : ∃ a, Sta Z Z.heap C n d (.ref a) ∧ Exa Z Z.heap a K := by
  obtain ⟨a, ev⟩ := exa_v hx
  exact ⟨a, Sta.start ev (Or.inr ⟨hi, hl⟩), Exa.start ev hx⟩
set_option maxRecDepth 65536 in
set_option maxHeartbeats 40000000 in
theorem comes_1 {Post : Tables → Env → Array Value → State → Outcome → State → Prop} (hpost : ∀ tb e args s v u, (limb_1_1.after args s (.returned v) u = true ∧ limb_1_2.after args s (.returned v) u = true ∧ True) → FrameEnd s (.returned v) u (Jvm.fieldLocs frame_1_writes args s ++ Jvm.arrayLocs frame_1_arrays args s ++ Jvm.staticLocs frame_1_statics s) 16 128 → Post tb e args s (.returned v) u) :
    ArmFor flags0 classFile x code maxLocals ret World_1 tables_1 room_1 Calls_1 rest_1 Pre_1 Post := by
  intro l hfl _ _ p e ha hc hk s m args below hf hA hF happ hP
  obtain ⟨hcalls, hrest, hpre⟩ := hP
  obtain ⟨-, -, -, hnamed, -, -, -, hat⟩ := (Spec.applies_iff hf).mp happ
  obtain ⟨hg, hn⟩ := and_e (Cond.before_iff.mp (show (Jvm.Cond.and given_1 narrow_1).before args s = true from hpre))
  obtain ⟨g17, g18⟩ := and_e hg
  obtain ⟨g19, g20⟩ := and_e g18
  obtain ⟨g21, g22⟩ := and_e g20
  obtain ⟨g23, g24⟩ := and_e g22
  obtain ⟨g25, g26⟩ := and_e g24
  obtain ⟨g27, g28⟩ := and_e g26
  obtain ⟨w0, w1, w2, w3, w4, w5, rfl⟩ : ∃ w0 w1 w2 w3 w4 w5 : Value, args = #[w0, w1, w2, w3, w4, w5] := by
    have hs : args.size = 6 := by simpa [Cond.value, given_1] using g17
    obtain ⟨L⟩ := args
    match L, hs with
    | [w0, w1, w2, w3, w4, w5], _ => exact ⟨w0, w1, w2, w3, w4, w5, rfl⟩
  have hw := fun d (hd : d ∈ tables_1) => atoms_spec (ws := Jvm.Cond.code x code maxLocals ret :: tables_1) hat d (List.mem_cons_of_mem _ hd)
  have hfit : Fit s := fun {y c} hc i hi => by
    obtain ⟨ha, rfl⟩ := Array.getElem?_eq_some_iff.mp hc
    have q := List.all_eq_true.mp ((Array.all_eq_true_iff_forall_mem.mp hF) _ (Array.getElem_mem ha)) i (List.mem_range.mpr hi)
    simpa [Array.getElem?_eq_getElem hi] using q
  obtain ⟨i0, ei0⟩ := is_v g19
  obtain rfl : w0 = (.int i0) := Option.some.inj ei0
  obtain ⟨i1, ei1⟩ := isL_v g21
  obtain rfl : w1 = (.long i1) := Option.some.inj ei1
  obtain ⟨i2, ei2⟩ := is_v g23
  obtain rfl : w2 = (.int i2) := Option.some.inj ei2
  obtain ⟨i3, ei3⟩ := is_v g25
  obtain rfl : w3 = (.int i3) := Option.some.inj ei3
  obtain ⟨i4, ei4⟩ := is_v g27
  obtain rfl : w4 = (.int i4) := Option.some.inj ei4
  obtain ⟨i5, ei5⟩ := is_v g28
  obtain rfl : w5 = (.int i5) := Option.some.inj ei5
  obtain ⟨nw0, nx0⟩ := and_e hn
  obtain ⟨nw1, nx1⟩ := and_e nx0
  obtain ⟨nw2, nx2⟩ := and_e nx1
  obtain ⟨nw3, nx3⟩ := and_e nx2
  obtain ⟨nw4, nx4⟩ := and_e nx3
  obtain ⟨nw5, nx5⟩ := and_e nx4
  obtain ⟨nw6, nx6⟩ := and_e nx5
  obtain ⟨nw7, nx7⟩ := and_e nx6
  obtain ⟨nw8, nx8⟩ := and_e nx7
  obtain ⟨k_BYTE, S_BYTE, E_BYTE⟩ := own_enumX nw0 (hw _ (List.mem_of_getElem? (i := 5) rfl)) (hw _ (List.mem_of_getElem? (i := 6) rfl))
  obtain ⟨k_LONG, S_LONG, E_LONG⟩ := own_enumX nw1 (hw _ (List.mem_of_getElem? (i := 5) rfl)) (hw _ (List.mem_of_getElem? (i := 48) rfl))
  obtain ⟨k_INT, S_INT, E_INT⟩ := own_enumX nw2 (hw _ (List.mem_of_getElem? (i := 5) rfl)) (hw _ (List.mem_of_getElem? (i := 50) rfl))
  obtain ⟨k_FLOAT, S_FLOAT, E_FLOAT⟩ := own_enumX nw3 (hw _ (List.mem_of_getElem? (i := 5) rfl)) (hw _ (List.mem_of_getElem? (i := 52) rfl))
  obtain ⟨k_CHAR, S_CHAR, E_CHAR⟩ := own_enumX nw4 (hw _ (List.mem_of_getElem? (i := 5) rfl)) (hw _ (List.mem_of_getElem? (i := 54) rfl))
  obtain ⟨k_OBJECT, S_OBJECT, E_OBJECT⟩ := own_enumX nw5 (hw _ (List.mem_of_getElem? (i := 5) rfl)) (hw _ (List.mem_of_getElem? (i := 56) rfl))
  obtain ⟨k_DOUBLE, S_DOUBLE, E_DOUBLE⟩ := own_enumX nw6 (hw _ (List.mem_of_getElem? (i := 5) rfl)) (hw _ (List.mem_of_getElem? (i := 58) rfl))
  obtain ⟨k_PACKED, S_PACKED, E_PACKED⟩ := own_enumX nw7 (hw _ (List.mem_of_getElem? (i := 5) rfl)) (hw _ (List.mem_of_getElem? (i := 60) rfl))
  obtain ⟨k_BOOLEAN, S_BOOLEAN, E_BOOLEAN⟩ := own_enumX nw8 (hw _ (List.mem_of_getElem? (i := 5) rfl)) (hw _ (List.mem_of_getElem? (i := 62) rfl))
  obtain ⟨k_SHORT, S_SHORT, E_SHORT⟩ := own_enumX nx8 (hw _ (List.mem_of_getElem? (i := 5) rfl)) (hw _ (List.mem_of_getElem? (i := 64) rfl))
  obtain ⟨n, o, h1, h2, h3, _, L, rfl, ⟨rfl, N⟩, hq⟩ := rm0 l s _ hw tables_1 i0 i1 i2 i3 i4 i5 s.heap s.heap.size (Nat.le_refl _) k_BYTE S_BYTE E_BYTE k_CHAR S_CHAR E_CHAR k_SHORT S_SHORT E_SHORT k_BOOLEAN S_BOOLEAN E_BOOLEAN k_INT S_INT E_INT k_LONG S_LONG E_LONG k_FLOAT S_FLOAT E_FLOAT k_DOUBLE S_DOUBLE E_DOUBLE k_OBJECT S_OBJECT E_OBJECT k_PACKED S_PACKED E_PACKED p e ha hc hk s m _ below hf ((Spec.applies_iff_loose hf).mp happ).1 ⟨rfl, State.Warmed39.refl s, rfl⟩ trivial
  refine ⟨n, _, h1, h2, h3, hpost _ _ _ _ _ _ ⟨Cond.after_iff.mpr rfl, Cond.after_iff.mpr (eq_i res_at (Term.int_eval (1)) rfl), trivial⟩ ⟨hq.1, hq.2.1, (hq.2.2.sift fun y hy => Or.inr (N y hy)).mono (by decide) (by decide)⟩⟩
theorem main_1_1 : Claimed_1_1 := comes_1 fun _ _ _ _ _ _ h hF => ⟨h.1, hF⟩
theorem main_1_2 : Claimed_1_2 := comes_1 fun _ _ _ _ _ _ h hF => ⟨h.2.1, hF⟩
end Jvm.Pilot.@@N@@
namespace Jvm.Pilot.@@N@@
open Jvm Jvm.ClassFile Sem Op Lib Jvm.Free Jvm.Stand Jvm.Pilot.@@N@@.Jvm.D
/-! MADE BY PROGRAM (witnessworld.py) out of the Statement's table words and the real class files: 24 classes; the members and pool entries that the words name. The judged class is class 1, her method 4. -/
namespace start1
open Jvm.ClassFile
def u (s : String) : CpInfo := .utf8 (stringToUtf16 s)
/-- a pool by its gaps: so many unusable entries, then the entry; so many at the end -/
def gap : Nat → List CpInfo → List CpInfo
  | 0, r => r
  | n + 1, r => .unusable :: gap n r
def poolList (es : List (Nat × CpInfo)) (last : Nat) : List CpInfo := es.foldr (fun e r => gap e.1 (e.2 :: r)) (gap last [])
def pool (es : List (Nat × CpInfo)) (last : Nat) : Array CpInfo := ⟨poolList es last⟩
def fileOf (pool : Array CpInfo) (this : Nat) (attrs : Array Attribute := #[]) (ms : Array MethodInfo := #[]) (fl : Nat := 33) (sup : Nat := 0) (ifs : Array Nat := #[]) (fds : Array FieldInfo := #[]) : ClassFile where
  minorVersion := 0
  majorVersion := 65
  constantPool := pool
  accessFlags := fl
  thisClass := this
  superClass := sup
  interfaces := ifs
  fields := fds
  methods := ms
  attributes := attrs
def plain (name : String) (sup : Option ClassId) : Class where
  name := name
  kind := .ordinary
  loader := none
  accessFlags := 33
  super := sup
  interfaces := #[]
  cf := none
  fields := #[]
  methods := #[]
  instanceTypes := #[]
  staticTypes := #[]
  resolved := #[]
  callSites := []
  init := .initialized
  statics := none
  mirror := none

def pool0 : Array CpInfo := pool [(5, u "<init>"), (0, u "()V"), (1, .class_ 10), (1, u "java/lang/Object")] 113

def k0c0 : Code := { maxStack := 0, maxLocals := 1, code := object_method_1_code, exceptionTable := #[], attributes := #[] }
def k0m0 : Method := { name := "<init>", desc := "()V", sig := { parameters := [], returnType := none }, accessFlags := 1, code := some k0c0 }
/-- java/lang/Object -/
def k0 : Class := { plain "java/lang/Object" none with
  accessFlags := 33
  interfaces := #[]
  cf := some (fileOf pool0 8 #[] #[{ accessFlags := 1, nameIndex := 5, descriptorIndex := 6, attributes := #[] }] 33 0 #[] #[])
  fields := #[]
  methods := #[k0m0]
  instanceTypes := #[]
  staticTypes := #[]
  resolved := Array.replicate 124 none
  statics := none }

def pool1 : Array CpInfo := pool [(2, .class_ 4), (1, u "java/lang/Object"), (0, u "<init>"), (0, u "()V"), (2, .integer 2147483648), (0, .long 18446744073709551615), (3, .long 9223372036854775808), (1, .fieldref 17 18), (0, .class_ 19), (0, .nameAndType 20 21), (0, u "com/example/cablegram/cablegram/engine/ElementType"), (0, u "BYTE"), (0, u "Lcom/example/cablegram/cablegram/engine/ElementType;"), (0, .fieldref 17 23), (0, .nameAndType 24 21), (0, u "CHAR"), (0, .fieldref 17 26), (0, .nameAndType 27 21), (0, u "SHORT"), (0, .fieldref 17 29), (0, .nameAndType 30 21), (0, u "BOOLEAN"), (0, .fieldref 17 32), (0, .nameAndType 33 21), (0, u "INT"), (0, .fieldref 17 35), (0, .nameAndType 36 21), (0, u "LONG"), (0, .fieldref 17 38), (0, .nameAndType 39 21), (0, u "FLOAT"), (0, .fieldref 17 41), (0, .nameAndType 42 21), (0, u "DOUBLE"), (0, .fieldref 17 44), (0, .nameAndType 45 21), (0, u "OBJECT"), (0, .fieldref 17 47), (0, .nameAndType 48 21), (0, u "PACKED"), (0, .methodref 50 51), (0, .class_ 52), (0, .nameAndType 53 54), (0, u "com/example/cablegram/cablegram/engine/EnvelopeIsPinLaw"), (0, u "typeOf"), (0, u "(I)Lcom/example/cablegram/cablegram/engine/ElementType;"), (0, .class_ 56), (0, u "com/example/cablegram/cablegram/engine/Envelope"), (0, .methodref 55 58), (0, .nameAndType 5 59), (0, u "(IJILcom/example/cablegram/cablegram/engine/ElementType;II)V"), (0, .methodref 50 61), (0, .nameAndType 62 63), (0, u "delta"), (0, u "(I)I"), (0, .methodref 50 65), (0, .nameAndType 66 67), (0, u "deltaLong"), (0, u "(I)J"), (0, .methodref 55 69), (0, .nameAndType 70 71), (0, u "is"), (0, u "(IJILcom/example/cablegram/cablegram/engine/ElementType;II)Z"), (3, u "law"), (0, u "(IJIIII)Z")] 2

def k1m0 : Method := { name := "<init>", desc := "()V", sig := { parameters := [], returnType := none }, accessFlags := 1, code := none }
def k1c1 : Code := { maxStack := 2, maxLocals := 1, code := method_2_code, exceptionTable := #[], attributes := #[] }
def k1m1 : Method := { name := "delta", desc := "(I)I", sig := { parameters := [.int], returnType := some .int }, accessFlags := 10, code := some k1c1 }
def k1c2 : Code := { maxStack := 2, maxLocals := 1, code := method_3_code, exceptionTable := #[], attributes := #[] }
def k1m2 : Method := { name := "deltaLong", desc := "(I)J", sig := { parameters := [.int], returnType := some .long }, accessFlags := 10, code := some k1c2 }
def k1c3 : Code := { maxStack := 2, maxLocals := 1, code := method_4_code, exceptionTable := #[], attributes := #[] }
def k1m3 : Method := { name := "typeOf", desc := "(I)Lcom/example/cablegram/cablegram/engine/ElementType;", sig := { parameters := [.int], returnType := some (.object "com/example/cablegram/cablegram/engine/ElementType") }, accessFlags := 10, code := some k1c3 }
def k1c4 : Code := { maxStack := 9, maxLocals := 26, code := code, exceptionTable := #[], attributes := #[] }
def k1m4 : Method := { name := "law", desc := "(IJIIII)Z", sig := { parameters := [.int, .long, .int, .int, .int, .int], returnType := some .boolean }, accessFlags := 9, code := some k1c4 }
/-- com/example/cablegram/cablegram/engine/EnvelopeIsPinLaw -/
def k1 : Class := { plain "com/example/cablegram/cablegram/engine/EnvelopeIsPinLaw" (some 0) with
  accessFlags := 49
  interfaces := #[]
  cf := some (fileOf pool1 50 #[] #[{ accessFlags := 1, nameIndex := 5, descriptorIndex := 6, attributes := #[] }, { accessFlags := 10, nameIndex := 62, descriptorIndex := 63, attributes := #[] }, { accessFlags := 10, nameIndex := 66, descriptorIndex := 67, attributes := #[] }, { accessFlags := 10, nameIndex := 53, descriptorIndex := 54, attributes := #[] }, { accessFlags := 9, nameIndex := 75, descriptorIndex := 76, attributes := #[] }] 49 2 #[] #[])
  fields := #[]
  methods := #[k1m0, k1m1, k1m2, k1m3, k1m4]
  instanceTypes := #[]
  staticTypes := #[]
  resolved := Array.replicate 79 none
  statics := none }

def pool2 : Array CpInfo := pool [(1, .class_ 2), (0, u "java/lang/constant/Constable"), (0, .class_ 4), (0, u "java/lang/Object")] 6

/-- java/lang/constant/Constable -/
def k2 : Class := { plain "java/lang/constant/Constable" (some 0) with
  accessFlags := 1537
  interfaces := #[]
  cf := some (fileOf pool2 1 #[] #[] 1537 3 #[] #[])
  fields := #[]
  methods := #[]
  instanceTypes := #[]
  staticTypes := #[]
  resolved := Array.replicate 11 none
  statics := none }

def pool3 : Array CpInfo := pool [(1, .class_ 2), (0, u "java/lang/Comparable"), (0, .class_ 4), (0, u "java/lang/Object")] 7

/-- java/lang/Comparable -/
def k3 : Class := { plain "java/lang/Comparable" (some 0) with
  accessFlags := 1537
  interfaces := #[]
  cf := some (fileOf pool3 1 #[] #[] 1537 3 #[] #[])
  fields := #[]
  methods := #[]
  instanceTypes := #[]
  staticTypes := #[]
  resolved := Array.replicate 12 none
  statics := none }

def pool4 : Array CpInfo := pool [(1, .class_ 2), (0, u "java/io/Serializable"), (0, .class_ 4), (0, u "java/lang/Object")] 2

/-- java/io/Serializable -/
def k4 : Class := { plain "java/io/Serializable" (some 0) with
  accessFlags := 1537
  interfaces := #[]
  cf := some (fileOf pool4 1 #[] #[] 1537 3 #[] #[])
  fields := #[]
  methods := #[]
  instanceTypes := #[]
  staticTypes := #[]
  resolved := Array.replicate 7 none
  statics := none }

def pool5 : Array CpInfo := pool [(2, .class_ 4), (1, u "java/lang/Enum"), (0, u "name"), (0, u "Ljava/lang/String;"), (2, u "ordinal"), (0, u "I"), (1, .class_ 14), (1, u "java/lang/Object"), (4, u "hash"), (86, .class_ 108), (1, u "java/lang/Enum$EnumDesc"), (2, .class_ 112), (0, u "java/lang/constant/Constable"), (0, .class_ 114), (0, u "java/lang/Comparable"), (0, .class_ 116), (0, u "java/io/Serializable")] 87

/-- java/lang/Enum -/
def k5 : Class := { plain "java/lang/Enum" (some 0) with
  accessFlags := 1057
  interfaces := #[2, 3, 4]
  cf := some (fileOf pool5 2 #[.nestMembers #[106]] #[] 1057 12 #[111, 113, 115] #[{ accessFlags := 18, nameIndex := 5, descriptorIndex := 6, attributes := #[] }, { accessFlags := 18, nameIndex := 9, descriptorIndex := 10, attributes := #[] }, { accessFlags := 2, nameIndex := 19, descriptorIndex := 10, attributes := #[] }])
  fields := #[{ name := "name", type := (.object "java/lang/String"), accessFlags := 18, slot := 0, constantValue := 0 }, { name := "ordinal", type := .int, accessFlags := 18, slot := 1, constantValue := 0 }, { name := "hash", type := .int, accessFlags := 2, slot := 2, constantValue := 0 }]
  methods := #[]
  instanceTypes := #[(.object "java/lang/String"), .int, .int]
  staticTypes := #[]
  resolved := Array.replicate 204 none
  statics := none }

def pool6 : Array CpInfo := pool [(1, .class_ 2), (0, u "com/example/cablegram/cablegram/engine/ElementType"), (2, u "BYTE"), (0, u "Lcom/example/cablegram/cablegram/engine/ElementType;"), (2, u "CHAR"), (2, u "SHORT"), (2, u "BOOLEAN"), (2, u "INT"), (2, u "LONG"), (2, u "FLOAT"), (2, u "DOUBLE"), (2, u "OBJECT"), (2, u "PACKED"), (2, u "$VALUES"), (0, u "[Lcom/example/cablegram/cablegram/engine/ElementType;"), (6, .class_ 46), (1, u "java/lang/Enum"), (8, u "code"), (0, u "B"), (2, u "size"), (0, u "I"), (8, u "shift"), (2, u "arrayClass"), (0, u "Ljava/lang/Class;"), (2, u "BY_CODE"), (92, .class_ 170), (0, u "com/example/cablegram/cablegram/engine/ElementType$1"), (4, .class_ 176), (0, u "com/example/cablegram/cablegram/engine/ElementType$2"), (4, .class_ 182), (0, u "com/example/cablegram/cablegram/engine/ElementType$3"), (4, .class_ 188), (0, u "com/example/cablegram/cablegram/engine/ElementType$4"), (4, .class_ 194), (0, u "com/example/cablegram/cablegram/engine/ElementType$5"), (4, .class_ 200), (0, u "com/example/cablegram/cablegram/engine/ElementType$6"), (4, .class_ 206), (0, u "com/example/cablegram/cablegram/engine/ElementType$7"), (4, .class_ 212), (0, u "com/example/cablegram/cablegram/engine/ElementType$8"), (4, .class_ 218), (0, u "com/example/cablegram/cablegram/engine/ElementType$9"), (4, .class_ 224), (0, u "com/example/cablegram/cablegram/engine/ElementType$10"), (5, u "IN_PIECES"), (0, u "Ljava/lang/String;"), (3, u "FEW_BYTES")] 42

/-- com/example/cablegram/cablegram/engine/ElementType -/
def k6 : Class := { plain "com/example/cablegram/cablegram/engine/ElementType" (some 5) with
  accessFlags := 17441
  interfaces := #[]
  cf := some (fileOf pool6 1 #[.nestMembers #[223, 217, 211, 205, 199, 193, 187, 181, 175, 169]] #[] 17441 44 #[] #[{ accessFlags := 16409, nameIndex := 5, descriptorIndex := 6, attributes := #[] }, { accessFlags := 16409, nameIndex := 9, descriptorIndex := 6, attributes := #[] }, { accessFlags := 16409, nameIndex := 12, descriptorIndex := 6, attributes := #[] }, { accessFlags := 16409, nameIndex := 15, descriptorIndex := 6, attributes := #[] }, { accessFlags := 16409, nameIndex := 18, descriptorIndex := 6, attributes := #[] }, { accessFlags := 16409, nameIndex := 21, descriptorIndex := 6, attributes := #[] }, { accessFlags := 16409, nameIndex := 24, descriptorIndex := 6, attributes := #[] }, { accessFlags := 16409, nameIndex := 27, descriptorIndex := 6, attributes := #[] }, { accessFlags := 16409, nameIndex := 30, descriptorIndex := 6, attributes := #[] }, { accessFlags := 16409, nameIndex := 33, descriptorIndex := 6, attributes := #[] }, { accessFlags := 26, nameIndex := 230, descriptorIndex := 231, attributes := #[] }, { accessFlags := 26, nameIndex := 235, descriptorIndex := 60, attributes := #[] }, { accessFlags := 26, nameIndex := 76, descriptorIndex := 37, attributes := #[] }, { accessFlags := 18, nameIndex := 55, descriptorIndex := 56, attributes := #[] }, { accessFlags := 18, nameIndex := 59, descriptorIndex := 60, attributes := #[] }, { accessFlags := 18, nameIndex := 69, descriptorIndex := 60, attributes := #[] }, { accessFlags := 18, nameIndex := 72, descriptorIndex := 73, attributes := #[] }, { accessFlags := 4122, nameIndex := 36, descriptorIndex := 37, attributes := #[] }])
  fields := #[{ name := "BYTE", type := (.object "com/example/cablegram/cablegram/engine/ElementType"), accessFlags := 16409, slot := 0, constantValue := 0 }, { name := "CHAR", type := (.object "com/example/cablegram/cablegram/engine/ElementType"), accessFlags := 16409, slot := 1, constantValue := 0 }, { name := "SHORT", type := (.object "com/example/cablegram/cablegram/engine/ElementType"), accessFlags := 16409, slot := 2, constantValue := 0 }, { name := "BOOLEAN", type := (.object "com/example/cablegram/cablegram/engine/ElementType"), accessFlags := 16409, slot := 3, constantValue := 0 }, { name := "INT", type := (.object "com/example/cablegram/cablegram/engine/ElementType"), accessFlags := 16409, slot := 4, constantValue := 0 }, { name := "LONG", type := (.object "com/example/cablegram/cablegram/engine/ElementType"), accessFlags := 16409, slot := 5, constantValue := 0 }, { name := "FLOAT", type := (.object "com/example/cablegram/cablegram/engine/ElementType"), accessFlags := 16409, slot := 6, constantValue := 0 }, { name := "DOUBLE", type := (.object "com/example/cablegram/cablegram/engine/ElementType"), accessFlags := 16409, slot := 7, constantValue := 0 }, { name := "OBJECT", type := (.object "com/example/cablegram/cablegram/engine/ElementType"), accessFlags := 16409, slot := 8, constantValue := 0 }, { name := "PACKED", type := (.object "com/example/cablegram/cablegram/engine/ElementType"), accessFlags := 16409, slot := 9, constantValue := 0 }, { name := "IN_PIECES", type := (.object "java/lang/String"), accessFlags := 26, slot := 10, constantValue := 0 }, { name := "FEW_BYTES", type := .int, accessFlags := 26, slot := 11, constantValue := 0 }, { name := "BY_CODE", type := (.array (.object "com/example/cablegram/cablegram/engine/ElementType")), accessFlags := 26, slot := 12, constantValue := 0 }, { name := "code", type := .byte, accessFlags := 18, slot := 3, constantValue := 0 }, { name := "size", type := .int, accessFlags := 18, slot := 4, constantValue := 0 }, { name := "shift", type := .int, accessFlags := 18, slot := 5, constantValue := 0 }, { name := "arrayClass", type := (.object "java/lang/Class"), accessFlags := 18, slot := 6, constantValue := 0 }, { name := "$VALUES", type := (.array (.object "com/example/cablegram/cablegram/engine/ElementType")), accessFlags := 4122, slot := 13, constantValue := 0 }]
  methods := #[]
  instanceTypes := #[(.object "java/lang/String"), .int, .int, .byte, .int, .int, (.object "java/lang/Class")]
  staticTypes := #[(.object "com/example/cablegram/cablegram/engine/ElementType"), (.object "com/example/cablegram/cablegram/engine/ElementType"), (.object "com/example/cablegram/cablegram/engine/ElementType"), (.object "com/example/cablegram/cablegram/engine/ElementType"), (.object "com/example/cablegram/cablegram/engine/ElementType"), (.object "com/example/cablegram/cablegram/engine/ElementType"), (.object "com/example/cablegram/cablegram/engine/ElementType"), (.object "com/example/cablegram/cablegram/engine/ElementType"), (.object "com/example/cablegram/cablegram/engine/ElementType"), (.object "com/example/cablegram/cablegram/engine/ElementType"), (.object "java/lang/String"), .int, (.array (.object "com/example/cablegram/cablegram/engine/ElementType")), (.array (.object "com/example/cablegram/cablegram/engine/ElementType"))]
  resolved := Array.replicate 278 none
  statics := some 0 }

def pool7 : Array CpInfo := pool [(1, .methodref 2 3), (0, .class_ 4), (0, .nameAndType 5 6), (0, u "java/lang/Object"), (0, u "<init>"), (0, u "()V"), (0, .class_ 8), (0, u "java/lang/Record")] 13

def k7c0 : Code := { maxStack := 1, maxLocals := 1, code := jdk_30_method_1_code, exceptionTable := #[], attributes := #[] }
def k7m0 : Method := { name := "<init>", desc := "()V", sig := { parameters := [], returnType := none }, accessFlags := 4, code := some k7c0 }
/-- java/lang/Record -/
def k7 : Class := { plain "java/lang/Record" (some 0) with
  accessFlags := 1057
  interfaces := #[]
  cf := some (fileOf pool7 7 #[] #[{ accessFlags := 4, nameIndex := 5, descriptorIndex := 6, attributes := #[] }] 1057 2 #[] #[])
  fields := #[]
  methods := #[k7m0]
  instanceTypes := #[]
  staticTypes := #[]
  resolved := Array.replicate 22 none
  statics := none }

def pool8 : Array CpInfo := pool [(3, .methodref 4 5), (0, .class_ 6), (0, .nameAndType 7 8), (0, u "java/lang/Record"), (0, u "<init>"), (0, u "()V"), (0, .fieldref 10 11), (0, .class_ 12), (0, .nameAndType 13 14), (0, u "com/example/cablegram/cablegram/engine/Envelope"), (0, u "source"), (0, u "I"), (0, .fieldref 10 16), (0, .nameAndType 17 18), (0, u "context"), (0, u "J"), (0, .fieldref 10 20), (0, .nameAndType 21 14), (0, u "tag"), (0, .fieldref 10 23), (0, .nameAndType 24 25), (0, u "type"), (0, u "Lcom/example/cablegram/cablegram/engine/ElementType;"), (0, .fieldref 10 27), (0, .nameAndType 28 14), (0, u "count"), (0, .fieldref 10 30), (0, .nameAndType 31 14), (0, u "entries"), (2, u "(IJILcom/example/cablegram/cablegram/engine/ElementType;II)V"), (31, u "ANY_SOURCE"), (2, u "ANY_TAG"), (1, u "ANY_LIBRARY_TAG"), (6, u "is"), (0, u "(IJILcom/example/cablegram/cablegram/engine/ElementType;II)Z")] 41

def k8c0 : Code := { maxStack := 3, maxLocals := 8, code := prog_30_method_2_code, exceptionTable := #[], attributes := #[] }
def k8m0 : Method := { name := "<init>", desc := "(IJILcom/example/cablegram/cablegram/engine/ElementType;II)V", sig := { parameters := [.int, .long, .int, (.object "com/example/cablegram/cablegram/engine/ElementType"), .int, .int], returnType := none }, accessFlags := 1, code := some k8c0 }
def k8c1 : Code := { maxStack := 4, maxLocals := 8, code := prog_30_method_4_code, exceptionTable := #[], attributes := #[] }
def k8m1 : Method := { name := "is", desc := "(IJILcom/example/cablegram/cablegram/engine/ElementType;II)Z", sig := { parameters := [.int, .long, .int, (.object "com/example/cablegram/cablegram/engine/ElementType"), .int, .int], returnType := some .boolean }, accessFlags := 0, code := some k8c1 }
/-- com/example/cablegram/cablegram/engine/Envelope -/
def k8 : Class := { plain "com/example/cablegram/cablegram/engine/Envelope" (some 7) with
  accessFlags := 49
  interfaces := #[]
  cf := some (fileOf pool8 10 #[] #[{ accessFlags := 1, nameIndex := 7, descriptorIndex := 34, attributes := #[] }, { accessFlags := 0, nameIndex := 78, descriptorIndex := 79, attributes := #[] }] 49 4 #[] #[{ accessFlags := 18, nameIndex := 13, descriptorIndex := 14, attributes := #[] }, { accessFlags := 18, nameIndex := 17, descriptorIndex := 18, attributes := #[] }, { accessFlags := 18, nameIndex := 21, descriptorIndex := 14, attributes := #[] }, { accessFlags := 18, nameIndex := 24, descriptorIndex := 25, attributes := #[] }, { accessFlags := 18, nameIndex := 28, descriptorIndex := 14, attributes := #[] }, { accessFlags := 18, nameIndex := 31, descriptorIndex := 14, attributes := #[] }, { accessFlags := 25, nameIndex := 66, descriptorIndex := 14, attributes := #[] }, { accessFlags := 25, nameIndex := 69, descriptorIndex := 14, attributes := #[] }, { accessFlags := 25, nameIndex := 71, descriptorIndex := 14, attributes := #[] }])
  fields := #[{ name := "source", type := .int, accessFlags := 18, slot := 0, constantValue := 0 }, { name := "context", type := .long, accessFlags := 18, slot := 1, constantValue := 0 }, { name := "tag", type := .int, accessFlags := 18, slot := 2, constantValue := 0 }, { name := "type", type := (.object "com/example/cablegram/cablegram/engine/ElementType"), accessFlags := 18, slot := 3, constantValue := 0 }, { name := "count", type := .int, accessFlags := 18, slot := 4, constantValue := 0 }, { name := "entries", type := .int, accessFlags := 18, slot := 5, constantValue := 0 }, { name := "ANY_SOURCE", type := .int, accessFlags := 25, slot := 0, constantValue := 0 }, { name := "ANY_TAG", type := .int, accessFlags := 25, slot := 1, constantValue := 0 }, { name := "ANY_LIBRARY_TAG", type := .int, accessFlags := 25, slot := 2, constantValue := 0 }]
  methods := #[k8m0, k8m1]
  instanceTypes := #[.int, .long, .int, (.object "com/example/cablegram/cablegram/engine/ElementType"), .int, .int]
  staticTypes := #[.int, .int, .int]
  resolved := Array.replicate 121 none
  statics := none }

def pool9 : Array CpInfo := pool [(2, .class_ 4), (1, u "com/example/cablegram/cablegram/engine/ElementType"), (13, .class_ 19), (0, u "com/example/cablegram/cablegram/engine/ElementType$1")] 11

/-- com/example/cablegram/cablegram/engine/ElementType$1 -/
def k9 : Class := { plain "com/example/cablegram/cablegram/engine/ElementType$1" (some 6) with
  accessFlags := 16432
  interfaces := #[]
  cf := some (fileOf pool9 18 #[.nestHost 2] #[] 16432 2 #[] #[])
  fields := #[]
  methods := #[]
  instanceTypes := #[(.object "java/lang/String"), .int, .int, .byte, .int, .int, (.object "java/lang/Class")]
  staticTypes := #[]
  resolved := Array.replicate 31 none
  statics := none }

def pool10 : Array CpInfo := pool [(2, .class_ 4), (1, u "com/example/cablegram/cablegram/engine/ElementType"), (25, .class_ 32), (1, u "com/example/cablegram/cablegram/engine/ElementType$6")] 19

/-- com/example/cablegram/cablegram/engine/ElementType$6 -/
def k10 : Class := { plain "com/example/cablegram/cablegram/engine/ElementType$6" (some 6) with
  accessFlags := 16432
  interfaces := #[]
  cf := some (fileOf pool10 30 #[.nestHost 2] #[] 16432 2 #[] #[])
  fields := #[]
  methods := #[]
  instanceTypes := #[(.object "java/lang/String"), .int, .int, .byte, .int, .int, (.object "java/lang/Class")]
  staticTypes := #[]
  resolved := Array.replicate 52 none
  statics := none }

def pool11 : Array CpInfo := pool [(2, .class_ 4), (1, u "com/example/cablegram/cablegram/engine/ElementType"), (25, .class_ 32), (1, u "com/example/cablegram/cablegram/engine/ElementType$5")] 19

/-- com/example/cablegram/cablegram/engine/ElementType$5 -/
def k11 : Class := { plain "com/example/cablegram/cablegram/engine/ElementType$5" (some 6) with
  accessFlags := 16432
  interfaces := #[]
  cf := some (fileOf pool11 30 #[.nestHost 2] #[] 16432 2 #[] #[])
  fields := #[]
  methods := #[]
  instanceTypes := #[(.object "java/lang/String"), .int, .int, .byte, .int, .int, (.object "java/lang/Class")]
  staticTypes := #[]
  resolved := Array.replicate 52 none
  statics := none }

def pool12 : Array CpInfo := pool [(2, .class_ 4), (1, u "com/example/cablegram/cablegram/engine/ElementType"), (25, .class_ 32), (1, u "com/example/cablegram/cablegram/engine/ElementType$7")] 19

/-- com/example/cablegram/cablegram/engine/ElementType$7 -/
def k12 : Class := { plain "com/example/cablegram/cablegram/engine/ElementType$7" (some 6) with
  accessFlags := 16432
  interfaces := #[]
  cf := some (fileOf pool12 30 #[.nestHost 2] #[] 16432 2 #[] #[])
  fields := #[]
  methods := #[]
  instanceTypes := #[(.object "java/lang/String"), .int, .int, .byte, .int, .int, (.object "java/lang/Class")]
  staticTypes := #[]
  resolved := Array.replicate 52 none
  statics := none }

def pool13 : Array CpInfo := pool [(2, .class_ 4), (1, u "com/example/cablegram/cablegram/engine/ElementType"), (25, .class_ 32), (1, u "com/example/cablegram/cablegram/engine/ElementType$2")] 19

/-- com/example/cablegram/cablegram/engine/ElementType$2 -/
def k13 : Class := { plain "com/example/cablegram/cablegram/engine/ElementType$2" (some 6) with
  accessFlags := 16432
  interfaces := #[]
  cf := some (fileOf pool13 30 #[.nestHost 2] #[] 16432 2 #[] #[])
  fields := #[]
  methods := #[]
  instanceTypes := #[(.object "java/lang/String"), .int, .int, .byte, .int, .int, (.object "java/lang/Class")]
  staticTypes := #[]
  resolved := Array.replicate 52 none
  statics := none }

def pool14 : Array CpInfo := pool [(1, .class_ 2), (0, u "com/example/cablegram/cablegram/engine/ElementType"), (27, .class_ 31), (0, u "com/example/cablegram/cablegram/engine/ElementType$9")] 21

/-- com/example/cablegram/cablegram/engine/ElementType$9 -/
def k14 : Class := { plain "com/example/cablegram/cablegram/engine/ElementType$9" (some 6) with
  accessFlags := 16432
  interfaces := #[]
  cf := some (fileOf pool14 30 #[.nestHost 1] #[] 16432 1 #[] #[])
  fields := #[]
  methods := #[]
  instanceTypes := #[(.object "java/lang/String"), .int, .int, .byte, .int, .int, (.object "java/lang/Class")]
  staticTypes := #[]
  resolved := Array.replicate 53 none
  statics := none }

def pool15 : Array CpInfo := pool [(2, .class_ 4), (1, u "com/example/cablegram/cablegram/engine/ElementType"), (25, .class_ 32), (1, u "com/example/cablegram/cablegram/engine/ElementType$8")] 19

/-- com/example/cablegram/cablegram/engine/ElementType$8 -/
def k15 : Class := { plain "com/example/cablegram/cablegram/engine/ElementType$8" (some 6) with
  accessFlags := 16432
  interfaces := #[]
  cf := some (fileOf pool15 30 #[.nestHost 2] #[] 16432 2 #[] #[])
  fields := #[]
  methods := #[]
  instanceTypes := #[(.object "java/lang/String"), .int, .int, .byte, .int, .int, (.object "java/lang/Class")]
  staticTypes := #[]
  resolved := Array.replicate 52 none
  statics := none }

def pool16 : Array CpInfo := pool [(2, .class_ 4), (1, u "com/example/cablegram/cablegram/engine/ElementType"), (3, .class_ 10), (1, u "com/example/cablegram/cablegram/engine/ElementType$10")] 17

/-- com/example/cablegram/cablegram/engine/ElementType$10 -/
def k16 : Class := { plain "com/example/cablegram/cablegram/engine/ElementType$10" (some 6) with
  accessFlags := 16432
  interfaces := #[]
  cf := some (fileOf pool16 8 #[.nestHost 2] #[] 16432 2 #[] #[])
  fields := #[]
  methods := #[]
  instanceTypes := #[(.object "java/lang/String"), .int, .int, .byte, .int, .int, (.object "java/lang/Class")]
  staticTypes := #[]
  resolved := Array.replicate 28 none
  statics := none }

def pool17 : Array CpInfo := pool [(2, .class_ 4), (1, u "com/example/cablegram/cablegram/engine/ElementType"), (14, .class_ 20), (0, u "com/example/cablegram/cablegram/engine/ElementType$4")] 14

/-- com/example/cablegram/cablegram/engine/ElementType$4 -/
def k17 : Class := { plain "com/example/cablegram/cablegram/engine/ElementType$4" (some 6) with
  accessFlags := 16432
  interfaces := #[]
  cf := some (fileOf pool17 19 #[.nestHost 2] #[] 16432 2 #[] #[])
  fields := #[]
  methods := #[]
  instanceTypes := #[(.object "java/lang/String"), .int, .int, .byte, .int, .int, (.object "java/lang/Class")]
  staticTypes := #[]
  resolved := Array.replicate 35 none
  statics := none }

def pool18 : Array CpInfo := pool [(2, .class_ 4), (1, u "com/example/cablegram/cablegram/engine/ElementType"), (25, .class_ 32), (1, u "com/example/cablegram/cablegram/engine/ElementType$3")] 19

/-- com/example/cablegram/cablegram/engine/ElementType$3 -/
def k18 : Class := { plain "com/example/cablegram/cablegram/engine/ElementType$3" (some 6) with
  accessFlags := 16432
  interfaces := #[]
  cf := some (fileOf pool18 30 #[.nestHost 2] #[] 16432 2 #[] #[])
  fields := #[]
  methods := #[]
  instanceTypes := #[(.object "java/lang/String"), .int, .int, .byte, .int, .int, (.object "java/lang/Class")]
  staticTypes := #[]
  resolved := Array.replicate 52 none
  statics := none }

def pool19 : Array CpInfo := pool [(1, u "java/lang/Cloneable"), (0, .class_ 1), (0, u "java/lang/Object"), (0, .class_ 3)] 3

/-- java/lang/Cloneable -/
def k19 : Class := { plain "java/lang/Cloneable" (some 0) with
  accessFlags := 1537
  interfaces := #[]
  cf := some (fileOf pool19 2 #[] #[] 1537 4 #[] #[])
  fields := #[]
  methods := #[]
  instanceTypes := #[]
  staticTypes := #[]
  resolved := Array.replicate 8 none
  statics := none }

/-- the primitive byte -/
def k20 : Class := { plain "byte" none with kind := .primitive 'B', accessFlags := 0x411 }
/-- [B -/
def k21 : Class := { plain "[B" (some 0) with kind := .array 20 .byte, interfaces := #[19, 4], accessFlags := 1041 }

/-- the primitive int -/
def k22 : Class := { plain "int" none with kind := .primitive 'I', accessFlags := 0x411 }
/-- [I -/
def k23 : Class := { plain "[I" (some 0) with kind := .array 22 .int, interfaces := #[19, 4], accessFlags := 1041 }

def heap : Heap := #[{ cls := 6, slots := #[.ref 1, .ref 5, .ref 10, .ref 9, .ref 3, .ref 2, .ref 4, .ref 7, .ref 6, .ref 8, .null, .int 0, .null, .null], vm := .statics 6 },
  { cls := 9, slots := #[.null, .int 0, .int 0, .int 0, .int 0, .int 0, .null], vm := .none },
  { cls := 10, slots := #[.null, .int 0, .int 0, .int 0, .int 0, .int 0, .null], vm := .none },
  { cls := 11, slots := #[.null, .int 0, .int 0, .int 0, .int 0, .int 0, .null], vm := .none },
  { cls := 12, slots := #[.null, .int 0, .int 0, .int 0, .int 0, .int 0, .null], vm := .none },
  { cls := 13, slots := #[.null, .int 0, .int 0, .int 0, .int 0, .int 0, .null], vm := .none },
  { cls := 14, slots := #[.null, .int 0, .int 0, .int 0, .int 0, .int 0, .null], vm := .none },
  { cls := 15, slots := #[.null, .int 0, .int 0, .int 0, .int 0, .int 0, .null], vm := .none },
  { cls := 16, slots := #[.null, .int 0, .int 0, .int 0, .int 0, .int 0, .null], vm := .none },
  { cls := 17, slots := #[.null, .int 0, .int 0, .int 0, .int 0, .int 0, .null], vm := .none },
  { cls := 18, slots := #[.null, .int 0, .int 0, .int 0, .int 0, .int 0, .null], vm := .none }]
def classes : Array Class := #[k0, k1, k2, k3, k4, k5, k6, k7, k8, k9, k10, k11, k12, k13, k14, k15, k16, k17, k18, k19, k20, k21, k22, k23]
def interned : List (Array UInt16 × Addr) := []
def slotsUsed : Nat := 84
def theMethod : MethodId := ⟨1, 4⟩
def args0 : Array Value := #[.int 5, .long 7, .int 3, .int 5, .int 6, .int 3]
def aboutOver (below : List Frame) : State where
  vm := { classes := classes, interned := interned.toArray }
  heap := heap
  slotsUsed := slotsUsed
  threads := #[{ frames := .invoking theMethod args0 :: below }]
def below0 : List Frame := [.native { method := ⟨0, 0⟩, args := #[] }]
def about1 : State := aboutOver below0
def p0 : Program := .bare "" "" ""
def e0 : Env := launch0.env 0 0 0
theorem w_frames : about1.frames = Frame.invoking theMethod args0 :: below0 := rfl
set_option maxRecDepth 65536 in
theorem w_args : argsFit about1.vm theMethod args0 = true := by decide +kernel
set_option maxRecDepth 65536 in
theorem w_heap : heapFits about1 = true := by decide +kernel
set_option maxRecDepth 65536 in
theorem w_runnable : about1.curStatus? = some .runnable := by decide +kernel
set_option maxRecDepth 65536 in
theorem w_alone : about1.alone = true := by decide +kernel
set_option maxRecDepth 65536 in
theorem w_named : about1.methodNamed? x = some theMethod := by decide +kernel
set_option maxRecDepth 65536 in
theorem w_hears : about1.hears theMethod below0 = true := by decide +kernel
set_option maxRecDepth 65536 in
theorem w_ripe : about1.ripe theMethod args0 below0 = true := by decide +kernel
theorem w_running : about1.status = .running := rfl
set_option maxRecDepth 65536 in
theorem w_room : about1.hasRoom e0.platform room_1 = true :=
  launch0.hasRoom_least _ room_1 (by decide +kernel) (by decide +kernel) (by decide +kernel) (by decide +kernel) (by decide +kernel) (by decide +kernel)
theorem allAtoms_all (ts : List Jvm.Cond) (a : Array Jvm.Value) (st : Jvm.State) : (allAtoms ts).before a st = ts.all (fun c => c.before a st) := by
  induction ts with
  | nil => rfl
  | cons c t ih =>
    show (Jvm.Cond.and c (allAtoms t)).before a st = _
    rw [Jvm.Cond.before_and, ih, List.all_cons]
def words1 : List Jvm.Cond := Jvm.Cond.code x code maxLocals ret :: tables_1
/-- a 'code' word, met by the world's own term for the bytes: nothing is compared byte by byte -/
theorem code_word {y : MethodName} {bytes : ByteArray} {mx : Nat} {rt : Option FieldType} {a : Array Value} {s : State} {m : MethodId} {meth : Method} {c : Code} (h1 : s.methodNamed? y = some m) (h2 : s.vm.method? m = some meth) (h3 : meth.code = some c) (h4 : c.code = bytes)
    (h5 : (c.maxLocals == mx && c.exceptionTable.isEmpty && decide (c.maxStack ≤ mostOperands) && decide (meth.sig.returnType = rt) && !meth.locks && decide (parseMethodDescriptor y.desc = some meth.sig)) = true) : (Jvm.Cond.code y bytes mx rt).before a s = true := by
  simp only [Bool.and_eq_true, beq_iff_eq, Bool.not_eq_true', decide_eq_true_eq] at h5
  obtain ⟨⟨⟨⟨⟨g1, g2⟩, g3⟩, g4⟩, g5⟩, g6⟩ := h5
  simp [Cond.before, Cond.holds, Cond.value, h1, h2, h3, h4, g1, g2, g3, g4, g5, g6]
def isCode : Jvm.Cond → Bool
  | .code _ _ _ _ => true
  | _ => false
theorem all_split {L : List Jvm.Cond} {P : Jvm.Cond → Bool} (h1 : L.all (fun c => isCode c || P c) = true) (h2 : ∀ c ∈ L.filter isCode, P c = true) : L.all P = true := by
  refine List.all_eq_true.mpr fun c hc => ?_
  have h := List.all_eq_true.mp h1 c hc
  rcases Bool.eq_false_or_eq_true (isCode c) with hi | hi
  · exact h2 c (List.mem_filter.mpr ⟨hc, hi⟩)
  · simpa [hi] using h
set_option maxRecDepth 65536 in
theorem w_c0 : (Jvm.Cond.code x code maxLocals ret).before args0 about1 = true := code_word (m := ⟨1, 4⟩) (meth := k1m4) (c := k1c4) (by decide +kernel) rfl rfl rfl (by decide +kernel)
set_option maxRecDepth 65536 in
theorem w_c1 : (Jvm.Cond.code ({ cls := "com/example/cablegram/cablegram/engine/EnvelopeIsPinLaw", name := "typeOf", desc := "(I)Lcom/example/cablegram/cablegram/engine/ElementType;" } : Jvm.MethodName) method_4_code (1 : Nat) (Option.some (Jvm.ClassFile.FieldType.object "com/example/cablegram/cablegram/engine/ElementType"))).before args0 about1 = true := code_word (m := ⟨1, 3⟩) (meth := k1m3) (c := k1c3) (by decide +kernel) rfl rfl rfl (by decide +kernel)
set_option maxRecDepth 65536 in
theorem w_c2 : (Jvm.Cond.code ({ cls := "com/example/cablegram/cablegram/engine/Envelope", name := "<init>", desc := "(IJILcom/example/cablegram/cablegram/engine/ElementType;II)V" } : Jvm.MethodName) prog_30_method_2_code (8 : Nat) (Option.none : Option Jvm.ClassFile.FieldType)).before args0 about1 = true := code_word (m := ⟨8, 0⟩) (meth := k8m0) (c := k8c0) (by decide +kernel) rfl rfl rfl (by decide +kernel)
set_option maxRecDepth 65536 in
theorem w_c3 : (Jvm.Cond.code ({ cls := "java/lang/Record", name := "<init>", desc := "()V" } : Jvm.MethodName) jdk_30_method_1_code (1 : Nat) (Option.none : Option Jvm.ClassFile.FieldType)).before args0 about1 = true := code_word (m := ⟨7, 0⟩) (meth := k7m0) (c := k7c0) (by decide +kernel) rfl rfl rfl (by decide +kernel)
set_option maxRecDepth 65536 in
theorem w_c4 : (Jvm.Cond.code ({ cls := "java/lang/Object", name := "<init>", desc := "()V" } : Jvm.MethodName) object_method_1_code (1 : Nat) (Option.none : Option Jvm.ClassFile.FieldType)).before args0 about1 = true := code_word (m := ⟨0, 0⟩) (meth := k0m0) (c := k0c0) (by decide +kernel) rfl rfl rfl (by decide +kernel)
set_option maxRecDepth 65536 in
theorem w_c5 : (Jvm.Cond.code ({ cls := "com/example/cablegram/cablegram/engine/EnvelopeIsPinLaw", name := "delta", desc := "(I)I" } : Jvm.MethodName) method_2_code (1 : Nat) (Option.some Jvm.ClassFile.FieldType.int)).before args0 about1 = true := code_word (m := ⟨1, 1⟩) (meth := k1m1) (c := k1c1) (by decide +kernel) rfl rfl rfl (by decide +kernel)
set_option maxRecDepth 65536 in
theorem w_c6 : (Jvm.Cond.code ({ cls := "com/example/cablegram/cablegram/engine/EnvelopeIsPinLaw", name := "deltaLong", desc := "(I)J" } : Jvm.MethodName) method_3_code (1 : Nat) (Option.some Jvm.ClassFile.FieldType.long)).before args0 about1 = true := code_word (m := ⟨1, 2⟩) (meth := k1m2) (c := k1c2) (by decide +kernel) rfl rfl rfl (by decide +kernel)
set_option maxRecDepth 65536 in
theorem w_c7 : (Jvm.Cond.code ({ cls := "com/example/cablegram/cablegram/engine/Envelope", name := "is", desc := "(IJILcom/example/cablegram/cablegram/engine/ElementType;II)Z" } : Jvm.MethodName) prog_30_method_4_code (8 : Nat) (Option.some Jvm.ClassFile.FieldType.boolean)).before args0 about1 = true := code_word (m := ⟨8, 1⟩) (meth := k8m1) (c := k8c1) (by decide +kernel) rfl rfl rfl (by decide +kernel)
def codes1 : List Jvm.Cond := [Jvm.Cond.code x code maxLocals ret, Jvm.Cond.code ({ cls := "com/example/cablegram/cablegram/engine/EnvelopeIsPinLaw", name := "typeOf", desc := "(I)Lcom/example/cablegram/cablegram/engine/ElementType;" } : Jvm.MethodName) method_4_code (1 : Nat) (Option.some (Jvm.ClassFile.FieldType.object "com/example/cablegram/cablegram/engine/ElementType")), Jvm.Cond.code ({ cls := "com/example/cablegram/cablegram/engine/Envelope", name := "<init>", desc := "(IJILcom/example/cablegram/cablegram/engine/ElementType;II)V" } : Jvm.MethodName) prog_30_method_2_code (8 : Nat) (Option.none : Option Jvm.ClassFile.FieldType), Jvm.Cond.code ({ cls := "java/lang/Record", name := "<init>", desc := "()V" } : Jvm.MethodName) jdk_30_method_1_code (1 : Nat) (Option.none : Option Jvm.ClassFile.FieldType), Jvm.Cond.code ({ cls := "java/lang/Object", name := "<init>", desc := "()V" } : Jvm.MethodName) object_method_1_code (1 : Nat) (Option.none : Option Jvm.ClassFile.FieldType), Jvm.Cond.code ({ cls := "com/example/cablegram/cablegram/engine/EnvelopeIsPinLaw", name := "delta", desc := "(I)I" } : Jvm.MethodName) method_2_code (1 : Nat) (Option.some Jvm.ClassFile.FieldType.int), Jvm.Cond.code ({ cls := "com/example/cablegram/cablegram/engine/EnvelopeIsPinLaw", name := "deltaLong", desc := "(I)J" } : Jvm.MethodName) method_3_code (1 : Nat) (Option.some Jvm.ClassFile.FieldType.long), Jvm.Cond.code ({ cls := "com/example/cablegram/cablegram/engine/Envelope", name := "is", desc := "(IJILcom/example/cablegram/cablegram/engine/ElementType;II)Z" } : Jvm.MethodName) prog_30_method_4_code (8 : Nat) (Option.some Jvm.ClassFile.FieldType.boolean)]
set_option maxRecDepth 65536 in
theorem codes_eq : words1.filter isCode = codes1 := rfl
theorem w_codes : ∀ c ∈ words1.filter isCode, c.before args0 about1 = true := by
  rw [codes_eq]
  intro c hc
  simp only [codes1, List.mem_cons, List.not_mem_nil, or_false] at hc
  rcases hc with rfl | rfl | rfl | rfl | rfl | rfl | rfl | rfl
  · exact w_c0
  · exact w_c1
  · exact w_c2
  · exact w_c3
  · exact w_c4
  · exact w_c5
  · exact w_c6
  · exact w_c7
set_option maxRecDepth 65536 in
theorem w_t1 : (words1.take 24).all (fun c => isCode c || c.before args0 about1) = true := by decide +kernel
set_option maxRecDepth 65536 in
theorem w_t2 : ((words1.drop 24).take 24).all (fun c => isCode c || c.before args0 about1) = true := by decide +kernel
set_option maxRecDepth 65536 in
theorem w_t3 : ((words1.drop 24).drop 24).all (fun c => isCode c || c.before args0 about1) = true := by decide +kernel
theorem w_tables : (allAtoms (Jvm.Cond.code x code maxLocals ret :: tables_1)).before args0 about1 = true := by
  rw [allAtoms_all]
  show words1.all (fun c => c.before args0 about1) = true
  refine all_split ?_ w_codes
  rw [← List.take_append_drop 24 words1, List.all_append, w_t1, ← List.take_append_drop 24 (words1.drop 24), List.all_append, w_t2, w_t3]
  rfl
set_option maxRecDepth 65536 in
theorem w_case : (Jvm.Cond.and given_1 narrow_1).before args0 about1 = true := by decide +kernel
theorem w_applies : (headSpec (Jvm.Cond.code x code maxLocals ret :: tables_1) room_1).applies x e0.platform about1 = true :=
  (Spec.applies_iff w_frames).mpr ⟨w_running, w_runnable, w_alone, w_named, w_hears, w_ripe, w_room, w_tables⟩
theorem atStart : AtStart classFile x code maxLocals ret World_1 tables_1 room_1 Calls_1 rest_1 Pre_1 launch0 p0 e0 about1 theMethod args0 below0 :=
  ⟨lists_1, trivial, launch0.admits_env _ _ _, launch0.least_env, fairChoices_fair.cas, fairChoices_fair.clock, w_frames, w_args, w_heap, w_applies, trivial, trivial, w_case⟩
end start1
theorem witness_1 : WitnessClaimed_1 := ⟨start1.p0, start1.e0, start1.about1, start1.theMethod, start1.args0, start1.below0, start1.atStart⟩
end Jvm.Pilot.@@N@@
