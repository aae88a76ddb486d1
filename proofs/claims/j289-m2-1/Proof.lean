import JvmDerived
import JvmDerived.Pilot.@@N@@Statement
import JvmDerived.Pilot.@@N@@Code
set_option linter.unusedVariables false
set_option linter.unusedSimpArgs false
@@BLOCK:HandJ.lean.txt@@
@@BLOCK:HandW.lean.txt@@
@@BLOCK:HandBits.lean.txt@@
@@BLOCK:SymMore.lean.txt@@
namespace Jvm.RoadKit
open Sem ClassFile Op Lib Jvm.Stand Jvm.Free Jvm.LawKit
section New
variable {p : Program} {l : Launch} {e : Env} {R : Room} {s : State} {m : MethodId} {args : Array Value} {below : List Frame} {meth : Method} {c : Code} {T : State} {locs : List Loc} {cells slots : Nat}
theorem retI (X : Stand p l e R s m args below meth c T locs cells slots) (hx : p.tables.exec = Jvm.exec) {pc : Nat} {Ls : Array Slot} {z : Int32} {rest : List Value} (hret : meth.sig.returnType = some .int) (hd : decode c.code pc = .ok (.ireturn, 1)) {fs : List Frame}
    (hl : ∀ (f : JFrame) (acts : List Action), f.method = m → f.locked = none → f.entered = [] → (doReturn e (T.setTop f) acts (some (.int z))).1 = T.setFrames fs) : Steps p.tables e below (T.setTop (mkF m pc Ls (.int z :: rest))) (T.setFrames fs) := by
  have hm' : T.vm.method? m = some meth := X.method'
  have hn : narrow .int (.int z) = .int z := rfl
  show Steps p.tables e below (T.setTop { method := m, pc := pc, locals := Ls, stack := _ :: rest, locked := none }) _
  jvm_step X.here [X.here.top, hx, hd, hm', hret, hn]
  first | (intro acts; rw [hl _ acts rfl rfl rfl]) | rw [hl _ _ rfl rfl rfl]
  exact Steps.refl _
end New
end Jvm.RoadKit
namespace Jvm.Pilot.@@N@@
open Jvm Jvm.ClassFile Sem Op Lib Jvm.Free Jvm.Stand Jvm.LawKit Jvm.RoadKit Bundle Jvm.Pilot.@@N@@.Jvm.D
set_option maxRecDepth 65536
set_option maxHeartbeats 40000000
theorem own_w {Z : State} {a0 : Array Value} (hw : ∀ d ∈ tables_1, d.before a0 Z = true) {d : Jvm.Cond} (i : Nat) (h : tables_1[i]? = some d) : d.before a0 Z = true := hw d (List.mem_of_getElem? h)
abbrev own_n0 : MethodName := ⟨"com/example/cablegram/cablegram/engine/BlockingReceive", "<init>", "()V"⟩
abbrev own_n1 : MethodName := ⟨"com/example/cablegram/cablegram/engine/BlockingReceive", "start", "(IJILcom/example/cablegram/cablegram/engine/ElementType;Ljava/lang/Object;II)V"⟩
abbrev own_n2 : MethodName := ⟨"com/example/cablegram/cablegram/engine/BlockingReceive", "source", "()I"⟩
abbrev own_n3 : MethodName := ⟨"com/example/cablegram/cablegram/engine/BlockingReceive", "context", "()J"⟩
abbrev own_n4 : MethodName := ⟨"com/example/cablegram/cablegram/engine/BlockingReceive", "tag", "()I"⟩
abbrev own_n5 : MethodName := ⟨"com/example/cablegram/cablegram/engine/BlockingReceive", "made", "()Lcom/example/cablegram/cablegram/engine/Receive;"⟩
abbrev own_n6 : MethodName := ⟨"com/example/cablegram/cablegram/engine/BlockingReceive", "taken", "()Lcom/example/cablegram/cablegram/engine/Received;"⟩
abbrev own_n7 : MethodName := ⟨"com/example/cablegram/cablegram/engine/BlockingReceive", "waitsForMessage", "()Z"⟩
abbrev own_n8 : MethodName := ⟨"com/example/cablegram/cablegram/engine/BlockingReceive", "waitsFor", "(I)Z"⟩
abbrev own_n9 : MethodName := ⟨"com/example/cablegram/cablegram/engine/Envelope", "matches", "(IJIIJI)Z"⟩
abbrev own_n10 : MethodName := ⟨"com/example/cablegram/cablegram/engine/BlockingReceive", "takesInPlace", "(IJILcom/example/cablegram/cablegram/engine/ElementType;I)Z"⟩
abbrev own_n11 : MethodName := ⟨"com/example/cablegram/cablegram/engine/BlockingReceive", "asksWhy", "(I)Z"⟩
abbrev own_n12 : MethodName := ⟨"com/example/cablegram/cablegram/engine/Operation", "<init>", "(Lcom/example/cablegram/cablegram/engine/CompletionOrder;)V"⟩
abbrev own_n13 : MethodName := ⟨"com/example/cablegram/cablegram/engine/Receive", "<init>", "(Lcom/example/cablegram/cablegram/engine/CompletionOrder;IJILcom/example/cablegram/cablegram/engine/ElementType;Ljava/lang/Object;IILcom/example/cablegram/cablegram/engine/ArraysAhead;)V"⟩
abbrev own_n14 : MethodName := ⟨"com/example/cablegram/cablegram/engine/BlockingReceive", "make", "(Lcom/example/cablegram/cablegram/engine/CompletionOrder;Lcom/example/cablegram/cablegram/engine/ArraysAhead;)Lcom/example/cablegram/cablegram/engine/Receive;"⟩
abbrev own_n15 : MethodName := ⟨"com/example/cablegram/cablegram/engine/ElementType$6", "getEach", "(Ljava/nio/ByteBuffer;Ljava/lang/Object;II)V"⟩
abbrev own_n16 : MethodName := ⟨"com/example/cablegram/cablegram/engine/ElementType", "get", "(Ljava/nio/ByteBuffer;Ljava/lang/Object;II)V"⟩
abbrev own_n17 : MethodName := ⟨"com/example/cablegram/cablegram/engine/ElementType", "getEach", "(Ljava/nio/ByteBuffer;Ljava/lang/Object;II)V"⟩
abbrev own_n18 : MethodName := ⟨"java/lang/Record", "<init>", "()V"⟩
abbrev own_n19 : MethodName := ⟨"com/example/cablegram/cablegram/engine/Envelope", "<init>", "(IJILcom/example/cablegram/cablegram/engine/ElementType;II)V"⟩
abbrev own_n20 : MethodName := ⟨"com/example/cablegram/cablegram/engine/Received", "<init>", "(Lcom/example/cablegram/cablegram/engine/Envelope;ZLjava/lang/Object;)V"⟩
abbrev own_n21 : MethodName := ⟨"com/example/cablegram/cablegram/engine/Received", "<init>", "(Lcom/example/cablegram/cablegram/engine/Envelope;Z)V"⟩
abbrev own_n22 : MethodName := ⟨"com/example/cablegram/cablegram/engine/BlockingReceive", "takeInPlace", "(IJILcom/example/cablegram/cablegram/engine/ElementType;IILjava/nio/ByteBuffer;)V"⟩
abbrev own_s0 : String := "com/example/cablegram/cablegram/engine/BlockingReceive"
abbrev own_s1 : String := "com/example/cablegram/cablegram/engine/BlockingReceiveStartPinLaw"
abbrev own_s2 : String := "com/example/cablegram/cablegram/engine/ElementType"
abbrev own_r0 : Room := { frames := 1, cells := 0, slots := 0, locals := 12 }
abbrev own_r1 : Room := { frames := 0, cells := 0, slots := 0, locals := 0 }
abbrev own_r2 : Room := { frames := 1, cells := 0, slots := 0, locals := 19 }
abbrev own_r3 : Room := { frames := 2, cells := 0, slots := 0, locals := 25 }
abbrev own_r4 : Room := { frames := 3, cells := 1, slots := 13, locals := 49 }
abbrev own_r5 : Room := { frames := 1, cells := 0, slots := 0, locals := 18 }
abbrev own_r6 : Room := { frames := 2, cells := 0, slots := 0, locals := 24 }
abbrev own_r7 : Room := { frames := 3, cells := 0, slots := 0, locals := 39 }
abbrev own_r8 : Room := { frames := 4, cells := 2, slots := 9, locals := 55 }
def Qv (val : Option Value) (h0 : Heap) (n0 : Nat) (v : Option Value) (h : Heap) (L : List Loc) : Prop := v = val ∧ Fr n0 L ∧ h = h0
def Ql (val : Option Value) (n0 : Nat) (v : Option Value) (L : List Loc) : Prop := v = val ∧ Fr n0 L
theorem own_ext {h h' : Heap} (K : Keep h h' []) : Ext h h' := ⟨K.1, fun a c q => K.2.1 a c q nin0⟩
theorem own_kp {h h' : Heap} (e : h' = h) : Keep h h' [] := e ▸ Keep.refl _ _
theorem own_oneU : One .unset := One.u
theorem own_oneI {z : Int32} : One (.val (.int z)) := One.val rfl
theorem own_oneR {z : Addr} : One (.val (.ref z)) := One.val rfl
def Br (Z : State) (h : Heap) (b : Addr) (v0 v1 v2 v3 v4 v5 v6 v7 v8 v9 v10 v11 : Value) : Prop := Exa Z h b own_s0 ∧ Fld Z h b own_s0 "waits" "Z" v0 ∧ Fld Z h b own_s0 "source" "I" v1 ∧ Fld Z h b own_s0 "context" "J" v2 ∧ Fld Z h b own_s0 "tag" "I" v3 ∧ Fld Z h b own_s0 "type" "Lcom/example/cablegram/cablegram/engine/ElementType;" v4 ∧ Fld Z h b own_s0 "array" "Ljava/lang/Object;" v5 ∧ Fld Z h b own_s0 "offset" "I" v6 ∧ Fld Z h b own_s0 "count" "I" v7 ∧ Fld Z h b own_s0 "endedWhenAsked" "I" v8 ∧ Fld Z h b own_s0 "tookInPlace" "Z" v9 ∧ Fld Z h b own_s0 "made" "Lcom/example/cablegram/cablegram/engine/Receive;" v10 ∧ Fld Z h b own_s0 "received" "Lcom/example/cablegram/cablegram/engine/Received;" v11
theorem Br.ext {Z : State} {h h' : Heap} {b : Addr} {v0 v1 v2 v3 v4 v5 v6 v7 v8 v9 v10 v11 : Value} (F : Br Z h b v0 v1 v2 v3 v4 v5 v6 v7 v8 v9 v10 v11) (E : Ext h h') : Br Z h' b v0 v1 v2 v3 v4 v5 v6 v7 v8 v9 v10 v11 := by
  obtain ⟨e, f0, f1, f2, f3, f4, f5, f6, f7, f8, f9, f10, f11⟩ := F
  exact ⟨e.ext E, f0.ext E, f1.ext E, f2.ext E, f3.ext E, f4.ext E, f5.ext E, f6.ext E, f7.ext E, f8.ext E, f9.ext E, f10.ext E, f11.ext E⟩
theorem Br.keep {Z : State} {h h' : Heap} {b : Addr} {ws : List Addr} {v0 v1 v2 v3 v4 v5 v6 v7 v8 v9 v10 v11 : Value} (F : Br Z h b v0 v1 v2 v3 v4 v5 v6 v7 v8 v9 v10 v11) (K : Keep h h' ws) (q : b ∉ ws) : Br Z h' b v0 v1 v2 v3 v4 v5 v6 v7 v8 v9 v10 v11 := by
  obtain ⟨e, f0, f1, f2, f3, f4, f5, f6, f7, f8, f9, f10, f11⟩ := F
  exact ⟨e.keep K, f0.keep K q, f1.keep K q, f2.keep K q, f3.keep K q, f4.keep K q, f5.keep K q, f6.keep K q, f7.keep K q, f8.keep K q, f9.keep K q, f10.keep K q, f11.keep K q⟩
theorem d1_0 : decode prog_5_method_1_code 0 = .ok (.aload_n 0, 1) := by decide +kernel
theorem d1_1 : decode prog_5_method_1_code 1 = .ok (.invokespecial 1, 3) := by decide +kernel
theorem d1_4 : decode prog_5_method_1_code 4 = .ok (.return_, 1) := by decide +kernel
theorem pn_1 : plainName own_s0 = true := by first | (simp [plainName, overriddenIn]; done) | decide +kernel
theorem ef_1 (m : MethodId) (x0 : Addr) : entryFrame m #[(.ref x0)] 1 = mkF m 0 #[.val (.ref x0)] [] := by first | (simp [entryFrame, mkF, argsToLocals, Value.category]; done) | rfl
theorem rm1 (l : Launch) (Z : State) (a0 : Array Value) (hw : ∀ d ∈ tables_1, d.before a0 Z = true) (ws : List Jvm.Cond) (a1 : Addr) (h0 : Heap) (n0 : Nat) (Z0 : n0 ≤ h0.size) :
    MetFree l own_n0 (head1 (Jvm.Cond.code own_n0 prog_5_method_1_code 1 none :: ws) own_r0) (fun a U => a = #[(.ref a1)] ∧ Z.Warmed39 U.vm ∧ U.heap = h0) (fun _ _ _ _ _ => True) (fun _ U o U' => ∃ v L, o = .returned v ∧ Qv (none) h0 n0 v U'.heap L ∧ FrameEnd U o U' L own_r0.cells own_r0.slots) := by
  refine MetFree.of_bodySF (plainFor_of_name pn_1) hisR ?_
  intro p e s m args below meth c s₁ Bd hml0 hP hK
  obtain ⟨rfl, hZ, hh⟩ := hP
  have hx := Bd.exec
  have hby := Bd.bytes
  have hml : c.maxLocals = 1 := hml0
  have hown : s.vm.findClass own_s0 = some m.cls := findClass_of_methodNamed Bd.named
  have hnm := (name_of_methodNamed Bd.named Bd.method).1
  have X0 : Stand p l e own_r0 s m #[(.ref a1)] below meth c s₁ [] 0 0 := Stand.of_body Bd
  have e0 : s₁.heap = h0 := by rw [← hh, Bd.state]; rfl
  have N0 := Fr.nil n0
  have pre0 : ∀ t, Steps p.tables e below (s₁.setTop (mkF m 0 #[.val (.ref a1)] [])) t → Steps p.tables e below (s₁.setTop (entryFrame m #[(.ref a1)] 1)) t := fun t k => castTop (ef_1 m a1) k
  obtain ⟨T2, X2, e2, st2⟩ := initO X0 hx hZ hown (own_w hw 16 rfl) (own_w hw 17 rfl) (own_w hw 18 rfl) e0 (g := (mkF m 1 #[.val (.ref a1)] [(.ref a1)])) rfl (by rw [hml]; rfl) rfl (hb hby d1_1) (by decide) (W := 0) (by show 2 * 0 + _ ≤ _; exact Nat.le_of_eq rfl) (by decide)
  obtain ⟨fs, hr, hrun, hended, hW, hsame⟩ := X2.leave (v := none) (fun _ => rfl)
  refine ⟨_, _, pre0 _ ?_, hrun, hended, _, _, rfl, ?_, ⟨_, rfl⟩, hW, hsame.mono (by decide) (by decide)⟩
  · show Steps _ _ _ (s₁.setTop (mkF m 0 #[.val (.ref a1)] [])) _
    refine XS.aloadN X0.here hx rfl (hb hby d1_0) rfl rfl ?_
    show Steps _ _ _ (s₁.setTop (mkF m 1 #[.val (.ref a1)] [(.ref a1)])) _
    refine st2 _ ?_
    show Steps _ _ _ (T2.setTop (mkF m 4 #[.val (.ref a1)] [])) _
    exact X2.returnOut hx Bd.returns (hb hby d1_4) hr
  · show Qv (none) h0 n0 _ T2.heap _
    rw [e2]
    exact ⟨rfl, N0, rfl⟩
theorem own_put0 {Z : State} {a0 : Array Value} (hw : ∀ d ∈ tables_1, d.before a0 Z = true) {h h' : Heap} {b : Addr} {v0 v1 v2 v3 v4 v5 v6 v7 v8 v9 v10 v11 w : Value} (F : Br Z h b v0 v1 v2 v3 v4 v5 v6 v7 v8 v9 v10 v11) (Wt : Wr h h' b (Jvm.RoadKit.slotOf Z own_s0 "waits" "Z") w) : Br Z h' b w v1 v2 v3 v4 v5 v6 v7 v8 v9 v10 v11 := by
  obtain ⟨e, f0, f1, f2, f3, f4, f5, f6, f7, f8, f9, f10, f11⟩ := F
  exact ⟨e.wr Wt, f0.same Wt, f1.other Wt (Or.inr (slot_ne (Or.inl (own_w hw 27 rfl)) (Or.inl (own_w hw 25 rfl)) (by decide) (t := .int) (t' := .boolean) (by decide) (by decide))), f2.other Wt (Or.inr (slot_ne (Or.inl (own_w hw 29 rfl)) (Or.inl (own_w hw 25 rfl)) (by decide) (t := .long) (t' := .boolean) (by decide) (by decide))), f3.other Wt (Or.inr (slot_ne (Or.inl (own_w hw 31 rfl)) (Or.inl (own_w hw 25 rfl)) (by decide) (t := .int) (t' := .boolean) (by decide) (by decide))), f4.other Wt (Or.inr (slot_ne (Or.inl (own_w hw 33 rfl)) (Or.inl (own_w hw 25 rfl)) (by decide) (t := (.object own_s2)) (t' := .boolean) (by decide) (by decide))), f5.other Wt (Or.inr (slot_ne (Or.inl (own_w hw 35 rfl)) (Or.inl (own_w hw 25 rfl)) (by decide) (t := (.object "java/lang/Object")) (t' := .boolean) (by decide) (by decide))), f6.other Wt (Or.inr (slot_ne (Or.inl (own_w hw 37 rfl)) (Or.inl (own_w hw 25 rfl)) (by decide) (t := .int) (t' := .boolean) (by decide) (by decide))), f7.other Wt (Or.inr (slot_ne (Or.inl (own_w hw 39 rfl)) (Or.inl (own_w hw 25 rfl)) (by decide) (t := .int) (t' := .boolean) (by decide) (by decide))), f8.other Wt (Or.inr (slot_ne (Or.inl (own_w hw 41 rfl)) (Or.inl (own_w hw 25 rfl)) (by decide) (t := .int) (t' := .boolean) (by decide) (by decide))), f9.other Wt (Or.inr (slot_ne (Or.inl (own_w hw 43 rfl)) (Or.inl (own_w hw 25 rfl)) (by decide) (t := .boolean) (t' := .boolean) (by decide) (by decide))), f10.other Wt (Or.inr (slot_ne (Or.inl (own_w hw 45 rfl)) (Or.inl (own_w hw 25 rfl)) (by decide) (t := (.object "com/example/cablegram/cablegram/engine/Receive")) (t' := .boolean) (by decide) (by decide))), f11.other Wt (Or.inr (slot_ne (Or.inl (own_w hw 153 rfl)) (Or.inl (own_w hw 25 rfl)) (by decide) (t := (.object "com/example/cablegram/cablegram/engine/Received")) (t' := .boolean) (by decide) (by decide)))⟩
theorem own_put1 {Z : State} {a0 : Array Value} (hw : ∀ d ∈ tables_1, d.before a0 Z = true) {h h' : Heap} {b : Addr} {v0 v1 v2 v3 v4 v5 v6 v7 v8 v9 v10 v11 w : Value} (F : Br Z h b v0 v1 v2 v3 v4 v5 v6 v7 v8 v9 v10 v11) (Wt : Wr h h' b (Jvm.RoadKit.slotOf Z own_s0 "source" "I") w) : Br Z h' b v0 w v2 v3 v4 v5 v6 v7 v8 v9 v10 v11 := by
  obtain ⟨e, f0, f1, f2, f3, f4, f5, f6, f7, f8, f9, f10, f11⟩ := F
  exact ⟨e.wr Wt, f0.other Wt (Or.inr (slot_ne (Or.inl (own_w hw 25 rfl)) (Or.inl (own_w hw 27 rfl)) (by decide) (t := .boolean) (t' := .int) (by decide) (by decide))), f1.same Wt, f2.other Wt (Or.inr (slot_ne (Or.inl (own_w hw 29 rfl)) (Or.inl (own_w hw 27 rfl)) (by decide) (t := .long) (t' := .int) (by decide) (by decide))), f3.other Wt (Or.inr (slot_ne (Or.inl (own_w hw 31 rfl)) (Or.inl (own_w hw 27 rfl)) (by decide) (t := .int) (t' := .int) (by decide) (by decide))), f4.other Wt (Or.inr (slot_ne (Or.inl (own_w hw 33 rfl)) (Or.inl (own_w hw 27 rfl)) (by decide) (t := (.object own_s2)) (t' := .int) (by decide) (by decide))), f5.other Wt (Or.inr (slot_ne (Or.inl (own_w hw 35 rfl)) (Or.inl (own_w hw 27 rfl)) (by decide) (t := (.object "java/lang/Object")) (t' := .int) (by decide) (by decide))), f6.other Wt (Or.inr (slot_ne (Or.inl (own_w hw 37 rfl)) (Or.inl (own_w hw 27 rfl)) (by decide) (t := .int) (t' := .int) (by decide) (by decide))), f7.other Wt (Or.inr (slot_ne (Or.inl (own_w hw 39 rfl)) (Or.inl (own_w hw 27 rfl)) (by decide) (t := .int) (t' := .int) (by decide) (by decide))), f8.other Wt (Or.inr (slot_ne (Or.inl (own_w hw 41 rfl)) (Or.inl (own_w hw 27 rfl)) (by decide) (t := .int) (t' := .int) (by decide) (by decide))), f9.other Wt (Or.inr (slot_ne (Or.inl (own_w hw 43 rfl)) (Or.inl (own_w hw 27 rfl)) (by decide) (t := .boolean) (t' := .int) (by decide) (by decide))), f10.other Wt (Or.inr (slot_ne (Or.inl (own_w hw 45 rfl)) (Or.inl (own_w hw 27 rfl)) (by decide) (t := (.object "com/example/cablegram/cablegram/engine/Receive")) (t' := .int) (by decide) (by decide))), f11.other Wt (Or.inr (slot_ne (Or.inl (own_w hw 153 rfl)) (Or.inl (own_w hw 27 rfl)) (by decide) (t := (.object "com/example/cablegram/cablegram/engine/Received")) (t' := .int) (by decide) (by decide)))⟩
theorem own_put2 {Z : State} {a0 : Array Value} (hw : ∀ d ∈ tables_1, d.before a0 Z = true) {h h' : Heap} {b : Addr} {v0 v1 v2 v3 v4 v5 v6 v7 v8 v9 v10 v11 w : Value} (F : Br Z h b v0 v1 v2 v3 v4 v5 v6 v7 v8 v9 v10 v11) (Wt : Wr h h' b (Jvm.RoadKit.slotOf Z own_s0 "context" "J") w) : Br Z h' b v0 v1 w v3 v4 v5 v6 v7 v8 v9 v10 v11 := by
  obtain ⟨e, f0, f1, f2, f3, f4, f5, f6, f7, f8, f9, f10, f11⟩ := F
  exact ⟨e.wr Wt, f0.other Wt (Or.inr (slot_ne (Or.inl (own_w hw 25 rfl)) (Or.inl (own_w hw 29 rfl)) (by decide) (t := .boolean) (t' := .long) (by decide) (by decide))), f1.other Wt (Or.inr (slot_ne (Or.inl (own_w hw 27 rfl)) (Or.inl (own_w hw 29 rfl)) (by decide) (t := .int) (t' := .long) (by decide) (by decide))), f2.same Wt, f3.other Wt (Or.inr (slot_ne (Or.inl (own_w hw 31 rfl)) (Or.inl (own_w hw 29 rfl)) (by decide) (t := .int) (t' := .long) (by decide) (by decide))), f4.other Wt (Or.inr (slot_ne (Or.inl (own_w hw 33 rfl)) (Or.inl (own_w hw 29 rfl)) (by decide) (t := (.object own_s2)) (t' := .long) (by decide) (by decide))), f5.other Wt (Or.inr (slot_ne (Or.inl (own_w hw 35 rfl)) (Or.inl (own_w hw 29 rfl)) (by decide) (t := (.object "java/lang/Object")) (t' := .long) (by decide) (by decide))), f6.other Wt (Or.inr (slot_ne (Or.inl (own_w hw 37 rfl)) (Or.inl (own_w hw 29 rfl)) (by decide) (t := .int) (t' := .long) (by decide) (by decide))), f7.other Wt (Or.inr (slot_ne (Or.inl (own_w hw 39 rfl)) (Or.inl (own_w hw 29 rfl)) (by decide) (t := .int) (t' := .long) (by decide) (by decide))), f8.other Wt (Or.inr (slot_ne (Or.inl (own_w hw 41 rfl)) (Or.inl (own_w hw 29 rfl)) (by decide) (t := .int) (t' := .long) (by decide) (by decide))), f9.other Wt (Or.inr (slot_ne (Or.inl (own_w hw 43 rfl)) (Or.inl (own_w hw 29 rfl)) (by decide) (t := .boolean) (t' := .long) (by decide) (by decide))), f10.other Wt (Or.inr (slot_ne (Or.inl (own_w hw 45 rfl)) (Or.inl (own_w hw 29 rfl)) (by decide) (t := (.object "com/example/cablegram/cablegram/engine/Receive")) (t' := .long) (by decide) (by decide))), f11.other Wt (Or.inr (slot_ne (Or.inl (own_w hw 153 rfl)) (Or.inl (own_w hw 29 rfl)) (by decide) (t := (.object "com/example/cablegram/cablegram/engine/Received")) (t' := .long) (by decide) (by decide)))⟩
theorem own_put3 {Z : State} {a0 : Array Value} (hw : ∀ d ∈ tables_1, d.before a0 Z = true) {h h' : Heap} {b : Addr} {v0 v1 v2 v3 v4 v5 v6 v7 v8 v9 v10 v11 w : Value} (F : Br Z h b v0 v1 v2 v3 v4 v5 v6 v7 v8 v9 v10 v11) (Wt : Wr h h' b (Jvm.RoadKit.slotOf Z own_s0 "tag" "I") w) : Br Z h' b v0 v1 v2 w v4 v5 v6 v7 v8 v9 v10 v11 := by
  obtain ⟨e, f0, f1, f2, f3, f4, f5, f6, f7, f8, f9, f10, f11⟩ := F
  exact ⟨e.wr Wt, f0.other Wt (Or.inr (slot_ne (Or.inl (own_w hw 25 rfl)) (Or.inl (own_w hw 31 rfl)) (by decide) (t := .boolean) (t' := .int) (by decide) (by decide))), f1.other Wt (Or.inr (slot_ne (Or.inl (own_w hw 27 rfl)) (Or.inl (own_w hw 31 rfl)) (by decide) (t := .int) (t' := .int) (by decide) (by decide))), f2.other Wt (Or.inr (slot_ne (Or.inl (own_w hw 29 rfl)) (Or.inl (own_w hw 31 rfl)) (by decide) (t := .long) (t' := .int) (by decide) (by decide))), f3.same Wt, f4.other Wt (Or.inr (slot_ne (Or.inl (own_w hw 33 rfl)) (Or.inl (own_w hw 31 rfl)) (by decide) (t := (.object own_s2)) (t' := .int) (by decide) (by decide))), f5.other Wt (Or.inr (slot_ne (Or.inl (own_w hw 35 rfl)) (Or.inl (own_w hw 31 rfl)) (by decide) (t := (.object "java/lang/Object")) (t' := .int) (by decide) (by decide))), f6.other Wt (Or.inr (slot_ne (Or.inl (own_w hw 37 rfl)) (Or.inl (own_w hw 31 rfl)) (by decide) (t := .int) (t' := .int) (by decide) (by decide))), f7.other Wt (Or.inr (slot_ne (Or.inl (own_w hw 39 rfl)) (Or.inl (own_w hw 31 rfl)) (by decide) (t := .int) (t' := .int) (by decide) (by decide))), f8.other Wt (Or.inr (slot_ne (Or.inl (own_w hw 41 rfl)) (Or.inl (own_w hw 31 rfl)) (by decide) (t := .int) (t' := .int) (by decide) (by decide))), f9.other Wt (Or.inr (slot_ne (Or.inl (own_w hw 43 rfl)) (Or.inl (own_w hw 31 rfl)) (by decide) (t := .boolean) (t' := .int) (by decide) (by decide))), f10.other Wt (Or.inr (slot_ne (Or.inl (own_w hw 45 rfl)) (Or.inl (own_w hw 31 rfl)) (by decide) (t := (.object "com/example/cablegram/cablegram/engine/Receive")) (t' := .int) (by decide) (by decide))), f11.other Wt (Or.inr (slot_ne (Or.inl (own_w hw 153 rfl)) (Or.inl (own_w hw 31 rfl)) (by decide) (t := (.object "com/example/cablegram/cablegram/engine/Received")) (t' := .int) (by decide) (by decide)))⟩
theorem own_put4 {Z : State} {a0 : Array Value} (hw : ∀ d ∈ tables_1, d.before a0 Z = true) {h h' : Heap} {b : Addr} {v0 v1 v2 v3 v4 v5 v6 v7 v8 v9 v10 v11 w : Value} (F : Br Z h b v0 v1 v2 v3 v4 v5 v6 v7 v8 v9 v10 v11) (Wt : Wr h h' b (Jvm.RoadKit.slotOf Z own_s0 "type" "Lcom/example/cablegram/cablegram/engine/ElementType;") w) : Br Z h' b v0 v1 v2 v3 w v5 v6 v7 v8 v9 v10 v11 := by
  obtain ⟨e, f0, f1, f2, f3, f4, f5, f6, f7, f8, f9, f10, f11⟩ := F
  exact ⟨e.wr Wt, f0.other Wt (Or.inr (slot_ne (Or.inl (own_w hw 25 rfl)) (Or.inl (own_w hw 33 rfl)) (by decide) (t := .boolean) (t' := (.object own_s2)) (by decide) (by decide))), f1.other Wt (Or.inr (slot_ne (Or.inl (own_w hw 27 rfl)) (Or.inl (own_w hw 33 rfl)) (by decide) (t := .int) (t' := (.object own_s2)) (by decide) (by decide))), f2.other Wt (Or.inr (slot_ne (Or.inl (own_w hw 29 rfl)) (Or.inl (own_w hw 33 rfl)) (by decide) (t := .long) (t' := (.object own_s2)) (by decide) (by decide))), f3.other Wt (Or.inr (slot_ne (Or.inl (own_w hw 31 rfl)) (Or.inl (own_w hw 33 rfl)) (by decide) (t := .int) (t' := (.object own_s2)) (by decide) (by decide))), f4.same Wt, f5.other Wt (Or.inr (slot_ne (Or.inl (own_w hw 35 rfl)) (Or.inl (own_w hw 33 rfl)) (by decide) (t := (.object "java/lang/Object")) (t' := (.object own_s2)) (by decide) (by decide))), f6.other Wt (Or.inr (slot_ne (Or.inl (own_w hw 37 rfl)) (Or.inl (own_w hw 33 rfl)) (by decide) (t := .int) (t' := (.object own_s2)) (by decide) (by decide))), f7.other Wt (Or.inr (slot_ne (Or.inl (own_w hw 39 rfl)) (Or.inl (own_w hw 33 rfl)) (by decide) (t := .int) (t' := (.object own_s2)) (by decide) (by decide))), f8.other Wt (Or.inr (slot_ne (Or.inl (own_w hw 41 rfl)) (Or.inl (own_w hw 33 rfl)) (by decide) (t := .int) (t' := (.object own_s2)) (by decide) (by decide))), f9.other Wt (Or.inr (slot_ne (Or.inl (own_w hw 43 rfl)) (Or.inl (own_w hw 33 rfl)) (by decide) (t := .boolean) (t' := (.object own_s2)) (by decide) (by decide))), f10.other Wt (Or.inr (slot_ne (Or.inl (own_w hw 45 rfl)) (Or.inl (own_w hw 33 rfl)) (by decide) (t := (.object "com/example/cablegram/cablegram/engine/Receive")) (t' := (.object own_s2)) (by decide) (by decide))), f11.other Wt (Or.inr (slot_ne (Or.inl (own_w hw 153 rfl)) (Or.inl (own_w hw 33 rfl)) (by decide) (t := (.object "com/example/cablegram/cablegram/engine/Received")) (t' := (.object own_s2)) (by decide) (by decide)))⟩
theorem own_put5 {Z : State} {a0 : Array Value} (hw : ∀ d ∈ tables_1, d.before a0 Z = true) {h h' : Heap} {b : Addr} {v0 v1 v2 v3 v4 v5 v6 v7 v8 v9 v10 v11 w : Value} (F : Br Z h b v0 v1 v2 v3 v4 v5 v6 v7 v8 v9 v10 v11) (Wt : Wr h h' b (Jvm.RoadKit.slotOf Z own_s0 "array" "Ljava/lang/Object;") w) : Br Z h' b v0 v1 v2 v3 v4 w v6 v7 v8 v9 v10 v11 := by
  obtain ⟨e, f0, f1, f2, f3, f4, f5, f6, f7, f8, f9, f10, f11⟩ := F
  exact ⟨e.wr Wt, f0.other Wt (Or.inr (slot_ne (Or.inl (own_w hw 25 rfl)) (Or.inl (own_w hw 35 rfl)) (by decide) (t := .boolean) (t' := (.object "java/lang/Object")) (by decide) (by decide))), f1.other Wt (Or.inr (slot_ne (Or.inl (own_w hw 27 rfl)) (Or.inl (own_w hw 35 rfl)) (by decide) (t := .int) (t' := (.object "java/lang/Object")) (by decide) (by decide))), f2.other Wt (Or.inr (slot_ne (Or.inl (own_w hw 29 rfl)) (Or.inl (own_w hw 35 rfl)) (by decide) (t := .long) (t' := (.object "java/lang/Object")) (by decide) (by decide))), f3.other Wt (Or.inr (slot_ne (Or.inl (own_w hw 31 rfl)) (Or.inl (own_w hw 35 rfl)) (by decide) (t := .int) (t' := (.object "java/lang/Object")) (by decide) (by decide))), f4.other Wt (Or.inr (slot_ne (Or.inl (own_w hw 33 rfl)) (Or.inl (own_w hw 35 rfl)) (by decide) (t := (.object own_s2)) (t' := (.object "java/lang/Object")) (by decide) (by decide))), f5.same Wt, f6.other Wt (Or.inr (slot_ne (Or.inl (own_w hw 37 rfl)) (Or.inl (own_w hw 35 rfl)) (by decide) (t := .int) (t' := (.object "java/lang/Object")) (by decide) (by decide))), f7.other Wt (Or.inr (slot_ne (Or.inl (own_w hw 39 rfl)) (Or.inl (own_w hw 35 rfl)) (by decide) (t := .int) (t' := (.object "java/lang/Object")) (by decide) (by decide))), f8.other Wt (Or.inr (slot_ne (Or.inl (own_w hw 41 rfl)) (Or.inl (own_w hw 35 rfl)) (by decide) (t := .int) (t' := (.object "java/lang/Object")) (by decide) (by decide))), f9.other Wt (Or.inr (slot_ne (Or.inl (own_w hw 43 rfl)) (Or.inl (own_w hw 35 rfl)) (by decide) (t := .boolean) (t' := (.object "java/lang/Object")) (by decide) (by decide))), f10.other Wt (Or.inr (slot_ne (Or.inl (own_w hw 45 rfl)) (Or.inl (own_w hw 35 rfl)) (by decide) (t := (.object "com/example/cablegram/cablegram/engine/Receive")) (t' := (.object "java/lang/Object")) (by decide) (by decide))), f11.other Wt (Or.inr (slot_ne (Or.inl (own_w hw 153 rfl)) (Or.inl (own_w hw 35 rfl)) (by decide) (t := (.object "com/example/cablegram/cablegram/engine/Received")) (t' := (.object "java/lang/Object")) (by decide) (by decide)))⟩
theorem own_put6 {Z : State} {a0 : Array Value} (hw : ∀ d ∈ tables_1, d.before a0 Z = true) {h h' : Heap} {b : Addr} {v0 v1 v2 v3 v4 v5 v6 v7 v8 v9 v10 v11 w : Value} (F : Br Z h b v0 v1 v2 v3 v4 v5 v6 v7 v8 v9 v10 v11) (Wt : Wr h h' b (Jvm.RoadKit.slotOf Z own_s0 "offset" "I") w) : Br Z h' b v0 v1 v2 v3 v4 v5 w v7 v8 v9 v10 v11 := by
  obtain ⟨e, f0, f1, f2, f3, f4, f5, f6, f7, f8, f9, f10, f11⟩ := F
  exact ⟨e.wr Wt, f0.other Wt (Or.inr (slot_ne (Or.inl (own_w hw 25 rfl)) (Or.inl (own_w hw 37 rfl)) (by decide) (t := .boolean) (t' := .int) (by decide) (by decide))), f1.other Wt (Or.inr (slot_ne (Or.inl (own_w hw 27 rfl)) (Or.inl (own_w hw 37 rfl)) (by decide) (t := .int) (t' := .int) (by decide) (by decide))), f2.other Wt (Or.inr (slot_ne (Or.inl (own_w hw 29 rfl)) (Or.inl (own_w hw 37 rfl)) (by decide) (t := .long) (t' := .int) (by decide) (by decide))), f3.other Wt (Or.inr (slot_ne (Or.inl (own_w hw 31 rfl)) (Or.inl (own_w hw 37 rfl)) (by decide) (t := .int) (t' := .int) (by decide) (by decide))), f4.other Wt (Or.inr (slot_ne (Or.inl (own_w hw 33 rfl)) (Or.inl (own_w hw 37 rfl)) (by decide) (t := (.object own_s2)) (t' := .int) (by decide) (by decide))), f5.other Wt (Or.inr (slot_ne (Or.inl (own_w hw 35 rfl)) (Or.inl (own_w hw 37 rfl)) (by decide) (t := (.object "java/lang/Object")) (t' := .int) (by decide) (by decide))), f6.same Wt, f7.other Wt (Or.inr (slot_ne (Or.inl (own_w hw 39 rfl)) (Or.inl (own_w hw 37 rfl)) (by decide) (t := .int) (t' := .int) (by decide) (by decide))), f8.other Wt (Or.inr (slot_ne (Or.inl (own_w hw 41 rfl)) (Or.inl (own_w hw 37 rfl)) (by decide) (t := .int) (t' := .int) (by decide) (by decide))), f9.other Wt (Or.inr (slot_ne (Or.inl (own_w hw 43 rfl)) (Or.inl (own_w hw 37 rfl)) (by decide) (t := .boolean) (t' := .int) (by decide) (by decide))), f10.other Wt (Or.inr (slot_ne (Or.inl (own_w hw 45 rfl)) (Or.inl (own_w hw 37 rfl)) (by decide) (t := (.object "com/example/cablegram/cablegram/engine/Receive")) (t' := .int) (by decide) (by decide))), f11.other Wt (Or.inr (slot_ne (Or.inl (own_w hw 153 rfl)) (Or.inl (own_w hw 37 rfl)) (by decide) (t := (.object "com/example/cablegram/cablegram/engine/Received")) (t' := .int) (by decide) (by decide)))⟩
theorem own_put7 {Z : State} {a0 : Array Value} (hw : ∀ d ∈ tables_1, d.before a0 Z = true) {h h' : Heap} {b : Addr} {v0 v1 v2 v3 v4 v5 v6 v7 v8 v9 v10 v11 w : Value} (F : Br Z h b v0 v1 v2 v3 v4 v5 v6 v7 v8 v9 v10 v11) (Wt : Wr h h' b (Jvm.RoadKit.slotOf Z own_s0 "count" "I") w) : Br Z h' b v0 v1 v2 v3 v4 v5 v6 w v8 v9 v10 v11 := by
  obtain ⟨e, f0, f1, f2, f3, f4, f5, f6, f7, f8, f9, f10, f11⟩ := F
  exact ⟨e.wr Wt, f0.other Wt (Or.inr (slot_ne (Or.inl (own_w hw 25 rfl)) (Or.inl (own_w hw 39 rfl)) (by decide) (t := .boolean) (t' := .int) (by decide) (by decide))), f1.other Wt (Or.inr (slot_ne (Or.inl (own_w hw 27 rfl)) (Or.inl (own_w hw 39 rfl)) (by decide) (t := .int) (t' := .int) (by decide) (by decide))), f2.other Wt (Or.inr (slot_ne (Or.inl (own_w hw 29 rfl)) (Or.inl (own_w hw 39 rfl)) (by decide) (t := .long) (t' := .int) (by decide) (by decide))), f3.other Wt (Or.inr (slot_ne (Or.inl (own_w hw 31 rfl)) (Or.inl (own_w hw 39 rfl)) (by decide) (t := .int) (t' := .int) (by decide) (by decide))), f4.other Wt (Or.inr (slot_ne (Or.inl (own_w hw 33 rfl)) (Or.inl (own_w hw 39 rfl)) (by decide) (t := (.object own_s2)) (t' := .int) (by decide) (by decide))), f5.other Wt (Or.inr (slot_ne (Or.inl (own_w hw 35 rfl)) (Or.inl (own_w hw 39 rfl)) (by decide) (t := (.object "java/lang/Object")) (t' := .int) (by decide) (by decide))), f6.other Wt (Or.inr (slot_ne (Or.inl (own_w hw 37 rfl)) (Or.inl (own_w hw 39 rfl)) (by decide) (t := .int) (t' := .int) (by decide) (by decide))), f7.same Wt, f8.other Wt (Or.inr (slot_ne (Or.inl (own_w hw 41 rfl)) (Or.inl (own_w hw 39 rfl)) (by decide) (t := .int) (t' := .int) (by decide) (by decide))), f9.other Wt (Or.inr (slot_ne (Or.inl (own_w hw 43 rfl)) (Or.inl (own_w hw 39 rfl)) (by decide) (t := .boolean) (t' := .int) (by decide) (by decide))), f10.other Wt (Or.inr (slot_ne (Or.inl (own_w hw 45 rfl)) (Or.inl (own_w hw 39 rfl)) (by decide) (t := (.object "com/example/cablegram/cablegram/engine/Receive")) (t' := .int) (by decide) (by decide))), f11.other Wt (Or.inr (slot_ne (Or.inl (own_w hw 153 rfl)) (Or.inl (own_w hw 39 rfl)) (by decide) (t := (.object "com/example/cablegram/cablegram/engine/Received")) (t' := .int) (by decide) (by decide)))⟩
theorem own_put8 {Z : State} {a0 : Array Value} (hw : ∀ d ∈ tables_1, d.before a0 Z = true) {h h' : Heap} {b : Addr} {v0 v1 v2 v3 v4 v5 v6 v7 v8 v9 v10 v11 w : Value} (F : Br Z h b v0 v1 v2 v3 v4 v5 v6 v7 v8 v9 v10 v11) (Wt : Wr h h' b (Jvm.RoadKit.slotOf Z own_s0 "endedWhenAsked" "I") w) : Br Z h' b v0 v1 v2 v3 v4 v5 v6 v7 w v9 v10 v11 := by
  obtain ⟨e, f0, f1, f2, f3, f4, f5, f6, f7, f8, f9, f10, f11⟩ := F
  exact ⟨e.wr Wt, f0.other Wt (Or.inr (slot_ne (Or.inl (own_w hw 25 rfl)) (Or.inl (own_w hw 41 rfl)) (by decide) (t := .boolean) (t' := .int) (by decide) (by decide))), f1.other Wt (Or.inr (slot_ne (Or.inl (own_w hw 27 rfl)) (Or.inl (own_w hw 41 rfl)) (by decide) (t := .int) (t' := .int) (by decide) (by decide))), f2.other Wt (Or.inr (slot_ne (Or.inl (own_w hw 29 rfl)) (Or.inl (own_w hw 41 rfl)) (by decide) (t := .long) (t' := .int) (by decide) (by decide))), f3.other Wt (Or.inr (slot_ne (Or.inl (own_w hw 31 rfl)) (Or.inl (own_w hw 41 rfl)) (by decide) (t := .int) (t' := .int) (by decide) (by decide))), f4.other Wt (Or.inr (slot_ne (Or.inl (own_w hw 33 rfl)) (Or.inl (own_w hw 41 rfl)) (by decide) (t := (.object own_s2)) (t' := .int) (by decide) (by decide))), f5.other Wt (Or.inr (slot_ne (Or.inl (own_w hw 35 rfl)) (Or.inl (own_w hw 41 rfl)) (by decide) (t := (.object "java/lang/Object")) (t' := .int) (by decide) (by decide))), f6.other Wt (Or.inr (slot_ne (Or.inl (own_w hw 37 rfl)) (Or.inl (own_w hw 41 rfl)) (by decide) (t := .int) (t' := .int) (by decide) (by decide))), f7.other Wt (Or.inr (slot_ne (Or.inl (own_w hw 39 rfl)) (Or.inl (own_w hw 41 rfl)) (by decide) (t := .int) (t' := .int) (by decide) (by decide))), f8.same Wt, f9.other Wt (Or.inr (slot_ne (Or.inl (own_w hw 43 rfl)) (Or.inl (own_w hw 41 rfl)) (by decide) (t := .boolean) (t' := .int) (by decide) (by decide))), f10.other Wt (Or.inr (slot_ne (Or.inl (own_w hw 45 rfl)) (Or.inl (own_w hw 41 rfl)) (by decide) (t := (.object "com/example/cablegram/cablegram/engine/Receive")) (t' := .int) (by decide) (by decide))), f11.other Wt (Or.inr (slot_ne (Or.inl (own_w hw 153 rfl)) (Or.inl (own_w hw 41 rfl)) (by decide) (t := (.object "com/example/cablegram/cablegram/engine/Received")) (t' := .int) (by decide) (by decide)))⟩
theorem own_put9 {Z : State} {a0 : Array Value} (hw : ∀ d ∈ tables_1, d.before a0 Z = true) {h h' : Heap} {b : Addr} {v0 v1 v2 v3 v4 v5 v6 v7 v8 v9 v10 v11 w : Value} (F : Br Z h b v0 v1 v2 v3 v4 v5 v6 v7 v8 v9 v10 v11) (Wt : Wr h h' b (Jvm.RoadKit.slotOf Z own_s0 "tookInPlace" "Z") w) : Br Z h' b v0 v1 v2 v3 v4 v5 v6 v7 v8 w v10 v11 := by
  obtain ⟨e, f0, f1, f2, f3, f4, f5, f6, f7, f8, f9, f10, f11⟩ := F
  exact ⟨e.wr Wt, f0.other Wt (Or.inr (slot_ne (Or.inl (own_w hw 25 rfl)) (Or.inl (own_w hw 43 rfl)) (by decide) (t := .boolean) (t' := .boolean) (by decide) (by decide))), f1.other Wt (Or.inr (slot_ne (Or.inl (own_w hw 27 rfl)) (Or.inl (own_w hw 43 rfl)) (by decide) (t := .int) (t' := .boolean) (by decide) (by decide))), f2.other Wt (Or.inr (slot_ne (Or.inl (own_w hw 29 rfl)) (Or.inl (own_w hw 43 rfl)) (by decide) (t := .long) (t' := .boolean) (by decide) (by decide))), f3.other Wt (Or.inr (slot_ne (Or.inl (own_w hw 31 rfl)) (Or.inl (own_w hw 43 rfl)) (by decide) (t := .int) (t' := .boolean) (by decide) (by decide))), f4.other Wt (Or.inr (slot_ne (Or.inl (own_w hw 33 rfl)) (Or.inl (own_w hw 43 rfl)) (by decide) (t := (.object own_s2)) (t' := .boolean) (by decide) (by decide))), f5.other Wt (Or.inr (slot_ne (Or.inl (own_w hw 35 rfl)) (Or.inl (own_w hw 43 rfl)) (by decide) (t := (.object "java/lang/Object")) (t' := .boolean) (by decide) (by decide))), f6.other Wt (Or.inr (slot_ne (Or.inl (own_w hw 37 rfl)) (Or.inl (own_w hw 43 rfl)) (by decide) (t := .int) (t' := .boolean) (by decide) (by decide))), f7.other Wt (Or.inr (slot_ne (Or.inl (own_w hw 39 rfl)) (Or.inl (own_w hw 43 rfl)) (by decide) (t := .int) (t' := .boolean) (by decide) (by decide))), f8.other Wt (Or.inr (slot_ne (Or.inl (own_w hw 41 rfl)) (Or.inl (own_w hw 43 rfl)) (by decide) (t := .int) (t' := .boolean) (by decide) (by decide))), f9.same Wt, f10.other Wt (Or.inr (slot_ne (Or.inl (own_w hw 45 rfl)) (Or.inl (own_w hw 43 rfl)) (by decide) (t := (.object "com/example/cablegram/cablegram/engine/Receive")) (t' := .boolean) (by decide) (by decide))), f11.other Wt (Or.inr (slot_ne (Or.inl (own_w hw 153 rfl)) (Or.inl (own_w hw 43 rfl)) (by decide) (t := (.object "com/example/cablegram/cablegram/engine/Received")) (t' := .boolean) (by decide) (by decide)))⟩
theorem own_put10 {Z : State} {a0 : Array Value} (hw : ∀ d ∈ tables_1, d.before a0 Z = true) {h h' : Heap} {b : Addr} {v0 v1 v2 v3 v4 v5 v6 v7 v8 v9 v10 v11 w : Value} (F : Br Z h b v0 v1 v2 v3 v4 v5 v6 v7 v8 v9 v10 v11) (Wt : Wr h h' b (Jvm.RoadKit.slotOf Z own_s0 "made" "Lcom/example/cablegram/cablegram/engine/Receive;") w) : Br Z h' b v0 v1 v2 v3 v4 v5 v6 v7 v8 v9 w v11 := by
  obtain ⟨e, f0, f1, f2, f3, f4, f5, f6, f7, f8, f9, f10, f11⟩ := F
  exact ⟨e.wr Wt, f0.other Wt (Or.inr (slot_ne (Or.inl (own_w hw 25 rfl)) (Or.inl (own_w hw 45 rfl)) (by decide) (t := .boolean) (t' := (.object "com/example/cablegram/cablegram/engine/Receive")) (by decide) (by decide))), f1.other Wt (Or.inr (slot_ne (Or.inl (own_w hw 27 rfl)) (Or.inl (own_w hw 45 rfl)) (by decide) (t := .int) (t' := (.object "com/example/cablegram/cablegram/engine/Receive")) (by decide) (by decide))), f2.other Wt (Or.inr (slot_ne (Or.inl (own_w hw 29 rfl)) (Or.inl (own_w hw 45 rfl)) (by decide) (t := .long) (t' := (.object "com/example/cablegram/cablegram/engine/Receive")) (by decide) (by decide))), f3.other Wt (Or.inr (slot_ne (Or.inl (own_w hw 31 rfl)) (Or.inl (own_w hw 45 rfl)) (by decide) (t := .int) (t' := (.object "com/example/cablegram/cablegram/engine/Receive")) (by decide) (by decide))), f4.other Wt (Or.inr (slot_ne (Or.inl (own_w hw 33 rfl)) (Or.inl (own_w hw 45 rfl)) (by decide) (t := (.object own_s2)) (t' := (.object "com/example/cablegram/cablegram/engine/Receive")) (by decide) (by decide))), f5.other Wt (Or.inr (slot_ne (Or.inl (own_w hw 35 rfl)) (Or.inl (own_w hw 45 rfl)) (by decide) (t := (.object "java/lang/Object")) (t' := (.object "com/example/cablegram/cablegram/engine/Receive")) (by decide) (by decide))), f6.other Wt (Or.inr (slot_ne (Or.inl (own_w hw 37 rfl)) (Or.inl (own_w hw 45 rfl)) (by decide) (t := .int) (t' := (.object "com/example/cablegram/cablegram/engine/Receive")) (by decide) (by decide))), f7.other Wt (Or.inr (slot_ne (Or.inl (own_w hw 39 rfl)) (Or.inl (own_w hw 45 rfl)) (by decide) (t := .int) (t' := (.object "com/example/cablegram/cablegram/engine/Receive")) (by decide) (by decide))), f8.other Wt (Or.inr (slot_ne (Or.inl (own_w hw 41 rfl)) (Or.inl (own_w hw 45 rfl)) (by decide) (t := .int) (t' := (.object "com/example/cablegram/cablegram/engine/Receive")) (by decide) (by decide))), f9.other Wt (Or.inr (slot_ne (Or.inl (own_w hw 43 rfl)) (Or.inl (own_w hw 45 rfl)) (by decide) (t := .boolean) (t' := (.object "com/example/cablegram/cablegram/engine/Receive")) (by decide) (by decide))), f10.same Wt, f11.other Wt (Or.inr (slot_ne (Or.inl (own_w hw 153 rfl)) (Or.inl (own_w hw 45 rfl)) (by decide) (t := (.object "com/example/cablegram/cablegram/engine/Received")) (t' := (.object "com/example/cablegram/cablegram/engine/Receive")) (by decide) (by decide)))⟩
theorem own_put11 {Z : State} {a0 : Array Value} (hw : ∀ d ∈ tables_1, d.before a0 Z = true) {h h' : Heap} {b : Addr} {v0 v1 v2 v3 v4 v5 v6 v7 v8 v9 v10 v11 w : Value} (F : Br Z h b v0 v1 v2 v3 v4 v5 v6 v7 v8 v9 v10 v11) (Wt : Wr h h' b (Jvm.RoadKit.slotOf Z own_s0 "received" "Lcom/example/cablegram/cablegram/engine/Received;") w) : Br Z h' b v0 v1 v2 v3 v4 v5 v6 v7 v8 v9 v10 w := by
  obtain ⟨e, f0, f1, f2, f3, f4, f5, f6, f7, f8, f9, f10, f11⟩ := F
  exact ⟨e.wr Wt, f0.other Wt (Or.inr (slot_ne (Or.inl (own_w hw 25 rfl)) (Or.inl (own_w hw 153 rfl)) (by decide) (t := .boolean) (t' := (.object "com/example/cablegram/cablegram/engine/Received")) (by decide) (by decide))), f1.other Wt (Or.inr (slot_ne (Or.inl (own_w hw 27 rfl)) (Or.inl (own_w hw 153 rfl)) (by decide) (t := .int) (t' := (.object "com/example/cablegram/cablegram/engine/Received")) (by decide) (by decide))), f2.other Wt (Or.inr (slot_ne (Or.inl (own_w hw 29 rfl)) (Or.inl (own_w hw 153 rfl)) (by decide) (t := .long) (t' := (.object "com/example/cablegram/cablegram/engine/Received")) (by decide) (by decide))), f3.other Wt (Or.inr (slot_ne (Or.inl (own_w hw 31 rfl)) (Or.inl (own_w hw 153 rfl)) (by decide) (t := .int) (t' := (.object "com/example/cablegram/cablegram/engine/Received")) (by decide) (by decide))), f4.other Wt (Or.inr (slot_ne (Or.inl (own_w hw 33 rfl)) (Or.inl (own_w hw 153 rfl)) (by decide) (t := (.object own_s2)) (t' := (.object "com/example/cablegram/cablegram/engine/Received")) (by decide) (by decide))), f5.other Wt (Or.inr (slot_ne (Or.inl (own_w hw 35 rfl)) (Or.inl (own_w hw 153 rfl)) (by decide) (t := (.object "java/lang/Object")) (t' := (.object "com/example/cablegram/cablegram/engine/Received")) (by decide) (by decide))), f6.other Wt (Or.inr (slot_ne (Or.inl (own_w hw 37 rfl)) (Or.inl (own_w hw 153 rfl)) (by decide) (t := .int) (t' := (.object "com/example/cablegram/cablegram/engine/Received")) (by decide) (by decide))), f7.other Wt (Or.inr (slot_ne (Or.inl (own_w hw 39 rfl)) (Or.inl (own_w hw 153 rfl)) (by decide) (t := .int) (t' := (.object "com/example/cablegram/cablegram/engine/Received")) (by decide) (by decide))), f8.other Wt (Or.inr (slot_ne (Or.inl (own_w hw 41 rfl)) (Or.inl (own_w hw 153 rfl)) (by decide) (t := .int) (t' := (.object "com/example/cablegram/cablegram/engine/Received")) (by decide) (by decide))), f9.other Wt (Or.inr (slot_ne (Or.inl (own_w hw 43 rfl)) (Or.inl (own_w hw 153 rfl)) (by decide) (t := .boolean) (t' := (.object "com/example/cablegram/cablegram/engine/Received")) (by decide) (by decide))), f10.other Wt (Or.inr (slot_ne (Or.inl (own_w hw 45 rfl)) (Or.inl (own_w hw 153 rfl)) (by decide) (t := (.object "com/example/cablegram/cablegram/engine/Receive")) (t' := (.object "com/example/cablegram/cablegram/engine/Received")) (by decide) (by decide))), f11.same Wt⟩
def Qs (Z : State) (a1 : Addr) (p2 : Int32) (q3 : Int64) (p4 : Int32) (a5 a6 : Addr) (p7 p8 : Int32) (ur : Value) (h0 : Heap) (n0 : Nat) (v : Option Value) (h : Heap) (L : List Loc) : Prop := v = none ∧ Fr n0 L ∧ Keep h0 h [a1] ∧ Br Z h a1 (.int (1 : Int32)) (.int p2) (.long q3) (.int p4) (.ref a5) (.ref a6) (.int p7) (.int p8) (.int (-1 : Int32)) (.int (0 : Int32)) .null ur
theorem d3_0 : decode prog_5_method_2_code 0 = .ok (.aload_n 0, 1) := by decide +kernel
theorem d3_1 : decode prog_5_method_2_code 1 = .ok (.iconst 1, 1) := by decide +kernel
theorem d3_2 : decode prog_5_method_2_code 2 = .ok (.putfield 7, 3) := by decide +kernel
theorem d3_5 : decode prog_5_method_2_code 5 = .ok (.aload_n 0, 1) := by decide +kernel
theorem d3_6 : decode prog_5_method_2_code 6 = .ok (.iload_n 1, 1) := by decide +kernel
theorem d3_7 : decode prog_5_method_2_code 7 = .ok (.putfield 13, 3) := by decide +kernel
theorem d3_10 : decode prog_5_method_2_code 10 = .ok (.aload_n 0, 1) := by decide +kernel
theorem d3_11 : decode prog_5_method_2_code 11 = .ok (.lload_n 2, 1) := by decide +kernel
theorem d3_12 : decode prog_5_method_2_code 12 = .ok (.putfield 17, 3) := by decide +kernel
theorem d3_15 : decode prog_5_method_2_code 15 = .ok (.aload_n 0, 1) := by decide +kernel
theorem d3_16 : decode prog_5_method_2_code 16 = .ok (.iload 4, 2) := by decide +kernel
theorem d3_18 : decode prog_5_method_2_code 18 = .ok (.putfield 21, 3) := by decide +kernel
theorem d3_21 : decode prog_5_method_2_code 21 = .ok (.aload_n 0, 1) := by decide +kernel
theorem d3_22 : decode prog_5_method_2_code 22 = .ok (.aload 5, 2) := by decide +kernel
theorem d3_24 : decode prog_5_method_2_code 24 = .ok (.putfield 24, 3) := by decide +kernel
theorem d3_27 : decode prog_5_method_2_code 27 = .ok (.aload_n 0, 1) := by decide +kernel
theorem d3_28 : decode prog_5_method_2_code 28 = .ok (.aload 6, 2) := by decide +kernel
theorem d3_30 : decode prog_5_method_2_code 30 = .ok (.putfield 28, 3) := by decide +kernel
theorem d3_33 : decode prog_5_method_2_code 33 = .ok (.aload_n 0, 1) := by decide +kernel
theorem d3_34 : decode prog_5_method_2_code 34 = .ok (.iload 7, 2) := by decide +kernel
theorem d3_36 : decode prog_5_method_2_code 36 = .ok (.putfield 32, 3) := by decide +kernel
theorem d3_39 : decode prog_5_method_2_code 39 = .ok (.aload_n 0, 1) := by decide +kernel
theorem d3_40 : decode prog_5_method_2_code 40 = .ok (.iload 8, 2) := by decide +kernel
theorem d3_42 : decode prog_5_method_2_code 42 = .ok (.putfield 35, 3) := by decide +kernel
theorem d3_45 : decode prog_5_method_2_code 45 = .ok (.aload_n 0, 1) := by decide +kernel
theorem d3_46 : decode prog_5_method_2_code 46 = .ok (.iconst (-1), 1) := by decide +kernel
theorem d3_47 : decode prog_5_method_2_code 47 = .ok (.putfield 38, 3) := by decide +kernel
theorem d3_50 : decode prog_5_method_2_code 50 = .ok (.aload_n 0, 1) := by decide +kernel
theorem d3_51 : decode prog_5_method_2_code 51 = .ok (.iconst 0, 1) := by decide +kernel
theorem d3_52 : decode prog_5_method_2_code 52 = .ok (.putfield 41, 3) := by decide +kernel
theorem d3_55 : decode prog_5_method_2_code 55 = .ok (.aload_n 0, 1) := by decide +kernel
theorem d3_56 : decode prog_5_method_2_code 56 = .ok (.aconst_null, 1) := by decide +kernel
theorem d3_57 : decode prog_5_method_2_code 57 = .ok (.putfield 44, 3) := by decide +kernel
theorem d3_60 : decode prog_5_method_2_code 60 = .ok (.return_, 1) := by decide +kernel
theorem pn_3 : plainName own_s0 = true := by first | (simp [plainName, overriddenIn]; done) | decide +kernel
theorem ef_3 (m : MethodId) (x0 : Addr) (x1 : Int32) (x2 : Int64) (x3 : Int32) (x4 x5 : Addr) (x6 x7 : Int32) : entryFrame m #[(.ref x0), (.int x1), (.long x2), (.int x3), (.ref x4), (.ref x5), (.int x6), (.int x7)] 9 = mkF m 0 #[.val (.ref x0), .val (.int x1), .val (.long x2), .second, .val (.int x3), .val (.ref x4), .val (.ref x5), .val (.int x6), .val (.int x7)] [] := by first | (simp [entryFrame, mkF, argsToLocals, Value.category]; done) | rfl
theorem rm3 (l : Launch) (Z : State) (a0 : Array Value) (hw : ∀ d ∈ tables_1, d.before a0 Z = true) (ws : List Jvm.Cond) (a1 : Addr) (p2 : Int32) (q3 : Int64) (p4 : Int32) (a5 a6 : Addr) (p7 p8 : Int32) (u_waits_a1 u_source_a1 u_context_a1 u_tag_a1 u_type_a1 u_array_a1 u_offset_a1 u_count_a1 u_endedWhenAsked_a1 u_tookInPlace_a1 u_made_a1 : Value) (h0 : Heap) (n0 : Nat) (Z0 : n0 ≤ h0.size) (ur : Value) (B : Br Z h0 a1 u_waits_a1 u_source_a1 u_context_a1 u_tag_a1 u_type_a1 u_array_a1 u_offset_a1 u_count_a1 u_endedWhenAsked_a1 u_tookInPlace_a1 u_made_a1 ur) (E_a1 : Exa Z h0 a1 own_s0) (F_waits_a1 : Fld Z h0 a1 own_s0 "waits" "Z" u_waits_a1) (g_a1 : n0 ≤ a1) (F_source_a1 : Fld Z h0 a1 own_s0 "source" "I" u_source_a1) (F_context_a1 : Fld Z h0 a1 own_s0 "context" "J" u_context_a1) (F_tag_a1 : Fld Z h0 a1 own_s0 "tag" "I" u_tag_a1) (F_type_a1 : Fld Z h0 a1 own_s0 "type" "Lcom/example/cablegram/cablegram/engine/ElementType;" u_type_a1) (F_array_a1 : Fld Z h0 a1 own_s0 "array" "Ljava/lang/Object;" u_array_a1) (F_offset_a1 : Fld Z h0 a1 own_s0 "offset" "I" u_offset_a1) (F_count_a1 : Fld Z h0 a1 own_s0 "count" "I" u_count_a1) (F_endedWhenAsked_a1 : Fld Z h0 a1 own_s0 "endedWhenAsked" "I" u_endedWhenAsked_a1) (F_tookInPlace_a1 : Fld Z h0 a1 own_s0 "tookInPlace" "Z" u_tookInPlace_a1) (F_made_a1 : Fld Z h0 a1 own_s0 "made" "Lcom/example/cablegram/cablegram/engine/Receive;" u_made_a1) :
    MetFree l own_n1 (head1 (Jvm.Cond.code own_n1 prog_5_method_2_code 9 none :: ws) own_r1) (fun a U => a = #[(.ref a1), (.int p2), (.long q3), (.int p4), (.ref a5), (.ref a6), (.int p7), (.int p8)] ∧ Z.Warmed39 U.vm ∧ U.heap = h0) (fun _ _ _ _ _ => True) (fun _ U o U' => ∃ v L, o = .returned v ∧ Qs Z a1 p2 q3 p4 a5 a6 p7 p8 ur h0 n0 v U'.heap L ∧ FrameEnd U o U' L own_r1.cells own_r1.slots) := by
  refine MetFree.of_bodySF (plainFor_of_name pn_3) hisR ?_
  intro p e s m args below meth c s₁ Bd hml0 hP hK
  obtain ⟨rfl, hZ, hh⟩ := hP
  have hx := Bd.exec
  have hby := Bd.bytes
  have hml : c.maxLocals = 9 := hml0
  have hown : s.vm.findClass own_s0 = some m.cls := findClass_of_methodNamed Bd.named
  have hnm := (name_of_methodNamed Bd.named Bd.method).1
  have X0 : Stand p l e own_r1 s m #[(.ref a1), (.int p2), (.long q3), (.int p4), (.ref a5), (.ref a6), (.int p7), (.int p8)] below meth c s₁ [] 0 0 := Stand.of_body Bd
  have e0 : s₁.heap = h0 := by rw [← hh, Bd.state]; rfl
  have N0 := Fr.nil n0
  have pre0 : ∀ t, Steps p.tables e below (s₁.setTop (mkF m 0 #[.val (.ref a1), .val (.int p2), .val (.long q3), .second, .val (.int p4), .val (.ref a5), .val (.ref a6), .val (.int p7), .val (.int p8)] [])) t → Steps p.tables e below (s₁.setTop (entryFrame m #[(.ref a1), (.int p2), (.long q3), (.int p4), (.ref a5), (.ref a6), (.int p7), (.int p8)] 9)) t := fun t k => castTop (ef_3 m a1 p2 q3 p4 a5 a6 p7 p8) k
  obtain ⟨T9, h9, X9, e9, W9, st9⟩ := putFN X0 hx hZ hown (own_w hw 24 rfl) Via.refl e0 F_waits_a1 E_a1 (Or.inl (own_w hw 25 rfl)) (own_w hw 11 rfl) (ty := .boolean) (v' := (.int ((1 : Int32) &&& 1))) (by decide) rfl (fits_nar_bool _) (g := (mkF m 2 #[.val (.ref a1), .val (.int p2), .val (.long q3), .second, .val (.int p4), .val (.ref a5), .val (.ref a6), .val (.int p7), .val (.int p8)] [(.int (1 : Int32)), (.ref a1)])) rfl rfl (hb hby d3_2)
  have Fw9 := F_waits_a1.same W9
  have K9 : Keep h0 h9 [a1] := (Keep.refl h0 [a1]).wr W9 (Or.inl (List.mem_of_getElem? (i := 0) rfl))
  have N9 := Fr.snoc X9 N0 g_a1
  obtain ⟨T10, h10, X10, e10, W10, st10⟩ := putF X9 hx hZ hown (host := "") (Or.inl (own_w hw 26 rfl)) Via.refl e9 (F_source_a1.other W9 (Or.inr (slot_ne (Or.inl (own_w hw 27 rfl)) (Or.inl (own_w hw 25 rfl)) (by decide) (t := .int) (t' := .boolean) (by decide) (by decide)))) (E_a1.wr W9) (Or.inl (own_w hw 27 rfl)) (own_w hw 11 rfl) (ty := .int) (by decide) rfl rfl (g := (mkF m 7 #[.val (.ref a1), .val (.int p2), .val (.long q3), .second, .val (.int p4), .val (.ref a5), .val (.ref a6), .val (.int p7), .val (.int p8)] [(.int p2), (.ref a1)])) rfl rfl (hb hby d3_7)
  have Fw10 := (F_source_a1.other W9 (Or.inr (slot_ne (Or.inl (own_w hw 27 rfl)) (Or.inl (own_w hw 25 rfl)) (by decide) (t := .int) (t' := .boolean) (by decide) (by decide)))).same W10
  have K10 : Keep h0 h10 [a1] := K9.wr W10 (Or.inl (List.mem_of_getElem? (i := 0) rfl))
  have N10 := Fr.snoc X10 N9 g_a1
  obtain ⟨T11, h11, X11, e11, W11, st11⟩ := putF X10 hx hZ hown (host := "") (Or.inl (own_w hw 28 rfl)) Via.refl e10 ((F_context_a1.other W9 (Or.inr (slot_ne (Or.inl (own_w hw 29 rfl)) (Or.inl (own_w hw 25 rfl)) (by decide) (t := .long) (t' := .boolean) (by decide) (by decide)))).other W10 (Or.inr (slot_ne (Or.inl (own_w hw 29 rfl)) (Or.inl (own_w hw 27 rfl)) (by decide) (t := .long) (t' := .int) (by decide) (by decide)))) ((E_a1.wr W9).wr W10) (Or.inl (own_w hw 29 rfl)) (own_w hw 11 rfl) (ty := .long) (by decide) rfl rfl (g := (mkF m 12 #[.val (.ref a1), .val (.int p2), .val (.long q3), .second, .val (.int p4), .val (.ref a5), .val (.ref a6), .val (.int p7), .val (.int p8)] [(.long q3), (.ref a1)])) rfl rfl (hb hby d3_12)
  have Fw11 := ((F_context_a1.other W9 (Or.inr (slot_ne (Or.inl (own_w hw 29 rfl)) (Or.inl (own_w hw 25 rfl)) (by decide) (t := .long) (t' := .boolean) (by decide) (by decide)))).other W10 (Or.inr (slot_ne (Or.inl (own_w hw 29 rfl)) (Or.inl (own_w hw 27 rfl)) (by decide) (t := .long) (t' := .int) (by decide) (by decide)))).same W11
  have K11 : Keep h0 h11 [a1] := K10.wr W11 (Or.inl (List.mem_of_getElem? (i := 0) rfl))
  have N11 := Fr.snoc X11 N10 g_a1
  obtain ⟨T12, h12, X12, e12, W12, st12⟩ := putF X11 hx hZ hown (host := "") (Or.inl (own_w hw 30 rfl)) Via.refl e11 (((F_tag_a1.other W9 (Or.inr (slot_ne (Or.inl (own_w hw 31 rfl)) (Or.inl (own_w hw 25 rfl)) (by decide) (t := .int) (t' := .boolean) (by decide) (by decide)))).other W10 (Or.inr (slot_ne (Or.inl (own_w hw 31 rfl)) (Or.inl (own_w hw 27 rfl)) (by decide) (t := .int) (t' := .int) (by decide) (by decide)))).other W11 (Or.inr (slot_ne (Or.inl (own_w hw 31 rfl)) (Or.inl (own_w hw 29 rfl)) (by decide) (t := .int) (t' := .long) (by decide) (by decide)))) (((E_a1.wr W9).wr W10).wr W11) (Or.inl (own_w hw 31 rfl)) (own_w hw 11 rfl) (ty := .int) (by decide) rfl rfl (g := (mkF m 18 #[.val (.ref a1), .val (.int p2), .val (.long q3), .second, .val (.int p4), .val (.ref a5), .val (.ref a6), .val (.int p7), .val (.int p8)] [(.int p4), (.ref a1)])) rfl rfl (hb hby d3_18)
  have Fw12 := (((F_tag_a1.other W9 (Or.inr (slot_ne (Or.inl (own_w hw 31 rfl)) (Or.inl (own_w hw 25 rfl)) (by decide) (t := .int) (t' := .boolean) (by decide) (by decide)))).other W10 (Or.inr (slot_ne (Or.inl (own_w hw 31 rfl)) (Or.inl (own_w hw 27 rfl)) (by decide) (t := .int) (t' := .int) (by decide) (by decide)))).other W11 (Or.inr (slot_ne (Or.inl (own_w hw 31 rfl)) (Or.inl (own_w hw 29 rfl)) (by decide) (t := .int) (t' := .long) (by decide) (by decide)))).same W12
  have K12 : Keep h0 h12 [a1] := K11.wr W12 (Or.inl (List.mem_of_getElem? (i := 0) rfl))
  have N12 := Fr.snoc X12 N11 g_a1
  obtain ⟨T13, h13, X13, e13, W13, st13⟩ := putF X12 hx hZ hown (host := "") (Or.inl (own_w hw 32 rfl)) Via.refl e12 ((((F_type_a1.other W9 (Or.inr (slot_ne (Or.inl (own_w hw 33 rfl)) (Or.inl (own_w hw 25 rfl)) (by decide) (t := (.object own_s2)) (t' := .boolean) (by decide) (by decide)))).other W10 (Or.inr (slot_ne (Or.inl (own_w hw 33 rfl)) (Or.inl (own_w hw 27 rfl)) (by decide) (t := (.object own_s2)) (t' := .int) (by decide) (by decide)))).other W11 (Or.inr (slot_ne (Or.inl (own_w hw 33 rfl)) (Or.inl (own_w hw 29 rfl)) (by decide) (t := (.object own_s2)) (t' := .long) (by decide) (by decide)))).other W12 (Or.inr (slot_ne (Or.inl (own_w hw 33 rfl)) (Or.inl (own_w hw 31 rfl)) (by decide) (t := (.object own_s2)) (t' := .int) (by decide) (by decide)))) ((((E_a1.wr W9).wr W10).wr W11).wr W12) (Or.inl (own_w hw 33 rfl)) (own_w hw 11 rfl) (ty := (.object own_s2)) (by decide) rfl rfl (g := (mkF m 24 #[.val (.ref a1), .val (.int p2), .val (.long q3), .second, .val (.int p4), .val (.ref a5), .val (.ref a6), .val (.int p7), .val (.int p8)] [(.ref a5), (.ref a1)])) rfl rfl (hb hby d3_24)
  have Fw13 := ((((F_type_a1.other W9 (Or.inr (slot_ne (Or.inl (own_w hw 33 rfl)) (Or.inl (own_w hw 25 rfl)) (by decide) (t := (.object own_s2)) (t' := .boolean) (by decide) (by decide)))).other W10 (Or.inr (slot_ne (Or.inl (own_w hw 33 rfl)) (Or.inl (own_w hw 27 rfl)) (by decide) (t := (.object own_s2)) (t' := .int) (by decide) (by decide)))).other W11 (Or.inr (slot_ne (Or.inl (own_w hw 33 rfl)) (Or.inl (own_w hw 29 rfl)) (by decide) (t := (.object own_s2)) (t' := .long) (by decide) (by decide)))).other W12 (Or.inr (slot_ne (Or.inl (own_w hw 33 rfl)) (Or.inl (own_w hw 31 rfl)) (by decide) (t := (.object own_s2)) (t' := .int) (by decide) (by decide)))).same W13
  have K13 : Keep h0 h13 [a1] := K12.wr W13 (Or.inl (List.mem_of_getElem? (i := 0) rfl))
  have N13 := Fr.snoc X13 N12 g_a1
  obtain ⟨T14, h14, X14, e14, W14, st14⟩ := putF X13 hx hZ hown (host := "") (Or.inl (own_w hw 34 rfl)) Via.refl e13 (((((F_array_a1.other W9 (Or.inr (slot_ne (Or.inl (own_w hw 35 rfl)) (Or.inl (own_w hw 25 rfl)) (by decide) (t := (.object "java/lang/Object")) (t' := .boolean) (by decide) (by decide)))).other W10 (Or.inr (slot_ne (Or.inl (own_w hw 35 rfl)) (Or.inl (own_w hw 27 rfl)) (by decide) (t := (.object "java/lang/Object")) (t' := .int) (by decide) (by decide)))).other W11 (Or.inr (slot_ne (Or.inl (own_w hw 35 rfl)) (Or.inl (own_w hw 29 rfl)) (by decide) (t := (.object "java/lang/Object")) (t' := .long) (by decide) (by decide)))).other W12 (Or.inr (slot_ne (Or.inl (own_w hw 35 rfl)) (Or.inl (own_w hw 31 rfl)) (by decide) (t := (.object "java/lang/Object")) (t' := .int) (by decide) (by decide)))).other W13 (Or.inr (slot_ne (Or.inl (own_w hw 35 rfl)) (Or.inl (own_w hw 33 rfl)) (by decide) (t := (.object "java/lang/Object")) (t' := (.object own_s2)) (by decide) (by decide)))) (((((E_a1.wr W9).wr W10).wr W11).wr W12).wr W13) (Or.inl (own_w hw 35 rfl)) (own_w hw 11 rfl) (ty := (.object "java/lang/Object")) (by decide) rfl rfl (g := (mkF m 30 #[.val (.ref a1), .val (.int p2), .val (.long q3), .second, .val (.int p4), .val (.ref a5), .val (.ref a6), .val (.int p7), .val (.int p8)] [(.ref a6), (.ref a1)])) rfl rfl (hb hby d3_30)
  have Fw14 := (((((F_array_a1.other W9 (Or.inr (slot_ne (Or.inl (own_w hw 35 rfl)) (Or.inl (own_w hw 25 rfl)) (by decide) (t := (.object "java/lang/Object")) (t' := .boolean) (by decide) (by decide)))).other W10 (Or.inr (slot_ne (Or.inl (own_w hw 35 rfl)) (Or.inl (own_w hw 27 rfl)) (by decide) (t := (.object "java/lang/Object")) (t' := .int) (by decide) (by decide)))).other W11 (Or.inr (slot_ne (Or.inl (own_w hw 35 rfl)) (Or.inl (own_w hw 29 rfl)) (by decide) (t := (.object "java/lang/Object")) (t' := .long) (by decide) (by decide)))).other W12 (Or.inr (slot_ne (Or.inl (own_w hw 35 rfl)) (Or.inl (own_w hw 31 rfl)) (by decide) (t := (.object "java/lang/Object")) (t' := .int) (by decide) (by decide)))).other W13 (Or.inr (slot_ne (Or.inl (own_w hw 35 rfl)) (Or.inl (own_w hw 33 rfl)) (by decide) (t := (.object "java/lang/Object")) (t' := (.object own_s2)) (by decide) (by decide)))).same W14
  have K14 : Keep h0 h14 [a1] := K13.wr W14 (Or.inl (List.mem_of_getElem? (i := 0) rfl))
  have N14 := Fr.snoc X14 N13 g_a1
  obtain ⟨T15, h15, X15, e15, W15, st15⟩ := putF X14 hx hZ hown (host := "") (Or.inl (own_w hw 36 rfl)) Via.refl e14 ((((((F_offset_a1.other W9 (Or.inr (slot_ne (Or.inl (own_w hw 37 rfl)) (Or.inl (own_w hw 25 rfl)) (by decide) (t := .int) (t' := .boolean) (by decide) (by decide)))).other W10 (Or.inr (slot_ne (Or.inl (own_w hw 37 rfl)) (Or.inl (own_w hw 27 rfl)) (by decide) (t := .int) (t' := .int) (by decide) (by decide)))).other W11 (Or.inr (slot_ne (Or.inl (own_w hw 37 rfl)) (Or.inl (own_w hw 29 rfl)) (by decide) (t := .int) (t' := .long) (by decide) (by decide)))).other W12 (Or.inr (slot_ne (Or.inl (own_w hw 37 rfl)) (Or.inl (own_w hw 31 rfl)) (by decide) (t := .int) (t' := .int) (by decide) (by decide)))).other W13 (Or.inr (slot_ne (Or.inl (own_w hw 37 rfl)) (Or.inl (own_w hw 33 rfl)) (by decide) (t := .int) (t' := (.object own_s2)) (by decide) (by decide)))).other W14 (Or.inr (slot_ne (Or.inl (own_w hw 37 rfl)) (Or.inl (own_w hw 35 rfl)) (by decide) (t := .int) (t' := (.object "java/lang/Object")) (by decide) (by decide)))) ((((((E_a1.wr W9).wr W10).wr W11).wr W12).wr W13).wr W14) (Or.inl (own_w hw 37 rfl)) (own_w hw 11 rfl) (ty := .int) (by decide) rfl rfl (g := (mkF m 36 #[.val (.ref a1), .val (.int p2), .val (.long q3), .second, .val (.int p4), .val (.ref a5), .val (.ref a6), .val (.int p7), .val (.int p8)] [(.int p7), (.ref a1)])) rfl rfl (hb hby d3_36)
  have Fw15 := ((((((F_offset_a1.other W9 (Or.inr (slot_ne (Or.inl (own_w hw 37 rfl)) (Or.inl (own_w hw 25 rfl)) (by decide) (t := .int) (t' := .boolean) (by decide) (by decide)))).other W10 (Or.inr (slot_ne (Or.inl (own_w hw 37 rfl)) (Or.inl (own_w hw 27 rfl)) (by decide) (t := .int) (t' := .int) (by decide) (by decide)))).other W11 (Or.inr (slot_ne (Or.inl (own_w hw 37 rfl)) (Or.inl (own_w hw 29 rfl)) (by decide) (t := .int) (t' := .long) (by decide) (by decide)))).other W12 (Or.inr (slot_ne (Or.inl (own_w hw 37 rfl)) (Or.inl (own_w hw 31 rfl)) (by decide) (t := .int) (t' := .int) (by decide) (by decide)))).other W13 (Or.inr (slot_ne (Or.inl (own_w hw 37 rfl)) (Or.inl (own_w hw 33 rfl)) (by decide) (t := .int) (t' := (.object own_s2)) (by decide) (by decide)))).other W14 (Or.inr (slot_ne (Or.inl (own_w hw 37 rfl)) (Or.inl (own_w hw 35 rfl)) (by decide) (t := .int) (t' := (.object "java/lang/Object")) (by decide) (by decide)))).same W15
  have K15 : Keep h0 h15 [a1] := K14.wr W15 (Or.inl (List.mem_of_getElem? (i := 0) rfl))
  have N15 := Fr.snoc X15 N14 g_a1
  obtain ⟨T16, h16, X16, e16, W16, st16⟩ := putF X15 hx hZ hown (host := "") (Or.inl (own_w hw 38 rfl)) Via.refl e15 (((((((F_count_a1.other W9 (Or.inr (slot_ne (Or.inl (own_w hw 39 rfl)) (Or.inl (own_w hw 25 rfl)) (by decide) (t := .int) (t' := .boolean) (by decide) (by decide)))).other W10 (Or.inr (slot_ne (Or.inl (own_w hw 39 rfl)) (Or.inl (own_w hw 27 rfl)) (by decide) (t := .int) (t' := .int) (by decide) (by decide)))).other W11 (Or.inr (slot_ne (Or.inl (own_w hw 39 rfl)) (Or.inl (own_w hw 29 rfl)) (by decide) (t := .int) (t' := .long) (by decide) (by decide)))).other W12 (Or.inr (slot_ne (Or.inl (own_w hw 39 rfl)) (Or.inl (own_w hw 31 rfl)) (by decide) (t := .int) (t' := .int) (by decide) (by decide)))).other W13 (Or.inr (slot_ne (Or.inl (own_w hw 39 rfl)) (Or.inl (own_w hw 33 rfl)) (by decide) (t := .int) (t' := (.object own_s2)) (by decide) (by decide)))).other W14 (Or.inr (slot_ne (Or.inl (own_w hw 39 rfl)) (Or.inl (own_w hw 35 rfl)) (by decide) (t := .int) (t' := (.object "java/lang/Object")) (by decide) (by decide)))).other W15 (Or.inr (slot_ne (Or.inl (own_w hw 39 rfl)) (Or.inl (own_w hw 37 rfl)) (by decide) (t := .int) (t' := .int) (by decide) (by decide)))) (((((((E_a1.wr W9).wr W10).wr W11).wr W12).wr W13).wr W14).wr W15) (Or.inl (own_w hw 39 rfl)) (own_w hw 11 rfl) (ty := .int) (by decide) rfl rfl (g := (mkF m 42 #[.val (.ref a1), .val (.int p2), .val (.long q3), .second, .val (.int p4), .val (.ref a5), .val (.ref a6), .val (.int p7), .val (.int p8)] [(.int p8), (.ref a1)])) rfl rfl (hb hby d3_42)
  have Fw16 := (((((((F_count_a1.other W9 (Or.inr (slot_ne (Or.inl (own_w hw 39 rfl)) (Or.inl (own_w hw 25 rfl)) (by decide) (t := .int) (t' := .boolean) (by decide) (by decide)))).other W10 (Or.inr (slot_ne (Or.inl (own_w hw 39 rfl)) (Or.inl (own_w hw 27 rfl)) (by decide) (t := .int) (t' := .int) (by decide) (by decide)))).other W11 (Or.inr (slot_ne (Or.inl (own_w hw 39 rfl)) (Or.inl (own_w hw 29 rfl)) (by decide) (t := .int) (t' := .long) (by decide) (by decide)))).other W12 (Or.inr (slot_ne (Or.inl (own_w hw 39 rfl)) (Or.inl (own_w hw 31 rfl)) (by decide) (t := .int) (t' := .int) (by decide) (by decide)))).other W13 (Or.inr (slot_ne (Or.inl (own_w hw 39 rfl)) (Or.inl (own_w hw 33 rfl)) (by decide) (t := .int) (t' := (.object own_s2)) (by decide) (by decide)))).other W14 (Or.inr (slot_ne (Or.inl (own_w hw 39 rfl)) (Or.inl (own_w hw 35 rfl)) (by decide) (t := .int) (t' := (.object "java/lang/Object")) (by decide) (by decide)))).other W15 (Or.inr (slot_ne (Or.inl (own_w hw 39 rfl)) (Or.inl (own_w hw 37 rfl)) (by decide) (t := .int) (t' := .int) (by decide) (by decide)))).same W16
  have K16 : Keep h0 h16 [a1] := K15.wr W16 (Or.inl (List.mem_of_getElem? (i := 0) rfl))
  have N16 := Fr.snoc X16 N15 g_a1
  obtain ⟨T17, h17, X17, e17, W17, st17⟩ := putF X16 hx hZ hown (host := "") (Or.inl (own_w hw 40 rfl)) Via.refl e16 ((((((((F_endedWhenAsked_a1.other W9 (Or.inr (slot_ne (Or.inl (own_w hw 41 rfl)) (Or.inl (own_w hw 25 rfl)) (by decide) (t := .int) (t' := .boolean) (by decide) (by decide)))).other W10 (Or.inr (slot_ne (Or.inl (own_w hw 41 rfl)) (Or.inl (own_w hw 27 rfl)) (by decide) (t := .int) (t' := .int) (by decide) (by decide)))).other W11 (Or.inr (slot_ne (Or.inl (own_w hw 41 rfl)) (Or.inl (own_w hw 29 rfl)) (by decide) (t := .int) (t' := .long) (by decide) (by decide)))).other W12 (Or.inr (slot_ne (Or.inl (own_w hw 41 rfl)) (Or.inl (own_w hw 31 rfl)) (by decide) (t := .int) (t' := .int) (by decide) (by decide)))).other W13 (Or.inr (slot_ne (Or.inl (own_w hw 41 rfl)) (Or.inl (own_w hw 33 rfl)) (by decide) (t := .int) (t' := (.object own_s2)) (by decide) (by decide)))).other W14 (Or.inr (slot_ne (Or.inl (own_w hw 41 rfl)) (Or.inl (own_w hw 35 rfl)) (by decide) (t := .int) (t' := (.object "java/lang/Object")) (by decide) (by decide)))).other W15 (Or.inr (slot_ne (Or.inl (own_w hw 41 rfl)) (Or.inl (own_w hw 37 rfl)) (by decide) (t := .int) (t' := .int) (by decide) (by decide)))).other W16 (Or.inr (slot_ne (Or.inl (own_w hw 41 rfl)) (Or.inl (own_w hw 39 rfl)) (by decide) (t := .int) (t' := .int) (by decide) (by decide)))) ((((((((E_a1.wr W9).wr W10).wr W11).wr W12).wr W13).wr W14).wr W15).wr W16) (Or.inl (own_w hw 41 rfl)) (own_w hw 11 rfl) (ty := .int) (by decide) rfl rfl (g := (mkF m 47 #[.val (.ref a1), .val (.int p2), .val (.long q3), .second, .val (.int p4), .val (.ref a5), .val (.ref a6), .val (.int p7), .val (.int p8)] [(.int (-1 : Int32)), (.ref a1)])) rfl rfl (hb hby d3_47)
  have Fw17 := ((((((((F_endedWhenAsked_a1.other W9 (Or.inr (slot_ne (Or.inl (own_w hw 41 rfl)) (Or.inl (own_w hw 25 rfl)) (by decide) (t := .int) (t' := .boolean) (by decide) (by decide)))).other W10 (Or.inr (slot_ne (Or.inl (own_w hw 41 rfl)) (Or.inl (own_w hw 27 rfl)) (by decide) (t := .int) (t' := .int) (by decide) (by decide)))).other W11 (Or.inr (slot_ne (Or.inl (own_w hw 41 rfl)) (Or.inl (own_w hw 29 rfl)) (by decide) (t := .int) (t' := .long) (by decide) (by decide)))).other W12 (Or.inr (slot_ne (Or.inl (own_w hw 41 rfl)) (Or.inl (own_w hw 31 rfl)) (by decide) (t := .int) (t' := .int) (by decide) (by decide)))).other W13 (Or.inr (slot_ne (Or.inl (own_w hw 41 rfl)) (Or.inl (own_w hw 33 rfl)) (by decide) (t := .int) (t' := (.object own_s2)) (by decide) (by decide)))).other W14 (Or.inr (slot_ne (Or.inl (own_w hw 41 rfl)) (Or.inl (own_w hw 35 rfl)) (by decide) (t := .int) (t' := (.object "java/lang/Object")) (by decide) (by decide)))).other W15 (Or.inr (slot_ne (Or.inl (own_w hw 41 rfl)) (Or.inl (own_w hw 37 rfl)) (by decide) (t := .int) (t' := .int) (by decide) (by decide)))).other W16 (Or.inr (slot_ne (Or.inl (own_w hw 41 rfl)) (Or.inl (own_w hw 39 rfl)) (by decide) (t := .int) (t' := .int) (by decide) (by decide)))).same W17
  have K17 : Keep h0 h17 [a1] := K16.wr W17 (Or.inl (List.mem_of_getElem? (i := 0) rfl))
  have N17 := Fr.snoc X17 N16 g_a1
  obtain ⟨T18, h18, X18, e18, W18, st18⟩ := putFN X17 hx hZ hown (own_w hw 42 rfl) Via.refl e17 (((((((((F_tookInPlace_a1.other W9 (Or.inr (slot_ne (Or.inl (own_w hw 43 rfl)) (Or.inl (own_w hw 25 rfl)) (by decide) (t := .boolean) (t' := .boolean) (by decide) (by decide)))).other W10 (Or.inr (slot_ne (Or.inl (own_w hw 43 rfl)) (Or.inl (own_w hw 27 rfl)) (by decide) (t := .boolean) (t' := .int) (by decide) (by decide)))).other W11 (Or.inr (slot_ne (Or.inl (own_w hw 43 rfl)) (Or.inl (own_w hw 29 rfl)) (by decide) (t := .boolean) (t' := .long) (by decide) (by decide)))).other W12 (Or.inr (slot_ne (Or.inl (own_w hw 43 rfl)) (Or.inl (own_w hw 31 rfl)) (by decide) (t := .boolean) (t' := .int) (by decide) (by decide)))).other W13 (Or.inr (slot_ne (Or.inl (own_w hw 43 rfl)) (Or.inl (own_w hw 33 rfl)) (by decide) (t := .boolean) (t' := (.object own_s2)) (by decide) (by decide)))).other W14 (Or.inr (slot_ne (Or.inl (own_w hw 43 rfl)) (Or.inl (own_w hw 35 rfl)) (by decide) (t := .boolean) (t' := (.object "java/lang/Object")) (by decide) (by decide)))).other W15 (Or.inr (slot_ne (Or.inl (own_w hw 43 rfl)) (Or.inl (own_w hw 37 rfl)) (by decide) (t := .boolean) (t' := .int) (by decide) (by decide)))).other W16 (Or.inr (slot_ne (Or.inl (own_w hw 43 rfl)) (Or.inl (own_w hw 39 rfl)) (by decide) (t := .boolean) (t' := .int) (by decide) (by decide)))).other W17 (Or.inr (slot_ne (Or.inl (own_w hw 43 rfl)) (Or.inl (own_w hw 41 rfl)) (by decide) (t := .boolean) (t' := .int) (by decide) (by decide)))) (((((((((E_a1.wr W9).wr W10).wr W11).wr W12).wr W13).wr W14).wr W15).wr W16).wr W17) (Or.inl (own_w hw 43 rfl)) (own_w hw 11 rfl) (ty := .boolean) (v' := (.int ((0 : Int32) &&& 1))) (by decide) rfl (fits_nar_bool _) (g := (mkF m 52 #[.val (.ref a1), .val (.int p2), .val (.long q3), .second, .val (.int p4), .val (.ref a5), .val (.ref a6), .val (.int p7), .val (.int p8)] [(.int (0 : Int32)), (.ref a1)])) rfl rfl (hb hby d3_52)
  have Fw18 := (((((((((F_tookInPlace_a1.other W9 (Or.inr (slot_ne (Or.inl (own_w hw 43 rfl)) (Or.inl (own_w hw 25 rfl)) (by decide) (t := .boolean) (t' := .boolean) (by decide) (by decide)))).other W10 (Or.inr (slot_ne (Or.inl (own_w hw 43 rfl)) (Or.inl (own_w hw 27 rfl)) (by decide) (t := .boolean) (t' := .int) (by decide) (by decide)))).other W11 (Or.inr (slot_ne (Or.inl (own_w hw 43 rfl)) (Or.inl (own_w hw 29 rfl)) (by decide) (t := .boolean) (t' := .long) (by decide) (by decide)))).other W12 (Or.inr (slot_ne (Or.inl (own_w hw 43 rfl)) (Or.inl (own_w hw 31 rfl)) (by decide) (t := .boolean) (t' := .int) (by decide) (by decide)))).other W13 (Or.inr (slot_ne (Or.inl (own_w hw 43 rfl)) (Or.inl (own_w hw 33 rfl)) (by decide) (t := .boolean) (t' := (.object own_s2)) (by decide) (by decide)))).other W14 (Or.inr (slot_ne (Or.inl (own_w hw 43 rfl)) (Or.inl (own_w hw 35 rfl)) (by decide) (t := .boolean) (t' := (.object "java/lang/Object")) (by decide) (by decide)))).other W15 (Or.inr (slot_ne (Or.inl (own_w hw 43 rfl)) (Or.inl (own_w hw 37 rfl)) (by decide) (t := .boolean) (t' := .int) (by decide) (by decide)))).other W16 (Or.inr (slot_ne (Or.inl (own_w hw 43 rfl)) (Or.inl (own_w hw 39 rfl)) (by decide) (t := .boolean) (t' := .int) (by decide) (by decide)))).other W17 (Or.inr (slot_ne (Or.inl (own_w hw 43 rfl)) (Or.inl (own_w hw 41 rfl)) (by decide) (t := .boolean) (t' := .int) (by decide) (by decide)))).same W18
  have K18 : Keep h0 h18 [a1] := K17.wr W18 (Or.inl (List.mem_of_getElem? (i := 0) rfl))
  have N18 := Fr.snoc X18 N17 g_a1
  obtain ⟨T19, h19, X19, e19, W19, st19⟩ := putF X18 hx hZ hown (host := "") (Or.inl (own_w hw 44 rfl)) Via.refl e18 ((((((((((F_made_a1.other W9 (Or.inr (slot_ne (Or.inl (own_w hw 45 rfl)) (Or.inl (own_w hw 25 rfl)) (by decide) (t := (.object "com/example/cablegram/cablegram/engine/Receive")) (t' := .boolean) (by decide) (by decide)))).other W10 (Or.inr (slot_ne (Or.inl (own_w hw 45 rfl)) (Or.inl (own_w hw 27 rfl)) (by decide) (t := (.object "com/example/cablegram/cablegram/engine/Receive")) (t' := .int) (by decide) (by decide)))).other W11 (Or.inr (slot_ne (Or.inl (own_w hw 45 rfl)) (Or.inl (own_w hw 29 rfl)) (by decide) (t := (.object "com/example/cablegram/cablegram/engine/Receive")) (t' := .long) (by decide) (by decide)))).other W12 (Or.inr (slot_ne (Or.inl (own_w hw 45 rfl)) (Or.inl (own_w hw 31 rfl)) (by decide) (t := (.object "com/example/cablegram/cablegram/engine/Receive")) (t' := .int) (by decide) (by decide)))).other W13 (Or.inr (slot_ne (Or.inl (own_w hw 45 rfl)) (Or.inl (own_w hw 33 rfl)) (by decide) (t := (.object "com/example/cablegram/cablegram/engine/Receive")) (t' := (.object own_s2)) (by decide) (by decide)))).other W14 (Or.inr (slot_ne (Or.inl (own_w hw 45 rfl)) (Or.inl (own_w hw 35 rfl)) (by decide) (t := (.object "com/example/cablegram/cablegram/engine/Receive")) (t' := (.object "java/lang/Object")) (by decide) (by decide)))).other W15 (Or.inr (slot_ne (Or.inl (own_w hw 45 rfl)) (Or.inl (own_w hw 37 rfl)) (by decide) (t := (.object "com/example/cablegram/cablegram/engine/Receive")) (t' := .int) (by decide) (by decide)))).other W16 (Or.inr (slot_ne (Or.inl (own_w hw 45 rfl)) (Or.inl (own_w hw 39 rfl)) (by decide) (t := (.object "com/example/cablegram/cablegram/engine/Receive")) (t' := .int) (by decide) (by decide)))).other W17 (Or.inr (slot_ne (Or.inl (own_w hw 45 rfl)) (Or.inl (own_w hw 41 rfl)) (by decide) (t := (.object "com/example/cablegram/cablegram/engine/Receive")) (t' := .int) (by decide) (by decide)))).other W18 (Or.inr (slot_ne (Or.inl (own_w hw 45 rfl)) (Or.inl (own_w hw 43 rfl)) (by decide) (t := (.object "com/example/cablegram/cablegram/engine/Receive")) (t' := .boolean) (by decide) (by decide)))) ((((((((((E_a1.wr W9).wr W10).wr W11).wr W12).wr W13).wr W14).wr W15).wr W16).wr W17).wr W18) (Or.inl (own_w hw 45 rfl)) (own_w hw 11 rfl) (ty := (.object "com/example/cablegram/cablegram/engine/Receive")) (by decide) rfl rfl (g := (mkF m 57 #[.val (.ref a1), .val (.int p2), .val (.long q3), .second, .val (.int p4), .val (.ref a5), .val (.ref a6), .val (.int p7), .val (.int p8)] [.null, (.ref a1)])) rfl rfl (hb hby d3_57)
  have Fw19 := ((((((((((F_made_a1.other W9 (Or.inr (slot_ne (Or.inl (own_w hw 45 rfl)) (Or.inl (own_w hw 25 rfl)) (by decide) (t := (.object "com/example/cablegram/cablegram/engine/Receive")) (t' := .boolean) (by decide) (by decide)))).other W10 (Or.inr (slot_ne (Or.inl (own_w hw 45 rfl)) (Or.inl (own_w hw 27 rfl)) (by decide) (t := (.object "com/example/cablegram/cablegram/engine/Receive")) (t' := .int) (by decide) (by decide)))).other W11 (Or.inr (slot_ne (Or.inl (own_w hw 45 rfl)) (Or.inl (own_w hw 29 rfl)) (by decide) (t := (.object "com/example/cablegram/cablegram/engine/Receive")) (t' := .long) (by decide) (by decide)))).other W12 (Or.inr (slot_ne (Or.inl (own_w hw 45 rfl)) (Or.inl (own_w hw 31 rfl)) (by decide) (t := (.object "com/example/cablegram/cablegram/engine/Receive")) (t' := .int) (by decide) (by decide)))).other W13 (Or.inr (slot_ne (Or.inl (own_w hw 45 rfl)) (Or.inl (own_w hw 33 rfl)) (by decide) (t := (.object "com/example/cablegram/cablegram/engine/Receive")) (t' := (.object own_s2)) (by decide) (by decide)))).other W14 (Or.inr (slot_ne (Or.inl (own_w hw 45 rfl)) (Or.inl (own_w hw 35 rfl)) (by decide) (t := (.object "com/example/cablegram/cablegram/engine/Receive")) (t' := (.object "java/lang/Object")) (by decide) (by decide)))).other W15 (Or.inr (slot_ne (Or.inl (own_w hw 45 rfl)) (Or.inl (own_w hw 37 rfl)) (by decide) (t := (.object "com/example/cablegram/cablegram/engine/Receive")) (t' := .int) (by decide) (by decide)))).other W16 (Or.inr (slot_ne (Or.inl (own_w hw 45 rfl)) (Or.inl (own_w hw 39 rfl)) (by decide) (t := (.object "com/example/cablegram/cablegram/engine/Receive")) (t' := .int) (by decide) (by decide)))).other W17 (Or.inr (slot_ne (Or.inl (own_w hw 45 rfl)) (Or.inl (own_w hw 41 rfl)) (by decide) (t := (.object "com/example/cablegram/cablegram/engine/Receive")) (t' := .int) (by decide) (by decide)))).other W18 (Or.inr (slot_ne (Or.inl (own_w hw 45 rfl)) (Or.inl (own_w hw 43 rfl)) (by decide) (t := (.object "com/example/cablegram/cablegram/engine/Receive")) (t' := .boolean) (by decide) (by decide)))).same W19
  have K19 : Keep h0 h19 [a1] := K18.wr W19 (Or.inl (List.mem_of_getElem? (i := 0) rfl))
  have N19 := Fr.snoc X19 N18 g_a1
  obtain ⟨fs, hr, hrun, hended, hW, hsame⟩ := X19.leave (v := none) (fun _ => rfl)
  refine ⟨_, _, pre0 _ ?_, hrun, hended, _, _, rfl, ?_, ⟨_, rfl⟩, hW, hsame.mono (by decide) (by decide)⟩
  · show Steps _ _ _ (s₁.setTop (mkF m 0 #[.val (.ref a1), .val (.int p2), .val (.long q3), .second, .val (.int p4), .val (.ref a5), .val (.ref a6), .val (.int p7), .val (.int p8)] [])) _
    refine XS.aloadN X0.here hx rfl (hb hby d3_0) rfl rfl ?_
    show Steps _ _ _ (s₁.setTop (mkF m 1 #[.val (.ref a1), .val (.int p2), .val (.long q3), .second, .val (.int p4), .val (.ref a5), .val (.ref a6), .val (.int p7), .val (.int p8)] [(.ref a1)])) _
    refine XS.iconst X0.here hx rfl (hb hby d3_1) ?_
    show Steps _ _ _ (s₁.setTop (mkF m 2 #[.val (.ref a1), .val (.int p2), .val (.long q3), .second, .val (.int p4), .val (.ref a5), .val (.ref a6), .val (.int p7), .val (.int p8)] [(.int (1 : Int32)), (.ref a1)])) _
    refine st9 _ ?_
    show Steps _ _ _ (T9.setTop (mkF m 5 #[.val (.ref a1), .val (.int p2), .val (.long q3), .second, .val (.int p4), .val (.ref a5), .val (.ref a6), .val (.int p7), .val (.int p8)] [])) _
    refine XS.aloadN X9.here hx rfl (hb hby d3_5) rfl rfl ?_
    show Steps _ _ _ (T9.setTop (mkF m 6 #[.val (.ref a1), .val (.int p2), .val (.long q3), .second, .val (.int p4), .val (.ref a5), .val (.ref a6), .val (.int p7), .val (.int p8)] [(.ref a1)])) _
    refine XS.iloadN X9.here hx rfl (hb hby d3_6) rfl ?_
    show Steps _ _ _ (T9.setTop (mkF m 7 #[.val (.ref a1), .val (.int p2), .val (.long q3), .second, .val (.int p4), .val (.ref a5), .val (.ref a6), .val (.int p7), .val (.int p8)] [(.int p2), (.ref a1)])) _
    refine st10 _ ?_
    show Steps _ _ _ (T10.setTop (mkF m 10 #[.val (.ref a1), .val (.int p2), .val (.long q3), .second, .val (.int p4), .val (.ref a5), .val (.ref a6), .val (.int p7), .val (.int p8)] [])) _
    refine XS.aloadN X10.here hx rfl (hb hby d3_10) rfl rfl ?_
    show Steps _ _ _ (T10.setTop (mkF m 11 #[.val (.ref a1), .val (.int p2), .val (.long q3), .second, .val (.int p4), .val (.ref a5), .val (.ref a6), .val (.int p7), .val (.int p8)] [(.ref a1)])) _
    refine XS.lloadN X10.here hx rfl (hb hby d3_11) rfl ?_
    show Steps _ _ _ (T10.setTop (mkF m 12 #[.val (.ref a1), .val (.int p2), .val (.long q3), .second, .val (.int p4), .val (.ref a5), .val (.ref a6), .val (.int p7), .val (.int p8)] [(.long q3), (.ref a1)])) _
    refine st11 _ ?_
    show Steps _ _ _ (T11.setTop (mkF m 15 #[.val (.ref a1), .val (.int p2), .val (.long q3), .second, .val (.int p4), .val (.ref a5), .val (.ref a6), .val (.int p7), .val (.int p8)] [])) _
    refine XS.aloadN X11.here hx rfl (hb hby d3_15) rfl rfl ?_
    show Steps _ _ _ (T11.setTop (mkF m 16 #[.val (.ref a1), .val (.int p2), .val (.long q3), .second, .val (.int p4), .val (.ref a5), .val (.ref a6), .val (.int p7), .val (.int p8)] [(.ref a1)])) _
    refine XS.iload X11.here hx rfl (hb hby d3_16) rfl ?_
    show Steps _ _ _ (T11.setTop (mkF m 18 #[.val (.ref a1), .val (.int p2), .val (.long q3), .second, .val (.int p4), .val (.ref a5), .val (.ref a6), .val (.int p7), .val (.int p8)] [(.int p4), (.ref a1)])) _
    refine st12 _ ?_
    show Steps _ _ _ (T12.setTop (mkF m 21 #[.val (.ref a1), .val (.int p2), .val (.long q3), .second, .val (.int p4), .val (.ref a5), .val (.ref a6), .val (.int p7), .val (.int p8)] [])) _
    refine XS.aloadN X12.here hx rfl (hb hby d3_21) rfl rfl ?_
    show Steps _ _ _ (T12.setTop (mkF m 22 #[.val (.ref a1), .val (.int p2), .val (.long q3), .second, .val (.int p4), .val (.ref a5), .val (.ref a6), .val (.int p7), .val (.int p8)] [(.ref a1)])) _
    refine XS.aload X12.here hx rfl (hb hby d3_22) rfl rfl ?_
    show Steps _ _ _ (T12.setTop (mkF m 24 #[.val (.ref a1), .val (.int p2), .val (.long q3), .second, .val (.int p4), .val (.ref a5), .val (.ref a6), .val (.int p7), .val (.int p8)] [(.ref a5), (.ref a1)])) _
    refine st13 _ ?_
    show Steps _ _ _ (T13.setTop (mkF m 27 #[.val (.ref a1), .val (.int p2), .val (.long q3), .second, .val (.int p4), .val (.ref a5), .val (.ref a6), .val (.int p7), .val (.int p8)] [])) _
    refine XS.aloadN X13.here hx rfl (hb hby d3_27) rfl rfl ?_
    show Steps _ _ _ (T13.setTop (mkF m 28 #[.val (.ref a1), .val (.int p2), .val (.long q3), .second, .val (.int p4), .val (.ref a5), .val (.ref a6), .val (.int p7), .val (.int p8)] [(.ref a1)])) _
    refine XS.aload X13.here hx rfl (hb hby d3_28) rfl rfl ?_
    show Steps _ _ _ (T13.setTop (mkF m 30 #[.val (.ref a1), .val (.int p2), .val (.long q3), .second, .val (.int p4), .val (.ref a5), .val (.ref a6), .val (.int p7), .val (.int p8)] [(.ref a6), (.ref a1)])) _
    refine st14 _ ?_
    show Steps _ _ _ (T14.setTop (mkF m 33 #[.val (.ref a1), .val (.int p2), .val (.long q3), .second, .val (.int p4), .val (.ref a5), .val (.ref a6), .val (.int p7), .val (.int p8)] [])) _
    refine XS.aloadN X14.here hx rfl (hb hby d3_33) rfl rfl ?_
    show Steps _ _ _ (T14.setTop (mkF m 34 #[.val (.ref a1), .val (.int p2), .val (.long q3), .second, .val (.int p4), .val (.ref a5), .val (.ref a6), .val (.int p7), .val (.int p8)] [(.ref a1)])) _
    refine XS.iload X14.here hx rfl (hb hby d3_34) rfl ?_
    show Steps _ _ _ (T14.setTop (mkF m 36 #[.val (.ref a1), .val (.int p2), .val (.long q3), .second, .val (.int p4), .val (.ref a5), .val (.ref a6), .val (.int p7), .val (.int p8)] [(.int p7), (.ref a1)])) _
    refine st15 _ ?_
    show Steps _ _ _ (T15.setTop (mkF m 39 #[.val (.ref a1), .val (.int p2), .val (.long q3), .second, .val (.int p4), .val (.ref a5), .val (.ref a6), .val (.int p7), .val (.int p8)] [])) _
    refine XS.aloadN X15.here hx rfl (hb hby d3_39) rfl rfl ?_
    show Steps _ _ _ (T15.setTop (mkF m 40 #[.val (.ref a1), .val (.int p2), .val (.long q3), .second, .val (.int p4), .val (.ref a5), .val (.ref a6), .val (.int p7), .val (.int p8)] [(.ref a1)])) _
    refine XS.iload X15.here hx rfl (hb hby d3_40) rfl ?_
    show Steps _ _ _ (T15.setTop (mkF m 42 #[.val (.ref a1), .val (.int p2), .val (.long q3), .second, .val (.int p4), .val (.ref a5), .val (.ref a6), .val (.int p7), .val (.int p8)] [(.int p8), (.ref a1)])) _
    refine st16 _ ?_
    show Steps _ _ _ (T16.setTop (mkF m 45 #[.val (.ref a1), .val (.int p2), .val (.long q3), .second, .val (.int p4), .val (.ref a5), .val (.ref a6), .val (.int p7), .val (.int p8)] [])) _
    refine XS.aloadN X16.here hx rfl (hb hby d3_45) rfl rfl ?_
    show Steps _ _ _ (T16.setTop (mkF m 46 #[.val (.ref a1), .val (.int p2), .val (.long q3), .second, .val (.int p4), .val (.ref a5), .val (.ref a6), .val (.int p7), .val (.int p8)] [(.ref a1)])) _
    refine XS.iconst X16.here hx rfl (hb hby d3_46) ?_
    show Steps _ _ _ (T16.setTop (mkF m 47 #[.val (.ref a1), .val (.int p2), .val (.long q3), .second, .val (.int p4), .val (.ref a5), .val (.ref a6), .val (.int p7), .val (.int p8)] [(.int (-1 : Int32)), (.ref a1)])) _
    refine st17 _ ?_
    show Steps _ _ _ (T17.setTop (mkF m 50 #[.val (.ref a1), .val (.int p2), .val (.long q3), .second, .val (.int p4), .val (.ref a5), .val (.ref a6), .val (.int p7), .val (.int p8)] [])) _
    refine XS.aloadN X17.here hx rfl (hb hby d3_50) rfl rfl ?_
    show Steps _ _ _ (T17.setTop (mkF m 51 #[.val (.ref a1), .val (.int p2), .val (.long q3), .second, .val (.int p4), .val (.ref a5), .val (.ref a6), .val (.int p7), .val (.int p8)] [(.ref a1)])) _
    refine XS.iconst X17.here hx rfl (hb hby d3_51) ?_
    show Steps _ _ _ (T17.setTop (mkF m 52 #[.val (.ref a1), .val (.int p2), .val (.long q3), .second, .val (.int p4), .val (.ref a5), .val (.ref a6), .val (.int p7), .val (.int p8)] [(.int (0 : Int32)), (.ref a1)])) _
    refine st18 _ ?_
    show Steps _ _ _ (T18.setTop (mkF m 55 #[.val (.ref a1), .val (.int p2), .val (.long q3), .second, .val (.int p4), .val (.ref a5), .val (.ref a6), .val (.int p7), .val (.int p8)] [])) _
    refine XS.aloadN X18.here hx rfl (hb hby d3_55) rfl rfl ?_
    show Steps _ _ _ (T18.setTop (mkF m 56 #[.val (.ref a1), .val (.int p2), .val (.long q3), .second, .val (.int p4), .val (.ref a5), .val (.ref a6), .val (.int p7), .val (.int p8)] [(.ref a1)])) _
    refine XS.aconstNull X18.here hx rfl (hb hby d3_56) ?_
    show Steps _ _ _ (T18.setTop (mkF m 57 #[.val (.ref a1), .val (.int p2), .val (.long q3), .second, .val (.int p4), .val (.ref a5), .val (.ref a6), .val (.int p7), .val (.int p8)] [.null, (.ref a1)])) _
    refine st19 _ ?_
    show Steps _ _ _ (T19.setTop (mkF m 60 #[.val (.ref a1), .val (.int p2), .val (.long q3), .second, .val (.int p4), .val (.ref a5), .val (.ref a6), .val (.int p7), .val (.int p8)] [])) _
    exact X19.returnOut hx Bd.returns (hb hby d3_60) hr
  · show Qs Z a1 p2 q3 p4 a5 a6 p7 p8 ur h0 n0 _ T19.heap _
    rw [e19]
    exact ⟨rfl, N19, K19, (own_put10 hw (own_put9 hw (own_put8 hw (own_put7 hw (own_put6 hw (own_put5 hw (own_put4 hw (own_put3 hw (own_put2 hw (own_put1 hw (own_put0 hw B W9) W10) W11) W12) W13) W14) W15) W16) W17) W18) W19)⟩
theorem rm3B (l : Launch) (Z : State) (a0 : Array Value) (hw : ∀ d ∈ tables_1, d.before a0 Z = true) (ws : List Jvm.Cond) (a1 : Addr) (p2 : Int32) (q3 : Int64) (p4 : Int32) (a5 a6 : Addr) (p7 p8 : Int32) (v0 v1 v2 v3 v4 v5 v6 v7 v8 v9 v10 v11 : Value) (h0 : Heap) (n0 : Nat) (Z0 : n0 ≤ h0.size) (g : n0 ≤ a1) (B : Br Z h0 a1 v0 v1 v2 v3 v4 v5 v6 v7 v8 v9 v10 v11) :
    MetFree l own_n1 (head1 (Jvm.Cond.code own_n1 prog_5_method_2_code 9 none :: ws) own_r1) (fun a U => a = #[(.ref a1), (.int p2), (.long q3), (.int p4), (.ref a5), (.ref a6), (.int p7), (.int p8)] ∧ Z.Warmed39 U.vm ∧ U.heap = h0) (fun _ _ _ _ _ => True) (fun _ U o U' => ∃ v L, o = .returned v ∧ Qs Z a1 p2 q3 p4 a5 a6 p7 p8 v11 h0 n0 v U'.heap L ∧ FrameEnd U o U' L own_r1.cells own_r1.slots) :=
  rm3 l Z a0 hw ws a1 p2 q3 p4 a5 a6 p7 p8 v0 v1 v2 v3 v4 v5 v6 v7 v8 v9 v10 h0 n0 Z0 v11 B B.1 B.2.1 g B.2.2.1 B.2.2.2.1 B.2.2.2.2.1 B.2.2.2.2.2.1 B.2.2.2.2.2.2.1 B.2.2.2.2.2.2.2.1 B.2.2.2.2.2.2.2.2.1 B.2.2.2.2.2.2.2.2.2.1 B.2.2.2.2.2.2.2.2.2.2.1 B.2.2.2.2.2.2.2.2.2.2.2.1
theorem d4_0 : decode prog_5_method_11_code 0 = .ok (.aload_n 0, 1) := by decide +kernel
theorem d4_1 : decode prog_5_method_11_code 1 = .ok (.getfield 13, 3) := by decide +kernel
theorem d4_4 : decode prog_5_method_11_code 4 = .ok (.ireturn, 1) := by decide +kernel
theorem pn_4 : plainName own_s0 = true := by first | (simp [plainName, overriddenIn]; done) | decide +kernel
theorem ef_4 (m : MethodId) (x0 : Addr) : entryFrame m #[(.ref x0)] 1 = mkF m 0 #[.val (.ref x0)] [] := by first | (simp [entryFrame, mkF, argsToLocals, Value.category]; done) | rfl
theorem rm4 (l : Launch) (Z : State) (a0 : Array Value) (hw : ∀ d ∈ tables_1, d.before a0 Z = true) (ws : List Jvm.Cond) (a1 : Addr) (w2 : Int32) (h0 : Heap) (n0 : Nat) (Z0 : n0 ≤ h0.size) (F_source_a1 : Fld Z h0 a1 own_s0 "source" "I" (.int w2)) :
    MetFree l own_n2 (head1 (Jvm.Cond.code own_n2 prog_5_method_11_code 1 (some .int) :: ws) own_r1) (fun a U => a = #[(.ref a1)] ∧ Z.Warmed39 U.vm ∧ U.heap = h0) (fun _ _ _ _ _ => True) (fun _ U o U' => ∃ v L, o = .returned v ∧ Qv (some (.int w2)) h0 n0 v U'.heap L ∧ FrameEnd U o U' L own_r1.cells own_r1.slots) := by
  refine MetFree.of_bodySF (plainFor_of_name pn_4) hisR ?_
  intro p e s m args below meth c s₁ Bd hml0 hP hK
  obtain ⟨rfl, hZ, hh⟩ := hP
  have hx := Bd.exec
  have hby := Bd.bytes
  have hml : c.maxLocals = 1 := hml0
  have hown : s.vm.findClass own_s0 = some m.cls := findClass_of_methodNamed Bd.named
  have hnm := (name_of_methodNamed Bd.named Bd.method).1
  have X0 : Stand p l e own_r1 s m #[(.ref a1)] below meth c s₁ [] 0 0 := Stand.of_body Bd
  have e0 : s₁.heap = h0 := by rw [← hh, Bd.state]; rfl
  have N0 := Fr.nil n0
  have pre0 : ∀ t, Steps p.tables e below (s₁.setTop (mkF m 0 #[.val (.ref a1)] [])) t → Steps p.tables e below (s₁.setTop (entryFrame m #[(.ref a1)] 1)) t := fun t k => castTop (ef_4 m a1) k
  obtain ⟨T3, X3, e3, st3⟩ := getF X0 hx hZ hown (host := "") (Or.inl (own_w hw 26 rfl)) Via.refl e0 F_source_a1 (g := (mkF m 1 #[.val (.ref a1)] [(.ref a1)])) rfl rfl (hb hby d4_1)
  obtain ⟨fs, hr, hrun, hended, hW, hsame⟩ := X3.leave (v := some (.int w2)) (fun h => by rw [Bd.returns] at h; cases h)
  refine ⟨_, _, pre0 _ ?_, hrun, hended, _, _, rfl, ?_, ⟨_, rfl⟩, hW, hsame.mono (by decide) (by decide)⟩
  · show Steps _ _ _ (s₁.setTop (mkF m 0 #[.val (.ref a1)] [])) _
    refine XS.aloadN X0.here hx rfl (hb hby d4_0) rfl rfl ?_
    show Steps _ _ _ (s₁.setTop (mkF m 1 #[.val (.ref a1)] [(.ref a1)])) _
    refine st3 _ ?_
    show Steps _ _ _ (T3.setTop (mkF m 4 #[.val (.ref a1)] [(.int w2)])) _
    exact retI X3 hx Bd.returns (hb hby d4_4) hr
  · show Qv (some (.int w2)) h0 n0 _ T3.heap _
    rw [e3]
    exact ⟨rfl, N0, rfl⟩
theorem d5_0 : decode prog_5_method_12_code 0 = .ok (.aload_n 0, 1) := by decide +kernel
theorem d5_1 : decode prog_5_method_12_code 1 = .ok (.getfield 17, 3) := by decide +kernel
theorem d5_4 : decode prog_5_method_12_code 4 = .ok (.lreturn, 1) := by decide +kernel
theorem pn_5 : plainName own_s0 = true := by first | (simp [plainName, overriddenIn]; done) | decide +kernel
theorem ef_5 (m : MethodId) (x0 : Addr) : entryFrame m #[(.ref x0)] 1 = mkF m 0 #[.val (.ref x0)] [] := by first | (simp [entryFrame, mkF, argsToLocals, Value.category]; done) | rfl
theorem rm5 (l : Launch) (Z : State) (a0 : Array Value) (hw : ∀ d ∈ tables_1, d.before a0 Z = true) (ws : List Jvm.Cond) (a1 : Addr) (w2 : Int64) (h0 : Heap) (n0 : Nat) (Z0 : n0 ≤ h0.size) (F_context_a1 : Fld Z h0 a1 own_s0 "context" "J" (.long w2)) :
    MetFree l own_n3 (head1 (Jvm.Cond.code own_n3 prog_5_method_12_code 1 (some .long) :: ws) own_r1) (fun a U => a = #[(.ref a1)] ∧ Z.Warmed39 U.vm ∧ U.heap = h0) (fun _ _ _ _ _ => True) (fun _ U o U' => ∃ v L, o = .returned v ∧ Qv (some (.long w2)) h0 n0 v U'.heap L ∧ FrameEnd U o U' L own_r1.cells own_r1.slots) := by
  refine MetFree.of_bodySF (plainFor_of_name pn_5) hisR ?_
  intro p e s m args below meth c s₁ Bd hml0 hP hK
  obtain ⟨rfl, hZ, hh⟩ := hP
  have hx := Bd.exec
  have hby := Bd.bytes
  have hml : c.maxLocals = 1 := hml0
  have hown : s.vm.findClass own_s0 = some m.cls := findClass_of_methodNamed Bd.named
  have hnm := (name_of_methodNamed Bd.named Bd.method).1
  have X0 : Stand p l e own_r1 s m #[(.ref a1)] below meth c s₁ [] 0 0 := Stand.of_body Bd
  have e0 : s₁.heap = h0 := by rw [← hh, Bd.state]; rfl
  have N0 := Fr.nil n0
  have pre0 : ∀ t, Steps p.tables e below (s₁.setTop (mkF m 0 #[.val (.ref a1)] [])) t → Steps p.tables e below (s₁.setTop (entryFrame m #[(.ref a1)] 1)) t := fun t k => castTop (ef_5 m a1) k
  obtain ⟨T3, X3, e3, st3⟩ := getF X0 hx hZ hown (host := "") (Or.inl (own_w hw 28 rfl)) Via.refl e0 F_context_a1 (g := (mkF m 1 #[.val (.ref a1)] [(.ref a1)])) rfl rfl (hb hby d5_1)
  obtain ⟨fs, hr, hrun, hended, hW, hsame⟩ := X3.leave (v := some (.long w2)) (fun h => by rw [Bd.returns] at h; cases h)
  refine ⟨_, _, pre0 _ ?_, hrun, hended, _, _, rfl, ?_, ⟨_, rfl⟩, hW, hsame.mono (by decide) (by decide)⟩
  · show Steps _ _ _ (s₁.setTop (mkF m 0 #[.val (.ref a1)] [])) _
    refine XS.aloadN X0.here hx rfl (hb hby d5_0) rfl rfl ?_
    show Steps _ _ _ (s₁.setTop (mkF m 1 #[.val (.ref a1)] [(.ref a1)])) _
    refine st3 _ ?_
    show Steps _ _ _ (T3.setTop (mkF m 4 #[.val (.ref a1)] [(.long w2)])) _
    jvm_step X3.here [X3.here.top, hx, (hb hby d5_4), X3.method', Bd.returns, narrow]
    first | (intro acts; rw [hr _ acts rfl rfl rfl]) | rw [hr _ _ rfl rfl rfl]
    exact Steps.refl _
  · show Qv (some (.long w2)) h0 n0 _ T3.heap _
    rw [e3]
    exact ⟨rfl, N0, rfl⟩
theorem d6_0 : decode prog_5_method_13_code 0 = .ok (.aload_n 0, 1) := by decide +kernel
theorem d6_1 : decode prog_5_method_13_code 1 = .ok (.getfield 21, 3) := by decide +kernel
theorem d6_4 : decode prog_5_method_13_code 4 = .ok (.ireturn, 1) := by decide +kernel
theorem pn_6 : plainName own_s0 = true := by first | (simp [plainName, overriddenIn]; done) | decide +kernel
theorem ef_6 (m : MethodId) (x0 : Addr) : entryFrame m #[(.ref x0)] 1 = mkF m 0 #[.val (.ref x0)] [] := by first | (simp [entryFrame, mkF, argsToLocals, Value.category]; done) | rfl
theorem rm6 (l : Launch) (Z : State) (a0 : Array Value) (hw : ∀ d ∈ tables_1, d.before a0 Z = true) (ws : List Jvm.Cond) (a1 : Addr) (w2 : Int32) (h0 : Heap) (n0 : Nat) (Z0 : n0 ≤ h0.size) (F_tag_a1 : Fld Z h0 a1 own_s0 "tag" "I" (.int w2)) :
    MetFree l own_n4 (head1 (Jvm.Cond.code own_n4 prog_5_method_13_code 1 (some .int) :: ws) own_r1) (fun a U => a = #[(.ref a1)] ∧ Z.Warmed39 U.vm ∧ U.heap = h0) (fun _ _ _ _ _ => True) (fun _ U o U' => ∃ v L, o = .returned v ∧ Qv (some (.int w2)) h0 n0 v U'.heap L ∧ FrameEnd U o U' L own_r1.cells own_r1.slots) := by
  refine MetFree.of_bodySF (plainFor_of_name pn_6) hisR ?_
  intro p e s m args below meth c s₁ Bd hml0 hP hK
  obtain ⟨rfl, hZ, hh⟩ := hP
  have hx := Bd.exec
  have hby := Bd.bytes
  have hml : c.maxLocals = 1 := hml0
  have hown : s.vm.findClass own_s0 = some m.cls := findClass_of_methodNamed Bd.named
  have hnm := (name_of_methodNamed Bd.named Bd.method).1
  have X0 : Stand p l e own_r1 s m #[(.ref a1)] below meth c s₁ [] 0 0 := Stand.of_body Bd
  have e0 : s₁.heap = h0 := by rw [← hh, Bd.state]; rfl
  have N0 := Fr.nil n0
  have pre0 : ∀ t, Steps p.tables e below (s₁.setTop (mkF m 0 #[.val (.ref a1)] [])) t → Steps p.tables e below (s₁.setTop (entryFrame m #[(.ref a1)] 1)) t := fun t k => castTop (ef_6 m a1) k
  obtain ⟨T3, X3, e3, st3⟩ := getF X0 hx hZ hown (host := "") (Or.inl (own_w hw 30 rfl)) Via.refl e0 F_tag_a1 (g := (mkF m 1 #[.val (.ref a1)] [(.ref a1)])) rfl rfl (hb hby d6_1)
  obtain ⟨fs, hr, hrun, hended, hW, hsame⟩ := X3.leave (v := some (.int w2)) (fun h => by rw [Bd.returns] at h; cases h)
  refine ⟨_, _, pre0 _ ?_, hrun, hended, _, _, rfl, ?_, ⟨_, rfl⟩, hW, hsame.mono (by decide) (by decide)⟩
  · show Steps _ _ _ (s₁.setTop (mkF m 0 #[.val (.ref a1)] [])) _
    refine XS.aloadN X0.here hx rfl (hb hby d6_0) rfl rfl ?_
    show Steps _ _ _ (s₁.setTop (mkF m 1 #[.val (.ref a1)] [(.ref a1)])) _
    refine st3 _ ?_
    show Steps _ _ _ (T3.setTop (mkF m 4 #[.val (.ref a1)] [(.int w2)])) _
    exact retI X3 hx Bd.returns (hb hby d6_4) hr
  · show Qv (some (.int w2)) h0 n0 _ T3.heap _
    rw [e3]
    exact ⟨rfl, N0, rfl⟩
theorem d7_0 : decode prog_5_method_10_code 0 = .ok (.aload_n 0, 1) := by decide +kernel
theorem d7_1 : decode prog_5_method_10_code 1 = .ok (.getfield 44, 3) := by decide +kernel
theorem d7_4 : decode prog_5_method_10_code 4 = .ok (.areturn, 1) := by decide +kernel
theorem pn_7 : plainName own_s0 = true := by first | (simp [plainName, overriddenIn]; done) | decide +kernel
theorem ef_7 (m : MethodId) (x0 : Addr) : entryFrame m #[(.ref x0)] 1 = mkF m 0 #[.val (.ref x0)] [] := by first | (simp [entryFrame, mkF, argsToLocals, Value.category]; done) | rfl
theorem rm7 (l : Launch) (Z : State) (a0 : Array Value) (hw : ∀ d ∈ tables_1, d.before a0 Z = true) (ws : List Jvm.Cond) (a1 : Addr) (h0 : Heap) (n0 : Nat) (Z0 : n0 ≤ h0.size) (F_made_a1 : Fld Z h0 a1 own_s0 "made" "Lcom/example/cablegram/cablegram/engine/Receive;" .null) :
    MetFree l own_n5 (head1 (Jvm.Cond.code own_n5 prog_5_method_10_code 1 (some (.object "com/example/cablegram/cablegram/engine/Receive")) :: ws) own_r1) (fun a U => a = #[(.ref a1)] ∧ Z.Warmed39 U.vm ∧ U.heap = h0) (fun _ _ _ _ _ => True) (fun _ U o U' => ∃ v L, o = .returned v ∧ Qv (some .null) h0 n0 v U'.heap L ∧ FrameEnd U o U' L own_r1.cells own_r1.slots) := by
  refine MetFree.of_bodySF (plainFor_of_name pn_7) hisR ?_
  intro p e s m args below meth c s₁ Bd hml0 hP hK
  obtain ⟨rfl, hZ, hh⟩ := hP
  have hx := Bd.exec
  have hby := Bd.bytes
  have hml : c.maxLocals = 1 := hml0
  have hown : s.vm.findClass own_s0 = some m.cls := findClass_of_methodNamed Bd.named
  have hnm := (name_of_methodNamed Bd.named Bd.method).1
  have X0 : Stand p l e own_r1 s m #[(.ref a1)] below meth c s₁ [] 0 0 := Stand.of_body Bd
  have e0 : s₁.heap = h0 := by rw [← hh, Bd.state]; rfl
  have N0 := Fr.nil n0
  have pre0 : ∀ t, Steps p.tables e below (s₁.setTop (mkF m 0 #[.val (.ref a1)] [])) t → Steps p.tables e below (s₁.setTop (entryFrame m #[(.ref a1)] 1)) t := fun t k => castTop (ef_7 m a1) k
  obtain ⟨T2, X2, e2, st2⟩ := getF X0 hx hZ hown (host := "") (Or.inl (own_w hw 44 rfl)) Via.refl e0 F_made_a1 (g := (mkF m 1 #[.val (.ref a1)] [(.ref a1)])) rfl rfl (hb hby d7_1)
  obtain ⟨fs, hr, hrun, hended, hW, hsame⟩ := X2.leave (v := some .null) (fun h => by rw [Bd.returns] at h; cases h)
  refine ⟨_, _, pre0 _ ?_, hrun, hended, _, _, rfl, ?_, ⟨_, rfl⟩, hW, hsame.mono (by decide) (by decide)⟩
  · show Steps _ _ _ (s₁.setTop (mkF m 0 #[.val (.ref a1)] [])) _
    refine XS.aloadN X0.here hx rfl (hb hby d7_0) rfl rfl ?_
    show Steps _ _ _ (s₁.setTop (mkF m 1 #[.val (.ref a1)] [(.ref a1)])) _
    refine st2 _ ?_
    show Steps _ _ _ (T2.setTop (mkF m 4 #[.val (.ref a1)] [.null])) _
    jvm_step X2.here [X2.here.top, hx, (hb hby d7_4), X2.method', Bd.returns, Value.isRef, FieldType.isReference]
    first | (intro acts; rw [hr _ acts rfl rfl rfl]) | rw [hr _ _ rfl rfl rfl]
    exact Steps.refl _
  · show Qv (some .null) h0 n0 _ T2.heap _
    rw [e2]
    exact ⟨rfl, N0, rfl⟩
theorem d8_0 : decode prog_5_method_9_code 0 = .ok (.aload_n 0, 1) := by decide +kernel
theorem d8_1 : decode prog_5_method_9_code 1 = .ok (.getfield 41, 3) := by decide +kernel
theorem d8_4 : decode prog_5_method_9_code 4 = .ok (.ifCond .eq 10, 3) := by decide +kernel
theorem d8_14 : decode prog_5_method_9_code 14 = .ok (.aconst_null, 1) := by decide +kernel
theorem d8_15 : decode prog_5_method_9_code 15 = .ok (.areturn, 1) := by decide +kernel
theorem pn_8 : plainName own_s0 = true := by first | (simp [plainName, overriddenIn]; done) | decide +kernel
theorem ef_8 (m : MethodId) (x0 : Addr) : entryFrame m #[(.ref x0)] 1 = mkF m 0 #[.val (.ref x0)] [] := by first | (simp [entryFrame, mkF, argsToLocals, Value.category]; done) | rfl
theorem rm8 (l : Launch) (Z : State) (a0 : Array Value) (hw : ∀ d ∈ tables_1, d.before a0 Z = true) (ws : List Jvm.Cond) (a1 : Addr) (w2 : Int32) (h0 : Heap) (n0 : Nat) (Z0 : n0 ≤ h0.size) (F_tookInPlace_a1 : Fld Z h0 a1 own_s0 "tookInPlace" "Z" (.int w2)) (hc4 : w2 = (0 : Int32)) :
    MetFree l own_n6 (head1 (Jvm.Cond.code own_n6 prog_5_method_9_code 1 (some (.object "com/example/cablegram/cablegram/engine/Received")) :: ws) own_r1) (fun a U => a = #[(.ref a1)] ∧ Z.Warmed39 U.vm ∧ U.heap = h0) (fun _ _ _ _ _ => True) (fun _ U o U' => ∃ v L, o = .returned v ∧ Qv (some .null) h0 n0 v U'.heap L ∧ FrameEnd U o U' L own_r1.cells own_r1.slots) := by
  refine MetFree.of_bodySF (plainFor_of_name pn_8) hisR ?_
  intro p e s m args below meth c s₁ Bd hml0 hP hK
  obtain ⟨rfl, hZ, hh⟩ := hP
  have hx := Bd.exec
  have hby := Bd.bytes
  have hml : c.maxLocals = 1 := hml0
  have hown : s.vm.findClass own_s0 = some m.cls := findClass_of_methodNamed Bd.named
  have hnm := (name_of_methodNamed Bd.named Bd.method).1
  have X0 : Stand p l e own_r1 s m #[(.ref a1)] below meth c s₁ [] 0 0 := Stand.of_body Bd
  have e0 : s₁.heap = h0 := by rw [← hh, Bd.state]; rfl
  have N0 := Fr.nil n0
  have pre0 : ∀ t, Steps p.tables e below (s₁.setTop (mkF m 0 #[.val (.ref a1)] [])) t → Steps p.tables e below (s₁.setTop (entryFrame m #[(.ref a1)] 1)) t := fun t k => castTop (ef_8 m a1) k
  obtain ⟨T3, X3, e3, st3⟩ := getF X0 hx hZ hown (host := "") (Or.inl (own_w hw 42 rfl)) Via.refl e0 F_tookInPlace_a1 (g := (mkF m 1 #[.val (.ref a1)] [(.ref a1)])) rfl rfl (hb hby d8_1)
  obtain ⟨fs, hr, hrun, hended, hW, hsame⟩ := X3.leave (v := some .null) (fun h => by rw [Bd.returns] at h; cases h)
  refine ⟨_, _, pre0 _ ?_, hrun, hended, _, _, rfl, ?_, ⟨_, rfl⟩, hW, hsame.mono (by decide) (by decide)⟩
  · show Steps _ _ _ (s₁.setTop (mkF m 0 #[.val (.ref a1)] [])) _
    refine XS.aloadN X0.here hx rfl (hb hby d8_0) rfl rfl ?_
    show Steps _ _ _ (s₁.setTop (mkF m 1 #[.val (.ref a1)] [(.ref a1)])) _
    refine st3 _ ?_
    show Steps _ _ _ (T3.setTop (mkF m 4 #[.val (.ref a1)] [(.int w2)])) _
    refine XS.ifYes X3.here hx rfl (pc0 := 4) (pc' := 14) rfl (hb hby d8_4) rfl ((if0 _ _).trans (teq hc4).1) (by decide) (by decide) ?_
    show Steps _ _ _ (T3.setTop (mkF m 14 #[.val (.ref a1)] [])) _
    refine XS.aconstNull X3.here hx rfl (hb hby d8_14) ?_
    show Steps _ _ _ (T3.setTop (mkF m 15 #[.val (.ref a1)] [.null])) _
    jvm_step X3.here [X3.here.top, hx, (hb hby d8_15), X3.method', Bd.returns, Value.isRef, FieldType.isReference]
    first | (intro acts; rw [hr _ acts rfl rfl rfl]) | rw [hr _ _ rfl rfl rfl]
    exact Steps.refl _
  · show Qv (some .null) h0 n0 _ T3.heap _
    rw [e3]
    exact ⟨rfl, N0, rfl⟩
theorem d10_0 : decode prog_5_method_15_code 0 = .ok (.aload_n 0, 1) := by decide +kernel
theorem d10_1 : decode prog_5_method_15_code 1 = .ok (.getfield 7, 3) := by decide +kernel
theorem d10_4 : decode prog_5_method_15_code 4 = .ok (.ifCond .eq 21, 3) := by decide +kernel
theorem d10_7 : decode prog_5_method_15_code 7 = .ok (.aload_n 0, 1) := by decide +kernel
theorem d10_8 : decode prog_5_method_15_code 8 = .ok (.getfield 41, 3) := by decide +kernel
theorem d10_11 : decode prog_5_method_15_code 11 = .ok (.ifCond .ne 14, 3) := by decide +kernel
theorem d10_14 : decode prog_5_method_15_code 14 = .ok (.aload_n 0, 1) := by decide +kernel
theorem d10_15 : decode prog_5_method_15_code 15 = .ok (.getfield 44, 3) := by decide +kernel
theorem d10_18 : decode prog_5_method_15_code 18 = .ok (.ifnonnull 7, 3) := by decide +kernel
theorem d10_21 : decode prog_5_method_15_code 21 = .ok (.iconst 1, 1) := by decide +kernel
theorem d10_22 : decode prog_5_method_15_code 22 = .ok (.goto 4, 3) := by decide +kernel
theorem d10_26 : decode prog_5_method_15_code 26 = .ok (.ireturn, 1) := by decide +kernel
theorem pn_10 : plainName own_s0 = true := by first | (simp [plainName, overriddenIn]; done) | decide +kernel
theorem ef_10 (m : MethodId) (x0 : Addr) : entryFrame m #[(.ref x0)] 1 = mkF m 0 #[.val (.ref x0)] [] := by first | (simp [entryFrame, mkF, argsToLocals, Value.category]; done) | rfl
theorem rm10 (l : Launch) (Z : State) (a0 : Array Value) (hw : ∀ d ∈ tables_1, d.before a0 Z = true) (ws : List Jvm.Cond) (a1 : Addr) (w2 w4 : Int32) (h0 : Heap) (n0 : Nat) (Z0 : n0 ≤ h0.size) (F_waits_a1 : Fld Z h0 a1 own_s0 "waits" "Z" (.int w2)) (F_tookInPlace_a1 : Fld Z h0 a1 own_s0 "tookInPlace" "Z" (.int w4)) (F_made_a1 : Fld Z h0 a1 own_s0 "made" "Lcom/example/cablegram/cablegram/engine/Receive;" .null) (hc4 : ¬ (w2 = (0 : Int32))) (hc11 : w4 = (0 : Int32)) :
    MetFree l own_n7 (head1 (Jvm.Cond.code own_n7 prog_5_method_15_code 1 (some .boolean) :: ws) own_r1) (fun a U => a = #[(.ref a1)] ∧ Z.Warmed39 U.vm ∧ U.heap = h0) (fun _ _ _ _ _ => True) (fun _ U o U' => ∃ v L, o = .returned v ∧ Qv (some (.int (1 : Int32))) h0 n0 v U'.heap L ∧ FrameEnd U o U' L own_r1.cells own_r1.slots) := by
  refine MetFree.of_bodySF (plainFor_of_name pn_10) hisR ?_
  intro p e s m args below meth c s₁ Bd hml0 hP hK
  obtain ⟨rfl, hZ, hh⟩ := hP
  have hx := Bd.exec
  have hby := Bd.bytes
  have hml : c.maxLocals = 1 := hml0
  have hown : s.vm.findClass own_s0 = some m.cls := findClass_of_methodNamed Bd.named
  have hnm := (name_of_methodNamed Bd.named Bd.method).1
  have X0 : Stand p l e own_r1 s m #[(.ref a1)] below meth c s₁ [] 0 0 := Stand.of_body Bd
  have e0 : s₁.heap = h0 := by rw [← hh, Bd.state]; rfl
  have N0 := Fr.nil n0
  have pre0 : ∀ t, Steps p.tables e below (s₁.setTop (mkF m 0 #[.val (.ref a1)] [])) t → Steps p.tables e below (s₁.setTop (entryFrame m #[(.ref a1)] 1)) t := fun t k => castTop (ef_10 m a1) k
  obtain ⟨T3, X3, e3, st3⟩ := getF X0 hx hZ hown (host := "") (Or.inl (own_w hw 24 rfl)) Via.refl e0 F_waits_a1 (g := (mkF m 1 #[.val (.ref a1)] [(.ref a1)])) rfl rfl (hb hby d10_1)
  obtain ⟨T5, X5, e5, st5⟩ := getF X3 hx hZ hown (host := "") (Or.inl (own_w hw 42 rfl)) Via.refl e3 F_tookInPlace_a1 (g := (mkF m 8 #[.val (.ref a1)] [(.ref a1)])) rfl rfl (hb hby d10_8)
  obtain ⟨T6, X6, e6, st6⟩ := getF X5 hx hZ hown (host := "") (Or.inl (own_w hw 44 rfl)) Via.refl e5 F_made_a1 (g := (mkF m 15 #[.val (.ref a1)] [(.ref a1)])) rfl rfl (hb hby d10_15)
  obtain ⟨fs, hr, hrun, hended, hW, hsame⟩ := X6.leave (v := some (.int (1 : Int32))) (fun h => by rw [Bd.returns] at h; cases h)
  refine ⟨_, _, pre0 _ ?_, hrun, hended, _, _, rfl, ?_, ⟨_, rfl⟩, hW, hsame.mono (by decide) (by decide)⟩
  · show Steps _ _ _ (s₁.setTop (mkF m 0 #[.val (.ref a1)] [])) _
    refine XS.aloadN X0.here hx rfl (hb hby d10_0) rfl rfl ?_
    show Steps _ _ _ (s₁.setTop (mkF m 1 #[.val (.ref a1)] [(.ref a1)])) _
    refine st3 _ ?_
    show Steps _ _ _ (T3.setTop (mkF m 4 #[.val (.ref a1)] [(.int w2)])) _
    refine XS.ifNo X3.here hx rfl (hb hby d10_4) rfl ((if0 _ _).trans (feq hc4).1) ?_
    show Steps _ _ _ (T3.setTop (mkF m 7 #[.val (.ref a1)] [])) _
    refine XS.aloadN X3.here hx rfl (hb hby d10_7) rfl rfl ?_
    show Steps _ _ _ (T3.setTop (mkF m 8 #[.val (.ref a1)] [(.ref a1)])) _
    refine st5 _ ?_
    show Steps _ _ _ (T5.setTop (mkF m 11 #[.val (.ref a1)] [(.int w4)])) _
    refine XS.ifNo X5.here hx rfl (hb hby d10_11) rfl ((if0 _ _).trans (teq hc11).2) ?_
    show Steps _ _ _ (T5.setTop (mkF m 14 #[.val (.ref a1)] [])) _
    refine XS.aloadN X5.here hx rfl (hb hby d10_14) rfl rfl ?_
    show Steps _ _ _ (T5.setTop (mkF m 15 #[.val (.ref a1)] [(.ref a1)])) _
    refine st6 _ ?_
    show Steps _ _ _ (T6.setTop (mkF m 18 #[.val (.ref a1)] [.null])) _
    refine XS.ifnonnullNo X6.here hx rfl (hb hby d10_18) rfl ?_
    show Steps _ _ _ (T6.setTop (mkF m 21 #[.val (.ref a1)] [])) _
    refine XS.iconst X6.here hx rfl (hb hby d10_21) ?_
    show Steps _ _ _ (T6.setTop (mkF m 22 #[.val (.ref a1)] [(.int (1 : Int32))])) _
    refine XS.goto X6.here hx rfl (pc0 := 22) (pc' := 26) rfl (hb hby d10_22) (by decide) (by decide) ?_
    show Steps _ _ _ (T6.setTop (mkF m 26 #[.val (.ref a1)] [(.int (1 : Int32))])) _
    exact retN X6 hx (t := .boolean) Bd.returns (by simp) (hb hby d10_26) hr
  · show Qv (some (.int (1 : Int32))) h0 n0 _ T6.heap _
    rw [e6]
    exact ⟨rfl, N0, rfl⟩
def own_wf (src p : Int32) : Int32 := if src = p then 1 else if src = -2 then 1 else 0
theorem d9_0 : decode prog_5_method_4_code 0 = .ok (.aload_n 0, 1) := by decide +kernel
theorem d9_1 : decode prog_5_method_4_code 1 = .ok (.invokevirtual 48, 3) := by decide +kernel
theorem d9_4 : decode prog_5_method_4_code 4 = .ok (.ifCond .eq 24, 3) := by decide +kernel
theorem d9_7 : decode prog_5_method_4_code 7 = .ok (.aload_n 0, 1) := by decide +kernel
theorem d9_8 : decode prog_5_method_4_code 8 = .ok (.getfield 13, 3) := by decide +kernel
theorem d9_11 : decode prog_5_method_4_code 11 = .ok (.iload_n 1, 1) := by decide +kernel
theorem d9_12 : decode prog_5_method_4_code 12 = .ok (.if_icmp .eq 12, 3) := by decide +kernel
theorem d9_24 : decode prog_5_method_4_code 24 = .ok (.iconst 1, 1) := by decide +kernel
theorem d9_25 : decode prog_5_method_4_code 25 = .ok (.goto 4, 3) := by decide +kernel
theorem d9_29 : decode prog_5_method_4_code 29 = .ok (.ireturn, 1) := by decide +kernel
theorem pn_9 : plainName own_s0 = true := by first | (simp [plainName, overriddenIn]; done) | decide +kernel
theorem pd_9_7 : parseMethodDescriptor "()Z" = some ⟨[], some .boolean⟩ := by decide +kernel
theorem ef_9 (m : MethodId) (x0 : Addr) (x1 : Int32) : entryFrame m #[(.ref x0), (.int x1)] 2 = mkF m 0 #[.val (.ref x0), .val (.int x1)] [] := by first | (simp [entryFrame, mkF, argsToLocals, Value.category]; done) | rfl
theorem rm9_ft (l : Launch) (Z : State) (a0 : Array Value) (hw : ∀ d ∈ tables_1, d.before a0 Z = true) (ws : List Jvm.Cond) (a1 : Addr) (p2 w4 : Int32) (h0 : Heap) (n0 : Nat) (Z0 : n0 ≤ h0.size) (F_waits_a1 : Fld Z h0 a1 own_s0 "waits" "Z" (.int (1 : Int32))) (F_took_a1 : Fld Z h0 a1 own_s0 "tookInPlace" "Z" (.int (0 : Int32))) (F_made_a1 : Fld Z h0 a1 own_s0 "made" "Lcom/example/cablegram/cablegram/engine/Receive;" .null) (E_a1 : Exa Z h0 a1 own_s0) (F_source_a1 : Fld Z h0 a1 own_s0 "source" "I" (.int w4)) (hc12 : w4 = p2) :
    MetFree l own_n8 (head1 (Jvm.Cond.code own_n8 prog_5_method_4_code 2 (some .boolean) :: ws) own_r0) (fun a U => a = #[(.ref a1), (.int p2)] ∧ Z.Warmed39 U.vm ∧ U.heap = h0) (fun _ _ _ _ _ => True) (fun _ U o U' => ∃ v L, o = .returned v ∧ Qv (some (.int (1 : Int32))) h0 n0 v U'.heap L ∧ FrameEnd U o U' L own_r0.cells own_r0.slots) := by
  refine MetFree.of_bodySF (plainFor_of_name pn_9) hisR ?_
  intro p e s m args below meth c s₁ Bd hml0 hP hK
  obtain ⟨rfl, hZ, hh⟩ := hP
  have hx := Bd.exec
  have hby := Bd.bytes
  have hml : c.maxLocals = 2 := hml0
  have hown : s.vm.findClass own_s0 = some m.cls := findClass_of_methodNamed Bd.named
  have hnm := (name_of_methodNamed Bd.named Bd.method).1
  have X0 : Stand p l e own_r0 s m #[(.ref a1), (.int p2)] below meth c s₁ [] 0 0 := Stand.of_body Bd
  have e0 : s₁.heap = h0 := by rw [← hh, Bd.state]; rfl
  have N0 := Fr.nil n0
  have pre0 : ∀ t, Steps p.tables e below (s₁.setTop (mkF m 0 #[.val (.ref a1), .val (.int p2)] [])) t → Steps p.tables e below (s₁.setTop (entryFrame m #[(.ref a1), (.int p2)] 2)) t := fun t k => castTop (ef_9 m a1 p2) k
  obtain ⟨cq3, q3, q3'⟩ := E_a1.cell
  obtain ⟨_, _, ⟨T3, L3, k3, n3⟩, -, X3, ⟨Lc3, hQ3, l3, y3, z3⟩, st3⟩ := X0.privateBack hx (y := own_n7) hown (mvT hZ (own_w hw 76 rfl)) (mvT hZ (own_w hw 77 rfl)) (mvT hZ (Jvm.Kit.selects_private (n := 12) (by decide) (own_w hw 11 rfl) (own_w hw 78 rfl) (own_w hw 77 rfl))) (Cond.privateMethod_at (mvP hZ (own_w hw 78 rfl) (args := #[]))) (mvT hZ (own_w hw 79 rfl)) (by decide) (backOf (W := 0) (rm10 l Z a0 hw [] a1 (1 : Int32) (0 : Int32) h0 n0 Z0 F_waits_a1 F_took_a1 F_made_a1 (by decide) rfl) hZ (own_w hw 79 rfl) (own_w hw 12 rfl) (by decide) (by decide)) (g := (mkF m 1 #[.val (.ref a1), .val (.int p2)] [(.ref a1)])) rfl (by rw [hml]; rfl) (Steps.refl _) (a := a1) (by rw [e0]; exact q3) q3' (argsL := []) (rest := []) (lenOf pd_9_7 rfl) rfl (by show 2 * 0 + _ ≤ _; exact Nat.le_of_eq rfl) (hb hby d9_1) (fun _ _ => ⟨rfl, e0, (by decide : 0 + 0 ≤ _), (by decide : 0 + 0 ≤ _)⟩)
  dsimp only [Pt.U, Pt.locs, Pt.cells, Pt.slots] at X3 l3 y3 z3 st3 hQ3
  subst l3 y3 z3
  obtain ⟨rfl, N3q, e3⟩ := hQ3
  have N3 := Fr.app N0 N3q
  have Kc3 : Keep h0 T3.heap [] := own_kp e3
  obtain ⟨T5, X5, e5, st5⟩ := getF X3 hx hZ hown (host := "") (Or.inl (own_w hw 26 rfl)) Via.refl rfl (F_source_a1.keep Kc3 nin0) (g := (mkF m 8 #[.val (.ref a1), .val (.int p2)] [(.ref a1)])) rfl rfl (hb hby d9_8)
  obtain ⟨fs, hr, hrun, hended, hW, hsame⟩ := X5.leave (v := some (.int (1 : Int32))) (fun h => by rw [Bd.returns] at h; cases h)
  refine ⟨_, _, pre0 _ ?_, hrun, hended, _, _, rfl, ?_, ⟨_, rfl⟩, hW, hsame.mono (by decide) (by decide)⟩
  · show Steps _ _ _ (s₁.setTop (mkF m 0 #[.val (.ref a1), .val (.int p2)] [])) _
    refine XS.aloadN X0.here hx rfl (hb hby d9_0) rfl rfl ?_
    show Steps _ _ _ (s₁.setTop (mkF m 1 #[.val (.ref a1), .val (.int p2)] [(.ref a1)])) _
    refine st3.trans ?_
    show Steps _ _ _ (T3.setTop (mkF m 4 #[.val (.ref a1), .val (.int p2)] [(.int (1 : Int32))])) _
    refine XS.ifNo X3.here hx rfl (hb hby d9_4) rfl ((if0 _ _).trans (feq (by decide : ¬ ((1 : Int32) = (0 : Int32)))).1) ?_
    show Steps _ _ _ (T3.setTop (mkF m 7 #[.val (.ref a1), .val (.int p2)] [])) _
    refine XS.aloadN X3.here hx rfl (hb hby d9_7) rfl rfl ?_
    show Steps _ _ _ (T3.setTop (mkF m 8 #[.val (.ref a1), .val (.int p2)] [(.ref a1)])) _
    refine st5 _ ?_
    show Steps _ _ _ (T5.setTop (mkF m 11 #[.val (.ref a1), .val (.int p2)] [(.int w4)])) _
    refine XS.iloadN X5.here hx rfl (hb hby d9_11) rfl ?_
    show Steps _ _ _ (T5.setTop (mkF m 12 #[.val (.ref a1), .val (.int p2)] [(.int p2), (.int w4)])) _
    refine XS.icmpYes X5.here hx rfl (pc0 := 12) (pc' := 24) rfl (hb hby d9_12) rfl (teq hc12).1 (by decide) (by decide) ?_
    show Steps _ _ _ (T5.setTop (mkF m 24 #[.val (.ref a1), .val (.int p2)] [])) _
    refine XS.iconst X5.here hx rfl (hb hby d9_24) ?_
    show Steps _ _ _ (T5.setTop (mkF m 25 #[.val (.ref a1), .val (.int p2)] [(.int (1 : Int32))])) _
    refine XS.goto X5.here hx rfl (pc0 := 25) (pc' := 29) rfl (hb hby d9_25) (by decide) (by decide) ?_
    show Steps _ _ _ (T5.setTop (mkF m 29 #[.val (.ref a1), .val (.int p2)] [(.int (1 : Int32))])) _
    exact retN X5 hx (t := .boolean) Bd.returns (by simp) (hb hby d9_29) hr
  · show Qv (some (.int (1 : Int32))) h0 n0 _ T5.heap _
    rw [e5]
    exact ⟨rfl, N3, e3⟩
theorem d9_15 : decode prog_5_method_4_code 15 = .ok (.aload_n 0, 1) := by decide +kernel
theorem d9_16 : decode prog_5_method_4_code 16 = .ok (.getfield 13, 3) := by decide +kernel
theorem d9_19 : decode prog_5_method_4_code 19 = .ok (.bipush (-2), 2) := by decide +kernel
theorem d9_21 : decode prog_5_method_4_code 21 = .ok (.if_icmp .ne 7, 3) := by decide +kernel
theorem rm9_fff (l : Launch) (Z : State) (a0 : Array Value) (hw : ∀ d ∈ tables_1, d.before a0 Z = true) (ws : List Jvm.Cond) (a1 : Addr) (p2 w4 : Int32) (h0 : Heap) (n0 : Nat) (Z0 : n0 ≤ h0.size) (F_waits_a1 : Fld Z h0 a1 own_s0 "waits" "Z" (.int (1 : Int32))) (F_took_a1 : Fld Z h0 a1 own_s0 "tookInPlace" "Z" (.int (0 : Int32))) (F_made_a1 : Fld Z h0 a1 own_s0 "made" "Lcom/example/cablegram/cablegram/engine/Receive;" .null) (E_a1 : Exa Z h0 a1 own_s0) (F_source_a1 : Fld Z h0 a1 own_s0 "source" "I" (.int w4)) (hc12 : ¬ (w4 = p2)) (hc21 : w4 = (-2 : Int32)) :
    MetFree l own_n8 (head1 (Jvm.Cond.code own_n8 prog_5_method_4_code 2 (some .boolean) :: ws) own_r0) (fun a U => a = #[(.ref a1), (.int p2)] ∧ Z.Warmed39 U.vm ∧ U.heap = h0) (fun _ _ _ _ _ => True) (fun _ U o U' => ∃ v L, o = .returned v ∧ Qv (some (.int (1 : Int32))) h0 n0 v U'.heap L ∧ FrameEnd U o U' L own_r0.cells own_r0.slots) := by
  refine MetFree.of_bodySF (plainFor_of_name pn_9) hisR ?_
  intro p e s m args below meth c s₁ Bd hml0 hP hK
  obtain ⟨rfl, hZ, hh⟩ := hP
  have hx := Bd.exec
  have hby := Bd.bytes
  have hml : c.maxLocals = 2 := hml0
  have hown : s.vm.findClass own_s0 = some m.cls := findClass_of_methodNamed Bd.named
  have hnm := (name_of_methodNamed Bd.named Bd.method).1
  have X0 : Stand p l e own_r0 s m #[(.ref a1), (.int p2)] below meth c s₁ [] 0 0 := Stand.of_body Bd
  have e0 : s₁.heap = h0 := by rw [← hh, Bd.state]; rfl
  have N0 := Fr.nil n0
  have pre0 : ∀ t, Steps p.tables e below (s₁.setTop (mkF m 0 #[.val (.ref a1), .val (.int p2)] [])) t → Steps p.tables e below (s₁.setTop (entryFrame m #[(.ref a1), (.int p2)] 2)) t := fun t k => castTop (ef_9 m a1 p2) k
  obtain ⟨cq3, q3, q3'⟩ := E_a1.cell
  obtain ⟨_, _, ⟨T3, L3, k3, n3⟩, -, X3, ⟨Lc3, hQ3, l3, y3, z3⟩, st3⟩ := X0.privateBack hx (y := own_n7) hown (mvT hZ (own_w hw 76 rfl)) (mvT hZ (own_w hw 77 rfl)) (mvT hZ (Jvm.Kit.selects_private (n := 12) (by decide) (own_w hw 11 rfl) (own_w hw 78 rfl) (own_w hw 77 rfl))) (Cond.privateMethod_at (mvP hZ (own_w hw 78 rfl) (args := #[]))) (mvT hZ (own_w hw 79 rfl)) (by decide) (backOf (W := 0) (rm10 l Z a0 hw [] a1 (1 : Int32) (0 : Int32) h0 n0 Z0 F_waits_a1 F_took_a1 F_made_a1 (by decide) rfl) hZ (own_w hw 79 rfl) (own_w hw 12 rfl) (by decide) (by decide)) (g := (mkF m 1 #[.val (.ref a1), .val (.int p2)] [(.ref a1)])) rfl (by rw [hml]; rfl) (Steps.refl _) (a := a1) (by rw [e0]; exact q3) q3' (argsL := []) (rest := []) (lenOf pd_9_7 rfl) rfl (by show 2 * 0 + _ ≤ _; exact Nat.le_of_eq rfl) (hb hby d9_1) (fun _ _ => ⟨rfl, e0, (by decide : 0 + 0 ≤ _), (by decide : 0 + 0 ≤ _)⟩)
  dsimp only [Pt.U, Pt.locs, Pt.cells, Pt.slots] at X3 l3 y3 z3 st3 hQ3
  subst l3 y3 z3
  obtain ⟨rfl, N3q, e3⟩ := hQ3
  have N3 := Fr.app N0 N3q
  have Kc3 : Keep h0 T3.heap [] := own_kp e3
  obtain ⟨T5, X5, e5, st5⟩ := getF X3 hx hZ hown (host := "") (Or.inl (own_w hw 26 rfl)) Via.refl rfl (F_source_a1.keep Kc3 nin0) (g := (mkF m 8 #[.val (.ref a1), .val (.int p2)] [(.ref a1)])) rfl rfl (hb hby d9_8)
  obtain ⟨T6, X6, e6, st6⟩ := getF X5 hx hZ hown (host := "") (Or.inl (own_w hw 26 rfl)) Via.refl e5 (F_source_a1.keep Kc3 nin0) (g := (mkF m 16 #[.val (.ref a1), .val (.int p2)] [(.ref a1)])) rfl rfl (hb hby d9_16)
  obtain ⟨fs, hr, hrun, hended, hW, hsame⟩ := X6.leave (v := some (.int (1 : Int32))) (fun h => by rw [Bd.returns] at h; cases h)
  refine ⟨_, _, pre0 _ ?_, hrun, hended, _, _, rfl, ?_, ⟨_, rfl⟩, hW, hsame.mono (by decide) (by decide)⟩
  · show Steps _ _ _ (s₁.setTop (mkF m 0 #[.val (.ref a1), .val (.int p2)] [])) _
    refine XS.aloadN X0.here hx rfl (hb hby d9_0) rfl rfl ?_
    show Steps _ _ _ (s₁.setTop (mkF m 1 #[.val (.ref a1), .val (.int p2)] [(.ref a1)])) _
    refine st3.trans ?_
    show Steps _ _ _ (T3.setTop (mkF m 4 #[.val (.ref a1), .val (.int p2)] [(.int (1 : Int32))])) _
    refine XS.ifNo X3.here hx rfl (hb hby d9_4) rfl ((if0 _ _).trans (feq (by decide : ¬ ((1 : Int32) = (0 : Int32)))).1) ?_
    show Steps _ _ _ (T3.setTop (mkF m 7 #[.val (.ref a1), .val (.int p2)] [])) _
    refine XS.aloadN X3.here hx rfl (hb hby d9_7) rfl rfl ?_
    show Steps _ _ _ (T3.setTop (mkF m 8 #[.val (.ref a1), .val (.int p2)] [(.ref a1)])) _
    refine st5 _ ?_
    show Steps _ _ _ (T5.setTop (mkF m 11 #[.val (.ref a1), .val (.int p2)] [(.int w4)])) _
    refine XS.iloadN X5.here hx rfl (hb hby d9_11) rfl ?_
    show Steps _ _ _ (T5.setTop (mkF m 12 #[.val (.ref a1), .val (.int p2)] [(.int p2), (.int w4)])) _
    refine XS.icmpNo X5.here hx rfl (hb hby d9_12) rfl (feq hc12).1 ?_
    show Steps _ _ _ (T5.setTop (mkF m 15 #[.val (.ref a1), .val (.int p2)] [])) _
    refine XS.aloadN X5.here hx rfl (hb hby d9_15) rfl rfl ?_
    show Steps _ _ _ (T5.setTop (mkF m 16 #[.val (.ref a1), .val (.int p2)] [(.ref a1)])) _
    refine st6 _ ?_
    show Steps _ _ _ (T6.setTop (mkF m 19 #[.val (.ref a1), .val (.int p2)] [(.int w4)])) _
    refine XS.bipush X6.here hx rfl (hb hby d9_19) ?_
    show Steps _ _ _ (T6.setTop (mkF m 21 #[.val (.ref a1), .val (.int p2)] [(.int (-2 : Int32)), (.int w4)])) _
    refine XS.icmpNo X6.here hx rfl (hb hby d9_21) rfl (teq hc21).2 ?_
    show Steps _ _ _ (T6.setTop (mkF m 24 #[.val (.ref a1), .val (.int p2)] [])) _
    refine XS.iconst X6.here hx rfl (hb hby d9_24) ?_
    show Steps _ _ _ (T6.setTop (mkF m 25 #[.val (.ref a1), .val (.int p2)] [(.int (1 : Int32))])) _
    refine XS.goto X6.here hx rfl (pc0 := 25) (pc' := 29) rfl (hb hby d9_25) (by decide) (by decide) ?_
    show Steps _ _ _ (T6.setTop (mkF m 29 #[.val (.ref a1), .val (.int p2)] [(.int (1 : Int32))])) _
    exact retN X6 hx (t := .boolean) Bd.returns (by simp) (hb hby d9_29) hr
  · show Qv (some (.int (1 : Int32))) h0 n0 _ T6.heap _
    rw [e6]
    exact ⟨rfl, N3, e3⟩
theorem d9_28 : decode prog_5_method_4_code 28 = .ok (.iconst 0, 1) := by decide +kernel
theorem rm9_fft (l : Launch) (Z : State) (a0 : Array Value) (hw : ∀ d ∈ tables_1, d.before a0 Z = true) (ws : List Jvm.Cond) (a1 : Addr) (p2 w4 : Int32) (h0 : Heap) (n0 : Nat) (Z0 : n0 ≤ h0.size) (F_waits_a1 : Fld Z h0 a1 own_s0 "waits" "Z" (.int (1 : Int32))) (F_took_a1 : Fld Z h0 a1 own_s0 "tookInPlace" "Z" (.int (0 : Int32))) (F_made_a1 : Fld Z h0 a1 own_s0 "made" "Lcom/example/cablegram/cablegram/engine/Receive;" .null) (E_a1 : Exa Z h0 a1 own_s0) (F_source_a1 : Fld Z h0 a1 own_s0 "source" "I" (.int w4)) (hc12 : ¬ (w4 = p2)) (hc21 : ¬ (w4 = (-2 : Int32))) :
    MetFree l own_n8 (head1 (Jvm.Cond.code own_n8 prog_5_method_4_code 2 (some .boolean) :: ws) own_r0) (fun a U => a = #[(.ref a1), (.int p2)] ∧ Z.Warmed39 U.vm ∧ U.heap = h0) (fun _ _ _ _ _ => True) (fun _ U o U' => ∃ v L, o = .returned v ∧ Qv (some (.int (0 : Int32))) h0 n0 v U'.heap L ∧ FrameEnd U o U' L own_r0.cells own_r0.slots) := by
  refine MetFree.of_bodySF (plainFor_of_name pn_9) hisR ?_
  intro p e s m args below meth c s₁ Bd hml0 hP hK
  obtain ⟨rfl, hZ, hh⟩ := hP
  have hx := Bd.exec
  have hby := Bd.bytes
  have hml : c.maxLocals = 2 := hml0
  have hown : s.vm.findClass own_s0 = some m.cls := findClass_of_methodNamed Bd.named
  have hnm := (name_of_methodNamed Bd.named Bd.method).1
  have X0 : Stand p l e own_r0 s m #[(.ref a1), (.int p2)] below meth c s₁ [] 0 0 := Stand.of_body Bd
  have e0 : s₁.heap = h0 := by rw [← hh, Bd.state]; rfl
  have N0 := Fr.nil n0
  have pre0 : ∀ t, Steps p.tables e below (s₁.setTop (mkF m 0 #[.val (.ref a1), .val (.int p2)] [])) t → Steps p.tables e below (s₁.setTop (entryFrame m #[(.ref a1), (.int p2)] 2)) t := fun t k => castTop (ef_9 m a1 p2) k
  obtain ⟨cq3, q3, q3'⟩ := E_a1.cell
  obtain ⟨_, _, ⟨T3, L3, k3, n3⟩, -, X3, ⟨Lc3, hQ3, l3, y3, z3⟩, st3⟩ := X0.privateBack hx (y := own_n7) hown (mvT hZ (own_w hw 76 rfl)) (mvT hZ (own_w hw 77 rfl)) (mvT hZ (Jvm.Kit.selects_private (n := 12) (by decide) (own_w hw 11 rfl) (own_w hw 78 rfl) (own_w hw 77 rfl))) (Cond.privateMethod_at (mvP hZ (own_w hw 78 rfl) (args := #[]))) (mvT hZ (own_w hw 79 rfl)) (by decide) (backOf (W := 0) (rm10 l Z a0 hw [] a1 (1 : Int32) (0 : Int32) h0 n0 Z0 F_waits_a1 F_took_a1 F_made_a1 (by decide) rfl) hZ (own_w hw 79 rfl) (own_w hw 12 rfl) (by decide) (by decide)) (g := (mkF m 1 #[.val (.ref a1), .val (.int p2)] [(.ref a1)])) rfl (by rw [hml]; rfl) (Steps.refl _) (a := a1) (by rw [e0]; exact q3) q3' (argsL := []) (rest := []) (lenOf pd_9_7 rfl) rfl (by show 2 * 0 + _ ≤ _; exact Nat.le_of_eq rfl) (hb hby d9_1) (fun _ _ => ⟨rfl, e0, (by decide : 0 + 0 ≤ _), (by decide : 0 + 0 ≤ _)⟩)
  dsimp only [Pt.U, Pt.locs, Pt.cells, Pt.slots] at X3 l3 y3 z3 st3 hQ3
  subst l3 y3 z3
  obtain ⟨rfl, N3q, e3⟩ := hQ3
  have N3 := Fr.app N0 N3q
  have Kc3 : Keep h0 T3.heap [] := own_kp e3
  obtain ⟨T5, X5, e5, st5⟩ := getF X3 hx hZ hown (host := "") (Or.inl (own_w hw 26 rfl)) Via.refl rfl (F_source_a1.keep Kc3 nin0) (g := (mkF m 8 #[.val (.ref a1), .val (.int p2)] [(.ref a1)])) rfl rfl (hb hby d9_8)
  obtain ⟨T6, X6, e6, st6⟩ := getF X5 hx hZ hown (host := "") (Or.inl (own_w hw 26 rfl)) Via.refl e5 (F_source_a1.keep Kc3 nin0) (g := (mkF m 16 #[.val (.ref a1), .val (.int p2)] [(.ref a1)])) rfl rfl (hb hby d9_16)
  obtain ⟨fs, hr, hrun, hended, hW, hsame⟩ := X6.leave (v := some (.int (0 : Int32))) (fun h => by rw [Bd.returns] at h; cases h)
  refine ⟨_, _, pre0 _ ?_, hrun, hended, _, _, rfl, ?_, ⟨_, rfl⟩, hW, hsame.mono (by decide) (by decide)⟩
  · show Steps _ _ _ (s₁.setTop (mkF m 0 #[.val (.ref a1), .val (.int p2)] [])) _
    refine XS.aloadN X0.here hx rfl (hb hby d9_0) rfl rfl ?_
    show Steps _ _ _ (s₁.setTop (mkF m 1 #[.val (.ref a1), .val (.int p2)] [(.ref a1)])) _
    refine st3.trans ?_
    show Steps _ _ _ (T3.setTop (mkF m 4 #[.val (.ref a1), .val (.int p2)] [(.int (1 : Int32))])) _
    refine XS.ifNo X3.here hx rfl (hb hby d9_4) rfl ((if0 _ _).trans (feq (by decide : ¬ ((1 : Int32) = (0 : Int32)))).1) ?_
    show Steps _ _ _ (T3.setTop (mkF m 7 #[.val (.ref a1), .val (.int p2)] [])) _
    refine XS.aloadN X3.here hx rfl (hb hby d9_7) rfl rfl ?_
    show Steps _ _ _ (T3.setTop (mkF m 8 #[.val (.ref a1), .val (.int p2)] [(.ref a1)])) _
    refine st5 _ ?_
    show Steps _ _ _ (T5.setTop (mkF m 11 #[.val (.ref a1), .val (.int p2)] [(.int w4)])) _
    refine XS.iloadN X5.here hx rfl (hb hby d9_11) rfl ?_
    show Steps _ _ _ (T5.setTop (mkF m 12 #[.val (.ref a1), .val (.int p2)] [(.int p2), (.int w4)])) _
    refine XS.icmpNo X5.here hx rfl (hb hby d9_12) rfl (feq hc12).1 ?_
    show Steps _ _ _ (T5.setTop (mkF m 15 #[.val (.ref a1), .val (.int p2)] [])) _
    refine XS.aloadN X5.here hx rfl (hb hby d9_15) rfl rfl ?_
    show Steps _ _ _ (T5.setTop (mkF m 16 #[.val (.ref a1), .val (.int p2)] [(.ref a1)])) _
    refine st6 _ ?_
    show Steps _ _ _ (T6.setTop (mkF m 19 #[.val (.ref a1), .val (.int p2)] [(.int w4)])) _
    refine XS.bipush X6.here hx rfl (hb hby d9_19) ?_
    show Steps _ _ _ (T6.setTop (mkF m 21 #[.val (.ref a1), .val (.int p2)] [(.int (-2 : Int32)), (.int w4)])) _
    refine XS.icmpYes X6.here hx rfl (pc0 := 21) (pc' := 28) rfl (hb hby d9_21) rfl (feq hc21).2 (by decide) (by decide) ?_
    show Steps _ _ _ (T6.setTop (mkF m 28 #[.val (.ref a1), .val (.int p2)] [])) _
    refine XS.iconst X6.here hx rfl (hb hby d9_28) ?_
    show Steps _ _ _ (T6.setTop (mkF m 29 #[.val (.ref a1), .val (.int p2)] [(.int (0 : Int32))])) _
    exact retN X6 hx (t := .boolean) Bd.returns (by simp) (hb hby d9_29) hr
  · show Qv (some (.int (0 : Int32))) h0 n0 _ T6.heap _
    rw [e6]
    exact ⟨rfl, N3, e3⟩
theorem rm9 (l : Launch) (Z : State) (a0 : Array Value) (hw : ∀ d ∈ tables_1, d.before a0 Z = true) (ws : List Jvm.Cond) (a1 : Addr) (p2 w4 : Int32) (h0 : Heap) (n0 : Nat) (Z0 : n0 ≤ h0.size) (F_waits_a1 : Fld Z h0 a1 own_s0 "waits" "Z" (.int (1 : Int32))) (F_took_a1 : Fld Z h0 a1 own_s0 "tookInPlace" "Z" (.int (0 : Int32))) (F_made_a1 : Fld Z h0 a1 own_s0 "made" "Lcom/example/cablegram/cablegram/engine/Receive;" .null) (E_a1 : Exa Z h0 a1 own_s0) (F_source_a1 : Fld Z h0 a1 own_s0 "source" "I" (.int w4)) :
    MetFree l own_n8 (head1 (Jvm.Cond.code own_n8 prog_5_method_4_code 2 (some .boolean) :: ws) own_r0) (fun a U => a = #[(.ref a1), (.int p2)] ∧ Z.Warmed39 U.vm ∧ U.heap = h0) (fun _ _ _ _ _ => True) (fun _ U o U' => ∃ v L, o = .returned v ∧ Qv (some (.int (own_wf w4 p2))) h0 n0 v U'.heap L ∧ FrameEnd U o U' L own_r0.cells own_r0.slots) := by
  by_cases h1 : w4 = p2
  · rw [show own_wf w4 p2 = 1 from by unfold own_wf; rw [if_pos h1]]
    exact rm9_ft l Z a0 hw ws a1 p2 w4 h0 n0 Z0 F_waits_a1 F_took_a1 F_made_a1 E_a1 F_source_a1 h1
  by_cases h2 : w4 = (-2 : Int32)
  · rw [show own_wf w4 p2 = 1 from by unfold own_wf; rw [if_neg h1, if_pos h2]]
    exact rm9_fff l Z a0 hw ws a1 p2 w4 h0 n0 Z0 F_waits_a1 F_took_a1 F_made_a1 E_a1 F_source_a1 h1 h2
  · rw [show own_wf w4 p2 = 0 from by unfold own_wf; rw [if_neg h1, if_neg h2]]
    exact rm9_fft l Z a0 hw ws a1 p2 w4 h0 n0 Z0 F_waits_a1 F_took_a1 F_made_a1 E_a1 F_source_a1 h1 h2
theorem own_lcd (x y : Int64) : lcmpW x y = if x > y then 1 else if x = y then 0 else -1 := rfl
theorem own_lc0 {x y : Int64} : lcmpW x y = 0 ↔ x = y := by
  rw [own_lcd]
  by_cases h1 : x > y
  · have : x ≠ y := fun e => by subst e; exact absurd h1 (by simp [Int64.lt_irrefl])
    simp [h1, this]
  · by_cases h2 : x = y
    · simp [h1, h2]
    · simp [h1, h2]
def own_tagok (t w : Int32) : Int32 := if w = -1 then (if t < 0 then 0 else 1) else if w = -2147483648 then (if t < -1 then 1 else 0) else if w = t then 1 else 0
def own_match (s : Int32) (c : Int64) (t f : Int32) (ic : Int64) (w : Int32) : Int32 := if ic = c then (if f = -2 then own_tagok t w else if f = s then own_tagok t w else 0) else 0
theorem d11_0 : decode prog_31_method_7_code 0 = .ok (.lload 5, 2) := by decide +kernel
theorem d11_2 : decode prog_31_method_7_code 2 = .ok (.lload_n 1, 1) := by decide +kernel
theorem d11_3 : decode prog_31_method_7_code 3 = .ok (.lcmp, 1) := by decide +kernel
theorem d11_4 : decode prog_31_method_7_code 4 = .ok (.ifCond .ne 16, 3) := by decide +kernel
theorem d11_20 : decode prog_31_method_7_code 20 = .ok (.iconst 0, 1) := by decide +kernel
theorem d11_21 : decode prog_31_method_7_code 21 = .ok (.ireturn, 1) := by decide +kernel
theorem pn_11 : plainName "com/example/cablegram/cablegram/engine/Envelope" = true := by first | (simp [plainName, overriddenIn]; done) | decide +kernel
theorem ef_11 (m : MethodId) (x0 : Int32) (x1 : Int64) (x2 x3 : Int32) (x4 : Int64) (x5 : Int32) : entryFrame m #[(.int x0), (.long x1), (.int x2), (.int x3), (.long x4), (.int x5)] 8 = mkF m 0 #[.val (.int x0), .val (.long x1), .second, .val (.int x2), .val (.int x3), .val (.long x4), .second, .val (.int x5)] [] := by first | (simp [entryFrame, mkF, argsToLocals, Value.category]; done) | rfl
theorem rm11_t (l : Launch) (Z : State) (a0 : Array Value) (hw : ∀ d ∈ tables_1, d.before a0 Z = true) (ws : List Jvm.Cond) (p1 : Int32) (q2 : Int64) (p3 p4 : Int32) (q5 : Int64) (p6 : Int32) (h0 : Heap) (n0 : Nat) (Z0 : n0 ≤ h0.size) (hc4 : ¬ ((lcmpW q5 q2) = (0 : Int32))) :
    MetFree l own_n9 (head1 (Jvm.Cond.code own_n9 prog_31_method_7_code 8 (some .boolean) :: ws) own_r1) (fun a U => a = #[(.int p1), (.long q2), (.int p3), (.int p4), (.long q5), (.int p6)] ∧ Z.Warmed39 U.vm ∧ U.heap = h0) (fun _ _ _ _ _ => True) (fun _ U o U' => ∃ v L, o = .returned v ∧ Qv (some (.int (0 : Int32))) h0 n0 v U'.heap L ∧ FrameEnd U o U' L own_r1.cells own_r1.slots) := by
  refine MetFree.of_bodySF (plainFor_of_name pn_11) hisR ?_
  intro p e s m args below meth c s₁ Bd hml0 hP hK
  obtain ⟨rfl, hZ, hh⟩ := hP
  have hx := Bd.exec
  have hby := Bd.bytes
  have hml : c.maxLocals = 8 := hml0
  have hown : s.vm.findClass "com/example/cablegram/cablegram/engine/Envelope" = some m.cls := findClass_of_methodNamed Bd.named
  have hnm := (name_of_methodNamed Bd.named Bd.method).1
  have X0 : Stand p l e own_r1 s m #[(.int p1), (.long q2), (.int p3), (.int p4), (.long q5), (.int p6)] below meth c s₁ [] 0 0 := Stand.of_body Bd
  have e0 : s₁.heap = h0 := by rw [← hh, Bd.state]; rfl
  have N0 := Fr.nil n0
  have pre0 : ∀ t, Steps p.tables e below (s₁.setTop (mkF m 0 #[.val (.int p1), .val (.long q2), .second, .val (.int p3), .val (.int p4), .val (.long q5), .second, .val (.int p6)] [])) t → Steps p.tables e below (s₁.setTop (entryFrame m #[(.int p1), (.long q2), (.int p3), (.int p4), (.long q5), (.int p6)] 8)) t := fun t k => castTop (ef_11 m p1 q2 p3 p4 q5 p6) k
  obtain ⟨fs, hr, hrun, hended, hW, hsame⟩ := X0.leave (v := some (.int (0 : Int32))) (fun h => by rw [Bd.returns] at h; cases h)
  refine ⟨_, _, pre0 _ ?_, hrun, hended, _, _, rfl, ?_, ⟨_, rfl⟩, hW, hsame.mono (by decide) (by decide)⟩
  · show Steps _ _ _ (s₁.setTop (mkF m 0 #[.val (.int p1), .val (.long q2), .second, .val (.int p3), .val (.int p4), .val (.long q5), .second, .val (.int p6)] [])) _
    refine XS.lload X0.here hx rfl (hb hby d11_0) rfl ?_
    show Steps _ _ _ (s₁.setTop (mkF m 2 #[.val (.int p1), .val (.long q2), .second, .val (.int p3), .val (.int p4), .val (.long q5), .second, .val (.int p6)] [(.long q5)])) _
    refine XS.lloadN X0.here hx rfl (hb hby d11_2) rfl ?_
    show Steps _ _ _ (s₁.setTop (mkF m 3 #[.val (.int p1), .val (.long q2), .second, .val (.int p3), .val (.int p4), .val (.long q5), .second, .val (.int p6)] [(.long q2), (.long q5)])) _
    refine XS.lcmp X0.here hx rfl (hb hby d11_3) rfl ?_
    show Steps _ _ _ (s₁.setTop (mkF m 4 #[.val (.int p1), .val (.long q2), .second, .val (.int p3), .val (.int p4), .val (.long q5), .second, .val (.int p6)] [(.int (lcmpW q5 q2))])) _
    refine XS.ifYes X0.here hx rfl (pc0 := 4) (pc' := 20) rfl (hb hby d11_4) rfl ((if0 _ _).trans (feq hc4).2) (by decide) (by decide) ?_
    show Steps _ _ _ (s₁.setTop (mkF m 20 #[.val (.int p1), .val (.long q2), .second, .val (.int p3), .val (.int p4), .val (.long q5), .second, .val (.int p6)] [])) _
    refine XS.iconst X0.here hx rfl (hb hby d11_20) ?_
    show Steps _ _ _ (s₁.setTop (mkF m 21 #[.val (.int p1), .val (.long q2), .second, .val (.int p3), .val (.int p4), .val (.long q5), .second, .val (.int p6)] [(.int (0 : Int32))])) _
    exact retN X0 hx (t := .boolean) Bd.returns (by simp) (hb hby d11_21) hr
  · show Qv (some (.int (0 : Int32))) h0 n0 _ s₁.heap _
    rw [e0]
    exact ⟨rfl, N0, rfl⟩
theorem d11_7 : decode prog_31_method_7_code 7 = .ok (.iload 4, 2) := by decide +kernel
theorem d11_9 : decode prog_31_method_7_code 9 = .ok (.bipush (-2), 2) := by decide +kernel
theorem d11_11 : decode prog_31_method_7_code 11 = .ok (.if_icmp .eq 11, 3) := by decide +kernel
theorem d11_14 : decode prog_31_method_7_code 14 = .ok (.iload 4, 2) := by decide +kernel
theorem d11_16 : decode prog_31_method_7_code 16 = .ok (.iload_n 0, 1) := by decide +kernel
theorem d11_17 : decode prog_31_method_7_code 17 = .ok (.if_icmp .eq 5, 3) := by decide +kernel
theorem rm11_fff (l : Launch) (Z : State) (a0 : Array Value) (hw : ∀ d ∈ tables_1, d.before a0 Z = true) (ws : List Jvm.Cond) (p1 : Int32) (q2 : Int64) (p3 p4 : Int32) (q5 : Int64) (p6 : Int32) (h0 : Heap) (n0 : Nat) (Z0 : n0 ≤ h0.size) (hc4 : (lcmpW q5 q2) = (0 : Int32)) (hc11 : ¬ (p4 = (-2 : Int32))) (hc17 : ¬ (p4 = p1)) :
    MetFree l own_n9 (head1 (Jvm.Cond.code own_n9 prog_31_method_7_code 8 (some .boolean) :: ws) own_r1) (fun a U => a = #[(.int p1), (.long q2), (.int p3), (.int p4), (.long q5), (.int p6)] ∧ Z.Warmed39 U.vm ∧ U.heap = h0) (fun _ _ _ _ _ => True) (fun _ U o U' => ∃ v L, o = .returned v ∧ Qv (some (.int (0 : Int32))) h0 n0 v U'.heap L ∧ FrameEnd U o U' L own_r1.cells own_r1.slots) := by
  refine MetFree.of_bodySF (plainFor_of_name pn_11) hisR ?_
  intro p e s m args below meth c s₁ Bd hml0 hP hK
  obtain ⟨rfl, hZ, hh⟩ := hP
  have hx := Bd.exec
  have hby := Bd.bytes
  have hml : c.maxLocals = 8 := hml0
  have hown : s.vm.findClass "com/example/cablegram/cablegram/engine/Envelope" = some m.cls := findClass_of_methodNamed Bd.named
  have hnm := (name_of_methodNamed Bd.named Bd.method).1
  have X0 : Stand p l e own_r1 s m #[(.int p1), (.long q2), (.int p3), (.int p4), (.long q5), (.int p6)] below meth c s₁ [] 0 0 := Stand.of_body Bd
  have e0 : s₁.heap = h0 := by rw [← hh, Bd.state]; rfl
  have N0 := Fr.nil n0
  have pre0 : ∀ t, Steps p.tables e below (s₁.setTop (mkF m 0 #[.val (.int p1), .val (.long q2), .second, .val (.int p3), .val (.int p4), .val (.long q5), .second, .val (.int p6)] [])) t → Steps p.tables e below (s₁.setTop (entryFrame m #[(.int p1), (.long q2), (.int p3), (.int p4), (.long q5), (.int p6)] 8)) t := fun t k => castTop (ef_11 m p1 q2 p3 p4 q5 p6) k
  obtain ⟨fs, hr, hrun, hended, hW, hsame⟩ := X0.leave (v := some (.int (0 : Int32))) (fun h => by rw [Bd.returns] at h; cases h)
  refine ⟨_, _, pre0 _ ?_, hrun, hended, _, _, rfl, ?_, ⟨_, rfl⟩, hW, hsame.mono (by decide) (by decide)⟩
  · show Steps _ _ _ (s₁.setTop (mkF m 0 #[.val (.int p1), .val (.long q2), .second, .val (.int p3), .val (.int p4), .val (.long q5), .second, .val (.int p6)] [])) _
    refine XS.lload X0.here hx rfl (hb hby d11_0) rfl ?_
    show Steps _ _ _ (s₁.setTop (mkF m 2 #[.val (.int p1), .val (.long q2), .second, .val (.int p3), .val (.int p4), .val (.long q5), .second, .val (.int p6)] [(.long q5)])) _
    refine XS.lloadN X0.here hx rfl (hb hby d11_2) rfl ?_
    show Steps _ _ _ (s₁.setTop (mkF m 3 #[.val (.int p1), .val (.long q2), .second, .val (.int p3), .val (.int p4), .val (.long q5), .second, .val (.int p6)] [(.long q2), (.long q5)])) _
    refine XS.lcmp X0.here hx rfl (hb hby d11_3) rfl ?_
    show Steps _ _ _ (s₁.setTop (mkF m 4 #[.val (.int p1), .val (.long q2), .second, .val (.int p3), .val (.int p4), .val (.long q5), .second, .val (.int p6)] [(.int (lcmpW q5 q2))])) _
    refine XS.ifNo X0.here hx rfl (hb hby d11_4) rfl ((if0 _ _).trans (teq hc4).2) ?_
    show Steps _ _ _ (s₁.setTop (mkF m 7 #[.val (.int p1), .val (.long q2), .second, .val (.int p3), .val (.int p4), .val (.long q5), .second, .val (.int p6)] [])) _
    refine XS.iload X0.here hx rfl (hb hby d11_7) rfl ?_
    show Steps _ _ _ (s₁.setTop (mkF m 9 #[.val (.int p1), .val (.long q2), .second, .val (.int p3), .val (.int p4), .val (.long q5), .second, .val (.int p6)] [(.int p4)])) _
    refine XS.bipush X0.here hx rfl (hb hby d11_9) ?_
    show Steps _ _ _ (s₁.setTop (mkF m 11 #[.val (.int p1), .val (.long q2), .second, .val (.int p3), .val (.int p4), .val (.long q5), .second, .val (.int p6)] [(.int (-2 : Int32)), (.int p4)])) _
    refine XS.icmpNo X0.here hx rfl (hb hby d11_11) rfl (feq hc11).1 ?_
    show Steps _ _ _ (s₁.setTop (mkF m 14 #[.val (.int p1), .val (.long q2), .second, .val (.int p3), .val (.int p4), .val (.long q5), .second, .val (.int p6)] [])) _
    refine XS.iload X0.here hx rfl (hb hby d11_14) rfl ?_
    show Steps _ _ _ (s₁.setTop (mkF m 16 #[.val (.int p1), .val (.long q2), .second, .val (.int p3), .val (.int p4), .val (.long q5), .second, .val (.int p6)] [(.int p4)])) _
    refine XS.iloadN X0.here hx rfl (hb hby d11_16) rfl ?_
    show Steps _ _ _ (s₁.setTop (mkF m 17 #[.val (.int p1), .val (.long q2), .second, .val (.int p3), .val (.int p4), .val (.long q5), .second, .val (.int p6)] [(.int p1), (.int p4)])) _
    refine XS.icmpNo X0.here hx rfl (hb hby d11_17) rfl (feq hc17).1 ?_
    show Steps _ _ _ (s₁.setTop (mkF m 20 #[.val (.int p1), .val (.long q2), .second, .val (.int p3), .val (.int p4), .val (.long q5), .second, .val (.int p6)] [])) _
    refine XS.iconst X0.here hx rfl (hb hby d11_20) ?_
    show Steps _ _ _ (s₁.setTop (mkF m 21 #[.val (.int p1), .val (.long q2), .second, .val (.int p3), .val (.int p4), .val (.long q5), .second, .val (.int p6)] [(.int (0 : Int32))])) _
    exact retN X0 hx (t := .boolean) Bd.returns (by simp) (hb hby d11_21) hr
  · show Qv (some (.int (0 : Int32))) h0 n0 _ s₁.heap _
    rw [e0]
    exact ⟨rfl, N0, rfl⟩
theorem d11_22 : decode prog_31_method_7_code 22 = .ok (.iload 7, 2) := by decide +kernel
theorem d11_24 : decode prog_31_method_7_code 24 = .ok (.iconst (-1), 1) := by decide +kernel
theorem d11_25 : decode prog_31_method_7_code 25 = .ok (.if_icmp .ne 13, 3) := by decide +kernel
theorem d11_28 : decode prog_31_method_7_code 28 = .ok (.iload_n 3, 1) := by decide +kernel
theorem d11_29 : decode prog_31_method_7_code 29 = .ok (.ifCond .lt 7, 3) := by decide +kernel
theorem d11_32 : decode prog_31_method_7_code 32 = .ok (.iconst 1, 1) := by decide +kernel
theorem d11_33 : decode prog_31_method_7_code 33 = .ok (.goto 4, 3) := by decide +kernel
theorem d11_37 : decode prog_31_method_7_code 37 = .ok (.ireturn, 1) := by decide +kernel
theorem rm11_ftff (l : Launch) (Z : State) (a0 : Array Value) (hw : ∀ d ∈ tables_1, d.before a0 Z = true) (ws : List Jvm.Cond) (p1 : Int32) (q2 : Int64) (p3 p4 : Int32) (q5 : Int64) (p6 : Int32) (h0 : Heap) (n0 : Nat) (Z0 : n0 ≤ h0.size) (hc4 : (lcmpW q5 q2) = (0 : Int32)) (hc11 : p4 = (-2 : Int32)) (hc25 : p6 = (-1 : Int32)) (hc29 : ¬ (p3 < (0 : Int32))) :
    MetFree l own_n9 (head1 (Jvm.Cond.code own_n9 prog_31_method_7_code 8 (some .boolean) :: ws) own_r1) (fun a U => a = #[(.int p1), (.long q2), (.int p3), (.int p4), (.long q5), (.int p6)] ∧ Z.Warmed39 U.vm ∧ U.heap = h0) (fun _ _ _ _ _ => True) (fun _ U o U' => ∃ v L, o = .returned v ∧ Qv (some (.int (1 : Int32))) h0 n0 v U'.heap L ∧ FrameEnd U o U' L own_r1.cells own_r1.slots) := by
  refine MetFree.of_bodySF (plainFor_of_name pn_11) hisR ?_
  intro p e s m args below meth c s₁ Bd hml0 hP hK
  obtain ⟨rfl, hZ, hh⟩ := hP
  have hx := Bd.exec
  have hby := Bd.bytes
  have hml : c.maxLocals = 8 := hml0
  have hown : s.vm.findClass "com/example/cablegram/cablegram/engine/Envelope" = some m.cls := findClass_of_methodNamed Bd.named
  have hnm := (name_of_methodNamed Bd.named Bd.method).1
  have X0 : Stand p l e own_r1 s m #[(.int p1), (.long q2), (.int p3), (.int p4), (.long q5), (.int p6)] below meth c s₁ [] 0 0 := Stand.of_body Bd
  have e0 : s₁.heap = h0 := by rw [← hh, Bd.state]; rfl
  have N0 := Fr.nil n0
  have pre0 : ∀ t, Steps p.tables e below (s₁.setTop (mkF m 0 #[.val (.int p1), .val (.long q2), .second, .val (.int p3), .val (.int p4), .val (.long q5), .second, .val (.int p6)] [])) t → Steps p.tables e below (s₁.setTop (entryFrame m #[(.int p1), (.long q2), (.int p3), (.int p4), (.long q5), (.int p6)] 8)) t := fun t k => castTop (ef_11 m p1 q2 p3 p4 q5 p6) k
  obtain ⟨fs, hr, hrun, hended, hW, hsame⟩ := X0.leave (v := some (.int (1 : Int32))) (fun h => by rw [Bd.returns] at h; cases h)
  refine ⟨_, _, pre0 _ ?_, hrun, hended, _, _, rfl, ?_, ⟨_, rfl⟩, hW, hsame.mono (by decide) (by decide)⟩
  · show Steps _ _ _ (s₁.setTop (mkF m 0 #[.val (.int p1), .val (.long q2), .second, .val (.int p3), .val (.int p4), .val (.long q5), .second, .val (.int p6)] [])) _
    refine XS.lload X0.here hx rfl (hb hby d11_0) rfl ?_
    show Steps _ _ _ (s₁.setTop (mkF m 2 #[.val (.int p1), .val (.long q2), .second, .val (.int p3), .val (.int p4), .val (.long q5), .second, .val (.int p6)] [(.long q5)])) _
    refine XS.lloadN X0.here hx rfl (hb hby d11_2) rfl ?_
    show Steps _ _ _ (s₁.setTop (mkF m 3 #[.val (.int p1), .val (.long q2), .second, .val (.int p3), .val (.int p4), .val (.long q5), .second, .val (.int p6)] [(.long q2), (.long q5)])) _
    refine XS.lcmp X0.here hx rfl (hb hby d11_3) rfl ?_
    show Steps _ _ _ (s₁.setTop (mkF m 4 #[.val (.int p1), .val (.long q2), .second, .val (.int p3), .val (.int p4), .val (.long q5), .second, .val (.int p6)] [(.int (lcmpW q5 q2))])) _
    refine XS.ifNo X0.here hx rfl (hb hby d11_4) rfl ((if0 _ _).trans (teq hc4).2) ?_
    show Steps _ _ _ (s₁.setTop (mkF m 7 #[.val (.int p1), .val (.long q2), .second, .val (.int p3), .val (.int p4), .val (.long q5), .second, .val (.int p6)] [])) _
    refine XS.iload X0.here hx rfl (hb hby d11_7) rfl ?_
    show Steps _ _ _ (s₁.setTop (mkF m 9 #[.val (.int p1), .val (.long q2), .second, .val (.int p3), .val (.int p4), .val (.long q5), .second, .val (.int p6)] [(.int p4)])) _
    refine XS.bipush X0.here hx rfl (hb hby d11_9) ?_
    show Steps _ _ _ (s₁.setTop (mkF m 11 #[.val (.int p1), .val (.long q2), .second, .val (.int p3), .val (.int p4), .val (.long q5), .second, .val (.int p6)] [(.int (-2 : Int32)), (.int p4)])) _
    refine XS.icmpYes X0.here hx rfl (pc0 := 11) (pc' := 22) rfl (hb hby d11_11) rfl (teq hc11).1 (by decide) (by decide) ?_
    show Steps _ _ _ (s₁.setTop (mkF m 22 #[.val (.int p1), .val (.long q2), .second, .val (.int p3), .val (.int p4), .val (.long q5), .second, .val (.int p6)] [])) _
    refine XS.iload X0.here hx rfl (hb hby d11_22) rfl ?_
    show Steps _ _ _ (s₁.setTop (mkF m 24 #[.val (.int p1), .val (.long q2), .second, .val (.int p3), .val (.int p4), .val (.long q5), .second, .val (.int p6)] [(.int p6)])) _
    refine XS.iconst X0.here hx rfl (hb hby d11_24) ?_
    show Steps _ _ _ (s₁.setTop (mkF m 25 #[.val (.int p1), .val (.long q2), .second, .val (.int p3), .val (.int p4), .val (.long q5), .second, .val (.int p6)] [(.int (-1 : Int32)), (.int p6)])) _
    refine XS.icmpNo X0.here hx rfl (hb hby d11_25) rfl (teq hc25).2 ?_
    show Steps _ _ _ (s₁.setTop (mkF m 28 #[.val (.int p1), .val (.long q2), .second, .val (.int p3), .val (.int p4), .val (.long q5), .second, .val (.int p6)] [])) _
    refine XS.iloadN X0.here hx rfl (hb hby d11_28) rfl ?_
    show Steps _ _ _ (s₁.setTop (mkF m 29 #[.val (.int p1), .val (.long q2), .second, .val (.int p3), .val (.int p4), .val (.long q5), .second, .val (.int p6)] [(.int p3)])) _
    refine XS.ifNo X0.here hx rfl (hb hby d11_29) rfl ((if0 _ _).trans (flt hc29).1) ?_
    show Steps _ _ _ (s₁.setTop (mkF m 32 #[.val (.int p1), .val (.long q2), .second, .val (.int p3), .val (.int p4), .val (.long q5), .second, .val (.int p6)] [])) _
    refine XS.iconst X0.here hx rfl (hb hby d11_32) ?_
    show Steps _ _ _ (s₁.setTop (mkF m 33 #[.val (.int p1), .val (.long q2), .second, .val (.int p3), .val (.int p4), .val (.long q5), .second, .val (.int p6)] [(.int (1 : Int32))])) _
    refine XS.goto X0.here hx rfl (pc0 := 33) (pc' := 37) rfl (hb hby d11_33) (by decide) (by decide) ?_
    show Steps _ _ _ (s₁.setTop (mkF m 37 #[.val (.int p1), .val (.long q2), .second, .val (.int p3), .val (.int p4), .val (.long q5), .second, .val (.int p6)] [(.int (1 : Int32))])) _
    exact retN X0 hx (t := .boolean) Bd.returns (by simp) (hb hby d11_37) hr
  · show Qv (some (.int (1 : Int32))) h0 n0 _ s₁.heap _
    rw [e0]
    exact ⟨rfl, N0, rfl⟩
theorem d11_36 : decode prog_31_method_7_code 36 = .ok (.iconst 0, 1) := by decide +kernel
theorem rm11_ftft (l : Launch) (Z : State) (a0 : Array Value) (hw : ∀ d ∈ tables_1, d.before a0 Z = true) (ws : List Jvm.Cond) (p1 : Int32) (q2 : Int64) (p3 p4 : Int32) (q5 : Int64) (p6 : Int32) (h0 : Heap) (n0 : Nat) (Z0 : n0 ≤ h0.size) (hc4 : (lcmpW q5 q2) = (0 : Int32)) (hc11 : p4 = (-2 : Int32)) (hc25 : p6 = (-1 : Int32)) (hc29 : p3 < (0 : Int32)) :
    MetFree l own_n9 (head1 (Jvm.Cond.code own_n9 prog_31_method_7_code 8 (some .boolean) :: ws) own_r1) (fun a U => a = #[(.int p1), (.long q2), (.int p3), (.int p4), (.long q5), (.int p6)] ∧ Z.Warmed39 U.vm ∧ U.heap = h0) (fun _ _ _ _ _ => True) (fun _ U o U' => ∃ v L, o = .returned v ∧ Qv (some (.int (0 : Int32))) h0 n0 v U'.heap L ∧ FrameEnd U o U' L own_r1.cells own_r1.slots) := by
  refine MetFree.of_bodySF (plainFor_of_name pn_11) hisR ?_
  intro p e s m args below meth c s₁ Bd hml0 hP hK
  obtain ⟨rfl, hZ, hh⟩ := hP
  have hx := Bd.exec
  have hby := Bd.bytes
  have hml : c.maxLocals = 8 := hml0
  have hown : s.vm.findClass "com/example/cablegram/cablegram/engine/Envelope" = some m.cls := findClass_of_methodNamed Bd.named
  have hnm := (name_of_methodNamed Bd.named Bd.method).1
  have X0 : Stand p l e own_r1 s m #[(.int p1), (.long q2), (.int p3), (.int p4), (.long q5), (.int p6)] below meth c s₁ [] 0 0 := Stand.of_body Bd
  have e0 : s₁.heap = h0 := by rw [← hh, Bd.state]; rfl
  have N0 := Fr.nil n0
  have pre0 : ∀ t, Steps p.tables e below (s₁.setTop (mkF m 0 #[.val (.int p1), .val (.long q2), .second, .val (.int p3), .val (.int p4), .val (.long q5), .second, .val (.int p6)] [])) t → Steps p.tables e below (s₁.setTop (entryFrame m #[(.int p1), (.long q2), (.int p3), (.int p4), (.long q5), (.int p6)] 8)) t := fun t k => castTop (ef_11 m p1 q2 p3 p4 q5 p6) k
  obtain ⟨fs, hr, hrun, hended, hW, hsame⟩ := X0.leave (v := some (.int (0 : Int32))) (fun h => by rw [Bd.returns] at h; cases h)
  refine ⟨_, _, pre0 _ ?_, hrun, hended, _, _, rfl, ?_, ⟨_, rfl⟩, hW, hsame.mono (by decide) (by decide)⟩
  · show Steps _ _ _ (s₁.setTop (mkF m 0 #[.val (.int p1), .val (.long q2), .second, .val (.int p3), .val (.int p4), .val (.long q5), .second, .val (.int p6)] [])) _
    refine XS.lload X0.here hx rfl (hb hby d11_0) rfl ?_
    show Steps _ _ _ (s₁.setTop (mkF m 2 #[.val (.int p1), .val (.long q2), .second, .val (.int p3), .val (.int p4), .val (.long q5), .second, .val (.int p6)] [(.long q5)])) _
    refine XS.lloadN X0.here hx rfl (hb hby d11_2) rfl ?_
    show Steps _ _ _ (s₁.setTop (mkF m 3 #[.val (.int p1), .val (.long q2), .second, .val (.int p3), .val (.int p4), .val (.long q5), .second, .val (.int p6)] [(.long q2), (.long q5)])) _
    refine XS.lcmp X0.here hx rfl (hb hby d11_3) rfl ?_
    show Steps _ _ _ (s₁.setTop (mkF m 4 #[.val (.int p1), .val (.long q2), .second, .val (.int p3), .val (.int p4), .val (.long q5), .second, .val (.int p6)] [(.int (lcmpW q5 q2))])) _
    refine XS.ifNo X0.here hx rfl (hb hby d11_4) rfl ((if0 _ _).trans (teq hc4).2) ?_
    show Steps _ _ _ (s₁.setTop (mkF m 7 #[.val (.int p1), .val (.long q2), .second, .val (.int p3), .val (.int p4), .val (.long q5), .second, .val (.int p6)] [])) _
    refine XS.iload X0.here hx rfl (hb hby d11_7) rfl ?_
    show Steps _ _ _ (s₁.setTop (mkF m 9 #[.val (.int p1), .val (.long q2), .second, .val (.int p3), .val (.int p4), .val (.long q5), .second, .val (.int p6)] [(.int p4)])) _
    refine XS.bipush X0.here hx rfl (hb hby d11_9) ?_
    show Steps _ _ _ (s₁.setTop (mkF m 11 #[.val (.int p1), .val (.long q2), .second, .val (.int p3), .val (.int p4), .val (.long q5), .second, .val (.int p6)] [(.int (-2 : Int32)), (.int p4)])) _
    refine XS.icmpYes X0.here hx rfl (pc0 := 11) (pc' := 22) rfl (hb hby d11_11) rfl (teq hc11).1 (by decide) (by decide) ?_
    show Steps _ _ _ (s₁.setTop (mkF m 22 #[.val (.int p1), .val (.long q2), .second, .val (.int p3), .val (.int p4), .val (.long q5), .second, .val (.int p6)] [])) _
    refine XS.iload X0.here hx rfl (hb hby d11_22) rfl ?_
    show Steps _ _ _ (s₁.setTop (mkF m 24 #[.val (.int p1), .val (.long q2), .second, .val (.int p3), .val (.int p4), .val (.long q5), .second, .val (.int p6)] [(.int p6)])) _
    refine XS.iconst X0.here hx rfl (hb hby d11_24) ?_
    show Steps _ _ _ (s₁.setTop (mkF m 25 #[.val (.int p1), .val (.long q2), .second, .val (.int p3), .val (.int p4), .val (.long q5), .second, .val (.int p6)] [(.int (-1 : Int32)), (.int p6)])) _
    refine XS.icmpNo X0.here hx rfl (hb hby d11_25) rfl (teq hc25).2 ?_
    show Steps _ _ _ (s₁.setTop (mkF m 28 #[.val (.int p1), .val (.long q2), .second, .val (.int p3), .val (.int p4), .val (.long q5), .second, .val (.int p6)] [])) _
    refine XS.iloadN X0.here hx rfl (hb hby d11_28) rfl ?_
    show Steps _ _ _ (s₁.setTop (mkF m 29 #[.val (.int p1), .val (.long q2), .second, .val (.int p3), .val (.int p4), .val (.long q5), .second, .val (.int p6)] [(.int p3)])) _
    refine XS.ifYes X0.here hx rfl (pc0 := 29) (pc' := 36) rfl (hb hby d11_29) rfl ((if0 _ _).trans (tlt hc29).1) (by decide) (by decide) ?_
    show Steps _ _ _ (s₁.setTop (mkF m 36 #[.val (.int p1), .val (.long q2), .second, .val (.int p3), .val (.int p4), .val (.long q5), .second, .val (.int p6)] [])) _
    refine XS.iconst X0.here hx rfl (hb hby d11_36) ?_
    show Steps _ _ _ (s₁.setTop (mkF m 37 #[.val (.int p1), .val (.long q2), .second, .val (.int p3), .val (.int p4), .val (.long q5), .second, .val (.int p6)] [(.int (0 : Int32))])) _
    exact retN X0 hx (t := .boolean) Bd.returns (by simp) (hb hby d11_37) hr
  · show Qv (some (.int (0 : Int32))) h0 n0 _ s₁.heap _
    rw [e0]
    exact ⟨rfl, N0, rfl⟩
theorem d11_38 : decode prog_31_method_7_code 38 = .ok (.iload 7, 2) := by decide +kernel
theorem d11_40 : decode prog_31_method_7_code 40 = .ok (.ldc 43, 2) := by decide +kernel
theorem d11_42 : decode prog_31_method_7_code 42 = .ok (.if_icmp .ne 16, 3) := by decide +kernel
theorem d11_45 : decode prog_31_method_7_code 45 = .ok (.iload_n 3, 1) := by decide +kernel
theorem d11_46 : decode prog_31_method_7_code 46 = .ok (.iconst (-1), 1) := by decide +kernel
theorem d11_47 : decode prog_31_method_7_code 47 = .ok (.if_icmp .ge 7, 3) := by decide +kernel
theorem d11_50 : decode prog_31_method_7_code 50 = .ok (.iconst 1, 1) := by decide +kernel
theorem d11_51 : decode prog_31_method_7_code 51 = .ok (.goto 18, 3) := by decide +kernel
theorem d11_69 : decode prog_31_method_7_code 69 = .ok (.ireturn, 1) := by decide +kernel
theorem rm11_fttff (l : Launch) (Z : State) (a0 : Array Value) (hw : ∀ d ∈ tables_1, d.before a0 Z = true) (ws : List Jvm.Cond) (p1 : Int32) (q2 : Int64) (p3 p4 : Int32) (q5 : Int64) (p6 : Int32) (h0 : Heap) (n0 : Nat) (Z0 : n0 ≤ h0.size) (hc4 : (lcmpW q5 q2) = (0 : Int32)) (hc11 : p4 = (-2 : Int32)) (hc25 : ¬ (p6 = (-1 : Int32))) (hc42 : p6 = (-2147483648 : Int32)) (hc47 : p3 < (-1 : Int32)) :
    MetFree l own_n9 (head1 (Jvm.Cond.code own_n9 prog_31_method_7_code 8 (some .boolean) :: ws) own_r1) (fun a U => a = #[(.int p1), (.long q2), (.int p3), (.int p4), (.long q5), (.int p6)] ∧ Z.Warmed39 U.vm ∧ U.heap = h0) (fun _ _ _ _ _ => True) (fun _ U o U' => ∃ v L, o = .returned v ∧ Qv (some (.int (1 : Int32))) h0 n0 v U'.heap L ∧ FrameEnd U o U' L own_r1.cells own_r1.slots) := by
  refine MetFree.of_bodySF (plainFor_of_name pn_11) hisR ?_
  intro p e s m args below meth c s₁ Bd hml0 hP hK
  obtain ⟨rfl, hZ, hh⟩ := hP
  have hx := Bd.exec
  have hby := Bd.bytes
  have hml : c.maxLocals = 8 := hml0
  have hown : s.vm.findClass "com/example/cablegram/cablegram/engine/Envelope" = some m.cls := findClass_of_methodNamed Bd.named
  have hnm := (name_of_methodNamed Bd.named Bd.method).1
  have X0 : Stand p l e own_r1 s m #[(.int p1), (.long q2), (.int p3), (.int p4), (.long q5), (.int p6)] below meth c s₁ [] 0 0 := Stand.of_body Bd
  have e0 : s₁.heap = h0 := by rw [← hh, Bd.state]; rfl
  have N0 := Fr.nil n0
  have pre0 : ∀ t, Steps p.tables e below (s₁.setTop (mkF m 0 #[.val (.int p1), .val (.long q2), .second, .val (.int p3), .val (.int p4), .val (.long q5), .second, .val (.int p6)] [])) t → Steps p.tables e below (s₁.setTop (entryFrame m #[(.int p1), (.long q2), (.int p3), (.int p4), (.long q5), (.int p6)] 8)) t := fun t k => castTop (ef_11 m p1 q2 p3 p4 q5 p6) k
  obtain ⟨fs, hr, hrun, hended, hW, hsame⟩ := X0.leave (v := some (.int (1 : Int32))) (fun h => by rw [Bd.returns] at h; cases h)
  refine ⟨_, _, pre0 _ ?_, hrun, hended, _, _, rfl, ?_, ⟨_, rfl⟩, hW, hsame.mono (by decide) (by decide)⟩
  · show Steps _ _ _ (s₁.setTop (mkF m 0 #[.val (.int p1), .val (.long q2), .second, .val (.int p3), .val (.int p4), .val (.long q5), .second, .val (.int p6)] [])) _
    refine XS.lload X0.here hx rfl (hb hby d11_0) rfl ?_
    show Steps _ _ _ (s₁.setTop (mkF m 2 #[.val (.int p1), .val (.long q2), .second, .val (.int p3), .val (.int p4), .val (.long q5), .second, .val (.int p6)] [(.long q5)])) _
    refine XS.lloadN X0.here hx rfl (hb hby d11_2) rfl ?_
    show Steps _ _ _ (s₁.setTop (mkF m 3 #[.val (.int p1), .val (.long q2), .second, .val (.int p3), .val (.int p4), .val (.long q5), .second, .val (.int p6)] [(.long q2), (.long q5)])) _
    refine XS.lcmp X0.here hx rfl (hb hby d11_3) rfl ?_
    show Steps _ _ _ (s₁.setTop (mkF m 4 #[.val (.int p1), .val (.long q2), .second, .val (.int p3), .val (.int p4), .val (.long q5), .second, .val (.int p6)] [(.int (lcmpW q5 q2))])) _
    refine XS.ifNo X0.here hx rfl (hb hby d11_4) rfl ((if0 _ _).trans (teq hc4).2) ?_
    show Steps _ _ _ (s₁.setTop (mkF m 7 #[.val (.int p1), .val (.long q2), .second, .val (.int p3), .val (.int p4), .val (.long q5), .second, .val (.int p6)] [])) _
    refine XS.iload X0.here hx rfl (hb hby d11_7) rfl ?_
    show Steps _ _ _ (s₁.setTop (mkF m 9 #[.val (.int p1), .val (.long q2), .second, .val (.int p3), .val (.int p4), .val (.long q5), .second, .val (.int p6)] [(.int p4)])) _
    refine XS.bipush X0.here hx rfl (hb hby d11_9) ?_
    show Steps _ _ _ (s₁.setTop (mkF m 11 #[.val (.int p1), .val (.long q2), .second, .val (.int p3), .val (.int p4), .val (.long q5), .second, .val (.int p6)] [(.int (-2 : Int32)), (.int p4)])) _
    refine XS.icmpYes X0.here hx rfl (pc0 := 11) (pc' := 22) rfl (hb hby d11_11) rfl (teq hc11).1 (by decide) (by decide) ?_
    show Steps _ _ _ (s₁.setTop (mkF m 22 #[.val (.int p1), .val (.long q2), .second, .val (.int p3), .val (.int p4), .val (.long q5), .second, .val (.int p6)] [])) _
    refine XS.iload X0.here hx rfl (hb hby d11_22) rfl ?_
    show Steps _ _ _ (s₁.setTop (mkF m 24 #[.val (.int p1), .val (.long q2), .second, .val (.int p3), .val (.int p4), .val (.long q5), .second, .val (.int p6)] [(.int p6)])) _
    refine XS.iconst X0.here hx rfl (hb hby d11_24) ?_
    show Steps _ _ _ (s₁.setTop (mkF m 25 #[.val (.int p1), .val (.long q2), .second, .val (.int p3), .val (.int p4), .val (.long q5), .second, .val (.int p6)] [(.int (-1 : Int32)), (.int p6)])) _
    refine XS.icmpYes X0.here hx rfl (pc0 := 25) (pc' := 38) rfl (hb hby d11_25) rfl (feq hc25).2 (by decide) (by decide) ?_
    show Steps _ _ _ (s₁.setTop (mkF m 38 #[.val (.int p1), .val (.long q2), .second, .val (.int p3), .val (.int p4), .val (.long q5), .second, .val (.int p6)] [])) _
    refine XS.iload X0.here hx rfl (hb hby d11_38) rfl ?_
    show Steps _ _ _ (s₁.setTop (mkF m 40 #[.val (.int p1), .val (.long q2), .second, .val (.int p3), .val (.int p4), .val (.long q5), .second, .val (.int p6)] [(.int p6)])) _
    refine X0.ldcInt hx hown (mvT hZ (own_w hw 195 rfl)) (g := (mkF m 40 #[.val (.int p1), .val (.long q2), .second, .val (.int p3), .val (.int p4), .val (.long q5), .second, .val (.int p6)] [(.int p6)])) rfl (hb hby d11_40) _ ?_
    show Steps _ _ _ (s₁.setTop (mkF m 42 #[.val (.int p1), .val (.long q2), .second, .val (.int p3), .val (.int p4), .val (.long q5), .second, .val (.int p6)] [(.int (-2147483648 : Int32)), (.int p6)])) _
    refine XS.icmpNo X0.here hx rfl (hb hby d11_42) rfl (teq hc42).2 ?_
    show Steps _ _ _ (s₁.setTop (mkF m 45 #[.val (.int p1), .val (.long q2), .second, .val (.int p3), .val (.int p4), .val (.long q5), .second, .val (.int p6)] [])) _
    refine XS.iloadN X0.here hx rfl (hb hby d11_45) rfl ?_
    show Steps _ _ _ (s₁.setTop (mkF m 46 #[.val (.int p1), .val (.long q2), .second, .val (.int p3), .val (.int p4), .val (.long q5), .second, .val (.int p6)] [(.int p3)])) _
    refine XS.iconst X0.here hx rfl (hb hby d11_46) ?_
    show Steps _ _ _ (s₁.setTop (mkF m 47 #[.val (.int p1), .val (.long q2), .second, .val (.int p3), .val (.int p4), .val (.long q5), .second, .val (.int p6)] [(.int (-1 : Int32)), (.int p3)])) _
    refine XS.icmpNo X0.here hx rfl (hb hby d11_47) rfl (tlt hc47).2.1 ?_
    show Steps _ _ _ (s₁.setTop (mkF m 50 #[.val (.int p1), .val (.long q2), .second, .val (.int p3), .val (.int p4), .val (.long q5), .second, .val (.int p6)] [])) _
    refine XS.iconst X0.here hx rfl (hb hby d11_50) ?_
    show Steps _ _ _ (s₁.setTop (mkF m 51 #[.val (.int p1), .val (.long q2), .second, .val (.int p3), .val (.int p4), .val (.long q5), .second, .val (.int p6)] [(.int (1 : Int32))])) _
    refine XS.goto X0.here hx rfl (pc0 := 51) (pc' := 69) rfl (hb hby d11_51) (by decide) (by decide) ?_
    show Steps _ _ _ (s₁.setTop (mkF m 69 #[.val (.int p1), .val (.long q2), .second, .val (.int p3), .val (.int p4), .val (.long q5), .second, .val (.int p6)] [(.int (1 : Int32))])) _
    exact retN X0 hx (t := .boolean) Bd.returns (by simp) (hb hby d11_69) hr
  · show Qv (some (.int (1 : Int32))) h0 n0 _ s₁.heap _
    rw [e0]
    exact ⟨rfl, N0, rfl⟩
theorem d11_54 : decode prog_31_method_7_code 54 = .ok (.iconst 0, 1) := by decide +kernel
theorem d11_55 : decode prog_31_method_7_code 55 = .ok (.goto 14, 3) := by decide +kernel
theorem rm11_fttft (l : Launch) (Z : State) (a0 : Array Value) (hw : ∀ d ∈ tables_1, d.before a0 Z = true) (ws : List Jvm.Cond) (p1 : Int32) (q2 : Int64) (p3 p4 : Int32) (q5 : Int64) (p6 : Int32) (h0 : Heap) (n0 : Nat) (Z0 : n0 ≤ h0.size) (hc4 : (lcmpW q5 q2) = (0 : Int32)) (hc11 : p4 = (-2 : Int32)) (hc25 : ¬ (p6 = (-1 : Int32))) (hc42 : p6 = (-2147483648 : Int32)) (hc47 : ¬ (p3 < (-1 : Int32))) :
    MetFree l own_n9 (head1 (Jvm.Cond.code own_n9 prog_31_method_7_code 8 (some .boolean) :: ws) own_r1) (fun a U => a = #[(.int p1), (.long q2), (.int p3), (.int p4), (.long q5), (.int p6)] ∧ Z.Warmed39 U.vm ∧ U.heap = h0) (fun _ _ _ _ _ => True) (fun _ U o U' => ∃ v L, o = .returned v ∧ Qv (some (.int (0 : Int32))) h0 n0 v U'.heap L ∧ FrameEnd U o U' L own_r1.cells own_r1.slots) := by
  refine MetFree.of_bodySF (plainFor_of_name pn_11) hisR ?_
  intro p e s m args below meth c s₁ Bd hml0 hP hK
  obtain ⟨rfl, hZ, hh⟩ := hP
  have hx := Bd.exec
  have hby := Bd.bytes
  have hml : c.maxLocals = 8 := hml0
  have hown : s.vm.findClass "com/example/cablegram/cablegram/engine/Envelope" = some m.cls := findClass_of_methodNamed Bd.named
  have hnm := (name_of_methodNamed Bd.named Bd.method).1
  have X0 : Stand p l e own_r1 s m #[(.int p1), (.long q2), (.int p3), (.int p4), (.long q5), (.int p6)] below meth c s₁ [] 0 0 := Stand.of_body Bd
  have e0 : s₁.heap = h0 := by rw [← hh, Bd.state]; rfl
  have N0 := Fr.nil n0
  have pre0 : ∀ t, Steps p.tables e below (s₁.setTop (mkF m 0 #[.val (.int p1), .val (.long q2), .second, .val (.int p3), .val (.int p4), .val (.long q5), .second, .val (.int p6)] [])) t → Steps p.tables e below (s₁.setTop (entryFrame m #[(.int p1), (.long q2), (.int p3), (.int p4), (.long q5), (.int p6)] 8)) t := fun t k => castTop (ef_11 m p1 q2 p3 p4 q5 p6) k
  obtain ⟨fs, hr, hrun, hended, hW, hsame⟩ := X0.leave (v := some (.int (0 : Int32))) (fun h => by rw [Bd.returns] at h; cases h)
  refine ⟨_, _, pre0 _ ?_, hrun, hended, _, _, rfl, ?_, ⟨_, rfl⟩, hW, hsame.mono (by decide) (by decide)⟩
  · show Steps _ _ _ (s₁.setTop (mkF m 0 #[.val (.int p1), .val (.long q2), .second, .val (.int p3), .val (.int p4), .val (.long q5), .second, .val (.int p6)] [])) _
    refine XS.lload X0.here hx rfl (hb hby d11_0) rfl ?_
    show Steps _ _ _ (s₁.setTop (mkF m 2 #[.val (.int p1), .val (.long q2), .second, .val (.int p3), .val (.int p4), .val (.long q5), .second, .val (.int p6)] [(.long q5)])) _
    refine XS.lloadN X0.here hx rfl (hb hby d11_2) rfl ?_
    show Steps _ _ _ (s₁.setTop (mkF m 3 #[.val (.int p1), .val (.long q2), .second, .val (.int p3), .val (.int p4), .val (.long q5), .second, .val (.int p6)] [(.long q2), (.long q5)])) _
    refine XS.lcmp X0.here hx rfl (hb hby d11_3) rfl ?_
    show Steps _ _ _ (s₁.setTop (mkF m 4 #[.val (.int p1), .val (.long q2), .second, .val (.int p3), .val (.int p4), .val (.long q5), .second, .val (.int p6)] [(.int (lcmpW q5 q2))])) _
    refine XS.ifNo X0.here hx rfl (hb hby d11_4) rfl ((if0 _ _).trans (teq hc4).2) ?_
    show Steps _ _ _ (s₁.setTop (mkF m 7 #[.val (.int p1), .val (.long q2), .second, .val (.int p3), .val (.int p4), .val (.long q5), .second, .val (.int p6)] [])) _
    refine XS.iload X0.here hx rfl (hb hby d11_7) rfl ?_
    show Steps _ _ _ (s₁.setTop (mkF m 9 #[.val (.int p1), .val (.long q2), .second, .val (.int p3), .val (.int p4), .val (.long q5), .second, .val (.int p6)] [(.int p4)])) _
    refine XS.bipush X0.here hx rfl (hb hby d11_9) ?_
    show Steps _ _ _ (s₁.setTop (mkF m 11 #[.val (.int p1), .val (.long q2), .second, .val (.int p3), .val (.int p4), .val (.long q5), .second, .val (.int p6)] [(.int (-2 : Int32)), (.int p4)])) _
    refine XS.icmpYes X0.here hx rfl (pc0 := 11) (pc' := 22) rfl (hb hby d11_11) rfl (teq hc11).1 (by decide) (by decide) ?_
    show Steps _ _ _ (s₁.setTop (mkF m 22 #[.val (.int p1), .val (.long q2), .second, .val (.int p3), .val (.int p4), .val (.long q5), .second, .val (.int p6)] [])) _
    refine XS.iload X0.here hx rfl (hb hby d11_22) rfl ?_
    show Steps _ _ _ (s₁.setTop (mkF m 24 #[.val (.int p1), .val (.long q2), .second, .val (.int p3), .val (.int p4), .val (.long q5), .second, .val (.int p6)] [(.int p6)])) _
    refine XS.iconst X0.here hx rfl (hb hby d11_24) ?_
    show Steps _ _ _ (s₁.setTop (mkF m 25 #[.val (.int p1), .val (.long q2), .second, .val (.int p3), .val (.int p4), .val (.long q5), .second, .val (.int p6)] [(.int (-1 : Int32)), (.int p6)])) _
    refine XS.icmpYes X0.here hx rfl (pc0 := 25) (pc' := 38) rfl (hb hby d11_25) rfl (feq hc25).2 (by decide) (by decide) ?_
    show Steps _ _ _ (s₁.setTop (mkF m 38 #[.val (.int p1), .val (.long q2), .second, .val (.int p3), .val (.int p4), .val (.long q5), .second, .val (.int p6)] [])) _
    refine XS.iload X0.here hx rfl (hb hby d11_38) rfl ?_
    show Steps _ _ _ (s₁.setTop (mkF m 40 #[.val (.int p1), .val (.long q2), .second, .val (.int p3), .val (.int p4), .val (.long q5), .second, .val (.int p6)] [(.int p6)])) _
    refine X0.ldcInt hx hown (mvT hZ (own_w hw 195 rfl)) (g := (mkF m 40 #[.val (.int p1), .val (.long q2), .second, .val (.int p3), .val (.int p4), .val (.long q5), .second, .val (.int p6)] [(.int p6)])) rfl (hb hby d11_40) _ ?_
    show Steps _ _ _ (s₁.setTop (mkF m 42 #[.val (.int p1), .val (.long q2), .second, .val (.int p3), .val (.int p4), .val (.long q5), .second, .val (.int p6)] [(.int (-2147483648 : Int32)), (.int p6)])) _
    refine XS.icmpNo X0.here hx rfl (hb hby d11_42) rfl (teq hc42).2 ?_
    show Steps _ _ _ (s₁.setTop (mkF m 45 #[.val (.int p1), .val (.long q2), .second, .val (.int p3), .val (.int p4), .val (.long q5), .second, .val (.int p6)] [])) _
    refine XS.iloadN X0.here hx rfl (hb hby d11_45) rfl ?_
    show Steps _ _ _ (s₁.setTop (mkF m 46 #[.val (.int p1), .val (.long q2), .second, .val (.int p3), .val (.int p4), .val (.long q5), .second, .val (.int p6)] [(.int p3)])) _
    refine XS.iconst X0.here hx rfl (hb hby d11_46) ?_
    show Steps _ _ _ (s₁.setTop (mkF m 47 #[.val (.int p1), .val (.long q2), .second, .val (.int p3), .val (.int p4), .val (.long q5), .second, .val (.int p6)] [(.int (-1 : Int32)), (.int p3)])) _
    refine XS.icmpYes X0.here hx rfl (pc0 := 47) (pc' := 54) rfl (hb hby d11_47) rfl (flt hc47).2.1 (by decide) (by decide) ?_
    show Steps _ _ _ (s₁.setTop (mkF m 54 #[.val (.int p1), .val (.long q2), .second, .val (.int p3), .val (.int p4), .val (.long q5), .second, .val (.int p6)] [])) _
    refine XS.iconst X0.here hx rfl (hb hby d11_54) ?_
    show Steps _ _ _ (s₁.setTop (mkF m 55 #[.val (.int p1), .val (.long q2), .second, .val (.int p3), .val (.int p4), .val (.long q5), .second, .val (.int p6)] [(.int (0 : Int32))])) _
    refine XS.goto X0.here hx rfl (pc0 := 55) (pc' := 69) rfl (hb hby d11_55) (by decide) (by decide) ?_
    show Steps _ _ _ (s₁.setTop (mkF m 69 #[.val (.int p1), .val (.long q2), .second, .val (.int p3), .val (.int p4), .val (.long q5), .second, .val (.int p6)] [(.int (0 : Int32))])) _
    exact retN X0 hx (t := .boolean) Bd.returns (by simp) (hb hby d11_69) hr
  · show Qv (some (.int (0 : Int32))) h0 n0 _ s₁.heap _
    rw [e0]
    exact ⟨rfl, N0, rfl⟩
theorem d11_58 : decode prog_31_method_7_code 58 = .ok (.iload 7, 2) := by decide +kernel
theorem d11_60 : decode prog_31_method_7_code 60 = .ok (.iload_n 3, 1) := by decide +kernel
theorem d11_61 : decode prog_31_method_7_code 61 = .ok (.if_icmp .ne 7, 3) := by decide +kernel
theorem d11_64 : decode prog_31_method_7_code 64 = .ok (.iconst 1, 1) := by decide +kernel
theorem d11_65 : decode prog_31_method_7_code 65 = .ok (.goto 4, 3) := by decide +kernel
theorem rm11_ftttf (l : Launch) (Z : State) (a0 : Array Value) (hw : ∀ d ∈ tables_1, d.before a0 Z = true) (ws : List Jvm.Cond) (p1 : Int32) (q2 : Int64) (p3 p4 : Int32) (q5 : Int64) (p6 : Int32) (h0 : Heap) (n0 : Nat) (Z0 : n0 ≤ h0.size) (hc4 : (lcmpW q5 q2) = (0 : Int32)) (hc11 : p4 = (-2 : Int32)) (hc25 : ¬ (p6 = (-1 : Int32))) (hc42 : ¬ (p6 = (-2147483648 : Int32))) (hc61 : p6 = p3) :
    MetFree l own_n9 (head1 (Jvm.Cond.code own_n9 prog_31_method_7_code 8 (some .boolean) :: ws) own_r1) (fun a U => a = #[(.int p1), (.long q2), (.int p3), (.int p4), (.long q5), (.int p6)] ∧ Z.Warmed39 U.vm ∧ U.heap = h0) (fun _ _ _ _ _ => True) (fun _ U o U' => ∃ v L, o = .returned v ∧ Qv (some (.int (1 : Int32))) h0 n0 v U'.heap L ∧ FrameEnd U o U' L own_r1.cells own_r1.slots) := by
  refine MetFree.of_bodySF (plainFor_of_name pn_11) hisR ?_
  intro p e s m args below meth c s₁ Bd hml0 hP hK
  obtain ⟨rfl, hZ, hh⟩ := hP
  have hx := Bd.exec
  have hby := Bd.bytes
  have hml : c.maxLocals = 8 := hml0
  have hown : s.vm.findClass "com/example/cablegram/cablegram/engine/Envelope" = some m.cls := findClass_of_methodNamed Bd.named
  have hnm := (name_of_methodNamed Bd.named Bd.method).1
  have X0 : Stand p l e own_r1 s m #[(.int p1), (.long q2), (.int p3), (.int p4), (.long q5), (.int p6)] below meth c s₁ [] 0 0 := Stand.of_body Bd
  have e0 : s₁.heap = h0 := by rw [← hh, Bd.state]; rfl
  have N0 := Fr.nil n0
  have pre0 : ∀ t, Steps p.tables e below (s₁.setTop (mkF m 0 #[.val (.int p1), .val (.long q2), .second, .val (.int p3), .val (.int p4), .val (.long q5), .second, .val (.int p6)] [])) t → Steps p.tables e below (s₁.setTop (entryFrame m #[(.int p1), (.long q2), (.int p3), (.int p4), (.long q5), (.int p6)] 8)) t := fun t k => castTop (ef_11 m p1 q2 p3 p4 q5 p6) k
  obtain ⟨fs, hr, hrun, hended, hW, hsame⟩ := X0.leave (v := some (.int (1 : Int32))) (fun h => by rw [Bd.returns] at h; cases h)
  refine ⟨_, _, pre0 _ ?_, hrun, hended, _, _, rfl, ?_, ⟨_, rfl⟩, hW, hsame.mono (by decide) (by decide)⟩
  · show Steps _ _ _ (s₁.setTop (mkF m 0 #[.val (.int p1), .val (.long q2), .second, .val (.int p3), .val (.int p4), .val (.long q5), .second, .val (.int p6)] [])) _
    refine XS.lload X0.here hx rfl (hb hby d11_0) rfl ?_
    show Steps _ _ _ (s₁.setTop (mkF m 2 #[.val (.int p1), .val (.long q2), .second, .val (.int p3), .val (.int p4), .val (.long q5), .second, .val (.int p6)] [(.long q5)])) _
    refine XS.lloadN X0.here hx rfl (hb hby d11_2) rfl ?_
    show Steps _ _ _ (s₁.setTop (mkF m 3 #[.val (.int p1), .val (.long q2), .second, .val (.int p3), .val (.int p4), .val (.long q5), .second, .val (.int p6)] [(.long q2), (.long q5)])) _
    refine XS.lcmp X0.here hx rfl (hb hby d11_3) rfl ?_
    show Steps _ _ _ (s₁.setTop (mkF m 4 #[.val (.int p1), .val (.long q2), .second, .val (.int p3), .val (.int p4), .val (.long q5), .second, .val (.int p6)] [(.int (lcmpW q5 q2))])) _
    refine XS.ifNo X0.here hx rfl (hb hby d11_4) rfl ((if0 _ _).trans (teq hc4).2) ?_
    show Steps _ _ _ (s₁.setTop (mkF m 7 #[.val (.int p1), .val (.long q2), .second, .val (.int p3), .val (.int p4), .val (.long q5), .second, .val (.int p6)] [])) _
    refine XS.iload X0.here hx rfl (hb hby d11_7) rfl ?_
    show Steps _ _ _ (s₁.setTop (mkF m 9 #[.val (.int p1), .val (.long q2), .second, .val (.int p3), .val (.int p4), .val (.long q5), .second, .val (.int p6)] [(.int p4)])) _
    refine XS.bipush X0.here hx rfl (hb hby d11_9) ?_
    show Steps _ _ _ (s₁.setTop (mkF m 11 #[.val (.int p1), .val (.long q2), .second, .val (.int p3), .val (.int p4), .val (.long q5), .second, .val (.int p6)] [(.int (-2 : Int32)), (.int p4)])) _
    refine XS.icmpYes X0.here hx rfl (pc0 := 11) (pc' := 22) rfl (hb hby d11_11) rfl (teq hc11).1 (by decide) (by decide) ?_
    show Steps _ _ _ (s₁.setTop (mkF m 22 #[.val (.int p1), .val (.long q2), .second, .val (.int p3), .val (.int p4), .val (.long q5), .second, .val (.int p6)] [])) _
    refine XS.iload X0.here hx rfl (hb hby d11_22) rfl ?_
    show Steps _ _ _ (s₁.setTop (mkF m 24 #[.val (.int p1), .val (.long q2), .second, .val (.int p3), .val (.int p4), .val (.long q5), .second, .val (.int p6)] [(.int p6)])) _
    refine XS.iconst X0.here hx rfl (hb hby d11_24) ?_
    show Steps _ _ _ (s₁.setTop (mkF m 25 #[.val (.int p1), .val (.long q2), .second, .val (.int p3), .val (.int p4), .val (.long q5), .second, .val (.int p6)] [(.int (-1 : Int32)), (.int p6)])) _
    refine XS.icmpYes X0.here hx rfl (pc0 := 25) (pc' := 38) rfl (hb hby d11_25) rfl (feq hc25).2 (by decide) (by decide) ?_
    show Steps _ _ _ (s₁.setTop (mkF m 38 #[.val (.int p1), .val (.long q2), .second, .val (.int p3), .val (.int p4), .val (.long q5), .second, .val (.int p6)] [])) _
    refine XS.iload X0.here hx rfl (hb hby d11_38) rfl ?_
    show Steps _ _ _ (s₁.setTop (mkF m 40 #[.val (.int p1), .val (.long q2), .second, .val (.int p3), .val (.int p4), .val (.long q5), .second, .val (.int p6)] [(.int p6)])) _
    refine X0.ldcInt hx hown (mvT hZ (own_w hw 195 rfl)) (g := (mkF m 40 #[.val (.int p1), .val (.long q2), .second, .val (.int p3), .val (.int p4), .val (.long q5), .second, .val (.int p6)] [(.int p6)])) rfl (hb hby d11_40) _ ?_
    show Steps _ _ _ (s₁.setTop (mkF m 42 #[.val (.int p1), .val (.long q2), .second, .val (.int p3), .val (.int p4), .val (.long q5), .second, .val (.int p6)] [(.int (-2147483648 : Int32)), (.int p6)])) _
    refine XS.icmpYes X0.here hx rfl (pc0 := 42) (pc' := 58) rfl (hb hby d11_42) rfl (feq hc42).2 (by decide) (by decide) ?_
    show Steps _ _ _ (s₁.setTop (mkF m 58 #[.val (.int p1), .val (.long q2), .second, .val (.int p3), .val (.int p4), .val (.long q5), .second, .val (.int p6)] [])) _
    refine XS.iload X0.here hx rfl (hb hby d11_58) rfl ?_
    show Steps _ _ _ (s₁.setTop (mkF m 60 #[.val (.int p1), .val (.long q2), .second, .val (.int p3), .val (.int p4), .val (.long q5), .second, .val (.int p6)] [(.int p6)])) _
    refine XS.iloadN X0.here hx rfl (hb hby d11_60) rfl ?_
    show Steps _ _ _ (s₁.setTop (mkF m 61 #[.val (.int p1), .val (.long q2), .second, .val (.int p3), .val (.int p4), .val (.long q5), .second, .val (.int p6)] [(.int p3), (.int p6)])) _
    refine XS.icmpNo X0.here hx rfl (hb hby d11_61) rfl (teq hc61).2 ?_
    show Steps _ _ _ (s₁.setTop (mkF m 64 #[.val (.int p1), .val (.long q2), .second, .val (.int p3), .val (.int p4), .val (.long q5), .second, .val (.int p6)] [])) _
    refine XS.iconst X0.here hx rfl (hb hby d11_64) ?_
    show Steps _ _ _ (s₁.setTop (mkF m 65 #[.val (.int p1), .val (.long q2), .second, .val (.int p3), .val (.int p4), .val (.long q5), .second, .val (.int p6)] [(.int (1 : Int32))])) _
    refine XS.goto X0.here hx rfl (pc0 := 65) (pc' := 69) rfl (hb hby d11_65) (by decide) (by decide) ?_
    show Steps _ _ _ (s₁.setTop (mkF m 69 #[.val (.int p1), .val (.long q2), .second, .val (.int p3), .val (.int p4), .val (.long q5), .second, .val (.int p6)] [(.int (1 : Int32))])) _
    exact retN X0 hx (t := .boolean) Bd.returns (by simp) (hb hby d11_69) hr
  · show Qv (some (.int (1 : Int32))) h0 n0 _ s₁.heap _
    rw [e0]
    exact ⟨rfl, N0, rfl⟩
theorem d11_68 : decode prog_31_method_7_code 68 = .ok (.iconst 0, 1) := by decide +kernel
theorem rm11_ftttt (l : Launch) (Z : State) (a0 : Array Value) (hw : ∀ d ∈ tables_1, d.before a0 Z = true) (ws : List Jvm.Cond) (p1 : Int32) (q2 : Int64) (p3 p4 : Int32) (q5 : Int64) (p6 : Int32) (h0 : Heap) (n0 : Nat) (Z0 : n0 ≤ h0.size) (hc4 : (lcmpW q5 q2) = (0 : Int32)) (hc11 : p4 = (-2 : Int32)) (hc25 : ¬ (p6 = (-1 : Int32))) (hc42 : ¬ (p6 = (-2147483648 : Int32))) (hc61 : ¬ (p6 = p3)) :
    MetFree l own_n9 (head1 (Jvm.Cond.code own_n9 prog_31_method_7_code 8 (some .boolean) :: ws) own_r1) (fun a U => a = #[(.int p1), (.long q2), (.int p3), (.int p4), (.long q5), (.int p6)] ∧ Z.Warmed39 U.vm ∧ U.heap = h0) (fun _ _ _ _ _ => True) (fun _ U o U' => ∃ v L, o = .returned v ∧ Qv (some (.int (0 : Int32))) h0 n0 v U'.heap L ∧ FrameEnd U o U' L own_r1.cells own_r1.slots) := by
  refine MetFree.of_bodySF (plainFor_of_name pn_11) hisR ?_
  intro p e s m args below meth c s₁ Bd hml0 hP hK
  obtain ⟨rfl, hZ, hh⟩ := hP
  have hx := Bd.exec
  have hby := Bd.bytes
  have hml : c.maxLocals = 8 := hml0
  have hown : s.vm.findClass "com/example/cablegram/cablegram/engine/Envelope" = some m.cls := findClass_of_methodNamed Bd.named
  have hnm := (name_of_methodNamed Bd.named Bd.method).1
  have X0 : Stand p l e own_r1 s m #[(.int p1), (.long q2), (.int p3), (.int p4), (.long q5), (.int p6)] below meth c s₁ [] 0 0 := Stand.of_body Bd
  have e0 : s₁.heap = h0 := by rw [← hh, Bd.state]; rfl
  have N0 := Fr.nil n0
  have pre0 : ∀ t, Steps p.tables e below (s₁.setTop (mkF m 0 #[.val (.int p1), .val (.long q2), .second, .val (.int p3), .val (.int p4), .val (.long q5), .second, .val (.int p6)] [])) t → Steps p.tables e below (s₁.setTop (entryFrame m #[(.int p1), (.long q2), (.int p3), (.int p4), (.long q5), (.int p6)] 8)) t := fun t k => castTop (ef_11 m p1 q2 p3 p4 q5 p6) k
  obtain ⟨fs, hr, hrun, hended, hW, hsame⟩ := X0.leave (v := some (.int (0 : Int32))) (fun h => by rw [Bd.returns] at h; cases h)
  refine ⟨_, _, pre0 _ ?_, hrun, hended, _, _, rfl, ?_, ⟨_, rfl⟩, hW, hsame.mono (by decide) (by decide)⟩
  · show Steps _ _ _ (s₁.setTop (mkF m 0 #[.val (.int p1), .val (.long q2), .second, .val (.int p3), .val (.int p4), .val (.long q5), .second, .val (.int p6)] [])) _
    refine XS.lload X0.here hx rfl (hb hby d11_0) rfl ?_
    show Steps _ _ _ (s₁.setTop (mkF m 2 #[.val (.int p1), .val (.long q2), .second, .val (.int p3), .val (.int p4), .val (.long q5), .second, .val (.int p6)] [(.long q5)])) _
    refine XS.lloadN X0.here hx rfl (hb hby d11_2) rfl ?_
    show Steps _ _ _ (s₁.setTop (mkF m 3 #[.val (.int p1), .val (.long q2), .second, .val (.int p3), .val (.int p4), .val (.long q5), .second, .val (.int p6)] [(.long q2), (.long q5)])) _
    refine XS.lcmp X0.here hx rfl (hb hby d11_3) rfl ?_
    show Steps _ _ _ (s₁.setTop (mkF m 4 #[.val (.int p1), .val (.long q2), .second, .val (.int p3), .val (.int p4), .val (.long q5), .second, .val (.int p6)] [(.int (lcmpW q5 q2))])) _
    refine XS.ifNo X0.here hx rfl (hb hby d11_4) rfl ((if0 _ _).trans (teq hc4).2) ?_
    show Steps _ _ _ (s₁.setTop (mkF m 7 #[.val (.int p1), .val (.long q2), .second, .val (.int p3), .val (.int p4), .val (.long q5), .second, .val (.int p6)] [])) _
    refine XS.iload X0.here hx rfl (hb hby d11_7) rfl ?_
    show Steps _ _ _ (s₁.setTop (mkF m 9 #[.val (.int p1), .val (.long q2), .second, .val (.int p3), .val (.int p4), .val (.long q5), .second, .val (.int p6)] [(.int p4)])) _
    refine XS.bipush X0.here hx rfl (hb hby d11_9) ?_
    show Steps _ _ _ (s₁.setTop (mkF m 11 #[.val (.int p1), .val (.long q2), .second, .val (.int p3), .val (.int p4), .val (.long q5), .second, .val (.int p6)] [(.int (-2 : Int32)), (.int p4)])) _
    refine XS.icmpYes X0.here hx rfl (pc0 := 11) (pc' := 22) rfl (hb hby d11_11) rfl (teq hc11).1 (by decide) (by decide) ?_
    show Steps _ _ _ (s₁.setTop (mkF m 22 #[.val (.int p1), .val (.long q2), .second, .val (.int p3), .val (.int p4), .val (.long q5), .second, .val (.int p6)] [])) _
    refine XS.iload X0.here hx rfl (hb hby d11_22) rfl ?_
    show Steps _ _ _ (s₁.setTop (mkF m 24 #[.val (.int p1), .val (.long q2), .second, .val (.int p3), .val (.int p4), .val (.long q5), .second, .val (.int p6)] [(.int p6)])) _
    refine XS.iconst X0.here hx rfl (hb hby d11_24) ?_
    show Steps _ _ _ (s₁.setTop (mkF m 25 #[.val (.int p1), .val (.long q2), .second, .val (.int p3), .val (.int p4), .val (.long q5), .second, .val (.int p6)] [(.int (-1 : Int32)), (.int p6)])) _
    refine XS.icmpYes X0.here hx rfl (pc0 := 25) (pc' := 38) rfl (hb hby d11_25) rfl (feq hc25).2 (by decide) (by decide) ?_
    show Steps _ _ _ (s₁.setTop (mkF m 38 #[.val (.int p1), .val (.long q2), .second, .val (.int p3), .val (.int p4), .val (.long q5), .second, .val (.int p6)] [])) _
    refine XS.iload X0.here hx rfl (hb hby d11_38) rfl ?_
    show Steps _ _ _ (s₁.setTop (mkF m 40 #[.val (.int p1), .val (.long q2), .second, .val (.int p3), .val (.int p4), .val (.long q5), .second, .val (.int p6)] [(.int p6)])) _
    refine X0.ldcInt hx hown (mvT hZ (own_w hw 195 rfl)) (g := (mkF m 40 #[.val (.int p1), .val (.long q2), .second, .val (.int p3), .val (.int p4), .val (.long q5), .second, .val (.int p6)] [(.int p6)])) rfl (hb hby d11_40) _ ?_
    show Steps _ _ _ (s₁.setTop (mkF m 42 #[.val (.int p1), .val (.long q2), .second, .val (.int p3), .val (.int p4), .val (.long q5), .second, .val (.int p6)] [(.int (-2147483648 : Int32)), (.int p6)])) _
    refine XS.icmpYes X0.here hx rfl (pc0 := 42) (pc' := 58) rfl (hb hby d11_42) rfl (feq hc42).2 (by decide) (by decide) ?_
    show Steps _ _ _ (s₁.setTop (mkF m 58 #[.val (.int p1), .val (.long q2), .second, .val (.int p3), .val (.int p4), .val (.long q5), .second, .val (.int p6)] [])) _
    refine XS.iload X0.here hx rfl (hb hby d11_58) rfl ?_
    show Steps _ _ _ (s₁.setTop (mkF m 60 #[.val (.int p1), .val (.long q2), .second, .val (.int p3), .val (.int p4), .val (.long q5), .second, .val (.int p6)] [(.int p6)])) _
    refine XS.iloadN X0.here hx rfl (hb hby d11_60) rfl ?_
    show Steps _ _ _ (s₁.setTop (mkF m 61 #[.val (.int p1), .val (.long q2), .second, .val (.int p3), .val (.int p4), .val (.long q5), .second, .val (.int p6)] [(.int p3), (.int p6)])) _
    refine XS.icmpYes X0.here hx rfl (pc0 := 61) (pc' := 68) rfl (hb hby d11_61) rfl (feq hc61).2 (by decide) (by decide) ?_
    show Steps _ _ _ (s₁.setTop (mkF m 68 #[.val (.int p1), .val (.long q2), .second, .val (.int p3), .val (.int p4), .val (.long q5), .second, .val (.int p6)] [])) _
    refine XS.iconst X0.here hx rfl (hb hby d11_68) ?_
    show Steps _ _ _ (s₁.setTop (mkF m 69 #[.val (.int p1), .val (.long q2), .second, .val (.int p3), .val (.int p4), .val (.long q5), .second, .val (.int p6)] [(.int (0 : Int32))])) _
    exact retN X0 hx (t := .boolean) Bd.returns (by simp) (hb hby d11_69) hr
  · show Qv (some (.int (0 : Int32))) h0 n0 _ s₁.heap _
    rw [e0]
    exact ⟨rfl, N0, rfl⟩
theorem rm11_fftff (l : Launch) (Z : State) (a0 : Array Value) (hw : ∀ d ∈ tables_1, d.before a0 Z = true) (ws : List Jvm.Cond) (p1 : Int32) (q2 : Int64) (p3 p4 : Int32) (q5 : Int64) (p6 : Int32) (h0 : Heap) (n0 : Nat) (Z0 : n0 ≤ h0.size) (hc4 : (lcmpW q5 q2) = (0 : Int32)) (hc11 : ¬ (p4 = (-2 : Int32))) (hc17 : p4 = p1) (hc25 : p6 = (-1 : Int32)) (hc29 : ¬ (p3 < (0 : Int32))) :
    MetFree l own_n9 (head1 (Jvm.Cond.code own_n9 prog_31_method_7_code 8 (some .boolean) :: ws) own_r1) (fun a U => a = #[(.int p1), (.long q2), (.int p3), (.int p4), (.long q5), (.int p6)] ∧ Z.Warmed39 U.vm ∧ U.heap = h0) (fun _ _ _ _ _ => True) (fun _ U o U' => ∃ v L, o = .returned v ∧ Qv (some (.int (1 : Int32))) h0 n0 v U'.heap L ∧ FrameEnd U o U' L own_r1.cells own_r1.slots) := by
  refine MetFree.of_bodySF (plainFor_of_name pn_11) hisR ?_
  intro p e s m args below meth c s₁ Bd hml0 hP hK
  obtain ⟨rfl, hZ, hh⟩ := hP
  have hx := Bd.exec
  have hby := Bd.bytes
  have hml : c.maxLocals = 8 := hml0
  have hown : s.vm.findClass "com/example/cablegram/cablegram/engine/Envelope" = some m.cls := findClass_of_methodNamed Bd.named
  have hnm := (name_of_methodNamed Bd.named Bd.method).1
  have X0 : Stand p l e own_r1 s m #[(.int p1), (.long q2), (.int p3), (.int p4), (.long q5), (.int p6)] below meth c s₁ [] 0 0 := Stand.of_body Bd
  have e0 : s₁.heap = h0 := by rw [← hh, Bd.state]; rfl
  have N0 := Fr.nil n0
  have pre0 : ∀ t, Steps p.tables e below (s₁.setTop (mkF m 0 #[.val (.int p1), .val (.long q2), .second, .val (.int p3), .val (.int p4), .val (.long q5), .second, .val (.int p6)] [])) t → Steps p.tables e below (s₁.setTop (entryFrame m #[(.int p1), (.long q2), (.int p3), (.int p4), (.long q5), (.int p6)] 8)) t := fun t k => castTop (ef_11 m p1 q2 p3 p4 q5 p6) k
  obtain ⟨fs, hr, hrun, hended, hW, hsame⟩ := X0.leave (v := some (.int (1 : Int32))) (fun h => by rw [Bd.returns] at h; cases h)
  refine ⟨_, _, pre0 _ ?_, hrun, hended, _, _, rfl, ?_, ⟨_, rfl⟩, hW, hsame.mono (by decide) (by decide)⟩
  · show Steps _ _ _ (s₁.setTop (mkF m 0 #[.val (.int p1), .val (.long q2), .second, .val (.int p3), .val (.int p4), .val (.long q5), .second, .val (.int p6)] [])) _
    refine XS.lload X0.here hx rfl (hb hby d11_0) rfl ?_
    show Steps _ _ _ (s₁.setTop (mkF m 2 #[.val (.int p1), .val (.long q2), .second, .val (.int p3), .val (.int p4), .val (.long q5), .second, .val (.int p6)] [(.long q5)])) _
    refine XS.lloadN X0.here hx rfl (hb hby d11_2) rfl ?_
    show Steps _ _ _ (s₁.setTop (mkF m 3 #[.val (.int p1), .val (.long q2), .second, .val (.int p3), .val (.int p4), .val (.long q5), .second, .val (.int p6)] [(.long q2), (.long q5)])) _
    refine XS.lcmp X0.here hx rfl (hb hby d11_3) rfl ?_
    show Steps _ _ _ (s₁.setTop (mkF m 4 #[.val (.int p1), .val (.long q2), .second, .val (.int p3), .val (.int p4), .val (.long q5), .second, .val (.int p6)] [(.int (lcmpW q5 q2))])) _
    refine XS.ifNo X0.here hx rfl (hb hby d11_4) rfl ((if0 _ _).trans (teq hc4).2) ?_
    show Steps _ _ _ (s₁.setTop (mkF m 7 #[.val (.int p1), .val (.long q2), .second, .val (.int p3), .val (.int p4), .val (.long q5), .second, .val (.int p6)] [])) _
    refine XS.iload X0.here hx rfl (hb hby d11_7) rfl ?_
    show Steps _ _ _ (s₁.setTop (mkF m 9 #[.val (.int p1), .val (.long q2), .second, .val (.int p3), .val (.int p4), .val (.long q5), .second, .val (.int p6)] [(.int p4)])) _
    refine XS.bipush X0.here hx rfl (hb hby d11_9) ?_
    show Steps _ _ _ (s₁.setTop (mkF m 11 #[.val (.int p1), .val (.long q2), .second, .val (.int p3), .val (.int p4), .val (.long q5), .second, .val (.int p6)] [(.int (-2 : Int32)), (.int p4)])) _
    refine XS.icmpNo X0.here hx rfl (hb hby d11_11) rfl (feq hc11).1 ?_
    show Steps _ _ _ (s₁.setTop (mkF m 14 #[.val (.int p1), .val (.long q2), .second, .val (.int p3), .val (.int p4), .val (.long q5), .second, .val (.int p6)] [])) _
    refine XS.iload X0.here hx rfl (hb hby d11_14) rfl ?_
    show Steps _ _ _ (s₁.setTop (mkF m 16 #[.val (.int p1), .val (.long q2), .second, .val (.int p3), .val (.int p4), .val (.long q5), .second, .val (.int p6)] [(.int p4)])) _
    refine XS.iloadN X0.here hx rfl (hb hby d11_16) rfl ?_
    show Steps _ _ _ (s₁.setTop (mkF m 17 #[.val (.int p1), .val (.long q2), .second, .val (.int p3), .val (.int p4), .val (.long q5), .second, .val (.int p6)] [(.int p1), (.int p4)])) _
    refine XS.icmpYes X0.here hx rfl (pc0 := 17) (pc' := 22) rfl (hb hby d11_17) rfl (teq hc17).1 (by decide) (by decide) ?_
    show Steps _ _ _ (s₁.setTop (mkF m 22 #[.val (.int p1), .val (.long q2), .second, .val (.int p3), .val (.int p4), .val (.long q5), .second, .val (.int p6)] [])) _
    refine XS.iload X0.here hx rfl (hb hby d11_22) rfl ?_
    show Steps _ _ _ (s₁.setTop (mkF m 24 #[.val (.int p1), .val (.long q2), .second, .val (.int p3), .val (.int p4), .val (.long q5), .second, .val (.int p6)] [(.int p6)])) _
    refine XS.iconst X0.here hx rfl (hb hby d11_24) ?_
    show Steps _ _ _ (s₁.setTop (mkF m 25 #[.val (.int p1), .val (.long q2), .second, .val (.int p3), .val (.int p4), .val (.long q5), .second, .val (.int p6)] [(.int (-1 : Int32)), (.int p6)])) _
    refine XS.icmpNo X0.here hx rfl (hb hby d11_25) rfl (teq hc25).2 ?_
    show Steps _ _ _ (s₁.setTop (mkF m 28 #[.val (.int p1), .val (.long q2), .second, .val (.int p3), .val (.int p4), .val (.long q5), .second, .val (.int p6)] [])) _
    refine XS.iloadN X0.here hx rfl (hb hby d11_28) rfl ?_
    show Steps _ _ _ (s₁.setTop (mkF m 29 #[.val (.int p1), .val (.long q2), .second, .val (.int p3), .val (.int p4), .val (.long q5), .second, .val (.int p6)] [(.int p3)])) _
    refine XS.ifNo X0.here hx rfl (hb hby d11_29) rfl ((if0 _ _).trans (flt hc29).1) ?_
    show Steps _ _ _ (s₁.setTop (mkF m 32 #[.val (.int p1), .val (.long q2), .second, .val (.int p3), .val (.int p4), .val (.long q5), .second, .val (.int p6)] [])) _
    refine XS.iconst X0.here hx rfl (hb hby d11_32) ?_
    show Steps _ _ _ (s₁.setTop (mkF m 33 #[.val (.int p1), .val (.long q2), .second, .val (.int p3), .val (.int p4), .val (.long q5), .second, .val (.int p6)] [(.int (1 : Int32))])) _
    refine XS.goto X0.here hx rfl (pc0 := 33) (pc' := 37) rfl (hb hby d11_33) (by decide) (by decide) ?_
    show Steps _ _ _ (s₁.setTop (mkF m 37 #[.val (.int p1), .val (.long q2), .second, .val (.int p3), .val (.int p4), .val (.long q5), .second, .val (.int p6)] [(.int (1 : Int32))])) _
    exact retN X0 hx (t := .boolean) Bd.returns (by simp) (hb hby d11_37) hr
  · show Qv (some (.int (1 : Int32))) h0 n0 _ s₁.heap _
    rw [e0]
    exact ⟨rfl, N0, rfl⟩
theorem rm11_fftft (l : Launch) (Z : State) (a0 : Array Value) (hw : ∀ d ∈ tables_1, d.before a0 Z = true) (ws : List Jvm.Cond) (p1 : Int32) (q2 : Int64) (p3 p4 : Int32) (q5 : Int64) (p6 : Int32) (h0 : Heap) (n0 : Nat) (Z0 : n0 ≤ h0.size) (hc4 : (lcmpW q5 q2) = (0 : Int32)) (hc11 : ¬ (p4 = (-2 : Int32))) (hc17 : p4 = p1) (hc25 : p6 = (-1 : Int32)) (hc29 : p3 < (0 : Int32)) :
    MetFree l own_n9 (head1 (Jvm.Cond.code own_n9 prog_31_method_7_code 8 (some .boolean) :: ws) own_r1) (fun a U => a = #[(.int p1), (.long q2), (.int p3), (.int p4), (.long q5), (.int p6)] ∧ Z.Warmed39 U.vm ∧ U.heap = h0) (fun _ _ _ _ _ => True) (fun _ U o U' => ∃ v L, o = .returned v ∧ Qv (some (.int (0 : Int32))) h0 n0 v U'.heap L ∧ FrameEnd U o U' L own_r1.cells own_r1.slots) := by
  refine MetFree.of_bodySF (plainFor_of_name pn_11) hisR ?_
  intro p e s m args below meth c s₁ Bd hml0 hP hK
  obtain ⟨rfl, hZ, hh⟩ := hP
  have hx := Bd.exec
  have hby := Bd.bytes
  have hml : c.maxLocals = 8 := hml0
  have hown : s.vm.findClass "com/example/cablegram/cablegram/engine/Envelope" = some m.cls := findClass_of_methodNamed Bd.named
  have hnm := (name_of_methodNamed Bd.named Bd.method).1
  have X0 : Stand p l e own_r1 s m #[(.int p1), (.long q2), (.int p3), (.int p4), (.long q5), (.int p6)] below meth c s₁ [] 0 0 := Stand.of_body Bd
  have e0 : s₁.heap = h0 := by rw [← hh, Bd.state]; rfl
  have N0 := Fr.nil n0
  have pre0 : ∀ t, Steps p.tables e below (s₁.setTop (mkF m 0 #[.val (.int p1), .val (.long q2), .second, .val (.int p3), .val (.int p4), .val (.long q5), .second, .val (.int p6)] [])) t → Steps p.tables e below (s₁.setTop (entryFrame m #[(.int p1), (.long q2), (.int p3), (.int p4), (.long q5), (.int p6)] 8)) t := fun t k => castTop (ef_11 m p1 q2 p3 p4 q5 p6) k
  obtain ⟨fs, hr, hrun, hended, hW, hsame⟩ := X0.leave (v := some (.int (0 : Int32))) (fun h => by rw [Bd.returns] at h; cases h)
  refine ⟨_, _, pre0 _ ?_, hrun, hended, _, _, rfl, ?_, ⟨_, rfl⟩, hW, hsame.mono (by decide) (by decide)⟩
  · show Steps _ _ _ (s₁.setTop (mkF m 0 #[.val (.int p1), .val (.long q2), .second, .val (.int p3), .val (.int p4), .val (.long q5), .second, .val (.int p6)] [])) _
    refine XS.lload X0.here hx rfl (hb hby d11_0) rfl ?_
    show Steps _ _ _ (s₁.setTop (mkF m 2 #[.val (.int p1), .val (.long q2), .second, .val (.int p3), .val (.int p4), .val (.long q5), .second, .val (.int p6)] [(.long q5)])) _
    refine XS.lloadN X0.here hx rfl (hb hby d11_2) rfl ?_
    show Steps _ _ _ (s₁.setTop (mkF m 3 #[.val (.int p1), .val (.long q2), .second, .val (.int p3), .val (.int p4), .val (.long q5), .second, .val (.int p6)] [(.long q2), (.long q5)])) _
    refine XS.lcmp X0.here hx rfl (hb hby d11_3) rfl ?_
    show Steps _ _ _ (s₁.setTop (mkF m 4 #[.val (.int p1), .val (.long q2), .second, .val (.int p3), .val (.int p4), .val (.long q5), .second, .val (.int p6)] [(.int (lcmpW q5 q2))])) _
    refine XS.ifNo X0.here hx rfl (hb hby d11_4) rfl ((if0 _ _).trans (teq hc4).2) ?_
    show Steps _ _ _ (s₁.setTop (mkF m 7 #[.val (.int p1), .val (.long q2), .second, .val (.int p3), .val (.int p4), .val (.long q5), .second, .val (.int p6)] [])) _
    refine XS.iload X0.here hx rfl (hb hby d11_7) rfl ?_
    show Steps _ _ _ (s₁.setTop (mkF m 9 #[.val (.int p1), .val (.long q2), .second, .val (.int p3), .val (.int p4), .val (.long q5), .second, .val (.int p6)] [(.int p4)])) _
    refine XS.bipush X0.here hx rfl (hb hby d11_9) ?_
    show Steps _ _ _ (s₁.setTop (mkF m 11 #[.val (.int p1), .val (.long q2), .second, .val (.int p3), .val (.int p4), .val (.long q5), .second, .val (.int p6)] [(.int (-2 : Int32)), (.int p4)])) _
    refine XS.icmpNo X0.here hx rfl (hb hby d11_11) rfl (feq hc11).1 ?_
    show Steps _ _ _ (s₁.setTop (mkF m 14 #[.val (.int p1), .val (.long q2), .second, .val (.int p3), .val (.int p4), .val (.long q5), .second, .val (.int p6)] [])) _
    refine XS.iload X0.here hx rfl (hb hby d11_14) rfl ?_
    show Steps _ _ _ (s₁.setTop (mkF m 16 #[.val (.int p1), .val (.long q2), .second, .val (.int p3), .val (.int p4), .val (.long q5), .second, .val (.int p6)] [(.int p4)])) _
    refine XS.iloadN X0.here hx rfl (hb hby d11_16) rfl ?_
    show Steps _ _ _ (s₁.setTop (mkF m 17 #[.val (.int p1), .val (.long q2), .second, .val (.int p3), .val (.int p4), .val (.long q5), .second, .val (.int p6)] [(.int p1), (.int p4)])) _
    refine XS.icmpYes X0.here hx rfl (pc0 := 17) (pc' := 22) rfl (hb hby d11_17) rfl (teq hc17).1 (by decide) (by decide) ?_
    show Steps _ _ _ (s₁.setTop (mkF m 22 #[.val (.int p1), .val (.long q2), .second, .val (.int p3), .val (.int p4), .val (.long q5), .second, .val (.int p6)] [])) _
    refine XS.iload X0.here hx rfl (hb hby d11_22) rfl ?_
    show Steps _ _ _ (s₁.setTop (mkF m 24 #[.val (.int p1), .val (.long q2), .second, .val (.int p3), .val (.int p4), .val (.long q5), .second, .val (.int p6)] [(.int p6)])) _
    refine XS.iconst X0.here hx rfl (hb hby d11_24) ?_
    show Steps _ _ _ (s₁.setTop (mkF m 25 #[.val (.int p1), .val (.long q2), .second, .val (.int p3), .val (.int p4), .val (.long q5), .second, .val (.int p6)] [(.int (-1 : Int32)), (.int p6)])) _
    refine XS.icmpNo X0.here hx rfl (hb hby d11_25) rfl (teq hc25).2 ?_
    show Steps _ _ _ (s₁.setTop (mkF m 28 #[.val (.int p1), .val (.long q2), .second, .val (.int p3), .val (.int p4), .val (.long q5), .second, .val (.int p6)] [])) _
    refine XS.iloadN X0.here hx rfl (hb hby d11_28) rfl ?_
    show Steps _ _ _ (s₁.setTop (mkF m 29 #[.val (.int p1), .val (.long q2), .second, .val (.int p3), .val (.int p4), .val (.long q5), .second, .val (.int p6)] [(.int p3)])) _
    refine XS.ifYes X0.here hx rfl (pc0 := 29) (pc' := 36) rfl (hb hby d11_29) rfl ((if0 _ _).trans (tlt hc29).1) (by decide) (by decide) ?_
    show Steps _ _ _ (s₁.setTop (mkF m 36 #[.val (.int p1), .val (.long q2), .second, .val (.int p3), .val (.int p4), .val (.long q5), .second, .val (.int p6)] [])) _
    refine XS.iconst X0.here hx rfl (hb hby d11_36) ?_
    show Steps _ _ _ (s₁.setTop (mkF m 37 #[.val (.int p1), .val (.long q2), .second, .val (.int p3), .val (.int p4), .val (.long q5), .second, .val (.int p6)] [(.int (0 : Int32))])) _
    exact retN X0 hx (t := .boolean) Bd.returns (by simp) (hb hby d11_37) hr
  · show Qv (some (.int (0 : Int32))) h0 n0 _ s₁.heap _
    rw [e0]
    exact ⟨rfl, N0, rfl⟩
theorem rm11_ffttff (l : Launch) (Z : State) (a0 : Array Value) (hw : ∀ d ∈ tables_1, d.before a0 Z = true) (ws : List Jvm.Cond) (p1 : Int32) (q2 : Int64) (p3 p4 : Int32) (q5 : Int64) (p6 : Int32) (h0 : Heap) (n0 : Nat) (Z0 : n0 ≤ h0.size) (hc4 : (lcmpW q5 q2) = (0 : Int32)) (hc11 : ¬ (p4 = (-2 : Int32))) (hc17 : p4 = p1) (hc25 : ¬ (p6 = (-1 : Int32))) (hc42 : p6 = (-2147483648 : Int32)) (hc47 : p3 < (-1 : Int32)) :
    MetFree l own_n9 (head1 (Jvm.Cond.code own_n9 prog_31_method_7_code 8 (some .boolean) :: ws) own_r1) (fun a U => a = #[(.int p1), (.long q2), (.int p3), (.int p4), (.long q5), (.int p6)] ∧ Z.Warmed39 U.vm ∧ U.heap = h0) (fun _ _ _ _ _ => True) (fun _ U o U' => ∃ v L, o = .returned v ∧ Qv (some (.int (1 : Int32))) h0 n0 v U'.heap L ∧ FrameEnd U o U' L own_r1.cells own_r1.slots) := by
  refine MetFree.of_bodySF (plainFor_of_name pn_11) hisR ?_
  intro p e s m args below meth c s₁ Bd hml0 hP hK
  obtain ⟨rfl, hZ, hh⟩ := hP
  have hx := Bd.exec
  have hby := Bd.bytes
  have hml : c.maxLocals = 8 := hml0
  have hown : s.vm.findClass "com/example/cablegram/cablegram/engine/Envelope" = some m.cls := findClass_of_methodNamed Bd.named
  have hnm := (name_of_methodNamed Bd.named Bd.method).1
  have X0 : Stand p l e own_r1 s m #[(.int p1), (.long q2), (.int p3), (.int p4), (.long q5), (.int p6)] below meth c s₁ [] 0 0 := Stand.of_body Bd
  have e0 : s₁.heap = h0 := by rw [← hh, Bd.state]; rfl
  have N0 := Fr.nil n0
  have pre0 : ∀ t, Steps p.tables e below (s₁.setTop (mkF m 0 #[.val (.int p1), .val (.long q2), .second, .val (.int p3), .val (.int p4), .val (.long q5), .second, .val (.int p6)] [])) t → Steps p.tables e below (s₁.setTop (entryFrame m #[(.int p1), (.long q2), (.int p3), (.int p4), (.long q5), (.int p6)] 8)) t := fun t k => castTop (ef_11 m p1 q2 p3 p4 q5 p6) k
  obtain ⟨fs, hr, hrun, hended, hW, hsame⟩ := X0.leave (v := some (.int (1 : Int32))) (fun h => by rw [Bd.returns] at h; cases h)
  refine ⟨_, _, pre0 _ ?_, hrun, hended, _, _, rfl, ?_, ⟨_, rfl⟩, hW, hsame.mono (by decide) (by decide)⟩
  · show Steps _ _ _ (s₁.setTop (mkF m 0 #[.val (.int p1), .val (.long q2), .second, .val (.int p3), .val (.int p4), .val (.long q5), .second, .val (.int p6)] [])) _
    refine XS.lload X0.here hx rfl (hb hby d11_0) rfl ?_
    show Steps _ _ _ (s₁.setTop (mkF m 2 #[.val (.int p1), .val (.long q2), .second, .val (.int p3), .val (.int p4), .val (.long q5), .second, .val (.int p6)] [(.long q5)])) _
    refine XS.lloadN X0.here hx rfl (hb hby d11_2) rfl ?_
    show Steps _ _ _ (s₁.setTop (mkF m 3 #[.val (.int p1), .val (.long q2), .second, .val (.int p3), .val (.int p4), .val (.long q5), .second, .val (.int p6)] [(.long q2), (.long q5)])) _
    refine XS.lcmp X0.here hx rfl (hb hby d11_3) rfl ?_
    show Steps _ _ _ (s₁.setTop (mkF m 4 #[.val (.int p1), .val (.long q2), .second, .val (.int p3), .val (.int p4), .val (.long q5), .second, .val (.int p6)] [(.int (lcmpW q5 q2))])) _
    refine XS.ifNo X0.here hx rfl (hb hby d11_4) rfl ((if0 _ _).trans (teq hc4).2) ?_
    show Steps _ _ _ (s₁.setTop (mkF m 7 #[.val (.int p1), .val (.long q2), .second, .val (.int p3), .val (.int p4), .val (.long q5), .second, .val (.int p6)] [])) _
    refine XS.iload X0.here hx rfl (hb hby d11_7) rfl ?_
    show Steps _ _ _ (s₁.setTop (mkF m 9 #[.val (.int p1), .val (.long q2), .second, .val (.int p3), .val (.int p4), .val (.long q5), .second, .val (.int p6)] [(.int p4)])) _
    refine XS.bipush X0.here hx rfl (hb hby d11_9) ?_
    show Steps _ _ _ (s₁.setTop (mkF m 11 #[.val (.int p1), .val (.long q2), .second, .val (.int p3), .val (.int p4), .val (.long q5), .second, .val (.int p6)] [(.int (-2 : Int32)), (.int p4)])) _
    refine XS.icmpNo X0.here hx rfl (hb hby d11_11) rfl (feq hc11).1 ?_
    show Steps _ _ _ (s₁.setTop (mkF m 14 #[.val (.int p1), .val (.long q2), .second, .val (.int p3), .val (.int p4), .val (.long q5), .second, .val (.int p6)] [])) _
    refine XS.iload X0.here hx rfl (hb hby d11_14) rfl ?_
    show Steps _ _ _ (s₁.setTop (mkF m 16 #[.val (.int p1), .val (.long q2), .second, .val (.int p3), .val (.int p4), .val (.long q5), .second, .val (.int p6)] [(.int p4)])) _
    refine XS.iloadN X0.here hx rfl (hb hby d11_16) rfl ?_
    show Steps _ _ _ (s₁.setTop (mkF m 17 #[.val (.int p1), .val (.long q2), .second, .val (.int p3), .val (.int p4), .val (.long q5), .second, .val (.int p6)] [(.int p1), (.int p4)])) _
    refine XS.icmpYes X0.here hx rfl (pc0 := 17) (pc' := 22) rfl (hb hby d11_17) rfl (teq hc17).1 (by decide) (by decide) ?_
    show Steps _ _ _ (s₁.setTop (mkF m 22 #[.val (.int p1), .val (.long q2), .second, .val (.int p3), .val (.int p4), .val (.long q5), .second, .val (.int p6)] [])) _
    refine XS.iload X0.here hx rfl (hb hby d11_22) rfl ?_
    show Steps _ _ _ (s₁.setTop (mkF m 24 #[.val (.int p1), .val (.long q2), .second, .val (.int p3), .val (.int p4), .val (.long q5), .second, .val (.int p6)] [(.int p6)])) _
    refine XS.iconst X0.here hx rfl (hb hby d11_24) ?_
    show Steps _ _ _ (s₁.setTop (mkF m 25 #[.val (.int p1), .val (.long q2), .second, .val (.int p3), .val (.int p4), .val (.long q5), .second, .val (.int p6)] [(.int (-1 : Int32)), (.int p6)])) _
    refine XS.icmpYes X0.here hx rfl (pc0 := 25) (pc' := 38) rfl (hb hby d11_25) rfl (feq hc25).2 (by decide) (by decide) ?_
    show Steps _ _ _ (s₁.setTop (mkF m 38 #[.val (.int p1), .val (.long q2), .second, .val (.int p3), .val (.int p4), .val (.long q5), .second, .val (.int p6)] [])) _
    refine XS.iload X0.here hx rfl (hb hby d11_38) rfl ?_
    show Steps _ _ _ (s₁.setTop (mkF m 40 #[.val (.int p1), .val (.long q2), .second, .val (.int p3), .val (.int p4), .val (.long q5), .second, .val (.int p6)] [(.int p6)])) _
    refine X0.ldcInt hx hown (mvT hZ (own_w hw 195 rfl)) (g := (mkF m 40 #[.val (.int p1), .val (.long q2), .second, .val (.int p3), .val (.int p4), .val (.long q5), .second, .val (.int p6)] [(.int p6)])) rfl (hb hby d11_40) _ ?_
    show Steps _ _ _ (s₁.setTop (mkF m 42 #[.val (.int p1), .val (.long q2), .second, .val (.int p3), .val (.int p4), .val (.long q5), .second, .val (.int p6)] [(.int (-2147483648 : Int32)), (.int p6)])) _
    refine XS.icmpNo X0.here hx rfl (hb hby d11_42) rfl (teq hc42).2 ?_
    show Steps _ _ _ (s₁.setTop (mkF m 45 #[.val (.int p1), .val (.long q2), .second, .val (.int p3), .val (.int p4), .val (.long q5), .second, .val (.int p6)] [])) _
    refine XS.iloadN X0.here hx rfl (hb hby d11_45) rfl ?_
    show Steps _ _ _ (s₁.setTop (mkF m 46 #[.val (.int p1), .val (.long q2), .second, .val (.int p3), .val (.int p4), .val (.long q5), .second, .val (.int p6)] [(.int p3)])) _
    refine XS.iconst X0.here hx rfl (hb hby d11_46) ?_
    show Steps _ _ _ (s₁.setTop (mkF m 47 #[.val (.int p1), .val (.long q2), .second, .val (.int p3), .val (.int p4), .val (.long q5), .second, .val (.int p6)] [(.int (-1 : Int32)), (.int p3)])) _
    refine XS.icmpNo X0.here hx rfl (hb hby d11_47) rfl (tlt hc47).2.1 ?_
    show Steps _ _ _ (s₁.setTop (mkF m 50 #[.val (.int p1), .val (.long q2), .second, .val (.int p3), .val (.int p4), .val (.long q5), .second, .val (.int p6)] [])) _
    refine XS.iconst X0.here hx rfl (hb hby d11_50) ?_
    show Steps _ _ _ (s₁.setTop (mkF m 51 #[.val (.int p1), .val (.long q2), .second, .val (.int p3), .val (.int p4), .val (.long q5), .second, .val (.int p6)] [(.int (1 : Int32))])) _
    refine XS.goto X0.here hx rfl (pc0 := 51) (pc' := 69) rfl (hb hby d11_51) (by decide) (by decide) ?_
    show Steps _ _ _ (s₁.setTop (mkF m 69 #[.val (.int p1), .val (.long q2), .second, .val (.int p3), .val (.int p4), .val (.long q5), .second, .val (.int p6)] [(.int (1 : Int32))])) _
    exact retN X0 hx (t := .boolean) Bd.returns (by simp) (hb hby d11_69) hr
  · show Qv (some (.int (1 : Int32))) h0 n0 _ s₁.heap _
    rw [e0]
    exact ⟨rfl, N0, rfl⟩
theorem rm11_ffttft (l : Launch) (Z : State) (a0 : Array Value) (hw : ∀ d ∈ tables_1, d.before a0 Z = true) (ws : List Jvm.Cond) (p1 : Int32) (q2 : Int64) (p3 p4 : Int32) (q5 : Int64) (p6 : Int32) (h0 : Heap) (n0 : Nat) (Z0 : n0 ≤ h0.size) (hc4 : (lcmpW q5 q2) = (0 : Int32)) (hc11 : ¬ (p4 = (-2 : Int32))) (hc17 : p4 = p1) (hc25 : ¬ (p6 = (-1 : Int32))) (hc42 : p6 = (-2147483648 : Int32)) (hc47 : ¬ (p3 < (-1 : Int32))) :
    MetFree l own_n9 (head1 (Jvm.Cond.code own_n9 prog_31_method_7_code 8 (some .boolean) :: ws) own_r1) (fun a U => a = #[(.int p1), (.long q2), (.int p3), (.int p4), (.long q5), (.int p6)] ∧ Z.Warmed39 U.vm ∧ U.heap = h0) (fun _ _ _ _ _ => True) (fun _ U o U' => ∃ v L, o = .returned v ∧ Qv (some (.int (0 : Int32))) h0 n0 v U'.heap L ∧ FrameEnd U o U' L own_r1.cells own_r1.slots) := by
  refine MetFree.of_bodySF (plainFor_of_name pn_11) hisR ?_
  intro p e s m args below meth c s₁ Bd hml0 hP hK
  obtain ⟨rfl, hZ, hh⟩ := hP
  have hx := Bd.exec
  have hby := Bd.bytes
  have hml : c.maxLocals = 8 := hml0
  have hown : s.vm.findClass "com/example/cablegram/cablegram/engine/Envelope" = some m.cls := findClass_of_methodNamed Bd.named
  have hnm := (name_of_methodNamed Bd.named Bd.method).1
  have X0 : Stand p l e own_r1 s m #[(.int p1), (.long q2), (.int p3), (.int p4), (.long q5), (.int p6)] below meth c s₁ [] 0 0 := Stand.of_body Bd
  have e0 : s₁.heap = h0 := by rw [← hh, Bd.state]; rfl
  have N0 := Fr.nil n0
  have pre0 : ∀ t, Steps p.tables e below (s₁.setTop (mkF m 0 #[.val (.int p1), .val (.long q2), .second, .val (.int p3), .val (.int p4), .val (.long q5), .second, .val (.int p6)] [])) t → Steps p.tables e below (s₁.setTop (entryFrame m #[(.int p1), (.long q2), (.int p3), (.int p4), (.long q5), (.int p6)] 8)) t := fun t k => castTop (ef_11 m p1 q2 p3 p4 q5 p6) k
  obtain ⟨fs, hr, hrun, hended, hW, hsame⟩ := X0.leave (v := some (.int (0 : Int32))) (fun h => by rw [Bd.returns] at h; cases h)
  refine ⟨_, _, pre0 _ ?_, hrun, hended, _, _, rfl, ?_, ⟨_, rfl⟩, hW, hsame.mono (by decide) (by decide)⟩
  · show Steps _ _ _ (s₁.setTop (mkF m 0 #[.val (.int p1), .val (.long q2), .second, .val (.int p3), .val (.int p4), .val (.long q5), .second, .val (.int p6)] [])) _
    refine XS.lload X0.here hx rfl (hb hby d11_0) rfl ?_
    show Steps _ _ _ (s₁.setTop (mkF m 2 #[.val (.int p1), .val (.long q2), .second, .val (.int p3), .val (.int p4), .val (.long q5), .second, .val (.int p6)] [(.long q5)])) _
    refine XS.lloadN X0.here hx rfl (hb hby d11_2) rfl ?_
    show Steps _ _ _ (s₁.setTop (mkF m 3 #[.val (.int p1), .val (.long q2), .second, .val (.int p3), .val (.int p4), .val (.long q5), .second, .val (.int p6)] [(.long q2), (.long q5)])) _
    refine XS.lcmp X0.here hx rfl (hb hby d11_3) rfl ?_
    show Steps _ _ _ (s₁.setTop (mkF m 4 #[.val (.int p1), .val (.long q2), .second, .val (.int p3), .val (.int p4), .val (.long q5), .second, .val (.int p6)] [(.int (lcmpW q5 q2))])) _
    refine XS.ifNo X0.here hx rfl (hb hby d11_4) rfl ((if0 _ _).trans (teq hc4).2) ?_
    show Steps _ _ _ (s₁.setTop (mkF m 7 #[.val (.int p1), .val (.long q2), .second, .val (.int p3), .val (.int p4), .val (.long q5), .second, .val (.int p6)] [])) _
    refine XS.iload X0.here hx rfl (hb hby d11_7) rfl ?_
    show Steps _ _ _ (s₁.setTop (mkF m 9 #[.val (.int p1), .val (.long q2), .second, .val (.int p3), .val (.int p4), .val (.long q5), .second, .val (.int p6)] [(.int p4)])) _
    refine XS.bipush X0.here hx rfl (hb hby d11_9) ?_
    show Steps _ _ _ (s₁.setTop (mkF m 11 #[.val (.int p1), .val (.long q2), .second, .val (.int p3), .val (.int p4), .val (.long q5), .second, .val (.int p6)] [(.int (-2 : Int32)), (.int p4)])) _
    refine XS.icmpNo X0.here hx rfl (hb hby d11_11) rfl (feq hc11).1 ?_
    show Steps _ _ _ (s₁.setTop (mkF m 14 #[.val (.int p1), .val (.long q2), .second, .val (.int p3), .val (.int p4), .val (.long q5), .second, .val (.int p6)] [])) _
    refine XS.iload X0.here hx rfl (hb hby d11_14) rfl ?_
    show Steps _ _ _ (s₁.setTop (mkF m 16 #[.val (.int p1), .val (.long q2), .second, .val (.int p3), .val (.int p4), .val (.long q5), .second, .val (.int p6)] [(.int p4)])) _
    refine XS.iloadN X0.here hx rfl (hb hby d11_16) rfl ?_
    show Steps _ _ _ (s₁.setTop (mkF m 17 #[.val (.int p1), .val (.long q2), .second, .val (.int p3), .val (.int p4), .val (.long q5), .second, .val (.int p6)] [(.int p1), (.int p4)])) _
    refine XS.icmpYes X0.here hx rfl (pc0 := 17) (pc' := 22) rfl (hb hby d11_17) rfl (teq hc17).1 (by decide) (by decide) ?_
    show Steps _ _ _ (s₁.setTop (mkF m 22 #[.val (.int p1), .val (.long q2), .second, .val (.int p3), .val (.int p4), .val (.long q5), .second, .val (.int p6)] [])) _
    refine XS.iload X0.here hx rfl (hb hby d11_22) rfl ?_
    show Steps _ _ _ (s₁.setTop (mkF m 24 #[.val (.int p1), .val (.long q2), .second, .val (.int p3), .val (.int p4), .val (.long q5), .second, .val (.int p6)] [(.int p6)])) _
    refine XS.iconst X0.here hx rfl (hb hby d11_24) ?_
    show Steps _ _ _ (s₁.setTop (mkF m 25 #[.val (.int p1), .val (.long q2), .second, .val (.int p3), .val (.int p4), .val (.long q5), .second, .val (.int p6)] [(.int (-1 : Int32)), (.int p6)])) _
    refine XS.icmpYes X0.here hx rfl (pc0 := 25) (pc' := 38) rfl (hb hby d11_25) rfl (feq hc25).2 (by decide) (by decide) ?_
    show Steps _ _ _ (s₁.setTop (mkF m 38 #[.val (.int p1), .val (.long q2), .second, .val (.int p3), .val (.int p4), .val (.long q5), .second, .val (.int p6)] [])) _
    refine XS.iload X0.here hx rfl (hb hby d11_38) rfl ?_
    show Steps _ _ _ (s₁.setTop (mkF m 40 #[.val (.int p1), .val (.long q2), .second, .val (.int p3), .val (.int p4), .val (.long q5), .second, .val (.int p6)] [(.int p6)])) _
    refine X0.ldcInt hx hown (mvT hZ (own_w hw 195 rfl)) (g := (mkF m 40 #[.val (.int p1), .val (.long q2), .second, .val (.int p3), .val (.int p4), .val (.long q5), .second, .val (.int p6)] [(.int p6)])) rfl (hb hby d11_40) _ ?_
    show Steps _ _ _ (s₁.setTop (mkF m 42 #[.val (.int p1), .val (.long q2), .second, .val (.int p3), .val (.int p4), .val (.long q5), .second, .val (.int p6)] [(.int (-2147483648 : Int32)), (.int p6)])) _
    refine XS.icmpNo X0.here hx rfl (hb hby d11_42) rfl (teq hc42).2 ?_
    show Steps _ _ _ (s₁.setTop (mkF m 45 #[.val (.int p1), .val (.long q2), .second, .val (.int p3), .val (.int p4), .val (.long q5), .second, .val (.int p6)] [])) _
    refine XS.iloadN X0.here hx rfl (hb hby d11_45) rfl ?_
    show Steps _ _ _ (s₁.setTop (mkF m 46 #[.val (.int p1), .val (.long q2), .second, .val (.int p3), .val (.int p4), .val (.long q5), .second, .val (.int p6)] [(.int p3)])) _
    refine XS.iconst X0.here hx rfl (hb hby d11_46) ?_
    show Steps _ _ _ (s₁.setTop (mkF m 47 #[.val (.int p1), .val (.long q2), .second, .val (.int p3), .val (.int p4), .val (.long q5), .second, .val (.int p6)] [(.int (-1 : Int32)), (.int p3)])) _
    refine XS.icmpYes X0.here hx rfl (pc0 := 47) (pc' := 54) rfl (hb hby d11_47) rfl (flt hc47).2.1 (by decide) (by decide) ?_
    show Steps _ _ _ (s₁.setTop (mkF m 54 #[.val (.int p1), .val (.long q2), .second, .val (.int p3), .val (.int p4), .val (.long q5), .second, .val (.int p6)] [])) _
    refine XS.iconst X0.here hx rfl (hb hby d11_54) ?_
    show Steps _ _ _ (s₁.setTop (mkF m 55 #[.val (.int p1), .val (.long q2), .second, .val (.int p3), .val (.int p4), .val (.long q5), .second, .val (.int p6)] [(.int (0 : Int32))])) _
    refine XS.goto X0.here hx rfl (pc0 := 55) (pc' := 69) rfl (hb hby d11_55) (by decide) (by decide) ?_
    show Steps _ _ _ (s₁.setTop (mkF m 69 #[.val (.int p1), .val (.long q2), .second, .val (.int p3), .val (.int p4), .val (.long q5), .second, .val (.int p6)] [(.int (0 : Int32))])) _
    exact retN X0 hx (t := .boolean) Bd.returns (by simp) (hb hby d11_69) hr
  · show Qv (some (.int (0 : Int32))) h0 n0 _ s₁.heap _
    rw [e0]
    exact ⟨rfl, N0, rfl⟩
theorem rm11_fftttf (l : Launch) (Z : State) (a0 : Array Value) (hw : ∀ d ∈ tables_1, d.before a0 Z = true) (ws : List Jvm.Cond) (p1 : Int32) (q2 : Int64) (p3 p4 : Int32) (q5 : Int64) (p6 : Int32) (h0 : Heap) (n0 : Nat) (Z0 : n0 ≤ h0.size) (hc4 : (lcmpW q5 q2) = (0 : Int32)) (hc11 : ¬ (p4 = (-2 : Int32))) (hc17 : p4 = p1) (hc25 : ¬ (p6 = (-1 : Int32))) (hc42 : ¬ (p6 = (-2147483648 : Int32))) (hc61 : p6 = p3) :
    MetFree l own_n9 (head1 (Jvm.Cond.code own_n9 prog_31_method_7_code 8 (some .boolean) :: ws) own_r1) (fun a U => a = #[(.int p1), (.long q2), (.int p3), (.int p4), (.long q5), (.int p6)] ∧ Z.Warmed39 U.vm ∧ U.heap = h0) (fun _ _ _ _ _ => True) (fun _ U o U' => ∃ v L, o = .returned v ∧ Qv (some (.int (1 : Int32))) h0 n0 v U'.heap L ∧ FrameEnd U o U' L own_r1.cells own_r1.slots) := by
  refine MetFree.of_bodySF (plainFor_of_name pn_11) hisR ?_
  intro p e s m args below meth c s₁ Bd hml0 hP hK
  obtain ⟨rfl, hZ, hh⟩ := hP
  have hx := Bd.exec
  have hby := Bd.bytes
  have hml : c.maxLocals = 8 := hml0
  have hown : s.vm.findClass "com/example/cablegram/cablegram/engine/Envelope" = some m.cls := findClass_of_methodNamed Bd.named
  have hnm := (name_of_methodNamed Bd.named Bd.method).1
  have X0 : Stand p l e own_r1 s m #[(.int p1), (.long q2), (.int p3), (.int p4), (.long q5), (.int p6)] below meth c s₁ [] 0 0 := Stand.of_body Bd
  have e0 : s₁.heap = h0 := by rw [← hh, Bd.state]; rfl
  have N0 := Fr.nil n0
  have pre0 : ∀ t, Steps p.tables e below (s₁.setTop (mkF m 0 #[.val (.int p1), .val (.long q2), .second, .val (.int p3), .val (.int p4), .val (.long q5), .second, .val (.int p6)] [])) t → Steps p.tables e below (s₁.setTop (entryFrame m #[(.int p1), (.long q2), (.int p3), (.int p4), (.long q5), (.int p6)] 8)) t := fun t k => castTop (ef_11 m p1 q2 p3 p4 q5 p6) k
  obtain ⟨fs, hr, hrun, hended, hW, hsame⟩ := X0.leave (v := some (.int (1 : Int32))) (fun h => by rw [Bd.returns] at h; cases h)
  refine ⟨_, _, pre0 _ ?_, hrun, hended, _, _, rfl, ?_, ⟨_, rfl⟩, hW, hsame.mono (by decide) (by decide)⟩
  · show Steps _ _ _ (s₁.setTop (mkF m 0 #[.val (.int p1), .val (.long q2), .second, .val (.int p3), .val (.int p4), .val (.long q5), .second, .val (.int p6)] [])) _
    refine XS.lload X0.here hx rfl (hb hby d11_0) rfl ?_
    show Steps _ _ _ (s₁.setTop (mkF m 2 #[.val (.int p1), .val (.long q2), .second, .val (.int p3), .val (.int p4), .val (.long q5), .second, .val (.int p6)] [(.long q5)])) _
    refine XS.lloadN X0.here hx rfl (hb hby d11_2) rfl ?_
    show Steps _ _ _ (s₁.setTop (mkF m 3 #[.val (.int p1), .val (.long q2), .second, .val (.int p3), .val (.int p4), .val (.long q5), .second, .val (.int p6)] [(.long q2), (.long q5)])) _
    refine XS.lcmp X0.here hx rfl (hb hby d11_3) rfl ?_
    show Steps _ _ _ (s₁.setTop (mkF m 4 #[.val (.int p1), .val (.long q2), .second, .val (.int p3), .val (.int p4), .val (.long q5), .second, .val (.int p6)] [(.int (lcmpW q5 q2))])) _
    refine XS.ifNo X0.here hx rfl (hb hby d11_4) rfl ((if0 _ _).trans (teq hc4).2) ?_
    show Steps _ _ _ (s₁.setTop (mkF m 7 #[.val (.int p1), .val (.long q2), .second, .val (.int p3), .val (.int p4), .val (.long q5), .second, .val (.int p6)] [])) _
    refine XS.iload X0.here hx rfl (hb hby d11_7) rfl ?_
    show Steps _ _ _ (s₁.setTop (mkF m 9 #[.val (.int p1), .val (.long q2), .second, .val (.int p3), .val (.int p4), .val (.long q5), .second, .val (.int p6)] [(.int p4)])) _
    refine XS.bipush X0.here hx rfl (hb hby d11_9) ?_
    show Steps _ _ _ (s₁.setTop (mkF m 11 #[.val (.int p1), .val (.long q2), .second, .val (.int p3), .val (.int p4), .val (.long q5), .second, .val (.int p6)] [(.int (-2 : Int32)), (.int p4)])) _
    refine XS.icmpNo X0.here hx rfl (hb hby d11_11) rfl (feq hc11).1 ?_
    show Steps _ _ _ (s₁.setTop (mkF m 14 #[.val (.int p1), .val (.long q2), .second, .val (.int p3), .val (.int p4), .val (.long q5), .second, .val (.int p6)] [])) _
    refine XS.iload X0.here hx rfl (hb hby d11_14) rfl ?_
    show Steps _ _ _ (s₁.setTop (mkF m 16 #[.val (.int p1), .val (.long q2), .second, .val (.int p3), .val (.int p4), .val (.long q5), .second, .val (.int p6)] [(.int p4)])) _
    refine XS.iloadN X0.here hx rfl (hb hby d11_16) rfl ?_
    show Steps _ _ _ (s₁.setTop (mkF m 17 #[.val (.int p1), .val (.long q2), .second, .val (.int p3), .val (.int p4), .val (.long q5), .second, .val (.int p6)] [(.int p1), (.int p4)])) _
    refine XS.icmpYes X0.here hx rfl (pc0 := 17) (pc' := 22) rfl (hb hby d11_17) rfl (teq hc17).1 (by decide) (by decide) ?_
    show Steps _ _ _ (s₁.setTop (mkF m 22 #[.val (.int p1), .val (.long q2), .second, .val (.int p3), .val (.int p4), .val (.long q5), .second, .val (.int p6)] [])) _
    refine XS.iload X0.here hx rfl (hb hby d11_22) rfl ?_
    show Steps _ _ _ (s₁.setTop (mkF m 24 #[.val (.int p1), .val (.long q2), .second, .val (.int p3), .val (.int p4), .val (.long q5), .second, .val (.int p6)] [(.int p6)])) _
    refine XS.iconst X0.here hx rfl (hb hby d11_24) ?_
    show Steps _ _ _ (s₁.setTop (mkF m 25 #[.val (.int p1), .val (.long q2), .second, .val (.int p3), .val (.int p4), .val (.long q5), .second, .val (.int p6)] [(.int (-1 : Int32)), (.int p6)])) _
    refine XS.icmpYes X0.here hx rfl (pc0 := 25) (pc' := 38) rfl (hb hby d11_25) rfl (feq hc25).2 (by decide) (by decide) ?_
    show Steps _ _ _ (s₁.setTop (mkF m 38 #[.val (.int p1), .val (.long q2), .second, .val (.int p3), .val (.int p4), .val (.long q5), .second, .val (.int p6)] [])) _
    refine XS.iload X0.here hx rfl (hb hby d11_38) rfl ?_
    show Steps _ _ _ (s₁.setTop (mkF m 40 #[.val (.int p1), .val (.long q2), .second, .val (.int p3), .val (.int p4), .val (.long q5), .second, .val (.int p6)] [(.int p6)])) _
    refine X0.ldcInt hx hown (mvT hZ (own_w hw 195 rfl)) (g := (mkF m 40 #[.val (.int p1), .val (.long q2), .second, .val (.int p3), .val (.int p4), .val (.long q5), .second, .val (.int p6)] [(.int p6)])) rfl (hb hby d11_40) _ ?_
    show Steps _ _ _ (s₁.setTop (mkF m 42 #[.val (.int p1), .val (.long q2), .second, .val (.int p3), .val (.int p4), .val (.long q5), .second, .val (.int p6)] [(.int (-2147483648 : Int32)), (.int p6)])) _
    refine XS.icmpYes X0.here hx rfl (pc0 := 42) (pc' := 58) rfl (hb hby d11_42) rfl (feq hc42).2 (by decide) (by decide) ?_
    show Steps _ _ _ (s₁.setTop (mkF m 58 #[.val (.int p1), .val (.long q2), .second, .val (.int p3), .val (.int p4), .val (.long q5), .second, .val (.int p6)] [])) _
    refine XS.iload X0.here hx rfl (hb hby d11_58) rfl ?_
    show Steps _ _ _ (s₁.setTop (mkF m 60 #[.val (.int p1), .val (.long q2), .second, .val (.int p3), .val (.int p4), .val (.long q5), .second, .val (.int p6)] [(.int p6)])) _
    refine XS.iloadN X0.here hx rfl (hb hby d11_60) rfl ?_
    show Steps _ _ _ (s₁.setTop (mkF m 61 #[.val (.int p1), .val (.long q2), .second, .val (.int p3), .val (.int p4), .val (.long q5), .second, .val (.int p6)] [(.int p3), (.int p6)])) _
    refine XS.icmpNo X0.here hx rfl (hb hby d11_61) rfl (teq hc61).2 ?_
    show Steps _ _ _ (s₁.setTop (mkF m 64 #[.val (.int p1), .val (.long q2), .second, .val (.int p3), .val (.int p4), .val (.long q5), .second, .val (.int p6)] [])) _
    refine XS.iconst X0.here hx rfl (hb hby d11_64) ?_
    show Steps _ _ _ (s₁.setTop (mkF m 65 #[.val (.int p1), .val (.long q2), .second, .val (.int p3), .val (.int p4), .val (.long q5), .second, .val (.int p6)] [(.int (1 : Int32))])) _
    refine XS.goto X0.here hx rfl (pc0 := 65) (pc' := 69) rfl (hb hby d11_65) (by decide) (by decide) ?_
    show Steps _ _ _ (s₁.setTop (mkF m 69 #[.val (.int p1), .val (.long q2), .second, .val (.int p3), .val (.int p4), .val (.long q5), .second, .val (.int p6)] [(.int (1 : Int32))])) _
    exact retN X0 hx (t := .boolean) Bd.returns (by simp) (hb hby d11_69) hr
  · show Qv (some (.int (1 : Int32))) h0 n0 _ s₁.heap _
    rw [e0]
    exact ⟨rfl, N0, rfl⟩
theorem rm11_fftttt (l : Launch) (Z : State) (a0 : Array Value) (hw : ∀ d ∈ tables_1, d.before a0 Z = true) (ws : List Jvm.Cond) (p1 : Int32) (q2 : Int64) (p3 p4 : Int32) (q5 : Int64) (p6 : Int32) (h0 : Heap) (n0 : Nat) (Z0 : n0 ≤ h0.size) (hc4 : (lcmpW q5 q2) = (0 : Int32)) (hc11 : ¬ (p4 = (-2 : Int32))) (hc17 : p4 = p1) (hc25 : ¬ (p6 = (-1 : Int32))) (hc42 : ¬ (p6 = (-2147483648 : Int32))) (hc61 : ¬ (p6 = p3)) :
    MetFree l own_n9 (head1 (Jvm.Cond.code own_n9 prog_31_method_7_code 8 (some .boolean) :: ws) own_r1) (fun a U => a = #[(.int p1), (.long q2), (.int p3), (.int p4), (.long q5), (.int p6)] ∧ Z.Warmed39 U.vm ∧ U.heap = h0) (fun _ _ _ _ _ => True) (fun _ U o U' => ∃ v L, o = .returned v ∧ Qv (some (.int (0 : Int32))) h0 n0 v U'.heap L ∧ FrameEnd U o U' L own_r1.cells own_r1.slots) := by
  refine MetFree.of_bodySF (plainFor_of_name pn_11) hisR ?_
  intro p e s m args below meth c s₁ Bd hml0 hP hK
  obtain ⟨rfl, hZ, hh⟩ := hP
  have hx := Bd.exec
  have hby := Bd.bytes
  have hml : c.maxLocals = 8 := hml0
  have hown : s.vm.findClass "com/example/cablegram/cablegram/engine/Envelope" = some m.cls := findClass_of_methodNamed Bd.named
  have hnm := (name_of_methodNamed Bd.named Bd.method).1
  have X0 : Stand p l e own_r1 s m #[(.int p1), (.long q2), (.int p3), (.int p4), (.long q5), (.int p6)] below meth c s₁ [] 0 0 := Stand.of_body Bd
  have e0 : s₁.heap = h0 := by rw [← hh, Bd.state]; rfl
  have N0 := Fr.nil n0
  have pre0 : ∀ t, Steps p.tables e below (s₁.setTop (mkF m 0 #[.val (.int p1), .val (.long q2), .second, .val (.int p3), .val (.int p4), .val (.long q5), .second, .val (.int p6)] [])) t → Steps p.tables e below (s₁.setTop (entryFrame m #[(.int p1), (.long q2), (.int p3), (.int p4), (.long q5), (.int p6)] 8)) t := fun t k => castTop (ef_11 m p1 q2 p3 p4 q5 p6) k
  obtain ⟨fs, hr, hrun, hended, hW, hsame⟩ := X0.leave (v := some (.int (0 : Int32))) (fun h => by rw [Bd.returns] at h; cases h)
  refine ⟨_, _, pre0 _ ?_, hrun, hended, _, _, rfl, ?_, ⟨_, rfl⟩, hW, hsame.mono (by decide) (by decide)⟩
  · show Steps _ _ _ (s₁.setTop (mkF m 0 #[.val (.int p1), .val (.long q2), .second, .val (.int p3), .val (.int p4), .val (.long q5), .second, .val (.int p6)] [])) _
    refine XS.lload X0.here hx rfl (hb hby d11_0) rfl ?_
    show Steps _ _ _ (s₁.setTop (mkF m 2 #[.val (.int p1), .val (.long q2), .second, .val (.int p3), .val (.int p4), .val (.long q5), .second, .val (.int p6)] [(.long q5)])) _
    refine XS.lloadN X0.here hx rfl (hb hby d11_2) rfl ?_
    show Steps _ _ _ (s₁.setTop (mkF m 3 #[.val (.int p1), .val (.long q2), .second, .val (.int p3), .val (.int p4), .val (.long q5), .second, .val (.int p6)] [(.long q2), (.long q5)])) _
    refine XS.lcmp X0.here hx rfl (hb hby d11_3) rfl ?_
    show Steps _ _ _ (s₁.setTop (mkF m 4 #[.val (.int p1), .val (.long q2), .second, .val (.int p3), .val (.int p4), .val (.long q5), .second, .val (.int p6)] [(.int (lcmpW q5 q2))])) _
    refine XS.ifNo X0.here hx rfl (hb hby d11_4) rfl ((if0 _ _).trans (teq hc4).2) ?_
    show Steps _ _ _ (s₁.setTop (mkF m 7 #[.val (.int p1), .val (.long q2), .second, .val (.int p3), .val (.int p4), .val (.long q5), .second, .val (.int p6)] [])) _
    refine XS.iload X0.here hx rfl (hb hby d11_7) rfl ?_
    show Steps _ _ _ (s₁.setTop (mkF m 9 #[.val (.int p1), .val (.long q2), .second, .val (.int p3), .val (.int p4), .val (.long q5), .second, .val (.int p6)] [(.int p4)])) _
    refine XS.bipush X0.here hx rfl (hb hby d11_9) ?_
    show Steps _ _ _ (s₁.setTop (mkF m 11 #[.val (.int p1), .val (.long q2), .second, .val (.int p3), .val (.int p4), .val (.long q5), .second, .val (.int p6)] [(.int (-2 : Int32)), (.int p4)])) _
    refine XS.icmpNo X0.here hx rfl (hb hby d11_11) rfl (feq hc11).1 ?_
    show Steps _ _ _ (s₁.setTop (mkF m 14 #[.val (.int p1), .val (.long q2), .second, .val (.int p3), .val (.int p4), .val (.long q5), .second, .val (.int p6)] [])) _
    refine XS.iload X0.here hx rfl (hb hby d11_14) rfl ?_
    show Steps _ _ _ (s₁.setTop (mkF m 16 #[.val (.int p1), .val (.long q2), .second, .val (.int p3), .val (.int p4), .val (.long q5), .second, .val (.int p6)] [(.int p4)])) _
    refine XS.iloadN X0.here hx rfl (hb hby d11_16) rfl ?_
    show Steps _ _ _ (s₁.setTop (mkF m 17 #[.val (.int p1), .val (.long q2), .second, .val (.int p3), .val (.int p4), .val (.long q5), .second, .val (.int p6)] [(.int p1), (.int p4)])) _
    refine XS.icmpYes X0.here hx rfl (pc0 := 17) (pc' := 22) rfl (hb hby d11_17) rfl (teq hc17).1 (by decide) (by decide) ?_
    show Steps _ _ _ (s₁.setTop (mkF m 22 #[.val (.int p1), .val (.long q2), .second, .val (.int p3), .val (.int p4), .val (.long q5), .second, .val (.int p6)] [])) _
    refine XS.iload X0.here hx rfl (hb hby d11_22) rfl ?_
    show Steps _ _ _ (s₁.setTop (mkF m 24 #[.val (.int p1), .val (.long q2), .second, .val (.int p3), .val (.int p4), .val (.long q5), .second, .val (.int p6)] [(.int p6)])) _
    refine XS.iconst X0.here hx rfl (hb hby d11_24) ?_
    show Steps _ _ _ (s₁.setTop (mkF m 25 #[.val (.int p1), .val (.long q2), .second, .val (.int p3), .val (.int p4), .val (.long q5), .second, .val (.int p6)] [(.int (-1 : Int32)), (.int p6)])) _
    refine XS.icmpYes X0.here hx rfl (pc0 := 25) (pc' := 38) rfl (hb hby d11_25) rfl (feq hc25).2 (by decide) (by decide) ?_
    show Steps _ _ _ (s₁.setTop (mkF m 38 #[.val (.int p1), .val (.long q2), .second, .val (.int p3), .val (.int p4), .val (.long q5), .second, .val (.int p6)] [])) _
    refine XS.iload X0.here hx rfl (hb hby d11_38) rfl ?_
    show Steps _ _ _ (s₁.setTop (mkF m 40 #[.val (.int p1), .val (.long q2), .second, .val (.int p3), .val (.int p4), .val (.long q5), .second, .val (.int p6)] [(.int p6)])) _
    refine X0.ldcInt hx hown (mvT hZ (own_w hw 195 rfl)) (g := (mkF m 40 #[.val (.int p1), .val (.long q2), .second, .val (.int p3), .val (.int p4), .val (.long q5), .second, .val (.int p6)] [(.int p6)])) rfl (hb hby d11_40) _ ?_
    show Steps _ _ _ (s₁.setTop (mkF m 42 #[.val (.int p1), .val (.long q2), .second, .val (.int p3), .val (.int p4), .val (.long q5), .second, .val (.int p6)] [(.int (-2147483648 : Int32)), (.int p6)])) _
    refine XS.icmpYes X0.here hx rfl (pc0 := 42) (pc' := 58) rfl (hb hby d11_42) rfl (feq hc42).2 (by decide) (by decide) ?_
    show Steps _ _ _ (s₁.setTop (mkF m 58 #[.val (.int p1), .val (.long q2), .second, .val (.int p3), .val (.int p4), .val (.long q5), .second, .val (.int p6)] [])) _
    refine XS.iload X0.here hx rfl (hb hby d11_58) rfl ?_
    show Steps _ _ _ (s₁.setTop (mkF m 60 #[.val (.int p1), .val (.long q2), .second, .val (.int p3), .val (.int p4), .val (.long q5), .second, .val (.int p6)] [(.int p6)])) _
    refine XS.iloadN X0.here hx rfl (hb hby d11_60) rfl ?_
    show Steps _ _ _ (s₁.setTop (mkF m 61 #[.val (.int p1), .val (.long q2), .second, .val (.int p3), .val (.int p4), .val (.long q5), .second, .val (.int p6)] [(.int p3), (.int p6)])) _
    refine XS.icmpYes X0.here hx rfl (pc0 := 61) (pc' := 68) rfl (hb hby d11_61) rfl (feq hc61).2 (by decide) (by decide) ?_
    show Steps _ _ _ (s₁.setTop (mkF m 68 #[.val (.int p1), .val (.long q2), .second, .val (.int p3), .val (.int p4), .val (.long q5), .second, .val (.int p6)] [])) _
    refine XS.iconst X0.here hx rfl (hb hby d11_68) ?_
    show Steps _ _ _ (s₁.setTop (mkF m 69 #[.val (.int p1), .val (.long q2), .second, .val (.int p3), .val (.int p4), .val (.long q5), .second, .val (.int p6)] [(.int (0 : Int32))])) _
    exact retN X0 hx (t := .boolean) Bd.returns (by simp) (hb hby d11_69) hr
  · show Qv (some (.int (0 : Int32))) h0 n0 _ s₁.heap _
    rw [e0]
    exact ⟨rfl, N0, rfl⟩
theorem rm11 (l : Launch) (Z : State) (a0 : Array Value) (hw : ∀ d ∈ tables_1, d.before a0 Z = true) (ws : List Jvm.Cond) (p1 : Int32) (q2 : Int64) (p3 p4 : Int32) (q5 : Int64) (p6 : Int32) (h0 : Heap) (n0 : Nat) (Z0 : n0 ≤ h0.size) :
    MetFree l own_n9 (head1 (Jvm.Cond.code own_n9 prog_31_method_7_code 8 (some .boolean) :: ws) own_r1) (fun a U => a = #[(.int p1), (.long q2), (.int p3), (.int p4), (.long q5), (.int p6)] ∧ Z.Warmed39 U.vm ∧ U.heap = h0) (fun _ _ _ _ _ => True) (fun _ U o U' => ∃ v L, o = .returned v ∧ Qv (some (.int (own_match p1 q2 p3 p4 q5 p6))) h0 n0 v U'.heap L ∧ FrameEnd U o U' L own_r1.cells own_r1.slots) := by
  by_cases h1 : q5 = q2
  · have k1 := own_lc0.mpr h1
    by_cases f1 : p4 = (-2 : Int32)
    · by_cases w1 : p6 = (-1 : Int32)
      · by_cases t1 : p3 < (0 : Int32)
        · rw [show own_match p1 q2 p3 p4 q5 p6 = 0 from by unfold own_match own_tagok; rw [if_pos h1, if_pos f1, if_pos w1, if_pos t1]]
          exact rm11_ftft l Z a0 hw ws p1 q2 p3 p4 q5 p6 h0 n0 Z0 k1 f1 w1 t1
        · rw [show own_match p1 q2 p3 p4 q5 p6 = 1 from by unfold own_match own_tagok; rw [if_pos h1, if_pos f1, if_pos w1, if_neg t1]]
          exact rm11_ftff l Z a0 hw ws p1 q2 p3 p4 q5 p6 h0 n0 Z0 k1 f1 w1 t1
      by_cases w2 : p6 = (-2147483648 : Int32)
      · by_cases t2 : p3 < (-1 : Int32)
        · rw [show own_match p1 q2 p3 p4 q5 p6 = 1 from by unfold own_match own_tagok; rw [if_pos h1, if_pos f1, if_neg w1, if_pos w2, if_pos t2]]
          exact rm11_fttff l Z a0 hw ws p1 q2 p3 p4 q5 p6 h0 n0 Z0 k1 f1 w1 w2 t2
        · rw [show own_match p1 q2 p3 p4 q5 p6 = 0 from by unfold own_match own_tagok; rw [if_pos h1, if_pos f1, if_neg w1, if_pos w2, if_neg t2]]
          exact rm11_fttft l Z a0 hw ws p1 q2 p3 p4 q5 p6 h0 n0 Z0 k1 f1 w1 w2 t2
      by_cases w3 : p6 = p3
      · rw [show own_match p1 q2 p3 p4 q5 p6 = 1 from by unfold own_match own_tagok; rw [if_pos h1, if_pos f1, if_neg w1, if_neg w2, if_pos w3]]
        exact rm11_ftttf l Z a0 hw ws p1 q2 p3 p4 q5 p6 h0 n0 Z0 k1 f1 w1 w2 w3
      · rw [show own_match p1 q2 p3 p4 q5 p6 = 0 from by unfold own_match own_tagok; rw [if_pos h1, if_pos f1, if_neg w1, if_neg w2, if_neg w3]]
        exact rm11_ftttt l Z a0 hw ws p1 q2 p3 p4 q5 p6 h0 n0 Z0 k1 f1 w1 w2 w3
    by_cases f2 : p4 = p1
    · by_cases w1 : p6 = (-1 : Int32)
      · by_cases t1 : p3 < (0 : Int32)
        · rw [show own_match p1 q2 p3 p4 q5 p6 = 0 from by unfold own_match own_tagok; rw [if_pos h1, if_neg f1, if_pos f2, if_pos w1, if_pos t1]]
          exact rm11_fftft l Z a0 hw ws p1 q2 p3 p4 q5 p6 h0 n0 Z0 k1 f1 f2 w1 t1
        · rw [show own_match p1 q2 p3 p4 q5 p6 = 1 from by unfold own_match own_tagok; rw [if_pos h1, if_neg f1, if_pos f2, if_pos w1, if_neg t1]]
          exact rm11_fftff l Z a0 hw ws p1 q2 p3 p4 q5 p6 h0 n0 Z0 k1 f1 f2 w1 t1
      by_cases w2 : p6 = (-2147483648 : Int32)
      · by_cases t2 : p3 < (-1 : Int32)
        · rw [show own_match p1 q2 p3 p4 q5 p6 = 1 from by unfold own_match own_tagok; rw [if_pos h1, if_neg f1, if_pos f2, if_neg w1, if_pos w2, if_pos t2]]
          exact rm11_ffttff l Z a0 hw ws p1 q2 p3 p4 q5 p6 h0 n0 Z0 k1 f1 f2 w1 w2 t2
        · rw [show own_match p1 q2 p3 p4 q5 p6 = 0 from by unfold own_match own_tagok; rw [if_pos h1, if_neg f1, if_pos f2, if_neg w1, if_pos w2, if_neg t2]]
          exact rm11_ffttft l Z a0 hw ws p1 q2 p3 p4 q5 p6 h0 n0 Z0 k1 f1 f2 w1 w2 t2
      by_cases w3 : p6 = p3
      · rw [show own_match p1 q2 p3 p4 q5 p6 = 1 from by unfold own_match own_tagok; rw [if_pos h1, if_neg f1, if_pos f2, if_neg w1, if_neg w2, if_pos w3]]
        exact rm11_fftttf l Z a0 hw ws p1 q2 p3 p4 q5 p6 h0 n0 Z0 k1 f1 f2 w1 w2 w3
      · rw [show own_match p1 q2 p3 p4 q5 p6 = 0 from by unfold own_match own_tagok; rw [if_pos h1, if_neg f1, if_pos f2, if_neg w1, if_neg w2, if_neg w3]]
        exact rm11_fftttt l Z a0 hw ws p1 q2 p3 p4 q5 p6 h0 n0 Z0 k1 f1 f2 w1 w2 w3
    · rw [show own_match p1 q2 p3 p4 q5 p6 = 0 from by unfold own_match; rw [if_pos h1, if_neg f1, if_neg f2]]
      exact rm11_fff l Z a0 hw ws p1 q2 p3 p4 q5 p6 h0 n0 Z0 k1 f1 f2
  · rw [show own_match p1 q2 p3 p4 q5 p6 = 0 from by unfold own_match; rw [if_neg h1]]
    exact rm11_t l Z a0 hw ws p1 q2 p3 p4 q5 p6 h0 n0 Z0 (fun q => h1 (own_lc0.mp q))
def own_take (m : Int32) (mt t : Addr) (el cnt : Int32) : Int32 := if m = 0 then 0 else if mt = t then (if cnt < el then 0 else 1) else 0
theorem d12_0 : decode prog_5_method_5_code 0 = .ok (.aload_n 0, 1) := by decide +kernel
theorem d12_1 : decode prog_5_method_5_code 1 = .ok (.invokevirtual 48, 3) := by decide +kernel
theorem d12_4 : decode prog_5_method_5_code 4 = .ok (.ifCond .eq 47, 3) := by decide +kernel
theorem d12_7 : decode prog_5_method_5_code 7 = .ok (.iload_n 1, 1) := by decide +kernel
theorem d12_8 : decode prog_5_method_5_code 8 = .ok (.lload_n 2, 1) := by decide +kernel
theorem d12_9 : decode prog_5_method_5_code 9 = .ok (.iload 4, 2) := by decide +kernel
theorem d12_11 : decode prog_5_method_5_code 11 = .ok (.aload_n 0, 1) := by decide +kernel
theorem d12_12 : decode prog_5_method_5_code 12 = .ok (.getfield 13, 3) := by decide +kernel
theorem d12_15 : decode prog_5_method_5_code 15 = .ok (.aload_n 0, 1) := by decide +kernel
theorem d12_16 : decode prog_5_method_5_code 16 = .ok (.getfield 17, 3) := by decide +kernel
theorem d12_19 : decode prog_5_method_5_code 19 = .ok (.aload_n 0, 1) := by decide +kernel
theorem d12_20 : decode prog_5_method_5_code 20 = .ok (.getfield 21, 3) := by decide +kernel
theorem d12_23 : decode prog_5_method_5_code 23 = .ok (.invokestatic 54, 3) := by decide +kernel
theorem d12_26 : decode prog_5_method_5_code 26 = .ok (.ifCond .eq 25, 3) := by decide +kernel
theorem d12_51 : decode prog_5_method_5_code 51 = .ok (.iconst 0, 1) := by decide +kernel
theorem d12_52 : decode prog_5_method_5_code 52 = .ok (.ireturn, 1) := by decide +kernel
theorem pn_12 : plainName own_s0 = true := by first | (simp [plainName, overriddenIn]; done) | decide +kernel
theorem pd_12_7 : parseMethodDescriptor "()Z" = some ⟨[], some .boolean⟩ := by decide +kernel
theorem pd_12_8 : parseMethodDescriptor "(IJIIJI)Z" = some ⟨[.int, .long, .int, .int, .long, .int], some .boolean⟩ := by decide +kernel
theorem ef_12 (m : MethodId) (x0 : Addr) (x1 : Int32) (x2 : Int64) (x3 : Int32) (x4 : Addr) (x5 : Int32) : entryFrame m #[(.ref x0), (.int x1), (.long x2), (.int x3), (.ref x4), (.int x5)] 7 = mkF m 0 #[.val (.ref x0), .val (.int x1), .val (.long x2), .second, .val (.int x3), .val (.ref x4), .val (.int x5)] [] := by first | (simp [entryFrame, mkF, argsToLocals, Value.category]; done) | rfl
theorem rm12_ft (l : Launch) (Z : State) (a0 : Array Value) (hw : ∀ d ∈ tables_1, d.before a0 Z = true) (ws : List Jvm.Cond) (a1 : Addr) (p2 : Int32) (q3 : Int64) (p4 : Int32) (a5 : Addr) (p6 w8 : Int32) (w10 : Int64) (w12 : Int32) (h0 : Heap) (n0 : Nat) (Z0 : n0 ≤ h0.size) (F_waits_a1 : Fld Z h0 a1 own_s0 "waits" "Z" (.int (1 : Int32))) (F_took_a1 : Fld Z h0 a1 own_s0 "tookInPlace" "Z" (.int (0 : Int32))) (F_made_a1 : Fld Z h0 a1 own_s0 "made" "Lcom/example/cablegram/cablegram/engine/Receive;" .null) (E_a1 : Exa Z h0 a1 own_s0) (F_source_a1 : Fld Z h0 a1 own_s0 "source" "I" (.int w8)) (F_context_a1 : Fld Z h0 a1 own_s0 "context" "J" (.long w10)) (F_tag_a1 : Fld Z h0 a1 own_s0 "tag" "I" (.int w12)) (hm : (own_match p2 q3 p4 w8 w10 w12) = 0) :
    MetFree l own_n10 (head1 (Jvm.Cond.code own_n10 prog_5_method_5_code 7 (some .boolean) :: ws) own_r2) (fun a U => a = #[(.ref a1), (.int p2), (.long q3), (.int p4), (.ref a5), (.int p6)] ∧ Z.Warmed39 U.vm ∧ U.heap = h0) (fun _ _ _ _ _ => True) (fun _ U o U' => ∃ v L, o = .returned v ∧ Qv (some (.int (0 : Int32))) h0 n0 v U'.heap L ∧ FrameEnd U o U' L own_r2.cells own_r2.slots) := by
  refine MetFree.of_bodySF (plainFor_of_name pn_12) hisR ?_
  intro p e s m args below meth c s₁ Bd hml0 hP hK
  obtain ⟨rfl, hZ, hh⟩ := hP
  have hx := Bd.exec
  have hby := Bd.bytes
  have hml : c.maxLocals = 7 := hml0
  have hown : s.vm.findClass own_s0 = some m.cls := findClass_of_methodNamed Bd.named
  have hnm := (name_of_methodNamed Bd.named Bd.method).1
  have X0 : Stand p l e own_r2 s m #[(.ref a1), (.int p2), (.long q3), (.int p4), (.ref a5), (.int p6)] below meth c s₁ [] 0 0 := Stand.of_body Bd
  have e0 : s₁.heap = h0 := by rw [← hh, Bd.state]; rfl
  have N0 := Fr.nil n0
  have pre0 : ∀ t, Steps p.tables e below (s₁.setTop (mkF m 0 #[.val (.ref a1), .val (.int p2), .val (.long q3), .second, .val (.int p4), .val (.ref a5), .val (.int p6)] [])) t → Steps p.tables e below (s₁.setTop (entryFrame m #[(.ref a1), (.int p2), (.long q3), (.int p4), (.ref a5), (.int p6)] 7)) t := fun t k => castTop (ef_12 m a1 p2 q3 p4 a5 p6) k
  obtain ⟨cq7, q7, q7'⟩ := E_a1.cell
  obtain ⟨_, _, ⟨T7, L7, k7, n7⟩, -, X7, ⟨Lc7, hQ7, l7, y7, z7⟩, st7⟩ := X0.privateBack hx (y := own_n7) hown (mvT hZ (own_w hw 76 rfl)) (mvT hZ (own_w hw 77 rfl)) (mvT hZ (Jvm.Kit.selects_private (n := 12) (by decide) (own_w hw 11 rfl) (own_w hw 78 rfl) (own_w hw 77 rfl))) (Cond.privateMethod_at (mvP hZ (own_w hw 78 rfl) (args := #[]))) (mvT hZ (own_w hw 79 rfl)) (by decide) (backOf (W := 0) (rm10 l Z a0 hw [] a1 (1 : Int32) (0 : Int32) h0 n0 Z0 F_waits_a1 F_took_a1 F_made_a1 (by decide) rfl) hZ (own_w hw 79 rfl) (own_w hw 12 rfl) (by decide) (by decide)) (g := (mkF m 1 #[.val (.ref a1), .val (.int p2), .val (.long q3), .second, .val (.int p4), .val (.ref a5), .val (.int p6)] [(.ref a1)])) rfl (by rw [hml]; rfl) (Steps.refl _) (a := a1) (by rw [e0]; exact q7) q7' (argsL := []) (rest := []) (lenOf pd_12_7 rfl) rfl (by show 2 * 0 + _ ≤ _; exact Nat.le_of_eq rfl) (hb hby d12_1) (fun _ _ => ⟨rfl, e0, (by decide : 0 + 0 ≤ _), (by decide : 0 + 0 ≤ _)⟩)
  dsimp only [Pt.U, Pt.locs, Pt.cells, Pt.slots] at X7 l7 y7 z7 st7 hQ7
  subst l7 y7 z7
  obtain ⟨rfl, N7q, e7⟩ := hQ7
  have N7 := Fr.app N0 N7q
  have Kc7 : Keep h0 T7.heap [] := own_kp e7
  obtain ⟨T9, X9, e9, st9⟩ := getF X7 hx hZ hown (host := "") (Or.inl (own_w hw 26 rfl)) Via.refl rfl (F_source_a1.keep Kc7 nin0) (g := (mkF m 12 #[.val (.ref a1), .val (.int p2), .val (.long q3), .second, .val (.int p4), .val (.ref a5), .val (.int p6)] [(.ref a1), (.int p4), (.long q3), (.int p2)])) rfl rfl (hb hby d12_12)
  obtain ⟨T11, X11, e11, st11⟩ := getF X9 hx hZ hown (host := "") (Or.inl (own_w hw 28 rfl)) Via.refl e9 (F_context_a1.keep Kc7 nin0) (g := (mkF m 16 #[.val (.ref a1), .val (.int p2), .val (.long q3), .second, .val (.int p4), .val (.ref a5), .val (.int p6)] [(.ref a1), (.int w8), (.int p4), (.long q3), (.int p2)])) rfl rfl (hb hby d12_16)
  obtain ⟨T13, X13, e13, st13⟩ := getF X11 hx hZ hown (host := "") (Or.inl (own_w hw 30 rfl)) Via.refl e11 (F_tag_a1.keep Kc7 nin0) (g := (mkF m 20 #[.val (.ref a1), .val (.int p2), .val (.long q3), .second, .val (.int p4), .val (.ref a5), .val (.int p6)] [(.ref a1), (.long w10), (.int w8), (.int p4), (.long q3), (.int p2)])) rfl rfl (hb hby d12_20)
  obtain ⟨_, _, ⟨T14, L14, k14, n14⟩, -, X14, ⟨Lc14, hQ14, l14, y14, z14⟩, st14⟩ := Jvm.LawKit.callS X13 hx (y := own_n9) hown (mvT hZ (own_w hw 89 rfl)) (mvT hZ (own_w hw 81 rfl)) (mvT hZ (own_w hw 82 rfl)) (mvT hZ (own_w hw 83 rfl)) (by decide) (backOf (W := 0) (rm11 l Z a0 hw [] p2 q3 p4 w8 w10 w12 T7.heap n0 (by rw [e7]; exact Z0)) hZ (own_w hw 83 rfl) (own_w hw 82 rfl) (by decide) (by decide)) (g := (mkF m 23 #[.val (.ref a1), .val (.int p2), .val (.long q3), .second, .val (.int p4), .val (.ref a5), .val (.int p6)] [(.int w12), (.long w10), (.int w8), (.int p4), (.long q3), (.int p2)])) rfl (by rw [hml]; rfl) (argsL := [(.int p2), (.long q3), (.int p4), (.int w8), (.long w10), (.int w12)]) (rest := []) (lenOf pd_12_8 rfl) rfl (by show 2 * 0 + _ ≤ _; exact Nat.le_of_eq rfl) (hb hby d12_23) (fun _ _ => ⟨rfl, e13, (by decide : 0 + 0 ≤ _), (by decide : 0 + 0 ≤ _)⟩)
  dsimp only [Pt.U, Pt.locs, Pt.cells, Pt.slots] at X14 l14 y14 z14 st14 hQ14
  subst l14 y14 z14
  obtain ⟨rfl, N14q, e14⟩ := hQ14
  have N14 := Fr.app N7 N14q
  have Kc14 : Keep T7.heap T14.heap [] := own_kp e14
  obtain ⟨fs, hr, hrun, hended, hW, hsame⟩ := X14.leave (v := some (.int (0 : Int32))) (fun h => by rw [Bd.returns] at h; cases h)
  refine ⟨_, _, pre0 _ ?_, hrun, hended, _, _, rfl, ?_, ⟨_, rfl⟩, hW, hsame.mono (by decide) (by decide)⟩
  · show Steps _ _ _ (s₁.setTop (mkF m 0 #[.val (.ref a1), .val (.int p2), .val (.long q3), .second, .val (.int p4), .val (.ref a5), .val (.int p6)] [])) _
    refine XS.aloadN X0.here hx rfl (hb hby d12_0) rfl rfl ?_
    show Steps _ _ _ (s₁.setTop (mkF m 1 #[.val (.ref a1), .val (.int p2), .val (.long q3), .second, .val (.int p4), .val (.ref a5), .val (.int p6)] [(.ref a1)])) _
    refine st7.trans ?_
    show Steps _ _ _ (T7.setTop (mkF m 4 #[.val (.ref a1), .val (.int p2), .val (.long q3), .second, .val (.int p4), .val (.ref a5), .val (.int p6)] [(.int (1 : Int32))])) _
    refine XS.ifNo X7.here hx rfl (hb hby d12_4) rfl ((if0 _ _).trans (feq (by first | exact hm | decide : ¬ ((1 : Int32) = (0 : Int32)))).1) ?_
    show Steps _ _ _ (T7.setTop (mkF m 7 #[.val (.ref a1), .val (.int p2), .val (.long q3), .second, .val (.int p4), .val (.ref a5), .val (.int p6)] [])) _
    refine XS.iloadN X7.here hx rfl (hb hby d12_7) rfl ?_
    show Steps _ _ _ (T7.setTop (mkF m 8 #[.val (.ref a1), .val (.int p2), .val (.long q3), .second, .val (.int p4), .val (.ref a5), .val (.int p6)] [(.int p2)])) _
    refine XS.lloadN X7.here hx rfl (hb hby d12_8) rfl ?_
    show Steps _ _ _ (T7.setTop (mkF m 9 #[.val (.ref a1), .val (.int p2), .val (.long q3), .second, .val (.int p4), .val (.ref a5), .val (.int p6)] [(.long q3), (.int p2)])) _
    refine XS.iload X7.here hx rfl (hb hby d12_9) rfl ?_
    show Steps _ _ _ (T7.setTop (mkF m 11 #[.val (.ref a1), .val (.int p2), .val (.long q3), .second, .val (.int p4), .val (.ref a5), .val (.int p6)] [(.int p4), (.long q3), (.int p2)])) _
    refine XS.aloadN X7.here hx rfl (hb hby d12_11) rfl rfl ?_
    show Steps _ _ _ (T7.setTop (mkF m 12 #[.val (.ref a1), .val (.int p2), .val (.long q3), .second, .val (.int p4), .val (.ref a5), .val (.int p6)] [(.ref a1), (.int p4), (.long q3), (.int p2)])) _
    refine st9 _ ?_
    show Steps _ _ _ (T9.setTop (mkF m 15 #[.val (.ref a1), .val (.int p2), .val (.long q3), .second, .val (.int p4), .val (.ref a5), .val (.int p6)] [(.int w8), (.int p4), (.long q3), (.int p2)])) _
    refine XS.aloadN X9.here hx rfl (hb hby d12_15) rfl rfl ?_
    show Steps _ _ _ (T9.setTop (mkF m 16 #[.val (.ref a1), .val (.int p2), .val (.long q3), .second, .val (.int p4), .val (.ref a5), .val (.int p6)] [(.ref a1), (.int w8), (.int p4), (.long q3), (.int p2)])) _
    refine st11 _ ?_
    show Steps _ _ _ (T11.setTop (mkF m 19 #[.val (.ref a1), .val (.int p2), .val (.long q3), .second, .val (.int p4), .val (.ref a5), .val (.int p6)] [(.long w10), (.int w8), (.int p4), (.long q3), (.int p2)])) _
    refine XS.aloadN X11.here hx rfl (hb hby d12_19) rfl rfl ?_
    show Steps _ _ _ (T11.setTop (mkF m 20 #[.val (.ref a1), .val (.int p2), .val (.long q3), .second, .val (.int p4), .val (.ref a5), .val (.int p6)] [(.ref a1), (.long w10), (.int w8), (.int p4), (.long q3), (.int p2)])) _
    refine st13 _ ?_
    show Steps _ _ _ (T13.setTop (mkF m 23 #[.val (.ref a1), .val (.int p2), .val (.long q3), .second, .val (.int p4), .val (.ref a5), .val (.int p6)] [(.int w12), (.long w10), (.int w8), (.int p4), (.long q3), (.int p2)])) _
    refine st14 _ ?_
    show Steps _ _ _ (T14.setTop (mkF m 26 #[.val (.ref a1), .val (.int p2), .val (.long q3), .second, .val (.int p4), .val (.ref a5), .val (.int p6)] [(.int (own_match p2 q3 p4 w8 w10 w12))])) _
    refine XS.ifYes X14.here hx rfl (pc0 := 26) (pc' := 51) rfl (hb hby d12_26) rfl ((if0 _ _).trans (teq (by first | exact hm | decide : (own_match p2 q3 p4 w8 w10 w12) = (0 : Int32))).1) (by decide) (by decide) ?_
    show Steps _ _ _ (T14.setTop (mkF m 51 #[.val (.ref a1), .val (.int p2), .val (.long q3), .second, .val (.int p4), .val (.ref a5), .val (.int p6)] [])) _
    refine XS.iconst X14.here hx rfl (hb hby d12_51) ?_
    show Steps _ _ _ (T14.setTop (mkF m 52 #[.val (.ref a1), .val (.int p2), .val (.long q3), .second, .val (.int p4), .val (.ref a5), .val (.int p6)] [(.int (0 : Int32))])) _
    exact retN X14 hx (t := .boolean) Bd.returns (by simp) (hb hby d12_52) hr
  · show Qv (some (.int (0 : Int32))) h0 n0 _ T14.heap _
    exact ⟨rfl, N14, e14.trans e7⟩
theorem d12_29 : decode prog_5_method_5_code 29 = .ok (.aload 5, 2) := by decide +kernel
theorem d12_31 : decode prog_5_method_5_code 31 = .ok (.aload_n 0, 1) := by decide +kernel
theorem d12_32 : decode prog_5_method_5_code 32 = .ok (.getfield 24, 3) := by decide +kernel
theorem d12_35 : decode prog_5_method_5_code 35 = .ok (.if_acmp .ne 16, 3) := by decide +kernel
theorem rm12_fft (l : Launch) (Z : State) (a0 : Array Value) (hw : ∀ d ∈ tables_1, d.before a0 Z = true) (ws : List Jvm.Cond) (a1 : Addr) (p2 : Int32) (q3 : Int64) (p4 : Int32) (a5 : Addr) (p6 w8 : Int32) (w10 : Int64) (w12 : Int32) (w15 : Addr) (h0 : Heap) (n0 : Nat) (Z0 : n0 ≤ h0.size) (F_waits_a1 : Fld Z h0 a1 own_s0 "waits" "Z" (.int (1 : Int32))) (F_took_a1 : Fld Z h0 a1 own_s0 "tookInPlace" "Z" (.int (0 : Int32))) (F_made_a1 : Fld Z h0 a1 own_s0 "made" "Lcom/example/cablegram/cablegram/engine/Receive;" .null) (E_a1 : Exa Z h0 a1 own_s0) (F_source_a1 : Fld Z h0 a1 own_s0 "source" "I" (.int w8)) (F_context_a1 : Fld Z h0 a1 own_s0 "context" "J" (.long w10)) (F_tag_a1 : Fld Z h0 a1 own_s0 "tag" "I" (.int w12)) (F_type_a1 : Fld Z h0 a1 own_s0 "type" "Lcom/example/cablegram/cablegram/engine/ElementType;" (.ref w15)) (ha35 : ¬ (a5 = w15)) (hm : ¬ (own_match p2 q3 p4 w8 w10 w12) = 0) :
    MetFree l own_n10 (head1 (Jvm.Cond.code own_n10 prog_5_method_5_code 7 (some .boolean) :: ws) own_r2) (fun a U => a = #[(.ref a1), (.int p2), (.long q3), (.int p4), (.ref a5), (.int p6)] ∧ Z.Warmed39 U.vm ∧ U.heap = h0) (fun _ _ _ _ _ => True) (fun _ U o U' => ∃ v L, o = .returned v ∧ Qv (some (.int (0 : Int32))) h0 n0 v U'.heap L ∧ FrameEnd U o U' L own_r2.cells own_r2.slots) := by
  refine MetFree.of_bodySF (plainFor_of_name pn_12) hisR ?_
  intro p e s m args below meth c s₁ Bd hml0 hP hK
  obtain ⟨rfl, hZ, hh⟩ := hP
  have hx := Bd.exec
  have hby := Bd.bytes
  have hml : c.maxLocals = 7 := hml0
  have hown : s.vm.findClass own_s0 = some m.cls := findClass_of_methodNamed Bd.named
  have hnm := (name_of_methodNamed Bd.named Bd.method).1
  have X0 : Stand p l e own_r2 s m #[(.ref a1), (.int p2), (.long q3), (.int p4), (.ref a5), (.int p6)] below meth c s₁ [] 0 0 := Stand.of_body Bd
  have e0 : s₁.heap = h0 := by rw [← hh, Bd.state]; rfl
  have N0 := Fr.nil n0
  have pre0 : ∀ t, Steps p.tables e below (s₁.setTop (mkF m 0 #[.val (.ref a1), .val (.int p2), .val (.long q3), .second, .val (.int p4), .val (.ref a5), .val (.int p6)] [])) t → Steps p.tables e below (s₁.setTop (entryFrame m #[(.ref a1), (.int p2), (.long q3), (.int p4), (.ref a5), (.int p6)] 7)) t := fun t k => castTop (ef_12 m a1 p2 q3 p4 a5 p6) k
  obtain ⟨cq7, q7, q7'⟩ := E_a1.cell
  obtain ⟨_, _, ⟨T7, L7, k7, n7⟩, -, X7, ⟨Lc7, hQ7, l7, y7, z7⟩, st7⟩ := X0.privateBack hx (y := own_n7) hown (mvT hZ (own_w hw 76 rfl)) (mvT hZ (own_w hw 77 rfl)) (mvT hZ (Jvm.Kit.selects_private (n := 12) (by decide) (own_w hw 11 rfl) (own_w hw 78 rfl) (own_w hw 77 rfl))) (Cond.privateMethod_at (mvP hZ (own_w hw 78 rfl) (args := #[]))) (mvT hZ (own_w hw 79 rfl)) (by decide) (backOf (W := 0) (rm10 l Z a0 hw [] a1 (1 : Int32) (0 : Int32) h0 n0 Z0 F_waits_a1 F_took_a1 F_made_a1 (by decide) rfl) hZ (own_w hw 79 rfl) (own_w hw 12 rfl) (by decide) (by decide)) (g := (mkF m 1 #[.val (.ref a1), .val (.int p2), .val (.long q3), .second, .val (.int p4), .val (.ref a5), .val (.int p6)] [(.ref a1)])) rfl (by rw [hml]; rfl) (Steps.refl _) (a := a1) (by rw [e0]; exact q7) q7' (argsL := []) (rest := []) (lenOf pd_12_7 rfl) rfl (by show 2 * 0 + _ ≤ _; exact Nat.le_of_eq rfl) (hb hby d12_1) (fun _ _ => ⟨rfl, e0, (by decide : 0 + 0 ≤ _), (by decide : 0 + 0 ≤ _)⟩)
  dsimp only [Pt.U, Pt.locs, Pt.cells, Pt.slots] at X7 l7 y7 z7 st7 hQ7
  subst l7 y7 z7
  obtain ⟨rfl, N7q, e7⟩ := hQ7
  have N7 := Fr.app N0 N7q
  have Kc7 : Keep h0 T7.heap [] := own_kp e7
  obtain ⟨T9, X9, e9, st9⟩ := getF X7 hx hZ hown (host := "") (Or.inl (own_w hw 26 rfl)) Via.refl rfl (F_source_a1.keep Kc7 nin0) (g := (mkF m 12 #[.val (.ref a1), .val (.int p2), .val (.long q3), .second, .val (.int p4), .val (.ref a5), .val (.int p6)] [(.ref a1), (.int p4), (.long q3), (.int p2)])) rfl rfl (hb hby d12_12)
  obtain ⟨T11, X11, e11, st11⟩ := getF X9 hx hZ hown (host := "") (Or.inl (own_w hw 28 rfl)) Via.refl e9 (F_context_a1.keep Kc7 nin0) (g := (mkF m 16 #[.val (.ref a1), .val (.int p2), .val (.long q3), .second, .val (.int p4), .val (.ref a5), .val (.int p6)] [(.ref a1), (.int w8), (.int p4), (.long q3), (.int p2)])) rfl rfl (hb hby d12_16)
  obtain ⟨T13, X13, e13, st13⟩ := getF X11 hx hZ hown (host := "") (Or.inl (own_w hw 30 rfl)) Via.refl e11 (F_tag_a1.keep Kc7 nin0) (g := (mkF m 20 #[.val (.ref a1), .val (.int p2), .val (.long q3), .second, .val (.int p4), .val (.ref a5), .val (.int p6)] [(.ref a1), (.long w10), (.int w8), (.int p4), (.long q3), (.int p2)])) rfl rfl (hb hby d12_20)
  obtain ⟨_, _, ⟨T14, L14, k14, n14⟩, -, X14, ⟨Lc14, hQ14, l14, y14, z14⟩, st14⟩ := Jvm.LawKit.callS X13 hx (y := own_n9) hown (mvT hZ (own_w hw 89 rfl)) (mvT hZ (own_w hw 81 rfl)) (mvT hZ (own_w hw 82 rfl)) (mvT hZ (own_w hw 83 rfl)) (by decide) (backOf (W := 0) (rm11 l Z a0 hw [] p2 q3 p4 w8 w10 w12 T7.heap n0 (by rw [e7]; exact Z0)) hZ (own_w hw 83 rfl) (own_w hw 82 rfl) (by decide) (by decide)) (g := (mkF m 23 #[.val (.ref a1), .val (.int p2), .val (.long q3), .second, .val (.int p4), .val (.ref a5), .val (.int p6)] [(.int w12), (.long w10), (.int w8), (.int p4), (.long q3), (.int p2)])) rfl (by rw [hml]; rfl) (argsL := [(.int p2), (.long q3), (.int p4), (.int w8), (.long w10), (.int w12)]) (rest := []) (lenOf pd_12_8 rfl) rfl (by show 2 * 0 + _ ≤ _; exact Nat.le_of_eq rfl) (hb hby d12_23) (fun _ _ => ⟨rfl, e13, (by decide : 0 + 0 ≤ _), (by decide : 0 + 0 ≤ _)⟩)
  dsimp only [Pt.U, Pt.locs, Pt.cells, Pt.slots] at X14 l14 y14 z14 st14 hQ14
  subst l14 y14 z14
  obtain ⟨rfl, N14q, e14⟩ := hQ14
  have N14 := Fr.app N7 N14q
  have Kc14 : Keep T7.heap T14.heap [] := own_kp e14
  obtain ⟨T16, X16, e16, st16⟩ := getF X14 hx hZ hown (host := "") (Or.inl (own_w hw 32 rfl)) Via.refl rfl ((F_type_a1.keep Kc7 nin0).keep Kc14 nin0) (g := (mkF m 32 #[.val (.ref a1), .val (.int p2), .val (.long q3), .second, .val (.int p4), .val (.ref a5), .val (.int p6)] [(.ref a1), (.ref a5)])) rfl rfl (hb hby d12_32)
  obtain ⟨fs, hr, hrun, hended, hW, hsame⟩ := X16.leave (v := some (.int (0 : Int32))) (fun h => by rw [Bd.returns] at h; cases h)
  refine ⟨_, _, pre0 _ ?_, hrun, hended, _, _, rfl, ?_, ⟨_, rfl⟩, hW, hsame.mono (by decide) (by decide)⟩
  · show Steps _ _ _ (s₁.setTop (mkF m 0 #[.val (.ref a1), .val (.int p2), .val (.long q3), .second, .val (.int p4), .val (.ref a5), .val (.int p6)] [])) _
    refine XS.aloadN X0.here hx rfl (hb hby d12_0) rfl rfl ?_
    show Steps _ _ _ (s₁.setTop (mkF m 1 #[.val (.ref a1), .val (.int p2), .val (.long q3), .second, .val (.int p4), .val (.ref a5), .val (.int p6)] [(.ref a1)])) _
    refine st7.trans ?_
    show Steps _ _ _ (T7.setTop (mkF m 4 #[.val (.ref a1), .val (.int p2), .val (.long q3), .second, .val (.int p4), .val (.ref a5), .val (.int p6)] [(.int (1 : Int32))])) _
    refine XS.ifNo X7.here hx rfl (hb hby d12_4) rfl ((if0 _ _).trans (feq (by first | exact hm | decide : ¬ ((1 : Int32) = (0 : Int32)))).1) ?_
    show Steps _ _ _ (T7.setTop (mkF m 7 #[.val (.ref a1), .val (.int p2), .val (.long q3), .second, .val (.int p4), .val (.ref a5), .val (.int p6)] [])) _
    refine XS.iloadN X7.here hx rfl (hb hby d12_7) rfl ?_
    show Steps _ _ _ (T7.setTop (mkF m 8 #[.val (.ref a1), .val (.int p2), .val (.long q3), .second, .val (.int p4), .val (.ref a5), .val (.int p6)] [(.int p2)])) _
    refine XS.lloadN X7.here hx rfl (hb hby d12_8) rfl ?_
    show Steps _ _ _ (T7.setTop (mkF m 9 #[.val (.ref a1), .val (.int p2), .val (.long q3), .second, .val (.int p4), .val (.ref a5), .val (.int p6)] [(.long q3), (.int p2)])) _
    refine XS.iload X7.here hx rfl (hb hby d12_9) rfl ?_
    show Steps _ _ _ (T7.setTop (mkF m 11 #[.val (.ref a1), .val (.int p2), .val (.long q3), .second, .val (.int p4), .val (.ref a5), .val (.int p6)] [(.int p4), (.long q3), (.int p2)])) _
    refine XS.aloadN X7.here hx rfl (hb hby d12_11) rfl rfl ?_
    show Steps _ _ _ (T7.setTop (mkF m 12 #[.val (.ref a1), .val (.int p2), .val (.long q3), .second, .val (.int p4), .val (.ref a5), .val (.int p6)] [(.ref a1), (.int p4), (.long q3), (.int p2)])) _
    refine st9 _ ?_
    show Steps _ _ _ (T9.setTop (mkF m 15 #[.val (.ref a1), .val (.int p2), .val (.long q3), .second, .val (.int p4), .val (.ref a5), .val (.int p6)] [(.int w8), (.int p4), (.long q3), (.int p2)])) _
    refine XS.aloadN X9.here hx rfl (hb hby d12_15) rfl rfl ?_
    show Steps _ _ _ (T9.setTop (mkF m 16 #[.val (.ref a1), .val (.int p2), .val (.long q3), .second, .val (.int p4), .val (.ref a5), .val (.int p6)] [(.ref a1), (.int w8), (.int p4), (.long q3), (.int p2)])) _
    refine st11 _ ?_
    show Steps _ _ _ (T11.setTop (mkF m 19 #[.val (.ref a1), .val (.int p2), .val (.long q3), .second, .val (.int p4), .val (.ref a5), .val (.int p6)] [(.long w10), (.int w8), (.int p4), (.long q3), (.int p2)])) _
    refine XS.aloadN X11.here hx rfl (hb hby d12_19) rfl rfl ?_
    show Steps _ _ _ (T11.setTop (mkF m 20 #[.val (.ref a1), .val (.int p2), .val (.long q3), .second, .val (.int p4), .val (.ref a5), .val (.int p6)] [(.ref a1), (.long w10), (.int w8), (.int p4), (.long q3), (.int p2)])) _
    refine st13 _ ?_
    show Steps _ _ _ (T13.setTop (mkF m 23 #[.val (.ref a1), .val (.int p2), .val (.long q3), .second, .val (.int p4), .val (.ref a5), .val (.int p6)] [(.int w12), (.long w10), (.int w8), (.int p4), (.long q3), (.int p2)])) _
    refine st14 _ ?_
    show Steps _ _ _ (T14.setTop (mkF m 26 #[.val (.ref a1), .val (.int p2), .val (.long q3), .second, .val (.int p4), .val (.ref a5), .val (.int p6)] [(.int (own_match p2 q3 p4 w8 w10 w12))])) _
    refine XS.ifNo X14.here hx rfl (hb hby d12_26) rfl ((if0 _ _).trans (feq (by first | exact hm | decide : ¬ ((own_match p2 q3 p4 w8 w10 w12) = (0 : Int32)))).1) ?_
    show Steps _ _ _ (T14.setTop (mkF m 29 #[.val (.ref a1), .val (.int p2), .val (.long q3), .second, .val (.int p4), .val (.ref a5), .val (.int p6)] [])) _
    refine XS.aload X14.here hx rfl (hb hby d12_29) rfl rfl ?_
    show Steps _ _ _ (T14.setTop (mkF m 31 #[.val (.ref a1), .val (.int p2), .val (.long q3), .second, .val (.int p4), .val (.ref a5), .val (.int p6)] [(.ref a5)])) _
    refine XS.aloadN X14.here hx rfl (hb hby d12_31) rfl rfl ?_
    show Steps _ _ _ (T14.setTop (mkF m 32 #[.val (.ref a1), .val (.int p2), .val (.long q3), .second, .val (.int p4), .val (.ref a5), .val (.int p6)] [(.ref a1), (.ref a5)])) _
    refine st16 _ ?_
    show Steps _ _ _ (T16.setTop (mkF m 35 #[.val (.ref a1), .val (.int p2), .val (.long q3), .second, .val (.int p4), .val (.ref a5), .val (.int p6)] [(.ref w15), (.ref a5)])) _
    refine Jvm.RoadKit.acmp (g := (mkF m 35 #[.val (.ref a1), .val (.int p2), .val (.long q3), .second, .val (.int p4), .val (.ref a5), .val (.int p6)] [(.ref w15), (.ref a5)])) X16 hx rfl rfl rfl (pc0 := 35) (pc' := 51) (same := false) rfl (hb hby d12_35) rfl (decide_eq_false fun q => ha35 (Value.ref.inj q)) (by decide) (by decide) ?_
    show Steps _ _ _ (T16.setTop (mkF m 51 #[.val (.ref a1), .val (.int p2), .val (.long q3), .second, .val (.int p4), .val (.ref a5), .val (.int p6)] [])) _
    refine XS.iconst X16.here hx rfl (hb hby d12_51) ?_
    show Steps _ _ _ (T16.setTop (mkF m 52 #[.val (.ref a1), .val (.int p2), .val (.long q3), .second, .val (.int p4), .val (.ref a5), .val (.int p6)] [(.int (0 : Int32))])) _
    exact retN X16 hx (t := .boolean) Bd.returns (by simp) (hb hby d12_52) hr
  · show Qv (some (.int (0 : Int32))) h0 n0 _ T16.heap _
    rw [e16]
    exact ⟨rfl, N14, e14.trans e7⟩
theorem d12_38 : decode prog_5_method_5_code 38 = .ok (.iload 6, 2) := by decide +kernel
theorem d12_40 : decode prog_5_method_5_code 40 = .ok (.aload_n 0, 1) := by decide +kernel
theorem d12_41 : decode prog_5_method_5_code 41 = .ok (.getfield 35, 3) := by decide +kernel
theorem d12_44 : decode prog_5_method_5_code 44 = .ok (.if_icmp .gt 7, 3) := by decide +kernel
theorem rm12_ffft (l : Launch) (Z : State) (a0 : Array Value) (hw : ∀ d ∈ tables_1, d.before a0 Z = true) (ws : List Jvm.Cond) (a1 : Addr) (p2 : Int32) (q3 : Int64) (p4 : Int32) (a5 : Addr) (p6 w8 : Int32) (w10 : Int64) (w12 : Int32) (w15 : Addr) (w17 : Int32) (h0 : Heap) (n0 : Nat) (Z0 : n0 ≤ h0.size) (F_waits_a1 : Fld Z h0 a1 own_s0 "waits" "Z" (.int (1 : Int32))) (F_took_a1 : Fld Z h0 a1 own_s0 "tookInPlace" "Z" (.int (0 : Int32))) (F_made_a1 : Fld Z h0 a1 own_s0 "made" "Lcom/example/cablegram/cablegram/engine/Receive;" .null) (E_a1 : Exa Z h0 a1 own_s0) (F_source_a1 : Fld Z h0 a1 own_s0 "source" "I" (.int w8)) (F_context_a1 : Fld Z h0 a1 own_s0 "context" "J" (.long w10)) (F_tag_a1 : Fld Z h0 a1 own_s0 "tag" "I" (.int w12)) (F_type_a1 : Fld Z h0 a1 own_s0 "type" "Lcom/example/cablegram/cablegram/engine/ElementType;" (.ref w15)) (F_count_a1 : Fld Z h0 a1 own_s0 "count" "I" (.int w17)) (ha35 : a5 = w15) (hc44 : w17 < p6) (hm : ¬ (own_match p2 q3 p4 w8 w10 w12) = 0) :
    MetFree l own_n10 (head1 (Jvm.Cond.code own_n10 prog_5_method_5_code 7 (some .boolean) :: ws) own_r2) (fun a U => a = #[(.ref a1), (.int p2), (.long q3), (.int p4), (.ref a5), (.int p6)] ∧ Z.Warmed39 U.vm ∧ U.heap = h0) (fun _ _ _ _ _ => True) (fun _ U o U' => ∃ v L, o = .returned v ∧ Qv (some (.int (0 : Int32))) h0 n0 v U'.heap L ∧ FrameEnd U o U' L own_r2.cells own_r2.slots) := by
  refine MetFree.of_bodySF (plainFor_of_name pn_12) hisR ?_
  intro p e s m args below meth c s₁ Bd hml0 hP hK
  obtain ⟨rfl, hZ, hh⟩ := hP
  have hx := Bd.exec
  have hby := Bd.bytes
  have hml : c.maxLocals = 7 := hml0
  have hown : s.vm.findClass own_s0 = some m.cls := findClass_of_methodNamed Bd.named
  have hnm := (name_of_methodNamed Bd.named Bd.method).1
  have X0 : Stand p l e own_r2 s m #[(.ref a1), (.int p2), (.long q3), (.int p4), (.ref a5), (.int p6)] below meth c s₁ [] 0 0 := Stand.of_body Bd
  have e0 : s₁.heap = h0 := by rw [← hh, Bd.state]; rfl
  have N0 := Fr.nil n0
  have pre0 : ∀ t, Steps p.tables e below (s₁.setTop (mkF m 0 #[.val (.ref a1), .val (.int p2), .val (.long q3), .second, .val (.int p4), .val (.ref a5), .val (.int p6)] [])) t → Steps p.tables e below (s₁.setTop (entryFrame m #[(.ref a1), (.int p2), (.long q3), (.int p4), (.ref a5), (.int p6)] 7)) t := fun t k => castTop (ef_12 m a1 p2 q3 p4 a5 p6) k
  obtain ⟨cq7, q7, q7'⟩ := E_a1.cell
  obtain ⟨_, _, ⟨T7, L7, k7, n7⟩, -, X7, ⟨Lc7, hQ7, l7, y7, z7⟩, st7⟩ := X0.privateBack hx (y := own_n7) hown (mvT hZ (own_w hw 76 rfl)) (mvT hZ (own_w hw 77 rfl)) (mvT hZ (Jvm.Kit.selects_private (n := 12) (by decide) (own_w hw 11 rfl) (own_w hw 78 rfl) (own_w hw 77 rfl))) (Cond.privateMethod_at (mvP hZ (own_w hw 78 rfl) (args := #[]))) (mvT hZ (own_w hw 79 rfl)) (by decide) (backOf (W := 0) (rm10 l Z a0 hw [] a1 (1 : Int32) (0 : Int32) h0 n0 Z0 F_waits_a1 F_took_a1 F_made_a1 (by decide) rfl) hZ (own_w hw 79 rfl) (own_w hw 12 rfl) (by decide) (by decide)) (g := (mkF m 1 #[.val (.ref a1), .val (.int p2), .val (.long q3), .second, .val (.int p4), .val (.ref a5), .val (.int p6)] [(.ref a1)])) rfl (by rw [hml]; rfl) (Steps.refl _) (a := a1) (by rw [e0]; exact q7) q7' (argsL := []) (rest := []) (lenOf pd_12_7 rfl) rfl (by show 2 * 0 + _ ≤ _; exact Nat.le_of_eq rfl) (hb hby d12_1) (fun _ _ => ⟨rfl, e0, (by decide : 0 + 0 ≤ _), (by decide : 0 + 0 ≤ _)⟩)
  dsimp only [Pt.U, Pt.locs, Pt.cells, Pt.slots] at X7 l7 y7 z7 st7 hQ7
  subst l7 y7 z7
  obtain ⟨rfl, N7q, e7⟩ := hQ7
  have N7 := Fr.app N0 N7q
  have Kc7 : Keep h0 T7.heap [] := own_kp e7
  obtain ⟨T9, X9, e9, st9⟩ := getF X7 hx hZ hown (host := "") (Or.inl (own_w hw 26 rfl)) Via.refl rfl (F_source_a1.keep Kc7 nin0) (g := (mkF m 12 #[.val (.ref a1), .val (.int p2), .val (.long q3), .second, .val (.int p4), .val (.ref a5), .val (.int p6)] [(.ref a1), (.int p4), (.long q3), (.int p2)])) rfl rfl (hb hby d12_12)
  obtain ⟨T11, X11, e11, st11⟩ := getF X9 hx hZ hown (host := "") (Or.inl (own_w hw 28 rfl)) Via.refl e9 (F_context_a1.keep Kc7 nin0) (g := (mkF m 16 #[.val (.ref a1), .val (.int p2), .val (.long q3), .second, .val (.int p4), .val (.ref a5), .val (.int p6)] [(.ref a1), (.int w8), (.int p4), (.long q3), (.int p2)])) rfl rfl (hb hby d12_16)
  obtain ⟨T13, X13, e13, st13⟩ := getF X11 hx hZ hown (host := "") (Or.inl (own_w hw 30 rfl)) Via.refl e11 (F_tag_a1.keep Kc7 nin0) (g := (mkF m 20 #[.val (.ref a1), .val (.int p2), .val (.long q3), .second, .val (.int p4), .val (.ref a5), .val (.int p6)] [(.ref a1), (.long w10), (.int w8), (.int p4), (.long q3), (.int p2)])) rfl rfl (hb hby d12_20)
  obtain ⟨_, _, ⟨T14, L14, k14, n14⟩, -, X14, ⟨Lc14, hQ14, l14, y14, z14⟩, st14⟩ := Jvm.LawKit.callS X13 hx (y := own_n9) hown (mvT hZ (own_w hw 89 rfl)) (mvT hZ (own_w hw 81 rfl)) (mvT hZ (own_w hw 82 rfl)) (mvT hZ (own_w hw 83 rfl)) (by decide) (backOf (W := 0) (rm11 l Z a0 hw [] p2 q3 p4 w8 w10 w12 T7.heap n0 (by rw [e7]; exact Z0)) hZ (own_w hw 83 rfl) (own_w hw 82 rfl) (by decide) (by decide)) (g := (mkF m 23 #[.val (.ref a1), .val (.int p2), .val (.long q3), .second, .val (.int p4), .val (.ref a5), .val (.int p6)] [(.int w12), (.long w10), (.int w8), (.int p4), (.long q3), (.int p2)])) rfl (by rw [hml]; rfl) (argsL := [(.int p2), (.long q3), (.int p4), (.int w8), (.long w10), (.int w12)]) (rest := []) (lenOf pd_12_8 rfl) rfl (by show 2 * 0 + _ ≤ _; exact Nat.le_of_eq rfl) (hb hby d12_23) (fun _ _ => ⟨rfl, e13, (by decide : 0 + 0 ≤ _), (by decide : 0 + 0 ≤ _)⟩)
  dsimp only [Pt.U, Pt.locs, Pt.cells, Pt.slots] at X14 l14 y14 z14 st14 hQ14
  subst l14 y14 z14
  obtain ⟨rfl, N14q, e14⟩ := hQ14
  have N14 := Fr.app N7 N14q
  have Kc14 : Keep T7.heap T14.heap [] := own_kp e14
  obtain ⟨T16, X16, e16, st16⟩ := getF X14 hx hZ hown (host := "") (Or.inl (own_w hw 32 rfl)) Via.refl rfl ((F_type_a1.keep Kc7 nin0).keep Kc14 nin0) (g := (mkF m 32 #[.val (.ref a1), .val (.int p2), .val (.long q3), .second, .val (.int p4), .val (.ref a5), .val (.int p6)] [(.ref a1), (.ref a5)])) rfl rfl (hb hby d12_32)
  obtain ⟨T18, X18, e18, st18⟩ := getF X16 hx hZ hown (host := "") (Or.inl (own_w hw 38 rfl)) Via.refl e16 ((F_count_a1.keep Kc7 nin0).keep Kc14 nin0) (g := (mkF m 41 #[.val (.ref a1), .val (.int p2), .val (.long q3), .second, .val (.int p4), .val (.ref a5), .val (.int p6)] [(.ref a1), (.int p6)])) rfl rfl (hb hby d12_41)
  obtain ⟨fs, hr, hrun, hended, hW, hsame⟩ := X18.leave (v := some (.int (0 : Int32))) (fun h => by rw [Bd.returns] at h; cases h)
  refine ⟨_, _, pre0 _ ?_, hrun, hended, _, _, rfl, ?_, ⟨_, rfl⟩, hW, hsame.mono (by decide) (by decide)⟩
  · show Steps _ _ _ (s₁.setTop (mkF m 0 #[.val (.ref a1), .val (.int p2), .val (.long q3), .second, .val (.int p4), .val (.ref a5), .val (.int p6)] [])) _
    refine XS.aloadN X0.here hx rfl (hb hby d12_0) rfl rfl ?_
    show Steps _ _ _ (s₁.setTop (mkF m 1 #[.val (.ref a1), .val (.int p2), .val (.long q3), .second, .val (.int p4), .val (.ref a5), .val (.int p6)] [(.ref a1)])) _
    refine st7.trans ?_
    show Steps _ _ _ (T7.setTop (mkF m 4 #[.val (.ref a1), .val (.int p2), .val (.long q3), .second, .val (.int p4), .val (.ref a5), .val (.int p6)] [(.int (1 : Int32))])) _
    refine XS.ifNo X7.here hx rfl (hb hby d12_4) rfl ((if0 _ _).trans (feq (by first | exact hm | decide : ¬ ((1 : Int32) = (0 : Int32)))).1) ?_
    show Steps _ _ _ (T7.setTop (mkF m 7 #[.val (.ref a1), .val (.int p2), .val (.long q3), .second, .val (.int p4), .val (.ref a5), .val (.int p6)] [])) _
    refine XS.iloadN X7.here hx rfl (hb hby d12_7) rfl ?_
    show Steps _ _ _ (T7.setTop (mkF m 8 #[.val (.ref a1), .val (.int p2), .val (.long q3), .second, .val (.int p4), .val (.ref a5), .val (.int p6)] [(.int p2)])) _
    refine XS.lloadN X7.here hx rfl (hb hby d12_8) rfl ?_
    show Steps _ _ _ (T7.setTop (mkF m 9 #[.val (.ref a1), .val (.int p2), .val (.long q3), .second, .val (.int p4), .val (.ref a5), .val (.int p6)] [(.long q3), (.int p2)])) _
    refine XS.iload X7.here hx rfl (hb hby d12_9) rfl ?_
    show Steps _ _ _ (T7.setTop (mkF m 11 #[.val (.ref a1), .val (.int p2), .val (.long q3), .second, .val (.int p4), .val (.ref a5), .val (.int p6)] [(.int p4), (.long q3), (.int p2)])) _
    refine XS.aloadN X7.here hx rfl (hb hby d12_11) rfl rfl ?_
    show Steps _ _ _ (T7.setTop (mkF m 12 #[.val (.ref a1), .val (.int p2), .val (.long q3), .second, .val (.int p4), .val (.ref a5), .val (.int p6)] [(.ref a1), (.int p4), (.long q3), (.int p2)])) _
    refine st9 _ ?_
    show Steps _ _ _ (T9.setTop (mkF m 15 #[.val (.ref a1), .val (.int p2), .val (.long q3), .second, .val (.int p4), .val (.ref a5), .val (.int p6)] [(.int w8), (.int p4), (.long q3), (.int p2)])) _
    refine XS.aloadN X9.here hx rfl (hb hby d12_15) rfl rfl ?_
    show Steps _ _ _ (T9.setTop (mkF m 16 #[.val (.ref a1), .val (.int p2), .val (.long q3), .second, .val (.int p4), .val (.ref a5), .val (.int p6)] [(.ref a1), (.int w8), (.int p4), (.long q3), (.int p2)])) _
    refine st11 _ ?_
    show Steps _ _ _ (T11.setTop (mkF m 19 #[.val (.ref a1), .val (.int p2), .val (.long q3), .second, .val (.int p4), .val (.ref a5), .val (.int p6)] [(.long w10), (.int w8), (.int p4), (.long q3), (.int p2)])) _
    refine XS.aloadN X11.here hx rfl (hb hby d12_19) rfl rfl ?_
    show Steps _ _ _ (T11.setTop (mkF m 20 #[.val (.ref a1), .val (.int p2), .val (.long q3), .second, .val (.int p4), .val (.ref a5), .val (.int p6)] [(.ref a1), (.long w10), (.int w8), (.int p4), (.long q3), (.int p2)])) _
    refine st13 _ ?_
    show Steps _ _ _ (T13.setTop (mkF m 23 #[.val (.ref a1), .val (.int p2), .val (.long q3), .second, .val (.int p4), .val (.ref a5), .val (.int p6)] [(.int w12), (.long w10), (.int w8), (.int p4), (.long q3), (.int p2)])) _
    refine st14 _ ?_
    show Steps _ _ _ (T14.setTop (mkF m 26 #[.val (.ref a1), .val (.int p2), .val (.long q3), .second, .val (.int p4), .val (.ref a5), .val (.int p6)] [(.int (own_match p2 q3 p4 w8 w10 w12))])) _
    refine XS.ifNo X14.here hx rfl (hb hby d12_26) rfl ((if0 _ _).trans (feq (by first | exact hm | decide : ¬ ((own_match p2 q3 p4 w8 w10 w12) = (0 : Int32)))).1) ?_
    show Steps _ _ _ (T14.setTop (mkF m 29 #[.val (.ref a1), .val (.int p2), .val (.long q3), .second, .val (.int p4), .val (.ref a5), .val (.int p6)] [])) _
    refine XS.aload X14.here hx rfl (hb hby d12_29) rfl rfl ?_
    show Steps _ _ _ (T14.setTop (mkF m 31 #[.val (.ref a1), .val (.int p2), .val (.long q3), .second, .val (.int p4), .val (.ref a5), .val (.int p6)] [(.ref a5)])) _
    refine XS.aloadN X14.here hx rfl (hb hby d12_31) rfl rfl ?_
    show Steps _ _ _ (T14.setTop (mkF m 32 #[.val (.ref a1), .val (.int p2), .val (.long q3), .second, .val (.int p4), .val (.ref a5), .val (.int p6)] [(.ref a1), (.ref a5)])) _
    refine st16 _ ?_
    show Steps _ _ _ (T16.setTop (mkF m 35 #[.val (.ref a1), .val (.int p2), .val (.long q3), .second, .val (.int p4), .val (.ref a5), .val (.int p6)] [(.ref w15), (.ref a5)])) _
    refine Jvm.RoadKit.acmp (g := (mkF m 35 #[.val (.ref a1), .val (.int p2), .val (.long q3), .second, .val (.int p4), .val (.ref a5), .val (.int p6)] [(.ref w15), (.ref a5)])) X16 hx rfl rfl rfl (pc0 := 35) (pc' := 38) (same := true) rfl (hb hby d12_35) rfl (decide_eq_true (congrArg Value.ref ha35)) (by decide) (by decide) ?_
    show Steps _ _ _ (T16.setTop (mkF m 38 #[.val (.ref a1), .val (.int p2), .val (.long q3), .second, .val (.int p4), .val (.ref a5), .val (.int p6)] [])) _
    refine XS.iload X16.here hx rfl (hb hby d12_38) rfl ?_
    show Steps _ _ _ (T16.setTop (mkF m 40 #[.val (.ref a1), .val (.int p2), .val (.long q3), .second, .val (.int p4), .val (.ref a5), .val (.int p6)] [(.int p6)])) _
    refine XS.aloadN X16.here hx rfl (hb hby d12_40) rfl rfl ?_
    show Steps _ _ _ (T16.setTop (mkF m 41 #[.val (.ref a1), .val (.int p2), .val (.long q3), .second, .val (.int p4), .val (.ref a5), .val (.int p6)] [(.ref a1), (.int p6)])) _
    refine st18 _ ?_
    show Steps _ _ _ (T18.setTop (mkF m 44 #[.val (.ref a1), .val (.int p2), .val (.long q3), .second, .val (.int p4), .val (.ref a5), .val (.int p6)] [(.int w17), (.int p6)])) _
    refine XS.icmpYes X18.here hx rfl (pc0 := 44) (pc' := 51) rfl (hb hby d12_44) rfl (tlt hc44).2.2.1 (by decide) (by decide) ?_
    show Steps _ _ _ (T18.setTop (mkF m 51 #[.val (.ref a1), .val (.int p2), .val (.long q3), .second, .val (.int p4), .val (.ref a5), .val (.int p6)] [])) _
    refine XS.iconst X18.here hx rfl (hb hby d12_51) ?_
    show Steps _ _ _ (T18.setTop (mkF m 52 #[.val (.ref a1), .val (.int p2), .val (.long q3), .second, .val (.int p4), .val (.ref a5), .val (.int p6)] [(.int (0 : Int32))])) _
    exact retN X18 hx (t := .boolean) Bd.returns (by simp) (hb hby d12_52) hr
  · show Qv (some (.int (0 : Int32))) h0 n0 _ T18.heap _
    rw [e18]
    exact ⟨rfl, N14, e14.trans e7⟩
theorem d12_47 : decode prog_5_method_5_code 47 = .ok (.iconst 1, 1) := by decide +kernel
theorem d12_48 : decode prog_5_method_5_code 48 = .ok (.goto 4, 3) := by decide +kernel
theorem rm12_ffff (l : Launch) (Z : State) (a0 : Array Value) (hw : ∀ d ∈ tables_1, d.before a0 Z = true) (ws : List Jvm.Cond) (a1 : Addr) (p2 : Int32) (q3 : Int64) (p4 : Int32) (a5 : Addr) (p6 w8 : Int32) (w10 : Int64) (w12 : Int32) (w15 : Addr) (w17 : Int32) (h0 : Heap) (n0 : Nat) (Z0 : n0 ≤ h0.size) (F_waits_a1 : Fld Z h0 a1 own_s0 "waits" "Z" (.int (1 : Int32))) (F_took_a1 : Fld Z h0 a1 own_s0 "tookInPlace" "Z" (.int (0 : Int32))) (F_made_a1 : Fld Z h0 a1 own_s0 "made" "Lcom/example/cablegram/cablegram/engine/Receive;" .null) (E_a1 : Exa Z h0 a1 own_s0) (F_source_a1 : Fld Z h0 a1 own_s0 "source" "I" (.int w8)) (F_context_a1 : Fld Z h0 a1 own_s0 "context" "J" (.long w10)) (F_tag_a1 : Fld Z h0 a1 own_s0 "tag" "I" (.int w12)) (F_type_a1 : Fld Z h0 a1 own_s0 "type" "Lcom/example/cablegram/cablegram/engine/ElementType;" (.ref w15)) (F_count_a1 : Fld Z h0 a1 own_s0 "count" "I" (.int w17)) (ha35 : a5 = w15) (hc44 : ¬ (w17 < p6)) (hm : ¬ (own_match p2 q3 p4 w8 w10 w12) = 0) :
    MetFree l own_n10 (head1 (Jvm.Cond.code own_n10 prog_5_method_5_code 7 (some .boolean) :: ws) own_r2) (fun a U => a = #[(.ref a1), (.int p2), (.long q3), (.int p4), (.ref a5), (.int p6)] ∧ Z.Warmed39 U.vm ∧ U.heap = h0) (fun _ _ _ _ _ => True) (fun _ U o U' => ∃ v L, o = .returned v ∧ Qv (some (.int (1 : Int32))) h0 n0 v U'.heap L ∧ FrameEnd U o U' L own_r2.cells own_r2.slots) := by
  refine MetFree.of_bodySF (plainFor_of_name pn_12) hisR ?_
  intro p e s m args below meth c s₁ Bd hml0 hP hK
  obtain ⟨rfl, hZ, hh⟩ := hP
  have hx := Bd.exec
  have hby := Bd.bytes
  have hml : c.maxLocals = 7 := hml0
  have hown : s.vm.findClass own_s0 = some m.cls := findClass_of_methodNamed Bd.named
  have hnm := (name_of_methodNamed Bd.named Bd.method).1
  have X0 : Stand p l e own_r2 s m #[(.ref a1), (.int p2), (.long q3), (.int p4), (.ref a5), (.int p6)] below meth c s₁ [] 0 0 := Stand.of_body Bd
  have e0 : s₁.heap = h0 := by rw [← hh, Bd.state]; rfl
  have N0 := Fr.nil n0
  have pre0 : ∀ t, Steps p.tables e below (s₁.setTop (mkF m 0 #[.val (.ref a1), .val (.int p2), .val (.long q3), .second, .val (.int p4), .val (.ref a5), .val (.int p6)] [])) t → Steps p.tables e below (s₁.setTop (entryFrame m #[(.ref a1), (.int p2), (.long q3), (.int p4), (.ref a5), (.int p6)] 7)) t := fun t k => castTop (ef_12 m a1 p2 q3 p4 a5 p6) k
  obtain ⟨cq7, q7, q7'⟩ := E_a1.cell
  obtain ⟨_, _, ⟨T7, L7, k7, n7⟩, -, X7, ⟨Lc7, hQ7, l7, y7, z7⟩, st7⟩ := X0.privateBack hx (y := own_n7) hown (mvT hZ (own_w hw 76 rfl)) (mvT hZ (own_w hw 77 rfl)) (mvT hZ (Jvm.Kit.selects_private (n := 12) (by decide) (own_w hw 11 rfl) (own_w hw 78 rfl) (own_w hw 77 rfl))) (Cond.privateMethod_at (mvP hZ (own_w hw 78 rfl) (args := #[]))) (mvT hZ (own_w hw 79 rfl)) (by decide) (backOf (W := 0) (rm10 l Z a0 hw [] a1 (1 : Int32) (0 : Int32) h0 n0 Z0 F_waits_a1 F_took_a1 F_made_a1 (by decide) rfl) hZ (own_w hw 79 rfl) (own_w hw 12 rfl) (by decide) (by decide)) (g := (mkF m 1 #[.val (.ref a1), .val (.int p2), .val (.long q3), .second, .val (.int p4), .val (.ref a5), .val (.int p6)] [(.ref a1)])) rfl (by rw [hml]; rfl) (Steps.refl _) (a := a1) (by rw [e0]; exact q7) q7' (argsL := []) (rest := []) (lenOf pd_12_7 rfl) rfl (by show 2 * 0 + _ ≤ _; exact Nat.le_of_eq rfl) (hb hby d12_1) (fun _ _ => ⟨rfl, e0, (by decide : 0 + 0 ≤ _), (by decide : 0 + 0 ≤ _)⟩)
  dsimp only [Pt.U, Pt.locs, Pt.cells, Pt.slots] at X7 l7 y7 z7 st7 hQ7
  subst l7 y7 z7
  obtain ⟨rfl, N7q, e7⟩ := hQ7
  have N7 := Fr.app N0 N7q
  have Kc7 : Keep h0 T7.heap [] := own_kp e7
  obtain ⟨T9, X9, e9, st9⟩ := getF X7 hx hZ hown (host := "") (Or.inl (own_w hw 26 rfl)) Via.refl rfl (F_source_a1.keep Kc7 nin0) (g := (mkF m 12 #[.val (.ref a1), .val (.int p2), .val (.long q3), .second, .val (.int p4), .val (.ref a5), .val (.int p6)] [(.ref a1), (.int p4), (.long q3), (.int p2)])) rfl rfl (hb hby d12_12)
  obtain ⟨T11, X11, e11, st11⟩ := getF X9 hx hZ hown (host := "") (Or.inl (own_w hw 28 rfl)) Via.refl e9 (F_context_a1.keep Kc7 nin0) (g := (mkF m 16 #[.val (.ref a1), .val (.int p2), .val (.long q3), .second, .val (.int p4), .val (.ref a5), .val (.int p6)] [(.ref a1), (.int w8), (.int p4), (.long q3), (.int p2)])) rfl rfl (hb hby d12_16)
  obtain ⟨T13, X13, e13, st13⟩ := getF X11 hx hZ hown (host := "") (Or.inl (own_w hw 30 rfl)) Via.refl e11 (F_tag_a1.keep Kc7 nin0) (g := (mkF m 20 #[.val (.ref a1), .val (.int p2), .val (.long q3), .second, .val (.int p4), .val (.ref a5), .val (.int p6)] [(.ref a1), (.long w10), (.int w8), (.int p4), (.long q3), (.int p2)])) rfl rfl (hb hby d12_20)
  obtain ⟨_, _, ⟨T14, L14, k14, n14⟩, -, X14, ⟨Lc14, hQ14, l14, y14, z14⟩, st14⟩ := Jvm.LawKit.callS X13 hx (y := own_n9) hown (mvT hZ (own_w hw 89 rfl)) (mvT hZ (own_w hw 81 rfl)) (mvT hZ (own_w hw 82 rfl)) (mvT hZ (own_w hw 83 rfl)) (by decide) (backOf (W := 0) (rm11 l Z a0 hw [] p2 q3 p4 w8 w10 w12 T7.heap n0 (by rw [e7]; exact Z0)) hZ (own_w hw 83 rfl) (own_w hw 82 rfl) (by decide) (by decide)) (g := (mkF m 23 #[.val (.ref a1), .val (.int p2), .val (.long q3), .second, .val (.int p4), .val (.ref a5), .val (.int p6)] [(.int w12), (.long w10), (.int w8), (.int p4), (.long q3), (.int p2)])) rfl (by rw [hml]; rfl) (argsL := [(.int p2), (.long q3), (.int p4), (.int w8), (.long w10), (.int w12)]) (rest := []) (lenOf pd_12_8 rfl) rfl (by show 2 * 0 + _ ≤ _; exact Nat.le_of_eq rfl) (hb hby d12_23) (fun _ _ => ⟨rfl, e13, (by decide : 0 + 0 ≤ _), (by decide : 0 + 0 ≤ _)⟩)
  dsimp only [Pt.U, Pt.locs, Pt.cells, Pt.slots] at X14 l14 y14 z14 st14 hQ14
  subst l14 y14 z14
  obtain ⟨rfl, N14q, e14⟩ := hQ14
  have N14 := Fr.app N7 N14q
  have Kc14 : Keep T7.heap T14.heap [] := own_kp e14
  obtain ⟨T16, X16, e16, st16⟩ := getF X14 hx hZ hown (host := "") (Or.inl (own_w hw 32 rfl)) Via.refl rfl ((F_type_a1.keep Kc7 nin0).keep Kc14 nin0) (g := (mkF m 32 #[.val (.ref a1), .val (.int p2), .val (.long q3), .second, .val (.int p4), .val (.ref a5), .val (.int p6)] [(.ref a1), (.ref a5)])) rfl rfl (hb hby d12_32)
  obtain ⟨T18, X18, e18, st18⟩ := getF X16 hx hZ hown (host := "") (Or.inl (own_w hw 38 rfl)) Via.refl e16 ((F_count_a1.keep Kc7 nin0).keep Kc14 nin0) (g := (mkF m 41 #[.val (.ref a1), .val (.int p2), .val (.long q3), .second, .val (.int p4), .val (.ref a5), .val (.int p6)] [(.ref a1), (.int p6)])) rfl rfl (hb hby d12_41)
  obtain ⟨fs, hr, hrun, hended, hW, hsame⟩ := X18.leave (v := some (.int (1 : Int32))) (fun h => by rw [Bd.returns] at h; cases h)
  refine ⟨_, _, pre0 _ ?_, hrun, hended, _, _, rfl, ?_, ⟨_, rfl⟩, hW, hsame.mono (by decide) (by decide)⟩
  · show Steps _ _ _ (s₁.setTop (mkF m 0 #[.val (.ref a1), .val (.int p2), .val (.long q3), .second, .val (.int p4), .val (.ref a5), .val (.int p6)] [])) _
    refine XS.aloadN X0.here hx rfl (hb hby d12_0) rfl rfl ?_
    show Steps _ _ _ (s₁.setTop (mkF m 1 #[.val (.ref a1), .val (.int p2), .val (.long q3), .second, .val (.int p4), .val (.ref a5), .val (.int p6)] [(.ref a1)])) _
    refine st7.trans ?_
    show Steps _ _ _ (T7.setTop (mkF m 4 #[.val (.ref a1), .val (.int p2), .val (.long q3), .second, .val (.int p4), .val (.ref a5), .val (.int p6)] [(.int (1 : Int32))])) _
    refine XS.ifNo X7.here hx rfl (hb hby d12_4) rfl ((if0 _ _).trans (feq (by first | exact hm | decide : ¬ ((1 : Int32) = (0 : Int32)))).1) ?_
    show Steps _ _ _ (T7.setTop (mkF m 7 #[.val (.ref a1), .val (.int p2), .val (.long q3), .second, .val (.int p4), .val (.ref a5), .val (.int p6)] [])) _
    refine XS.iloadN X7.here hx rfl (hb hby d12_7) rfl ?_
    show Steps _ _ _ (T7.setTop (mkF m 8 #[.val (.ref a1), .val (.int p2), .val (.long q3), .second, .val (.int p4), .val (.ref a5), .val (.int p6)] [(.int p2)])) _
    refine XS.lloadN X7.here hx rfl (hb hby d12_8) rfl ?_
    show Steps _ _ _ (T7.setTop (mkF m 9 #[.val (.ref a1), .val (.int p2), .val (.long q3), .second, .val (.int p4), .val (.ref a5), .val (.int p6)] [(.long q3), (.int p2)])) _
    refine XS.iload X7.here hx rfl (hb hby d12_9) rfl ?_
    show Steps _ _ _ (T7.setTop (mkF m 11 #[.val (.ref a1), .val (.int p2), .val (.long q3), .second, .val (.int p4), .val (.ref a5), .val (.int p6)] [(.int p4), (.long q3), (.int p2)])) _
    refine XS.aloadN X7.here hx rfl (hb hby d12_11) rfl rfl ?_
    show Steps _ _ _ (T7.setTop (mkF m 12 #[.val (.ref a1), .val (.int p2), .val (.long q3), .second, .val (.int p4), .val (.ref a5), .val (.int p6)] [(.ref a1), (.int p4), (.long q3), (.int p2)])) _
    refine st9 _ ?_
    show Steps _ _ _ (T9.setTop (mkF m 15 #[.val (.ref a1), .val (.int p2), .val (.long q3), .second, .val (.int p4), .val (.ref a5), .val (.int p6)] [(.int w8), (.int p4), (.long q3), (.int p2)])) _
    refine XS.aloadN X9.here hx rfl (hb hby d12_15) rfl rfl ?_
    show Steps _ _ _ (T9.setTop (mkF m 16 #[.val (.ref a1), .val (.int p2), .val (.long q3), .second, .val (.int p4), .val (.ref a5), .val (.int p6)] [(.ref a1), (.int w8), (.int p4), (.long q3), (.int p2)])) _
    refine st11 _ ?_
    show Steps _ _ _ (T11.setTop (mkF m 19 #[.val (.ref a1), .val (.int p2), .val (.long q3), .second, .val (.int p4), .val (.ref a5), .val (.int p6)] [(.long w10), (.int w8), (.int p4), (.long q3), (.int p2)])) _
    refine XS.aloadN X11.here hx rfl (hb hby d12_19) rfl rfl ?_
    show Steps _ _ _ (T11.setTop (mkF m 20 #[.val (.ref a1), .val (.int p2), .val (.long q3), .second, .val (.int p4), .val (.ref a5), .val (.int p6)] [(.ref a1), (.long w10), (.int w8), (.int p4), (.long q3), (.int p2)])) _
    refine st13 _ ?_
    show Steps _ _ _ (T13.setTop (mkF m 23 #[.val (.ref a1), .val (.int p2), .val (.long q3), .second, .val (.int p4), .val (.ref a5), .val (.int p6)] [(.int w12), (.long w10), (.int w8), (.int p4), (.long q3), (.int p2)])) _
    refine st14 _ ?_
    show Steps _ _ _ (T14.setTop (mkF m 26 #[.val (.ref a1), .val (.int p2), .val (.long q3), .second, .val (.int p4), .val (.ref a5), .val (.int p6)] [(.int (own_match p2 q3 p4 w8 w10 w12))])) _
    refine XS.ifNo X14.here hx rfl (hb hby d12_26) rfl ((if0 _ _).trans (feq (by first | exact hm | decide : ¬ ((own_match p2 q3 p4 w8 w10 w12) = (0 : Int32)))).1) ?_
    show Steps _ _ _ (T14.setTop (mkF m 29 #[.val (.ref a1), .val (.int p2), .val (.long q3), .second, .val (.int p4), .val (.ref a5), .val (.int p6)] [])) _
    refine XS.aload X14.here hx rfl (hb hby d12_29) rfl rfl ?_
    show Steps _ _ _ (T14.setTop (mkF m 31 #[.val (.ref a1), .val (.int p2), .val (.long q3), .second, .val (.int p4), .val (.ref a5), .val (.int p6)] [(.ref a5)])) _
    refine XS.aloadN X14.here hx rfl (hb hby d12_31) rfl rfl ?_
    show Steps _ _ _ (T14.setTop (mkF m 32 #[.val (.ref a1), .val (.int p2), .val (.long q3), .second, .val (.int p4), .val (.ref a5), .val (.int p6)] [(.ref a1), (.ref a5)])) _
    refine st16 _ ?_
    show Steps _ _ _ (T16.setTop (mkF m 35 #[.val (.ref a1), .val (.int p2), .val (.long q3), .second, .val (.int p4), .val (.ref a5), .val (.int p6)] [(.ref w15), (.ref a5)])) _
    refine Jvm.RoadKit.acmp (g := (mkF m 35 #[.val (.ref a1), .val (.int p2), .val (.long q3), .second, .val (.int p4), .val (.ref a5), .val (.int p6)] [(.ref w15), (.ref a5)])) X16 hx rfl rfl rfl (pc0 := 35) (pc' := 38) (same := true) rfl (hb hby d12_35) rfl (decide_eq_true (congrArg Value.ref ha35)) (by decide) (by decide) ?_
    show Steps _ _ _ (T16.setTop (mkF m 38 #[.val (.ref a1), .val (.int p2), .val (.long q3), .second, .val (.int p4), .val (.ref a5), .val (.int p6)] [])) _
    refine XS.iload X16.here hx rfl (hb hby d12_38) rfl ?_
    show Steps _ _ _ (T16.setTop (mkF m 40 #[.val (.ref a1), .val (.int p2), .val (.long q3), .second, .val (.int p4), .val (.ref a5), .val (.int p6)] [(.int p6)])) _
    refine XS.aloadN X16.here hx rfl (hb hby d12_40) rfl rfl ?_
    show Steps _ _ _ (T16.setTop (mkF m 41 #[.val (.ref a1), .val (.int p2), .val (.long q3), .second, .val (.int p4), .val (.ref a5), .val (.int p6)] [(.ref a1), (.int p6)])) _
    refine st18 _ ?_
    show Steps _ _ _ (T18.setTop (mkF m 44 #[.val (.ref a1), .val (.int p2), .val (.long q3), .second, .val (.int p4), .val (.ref a5), .val (.int p6)] [(.int w17), (.int p6)])) _
    refine XS.icmpNo X18.here hx rfl (hb hby d12_44) rfl (flt hc44).2.2.1 ?_
    show Steps _ _ _ (T18.setTop (mkF m 47 #[.val (.ref a1), .val (.int p2), .val (.long q3), .second, .val (.int p4), .val (.ref a5), .val (.int p6)] [])) _
    refine XS.iconst X18.here hx rfl (hb hby d12_47) ?_
    show Steps _ _ _ (T18.setTop (mkF m 48 #[.val (.ref a1), .val (.int p2), .val (.long q3), .second, .val (.int p4), .val (.ref a5), .val (.int p6)] [(.int (1 : Int32))])) _
    refine XS.goto X18.here hx rfl (pc0 := 48) (pc' := 52) rfl (hb hby d12_48) (by decide) (by decide) ?_
    show Steps _ _ _ (T18.setTop (mkF m 52 #[.val (.ref a1), .val (.int p2), .val (.long q3), .second, .val (.int p4), .val (.ref a5), .val (.int p6)] [(.int (1 : Int32))])) _
    exact retN X18 hx (t := .boolean) Bd.returns (by simp) (hb hby d12_52) hr
  · show Qv (some (.int (1 : Int32))) h0 n0 _ T18.heap _
    rw [e18]
    exact ⟨rfl, N14, e14.trans e7⟩
theorem rm12 (l : Launch) (Z : State) (a0 : Array Value) (hw : ∀ d ∈ tables_1, d.before a0 Z = true) (ws : List Jvm.Cond) (a1 : Addr) (p2 : Int32) (q3 : Int64) (p4 : Int32) (a5 : Addr) (p6 w8 : Int32) (w10 : Int64) (w12 : Int32) (w15 : Addr) (w17 : Int32) (h0 : Heap) (n0 : Nat) (Z0 : n0 ≤ h0.size) (F_waits_a1 : Fld Z h0 a1 own_s0 "waits" "Z" (.int (1 : Int32))) (F_took_a1 : Fld Z h0 a1 own_s0 "tookInPlace" "Z" (.int (0 : Int32))) (F_made_a1 : Fld Z h0 a1 own_s0 "made" "Lcom/example/cablegram/cablegram/engine/Receive;" .null) (E_a1 : Exa Z h0 a1 own_s0) (F_source_a1 : Fld Z h0 a1 own_s0 "source" "I" (.int w8)) (F_context_a1 : Fld Z h0 a1 own_s0 "context" "J" (.long w10)) (F_tag_a1 : Fld Z h0 a1 own_s0 "tag" "I" (.int w12)) (F_type_a1 : Fld Z h0 a1 own_s0 "type" "Lcom/example/cablegram/cablegram/engine/ElementType;" (.ref w15)) (F_count_a1 : Fld Z h0 a1 own_s0 "count" "I" (.int w17)) :
    MetFree l own_n10 (head1 (Jvm.Cond.code own_n10 prog_5_method_5_code 7 (some .boolean) :: ws) own_r2) (fun a U => a = #[(.ref a1), (.int p2), (.long q3), (.int p4), (.ref a5), (.int p6)] ∧ Z.Warmed39 U.vm ∧ U.heap = h0) (fun _ _ _ _ _ => True) (fun _ U o U' => ∃ v L, o = .returned v ∧ Qv (some (.int (own_take (own_match p2 q3 p4 w8 w10 w12) a5 w15 p6 w17))) h0 n0 v U'.heap L ∧ FrameEnd U o U' L own_r2.cells own_r2.slots) := by
  by_cases h1 : (own_match p2 q3 p4 w8 w10 w12) = 0
  · rw [show own_take (own_match p2 q3 p4 w8 w10 w12) a5 w15 p6 w17 = 0 from by unfold own_take; rw [if_pos h1]]
    exact rm12_ft l Z a0 hw ws a1 p2 q3 p4 a5 p6 w8 w10 w12 h0 n0 Z0 F_waits_a1 F_took_a1 F_made_a1 E_a1 F_source_a1 F_context_a1 F_tag_a1 h1
  by_cases h2 : a5 = w15
  · by_cases h3 : w17 < p6
    · rw [show own_take (own_match p2 q3 p4 w8 w10 w12) a5 w15 p6 w17 = 0 from by unfold own_take; rw [if_neg h1, if_pos h2, if_pos h3]]
      exact rm12_ffft l Z a0 hw ws a1 p2 q3 p4 a5 p6 w8 w10 w12 w15 w17 h0 n0 Z0 F_waits_a1 F_took_a1 F_made_a1 E_a1 F_source_a1 F_context_a1 F_tag_a1 F_type_a1 F_count_a1 h2 h3 h1
    · rw [show own_take (own_match p2 q3 p4 w8 w10 w12) a5 w15 p6 w17 = 1 from by unfold own_take; rw [if_neg h1, if_pos h2, if_neg h3]]
      exact rm12_ffff l Z a0 hw ws a1 p2 q3 p4 a5 p6 w8 w10 w12 w15 w17 h0 n0 Z0 F_waits_a1 F_took_a1 F_made_a1 E_a1 F_source_a1 F_context_a1 F_tag_a1 F_type_a1 F_count_a1 h2 h3 h1
  · rw [show own_take (own_match p2 q3 p4 w8 w10 w12) a5 w15 p6 w17 = 0 from by unfold own_take; rw [if_neg h1, if_neg h2]]
    exact rm12_fft l Z a0 hw ws a1 p2 q3 p4 a5 p6 w8 w10 w12 w15 h0 n0 Z0 F_waits_a1 F_took_a1 F_made_a1 E_a1 F_source_a1 F_context_a1 F_tag_a1 F_type_a1 h2 h1
def own_ask (p w : Int32) : Int32 := if p = w then 0 else 1
def Qa (Z : State) (val : Option Value) (a1 : Addr) (p2 : Int32) (v0 v1 v2 v3 v4 v5 v6 v7 v9 v10 v11 : Value) (h0 : Heap) (n0 : Nat) (v : Option Value) (h : Heap) (L : List Loc) : Prop := v = val ∧ Fr n0 L ∧ Keep h0 h [a1] ∧ Br Z h a1 v0 v1 v2 v3 v4 v5 v6 v7 (.int p2) v9 v10 v11
theorem d13_0 : decode prog_5_method_14_code 0 = .ok (.iload_n 1, 1) := by decide +kernel
theorem d13_1 : decode prog_5_method_14_code 1 = .ok (.aload_n 0, 1) := by decide +kernel
theorem d13_2 : decode prog_5_method_14_code 2 = .ok (.getfield 38, 3) := by decide +kernel
theorem d13_5 : decode prog_5_method_14_code 5 = .ok (.if_icmp .eq 7, 3) := by decide +kernel
theorem d13_8 : decode prog_5_method_14_code 8 = .ok (.iconst 1, 1) := by decide +kernel
theorem d13_9 : decode prog_5_method_14_code 9 = .ok (.goto 4, 3) := by decide +kernel
theorem d13_13 : decode prog_5_method_14_code 13 = .ok (.istore_n 2, 1) := by decide +kernel
theorem d13_14 : decode prog_5_method_14_code 14 = .ok (.aload_n 0, 1) := by decide +kernel
theorem d13_15 : decode prog_5_method_14_code 15 = .ok (.iload_n 1, 1) := by decide +kernel
theorem d13_16 : decode prog_5_method_14_code 16 = .ok (.putfield 38, 3) := by decide +kernel
theorem d13_19 : decode prog_5_method_14_code 19 = .ok (.iload_n 2, 1) := by decide +kernel
theorem d13_20 : decode prog_5_method_14_code 20 = .ok (.ireturn, 1) := by decide +kernel
theorem pn_13 : plainName own_s0 = true := by first | (simp [plainName, overriddenIn]; done) | decide +kernel
theorem ef_13 (m : MethodId) (x0 : Addr) (x1 : Int32) : entryFrame m #[(.ref x0), (.int x1)] 3 = mkF m 0 #[.val (.ref x0), .val (.int x1), .unset] [] := by first | (simp [entryFrame, mkF, argsToLocals, Value.category]; done) | rfl
theorem rm13_f (l : Launch) (Z : State) (a0 : Array Value) (hw : ∀ d ∈ tables_1, d.before a0 Z = true) (ws : List Jvm.Cond) (a1 : Addr) (p2 w3 : Int32) (h0 : Heap) (n0 : Nat) (Z0 : n0 ≤ h0.size) (v0 v1 v2 v3 v4 v5 v6 v7 v9 v10 v11 : Value) (B : Br Z h0 a1 v0 v1 v2 v3 v4 v5 v6 v7 (.int w3) v9 v10 v11) (F_endedWhenAsked_a1 : Fld Z h0 a1 own_s0 "endedWhenAsked" "I" (.int w3)) (E_a1 : Exa Z h0 a1 own_s0) (g_a1 : n0 ≤ a1) (hc5 : ¬ (p2 = w3)) :
    MetFree l own_n11 (head1 (Jvm.Cond.code own_n11 prog_5_method_14_code 3 (some .boolean) :: ws) own_r1) (fun a U => a = #[(.ref a1), (.int p2)] ∧ Z.Warmed39 U.vm ∧ U.heap = h0) (fun _ _ _ _ _ => True) (fun _ U o U' => ∃ v L, o = .returned v ∧ Qa Z (some (.int (1 : Int32))) a1 p2 v0 v1 v2 v3 v4 v5 v6 v7 v9 v10 v11 h0 n0 v U'.heap L ∧ FrameEnd U o U' L own_r1.cells own_r1.slots) := by
  refine MetFree.of_bodySF (plainFor_of_name pn_13) hisR ?_
  intro p e s m args below meth c s₁ Bd hml0 hP hK
  obtain ⟨rfl, hZ, hh⟩ := hP
  have hx := Bd.exec
  have hby := Bd.bytes
  have hml : c.maxLocals = 3 := hml0
  have hown : s.vm.findClass own_s0 = some m.cls := findClass_of_methodNamed Bd.named
  have hnm := (name_of_methodNamed Bd.named Bd.method).1
  have X0 : Stand p l e own_r1 s m #[(.ref a1), (.int p2)] below meth c s₁ [] 0 0 := Stand.of_body Bd
  have e0 : s₁.heap = h0 := by rw [← hh, Bd.state]; rfl
  have N0 := Fr.nil n0
  have pre0 : ∀ t, Steps p.tables e below (s₁.setTop (mkF m 0 #[.val (.ref a1), .val (.int p2), .unset] [])) t → Steps p.tables e below (s₁.setTop (entryFrame m #[(.ref a1), (.int p2)] 3)) t := fun t k => castTop (ef_13 m a1 p2) k
  obtain ⟨T4, X4, e4, st4⟩ := getF X0 hx hZ hown (host := "") (Or.inl (own_w hw 40 rfl)) Via.refl e0 F_endedWhenAsked_a1 (g := (mkF m 2 #[.val (.ref a1), .val (.int p2), .unset] [(.ref a1), (.int p2)])) rfl rfl (hb hby d13_2)
  obtain ⟨T5, h5, X5, e5, W5, st5⟩ := putF X4 hx hZ hown (host := "") (Or.inl (own_w hw 40 rfl)) Via.refl e4 F_endedWhenAsked_a1 E_a1 (Or.inl (own_w hw 41 rfl)) (own_w hw 11 rfl) (ty := .int) (by decide) rfl rfl (g := (mkF m 16 #[.val (.ref a1), .val (.int p2), .val (.int (1 : Int32))] [(.int p2), (.ref a1)])) rfl rfl (hb hby d13_16)
  have Fw5 := F_endedWhenAsked_a1.same W5
  have K5 : Keep h0 h5 [a1] := (Keep.refl h0 [a1]).wr W5 (Or.inl (List.mem_of_getElem? (i := 0) rfl))
  have N5 := Fr.snoc X5 N0 g_a1
  obtain ⟨fs, hr, hrun, hended, hW, hsame⟩ := X5.leave (v := some (.int (1 : Int32))) (fun h => by rw [Bd.returns] at h; cases h)
  refine ⟨_, _, pre0 _ ?_, hrun, hended, _, _, rfl, ?_, ⟨_, rfl⟩, hW, hsame.mono (by decide) (by decide)⟩
  · show Steps _ _ _ (s₁.setTop (mkF m 0 #[.val (.ref a1), .val (.int p2), .unset] [])) _
    refine XS.iloadN X0.here hx rfl (hb hby d13_0) rfl ?_
    show Steps _ _ _ (s₁.setTop (mkF m 1 #[.val (.ref a1), .val (.int p2), .unset] [(.int p2)])) _
    refine XS.aloadN X0.here hx rfl (hb hby d13_1) rfl rfl ?_
    show Steps _ _ _ (s₁.setTop (mkF m 2 #[.val (.ref a1), .val (.int p2), .unset] [(.ref a1), (.int p2)])) _
    refine st4 _ ?_
    show Steps _ _ _ (T4.setTop (mkF m 5 #[.val (.ref a1), .val (.int p2), .unset] [(.int w3), (.int p2)])) _
    refine XS.icmpNo X4.here hx rfl (hb hby d13_5) rfl (feq hc5).1 ?_
    show Steps _ _ _ (T4.setTop (mkF m 8 #[.val (.ref a1), .val (.int p2), .unset] [])) _
    refine XS.iconst X4.here hx rfl (hb hby d13_8) ?_
    show Steps _ _ _ (T4.setTop (mkF m 9 #[.val (.ref a1), .val (.int p2), .unset] [(.int (1 : Int32))])) _
    refine XS.goto X4.here hx rfl (pc0 := 9) (pc' := 13) rfl (hb hby d13_9) (by decide) (by decide) ?_
    show Steps _ _ _ (T4.setTop (mkF m 13 #[.val (.ref a1), .val (.int p2), .unset] [(.int (1 : Int32))])) _
    refine XS.istoreN X4.here hx rfl (hb hby d13_13) rfl (l' := #[.val (.ref a1), .val (.int p2), .val (.int (1 : Int32))]) rfl ?_
    show Steps _ _ _ (T4.setTop (mkF m 14 #[.val (.ref a1), .val (.int p2), .val (.int (1 : Int32))] [])) _
    refine XS.aloadN X4.here hx rfl (hb hby d13_14) rfl rfl ?_
    show Steps _ _ _ (T4.setTop (mkF m 15 #[.val (.ref a1), .val (.int p2), .val (.int (1 : Int32))] [(.ref a1)])) _
    refine XS.iloadN X4.here hx rfl (hb hby d13_15) rfl ?_
    show Steps _ _ _ (T4.setTop (mkF m 16 #[.val (.ref a1), .val (.int p2), .val (.int (1 : Int32))] [(.int p2), (.ref a1)])) _
    refine st5 _ ?_
    show Steps _ _ _ (T5.setTop (mkF m 19 #[.val (.ref a1), .val (.int p2), .val (.int (1 : Int32))] [])) _
    refine XS.iloadN X5.here hx rfl (hb hby d13_19) rfl ?_
    show Steps _ _ _ (T5.setTop (mkF m 20 #[.val (.ref a1), .val (.int p2), .val (.int (1 : Int32))] [(.int (1 : Int32))])) _
    exact retN X5 hx (t := .boolean) Bd.returns (by simp) (hb hby d13_20) hr
  · show Qa Z (some (.int (1 : Int32))) a1 p2 v0 v1 v2 v3 v4 v5 v6 v7 v9 v10 v11 h0 n0 _ T5.heap _
    rw [e5]
    exact ⟨rfl, N5, K5, own_put8 hw B W5⟩
theorem d13_12 : decode prog_5_method_14_code 12 = .ok (.iconst 0, 1) := by decide +kernel
theorem rm13_t (l : Launch) (Z : State) (a0 : Array Value) (hw : ∀ d ∈ tables_1, d.before a0 Z = true) (ws : List Jvm.Cond) (a1 : Addr) (p2 w3 : Int32) (h0 : Heap) (n0 : Nat) (Z0 : n0 ≤ h0.size) (v0 v1 v2 v3 v4 v5 v6 v7 v9 v10 v11 : Value) (B : Br Z h0 a1 v0 v1 v2 v3 v4 v5 v6 v7 (.int w3) v9 v10 v11) (F_endedWhenAsked_a1 : Fld Z h0 a1 own_s0 "endedWhenAsked" "I" (.int w3)) (E_a1 : Exa Z h0 a1 own_s0) (g_a1 : n0 ≤ a1) (hc5 : p2 = w3) :
    MetFree l own_n11 (head1 (Jvm.Cond.code own_n11 prog_5_method_14_code 3 (some .boolean) :: ws) own_r1) (fun a U => a = #[(.ref a1), (.int p2)] ∧ Z.Warmed39 U.vm ∧ U.heap = h0) (fun _ _ _ _ _ => True) (fun _ U o U' => ∃ v L, o = .returned v ∧ Qa Z (some (.int (0 : Int32))) a1 p2 v0 v1 v2 v3 v4 v5 v6 v7 v9 v10 v11 h0 n0 v U'.heap L ∧ FrameEnd U o U' L own_r1.cells own_r1.slots) := by
  refine MetFree.of_bodySF (plainFor_of_name pn_13) hisR ?_
  intro p e s m args below meth c s₁ Bd hml0 hP hK
  obtain ⟨rfl, hZ, hh⟩ := hP
  have hx := Bd.exec
  have hby := Bd.bytes
  have hml : c.maxLocals = 3 := hml0
  have hown : s.vm.findClass own_s0 = some m.cls := findClass_of_methodNamed Bd.named
  have hnm := (name_of_methodNamed Bd.named Bd.method).1
  have X0 : Stand p l e own_r1 s m #[(.ref a1), (.int p2)] below meth c s₁ [] 0 0 := Stand.of_body Bd
  have e0 : s₁.heap = h0 := by rw [← hh, Bd.state]; rfl
  have N0 := Fr.nil n0
  have pre0 : ∀ t, Steps p.tables e below (s₁.setTop (mkF m 0 #[.val (.ref a1), .val (.int p2), .unset] [])) t → Steps p.tables e below (s₁.setTop (entryFrame m #[(.ref a1), (.int p2)] 3)) t := fun t k => castTop (ef_13 m a1 p2) k
  obtain ⟨T4, X4, e4, st4⟩ := getF X0 hx hZ hown (host := "") (Or.inl (own_w hw 40 rfl)) Via.refl e0 F_endedWhenAsked_a1 (g := (mkF m 2 #[.val (.ref a1), .val (.int p2), .unset] [(.ref a1), (.int p2)])) rfl rfl (hb hby d13_2)
  obtain ⟨T5, h5, X5, e5, W5, st5⟩ := putF X4 hx hZ hown (host := "") (Or.inl (own_w hw 40 rfl)) Via.refl e4 F_endedWhenAsked_a1 E_a1 (Or.inl (own_w hw 41 rfl)) (own_w hw 11 rfl) (ty := .int) (by decide) rfl rfl (g := (mkF m 16 #[.val (.ref a1), .val (.int p2), .val (.int (0 : Int32))] [(.int p2), (.ref a1)])) rfl rfl (hb hby d13_16)
  have Fw5 := F_endedWhenAsked_a1.same W5
  have K5 : Keep h0 h5 [a1] := (Keep.refl h0 [a1]).wr W5 (Or.inl (List.mem_of_getElem? (i := 0) rfl))
  have N5 := Fr.snoc X5 N0 g_a1
  obtain ⟨fs, hr, hrun, hended, hW, hsame⟩ := X5.leave (v := some (.int (0 : Int32))) (fun h => by rw [Bd.returns] at h; cases h)
  refine ⟨_, _, pre0 _ ?_, hrun, hended, _, _, rfl, ?_, ⟨_, rfl⟩, hW, hsame.mono (by decide) (by decide)⟩
  · show Steps _ _ _ (s₁.setTop (mkF m 0 #[.val (.ref a1), .val (.int p2), .unset] [])) _
    refine XS.iloadN X0.here hx rfl (hb hby d13_0) rfl ?_
    show Steps _ _ _ (s₁.setTop (mkF m 1 #[.val (.ref a1), .val (.int p2), .unset] [(.int p2)])) _
    refine XS.aloadN X0.here hx rfl (hb hby d13_1) rfl rfl ?_
    show Steps _ _ _ (s₁.setTop (mkF m 2 #[.val (.ref a1), .val (.int p2), .unset] [(.ref a1), (.int p2)])) _
    refine st4 _ ?_
    show Steps _ _ _ (T4.setTop (mkF m 5 #[.val (.ref a1), .val (.int p2), .unset] [(.int w3), (.int p2)])) _
    refine XS.icmpYes X4.here hx rfl (pc0 := 5) (pc' := 12) rfl (hb hby d13_5) rfl (teq hc5).1 (by decide) (by decide) ?_
    show Steps _ _ _ (T4.setTop (mkF m 12 #[.val (.ref a1), .val (.int p2), .unset] [])) _
    refine XS.iconst X4.here hx rfl (hb hby d13_12) ?_
    show Steps _ _ _ (T4.setTop (mkF m 13 #[.val (.ref a1), .val (.int p2), .unset] [(.int (0 : Int32))])) _
    refine XS.istoreN X4.here hx rfl (hb hby d13_13) rfl (l' := #[.val (.ref a1), .val (.int p2), .val (.int (0 : Int32))]) rfl ?_
    show Steps _ _ _ (T4.setTop (mkF m 14 #[.val (.ref a1), .val (.int p2), .val (.int (0 : Int32))] [])) _
    refine XS.aloadN X4.here hx rfl (hb hby d13_14) rfl rfl ?_
    show Steps _ _ _ (T4.setTop (mkF m 15 #[.val (.ref a1), .val (.int p2), .val (.int (0 : Int32))] [(.ref a1)])) _
    refine XS.iloadN X4.here hx rfl (hb hby d13_15) rfl ?_
    show Steps _ _ _ (T4.setTop (mkF m 16 #[.val (.ref a1), .val (.int p2), .val (.int (0 : Int32))] [(.int p2), (.ref a1)])) _
    refine st5 _ ?_
    show Steps _ _ _ (T5.setTop (mkF m 19 #[.val (.ref a1), .val (.int p2), .val (.int (0 : Int32))] [])) _
    refine XS.iloadN X5.here hx rfl (hb hby d13_19) rfl ?_
    show Steps _ _ _ (T5.setTop (mkF m 20 #[.val (.ref a1), .val (.int p2), .val (.int (0 : Int32))] [(.int (0 : Int32))])) _
    exact retN X5 hx (t := .boolean) Bd.returns (by simp) (hb hby d13_20) hr
  · show Qa Z (some (.int (0 : Int32))) a1 p2 v0 v1 v2 v3 v4 v5 v6 v7 v9 v10 v11 h0 n0 _ T5.heap _
    rw [e5]
    exact ⟨rfl, N5, K5, own_put8 hw B W5⟩
theorem rm13 (l : Launch) (Z : State) (a0 : Array Value) (hw : ∀ d ∈ tables_1, d.before a0 Z = true) (ws : List Jvm.Cond) (a1 : Addr) (p2 w3 : Int32) (h0 : Heap) (n0 : Nat) (Z0 : n0 ≤ h0.size) (v0 v1 v2 v3 v4 v5 v6 v7 v9 v10 v11 : Value) (B : Br Z h0 a1 v0 v1 v2 v3 v4 v5 v6 v7 (.int w3) v9 v10 v11) (g : n0 ≤ a1) :
    MetFree l own_n11 (head1 (Jvm.Cond.code own_n11 prog_5_method_14_code 3 (some .boolean) :: ws) own_r1) (fun a U => a = #[(.ref a1), (.int p2)] ∧ Z.Warmed39 U.vm ∧ U.heap = h0) (fun _ _ _ _ _ => True) (fun _ U o U' => ∃ v L, o = .returned v ∧ Qa Z (some (.int (own_ask p2 w3))) a1 p2 v0 v1 v2 v3 v4 v5 v6 v7 v9 v10 v11 h0 n0 v U'.heap L ∧ FrameEnd U o U' L own_r1.cells own_r1.slots) := by
  have F := B.2.2.2.2.2.2.2.2.2.1
  by_cases h : p2 = w3
  · rw [show own_ask p2 w3 = 0 from by unfold own_ask; rw [if_pos h]]
    exact rm13_t l Z a0 hw ws a1 p2 w3 h0 n0 Z0 v0 v1 v2 v3 v4 v5 v6 v7 v9 v10 v11 B F B.1 g h
  · rw [show own_ask p2 w3 = 1 from by unfold own_ask; rw [if_neg h]]
    exact rm13_f l Z a0 hw ws a1 p2 w3 h0 n0 Z0 v0 v1 v2 v3 v4 v5 v6 v7 v9 v10 v11 B F B.1 g h
def Qk (a1 : Addr) (h0 : Heap) (n0 : Nat) (v : Option Value) (h : Heap) (L : List Loc) : Prop := v = none ∧ Fr n0 L ∧ Keep h0 h [a1]
def Qw (Z : State) (a1 : Addr) (h0 : Heap) (n0 : Nat) (v : Option Value) (h : Heap) (L : List Loc) : Prop := v = none ∧ Fr n0 L ∧ Wr h0 h a1 (Jvm.RoadKit.slotOf Z "com/example/cablegram/cablegram/engine/Operation" "order" "Lcom/example/cablegram/cablegram/engine/CompletionOrder;") .null
theorem d16_0 : decode prog_76_method_1_code 0 = .ok (.aload_n 0, 1) := by decide +kernel
theorem d16_1 : decode prog_76_method_1_code 1 = .ok (.invokespecial 1, 3) := by decide +kernel
theorem d16_4 : decode prog_76_method_1_code 4 = .ok (.aload_n 0, 1) := by decide +kernel
theorem d16_5 : decode prog_76_method_1_code 5 = .ok (.aload_n 1, 1) := by decide +kernel
theorem d16_6 : decode prog_76_method_1_code 6 = .ok (.putfield 7, 3) := by decide +kernel
theorem d16_9 : decode prog_76_method_1_code 9 = .ok (.return_, 1) := by decide +kernel
theorem pn_16 : plainName "com/example/cablegram/cablegram/engine/Operation" = true := by first | (simp [plainName, overriddenIn]; done) | decide +kernel
theorem ef_16 (m : MethodId) (x0 : Addr) : entryFrame m #[(.ref x0), .null] 2 = mkF m 0 #[.val (.ref x0), .val .null] [] := by first | (simp [entryFrame, mkF, argsToLocals, Value.category]; done) | rfl
theorem rm16 (l : Launch) (Z : State) (a0 : Array Value) (hw : ∀ d ∈ tables_1, d.before a0 Z = true) (ws : List Jvm.Cond) (a1 : Addr) (u_order_a1 : Value) (h0 : Heap) (n0 : Nat) (Z0 : n0 ≤ h0.size) (E_a1 : Exa Z h0 a1 "com/example/cablegram/cablegram/engine/Receive") (F_order_a1 : Fld Z h0 a1 "com/example/cablegram/cablegram/engine/Operation" "order" "Lcom/example/cablegram/cablegram/engine/CompletionOrder;" u_order_a1) (g_a1 : n0 ≤ a1) :
    MetFree l own_n12 (head1 (Jvm.Cond.code own_n12 prog_76_method_1_code 2 none :: ws) own_r0) (fun a U => a = #[(.ref a1), .null] ∧ Z.Warmed39 U.vm ∧ U.heap = h0) (fun _ _ _ _ _ => True) (fun _ U o U' => ∃ v L, o = .returned v ∧ Qw Z a1 h0 n0 v U'.heap L ∧ FrameEnd U o U' L own_r0.cells own_r0.slots) := by
  refine MetFree.of_bodySF (plainFor_of_name pn_16) hisR ?_
  intro p e s m args below meth c s₁ Bd hml0 hP hK
  obtain ⟨rfl, hZ, hh⟩ := hP
  have hx := Bd.exec
  have hby := Bd.bytes
  have hml : c.maxLocals = 2 := hml0
  have hown : s.vm.findClass "com/example/cablegram/cablegram/engine/Operation" = some m.cls := findClass_of_methodNamed Bd.named
  have hnm := (name_of_methodNamed Bd.named Bd.method).1
  have X0 : Stand p l e own_r0 s m #[(.ref a1), .null] below meth c s₁ [] 0 0 := Stand.of_body Bd
  have e0 : s₁.heap = h0 := by rw [← hh, Bd.state]; rfl
  have N0 := Fr.nil n0
  have pre0 : ∀ t, Steps p.tables e below (s₁.setTop (mkF m 0 #[.val (.ref a1), .val .null] [])) t → Steps p.tables e below (s₁.setTop (entryFrame m #[(.ref a1), .null] 2)) t := fun t k => castTop (ef_16 m a1) k
  obtain ⟨T2, X2, e2, st2⟩ := initO X0 hx hZ hown (own_w hw 111 rfl) (own_w hw 17 rfl) (own_w hw 18 rfl) e0 (g := (mkF m 1 #[.val (.ref a1), .val .null] [(.ref a1)])) rfl (by rw [hml]; rfl) rfl (hb hby d16_1) (by decide) (W := 0) (by show 2 * 0 + _ ≤ _; exact Nat.le_of_eq rfl) (by decide)
  obtain ⟨T3, h3, X3, e3, W3, st3⟩ := putF X2 hx hZ hown (host := "") (Or.inl (own_w hw 112 rfl)) Via.refl e2 F_order_a1 E_a1 (Or.inr ⟨(own_w hw 113 rfl), rfl, hnm⟩) (own_w hw 101 rfl) (ty := (.object "com/example/cablegram/cablegram/engine/CompletionOrder")) (by decide) rfl rfl (g := (mkF m 6 #[.val (.ref a1), .val .null] [.null, (.ref a1)])) rfl rfl (hb hby d16_6)
  have Fw3 := F_order_a1.same W3
  have K3 : Keep h0 h3 [a1] := (Keep.refl h0 [a1]).wr W3 (Or.inl (List.mem_of_getElem? (i := 0) rfl))
  have N3 := Fr.snoc X3 N0 g_a1
  obtain ⟨fs, hr, hrun, hended, hW, hsame⟩ := X3.leave (v := none) (fun _ => rfl)
  refine ⟨_, _, pre0 _ ?_, hrun, hended, _, _, rfl, ?_, ⟨_, rfl⟩, hW, hsame.mono (by decide) (by decide)⟩
  · show Steps _ _ _ (s₁.setTop (mkF m 0 #[.val (.ref a1), .val .null] [])) _
    refine XS.aloadN X0.here hx rfl (hb hby d16_0) rfl rfl ?_
    show Steps _ _ _ (s₁.setTop (mkF m 1 #[.val (.ref a1), .val .null] [(.ref a1)])) _
    refine st2 _ ?_
    show Steps _ _ _ (T2.setTop (mkF m 4 #[.val (.ref a1), .val .null] [])) _
    refine XS.aloadN X2.here hx rfl (hb hby d16_4) rfl rfl ?_
    show Steps _ _ _ (T2.setTop (mkF m 5 #[.val (.ref a1), .val .null] [(.ref a1)])) _
    refine XS.aloadN X2.here hx rfl (hb hby d16_5) rfl rfl ?_
    show Steps _ _ _ (T2.setTop (mkF m 6 #[.val (.ref a1), .val .null] [.null, (.ref a1)])) _
    refine st3 _ ?_
    show Steps _ _ _ (T3.setTop (mkF m 9 #[.val (.ref a1), .val .null] [])) _
    exact X3.returnOut hx Bd.returns (hb hby d16_9) hr
  · show Qw Z a1 h0 n0 _ T3.heap _
    rw [e3]
    exact ⟨rfl, N3, W3⟩
theorem d15_0 : decode prog_82_method_1_code 0 = .ok (.aload_n 0, 1) := by decide +kernel
theorem d15_1 : decode prog_82_method_1_code 1 = .ok (.aload_n 1, 1) := by decide +kernel
theorem d15_2 : decode prog_82_method_1_code 2 = .ok (.invokespecial 1, 3) := by decide +kernel
theorem d15_5 : decode prog_82_method_1_code 5 = .ok (.aload_n 0, 1) := by decide +kernel
theorem d15_6 : decode prog_82_method_1_code 6 = .ok (.iload_n 2, 1) := by decide +kernel
theorem d15_7 : decode prog_82_method_1_code 7 = .ok (.putfield 7, 3) := by decide +kernel
theorem d15_10 : decode prog_82_method_1_code 10 = .ok (.aload_n 0, 1) := by decide +kernel
theorem d15_11 : decode prog_82_method_1_code 11 = .ok (.lload_n 3, 1) := by decide +kernel
theorem d15_12 : decode prog_82_method_1_code 12 = .ok (.putfield 13, 3) := by decide +kernel
theorem d15_15 : decode prog_82_method_1_code 15 = .ok (.aload_n 0, 1) := by decide +kernel
theorem d15_16 : decode prog_82_method_1_code 16 = .ok (.iload 5, 2) := by decide +kernel
theorem d15_18 : decode prog_82_method_1_code 18 = .ok (.putfield 17, 3) := by decide +kernel
theorem d15_21 : decode prog_82_method_1_code 21 = .ok (.aload_n 0, 1) := by decide +kernel
theorem d15_22 : decode prog_82_method_1_code 22 = .ok (.aload 6, 2) := by decide +kernel
theorem d15_24 : decode prog_82_method_1_code 24 = .ok (.putfield 20, 3) := by decide +kernel
theorem d15_27 : decode prog_82_method_1_code 27 = .ok (.aload_n 0, 1) := by decide +kernel
theorem d15_28 : decode prog_82_method_1_code 28 = .ok (.aload 7, 2) := by decide +kernel
theorem d15_30 : decode prog_82_method_1_code 30 = .ok (.putfield 24, 3) := by decide +kernel
theorem d15_33 : decode prog_82_method_1_code 33 = .ok (.aload_n 0, 1) := by decide +kernel
theorem d15_34 : decode prog_82_method_1_code 34 = .ok (.iload 8, 2) := by decide +kernel
theorem d15_36 : decode prog_82_method_1_code 36 = .ok (.putfield 28, 3) := by decide +kernel
theorem d15_39 : decode prog_82_method_1_code 39 = .ok (.aload_n 0, 1) := by decide +kernel
theorem d15_40 : decode prog_82_method_1_code 40 = .ok (.iload 9, 2) := by decide +kernel
theorem d15_42 : decode prog_82_method_1_code 42 = .ok (.putfield 31, 3) := by decide +kernel
theorem d15_45 : decode prog_82_method_1_code 45 = .ok (.aload_n 0, 1) := by decide +kernel
theorem d15_46 : decode prog_82_method_1_code 46 = .ok (.aload 10, 2) := by decide +kernel
theorem d15_48 : decode prog_82_method_1_code 48 = .ok (.putfield 34, 3) := by decide +kernel
theorem d15_51 : decode prog_82_method_1_code 51 = .ok (.return_, 1) := by decide +kernel
theorem pn_15 : plainName "com/example/cablegram/cablegram/engine/Receive" = true := by first | (simp [plainName, overriddenIn]; done) | decide +kernel
theorem pd_15_12 : parseMethodDescriptor "(Lcom/example/cablegram/cablegram/engine/CompletionOrder;)V" = some ⟨[(.object "com/example/cablegram/cablegram/engine/CompletionOrder")], none⟩ := by decide +kernel
theorem ef_15 (m : MethodId) (x0 : Addr) (x2 : Int32) (x3 : Int64) (x4 : Int32) (x5 x6 : Addr) (x7 x8 : Int32) : entryFrame m #[(.ref x0), .null, (.int x2), (.long x3), (.int x4), (.ref x5), (.ref x6), (.int x7), (.int x8), .null] 11 = mkF m 0 #[.val (.ref x0), .val .null, .val (.int x2), .val (.long x3), .second, .val (.int x4), .val (.ref x5), .val (.ref x6), .val (.int x7), .val (.int x8), .val .null] [] := by first | (simp [entryFrame, mkF, argsToLocals, Value.category]; done) | rfl
theorem rm15_R (l : Launch) (Z : State) (a0 : Array Value) (hw : ∀ d ∈ tables_1, d.before a0 Z = true) (ws : List Jvm.Cond) (a1 : Addr) (p2 : Int32) (q3 : Int64) (p4 : Int32) (a5 a6 : Addr) (p7 p8 : Int32) (u_source_a1 u_context_a1 u_tag_a1 u_type_a1 u_array_a1 u_offset_a1 u_count_a1 u_ahead_a1 : Value) (h0 : Heap) (n0 : Nat) (Z0 : n0 ≤ h0.size) (uo : Value) (F_order_a1 : Fld Z h0 a1 "com/example/cablegram/cablegram/engine/Operation" "order" "Lcom/example/cablegram/cablegram/engine/CompletionOrder;" uo) (E_a1 : Exa Z h0 a1 "com/example/cablegram/cablegram/engine/Receive") (F_source_a1 : Fld Z h0 a1 "com/example/cablegram/cablegram/engine/Receive" "source" "I" u_source_a1) (g_a1 : n0 ≤ a1) (F_context_a1 : Fld Z h0 a1 "com/example/cablegram/cablegram/engine/Receive" "context" "J" u_context_a1) (F_tag_a1 : Fld Z h0 a1 "com/example/cablegram/cablegram/engine/Receive" "tag" "I" u_tag_a1) (F_type_a1 : Fld Z h0 a1 "com/example/cablegram/cablegram/engine/Receive" "type" "Lcom/example/cablegram/cablegram/engine/ElementType;" u_type_a1) (F_array_a1 : Fld Z h0 a1 "com/example/cablegram/cablegram/engine/Receive" "array" "Ljava/lang/Object;" u_array_a1) (F_offset_a1 : Fld Z h0 a1 "com/example/cablegram/cablegram/engine/Receive" "offset" "I" u_offset_a1) (F_count_a1 : Fld Z h0 a1 "com/example/cablegram/cablegram/engine/Receive" "count" "I" u_count_a1) (F_ahead_a1 : Fld Z h0 a1 "com/example/cablegram/cablegram/engine/Receive" "ahead" "Lcom/example/cablegram/cablegram/engine/ArraysAhead;" u_ahead_a1) :
    MetFree l own_n13 (head1 (Jvm.Cond.code own_n13 prog_82_method_1_code 11 none :: ws) own_r3) (fun a U => a = #[(.ref a1), .null, (.int p2), (.long q3), (.int p4), (.ref a5), (.ref a6), (.int p7), (.int p8), .null] ∧ Z.Warmed39 U.vm ∧ U.heap = h0) (fun _ _ _ _ _ => True) (fun _ U o U' => ∃ v L, o = .returned v ∧ Qk a1 h0 n0 v U'.heap L ∧ FrameEnd U o U' L own_r3.cells own_r3.slots) := by
  refine MetFree.of_bodySF (plainFor_of_name pn_15) hisR ?_
  intro p e s m args below meth c s₁ Bd hml0 hP hK
  obtain ⟨rfl, hZ, hh⟩ := hP
  have hx := Bd.exec
  have hby := Bd.bytes
  have hml : c.maxLocals = 11 := hml0
  have hown : s.vm.findClass "com/example/cablegram/cablegram/engine/Receive" = some m.cls := findClass_of_methodNamed Bd.named
  have hnm := (name_of_methodNamed Bd.named Bd.method).1
  have X0 : Stand p l e own_r3 s m #[(.ref a1), .null, (.int p2), (.long q3), (.int p4), (.ref a5), (.ref a6), (.int p7), (.int p8), .null] below meth c s₁ [] 0 0 := Stand.of_body Bd
  have e0 : s₁.heap = h0 := by rw [← hh, Bd.state]; rfl
  have N0 := Fr.nil n0
  have pre0 : ∀ t, Steps p.tables e below (s₁.setTop (mkF m 0 #[.val (.ref a1), .val .null, .val (.int p2), .val (.long q3), .second, .val (.int p4), .val (.ref a5), .val (.ref a6), .val (.int p7), .val (.int p8), .val .null] [])) t → Steps p.tables e below (s₁.setTop (entryFrame m #[(.ref a1), .null, (.int p2), (.long q3), (.int p4), (.ref a5), (.ref a6), (.int p7), (.int p8), .null] 11)) t := fun t k => castTop (ef_15 m a1 p2 q3 p4 a5 a6 p7 p8) k
  obtain ⟨_, _, ⟨T9, L9, k9, n9⟩, -, X9, ⟨Lc9, hQ9, l9, y9, z9⟩, st9⟩ := X0.specialBack hx (y := own_n12) rfl hown (mvT hZ (own_w hw 106 rfl)) (mvT hZ (own_w hw 107 rfl)) (mvT hZ (own_w hw 110 rfl)) (by decide) (backOf (W := 0) (rm16 l Z a0 hw [] a1 uo h0 n0 Z0 E_a1 F_order_a1 g_a1) hZ (own_w hw 110 rfl) (own_w hw 109 rfl) (by decide) (by decide)) (g := (mkF m 2 #[.val (.ref a1), .val .null, .val (.int p2), .val (.long q3), .second, .val (.int p4), .val (.ref a5), .val (.ref a6), .val (.int p7), .val (.int p8), .val .null] [.null, (.ref a1)])) rfl (by rw [hml]; rfl) (Steps.refl _) (a := a1) (argsL := [.null]) (rest := []) (lenOf pd_15_12 rfl) rfl (by show 2 * 0 + _ ≤ _; exact Nat.le_of_eq rfl) (hb hby d15_2) (fun _ _ => ⟨rfl, e0, (by decide : 0 + 0 ≤ _), (by decide : 0 + 0 ≤ _)⟩)
  dsimp only [Pt.U, Pt.locs, Pt.cells, Pt.slots] at X9 l9 y9 z9 st9 hQ9
  subst l9 y9 z9
  obtain ⟨rfl, N9q, Wo⟩ := hQ9
  have N9 := Fr.app N0 N9q
  have F_source_a1k := F_source_a1.other Wo (Or.inr (slot_ne (Or.inr (own_w hw 115 rfl)) (Or.inr (own_w hw 113 rfl)) (by decide) (t := .int) (t' := (.object "com/example/cablegram/cablegram/engine/CompletionOrder")) (by decide) (by decide)))
  have F_context_a1k := F_context_a1.other Wo (Or.inr (slot_ne (Or.inr (own_w hw 117 rfl)) (Or.inr (own_w hw 113 rfl)) (by decide) (t := .long) (t' := (.object "com/example/cablegram/cablegram/engine/CompletionOrder")) (by decide) (by decide)))
  have F_tag_a1k := F_tag_a1.other Wo (Or.inr (slot_ne (Or.inr (own_w hw 119 rfl)) (Or.inr (own_w hw 113 rfl)) (by decide) (t := .int) (t' := (.object "com/example/cablegram/cablegram/engine/CompletionOrder")) (by decide) (by decide)))
  have F_type_a1k := F_type_a1.other Wo (Or.inr (slot_ne (Or.inr (own_w hw 121 rfl)) (Or.inr (own_w hw 113 rfl)) (by decide) (t := (.object own_s2)) (t' := (.object "com/example/cablegram/cablegram/engine/CompletionOrder")) (by decide) (by decide)))
  have F_array_a1k := F_array_a1.other Wo (Or.inr (slot_ne (Or.inr (own_w hw 123 rfl)) (Or.inr (own_w hw 113 rfl)) (by decide) (t := (.object "java/lang/Object")) (t' := (.object "com/example/cablegram/cablegram/engine/CompletionOrder")) (by decide) (by decide)))
  have F_offset_a1k := F_offset_a1.other Wo (Or.inr (slot_ne (Or.inr (own_w hw 125 rfl)) (Or.inr (own_w hw 113 rfl)) (by decide) (t := .int) (t' := (.object "com/example/cablegram/cablegram/engine/CompletionOrder")) (by decide) (by decide)))
  have F_count_a1k := F_count_a1.other Wo (Or.inr (slot_ne (Or.inr (own_w hw 127 rfl)) (Or.inr (own_w hw 113 rfl)) (by decide) (t := .int) (t' := (.object "com/example/cablegram/cablegram/engine/CompletionOrder")) (by decide) (by decide)))
  have F_ahead_a1k := F_ahead_a1.other Wo (Or.inr (slot_ne (Or.inr (own_w hw 129 rfl)) (Or.inr (own_w hw 113 rfl)) (by decide) (t := (.object "com/example/cablegram/cablegram/engine/ArraysAhead")) (t' := (.object "com/example/cablegram/cablegram/engine/CompletionOrder")) (by decide) (by decide)))
  obtain ⟨T10, h10, X10, e10, W10, st10⟩ := putF X9 hx hZ hown (host := "") (Or.inl (own_w hw 114 rfl)) Via.refl rfl F_source_a1k (E_a1.wr Wo) (Or.inr ⟨(own_w hw 115 rfl), rfl, hnm⟩) (own_w hw 101 rfl) (ty := .int) (by decide) rfl rfl (g := (mkF m 7 #[.val (.ref a1), .val .null, .val (.int p2), .val (.long q3), .second, .val (.int p4), .val (.ref a5), .val (.ref a6), .val (.int p7), .val (.int p8), .val .null] [(.int p2), (.ref a1)])) rfl rfl (hb hby d15_7)
  have Fw10 := F_source_a1k.same W10
  have K10 : Keep h0 h10 [a1] := (Keep.of_wr Wo).wr W10 (Or.inl (List.mem_of_getElem? (i := 0) rfl))
  have N10 := Fr.snoc X10 N9 g_a1
  obtain ⟨T11, h11, X11, e11, W11, st11⟩ := putF X10 hx hZ hown (host := "") (Or.inl (own_w hw 116 rfl)) Via.refl e10 (F_context_a1k.other W10 (Or.inr (slot_ne (Or.inr (own_w hw 117 rfl)) (Or.inr (own_w hw 115 rfl)) (by decide) (t := .long) (t' := .int) (by decide) (by decide)))) ((E_a1.wr Wo).wr W10) (Or.inr ⟨(own_w hw 117 rfl), rfl, hnm⟩) (own_w hw 101 rfl) (ty := .long) (by decide) rfl rfl (g := (mkF m 12 #[.val (.ref a1), .val .null, .val (.int p2), .val (.long q3), .second, .val (.int p4), .val (.ref a5), .val (.ref a6), .val (.int p7), .val (.int p8), .val .null] [(.long q3), (.ref a1)])) rfl rfl (hb hby d15_12)
  have Fw11 := (F_context_a1k.other W10 (Or.inr (slot_ne (Or.inr (own_w hw 117 rfl)) (Or.inr (own_w hw 115 rfl)) (by decide) (t := .long) (t' := .int) (by decide) (by decide)))).same W11
  have K11 : Keep h0 h11 [a1] := K10.wr W11 (Or.inl (List.mem_of_getElem? (i := 0) rfl))
  have N11 := Fr.snoc X11 N10 g_a1
  obtain ⟨T12, h12, X12, e12, W12, st12⟩ := putF X11 hx hZ hown (host := "") (Or.inl (own_w hw 118 rfl)) Via.refl e11 ((F_tag_a1k.other W10 (Or.inr (slot_ne (Or.inr (own_w hw 119 rfl)) (Or.inr (own_w hw 115 rfl)) (by decide) (t := .int) (t' := .int) (by decide) (by decide)))).other W11 (Or.inr (slot_ne (Or.inr (own_w hw 119 rfl)) (Or.inr (own_w hw 117 rfl)) (by decide) (t := .int) (t' := .long) (by decide) (by decide)))) (((E_a1.wr Wo).wr W10).wr W11) (Or.inr ⟨(own_w hw 119 rfl), rfl, hnm⟩) (own_w hw 101 rfl) (ty := .int) (by decide) rfl rfl (g := (mkF m 18 #[.val (.ref a1), .val .null, .val (.int p2), .val (.long q3), .second, .val (.int p4), .val (.ref a5), .val (.ref a6), .val (.int p7), .val (.int p8), .val .null] [(.int p4), (.ref a1)])) rfl rfl (hb hby d15_18)
  have Fw12 := ((F_tag_a1k.other W10 (Or.inr (slot_ne (Or.inr (own_w hw 119 rfl)) (Or.inr (own_w hw 115 rfl)) (by decide) (t := .int) (t' := .int) (by decide) (by decide)))).other W11 (Or.inr (slot_ne (Or.inr (own_w hw 119 rfl)) (Or.inr (own_w hw 117 rfl)) (by decide) (t := .int) (t' := .long) (by decide) (by decide)))).same W12
  have K12 : Keep h0 h12 [a1] := K11.wr W12 (Or.inl (List.mem_of_getElem? (i := 0) rfl))
  have N12 := Fr.snoc X12 N11 g_a1
  obtain ⟨T13, h13, X13, e13, W13, st13⟩ := putF X12 hx hZ hown (host := "") (Or.inl (own_w hw 120 rfl)) Via.refl e12 (((F_type_a1k.other W10 (Or.inr (slot_ne (Or.inr (own_w hw 121 rfl)) (Or.inr (own_w hw 115 rfl)) (by decide) (t := (.object own_s2)) (t' := .int) (by decide) (by decide)))).other W11 (Or.inr (slot_ne (Or.inr (own_w hw 121 rfl)) (Or.inr (own_w hw 117 rfl)) (by decide) (t := (.object own_s2)) (t' := .long) (by decide) (by decide)))).other W12 (Or.inr (slot_ne (Or.inr (own_w hw 121 rfl)) (Or.inr (own_w hw 119 rfl)) (by decide) (t := (.object own_s2)) (t' := .int) (by decide) (by decide)))) ((((E_a1.wr Wo).wr W10).wr W11).wr W12) (Or.inr ⟨(own_w hw 121 rfl), rfl, hnm⟩) (own_w hw 101 rfl) (ty := (.object own_s2)) (by decide) rfl rfl (g := (mkF m 24 #[.val (.ref a1), .val .null, .val (.int p2), .val (.long q3), .second, .val (.int p4), .val (.ref a5), .val (.ref a6), .val (.int p7), .val (.int p8), .val .null] [(.ref a5), (.ref a1)])) rfl rfl (hb hby d15_24)
  have Fw13 := (((F_type_a1k.other W10 (Or.inr (slot_ne (Or.inr (own_w hw 121 rfl)) (Or.inr (own_w hw 115 rfl)) (by decide) (t := (.object own_s2)) (t' := .int) (by decide) (by decide)))).other W11 (Or.inr (slot_ne (Or.inr (own_w hw 121 rfl)) (Or.inr (own_w hw 117 rfl)) (by decide) (t := (.object own_s2)) (t' := .long) (by decide) (by decide)))).other W12 (Or.inr (slot_ne (Or.inr (own_w hw 121 rfl)) (Or.inr (own_w hw 119 rfl)) (by decide) (t := (.object own_s2)) (t' := .int) (by decide) (by decide)))).same W13
  have K13 : Keep h0 h13 [a1] := K12.wr W13 (Or.inl (List.mem_of_getElem? (i := 0) rfl))
  have N13 := Fr.snoc X13 N12 g_a1
  obtain ⟨T14, h14, X14, e14, W14, st14⟩ := putF X13 hx hZ hown (host := "") (Or.inl (own_w hw 122 rfl)) Via.refl e13 ((((F_array_a1k.other W10 (Or.inr (slot_ne (Or.inr (own_w hw 123 rfl)) (Or.inr (own_w hw 115 rfl)) (by decide) (t := (.object "java/lang/Object")) (t' := .int) (by decide) (by decide)))).other W11 (Or.inr (slot_ne (Or.inr (own_w hw 123 rfl)) (Or.inr (own_w hw 117 rfl)) (by decide) (t := (.object "java/lang/Object")) (t' := .long) (by decide) (by decide)))).other W12 (Or.inr (slot_ne (Or.inr (own_w hw 123 rfl)) (Or.inr (own_w hw 119 rfl)) (by decide) (t := (.object "java/lang/Object")) (t' := .int) (by decide) (by decide)))).other W13 (Or.inr (slot_ne (Or.inr (own_w hw 123 rfl)) (Or.inr (own_w hw 121 rfl)) (by decide) (t := (.object "java/lang/Object")) (t' := (.object own_s2)) (by decide) (by decide)))) (((((E_a1.wr Wo).wr W10).wr W11).wr W12).wr W13) (Or.inr ⟨(own_w hw 123 rfl), rfl, hnm⟩) (own_w hw 101 rfl) (ty := (.object "java/lang/Object")) (by decide) rfl rfl (g := (mkF m 30 #[.val (.ref a1), .val .null, .val (.int p2), .val (.long q3), .second, .val (.int p4), .val (.ref a5), .val (.ref a6), .val (.int p7), .val (.int p8), .val .null] [(.ref a6), (.ref a1)])) rfl rfl (hb hby d15_30)
  have Fw14 := ((((F_array_a1k.other W10 (Or.inr (slot_ne (Or.inr (own_w hw 123 rfl)) (Or.inr (own_w hw 115 rfl)) (by decide) (t := (.object "java/lang/Object")) (t' := .int) (by decide) (by decide)))).other W11 (Or.inr (slot_ne (Or.inr (own_w hw 123 rfl)) (Or.inr (own_w hw 117 rfl)) (by decide) (t := (.object "java/lang/Object")) (t' := .long) (by decide) (by decide)))).other W12 (Or.inr (slot_ne (Or.inr (own_w hw 123 rfl)) (Or.inr (own_w hw 119 rfl)) (by decide) (t := (.object "java/lang/Object")) (t' := .int) (by decide) (by decide)))).other W13 (Or.inr (slot_ne (Or.inr (own_w hw 123 rfl)) (Or.inr (own_w hw 121 rfl)) (by decide) (t := (.object "java/lang/Object")) (t' := (.object own_s2)) (by decide) (by decide)))).same W14
  have K14 : Keep h0 h14 [a1] := K13.wr W14 (Or.inl (List.mem_of_getElem? (i := 0) rfl))
  have N14 := Fr.snoc X14 N13 g_a1
  obtain ⟨T15, h15, X15, e15, W15, st15⟩ := putF X14 hx hZ hown (host := "") (Or.inl (own_w hw 124 rfl)) Via.refl e14 (((((F_offset_a1k.other W10 (Or.inr (slot_ne (Or.inr (own_w hw 125 rfl)) (Or.inr (own_w hw 115 rfl)) (by decide) (t := .int) (t' := .int) (by decide) (by decide)))).other W11 (Or.inr (slot_ne (Or.inr (own_w hw 125 rfl)) (Or.inr (own_w hw 117 rfl)) (by decide) (t := .int) (t' := .long) (by decide) (by decide)))).other W12 (Or.inr (slot_ne (Or.inr (own_w hw 125 rfl)) (Or.inr (own_w hw 119 rfl)) (by decide) (t := .int) (t' := .int) (by decide) (by decide)))).other W13 (Or.inr (slot_ne (Or.inr (own_w hw 125 rfl)) (Or.inr (own_w hw 121 rfl)) (by decide) (t := .int) (t' := (.object own_s2)) (by decide) (by decide)))).other W14 (Or.inr (slot_ne (Or.inr (own_w hw 125 rfl)) (Or.inr (own_w hw 123 rfl)) (by decide) (t := .int) (t' := (.object "java/lang/Object")) (by decide) (by decide)))) ((((((E_a1.wr Wo).wr W10).wr W11).wr W12).wr W13).wr W14) (Or.inr ⟨(own_w hw 125 rfl), rfl, hnm⟩) (own_w hw 101 rfl) (ty := .int) (by decide) rfl rfl (g := (mkF m 36 #[.val (.ref a1), .val .null, .val (.int p2), .val (.long q3), .second, .val (.int p4), .val (.ref a5), .val (.ref a6), .val (.int p7), .val (.int p8), .val .null] [(.int p7), (.ref a1)])) rfl rfl (hb hby d15_36)
  have Fw15 := (((((F_offset_a1k.other W10 (Or.inr (slot_ne (Or.inr (own_w hw 125 rfl)) (Or.inr (own_w hw 115 rfl)) (by decide) (t := .int) (t' := .int) (by decide) (by decide)))).other W11 (Or.inr (slot_ne (Or.inr (own_w hw 125 rfl)) (Or.inr (own_w hw 117 rfl)) (by decide) (t := .int) (t' := .long) (by decide) (by decide)))).other W12 (Or.inr (slot_ne (Or.inr (own_w hw 125 rfl)) (Or.inr (own_w hw 119 rfl)) (by decide) (t := .int) (t' := .int) (by decide) (by decide)))).other W13 (Or.inr (slot_ne (Or.inr (own_w hw 125 rfl)) (Or.inr (own_w hw 121 rfl)) (by decide) (t := .int) (t' := (.object own_s2)) (by decide) (by decide)))).other W14 (Or.inr (slot_ne (Or.inr (own_w hw 125 rfl)) (Or.inr (own_w hw 123 rfl)) (by decide) (t := .int) (t' := (.object "java/lang/Object")) (by decide) (by decide)))).same W15
  have K15 : Keep h0 h15 [a1] := K14.wr W15 (Or.inl (List.mem_of_getElem? (i := 0) rfl))
  have N15 := Fr.snoc X15 N14 g_a1
  obtain ⟨T16, h16, X16, e16, W16, st16⟩ := putF X15 hx hZ hown (host := "") (Or.inl (own_w hw 126 rfl)) Via.refl e15 ((((((F_count_a1k.other W10 (Or.inr (slot_ne (Or.inr (own_w hw 127 rfl)) (Or.inr (own_w hw 115 rfl)) (by decide) (t := .int) (t' := .int) (by decide) (by decide)))).other W11 (Or.inr (slot_ne (Or.inr (own_w hw 127 rfl)) (Or.inr (own_w hw 117 rfl)) (by decide) (t := .int) (t' := .long) (by decide) (by decide)))).other W12 (Or.inr (slot_ne (Or.inr (own_w hw 127 rfl)) (Or.inr (own_w hw 119 rfl)) (by decide) (t := .int) (t' := .int) (by decide) (by decide)))).other W13 (Or.inr (slot_ne (Or.inr (own_w hw 127 rfl)) (Or.inr (own_w hw 121 rfl)) (by decide) (t := .int) (t' := (.object own_s2)) (by decide) (by decide)))).other W14 (Or.inr (slot_ne (Or.inr (own_w hw 127 rfl)) (Or.inr (own_w hw 123 rfl)) (by decide) (t := .int) (t' := (.object "java/lang/Object")) (by decide) (by decide)))).other W15 (Or.inr (slot_ne (Or.inr (own_w hw 127 rfl)) (Or.inr (own_w hw 125 rfl)) (by decide) (t := .int) (t' := .int) (by decide) (by decide)))) (((((((E_a1.wr Wo).wr W10).wr W11).wr W12).wr W13).wr W14).wr W15) (Or.inr ⟨(own_w hw 127 rfl), rfl, hnm⟩) (own_w hw 101 rfl) (ty := .int) (by decide) rfl rfl (g := (mkF m 42 #[.val (.ref a1), .val .null, .val (.int p2), .val (.long q3), .second, .val (.int p4), .val (.ref a5), .val (.ref a6), .val (.int p7), .val (.int p8), .val .null] [(.int p8), (.ref a1)])) rfl rfl (hb hby d15_42)
  have Fw16 := ((((((F_count_a1k.other W10 (Or.inr (slot_ne (Or.inr (own_w hw 127 rfl)) (Or.inr (own_w hw 115 rfl)) (by decide) (t := .int) (t' := .int) (by decide) (by decide)))).other W11 (Or.inr (slot_ne (Or.inr (own_w hw 127 rfl)) (Or.inr (own_w hw 117 rfl)) (by decide) (t := .int) (t' := .long) (by decide) (by decide)))).other W12 (Or.inr (slot_ne (Or.inr (own_w hw 127 rfl)) (Or.inr (own_w hw 119 rfl)) (by decide) (t := .int) (t' := .int) (by decide) (by decide)))).other W13 (Or.inr (slot_ne (Or.inr (own_w hw 127 rfl)) (Or.inr (own_w hw 121 rfl)) (by decide) (t := .int) (t' := (.object own_s2)) (by decide) (by decide)))).other W14 (Or.inr (slot_ne (Or.inr (own_w hw 127 rfl)) (Or.inr (own_w hw 123 rfl)) (by decide) (t := .int) (t' := (.object "java/lang/Object")) (by decide) (by decide)))).other W15 (Or.inr (slot_ne (Or.inr (own_w hw 127 rfl)) (Or.inr (own_w hw 125 rfl)) (by decide) (t := .int) (t' := .int) (by decide) (by decide)))).same W16
  have K16 : Keep h0 h16 [a1] := K15.wr W16 (Or.inl (List.mem_of_getElem? (i := 0) rfl))
  have N16 := Fr.snoc X16 N15 g_a1
  obtain ⟨T17, h17, X17, e17, W17, st17⟩ := putF X16 hx hZ hown (host := "") (Or.inl (own_w hw 128 rfl)) Via.refl e16 (((((((F_ahead_a1k.other W10 (Or.inr (slot_ne (Or.inr (own_w hw 129 rfl)) (Or.inr (own_w hw 115 rfl)) (by decide) (t := (.object "com/example/cablegram/cablegram/engine/ArraysAhead")) (t' := .int) (by decide) (by decide)))).other W11 (Or.inr (slot_ne (Or.inr (own_w hw 129 rfl)) (Or.inr (own_w hw 117 rfl)) (by decide) (t := (.object "com/example/cablegram/cablegram/engine/ArraysAhead")) (t' := .long) (by decide) (by decide)))).other W12 (Or.inr (slot_ne (Or.inr (own_w hw 129 rfl)) (Or.inr (own_w hw 119 rfl)) (by decide) (t := (.object "com/example/cablegram/cablegram/engine/ArraysAhead")) (t' := .int) (by decide) (by decide)))).other W13 (Or.inr (slot_ne (Or.inr (own_w hw 129 rfl)) (Or.inr (own_w hw 121 rfl)) (by decide) (t := (.object "com/example/cablegram/cablegram/engine/ArraysAhead")) (t' := (.object own_s2)) (by decide) (by decide)))).other W14 (Or.inr (slot_ne (Or.inr (own_w hw 129 rfl)) (Or.inr (own_w hw 123 rfl)) (by decide) (t := (.object "com/example/cablegram/cablegram/engine/ArraysAhead")) (t' := (.object "java/lang/Object")) (by decide) (by decide)))).other W15 (Or.inr (slot_ne (Or.inr (own_w hw 129 rfl)) (Or.inr (own_w hw 125 rfl)) (by decide) (t := (.object "com/example/cablegram/cablegram/engine/ArraysAhead")) (t' := .int) (by decide) (by decide)))).other W16 (Or.inr (slot_ne (Or.inr (own_w hw 129 rfl)) (Or.inr (own_w hw 127 rfl)) (by decide) (t := (.object "com/example/cablegram/cablegram/engine/ArraysAhead")) (t' := .int) (by decide) (by decide)))) ((((((((E_a1.wr Wo).wr W10).wr W11).wr W12).wr W13).wr W14).wr W15).wr W16) (Or.inr ⟨(own_w hw 129 rfl), rfl, hnm⟩) (own_w hw 101 rfl) (ty := (.object "com/example/cablegram/cablegram/engine/ArraysAhead")) (by decide) rfl rfl (g := (mkF m 48 #[.val (.ref a1), .val .null, .val (.int p2), .val (.long q3), .second, .val (.int p4), .val (.ref a5), .val (.ref a6), .val (.int p7), .val (.int p8), .val .null] [.null, (.ref a1)])) rfl rfl (hb hby d15_48)
  have Fw17 := (((((((F_ahead_a1k.other W10 (Or.inr (slot_ne (Or.inr (own_w hw 129 rfl)) (Or.inr (own_w hw 115 rfl)) (by decide) (t := (.object "com/example/cablegram/cablegram/engine/ArraysAhead")) (t' := .int) (by decide) (by decide)))).other W11 (Or.inr (slot_ne (Or.inr (own_w hw 129 rfl)) (Or.inr (own_w hw 117 rfl)) (by decide) (t := (.object "com/example/cablegram/cablegram/engine/ArraysAhead")) (t' := .long) (by decide) (by decide)))).other W12 (Or.inr (slot_ne (Or.inr (own_w hw 129 rfl)) (Or.inr (own_w hw 119 rfl)) (by decide) (t := (.object "com/example/cablegram/cablegram/engine/ArraysAhead")) (t' := .int) (by decide) (by decide)))).other W13 (Or.inr (slot_ne (Or.inr (own_w hw 129 rfl)) (Or.inr (own_w hw 121 rfl)) (by decide) (t := (.object "com/example/cablegram/cablegram/engine/ArraysAhead")) (t' := (.object own_s2)) (by decide) (by decide)))).other W14 (Or.inr (slot_ne (Or.inr (own_w hw 129 rfl)) (Or.inr (own_w hw 123 rfl)) (by decide) (t := (.object "com/example/cablegram/cablegram/engine/ArraysAhead")) (t' := (.object "java/lang/Object")) (by decide) (by decide)))).other W15 (Or.inr (slot_ne (Or.inr (own_w hw 129 rfl)) (Or.inr (own_w hw 125 rfl)) (by decide) (t := (.object "com/example/cablegram/cablegram/engine/ArraysAhead")) (t' := .int) (by decide) (by decide)))).other W16 (Or.inr (slot_ne (Or.inr (own_w hw 129 rfl)) (Or.inr (own_w hw 127 rfl)) (by decide) (t := (.object "com/example/cablegram/cablegram/engine/ArraysAhead")) (t' := .int) (by decide) (by decide)))).same W17
  have K17 : Keep h0 h17 [a1] := K16.wr W17 (Or.inl (List.mem_of_getElem? (i := 0) rfl))
  have N17 := Fr.snoc X17 N16 g_a1
  obtain ⟨fs, hr, hrun, hended, hW, hsame⟩ := X17.leave (v := none) (fun _ => rfl)
  refine ⟨_, _, pre0 _ ?_, hrun, hended, _, _, rfl, ?_, ⟨_, rfl⟩, hW, hsame.mono (by decide) (by decide)⟩
  · show Steps _ _ _ (s₁.setTop (mkF m 0 #[.val (.ref a1), .val .null, .val (.int p2), .val (.long q3), .second, .val (.int p4), .val (.ref a5), .val (.ref a6), .val (.int p7), .val (.int p8), .val .null] [])) _
    refine XS.aloadN X0.here hx rfl (hb hby d15_0) rfl rfl ?_
    show Steps _ _ _ (s₁.setTop (mkF m 1 #[.val (.ref a1), .val .null, .val (.int p2), .val (.long q3), .second, .val (.int p4), .val (.ref a5), .val (.ref a6), .val (.int p7), .val (.int p8), .val .null] [(.ref a1)])) _
    refine XS.aloadN X0.here hx rfl (hb hby d15_1) rfl rfl ?_
    show Steps _ _ _ (s₁.setTop (mkF m 2 #[.val (.ref a1), .val .null, .val (.int p2), .val (.long q3), .second, .val (.int p4), .val (.ref a5), .val (.ref a6), .val (.int p7), .val (.int p8), .val .null] [.null, (.ref a1)])) _
    refine st9.trans ?_
    show Steps _ _ _ (T9.setTop (mkF m 5 #[.val (.ref a1), .val .null, .val (.int p2), .val (.long q3), .second, .val (.int p4), .val (.ref a5), .val (.ref a6), .val (.int p7), .val (.int p8), .val .null] [])) _
    refine XS.aloadN X9.here hx rfl (hb hby d15_5) rfl rfl ?_
    show Steps _ _ _ (T9.setTop (mkF m 6 #[.val (.ref a1), .val .null, .val (.int p2), .val (.long q3), .second, .val (.int p4), .val (.ref a5), .val (.ref a6), .val (.int p7), .val (.int p8), .val .null] [(.ref a1)])) _
    refine XS.iloadN X9.here hx rfl (hb hby d15_6) rfl ?_
    show Steps _ _ _ (T9.setTop (mkF m 7 #[.val (.ref a1), .val .null, .val (.int p2), .val (.long q3), .second, .val (.int p4), .val (.ref a5), .val (.ref a6), .val (.int p7), .val (.int p8), .val .null] [(.int p2), (.ref a1)])) _
    refine st10 _ ?_
    show Steps _ _ _ (T10.setTop (mkF m 10 #[.val (.ref a1), .val .null, .val (.int p2), .val (.long q3), .second, .val (.int p4), .val (.ref a5), .val (.ref a6), .val (.int p7), .val (.int p8), .val .null] [])) _
    refine XS.aloadN X10.here hx rfl (hb hby d15_10) rfl rfl ?_
    show Steps _ _ _ (T10.setTop (mkF m 11 #[.val (.ref a1), .val .null, .val (.int p2), .val (.long q3), .second, .val (.int p4), .val (.ref a5), .val (.ref a6), .val (.int p7), .val (.int p8), .val .null] [(.ref a1)])) _
    refine XS.lloadN X10.here hx rfl (hb hby d15_11) rfl ?_
    show Steps _ _ _ (T10.setTop (mkF m 12 #[.val (.ref a1), .val .null, .val (.int p2), .val (.long q3), .second, .val (.int p4), .val (.ref a5), .val (.ref a6), .val (.int p7), .val (.int p8), .val .null] [(.long q3), (.ref a1)])) _
    refine st11 _ ?_
    show Steps _ _ _ (T11.setTop (mkF m 15 #[.val (.ref a1), .val .null, .val (.int p2), .val (.long q3), .second, .val (.int p4), .val (.ref a5), .val (.ref a6), .val (.int p7), .val (.int p8), .val .null] [])) _
    refine XS.aloadN X11.here hx rfl (hb hby d15_15) rfl rfl ?_
    show Steps _ _ _ (T11.setTop (mkF m 16 #[.val (.ref a1), .val .null, .val (.int p2), .val (.long q3), .second, .val (.int p4), .val (.ref a5), .val (.ref a6), .val (.int p7), .val (.int p8), .val .null] [(.ref a1)])) _
    refine XS.iload X11.here hx rfl (hb hby d15_16) rfl ?_
    show Steps _ _ _ (T11.setTop (mkF m 18 #[.val (.ref a1), .val .null, .val (.int p2), .val (.long q3), .second, .val (.int p4), .val (.ref a5), .val (.ref a6), .val (.int p7), .val (.int p8), .val .null] [(.int p4), (.ref a1)])) _
    refine st12 _ ?_
    show Steps _ _ _ (T12.setTop (mkF m 21 #[.val (.ref a1), .val .null, .val (.int p2), .val (.long q3), .second, .val (.int p4), .val (.ref a5), .val (.ref a6), .val (.int p7), .val (.int p8), .val .null] [])) _
    refine XS.aloadN X12.here hx rfl (hb hby d15_21) rfl rfl ?_
    show Steps _ _ _ (T12.setTop (mkF m 22 #[.val (.ref a1), .val .null, .val (.int p2), .val (.long q3), .second, .val (.int p4), .val (.ref a5), .val (.ref a6), .val (.int p7), .val (.int p8), .val .null] [(.ref a1)])) _
    refine XS.aload X12.here hx rfl (hb hby d15_22) rfl rfl ?_
    show Steps _ _ _ (T12.setTop (mkF m 24 #[.val (.ref a1), .val .null, .val (.int p2), .val (.long q3), .second, .val (.int p4), .val (.ref a5), .val (.ref a6), .val (.int p7), .val (.int p8), .val .null] [(.ref a5), (.ref a1)])) _
    refine st13 _ ?_
    show Steps _ _ _ (T13.setTop (mkF m 27 #[.val (.ref a1), .val .null, .val (.int p2), .val (.long q3), .second, .val (.int p4), .val (.ref a5), .val (.ref a6), .val (.int p7), .val (.int p8), .val .null] [])) _
    refine XS.aloadN X13.here hx rfl (hb hby d15_27) rfl rfl ?_
    show Steps _ _ _ (T13.setTop (mkF m 28 #[.val (.ref a1), .val .null, .val (.int p2), .val (.long q3), .second, .val (.int p4), .val (.ref a5), .val (.ref a6), .val (.int p7), .val (.int p8), .val .null] [(.ref a1)])) _
    refine XS.aload X13.here hx rfl (hb hby d15_28) rfl rfl ?_
    show Steps _ _ _ (T13.setTop (mkF m 30 #[.val (.ref a1), .val .null, .val (.int p2), .val (.long q3), .second, .val (.int p4), .val (.ref a5), .val (.ref a6), .val (.int p7), .val (.int p8), .val .null] [(.ref a6), (.ref a1)])) _
    refine st14 _ ?_
    show Steps _ _ _ (T14.setTop (mkF m 33 #[.val (.ref a1), .val .null, .val (.int p2), .val (.long q3), .second, .val (.int p4), .val (.ref a5), .val (.ref a6), .val (.int p7), .val (.int p8), .val .null] [])) _
    refine XS.aloadN X14.here hx rfl (hb hby d15_33) rfl rfl ?_
    show Steps _ _ _ (T14.setTop (mkF m 34 #[.val (.ref a1), .val .null, .val (.int p2), .val (.long q3), .second, .val (.int p4), .val (.ref a5), .val (.ref a6), .val (.int p7), .val (.int p8), .val .null] [(.ref a1)])) _
    refine XS.iload X14.here hx rfl (hb hby d15_34) rfl ?_
    show Steps _ _ _ (T14.setTop (mkF m 36 #[.val (.ref a1), .val .null, .val (.int p2), .val (.long q3), .second, .val (.int p4), .val (.ref a5), .val (.ref a6), .val (.int p7), .val (.int p8), .val .null] [(.int p7), (.ref a1)])) _
    refine st15 _ ?_
    show Steps _ _ _ (T15.setTop (mkF m 39 #[.val (.ref a1), .val .null, .val (.int p2), .val (.long q3), .second, .val (.int p4), .val (.ref a5), .val (.ref a6), .val (.int p7), .val (.int p8), .val .null] [])) _
    refine XS.aloadN X15.here hx rfl (hb hby d15_39) rfl rfl ?_
    show Steps _ _ _ (T15.setTop (mkF m 40 #[.val (.ref a1), .val .null, .val (.int p2), .val (.long q3), .second, .val (.int p4), .val (.ref a5), .val (.ref a6), .val (.int p7), .val (.int p8), .val .null] [(.ref a1)])) _
    refine XS.iload X15.here hx rfl (hb hby d15_40) rfl ?_
    show Steps _ _ _ (T15.setTop (mkF m 42 #[.val (.ref a1), .val .null, .val (.int p2), .val (.long q3), .second, .val (.int p4), .val (.ref a5), .val (.ref a6), .val (.int p7), .val (.int p8), .val .null] [(.int p8), (.ref a1)])) _
    refine st16 _ ?_
    show Steps _ _ _ (T16.setTop (mkF m 45 #[.val (.ref a1), .val .null, .val (.int p2), .val (.long q3), .second, .val (.int p4), .val (.ref a5), .val (.ref a6), .val (.int p7), .val (.int p8), .val .null] [])) _
    refine XS.aloadN X16.here hx rfl (hb hby d15_45) rfl rfl ?_
    show Steps _ _ _ (T16.setTop (mkF m 46 #[.val (.ref a1), .val .null, .val (.int p2), .val (.long q3), .second, .val (.int p4), .val (.ref a5), .val (.ref a6), .val (.int p7), .val (.int p8), .val .null] [(.ref a1)])) _
    refine XS.aload X16.here hx rfl (hb hby d15_46) rfl rfl ?_
    show Steps _ _ _ (T16.setTop (mkF m 48 #[.val (.ref a1), .val .null, .val (.int p2), .val (.long q3), .second, .val (.int p4), .val (.ref a5), .val (.ref a6), .val (.int p7), .val (.int p8), .val .null] [.null, (.ref a1)])) _
    refine st17 _ ?_
    show Steps _ _ _ (T17.setTop (mkF m 51 #[.val (.ref a1), .val .null, .val (.int p2), .val (.long q3), .second, .val (.int p4), .val (.ref a5), .val (.ref a6), .val (.int p7), .val (.int p8), .val .null] [])) _
    exact X17.returnOut hx Bd.returns (hb hby d15_51) hr
  · show Qk a1 h0 n0 _ T17.heap _
    rw [e17]
    exact ⟨rfl, N17, K17⟩
theorem ef_15_N (m : MethodId) (x0 : Addr) (x2 : Int32) (x3 : Int64) (x4 x7 x8 : Int32) : entryFrame m #[(.ref x0), .null, (.int x2), (.long x3), (.int x4), .null, .null, (.int x7), (.int x8), .null] 11 = mkF m 0 #[.val (.ref x0), .val .null, .val (.int x2), .val (.long x3), .second, .val (.int x4), .val .null, .val .null, .val (.int x7), .val (.int x8), .val .null] [] := by first | (simp [entryFrame, mkF, argsToLocals, Value.category]; done) | rfl
theorem rm15_N (l : Launch) (Z : State) (a0 : Array Value) (hw : ∀ d ∈ tables_1, d.before a0 Z = true) (ws : List Jvm.Cond) (a1 : Addr) (p2 : Int32) (q3 : Int64) (p4 p5 p6 : Int32) (u_source_a1 u_context_a1 u_tag_a1 u_type_a1 u_array_a1 u_offset_a1 u_count_a1 u_ahead_a1 : Value) (h0 : Heap) (n0 : Nat) (Z0 : n0 ≤ h0.size) (uo : Value) (F_order_a1 : Fld Z h0 a1 "com/example/cablegram/cablegram/engine/Operation" "order" "Lcom/example/cablegram/cablegram/engine/CompletionOrder;" uo) (E_a1 : Exa Z h0 a1 "com/example/cablegram/cablegram/engine/Receive") (F_source_a1 : Fld Z h0 a1 "com/example/cablegram/cablegram/engine/Receive" "source" "I" u_source_a1) (g_a1 : n0 ≤ a1) (F_context_a1 : Fld Z h0 a1 "com/example/cablegram/cablegram/engine/Receive" "context" "J" u_context_a1) (F_tag_a1 : Fld Z h0 a1 "com/example/cablegram/cablegram/engine/Receive" "tag" "I" u_tag_a1) (F_type_a1 : Fld Z h0 a1 "com/example/cablegram/cablegram/engine/Receive" "type" "Lcom/example/cablegram/cablegram/engine/ElementType;" u_type_a1) (F_array_a1 : Fld Z h0 a1 "com/example/cablegram/cablegram/engine/Receive" "array" "Ljava/lang/Object;" u_array_a1) (F_offset_a1 : Fld Z h0 a1 "com/example/cablegram/cablegram/engine/Receive" "offset" "I" u_offset_a1) (F_count_a1 : Fld Z h0 a1 "com/example/cablegram/cablegram/engine/Receive" "count" "I" u_count_a1) (F_ahead_a1 : Fld Z h0 a1 "com/example/cablegram/cablegram/engine/Receive" "ahead" "Lcom/example/cablegram/cablegram/engine/ArraysAhead;" u_ahead_a1) :
    MetFree l own_n13 (head1 (Jvm.Cond.code own_n13 prog_82_method_1_code 11 none :: ws) own_r3) (fun a U => a = #[(.ref a1), .null, (.int p2), (.long q3), (.int p4), .null, .null, (.int p5), (.int p6), .null] ∧ Z.Warmed39 U.vm ∧ U.heap = h0) (fun _ _ _ _ _ => True) (fun _ U o U' => ∃ v L, o = .returned v ∧ Qk a1 h0 n0 v U'.heap L ∧ FrameEnd U o U' L own_r3.cells own_r3.slots) := by
  refine MetFree.of_bodySF (plainFor_of_name pn_15) hisR ?_
  intro p e s m args below meth c s₁ Bd hml0 hP hK
  obtain ⟨rfl, hZ, hh⟩ := hP
  have hx := Bd.exec
  have hby := Bd.bytes
  have hml : c.maxLocals = 11 := hml0
  have hown : s.vm.findClass "com/example/cablegram/cablegram/engine/Receive" = some m.cls := findClass_of_methodNamed Bd.named
  have hnm := (name_of_methodNamed Bd.named Bd.method).1
  have X0 : Stand p l e own_r3 s m #[(.ref a1), .null, (.int p2), (.long q3), (.int p4), .null, .null, (.int p5), (.int p6), .null] below meth c s₁ [] 0 0 := Stand.of_body Bd
  have e0 : s₁.heap = h0 := by rw [← hh, Bd.state]; rfl
  have N0 := Fr.nil n0
  have pre0 : ∀ t, Steps p.tables e below (s₁.setTop (mkF m 0 #[.val (.ref a1), .val .null, .val (.int p2), .val (.long q3), .second, .val (.int p4), .val .null, .val .null, .val (.int p5), .val (.int p6), .val .null] [])) t → Steps p.tables e below (s₁.setTop (entryFrame m #[(.ref a1), .null, (.int p2), (.long q3), (.int p4), .null, .null, (.int p5), (.int p6), .null] 11)) t := fun t k => castTop (ef_15_N m a1 p2 q3 p4 p5 p6) k
  obtain ⟨_, _, ⟨T7, L7, k7, n7⟩, -, X7, ⟨Lc7, hQ7, l7, y7, z7⟩, st7⟩ := X0.specialBack hx (y := own_n12) rfl hown (mvT hZ (own_w hw 106 rfl)) (mvT hZ (own_w hw 107 rfl)) (mvT hZ (own_w hw 110 rfl)) (by decide) (backOf (W := 0) (rm16 l Z a0 hw [] a1 uo h0 n0 Z0 E_a1 F_order_a1 g_a1) hZ (own_w hw 110 rfl) (own_w hw 109 rfl) (by decide) (by decide)) (g := (mkF m 2 #[.val (.ref a1), .val .null, .val (.int p2), .val (.long q3), .second, .val (.int p4), .val .null, .val .null, .val (.int p5), .val (.int p6), .val .null] [.null, (.ref a1)])) rfl (by rw [hml]; rfl) (Steps.refl _) (a := a1) (argsL := [.null]) (rest := []) (lenOf pd_15_12 rfl) rfl (by show 2 * 0 + _ ≤ _; exact Nat.le_of_eq rfl) (hb hby d15_2) (fun _ _ => ⟨rfl, e0, (by decide : 0 + 0 ≤ _), (by decide : 0 + 0 ≤ _)⟩)
  dsimp only [Pt.U, Pt.locs, Pt.cells, Pt.slots] at X7 l7 y7 z7 st7 hQ7
  subst l7 y7 z7
  obtain ⟨rfl, N7q, Wo⟩ := hQ7
  have N7 := Fr.app N0 N7q
  have F_source_a1k := F_source_a1.other Wo (Or.inr (slot_ne (Or.inr (own_w hw 115 rfl)) (Or.inr (own_w hw 113 rfl)) (by decide) (t := .int) (t' := (.object "com/example/cablegram/cablegram/engine/CompletionOrder")) (by decide) (by decide)))
  have F_context_a1k := F_context_a1.other Wo (Or.inr (slot_ne (Or.inr (own_w hw 117 rfl)) (Or.inr (own_w hw 113 rfl)) (by decide) (t := .long) (t' := (.object "com/example/cablegram/cablegram/engine/CompletionOrder")) (by decide) (by decide)))
  have F_tag_a1k := F_tag_a1.other Wo (Or.inr (slot_ne (Or.inr (own_w hw 119 rfl)) (Or.inr (own_w hw 113 rfl)) (by decide) (t := .int) (t' := (.object "com/example/cablegram/cablegram/engine/CompletionOrder")) (by decide) (by decide)))
  have F_type_a1k := F_type_a1.other Wo (Or.inr (slot_ne (Or.inr (own_w hw 121 rfl)) (Or.inr (own_w hw 113 rfl)) (by decide) (t := (.object own_s2)) (t' := (.object "com/example/cablegram/cablegram/engine/CompletionOrder")) (by decide) (by decide)))
  have F_array_a1k := F_array_a1.other Wo (Or.inr (slot_ne (Or.inr (own_w hw 123 rfl)) (Or.inr (own_w hw 113 rfl)) (by decide) (t := (.object "java/lang/Object")) (t' := (.object "com/example/cablegram/cablegram/engine/CompletionOrder")) (by decide) (by decide)))
  have F_offset_a1k := F_offset_a1.other Wo (Or.inr (slot_ne (Or.inr (own_w hw 125 rfl)) (Or.inr (own_w hw 113 rfl)) (by decide) (t := .int) (t' := (.object "com/example/cablegram/cablegram/engine/CompletionOrder")) (by decide) (by decide)))
  have F_count_a1k := F_count_a1.other Wo (Or.inr (slot_ne (Or.inr (own_w hw 127 rfl)) (Or.inr (own_w hw 113 rfl)) (by decide) (t := .int) (t' := (.object "com/example/cablegram/cablegram/engine/CompletionOrder")) (by decide) (by decide)))
  have F_ahead_a1k := F_ahead_a1.other Wo (Or.inr (slot_ne (Or.inr (own_w hw 129 rfl)) (Or.inr (own_w hw 113 rfl)) (by decide) (t := (.object "com/example/cablegram/cablegram/engine/ArraysAhead")) (t' := (.object "com/example/cablegram/cablegram/engine/CompletionOrder")) (by decide) (by decide)))
  obtain ⟨T8, h8, X8, e8, W8, st8⟩ := putF X7 hx hZ hown (host := "") (Or.inl (own_w hw 114 rfl)) Via.refl rfl F_source_a1k (E_a1.wr Wo) (Or.inr ⟨(own_w hw 115 rfl), rfl, hnm⟩) (own_w hw 101 rfl) (ty := .int) (by decide) rfl rfl (g := (mkF m 7 #[.val (.ref a1), .val .null, .val (.int p2), .val (.long q3), .second, .val (.int p4), .val .null, .val .null, .val (.int p5), .val (.int p6), .val .null] [(.int p2), (.ref a1)])) rfl rfl (hb hby d15_7)
  have Fw8 := F_source_a1k.same W8
  have K8 : Keep h0 h8 [a1] := (Keep.of_wr Wo).wr W8 (Or.inl (List.mem_of_getElem? (i := 0) rfl))
  have N8 := Fr.snoc X8 N7 g_a1
  obtain ⟨T9, h9, X9, e9, W9, st9⟩ := putF X8 hx hZ hown (host := "") (Or.inl (own_w hw 116 rfl)) Via.refl e8 (F_context_a1k.other W8 (Or.inr (slot_ne (Or.inr (own_w hw 117 rfl)) (Or.inr (own_w hw 115 rfl)) (by decide) (t := .long) (t' := .int) (by decide) (by decide)))) ((E_a1.wr Wo).wr W8) (Or.inr ⟨(own_w hw 117 rfl), rfl, hnm⟩) (own_w hw 101 rfl) (ty := .long) (by decide) rfl rfl (g := (mkF m 12 #[.val (.ref a1), .val .null, .val (.int p2), .val (.long q3), .second, .val (.int p4), .val .null, .val .null, .val (.int p5), .val (.int p6), .val .null] [(.long q3), (.ref a1)])) rfl rfl (hb hby d15_12)
  have Fw9 := (F_context_a1k.other W8 (Or.inr (slot_ne (Or.inr (own_w hw 117 rfl)) (Or.inr (own_w hw 115 rfl)) (by decide) (t := .long) (t' := .int) (by decide) (by decide)))).same W9
  have K9 : Keep h0 h9 [a1] := K8.wr W9 (Or.inl (List.mem_of_getElem? (i := 0) rfl))
  have N9 := Fr.snoc X9 N8 g_a1
  obtain ⟨T10, h10, X10, e10, W10, st10⟩ := putF X9 hx hZ hown (host := "") (Or.inl (own_w hw 118 rfl)) Via.refl e9 ((F_tag_a1k.other W8 (Or.inr (slot_ne (Or.inr (own_w hw 119 rfl)) (Or.inr (own_w hw 115 rfl)) (by decide) (t := .int) (t' := .int) (by decide) (by decide)))).other W9 (Or.inr (slot_ne (Or.inr (own_w hw 119 rfl)) (Or.inr (own_w hw 117 rfl)) (by decide) (t := .int) (t' := .long) (by decide) (by decide)))) (((E_a1.wr Wo).wr W8).wr W9) (Or.inr ⟨(own_w hw 119 rfl), rfl, hnm⟩) (own_w hw 101 rfl) (ty := .int) (by decide) rfl rfl (g := (mkF m 18 #[.val (.ref a1), .val .null, .val (.int p2), .val (.long q3), .second, .val (.int p4), .val .null, .val .null, .val (.int p5), .val (.int p6), .val .null] [(.int p4), (.ref a1)])) rfl rfl (hb hby d15_18)
  have Fw10 := ((F_tag_a1k.other W8 (Or.inr (slot_ne (Or.inr (own_w hw 119 rfl)) (Or.inr (own_w hw 115 rfl)) (by decide) (t := .int) (t' := .int) (by decide) (by decide)))).other W9 (Or.inr (slot_ne (Or.inr (own_w hw 119 rfl)) (Or.inr (own_w hw 117 rfl)) (by decide) (t := .int) (t' := .long) (by decide) (by decide)))).same W10
  have K10 : Keep h0 h10 [a1] := K9.wr W10 (Or.inl (List.mem_of_getElem? (i := 0) rfl))
  have N10 := Fr.snoc X10 N9 g_a1
  obtain ⟨T11, h11, X11, e11, W11, st11⟩ := putF X10 hx hZ hown (host := "") (Or.inl (own_w hw 120 rfl)) Via.refl e10 (((F_type_a1k.other W8 (Or.inr (slot_ne (Or.inr (own_w hw 121 rfl)) (Or.inr (own_w hw 115 rfl)) (by decide) (t := (.object own_s2)) (t' := .int) (by decide) (by decide)))).other W9 (Or.inr (slot_ne (Or.inr (own_w hw 121 rfl)) (Or.inr (own_w hw 117 rfl)) (by decide) (t := (.object own_s2)) (t' := .long) (by decide) (by decide)))).other W10 (Or.inr (slot_ne (Or.inr (own_w hw 121 rfl)) (Or.inr (own_w hw 119 rfl)) (by decide) (t := (.object own_s2)) (t' := .int) (by decide) (by decide)))) ((((E_a1.wr Wo).wr W8).wr W9).wr W10) (Or.inr ⟨(own_w hw 121 rfl), rfl, hnm⟩) (own_w hw 101 rfl) (ty := (.object own_s2)) (by decide) rfl rfl (g := (mkF m 24 #[.val (.ref a1), .val .null, .val (.int p2), .val (.long q3), .second, .val (.int p4), .val .null, .val .null, .val (.int p5), .val (.int p6), .val .null] [.null, (.ref a1)])) rfl rfl (hb hby d15_24)
  have Fw11 := (((F_type_a1k.other W8 (Or.inr (slot_ne (Or.inr (own_w hw 121 rfl)) (Or.inr (own_w hw 115 rfl)) (by decide) (t := (.object own_s2)) (t' := .int) (by decide) (by decide)))).other W9 (Or.inr (slot_ne (Or.inr (own_w hw 121 rfl)) (Or.inr (own_w hw 117 rfl)) (by decide) (t := (.object own_s2)) (t' := .long) (by decide) (by decide)))).other W10 (Or.inr (slot_ne (Or.inr (own_w hw 121 rfl)) (Or.inr (own_w hw 119 rfl)) (by decide) (t := (.object own_s2)) (t' := .int) (by decide) (by decide)))).same W11
  have K11 : Keep h0 h11 [a1] := K10.wr W11 (Or.inl (List.mem_of_getElem? (i := 0) rfl))
  have N11 := Fr.snoc X11 N10 g_a1
  obtain ⟨T12, h12, X12, e12, W12, st12⟩ := putF X11 hx hZ hown (host := "") (Or.inl (own_w hw 122 rfl)) Via.refl e11 ((((F_array_a1k.other W8 (Or.inr (slot_ne (Or.inr (own_w hw 123 rfl)) (Or.inr (own_w hw 115 rfl)) (by decide) (t := (.object "java/lang/Object")) (t' := .int) (by decide) (by decide)))).other W9 (Or.inr (slot_ne (Or.inr (own_w hw 123 rfl)) (Or.inr (own_w hw 117 rfl)) (by decide) (t := (.object "java/lang/Object")) (t' := .long) (by decide) (by decide)))).other W10 (Or.inr (slot_ne (Or.inr (own_w hw 123 rfl)) (Or.inr (own_w hw 119 rfl)) (by decide) (t := (.object "java/lang/Object")) (t' := .int) (by decide) (by decide)))).other W11 (Or.inr (slot_ne (Or.inr (own_w hw 123 rfl)) (Or.inr (own_w hw 121 rfl)) (by decide) (t := (.object "java/lang/Object")) (t' := (.object own_s2)) (by decide) (by decide)))) (((((E_a1.wr Wo).wr W8).wr W9).wr W10).wr W11) (Or.inr ⟨(own_w hw 123 rfl), rfl, hnm⟩) (own_w hw 101 rfl) (ty := (.object "java/lang/Object")) (by decide) rfl rfl (g := (mkF m 30 #[.val (.ref a1), .val .null, .val (.int p2), .val (.long q3), .second, .val (.int p4), .val .null, .val .null, .val (.int p5), .val (.int p6), .val .null] [.null, (.ref a1)])) rfl rfl (hb hby d15_30)
  have Fw12 := ((((F_array_a1k.other W8 (Or.inr (slot_ne (Or.inr (own_w hw 123 rfl)) (Or.inr (own_w hw 115 rfl)) (by decide) (t := (.object "java/lang/Object")) (t' := .int) (by decide) (by decide)))).other W9 (Or.inr (slot_ne (Or.inr (own_w hw 123 rfl)) (Or.inr (own_w hw 117 rfl)) (by decide) (t := (.object "java/lang/Object")) (t' := .long) (by decide) (by decide)))).other W10 (Or.inr (slot_ne (Or.inr (own_w hw 123 rfl)) (Or.inr (own_w hw 119 rfl)) (by decide) (t := (.object "java/lang/Object")) (t' := .int) (by decide) (by decide)))).other W11 (Or.inr (slot_ne (Or.inr (own_w hw 123 rfl)) (Or.inr (own_w hw 121 rfl)) (by decide) (t := (.object "java/lang/Object")) (t' := (.object own_s2)) (by decide) (by decide)))).same W12
  have K12 : Keep h0 h12 [a1] := K11.wr W12 (Or.inl (List.mem_of_getElem? (i := 0) rfl))
  have N12 := Fr.snoc X12 N11 g_a1
  obtain ⟨T13, h13, X13, e13, W13, st13⟩ := putF X12 hx hZ hown (host := "") (Or.inl (own_w hw 124 rfl)) Via.refl e12 (((((F_offset_a1k.other W8 (Or.inr (slot_ne (Or.inr (own_w hw 125 rfl)) (Or.inr (own_w hw 115 rfl)) (by decide) (t := .int) (t' := .int) (by decide) (by decide)))).other W9 (Or.inr (slot_ne (Or.inr (own_w hw 125 rfl)) (Or.inr (own_w hw 117 rfl)) (by decide) (t := .int) (t' := .long) (by decide) (by decide)))).other W10 (Or.inr (slot_ne (Or.inr (own_w hw 125 rfl)) (Or.inr (own_w hw 119 rfl)) (by decide) (t := .int) (t' := .int) (by decide) (by decide)))).other W11 (Or.inr (slot_ne (Or.inr (own_w hw 125 rfl)) (Or.inr (own_w hw 121 rfl)) (by decide) (t := .int) (t' := (.object own_s2)) (by decide) (by decide)))).other W12 (Or.inr (slot_ne (Or.inr (own_w hw 125 rfl)) (Or.inr (own_w hw 123 rfl)) (by decide) (t := .int) (t' := (.object "java/lang/Object")) (by decide) (by decide)))) ((((((E_a1.wr Wo).wr W8).wr W9).wr W10).wr W11).wr W12) (Or.inr ⟨(own_w hw 125 rfl), rfl, hnm⟩) (own_w hw 101 rfl) (ty := .int) (by decide) rfl rfl (g := (mkF m 36 #[.val (.ref a1), .val .null, .val (.int p2), .val (.long q3), .second, .val (.int p4), .val .null, .val .null, .val (.int p5), .val (.int p6), .val .null] [(.int p5), (.ref a1)])) rfl rfl (hb hby d15_36)
  have Fw13 := (((((F_offset_a1k.other W8 (Or.inr (slot_ne (Or.inr (own_w hw 125 rfl)) (Or.inr (own_w hw 115 rfl)) (by decide) (t := .int) (t' := .int) (by decide) (by decide)))).other W9 (Or.inr (slot_ne (Or.inr (own_w hw 125 rfl)) (Or.inr (own_w hw 117 rfl)) (by decide) (t := .int) (t' := .long) (by decide) (by decide)))).other W10 (Or.inr (slot_ne (Or.inr (own_w hw 125 rfl)) (Or.inr (own_w hw 119 rfl)) (by decide) (t := .int) (t' := .int) (by decide) (by decide)))).other W11 (Or.inr (slot_ne (Or.inr (own_w hw 125 rfl)) (Or.inr (own_w hw 121 rfl)) (by decide) (t := .int) (t' := (.object own_s2)) (by decide) (by decide)))).other W12 (Or.inr (slot_ne (Or.inr (own_w hw 125 rfl)) (Or.inr (own_w hw 123 rfl)) (by decide) (t := .int) (t' := (.object "java/lang/Object")) (by decide) (by decide)))).same W13
  have K13 : Keep h0 h13 [a1] := K12.wr W13 (Or.inl (List.mem_of_getElem? (i := 0) rfl))
  have N13 := Fr.snoc X13 N12 g_a1
  obtain ⟨T14, h14, X14, e14, W14, st14⟩ := putF X13 hx hZ hown (host := "") (Or.inl (own_w hw 126 rfl)) Via.refl e13 ((((((F_count_a1k.other W8 (Or.inr (slot_ne (Or.inr (own_w hw 127 rfl)) (Or.inr (own_w hw 115 rfl)) (by decide) (t := .int) (t' := .int) (by decide) (by decide)))).other W9 (Or.inr (slot_ne (Or.inr (own_w hw 127 rfl)) (Or.inr (own_w hw 117 rfl)) (by decide) (t := .int) (t' := .long) (by decide) (by decide)))).other W10 (Or.inr (slot_ne (Or.inr (own_w hw 127 rfl)) (Or.inr (own_w hw 119 rfl)) (by decide) (t := .int) (t' := .int) (by decide) (by decide)))).other W11 (Or.inr (slot_ne (Or.inr (own_w hw 127 rfl)) (Or.inr (own_w hw 121 rfl)) (by decide) (t := .int) (t' := (.object own_s2)) (by decide) (by decide)))).other W12 (Or.inr (slot_ne (Or.inr (own_w hw 127 rfl)) (Or.inr (own_w hw 123 rfl)) (by decide) (t := .int) (t' := (.object "java/lang/Object")) (by decide) (by decide)))).other W13 (Or.inr (slot_ne (Or.inr (own_w hw 127 rfl)) (Or.inr (own_w hw 125 rfl)) (by decide) (t := .int) (t' := .int) (by decide) (by decide)))) (((((((E_a1.wr Wo).wr W8).wr W9).wr W10).wr W11).wr W12).wr W13) (Or.inr ⟨(own_w hw 127 rfl), rfl, hnm⟩) (own_w hw 101 rfl) (ty := .int) (by decide) rfl rfl (g := (mkF m 42 #[.val (.ref a1), .val .null, .val (.int p2), .val (.long q3), .second, .val (.int p4), .val .null, .val .null, .val (.int p5), .val (.int p6), .val .null] [(.int p6), (.ref a1)])) rfl rfl (hb hby d15_42)
  have Fw14 := ((((((F_count_a1k.other W8 (Or.inr (slot_ne (Or.inr (own_w hw 127 rfl)) (Or.inr (own_w hw 115 rfl)) (by decide) (t := .int) (t' := .int) (by decide) (by decide)))).other W9 (Or.inr (slot_ne (Or.inr (own_w hw 127 rfl)) (Or.inr (own_w hw 117 rfl)) (by decide) (t := .int) (t' := .long) (by decide) (by decide)))).other W10 (Or.inr (slot_ne (Or.inr (own_w hw 127 rfl)) (Or.inr (own_w hw 119 rfl)) (by decide) (t := .int) (t' := .int) (by decide) (by decide)))).other W11 (Or.inr (slot_ne (Or.inr (own_w hw 127 rfl)) (Or.inr (own_w hw 121 rfl)) (by decide) (t := .int) (t' := (.object own_s2)) (by decide) (by decide)))).other W12 (Or.inr (slot_ne (Or.inr (own_w hw 127 rfl)) (Or.inr (own_w hw 123 rfl)) (by decide) (t := .int) (t' := (.object "java/lang/Object")) (by decide) (by decide)))).other W13 (Or.inr (slot_ne (Or.inr (own_w hw 127 rfl)) (Or.inr (own_w hw 125 rfl)) (by decide) (t := .int) (t' := .int) (by decide) (by decide)))).same W14
  have K14 : Keep h0 h14 [a1] := K13.wr W14 (Or.inl (List.mem_of_getElem? (i := 0) rfl))
  have N14 := Fr.snoc X14 N13 g_a1
  obtain ⟨T15, h15, X15, e15, W15, st15⟩ := putF X14 hx hZ hown (host := "") (Or.inl (own_w hw 128 rfl)) Via.refl e14 (((((((F_ahead_a1k.other W8 (Or.inr (slot_ne (Or.inr (own_w hw 129 rfl)) (Or.inr (own_w hw 115 rfl)) (by decide) (t := (.object "com/example/cablegram/cablegram/engine/ArraysAhead")) (t' := .int) (by decide) (by decide)))).other W9 (Or.inr (slot_ne (Or.inr (own_w hw 129 rfl)) (Or.inr (own_w hw 117 rfl)) (by decide) (t := (.object "com/example/cablegram/cablegram/engine/ArraysAhead")) (t' := .long) (by decide) (by decide)))).other W10 (Or.inr (slot_ne (Or.inr (own_w hw 129 rfl)) (Or.inr (own_w hw 119 rfl)) (by decide) (t := (.object "com/example/cablegram/cablegram/engine/ArraysAhead")) (t' := .int) (by decide) (by decide)))).other W11 (Or.inr (slot_ne (Or.inr (own_w hw 129 rfl)) (Or.inr (own_w hw 121 rfl)) (by decide) (t := (.object "com/example/cablegram/cablegram/engine/ArraysAhead")) (t' := (.object own_s2)) (by decide) (by decide)))).other W12 (Or.inr (slot_ne (Or.inr (own_w hw 129 rfl)) (Or.inr (own_w hw 123 rfl)) (by decide) (t := (.object "com/example/cablegram/cablegram/engine/ArraysAhead")) (t' := (.object "java/lang/Object")) (by decide) (by decide)))).other W13 (Or.inr (slot_ne (Or.inr (own_w hw 129 rfl)) (Or.inr (own_w hw 125 rfl)) (by decide) (t := (.object "com/example/cablegram/cablegram/engine/ArraysAhead")) (t' := .int) (by decide) (by decide)))).other W14 (Or.inr (slot_ne (Or.inr (own_w hw 129 rfl)) (Or.inr (own_w hw 127 rfl)) (by decide) (t := (.object "com/example/cablegram/cablegram/engine/ArraysAhead")) (t' := .int) (by decide) (by decide)))) ((((((((E_a1.wr Wo).wr W8).wr W9).wr W10).wr W11).wr W12).wr W13).wr W14) (Or.inr ⟨(own_w hw 129 rfl), rfl, hnm⟩) (own_w hw 101 rfl) (ty := (.object "com/example/cablegram/cablegram/engine/ArraysAhead")) (by decide) rfl rfl (g := (mkF m 48 #[.val (.ref a1), .val .null, .val (.int p2), .val (.long q3), .second, .val (.int p4), .val .null, .val .null, .val (.int p5), .val (.int p6), .val .null] [.null, (.ref a1)])) rfl rfl (hb hby d15_48)
  have Fw15 := (((((((F_ahead_a1k.other W8 (Or.inr (slot_ne (Or.inr (own_w hw 129 rfl)) (Or.inr (own_w hw 115 rfl)) (by decide) (t := (.object "com/example/cablegram/cablegram/engine/ArraysAhead")) (t' := .int) (by decide) (by decide)))).other W9 (Or.inr (slot_ne (Or.inr (own_w hw 129 rfl)) (Or.inr (own_w hw 117 rfl)) (by decide) (t := (.object "com/example/cablegram/cablegram/engine/ArraysAhead")) (t' := .long) (by decide) (by decide)))).other W10 (Or.inr (slot_ne (Or.inr (own_w hw 129 rfl)) (Or.inr (own_w hw 119 rfl)) (by decide) (t := (.object "com/example/cablegram/cablegram/engine/ArraysAhead")) (t' := .int) (by decide) (by decide)))).other W11 (Or.inr (slot_ne (Or.inr (own_w hw 129 rfl)) (Or.inr (own_w hw 121 rfl)) (by decide) (t := (.object "com/example/cablegram/cablegram/engine/ArraysAhead")) (t' := (.object own_s2)) (by decide) (by decide)))).other W12 (Or.inr (slot_ne (Or.inr (own_w hw 129 rfl)) (Or.inr (own_w hw 123 rfl)) (by decide) (t := (.object "com/example/cablegram/cablegram/engine/ArraysAhead")) (t' := (.object "java/lang/Object")) (by decide) (by decide)))).other W13 (Or.inr (slot_ne (Or.inr (own_w hw 129 rfl)) (Or.inr (own_w hw 125 rfl)) (by decide) (t := (.object "com/example/cablegram/cablegram/engine/ArraysAhead")) (t' := .int) (by decide) (by decide)))).other W14 (Or.inr (slot_ne (Or.inr (own_w hw 129 rfl)) (Or.inr (own_w hw 127 rfl)) (by decide) (t := (.object "com/example/cablegram/cablegram/engine/ArraysAhead")) (t' := .int) (by decide) (by decide)))).same W15
  have K15 : Keep h0 h15 [a1] := K14.wr W15 (Or.inl (List.mem_of_getElem? (i := 0) rfl))
  have N15 := Fr.snoc X15 N14 g_a1
  obtain ⟨fs, hr, hrun, hended, hW, hsame⟩ := X15.leave (v := none) (fun _ => rfl)
  refine ⟨_, _, pre0 _ ?_, hrun, hended, _, _, rfl, ?_, ⟨_, rfl⟩, hW, hsame.mono (by decide) (by decide)⟩
  · show Steps _ _ _ (s₁.setTop (mkF m 0 #[.val (.ref a1), .val .null, .val (.int p2), .val (.long q3), .second, .val (.int p4), .val .null, .val .null, .val (.int p5), .val (.int p6), .val .null] [])) _
    refine XS.aloadN X0.here hx rfl (hb hby d15_0) rfl rfl ?_
    show Steps _ _ _ (s₁.setTop (mkF m 1 #[.val (.ref a1), .val .null, .val (.int p2), .val (.long q3), .second, .val (.int p4), .val .null, .val .null, .val (.int p5), .val (.int p6), .val .null] [(.ref a1)])) _
    refine XS.aloadN X0.here hx rfl (hb hby d15_1) rfl rfl ?_
    show Steps _ _ _ (s₁.setTop (mkF m 2 #[.val (.ref a1), .val .null, .val (.int p2), .val (.long q3), .second, .val (.int p4), .val .null, .val .null, .val (.int p5), .val (.int p6), .val .null] [.null, (.ref a1)])) _
    refine st7.trans ?_
    show Steps _ _ _ (T7.setTop (mkF m 5 #[.val (.ref a1), .val .null, .val (.int p2), .val (.long q3), .second, .val (.int p4), .val .null, .val .null, .val (.int p5), .val (.int p6), .val .null] [])) _
    refine XS.aloadN X7.here hx rfl (hb hby d15_5) rfl rfl ?_
    show Steps _ _ _ (T7.setTop (mkF m 6 #[.val (.ref a1), .val .null, .val (.int p2), .val (.long q3), .second, .val (.int p4), .val .null, .val .null, .val (.int p5), .val (.int p6), .val .null] [(.ref a1)])) _
    refine XS.iloadN X7.here hx rfl (hb hby d15_6) rfl ?_
    show Steps _ _ _ (T7.setTop (mkF m 7 #[.val (.ref a1), .val .null, .val (.int p2), .val (.long q3), .second, .val (.int p4), .val .null, .val .null, .val (.int p5), .val (.int p6), .val .null] [(.int p2), (.ref a1)])) _
    refine st8 _ ?_
    show Steps _ _ _ (T8.setTop (mkF m 10 #[.val (.ref a1), .val .null, .val (.int p2), .val (.long q3), .second, .val (.int p4), .val .null, .val .null, .val (.int p5), .val (.int p6), .val .null] [])) _
    refine XS.aloadN X8.here hx rfl (hb hby d15_10) rfl rfl ?_
    show Steps _ _ _ (T8.setTop (mkF m 11 #[.val (.ref a1), .val .null, .val (.int p2), .val (.long q3), .second, .val (.int p4), .val .null, .val .null, .val (.int p5), .val (.int p6), .val .null] [(.ref a1)])) _
    refine XS.lloadN X8.here hx rfl (hb hby d15_11) rfl ?_
    show Steps _ _ _ (T8.setTop (mkF m 12 #[.val (.ref a1), .val .null, .val (.int p2), .val (.long q3), .second, .val (.int p4), .val .null, .val .null, .val (.int p5), .val (.int p6), .val .null] [(.long q3), (.ref a1)])) _
    refine st9 _ ?_
    show Steps _ _ _ (T9.setTop (mkF m 15 #[.val (.ref a1), .val .null, .val (.int p2), .val (.long q3), .second, .val (.int p4), .val .null, .val .null, .val (.int p5), .val (.int p6), .val .null] [])) _
    refine XS.aloadN X9.here hx rfl (hb hby d15_15) rfl rfl ?_
    show Steps _ _ _ (T9.setTop (mkF m 16 #[.val (.ref a1), .val .null, .val (.int p2), .val (.long q3), .second, .val (.int p4), .val .null, .val .null, .val (.int p5), .val (.int p6), .val .null] [(.ref a1)])) _
    refine XS.iload X9.here hx rfl (hb hby d15_16) rfl ?_
    show Steps _ _ _ (T9.setTop (mkF m 18 #[.val (.ref a1), .val .null, .val (.int p2), .val (.long q3), .second, .val (.int p4), .val .null, .val .null, .val (.int p5), .val (.int p6), .val .null] [(.int p4), (.ref a1)])) _
    refine st10 _ ?_
    show Steps _ _ _ (T10.setTop (mkF m 21 #[.val (.ref a1), .val .null, .val (.int p2), .val (.long q3), .second, .val (.int p4), .val .null, .val .null, .val (.int p5), .val (.int p6), .val .null] [])) _
    refine XS.aloadN X10.here hx rfl (hb hby d15_21) rfl rfl ?_
    show Steps _ _ _ (T10.setTop (mkF m 22 #[.val (.ref a1), .val .null, .val (.int p2), .val (.long q3), .second, .val (.int p4), .val .null, .val .null, .val (.int p5), .val (.int p6), .val .null] [(.ref a1)])) _
    refine XS.aload X10.here hx rfl (hb hby d15_22) rfl rfl ?_
    show Steps _ _ _ (T10.setTop (mkF m 24 #[.val (.ref a1), .val .null, .val (.int p2), .val (.long q3), .second, .val (.int p4), .val .null, .val .null, .val (.int p5), .val (.int p6), .val .null] [.null, (.ref a1)])) _
    refine st11 _ ?_
    show Steps _ _ _ (T11.setTop (mkF m 27 #[.val (.ref a1), .val .null, .val (.int p2), .val (.long q3), .second, .val (.int p4), .val .null, .val .null, .val (.int p5), .val (.int p6), .val .null] [])) _
    refine XS.aloadN X11.here hx rfl (hb hby d15_27) rfl rfl ?_
    show Steps _ _ _ (T11.setTop (mkF m 28 #[.val (.ref a1), .val .null, .val (.int p2), .val (.long q3), .second, .val (.int p4), .val .null, .val .null, .val (.int p5), .val (.int p6), .val .null] [(.ref a1)])) _
    refine XS.aload X11.here hx rfl (hb hby d15_28) rfl rfl ?_
    show Steps _ _ _ (T11.setTop (mkF m 30 #[.val (.ref a1), .val .null, .val (.int p2), .val (.long q3), .second, .val (.int p4), .val .null, .val .null, .val (.int p5), .val (.int p6), .val .null] [.null, (.ref a1)])) _
    refine st12 _ ?_
    show Steps _ _ _ (T12.setTop (mkF m 33 #[.val (.ref a1), .val .null, .val (.int p2), .val (.long q3), .second, .val (.int p4), .val .null, .val .null, .val (.int p5), .val (.int p6), .val .null] [])) _
    refine XS.aloadN X12.here hx rfl (hb hby d15_33) rfl rfl ?_
    show Steps _ _ _ (T12.setTop (mkF m 34 #[.val (.ref a1), .val .null, .val (.int p2), .val (.long q3), .second, .val (.int p4), .val .null, .val .null, .val (.int p5), .val (.int p6), .val .null] [(.ref a1)])) _
    refine XS.iload X12.here hx rfl (hb hby d15_34) rfl ?_
    show Steps _ _ _ (T12.setTop (mkF m 36 #[.val (.ref a1), .val .null, .val (.int p2), .val (.long q3), .second, .val (.int p4), .val .null, .val .null, .val (.int p5), .val (.int p6), .val .null] [(.int p5), (.ref a1)])) _
    refine st13 _ ?_
    show Steps _ _ _ (T13.setTop (mkF m 39 #[.val (.ref a1), .val .null, .val (.int p2), .val (.long q3), .second, .val (.int p4), .val .null, .val .null, .val (.int p5), .val (.int p6), .val .null] [])) _
    refine XS.aloadN X13.here hx rfl (hb hby d15_39) rfl rfl ?_
    show Steps _ _ _ (T13.setTop (mkF m 40 #[.val (.ref a1), .val .null, .val (.int p2), .val (.long q3), .second, .val (.int p4), .val .null, .val .null, .val (.int p5), .val (.int p6), .val .null] [(.ref a1)])) _
    refine XS.iload X13.here hx rfl (hb hby d15_40) rfl ?_
    show Steps _ _ _ (T13.setTop (mkF m 42 #[.val (.ref a1), .val .null, .val (.int p2), .val (.long q3), .second, .val (.int p4), .val .null, .val .null, .val (.int p5), .val (.int p6), .val .null] [(.int p6), (.ref a1)])) _
    refine st14 _ ?_
    show Steps _ _ _ (T14.setTop (mkF m 45 #[.val (.ref a1), .val .null, .val (.int p2), .val (.long q3), .second, .val (.int p4), .val .null, .val .null, .val (.int p5), .val (.int p6), .val .null] [])) _
    refine XS.aloadN X14.here hx rfl (hb hby d15_45) rfl rfl ?_
    show Steps _ _ _ (T14.setTop (mkF m 46 #[.val (.ref a1), .val .null, .val (.int p2), .val (.long q3), .second, .val (.int p4), .val .null, .val .null, .val (.int p5), .val (.int p6), .val .null] [(.ref a1)])) _
    refine XS.aload X14.here hx rfl (hb hby d15_46) rfl rfl ?_
    show Steps _ _ _ (T14.setTop (mkF m 48 #[.val (.ref a1), .val .null, .val (.int p2), .val (.long q3), .second, .val (.int p4), .val .null, .val .null, .val (.int p5), .val (.int p6), .val .null] [.null, (.ref a1)])) _
    refine st15 _ ?_
    show Steps _ _ _ (T15.setTop (mkF m 51 #[.val (.ref a1), .val .null, .val (.int p2), .val (.long q3), .second, .val (.int p4), .val .null, .val .null, .val (.int p5), .val (.int p6), .val .null] [])) _
    exact X15.returnOut hx Bd.returns (hb hby d15_51) hr
  · show Qk a1 h0 n0 _ T15.heap _
    rw [e15]
    exact ⟨rfl, N15, K15⟩
def Qm (Z : State) (a1 : Addr) (v0 v1 v2 v3 v4 v5 v6 v7 v8 v9 v11 : Value) (h0 : Heap) (n0 : Nat) (v : Option Value) (h : Heap) (L : List Loc) : Prop := ∃ b : Addr, v = some (.ref b) ∧ Fr n0 L ∧ Keep h0 h [a1] ∧ Br Z h a1 v0 v1 v2 v3 v4 v5 v6 v7 v8 v9 (.ref b) v11
theorem d14_0 : decode prog_5_method_8_code 0 = .ok (.aload_n 0, 1) := by decide +kernel
theorem d14_1 : decode prog_5_method_8_code 1 = .ok (.new 87, 3) := by decide +kernel
theorem d14_4 : decode prog_5_method_8_code 4 = .ok (.dup, 1) := by decide +kernel
theorem d14_5 : decode prog_5_method_8_code 5 = .ok (.aload_n 1, 1) := by decide +kernel
theorem d14_6 : decode prog_5_method_8_code 6 = .ok (.aload_n 0, 1) := by decide +kernel
theorem d14_7 : decode prog_5_method_8_code 7 = .ok (.getfield 13, 3) := by decide +kernel
theorem d14_10 : decode prog_5_method_8_code 10 = .ok (.aload_n 0, 1) := by decide +kernel
theorem d14_11 : decode prog_5_method_8_code 11 = .ok (.getfield 17, 3) := by decide +kernel
theorem d14_14 : decode prog_5_method_8_code 14 = .ok (.aload_n 0, 1) := by decide +kernel
theorem d14_15 : decode prog_5_method_8_code 15 = .ok (.getfield 21, 3) := by decide +kernel
theorem d14_18 : decode prog_5_method_8_code 18 = .ok (.aload_n 0, 1) := by decide +kernel
theorem d14_19 : decode prog_5_method_8_code 19 = .ok (.getfield 24, 3) := by decide +kernel
theorem d14_22 : decode prog_5_method_8_code 22 = .ok (.aload_n 0, 1) := by decide +kernel
theorem d14_23 : decode prog_5_method_8_code 23 = .ok (.getfield 28, 3) := by decide +kernel
theorem d14_26 : decode prog_5_method_8_code 26 = .ok (.aload_n 0, 1) := by decide +kernel
theorem d14_27 : decode prog_5_method_8_code 27 = .ok (.getfield 32, 3) := by decide +kernel
theorem d14_30 : decode prog_5_method_8_code 30 = .ok (.aload_n 0, 1) := by decide +kernel
theorem d14_31 : decode prog_5_method_8_code 31 = .ok (.getfield 35, 3) := by decide +kernel
theorem d14_34 : decode prog_5_method_8_code 34 = .ok (.aload_n 2, 1) := by decide +kernel
theorem d14_35 : decode prog_5_method_8_code 35 = .ok (.invokespecial 89, 3) := by decide +kernel
theorem d14_38 : decode prog_5_method_8_code 38 = .ok (.putfield 44, 3) := by decide +kernel
theorem d14_41 : decode prog_5_method_8_code 41 = .ok (.aload_n 0, 1) := by decide +kernel
theorem d14_42 : decode prog_5_method_8_code 42 = .ok (.getfield 44, 3) := by decide +kernel
theorem d14_45 : decode prog_5_method_8_code 45 = .ok (.areturn, 1) := by decide +kernel
theorem pn_14 : plainName own_s0 = true := by first | (simp [plainName, overriddenIn]; done) | decide +kernel
theorem pd_14_11 : parseMethodDescriptor "(Lcom/example/cablegram/cablegram/engine/CompletionOrder;IJILcom/example/cablegram/cablegram/engine/ElementType;Ljava/lang/Object;IILcom/example/cablegram/cablegram/engine/ArraysAhead;)V" = some ⟨[(.object "com/example/cablegram/cablegram/engine/CompletionOrder"), .int, .long, .int, (.object own_s2), (.object "java/lang/Object"), .int, .int, (.object "com/example/cablegram/cablegram/engine/ArraysAhead")], none⟩ := by decide +kernel
theorem ef_14 (m : MethodId) (x0 : Addr) : entryFrame m #[(.ref x0), .null, .null] 3 = mkF m 0 #[.val (.ref x0), .val .null, .val .null] [] := by first | (simp [entryFrame, mkF, argsToLocals, Value.category]; done) | rfl
theorem rm14_R (l : Launch) (Z : State) (a0 : Array Value) (hw : ∀ d ∈ tables_1, d.before a0 Z = true) (ws : List Jvm.Cond) (a1 : Addr) (w3 : Int32) (w5 : Int64) (w7 : Int32) (w9 w11 : Addr) (w13 w15 : Int32) (u_made_a1 : Value) (h0 : Heap) (n0 : Nat) (Z0 : n0 ≤ h0.size) (v0 v8 v9 v11 : Value) (B : Br Z h0 a1 v0 (.int w3) (.long w5) (.int w7) (.ref w9) (.ref w11) (.int w13) (.int w15) v8 v9 u_made_a1 v11) (F_source_a1 : Fld Z h0 a1 own_s0 "source" "I" (.int w3)) (F_context_a1 : Fld Z h0 a1 own_s0 "context" "J" (.long w5)) (F_tag_a1 : Fld Z h0 a1 own_s0 "tag" "I" (.int w7)) (F_type_a1 : Fld Z h0 a1 own_s0 "type" "Lcom/example/cablegram/cablegram/engine/ElementType;" (.ref w9)) (F_array_a1 : Fld Z h0 a1 own_s0 "array" "Ljava/lang/Object;" (.ref w11)) (F_offset_a1 : Fld Z h0 a1 own_s0 "offset" "I" (.int w13)) (F_count_a1 : Fld Z h0 a1 own_s0 "count" "I" (.int w15)) (E_a1 : Exa Z h0 a1 own_s0) (F_made_a1 : Fld Z h0 a1 own_s0 "made" "Lcom/example/cablegram/cablegram/engine/Receive;" u_made_a1) (g_a1 : n0 ≤ a1) :
    MetFree l own_n14 (head1 (Jvm.Cond.code own_n14 prog_5_method_8_code 3 (some (.object "com/example/cablegram/cablegram/engine/Receive")) :: ws) own_r4) (fun a U => a = #[(.ref a1), .null, .null] ∧ Z.Warmed39 U.vm ∧ U.heap = h0) (fun _ _ _ _ _ => True) (fun _ U o U' => ∃ v L, o = .returned v ∧ Qm Z a1 v0 (.int w3) (.long w5) (.int w7) (.ref w9) (.ref w11) (.int w13) (.int w15) v8 v9 v11 h0 n0 v U'.heap L ∧ FrameEnd U o U' L own_r4.cells own_r4.slots) := by
  refine MetFree.of_bodySF (plainFor_of_name pn_14) hisR ?_
  intro p e s m args below meth c s₁ Bd hml0 hP hK
  obtain ⟨rfl, hZ, hh⟩ := hP
  have hx := Bd.exec
  have hby := Bd.bytes
  have hml : c.maxLocals = 3 := hml0
  have hown : s.vm.findClass own_s0 = some m.cls := findClass_of_methodNamed Bd.named
  have hnm := (name_of_methodNamed Bd.named Bd.method).1
  have X0 : Stand p l e own_r4 s m #[(.ref a1), .null, .null] below meth c s₁ [] 0 0 := Stand.of_body Bd
  have e0 : s₁.heap = h0 := by rw [← hh, Bd.state]; rfl
  have N0 := Fr.nil n0
  have pre0 : ∀ t, Steps p.tables e below (s₁.setTop (mkF m 0 #[.val (.ref a1), .val .null, .val .null] [])) t → Steps p.tables e below (s₁.setTop (entryFrame m #[(.ref a1), .null, .null] 3)) t := fun t k => castTop (ef_14 m a1) k
  obtain ⟨T2, h2, X2, e2, E2, A2, D2, -, st2⟩ := newO X0 hx hZ hown (own_w hw 100 rfl) (own_w hw 101 rfl) (own_w hw 102 rfl) e0 (g := (mkF m 1 #[.val (.ref a1), .val .null, .val .null] [(.ref a1)])) rfl (hb hby d14_1) (by decide) (by decide)
  obtain ⟨b2, g2⟩ : ∃ z, z = h0.size := ⟨_, rfl⟩
  rw [← g2] at A2 D2 st2
  have F_order_b2 : Fld Z h2 b2 "com/example/cablegram/cablegram/engine/Operation" "order" "Lcom/example/cablegram/cablegram/engine/CompletionOrder;" .null := D2 (Or.inr (own_w hw 113 rfl)) (ty := (.object "com/example/cablegram/cablegram/engine/CompletionOrder")) (by decide)
  have F_source_b2 : Fld Z h2 b2 "com/example/cablegram/cablegram/engine/Receive" "source" "I" (.int (0 : Int32)) := D2 (Or.inr (own_w hw 115 rfl)) (ty := .int) (by decide)
  have F_context_b2 : Fld Z h2 b2 "com/example/cablegram/cablegram/engine/Receive" "context" "J" (.long (0 : Int64)) := D2 (Or.inr (own_w hw 117 rfl)) (ty := .long) (by decide)
  have F_tag_b2 : Fld Z h2 b2 "com/example/cablegram/cablegram/engine/Receive" "tag" "I" (.int (0 : Int32)) := D2 (Or.inr (own_w hw 119 rfl)) (ty := .int) (by decide)
  have F_type_b2 : Fld Z h2 b2 "com/example/cablegram/cablegram/engine/Receive" "type" "Lcom/example/cablegram/cablegram/engine/ElementType;" .null := D2 (Or.inr (own_w hw 121 rfl)) (ty := (.object own_s2)) (by decide)
  have F_array_b2 : Fld Z h2 b2 "com/example/cablegram/cablegram/engine/Receive" "array" "Ljava/lang/Object;" .null := D2 (Or.inr (own_w hw 123 rfl)) (ty := (.object "java/lang/Object")) (by decide)
  have F_offset_b2 : Fld Z h2 b2 "com/example/cablegram/cablegram/engine/Receive" "offset" "I" (.int (0 : Int32)) := D2 (Or.inr (own_w hw 125 rfl)) (ty := .int) (by decide)
  have F_count_b2 : Fld Z h2 b2 "com/example/cablegram/cablegram/engine/Receive" "count" "I" (.int (0 : Int32)) := D2 (Or.inr (own_w hw 127 rfl)) (ty := .int) (by decide)
  have F_ahead_b2 : Fld Z h2 b2 "com/example/cablegram/cablegram/engine/Receive" "ahead" "Lcom/example/cablegram/cablegram/engine/ArraysAhead;" .null := D2 (Or.inr (own_w hw 129 rfl)) (ty := (.object "com/example/cablegram/cablegram/engine/ArraysAhead")) (by decide)
  have E_b2 := A2
  have g_b2 : n0 ≤ b2 := Nat.le_trans Z0 (Nat.le_of_eq g2.symm)
  have sz_b2 : h0.size ≤ b2 := (Nat.le_trans (Keep.refl h0 [a1]).1 (Nat.le_of_eq g2.symm))
  have K2 : Keep h0 h2 [a1] := (Keep.refl h0 [a1]).ext E2
  obtain ⟨T4, X4, e4, st4⟩ := getF X2 hx hZ hown (host := "") (Or.inl (own_w hw 26 rfl)) Via.refl e2 (F_source_a1.ext E2) (g := (mkF m 7 #[.val (.ref a1), .val .null, .val .null] [(.ref a1), .null, (.ref b2), (.ref b2), (.ref a1)])) rfl rfl (hb hby d14_7)
  obtain ⟨T6, X6, e6, st6⟩ := getF X4 hx hZ hown (host := "") (Or.inl (own_w hw 28 rfl)) Via.refl e4 (F_context_a1.ext E2) (g := (mkF m 11 #[.val (.ref a1), .val .null, .val .null] [(.ref a1), (.int w3), .null, (.ref b2), (.ref b2), (.ref a1)])) rfl rfl (hb hby d14_11)
  obtain ⟨T8, X8, e8, st8⟩ := getF X6 hx hZ hown (host := "") (Or.inl (own_w hw 30 rfl)) Via.refl e6 (F_tag_a1.ext E2) (g := (mkF m 15 #[.val (.ref a1), .val .null, .val .null] [(.ref a1), (.long w5), (.int w3), .null, (.ref b2), (.ref b2), (.ref a1)])) rfl rfl (hb hby d14_15)
  obtain ⟨T10, X10, e10, st10⟩ := getF X8 hx hZ hown (host := "") (Or.inl (own_w hw 32 rfl)) Via.refl e8 (F_type_a1.ext E2) (g := (mkF m 19 #[.val (.ref a1), .val .null, .val .null] [(.ref a1), (.int w7), (.long w5), (.int w3), .null, (.ref b2), (.ref b2), (.ref a1)])) rfl rfl (hb hby d14_19)
  obtain ⟨T12, X12, e12, st12⟩ := getF X10 hx hZ hown (host := "") (Or.inl (own_w hw 34 rfl)) Via.refl e10 (F_array_a1.ext E2) (g := (mkF m 23 #[.val (.ref a1), .val .null, .val .null] [(.ref a1), (.ref w9), (.int w7), (.long w5), (.int w3), .null, (.ref b2), (.ref b2), (.ref a1)])) rfl rfl (hb hby d14_23)
  obtain ⟨T14, X14, e14, st14⟩ := getF X12 hx hZ hown (host := "") (Or.inl (own_w hw 36 rfl)) Via.refl e12 (F_offset_a1.ext E2) (g := (mkF m 27 #[.val (.ref a1), .val .null, .val .null] [(.ref a1), (.ref w11), (.ref w9), (.int w7), (.long w5), (.int w3), .null, (.ref b2), (.ref b2), (.ref a1)])) rfl rfl (hb hby d14_27)
  obtain ⟨T16, X16, e16, st16⟩ := getF X14 hx hZ hown (host := "") (Or.inl (own_w hw 38 rfl)) Via.refl e14 (F_count_a1.ext E2) (g := (mkF m 31 #[.val (.ref a1), .val .null, .val .null] [(.ref a1), (.int w13), (.ref w11), (.ref w9), (.int w7), (.long w5), (.int w3), .null, (.ref b2), (.ref b2), (.ref a1)])) rfl rfl (hb hby d14_31)
  obtain ⟨_, _, ⟨T17, L17, k17, n17⟩, -, X17, ⟨Lc17, hQ17, l17, y17, z17⟩, st17⟩ := X16.specialBack hx (y := own_n13) rfl hown (mvT hZ (own_w hw 103 rfl)) (mvT hZ (own_w hw 104 rfl)) (mvT hZ (own_w hw 105 rfl)) (by decide) (backOf (W := 2) (rm15_R l Z a0 hw [] b2 w3 w5 w7 w9 w11 w13 w15 (.int (0 : Int32)) (.long (0 : Int64)) (.int (0 : Int32)) .null .null (.int (0 : Int32)) (.int (0 : Int32)) .null h2 n0 (Nat.le_trans Z0 K2.1) .null F_order_b2 E_b2 F_source_b2 g_b2 F_context_b2 F_tag_b2 F_type_b2 F_array_b2 F_offset_b2 F_count_b2 F_ahead_b2) hZ (own_w hw 105 rfl) (own_w hw 102 rfl) (by decide) (by decide)) (g := (mkF m 35 #[.val (.ref a1), .val .null, .val .null] [.null, (.int w15), (.int w13), (.ref w11), (.ref w9), (.int w7), (.long w5), (.int w3), .null, (.ref b2), (.ref b2), (.ref a1)])) rfl (by rw [hml]; rfl) (Steps.refl _) (a := b2) (argsL := [.null, (.int w3), (.long w5), (.int w7), (.ref w9), (.ref w11), (.int w13), (.int w15), .null]) (rest := [(.ref b2), (.ref a1)]) (lenOf pd_14_11 rfl) rfl (by show 2 * 0 + _ ≤ _; exact Nat.le_of_eq rfl) (hb hby d14_35) (fun _ _ => ⟨rfl, e16, (by decide : 1 + 0 ≤ _), (by decide : 13 + 0 ≤ _)⟩)
  dsimp only [Pt.U, Pt.locs, Pt.cells, Pt.slots] at X17 l17 y17 z17 st17 hQ17
  subst l17 y17 z17
  obtain ⟨rfl, N17q, Kc17⟩ := hQ17
  have N17 := Fr.app N0 N17q
  have nAB : a1 ≠ b2 := Nat.ne_of_lt (by rw [g2]; exact E_a1.lt)
  have Kh17 : Keep h0 T17.heap [a1] := K2.trans Kc17 (allS (Or.inr sz_b2) all0)
  obtain ⟨T18, h18, X18, e18, W18, st18⟩ := putF X17 hx hZ hown (host := "") (Or.inl (own_w hw 44 rfl)) Via.refl rfl ((F_made_a1.ext E2).keep Kc17 (ninS nAB nin0)) ((E_a1.ext E2).keep Kc17) (Or.inl (own_w hw 45 rfl)) (own_w hw 11 rfl) (ty := (.object "com/example/cablegram/cablegram/engine/Receive")) (by decide) rfl rfl (g := (mkF m 38 #[.val (.ref a1), .val .null, .val .null] [(.ref b2), (.ref a1)])) rfl rfl (hb hby d14_38)
  have Fw18 := ((F_made_a1.ext E2).keep Kc17 (ninS nAB nin0)).same W18
  have K18 : Keep h0 h18 [a1] := Kh17.wr W18 (Or.inl (List.mem_of_getElem? (i := 0) rfl))
  have N18 := Fr.snoc X18 N17 g_a1
  obtain ⟨T19, X19, e19, st19⟩ := getF X18 hx hZ hown (host := "") (Or.inl (own_w hw 44 rfl)) Via.refl e18 Fw18 (g := (mkF m 42 #[.val (.ref a1), .val .null, .val .null] [(.ref a1)])) rfl rfl (hb hby d14_42)
  obtain ⟨fs, hr, hrun, hended, hW, hsame⟩ := X19.leave (v := some (.ref b2)) (fun h => by rw [Bd.returns] at h; cases h)
  refine ⟨_, _, pre0 _ ?_, hrun, hended, _, _, rfl, ?_, ⟨_, rfl⟩, hW, hsame.mono (by decide) (by decide)⟩
  · show Steps _ _ _ (s₁.setTop (mkF m 0 #[.val (.ref a1), .val .null, .val .null] [])) _
    refine XS.aloadN X0.here hx rfl (hb hby d14_0) rfl rfl ?_
    show Steps _ _ _ (s₁.setTop (mkF m 1 #[.val (.ref a1), .val .null, .val .null] [(.ref a1)])) _
    refine st2 _ ?_
    show Steps _ _ _ (T2.setTop (mkF m 4 #[.val (.ref a1), .val .null, .val .null] [(.ref b2), (.ref a1)])) _
    refine XS.dup X2.here hx rfl (hb hby d14_4) rfl rfl ?_
    show Steps _ _ _ (T2.setTop (mkF m 5 #[.val (.ref a1), .val .null, .val .null] [(.ref b2), (.ref b2), (.ref a1)])) _
    refine XS.aloadN X2.here hx rfl (hb hby d14_5) rfl rfl ?_
    show Steps _ _ _ (T2.setTop (mkF m 6 #[.val (.ref a1), .val .null, .val .null] [.null, (.ref b2), (.ref b2), (.ref a1)])) _
    refine XS.aloadN X2.here hx rfl (hb hby d14_6) rfl rfl ?_
    show Steps _ _ _ (T2.setTop (mkF m 7 #[.val (.ref a1), .val .null, .val .null] [(.ref a1), .null, (.ref b2), (.ref b2), (.ref a1)])) _
    refine st4 _ ?_
    show Steps _ _ _ (T4.setTop (mkF m 10 #[.val (.ref a1), .val .null, .val .null] [(.int w3), .null, (.ref b2), (.ref b2), (.ref a1)])) _
    refine XS.aloadN X4.here hx rfl (hb hby d14_10) rfl rfl ?_
    show Steps _ _ _ (T4.setTop (mkF m 11 #[.val (.ref a1), .val .null, .val .null] [(.ref a1), (.int w3), .null, (.ref b2), (.ref b2), (.ref a1)])) _
    refine st6 _ ?_
    show Steps _ _ _ (T6.setTop (mkF m 14 #[.val (.ref a1), .val .null, .val .null] [(.long w5), (.int w3), .null, (.ref b2), (.ref b2), (.ref a1)])) _
    refine XS.aloadN X6.here hx rfl (hb hby d14_14) rfl rfl ?_
    show Steps _ _ _ (T6.setTop (mkF m 15 #[.val (.ref a1), .val .null, .val .null] [(.ref a1), (.long w5), (.int w3), .null, (.ref b2), (.ref b2), (.ref a1)])) _
    refine st8 _ ?_
    show Steps _ _ _ (T8.setTop (mkF m 18 #[.val (.ref a1), .val .null, .val .null] [(.int w7), (.long w5), (.int w3), .null, (.ref b2), (.ref b2), (.ref a1)])) _
    refine XS.aloadN X8.here hx rfl (hb hby d14_18) rfl rfl ?_
    show Steps _ _ _ (T8.setTop (mkF m 19 #[.val (.ref a1), .val .null, .val .null] [(.ref a1), (.int w7), (.long w5), (.int w3), .null, (.ref b2), (.ref b2), (.ref a1)])) _
    refine st10 _ ?_
    show Steps _ _ _ (T10.setTop (mkF m 22 #[.val (.ref a1), .val .null, .val .null] [(.ref w9), (.int w7), (.long w5), (.int w3), .null, (.ref b2), (.ref b2), (.ref a1)])) _
    refine XS.aloadN X10.here hx rfl (hb hby d14_22) rfl rfl ?_
    show Steps _ _ _ (T10.setTop (mkF m 23 #[.val (.ref a1), .val .null, .val .null] [(.ref a1), (.ref w9), (.int w7), (.long w5), (.int w3), .null, (.ref b2), (.ref b2), (.ref a1)])) _
    refine st12 _ ?_
    show Steps _ _ _ (T12.setTop (mkF m 26 #[.val (.ref a1), .val .null, .val .null] [(.ref w11), (.ref w9), (.int w7), (.long w5), (.int w3), .null, (.ref b2), (.ref b2), (.ref a1)])) _
    refine XS.aloadN X12.here hx rfl (hb hby d14_26) rfl rfl ?_
    show Steps _ _ _ (T12.setTop (mkF m 27 #[.val (.ref a1), .val .null, .val .null] [(.ref a1), (.ref w11), (.ref w9), (.int w7), (.long w5), (.int w3), .null, (.ref b2), (.ref b2), (.ref a1)])) _
    refine st14 _ ?_
    show Steps _ _ _ (T14.setTop (mkF m 30 #[.val (.ref a1), .val .null, .val .null] [(.int w13), (.ref w11), (.ref w9), (.int w7), (.long w5), (.int w3), .null, (.ref b2), (.ref b2), (.ref a1)])) _
    refine XS.aloadN X14.here hx rfl (hb hby d14_30) rfl rfl ?_
    show Steps _ _ _ (T14.setTop (mkF m 31 #[.val (.ref a1), .val .null, .val .null] [(.ref a1), (.int w13), (.ref w11), (.ref w9), (.int w7), (.long w5), (.int w3), .null, (.ref b2), (.ref b2), (.ref a1)])) _
    refine st16 _ ?_
    show Steps _ _ _ (T16.setTop (mkF m 34 #[.val (.ref a1), .val .null, .val .null] [(.int w15), (.int w13), (.ref w11), (.ref w9), (.int w7), (.long w5), (.int w3), .null, (.ref b2), (.ref b2), (.ref a1)])) _
    refine XS.aloadN X16.here hx rfl (hb hby d14_34) rfl rfl ?_
    show Steps _ _ _ (T16.setTop (mkF m 35 #[.val (.ref a1), .val .null, .val .null] [.null, (.int w15), (.int w13), (.ref w11), (.ref w9), (.int w7), (.long w5), (.int w3), .null, (.ref b2), (.ref b2), (.ref a1)])) _
    refine st17.trans ?_
    show Steps _ _ _ (T17.setTop (mkF m 38 #[.val (.ref a1), .val .null, .val .null] [(.ref b2), (.ref a1)])) _
    refine st18 _ ?_
    show Steps _ _ _ (T18.setTop (mkF m 41 #[.val (.ref a1), .val .null, .val .null] [])) _
    refine XS.aloadN X18.here hx rfl (hb hby d14_41) rfl rfl ?_
    show Steps _ _ _ (T18.setTop (mkF m 42 #[.val (.ref a1), .val .null, .val .null] [(.ref a1)])) _
    refine st19 _ ?_
    show Steps _ _ _ (T19.setTop (mkF m 45 #[.val (.ref a1), .val .null, .val .null] [(.ref b2)])) _
    jvm_step X19.here [X19.here.top, hx, (hb hby d14_45), X19.method', Bd.returns, Value.isRef, FieldType.isReference]
    first | (intro acts; rw [hr _ acts rfl rfl rfl]) | rw [hr _ _ rfl rfl rfl]
    exact Steps.refl _
  · show Qm Z a1 v0 (.int w3) (.long w5) (.int w7) (.ref w9) (.ref w11) (.int w13) (.int w15) v8 v9 v11 h0 n0 _ T19.heap _
    rw [e19]
    exact ⟨b2, rfl, N18, K18, own_put10 hw ((B.ext E2).keep Kc17 (ninS nAB nin0)) W18⟩
theorem rm14_N (l : Launch) (Z : State) (a0 : Array Value) (hw : ∀ d ∈ tables_1, d.before a0 Z = true) (ws : List Jvm.Cond) (a1 : Addr) (w3 : Int32) (w5 : Int64) (w7 w11 w13 : Int32) (u_made_a1 : Value) (h0 : Heap) (n0 : Nat) (Z0 : n0 ≤ h0.size) (v0 v8 v9 v11 : Value) (B : Br Z h0 a1 v0 (.int w3) (.long w5) (.int w7) .null .null (.int w11) (.int w13) v8 v9 u_made_a1 v11) (F_source_a1 : Fld Z h0 a1 own_s0 "source" "I" (.int w3)) (F_context_a1 : Fld Z h0 a1 own_s0 "context" "J" (.long w5)) (F_tag_a1 : Fld Z h0 a1 own_s0 "tag" "I" (.int w7)) (F_type_a1 : Fld Z h0 a1 own_s0 "type" "Lcom/example/cablegram/cablegram/engine/ElementType;" .null) (F_array_a1 : Fld Z h0 a1 own_s0 "array" "Ljava/lang/Object;" .null) (F_offset_a1 : Fld Z h0 a1 own_s0 "offset" "I" (.int w11)) (F_count_a1 : Fld Z h0 a1 own_s0 "count" "I" (.int w13)) (E_a1 : Exa Z h0 a1 own_s0) (F_made_a1 : Fld Z h0 a1 own_s0 "made" "Lcom/example/cablegram/cablegram/engine/Receive;" u_made_a1) (g_a1 : n0 ≤ a1) :
    MetFree l own_n14 (head1 (Jvm.Cond.code own_n14 prog_5_method_8_code 3 (some (.object "com/example/cablegram/cablegram/engine/Receive")) :: ws) own_r4) (fun a U => a = #[(.ref a1), .null, .null] ∧ Z.Warmed39 U.vm ∧ U.heap = h0) (fun _ _ _ _ _ => True) (fun _ U o U' => ∃ v L, o = .returned v ∧ Qm Z a1 v0 (.int w3) (.long w5) (.int w7) .null .null (.int w11) (.int w13) v8 v9 v11 h0 n0 v U'.heap L ∧ FrameEnd U o U' L own_r4.cells own_r4.slots) := by
  refine MetFree.of_bodySF (plainFor_of_name pn_14) hisR ?_
  intro p e s m args below meth c s₁ Bd hml0 hP hK
  obtain ⟨rfl, hZ, hh⟩ := hP
  have hx := Bd.exec
  have hby := Bd.bytes
  have hml : c.maxLocals = 3 := hml0
  have hown : s.vm.findClass own_s0 = some m.cls := findClass_of_methodNamed Bd.named
  have hnm := (name_of_methodNamed Bd.named Bd.method).1
  have X0 : Stand p l e own_r4 s m #[(.ref a1), .null, .null] below meth c s₁ [] 0 0 := Stand.of_body Bd
  have e0 : s₁.heap = h0 := by rw [← hh, Bd.state]; rfl
  have N0 := Fr.nil n0
  have pre0 : ∀ t, Steps p.tables e below (s₁.setTop (mkF m 0 #[.val (.ref a1), .val .null, .val .null] [])) t → Steps p.tables e below (s₁.setTop (entryFrame m #[(.ref a1), .null, .null] 3)) t := fun t k => castTop (ef_14 m a1) k
  obtain ⟨T2, h2, X2, e2, E2, A2, D2, -, st2⟩ := newO X0 hx hZ hown (own_w hw 100 rfl) (own_w hw 101 rfl) (own_w hw 102 rfl) e0 (g := (mkF m 1 #[.val (.ref a1), .val .null, .val .null] [(.ref a1)])) rfl (hb hby d14_1) (by decide) (by decide)
  obtain ⟨b2, g2⟩ : ∃ z, z = h0.size := ⟨_, rfl⟩
  rw [← g2] at A2 D2 st2
  have F_order_b2 : Fld Z h2 b2 "com/example/cablegram/cablegram/engine/Operation" "order" "Lcom/example/cablegram/cablegram/engine/CompletionOrder;" .null := D2 (Or.inr (own_w hw 113 rfl)) (ty := (.object "com/example/cablegram/cablegram/engine/CompletionOrder")) (by decide)
  have F_source_b2 : Fld Z h2 b2 "com/example/cablegram/cablegram/engine/Receive" "source" "I" (.int (0 : Int32)) := D2 (Or.inr (own_w hw 115 rfl)) (ty := .int) (by decide)
  have F_context_b2 : Fld Z h2 b2 "com/example/cablegram/cablegram/engine/Receive" "context" "J" (.long (0 : Int64)) := D2 (Or.inr (own_w hw 117 rfl)) (ty := .long) (by decide)
  have F_tag_b2 : Fld Z h2 b2 "com/example/cablegram/cablegram/engine/Receive" "tag" "I" (.int (0 : Int32)) := D2 (Or.inr (own_w hw 119 rfl)) (ty := .int) (by decide)
  have F_type_b2 : Fld Z h2 b2 "com/example/cablegram/cablegram/engine/Receive" "type" "Lcom/example/cablegram/cablegram/engine/ElementType;" .null := D2 (Or.inr (own_w hw 121 rfl)) (ty := (.object own_s2)) (by decide)
  have F_array_b2 : Fld Z h2 b2 "com/example/cablegram/cablegram/engine/Receive" "array" "Ljava/lang/Object;" .null := D2 (Or.inr (own_w hw 123 rfl)) (ty := (.object "java/lang/Object")) (by decide)
  have F_offset_b2 : Fld Z h2 b2 "com/example/cablegram/cablegram/engine/Receive" "offset" "I" (.int (0 : Int32)) := D2 (Or.inr (own_w hw 125 rfl)) (ty := .int) (by decide)
  have F_count_b2 : Fld Z h2 b2 "com/example/cablegram/cablegram/engine/Receive" "count" "I" (.int (0 : Int32)) := D2 (Or.inr (own_w hw 127 rfl)) (ty := .int) (by decide)
  have F_ahead_b2 : Fld Z h2 b2 "com/example/cablegram/cablegram/engine/Receive" "ahead" "Lcom/example/cablegram/cablegram/engine/ArraysAhead;" .null := D2 (Or.inr (own_w hw 129 rfl)) (ty := (.object "com/example/cablegram/cablegram/engine/ArraysAhead")) (by decide)
  have E_b2 := A2
  have g_b2 : n0 ≤ b2 := Nat.le_trans Z0 (Nat.le_of_eq g2.symm)
  have sz_b2 : h0.size ≤ b2 := (Nat.le_trans (Keep.refl h0 [a1]).1 (Nat.le_of_eq g2.symm))
  have K2 : Keep h0 h2 [a1] := (Keep.refl h0 [a1]).ext E2
  obtain ⟨T4, X4, e4, st4⟩ := getF X2 hx hZ hown (host := "") (Or.inl (own_w hw 26 rfl)) Via.refl e2 (F_source_a1.ext E2) (g := (mkF m 7 #[.val (.ref a1), .val .null, .val .null] [(.ref a1), .null, (.ref b2), (.ref b2), (.ref a1)])) rfl rfl (hb hby d14_7)
  obtain ⟨T6, X6, e6, st6⟩ := getF X4 hx hZ hown (host := "") (Or.inl (own_w hw 28 rfl)) Via.refl e4 (F_context_a1.ext E2) (g := (mkF m 11 #[.val (.ref a1), .val .null, .val .null] [(.ref a1), (.int w3), .null, (.ref b2), (.ref b2), (.ref a1)])) rfl rfl (hb hby d14_11)
  obtain ⟨T8, X8, e8, st8⟩ := getF X6 hx hZ hown (host := "") (Or.inl (own_w hw 30 rfl)) Via.refl e6 (F_tag_a1.ext E2) (g := (mkF m 15 #[.val (.ref a1), .val .null, .val .null] [(.ref a1), (.long w5), (.int w3), .null, (.ref b2), (.ref b2), (.ref a1)])) rfl rfl (hb hby d14_15)
  obtain ⟨T9, X9, e9, st9⟩ := getF X8 hx hZ hown (host := "") (Or.inl (own_w hw 32 rfl)) Via.refl e8 (F_type_a1.ext E2) (g := (mkF m 19 #[.val (.ref a1), .val .null, .val .null] [(.ref a1), (.int w7), (.long w5), (.int w3), .null, (.ref b2), (.ref b2), (.ref a1)])) rfl rfl (hb hby d14_19)
  obtain ⟨T10, X10, e10, st10⟩ := getF X9 hx hZ hown (host := "") (Or.inl (own_w hw 34 rfl)) Via.refl e9 (F_array_a1.ext E2) (g := (mkF m 23 #[.val (.ref a1), .val .null, .val .null] [(.ref a1), .null, (.int w7), (.long w5), (.int w3), .null, (.ref b2), (.ref b2), (.ref a1)])) rfl rfl (hb hby d14_23)
  obtain ⟨T12, X12, e12, st12⟩ := getF X10 hx hZ hown (host := "") (Or.inl (own_w hw 36 rfl)) Via.refl e10 (F_offset_a1.ext E2) (g := (mkF m 27 #[.val (.ref a1), .val .null, .val .null] [(.ref a1), .null, .null, (.int w7), (.long w5), (.int w3), .null, (.ref b2), (.ref b2), (.ref a1)])) rfl rfl (hb hby d14_27)
  obtain ⟨T14, X14, e14, st14⟩ := getF X12 hx hZ hown (host := "") (Or.inl (own_w hw 38 rfl)) Via.refl e12 (F_count_a1.ext E2) (g := (mkF m 31 #[.val (.ref a1), .val .null, .val .null] [(.ref a1), (.int w11), .null, .null, (.int w7), (.long w5), (.int w3), .null, (.ref b2), (.ref b2), (.ref a1)])) rfl rfl (hb hby d14_31)
  obtain ⟨_, _, ⟨T15, L15, k15, n15⟩, -, X15, ⟨Lc15, hQ15, l15, y15, z15⟩, st15⟩ := X14.specialBack hx (y := own_n13) rfl hown (mvT hZ (own_w hw 103 rfl)) (mvT hZ (own_w hw 104 rfl)) (mvT hZ (own_w hw 105 rfl)) (by decide) (backOf (W := 2) (rm15_N l Z a0 hw [] b2 w3 w5 w7 w11 w13 (.int (0 : Int32)) (.long (0 : Int64)) (.int (0 : Int32)) .null .null (.int (0 : Int32)) (.int (0 : Int32)) .null h2 n0 (Nat.le_trans Z0 K2.1) .null F_order_b2 E_b2 F_source_b2 g_b2 F_context_b2 F_tag_b2 F_type_b2 F_array_b2 F_offset_b2 F_count_b2 F_ahead_b2) hZ (own_w hw 105 rfl) (own_w hw 102 rfl) (by decide) (by decide)) (g := (mkF m 35 #[.val (.ref a1), .val .null, .val .null] [.null, (.int w13), (.int w11), .null, .null, (.int w7), (.long w5), (.int w3), .null, (.ref b2), (.ref b2), (.ref a1)])) rfl (by rw [hml]; rfl) (Steps.refl _) (a := b2) (argsL := [.null, (.int w3), (.long w5), (.int w7), .null, .null, (.int w11), (.int w13), .null]) (rest := [(.ref b2), (.ref a1)]) (lenOf pd_14_11 rfl) rfl (by show 2 * 0 + _ ≤ _; exact Nat.le_of_eq rfl) (hb hby d14_35) (fun _ _ => ⟨rfl, e14, (by decide : 1 + 0 ≤ _), (by decide : 13 + 0 ≤ _)⟩)
  dsimp only [Pt.U, Pt.locs, Pt.cells, Pt.slots] at X15 l15 y15 z15 st15 hQ15
  subst l15 y15 z15
  obtain ⟨rfl, N15q, Kc15⟩ := hQ15
  have N15 := Fr.app N0 N15q
  have nAB : a1 ≠ b2 := Nat.ne_of_lt (by rw [g2]; exact E_a1.lt)
  have Kh15 : Keep h0 T15.heap [a1] := K2.trans Kc15 (allS (Or.inr sz_b2) all0)
  obtain ⟨T16, h16, X16, e16, W16, st16⟩ := putF X15 hx hZ hown (host := "") (Or.inl (own_w hw 44 rfl)) Via.refl rfl ((F_made_a1.ext E2).keep Kc15 (ninS nAB nin0)) ((E_a1.ext E2).keep Kc15) (Or.inl (own_w hw 45 rfl)) (own_w hw 11 rfl) (ty := (.object "com/example/cablegram/cablegram/engine/Receive")) (by decide) rfl rfl (g := (mkF m 38 #[.val (.ref a1), .val .null, .val .null] [(.ref b2), (.ref a1)])) rfl rfl (hb hby d14_38)
  have Fw16 := ((F_made_a1.ext E2).keep Kc15 (ninS nAB nin0)).same W16
  have K16 : Keep h0 h16 [a1] := Kh15.wr W16 (Or.inl (List.mem_of_getElem? (i := 0) rfl))
  have N16 := Fr.snoc X16 N15 g_a1
  obtain ⟨T17, X17, e17, st17⟩ := getF X16 hx hZ hown (host := "") (Or.inl (own_w hw 44 rfl)) Via.refl e16 Fw16 (g := (mkF m 42 #[.val (.ref a1), .val .null, .val .null] [(.ref a1)])) rfl rfl (hb hby d14_42)
  obtain ⟨fs, hr, hrun, hended, hW, hsame⟩ := X17.leave (v := some (.ref b2)) (fun h => by rw [Bd.returns] at h; cases h)
  refine ⟨_, _, pre0 _ ?_, hrun, hended, _, _, rfl, ?_, ⟨_, rfl⟩, hW, hsame.mono (by decide) (by decide)⟩
  · show Steps _ _ _ (s₁.setTop (mkF m 0 #[.val (.ref a1), .val .null, .val .null] [])) _
    refine XS.aloadN X0.here hx rfl (hb hby d14_0) rfl rfl ?_
    show Steps _ _ _ (s₁.setTop (mkF m 1 #[.val (.ref a1), .val .null, .val .null] [(.ref a1)])) _
    refine st2 _ ?_
    show Steps _ _ _ (T2.setTop (mkF m 4 #[.val (.ref a1), .val .null, .val .null] [(.ref b2), (.ref a1)])) _
    refine XS.dup X2.here hx rfl (hb hby d14_4) rfl rfl ?_
    show Steps _ _ _ (T2.setTop (mkF m 5 #[.val (.ref a1), .val .null, .val .null] [(.ref b2), (.ref b2), (.ref a1)])) _
    refine XS.aloadN X2.here hx rfl (hb hby d14_5) rfl rfl ?_
    show Steps _ _ _ (T2.setTop (mkF m 6 #[.val (.ref a1), .val .null, .val .null] [.null, (.ref b2), (.ref b2), (.ref a1)])) _
    refine XS.aloadN X2.here hx rfl (hb hby d14_6) rfl rfl ?_
    show Steps _ _ _ (T2.setTop (mkF m 7 #[.val (.ref a1), .val .null, .val .null] [(.ref a1), .null, (.ref b2), (.ref b2), (.ref a1)])) _
    refine st4 _ ?_
    show Steps _ _ _ (T4.setTop (mkF m 10 #[.val (.ref a1), .val .null, .val .null] [(.int w3), .null, (.ref b2), (.ref b2), (.ref a1)])) _
    refine XS.aloadN X4.here hx rfl (hb hby d14_10) rfl rfl ?_
    show Steps _ _ _ (T4.setTop (mkF m 11 #[.val (.ref a1), .val .null, .val .null] [(.ref a1), (.int w3), .null, (.ref b2), (.ref b2), (.ref a1)])) _
    refine st6 _ ?_
    show Steps _ _ _ (T6.setTop (mkF m 14 #[.val (.ref a1), .val .null, .val .null] [(.long w5), (.int w3), .null, (.ref b2), (.ref b2), (.ref a1)])) _
    refine XS.aloadN X6.here hx rfl (hb hby d14_14) rfl rfl ?_
    show Steps _ _ _ (T6.setTop (mkF m 15 #[.val (.ref a1), .val .null, .val .null] [(.ref a1), (.long w5), (.int w3), .null, (.ref b2), (.ref b2), (.ref a1)])) _
    refine st8 _ ?_
    show Steps _ _ _ (T8.setTop (mkF m 18 #[.val (.ref a1), .val .null, .val .null] [(.int w7), (.long w5), (.int w3), .null, (.ref b2), (.ref b2), (.ref a1)])) _
    refine XS.aloadN X8.here hx rfl (hb hby d14_18) rfl rfl ?_
    show Steps _ _ _ (T8.setTop (mkF m 19 #[.val (.ref a1), .val .null, .val .null] [(.ref a1), (.int w7), (.long w5), (.int w3), .null, (.ref b2), (.ref b2), (.ref a1)])) _
    refine st9 _ ?_
    show Steps _ _ _ (T9.setTop (mkF m 22 #[.val (.ref a1), .val .null, .val .null] [.null, (.int w7), (.long w5), (.int w3), .null, (.ref b2), (.ref b2), (.ref a1)])) _
    refine XS.aloadN X9.here hx rfl (hb hby d14_22) rfl rfl ?_
    show Steps _ _ _ (T9.setTop (mkF m 23 #[.val (.ref a1), .val .null, .val .null] [(.ref a1), .null, (.int w7), (.long w5), (.int w3), .null, (.ref b2), (.ref b2), (.ref a1)])) _
    refine st10 _ ?_
    show Steps _ _ _ (T10.setTop (mkF m 26 #[.val (.ref a1), .val .null, .val .null] [.null, .null, (.int w7), (.long w5), (.int w3), .null, (.ref b2), (.ref b2), (.ref a1)])) _
    refine XS.aloadN X10.here hx rfl (hb hby d14_26) rfl rfl ?_
    show Steps _ _ _ (T10.setTop (mkF m 27 #[.val (.ref a1), .val .null, .val .null] [(.ref a1), .null, .null, (.int w7), (.long w5), (.int w3), .null, (.ref b2), (.ref b2), (.ref a1)])) _
    refine st12 _ ?_
    show Steps _ _ _ (T12.setTop (mkF m 30 #[.val (.ref a1), .val .null, .val .null] [(.int w11), .null, .null, (.int w7), (.long w5), (.int w3), .null, (.ref b2), (.ref b2), (.ref a1)])) _
    refine XS.aloadN X12.here hx rfl (hb hby d14_30) rfl rfl ?_
    show Steps _ _ _ (T12.setTop (mkF m 31 #[.val (.ref a1), .val .null, .val .null] [(.ref a1), (.int w11), .null, .null, (.int w7), (.long w5), (.int w3), .null, (.ref b2), (.ref b2), (.ref a1)])) _
    refine st14 _ ?_
    show Steps _ _ _ (T14.setTop (mkF m 34 #[.val (.ref a1), .val .null, .val .null] [(.int w13), (.int w11), .null, .null, (.int w7), (.long w5), (.int w3), .null, (.ref b2), (.ref b2), (.ref a1)])) _
    refine XS.aloadN X14.here hx rfl (hb hby d14_34) rfl rfl ?_
    show Steps _ _ _ (T14.setTop (mkF m 35 #[.val (.ref a1), .val .null, .val .null] [.null, (.int w13), (.int w11), .null, .null, (.int w7), (.long w5), (.int w3), .null, (.ref b2), (.ref b2), (.ref a1)])) _
    refine st15.trans ?_
    show Steps _ _ _ (T15.setTop (mkF m 38 #[.val (.ref a1), .val .null, .val .null] [(.ref b2), (.ref a1)])) _
    refine st16 _ ?_
    show Steps _ _ _ (T16.setTop (mkF m 41 #[.val (.ref a1), .val .null, .val .null] [])) _
    refine XS.aloadN X16.here hx rfl (hb hby d14_41) rfl rfl ?_
    show Steps _ _ _ (T16.setTop (mkF m 42 #[.val (.ref a1), .val .null, .val .null] [(.ref a1)])) _
    refine st17 _ ?_
    show Steps _ _ _ (T17.setTop (mkF m 45 #[.val (.ref a1), .val .null, .val .null] [(.ref b2)])) _
    jvm_step X17.here [X17.here.top, hx, (hb hby d14_45), X17.method', Bd.returns, Value.isRef, FieldType.isReference]
    first | (intro acts; rw [hr _ acts rfl rfl rfl]) | rw [hr _ _ rfl rfl rfl]
    exact Steps.refl _
  · show Qm Z a1 v0 (.int w3) (.long w5) (.int w7) .null .null (.int w11) (.int w13) v8 v9 v11 h0 n0 _ T17.heap _
    rw [e17]
    exact ⟨b2, rfl, N16, K16, own_put10 hw ((B.ext E2).keep Kc15 (ninS nAB nin0)) W16⟩
theorem d19_0 : decode prog_19_method_3_code 0 = .ok (.aload_n 2, 1) := by decide +kernel
theorem d19_1 : decode prog_19_method_3_code 1 = .ok (.checkcast 7, 3) := by decide +kernel
theorem d19_4 : decode prog_19_method_3_code 4 = .ok (.astore 5, 2) := by decide +kernel
theorem d19_6 : decode prog_19_method_3_code 6 = .ok (.iload_n 3, 1) := by decide +kernel
theorem d19_7 : decode prog_19_method_3_code 7 = .ok (.istore 6, 2) := by decide +kernel
theorem d19_9 : decode prog_19_method_3_code 9 = .ok (.iload 6, 2) := by decide +kernel
theorem d19_11 : decode prog_19_method_3_code 11 = .ok (.iload_n 3, 1) := by decide +kernel
theorem d19_12 : decode prog_19_method_3_code 12 = .ok (.iload 4, 2) := by decide +kernel
theorem d19_14 : decode prog_19_method_3_code 14 = .ok (.iadd, 1) := by decide +kernel
theorem d19_15 : decode prog_19_method_3_code 15 = .ok (.if_icmp .ge 18, 3) := by decide +kernel
theorem d19_33 : decode prog_19_method_3_code 33 = .ok (.return_, 1) := by decide +kernel
theorem pn_19 : plainName "com/example/cablegram/cablegram/engine/ElementType$6" = true := by first | (simp [plainName, overriddenIn]; done) | decide +kernel
theorem ef_19 (m : MethodId) (x0 x2 : Addr) (x3 x4 : Int32) : entryFrame m #[(.ref x0), .null, (.ref x2), (.int x3), (.int x4)] 7 = mkF m 0 #[.val (.ref x0), .val .null, .val (.ref x2), .val (.int x3), .val (.int x4), .unset, .unset] [] := by first | (simp [entryFrame, mkF, argsToLocals, Value.category]; done) | rfl
theorem rm19 (l : Launch) (Z : State) (a0 : Array Value) (hw : ∀ d ∈ tables_1, d.before a0 Z = true) (ws : List Jvm.Cond) (a1 a2 : Addr) (p3 p4 : Int32) (h0 : Heap) (n0 : Nat) (Z0 : n0 ≤ h0.size) (I_a2 : Ins Z h0 a2 "[J" true) (hc15 : ¬ (p3 < (p3 + p4))) :
    MetFree l own_n15 (head1 (Jvm.Cond.code own_n15 prog_19_method_3_code 7 none :: ws) own_r1) (fun a U => a = #[(.ref a1), .null, (.ref a2), (.int p3), (.int p4)] ∧ Z.Warmed39 U.vm ∧ U.heap = h0) (fun _ _ _ _ _ => True) (fun _ U o U' => ∃ v L, o = .returned v ∧ Qv (none) h0 n0 v U'.heap L ∧ FrameEnd U o U' L own_r1.cells own_r1.slots) := by
  refine MetFree.of_bodySF (plainFor_of_name pn_19) hisR ?_
  intro p e s m args below meth c s₁ Bd hml0 hP hK
  obtain ⟨rfl, hZ, hh⟩ := hP
  have hx := Bd.exec
  have hby := Bd.bytes
  have hml : c.maxLocals = 7 := hml0
  have hown : s.vm.findClass "com/example/cablegram/cablegram/engine/ElementType$6" = some m.cls := findClass_of_methodNamed Bd.named
  have hnm := (name_of_methodNamed Bd.named Bd.method).1
  have X0 : Stand p l e own_r1 s m #[(.ref a1), .null, (.ref a2), (.int p3), (.int p4)] below meth c s₁ [] 0 0 := Stand.of_body Bd
  have e0 : s₁.heap = h0 := by rw [← hh, Bd.state]; rfl
  have N0 := Fr.nil n0
  have pre0 : ∀ t, Steps p.tables e below (s₁.setTop (mkF m 0 #[.val (.ref a1), .val .null, .val (.ref a2), .val (.int p3), .val (.int p4), .unset, .unset] [])) t → Steps p.tables e below (s₁.setTop (entryFrame m #[(.ref a1), .null, (.ref a2), (.int p3), (.int p4)] 7)) t := fun t k => castTop (ef_19 m a1 a2 p3 p4) k
  obtain ⟨T5, X5, e5, st5⟩ := castY X0 hx hZ hown (own_w hw 150 rfl) e0 I_a2 (g := (mkF m 1 #[.val (.ref a1), .val .null, .val (.ref a2), .val (.int p3), .val (.int p4), .unset, .unset] [(.ref a2)])) rfl rfl (hb hby d19_1)
  obtain ⟨fs, hr, hrun, hended, hW, hsame⟩ := X5.leave (v := none) (fun _ => rfl)
  refine ⟨_, _, pre0 _ ?_, hrun, hended, _, _, rfl, ?_, ⟨_, rfl⟩, hW, hsame.mono (by decide) (by decide)⟩
  · show Steps _ _ _ (s₁.setTop (mkF m 0 #[.val (.ref a1), .val .null, .val (.ref a2), .val (.int p3), .val (.int p4), .unset, .unset] [])) _
    refine XS.aloadN X0.here hx rfl (hb hby d19_0) rfl rfl ?_
    show Steps _ _ _ (s₁.setTop (mkF m 1 #[.val (.ref a1), .val .null, .val (.ref a2), .val (.int p3), .val (.int p4), .unset, .unset] [(.ref a2)])) _
    refine st5 _ ?_
    show Steps _ _ _ (T5.setTop (mkF m 4 #[.val (.ref a1), .val .null, .val (.ref a2), .val (.int p3), .val (.int p4), .unset, .unset] [(.ref a2)])) _
    refine XS.astore X5.here hx rfl (hb hby d19_4) rfl rfl (l' := #[.val (.ref a1), .val .null, .val (.ref a2), .val (.int p3), .val (.int p4), .val (.ref a2), .unset]) rfl ?_
    show Steps _ _ _ (T5.setTop (mkF m 6 #[.val (.ref a1), .val .null, .val (.ref a2), .val (.int p3), .val (.int p4), .val (.ref a2), .unset] [])) _
    refine XS.iloadN X5.here hx rfl (hb hby d19_6) rfl ?_
    show Steps _ _ _ (T5.setTop (mkF m 7 #[.val (.ref a1), .val .null, .val (.ref a2), .val (.int p3), .val (.int p4), .val (.ref a2), .unset] [(.int p3)])) _
    refine XS.istore X5.here hx rfl (hb hby d19_7) rfl (l' := #[.val (.ref a1), .val .null, .val (.ref a2), .val (.int p3), .val (.int p4), .val (.ref a2), .val (.int p3)]) rfl ?_
    show Steps _ _ _ (T5.setTop (mkF m 9 #[.val (.ref a1), .val .null, .val (.ref a2), .val (.int p3), .val (.int p4), .val (.ref a2), .val (.int p3)] [])) _
    refine XS.iload X5.here hx rfl (hb hby d19_9) rfl ?_
    show Steps _ _ _ (T5.setTop (mkF m 11 #[.val (.ref a1), .val .null, .val (.ref a2), .val (.int p3), .val (.int p4), .val (.ref a2), .val (.int p3)] [(.int p3)])) _
    refine XS.iloadN X5.here hx rfl (hb hby d19_11) rfl ?_
    show Steps _ _ _ (T5.setTop (mkF m 12 #[.val (.ref a1), .val .null, .val (.ref a2), .val (.int p3), .val (.int p4), .val (.ref a2), .val (.int p3)] [(.int p3), (.int p3)])) _
    refine XS.iload X5.here hx rfl (hb hby d19_12) rfl ?_
    show Steps _ _ _ (T5.setTop (mkF m 14 #[.val (.ref a1), .val .null, .val (.ref a2), .val (.int p3), .val (.int p4), .val (.ref a2), .val (.int p3)] [(.int p4), (.int p3), (.int p3)])) _
    refine XS.iadd X5.here hx rfl (hb hby d19_14) rfl ?_
    show Steps _ _ _ (T5.setTop (mkF m 15 #[.val (.ref a1), .val .null, .val (.ref a2), .val (.int p3), .val (.int p4), .val (.ref a2), .val (.int p3)] [(.int (p3 + p4)), (.int p3)])) _
    refine XS.icmpYes X5.here hx rfl (pc0 := 15) (pc' := 33) rfl (hb hby d19_15) rfl (flt hc15).2.1 (by decide) (by decide) ?_
    show Steps _ _ _ (T5.setTop (mkF m 33 #[.val (.ref a1), .val .null, .val (.ref a2), .val (.int p3), .val (.int p4), .val (.ref a2), .val (.int p3)] [])) _
    exact X5.returnOut hx Bd.returns (hb hby d19_33) hr
  · show Qv (none) h0 n0 _ T5.heap _
    rw [e5]
    exact ⟨rfl, N0, rfl⟩
theorem own_nf {s : State} {args : Array Value} {y z : MethodName} (hz : NotFace s z) (hi : (Cond.instanceMethod z).before args s = true) (e : y.cls = z.cls) : NotFace s y := fun r0 h0 => by
  obtain ⟨mk, meth, hn, -⟩ := Cond.instanceMethod_spec hi
  have h1 := findClass_of_methodNamed hn
  have h2 := findClass_of_methodNamed h0
  rw [e] at h2
  have q : r0.cls = mk.cls := Option.some.inj (h2.symm.trans h1)
  rw [q]; exact hz mk hn
theorem d18_0 : decode prog_12_method_23_code 0 = .ok (.iload 4, 2) := by decide +kernel
theorem d18_2 : decode prog_12_method_23_code 2 = .ok (.i2l, 1) := by decide +kernel
theorem d18_3 : decode prog_12_method_23_code 3 = .ok (.aload_n 0, 1) := by decide +kernel
theorem d18_4 : decode prog_12_method_23_code 4 = .ok (.getfield 57, 3) := by decide +kernel
theorem d18_7 : decode prog_12_method_23_code 7 = .ok (.i2l, 1) := by decide +kernel
theorem d18_8 : decode prog_12_method_23_code 8 = .ok (.lmul, 1) := by decide +kernel
theorem d18_9 : decode prog_12_method_23_code 9 = .ok (.ldc2_w 133, 3) := by decide +kernel
theorem d18_12 : decode prog_12_method_23_code 12 = .ok (.lcmp, 1) := by decide +kernel
theorem d18_13 : decode prog_12_method_23_code 13 = .ok (.ifCond .gt 15, 3) := by decide +kernel
theorem d18_16 : decode prog_12_method_23_code 16 = .ok (.aload_n 0, 1) := by decide +kernel
theorem d18_17 : decode prog_12_method_23_code 17 = .ok (.aload_n 1, 1) := by decide +kernel
theorem d18_18 : decode prog_12_method_23_code 18 = .ok (.aload_n 2, 1) := by decide +kernel
theorem d18_19 : decode prog_12_method_23_code 19 = .ok (.iload_n 3, 1) := by decide +kernel
theorem d18_20 : decode prog_12_method_23_code 20 = .ok (.iload 4, 2) := by decide +kernel
theorem d18_22 : decode prog_12_method_23_code 22 = .ok (.invokevirtual 141, 3) := by decide +kernel
theorem d18_25 : decode prog_12_method_23_code 25 = .ok (.goto 12, 3) := by decide +kernel
theorem d18_37 : decode prog_12_method_23_code 37 = .ok (.return_, 1) := by decide +kernel
theorem pn_18 : plainName own_s2 = true := by first | (simp [plainName, overriddenIn]; done) | decide +kernel
theorem pd_18_14 : parseMethodDescriptor "(Ljava/nio/ByteBuffer;Ljava/lang/Object;II)V" = some ⟨[(.object "java/nio/ByteBuffer"), (.object "java/lang/Object"), .int, .int], none⟩ := by decide +kernel
theorem ef_18 (m : MethodId) (x0 x2 : Addr) (x3 x4 : Int32) : entryFrame m #[(.ref x0), .null, (.ref x2), (.int x3), (.int x4)] 5 = mkF m 0 #[.val (.ref x0), .val .null, .val (.ref x2), .val (.int x3), .val (.int x4)] [] := by first | (simp [entryFrame, mkF, argsToLocals, Value.category]; done) | rfl
theorem rm18 (l : Launch) (Z : State) (a0 : Array Value) (hw : ∀ d ∈ tables_1, d.before a0 Z = true) (ws : List Jvm.Cond) (a1 a2 : Addr) (p3 p4 w5 : Int32) (h0 : Heap) (n0 : Nat) (Z0 : n0 ≤ h0.size) (I_a2 : Ins Z h0 a2 "[J" true) (hlt : ¬ (p3 < (p3 + p4))) (F_size_a1 : Fld Z h0 a1 own_s2 "size" "I" (.int w5)) (E_a1 : Exa Z h0 a1 "com/example/cablegram/cablegram/engine/ElementType$6") (hc13 : ¬ ((0 : Int32) < (lcmpW ((p4.toInt64) * (w5.toInt64)) (128 : Int64)))) :
    MetFree l own_n16 (head1 (Jvm.Cond.code own_n16 prog_12_method_23_code 5 none :: ws) own_r5) (fun a U => a = #[(.ref a1), .null, (.ref a2), (.int p3), (.int p4)] ∧ Z.Warmed39 U.vm ∧ U.heap = h0) (fun _ _ _ _ _ => True) (fun _ U o U' => ∃ v L, o = .returned v ∧ Qv (none) h0 n0 v U'.heap L ∧ FrameEnd U o U' L own_r5.cells own_r5.slots) := by
  refine MetFree.of_bodySF (plainFor_of_name pn_18) hisR ?_
  intro p e s m args below meth c s₁ Bd hml0 hP hK
  obtain ⟨rfl, hZ, hh⟩ := hP
  have hx := Bd.exec
  have hby := Bd.bytes
  have hml : c.maxLocals = 5 := hml0
  have hown : s.vm.findClass own_s2 = some m.cls := findClass_of_methodNamed Bd.named
  have hnm := (name_of_methodNamed Bd.named Bd.method).1
  have X0 : Stand p l e own_r5 s m #[(.ref a1), .null, (.ref a2), (.int p3), (.int p4)] below meth c s₁ [] 0 0 := Stand.of_body Bd
  have e0 : s₁.heap = h0 := by rw [← hh, Bd.state]; rfl
  have N0 := Fr.nil n0
  have pre0 : ∀ t, Steps p.tables e below (s₁.setTop (mkF m 0 #[.val (.ref a1), .val .null, .val (.ref a2), .val (.int p3), .val (.int p4)] [])) t → Steps p.tables e below (s₁.setTop (entryFrame m #[(.ref a1), .null, (.ref a2), (.int p3), (.int p4)] 5)) t := fun t k => castTop (ef_18 m a1 a2 p3 p4) k
  obtain ⟨T6, X6, e6, st6⟩ := getF X0 hx hZ hown (host := "") (Or.inl (own_w hw 141 rfl)) Via.refl e0 F_size_a1 (g := (mkF m 4 #[.val (.ref a1), .val .null, .val (.ref a2), .val (.int p3), .val (.int p4)] [(.ref a1), (.long (p4.toInt64))])) rfl rfl (hb hby d18_4)
  obtain ⟨cq7, kq7, q7a, q7b, q7c⟩ := isOf hZ e6 E_a1
  obtain ⟨_, _, ⟨T7, L7, k7, n7⟩, -, X7, ⟨Lc7, hQ7, l7, y7, z7⟩, st7⟩ := X6.virtualBack hx (y := own_n17) (z := own_n15) hown (mvT hZ (own_w hw 144 rfl)) (mvT hZ (own_w hw 145 rfl)) (own_nf (notFace_of_selects (args := #[]) (mvT hZ (own_w hw 139 rfl))) (mvT hZ (own_w hw 138 rfl) (args := #[])) rfl) (mvT hZ (own_w hw 146 rfl)) (mvT hZ (own_w hw 147 rfl)) (by decide) (backOf (W := 0) (rm19 l Z a0 hw [] a1 a2 p3 p4 h0 n0 Z0 I_a2 hlt) hZ (own_w hw 149 rfl) (own_w hw 148 rfl) (by decide) (by decide)) q7a q7c (g := (mkF m 22 #[.val (.ref a1), .val .null, .val (.ref a2), .val (.int p3), .val (.int p4)] [(.int p4), (.int p3), (.ref a2), .null, (.ref a1)])) rfl (by rw [hml]; rfl) (Steps.refl _) (argsL := [.null, (.ref a2), (.int p3), (.int p4)]) (rest := []) (lenOf pd_18_14 rfl) rfl (by show 2 * 0 + _ ≤ _; exact Nat.le_of_eq rfl) (hb hby d18_22) (fun _ _ => ⟨rfl, e6, (by decide : 0 + 0 ≤ _), (by decide : 0 + 0 ≤ _)⟩)
  dsimp only [Pt.U, Pt.locs, Pt.cells, Pt.slots] at X7 l7 y7 z7 st7 hQ7
  subst l7 y7 z7
  obtain ⟨rfl, N7q, e7⟩ := hQ7
  have N7 := Fr.app N0 N7q
  obtain ⟨fs, hr, hrun, hended, hW, hsame⟩ := X7.leave (v := none) (fun _ => rfl)
  refine ⟨_, _, pre0 _ ?_, hrun, hended, _, _, rfl, ?_, ⟨_, rfl⟩, hW, hsame.mono (by decide) (by decide)⟩
  · show Steps _ _ _ (s₁.setTop (mkF m 0 #[.val (.ref a1), .val .null, .val (.ref a2), .val (.int p3), .val (.int p4)] [])) _
    refine XS.iload X0.here hx rfl (hb hby d18_0) rfl ?_
    show Steps _ _ _ (s₁.setTop (mkF m 2 #[.val (.ref a1), .val .null, .val (.ref a2), .val (.int p3), .val (.int p4)] [(.int p4)])) _
    refine XS.i2l X0.here hx rfl (hb hby d18_2) rfl ?_
    show Steps _ _ _ (s₁.setTop (mkF m 3 #[.val (.ref a1), .val .null, .val (.ref a2), .val (.int p3), .val (.int p4)] [(.long (p4.toInt64))])) _
    refine XS.aloadN X0.here hx rfl (hb hby d18_3) rfl rfl ?_
    show Steps _ _ _ (s₁.setTop (mkF m 4 #[.val (.ref a1), .val .null, .val (.ref a2), .val (.int p3), .val (.int p4)] [(.ref a1), (.long (p4.toInt64))])) _
    refine st6 _ ?_
    show Steps _ _ _ (T6.setTop (mkF m 7 #[.val (.ref a1), .val .null, .val (.ref a2), .val (.int p3), .val (.int p4)] [(.int w5), (.long (p4.toInt64))])) _
    refine XS.i2l X6.here hx rfl (hb hby d18_7) rfl ?_
    show Steps _ _ _ (T6.setTop (mkF m 8 #[.val (.ref a1), .val .null, .val (.ref a2), .val (.int p3), .val (.int p4)] [(.long (w5.toInt64)), (.long (p4.toInt64))])) _
    refine XS.lmul X6.here hx rfl (hb hby d18_8) rfl ?_
    show Steps _ _ _ (T6.setTop (mkF m 9 #[.val (.ref a1), .val .null, .val (.ref a2), .val (.int p3), .val (.int p4)] [(.long ((p4.toInt64) * (w5.toInt64)))])) _
    refine X6.ldc2Long hx hown (mvT hZ (own_w hw 143 rfl)) (g := (mkF m 9 #[.val (.ref a1), .val .null, .val (.ref a2), .val (.int p3), .val (.int p4)] [(.long ((p4.toInt64) * (w5.toInt64)))])) rfl (hb hby d18_9) _ ?_
    show Steps _ _ _ (T6.setTop (mkF m 12 #[.val (.ref a1), .val .null, .val (.ref a2), .val (.int p3), .val (.int p4)] [(.long (128 : Int64)), (.long ((p4.toInt64) * (w5.toInt64)))])) _
    refine XS.lcmp X6.here hx rfl (hb hby d18_12) rfl ?_
    show Steps _ _ _ (T6.setTop (mkF m 13 #[.val (.ref a1), .val .null, .val (.ref a2), .val (.int p3), .val (.int p4)] [(.int (lcmpW ((p4.toInt64) * (w5.toInt64)) (128 : Int64)))])) _
    refine XS.ifNo X6.here hx rfl (hb hby d18_13) rfl ((if0 _ _).trans (flt hc13).2.2.1) ?_
    show Steps _ _ _ (T6.setTop (mkF m 16 #[.val (.ref a1), .val .null, .val (.ref a2), .val (.int p3), .val (.int p4)] [])) _
    refine XS.aloadN X6.here hx rfl (hb hby d18_16) rfl rfl ?_
    show Steps _ _ _ (T6.setTop (mkF m 17 #[.val (.ref a1), .val .null, .val (.ref a2), .val (.int p3), .val (.int p4)] [(.ref a1)])) _
    refine XS.aloadN X6.here hx rfl (hb hby d18_17) rfl rfl ?_
    show Steps _ _ _ (T6.setTop (mkF m 18 #[.val (.ref a1), .val .null, .val (.ref a2), .val (.int p3), .val (.int p4)] [.null, (.ref a1)])) _
    refine XS.aloadN X6.here hx rfl (hb hby d18_18) rfl rfl ?_
    show Steps _ _ _ (T6.setTop (mkF m 19 #[.val (.ref a1), .val .null, .val (.ref a2), .val (.int p3), .val (.int p4)] [(.ref a2), .null, (.ref a1)])) _
    refine XS.iloadN X6.here hx rfl (hb hby d18_19) rfl ?_
    show Steps _ _ _ (T6.setTop (mkF m 20 #[.val (.ref a1), .val .null, .val (.ref a2), .val (.int p3), .val (.int p4)] [(.int p3), (.ref a2), .null, (.ref a1)])) _
    refine XS.iload X6.here hx rfl (hb hby d18_20) rfl ?_
    show Steps _ _ _ (T6.setTop (mkF m 22 #[.val (.ref a1), .val .null, .val (.ref a2), .val (.int p3), .val (.int p4)] [(.int p4), (.int p3), (.ref a2), .null, (.ref a1)])) _
    refine st7.trans ?_
    show Steps _ _ _ (T7.setTop (mkF m 25 #[.val (.ref a1), .val .null, .val (.ref a2), .val (.int p3), .val (.int p4)] [])) _
    refine XS.goto X7.here hx rfl (pc0 := 25) (pc' := 37) rfl (hb hby d18_25) (by decide) (by decide) ?_
    show Steps _ _ _ (T7.setTop (mkF m 37 #[.val (.ref a1), .val .null, .val (.ref a2), .val (.int p3), .val (.int p4)] [])) _
    exact X7.returnOut hx Bd.returns (hb hby d18_37) hr
  · show Qv (none) h0 n0 _ T7.heap _
    exact ⟨rfl, N7, e7⟩
theorem d21_0 : decode jdk_30_method_1_code 0 = .ok (.aload_n 0, 1) := by decide +kernel
theorem d21_1 : decode jdk_30_method_1_code 1 = .ok (.invokespecial 1, 3) := by decide +kernel
theorem d21_4 : decode jdk_30_method_1_code 4 = .ok (.return_, 1) := by decide +kernel
theorem pn_21 : plainName "java/lang/Record" = true := by first | (simp [plainName, overriddenIn]; done) | decide +kernel
theorem ef_21 (m : MethodId) (x0 : Addr) : entryFrame m #[(.ref x0)] 1 = mkF m 0 #[.val (.ref x0)] [] := by first | (simp [entryFrame, mkF, argsToLocals, Value.category]; done) | rfl
theorem rm21 (l : Launch) (Z : State) (a0 : Array Value) (hw : ∀ d ∈ tables_1, d.before a0 Z = true) (ws : List Jvm.Cond) (a1 : Addr) (h0 : Heap) (n0 : Nat) (Z0 : n0 ≤ h0.size) :
    MetFree l own_n18 (head1 (Jvm.Cond.code own_n18 jdk_30_method_1_code 1 none :: ws) own_r0) (fun a U => a = #[(.ref a1)] ∧ Z.Warmed39 U.vm ∧ U.heap = h0) (fun _ _ _ _ _ => True) (fun _ U o U' => ∃ v L, o = .returned v ∧ Qv (none) h0 n0 v U'.heap L ∧ FrameEnd U o U' L own_r0.cells own_r0.slots) := by
  refine MetFree.of_bodySF (plainFor_of_name pn_21) hisR ?_
  intro p e s m args below meth c s₁ Bd hml0 hP hK
  obtain ⟨rfl, hZ, hh⟩ := hP
  have hx := Bd.exec
  have hby := Bd.bytes
  have hml : c.maxLocals = 1 := hml0
  have hown : s.vm.findClass "java/lang/Record" = some m.cls := findClass_of_methodNamed Bd.named
  have hnm := (name_of_methodNamed Bd.named Bd.method).1
  have X0 : Stand p l e own_r0 s m #[(.ref a1)] below meth c s₁ [] 0 0 := Stand.of_body Bd
  have e0 : s₁.heap = h0 := by rw [← hh, Bd.state]; rfl
  have N0 := Fr.nil n0
  have pre0 : ∀ t, Steps p.tables e below (s₁.setTop (mkF m 0 #[.val (.ref a1)] [])) t → Steps p.tables e below (s₁.setTop (entryFrame m #[(.ref a1)] 1)) t := fun t k => castTop (ef_21 m a1) k
  obtain ⟨T2, X2, e2, st2⟩ := initO X0 hx hZ hown (own_w hw 167 rfl) (own_w hw 17 rfl) (own_w hw 18 rfl) e0 (g := (mkF m 1 #[.val (.ref a1)] [(.ref a1)])) rfl (by rw [hml]; rfl) rfl (hb hby d21_1) (by decide) (W := 0) (by show 2 * 0 + _ ≤ _; exact Nat.le_of_eq rfl) (by decide)
  obtain ⟨fs, hr, hrun, hended, hW, hsame⟩ := X2.leave (v := none) (fun _ => rfl)
  refine ⟨_, _, pre0 _ ?_, hrun, hended, _, _, rfl, ?_, ⟨_, rfl⟩, hW, hsame.mono (by decide) (by decide)⟩
  · show Steps _ _ _ (s₁.setTop (mkF m 0 #[.val (.ref a1)] [])) _
    refine XS.aloadN X0.here hx rfl (hb hby d21_0) rfl rfl ?_
    show Steps _ _ _ (s₁.setTop (mkF m 1 #[.val (.ref a1)] [(.ref a1)])) _
    refine st2 _ ?_
    show Steps _ _ _ (T2.setTop (mkF m 4 #[.val (.ref a1)] [])) _
    exact X2.returnOut hx Bd.returns (hb hby d21_4) hr
  · show Qv (none) h0 n0 _ T2.heap _
    rw [e2]
    exact ⟨rfl, N0, rfl⟩
theorem d20_0 : decode prog_31_method_2_code 0 = .ok (.aload_n 0, 1) := by decide +kernel
theorem d20_1 : decode prog_31_method_2_code 1 = .ok (.invokespecial 3, 3) := by decide +kernel
theorem d20_4 : decode prog_31_method_2_code 4 = .ok (.aload_n 0, 1) := by decide +kernel
theorem d20_5 : decode prog_31_method_2_code 5 = .ok (.iload_n 1, 1) := by decide +kernel
theorem d20_6 : decode prog_31_method_2_code 6 = .ok (.putfield 9, 3) := by decide +kernel
theorem d20_9 : decode prog_31_method_2_code 9 = .ok (.aload_n 0, 1) := by decide +kernel
theorem d20_10 : decode prog_31_method_2_code 10 = .ok (.lload_n 2, 1) := by decide +kernel
theorem d20_11 : decode prog_31_method_2_code 11 = .ok (.putfield 15, 3) := by decide +kernel
theorem d20_14 : decode prog_31_method_2_code 14 = .ok (.aload_n 0, 1) := by decide +kernel
theorem d20_15 : decode prog_31_method_2_code 15 = .ok (.iload 4, 2) := by decide +kernel
theorem d20_17 : decode prog_31_method_2_code 17 = .ok (.putfield 19, 3) := by decide +kernel
theorem d20_20 : decode prog_31_method_2_code 20 = .ok (.aload_n 0, 1) := by decide +kernel
theorem d20_21 : decode prog_31_method_2_code 21 = .ok (.aload 5, 2) := by decide +kernel
theorem d20_23 : decode prog_31_method_2_code 23 = .ok (.putfield 22, 3) := by decide +kernel
theorem d20_26 : decode prog_31_method_2_code 26 = .ok (.aload_n 0, 1) := by decide +kernel
theorem d20_27 : decode prog_31_method_2_code 27 = .ok (.iload 6, 2) := by decide +kernel
theorem d20_29 : decode prog_31_method_2_code 29 = .ok (.putfield 26, 3) := by decide +kernel
theorem d20_32 : decode prog_31_method_2_code 32 = .ok (.aload_n 0, 1) := by decide +kernel
theorem d20_33 : decode prog_31_method_2_code 33 = .ok (.iload 7, 2) := by decide +kernel
theorem d20_35 : decode prog_31_method_2_code 35 = .ok (.putfield 29, 3) := by decide +kernel
theorem d20_38 : decode prog_31_method_2_code 38 = .ok (.return_, 1) := by decide +kernel
theorem pn_20 : plainName "com/example/cablegram/cablegram/engine/Envelope" = true := by first | (simp [plainName, overriddenIn]; done) | decide +kernel
theorem pd_20_0 : parseMethodDescriptor "()V" = some ⟨[], none⟩ := by decide +kernel
theorem ef_20 (m : MethodId) (x0 : Addr) (x1 : Int32) (x2 : Int64) (x3 : Int32) (x4 : Addr) (x5 x6 : Int32) : entryFrame m #[(.ref x0), (.int x1), (.long x2), (.int x3), (.ref x4), (.int x5), (.int x6)] 8 = mkF m 0 #[.val (.ref x0), .val (.int x1), .val (.long x2), .second, .val (.int x3), .val (.ref x4), .val (.int x5), .val (.int x6)] [] := by first | (simp [entryFrame, mkF, argsToLocals, Value.category]; done) | rfl
theorem rm20 (l : Launch) (Z : State) (a0 : Array Value) (hw : ∀ d ∈ tables_1, d.before a0 Z = true) (ws : List Jvm.Cond) (a1 : Addr) (p2 : Int32) (q3 : Int64) (p4 : Int32) (a5 : Addr) (p6 p7 : Int32) (u_source_a1 u_context_a1 u_tag_a1 u_type_a1 u_count_a1 u_entries_a1 : Value) (h0 : Heap) (n0 : Nat) (Z0 : n0 ≤ h0.size) (E_a1 : Exa Z h0 a1 "com/example/cablegram/cablegram/engine/Envelope") (F_source_a1 : Fld Z h0 a1 "com/example/cablegram/cablegram/engine/Envelope" "source" "I" u_source_a1) (g_a1 : n0 ≤ a1) (F_context_a1 : Fld Z h0 a1 "com/example/cablegram/cablegram/engine/Envelope" "context" "J" u_context_a1) (F_tag_a1 : Fld Z h0 a1 "com/example/cablegram/cablegram/engine/Envelope" "tag" "I" u_tag_a1) (F_type_a1 : Fld Z h0 a1 "com/example/cablegram/cablegram/engine/Envelope" "type" "Lcom/example/cablegram/cablegram/engine/ElementType;" u_type_a1) (F_count_a1 : Fld Z h0 a1 "com/example/cablegram/cablegram/engine/Envelope" "count" "I" u_count_a1) (F_entries_a1 : Fld Z h0 a1 "com/example/cablegram/cablegram/engine/Envelope" "entries" "I" u_entries_a1) :
    MetFree l own_n19 (head1 (Jvm.Cond.code own_n19 prog_31_method_2_code 8 none :: ws) own_r6) (fun a U => a = #[(.ref a1), (.int p2), (.long q3), (.int p4), (.ref a5), (.int p6), (.int p7)] ∧ Z.Warmed39 U.vm ∧ U.heap = h0) (fun _ _ _ _ _ => True) (fun _ U o U' => ∃ v L, o = .returned v ∧ Qk a1 h0 n0 v U'.heap L ∧ FrameEnd U o U' L own_r6.cells own_r6.slots) := by
  refine MetFree.of_bodySF (plainFor_of_name pn_20) hisR ?_
  intro p e s m args below meth c s₁ Bd hml0 hP hK
  obtain ⟨rfl, hZ, hh⟩ := hP
  have hx := Bd.exec
  have hby := Bd.bytes
  have hml : c.maxLocals = 8 := hml0
  have hown : s.vm.findClass "com/example/cablegram/cablegram/engine/Envelope" = some m.cls := findClass_of_methodNamed Bd.named
  have hnm := (name_of_methodNamed Bd.named Bd.method).1
  have X0 : Stand p l e own_r6 s m #[(.ref a1), (.int p2), (.long q3), (.int p4), (.ref a5), (.int p6), (.int p7)] below meth c s₁ [] 0 0 := Stand.of_body Bd
  have e0 : s₁.heap = h0 := by rw [← hh, Bd.state]; rfl
  have N0 := Fr.nil n0
  have pre0 : ∀ t, Steps p.tables e below (s₁.setTop (mkF m 0 #[.val (.ref a1), .val (.int p2), .val (.long q3), .second, .val (.int p4), .val (.ref a5), .val (.int p6), .val (.int p7)] [])) t → Steps p.tables e below (s₁.setTop (entryFrame m #[(.ref a1), (.int p2), (.long q3), (.int p4), (.ref a5), (.int p6), (.int p7)] 8)) t := fun t k => castTop (ef_20 m a1 p2 q3 p4 a5 p6 p7) k
  obtain ⟨_, _, ⟨T8, L8, k8, n8⟩, -, X8, ⟨Lc8, hQ8, l8, y8, z8⟩, st8⟩ := X0.specialBack hx (y := own_n18) rfl hown (mvT hZ (own_w hw 162 rfl)) (mvT hZ (own_w hw 163 rfl)) (mvT hZ (own_w hw 166 rfl)) (by decide) (backOf (W := 0) (rm21 l Z a0 hw [] a1 h0 n0 Z0) hZ (own_w hw 166 rfl) (own_w hw 165 rfl) (by decide) (by decide)) (g := (mkF m 1 #[.val (.ref a1), .val (.int p2), .val (.long q3), .second, .val (.int p4), .val (.ref a5), .val (.int p6), .val (.int p7)] [(.ref a1)])) rfl (by rw [hml]; rfl) (Steps.refl _) (a := a1) (argsL := []) (rest := []) (lenOf pd_20_0 rfl) rfl (by show 2 * 0 + _ ≤ _; exact Nat.le_of_eq rfl) (hb hby d20_1) (fun _ _ => ⟨rfl, e0, (by decide : 0 + 0 ≤ _), (by decide : 0 + 0 ≤ _)⟩)
  dsimp only [Pt.U, Pt.locs, Pt.cells, Pt.slots] at X8 l8 y8 z8 st8 hQ8
  subst l8 y8 z8
  obtain ⟨rfl, N8q, e8⟩ := hQ8
  have N8 := Fr.app N0 N8q
  have Kc8 : Keep h0 T8.heap [] := own_kp e8
  have Kh8 : Keep h0 T8.heap [a1] := e8 ▸ Keep.refl _ _
  obtain ⟨T9, h9, X9, e9, W9, st9⟩ := putF X8 hx hZ hown (host := "") (Or.inl (own_w hw 168 rfl)) Via.refl rfl (F_source_a1.keep Kc8 nin0) (E_a1.keep Kc8) (Or.inr ⟨(own_w hw 169 rfl), rfl, hnm⟩) (own_w hw 158 rfl) (ty := .int) (by decide) rfl rfl (g := (mkF m 6 #[.val (.ref a1), .val (.int p2), .val (.long q3), .second, .val (.int p4), .val (.ref a5), .val (.int p6), .val (.int p7)] [(.int p2), (.ref a1)])) rfl rfl (hb hby d20_6)
  have Fw9 := (F_source_a1.keep Kc8 nin0).same W9
  have K9 : Keep h0 h9 [a1] := Kh8.wr W9 (Or.inl (List.mem_of_getElem? (i := 0) rfl))
  have N9 := Fr.snoc X9 N8 g_a1
  obtain ⟨T10, h10, X10, e10, W10, st10⟩ := putF X9 hx hZ hown (host := "") (Or.inl (own_w hw 170 rfl)) Via.refl e9 ((F_context_a1.keep Kc8 nin0).other W9 (Or.inr (slot_ne (Or.inr (own_w hw 171 rfl)) (Or.inr (own_w hw 169 rfl)) (by decide) (t := .long) (t' := .int) (by decide) (by decide)))) ((E_a1.keep Kc8).wr W9) (Or.inr ⟨(own_w hw 171 rfl), rfl, hnm⟩) (own_w hw 158 rfl) (ty := .long) (by decide) rfl rfl (g := (mkF m 11 #[.val (.ref a1), .val (.int p2), .val (.long q3), .second, .val (.int p4), .val (.ref a5), .val (.int p6), .val (.int p7)] [(.long q3), (.ref a1)])) rfl rfl (hb hby d20_11)
  have Fw10 := ((F_context_a1.keep Kc8 nin0).other W9 (Or.inr (slot_ne (Or.inr (own_w hw 171 rfl)) (Or.inr (own_w hw 169 rfl)) (by decide) (t := .long) (t' := .int) (by decide) (by decide)))).same W10
  have K10 : Keep h0 h10 [a1] := K9.wr W10 (Or.inl (List.mem_of_getElem? (i := 0) rfl))
  have N10 := Fr.snoc X10 N9 g_a1
  obtain ⟨T11, h11, X11, e11, W11, st11⟩ := putF X10 hx hZ hown (host := "") (Or.inl (own_w hw 172 rfl)) Via.refl e10 (((F_tag_a1.keep Kc8 nin0).other W9 (Or.inr (slot_ne (Or.inr (own_w hw 173 rfl)) (Or.inr (own_w hw 169 rfl)) (by decide) (t := .int) (t' := .int) (by decide) (by decide)))).other W10 (Or.inr (slot_ne (Or.inr (own_w hw 173 rfl)) (Or.inr (own_w hw 171 rfl)) (by decide) (t := .int) (t' := .long) (by decide) (by decide)))) (((E_a1.keep Kc8).wr W9).wr W10) (Or.inr ⟨(own_w hw 173 rfl), rfl, hnm⟩) (own_w hw 158 rfl) (ty := .int) (by decide) rfl rfl (g := (mkF m 17 #[.val (.ref a1), .val (.int p2), .val (.long q3), .second, .val (.int p4), .val (.ref a5), .val (.int p6), .val (.int p7)] [(.int p4), (.ref a1)])) rfl rfl (hb hby d20_17)
  have Fw11 := (((F_tag_a1.keep Kc8 nin0).other W9 (Or.inr (slot_ne (Or.inr (own_w hw 173 rfl)) (Or.inr (own_w hw 169 rfl)) (by decide) (t := .int) (t' := .int) (by decide) (by decide)))).other W10 (Or.inr (slot_ne (Or.inr (own_w hw 173 rfl)) (Or.inr (own_w hw 171 rfl)) (by decide) (t := .int) (t' := .long) (by decide) (by decide)))).same W11
  have K11 : Keep h0 h11 [a1] := K10.wr W11 (Or.inl (List.mem_of_getElem? (i := 0) rfl))
  have N11 := Fr.snoc X11 N10 g_a1
  obtain ⟨T12, h12, X12, e12, W12, st12⟩ := putF X11 hx hZ hown (host := "") (Or.inl (own_w hw 174 rfl)) Via.refl e11 ((((F_type_a1.keep Kc8 nin0).other W9 (Or.inr (slot_ne (Or.inr (own_w hw 175 rfl)) (Or.inr (own_w hw 169 rfl)) (by decide) (t := (.object own_s2)) (t' := .int) (by decide) (by decide)))).other W10 (Or.inr (slot_ne (Or.inr (own_w hw 175 rfl)) (Or.inr (own_w hw 171 rfl)) (by decide) (t := (.object own_s2)) (t' := .long) (by decide) (by decide)))).other W11 (Or.inr (slot_ne (Or.inr (own_w hw 175 rfl)) (Or.inr (own_w hw 173 rfl)) (by decide) (t := (.object own_s2)) (t' := .int) (by decide) (by decide)))) ((((E_a1.keep Kc8).wr W9).wr W10).wr W11) (Or.inr ⟨(own_w hw 175 rfl), rfl, hnm⟩) (own_w hw 158 rfl) (ty := (.object own_s2)) (by decide) rfl rfl (g := (mkF m 23 #[.val (.ref a1), .val (.int p2), .val (.long q3), .second, .val (.int p4), .val (.ref a5), .val (.int p6), .val (.int p7)] [(.ref a5), (.ref a1)])) rfl rfl (hb hby d20_23)
  have Fw12 := ((((F_type_a1.keep Kc8 nin0).other W9 (Or.inr (slot_ne (Or.inr (own_w hw 175 rfl)) (Or.inr (own_w hw 169 rfl)) (by decide) (t := (.object own_s2)) (t' := .int) (by decide) (by decide)))).other W10 (Or.inr (slot_ne (Or.inr (own_w hw 175 rfl)) (Or.inr (own_w hw 171 rfl)) (by decide) (t := (.object own_s2)) (t' := .long) (by decide) (by decide)))).other W11 (Or.inr (slot_ne (Or.inr (own_w hw 175 rfl)) (Or.inr (own_w hw 173 rfl)) (by decide) (t := (.object own_s2)) (t' := .int) (by decide) (by decide)))).same W12
  have K12 : Keep h0 h12 [a1] := K11.wr W12 (Or.inl (List.mem_of_getElem? (i := 0) rfl))
  have N12 := Fr.snoc X12 N11 g_a1
  obtain ⟨T13, h13, X13, e13, W13, st13⟩ := putF X12 hx hZ hown (host := "") (Or.inl (own_w hw 176 rfl)) Via.refl e12 (((((F_count_a1.keep Kc8 nin0).other W9 (Or.inr (slot_ne (Or.inr (own_w hw 177 rfl)) (Or.inr (own_w hw 169 rfl)) (by decide) (t := .int) (t' := .int) (by decide) (by decide)))).other W10 (Or.inr (slot_ne (Or.inr (own_w hw 177 rfl)) (Or.inr (own_w hw 171 rfl)) (by decide) (t := .int) (t' := .long) (by decide) (by decide)))).other W11 (Or.inr (slot_ne (Or.inr (own_w hw 177 rfl)) (Or.inr (own_w hw 173 rfl)) (by decide) (t := .int) (t' := .int) (by decide) (by decide)))).other W12 (Or.inr (slot_ne (Or.inr (own_w hw 177 rfl)) (Or.inr (own_w hw 175 rfl)) (by decide) (t := .int) (t' := (.object own_s2)) (by decide) (by decide)))) (((((E_a1.keep Kc8).wr W9).wr W10).wr W11).wr W12) (Or.inr ⟨(own_w hw 177 rfl), rfl, hnm⟩) (own_w hw 158 rfl) (ty := .int) (by decide) rfl rfl (g := (mkF m 29 #[.val (.ref a1), .val (.int p2), .val (.long q3), .second, .val (.int p4), .val (.ref a5), .val (.int p6), .val (.int p7)] [(.int p6), (.ref a1)])) rfl rfl (hb hby d20_29)
  have Fw13 := (((((F_count_a1.keep Kc8 nin0).other W9 (Or.inr (slot_ne (Or.inr (own_w hw 177 rfl)) (Or.inr (own_w hw 169 rfl)) (by decide) (t := .int) (t' := .int) (by decide) (by decide)))).other W10 (Or.inr (slot_ne (Or.inr (own_w hw 177 rfl)) (Or.inr (own_w hw 171 rfl)) (by decide) (t := .int) (t' := .long) (by decide) (by decide)))).other W11 (Or.inr (slot_ne (Or.inr (own_w hw 177 rfl)) (Or.inr (own_w hw 173 rfl)) (by decide) (t := .int) (t' := .int) (by decide) (by decide)))).other W12 (Or.inr (slot_ne (Or.inr (own_w hw 177 rfl)) (Or.inr (own_w hw 175 rfl)) (by decide) (t := .int) (t' := (.object own_s2)) (by decide) (by decide)))).same W13
  have K13 : Keep h0 h13 [a1] := K12.wr W13 (Or.inl (List.mem_of_getElem? (i := 0) rfl))
  have N13 := Fr.snoc X13 N12 g_a1
  obtain ⟨T14, h14, X14, e14, W14, st14⟩ := putF X13 hx hZ hown (host := "") (Or.inl (own_w hw 178 rfl)) Via.refl e13 ((((((F_entries_a1.keep Kc8 nin0).other W9 (Or.inr (slot_ne (Or.inr (own_w hw 179 rfl)) (Or.inr (own_w hw 169 rfl)) (by decide) (t := .int) (t' := .int) (by decide) (by decide)))).other W10 (Or.inr (slot_ne (Or.inr (own_w hw 179 rfl)) (Or.inr (own_w hw 171 rfl)) (by decide) (t := .int) (t' := .long) (by decide) (by decide)))).other W11 (Or.inr (slot_ne (Or.inr (own_w hw 179 rfl)) (Or.inr (own_w hw 173 rfl)) (by decide) (t := .int) (t' := .int) (by decide) (by decide)))).other W12 (Or.inr (slot_ne (Or.inr (own_w hw 179 rfl)) (Or.inr (own_w hw 175 rfl)) (by decide) (t := .int) (t' := (.object own_s2)) (by decide) (by decide)))).other W13 (Or.inr (slot_ne (Or.inr (own_w hw 179 rfl)) (Or.inr (own_w hw 177 rfl)) (by decide) (t := .int) (t' := .int) (by decide) (by decide)))) ((((((E_a1.keep Kc8).wr W9).wr W10).wr W11).wr W12).wr W13) (Or.inr ⟨(own_w hw 179 rfl), rfl, hnm⟩) (own_w hw 158 rfl) (ty := .int) (by decide) rfl rfl (g := (mkF m 35 #[.val (.ref a1), .val (.int p2), .val (.long q3), .second, .val (.int p4), .val (.ref a5), .val (.int p6), .val (.int p7)] [(.int p7), (.ref a1)])) rfl rfl (hb hby d20_35)
  have Fw14 := ((((((F_entries_a1.keep Kc8 nin0).other W9 (Or.inr (slot_ne (Or.inr (own_w hw 179 rfl)) (Or.inr (own_w hw 169 rfl)) (by decide) (t := .int) (t' := .int) (by decide) (by decide)))).other W10 (Or.inr (slot_ne (Or.inr (own_w hw 179 rfl)) (Or.inr (own_w hw 171 rfl)) (by decide) (t := .int) (t' := .long) (by decide) (by decide)))).other W11 (Or.inr (slot_ne (Or.inr (own_w hw 179 rfl)) (Or.inr (own_w hw 173 rfl)) (by decide) (t := .int) (t' := .int) (by decide) (by decide)))).other W12 (Or.inr (slot_ne (Or.inr (own_w hw 179 rfl)) (Or.inr (own_w hw 175 rfl)) (by decide) (t := .int) (t' := (.object own_s2)) (by decide) (by decide)))).other W13 (Or.inr (slot_ne (Or.inr (own_w hw 179 rfl)) (Or.inr (own_w hw 177 rfl)) (by decide) (t := .int) (t' := .int) (by decide) (by decide)))).same W14
  have K14 : Keep h0 h14 [a1] := K13.wr W14 (Or.inl (List.mem_of_getElem? (i := 0) rfl))
  have N14 := Fr.snoc X14 N13 g_a1
  obtain ⟨fs, hr, hrun, hended, hW, hsame⟩ := X14.leave (v := none) (fun _ => rfl)
  refine ⟨_, _, pre0 _ ?_, hrun, hended, _, _, rfl, ?_, ⟨_, rfl⟩, hW, hsame.mono (by decide) (by decide)⟩
  · show Steps _ _ _ (s₁.setTop (mkF m 0 #[.val (.ref a1), .val (.int p2), .val (.long q3), .second, .val (.int p4), .val (.ref a5), .val (.int p6), .val (.int p7)] [])) _
    refine XS.aloadN X0.here hx rfl (hb hby d20_0) rfl rfl ?_
    show Steps _ _ _ (s₁.setTop (mkF m 1 #[.val (.ref a1), .val (.int p2), .val (.long q3), .second, .val (.int p4), .val (.ref a5), .val (.int p6), .val (.int p7)] [(.ref a1)])) _
    refine st8.trans ?_
    show Steps _ _ _ (T8.setTop (mkF m 4 #[.val (.ref a1), .val (.int p2), .val (.long q3), .second, .val (.int p4), .val (.ref a5), .val (.int p6), .val (.int p7)] [])) _
    refine XS.aloadN X8.here hx rfl (hb hby d20_4) rfl rfl ?_
    show Steps _ _ _ (T8.setTop (mkF m 5 #[.val (.ref a1), .val (.int p2), .val (.long q3), .second, .val (.int p4), .val (.ref a5), .val (.int p6), .val (.int p7)] [(.ref a1)])) _
    refine XS.iloadN X8.here hx rfl (hb hby d20_5) rfl ?_
    show Steps _ _ _ (T8.setTop (mkF m 6 #[.val (.ref a1), .val (.int p2), .val (.long q3), .second, .val (.int p4), .val (.ref a5), .val (.int p6), .val (.int p7)] [(.int p2), (.ref a1)])) _
    refine st9 _ ?_
    show Steps _ _ _ (T9.setTop (mkF m 9 #[.val (.ref a1), .val (.int p2), .val (.long q3), .second, .val (.int p4), .val (.ref a5), .val (.int p6), .val (.int p7)] [])) _
    refine XS.aloadN X9.here hx rfl (hb hby d20_9) rfl rfl ?_
    show Steps _ _ _ (T9.setTop (mkF m 10 #[.val (.ref a1), .val (.int p2), .val (.long q3), .second, .val (.int p4), .val (.ref a5), .val (.int p6), .val (.int p7)] [(.ref a1)])) _
    refine XS.lloadN X9.here hx rfl (hb hby d20_10) rfl ?_
    show Steps _ _ _ (T9.setTop (mkF m 11 #[.val (.ref a1), .val (.int p2), .val (.long q3), .second, .val (.int p4), .val (.ref a5), .val (.int p6), .val (.int p7)] [(.long q3), (.ref a1)])) _
    refine st10 _ ?_
    show Steps _ _ _ (T10.setTop (mkF m 14 #[.val (.ref a1), .val (.int p2), .val (.long q3), .second, .val (.int p4), .val (.ref a5), .val (.int p6), .val (.int p7)] [])) _
    refine XS.aloadN X10.here hx rfl (hb hby d20_14) rfl rfl ?_
    show Steps _ _ _ (T10.setTop (mkF m 15 #[.val (.ref a1), .val (.int p2), .val (.long q3), .second, .val (.int p4), .val (.ref a5), .val (.int p6), .val (.int p7)] [(.ref a1)])) _
    refine XS.iload X10.here hx rfl (hb hby d20_15) rfl ?_
    show Steps _ _ _ (T10.setTop (mkF m 17 #[.val (.ref a1), .val (.int p2), .val (.long q3), .second, .val (.int p4), .val (.ref a5), .val (.int p6), .val (.int p7)] [(.int p4), (.ref a1)])) _
    refine st11 _ ?_
    show Steps _ _ _ (T11.setTop (mkF m 20 #[.val (.ref a1), .val (.int p2), .val (.long q3), .second, .val (.int p4), .val (.ref a5), .val (.int p6), .val (.int p7)] [])) _
    refine XS.aloadN X11.here hx rfl (hb hby d20_20) rfl rfl ?_
    show Steps _ _ _ (T11.setTop (mkF m 21 #[.val (.ref a1), .val (.int p2), .val (.long q3), .second, .val (.int p4), .val (.ref a5), .val (.int p6), .val (.int p7)] [(.ref a1)])) _
    refine XS.aload X11.here hx rfl (hb hby d20_21) rfl rfl ?_
    show Steps _ _ _ (T11.setTop (mkF m 23 #[.val (.ref a1), .val (.int p2), .val (.long q3), .second, .val (.int p4), .val (.ref a5), .val (.int p6), .val (.int p7)] [(.ref a5), (.ref a1)])) _
    refine st12 _ ?_
    show Steps _ _ _ (T12.setTop (mkF m 26 #[.val (.ref a1), .val (.int p2), .val (.long q3), .second, .val (.int p4), .val (.ref a5), .val (.int p6), .val (.int p7)] [])) _
    refine XS.aloadN X12.here hx rfl (hb hby d20_26) rfl rfl ?_
    show Steps _ _ _ (T12.setTop (mkF m 27 #[.val (.ref a1), .val (.int p2), .val (.long q3), .second, .val (.int p4), .val (.ref a5), .val (.int p6), .val (.int p7)] [(.ref a1)])) _
    refine XS.iload X12.here hx rfl (hb hby d20_27) rfl ?_
    show Steps _ _ _ (T12.setTop (mkF m 29 #[.val (.ref a1), .val (.int p2), .val (.long q3), .second, .val (.int p4), .val (.ref a5), .val (.int p6), .val (.int p7)] [(.int p6), (.ref a1)])) _
    refine st13 _ ?_
    show Steps _ _ _ (T13.setTop (mkF m 32 #[.val (.ref a1), .val (.int p2), .val (.long q3), .second, .val (.int p4), .val (.ref a5), .val (.int p6), .val (.int p7)] [])) _
    refine XS.aloadN X13.here hx rfl (hb hby d20_32) rfl rfl ?_
    show Steps _ _ _ (T13.setTop (mkF m 33 #[.val (.ref a1), .val (.int p2), .val (.long q3), .second, .val (.int p4), .val (.ref a5), .val (.int p6), .val (.int p7)] [(.ref a1)])) _
    refine XS.iload X13.here hx rfl (hb hby d20_33) rfl ?_
    show Steps _ _ _ (T13.setTop (mkF m 35 #[.val (.ref a1), .val (.int p2), .val (.long q3), .second, .val (.int p4), .val (.ref a5), .val (.int p6), .val (.int p7)] [(.int p7), (.ref a1)])) _
    refine st14 _ ?_
    show Steps _ _ _ (T14.setTop (mkF m 38 #[.val (.ref a1), .val (.int p2), .val (.long q3), .second, .val (.int p4), .val (.ref a5), .val (.int p6), .val (.int p7)] [])) _
    exact X14.returnOut hx Bd.returns (hb hby d20_38) hr
  · show Qk a1 h0 n0 _ T14.heap _
    rw [e14]
    exact ⟨rfl, N14, K14⟩
theorem d23_0 : decode prog_83_method_2_code 0 = .ok (.aload_n 0, 1) := by decide +kernel
theorem d23_1 : decode prog_83_method_2_code 1 = .ok (.invokespecial 1, 3) := by decide +kernel
theorem d23_4 : decode prog_83_method_2_code 4 = .ok (.aload_n 0, 1) := by decide +kernel
theorem d23_5 : decode prog_83_method_2_code 5 = .ok (.aload_n 1, 1) := by decide +kernel
theorem d23_6 : decode prog_83_method_2_code 6 = .ok (.putfield 7, 3) := by decide +kernel
theorem d23_9 : decode prog_83_method_2_code 9 = .ok (.aload_n 0, 1) := by decide +kernel
theorem d23_10 : decode prog_83_method_2_code 10 = .ok (.iload_n 2, 1) := by decide +kernel
theorem d23_11 : decode prog_83_method_2_code 11 = .ok (.putfield 13, 3) := by decide +kernel
theorem d23_14 : decode prog_83_method_2_code 14 = .ok (.aload_n 0, 1) := by decide +kernel
theorem d23_15 : decode prog_83_method_2_code 15 = .ok (.aload_n 3, 1) := by decide +kernel
theorem d23_16 : decode prog_83_method_2_code 16 = .ok (.putfield 17, 3) := by decide +kernel
theorem d23_19 : decode prog_83_method_2_code 19 = .ok (.return_, 1) := by decide +kernel
theorem pn_23 : plainName "com/example/cablegram/cablegram/engine/Received" = true := by first | (simp [plainName, overriddenIn]; done) | decide +kernel
theorem pd_23_0 : parseMethodDescriptor "()V" = some ⟨[], none⟩ := by decide +kernel
theorem ef_23 (m : MethodId) (x0 x1 : Addr) (x2 : Int32) : entryFrame m #[(.ref x0), (.ref x1), (.int x2), .null] 4 = mkF m 0 #[.val (.ref x0), .val (.ref x1), .val (.int x2), .val .null] [] := by first | (simp [entryFrame, mkF, argsToLocals, Value.category]; done) | rfl
theorem rm23 (l : Launch) (Z : State) (a0 : Array Value) (hw : ∀ d ∈ tables_1, d.before a0 Z = true) (ws : List Jvm.Cond) (a1 a2 : Addr) (p3 : Int32) (u_envelope_a1 u_delivered_a1 u_elements_a1 : Value) (h0 : Heap) (n0 : Nat) (Z0 : n0 ≤ h0.size) (E_a1 : Exa Z h0 a1 "com/example/cablegram/cablegram/engine/Received") (F_envelope_a1 : Fld Z h0 a1 "com/example/cablegram/cablegram/engine/Received" "envelope" "Lcom/example/cablegram/cablegram/engine/Envelope;" u_envelope_a1) (g_a1 : n0 ≤ a1) (F_delivered_a1 : Fld Z h0 a1 "com/example/cablegram/cablegram/engine/Received" "delivered" "Z" u_delivered_a1) (F_elements_a1 : Fld Z h0 a1 "com/example/cablegram/cablegram/engine/Received" "elements" "Ljava/lang/Object;" u_elements_a1) :
    MetFree l own_n20 (head1 (Jvm.Cond.code own_n20 prog_83_method_2_code 4 none :: ws) own_r6) (fun a U => a = #[(.ref a1), (.ref a2), (.int p3), .null] ∧ Z.Warmed39 U.vm ∧ U.heap = h0) (fun _ _ _ _ _ => True) (fun _ U o U' => ∃ v L, o = .returned v ∧ Qk a1 h0 n0 v U'.heap L ∧ FrameEnd U o U' L own_r6.cells own_r6.slots) := by
  refine MetFree.of_bodySF (plainFor_of_name pn_23) hisR ?_
  intro p e s m args below meth c s₁ Bd hml0 hP hK
  obtain ⟨rfl, hZ, hh⟩ := hP
  have hx := Bd.exec
  have hby := Bd.bytes
  have hml : c.maxLocals = 4 := hml0
  have hown : s.vm.findClass "com/example/cablegram/cablegram/engine/Received" = some m.cls := findClass_of_methodNamed Bd.named
  have hnm := (name_of_methodNamed Bd.named Bd.method).1
  have X0 : Stand p l e own_r6 s m #[(.ref a1), (.ref a2), (.int p3), .null] below meth c s₁ [] 0 0 := Stand.of_body Bd
  have e0 : s₁.heap = h0 := by rw [← hh, Bd.state]; rfl
  have N0 := Fr.nil n0
  have pre0 : ∀ t, Steps p.tables e below (s₁.setTop (mkF m 0 #[.val (.ref a1), .val (.ref a2), .val (.int p3), .val .null] [])) t → Steps p.tables e below (s₁.setTop (entryFrame m #[(.ref a1), (.ref a2), (.int p3), .null] 4)) t := fun t k => castTop (ef_23 m a1 a2 p3) k
  obtain ⟨_, _, ⟨T4, L4, k4, n4⟩, -, X4, ⟨Lc4, hQ4, l4, y4, z4⟩, st4⟩ := X0.specialBack hx (y := own_n18) rfl hown (mvT hZ (own_w hw 186 rfl)) (mvT hZ (own_w hw 163 rfl)) (mvT hZ (own_w hw 166 rfl)) (by decide) (backOf (W := 0) (rm21 l Z a0 hw [] a1 h0 n0 Z0) hZ (own_w hw 166 rfl) (own_w hw 165 rfl) (by decide) (by decide)) (g := (mkF m 1 #[.val (.ref a1), .val (.ref a2), .val (.int p3), .val .null] [(.ref a1)])) rfl (by rw [hml]; rfl) (Steps.refl _) (a := a1) (argsL := []) (rest := []) (lenOf pd_23_0 rfl) rfl (by show 2 * 0 + _ ≤ _; exact Nat.le_of_eq rfl) (hb hby d23_1) (fun _ _ => ⟨rfl, e0, (by decide : 0 + 0 ≤ _), (by decide : 0 + 0 ≤ _)⟩)
  dsimp only [Pt.U, Pt.locs, Pt.cells, Pt.slots] at X4 l4 y4 z4 st4 hQ4
  subst l4 y4 z4
  obtain ⟨rfl, N4q, e4⟩ := hQ4
  have N4 := Fr.app N0 N4q
  have Kc4 : Keep h0 T4.heap [] := own_kp e4
  have Kh4 : Keep h0 T4.heap [a1] := e4 ▸ Keep.refl _ _
  obtain ⟨T5, h5, X5, e5, W5, st5⟩ := putF X4 hx hZ hown (host := "") (Or.inl (own_w hw 187 rfl)) Via.refl rfl (F_envelope_a1.keep Kc4 nin0) (E_a1.keep Kc4) (Or.inr ⟨(own_w hw 188 rfl), rfl, hnm⟩) (own_w hw 155 rfl) (ty := (.object "com/example/cablegram/cablegram/engine/Envelope")) (by decide) rfl rfl (g := (mkF m 6 #[.val (.ref a1), .val (.ref a2), .val (.int p3), .val .null] [(.ref a2), (.ref a1)])) rfl rfl (hb hby d23_6)
  have Fw5 := (F_envelope_a1.keep Kc4 nin0).same W5
  have K5 : Keep h0 h5 [a1] := Kh4.wr W5 (Or.inl (List.mem_of_getElem? (i := 0) rfl))
  have N5 := Fr.snoc X5 N4 g_a1
  obtain ⟨T6, h6, X6, e6, W6, st6⟩ := putFN X5 hx hZ hown (own_w hw 189 rfl) Via.refl e5 ((F_delivered_a1.keep Kc4 nin0).other W5 (Or.inr (slot_ne (Or.inr (own_w hw 190 rfl)) (Or.inr (own_w hw 188 rfl)) (by decide) (t := .boolean) (t' := (.object "com/example/cablegram/cablegram/engine/Envelope")) (by decide) (by decide)))) ((E_a1.keep Kc4).wr W5) (Or.inr ⟨(own_w hw 190 rfl), rfl, hnm⟩) (own_w hw 155 rfl) (ty := .boolean) (v' := (.int (p3 &&& 1))) (by decide) rfl (fits_nar_bool _) (g := (mkF m 11 #[.val (.ref a1), .val (.ref a2), .val (.int p3), .val .null] [(.int p3), (.ref a1)])) rfl rfl (hb hby d23_11)
  have Fw6 := ((F_delivered_a1.keep Kc4 nin0).other W5 (Or.inr (slot_ne (Or.inr (own_w hw 190 rfl)) (Or.inr (own_w hw 188 rfl)) (by decide) (t := .boolean) (t' := (.object "com/example/cablegram/cablegram/engine/Envelope")) (by decide) (by decide)))).same W6
  have K6 : Keep h0 h6 [a1] := K5.wr W6 (Or.inl (List.mem_of_getElem? (i := 0) rfl))
  have N6 := Fr.snoc X6 N5 g_a1
  obtain ⟨T7, h7, X7, e7, W7, st7⟩ := putF X6 hx hZ hown (host := "") (Or.inl (own_w hw 191 rfl)) Via.refl e6 (((F_elements_a1.keep Kc4 nin0).other W5 (Or.inr (slot_ne (Or.inr (own_w hw 192 rfl)) (Or.inr (own_w hw 188 rfl)) (by decide) (t := (.object "java/lang/Object")) (t' := (.object "com/example/cablegram/cablegram/engine/Envelope")) (by decide) (by decide)))).other W6 (Or.inr (slot_ne (Or.inr (own_w hw 192 rfl)) (Or.inr (own_w hw 190 rfl)) (by decide) (t := (.object "java/lang/Object")) (t' := .boolean) (by decide) (by decide)))) (((E_a1.keep Kc4).wr W5).wr W6) (Or.inr ⟨(own_w hw 192 rfl), rfl, hnm⟩) (own_w hw 155 rfl) (ty := (.object "java/lang/Object")) (by decide) rfl rfl (g := (mkF m 16 #[.val (.ref a1), .val (.ref a2), .val (.int p3), .val .null] [.null, (.ref a1)])) rfl rfl (hb hby d23_16)
  have Fw7 := (((F_elements_a1.keep Kc4 nin0).other W5 (Or.inr (slot_ne (Or.inr (own_w hw 192 rfl)) (Or.inr (own_w hw 188 rfl)) (by decide) (t := (.object "java/lang/Object")) (t' := (.object "com/example/cablegram/cablegram/engine/Envelope")) (by decide) (by decide)))).other W6 (Or.inr (slot_ne (Or.inr (own_w hw 192 rfl)) (Or.inr (own_w hw 190 rfl)) (by decide) (t := (.object "java/lang/Object")) (t' := .boolean) (by decide) (by decide)))).same W7
  have K7 : Keep h0 h7 [a1] := K6.wr W7 (Or.inl (List.mem_of_getElem? (i := 0) rfl))
  have N7 := Fr.snoc X7 N6 g_a1
  obtain ⟨fs, hr, hrun, hended, hW, hsame⟩ := X7.leave (v := none) (fun _ => rfl)
  refine ⟨_, _, pre0 _ ?_, hrun, hended, _, _, rfl, ?_, ⟨_, rfl⟩, hW, hsame.mono (by decide) (by decide)⟩
  · show Steps _ _ _ (s₁.setTop (mkF m 0 #[.val (.ref a1), .val (.ref a2), .val (.int p3), .val .null] [])) _
    refine XS.aloadN X0.here hx rfl (hb hby d23_0) rfl rfl ?_
    show Steps _ _ _ (s₁.setTop (mkF m 1 #[.val (.ref a1), .val (.ref a2), .val (.int p3), .val .null] [(.ref a1)])) _
    refine st4.trans ?_
    show Steps _ _ _ (T4.setTop (mkF m 4 #[.val (.ref a1), .val (.ref a2), .val (.int p3), .val .null] [])) _
    refine XS.aloadN X4.here hx rfl (hb hby d23_4) rfl rfl ?_
    show Steps _ _ _ (T4.setTop (mkF m 5 #[.val (.ref a1), .val (.ref a2), .val (.int p3), .val .null] [(.ref a1)])) _
    refine XS.aloadN X4.here hx rfl (hb hby d23_5) rfl rfl ?_
    show Steps _ _ _ (T4.setTop (mkF m 6 #[.val (.ref a1), .val (.ref a2), .val (.int p3), .val .null] [(.ref a2), (.ref a1)])) _
    refine st5 _ ?_
    show Steps _ _ _ (T5.setTop (mkF m 9 #[.val (.ref a1), .val (.ref a2), .val (.int p3), .val .null] [])) _
    refine XS.aloadN X5.here hx rfl (hb hby d23_9) rfl rfl ?_
    show Steps _ _ _ (T5.setTop (mkF m 10 #[.val (.ref a1), .val (.ref a2), .val (.int p3), .val .null] [(.ref a1)])) _
    refine XS.iloadN X5.here hx rfl (hb hby d23_10) rfl ?_
    show Steps _ _ _ (T5.setTop (mkF m 11 #[.val (.ref a1), .val (.ref a2), .val (.int p3), .val .null] [(.int p3), (.ref a1)])) _
    refine st6 _ ?_
    show Steps _ _ _ (T6.setTop (mkF m 14 #[.val (.ref a1), .val (.ref a2), .val (.int p3), .val .null] [])) _
    refine XS.aloadN X6.here hx rfl (hb hby d23_14) rfl rfl ?_
    show Steps _ _ _ (T6.setTop (mkF m 15 #[.val (.ref a1), .val (.ref a2), .val (.int p3), .val .null] [(.ref a1)])) _
    refine XS.aloadN X6.here hx rfl (hb hby d23_15) rfl rfl ?_
    show Steps _ _ _ (T6.setTop (mkF m 16 #[.val (.ref a1), .val (.ref a2), .val (.int p3), .val .null] [.null, (.ref a1)])) _
    refine st7 _ ?_
    show Steps _ _ _ (T7.setTop (mkF m 19 #[.val (.ref a1), .val (.ref a2), .val (.int p3), .val .null] [])) _
    exact X7.returnOut hx Bd.returns (hb hby d23_19) hr
  · show Qk a1 h0 n0 _ T7.heap _
    rw [e7]
    exact ⟨rfl, N7, K7⟩
theorem d22_0 : decode prog_83_method_1_code 0 = .ok (.aload_n 0, 1) := by decide +kernel
theorem d22_1 : decode prog_83_method_1_code 1 = .ok (.aload_n 1, 1) := by decide +kernel
theorem d22_2 : decode prog_83_method_1_code 2 = .ok (.iload_n 2, 1) := by decide +kernel
theorem d22_3 : decode prog_83_method_1_code 3 = .ok (.aconst_null, 1) := by decide +kernel
theorem d22_4 : decode prog_83_method_1_code 4 = .ok (.invokespecial 21, 3) := by decide +kernel
theorem d22_7 : decode prog_83_method_1_code 7 = .ok (.return_, 1) := by decide +kernel
theorem pn_22 : plainName "com/example/cablegram/cablegram/engine/Received" = true := by first | (simp [plainName, overriddenIn]; done) | decide +kernel
theorem pd_22_17 : parseMethodDescriptor "(Lcom/example/cablegram/cablegram/engine/Envelope;ZLjava/lang/Object;)V" = some ⟨[(.object "com/example/cablegram/cablegram/engine/Envelope"), .boolean, (.object "java/lang/Object")], none⟩ := by decide +kernel
theorem ef_22 (m : MethodId) (x0 x1 : Addr) (x2 : Int32) : entryFrame m #[(.ref x0), (.ref x1), (.int x2)] 3 = mkF m 0 #[.val (.ref x0), .val (.ref x1), .val (.int x2)] [] := by first | (simp [entryFrame, mkF, argsToLocals, Value.category]; done) | rfl
theorem rm22 (l : Launch) (Z : State) (a0 : Array Value) (hw : ∀ d ∈ tables_1, d.before a0 Z = true) (ws : List Jvm.Cond) (a1 a2 : Addr) (p3 : Int32) (h0 : Heap) (n0 : Nat) (Z0 : n0 ≤ h0.size) (u_envelope : Value) (F_envelope_a1 : Fld Z h0 a1 "com/example/cablegram/cablegram/engine/Received" "envelope" "Lcom/example/cablegram/cablegram/engine/Envelope;" u_envelope) (u_delivered : Value) (F_delivered_a1 : Fld Z h0 a1 "com/example/cablegram/cablegram/engine/Received" "delivered" "Z" u_delivered) (u_elements : Value) (F_elements_a1 : Fld Z h0 a1 "com/example/cablegram/cablegram/engine/Received" "elements" "Ljava/lang/Object;" u_elements) (E_a1 : Exa Z h0 a1 "com/example/cablegram/cablegram/engine/Received") (g_a1 : n0 ≤ a1) :
    MetFree l own_n21 (head1 (Jvm.Cond.code own_n21 prog_83_method_1_code 3 none :: ws) own_r7) (fun a U => a = #[(.ref a1), (.ref a2), (.int p3)] ∧ Z.Warmed39 U.vm ∧ U.heap = h0) (fun _ _ _ _ _ => True) (fun _ U o U' => ∃ v L, o = .returned v ∧ Qk a1 h0 n0 v U'.heap L ∧ FrameEnd U o U' L own_r7.cells own_r7.slots) := by
  refine MetFree.of_bodySF (plainFor_of_name pn_22) hisR ?_
  intro p e s m args below meth c s₁ Bd hml0 hP hK
  obtain ⟨rfl, hZ, hh⟩ := hP
  have hx := Bd.exec
  have hby := Bd.bytes
  have hml : c.maxLocals = 3 := hml0
  have hown : s.vm.findClass "com/example/cablegram/cablegram/engine/Received" = some m.cls := findClass_of_methodNamed Bd.named
  have hnm := (name_of_methodNamed Bd.named Bd.method).1
  have X0 : Stand p l e own_r7 s m #[(.ref a1), (.ref a2), (.int p3)] below meth c s₁ [] 0 0 := Stand.of_body Bd
  have e0 : s₁.heap = h0 := by rw [← hh, Bd.state]; rfl
  have N0 := Fr.nil n0
  have pre0 : ∀ t, Steps p.tables e below (s₁.setTop (mkF m 0 #[.val (.ref a1), .val (.ref a2), .val (.int p3)] [])) t → Steps p.tables e below (s₁.setTop (entryFrame m #[(.ref a1), (.ref a2), (.int p3)] 3)) t := fun t k => castTop (ef_22 m a1 a2 p3) k
  obtain ⟨_, _, ⟨T4, L4, k4, n4⟩, -, X4, ⟨Lc4, hQ4, l4, y4, z4⟩, st4⟩ := X0.specialBack hx (y := own_n20) rfl hown (mvT hZ (own_w hw 183 rfl)) (mvT hZ (own_w hw 184 rfl)) (mvT hZ (own_w hw 185 rfl)) (by decide) (backOf (W := 0) (rm23 l Z a0 hw [] a1 a2 p3 u_envelope u_delivered u_elements h0 n0 Z0 E_a1 F_envelope_a1 g_a1 F_delivered_a1 F_elements_a1) hZ (own_w hw 185 rfl) (own_w hw 156 rfl) (by decide) (by decide)) (g := (mkF m 4 #[.val (.ref a1), .val (.ref a2), .val (.int p3)] [.null, (.int p3), (.ref a2), (.ref a1)])) rfl (by rw [hml]; rfl) (Steps.refl _) (a := a1) (argsL := [(.ref a2), (.int p3), .null]) (rest := []) (lenOf pd_22_17 rfl) rfl (by show 2 * 0 + _ ≤ _; exact Nat.le_of_eq rfl) (hb hby d22_4) (fun _ _ => ⟨rfl, e0, (by decide : 0 + 0 ≤ _), (by decide : 0 + 0 ≤ _)⟩)
  dsimp only [Pt.U, Pt.locs, Pt.cells, Pt.slots] at X4 l4 y4 z4 st4 hQ4
  subst l4 y4 z4
  obtain ⟨rfl, N4q, Kc4⟩ := hQ4
  have N4 := Fr.app N0 N4q
  obtain ⟨fs, hr, hrun, hended, hW, hsame⟩ := X4.leave (v := none) (fun _ => rfl)
  refine ⟨_, _, pre0 _ ?_, hrun, hended, _, _, rfl, ?_, ⟨_, rfl⟩, hW, hsame.mono (by decide) (by decide)⟩
  · show Steps _ _ _ (s₁.setTop (mkF m 0 #[.val (.ref a1), .val (.ref a2), .val (.int p3)] [])) _
    refine XS.aloadN X0.here hx rfl (hb hby d22_0) rfl rfl ?_
    show Steps _ _ _ (s₁.setTop (mkF m 1 #[.val (.ref a1), .val (.ref a2), .val (.int p3)] [(.ref a1)])) _
    refine XS.aloadN X0.here hx rfl (hb hby d22_1) rfl rfl ?_
    show Steps _ _ _ (s₁.setTop (mkF m 2 #[.val (.ref a1), .val (.ref a2), .val (.int p3)] [(.ref a2), (.ref a1)])) _
    refine XS.iloadN X0.here hx rfl (hb hby d22_2) rfl ?_
    show Steps _ _ _ (s₁.setTop (mkF m 3 #[.val (.ref a1), .val (.ref a2), .val (.int p3)] [(.int p3), (.ref a2), (.ref a1)])) _
    refine XS.aconstNull X0.here hx rfl (hb hby d22_3) ?_
    show Steps _ _ _ (s₁.setTop (mkF m 4 #[.val (.ref a1), .val (.ref a2), .val (.int p3)] [.null, (.int p3), (.ref a2), (.ref a1)])) _
    refine st4.trans ?_
    show Steps _ _ _ (T4.setTop (mkF m 7 #[.val (.ref a1), .val (.ref a2), .val (.int p3)] [])) _
    exact X4.returnOut hx Bd.returns (hb hby d22_7) hr
  · show Qk a1 h0 n0 _ T4.heap _
    exact ⟨rfl, N4, Kc4⟩
def Qt (Z : State) (a1 : Addr) (v0 v1 v2 v3 v4 v5 v6 v7 v8 v10 : Value) (h0 : Heap) (n0 : Nat) (v : Option Value) (h : Heap) (L : List Loc) : Prop := ∃ r : Value, v = none ∧ Fr n0 L ∧ Keep h0 h [a1] ∧ Br Z h a1 v0 v1 v2 v3 v4 v5 v6 v7 v8 (.int (1 : Int32)) v10 r
theorem d17_0 : decode prog_5_method_6_code 0 = .ok (.aload_n 0, 1) := by decide +kernel
theorem d17_1 : decode prog_5_method_6_code 1 = .ok (.getfield 24, 3) := by decide +kernel
theorem d17_4 : decode prog_5_method_6_code 4 = .ok (.aload 8, 2) := by decide +kernel
theorem d17_6 : decode prog_5_method_6_code 6 = .ok (.aload_n 0, 1) := by decide +kernel
theorem d17_7 : decode prog_5_method_6_code 7 = .ok (.getfield 28, 3) := by decide +kernel
theorem d17_10 : decode prog_5_method_6_code 10 = .ok (.aload_n 0, 1) := by decide +kernel
theorem d17_11 : decode prog_5_method_6_code 11 = .ok (.getfield 32, 3) := by decide +kernel
theorem d17_14 : decode prog_5_method_6_code 14 = .ok (.iload 7, 2) := by decide +kernel
theorem d17_16 : decode prog_5_method_6_code 16 = .ok (.invokevirtual 58, 3) := by decide +kernel
theorem d17_19 : decode prog_5_method_6_code 19 = .ok (.aload_n 0, 1) := by decide +kernel
theorem d17_20 : decode prog_5_method_6_code 20 = .ok (.getfield 64, 3) := by decide +kernel
theorem d17_23 : decode prog_5_method_6_code 23 = .ok (.ifnull 26, 3) := by decide +kernel
theorem d17_49 : decode prog_5_method_6_code 49 = .ok (.aload_n 0, 1) := by decide +kernel
theorem d17_50 : decode prog_5_method_6_code 50 = .ok (.new 69, 3) := by decide +kernel
theorem d17_53 : decode prog_5_method_6_code 53 = .ok (.dup, 1) := by decide +kernel
theorem d17_54 : decode prog_5_method_6_code 54 = .ok (.new 52, 3) := by decide +kernel
theorem d17_57 : decode prog_5_method_6_code 57 = .ok (.dup, 1) := by decide +kernel
theorem d17_58 : decode prog_5_method_6_code 58 = .ok (.iload_n 1, 1) := by decide +kernel
theorem d17_59 : decode prog_5_method_6_code 59 = .ok (.lload_n 2, 1) := by decide +kernel
theorem d17_60 : decode prog_5_method_6_code 60 = .ok (.iload 4, 2) := by decide +kernel
theorem d17_62 : decode prog_5_method_6_code 62 = .ok (.aload 5, 2) := by decide +kernel
theorem d17_64 : decode prog_5_method_6_code 64 = .ok (.iload 6, 2) := by decide +kernel
theorem d17_66 : decode prog_5_method_6_code 66 = .ok (.iload 7, 2) := by decide +kernel
theorem d17_68 : decode prog_5_method_6_code 68 = .ok (.invokespecial 78, 3) := by decide +kernel
theorem d17_71 : decode prog_5_method_6_code 71 = .ok (.iconst 1, 1) := by decide +kernel
theorem d17_72 : decode prog_5_method_6_code 72 = .ok (.invokespecial 81, 3) := by decide +kernel
theorem d17_75 : decode prog_5_method_6_code 75 = .ok (.putfield 64, 3) := by decide +kernel
theorem d17_78 : decode prog_5_method_6_code 78 = .ok (.aload_n 0, 1) := by decide +kernel
theorem d17_79 : decode prog_5_method_6_code 79 = .ok (.iconst 1, 1) := by decide +kernel
theorem d17_80 : decode prog_5_method_6_code 80 = .ok (.putfield 41, 3) := by decide +kernel
theorem d17_83 : decode prog_5_method_6_code 83 = .ok (.return_, 1) := by decide +kernel
theorem pn_17 : plainName own_s0 = true := by first | (simp [plainName, overriddenIn]; done) | decide +kernel
theorem pd_17_14 : parseMethodDescriptor "(Ljava/nio/ByteBuffer;Ljava/lang/Object;II)V" = some ⟨[(.object "java/nio/ByteBuffer"), (.object "java/lang/Object"), .int, .int], none⟩ := by decide +kernel
theorem pd_17_15 : parseMethodDescriptor "(IJILcom/example/cablegram/cablegram/engine/ElementType;II)V" = some ⟨[.int, .long, .int, (.object own_s2), .int, .int], none⟩ := by decide +kernel
theorem pd_17_16 : parseMethodDescriptor "(Lcom/example/cablegram/cablegram/engine/Envelope;Z)V" = some ⟨[(.object "com/example/cablegram/cablegram/engine/Envelope"), .boolean], none⟩ := by decide +kernel
theorem ef_17 (m : MethodId) (x0 : Addr) (x1 : Int32) (x2 : Int64) (x3 : Int32) (x4 : Addr) (x5 x6 : Int32) : entryFrame m #[(.ref x0), (.int x1), (.long x2), (.int x3), (.ref x4), (.int x5), (.int x6), .null] 9 = mkF m 0 #[.val (.ref x0), .val (.int x1), .val (.long x2), .second, .val (.int x3), .val (.ref x4), .val (.int x5), .val (.int x6), .val .null] [] := by first | (simp [entryFrame, mkF, argsToLocals, Value.category]; done) | rfl
theorem rm17 (l : Launch) (Z : State) (a0 : Array Value) (hw : ∀ d ∈ tables_1, d.before a0 Z = true) (ws : List Jvm.Cond) (a1 : Addr) (p2 : Int32) (q3 : Int64) (p4 : Int32) (a5 : Addr) (p6 p7 : Int32) (w8 w10 : Addr) (w12 : Int32) (u_tookInPlace_a1 : Value) (h0 : Heap) (n0 : Nat) (Z0 : n0 ≤ h0.size) (w5 : Int32) (v0 v1 v2 v3 v7 v8 v10 : Value) (B : Br Z h0 a1 v0 v1 v2 v3 (.ref w8) (.ref w10) (.int w12) v7 v8 u_tookInPlace_a1 v10 .null) (F_size : Fld Z h0 w8 own_s2 "size" "I" (.int w5)) (hsz : ¬ ((0 : Int32) < (lcmpW ((p7.toInt64) * (w5.toInt64)) (128 : Int64)))) (I_w10 : Ins Z h0 w10 "[J" true) (hlt : ¬ (w12 < (w12 + p7))) (F_type_a1 : Fld Z h0 a1 own_s0 "type" "Lcom/example/cablegram/cablegram/engine/ElementType;" (.ref w8)) (F_array_a1 : Fld Z h0 a1 own_s0 "array" "Ljava/lang/Object;" (.ref w10)) (F_offset_a1 : Fld Z h0 a1 own_s0 "offset" "I" (.int w12)) (E_w8 : Exa Z h0 w8 "com/example/cablegram/cablegram/engine/ElementType$6") (F_received_a1 : Fld Z h0 a1 own_s0 "received" "Lcom/example/cablegram/cablegram/engine/Received;" .null) (E_a1 : Exa Z h0 a1 own_s0) (g_a1 : n0 ≤ a1) (F_tookInPlace_a1 : Fld Z h0 a1 own_s0 "tookInPlace" "Z" u_tookInPlace_a1) :
    MetFree l own_n22 (head1 (Jvm.Cond.code own_n22 prog_5_method_6_code 9 none :: ws) own_r8) (fun a U => a = #[(.ref a1), (.int p2), (.long q3), (.int p4), (.ref a5), (.int p6), (.int p7), .null] ∧ Z.Warmed39 U.vm ∧ U.heap = h0) (fun _ _ _ _ _ => True) (fun _ U o U' => ∃ v L, o = .returned v ∧ Qt Z a1 v0 v1 v2 v3 (.ref w8) (.ref w10) (.int w12) v7 v8 v10 h0 n0 v U'.heap L ∧ FrameEnd U o U' L own_r8.cells own_r8.slots) := by
  refine MetFree.of_bodySF (plainFor_of_name pn_17) hisR ?_
  intro p e s m args below meth c s₁ Bd hml0 hP hK
  obtain ⟨rfl, hZ, hh⟩ := hP
  have hx := Bd.exec
  have hby := Bd.bytes
  have hml : c.maxLocals = 9 := hml0
  have hown : s.vm.findClass own_s0 = some m.cls := findClass_of_methodNamed Bd.named
  have hnm := (name_of_methodNamed Bd.named Bd.method).1
  have X0 : Stand p l e own_r8 s m #[(.ref a1), (.int p2), (.long q3), (.int p4), (.ref a5), (.int p6), (.int p7), .null] below meth c s₁ [] 0 0 := Stand.of_body Bd
  have e0 : s₁.heap = h0 := by rw [← hh, Bd.state]; rfl
  have N0 := Fr.nil n0
  have pre0 : ∀ t, Steps p.tables e below (s₁.setTop (mkF m 0 #[.val (.ref a1), .val (.int p2), .val (.long q3), .second, .val (.int p4), .val (.ref a5), .val (.int p6), .val (.int p7), .val .null] [])) t → Steps p.tables e below (s₁.setTop (entryFrame m #[(.ref a1), (.int p2), (.long q3), (.int p4), (.ref a5), (.int p6), (.int p7), .null] 9)) t := fun t k => castTop (ef_17 m a1 p2 q3 p4 a5 p6 p7) k
  obtain ⟨T9, X9, e9, st9⟩ := getF X0 hx hZ hown (host := "") (Or.inl (own_w hw 32 rfl)) Via.refl e0 F_type_a1 (g := (mkF m 1 #[.val (.ref a1), .val (.int p2), .val (.long q3), .second, .val (.int p4), .val (.ref a5), .val (.int p6), .val (.int p7), .val .null] [(.ref a1)])) rfl rfl (hb hby d17_1)
  obtain ⟨T11, X11, e11, st11⟩ := getF X9 hx hZ hown (host := "") (Or.inl (own_w hw 34 rfl)) Via.refl e9 F_array_a1 (g := (mkF m 7 #[.val (.ref a1), .val (.int p2), .val (.long q3), .second, .val (.int p4), .val (.ref a5), .val (.int p6), .val (.int p7), .val .null] [(.ref a1), .null, (.ref w8)])) rfl rfl (hb hby d17_7)
  obtain ⟨T13, X13, e13, st13⟩ := getF X11 hx hZ hown (host := "") (Or.inl (own_w hw 36 rfl)) Via.refl e11 F_offset_a1 (g := (mkF m 11 #[.val (.ref a1), .val (.int p2), .val (.long q3), .second, .val (.int p4), .val (.ref a5), .val (.int p6), .val (.int p7), .val .null] [(.ref a1), (.ref w10), .null, (.ref w8)])) rfl rfl (hb hby d17_11)
  obtain ⟨cq14, kq14, q14a, q14b, q14c⟩ := isOf hZ e13 E_w8
  obtain ⟨_, _, ⟨T14, L14, k14, n14⟩, -, X14, ⟨Lc14, hQ14, l14, y14, z14⟩, st14⟩ := X13.virtualBack hx (y := own_n16) (z := own_n16) hown (mvT hZ (own_w hw 136 rfl)) (mvT hZ (own_w hw 137 rfl)) (notFace_of_selects (args := #[]) (mvT hZ (own_w hw 139 rfl))) (mvT hZ (own_w hw 139 rfl)) (mvT hZ (own_w hw 138 rfl)) (by decide) (backOf (W := 0) (rm18 l Z a0 hw [] w8 w10 w12 p7 w5 h0 n0 Z0 I_w10 hlt F_size E_w8 hsz) hZ (own_w hw 140 rfl) (own_w hw 5 rfl) (by decide) (by decide)) q14a q14c (g := (mkF m 16 #[.val (.ref a1), .val (.int p2), .val (.long q3), .second, .val (.int p4), .val (.ref a5), .val (.int p6), .val (.int p7), .val .null] [(.int p7), (.int w12), (.ref w10), .null, (.ref w8)])) rfl (by rw [hml]; rfl) (Steps.refl _) (argsL := [.null, (.ref w10), (.int w12), (.int p7)]) (rest := []) (lenOf pd_17_14 rfl) rfl (by show 2 * 0 + _ ≤ _; exact Nat.le_of_eq rfl) (hb hby d17_16) (fun _ _ => ⟨rfl, e13, (by decide : 0 + 0 ≤ _), (by decide : 0 + 0 ≤ _)⟩)
  dsimp only [Pt.U, Pt.locs, Pt.cells, Pt.slots] at X14 l14 y14 z14 st14 hQ14
  subst l14 y14 z14
  obtain ⟨rfl, N14q, e14⟩ := hQ14
  have N14 := Fr.app N0 N14q
  have Kc14 : Keep h0 T14.heap [] := own_kp e14
  have Kh14 : Keep h0 T14.heap [a1] := e14 ▸ Keep.refl _ _
  obtain ⟨T15, X15, e15, st15⟩ := getF X14 hx hZ hown (host := "") (Or.inl (own_w hw 152 rfl)) Via.refl rfl (F_received_a1.keep Kc14 (by first | exact nin0 | exact ninS nA2 nin0 | exact ninS nA1 nin0)) (g := (mkF m 20 #[.val (.ref a1), .val (.int p2), .val (.long q3), .second, .val (.int p4), .val (.ref a5), .val (.int p6), .val (.int p7), .val .null] [(.ref a1)])) rfl rfl (hb hby d17_20)
  obtain ⟨T16, h16, X16, e16, E16, A16, D16, -, st16⟩ := newO X15 hx hZ hown (own_w hw 154 rfl) (own_w hw 155 rfl) (own_w hw 156 rfl) e15 (g := (mkF m 50 #[.val (.ref a1), .val (.int p2), .val (.long q3), .second, .val (.int p4), .val (.ref a5), .val (.int p6), .val (.int p7), .val .null] [(.ref a1)])) rfl (hb hby d17_50) (by decide) (by decide)
  obtain ⟨b16, g16⟩ : ∃ z, z = T14.heap.size := ⟨_, rfl⟩
  rw [← g16] at A16 D16 st16
  have F_envelope_b16 : Fld Z h16 b16 "com/example/cablegram/cablegram/engine/Received" "envelope" "Lcom/example/cablegram/cablegram/engine/Envelope;" .null := D16 (Or.inr (own_w hw 188 rfl)) (ty := (.object "com/example/cablegram/cablegram/engine/Envelope")) (by decide)
  have F_delivered_b16 : Fld Z h16 b16 "com/example/cablegram/cablegram/engine/Received" "delivered" "Z" (.int (0 : Int32)) := D16 (Or.inr (own_w hw 190 rfl)) (ty := .boolean) (by decide)
  have F_elements_b16 : Fld Z h16 b16 "com/example/cablegram/cablegram/engine/Received" "elements" "Ljava/lang/Object;" .null := D16 (Or.inr (own_w hw 192 rfl)) (ty := (.object "java/lang/Object")) (by decide)
  have E_b16 := A16
  have g_b16 : n0 ≤ b16 := Nat.le_trans (Nat.le_trans Z0 Kc14.1) (Nat.le_of_eq g16.symm)
  have sz_b16 : h0.size ≤ b16 := (Nat.le_trans Kh14.1 (Nat.le_of_eq g16.symm))
  have K16 : Keep h0 h16 [a1] := Kh14.ext E16
  obtain ⟨T17, h17, X17, e17, E17, A17, D17, -, st17⟩ := newO X16 hx hZ hown (own_w hw 157 rfl) (own_w hw 158 rfl) (own_w hw 82 rfl) e16 (g := (mkF m 54 #[.val (.ref a1), .val (.int p2), .val (.long q3), .second, .val (.int p4), .val (.ref a5), .val (.int p6), .val (.int p7), .val .null] [(.ref b16), (.ref b16), (.ref a1)])) rfl (hb hby d17_54) (by decide) (by decide)
  obtain ⟨b17, g17⟩ : ∃ z, z = h16.size := ⟨_, rfl⟩
  rw [← g17] at A17 D17 st17
  have F_source_b17 : Fld Z h17 b17 "com/example/cablegram/cablegram/engine/Envelope" "source" "I" (.int (0 : Int32)) := D17 (Or.inr (own_w hw 169 rfl)) (ty := .int) (by decide)
  have F_context_b17 : Fld Z h17 b17 "com/example/cablegram/cablegram/engine/Envelope" "context" "J" (.long (0 : Int64)) := D17 (Or.inr (own_w hw 171 rfl)) (ty := .long) (by decide)
  have F_tag_b17 : Fld Z h17 b17 "com/example/cablegram/cablegram/engine/Envelope" "tag" "I" (.int (0 : Int32)) := D17 (Or.inr (own_w hw 173 rfl)) (ty := .int) (by decide)
  have F_type_b17 : Fld Z h17 b17 "com/example/cablegram/cablegram/engine/Envelope" "type" "Lcom/example/cablegram/cablegram/engine/ElementType;" .null := D17 (Or.inr (own_w hw 175 rfl)) (ty := (.object own_s2)) (by decide)
  have F_count_b17 : Fld Z h17 b17 "com/example/cablegram/cablegram/engine/Envelope" "count" "I" (.int (0 : Int32)) := D17 (Or.inr (own_w hw 177 rfl)) (ty := .int) (by decide)
  have F_entries_b17 : Fld Z h17 b17 "com/example/cablegram/cablegram/engine/Envelope" "entries" "I" (.int (0 : Int32)) := D17 (Or.inr (own_w hw 179 rfl)) (ty := .int) (by decide)
  have E_b17 := A17
  have g_b17 : n0 ≤ b17 := Nat.le_trans (Nat.le_trans (Nat.le_trans Z0 Kc14.1) E16.1) (Nat.le_of_eq g17.symm)
  have sz_b17 : h0.size ≤ b17 := (Nat.le_trans K16.1 (Nat.le_of_eq g17.symm))
  have K17 : Keep h0 h17 [a1] := K16.ext E17
  obtain ⟨_, _, ⟨T18, L18, k18, n18⟩, -, X18, ⟨Lc18, hQ18, l18, y18, z18⟩, st18⟩ := X17.specialBack hx (y := own_n19) rfl hown (mvT hZ (own_w hw 159 rfl)) (mvT hZ (own_w hw 160 rfl)) (mvT hZ (own_w hw 161 rfl)) (by decide) (backOf (W := 4) (rm20 l Z a0 hw [] b17 p2 q3 p4 a5 p6 p7 (.int (0 : Int32)) (.long (0 : Int64)) (.int (0 : Int32)) .null (.int (0 : Int32)) (.int (0 : Int32)) h17 n0 (Nat.le_trans Z0 K17.1) E_b17 F_source_b17 g_b17 F_context_b17 F_tag_b17 F_type_b17 F_count_b17 F_entries_b17) hZ (own_w hw 161 rfl) (own_w hw 82 rfl) (by decide) (by decide)) (g := (mkF m 68 #[.val (.ref a1), .val (.int p2), .val (.long q3), .second, .val (.int p4), .val (.ref a5), .val (.int p6), .val (.int p7), .val .null] [(.int p7), (.int p6), (.ref a5), (.int p4), (.long q3), (.int p2), (.ref b17), (.ref b17), (.ref b16), (.ref b16), (.ref a1)])) rfl (by rw [hml]; rfl) (Steps.refl _) (a := b17) (argsL := [(.int p2), (.long q3), (.int p4), (.ref a5), (.int p6), (.int p7)]) (rest := [(.ref b17), (.ref b16), (.ref b16), (.ref a1)]) (lenOf pd_17_15 rfl) rfl (by show 2 * 0 + _ ≤ _; exact Nat.le_of_eq rfl) (hb hby d17_68) (fun _ _ => ⟨rfl, e17, (by decide : 2 + 0 ≤ _), (by decide : 9 + 0 ≤ _)⟩)
  dsimp only [Pt.U, Pt.locs, Pt.cells, Pt.slots] at X18 l18 y18 z18 st18 hQ18
  subst l18 y18 z18
  obtain ⟨rfl, N18q, Kc18⟩ := hQ18
  have N18 := Fr.app N14 N18q
  have nA1 : a1 ≠ b16 := Nat.ne_of_lt (by rw [g16]; exact (E_a1.keep Kc14).lt)
  have nA2 : a1 ≠ b17 := Nat.ne_of_lt (by rw [g17]; exact ((E_a1.keep Kc14).ext E16).lt)
  have nBB : b16 ≠ b17 := Nat.ne_of_lt (by rw [g17]; exact E_b16.lt)
  have Kh18 : Keep h0 T18.heap [a1] := K17.trans Kc18 (allS (Or.inr sz_b17) all0)
  obtain ⟨_, _, ⟨T19, L19, k19, n19⟩, -, X19, ⟨Lc19, hQ19, l19, y19, z19⟩, st19⟩ := X18.specialBack hx (y := own_n21) rfl hown (mvT hZ (own_w hw 180 rfl)) (mvT hZ (own_w hw 181 rfl)) (mvT hZ (own_w hw 182 rfl)) (by decide) (backOf (W := 2) (rm22 l Z a0 hw [] b16 b17 (1 : Int32) T18.heap n0 (Nat.le_trans Z0 Kh18.1) .null ((F_envelope_b16.ext E17).keep Kc18 (ninS nBB nin0)) (.int (0 : Int32)) ((F_delivered_b16.ext E17).keep Kc18 (ninS nBB nin0)) .null ((F_elements_b16.ext E17).keep Kc18 (ninS nBB nin0)) ((E_b16.ext E17).keep Kc18) g_b16) hZ (own_w hw 182 rfl) (own_w hw 156 rfl) (by decide) (by decide)) (g := (mkF m 72 #[.val (.ref a1), .val (.int p2), .val (.long q3), .second, .val (.int p4), .val (.ref a5), .val (.int p6), .val (.int p7), .val .null] [(.int (1 : Int32)), (.ref b17), (.ref b16), (.ref b16), (.ref a1)])) rfl (by rw [hml]; rfl) (Steps.refl _) (a := b16) (argsL := [(.ref b17), (.int (1 : Int32))]) (rest := [(.ref b16), (.ref a1)]) (lenOf pd_17_16 rfl) rfl (by show 2 * 0 + _ ≤ _; exact Nat.le_of_eq rfl) (hb hby d17_72) (fun _ _ => ⟨rfl, rfl, (by decide : 2 + 0 ≤ _), (by decide : 9 + 0 ≤ _)⟩)
  dsimp only [Pt.U, Pt.locs, Pt.cells, Pt.slots] at X19 l19 y19 z19 st19 hQ19
  subst l19 y19 z19
  obtain ⟨rfl, N19q, Kc19⟩ := hQ19
  have N19 := Fr.app N18 N19q
  have Kh19 : Keep h0 T19.heap [a1] := Kh18.trans Kc19 (allS (Or.inr sz_b16) all0)
  obtain ⟨T20, h20, X20, e20, W20, st20⟩ := putF X19 hx hZ hown (host := "") (Or.inl (own_w hw 152 rfl)) Via.refl rfl (((((F_received_a1.keep Kc14 (by first | exact nin0 | exact ninS nA2 nin0 | exact ninS nA1 nin0)).ext E16).ext E17).keep Kc18 (by first | exact nin0 | exact ninS nA2 nin0 | exact ninS nA1 nin0)).keep Kc19 (by first | exact nin0 | exact ninS nA2 nin0 | exact ninS nA1 nin0)) (((((E_a1.keep Kc14).ext E16).ext E17).keep Kc18).keep Kc19) (Or.inl (own_w hw 153 rfl)) (own_w hw 11 rfl) (ty := (.object "com/example/cablegram/cablegram/engine/Received")) (by decide) rfl rfl (g := (mkF m 75 #[.val (.ref a1), .val (.int p2), .val (.long q3), .second, .val (.int p4), .val (.ref a5), .val (.int p6), .val (.int p7), .val .null] [(.ref b16), (.ref a1)])) rfl rfl (hb hby d17_75)
  have Fw20 := (((((F_received_a1.keep Kc14 (by first | exact nin0 | exact ninS nA2 nin0 | exact ninS nA1 nin0)).ext E16).ext E17).keep Kc18 (by first | exact nin0 | exact ninS nA2 nin0 | exact ninS nA1 nin0)).keep Kc19 (by first | exact nin0 | exact ninS nA2 nin0 | exact ninS nA1 nin0)).same W20
  have K20 : Keep h0 h20 [a1] := Kh19.wr W20 (Or.inl (List.mem_of_getElem? (i := 0) rfl))
  have N20 := Fr.snoc X20 N19 g_a1
  obtain ⟨T21, h21, X21, e21, W21, st21⟩ := putFN X20 hx hZ hown (own_w hw 42 rfl) Via.refl e20 ((((((F_tookInPlace_a1.keep Kc14 (by first | exact nin0 | exact ninS nA2 nin0 | exact ninS nA1 nin0)).ext E16).ext E17).keep Kc18 (by first | exact nin0 | exact ninS nA2 nin0 | exact ninS nA1 nin0)).keep Kc19 (by first | exact nin0 | exact ninS nA2 nin0 | exact ninS nA1 nin0)).other W20 (Or.inr (slot_ne (Or.inl (own_w hw 43 rfl)) (Or.inl (own_w hw 153 rfl)) (by decide) (t := .boolean) (t' := (.object "com/example/cablegram/cablegram/engine/Received")) (by decide) (by decide)))) ((((((E_a1.keep Kc14).ext E16).ext E17).keep Kc18).keep Kc19).wr W20) (Or.inl (own_w hw 43 rfl)) (own_w hw 11 rfl) (ty := .boolean) (v' := (.int ((1 : Int32) &&& 1))) (by decide) rfl (fits_nar_bool _) (g := (mkF m 80 #[.val (.ref a1), .val (.int p2), .val (.long q3), .second, .val (.int p4), .val (.ref a5), .val (.int p6), .val (.int p7), .val .null] [(.int (1 : Int32)), (.ref a1)])) rfl rfl (hb hby d17_80)
  have Fw21 := ((((((F_tookInPlace_a1.keep Kc14 (by first | exact nin0 | exact ninS nA2 nin0 | exact ninS nA1 nin0)).ext E16).ext E17).keep Kc18 (by first | exact nin0 | exact ninS nA2 nin0 | exact ninS nA1 nin0)).keep Kc19 (by first | exact nin0 | exact ninS nA2 nin0 | exact ninS nA1 nin0)).other W20 (Or.inr (slot_ne (Or.inl (own_w hw 43 rfl)) (Or.inl (own_w hw 153 rfl)) (by decide) (t := .boolean) (t' := (.object "com/example/cablegram/cablegram/engine/Received")) (by decide) (by decide)))).same W21
  have K21 : Keep h0 h21 [a1] := K20.wr W21 (Or.inl (List.mem_of_getElem? (i := 0) rfl))
  have N21 := Fr.snoc X21 N20 g_a1
  obtain ⟨fs, hr, hrun, hended, hW, hsame⟩ := X21.leave (v := none) (fun _ => rfl)
  refine ⟨_, _, pre0 _ ?_, hrun, hended, _, _, rfl, ?_, ⟨_, rfl⟩, hW, hsame.mono (by decide) (by decide)⟩
  · show Steps _ _ _ (s₁.setTop (mkF m 0 #[.val (.ref a1), .val (.int p2), .val (.long q3), .second, .val (.int p4), .val (.ref a5), .val (.int p6), .val (.int p7), .val .null] [])) _
    refine XS.aloadN X0.here hx rfl (hb hby d17_0) rfl rfl ?_
    show Steps _ _ _ (s₁.setTop (mkF m 1 #[.val (.ref a1), .val (.int p2), .val (.long q3), .second, .val (.int p4), .val (.ref a5), .val (.int p6), .val (.int p7), .val .null] [(.ref a1)])) _
    refine st9 _ ?_
    show Steps _ _ _ (T9.setTop (mkF m 4 #[.val (.ref a1), .val (.int p2), .val (.long q3), .second, .val (.int p4), .val (.ref a5), .val (.int p6), .val (.int p7), .val .null] [(.ref w8)])) _
    refine XS.aload X9.here hx rfl (hb hby d17_4) rfl rfl ?_
    show Steps _ _ _ (T9.setTop (mkF m 6 #[.val (.ref a1), .val (.int p2), .val (.long q3), .second, .val (.int p4), .val (.ref a5), .val (.int p6), .val (.int p7), .val .null] [.null, (.ref w8)])) _
    refine XS.aloadN X9.here hx rfl (hb hby d17_6) rfl rfl ?_
    show Steps _ _ _ (T9.setTop (mkF m 7 #[.val (.ref a1), .val (.int p2), .val (.long q3), .second, .val (.int p4), .val (.ref a5), .val (.int p6), .val (.int p7), .val .null] [(.ref a1), .null, (.ref w8)])) _
    refine st11 _ ?_
    show Steps _ _ _ (T11.setTop (mkF m 10 #[.val (.ref a1), .val (.int p2), .val (.long q3), .second, .val (.int p4), .val (.ref a5), .val (.int p6), .val (.int p7), .val .null] [(.ref w10), .null, (.ref w8)])) _
    refine XS.aloadN X11.here hx rfl (hb hby d17_10) rfl rfl ?_
    show Steps _ _ _ (T11.setTop (mkF m 11 #[.val (.ref a1), .val (.int p2), .val (.long q3), .second, .val (.int p4), .val (.ref a5), .val (.int p6), .val (.int p7), .val .null] [(.ref a1), (.ref w10), .null, (.ref w8)])) _
    refine st13 _ ?_
    show Steps _ _ _ (T13.setTop (mkF m 14 #[.val (.ref a1), .val (.int p2), .val (.long q3), .second, .val (.int p4), .val (.ref a5), .val (.int p6), .val (.int p7), .val .null] [(.int w12), (.ref w10), .null, (.ref w8)])) _
    refine XS.iload X13.here hx rfl (hb hby d17_14) rfl ?_
    show Steps _ _ _ (T13.setTop (mkF m 16 #[.val (.ref a1), .val (.int p2), .val (.long q3), .second, .val (.int p4), .val (.ref a5), .val (.int p6), .val (.int p7), .val .null] [(.int p7), (.int w12), (.ref w10), .null, (.ref w8)])) _
    refine st14.trans ?_
    show Steps _ _ _ (T14.setTop (mkF m 19 #[.val (.ref a1), .val (.int p2), .val (.long q3), .second, .val (.int p4), .val (.ref a5), .val (.int p6), .val (.int p7), .val .null] [])) _
    refine XS.aloadN X14.here hx rfl (hb hby d17_19) rfl rfl ?_
    show Steps _ _ _ (T14.setTop (mkF m 20 #[.val (.ref a1), .val (.int p2), .val (.long q3), .second, .val (.int p4), .val (.ref a5), .val (.int p6), .val (.int p7), .val .null] [(.ref a1)])) _
    refine st15 _ ?_
    show Steps _ _ _ (T15.setTop (mkF m 23 #[.val (.ref a1), .val (.int p2), .val (.long q3), .second, .val (.int p4), .val (.ref a5), .val (.int p6), .val (.int p7), .val .null] [.null])) _
    refine XS.ifnullYes X15.here hx rfl (pc0 := 23) (pc' := 49) rfl (hb hby d17_23) rfl (by decide) (by decide) ?_
    show Steps _ _ _ (T15.setTop (mkF m 49 #[.val (.ref a1), .val (.int p2), .val (.long q3), .second, .val (.int p4), .val (.ref a5), .val (.int p6), .val (.int p7), .val .null] [])) _
    refine XS.aloadN X15.here hx rfl (hb hby d17_49) rfl rfl ?_
    show Steps _ _ _ (T15.setTop (mkF m 50 #[.val (.ref a1), .val (.int p2), .val (.long q3), .second, .val (.int p4), .val (.ref a5), .val (.int p6), .val (.int p7), .val .null] [(.ref a1)])) _
    refine st16 _ ?_
    show Steps _ _ _ (T16.setTop (mkF m 53 #[.val (.ref a1), .val (.int p2), .val (.long q3), .second, .val (.int p4), .val (.ref a5), .val (.int p6), .val (.int p7), .val .null] [(.ref b16), (.ref a1)])) _
    refine XS.dup X16.here hx rfl (hb hby d17_53) rfl rfl ?_
    show Steps _ _ _ (T16.setTop (mkF m 54 #[.val (.ref a1), .val (.int p2), .val (.long q3), .second, .val (.int p4), .val (.ref a5), .val (.int p6), .val (.int p7), .val .null] [(.ref b16), (.ref b16), (.ref a1)])) _
    refine st17 _ ?_
    show Steps _ _ _ (T17.setTop (mkF m 57 #[.val (.ref a1), .val (.int p2), .val (.long q3), .second, .val (.int p4), .val (.ref a5), .val (.int p6), .val (.int p7), .val .null] [(.ref b17), (.ref b16), (.ref b16), (.ref a1)])) _
    refine XS.dup X17.here hx rfl (hb hby d17_57) rfl rfl ?_
    show Steps _ _ _ (T17.setTop (mkF m 58 #[.val (.ref a1), .val (.int p2), .val (.long q3), .second, .val (.int p4), .val (.ref a5), .val (.int p6), .val (.int p7), .val .null] [(.ref b17), (.ref b17), (.ref b16), (.ref b16), (.ref a1)])) _
    refine XS.iloadN X17.here hx rfl (hb hby d17_58) rfl ?_
    show Steps _ _ _ (T17.setTop (mkF m 59 #[.val (.ref a1), .val (.int p2), .val (.long q3), .second, .val (.int p4), .val (.ref a5), .val (.int p6), .val (.int p7), .val .null] [(.int p2), (.ref b17), (.ref b17), (.ref b16), (.ref b16), (.ref a1)])) _
    refine XS.lloadN X17.here hx rfl (hb hby d17_59) rfl ?_
    show Steps _ _ _ (T17.setTop (mkF m 60 #[.val (.ref a1), .val (.int p2), .val (.long q3), .second, .val (.int p4), .val (.ref a5), .val (.int p6), .val (.int p7), .val .null] [(.long q3), (.int p2), (.ref b17), (.ref b17), (.ref b16), (.ref b16), (.ref a1)])) _
    refine XS.iload X17.here hx rfl (hb hby d17_60) rfl ?_
    show Steps _ _ _ (T17.setTop (mkF m 62 #[.val (.ref a1), .val (.int p2), .val (.long q3), .second, .val (.int p4), .val (.ref a5), .val (.int p6), .val (.int p7), .val .null] [(.int p4), (.long q3), (.int p2), (.ref b17), (.ref b17), (.ref b16), (.ref b16), (.ref a1)])) _
    refine XS.aload X17.here hx rfl (hb hby d17_62) rfl rfl ?_
    show Steps _ _ _ (T17.setTop (mkF m 64 #[.val (.ref a1), .val (.int p2), .val (.long q3), .second, .val (.int p4), .val (.ref a5), .val (.int p6), .val (.int p7), .val .null] [(.ref a5), (.int p4), (.long q3), (.int p2), (.ref b17), (.ref b17), (.ref b16), (.ref b16), (.ref a1)])) _
    refine XS.iload X17.here hx rfl (hb hby d17_64) rfl ?_
    show Steps _ _ _ (T17.setTop (mkF m 66 #[.val (.ref a1), .val (.int p2), .val (.long q3), .second, .val (.int p4), .val (.ref a5), .val (.int p6), .val (.int p7), .val .null] [(.int p6), (.ref a5), (.int p4), (.long q3), (.int p2), (.ref b17), (.ref b17), (.ref b16), (.ref b16), (.ref a1)])) _
    refine XS.iload X17.here hx rfl (hb hby d17_66) rfl ?_
    show Steps _ _ _ (T17.setTop (mkF m 68 #[.val (.ref a1), .val (.int p2), .val (.long q3), .second, .val (.int p4), .val (.ref a5), .val (.int p6), .val (.int p7), .val .null] [(.int p7), (.int p6), (.ref a5), (.int p4), (.long q3), (.int p2), (.ref b17), (.ref b17), (.ref b16), (.ref b16), (.ref a1)])) _
    refine st18.trans ?_
    show Steps _ _ _ (T18.setTop (mkF m 71 #[.val (.ref a1), .val (.int p2), .val (.long q3), .second, .val (.int p4), .val (.ref a5), .val (.int p6), .val (.int p7), .val .null] [(.ref b17), (.ref b16), (.ref b16), (.ref a1)])) _
    refine XS.iconst X18.here hx rfl (hb hby d17_71) ?_
    show Steps _ _ _ (T18.setTop (mkF m 72 #[.val (.ref a1), .val (.int p2), .val (.long q3), .second, .val (.int p4), .val (.ref a5), .val (.int p6), .val (.int p7), .val .null] [(.int (1 : Int32)), (.ref b17), (.ref b16), (.ref b16), (.ref a1)])) _
    refine st19.trans ?_
    show Steps _ _ _ (T19.setTop (mkF m 75 #[.val (.ref a1), .val (.int p2), .val (.long q3), .second, .val (.int p4), .val (.ref a5), .val (.int p6), .val (.int p7), .val .null] [(.ref b16), (.ref a1)])) _
    refine st20 _ ?_
    show Steps _ _ _ (T20.setTop (mkF m 78 #[.val (.ref a1), .val (.int p2), .val (.long q3), .second, .val (.int p4), .val (.ref a5), .val (.int p6), .val (.int p7), .val .null] [])) _
    refine XS.aloadN X20.here hx rfl (hb hby d17_78) rfl rfl ?_
    show Steps _ _ _ (T20.setTop (mkF m 79 #[.val (.ref a1), .val (.int p2), .val (.long q3), .second, .val (.int p4), .val (.ref a5), .val (.int p6), .val (.int p7), .val .null] [(.ref a1)])) _
    refine XS.iconst X20.here hx rfl (hb hby d17_79) ?_
    show Steps _ _ _ (T20.setTop (mkF m 80 #[.val (.ref a1), .val (.int p2), .val (.long q3), .second, .val (.int p4), .val (.ref a5), .val (.int p6), .val (.int p7), .val .null] [(.int (1 : Int32)), (.ref a1)])) _
    refine st21 _ ?_
    show Steps _ _ _ (T21.setTop (mkF m 83 #[.val (.ref a1), .val (.int p2), .val (.long q3), .second, .val (.int p4), .val (.ref a5), .val (.int p6), .val (.int p7), .val .null] [])) _
    exact X21.returnOut hx Bd.returns (hb hby d17_83) hr
  · show Qt Z a1 v0 v1 v2 v3 (.ref w8) (.ref w10) (.int w12) v7 v8 v10 h0 n0 _ T21.heap _
    rw [e21]
    exact ⟨.ref b16, rfl, N21, K21, own_put9 hw (own_put11 hw (((((B.keep Kc14 nin0).ext E16).ext E17).keep Kc18 (ninS nA2 nin0)).keep Kc19 (ninS nA1 nin0)) W20) W21⟩
theorem os0_3 {s0 s1 s2 s3 : Slot} {z4 : Value} {s5 s6 s7 s8 s9 s10 s11 s12 s13 s14 s15 s16 s17 s18 s19 s20 s21 s22 s23 s24 s25 s26 s27 s28 s29 s30 s31 s32 s33 s34 : Slot} {v : Addr} (h : One s7) : storeLocals #[s0, s1, s2, s3, .val z4, s5, s6, s7, s8, s9, s10, s11, s12, s13, s14, s15, s16, s17, s18, s19, s20, s21, s22, s23, s24, s25, s26, s27, s28, s29, s30, s31, s32, s33, s34] 7 (.ref v) = some #[s0, s1, s2, s3, .val z4, s5, s6, .val (.ref v), s8, s9, s10, s11, s12, s13, s14, s15, s16, s17, s18, s19, s20, s21, s22, s23, s24, s25, s26, s27, s28, s29, s30, s31, s32, s33, s34] := by
  rcases h with rfl | ⟨w, rfl, hw⟩
  · rfl
  · cases w <;> first | rfl | (simp [Value.category] at hw)
theorem os0_8 {s0 s1 s2 s3 : Slot} {z4 : Value} {s5 s6 : Slot} {z7 : Value} {s8 s9 s10 s11 s12 s13 s14 s15 s16 s17 s18 s19 s20 s21 s22 s23 s24 s25 s26 s27 s28 s29 s30 s31 s32 s33 s34 : Slot} {v : Addr} (h : One s8) : storeLocals #[s0, s1, s2, s3, .val z4, s5, s6, .val z7, s8, s9, s10, s11, s12, s13, s14, s15, s16, s17, s18, s19, s20, s21, s22, s23, s24, s25, s26, s27, s28, s29, s30, s31, s32, s33, s34] 8 (.ref v) = some #[s0, s1, s2, s3, .val z4, s5, s6, .val z7, .val (.ref v), s9, s10, s11, s12, s13, s14, s15, s16, s17, s18, s19, s20, s21, s22, s23, s24, s25, s26, s27, s28, s29, s30, s31, s32, s33, s34] := by
  rcases h with rfl | ⟨w, rfl, hw⟩
  · rfl
  · cases w <;> first | rfl | (simp [Value.category] at hw)
theorem os0_13 {s0 s1 s2 s3 : Slot} {z4 : Value} {s5 s6 : Slot} {z7 z8 : Value} {s9 s10 s11 s12 s13 s14 s15 s16 s17 s18 s19 s20 s21 s22 s23 s24 s25 s26 s27 s28 s29 s30 s31 s32 s33 s34 : Slot} {v : Addr} (h : One s9) : storeLocals #[s0, s1, s2, s3, .val z4, s5, s6, .val z7, .val z8, s9, s10, s11, s12, s13, s14, s15, s16, s17, s18, s19, s20, s21, s22, s23, s24, s25, s26, s27, s28, s29, s30, s31, s32, s33, s34] 9 (.ref v) = some #[s0, s1, s2, s3, .val z4, s5, s6, .val z7, .val z8, .val (.ref v), s10, s11, s12, s13, s14, s15, s16, s17, s18, s19, s20, s21, s22, s23, s24, s25, s26, s27, s28, s29, s30, s31, s32, s33, s34] := by
  rcases h with rfl | ⟨w, rfl, hw⟩
  · rfl
  · cases w <;> first | rfl | (simp [Value.category] at hw)
theorem os0_18 {s0 s1 s2 s3 : Slot} {z4 : Value} {s5 s6 : Slot} {z7 z8 z9 : Value} {s10 s11 s12 s13 s14 s15 s16 s17 s18 s19 s20 s21 s22 s23 s24 s25 s26 s27 s28 s29 s30 s31 s32 s33 s34 : Slot} {v : Addr} (h : One s10) : storeLocals #[s0, s1, s2, s3, .val z4, s5, s6, .val z7, .val z8, .val z9, s10, s11, s12, s13, s14, s15, s16, s17, s18, s19, s20, s21, s22, s23, s24, s25, s26, s27, s28, s29, s30, s31, s32, s33, s34] 10 (.ref v) = some #[s0, s1, s2, s3, .val z4, s5, s6, .val z7, .val z8, .val z9, .val (.ref v), s11, s12, s13, s14, s15, s16, s17, s18, s19, s20, s21, s22, s23, s24, s25, s26, s27, s28, s29, s30, s31, s32, s33, s34] := by
  rcases h with rfl | ⟨w, rfl, hw⟩
  · rfl
  · cases w <;> first | rfl | (simp [Value.category] at hw)
theorem os0_23 {s0 s1 s2 s3 : Slot} {z4 : Value} {s5 s6 : Slot} {z7 z8 z9 z10 : Value} {s11 s12 s13 s14 s15 s16 s17 s18 s19 s20 s21 s22 s23 s24 s25 s26 s27 s28 s29 s30 s31 s32 s33 s34 : Slot} {v : Addr} (h : One s11) : storeLocals #[s0, s1, s2, s3, .val z4, s5, s6, .val z7, .val z8, .val z9, .val z10, s11, s12, s13, s14, s15, s16, s17, s18, s19, s20, s21, s22, s23, s24, s25, s26, s27, s28, s29, s30, s31, s32, s33, s34] 11 (.ref v) = some #[s0, s1, s2, s3, .val z4, s5, s6, .val z7, .val z8, .val z9, .val z10, .val (.ref v), s12, s13, s14, s15, s16, s17, s18, s19, s20, s21, s22, s23, s24, s25, s26, s27, s28, s29, s30, s31, s32, s33, s34] := by
  rcases h with rfl | ⟨w, rfl, hw⟩
  · rfl
  · cases w <;> first | rfl | (simp [Value.category] at hw)
theorem os0_32 {s0 s1 s2 s3 : Slot} {z4 : Value} {s5 s6 : Slot} {z7 z8 z9 z10 z11 : Value} {s12 s13 s14 s15 s16 s17 s18 s19 s20 s21 s22 s23 s24 s25 s26 s27 s28 s29 s30 s31 s32 s33 s34 : Slot} {v : Int32} (h : One s12) : storeLocals #[s0, s1, s2, s3, .val z4, s5, s6, .val z7, .val z8, .val z9, .val z10, .val z11, s12, s13, s14, s15, s16, s17, s18, s19, s20, s21, s22, s23, s24, s25, s26, s27, s28, s29, s30, s31, s32, s33, s34] 12 (.int v) = some #[s0, s1, s2, s3, .val z4, s5, s6, .val z7, .val z8, .val z9, .val z10, .val z11, .val (.int v), s13, s14, s15, s16, s17, s18, s19, s20, s21, s22, s23, s24, s25, s26, s27, s28, s29, s30, s31, s32, s33, s34] := by
  rcases h with rfl | ⟨w, rfl, hw⟩
  · rfl
  · cases w <;> first | rfl | (simp [Value.category] at hw)
section OwnSeg
variable {p : Program} {l : Launch} {e : Env} {R : Room} {s : State} {m : MethodId} {args : Array Value} {below : List Frame} {meth : Method} {c : Code} {T0 : State} {locs : List Loc} {cells slots : Nat} {Z : State} {a0 : Array Value} {h0 : Heap} {n0 : Nat}
theorem tn0_0_34_x (s0 s1 s2 s3 : Slot) (i4 : Int32) (s5 s6 s7 s8 s9 s10 s11 s12 s13 s14 s15 s16 s17 s18 s19 s20 s21 s22 s23 s24 s25 s26 s27 s28 s29 s30 s31 s32 s33 s34 : Slot)
    (X0 : Stand p l e room_1 s m args below meth c T0 locs 0 0) (hx : p.tables.exec = Jvm.exec) (hZ : Z.Warmed39 s.vm) (hw : ∀ d ∈ tables_1, d.before a0 Z = true) (hby : c.code = code) (hml : c.maxLocals = 35) (hown : s.vm.findClass own_s1 = some m.cls) (e0 : T0.heap = h0) (hs7 : One s7) (hs8 : One s8) (hs9 : One s9) (hs10 : One s10) (hs11 : One s11) (hs12 : One s12) :
    ∃ (T' : State) (h' : Heap) (b7 b8 b9 b10 b11 : Addr), Stand p l e room_1 s m args below meth c T' locs 5 17 ∧ T'.heap = h' ∧ Ext h0 h' ∧ Exa Z h' b11 "[J" ∧
      ∀ target, Steps p.tables e below (T'.setTop (mkF m 34 #[s0, s1, s2, s3, .val (.int i4), s5, s6, .val (.ref b7), .val (.ref b8), .val (.ref b9), .val (.ref b10), .val (.ref b11), .val (.int (((i4.toUInt32 >>> ((8 : Int32) &&& 31).toUInt32).toInt32) &&& (3 : Int32))), s13, s14, s15, s16, s17, s18, s19, s20, s21, s22, s23, s24, s25, s26, s27, s28, s29, s30, s31, s32, s33, s34] [])) target → Steps p.tables e below (T0.setTop (mkF m 0 #[s0, s1, s2, s3, .val (.int i4), s5, s6, s7, s8, s9, s10, s11, s12, s13, s14, s15, s16, s17, s18, s19, s20, s21, s22, s23, s24, s25, s26, s27, s28, s29, s30, s31, s32, s33, s34] [])) target := by
  obtain ⟨T7, h7, k7, X7, e7, E7, A7, st7⟩ := newP X0 hx hZ (own_w hw 0 rfl) e0 (g := (mkF m 1 #[s0, s1, s2, s3, .val (.int i4), s5, s6, s7, s8, s9, s10, s11, s12, s13, s14, s15, s16, s17, s18, s19, s20, s21, s22, s23, s24, s25, s26, s27, s28, s29, s30, s31, s32, s33, s34] [(.int (4 : Int32))])) rfl (hb hby at_1) rfl (by decide) (cap := 4) (by decide) (by decide) (by decide) (by decide)
  obtain ⟨b7, g7⟩ : ∃ z, z = h0.size := ⟨_, rfl⟩
  rw [← g7] at A7 st7
  have K7 : Keep h0 h7 [] := (Keep.refl h0 []).ext E7
  obtain ⟨T8, h8, k8, X8, e8, E8, A8, st8⟩ := newP X7 hx hZ (own_w hw 1 rfl) e7 (g := (mkF m 6 #[s0, s1, s2, s3, .val (.int i4), s5, s6, .val (.ref b7), s8, s9, s10, s11, s12, s13, s14, s15, s16, s17, s18, s19, s20, s21, s22, s23, s24, s25, s26, s27, s28, s29, s30, s31, s32, s33, s34] [(.int (4 : Int32))])) rfl (hb hby at_6) rfl (by decide) (cap := 4) (by decide) (by decide) (by decide) (by decide)
  obtain ⟨b8, g8⟩ : ∃ z, z = h7.size := ⟨_, rfl⟩
  rw [← g8] at A8 st8
  have K8 : Keep h0 h8 [] := K7.ext E8
  obtain ⟨T9, h9, k9, X9, e9, E9, A9, st9⟩ := newP X8 hx hZ (own_w hw 2 rfl) e8 (g := (mkF m 11 #[s0, s1, s2, s3, .val (.int i4), s5, s6, .val (.ref b7), .val (.ref b8), s9, s10, s11, s12, s13, s14, s15, s16, s17, s18, s19, s20, s21, s22, s23, s24, s25, s26, s27, s28, s29, s30, s31, s32, s33, s34] [(.int (4 : Int32))])) rfl (hb hby at_11) rfl (by decide) (cap := 4) (by decide) (by decide) (by decide) (by decide)
  obtain ⟨b9, g9⟩ : ∃ z, z = h8.size := ⟨_, rfl⟩
  rw [← g9] at A9 st9
  have K9 : Keep h0 h9 [] := K8.ext E9
  obtain ⟨T10, h10, k10, X10, e10, E10, A10, st10⟩ := newP X9 hx hZ (own_w hw 3 rfl) e9 (g := (mkF m 16 #[s0, s1, s2, s3, .val (.int i4), s5, s6, .val (.ref b7), .val (.ref b8), .val (.ref b9), s10, s11, s12, s13, s14, s15, s16, s17, s18, s19, s20, s21, s22, s23, s24, s25, s26, s27, s28, s29, s30, s31, s32, s33, s34] [(.int (4 : Int32))])) rfl (hb hby at_16) rfl (by decide) (cap := 4) (by decide) (by decide) (by decide) (by decide)
  obtain ⟨b10, g10⟩ : ∃ z, z = h9.size := ⟨_, rfl⟩
  rw [← g10] at A10 st10
  have K10 : Keep h0 h10 [] := K9.ext E10
  obtain ⟨T11, h11, k11, X11, e11, E11, A11, EX11, st11⟩ := newPE X10 hx hZ (own_w hw 1 rfl) e10 (g := (mkF m 21 #[s0, s1, s2, s3, .val (.int i4), s5, s6, .val (.ref b7), .val (.ref b8), .val (.ref b9), .val (.ref b10), s11, s12, s13, s14, s15, s16, s17, s18, s19, s20, s21, s22, s23, s24, s25, s26, s27, s28, s29, s30, s31, s32, s33, s34] [(.int (1 : Int32))])) rfl (hb hby at_21) rfl (by decide) (cap := 1) (by decide) (by decide) (by decide) (by decide) (ad := "[J") (by decide)
  obtain ⟨b11, g11⟩ : ∃ z, z = h10.size := ⟨_, rfl⟩
  rw [← g11] at A11 EX11 st11
  have K11 : Keep h0 h11 [] := K10.ext E11
  refine ⟨T11, _, b7, b8, b9, b10, b11, X11, e11, ⟨Nat.le_trans (Nat.le_trans (Nat.le_trans (Nat.le_trans E7.1 E8.1) E9.1) E10.1) E11.1, fun a c q => E11.2 _ _ (E10.2 _ _ (E9.2 _ _ (E8.2 _ _ (E7.2 _ _ q))))⟩, EX11, fun target kt => ?_⟩
  show Steps _ _ _ (T0.setTop (mkF m 0 #[s0, s1, s2, s3, .val (.int i4), s5, s6, s7, s8, s9, s10, s11, s12, s13, s14, s15, s16, s17, s18, s19, s20, s21, s22, s23, s24, s25, s26, s27, s28, s29, s30, s31, s32, s33, s34] [])) _
  refine XS.iconst X0.here hx rfl (hb hby at_0) ?_
  show Steps _ _ _ (T0.setTop (mkF m 1 #[s0, s1, s2, s3, .val (.int i4), s5, s6, s7, s8, s9, s10, s11, s12, s13, s14, s15, s16, s17, s18, s19, s20, s21, s22, s23, s24, s25, s26, s27, s28, s29, s30, s31, s32, s33, s34] [(.int (4 : Int32))])) _
  refine st7 _ ?_
  show Steps _ _ _ (T7.setTop (mkF m 3 #[s0, s1, s2, s3, .val (.int i4), s5, s6, s7, s8, s9, s10, s11, s12, s13, s14, s15, s16, s17, s18, s19, s20, s21, s22, s23, s24, s25, s26, s27, s28, s29, s30, s31, s32, s33, s34] [(.ref b7)])) _
  refine XS.astore X7.here hx rfl (hb hby at_3) rfl rfl (l' := #[s0, s1, s2, s3, .val (.int i4), s5, s6, .val (.ref b7), s8, s9, s10, s11, s12, s13, s14, s15, s16, s17, s18, s19, s20, s21, s22, s23, s24, s25, s26, s27, s28, s29, s30, s31, s32, s33, s34]) (os0_3 hs7) ?_
  show Steps _ _ _ (T7.setTop (mkF m 5 #[s0, s1, s2, s3, .val (.int i4), s5, s6, .val (.ref b7), s8, s9, s10, s11, s12, s13, s14, s15, s16, s17, s18, s19, s20, s21, s22, s23, s24, s25, s26, s27, s28, s29, s30, s31, s32, s33, s34] [])) _
  refine XS.iconst X7.here hx rfl (hb hby at_5) ?_
  show Steps _ _ _ (T7.setTop (mkF m 6 #[s0, s1, s2, s3, .val (.int i4), s5, s6, .val (.ref b7), s8, s9, s10, s11, s12, s13, s14, s15, s16, s17, s18, s19, s20, s21, s22, s23, s24, s25, s26, s27, s28, s29, s30, s31, s32, s33, s34] [(.int (4 : Int32))])) _
  refine st8 _ ?_
  show Steps _ _ _ (T8.setTop (mkF m 8 #[s0, s1, s2, s3, .val (.int i4), s5, s6, .val (.ref b7), s8, s9, s10, s11, s12, s13, s14, s15, s16, s17, s18, s19, s20, s21, s22, s23, s24, s25, s26, s27, s28, s29, s30, s31, s32, s33, s34] [(.ref b8)])) _
  refine XS.astore X8.here hx rfl (hb hby at_8) rfl rfl (l' := #[s0, s1, s2, s3, .val (.int i4), s5, s6, .val (.ref b7), .val (.ref b8), s9, s10, s11, s12, s13, s14, s15, s16, s17, s18, s19, s20, s21, s22, s23, s24, s25, s26, s27, s28, s29, s30, s31, s32, s33, s34]) (os0_8 hs8) ?_
  show Steps _ _ _ (T8.setTop (mkF m 10 #[s0, s1, s2, s3, .val (.int i4), s5, s6, .val (.ref b7), .val (.ref b8), s9, s10, s11, s12, s13, s14, s15, s16, s17, s18, s19, s20, s21, s22, s23, s24, s25, s26, s27, s28, s29, s30, s31, s32, s33, s34] [])) _
  refine XS.iconst X8.here hx rfl (hb hby at_10) ?_
  show Steps _ _ _ (T8.setTop (mkF m 11 #[s0, s1, s2, s3, .val (.int i4), s5, s6, .val (.ref b7), .val (.ref b8), s9, s10, s11, s12, s13, s14, s15, s16, s17, s18, s19, s20, s21, s22, s23, s24, s25, s26, s27, s28, s29, s30, s31, s32, s33, s34] [(.int (4 : Int32))])) _
  refine st9 _ ?_
  show Steps _ _ _ (T9.setTop (mkF m 13 #[s0, s1, s2, s3, .val (.int i4), s5, s6, .val (.ref b7), .val (.ref b8), s9, s10, s11, s12, s13, s14, s15, s16, s17, s18, s19, s20, s21, s22, s23, s24, s25, s26, s27, s28, s29, s30, s31, s32, s33, s34] [(.ref b9)])) _
  refine XS.astore X9.here hx rfl (hb hby at_13) rfl rfl (l' := #[s0, s1, s2, s3, .val (.int i4), s5, s6, .val (.ref b7), .val (.ref b8), .val (.ref b9), s10, s11, s12, s13, s14, s15, s16, s17, s18, s19, s20, s21, s22, s23, s24, s25, s26, s27, s28, s29, s30, s31, s32, s33, s34]) (os0_13 hs9) ?_
  show Steps _ _ _ (T9.setTop (mkF m 15 #[s0, s1, s2, s3, .val (.int i4), s5, s6, .val (.ref b7), .val (.ref b8), .val (.ref b9), s10, s11, s12, s13, s14, s15, s16, s17, s18, s19, s20, s21, s22, s23, s24, s25, s26, s27, s28, s29, s30, s31, s32, s33, s34] [])) _
  refine XS.iconst X9.here hx rfl (hb hby at_15) ?_
  show Steps _ _ _ (T9.setTop (mkF m 16 #[s0, s1, s2, s3, .val (.int i4), s5, s6, .val (.ref b7), .val (.ref b8), .val (.ref b9), s10, s11, s12, s13, s14, s15, s16, s17, s18, s19, s20, s21, s22, s23, s24, s25, s26, s27, s28, s29, s30, s31, s32, s33, s34] [(.int (4 : Int32))])) _
  refine st10 _ ?_
  show Steps _ _ _ (T10.setTop (mkF m 18 #[s0, s1, s2, s3, .val (.int i4), s5, s6, .val (.ref b7), .val (.ref b8), .val (.ref b9), s10, s11, s12, s13, s14, s15, s16, s17, s18, s19, s20, s21, s22, s23, s24, s25, s26, s27, s28, s29, s30, s31, s32, s33, s34] [(.ref b10)])) _
  refine XS.astore X10.here hx rfl (hb hby at_18) rfl rfl (l' := #[s0, s1, s2, s3, .val (.int i4), s5, s6, .val (.ref b7), .val (.ref b8), .val (.ref b9), .val (.ref b10), s11, s12, s13, s14, s15, s16, s17, s18, s19, s20, s21, s22, s23, s24, s25, s26, s27, s28, s29, s30, s31, s32, s33, s34]) (os0_18 hs10) ?_
  show Steps _ _ _ (T10.setTop (mkF m 20 #[s0, s1, s2, s3, .val (.int i4), s5, s6, .val (.ref b7), .val (.ref b8), .val (.ref b9), .val (.ref b10), s11, s12, s13, s14, s15, s16, s17, s18, s19, s20, s21, s22, s23, s24, s25, s26, s27, s28, s29, s30, s31, s32, s33, s34] [])) _
  refine XS.iconst X10.here hx rfl (hb hby at_20) ?_
  show Steps _ _ _ (T10.setTop (mkF m 21 #[s0, s1, s2, s3, .val (.int i4), s5, s6, .val (.ref b7), .val (.ref b8), .val (.ref b9), .val (.ref b10), s11, s12, s13, s14, s15, s16, s17, s18, s19, s20, s21, s22, s23, s24, s25, s26, s27, s28, s29, s30, s31, s32, s33, s34] [(.int (1 : Int32))])) _
  refine st11 _ ?_
  show Steps _ _ _ (T11.setTop (mkF m 23 #[s0, s1, s2, s3, .val (.int i4), s5, s6, .val (.ref b7), .val (.ref b8), .val (.ref b9), .val (.ref b10), s11, s12, s13, s14, s15, s16, s17, s18, s19, s20, s21, s22, s23, s24, s25, s26, s27, s28, s29, s30, s31, s32, s33, s34] [(.ref b11)])) _
  refine XS.astore X11.here hx rfl (hb hby at_23) rfl rfl (l' := #[s0, s1, s2, s3, .val (.int i4), s5, s6, .val (.ref b7), .val (.ref b8), .val (.ref b9), .val (.ref b10), .val (.ref b11), s12, s13, s14, s15, s16, s17, s18, s19, s20, s21, s22, s23, s24, s25, s26, s27, s28, s29, s30, s31, s32, s33, s34]) (os0_23 hs11) ?_
  show Steps _ _ _ (T11.setTop (mkF m 25 #[s0, s1, s2, s3, .val (.int i4), s5, s6, .val (.ref b7), .val (.ref b8), .val (.ref b9), .val (.ref b10), .val (.ref b11), s12, s13, s14, s15, s16, s17, s18, s19, s20, s21, s22, s23, s24, s25, s26, s27, s28, s29, s30, s31, s32, s33, s34] [])) _
  refine XS.iload X11.here hx rfl (hb hby at_25) rfl ?_
  show Steps _ _ _ (T11.setTop (mkF m 27 #[s0, s1, s2, s3, .val (.int i4), s5, s6, .val (.ref b7), .val (.ref b8), .val (.ref b9), .val (.ref b10), .val (.ref b11), s12, s13, s14, s15, s16, s17, s18, s19, s20, s21, s22, s23, s24, s25, s26, s27, s28, s29, s30, s31, s32, s33, s34] [(.int i4)])) _
  refine XS.bipush X11.here hx rfl (hb hby at_27) ?_
  show Steps _ _ _ (T11.setTop (mkF m 29 #[s0, s1, s2, s3, .val (.int i4), s5, s6, .val (.ref b7), .val (.ref b8), .val (.ref b9), .val (.ref b10), .val (.ref b11), s12, s13, s14, s15, s16, s17, s18, s19, s20, s21, s22, s23, s24, s25, s26, s27, s28, s29, s30, s31, s32, s33, s34] [(.int (8 : Int32)), (.int i4)])) _
  refine XS.iushr X11.here hx rfl (hb hby at_29) rfl ?_
  show Steps _ _ _ (T11.setTop (mkF m 30 #[s0, s1, s2, s3, .val (.int i4), s5, s6, .val (.ref b7), .val (.ref b8), .val (.ref b9), .val (.ref b10), .val (.ref b11), s12, s13, s14, s15, s16, s17, s18, s19, s20, s21, s22, s23, s24, s25, s26, s27, s28, s29, s30, s31, s32, s33, s34] [(.int ((i4.toUInt32 >>> ((8 : Int32) &&& 31).toUInt32).toInt32))])) _
  refine XS.iconst X11.here hx rfl (hb hby at_30) ?_
  show Steps _ _ _ (T11.setTop (mkF m 31 #[s0, s1, s2, s3, .val (.int i4), s5, s6, .val (.ref b7), .val (.ref b8), .val (.ref b9), .val (.ref b10), .val (.ref b11), s12, s13, s14, s15, s16, s17, s18, s19, s20, s21, s22, s23, s24, s25, s26, s27, s28, s29, s30, s31, s32, s33, s34] [(.int (3 : Int32)), (.int ((i4.toUInt32 >>> ((8 : Int32) &&& 31).toUInt32).toInt32))])) _
  refine XS.iand X11.here hx rfl (hb hby at_31) rfl ?_
  show Steps _ _ _ (T11.setTop (mkF m 32 #[s0, s1, s2, s3, .val (.int i4), s5, s6, .val (.ref b7), .val (.ref b8), .val (.ref b9), .val (.ref b10), .val (.ref b11), s12, s13, s14, s15, s16, s17, s18, s19, s20, s21, s22, s23, s24, s25, s26, s27, s28, s29, s30, s31, s32, s33, s34] [(.int (((i4.toUInt32 >>> ((8 : Int32) &&& 31).toUInt32).toInt32) &&& (3 : Int32)))])) _
  refine XS.istore X11.here hx rfl (hb hby at_32) rfl (l' := #[s0, s1, s2, s3, .val (.int i4), s5, s6, .val (.ref b7), .val (.ref b8), .val (.ref b9), .val (.ref b10), .val (.ref b11), .val (.int (((i4.toUInt32 >>> ((8 : Int32) &&& 31).toUInt32).toInt32) &&& (3 : Int32))), s13, s14, s15, s16, s17, s18, s19, s20, s21, s22, s23, s24, s25, s26, s27, s28, s29, s30, s31, s32, s33, s34]) (os0_32 hs12) ?_
  exact kt
theorem os0_42 {s0 s1 s2 s3 s4 s5 s6 : Slot} {z7 : Value} {s8 s9 s10 s11 : Slot} {z12 : Value} {s13 s14 s15 s16 s17 s18 s19 s20 s21 s22 s23 s24 s25 s26 s27 s28 s29 s30 s31 s32 s33 s34 : Slot} {v : Addr} (h : One s13) : storeLocals #[s0, s1, s2, s3, s4, s5, s6, .val z7, s8, s9, s10, s11, .val z12, s13, s14, s15, s16, s17, s18, s19, s20, s21, s22, s23, s24, s25, s26, s27, s28, s29, s30, s31, s32, s33, s34] 13 (.ref v) = some #[s0, s1, s2, s3, s4, s5, s6, .val z7, s8, s9, s10, s11, .val z12, .val (.ref v), s14, s15, s16, s17, s18, s19, s20, s21, s22, s23, s24, s25, s26, s27, s28, s29, s30, s31, s32, s33, s34] := by
  rcases h with rfl | ⟨w, rfl, hw⟩
  · rfl
  · cases w <;> first | rfl | (simp [Value.category] at hw)
theorem os0_46 {s0 s1 s2 s3 s4 s5 s6 : Slot} {z7 : Value} {s8 s9 s10 s11 : Slot} {z12 z13 : Value} {s14 s15 s16 s17 s18 s19 s20 s21 s22 s23 s24 s25 s26 s27 s28 s29 s30 s31 s32 s33 s34 : Slot} {v : Addr} (h : One s14) : storeLocals #[s0, s1, s2, s3, s4, s5, s6, .val z7, s8, s9, s10, s11, .val z12, .val z13, s14, s15, s16, s17, s18, s19, s20, s21, s22, s23, s24, s25, s26, s27, s28, s29, s30, s31, s32, s33, s34] 14 (.ref v) = some #[s0, s1, s2, s3, s4, s5, s6, .val z7, s8, s9, s10, s11, .val z12, .val z13, .val (.ref v), s15, s16, s17, s18, s19, s20, s21, s22, s23, s24, s25, s26, s27, s28, s29, s30, s31, s32, s33, s34] := by
  rcases h with rfl | ⟨w, rfl, hw⟩
  · rfl
  · cases w <;> first | rfl | (simp [Value.category] at hw)
theorem tn0_34_96_f (s0 s1 s2 s3 s4 s5 s6 : Slot) (o7 : Addr) (s8 s9 s10 s11 : Slot) (i12 : Int32) (s13 s14 s15 s16 s17 s18 s19 s20 s21 s22 s23 s24 s25 s26 s27 s28 s29 s30 s31 s32 s33 s34 : Slot) (w7 : Addr)
    (X0 : Stand p l e R s m args below meth c T0 locs cells slots) (hx : p.tables.exec = Jvm.exec) (hZ : Z.Warmed39 s.vm) (hw : ∀ d ∈ tables_1, d.before a0 Z = true) (hby : c.code = code) (hml : c.maxLocals = 35) (hown : s.vm.findClass own_s1 = some m.cls) (e0 : T0.heap = h0) (S_INT : Sta Z h0 own_s2 "INT" "Lcom/example/cablegram/cablegram/engine/ElementType;" (.ref w7)) (hs13 : One s13) (hs14 : One s14) (hc36 : i12 = (0 : Int32)) :
    ∃ (T' : State), Stand p l e R s m args below meth c T' locs cells slots ∧ T'.heap = h0 ∧
      ∀ target, Steps p.tables e below (T'.setTop (mkF m 96 #[s0, s1, s2, s3, s4, s5, s6, .val (.ref o7), s8, s9, s10, s11, .val (.int i12), .val (.ref w7), .val (.ref o7), s15, s16, s17, s18, s19, s20, s21, s22, s23, s24, s25, s26, s27, s28, s29, s30, s31, s32, s33, s34] [])) target → Steps p.tables e below (T0.setTop (mkF m 34 #[s0, s1, s2, s3, s4, s5, s6, .val (.ref o7), s8, s9, s10, s11, .val (.int i12), s13, s14, s15, s16, s17, s18, s19, s20, s21, s22, s23, s24, s25, s26, s27, s28, s29, s30, s31, s32, s33, s34] [])) target := by
  obtain ⟨T8, X8, e8, st8⟩ := getS2 X0 hx hZ hown (host := "") (Or.inl (own_w hw 4 rfl)) Via.refl e0 S_INT (g := (mkF m 39 #[s0, s1, s2, s3, s4, s5, s6, .val (.ref o7), s8, s9, s10, s11, .val (.int i12), s13, s14, s15, s16, s17, s18, s19, s20, s21, s22, s23, s24, s25, s26, s27, s28, s29, s30, s31, s32, s33, s34] [])) rfl (hb hby at_39)
  refine ⟨T8, X8, e8, fun target kt => ?_⟩
  show Steps _ _ _ (T0.setTop (mkF m 34 #[s0, s1, s2, s3, s4, s5, s6, .val (.ref o7), s8, s9, s10, s11, .val (.int i12), s13, s14, s15, s16, s17, s18, s19, s20, s21, s22, s23, s24, s25, s26, s27, s28, s29, s30, s31, s32, s33, s34] [])) _
  refine XS.iload X0.here hx rfl (hb hby at_34) rfl ?_
  show Steps _ _ _ (T0.setTop (mkF m 36 #[s0, s1, s2, s3, s4, s5, s6, .val (.ref o7), s8, s9, s10, s11, .val (.int i12), s13, s14, s15, s16, s17, s18, s19, s20, s21, s22, s23, s24, s25, s26, s27, s28, s29, s30, s31, s32, s33, s34] [(.int i12)])) _
  refine XS.ifNo X0.here hx rfl (hb hby at_36) rfl ((if0 _ _).trans (teq hc36).2) ?_
  show Steps _ _ _ (T0.setTop (mkF m 39 #[s0, s1, s2, s3, s4, s5, s6, .val (.ref o7), s8, s9, s10, s11, .val (.int i12), s13, s14, s15, s16, s17, s18, s19, s20, s21, s22, s23, s24, s25, s26, s27, s28, s29, s30, s31, s32, s33, s34] [])) _
  refine st8 _ ?_
  show Steps _ _ _ (T8.setTop (mkF m 42 #[s0, s1, s2, s3, s4, s5, s6, .val (.ref o7), s8, s9, s10, s11, .val (.int i12), s13, s14, s15, s16, s17, s18, s19, s20, s21, s22, s23, s24, s25, s26, s27, s28, s29, s30, s31, s32, s33, s34] [(.ref w7)])) _
  refine XS.astore X8.here hx rfl (hb hby at_42) rfl rfl (l' := #[s0, s1, s2, s3, s4, s5, s6, .val (.ref o7), s8, s9, s10, s11, .val (.int i12), .val (.ref w7), s14, s15, s16, s17, s18, s19, s20, s21, s22, s23, s24, s25, s26, s27, s28, s29, s30, s31, s32, s33, s34]) (os0_42 hs13) ?_
  show Steps _ _ _ (T8.setTop (mkF m 44 #[s0, s1, s2, s3, s4, s5, s6, .val (.ref o7), s8, s9, s10, s11, .val (.int i12), .val (.ref w7), s14, s15, s16, s17, s18, s19, s20, s21, s22, s23, s24, s25, s26, s27, s28, s29, s30, s31, s32, s33, s34] [])) _
  refine XS.aload X8.here hx rfl (hb hby at_44) rfl rfl ?_
  show Steps _ _ _ (T8.setTop (mkF m 46 #[s0, s1, s2, s3, s4, s5, s6, .val (.ref o7), s8, s9, s10, s11, .val (.int i12), .val (.ref w7), s14, s15, s16, s17, s18, s19, s20, s21, s22, s23, s24, s25, s26, s27, s28, s29, s30, s31, s32, s33, s34] [(.ref o7)])) _
  refine XS.astore X8.here hx rfl (hb hby at_46) rfl rfl (l' := #[s0, s1, s2, s3, s4, s5, s6, .val (.ref o7), s8, s9, s10, s11, .val (.int i12), .val (.ref w7), .val (.ref o7), s15, s16, s17, s18, s19, s20, s21, s22, s23, s24, s25, s26, s27, s28, s29, s30, s31, s32, s33, s34]) (os0_46 hs14) ?_
  show Steps _ _ _ (T8.setTop (mkF m 48 #[s0, s1, s2, s3, s4, s5, s6, .val (.ref o7), s8, s9, s10, s11, .val (.int i12), .val (.ref w7), .val (.ref o7), s15, s16, s17, s18, s19, s20, s21, s22, s23, s24, s25, s26, s27, s28, s29, s30, s31, s32, s33, s34] [])) _
  refine XS.goto X8.here hx rfl (pc0 := 48) (pc' := 96) rfl (hb hby at_48) (by decide) (by decide) ?_
  exact kt
theorem os0_60 {s0 s1 s2 s3 s4 s5 s6 s7 : Slot} {z8 : Value} {s9 s10 s11 : Slot} {z12 : Value} {s13 s14 s15 s16 s17 s18 s19 s20 s21 s22 s23 s24 s25 s26 s27 s28 s29 s30 s31 s32 s33 s34 : Slot} {v : Addr} (h : One s13) : storeLocals #[s0, s1, s2, s3, s4, s5, s6, s7, .val z8, s9, s10, s11, .val z12, s13, s14, s15, s16, s17, s18, s19, s20, s21, s22, s23, s24, s25, s26, s27, s28, s29, s30, s31, s32, s33, s34] 13 (.ref v) = some #[s0, s1, s2, s3, s4, s5, s6, s7, .val z8, s9, s10, s11, .val z12, .val (.ref v), s14, s15, s16, s17, s18, s19, s20, s21, s22, s23, s24, s25, s26, s27, s28, s29, s30, s31, s32, s33, s34] := by
  rcases h with rfl | ⟨w, rfl, hw⟩
  · rfl
  · cases w <;> first | rfl | (simp [Value.category] at hw)
theorem os0_64 {s0 s1 s2 s3 s4 s5 s6 s7 : Slot} {z8 : Value} {s9 s10 s11 : Slot} {z12 z13 : Value} {s14 s15 s16 s17 s18 s19 s20 s21 s22 s23 s24 s25 s26 s27 s28 s29 s30 s31 s32 s33 s34 : Slot} {v : Addr} (h : One s14) : storeLocals #[s0, s1, s2, s3, s4, s5, s6, s7, .val z8, s9, s10, s11, .val z12, .val z13, s14, s15, s16, s17, s18, s19, s20, s21, s22, s23, s24, s25, s26, s27, s28, s29, s30, s31, s32, s33, s34] 14 (.ref v) = some #[s0, s1, s2, s3, s4, s5, s6, s7, .val z8, s9, s10, s11, .val z12, .val z13, .val (.ref v), s15, s16, s17, s18, s19, s20, s21, s22, s23, s24, s25, s26, s27, s28, s29, s30, s31, s32, s33, s34] := by
  rcases h with rfl | ⟨w, rfl, hw⟩
  · rfl
  · cases w <;> first | rfl | (simp [Value.category] at hw)
theorem tn0_34_96_tf (s0 s1 s2 s3 s4 s5 s6 s7 : Slot) (o8 : Addr) (s9 s10 s11 : Slot) (i12 : Int32) (s13 s14 s15 s16 s17 s18 s19 s20 s21 s22 s23 s24 s25 s26 s27 s28 s29 s30 s31 s32 s33 s34 : Slot) (w7 : Addr)
    (X0 : Stand p l e R s m args below meth c T0 locs cells slots) (hx : p.tables.exec = Jvm.exec) (hZ : Z.Warmed39 s.vm) (hw : ∀ d ∈ tables_1, d.before a0 Z = true) (hby : c.code = code) (hml : c.maxLocals = 35) (hown : s.vm.findClass own_s1 = some m.cls) (e0 : T0.heap = h0) (S_LONG : Sta Z h0 own_s2 "LONG" "Lcom/example/cablegram/cablegram/engine/ElementType;" (.ref w7)) (hs13 : One s13) (hs14 : One s14) (hc36 : ¬ (i12 = (0 : Int32))) (hc54 : i12 = (1 : Int32)) :
    ∃ (T' : State), Stand p l e R s m args below meth c T' locs cells slots ∧ T'.heap = h0 ∧
      ∀ target, Steps p.tables e below (T'.setTop (mkF m 96 #[s0, s1, s2, s3, s4, s5, s6, s7, .val (.ref o8), s9, s10, s11, .val (.int i12), .val (.ref w7), .val (.ref o8), s15, s16, s17, s18, s19, s20, s21, s22, s23, s24, s25, s26, s27, s28, s29, s30, s31, s32, s33, s34] [])) target → Steps p.tables e below (T0.setTop (mkF m 34 #[s0, s1, s2, s3, s4, s5, s6, s7, .val (.ref o8), s9, s10, s11, .val (.int i12), s13, s14, s15, s16, s17, s18, s19, s20, s21, s22, s23, s24, s25, s26, s27, s28, s29, s30, s31, s32, s33, s34] [])) target := by
  obtain ⟨T8, X8, e8, st8⟩ := getS2 X0 hx hZ hown (host := "") (Or.inl (own_w hw 7 rfl)) Via.refl e0 S_LONG (g := (mkF m 57 #[s0, s1, s2, s3, s4, s5, s6, s7, .val (.ref o8), s9, s10, s11, .val (.int i12), s13, s14, s15, s16, s17, s18, s19, s20, s21, s22, s23, s24, s25, s26, s27, s28, s29, s30, s31, s32, s33, s34] [])) rfl (hb hby at_57)
  refine ⟨T8, X8, e8, fun target kt => ?_⟩
  show Steps _ _ _ (T0.setTop (mkF m 34 #[s0, s1, s2, s3, s4, s5, s6, s7, .val (.ref o8), s9, s10, s11, .val (.int i12), s13, s14, s15, s16, s17, s18, s19, s20, s21, s22, s23, s24, s25, s26, s27, s28, s29, s30, s31, s32, s33, s34] [])) _
  refine XS.iload X0.here hx rfl (hb hby at_34) rfl ?_
  show Steps _ _ _ (T0.setTop (mkF m 36 #[s0, s1, s2, s3, s4, s5, s6, s7, .val (.ref o8), s9, s10, s11, .val (.int i12), s13, s14, s15, s16, s17, s18, s19, s20, s21, s22, s23, s24, s25, s26, s27, s28, s29, s30, s31, s32, s33, s34] [(.int i12)])) _
  refine XS.ifYes X0.here hx rfl (pc0 := 36) (pc' := 51) rfl (hb hby at_36) rfl ((if0 _ _).trans (feq hc36).2) (by decide) (by decide) ?_
  show Steps _ _ _ (T0.setTop (mkF m 51 #[s0, s1, s2, s3, s4, s5, s6, s7, .val (.ref o8), s9, s10, s11, .val (.int i12), s13, s14, s15, s16, s17, s18, s19, s20, s21, s22, s23, s24, s25, s26, s27, s28, s29, s30, s31, s32, s33, s34] [])) _
  refine XS.iload X0.here hx rfl (hb hby at_51) rfl ?_
  show Steps _ _ _ (T0.setTop (mkF m 53 #[s0, s1, s2, s3, s4, s5, s6, s7, .val (.ref o8), s9, s10, s11, .val (.int i12), s13, s14, s15, s16, s17, s18, s19, s20, s21, s22, s23, s24, s25, s26, s27, s28, s29, s30, s31, s32, s33, s34] [(.int i12)])) _
  refine XS.iconst X0.here hx rfl (hb hby at_53) ?_
  show Steps _ _ _ (T0.setTop (mkF m 54 #[s0, s1, s2, s3, s4, s5, s6, s7, .val (.ref o8), s9, s10, s11, .val (.int i12), s13, s14, s15, s16, s17, s18, s19, s20, s21, s22, s23, s24, s25, s26, s27, s28, s29, s30, s31, s32, s33, s34] [(.int (1 : Int32)), (.int i12)])) _
  refine XS.icmpNo X0.here hx rfl (hb hby at_54) rfl (teq hc54).2 ?_
  show Steps _ _ _ (T0.setTop (mkF m 57 #[s0, s1, s2, s3, s4, s5, s6, s7, .val (.ref o8), s9, s10, s11, .val (.int i12), s13, s14, s15, s16, s17, s18, s19, s20, s21, s22, s23, s24, s25, s26, s27, s28, s29, s30, s31, s32, s33, s34] [])) _
  refine st8 _ ?_
  show Steps _ _ _ (T8.setTop (mkF m 60 #[s0, s1, s2, s3, s4, s5, s6, s7, .val (.ref o8), s9, s10, s11, .val (.int i12), s13, s14, s15, s16, s17, s18, s19, s20, s21, s22, s23, s24, s25, s26, s27, s28, s29, s30, s31, s32, s33, s34] [(.ref w7)])) _
  refine XS.astore X8.here hx rfl (hb hby at_60) rfl rfl (l' := #[s0, s1, s2, s3, s4, s5, s6, s7, .val (.ref o8), s9, s10, s11, .val (.int i12), .val (.ref w7), s14, s15, s16, s17, s18, s19, s20, s21, s22, s23, s24, s25, s26, s27, s28, s29, s30, s31, s32, s33, s34]) (os0_60 hs13) ?_
  show Steps _ _ _ (T8.setTop (mkF m 62 #[s0, s1, s2, s3, s4, s5, s6, s7, .val (.ref o8), s9, s10, s11, .val (.int i12), .val (.ref w7), s14, s15, s16, s17, s18, s19, s20, s21, s22, s23, s24, s25, s26, s27, s28, s29, s30, s31, s32, s33, s34] [])) _
  refine XS.aload X8.here hx rfl (hb hby at_62) rfl rfl ?_
  show Steps _ _ _ (T8.setTop (mkF m 64 #[s0, s1, s2, s3, s4, s5, s6, s7, .val (.ref o8), s9, s10, s11, .val (.int i12), .val (.ref w7), s14, s15, s16, s17, s18, s19, s20, s21, s22, s23, s24, s25, s26, s27, s28, s29, s30, s31, s32, s33, s34] [(.ref o8)])) _
  refine XS.astore X8.here hx rfl (hb hby at_64) rfl rfl (l' := #[s0, s1, s2, s3, s4, s5, s6, s7, .val (.ref o8), s9, s10, s11, .val (.int i12), .val (.ref w7), .val (.ref o8), s15, s16, s17, s18, s19, s20, s21, s22, s23, s24, s25, s26, s27, s28, s29, s30, s31, s32, s33, s34]) (os0_64 hs14) ?_
  show Steps _ _ _ (T8.setTop (mkF m 66 #[s0, s1, s2, s3, s4, s5, s6, s7, .val (.ref o8), s9, s10, s11, .val (.int i12), .val (.ref w7), .val (.ref o8), s15, s16, s17, s18, s19, s20, s21, s22, s23, s24, s25, s26, s27, s28, s29, s30, s31, s32, s33, s34] [])) _
  refine XS.goto X8.here hx rfl (pc0 := 66) (pc' := 96) rfl (hb hby at_66) (by decide) (by decide) ?_
  exact kt
theorem os0_78 {s0 s1 s2 s3 s4 s5 s6 s7 s8 : Slot} {z9 : Value} {s10 s11 : Slot} {z12 : Value} {s13 s14 s15 s16 s17 s18 s19 s20 s21 s22 s23 s24 s25 s26 s27 s28 s29 s30 s31 s32 s33 s34 : Slot} {v : Addr} (h : One s13) : storeLocals #[s0, s1, s2, s3, s4, s5, s6, s7, s8, .val z9, s10, s11, .val z12, s13, s14, s15, s16, s17, s18, s19, s20, s21, s22, s23, s24, s25, s26, s27, s28, s29, s30, s31, s32, s33, s34] 13 (.ref v) = some #[s0, s1, s2, s3, s4, s5, s6, s7, s8, .val z9, s10, s11, .val z12, .val (.ref v), s14, s15, s16, s17, s18, s19, s20, s21, s22, s23, s24, s25, s26, s27, s28, s29, s30, s31, s32, s33, s34] := by
  rcases h with rfl | ⟨w, rfl, hw⟩
  · rfl
  · cases w <;> first | rfl | (simp [Value.category] at hw)
theorem os0_82 {s0 s1 s2 s3 s4 s5 s6 s7 s8 : Slot} {z9 : Value} {s10 s11 : Slot} {z12 z13 : Value} {s14 s15 s16 s17 s18 s19 s20 s21 s22 s23 s24 s25 s26 s27 s28 s29 s30 s31 s32 s33 s34 : Slot} {v : Addr} (h : One s14) : storeLocals #[s0, s1, s2, s3, s4, s5, s6, s7, s8, .val z9, s10, s11, .val z12, .val z13, s14, s15, s16, s17, s18, s19, s20, s21, s22, s23, s24, s25, s26, s27, s28, s29, s30, s31, s32, s33, s34] 14 (.ref v) = some #[s0, s1, s2, s3, s4, s5, s6, s7, s8, .val z9, s10, s11, .val z12, .val z13, .val (.ref v), s15, s16, s17, s18, s19, s20, s21, s22, s23, s24, s25, s26, s27, s28, s29, s30, s31, s32, s33, s34] := by
  rcases h with rfl | ⟨w, rfl, hw⟩
  · rfl
  · cases w <;> first | rfl | (simp [Value.category] at hw)
theorem tn0_34_96_ttf (s0 s1 s2 s3 s4 s5 s6 s7 s8 : Slot) (o9 : Addr) (s10 s11 : Slot) (i12 : Int32) (s13 s14 s15 s16 s17 s18 s19 s20 s21 s22 s23 s24 s25 s26 s27 s28 s29 s30 s31 s32 s33 s34 : Slot) (w7 : Addr)
    (X0 : Stand p l e R s m args below meth c T0 locs cells slots) (hx : p.tables.exec = Jvm.exec) (hZ : Z.Warmed39 s.vm) (hw : ∀ d ∈ tables_1, d.before a0 Z = true) (hby : c.code = code) (hml : c.maxLocals = 35) (hown : s.vm.findClass own_s1 = some m.cls) (e0 : T0.heap = h0) (S_BYTE : Sta Z h0 own_s2 "BYTE" "Lcom/example/cablegram/cablegram/engine/ElementType;" (.ref w7)) (hs13 : One s13) (hs14 : One s14) (hc36 : ¬ (i12 = (0 : Int32))) (hc54 : ¬ (i12 = (1 : Int32))) (hc72 : i12 = (2 : Int32)) :
    ∃ (T' : State), Stand p l e R s m args below meth c T' locs cells slots ∧ T'.heap = h0 ∧
      ∀ target, Steps p.tables e below (T'.setTop (mkF m 96 #[s0, s1, s2, s3, s4, s5, s6, s7, s8, .val (.ref o9), s10, s11, .val (.int i12), .val (.ref w7), .val (.ref o9), s15, s16, s17, s18, s19, s20, s21, s22, s23, s24, s25, s26, s27, s28, s29, s30, s31, s32, s33, s34] [])) target → Steps p.tables e below (T0.setTop (mkF m 34 #[s0, s1, s2, s3, s4, s5, s6, s7, s8, .val (.ref o9), s10, s11, .val (.int i12), s13, s14, s15, s16, s17, s18, s19, s20, s21, s22, s23, s24, s25, s26, s27, s28, s29, s30, s31, s32, s33, s34] [])) target := by
  obtain ⟨T8, X8, e8, st8⟩ := getS2 X0 hx hZ hown (host := "") (Or.inl (own_w hw 196 rfl)) Via.refl e0 S_BYTE (g := (mkF m 75 #[s0, s1, s2, s3, s4, s5, s6, s7, s8, .val (.ref o9), s10, s11, .val (.int i12), s13, s14, s15, s16, s17, s18, s19, s20, s21, s22, s23, s24, s25, s26, s27, s28, s29, s30, s31, s32, s33, s34] [])) rfl (hb hby at_75)
  refine ⟨T8, X8, e8, fun target kt => ?_⟩
  show Steps _ _ _ (T0.setTop (mkF m 34 #[s0, s1, s2, s3, s4, s5, s6, s7, s8, .val (.ref o9), s10, s11, .val (.int i12), s13, s14, s15, s16, s17, s18, s19, s20, s21, s22, s23, s24, s25, s26, s27, s28, s29, s30, s31, s32, s33, s34] [])) _
  refine XS.iload X0.here hx rfl (hb hby at_34) rfl ?_
  show Steps _ _ _ (T0.setTop (mkF m 36 #[s0, s1, s2, s3, s4, s5, s6, s7, s8, .val (.ref o9), s10, s11, .val (.int i12), s13, s14, s15, s16, s17, s18, s19, s20, s21, s22, s23, s24, s25, s26, s27, s28, s29, s30, s31, s32, s33, s34] [(.int i12)])) _
  refine XS.ifYes X0.here hx rfl (pc0 := 36) (pc' := 51) rfl (hb hby at_36) rfl ((if0 _ _).trans (feq hc36).2) (by decide) (by decide) ?_
  show Steps _ _ _ (T0.setTop (mkF m 51 #[s0, s1, s2, s3, s4, s5, s6, s7, s8, .val (.ref o9), s10, s11, .val (.int i12), s13, s14, s15, s16, s17, s18, s19, s20, s21, s22, s23, s24, s25, s26, s27, s28, s29, s30, s31, s32, s33, s34] [])) _
  refine XS.iload X0.here hx rfl (hb hby at_51) rfl ?_
  show Steps _ _ _ (T0.setTop (mkF m 53 #[s0, s1, s2, s3, s4, s5, s6, s7, s8, .val (.ref o9), s10, s11, .val (.int i12), s13, s14, s15, s16, s17, s18, s19, s20, s21, s22, s23, s24, s25, s26, s27, s28, s29, s30, s31, s32, s33, s34] [(.int i12)])) _
  refine XS.iconst X0.here hx rfl (hb hby at_53) ?_
  show Steps _ _ _ (T0.setTop (mkF m 54 #[s0, s1, s2, s3, s4, s5, s6, s7, s8, .val (.ref o9), s10, s11, .val (.int i12), s13, s14, s15, s16, s17, s18, s19, s20, s21, s22, s23, s24, s25, s26, s27, s28, s29, s30, s31, s32, s33, s34] [(.int (1 : Int32)), (.int i12)])) _
  refine XS.icmpYes X0.here hx rfl (pc0 := 54) (pc' := 69) rfl (hb hby at_54) rfl (feq hc54).2 (by decide) (by decide) ?_
  show Steps _ _ _ (T0.setTop (mkF m 69 #[s0, s1, s2, s3, s4, s5, s6, s7, s8, .val (.ref o9), s10, s11, .val (.int i12), s13, s14, s15, s16, s17, s18, s19, s20, s21, s22, s23, s24, s25, s26, s27, s28, s29, s30, s31, s32, s33, s34] [])) _
  refine XS.iload X0.here hx rfl (hb hby at_69) rfl ?_
  show Steps _ _ _ (T0.setTop (mkF m 71 #[s0, s1, s2, s3, s4, s5, s6, s7, s8, .val (.ref o9), s10, s11, .val (.int i12), s13, s14, s15, s16, s17, s18, s19, s20, s21, s22, s23, s24, s25, s26, s27, s28, s29, s30, s31, s32, s33, s34] [(.int i12)])) _
  refine XS.iconst X0.here hx rfl (hb hby at_71) ?_
  show Steps _ _ _ (T0.setTop (mkF m 72 #[s0, s1, s2, s3, s4, s5, s6, s7, s8, .val (.ref o9), s10, s11, .val (.int i12), s13, s14, s15, s16, s17, s18, s19, s20, s21, s22, s23, s24, s25, s26, s27, s28, s29, s30, s31, s32, s33, s34] [(.int (2 : Int32)), (.int i12)])) _
  refine XS.icmpNo X0.here hx rfl (hb hby at_72) rfl (teq hc72).2 ?_
  show Steps _ _ _ (T0.setTop (mkF m 75 #[s0, s1, s2, s3, s4, s5, s6, s7, s8, .val (.ref o9), s10, s11, .val (.int i12), s13, s14, s15, s16, s17, s18, s19, s20, s21, s22, s23, s24, s25, s26, s27, s28, s29, s30, s31, s32, s33, s34] [])) _
  refine st8 _ ?_
  show Steps _ _ _ (T8.setTop (mkF m 78 #[s0, s1, s2, s3, s4, s5, s6, s7, s8, .val (.ref o9), s10, s11, .val (.int i12), s13, s14, s15, s16, s17, s18, s19, s20, s21, s22, s23, s24, s25, s26, s27, s28, s29, s30, s31, s32, s33, s34] [(.ref w7)])) _
  refine XS.astore X8.here hx rfl (hb hby at_78) rfl rfl (l' := #[s0, s1, s2, s3, s4, s5, s6, s7, s8, .val (.ref o9), s10, s11, .val (.int i12), .val (.ref w7), s14, s15, s16, s17, s18, s19, s20, s21, s22, s23, s24, s25, s26, s27, s28, s29, s30, s31, s32, s33, s34]) (os0_78 hs13) ?_
  show Steps _ _ _ (T8.setTop (mkF m 80 #[s0, s1, s2, s3, s4, s5, s6, s7, s8, .val (.ref o9), s10, s11, .val (.int i12), .val (.ref w7), s14, s15, s16, s17, s18, s19, s20, s21, s22, s23, s24, s25, s26, s27, s28, s29, s30, s31, s32, s33, s34] [])) _
  refine XS.aload X8.here hx rfl (hb hby at_80) rfl rfl ?_
  show Steps _ _ _ (T8.setTop (mkF m 82 #[s0, s1, s2, s3, s4, s5, s6, s7, s8, .val (.ref o9), s10, s11, .val (.int i12), .val (.ref w7), s14, s15, s16, s17, s18, s19, s20, s21, s22, s23, s24, s25, s26, s27, s28, s29, s30, s31, s32, s33, s34] [(.ref o9)])) _
  refine XS.astore X8.here hx rfl (hb hby at_82) rfl rfl (l' := #[s0, s1, s2, s3, s4, s5, s6, s7, s8, .val (.ref o9), s10, s11, .val (.int i12), .val (.ref w7), .val (.ref o9), s15, s16, s17, s18, s19, s20, s21, s22, s23, s24, s25, s26, s27, s28, s29, s30, s31, s32, s33, s34]) (os0_82 hs14) ?_
  show Steps _ _ _ (T8.setTop (mkF m 84 #[s0, s1, s2, s3, s4, s5, s6, s7, s8, .val (.ref o9), s10, s11, .val (.int i12), .val (.ref w7), .val (.ref o9), s15, s16, s17, s18, s19, s20, s21, s22, s23, s24, s25, s26, s27, s28, s29, s30, s31, s32, s33, s34] [])) _
  refine XS.goto X8.here hx rfl (pc0 := 84) (pc' := 96) rfl (hb hby at_84) (by decide) (by decide) ?_
  exact kt
theorem os0_90 {s0 s1 s2 s3 s4 s5 s6 s7 s8 s9 : Slot} {z10 : Value} {s11 : Slot} {z12 : Value} {s13 s14 s15 s16 s17 s18 s19 s20 s21 s22 s23 s24 s25 s26 s27 s28 s29 s30 s31 s32 s33 s34 : Slot} {v : Addr} (h : One s13) : storeLocals #[s0, s1, s2, s3, s4, s5, s6, s7, s8, s9, .val z10, s11, .val z12, s13, s14, s15, s16, s17, s18, s19, s20, s21, s22, s23, s24, s25, s26, s27, s28, s29, s30, s31, s32, s33, s34] 13 (.ref v) = some #[s0, s1, s2, s3, s4, s5, s6, s7, s8, s9, .val z10, s11, .val z12, .val (.ref v), s14, s15, s16, s17, s18, s19, s20, s21, s22, s23, s24, s25, s26, s27, s28, s29, s30, s31, s32, s33, s34] := by
  rcases h with rfl | ⟨w, rfl, hw⟩
  · rfl
  · cases w <;> first | rfl | (simp [Value.category] at hw)
theorem os0_94 {s0 s1 s2 s3 s4 s5 s6 s7 s8 s9 : Slot} {z10 : Value} {s11 : Slot} {z12 z13 : Value} {s14 s15 s16 s17 s18 s19 s20 s21 s22 s23 s24 s25 s26 s27 s28 s29 s30 s31 s32 s33 s34 : Slot} {v : Addr} (h : One s14) : storeLocals #[s0, s1, s2, s3, s4, s5, s6, s7, s8, s9, .val z10, s11, .val z12, .val z13, s14, s15, s16, s17, s18, s19, s20, s21, s22, s23, s24, s25, s26, s27, s28, s29, s30, s31, s32, s33, s34] 14 (.ref v) = some #[s0, s1, s2, s3, s4, s5, s6, s7, s8, s9, .val z10, s11, .val z12, .val z13, .val (.ref v), s15, s16, s17, s18, s19, s20, s21, s22, s23, s24, s25, s26, s27, s28, s29, s30, s31, s32, s33, s34] := by
  rcases h with rfl | ⟨w, rfl, hw⟩
  · rfl
  · cases w <;> first | rfl | (simp [Value.category] at hw)
theorem tn0_34_96_ttt (s0 s1 s2 s3 s4 s5 s6 s7 s8 s9 : Slot) (o10 : Addr) (s11 : Slot) (i12 : Int32) (s13 s14 s15 s16 s17 s18 s19 s20 s21 s22 s23 s24 s25 s26 s27 s28 s29 s30 s31 s32 s33 s34 : Slot) (w7 : Addr)
    (X0 : Stand p l e R s m args below meth c T0 locs cells slots) (hx : p.tables.exec = Jvm.exec) (hZ : Z.Warmed39 s.vm) (hw : ∀ d ∈ tables_1, d.before a0 Z = true) (hby : c.code = code) (hml : c.maxLocals = 35) (hown : s.vm.findClass own_s1 = some m.cls) (e0 : T0.heap = h0) (S_DOUBLE : Sta Z h0 own_s2 "DOUBLE" "Lcom/example/cablegram/cablegram/engine/ElementType;" (.ref w7)) (hs13 : One s13) (hs14 : One s14) (hc36 : ¬ (i12 = (0 : Int32))) (hc54 : ¬ (i12 = (1 : Int32))) (hc72 : ¬ (i12 = (2 : Int32))) :
    ∃ (T' : State), Stand p l e R s m args below meth c T' locs cells slots ∧ T'.heap = h0 ∧
      ∀ target, Steps p.tables e below (T'.setTop (mkF m 96 #[s0, s1, s2, s3, s4, s5, s6, s7, s8, s9, .val (.ref o10), s11, .val (.int i12), .val (.ref w7), .val (.ref o10), s15, s16, s17, s18, s19, s20, s21, s22, s23, s24, s25, s26, s27, s28, s29, s30, s31, s32, s33, s34] [])) target → Steps p.tables e below (T0.setTop (mkF m 34 #[s0, s1, s2, s3, s4, s5, s6, s7, s8, s9, .val (.ref o10), s11, .val (.int i12), s13, s14, s15, s16, s17, s18, s19, s20, s21, s22, s23, s24, s25, s26, s27, s28, s29, s30, s31, s32, s33, s34] [])) target := by
  obtain ⟨T8, X8, e8, st8⟩ := getS2 X0 hx hZ hown (host := "") (Or.inl (own_w hw 193 rfl)) Via.refl e0 S_DOUBLE (g := (mkF m 87 #[s0, s1, s2, s3, s4, s5, s6, s7, s8, s9, .val (.ref o10), s11, .val (.int i12), s13, s14, s15, s16, s17, s18, s19, s20, s21, s22, s23, s24, s25, s26, s27, s28, s29, s30, s31, s32, s33, s34] [])) rfl (hb hby at_87)
  refine ⟨T8, X8, e8, fun target kt => ?_⟩
  show Steps _ _ _ (T0.setTop (mkF m 34 #[s0, s1, s2, s3, s4, s5, s6, s7, s8, s9, .val (.ref o10), s11, .val (.int i12), s13, s14, s15, s16, s17, s18, s19, s20, s21, s22, s23, s24, s25, s26, s27, s28, s29, s30, s31, s32, s33, s34] [])) _
  refine XS.iload X0.here hx rfl (hb hby at_34) rfl ?_
  show Steps _ _ _ (T0.setTop (mkF m 36 #[s0, s1, s2, s3, s4, s5, s6, s7, s8, s9, .val (.ref o10), s11, .val (.int i12), s13, s14, s15, s16, s17, s18, s19, s20, s21, s22, s23, s24, s25, s26, s27, s28, s29, s30, s31, s32, s33, s34] [(.int i12)])) _
  refine XS.ifYes X0.here hx rfl (pc0 := 36) (pc' := 51) rfl (hb hby at_36) rfl ((if0 _ _).trans (feq hc36).2) (by decide) (by decide) ?_
  show Steps _ _ _ (T0.setTop (mkF m 51 #[s0, s1, s2, s3, s4, s5, s6, s7, s8, s9, .val (.ref o10), s11, .val (.int i12), s13, s14, s15, s16, s17, s18, s19, s20, s21, s22, s23, s24, s25, s26, s27, s28, s29, s30, s31, s32, s33, s34] [])) _
  refine XS.iload X0.here hx rfl (hb hby at_51) rfl ?_
  show Steps _ _ _ (T0.setTop (mkF m 53 #[s0, s1, s2, s3, s4, s5, s6, s7, s8, s9, .val (.ref o10), s11, .val (.int i12), s13, s14, s15, s16, s17, s18, s19, s20, s21, s22, s23, s24, s25, s26, s27, s28, s29, s30, s31, s32, s33, s34] [(.int i12)])) _
  refine XS.iconst X0.here hx rfl (hb hby at_53) ?_
  show Steps _ _ _ (T0.setTop (mkF m 54 #[s0, s1, s2, s3, s4, s5, s6, s7, s8, s9, .val (.ref o10), s11, .val (.int i12), s13, s14, s15, s16, s17, s18, s19, s20, s21, s22, s23, s24, s25, s26, s27, s28, s29, s30, s31, s32, s33, s34] [(.int (1 : Int32)), (.int i12)])) _
  refine XS.icmpYes X0.here hx rfl (pc0 := 54) (pc' := 69) rfl (hb hby at_54) rfl (feq hc54).2 (by decide) (by decide) ?_
  show Steps _ _ _ (T0.setTop (mkF m 69 #[s0, s1, s2, s3, s4, s5, s6, s7, s8, s9, .val (.ref o10), s11, .val (.int i12), s13, s14, s15, s16, s17, s18, s19, s20, s21, s22, s23, s24, s25, s26, s27, s28, s29, s30, s31, s32, s33, s34] [])) _
  refine XS.iload X0.here hx rfl (hb hby at_69) rfl ?_
  show Steps _ _ _ (T0.setTop (mkF m 71 #[s0, s1, s2, s3, s4, s5, s6, s7, s8, s9, .val (.ref o10), s11, .val (.int i12), s13, s14, s15, s16, s17, s18, s19, s20, s21, s22, s23, s24, s25, s26, s27, s28, s29, s30, s31, s32, s33, s34] [(.int i12)])) _
  refine XS.iconst X0.here hx rfl (hb hby at_71) ?_
  show Steps _ _ _ (T0.setTop (mkF m 72 #[s0, s1, s2, s3, s4, s5, s6, s7, s8, s9, .val (.ref o10), s11, .val (.int i12), s13, s14, s15, s16, s17, s18, s19, s20, s21, s22, s23, s24, s25, s26, s27, s28, s29, s30, s31, s32, s33, s34] [(.int (2 : Int32)), (.int i12)])) _
  refine XS.icmpYes X0.here hx rfl (pc0 := 72) (pc' := 87) rfl (hb hby at_72) rfl (feq hc72).2 (by decide) (by decide) ?_
  show Steps _ _ _ (T0.setTop (mkF m 87 #[s0, s1, s2, s3, s4, s5, s6, s7, s8, s9, .val (.ref o10), s11, .val (.int i12), s13, s14, s15, s16, s17, s18, s19, s20, s21, s22, s23, s24, s25, s26, s27, s28, s29, s30, s31, s32, s33, s34] [])) _
  refine st8 _ ?_
  show Steps _ _ _ (T8.setTop (mkF m 90 #[s0, s1, s2, s3, s4, s5, s6, s7, s8, s9, .val (.ref o10), s11, .val (.int i12), s13, s14, s15, s16, s17, s18, s19, s20, s21, s22, s23, s24, s25, s26, s27, s28, s29, s30, s31, s32, s33, s34] [(.ref w7)])) _
  refine XS.astore X8.here hx rfl (hb hby at_90) rfl rfl (l' := #[s0, s1, s2, s3, s4, s5, s6, s7, s8, s9, .val (.ref o10), s11, .val (.int i12), .val (.ref w7), s14, s15, s16, s17, s18, s19, s20, s21, s22, s23, s24, s25, s26, s27, s28, s29, s30, s31, s32, s33, s34]) (os0_90 hs13) ?_
  show Steps _ _ _ (T8.setTop (mkF m 92 #[s0, s1, s2, s3, s4, s5, s6, s7, s8, s9, .val (.ref o10), s11, .val (.int i12), .val (.ref w7), s14, s15, s16, s17, s18, s19, s20, s21, s22, s23, s24, s25, s26, s27, s28, s29, s30, s31, s32, s33, s34] [])) _
  refine XS.aload X8.here hx rfl (hb hby at_92) rfl rfl ?_
  show Steps _ _ _ (T8.setTop (mkF m 94 #[s0, s1, s2, s3, s4, s5, s6, s7, s8, s9, .val (.ref o10), s11, .val (.int i12), .val (.ref w7), s14, s15, s16, s17, s18, s19, s20, s21, s22, s23, s24, s25, s26, s27, s28, s29, s30, s31, s32, s33, s34] [(.ref o10)])) _
  refine XS.astore X8.here hx rfl (hb hby at_94) rfl rfl (l' := #[s0, s1, s2, s3, s4, s5, s6, s7, s8, s9, .val (.ref o10), s11, .val (.int i12), .val (.ref w7), .val (.ref o10), s15, s16, s17, s18, s19, s20, s21, s22, s23, s24, s25, s26, s27, s28, s29, s30, s31, s32, s33, s34]) (os0_94 hs14) ?_
  exact kt
theorem sg2 (s0 s1 s2 s3 s4 s5 s6 : Slot) (o7 o8 o9 o10 : Addr) (s11 : Slot) (i12 : Int32) (s13 s14 s15 s16 s17 s18 s19 s20 s21 s22 s23 s24 s25 s26 s27 s28 s29 s30 s31 s32 s33 s34 : Slot)
    (X0 : Stand p l e R s m args below meth c T0 locs cells slots) (hx : p.tables.exec = Jvm.exec) (hZ : Z.Warmed39 s.vm) (hw : ∀ d ∈ tables_1, d.before a0 Z = true) (hby : c.code = code) (hml : c.maxLocals = 35) (hown : s.vm.findClass own_s1 = some m.cls) (e0 : T0.heap = h0) (k_INT k_LONG k_BYTE k_DOUBLE : Addr) (S_INT : Sta Z h0 own_s2 "INT" "Lcom/example/cablegram/cablegram/engine/ElementType;" (.ref k_INT)) (S_LONG : Sta Z h0 own_s2 "LONG" "Lcom/example/cablegram/cablegram/engine/ElementType;" (.ref k_LONG)) (S_BYTE : Sta Z h0 own_s2 "BYTE" "Lcom/example/cablegram/cablegram/engine/ElementType;" (.ref k_BYTE)) (S_DOUBLE : Sta Z h0 own_s2 "DOUBLE" "Lcom/example/cablegram/cablegram/engine/ElementType;" (.ref k_DOUBLE)) (hs13 : One s13) (hs14 : One s14) :
    ∃ (T' : State) (y13 y14 : Addr), Stand p l e R s m args below meth c T' locs cells slots ∧ T'.heap = h0 ∧
      ∀ target, Steps p.tables e below (T'.setTop (mkF m 96 #[s0, s1, s2, s3, s4, s5, s6, .val (.ref o7), .val (.ref o8), .val (.ref o9), .val (.ref o10), s11, .val (.int i12), .val (.ref y13), .val (.ref y14), s15, s16, s17, s18, s19, s20, s21, s22, s23, s24, s25, s26, s27, s28, s29, s30, s31, s32, s33, s34] [])) target → Steps p.tables e below (T0.setTop (mkF m 34 #[s0, s1, s2, s3, s4, s5, s6, .val (.ref o7), .val (.ref o8), .val (.ref o9), .val (.ref o10), s11, .val (.int i12), s13, s14, s15, s16, s17, s18, s19, s20, s21, s22, s23, s24, s25, s26, s27, s28, s29, s30, s31, s32, s33, s34] [])) target := by
  by_cases h1 : i12 = (0 : Int32)
  · obtain ⟨TT1, XX1, ee1, sst1⟩ := tn0_34_96_f s0 s1 s2 s3 s4 s5 s6 o7 (.val (.ref o8)) (.val (.ref o9)) (.val (.ref o10)) s11 i12 s13 s14 s15 s16 s17 s18 s19 s20 s21 s22 s23 s24 s25 s26 s27 s28 s29 s30 s31 s32 s33 s34 _ X0 hx hZ hw hby hml hown e0 S_INT (by first | exact own_oneU | exact own_oneI | exact own_oneR | assumption) (by first | exact own_oneU | exact own_oneI | exact own_oneR | assumption) h1
    exact ⟨TT1, k_INT, o7, XX1, ee1, sst1⟩
  by_cases h2 : i12 = (1 : Int32)
  · obtain ⟨TT1, XX1, ee1, sst1⟩ := tn0_34_96_tf s0 s1 s2 s3 s4 s5 s6 (.val (.ref o7)) o8 (.val (.ref o9)) (.val (.ref o10)) s11 i12 s13 s14 s15 s16 s17 s18 s19 s20 s21 s22 s23 s24 s25 s26 s27 s28 s29 s30 s31 s32 s33 s34 _ X0 hx hZ hw hby hml hown e0 S_LONG (by first | exact own_oneU | exact own_oneI | exact own_oneR | assumption) (by first | exact own_oneU | exact own_oneI | exact own_oneR | assumption) h1 h2
    exact ⟨TT1, k_LONG, o8, XX1, ee1, sst1⟩
  by_cases h3 : i12 = (2 : Int32)
  · obtain ⟨TT1, XX1, ee1, sst1⟩ := tn0_34_96_ttf s0 s1 s2 s3 s4 s5 s6 (.val (.ref o7)) (.val (.ref o8)) o9 (.val (.ref o10)) s11 i12 s13 s14 s15 s16 s17 s18 s19 s20 s21 s22 s23 s24 s25 s26 s27 s28 s29 s30 s31 s32 s33 s34 _ X0 hx hZ hw hby hml hown e0 S_BYTE (by first | exact own_oneU | exact own_oneI | exact own_oneR | assumption) (by first | exact own_oneU | exact own_oneI | exact own_oneR | assumption) h1 h2 h3
    exact ⟨TT1, k_BYTE, o9, XX1, ee1, sst1⟩
  · obtain ⟨TT1, XX1, ee1, sst1⟩ := tn0_34_96_ttt s0 s1 s2 s3 s4 s5 s6 (.val (.ref o7)) (.val (.ref o8)) (.val (.ref o9)) o10 s11 i12 s13 s14 s15 s16 s17 s18 s19 s20 s21 s22 s23 s24 s25 s26 s27 s28 s29 s30 s31 s32 s33 s34 _ X0 hx hZ hw hby hml hown e0 S_DOUBLE (by first | exact own_oneU | exact own_oneI | exact own_oneR | assumption) (by first | exact own_oneU | exact own_oneI | exact own_oneR | assumption) h1 h2 h3
    exact ⟨TT1, k_DOUBLE, o10, XX1, ee1, sst1⟩
theorem os0_113 {s0 s1 s2 s3 s4 s5 s6 s7 s8 s9 s10 s11 s12 : Slot} {z13 : Value} {s14 s15 s16 s17 s18 s19 s20 s21 s22 s23 s24 s25 s26 s27 s28 s29 s30 s31 s32 s33 s34 : Slot} {v : Addr} (h : One s15) : storeLocals #[s0, s1, s2, s3, s4, s5, s6, s7, s8, s9, s10, s11, s12, .val z13, s14, s15, s16, s17, s18, s19, s20, s21, s22, s23, s24, s25, s26, s27, s28, s29, s30, s31, s32, s33, s34] 15 (.ref v) = some #[s0, s1, s2, s3, s4, s5, s6, s7, s8, s9, s10, s11, s12, .val z13, s14, .val (.ref v), s16, s17, s18, s19, s20, s21, s22, s23, s24, s25, s26, s27, s28, s29, s30, s31, s32, s33, s34] := by
  rcases h with rfl | ⟨w, rfl, hw⟩
  · rfl
  · cases w <;> first | rfl | (simp [Value.category] at hw)
theorem tn0_96_115_f (s0 s1 s2 s3 s4 s5 s6 s7 s8 s9 s10 s11 s12 : Slot) (o13 : Addr) (s14 s15 s16 s17 s18 s19 s20 s21 s22 s23 s24 s25 s26 s27 s28 s29 s30 s31 s32 s33 s34 : Slot) (w7 w9 : Addr)
    (X0 : Stand p l e R s m args below meth c T0 locs cells slots) (hx : p.tables.exec = Jvm.exec) (hZ : Z.Warmed39 s.vm) (hw : ∀ d ∈ tables_1, d.before a0 Z = true) (hby : c.code = code) (hml : c.maxLocals = 35) (hown : s.vm.findClass own_s1 = some m.cls) (e0 : T0.heap = h0) (S_INT : Sta Z h0 own_s2 "INT" "Lcom/example/cablegram/cablegram/engine/ElementType;" (.ref w7)) (S_LONG : Sta Z h0 own_s2 "LONG" "Lcom/example/cablegram/cablegram/engine/ElementType;" (.ref w9)) (hs15 : One s15) (ha101 : o13 = w7) :
    ∃ (T' : State), Stand p l e R s m args below meth c T' locs cells slots ∧ T'.heap = h0 ∧
      ∀ target, Steps p.tables e below (T'.setTop (mkF m 115 #[s0, s1, s2, s3, s4, s5, s6, s7, s8, s9, s10, s11, s12, .val (.ref o13), s14, .val (.ref w9), s16, s17, s18, s19, s20, s21, s22, s23, s24, s25, s26, s27, s28, s29, s30, s31, s32, s33, s34] [])) target → Steps p.tables e below (T0.setTop (mkF m 96 #[s0, s1, s2, s3, s4, s5, s6, s7, s8, s9, s10, s11, s12, .val (.ref o13), s14, s15, s16, s17, s18, s19, s20, s21, s22, s23, s24, s25, s26, s27, s28, s29, s30, s31, s32, s33, s34] [])) target := by
  obtain ⟨T8, X8, e8, st8⟩ := getS2 X0 hx hZ hown (host := "") (Or.inl (own_w hw 4 rfl)) Via.refl e0 S_INT (g := (mkF m 98 #[s0, s1, s2, s3, s4, s5, s6, s7, s8, s9, s10, s11, s12, .val (.ref o13), s14, s15, s16, s17, s18, s19, s20, s21, s22, s23, s24, s25, s26, s27, s28, s29, s30, s31, s32, s33, s34] [(.ref o13)])) rfl (hb hby at_98)
  obtain ⟨T10, X10, e10, st10⟩ := getS2 X8 hx hZ hown (host := "") (Or.inl (own_w hw 7 rfl)) Via.refl e8 S_LONG (g := (mkF m 104 #[s0, s1, s2, s3, s4, s5, s6, s7, s8, s9, s10, s11, s12, .val (.ref o13), s14, s15, s16, s17, s18, s19, s20, s21, s22, s23, s24, s25, s26, s27, s28, s29, s30, s31, s32, s33, s34] [])) rfl (hb hby at_104)
  refine ⟨T10, X10, e10, fun target kt => ?_⟩
  show Steps _ _ _ (T0.setTop (mkF m 96 #[s0, s1, s2, s3, s4, s5, s6, s7, s8, s9, s10, s11, s12, .val (.ref o13), s14, s15, s16, s17, s18, s19, s20, s21, s22, s23, s24, s25, s26, s27, s28, s29, s30, s31, s32, s33, s34] [])) _
  refine XS.aload X0.here hx rfl (hb hby at_96) rfl rfl ?_
  show Steps _ _ _ (T0.setTop (mkF m 98 #[s0, s1, s2, s3, s4, s5, s6, s7, s8, s9, s10, s11, s12, .val (.ref o13), s14, s15, s16, s17, s18, s19, s20, s21, s22, s23, s24, s25, s26, s27, s28, s29, s30, s31, s32, s33, s34] [(.ref o13)])) _
  refine st8 _ ?_
  show Steps _ _ _ (T8.setTop (mkF m 101 #[s0, s1, s2, s3, s4, s5, s6, s7, s8, s9, s10, s11, s12, .val (.ref o13), s14, s15, s16, s17, s18, s19, s20, s21, s22, s23, s24, s25, s26, s27, s28, s29, s30, s31, s32, s33, s34] [(.ref w7), (.ref o13)])) _
  refine Jvm.RoadKit.acmp (g := (mkF m 101 #[s0, s1, s2, s3, s4, s5, s6, s7, s8, s9, s10, s11, s12, .val (.ref o13), s14, s15, s16, s17, s18, s19, s20, s21, s22, s23, s24, s25, s26, s27, s28, s29, s30, s31, s32, s33, s34] [(.ref w7), (.ref o13)])) X8 hx rfl rfl rfl (pc0 := 101) (pc' := 104) (same := true) rfl (hb hby at_101) rfl (decide_eq_true (congrArg Value.ref ha101)) (by decide) (by decide) ?_
  show Steps _ _ _ (T8.setTop (mkF m 104 #[s0, s1, s2, s3, s4, s5, s6, s7, s8, s9, s10, s11, s12, .val (.ref o13), s14, s15, s16, s17, s18, s19, s20, s21, s22, s23, s24, s25, s26, s27, s28, s29, s30, s31, s32, s33, s34] [])) _
  refine st10 _ ?_
  show Steps _ _ _ (T10.setTop (mkF m 107 #[s0, s1, s2, s3, s4, s5, s6, s7, s8, s9, s10, s11, s12, .val (.ref o13), s14, s15, s16, s17, s18, s19, s20, s21, s22, s23, s24, s25, s26, s27, s28, s29, s30, s31, s32, s33, s34] [(.ref w9)])) _
  refine XS.goto X10.here hx rfl (pc0 := 107) (pc' := 113) rfl (hb hby at_107) (by decide) (by decide) ?_
  show Steps _ _ _ (T10.setTop (mkF m 113 #[s0, s1, s2, s3, s4, s5, s6, s7, s8, s9, s10, s11, s12, .val (.ref o13), s14, s15, s16, s17, s18, s19, s20, s21, s22, s23, s24, s25, s26, s27, s28, s29, s30, s31, s32, s33, s34] [(.ref w9)])) _
  refine XS.astore X10.here hx rfl (hb hby at_113) rfl rfl (l' := #[s0, s1, s2, s3, s4, s5, s6, s7, s8, s9, s10, s11, s12, .val (.ref o13), s14, .val (.ref w9), s16, s17, s18, s19, s20, s21, s22, s23, s24, s25, s26, s27, s28, s29, s30, s31, s32, s33, s34]) (os0_113 hs15) ?_
  exact kt
theorem tn0_96_115_t (s0 s1 s2 s3 s4 s5 s6 s7 s8 s9 s10 s11 s12 : Slot) (o13 : Addr) (s14 s15 s16 s17 s18 s19 s20 s21 s22 s23 s24 s25 s26 s27 s28 s29 s30 s31 s32 s33 s34 : Slot) (w7 : Addr)
    (X0 : Stand p l e R s m args below meth c T0 locs cells slots) (hx : p.tables.exec = Jvm.exec) (hZ : Z.Warmed39 s.vm) (hw : ∀ d ∈ tables_1, d.before a0 Z = true) (hby : c.code = code) (hml : c.maxLocals = 35) (hown : s.vm.findClass own_s1 = some m.cls) (e0 : T0.heap = h0) (S_INT : Sta Z h0 own_s2 "INT" "Lcom/example/cablegram/cablegram/engine/ElementType;" (.ref w7)) (hs15 : One s15) (ha101 : ¬ (o13 = w7)) :
    ∃ (T' : State), Stand p l e R s m args below meth c T' locs cells slots ∧ T'.heap = h0 ∧
      ∀ target, Steps p.tables e below (T'.setTop (mkF m 115 #[s0, s1, s2, s3, s4, s5, s6, s7, s8, s9, s10, s11, s12, .val (.ref o13), s14, .val (.ref w7), s16, s17, s18, s19, s20, s21, s22, s23, s24, s25, s26, s27, s28, s29, s30, s31, s32, s33, s34] [])) target → Steps p.tables e below (T0.setTop (mkF m 96 #[s0, s1, s2, s3, s4, s5, s6, s7, s8, s9, s10, s11, s12, .val (.ref o13), s14, s15, s16, s17, s18, s19, s20, s21, s22, s23, s24, s25, s26, s27, s28, s29, s30, s31, s32, s33, s34] [])) target := by
  obtain ⟨T8, X8, e8, st8⟩ := getS2 X0 hx hZ hown (host := "") (Or.inl (own_w hw 4 rfl)) Via.refl e0 S_INT (g := (mkF m 98 #[s0, s1, s2, s3, s4, s5, s6, s7, s8, s9, s10, s11, s12, .val (.ref o13), s14, s15, s16, s17, s18, s19, s20, s21, s22, s23, s24, s25, s26, s27, s28, s29, s30, s31, s32, s33, s34] [(.ref o13)])) rfl (hb hby at_98)
  obtain ⟨T9, X9, e9, st9⟩ := getS2 X8 hx hZ hown (host := "") (Or.inl (own_w hw 4 rfl)) Via.refl e8 S_INT (g := (mkF m 110 #[s0, s1, s2, s3, s4, s5, s6, s7, s8, s9, s10, s11, s12, .val (.ref o13), s14, s15, s16, s17, s18, s19, s20, s21, s22, s23, s24, s25, s26, s27, s28, s29, s30, s31, s32, s33, s34] [])) rfl (hb hby at_110)
  refine ⟨T9, X9, e9, fun target kt => ?_⟩
  show Steps _ _ _ (T0.setTop (mkF m 96 #[s0, s1, s2, s3, s4, s5, s6, s7, s8, s9, s10, s11, s12, .val (.ref o13), s14, s15, s16, s17, s18, s19, s20, s21, s22, s23, s24, s25, s26, s27, s28, s29, s30, s31, s32, s33, s34] [])) _
  refine XS.aload X0.here hx rfl (hb hby at_96) rfl rfl ?_
  show Steps _ _ _ (T0.setTop (mkF m 98 #[s0, s1, s2, s3, s4, s5, s6, s7, s8, s9, s10, s11, s12, .val (.ref o13), s14, s15, s16, s17, s18, s19, s20, s21, s22, s23, s24, s25, s26, s27, s28, s29, s30, s31, s32, s33, s34] [(.ref o13)])) _
  refine st8 _ ?_
  show Steps _ _ _ (T8.setTop (mkF m 101 #[s0, s1, s2, s3, s4, s5, s6, s7, s8, s9, s10, s11, s12, .val (.ref o13), s14, s15, s16, s17, s18, s19, s20, s21, s22, s23, s24, s25, s26, s27, s28, s29, s30, s31, s32, s33, s34] [(.ref w7), (.ref o13)])) _
  refine Jvm.RoadKit.acmp (g := (mkF m 101 #[s0, s1, s2, s3, s4, s5, s6, s7, s8, s9, s10, s11, s12, .val (.ref o13), s14, s15, s16, s17, s18, s19, s20, s21, s22, s23, s24, s25, s26, s27, s28, s29, s30, s31, s32, s33, s34] [(.ref w7), (.ref o13)])) X8 hx rfl rfl rfl (pc0 := 101) (pc' := 110) (same := false) rfl (hb hby at_101) rfl (decide_eq_false fun q => ha101 (Value.ref.inj q)) (by decide) (by decide) ?_
  show Steps _ _ _ (T8.setTop (mkF m 110 #[s0, s1, s2, s3, s4, s5, s6, s7, s8, s9, s10, s11, s12, .val (.ref o13), s14, s15, s16, s17, s18, s19, s20, s21, s22, s23, s24, s25, s26, s27, s28, s29, s30, s31, s32, s33, s34] [])) _
  refine st9 _ ?_
  show Steps _ _ _ (T9.setTop (mkF m 113 #[s0, s1, s2, s3, s4, s5, s6, s7, s8, s9, s10, s11, s12, .val (.ref o13), s14, s15, s16, s17, s18, s19, s20, s21, s22, s23, s24, s25, s26, s27, s28, s29, s30, s31, s32, s33, s34] [(.ref w7)])) _
  refine XS.astore X9.here hx rfl (hb hby at_113) rfl rfl (l' := #[s0, s1, s2, s3, s4, s5, s6, s7, s8, s9, s10, s11, s12, .val (.ref o13), s14, .val (.ref w7), s16, s17, s18, s19, s20, s21, s22, s23, s24, s25, s26, s27, s28, s29, s30, s31, s32, s33, s34]) (os0_113 hs15) ?_
  exact kt
theorem sg3 (s0 s1 s2 s3 s4 s5 s6 s7 s8 s9 s10 s11 s12 : Slot) (o13 : Addr) (s14 s15 s16 s17 s18 s19 s20 s21 s22 s23 s24 s25 s26 s27 s28 s29 s30 s31 s32 s33 s34 : Slot)
    (X0 : Stand p l e R s m args below meth c T0 locs cells slots) (hx : p.tables.exec = Jvm.exec) (hZ : Z.Warmed39 s.vm) (hw : ∀ d ∈ tables_1, d.before a0 Z = true) (hby : c.code = code) (hml : c.maxLocals = 35) (hown : s.vm.findClass own_s1 = some m.cls) (e0 : T0.heap = h0) (k_INT k_LONG : Addr) (S_INT : Sta Z h0 own_s2 "INT" "Lcom/example/cablegram/cablegram/engine/ElementType;" (.ref k_INT)) (S_LONG : Sta Z h0 own_s2 "LONG" "Lcom/example/cablegram/cablegram/engine/ElementType;" (.ref k_LONG)) (hs15 : One s15) :
    ∃ (T' : State) (y15 : Addr), Stand p l e R s m args below meth c T' locs cells slots ∧ T'.heap = h0 ∧
      ∀ target, Steps p.tables e below (T'.setTop (mkF m 115 #[s0, s1, s2, s3, s4, s5, s6, s7, s8, s9, s10, s11, s12, .val (.ref o13), s14, .val (.ref y15), s16, s17, s18, s19, s20, s21, s22, s23, s24, s25, s26, s27, s28, s29, s30, s31, s32, s33, s34] [])) target → Steps p.tables e below (T0.setTop (mkF m 96 #[s0, s1, s2, s3, s4, s5, s6, s7, s8, s9, s10, s11, s12, .val (.ref o13), s14, s15, s16, s17, s18, s19, s20, s21, s22, s23, s24, s25, s26, s27, s28, s29, s30, s31, s32, s33, s34] [])) target := by
  by_cases h1 : o13 = k_INT
  · obtain ⟨TT1, XX1, ee1, sst1⟩ := tn0_96_115_f s0 s1 s2 s3 s4 s5 s6 s7 s8 s9 s10 s11 s12 o13 s14 s15 s16 s17 s18 s19 s20 s21 s22 s23 s24 s25 s26 s27 s28 s29 s30 s31 s32 s33 s34 _ _ X0 hx hZ hw hby hml hown e0 S_INT S_LONG (by first | exact own_oneU | exact own_oneI | exact own_oneR | assumption) h1
    exact ⟨TT1, k_LONG, XX1, ee1, sst1⟩
  · obtain ⟨TT1, XX1, ee1, sst1⟩ := tn0_96_115_t s0 s1 s2 s3 s4 s5 s6 s7 s8 s9 s10 s11 s12 o13 s14 s15 s16 s17 s18 s19 s20 s21 s22 s23 s24 s25 s26 s27 s28 s29 s30 s31 s32 s33 s34 _ X0 hx hZ hw hby hml hown e0 S_INT (by first | exact own_oneU | exact own_oneI | exact own_oneR | assumption) h1
    exact ⟨TT1, k_INT, XX1, ee1, sst1⟩
theorem os0_130 {z0 : Value} {s1 s2 s3 : Slot} {z4 : Value} {s5 s6 s7 s8 s9 s10 s11 s12 s13 s14 s15 s16 s17 s18 s19 s20 s21 s22 s23 s24 s25 s26 s27 s28 s29 s30 s31 s32 s33 s34 : Slot} {v : Int32} (h : One s16) : storeLocals #[.val z0, s1, s2, s3, .val z4, s5, s6, s7, s8, s9, s10, s11, s12, s13, s14, s15, s16, s17, s18, s19, s20, s21, s22, s23, s24, s25, s26, s27, s28, s29, s30, s31, s32, s33, s34] 16 (.int v) = some #[.val z0, s1, s2, s3, .val z4, s5, s6, s7, s8, s9, s10, s11, s12, s13, s14, s15, .val (.int v), s17, s18, s19, s20, s21, s22, s23, s24, s25, s26, s27, s28, s29, s30, s31, s32, s33, s34] := by
  rcases h with rfl | ⟨w, rfl, hw⟩
  · rfl
  · cases w <;> first | rfl | (simp [Value.category] at hw)
theorem tn0_115_132_t (i0 : Int32) (s1 s2 s3 : Slot) (i4 : Int32) (s5 s6 s7 s8 s9 s10 s11 s12 s13 s14 s15 s16 s17 s18 s19 s20 s21 s22 s23 s24 s25 s26 s27 s28 s29 s30 s31 s32 s33 s34 : Slot)
    (X0 : Stand p l e R s m args below meth c T0 locs cells slots) (hx : p.tables.exec = Jvm.exec) (hZ : Z.Warmed39 s.vm) (hw : ∀ d ∈ tables_1, d.before a0 Z = true) (hby : c.code = code) (hml : c.maxLocals = 35) (hown : s.vm.findClass own_s1 = some m.cls) (e0 : T0.heap = h0) (hs16 : One s16) (hc121 : (i4 &&& (512 : Int32)) = (0 : Int32)) :
    ∃ (T' : State), Stand p l e R s m args below meth c T' locs cells slots ∧ T'.heap = h0 ∧
      ∀ target, Steps p.tables e below (T'.setTop (mkF m 132 #[.val (.int i0), s1, s2, s3, .val (.int i4), s5, s6, s7, s8, s9, s10, s11, s12, s13, s14, s15, .val (.int i0), s17, s18, s19, s20, s21, s22, s23, s24, s25, s26, s27, s28, s29, s30, s31, s32, s33, s34] [])) target → Steps p.tables e below (T0.setTop (mkF m 115 #[.val (.int i0), s1, s2, s3, .val (.int i4), s5, s6, s7, s8, s9, s10, s11, s12, s13, s14, s15, s16, s17, s18, s19, s20, s21, s22, s23, s24, s25, s26, s27, s28, s29, s30, s31, s32, s33, s34] [])) target := by
  refine ⟨T0, X0, e0, fun target kt => ?_⟩
  show Steps _ _ _ (T0.setTop (mkF m 115 #[.val (.int i0), s1, s2, s3, .val (.int i4), s5, s6, s7, s8, s9, s10, s11, s12, s13, s14, s15, s16, s17, s18, s19, s20, s21, s22, s23, s24, s25, s26, s27, s28, s29, s30, s31, s32, s33, s34] [])) _
  refine XS.iload X0.here hx rfl (hb hby at_115) rfl ?_
  show Steps _ _ _ (T0.setTop (mkF m 117 #[.val (.int i0), s1, s2, s3, .val (.int i4), s5, s6, s7, s8, s9, s10, s11, s12, s13, s14, s15, s16, s17, s18, s19, s20, s21, s22, s23, s24, s25, s26, s27, s28, s29, s30, s31, s32, s33, s34] [(.int i4)])) _
  refine XS.sipush X0.here hx rfl (hb hby at_117) ?_
  show Steps _ _ _ (T0.setTop (mkF m 120 #[.val (.int i0), s1, s2, s3, .val (.int i4), s5, s6, s7, s8, s9, s10, s11, s12, s13, s14, s15, s16, s17, s18, s19, s20, s21, s22, s23, s24, s25, s26, s27, s28, s29, s30, s31, s32, s33, s34] [(.int (512 : Int32)), (.int i4)])) _
  refine XS.iand X0.here hx rfl (hb hby at_120) rfl ?_
  show Steps _ _ _ (T0.setTop (mkF m 121 #[.val (.int i0), s1, s2, s3, .val (.int i4), s5, s6, s7, s8, s9, s10, s11, s12, s13, s14, s15, s16, s17, s18, s19, s20, s21, s22, s23, s24, s25, s26, s27, s28, s29, s30, s31, s32, s33, s34] [(.int (i4 &&& (512 : Int32)))])) _
  refine XS.ifYes X0.here hx rfl (pc0 := 121) (pc' := 129) rfl (hb hby at_121) rfl ((if0 _ _).trans (teq hc121).1) (by decide) (by decide) ?_
  show Steps _ _ _ (T0.setTop (mkF m 129 #[.val (.int i0), s1, s2, s3, .val (.int i4), s5, s6, s7, s8, s9, s10, s11, s12, s13, s14, s15, s16, s17, s18, s19, s20, s21, s22, s23, s24, s25, s26, s27, s28, s29, s30, s31, s32, s33, s34] [])) _
  refine XS.iloadN X0.here hx rfl (hb hby at_129) rfl ?_
  show Steps _ _ _ (T0.setTop (mkF m 130 #[.val (.int i0), s1, s2, s3, .val (.int i4), s5, s6, s7, s8, s9, s10, s11, s12, s13, s14, s15, s16, s17, s18, s19, s20, s21, s22, s23, s24, s25, s26, s27, s28, s29, s30, s31, s32, s33, s34] [(.int i0)])) _
  refine XS.istore X0.here hx rfl (hb hby at_130) rfl (l' := #[.val (.int i0), s1, s2, s3, .val (.int i4), s5, s6, s7, s8, s9, s10, s11, s12, s13, s14, s15, .val (.int i0), s17, s18, s19, s20, s21, s22, s23, s24, s25, s26, s27, s28, s29, s30, s31, s32, s33, s34]) (os0_130 hs16) ?_
  exact kt
theorem os0_130_f {s0 s1 s2 s3 : Slot} {z4 : Value} {s5 s6 s7 s8 s9 s10 s11 s12 s13 s14 s15 s16 s17 s18 s19 s20 s21 s22 s23 s24 s25 s26 s27 s28 s29 s30 s31 s32 s33 s34 : Slot} {v : Int32} (h : One s16) : storeLocals #[s0, s1, s2, s3, .val z4, s5, s6, s7, s8, s9, s10, s11, s12, s13, s14, s15, s16, s17, s18, s19, s20, s21, s22, s23, s24, s25, s26, s27, s28, s29, s30, s31, s32, s33, s34] 16 (.int v) = some #[s0, s1, s2, s3, .val z4, s5, s6, s7, s8, s9, s10, s11, s12, s13, s14, s15, .val (.int v), s17, s18, s19, s20, s21, s22, s23, s24, s25, s26, s27, s28, s29, s30, s31, s32, s33, s34] := by
  rcases h with rfl | ⟨w, rfl, hw⟩
  · rfl
  · cases w <;> first | rfl | (simp [Value.category] at hw)
theorem tn0_115_132_f (s0 s1 s2 s3 : Slot) (i4 : Int32) (s5 s6 s7 s8 s9 s10 s11 s12 s13 s14 s15 s16 s17 s18 s19 s20 s21 s22 s23 s24 s25 s26 s27 s28 s29 s30 s31 s32 s33 s34 : Slot)
    (X0 : Stand p l e R s m args below meth c T0 locs cells slots) (hx : p.tables.exec = Jvm.exec) (hZ : Z.Warmed39 s.vm) (hw : ∀ d ∈ tables_1, d.before a0 Z = true) (hby : c.code = code) (hml : c.maxLocals = 35) (hown : s.vm.findClass own_s1 = some m.cls) (e0 : T0.heap = h0) (hs16 : One s16) (hc121 : ¬ ((i4 &&& (512 : Int32)) = (0 : Int32))) :
    ∃ (T' : State), Stand p l e R s m args below meth c T' locs cells slots ∧ T'.heap = h0 ∧
      ∀ target, Steps p.tables e below (T'.setTop (mkF m 132 #[s0, s1, s2, s3, .val (.int i4), s5, s6, s7, s8, s9, s10, s11, s12, s13, s14, s15, .val (.int (-2 : Int32)), s17, s18, s19, s20, s21, s22, s23, s24, s25, s26, s27, s28, s29, s30, s31, s32, s33, s34] [])) target → Steps p.tables e below (T0.setTop (mkF m 115 #[s0, s1, s2, s3, .val (.int i4), s5, s6, s7, s8, s9, s10, s11, s12, s13, s14, s15, s16, s17, s18, s19, s20, s21, s22, s23, s24, s25, s26, s27, s28, s29, s30, s31, s32, s33, s34] [])) target := by
  refine ⟨T0, X0, e0, fun target kt => ?_⟩
  show Steps _ _ _ (T0.setTop (mkF m 115 #[s0, s1, s2, s3, .val (.int i4), s5, s6, s7, s8, s9, s10, s11, s12, s13, s14, s15, s16, s17, s18, s19, s20, s21, s22, s23, s24, s25, s26, s27, s28, s29, s30, s31, s32, s33, s34] [])) _
  refine XS.iload X0.here hx rfl (hb hby at_115) rfl ?_
  show Steps _ _ _ (T0.setTop (mkF m 117 #[s0, s1, s2, s3, .val (.int i4), s5, s6, s7, s8, s9, s10, s11, s12, s13, s14, s15, s16, s17, s18, s19, s20, s21, s22, s23, s24, s25, s26, s27, s28, s29, s30, s31, s32, s33, s34] [(.int i4)])) _
  refine XS.sipush X0.here hx rfl (hb hby at_117) ?_
  show Steps _ _ _ (T0.setTop (mkF m 120 #[s0, s1, s2, s3, .val (.int i4), s5, s6, s7, s8, s9, s10, s11, s12, s13, s14, s15, s16, s17, s18, s19, s20, s21, s22, s23, s24, s25, s26, s27, s28, s29, s30, s31, s32, s33, s34] [(.int (512 : Int32)), (.int i4)])) _
  refine XS.iand X0.here hx rfl (hb hby at_120) rfl ?_
  show Steps _ _ _ (T0.setTop (mkF m 121 #[s0, s1, s2, s3, .val (.int i4), s5, s6, s7, s8, s9, s10, s11, s12, s13, s14, s15, s16, s17, s18, s19, s20, s21, s22, s23, s24, s25, s26, s27, s28, s29, s30, s31, s32, s33, s34] [(.int (i4 &&& (512 : Int32)))])) _
  refine XS.ifNo X0.here hx rfl (hb hby at_121) rfl ((if0 _ _).trans (feq hc121).1) ?_
  show Steps _ _ _ (T0.setTop (mkF m 124 #[s0, s1, s2, s3, .val (.int i4), s5, s6, s7, s8, s9, s10, s11, s12, s13, s14, s15, s16, s17, s18, s19, s20, s21, s22, s23, s24, s25, s26, s27, s28, s29, s30, s31, s32, s33, s34] [])) _
  refine XS.bipush X0.here hx rfl (hb hby at_124) ?_
  show Steps _ _ _ (T0.setTop (mkF m 126 #[s0, s1, s2, s3, .val (.int i4), s5, s6, s7, s8, s9, s10, s11, s12, s13, s14, s15, s16, s17, s18, s19, s20, s21, s22, s23, s24, s25, s26, s27, s28, s29, s30, s31, s32, s33, s34] [(.int (-2 : Int32))])) _
  refine XS.goto X0.here hx rfl (pc0 := 126) (pc' := 130) rfl (hb hby at_126) (by decide) (by decide) ?_
  show Steps _ _ _ (T0.setTop (mkF m 130 #[s0, s1, s2, s3, .val (.int i4), s5, s6, s7, s8, s9, s10, s11, s12, s13, s14, s15, s16, s17, s18, s19, s20, s21, s22, s23, s24, s25, s26, s27, s28, s29, s30, s31, s32, s33, s34] [(.int (-2 : Int32))])) _
  refine XS.istore X0.here hx rfl (hb hby at_130) rfl (l' := #[s0, s1, s2, s3, .val (.int i4), s5, s6, s7, s8, s9, s10, s11, s12, s13, s14, s15, .val (.int (-2 : Int32)), s17, s18, s19, s20, s21, s22, s23, s24, s25, s26, s27, s28, s29, s30, s31, s32, s33, s34]) (os0_130_f hs16) ?_
  exact kt
theorem sg4 (i0 : Int32) (s1 s2 s3 : Slot) (i4 : Int32) (s5 s6 s7 s8 s9 s10 s11 s12 s13 s14 s15 s16 s17 s18 s19 s20 s21 s22 s23 s24 s25 s26 s27 s28 s29 s30 s31 s32 s33 s34 : Slot)
    (X0 : Stand p l e R s m args below meth c T0 locs cells slots) (hx : p.tables.exec = Jvm.exec) (hZ : Z.Warmed39 s.vm) (hw : ∀ d ∈ tables_1, d.before a0 Z = true) (hby : c.code = code) (hml : c.maxLocals = 35) (hown : s.vm.findClass own_s1 = some m.cls) (e0 : T0.heap = h0)  (hs16 : One s16) :
    ∃ (T' : State) (y16 : Int32), Stand p l e R s m args below meth c T' locs cells slots ∧ T'.heap = h0 ∧
      ∀ target, Steps p.tables e below (T'.setTop (mkF m 132 #[.val (.int i0), s1, s2, s3, .val (.int i4), s5, s6, s7, s8, s9, s10, s11, s12, s13, s14, s15, .val (.int y16), s17, s18, s19, s20, s21, s22, s23, s24, s25, s26, s27, s28, s29, s30, s31, s32, s33, s34] [])) target → Steps p.tables e below (T0.setTop (mkF m 115 #[.val (.int i0), s1, s2, s3, .val (.int i4), s5, s6, s7, s8, s9, s10, s11, s12, s13, s14, s15, s16, s17, s18, s19, s20, s21, s22, s23, s24, s25, s26, s27, s28, s29, s30, s31, s32, s33, s34] [])) target := by
  by_cases h1 : (i4 &&& (512 : Int32)) = (0 : Int32)
  · obtain ⟨TT1, XX1, ee1, sst1⟩ := tn0_115_132_t i0 s1 s2 s3 i4 s5 s6 s7 s8 s9 s10 s11 s12 s13 s14 s15 s16 s17 s18 s19 s20 s21 s22 s23 s24 s25 s26 s27 s28 s29 s30 s31 s32 s33 s34 X0 hx hZ hw hby hml hown e0 (by first | exact own_oneU | exact own_oneI | exact own_oneR | assumption) h1
    exact ⟨TT1, i0, XX1, ee1, sst1⟩
  · obtain ⟨TT1, XX1, ee1, sst1⟩ := tn0_115_132_f (.val (.int i0)) s1 s2 s3 i4 s5 s6 s7 s8 s9 s10 s11 s12 s13 s14 s15 s16 s17 s18 s19 s20 s21 s22 s23 s24 s25 s26 s27 s28 s29 s30 s31 s32 s33 s34 X0 hx hZ hw hby hml hown e0 (by first | exact own_oneU | exact own_oneI | exact own_oneR | assumption) h1
    exact ⟨TT1, (-2 : Int32), XX1, ee1, sst1⟩
theorem os0_139 {s0 s1 s2 s3 : Slot} {z4 : Value} {s5 s6 s7 s8 s9 s10 s11 s12 s13 s14 s15 s16 s17 s18 s19 s20 s21 s22 s23 s24 s25 s26 s27 s28 s29 s30 s31 s32 s33 s34 : Slot} {v : Int32} (h : One s17) : storeLocals #[s0, s1, s2, s3, .val z4, s5, s6, s7, s8, s9, s10, s11, s12, s13, s14, s15, s16, s17, s18, s19, s20, s21, s22, s23, s24, s25, s26, s27, s28, s29, s30, s31, s32, s33, s34] 17 (.int v) = some #[s0, s1, s2, s3, .val z4, s5, s6, s7, s8, s9, s10, s11, s12, s13, s14, s15, s16, .val (.int v), s18, s19, s20, s21, s22, s23, s24, s25, s26, s27, s28, s29, s30, s31, s32, s33, s34] := by
  rcases h with rfl | ⟨w, rfl, hw⟩
  · rfl
  · cases w <;> first | rfl | (simp [Value.category] at hw)
theorem os0_163 {s0 s1 s2 s3 : Slot} {z4 : Value} {s5 s6 s7 s8 s9 s10 s11 s12 s13 s14 s15 s16 : Slot} {z17 : Value} {s18 s19 s20 s21 s22 s23 s24 s25 s26 s27 s28 s29 s30 s31 s32 s33 s34 : Slot} {v : Int32} (h : One s18) : storeLocals #[s0, s1, s2, s3, .val z4, s5, s6, s7, s8, s9, s10, s11, s12, s13, s14, s15, s16, .val z17, s18, s19, s20, s21, s22, s23, s24, s25, s26, s27, s28, s29, s30, s31, s32, s33, s34] 18 (.int v) = some #[s0, s1, s2, s3, .val z4, s5, s6, s7, s8, s9, s10, s11, s12, s13, s14, s15, s16, .val z17, .val (.int v), s19, s20, s21, s22, s23, s24, s25, s26, s27, s28, s29, s30, s31, s32, s33, s34] := by
  rcases h with rfl | ⟨w, rfl, hw⟩
  · rfl
  · cases w <;> first | rfl | (simp [Value.category] at hw)
theorem tn0_132_165_f (s0 s1 s2 s3 : Slot) (i4 : Int32) (s5 s6 s7 s8 s9 s10 s11 s12 s13 s14 s15 s16 s17 s18 s19 s20 s21 s22 s23 s24 s25 s26 s27 s28 s29 s30 s31 s32 s33 s34 : Slot)
    (X0 : Stand p l e R s m args below meth c T0 locs cells slots) (hx : p.tables.exec = Jvm.exec) (hZ : Z.Warmed39 s.vm) (hw : ∀ d ∈ tables_1, d.before a0 Z = true) (hby : c.code = code) (hml : c.maxLocals = 35) (hown : s.vm.findClass own_s1 = some m.cls) (e0 : T0.heap = h0) (hs17 : One s17) (hs18 : One s18) (hc144 : (((i4.toUInt32 >>> ((10 : Int32) &&& 31).toUInt32).toInt32) &&& (3 : Int32)) = (1 : Int32)) :
    ∃ (T' : State), Stand p l e R s m args below meth c T' locs cells slots ∧ T'.heap = h0 ∧
      ∀ target, Steps p.tables e below (T'.setTop (mkF m 165 #[s0, s1, s2, s3, .val (.int i4), s5, s6, s7, s8, s9, s10, s11, s12, s13, s14, s15, s16, .val (.int (((i4.toUInt32 >>> ((10 : Int32) &&& 31).toUInt32).toInt32) &&& (3 : Int32))), .val (.int (-1 : Int32)), s19, s20, s21, s22, s23, s24, s25, s26, s27, s28, s29, s30, s31, s32, s33, s34] [])) target → Steps p.tables e below (T0.setTop (mkF m 132 #[s0, s1, s2, s3, .val (.int i4), s5, s6, s7, s8, s9, s10, s11, s12, s13, s14, s15, s16, s17, s18, s19, s20, s21, s22, s23, s24, s25, s26, s27, s28, s29, s30, s31, s32, s33, s34] [])) target := by
  refine ⟨T0, X0, e0, fun target kt => ?_⟩
  show Steps _ _ _ (T0.setTop (mkF m 132 #[s0, s1, s2, s3, .val (.int i4), s5, s6, s7, s8, s9, s10, s11, s12, s13, s14, s15, s16, s17, s18, s19, s20, s21, s22, s23, s24, s25, s26, s27, s28, s29, s30, s31, s32, s33, s34] [])) _
  refine XS.iload X0.here hx rfl (hb hby at_132) rfl ?_
  show Steps _ _ _ (T0.setTop (mkF m 134 #[s0, s1, s2, s3, .val (.int i4), s5, s6, s7, s8, s9, s10, s11, s12, s13, s14, s15, s16, s17, s18, s19, s20, s21, s22, s23, s24, s25, s26, s27, s28, s29, s30, s31, s32, s33, s34] [(.int i4)])) _
  refine XS.bipush X0.here hx rfl (hb hby at_134) ?_
  show Steps _ _ _ (T0.setTop (mkF m 136 #[s0, s1, s2, s3, .val (.int i4), s5, s6, s7, s8, s9, s10, s11, s12, s13, s14, s15, s16, s17, s18, s19, s20, s21, s22, s23, s24, s25, s26, s27, s28, s29, s30, s31, s32, s33, s34] [(.int (10 : Int32)), (.int i4)])) _
  refine XS.iushr X0.here hx rfl (hb hby at_136) rfl ?_
  show Steps _ _ _ (T0.setTop (mkF m 137 #[s0, s1, s2, s3, .val (.int i4), s5, s6, s7, s8, s9, s10, s11, s12, s13, s14, s15, s16, s17, s18, s19, s20, s21, s22, s23, s24, s25, s26, s27, s28, s29, s30, s31, s32, s33, s34] [(.int ((i4.toUInt32 >>> ((10 : Int32) &&& 31).toUInt32).toInt32))])) _
  refine XS.iconst X0.here hx rfl (hb hby at_137) ?_
  show Steps _ _ _ (T0.setTop (mkF m 138 #[s0, s1, s2, s3, .val (.int i4), s5, s6, s7, s8, s9, s10, s11, s12, s13, s14, s15, s16, s17, s18, s19, s20, s21, s22, s23, s24, s25, s26, s27, s28, s29, s30, s31, s32, s33, s34] [(.int (3 : Int32)), (.int ((i4.toUInt32 >>> ((10 : Int32) &&& 31).toUInt32).toInt32))])) _
  refine XS.iand X0.here hx rfl (hb hby at_138) rfl ?_
  show Steps _ _ _ (T0.setTop (mkF m 139 #[s0, s1, s2, s3, .val (.int i4), s5, s6, s7, s8, s9, s10, s11, s12, s13, s14, s15, s16, s17, s18, s19, s20, s21, s22, s23, s24, s25, s26, s27, s28, s29, s30, s31, s32, s33, s34] [(.int (((i4.toUInt32 >>> ((10 : Int32) &&& 31).toUInt32).toInt32) &&& (3 : Int32)))])) _
  refine XS.istore X0.here hx rfl (hb hby at_139) rfl (l' := #[s0, s1, s2, s3, .val (.int i4), s5, s6, s7, s8, s9, s10, s11, s12, s13, s14, s15, s16, .val (.int (((i4.toUInt32 >>> ((10 : Int32) &&& 31).toUInt32).toInt32) &&& (3 : Int32))), s18, s19, s20, s21, s22, s23, s24, s25, s26, s27, s28, s29, s30, s31, s32, s33, s34]) (os0_139 hs17) ?_
  show Steps _ _ _ (T0.setTop (mkF m 141 #[s0, s1, s2, s3, .val (.int i4), s5, s6, s7, s8, s9, s10, s11, s12, s13, s14, s15, s16, .val (.int (((i4.toUInt32 >>> ((10 : Int32) &&& 31).toUInt32).toInt32) &&& (3 : Int32))), s18, s19, s20, s21, s22, s23, s24, s25, s26, s27, s28, s29, s30, s31, s32, s33, s34] [])) _
  refine XS.iload X0.here hx rfl (hb hby at_141) rfl ?_
  show Steps _ _ _ (T0.setTop (mkF m 143 #[s0, s1, s2, s3, .val (.int i4), s5, s6, s7, s8, s9, s10, s11, s12, s13, s14, s15, s16, .val (.int (((i4.toUInt32 >>> ((10 : Int32) &&& 31).toUInt32).toInt32) &&& (3 : Int32))), s18, s19, s20, s21, s22, s23, s24, s25, s26, s27, s28, s29, s30, s31, s32, s33, s34] [(.int (((i4.toUInt32 >>> ((10 : Int32) &&& 31).toUInt32).toInt32) &&& (3 : Int32)))])) _
  refine XS.iconst X0.here hx rfl (hb hby at_143) ?_
  show Steps _ _ _ (T0.setTop (mkF m 144 #[s0, s1, s2, s3, .val (.int i4), s5, s6, s7, s8, s9, s10, s11, s12, s13, s14, s15, s16, .val (.int (((i4.toUInt32 >>> ((10 : Int32) &&& 31).toUInt32).toInt32) &&& (3 : Int32))), s18, s19, s20, s21, s22, s23, s24, s25, s26, s27, s28, s29, s30, s31, s32, s33, s34] [(.int (1 : Int32)), (.int (((i4.toUInt32 >>> ((10 : Int32) &&& 31).toUInt32).toInt32) &&& (3 : Int32)))])) _
  refine XS.icmpNo X0.here hx rfl (hb hby at_144) rfl (teq hc144).2 ?_
  show Steps _ _ _ (T0.setTop (mkF m 147 #[s0, s1, s2, s3, .val (.int i4), s5, s6, s7, s8, s9, s10, s11, s12, s13, s14, s15, s16, .val (.int (((i4.toUInt32 >>> ((10 : Int32) &&& 31).toUInt32).toInt32) &&& (3 : Int32))), s18, s19, s20, s21, s22, s23, s24, s25, s26, s27, s28, s29, s30, s31, s32, s33, s34] [])) _
  refine XS.iconst X0.here hx rfl (hb hby at_147) ?_
  show Steps _ _ _ (T0.setTop (mkF m 148 #[s0, s1, s2, s3, .val (.int i4), s5, s6, s7, s8, s9, s10, s11, s12, s13, s14, s15, s16, .val (.int (((i4.toUInt32 >>> ((10 : Int32) &&& 31).toUInt32).toInt32) &&& (3 : Int32))), s18, s19, s20, s21, s22, s23, s24, s25, s26, s27, s28, s29, s30, s31, s32, s33, s34] [(.int (-1 : Int32))])) _
  refine XS.goto X0.here hx rfl (pc0 := 148) (pc' := 163) rfl (hb hby at_148) (by decide) (by decide) ?_
  show Steps _ _ _ (T0.setTop (mkF m 163 #[s0, s1, s2, s3, .val (.int i4), s5, s6, s7, s8, s9, s10, s11, s12, s13, s14, s15, s16, .val (.int (((i4.toUInt32 >>> ((10 : Int32) &&& 31).toUInt32).toInt32) &&& (3 : Int32))), s18, s19, s20, s21, s22, s23, s24, s25, s26, s27, s28, s29, s30, s31, s32, s33, s34] [(.int (-1 : Int32))])) _
  refine XS.istore X0.here hx rfl (hb hby at_163) rfl (l' := #[s0, s1, s2, s3, .val (.int i4), s5, s6, s7, s8, s9, s10, s11, s12, s13, s14, s15, s16, .val (.int (((i4.toUInt32 >>> ((10 : Int32) &&& 31).toUInt32).toInt32) &&& (3 : Int32))), .val (.int (-1 : Int32)), s19, s20, s21, s22, s23, s24, s25, s26, s27, s28, s29, s30, s31, s32, s33, s34]) (os0_163 hs18) ?_
  exact kt
theorem tn0_132_165_tf (s0 s1 s2 s3 : Slot) (i4 : Int32) (s5 s6 s7 s8 s9 s10 s11 s12 s13 s14 s15 s16 s17 s18 s19 s20 s21 s22 s23 s24 s25 s26 s27 s28 s29 s30 s31 s32 s33 s34 : Slot)
    (X0 : Stand p l e R s m args below meth c T0 locs cells slots) (hx : p.tables.exec = Jvm.exec) (hZ : Z.Warmed39 s.vm) (hw : ∀ d ∈ tables_1, d.before a0 Z = true) (hby : c.code = code) (hml : c.maxLocals = 35) (hown : s.vm.findClass own_s1 = some m.cls) (e0 : T0.heap = h0) (hs17 : One s17) (hs18 : One s18) (hc144 : ¬ ((((i4.toUInt32 >>> ((10 : Int32) &&& 31).toUInt32).toInt32) &&& (3 : Int32)) = (1 : Int32))) (hc154 : (((i4.toUInt32 >>> ((10 : Int32) &&& 31).toUInt32).toInt32) &&& (3 : Int32)) = (2 : Int32)) :
    ∃ (T' : State), Stand p l e R s m args below meth c T' locs cells slots ∧ T'.heap = h0 ∧
      ∀ target, Steps p.tables e below (T'.setTop (mkF m 165 #[s0, s1, s2, s3, .val (.int i4), s5, s6, s7, s8, s9, s10, s11, s12, s13, s14, s15, s16, .val (.int (((i4.toUInt32 >>> ((10 : Int32) &&& 31).toUInt32).toInt32) &&& (3 : Int32))), .val (.int (-2147483648 : Int32)), s19, s20, s21, s22, s23, s24, s25, s26, s27, s28, s29, s30, s31, s32, s33, s34] [])) target → Steps p.tables e below (T0.setTop (mkF m 132 #[s0, s1, s2, s3, .val (.int i4), s5, s6, s7, s8, s9, s10, s11, s12, s13, s14, s15, s16, s17, s18, s19, s20, s21, s22, s23, s24, s25, s26, s27, s28, s29, s30, s31, s32, s33, s34] [])) target := by
  refine ⟨T0, X0, e0, fun target kt => ?_⟩
  show Steps _ _ _ (T0.setTop (mkF m 132 #[s0, s1, s2, s3, .val (.int i4), s5, s6, s7, s8, s9, s10, s11, s12, s13, s14, s15, s16, s17, s18, s19, s20, s21, s22, s23, s24, s25, s26, s27, s28, s29, s30, s31, s32, s33, s34] [])) _
  refine XS.iload X0.here hx rfl (hb hby at_132) rfl ?_
  show Steps _ _ _ (T0.setTop (mkF m 134 #[s0, s1, s2, s3, .val (.int i4), s5, s6, s7, s8, s9, s10, s11, s12, s13, s14, s15, s16, s17, s18, s19, s20, s21, s22, s23, s24, s25, s26, s27, s28, s29, s30, s31, s32, s33, s34] [(.int i4)])) _
  refine XS.bipush X0.here hx rfl (hb hby at_134) ?_
  show Steps _ _ _ (T0.setTop (mkF m 136 #[s0, s1, s2, s3, .val (.int i4), s5, s6, s7, s8, s9, s10, s11, s12, s13, s14, s15, s16, s17, s18, s19, s20, s21, s22, s23, s24, s25, s26, s27, s28, s29, s30, s31, s32, s33, s34] [(.int (10 : Int32)), (.int i4)])) _
  refine XS.iushr X0.here hx rfl (hb hby at_136) rfl ?_
  show Steps _ _ _ (T0.setTop (mkF m 137 #[s0, s1, s2, s3, .val (.int i4), s5, s6, s7, s8, s9, s10, s11, s12, s13, s14, s15, s16, s17, s18, s19, s20, s21, s22, s23, s24, s25, s26, s27, s28, s29, s30, s31, s32, s33, s34] [(.int ((i4.toUInt32 >>> ((10 : Int32) &&& 31).toUInt32).toInt32))])) _
  refine XS.iconst X0.here hx rfl (hb hby at_137) ?_
  show Steps _ _ _ (T0.setTop (mkF m 138 #[s0, s1, s2, s3, .val (.int i4), s5, s6, s7, s8, s9, s10, s11, s12, s13, s14, s15, s16, s17, s18, s19, s20, s21, s22, s23, s24, s25, s26, s27, s28, s29, s30, s31, s32, s33, s34] [(.int (3 : Int32)), (.int ((i4.toUInt32 >>> ((10 : Int32) &&& 31).toUInt32).toInt32))])) _
  refine XS.iand X0.here hx rfl (hb hby at_138) rfl ?_
  show Steps _ _ _ (T0.setTop (mkF m 139 #[s0, s1, s2, s3, .val (.int i4), s5, s6, s7, s8, s9, s10, s11, s12, s13, s14, s15, s16, s17, s18, s19, s20, s21, s22, s23, s24, s25, s26, s27, s28, s29, s30, s31, s32, s33, s34] [(.int (((i4.toUInt32 >>> ((10 : Int32) &&& 31).toUInt32).toInt32) &&& (3 : Int32)))])) _
  refine XS.istore X0.here hx rfl (hb hby at_139) rfl (l' := #[s0, s1, s2, s3, .val (.int i4), s5, s6, s7, s8, s9, s10, s11, s12, s13, s14, s15, s16, .val (.int (((i4.toUInt32 >>> ((10 : Int32) &&& 31).toUInt32).toInt32) &&& (3 : Int32))), s18, s19, s20, s21, s22, s23, s24, s25, s26, s27, s28, s29, s30, s31, s32, s33, s34]) (os0_139 hs17) ?_
  show Steps _ _ _ (T0.setTop (mkF m 141 #[s0, s1, s2, s3, .val (.int i4), s5, s6, s7, s8, s9, s10, s11, s12, s13, s14, s15, s16, .val (.int (((i4.toUInt32 >>> ((10 : Int32) &&& 31).toUInt32).toInt32) &&& (3 : Int32))), s18, s19, s20, s21, s22, s23, s24, s25, s26, s27, s28, s29, s30, s31, s32, s33, s34] [])) _
  refine XS.iload X0.here hx rfl (hb hby at_141) rfl ?_
  show Steps _ _ _ (T0.setTop (mkF m 143 #[s0, s1, s2, s3, .val (.int i4), s5, s6, s7, s8, s9, s10, s11, s12, s13, s14, s15, s16, .val (.int (((i4.toUInt32 >>> ((10 : Int32) &&& 31).toUInt32).toInt32) &&& (3 : Int32))), s18, s19, s20, s21, s22, s23, s24, s25, s26, s27, s28, s29, s30, s31, s32, s33, s34] [(.int (((i4.toUInt32 >>> ((10 : Int32) &&& 31).toUInt32).toInt32) &&& (3 : Int32)))])) _
  refine XS.iconst X0.here hx rfl (hb hby at_143) ?_
  show Steps _ _ _ (T0.setTop (mkF m 144 #[s0, s1, s2, s3, .val (.int i4), s5, s6, s7, s8, s9, s10, s11, s12, s13, s14, s15, s16, .val (.int (((i4.toUInt32 >>> ((10 : Int32) &&& 31).toUInt32).toInt32) &&& (3 : Int32))), s18, s19, s20, s21, s22, s23, s24, s25, s26, s27, s28, s29, s30, s31, s32, s33, s34] [(.int (1 : Int32)), (.int (((i4.toUInt32 >>> ((10 : Int32) &&& 31).toUInt32).toInt32) &&& (3 : Int32)))])) _
  refine XS.icmpYes X0.here hx rfl (pc0 := 144) (pc' := 151) rfl (hb hby at_144) rfl (feq hc144).2 (by decide) (by decide) ?_
  show Steps _ _ _ (T0.setTop (mkF m 151 #[s0, s1, s2, s3, .val (.int i4), s5, s6, s7, s8, s9, s10, s11, s12, s13, s14, s15, s16, .val (.int (((i4.toUInt32 >>> ((10 : Int32) &&& 31).toUInt32).toInt32) &&& (3 : Int32))), s18, s19, s20, s21, s22, s23, s24, s25, s26, s27, s28, s29, s30, s31, s32, s33, s34] [])) _
  refine XS.iload X0.here hx rfl (hb hby at_151) rfl ?_
  show Steps _ _ _ (T0.setTop (mkF m 153 #[s0, s1, s2, s3, .val (.int i4), s5, s6, s7, s8, s9, s10, s11, s12, s13, s14, s15, s16, .val (.int (((i4.toUInt32 >>> ((10 : Int32) &&& 31).toUInt32).toInt32) &&& (3 : Int32))), s18, s19, s20, s21, s22, s23, s24, s25, s26, s27, s28, s29, s30, s31, s32, s33, s34] [(.int (((i4.toUInt32 >>> ((10 : Int32) &&& 31).toUInt32).toInt32) &&& (3 : Int32)))])) _
  refine XS.iconst X0.here hx rfl (hb hby at_153) ?_
  show Steps _ _ _ (T0.setTop (mkF m 154 #[s0, s1, s2, s3, .val (.int i4), s5, s6, s7, s8, s9, s10, s11, s12, s13, s14, s15, s16, .val (.int (((i4.toUInt32 >>> ((10 : Int32) &&& 31).toUInt32).toInt32) &&& (3 : Int32))), s18, s19, s20, s21, s22, s23, s24, s25, s26, s27, s28, s29, s30, s31, s32, s33, s34] [(.int (2 : Int32)), (.int (((i4.toUInt32 >>> ((10 : Int32) &&& 31).toUInt32).toInt32) &&& (3 : Int32)))])) _
  refine XS.icmpNo X0.here hx rfl (hb hby at_154) rfl (teq hc154).2 ?_
  show Steps _ _ _ (T0.setTop (mkF m 157 #[s0, s1, s2, s3, .val (.int i4), s5, s6, s7, s8, s9, s10, s11, s12, s13, s14, s15, s16, .val (.int (((i4.toUInt32 >>> ((10 : Int32) &&& 31).toUInt32).toInt32) &&& (3 : Int32))), s18, s19, s20, s21, s22, s23, s24, s25, s26, s27, s28, s29, s30, s31, s32, s33, s34] [])) _
  refine X0.ldcInt hx hown (mvT hZ (own_w hw 198 rfl)) (g := (mkF m 157 #[s0, s1, s2, s3, .val (.int i4), s5, s6, s7, s8, s9, s10, s11, s12, s13, s14, s15, s16, .val (.int (((i4.toUInt32 >>> ((10 : Int32) &&& 31).toUInt32).toInt32) &&& (3 : Int32))), s18, s19, s20, s21, s22, s23, s24, s25, s26, s27, s28, s29, s30, s31, s32, s33, s34] [])) rfl (hb hby at_157) _ ?_
  show Steps _ _ _ (T0.setTop (mkF m 159 #[s0, s1, s2, s3, .val (.int i4), s5, s6, s7, s8, s9, s10, s11, s12, s13, s14, s15, s16, .val (.int (((i4.toUInt32 >>> ((10 : Int32) &&& 31).toUInt32).toInt32) &&& (3 : Int32))), s18, s19, s20, s21, s22, s23, s24, s25, s26, s27, s28, s29, s30, s31, s32, s33, s34] [(.int (-2147483648 : Int32))])) _
  refine XS.goto X0.here hx rfl (pc0 := 159) (pc' := 163) rfl (hb hby at_159) (by decide) (by decide) ?_
  show Steps _ _ _ (T0.setTop (mkF m 163 #[s0, s1, s2, s3, .val (.int i4), s5, s6, s7, s8, s9, s10, s11, s12, s13, s14, s15, s16, .val (.int (((i4.toUInt32 >>> ((10 : Int32) &&& 31).toUInt32).toInt32) &&& (3 : Int32))), s18, s19, s20, s21, s22, s23, s24, s25, s26, s27, s28, s29, s30, s31, s32, s33, s34] [(.int (-2147483648 : Int32))])) _
  refine XS.istore X0.here hx rfl (hb hby at_163) rfl (l' := #[s0, s1, s2, s3, .val (.int i4), s5, s6, s7, s8, s9, s10, s11, s12, s13, s14, s15, s16, .val (.int (((i4.toUInt32 >>> ((10 : Int32) &&& 31).toUInt32).toInt32) &&& (3 : Int32))), .val (.int (-2147483648 : Int32)), s19, s20, s21, s22, s23, s24, s25, s26, s27, s28, s29, s30, s31, s32, s33, s34]) (os0_163 hs18) ?_
  exact kt
theorem os0_139_tt {s0 s1 s2 : Slot} {z3 z4 : Value} {s5 s6 s7 s8 s9 s10 s11 s12 s13 s14 s15 s16 s17 s18 s19 s20 s21 s22 s23 s24 s25 s26 s27 s28 s29 s30 s31 s32 s33 s34 : Slot} {v : Int32} (h : One s17) : storeLocals #[s0, s1, s2, .val z3, .val z4, s5, s6, s7, s8, s9, s10, s11, s12, s13, s14, s15, s16, s17, s18, s19, s20, s21, s22, s23, s24, s25, s26, s27, s28, s29, s30, s31, s32, s33, s34] 17 (.int v) = some #[s0, s1, s2, .val z3, .val z4, s5, s6, s7, s8, s9, s10, s11, s12, s13, s14, s15, s16, .val (.int v), s18, s19, s20, s21, s22, s23, s24, s25, s26, s27, s28, s29, s30, s31, s32, s33, s34] := by
  rcases h with rfl | ⟨w, rfl, hw⟩
  · rfl
  · cases w <;> first | rfl | (simp [Value.category] at hw)
theorem os0_163_tt {s0 s1 s2 : Slot} {z3 z4 : Value} {s5 s6 s7 s8 s9 s10 s11 s12 s13 s14 s15 s16 : Slot} {z17 : Value} {s18 s19 s20 s21 s22 s23 s24 s25 s26 s27 s28 s29 s30 s31 s32 s33 s34 : Slot} {v : Int32} (h : One s18) : storeLocals #[s0, s1, s2, .val z3, .val z4, s5, s6, s7, s8, s9, s10, s11, s12, s13, s14, s15, s16, .val z17, s18, s19, s20, s21, s22, s23, s24, s25, s26, s27, s28, s29, s30, s31, s32, s33, s34] 18 (.int v) = some #[s0, s1, s2, .val z3, .val z4, s5, s6, s7, s8, s9, s10, s11, s12, s13, s14, s15, s16, .val z17, .val (.int v), s19, s20, s21, s22, s23, s24, s25, s26, s27, s28, s29, s30, s31, s32, s33, s34] := by
  rcases h with rfl | ⟨w, rfl, hw⟩
  · rfl
  · cases w <;> first | rfl | (simp [Value.category] at hw)
theorem tn0_132_165_tt (s0 s1 s2 : Slot) (i3 i4 : Int32) (s5 s6 s7 s8 s9 s10 s11 s12 s13 s14 s15 s16 s17 s18 s19 s20 s21 s22 s23 s24 s25 s26 s27 s28 s29 s30 s31 s32 s33 s34 : Slot)
    (X0 : Stand p l e R s m args below meth c T0 locs cells slots) (hx : p.tables.exec = Jvm.exec) (hZ : Z.Warmed39 s.vm) (hw : ∀ d ∈ tables_1, d.before a0 Z = true) (hby : c.code = code) (hml : c.maxLocals = 35) (hown : s.vm.findClass own_s1 = some m.cls) (e0 : T0.heap = h0) (hs17 : One s17) (hs18 : One s18) (hc144 : ¬ ((((i4.toUInt32 >>> ((10 : Int32) &&& 31).toUInt32).toInt32) &&& (3 : Int32)) = (1 : Int32))) (hc154 : ¬ ((((i4.toUInt32 >>> ((10 : Int32) &&& 31).toUInt32).toInt32) &&& (3 : Int32)) = (2 : Int32))) :
    ∃ (T' : State), Stand p l e R s m args below meth c T' locs cells slots ∧ T'.heap = h0 ∧
      ∀ target, Steps p.tables e below (T'.setTop (mkF m 165 #[s0, s1, s2, .val (.int i3), .val (.int i4), s5, s6, s7, s8, s9, s10, s11, s12, s13, s14, s15, s16, .val (.int (((i4.toUInt32 >>> ((10 : Int32) &&& 31).toUInt32).toInt32) &&& (3 : Int32))), .val (.int i3), s19, s20, s21, s22, s23, s24, s25, s26, s27, s28, s29, s30, s31, s32, s33, s34] [])) target → Steps p.tables e below (T0.setTop (mkF m 132 #[s0, s1, s2, .val (.int i3), .val (.int i4), s5, s6, s7, s8, s9, s10, s11, s12, s13, s14, s15, s16, s17, s18, s19, s20, s21, s22, s23, s24, s25, s26, s27, s28, s29, s30, s31, s32, s33, s34] [])) target := by
  refine ⟨T0, X0, e0, fun target kt => ?_⟩
  show Steps _ _ _ (T0.setTop (mkF m 132 #[s0, s1, s2, .val (.int i3), .val (.int i4), s5, s6, s7, s8, s9, s10, s11, s12, s13, s14, s15, s16, s17, s18, s19, s20, s21, s22, s23, s24, s25, s26, s27, s28, s29, s30, s31, s32, s33, s34] [])) _
  refine XS.iload X0.here hx rfl (hb hby at_132) rfl ?_
  show Steps _ _ _ (T0.setTop (mkF m 134 #[s0, s1, s2, .val (.int i3), .val (.int i4), s5, s6, s7, s8, s9, s10, s11, s12, s13, s14, s15, s16, s17, s18, s19, s20, s21, s22, s23, s24, s25, s26, s27, s28, s29, s30, s31, s32, s33, s34] [(.int i4)])) _
  refine XS.bipush X0.here hx rfl (hb hby at_134) ?_
  show Steps _ _ _ (T0.setTop (mkF m 136 #[s0, s1, s2, .val (.int i3), .val (.int i4), s5, s6, s7, s8, s9, s10, s11, s12, s13, s14, s15, s16, s17, s18, s19, s20, s21, s22, s23, s24, s25, s26, s27, s28, s29, s30, s31, s32, s33, s34] [(.int (10 : Int32)), (.int i4)])) _
  refine XS.iushr X0.here hx rfl (hb hby at_136) rfl ?_
  show Steps _ _ _ (T0.setTop (mkF m 137 #[s0, s1, s2, .val (.int i3), .val (.int i4), s5, s6, s7, s8, s9, s10, s11, s12, s13, s14, s15, s16, s17, s18, s19, s20, s21, s22, s23, s24, s25, s26, s27, s28, s29, s30, s31, s32, s33, s34] [(.int ((i4.toUInt32 >>> ((10 : Int32) &&& 31).toUInt32).toInt32))])) _
  refine XS.iconst X0.here hx rfl (hb hby at_137) ?_
  show Steps _ _ _ (T0.setTop (mkF m 138 #[s0, s1, s2, .val (.int i3), .val (.int i4), s5, s6, s7, s8, s9, s10, s11, s12, s13, s14, s15, s16, s17, s18, s19, s20, s21, s22, s23, s24, s25, s26, s27, s28, s29, s30, s31, s32, s33, s34] [(.int (3 : Int32)), (.int ((i4.toUInt32 >>> ((10 : Int32) &&& 31).toUInt32).toInt32))])) _
  refine XS.iand X0.here hx rfl (hb hby at_138) rfl ?_
  show Steps _ _ _ (T0.setTop (mkF m 139 #[s0, s1, s2, .val (.int i3), .val (.int i4), s5, s6, s7, s8, s9, s10, s11, s12, s13, s14, s15, s16, s17, s18, s19, s20, s21, s22, s23, s24, s25, s26, s27, s28, s29, s30, s31, s32, s33, s34] [(.int (((i4.toUInt32 >>> ((10 : Int32) &&& 31).toUInt32).toInt32) &&& (3 : Int32)))])) _
  refine XS.istore X0.here hx rfl (hb hby at_139) rfl (l' := #[s0, s1, s2, .val (.int i3), .val (.int i4), s5, s6, s7, s8, s9, s10, s11, s12, s13, s14, s15, s16, .val (.int (((i4.toUInt32 >>> ((10 : Int32) &&& 31).toUInt32).toInt32) &&& (3 : Int32))), s18, s19, s20, s21, s22, s23, s24, s25, s26, s27, s28, s29, s30, s31, s32, s33, s34]) (os0_139_tt hs17) ?_
  show Steps _ _ _ (T0.setTop (mkF m 141 #[s0, s1, s2, .val (.int i3), .val (.int i4), s5, s6, s7, s8, s9, s10, s11, s12, s13, s14, s15, s16, .val (.int (((i4.toUInt32 >>> ((10 : Int32) &&& 31).toUInt32).toInt32) &&& (3 : Int32))), s18, s19, s20, s21, s22, s23, s24, s25, s26, s27, s28, s29, s30, s31, s32, s33, s34] [])) _
  refine XS.iload X0.here hx rfl (hb hby at_141) rfl ?_
  show Steps _ _ _ (T0.setTop (mkF m 143 #[s0, s1, s2, .val (.int i3), .val (.int i4), s5, s6, s7, s8, s9, s10, s11, s12, s13, s14, s15, s16, .val (.int (((i4.toUInt32 >>> ((10 : Int32) &&& 31).toUInt32).toInt32) &&& (3 : Int32))), s18, s19, s20, s21, s22, s23, s24, s25, s26, s27, s28, s29, s30, s31, s32, s33, s34] [(.int (((i4.toUInt32 >>> ((10 : Int32) &&& 31).toUInt32).toInt32) &&& (3 : Int32)))])) _
  refine XS.iconst X0.here hx rfl (hb hby at_143) ?_
  show Steps _ _ _ (T0.setTop (mkF m 144 #[s0, s1, s2, .val (.int i3), .val (.int i4), s5, s6, s7, s8, s9, s10, s11, s12, s13, s14, s15, s16, .val (.int (((i4.toUInt32 >>> ((10 : Int32) &&& 31).toUInt32).toInt32) &&& (3 : Int32))), s18, s19, s20, s21, s22, s23, s24, s25, s26, s27, s28, s29, s30, s31, s32, s33, s34] [(.int (1 : Int32)), (.int (((i4.toUInt32 >>> ((10 : Int32) &&& 31).toUInt32).toInt32) &&& (3 : Int32)))])) _
  refine XS.icmpYes X0.here hx rfl (pc0 := 144) (pc' := 151) rfl (hb hby at_144) rfl (feq hc144).2 (by decide) (by decide) ?_
  show Steps _ _ _ (T0.setTop (mkF m 151 #[s0, s1, s2, .val (.int i3), .val (.int i4), s5, s6, s7, s8, s9, s10, s11, s12, s13, s14, s15, s16, .val (.int (((i4.toUInt32 >>> ((10 : Int32) &&& 31).toUInt32).toInt32) &&& (3 : Int32))), s18, s19, s20, s21, s22, s23, s24, s25, s26, s27, s28, s29, s30, s31, s32, s33, s34] [])) _
  refine XS.iload X0.here hx rfl (hb hby at_151) rfl ?_
  show Steps _ _ _ (T0.setTop (mkF m 153 #[s0, s1, s2, .val (.int i3), .val (.int i4), s5, s6, s7, s8, s9, s10, s11, s12, s13, s14, s15, s16, .val (.int (((i4.toUInt32 >>> ((10 : Int32) &&& 31).toUInt32).toInt32) &&& (3 : Int32))), s18, s19, s20, s21, s22, s23, s24, s25, s26, s27, s28, s29, s30, s31, s32, s33, s34] [(.int (((i4.toUInt32 >>> ((10 : Int32) &&& 31).toUInt32).toInt32) &&& (3 : Int32)))])) _
  refine XS.iconst X0.here hx rfl (hb hby at_153) ?_
  show Steps _ _ _ (T0.setTop (mkF m 154 #[s0, s1, s2, .val (.int i3), .val (.int i4), s5, s6, s7, s8, s9, s10, s11, s12, s13, s14, s15, s16, .val (.int (((i4.toUInt32 >>> ((10 : Int32) &&& 31).toUInt32).toInt32) &&& (3 : Int32))), s18, s19, s20, s21, s22, s23, s24, s25, s26, s27, s28, s29, s30, s31, s32, s33, s34] [(.int (2 : Int32)), (.int (((i4.toUInt32 >>> ((10 : Int32) &&& 31).toUInt32).toInt32) &&& (3 : Int32)))])) _
  refine XS.icmpYes X0.here hx rfl (pc0 := 154) (pc' := 162) rfl (hb hby at_154) rfl (feq hc154).2 (by decide) (by decide) ?_
  show Steps _ _ _ (T0.setTop (mkF m 162 #[s0, s1, s2, .val (.int i3), .val (.int i4), s5, s6, s7, s8, s9, s10, s11, s12, s13, s14, s15, s16, .val (.int (((i4.toUInt32 >>> ((10 : Int32) &&& 31).toUInt32).toInt32) &&& (3 : Int32))), s18, s19, s20, s21, s22, s23, s24, s25, s26, s27, s28, s29, s30, s31, s32, s33, s34] [])) _
  refine XS.iloadN X0.here hx rfl (hb hby at_162) rfl ?_
  show Steps _ _ _ (T0.setTop (mkF m 163 #[s0, s1, s2, .val (.int i3), .val (.int i4), s5, s6, s7, s8, s9, s10, s11, s12, s13, s14, s15, s16, .val (.int (((i4.toUInt32 >>> ((10 : Int32) &&& 31).toUInt32).toInt32) &&& (3 : Int32))), s18, s19, s20, s21, s22, s23, s24, s25, s26, s27, s28, s29, s30, s31, s32, s33, s34] [(.int i3)])) _
  refine XS.istore X0.here hx rfl (hb hby at_163) rfl (l' := #[s0, s1, s2, .val (.int i3), .val (.int i4), s5, s6, s7, s8, s9, s10, s11, s12, s13, s14, s15, s16, .val (.int (((i4.toUInt32 >>> ((10 : Int32) &&& 31).toUInt32).toInt32) &&& (3 : Int32))), .val (.int i3), s19, s20, s21, s22, s23, s24, s25, s26, s27, s28, s29, s30, s31, s32, s33, s34]) (os0_163_tt hs18) ?_
  exact kt
theorem sg5 (s0 s1 s2 : Slot) (i3 i4 : Int32) (s5 s6 s7 s8 s9 s10 s11 s12 s13 s14 s15 s16 s17 s18 s19 s20 s21 s22 s23 s24 s25 s26 s27 s28 s29 s30 s31 s32 s33 s34 : Slot)
    (X0 : Stand p l e R s m args below meth c T0 locs cells slots) (hx : p.tables.exec = Jvm.exec) (hZ : Z.Warmed39 s.vm) (hw : ∀ d ∈ tables_1, d.before a0 Z = true) (hby : c.code = code) (hml : c.maxLocals = 35) (hown : s.vm.findClass own_s1 = some m.cls) (e0 : T0.heap = h0)  (hs17 : One s17) (hs18 : One s18) :
    ∃ (T' : State) (y17 y18 : Int32), Stand p l e R s m args below meth c T' locs cells slots ∧ T'.heap = h0 ∧
      ∀ target, Steps p.tables e below (T'.setTop (mkF m 165 #[s0, s1, s2, .val (.int i3), .val (.int i4), s5, s6, s7, s8, s9, s10, s11, s12, s13, s14, s15, s16, .val (.int y17), .val (.int y18), s19, s20, s21, s22, s23, s24, s25, s26, s27, s28, s29, s30, s31, s32, s33, s34] [])) target → Steps p.tables e below (T0.setTop (mkF m 132 #[s0, s1, s2, .val (.int i3), .val (.int i4), s5, s6, s7, s8, s9, s10, s11, s12, s13, s14, s15, s16, s17, s18, s19, s20, s21, s22, s23, s24, s25, s26, s27, s28, s29, s30, s31, s32, s33, s34] [])) target := by
  by_cases h1 : (((i4.toUInt32 >>> ((10 : Int32) &&& 31).toUInt32).toInt32) &&& (3 : Int32)) = (1 : Int32)
  · obtain ⟨TT1, XX1, ee1, sst1⟩ := tn0_132_165_f s0 s1 s2 (.val (.int i3)) i4 s5 s6 s7 s8 s9 s10 s11 s12 s13 s14 s15 s16 s17 s18 s19 s20 s21 s22 s23 s24 s25 s26 s27 s28 s29 s30 s31 s32 s33 s34 X0 hx hZ hw hby hml hown e0 (by first | exact own_oneU | exact own_oneI | exact own_oneR | assumption) (by first | exact own_oneU | exact own_oneI | exact own_oneR | assumption) h1
    exact ⟨TT1, (((i4.toUInt32 >>> ((10 : Int32) &&& 31).toUInt32).toInt32) &&& (3 : Int32)), (-1 : Int32), XX1, ee1, sst1⟩
  by_cases h2 : (((i4.toUInt32 >>> ((10 : Int32) &&& 31).toUInt32).toInt32) &&& (3 : Int32)) = (2 : Int32)
  · obtain ⟨TT1, XX1, ee1, sst1⟩ := tn0_132_165_tf s0 s1 s2 (.val (.int i3)) i4 s5 s6 s7 s8 s9 s10 s11 s12 s13 s14 s15 s16 s17 s18 s19 s20 s21 s22 s23 s24 s25 s26 s27 s28 s29 s30 s31 s32 s33 s34 X0 hx hZ hw hby hml hown e0 (by first | exact own_oneU | exact own_oneI | exact own_oneR | assumption) (by first | exact own_oneU | exact own_oneI | exact own_oneR | assumption) h1 h2
    exact ⟨TT1, (((i4.toUInt32 >>> ((10 : Int32) &&& 31).toUInt32).toInt32) &&& (3 : Int32)), (-2147483648 : Int32), XX1, ee1, sst1⟩
  · obtain ⟨TT1, XX1, ee1, sst1⟩ := tn0_132_165_tt s0 s1 s2 i3 i4 s5 s6 s7 s8 s9 s10 s11 s12 s13 s14 s15 s16 s17 s18 s19 s20 s21 s22 s23 s24 s25 s26 s27 s28 s29 s30 s31 s32 s33 s34 X0 hx hZ hw hby hml hown e0 (by first | exact own_oneU | exact own_oneI | exact own_oneR | assumption) (by first | exact own_oneU | exact own_oneI | exact own_oneR | assumption) h1 h2
    exact ⟨TT1, (((i4.toUInt32 >>> ((10 : Int32) &&& 31).toUInt32).toInt32) &&& (3 : Int32)), i3, XX1, ee1, sst1⟩
theorem os0_170 {s0 s1 s2 s3 s4 : Slot} {z5 z6 : Value} {s7 s8 s9 s10 s11 s12 s13 s14 s15 s16 s17 s18 s19 s20 s21 s22 s23 s24 s25 s26 s27 s28 s29 s30 s31 s32 s33 s34 : Slot} {v : Int32} (h : One s19) : storeLocals #[s0, s1, s2, s3, s4, .val z5, .val z6, s7, s8, s9, s10, s11, s12, s13, s14, s15, s16, s17, s18, s19, s20, s21, s22, s23, s24, s25, s26, s27, s28, s29, s30, s31, s32, s33, s34] 19 (.int v) = some #[s0, s1, s2, s3, s4, .val z5, .val z6, s7, s8, s9, s10, s11, s12, s13, s14, s15, s16, s17, s18, .val (.int v), s20, s21, s22, s23, s24, s25, s26, s27, s28, s29, s30, s31, s32, s33, s34] := by
  rcases h with rfl | ⟨w, rfl, hw⟩
  · rfl
  · cases w <;> first | rfl | (simp [Value.category] at hw)
theorem os0_176 {s0 s1 s2 s3 s4 : Slot} {z5 z6 : Value} {s7 s8 s9 s10 s11 s12 s13 s14 s15 s16 s17 s18 : Slot} {z19 : Value} {s20 s21 s22 s23 s24 s25 s26 s27 s28 s29 s30 s31 s32 s33 s34 : Slot} {v : Int32} (h : One s20) : storeLocals #[s0, s1, s2, s3, s4, .val z5, .val z6, s7, s8, s9, s10, s11, s12, s13, s14, s15, s16, s17, s18, .val z19, s20, s21, s22, s23, s24, s25, s26, s27, s28, s29, s30, s31, s32, s33, s34] 20 (.int v) = some #[s0, s1, s2, s3, s4, .val z5, .val z6, s7, s8, s9, s10, s11, s12, s13, s14, s15, s16, s17, s18, .val z19, .val (.int v), s21, s22, s23, s24, s25, s26, s27, s28, s29, s30, s31, s32, s33, s34] := by
  rcases h with rfl | ⟨w, rfl, hw⟩
  · rfl
  · cases w <;> first | rfl | (simp [Value.category] at hw)
theorem tn0_165_178_x (s0 s1 s2 s3 s4 : Slot) (i5 i6 : Int32) (s7 s8 s9 s10 s11 s12 s13 s14 s15 s16 s17 s18 s19 s20 s21 s22 s23 s24 s25 s26 s27 s28 s29 s30 s31 s32 s33 s34 : Slot)
    (X0 : Stand p l e R s m args below meth c T0 locs cells slots) (hx : p.tables.exec = Jvm.exec) (hZ : Z.Warmed39 s.vm) (hw : ∀ d ∈ tables_1, d.before a0 Z = true) (hby : c.code = code) (hml : c.maxLocals = 35) (hown : s.vm.findClass own_s1 = some m.cls) (e0 : T0.heap = h0) (hs19 : One s19) (hs20 : One s20) :
    ∃ (T' : State), Stand p l e R s m args below meth c T' locs cells slots ∧ T'.heap = h0 ∧
      ∀ target, Steps p.tables e below (T'.setTop (mkF m 178 #[s0, s1, s2, s3, s4, .val (.int i5), .val (.int i6), s7, s8, s9, s10, s11, s12, s13, s14, s15, s16, s17, s18, .val (.int (i5 &&& (65535 : Int32))), .val (.int (i6 &&& (3 : Int32))), s21, s22, s23, s24, s25, s26, s27, s28, s29, s30, s31, s32, s33, s34] [])) target → Steps p.tables e below (T0.setTop (mkF m 165 #[s0, s1, s2, s3, s4, .val (.int i5), .val (.int i6), s7, s8, s9, s10, s11, s12, s13, s14, s15, s16, s17, s18, s19, s20, s21, s22, s23, s24, s25, s26, s27, s28, s29, s30, s31, s32, s33, s34] [])) target := by
  refine ⟨T0, X0, e0, fun target kt => ?_⟩
  show Steps _ _ _ (T0.setTop (mkF m 165 #[s0, s1, s2, s3, s4, .val (.int i5), .val (.int i6), s7, s8, s9, s10, s11, s12, s13, s14, s15, s16, s17, s18, s19, s20, s21, s22, s23, s24, s25, s26, s27, s28, s29, s30, s31, s32, s33, s34] [])) _
  refine XS.iload X0.here hx rfl (hb hby at_165) rfl ?_
  show Steps _ _ _ (T0.setTop (mkF m 167 #[s0, s1, s2, s3, s4, .val (.int i5), .val (.int i6), s7, s8, s9, s10, s11, s12, s13, s14, s15, s16, s17, s18, s19, s20, s21, s22, s23, s24, s25, s26, s27, s28, s29, s30, s31, s32, s33, s34] [(.int i5)])) _
  refine X0.ldcInt hx hown (mvT hZ (own_w hw 9 rfl)) (g := (mkF m 167 #[s0, s1, s2, s3, s4, .val (.int i5), .val (.int i6), s7, s8, s9, s10, s11, s12, s13, s14, s15, s16, s17, s18, s19, s20, s21, s22, s23, s24, s25, s26, s27, s28, s29, s30, s31, s32, s33, s34] [(.int i5)])) rfl (hb hby at_167) _ ?_
  show Steps _ _ _ (T0.setTop (mkF m 169 #[s0, s1, s2, s3, s4, .val (.int i5), .val (.int i6), s7, s8, s9, s10, s11, s12, s13, s14, s15, s16, s17, s18, s19, s20, s21, s22, s23, s24, s25, s26, s27, s28, s29, s30, s31, s32, s33, s34] [(.int (65535 : Int32)), (.int i5)])) _
  refine XS.iand X0.here hx rfl (hb hby at_169) rfl ?_
  show Steps _ _ _ (T0.setTop (mkF m 170 #[s0, s1, s2, s3, s4, .val (.int i5), .val (.int i6), s7, s8, s9, s10, s11, s12, s13, s14, s15, s16, s17, s18, s19, s20, s21, s22, s23, s24, s25, s26, s27, s28, s29, s30, s31, s32, s33, s34] [(.int (i5 &&& (65535 : Int32)))])) _
  refine XS.istore X0.here hx rfl (hb hby at_170) rfl (l' := #[s0, s1, s2, s3, s4, .val (.int i5), .val (.int i6), s7, s8, s9, s10, s11, s12, s13, s14, s15, s16, s17, s18, .val (.int (i5 &&& (65535 : Int32))), s20, s21, s22, s23, s24, s25, s26, s27, s28, s29, s30, s31, s32, s33, s34]) (os0_170 hs19) ?_
  show Steps _ _ _ (T0.setTop (mkF m 172 #[s0, s1, s2, s3, s4, .val (.int i5), .val (.int i6), s7, s8, s9, s10, s11, s12, s13, s14, s15, s16, s17, s18, .val (.int (i5 &&& (65535 : Int32))), s20, s21, s22, s23, s24, s25, s26, s27, s28, s29, s30, s31, s32, s33, s34] [])) _
  refine XS.iload X0.here hx rfl (hb hby at_172) rfl ?_
  show Steps _ _ _ (T0.setTop (mkF m 174 #[s0, s1, s2, s3, s4, .val (.int i5), .val (.int i6), s7, s8, s9, s10, s11, s12, s13, s14, s15, s16, s17, s18, .val (.int (i5 &&& (65535 : Int32))), s20, s21, s22, s23, s24, s25, s26, s27, s28, s29, s30, s31, s32, s33, s34] [(.int i6)])) _
  refine XS.iconst X0.here hx rfl (hb hby at_174) ?_
  show Steps _ _ _ (T0.setTop (mkF m 175 #[s0, s1, s2, s3, s4, .val (.int i5), .val (.int i6), s7, s8, s9, s10, s11, s12, s13, s14, s15, s16, s17, s18, .val (.int (i5 &&& (65535 : Int32))), s20, s21, s22, s23, s24, s25, s26, s27, s28, s29, s30, s31, s32, s33, s34] [(.int (3 : Int32)), (.int i6)])) _
  refine XS.iand X0.here hx rfl (hb hby at_175) rfl ?_
  show Steps _ _ _ (T0.setTop (mkF m 176 #[s0, s1, s2, s3, s4, .val (.int i5), .val (.int i6), s7, s8, s9, s10, s11, s12, s13, s14, s15, s16, s17, s18, .val (.int (i5 &&& (65535 : Int32))), s20, s21, s22, s23, s24, s25, s26, s27, s28, s29, s30, s31, s32, s33, s34] [(.int (i6 &&& (3 : Int32)))])) _
  refine XS.istore X0.here hx rfl (hb hby at_176) rfl (l' := #[s0, s1, s2, s3, s4, .val (.int i5), .val (.int i6), s7, s8, s9, s10, s11, s12, s13, s14, s15, s16, s17, s18, .val (.int (i5 &&& (65535 : Int32))), .val (.int (i6 &&& (3 : Int32))), s21, s22, s23, s24, s25, s26, s27, s28, s29, s30, s31, s32, s33, s34]) (os0_176 hs20) ?_
  exact kt
theorem sg6 (s0 s1 s2 s3 s4 : Slot) (i5 i6 : Int32) (s7 s8 s9 s10 s11 s12 s13 s14 s15 s16 s17 s18 s19 s20 s21 s22 s23 s24 s25 s26 s27 s28 s29 s30 s31 s32 s33 s34 : Slot)
    (X0 : Stand p l e R s m args below meth c T0 locs cells slots) (hx : p.tables.exec = Jvm.exec) (hZ : Z.Warmed39 s.vm) (hw : ∀ d ∈ tables_1, d.before a0 Z = true) (hby : c.code = code) (hml : c.maxLocals = 35) (hown : s.vm.findClass own_s1 = some m.cls) (e0 : T0.heap = h0)  (hs19 : One s19) (hs20 : One s20) :
    ∃ (T' : State) (y19 y20 : Int32), Stand p l e R s m args below meth c T' locs cells slots ∧ T'.heap = h0 ∧
      ∀ target, Steps p.tables e below (T'.setTop (mkF m 178 #[s0, s1, s2, s3, s4, .val (.int i5), .val (.int i6), s7, s8, s9, s10, s11, s12, s13, s14, s15, s16, s17, s18, .val (.int y19), .val (.int y20), s21, s22, s23, s24, s25, s26, s27, s28, s29, s30, s31, s32, s33, s34] [])) target → Steps p.tables e below (T0.setTop (mkF m 165 #[s0, s1, s2, s3, s4, .val (.int i5), .val (.int i6), s7, s8, s9, s10, s11, s12, s13, s14, s15, s16, s17, s18, s19, s20, s21, s22, s23, s24, s25, s26, s27, s28, s29, s30, s31, s32, s33, s34] [])) target := by
  obtain ⟨TT1, XX1, ee1, sst1⟩ := tn0_165_178_x s0 s1 s2 s3 s4 i5 i6 s7 s8 s9 s10 s11 s12 s13 s14 s15 s16 s17 s18 s19 s20 s21 s22 s23 s24 s25 s26 s27 s28 s29 s30 s31 s32 s33 s34 X0 hx hZ hw hby hml hown e0 (by first | exact own_oneU | exact own_oneI | exact own_oneR | assumption) (by first | exact own_oneU | exact own_oneI | exact own_oneR | assumption)
  exact ⟨TT1, (i5 &&& (65535 : Int32)), (i6 &&& (3 : Int32)), XX1, ee1, sst1⟩
theorem os0_193 {s0 s1 s2 s3 : Slot} {z4 : Value} {s5 : Slot} {z6 : Value} {s7 s8 s9 s10 s11 s12 s13 s14 s15 s16 s17 s18 s19 s20 s21 s22 s23 s24 s25 s26 s27 s28 s29 s30 s31 s32 s33 s34 : Slot} {v : Int32} (h : One s21) : storeLocals #[s0, s1, s2, s3, .val z4, s5, .val z6, s7, s8, s9, s10, s11, s12, s13, s14, s15, s16, s17, s18, s19, s20, s21, s22, s23, s24, s25, s26, s27, s28, s29, s30, s31, s32, s33, s34] 21 (.int v) = some #[s0, s1, s2, s3, .val z4, s5, .val z6, s7, s8, s9, s10, s11, s12, s13, s14, s15, s16, s17, s18, s19, s20, .val (.int v), s22, s23, s24, s25, s26, s27, s28, s29, s30, s31, s32, s33, s34] := by
  rcases h with rfl | ⟨w, rfl, hw⟩
  · rfl
  · cases w <;> first | rfl | (simp [Value.category] at hw)
theorem tn0_178_195_t (s0 s1 s2 s3 : Slot) (i4 : Int32) (s5 : Slot) (i6 : Int32) (s7 s8 s9 s10 s11 s12 s13 s14 s15 s16 s17 s18 s19 s20 s21 s22 s23 s24 s25 s26 s27 s28 s29 s30 s31 s32 s33 s34 : Slot)
    (X0 : Stand p l e R s m args below meth c T0 locs cells slots) (hx : p.tables.exec = Jvm.exec) (hZ : Z.Warmed39 s.vm) (hw : ∀ d ∈ tables_1, d.before a0 Z = true) (hby : c.code = code) (hml : c.maxLocals = 35) (hown : s.vm.findClass own_s1 = some m.cls) (e0 : T0.heap = h0) (hs21 : One s21) (hc183 : (i4 &&& (16 : Int32)) = (0 : Int32)) :
    ∃ (T' : State), Stand p l e R s m args below meth c T' locs cells slots ∧ T'.heap = h0 ∧
      ∀ target, Steps p.tables e below (T'.setTop (mkF m 195 #[s0, s1, s2, s3, .val (.int i4), s5, .val (.int i6), s7, s8, s9, s10, s11, s12, s13, s14, s15, s16, s17, s18, s19, s20, .val (.int i6), s22, s23, s24, s25, s26, s27, s28, s29, s30, s31, s32, s33, s34] [])) target → Steps p.tables e below (T0.setTop (mkF m 178 #[s0, s1, s2, s3, .val (.int i4), s5, .val (.int i6), s7, s8, s9, s10, s11, s12, s13, s14, s15, s16, s17, s18, s19, s20, s21, s22, s23, s24, s25, s26, s27, s28, s29, s30, s31, s32, s33, s34] [])) target := by
  refine ⟨T0, X0, e0, fun target kt => ?_⟩
  show Steps _ _ _ (T0.setTop (mkF m 178 #[s0, s1, s2, s3, .val (.int i4), s5, .val (.int i6), s7, s8, s9, s10, s11, s12, s13, s14, s15, s16, s17, s18, s19, s20, s21, s22, s23, s24, s25, s26, s27, s28, s29, s30, s31, s32, s33, s34] [])) _
  refine XS.iload X0.here hx rfl (hb hby at_178) rfl ?_
  show Steps _ _ _ (T0.setTop (mkF m 180 #[s0, s1, s2, s3, .val (.int i4), s5, .val (.int i6), s7, s8, s9, s10, s11, s12, s13, s14, s15, s16, s17, s18, s19, s20, s21, s22, s23, s24, s25, s26, s27, s28, s29, s30, s31, s32, s33, s34] [(.int i4)])) _
  refine XS.bipush X0.here hx rfl (hb hby at_180) ?_
  show Steps _ _ _ (T0.setTop (mkF m 182 #[s0, s1, s2, s3, .val (.int i4), s5, .val (.int i6), s7, s8, s9, s10, s11, s12, s13, s14, s15, s16, s17, s18, s19, s20, s21, s22, s23, s24, s25, s26, s27, s28, s29, s30, s31, s32, s33, s34] [(.int (16 : Int32)), (.int i4)])) _
  refine XS.iand X0.here hx rfl (hb hby at_182) rfl ?_
  show Steps _ _ _ (T0.setTop (mkF m 183 #[s0, s1, s2, s3, .val (.int i4), s5, .val (.int i6), s7, s8, s9, s10, s11, s12, s13, s14, s15, s16, s17, s18, s19, s20, s21, s22, s23, s24, s25, s26, s27, s28, s29, s30, s31, s32, s33, s34] [(.int (i4 &&& (16 : Int32)))])) _
  refine XS.ifYes X0.here hx rfl (pc0 := 183) (pc' := 191) rfl (hb hby at_183) rfl ((if0 _ _).trans (teq hc183).1) (by decide) (by decide) ?_
  show Steps _ _ _ (T0.setTop (mkF m 191 #[s0, s1, s2, s3, .val (.int i4), s5, .val (.int i6), s7, s8, s9, s10, s11, s12, s13, s14, s15, s16, s17, s18, s19, s20, s21, s22, s23, s24, s25, s26, s27, s28, s29, s30, s31, s32, s33, s34] [])) _
  refine XS.iload X0.here hx rfl (hb hby at_191) rfl ?_
  show Steps _ _ _ (T0.setTop (mkF m 193 #[s0, s1, s2, s3, .val (.int i4), s5, .val (.int i6), s7, s8, s9, s10, s11, s12, s13, s14, s15, s16, s17, s18, s19, s20, s21, s22, s23, s24, s25, s26, s27, s28, s29, s30, s31, s32, s33, s34] [(.int i6)])) _
  refine XS.istore X0.here hx rfl (hb hby at_193) rfl (l' := #[s0, s1, s2, s3, .val (.int i4), s5, .val (.int i6), s7, s8, s9, s10, s11, s12, s13, s14, s15, s16, s17, s18, s19, s20, .val (.int i6), s22, s23, s24, s25, s26, s27, s28, s29, s30, s31, s32, s33, s34]) (os0_193 hs21) ?_
  exact kt
theorem os0_193_f {s0 s1 s2 s3 : Slot} {z4 : Value} {s5 s6 s7 s8 s9 s10 s11 s12 s13 s14 s15 : Slot} {z16 : Value} {s17 s18 s19 s20 s21 s22 s23 s24 s25 s26 s27 s28 s29 s30 s31 s32 s33 s34 : Slot} {v : Int32} (h : One s21) : storeLocals #[s0, s1, s2, s3, .val z4, s5, s6, s7, s8, s9, s10, s11, s12, s13, s14, s15, .val z16, s17, s18, s19, s20, s21, s22, s23, s24, s25, s26, s27, s28, s29, s30, s31, s32, s33, s34] 21 (.int v) = some #[s0, s1, s2, s3, .val z4, s5, s6, s7, s8, s9, s10, s11, s12, s13, s14, s15, .val z16, s17, s18, s19, s20, .val (.int v), s22, s23, s24, s25, s26, s27, s28, s29, s30, s31, s32, s33, s34] := by
  rcases h with rfl | ⟨w, rfl, hw⟩
  · rfl
  · cases w <;> first | rfl | (simp [Value.category] at hw)
theorem tn0_178_195_f (s0 s1 s2 s3 : Slot) (i4 : Int32) (s5 s6 s7 s8 s9 s10 s11 s12 s13 s14 s15 : Slot) (i16 : Int32) (s17 s18 s19 s20 s21 s22 s23 s24 s25 s26 s27 s28 s29 s30 s31 s32 s33 s34 : Slot)
    (X0 : Stand p l e R s m args below meth c T0 locs cells slots) (hx : p.tables.exec = Jvm.exec) (hZ : Z.Warmed39 s.vm) (hw : ∀ d ∈ tables_1, d.before a0 Z = true) (hby : c.code = code) (hml : c.maxLocals = 35) (hown : s.vm.findClass own_s1 = some m.cls) (e0 : T0.heap = h0) (hs21 : One s21) (hc183 : ¬ ((i4 &&& (16 : Int32)) = (0 : Int32))) :
    ∃ (T' : State), Stand p l e R s m args below meth c T' locs cells slots ∧ T'.heap = h0 ∧
      ∀ target, Steps p.tables e below (T'.setTop (mkF m 195 #[s0, s1, s2, s3, .val (.int i4), s5, s6, s7, s8, s9, s10, s11, s12, s13, s14, s15, .val (.int i16), s17, s18, s19, s20, .val (.int i16), s22, s23, s24, s25, s26, s27, s28, s29, s30, s31, s32, s33, s34] [])) target → Steps p.tables e below (T0.setTop (mkF m 178 #[s0, s1, s2, s3, .val (.int i4), s5, s6, s7, s8, s9, s10, s11, s12, s13, s14, s15, .val (.int i16), s17, s18, s19, s20, s21, s22, s23, s24, s25, s26, s27, s28, s29, s30, s31, s32, s33, s34] [])) target := by
  refine ⟨T0, X0, e0, fun target kt => ?_⟩
  show Steps _ _ _ (T0.setTop (mkF m 178 #[s0, s1, s2, s3, .val (.int i4), s5, s6, s7, s8, s9, s10, s11, s12, s13, s14, s15, .val (.int i16), s17, s18, s19, s20, s21, s22, s23, s24, s25, s26, s27, s28, s29, s30, s31, s32, s33, s34] [])) _
  refine XS.iload X0.here hx rfl (hb hby at_178) rfl ?_
  show Steps _ _ _ (T0.setTop (mkF m 180 #[s0, s1, s2, s3, .val (.int i4), s5, s6, s7, s8, s9, s10, s11, s12, s13, s14, s15, .val (.int i16), s17, s18, s19, s20, s21, s22, s23, s24, s25, s26, s27, s28, s29, s30, s31, s32, s33, s34] [(.int i4)])) _
  refine XS.bipush X0.here hx rfl (hb hby at_180) ?_
  show Steps _ _ _ (T0.setTop (mkF m 182 #[s0, s1, s2, s3, .val (.int i4), s5, s6, s7, s8, s9, s10, s11, s12, s13, s14, s15, .val (.int i16), s17, s18, s19, s20, s21, s22, s23, s24, s25, s26, s27, s28, s29, s30, s31, s32, s33, s34] [(.int (16 : Int32)), (.int i4)])) _
  refine XS.iand X0.here hx rfl (hb hby at_182) rfl ?_
  show Steps _ _ _ (T0.setTop (mkF m 183 #[s0, s1, s2, s3, .val (.int i4), s5, s6, s7, s8, s9, s10, s11, s12, s13, s14, s15, .val (.int i16), s17, s18, s19, s20, s21, s22, s23, s24, s25, s26, s27, s28, s29, s30, s31, s32, s33, s34] [(.int (i4 &&& (16 : Int32)))])) _
  refine XS.ifNo X0.here hx rfl (hb hby at_183) rfl ((if0 _ _).trans (feq hc183).1) ?_
  show Steps _ _ _ (T0.setTop (mkF m 186 #[s0, s1, s2, s3, .val (.int i4), s5, s6, s7, s8, s9, s10, s11, s12, s13, s14, s15, .val (.int i16), s17, s18, s19, s20, s21, s22, s23, s24, s25, s26, s27, s28, s29, s30, s31, s32, s33, s34] [])) _
  refine XS.iload X0.here hx rfl (hb hby at_186) rfl ?_
  show Steps _ _ _ (T0.setTop (mkF m 188 #[s0, s1, s2, s3, .val (.int i4), s5, s6, s7, s8, s9, s10, s11, s12, s13, s14, s15, .val (.int i16), s17, s18, s19, s20, s21, s22, s23, s24, s25, s26, s27, s28, s29, s30, s31, s32, s33, s34] [(.int i16)])) _
  refine XS.goto X0.here hx rfl (pc0 := 188) (pc' := 193) rfl (hb hby at_188) (by decide) (by decide) ?_
  show Steps _ _ _ (T0.setTop (mkF m 193 #[s0, s1, s2, s3, .val (.int i4), s5, s6, s7, s8, s9, s10, s11, s12, s13, s14, s15, .val (.int i16), s17, s18, s19, s20, s21, s22, s23, s24, s25, s26, s27, s28, s29, s30, s31, s32, s33, s34] [(.int i16)])) _
  refine XS.istore X0.here hx rfl (hb hby at_193) rfl (l' := #[s0, s1, s2, s3, .val (.int i4), s5, s6, s7, s8, s9, s10, s11, s12, s13, s14, s15, .val (.int i16), s17, s18, s19, s20, .val (.int i16), s22, s23, s24, s25, s26, s27, s28, s29, s30, s31, s32, s33, s34]) (os0_193_f hs21) ?_
  exact kt
theorem sg7 (s0 s1 s2 s3 : Slot) (i4 : Int32) (s5 : Slot) (i6 : Int32) (s7 s8 s9 s10 s11 s12 s13 s14 s15 : Slot) (i16 : Int32) (s17 s18 s19 s20 s21 s22 s23 s24 s25 s26 s27 s28 s29 s30 s31 s32 s33 s34 : Slot)
    (X0 : Stand p l e R s m args below meth c T0 locs cells slots) (hx : p.tables.exec = Jvm.exec) (hZ : Z.Warmed39 s.vm) (hw : ∀ d ∈ tables_1, d.before a0 Z = true) (hby : c.code = code) (hml : c.maxLocals = 35) (hown : s.vm.findClass own_s1 = some m.cls) (e0 : T0.heap = h0)  (hs21 : One s21) :
    ∃ (T' : State) (y21 : Int32), Stand p l e R s m args below meth c T' locs cells slots ∧ T'.heap = h0 ∧
      ∀ target, Steps p.tables e below (T'.setTop (mkF m 195 #[s0, s1, s2, s3, .val (.int i4), s5, .val (.int i6), s7, s8, s9, s10, s11, s12, s13, s14, s15, .val (.int i16), s17, s18, s19, s20, .val (.int y21), s22, s23, s24, s25, s26, s27, s28, s29, s30, s31, s32, s33, s34] [])) target → Steps p.tables e below (T0.setTop (mkF m 178 #[s0, s1, s2, s3, .val (.int i4), s5, .val (.int i6), s7, s8, s9, s10, s11, s12, s13, s14, s15, .val (.int i16), s17, s18, s19, s20, s21, s22, s23, s24, s25, s26, s27, s28, s29, s30, s31, s32, s33, s34] [])) target := by
  by_cases h1 : (i4 &&& (16 : Int32)) = (0 : Int32)
  · obtain ⟨TT1, XX1, ee1, sst1⟩ := tn0_178_195_t s0 s1 s2 s3 i4 s5 i6 s7 s8 s9 s10 s11 s12 s13 s14 s15 (.val (.int i16)) s17 s18 s19 s20 s21 s22 s23 s24 s25 s26 s27 s28 s29 s30 s31 s32 s33 s34 X0 hx hZ hw hby hml hown e0 (by first | exact own_oneU | exact own_oneI | exact own_oneR | assumption) h1
    exact ⟨TT1, i6, XX1, ee1, sst1⟩
  · obtain ⟨TT1, XX1, ee1, sst1⟩ := tn0_178_195_f s0 s1 s2 s3 i4 s5 (.val (.int i6)) s7 s8 s9 s10 s11 s12 s13 s14 s15 i16 s17 s18 s19 s20 s21 s22 s23 s24 s25 s26 s27 s28 s29 s30 s31 s32 s33 s34 X0 hx hZ hw hby hml hown e0 (by first | exact own_oneU | exact own_oneI | exact own_oneR | assumption) h1
    exact ⟨TT1, i16, XX1, ee1, sst1⟩
theorem tn0_195_212_t (s0 : Slot) (j1 : Int64) (s3 : Slot) (i4 : Int32) (s5 s6 s7 s8 s9 s10 s11 s12 s13 s14 s15 s16 s17 s18 s19 s20 s21 s24 s25 s26 s27 s28 s29 s30 s31 s32 s33 s34 : Slot)
    (X0 : Stand p l e R s m args below meth c T0 locs cells slots) (hx : p.tables.exec = Jvm.exec) (hZ : Z.Warmed39 s.vm) (hw : ∀ d ∈ tables_1, d.before a0 Z = true) (hby : c.code = code) (hml : c.maxLocals = 35) (hown : s.vm.findClass own_s1 = some m.cls) (e0 : T0.heap = h0) (hc200 : (i4 &&& (32 : Int32)) = (0 : Int32)) :
    ∃ (T' : State), Stand p l e R s m args below meth c T' locs cells slots ∧ T'.heap = h0 ∧
      ∀ target, Steps p.tables e below (T'.setTop (mkF m 212 #[s0, .val (.long j1), .second, s3, .val (.int i4), s5, s6, s7, s8, s9, s10, s11, s12, s13, s14, s15, s16, s17, s18, s19, s20, s21, .val (.long (j1 ^^^ (1 : Int64))), .second, s24, s25, s26, s27, s28, s29, s30, s31, s32, s33, s34] [])) target → Steps p.tables e below (T0.setTop (mkF m 195 #[s0, .val (.long j1), .second, s3, .val (.int i4), s5, s6, s7, s8, s9, s10, s11, s12, s13, s14, s15, s16, s17, s18, s19, s20, s21, .unset, .unset, s24, s25, s26, s27, s28, s29, s30, s31, s32, s33, s34] [])) target := by
  refine ⟨T0, X0, e0, fun target kt => ?_⟩
  show Steps _ _ _ (T0.setTop (mkF m 195 #[s0, .val (.long j1), .second, s3, .val (.int i4), s5, s6, s7, s8, s9, s10, s11, s12, s13, s14, s15, s16, s17, s18, s19, s20, s21, .unset, .unset, s24, s25, s26, s27, s28, s29, s30, s31, s32, s33, s34] [])) _
  refine XS.iload X0.here hx rfl (hb hby at_195) rfl ?_
  show Steps _ _ _ (T0.setTop (mkF m 197 #[s0, .val (.long j1), .second, s3, .val (.int i4), s5, s6, s7, s8, s9, s10, s11, s12, s13, s14, s15, s16, s17, s18, s19, s20, s21, .unset, .unset, s24, s25, s26, s27, s28, s29, s30, s31, s32, s33, s34] [(.int i4)])) _
  refine XS.bipush X0.here hx rfl (hb hby at_197) ?_
  show Steps _ _ _ (T0.setTop (mkF m 199 #[s0, .val (.long j1), .second, s3, .val (.int i4), s5, s6, s7, s8, s9, s10, s11, s12, s13, s14, s15, s16, s17, s18, s19, s20, s21, .unset, .unset, s24, s25, s26, s27, s28, s29, s30, s31, s32, s33, s34] [(.int (32 : Int32)), (.int i4)])) _
  refine XS.iand X0.here hx rfl (hb hby at_199) rfl ?_
  show Steps _ _ _ (T0.setTop (mkF m 200 #[s0, .val (.long j1), .second, s3, .val (.int i4), s5, s6, s7, s8, s9, s10, s11, s12, s13, s14, s15, s16, s17, s18, s19, s20, s21, .unset, .unset, s24, s25, s26, s27, s28, s29, s30, s31, s32, s33, s34] [(.int (i4 &&& (32 : Int32)))])) _
  refine XS.ifYes X0.here hx rfl (pc0 := 200) (pc' := 207) rfl (hb hby at_200) rfl ((if0 _ _).trans (teq hc200).1) (by decide) (by decide) ?_
  show Steps _ _ _ (T0.setTop (mkF m 207 #[s0, .val (.long j1), .second, s3, .val (.int i4), s5, s6, s7, s8, s9, s10, s11, s12, s13, s14, s15, s16, s17, s18, s19, s20, s21, .unset, .unset, s24, s25, s26, s27, s28, s29, s30, s31, s32, s33, s34] [])) _
  refine XS.lloadN X0.here hx rfl (hb hby at_207) rfl ?_
  show Steps _ _ _ (T0.setTop (mkF m 208 #[s0, .val (.long j1), .second, s3, .val (.int i4), s5, s6, s7, s8, s9, s10, s11, s12, s13, s14, s15, s16, s17, s18, s19, s20, s21, .unset, .unset, s24, s25, s26, s27, s28, s29, s30, s31, s32, s33, s34] [(.long j1)])) _
  refine XS.lconst X0.here hx rfl (hb hby at_208) ?_
  show Steps _ _ _ (T0.setTop (mkF m 209 #[s0, .val (.long j1), .second, s3, .val (.int i4), s5, s6, s7, s8, s9, s10, s11, s12, s13, s14, s15, s16, s17, s18, s19, s20, s21, .unset, .unset, s24, s25, s26, s27, s28, s29, s30, s31, s32, s33, s34] [(.long (1 : Int64)), (.long j1)])) _
  refine XS.lxor X0.here hx rfl (hb hby at_209) rfl ?_
  show Steps _ _ _ (T0.setTop (mkF m 210 #[s0, .val (.long j1), .second, s3, .val (.int i4), s5, s6, s7, s8, s9, s10, s11, s12, s13, s14, s15, s16, s17, s18, s19, s20, s21, .unset, .unset, s24, s25, s26, s27, s28, s29, s30, s31, s32, s33, s34] [(.long (j1 ^^^ (1 : Int64)))])) _
  refine XS.lstore X0.here hx rfl (hb hby at_210) rfl (l' := #[s0, .val (.long j1), .second, s3, .val (.int i4), s5, s6, s7, s8, s9, s10, s11, s12, s13, s14, s15, s16, s17, s18, s19, s20, s21, .val (.long (j1 ^^^ (1 : Int64))), .second, s24, s25, s26, s27, s28, s29, s30, s31, s32, s33, s34]) rfl ?_
  exact kt
theorem tn0_195_212_f (s0 : Slot) (j1 : Int64) (s3 : Slot) (i4 : Int32) (s5 s6 s7 s8 s9 s10 s11 s12 s13 s14 s15 s16 s17 s18 s19 s20 s21 s24 s25 s26 s27 s28 s29 s30 s31 s32 s33 s34 : Slot)
    (X0 : Stand p l e R s m args below meth c T0 locs cells slots) (hx : p.tables.exec = Jvm.exec) (hZ : Z.Warmed39 s.vm) (hw : ∀ d ∈ tables_1, d.before a0 Z = true) (hby : c.code = code) (hml : c.maxLocals = 35) (hown : s.vm.findClass own_s1 = some m.cls) (e0 : T0.heap = h0) (hc200 : ¬ ((i4 &&& (32 : Int32)) = (0 : Int32))) :
    ∃ (T' : State), Stand p l e R s m args below meth c T' locs cells slots ∧ T'.heap = h0 ∧
      ∀ target, Steps p.tables e below (T'.setTop (mkF m 212 #[s0, .val (.long j1), .second, s3, .val (.int i4), s5, s6, s7, s8, s9, s10, s11, s12, s13, s14, s15, s16, s17, s18, s19, s20, s21, .val (.long j1), .second, s24, s25, s26, s27, s28, s29, s30, s31, s32, s33, s34] [])) target → Steps p.tables e below (T0.setTop (mkF m 195 #[s0, .val (.long j1), .second, s3, .val (.int i4), s5, s6, s7, s8, s9, s10, s11, s12, s13, s14, s15, s16, s17, s18, s19, s20, s21, .unset, .unset, s24, s25, s26, s27, s28, s29, s30, s31, s32, s33, s34] [])) target := by
  refine ⟨T0, X0, e0, fun target kt => ?_⟩
  show Steps _ _ _ (T0.setTop (mkF m 195 #[s0, .val (.long j1), .second, s3, .val (.int i4), s5, s6, s7, s8, s9, s10, s11, s12, s13, s14, s15, s16, s17, s18, s19, s20, s21, .unset, .unset, s24, s25, s26, s27, s28, s29, s30, s31, s32, s33, s34] [])) _
  refine XS.iload X0.here hx rfl (hb hby at_195) rfl ?_
  show Steps _ _ _ (T0.setTop (mkF m 197 #[s0, .val (.long j1), .second, s3, .val (.int i4), s5, s6, s7, s8, s9, s10, s11, s12, s13, s14, s15, s16, s17, s18, s19, s20, s21, .unset, .unset, s24, s25, s26, s27, s28, s29, s30, s31, s32, s33, s34] [(.int i4)])) _
  refine XS.bipush X0.here hx rfl (hb hby at_197) ?_
  show Steps _ _ _ (T0.setTop (mkF m 199 #[s0, .val (.long j1), .second, s3, .val (.int i4), s5, s6, s7, s8, s9, s10, s11, s12, s13, s14, s15, s16, s17, s18, s19, s20, s21, .unset, .unset, s24, s25, s26, s27, s28, s29, s30, s31, s32, s33, s34] [(.int (32 : Int32)), (.int i4)])) _
  refine XS.iand X0.here hx rfl (hb hby at_199) rfl ?_
  show Steps _ _ _ (T0.setTop (mkF m 200 #[s0, .val (.long j1), .second, s3, .val (.int i4), s5, s6, s7, s8, s9, s10, s11, s12, s13, s14, s15, s16, s17, s18, s19, s20, s21, .unset, .unset, s24, s25, s26, s27, s28, s29, s30, s31, s32, s33, s34] [(.int (i4 &&& (32 : Int32)))])) _
  refine XS.ifNo X0.here hx rfl (hb hby at_200) rfl ((if0 _ _).trans (feq hc200).1) ?_
  show Steps _ _ _ (T0.setTop (mkF m 203 #[s0, .val (.long j1), .second, s3, .val (.int i4), s5, s6, s7, s8, s9, s10, s11, s12, s13, s14, s15, s16, s17, s18, s19, s20, s21, .unset, .unset, s24, s25, s26, s27, s28, s29, s30, s31, s32, s33, s34] [])) _
  refine XS.lloadN X0.here hx rfl (hb hby at_203) rfl ?_
  show Steps _ _ _ (T0.setTop (mkF m 204 #[s0, .val (.long j1), .second, s3, .val (.int i4), s5, s6, s7, s8, s9, s10, s11, s12, s13, s14, s15, s16, s17, s18, s19, s20, s21, .unset, .unset, s24, s25, s26, s27, s28, s29, s30, s31, s32, s33, s34] [(.long j1)])) _
  refine XS.goto X0.here hx rfl (pc0 := 204) (pc' := 210) rfl (hb hby at_204) (by decide) (by decide) ?_
  show Steps _ _ _ (T0.setTop (mkF m 210 #[s0, .val (.long j1), .second, s3, .val (.int i4), s5, s6, s7, s8, s9, s10, s11, s12, s13, s14, s15, s16, s17, s18, s19, s20, s21, .unset, .unset, s24, s25, s26, s27, s28, s29, s30, s31, s32, s33, s34] [(.long j1)])) _
  refine XS.lstore X0.here hx rfl (hb hby at_210) rfl (l' := #[s0, .val (.long j1), .second, s3, .val (.int i4), s5, s6, s7, s8, s9, s10, s11, s12, s13, s14, s15, s16, s17, s18, s19, s20, s21, .val (.long j1), .second, s24, s25, s26, s27, s28, s29, s30, s31, s32, s33, s34]) rfl ?_
  exact kt
theorem sg8 (s0 : Slot) (j1 : Int64) (s3 : Slot) (i4 : Int32) (s5 s6 s7 s8 s9 s10 s11 s12 s13 s14 s15 s16 s17 s18 s19 s20 s21 s24 s25 s26 s27 s28 s29 s30 s31 s32 s33 s34 : Slot)
    (X0 : Stand p l e R s m args below meth c T0 locs cells slots) (hx : p.tables.exec = Jvm.exec) (hZ : Z.Warmed39 s.vm) (hw : ∀ d ∈ tables_1, d.before a0 Z = true) (hby : c.code = code) (hml : c.maxLocals = 35) (hown : s.vm.findClass own_s1 = some m.cls) (e0 : T0.heap = h0)   :
    ∃ (T' : State) (y22 : Int64), Stand p l e R s m args below meth c T' locs cells slots ∧ T'.heap = h0 ∧
      ∀ target, Steps p.tables e below (T'.setTop (mkF m 212 #[s0, .val (.long j1), .second, s3, .val (.int i4), s5, s6, s7, s8, s9, s10, s11, s12, s13, s14, s15, s16, s17, s18, s19, s20, s21, .val (.long y22), .second, s24, s25, s26, s27, s28, s29, s30, s31, s32, s33, s34] [])) target → Steps p.tables e below (T0.setTop (mkF m 195 #[s0, .val (.long j1), .second, s3, .val (.int i4), s5, s6, s7, s8, s9, s10, s11, s12, s13, s14, s15, s16, s17, s18, s19, s20, s21, .unset, .unset, s24, s25, s26, s27, s28, s29, s30, s31, s32, s33, s34] [])) target := by
  by_cases h1 : (i4 &&& (32 : Int32)) = (0 : Int32)
  · obtain ⟨TT1, XX1, ee1, sst1⟩ := tn0_195_212_t s0 j1 s3 i4 s5 s6 s7 s8 s9 s10 s11 s12 s13 s14 s15 s16 s17 s18 s19 s20 s21 s24 s25 s26 s27 s28 s29 s30 s31 s32 s33 s34 X0 hx hZ hw hby hml hown e0 h1
    exact ⟨TT1, (j1 ^^^ (1 : Int64)), XX1, ee1, sst1⟩
  · obtain ⟨TT1, XX1, ee1, sst1⟩ := tn0_195_212_f s0 j1 s3 i4 s5 s6 s7 s8 s9 s10 s11 s12 s13 s14 s15 s16 s17 s18 s19 s20 s21 s24 s25 s26 s27 s28 s29 s30 s31 s32 s33 s34 X0 hx hZ hw hby hml hown e0 h1
    exact ⟨TT1, j1, XX1, ee1, sst1⟩
theorem os0_227 {s0 s1 s2 s3 : Slot} {z4 : Value} {s5 : Slot} {z6 : Value} {s7 s8 s9 s10 s11 s12 s13 s14 s15 s16 s17 s18 s19 s20 s21 s22 s23 s24 s25 s26 s27 s28 s29 s30 s31 s32 s33 s34 : Slot} {v : Int32} (h : One s24) : storeLocals #[s0, s1, s2, s3, .val z4, s5, .val z6, s7, s8, s9, s10, s11, s12, s13, s14, s15, s16, s17, s18, s19, s20, s21, s22, s23, s24, s25, s26, s27, s28, s29, s30, s31, s32, s33, s34] 24 (.int v) = some #[s0, s1, s2, s3, .val z4, s5, .val z6, s7, s8, s9, s10, s11, s12, s13, s14, s15, s16, s17, s18, s19, s20, s21, s22, s23, .val (.int v), s25, s26, s27, s28, s29, s30, s31, s32, s33, s34] := by
  rcases h with rfl | ⟨w, rfl, hw⟩
  · rfl
  · cases w <;> first | rfl | (simp [Value.category] at hw)
theorem tn0_212_229_t (s0 s1 s2 s3 : Slot) (i4 : Int32) (s5 : Slot) (i6 : Int32) (s7 s8 s9 s10 s11 s12 s13 s14 s15 s16 s17 s18 s19 s20 s21 s22 s23 s24 s25 s26 s27 s28 s29 s30 s31 s32 s33 s34 : Slot)
    (X0 : Stand p l e R s m args below meth c T0 locs cells slots) (hx : p.tables.exec = Jvm.exec) (hZ : Z.Warmed39 s.vm) (hw : ∀ d ∈ tables_1, d.before a0 Z = true) (hby : c.code = code) (hml : c.maxLocals = 35) (hown : s.vm.findClass own_s1 = some m.cls) (e0 : T0.heap = h0) (hs24 : One s24) (hc217 : (i4 &&& (64 : Int32)) = (0 : Int32)) :
    ∃ (T' : State), Stand p l e R s m args below meth c T' locs cells slots ∧ T'.heap = h0 ∧
      ∀ target, Steps p.tables e below (T'.setTop (mkF m 229 #[s0, s1, s2, s3, .val (.int i4), s5, .val (.int i6), s7, s8, s9, s10, s11, s12, s13, s14, s15, s16, s17, s18, s19, s20, s21, s22, s23, .val (.int i6), s25, s26, s27, s28, s29, s30, s31, s32, s33, s34] [])) target → Steps p.tables e below (T0.setTop (mkF m 212 #[s0, s1, s2, s3, .val (.int i4), s5, .val (.int i6), s7, s8, s9, s10, s11, s12, s13, s14, s15, s16, s17, s18, s19, s20, s21, s22, s23, s24, s25, s26, s27, s28, s29, s30, s31, s32, s33, s34] [])) target := by
  refine ⟨T0, X0, e0, fun target kt => ?_⟩
  show Steps _ _ _ (T0.setTop (mkF m 212 #[s0, s1, s2, s3, .val (.int i4), s5, .val (.int i6), s7, s8, s9, s10, s11, s12, s13, s14, s15, s16, s17, s18, s19, s20, s21, s22, s23, s24, s25, s26, s27, s28, s29, s30, s31, s32, s33, s34] [])) _
  refine XS.iload X0.here hx rfl (hb hby at_212) rfl ?_
  show Steps _ _ _ (T0.setTop (mkF m 214 #[s0, s1, s2, s3, .val (.int i4), s5, .val (.int i6), s7, s8, s9, s10, s11, s12, s13, s14, s15, s16, s17, s18, s19, s20, s21, s22, s23, s24, s25, s26, s27, s28, s29, s30, s31, s32, s33, s34] [(.int i4)])) _
  refine XS.bipush X0.here hx rfl (hb hby at_214) ?_
  show Steps _ _ _ (T0.setTop (mkF m 216 #[s0, s1, s2, s3, .val (.int i4), s5, .val (.int i6), s7, s8, s9, s10, s11, s12, s13, s14, s15, s16, s17, s18, s19, s20, s21, s22, s23, s24, s25, s26, s27, s28, s29, s30, s31, s32, s33, s34] [(.int (64 : Int32)), (.int i4)])) _
  refine XS.iand X0.here hx rfl (hb hby at_216) rfl ?_
  show Steps _ _ _ (T0.setTop (mkF m 217 #[s0, s1, s2, s3, .val (.int i4), s5, .val (.int i6), s7, s8, s9, s10, s11, s12, s13, s14, s15, s16, s17, s18, s19, s20, s21, s22, s23, s24, s25, s26, s27, s28, s29, s30, s31, s32, s33, s34] [(.int (i4 &&& (64 : Int32)))])) _
  refine XS.ifYes X0.here hx rfl (pc0 := 217) (pc' := 225) rfl (hb hby at_217) rfl ((if0 _ _).trans (teq hc217).1) (by decide) (by decide) ?_
  show Steps _ _ _ (T0.setTop (mkF m 225 #[s0, s1, s2, s3, .val (.int i4), s5, .val (.int i6), s7, s8, s9, s10, s11, s12, s13, s14, s15, s16, s17, s18, s19, s20, s21, s22, s23, s24, s25, s26, s27, s28, s29, s30, s31, s32, s33, s34] [])) _
  refine XS.iload X0.here hx rfl (hb hby at_225) rfl ?_
  show Steps _ _ _ (T0.setTop (mkF m 227 #[s0, s1, s2, s3, .val (.int i4), s5, .val (.int i6), s7, s8, s9, s10, s11, s12, s13, s14, s15, s16, s17, s18, s19, s20, s21, s22, s23, s24, s25, s26, s27, s28, s29, s30, s31, s32, s33, s34] [(.int i6)])) _
  refine XS.istore X0.here hx rfl (hb hby at_227) rfl (l' := #[s0, s1, s2, s3, .val (.int i4), s5, .val (.int i6), s7, s8, s9, s10, s11, s12, s13, s14, s15, s16, s17, s18, s19, s20, s21, s22, s23, .val (.int i6), s25, s26, s27, s28, s29, s30, s31, s32, s33, s34]) (os0_227 hs24) ?_
  exact kt
theorem os0_227_f {s0 s1 s2 s3 : Slot} {z4 : Value} {s5 s6 s7 s8 s9 s10 s11 s12 s13 s14 s15 s16 s17 : Slot} {z18 : Value} {s19 s20 s21 s22 s23 s24 s25 s26 s27 s28 s29 s30 s31 s32 s33 s34 : Slot} {v : Int32} (h : One s24) : storeLocals #[s0, s1, s2, s3, .val z4, s5, s6, s7, s8, s9, s10, s11, s12, s13, s14, s15, s16, s17, .val z18, s19, s20, s21, s22, s23, s24, s25, s26, s27, s28, s29, s30, s31, s32, s33, s34] 24 (.int v) = some #[s0, s1, s2, s3, .val z4, s5, s6, s7, s8, s9, s10, s11, s12, s13, s14, s15, s16, s17, .val z18, s19, s20, s21, s22, s23, .val (.int v), s25, s26, s27, s28, s29, s30, s31, s32, s33, s34] := by
  rcases h with rfl | ⟨w, rfl, hw⟩
  · rfl
  · cases w <;> first | rfl | (simp [Value.category] at hw)
theorem tn0_212_229_f (s0 s1 s2 s3 : Slot) (i4 : Int32) (s5 s6 s7 s8 s9 s10 s11 s12 s13 s14 s15 s16 s17 : Slot) (i18 : Int32) (s19 s20 s21 s22 s23 s24 s25 s26 s27 s28 s29 s30 s31 s32 s33 s34 : Slot)
    (X0 : Stand p l e R s m args below meth c T0 locs cells slots) (hx : p.tables.exec = Jvm.exec) (hZ : Z.Warmed39 s.vm) (hw : ∀ d ∈ tables_1, d.before a0 Z = true) (hby : c.code = code) (hml : c.maxLocals = 35) (hown : s.vm.findClass own_s1 = some m.cls) (e0 : T0.heap = h0) (hs24 : One s24) (hc217 : ¬ ((i4 &&& (64 : Int32)) = (0 : Int32))) :
    ∃ (T' : State), Stand p l e R s m args below meth c T' locs cells slots ∧ T'.heap = h0 ∧
      ∀ target, Steps p.tables e below (T'.setTop (mkF m 229 #[s0, s1, s2, s3, .val (.int i4), s5, s6, s7, s8, s9, s10, s11, s12, s13, s14, s15, s16, s17, .val (.int i18), s19, s20, s21, s22, s23, .val (.int i18), s25, s26, s27, s28, s29, s30, s31, s32, s33, s34] [])) target → Steps p.tables e below (T0.setTop (mkF m 212 #[s0, s1, s2, s3, .val (.int i4), s5, s6, s7, s8, s9, s10, s11, s12, s13, s14, s15, s16, s17, .val (.int i18), s19, s20, s21, s22, s23, s24, s25, s26, s27, s28, s29, s30, s31, s32, s33, s34] [])) target := by
  refine ⟨T0, X0, e0, fun target kt => ?_⟩
  show Steps _ _ _ (T0.setTop (mkF m 212 #[s0, s1, s2, s3, .val (.int i4), s5, s6, s7, s8, s9, s10, s11, s12, s13, s14, s15, s16, s17, .val (.int i18), s19, s20, s21, s22, s23, s24, s25, s26, s27, s28, s29, s30, s31, s32, s33, s34] [])) _
  refine XS.iload X0.here hx rfl (hb hby at_212) rfl ?_
  show Steps _ _ _ (T0.setTop (mkF m 214 #[s0, s1, s2, s3, .val (.int i4), s5, s6, s7, s8, s9, s10, s11, s12, s13, s14, s15, s16, s17, .val (.int i18), s19, s20, s21, s22, s23, s24, s25, s26, s27, s28, s29, s30, s31, s32, s33, s34] [(.int i4)])) _
  refine XS.bipush X0.here hx rfl (hb hby at_214) ?_
  show Steps _ _ _ (T0.setTop (mkF m 216 #[s0, s1, s2, s3, .val (.int i4), s5, s6, s7, s8, s9, s10, s11, s12, s13, s14, s15, s16, s17, .val (.int i18), s19, s20, s21, s22, s23, s24, s25, s26, s27, s28, s29, s30, s31, s32, s33, s34] [(.int (64 : Int32)), (.int i4)])) _
  refine XS.iand X0.here hx rfl (hb hby at_216) rfl ?_
  show Steps _ _ _ (T0.setTop (mkF m 217 #[s0, s1, s2, s3, .val (.int i4), s5, s6, s7, s8, s9, s10, s11, s12, s13, s14, s15, s16, s17, .val (.int i18), s19, s20, s21, s22, s23, s24, s25, s26, s27, s28, s29, s30, s31, s32, s33, s34] [(.int (i4 &&& (64 : Int32)))])) _
  refine XS.ifNo X0.here hx rfl (hb hby at_217) rfl ((if0 _ _).trans (feq hc217).1) ?_
  show Steps _ _ _ (T0.setTop (mkF m 220 #[s0, s1, s2, s3, .val (.int i4), s5, s6, s7, s8, s9, s10, s11, s12, s13, s14, s15, s16, s17, .val (.int i18), s19, s20, s21, s22, s23, s24, s25, s26, s27, s28, s29, s30, s31, s32, s33, s34] [])) _
  refine XS.iload X0.here hx rfl (hb hby at_220) rfl ?_
  show Steps _ _ _ (T0.setTop (mkF m 222 #[s0, s1, s2, s3, .val (.int i4), s5, s6, s7, s8, s9, s10, s11, s12, s13, s14, s15, s16, s17, .val (.int i18), s19, s20, s21, s22, s23, s24, s25, s26, s27, s28, s29, s30, s31, s32, s33, s34] [(.int i18)])) _
  refine XS.goto X0.here hx rfl (pc0 := 222) (pc' := 227) rfl (hb hby at_222) (by decide) (by decide) ?_
  show Steps _ _ _ (T0.setTop (mkF m 227 #[s0, s1, s2, s3, .val (.int i4), s5, s6, s7, s8, s9, s10, s11, s12, s13, s14, s15, s16, s17, .val (.int i18), s19, s20, s21, s22, s23, s24, s25, s26, s27, s28, s29, s30, s31, s32, s33, s34] [(.int i18)])) _
  refine XS.istore X0.here hx rfl (hb hby at_227) rfl (l' := #[s0, s1, s2, s3, .val (.int i4), s5, s6, s7, s8, s9, s10, s11, s12, s13, s14, s15, s16, s17, .val (.int i18), s19, s20, s21, s22, s23, .val (.int i18), s25, s26, s27, s28, s29, s30, s31, s32, s33, s34]) (os0_227_f hs24) ?_
  exact kt
theorem sg9 (s0 s1 s2 s3 : Slot) (i4 : Int32) (s5 : Slot) (i6 : Int32) (s7 s8 s9 s10 s11 s12 s13 s14 s15 s16 s17 : Slot) (i18 : Int32) (s19 s20 s21 s22 s23 s24 s25 s26 s27 s28 s29 s30 s31 s32 s33 s34 : Slot)
    (X0 : Stand p l e R s m args below meth c T0 locs cells slots) (hx : p.tables.exec = Jvm.exec) (hZ : Z.Warmed39 s.vm) (hw : ∀ d ∈ tables_1, d.before a0 Z = true) (hby : c.code = code) (hml : c.maxLocals = 35) (hown : s.vm.findClass own_s1 = some m.cls) (e0 : T0.heap = h0)  (hs24 : One s24) :
    ∃ (T' : State) (y24 : Int32), Stand p l e R s m args below meth c T' locs cells slots ∧ T'.heap = h0 ∧
      ∀ target, Steps p.tables e below (T'.setTop (mkF m 229 #[s0, s1, s2, s3, .val (.int i4), s5, .val (.int i6), s7, s8, s9, s10, s11, s12, s13, s14, s15, s16, s17, .val (.int i18), s19, s20, s21, s22, s23, .val (.int y24), s25, s26, s27, s28, s29, s30, s31, s32, s33, s34] [])) target → Steps p.tables e below (T0.setTop (mkF m 212 #[s0, s1, s2, s3, .val (.int i4), s5, .val (.int i6), s7, s8, s9, s10, s11, s12, s13, s14, s15, s16, s17, .val (.int i18), s19, s20, s21, s22, s23, s24, s25, s26, s27, s28, s29, s30, s31, s32, s33, s34] [])) target := by
  by_cases h1 : (i4 &&& (64 : Int32)) = (0 : Int32)
  · obtain ⟨TT1, XX1, ee1, sst1⟩ := tn0_212_229_t s0 s1 s2 s3 i4 s5 i6 s7 s8 s9 s10 s11 s12 s13 s14 s15 s16 s17 (.val (.int i18)) s19 s20 s21 s22 s23 s24 s25 s26 s27 s28 s29 s30 s31 s32 s33 s34 X0 hx hZ hw hby hml hown e0 (by first | exact own_oneU | exact own_oneI | exact own_oneR | assumption) h1
    exact ⟨TT1, i6, XX1, ee1, sst1⟩
  · obtain ⟨TT1, XX1, ee1, sst1⟩ := tn0_212_229_f s0 s1 s2 s3 i4 s5 (.val (.int i6)) s7 s8 s9 s10 s11 s12 s13 s14 s15 s16 s17 i18 s19 s20 s21 s22 s23 s24 s25 s26 s27 s28 s29 s30 s31 s32 s33 s34 X0 hx hZ hw hby hml hown e0 (by first | exact own_oneU | exact own_oneI | exact own_oneR | assumption) h1
    exact ⟨TT1, i18, XX1, ee1, sst1⟩
theorem os0_245 {s0 s1 s2 s3 : Slot} {z4 : Value} {s5 s6 s7 s8 s9 s10 s11 s12 s13 s14 : Slot} {z15 : Value} {s16 s17 s18 s19 s20 s21 s22 s23 s24 s25 s26 s27 s28 s29 s30 s31 s32 s33 s34 : Slot} {v : Addr} (h : One s25) : storeLocals #[s0, s1, s2, s3, .val z4, s5, s6, s7, s8, s9, s10, s11, s12, s13, s14, .val z15, s16, s17, s18, s19, s20, s21, s22, s23, s24, s25, s26, s27, s28, s29, s30, s31, s32, s33, s34] 25 (.ref v) = some #[s0, s1, s2, s3, .val z4, s5, s6, s7, s8, s9, s10, s11, s12, s13, s14, .val z15, s16, s17, s18, s19, s20, s21, s22, s23, s24, .val (.ref v), s26, s27, s28, s29, s30, s31, s32, s33, s34] := by
  rcases h with rfl | ⟨w, rfl, hw⟩
  · rfl
  · cases w <;> first | rfl | (simp [Value.category] at hw)
theorem tn0_229_247_t (s0 s1 s2 s3 : Slot) (i4 : Int32) (s5 s6 s7 s8 s9 s10 s11 s12 s13 s14 : Slot) (o15 : Addr) (s16 s17 s18 s19 s20 s21 s22 s23 s24 s25 s26 s27 s28 s29 s30 s31 s32 s33 s34 : Slot)
    (X0 : Stand p l e R s m args below meth c T0 locs cells slots) (hx : p.tables.exec = Jvm.exec) (hZ : Z.Warmed39 s.vm) (hw : ∀ d ∈ tables_1, d.before a0 Z = true) (hby : c.code = code) (hml : c.maxLocals = 35) (hown : s.vm.findClass own_s1 = some m.cls) (e0 : T0.heap = h0) (hs25 : One s25) (hc235 : (i4 &&& (128 : Int32)) = (0 : Int32)) :
    ∃ (T' : State), Stand p l e R s m args below meth c T' locs cells slots ∧ T'.heap = h0 ∧
      ∀ target, Steps p.tables e below (T'.setTop (mkF m 247 #[s0, s1, s2, s3, .val (.int i4), s5, s6, s7, s8, s9, s10, s11, s12, s13, s14, .val (.ref o15), s16, s17, s18, s19, s20, s21, s22, s23, s24, .val (.ref o15), s26, s27, s28, s29, s30, s31, s32, s33, s34] [])) target → Steps p.tables e below (T0.setTop (mkF m 229 #[s0, s1, s2, s3, .val (.int i4), s5, s6, s7, s8, s9, s10, s11, s12, s13, s14, .val (.ref o15), s16, s17, s18, s19, s20, s21, s22, s23, s24, s25, s26, s27, s28, s29, s30, s31, s32, s33, s34] [])) target := by
  refine ⟨T0, X0, e0, fun target kt => ?_⟩
  show Steps _ _ _ (T0.setTop (mkF m 229 #[s0, s1, s2, s3, .val (.int i4), s5, s6, s7, s8, s9, s10, s11, s12, s13, s14, .val (.ref o15), s16, s17, s18, s19, s20, s21, s22, s23, s24, s25, s26, s27, s28, s29, s30, s31, s32, s33, s34] [])) _
  refine XS.iload X0.here hx rfl (hb hby at_229) rfl ?_
  show Steps _ _ _ (T0.setTop (mkF m 231 #[s0, s1, s2, s3, .val (.int i4), s5, s6, s7, s8, s9, s10, s11, s12, s13, s14, .val (.ref o15), s16, s17, s18, s19, s20, s21, s22, s23, s24, s25, s26, s27, s28, s29, s30, s31, s32, s33, s34] [(.int i4)])) _
  refine XS.sipush X0.here hx rfl (hb hby at_231) ?_
  show Steps _ _ _ (T0.setTop (mkF m 234 #[s0, s1, s2, s3, .val (.int i4), s5, s6, s7, s8, s9, s10, s11, s12, s13, s14, .val (.ref o15), s16, s17, s18, s19, s20, s21, s22, s23, s24, s25, s26, s27, s28, s29, s30, s31, s32, s33, s34] [(.int (128 : Int32)), (.int i4)])) _
  refine XS.iand X0.here hx rfl (hb hby at_234) rfl ?_
  show Steps _ _ _ (T0.setTop (mkF m 235 #[s0, s1, s2, s3, .val (.int i4), s5, s6, s7, s8, s9, s10, s11, s12, s13, s14, .val (.ref o15), s16, s17, s18, s19, s20, s21, s22, s23, s24, s25, s26, s27, s28, s29, s30, s31, s32, s33, s34] [(.int (i4 &&& (128 : Int32)))])) _
  refine XS.ifYes X0.here hx rfl (pc0 := 235) (pc' := 243) rfl (hb hby at_235) rfl ((if0 _ _).trans (teq hc235).1) (by decide) (by decide) ?_
  show Steps _ _ _ (T0.setTop (mkF m 243 #[s0, s1, s2, s3, .val (.int i4), s5, s6, s7, s8, s9, s10, s11, s12, s13, s14, .val (.ref o15), s16, s17, s18, s19, s20, s21, s22, s23, s24, s25, s26, s27, s28, s29, s30, s31, s32, s33, s34] [])) _
  refine XS.aload X0.here hx rfl (hb hby at_243) rfl rfl ?_
  show Steps _ _ _ (T0.setTop (mkF m 245 #[s0, s1, s2, s3, .val (.int i4), s5, s6, s7, s8, s9, s10, s11, s12, s13, s14, .val (.ref o15), s16, s17, s18, s19, s20, s21, s22, s23, s24, s25, s26, s27, s28, s29, s30, s31, s32, s33, s34] [(.ref o15)])) _
  refine XS.astore X0.here hx rfl (hb hby at_245) rfl rfl (l' := #[s0, s1, s2, s3, .val (.int i4), s5, s6, s7, s8, s9, s10, s11, s12, s13, s14, .val (.ref o15), s16, s17, s18, s19, s20, s21, s22, s23, s24, .val (.ref o15), s26, s27, s28, s29, s30, s31, s32, s33, s34]) (os0_245 hs25) ?_
  exact kt
theorem os0_245_f {s0 s1 s2 s3 : Slot} {z4 : Value} {s5 s6 s7 s8 s9 s10 s11 s12 : Slot} {z13 : Value} {s14 s15 s16 s17 s18 s19 s20 s21 s22 s23 s24 s25 s26 s27 s28 s29 s30 s31 s32 s33 s34 : Slot} {v : Addr} (h : One s25) : storeLocals #[s0, s1, s2, s3, .val z4, s5, s6, s7, s8, s9, s10, s11, s12, .val z13, s14, s15, s16, s17, s18, s19, s20, s21, s22, s23, s24, s25, s26, s27, s28, s29, s30, s31, s32, s33, s34] 25 (.ref v) = some #[s0, s1, s2, s3, .val z4, s5, s6, s7, s8, s9, s10, s11, s12, .val z13, s14, s15, s16, s17, s18, s19, s20, s21, s22, s23, s24, .val (.ref v), s26, s27, s28, s29, s30, s31, s32, s33, s34] := by
  rcases h with rfl | ⟨w, rfl, hw⟩
  · rfl
  · cases w <;> first | rfl | (simp [Value.category] at hw)
theorem tn0_229_247_f (s0 s1 s2 s3 : Slot) (i4 : Int32) (s5 s6 s7 s8 s9 s10 s11 s12 : Slot) (o13 : Addr) (s14 s15 s16 s17 s18 s19 s20 s21 s22 s23 s24 s25 s26 s27 s28 s29 s30 s31 s32 s33 s34 : Slot)
    (X0 : Stand p l e R s m args below meth c T0 locs cells slots) (hx : p.tables.exec = Jvm.exec) (hZ : Z.Warmed39 s.vm) (hw : ∀ d ∈ tables_1, d.before a0 Z = true) (hby : c.code = code) (hml : c.maxLocals = 35) (hown : s.vm.findClass own_s1 = some m.cls) (e0 : T0.heap = h0) (hs25 : One s25) (hc235 : ¬ ((i4 &&& (128 : Int32)) = (0 : Int32))) :
    ∃ (T' : State), Stand p l e R s m args below meth c T' locs cells slots ∧ T'.heap = h0 ∧
      ∀ target, Steps p.tables e below (T'.setTop (mkF m 247 #[s0, s1, s2, s3, .val (.int i4), s5, s6, s7, s8, s9, s10, s11, s12, .val (.ref o13), s14, s15, s16, s17, s18, s19, s20, s21, s22, s23, s24, .val (.ref o13), s26, s27, s28, s29, s30, s31, s32, s33, s34] [])) target → Steps p.tables e below (T0.setTop (mkF m 229 #[s0, s1, s2, s3, .val (.int i4), s5, s6, s7, s8, s9, s10, s11, s12, .val (.ref o13), s14, s15, s16, s17, s18, s19, s20, s21, s22, s23, s24, s25, s26, s27, s28, s29, s30, s31, s32, s33, s34] [])) target := by
  refine ⟨T0, X0, e0, fun target kt => ?_⟩
  show Steps _ _ _ (T0.setTop (mkF m 229 #[s0, s1, s2, s3, .val (.int i4), s5, s6, s7, s8, s9, s10, s11, s12, .val (.ref o13), s14, s15, s16, s17, s18, s19, s20, s21, s22, s23, s24, s25, s26, s27, s28, s29, s30, s31, s32, s33, s34] [])) _
  refine XS.iload X0.here hx rfl (hb hby at_229) rfl ?_
  show Steps _ _ _ (T0.setTop (mkF m 231 #[s0, s1, s2, s3, .val (.int i4), s5, s6, s7, s8, s9, s10, s11, s12, .val (.ref o13), s14, s15, s16, s17, s18, s19, s20, s21, s22, s23, s24, s25, s26, s27, s28, s29, s30, s31, s32, s33, s34] [(.int i4)])) _
  refine XS.sipush X0.here hx rfl (hb hby at_231) ?_
  show Steps _ _ _ (T0.setTop (mkF m 234 #[s0, s1, s2, s3, .val (.int i4), s5, s6, s7, s8, s9, s10, s11, s12, .val (.ref o13), s14, s15, s16, s17, s18, s19, s20, s21, s22, s23, s24, s25, s26, s27, s28, s29, s30, s31, s32, s33, s34] [(.int (128 : Int32)), (.int i4)])) _
  refine XS.iand X0.here hx rfl (hb hby at_234) rfl ?_
  show Steps _ _ _ (T0.setTop (mkF m 235 #[s0, s1, s2, s3, .val (.int i4), s5, s6, s7, s8, s9, s10, s11, s12, .val (.ref o13), s14, s15, s16, s17, s18, s19, s20, s21, s22, s23, s24, s25, s26, s27, s28, s29, s30, s31, s32, s33, s34] [(.int (i4 &&& (128 : Int32)))])) _
  refine XS.ifNo X0.here hx rfl (hb hby at_235) rfl ((if0 _ _).trans (feq hc235).1) ?_
  show Steps _ _ _ (T0.setTop (mkF m 238 #[s0, s1, s2, s3, .val (.int i4), s5, s6, s7, s8, s9, s10, s11, s12, .val (.ref o13), s14, s15, s16, s17, s18, s19, s20, s21, s22, s23, s24, s25, s26, s27, s28, s29, s30, s31, s32, s33, s34] [])) _
  refine XS.aload X0.here hx rfl (hb hby at_238) rfl rfl ?_
  show Steps _ _ _ (T0.setTop (mkF m 240 #[s0, s1, s2, s3, .val (.int i4), s5, s6, s7, s8, s9, s10, s11, s12, .val (.ref o13), s14, s15, s16, s17, s18, s19, s20, s21, s22, s23, s24, s25, s26, s27, s28, s29, s30, s31, s32, s33, s34] [(.ref o13)])) _
  refine XS.goto X0.here hx rfl (pc0 := 240) (pc' := 245) rfl (hb hby at_240) (by decide) (by decide) ?_
  show Steps _ _ _ (T0.setTop (mkF m 245 #[s0, s1, s2, s3, .val (.int i4), s5, s6, s7, s8, s9, s10, s11, s12, .val (.ref o13), s14, s15, s16, s17, s18, s19, s20, s21, s22, s23, s24, s25, s26, s27, s28, s29, s30, s31, s32, s33, s34] [(.ref o13)])) _
  refine XS.astore X0.here hx rfl (hb hby at_245) rfl rfl (l' := #[s0, s1, s2, s3, .val (.int i4), s5, s6, s7, s8, s9, s10, s11, s12, .val (.ref o13), s14, s15, s16, s17, s18, s19, s20, s21, s22, s23, s24, .val (.ref o13), s26, s27, s28, s29, s30, s31, s32, s33, s34]) (os0_245_f hs25) ?_
  exact kt
theorem sg10 (s0 s1 s2 s3 : Slot) (i4 : Int32) (s5 s6 s7 s8 s9 s10 s11 s12 : Slot) (o13 : Addr) (s14 : Slot) (o15 : Addr) (s16 s17 s18 s19 s20 s21 s22 s23 s24 s25 s26 s27 s28 s29 s30 s31 s32 s33 s34 : Slot)
    (X0 : Stand p l e R s m args below meth c T0 locs cells slots) (hx : p.tables.exec = Jvm.exec) (hZ : Z.Warmed39 s.vm) (hw : ∀ d ∈ tables_1, d.before a0 Z = true) (hby : c.code = code) (hml : c.maxLocals = 35) (hown : s.vm.findClass own_s1 = some m.cls) (e0 : T0.heap = h0)  (hs25 : One s25) :
    ∃ (T' : State) (y25 : Addr), Stand p l e R s m args below meth c T' locs cells slots ∧ T'.heap = h0 ∧
      ∀ target, Steps p.tables e below (T'.setTop (mkF m 247 #[s0, s1, s2, s3, .val (.int i4), s5, s6, s7, s8, s9, s10, s11, s12, .val (.ref o13), s14, .val (.ref o15), s16, s17, s18, s19, s20, s21, s22, s23, s24, .val (.ref y25), s26, s27, s28, s29, s30, s31, s32, s33, s34] [])) target → Steps p.tables e below (T0.setTop (mkF m 229 #[s0, s1, s2, s3, .val (.int i4), s5, s6, s7, s8, s9, s10, s11, s12, .val (.ref o13), s14, .val (.ref o15), s16, s17, s18, s19, s20, s21, s22, s23, s24, s25, s26, s27, s28, s29, s30, s31, s32, s33, s34] [])) target := by
  by_cases h1 : (i4 &&& (128 : Int32)) = (0 : Int32)
  · obtain ⟨TT1, XX1, ee1, sst1⟩ := tn0_229_247_t s0 s1 s2 s3 i4 s5 s6 s7 s8 s9 s10 s11 s12 (.val (.ref o13)) s14 o15 s16 s17 s18 s19 s20 s21 s22 s23 s24 s25 s26 s27 s28 s29 s30 s31 s32 s33 s34 X0 hx hZ hw hby hml hown e0 (by first | exact own_oneU | exact own_oneI | exact own_oneR | assumption) h1
    exact ⟨TT1, o15, XX1, ee1, sst1⟩
  · obtain ⟨TT1, XX1, ee1, sst1⟩ := tn0_229_247_f s0 s1 s2 s3 i4 s5 s6 s7 s8 s9 s10 s11 s12 o13 s14 (.val (.ref o15)) s16 s17 s18 s19 s20 s21 s22 s23 s24 s25 s26 s27 s28 s29 s30 s31 s32 s33 s34 X0 hx hZ hw hby hml hown e0 (by first | exact own_oneU | exact own_oneI | exact own_oneR | assumption) h1
    exact ⟨TT1, o13, XX1, ee1, sst1⟩
theorem os0_259 {s0 s1 s2 s3 s4 s5 : Slot} {z6 : Value} {s7 s8 s9 s10 s11 s12 s13 s14 s15 s16 s17 s18 : Slot} {z19 : Value} {s20 s21 s22 s23 s24 s25 s26 s27 s28 s29 s30 s31 s32 s33 s34 : Slot} {v : Int32} (h : One s26) : storeLocals #[s0, s1, s2, s3, s4, s5, .val z6, s7, s8, s9, s10, s11, s12, s13, s14, s15, s16, s17, s18, .val z19, s20, s21, s22, s23, s24, s25, s26, s27, s28, s29, s30, s31, s32, s33, s34] 26 (.int v) = some #[s0, s1, s2, s3, s4, s5, .val z6, s7, s8, s9, s10, s11, s12, s13, s14, s15, s16, s17, s18, .val z19, s20, s21, s22, s23, s24, s25, .val (.int v), s27, s28, s29, s30, s31, s32, s33, s34] := by
  rcases h with rfl | ⟨w, rfl, hw⟩
  · rfl
  · cases w <;> first | rfl | (simp [Value.category] at hw)
theorem tn0_247_261_x (s0 s1 s2 s3 s4 s5 : Slot) (i6 : Int32) (s7 s8 s9 s10 s11 s12 s13 s14 s15 s16 s17 s18 : Slot) (i19 : Int32) (s20 s21 s22 s23 s24 s25 s26 s27 s28 s29 s30 s31 s32 s33 s34 : Slot)
    (X0 : Stand p l e R s m args below meth c T0 locs cells slots) (hx : p.tables.exec = Jvm.exec) (hZ : Z.Warmed39 s.vm) (hw : ∀ d ∈ tables_1, d.before a0 Z = true) (hby : c.code = code) (hml : c.maxLocals = 35) (hown : s.vm.findClass own_s1 = some m.cls) (e0 : T0.heap = h0) (hs26 : One s26) :
    ∃ (T' : State), Stand p l e R s m args below meth c T' locs cells slots ∧ T'.heap = h0 ∧
      ∀ target, Steps p.tables e below (T'.setTop (mkF m 261 #[s0, s1, s2, s3, s4, s5, .val (.int i6), s7, s8, s9, s10, s11, s12, s13, s14, s15, s16, s17, s18, .val (.int i19), s20, s21, s22, s23, s24, s25, .val (.int ((i19 + (((i6.toUInt32 >>> ((20 : Int32) &&& 31).toUInt32).toInt32) &&& (3 : Int32))) - (1 : Int32))), s27, s28, s29, s30, s31, s32, s33, s34] [])) target → Steps p.tables e below (T0.setTop (mkF m 247 #[s0, s1, s2, s3, s4, s5, .val (.int i6), s7, s8, s9, s10, s11, s12, s13, s14, s15, s16, s17, s18, .val (.int i19), s20, s21, s22, s23, s24, s25, s26, s27, s28, s29, s30, s31, s32, s33, s34] [])) target := by
  refine ⟨T0, X0, e0, fun target kt => ?_⟩
  show Steps _ _ _ (T0.setTop (mkF m 247 #[s0, s1, s2, s3, s4, s5, .val (.int i6), s7, s8, s9, s10, s11, s12, s13, s14, s15, s16, s17, s18, .val (.int i19), s20, s21, s22, s23, s24, s25, s26, s27, s28, s29, s30, s31, s32, s33, s34] [])) _
  refine XS.iload X0.here hx rfl (hb hby at_247) rfl ?_
  show Steps _ _ _ (T0.setTop (mkF m 249 #[s0, s1, s2, s3, s4, s5, .val (.int i6), s7, s8, s9, s10, s11, s12, s13, s14, s15, s16, s17, s18, .val (.int i19), s20, s21, s22, s23, s24, s25, s26, s27, s28, s29, s30, s31, s32, s33, s34] [(.int i19)])) _
  refine XS.iload X0.here hx rfl (hb hby at_249) rfl ?_
  show Steps _ _ _ (T0.setTop (mkF m 251 #[s0, s1, s2, s3, s4, s5, .val (.int i6), s7, s8, s9, s10, s11, s12, s13, s14, s15, s16, s17, s18, .val (.int i19), s20, s21, s22, s23, s24, s25, s26, s27, s28, s29, s30, s31, s32, s33, s34] [(.int i6), (.int i19)])) _
  refine XS.bipush X0.here hx rfl (hb hby at_251) ?_
  show Steps _ _ _ (T0.setTop (mkF m 253 #[s0, s1, s2, s3, s4, s5, .val (.int i6), s7, s8, s9, s10, s11, s12, s13, s14, s15, s16, s17, s18, .val (.int i19), s20, s21, s22, s23, s24, s25, s26, s27, s28, s29, s30, s31, s32, s33, s34] [(.int (20 : Int32)), (.int i6), (.int i19)])) _
  refine XS.iushr X0.here hx rfl (hb hby at_253) rfl ?_
  show Steps _ _ _ (T0.setTop (mkF m 254 #[s0, s1, s2, s3, s4, s5, .val (.int i6), s7, s8, s9, s10, s11, s12, s13, s14, s15, s16, s17, s18, .val (.int i19), s20, s21, s22, s23, s24, s25, s26, s27, s28, s29, s30, s31, s32, s33, s34] [(.int ((i6.toUInt32 >>> ((20 : Int32) &&& 31).toUInt32).toInt32)), (.int i19)])) _
  refine XS.iconst X0.here hx rfl (hb hby at_254) ?_
  show Steps _ _ _ (T0.setTop (mkF m 255 #[s0, s1, s2, s3, s4, s5, .val (.int i6), s7, s8, s9, s10, s11, s12, s13, s14, s15, s16, s17, s18, .val (.int i19), s20, s21, s22, s23, s24, s25, s26, s27, s28, s29, s30, s31, s32, s33, s34] [(.int (3 : Int32)), (.int ((i6.toUInt32 >>> ((20 : Int32) &&& 31).toUInt32).toInt32)), (.int i19)])) _
  refine XS.iand X0.here hx rfl (hb hby at_255) rfl ?_
  show Steps _ _ _ (T0.setTop (mkF m 256 #[s0, s1, s2, s3, s4, s5, .val (.int i6), s7, s8, s9, s10, s11, s12, s13, s14, s15, s16, s17, s18, .val (.int i19), s20, s21, s22, s23, s24, s25, s26, s27, s28, s29, s30, s31, s32, s33, s34] [(.int (((i6.toUInt32 >>> ((20 : Int32) &&& 31).toUInt32).toInt32) &&& (3 : Int32))), (.int i19)])) _
  refine XS.iadd X0.here hx rfl (hb hby at_256) rfl ?_
  show Steps _ _ _ (T0.setTop (mkF m 257 #[s0, s1, s2, s3, s4, s5, .val (.int i6), s7, s8, s9, s10, s11, s12, s13, s14, s15, s16, s17, s18, .val (.int i19), s20, s21, s22, s23, s24, s25, s26, s27, s28, s29, s30, s31, s32, s33, s34] [(.int (i19 + (((i6.toUInt32 >>> ((20 : Int32) &&& 31).toUInt32).toInt32) &&& (3 : Int32))))])) _
  refine XS.iconst X0.here hx rfl (hb hby at_257) ?_
  show Steps _ _ _ (T0.setTop (mkF m 258 #[s0, s1, s2, s3, s4, s5, .val (.int i6), s7, s8, s9, s10, s11, s12, s13, s14, s15, s16, s17, s18, .val (.int i19), s20, s21, s22, s23, s24, s25, s26, s27, s28, s29, s30, s31, s32, s33, s34] [(.int (1 : Int32)), (.int (i19 + (((i6.toUInt32 >>> ((20 : Int32) &&& 31).toUInt32).toInt32) &&& (3 : Int32))))])) _
  refine XS.isub X0.here hx rfl (hb hby at_258) rfl ?_
  show Steps _ _ _ (T0.setTop (mkF m 259 #[s0, s1, s2, s3, s4, s5, .val (.int i6), s7, s8, s9, s10, s11, s12, s13, s14, s15, s16, s17, s18, .val (.int i19), s20, s21, s22, s23, s24, s25, s26, s27, s28, s29, s30, s31, s32, s33, s34] [(.int ((i19 + (((i6.toUInt32 >>> ((20 : Int32) &&& 31).toUInt32).toInt32) &&& (3 : Int32))) - (1 : Int32)))])) _
  refine XS.istore X0.here hx rfl (hb hby at_259) rfl (l' := #[s0, s1, s2, s3, s4, s5, .val (.int i6), s7, s8, s9, s10, s11, s12, s13, s14, s15, s16, s17, s18, .val (.int i19), s20, s21, s22, s23, s24, s25, .val (.int ((i19 + (((i6.toUInt32 >>> ((20 : Int32) &&& 31).toUInt32).toInt32) &&& (3 : Int32))) - (1 : Int32))), s27, s28, s29, s30, s31, s32, s33, s34]) (os0_259 hs26) ?_
  exact kt
theorem sg11 (s0 s1 s2 s3 s4 s5 : Slot) (i6 : Int32) (s7 s8 s9 s10 s11 s12 s13 s14 s15 s16 s17 s18 : Slot) (i19 : Int32) (s20 s21 s22 s23 s24 s25 s26 s27 s28 s29 s30 s31 s32 s33 s34 : Slot)
    (X0 : Stand p l e R s m args below meth c T0 locs cells slots) (hx : p.tables.exec = Jvm.exec) (hZ : Z.Warmed39 s.vm) (hw : ∀ d ∈ tables_1, d.before a0 Z = true) (hby : c.code = code) (hml : c.maxLocals = 35) (hown : s.vm.findClass own_s1 = some m.cls) (e0 : T0.heap = h0)  (hs26 : One s26) :
    ∃ (T' : State) (y26 : Int32), Stand p l e R s m args below meth c T' locs cells slots ∧ T'.heap = h0 ∧
      ∀ target, Steps p.tables e below (T'.setTop (mkF m 261 #[s0, s1, s2, s3, s4, s5, .val (.int i6), s7, s8, s9, s10, s11, s12, s13, s14, s15, s16, s17, s18, .val (.int i19), s20, s21, s22, s23, s24, s25, .val (.int y26), s27, s28, s29, s30, s31, s32, s33, s34] [])) target → Steps p.tables e below (T0.setTop (mkF m 247 #[s0, s1, s2, s3, s4, s5, .val (.int i6), s7, s8, s9, s10, s11, s12, s13, s14, s15, s16, s17, s18, .val (.int i19), s20, s21, s22, s23, s24, s25, s26, s27, s28, s29, s30, s31, s32, s33, s34] [])) target := by
  obtain ⟨TT1, XX1, ee1, sst1⟩ := tn0_247_261_x s0 s1 s2 s3 s4 s5 i6 s7 s8 s9 s10 s11 s12 s13 s14 s15 s16 s17 s18 i19 s20 s21 s22 s23 s24 s25 s26 s27 s28 s29 s30 s31 s32 s33 s34 X0 hx hZ hw hby hml hown e0 (by first | exact own_oneU | exact own_oneI | exact own_oneR | assumption)
  exact ⟨TT1, ((i19 + (((i6.toUInt32 >>> ((20 : Int32) &&& 31).toUInt32).toInt32) &&& (3 : Int32))) - (1 : Int32)), XX1, ee1, sst1⟩
theorem own_stk {Z : State} {h h' : Heap} {C n d : String} {v : Value} {b : Addr} {K : String} (F : Sta Z h C n d v) (E : Exa Z h b K) (Kp : Keep h h' [b]) : Sta Z h' C n d v := by
  obtain ⟨cf, i, k, f, st, cell, h1, h2, h3, h4, h5, h6, r⟩ := F
  refine ⟨cf, i, k, f, st, cell, h1, h2, h3, h4, Kp.2.1 st cell h5 (ninS (fun q => ?_) nin0), h6, r⟩
  obtain ⟨c2, k2, g1, -, -, g4, -⟩ := E
  subst q; rw [h5] at g1; cases g1; rw [h6] at g4; cases g4
theorem own_insk {Z : State} {h h' : Heap} {a b : Addr} (E : Exa Z h a "[J") (Kp : Keep h h' [b]) : Ins Z h' a "[J" true := Ins.self (E.keep Kp)
theorem pd_0_0 : parseMethodDescriptor "()V" = some ⟨[], none⟩ := by decide +kernel
theorem os0_268 {s0 s1 s2 s3 s4 s5 s6 s7 s8 s9 s10 s11 s12 s13 s14 s15 s16 s17 s18 s19 s20 s21 s22 s23 s24 s25 s26 s27 s28 s29 s30 s31 s32 s33 s34 : Slot} {v : Addr} (h : One s27) : storeLocals #[s0, s1, s2, s3, s4, s5, s6, s7, s8, s9, s10, s11, s12, s13, s14, s15, s16, s17, s18, s19, s20, s21, s22, s23, s24, s25, s26, s27, s28, s29, s30, s31, s32, s33, s34] 27 (.ref v) = some #[s0, s1, s2, s3, s4, s5, s6, s7, s8, s9, s10, s11, s12, s13, s14, s15, s16, s17, s18, s19, s20, s21, s22, s23, s24, s25, s26, .val (.ref v), s28, s29, s30, s31, s32, s33, s34] := by
  rcases h with rfl | ⟨w, rfl, hw⟩
  · rfl
  · cases w <;> first | rfl | (simp [Value.category] at hw)
theorem tn0_261_270_x  (s0 s1 s2 s3 s4 s5 s6 s7 s8 s9 s10 s11 s12 s13 s14 s15 s16 s17 s18 s19 s20 s21 s22 s23 s24 s25 s26 s27 s28 s29 s30 s31 s32 s33 s34 : Slot)
    (X0 : Stand p l e room_1 s m args below meth c T0 locs 5 17) (hx : p.tables.exec = Jvm.exec) (hZ : Z.Warmed39 s.vm) (hw : ∀ d ∈ tables_1, d.before a0 Z = true) (hby : c.code = code) (hml : c.maxLocals = 35) (hown : s.vm.findClass own_s1 = some m.cls) (e0 : T0.heap = h0) (Z0 : n0 ≤ h0.size) (N0 : Fr n0 locs)  (hs27 : One s27) :
    ∃ (T' : State) (L' : List Loc) (b7 : Addr), Stand p l e room_1 s m args below meth c T' L' 6 29 ∧ Fr n0 L' ∧ Ext h0 T'.heap ∧ n0 ≤ b7 ∧ Br Z T'.heap b7 (.int (0 : Int32)) (.int (0 : Int32)) (.long (0 : Int64)) (.int (0 : Int32)) .null .null (.int (0 : Int32)) (.int (0 : Int32)) (.int (0 : Int32)) (.int (0 : Int32)) .null .null ∧
      ∀ target, Steps p.tables e below (T'.setTop (mkF m 270 #[s0, s1, s2, s3, s4, s5, s6, s7, s8, s9, s10, s11, s12, s13, s14, s15, s16, s17, s18, s19, s20, s21, s22, s23, s24, s25, s26, .val (.ref b7), s28, s29, s30, s31, s32, s33, s34] [])) target → Steps p.tables e below (T0.setTop (mkF m 261 #[s0, s1, s2, s3, s4, s5, s6, s7, s8, s9, s10, s11, s12, s13, s14, s15, s16, s17, s18, s19, s20, s21, s22, s23, s24, s25, s26, s27, s28, s29, s30, s31, s32, s33, s34] [])) target := by
  obtain ⟨T7, h7, X7, e7, E7, A7, D7, -, st7⟩ := newO X0 hx hZ hown (own_w hw 10 rfl) (own_w hw 11 rfl) (own_w hw 12 rfl) e0 (g := (mkF m 261 #[s0, s1, s2, s3, s4, s5, s6, s7, s8, s9, s10, s11, s12, s13, s14, s15, s16, s17, s18, s19, s20, s21, s22, s23, s24, s25, s26, s27, s28, s29, s30, s31, s32, s33, s34] [])) rfl (hb hby at_261) (by decide) (by decide)
  obtain ⟨b7, g7⟩ : ∃ z, z = h0.size := ⟨_, rfl⟩
  rw [← g7] at A7 D7 st7
  have F_waits_b7 : Fld Z h7 b7 own_s0 "waits" "Z" (.int (0 : Int32)) := D7 (Or.inl (own_w hw 25 rfl)) (ty := .boolean) (by decide)
  have F_source_b7 : Fld Z h7 b7 own_s0 "source" "I" (.int (0 : Int32)) := D7 (Or.inl (own_w hw 27 rfl)) (ty := .int) (by decide)
  have F_context_b7 : Fld Z h7 b7 own_s0 "context" "J" (.long (0 : Int64)) := D7 (Or.inl (own_w hw 29 rfl)) (ty := .long) (by decide)
  have F_tag_b7 : Fld Z h7 b7 own_s0 "tag" "I" (.int (0 : Int32)) := D7 (Or.inl (own_w hw 31 rfl)) (ty := .int) (by decide)
  have F_type_b7 : Fld Z h7 b7 own_s0 "type" "Lcom/example/cablegram/cablegram/engine/ElementType;" .null := D7 (Or.inl (own_w hw 33 rfl)) (ty := (.object own_s2)) (by decide)
  have F_array_b7 : Fld Z h7 b7 own_s0 "array" "Ljava/lang/Object;" .null := D7 (Or.inl (own_w hw 35 rfl)) (ty := (.object "java/lang/Object")) (by decide)
  have F_offset_b7 : Fld Z h7 b7 own_s0 "offset" "I" (.int (0 : Int32)) := D7 (Or.inl (own_w hw 37 rfl)) (ty := .int) (by decide)
  have F_count_b7 : Fld Z h7 b7 own_s0 "count" "I" (.int (0 : Int32)) := D7 (Or.inl (own_w hw 39 rfl)) (ty := .int) (by decide)
  have F_endedWhenAsked_b7 : Fld Z h7 b7 own_s0 "endedWhenAsked" "I" (.int (0 : Int32)) := D7 (Or.inl (own_w hw 41 rfl)) (ty := .int) (by decide)
  have F_tookInPlace_b7 : Fld Z h7 b7 own_s0 "tookInPlace" "Z" (.int (0 : Int32)) := D7 (Or.inl (own_w hw 43 rfl)) (ty := .boolean) (by decide)
  have F_made_b7 : Fld Z h7 b7 own_s0 "made" "Lcom/example/cablegram/cablegram/engine/Receive;" .null := D7 (Or.inl (own_w hw 45 rfl)) (ty := (.object "com/example/cablegram/cablegram/engine/Receive")) (by decide)
  have F_received_b7 : Fld Z h7 b7 own_s0 "received" "Lcom/example/cablegram/cablegram/engine/Received;" .null := D7 (Or.inl (own_w hw 153 rfl)) (ty := (.object "com/example/cablegram/cablegram/engine/Received")) (by decide)
  have E_b7 := A7
  have g_b7 : n0 ≤ b7 := Nat.le_trans Z0 (Nat.le_of_eq g7.symm)
  have sz_b7 : h0.size ≤ b7 := (Nat.le_trans (Keep.refl h0 []).1 (Nat.le_of_eq g7.symm))
  have K7 : Keep h0 h7 [] := (Keep.refl h0 []).ext E7
  obtain ⟨_, _, ⟨T8, L8, k8, n8⟩, -, X8, ⟨Lc8, hQ8, l8, y8, z8⟩, st8⟩ := X7.specialBack hx (y := own_n0) rfl hown (mvT hZ (own_w hw 13 rfl)) (mvT hZ (own_w hw 14 rfl)) (mvT hZ (own_w hw 15 rfl)) (by decide) (backOf (W := 1) (rm1 l Z a0 hw [] b7 h7 n0 (Nat.le_trans Z0 E7.1)) hZ (own_w hw 15 rfl) (own_w hw 12 rfl) (by decide) (by decide)) (g := (mkF m 265 #[s0, s1, s2, s3, s4, s5, s6, s7, s8, s9, s10, s11, s12, s13, s14, s15, s16, s17, s18, s19, s20, s21, s22, s23, s24, s25, s26, s27, s28, s29, s30, s31, s32, s33, s34] [(.ref b7), (.ref b7)])) rfl (by rw [hml]; rfl) (Steps.refl _) (a := b7) (argsL := []) (rest := [(.ref b7)]) (lenOf pd_0_0 rfl) rfl (by show 2 * 0 + _ ≤ _; exact Nat.le_of_eq rfl) (hb hby at_265) (fun _ _ => ⟨rfl, e7, (by decide : 6 + 0 ≤ _), (by decide : 29 + 0 ≤ _)⟩)
  dsimp only [Pt.U, Pt.locs, Pt.cells, Pt.slots] at X8 l8 y8 z8 st8 hQ8
  subst l8 y8 z8
  obtain ⟨rfl, N8q, eq8⟩ := hQ8
  have N8 := Fr.app N0 N8q
  refine ⟨T8, _, b7, X8, N8, (by rw [eq8]; exact E7), g_b7, (by rw [eq8]; exact ⟨E_b7, F_waits_b7, F_source_b7, F_context_b7, F_tag_b7, F_type_b7, F_array_b7, F_offset_b7, F_count_b7, F_endedWhenAsked_b7, F_tookInPlace_b7, F_made_b7, F_received_b7⟩), fun target kt => ?_⟩
  show Steps _ _ _ (T0.setTop (mkF m 261 #[s0, s1, s2, s3, s4, s5, s6, s7, s8, s9, s10, s11, s12, s13, s14, s15, s16, s17, s18, s19, s20, s21, s22, s23, s24, s25, s26, s27, s28, s29, s30, s31, s32, s33, s34] [])) _
  refine st7 _ ?_
  show Steps _ _ _ (T7.setTop (mkF m 264 #[s0, s1, s2, s3, s4, s5, s6, s7, s8, s9, s10, s11, s12, s13, s14, s15, s16, s17, s18, s19, s20, s21, s22, s23, s24, s25, s26, s27, s28, s29, s30, s31, s32, s33, s34] [(.ref b7)])) _
  refine XS.dup X7.here hx rfl (hb hby at_264) rfl rfl ?_
  show Steps _ _ _ (T7.setTop (mkF m 265 #[s0, s1, s2, s3, s4, s5, s6, s7, s8, s9, s10, s11, s12, s13, s14, s15, s16, s17, s18, s19, s20, s21, s22, s23, s24, s25, s26, s27, s28, s29, s30, s31, s32, s33, s34] [(.ref b7), (.ref b7)])) _
  refine st8.trans ?_
  show Steps _ _ _ (T8.setTop (mkF m 268 #[s0, s1, s2, s3, s4, s5, s6, s7, s8, s9, s10, s11, s12, s13, s14, s15, s16, s17, s18, s19, s20, s21, s22, s23, s24, s25, s26, s27, s28, s29, s30, s31, s32, s33, s34] [(.ref b7)])) _
  refine XS.astore X8.here hx rfl (hb hby at_268) rfl rfl (l' := #[s0, s1, s2, s3, s4, s5, s6, s7, s8, s9, s10, s11, s12, s13, s14, s15, s16, s17, s18, s19, s20, s21, s22, s23, s24, s25, s26, .val (.ref b7), s28, s29, s30, s31, s32, s33, s34]) (os0_268 hs27) ?_
  exact kt
theorem pd_0_1 : parseMethodDescriptor "(IJILcom/example/cablegram/cablegram/engine/ElementType;Ljava/lang/Object;II)V" = some ⟨[.int, .long, .int, (.object own_s2), (.object "java/lang/Object"), .int, .int], none⟩ := by decide +kernel
theorem os0_282 {s0 : Slot} {z1 z3 z4 : Value} {s5 : Slot} {z6 : Value} {s7 s8 s9 s10 : Slot} {z11 : Value} {s12 s13 s14 s15 s16 s17 s18 s19 s20 s21 s22 s23 s24 s25 s26 : Slot} {z27 : Value} {s28 s29 s30 s31 s32 s33 s34 : Slot} {v : Int32} (h : One s28) : storeLocals #[s0, .val z1, .second, .val z3, .val z4, s5, .val z6, s7, s8, s9, s10, .val z11, s12, s13, s14, s15, s16, s17, s18, s19, s20, s21, s22, s23, s24, s25, s26, .val z27, s28, s29, s30, s31, s32, s33, s34] 28 (.int v) = some #[s0, .val z1, .second, .val z3, .val z4, s5, .val z6, s7, s8, s9, s10, .val z11, s12, s13, s14, s15, s16, s17, s18, s19, s20, s21, s22, s23, s24, s25, s26, .val z27, .val (.int v), s29, s30, s31, s32, s33, s34] := by
  rcases h with rfl | ⟨w, rfl, hw⟩
  · rfl
  · cases w <;> first | rfl | (simp [Value.category] at hw)
theorem tn0_270_311_ff {v0 v1 v2 v3 v4 v5 v6 v7 v8 v9 v10 : Value} (s0 : Slot) (j1 : Int64) (i3 i4 : Int32) (s5 : Slot) (i6 : Int32) (s7 s8 s9 s10 : Slot) (o11 : Addr) (s12 s13 s14 s15 s16 s17 s18 s19 s20 s21 s22 s23 s24 s25 s26 : Slot) (o27 : Addr) (s28 s29 s30 s31 s32 s33 s34 : Slot) (w7 : Addr)
    (X0 : Stand p l e room_1 s m args below meth c T0 locs 6 29) (hx : p.tables.exec = Jvm.exec) (hZ : Z.Warmed39 s.vm) (hw : ∀ d ∈ tables_1, d.before a0 Z = true) (hby : c.code = code) (hml : c.maxLocals = 35) (hown : s.vm.findClass own_s1 = some m.cls) (e0 : T0.heap = h0) (Z0 : n0 ≤ h0.size) (N0 : Fr n0 locs) (B : Br Z h0 o27 v0 v1 v2 v3 v4 v5 v6 v7 v8 v9 v10 .null) (g : n0 ≤ o27) (hs28 : One s28) (S_LONG : Sta Z h0 own_s2 "LONG" "Lcom/example/cablegram/cablegram/engine/ElementType;" (.ref w7)) (hc274 : ¬ ((i4 &&& (1 : Int32)) = (0 : Int32))) (hc286 : ¬ ((1 : Int32) = (0 : Int32))) :
    ∃ (T' : State) (L' : List Loc), Stand p l e room_1 s m args below meth c T' L' 6 29 ∧ Fr n0 L' ∧ Keep h0 T'.heap [o27] ∧ Br Z T'.heap o27 (.int (1 : Int32)) (.int i6) (.long (j1 ^^^ (2 : Int64))) (.int (i3 ^^^ (-1 : Int32))) (.ref w7) (.ref o11) (.int (0 : Int32)) (.int (1 : Int32)) (.int (-1 : Int32)) (.int (0 : Int32)) .null .null ∧
      ∀ target, Steps p.tables e below (T'.setTop (mkF m 311 #[s0, .val (.long j1), .second, .val (.int i3), .val (.int i4), s5, .val (.int i6), s7, s8, s9, s10, .val (.ref o11), s12, s13, s14, s15, s16, s17, s18, s19, s20, s21, s22, s23, s24, s25, s26, .val (.ref o27), .val (.int (1 : Int32)), s29, s30, s31, s32, s33, s34] [])) target → Steps p.tables e below (T0.setTop (mkF m 270 #[s0, .val (.long j1), .second, .val (.int i3), .val (.int i4), s5, .val (.int i6), s7, s8, s9, s10, .val (.ref o11), s12, s13, s14, s15, s16, s17, s18, s19, s20, s21, s22, s23, s24, s25, s26, .val (.ref o27), s28, s29, s30, s31, s32, s33, s34] [])) target := by
  have E_o27 : Exa Z h0 o27 own_s0 := B.1
  obtain ⟨T8, X8, e8, st8⟩ := getS2 X0 hx hZ hown (host := "") (Or.inl (own_w hw 7 rfl)) Via.refl e0 S_LONG (g := (mkF m 301 #[s0, .val (.long j1), .second, .val (.int i3), .val (.int i4), s5, .val (.int i6), s7, s8, s9, s10, .val (.ref o11), s12, s13, s14, s15, s16, s17, s18, s19, s20, s21, s22, s23, s24, s25, s26, .val (.ref o27), .val (.int (1 : Int32)), s29, s30, s31, s32, s33, s34] [(.int (i3 ^^^ (-1 : Int32))), (.long (j1 ^^^ (2 : Int64))), (.int i6), (.ref o27)])) rfl (hb hby at_301)
  obtain ⟨cq9, kq9, q9a, q9b, q9c⟩ := isOf hZ e8 E_o27
  obtain ⟨_, _, ⟨T9, L9, k9, n9⟩, -, X9, ⟨Lc9, hQ9, l9, y9, z9⟩, st9⟩ := X8.virtualBack hx (y := own_n1) (z := own_n1) hown (mvT hZ (own_w hw 19 rfl)) (mvT hZ (own_w hw 20 rfl)) (notFace_of_selects (args := #[]) (mvT hZ (own_w hw 22 rfl))) (mvT hZ (own_w hw 22 rfl)) (mvT hZ (own_w hw 21 rfl)) (by decide) (backOf (W := 0) (rm3B l Z a0 hw [] o27 i6 (j1 ^^^ (2 : Int64)) (i3 ^^^ (-1 : Int32)) w7 o11 (0 : Int32) (1 : Int32) v0 v1 v2 v3 v4 v5 v6 v7 v8 v9 v10 .null h0 n0 Z0 g B) hZ (own_w hw 23 rfl) (own_w hw 12 rfl) (by decide) (by decide)) q9a q9c (g := (mkF m 308 #[s0, .val (.long j1), .second, .val (.int i3), .val (.int i4), s5, .val (.int i6), s7, s8, s9, s10, .val (.ref o11), s12, s13, s14, s15, s16, s17, s18, s19, s20, s21, s22, s23, s24, s25, s26, .val (.ref o27), .val (.int (1 : Int32)), s29, s30, s31, s32, s33, s34] [(.int (1 : Int32)), (.int (0 : Int32)), (.ref o11), (.ref w7), (.int (i3 ^^^ (-1 : Int32))), (.long (j1 ^^^ (2 : Int64))), (.int i6), (.ref o27)])) rfl (by rw [hml]; rfl) (Steps.refl _) (argsL := [(.int i6), (.long (j1 ^^^ (2 : Int64))), (.int (i3 ^^^ (-1 : Int32))), (.ref w7), (.ref o11), (.int (0 : Int32)), (.int (1 : Int32))]) (rest := []) (lenOf pd_0_1 rfl) rfl (by show 2 * 0 + _ ≤ _; exact Nat.le_of_eq rfl) (hb hby at_308) (fun _ _ => ⟨rfl, e8, (by decide : 6 + 0 ≤ _), (by decide : 29 + 0 ≤ _)⟩)
  dsimp only [Pt.U, Pt.locs, Pt.cells, Pt.slots] at X9 l9 y9 z9 st9 hQ9
  subst l9 y9 z9
  obtain ⟨rfl, N9q, Kq, Bq⟩ := hQ9
  have N9 := Fr.app N0 N9q
  refine ⟨T9, _, X9, N9, Kq, Bq, fun target kt => ?_⟩
  show Steps _ _ _ (T0.setTop (mkF m 270 #[s0, .val (.long j1), .second, .val (.int i3), .val (.int i4), s5, .val (.int i6), s7, s8, s9, s10, .val (.ref o11), s12, s13, s14, s15, s16, s17, s18, s19, s20, s21, s22, s23, s24, s25, s26, .val (.ref o27), s28, s29, s30, s31, s32, s33, s34] [])) _
  refine XS.iload X0.here hx rfl (hb hby at_270) rfl ?_
  show Steps _ _ _ (T0.setTop (mkF m 272 #[s0, .val (.long j1), .second, .val (.int i3), .val (.int i4), s5, .val (.int i6), s7, s8, s9, s10, .val (.ref o11), s12, s13, s14, s15, s16, s17, s18, s19, s20, s21, s22, s23, s24, s25, s26, .val (.ref o27), s28, s29, s30, s31, s32, s33, s34] [(.int i4)])) _
  refine XS.iconst X0.here hx rfl (hb hby at_272) ?_
  show Steps _ _ _ (T0.setTop (mkF m 273 #[s0, .val (.long j1), .second, .val (.int i3), .val (.int i4), s5, .val (.int i6), s7, s8, s9, s10, .val (.ref o11), s12, s13, s14, s15, s16, s17, s18, s19, s20, s21, s22, s23, s24, s25, s26, .val (.ref o27), s28, s29, s30, s31, s32, s33, s34] [(.int (1 : Int32)), (.int i4)])) _
  refine XS.iand X0.here hx rfl (hb hby at_273) rfl ?_
  show Steps _ _ _ (T0.setTop (mkF m 274 #[s0, .val (.long j1), .second, .val (.int i3), .val (.int i4), s5, .val (.int i6), s7, s8, s9, s10, .val (.ref o11), s12, s13, s14, s15, s16, s17, s18, s19, s20, s21, s22, s23, s24, s25, s26, .val (.ref o27), s28, s29, s30, s31, s32, s33, s34] [(.int (i4 &&& (1 : Int32)))])) _
  refine XS.ifNo X0.here hx rfl (hb hby at_274) rfl ((if0 _ _).trans (feq hc274).1) ?_
  show Steps _ _ _ (T0.setTop (mkF m 277 #[s0, .val (.long j1), .second, .val (.int i3), .val (.int i4), s5, .val (.int i6), s7, s8, s9, s10, .val (.ref o11), s12, s13, s14, s15, s16, s17, s18, s19, s20, s21, s22, s23, s24, s25, s26, .val (.ref o27), s28, s29, s30, s31, s32, s33, s34] [])) _
  refine XS.iconst X0.here hx rfl (hb hby at_277) ?_
  show Steps _ _ _ (T0.setTop (mkF m 278 #[s0, .val (.long j1), .second, .val (.int i3), .val (.int i4), s5, .val (.int i6), s7, s8, s9, s10, .val (.ref o11), s12, s13, s14, s15, s16, s17, s18, s19, s20, s21, s22, s23, s24, s25, s26, .val (.ref o27), s28, s29, s30, s31, s32, s33, s34] [(.int (1 : Int32))])) _
  refine XS.goto X0.here hx rfl (pc0 := 278) (pc' := 282) rfl (hb hby at_278) (by decide) (by decide) ?_
  show Steps _ _ _ (T0.setTop (mkF m 282 #[s0, .val (.long j1), .second, .val (.int i3), .val (.int i4), s5, .val (.int i6), s7, s8, s9, s10, .val (.ref o11), s12, s13, s14, s15, s16, s17, s18, s19, s20, s21, s22, s23, s24, s25, s26, .val (.ref o27), s28, s29, s30, s31, s32, s33, s34] [(.int (1 : Int32))])) _
  refine XS.istore X0.here hx rfl (hb hby at_282) rfl (l' := #[s0, .val (.long j1), .second, .val (.int i3), .val (.int i4), s5, .val (.int i6), s7, s8, s9, s10, .val (.ref o11), s12, s13, s14, s15, s16, s17, s18, s19, s20, s21, s22, s23, s24, s25, s26, .val (.ref o27), .val (.int (1 : Int32)), s29, s30, s31, s32, s33, s34]) (os0_282 hs28) ?_
  show Steps _ _ _ (T0.setTop (mkF m 284 #[s0, .val (.long j1), .second, .val (.int i3), .val (.int i4), s5, .val (.int i6), s7, s8, s9, s10, .val (.ref o11), s12, s13, s14, s15, s16, s17, s18, s19, s20, s21, s22, s23, s24, s25, s26, .val (.ref o27), .val (.int (1 : Int32)), s29, s30, s31, s32, s33, s34] [])) _
  refine XS.iload X0.here hx rfl (hb hby at_284) rfl ?_
  show Steps _ _ _ (T0.setTop (mkF m 286 #[s0, .val (.long j1), .second, .val (.int i3), .val (.int i4), s5, .val (.int i6), s7, s8, s9, s10, .val (.ref o11), s12, s13, s14, s15, s16, s17, s18, s19, s20, s21, s22, s23, s24, s25, s26, .val (.ref o27), .val (.int (1 : Int32)), s29, s30, s31, s32, s33, s34] [(.int (1 : Int32))])) _
  refine XS.ifNo X0.here hx rfl (hb hby at_286) rfl ((if0 _ _).trans (feq hc286).1) ?_
  show Steps _ _ _ (T0.setTop (mkF m 289 #[s0, .val (.long j1), .second, .val (.int i3), .val (.int i4), s5, .val (.int i6), s7, s8, s9, s10, .val (.ref o11), s12, s13, s14, s15, s16, s17, s18, s19, s20, s21, s22, s23, s24, s25, s26, .val (.ref o27), .val (.int (1 : Int32)), s29, s30, s31, s32, s33, s34] [])) _
  refine XS.aload X0.here hx rfl (hb hby at_289) rfl rfl ?_
  show Steps _ _ _ (T0.setTop (mkF m 291 #[s0, .val (.long j1), .second, .val (.int i3), .val (.int i4), s5, .val (.int i6), s7, s8, s9, s10, .val (.ref o11), s12, s13, s14, s15, s16, s17, s18, s19, s20, s21, s22, s23, s24, s25, s26, .val (.ref o27), .val (.int (1 : Int32)), s29, s30, s31, s32, s33, s34] [(.ref o27)])) _
  refine XS.iload X0.here hx rfl (hb hby at_291) rfl ?_
  show Steps _ _ _ (T0.setTop (mkF m 293 #[s0, .val (.long j1), .second, .val (.int i3), .val (.int i4), s5, .val (.int i6), s7, s8, s9, s10, .val (.ref o11), s12, s13, s14, s15, s16, s17, s18, s19, s20, s21, s22, s23, s24, s25, s26, .val (.ref o27), .val (.int (1 : Int32)), s29, s30, s31, s32, s33, s34] [(.int i6), (.ref o27)])) _
  refine XS.lloadN X0.here hx rfl (hb hby at_293) rfl ?_
  show Steps _ _ _ (T0.setTop (mkF m 294 #[s0, .val (.long j1), .second, .val (.int i3), .val (.int i4), s5, .val (.int i6), s7, s8, s9, s10, .val (.ref o11), s12, s13, s14, s15, s16, s17, s18, s19, s20, s21, s22, s23, s24, s25, s26, .val (.ref o27), .val (.int (1 : Int32)), s29, s30, s31, s32, s33, s34] [(.long j1), (.int i6), (.ref o27)])) _
  refine X0.ldc2Long hx hown (mvT hZ (own_w hw 130 rfl)) (g := (mkF m 294 #[s0, .val (.long j1), .second, .val (.int i3), .val (.int i4), s5, .val (.int i6), s7, s8, s9, s10, .val (.ref o11), s12, s13, s14, s15, s16, s17, s18, s19, s20, s21, s22, s23, s24, s25, s26, .val (.ref o27), .val (.int (1 : Int32)), s29, s30, s31, s32, s33, s34] [(.long j1), (.int i6), (.ref o27)])) rfl (hb hby at_294) _ ?_
  show Steps _ _ _ (T0.setTop (mkF m 297 #[s0, .val (.long j1), .second, .val (.int i3), .val (.int i4), s5, .val (.int i6), s7, s8, s9, s10, .val (.ref o11), s12, s13, s14, s15, s16, s17, s18, s19, s20, s21, s22, s23, s24, s25, s26, .val (.ref o27), .val (.int (1 : Int32)), s29, s30, s31, s32, s33, s34] [(.long (2 : Int64)), (.long j1), (.int i6), (.ref o27)])) _
  refine XS.lxor X0.here hx rfl (hb hby at_297) rfl ?_
  show Steps _ _ _ (T0.setTop (mkF m 298 #[s0, .val (.long j1), .second, .val (.int i3), .val (.int i4), s5, .val (.int i6), s7, s8, s9, s10, .val (.ref o11), s12, s13, s14, s15, s16, s17, s18, s19, s20, s21, s22, s23, s24, s25, s26, .val (.ref o27), .val (.int (1 : Int32)), s29, s30, s31, s32, s33, s34] [(.long (j1 ^^^ (2 : Int64))), (.int i6), (.ref o27)])) _
  refine XS.iloadN X0.here hx rfl (hb hby at_298) rfl ?_
  show Steps _ _ _ (T0.setTop (mkF m 299 #[s0, .val (.long j1), .second, .val (.int i3), .val (.int i4), s5, .val (.int i6), s7, s8, s9, s10, .val (.ref o11), s12, s13, s14, s15, s16, s17, s18, s19, s20, s21, s22, s23, s24, s25, s26, .val (.ref o27), .val (.int (1 : Int32)), s29, s30, s31, s32, s33, s34] [(.int i3), (.long (j1 ^^^ (2 : Int64))), (.int i6), (.ref o27)])) _
  refine XS.iconst X0.here hx rfl (hb hby at_299) ?_
  show Steps _ _ _ (T0.setTop (mkF m 300 #[s0, .val (.long j1), .second, .val (.int i3), .val (.int i4), s5, .val (.int i6), s7, s8, s9, s10, .val (.ref o11), s12, s13, s14, s15, s16, s17, s18, s19, s20, s21, s22, s23, s24, s25, s26, .val (.ref o27), .val (.int (1 : Int32)), s29, s30, s31, s32, s33, s34] [(.int (-1 : Int32)), (.int i3), (.long (j1 ^^^ (2 : Int64))), (.int i6), (.ref o27)])) _
  refine XS.ixor X0.here hx rfl (hb hby at_300) rfl ?_
  show Steps _ _ _ (T0.setTop (mkF m 301 #[s0, .val (.long j1), .second, .val (.int i3), .val (.int i4), s5, .val (.int i6), s7, s8, s9, s10, .val (.ref o11), s12, s13, s14, s15, s16, s17, s18, s19, s20, s21, s22, s23, s24, s25, s26, .val (.ref o27), .val (.int (1 : Int32)), s29, s30, s31, s32, s33, s34] [(.int (i3 ^^^ (-1 : Int32))), (.long (j1 ^^^ (2 : Int64))), (.int i6), (.ref o27)])) _
  refine st8 _ ?_
  show Steps _ _ _ (T8.setTop (mkF m 304 #[s0, .val (.long j1), .second, .val (.int i3), .val (.int i4), s5, .val (.int i6), s7, s8, s9, s10, .val (.ref o11), s12, s13, s14, s15, s16, s17, s18, s19, s20, s21, s22, s23, s24, s25, s26, .val (.ref o27), .val (.int (1 : Int32)), s29, s30, s31, s32, s33, s34] [(.ref w7), (.int (i3 ^^^ (-1 : Int32))), (.long (j1 ^^^ (2 : Int64))), (.int i6), (.ref o27)])) _
  refine XS.aload X8.here hx rfl (hb hby at_304) rfl rfl ?_
  show Steps _ _ _ (T8.setTop (mkF m 306 #[s0, .val (.long j1), .second, .val (.int i3), .val (.int i4), s5, .val (.int i6), s7, s8, s9, s10, .val (.ref o11), s12, s13, s14, s15, s16, s17, s18, s19, s20, s21, s22, s23, s24, s25, s26, .val (.ref o27), .val (.int (1 : Int32)), s29, s30, s31, s32, s33, s34] [(.ref o11), (.ref w7), (.int (i3 ^^^ (-1 : Int32))), (.long (j1 ^^^ (2 : Int64))), (.int i6), (.ref o27)])) _
  refine XS.iconst X8.here hx rfl (hb hby at_306) ?_
  show Steps _ _ _ (T8.setTop (mkF m 307 #[s0, .val (.long j1), .second, .val (.int i3), .val (.int i4), s5, .val (.int i6), s7, s8, s9, s10, .val (.ref o11), s12, s13, s14, s15, s16, s17, s18, s19, s20, s21, s22, s23, s24, s25, s26, .val (.ref o27), .val (.int (1 : Int32)), s29, s30, s31, s32, s33, s34] [(.int (0 : Int32)), (.ref o11), (.ref w7), (.int (i3 ^^^ (-1 : Int32))), (.long (j1 ^^^ (2 : Int64))), (.int i6), (.ref o27)])) _
  refine XS.iconst X8.here hx rfl (hb hby at_307) ?_
  show Steps _ _ _ (T8.setTop (mkF m 308 #[s0, .val (.long j1), .second, .val (.int i3), .val (.int i4), s5, .val (.int i6), s7, s8, s9, s10, .val (.ref o11), s12, s13, s14, s15, s16, s17, s18, s19, s20, s21, s22, s23, s24, s25, s26, .val (.ref o27), .val (.int (1 : Int32)), s29, s30, s31, s32, s33, s34] [(.int (1 : Int32)), (.int (0 : Int32)), (.ref o11), (.ref w7), (.int (i3 ^^^ (-1 : Int32))), (.long (j1 ^^^ (2 : Int64))), (.int i6), (.ref o27)])) _
  refine st9.trans ?_
  exact kt
theorem os0_282_tt {s0 s1 s2 s3 : Slot} {z4 : Value} {s5 s6 s7 s8 s9 s10 s11 s12 s13 s14 s15 s16 s17 s18 s19 s20 s21 s22 s23 s24 s25 s26 s27 s28 s29 s30 s31 s32 s33 s34 : Slot} {v : Int32} (h : One s28) : storeLocals #[s0, s1, s2, s3, .val z4, s5, s6, s7, s8, s9, s10, s11, s12, s13, s14, s15, s16, s17, s18, s19, s20, s21, s22, s23, s24, s25, s26, s27, s28, s29, s30, s31, s32, s33, s34] 28 (.int v) = some #[s0, s1, s2, s3, .val z4, s5, s6, s7, s8, s9, s10, s11, s12, s13, s14, s15, s16, s17, s18, s19, s20, s21, s22, s23, s24, s25, s26, s27, .val (.int v), s29, s30, s31, s32, s33, s34] := by
  rcases h with rfl | ⟨w, rfl, hw⟩
  · rfl
  · cases w <;> first | rfl | (simp [Value.category] at hw)
theorem tn0_270_311_tt (s0 s1 s2 s3 : Slot) (i4 : Int32) (s5 s6 s7 s8 s9 s10 s11 s12 s13 s14 s15 s16 s17 s18 s19 s20 s21 s22 s23 s24 s25 s26 s27 s28 s29 s30 s31 s32 s33 s34 : Slot)
    (X0 : Stand p l e R s m args below meth c T0 locs cells slots) (hx : p.tables.exec = Jvm.exec) (hZ : Z.Warmed39 s.vm) (hw : ∀ d ∈ tables_1, d.before a0 Z = true) (hby : c.code = code) (hml : c.maxLocals = 35) (hown : s.vm.findClass own_s1 = some m.cls) (e0 : T0.heap = h0) (hs28 : One s28) (hc274 : (i4 &&& (1 : Int32)) = (0 : Int32)) :
    ∃ (T' : State), Stand p l e R s m args below meth c T' locs cells slots ∧ T'.heap = h0 ∧
      ∀ target, Steps p.tables e below (T'.setTop (mkF m 311 #[s0, s1, s2, s3, .val (.int i4), s5, s6, s7, s8, s9, s10, s11, s12, s13, s14, s15, s16, s17, s18, s19, s20, s21, s22, s23, s24, s25, s26, s27, .val (.int (0 : Int32)), s29, s30, s31, s32, s33, s34] [])) target → Steps p.tables e below (T0.setTop (mkF m 270 #[s0, s1, s2, s3, .val (.int i4), s5, s6, s7, s8, s9, s10, s11, s12, s13, s14, s15, s16, s17, s18, s19, s20, s21, s22, s23, s24, s25, s26, s27, s28, s29, s30, s31, s32, s33, s34] [])) target := by
  refine ⟨T0, X0, e0, fun target kt => ?_⟩
  show Steps _ _ _ (T0.setTop (mkF m 270 #[s0, s1, s2, s3, .val (.int i4), s5, s6, s7, s8, s9, s10, s11, s12, s13, s14, s15, s16, s17, s18, s19, s20, s21, s22, s23, s24, s25, s26, s27, s28, s29, s30, s31, s32, s33, s34] [])) _
  refine XS.iload X0.here hx rfl (hb hby at_270) rfl ?_
  show Steps _ _ _ (T0.setTop (mkF m 272 #[s0, s1, s2, s3, .val (.int i4), s5, s6, s7, s8, s9, s10, s11, s12, s13, s14, s15, s16, s17, s18, s19, s20, s21, s22, s23, s24, s25, s26, s27, s28, s29, s30, s31, s32, s33, s34] [(.int i4)])) _
  refine XS.iconst X0.here hx rfl (hb hby at_272) ?_
  show Steps _ _ _ (T0.setTop (mkF m 273 #[s0, s1, s2, s3, .val (.int i4), s5, s6, s7, s8, s9, s10, s11, s12, s13, s14, s15, s16, s17, s18, s19, s20, s21, s22, s23, s24, s25, s26, s27, s28, s29, s30, s31, s32, s33, s34] [(.int (1 : Int32)), (.int i4)])) _
  refine XS.iand X0.here hx rfl (hb hby at_273) rfl ?_
  show Steps _ _ _ (T0.setTop (mkF m 274 #[s0, s1, s2, s3, .val (.int i4), s5, s6, s7, s8, s9, s10, s11, s12, s13, s14, s15, s16, s17, s18, s19, s20, s21, s22, s23, s24, s25, s26, s27, s28, s29, s30, s31, s32, s33, s34] [(.int (i4 &&& (1 : Int32)))])) _
  refine XS.ifYes X0.here hx rfl (pc0 := 274) (pc' := 281) rfl (hb hby at_274) rfl ((if0 _ _).trans (teq hc274).1) (by decide) (by decide) ?_
  show Steps _ _ _ (T0.setTop (mkF m 281 #[s0, s1, s2, s3, .val (.int i4), s5, s6, s7, s8, s9, s10, s11, s12, s13, s14, s15, s16, s17, s18, s19, s20, s21, s22, s23, s24, s25, s26, s27, s28, s29, s30, s31, s32, s33, s34] [])) _
  refine XS.iconst X0.here hx rfl (hb hby at_281) ?_
  show Steps _ _ _ (T0.setTop (mkF m 282 #[s0, s1, s2, s3, .val (.int i4), s5, s6, s7, s8, s9, s10, s11, s12, s13, s14, s15, s16, s17, s18, s19, s20, s21, s22, s23, s24, s25, s26, s27, s28, s29, s30, s31, s32, s33, s34] [(.int (0 : Int32))])) _
  refine XS.istore X0.here hx rfl (hb hby at_282) rfl (l' := #[s0, s1, s2, s3, .val (.int i4), s5, s6, s7, s8, s9, s10, s11, s12, s13, s14, s15, s16, s17, s18, s19, s20, s21, s22, s23, s24, s25, s26, s27, .val (.int (0 : Int32)), s29, s30, s31, s32, s33, s34]) (os0_282_tt hs28) ?_
  show Steps _ _ _ (T0.setTop (mkF m 284 #[s0, s1, s2, s3, .val (.int i4), s5, s6, s7, s8, s9, s10, s11, s12, s13, s14, s15, s16, s17, s18, s19, s20, s21, s22, s23, s24, s25, s26, s27, .val (.int (0 : Int32)), s29, s30, s31, s32, s33, s34] [])) _
  refine XS.iload X0.here hx rfl (hb hby at_284) rfl ?_
  show Steps _ _ _ (T0.setTop (mkF m 286 #[s0, s1, s2, s3, .val (.int i4), s5, s6, s7, s8, s9, s10, s11, s12, s13, s14, s15, s16, s17, s18, s19, s20, s21, s22, s23, s24, s25, s26, s27, .val (.int (0 : Int32)), s29, s30, s31, s32, s33, s34] [(.int (0 : Int32))])) _
  refine XS.ifYes X0.here hx rfl (pc0 := 286) (pc' := 311) rfl (hb hby at_286) rfl ((if0 _ _).trans (teq (rfl : (0 : Int32) = (0 : Int32))).1) (by decide) (by decide) ?_
  exact kt
theorem tn0_311_326_t (s0 s1 s2 s3 : Slot) (i4 : Int32) (s5 s6 s7 s8 s9 s10 s11 s12 s13 s14 s15 s16 s17 s18 s19 s20 s21 s22 s23 s24 s25 s26 s27 s28 s29 s30 s31 s32 s33 s34 : Slot)
    (X0 : Stand p l e R s m args below meth c T0 locs cells slots) (hx : p.tables.exec = Jvm.exec) (hZ : Z.Warmed39 s.vm) (hw : ∀ d ∈ tables_1, d.before a0 Z = true) (hby : c.code = code) (hml : c.maxLocals = 35) (hown : s.vm.findClass own_s1 = some m.cls) (e0 : T0.heap = h0) (hc315 : (i4 &&& (2 : Int32)) = (0 : Int32)) :
    ∃ (T' : State), Stand p l e R s m args below meth c T' locs cells slots ∧ T'.heap = h0 ∧
      ∀ target, Steps p.tables e below (T'.setTop (mkF m 326 #[s0, s1, s2, s3, .val (.int i4), s5, s6, s7, s8, s9, s10, s11, s12, s13, s14, s15, s16, s17, s18, s19, s20, s21, s22, s23, s24, s25, s26, s27, s28, s29, s30, s31, s32, s33, s34] [])) target → Steps p.tables e below (T0.setTop (mkF m 311 #[s0, s1, s2, s3, .val (.int i4), s5, s6, s7, s8, s9, s10, s11, s12, s13, s14, s15, s16, s17, s18, s19, s20, s21, s22, s23, s24, s25, s26, s27, s28, s29, s30, s31, s32, s33, s34] [])) target := by
  refine ⟨T0, X0, e0, fun target kt => ?_⟩
  show Steps _ _ _ (T0.setTop (mkF m 311 #[s0, s1, s2, s3, .val (.int i4), s5, s6, s7, s8, s9, s10, s11, s12, s13, s14, s15, s16, s17, s18, s19, s20, s21, s22, s23, s24, s25, s26, s27, s28, s29, s30, s31, s32, s33, s34] [])) _
  refine XS.iload X0.here hx rfl (hb hby at_311) rfl ?_
  show Steps _ _ _ (T0.setTop (mkF m 313 #[s0, s1, s2, s3, .val (.int i4), s5, s6, s7, s8, s9, s10, s11, s12, s13, s14, s15, s16, s17, s18, s19, s20, s21, s22, s23, s24, s25, s26, s27, s28, s29, s30, s31, s32, s33, s34] [(.int i4)])) _
  refine XS.iconst X0.here hx rfl (hb hby at_313) ?_
  show Steps _ _ _ (T0.setTop (mkF m 314 #[s0, s1, s2, s3, .val (.int i4), s5, s6, s7, s8, s9, s10, s11, s12, s13, s14, s15, s16, s17, s18, s19, s20, s21, s22, s23, s24, s25, s26, s27, s28, s29, s30, s31, s32, s33, s34] [(.int (2 : Int32)), (.int i4)])) _
  refine XS.iand X0.here hx rfl (hb hby at_314) rfl ?_
  show Steps _ _ _ (T0.setTop (mkF m 315 #[s0, s1, s2, s3, .val (.int i4), s5, s6, s7, s8, s9, s10, s11, s12, s13, s14, s15, s16, s17, s18, s19, s20, s21, s22, s23, s24, s25, s26, s27, s28, s29, s30, s31, s32, s33, s34] [(.int (i4 &&& (2 : Int32)))])) _
  refine XS.ifYes X0.here hx rfl (pc0 := 315) (pc' := 326) rfl (hb hby at_315) rfl ((if0 _ _).trans (teq hc315).1) (by decide) (by decide) ?_
  exact kt
theorem pd_0_10 : parseMethodDescriptor "(Lcom/example/cablegram/cablegram/engine/CompletionOrder;Lcom/example/cablegram/cablegram/engine/ArraysAhead;)Lcom/example/cablegram/cablegram/engine/Receive;" = some ⟨[(.object "com/example/cablegram/cablegram/engine/CompletionOrder"), (.object "com/example/cablegram/cablegram/engine/ArraysAhead")], some (.object "com/example/cablegram/cablegram/engine/Receive")⟩ := by decide +kernel
theorem tn0_311_326_R {v0 v8 v9 v10 v11 : Value} {m1 : Int32} {m2 : Int64} {m3 : Int32} {m4 m5 : Addr} {m6 m7 : Int32} (s0 s1 s2 s3 : Slot) (i4 : Int32) (s5 s6 s7 s8 s9 s10 s11 s12 s13 s14 s15 s16 s17 s18 s19 s20 s21 s22 s23 s24 s25 s26 : Slot) (o27 : Addr) (s28 s29 s30 s31 s32 s33 s34 : Slot)
    (X0 : Stand p l e room_1 s m args below meth c T0 locs 6 29) (hx : p.tables.exec = Jvm.exec) (hZ : Z.Warmed39 s.vm) (hw : ∀ d ∈ tables_1, d.before a0 Z = true) (hby : c.code = code) (hml : c.maxLocals = 35) (hown : s.vm.findClass own_s1 = some m.cls) (e0 : T0.heap = h0) (Z0 : n0 ≤ h0.size) (N0 : Fr n0 locs) (B : Br Z h0 o27 v0 (.int m1) (.long m2) (.int m3) (.ref m4) (.ref m5) (.int m6) (.int m7) v8 v9 v10 v11) (g : n0 ≤ o27) (hc315 : ¬ ((i4 &&& (2 : Int32)) = (0 : Int32))) :
    ∃ (T' : State) (L' : List Loc) (x10 : Value), Stand p l e room_1 s m args below meth c T' L' 7 42 ∧ Fr n0 L' ∧ Keep h0 T'.heap [o27] ∧ Br Z T'.heap o27 v0 (.int m1) (.long m2) (.int m3) (.ref m4) (.ref m5) (.int m6) (.int m7) v8 v9 x10 v11 ∧
      ∀ target, Steps p.tables e below (T'.setTop (mkF m 326 #[s0, s1, s2, s3, .val (.int i4), s5, s6, s7, s8, s9, s10, s11, s12, s13, s14, s15, s16, s17, s18, s19, s20, s21, s22, s23, s24, s25, s26, .val (.ref o27), s28, s29, s30, s31, s32, s33, s34] [])) target → Steps p.tables e below (T0.setTop (mkF m 311 #[s0, s1, s2, s3, .val (.int i4), s5, s6, s7, s8, s9, s10, s11, s12, s13, s14, s15, s16, s17, s18, s19, s20, s21, s22, s23, s24, s25, s26, .val (.ref o27), s28, s29, s30, s31, s32, s33, s34] [])) target := by
  have E_o27 : Exa Z h0 o27 own_s0 := B.1
  obtain ⟨cq7, kq7, q7a, q7b, q7c⟩ := isOf hZ e0 E_o27
  obtain ⟨_, _, ⟨T7, L7, k7, n7⟩, -, X7, ⟨Lc7, hQ7, l7, y7, z7⟩, st7⟩ := X0.virtualBack hx (y := own_n14) (z := own_n14) hown (mvT hZ (own_w hw 95 rfl)) (mvT hZ (own_w hw 96 rfl)) (notFace_of_selects (args := #[]) (mvT hZ (own_w hw 98 rfl))) (mvT hZ (own_w hw 98 rfl)) (mvT hZ (own_w hw 97 rfl)) (by decide) (backOf (W := 0) (rm14_R l Z a0 hw [] o27 m1 m2 m3 m4 m5 m6 m7 v10 h0 n0 Z0 v0 v8 v9 v11 B B.2.2.1 B.2.2.2.1 B.2.2.2.2.1 B.2.2.2.2.2.1 B.2.2.2.2.2.2.1 B.2.2.2.2.2.2.2.1 B.2.2.2.2.2.2.2.2.1 B.1 B.2.2.2.2.2.2.2.2.2.2.2.1 g) hZ (own_w hw 99 rfl) (own_w hw 12 rfl) (by decide) (by decide)) q7a q7c (g := (mkF m 322 #[s0, s1, s2, s3, .val (.int i4), s5, s6, s7, s8, s9, s10, s11, s12, s13, s14, s15, s16, s17, s18, s19, s20, s21, s22, s23, s24, s25, s26, .val (.ref o27), s28, s29, s30, s31, s32, s33, s34] [.null, .null, (.ref o27)])) rfl (by rw [hml]; rfl) (Steps.refl _) (argsL := [.null, .null]) (rest := []) (lenOf pd_0_10 rfl) rfl (by show 2 * 0 + _ ≤ _; exact Nat.le_of_eq rfl) (hb hby at_322) (fun _ _ => ⟨rfl, e0, (by decide : 6 + 1 ≤ _), (by decide : 29 + 13 ≤ _)⟩)
  dsimp only [Pt.U, Pt.locs, Pt.cells, Pt.slots] at X7 l7 y7 z7 st7 hQ7
  subst l7 y7 z7
  obtain ⟨bq, rfl, N7q, Kq, Bq⟩ := hQ7
  have N7 := Fr.app N0 N7q
  refine ⟨T7, _, .ref bq, X7, N7, Kq, Bq, fun target kt => ?_⟩
  show Steps _ _ _ (T0.setTop (mkF m 311 #[s0, s1, s2, s3, .val (.int i4), s5, s6, s7, s8, s9, s10, s11, s12, s13, s14, s15, s16, s17, s18, s19, s20, s21, s22, s23, s24, s25, s26, .val (.ref o27), s28, s29, s30, s31, s32, s33, s34] [])) _
  refine XS.iload X0.here hx rfl (hb hby at_311) rfl ?_
  show Steps _ _ _ (T0.setTop (mkF m 313 #[s0, s1, s2, s3, .val (.int i4), s5, s6, s7, s8, s9, s10, s11, s12, s13, s14, s15, s16, s17, s18, s19, s20, s21, s22, s23, s24, s25, s26, .val (.ref o27), s28, s29, s30, s31, s32, s33, s34] [(.int i4)])) _
  refine XS.iconst X0.here hx rfl (hb hby at_313) ?_
  show Steps _ _ _ (T0.setTop (mkF m 314 #[s0, s1, s2, s3, .val (.int i4), s5, s6, s7, s8, s9, s10, s11, s12, s13, s14, s15, s16, s17, s18, s19, s20, s21, s22, s23, s24, s25, s26, .val (.ref o27), s28, s29, s30, s31, s32, s33, s34] [(.int (2 : Int32)), (.int i4)])) _
  refine XS.iand X0.here hx rfl (hb hby at_314) rfl ?_
  show Steps _ _ _ (T0.setTop (mkF m 315 #[s0, s1, s2, s3, .val (.int i4), s5, s6, s7, s8, s9, s10, s11, s12, s13, s14, s15, s16, s17, s18, s19, s20, s21, s22, s23, s24, s25, s26, .val (.ref o27), s28, s29, s30, s31, s32, s33, s34] [(.int (i4 &&& (2 : Int32)))])) _
  refine XS.ifNo X0.here hx rfl (hb hby at_315) rfl ((if0 _ _).trans (feq hc315).1) ?_
  show Steps _ _ _ (T0.setTop (mkF m 318 #[s0, s1, s2, s3, .val (.int i4), s5, s6, s7, s8, s9, s10, s11, s12, s13, s14, s15, s16, s17, s18, s19, s20, s21, s22, s23, s24, s25, s26, .val (.ref o27), s28, s29, s30, s31, s32, s33, s34] [])) _
  refine XS.aload X0.here hx rfl (hb hby at_318) rfl rfl ?_
  show Steps _ _ _ (T0.setTop (mkF m 320 #[s0, s1, s2, s3, .val (.int i4), s5, s6, s7, s8, s9, s10, s11, s12, s13, s14, s15, s16, s17, s18, s19, s20, s21, s22, s23, s24, s25, s26, .val (.ref o27), s28, s29, s30, s31, s32, s33, s34] [(.ref o27)])) _
  refine XS.aconstNull X0.here hx rfl (hb hby at_320) ?_
  show Steps _ _ _ (T0.setTop (mkF m 321 #[s0, s1, s2, s3, .val (.int i4), s5, s6, s7, s8, s9, s10, s11, s12, s13, s14, s15, s16, s17, s18, s19, s20, s21, s22, s23, s24, s25, s26, .val (.ref o27), s28, s29, s30, s31, s32, s33, s34] [.null, (.ref o27)])) _
  refine XS.aconstNull X0.here hx rfl (hb hby at_321) ?_
  show Steps _ _ _ (T0.setTop (mkF m 322 #[s0, s1, s2, s3, .val (.int i4), s5, s6, s7, s8, s9, s10, s11, s12, s13, s14, s15, s16, s17, s18, s19, s20, s21, s22, s23, s24, s25, s26, .val (.ref o27), s28, s29, s30, s31, s32, s33, s34] [.null, .null, (.ref o27)])) _
  refine st7.trans ?_
  show Steps _ _ _ (T7.setTop (mkF m 325 #[s0, s1, s2, s3, .val (.int i4), s5, s6, s7, s8, s9, s10, s11, s12, s13, s14, s15, s16, s17, s18, s19, s20, s21, s22, s23, s24, s25, s26, .val (.ref o27), s28, s29, s30, s31, s32, s33, s34] [(.ref bq)])) _
  refine XS.pop X7.here hx rfl (hb hby at_325) rfl rfl ?_
  exact kt
theorem mkR {v0 v8 v9 v10 v11 : Value} {m1 : Int32} {m2 : Int64} {m3 : Int32} {m4 m5 : Addr} {m6 m7 : Int32} (s0 s1 s2 s3 : Slot) (i4 : Int32) (s5 s6 s7 s8 s9 s10 s11 s12 s13 s14 s15 s16 s17 s18 s19 s20 s21 s22 s23 s24 s25 s26 : Slot) (o27 : Addr) (s28 s29 s30 s31 s32 s33 s34 : Slot)
    (X0 : Stand p l e room_1 s m args below meth c T0 locs 6 29) (hx : p.tables.exec = Jvm.exec) (hZ : Z.Warmed39 s.vm) (hw : ∀ d ∈ tables_1, d.before a0 Z = true) (hby : c.code = code) (hml : c.maxLocals = 35) (hown : s.vm.findClass own_s1 = some m.cls) (e0 : T0.heap = h0) (Z0 : n0 ≤ h0.size) (N0 : Fr n0 locs) (B : Br Z h0 o27 v0 (.int m1) (.long m2) (.int m3) (.ref m4) (.ref m5) (.int m6) (.int m7) v8 v9 v10 v11) (g : n0 ≤ o27)  :
    ∃ (T' : State) (L' : List Loc) (x10 : Value), Stand p l e room_1 s m args below meth c T' L' 7 42 ∧ Fr n0 L' ∧ Keep h0 T'.heap [o27] ∧ Br Z T'.heap o27 v0 (.int m1) (.long m2) (.int m3) (.ref m4) (.ref m5) (.int m6) (.int m7) v8 v9 x10 v11 ∧
      ∀ target, Steps p.tables e below (T'.setTop (mkF m 326 #[s0, s1, s2, s3, .val (.int i4), s5, s6, s7, s8, s9, s10, s11, s12, s13, s14, s15, s16, s17, s18, s19, s20, s21, s22, s23, s24, s25, s26, .val (.ref o27), s28, s29, s30, s31, s32, s33, s34] [])) target → Steps p.tables e below (T0.setTop (mkF m 311 #[s0, s1, s2, s3, .val (.int i4), s5, s6, s7, s8, s9, s10, s11, s12, s13, s14, s15, s16, s17, s18, s19, s20, s21, s22, s23, s24, s25, s26, .val (.ref o27), s28, s29, s30, s31, s32, s33, s34] [])) target := by
  by_cases h1 : (i4 &&& (2 : Int32)) = (0 : Int32)
  · obtain ⟨T1, X1, e1, st1⟩ := tn0_311_326_t s0 s1 s2 s3 i4 s5 s6 s7 s8 s9 s10 s11 s12 s13 s14 s15 s16 s17 s18 s19 s20 s21 s22 s23 s24 s25 s26 (.val (.ref o27)) s28 s29 s30 s31 s32 s33 s34 X0 hx hZ hw hby hml hown e0 h1
    exact ⟨T1, _, _, X1.more (by decide) (by decide), N0, (by rw [e1]; exact Keep.refl _ _), (by rw [e1]; exact B), st1⟩
  · exact tn0_311_326_R s0 s1 s2 s3 i4 s5 s6 s7 s8 s9 s10 s11 s12 s13 s14 s15 s16 s17 s18 s19 s20 s21 s22 s23 s24 s25 s26 o27 s28 s29 s30 s31 s32 s33 s34 X0 hx hZ hw hby hml hown e0 Z0 N0 B g h1
theorem tn0_311_326_N {v0 v8 v9 v10 v11 : Value} {m1 : Int32} {m2 : Int64} {m3 m6 m7 : Int32} (s0 s1 s2 s3 : Slot) (i4 : Int32) (s5 s6 s7 s8 s9 s10 s11 s12 s13 s14 s15 s16 s17 s18 s19 s20 s21 s22 s23 s24 s25 s26 : Slot) (o27 : Addr) (s28 s29 s30 s31 s32 s33 s34 : Slot)
    (X0 : Stand p l e room_1 s m args below meth c T0 locs 6 29) (hx : p.tables.exec = Jvm.exec) (hZ : Z.Warmed39 s.vm) (hw : ∀ d ∈ tables_1, d.before a0 Z = true) (hby : c.code = code) (hml : c.maxLocals = 35) (hown : s.vm.findClass own_s1 = some m.cls) (e0 : T0.heap = h0) (Z0 : n0 ≤ h0.size) (N0 : Fr n0 locs) (B : Br Z h0 o27 v0 (.int m1) (.long m2) (.int m3) .null .null (.int m6) (.int m7) v8 v9 v10 v11) (g : n0 ≤ o27) (hc315 : ¬ ((i4 &&& (2 : Int32)) = (0 : Int32))) :
    ∃ (T' : State) (L' : List Loc) (x10 : Value), Stand p l e room_1 s m args below meth c T' L' 7 42 ∧ Fr n0 L' ∧ Keep h0 T'.heap [o27] ∧ Br Z T'.heap o27 v0 (.int m1) (.long m2) (.int m3) .null .null (.int m6) (.int m7) v8 v9 x10 v11 ∧
      ∀ target, Steps p.tables e below (T'.setTop (mkF m 326 #[s0, s1, s2, s3, .val (.int i4), s5, s6, s7, s8, s9, s10, s11, s12, s13, s14, s15, s16, s17, s18, s19, s20, s21, s22, s23, s24, s25, s26, .val (.ref o27), s28, s29, s30, s31, s32, s33, s34] [])) target → Steps p.tables e below (T0.setTop (mkF m 311 #[s0, s1, s2, s3, .val (.int i4), s5, s6, s7, s8, s9, s10, s11, s12, s13, s14, s15, s16, s17, s18, s19, s20, s21, s22, s23, s24, s25, s26, .val (.ref o27), s28, s29, s30, s31, s32, s33, s34] [])) target := by
  have E_o27 : Exa Z h0 o27 own_s0 := B.1
  obtain ⟨cq7, kq7, q7a, q7b, q7c⟩ := isOf hZ e0 E_o27
  obtain ⟨_, _, ⟨T7, L7, k7, n7⟩, -, X7, ⟨Lc7, hQ7, l7, y7, z7⟩, st7⟩ := X0.virtualBack hx (y := own_n14) (z := own_n14) hown (mvT hZ (own_w hw 95 rfl)) (mvT hZ (own_w hw 96 rfl)) (notFace_of_selects (args := #[]) (mvT hZ (own_w hw 98 rfl))) (mvT hZ (own_w hw 98 rfl)) (mvT hZ (own_w hw 97 rfl)) (by decide) (backOf (W := 0) (rm14_N l Z a0 hw [] o27 m1 m2 m3 m6 m7 v10 h0 n0 Z0 v0 v8 v9 v11 B B.2.2.1 B.2.2.2.1 B.2.2.2.2.1 B.2.2.2.2.2.1 B.2.2.2.2.2.2.1 B.2.2.2.2.2.2.2.1 B.2.2.2.2.2.2.2.2.1 B.1 B.2.2.2.2.2.2.2.2.2.2.2.1 g) hZ (own_w hw 99 rfl) (own_w hw 12 rfl) (by decide) (by decide)) q7a q7c (g := (mkF m 322 #[s0, s1, s2, s3, .val (.int i4), s5, s6, s7, s8, s9, s10, s11, s12, s13, s14, s15, s16, s17, s18, s19, s20, s21, s22, s23, s24, s25, s26, .val (.ref o27), s28, s29, s30, s31, s32, s33, s34] [.null, .null, (.ref o27)])) rfl (by rw [hml]; rfl) (Steps.refl _) (argsL := [.null, .null]) (rest := []) (lenOf pd_0_10 rfl) rfl (by show 2 * 0 + _ ≤ _; exact Nat.le_of_eq rfl) (hb hby at_322) (fun _ _ => ⟨rfl, e0, (by decide : 6 + 1 ≤ _), (by decide : 29 + 13 ≤ _)⟩)
  dsimp only [Pt.U, Pt.locs, Pt.cells, Pt.slots] at X7 l7 y7 z7 st7 hQ7
  subst l7 y7 z7
  obtain ⟨bq, rfl, N7q, Kq, Bq⟩ := hQ7
  have N7 := Fr.app N0 N7q
  refine ⟨T7, _, .ref bq, X7, N7, Kq, Bq, fun target kt => ?_⟩
  show Steps _ _ _ (T0.setTop (mkF m 311 #[s0, s1, s2, s3, .val (.int i4), s5, s6, s7, s8, s9, s10, s11, s12, s13, s14, s15, s16, s17, s18, s19, s20, s21, s22, s23, s24, s25, s26, .val (.ref o27), s28, s29, s30, s31, s32, s33, s34] [])) _
  refine XS.iload X0.here hx rfl (hb hby at_311) rfl ?_
  show Steps _ _ _ (T0.setTop (mkF m 313 #[s0, s1, s2, s3, .val (.int i4), s5, s6, s7, s8, s9, s10, s11, s12, s13, s14, s15, s16, s17, s18, s19, s20, s21, s22, s23, s24, s25, s26, .val (.ref o27), s28, s29, s30, s31, s32, s33, s34] [(.int i4)])) _
  refine XS.iconst X0.here hx rfl (hb hby at_313) ?_
  show Steps _ _ _ (T0.setTop (mkF m 314 #[s0, s1, s2, s3, .val (.int i4), s5, s6, s7, s8, s9, s10, s11, s12, s13, s14, s15, s16, s17, s18, s19, s20, s21, s22, s23, s24, s25, s26, .val (.ref o27), s28, s29, s30, s31, s32, s33, s34] [(.int (2 : Int32)), (.int i4)])) _
  refine XS.iand X0.here hx rfl (hb hby at_314) rfl ?_
  show Steps _ _ _ (T0.setTop (mkF m 315 #[s0, s1, s2, s3, .val (.int i4), s5, s6, s7, s8, s9, s10, s11, s12, s13, s14, s15, s16, s17, s18, s19, s20, s21, s22, s23, s24, s25, s26, .val (.ref o27), s28, s29, s30, s31, s32, s33, s34] [(.int (i4 &&& (2 : Int32)))])) _
  refine XS.ifNo X0.here hx rfl (hb hby at_315) rfl ((if0 _ _).trans (feq hc315).1) ?_
  show Steps _ _ _ (T0.setTop (mkF m 318 #[s0, s1, s2, s3, .val (.int i4), s5, s6, s7, s8, s9, s10, s11, s12, s13, s14, s15, s16, s17, s18, s19, s20, s21, s22, s23, s24, s25, s26, .val (.ref o27), s28, s29, s30, s31, s32, s33, s34] [])) _
  refine XS.aload X0.here hx rfl (hb hby at_318) rfl rfl ?_
  show Steps _ _ _ (T0.setTop (mkF m 320 #[s0, s1, s2, s3, .val (.int i4), s5, s6, s7, s8, s9, s10, s11, s12, s13, s14, s15, s16, s17, s18, s19, s20, s21, s22, s23, s24, s25, s26, .val (.ref o27), s28, s29, s30, s31, s32, s33, s34] [(.ref o27)])) _
  refine XS.aconstNull X0.here hx rfl (hb hby at_320) ?_
  show Steps _ _ _ (T0.setTop (mkF m 321 #[s0, s1, s2, s3, .val (.int i4), s5, s6, s7, s8, s9, s10, s11, s12, s13, s14, s15, s16, s17, s18, s19, s20, s21, s22, s23, s24, s25, s26, .val (.ref o27), s28, s29, s30, s31, s32, s33, s34] [.null, (.ref o27)])) _
  refine XS.aconstNull X0.here hx rfl (hb hby at_321) ?_
  show Steps _ _ _ (T0.setTop (mkF m 322 #[s0, s1, s2, s3, .val (.int i4), s5, s6, s7, s8, s9, s10, s11, s12, s13, s14, s15, s16, s17, s18, s19, s20, s21, s22, s23, s24, s25, s26, .val (.ref o27), s28, s29, s30, s31, s32, s33, s34] [.null, .null, (.ref o27)])) _
  refine st7.trans ?_
  show Steps _ _ _ (T7.setTop (mkF m 325 #[s0, s1, s2, s3, .val (.int i4), s5, s6, s7, s8, s9, s10, s11, s12, s13, s14, s15, s16, s17, s18, s19, s20, s21, s22, s23, s24, s25, s26, .val (.ref o27), s28, s29, s30, s31, s32, s33, s34] [(.ref bq)])) _
  refine XS.pop X7.here hx rfl (hb hby at_325) rfl rfl ?_
  exact kt
theorem mkN {v0 v8 v9 v10 v11 : Value} {m1 : Int32} {m2 : Int64} {m3 m6 m7 : Int32} (s0 s1 s2 s3 : Slot) (i4 : Int32) (s5 s6 s7 s8 s9 s10 s11 s12 s13 s14 s15 s16 s17 s18 s19 s20 s21 s22 s23 s24 s25 s26 : Slot) (o27 : Addr) (s28 s29 s30 s31 s32 s33 s34 : Slot)
    (X0 : Stand p l e room_1 s m args below meth c T0 locs 6 29) (hx : p.tables.exec = Jvm.exec) (hZ : Z.Warmed39 s.vm) (hw : ∀ d ∈ tables_1, d.before a0 Z = true) (hby : c.code = code) (hml : c.maxLocals = 35) (hown : s.vm.findClass own_s1 = some m.cls) (e0 : T0.heap = h0) (Z0 : n0 ≤ h0.size) (N0 : Fr n0 locs) (B : Br Z h0 o27 v0 (.int m1) (.long m2) (.int m3) .null .null (.int m6) (.int m7) v8 v9 v10 v11) (g : n0 ≤ o27)  :
    ∃ (T' : State) (L' : List Loc) (x10 : Value), Stand p l e room_1 s m args below meth c T' L' 7 42 ∧ Fr n0 L' ∧ Keep h0 T'.heap [o27] ∧ Br Z T'.heap o27 v0 (.int m1) (.long m2) (.int m3) .null .null (.int m6) (.int m7) v8 v9 x10 v11 ∧
      ∀ target, Steps p.tables e below (T'.setTop (mkF m 326 #[s0, s1, s2, s3, .val (.int i4), s5, s6, s7, s8, s9, s10, s11, s12, s13, s14, s15, s16, s17, s18, s19, s20, s21, s22, s23, s24, s25, s26, .val (.ref o27), s28, s29, s30, s31, s32, s33, s34] [])) target → Steps p.tables e below (T0.setTop (mkF m 311 #[s0, s1, s2, s3, .val (.int i4), s5, s6, s7, s8, s9, s10, s11, s12, s13, s14, s15, s16, s17, s18, s19, s20, s21, s22, s23, s24, s25, s26, .val (.ref o27), s28, s29, s30, s31, s32, s33, s34] [])) target := by
  by_cases h1 : (i4 &&& (2 : Int32)) = (0 : Int32)
  · obtain ⟨T1, X1, e1, st1⟩ := tn0_311_326_t s0 s1 s2 s3 i4 s5 s6 s7 s8 s9 s10 s11 s12 s13 s14 s15 s16 s17 s18 s19 s20 s21 s22 s23 s24 s25 s26 (.val (.ref o27)) s28 s29 s30 s31 s32 s33 s34 X0 hx hZ hw hby hml hown e0 h1
    exact ⟨T1, _, _, X1.more (by decide) (by decide), N0, (by rw [e1]; exact Keep.refl _ _), (by rw [e1]; exact B), st1⟩
  · exact tn0_311_326_N s0 s1 s2 s3 i4 s5 s6 s7 s8 s9 s10 s11 s12 s13 s14 s15 s16 s17 s18 s19 s20 s21 s22 s23 s24 s25 s26 o27 s28 s29 s30 s31 s32 s33 s34 X0 hx hZ hw hby hml hown e0 Z0 N0 B g h1
theorem pd_0_13 : parseMethodDescriptor "(IJILcom/example/cablegram/cablegram/engine/ElementType;IILjava/nio/ByteBuffer;)V" = some ⟨[.int, .long, .int, (.object own_s2), .int, .int, (.object "java/nio/ByteBuffer")], none⟩ := by decide +kernel
theorem tn0_326_353_ff {v0 v1 v2 v3 v7 v8 v9 v10 : Value} {kL oA : Addr} (s0 : Slot) (j1 : Int64) (i3 i4 : Int32) (s5 : Slot) (i6 : Int32) (s7 s8 s9 s10 s11 s12 s13 s14 s15 s16 s17 s18 s19 s20 s21 s22 s23 s24 s25 s26 : Slot) (o27 : Addr) (i28 : Int32) (s29 s30 s31 s32 s33 s34 : Slot) (w7 : Addr)
    (X0 : Stand p l e room_1 s m args below meth c T0 locs 7 42) (hx : p.tables.exec = Jvm.exec) (hZ : Z.Warmed39 s.vm) (hw : ∀ d ∈ tables_1, d.before a0 Z = true) (hby : c.code = code) (hml : c.maxLocals = 35) (hown : s.vm.findClass own_s1 = some m.cls) (e0 : T0.heap = h0) (Z0 : n0 ≤ h0.size) (N0 : Fr n0 locs) (B : Br Z h0 o27 v0 v1 v2 v3 (.ref kL) (.ref oA) (.int (0 : Int32)) v7 v8 v9 v10 .null) (g : n0 ≤ o27) (F_size : Fld Z h0 kL own_s2 "size" "I" (.int (8 : Int32))) (I_o : Ins Z h0 oA "[J" true) (E_kL : Exa Z h0 kL "com/example/cablegram/cablegram/engine/ElementType$6") (S_INT : Sta Z h0 own_s2 "INT" "Lcom/example/cablegram/cablegram/engine/ElementType;" (.ref w7)) (hc328 : ¬ (i28 = (0 : Int32))) (hc335 : ¬ ((i4 &&& (4 : Int32)) = (0 : Int32))) :
    ∃ (T' : State) (L' : List Loc) (x9 x11 : Value), Stand p l e room_1 s m args below meth c T' L' 9 51 ∧ Fr n0 L' ∧ Keep h0 T'.heap [o27] ∧ Br Z T'.heap o27 v0 v1 v2 v3 (.ref kL) (.ref oA) (.int (0 : Int32)) v7 v8 x9 v10 x11 ∧
      ∀ target, Steps p.tables e below (T'.setTop (mkF m 353 #[s0, .val (.long j1), .second, .val (.int i3), .val (.int i4), s5, .val (.int i6), s7, s8, s9, s10, s11, s12, s13, s14, s15, s16, s17, s18, s19, s20, s21, s22, s23, s24, s25, s26, .val (.ref o27), .val (.int i28), s29, s30, s31, s32, s33, s34] [])) target → Steps p.tables e below (T0.setTop (mkF m 326 #[s0, .val (.long j1), .second, .val (.int i3), .val (.int i4), s5, .val (.int i6), s7, s8, s9, s10, s11, s12, s13, s14, s15, s16, s17, s18, s19, s20, s21, s22, s23, s24, s25, s26, .val (.ref o27), .val (.int i28), s29, s30, s31, s32, s33, s34] [])) target := by
  have E_o27 : Exa Z h0 o27 own_s0 := B.1
  obtain ⟨T8, X8, e8, st8⟩ := getS2 X0 hx hZ hown (host := "") (Or.inl (own_w hw 4 rfl)) Via.refl e0 S_INT (g := (mkF m 344 #[s0, .val (.long j1), .second, .val (.int i3), .val (.int i4), s5, .val (.int i6), s7, s8, s9, s10, s11, s12, s13, s14, s15, s16, s17, s18, s19, s20, s21, s22, s23, s24, s25, s26, .val (.ref o27), .val (.int i28), s29, s30, s31, s32, s33, s34] [(.int i3), (.long j1), (.int i6), (.ref o27)])) rfl (hb hby at_344)
  obtain ⟨cq9, kq9, q9a, q9b, q9c⟩ := isOf hZ e8 E_o27
  obtain ⟨_, _, ⟨T9, L9, k9, n9⟩, -, X9, ⟨Lc9, hQ9, l9, y9, z9⟩, st9⟩ := X8.virtualBack hx (y := own_n22) (z := own_n22) hown (mvT hZ (own_w hw 131 rfl)) (mvT hZ (own_w hw 132 rfl)) (notFace_of_selects (args := #[]) (mvT hZ (own_w hw 134 rfl))) (mvT hZ (own_w hw 134 rfl)) (mvT hZ (own_w hw 133 rfl)) (by decide) (backOf (W := 0) (rm17 l Z a0 hw [] o27 i6 j1 i3 w7 (0 : Int32) (0 : Int32) kL oA (0 : Int32) v9 h0 n0 Z0 (8 : Int32) v0 v1 v2 v3 v7 v8 v10 B F_size (by decide) I_o (by decide) B.2.2.2.2.2.1 B.2.2.2.2.2.2.1 B.2.2.2.2.2.2.2.1 E_kL B.2.2.2.2.2.2.2.2.2.2.2.2 B.1 g B.2.2.2.2.2.2.2.2.2.2.1) hZ (own_w hw 135 rfl) (own_w hw 12 rfl) (by decide) (by decide)) q9a q9c (g := (mkF m 350 #[s0, .val (.long j1), .second, .val (.int i3), .val (.int i4), s5, .val (.int i6), s7, s8, s9, s10, s11, s12, s13, s14, s15, s16, s17, s18, s19, s20, s21, s22, s23, s24, s25, s26, .val (.ref o27), .val (.int i28), s29, s30, s31, s32, s33, s34] [.null, (.int (0 : Int32)), (.int (0 : Int32)), (.ref w7), (.int i3), (.long j1), (.int i6), (.ref o27)])) rfl (by rw [hml]; rfl) (Steps.refl _) (argsL := [(.int i6), (.long j1), (.int i3), (.ref w7), (.int (0 : Int32)), (.int (0 : Int32)), .null]) (rest := []) (lenOf pd_0_13 rfl) rfl (by show 2 * 0 + _ ≤ _; exact Nat.le_of_eq rfl) (hb hby at_350) (fun _ _ => ⟨rfl, e8, (by decide : 7 + 2 ≤ _), (by decide : 42 + 9 ≤ _)⟩)
  dsimp only [Pt.U, Pt.locs, Pt.cells, Pt.slots] at X9 l9 y9 z9 st9 hQ9
  subst l9 y9 z9
  obtain ⟨rq, rfl, N9q, Kq, Bq⟩ := hQ9
  have N9 := Fr.app N0 N9q
  refine ⟨T9, _, .int (1 : Int32), rq, X9, N9, Kq, Bq, fun target kt => ?_⟩
  show Steps _ _ _ (T0.setTop (mkF m 326 #[s0, .val (.long j1), .second, .val (.int i3), .val (.int i4), s5, .val (.int i6), s7, s8, s9, s10, s11, s12, s13, s14, s15, s16, s17, s18, s19, s20, s21, s22, s23, s24, s25, s26, .val (.ref o27), .val (.int i28), s29, s30, s31, s32, s33, s34] [])) _
  refine XS.iload X0.here hx rfl (hb hby at_326) rfl ?_
  show Steps _ _ _ (T0.setTop (mkF m 328 #[s0, .val (.long j1), .second, .val (.int i3), .val (.int i4), s5, .val (.int i6), s7, s8, s9, s10, s11, s12, s13, s14, s15, s16, s17, s18, s19, s20, s21, s22, s23, s24, s25, s26, .val (.ref o27), .val (.int i28), s29, s30, s31, s32, s33, s34] [(.int i28)])) _
  refine XS.ifNo X0.here hx rfl (hb hby at_328) rfl ((if0 _ _).trans (feq hc328).1) ?_
  show Steps _ _ _ (T0.setTop (mkF m 331 #[s0, .val (.long j1), .second, .val (.int i3), .val (.int i4), s5, .val (.int i6), s7, s8, s9, s10, s11, s12, s13, s14, s15, s16, s17, s18, s19, s20, s21, s22, s23, s24, s25, s26, .val (.ref o27), .val (.int i28), s29, s30, s31, s32, s33, s34] [])) _
  refine XS.iload X0.here hx rfl (hb hby at_331) rfl ?_
  show Steps _ _ _ (T0.setTop (mkF m 333 #[s0, .val (.long j1), .second, .val (.int i3), .val (.int i4), s5, .val (.int i6), s7, s8, s9, s10, s11, s12, s13, s14, s15, s16, s17, s18, s19, s20, s21, s22, s23, s24, s25, s26, .val (.ref o27), .val (.int i28), s29, s30, s31, s32, s33, s34] [(.int i4)])) _
  refine XS.iconst X0.here hx rfl (hb hby at_333) ?_
  show Steps _ _ _ (T0.setTop (mkF m 334 #[s0, .val (.long j1), .second, .val (.int i3), .val (.int i4), s5, .val (.int i6), s7, s8, s9, s10, s11, s12, s13, s14, s15, s16, s17, s18, s19, s20, s21, s22, s23, s24, s25, s26, .val (.ref o27), .val (.int i28), s29, s30, s31, s32, s33, s34] [(.int (4 : Int32)), (.int i4)])) _
  refine XS.iand X0.here hx rfl (hb hby at_334) rfl ?_
  show Steps _ _ _ (T0.setTop (mkF m 335 #[s0, .val (.long j1), .second, .val (.int i3), .val (.int i4), s5, .val (.int i6), s7, s8, s9, s10, s11, s12, s13, s14, s15, s16, s17, s18, s19, s20, s21, s22, s23, s24, s25, s26, .val (.ref o27), .val (.int i28), s29, s30, s31, s32, s33, s34] [(.int (i4 &&& (4 : Int32)))])) _
  refine XS.ifNo X0.here hx rfl (hb hby at_335) rfl ((if0 _ _).trans (feq hc335).1) ?_
  show Steps _ _ _ (T0.setTop (mkF m 338 #[s0, .val (.long j1), .second, .val (.int i3), .val (.int i4), s5, .val (.int i6), s7, s8, s9, s10, s11, s12, s13, s14, s15, s16, s17, s18, s19, s20, s21, s22, s23, s24, s25, s26, .val (.ref o27), .val (.int i28), s29, s30, s31, s32, s33, s34] [])) _
  refine XS.aload X0.here hx rfl (hb hby at_338) rfl rfl ?_
  show Steps _ _ _ (T0.setTop (mkF m 340 #[s0, .val (.long j1), .second, .val (.int i3), .val (.int i4), s5, .val (.int i6), s7, s8, s9, s10, s11, s12, s13, s14, s15, s16, s17, s18, s19, s20, s21, s22, s23, s24, s25, s26, .val (.ref o27), .val (.int i28), s29, s30, s31, s32, s33, s34] [(.ref o27)])) _
  refine XS.iload X0.here hx rfl (hb hby at_340) rfl ?_
  show Steps _ _ _ (T0.setTop (mkF m 342 #[s0, .val (.long j1), .second, .val (.int i3), .val (.int i4), s5, .val (.int i6), s7, s8, s9, s10, s11, s12, s13, s14, s15, s16, s17, s18, s19, s20, s21, s22, s23, s24, s25, s26, .val (.ref o27), .val (.int i28), s29, s30, s31, s32, s33, s34] [(.int i6), (.ref o27)])) _
  refine XS.lloadN X0.here hx rfl (hb hby at_342) rfl ?_
  show Steps _ _ _ (T0.setTop (mkF m 343 #[s0, .val (.long j1), .second, .val (.int i3), .val (.int i4), s5, .val (.int i6), s7, s8, s9, s10, s11, s12, s13, s14, s15, s16, s17, s18, s19, s20, s21, s22, s23, s24, s25, s26, .val (.ref o27), .val (.int i28), s29, s30, s31, s32, s33, s34] [(.long j1), (.int i6), (.ref o27)])) _
  refine XS.iloadN X0.here hx rfl (hb hby at_343) rfl ?_
  show Steps _ _ _ (T0.setTop (mkF m 344 #[s0, .val (.long j1), .second, .val (.int i3), .val (.int i4), s5, .val (.int i6), s7, s8, s9, s10, s11, s12, s13, s14, s15, s16, s17, s18, s19, s20, s21, s22, s23, s24, s25, s26, .val (.ref o27), .val (.int i28), s29, s30, s31, s32, s33, s34] [(.int i3), (.long j1), (.int i6), (.ref o27)])) _
  refine st8 _ ?_
  show Steps _ _ _ (T8.setTop (mkF m 347 #[s0, .val (.long j1), .second, .val (.int i3), .val (.int i4), s5, .val (.int i6), s7, s8, s9, s10, s11, s12, s13, s14, s15, s16, s17, s18, s19, s20, s21, s22, s23, s24, s25, s26, .val (.ref o27), .val (.int i28), s29, s30, s31, s32, s33, s34] [(.ref w7), (.int i3), (.long j1), (.int i6), (.ref o27)])) _
  refine XS.iconst X8.here hx rfl (hb hby at_347) ?_
  show Steps _ _ _ (T8.setTop (mkF m 348 #[s0, .val (.long j1), .second, .val (.int i3), .val (.int i4), s5, .val (.int i6), s7, s8, s9, s10, s11, s12, s13, s14, s15, s16, s17, s18, s19, s20, s21, s22, s23, s24, s25, s26, .val (.ref o27), .val (.int i28), s29, s30, s31, s32, s33, s34] [(.int (0 : Int32)), (.ref w7), (.int i3), (.long j1), (.int i6), (.ref o27)])) _
  refine XS.iconst X8.here hx rfl (hb hby at_348) ?_
  show Steps _ _ _ (T8.setTop (mkF m 349 #[s0, .val (.long j1), .second, .val (.int i3), .val (.int i4), s5, .val (.int i6), s7, s8, s9, s10, s11, s12, s13, s14, s15, s16, s17, s18, s19, s20, s21, s22, s23, s24, s25, s26, .val (.ref o27), .val (.int i28), s29, s30, s31, s32, s33, s34] [(.int (0 : Int32)), (.int (0 : Int32)), (.ref w7), (.int i3), (.long j1), (.int i6), (.ref o27)])) _
  refine XS.aconstNull X8.here hx rfl (hb hby at_349) ?_
  show Steps _ _ _ (T8.setTop (mkF m 350 #[s0, .val (.long j1), .second, .val (.int i3), .val (.int i4), s5, .val (.int i6), s7, s8, s9, s10, s11, s12, s13, s14, s15, s16, s17, s18, s19, s20, s21, s22, s23, s24, s25, s26, .val (.ref o27), .val (.int i28), s29, s30, s31, s32, s33, s34] [.null, (.int (0 : Int32)), (.int (0 : Int32)), (.ref w7), (.int i3), (.long j1), (.int i6), (.ref o27)])) _
  refine st9.trans ?_
  exact kt
theorem tn0_326_353_t (s0 s1 s2 s3 s4 s5 s6 s7 s8 s9 s10 s11 s12 s13 s14 s15 s16 s17 s18 s19 s20 s21 s22 s23 s24 s25 s26 s27 : Slot) (i28 : Int32) (s29 s30 s31 s32 s33 s34 : Slot)
    (X0 : Stand p l e R s m args below meth c T0 locs cells slots) (hx : p.tables.exec = Jvm.exec) (hZ : Z.Warmed39 s.vm) (hw : ∀ d ∈ tables_1, d.before a0 Z = true) (hby : c.code = code) (hml : c.maxLocals = 35) (hown : s.vm.findClass own_s1 = some m.cls) (e0 : T0.heap = h0) (hc328 : i28 = (0 : Int32)) :
    ∃ (T' : State), Stand p l e R s m args below meth c T' locs cells slots ∧ T'.heap = h0 ∧
      ∀ target, Steps p.tables e below (T'.setTop (mkF m 353 #[s0, s1, s2, s3, s4, s5, s6, s7, s8, s9, s10, s11, s12, s13, s14, s15, s16, s17, s18, s19, s20, s21, s22, s23, s24, s25, s26, s27, .val (.int i28), s29, s30, s31, s32, s33, s34] [])) target → Steps p.tables e below (T0.setTop (mkF m 326 #[s0, s1, s2, s3, s4, s5, s6, s7, s8, s9, s10, s11, s12, s13, s14, s15, s16, s17, s18, s19, s20, s21, s22, s23, s24, s25, s26, s27, .val (.int i28), s29, s30, s31, s32, s33, s34] [])) target := by
  refine ⟨T0, X0, e0, fun target kt => ?_⟩
  show Steps _ _ _ (T0.setTop (mkF m 326 #[s0, s1, s2, s3, s4, s5, s6, s7, s8, s9, s10, s11, s12, s13, s14, s15, s16, s17, s18, s19, s20, s21, s22, s23, s24, s25, s26, s27, .val (.int i28), s29, s30, s31, s32, s33, s34] [])) _
  refine XS.iload X0.here hx rfl (hb hby at_326) rfl ?_
  show Steps _ _ _ (T0.setTop (mkF m 328 #[s0, s1, s2, s3, s4, s5, s6, s7, s8, s9, s10, s11, s12, s13, s14, s15, s16, s17, s18, s19, s20, s21, s22, s23, s24, s25, s26, s27, .val (.int i28), s29, s30, s31, s32, s33, s34] [(.int i28)])) _
  refine XS.ifYes X0.here hx rfl (pc0 := 328) (pc' := 353) rfl (hb hby at_328) rfl ((if0 _ _).trans (teq hc328).1) (by decide) (by decide) ?_
  exact kt
theorem tn0_326_353_ft (s0 s1 s2 s3 : Slot) (i4 : Int32) (s5 s6 s7 s8 s9 s10 s11 s12 s13 s14 s15 s16 s17 s18 s19 s20 s21 s22 s23 s24 s25 s26 s27 : Slot) (i28 : Int32) (s29 s30 s31 s32 s33 s34 : Slot)
    (X0 : Stand p l e R s m args below meth c T0 locs cells slots) (hx : p.tables.exec = Jvm.exec) (hZ : Z.Warmed39 s.vm) (hw : ∀ d ∈ tables_1, d.before a0 Z = true) (hby : c.code = code) (hml : c.maxLocals = 35) (hown : s.vm.findClass own_s1 = some m.cls) (e0 : T0.heap = h0) (hc328 : ¬ (i28 = (0 : Int32))) (hc335 : (i4 &&& (4 : Int32)) = (0 : Int32)) :
    ∃ (T' : State), Stand p l e R s m args below meth c T' locs cells slots ∧ T'.heap = h0 ∧
      ∀ target, Steps p.tables e below (T'.setTop (mkF m 353 #[s0, s1, s2, s3, .val (.int i4), s5, s6, s7, s8, s9, s10, s11, s12, s13, s14, s15, s16, s17, s18, s19, s20, s21, s22, s23, s24, s25, s26, s27, .val (.int i28), s29, s30, s31, s32, s33, s34] [])) target → Steps p.tables e below (T0.setTop (mkF m 326 #[s0, s1, s2, s3, .val (.int i4), s5, s6, s7, s8, s9, s10, s11, s12, s13, s14, s15, s16, s17, s18, s19, s20, s21, s22, s23, s24, s25, s26, s27, .val (.int i28), s29, s30, s31, s32, s33, s34] [])) target := by
  refine ⟨T0, X0, e0, fun target kt => ?_⟩
  show Steps _ _ _ (T0.setTop (mkF m 326 #[s0, s1, s2, s3, .val (.int i4), s5, s6, s7, s8, s9, s10, s11, s12, s13, s14, s15, s16, s17, s18, s19, s20, s21, s22, s23, s24, s25, s26, s27, .val (.int i28), s29, s30, s31, s32, s33, s34] [])) _
  refine XS.iload X0.here hx rfl (hb hby at_326) rfl ?_
  show Steps _ _ _ (T0.setTop (mkF m 328 #[s0, s1, s2, s3, .val (.int i4), s5, s6, s7, s8, s9, s10, s11, s12, s13, s14, s15, s16, s17, s18, s19, s20, s21, s22, s23, s24, s25, s26, s27, .val (.int i28), s29, s30, s31, s32, s33, s34] [(.int i28)])) _
  refine XS.ifNo X0.here hx rfl (hb hby at_328) rfl ((if0 _ _).trans (feq hc328).1) ?_
  show Steps _ _ _ (T0.setTop (mkF m 331 #[s0, s1, s2, s3, .val (.int i4), s5, s6, s7, s8, s9, s10, s11, s12, s13, s14, s15, s16, s17, s18, s19, s20, s21, s22, s23, s24, s25, s26, s27, .val (.int i28), s29, s30, s31, s32, s33, s34] [])) _
  refine XS.iload X0.here hx rfl (hb hby at_331) rfl ?_
  show Steps _ _ _ (T0.setTop (mkF m 333 #[s0, s1, s2, s3, .val (.int i4), s5, s6, s7, s8, s9, s10, s11, s12, s13, s14, s15, s16, s17, s18, s19, s20, s21, s22, s23, s24, s25, s26, s27, .val (.int i28), s29, s30, s31, s32, s33, s34] [(.int i4)])) _
  refine XS.iconst X0.here hx rfl (hb hby at_333) ?_
  show Steps _ _ _ (T0.setTop (mkF m 334 #[s0, s1, s2, s3, .val (.int i4), s5, s6, s7, s8, s9, s10, s11, s12, s13, s14, s15, s16, s17, s18, s19, s20, s21, s22, s23, s24, s25, s26, s27, .val (.int i28), s29, s30, s31, s32, s33, s34] [(.int (4 : Int32)), (.int i4)])) _
  refine XS.iand X0.here hx rfl (hb hby at_334) rfl ?_
  show Steps _ _ _ (T0.setTop (mkF m 335 #[s0, s1, s2, s3, .val (.int i4), s5, s6, s7, s8, s9, s10, s11, s12, s13, s14, s15, s16, s17, s18, s19, s20, s21, s22, s23, s24, s25, s26, s27, .val (.int i28), s29, s30, s31, s32, s33, s34] [(.int (i4 &&& (4 : Int32)))])) _
  refine XS.ifYes X0.here hx rfl (pc0 := 335) (pc' := 353) rfl (hb hby at_335) rfl ((if0 _ _).trans (teq hc335).1) (by decide) (by decide) ?_
  exact kt
theorem tkS {v0 v1 v2 v3 v7 v8 v9 v10 : Value} {kL oA : Addr} (s0 : Slot) (j1 : Int64) (i3 i4 : Int32) (s5 : Slot) (i6 : Int32) (s7 s8 s9 s10 s11 s12 s13 s14 s15 s16 s17 s18 s19 s20 s21 s22 s23 s24 s25 s26 : Slot) (o27 : Addr) (i28 : Int32) (s29 s30 s31 s32 s33 s34 : Slot)
    (X0 : Stand p l e room_1 s m args below meth c T0 locs 7 42) (hx : p.tables.exec = Jvm.exec) (hZ : Z.Warmed39 s.vm) (hw : ∀ d ∈ tables_1, d.before a0 Z = true) (hby : c.code = code) (hml : c.maxLocals = 35) (hown : s.vm.findClass own_s1 = some m.cls) (e0 : T0.heap = h0) (Z0 : n0 ≤ h0.size) (N0 : Fr n0 locs) (B : Br Z h0 o27 v0 v1 v2 v3 (.ref kL) (.ref oA) (.int (0 : Int32)) v7 v8 v9 v10 .null) (g : n0 ≤ o27) (F_size : Fld Z h0 kL own_s2 "size" "I" (.int (8 : Int32))) (I_o : Ins Z h0 oA "[J" true) (E_kL : Exa Z h0 kL "com/example/cablegram/cablegram/engine/ElementType$6") (w7 : Addr) (S_INT : Sta Z h0 own_s2 "INT" "Lcom/example/cablegram/cablegram/engine/ElementType;" (.ref w7))  :
    ∃ (T' : State) (L' : List Loc) (x9 x11 : Value), Stand p l e room_1 s m args below meth c T' L' 9 51 ∧ Fr n0 L' ∧ Keep h0 T'.heap [o27] ∧ Br Z T'.heap o27 v0 v1 v2 v3 (.ref kL) (.ref oA) (.int (0 : Int32)) v7 v8 x9 v10 x11 ∧
      ∀ target, Steps p.tables e below (T'.setTop (mkF m 353 #[s0, .val (.long j1), .second, .val (.int i3), .val (.int i4), s5, .val (.int i6), s7, s8, s9, s10, s11, s12, s13, s14, s15, s16, s17, s18, s19, s20, s21, s22, s23, s24, s25, s26, .val (.ref o27), .val (.int i28), s29, s30, s31, s32, s33, s34] [])) target → Steps p.tables e below (T0.setTop (mkF m 326 #[s0, .val (.long j1), .second, .val (.int i3), .val (.int i4), s5, .val (.int i6), s7, s8, s9, s10, s11, s12, s13, s14, s15, s16, s17, s18, s19, s20, s21, s22, s23, s24, s25, s26, .val (.ref o27), .val (.int i28), s29, s30, s31, s32, s33, s34] [])) target := by
  by_cases h1 : i28 = (0 : Int32)
  · obtain ⟨T1, X1, e1, st1⟩ := tn0_326_353_t s0 (.val (.long j1)) (.second) (.val (.int i3)) (.val (.int i4)) s5 (.val (.int i6)) s7 s8 s9 s10 s11 s12 s13 s14 s15 s16 s17 s18 s19 s20 s21 s22 s23 s24 s25 s26 (.val (.ref o27)) i28 s29 s30 s31 s32 s33 s34 X0 hx hZ hw hby hml hown e0 h1
    exact ⟨T1, _, _, _, X1.more (by decide) (by decide), N0, (by rw [e1]; exact Keep.refl _ _), (by rw [e1]; exact B), st1⟩
  by_cases h2 : (i4 &&& (4 : Int32)) = (0 : Int32)
  · obtain ⟨T1, X1, e1, st1⟩ := tn0_326_353_ft s0 (.val (.long j1)) (.second) (.val (.int i3)) i4 s5 (.val (.int i6)) s7 s8 s9 s10 s11 s12 s13 s14 s15 s16 s17 s18 s19 s20 s21 s22 s23 s24 s25 s26 (.val (.ref o27)) i28 s29 s30 s31 s32 s33 s34 X0 hx hZ hw hby hml hown e0 h1 h2
    exact ⟨T1, _, _, _, X1.more (by decide) (by decide), N0, (by rw [e1]; exact Keep.refl _ _), (by rw [e1]; exact B), st1⟩
  · exact tn0_326_353_ff s0 j1 i3 i4 s5 i6 s7 s8 s9 s10 s11 s12 s13 s14 s15 s16 s17 s18 s19 s20 s21 s22 s23 s24 s25 s26 o27 i28 s29 s30 s31 s32 s33 s34 _ X0 hx hZ hw hby hml hown e0 Z0 N0 B g F_size I_o E_kL S_INT h1 h2
theorem pd_0_6 : parseMethodDescriptor "(I)Z" = some ⟨[.int], some .boolean⟩ := by decide +kernel
theorem tn0_353_369_f {v0 v1 v2 v3 v4 v5 v6 v7 v9 v10 v11 : Value} {z8 : Int32} (s0 s1 s2 s3 : Slot) (i4 : Int32) (s5 : Slot) (i6 : Int32) (s7 s8 s9 s10 s11 s12 s13 s14 s15 s16 s17 s18 s19 s20 s21 s22 s23 s24 s25 s26 : Slot) (o27 : Addr) (s28 s29 s30 s31 s32 s33 s34 : Slot)
    (X0 : Stand p l e room_1 s m args below meth c T0 locs 9 51) (hx : p.tables.exec = Jvm.exec) (hZ : Z.Warmed39 s.vm) (hw : ∀ d ∈ tables_1, d.before a0 Z = true) (hby : c.code = code) (hml : c.maxLocals = 35) (hown : s.vm.findClass own_s1 = some m.cls) (e0 : T0.heap = h0) (Z0 : n0 ≤ h0.size) (N0 : Fr n0 locs) (B : Br Z h0 o27 v0 v1 v2 v3 v4 v5 v6 v7 (.int z8) v9 v10 v11) (g : n0 ≤ o27) (hc358 : ¬ ((i4 &&& (8 : Int32)) = (0 : Int32))) :
    ∃ (T' : State) (L' : List Loc) (x8 : Int32), Stand p l e room_1 s m args below meth c T' L' 9 51 ∧ Fr n0 L' ∧ Keep h0 T'.heap [o27] ∧ Br Z T'.heap o27 v0 v1 v2 v3 v4 v5 v6 v7 (.int x8) v9 v10 v11 ∧
      ∀ target, Steps p.tables e below (T'.setTop (mkF m 369 #[s0, s1, s2, s3, .val (.int i4), s5, .val (.int i6), s7, s8, s9, s10, s11, s12, s13, s14, s15, s16, s17, s18, s19, s20, s21, s22, s23, s24, s25, s26, .val (.ref o27), s28, s29, s30, s31, s32, s33, s34] [])) target → Steps p.tables e below (T0.setTop (mkF m 353 #[s0, s1, s2, s3, .val (.int i4), s5, .val (.int i6), s7, s8, s9, s10, s11, s12, s13, s14, s15, s16, s17, s18, s19, s20, s21, s22, s23, s24, s25, s26, .val (.ref o27), s28, s29, s30, s31, s32, s33, s34] [])) target := by
  have E_o27 : Exa Z h0 o27 own_s0 := B.1
  obtain ⟨cq7, kq7, q7a, q7b, q7c⟩ := isOf hZ e0 E_o27
  obtain ⟨_, _, ⟨T7, L7, k7, n7⟩, -, X7, ⟨Lc7, hQ7, l7, y7, z7⟩, st7⟩ := X0.virtualBack hx (y := own_n11) (z := own_n11) hown (mvT hZ (own_w hw 90 rfl)) (mvT hZ (own_w hw 91 rfl)) (notFace_of_selects (args := #[]) (mvT hZ (own_w hw 93 rfl))) (mvT hZ (own_w hw 93 rfl)) (mvT hZ (own_w hw 92 rfl)) (by decide) (backOf (W := 0) (rm13 l Z a0 hw [] o27 i6 z8 h0 n0 Z0 v0 v1 v2 v3 v4 v5 v6 v7 v9 v10 v11 B g) hZ (own_w hw 94 rfl) (own_w hw 12 rfl) (by decide) (by decide)) q7a q7c (g := (mkF m 365 #[s0, s1, s2, s3, .val (.int i4), s5, .val (.int i6), s7, s8, s9, s10, s11, s12, s13, s14, s15, s16, s17, s18, s19, s20, s21, s22, s23, s24, s25, s26, .val (.ref o27), s28, s29, s30, s31, s32, s33, s34] [(.int i6), (.ref o27)])) rfl (by rw [hml]; rfl) (Steps.refl _) (argsL := [(.int i6)]) (rest := []) (lenOf pd_0_6 rfl) rfl (by show 2 * 0 + _ ≤ _; exact Nat.le_of_eq rfl) (hb hby at_365) (fun _ _ => ⟨rfl, e0, (by decide : 9 + 0 ≤ _), (by decide : 51 + 0 ≤ _)⟩)
  dsimp only [Pt.U, Pt.locs, Pt.cells, Pt.slots] at X7 l7 y7 z7 st7 hQ7
  subst l7 y7 z7
  obtain ⟨rfl, N7q, Kq, Bq⟩ := hQ7
  have N7 := Fr.app N0 N7q
  refine ⟨T7, _, i6, X7, N7, Kq, Bq, fun target kt => ?_⟩
  show Steps _ _ _ (T0.setTop (mkF m 353 #[s0, s1, s2, s3, .val (.int i4), s5, .val (.int i6), s7, s8, s9, s10, s11, s12, s13, s14, s15, s16, s17, s18, s19, s20, s21, s22, s23, s24, s25, s26, .val (.ref o27), s28, s29, s30, s31, s32, s33, s34] [])) _
  refine XS.iload X0.here hx rfl (hb hby at_353) rfl ?_
  show Steps _ _ _ (T0.setTop (mkF m 355 #[s0, s1, s2, s3, .val (.int i4), s5, .val (.int i6), s7, s8, s9, s10, s11, s12, s13, s14, s15, s16, s17, s18, s19, s20, s21, s22, s23, s24, s25, s26, .val (.ref o27), s28, s29, s30, s31, s32, s33, s34] [(.int i4)])) _
  refine XS.bipush X0.here hx rfl (hb hby at_355) ?_
  show Steps _ _ _ (T0.setTop (mkF m 357 #[s0, s1, s2, s3, .val (.int i4), s5, .val (.int i6), s7, s8, s9, s10, s11, s12, s13, s14, s15, s16, s17, s18, s19, s20, s21, s22, s23, s24, s25, s26, .val (.ref o27), s28, s29, s30, s31, s32, s33, s34] [(.int (8 : Int32)), (.int i4)])) _
  refine XS.iand X0.here hx rfl (hb hby at_357) rfl ?_
  show Steps _ _ _ (T0.setTop (mkF m 358 #[s0, s1, s2, s3, .val (.int i4), s5, .val (.int i6), s7, s8, s9, s10, s11, s12, s13, s14, s15, s16, s17, s18, s19, s20, s21, s22, s23, s24, s25, s26, .val (.ref o27), s28, s29, s30, s31, s32, s33, s34] [(.int (i4 &&& (8 : Int32)))])) _
  refine XS.ifNo X0.here hx rfl (hb hby at_358) rfl ((if0 _ _).trans (feq hc358).1) ?_
  show Steps _ _ _ (T0.setTop (mkF m 361 #[s0, s1, s2, s3, .val (.int i4), s5, .val (.int i6), s7, s8, s9, s10, s11, s12, s13, s14, s15, s16, s17, s18, s19, s20, s21, s22, s23, s24, s25, s26, .val (.ref o27), s28, s29, s30, s31, s32, s33, s34] [])) _
  refine XS.aload X0.here hx rfl (hb hby at_361) rfl rfl ?_
  show Steps _ _ _ (T0.setTop (mkF m 363 #[s0, s1, s2, s3, .val (.int i4), s5, .val (.int i6), s7, s8, s9, s10, s11, s12, s13, s14, s15, s16, s17, s18, s19, s20, s21, s22, s23, s24, s25, s26, .val (.ref o27), s28, s29, s30, s31, s32, s33, s34] [(.ref o27)])) _
  refine XS.iload X0.here hx rfl (hb hby at_363) rfl ?_
  show Steps _ _ _ (T0.setTop (mkF m 365 #[s0, s1, s2, s3, .val (.int i4), s5, .val (.int i6), s7, s8, s9, s10, s11, s12, s13, s14, s15, s16, s17, s18, s19, s20, s21, s22, s23, s24, s25, s26, .val (.ref o27), s28, s29, s30, s31, s32, s33, s34] [(.int i6), (.ref o27)])) _
  refine st7.trans ?_
  show Steps _ _ _ (T7.setTop (mkF m 368 #[s0, s1, s2, s3, .val (.int i4), s5, .val (.int i6), s7, s8, s9, s10, s11, s12, s13, s14, s15, s16, s17, s18, s19, s20, s21, s22, s23, s24, s25, s26, .val (.ref o27), s28, s29, s30, s31, s32, s33, s34] [(.int (own_ask i6 z8))])) _
  refine XS.pop X7.here hx rfl (hb hby at_368) rfl rfl ?_
  exact kt
theorem tn0_353_369_t (s0 s1 s2 s3 : Slot) (i4 : Int32) (s5 s6 s7 s8 s9 s10 s11 s12 s13 s14 s15 s16 s17 s18 s19 s20 s21 s22 s23 s24 s25 s26 s27 s28 s29 s30 s31 s32 s33 s34 : Slot)
    (X0 : Stand p l e R s m args below meth c T0 locs cells slots) (hx : p.tables.exec = Jvm.exec) (hZ : Z.Warmed39 s.vm) (hw : ∀ d ∈ tables_1, d.before a0 Z = true) (hby : c.code = code) (hml : c.maxLocals = 35) (hown : s.vm.findClass own_s1 = some m.cls) (e0 : T0.heap = h0) (hc358 : (i4 &&& (8 : Int32)) = (0 : Int32)) :
    ∃ (T' : State), Stand p l e R s m args below meth c T' locs cells slots ∧ T'.heap = h0 ∧
      ∀ target, Steps p.tables e below (T'.setTop (mkF m 369 #[s0, s1, s2, s3, .val (.int i4), s5, s6, s7, s8, s9, s10, s11, s12, s13, s14, s15, s16, s17, s18, s19, s20, s21, s22, s23, s24, s25, s26, s27, s28, s29, s30, s31, s32, s33, s34] [])) target → Steps p.tables e below (T0.setTop (mkF m 353 #[s0, s1, s2, s3, .val (.int i4), s5, s6, s7, s8, s9, s10, s11, s12, s13, s14, s15, s16, s17, s18, s19, s20, s21, s22, s23, s24, s25, s26, s27, s28, s29, s30, s31, s32, s33, s34] [])) target := by
  refine ⟨T0, X0, e0, fun target kt => ?_⟩
  show Steps _ _ _ (T0.setTop (mkF m 353 #[s0, s1, s2, s3, .val (.int i4), s5, s6, s7, s8, s9, s10, s11, s12, s13, s14, s15, s16, s17, s18, s19, s20, s21, s22, s23, s24, s25, s26, s27, s28, s29, s30, s31, s32, s33, s34] [])) _
  refine XS.iload X0.here hx rfl (hb hby at_353) rfl ?_
  show Steps _ _ _ (T0.setTop (mkF m 355 #[s0, s1, s2, s3, .val (.int i4), s5, s6, s7, s8, s9, s10, s11, s12, s13, s14, s15, s16, s17, s18, s19, s20, s21, s22, s23, s24, s25, s26, s27, s28, s29, s30, s31, s32, s33, s34] [(.int i4)])) _
  refine XS.bipush X0.here hx rfl (hb hby at_355) ?_
  show Steps _ _ _ (T0.setTop (mkF m 357 #[s0, s1, s2, s3, .val (.int i4), s5, s6, s7, s8, s9, s10, s11, s12, s13, s14, s15, s16, s17, s18, s19, s20, s21, s22, s23, s24, s25, s26, s27, s28, s29, s30, s31, s32, s33, s34] [(.int (8 : Int32)), (.int i4)])) _
  refine XS.iand X0.here hx rfl (hb hby at_357) rfl ?_
  show Steps _ _ _ (T0.setTop (mkF m 358 #[s0, s1, s2, s3, .val (.int i4), s5, s6, s7, s8, s9, s10, s11, s12, s13, s14, s15, s16, s17, s18, s19, s20, s21, s22, s23, s24, s25, s26, s27, s28, s29, s30, s31, s32, s33, s34] [(.int (i4 &&& (8 : Int32)))])) _
  refine XS.ifYes X0.here hx rfl (pc0 := 358) (pc' := 369) rfl (hb hby at_358) rfl ((if0 _ _).trans (teq hc358).1) (by decide) (by decide) ?_
  exact kt
theorem why {v0 v1 v2 v3 v4 v5 v6 v7 v9 v10 v11 : Value} {z8 : Int32} (s0 s1 s2 s3 : Slot) (i4 : Int32) (s5 : Slot) (i6 : Int32) (s7 s8 s9 s10 s11 s12 s13 s14 s15 s16 s17 s18 s19 s20 s21 s22 s23 s24 s25 s26 : Slot) (o27 : Addr) (s28 s29 s30 s31 s32 s33 s34 : Slot)
    (X0 : Stand p l e room_1 s m args below meth c T0 locs 9 51) (hx : p.tables.exec = Jvm.exec) (hZ : Z.Warmed39 s.vm) (hw : ∀ d ∈ tables_1, d.before a0 Z = true) (hby : c.code = code) (hml : c.maxLocals = 35) (hown : s.vm.findClass own_s1 = some m.cls) (e0 : T0.heap = h0) (Z0 : n0 ≤ h0.size) (N0 : Fr n0 locs) (B : Br Z h0 o27 v0 v1 v2 v3 v4 v5 v6 v7 (.int z8) v9 v10 v11) (g : n0 ≤ o27)  :
    ∃ (T' : State) (L' : List Loc) (x8 : Int32), Stand p l e room_1 s m args below meth c T' L' 9 51 ∧ Fr n0 L' ∧ Keep h0 T'.heap [o27] ∧ Br Z T'.heap o27 v0 v1 v2 v3 v4 v5 v6 v7 (.int x8) v9 v10 v11 ∧
      ∀ target, Steps p.tables e below (T'.setTop (mkF m 369 #[s0, s1, s2, s3, .val (.int i4), s5, .val (.int i6), s7, s8, s9, s10, s11, s12, s13, s14, s15, s16, s17, s18, s19, s20, s21, s22, s23, s24, s25, s26, .val (.ref o27), s28, s29, s30, s31, s32, s33, s34] [])) target → Steps p.tables e below (T0.setTop (mkF m 353 #[s0, s1, s2, s3, .val (.int i4), s5, .val (.int i6), s7, s8, s9, s10, s11, s12, s13, s14, s15, s16, s17, s18, s19, s20, s21, s22, s23, s24, s25, s26, .val (.ref o27), s28, s29, s30, s31, s32, s33, s34] [])) target := by
  by_cases h1 : (i4 &&& (8 : Int32)) = (0 : Int32)
  · obtain ⟨T1, X1, e1, st1⟩ := tn0_353_369_t s0 s1 s2 s3 i4 s5 (.val (.int i6)) s7 s8 s9 s10 s11 s12 s13 s14 s15 s16 s17 s18 s19 s20 s21 s22 s23 s24 s25 s26 (.val (.ref o27)) s28 s29 s30 s31 s32 s33 s34 X0 hx hZ hw hby hml hown e0 h1
    exact ⟨T1, _, _, X1, N0, (by rw [e1]; exact Keep.refl _ _), (by rw [e1]; exact B), st1⟩
  · exact tn0_353_369_f s0 s1 s2 s3 i4 s5 i6 s7 s8 s9 s10 s11 s12 s13 s14 s15 s16 s17 s18 s19 s20 s21 s22 s23 s24 s25 s26 o27 s28 s29 s30 s31 s32 s33 s34 X0 hx hZ hw hby hml hown e0 Z0 N0 B g h1
theorem sgB {k_INT k_LONG : Addr} (s0 : Slot) (j1 : Int64) (i3 i4 : Int32) (s5 : Slot) (i6 : Int32) (s7 s8 s9 s10 : Slot) (o11 : Addr) (s12 s13 s14 s15 s16 s17 s18 s19 s20 s21 s22 s23 s24 s25 s26 : Slot) (o27 : Addr) (s28 s29 s30 s31 s32 s33 s34 : Slot)
    (X0 : Stand p l e room_1 s m args below meth c T0 locs 6 29) (hx : p.tables.exec = Jvm.exec) (hZ : Z.Warmed39 s.vm) (hw : ∀ d ∈ tables_1, d.before a0 Z = true) (hby : c.code = code) (hml : c.maxLocals = 35) (hown : s.vm.findClass own_s1 = some m.cls) (e0 : T0.heap = h0) (Z0 : n0 ≤ h0.size) (N0 : Fr n0 locs) (S_INT : Sta Z h0 own_s2 "INT" "Lcom/example/cablegram/cablegram/engine/ElementType;" (.ref k_INT)) (S_LONG : Sta Z h0 own_s2 "LONG" "Lcom/example/cablegram/cablegram/engine/ElementType;" (.ref k_LONG)) (E_LONG : Exa Z h0 k_LONG "com/example/cablegram/cablegram/engine/ElementType$6") (F_size : Fld Z h0 k_LONG own_s2 "size" "I" (.int (8 : Int32))) (E_o11 : Exa Z h0 o11 "[J") (g : n0 ≤ o27) (B : Br Z h0 o27 (.int (0 : Int32)) (.int (0 : Int32)) (.long (0 : Int64)) (.int (0 : Int32)) .null .null (.int (0 : Int32)) (.int (0 : Int32)) (.int (0 : Int32)) (.int (0 : Int32)) .null .null) (hs28 : One s28) :
    ∃ (T' : State) (L' : List Loc) (y28 : Int32) (u0 u1 u2 u3 u4 u5 u6 u7 u8 u9 u10 u11 : Value), Stand p l e room_1 s m args below meth c T' L' 9 51 ∧ Fr n0 L' ∧ Keep h0 T'.heap [o27] ∧ Br Z T'.heap o27 u0 u1 u2 u3 u4 u5 u6 u7 u8 u9 u10 u11 ∧
      ∀ target, Steps p.tables e below (T'.setTop (mkF m 369 #[s0, .val (.long j1), .second, .val (.int i3), .val (.int i4), s5, .val (.int i6), s7, s8, s9, s10, .val (.ref o11), s12, s13, s14, s15, s16, s17, s18, s19, s20, s21, s22, s23, s24, s25, s26, .val (.ref o27), .val (.int y28), s29, s30, s31, s32, s33, s34] [])) target → Steps p.tables e below (T0.setTop (mkF m 270 #[s0, .val (.long j1), .second, .val (.int i3), .val (.int i4), s5, .val (.int i6), s7, s8, s9, s10, .val (.ref o11), s12, s13, s14, s15, s16, s17, s18, s19, s20, s21, s22, s23, s24, s25, s26, .val (.ref o27), s28, s29, s30, s31, s32, s33, s34] [])) target := by
  by_cases hA : (i4 &&& (1 : Int32)) = (0 : Int32)
  · obtain ⟨TA, XA, eA, stA⟩ := tn0_270_311_tt s0 (.val (.long j1)) (.second) (.val (.int i3)) i4 s5 (.val (.int i6)) s7 s8 s9 s10 (.val (.ref o11)) s12 s13 s14 s15 s16 s17 s18 s19 s20 s21 s22 s23 s24 s25 s26 (.val (.ref o27)) s28 s29 s30 s31 s32 s33 s34 X0 hx hZ hw hby hml hown e0 (by first | exact own_oneU | exact own_oneI | exact own_oneR | assumption) hA
    obtain ⟨TB, LB, x10, XB, NB, KB, BB, stB⟩ := mkN s0 (.val (.long j1)) (.second) (.val (.int i3)) i4 s5 (.val (.int i6)) s7 s8 s9 s10 (.val (.ref o11)) s12 s13 s14 s15 s16 s17 s18 s19 s20 s21 s22 s23 s24 s25 s26 o27 (.val (.int (0 : Int32))) s29 s30 s31 s32 s33 s34 XA hx hZ hw hby hml hown eA Z0 N0 B g 
    obtain ⟨TC, XC, eC, stC⟩ := tn0_326_353_t s0 (.val (.long j1)) (.second) (.val (.int i3)) (.val (.int i4)) s5 (.val (.int i6)) s7 s8 s9 s10 (.val (.ref o11)) s12 s13 s14 s15 s16 s17 s18 s19 s20 s21 s22 s23 s24 s25 s26 (.val (.ref o27)) (0 : Int32) s29 s30 s31 s32 s33 s34 XB hx hZ hw hby hml hown (rfl : TB.heap = TB.heap) rfl
    have XC' := XC.more (cells' := 9) (slots' := 51) (by decide) (by decide)
    have KC : Keep h0 TC.heap [o27] := by rw [eC]; exact KB
    obtain ⟨TD, LD, x8, XD, ND, KD, BD, stD⟩ := why s0 (.val (.long j1)) (.second) (.val (.int i3)) i4 s5 i6 s7 s8 s9 s10 (.val (.ref o11)) s12 s13 s14 s15 s16 s17 s18 s19 s20 s21 s22 s23 s24 s25 s26 o27 (.val (.int (0 : Int32))) s29 s30 s31 s32 s33 s34 XC' hx hZ hw hby hml hown (rfl : TC.heap = TC.heap) (Nat.le_trans Z0 KC.1) NB (by rw [eC]; exact BB) g 
    exact ⟨TD, LD, (0 : Int32), _, _, _, _, _, _, _, _, _, _, _, _, XD, ND, KC.trans KD (allS (Or.inl (List.mem_cons_self ..)) all0), BD, fun target kt => stA _ (stB _ (stC _ (stD _ kt)))⟩
  · obtain ⟨TA, LA, XA, NA, KA, BA, stA⟩ := tn0_270_311_ff s0 j1 i3 i4 s5 i6 s7 s8 s9 s10 o11 s12 s13 s14 s15 s16 s17 s18 s19 s20 s21 s22 s23 s24 s25 s26 o27 s28 s29 s30 s31 s32 s33 s34 _ X0 hx hZ hw hby hml hown e0 Z0 N0 B g (by first | exact own_oneU | exact own_oneI | exact own_oneR | assumption) S_LONG hA (by decide)
    obtain ⟨TB, LB, x10, XB, NB, KB, BB, stB⟩ := mkR s0 (.val (.long j1)) (.second) (.val (.int i3)) i4 s5 (.val (.int i6)) s7 s8 s9 s10 (.val (.ref o11)) s12 s13 s14 s15 s16 s17 s18 s19 s20 s21 s22 s23 s24 s25 s26 o27 (.val (.int (1 : Int32))) s29 s30 s31 s32 s33 s34 XA hx hZ hw hby hml hown (rfl : TA.heap = TA.heap) (Nat.le_trans Z0 KA.1) NA BA g 
    have K2 : Keep h0 TB.heap [o27] := KA.trans KB (allS (Or.inl (List.mem_cons_self ..)) all0)
    have hne : k_LONG ≠ o27 := E_LONG.ne B.1 (by decide)
    obtain ⟨TC, LC, x9, x11, XC, NC, KC, BC, stC⟩ := tkS s0 j1 i3 i4 s5 i6 s7 s8 s9 s10 (.val (.ref o11)) s12 s13 s14 s15 s16 s17 s18 s19 s20 s21 s22 s23 s24 s25 s26 o27 (1 : Int32) s29 s30 s31 s32 s33 s34 XB hx hZ hw hby hml hown (rfl : TB.heap = TB.heap) (Nat.le_trans Z0 K2.1) NB BB g (F_size.keep K2 (ninS hne nin0)) (own_insk E_o11 K2) (E_LONG.keep K2) k_INT (own_stk S_INT B.1 K2) 
    have K3 : Keep h0 TC.heap [o27] := K2.trans KC (allS (Or.inl (List.mem_cons_self ..)) all0)
    obtain ⟨TD, LD, x8, XD, ND, KD, BD, stD⟩ := why s0 (.val (.long j1)) (.second) (.val (.int i3)) i4 s5 i6 s7 s8 s9 s10 (.val (.ref o11)) s12 s13 s14 s15 s16 s17 s18 s19 s20 s21 s22 s23 s24 s25 s26 o27 (.val (.int (1 : Int32))) s29 s30 s31 s32 s33 s34 XC hx hZ hw hby hml hown (rfl : TC.heap = TC.heap) (Nat.le_trans Z0 K3.1) NC BC g 
    exact ⟨TD, LD, (1 : Int32), _, _, _, _, _, _, _, _, _, _, _, _, XD, ND, K3.trans KD (allS (Or.inl (List.mem_cons_self ..)) all0), BD, fun target kt => stA _ (stB _ (stC _ (stD _ kt)))⟩
theorem pd_0_2 : parseMethodDescriptor "()I" = some ⟨[], some .int⟩ := by decide +kernel
theorem pd_0_3 : parseMethodDescriptor "()J" = some ⟨[], some .long⟩ := by decide +kernel
theorem pd_0_4 : parseMethodDescriptor "()Lcom/example/cablegram/cablegram/engine/Receive;" = some ⟨[], some (.object "com/example/cablegram/cablegram/engine/Receive")⟩ := by decide +kernel
theorem pd_0_5 : parseMethodDescriptor "()Lcom/example/cablegram/cablegram/engine/Received;" = some ⟨[], some (.object "com/example/cablegram/cablegram/engine/Received")⟩ := by decide +kernel
theorem os0_422 {s0 : Slot} {z1 : Value} {s3 s4 s5 s6 s7 s8 s9 s10 s11 s12 : Slot} {z13 z14 : Value} {s15 : Slot} {z16 : Value} {s17 : Slot} {z18 z19 z20 : Value} {s21 s22 s23 s24 s25 s26 : Slot} {z27 : Value} {s28 s29 s30 s31 s32 s33 s34 : Slot} {v : Int32} (h : One s29) : storeLocals #[s0, .val z1, .second, s3, s4, s5, s6, s7, s8, s9, s10, s11, s12, .val z13, .val z14, s15, .val z16, s17, .val z18, .val z19, .val z20, s21, s22, s23, s24, s25, s26, .val z27, s28, s29, s30, s31, s32, s33, s34] 29 (.int v) = some #[s0, .val z1, .second, s3, s4, s5, s6, s7, s8, s9, s10, s11, s12, .val z13, .val z14, s15, .val z16, s17, .val z18, .val z19, .val z20, s21, s22, s23, s24, s25, s26, .val z27, s28, .val (.int v), s30, s31, s32, s33, s34] := by
  rcases h with rfl | ⟨w, rfl, hw⟩
  · rfl
  · cases w <;> first | rfl | (simp [Value.category] at hw)
theorem os0_445 {s0 : Slot} {z1 : Value} {s3 s4 s5 s6 s7 s8 s9 s10 s11 s12 : Slot} {z13 z14 : Value} {s15 : Slot} {z16 : Value} {s17 : Slot} {z18 z19 z20 : Value} {s21 s22 s23 s24 s25 s26 : Slot} {z27 : Value} {s28 : Slot} {z29 : Value} {s30 s31 s32 s33 s34 : Slot} {v : Int32} (h : One s30) : storeLocals #[s0, .val z1, .second, s3, s4, s5, s6, s7, s8, s9, s10, s11, s12, .val z13, .val z14, s15, .val z16, s17, .val z18, .val z19, .val z20, s21, s22, s23, s24, s25, s26, .val z27, s28, .val z29, s30, s31, s32, s33, s34] 30 (.int v) = some #[s0, .val z1, .second, s3, s4, s5, s6, s7, s8, s9, s10, s11, s12, .val z13, .val z14, s15, .val z16, s17, .val z18, .val z19, .val z20, s21, s22, s23, s24, s25, s26, .val z27, s28, .val z29, .val (.int v), s31, s32, s33, s34] := by
  rcases h with rfl | ⟨w, rfl, hw⟩
  · rfl
  · cases w <;> first | rfl | (simp [Value.category] at hw)
theorem tn0_369_447_x {v0 v1 v2 v3 v4 v5 v6 v7 v8 v9 v10 v11 : Value} (s0 : Slot) (j1 : Int64) (s3 s4 s5 s6 s7 s8 s9 s10 s11 s12 : Slot) (o13 o14 : Addr) (s15 : Slot) (i16 : Int32) (s17 : Slot) (i18 i19 i20 : Int32) (s21 s22 s23 s24 s25 s26 : Slot) (o27 : Addr) (s28 s29 s30 s31 s32 s33 s34 : Slot)
    (X0 : Stand p l e room_1 s m args below meth c T0 locs 9 51) (hx : p.tables.exec = Jvm.exec) (hZ : Z.Warmed39 s.vm) (hw : ∀ d ∈ tables_1, d.before a0 Z = true) (hby : c.code = code) (hml : c.maxLocals = 35) (hown : s.vm.findClass own_s1 = some m.cls) (e0 : T0.heap = h0) (Z0 : n0 ≤ h0.size) (N0 : Fr n0 locs) (B : Br Z h0 o27 v0 v1 v2 v3 v4 v5 v6 v7 v8 v9 v10 v11) (g : n0 ≤ o27) (hs29 : One s29) (hs30 : One s30) :
    ∃ (T' : State) (L' : List Loc), Stand p l e room_1 s m args below meth c T' L' 9 51 ∧ Fr n0 L' ∧ n0 ≤ T'.heap.size ∧ Br Z T'.heap o27 (.int (1 : Int32)) (.int i16) (.long j1) (.int i18) (.ref o13) (.ref o14) (.int i20) (.int i19) (.int (-1 : Int32)) (.int (0 : Int32)) .null v11 ∧
      ∀ target, Steps p.tables e below (T'.setTop (mkF m 447 #[s0, .val (.long j1), .second, s3, s4, s5, s6, s7, s8, s9, s10, s11, s12, .val (.ref o13), .val (.ref o14), s15, .val (.int i16), s17, .val (.int i18), .val (.int i19), .val (.int i20), s21, s22, s23, s24, s25, s26, .val (.ref o27), s28, .val (.int (1 : Int32)), .val (.int (1 : Int32)), s31, s32, s33, s34] [])) target → Steps p.tables e below (T0.setTop (mkF m 369 #[s0, .val (.long j1), .second, s3, s4, s5, s6, s7, s8, s9, s10, s11, s12, .val (.ref o13), .val (.ref o14), s15, .val (.int i16), s17, .val (.int i18), .val (.int i19), .val (.int i20), s21, s22, s23, s24, s25, s26, .val (.ref o27), s28, s29, s30, s31, s32, s33, s34] [])) target := by
  have E_o27 : Exa Z h0 o27 own_s0 := B.1
  obtain ⟨cq7, kq7, q7a, q7b, q7c⟩ := isOf hZ e0 E_o27
  obtain ⟨_, _, ⟨T7, L7, k7, n7⟩, -, X7, ⟨Lc7, hQ7, l7, y7, z7⟩, st7⟩ := X0.virtualBack hx (y := own_n1) (z := own_n1) hown (mvT hZ (own_w hw 19 rfl)) (mvT hZ (own_w hw 20 rfl)) (notFace_of_selects (args := #[]) (mvT hZ (own_w hw 22 rfl))) (mvT hZ (own_w hw 22 rfl)) (mvT hZ (own_w hw 21 rfl)) (by decide) (backOf (W := 0) (rm3B l Z a0 hw [] o27 i16 j1 i18 o13 o14 i20 i19 v0 v1 v2 v3 v4 v5 v6 v7 v8 v9 v10 v11 h0 n0 Z0 g B) hZ (own_w hw 23 rfl) (own_w hw 12 rfl) (by decide) (by decide)) q7a q7c (g := (mkF m 384 #[s0, .val (.long j1), .second, s3, s4, s5, s6, s7, s8, s9, s10, s11, s12, .val (.ref o13), .val (.ref o14), s15, .val (.int i16), s17, .val (.int i18), .val (.int i19), .val (.int i20), s21, s22, s23, s24, s25, s26, .val (.ref o27), s28, s29, s30, s31, s32, s33, s34] [(.int i19), (.int i20), (.ref o14), (.ref o13), (.int i18), (.long j1), (.int i16), (.ref o27)])) rfl (by rw [hml]; rfl) (Steps.refl _) (argsL := [(.int i16), (.long j1), (.int i18), (.ref o13), (.ref o14), (.int i20), (.int i19)]) (rest := []) (lenOf pd_0_1 rfl) rfl (by show 2 * 0 + _ ≤ _; exact Nat.le_of_eq rfl) (hb hby at_384) (fun _ _ => ⟨rfl, e0, (by decide : 9 + 0 ≤ _), (by decide : 51 + 0 ≤ _)⟩)
  dsimp only [Pt.U, Pt.locs, Pt.cells, Pt.slots] at X7 l7 y7 z7 st7 hQ7
  subst l7 y7 z7
  obtain ⟨rfl, N7q, Kc7, B7⟩ := hQ7
  have N7 := Fr.app N0 N7q
  have Z7 := Nat.le_trans Z0 Kc7.1
  obtain ⟨cq8, kq8, q8a, q8b, q8c⟩ := isOf hZ rfl (E_o27.keep Kc7)
  obtain ⟨_, _, ⟨T8, L8, k8, n8⟩, -, X8, ⟨Lc8, hQ8, l8, y8, z8⟩, st8⟩ := X7.virtualBack hx (y := own_n2) (z := own_n2) hown (mvT hZ (own_w hw 46 rfl)) (mvT hZ (own_w hw 47 rfl)) (notFace_of_selects (args := #[]) (mvT hZ (own_w hw 49 rfl))) (mvT hZ (own_w hw 49 rfl)) (mvT hZ (own_w hw 48 rfl)) (by decide) (backOf (W := 0) (rm4 l Z a0 hw [] o27 i16 T7.heap n0 Z7 B7.2.2.1) hZ (own_w hw 50 rfl) (own_w hw 12 rfl) (by decide) (by decide)) q8a q8c (g := (mkF m 389 #[s0, .val (.long j1), .second, s3, s4, s5, s6, s7, s8, s9, s10, s11, s12, .val (.ref o13), .val (.ref o14), s15, .val (.int i16), s17, .val (.int i18), .val (.int i19), .val (.int i20), s21, s22, s23, s24, s25, s26, .val (.ref o27), s28, s29, s30, s31, s32, s33, s34] [(.ref o27)])) rfl (by rw [hml]; rfl) (Steps.refl _) (argsL := []) (rest := []) (lenOf pd_0_2 rfl) rfl (by show 2 * 0 + _ ≤ _; exact Nat.le_of_eq rfl) (hb hby at_389) (fun _ _ => ⟨rfl, rfl, (by decide : 9 + 0 ≤ _), (by decide : 51 + 0 ≤ _)⟩)
  dsimp only [Pt.U, Pt.locs, Pt.cells, Pt.slots] at X8 l8 y8 z8 st8 hQ8
  subst l8 y8 z8
  obtain ⟨rfl, N8q, eq8⟩ := hQ8
  have N8 := Fr.app N7 N8q
  have Kc8 : Keep T7.heap T8.heap [] := own_kp eq8
  have B8 := B7.keep Kc8 nin0
  have Z8 := Nat.le_trans Z7 Kc8.1
  obtain ⟨cq9, kq9, q9a, q9b, q9c⟩ := isOf hZ rfl ((E_o27.keep Kc7).keep Kc8)
  obtain ⟨_, _, ⟨T9, L9, k9, n9⟩, -, X9, ⟨Lc9, hQ9, l9, y9, z9⟩, st9⟩ := X8.virtualBack hx (y := own_n3) (z := own_n3) hown (mvT hZ (own_w hw 51 rfl)) (mvT hZ (own_w hw 52 rfl)) (notFace_of_selects (args := #[]) (mvT hZ (own_w hw 54 rfl))) (mvT hZ (own_w hw 54 rfl)) (mvT hZ (own_w hw 53 rfl)) (by decide) (backOf (W := 0) (rm5 l Z a0 hw [] o27 j1 T8.heap n0 Z8 B8.2.2.2.1) hZ (own_w hw 55 rfl) (own_w hw 12 rfl) (by decide) (by decide)) q9a q9c (g := (mkF m 399 #[s0, .val (.long j1), .second, s3, s4, s5, s6, s7, s8, s9, s10, s11, s12, .val (.ref o13), .val (.ref o14), s15, .val (.int i16), s17, .val (.int i18), .val (.int i19), .val (.int i20), s21, s22, s23, s24, s25, s26, .val (.ref o27), s28, s29, s30, s31, s32, s33, s34] [(.ref o27)])) rfl (by rw [hml]; rfl) (Steps.refl _) (argsL := []) (rest := []) (lenOf pd_0_3 rfl) rfl (by show 2 * 0 + _ ≤ _; exact Nat.le_of_eq rfl) (hb hby at_399) (fun _ _ => ⟨rfl, rfl, (by decide : 9 + 0 ≤ _), (by decide : 51 + 0 ≤ _)⟩)
  dsimp only [Pt.U, Pt.locs, Pt.cells, Pt.slots] at X9 l9 y9 z9 st9 hQ9
  subst l9 y9 z9
  obtain ⟨rfl, N9q, eq9⟩ := hQ9
  have N9 := Fr.app N8 N9q
  have Kc9 : Keep T8.heap T9.heap [] := own_kp eq9
  have B9 := B8.keep Kc9 nin0
  have Z9 := Nat.le_trans Z8 Kc9.1
  obtain ⟨cq10, kq10, q10a, q10b, q10c⟩ := isOf hZ rfl (((E_o27.keep Kc7).keep Kc8).keep Kc9)
  obtain ⟨_, _, ⟨T10, L10, k10, n10⟩, -, X10, ⟨Lc10, hQ10, l10, y10, z10⟩, st10⟩ := X9.virtualBack hx (y := own_n4) (z := own_n4) hown (mvT hZ (own_w hw 56 rfl)) (mvT hZ (own_w hw 57 rfl)) (notFace_of_selects (args := #[]) (mvT hZ (own_w hw 59 rfl))) (mvT hZ (own_w hw 59 rfl)) (mvT hZ (own_w hw 58 rfl)) (by decide) (backOf (W := 0) (rm6 l Z a0 hw [] o27 i18 T9.heap n0 Z9 B9.2.2.2.2.1) hZ (own_w hw 60 rfl) (own_w hw 12 rfl) (by decide) (by decide)) q10a q10c (g := (mkF m 409 #[s0, .val (.long j1), .second, s3, s4, s5, s6, s7, s8, s9, s10, s11, s12, .val (.ref o13), .val (.ref o14), s15, .val (.int i16), s17, .val (.int i18), .val (.int i19), .val (.int i20), s21, s22, s23, s24, s25, s26, .val (.ref o27), s28, s29, s30, s31, s32, s33, s34] [(.ref o27)])) rfl (by rw [hml]; rfl) (Steps.refl _) (argsL := []) (rest := []) (lenOf pd_0_2 rfl) rfl (by show 2 * 0 + _ ≤ _; exact Nat.le_of_eq rfl) (hb hby at_409) (fun _ _ => ⟨rfl, rfl, (by decide : 9 + 0 ≤ _), (by decide : 51 + 0 ≤ _)⟩)
  dsimp only [Pt.U, Pt.locs, Pt.cells, Pt.slots] at X10 l10 y10 z10 st10 hQ10
  subst l10 y10 z10
  obtain ⟨rfl, N10q, eq10⟩ := hQ10
  have N10 := Fr.app N9 N10q
  have Kc10 : Keep T9.heap T10.heap [] := own_kp eq10
  have B10 := B9.keep Kc10 nin0
  have Z10 := Nat.le_trans Z9 Kc10.1
  obtain ⟨cq11, kq11, q11a, q11b, q11c⟩ := isOf hZ rfl ((((E_o27.keep Kc7).keep Kc8).keep Kc9).keep Kc10)
  obtain ⟨_, _, ⟨T11, L11, k11, n11⟩, -, X11, ⟨Lc11, hQ11, l11, y11, z11⟩, st11⟩ := X10.virtualBack hx (y := own_n5) (z := own_n5) hown (mvT hZ (own_w hw 61 rfl)) (mvT hZ (own_w hw 62 rfl)) (notFace_of_selects (args := #[]) (mvT hZ (own_w hw 64 rfl))) (mvT hZ (own_w hw 64 rfl)) (mvT hZ (own_w hw 63 rfl)) (by decide) (backOf (W := 0) (rm7 l Z a0 hw [] o27 T10.heap n0 Z10 B10.2.2.2.2.2.2.2.2.2.2.2.1) hZ (own_w hw 65 rfl) (own_w hw 12 rfl) (by decide) (by decide)) q11a q11c (g := (mkF m 426 #[s0, .val (.long j1), .second, s3, s4, s5, s6, s7, s8, s9, s10, s11, s12, .val (.ref o13), .val (.ref o14), s15, .val (.int i16), s17, .val (.int i18), .val (.int i19), .val (.int i20), s21, s22, s23, s24, s25, s26, .val (.ref o27), s28, .val (.int (1 : Int32)), s30, s31, s32, s33, s34] [(.ref o27)])) rfl (by rw [hml]; rfl) (Steps.refl _) (argsL := []) (rest := []) (lenOf pd_0_4 rfl) rfl (by show 2 * 0 + _ ≤ _; exact Nat.le_of_eq rfl) (hb hby at_426) (fun _ _ => ⟨rfl, rfl, (by decide : 9 + 0 ≤ _), (by decide : 51 + 0 ≤ _)⟩)
  dsimp only [Pt.U, Pt.locs, Pt.cells, Pt.slots] at X11 l11 y11 z11 st11 hQ11
  subst l11 y11 z11
  obtain ⟨rfl, N11q, eq11⟩ := hQ11
  have N11 := Fr.app N10 N11q
  have Kc11 : Keep T10.heap T11.heap [] := own_kp eq11
  have B11 := B10.keep Kc11 nin0
  have Z11 := Nat.le_trans Z10 Kc11.1
  obtain ⟨cq12, kq12, q12a, q12b, q12c⟩ := isOf hZ rfl (((((E_o27.keep Kc7).keep Kc8).keep Kc9).keep Kc10).keep Kc11)
  obtain ⟨_, _, ⟨T12, L12, k12, n12⟩, -, X12, ⟨Lc12, hQ12, l12, y12, z12⟩, st12⟩ := X11.virtualBack hx (y := own_n6) (z := own_n6) hown (mvT hZ (own_w hw 66 rfl)) (mvT hZ (own_w hw 67 rfl)) (notFace_of_selects (args := #[]) (mvT hZ (own_w hw 69 rfl))) (mvT hZ (own_w hw 69 rfl)) (mvT hZ (own_w hw 68 rfl)) (by decide) (backOf (W := 0) (rm8 l Z a0 hw [] o27 (0 : Int32) T11.heap n0 Z11 B11.2.2.2.2.2.2.2.2.2.2.1 rfl) hZ (own_w hw 70 rfl) (own_w hw 12 rfl) (by decide) (by decide)) q12a q12c (g := (mkF m 434 #[s0, .val (.long j1), .second, s3, s4, s5, s6, s7, s8, s9, s10, s11, s12, .val (.ref o13), .val (.ref o14), s15, .val (.int i16), s17, .val (.int i18), .val (.int i19), .val (.int i20), s21, s22, s23, s24, s25, s26, .val (.ref o27), s28, .val (.int (1 : Int32)), s30, s31, s32, s33, s34] [(.ref o27)])) rfl (by rw [hml]; rfl) (Steps.refl _) (argsL := []) (rest := []) (lenOf pd_0_5 rfl) rfl (by show 2 * 0 + _ ≤ _; exact Nat.le_of_eq rfl) (hb hby at_434) (fun _ _ => ⟨rfl, rfl, (by decide : 9 + 0 ≤ _), (by decide : 51 + 0 ≤ _)⟩)
  dsimp only [Pt.U, Pt.locs, Pt.cells, Pt.slots] at X12 l12 y12 z12 st12 hQ12
  subst l12 y12 z12
  obtain ⟨rfl, N12q, eq12⟩ := hQ12
  have N12 := Fr.app N11 N12q
  have Kc12 : Keep T11.heap T12.heap [] := own_kp eq12
  have B12 := B11.keep Kc12 nin0
  have Z12 := Nat.le_trans Z11 Kc12.1
  refine ⟨T12, _, X12, N12, Z12, B12, fun target kt => ?_⟩
  show Steps _ _ _ (T0.setTop (mkF m 369 #[s0, .val (.long j1), .second, s3, s4, s5, s6, s7, s8, s9, s10, s11, s12, .val (.ref o13), .val (.ref o14), s15, .val (.int i16), s17, .val (.int i18), .val (.int i19), .val (.int i20), s21, s22, s23, s24, s25, s26, .val (.ref o27), s28, s29, s30, s31, s32, s33, s34] [])) _
  refine XS.aload X0.here hx rfl (hb hby at_369) rfl rfl ?_
  show Steps _ _ _ (T0.setTop (mkF m 371 #[s0, .val (.long j1), .second, s3, s4, s5, s6, s7, s8, s9, s10, s11, s12, .val (.ref o13), .val (.ref o14), s15, .val (.int i16), s17, .val (.int i18), .val (.int i19), .val (.int i20), s21, s22, s23, s24, s25, s26, .val (.ref o27), s28, s29, s30, s31, s32, s33, s34] [(.ref o27)])) _
  refine XS.iload X0.here hx rfl (hb hby at_371) rfl ?_
  show Steps _ _ _ (T0.setTop (mkF m 373 #[s0, .val (.long j1), .second, s3, s4, s5, s6, s7, s8, s9, s10, s11, s12, .val (.ref o13), .val (.ref o14), s15, .val (.int i16), s17, .val (.int i18), .val (.int i19), .val (.int i20), s21, s22, s23, s24, s25, s26, .val (.ref o27), s28, s29, s30, s31, s32, s33, s34] [(.int i16), (.ref o27)])) _
  refine XS.lloadN X0.here hx rfl (hb hby at_373) rfl ?_
  show Steps _ _ _ (T0.setTop (mkF m 374 #[s0, .val (.long j1), .second, s3, s4, s5, s6, s7, s8, s9, s10, s11, s12, .val (.ref o13), .val (.ref o14), s15, .val (.int i16), s17, .val (.int i18), .val (.int i19), .val (.int i20), s21, s22, s23, s24, s25, s26, .val (.ref o27), s28, s29, s30, s31, s32, s33, s34] [(.long j1), (.int i16), (.ref o27)])) _
  refine XS.iload X0.here hx rfl (hb hby at_374) rfl ?_
  show Steps _ _ _ (T0.setTop (mkF m 376 #[s0, .val (.long j1), .second, s3, s4, s5, s6, s7, s8, s9, s10, s11, s12, .val (.ref o13), .val (.ref o14), s15, .val (.int i16), s17, .val (.int i18), .val (.int i19), .val (.int i20), s21, s22, s23, s24, s25, s26, .val (.ref o27), s28, s29, s30, s31, s32, s33, s34] [(.int i18), (.long j1), (.int i16), (.ref o27)])) _
  refine XS.aload X0.here hx rfl (hb hby at_376) rfl rfl ?_
  show Steps _ _ _ (T0.setTop (mkF m 378 #[s0, .val (.long j1), .second, s3, s4, s5, s6, s7, s8, s9, s10, s11, s12, .val (.ref o13), .val (.ref o14), s15, .val (.int i16), s17, .val (.int i18), .val (.int i19), .val (.int i20), s21, s22, s23, s24, s25, s26, .val (.ref o27), s28, s29, s30, s31, s32, s33, s34] [(.ref o13), (.int i18), (.long j1), (.int i16), (.ref o27)])) _
  refine XS.aload X0.here hx rfl (hb hby at_378) rfl rfl ?_
  show Steps _ _ _ (T0.setTop (mkF m 380 #[s0, .val (.long j1), .second, s3, s4, s5, s6, s7, s8, s9, s10, s11, s12, .val (.ref o13), .val (.ref o14), s15, .val (.int i16), s17, .val (.int i18), .val (.int i19), .val (.int i20), s21, s22, s23, s24, s25, s26, .val (.ref o27), s28, s29, s30, s31, s32, s33, s34] [(.ref o14), (.ref o13), (.int i18), (.long j1), (.int i16), (.ref o27)])) _
  refine XS.iload X0.here hx rfl (hb hby at_380) rfl ?_
  show Steps _ _ _ (T0.setTop (mkF m 382 #[s0, .val (.long j1), .second, s3, s4, s5, s6, s7, s8, s9, s10, s11, s12, .val (.ref o13), .val (.ref o14), s15, .val (.int i16), s17, .val (.int i18), .val (.int i19), .val (.int i20), s21, s22, s23, s24, s25, s26, .val (.ref o27), s28, s29, s30, s31, s32, s33, s34] [(.int i20), (.ref o14), (.ref o13), (.int i18), (.long j1), (.int i16), (.ref o27)])) _
  refine XS.iload X0.here hx rfl (hb hby at_382) rfl ?_
  show Steps _ _ _ (T0.setTop (mkF m 384 #[s0, .val (.long j1), .second, s3, s4, s5, s6, s7, s8, s9, s10, s11, s12, .val (.ref o13), .val (.ref o14), s15, .val (.int i16), s17, .val (.int i18), .val (.int i19), .val (.int i20), s21, s22, s23, s24, s25, s26, .val (.ref o27), s28, s29, s30, s31, s32, s33, s34] [(.int i19), (.int i20), (.ref o14), (.ref o13), (.int i18), (.long j1), (.int i16), (.ref o27)])) _
  refine st7.trans ?_
  show Steps _ _ _ (T7.setTop (mkF m 387 #[s0, .val (.long j1), .second, s3, s4, s5, s6, s7, s8, s9, s10, s11, s12, .val (.ref o13), .val (.ref o14), s15, .val (.int i16), s17, .val (.int i18), .val (.int i19), .val (.int i20), s21, s22, s23, s24, s25, s26, .val (.ref o27), s28, s29, s30, s31, s32, s33, s34] [])) _
  refine XS.aload X7.here hx rfl (hb hby at_387) rfl rfl ?_
  show Steps _ _ _ (T7.setTop (mkF m 389 #[s0, .val (.long j1), .second, s3, s4, s5, s6, s7, s8, s9, s10, s11, s12, .val (.ref o13), .val (.ref o14), s15, .val (.int i16), s17, .val (.int i18), .val (.int i19), .val (.int i20), s21, s22, s23, s24, s25, s26, .val (.ref o27), s28, s29, s30, s31, s32, s33, s34] [(.ref o27)])) _
  refine st8.trans ?_
  show Steps _ _ _ (T8.setTop (mkF m 392 #[s0, .val (.long j1), .second, s3, s4, s5, s6, s7, s8, s9, s10, s11, s12, .val (.ref o13), .val (.ref o14), s15, .val (.int i16), s17, .val (.int i18), .val (.int i19), .val (.int i20), s21, s22, s23, s24, s25, s26, .val (.ref o27), s28, s29, s30, s31, s32, s33, s34] [(.int i16)])) _
  refine XS.iload X8.here hx rfl (hb hby at_392) rfl ?_
  show Steps _ _ _ (T8.setTop (mkF m 394 #[s0, .val (.long j1), .second, s3, s4, s5, s6, s7, s8, s9, s10, s11, s12, .val (.ref o13), .val (.ref o14), s15, .val (.int i16), s17, .val (.int i18), .val (.int i19), .val (.int i20), s21, s22, s23, s24, s25, s26, .val (.ref o27), s28, s29, s30, s31, s32, s33, s34] [(.int i16), (.int i16)])) _
  refine XS.icmpNo X8.here hx rfl (hb hby at_394) rfl (teq (by first | exact own_lc0.mpr rfl | rfl : i16 = i16)).2 ?_
  show Steps _ _ _ (T8.setTop (mkF m 397 #[s0, .val (.long j1), .second, s3, s4, s5, s6, s7, s8, s9, s10, s11, s12, .val (.ref o13), .val (.ref o14), s15, .val (.int i16), s17, .val (.int i18), .val (.int i19), .val (.int i20), s21, s22, s23, s24, s25, s26, .val (.ref o27), s28, s29, s30, s31, s32, s33, s34] [])) _
  refine XS.aload X8.here hx rfl (hb hby at_397) rfl rfl ?_
  show Steps _ _ _ (T8.setTop (mkF m 399 #[s0, .val (.long j1), .second, s3, s4, s5, s6, s7, s8, s9, s10, s11, s12, .val (.ref o13), .val (.ref o14), s15, .val (.int i16), s17, .val (.int i18), .val (.int i19), .val (.int i20), s21, s22, s23, s24, s25, s26, .val (.ref o27), s28, s29, s30, s31, s32, s33, s34] [(.ref o27)])) _
  refine st9.trans ?_
  show Steps _ _ _ (T9.setTop (mkF m 402 #[s0, .val (.long j1), .second, s3, s4, s5, s6, s7, s8, s9, s10, s11, s12, .val (.ref o13), .val (.ref o14), s15, .val (.int i16), s17, .val (.int i18), .val (.int i19), .val (.int i20), s21, s22, s23, s24, s25, s26, .val (.ref o27), s28, s29, s30, s31, s32, s33, s34] [(.long j1)])) _
  refine XS.lloadN X9.here hx rfl (hb hby at_402) rfl ?_
  show Steps _ _ _ (T9.setTop (mkF m 403 #[s0, .val (.long j1), .second, s3, s4, s5, s6, s7, s8, s9, s10, s11, s12, .val (.ref o13), .val (.ref o14), s15, .val (.int i16), s17, .val (.int i18), .val (.int i19), .val (.int i20), s21, s22, s23, s24, s25, s26, .val (.ref o27), s28, s29, s30, s31, s32, s33, s34] [(.long j1), (.long j1)])) _
  refine XS.lcmp X9.here hx rfl (hb hby at_403) rfl ?_
  show Steps _ _ _ (T9.setTop (mkF m 404 #[s0, .val (.long j1), .second, s3, s4, s5, s6, s7, s8, s9, s10, s11, s12, .val (.ref o13), .val (.ref o14), s15, .val (.int i16), s17, .val (.int i18), .val (.int i19), .val (.int i20), s21, s22, s23, s24, s25, s26, .val (.ref o27), s28, s29, s30, s31, s32, s33, s34] [(.int (lcmpW j1 j1))])) _
  refine XS.ifNo X9.here hx rfl (hb hby at_404) rfl ((if0 _ _).trans (teq (by first | exact own_lc0.mpr rfl | rfl : (lcmpW j1 j1) = (0 : Int32))).2) ?_
  show Steps _ _ _ (T9.setTop (mkF m 407 #[s0, .val (.long j1), .second, s3, s4, s5, s6, s7, s8, s9, s10, s11, s12, .val (.ref o13), .val (.ref o14), s15, .val (.int i16), s17, .val (.int i18), .val (.int i19), .val (.int i20), s21, s22, s23, s24, s25, s26, .val (.ref o27), s28, s29, s30, s31, s32, s33, s34] [])) _
  refine XS.aload X9.here hx rfl (hb hby at_407) rfl rfl ?_
  show Steps _ _ _ (T9.setTop (mkF m 409 #[s0, .val (.long j1), .second, s3, s4, s5, s6, s7, s8, s9, s10, s11, s12, .val (.ref o13), .val (.ref o14), s15, .val (.int i16), s17, .val (.int i18), .val (.int i19), .val (.int i20), s21, s22, s23, s24, s25, s26, .val (.ref o27), s28, s29, s30, s31, s32, s33, s34] [(.ref o27)])) _
  refine st10.trans ?_
  show Steps _ _ _ (T10.setTop (mkF m 412 #[s0, .val (.long j1), .second, s3, s4, s5, s6, s7, s8, s9, s10, s11, s12, .val (.ref o13), .val (.ref o14), s15, .val (.int i16), s17, .val (.int i18), .val (.int i19), .val (.int i20), s21, s22, s23, s24, s25, s26, .val (.ref o27), s28, s29, s30, s31, s32, s33, s34] [(.int i18)])) _
  refine XS.iload X10.here hx rfl (hb hby at_412) rfl ?_
  show Steps _ _ _ (T10.setTop (mkF m 414 #[s0, .val (.long j1), .second, s3, s4, s5, s6, s7, s8, s9, s10, s11, s12, .val (.ref o13), .val (.ref o14), s15, .val (.int i16), s17, .val (.int i18), .val (.int i19), .val (.int i20), s21, s22, s23, s24, s25, s26, .val (.ref o27), s28, s29, s30, s31, s32, s33, s34] [(.int i18), (.int i18)])) _
  refine XS.icmpNo X10.here hx rfl (hb hby at_414) rfl (teq (by first | exact own_lc0.mpr rfl | rfl : i18 = i18)).2 ?_
  show Steps _ _ _ (T10.setTop (mkF m 417 #[s0, .val (.long j1), .second, s3, s4, s5, s6, s7, s8, s9, s10, s11, s12, .val (.ref o13), .val (.ref o14), s15, .val (.int i16), s17, .val (.int i18), .val (.int i19), .val (.int i20), s21, s22, s23, s24, s25, s26, .val (.ref o27), s28, s29, s30, s31, s32, s33, s34] [])) _
  refine XS.iconst X10.here hx rfl (hb hby at_417) ?_
  show Steps _ _ _ (T10.setTop (mkF m 418 #[s0, .val (.long j1), .second, s3, s4, s5, s6, s7, s8, s9, s10, s11, s12, .val (.ref o13), .val (.ref o14), s15, .val (.int i16), s17, .val (.int i18), .val (.int i19), .val (.int i20), s21, s22, s23, s24, s25, s26, .val (.ref o27), s28, s29, s30, s31, s32, s33, s34] [(.int (1 : Int32))])) _
  refine XS.goto X10.here hx rfl (pc0 := 418) (pc' := 422) rfl (hb hby at_418) (by decide) (by decide) ?_
  show Steps _ _ _ (T10.setTop (mkF m 422 #[s0, .val (.long j1), .second, s3, s4, s5, s6, s7, s8, s9, s10, s11, s12, .val (.ref o13), .val (.ref o14), s15, .val (.int i16), s17, .val (.int i18), .val (.int i19), .val (.int i20), s21, s22, s23, s24, s25, s26, .val (.ref o27), s28, s29, s30, s31, s32, s33, s34] [(.int (1 : Int32))])) _
  refine XS.istore X10.here hx rfl (hb hby at_422) rfl (l' := #[s0, .val (.long j1), .second, s3, s4, s5, s6, s7, s8, s9, s10, s11, s12, .val (.ref o13), .val (.ref o14), s15, .val (.int i16), s17, .val (.int i18), .val (.int i19), .val (.int i20), s21, s22, s23, s24, s25, s26, .val (.ref o27), s28, .val (.int (1 : Int32)), s30, s31, s32, s33, s34]) (os0_422 hs29) ?_
  show Steps _ _ _ (T10.setTop (mkF m 424 #[s0, .val (.long j1), .second, s3, s4, s5, s6, s7, s8, s9, s10, s11, s12, .val (.ref o13), .val (.ref o14), s15, .val (.int i16), s17, .val (.int i18), .val (.int i19), .val (.int i20), s21, s22, s23, s24, s25, s26, .val (.ref o27), s28, .val (.int (1 : Int32)), s30, s31, s32, s33, s34] [])) _
  refine XS.aload X10.here hx rfl (hb hby at_424) rfl rfl ?_
  show Steps _ _ _ (T10.setTop (mkF m 426 #[s0, .val (.long j1), .second, s3, s4, s5, s6, s7, s8, s9, s10, s11, s12, .val (.ref o13), .val (.ref o14), s15, .val (.int i16), s17, .val (.int i18), .val (.int i19), .val (.int i20), s21, s22, s23, s24, s25, s26, .val (.ref o27), s28, .val (.int (1 : Int32)), s30, s31, s32, s33, s34] [(.ref o27)])) _
  refine st11.trans ?_
  show Steps _ _ _ (T11.setTop (mkF m 429 #[s0, .val (.long j1), .second, s3, s4, s5, s6, s7, s8, s9, s10, s11, s12, .val (.ref o13), .val (.ref o14), s15, .val (.int i16), s17, .val (.int i18), .val (.int i19), .val (.int i20), s21, s22, s23, s24, s25, s26, .val (.ref o27), s28, .val (.int (1 : Int32)), s30, s31, s32, s33, s34] [.null])) _
  refine XS.ifnonnullNo X11.here hx rfl (hb hby at_429) rfl ?_
  show Steps _ _ _ (T11.setTop (mkF m 432 #[s0, .val (.long j1), .second, s3, s4, s5, s6, s7, s8, s9, s10, s11, s12, .val (.ref o13), .val (.ref o14), s15, .val (.int i16), s17, .val (.int i18), .val (.int i19), .val (.int i20), s21, s22, s23, s24, s25, s26, .val (.ref o27), s28, .val (.int (1 : Int32)), s30, s31, s32, s33, s34] [])) _
  refine XS.aload X11.here hx rfl (hb hby at_432) rfl rfl ?_
  show Steps _ _ _ (T11.setTop (mkF m 434 #[s0, .val (.long j1), .second, s3, s4, s5, s6, s7, s8, s9, s10, s11, s12, .val (.ref o13), .val (.ref o14), s15, .val (.int i16), s17, .val (.int i18), .val (.int i19), .val (.int i20), s21, s22, s23, s24, s25, s26, .val (.ref o27), s28, .val (.int (1 : Int32)), s30, s31, s32, s33, s34] [(.ref o27)])) _
  refine st12.trans ?_
  show Steps _ _ _ (T12.setTop (mkF m 437 #[s0, .val (.long j1), .second, s3, s4, s5, s6, s7, s8, s9, s10, s11, s12, .val (.ref o13), .val (.ref o14), s15, .val (.int i16), s17, .val (.int i18), .val (.int i19), .val (.int i20), s21, s22, s23, s24, s25, s26, .val (.ref o27), s28, .val (.int (1 : Int32)), s30, s31, s32, s33, s34] [.null])) _
  refine XS.ifnonnullNo X12.here hx rfl (hb hby at_437) rfl ?_
  show Steps _ _ _ (T12.setTop (mkF m 440 #[s0, .val (.long j1), .second, s3, s4, s5, s6, s7, s8, s9, s10, s11, s12, .val (.ref o13), .val (.ref o14), s15, .val (.int i16), s17, .val (.int i18), .val (.int i19), .val (.int i20), s21, s22, s23, s24, s25, s26, .val (.ref o27), s28, .val (.int (1 : Int32)), s30, s31, s32, s33, s34] [])) _
  refine XS.iconst X12.here hx rfl (hb hby at_440) ?_
  show Steps _ _ _ (T12.setTop (mkF m 441 #[s0, .val (.long j1), .second, s3, s4, s5, s6, s7, s8, s9, s10, s11, s12, .val (.ref o13), .val (.ref o14), s15, .val (.int i16), s17, .val (.int i18), .val (.int i19), .val (.int i20), s21, s22, s23, s24, s25, s26, .val (.ref o27), s28, .val (.int (1 : Int32)), s30, s31, s32, s33, s34] [(.int (1 : Int32))])) _
  refine XS.goto X12.here hx rfl (pc0 := 441) (pc' := 445) rfl (hb hby at_441) (by decide) (by decide) ?_
  show Steps _ _ _ (T12.setTop (mkF m 445 #[s0, .val (.long j1), .second, s3, s4, s5, s6, s7, s8, s9, s10, s11, s12, .val (.ref o13), .val (.ref o14), s15, .val (.int i16), s17, .val (.int i18), .val (.int i19), .val (.int i20), s21, s22, s23, s24, s25, s26, .val (.ref o27), s28, .val (.int (1 : Int32)), s30, s31, s32, s33, s34] [(.int (1 : Int32))])) _
  refine XS.istore X12.here hx rfl (hb hby at_445) rfl (l' := #[s0, .val (.long j1), .second, s3, s4, s5, s6, s7, s8, s9, s10, s11, s12, .val (.ref o13), .val (.ref o14), s15, .val (.int i16), s17, .val (.int i18), .val (.int i19), .val (.int i20), s21, s22, s23, s24, s25, s26, .val (.ref o27), s28, .val (.int (1 : Int32)), .val (.int (1 : Int32)), s31, s32, s33, s34]) (os0_445 hs30) ?_
  exact kt
theorem os0_481 {s0 s1 s2 s3 s4 s5 s6 s7 s8 s9 s10 s11 s12 s13 s14 s15 : Slot} {z16 : Value} {s17 s18 s19 s20 : Slot} {z21 : Value} {s22 s23 s24 s25 s26 : Slot} {z27 : Value} {s28 s29 s30 s31 s32 s33 s34 : Slot} {v : Int32} (h : One s31) : storeLocals #[s0, s1, s2, s3, s4, s5, s6, s7, s8, s9, s10, s11, s12, s13, s14, s15, .val z16, s17, s18, s19, s20, .val z21, s22, s23, s24, s25, s26, .val z27, s28, s29, s30, s31, s32, s33, s34] 31 (.int v) = some #[s0, s1, s2, s3, s4, s5, s6, s7, s8, s9, s10, s11, s12, s13, s14, s15, .val z16, s17, s18, s19, s20, .val z21, s22, s23, s24, s25, s26, .val z27, s28, s29, s30, .val (.int v), s32, s33, s34] := by
  rcases h with rfl | ⟨w, rfl, hw⟩
  · rfl
  · cases w <;> first | rfl | (simp [Value.category] at hw)
theorem tn0_447_483_tf {v2 v3 v4 v5 v6 v7 v8 v11 : Value} (s0 s1 s2 s3 s4 s5 s6 s7 s8 s9 s10 s11 s12 s13 s14 s15 : Slot) (i16 : Int32) (s17 s18 s19 s20 : Slot) (i21 : Int32) (s22 s23 s24 s25 s26 : Slot) (o27 : Addr) (s28 s29 s30 s31 s32 s33 s34 : Slot)
    (X0 : Stand p l e room_1 s m args below meth c T0 locs 9 51) (hx : p.tables.exec = Jvm.exec) (hZ : Z.Warmed39 s.vm) (hw : ∀ d ∈ tables_1, d.before a0 Z = true) (hby : c.code = code) (hml : c.maxLocals = 35) (hown : s.vm.findClass own_s1 = some m.cls) (e0 : T0.heap = h0) (Z0 : n0 ≤ h0.size) (N0 : Fr n0 locs) (B : Br Z h0 o27 (.int (1 : Int32)) (.int i16) v2 v3 v4 v5 v6 v7 v8 (.int (0 : Int32)) .null v11) (hs31 : One s31) (hc458 : i21 = i16) :
    ∃ (T' : State) (L' : List Loc), Stand p l e room_1 s m args below meth c T' L' 9 51 ∧ Fr n0 L' ∧ T'.heap = h0 ∧
      ∀ target, Steps p.tables e below (T'.setTop (mkF m 483 #[s0, s1, s2, s3, s4, s5, s6, s7, s8, s9, s10, s11, s12, s13, s14, s15, .val (.int i16), s17, s18, s19, s20, .val (.int i21), s22, s23, s24, s25, s26, .val (.ref o27), s28, s29, s30, .val (.int (1 : Int32)), s32, s33, s34] [])) target → Steps p.tables e below (T0.setTop (mkF m 447 #[s0, s1, s2, s3, s4, s5, s6, s7, s8, s9, s10, s11, s12, s13, s14, s15, .val (.int i16), s17, s18, s19, s20, .val (.int i21), s22, s23, s24, s25, s26, .val (.ref o27), s28, s29, s30, s31, s32, s33, s34] [])) target := by
  have E_o27 : Exa Z h0 o27 own_s0 := B.1
  obtain ⟨cq7, kq7, q7a, q7b, q7c⟩ := isOf hZ e0 E_o27
  obtain ⟨_, _, ⟨T7, L7, k7, n7⟩, -, X7, ⟨Lc7, hQ7, l7, y7, z7⟩, st7⟩ := X0.virtualBack hx (y := own_n8) (z := own_n8) hown (mvT hZ (own_w hw 71 rfl)) (mvT hZ (own_w hw 72 rfl)) (notFace_of_selects (args := #[]) (mvT hZ (own_w hw 74 rfl))) (mvT hZ (own_w hw 74 rfl)) (mvT hZ (own_w hw 73 rfl)) (by decide) (backOf (W := 0) (rm9 l Z a0 hw [] o27 i21 i16 h0 n0 Z0 B.2.1 B.2.2.2.2.2.2.2.2.2.2.1 B.2.2.2.2.2.2.2.2.2.2.2.1 B.1 B.2.2.1) hZ (own_w hw 75 rfl) (own_w hw 12 rfl) (by decide) (by decide)) q7a q7c (g := (mkF m 451 #[s0, s1, s2, s3, s4, s5, s6, s7, s8, s9, s10, s11, s12, s13, s14, s15, .val (.int i16), s17, s18, s19, s20, .val (.int i21), s22, s23, s24, s25, s26, .val (.ref o27), s28, s29, s30, s31, s32, s33, s34] [(.int i21), (.ref o27)])) rfl (by rw [hml]; rfl) (Steps.refl _) (argsL := [(.int i21)]) (rest := []) (lenOf pd_0_6 rfl) rfl (by show 2 * 0 + _ ≤ _; exact Nat.le_of_eq rfl) (hb hby at_451) (fun _ _ => ⟨rfl, e0, (by decide : 9 + 0 ≤ _), (by decide : 51 + 0 ≤ _)⟩)
  dsimp only [Pt.U, Pt.locs, Pt.cells, Pt.slots] at X7 l7 y7 z7 st7 hQ7
  subst l7 y7 z7
  obtain ⟨rfl, N7q, eq7⟩ := hQ7
  have N7 := Fr.app N0 N7q
  refine ⟨T7, _, X7, N7, eq7, fun target kt => ?_⟩
  show Steps _ _ _ (T0.setTop (mkF m 447 #[s0, s1, s2, s3, s4, s5, s6, s7, s8, s9, s10, s11, s12, s13, s14, s15, .val (.int i16), s17, s18, s19, s20, .val (.int i21), s22, s23, s24, s25, s26, .val (.ref o27), s28, s29, s30, s31, s32, s33, s34] [])) _
  refine XS.aload X0.here hx rfl (hb hby at_447) rfl rfl ?_
  show Steps _ _ _ (T0.setTop (mkF m 449 #[s0, s1, s2, s3, s4, s5, s6, s7, s8, s9, s10, s11, s12, s13, s14, s15, .val (.int i16), s17, s18, s19, s20, .val (.int i21), s22, s23, s24, s25, s26, .val (.ref o27), s28, s29, s30, s31, s32, s33, s34] [(.ref o27)])) _
  refine XS.iload X0.here hx rfl (hb hby at_449) rfl ?_
  show Steps _ _ _ (T0.setTop (mkF m 451 #[s0, s1, s2, s3, s4, s5, s6, s7, s8, s9, s10, s11, s12, s13, s14, s15, .val (.int i16), s17, s18, s19, s20, .val (.int i21), s22, s23, s24, s25, s26, .val (.ref o27), s28, s29, s30, s31, s32, s33, s34] [(.int i21), (.ref o27)])) _
  refine st7.trans ?_
  show Steps _ _ _ (T7.setTop (mkF m 454 #[s0, s1, s2, s3, s4, s5, s6, s7, s8, s9, s10, s11, s12, s13, s14, s15, .val (.int i16), s17, s18, s19, s20, .val (.int i21), s22, s23, s24, s25, s26, .val (.ref o27), s28, s29, s30, s31, s32, s33, s34] [(.int (own_wf i16 i21))])) _
  refine XS.iload X7.here hx rfl (hb hby at_454) rfl ?_
  show Steps _ _ _ (T7.setTop (mkF m 456 #[s0, s1, s2, s3, s4, s5, s6, s7, s8, s9, s10, s11, s12, s13, s14, s15, .val (.int i16), s17, s18, s19, s20, .val (.int i21), s22, s23, s24, s25, s26, .val (.ref o27), s28, s29, s30, s31, s32, s33, s34] [(.int i21), (.int (own_wf i16 i21))])) _
  refine XS.iload X7.here hx rfl (hb hby at_456) rfl ?_
  show Steps _ _ _ (T7.setTop (mkF m 458 #[s0, s1, s2, s3, s4, s5, s6, s7, s8, s9, s10, s11, s12, s13, s14, s15, .val (.int i16), s17, s18, s19, s20, .val (.int i21), s22, s23, s24, s25, s26, .val (.ref o27), s28, s29, s30, s31, s32, s33, s34] [(.int i16), (.int i21), (.int (own_wf i16 i21))])) _
  refine XS.icmpYes X7.here hx rfl (pc0 := 458) (pc' := 468) rfl (hb hby at_458) rfl (teq hc458).1 (by decide) (by decide) ?_
  show Steps _ _ _ (T7.setTop (mkF m 468 #[s0, s1, s2, s3, s4, s5, s6, s7, s8, s9, s10, s11, s12, s13, s14, s15, .val (.int i16), s17, s18, s19, s20, .val (.int i21), s22, s23, s24, s25, s26, .val (.ref o27), s28, s29, s30, s31, s32, s33, s34] [(.int (own_wf i16 i21))])) _
  refine XS.iconst X7.here hx rfl (hb hby at_468) ?_
  show Steps _ _ _ (T7.setTop (mkF m 469 #[s0, s1, s2, s3, s4, s5, s6, s7, s8, s9, s10, s11, s12, s13, s14, s15, .val (.int i16), s17, s18, s19, s20, .val (.int i21), s22, s23, s24, s25, s26, .val (.ref o27), s28, s29, s30, s31, s32, s33, s34] [(.int (1 : Int32)), (.int (own_wf i16 i21))])) _
  refine XS.goto X7.here hx rfl (pc0 := 469) (pc' := 473) rfl (hb hby at_469) (by decide) (by decide) ?_
  show Steps _ _ _ (T7.setTop (mkF m 473 #[s0, s1, s2, s3, s4, s5, s6, s7, s8, s9, s10, s11, s12, s13, s14, s15, .val (.int i16), s17, s18, s19, s20, .val (.int i21), s22, s23, s24, s25, s26, .val (.ref o27), s28, s29, s30, s31, s32, s33, s34] [(.int (1 : Int32)), (.int (own_wf i16 i21))])) _
  refine XS.icmpNo X7.here hx rfl (hb hby at_473) rfl (teq (by unfold own_wf; rw [if_pos hc458.symm] : (own_wf i16 i21) = (1 : Int32))).2 ?_
  show Steps _ _ _ (T7.setTop (mkF m 476 #[s0, s1, s2, s3, s4, s5, s6, s7, s8, s9, s10, s11, s12, s13, s14, s15, .val (.int i16), s17, s18, s19, s20, .val (.int i21), s22, s23, s24, s25, s26, .val (.ref o27), s28, s29, s30, s31, s32, s33, s34] [])) _
  refine XS.iconst X7.here hx rfl (hb hby at_476) ?_
  show Steps _ _ _ (T7.setTop (mkF m 477 #[s0, s1, s2, s3, s4, s5, s6, s7, s8, s9, s10, s11, s12, s13, s14, s15, .val (.int i16), s17, s18, s19, s20, .val (.int i21), s22, s23, s24, s25, s26, .val (.ref o27), s28, s29, s30, s31, s32, s33, s34] [(.int (1 : Int32))])) _
  refine XS.goto X7.here hx rfl (pc0 := 477) (pc' := 481) rfl (hb hby at_477) (by decide) (by decide) ?_
  show Steps _ _ _ (T7.setTop (mkF m 481 #[s0, s1, s2, s3, s4, s5, s6, s7, s8, s9, s10, s11, s12, s13, s14, s15, .val (.int i16), s17, s18, s19, s20, .val (.int i21), s22, s23, s24, s25, s26, .val (.ref o27), s28, s29, s30, s31, s32, s33, s34] [(.int (1 : Int32))])) _
  refine XS.istore X7.here hx rfl (hb hby at_481) rfl (l' := #[s0, s1, s2, s3, s4, s5, s6, s7, s8, s9, s10, s11, s12, s13, s14, s15, .val (.int i16), s17, s18, s19, s20, .val (.int i21), s22, s23, s24, s25, s26, .val (.ref o27), s28, s29, s30, .val (.int (1 : Int32)), s32, s33, s34]) (os0_481 hs31) ?_
  exact kt
theorem tn0_447_483_fff {v2 v3 v4 v5 v6 v7 v8 v11 : Value} (s0 s1 s2 s3 s4 s5 s6 s7 s8 s9 s10 s11 s12 s13 s14 s15 : Slot) (i16 : Int32) (s17 s18 s19 s20 : Slot) (i21 : Int32) (s22 s23 s24 s25 s26 : Slot) (o27 : Addr) (s28 s29 s30 s31 s32 s33 s34 : Slot)
    (X0 : Stand p l e room_1 s m args below meth c T0 locs 9 51) (hx : p.tables.exec = Jvm.exec) (hZ : Z.Warmed39 s.vm) (hw : ∀ d ∈ tables_1, d.before a0 Z = true) (hby : c.code = code) (hml : c.maxLocals = 35) (hown : s.vm.findClass own_s1 = some m.cls) (e0 : T0.heap = h0) (Z0 : n0 ≤ h0.size) (N0 : Fr n0 locs) (B : Br Z h0 o27 (.int (1 : Int32)) (.int i16) v2 v3 v4 v5 v6 v7 v8 (.int (0 : Int32)) .null v11) (hs31 : One s31) (hc458 : ¬ (i21 = i16)) (hc465 : i16 = (-2 : Int32)) :
    ∃ (T' : State) (L' : List Loc), Stand p l e room_1 s m args below meth c T' L' 9 51 ∧ Fr n0 L' ∧ T'.heap = h0 ∧
      ∀ target, Steps p.tables e below (T'.setTop (mkF m 483 #[s0, s1, s2, s3, s4, s5, s6, s7, s8, s9, s10, s11, s12, s13, s14, s15, .val (.int i16), s17, s18, s19, s20, .val (.int i21), s22, s23, s24, s25, s26, .val (.ref o27), s28, s29, s30, .val (.int (1 : Int32)), s32, s33, s34] [])) target → Steps p.tables e below (T0.setTop (mkF m 447 #[s0, s1, s2, s3, s4, s5, s6, s7, s8, s9, s10, s11, s12, s13, s14, s15, .val (.int i16), s17, s18, s19, s20, .val (.int i21), s22, s23, s24, s25, s26, .val (.ref o27), s28, s29, s30, s31, s32, s33, s34] [])) target := by
  have E_o27 : Exa Z h0 o27 own_s0 := B.1
  obtain ⟨cq7, kq7, q7a, q7b, q7c⟩ := isOf hZ e0 E_o27
  obtain ⟨_, _, ⟨T7, L7, k7, n7⟩, -, X7, ⟨Lc7, hQ7, l7, y7, z7⟩, st7⟩ := X0.virtualBack hx (y := own_n8) (z := own_n8) hown (mvT hZ (own_w hw 71 rfl)) (mvT hZ (own_w hw 72 rfl)) (notFace_of_selects (args := #[]) (mvT hZ (own_w hw 74 rfl))) (mvT hZ (own_w hw 74 rfl)) (mvT hZ (own_w hw 73 rfl)) (by decide) (backOf (W := 0) (rm9 l Z a0 hw [] o27 i21 i16 h0 n0 Z0 B.2.1 B.2.2.2.2.2.2.2.2.2.2.1 B.2.2.2.2.2.2.2.2.2.2.2.1 B.1 B.2.2.1) hZ (own_w hw 75 rfl) (own_w hw 12 rfl) (by decide) (by decide)) q7a q7c (g := (mkF m 451 #[s0, s1, s2, s3, s4, s5, s6, s7, s8, s9, s10, s11, s12, s13, s14, s15, .val (.int i16), s17, s18, s19, s20, .val (.int i21), s22, s23, s24, s25, s26, .val (.ref o27), s28, s29, s30, s31, s32, s33, s34] [(.int i21), (.ref o27)])) rfl (by rw [hml]; rfl) (Steps.refl _) (argsL := [(.int i21)]) (rest := []) (lenOf pd_0_6 rfl) rfl (by show 2 * 0 + _ ≤ _; exact Nat.le_of_eq rfl) (hb hby at_451) (fun _ _ => ⟨rfl, e0, (by decide : 9 + 0 ≤ _), (by decide : 51 + 0 ≤ _)⟩)
  dsimp only [Pt.U, Pt.locs, Pt.cells, Pt.slots] at X7 l7 y7 z7 st7 hQ7
  subst l7 y7 z7
  obtain ⟨rfl, N7q, eq7⟩ := hQ7
  have N7 := Fr.app N0 N7q
  refine ⟨T7, _, X7, N7, eq7, fun target kt => ?_⟩
  show Steps _ _ _ (T0.setTop (mkF m 447 #[s0, s1, s2, s3, s4, s5, s6, s7, s8, s9, s10, s11, s12, s13, s14, s15, .val (.int i16), s17, s18, s19, s20, .val (.int i21), s22, s23, s24, s25, s26, .val (.ref o27), s28, s29, s30, s31, s32, s33, s34] [])) _
  refine XS.aload X0.here hx rfl (hb hby at_447) rfl rfl ?_
  show Steps _ _ _ (T0.setTop (mkF m 449 #[s0, s1, s2, s3, s4, s5, s6, s7, s8, s9, s10, s11, s12, s13, s14, s15, .val (.int i16), s17, s18, s19, s20, .val (.int i21), s22, s23, s24, s25, s26, .val (.ref o27), s28, s29, s30, s31, s32, s33, s34] [(.ref o27)])) _
  refine XS.iload X0.here hx rfl (hb hby at_449) rfl ?_
  show Steps _ _ _ (T0.setTop (mkF m 451 #[s0, s1, s2, s3, s4, s5, s6, s7, s8, s9, s10, s11, s12, s13, s14, s15, .val (.int i16), s17, s18, s19, s20, .val (.int i21), s22, s23, s24, s25, s26, .val (.ref o27), s28, s29, s30, s31, s32, s33, s34] [(.int i21), (.ref o27)])) _
  refine st7.trans ?_
  show Steps _ _ _ (T7.setTop (mkF m 454 #[s0, s1, s2, s3, s4, s5, s6, s7, s8, s9, s10, s11, s12, s13, s14, s15, .val (.int i16), s17, s18, s19, s20, .val (.int i21), s22, s23, s24, s25, s26, .val (.ref o27), s28, s29, s30, s31, s32, s33, s34] [(.int (own_wf i16 i21))])) _
  refine XS.iload X7.here hx rfl (hb hby at_454) rfl ?_
  show Steps _ _ _ (T7.setTop (mkF m 456 #[s0, s1, s2, s3, s4, s5, s6, s7, s8, s9, s10, s11, s12, s13, s14, s15, .val (.int i16), s17, s18, s19, s20, .val (.int i21), s22, s23, s24, s25, s26, .val (.ref o27), s28, s29, s30, s31, s32, s33, s34] [(.int i21), (.int (own_wf i16 i21))])) _
  refine XS.iload X7.here hx rfl (hb hby at_456) rfl ?_
  show Steps _ _ _ (T7.setTop (mkF m 458 #[s0, s1, s2, s3, s4, s5, s6, s7, s8, s9, s10, s11, s12, s13, s14, s15, .val (.int i16), s17, s18, s19, s20, .val (.int i21), s22, s23, s24, s25, s26, .val (.ref o27), s28, s29, s30, s31, s32, s33, s34] [(.int i16), (.int i21), (.int (own_wf i16 i21))])) _
  refine XS.icmpNo X7.here hx rfl (hb hby at_458) rfl (feq hc458).1 ?_
  show Steps _ _ _ (T7.setTop (mkF m 461 #[s0, s1, s2, s3, s4, s5, s6, s7, s8, s9, s10, s11, s12, s13, s14, s15, .val (.int i16), s17, s18, s19, s20, .val (.int i21), s22, s23, s24, s25, s26, .val (.ref o27), s28, s29, s30, s31, s32, s33, s34] [(.int (own_wf i16 i21))])) _
  refine XS.iload X7.here hx rfl (hb hby at_461) rfl ?_
  show Steps _ _ _ (T7.setTop (mkF m 463 #[s0, s1, s2, s3, s4, s5, s6, s7, s8, s9, s10, s11, s12, s13, s14, s15, .val (.int i16), s17, s18, s19, s20, .val (.int i21), s22, s23, s24, s25, s26, .val (.ref o27), s28, s29, s30, s31, s32, s33, s34] [(.int i16), (.int (own_wf i16 i21))])) _
  refine XS.bipush X7.here hx rfl (hb hby at_463) ?_
  show Steps _ _ _ (T7.setTop (mkF m 465 #[s0, s1, s2, s3, s4, s5, s6, s7, s8, s9, s10, s11, s12, s13, s14, s15, .val (.int i16), s17, s18, s19, s20, .val (.int i21), s22, s23, s24, s25, s26, .val (.ref o27), s28, s29, s30, s31, s32, s33, s34] [(.int (-2 : Int32)), (.int i16), (.int (own_wf i16 i21))])) _
  refine XS.icmpNo X7.here hx rfl (hb hby at_465) rfl (teq hc465).2 ?_
  show Steps _ _ _ (T7.setTop (mkF m 468 #[s0, s1, s2, s3, s4, s5, s6, s7, s8, s9, s10, s11, s12, s13, s14, s15, .val (.int i16), s17, s18, s19, s20, .val (.int i21), s22, s23, s24, s25, s26, .val (.ref o27), s28, s29, s30, s31, s32, s33, s34] [(.int (own_wf i16 i21))])) _
  refine XS.iconst X7.here hx rfl (hb hby at_468) ?_
  show Steps _ _ _ (T7.setTop (mkF m 469 #[s0, s1, s2, s3, s4, s5, s6, s7, s8, s9, s10, s11, s12, s13, s14, s15, .val (.int i16), s17, s18, s19, s20, .val (.int i21), s22, s23, s24, s25, s26, .val (.ref o27), s28, s29, s30, s31, s32, s33, s34] [(.int (1 : Int32)), (.int (own_wf i16 i21))])) _
  refine XS.goto X7.here hx rfl (pc0 := 469) (pc' := 473) rfl (hb hby at_469) (by decide) (by decide) ?_
  show Steps _ _ _ (T7.setTop (mkF m 473 #[s0, s1, s2, s3, s4, s5, s6, s7, s8, s9, s10, s11, s12, s13, s14, s15, .val (.int i16), s17, s18, s19, s20, .val (.int i21), s22, s23, s24, s25, s26, .val (.ref o27), s28, s29, s30, s31, s32, s33, s34] [(.int (1 : Int32)), (.int (own_wf i16 i21))])) _
  refine XS.icmpNo X7.here hx rfl (hb hby at_473) rfl (teq (by unfold own_wf; rw [if_neg (fun q => hc458 q.symm), if_pos hc465] : (own_wf i16 i21) = (1 : Int32))).2 ?_
  show Steps _ _ _ (T7.setTop (mkF m 476 #[s0, s1, s2, s3, s4, s5, s6, s7, s8, s9, s10, s11, s12, s13, s14, s15, .val (.int i16), s17, s18, s19, s20, .val (.int i21), s22, s23, s24, s25, s26, .val (.ref o27), s28, s29, s30, s31, s32, s33, s34] [])) _
  refine XS.iconst X7.here hx rfl (hb hby at_476) ?_
  show Steps _ _ _ (T7.setTop (mkF m 477 #[s0, s1, s2, s3, s4, s5, s6, s7, s8, s9, s10, s11, s12, s13, s14, s15, .val (.int i16), s17, s18, s19, s20, .val (.int i21), s22, s23, s24, s25, s26, .val (.ref o27), s28, s29, s30, s31, s32, s33, s34] [(.int (1 : Int32))])) _
  refine XS.goto X7.here hx rfl (pc0 := 477) (pc' := 481) rfl (hb hby at_477) (by decide) (by decide) ?_
  show Steps _ _ _ (T7.setTop (mkF m 481 #[s0, s1, s2, s3, s4, s5, s6, s7, s8, s9, s10, s11, s12, s13, s14, s15, .val (.int i16), s17, s18, s19, s20, .val (.int i21), s22, s23, s24, s25, s26, .val (.ref o27), s28, s29, s30, s31, s32, s33, s34] [(.int (1 : Int32))])) _
  refine XS.istore X7.here hx rfl (hb hby at_481) rfl (l' := #[s0, s1, s2, s3, s4, s5, s6, s7, s8, s9, s10, s11, s12, s13, s14, s15, .val (.int i16), s17, s18, s19, s20, .val (.int i21), s22, s23, s24, s25, s26, .val (.ref o27), s28, s29, s30, .val (.int (1 : Int32)), s32, s33, s34]) (os0_481 hs31) ?_
  exact kt
theorem tn0_447_483_ftf {v2 v3 v4 v5 v6 v7 v8 v11 : Value} (s0 s1 s2 s3 s4 s5 s6 s7 s8 s9 s10 s11 s12 s13 s14 s15 : Slot) (i16 : Int32) (s17 s18 s19 s20 : Slot) (i21 : Int32) (s22 s23 s24 s25 s26 : Slot) (o27 : Addr) (s28 s29 s30 s31 s32 s33 s34 : Slot)
    (X0 : Stand p l e room_1 s m args below meth c T0 locs 9 51) (hx : p.tables.exec = Jvm.exec) (hZ : Z.Warmed39 s.vm) (hw : ∀ d ∈ tables_1, d.before a0 Z = true) (hby : c.code = code) (hml : c.maxLocals = 35) (hown : s.vm.findClass own_s1 = some m.cls) (e0 : T0.heap = h0) (Z0 : n0 ≤ h0.size) (N0 : Fr n0 locs) (B : Br Z h0 o27 (.int (1 : Int32)) (.int i16) v2 v3 v4 v5 v6 v7 v8 (.int (0 : Int32)) .null v11) (hs31 : One s31) (hc458 : ¬ (i21 = i16)) (hc465 : ¬ (i16 = (-2 : Int32))) :
    ∃ (T' : State) (L' : List Loc), Stand p l e room_1 s m args below meth c T' L' 9 51 ∧ Fr n0 L' ∧ T'.heap = h0 ∧
      ∀ target, Steps p.tables e below (T'.setTop (mkF m 483 #[s0, s1, s2, s3, s4, s5, s6, s7, s8, s9, s10, s11, s12, s13, s14, s15, .val (.int i16), s17, s18, s19, s20, .val (.int i21), s22, s23, s24, s25, s26, .val (.ref o27), s28, s29, s30, .val (.int (1 : Int32)), s32, s33, s34] [])) target → Steps p.tables e below (T0.setTop (mkF m 447 #[s0, s1, s2, s3, s4, s5, s6, s7, s8, s9, s10, s11, s12, s13, s14, s15, .val (.int i16), s17, s18, s19, s20, .val (.int i21), s22, s23, s24, s25, s26, .val (.ref o27), s28, s29, s30, s31, s32, s33, s34] [])) target := by
  have E_o27 : Exa Z h0 o27 own_s0 := B.1
  obtain ⟨cq7, kq7, q7a, q7b, q7c⟩ := isOf hZ e0 E_o27
  obtain ⟨_, _, ⟨T7, L7, k7, n7⟩, -, X7, ⟨Lc7, hQ7, l7, y7, z7⟩, st7⟩ := X0.virtualBack hx (y := own_n8) (z := own_n8) hown (mvT hZ (own_w hw 71 rfl)) (mvT hZ (own_w hw 72 rfl)) (notFace_of_selects (args := #[]) (mvT hZ (own_w hw 74 rfl))) (mvT hZ (own_w hw 74 rfl)) (mvT hZ (own_w hw 73 rfl)) (by decide) (backOf (W := 0) (rm9 l Z a0 hw [] o27 i21 i16 h0 n0 Z0 B.2.1 B.2.2.2.2.2.2.2.2.2.2.1 B.2.2.2.2.2.2.2.2.2.2.2.1 B.1 B.2.2.1) hZ (own_w hw 75 rfl) (own_w hw 12 rfl) (by decide) (by decide)) q7a q7c (g := (mkF m 451 #[s0, s1, s2, s3, s4, s5, s6, s7, s8, s9, s10, s11, s12, s13, s14, s15, .val (.int i16), s17, s18, s19, s20, .val (.int i21), s22, s23, s24, s25, s26, .val (.ref o27), s28, s29, s30, s31, s32, s33, s34] [(.int i21), (.ref o27)])) rfl (by rw [hml]; rfl) (Steps.refl _) (argsL := [(.int i21)]) (rest := []) (lenOf pd_0_6 rfl) rfl (by show 2 * 0 + _ ≤ _; exact Nat.le_of_eq rfl) (hb hby at_451) (fun _ _ => ⟨rfl, e0, (by decide : 9 + 0 ≤ _), (by decide : 51 + 0 ≤ _)⟩)
  dsimp only [Pt.U, Pt.locs, Pt.cells, Pt.slots] at X7 l7 y7 z7 st7 hQ7
  subst l7 y7 z7
  obtain ⟨rfl, N7q, eq7⟩ := hQ7
  have N7 := Fr.app N0 N7q
  refine ⟨T7, _, X7, N7, eq7, fun target kt => ?_⟩
  show Steps _ _ _ (T0.setTop (mkF m 447 #[s0, s1, s2, s3, s4, s5, s6, s7, s8, s9, s10, s11, s12, s13, s14, s15, .val (.int i16), s17, s18, s19, s20, .val (.int i21), s22, s23, s24, s25, s26, .val (.ref o27), s28, s29, s30, s31, s32, s33, s34] [])) _
  refine XS.aload X0.here hx rfl (hb hby at_447) rfl rfl ?_
  show Steps _ _ _ (T0.setTop (mkF m 449 #[s0, s1, s2, s3, s4, s5, s6, s7, s8, s9, s10, s11, s12, s13, s14, s15, .val (.int i16), s17, s18, s19, s20, .val (.int i21), s22, s23, s24, s25, s26, .val (.ref o27), s28, s29, s30, s31, s32, s33, s34] [(.ref o27)])) _
  refine XS.iload X0.here hx rfl (hb hby at_449) rfl ?_
  show Steps _ _ _ (T0.setTop (mkF m 451 #[s0, s1, s2, s3, s4, s5, s6, s7, s8, s9, s10, s11, s12, s13, s14, s15, .val (.int i16), s17, s18, s19, s20, .val (.int i21), s22, s23, s24, s25, s26, .val (.ref o27), s28, s29, s30, s31, s32, s33, s34] [(.int i21), (.ref o27)])) _
  refine st7.trans ?_
  show Steps _ _ _ (T7.setTop (mkF m 454 #[s0, s1, s2, s3, s4, s5, s6, s7, s8, s9, s10, s11, s12, s13, s14, s15, .val (.int i16), s17, s18, s19, s20, .val (.int i21), s22, s23, s24, s25, s26, .val (.ref o27), s28, s29, s30, s31, s32, s33, s34] [(.int (own_wf i16 i21))])) _
  refine XS.iload X7.here hx rfl (hb hby at_454) rfl ?_
  show Steps _ _ _ (T7.setTop (mkF m 456 #[s0, s1, s2, s3, s4, s5, s6, s7, s8, s9, s10, s11, s12, s13, s14, s15, .val (.int i16), s17, s18, s19, s20, .val (.int i21), s22, s23, s24, s25, s26, .val (.ref o27), s28, s29, s30, s31, s32, s33, s34] [(.int i21), (.int (own_wf i16 i21))])) _
  refine XS.iload X7.here hx rfl (hb hby at_456) rfl ?_
  show Steps _ _ _ (T7.setTop (mkF m 458 #[s0, s1, s2, s3, s4, s5, s6, s7, s8, s9, s10, s11, s12, s13, s14, s15, .val (.int i16), s17, s18, s19, s20, .val (.int i21), s22, s23, s24, s25, s26, .val (.ref o27), s28, s29, s30, s31, s32, s33, s34] [(.int i16), (.int i21), (.int (own_wf i16 i21))])) _
  refine XS.icmpNo X7.here hx rfl (hb hby at_458) rfl (feq hc458).1 ?_
  show Steps _ _ _ (T7.setTop (mkF m 461 #[s0, s1, s2, s3, s4, s5, s6, s7, s8, s9, s10, s11, s12, s13, s14, s15, .val (.int i16), s17, s18, s19, s20, .val (.int i21), s22, s23, s24, s25, s26, .val (.ref o27), s28, s29, s30, s31, s32, s33, s34] [(.int (own_wf i16 i21))])) _
  refine XS.iload X7.here hx rfl (hb hby at_461) rfl ?_
  show Steps _ _ _ (T7.setTop (mkF m 463 #[s0, s1, s2, s3, s4, s5, s6, s7, s8, s9, s10, s11, s12, s13, s14, s15, .val (.int i16), s17, s18, s19, s20, .val (.int i21), s22, s23, s24, s25, s26, .val (.ref o27), s28, s29, s30, s31, s32, s33, s34] [(.int i16), (.int (own_wf i16 i21))])) _
  refine XS.bipush X7.here hx rfl (hb hby at_463) ?_
  show Steps _ _ _ (T7.setTop (mkF m 465 #[s0, s1, s2, s3, s4, s5, s6, s7, s8, s9, s10, s11, s12, s13, s14, s15, .val (.int i16), s17, s18, s19, s20, .val (.int i21), s22, s23, s24, s25, s26, .val (.ref o27), s28, s29, s30, s31, s32, s33, s34] [(.int (-2 : Int32)), (.int i16), (.int (own_wf i16 i21))])) _
  refine XS.icmpYes X7.here hx rfl (pc0 := 465) (pc' := 472) rfl (hb hby at_465) rfl (feq hc465).2 (by decide) (by decide) ?_
  show Steps _ _ _ (T7.setTop (mkF m 472 #[s0, s1, s2, s3, s4, s5, s6, s7, s8, s9, s10, s11, s12, s13, s14, s15, .val (.int i16), s17, s18, s19, s20, .val (.int i21), s22, s23, s24, s25, s26, .val (.ref o27), s28, s29, s30, s31, s32, s33, s34] [(.int (own_wf i16 i21))])) _
  refine XS.iconst X7.here hx rfl (hb hby at_472) ?_
  show Steps _ _ _ (T7.setTop (mkF m 473 #[s0, s1, s2, s3, s4, s5, s6, s7, s8, s9, s10, s11, s12, s13, s14, s15, .val (.int i16), s17, s18, s19, s20, .val (.int i21), s22, s23, s24, s25, s26, .val (.ref o27), s28, s29, s30, s31, s32, s33, s34] [(.int (0 : Int32)), (.int (own_wf i16 i21))])) _
  refine XS.icmpNo X7.here hx rfl (hb hby at_473) rfl (teq (by unfold own_wf; rw [if_neg (fun q => hc458 q.symm), if_neg hc465] : (own_wf i16 i21) = (0 : Int32))).2 ?_
  show Steps _ _ _ (T7.setTop (mkF m 476 #[s0, s1, s2, s3, s4, s5, s6, s7, s8, s9, s10, s11, s12, s13, s14, s15, .val (.int i16), s17, s18, s19, s20, .val (.int i21), s22, s23, s24, s25, s26, .val (.ref o27), s28, s29, s30, s31, s32, s33, s34] [])) _
  refine XS.iconst X7.here hx rfl (hb hby at_476) ?_
  show Steps _ _ _ (T7.setTop (mkF m 477 #[s0, s1, s2, s3, s4, s5, s6, s7, s8, s9, s10, s11, s12, s13, s14, s15, .val (.int i16), s17, s18, s19, s20, .val (.int i21), s22, s23, s24, s25, s26, .val (.ref o27), s28, s29, s30, s31, s32, s33, s34] [(.int (1 : Int32))])) _
  refine XS.goto X7.here hx rfl (pc0 := 477) (pc' := 481) rfl (hb hby at_477) (by decide) (by decide) ?_
  show Steps _ _ _ (T7.setTop (mkF m 481 #[s0, s1, s2, s3, s4, s5, s6, s7, s8, s9, s10, s11, s12, s13, s14, s15, .val (.int i16), s17, s18, s19, s20, .val (.int i21), s22, s23, s24, s25, s26, .val (.ref o27), s28, s29, s30, s31, s32, s33, s34] [(.int (1 : Int32))])) _
  refine XS.istore X7.here hx rfl (hb hby at_481) rfl (l' := #[s0, s1, s2, s3, s4, s5, s6, s7, s8, s9, s10, s11, s12, s13, s14, s15, .val (.int i16), s17, s18, s19, s20, .val (.int i21), s22, s23, s24, s25, s26, .val (.ref o27), s28, s29, s30, .val (.int (1 : Int32)), s32, s33, s34]) (os0_481 hs31) ?_
  exact kt
theorem wf {v2 v3 v4 v5 v6 v7 v8 v11 : Value} (s0 s1 s2 s3 s4 s5 s6 s7 s8 s9 s10 s11 s12 s13 s14 s15 : Slot) (i16 : Int32) (s17 s18 s19 s20 : Slot) (i21 : Int32) (s22 s23 s24 s25 s26 : Slot) (o27 : Addr) (s28 s29 s30 s31 s32 s33 s34 : Slot)
    (X0 : Stand p l e room_1 s m args below meth c T0 locs 9 51) (hx : p.tables.exec = Jvm.exec) (hZ : Z.Warmed39 s.vm) (hw : ∀ d ∈ tables_1, d.before a0 Z = true) (hby : c.code = code) (hml : c.maxLocals = 35) (hown : s.vm.findClass own_s1 = some m.cls) (e0 : T0.heap = h0) (Z0 : n0 ≤ h0.size) (N0 : Fr n0 locs) (B : Br Z h0 o27 (.int (1 : Int32)) (.int i16) v2 v3 v4 v5 v6 v7 v8 (.int (0 : Int32)) .null v11) (hs31 : One s31) :
    ∃ (T' : State) (L' : List Loc), Stand p l e room_1 s m args below meth c T' L' 9 51 ∧ Fr n0 L' ∧ T'.heap = h0 ∧
      ∀ target, Steps p.tables e below (T'.setTop (mkF m 483 #[s0, s1, s2, s3, s4, s5, s6, s7, s8, s9, s10, s11, s12, s13, s14, s15, .val (.int i16), s17, s18, s19, s20, .val (.int i21), s22, s23, s24, s25, s26, .val (.ref o27), s28, s29, s30, .val (.int (1 : Int32)), s32, s33, s34] [])) target → Steps p.tables e below (T0.setTop (mkF m 447 #[s0, s1, s2, s3, s4, s5, s6, s7, s8, s9, s10, s11, s12, s13, s14, s15, .val (.int i16), s17, s18, s19, s20, .val (.int i21), s22, s23, s24, s25, s26, .val (.ref o27), s28, s29, s30, s31, s32, s33, s34] [])) target := by
  by_cases h1 : i21 = i16
  · exact tn0_447_483_tf s0 s1 s2 s3 s4 s5 s6 s7 s8 s9 s10 s11 s12 s13 s14 s15 i16 s17 s18 s19 s20 i21 s22 s23 s24 s25 s26 o27 s28 s29 s30 s31 s32 s33 s34 X0 hx hZ hw hby hml hown e0 Z0 N0 B (by first | exact own_oneU | exact own_oneI | exact own_oneR | assumption) h1
  by_cases h2 : i16 = (-2 : Int32)
  · exact tn0_447_483_fff s0 s1 s2 s3 s4 s5 s6 s7 s8 s9 s10 s11 s12 s13 s14 s15 i16 s17 s18 s19 s20 i21 s22 s23 s24 s25 s26 o27 s28 s29 s30 s31 s32 s33 s34 X0 hx hZ hw hby hml hown e0 Z0 N0 B (by first | exact own_oneU | exact own_oneI | exact own_oneR | assumption) h1 h2
  · exact tn0_447_483_ftf s0 s1 s2 s3 s4 s5 s6 s7 s8 s9 s10 s11 s12 s13 s14 s15 i16 s17 s18 s19 s20 i21 s22 s23 s24 s25 s26 o27 s28 s29 s30 s31 s32 s33 s34 X0 hx hZ hw hby hml hown e0 Z0 N0 B (by first | exact own_oneU | exact own_oneI | exact own_oneR | assumption) h1 h2
theorem pd_0_8 : parseMethodDescriptor "(IJIIJI)Z" = some ⟨[.int, .long, .int, .int, .long, .int], some .boolean⟩ := by decide +kernel
theorem pd_0_9 : parseMethodDescriptor "(IJILcom/example/cablegram/cablegram/engine/ElementType;I)Z" = some ⟨[.int, .long, .int, (.object own_s2), .int], some .boolean⟩ := by decide +kernel
theorem os0_519 {s0 : Slot} {z1 : Value} {s3 s4 s5 s6 s7 s8 s9 s10 s11 s12 s13 s14 s15 : Slot} {z16 : Value} {s17 : Slot} {z18 : Value} {s19 s20 : Slot} {z21 z22 z24 z25 z26 z27 : Value} {s28 s29 s30 s31 s32 s33 s34 : Slot} {v : Int32} (h : One s32) : storeLocals #[s0, .val z1, .second, s3, s4, s5, s6, s7, s8, s9, s10, s11, s12, s13, s14, s15, .val z16, s17, .val z18, s19, s20, .val z21, .val z22, .second, .val z24, .val z25, .val z26, .val z27, s28, s29, s30, s31, s32, s33, s34] 32 (.int v) = some #[s0, .val z1, .second, s3, s4, s5, s6, s7, s8, s9, s10, s11, s12, s13, s14, s15, .val z16, s17, .val z18, s19, s20, .val z21, .val z22, .second, .val z24, .val z25, .val z26, .val z27, s28, s29, s30, s31, .val (.int v), s33, s34] := by
  rcases h with rfl | ⟨w, rfl, hw⟩
  · rfl
  · cases w <;> first | rfl | (simp [Value.category] at hw)
theorem os0_546 {s0 : Slot} {z1 : Value} {s3 s4 s5 s6 s7 s8 s9 s10 s11 s12 s13 s14 s15 : Slot} {z16 : Value} {s17 : Slot} {z18 : Value} {s19 s20 : Slot} {z21 z22 z24 z25 z26 z27 : Value} {s28 s29 s30 s31 : Slot} {z32 : Value} {s33 s34 : Slot} {v : Int32} (h : One s33) : storeLocals #[s0, .val z1, .second, s3, s4, s5, s6, s7, s8, s9, s10, s11, s12, s13, s14, s15, .val z16, s17, .val z18, s19, s20, .val z21, .val z22, .second, .val z24, .val z25, .val z26, .val z27, s28, s29, s30, s31, .val z32, s33, s34] 33 (.int v) = some #[s0, .val z1, .second, s3, s4, s5, s6, s7, s8, s9, s10, s11, s12, s13, s14, s15, .val z16, s17, .val z18, s19, s20, .val z21, .val z22, .second, .val z24, .val z25, .val z26, .val z27, s28, s29, s30, s31, .val z32, .val (.int v), s34] := by
  rcases h with rfl | ⟨w, rfl, hw⟩
  · rfl
  · cases w <;> first | rfl | (simp [Value.category] at hw)
theorem tn0_483_548_tf {v5 v6 v8 v11 : Value} {t13 : Addr} {t19 : Int32} (s0 : Slot) (j1 : Int64) (s3 s4 s5 s6 s7 s8 s9 s10 s11 s12 s13 s14 s15 : Slot) (i16 : Int32) (s17 : Slot) (i18 : Int32) (s19 s20 : Slot) (i21 : Int32) (j22 : Int64) (i24 : Int32) (o25 : Addr) (i26 : Int32) (o27 : Addr) (s28 s29 s30 s31 s32 s33 s34 : Slot)
    (X0 : Stand p l e room_1 s m args below meth c T0 locs 9 51) (hx : p.tables.exec = Jvm.exec) (hZ : Z.Warmed39 s.vm) (hw : ∀ d ∈ tables_1, d.before a0 Z = true) (hby : c.code = code) (hml : c.maxLocals = 35) (hown : s.vm.findClass own_s1 = some m.cls) (e0 : T0.heap = h0) (Z0 : n0 ≤ h0.size) (N0 : Fr n0 locs) (B : Br Z h0 o27 (.int (1 : Int32)) (.int i16) (.long j1) (.int i18) (.ref t13) v5 v6 (.int t19) v8 (.int (0 : Int32)) .null v11) (hm : (own_match i21 j22 i24 i16 j1 i18) = 0) (hs32 : One s32) (hs33 : One s33) :
    ∃ (T' : State) (L' : List Loc), Stand p l e room_1 s m args below meth c T' L' 9 51 ∧ Fr n0 L' ∧ T'.heap = h0 ∧
      ∀ target, Steps p.tables e below (T'.setTop (mkF m 548 #[s0, .val (.long j1), .second, s3, s4, s5, s6, s7, s8, s9, s10, s11, s12, s13, s14, s15, .val (.int i16), s17, .val (.int i18), s19, s20, .val (.int i21), .val (.long j22), .second, .val (.int i24), .val (.ref o25), .val (.int i26), .val (.ref o27), s28, s29, s30, s31, .val (.int (0 : Int32)), .val (.int (1 : Int32)), s34] [])) target → Steps p.tables e below (T0.setTop (mkF m 483 #[s0, .val (.long j1), .second, s3, s4, s5, s6, s7, s8, s9, s10, s11, s12, s13, s14, s15, .val (.int i16), s17, .val (.int i18), s19, s20, .val (.int i21), .val (.long j22), .second, .val (.int i24), .val (.ref o25), .val (.int i26), .val (.ref o27), s28, s29, s30, s31, s32, s33, s34] [])) target := by
  have E_o27 : Exa Z h0 o27 own_s0 := B.1
  obtain ⟨_, _, ⟨T7, L7, k7, n7⟩, -, X7, ⟨Lc7, hQ7, l7, y7, z7⟩, st7⟩ := Jvm.LawKit.callS X0 hx (y := own_n9) hown (mvT hZ (own_w hw 80 rfl)) (mvT hZ (own_w hw 81 rfl)) (mvT hZ (own_w hw 82 rfl)) (mvT hZ (own_w hw 83 rfl)) (by decide) (backOf (W := 0) (rm11 l Z a0 hw [] i21 j22 i24 i16 j1 i18 h0 n0 Z0) hZ (own_w hw 83 rfl) (own_w hw 82 rfl) (by decide) (by decide)) (g := (mkF m 494 #[s0, .val (.long j1), .second, s3, s4, s5, s6, s7, s8, s9, s10, s11, s12, s13, s14, s15, .val (.int i16), s17, .val (.int i18), s19, s20, .val (.int i21), .val (.long j22), .second, .val (.int i24), .val (.ref o25), .val (.int i26), .val (.ref o27), s28, s29, s30, s31, s32, s33, s34] [(.int i18), (.long j1), (.int i16), (.int i24), (.long j22), (.int i21)])) rfl (by rw [hml]; rfl) (argsL := [(.int i21), (.long j22), (.int i24), (.int i16), (.long j1), (.int i18)]) (rest := []) (lenOf pd_0_8 rfl) rfl (by show 2 * 0 + _ ≤ _; exact Nat.le_of_eq rfl) (hb hby at_494) (fun _ _ => ⟨rfl, e0, (by decide : 9 + 0 ≤ _), (by decide : 51 + 0 ≤ _)⟩)
  dsimp only [Pt.U, Pt.locs, Pt.cells, Pt.slots] at X7 l7 y7 z7 st7 hQ7
  subst l7 y7 z7
  obtain ⟨rfl, N7q, eq7⟩ := hQ7
  have N7 := Fr.app N0 N7q
  have Kc7 : Keep h0 T7.heap [] := own_kp eq7
  have B7 := B.keep Kc7 nin0
  obtain ⟨cq8, kq8, q8a, q8b, q8c⟩ := isOf hZ rfl (E_o27.keep Kc7)
  obtain ⟨_, _, ⟨T8, L8, k8, n8⟩, -, X8, ⟨Lc8, hQ8, l8, y8, z8⟩, st8⟩ := X7.virtualBack hx (y := own_n10) (z := own_n10) hown (mvT hZ (own_w hw 84 rfl)) (mvT hZ (own_w hw 85 rfl)) (notFace_of_selects (args := #[]) (mvT hZ (own_w hw 87 rfl))) (mvT hZ (own_w hw 87 rfl)) (mvT hZ (own_w hw 86 rfl)) (by decide) (backOf (W := 0) (rm12 l Z a0 hw [] o27 i21 j22 i24 o25 i26 i16 j1 i18 t13 t19 T7.heap n0 (by rw [eq7]; exact Z0) B7.2.1 B7.2.2.2.2.2.2.2.2.2.2.1 B7.2.2.2.2.2.2.2.2.2.2.2.1 B7.1 B7.2.2.1 B7.2.2.2.1 B7.2.2.2.2.1 B7.2.2.2.2.2.1 B7.2.2.2.2.2.2.2.2.1) hZ (own_w hw 88 rfl) (own_w hw 12 rfl) (by decide) (by decide)) q8a q8c (g := (mkF m 533 #[s0, .val (.long j1), .second, s3, s4, s5, s6, s7, s8, s9, s10, s11, s12, s13, s14, s15, .val (.int i16), s17, .val (.int i18), s19, s20, .val (.int i21), .val (.long j22), .second, .val (.int i24), .val (.ref o25), .val (.int i26), .val (.ref o27), s28, s29, s30, s31, .val (.int (0 : Int32)), s33, s34] [(.int i26), (.ref o25), (.int i24), (.long j22), (.int i21), (.ref o27)])) rfl (by rw [hml]; rfl) (Steps.refl _) (argsL := [(.int i21), (.long j22), (.int i24), (.ref o25), (.int i26)]) (rest := []) (lenOf pd_0_9 rfl) rfl (by show 2 * 0 + _ ≤ _; exact Nat.le_of_eq rfl) (hb hby at_533) (fun _ _ => ⟨rfl, rfl, (by decide : 9 + 0 ≤ _), (by decide : 51 + 0 ≤ _)⟩)
  dsimp only [Pt.U, Pt.locs, Pt.cells, Pt.slots] at X8 l8 y8 z8 st8 hQ8
  subst l8 y8 z8
  obtain ⟨rfl, N8q, eq8⟩ := hQ8
  have N8 := Fr.app N7 N8q
  refine ⟨T8, _, X8, N8, eq8.trans eq7, fun target kt => ?_⟩
  show Steps _ _ _ (T0.setTop (mkF m 483 #[s0, .val (.long j1), .second, s3, s4, s5, s6, s7, s8, s9, s10, s11, s12, s13, s14, s15, .val (.int i16), s17, .val (.int i18), s19, s20, .val (.int i21), .val (.long j22), .second, .val (.int i24), .val (.ref o25), .val (.int i26), .val (.ref o27), s28, s29, s30, s31, s32, s33, s34] [])) _
  refine XS.iload X0.here hx rfl (hb hby at_483) rfl ?_
  show Steps _ _ _ (T0.setTop (mkF m 485 #[s0, .val (.long j1), .second, s3, s4, s5, s6, s7, s8, s9, s10, s11, s12, s13, s14, s15, .val (.int i16), s17, .val (.int i18), s19, s20, .val (.int i21), .val (.long j22), .second, .val (.int i24), .val (.ref o25), .val (.int i26), .val (.ref o27), s28, s29, s30, s31, s32, s33, s34] [(.int i21)])) _
  refine XS.lload X0.here hx rfl (hb hby at_485) rfl ?_
  show Steps _ _ _ (T0.setTop (mkF m 487 #[s0, .val (.long j1), .second, s3, s4, s5, s6, s7, s8, s9, s10, s11, s12, s13, s14, s15, .val (.int i16), s17, .val (.int i18), s19, s20, .val (.int i21), .val (.long j22), .second, .val (.int i24), .val (.ref o25), .val (.int i26), .val (.ref o27), s28, s29, s30, s31, s32, s33, s34] [(.long j22), (.int i21)])) _
  refine XS.iload X0.here hx rfl (hb hby at_487) rfl ?_
  show Steps _ _ _ (T0.setTop (mkF m 489 #[s0, .val (.long j1), .second, s3, s4, s5, s6, s7, s8, s9, s10, s11, s12, s13, s14, s15, .val (.int i16), s17, .val (.int i18), s19, s20, .val (.int i21), .val (.long j22), .second, .val (.int i24), .val (.ref o25), .val (.int i26), .val (.ref o27), s28, s29, s30, s31, s32, s33, s34] [(.int i24), (.long j22), (.int i21)])) _
  refine XS.iload X0.here hx rfl (hb hby at_489) rfl ?_
  show Steps _ _ _ (T0.setTop (mkF m 491 #[s0, .val (.long j1), .second, s3, s4, s5, s6, s7, s8, s9, s10, s11, s12, s13, s14, s15, .val (.int i16), s17, .val (.int i18), s19, s20, .val (.int i21), .val (.long j22), .second, .val (.int i24), .val (.ref o25), .val (.int i26), .val (.ref o27), s28, s29, s30, s31, s32, s33, s34] [(.int i16), (.int i24), (.long j22), (.int i21)])) _
  refine XS.lloadN X0.here hx rfl (hb hby at_491) rfl ?_
  show Steps _ _ _ (T0.setTop (mkF m 492 #[s0, .val (.long j1), .second, s3, s4, s5, s6, s7, s8, s9, s10, s11, s12, s13, s14, s15, .val (.int i16), s17, .val (.int i18), s19, s20, .val (.int i21), .val (.long j22), .second, .val (.int i24), .val (.ref o25), .val (.int i26), .val (.ref o27), s28, s29, s30, s31, s32, s33, s34] [(.long j1), (.int i16), (.int i24), (.long j22), (.int i21)])) _
  refine XS.iload X0.here hx rfl (hb hby at_492) rfl ?_
  show Steps _ _ _ (T0.setTop (mkF m 494 #[s0, .val (.long j1), .second, s3, s4, s5, s6, s7, s8, s9, s10, s11, s12, s13, s14, s15, .val (.int i16), s17, .val (.int i18), s19, s20, .val (.int i21), .val (.long j22), .second, .val (.int i24), .val (.ref o25), .val (.int i26), .val (.ref o27), s28, s29, s30, s31, s32, s33, s34] [(.int i18), (.long j1), (.int i16), (.int i24), (.long j22), (.int i21)])) _
  refine st7 _ ?_
  show Steps _ _ _ (T7.setTop (mkF m 497 #[s0, .val (.long j1), .second, s3, s4, s5, s6, s7, s8, s9, s10, s11, s12, s13, s14, s15, .val (.int i16), s17, .val (.int i18), s19, s20, .val (.int i21), .val (.long j22), .second, .val (.int i24), .val (.ref o25), .val (.int i26), .val (.ref o27), s28, s29, s30, s31, s32, s33, s34] [(.int (own_match i21 j22 i24 i16 j1 i18))])) _
  refine XS.ifYes X7.here hx rfl (pc0 := 497) (pc' := 518) rfl (hb hby at_497) rfl ((if0 _ _).trans (teq (by first | exact hm | (unfold own_take; rw [if_pos hm]) : (own_match i21 j22 i24 i16 j1 i18) = (0 : Int32))).1) (by decide) (by decide) ?_
  show Steps _ _ _ (T7.setTop (mkF m 518 #[s0, .val (.long j1), .second, s3, s4, s5, s6, s7, s8, s9, s10, s11, s12, s13, s14, s15, .val (.int i16), s17, .val (.int i18), s19, s20, .val (.int i21), .val (.long j22), .second, .val (.int i24), .val (.ref o25), .val (.int i26), .val (.ref o27), s28, s29, s30, s31, s32, s33, s34] [])) _
  refine XS.iconst X7.here hx rfl (hb hby at_518) ?_
  show Steps _ _ _ (T7.setTop (mkF m 519 #[s0, .val (.long j1), .second, s3, s4, s5, s6, s7, s8, s9, s10, s11, s12, s13, s14, s15, .val (.int i16), s17, .val (.int i18), s19, s20, .val (.int i21), .val (.long j22), .second, .val (.int i24), .val (.ref o25), .val (.int i26), .val (.ref o27), s28, s29, s30, s31, s32, s33, s34] [(.int (0 : Int32))])) _
  refine XS.istore X7.here hx rfl (hb hby at_519) rfl (l' := #[s0, .val (.long j1), .second, s3, s4, s5, s6, s7, s8, s9, s10, s11, s12, s13, s14, s15, .val (.int i16), s17, .val (.int i18), s19, s20, .val (.int i21), .val (.long j22), .second, .val (.int i24), .val (.ref o25), .val (.int i26), .val (.ref o27), s28, s29, s30, s31, .val (.int (0 : Int32)), s33, s34]) (os0_519 hs32) ?_
  show Steps _ _ _ (T7.setTop (mkF m 521 #[s0, .val (.long j1), .second, s3, s4, s5, s6, s7, s8, s9, s10, s11, s12, s13, s14, s15, .val (.int i16), s17, .val (.int i18), s19, s20, .val (.int i21), .val (.long j22), .second, .val (.int i24), .val (.ref o25), .val (.int i26), .val (.ref o27), s28, s29, s30, s31, .val (.int (0 : Int32)), s33, s34] [])) _
  refine XS.aload X7.here hx rfl (hb hby at_521) rfl rfl ?_
  show Steps _ _ _ (T7.setTop (mkF m 523 #[s0, .val (.long j1), .second, s3, s4, s5, s6, s7, s8, s9, s10, s11, s12, s13, s14, s15, .val (.int i16), s17, .val (.int i18), s19, s20, .val (.int i21), .val (.long j22), .second, .val (.int i24), .val (.ref o25), .val (.int i26), .val (.ref o27), s28, s29, s30, s31, .val (.int (0 : Int32)), s33, s34] [(.ref o27)])) _
  refine XS.iload X7.here hx rfl (hb hby at_523) rfl ?_
  show Steps _ _ _ (T7.setTop (mkF m 525 #[s0, .val (.long j1), .second, s3, s4, s5, s6, s7, s8, s9, s10, s11, s12, s13, s14, s15, .val (.int i16), s17, .val (.int i18), s19, s20, .val (.int i21), .val (.long j22), .second, .val (.int i24), .val (.ref o25), .val (.int i26), .val (.ref o27), s28, s29, s30, s31, .val (.int (0 : Int32)), s33, s34] [(.int i21), (.ref o27)])) _
  refine XS.lload X7.here hx rfl (hb hby at_525) rfl ?_
  show Steps _ _ _ (T7.setTop (mkF m 527 #[s0, .val (.long j1), .second, s3, s4, s5, s6, s7, s8, s9, s10, s11, s12, s13, s14, s15, .val (.int i16), s17, .val (.int i18), s19, s20, .val (.int i21), .val (.long j22), .second, .val (.int i24), .val (.ref o25), .val (.int i26), .val (.ref o27), s28, s29, s30, s31, .val (.int (0 : Int32)), s33, s34] [(.long j22), (.int i21), (.ref o27)])) _
  refine XS.iload X7.here hx rfl (hb hby at_527) rfl ?_
  show Steps _ _ _ (T7.setTop (mkF m 529 #[s0, .val (.long j1), .second, s3, s4, s5, s6, s7, s8, s9, s10, s11, s12, s13, s14, s15, .val (.int i16), s17, .val (.int i18), s19, s20, .val (.int i21), .val (.long j22), .second, .val (.int i24), .val (.ref o25), .val (.int i26), .val (.ref o27), s28, s29, s30, s31, .val (.int (0 : Int32)), s33, s34] [(.int i24), (.long j22), (.int i21), (.ref o27)])) _
  refine XS.aload X7.here hx rfl (hb hby at_529) rfl rfl ?_
  show Steps _ _ _ (T7.setTop (mkF m 531 #[s0, .val (.long j1), .second, s3, s4, s5, s6, s7, s8, s9, s10, s11, s12, s13, s14, s15, .val (.int i16), s17, .val (.int i18), s19, s20, .val (.int i21), .val (.long j22), .second, .val (.int i24), .val (.ref o25), .val (.int i26), .val (.ref o27), s28, s29, s30, s31, .val (.int (0 : Int32)), s33, s34] [(.ref o25), (.int i24), (.long j22), (.int i21), (.ref o27)])) _
  refine XS.iload X7.here hx rfl (hb hby at_531) rfl ?_
  show Steps _ _ _ (T7.setTop (mkF m 533 #[s0, .val (.long j1), .second, s3, s4, s5, s6, s7, s8, s9, s10, s11, s12, s13, s14, s15, .val (.int i16), s17, .val (.int i18), s19, s20, .val (.int i21), .val (.long j22), .second, .val (.int i24), .val (.ref o25), .val (.int i26), .val (.ref o27), s28, s29, s30, s31, .val (.int (0 : Int32)), s33, s34] [(.int i26), (.ref o25), (.int i24), (.long j22), (.int i21), (.ref o27)])) _
  refine st8.trans ?_
  show Steps _ _ _ (T8.setTop (mkF m 536 #[s0, .val (.long j1), .second, s3, s4, s5, s6, s7, s8, s9, s10, s11, s12, s13, s14, s15, .val (.int i16), s17, .val (.int i18), s19, s20, .val (.int i21), .val (.long j22), .second, .val (.int i24), .val (.ref o25), .val (.int i26), .val (.ref o27), s28, s29, s30, s31, .val (.int (0 : Int32)), s33, s34] [(.int (own_take (own_match i21 j22 i24 i16 j1 i18) o25 t13 i26 t19))])) _
  refine XS.iload X8.here hx rfl (hb hby at_536) rfl ?_
  show Steps _ _ _ (T8.setTop (mkF m 538 #[s0, .val (.long j1), .second, s3, s4, s5, s6, s7, s8, s9, s10, s11, s12, s13, s14, s15, .val (.int i16), s17, .val (.int i18), s19, s20, .val (.int i21), .val (.long j22), .second, .val (.int i24), .val (.ref o25), .val (.int i26), .val (.ref o27), s28, s29, s30, s31, .val (.int (0 : Int32)), s33, s34] [(.int (0 : Int32)), (.int (own_take (own_match i21 j22 i24 i16 j1 i18) o25 t13 i26 t19))])) _
  refine XS.icmpNo X8.here hx rfl (hb hby at_538) rfl (teq (by first | exact hm | (unfold own_take; rw [if_pos hm]) : (own_take (own_match i21 j22 i24 i16 j1 i18) o25 t13 i26 t19) = (0 : Int32))).2 ?_
  show Steps _ _ _ (T8.setTop (mkF m 541 #[s0, .val (.long j1), .second, s3, s4, s5, s6, s7, s8, s9, s10, s11, s12, s13, s14, s15, .val (.int i16), s17, .val (.int i18), s19, s20, .val (.int i21), .val (.long j22), .second, .val (.int i24), .val (.ref o25), .val (.int i26), .val (.ref o27), s28, s29, s30, s31, .val (.int (0 : Int32)), s33, s34] [])) _
  refine XS.iconst X8.here hx rfl (hb hby at_541) ?_
  show Steps _ _ _ (T8.setTop (mkF m 542 #[s0, .val (.long j1), .second, s3, s4, s5, s6, s7, s8, s9, s10, s11, s12, s13, s14, s15, .val (.int i16), s17, .val (.int i18), s19, s20, .val (.int i21), .val (.long j22), .second, .val (.int i24), .val (.ref o25), .val (.int i26), .val (.ref o27), s28, s29, s30, s31, .val (.int (0 : Int32)), s33, s34] [(.int (1 : Int32))])) _
  refine XS.goto X8.here hx rfl (pc0 := 542) (pc' := 546) rfl (hb hby at_542) (by decide) (by decide) ?_
  show Steps _ _ _ (T8.setTop (mkF m 546 #[s0, .val (.long j1), .second, s3, s4, s5, s6, s7, s8, s9, s10, s11, s12, s13, s14, s15, .val (.int i16), s17, .val (.int i18), s19, s20, .val (.int i21), .val (.long j22), .second, .val (.int i24), .val (.ref o25), .val (.int i26), .val (.ref o27), s28, s29, s30, s31, .val (.int (0 : Int32)), s33, s34] [(.int (1 : Int32))])) _
  refine XS.istore X8.here hx rfl (hb hby at_546) rfl (l' := #[s0, .val (.long j1), .second, s3, s4, s5, s6, s7, s8, s9, s10, s11, s12, s13, s14, s15, .val (.int i16), s17, .val (.int i18), s19, s20, .val (.int i21), .val (.long j22), .second, .val (.int i24), .val (.ref o25), .val (.int i26), .val (.ref o27), s28, s29, s30, s31, .val (.int (0 : Int32)), .val (.int (1 : Int32)), s34]) (os0_546 hs33) ?_
  exact kt
theorem os0_519_ftf {s0 : Slot} {z1 : Value} {s3 s4 s5 s6 s7 s8 s9 s10 s11 s12 : Slot} {z13 : Value} {s14 s15 : Slot} {z16 : Value} {s17 : Slot} {z18 : Value} {s19 s20 : Slot} {z21 z22 z24 z25 z26 z27 : Value} {s28 s29 s30 s31 s32 s33 s34 : Slot} {v : Int32} (h : One s32) : storeLocals #[s0, .val z1, .second, s3, s4, s5, s6, s7, s8, s9, s10, s11, s12, .val z13, s14, s15, .val z16, s17, .val z18, s19, s20, .val z21, .val z22, .second, .val z24, .val z25, .val z26, .val z27, s28, s29, s30, s31, s32, s33, s34] 32 (.int v) = some #[s0, .val z1, .second, s3, s4, s5, s6, s7, s8, s9, s10, s11, s12, .val z13, s14, s15, .val z16, s17, .val z18, s19, s20, .val z21, .val z22, .second, .val z24, .val z25, .val z26, .val z27, s28, s29, s30, s31, .val (.int v), s33, s34] := by
  rcases h with rfl | ⟨w, rfl, hw⟩
  · rfl
  · cases w <;> first | rfl | (simp [Value.category] at hw)
theorem os0_546_ftf {s0 : Slot} {z1 : Value} {s3 s4 s5 s6 s7 s8 s9 s10 s11 s12 : Slot} {z13 : Value} {s14 s15 : Slot} {z16 : Value} {s17 : Slot} {z18 : Value} {s19 s20 : Slot} {z21 z22 z24 z25 z26 z27 : Value} {s28 s29 s30 s31 : Slot} {z32 : Value} {s33 s34 : Slot} {v : Int32} (h : One s33) : storeLocals #[s0, .val z1, .second, s3, s4, s5, s6, s7, s8, s9, s10, s11, s12, .val z13, s14, s15, .val z16, s17, .val z18, s19, s20, .val z21, .val z22, .second, .val z24, .val z25, .val z26, .val z27, s28, s29, s30, s31, .val z32, s33, s34] 33 (.int v) = some #[s0, .val z1, .second, s3, s4, s5, s6, s7, s8, s9, s10, s11, s12, .val z13, s14, s15, .val z16, s17, .val z18, s19, s20, .val z21, .val z22, .second, .val z24, .val z25, .val z26, .val z27, s28, s29, s30, s31, .val z32, .val (.int v), s34] := by
  rcases h with rfl | ⟨w, rfl, hw⟩
  · rfl
  · cases w <;> first | rfl | (simp [Value.category] at hw)
theorem tn0_483_548_ftf {v5 v6 v8 v11 : Value} {t19 : Int32} (s0 : Slot) (j1 : Int64) (s3 s4 s5 s6 s7 s8 s9 s10 s11 s12 : Slot) (o13 : Addr) (s14 s15 : Slot) (i16 : Int32) (s17 : Slot) (i18 : Int32) (s19 s20 : Slot) (i21 : Int32) (j22 : Int64) (i24 : Int32) (o25 : Addr) (i26 : Int32) (o27 : Addr) (s28 s29 s30 s31 s32 s33 s34 : Slot)
    (X0 : Stand p l e room_1 s m args below meth c T0 locs 9 51) (hx : p.tables.exec = Jvm.exec) (hZ : Z.Warmed39 s.vm) (hw : ∀ d ∈ tables_1, d.before a0 Z = true) (hby : c.code = code) (hml : c.maxLocals = 35) (hown : s.vm.findClass own_s1 = some m.cls) (e0 : T0.heap = h0) (Z0 : n0 ≤ h0.size) (N0 : Fr n0 locs) (B : Br Z h0 o27 (.int (1 : Int32)) (.int i16) (.long j1) (.int i18) (.ref o13) v5 v6 (.int t19) v8 (.int (0 : Int32)) .null v11) (hm : ¬ (own_match i21 j22 i24 i16 j1 i18) = 0) (hs32 : One s32) (hs33 : One s33) (ha504 : ¬ (o25 = o13)) :
    ∃ (T' : State) (L' : List Loc), Stand p l e room_1 s m args below meth c T' L' 9 51 ∧ Fr n0 L' ∧ T'.heap = h0 ∧
      ∀ target, Steps p.tables e below (T'.setTop (mkF m 548 #[s0, .val (.long j1), .second, s3, s4, s5, s6, s7, s8, s9, s10, s11, s12, .val (.ref o13), s14, s15, .val (.int i16), s17, .val (.int i18), s19, s20, .val (.int i21), .val (.long j22), .second, .val (.int i24), .val (.ref o25), .val (.int i26), .val (.ref o27), s28, s29, s30, s31, .val (.int (0 : Int32)), .val (.int (1 : Int32)), s34] [])) target → Steps p.tables e below (T0.setTop (mkF m 483 #[s0, .val (.long j1), .second, s3, s4, s5, s6, s7, s8, s9, s10, s11, s12, .val (.ref o13), s14, s15, .val (.int i16), s17, .val (.int i18), s19, s20, .val (.int i21), .val (.long j22), .second, .val (.int i24), .val (.ref o25), .val (.int i26), .val (.ref o27), s28, s29, s30, s31, s32, s33, s34] [])) target := by
  have E_o27 : Exa Z h0 o27 own_s0 := B.1
  obtain ⟨_, _, ⟨T7, L7, k7, n7⟩, -, X7, ⟨Lc7, hQ7, l7, y7, z7⟩, st7⟩ := Jvm.LawKit.callS X0 hx (y := own_n9) hown (mvT hZ (own_w hw 80 rfl)) (mvT hZ (own_w hw 81 rfl)) (mvT hZ (own_w hw 82 rfl)) (mvT hZ (own_w hw 83 rfl)) (by decide) (backOf (W := 0) (rm11 l Z a0 hw [] i21 j22 i24 i16 j1 i18 h0 n0 Z0) hZ (own_w hw 83 rfl) (own_w hw 82 rfl) (by decide) (by decide)) (g := (mkF m 494 #[s0, .val (.long j1), .second, s3, s4, s5, s6, s7, s8, s9, s10, s11, s12, .val (.ref o13), s14, s15, .val (.int i16), s17, .val (.int i18), s19, s20, .val (.int i21), .val (.long j22), .second, .val (.int i24), .val (.ref o25), .val (.int i26), .val (.ref o27), s28, s29, s30, s31, s32, s33, s34] [(.int i18), (.long j1), (.int i16), (.int i24), (.long j22), (.int i21)])) rfl (by rw [hml]; rfl) (argsL := [(.int i21), (.long j22), (.int i24), (.int i16), (.long j1), (.int i18)]) (rest := []) (lenOf pd_0_8 rfl) rfl (by show 2 * 0 + _ ≤ _; exact Nat.le_of_eq rfl) (hb hby at_494) (fun _ _ => ⟨rfl, e0, (by decide : 9 + 0 ≤ _), (by decide : 51 + 0 ≤ _)⟩)
  dsimp only [Pt.U, Pt.locs, Pt.cells, Pt.slots] at X7 l7 y7 z7 st7 hQ7
  subst l7 y7 z7
  obtain ⟨rfl, N7q, eq7⟩ := hQ7
  have N7 := Fr.app N0 N7q
  have Kc7 : Keep h0 T7.heap [] := own_kp eq7
  have B7 := B.keep Kc7 nin0
  obtain ⟨cq8, kq8, q8a, q8b, q8c⟩ := isOf hZ rfl (E_o27.keep Kc7)
  obtain ⟨_, _, ⟨T8, L8, k8, n8⟩, -, X8, ⟨Lc8, hQ8, l8, y8, z8⟩, st8⟩ := X7.virtualBack hx (y := own_n10) (z := own_n10) hown (mvT hZ (own_w hw 84 rfl)) (mvT hZ (own_w hw 85 rfl)) (notFace_of_selects (args := #[]) (mvT hZ (own_w hw 87 rfl))) (mvT hZ (own_w hw 87 rfl)) (mvT hZ (own_w hw 86 rfl)) (by decide) (backOf (W := 0) (rm12 l Z a0 hw [] o27 i21 j22 i24 o25 i26 i16 j1 i18 o13 t19 T7.heap n0 (by rw [eq7]; exact Z0) B7.2.1 B7.2.2.2.2.2.2.2.2.2.2.1 B7.2.2.2.2.2.2.2.2.2.2.2.1 B7.1 B7.2.2.1 B7.2.2.2.1 B7.2.2.2.2.1 B7.2.2.2.2.2.1 B7.2.2.2.2.2.2.2.2.1) hZ (own_w hw 88 rfl) (own_w hw 12 rfl) (by decide) (by decide)) q8a q8c (g := (mkF m 533 #[s0, .val (.long j1), .second, s3, s4, s5, s6, s7, s8, s9, s10, s11, s12, .val (.ref o13), s14, s15, .val (.int i16), s17, .val (.int i18), s19, s20, .val (.int i21), .val (.long j22), .second, .val (.int i24), .val (.ref o25), .val (.int i26), .val (.ref o27), s28, s29, s30, s31, .val (.int (0 : Int32)), s33, s34] [(.int i26), (.ref o25), (.int i24), (.long j22), (.int i21), (.ref o27)])) rfl (by rw [hml]; rfl) (Steps.refl _) (argsL := [(.int i21), (.long j22), (.int i24), (.ref o25), (.int i26)]) (rest := []) (lenOf pd_0_9 rfl) rfl (by show 2 * 0 + _ ≤ _; exact Nat.le_of_eq rfl) (hb hby at_533) (fun _ _ => ⟨rfl, rfl, (by decide : 9 + 0 ≤ _), (by decide : 51 + 0 ≤ _)⟩)
  dsimp only [Pt.U, Pt.locs, Pt.cells, Pt.slots] at X8 l8 y8 z8 st8 hQ8
  subst l8 y8 z8
  obtain ⟨rfl, N8q, eq8⟩ := hQ8
  have N8 := Fr.app N7 N8q
  refine ⟨T8, _, X8, N8, eq8.trans eq7, fun target kt => ?_⟩
  show Steps _ _ _ (T0.setTop (mkF m 483 #[s0, .val (.long j1), .second, s3, s4, s5, s6, s7, s8, s9, s10, s11, s12, .val (.ref o13), s14, s15, .val (.int i16), s17, .val (.int i18), s19, s20, .val (.int i21), .val (.long j22), .second, .val (.int i24), .val (.ref o25), .val (.int i26), .val (.ref o27), s28, s29, s30, s31, s32, s33, s34] [])) _
  refine XS.iload X0.here hx rfl (hb hby at_483) rfl ?_
  show Steps _ _ _ (T0.setTop (mkF m 485 #[s0, .val (.long j1), .second, s3, s4, s5, s6, s7, s8, s9, s10, s11, s12, .val (.ref o13), s14, s15, .val (.int i16), s17, .val (.int i18), s19, s20, .val (.int i21), .val (.long j22), .second, .val (.int i24), .val (.ref o25), .val (.int i26), .val (.ref o27), s28, s29, s30, s31, s32, s33, s34] [(.int i21)])) _
  refine XS.lload X0.here hx rfl (hb hby at_485) rfl ?_
  show Steps _ _ _ (T0.setTop (mkF m 487 #[s0, .val (.long j1), .second, s3, s4, s5, s6, s7, s8, s9, s10, s11, s12, .val (.ref o13), s14, s15, .val (.int i16), s17, .val (.int i18), s19, s20, .val (.int i21), .val (.long j22), .second, .val (.int i24), .val (.ref o25), .val (.int i26), .val (.ref o27), s28, s29, s30, s31, s32, s33, s34] [(.long j22), (.int i21)])) _
  refine XS.iload X0.here hx rfl (hb hby at_487) rfl ?_
  show Steps _ _ _ (T0.setTop (mkF m 489 #[s0, .val (.long j1), .second, s3, s4, s5, s6, s7, s8, s9, s10, s11, s12, .val (.ref o13), s14, s15, .val (.int i16), s17, .val (.int i18), s19, s20, .val (.int i21), .val (.long j22), .second, .val (.int i24), .val (.ref o25), .val (.int i26), .val (.ref o27), s28, s29, s30, s31, s32, s33, s34] [(.int i24), (.long j22), (.int i21)])) _
  refine XS.iload X0.here hx rfl (hb hby at_489) rfl ?_
  show Steps _ _ _ (T0.setTop (mkF m 491 #[s0, .val (.long j1), .second, s3, s4, s5, s6, s7, s8, s9, s10, s11, s12, .val (.ref o13), s14, s15, .val (.int i16), s17, .val (.int i18), s19, s20, .val (.int i21), .val (.long j22), .second, .val (.int i24), .val (.ref o25), .val (.int i26), .val (.ref o27), s28, s29, s30, s31, s32, s33, s34] [(.int i16), (.int i24), (.long j22), (.int i21)])) _
  refine XS.lloadN X0.here hx rfl (hb hby at_491) rfl ?_
  show Steps _ _ _ (T0.setTop (mkF m 492 #[s0, .val (.long j1), .second, s3, s4, s5, s6, s7, s8, s9, s10, s11, s12, .val (.ref o13), s14, s15, .val (.int i16), s17, .val (.int i18), s19, s20, .val (.int i21), .val (.long j22), .second, .val (.int i24), .val (.ref o25), .val (.int i26), .val (.ref o27), s28, s29, s30, s31, s32, s33, s34] [(.long j1), (.int i16), (.int i24), (.long j22), (.int i21)])) _
  refine XS.iload X0.here hx rfl (hb hby at_492) rfl ?_
  show Steps _ _ _ (T0.setTop (mkF m 494 #[s0, .val (.long j1), .second, s3, s4, s5, s6, s7, s8, s9, s10, s11, s12, .val (.ref o13), s14, s15, .val (.int i16), s17, .val (.int i18), s19, s20, .val (.int i21), .val (.long j22), .second, .val (.int i24), .val (.ref o25), .val (.int i26), .val (.ref o27), s28, s29, s30, s31, s32, s33, s34] [(.int i18), (.long j1), (.int i16), (.int i24), (.long j22), (.int i21)])) _
  refine st7 _ ?_
  show Steps _ _ _ (T7.setTop (mkF m 497 #[s0, .val (.long j1), .second, s3, s4, s5, s6, s7, s8, s9, s10, s11, s12, .val (.ref o13), s14, s15, .val (.int i16), s17, .val (.int i18), s19, s20, .val (.int i21), .val (.long j22), .second, .val (.int i24), .val (.ref o25), .val (.int i26), .val (.ref o27), s28, s29, s30, s31, s32, s33, s34] [(.int (own_match i21 j22 i24 i16 j1 i18))])) _
  refine XS.ifNo X7.here hx rfl (hb hby at_497) rfl ((if0 _ _).trans (feq (by first | exact hm | (unfold own_take; rw [if_neg hm, if_neg ha504]) : ¬ ((own_match i21 j22 i24 i16 j1 i18) = (0 : Int32)))).1) ?_
  show Steps _ _ _ (T7.setTop (mkF m 500 #[s0, .val (.long j1), .second, s3, s4, s5, s6, s7, s8, s9, s10, s11, s12, .val (.ref o13), s14, s15, .val (.int i16), s17, .val (.int i18), s19, s20, .val (.int i21), .val (.long j22), .second, .val (.int i24), .val (.ref o25), .val (.int i26), .val (.ref o27), s28, s29, s30, s31, s32, s33, s34] [])) _
  refine XS.aload X7.here hx rfl (hb hby at_500) rfl rfl ?_
  show Steps _ _ _ (T7.setTop (mkF m 502 #[s0, .val (.long j1), .second, s3, s4, s5, s6, s7, s8, s9, s10, s11, s12, .val (.ref o13), s14, s15, .val (.int i16), s17, .val (.int i18), s19, s20, .val (.int i21), .val (.long j22), .second, .val (.int i24), .val (.ref o25), .val (.int i26), .val (.ref o27), s28, s29, s30, s31, s32, s33, s34] [(.ref o25)])) _
  refine XS.aload X7.here hx rfl (hb hby at_502) rfl rfl ?_
  show Steps _ _ _ (T7.setTop (mkF m 504 #[s0, .val (.long j1), .second, s3, s4, s5, s6, s7, s8, s9, s10, s11, s12, .val (.ref o13), s14, s15, .val (.int i16), s17, .val (.int i18), s19, s20, .val (.int i21), .val (.long j22), .second, .val (.int i24), .val (.ref o25), .val (.int i26), .val (.ref o27), s28, s29, s30, s31, s32, s33, s34] [(.ref o13), (.ref o25)])) _
  refine Jvm.RoadKit.acmp (g := (mkF m 504 #[s0, .val (.long j1), .second, s3, s4, s5, s6, s7, s8, s9, s10, s11, s12, .val (.ref o13), s14, s15, .val (.int i16), s17, .val (.int i18), s19, s20, .val (.int i21), .val (.long j22), .second, .val (.int i24), .val (.ref o25), .val (.int i26), .val (.ref o27), s28, s29, s30, s31, s32, s33, s34] [(.ref o13), (.ref o25)])) X7 hx rfl rfl rfl (pc0 := 504) (pc' := 518) (same := false) rfl (hb hby at_504) rfl (decide_eq_false fun q => ha504 (Value.ref.inj q)) (by decide) (by decide) ?_
  show Steps _ _ _ (T7.setTop (mkF m 518 #[s0, .val (.long j1), .second, s3, s4, s5, s6, s7, s8, s9, s10, s11, s12, .val (.ref o13), s14, s15, .val (.int i16), s17, .val (.int i18), s19, s20, .val (.int i21), .val (.long j22), .second, .val (.int i24), .val (.ref o25), .val (.int i26), .val (.ref o27), s28, s29, s30, s31, s32, s33, s34] [])) _
  refine XS.iconst X7.here hx rfl (hb hby at_518) ?_
  show Steps _ _ _ (T7.setTop (mkF m 519 #[s0, .val (.long j1), .second, s3, s4, s5, s6, s7, s8, s9, s10, s11, s12, .val (.ref o13), s14, s15, .val (.int i16), s17, .val (.int i18), s19, s20, .val (.int i21), .val (.long j22), .second, .val (.int i24), .val (.ref o25), .val (.int i26), .val (.ref o27), s28, s29, s30, s31, s32, s33, s34] [(.int (0 : Int32))])) _
  refine XS.istore X7.here hx rfl (hb hby at_519) rfl (l' := #[s0, .val (.long j1), .second, s3, s4, s5, s6, s7, s8, s9, s10, s11, s12, .val (.ref o13), s14, s15, .val (.int i16), s17, .val (.int i18), s19, s20, .val (.int i21), .val (.long j22), .second, .val (.int i24), .val (.ref o25), .val (.int i26), .val (.ref o27), s28, s29, s30, s31, .val (.int (0 : Int32)), s33, s34]) (os0_519_ftf hs32) ?_
  show Steps _ _ _ (T7.setTop (mkF m 521 #[s0, .val (.long j1), .second, s3, s4, s5, s6, s7, s8, s9, s10, s11, s12, .val (.ref o13), s14, s15, .val (.int i16), s17, .val (.int i18), s19, s20, .val (.int i21), .val (.long j22), .second, .val (.int i24), .val (.ref o25), .val (.int i26), .val (.ref o27), s28, s29, s30, s31, .val (.int (0 : Int32)), s33, s34] [])) _
  refine XS.aload X7.here hx rfl (hb hby at_521) rfl rfl ?_
  show Steps _ _ _ (T7.setTop (mkF m 523 #[s0, .val (.long j1), .second, s3, s4, s5, s6, s7, s8, s9, s10, s11, s12, .val (.ref o13), s14, s15, .val (.int i16), s17, .val (.int i18), s19, s20, .val (.int i21), .val (.long j22), .second, .val (.int i24), .val (.ref o25), .val (.int i26), .val (.ref o27), s28, s29, s30, s31, .val (.int (0 : Int32)), s33, s34] [(.ref o27)])) _
  refine XS.iload X7.here hx rfl (hb hby at_523) rfl ?_
  show Steps _ _ _ (T7.setTop (mkF m 525 #[s0, .val (.long j1), .second, s3, s4, s5, s6, s7, s8, s9, s10, s11, s12, .val (.ref o13), s14, s15, .val (.int i16), s17, .val (.int i18), s19, s20, .val (.int i21), .val (.long j22), .second, .val (.int i24), .val (.ref o25), .val (.int i26), .val (.ref o27), s28, s29, s30, s31, .val (.int (0 : Int32)), s33, s34] [(.int i21), (.ref o27)])) _
  refine XS.lload X7.here hx rfl (hb hby at_525) rfl ?_
  show Steps _ _ _ (T7.setTop (mkF m 527 #[s0, .val (.long j1), .second, s3, s4, s5, s6, s7, s8, s9, s10, s11, s12, .val (.ref o13), s14, s15, .val (.int i16), s17, .val (.int i18), s19, s20, .val (.int i21), .val (.long j22), .second, .val (.int i24), .val (.ref o25), .val (.int i26), .val (.ref o27), s28, s29, s30, s31, .val (.int (0 : Int32)), s33, s34] [(.long j22), (.int i21), (.ref o27)])) _
  refine XS.iload X7.here hx rfl (hb hby at_527) rfl ?_
  show Steps _ _ _ (T7.setTop (mkF m 529 #[s0, .val (.long j1), .second, s3, s4, s5, s6, s7, s8, s9, s10, s11, s12, .val (.ref o13), s14, s15, .val (.int i16), s17, .val (.int i18), s19, s20, .val (.int i21), .val (.long j22), .second, .val (.int i24), .val (.ref o25), .val (.int i26), .val (.ref o27), s28, s29, s30, s31, .val (.int (0 : Int32)), s33, s34] [(.int i24), (.long j22), (.int i21), (.ref o27)])) _
  refine XS.aload X7.here hx rfl (hb hby at_529) rfl rfl ?_
  show Steps _ _ _ (T7.setTop (mkF m 531 #[s0, .val (.long j1), .second, s3, s4, s5, s6, s7, s8, s9, s10, s11, s12, .val (.ref o13), s14, s15, .val (.int i16), s17, .val (.int i18), s19, s20, .val (.int i21), .val (.long j22), .second, .val (.int i24), .val (.ref o25), .val (.int i26), .val (.ref o27), s28, s29, s30, s31, .val (.int (0 : Int32)), s33, s34] [(.ref o25), (.int i24), (.long j22), (.int i21), (.ref o27)])) _
  refine XS.iload X7.here hx rfl (hb hby at_531) rfl ?_
  show Steps _ _ _ (T7.setTop (mkF m 533 #[s0, .val (.long j1), .second, s3, s4, s5, s6, s7, s8, s9, s10, s11, s12, .val (.ref o13), s14, s15, .val (.int i16), s17, .val (.int i18), s19, s20, .val (.int i21), .val (.long j22), .second, .val (.int i24), .val (.ref o25), .val (.int i26), .val (.ref o27), s28, s29, s30, s31, .val (.int (0 : Int32)), s33, s34] [(.int i26), (.ref o25), (.int i24), (.long j22), (.int i21), (.ref o27)])) _
  refine st8.trans ?_
  show Steps _ _ _ (T8.setTop (mkF m 536 #[s0, .val (.long j1), .second, s3, s4, s5, s6, s7, s8, s9, s10, s11, s12, .val (.ref o13), s14, s15, .val (.int i16), s17, .val (.int i18), s19, s20, .val (.int i21), .val (.long j22), .second, .val (.int i24), .val (.ref o25), .val (.int i26), .val (.ref o27), s28, s29, s30, s31, .val (.int (0 : Int32)), s33, s34] [(.int (own_take (own_match i21 j22 i24 i16 j1 i18) o25 o13 i26 t19))])) _
  refine XS.iload X8.here hx rfl (hb hby at_536) rfl ?_
  show Steps _ _ _ (T8.setTop (mkF m 538 #[s0, .val (.long j1), .second, s3, s4, s5, s6, s7, s8, s9, s10, s11, s12, .val (.ref o13), s14, s15, .val (.int i16), s17, .val (.int i18), s19, s20, .val (.int i21), .val (.long j22), .second, .val (.int i24), .val (.ref o25), .val (.int i26), .val (.ref o27), s28, s29, s30, s31, .val (.int (0 : Int32)), s33, s34] [(.int (0 : Int32)), (.int (own_take (own_match i21 j22 i24 i16 j1 i18) o25 o13 i26 t19))])) _
  refine XS.icmpNo X8.here hx rfl (hb hby at_538) rfl (teq (by first | exact hm | (unfold own_take; rw [if_neg hm, if_neg ha504]) : (own_take (own_match i21 j22 i24 i16 j1 i18) o25 o13 i26 t19) = (0 : Int32))).2 ?_
  show Steps _ _ _ (T8.setTop (mkF m 541 #[s0, .val (.long j1), .second, s3, s4, s5, s6, s7, s8, s9, s10, s11, s12, .val (.ref o13), s14, s15, .val (.int i16), s17, .val (.int i18), s19, s20, .val (.int i21), .val (.long j22), .second, .val (.int i24), .val (.ref o25), .val (.int i26), .val (.ref o27), s28, s29, s30, s31, .val (.int (0 : Int32)), s33, s34] [])) _
  refine XS.iconst X8.here hx rfl (hb hby at_541) ?_
  show Steps _ _ _ (T8.setTop (mkF m 542 #[s0, .val (.long j1), .second, s3, s4, s5, s6, s7, s8, s9, s10, s11, s12, .val (.ref o13), s14, s15, .val (.int i16), s17, .val (.int i18), s19, s20, .val (.int i21), .val (.long j22), .second, .val (.int i24), .val (.ref o25), .val (.int i26), .val (.ref o27), s28, s29, s30, s31, .val (.int (0 : Int32)), s33, s34] [(.int (1 : Int32))])) _
  refine XS.goto X8.here hx rfl (pc0 := 542) (pc' := 546) rfl (hb hby at_542) (by decide) (by decide) ?_
  show Steps _ _ _ (T8.setTop (mkF m 546 #[s0, .val (.long j1), .second, s3, s4, s5, s6, s7, s8, s9, s10, s11, s12, .val (.ref o13), s14, s15, .val (.int i16), s17, .val (.int i18), s19, s20, .val (.int i21), .val (.long j22), .second, .val (.int i24), .val (.ref o25), .val (.int i26), .val (.ref o27), s28, s29, s30, s31, .val (.int (0 : Int32)), s33, s34] [(.int (1 : Int32))])) _
  refine XS.istore X8.here hx rfl (hb hby at_546) rfl (l' := #[s0, .val (.long j1), .second, s3, s4, s5, s6, s7, s8, s9, s10, s11, s12, .val (.ref o13), s14, s15, .val (.int i16), s17, .val (.int i18), s19, s20, .val (.int i21), .val (.long j22), .second, .val (.int i24), .val (.ref o25), .val (.int i26), .val (.ref o27), s28, s29, s30, s31, .val (.int (0 : Int32)), .val (.int (1 : Int32)), s34]) (os0_546_ftf hs33) ?_
  exact kt
theorem os0_519_fftf {s0 : Slot} {z1 : Value} {s3 s4 s5 s6 s7 s8 s9 s10 s11 s12 : Slot} {z13 : Value} {s14 s15 : Slot} {z16 : Value} {s17 : Slot} {z18 z19 : Value} {s20 : Slot} {z21 z22 z24 z25 z26 z27 : Value} {s28 s29 s30 s31 s32 s33 s34 : Slot} {v : Int32} (h : One s32) : storeLocals #[s0, .val z1, .second, s3, s4, s5, s6, s7, s8, s9, s10, s11, s12, .val z13, s14, s15, .val z16, s17, .val z18, .val z19, s20, .val z21, .val z22, .second, .val z24, .val z25, .val z26, .val z27, s28, s29, s30, s31, s32, s33, s34] 32 (.int v) = some #[s0, .val z1, .second, s3, s4, s5, s6, s7, s8, s9, s10, s11, s12, .val z13, s14, s15, .val z16, s17, .val z18, .val z19, s20, .val z21, .val z22, .second, .val z24, .val z25, .val z26, .val z27, s28, s29, s30, s31, .val (.int v), s33, s34] := by
  rcases h with rfl | ⟨w, rfl, hw⟩
  · rfl
  · cases w <;> first | rfl | (simp [Value.category] at hw)
theorem os0_546_fftf {s0 : Slot} {z1 : Value} {s3 s4 s5 s6 s7 s8 s9 s10 s11 s12 : Slot} {z13 : Value} {s14 s15 : Slot} {z16 : Value} {s17 : Slot} {z18 z19 : Value} {s20 : Slot} {z21 z22 z24 z25 z26 z27 : Value} {s28 s29 s30 s31 : Slot} {z32 : Value} {s33 s34 : Slot} {v : Int32} (h : One s33) : storeLocals #[s0, .val z1, .second, s3, s4, s5, s6, s7, s8, s9, s10, s11, s12, .val z13, s14, s15, .val z16, s17, .val z18, .val z19, s20, .val z21, .val z22, .second, .val z24, .val z25, .val z26, .val z27, s28, s29, s30, s31, .val z32, s33, s34] 33 (.int v) = some #[s0, .val z1, .second, s3, s4, s5, s6, s7, s8, s9, s10, s11, s12, .val z13, s14, s15, .val z16, s17, .val z18, .val z19, s20, .val z21, .val z22, .second, .val z24, .val z25, .val z26, .val z27, s28, s29, s30, s31, .val z32, .val (.int v), s34] := by
  rcases h with rfl | ⟨w, rfl, hw⟩
  · rfl
  · cases w <;> first | rfl | (simp [Value.category] at hw)
theorem tn0_483_548_fftf {v5 v6 v8 v11 : Value} (s0 : Slot) (j1 : Int64) (s3 s4 s5 s6 s7 s8 s9 s10 s11 s12 : Slot) (o13 : Addr) (s14 s15 : Slot) (i16 : Int32) (s17 : Slot) (i18 i19 : Int32) (s20 : Slot) (i21 : Int32) (j22 : Int64) (i24 : Int32) (o25 : Addr) (i26 : Int32) (o27 : Addr) (s28 s29 s30 s31 s32 s33 s34 : Slot)
    (X0 : Stand p l e room_1 s m args below meth c T0 locs 9 51) (hx : p.tables.exec = Jvm.exec) (hZ : Z.Warmed39 s.vm) (hw : ∀ d ∈ tables_1, d.before a0 Z = true) (hby : c.code = code) (hml : c.maxLocals = 35) (hown : s.vm.findClass own_s1 = some m.cls) (e0 : T0.heap = h0) (Z0 : n0 ≤ h0.size) (N0 : Fr n0 locs) (B : Br Z h0 o27 (.int (1 : Int32)) (.int i16) (.long j1) (.int i18) (.ref o13) v5 v6 (.int i19) v8 (.int (0 : Int32)) .null v11) (hm : ¬ (own_match i21 j22 i24 i16 j1 i18) = 0) (hs32 : One s32) (hs33 : One s33) (ha504 : o25 = o13) (hc511 : i19 < i26) :
    ∃ (T' : State) (L' : List Loc), Stand p l e room_1 s m args below meth c T' L' 9 51 ∧ Fr n0 L' ∧ T'.heap = h0 ∧
      ∀ target, Steps p.tables e below (T'.setTop (mkF m 548 #[s0, .val (.long j1), .second, s3, s4, s5, s6, s7, s8, s9, s10, s11, s12, .val (.ref o13), s14, s15, .val (.int i16), s17, .val (.int i18), .val (.int i19), s20, .val (.int i21), .val (.long j22), .second, .val (.int i24), .val (.ref o25), .val (.int i26), .val (.ref o27), s28, s29, s30, s31, .val (.int (0 : Int32)), .val (.int (1 : Int32)), s34] [])) target → Steps p.tables e below (T0.setTop (mkF m 483 #[s0, .val (.long j1), .second, s3, s4, s5, s6, s7, s8, s9, s10, s11, s12, .val (.ref o13), s14, s15, .val (.int i16), s17, .val (.int i18), .val (.int i19), s20, .val (.int i21), .val (.long j22), .second, .val (.int i24), .val (.ref o25), .val (.int i26), .val (.ref o27), s28, s29, s30, s31, s32, s33, s34] [])) target := by
  have E_o27 : Exa Z h0 o27 own_s0 := B.1
  obtain ⟨_, _, ⟨T7, L7, k7, n7⟩, -, X7, ⟨Lc7, hQ7, l7, y7, z7⟩, st7⟩ := Jvm.LawKit.callS X0 hx (y := own_n9) hown (mvT hZ (own_w hw 80 rfl)) (mvT hZ (own_w hw 81 rfl)) (mvT hZ (own_w hw 82 rfl)) (mvT hZ (own_w hw 83 rfl)) (by decide) (backOf (W := 0) (rm11 l Z a0 hw [] i21 j22 i24 i16 j1 i18 h0 n0 Z0) hZ (own_w hw 83 rfl) (own_w hw 82 rfl) (by decide) (by decide)) (g := (mkF m 494 #[s0, .val (.long j1), .second, s3, s4, s5, s6, s7, s8, s9, s10, s11, s12, .val (.ref o13), s14, s15, .val (.int i16), s17, .val (.int i18), .val (.int i19), s20, .val (.int i21), .val (.long j22), .second, .val (.int i24), .val (.ref o25), .val (.int i26), .val (.ref o27), s28, s29, s30, s31, s32, s33, s34] [(.int i18), (.long j1), (.int i16), (.int i24), (.long j22), (.int i21)])) rfl (by rw [hml]; rfl) (argsL := [(.int i21), (.long j22), (.int i24), (.int i16), (.long j1), (.int i18)]) (rest := []) (lenOf pd_0_8 rfl) rfl (by show 2 * 0 + _ ≤ _; exact Nat.le_of_eq rfl) (hb hby at_494) (fun _ _ => ⟨rfl, e0, (by decide : 9 + 0 ≤ _), (by decide : 51 + 0 ≤ _)⟩)
  dsimp only [Pt.U, Pt.locs, Pt.cells, Pt.slots] at X7 l7 y7 z7 st7 hQ7
  subst l7 y7 z7
  obtain ⟨rfl, N7q, eq7⟩ := hQ7
  have N7 := Fr.app N0 N7q
  have Kc7 : Keep h0 T7.heap [] := own_kp eq7
  have B7 := B.keep Kc7 nin0
  obtain ⟨cq8, kq8, q8a, q8b, q8c⟩ := isOf hZ rfl (E_o27.keep Kc7)
  obtain ⟨_, _, ⟨T8, L8, k8, n8⟩, -, X8, ⟨Lc8, hQ8, l8, y8, z8⟩, st8⟩ := X7.virtualBack hx (y := own_n10) (z := own_n10) hown (mvT hZ (own_w hw 84 rfl)) (mvT hZ (own_w hw 85 rfl)) (notFace_of_selects (args := #[]) (mvT hZ (own_w hw 87 rfl))) (mvT hZ (own_w hw 87 rfl)) (mvT hZ (own_w hw 86 rfl)) (by decide) (backOf (W := 0) (rm12 l Z a0 hw [] o27 i21 j22 i24 o25 i26 i16 j1 i18 o13 i19 T7.heap n0 (by rw [eq7]; exact Z0) B7.2.1 B7.2.2.2.2.2.2.2.2.2.2.1 B7.2.2.2.2.2.2.2.2.2.2.2.1 B7.1 B7.2.2.1 B7.2.2.2.1 B7.2.2.2.2.1 B7.2.2.2.2.2.1 B7.2.2.2.2.2.2.2.2.1) hZ (own_w hw 88 rfl) (own_w hw 12 rfl) (by decide) (by decide)) q8a q8c (g := (mkF m 533 #[s0, .val (.long j1), .second, s3, s4, s5, s6, s7, s8, s9, s10, s11, s12, .val (.ref o13), s14, s15, .val (.int i16), s17, .val (.int i18), .val (.int i19), s20, .val (.int i21), .val (.long j22), .second, .val (.int i24), .val (.ref o25), .val (.int i26), .val (.ref o27), s28, s29, s30, s31, .val (.int (0 : Int32)), s33, s34] [(.int i26), (.ref o25), (.int i24), (.long j22), (.int i21), (.ref o27)])) rfl (by rw [hml]; rfl) (Steps.refl _) (argsL := [(.int i21), (.long j22), (.int i24), (.ref o25), (.int i26)]) (rest := []) (lenOf pd_0_9 rfl) rfl (by show 2 * 0 + _ ≤ _; exact Nat.le_of_eq rfl) (hb hby at_533) (fun _ _ => ⟨rfl, rfl, (by decide : 9 + 0 ≤ _), (by decide : 51 + 0 ≤ _)⟩)
  dsimp only [Pt.U, Pt.locs, Pt.cells, Pt.slots] at X8 l8 y8 z8 st8 hQ8
  subst l8 y8 z8
  obtain ⟨rfl, N8q, eq8⟩ := hQ8
  have N8 := Fr.app N7 N8q
  refine ⟨T8, _, X8, N8, eq8.trans eq7, fun target kt => ?_⟩
  show Steps _ _ _ (T0.setTop (mkF m 483 #[s0, .val (.long j1), .second, s3, s4, s5, s6, s7, s8, s9, s10, s11, s12, .val (.ref o13), s14, s15, .val (.int i16), s17, .val (.int i18), .val (.int i19), s20, .val (.int i21), .val (.long j22), .second, .val (.int i24), .val (.ref o25), .val (.int i26), .val (.ref o27), s28, s29, s30, s31, s32, s33, s34] [])) _
  refine XS.iload X0.here hx rfl (hb hby at_483) rfl ?_
  show Steps _ _ _ (T0.setTop (mkF m 485 #[s0, .val (.long j1), .second, s3, s4, s5, s6, s7, s8, s9, s10, s11, s12, .val (.ref o13), s14, s15, .val (.int i16), s17, .val (.int i18), .val (.int i19), s20, .val (.int i21), .val (.long j22), .second, .val (.int i24), .val (.ref o25), .val (.int i26), .val (.ref o27), s28, s29, s30, s31, s32, s33, s34] [(.int i21)])) _
  refine XS.lload X0.here hx rfl (hb hby at_485) rfl ?_
  show Steps _ _ _ (T0.setTop (mkF m 487 #[s0, .val (.long j1), .second, s3, s4, s5, s6, s7, s8, s9, s10, s11, s12, .val (.ref o13), s14, s15, .val (.int i16), s17, .val (.int i18), .val (.int i19), s20, .val (.int i21), .val (.long j22), .second, .val (.int i24), .val (.ref o25), .val (.int i26), .val (.ref o27), s28, s29, s30, s31, s32, s33, s34] [(.long j22), (.int i21)])) _
  refine XS.iload X0.here hx rfl (hb hby at_487) rfl ?_
  show Steps _ _ _ (T0.setTop (mkF m 489 #[s0, .val (.long j1), .second, s3, s4, s5, s6, s7, s8, s9, s10, s11, s12, .val (.ref o13), s14, s15, .val (.int i16), s17, .val (.int i18), .val (.int i19), s20, .val (.int i21), .val (.long j22), .second, .val (.int i24), .val (.ref o25), .val (.int i26), .val (.ref o27), s28, s29, s30, s31, s32, s33, s34] [(.int i24), (.long j22), (.int i21)])) _
  refine XS.iload X0.here hx rfl (hb hby at_489) rfl ?_
  show Steps _ _ _ (T0.setTop (mkF m 491 #[s0, .val (.long j1), .second, s3, s4, s5, s6, s7, s8, s9, s10, s11, s12, .val (.ref o13), s14, s15, .val (.int i16), s17, .val (.int i18), .val (.int i19), s20, .val (.int i21), .val (.long j22), .second, .val (.int i24), .val (.ref o25), .val (.int i26), .val (.ref o27), s28, s29, s30, s31, s32, s33, s34] [(.int i16), (.int i24), (.long j22), (.int i21)])) _
  refine XS.lloadN X0.here hx rfl (hb hby at_491) rfl ?_
  show Steps _ _ _ (T0.setTop (mkF m 492 #[s0, .val (.long j1), .second, s3, s4, s5, s6, s7, s8, s9, s10, s11, s12, .val (.ref o13), s14, s15, .val (.int i16), s17, .val (.int i18), .val (.int i19), s20, .val (.int i21), .val (.long j22), .second, .val (.int i24), .val (.ref o25), .val (.int i26), .val (.ref o27), s28, s29, s30, s31, s32, s33, s34] [(.long j1), (.int i16), (.int i24), (.long j22), (.int i21)])) _
  refine XS.iload X0.here hx rfl (hb hby at_492) rfl ?_
  show Steps _ _ _ (T0.setTop (mkF m 494 #[s0, .val (.long j1), .second, s3, s4, s5, s6, s7, s8, s9, s10, s11, s12, .val (.ref o13), s14, s15, .val (.int i16), s17, .val (.int i18), .val (.int i19), s20, .val (.int i21), .val (.long j22), .second, .val (.int i24), .val (.ref o25), .val (.int i26), .val (.ref o27), s28, s29, s30, s31, s32, s33, s34] [(.int i18), (.long j1), (.int i16), (.int i24), (.long j22), (.int i21)])) _
  refine st7 _ ?_
  show Steps _ _ _ (T7.setTop (mkF m 497 #[s0, .val (.long j1), .second, s3, s4, s5, s6, s7, s8, s9, s10, s11, s12, .val (.ref o13), s14, s15, .val (.int i16), s17, .val (.int i18), .val (.int i19), s20, .val (.int i21), .val (.long j22), .second, .val (.int i24), .val (.ref o25), .val (.int i26), .val (.ref o27), s28, s29, s30, s31, s32, s33, s34] [(.int (own_match i21 j22 i24 i16 j1 i18))])) _
  refine XS.ifNo X7.here hx rfl (hb hby at_497) rfl ((if0 _ _).trans (feq (by first | exact hm | (unfold own_take; rw [if_neg hm, if_pos ha504, if_pos hc511]) : ¬ ((own_match i21 j22 i24 i16 j1 i18) = (0 : Int32)))).1) ?_
  show Steps _ _ _ (T7.setTop (mkF m 500 #[s0, .val (.long j1), .second, s3, s4, s5, s6, s7, s8, s9, s10, s11, s12, .val (.ref o13), s14, s15, .val (.int i16), s17, .val (.int i18), .val (.int i19), s20, .val (.int i21), .val (.long j22), .second, .val (.int i24), .val (.ref o25), .val (.int i26), .val (.ref o27), s28, s29, s30, s31, s32, s33, s34] [])) _
  refine XS.aload X7.here hx rfl (hb hby at_500) rfl rfl ?_
  show Steps _ _ _ (T7.setTop (mkF m 502 #[s0, .val (.long j1), .second, s3, s4, s5, s6, s7, s8, s9, s10, s11, s12, .val (.ref o13), s14, s15, .val (.int i16), s17, .val (.int i18), .val (.int i19), s20, .val (.int i21), .val (.long j22), .second, .val (.int i24), .val (.ref o25), .val (.int i26), .val (.ref o27), s28, s29, s30, s31, s32, s33, s34] [(.ref o25)])) _
  refine XS.aload X7.here hx rfl (hb hby at_502) rfl rfl ?_
  show Steps _ _ _ (T7.setTop (mkF m 504 #[s0, .val (.long j1), .second, s3, s4, s5, s6, s7, s8, s9, s10, s11, s12, .val (.ref o13), s14, s15, .val (.int i16), s17, .val (.int i18), .val (.int i19), s20, .val (.int i21), .val (.long j22), .second, .val (.int i24), .val (.ref o25), .val (.int i26), .val (.ref o27), s28, s29, s30, s31, s32, s33, s34] [(.ref o13), (.ref o25)])) _
  refine Jvm.RoadKit.acmp (g := (mkF m 504 #[s0, .val (.long j1), .second, s3, s4, s5, s6, s7, s8, s9, s10, s11, s12, .val (.ref o13), s14, s15, .val (.int i16), s17, .val (.int i18), .val (.int i19), s20, .val (.int i21), .val (.long j22), .second, .val (.int i24), .val (.ref o25), .val (.int i26), .val (.ref o27), s28, s29, s30, s31, s32, s33, s34] [(.ref o13), (.ref o25)])) X7 hx rfl rfl rfl (pc0 := 504) (pc' := 507) (same := true) rfl (hb hby at_504) rfl (decide_eq_true (congrArg Value.ref ha504)) (by decide) (by decide) ?_
  show Steps _ _ _ (T7.setTop (mkF m 507 #[s0, .val (.long j1), .second, s3, s4, s5, s6, s7, s8, s9, s10, s11, s12, .val (.ref o13), s14, s15, .val (.int i16), s17, .val (.int i18), .val (.int i19), s20, .val (.int i21), .val (.long j22), .second, .val (.int i24), .val (.ref o25), .val (.int i26), .val (.ref o27), s28, s29, s30, s31, s32, s33, s34] [])) _
  refine XS.iload X7.here hx rfl (hb hby at_507) rfl ?_
  show Steps _ _ _ (T7.setTop (mkF m 509 #[s0, .val (.long j1), .second, s3, s4, s5, s6, s7, s8, s9, s10, s11, s12, .val (.ref o13), s14, s15, .val (.int i16), s17, .val (.int i18), .val (.int i19), s20, .val (.int i21), .val (.long j22), .second, .val (.int i24), .val (.ref o25), .val (.int i26), .val (.ref o27), s28, s29, s30, s31, s32, s33, s34] [(.int i26)])) _
  refine XS.iload X7.here hx rfl (hb hby at_509) rfl ?_
  show Steps _ _ _ (T7.setTop (mkF m 511 #[s0, .val (.long j1), .second, s3, s4, s5, s6, s7, s8, s9, s10, s11, s12, .val (.ref o13), s14, s15, .val (.int i16), s17, .val (.int i18), .val (.int i19), s20, .val (.int i21), .val (.long j22), .second, .val (.int i24), .val (.ref o25), .val (.int i26), .val (.ref o27), s28, s29, s30, s31, s32, s33, s34] [(.int i19), (.int i26)])) _
  refine XS.icmpYes X7.here hx rfl (pc0 := 511) (pc' := 518) rfl (hb hby at_511) rfl (tlt hc511).2.2.1 (by decide) (by decide) ?_
  show Steps _ _ _ (T7.setTop (mkF m 518 #[s0, .val (.long j1), .second, s3, s4, s5, s6, s7, s8, s9, s10, s11, s12, .val (.ref o13), s14, s15, .val (.int i16), s17, .val (.int i18), .val (.int i19), s20, .val (.int i21), .val (.long j22), .second, .val (.int i24), .val (.ref o25), .val (.int i26), .val (.ref o27), s28, s29, s30, s31, s32, s33, s34] [])) _
  refine XS.iconst X7.here hx rfl (hb hby at_518) ?_
  show Steps _ _ _ (T7.setTop (mkF m 519 #[s0, .val (.long j1), .second, s3, s4, s5, s6, s7, s8, s9, s10, s11, s12, .val (.ref o13), s14, s15, .val (.int i16), s17, .val (.int i18), .val (.int i19), s20, .val (.int i21), .val (.long j22), .second, .val (.int i24), .val (.ref o25), .val (.int i26), .val (.ref o27), s28, s29, s30, s31, s32, s33, s34] [(.int (0 : Int32))])) _
  refine XS.istore X7.here hx rfl (hb hby at_519) rfl (l' := #[s0, .val (.long j1), .second, s3, s4, s5, s6, s7, s8, s9, s10, s11, s12, .val (.ref o13), s14, s15, .val (.int i16), s17, .val (.int i18), .val (.int i19), s20, .val (.int i21), .val (.long j22), .second, .val (.int i24), .val (.ref o25), .val (.int i26), .val (.ref o27), s28, s29, s30, s31, .val (.int (0 : Int32)), s33, s34]) (os0_519_fftf hs32) ?_
  show Steps _ _ _ (T7.setTop (mkF m 521 #[s0, .val (.long j1), .second, s3, s4, s5, s6, s7, s8, s9, s10, s11, s12, .val (.ref o13), s14, s15, .val (.int i16), s17, .val (.int i18), .val (.int i19), s20, .val (.int i21), .val (.long j22), .second, .val (.int i24), .val (.ref o25), .val (.int i26), .val (.ref o27), s28, s29, s30, s31, .val (.int (0 : Int32)), s33, s34] [])) _
  refine XS.aload X7.here hx rfl (hb hby at_521) rfl rfl ?_
  show Steps _ _ _ (T7.setTop (mkF m 523 #[s0, .val (.long j1), .second, s3, s4, s5, s6, s7, s8, s9, s10, s11, s12, .val (.ref o13), s14, s15, .val (.int i16), s17, .val (.int i18), .val (.int i19), s20, .val (.int i21), .val (.long j22), .second, .val (.int i24), .val (.ref o25), .val (.int i26), .val (.ref o27), s28, s29, s30, s31, .val (.int (0 : Int32)), s33, s34] [(.ref o27)])) _
  refine XS.iload X7.here hx rfl (hb hby at_523) rfl ?_
  show Steps _ _ _ (T7.setTop (mkF m 525 #[s0, .val (.long j1), .second, s3, s4, s5, s6, s7, s8, s9, s10, s11, s12, .val (.ref o13), s14, s15, .val (.int i16), s17, .val (.int i18), .val (.int i19), s20, .val (.int i21), .val (.long j22), .second, .val (.int i24), .val (.ref o25), .val (.int i26), .val (.ref o27), s28, s29, s30, s31, .val (.int (0 : Int32)), s33, s34] [(.int i21), (.ref o27)])) _
  refine XS.lload X7.here hx rfl (hb hby at_525) rfl ?_
  show Steps _ _ _ (T7.setTop (mkF m 527 #[s0, .val (.long j1), .second, s3, s4, s5, s6, s7, s8, s9, s10, s11, s12, .val (.ref o13), s14, s15, .val (.int i16), s17, .val (.int i18), .val (.int i19), s20, .val (.int i21), .val (.long j22), .second, .val (.int i24), .val (.ref o25), .val (.int i26), .val (.ref o27), s28, s29, s30, s31, .val (.int (0 : Int32)), s33, s34] [(.long j22), (.int i21), (.ref o27)])) _
  refine XS.iload X7.here hx rfl (hb hby at_527) rfl ?_
  show Steps _ _ _ (T7.setTop (mkF m 529 #[s0, .val (.long j1), .second, s3, s4, s5, s6, s7, s8, s9, s10, s11, s12, .val (.ref o13), s14, s15, .val (.int i16), s17, .val (.int i18), .val (.int i19), s20, .val (.int i21), .val (.long j22), .second, .val (.int i24), .val (.ref o25), .val (.int i26), .val (.ref o27), s28, s29, s30, s31, .val (.int (0 : Int32)), s33, s34] [(.int i24), (.long j22), (.int i21), (.ref o27)])) _
  refine XS.aload X7.here hx rfl (hb hby at_529) rfl rfl ?_
  show Steps _ _ _ (T7.setTop (mkF m 531 #[s0, .val (.long j1), .second, s3, s4, s5, s6, s7, s8, s9, s10, s11, s12, .val (.ref o13), s14, s15, .val (.int i16), s17, .val (.int i18), .val (.int i19), s20, .val (.int i21), .val (.long j22), .second, .val (.int i24), .val (.ref o25), .val (.int i26), .val (.ref o27), s28, s29, s30, s31, .val (.int (0 : Int32)), s33, s34] [(.ref o25), (.int i24), (.long j22), (.int i21), (.ref o27)])) _
  refine XS.iload X7.here hx rfl (hb hby at_531) rfl ?_
  show Steps _ _ _ (T7.setTop (mkF m 533 #[s0, .val (.long j1), .second, s3, s4, s5, s6, s7, s8, s9, s10, s11, s12, .val (.ref o13), s14, s15, .val (.int i16), s17, .val (.int i18), .val (.int i19), s20, .val (.int i21), .val (.long j22), .second, .val (.int i24), .val (.ref o25), .val (.int i26), .val (.ref o27), s28, s29, s30, s31, .val (.int (0 : Int32)), s33, s34] [(.int i26), (.ref o25), (.int i24), (.long j22), (.int i21), (.ref o27)])) _
  refine st8.trans ?_
  show Steps _ _ _ (T8.setTop (mkF m 536 #[s0, .val (.long j1), .second, s3, s4, s5, s6, s7, s8, s9, s10, s11, s12, .val (.ref o13), s14, s15, .val (.int i16), s17, .val (.int i18), .val (.int i19), s20, .val (.int i21), .val (.long j22), .second, .val (.int i24), .val (.ref o25), .val (.int i26), .val (.ref o27), s28, s29, s30, s31, .val (.int (0 : Int32)), s33, s34] [(.int (own_take (own_match i21 j22 i24 i16 j1 i18) o25 o13 i26 i19))])) _
  refine XS.iload X8.here hx rfl (hb hby at_536) rfl ?_
  show Steps _ _ _ (T8.setTop (mkF m 538 #[s0, .val (.long j1), .second, s3, s4, s5, s6, s7, s8, s9, s10, s11, s12, .val (.ref o13), s14, s15, .val (.int i16), s17, .val (.int i18), .val (.int i19), s20, .val (.int i21), .val (.long j22), .second, .val (.int i24), .val (.ref o25), .val (.int i26), .val (.ref o27), s28, s29, s30, s31, .val (.int (0 : Int32)), s33, s34] [(.int (0 : Int32)), (.int (own_take (own_match i21 j22 i24 i16 j1 i18) o25 o13 i26 i19))])) _
  refine XS.icmpNo X8.here hx rfl (hb hby at_538) rfl (teq (by first | exact hm | (unfold own_take; rw [if_neg hm, if_pos ha504, if_pos hc511]) : (own_take (own_match i21 j22 i24 i16 j1 i18) o25 o13 i26 i19) = (0 : Int32))).2 ?_
  show Steps _ _ _ (T8.setTop (mkF m 541 #[s0, .val (.long j1), .second, s3, s4, s5, s6, s7, s8, s9, s10, s11, s12, .val (.ref o13), s14, s15, .val (.int i16), s17, .val (.int i18), .val (.int i19), s20, .val (.int i21), .val (.long j22), .second, .val (.int i24), .val (.ref o25), .val (.int i26), .val (.ref o27), s28, s29, s30, s31, .val (.int (0 : Int32)), s33, s34] [])) _
  refine XS.iconst X8.here hx rfl (hb hby at_541) ?_
  show Steps _ _ _ (T8.setTop (mkF m 542 #[s0, .val (.long j1), .second, s3, s4, s5, s6, s7, s8, s9, s10, s11, s12, .val (.ref o13), s14, s15, .val (.int i16), s17, .val (.int i18), .val (.int i19), s20, .val (.int i21), .val (.long j22), .second, .val (.int i24), .val (.ref o25), .val (.int i26), .val (.ref o27), s28, s29, s30, s31, .val (.int (0 : Int32)), s33, s34] [(.int (1 : Int32))])) _
  refine XS.goto X8.here hx rfl (pc0 := 542) (pc' := 546) rfl (hb hby at_542) (by decide) (by decide) ?_
  show Steps _ _ _ (T8.setTop (mkF m 546 #[s0, .val (.long j1), .second, s3, s4, s5, s6, s7, s8, s9, s10, s11, s12, .val (.ref o13), s14, s15, .val (.int i16), s17, .val (.int i18), .val (.int i19), s20, .val (.int i21), .val (.long j22), .second, .val (.int i24), .val (.ref o25), .val (.int i26), .val (.ref o27), s28, s29, s30, s31, .val (.int (0 : Int32)), s33, s34] [(.int (1 : Int32))])) _
  refine XS.istore X8.here hx rfl (hb hby at_546) rfl (l' := #[s0, .val (.long j1), .second, s3, s4, s5, s6, s7, s8, s9, s10, s11, s12, .val (.ref o13), s14, s15, .val (.int i16), s17, .val (.int i18), .val (.int i19), s20, .val (.int i21), .val (.long j22), .second, .val (.int i24), .val (.ref o25), .val (.int i26), .val (.ref o27), s28, s29, s30, s31, .val (.int (0 : Int32)), .val (.int (1 : Int32)), s34]) (os0_546_fftf hs33) ?_
  exact kt
theorem os0_519_ffff {s0 : Slot} {z1 : Value} {s3 s4 s5 s6 s7 s8 s9 s10 s11 s12 : Slot} {z13 : Value} {s14 s15 : Slot} {z16 : Value} {s17 : Slot} {z18 z19 : Value} {s20 : Slot} {z21 z22 z24 z25 z26 z27 : Value} {s28 s29 s30 s31 s32 s33 s34 : Slot} {v : Int32} (h : One s32) : storeLocals #[s0, .val z1, .second, s3, s4, s5, s6, s7, s8, s9, s10, s11, s12, .val z13, s14, s15, .val z16, s17, .val z18, .val z19, s20, .val z21, .val z22, .second, .val z24, .val z25, .val z26, .val z27, s28, s29, s30, s31, s32, s33, s34] 32 (.int v) = some #[s0, .val z1, .second, s3, s4, s5, s6, s7, s8, s9, s10, s11, s12, .val z13, s14, s15, .val z16, s17, .val z18, .val z19, s20, .val z21, .val z22, .second, .val z24, .val z25, .val z26, .val z27, s28, s29, s30, s31, .val (.int v), s33, s34] := by
  rcases h with rfl | ⟨w, rfl, hw⟩
  · rfl
  · cases w <;> first | rfl | (simp [Value.category] at hw)
theorem os0_546_ffff {s0 : Slot} {z1 : Value} {s3 s4 s5 s6 s7 s8 s9 s10 s11 s12 : Slot} {z13 : Value} {s14 s15 : Slot} {z16 : Value} {s17 : Slot} {z18 z19 : Value} {s20 : Slot} {z21 z22 z24 z25 z26 z27 : Value} {s28 s29 s30 s31 : Slot} {z32 : Value} {s33 s34 : Slot} {v : Int32} (h : One s33) : storeLocals #[s0, .val z1, .second, s3, s4, s5, s6, s7, s8, s9, s10, s11, s12, .val z13, s14, s15, .val z16, s17, .val z18, .val z19, s20, .val z21, .val z22, .second, .val z24, .val z25, .val z26, .val z27, s28, s29, s30, s31, .val z32, s33, s34] 33 (.int v) = some #[s0, .val z1, .second, s3, s4, s5, s6, s7, s8, s9, s10, s11, s12, .val z13, s14, s15, .val z16, s17, .val z18, .val z19, s20, .val z21, .val z22, .second, .val z24, .val z25, .val z26, .val z27, s28, s29, s30, s31, .val z32, .val (.int v), s34] := by
  rcases h with rfl | ⟨w, rfl, hw⟩
  · rfl
  · cases w <;> first | rfl | (simp [Value.category] at hw)
theorem tn0_483_548_ffff {v5 v6 v8 v11 : Value} (s0 : Slot) (j1 : Int64) (s3 s4 s5 s6 s7 s8 s9 s10 s11 s12 : Slot) (o13 : Addr) (s14 s15 : Slot) (i16 : Int32) (s17 : Slot) (i18 i19 : Int32) (s20 : Slot) (i21 : Int32) (j22 : Int64) (i24 : Int32) (o25 : Addr) (i26 : Int32) (o27 : Addr) (s28 s29 s30 s31 s32 s33 s34 : Slot)
    (X0 : Stand p l e room_1 s m args below meth c T0 locs 9 51) (hx : p.tables.exec = Jvm.exec) (hZ : Z.Warmed39 s.vm) (hw : ∀ d ∈ tables_1, d.before a0 Z = true) (hby : c.code = code) (hml : c.maxLocals = 35) (hown : s.vm.findClass own_s1 = some m.cls) (e0 : T0.heap = h0) (Z0 : n0 ≤ h0.size) (N0 : Fr n0 locs) (B : Br Z h0 o27 (.int (1 : Int32)) (.int i16) (.long j1) (.int i18) (.ref o13) v5 v6 (.int i19) v8 (.int (0 : Int32)) .null v11) (hm : ¬ (own_match i21 j22 i24 i16 j1 i18) = 0) (hs32 : One s32) (hs33 : One s33) (ha504 : o25 = o13) (hc511 : ¬ (i19 < i26)) :
    ∃ (T' : State) (L' : List Loc), Stand p l e room_1 s m args below meth c T' L' 9 51 ∧ Fr n0 L' ∧ T'.heap = h0 ∧
      ∀ target, Steps p.tables e below (T'.setTop (mkF m 548 #[s0, .val (.long j1), .second, s3, s4, s5, s6, s7, s8, s9, s10, s11, s12, .val (.ref o13), s14, s15, .val (.int i16), s17, .val (.int i18), .val (.int i19), s20, .val (.int i21), .val (.long j22), .second, .val (.int i24), .val (.ref o25), .val (.int i26), .val (.ref o27), s28, s29, s30, s31, .val (.int (1 : Int32)), .val (.int (1 : Int32)), s34] [])) target → Steps p.tables e below (T0.setTop (mkF m 483 #[s0, .val (.long j1), .second, s3, s4, s5, s6, s7, s8, s9, s10, s11, s12, .val (.ref o13), s14, s15, .val (.int i16), s17, .val (.int i18), .val (.int i19), s20, .val (.int i21), .val (.long j22), .second, .val (.int i24), .val (.ref o25), .val (.int i26), .val (.ref o27), s28, s29, s30, s31, s32, s33, s34] [])) target := by
  have E_o27 : Exa Z h0 o27 own_s0 := B.1
  obtain ⟨_, _, ⟨T7, L7, k7, n7⟩, -, X7, ⟨Lc7, hQ7, l7, y7, z7⟩, st7⟩ := Jvm.LawKit.callS X0 hx (y := own_n9) hown (mvT hZ (own_w hw 80 rfl)) (mvT hZ (own_w hw 81 rfl)) (mvT hZ (own_w hw 82 rfl)) (mvT hZ (own_w hw 83 rfl)) (by decide) (backOf (W := 0) (rm11 l Z a0 hw [] i21 j22 i24 i16 j1 i18 h0 n0 Z0) hZ (own_w hw 83 rfl) (own_w hw 82 rfl) (by decide) (by decide)) (g := (mkF m 494 #[s0, .val (.long j1), .second, s3, s4, s5, s6, s7, s8, s9, s10, s11, s12, .val (.ref o13), s14, s15, .val (.int i16), s17, .val (.int i18), .val (.int i19), s20, .val (.int i21), .val (.long j22), .second, .val (.int i24), .val (.ref o25), .val (.int i26), .val (.ref o27), s28, s29, s30, s31, s32, s33, s34] [(.int i18), (.long j1), (.int i16), (.int i24), (.long j22), (.int i21)])) rfl (by rw [hml]; rfl) (argsL := [(.int i21), (.long j22), (.int i24), (.int i16), (.long j1), (.int i18)]) (rest := []) (lenOf pd_0_8 rfl) rfl (by show 2 * 0 + _ ≤ _; exact Nat.le_of_eq rfl) (hb hby at_494) (fun _ _ => ⟨rfl, e0, (by decide : 9 + 0 ≤ _), (by decide : 51 + 0 ≤ _)⟩)
  dsimp only [Pt.U, Pt.locs, Pt.cells, Pt.slots] at X7 l7 y7 z7 st7 hQ7
  subst l7 y7 z7
  obtain ⟨rfl, N7q, eq7⟩ := hQ7
  have N7 := Fr.app N0 N7q
  have Kc7 : Keep h0 T7.heap [] := own_kp eq7
  have B7 := B.keep Kc7 nin0
  obtain ⟨cq8, kq8, q8a, q8b, q8c⟩ := isOf hZ rfl (E_o27.keep Kc7)
  obtain ⟨_, _, ⟨T8, L8, k8, n8⟩, -, X8, ⟨Lc8, hQ8, l8, y8, z8⟩, st8⟩ := X7.virtualBack hx (y := own_n10) (z := own_n10) hown (mvT hZ (own_w hw 84 rfl)) (mvT hZ (own_w hw 85 rfl)) (notFace_of_selects (args := #[]) (mvT hZ (own_w hw 87 rfl))) (mvT hZ (own_w hw 87 rfl)) (mvT hZ (own_w hw 86 rfl)) (by decide) (backOf (W := 0) (rm12 l Z a0 hw [] o27 i21 j22 i24 o25 i26 i16 j1 i18 o13 i19 T7.heap n0 (by rw [eq7]; exact Z0) B7.2.1 B7.2.2.2.2.2.2.2.2.2.2.1 B7.2.2.2.2.2.2.2.2.2.2.2.1 B7.1 B7.2.2.1 B7.2.2.2.1 B7.2.2.2.2.1 B7.2.2.2.2.2.1 B7.2.2.2.2.2.2.2.2.1) hZ (own_w hw 88 rfl) (own_w hw 12 rfl) (by decide) (by decide)) q8a q8c (g := (mkF m 533 #[s0, .val (.long j1), .second, s3, s4, s5, s6, s7, s8, s9, s10, s11, s12, .val (.ref o13), s14, s15, .val (.int i16), s17, .val (.int i18), .val (.int i19), s20, .val (.int i21), .val (.long j22), .second, .val (.int i24), .val (.ref o25), .val (.int i26), .val (.ref o27), s28, s29, s30, s31, .val (.int (1 : Int32)), s33, s34] [(.int i26), (.ref o25), (.int i24), (.long j22), (.int i21), (.ref o27)])) rfl (by rw [hml]; rfl) (Steps.refl _) (argsL := [(.int i21), (.long j22), (.int i24), (.ref o25), (.int i26)]) (rest := []) (lenOf pd_0_9 rfl) rfl (by show 2 * 0 + _ ≤ _; exact Nat.le_of_eq rfl) (hb hby at_533) (fun _ _ => ⟨rfl, rfl, (by decide : 9 + 0 ≤ _), (by decide : 51 + 0 ≤ _)⟩)
  dsimp only [Pt.U, Pt.locs, Pt.cells, Pt.slots] at X8 l8 y8 z8 st8 hQ8
  subst l8 y8 z8
  obtain ⟨rfl, N8q, eq8⟩ := hQ8
  have N8 := Fr.app N7 N8q
  refine ⟨T8, _, X8, N8, eq8.trans eq7, fun target kt => ?_⟩
  show Steps _ _ _ (T0.setTop (mkF m 483 #[s0, .val (.long j1), .second, s3, s4, s5, s6, s7, s8, s9, s10, s11, s12, .val (.ref o13), s14, s15, .val (.int i16), s17, .val (.int i18), .val (.int i19), s20, .val (.int i21), .val (.long j22), .second, .val (.int i24), .val (.ref o25), .val (.int i26), .val (.ref o27), s28, s29, s30, s31, s32, s33, s34] [])) _
  refine XS.iload X0.here hx rfl (hb hby at_483) rfl ?_
  show Steps _ _ _ (T0.setTop (mkF m 485 #[s0, .val (.long j1), .second, s3, s4, s5, s6, s7, s8, s9, s10, s11, s12, .val (.ref o13), s14, s15, .val (.int i16), s17, .val (.int i18), .val (.int i19), s20, .val (.int i21), .val (.long j22), .second, .val (.int i24), .val (.ref o25), .val (.int i26), .val (.ref o27), s28, s29, s30, s31, s32, s33, s34] [(.int i21)])) _
  refine XS.lload X0.here hx rfl (hb hby at_485) rfl ?_
  show Steps _ _ _ (T0.setTop (mkF m 487 #[s0, .val (.long j1), .second, s3, s4, s5, s6, s7, s8, s9, s10, s11, s12, .val (.ref o13), s14, s15, .val (.int i16), s17, .val (.int i18), .val (.int i19), s20, .val (.int i21), .val (.long j22), .second, .val (.int i24), .val (.ref o25), .val (.int i26), .val (.ref o27), s28, s29, s30, s31, s32, s33, s34] [(.long j22), (.int i21)])) _
  refine XS.iload X0.here hx rfl (hb hby at_487) rfl ?_
  show Steps _ _ _ (T0.setTop (mkF m 489 #[s0, .val (.long j1), .second, s3, s4, s5, s6, s7, s8, s9, s10, s11, s12, .val (.ref o13), s14, s15, .val (.int i16), s17, .val (.int i18), .val (.int i19), s20, .val (.int i21), .val (.long j22), .second, .val (.int i24), .val (.ref o25), .val (.int i26), .val (.ref o27), s28, s29, s30, s31, s32, s33, s34] [(.int i24), (.long j22), (.int i21)])) _
  refine XS.iload X0.here hx rfl (hb hby at_489) rfl ?_
  show Steps _ _ _ (T0.setTop (mkF m 491 #[s0, .val (.long j1), .second, s3, s4, s5, s6, s7, s8, s9, s10, s11, s12, .val (.ref o13), s14, s15, .val (.int i16), s17, .val (.int i18), .val (.int i19), s20, .val (.int i21), .val (.long j22), .second, .val (.int i24), .val (.ref o25), .val (.int i26), .val (.ref o27), s28, s29, s30, s31, s32, s33, s34] [(.int i16), (.int i24), (.long j22), (.int i21)])) _
  refine XS.lloadN X0.here hx rfl (hb hby at_491) rfl ?_
  show Steps _ _ _ (T0.setTop (mkF m 492 #[s0, .val (.long j1), .second, s3, s4, s5, s6, s7, s8, s9, s10, s11, s12, .val (.ref o13), s14, s15, .val (.int i16), s17, .val (.int i18), .val (.int i19), s20, .val (.int i21), .val (.long j22), .second, .val (.int i24), .val (.ref o25), .val (.int i26), .val (.ref o27), s28, s29, s30, s31, s32, s33, s34] [(.long j1), (.int i16), (.int i24), (.long j22), (.int i21)])) _
  refine XS.iload X0.here hx rfl (hb hby at_492) rfl ?_
  show Steps _ _ _ (T0.setTop (mkF m 494 #[s0, .val (.long j1), .second, s3, s4, s5, s6, s7, s8, s9, s10, s11, s12, .val (.ref o13), s14, s15, .val (.int i16), s17, .val (.int i18), .val (.int i19), s20, .val (.int i21), .val (.long j22), .second, .val (.int i24), .val (.ref o25), .val (.int i26), .val (.ref o27), s28, s29, s30, s31, s32, s33, s34] [(.int i18), (.long j1), (.int i16), (.int i24), (.long j22), (.int i21)])) _
  refine st7 _ ?_
  show Steps _ _ _ (T7.setTop (mkF m 497 #[s0, .val (.long j1), .second, s3, s4, s5, s6, s7, s8, s9, s10, s11, s12, .val (.ref o13), s14, s15, .val (.int i16), s17, .val (.int i18), .val (.int i19), s20, .val (.int i21), .val (.long j22), .second, .val (.int i24), .val (.ref o25), .val (.int i26), .val (.ref o27), s28, s29, s30, s31, s32, s33, s34] [(.int (own_match i21 j22 i24 i16 j1 i18))])) _
  refine XS.ifNo X7.here hx rfl (hb hby at_497) rfl ((if0 _ _).trans (feq (by first | exact hm | (unfold own_take; rw [if_neg hm, if_pos ha504, if_neg hc511]) : ¬ ((own_match i21 j22 i24 i16 j1 i18) = (0 : Int32)))).1) ?_
  show Steps _ _ _ (T7.setTop (mkF m 500 #[s0, .val (.long j1), .second, s3, s4, s5, s6, s7, s8, s9, s10, s11, s12, .val (.ref o13), s14, s15, .val (.int i16), s17, .val (.int i18), .val (.int i19), s20, .val (.int i21), .val (.long j22), .second, .val (.int i24), .val (.ref o25), .val (.int i26), .val (.ref o27), s28, s29, s30, s31, s32, s33, s34] [])) _
  refine XS.aload X7.here hx rfl (hb hby at_500) rfl rfl ?_
  show Steps _ _ _ (T7.setTop (mkF m 502 #[s0, .val (.long j1), .second, s3, s4, s5, s6, s7, s8, s9, s10, s11, s12, .val (.ref o13), s14, s15, .val (.int i16), s17, .val (.int i18), .val (.int i19), s20, .val (.int i21), .val (.long j22), .second, .val (.int i24), .val (.ref o25), .val (.int i26), .val (.ref o27), s28, s29, s30, s31, s32, s33, s34] [(.ref o25)])) _
  refine XS.aload X7.here hx rfl (hb hby at_502) rfl rfl ?_
  show Steps _ _ _ (T7.setTop (mkF m 504 #[s0, .val (.long j1), .second, s3, s4, s5, s6, s7, s8, s9, s10, s11, s12, .val (.ref o13), s14, s15, .val (.int i16), s17, .val (.int i18), .val (.int i19), s20, .val (.int i21), .val (.long j22), .second, .val (.int i24), .val (.ref o25), .val (.int i26), .val (.ref o27), s28, s29, s30, s31, s32, s33, s34] [(.ref o13), (.ref o25)])) _
  refine Jvm.RoadKit.acmp (g := (mkF m 504 #[s0, .val (.long j1), .second, s3, s4, s5, s6, s7, s8, s9, s10, s11, s12, .val (.ref o13), s14, s15, .val (.int i16), s17, .val (.int i18), .val (.int i19), s20, .val (.int i21), .val (.long j22), .second, .val (.int i24), .val (.ref o25), .val (.int i26), .val (.ref o27), s28, s29, s30, s31, s32, s33, s34] [(.ref o13), (.ref o25)])) X7 hx rfl rfl rfl (pc0 := 504) (pc' := 507) (same := true) rfl (hb hby at_504) rfl (decide_eq_true (congrArg Value.ref ha504)) (by decide) (by decide) ?_
  show Steps _ _ _ (T7.setTop (mkF m 507 #[s0, .val (.long j1), .second, s3, s4, s5, s6, s7, s8, s9, s10, s11, s12, .val (.ref o13), s14, s15, .val (.int i16), s17, .val (.int i18), .val (.int i19), s20, .val (.int i21), .val (.long j22), .second, .val (.int i24), .val (.ref o25), .val (.int i26), .val (.ref o27), s28, s29, s30, s31, s32, s33, s34] [])) _
  refine XS.iload X7.here hx rfl (hb hby at_507) rfl ?_
  show Steps _ _ _ (T7.setTop (mkF m 509 #[s0, .val (.long j1), .second, s3, s4, s5, s6, s7, s8, s9, s10, s11, s12, .val (.ref o13), s14, s15, .val (.int i16), s17, .val (.int i18), .val (.int i19), s20, .val (.int i21), .val (.long j22), .second, .val (.int i24), .val (.ref o25), .val (.int i26), .val (.ref o27), s28, s29, s30, s31, s32, s33, s34] [(.int i26)])) _
  refine XS.iload X7.here hx rfl (hb hby at_509) rfl ?_
  show Steps _ _ _ (T7.setTop (mkF m 511 #[s0, .val (.long j1), .second, s3, s4, s5, s6, s7, s8, s9, s10, s11, s12, .val (.ref o13), s14, s15, .val (.int i16), s17, .val (.int i18), .val (.int i19), s20, .val (.int i21), .val (.long j22), .second, .val (.int i24), .val (.ref o25), .val (.int i26), .val (.ref o27), s28, s29, s30, s31, s32, s33, s34] [(.int i19), (.int i26)])) _
  refine XS.icmpNo X7.here hx rfl (hb hby at_511) rfl (flt hc511).2.2.1 ?_
  show Steps _ _ _ (T7.setTop (mkF m 514 #[s0, .val (.long j1), .second, s3, s4, s5, s6, s7, s8, s9, s10, s11, s12, .val (.ref o13), s14, s15, .val (.int i16), s17, .val (.int i18), .val (.int i19), s20, .val (.int i21), .val (.long j22), .second, .val (.int i24), .val (.ref o25), .val (.int i26), .val (.ref o27), s28, s29, s30, s31, s32, s33, s34] [])) _
  refine XS.iconst X7.here hx rfl (hb hby at_514) ?_
  show Steps _ _ _ (T7.setTop (mkF m 515 #[s0, .val (.long j1), .second, s3, s4, s5, s6, s7, s8, s9, s10, s11, s12, .val (.ref o13), s14, s15, .val (.int i16), s17, .val (.int i18), .val (.int i19), s20, .val (.int i21), .val (.long j22), .second, .val (.int i24), .val (.ref o25), .val (.int i26), .val (.ref o27), s28, s29, s30, s31, s32, s33, s34] [(.int (1 : Int32))])) _
  refine XS.goto X7.here hx rfl (pc0 := 515) (pc' := 519) rfl (hb hby at_515) (by decide) (by decide) ?_
  show Steps _ _ _ (T7.setTop (mkF m 519 #[s0, .val (.long j1), .second, s3, s4, s5, s6, s7, s8, s9, s10, s11, s12, .val (.ref o13), s14, s15, .val (.int i16), s17, .val (.int i18), .val (.int i19), s20, .val (.int i21), .val (.long j22), .second, .val (.int i24), .val (.ref o25), .val (.int i26), .val (.ref o27), s28, s29, s30, s31, s32, s33, s34] [(.int (1 : Int32))])) _
  refine XS.istore X7.here hx rfl (hb hby at_519) rfl (l' := #[s0, .val (.long j1), .second, s3, s4, s5, s6, s7, s8, s9, s10, s11, s12, .val (.ref o13), s14, s15, .val (.int i16), s17, .val (.int i18), .val (.int i19), s20, .val (.int i21), .val (.long j22), .second, .val (.int i24), .val (.ref o25), .val (.int i26), .val (.ref o27), s28, s29, s30, s31, .val (.int (1 : Int32)), s33, s34]) (os0_519_ffff hs32) ?_
  show Steps _ _ _ (T7.setTop (mkF m 521 #[s0, .val (.long j1), .second, s3, s4, s5, s6, s7, s8, s9, s10, s11, s12, .val (.ref o13), s14, s15, .val (.int i16), s17, .val (.int i18), .val (.int i19), s20, .val (.int i21), .val (.long j22), .second, .val (.int i24), .val (.ref o25), .val (.int i26), .val (.ref o27), s28, s29, s30, s31, .val (.int (1 : Int32)), s33, s34] [])) _
  refine XS.aload X7.here hx rfl (hb hby at_521) rfl rfl ?_
  show Steps _ _ _ (T7.setTop (mkF m 523 #[s0, .val (.long j1), .second, s3, s4, s5, s6, s7, s8, s9, s10, s11, s12, .val (.ref o13), s14, s15, .val (.int i16), s17, .val (.int i18), .val (.int i19), s20, .val (.int i21), .val (.long j22), .second, .val (.int i24), .val (.ref o25), .val (.int i26), .val (.ref o27), s28, s29, s30, s31, .val (.int (1 : Int32)), s33, s34] [(.ref o27)])) _
  refine XS.iload X7.here hx rfl (hb hby at_523) rfl ?_
  show Steps _ _ _ (T7.setTop (mkF m 525 #[s0, .val (.long j1), .second, s3, s4, s5, s6, s7, s8, s9, s10, s11, s12, .val (.ref o13), s14, s15, .val (.int i16), s17, .val (.int i18), .val (.int i19), s20, .val (.int i21), .val (.long j22), .second, .val (.int i24), .val (.ref o25), .val (.int i26), .val (.ref o27), s28, s29, s30, s31, .val (.int (1 : Int32)), s33, s34] [(.int i21), (.ref o27)])) _
  refine XS.lload X7.here hx rfl (hb hby at_525) rfl ?_
  show Steps _ _ _ (T7.setTop (mkF m 527 #[s0, .val (.long j1), .second, s3, s4, s5, s6, s7, s8, s9, s10, s11, s12, .val (.ref o13), s14, s15, .val (.int i16), s17, .val (.int i18), .val (.int i19), s20, .val (.int i21), .val (.long j22), .second, .val (.int i24), .val (.ref o25), .val (.int i26), .val (.ref o27), s28, s29, s30, s31, .val (.int (1 : Int32)), s33, s34] [(.long j22), (.int i21), (.ref o27)])) _
  refine XS.iload X7.here hx rfl (hb hby at_527) rfl ?_
  show Steps _ _ _ (T7.setTop (mkF m 529 #[s0, .val (.long j1), .second, s3, s4, s5, s6, s7, s8, s9, s10, s11, s12, .val (.ref o13), s14, s15, .val (.int i16), s17, .val (.int i18), .val (.int i19), s20, .val (.int i21), .val (.long j22), .second, .val (.int i24), .val (.ref o25), .val (.int i26), .val (.ref o27), s28, s29, s30, s31, .val (.int (1 : Int32)), s33, s34] [(.int i24), (.long j22), (.int i21), (.ref o27)])) _
  refine XS.aload X7.here hx rfl (hb hby at_529) rfl rfl ?_
  show Steps _ _ _ (T7.setTop (mkF m 531 #[s0, .val (.long j1), .second, s3, s4, s5, s6, s7, s8, s9, s10, s11, s12, .val (.ref o13), s14, s15, .val (.int i16), s17, .val (.int i18), .val (.int i19), s20, .val (.int i21), .val (.long j22), .second, .val (.int i24), .val (.ref o25), .val (.int i26), .val (.ref o27), s28, s29, s30, s31, .val (.int (1 : Int32)), s33, s34] [(.ref o25), (.int i24), (.long j22), (.int i21), (.ref o27)])) _
  refine XS.iload X7.here hx rfl (hb hby at_531) rfl ?_
  show Steps _ _ _ (T7.setTop (mkF m 533 #[s0, .val (.long j1), .second, s3, s4, s5, s6, s7, s8, s9, s10, s11, s12, .val (.ref o13), s14, s15, .val (.int i16), s17, .val (.int i18), .val (.int i19), s20, .val (.int i21), .val (.long j22), .second, .val (.int i24), .val (.ref o25), .val (.int i26), .val (.ref o27), s28, s29, s30, s31, .val (.int (1 : Int32)), s33, s34] [(.int i26), (.ref o25), (.int i24), (.long j22), (.int i21), (.ref o27)])) _
  refine st8.trans ?_
  show Steps _ _ _ (T8.setTop (mkF m 536 #[s0, .val (.long j1), .second, s3, s4, s5, s6, s7, s8, s9, s10, s11, s12, .val (.ref o13), s14, s15, .val (.int i16), s17, .val (.int i18), .val (.int i19), s20, .val (.int i21), .val (.long j22), .second, .val (.int i24), .val (.ref o25), .val (.int i26), .val (.ref o27), s28, s29, s30, s31, .val (.int (1 : Int32)), s33, s34] [(.int (own_take (own_match i21 j22 i24 i16 j1 i18) o25 o13 i26 i19))])) _
  refine XS.iload X8.here hx rfl (hb hby at_536) rfl ?_
  show Steps _ _ _ (T8.setTop (mkF m 538 #[s0, .val (.long j1), .second, s3, s4, s5, s6, s7, s8, s9, s10, s11, s12, .val (.ref o13), s14, s15, .val (.int i16), s17, .val (.int i18), .val (.int i19), s20, .val (.int i21), .val (.long j22), .second, .val (.int i24), .val (.ref o25), .val (.int i26), .val (.ref o27), s28, s29, s30, s31, .val (.int (1 : Int32)), s33, s34] [(.int (1 : Int32)), (.int (own_take (own_match i21 j22 i24 i16 j1 i18) o25 o13 i26 i19))])) _
  refine XS.icmpNo X8.here hx rfl (hb hby at_538) rfl (teq (by first | exact hm | (unfold own_take; rw [if_neg hm, if_pos ha504, if_neg hc511]) : (own_take (own_match i21 j22 i24 i16 j1 i18) o25 o13 i26 i19) = (1 : Int32))).2 ?_
  show Steps _ _ _ (T8.setTop (mkF m 541 #[s0, .val (.long j1), .second, s3, s4, s5, s6, s7, s8, s9, s10, s11, s12, .val (.ref o13), s14, s15, .val (.int i16), s17, .val (.int i18), .val (.int i19), s20, .val (.int i21), .val (.long j22), .second, .val (.int i24), .val (.ref o25), .val (.int i26), .val (.ref o27), s28, s29, s30, s31, .val (.int (1 : Int32)), s33, s34] [])) _
  refine XS.iconst X8.here hx rfl (hb hby at_541) ?_
  show Steps _ _ _ (T8.setTop (mkF m 542 #[s0, .val (.long j1), .second, s3, s4, s5, s6, s7, s8, s9, s10, s11, s12, .val (.ref o13), s14, s15, .val (.int i16), s17, .val (.int i18), .val (.int i19), s20, .val (.int i21), .val (.long j22), .second, .val (.int i24), .val (.ref o25), .val (.int i26), .val (.ref o27), s28, s29, s30, s31, .val (.int (1 : Int32)), s33, s34] [(.int (1 : Int32))])) _
  refine XS.goto X8.here hx rfl (pc0 := 542) (pc' := 546) rfl (hb hby at_542) (by decide) (by decide) ?_
  show Steps _ _ _ (T8.setTop (mkF m 546 #[s0, .val (.long j1), .second, s3, s4, s5, s6, s7, s8, s9, s10, s11, s12, .val (.ref o13), s14, s15, .val (.int i16), s17, .val (.int i18), .val (.int i19), s20, .val (.int i21), .val (.long j22), .second, .val (.int i24), .val (.ref o25), .val (.int i26), .val (.ref o27), s28, s29, s30, s31, .val (.int (1 : Int32)), s33, s34] [(.int (1 : Int32))])) _
  refine XS.istore X8.here hx rfl (hb hby at_546) rfl (l' := #[s0, .val (.long j1), .second, s3, s4, s5, s6, s7, s8, s9, s10, s11, s12, .val (.ref o13), s14, s15, .val (.int i16), s17, .val (.int i18), .val (.int i19), s20, .val (.int i21), .val (.long j22), .second, .val (.int i24), .val (.ref o25), .val (.int i26), .val (.ref o27), s28, s29, s30, s31, .val (.int (1 : Int32)), .val (.int (1 : Int32)), s34]) (os0_546_ffff hs33) ?_
  exact kt
theorem tk {v5 v6 v8 v11 : Value} (s0 : Slot) (j1 : Int64) (s3 s4 s5 s6 s7 s8 s9 s10 s11 s12 : Slot) (o13 : Addr) (s14 s15 : Slot) (i16 : Int32) (s17 : Slot) (i18 i19 : Int32) (s20 : Slot) (i21 : Int32) (j22 : Int64) (i24 : Int32) (o25 : Addr) (i26 : Int32) (o27 : Addr) (s28 s29 s30 s31 s32 s33 s34 : Slot)
    (X0 : Stand p l e room_1 s m args below meth c T0 locs 9 51) (hx : p.tables.exec = Jvm.exec) (hZ : Z.Warmed39 s.vm) (hw : ∀ d ∈ tables_1, d.before a0 Z = true) (hby : c.code = code) (hml : c.maxLocals = 35) (hown : s.vm.findClass own_s1 = some m.cls) (e0 : T0.heap = h0) (Z0 : n0 ≤ h0.size) (N0 : Fr n0 locs) (B : Br Z h0 o27 (.int (1 : Int32)) (.int i16) (.long j1) (.int i18) (.ref o13) v5 v6 (.int i19) v8 (.int (0 : Int32)) .null v11) (hs32 : One s32) (hs33 : One s33) :
    ∃ (T' : State) (L' : List Loc) (y32 : Int32), Stand p l e room_1 s m args below meth c T' L' 9 51 ∧ Fr n0 L' ∧ T'.heap = h0 ∧
      ∀ target, Steps p.tables e below (T'.setTop (mkF m 548 #[s0, .val (.long j1), .second, s3, s4, s5, s6, s7, s8, s9, s10, s11, s12, .val (.ref o13), s14, s15, .val (.int i16), s17, .val (.int i18), .val (.int i19), s20, .val (.int i21), .val (.long j22), .second, .val (.int i24), .val (.ref o25), .val (.int i26), .val (.ref o27), s28, s29, s30, s31, .val (.int y32), .val (.int (1 : Int32)), s34] [])) target → Steps p.tables e below (T0.setTop (mkF m 483 #[s0, .val (.long j1), .second, s3, s4, s5, s6, s7, s8, s9, s10, s11, s12, .val (.ref o13), s14, s15, .val (.int i16), s17, .val (.int i18), .val (.int i19), s20, .val (.int i21), .val (.long j22), .second, .val (.int i24), .val (.ref o25), .val (.int i26), .val (.ref o27), s28, s29, s30, s31, s32, s33, s34] [])) target := by
  by_cases h1 : (own_match i21 j22 i24 i16 j1 i18) = 0
  · obtain ⟨T1, L1, X1, N1, e1, st1⟩ := tn0_483_548_tf s0 j1 s3 s4 s5 s6 s7 s8 s9 s10 s11 s12 (.val (.ref o13)) s14 s15 i16 s17 i18 (.val (.int i19)) s20 i21 j22 i24 o25 i26 o27 s28 s29 s30 s31 s32 s33 s34 X0 hx hZ hw hby hml hown e0 Z0 N0 B h1 (by first | exact own_oneU | exact own_oneI | exact own_oneR | assumption) (by first | exact own_oneU | exact own_oneI | exact own_oneR | assumption)
    exact ⟨T1, L1, (0 : Int32), X1, N1, e1, st1⟩
  by_cases h2 : o25 = o13
  · by_cases h3 : i19 < i26
    · obtain ⟨T1, L1, X1, N1, e1, st1⟩ := tn0_483_548_fftf s0 j1 s3 s4 s5 s6 s7 s8 s9 s10 s11 s12 o13 s14 s15 i16 s17 i18 i19 s20 i21 j22 i24 o25 i26 o27 s28 s29 s30 s31 s32 s33 s34 X0 hx hZ hw hby hml hown e0 Z0 N0 B h1 (by first | exact own_oneU | exact own_oneI | exact own_oneR | assumption) (by first | exact own_oneU | exact own_oneI | exact own_oneR | assumption) h2 h3
      exact ⟨T1, L1, (0 : Int32), X1, N1, e1, st1⟩
    · obtain ⟨T1, L1, X1, N1, e1, st1⟩ := tn0_483_548_ffff s0 j1 s3 s4 s5 s6 s7 s8 s9 s10 s11 s12 o13 s14 s15 i16 s17 i18 i19 s20 i21 j22 i24 o25 i26 o27 s28 s29 s30 s31 s32 s33 s34 X0 hx hZ hw hby hml hown e0 Z0 N0 B h1 (by first | exact own_oneU | exact own_oneI | exact own_oneR | assumption) (by first | exact own_oneU | exact own_oneI | exact own_oneR | assumption) h2 h3
      exact ⟨T1, L1, (1 : Int32), X1, N1, e1, st1⟩
  · obtain ⟨T1, L1, X1, N1, e1, st1⟩ := tn0_483_548_ftf s0 j1 s3 s4 s5 s6 s7 s8 s9 s10 s11 s12 o13 s14 s15 i16 s17 i18 (.val (.int i19)) s20 i21 j22 i24 o25 i26 o27 s28 s29 s30 s31 s32 s33 s34 X0 hx hZ hw hby hml hown e0 Z0 N0 B h1 (by first | exact own_oneU | exact own_oneI | exact own_oneR | assumption) (by first | exact own_oneU | exact own_oneI | exact own_oneR | assumption) h2
    exact ⟨T1, L1, (0 : Int32), X1, N1, e1, st1⟩
theorem os0_574 {s0 s1 s2 s3 s4 s5 : Slot} {z6 : Value} {s7 s8 s9 s10 s11 s12 s13 s14 s15 s16 s17 s18 s19 s20 s21 s22 s23 s24 s25 s26 : Slot} {z27 : Value} {s28 s29 s30 s31 s32 s33 s34 : Slot} {v : Int32} (h : One s34) : storeLocals #[s0, s1, s2, s3, s4, s5, .val z6, s7, s8, s9, s10, s11, s12, s13, s14, s15, s16, s17, s18, s19, s20, s21, s22, s23, s24, s25, s26, .val z27, s28, s29, s30, s31, s32, s33, s34] 34 (.int v) = some #[s0, s1, s2, s3, s4, s5, .val z6, s7, s8, s9, s10, s11, s12, s13, s14, s15, s16, s17, s18, s19, s20, s21, s22, s23, s24, s25, s26, .val z27, s28, s29, s30, s31, s32, s33, .val (.int v)] := by
  rcases h with rfl | ⟨w, rfl, hw⟩
  · rfl
  · cases w <;> first | rfl | (simp [Value.category] at hw)
theorem tn0_548_576_tf {v0 v1 v2 v3 v4 v5 v6 v7 v9 v10 v11 : Value} (s0 s1 s2 s3 s4 s5 : Slot) (i6 : Int32) (s7 s8 s9 s10 s11 s12 s13 s14 s15 s16 s17 s18 s19 s20 s21 s22 s23 s24 s25 s26 : Slot) (o27 : Addr) (s28 s29 s30 s31 s32 s33 s34 : Slot)
    (X0 : Stand p l e room_1 s m args below meth c T0 locs 9 51) (hx : p.tables.exec = Jvm.exec) (hZ : Z.Warmed39 s.vm) (hw : ∀ d ∈ tables_1, d.before a0 Z = true) (hby : c.code = code) (hml : c.maxLocals = 35) (hown : s.vm.findClass own_s1 = some m.cls) (e0 : T0.heap = h0) (Z0 : n0 ≤ h0.size) (N0 : Fr n0 locs) (B : Br Z h0 o27 v0 v1 v2 v3 v4 v5 v6 v7 (.int (-1 : Int32)) v9 v10 v11) (g : n0 ≤ o27) (hs34 : One s34) (hc558 : i6 = (-1 : Int32)) :
    ∃ (T' : State) (L' : List Loc), Stand p l e room_1 s m args below meth c T' L' 9 51 ∧ Fr n0 L' ∧ 
      ∀ target, Steps p.tables e below (T'.setTop (mkF m 576 #[s0, s1, s2, s3, s4, s5, .val (.int i6), s7, s8, s9, s10, s11, s12, s13, s14, s15, s16, s17, s18, s19, s20, s21, s22, s23, s24, s25, s26, .val (.ref o27), s28, s29, s30, s31, s32, s33, .val (.int (1 : Int32))] [])) target → Steps p.tables e below (T0.setTop (mkF m 548 #[s0, s1, s2, s3, s4, s5, .val (.int i6), s7, s8, s9, s10, s11, s12, s13, s14, s15, s16, s17, s18, s19, s20, s21, s22, s23, s24, s25, s26, .val (.ref o27), s28, s29, s30, s31, s32, s33, s34] [])) target := by
  have E_o27 : Exa Z h0 o27 own_s0 := B.1
  obtain ⟨cq7, kq7, q7a, q7b, q7c⟩ := isOf hZ e0 E_o27
  obtain ⟨_, _, ⟨T7, L7, k7, n7⟩, -, X7, ⟨Lc7, hQ7, l7, y7, z7⟩, st7⟩ := X0.virtualBack hx (y := own_n11) (z := own_n11) hown (mvT hZ (own_w hw 90 rfl)) (mvT hZ (own_w hw 91 rfl)) (notFace_of_selects (args := #[]) (mvT hZ (own_w hw 93 rfl))) (mvT hZ (own_w hw 93 rfl)) (mvT hZ (own_w hw 92 rfl)) (by decide) (backOf (W := 0) (rm13 l Z a0 hw [] o27 i6 (-1 : Int32) h0 n0 Z0 v0 v1 v2 v3 v4 v5 v6 v7 v9 v10 v11 B g) hZ (own_w hw 94 rfl) (own_w hw 12 rfl) (by decide) (by decide)) q7a q7c (g := (mkF m 552 #[s0, s1, s2, s3, s4, s5, .val (.int i6), s7, s8, s9, s10, s11, s12, s13, s14, s15, s16, s17, s18, s19, s20, s21, s22, s23, s24, s25, s26, .val (.ref o27), s28, s29, s30, s31, s32, s33, s34] [(.int i6), (.ref o27)])) rfl (by rw [hml]; rfl) (Steps.refl _) (argsL := [(.int i6)]) (rest := []) (lenOf pd_0_6 rfl) rfl (by show 2 * 0 + _ ≤ _; exact Nat.le_of_eq rfl) (hb hby at_552) (fun _ _ => ⟨rfl, e0, (by decide : 9 + 0 ≤ _), (by decide : 51 + 0 ≤ _)⟩)
  dsimp only [Pt.U, Pt.locs, Pt.cells, Pt.slots] at X7 l7 y7 z7 st7 hQ7
  subst l7 y7 z7
  obtain ⟨rfl, N7q, Kq, Bq⟩ := hQ7
  have N7 := Fr.app N0 N7q
  refine ⟨T7, _, X7, N7, fun target kt => ?_⟩
  show Steps _ _ _ (T0.setTop (mkF m 548 #[s0, s1, s2, s3, s4, s5, .val (.int i6), s7, s8, s9, s10, s11, s12, s13, s14, s15, s16, s17, s18, s19, s20, s21, s22, s23, s24, s25, s26, .val (.ref o27), s28, s29, s30, s31, s32, s33, s34] [])) _
  refine XS.aload X0.here hx rfl (hb hby at_548) rfl rfl ?_
  show Steps _ _ _ (T0.setTop (mkF m 550 #[s0, s1, s2, s3, s4, s5, .val (.int i6), s7, s8, s9, s10, s11, s12, s13, s14, s15, s16, s17, s18, s19, s20, s21, s22, s23, s24, s25, s26, .val (.ref o27), s28, s29, s30, s31, s32, s33, s34] [(.ref o27)])) _
  refine XS.iload X0.here hx rfl (hb hby at_550) rfl ?_
  show Steps _ _ _ (T0.setTop (mkF m 552 #[s0, s1, s2, s3, s4, s5, .val (.int i6), s7, s8, s9, s10, s11, s12, s13, s14, s15, s16, s17, s18, s19, s20, s21, s22, s23, s24, s25, s26, .val (.ref o27), s28, s29, s30, s31, s32, s33, s34] [(.int i6), (.ref o27)])) _
  refine st7.trans ?_
  show Steps _ _ _ (T7.setTop (mkF m 555 #[s0, s1, s2, s3, s4, s5, .val (.int i6), s7, s8, s9, s10, s11, s12, s13, s14, s15, s16, s17, s18, s19, s20, s21, s22, s23, s24, s25, s26, .val (.ref o27), s28, s29, s30, s31, s32, s33, s34] [(.int (own_ask i6 (-1 : Int32)))])) _
  refine XS.iload X7.here hx rfl (hb hby at_555) rfl ?_
  show Steps _ _ _ (T7.setTop (mkF m 557 #[s0, s1, s2, s3, s4, s5, .val (.int i6), s7, s8, s9, s10, s11, s12, s13, s14, s15, s16, s17, s18, s19, s20, s21, s22, s23, s24, s25, s26, .val (.ref o27), s28, s29, s30, s31, s32, s33, s34] [(.int i6), (.int (own_ask i6 (-1 : Int32)))])) _
  refine XS.iconst X7.here hx rfl (hb hby at_557) ?_
  show Steps _ _ _ (T7.setTop (mkF m 558 #[s0, s1, s2, s3, s4, s5, .val (.int i6), s7, s8, s9, s10, s11, s12, s13, s14, s15, s16, s17, s18, s19, s20, s21, s22, s23, s24, s25, s26, .val (.ref o27), s28, s29, s30, s31, s32, s33, s34] [(.int (-1 : Int32)), (.int i6), (.int (own_ask i6 (-1 : Int32)))])) _
  refine XS.icmpYes X7.here hx rfl (pc0 := 558) (pc' := 565) rfl (hb hby at_558) rfl (teq hc558).1 (by decide) (by decide) ?_
  show Steps _ _ _ (T7.setTop (mkF m 565 #[s0, s1, s2, s3, s4, s5, .val (.int i6), s7, s8, s9, s10, s11, s12, s13, s14, s15, s16, s17, s18, s19, s20, s21, s22, s23, s24, s25, s26, .val (.ref o27), s28, s29, s30, s31, s32, s33, s34] [(.int (own_ask i6 (-1 : Int32)))])) _
  refine XS.iconst X7.here hx rfl (hb hby at_565) ?_
  show Steps _ _ _ (T7.setTop (mkF m 566 #[s0, s1, s2, s3, s4, s5, .val (.int i6), s7, s8, s9, s10, s11, s12, s13, s14, s15, s16, s17, s18, s19, s20, s21, s22, s23, s24, s25, s26, .val (.ref o27), s28, s29, s30, s31, s32, s33, s34] [(.int (0 : Int32)), (.int (own_ask i6 (-1 : Int32)))])) _
  refine XS.icmpNo X7.here hx rfl (hb hby at_566) rfl (teq (by unfold own_ask; rw [if_pos hc558] : (own_ask i6 (-1 : Int32)) = (0 : Int32))).2 ?_
  show Steps _ _ _ (T7.setTop (mkF m 569 #[s0, s1, s2, s3, s4, s5, .val (.int i6), s7, s8, s9, s10, s11, s12, s13, s14, s15, s16, s17, s18, s19, s20, s21, s22, s23, s24, s25, s26, .val (.ref o27), s28, s29, s30, s31, s32, s33, s34] [])) _
  refine XS.iconst X7.here hx rfl (hb hby at_569) ?_
  show Steps _ _ _ (T7.setTop (mkF m 570 #[s0, s1, s2, s3, s4, s5, .val (.int i6), s7, s8, s9, s10, s11, s12, s13, s14, s15, s16, s17, s18, s19, s20, s21, s22, s23, s24, s25, s26, .val (.ref o27), s28, s29, s30, s31, s32, s33, s34] [(.int (1 : Int32))])) _
  refine XS.goto X7.here hx rfl (pc0 := 570) (pc' := 574) rfl (hb hby at_570) (by decide) (by decide) ?_
  show Steps _ _ _ (T7.setTop (mkF m 574 #[s0, s1, s2, s3, s4, s5, .val (.int i6), s7, s8, s9, s10, s11, s12, s13, s14, s15, s16, s17, s18, s19, s20, s21, s22, s23, s24, s25, s26, .val (.ref o27), s28, s29, s30, s31, s32, s33, s34] [(.int (1 : Int32))])) _
  refine XS.istore X7.here hx rfl (hb hby at_574) rfl (l' := #[s0, s1, s2, s3, s4, s5, .val (.int i6), s7, s8, s9, s10, s11, s12, s13, s14, s15, s16, s17, s18, s19, s20, s21, s22, s23, s24, s25, s26, .val (.ref o27), s28, s29, s30, s31, s32, s33, .val (.int (1 : Int32))]) (os0_574 hs34) ?_
  exact kt
theorem tn0_548_576_ff {v0 v1 v2 v3 v4 v5 v6 v7 v9 v10 v11 : Value} (s0 s1 s2 s3 s4 s5 : Slot) (i6 : Int32) (s7 s8 s9 s10 s11 s12 s13 s14 s15 s16 s17 s18 s19 s20 s21 s22 s23 s24 s25 s26 : Slot) (o27 : Addr) (s28 s29 s30 s31 s32 s33 s34 : Slot)
    (X0 : Stand p l e room_1 s m args below meth c T0 locs 9 51) (hx : p.tables.exec = Jvm.exec) (hZ : Z.Warmed39 s.vm) (hw : ∀ d ∈ tables_1, d.before a0 Z = true) (hby : c.code = code) (hml : c.maxLocals = 35) (hown : s.vm.findClass own_s1 = some m.cls) (e0 : T0.heap = h0) (Z0 : n0 ≤ h0.size) (N0 : Fr n0 locs) (B : Br Z h0 o27 v0 v1 v2 v3 v4 v5 v6 v7 (.int (-1 : Int32)) v9 v10 v11) (g : n0 ≤ o27) (hs34 : One s34) (hc558 : ¬ (i6 = (-1 : Int32))) :
    ∃ (T' : State) (L' : List Loc), Stand p l e room_1 s m args below meth c T' L' 9 51 ∧ Fr n0 L' ∧ 
      ∀ target, Steps p.tables e below (T'.setTop (mkF m 576 #[s0, s1, s2, s3, s4, s5, .val (.int i6), s7, s8, s9, s10, s11, s12, s13, s14, s15, s16, s17, s18, s19, s20, s21, s22, s23, s24, s25, s26, .val (.ref o27), s28, s29, s30, s31, s32, s33, .val (.int (1 : Int32))] [])) target → Steps p.tables e below (T0.setTop (mkF m 548 #[s0, s1, s2, s3, s4, s5, .val (.int i6), s7, s8, s9, s10, s11, s12, s13, s14, s15, s16, s17, s18, s19, s20, s21, s22, s23, s24, s25, s26, .val (.ref o27), s28, s29, s30, s31, s32, s33, s34] [])) target := by
  have E_o27 : Exa Z h0 o27 own_s0 := B.1
  obtain ⟨cq7, kq7, q7a, q7b, q7c⟩ := isOf hZ e0 E_o27
  obtain ⟨_, _, ⟨T7, L7, k7, n7⟩, -, X7, ⟨Lc7, hQ7, l7, y7, z7⟩, st7⟩ := X0.virtualBack hx (y := own_n11) (z := own_n11) hown (mvT hZ (own_w hw 90 rfl)) (mvT hZ (own_w hw 91 rfl)) (notFace_of_selects (args := #[]) (mvT hZ (own_w hw 93 rfl))) (mvT hZ (own_w hw 93 rfl)) (mvT hZ (own_w hw 92 rfl)) (by decide) (backOf (W := 0) (rm13 l Z a0 hw [] o27 i6 (-1 : Int32) h0 n0 Z0 v0 v1 v2 v3 v4 v5 v6 v7 v9 v10 v11 B g) hZ (own_w hw 94 rfl) (own_w hw 12 rfl) (by decide) (by decide)) q7a q7c (g := (mkF m 552 #[s0, s1, s2, s3, s4, s5, .val (.int i6), s7, s8, s9, s10, s11, s12, s13, s14, s15, s16, s17, s18, s19, s20, s21, s22, s23, s24, s25, s26, .val (.ref o27), s28, s29, s30, s31, s32, s33, s34] [(.int i6), (.ref o27)])) rfl (by rw [hml]; rfl) (Steps.refl _) (argsL := [(.int i6)]) (rest := []) (lenOf pd_0_6 rfl) rfl (by show 2 * 0 + _ ≤ _; exact Nat.le_of_eq rfl) (hb hby at_552) (fun _ _ => ⟨rfl, e0, (by decide : 9 + 0 ≤ _), (by decide : 51 + 0 ≤ _)⟩)
  dsimp only [Pt.U, Pt.locs, Pt.cells, Pt.slots] at X7 l7 y7 z7 st7 hQ7
  subst l7 y7 z7
  obtain ⟨rfl, N7q, Kq, Bq⟩ := hQ7
  have N7 := Fr.app N0 N7q
  refine ⟨T7, _, X7, N7, fun target kt => ?_⟩
  show Steps _ _ _ (T0.setTop (mkF m 548 #[s0, s1, s2, s3, s4, s5, .val (.int i6), s7, s8, s9, s10, s11, s12, s13, s14, s15, s16, s17, s18, s19, s20, s21, s22, s23, s24, s25, s26, .val (.ref o27), s28, s29, s30, s31, s32, s33, s34] [])) _
  refine XS.aload X0.here hx rfl (hb hby at_548) rfl rfl ?_
  show Steps _ _ _ (T0.setTop (mkF m 550 #[s0, s1, s2, s3, s4, s5, .val (.int i6), s7, s8, s9, s10, s11, s12, s13, s14, s15, s16, s17, s18, s19, s20, s21, s22, s23, s24, s25, s26, .val (.ref o27), s28, s29, s30, s31, s32, s33, s34] [(.ref o27)])) _
  refine XS.iload X0.here hx rfl (hb hby at_550) rfl ?_
  show Steps _ _ _ (T0.setTop (mkF m 552 #[s0, s1, s2, s3, s4, s5, .val (.int i6), s7, s8, s9, s10, s11, s12, s13, s14, s15, s16, s17, s18, s19, s20, s21, s22, s23, s24, s25, s26, .val (.ref o27), s28, s29, s30, s31, s32, s33, s34] [(.int i6), (.ref o27)])) _
  refine st7.trans ?_
  show Steps _ _ _ (T7.setTop (mkF m 555 #[s0, s1, s2, s3, s4, s5, .val (.int i6), s7, s8, s9, s10, s11, s12, s13, s14, s15, s16, s17, s18, s19, s20, s21, s22, s23, s24, s25, s26, .val (.ref o27), s28, s29, s30, s31, s32, s33, s34] [(.int (own_ask i6 (-1 : Int32)))])) _
  refine XS.iload X7.here hx rfl (hb hby at_555) rfl ?_
  show Steps _ _ _ (T7.setTop (mkF m 557 #[s0, s1, s2, s3, s4, s5, .val (.int i6), s7, s8, s9, s10, s11, s12, s13, s14, s15, s16, s17, s18, s19, s20, s21, s22, s23, s24, s25, s26, .val (.ref o27), s28, s29, s30, s31, s32, s33, s34] [(.int i6), (.int (own_ask i6 (-1 : Int32)))])) _
  refine XS.iconst X7.here hx rfl (hb hby at_557) ?_
  show Steps _ _ _ (T7.setTop (mkF m 558 #[s0, s1, s2, s3, s4, s5, .val (.int i6), s7, s8, s9, s10, s11, s12, s13, s14, s15, s16, s17, s18, s19, s20, s21, s22, s23, s24, s25, s26, .val (.ref o27), s28, s29, s30, s31, s32, s33, s34] [(.int (-1 : Int32)), (.int i6), (.int (own_ask i6 (-1 : Int32)))])) _
  refine XS.icmpNo X7.here hx rfl (hb hby at_558) rfl (feq hc558).1 ?_
  show Steps _ _ _ (T7.setTop (mkF m 561 #[s0, s1, s2, s3, s4, s5, .val (.int i6), s7, s8, s9, s10, s11, s12, s13, s14, s15, s16, s17, s18, s19, s20, s21, s22, s23, s24, s25, s26, .val (.ref o27), s28, s29, s30, s31, s32, s33, s34] [(.int (own_ask i6 (-1 : Int32)))])) _
  refine XS.iconst X7.here hx rfl (hb hby at_561) ?_
  show Steps _ _ _ (T7.setTop (mkF m 562 #[s0, s1, s2, s3, s4, s5, .val (.int i6), s7, s8, s9, s10, s11, s12, s13, s14, s15, s16, s17, s18, s19, s20, s21, s22, s23, s24, s25, s26, .val (.ref o27), s28, s29, s30, s31, s32, s33, s34] [(.int (1 : Int32)), (.int (own_ask i6 (-1 : Int32)))])) _
  refine XS.goto X7.here hx rfl (pc0 := 562) (pc' := 566) rfl (hb hby at_562) (by decide) (by decide) ?_
  show Steps _ _ _ (T7.setTop (mkF m 566 #[s0, s1, s2, s3, s4, s5, .val (.int i6), s7, s8, s9, s10, s11, s12, s13, s14, s15, s16, s17, s18, s19, s20, s21, s22, s23, s24, s25, s26, .val (.ref o27), s28, s29, s30, s31, s32, s33, s34] [(.int (1 : Int32)), (.int (own_ask i6 (-1 : Int32)))])) _
  refine XS.icmpNo X7.here hx rfl (hb hby at_566) rfl (teq (by unfold own_ask; rw [if_neg hc558] : (own_ask i6 (-1 : Int32)) = (1 : Int32))).2 ?_
  show Steps _ _ _ (T7.setTop (mkF m 569 #[s0, s1, s2, s3, s4, s5, .val (.int i6), s7, s8, s9, s10, s11, s12, s13, s14, s15, s16, s17, s18, s19, s20, s21, s22, s23, s24, s25, s26, .val (.ref o27), s28, s29, s30, s31, s32, s33, s34] [])) _
  refine XS.iconst X7.here hx rfl (hb hby at_569) ?_
  show Steps _ _ _ (T7.setTop (mkF m 570 #[s0, s1, s2, s3, s4, s5, .val (.int i6), s7, s8, s9, s10, s11, s12, s13, s14, s15, s16, s17, s18, s19, s20, s21, s22, s23, s24, s25, s26, .val (.ref o27), s28, s29, s30, s31, s32, s33, s34] [(.int (1 : Int32))])) _
  refine XS.goto X7.here hx rfl (pc0 := 570) (pc' := 574) rfl (hb hby at_570) (by decide) (by decide) ?_
  show Steps _ _ _ (T7.setTop (mkF m 574 #[s0, s1, s2, s3, s4, s5, .val (.int i6), s7, s8, s9, s10, s11, s12, s13, s14, s15, s16, s17, s18, s19, s20, s21, s22, s23, s24, s25, s26, .val (.ref o27), s28, s29, s30, s31, s32, s33, s34] [(.int (1 : Int32))])) _
  refine XS.istore X7.here hx rfl (hb hby at_574) rfl (l' := #[s0, s1, s2, s3, s4, s5, .val (.int i6), s7, s8, s9, s10, s11, s12, s13, s14, s15, s16, s17, s18, s19, s20, s21, s22, s23, s24, s25, s26, .val (.ref o27), s28, s29, s30, s31, s32, s33, .val (.int (1 : Int32))]) (os0_574 hs34) ?_
  exact kt
theorem aw {v0 v1 v2 v3 v4 v5 v6 v7 v9 v10 v11 : Value} (s0 s1 s2 s3 s4 s5 : Slot) (i6 : Int32) (s7 s8 s9 s10 s11 s12 s13 s14 s15 s16 s17 s18 s19 s20 s21 s22 s23 s24 s25 s26 : Slot) (o27 : Addr) (s28 s29 s30 s31 s32 s33 s34 : Slot)
    (X0 : Stand p l e room_1 s m args below meth c T0 locs 9 51) (hx : p.tables.exec = Jvm.exec) (hZ : Z.Warmed39 s.vm) (hw : ∀ d ∈ tables_1, d.before a0 Z = true) (hby : c.code = code) (hml : c.maxLocals = 35) (hown : s.vm.findClass own_s1 = some m.cls) (e0 : T0.heap = h0) (Z0 : n0 ≤ h0.size) (N0 : Fr n0 locs) (B : Br Z h0 o27 v0 v1 v2 v3 v4 v5 v6 v7 (.int (-1 : Int32)) v9 v10 v11) (g : n0 ≤ o27) (hs34 : One s34) :
    ∃ (T' : State) (L' : List Loc), Stand p l e room_1 s m args below meth c T' L' 9 51 ∧ Fr n0 L' ∧ 
      ∀ target, Steps p.tables e below (T'.setTop (mkF m 576 #[s0, s1, s2, s3, s4, s5, .val (.int i6), s7, s8, s9, s10, s11, s12, s13, s14, s15, s16, s17, s18, s19, s20, s21, s22, s23, s24, s25, s26, .val (.ref o27), s28, s29, s30, s31, s32, s33, .val (.int (1 : Int32))] [])) target → Steps p.tables e below (T0.setTop (mkF m 548 #[s0, s1, s2, s3, s4, s5, .val (.int i6), s7, s8, s9, s10, s11, s12, s13, s14, s15, s16, s17, s18, s19, s20, s21, s22, s23, s24, s25, s26, .val (.ref o27), s28, s29, s30, s31, s32, s33, s34] [])) target := by
  by_cases h1 : i6 = (-1 : Int32)
  · exact tn0_548_576_tf s0 s1 s2 s3 s4 s5 i6 s7 s8 s9 s10 s11 s12 s13 s14 s15 s16 s17 s18 s19 s20 s21 s22 s23 s24 s25 s26 o27 s28 s29 s30 s31 s32 s33 s34 X0 hx hZ hw hby hml hown e0 Z0 N0 B g (by first | exact own_oneU | exact own_oneI | exact own_oneR | assumption) h1
  · exact tn0_548_576_ff s0 s1 s2 s3 s4 s5 i6 s7 s8 s9 s10 s11 s12 s13 s14 s15 s16 s17 s18 s19 s20 s21 s22 s23 s24 s25 s26 o27 s28 s29 s30 s31 s32 s33 s34 X0 hx hZ hw hby hml hown e0 Z0 N0 B g (by first | exact own_oneU | exact own_oneI | exact own_oneR | assumption) h1
theorem tn0_576_606_x (s0 s1 s2 s3 s4 s5 s6 s7 s8 s9 s10 s11 s12 s13 s14 s15 s16 s17 s18 s19 s20 s21 s22 s23 s24 s25 s26 s27 s28 : Slot) (i29 i30 i31 : Int32) (s32 : Slot) (i33 i34 : Int32)
    (X0 : Stand p l e R s m args below meth c T0 locs cells slots) (hx : p.tables.exec = Jvm.exec) (hZ : Z.Warmed39 s.vm) (hw : ∀ d ∈ tables_1, d.before a0 Z = true) (hby : c.code = code) (hml : c.maxLocals = 35) (hown : s.vm.findClass own_s1 = some m.cls) (e0 : T0.heap = h0) (hc578 : ¬ (i29 = (0 : Int32))) (hc583 : ¬ (i30 = (0 : Int32))) (hc588 : ¬ (i31 = (0 : Int32))) (hc593 : ¬ (i33 = (0 : Int32))) (hc598 : ¬ (i34 = (0 : Int32))) :
    ∃ (T' : State), Stand p l e R s m args below meth c T' locs cells slots ∧ T'.heap = h0 ∧
      ∀ target, Steps p.tables e below (T'.setTop (mkF m 606 #[s0, s1, s2, s3, s4, s5, s6, s7, s8, s9, s10, s11, s12, s13, s14, s15, s16, s17, s18, s19, s20, s21, s22, s23, s24, s25, s26, s27, s28, .val (.int i29), .val (.int i30), .val (.int i31), s32, .val (.int i33), .val (.int i34)] [(.int (1 : Int32))])) target → Steps p.tables e below (T0.setTop (mkF m 576 #[s0, s1, s2, s3, s4, s5, s6, s7, s8, s9, s10, s11, s12, s13, s14, s15, s16, s17, s18, s19, s20, s21, s22, s23, s24, s25, s26, s27, s28, .val (.int i29), .val (.int i30), .val (.int i31), s32, .val (.int i33), .val (.int i34)] [])) target := by
  refine ⟨T0, X0, e0, fun target kt => ?_⟩
  show Steps _ _ _ (T0.setTop (mkF m 576 #[s0, s1, s2, s3, s4, s5, s6, s7, s8, s9, s10, s11, s12, s13, s14, s15, s16, s17, s18, s19, s20, s21, s22, s23, s24, s25, s26, s27, s28, .val (.int i29), .val (.int i30), .val (.int i31), s32, .val (.int i33), .val (.int i34)] [])) _
  refine XS.iload X0.here hx rfl (hb hby at_576) rfl ?_
  show Steps _ _ _ (T0.setTop (mkF m 578 #[s0, s1, s2, s3, s4, s5, s6, s7, s8, s9, s10, s11, s12, s13, s14, s15, s16, s17, s18, s19, s20, s21, s22, s23, s24, s25, s26, s27, s28, .val (.int i29), .val (.int i30), .val (.int i31), s32, .val (.int i33), .val (.int i34)] [(.int i29)])) _
  refine XS.ifNo X0.here hx rfl (hb hby at_578) rfl ((if0 _ _).trans (feq hc578).1) ?_
  show Steps _ _ _ (T0.setTop (mkF m 581 #[s0, s1, s2, s3, s4, s5, s6, s7, s8, s9, s10, s11, s12, s13, s14, s15, s16, s17, s18, s19, s20, s21, s22, s23, s24, s25, s26, s27, s28, .val (.int i29), .val (.int i30), .val (.int i31), s32, .val (.int i33), .val (.int i34)] [])) _
  refine XS.iload X0.here hx rfl (hb hby at_581) rfl ?_
  show Steps _ _ _ (T0.setTop (mkF m 583 #[s0, s1, s2, s3, s4, s5, s6, s7, s8, s9, s10, s11, s12, s13, s14, s15, s16, s17, s18, s19, s20, s21, s22, s23, s24, s25, s26, s27, s28, .val (.int i29), .val (.int i30), .val (.int i31), s32, .val (.int i33), .val (.int i34)] [(.int i30)])) _
  refine XS.ifNo X0.here hx rfl (hb hby at_583) rfl ((if0 _ _).trans (feq hc583).1) ?_
  show Steps _ _ _ (T0.setTop (mkF m 586 #[s0, s1, s2, s3, s4, s5, s6, s7, s8, s9, s10, s11, s12, s13, s14, s15, s16, s17, s18, s19, s20, s21, s22, s23, s24, s25, s26, s27, s28, .val (.int i29), .val (.int i30), .val (.int i31), s32, .val (.int i33), .val (.int i34)] [])) _
  refine XS.iload X0.here hx rfl (hb hby at_586) rfl ?_
  show Steps _ _ _ (T0.setTop (mkF m 588 #[s0, s1, s2, s3, s4, s5, s6, s7, s8, s9, s10, s11, s12, s13, s14, s15, s16, s17, s18, s19, s20, s21, s22, s23, s24, s25, s26, s27, s28, .val (.int i29), .val (.int i30), .val (.int i31), s32, .val (.int i33), .val (.int i34)] [(.int i31)])) _
  refine XS.ifNo X0.here hx rfl (hb hby at_588) rfl ((if0 _ _).trans (feq hc588).1) ?_
  show Steps _ _ _ (T0.setTop (mkF m 591 #[s0, s1, s2, s3, s4, s5, s6, s7, s8, s9, s10, s11, s12, s13, s14, s15, s16, s17, s18, s19, s20, s21, s22, s23, s24, s25, s26, s27, s28, .val (.int i29), .val (.int i30), .val (.int i31), s32, .val (.int i33), .val (.int i34)] [])) _
  refine XS.iload X0.here hx rfl (hb hby at_591) rfl ?_
  show Steps _ _ _ (T0.setTop (mkF m 593 #[s0, s1, s2, s3, s4, s5, s6, s7, s8, s9, s10, s11, s12, s13, s14, s15, s16, s17, s18, s19, s20, s21, s22, s23, s24, s25, s26, s27, s28, .val (.int i29), .val (.int i30), .val (.int i31), s32, .val (.int i33), .val (.int i34)] [(.int i33)])) _
  refine XS.ifNo X0.here hx rfl (hb hby at_593) rfl ((if0 _ _).trans (feq hc593).1) ?_
  show Steps _ _ _ (T0.setTop (mkF m 596 #[s0, s1, s2, s3, s4, s5, s6, s7, s8, s9, s10, s11, s12, s13, s14, s15, s16, s17, s18, s19, s20, s21, s22, s23, s24, s25, s26, s27, s28, .val (.int i29), .val (.int i30), .val (.int i31), s32, .val (.int i33), .val (.int i34)] [])) _
  refine XS.iload X0.here hx rfl (hb hby at_596) rfl ?_
  show Steps _ _ _ (T0.setTop (mkF m 598 #[s0, s1, s2, s3, s4, s5, s6, s7, s8, s9, s10, s11, s12, s13, s14, s15, s16, s17, s18, s19, s20, s21, s22, s23, s24, s25, s26, s27, s28, .val (.int i29), .val (.int i30), .val (.int i31), s32, .val (.int i33), .val (.int i34)] [(.int i34)])) _
  refine XS.ifNo X0.here hx rfl (hb hby at_598) rfl ((if0 _ _).trans (feq hc598).1) ?_
  show Steps _ _ _ (T0.setTop (mkF m 601 #[s0, s1, s2, s3, s4, s5, s6, s7, s8, s9, s10, s11, s12, s13, s14, s15, s16, s17, s18, s19, s20, s21, s22, s23, s24, s25, s26, s27, s28, .val (.int i29), .val (.int i30), .val (.int i31), s32, .val (.int i33), .val (.int i34)] [])) _
  refine XS.iconst X0.here hx rfl (hb hby at_601) ?_
  show Steps _ _ _ (T0.setTop (mkF m 602 #[s0, s1, s2, s3, s4, s5, s6, s7, s8, s9, s10, s11, s12, s13, s14, s15, s16, s17, s18, s19, s20, s21, s22, s23, s24, s25, s26, s27, s28, .val (.int i29), .val (.int i30), .val (.int i31), s32, .val (.int i33), .val (.int i34)] [(.int (1 : Int32))])) _
  refine XS.goto X0.here hx rfl (pc0 := 602) (pc' := 606) rfl (hb hby at_602) (by decide) (by decide) ?_
  exact kt
end OwnSeg
theorem pn_0 : plainName own_s1 = true := by first | (simp [plainName, overriddenIn]; done) | decide +kernel
theorem ef_0 (m : MethodId) (x0 : Int32) (x1 : Int64) (x2 x3 x4 x5 : Int32) : entryFrame m #[(.int x0), (.long x1), (.int x2), (.int x3), (.int x4), (.int x5)] maxLocals = mkF m 0 #[.val (.int x0), .val (.long x1), .second, .val (.int x2), .val (.int x3), .val (.int x4), .val (.int x5), .unset, .unset, .unset, .unset, .unset, .unset, .unset, .unset, .unset, .unset, .unset, .unset, .unset, .unset, .unset, .unset, .unset, .unset, .unset, .unset, .unset, .unset, .unset, .unset, .unset, .unset, .unset, .unset] [] := by first | (simp [entryFrame, mkF, argsToLocals, Value.category, maxLocals]; done) | rfl
theorem rm0 (l : Launch) (Z : State) (a0 : Array Value) (hw : ∀ d ∈ tables_1, d.before a0 Z = true) (ws : List Jvm.Cond) (p1 : Int32) (q2 : Int64) (p3 p4 p5 p6 : Int32) (h0 : Heap) (n0 : Nat) (Z0 : n0 ≤ h0.size) (k_INT : Addr) (S_INT : Sta Z h0 own_s2 "INT" "Lcom/example/cablegram/cablegram/engine/ElementType;" (.ref k_INT)) (k_LONG : Addr) (S_LONG : Sta Z h0 own_s2 "LONG" "Lcom/example/cablegram/cablegram/engine/ElementType;" (.ref k_LONG)) (k_BYTE : Addr) (S_BYTE : Sta Z h0 own_s2 "BYTE" "Lcom/example/cablegram/cablegram/engine/ElementType;" (.ref k_BYTE)) (k_DOUBLE : Addr) (S_DOUBLE : Sta Z h0 own_s2 "DOUBLE" "Lcom/example/cablegram/cablegram/engine/ElementType;" (.ref k_DOUBLE)) (E_LONG : Exa Z h0 k_LONG "com/example/cablegram/cablegram/engine/ElementType$6") (F_size : Fld Z h0 k_LONG own_s2 "size" "I" (.int (8 : Int32))) :
    MetFree l x (head1 (Jvm.Cond.code x code maxLocals ret :: ws) room_1) (fun a U => a = #[(.int p1), (.long q2), (.int p3), (.int p4), (.int p5), (.int p6)] ∧ Z.Warmed39 U.vm ∧ U.heap = h0) (fun _ _ _ _ _ => True) (fun _ U o U' => ∃ v L, o = .returned v ∧ Ql (some (.int (1 : Int32))) n0 v L ∧ FrameEnd U o U' L room_1.cells room_1.slots) := by
  refine MetFree.of_bodySF (plainFor_of_name pn_0) hisR ?_
  intro p e s m args below meth c s₁ Bd hml0 hP hK
  obtain ⟨rfl, hZ, hh⟩ := hP
  have hx := Bd.exec
  have hby := Bd.bytes
  have hml : c.maxLocals = 35 := hml0
  have hown : s.vm.findClass own_s1 = some m.cls := findClass_of_methodNamed Bd.named
  have hnm := (name_of_methodNamed Bd.named Bd.method).1
  have X0 : Stand p l e room_1 s m #[(.int p1), (.long q2), (.int p3), (.int p4), (.int p5), (.int p6)] below meth c s₁ [] 0 0 := Stand.of_body Bd
  have e0 : s₁.heap = h0 := by rw [← hh, Bd.state]; rfl
  have N0 := Fr.nil n0
  have pre0 : ∀ t, Steps p.tables e below (s₁.setTop (mkF m 0 #[.val (.int p1), .val (.long q2), .second, .val (.int p3), .val (.int p4), .val (.int p5), .val (.int p6), .unset, .unset, .unset, .unset, .unset, .unset, .unset, .unset, .unset, .unset, .unset, .unset, .unset, .unset, .unset, .unset, .unset, .unset, .unset, .unset, .unset, .unset, .unset, .unset, .unset, .unset, .unset, .unset] [])) t → Steps p.tables e below (s₁.setTop (entryFrame m #[(.int p1), (.long q2), (.int p3), (.int p4), (.int p5), (.int p6)] maxLocals)) t := fun t k => castTop (ef_0 m p1 q2 p3 p4 p5 p6) k
  obtain ⟨TA, hA, b7, b8, b9, b10, b11, XA, eA, EA, E11, stA⟩ := tn0_0_34_x (.val (.int p1)) (.val (.long q2)) (.second) (.val (.int p3)) p4 (.val (.int p5)) (.val (.int p6)) (.unset) (.unset) (.unset) (.unset) (.unset) (.unset) (.unset) (.unset) (.unset) (.unset) (.unset) (.unset) (.unset) (.unset) (.unset) (.unset) (.unset) (.unset) (.unset) (.unset) (.unset) (.unset) (.unset) (.unset) (.unset) (.unset) (.unset) (.unset) X0 hx hZ hw hby hml hown e0 (by first | exact own_oneU | exact own_oneI | exact own_oneR | assumption) (by first | exact own_oneU | exact own_oneI | exact own_oneR | assumption) (by first | exact own_oneU | exact own_oneI | exact own_oneR | assumption) (by first | exact own_oneU | exact own_oneI | exact own_oneR | assumption) (by first | exact own_oneU | exact own_oneI | exact own_oneR | assumption) (by first | exact own_oneU | exact own_oneI | exact own_oneR | assumption)
  obtain ⟨TB2, y2_13, y2_14, XB2, eB2, stB2⟩ := sg2 (.val (.int p1)) (.val (.long q2)) (.second) (.val (.int p3)) (.val (.int p4)) (.val (.int p5)) (.val (.int p6)) b7 b8 b9 b10 (.val (.ref b11)) (((p4.toUInt32 >>> ((8 : Int32) &&& 31).toUInt32).toInt32) &&& (3 : Int32)) (.unset) (.unset) (.unset) (.unset) (.unset) (.unset) (.unset) (.unset) (.unset) (.unset) (.unset) (.unset) (.unset) (.unset) (.unset) (.unset) (.unset) (.unset) (.unset) (.unset) (.unset) (.unset) XA hx hZ hw hby hml hown eA k_INT k_LONG k_BYTE k_DOUBLE (S_INT.ext EA) (S_LONG.ext EA) (S_BYTE.ext EA) (S_DOUBLE.ext EA) (by first | exact own_oneU | exact own_oneI | exact own_oneR | assumption) (by first | exact own_oneU | exact own_oneI | exact own_oneR | assumption)
  obtain ⟨TB3, y3_15, XB3, eB3, stB3⟩ := sg3 (.val (.int p1)) (.val (.long q2)) (.second) (.val (.int p3)) (.val (.int p4)) (.val (.int p5)) (.val (.int p6)) (.val (.ref b7)) (.val (.ref b8)) (.val (.ref b9)) (.val (.ref b10)) (.val (.ref b11)) (.val (.int (((p4.toUInt32 >>> ((8 : Int32) &&& 31).toUInt32).toInt32) &&& (3 : Int32)))) y2_13 (.val (.ref y2_14)) (.unset) (.unset) (.unset) (.unset) (.unset) (.unset) (.unset) (.unset) (.unset) (.unset) (.unset) (.unset) (.unset) (.unset) (.unset) (.unset) (.unset) (.unset) (.unset) (.unset) XB2 hx hZ hw hby hml hown eB2 k_INT k_LONG (S_INT.ext EA) (S_LONG.ext EA) (by first | exact own_oneU | exact own_oneI | exact own_oneR | assumption)
  obtain ⟨TB4, y4_16, XB4, eB4, stB4⟩ := sg4 p1 (.val (.long q2)) (.second) (.val (.int p3)) p4 (.val (.int p5)) (.val (.int p6)) (.val (.ref b7)) (.val (.ref b8)) (.val (.ref b9)) (.val (.ref b10)) (.val (.ref b11)) (.val (.int (((p4.toUInt32 >>> ((8 : Int32) &&& 31).toUInt32).toInt32) &&& (3 : Int32)))) (.val (.ref y2_13)) (.val (.ref y2_14)) (.val (.ref y3_15)) (.unset) (.unset) (.unset) (.unset) (.unset) (.unset) (.unset) (.unset) (.unset) (.unset) (.unset) (.unset) (.unset) (.unset) (.unset) (.unset) (.unset) (.unset) (.unset) XB3 hx hZ hw hby hml hown eB3   (by first | exact own_oneU | exact own_oneI | exact own_oneR | assumption)
  obtain ⟨TB5, y5_17, y5_18, XB5, eB5, stB5⟩ := sg5 (.val (.int p1)) (.val (.long q2)) (.second) p3 p4 (.val (.int p5)) (.val (.int p6)) (.val (.ref b7)) (.val (.ref b8)) (.val (.ref b9)) (.val (.ref b10)) (.val (.ref b11)) (.val (.int (((p4.toUInt32 >>> ((8 : Int32) &&& 31).toUInt32).toInt32) &&& (3 : Int32)))) (.val (.ref y2_13)) (.val (.ref y2_14)) (.val (.ref y3_15)) (.val (.int y4_16)) (.unset) (.unset) (.unset) (.unset) (.unset) (.unset) (.unset) (.unset) (.unset) (.unset) (.unset) (.unset) (.unset) (.unset) (.unset) (.unset) (.unset) (.unset) XB4 hx hZ hw hby hml hown eB4   (by first | exact own_oneU | exact own_oneI | exact own_oneR | assumption) (by first | exact own_oneU | exact own_oneI | exact own_oneR | assumption)
  obtain ⟨TB6, y6_19, y6_20, XB6, eB6, stB6⟩ := sg6 (.val (.int p1)) (.val (.long q2)) (.second) (.val (.int p3)) (.val (.int p4)) p5 p6 (.val (.ref b7)) (.val (.ref b8)) (.val (.ref b9)) (.val (.ref b10)) (.val (.ref b11)) (.val (.int (((p4.toUInt32 >>> ((8 : Int32) &&& 31).toUInt32).toInt32) &&& (3 : Int32)))) (.val (.ref y2_13)) (.val (.ref y2_14)) (.val (.ref y3_15)) (.val (.int y4_16)) (.val (.int y5_17)) (.val (.int y5_18)) (.unset) (.unset) (.unset) (.unset) (.unset) (.unset) (.unset) (.unset) (.unset) (.unset) (.unset) (.unset) (.unset) (.unset) (.unset) (.unset) XB5 hx hZ hw hby hml hown eB5   (by first | exact own_oneU | exact own_oneI | exact own_oneR | assumption) (by first | exact own_oneU | exact own_oneI | exact own_oneR | assumption)
  obtain ⟨TB7, y7_21, XB7, eB7, stB7⟩ := sg7 (.val (.int p1)) (.val (.long q2)) (.second) (.val (.int p3)) p4 (.val (.int p5)) p6 (.val (.ref b7)) (.val (.ref b8)) (.val (.ref b9)) (.val (.ref b10)) (.val (.ref b11)) (.val (.int (((p4.toUInt32 >>> ((8 : Int32) &&& 31).toUInt32).toInt32) &&& (3 : Int32)))) (.val (.ref y2_13)) (.val (.ref y2_14)) (.val (.ref y3_15)) y4_16 (.val (.int y5_17)) (.val (.int y5_18)) (.val (.int y6_19)) (.val (.int y6_20)) (.unset) (.unset) (.unset) (.unset) (.unset) (.unset) (.unset) (.unset) (.unset) (.unset) (.unset) (.unset) (.unset) (.unset) XB6 hx hZ hw hby hml hown eB6   (by first | exact own_oneU | exact own_oneI | exact own_oneR | assumption)
  obtain ⟨TB8, y8_22, XB8, eB8, stB8⟩ := sg8 (.val (.int p1)) q2 (.val (.int p3)) p4 (.val (.int p5)) (.val (.int p6)) (.val (.ref b7)) (.val (.ref b8)) (.val (.ref b9)) (.val (.ref b10)) (.val (.ref b11)) (.val (.int (((p4.toUInt32 >>> ((8 : Int32) &&& 31).toUInt32).toInt32) &&& (3 : Int32)))) (.val (.ref y2_13)) (.val (.ref y2_14)) (.val (.ref y3_15)) (.val (.int y4_16)) (.val (.int y5_17)) (.val (.int y5_18)) (.val (.int y6_19)) (.val (.int y6_20)) (.val (.int y7_21)) (.unset) (.unset) (.unset) (.unset) (.unset) (.unset) (.unset) (.unset) (.unset) (.unset) (.unset) XB7 hx hZ hw hby hml hown eB7   
  obtain ⟨TB9, y9_24, XB9, eB9, stB9⟩ := sg9 (.val (.int p1)) (.val (.long q2)) (.second) (.val (.int p3)) p4 (.val (.int p5)) p6 (.val (.ref b7)) (.val (.ref b8)) (.val (.ref b9)) (.val (.ref b10)) (.val (.ref b11)) (.val (.int (((p4.toUInt32 >>> ((8 : Int32) &&& 31).toUInt32).toInt32) &&& (3 : Int32)))) (.val (.ref y2_13)) (.val (.ref y2_14)) (.val (.ref y3_15)) (.val (.int y4_16)) (.val (.int y5_17)) y5_18 (.val (.int y6_19)) (.val (.int y6_20)) (.val (.int y7_21)) (.val (.long y8_22)) (.second) (.unset) (.unset) (.unset) (.unset) (.unset) (.unset) (.unset) (.unset) (.unset) (.unset) (.unset) XB8 hx hZ hw hby hml hown eB8   (by first | exact own_oneU | exact own_oneI | exact own_oneR | assumption)
  obtain ⟨TB10, y10_25, XB10, eB10, stB10⟩ := sg10 (.val (.int p1)) (.val (.long q2)) (.second) (.val (.int p3)) p4 (.val (.int p5)) (.val (.int p6)) (.val (.ref b7)) (.val (.ref b8)) (.val (.ref b9)) (.val (.ref b10)) (.val (.ref b11)) (.val (.int (((p4.toUInt32 >>> ((8 : Int32) &&& 31).toUInt32).toInt32) &&& (3 : Int32)))) y2_13 (.val (.ref y2_14)) y3_15 (.val (.int y4_16)) (.val (.int y5_17)) (.val (.int y5_18)) (.val (.int y6_19)) (.val (.int y6_20)) (.val (.int y7_21)) (.val (.long y8_22)) (.second) (.val (.int y9_24)) (.unset) (.unset) (.unset) (.unset) (.unset) (.unset) (.unset) (.unset) (.unset) (.unset) XB9 hx hZ hw hby hml hown eB9   (by first | exact own_oneU | exact own_oneI | exact own_oneR | assumption)
  obtain ⟨TB11, y11_26, XB11, eB11, stB11⟩ := sg11 (.val (.int p1)) (.val (.long q2)) (.second) (.val (.int p3)) (.val (.int p4)) (.val (.int p5)) p6 (.val (.ref b7)) (.val (.ref b8)) (.val (.ref b9)) (.val (.ref b10)) (.val (.ref b11)) (.val (.int (((p4.toUInt32 >>> ((8 : Int32) &&& 31).toUInt32).toInt32) &&& (3 : Int32)))) (.val (.ref y2_13)) (.val (.ref y2_14)) (.val (.ref y3_15)) (.val (.int y4_16)) (.val (.int y5_17)) (.val (.int y5_18)) y6_19 (.val (.int y6_20)) (.val (.int y7_21)) (.val (.long y8_22)) (.second) (.val (.int y9_24)) (.val (.ref y10_25)) (.unset) (.unset) (.unset) (.unset) (.unset) (.unset) (.unset) (.unset) (.unset) XB10 hx hZ hw hby hml hown eB10   (by first | exact own_oneU | exact own_oneI | exact own_oneR | assumption)
  obtain ⟨TC, LC, bb, XC, NC, EC, gC, BC, stC⟩ := tn0_261_270_x (.val (.int p1)) (.val (.long q2)) (.second) (.val (.int p3)) (.val (.int p4)) (.val (.int p5)) (.val (.int p6)) (.val (.ref b7)) (.val (.ref b8)) (.val (.ref b9)) (.val (.ref b10)) (.val (.ref b11)) (.val (.int (((p4.toUInt32 >>> ((8 : Int32) &&& 31).toUInt32).toInt32) &&& (3 : Int32)))) (.val (.ref y2_13)) (.val (.ref y2_14)) (.val (.ref y3_15)) (.val (.int y4_16)) (.val (.int y5_17)) (.val (.int y5_18)) (.val (.int y6_19)) (.val (.int y6_20)) (.val (.int y7_21)) (.val (.long y8_22)) (.second) (.val (.int y9_24)) (.val (.ref y10_25)) (.val (.int y11_26)) (.unset) (.unset) (.unset) (.unset) (.unset) (.unset) (.unset) (.unset) XB11 hx hZ hw hby hml hown eB11 (Nat.le_trans Z0 EA.1) N0 (by first | exact own_oneU | exact own_oneI | exact own_oneR | assumption)
  have ZC := Nat.le_trans (Nat.le_trans Z0 EA.1) EC.1
  obtain ⟨TD, LD, yD28, u0, u1, u2, u3, u4, u5, u6, u7, u8, u9, u10, u11, XD, ND, KD, BD, stD⟩ := sgB (.val (.int p1)) q2 p3 p4 (.val (.int p5)) p6 (.val (.ref b7)) (.val (.ref b8)) (.val (.ref b9)) (.val (.ref b10)) b11 (.val (.int (((p4.toUInt32 >>> ((8 : Int32) &&& 31).toUInt32).toInt32) &&& (3 : Int32)))) (.val (.ref y2_13)) (.val (.ref y2_14)) (.val (.ref y3_15)) (.val (.int y4_16)) (.val (.int y5_17)) (.val (.int y5_18)) (.val (.int y6_19)) (.val (.int y6_20)) (.val (.int y7_21)) (.val (.long y8_22)) (.second) (.val (.int y9_24)) (.val (.ref y10_25)) (.val (.int y11_26)) bb (.unset) (.unset) (.unset) (.unset) (.unset) (.unset) (.unset) XC hx hZ hw hby hml hown (rfl : TC.heap = TC.heap) ZC NC ((S_INT.ext EA).ext EC) ((S_LONG.ext EA).ext EC) ((E_LONG.ext EA).ext EC) ((F_size.ext EA).ext EC) (E11.ext EC) gC BC (by first | exact own_oneU | exact own_oneI | exact own_oneR | assumption)
  obtain ⟨TE, LE, XE, NE, ZE, BE, stE⟩ := tn0_369_447_x (.val (.int p1)) q2 (.val (.int p3)) (.val (.int p4)) (.val (.int p5)) (.val (.int p6)) (.val (.ref b7)) (.val (.ref b8)) (.val (.ref b9)) (.val (.ref b10)) (.val (.ref b11)) (.val (.int (((p4.toUInt32 >>> ((8 : Int32) &&& 31).toUInt32).toInt32) &&& (3 : Int32)))) y2_13 y2_14 (.val (.ref y3_15)) y4_16 (.val (.int y5_17)) y5_18 y6_19 y6_20 (.val (.int y7_21)) (.val (.long y8_22)) (.second) (.val (.int y9_24)) (.val (.ref y10_25)) (.val (.int y11_26)) bb (.val (.int yD28)) (.unset) (.unset) (.unset) (.unset) (.unset) (.unset) XD hx hZ hw hby hml hown (rfl : TD.heap = TD.heap) (Nat.le_trans ZC KD.1) ND BD gC (by first | exact own_oneU | exact own_oneI | exact own_oneR | assumption) (by first | exact own_oneU | exact own_oneI | exact own_oneR | assumption)
  obtain ⟨TF, LF, XF, NF, eF, stF⟩ := wf (.val (.int p1)) (.val (.long q2)) (.second) (.val (.int p3)) (.val (.int p4)) (.val (.int p5)) (.val (.int p6)) (.val (.ref b7)) (.val (.ref b8)) (.val (.ref b9)) (.val (.ref b10)) (.val (.ref b11)) (.val (.int (((p4.toUInt32 >>> ((8 : Int32) &&& 31).toUInt32).toInt32) &&& (3 : Int32)))) (.val (.ref y2_13)) (.val (.ref y2_14)) (.val (.ref y3_15)) y4_16 (.val (.int y5_17)) (.val (.int y5_18)) (.val (.int y6_19)) (.val (.int y6_20)) y7_21 (.val (.long y8_22)) (.second) (.val (.int y9_24)) (.val (.ref y10_25)) (.val (.int y11_26)) bb (.val (.int yD28)) (.val (.int (1 : Int32))) (.val (.int (1 : Int32))) (.unset) (.unset) (.unset) (.unset) XE hx hZ hw hby hml hown (rfl : TE.heap = TE.heap) ZE NE BE (by first | exact own_oneU | exact own_oneI | exact own_oneR | assumption)
  obtain ⟨TG, LG, yG32, XG, NG, eG, stG⟩ := tk (.val (.int p1)) q2 (.val (.int p3)) (.val (.int p4)) (.val (.int p5)) (.val (.int p6)) (.val (.ref b7)) (.val (.ref b8)) (.val (.ref b9)) (.val (.ref b10)) (.val (.ref b11)) (.val (.int (((p4.toUInt32 >>> ((8 : Int32) &&& 31).toUInt32).toInt32) &&& (3 : Int32)))) y2_13 (.val (.ref y2_14)) (.val (.ref y3_15)) y4_16 (.val (.int y5_17)) y5_18 y6_19 (.val (.int y6_20)) y7_21 y8_22 y9_24 y10_25 y11_26 bb (.val (.int yD28)) (.val (.int (1 : Int32))) (.val (.int (1 : Int32))) (.val (.int (1 : Int32))) (.unset) (.unset) (.unset) XF hx hZ hw hby hml hown eF ZE NF BE (by first | exact own_oneU | exact own_oneI | exact own_oneR | assumption) (by first | exact own_oneU | exact own_oneI | exact own_oneR | assumption)
  obtain ⟨TH, LH, XH, NH, stH⟩ := aw (.val (.int p1)) (.val (.long q2)) (.second) (.val (.int p3)) (.val (.int p4)) (.val (.int p5)) p6 (.val (.ref b7)) (.val (.ref b8)) (.val (.ref b9)) (.val (.ref b10)) (.val (.ref b11)) (.val (.int (((p4.toUInt32 >>> ((8 : Int32) &&& 31).toUInt32).toInt32) &&& (3 : Int32)))) (.val (.ref y2_13)) (.val (.ref y2_14)) (.val (.ref y3_15)) (.val (.int y4_16)) (.val (.int y5_17)) (.val (.int y5_18)) (.val (.int y6_19)) (.val (.int y6_20)) (.val (.int y7_21)) (.val (.long y8_22)) (.second) (.val (.int y9_24)) (.val (.ref y10_25)) (.val (.int y11_26)) bb (.val (.int yD28)) (.val (.int (1 : Int32))) (.val (.int (1 : Int32))) (.val (.int (1 : Int32))) (.val (.int yG32)) (.val (.int (1 : Int32))) (.unset) XG hx hZ hw hby hml hown eG ZE NG BE gC (by first | exact own_oneU | exact own_oneI | exact own_oneR | assumption)
  obtain ⟨TI, XI, eI, stI⟩ := tn0_576_606_x (.val (.int p1)) (.val (.long q2)) (.second) (.val (.int p3)) (.val (.int p4)) (.val (.int p5)) (.val (.int p6)) (.val (.ref b7)) (.val (.ref b8)) (.val (.ref b9)) (.val (.ref b10)) (.val (.ref b11)) (.val (.int (((p4.toUInt32 >>> ((8 : Int32) &&& 31).toUInt32).toInt32) &&& (3 : Int32)))) (.val (.ref y2_13)) (.val (.ref y2_14)) (.val (.ref y3_15)) (.val (.int y4_16)) (.val (.int y5_17)) (.val (.int y5_18)) (.val (.int y6_19)) (.val (.int y6_20)) (.val (.int y7_21)) (.val (.long y8_22)) (.second) (.val (.int y9_24)) (.val (.ref y10_25)) (.val (.int y11_26)) (.val (.ref bb)) (.val (.int yD28)) (1 : Int32) (1 : Int32) (1 : Int32) (.val (.int yG32)) (1 : Int32) (1 : Int32) XH hx hZ hw hby hml hown (rfl : TH.heap = TH.heap) (by decide) (by decide) (by decide) (by decide) (by decide)
  obtain ⟨fs, hr, hrun, hended, hW, hsame⟩ := XI.leave (v := some (.int (1 : Int32))) (fun h => by rw [Bd.returns] at h; cases h)
  refine ⟨_, _, pre0 _ ?_, hrun, hended, _, _, rfl, ?_, ⟨_, rfl⟩, hW, hsame.mono (by decide) (by decide)⟩
  · refine stA _ ?_
    refine stB2 _ ?_
    refine stB3 _ ?_
    refine stB4 _ ?_
    refine stB5 _ ?_
    refine stB6 _ ?_
    refine stB7 _ ?_
    refine stB8 _ ?_
    refine stB9 _ ?_
    refine stB10 _ ?_
    refine stB11 _ ?_
    refine stC _ ?_
    refine stD _ ?_
    refine stE _ ?_
    refine stF _ ?_
    refine stG _ ?_
    refine stH _ ?_
    refine stI _ ?_
    exact retN XI hx (t := .boolean) Bd.returns (by simp) (hb hby at_606) hr
  · show Ql (some (.int (1 : Int32))) n0 _ _
    exact ⟨rfl, NH⟩
theorem own_enumX {Z : State} {args : Array Value} {C n d K : String} (hx : (Cond.exactly (.static C n d) K).value args Z none Z [] = some true) (hi : (Cond.initialized C).before args Z = true) (hl : (Cond.laysStatic C n d).before args Z = true) : ∃ a, Sta Z Z.heap C n d (.ref a) ∧ Exa Z Z.heap a K := by
  obtain ⟨a, ev⟩ := exa_v hx
  exact ⟨a, Sta.start ev (Or.inr ⟨hi, hl⟩), Exa.start ev hx⟩
theorem own_enumF {Z : State} {args : Array Value} {C n d K D f : String} {k : Int32} (hx : (Cond.exactly (.static C n d) K).value args Z none Z [] = some true) (ho : (Cond.eq (.field (.static C n d) D f "I") (.int k)).value args Z none Z [] = some true) (hi : (Cond.initialized C).before args Z = true) (hl : (Cond.laysStatic C n d).before args Z = true) : ∃ a, Sta Z Z.heap C n d (.ref a) ∧ Exa Z Z.heap a K ∧ Fld Z Z.heap a D f "I" (.int k) := by
  obtain ⟨a, ev⟩ := exa_v hx
  refine ⟨a, Sta.start ev (Or.inr ⟨hi, hl⟩), Exa.start ev hx, Fld.start ?_⟩
  have h := Jvm.Free.NT.SwA.eq_int (Cond.before_iff.mpr ho)
  rw [fld_at ev] at h; exact h
theorem comes_1 {Post : Tables → Env → Array Value → State → Outcome → State → Prop} (hpost : ∀ tb e args s v u, (limb_1_1.after args s (.returned v) u = true ∧ limb_1_2.after args s (.returned v) u = true ∧ True) → FrameEnd s (.returned v) u (Jvm.fieldLocs frame_1_writes args s ++ Jvm.arrayLocs frame_1_arrays args s ++ Jvm.staticLocs frame_1_statics s) 32 192 → Post tb e args s (.returned v) u) :
    ArmFor flags0 classFile x code maxLocals ret World_1 tables_1 room_1 Calls_1 rest_1 Pre_1 Post := by
  intro l hfl _ _ p e ha hc hk s m args below hf hA hF happ hP
  obtain ⟨hcalls, hrest, hpre⟩ := hP
  obtain ⟨-, -, -, hnamed, -, -, -, hat⟩ := (Spec.applies_iff hf).mp happ
  obtain ⟨hg, hn⟩ := and_e (Cond.before_iff.mp (show (Jvm.Cond.and given_1 narrow_1).before args s = true from hpre))
  obtain ⟨g35, g36⟩ := and_e hg
  obtain ⟨g37, g38⟩ := and_e g36
  obtain ⟨g39, g40⟩ := and_e g38
  obtain ⟨g41, g42⟩ := and_e g40
  obtain ⟨g43, g44⟩ := and_e g42
  obtain ⟨g45, g46⟩ := and_e g44
  obtain ⟨w0, w1, w2, w3, w4, w5, rfl⟩ : ∃ w0 w1 w2 w3 w4 w5 : Value, args = #[w0, w1, w2, w3, w4, w5] := by
    have hs : args.size = 6 := by simpa [Cond.value, given_1] using g35
    obtain ⟨L⟩ := args
    match L, hs with
    | [w0, w1, w2, w3, w4, w5], _ => exact ⟨w0, w1, w2, w3, w4, w5, rfl⟩
  have hw := fun d (hd : d ∈ tables_1) => atoms_spec (ws := Jvm.Cond.code x code maxLocals ret :: tables_1) hat d (List.mem_cons_of_mem _ hd)
  have hfit : Fit s := fun {y c} hc i hi => by
    obtain ⟨ha, rfl⟩ := Array.getElem?_eq_some_iff.mp hc
    have q := List.all_eq_true.mp ((Array.all_eq_true_iff_forall_mem.mp hF) _ (Array.getElem_mem ha)) i (List.mem_range.mpr hi)
    simpa [Array.getElem?_eq_getElem hi] using q
  obtain ⟨i0, ei0⟩ := is_v g37
  obtain rfl : w0 = (.int i0) := Option.some.inj ei0
  obtain ⟨i1, ei1⟩ := isL_v g39
  obtain rfl : w1 = (.long i1) := Option.some.inj ei1
  obtain ⟨i2, ei2⟩ := is_v g41
  obtain rfl : w2 = (.int i2) := Option.some.inj ei2
  obtain ⟨i3, ei3⟩ := is_v g43
  obtain rfl : w3 = (.int i3) := Option.some.inj ei3
  obtain ⟨i4, ei4⟩ := is_v g45
  obtain rfl : w4 = (.int i4) := Option.some.inj ei4
  obtain ⟨i5, ei5⟩ := is_v g46
  obtain rfl : w5 = (.int i5) := Option.some.inj ei5
  obtain ⟨nw0, nx0⟩ := and_e hn
  obtain ⟨nw1, nx1⟩ := and_e nx0
  obtain ⟨nw2, nx2⟩ := and_e nx1
  obtain ⟨nw3, nx3⟩ := and_e nx2
  obtain ⟨nw4, nx4⟩ := and_e nx3
  obtain ⟨nw5, nx5⟩ := and_e nx4
  obtain ⟨nw6, nx6⟩ := and_e nx5
  obtain ⟨k_INT, S_INT, E_INT⟩ := own_enumX nw0 (own_w hw 5 rfl) (own_w hw 6 rfl)
  obtain ⟨k_LONG, S_LONG, E_LONG, F_size⟩ := own_enumF nw1 nw2 (own_w hw 5 rfl) (own_w hw 8 rfl)
  obtain ⟨k_DOUBLE, S_DOUBLE, E_DOUBLE⟩ := own_enumX nw3 (own_w hw 5 rfl) (own_w hw 194 rfl)
  obtain ⟨k_BYTE, S_BYTE, E_BYTE⟩ := own_enumX nw4 (own_w hw 5 rfl) (own_w hw 197 rfl)
  obtain ⟨n, o, h1, h2, h3, _, L, rfl, ⟨rfl, N⟩, hq⟩ := rm0 l s _ hw tables_1 i0 i1 i2 i3 i4 i5 s.heap s.heap.size (Nat.le_refl _) k_INT S_INT k_LONG S_LONG k_BYTE S_BYTE k_DOUBLE S_DOUBLE E_LONG F_size p e ha hc hk s m _ below hf ((Spec.applies_iff_loose hf).mp happ).1 ⟨rfl, State.Warmed39.refl s, rfl⟩ trivial
  refine ⟨n, _, h1, h2, h3, hpost _ _ _ _ _ _ ⟨Cond.after_iff.mpr rfl, Cond.after_iff.mpr (eq_i res_at (Term.int_eval (1)) rfl), trivial⟩ ⟨hq.1, hq.2.1, (hq.2.2.sift fun y hy => Or.inr (N y hy)).mono (by decide) (by decide)⟩⟩
theorem main_1_1 : Claimed_1_1 := comes_1 fun _ _ _ _ _ _ h hF => ⟨h.1, hF⟩
theorem main_1_2 : Claimed_1_2 := comes_1 fun _ _ _ _ _ _ h hF => ⟨h.2.1, hF⟩
end Jvm.Pilot.@@N@@
namespace Jvm.Pilot.@@N@@
open Jvm Jvm.ClassFile Sem Op Lib Jvm.Free Jvm.Stand Jvm.Pilot.@@N@@.Jvm.D
/-! MADE BY PROGRAM (witnessworld.py) out of the Statement's table words and the real class files: 26 classes; the members and pool entries that the words name. The judged class is class 1, her method 1. -/
namespace start1
open Jvm.ClassFile
def u (s : String) : CpInfo := .utf8 (stringToUtf16 s)
/-- a pool by its gaps: so many unusable entries, then the entry; so many at the end -/
def gap : Nat → List CpInfo → List CpInfo
  | 0, r => r
  | n + 1, r => .unusable :: gap n r
def poolList (es : List (Nat × CpInfo)) (last : Nat) : List CpInfo := es.foldr (fun e r => gap e.1 (e.2 :: r)) (gap last [])
def pool (es : List (Nat × CpInfo)) (last : Nat) : Array CpInfo := ⟨poolList es last⟩
def fileOf (pool : Array CpInfo) (this : Nat) (attrs : Array Attribute := #[]) (ms : Array MethodInfo := #[]) (fl : Nat := 33) (sup : Nat := 0) (ifs : Array Nat := #[]) (fds : Array FieldInfo := #[]) : ClassFile where
  minorVersion := 0
  majorVersion := 65
  constantPool := pool
  accessFlags := fl
  thisClass := this
  superClass := sup
  interfaces := ifs
  fields := fds
  methods := ms
  attributes := attrs
def plain (name : String) (sup : Option ClassId) : Class where
  name := name
  kind := .ordinary
  loader := none
  accessFlags := 33
  super := sup
  interfaces := #[]
  cf := none
  fields := #[]
  methods := #[]
  instanceTypes := #[]
  staticTypes := #[]
  resolved := #[]
  callSites := []
  init := .initialized
  statics := none
  mirror := none

def pool0 : Array CpInfo := pool [(5, u "<init>"), (0, u "()V"), (1, .class_ 10), (1, u "java/lang/Object")] 113

def k0c0 : Code := { maxStack := 0, maxLocals := 1, code := object_method_1_code, exceptionTable := #[], attributes := #[] }
def k0m0 : Method := { name := "<init>", desc := "()V", sig := { parameters := [], returnType := none }, accessFlags := 1, code := some k0c0 }
/-- java/lang/Object -/
def k0 : Class := { plain "java/lang/Object" none with
  accessFlags := 33
  interfaces := #[]
  cf := some (fileOf pool0 8 #[] #[{ accessFlags := 1, nameIndex := 5, descriptorIndex := 6, attributes := #[] }] 33 0 #[] #[])
  fields := #[]
  methods := #[k0m0]
  instanceTypes := #[]
  staticTypes := #[]
  resolved := Array.replicate 124 none
  statics := none }

def pool1 : Array CpInfo := pool [(2, .class_ 4), (0, .nameAndType 5 6), (0, u "java/lang/Object"), (0, u "<init>"), (0, u "()V"), (0, .fieldref 8 9), (0, .class_ 10), (0, .nameAndType 11 12), (0, u "com/example/cablegram/cablegram/engine/ElementType"), (0, u "INT"), (0, u "Lcom/example/cablegram/cablegram/engine/ElementType;"), (0, .fieldref 8 14), (0, .nameAndType 15 12), (0, u "LONG"), (0, .fieldref 8 17), (0, .nameAndType 18 12), (0, u "BYTE"), (0, .fieldref 8 20), (0, .nameAndType 21 12), (0, u "DOUBLE"), (0, .class_ 23), (0, u "com/example/cablegram/cablegram/engine/Envelope"), (0, .integer 2147483648), (0, .integer 65535), (0, .class_ 27), (0, u "com/example/cablegram/cablegram/engine/BlockingReceive"), (0, .methodref 26 3), (0, .long 2), (1, .methodref 26 32), (0, .nameAndType 33 34), (0, u "start"), (0, u "(IJILcom/example/cablegram/cablegram/engine/ElementType;Ljava/lang/Object;II)V"), (0, .methodref 26 36), (0, .nameAndType 37 38), (0, u "make"), (0, u "(Lcom/example/cablegram/cablegram/engine/CompletionOrder;Lcom/example/cablegram/cablegram/engine/ArraysAhead;)Lcom/example/cablegram/cablegram/engine/Receive;"), (0, .methodref 26 40), (0, .nameAndType 41 42), (0, u "takeInPlace"), (0, u "(IJILcom/example/cablegram/cablegram/engine/ElementType;IILjava/nio/ByteBuffer;)V"), (0, .methodref 26 44), (0, .nameAndType 45 46), (0, u "asksWhy"), (0, u "(I)Z"), (0, .methodref 26 48), (0, .nameAndType 49 50), (0, u "source"), (0, u "()I"), (0, .methodref 26 52), (0, .nameAndType 53 54), (0, u "context"), (0, u "()J"), (0, .methodref 26 56), (0, .nameAndType 57 50), (0, u "tag"), (0, .methodref 26 59), (0, .nameAndType 60 61), (0, u "made"), (0, u "()Lcom/example/cablegram/cablegram/engine/Receive;"), (0, .methodref 26 63), (0, .nameAndType 64 65), (0, u "taken"), (0, u "()Lcom/example/cablegram/cablegram/engine/Received;"), (0, .methodref 26 67), (0, .nameAndType 68 46), (0, u "waitsFor"), (0, .methodref 22 70), (0, .nameAndType 71 72), (0, u "matches"), (0, u "(IJIIJI)Z"), (0, .methodref 26 74), (0, .nameAndType 75 76), (0, u "takesInPlace"), (0, u "(IJILcom/example/cablegram/cablegram/engine/ElementType;I)Z"), (0, .class_ 78), (0, u "com/example/cablegram/cablegram/engine/BlockingReceiveStartPinLaw"), (2, u "law"), (0, u "(IJIIII)Z")] 11

def k1m0 : Method := { name := "<init>", desc := "()V", sig := { parameters := [], returnType := none }, accessFlags := 1, code := none }
def k1c1 : Code := { maxStack := 9, maxLocals := 35, code := code, exceptionTable := #[], attributes := #[] }
def k1m1 : Method := { name := "law", desc := "(IJIIII)Z", sig := { parameters := [.int, .long, .int, .int, .int, .int], returnType := some .boolean }, accessFlags := 9, code := some k1c1 }
/-- com/example/cablegram/cablegram/engine/BlockingReceiveStartPinLaw -/
def k1 : Class := { plain "com/example/cablegram/cablegram/engine/BlockingReceiveStartPinLaw" (some 0) with
  accessFlags := 49
  interfaces := #[]
  cf := some (fileOf pool1 77 #[] #[{ accessFlags := 1, nameIndex := 5, descriptorIndex := 6, attributes := #[] }, { accessFlags := 9, nameIndex := 81, descriptorIndex := 82, attributes := #[] }] 49 2 #[] #[])
  fields := #[]
  methods := #[k1m0, k1m1]
  instanceTypes := #[]
  staticTypes := #[]
  resolved := Array.replicate 94 none
  statics := none }

def pool2 : Array CpInfo := pool [(1, .class_ 2), (0, u "java/lang/constant/Constable"), (0, .class_ 4), (0, u "java/lang/Object")] 6

/-- java/lang/constant/Constable -/
def k2 : Class := { plain "java/lang/constant/Constable" (some 0) with
  accessFlags := 1537
  interfaces := #[]
  cf := some (fileOf pool2 1 #[] #[] 1537 3 #[] #[])
  fields := #[]
  methods := #[]
  instanceTypes := #[]
  staticTypes := #[]
  resolved := Array.replicate 11 none
  statics := none }

def pool3 : Array CpInfo := pool [(1, .class_ 2), (0, u "java/lang/Comparable"), (0, .class_ 4), (0, u "java/lang/Object")] 7

/-- java/lang/Comparable -/
def k3 : Class := { plain "java/lang/Comparable" (some 0) with
  accessFlags := 1537
  interfaces := #[]
  cf := some (fileOf pool3 1 #[] #[] 1537 3 #[] #[])
  fields := #[]
  methods := #[]
  instanceTypes := #[]
  staticTypes := #[]
  resolved := Array.replicate 12 none
  statics := none }

def pool4 : Array CpInfo := pool [(1, .class_ 2), (0, u "java/io/Serializable"), (0, .class_ 4), (0, u "java/lang/Object")] 2

/-- java/io/Serializable -/
def k4 : Class := { plain "java/io/Serializable" (some 0) with
  accessFlags := 1537
  interfaces := #[]
  cf := some (fileOf pool4 1 #[] #[] 1537 3 #[] #[])
  fields := #[]
  methods := #[]
  instanceTypes := #[]
  staticTypes := #[]
  resolved := Array.replicate 7 none
  statics := none }

def pool5 : Array CpInfo := pool [(2, .class_ 4), (1, u "java/lang/Enum"), (0, u "name"), (0, u "Ljava/lang/String;"), (2, u "ordinal"), (0, u "I"), (1, .class_ 14), (1, u "java/lang/Object"), (4, u "hash"), (86, .class_ 108), (1, u "java/lang/Enum$EnumDesc"), (2, .class_ 112), (0, u "java/lang/constant/Constable"), (0, .class_ 114), (0, u "java/lang/Comparable"), (0, .class_ 116), (0, u "java/io/Serializable")] 87

/-- java/lang/Enum -/
def k5 : Class := { plain "java/lang/Enum" (some 0) with
  accessFlags := 1057
  interfaces := #[2, 3, 4]
  cf := some (fileOf pool5 2 #[.nestMembers #[106]] #[] 1057 12 #[111, 113, 115] #[{ accessFlags := 18, nameIndex := 5, descriptorIndex := 6, attributes := #[] }, { accessFlags := 18, nameIndex := 9, descriptorIndex := 10, attributes := #[] }, { accessFlags := 2, nameIndex := 19, descriptorIndex := 10, attributes := #[] }])
  fields := #[{ name := "name", type := (.object "java/lang/String"), accessFlags := 18, slot := 0, constantValue := 0 }, { name := "ordinal", type := .int, accessFlags := 18, slot := 1, constantValue := 0 }, { name := "hash", type := .int, accessFlags := 2, slot := 2, constantValue := 0 }]
  methods := #[]
  instanceTypes := #[(.object "java/lang/String"), .int, .int]
  staticTypes := #[]
  resolved := Array.replicate 204 none
  statics := none }

def pool6 : Array CpInfo := pool [(1, .class_ 2), (0, u "com/example/cablegram/cablegram/engine/ElementType"), (2, u "BYTE"), (0, u "Lcom/example/cablegram/cablegram/engine/ElementType;"), (2, u "CHAR"), (2, u "SHORT"), (2, u "BOOLEAN"), (2, u "INT"), (2, u "LONG"), (2, u "FLOAT"), (2, u "DOUBLE"), (2, u "OBJECT"), (2, u "PACKED"), (2, u "$VALUES"), (0, u "[Lcom/example/cablegram/cablegram/engine/ElementType;"), (6, .class_ 46), (1, u "java/lang/Enum"), (8, u "code"), (0, u "B"), (0, .fieldref 1 58), (0, .nameAndType 59 60), (0, u "size"), (0, u "I"), (8, u "shift"), (2, u "arrayClass"), (0, u "Ljava/lang/Class;"), (2, u "BY_CODE"), (27, u "(Ljava/nio/ByteBuffer;Ljava/lang/Object;II)V"), (2, u "get"), (25, .long 128), (7, .methodref 1 142), (0, .nameAndType 143 104), (0, u "getEach"), (25, .class_ 170), (0, u "com/example/cablegram/cablegram/engine/ElementType$1"), (4, .class_ 176), (0, u "com/example/cablegram/cablegram/engine/ElementType$2"), (4, .class_ 182), (0, u "com/example/cablegram/cablegram/engine/ElementType$3"), (4, .class_ 188), (0, u "com/example/cablegram/cablegram/engine/ElementType$4"), (4, .class_ 194), (0, u "com/example/cablegram/cablegram/engine/ElementType$5"), (4, .class_ 200), (0, u "com/example/cablegram/cablegram/engine/ElementType$6"), (4, .class_ 206), (0, u "com/example/cablegram/cablegram/engine/ElementType$7"), (4, .class_ 212), (0, u "com/example/cablegram/cablegram/engine/ElementType$8"), (4, .class_ 218), (0, u "com/example/cablegram/cablegram/engine/ElementType$9"), (4, .class_ 224), (0, u "com/example/cablegram/cablegram/engine/ElementType$10"), (5, u "IN_PIECES"), (0, u "Ljava/lang/String;"), (3, u "FEW_BYTES")] 42

def k6c0 : Code := { maxStack := 5, maxLocals := 5, code := prog_12_method_23_code, exceptionTable := #[], attributes := #[] }
def k6m0 : Method := { name := "get", desc := "(Ljava/nio/ByteBuffer;Ljava/lang/Object;II)V", sig := { parameters := [(.object "java/nio/ByteBuffer"), (.object "java/lang/Object"), .int, .int], returnType := none }, accessFlags := 16, code := some k6c0 }
def k6m1 : Method := { name := "getEach", desc := "(Ljava/nio/ByteBuffer;Ljava/lang/Object;II)V", sig := { parameters := [(.object "java/nio/ByteBuffer"), (.object "java/lang/Object"), .int, .int], returnType := none }, accessFlags := 1024, code := none }
/-- com/example/cablegram/cablegram/engine/ElementType -/
def k6 : Class := { plain "com/example/cablegram/cablegram/engine/ElementType" (some 5) with
  accessFlags := 17441
  interfaces := #[]
  cf := some (fileOf pool6 1 #[.nestMembers #[223, 217, 211, 205, 199, 193, 187, 181, 175, 169]] #[{ accessFlags := 16, nameIndex := 107, descriptorIndex := 104, attributes := #[] }, { accessFlags := 1024, nameIndex := 143, descriptorIndex := 104, attributes := #[] }] 17441 44 #[] #[{ accessFlags := 16409, nameIndex := 5, descriptorIndex := 6, attributes := #[] }, { accessFlags := 16409, nameIndex := 9, descriptorIndex := 6, attributes := #[] }, { accessFlags := 16409, nameIndex := 12, descriptorIndex := 6, attributes := #[] }, { accessFlags := 16409, nameIndex := 15, descriptorIndex := 6, attributes := #[] }, { accessFlags := 16409, nameIndex := 18, descriptorIndex := 6, attributes := #[] }, { accessFlags := 16409, nameIndex := 21, descriptorIndex := 6, attributes := #[] }, { accessFlags := 16409, nameIndex := 24, descriptorIndex := 6, attributes := #[] }, { accessFlags := 16409, nameIndex := 27, descriptorIndex := 6, attributes := #[] }, { accessFlags := 16409, nameIndex := 30, descriptorIndex := 6, attributes := #[] }, { accessFlags := 16409, nameIndex := 33, descriptorIndex := 6, attributes := #[] }, { accessFlags := 26, nameIndex := 230, descriptorIndex := 231, attributes := #[] }, { accessFlags := 26, nameIndex := 235, descriptorIndex := 60, attributes := #[] }, { accessFlags := 26, nameIndex := 76, descriptorIndex := 37, attributes := #[] }, { accessFlags := 18, nameIndex := 55, descriptorIndex := 56, attributes := #[] }, { accessFlags := 18, nameIndex := 59, descriptorIndex := 60, attributes := #[] }, { accessFlags := 18, nameIndex := 69, descriptorIndex := 60, attributes := #[] }, { accessFlags := 18, nameIndex := 72, descriptorIndex := 73, attributes := #[] }, { accessFlags := 4122, nameIndex := 36, descriptorIndex := 37, attributes := #[] }])
  fields := #[{ name := "BYTE", type := (.object "com/example/cablegram/cablegram/engine/ElementType"), accessFlags := 16409, slot := 0, constantValue := 0 }, { name := "CHAR", type := (.object "com/example/cablegram/cablegram/engine/ElementType"), accessFlags := 16409, slot := 1, constantValue := 0 }, { name := "SHORT", type := (.object "com/example/cablegram/cablegram/engine/ElementType"), accessFlags := 16409, slot := 2, constantValue := 0 }, { name := "BOOLEAN", type := (.object "com/example/cablegram/cablegram/engine/ElementType"), accessFlags := 16409, slot := 3, constantValue := 0 }, { name := "INT", type := (.object "com/example/cablegram/cablegram/engine/ElementType"), accessFlags := 16409, slot := 4, constantValue := 0 }, { name := "LONG", type := (.object "com/example/cablegram/cablegram/engine/ElementType"), accessFlags := 16409, slot := 5, constantValue := 0 }, { name := "FLOAT", type := (.object "com/example/cablegram/cablegram/engine/ElementType"), accessFlags := 16409, slot := 6, constantValue := 0 }, { name := "DOUBLE", type := (.object "com/example/cablegram/cablegram/engine/ElementType"), accessFlags := 16409, slot := 7, constantValue := 0 }, { name := "OBJECT", type := (.object "com/example/cablegram/cablegram/engine/ElementType"), accessFlags := 16409, slot := 8, constantValue := 0 }, { name := "PACKED", type := (.object "com/example/cablegram/cablegram/engine/ElementType"), accessFlags := 16409, slot := 9, constantValue := 0 }, { name := "IN_PIECES", type := (.object "java/lang/String"), accessFlags := 26, slot := 10, constantValue := 0 }, { name := "FEW_BYTES", type := .int, accessFlags := 26, slot := 11, constantValue := 0 }, { name := "BY_CODE", type := (.array (.object "com/example/cablegram/cablegram/engine/ElementType")), accessFlags := 26, slot := 12, constantValue := 0 }, { name := "code", type := .byte, accessFlags := 18, slot := 3, constantValue := 0 }, { name := "size", type := .int, accessFlags := 18, slot := 4, constantValue := 0 }, { name := "shift", type := .int, accessFlags := 18, slot := 5, constantValue := 0 }, { name := "arrayClass", type := (.object "java/lang/Class"), accessFlags := 18, slot := 6, constantValue := 0 }, { name := "$VALUES", type := (.array (.object "com/example/cablegram/cablegram/engine/ElementType")), accessFlags := 4122, slot := 13, constantValue := 0 }]
  methods := #[k6m0, k6m1]
  instanceTypes := #[(.object "java/lang/String"), .int, .int, .byte, .int, .int, (.object "java/lang/Class")]
  staticTypes := #[(.object "com/example/cablegram/cablegram/engine/ElementType"), (.object "com/example/cablegram/cablegram/engine/ElementType"), (.object "com/example/cablegram/cablegram/engine/ElementType"), (.object "com/example/cablegram/cablegram/engine/ElementType"), (.object "com/example/cablegram/cablegram/engine/ElementType"), (.object "com/example/cablegram/cablegram/engine/ElementType"), (.object "com/example/cablegram/cablegram/engine/ElementType"), (.object "com/example/cablegram/cablegram/engine/ElementType"), (.object "com/example/cablegram/cablegram/engine/ElementType"), (.object "com/example/cablegram/cablegram/engine/ElementType"), (.object "java/lang/String"), .int, (.array (.object "com/example/cablegram/cablegram/engine/ElementType")), (.array (.object "com/example/cablegram/cablegram/engine/ElementType"))]
  resolved := Array.replicate 278 none
  statics := some 0 }

def pool7 : Array CpInfo := pool [(1, .methodref 2 3), (0, .class_ 4), (0, .nameAndType 5 6), (0, u "java/lang/Object"), (0, u "<init>"), (0, u "()V"), (0, .fieldref 8 9), (0, .class_ 10), (0, .nameAndType 11 12), (0, u "com/example/cablegram/cablegram/engine/BlockingReceive"), (0, u "waits"), (0, u "Z"), (0, .fieldref 8 14), (0, .nameAndType 15 16), (0, u "source"), (0, u "I"), (0, .fieldref 8 18), (0, .nameAndType 19 20), (0, u "context"), (0, u "J"), (0, .fieldref 8 22), (0, .nameAndType 23 16), (0, u "tag"), (0, .fieldref 8 25), (0, .nameAndType 26 27), (0, u "type"), (0, u "Lcom/example/cablegram/cablegram/engine/ElementType;"), (0, .fieldref 8 29), (0, .nameAndType 30 31), (0, u "array"), (0, u "Ljava/lang/Object;"), (0, .fieldref 8 33), (0, .nameAndType 34 16), (0, u "offset"), (0, .fieldref 8 36), (0, .nameAndType 37 16), (0, u "count"), (0, .fieldref 8 39), (0, .nameAndType 40 16), (0, u "endedWhenAsked"), (0, .fieldref 8 42), (0, .nameAndType 43 12), (0, u "tookInPlace"), (0, .fieldref 8 45), (0, .nameAndType 46 47), (0, u "made"), (0, u "Lcom/example/cablegram/cablegram/engine/Receive;"), (0, .methodref 8 49), (0, .nameAndType 50 51), (0, u "waitsForMessage"), (0, u "()Z"), (0, .class_ 53), (0, u "com/example/cablegram/cablegram/engine/Envelope"), (0, .methodref 52 55), (0, .nameAndType 56 57), (0, u "matches"), (0, u "(IJIIJI)Z"), (0, .methodref 59 60), (0, .class_ 61), (0, .nameAndType 62 63), (0, u "com/example/cablegram/cablegram/engine/ElementType"), (0, u "get"), (0, u "(Ljava/nio/ByteBuffer;Ljava/lang/Object;II)V"), (0, .fieldref 8 65), (0, .nameAndType 66 67), (0, u "received"), (0, u "Lcom/example/cablegram/cablegram/engine/Received;"), (1, .class_ 71), (1, u "com/example/cablegram/cablegram/engine/Received"), (6, .methodref 52 79), (0, .nameAndType 5 80), (0, u "(IJILcom/example/cablegram/cablegram/engine/ElementType;II)V"), (0, .methodref 69 82), (0, .nameAndType 5 83), (0, u "(Lcom/example/cablegram/cablegram/engine/Envelope;Z)V"), (3, .class_ 88), (0, u "com/example/cablegram/cablegram/engine/Receive"), (0, .methodref 87 90), (0, .nameAndType 5 91), (0, u "(Lcom/example/cablegram/cablegram/engine/CompletionOrder;IJILcom/example/cablegram/cablegram/engine/ElementType;Ljava/lang/Object;IILcom/example/cablegram/cablegram/engine/ArraysAhead;)V"), (2, u "start"), (0, u "(IJILcom/example/cablegram/cablegram/engine/ElementType;Ljava/lang/Object;II)V"), (1, u "()Lcom/example/cablegram/cablegram/engine/Receive;"), (0, u "waitsFor"), (0, u "(I)Z"), (1, u "takesInPlace"), (0, u "(IJILcom/example/cablegram/cablegram/engine/ElementType;I)Z"), (0, u "takeInPlace"), (0, u "(IJILcom/example/cablegram/cablegram/engine/ElementType;IILjava/nio/ByteBuffer;)V"), (2, u "make"), (0, u "(Lcom/example/cablegram/cablegram/engine/CompletionOrder;Lcom/example/cablegram/cablegram/engine/ArraysAhead;)Lcom/example/cablegram/cablegram/engine/Receive;"), (0, u "taken"), (0, u "()Lcom/example/cablegram/cablegram/engine/Received;"), (0, u "()I"), (0, u "()J"), (0, u "asksWhy")] 2

def k7c0 : Code := { maxStack := 1, maxLocals := 1, code := prog_5_method_1_code, exceptionTable := #[], attributes := #[] }
def k7m0 : Method := { name := "<init>", desc := "()V", sig := { parameters := [], returnType := none }, accessFlags := 0, code := some k7c0 }
def k7c1 : Code := { maxStack := 3, maxLocals := 9, code := prog_5_method_2_code, exceptionTable := #[], attributes := #[] }
def k7m1 : Method := { name := "start", desc := "(IJILcom/example/cablegram/cablegram/engine/ElementType;Ljava/lang/Object;II)V", sig := { parameters := [.int, .long, .int, (.object "com/example/cablegram/cablegram/engine/ElementType"), (.object "java/lang/Object"), .int, .int], returnType := none }, accessFlags := 0, code := some k7c1 }
def k7c2 : Code := { maxStack := 2, maxLocals := 2, code := prog_5_method_4_code, exceptionTable := #[], attributes := #[] }
def k7m2 : Method := { name := "waitsFor", desc := "(I)Z", sig := { parameters := [.int], returnType := some .boolean }, accessFlags := 0, code := some k7c2 }
def k7c3 : Code := { maxStack := 8, maxLocals := 7, code := prog_5_method_5_code, exceptionTable := #[], attributes := #[] }
def k7m3 : Method := { name := "takesInPlace", desc := "(IJILcom/example/cablegram/cablegram/engine/ElementType;I)Z", sig := { parameters := [.int, .long, .int, (.object "com/example/cablegram/cablegram/engine/ElementType"), .int], returnType := some .boolean }, accessFlags := 0, code := some k7c3 }
def k7c4 : Code := { maxStack := 12, maxLocals := 9, code := prog_5_method_6_code, exceptionTable := #[], attributes := #[] }
def k7m4 : Method := { name := "takeInPlace", desc := "(IJILcom/example/cablegram/cablegram/engine/ElementType;IILjava/nio/ByteBuffer;)V", sig := { parameters := [.int, .long, .int, (.object "com/example/cablegram/cablegram/engine/ElementType"), .int, .int, (.object "java/nio/ByteBuffer")], returnType := none }, accessFlags := 0, code := some k7c4 }
def k7c5 : Code := { maxStack := 13, maxLocals := 3, code := prog_5_method_8_code, exceptionTable := #[], attributes := #[] }
def k7m5 : Method := { name := "make", desc := "(Lcom/example/cablegram/cablegram/engine/CompletionOrder;Lcom/example/cablegram/cablegram/engine/ArraysAhead;)Lcom/example/cablegram/cablegram/engine/Receive;", sig := { parameters := [(.object "com/example/cablegram/cablegram/engine/CompletionOrder"), (.object "com/example/cablegram/cablegram/engine/ArraysAhead")], returnType := some (.object "com/example/cablegram/cablegram/engine/Receive") }, accessFlags := 0, code := some k7c5 }
def k7c6 : Code := { maxStack := 1, maxLocals := 1, code := prog_5_method_9_code, exceptionTable := #[], attributes := #[] }
def k7m6 : Method := { name := "taken", desc := "()Lcom/example/cablegram/cablegram/engine/Received;", sig := { parameters := [], returnType := some (.object "com/example/cablegram/cablegram/engine/Received") }, accessFlags := 0, code := some k7c6 }
def k7c7 : Code := { maxStack := 1, maxLocals := 1, code := prog_5_method_10_code, exceptionTable := #[], attributes := #[] }
def k7m7 : Method := { name := "made", desc := "()Lcom/example/cablegram/cablegram/engine/Receive;", sig := { parameters := [], returnType := some (.object "com/example/cablegram/cablegram/engine/Receive") }, accessFlags := 0, code := some k7c7 }
def k7c8 : Code := { maxStack := 1, maxLocals := 1, code := prog_5_method_11_code, exceptionTable := #[], attributes := #[] }
def k7m8 : Method := { name := "source", desc := "()I", sig := { parameters := [], returnType := some .int }, accessFlags := 0, code := some k7c8 }
def k7c9 : Code := { maxStack := 2, maxLocals := 1, code := prog_5_method_12_code, exceptionTable := #[], attributes := #[] }
def k7m9 : Method := { name := "context", desc := "()J", sig := { parameters := [], returnType := some .long }, accessFlags := 0, code := some k7c9 }
def k7c10 : Code := { maxStack := 1, maxLocals := 1, code := prog_5_method_13_code, exceptionTable := #[], attributes := #[] }
def k7m10 : Method := { name := "tag", desc := "()I", sig := { parameters := [], returnType := some .int }, accessFlags := 0, code := some k7c10 }
def k7c11 : Code := { maxStack := 2, maxLocals := 3, code := prog_5_method_14_code, exceptionTable := #[], attributes := #[] }
def k7m11 : Method := { name := "asksWhy", desc := "(I)Z", sig := { parameters := [.int], returnType := some .boolean }, accessFlags := 0, code := some k7c11 }
def k7c12 : Code := { maxStack := 1, maxLocals := 1, code := prog_5_method_15_code, exceptionTable := #[], attributes := #[] }
def k7m12 : Method := { name := "waitsForMessage", desc := "()Z", sig := { parameters := [], returnType := some .boolean }, accessFlags := 2, code := some k7c12 }
/-- com/example/cablegram/cablegram/engine/BlockingReceive -/
def k7 : Class := { plain "com/example/cablegram/cablegram/engine/BlockingReceive" (some 0) with
  accessFlags := 48
  interfaces := #[]
  cf := some (fileOf pool7 8 #[] #[{ accessFlags := 0, nameIndex := 5, descriptorIndex := 6, attributes := #[] }, { accessFlags := 0, nameIndex := 94, descriptorIndex := 95, attributes := #[] }, { accessFlags := 0, nameIndex := 98, descriptorIndex := 99, attributes := #[] }, { accessFlags := 0, nameIndex := 101, descriptorIndex := 102, attributes := #[] }, { accessFlags := 0, nameIndex := 103, descriptorIndex := 104, attributes := #[] }, { accessFlags := 0, nameIndex := 107, descriptorIndex := 108, attributes := #[] }, { accessFlags := 0, nameIndex := 109, descriptorIndex := 110, attributes := #[] }, { accessFlags := 0, nameIndex := 46, descriptorIndex := 97, attributes := #[] }, { accessFlags := 0, nameIndex := 15, descriptorIndex := 111, attributes := #[] }, { accessFlags := 0, nameIndex := 19, descriptorIndex := 112, attributes := #[] }, { accessFlags := 0, nameIndex := 23, descriptorIndex := 111, attributes := #[] }, { accessFlags := 0, nameIndex := 113, descriptorIndex := 99, attributes := #[] }, { accessFlags := 2, nameIndex := 50, descriptorIndex := 51, attributes := #[] }] 48 2 #[] #[{ accessFlags := 2, nameIndex := 11, descriptorIndex := 12, attributes := #[] }, { accessFlags := 2, nameIndex := 15, descriptorIndex := 16, attributes := #[] }, { accessFlags := 2, nameIndex := 19, descriptorIndex := 20, attributes := #[] }, { accessFlags := 2, nameIndex := 23, descriptorIndex := 16, attributes := #[] }, { accessFlags := 2, nameIndex := 26, descriptorIndex := 27, attributes := #[] }, { accessFlags := 2, nameIndex := 30, descriptorIndex := 31, attributes := #[] }, { accessFlags := 2, nameIndex := 34, descriptorIndex := 16, attributes := #[] }, { accessFlags := 2, nameIndex := 37, descriptorIndex := 16, attributes := #[] }, { accessFlags := 2, nameIndex := 40, descriptorIndex := 16, attributes := #[] }, { accessFlags := 2, nameIndex := 43, descriptorIndex := 12, attributes := #[] }, { accessFlags := 2, nameIndex := 66, descriptorIndex := 67, attributes := #[] }, { accessFlags := 2, nameIndex := 46, descriptorIndex := 47, attributes := #[] }])
  fields := #[{ name := "waits", type := .boolean, accessFlags := 2, slot := 0, constantValue := 0 }, { name := "source", type := .int, accessFlags := 2, slot := 1, constantValue := 0 }, { name := "context", type := .long, accessFlags := 2, slot := 2, constantValue := 0 }, { name := "tag", type := .int, accessFlags := 2, slot := 3, constantValue := 0 }, { name := "type", type := (.object "com/example/cablegram/cablegram/engine/ElementType"), accessFlags := 2, slot := 4, constantValue := 0 }, { name := "array", type := (.object "java/lang/Object"), accessFlags := 2, slot := 5, constantValue := 0 }, { name := "offset", type := .int, accessFlags := 2, slot := 6, constantValue := 0 }, { name := "count", type := .int, accessFlags := 2, slot := 7, constantValue := 0 }, { name := "endedWhenAsked", type := .int, accessFlags := 2, slot := 8, constantValue := 0 }, { name := "tookInPlace", type := .boolean, accessFlags := 2, slot := 9, constantValue := 0 }, { name := "received", type := (.object "com/example/cablegram/cablegram/engine/Received"), accessFlags := 2, slot := 10, constantValue := 0 }, { name := "made", type := (.object "com/example/cablegram/cablegram/engine/Receive"), accessFlags := 2, slot := 11, constantValue := 0 }]
  methods := #[k7m0, k7m1, k7m2, k7m3, k7m4, k7m5, k7m6, k7m7, k7m8, k7m9, k7m10, k7m11, k7m12]
  instanceTypes := #[.boolean, .int, .long, .int, (.object "com/example/cablegram/cablegram/engine/ElementType"), (.object "java/lang/Object"), .int, .int, .int, .boolean, (.object "com/example/cablegram/cablegram/engine/Received"), (.object "com/example/cablegram/cablegram/engine/Receive")]
  staticTypes := #[]
  resolved := Array.replicate 116 none
  statics := none }

def pool8 : Array CpInfo := pool [(1, .methodref 2 3), (0, .class_ 4), (0, .nameAndType 5 6), (0, u "java/lang/Object"), (0, u "<init>"), (0, u "()V"), (0, .class_ 8), (0, u "java/lang/Record")] 13

def k8c0 : Code := { maxStack := 1, maxLocals := 1, code := jdk_30_method_1_code, exceptionTable := #[], attributes := #[] }
def k8m0 : Method := { name := "<init>", desc := "()V", sig := { parameters := [], returnType := none }, accessFlags := 4, code := some k8c0 }
/-- java/lang/Record -/
def k8 : Class := { plain "java/lang/Record" (some 0) with
  accessFlags := 1057
  interfaces := #[]
  cf := some (fileOf pool8 7 #[] #[{ accessFlags := 4, nameIndex := 5, descriptorIndex := 6, attributes := #[] }] 1057 2 #[] #[])
  fields := #[]
  methods := #[k8m0]
  instanceTypes := #[]
  staticTypes := #[]
  resolved := Array.replicate 22 none
  statics := none }

def pool9 : Array CpInfo := pool [(3, .methodref 4 5), (0, .class_ 6), (0, .nameAndType 7 8), (0, u "java/lang/Record"), (0, u "<init>"), (0, u "()V"), (0, .fieldref 10 11), (0, .class_ 12), (0, .nameAndType 13 14), (0, u "com/example/cablegram/cablegram/engine/Envelope"), (0, u "source"), (0, u "I"), (0, .fieldref 10 16), (0, .nameAndType 17 18), (0, u "context"), (0, u "J"), (0, .fieldref 10 20), (0, .nameAndType 21 14), (0, u "tag"), (0, .fieldref 10 23), (0, .nameAndType 24 25), (0, u "type"), (0, u "Lcom/example/cablegram/cablegram/engine/ElementType;"), (0, .fieldref 10 27), (0, .nameAndType 28 14), (0, u "count"), (0, .fieldref 10 30), (0, .nameAndType 31 14), (0, u "entries"), (2, u "(IJILcom/example/cablegram/cablegram/engine/ElementType;II)V"), (8, .integer 2147483648), (8, u "matches"), (0, u "(IJIIJI)Z"), (12, u "ANY_SOURCE"), (2, u "ANY_TAG"), (1, u "ANY_LIBRARY_TAG")] 49

def k9c0 : Code := { maxStack := 3, maxLocals := 8, code := prog_31_method_2_code, exceptionTable := #[], attributes := #[] }
def k9m0 : Method := { name := "<init>", desc := "(IJILcom/example/cablegram/cablegram/engine/ElementType;II)V", sig := { parameters := [.int, .long, .int, (.object "com/example/cablegram/cablegram/engine/ElementType"), .int, .int], returnType := none }, accessFlags := 1, code := some k9c0 }
def k9c1 : Code := { maxStack := 4, maxLocals := 8, code := prog_31_method_7_code, exceptionTable := #[], attributes := #[] }
def k9m1 : Method := { name := "matches", desc := "(IJIIJI)Z", sig := { parameters := [.int, .long, .int, .int, .long, .int], returnType := some .boolean }, accessFlags := 8, code := some k9c1 }
/-- com/example/cablegram/cablegram/engine/Envelope -/
def k9 : Class := { plain "com/example/cablegram/cablegram/engine/Envelope" (some 8) with
  accessFlags := 49
  interfaces := #[]
  cf := some (fileOf pool9 10 #[] #[{ accessFlags := 1, nameIndex := 7, descriptorIndex := 34, attributes := #[] }, { accessFlags := 8, nameIndex := 52, descriptorIndex := 53, attributes := #[] }] 49 4 #[] #[{ accessFlags := 18, nameIndex := 13, descriptorIndex := 14, attributes := #[] }, { accessFlags := 18, nameIndex := 17, descriptorIndex := 18, attributes := #[] }, { accessFlags := 18, nameIndex := 21, descriptorIndex := 14, attributes := #[] }, { accessFlags := 18, nameIndex := 24, descriptorIndex := 25, attributes := #[] }, { accessFlags := 18, nameIndex := 28, descriptorIndex := 14, attributes := #[] }, { accessFlags := 18, nameIndex := 31, descriptorIndex := 14, attributes := #[] }, { accessFlags := 25, nameIndex := 66, descriptorIndex := 14, attributes := #[] }, { accessFlags := 25, nameIndex := 69, descriptorIndex := 14, attributes := #[] }, { accessFlags := 25, nameIndex := 71, descriptorIndex := 14, attributes := #[] }])
  fields := #[{ name := "source", type := .int, accessFlags := 18, slot := 0, constantValue := 0 }, { name := "context", type := .long, accessFlags := 18, slot := 1, constantValue := 0 }, { name := "tag", type := .int, accessFlags := 18, slot := 2, constantValue := 0 }, { name := "type", type := (.object "com/example/cablegram/cablegram/engine/ElementType"), accessFlags := 18, slot := 3, constantValue := 0 }, { name := "count", type := .int, accessFlags := 18, slot := 4, constantValue := 0 }, { name := "entries", type := .int, accessFlags := 18, slot := 5, constantValue := 0 }, { name := "ANY_SOURCE", type := .int, accessFlags := 25, slot := 0, constantValue := 0 }, { name := "ANY_TAG", type := .int, accessFlags := 25, slot := 1, constantValue := 0 }, { name := "ANY_LIBRARY_TAG", type := .int, accessFlags := 25, slot := 2, constantValue := 0 }]
  methods := #[k9m0, k9m1]
  instanceTypes := #[.int, .long, .int, (.object "com/example/cablegram/cablegram/engine/ElementType"), .int, .int]
  staticTypes := #[.int, .int, .int]
  resolved := Array.replicate 121 none
  statics := none }

def pool10 : Array CpInfo := pool [(1, .methodref 2 3), (0, .class_ 4), (0, .nameAndType 5 6), (0, u "java/lang/Object"), (0, u "<init>"), (0, u "()V"), (0, .fieldref 8 9), (0, .class_ 10), (0, .nameAndType 11 12), (0, u "com/example/cablegram/cablegram/engine/Operation"), (0, u "order"), (0, u "Lcom/example/cablegram/cablegram/engine/CompletionOrder;"), (2, u "completedAt"), (0, u "J"), (2, u "onCompletion"), (0, u "Ljava/lang/Runnable;"), (11, u "(Lcom/example/cablegram/cablegram/engine/CompletionOrder;)V")] 19

def k10c0 : Code := { maxStack := 2, maxLocals := 2, code := prog_76_method_1_code, exceptionTable := #[], attributes := #[] }
def k10m0 : Method := { name := "<init>", desc := "(Lcom/example/cablegram/cablegram/engine/CompletionOrder;)V", sig := { parameters := [(.object "com/example/cablegram/cablegram/engine/CompletionOrder")], returnType := none }, accessFlags := 0, code := some k10c0 }
/-- com/example/cablegram/cablegram/engine/Operation -/
def k10 : Class := { plain "com/example/cablegram/cablegram/engine/Operation" (some 0) with
  accessFlags := 1057
  interfaces := #[]
  cf := some (fileOf pool10 8 #[] #[{ accessFlags := 0, nameIndex := 5, descriptorIndex := 32, attributes := #[] }] 1057 2 #[] #[{ accessFlags := 18, nameIndex := 11, descriptorIndex := 12, attributes := #[] }, { accessFlags := 2, nameIndex := 19, descriptorIndex := 20, attributes := #[] }, { accessFlags := 2, nameIndex := 15, descriptorIndex := 16, attributes := #[] }])
  fields := #[{ name := "order", type := (.object "com/example/cablegram/cablegram/engine/CompletionOrder"), accessFlags := 18, slot := 0, constantValue := 0 }, { name := "onCompletion", type := (.object "java/lang/Runnable"), accessFlags := 2, slot := 1, constantValue := 0 }, { name := "completedAt", type := .long, accessFlags := 2, slot := 2, constantValue := 0 }]
  methods := #[k10m0]
  instanceTypes := #[(.object "com/example/cablegram/cablegram/engine/CompletionOrder"), (.object "java/lang/Runnable"), .long]
  staticTypes := #[]
  resolved := Array.replicate 52 none
  statics := none }

def pool11 : Array CpInfo := pool [(1, .methodref 2 3), (0, .class_ 4), (0, .nameAndType 5 6), (0, u "com/example/cablegram/cablegram/engine/Operation"), (0, u "<init>"), (0, u "(Lcom/example/cablegram/cablegram/engine/CompletionOrder;)V"), (0, .fieldref 8 9), (0, .class_ 10), (0, .nameAndType 11 12), (0, u "com/example/cablegram/cablegram/engine/Receive"), (0, u "source"), (0, u "I"), (0, .fieldref 8 14), (0, .nameAndType 15 16), (0, u "context"), (0, u "J"), (0, .fieldref 8 18), (0, .nameAndType 19 12), (0, u "tag"), (0, .fieldref 8 21), (0, .nameAndType 22 23), (0, u "type"), (0, u "Lcom/example/cablegram/cablegram/engine/ElementType;"), (0, .fieldref 8 25), (0, .nameAndType 26 27), (0, u "array"), (0, u "Ljava/lang/Object;"), (0, .fieldref 8 29), (0, .nameAndType 30 12), (0, u "offset"), (0, .fieldref 8 32), (0, .nameAndType 33 12), (0, u "count"), (0, .fieldref 8 35), (0, .nameAndType 36 37), (0, u "ahead"), (0, u "Lcom/example/cablegram/cablegram/engine/ArraysAhead;"), (36, u "message"), (0, u "Lcom/example/cablegram/cablegram/engine/Message;"), (27, u "cancelled"), (0, u "Z"), (50, u "(Lcom/example/cablegram/cablegram/engine/CompletionOrder;IJILcom/example/cablegram/cablegram/engine/ElementType;Ljava/lang/Object;IILcom/example/cablegram/cablegram/engine/ArraysAhead;)V")] 14

def k11c0 : Code := { maxStack := 3, maxLocals := 11, code := prog_82_method_1_code, exceptionTable := #[], attributes := #[] }
def k11m0 : Method := { name := "<init>", desc := "(Lcom/example/cablegram/cablegram/engine/CompletionOrder;IJILcom/example/cablegram/cablegram/engine/ElementType;Ljava/lang/Object;IILcom/example/cablegram/cablegram/engine/ArraysAhead;)V", sig := { parameters := [(.object "com/example/cablegram/cablegram/engine/CompletionOrder"), .int, .long, .int, (.object "com/example/cablegram/cablegram/engine/ElementType"), (.object "java/lang/Object"), .int, .int, (.object "com/example/cablegram/cablegram/engine/ArraysAhead")], returnType := none }, accessFlags := 0, code := some k11c0 }
/-- com/example/cablegram/cablegram/engine/Receive -/
def k11 : Class := { plain "com/example/cablegram/cablegram/engine/Receive" (some 10) with
  accessFlags := 48
  interfaces := #[]
  cf := some (fileOf pool11 8 #[] #[{ accessFlags := 0, nameIndex := 5, descriptorIndex := 155, attributes := #[] }] 48 2 #[] #[{ accessFlags := 18, nameIndex := 11, descriptorIndex := 12, attributes := #[] }, { accessFlags := 18, nameIndex := 15, descriptorIndex := 16, attributes := #[] }, { accessFlags := 18, nameIndex := 19, descriptorIndex := 12, attributes := #[] }, { accessFlags := 18, nameIndex := 22, descriptorIndex := 23, attributes := #[] }, { accessFlags := 18, nameIndex := 26, descriptorIndex := 27, attributes := #[] }, { accessFlags := 18, nameIndex := 30, descriptorIndex := 12, attributes := #[] }, { accessFlags := 18, nameIndex := 33, descriptorIndex := 12, attributes := #[] }, { accessFlags := 18, nameIndex := 36, descriptorIndex := 37, attributes := #[] }, { accessFlags := 2, nameIndex := 74, descriptorIndex := 75, attributes := #[] }, { accessFlags := 2, nameIndex := 103, descriptorIndex := 104, attributes := #[] }])
  fields := #[{ name := "source", type := .int, accessFlags := 18, slot := 3, constantValue := 0 }, { name := "context", type := .long, accessFlags := 18, slot := 4, constantValue := 0 }, { name := "tag", type := .int, accessFlags := 18, slot := 5, constantValue := 0 }, { name := "type", type := (.object "com/example/cablegram/cablegram/engine/ElementType"), accessFlags := 18, slot := 6, constantValue := 0 }, { name := "array", type := (.object "java/lang/Object"), accessFlags := 18, slot := 7, constantValue := 0 }, { name := "offset", type := .int, accessFlags := 18, slot := 8, constantValue := 0 }, { name := "count", type := .int, accessFlags := 18, slot := 9, constantValue := 0 }, { name := "ahead", type := (.object "com/example/cablegram/cablegram/engine/ArraysAhead"), accessFlags := 18, slot := 10, constantValue := 0 }, { name := "message", type := (.object "com/example/cablegram/cablegram/engine/Message"), accessFlags := 2, slot := 11, constantValue := 0 }, { name := "cancelled", type := .boolean, accessFlags := 2, slot := 12, constantValue := 0 }]
  methods := #[k11m0]
  instanceTypes := #[(.object "com/example/cablegram/cablegram/engine/CompletionOrder"), (.object "java/lang/Runnable"), .long, .int, .long, .int, (.object "com/example/cablegram/cablegram/engine/ElementType"), (.object "java/lang/Object"), .int, .int, (.object "com/example/cablegram/cablegram/engine/ArraysAhead"), (.object "com/example/cablegram/cablegram/engine/Message"), .boolean]
  staticTypes := #[]
  resolved := Array.replicate 170 none
  statics := none }

def pool12 : Array CpInfo := pool [(2, .class_ 4), (1, u "com/example/cablegram/cablegram/engine/ElementType"), (2, .class_ 8), (0, u "[J"), (21, .class_ 32), (1, u "com/example/cablegram/cablegram/engine/ElementType$6"), (9, u "(Ljava/nio/ByteBuffer;Ljava/lang/Object;II)V"), (1, u "getEach")] 7

def k12c0 : Code := { maxStack := 4, maxLocals := 7, code := prog_19_method_3_code, exceptionTable := #[], attributes := #[] }
def k12m0 : Method := { name := "getEach", desc := "(Ljava/nio/ByteBuffer;Ljava/lang/Object;II)V", sig := { parameters := [(.object "java/nio/ByteBuffer"), (.object "java/lang/Object"), .int, .int], returnType := none }, accessFlags := 0, code := some k12c0 }
/-- com/example/cablegram/cablegram/engine/ElementType$6 -/
def k12 : Class := { plain "com/example/cablegram/cablegram/engine/ElementType$6" (some 6) with
  accessFlags := 16432
  interfaces := #[]
  cf := some (fileOf pool12 30 #[.nestHost 2] #[{ accessFlags := 0, nameIndex := 44, descriptorIndex := 42, attributes := #[] }] 16432 2 #[] #[])
  fields := #[]
  methods := #[k12m0]
  instanceTypes := #[(.object "java/lang/String"), .int, .int, .byte, .int, .int, (.object "java/lang/Class")]
  staticTypes := #[]
  resolved := Array.replicate 52 none
  statics := none }

def pool13 : Array CpInfo := pool [(1, .methodref 2 3), (0, .class_ 4), (0, .nameAndType 5 6), (0, u "java/lang/Record"), (0, u "<init>"), (0, u "()V"), (0, .fieldref 8 9), (0, .class_ 10), (0, .nameAndType 11 12), (0, u "com/example/cablegram/cablegram/engine/Received"), (0, u "envelope"), (0, u "Lcom/example/cablegram/cablegram/engine/Envelope;"), (0, .fieldref 8 14), (0, .nameAndType 15 16), (0, u "delivered"), (0, u "Z"), (0, .fieldref 8 18), (0, .nameAndType 19 20), (0, u "elements"), (0, u "Ljava/lang/Object;"), (0, .methodref 8 22), (0, .nameAndType 5 23), (0, u "(Lcom/example/cablegram/cablegram/engine/Envelope;ZLjava/lang/Object;)V"), (12, u "(Lcom/example/cablegram/cablegram/engine/Envelope;Z)V")] 31

def k13c0 : Code := { maxStack := 4, maxLocals := 3, code := prog_83_method_1_code, exceptionTable := #[], attributes := #[] }
def k13m0 : Method := { name := "<init>", desc := "(Lcom/example/cablegram/cablegram/engine/Envelope;Z)V", sig := { parameters := [(.object "com/example/cablegram/cablegram/engine/Envelope"), .boolean], returnType := none }, accessFlags := 0, code := some k13c0 }
def k13c1 : Code := { maxStack := 2, maxLocals := 4, code := prog_83_method_2_code, exceptionTable := #[], attributes := #[] }
def k13m1 : Method := { name := "<init>", desc := "(Lcom/example/cablegram/cablegram/engine/Envelope;ZLjava/lang/Object;)V", sig := { parameters := [(.object "com/example/cablegram/cablegram/engine/Envelope"), .boolean, (.object "java/lang/Object")], returnType := none }, accessFlags := 1, code := some k13c1 }
/-- com/example/cablegram/cablegram/engine/Received -/
def k13 : Class := { plain "com/example/cablegram/cablegram/engine/Received" (some 8) with
  accessFlags := 49
  interfaces := #[]
  cf := some (fileOf pool13 8 #[] #[{ accessFlags := 0, nameIndex := 5, descriptorIndex := 36, attributes := #[] }, { accessFlags := 1, nameIndex := 5, descriptorIndex := 23, attributes := #[] }] 49 2 #[] #[{ accessFlags := 18, nameIndex := 11, descriptorIndex := 12, attributes := #[] }, { accessFlags := 18, nameIndex := 15, descriptorIndex := 16, attributes := #[] }, { accessFlags := 18, nameIndex := 19, descriptorIndex := 20, attributes := #[] }])
  fields := #[{ name := "envelope", type := (.object "com/example/cablegram/cablegram/engine/Envelope"), accessFlags := 18, slot := 0, constantValue := 0 }, { name := "delivered", type := .boolean, accessFlags := 18, slot := 1, constantValue := 0 }, { name := "elements", type := (.object "java/lang/Object"), accessFlags := 18, slot := 2, constantValue := 0 }]
  methods := #[k13m0, k13m1]
  instanceTypes := #[(.object "com/example/cablegram/cablegram/engine/Envelope"), .boolean, (.object "java/lang/Object")]
  staticTypes := #[]
  resolved := Array.replicate 68 none
  statics := none }

def pool14 : Array CpInfo := pool [(2, .class_ 4), (1, u "com/example/cablegram/cablegram/engine/ElementType"), (25, .class_ 32), (1, u "com/example/cablegram/cablegram/engine/ElementType$5")] 19

/-- com/example/cablegram/cablegram/engine/ElementType$5 -/
def k14 : Class := { plain "com/example/cablegram/cablegram/engine/ElementType$5" (some 6) with
  accessFlags := 16432
  interfaces := #[]
  cf := some (fileOf pool14 30 #[.nestHost 2] #[] 16432 2 #[] #[])
  fields := #[]
  methods := #[]
  instanceTypes := #[(.object "java/lang/String"), .int, .int, .byte, .int, .int, (.object "java/lang/Class")]
  staticTypes := #[]
  resolved := Array.replicate 52 none
  statics := none }

def pool15 : Array CpInfo := pool [(2, .class_ 4), (1, u "com/example/cablegram/cablegram/engine/ElementType"), (25, .class_ 32), (1, u "com/example/cablegram/cablegram/engine/ElementType$8")] 19

/-- com/example/cablegram/cablegram/engine/ElementType$8 -/
def k15 : Class := { plain "com/example/cablegram/cablegram/engine/ElementType$8" (some 6) with
  accessFlags := 16432
  interfaces := #[]
  cf := some (fileOf pool15 30 #[.nestHost 2] #[] 16432 2 #[] #[])
  fields := #[]
  methods := #[]
  instanceTypes := #[(.object "java/lang/String"), .int, .int, .byte, .int, .int, (.object "java/lang/Class")]
  staticTypes := #[]
  resolved := Array.replicate 52 none
  statics := none }

def pool16 : Array CpInfo := pool [(2, .class_ 4), (1, u "com/example/cablegram/cablegram/engine/ElementType"), (13, .class_ 19), (0, u "com/example/cablegram/cablegram/engine/ElementType$1")] 11

/-- com/example/cablegram/cablegram/engine/ElementType$1 -/
def k16 : Class := { plain "com/example/cablegram/cablegram/engine/ElementType$1" (some 6) with
  accessFlags := 16432
  interfaces := #[]
  cf := some (fileOf pool16 18 #[.nestHost 2] #[] 16432 2 #[] #[])
  fields := #[]
  methods := #[]
  instanceTypes := #[(.object "java/lang/String"), .int, .int, .byte, .int, .int, (.object "java/lang/Class")]
  staticTypes := #[]
  resolved := Array.replicate 31 none
  statics := none }

def pool17 : Array CpInfo := pool [(1, u "java/lang/Cloneable"), (0, .class_ 1), (0, u "java/lang/Object"), (0, .class_ 3)] 3

/-- java/lang/Cloneable -/
def k17 : Class := { plain "java/lang/Cloneable" (some 0) with
  accessFlags := 1537
  interfaces := #[]
  cf := some (fileOf pool17 2 #[] #[] 1537 4 #[] #[])
  fields := #[]
  methods := #[]
  instanceTypes := #[]
  staticTypes := #[]
  resolved := Array.replicate 8 none
  statics := none }

/-- the primitive byte -/
def k18 : Class := { plain "byte" none with kind := .primitive 'B', accessFlags := 0x411 }
/-- [B -/
def k19 : Class := { plain "[B" (some 0) with kind := .array 18 .byte, interfaces := #[17, 4], accessFlags := 1041 }

/-- the primitive double -/
def k20 : Class := { plain "double" none with kind := .primitive 'D', accessFlags := 0x411 }
/-- [D -/
def k21 : Class := { plain "[D" (some 0) with kind := .array 20 .double, interfaces := #[17, 4], accessFlags := 1041 }

/-- the primitive int -/
def k22 : Class := { plain "int" none with kind := .primitive 'I', accessFlags := 0x411 }
/-- [I -/
def k23 : Class := { plain "[I" (some 0) with kind := .array 22 .int, interfaces := #[17, 4], accessFlags := 1041 }

/-- the primitive long -/
def k24 : Class := { plain "long" none with kind := .primitive 'J', accessFlags := 0x411 }
/-- [J -/
def k25 : Class := { plain "[J" (some 0) with kind := .array 24 .long, interfaces := #[17, 4], accessFlags := 1041 }

def heap : Heap := #[{ cls := 6, slots := #[.ref 4, .null, .null, .null, .ref 1, .ref 2, .null, .ref 3, .null, .null, .null, .int 0, .null, .null], vm := .statics 6 },
  { cls := 14, slots := #[.null, .int 0, .int 0, .int 0, .int 4, .int 0, .null], vm := .none },
  { cls := 12, slots := #[.null, .int 0, .int 0, .int 0, .int 8, .int 0, .null], vm := .none },
  { cls := 15, slots := #[.null, .int 0, .int 0, .int 0, .int 8, .int 0, .null], vm := .none },
  { cls := 16, slots := #[.null, .int 0, .int 0, .int 0, .int 1, .int 0, .null], vm := .none }]
def classes : Array Class := #[k0, k1, k2, k3, k4, k5, k6, k7, k8, k9, k10, k11, k12, k13, k14, k15, k16, k17, k18, k19, k20, k21, k22, k23, k24, k25]
def interned : List (Array UInt16 × Addr) := []
def slotsUsed : Nat := 42
def theMethod : MethodId := ⟨1, 1⟩
def args0 : Array Value := #[.int 5, .long 7, .int 3, .int 5, .int 6, .int 3]
def aboutOver (below : List Frame) : State where
  vm := { classes := classes, interned := interned.toArray }
  heap := heap
  slotsUsed := slotsUsed
  threads := #[{ frames := .invoking theMethod args0 :: below }]
def below0 : List Frame := [.native { method := ⟨0, 0⟩, args := #[] }]
def about1 : State := aboutOver below0
def p0 : Program := .bare "" "" ""
def e0 : Env := launch0.env 0 0 0
theorem w_frames : about1.frames = Frame.invoking theMethod args0 :: below0 := rfl
set_option maxRecDepth 65536 in
theorem w_args : argsFit about1.vm theMethod args0 = true := by decide +kernel
set_option maxRecDepth 65536 in
theorem w_heap : heapFits about1 = true := by decide +kernel
set_option maxRecDepth 65536 in
theorem w_runnable : about1.curStatus? = some .runnable := by decide +kernel
set_option maxRecDepth 65536 in
theorem w_alone : about1.alone = true := by decide +kernel
set_option maxRecDepth 65536 in
theorem w_named : about1.methodNamed? x = some theMethod := by decide +kernel
set_option maxRecDepth 65536 in
theorem w_hears : about1.hears theMethod below0 = true := by decide +kernel
set_option maxRecDepth 65536 in
theorem w_ripe : about1.ripe theMethod args0 below0 = true := by decide +kernel
theorem w_running : about1.status = .running := rfl
set_option maxRecDepth 65536 in
theorem w_room : about1.hasRoom e0.platform room_1 = true :=
  launch0.hasRoom_least _ room_1 (by decide +kernel) (by decide +kernel) (by decide +kernel) (by decide +kernel) (by decide +kernel) (by decide +kernel)
theorem allAtoms_all (ts : List Jvm.Cond) (a : Array Jvm.Value) (st : Jvm.State) : (allAtoms ts).before a st = ts.all (fun c => c.before a st) := by
  induction ts with
  | nil => rfl
  | cons c t ih =>
    show (Jvm.Cond.and c (allAtoms t)).before a st = _
    rw [Jvm.Cond.before_and, ih, List.all_cons]
def words1 : List Jvm.Cond := Jvm.Cond.code x code maxLocals ret :: tables_1
/-- a 'code' word, met by the world's own term for the bytes: nothing is compared byte by byte -/
theorem code_word {y : MethodName} {bytes : ByteArray} {mx : Nat} {rt : Option FieldType} {a : Array Value} {s : State} {m : MethodId} {meth : Method} {c : Code} (h1 : s.methodNamed? y = some m) (h2 : s.vm.method? m = some meth) (h3 : meth.code = some c) (h4 : c.code = bytes)
    (h5 : (c.maxLocals == mx && c.exceptionTable.isEmpty && decide (c.maxStack ≤ mostOperands) && decide (meth.sig.returnType = rt) && !meth.locks && decide (parseMethodDescriptor y.desc = some meth.sig)) = true) : (Jvm.Cond.code y bytes mx rt).before a s = true := by
  simp only [Bool.and_eq_true, beq_iff_eq, Bool.not_eq_true', decide_eq_true_eq] at h5
  obtain ⟨⟨⟨⟨⟨g1, g2⟩, g3⟩, g4⟩, g5⟩, g6⟩ := h5
  simp [Cond.before, Cond.holds, Cond.value, h1, h2, h3, h4, g1, g2, g3, g4, g5, g6]
def isCode : Jvm.Cond → Bool
  | .code _ _ _ _ => true
  | _ => false
theorem all_split {L : List Jvm.Cond} {P : Jvm.Cond → Bool} (h1 : L.all (fun c => isCode c || P c) = true) (h2 : ∀ c ∈ L.filter isCode, P c = true) : L.all P = true := by
  refine List.all_eq_true.mpr fun c hc => ?_
  have h := List.all_eq_true.mp h1 c hc
  rcases Bool.eq_false_or_eq_true (isCode c) with hi | hi
  · exact h2 c (List.mem_filter.mpr ⟨hc, hi⟩)
  · simpa [hi] using h
set_option maxRecDepth 65536 in
theorem w_c0 : (Jvm.Cond.code x code maxLocals ret).before args0 about1 = true := code_word (m := ⟨1, 1⟩) (meth := k1m1) (c := k1c1) (by decide +kernel) rfl rfl rfl (by decide +kernel)
set_option maxRecDepth 65536 in
theorem w_c1 : (Jvm.Cond.code ({ cls := "com/example/cablegram/cablegram/engine/BlockingReceive", name := "<init>", desc := "()V" } : Jvm.MethodName) prog_5_method_1_code (1 : Nat) (Option.none : Option Jvm.ClassFile.FieldType)).before args0 about1 = true := code_word (m := ⟨7, 0⟩) (meth := k7m0) (c := k7c0) (by decide +kernel) rfl rfl rfl (by decide +kernel)
set_option maxRecDepth 65536 in
theorem w_c2 : (Jvm.Cond.code ({ cls := "java/lang/Object", name := "<init>", desc := "()V" } : Jvm.MethodName) object_method_1_code (1 : Nat) (Option.none : Option Jvm.ClassFile.FieldType)).before args0 about1 = true := code_word (m := ⟨0, 0⟩) (meth := k0m0) (c := k0c0) (by decide +kernel) rfl rfl rfl (by decide +kernel)
set_option maxRecDepth 65536 in
theorem w_c3 : (Jvm.Cond.code ({ cls := "com/example/cablegram/cablegram/engine/BlockingReceive", name := "start", desc := "(IJILcom/example/cablegram/cablegram/engine/ElementType;Ljava/lang/Object;II)V" } : Jvm.MethodName) prog_5_method_2_code (9 : Nat) (Option.none : Option Jvm.ClassFile.FieldType)).before args0 about1 = true := code_word (m := ⟨7, 1⟩) (meth := k7m1) (c := k7c1) (by decide +kernel) rfl rfl rfl (by decide +kernel)
set_option maxRecDepth 65536 in
theorem w_c4 : (Jvm.Cond.code ({ cls := "com/example/cablegram/cablegram/engine/BlockingReceive", name := "source", desc := "()I" } : Jvm.MethodName) prog_5_method_11_code (1 : Nat) (Option.some Jvm.ClassFile.FieldType.int)).before args0 about1 = true := code_word (m := ⟨7, 8⟩) (meth := k7m8) (c := k7c8) (by decide +kernel) rfl rfl rfl (by decide +kernel)
set_option maxRecDepth 65536 in
theorem w_c5 : (Jvm.Cond.code ({ cls := "com/example/cablegram/cablegram/engine/BlockingReceive", name := "context", desc := "()J" } : Jvm.MethodName) prog_5_method_12_code (1 : Nat) (Option.some Jvm.ClassFile.FieldType.long)).before args0 about1 = true := code_word (m := ⟨7, 9⟩) (meth := k7m9) (c := k7c9) (by decide +kernel) rfl rfl rfl (by decide +kernel)
set_option maxRecDepth 65536 in
theorem w_c6 : (Jvm.Cond.code ({ cls := "com/example/cablegram/cablegram/engine/BlockingReceive", name := "tag", desc := "()I" } : Jvm.MethodName) prog_5_method_13_code (1 : Nat) (Option.some Jvm.ClassFile.FieldType.int)).before args0 about1 = true := code_word (m := ⟨7, 10⟩) (meth := k7m10) (c := k7c10) (by decide +kernel) rfl rfl rfl (by decide +kernel)
set_option maxRecDepth 65536 in
theorem w_c7 : (Jvm.Cond.code ({ cls := "com/example/cablegram/cablegram/engine/BlockingReceive", name := "made", desc := "()Lcom/example/cablegram/cablegram/engine/Receive;" } : Jvm.MethodName) prog_5_method_10_code (1 : Nat) (Option.some (Jvm.ClassFile.FieldType.object "com/example/cablegram/cablegram/engine/Receive"))).before args0 about1 = true := code_word (m := ⟨7, 7⟩) (meth := k7m7) (c := k7c7) (by decide +kernel) rfl rfl rfl (by decide +kernel)
set_option maxRecDepth 65536 in
theorem w_c8 : (Jvm.Cond.code ({ cls := "com/example/cablegram/cablegram/engine/BlockingReceive", name := "taken", desc := "()Lcom/example/cablegram/cablegram/engine/Received;" } : Jvm.MethodName) prog_5_method_9_code (1 : Nat) (Option.some (Jvm.ClassFile.FieldType.object "com/example/cablegram/cablegram/engine/Received"))).before args0 about1 = true := code_word (m := ⟨7, 6⟩) (meth := k7m6) (c := k7c6) (by decide +kernel) rfl rfl rfl (by decide +kernel)
set_option maxRecDepth 65536 in
theorem w_c9 : (Jvm.Cond.code ({ cls := "com/example/cablegram/cablegram/engine/BlockingReceive", name := "waitsFor", desc := "(I)Z" } : Jvm.MethodName) prog_5_method_4_code (2 : Nat) (Option.some Jvm.ClassFile.FieldType.boolean)).before args0 about1 = true := code_word (m := ⟨7, 2⟩) (meth := k7m2) (c := k7c2) (by decide +kernel) rfl rfl rfl (by decide +kernel)
set_option maxRecDepth 65536 in
theorem w_c10 : (Jvm.Cond.code ({ cls := "com/example/cablegram/cablegram/engine/BlockingReceive", name := "waitsForMessage", desc := "()Z" } : Jvm.MethodName) prog_5_method_15_code (1 : Nat) (Option.some Jvm.ClassFile.FieldType.boolean)).before args0 about1 = true := code_word (m := ⟨7, 12⟩) (meth := k7m12) (c := k7c12) (by decide +kernel) rfl rfl rfl (by decide +kernel)
set_option maxRecDepth 65536 in
theorem w_c11 : (Jvm.Cond.code ({ cls := "com/example/cablegram/cablegram/engine/Envelope", name := "matches", desc := "(IJIIJI)Z" } : Jvm.MethodName) prog_31_method_7_code (8 : Nat) (Option.some Jvm.ClassFile.FieldType.boolean)).before args0 about1 = true := code_word (m := ⟨9, 1⟩) (meth := k9m1) (c := k9c1) (by decide +kernel) rfl rfl rfl (by decide +kernel)
set_option maxRecDepth 65536 in
theorem w_c12 : (Jvm.Cond.code ({ cls := "com/example/cablegram/cablegram/engine/BlockingReceive", name := "takesInPlace", desc := "(IJILcom/example/cablegram/cablegram/engine/ElementType;I)Z" } : Jvm.MethodName) prog_5_method_5_code (7 : Nat) (Option.some Jvm.ClassFile.FieldType.boolean)).before args0 about1 = true := code_word (m := ⟨7, 3⟩) (meth := k7m3) (c := k7c3) (by decide +kernel) rfl rfl rfl (by decide +kernel)
set_option maxRecDepth 65536 in
theorem w_c13 : (Jvm.Cond.code ({ cls := "com/example/cablegram/cablegram/engine/BlockingReceive", name := "asksWhy", desc := "(I)Z" } : Jvm.MethodName) prog_5_method_14_code (3 : Nat) (Option.some Jvm.ClassFile.FieldType.boolean)).before args0 about1 = true := code_word (m := ⟨7, 11⟩) (meth := k7m11) (c := k7c11) (by decide +kernel) rfl rfl rfl (by decide +kernel)
set_option maxRecDepth 65536 in
theorem w_c14 : (Jvm.Cond.code ({ cls := "com/example/cablegram/cablegram/engine/BlockingReceive", name := "make", desc := "(Lcom/example/cablegram/cablegram/engine/CompletionOrder;Lcom/example/cablegram/cablegram/engine/ArraysAhead;)Lcom/example/cablegram/cablegram/engine/Receive;" } : Jvm.MethodName) prog_5_method_8_code (3 : Nat) (Option.some (Jvm.ClassFile.FieldType.object "com/example/cablegram/cablegram/engine/Receive"))).before args0 about1 = true := code_word (m := ⟨7, 5⟩) (meth := k7m5) (c := k7c5) (by decide +kernel) rfl rfl rfl (by decide +kernel)
set_option maxRecDepth 65536 in
theorem w_c15 : (Jvm.Cond.code ({ cls := "com/example/cablegram/cablegram/engine/Receive", name := "<init>", desc := "(Lcom/example/cablegram/cablegram/engine/CompletionOrder;IJILcom/example/cablegram/cablegram/engine/ElementType;Ljava/lang/Object;IILcom/example/cablegram/cablegram/engine/ArraysAhead;)V" } : Jvm.MethodName) prog_82_method_1_code (11 : Nat) (Option.none : Option Jvm.ClassFile.FieldType)).before args0 about1 = true := code_word (m := ⟨11, 0⟩) (meth := k11m0) (c := k11c0) (by decide +kernel) rfl rfl rfl (by decide +kernel)
set_option maxRecDepth 65536 in
theorem w_c16 : (Jvm.Cond.code ({ cls := "com/example/cablegram/cablegram/engine/Operation", name := "<init>", desc := "(Lcom/example/cablegram/cablegram/engine/CompletionOrder;)V" } : Jvm.MethodName) prog_76_method_1_code (2 : Nat) (Option.none : Option Jvm.ClassFile.FieldType)).before args0 about1 = true := code_word (m := ⟨10, 0⟩) (meth := k10m0) (c := k10c0) (by decide +kernel) rfl rfl rfl (by decide +kernel)
set_option maxRecDepth 65536 in
theorem w_c17 : (Jvm.Cond.code ({ cls := "com/example/cablegram/cablegram/engine/BlockingReceive", name := "takeInPlace", desc := "(IJILcom/example/cablegram/cablegram/engine/ElementType;IILjava/nio/ByteBuffer;)V" } : Jvm.MethodName) prog_5_method_6_code (9 : Nat) (Option.none : Option Jvm.ClassFile.FieldType)).before args0 about1 = true := code_word (m := ⟨7, 4⟩) (meth := k7m4) (c := k7c4) (by decide +kernel) rfl rfl rfl (by decide +kernel)
set_option maxRecDepth 65536 in
theorem w_c18 : (Jvm.Cond.code ({ cls := "com/example/cablegram/cablegram/engine/ElementType", name := "get", desc := "(Ljava/nio/ByteBuffer;Ljava/lang/Object;II)V" } : Jvm.MethodName) prog_12_method_23_code (5 : Nat) (Option.none : Option Jvm.ClassFile.FieldType)).before args0 about1 = true := code_word (m := ⟨6, 0⟩) (meth := k6m0) (c := k6c0) (by decide +kernel) rfl rfl rfl (by decide +kernel)
set_option maxRecDepth 65536 in
theorem w_c19 : (Jvm.Cond.code ({ cls := "com/example/cablegram/cablegram/engine/ElementType$6", name := "getEach", desc := "(Ljava/nio/ByteBuffer;Ljava/lang/Object;II)V" } : Jvm.MethodName) prog_19_method_3_code (7 : Nat) (Option.none : Option Jvm.ClassFile.FieldType)).before args0 about1 = true := code_word (m := ⟨12, 0⟩) (meth := k12m0) (c := k12c0) (by decide +kernel) rfl rfl rfl (by decide +kernel)
set_option maxRecDepth 65536 in
theorem w_c20 : (Jvm.Cond.code ({ cls := "com/example/cablegram/cablegram/engine/Envelope", name := "<init>", desc := "(IJILcom/example/cablegram/cablegram/engine/ElementType;II)V" } : Jvm.MethodName) prog_31_method_2_code (8 : Nat) (Option.none : Option Jvm.ClassFile.FieldType)).before args0 about1 = true := code_word (m := ⟨9, 0⟩) (meth := k9m0) (c := k9c0) (by decide +kernel) rfl rfl rfl (by decide +kernel)
set_option maxRecDepth 65536 in
theorem w_c21 : (Jvm.Cond.code ({ cls := "java/lang/Record", name := "<init>", desc := "()V" } : Jvm.MethodName) jdk_30_method_1_code (1 : Nat) (Option.none : Option Jvm.ClassFile.FieldType)).before args0 about1 = true := code_word (m := ⟨8, 0⟩) (meth := k8m0) (c := k8c0) (by decide +kernel) rfl rfl rfl (by decide +kernel)
set_option maxRecDepth 65536 in
theorem w_c22 : (Jvm.Cond.code ({ cls := "com/example/cablegram/cablegram/engine/Received", name := "<init>", desc := "(Lcom/example/cablegram/cablegram/engine/Envelope;Z)V" } : Jvm.MethodName) prog_83_method_1_code (3 : Nat) (Option.none : Option Jvm.ClassFile.FieldType)).before args0 about1 = true := code_word (m := ⟨13, 0⟩) (meth := k13m0) (c := k13c0) (by decide +kernel) rfl rfl rfl (by decide +kernel)
set_option maxRecDepth 65536 in
theorem w_c23 : (Jvm.Cond.code ({ cls := "com/example/cablegram/cablegram/engine/Received", name := "<init>", desc := "(Lcom/example/cablegram/cablegram/engine/Envelope;ZLjava/lang/Object;)V" } : Jvm.MethodName) prog_83_method_2_code (4 : Nat) (Option.none : Option Jvm.ClassFile.FieldType)).before args0 about1 = true := code_word (m := ⟨13, 1⟩) (meth := k13m1) (c := k13c1) (by decide +kernel) rfl rfl rfl (by decide +kernel)
def codes1 : List Jvm.Cond := [Jvm.Cond.code x code maxLocals ret, Jvm.Cond.code ({ cls := "com/example/cablegram/cablegram/engine/BlockingReceive", name := "<init>", desc := "()V" } : Jvm.MethodName) prog_5_method_1_code (1 : Nat) (Option.none : Option Jvm.ClassFile.FieldType), Jvm.Cond.code ({ cls := "java/lang/Object", name := "<init>", desc := "()V" } : Jvm.MethodName) object_method_1_code (1 : Nat) (Option.none : Option Jvm.ClassFile.FieldType), Jvm.Cond.code ({ cls := "com/example/cablegram/cablegram/engine/BlockingReceive", name := "start", desc := "(IJILcom/example/cablegram/cablegram/engine/ElementType;Ljava/lang/Object;II)V" } : Jvm.MethodName) prog_5_method_2_code (9 : Nat) (Option.none : Option Jvm.ClassFile.FieldType), Jvm.Cond.code ({ cls := "com/example/cablegram/cablegram/engine/BlockingReceive", name := "source", desc := "()I" } : Jvm.MethodName) prog_5_method_11_code (1 : Nat) (Option.some Jvm.ClassFile.FieldType.int), Jvm.Cond.code ({ cls := "com/example/cablegram/cablegram/engine/BlockingReceive", name := "context", desc := "()J" } : Jvm.MethodName) prog_5_method_12_code (1 : Nat) (Option.some Jvm.ClassFile.FieldType.long), Jvm.Cond.code ({ cls := "com/example/cablegram/cablegram/engine/BlockingReceive", name := "tag", desc := "()I" } : Jvm.MethodName) prog_5_method_13_code (1 : Nat) (Option.some Jvm.ClassFile.FieldType.int), Jvm.Cond.code ({ cls := "com/example/cablegram/cablegram/engine/BlockingReceive", name := "made", desc := "()Lcom/example/cablegram/cablegram/engine/Receive;" } : Jvm.MethodName) prog_5_method_10_code (1 : Nat) (Option.some (Jvm.ClassFile.FieldType.object "com/example/cablegram/cablegram/engine/Receive")), Jvm.Cond.code ({ cls := "com/example/cablegram/cablegram/engine/BlockingReceive", name := "taken", desc := "()Lcom/example/cablegram/cablegram/engine/Received;" } : Jvm.MethodName) prog_5_method_9_code (1 : Nat) (Option.some (Jvm.ClassFile.FieldType.object "com/example/cablegram/cablegram/engine/Received")), Jvm.Cond.code ({ cls := "com/example/cablegram/cablegram/engine/BlockingReceive", name := "waitsFor", desc := "(I)Z" } : Jvm.MethodName) prog_5_method_4_code (2 : Nat) (Option.some Jvm.ClassFile.FieldType.boolean), Jvm.Cond.code ({ cls := "com/example/cablegram/cablegram/engine/BlockingReceive", name := "waitsForMessage", desc := "()Z" } : Jvm.MethodName) prog_5_method_15_code (1 : Nat) (Option.some Jvm.ClassFile.FieldType.boolean), Jvm.Cond.code ({ cls := "com/example/cablegram/cablegram/engine/Envelope", name := "matches", desc := "(IJIIJI)Z" } : Jvm.MethodName) prog_31_method_7_code (8 : Nat) (Option.some Jvm.ClassFile.FieldType.boolean), Jvm.Cond.code ({ cls := "com/example/cablegram/cablegram/engine/BlockingReceive", name := "takesInPlace", desc := "(IJILcom/example/cablegram/cablegram/engine/ElementType;I)Z" } : Jvm.MethodName) prog_5_method_5_code (7 : Nat) (Option.some Jvm.ClassFile.FieldType.boolean), Jvm.Cond.code ({ cls := "com/example/cablegram/cablegram/engine/BlockingReceive", name := "asksWhy", desc := "(I)Z" } : Jvm.MethodName) prog_5_method_14_code (3 : Nat) (Option.some Jvm.ClassFile.FieldType.boolean), Jvm.Cond.code ({ cls := "com/example/cablegram/cablegram/engine/BlockingReceive", name := "make", desc := "(Lcom/example/cablegram/cablegram/engine/CompletionOrder;Lcom/example/cablegram/cablegram/engine/ArraysAhead;)Lcom/example/cablegram/cablegram/engine/Receive;" } : Jvm.MethodName) prog_5_method_8_code (3 : Nat) (Option.some (Jvm.ClassFile.FieldType.object "com/example/cablegram/cablegram/engine/Receive")), Jvm.Cond.code ({ cls := "com/example/cablegram/cablegram/engine/Receive", name := "<init>", desc := "(Lcom/example/cablegram/cablegram/engine/CompletionOrder;IJILcom/example/cablegram/cablegram/engine/ElementType;Ljava/lang/Object;IILcom/example/cablegram/cablegram/engine/ArraysAhead;)V" } : Jvm.MethodName) prog_82_method_1_code (11 : Nat) (Option.none : Option Jvm.ClassFile.FieldType), Jvm.Cond.code ({ cls := "com/example/cablegram/cablegram/engine/Operation", name := "<init>", desc := "(Lcom/example/cablegram/cablegram/engine/CompletionOrder;)V" } : Jvm.MethodName) prog_76_method_1_code (2 : Nat) (Option.none : Option Jvm.ClassFile.FieldType), Jvm.Cond.code ({ cls := "com/example/cablegram/cablegram/engine/BlockingReceive", name := "takeInPlace", desc := "(IJILcom/example/cablegram/cablegram/engine/ElementType;IILjava/nio/ByteBuffer;)V" } : Jvm.MethodName) prog_5_method_6_code (9 : Nat) (Option.none : Option Jvm.ClassFile.FieldType), Jvm.Cond.code ({ cls := "com/example/cablegram/cablegram/engine/ElementType", name := "get", desc := "(Ljava/nio/ByteBuffer;Ljava/lang/Object;II)V" } : Jvm.MethodName) prog_12_method_23_code (5 : Nat) (Option.none : Option Jvm.ClassFile.FieldType), Jvm.Cond.code ({ cls := "com/example/cablegram/cablegram/engine/ElementType$6", name := "getEach", desc := "(Ljava/nio/ByteBuffer;Ljava/lang/Object;II)V" } : Jvm.MethodName) prog_19_method_3_code (7 : Nat) (Option.none : Option Jvm.ClassFile.FieldType), Jvm.Cond.code ({ cls := "com/example/cablegram/cablegram/engine/Envelope", name := "<init>", desc := "(IJILcom/example/cablegram/cablegram/engine/ElementType;II)V" } : Jvm.MethodName) prog_31_method_2_code (8 : Nat) (Option.none : Option Jvm.ClassFile.FieldType), Jvm.Cond.code ({ cls := "java/lang/Record", name := "<init>", desc := "()V" } : Jvm.MethodName) jdk_30_method_1_code (1 : Nat) (Option.none : Option Jvm.ClassFile.FieldType), Jvm.Cond.code ({ cls := "com/example/cablegram/cablegram/engine/Received", name := "<init>", desc := "(Lcom/example/cablegram/cablegram/engine/Envelope;Z)V" } : Jvm.MethodName) prog_83_method_1_code (3 : Nat) (Option.none : Option Jvm.ClassFile.FieldType), Jvm.Cond.code ({ cls := "com/example/cablegram/cablegram/engine/Received", name := "<init>", desc := "(Lcom/example/cablegram/cablegram/engine/Envelope;ZLjava/lang/Object;)V" } : Jvm.MethodName) prog_83_method_2_code (4 : Nat) (Option.none : Option Jvm.ClassFile.FieldType)]
set_option maxRecDepth 65536 in
theorem codes_eq : words1.filter isCode = codes1 := rfl
theorem w_codes : ∀ c ∈ words1.filter isCode, c.before args0 about1 = true := by
  rw [codes_eq]
  intro c hc
  simp only [codes1, List.mem_cons, List.not_mem_nil, or_false] at hc
  rcases hc with rfl | rfl | rfl | rfl | rfl | rfl | rfl | rfl | rfl | rfl | rfl | rfl | rfl | rfl | rfl | rfl | rfl | rfl | rfl | rfl | rfl | rfl | rfl | rfl
  · exact w_c0
  · exact w_c1
  · exact w_c2
  · exact w_c3
  · exact w_c4
  · exact w_c5
  · exact w_c6
  · exact w_c7
  · exact w_c8
  · exact w_c9
  · exact w_c10
  · exact w_c11
  · exact w_c12
  · exact w_c13
  · exact w_c14
  · exact w_c15
  · exact w_c16
  · exact w_c17
  · exact w_c18
  · exact w_c19
  · exact w_c20
  · exact w_c21
  · exact w_c22
  · exact w_c23
set_option maxRecDepth 65536 in
theorem w_t1 : (words1.take 24).all (fun c => isCode c || c.before args0 about1) = true := by decide +kernel
set_option maxRecDepth 65536 in
theorem w_t2 : ((words1.drop 24).take 24).all (fun c => isCode c || c.before args0 about1) = true := by decide +kernel
set_option maxRecDepth 65536 in
theorem w_t3 : (((words1.drop 24).drop 24).take 24).all (fun c => isCode c || c.before args0 about1) = true := by decide +kernel
set_option maxRecDepth 65536 in
theorem w_t4 : ((((words1.drop 24).drop 24).drop 24).take 24).all (fun c => isCode c || c.before args0 about1) = true := by decide +kernel
set_option maxRecDepth 65536 in
theorem w_t5 : (((((words1.drop 24).drop 24).drop 24).drop 24).take 24).all (fun c => isCode c || c.before args0 about1) = true := by decide +kernel
set_option maxRecDepth 65536 in
theorem w_t6 : ((((((words1.drop 24).drop 24).drop 24).drop 24).drop 24).take 24).all (fun c => isCode c || c.before args0 about1) = true := by decide +kernel
set_option maxRecDepth 65536 in
theorem w_t7 : (((((((words1.drop 24).drop 24).drop 24).drop 24).drop 24).drop 24).take 24).all (fun c => isCode c || c.before args0 about1) = true := by decide +kernel
set_option maxRecDepth 65536 in
theorem w_t8 : ((((((((words1.drop 24).drop 24).drop 24).drop 24).drop 24).drop 24).drop 24).take 24).all (fun c => isCode c || c.before args0 about1) = true := by decide +kernel
set_option maxRecDepth 65536 in
theorem w_t9 : ((((((((words1.drop 24).drop 24).drop 24).drop 24).drop 24).drop 24).drop 24).drop 24).all (fun c => isCode c || c.before args0 about1) = true := by decide +kernel
theorem w_tables : (allAtoms (Jvm.Cond.code x code maxLocals ret :: tables_1)).before args0 about1 = true := by
  rw [allAtoms_all]
  show words1.all (fun c => c.before args0 about1) = true
  refine all_split ?_ w_codes
  rw [← List.take_append_drop 24 words1, List.all_append, w_t1, ← List.take_append_drop 24 (words1.drop 24), List.all_append, w_t2, ← List.take_append_drop 24 ((words1.drop 24).drop 24), List.all_append, w_t3, ← List.take_append_drop 24 (((words1.drop 24).drop 24).drop 24), List.all_append, w_t4, ← List.take_append_drop 24 ((((words1.drop 24).drop 24).drop 24).drop 24), List.all_append, w_t5, ← List.take_append_drop 24 (((((words1.drop 24).drop 24).drop 24).drop 24).drop 24), List.all_append, w_t6, ← List.take_append_drop 24 ((((((words1.drop 24).drop 24).drop 24).drop 24).drop 24).drop 24), List.all_append, w_t7, ← List.take_append_drop 24 (((((((words1.drop 24).drop 24).drop 24).drop 24).drop 24).drop 24).drop 24), List.all_append, w_t8, w_t9]
  rfl
set_option maxRecDepth 65536 in
theorem w_case : (Jvm.Cond.and given_1 narrow_1).before args0 about1 = true := by decide +kernel
theorem w_applies : (headSpec (Jvm.Cond.code x code maxLocals ret :: tables_1) room_1).applies x e0.platform about1 = true :=
  (Spec.applies_iff w_frames).mpr ⟨w_running, w_runnable, w_alone, w_named, w_hears, w_ripe, w_room, w_tables⟩
theorem atStart : AtStart classFile x code maxLocals ret World_1 tables_1 room_1 Calls_1 rest_1 Pre_1 launch0 p0 e0 about1 theMethod args0 below0 :=
  ⟨lists_1, trivial, launch0.admits_env _ _ _, launch0.least_env, fairChoices_fair.cas, fairChoices_fair.clock, w_frames, w_args, w_heap, w_applies, trivial, trivial, w_case⟩
end start1
theorem witness_1 : WitnessClaimed_1 := ⟨start1.p0, start1.e0, start1.about1, start1.theMethod, start1.args0, start1.below0, start1.atStart⟩
end Jvm.Pilot.@@N@@
