import JvmDerived
import JvmDerived.Pilot.@@N@@Statement
import JvmDerived.Pilot.@@N@@Code
set_option linter.unusedVariables false
set_option linter.unusedSimpArgs false
namespace Jvm.RoadKit
open Sem ClassFile Op Lib Jvm.Stand Jvm.Free Jvm.LawKit
section New
variable {p : Program} {l : Launch} {e : Env} {R : Room} {s : State} {m : MethodId} {args : Array Value} {below : List Frame} {meth : Method} {c : Code} {T : State} {locs : List Loc} {cells slots : Nat}
theorem retI (X : Stand p l e R s m args below meth c T locs cells slots) (hx : p.tables.exec = Jvm.exec) {pc : Nat} {Ls : Array Slot} {z : Int32} {rest : List Value} (hret : meth.sig.returnType = some .int) (hd : decode c.code pc = .ok (.ireturn, 1)) {fs : List Frame}
    (hl : ∀ (f : JFrame) (acts : List Action), f.method = m → f.locked = none → f.entered = [] → (doReturn e (T.setTop f) acts (some (.int z))).1 = T.setFrames fs) : Steps p.tables e below (T.setTop (mkF m pc Ls (.int z :: rest))) (T.setFrames fs) := by
  have hm' : T.vm.method? m = some meth := X.method'
  have hn : narrow .int (.int z) = .int z := rfl
  show Steps p.tables e below (T.setTop { method := m, pc := pc, locals := Ls, stack := _ :: rest, locked := none }) _
  jvm_step X.here [X.here.top, hx, hd, hm', hret, hn]
  first | (intro acts; rw [hl _ acts rfl rfl rfl]) | rw [hl _ _ rfl rfl rfl]
  exact Steps.refl _
end New
/-- the run comes, from the state U, to an end at which Q holds -/
def Go (tb : Tables) (e : Env) (below : List Frame) (Q : Outcome → State → Prop) (U : State) : Prop := ∃ s₂ o, Steps tb e below U s₂ ∧ s₂.status = .running ∧ Ended s₂ below o ∧ Q o s₂
theorem Go.on {tb : Tables} {e : Env} {below : List Frame} {Q : Outcome → State → Prop} {A B : State} (h : ∀ t, Steps tb e below B t → Steps tb e below A t) (k : Go tb e below Q B) : Go tb e below Q A := by
  obtain ⟨s₂, o, h1, h2⟩ := k
  exact ⟨s₂, o, h _ h1, h2⟩
end Jvm.RoadKit
namespace Jvm.Pilot.@@N@@
open Jvm Jvm.ClassFile Sem Op Lib Jvm.Free Jvm.Stand Jvm.LawKit Jvm.RoadKit Bundle Jvm.Pilot.@@N@@.Jvm.D
theorem d1_0 : decode prog_50_method_1_code 0 = .ok (.aload_n 0, 1) := by decide +kernel
theorem d1_1 : decode prog_50_method_1_code 1 = .ok (.invokespecial 1, 3) := by decide +kernel
theorem d1_4 : decode prog_50_method_1_code 4 = .ok (.aload_n 0, 1) := by decide +kernel
theorem d1_5 : decode prog_50_method_1_code 5 = .ok (.sipush 1024, 3) := by decide +kernel
theorem d1_8 : decode prog_50_method_1_code 8 = .ok (.newarray .byte, 2) := by decide +kernel
theorem d1_10 : decode prog_50_method_1_code 10 = .ok (.putfield 9, 3) := by decide +kernel
theorem d1_13 : decode prog_50_method_1_code 13 = .ok (.return_, 1) := by decide +kernel
theorem pn_2 : plainName "com/example/pankti/pankti/protocol/ByteWindow" = true := by first | (simp [plainName, overriddenIn]; done) | decide +kernel
theorem ef_rini (m : MethodId) (a1 : Addr) : entryFrame m #[(.ref a1)] 1 = mkF m 0 #[.val (.ref a1)] [] := by first | (simp [entryFrame, mkF, argsToLocals, Value.category]; done) | rfl
def Q_rini (Z : State) (a1 : Addr) (h0 : Heap) (n0 : Nat) (v : Option Value) (h : Heap) (L : List Loc) : Prop := v = none ∧ Fr n0 L ∧ Keep h0 h [a1] ∧ Exa Z h a1 "com/example/pankti/pankti/protocol/ByteWindow" ∧ (∃ b : Addr, Fld Z h a1 "com/example/pankti/pankti/protocol/ByteWindow" "bytes" "[B" (.ref b)) ∧ Fld Z h a1 "com/example/pankti/pankti/protocol/ByteWindow" "start" "I" (.int (0 : Int32)) ∧ Fld Z h a1 "com/example/pankti/pankti/protocol/ByteWindow" "end" "I" (.int (0 : Int32))
set_option maxRecDepth 65536 in
set_option maxHeartbeats 40000000 in
theorem rini (l : Launch) (Z : State) (a0 : Array Value) (hw : ∀ d ∈ tables_1, d.before a0 Z = true) (ws : List Jvm.Cond) (a1 : Addr) (h0 : Heap) (n0 : Nat) (Z0 : n0 ≤ h0.size) (E1 : Exa Z h0 a1 "com/example/pankti/pankti/protocol/ByteWindow") (F_bytes : Fld Z h0 a1 "com/example/pankti/pankti/protocol/ByteWindow" "bytes" "[B" .null) (F_start : Fld Z h0 a1 "com/example/pankti/pankti/protocol/ByteWindow" "start" "I" (.int (0 : Int32))) (F_end : Fld Z h0 a1 "com/example/pankti/pankti/protocol/ByteWindow" "end" "I" (.int (0 : Int32))) (g1 : n0 ≤ a1) :
    MetFree l (⟨"com/example/pankti/pankti/protocol/ByteWindow", "<init>", "()V"⟩ : MethodName) (head1 (Jvm.Cond.code (⟨"com/example/pankti/pankti/protocol/ByteWindow", "<init>", "()V"⟩ : MethodName) prog_50_method_1_code 1 none :: ws) ({ frames := 1, cells := 1, slots := 1024, locals := 14 } : Room)) (fun a U => a = #[(.ref a1)] ∧ Z.Warmed39 U.vm ∧ U.heap = h0) (fun _ _ _ _ _ => True) (fun _ U o U' => ∃ v L, o = .returned v ∧ Q_rini Z a1 h0 n0 v U'.heap L ∧ FrameEnd U o U' L ({ frames := 1, cells := 1, slots := 1024, locals := 14 } : Room).cells ({ frames := 1, cells := 1, slots := 1024, locals := 14 } : Room).slots) := by
  refine MetFree.of_bodySF (plainFor_of_name pn_2) hisR ?_
  intro p e s m args below meth c s₁ Bd hml0 hP hK
  obtain ⟨rfl, hZ, hh⟩ := hP
  have hx := Bd.exec
  have hby := Bd.bytes
  have hml : c.maxLocals = 1 := hml0
  have hown : s.vm.findClass "com/example/pankti/pankti/protocol/ByteWindow" = some m.cls := findClass_of_methodNamed Bd.named
  have hnm := (name_of_methodNamed Bd.named Bd.method).1
  have X0 : Stand p l e ({ frames := 1, cells := 1, slots := 1024, locals := 14 } : Room) s m #[(.ref a1)] below meth c s₁ [] 0 0 := Stand.of_body Bd
  have e0 : s₁.heap = h0 := by rw [← hh, Bd.state]; rfl
  have N0 := Fr.nil n0
  have pre0 : ∀ t, Steps p.tables e below (s₁.setTop (mkF m 0 #[.val (.ref a1)] [])) t → Steps p.tables e below (s₁.setTop (entryFrame m #[(.ref a1)] 1)) t := fun t k => castTop (ef_rini m a1) k
  change Go p.tables e below (fun o U' => ∃ v L, o = .returned v ∧ Q_rini Z a1 h0 n0 v U'.heap L ∧ FrameEnd s o U' L ({ frames := 1, cells := 1, slots := 1024, locals := 14 } : Room).cells ({ frames := 1, cells := 1, slots := 1024, locals := 14 } : Room).slots) (s₁.setTop (entryFrame m #[(.ref a1)] 1))
  have K0 := Keep.refl h0 [a1]
  refine Go.on pre0 ?_
  refine Go.on (B := s₁.setTop (mkF m 1 #[.val (.ref a1)] [(.ref a1)])) (fun t k => XS.aloadN X0.here hx rfl (hb hby d1_0) rfl rfl k) ?_
  obtain ⟨T1, X1, e1, st1⟩ := initO X0 hx hZ hown (hw _ (List.mem_of_getElem? (i := 8) rfl)) (hw _ (List.mem_of_getElem? (i := 9) rfl)) (hw _ (List.mem_of_getElem? (i := 10) rfl)) e0 (g := (mkF m 1 #[.val (.ref a1)] [(.ref a1)])) rfl (by rw [hml]; rfl) rfl (hb hby d1_1) (by decide) (W := 0) (by show 2 * 0 + _ ≤ _; exact Nat.le_of_eq rfl) (by decide)
  refine Go.on (B := T1.setTop (mkF m 4 #[.val (.ref a1)] [])) (fun t k => st1 _ k) ?_
  refine Go.on (B := T1.setTop (mkF m 5 #[.val (.ref a1)] [(.ref a1)])) (fun t k => XS.aloadN X1.here hx rfl (hb hby d1_4) rfl rfl k) ?_
  refine Go.on (B := T1.setTop (mkF m 8 #[.val (.ref a1)] [(.int (1024 : Int32)), (.ref a1)])) (fun t k => XS.sipush X1.here hx rfl (hb hby d1_5) k) ?_
  obtain ⟨T2, h2, k2, X2, e2, E2, A2, st2⟩ := newP X1 hx hZ (hw _ (List.mem_of_getElem? (i := 0) rfl)) e1 (g := (mkF m 8 #[.val (.ref a1)] [(.int (1024 : Int32)), (.ref a1)])) rfl (hb hby d1_8) rfl (by decide) (cap := 1024) (by decide) (by decide) (by decide) (by decide)
  obtain ⟨b2, g2⟩ : ∃ z, z = h0.size := ⟨_, rfl⟩
  rw [← g2] at A2 st2
  have ge_b2 : n0 ≤ b2 := Nat.le_trans Z0 (Nat.le_of_eq g2.symm)
  have sz_b2 : h0.size ≤ b2 := Nat.le_trans K0.1 (Nat.le_of_eq g2.symm)
  have ne_a1_b2 : a1 ≠ b2 := Nat.ne_of_lt (Nat.lt_of_lt_of_le E1.lt (Nat.le_of_eq g2.symm))
  have f1 := E1.ext E2
  have f2 := F_bytes.ext E2
  have f3 := F_start.ext E2
  have f4 := F_end.ext E2
  have Zs5 := Nat.le_trans Z0 E2.1
  have K6 := K0.ext E2
  have V2 : Arv Z h2 b2 k2 .byte (1024 : Int32) [] (.int (0 : Int32)) := Arv.new A2 (by decide)
  refine Go.on (B := T2.setTop (mkF m 10 #[.val (.ref a1)] [(.ref b2), (.ref a1)])) (fun t k => st2 _ k) ?_
  obtain ⟨T3, h3, X3, e3, W3, st3⟩ := putF X2 hx hZ hown (host := "") (Or.inl (hw _ (List.mem_of_getElem? (i := 11) rfl))) Via.refl e2 f2 f1 (Or.inl (hw _ (List.mem_of_getElem? (i := 12) rfl))) (hw _ (List.mem_of_getElem? (i := 3) rfl)) (ty := (.array .byte)) (by decide) rfl rfl (g := (mkF m 10 #[.val (.ref a1)] [(.ref b2), (.ref a1)])) rfl rfl (hb hby d1_10)
  have N3 := Fr.snoc X3 N0 g1
  have Fw3 := f2.same W3
  have f7 := f1.wr W3
  have f8 := f3.other W3 (Or.inr (slot_ne (Or.inl (hw _ (List.mem_of_getElem? (i := 15) rfl))) (Or.inl (hw _ (List.mem_of_getElem? (i := 12) rfl))) (by decide) (t := .int) (t' := (.array .byte)) (by decide) (by decide)))
  have f9 := f4.other W3 (Or.inr (slot_ne (Or.inl (hw _ (List.mem_of_getElem? (i := 17) rfl))) (Or.inl (hw _ (List.mem_of_getElem? (i := 12) rfl))) (by decide) (t := .int) (t' := (.array .byte)) (by decide) (by decide)))
  have f10 := V2.other W3 (Ne.symm ne_a1_b2)
  have Zs11 := Nat.le_trans Zs5 (Keep.of_wr W3).1
  have K12 := K6.wr W3 (Or.inl (List.mem_of_getElem? (i := 0) rfl))
  refine Go.on (B := T3.setTop (mkF m 13 #[.val (.ref a1)] [])) (fun t k => st3 _ k) ?_
  obtain ⟨fs, hr, hrun, hended, hW, hsame⟩ := X3.leave (v := none) (fun _ => rfl)
  refine ⟨_, _, ?_, hrun, hended, _, _, rfl, ?_, ⟨_, rfl⟩, hW, hsame.mono (by decide) (by decide)⟩
  · exact X3.returnOut hx Bd.returns (hb hby d1_13) hr
  · show Q_rini Z a1 h0 n0 _ T3.heap _
    rw [e3]
    exact ⟨rfl, N3, K12, f7, ⟨_, Fw3⟩, f8, f9⟩
theorem d3_0 : decode prog_50_method_6_code 0 = .ok (.aload_n 0, 1) := by decide +kernel
theorem d3_1 : decode prog_50_method_6_code 1 = .ok (.iload_n 1, 1) := by decide +kernel
theorem d3_2 : decode prog_50_method_6_code 2 = .ok (.putfield 25, 3) := by decide +kernel
theorem d3_5 : decode prog_50_method_6_code 5 = .ok (.aload_n 0, 1) := by decide +kernel
theorem d3_6 : decode prog_50_method_6_code 6 = .ok (.getfield 25, 3) := by decide +kernel
theorem d3_9 : decode prog_50_method_6_code 9 = .ok (.aload_n 0, 1) := by decide +kernel
theorem d3_10 : decode prog_50_method_6_code 10 = .ok (.getfield 13, 3) := by decide +kernel
theorem d3_13 : decode prog_50_method_6_code 13 = .ok (.if_icmp .ne 32, 3) := by decide +kernel
theorem d3_16 : decode prog_50_method_6_code 16 = .ok (.aload_n 0, 1) := by decide +kernel
theorem d3_17 : decode prog_50_method_6_code 17 = .ok (.iconst 0, 1) := by decide +kernel
theorem d3_18 : decode prog_50_method_6_code 18 = .ok (.putfield 25, 3) := by decide +kernel
theorem d3_21 : decode prog_50_method_6_code 21 = .ok (.aload_n 0, 1) := by decide +kernel
theorem d3_22 : decode prog_50_method_6_code 22 = .ok (.iconst 0, 1) := by decide +kernel
theorem d3_23 : decode prog_50_method_6_code 23 = .ok (.putfield 13, 3) := by decide +kernel
theorem d3_26 : decode prog_50_method_6_code 26 = .ok (.aload_n 0, 1) := by decide +kernel
theorem d3_27 : decode prog_50_method_6_code 27 = .ok (.getfield 9, 3) := by decide +kernel
theorem d3_30 : decode prog_50_method_6_code 30 = .ok (.arraylength, 1) := by decide +kernel
theorem d3_31 : decode prog_50_method_6_code 31 = .ok (.ldc 40, 2) := by decide +kernel
theorem d3_33 : decode prog_50_method_6_code 33 = .ok (.if_icmp .le 12, 3) := by decide +kernel
theorem d3_36 : decode prog_50_method_6_code 36 = .ok (.aload_n 0, 1) := by decide +kernel
theorem d3_37 : decode prog_50_method_6_code 37 = .ok (.sipush 1024, 3) := by decide +kernel
theorem d3_40 : decode prog_50_method_6_code 40 = .ok (.newarray .byte, 2) := by decide +kernel
theorem d3_42 : decode prog_50_method_6_code 42 = .ok (.putfield 9, 3) := by decide +kernel
theorem d3_45 : decode prog_50_method_6_code 45 = .ok (.return_, 1) := by decide +kernel
theorem ef_rel3 (m : MethodId) (a1 : Addr) (p2 : Int32) : entryFrame m #[(.ref a1), (.int p2)] 2 = mkF m 0 #[.val (.ref a1), .val (.int p2)] [] := by first | (simp [entryFrame, mkF, argsToLocals, Value.category]; done) | rfl
def Q_rel3 (Z : State) (a1 : Addr) (p2 : Int32) (p3 : Int32) (a4 : Addr) (k4 : ClassId) (z4 p5 : Int32) (h0 : Heap) (n0 : Nat) (v : Option Value) (h : Heap) (L : List Loc) : Prop := v = none ∧ Fr n0 L ∧ Keep h0 h [a1] ∧ Exa Z h a1 "com/example/pankti/pankti/protocol/ByteWindow" ∧ Fld Z h a1 "com/example/pankti/pankti/protocol/ByteWindow" "start" "I" (.int p2) ∧ Fld Z h a1 "com/example/pankti/pankti/protocol/ByteWindow" "end" "I" (.int p3) ∧ Fld Z h a1 "com/example/pankti/pankti/protocol/ByteWindow" "bytes" "[B" (.ref a4)
set_option maxRecDepth 65536 in
set_option maxHeartbeats 40000000 in
theorem rel3 (l : Launch) (Z : State) (a0 : Array Value) (hw : ∀ d ∈ tables_1, d.before a0 Z = true) (ws : List Jvm.Cond) (a1 : Addr) (p2 : Int32) (p3 : Int32) (a4 : Addr) (k4 : ClassId) (z4 p5 : Int32) (h0 : Heap) (n0 : Nat) (Z0 : n0 ≤ h0.size) (E1 : Exa Z h0 a1 "com/example/pankti/pankti/protocol/ByteWindow") (F_bytes : Fld Z h0 a1 "com/example/pankti/pankti/protocol/ByteWindow" "bytes" "[B" (.ref a4)) (F_start : Fld Z h0 a1 "com/example/pankti/pankti/protocol/ByteWindow" "start" "I" (.int p5)) (F_end : Fld Z h0 a1 "com/example/pankti/pankti/protocol/ByteWindow" "end" "I" (.int p3)) (V4 : Arv Z h0 a4 k4 .byte z4 [] (.int (0 : Int32))) (hne : a4 ≠ a1) (g1 : n0 ≤ a1) (hp : ¬ (p2 = p3)) :
    MetFree l (⟨"com/example/pankti/pankti/protocol/ByteWindow", "release", "(I)V"⟩ : MethodName) (head1 (Jvm.Cond.code (⟨"com/example/pankti/pankti/protocol/ByteWindow", "release", "(I)V"⟩ : MethodName) prog_50_method_6_code 2 none :: ws) ({ frames := 0, cells := 0, slots := 0, locals := 0 } : Room)) (fun a U => a = #[(.ref a1), (.int p2)] ∧ Z.Warmed39 U.vm ∧ U.heap = h0) (fun _ _ _ _ _ => True) (fun _ U o U' => ∃ v L, o = .returned v ∧ Q_rel3 Z a1 p2 p3 a4 k4 z4 p5 h0 n0 v U'.heap L ∧ FrameEnd U o U' L ({ frames := 0, cells := 0, slots := 0, locals := 0 } : Room).cells ({ frames := 0, cells := 0, slots := 0, locals := 0 } : Room).slots) := by
  refine MetFree.of_bodySF (plainFor_of_name pn_2) hisR ?_
  intro p e s m args below meth c s₁ Bd hml0 hP hK
  obtain ⟨rfl, hZ, hh⟩ := hP
  have hx := Bd.exec
  have hby := Bd.bytes
  have hml : c.maxLocals = 2 := hml0
  have hown : s.vm.findClass "com/example/pankti/pankti/protocol/ByteWindow" = some m.cls := findClass_of_methodNamed Bd.named
  have hnm := (name_of_methodNamed Bd.named Bd.method).1
  have X0 : Stand p l e ({ frames := 0, cells := 0, slots := 0, locals := 0 } : Room) s m #[(.ref a1), (.int p2)] below meth c s₁ [] 0 0 := Stand.of_body Bd
  have e0 : s₁.heap = h0 := by rw [← hh, Bd.state]; rfl
  have N0 := Fr.nil n0
  have pre0 : ∀ t, Steps p.tables e below (s₁.setTop (mkF m 0 #[.val (.ref a1), .val (.int p2)] [])) t → Steps p.tables e below (s₁.setTop (entryFrame m #[(.ref a1), (.int p2)] 2)) t := fun t k => castTop (ef_rel3 m a1 p2) k
  change Go p.tables e below (fun o U' => ∃ v L, o = .returned v ∧ Q_rel3 Z a1 p2 p3 a4 k4 z4 p5 h0 n0 v U'.heap L ∧ FrameEnd s o U' L ({ frames := 0, cells := 0, slots := 0, locals := 0 } : Room).cells ({ frames := 0, cells := 0, slots := 0, locals := 0 } : Room).slots) (s₁.setTop (entryFrame m #[(.ref a1), (.int p2)] 2))
  have K0 := Keep.refl h0 [a1]
  refine Go.on pre0 ?_
  refine Go.on (B := s₁.setTop (mkF m 1 #[.val (.ref a1), .val (.int p2)] [(.ref a1)])) (fun t k => XS.aloadN X0.here hx rfl (hb hby d3_0) rfl rfl k) ?_
  refine Go.on (B := s₁.setTop (mkF m 2 #[.val (.ref a1), .val (.int p2)] [(.int p2), (.ref a1)])) (fun t k => XS.iloadN X0.here hx rfl (hb hby d3_1) rfl k) ?_
  obtain ⟨T1, h1, X1, e1, W1, st1⟩ := putF X0 hx hZ hown (host := "") (Or.inl (hw _ (List.mem_of_getElem? (i := 23) rfl))) Via.refl e0 F_start E1 (Or.inl (hw _ (List.mem_of_getElem? (i := 15) rfl))) (hw _ (List.mem_of_getElem? (i := 3) rfl)) (ty := .int) (by decide) rfl rfl (g := (mkF m 2 #[.val (.ref a1), .val (.int p2)] [(.int p2), (.ref a1)])) rfl rfl (hb hby d3_2)
  have N1 := Fr.snoc X1 N0 g1
  have Fw1 := F_start.same W1
  have f1 := E1.wr W1
  have f2 := F_end.other W1 (Or.inr (slot_ne (Or.inl (hw _ (List.mem_of_getElem? (i := 17) rfl))) (Or.inl (hw _ (List.mem_of_getElem? (i := 15) rfl))) (by decide) (t := .int) (t' := .int) (by decide) (by decide)))
  have f3 := F_bytes.other W1 (Or.inr (slot_ne (Or.inl (hw _ (List.mem_of_getElem? (i := 12) rfl))) (Or.inl (hw _ (List.mem_of_getElem? (i := 15) rfl))) (by decide) (t := (.array .byte)) (t' := .int) (by decide) (by decide)))
  have f4 := V4.other W1 hne
  have Zs5 := Nat.le_trans Z0 (Keep.of_wr W1).1
  have K6 := K0.wr W1 (Or.inl (List.mem_of_getElem? (i := 0) rfl))
  refine Go.on (B := T1.setTop (mkF m 5 #[.val (.ref a1), .val (.int p2)] [])) (fun t k => st1 _ k) ?_
  refine Go.on (B := T1.setTop (mkF m 6 #[.val (.ref a1), .val (.int p2)] [(.ref a1)])) (fun t k => XS.aloadN X1.here hx rfl (hb hby d3_5) rfl rfl k) ?_
  obtain ⟨T2, X2, e2, st2⟩ := getF X1 hx hZ hown (host := "") (Or.inl (hw _ (List.mem_of_getElem? (i := 23) rfl))) Via.refl e1 Fw1 (g := (mkF m 6 #[.val (.ref a1), .val (.int p2)] [(.ref a1)])) rfl rfl (hb hby d3_6)
  refine Go.on (B := T2.setTop (mkF m 9 #[.val (.ref a1), .val (.int p2)] [(.int p2)])) (fun t k => st2 _ k) ?_
  refine Go.on (B := T2.setTop (mkF m 10 #[.val (.ref a1), .val (.int p2)] [(.ref a1), (.int p2)])) (fun t k => XS.aloadN X2.here hx rfl (hb hby d3_9) rfl rfl k) ?_
  obtain ⟨T3, X3, e3, st3⟩ := getF X2 hx hZ hown (host := "") (Or.inl (hw _ (List.mem_of_getElem? (i := 24) rfl))) Via.refl e2 f2 (g := (mkF m 10 #[.val (.ref a1), .val (.int p2)] [(.ref a1), (.int p2)])) rfl rfl (hb hby d3_10)
  refine Go.on (B := T3.setTop (mkF m 13 #[.val (.ref a1), .val (.int p2)] [(.int p3), (.int p2)])) (fun t k => st3 _ k) ?_
  have hc13_4 : ¬ (p2 = p3) := hp
  refine Go.on (B := T3.setTop (mkF m 45 #[.val (.ref a1), .val (.int p2)] [])) (fun t k => XS.icmpYes X3.here hx rfl (pc0 := 13) (pc' := 45) rfl (hb hby d3_13) rfl (feq hc13_4).2 (by decide) (by decide) k) ?_
  obtain ⟨fs, hr, hrun, hended, hW, hsame⟩ := X3.leave (v := none) (fun _ => rfl)
  refine ⟨_, _, ?_, hrun, hended, _, _, rfl, ?_, ⟨_, rfl⟩, hW, hsame.mono (by decide) (by decide)⟩
  · exact X3.returnOut hx Bd.returns (hb hby d3_45) hr
  · show Q_rel3 Z a1 p2 p3 a4 k4 z4 p5 h0 n0 _ T3.heap _
    rw [e3]
    exact ⟨rfl, N1, K6, f1, Fw1, f2, f3⟩

theorem ef_rel1 (m : MethodId) (a1 : Addr) (p2 : Int32) : entryFrame m #[(.ref a1), (.int p2)] 2 = mkF m 0 #[.val (.ref a1), .val (.int p2)] [] := by first | (simp [entryFrame, mkF, argsToLocals, Value.category]; done) | rfl
def Q_rel1 (Z : State) (a1 : Addr) (p2 : Int32) (p3 : Int32) (a4 : Addr) (k4 : ClassId) (z4 p5 : Int32) (h0 : Heap) (n0 : Nat) (v : Option Value) (h : Heap) (L : List Loc) : Prop := v = none ∧ Fr n0 L ∧ Keep h0 h [a1] ∧ Exa Z h a1 "com/example/pankti/pankti/protocol/ByteWindow" ∧ Fld Z h a1 "com/example/pankti/pankti/protocol/ByteWindow" "start" "I" (.int (0 : Int32)) ∧ Fld Z h a1 "com/example/pankti/pankti/protocol/ByteWindow" "end" "I" (.int (0 : Int32)) ∧ Fld Z h a1 "com/example/pankti/pankti/protocol/ByteWindow" "bytes" "[B" (.ref a4)
set_option maxRecDepth 65536 in
set_option maxHeartbeats 40000000 in
theorem rel1 (l : Launch) (Z : State) (a0 : Array Value) (hw : ∀ d ∈ tables_1, d.before a0 Z = true) (ws : List Jvm.Cond) (a1 : Addr) (p2 : Int32) (p3 : Int32) (a4 : Addr) (k4 : ClassId) (z4 p5 : Int32) (h0 : Heap) (n0 : Nat) (Z0 : n0 ≤ h0.size) (E1 : Exa Z h0 a1 "com/example/pankti/pankti/protocol/ByteWindow") (F_bytes : Fld Z h0 a1 "com/example/pankti/pankti/protocol/ByteWindow" "bytes" "[B" (.ref a4)) (F_start : Fld Z h0 a1 "com/example/pankti/pankti/protocol/ByteWindow" "start" "I" (.int p5)) (F_end : Fld Z h0 a1 "com/example/pankti/pankti/protocol/ByteWindow" "end" "I" (.int p3)) (V4 : Arv Z h0 a4 k4 .byte z4 [] (.int (0 : Int32))) (hne : a4 ≠ a1) (g1 : n0 ≤ a1) (hp : p2 = p3) (hl : ¬ ((65536 : Int32) < z4)) :
    MetFree l (⟨"com/example/pankti/pankti/protocol/ByteWindow", "release", "(I)V"⟩ : MethodName) (head1 (Jvm.Cond.code (⟨"com/example/pankti/pankti/protocol/ByteWindow", "release", "(I)V"⟩ : MethodName) prog_50_method_6_code 2 none :: ws) ({ frames := 0, cells := 0, slots := 0, locals := 0 } : Room)) (fun a U => a = #[(.ref a1), (.int p2)] ∧ Z.Warmed39 U.vm ∧ U.heap = h0) (fun _ _ _ _ _ => True) (fun _ U o U' => ∃ v L, o = .returned v ∧ Q_rel1 Z a1 p2 p3 a4 k4 z4 p5 h0 n0 v U'.heap L ∧ FrameEnd U o U' L ({ frames := 0, cells := 0, slots := 0, locals := 0 } : Room).cells ({ frames := 0, cells := 0, slots := 0, locals := 0 } : Room).slots) := by
  refine MetFree.of_bodySF (plainFor_of_name pn_2) hisR ?_
  intro p e s m args below meth c s₁ Bd hml0 hP hK
  obtain ⟨rfl, hZ, hh⟩ := hP
  have hx := Bd.exec
  have hby := Bd.bytes
  have hml : c.maxLocals = 2 := hml0
  have hown : s.vm.findClass "com/example/pankti/pankti/protocol/ByteWindow" = some m.cls := findClass_of_methodNamed Bd.named
  have hnm := (name_of_methodNamed Bd.named Bd.method).1
  have X0 : Stand p l e ({ frames := 0, cells := 0, slots := 0, locals := 0 } : Room) s m #[(.ref a1), (.int p2)] below meth c s₁ [] 0 0 := Stand.of_body Bd
  have e0 : s₁.heap = h0 := by rw [← hh, Bd.state]; rfl
  have N0 := Fr.nil n0
  have pre0 : ∀ t, Steps p.tables e below (s₁.setTop (mkF m 0 #[.val (.ref a1), .val (.int p2)] [])) t → Steps p.tables e below (s₁.setTop (entryFrame m #[(.ref a1), (.int p2)] 2)) t := fun t k => castTop (ef_rel1 m a1 p2) k
  change Go p.tables e below (fun o U' => ∃ v L, o = .returned v ∧ Q_rel1 Z a1 p2 p3 a4 k4 z4 p5 h0 n0 v U'.heap L ∧ FrameEnd s o U' L ({ frames := 0, cells := 0, slots := 0, locals := 0 } : Room).cells ({ frames := 0, cells := 0, slots := 0, locals := 0 } : Room).slots) (s₁.setTop (entryFrame m #[(.ref a1), (.int p2)] 2))
  have K0 := Keep.refl h0 [a1]
  refine Go.on pre0 ?_
  refine Go.on (B := s₁.setTop (mkF m 1 #[.val (.ref a1), .val (.int p2)] [(.ref a1)])) (fun t k => XS.aloadN X0.here hx rfl (hb hby d3_0) rfl rfl k) ?_
  refine Go.on (B := s₁.setTop (mkF m 2 #[.val (.ref a1), .val (.int p2)] [(.int p2), (.ref a1)])) (fun t k => XS.iloadN X0.here hx rfl (hb hby d3_1) rfl k) ?_
  obtain ⟨T1, h1, X1, e1, W1, st1⟩ := putF X0 hx hZ hown (host := "") (Or.inl (hw _ (List.mem_of_getElem? (i := 23) rfl))) Via.refl e0 F_start E1 (Or.inl (hw _ (List.mem_of_getElem? (i := 15) rfl))) (hw _ (List.mem_of_getElem? (i := 3) rfl)) (ty := .int) (by decide) rfl rfl (g := (mkF m 2 #[.val (.ref a1), .val (.int p2)] [(.int p2), (.ref a1)])) rfl rfl (hb hby d3_2)
  have N1 := Fr.snoc X1 N0 g1
  have Fw1 := F_start.same W1
  have f1 := E1.wr W1
  have f2 := F_end.other W1 (Or.inr (slot_ne (Or.inl (hw _ (List.mem_of_getElem? (i := 17) rfl))) (Or.inl (hw _ (List.mem_of_getElem? (i := 15) rfl))) (by decide) (t := .int) (t' := .int) (by decide) (by decide)))
  have f3 := F_bytes.other W1 (Or.inr (slot_ne (Or.inl (hw _ (List.mem_of_getElem? (i := 12) rfl))) (Or.inl (hw _ (List.mem_of_getElem? (i := 15) rfl))) (by decide) (t := (.array .byte)) (t' := .int) (by decide) (by decide)))
  have f4 := V4.other W1 hne
  have Zs5 := Nat.le_trans Z0 (Keep.of_wr W1).1
  have K6 := K0.wr W1 (Or.inl (List.mem_of_getElem? (i := 0) rfl))
  refine Go.on (B := T1.setTop (mkF m 5 #[.val (.ref a1), .val (.int p2)] [])) (fun t k => st1 _ k) ?_
  refine Go.on (B := T1.setTop (mkF m 6 #[.val (.ref a1), .val (.int p2)] [(.ref a1)])) (fun t k => XS.aloadN X1.here hx rfl (hb hby d3_5) rfl rfl k) ?_
  obtain ⟨T2, X2, e2, st2⟩ := getF X1 hx hZ hown (host := "") (Or.inl (hw _ (List.mem_of_getElem? (i := 23) rfl))) Via.refl e1 Fw1 (g := (mkF m 6 #[.val (.ref a1), .val (.int p2)] [(.ref a1)])) rfl rfl (hb hby d3_6)
  refine Go.on (B := T2.setTop (mkF m 9 #[.val (.ref a1), .val (.int p2)] [(.int p2)])) (fun t k => st2 _ k) ?_
  refine Go.on (B := T2.setTop (mkF m 10 #[.val (.ref a1), .val (.int p2)] [(.ref a1), (.int p2)])) (fun t k => XS.aloadN X2.here hx rfl (hb hby d3_9) rfl rfl k) ?_
  obtain ⟨T3, X3, e3, st3⟩ := getF X2 hx hZ hown (host := "") (Or.inl (hw _ (List.mem_of_getElem? (i := 24) rfl))) Via.refl e2 f2 (g := (mkF m 10 #[.val (.ref a1), .val (.int p2)] [(.ref a1), (.int p2)])) rfl rfl (hb hby d3_10)
  refine Go.on (B := T3.setTop (mkF m 13 #[.val (.ref a1), .val (.int p2)] [(.int p3), (.int p2)])) (fun t k => st3 _ k) ?_
  have hc13_4 : p2 = p3 := hp
  refine Go.on (B := T3.setTop (mkF m 16 #[.val (.ref a1), .val (.int p2)] [])) (fun t k => XS.icmpNo X3.here hx rfl (hb hby d3_13) rfl (teq hc13_4).2 k) ?_
  refine Go.on (B := T3.setTop (mkF m 17 #[.val (.ref a1), .val (.int p2)] [(.ref a1)])) (fun t k => XS.aloadN X3.here hx rfl (hb hby d3_16) rfl rfl k) ?_
  refine Go.on (B := T3.setTop (mkF m 18 #[.val (.ref a1), .val (.int p2)] [(.int (0 : Int32)), (.ref a1)])) (fun t k => XS.iconst X3.here hx rfl (hb hby d3_17) k) ?_
  obtain ⟨T5, h5, X5, e5, W5, st5⟩ := putF X3 hx hZ hown (host := "") (Or.inl (hw _ (List.mem_of_getElem? (i := 23) rfl))) Via.refl e3 Fw1 f1 (Or.inl (hw _ (List.mem_of_getElem? (i := 15) rfl))) (hw _ (List.mem_of_getElem? (i := 3) rfl)) (ty := .int) (by decide) rfl rfl (g := (mkF m 18 #[.val (.ref a1), .val (.int p2)] [(.int (0 : Int32)), (.ref a1)])) rfl rfl (hb hby d3_18)
  have N5 := Fr.snoc X5 N1 g1
  have Fw5 := Fw1.same W5
  have f7 := f1.wr W5
  have f8 := f2.other W5 (Or.inr (slot_ne (Or.inl (hw _ (List.mem_of_getElem? (i := 17) rfl))) (Or.inl (hw _ (List.mem_of_getElem? (i := 15) rfl))) (by decide) (t := .int) (t' := .int) (by decide) (by decide)))
  have f9 := f3.other W5 (Or.inr (slot_ne (Or.inl (hw _ (List.mem_of_getElem? (i := 12) rfl))) (Or.inl (hw _ (List.mem_of_getElem? (i := 15) rfl))) (by decide) (t := (.array .byte)) (t' := .int) (by decide) (by decide)))
  have f10 := f4.other W5 hne
  have Zs11 := Nat.le_trans Zs5 (Keep.of_wr W5).1
  have K12 := K6.wr W5 (Or.inl (List.mem_of_getElem? (i := 0) rfl))
  refine Go.on (B := T5.setTop (mkF m 21 #[.val (.ref a1), .val (.int p2)] [])) (fun t k => st5 _ k) ?_
  refine Go.on (B := T5.setTop (mkF m 22 #[.val (.ref a1), .val (.int p2)] [(.ref a1)])) (fun t k => XS.aloadN X5.here hx rfl (hb hby d3_21) rfl rfl k) ?_
  refine Go.on (B := T5.setTop (mkF m 23 #[.val (.ref a1), .val (.int p2)] [(.int (0 : Int32)), (.ref a1)])) (fun t k => XS.iconst X5.here hx rfl (hb hby d3_22) k) ?_
  obtain ⟨T6, h6, X6, e6, W6, st6⟩ := putF X5 hx hZ hown (host := "") (Or.inl (hw _ (List.mem_of_getElem? (i := 24) rfl))) Via.refl e5 f8 f7 (Or.inl (hw _ (List.mem_of_getElem? (i := 17) rfl))) (hw _ (List.mem_of_getElem? (i := 3) rfl)) (ty := .int) (by decide) rfl rfl (g := (mkF m 23 #[.val (.ref a1), .val (.int p2)] [(.int (0 : Int32)), (.ref a1)])) rfl rfl (hb hby d3_23)
  have N6 := Fr.snoc X6 N5 g1
  have Fw6 := f8.same W6
  have f13 := f7.wr W6
  have f14 := Fw5.other W6 (Or.inr (slot_ne (Or.inl (hw _ (List.mem_of_getElem? (i := 15) rfl))) (Or.inl (hw _ (List.mem_of_getElem? (i := 17) rfl))) (by decide) (t := .int) (t' := .int) (by decide) (by decide)))
  have f15 := f9.other W6 (Or.inr (slot_ne (Or.inl (hw _ (List.mem_of_getElem? (i := 12) rfl))) (Or.inl (hw _ (List.mem_of_getElem? (i := 17) rfl))) (by decide) (t := (.array .byte)) (t' := .int) (by decide) (by decide)))
  have f16 := f10.other W6 hne
  have Zs17 := Nat.le_trans Zs11 (Keep.of_wr W6).1
  have K18 := K12.wr W6 (Or.inl (List.mem_of_getElem? (i := 0) rfl))
  refine Go.on (B := T6.setTop (mkF m 26 #[.val (.ref a1), .val (.int p2)] [])) (fun t k => st6 _ k) ?_
  refine Go.on (B := T6.setTop (mkF m 27 #[.val (.ref a1), .val (.int p2)] [(.ref a1)])) (fun t k => XS.aloadN X6.here hx rfl (hb hby d3_26) rfl rfl k) ?_
  obtain ⟨T7, X7, e7, st7⟩ := getF X6 hx hZ hown (host := "") (Or.inl (hw _ (List.mem_of_getElem? (i := 11) rfl))) Via.refl e6 f15 (g := (mkF m 27 #[.val (.ref a1), .val (.int p2)] [(.ref a1)])) rfl rfl (hb hby d3_27)
  refine Go.on (B := T7.setTop (mkF m 30 #[.val (.ref a1), .val (.int p2)] [(.ref a4)])) (fun t k => st7 _ k) ?_
  obtain ⟨cl8, Ar8, -, Sz8, Ng8, -, -⟩ := id f16
  refine Go.on (B := T7.setTop (mkF m 31 #[.val (.ref a1), .val (.int p2)] [(.int z4)])) (fun t k => X7.arraylength hx (by rw [e7]; exact Ar8.1) (State.isArrayOf_alike hZ.alike Ar8.2.1) (g := (mkF m 30 #[.val (.ref a1), .val (.int p2)] [(.ref a4)])) rfl rfl (hb hby d3_30) _ (by rw [len_of Sz8 Ng8]; exact k)) ?_
  refine Go.on (B := T7.setTop (mkF m 33 #[.val (.ref a1), .val (.int p2)] [(.int (65536 : Int32)), (.int z4)])) (fun t k => X7.ldcInt hx hown (mvT hZ (hw _ (List.mem_of_getElem? (i := 25) rfl))) (g := (mkF m 31 #[.val (.ref a1), .val (.int p2)] [(.int z4)])) rfl (hb hby d3_31) _ k) ?_
  have hc33_9 : ¬ ((65536 : Int32) < z4) := hl
  refine Go.on (B := T7.setTop (mkF m 45 #[.val (.ref a1), .val (.int p2)] [])) (fun t k => XS.icmpYes X7.here hx rfl (pc0 := 33) (pc' := 45) rfl (hb hby d3_33) rfl (flt hc33_9).2.2.2 (by decide) (by decide) k) ?_
  obtain ⟨fs, hr, hrun, hended, hW, hsame⟩ := X7.leave (v := none) (fun _ => rfl)
  refine ⟨_, _, ?_, hrun, hended, _, _, rfl, ?_, ⟨_, rfl⟩, hW, hsame.mono (by decide) (by decide)⟩
  · exact X7.returnOut hx Bd.returns (hb hby d3_45) hr
  · show Q_rel1 Z a1 p2 p3 a4 k4 z4 p5 h0 n0 _ T7.heap _
    rw [e7]
    exact ⟨rfl, N6, K18, f13, f14, Fw6, f15⟩

theorem ef_rel2 (m : MethodId) (a1 : Addr) (p2 : Int32) : entryFrame m #[(.ref a1), (.int p2)] 2 = mkF m 0 #[.val (.ref a1), .val (.int p2)] [] := by first | (simp [entryFrame, mkF, argsToLocals, Value.category]; done) | rfl
def Q_rel2 (Z : State) (a1 : Addr) (p2 : Int32) (p3 : Int32) (a4 : Addr) (k4 : ClassId) (z4 p5 : Int32) (h0 : Heap) (n0 : Nat) (v : Option Value) (h : Heap) (L : List Loc) : Prop := v = none ∧ Fr n0 L ∧ Keep h0 h [a1] ∧ Exa Z h a1 "com/example/pankti/pankti/protocol/ByteWindow" ∧ Fld Z h a1 "com/example/pankti/pankti/protocol/ByteWindow" "start" "I" (.int (0 : Int32)) ∧ Fld Z h a1 "com/example/pankti/pankti/protocol/ByteWindow" "end" "I" (.int (0 : Int32)) ∧ ∃ (b : Addr) (kb : ClassId), Fld Z h a1 "com/example/pankti/pankti/protocol/ByteWindow" "bytes" "[B" (.ref b) ∧ h0.size ≤ b ∧ Arv Z h b kb .byte (1024 : Int32) [] (.int (0 : Int32))
set_option maxRecDepth 65536 in
set_option maxHeartbeats 40000000 in
theorem rel2 (l : Launch) (Z : State) (a0 : Array Value) (hw : ∀ d ∈ tables_1, d.before a0 Z = true) (ws : List Jvm.Cond) (a1 : Addr) (p2 : Int32) (p3 : Int32) (a4 : Addr) (k4 : ClassId) (z4 p5 : Int32) (h0 : Heap) (n0 : Nat) (Z0 : n0 ≤ h0.size) (E1 : Exa Z h0 a1 "com/example/pankti/pankti/protocol/ByteWindow") (F_bytes : Fld Z h0 a1 "com/example/pankti/pankti/protocol/ByteWindow" "bytes" "[B" (.ref a4)) (F_start : Fld Z h0 a1 "com/example/pankti/pankti/protocol/ByteWindow" "start" "I" (.int p5)) (F_end : Fld Z h0 a1 "com/example/pankti/pankti/protocol/ByteWindow" "end" "I" (.int p3)) (V4 : Arv Z h0 a4 k4 .byte z4 [] (.int (0 : Int32))) (hne : a4 ≠ a1) (g1 : n0 ≤ a1) (hp : p2 = p3) (hl : (65536 : Int32) < z4) :
    MetFree l (⟨"com/example/pankti/pankti/protocol/ByteWindow", "release", "(I)V"⟩ : MethodName) (head1 (Jvm.Cond.code (⟨"com/example/pankti/pankti/protocol/ByteWindow", "release", "(I)V"⟩ : MethodName) prog_50_method_6_code 2 none :: ws) ({ frames := 0, cells := 1, slots := 1024, locals := 0 } : Room)) (fun a U => a = #[(.ref a1), (.int p2)] ∧ Z.Warmed39 U.vm ∧ U.heap = h0) (fun _ _ _ _ _ => True) (fun _ U o U' => ∃ v L, o = .returned v ∧ Q_rel2 Z a1 p2 p3 a4 k4 z4 p5 h0 n0 v U'.heap L ∧ FrameEnd U o U' L ({ frames := 0, cells := 1, slots := 1024, locals := 0 } : Room).cells ({ frames := 0, cells := 1, slots := 1024, locals := 0 } : Room).slots) := by
  refine MetFree.of_bodySF (plainFor_of_name pn_2) hisR ?_
  intro p e s m args below meth c s₁ Bd hml0 hP hK
  obtain ⟨rfl, hZ, hh⟩ := hP
  have hx := Bd.exec
  have hby := Bd.bytes
  have hml : c.maxLocals = 2 := hml0
  have hown : s.vm.findClass "com/example/pankti/pankti/protocol/ByteWindow" = some m.cls := findClass_of_methodNamed Bd.named
  have hnm := (name_of_methodNamed Bd.named Bd.method).1
  have X0 : Stand p l e ({ frames := 0, cells := 1, slots := 1024, locals := 0 } : Room) s m #[(.ref a1), (.int p2)] below meth c s₁ [] 0 0 := Stand.of_body Bd
  have e0 : s₁.heap = h0 := by rw [← hh, Bd.state]; rfl
  have N0 := Fr.nil n0
  have pre0 : ∀ t, Steps p.tables e below (s₁.setTop (mkF m 0 #[.val (.ref a1), .val (.int p2)] [])) t → Steps p.tables e below (s₁.setTop (entryFrame m #[(.ref a1), (.int p2)] 2)) t := fun t k => castTop (ef_rel2 m a1 p2) k
  change Go p.tables e below (fun o U' => ∃ v L, o = .returned v ∧ Q_rel2 Z a1 p2 p3 a4 k4 z4 p5 h0 n0 v U'.heap L ∧ FrameEnd s o U' L ({ frames := 0, cells := 1, slots := 1024, locals := 0 } : Room).cells ({ frames := 0, cells := 1, slots := 1024, locals := 0 } : Room).slots) (s₁.setTop (entryFrame m #[(.ref a1), (.int p2)] 2))
  have K0 := Keep.refl h0 [a1]
  refine Go.on pre0 ?_
  refine Go.on (B := s₁.setTop (mkF m 1 #[.val (.ref a1), .val (.int p2)] [(.ref a1)])) (fun t k => XS.aloadN X0.here hx rfl (hb hby d3_0) rfl rfl k) ?_
  refine Go.on (B := s₁.setTop (mkF m 2 #[.val (.ref a1), .val (.int p2)] [(.int p2), (.ref a1)])) (fun t k => XS.iloadN X0.here hx rfl (hb hby d3_1) rfl k) ?_
  obtain ⟨T1, h1, X1, e1, W1, st1⟩ := putF X0 hx hZ hown (host := "") (Or.inl (hw _ (List.mem_of_getElem? (i := 23) rfl))) Via.refl e0 F_start E1 (Or.inl (hw _ (List.mem_of_getElem? (i := 15) rfl))) (hw _ (List.mem_of_getElem? (i := 3) rfl)) (ty := .int) (by decide) rfl rfl (g := (mkF m 2 #[.val (.ref a1), .val (.int p2)] [(.int p2), (.ref a1)])) rfl rfl (hb hby d3_2)
  have N1 := Fr.snoc X1 N0 g1
  have Fw1 := F_start.same W1
  have f1 := E1.wr W1
  have f2 := F_end.other W1 (Or.inr (slot_ne (Or.inl (hw _ (List.mem_of_getElem? (i := 17) rfl))) (Or.inl (hw _ (List.mem_of_getElem? (i := 15) rfl))) (by decide) (t := .int) (t' := .int) (by decide) (by decide)))
  have f3 := F_bytes.other W1 (Or.inr (slot_ne (Or.inl (hw _ (List.mem_of_getElem? (i := 12) rfl))) (Or.inl (hw _ (List.mem_of_getElem? (i := 15) rfl))) (by decide) (t := (.array .byte)) (t' := .int) (by decide) (by decide)))
  have f4 := V4.other W1 hne
  have Zs5 := Nat.le_trans Z0 (Keep.of_wr W1).1
  have K6 := K0.wr W1 (Or.inl (List.mem_of_getElem? (i := 0) rfl))
  refine Go.on (B := T1.setTop (mkF m 5 #[.val (.ref a1), .val (.int p2)] [])) (fun t k => st1 _ k) ?_
  refine Go.on (B := T1.setTop (mkF m 6 #[.val (.ref a1), .val (.int p2)] [(.ref a1)])) (fun t k => XS.aloadN X1.here hx rfl (hb hby d3_5) rfl rfl k) ?_
  obtain ⟨T2, X2, e2, st2⟩ := getF X1 hx hZ hown (host := "") (Or.inl (hw _ (List.mem_of_getElem? (i := 23) rfl))) Via.refl e1 Fw1 (g := (mkF m 6 #[.val (.ref a1), .val (.int p2)] [(.ref a1)])) rfl rfl (hb hby d3_6)
  refine Go.on (B := T2.setTop (mkF m 9 #[.val (.ref a1), .val (.int p2)] [(.int p2)])) (fun t k => st2 _ k) ?_
  refine Go.on (B := T2.setTop (mkF m 10 #[.val (.ref a1), .val (.int p2)] [(.ref a1), (.int p2)])) (fun t k => XS.aloadN X2.here hx rfl (hb hby d3_9) rfl rfl k) ?_
  obtain ⟨T3, X3, e3, st3⟩ := getF X2 hx hZ hown (host := "") (Or.inl (hw _ (List.mem_of_getElem? (i := 24) rfl))) Via.refl e2 f2 (g := (mkF m 10 #[.val (.ref a1), .val (.int p2)] [(.ref a1), (.int p2)])) rfl rfl (hb hby d3_10)
  refine Go.on (B := T3.setTop (mkF m 13 #[.val (.ref a1), .val (.int p2)] [(.int p3), (.int p2)])) (fun t k => st3 _ k) ?_
  have hc13_4 : p2 = p3 := hp
  refine Go.on (B := T3.setTop (mkF m 16 #[.val (.ref a1), .val (.int p2)] [])) (fun t k => XS.icmpNo X3.here hx rfl (hb hby d3_13) rfl (teq hc13_4).2 k) ?_
  refine Go.on (B := T3.setTop (mkF m 17 #[.val (.ref a1), .val (.int p2)] [(.ref a1)])) (fun t k => XS.aloadN X3.here hx rfl (hb hby d3_16) rfl rfl k) ?_
  refine Go.on (B := T3.setTop (mkF m 18 #[.val (.ref a1), .val (.int p2)] [(.int (0 : Int32)), (.ref a1)])) (fun t k => XS.iconst X3.here hx rfl (hb hby d3_17) k) ?_
  obtain ⟨T5, h5, X5, e5, W5, st5⟩ := putF X3 hx hZ hown (host := "") (Or.inl (hw _ (List.mem_of_getElem? (i := 23) rfl))) Via.refl e3 Fw1 f1 (Or.inl (hw _ (List.mem_of_getElem? (i := 15) rfl))) (hw _ (List.mem_of_getElem? (i := 3) rfl)) (ty := .int) (by decide) rfl rfl (g := (mkF m 18 #[.val (.ref a1), .val (.int p2)] [(.int (0 : Int32)), (.ref a1)])) rfl rfl (hb hby d3_18)
  have N5 := Fr.snoc X5 N1 g1
  have Fw5 := Fw1.same W5
  have f7 := f1.wr W5
  have f8 := f2.other W5 (Or.inr (slot_ne (Or.inl (hw _ (List.mem_of_getElem? (i := 17) rfl))) (Or.inl (hw _ (List.mem_of_getElem? (i := 15) rfl))) (by decide) (t := .int) (t' := .int) (by decide) (by decide)))
  have f9 := f3.other W5 (Or.inr (slot_ne (Or.inl (hw _ (List.mem_of_getElem? (i := 12) rfl))) (Or.inl (hw _ (List.mem_of_getElem? (i := 15) rfl))) (by decide) (t := (.array .byte)) (t' := .int) (by decide) (by decide)))
  have f10 := f4.other W5 hne
  have Zs11 := Nat.le_trans Zs5 (Keep.of_wr W5).1
  have K12 := K6.wr W5 (Or.inl (List.mem_of_getElem? (i := 0) rfl))
  refine Go.on (B := T5.setTop (mkF m 21 #[.val (.ref a1), .val (.int p2)] [])) (fun t k => st5 _ k) ?_
  refine Go.on (B := T5.setTop (mkF m 22 #[.val (.ref a1), .val (.int p2)] [(.ref a1)])) (fun t k => XS.aloadN X5.here hx rfl (hb hby d3_21) rfl rfl k) ?_
  refine Go.on (B := T5.setTop (mkF m 23 #[.val (.ref a1), .val (.int p2)] [(.int (0 : Int32)), (.ref a1)])) (fun t k => XS.iconst X5.here hx rfl (hb hby d3_22) k) ?_
  obtain ⟨T6, h6, X6, e6, W6, st6⟩ := putF X5 hx hZ hown (host := "") (Or.inl (hw _ (List.mem_of_getElem? (i := 24) rfl))) Via.refl e5 f8 f7 (Or.inl (hw _ (List.mem_of_getElem? (i := 17) rfl))) (hw _ (List.mem_of_getElem? (i := 3) rfl)) (ty := .int) (by decide) rfl rfl (g := (mkF m 23 #[.val (.ref a1), .val (.int p2)] [(.int (0 : Int32)), (.ref a1)])) rfl rfl (hb hby d3_23)
  have N6 := Fr.snoc X6 N5 g1
  have Fw6 := f8.same W6
  have f13 := f7.wr W6
  have f14 := Fw5.other W6 (Or.inr (slot_ne (Or.inl (hw _ (List.mem_of_getElem? (i := 15) rfl))) (Or.inl (hw _ (List.mem_of_getElem? (i := 17) rfl))) (by decide) (t := .int) (t' := .int) (by decide) (by decide)))
  have f15 := f9.other W6 (Or.inr (slot_ne (Or.inl (hw _ (List.mem_of_getElem? (i := 12) rfl))) (Or.inl (hw _ (List.mem_of_getElem? (i := 17) rfl))) (by decide) (t := (.array .byte)) (t' := .int) (by decide) (by decide)))
  have f16 := f10.other W6 hne
  have Zs17 := Nat.le_trans Zs11 (Keep.of_wr W6).1
  have K18 := K12.wr W6 (Or.inl (List.mem_of_getElem? (i := 0) rfl))
  refine Go.on (B := T6.setTop (mkF m 26 #[.val (.ref a1), .val (.int p2)] [])) (fun t k => st6 _ k) ?_
  refine Go.on (B := T6.setTop (mkF m 27 #[.val (.ref a1), .val (.int p2)] [(.ref a1)])) (fun t k => XS.aloadN X6.here hx rfl (hb hby d3_26) rfl rfl k) ?_
  obtain ⟨T7, X7, e7, st7⟩ := getF X6 hx hZ hown (host := "") (Or.inl (hw _ (List.mem_of_getElem? (i := 11) rfl))) Via.refl e6 f15 (g := (mkF m 27 #[.val (.ref a1), .val (.int p2)] [(.ref a1)])) rfl rfl (hb hby d3_27)
  refine Go.on (B := T7.setTop (mkF m 30 #[.val (.ref a1), .val (.int p2)] [(.ref a4)])) (fun t k => st7 _ k) ?_
  obtain ⟨cl8, Ar8, -, Sz8, Ng8, -, -⟩ := id f16
  refine Go.on (B := T7.setTop (mkF m 31 #[.val (.ref a1), .val (.int p2)] [(.int z4)])) (fun t k => X7.arraylength hx (by rw [e7]; exact Ar8.1) (State.isArrayOf_alike hZ.alike Ar8.2.1) (g := (mkF m 30 #[.val (.ref a1), .val (.int p2)] [(.ref a4)])) rfl rfl (hb hby d3_30) _ (by rw [len_of Sz8 Ng8]; exact k)) ?_
  refine Go.on (B := T7.setTop (mkF m 33 #[.val (.ref a1), .val (.int p2)] [(.int (65536 : Int32)), (.int z4)])) (fun t k => X7.ldcInt hx hown (mvT hZ (hw _ (List.mem_of_getElem? (i := 25) rfl))) (g := (mkF m 31 #[.val (.ref a1), .val (.int p2)] [(.int z4)])) rfl (hb hby d3_31) _ k) ?_
  have hc33_9 : (65536 : Int32) < z4 := hl
  refine Go.on (B := T7.setTop (mkF m 36 #[.val (.ref a1), .val (.int p2)] [])) (fun t k => XS.icmpNo X7.here hx rfl (hb hby d3_33) rfl (tlt hc33_9).2.2.2 k) ?_
  refine Go.on (B := T7.setTop (mkF m 37 #[.val (.ref a1), .val (.int p2)] [(.ref a1)])) (fun t k => XS.aloadN X7.here hx rfl (hb hby d3_36) rfl rfl k) ?_
  refine Go.on (B := T7.setTop (mkF m 40 #[.val (.ref a1), .val (.int p2)] [(.int (1024 : Int32)), (.ref a1)])) (fun t k => XS.sipush X7.here hx rfl (hb hby d3_37) k) ?_
  obtain ⟨T10, h10, k10, X10, e10, E10, A10, st10⟩ := newP X7 hx hZ (hw _ (List.mem_of_getElem? (i := 0) rfl)) e7 (g := (mkF m 40 #[.val (.ref a1), .val (.int p2)] [(.int (1024 : Int32)), (.ref a1)])) rfl (hb hby d3_40) rfl (by decide) (cap := 1024) (by decide) (by decide) (by decide) (by decide)
  obtain ⟨b10, g10⟩ : ∃ z, z = h6.size := ⟨_, rfl⟩
  rw [← g10] at A10 st10
  have ge_b10 : n0 ≤ b10 := Nat.le_trans Zs17 (Nat.le_of_eq g10.symm)
  have sz_b10 : h0.size ≤ b10 := Nat.le_trans K18.1 (Nat.le_of_eq g10.symm)
  have ne_a1_b10 : a1 ≠ b10 := Nat.ne_of_lt (Nat.lt_of_lt_of_le f13.lt (Nat.le_of_eq g10.symm))
  have ne_a4_b10 : a4 ≠ b10 := Nat.ne_of_lt (Nat.lt_of_lt_of_le f16.lt (Nat.le_of_eq g10.symm))
  have f19 := f13.ext E10
  have f20 := f14.ext E10
  have f21 := Fw6.ext E10
  have f22 := f15.ext E10
  have f23 := f16.ext E10
  have Zs24 := Nat.le_trans Zs17 E10.1
  have K25 := K18.ext E10
  have V10 : Arv Z h10 b10 k10 .byte (1024 : Int32) [] (.int (0 : Int32)) := Arv.new A10 (by decide)
  refine Go.on (B := T10.setTop (mkF m 42 #[.val (.ref a1), .val (.int p2)] [(.ref b10), (.ref a1)])) (fun t k => st10 _ k) ?_
  obtain ⟨T11, h11, X11, e11, W11, st11⟩ := putF X10 hx hZ hown (host := "") (Or.inl (hw _ (List.mem_of_getElem? (i := 11) rfl))) Via.refl e10 f22 f19 (Or.inl (hw _ (List.mem_of_getElem? (i := 12) rfl))) (hw _ (List.mem_of_getElem? (i := 3) rfl)) (ty := (.array .byte)) (by decide) rfl rfl (g := (mkF m 42 #[.val (.ref a1), .val (.int p2)] [(.ref b10), (.ref a1)])) rfl rfl (hb hby d3_42)
  have N11 := Fr.snoc X11 N6 g1
  have Fw11 := f22.same W11
  have f26 := f19.wr W11
  have f27 := f20.other W11 (Or.inr (slot_ne (Or.inl (hw _ (List.mem_of_getElem? (i := 15) rfl))) (Or.inl (hw _ (List.mem_of_getElem? (i := 12) rfl))) (by decide) (t := .int) (t' := (.array .byte)) (by decide) (by decide)))
  have f28 := f21.other W11 (Or.inr (slot_ne (Or.inl (hw _ (List.mem_of_getElem? (i := 17) rfl))) (Or.inl (hw _ (List.mem_of_getElem? (i := 12) rfl))) (by decide) (t := .int) (t' := (.array .byte)) (by decide) (by decide)))
  have f29 := f23.other W11 hne
  have f30 := V10.other W11 (Ne.symm ne_a1_b10)
  have Zs31 := Nat.le_trans Zs24 (Keep.of_wr W11).1
  have K32 := K25.wr W11 (Or.inl (List.mem_of_getElem? (i := 0) rfl))
  refine Go.on (B := T11.setTop (mkF m 45 #[.val (.ref a1), .val (.int p2)] [])) (fun t k => st11 _ k) ?_
  obtain ⟨fs, hr, hrun, hended, hW, hsame⟩ := X11.leave (v := none) (fun _ => rfl)
  refine ⟨_, _, ?_, hrun, hended, _, _, rfl, ?_, ⟨_, rfl⟩, hW, hsame.mono (by decide) (by decide)⟩
  · exact X11.returnOut hx Bd.returns (hb hby d3_45) hr
  · show Q_rel2 Z a1 p2 p3 a4 k4 z4 p5 h0 n0 _ T11.heap _
    rw [e11]
    exact ⟨rfl, N11, K32, f26, f27, f28, _, _, Fw11, sz_b10, f30⟩

theorem own_len (v z : Int32) (h : z = (if v = (0 : Int32) then (1024 : Int32) else (if v = (1 : Int32) then (65536 : Int32) else (if v = (2 : Int32) then (65537 : Int32) else (2048 : Int32))))) : 0 ≤ z.toInt ∧ z.toInt ≤ 65537 := by
  by_cases h1 : v = (0 : Int32)
  · rw [if_pos h1] at h; rw [h]; decide
  · rw [if_neg h1] at h
    by_cases h2 : v = (1 : Int32)
    · rw [if_pos h2] at h; rw [h]; decide
    · rw [if_neg h2] at h
      by_cases h3 : v = (2 : Int32)
      · rw [if_pos h3] at h; rw [h]; decide
      · rw [if_neg h3] at h; rw [h]; decide
theorem own_z0 : (0 : Int32).toInt = 0 := by decide
theorem own_z1 : (1 : Int32).toInt = 1 := by decide
theorem own_neg {z : Int32} (h : 0 ≤ z.toInt ∧ z.toInt ≤ 65537) : ¬ z < 0 := by
  rw [Int32.lt_iff_toInt_lt]
  have := own_z0
  omega
theorem own_cap {z : Int32} (h : 0 ≤ z.toInt ∧ z.toInt ≤ 65537) : z.toNatClampNeg ≤ 65537 := by
  show z.toInt.toNat ≤ 65537
  omega
theorem own_up1 {z : Int32} (h : 0 ≤ z.toInt ∧ z.toInt ≤ 65537) : (z + (1 : Int32)).toInt = z.toInt + 1 := by
  have k := c_iadd z 1
  have r := rng32 (z + 1)
  rw [own_z1] at k
  omega
theorem own_ne1 {z : Int32} (h : 0 ≤ z.toInt ∧ z.toInt ≤ 65537) : (z + (1 : Int32)) ≠ 0 := fun q => by
  have k := own_up1 h
  rw [q, own_z0] at k
  omega
theorem own_rem {x z r : Int32} (h : 0 ≤ z.toInt ∧ z.toInt ≤ 65537) (hr : ((x &&& (2147483647 : Int32)) % (z + (1 : Int32))) = r) : 0 ≤ r.toInt ∧ r.toInt ≤ z.toInt := by
  have k := own_up1 h
  have a := (c_and x (2147483647 : Int32) (by decide)).1
  have q := (c_iremV (x &&& (2147483647 : Int32)) (z + (1 : Int32))).1 a (by omega)
  rw [hr] at q
  omega
theorem own_sub {x z r : Int32} (h : 0 ≤ z.toInt ∧ z.toInt ≤ 65537) (hr : 0 ≤ r.toInt ∧ r.toInt ≤ z.toInt) : ((z - r) + (1 : Int32)) ≠ 0 := by
  have k := c_isub z r
  have b := rng32 (z - r)
  exact own_ne1 (by omega)
theorem pd_0 : parseMethodDescriptor "()V" = some ⟨[], none⟩ := by decide +kernel
theorem pd_1 : parseMethodDescriptor "(I)V" = some ⟨[.int], none⟩ := by decide +kernel
theorem pn_6 : plainName "com/example/pankti/pankti/protocol/ByteWindowReleasePinLaw" = true := by first | (simp [plainName, overriddenIn]; done) | decide +kernel
theorem ef_rm0 (m : MethodId) (p1 : Int32) (p2 : Int32) (p3 : Int32) (p4 : Int32) (p5 : Int32) : entryFrame m #[(.int p1), (.int p2), (.int p3), (.int p4), (.int p5)] maxLocals = mkF m 0 #[.val (.int p1), .val (.int p2), .val (.int p3), .val (.int p4), .val (.int p5), .unset, .unset, .unset, .unset, .unset, .unset, .unset] [] := by first | (simp [entryFrame, mkF, argsToLocals, Value.category, maxLocals]; done) | rfl
def Q_rm0 (Z : State) (p1 : Int32) (p2 : Int32) (p3 : Int32) (p4 : Int32) (p5 : Int32) (h0 : Heap) (n0 : Nat) (v : Option Value) (h : Heap) (L : List Loc) : Prop := v = some (.int 1) ∧ Fr n0 L
set_option maxRecDepth 65536 in
set_option maxHeartbeats 40000000 in
theorem rm0 (l : Launch) (Z : State) (a0 : Array Value) (hw : ∀ d ∈ tables_1, d.before a0 Z = true) (ws : List Jvm.Cond) (p1 : Int32) (p2 : Int32) (p3 : Int32) (p4 : Int32) (p5 : Int32) (h0 : Heap) (n0 : Nat) (Z0 : n0 ≤ h0.size)  :
    MetFree l x (head1 (Jvm.Cond.code x code maxLocals ret :: ws) room_1) (fun a U => a = #[(.int p1), (.int p2), (.int p3), (.int p4), (.int p5)] ∧ Z.Warmed39 U.vm ∧ U.heap = h0) (fun _ _ _ _ _ => True) (fun _ U o U' => ∃ v L, o = .returned v ∧ Q_rm0 Z p1 p2 p3 p4 p5 h0 n0 v U'.heap L ∧ FrameEnd U o U' L room_1.cells room_1.slots) := by
  refine MetFree.of_bodySF (plainFor_of_name pn_6) hisR ?_
  intro p e s m args below meth c s₁ Bd hml0 hP hK
  obtain ⟨rfl, hZ, hh⟩ := hP
  have hx := Bd.exec
  have hby := Bd.bytes
  have hml : c.maxLocals = 12 := hml0
  have hown : s.vm.findClass "com/example/pankti/pankti/protocol/ByteWindowReleasePinLaw" = some m.cls := findClass_of_methodNamed Bd.named
  have hnm := (name_of_methodNamed Bd.named Bd.method).1
  have X0 : Stand p l e room_1 s m #[(.int p1), (.int p2), (.int p3), (.int p4), (.int p5)] below meth c s₁ [] 0 0 := Stand.of_body Bd
  have e0 : s₁.heap = h0 := by rw [← hh, Bd.state]; rfl
  have N0 := Fr.nil n0
  have pre0 : ∀ t, Steps p.tables e below (s₁.setTop (mkF m 0 #[.val (.int p1), .val (.int p2), .val (.int p3), .val (.int p4), .val (.int p5), .unset, .unset, .unset, .unset, .unset, .unset, .unset] [])) t → Steps p.tables e below (s₁.setTop (entryFrame m #[(.int p1), (.int p2), (.int p3), (.int p4), (.int p5)] maxLocals)) t := fun t k => castTop (ef_rm0 m p1 p2 p3 p4 p5) k
  change Go p.tables e below (fun o U' => ∃ v L, o = .returned v ∧ Q_rm0 Z p1 p2 p3 p4 p5 h0 n0 v U'.heap L ∧ FrameEnd s o U' L room_1.cells room_1.slots) (s₁.setTop (entryFrame m #[(.int p1), (.int p2), (.int p3), (.int p4), (.int p5)] maxLocals))
  refine Go.on pre0 ?_
  refine Go.on (B := s₁.setTop (mkF m 1 #[.val (.int p1), .val (.int p2), .val (.int p3), .val (.int p4), .val (.int p5), .unset, .unset, .unset, .unset, .unset, .unset, .unset] [(.int p1)])) (fun t k => XS.iloadN X0.here hx rfl (hb hby at_0) rfl k) ?_
  refine Go.on (B := s₁.setTop (mkF m 2 #[.val (.int p1), .val (.int p2), .val (.int p3), .val (.int p4), .val (.int p5), .unset, .unset, .unset, .unset, .unset, .unset, .unset] [(.int (3 : Int32)), (.int p1)])) (fun t k => XS.iconst X0.here hx rfl (hb hby at_1) k) ?_
  refine Go.on (B := s₁.setTop (mkF m 3 #[.val (.int p1), .val (.int p2), .val (.int p3), .val (.int p4), .val (.int p5), .unset, .unset, .unset, .unset, .unset, .unset, .unset] [(.int (p1 &&& (3 : Int32)))])) (fun t k => XS.iand X0.here hx rfl (hb hby at_2) rfl k) ?_
  generalize hv3_1 : (p1 &&& (3 : Int32)) = v3_1
  refine Go.on (B := s₁.setTop (mkF m 5 #[.val (.int p1), .val (.int p2), .val (.int p3), .val (.int p4), .val (.int p5), .val (.int v3_1), .unset, .unset, .unset, .unset, .unset, .unset] [])) (fun t k => XS.istore X0.here hx rfl (hb hby at_3) rfl (l' := #[.val (.int p1), .val (.int p2), .val (.int p3), .val (.int p4), .val (.int p5), .val (.int v3_1), .unset, .unset, .unset, .unset, .unset, .unset]) rfl k) ?_
  refine Go.on (B := s₁.setTop (mkF m 7 #[.val (.int p1), .val (.int p2), .val (.int p3), .val (.int p4), .val (.int p5), .val (.int v3_1), .unset, .unset, .unset, .unset, .unset, .unset] [(.int v3_1)])) (fun t k => XS.iload X0.here hx rfl (hb hby at_5) rfl k) ?_
  have sg7_2 : ∀ (z7_a2 : Int32) (hz7_a2 : z7_a2 = (if v3_1 = (0 : Int32) then (1024 : Int32) else (if v3_1 = (1 : Int32) then (65536 : Int32) else (if v3_1 = (2 : Int32) then (65537 : Int32) else (2048 : Int32))))), ∀ t, Steps p.tables e below (s₁.setTop (mkF m 41 #[.val (.int p1), .val (.int p2), .val (.int p3), .val (.int p4), .val (.int p5), .val (.int v3_1), .unset, .unset, .unset, .unset, .unset, .unset] [(.int z7_a2)])) t → Steps p.tables e below (s₁.setTop (mkF m 7 #[.val (.int p1), .val (.int p2), .val (.int p3), .val (.int p4), .val (.int p5), .val (.int v3_1), .unset, .unset, .unset, .unset, .unset, .unset] [(.int v3_1)])) t := by
    intro z7_a2 hz7_a2 t k
    show Steps p.tables e below (s₁.setTop (mkF m 7 #[.val (.int p1), .val (.int p2), .val (.int p3), .val (.int p4), .val (.int p5), .val (.int v3_1), .unset, .unset, .unset, .unset, .unset, .unset] [(.int v3_1)])) _
    by_cases hc7_3 : v3_1 = (0 : Int32)
    · first | rw [if_pos hc7_3] at hz7_a2 | skip
      refine XS.ifNo X0.here hx rfl (hb hby at_7) rfl ((if0 _ _).trans (teq hc7_3).2) ?_
      show Steps p.tables e below (s₁.setTop (mkF m 10 #[.val (.int p1), .val (.int p2), .val (.int p3), .val (.int p4), .val (.int p5), .val (.int v3_1), .unset, .unset, .unset, .unset, .unset, .unset] [])) _
      refine XS.sipush X0.here hx rfl (hb hby at_10) ?_
      show Steps p.tables e below (s₁.setTop (mkF m 13 #[.val (.int p1), .val (.int p2), .val (.int p3), .val (.int p4), .val (.int p5), .val (.int v3_1), .unset, .unset, .unset, .unset, .unset, .unset] [(.int (1024 : Int32))])) _
      refine XS.goto X0.here hx rfl (pc0 := 13) (pc' := 41) rfl (hb hby at_13) (by decide) (by decide) ?_
      show Steps p.tables e below (s₁.setTop (mkF m 41 #[.val (.int p1), .val (.int p2), .val (.int p3), .val (.int p4), .val (.int p5), .val (.int v3_1), .unset, .unset, .unset, .unset, .unset, .unset] [(.int (1024 : Int32))])) _
      subst hz7_a2
      exact k
    · first | rw [if_neg hc7_3] at hz7_a2 | skip
      refine XS.ifYes X0.here hx rfl (pc0 := 7) (pc' := 16) rfl (hb hby at_7) rfl ((if0 _ _).trans (feq hc7_3).2) (by decide) (by decide) ?_
      show Steps p.tables e below (s₁.setTop (mkF m 16 #[.val (.int p1), .val (.int p2), .val (.int p3), .val (.int p4), .val (.int p5), .val (.int v3_1), .unset, .unset, .unset, .unset, .unset, .unset] [])) _
      refine XS.iload X0.here hx rfl (hb hby at_16) rfl ?_
      show Steps p.tables e below (s₁.setTop (mkF m 18 #[.val (.int p1), .val (.int p2), .val (.int p3), .val (.int p4), .val (.int p5), .val (.int v3_1), .unset, .unset, .unset, .unset, .unset, .unset] [(.int v3_1)])) _
      refine XS.iconst X0.here hx rfl (hb hby at_18) ?_
      show Steps p.tables e below (s₁.setTop (mkF m 19 #[.val (.int p1), .val (.int p2), .val (.int p3), .val (.int p4), .val (.int p5), .val (.int v3_1), .unset, .unset, .unset, .unset, .unset, .unset] [(.int (1 : Int32)), (.int v3_1)])) _
      by_cases hc19_4 : v3_1 = (1 : Int32)
      · first | rw [if_pos hc19_4] at hz7_a2 | skip
        refine XS.icmpNo X0.here hx rfl (hb hby at_19) rfl (teq hc19_4).2 ?_
        show Steps p.tables e below (s₁.setTop (mkF m 22 #[.val (.int p1), .val (.int p2), .val (.int p3), .val (.int p4), .val (.int p5), .val (.int v3_1), .unset, .unset, .unset, .unset, .unset, .unset] [])) _
        refine X0.ldcInt hx hown (mvT hZ (hw _ (List.mem_of_getElem? (i := 26) rfl))) (g := (mkF m 22 #[.val (.int p1), .val (.int p2), .val (.int p3), .val (.int p4), .val (.int p5), .val (.int v3_1), .unset, .unset, .unset, .unset, .unset, .unset] [])) rfl (hb hby at_22) _ ?_
        show Steps p.tables e below (s₁.setTop (mkF m 24 #[.val (.int p1), .val (.int p2), .val (.int p3), .val (.int p4), .val (.int p5), .val (.int v3_1), .unset, .unset, .unset, .unset, .unset, .unset] [(.int (65536 : Int32))])) _
        refine XS.goto X0.here hx rfl (pc0 := 24) (pc' := 41) rfl (hb hby at_24) (by decide) (by decide) ?_
        show Steps p.tables e below (s₁.setTop (mkF m 41 #[.val (.int p1), .val (.int p2), .val (.int p3), .val (.int p4), .val (.int p5), .val (.int v3_1), .unset, .unset, .unset, .unset, .unset, .unset] [(.int (65536 : Int32))])) _
        subst hz7_a2
        exact k
      · first | rw [if_neg hc19_4] at hz7_a2 | skip
        refine XS.icmpYes X0.here hx rfl (pc0 := 19) (pc' := 27) rfl (hb hby at_19) rfl (feq hc19_4).2 (by decide) (by decide) ?_
        show Steps p.tables e below (s₁.setTop (mkF m 27 #[.val (.int p1), .val (.int p2), .val (.int p3), .val (.int p4), .val (.int p5), .val (.int v3_1), .unset, .unset, .unset, .unset, .unset, .unset] [])) _
        refine XS.iload X0.here hx rfl (hb hby at_27) rfl ?_
        show Steps p.tables e below (s₁.setTop (mkF m 29 #[.val (.int p1), .val (.int p2), .val (.int p3), .val (.int p4), .val (.int p5), .val (.int v3_1), .unset, .unset, .unset, .unset, .unset, .unset] [(.int v3_1)])) _
        refine XS.iconst X0.here hx rfl (hb hby at_29) ?_
        show Steps p.tables e below (s₁.setTop (mkF m 30 #[.val (.int p1), .val (.int p2), .val (.int p3), .val (.int p4), .val (.int p5), .val (.int v3_1), .unset, .unset, .unset, .unset, .unset, .unset] [(.int (2 : Int32)), (.int v3_1)])) _
        by_cases hc30_5 : v3_1 = (2 : Int32)
        · first | rw [if_pos hc30_5] at hz7_a2 | skip
          refine XS.icmpNo X0.here hx rfl (hb hby at_30) rfl (teq hc30_5).2 ?_
          show Steps p.tables e below (s₁.setTop (mkF m 33 #[.val (.int p1), .val (.int p2), .val (.int p3), .val (.int p4), .val (.int p5), .val (.int v3_1), .unset, .unset, .unset, .unset, .unset, .unset] [])) _
          refine X0.ldcInt hx hown (mvT hZ (hw _ (List.mem_of_getElem? (i := 27) rfl))) (g := (mkF m 33 #[.val (.int p1), .val (.int p2), .val (.int p3), .val (.int p4), .val (.int p5), .val (.int v3_1), .unset, .unset, .unset, .unset, .unset, .unset] [])) rfl (hb hby at_33) _ ?_
          show Steps p.tables e below (s₁.setTop (mkF m 35 #[.val (.int p1), .val (.int p2), .val (.int p3), .val (.int p4), .val (.int p5), .val (.int v3_1), .unset, .unset, .unset, .unset, .unset, .unset] [(.int (65537 : Int32))])) _
          refine XS.goto X0.here hx rfl (pc0 := 35) (pc' := 41) rfl (hb hby at_35) (by decide) (by decide) ?_
          show Steps p.tables e below (s₁.setTop (mkF m 41 #[.val (.int p1), .val (.int p2), .val (.int p3), .val (.int p4), .val (.int p5), .val (.int v3_1), .unset, .unset, .unset, .unset, .unset, .unset] [(.int (65537 : Int32))])) _
          subst hz7_a2
          exact k
        · first | rw [if_neg hc30_5] at hz7_a2 | skip
          refine XS.icmpYes X0.here hx rfl (pc0 := 30) (pc' := 38) rfl (hb hby at_30) rfl (feq hc30_5).2 (by decide) (by decide) ?_
          show Steps p.tables e below (s₁.setTop (mkF m 38 #[.val (.int p1), .val (.int p2), .val (.int p3), .val (.int p4), .val (.int p5), .val (.int v3_1), .unset, .unset, .unset, .unset, .unset, .unset] [])) _
          refine XS.sipush X0.here hx rfl (hb hby at_38) ?_
          show Steps p.tables e below (s₁.setTop (mkF m 41 #[.val (.int p1), .val (.int p2), .val (.int p3), .val (.int p4), .val (.int p5), .val (.int v3_1), .unset, .unset, .unset, .unset, .unset, .unset] [(.int (2048 : Int32))])) _
          subst hz7_a2
          exact k
  obtain ⟨z7_a2, hz7_a2⟩ : ∃ z, z = (if v3_1 = (0 : Int32) then (1024 : Int32) else (if v3_1 = (1 : Int32) then (65536 : Int32) else (if v3_1 = (2 : Int32) then (65537 : Int32) else (2048 : Int32)))) := ⟨_, rfl⟩
  refine Go.on (sg7_2 z7_a2 hz7_a2) ?_
  refine Go.on (B := s₁.setTop (mkF m 43 #[.val (.int p1), .val (.int p2), .val (.int p3), .val (.int p4), .val (.int p5), .val (.int v3_1), .val (.int z7_a2), .unset, .unset, .unset, .unset, .unset] [])) (fun t k => XS.istore X0.here hx rfl (hb hby at_41) rfl (l' := #[.val (.int p1), .val (.int p2), .val (.int p3), .val (.int p4), .val (.int p5), .val (.int v3_1), .val (.int z7_a2), .unset, .unset, .unset, .unset, .unset]) rfl k) ?_
  refine Go.on (B := s₁.setTop (mkF m 45 #[.val (.int p1), .val (.int p2), .val (.int p3), .val (.int p4), .val (.int p5), .val (.int v3_1), .val (.int z7_a2), .unset, .unset, .unset, .unset, .unset] [(.int z7_a2)])) (fun t k => XS.iload X0.here hx rfl (hb hby at_43) rfl k) ?_
  have hlen := own_len _ _ hz7_a2
  obtain ⟨T7, h7, k7, X7, e7, E7, A7, st7⟩ := newP X0 hx hZ (hw _ (List.mem_of_getElem? (i := 0) rfl)) e0 (g := (mkF m 45 #[.val (.int p1), .val (.int p2), .val (.int p3), .val (.int p4), .val (.int p5), .val (.int v3_1), .val (.int z7_a2), .unset, .unset, .unset, .unset, .unset] [(.int z7_a2)])) rfl (hb hby at_45) rfl (own_neg hlen) (cap := 65537) (own_cap hlen) (by decide) (by decide) (by decide)
  obtain ⟨b7, g7⟩ : ∃ z, z = h0.size := ⟨_, rfl⟩
  rw [← g7] at A7 st7
  have ge_b7 : n0 ≤ b7 := Nat.le_trans Z0 (Nat.le_of_eq g7.symm)
  have Zs1 := Nat.le_trans Z0 E7.1
  have V7 : Arv Z h7 b7 k7 .byte z7_a2 [] (.int (0 : Int32)) := Arv.new A7 (own_neg hlen)
  refine Go.on (B := T7.setTop (mkF m 47 #[.val (.int p1), .val (.int p2), .val (.int p3), .val (.int p4), .val (.int p5), .val (.int v3_1), .val (.int z7_a2), .unset, .unset, .unset, .unset, .unset] [(.ref b7)])) (fun t k => st7 _ k) ?_
  refine Go.on (B := T7.setTop (mkF m 49 #[.val (.int p1), .val (.int p2), .val (.int p3), .val (.int p4), .val (.int p5), .val (.int v3_1), .val (.int z7_a2), .val (.ref b7), .unset, .unset, .unset, .unset] [])) (fun t k => XS.astore X7.here hx rfl (hb hby at_47) rfl rfl (l' := #[.val (.int p1), .val (.int p2), .val (.int p3), .val (.int p4), .val (.int p5), .val (.int v3_1), .val (.int z7_a2), .val (.ref b7), .unset, .unset, .unset, .unset]) rfl k) ?_
  refine Go.on (B := T7.setTop (mkF m 50 #[.val (.int p1), .val (.int p2), .val (.int p3), .val (.int p4), .val (.int p5), .val (.int v3_1), .val (.int z7_a2), .val (.ref b7), .unset, .unset, .unset, .unset] [(.int p2)])) (fun t k => XS.iloadN X7.here hx rfl (hb hby at_49) rfl k) ?_
  refine Go.on (B := T7.setTop (mkF m 52 #[.val (.int p1), .val (.int p2), .val (.int p3), .val (.int p4), .val (.int p5), .val (.int v3_1), .val (.int z7_a2), .val (.ref b7), .unset, .unset, .unset, .unset] [(.int (2147483647 : Int32)), (.int p2)])) (fun t k => X7.ldcInt hx hown (mvT hZ (hw _ (List.mem_of_getElem? (i := 1) rfl))) (g := (mkF m 50 #[.val (.int p1), .val (.int p2), .val (.int p3), .val (.int p4), .val (.int p5), .val (.int v3_1), .val (.int z7_a2), .val (.ref b7), .unset, .unset, .unset, .unset] [(.int p2)])) rfl (hb hby at_50) _ k) ?_
  refine Go.on (B := T7.setTop (mkF m 53 #[.val (.int p1), .val (.int p2), .val (.int p3), .val (.int p4), .val (.int p5), .val (.int v3_1), .val (.int z7_a2), .val (.ref b7), .unset, .unset, .unset, .unset] [(.int (p2 &&& (2147483647 : Int32)))])) (fun t k => XS.iand X7.here hx rfl (hb hby at_52) rfl k) ?_
  refine Go.on (B := T7.setTop (mkF m 55 #[.val (.int p1), .val (.int p2), .val (.int p3), .val (.int p4), .val (.int p5), .val (.int v3_1), .val (.int z7_a2), .val (.ref b7), .unset, .unset, .unset, .unset] [(.int z7_a2), (.int (p2 &&& (2147483647 : Int32)))])) (fun t k => XS.iload X7.here hx rfl (hb hby at_53) rfl k) ?_
  refine Go.on (B := T7.setTop (mkF m 56 #[.val (.int p1), .val (.int p2), .val (.int p3), .val (.int p4), .val (.int p5), .val (.int v3_1), .val (.int z7_a2), .val (.ref b7), .unset, .unset, .unset, .unset] [(.int (1 : Int32)), (.int z7_a2), (.int (p2 &&& (2147483647 : Int32)))])) (fun t k => XS.iconst X7.here hx rfl (hb hby at_55) k) ?_
  refine Go.on (B := T7.setTop (mkF m 57 #[.val (.int p1), .val (.int p2), .val (.int p3), .val (.int p4), .val (.int p5), .val (.int v3_1), .val (.int z7_a2), .val (.ref b7), .unset, .unset, .unset, .unset] [(.int (z7_a2 + (1 : Int32))), (.int (p2 &&& (2147483647 : Int32)))])) (fun t k => XS.iadd X7.here hx rfl (hb hby at_56) rfl k) ?_
  refine Go.on (B := T7.setTop (mkF m 58 #[.val (.int p1), .val (.int p2), .val (.int p3), .val (.int p4), .val (.int p5), .val (.int v3_1), .val (.int z7_a2), .val (.ref b7), .unset, .unset, .unset, .unset] [(.int ((p2 &&& (2147483647 : Int32)) % (z7_a2 + (1 : Int32))))])) (fun t k => iremM X7 hx rfl (hb hby at_57) rfl (own_ne1 hlen) k) ?_
  generalize hv58_8 : ((p2 &&& (2147483647 : Int32)) % (z7_a2 + (1 : Int32))) = v58_8
  refine Go.on (B := T7.setTop (mkF m 60 #[.val (.int p1), .val (.int p2), .val (.int p3), .val (.int p4), .val (.int p5), .val (.int v3_1), .val (.int z7_a2), .val (.ref b7), .val (.int v58_8), .unset, .unset, .unset] [])) (fun t k => XS.istore X7.here hx rfl (hb hby at_58) rfl (l' := #[.val (.int p1), .val (.int p2), .val (.int p3), .val (.int p4), .val (.int p5), .val (.int v3_1), .val (.int z7_a2), .val (.ref b7), .val (.int v58_8), .unset, .unset, .unset]) rfl k) ?_
  have hend := own_rem hlen hv58_8
  have hend2 : 0 ≤ v58_8.toInt ∧ v58_8.toInt ≤ 65537 := by omega
  refine Go.on (B := T7.setTop (mkF m 61 #[.val (.int p1), .val (.int p2), .val (.int p3), .val (.int p4), .val (.int p5), .val (.int v3_1), .val (.int z7_a2), .val (.ref b7), .val (.int v58_8), .unset, .unset, .unset] [(.int p3)])) (fun t k => XS.iloadN X7.here hx rfl (hb hby at_60) rfl k) ?_
  refine Go.on (B := T7.setTop (mkF m 63 #[.val (.int p1), .val (.int p2), .val (.int p3), .val (.int p4), .val (.int p5), .val (.int v3_1), .val (.int z7_a2), .val (.ref b7), .val (.int v58_8), .unset, .unset, .unset] [(.int (2147483647 : Int32)), (.int p3)])) (fun t k => X7.ldcInt hx hown (mvT hZ (hw _ (List.mem_of_getElem? (i := 1) rfl))) (g := (mkF m 61 #[.val (.int p1), .val (.int p2), .val (.int p3), .val (.int p4), .val (.int p5), .val (.int v3_1), .val (.int z7_a2), .val (.ref b7), .val (.int v58_8), .unset, .unset, .unset] [(.int p3)])) rfl (hb hby at_61) _ k) ?_
  refine Go.on (B := T7.setTop (mkF m 64 #[.val (.int p1), .val (.int p2), .val (.int p3), .val (.int p4), .val (.int p5), .val (.int v3_1), .val (.int z7_a2), .val (.ref b7), .val (.int v58_8), .unset, .unset, .unset] [(.int (p3 &&& (2147483647 : Int32)))])) (fun t k => XS.iand X7.here hx rfl (hb hby at_63) rfl k) ?_
  refine Go.on (B := T7.setTop (mkF m 66 #[.val (.int p1), .val (.int p2), .val (.int p3), .val (.int p4), .val (.int p5), .val (.int v3_1), .val (.int z7_a2), .val (.ref b7), .val (.int v58_8), .unset, .unset, .unset] [(.int v58_8), (.int (p3 &&& (2147483647 : Int32)))])) (fun t k => XS.iload X7.here hx rfl (hb hby at_64) rfl k) ?_
  refine Go.on (B := T7.setTop (mkF m 67 #[.val (.int p1), .val (.int p2), .val (.int p3), .val (.int p4), .val (.int p5), .val (.int v3_1), .val (.int z7_a2), .val (.ref b7), .val (.int v58_8), .unset, .unset, .unset] [(.int (1 : Int32)), (.int v58_8), (.int (p3 &&& (2147483647 : Int32)))])) (fun t k => XS.iconst X7.here hx rfl (hb hby at_66) k) ?_
  refine Go.on (B := T7.setTop (mkF m 68 #[.val (.int p1), .val (.int p2), .val (.int p3), .val (.int p4), .val (.int p5), .val (.int v3_1), .val (.int z7_a2), .val (.ref b7), .val (.int v58_8), .unset, .unset, .unset] [(.int (v58_8 + (1 : Int32))), (.int (p3 &&& (2147483647 : Int32)))])) (fun t k => XS.iadd X7.here hx rfl (hb hby at_67) rfl k) ?_
  refine Go.on (B := T7.setTop (mkF m 69 #[.val (.int p1), .val (.int p2), .val (.int p3), .val (.int p4), .val (.int p5), .val (.int v3_1), .val (.int z7_a2), .val (.ref b7), .val (.int v58_8), .unset, .unset, .unset] [(.int ((p3 &&& (2147483647 : Int32)) % (v58_8 + (1 : Int32))))])) (fun t k => iremM X7 hx rfl (hb hby at_68) rfl (own_ne1 hend2) k) ?_
  generalize hv69_9 : ((p3 &&& (2147483647 : Int32)) % (v58_8 + (1 : Int32))) = v69_9
  refine Go.on (B := T7.setTop (mkF m 71 #[.val (.int p1), .val (.int p2), .val (.int p3), .val (.int p4), .val (.int p5), .val (.int v3_1), .val (.int z7_a2), .val (.ref b7), .val (.int v58_8), .val (.int v69_9), .unset, .unset] [])) (fun t k => XS.istore X7.here hx rfl (hb hby at_69) rfl (l' := #[.val (.int p1), .val (.int p2), .val (.int p3), .val (.int p4), .val (.int p5), .val (.int v3_1), .val (.int z7_a2), .val (.ref b7), .val (.int v58_8), .val (.int v69_9), .unset, .unset]) rfl k) ?_
  have hst := own_rem hend2 hv69_9
  have hy96 := own_sub (x := v69_9) hend2 hst
  refine Go.on (B := T7.setTop (mkF m 73 #[.val (.int p1), .val (.int p2), .val (.int p3), .val (.int p4), .val (.int p5), .val (.int v3_1), .val (.int z7_a2), .val (.ref b7), .val (.int v58_8), .val (.int v69_9), .unset, .unset] [(.int p5)])) (fun t k => XS.iload X7.here hx rfl (hb hby at_71) rfl k) ?_
  refine Go.on (B := T7.setTop (mkF m 74 #[.val (.int p1), .val (.int p2), .val (.int p3), .val (.int p4), .val (.int p5), .val (.int v3_1), .val (.int z7_a2), .val (.ref b7), .val (.int v58_8), .val (.int v69_9), .unset, .unset] [(.int (1 : Int32)), (.int p5)])) (fun t k => XS.iconst X7.here hx rfl (hb hby at_73) k) ?_
  refine Go.on (B := T7.setTop (mkF m 75 #[.val (.int p1), .val (.int p2), .val (.int p3), .val (.int p4), .val (.int p5), .val (.int v3_1), .val (.int z7_a2), .val (.ref b7), .val (.int v58_8), .val (.int v69_9), .unset, .unset] [(.int (p5 &&& (1 : Int32)))])) (fun t k => XS.iand X7.here hx rfl (hb hby at_74) rfl k) ?_
  have sg75_10 : ∀ (z75_a10 : Int32) (hz75_a10 : z75_a10 = (if (p5 &&& (1 : Int32)) = (0 : Int32) then (v69_9 + ((p4 &&& (2147483647 : Int32)) % ((v58_8 - v69_9) + (1 : Int32)))) else v58_8)), ∀ t, Steps p.tables e below (T7.setTop (mkF m 98 #[.val (.int p1), .val (.int p2), .val (.int p3), .val (.int p4), .val (.int p5), .val (.int v3_1), .val (.int z7_a2), .val (.ref b7), .val (.int v58_8), .val (.int v69_9), .unset, .unset] [(.int z75_a10)])) t → Steps p.tables e below (T7.setTop (mkF m 75 #[.val (.int p1), .val (.int p2), .val (.int p3), .val (.int p4), .val (.int p5), .val (.int v3_1), .val (.int z7_a2), .val (.ref b7), .val (.int v58_8), .val (.int v69_9), .unset, .unset] [(.int (p5 &&& (1 : Int32)))])) t := by
    intro z75_a10 hz75_a10 t k
    show Steps p.tables e below (T7.setTop (mkF m 75 #[.val (.int p1), .val (.int p2), .val (.int p3), .val (.int p4), .val (.int p5), .val (.int v3_1), .val (.int z7_a2), .val (.ref b7), .val (.int v58_8), .val (.int v69_9), .unset, .unset] [(.int (p5 &&& (1 : Int32)))])) _
    by_cases hc75_11 : (p5 &&& (1 : Int32)) = (0 : Int32)
    · first | rw [if_pos hc75_11] at hz75_a10 | skip
      refine XS.ifYes X7.here hx rfl (pc0 := 75) (pc' := 83) rfl (hb hby at_75) rfl ((if0 _ _).trans (teq hc75_11).1) (by decide) (by decide) ?_
      show Steps p.tables e below (T7.setTop (mkF m 83 #[.val (.int p1), .val (.int p2), .val (.int p3), .val (.int p4), .val (.int p5), .val (.int v3_1), .val (.int z7_a2), .val (.ref b7), .val (.int v58_8), .val (.int v69_9), .unset, .unset] [])) _
      refine XS.iload X7.here hx rfl (hb hby at_83) rfl ?_
      show Steps p.tables e below (T7.setTop (mkF m 85 #[.val (.int p1), .val (.int p2), .val (.int p3), .val (.int p4), .val (.int p5), .val (.int v3_1), .val (.int z7_a2), .val (.ref b7), .val (.int v58_8), .val (.int v69_9), .unset, .unset] [(.int v69_9)])) _
      refine XS.iloadN X7.here hx rfl (hb hby at_85) rfl ?_
      show Steps p.tables e below (T7.setTop (mkF m 86 #[.val (.int p1), .val (.int p2), .val (.int p3), .val (.int p4), .val (.int p5), .val (.int v3_1), .val (.int z7_a2), .val (.ref b7), .val (.int v58_8), .val (.int v69_9), .unset, .unset] [(.int p4), (.int v69_9)])) _
      refine X7.ldcInt hx hown (mvT hZ (hw _ (List.mem_of_getElem? (i := 1) rfl))) (g := (mkF m 86 #[.val (.int p1), .val (.int p2), .val (.int p3), .val (.int p4), .val (.int p5), .val (.int v3_1), .val (.int z7_a2), .val (.ref b7), .val (.int v58_8), .val (.int v69_9), .unset, .unset] [(.int p4), (.int v69_9)])) rfl (hb hby at_86) _ ?_
      show Steps p.tables e below (T7.setTop (mkF m 88 #[.val (.int p1), .val (.int p2), .val (.int p3), .val (.int p4), .val (.int p5), .val (.int v3_1), .val (.int z7_a2), .val (.ref b7), .val (.int v58_8), .val (.int v69_9), .unset, .unset] [(.int (2147483647 : Int32)), (.int p4), (.int v69_9)])) _
      refine XS.iand X7.here hx rfl (hb hby at_88) rfl ?_
      show Steps p.tables e below (T7.setTop (mkF m 89 #[.val (.int p1), .val (.int p2), .val (.int p3), .val (.int p4), .val (.int p5), .val (.int v3_1), .val (.int z7_a2), .val (.ref b7), .val (.int v58_8), .val (.int v69_9), .unset, .unset] [(.int (p4 &&& (2147483647 : Int32))), (.int v69_9)])) _
      refine XS.iload X7.here hx rfl (hb hby at_89) rfl ?_
      show Steps p.tables e below (T7.setTop (mkF m 91 #[.val (.int p1), .val (.int p2), .val (.int p3), .val (.int p4), .val (.int p5), .val (.int v3_1), .val (.int z7_a2), .val (.ref b7), .val (.int v58_8), .val (.int v69_9), .unset, .unset] [(.int v58_8), (.int (p4 &&& (2147483647 : Int32))), (.int v69_9)])) _
      refine XS.iload X7.here hx rfl (hb hby at_91) rfl ?_
      show Steps p.tables e below (T7.setTop (mkF m 93 #[.val (.int p1), .val (.int p2), .val (.int p3), .val (.int p4), .val (.int p5), .val (.int v3_1), .val (.int z7_a2), .val (.ref b7), .val (.int v58_8), .val (.int v69_9), .unset, .unset] [(.int v69_9), (.int v58_8), (.int (p4 &&& (2147483647 : Int32))), (.int v69_9)])) _
      refine XS.isub X7.here hx rfl (hb hby at_93) rfl ?_
      show Steps p.tables e below (T7.setTop (mkF m 94 #[.val (.int p1), .val (.int p2), .val (.int p3), .val (.int p4), .val (.int p5), .val (.int v3_1), .val (.int z7_a2), .val (.ref b7), .val (.int v58_8), .val (.int v69_9), .unset, .unset] [(.int (v58_8 - v69_9)), (.int (p4 &&& (2147483647 : Int32))), (.int v69_9)])) _
      refine XS.iconst X7.here hx rfl (hb hby at_94) ?_
      show Steps p.tables e below (T7.setTop (mkF m 95 #[.val (.int p1), .val (.int p2), .val (.int p3), .val (.int p4), .val (.int p5), .val (.int v3_1), .val (.int z7_a2), .val (.ref b7), .val (.int v58_8), .val (.int v69_9), .unset, .unset] [(.int (1 : Int32)), (.int (v58_8 - v69_9)), (.int (p4 &&& (2147483647 : Int32))), (.int v69_9)])) _
      refine XS.iadd X7.here hx rfl (hb hby at_95) rfl ?_
      show Steps p.tables e below (T7.setTop (mkF m 96 #[.val (.int p1), .val (.int p2), .val (.int p3), .val (.int p4), .val (.int p5), .val (.int v3_1), .val (.int z7_a2), .val (.ref b7), .val (.int v58_8), .val (.int v69_9), .unset, .unset] [(.int ((v58_8 - v69_9) + (1 : Int32))), (.int (p4 &&& (2147483647 : Int32))), (.int v69_9)])) _
      refine iremM X7 hx rfl (hb hby at_96) rfl hy96 ?_
      show Steps p.tables e below (T7.setTop (mkF m 97 #[.val (.int p1), .val (.int p2), .val (.int p3), .val (.int p4), .val (.int p5), .val (.int v3_1), .val (.int z7_a2), .val (.ref b7), .val (.int v58_8), .val (.int v69_9), .unset, .unset] [(.int ((p4 &&& (2147483647 : Int32)) % ((v58_8 - v69_9) + (1 : Int32)))), (.int v69_9)])) _
      refine XS.iadd X7.here hx rfl (hb hby at_97) rfl ?_
      show Steps p.tables e below (T7.setTop (mkF m 98 #[.val (.int p1), .val (.int p2), .val (.int p3), .val (.int p4), .val (.int p5), .val (.int v3_1), .val (.int z7_a2), .val (.ref b7), .val (.int v58_8), .val (.int v69_9), .unset, .unset] [(.int (v69_9 + ((p4 &&& (2147483647 : Int32)) % ((v58_8 - v69_9) + (1 : Int32)))))])) _
      subst hz75_a10
      exact k
    · first | rw [if_neg hc75_11] at hz75_a10 | skip
      refine XS.ifNo X7.here hx rfl (hb hby at_75) rfl ((if0 _ _).trans (feq hc75_11).1) ?_
      show Steps p.tables e below (T7.setTop (mkF m 78 #[.val (.int p1), .val (.int p2), .val (.int p3), .val (.int p4), .val (.int p5), .val (.int v3_1), .val (.int z7_a2), .val (.ref b7), .val (.int v58_8), .val (.int v69_9), .unset, .unset] [])) _
      refine XS.iload X7.here hx rfl (hb hby at_78) rfl ?_
      show Steps p.tables e below (T7.setTop (mkF m 80 #[.val (.int p1), .val (.int p2), .val (.int p3), .val (.int p4), .val (.int p5), .val (.int v3_1), .val (.int z7_a2), .val (.ref b7), .val (.int v58_8), .val (.int v69_9), .unset, .unset] [(.int v58_8)])) _
      refine XS.goto X7.here hx rfl (pc0 := 80) (pc' := 98) rfl (hb hby at_80) (by decide) (by decide) ?_
      show Steps p.tables e below (T7.setTop (mkF m 98 #[.val (.int p1), .val (.int p2), .val (.int p3), .val (.int p4), .val (.int p5), .val (.int v3_1), .val (.int z7_a2), .val (.ref b7), .val (.int v58_8), .val (.int v69_9), .unset, .unset] [(.int v58_8)])) _
      subst hz75_a10
      exact k
  obtain ⟨z75_a10, hz75_a10⟩ : ∃ z, z = (if (p5 &&& (1 : Int32)) = (0 : Int32) then (v69_9 + ((p4 &&& (2147483647 : Int32)) % ((v58_8 - v69_9) + (1 : Int32)))) else v58_8) := ⟨_, rfl⟩
  refine Go.on (sg75_10 z75_a10 hz75_a10) ?_
  refine Go.on (B := T7.setTop (mkF m 100 #[.val (.int p1), .val (.int p2), .val (.int p3), .val (.int p4), .val (.int p5), .val (.int v3_1), .val (.int z7_a2), .val (.ref b7), .val (.int v58_8), .val (.int v69_9), .val (.int z75_a10), .unset] [])) (fun t k => XS.istore X7.here hx rfl (hb hby at_98) rfl (l' := #[.val (.int p1), .val (.int p2), .val (.int p3), .val (.int p4), .val (.int p5), .val (.int v3_1), .val (.int z7_a2), .val (.ref b7), .val (.int v58_8), .val (.int v69_9), .val (.int z75_a10), .unset]) rfl k) ?_
  obtain ⟨T13, h13, X13, e13, E13, A13, D13, -, st13⟩ := newO X7 hx hZ hown (hw _ (List.mem_of_getElem? (i := 2) rfl)) (hw _ (List.mem_of_getElem? (i := 3) rfl)) (hw _ (List.mem_of_getElem? (i := 4) rfl)) e7 (g := (mkF m 100 #[.val (.int p1), .val (.int p2), .val (.int p3), .val (.int p4), .val (.int p5), .val (.int v3_1), .val (.int z7_a2), .val (.ref b7), .val (.int v58_8), .val (.int v69_9), .val (.int z75_a10), .unset] [])) rfl (hb hby at_100) (by decide) (by decide)
  obtain ⟨b13, g13⟩ : ∃ z, z = h7.size := ⟨_, rfl⟩
  rw [← g13] at A13 D13 st13
  have ge_b13 : n0 ≤ b13 := Nat.le_trans Zs1 (Nat.le_of_eq g13.symm)
  have ne_b7_b13 : b7 ≠ b13 := Nat.ne_of_lt (Nat.lt_of_lt_of_le V7.lt (Nat.le_of_eq g13.symm))
  have f2 := V7.ext E13
  have Zs3 := Nat.le_trans Zs1 E13.1
  have F13_bytes : Fld Z h13 b13 "com/example/pankti/pankti/protocol/ByteWindow" "bytes" "[B" .null := D13 (Or.inl (hw _ (List.mem_of_getElem? (i := 12) rfl))) (ty := (.array .byte)) (by decide)
  have F13_start : Fld Z h13 b13 "com/example/pankti/pankti/protocol/ByteWindow" "start" "I" (.int (0 : Int32)) := D13 (Or.inl (hw _ (List.mem_of_getElem? (i := 15) rfl))) (ty := .int) (by decide)
  have F13_end : Fld Z h13 b13 "com/example/pankti/pankti/protocol/ByteWindow" "end" "I" (.int (0 : Int32)) := D13 (Or.inl (hw _ (List.mem_of_getElem? (i := 17) rfl))) (ty := .int) (by decide)
  refine Go.on (B := T13.setTop (mkF m 103 #[.val (.int p1), .val (.int p2), .val (.int p3), .val (.int p4), .val (.int p5), .val (.int v3_1), .val (.int z7_a2), .val (.ref b7), .val (.int v58_8), .val (.int v69_9), .val (.int z75_a10), .unset] [(.ref b13)])) (fun t k => st13 _ k) ?_
  refine Go.on (B := T13.setTop (mkF m 104 #[.val (.int p1), .val (.int p2), .val (.int p3), .val (.int p4), .val (.int p5), .val (.int v3_1), .val (.int z7_a2), .val (.ref b7), .val (.int v58_8), .val (.int v69_9), .val (.int z75_a10), .unset] [(.ref b13), (.ref b13)])) (fun t k => XS.dup X13.here hx rfl (hb hby at_103) rfl rfl k) ?_
  obtain ⟨_, _, ⟨T14, L14, k14, n14⟩, -, X14, ⟨Lc14, hQ14, l14, y14, z14⟩, st14⟩ := X13.specialBack hx (y := (⟨"com/example/pankti/pankti/protocol/ByteWindow", "<init>", "()V"⟩ : MethodName)) rfl hown (mvT hZ (hw _ (List.mem_of_getElem? (i := 5) rfl))) (mvT hZ (hw _ (List.mem_of_getElem? (i := 6) rfl))) (mvT hZ (hw _ (List.mem_of_getElem? (i := 7) rfl))) (by decide) (backOf (W := 1) (rini l Z a0 hw [] b13 h13 n0 Zs3 A13 F13_bytes F13_start F13_end ge_b13) hZ (hw _ (List.mem_of_getElem? (i := 7) rfl)) (hw _ (List.mem_of_getElem? (i := 4) rfl)) (by decide) (by decide)) (g := (mkF m 104 #[.val (.int p1), .val (.int p2), .val (.int p3), .val (.int p4), .val (.int p5), .val (.int v3_1), .val (.int z7_a2), .val (.ref b7), .val (.int v58_8), .val (.int v69_9), .val (.int z75_a10), .unset] [(.ref b13), (.ref b13)])) rfl (by rw [hml]; rfl) (Steps.refl _) (a := b13) (argsL := []) (rest := [(.ref b13)]) (lenOf pd_0 rfl) rfl (by show 2 * 0 + _ ≤ _; exact Nat.le_of_eq rfl) (hb hby at_104) (fun _ _ => ⟨rfl, e13, (by decide : 2 + 1 ≤ _), (by decide : 65540 + 1024 ≤ _)⟩)
  dsimp only [Pt.U, Pt.locs, Pt.cells, Pt.slots] at X14 l14 y14 z14 st14 hQ14
  subst l14 y14 z14
  obtain ⟨rfl, N14q, K14q, G14a, ⟨x14, G14b⟩, G14c, G14d⟩ := hQ14
  have N14 := Fr.app N0 N14q
  have f4 := f2.keep K14q (ninS ne_b7_b13 nin0)
  have f5 := A13.keep K14q
  have Zs6 := Nat.le_trans Zs3 K14q.1
  refine Go.on (B := T14.setTop (mkF m 107 #[.val (.int p1), .val (.int p2), .val (.int p3), .val (.int p4), .val (.int p5), .val (.int v3_1), .val (.int z7_a2), .val (.ref b7), .val (.int v58_8), .val (.int v69_9), .val (.int z75_a10), .unset] [(.ref b13)])) (fun t k => st14.trans k) ?_
  refine Go.on (B := T14.setTop (mkF m 109 #[.val (.int p1), .val (.int p2), .val (.int p3), .val (.int p4), .val (.int p5), .val (.int v3_1), .val (.int z7_a2), .val (.ref b7), .val (.int v58_8), .val (.int v69_9), .val (.int z75_a10), .val (.ref b13)] [])) (fun t k => XS.astore X14.here hx rfl (hb hby at_107) rfl rfl (l' := #[.val (.int p1), .val (.int p2), .val (.int p3), .val (.int p4), .val (.int p5), .val (.int v3_1), .val (.int z7_a2), .val (.ref b7), .val (.int v58_8), .val (.int v69_9), .val (.int z75_a10), .val (.ref b13)]) rfl k) ?_
  refine Go.on (B := T14.setTop (mkF m 111 #[.val (.int p1), .val (.int p2), .val (.int p3), .val (.int p4), .val (.int p5), .val (.int v3_1), .val (.int z7_a2), .val (.ref b7), .val (.int v58_8), .val (.int v69_9), .val (.int z75_a10), .val (.ref b13)] [(.ref b13)])) (fun t k => XS.aload X14.here hx rfl (hb hby at_109) rfl rfl k) ?_
  refine Go.on (B := T14.setTop (mkF m 113 #[.val (.int p1), .val (.int p2), .val (.int p3), .val (.int p4), .val (.int p5), .val (.int v3_1), .val (.int z7_a2), .val (.ref b7), .val (.int v58_8), .val (.int v69_9), .val (.int z75_a10), .val (.ref b13)] [(.ref b7), (.ref b13)])) (fun t k => XS.aload X14.here hx rfl (hb hby at_111) rfl rfl k) ?_
  obtain ⟨T15, h15, X15, e15, W15, st15⟩ := putF X14 hx hZ hown (host := "") (Or.inl (hw _ (List.mem_of_getElem? (i := 13) rfl))) Via.refl rfl G14b G14a (Or.inl (hw _ (List.mem_of_getElem? (i := 12) rfl))) (hw _ (List.mem_of_getElem? (i := 3) rfl)) (ty := (.array .byte)) (by decide) rfl rfl (g := (mkF m 113 #[.val (.int p1), .val (.int p2), .val (.int p3), .val (.int p4), .val (.int p5), .val (.int v3_1), .val (.int z7_a2), .val (.ref b7), .val (.int v58_8), .val (.int v69_9), .val (.int z75_a10), .val (.ref b13)] [(.ref b7), (.ref b13)])) rfl rfl (hb hby at_113)
  have N15 := Fr.snoc X15 N14 ge_b13
  have Fw15 := G14b.same W15
  have f7 := f4.other W15 ne_b7_b13
  have f8 := G14a.wr W15
  have f9 := G14c.other W15 (Or.inr (slot_ne (Or.inl (hw _ (List.mem_of_getElem? (i := 15) rfl))) (Or.inl (hw _ (List.mem_of_getElem? (i := 12) rfl))) (by decide) (t := .int) (t' := (.array .byte)) (by decide) (by decide)))
  have f10 := G14d.other W15 (Or.inr (slot_ne (Or.inl (hw _ (List.mem_of_getElem? (i := 17) rfl))) (Or.inl (hw _ (List.mem_of_getElem? (i := 12) rfl))) (by decide) (t := .int) (t' := (.array .byte)) (by decide) (by decide)))
  have Zs11 := Nat.le_trans Zs6 (Keep.of_wr W15).1
  refine Go.on (B := T15.setTop (mkF m 116 #[.val (.int p1), .val (.int p2), .val (.int p3), .val (.int p4), .val (.int p5), .val (.int v3_1), .val (.int z7_a2), .val (.ref b7), .val (.int v58_8), .val (.int v69_9), .val (.int z75_a10), .val (.ref b13)] [])) (fun t k => st15 _ k) ?_
  refine Go.on (B := T15.setTop (mkF m 118 #[.val (.int p1), .val (.int p2), .val (.int p3), .val (.int p4), .val (.int p5), .val (.int v3_1), .val (.int z7_a2), .val (.ref b7), .val (.int v58_8), .val (.int v69_9), .val (.int z75_a10), .val (.ref b13)] [(.ref b13)])) (fun t k => XS.aload X15.here hx rfl (hb hby at_116) rfl rfl k) ?_
  refine Go.on (B := T15.setTop (mkF m 120 #[.val (.int p1), .val (.int p2), .val (.int p3), .val (.int p4), .val (.int p5), .val (.int v3_1), .val (.int z7_a2), .val (.ref b7), .val (.int v58_8), .val (.int v69_9), .val (.int z75_a10), .val (.ref b13)] [(.int v69_9), (.ref b13)])) (fun t k => XS.iload X15.here hx rfl (hb hby at_118) rfl k) ?_
  obtain ⟨T16, h16, X16, e16, W16, st16⟩ := putF X15 hx hZ hown (host := "") (Or.inl (hw _ (List.mem_of_getElem? (i := 14) rfl))) Via.refl e15 f9 f8 (Or.inl (hw _ (List.mem_of_getElem? (i := 15) rfl))) (hw _ (List.mem_of_getElem? (i := 3) rfl)) (ty := .int) (by decide) rfl rfl (g := (mkF m 120 #[.val (.int p1), .val (.int p2), .val (.int p3), .val (.int p4), .val (.int p5), .val (.int v3_1), .val (.int z7_a2), .val (.ref b7), .val (.int v58_8), .val (.int v69_9), .val (.int z75_a10), .val (.ref b13)] [(.int v69_9), (.ref b13)])) rfl rfl (hb hby at_120)
  have N16 := Fr.snoc X16 N15 ge_b13
  have Fw16 := f9.same W16
  have f12 := f7.other W16 ne_b7_b13
  have f13 := f8.wr W16
  have f14 := Fw15.other W16 (Or.inr (slot_ne (Or.inl (hw _ (List.mem_of_getElem? (i := 12) rfl))) (Or.inl (hw _ (List.mem_of_getElem? (i := 15) rfl))) (by decide) (t := (.array .byte)) (t' := .int) (by decide) (by decide)))
  have f15 := f10.other W16 (Or.inr (slot_ne (Or.inl (hw _ (List.mem_of_getElem? (i := 17) rfl))) (Or.inl (hw _ (List.mem_of_getElem? (i := 15) rfl))) (by decide) (t := .int) (t' := .int) (by decide) (by decide)))
  have Zs16 := Nat.le_trans Zs11 (Keep.of_wr W16).1
  refine Go.on (B := T16.setTop (mkF m 123 #[.val (.int p1), .val (.int p2), .val (.int p3), .val (.int p4), .val (.int p5), .val (.int v3_1), .val (.int z7_a2), .val (.ref b7), .val (.int v58_8), .val (.int v69_9), .val (.int z75_a10), .val (.ref b13)] [])) (fun t k => st16 _ k) ?_
  refine Go.on (B := T16.setTop (mkF m 125 #[.val (.int p1), .val (.int p2), .val (.int p3), .val (.int p4), .val (.int p5), .val (.int v3_1), .val (.int z7_a2), .val (.ref b7), .val (.int v58_8), .val (.int v69_9), .val (.int z75_a10), .val (.ref b13)] [(.ref b13)])) (fun t k => XS.aload X16.here hx rfl (hb hby at_123) rfl rfl k) ?_
  refine Go.on (B := T16.setTop (mkF m 127 #[.val (.int p1), .val (.int p2), .val (.int p3), .val (.int p4), .val (.int p5), .val (.int v3_1), .val (.int z7_a2), .val (.ref b7), .val (.int v58_8), .val (.int v69_9), .val (.int z75_a10), .val (.ref b13)] [(.int v58_8), (.ref b13)])) (fun t k => XS.iload X16.here hx rfl (hb hby at_125) rfl k) ?_
  obtain ⟨T17, h17, X17, e17, W17, st17⟩ := putF X16 hx hZ hown (host := "") (Or.inl (hw _ (List.mem_of_getElem? (i := 16) rfl))) Via.refl e16 f15 f13 (Or.inl (hw _ (List.mem_of_getElem? (i := 17) rfl))) (hw _ (List.mem_of_getElem? (i := 3) rfl)) (ty := .int) (by decide) rfl rfl (g := (mkF m 127 #[.val (.int p1), .val (.int p2), .val (.int p3), .val (.int p4), .val (.int p5), .val (.int v3_1), .val (.int z7_a2), .val (.ref b7), .val (.int v58_8), .val (.int v69_9), .val (.int z75_a10), .val (.ref b13)] [(.int v58_8), (.ref b13)])) rfl rfl (hb hby at_127)
  have N17 := Fr.snoc X17 N16 ge_b13
  have Fw17 := f15.same W17
  have f17 := f12.other W17 ne_b7_b13
  have f18 := f13.wr W17
  have f19 := f14.other W17 (Or.inr (slot_ne (Or.inl (hw _ (List.mem_of_getElem? (i := 12) rfl))) (Or.inl (hw _ (List.mem_of_getElem? (i := 17) rfl))) (by decide) (t := (.array .byte)) (t' := .int) (by decide) (by decide)))
  have f20 := Fw16.other W17 (Or.inr (slot_ne (Or.inl (hw _ (List.mem_of_getElem? (i := 15) rfl))) (Or.inl (hw _ (List.mem_of_getElem? (i := 17) rfl))) (by decide) (t := .int) (t' := .int) (by decide) (by decide)))
  have Zs21 := Nat.le_trans Zs16 (Keep.of_wr W17).1
  refine Go.on (B := T17.setTop (mkF m 130 #[.val (.int p1), .val (.int p2), .val (.int p3), .val (.int p4), .val (.int p5), .val (.int v3_1), .val (.int z7_a2), .val (.ref b7), .val (.int v58_8), .val (.int v69_9), .val (.int z75_a10), .val (.ref b13)] [])) (fun t k => st17 _ k) ?_
  refine Go.on (B := T17.setTop (mkF m 132 #[.val (.int p1), .val (.int p2), .val (.int p3), .val (.int p4), .val (.int p5), .val (.int v3_1), .val (.int z7_a2), .val (.ref b7), .val (.int v58_8), .val (.int v69_9), .val (.int z75_a10), .val (.ref b13)] [(.ref b13)])) (fun t k => XS.aload X17.here hx rfl (hb hby at_130) rfl rfl k) ?_
  refine Go.on (B := T17.setTop (mkF m 134 #[.val (.int p1), .val (.int p2), .val (.int p3), .val (.int p4), .val (.int p5), .val (.int v3_1), .val (.int z7_a2), .val (.ref b7), .val (.int v58_8), .val (.int v69_9), .val (.int z75_a10), .val (.ref b13)] [(.int z75_a10), (.ref b13)])) (fun t k => XS.iload X17.here hx rfl (hb hby at_132) rfl k) ?_
  by_cases hP1 : z75_a10 = v58_8
  · by_cases hP2 : (65536 : Int32) < z7_a2
    · obtain ⟨cq18, kq18, q18a, q18b, q18c⟩ := isOf hZ e17 f18
      obtain ⟨_, _, ⟨T18, L18, k18, n18⟩, -, X18, ⟨Lc18, hQ18, l18, y18, z18⟩, st18⟩ := X17.virtualBack hx (y := (⟨"com/example/pankti/pankti/protocol/ByteWindow", "release", "(I)V"⟩ : MethodName)) (z := (⟨"com/example/pankti/pankti/protocol/ByteWindow", "release", "(I)V"⟩ : MethodName)) hown (mvT hZ (hw _ (List.mem_of_getElem? (i := 18) rfl))) (mvT hZ (hw _ (List.mem_of_getElem? (i := 19) rfl))) (notFace_of_selects (args := #[]) (mvT hZ (hw _ (List.mem_of_getElem? (i := 21) rfl)))) (mvT hZ (hw _ (List.mem_of_getElem? (i := 21) rfl))) (mvT hZ (hw _ (List.mem_of_getElem? (i := 20) rfl))) (by decide) (backOf (W := 0) (rel2 l Z a0 hw [] b13 z75_a10 v58_8 b7 k7 z7_a2 v69_9 h17 n0 Zs21 f18 f19 f20 Fw17 f17 ne_b7_b13 ge_b13 hP1 hP2) hZ (hw _ (List.mem_of_getElem? (i := 22) rfl)) (hw _ (List.mem_of_getElem? (i := 4) rfl)) (by decide) (by decide)) q18a q18c (g := (mkF m 134 #[.val (.int p1), .val (.int p2), .val (.int p3), .val (.int p4), .val (.int p5), .val (.int v3_1), .val (.int z7_a2), .val (.ref b7), .val (.int v58_8), .val (.int v69_9), .val (.int z75_a10), .val (.ref b13)] [(.int z75_a10), (.ref b13)])) rfl (by rw [hml]; rfl) (Steps.refl _) (argsL := [(.int z75_a10)]) (rest := []) (lenOf pd_1 rfl) rfl (by show 2 * 0 + _ ≤ _; exact Nat.le_of_eq rfl) (hb hby at_134) (fun _ _ => ⟨rfl, e17, (by decide : 3 + 1 ≤ _), (by decide : 66564 + 1024 ≤ _)⟩)
      dsimp only [Pt.U, Pt.locs, Pt.cells, Pt.slots] at X18 l18 y18 z18 st18 hQ18
      subst l18 y18 z18
      obtain ⟨rfl, N18q, K18q, G18a, G18c, G18d, y18, ky18, G18b, sy18, Vy18⟩ := hQ18
      have N18 := Fr.app N17 N18q
      have ne_b7_y18 : b7 ≠ y18 := Nat.ne_of_lt (Nat.lt_of_lt_of_le f17.lt sy18)
      have f22 := f17.keep K18q (ninS ne_b7_b13 nin0)
      have f23 := f18.keep K18q
      have Zs24 := Nat.le_trans Zs21 K18q.1
      refine Go.on (B := T18.setTop (mkF m 137 #[.val (.int p1), .val (.int p2), .val (.int p3), .val (.int p4), .val (.int p5), .val (.int v3_1), .val (.int z7_a2), .val (.ref b7), .val (.int v58_8), .val (.int v69_9), .val (.int z75_a10), .val (.ref b13)] [])) (fun t k => st18.trans k) ?_
      refine Go.on (B := T18.setTop (mkF m 139 #[.val (.int p1), .val (.int p2), .val (.int p3), .val (.int p4), .val (.int p5), .val (.int v3_1), .val (.int z7_a2), .val (.ref b7), .val (.int v58_8), .val (.int v69_9), .val (.int z75_a10), .val (.ref b13)] [(.int z75_a10)])) (fun t k => XS.iload X18.here hx rfl (hb hby at_137) rfl k) ?_
      refine Go.on (B := T18.setTop (mkF m 141 #[.val (.int p1), .val (.int p2), .val (.int p3), .val (.int p4), .val (.int p5), .val (.int v3_1), .val (.int z7_a2), .val (.ref b7), .val (.int v58_8), .val (.int v69_9), .val (.int z75_a10), .val (.ref b13)] [(.int v58_8), (.int z75_a10)])) (fun t k => XS.iload X18.here hx rfl (hb hby at_139) rfl k) ?_
      have hc141_19 : z75_a10 = v58_8 := hP1
      refine Go.on (B := T18.setTop (mkF m 144 #[.val (.int p1), .val (.int p2), .val (.int p3), .val (.int p4), .val (.int p5), .val (.int v3_1), .val (.int z7_a2), .val (.ref b7), .val (.int v58_8), .val (.int v69_9), .val (.int z75_a10), .val (.ref b13)] [])) (fun t k => XS.icmpNo X18.here hx rfl (hb hby at_141) rfl (teq hc141_19).2 k) ?_
      refine Go.on (B := T18.setTop (mkF m 146 #[.val (.int p1), .val (.int p2), .val (.int p3), .val (.int p4), .val (.int p5), .val (.int v3_1), .val (.int z7_a2), .val (.ref b7), .val (.int v58_8), .val (.int v69_9), .val (.int z75_a10), .val (.ref b13)] [(.ref b13)])) (fun t k => XS.aload X18.here hx rfl (hb hby at_144) rfl rfl k) ?_
      obtain ⟨T20, X20, e20, st20⟩ := getF X18 hx hZ hown (host := "") (Or.inl (hw _ (List.mem_of_getElem? (i := 14) rfl))) Via.refl rfl G18c (g := (mkF m 146 #[.val (.int p1), .val (.int p2), .val (.int p3), .val (.int p4), .val (.int p5), .val (.int v3_1), .val (.int z7_a2), .val (.ref b7), .val (.int v58_8), .val (.int v69_9), .val (.int z75_a10), .val (.ref b13)] [(.ref b13)])) rfl rfl (hb hby at_146)
      refine Go.on (B := T20.setTop (mkF m 149 #[.val (.int p1), .val (.int p2), .val (.int p3), .val (.int p4), .val (.int p5), .val (.int v3_1), .val (.int z7_a2), .val (.ref b7), .val (.int v58_8), .val (.int v69_9), .val (.int z75_a10), .val (.ref b13)] [(.int (0 : Int32))])) (fun t k => st20 _ k) ?_
      have hc149_21 : (0 : Int32) = (0 : Int32) := by decide
      refine Go.on (B := T20.setTop (mkF m 152 #[.val (.int p1), .val (.int p2), .val (.int p3), .val (.int p4), .val (.int p5), .val (.int v3_1), .val (.int z7_a2), .val (.ref b7), .val (.int v58_8), .val (.int v69_9), .val (.int z75_a10), .val (.ref b13)] [])) (fun t k => XS.ifNo X20.here hx rfl (hb hby at_149) rfl ((if0 _ _).trans (teq hc149_21).2) k) ?_
      refine Go.on (B := T20.setTop (mkF m 154 #[.val (.int p1), .val (.int p2), .val (.int p3), .val (.int p4), .val (.int p5), .val (.int v3_1), .val (.int z7_a2), .val (.ref b7), .val (.int v58_8), .val (.int v69_9), .val (.int z75_a10), .val (.ref b13)] [(.ref b13)])) (fun t k => XS.aload X20.here hx rfl (hb hby at_152) rfl rfl k) ?_
      obtain ⟨T22, X22, e22, st22⟩ := getF X20 hx hZ hown (host := "") (Or.inl (hw _ (List.mem_of_getElem? (i := 16) rfl))) Via.refl e20 G18d (g := (mkF m 154 #[.val (.int p1), .val (.int p2), .val (.int p3), .val (.int p4), .val (.int p5), .val (.int v3_1), .val (.int z7_a2), .val (.ref b7), .val (.int v58_8), .val (.int v69_9), .val (.int z75_a10), .val (.ref b13)] [(.ref b13)])) rfl rfl (hb hby at_154)
      refine Go.on (B := T22.setTop (mkF m 157 #[.val (.int p1), .val (.int p2), .val (.int p3), .val (.int p4), .val (.int p5), .val (.int v3_1), .val (.int z7_a2), .val (.ref b7), .val (.int v58_8), .val (.int v69_9), .val (.int z75_a10), .val (.ref b13)] [(.int (0 : Int32))])) (fun t k => st22 _ k) ?_
      have hc157_23 : (0 : Int32) = (0 : Int32) := by decide
      refine Go.on (B := T22.setTop (mkF m 162 #[.val (.int p1), .val (.int p2), .val (.int p3), .val (.int p4), .val (.int p5), .val (.int v3_1), .val (.int z7_a2), .val (.ref b7), .val (.int v58_8), .val (.int v69_9), .val (.int z75_a10), .val (.ref b13)] [])) (fun t k => XS.ifYes X22.here hx rfl (pc0 := 157) (pc' := 162) rfl (hb hby at_157) rfl ((if0 _ _).trans (teq hc157_23).1) (by decide) (by decide) k) ?_
      refine Go.on (B := T22.setTop (mkF m 164 #[.val (.int p1), .val (.int p2), .val (.int p3), .val (.int p4), .val (.int p5), .val (.int v3_1), .val (.int z7_a2), .val (.ref b7), .val (.int v58_8), .val (.int v69_9), .val (.int z75_a10), .val (.ref b13)] [(.int z7_a2)])) (fun t k => XS.iload X22.here hx rfl (hb hby at_162) rfl k) ?_
      refine Go.on (B := T22.setTop (mkF m 166 #[.val (.int p1), .val (.int p2), .val (.int p3), .val (.int p4), .val (.int p5), .val (.int v3_1), .val (.int z7_a2), .val (.ref b7), .val (.int v58_8), .val (.int v69_9), .val (.int z75_a10), .val (.ref b13)] [(.int (65536 : Int32)), (.int z7_a2)])) (fun t k => X22.ldcInt hx hown (mvT hZ (hw _ (List.mem_of_getElem? (i := 26) rfl))) (g := (mkF m 164 #[.val (.int p1), .val (.int p2), .val (.int p3), .val (.int p4), .val (.int p5), .val (.int v3_1), .val (.int z7_a2), .val (.ref b7), .val (.int v58_8), .val (.int v69_9), .val (.int z75_a10), .val (.ref b13)] [(.int z7_a2)])) rfl (hb hby at_164) _ k) ?_
      have hc166_24 : (65536 : Int32) < z7_a2 := hP2
      refine Go.on (B := T22.setTop (mkF m 169 #[.val (.int p1), .val (.int p2), .val (.int p3), .val (.int p4), .val (.int p5), .val (.int v3_1), .val (.int z7_a2), .val (.ref b7), .val (.int v58_8), .val (.int v69_9), .val (.int z75_a10), .val (.ref b13)] [])) (fun t k => XS.icmpNo X22.here hx rfl (hb hby at_166) rfl (tlt hc166_24).2.2.2 k) ?_
      refine Go.on (B := T22.setTop (mkF m 171 #[.val (.int p1), .val (.int p2), .val (.int p3), .val (.int p4), .val (.int p5), .val (.int v3_1), .val (.int z7_a2), .val (.ref b7), .val (.int v58_8), .val (.int v69_9), .val (.int z75_a10), .val (.ref b13)] [(.ref b13)])) (fun t k => XS.aload X22.here hx rfl (hb hby at_169) rfl rfl k) ?_
      obtain ⟨T25, X25, e25, st25⟩ := getF X22 hx hZ hown (host := "") (Or.inl (hw _ (List.mem_of_getElem? (i := 13) rfl))) Via.refl e22 G18b (g := (mkF m 171 #[.val (.int p1), .val (.int p2), .val (.int p3), .val (.int p4), .val (.int p5), .val (.int v3_1), .val (.int z7_a2), .val (.ref b7), .val (.int v58_8), .val (.int v69_9), .val (.int z75_a10), .val (.ref b13)] [(.ref b13)])) rfl rfl (hb hby at_171)
      refine Go.on (B := T25.setTop (mkF m 174 #[.val (.int p1), .val (.int p2), .val (.int p3), .val (.int p4), .val (.int p5), .val (.int v3_1), .val (.int z7_a2), .val (.ref b7), .val (.int v58_8), .val (.int v69_9), .val (.int z75_a10), .val (.ref b13)] [(.ref y18)])) (fun t k => st25 _ k) ?_
      refine Go.on (B := T25.setTop (mkF m 177 #[.val (.int p1), .val (.int p2), .val (.int p3), .val (.int p4), .val (.int p5), .val (.int v3_1), .val (.int z7_a2), .val (.ref b7), .val (.int v58_8), .val (.int v69_9), .val (.int z75_a10), .val (.ref b13)] [])) (fun t k => XS.ifnullNo X25.here hx rfl (hb hby at_174) rfl k) ?_
      refine Go.on (B := T25.setTop (mkF m 179 #[.val (.int p1), .val (.int p2), .val (.int p3), .val (.int p4), .val (.int p5), .val (.int v3_1), .val (.int z7_a2), .val (.ref b7), .val (.int v58_8), .val (.int v69_9), .val (.int z75_a10), .val (.ref b13)] [(.ref b13)])) (fun t k => XS.aload X25.here hx rfl (hb hby at_177) rfl rfl k) ?_
      obtain ⟨T27, X27, e27, st27⟩ := getF X25 hx hZ hown (host := "") (Or.inl (hw _ (List.mem_of_getElem? (i := 13) rfl))) Via.refl e25 G18b (g := (mkF m 179 #[.val (.int p1), .val (.int p2), .val (.int p3), .val (.int p4), .val (.int p5), .val (.int v3_1), .val (.int z7_a2), .val (.ref b7), .val (.int v58_8), .val (.int v69_9), .val (.int z75_a10), .val (.ref b13)] [(.ref b13)])) rfl rfl (hb hby at_179)
      refine Go.on (B := T27.setTop (mkF m 182 #[.val (.int p1), .val (.int p2), .val (.int p3), .val (.int p4), .val (.int p5), .val (.int v3_1), .val (.int z7_a2), .val (.ref b7), .val (.int v58_8), .val (.int v69_9), .val (.int z75_a10), .val (.ref b13)] [(.ref y18)])) (fun t k => st27 _ k) ?_
      refine Go.on (B := T27.setTop (mkF m 184 #[.val (.int p1), .val (.int p2), .val (.int p3), .val (.int p4), .val (.int p5), .val (.int v3_1), .val (.int z7_a2), .val (.ref b7), .val (.int v58_8), .val (.int v69_9), .val (.int z75_a10), .val (.ref b13)] [(.ref b7), (.ref y18)])) (fun t k => XS.aload X27.here hx rfl (hb hby at_182) rfl rfl k) ?_
      refine Go.on (B := T27.setTop (mkF m 187 #[.val (.int p1), .val (.int p2), .val (.int p3), .val (.int p4), .val (.int p5), .val (.int v3_1), .val (.int z7_a2), .val (.ref b7), .val (.int v58_8), .val (.int v69_9), .val (.int z75_a10), .val (.ref b13)] [])) (fun t k => Jvm.RoadKit.acmp (g := (mkF m 184 #[.val (.int p1), .val (.int p2), .val (.int p3), .val (.int p4), .val (.int p5), .val (.int v3_1), .val (.int z7_a2), .val (.ref b7), .val (.int v58_8), .val (.int v69_9), .val (.int z75_a10), .val (.ref b13)] [(.ref b7), (.ref y18)])) X27 hx rfl rfl rfl (pc0 := 184) (pc' := 187) (same := false) rfl (hb hby at_184) rfl (decide_eq_false fun q => (Ne.symm ne_b7_y18) (Value.ref.inj q)) (by decide) (by decide) k) ?_
      refine Go.on (B := T27.setTop (mkF m 189 #[.val (.int p1), .val (.int p2), .val (.int p3), .val (.int p4), .val (.int p5), .val (.int v3_1), .val (.int z7_a2), .val (.ref b7), .val (.int v58_8), .val (.int v69_9), .val (.int z75_a10), .val (.ref b13)] [(.ref b13)])) (fun t k => XS.aload X27.here hx rfl (hb hby at_187) rfl rfl k) ?_
      obtain ⟨T29, X29, e29, st29⟩ := getF X27 hx hZ hown (host := "") (Or.inl (hw _ (List.mem_of_getElem? (i := 13) rfl))) Via.refl e27 G18b (g := (mkF m 189 #[.val (.int p1), .val (.int p2), .val (.int p3), .val (.int p4), .val (.int p5), .val (.int v3_1), .val (.int z7_a2), .val (.ref b7), .val (.int v58_8), .val (.int v69_9), .val (.int z75_a10), .val (.ref b13)] [(.ref b13)])) rfl rfl (hb hby at_189)
      refine Go.on (B := T29.setTop (mkF m 192 #[.val (.int p1), .val (.int p2), .val (.int p3), .val (.int p4), .val (.int p5), .val (.int v3_1), .val (.int z7_a2), .val (.ref b7), .val (.int v58_8), .val (.int v69_9), .val (.int z75_a10), .val (.ref b13)] [(.ref y18)])) (fun t k => st29 _ k) ?_
      obtain ⟨cl30, Ar30, -, Sz30, Ng30, -, -⟩ := id Vy18
      refine Go.on (B := T29.setTop (mkF m 193 #[.val (.int p1), .val (.int p2), .val (.int p3), .val (.int p4), .val (.int p5), .val (.int v3_1), .val (.int z7_a2), .val (.ref b7), .val (.int v58_8), .val (.int v69_9), .val (.int z75_a10), .val (.ref b13)] [(.int (1024 : Int32))])) (fun t k => X29.arraylength hx (by rw [e29]; exact Ar30.1) (State.isArrayOf_alike hZ.alike Ar30.2.1) (g := (mkF m 192 #[.val (.int p1), .val (.int p2), .val (.int p3), .val (.int p4), .val (.int p5), .val (.int v3_1), .val (.int z7_a2), .val (.ref b7), .val (.int v58_8), .val (.int v69_9), .val (.int z75_a10), .val (.ref b13)] [(.ref y18)])) rfl rfl (hb hby at_192) _ (by rw [len_of Sz30 Ng30]; exact k)) ?_
      refine Go.on (B := T29.setTop (mkF m 196 #[.val (.int p1), .val (.int p2), .val (.int p3), .val (.int p4), .val (.int p5), .val (.int v3_1), .val (.int z7_a2), .val (.ref b7), .val (.int v58_8), .val (.int v69_9), .val (.int z75_a10), .val (.ref b13)] [(.int (1024 : Int32)), (.int (1024 : Int32))])) (fun t k => XS.sipush X29.here hx rfl (hb hby at_193) k) ?_
      have hc196_31 : (1024 : Int32) = (1024 : Int32) := by decide
      refine Go.on (B := T29.setTop (mkF m 199 #[.val (.int p1), .val (.int p2), .val (.int p3), .val (.int p4), .val (.int p5), .val (.int v3_1), .val (.int z7_a2), .val (.ref b7), .val (.int v58_8), .val (.int v69_9), .val (.int z75_a10), .val (.ref b13)] [])) (fun t k => XS.icmpNo X29.here hx rfl (hb hby at_196) rfl (teq hc196_31).2 k) ?_
      refine Go.on (B := T29.setTop (mkF m 200 #[.val (.int p1), .val (.int p2), .val (.int p3), .val (.int p4), .val (.int p5), .val (.int v3_1), .val (.int z7_a2), .val (.ref b7), .val (.int v58_8), .val (.int v69_9), .val (.int z75_a10), .val (.ref b13)] [(.int (1 : Int32))])) (fun t k => XS.iconst X29.here hx rfl (hb hby at_199) k) ?_
      refine Go.on (B := T29.setTop (mkF m 204 #[.val (.int p1), .val (.int p2), .val (.int p3), .val (.int p4), .val (.int p5), .val (.int v3_1), .val (.int z7_a2), .val (.ref b7), .val (.int v58_8), .val (.int v69_9), .val (.int z75_a10), .val (.ref b13)] [(.int (1 : Int32))])) (fun t k => XS.goto X29.here hx rfl (pc0 := 200) (pc' := 204) rfl (hb hby at_200) (by decide) (by decide) k) ?_
      obtain ⟨fs, hr, hrun, hended, hW, hsame⟩ := X29.leave (v := some (.int (1 : Int32))) (fun h => by rw [Bd.returns] at h; cases h)
      refine ⟨_, _, ?_, hrun, hended, _, _, rfl, ?_, ⟨_, rfl⟩, hW, hsame.mono (by decide) (by decide)⟩
      · exact retN X29 hx (t := .boolean) Bd.returns (by simp) (hb hby at_204) hr
      · show Q_rm0 Z p1 p2 p3 p4 p5 h0 n0 _ T29.heap _
        rw [e29]
        exact ⟨rfl, N18⟩
    · obtain ⟨cq32, kq32, q32a, q32b, q32c⟩ := isOf hZ e17 f18
      obtain ⟨_, _, ⟨T32, L32, k32, n32⟩, -, X32, ⟨Lc32, hQ32, l32, y32, z32⟩, st32⟩ := X17.virtualBack hx (y := (⟨"com/example/pankti/pankti/protocol/ByteWindow", "release", "(I)V"⟩ : MethodName)) (z := (⟨"com/example/pankti/pankti/protocol/ByteWindow", "release", "(I)V"⟩ : MethodName)) hown (mvT hZ (hw _ (List.mem_of_getElem? (i := 18) rfl))) (mvT hZ (hw _ (List.mem_of_getElem? (i := 19) rfl))) (notFace_of_selects (args := #[]) (mvT hZ (hw _ (List.mem_of_getElem? (i := 21) rfl)))) (mvT hZ (hw _ (List.mem_of_getElem? (i := 21) rfl))) (mvT hZ (hw _ (List.mem_of_getElem? (i := 20) rfl))) (by decide) (backOf (W := 0) (rel1 l Z a0 hw [] b13 z75_a10 v58_8 b7 k7 z7_a2 v69_9 h17 n0 Zs21 f18 f19 f20 Fw17 f17 ne_b7_b13 ge_b13 hP1 hP2) hZ (hw _ (List.mem_of_getElem? (i := 22) rfl)) (hw _ (List.mem_of_getElem? (i := 4) rfl)) (by decide) (by decide)) q32a q32c (g := (mkF m 134 #[.val (.int p1), .val (.int p2), .val (.int p3), .val (.int p4), .val (.int p5), .val (.int v3_1), .val (.int z7_a2), .val (.ref b7), .val (.int v58_8), .val (.int v69_9), .val (.int z75_a10), .val (.ref b13)] [(.int z75_a10), (.ref b13)])) rfl (by rw [hml]; rfl) (Steps.refl _) (argsL := [(.int z75_a10)]) (rest := []) (lenOf pd_1 rfl) rfl (by show 2 * 0 + _ ≤ _; exact Nat.le_of_eq rfl) (hb hby at_134) (fun _ _ => ⟨rfl, e17, (by decide : 3 + 0 ≤ _), (by decide : 66564 + 0 ≤ _)⟩)
      dsimp only [Pt.U, Pt.locs, Pt.cells, Pt.slots] at X32 l32 y32 z32 st32 hQ32
      subst l32 y32 z32
      obtain ⟨rfl, N32q, K32q, G32a, G32c, G32d, G32b⟩ := hQ32
      have N32 := Fr.app N17 N32q
      have f25 := f17.keep K32q (ninS ne_b7_b13 nin0)
      have f26 := f18.keep K32q
      have Zs27 := Nat.le_trans Zs21 K32q.1
      refine Go.on (B := T32.setTop (mkF m 137 #[.val (.int p1), .val (.int p2), .val (.int p3), .val (.int p4), .val (.int p5), .val (.int v3_1), .val (.int z7_a2), .val (.ref b7), .val (.int v58_8), .val (.int v69_9), .val (.int z75_a10), .val (.ref b13)] [])) (fun t k => st32.trans k) ?_
      refine Go.on (B := T32.setTop (mkF m 139 #[.val (.int p1), .val (.int p2), .val (.int p3), .val (.int p4), .val (.int p5), .val (.int v3_1), .val (.int z7_a2), .val (.ref b7), .val (.int v58_8), .val (.int v69_9), .val (.int z75_a10), .val (.ref b13)] [(.int z75_a10)])) (fun t k => XS.iload X32.here hx rfl (hb hby at_137) rfl k) ?_
      refine Go.on (B := T32.setTop (mkF m 141 #[.val (.int p1), .val (.int p2), .val (.int p3), .val (.int p4), .val (.int p5), .val (.int v3_1), .val (.int z7_a2), .val (.ref b7), .val (.int v58_8), .val (.int v69_9), .val (.int z75_a10), .val (.ref b13)] [(.int v58_8), (.int z75_a10)])) (fun t k => XS.iload X32.here hx rfl (hb hby at_139) rfl k) ?_
      have hc141_33 : z75_a10 = v58_8 := hP1
      refine Go.on (B := T32.setTop (mkF m 144 #[.val (.int p1), .val (.int p2), .val (.int p3), .val (.int p4), .val (.int p5), .val (.int v3_1), .val (.int z7_a2), .val (.ref b7), .val (.int v58_8), .val (.int v69_9), .val (.int z75_a10), .val (.ref b13)] [])) (fun t k => XS.icmpNo X32.here hx rfl (hb hby at_141) rfl (teq hc141_33).2 k) ?_
      refine Go.on (B := T32.setTop (mkF m 146 #[.val (.int p1), .val (.int p2), .val (.int p3), .val (.int p4), .val (.int p5), .val (.int v3_1), .val (.int z7_a2), .val (.ref b7), .val (.int v58_8), .val (.int v69_9), .val (.int z75_a10), .val (.ref b13)] [(.ref b13)])) (fun t k => XS.aload X32.here hx rfl (hb hby at_144) rfl rfl k) ?_
      obtain ⟨T34, X34, e34, st34⟩ := getF X32 hx hZ hown (host := "") (Or.inl (hw _ (List.mem_of_getElem? (i := 14) rfl))) Via.refl rfl G32c (g := (mkF m 146 #[.val (.int p1), .val (.int p2), .val (.int p3), .val (.int p4), .val (.int p5), .val (.int v3_1), .val (.int z7_a2), .val (.ref b7), .val (.int v58_8), .val (.int v69_9), .val (.int z75_a10), .val (.ref b13)] [(.ref b13)])) rfl rfl (hb hby at_146)
      refine Go.on (B := T34.setTop (mkF m 149 #[.val (.int p1), .val (.int p2), .val (.int p3), .val (.int p4), .val (.int p5), .val (.int v3_1), .val (.int z7_a2), .val (.ref b7), .val (.int v58_8), .val (.int v69_9), .val (.int z75_a10), .val (.ref b13)] [(.int (0 : Int32))])) (fun t k => st34 _ k) ?_
      have hc149_35 : (0 : Int32) = (0 : Int32) := by decide
      refine Go.on (B := T34.setTop (mkF m 152 #[.val (.int p1), .val (.int p2), .val (.int p3), .val (.int p4), .val (.int p5), .val (.int v3_1), .val (.int z7_a2), .val (.ref b7), .val (.int v58_8), .val (.int v69_9), .val (.int z75_a10), .val (.ref b13)] [])) (fun t k => XS.ifNo X34.here hx rfl (hb hby at_149) rfl ((if0 _ _).trans (teq hc149_35).2) k) ?_
      refine Go.on (B := T34.setTop (mkF m 154 #[.val (.int p1), .val (.int p2), .val (.int p3), .val (.int p4), .val (.int p5), .val (.int v3_1), .val (.int z7_a2), .val (.ref b7), .val (.int v58_8), .val (.int v69_9), .val (.int z75_a10), .val (.ref b13)] [(.ref b13)])) (fun t k => XS.aload X34.here hx rfl (hb hby at_152) rfl rfl k) ?_
      obtain ⟨T36, X36, e36, st36⟩ := getF X34 hx hZ hown (host := "") (Or.inl (hw _ (List.mem_of_getElem? (i := 16) rfl))) Via.refl e34 G32d (g := (mkF m 154 #[.val (.int p1), .val (.int p2), .val (.int p3), .val (.int p4), .val (.int p5), .val (.int v3_1), .val (.int z7_a2), .val (.ref b7), .val (.int v58_8), .val (.int v69_9), .val (.int z75_a10), .val (.ref b13)] [(.ref b13)])) rfl rfl (hb hby at_154)
      refine Go.on (B := T36.setTop (mkF m 157 #[.val (.int p1), .val (.int p2), .val (.int p3), .val (.int p4), .val (.int p5), .val (.int v3_1), .val (.int z7_a2), .val (.ref b7), .val (.int v58_8), .val (.int v69_9), .val (.int z75_a10), .val (.ref b13)] [(.int (0 : Int32))])) (fun t k => st36 _ k) ?_
      have hc157_37 : (0 : Int32) = (0 : Int32) := by decide
      refine Go.on (B := T36.setTop (mkF m 162 #[.val (.int p1), .val (.int p2), .val (.int p3), .val (.int p4), .val (.int p5), .val (.int v3_1), .val (.int z7_a2), .val (.ref b7), .val (.int v58_8), .val (.int v69_9), .val (.int z75_a10), .val (.ref b13)] [])) (fun t k => XS.ifYes X36.here hx rfl (pc0 := 157) (pc' := 162) rfl (hb hby at_157) rfl ((if0 _ _).trans (teq hc157_37).1) (by decide) (by decide) k) ?_
      refine Go.on (B := T36.setTop (mkF m 164 #[.val (.int p1), .val (.int p2), .val (.int p3), .val (.int p4), .val (.int p5), .val (.int v3_1), .val (.int z7_a2), .val (.ref b7), .val (.int v58_8), .val (.int v69_9), .val (.int z75_a10), .val (.ref b13)] [(.int z7_a2)])) (fun t k => XS.iload X36.here hx rfl (hb hby at_162) rfl k) ?_
      refine Go.on (B := T36.setTop (mkF m 166 #[.val (.int p1), .val (.int p2), .val (.int p3), .val (.int p4), .val (.int p5), .val (.int v3_1), .val (.int z7_a2), .val (.ref b7), .val (.int v58_8), .val (.int v69_9), .val (.int z75_a10), .val (.ref b13)] [(.int (65536 : Int32)), (.int z7_a2)])) (fun t k => X36.ldcInt hx hown (mvT hZ (hw _ (List.mem_of_getElem? (i := 26) rfl))) (g := (mkF m 164 #[.val (.int p1), .val (.int p2), .val (.int p3), .val (.int p4), .val (.int p5), .val (.int v3_1), .val (.int z7_a2), .val (.ref b7), .val (.int v58_8), .val (.int v69_9), .val (.int z75_a10), .val (.ref b13)] [(.int z7_a2)])) rfl (hb hby at_164) _ k) ?_
      have hc166_38 : ¬ ((65536 : Int32) < z7_a2) := hP2
      refine Go.on (B := T36.setTop (mkF m 205 #[.val (.int p1), .val (.int p2), .val (.int p3), .val (.int p4), .val (.int p5), .val (.int v3_1), .val (.int z7_a2), .val (.ref b7), .val (.int v58_8), .val (.int v69_9), .val (.int z75_a10), .val (.ref b13)] [])) (fun t k => XS.icmpYes X36.here hx rfl (pc0 := 166) (pc' := 205) rfl (hb hby at_166) rfl (flt hc166_38).2.2.2 (by decide) (by decide) k) ?_
      refine Go.on (B := T36.setTop (mkF m 207 #[.val (.int p1), .val (.int p2), .val (.int p3), .val (.int p4), .val (.int p5), .val (.int v3_1), .val (.int z7_a2), .val (.ref b7), .val (.int v58_8), .val (.int v69_9), .val (.int z75_a10), .val (.ref b13)] [(.ref b13)])) (fun t k => XS.aload X36.here hx rfl (hb hby at_205) rfl rfl k) ?_
      obtain ⟨T39, X39, e39, st39⟩ := getF X36 hx hZ hown (host := "") (Or.inl (hw _ (List.mem_of_getElem? (i := 13) rfl))) Via.refl e36 G32b (g := (mkF m 207 #[.val (.int p1), .val (.int p2), .val (.int p3), .val (.int p4), .val (.int p5), .val (.int v3_1), .val (.int z7_a2), .val (.ref b7), .val (.int v58_8), .val (.int v69_9), .val (.int z75_a10), .val (.ref b13)] [(.ref b13)])) rfl rfl (hb hby at_207)
      refine Go.on (B := T39.setTop (mkF m 210 #[.val (.int p1), .val (.int p2), .val (.int p3), .val (.int p4), .val (.int p5), .val (.int v3_1), .val (.int z7_a2), .val (.ref b7), .val (.int v58_8), .val (.int v69_9), .val (.int z75_a10), .val (.ref b13)] [(.ref b7)])) (fun t k => st39 _ k) ?_
      refine Go.on (B := T39.setTop (mkF m 212 #[.val (.int p1), .val (.int p2), .val (.int p3), .val (.int p4), .val (.int p5), .val (.int v3_1), .val (.int z7_a2), .val (.ref b7), .val (.int v58_8), .val (.int v69_9), .val (.int z75_a10), .val (.ref b13)] [(.ref b7), (.ref b7)])) (fun t k => XS.aload X39.here hx rfl (hb hby at_210) rfl rfl k) ?_
      refine Go.on (B := T39.setTop (mkF m 215 #[.val (.int p1), .val (.int p2), .val (.int p3), .val (.int p4), .val (.int p5), .val (.int v3_1), .val (.int z7_a2), .val (.ref b7), .val (.int v58_8), .val (.int v69_9), .val (.int z75_a10), .val (.ref b13)] [])) (fun t k => Jvm.RoadKit.acmp (g := (mkF m 212 #[.val (.int p1), .val (.int p2), .val (.int p3), .val (.int p4), .val (.int p5), .val (.int v3_1), .val (.int z7_a2), .val (.ref b7), .val (.int v58_8), .val (.int v69_9), .val (.int z75_a10), .val (.ref b13)] [(.ref b7), (.ref b7)])) X39 hx rfl rfl rfl (pc0 := 212) (pc' := 215) (same := true) rfl (hb hby at_212) rfl (decide_eq_true rfl) (by decide) (by decide) k) ?_
      refine Go.on (B := T39.setTop (mkF m 216 #[.val (.int p1), .val (.int p2), .val (.int p3), .val (.int p4), .val (.int p5), .val (.int v3_1), .val (.int z7_a2), .val (.ref b7), .val (.int v58_8), .val (.int v69_9), .val (.int z75_a10), .val (.ref b13)] [(.int (1 : Int32))])) (fun t k => XS.iconst X39.here hx rfl (hb hby at_215) k) ?_
      refine Go.on (B := T39.setTop (mkF m 220 #[.val (.int p1), .val (.int p2), .val (.int p3), .val (.int p4), .val (.int p5), .val (.int v3_1), .val (.int z7_a2), .val (.ref b7), .val (.int v58_8), .val (.int v69_9), .val (.int z75_a10), .val (.ref b13)] [(.int (1 : Int32))])) (fun t k => XS.goto X39.here hx rfl (pc0 := 216) (pc' := 220) rfl (hb hby at_216) (by decide) (by decide) k) ?_
      obtain ⟨fs, hr, hrun, hended, hW, hsame⟩ := X39.leave (v := some (.int (1 : Int32))) (fun h => by rw [Bd.returns] at h; cases h)
      refine ⟨_, _, ?_, hrun, hended, _, _, rfl, ?_, ⟨_, rfl⟩, hW, hsame.mono (by decide) (by decide)⟩
      · exact retN X39 hx (t := .boolean) Bd.returns (by simp) (hb hby at_220) hr
      · show Q_rm0 Z p1 p2 p3 p4 p5 h0 n0 _ T39.heap _
        rw [e39]
        exact ⟨rfl, N32⟩
  · obtain ⟨cq41, kq41, q41a, q41b, q41c⟩ := isOf hZ e17 f18
    obtain ⟨_, _, ⟨T41, L41, k41, n41⟩, -, X41, ⟨Lc41, hQ41, l41, y41, z41⟩, st41⟩ := X17.virtualBack hx (y := (⟨"com/example/pankti/pankti/protocol/ByteWindow", "release", "(I)V"⟩ : MethodName)) (z := (⟨"com/example/pankti/pankti/protocol/ByteWindow", "release", "(I)V"⟩ : MethodName)) hown (mvT hZ (hw _ (List.mem_of_getElem? (i := 18) rfl))) (mvT hZ (hw _ (List.mem_of_getElem? (i := 19) rfl))) (notFace_of_selects (args := #[]) (mvT hZ (hw _ (List.mem_of_getElem? (i := 21) rfl)))) (mvT hZ (hw _ (List.mem_of_getElem? (i := 21) rfl))) (mvT hZ (hw _ (List.mem_of_getElem? (i := 20) rfl))) (by decide) (backOf (W := 0) (rel3 l Z a0 hw [] b13 z75_a10 v58_8 b7 k7 z7_a2 v69_9 h17 n0 Zs21 f18 f19 f20 Fw17 f17 ne_b7_b13 ge_b13 hP1 ) hZ (hw _ (List.mem_of_getElem? (i := 22) rfl)) (hw _ (List.mem_of_getElem? (i := 4) rfl)) (by decide) (by decide)) q41a q41c (g := (mkF m 134 #[.val (.int p1), .val (.int p2), .val (.int p3), .val (.int p4), .val (.int p5), .val (.int v3_1), .val (.int z7_a2), .val (.ref b7), .val (.int v58_8), .val (.int v69_9), .val (.int z75_a10), .val (.ref b13)] [(.int z75_a10), (.ref b13)])) rfl (by rw [hml]; rfl) (Steps.refl _) (argsL := [(.int z75_a10)]) (rest := []) (lenOf pd_1 rfl) rfl (by show 2 * 0 + _ ≤ _; exact Nat.le_of_eq rfl) (hb hby at_134) (fun _ _ => ⟨rfl, e17, (by decide : 3 + 0 ≤ _), (by decide : 66564 + 0 ≤ _)⟩)
    dsimp only [Pt.U, Pt.locs, Pt.cells, Pt.slots] at X41 l41 y41 z41 st41 hQ41
    subst l41 y41 z41
    obtain ⟨rfl, N41q, K41q, G41a, G41c, G41d, G41b⟩ := hQ41
    have N41 := Fr.app N17 N41q
    have f28 := f17.keep K41q (ninS ne_b7_b13 nin0)
    have f29 := f18.keep K41q
    have Zs30 := Nat.le_trans Zs21 K41q.1
    refine Go.on (B := T41.setTop (mkF m 137 #[.val (.int p1), .val (.int p2), .val (.int p3), .val (.int p4), .val (.int p5), .val (.int v3_1), .val (.int z7_a2), .val (.ref b7), .val (.int v58_8), .val (.int v69_9), .val (.int z75_a10), .val (.ref b13)] [])) (fun t k => st41.trans k) ?_
    refine Go.on (B := T41.setTop (mkF m 139 #[.val (.int p1), .val (.int p2), .val (.int p3), .val (.int p4), .val (.int p5), .val (.int v3_1), .val (.int z7_a2), .val (.ref b7), .val (.int v58_8), .val (.int v69_9), .val (.int z75_a10), .val (.ref b13)] [(.int z75_a10)])) (fun t k => XS.iload X41.here hx rfl (hb hby at_137) rfl k) ?_
    refine Go.on (B := T41.setTop (mkF m 141 #[.val (.int p1), .val (.int p2), .val (.int p3), .val (.int p4), .val (.int p5), .val (.int v3_1), .val (.int z7_a2), .val (.ref b7), .val (.int v58_8), .val (.int v69_9), .val (.int z75_a10), .val (.ref b13)] [(.int v58_8), (.int z75_a10)])) (fun t k => XS.iload X41.here hx rfl (hb hby at_139) rfl k) ?_
    have hc141_42 : ¬ (z75_a10 = v58_8) := hP1
    refine Go.on (B := T41.setTop (mkF m 221 #[.val (.int p1), .val (.int p2), .val (.int p3), .val (.int p4), .val (.int p5), .val (.int v3_1), .val (.int z7_a2), .val (.ref b7), .val (.int v58_8), .val (.int v69_9), .val (.int z75_a10), .val (.ref b13)] [])) (fun t k => XS.icmpYes X41.here hx rfl (pc0 := 141) (pc' := 221) rfl (hb hby at_141) rfl (feq hc141_42).2 (by decide) (by decide) k) ?_
    refine Go.on (B := T41.setTop (mkF m 223 #[.val (.int p1), .val (.int p2), .val (.int p3), .val (.int p4), .val (.int p5), .val (.int v3_1), .val (.int z7_a2), .val (.ref b7), .val (.int v58_8), .val (.int v69_9), .val (.int z75_a10), .val (.ref b13)] [(.ref b13)])) (fun t k => XS.aload X41.here hx rfl (hb hby at_221) rfl rfl k) ?_
    obtain ⟨T43, X43, e43, st43⟩ := getF X41 hx hZ hown (host := "") (Or.inl (hw _ (List.mem_of_getElem? (i := 14) rfl))) Via.refl rfl G41c (g := (mkF m 223 #[.val (.int p1), .val (.int p2), .val (.int p3), .val (.int p4), .val (.int p5), .val (.int v3_1), .val (.int z7_a2), .val (.ref b7), .val (.int v58_8), .val (.int v69_9), .val (.int z75_a10), .val (.ref b13)] [(.ref b13)])) rfl rfl (hb hby at_223)
    refine Go.on (B := T43.setTop (mkF m 226 #[.val (.int p1), .val (.int p2), .val (.int p3), .val (.int p4), .val (.int p5), .val (.int v3_1), .val (.int z7_a2), .val (.ref b7), .val (.int v58_8), .val (.int v69_9), .val (.int z75_a10), .val (.ref b13)] [(.int z75_a10)])) (fun t k => st43 _ k) ?_
    refine Go.on (B := T43.setTop (mkF m 228 #[.val (.int p1), .val (.int p2), .val (.int p3), .val (.int p4), .val (.int p5), .val (.int v3_1), .val (.int z7_a2), .val (.ref b7), .val (.int v58_8), .val (.int v69_9), .val (.int z75_a10), .val (.ref b13)] [(.int z75_a10), (.int z75_a10)])) (fun t k => XS.iload X43.here hx rfl (hb hby at_226) rfl k) ?_
    have hc228_44 : z75_a10 = z75_a10 := rfl
    refine Go.on (B := T43.setTop (mkF m 231 #[.val (.int p1), .val (.int p2), .val (.int p3), .val (.int p4), .val (.int p5), .val (.int v3_1), .val (.int z7_a2), .val (.ref b7), .val (.int v58_8), .val (.int v69_9), .val (.int z75_a10), .val (.ref b13)] [])) (fun t k => XS.icmpNo X43.here hx rfl (hb hby at_228) rfl (teq hc228_44).2 k) ?_
    refine Go.on (B := T43.setTop (mkF m 233 #[.val (.int p1), .val (.int p2), .val (.int p3), .val (.int p4), .val (.int p5), .val (.int v3_1), .val (.int z7_a2), .val (.ref b7), .val (.int v58_8), .val (.int v69_9), .val (.int z75_a10), .val (.ref b13)] [(.ref b13)])) (fun t k => XS.aload X43.here hx rfl (hb hby at_231) rfl rfl k) ?_
    obtain ⟨T45, X45, e45, st45⟩ := getF X43 hx hZ hown (host := "") (Or.inl (hw _ (List.mem_of_getElem? (i := 16) rfl))) Via.refl e43 G41d (g := (mkF m 233 #[.val (.int p1), .val (.int p2), .val (.int p3), .val (.int p4), .val (.int p5), .val (.int v3_1), .val (.int z7_a2), .val (.ref b7), .val (.int v58_8), .val (.int v69_9), .val (.int z75_a10), .val (.ref b13)] [(.ref b13)])) rfl rfl (hb hby at_233)
    refine Go.on (B := T45.setTop (mkF m 236 #[.val (.int p1), .val (.int p2), .val (.int p3), .val (.int p4), .val (.int p5), .val (.int v3_1), .val (.int z7_a2), .val (.ref b7), .val (.int v58_8), .val (.int v69_9), .val (.int z75_a10), .val (.ref b13)] [(.int v58_8)])) (fun t k => st45 _ k) ?_
    refine Go.on (B := T45.setTop (mkF m 238 #[.val (.int p1), .val (.int p2), .val (.int p3), .val (.int p4), .val (.int p5), .val (.int v3_1), .val (.int z7_a2), .val (.ref b7), .val (.int v58_8), .val (.int v69_9), .val (.int z75_a10), .val (.ref b13)] [(.int v58_8), (.int v58_8)])) (fun t k => XS.iload X45.here hx rfl (hb hby at_236) rfl k) ?_
    have hc238_46 : v58_8 = v58_8 := rfl
    refine Go.on (B := T45.setTop (mkF m 241 #[.val (.int p1), .val (.int p2), .val (.int p3), .val (.int p4), .val (.int p5), .val (.int v3_1), .val (.int z7_a2), .val (.ref b7), .val (.int v58_8), .val (.int v69_9), .val (.int z75_a10), .val (.ref b13)] [])) (fun t k => XS.icmpNo X45.here hx rfl (hb hby at_238) rfl (teq hc238_46).2 k) ?_
    refine Go.on (B := T45.setTop (mkF m 243 #[.val (.int p1), .val (.int p2), .val (.int p3), .val (.int p4), .val (.int p5), .val (.int v3_1), .val (.int z7_a2), .val (.ref b7), .val (.int v58_8), .val (.int v69_9), .val (.int z75_a10), .val (.ref b13)] [(.ref b13)])) (fun t k => XS.aload X45.here hx rfl (hb hby at_241) rfl rfl k) ?_
    obtain ⟨T47, X47, e47, st47⟩ := getF X45 hx hZ hown (host := "") (Or.inl (hw _ (List.mem_of_getElem? (i := 13) rfl))) Via.refl e45 G41b (g := (mkF m 243 #[.val (.int p1), .val (.int p2), .val (.int p3), .val (.int p4), .val (.int p5), .val (.int v3_1), .val (.int z7_a2), .val (.ref b7), .val (.int v58_8), .val (.int v69_9), .val (.int z75_a10), .val (.ref b13)] [(.ref b13)])) rfl rfl (hb hby at_243)
    refine Go.on (B := T47.setTop (mkF m 246 #[.val (.int p1), .val (.int p2), .val (.int p3), .val (.int p4), .val (.int p5), .val (.int v3_1), .val (.int z7_a2), .val (.ref b7), .val (.int v58_8), .val (.int v69_9), .val (.int z75_a10), .val (.ref b13)] [(.ref b7)])) (fun t k => st47 _ k) ?_
    refine Go.on (B := T47.setTop (mkF m 248 #[.val (.int p1), .val (.int p2), .val (.int p3), .val (.int p4), .val (.int p5), .val (.int v3_1), .val (.int z7_a2), .val (.ref b7), .val (.int v58_8), .val (.int v69_9), .val (.int z75_a10), .val (.ref b13)] [(.ref b7), (.ref b7)])) (fun t k => XS.aload X47.here hx rfl (hb hby at_246) rfl rfl k) ?_
    refine Go.on (B := T47.setTop (mkF m 251 #[.val (.int p1), .val (.int p2), .val (.int p3), .val (.int p4), .val (.int p5), .val (.int v3_1), .val (.int z7_a2), .val (.ref b7), .val (.int v58_8), .val (.int v69_9), .val (.int z75_a10), .val (.ref b13)] [])) (fun t k => Jvm.RoadKit.acmp (g := (mkF m 248 #[.val (.int p1), .val (.int p2), .val (.int p3), .val (.int p4), .val (.int p5), .val (.int v3_1), .val (.int z7_a2), .val (.ref b7), .val (.int v58_8), .val (.int v69_9), .val (.int z75_a10), .val (.ref b13)] [(.ref b7), (.ref b7)])) X47 hx rfl rfl rfl (pc0 := 248) (pc' := 251) (same := true) rfl (hb hby at_248) rfl (decide_eq_true rfl) (by decide) (by decide) k) ?_
    refine Go.on (B := T47.setTop (mkF m 252 #[.val (.int p1), .val (.int p2), .val (.int p3), .val (.int p4), .val (.int p5), .val (.int v3_1), .val (.int z7_a2), .val (.ref b7), .val (.int v58_8), .val (.int v69_9), .val (.int z75_a10), .val (.ref b13)] [(.int (1 : Int32))])) (fun t k => XS.iconst X47.here hx rfl (hb hby at_251) k) ?_
    refine Go.on (B := T47.setTop (mkF m 256 #[.val (.int p1), .val (.int p2), .val (.int p3), .val (.int p4), .val (.int p5), .val (.int v3_1), .val (.int z7_a2), .val (.ref b7), .val (.int v58_8), .val (.int v69_9), .val (.int z75_a10), .val (.ref b13)] [(.int (1 : Int32))])) (fun t k => XS.goto X47.here hx rfl (pc0 := 252) (pc' := 256) rfl (hb hby at_252) (by decide) (by decide) k) ?_
    obtain ⟨fs, hr, hrun, hended, hW, hsame⟩ := X47.leave (v := some (.int (1 : Int32))) (fun h => by rw [Bd.returns] at h; cases h)
    refine ⟨_, _, ?_, hrun, hended, _, _, rfl, ?_, ⟨_, rfl⟩, hW, hsame.mono (by decide) (by decide)⟩
    · exact retN X47 hx (t := .boolean) Bd.returns (by simp) (hb hby at_256) hr
    · show Q_rm0 Z p1 p2 p3 p4 p5 h0 n0 _ T47.heap _
      rw [e47]
      exact ⟨rfl, N41⟩
set_option maxRecDepth 65536 in
set_option maxHeartbeats 40000000 in
theorem comes_1 {Post : Tables → Env → Array Value → State → Outcome → State → Prop} (hpost : ∀ tb e args s v u, (limb_1_1.after args s (.returned v) u = true ∧ limb_1_2.after args s (.returned v) u = true ∧ True) → FrameEnd s (.returned v) u (Jvm.fieldLocs frame_1_writes args s ++ Jvm.arrayLocs frame_1_arrays args s ++ Jvm.staticLocs frame_1_statics s) 16 135296 → Post tb e args s (.returned v) u) :
    ArmFor flags0 classFile x code maxLocals ret World_1 tables_1 room_1 Calls_1 rest_1 Pre_1 Post := by
  intro l hfl _ _ p e ha hc hk s m args below hf hA hF happ hP
  obtain ⟨hcalls, hrest, hpre⟩ := hP
  obtain ⟨-, -, -, hnamed, -, -, -, hat⟩ := (Spec.applies_iff hf).mp happ
  obtain ⟨hg, hn⟩ := and_e (Cond.before_iff.mp (show (Jvm.Cond.and given_1 narrow_1).before args s = true from hpre))
  obtain ⟨gc, gr0⟩ := and_e hg
  obtain ⟨ga0, gr1⟩ := and_e gr0
  obtain ⟨ga1, gr2⟩ := and_e gr1
  obtain ⟨ga2, gr3⟩ := and_e gr2
  obtain ⟨ga3, gr4⟩ := and_e gr3
  obtain ⟨w0, w1, w2, w3, w4, rfl⟩ : ∃ w0 w1 w2 w3 w4 : Value, args = #[w0, w1, w2, w3, w4] := by
    have hs : args.size = 5 := by simpa [Cond.value, given_1] using gc
    obtain ⟨L⟩ := args
    match L, hs with
    | [w0, w1, w2, w3, w4], _ => exact ⟨w0, w1, w2, w3, w4, rfl⟩
  have hw := fun d (hd : d ∈ tables_1) => atoms_spec (ws := Jvm.Cond.code x code maxLocals ret :: tables_1) hat d (List.mem_cons_of_mem _ hd)
  have hfit : Fit s := fun {y c} hc i hi => by
    obtain ⟨ha, rfl⟩ := Array.getElem?_eq_some_iff.mp hc
    have q := List.all_eq_true.mp ((Array.all_eq_true_iff_forall_mem.mp hF) _ (Array.getElem_mem ha)) i (List.mem_range.mpr hi)
    simpa [Array.getElem?_eq_getElem hi] using q
  obtain ⟨i0, ei0⟩ := is_v ga0
  obtain rfl : w0 = (.int i0) := Option.some.inj ei0
  obtain ⟨i1, ei1⟩ := is_v ga1
  obtain rfl : w1 = (.int i1) := Option.some.inj ei1
  obtain ⟨i2, ei2⟩ := is_v ga2
  obtain rfl : w2 = (.int i2) := Option.some.inj ei2
  obtain ⟨i3, ei3⟩ := is_v ga3
  obtain rfl : w3 = (.int i3) := Option.some.inj ei3
  obtain ⟨i4, ei4⟩ := is_v gr4
  obtain rfl : w4 = (.int i4) := Option.some.inj ei4
  obtain ⟨n, o, h1, h2, h3, _, L, rfl, ⟨rfl, N⟩, hq⟩ := rm0 l s _ hw tables_1 i0 i1 i2 i3 i4  s.heap s.heap.size (Nat.le_refl _)  p e ha hc hk s m _ below hf ((Spec.applies_iff_loose hf).mp happ).1 ⟨rfl, State.Warmed39.refl s, rfl⟩ trivial
  refine ⟨n, _, h1, h2, h3, hpost _ _ _ _ _ _ ⟨Cond.after_iff.mpr rfl, Cond.after_iff.mpr (eq_i res_at (Term.int_eval (1)) rfl), trivial⟩ ⟨hq.1, hq.2.1, (hq.2.2.sift fun y hy => Or.inr (N y hy)).mono (by decide) (by decide)⟩⟩
theorem main_1_1 : Claimed_1_1 := comes_1 fun _ _ _ _ _ _ h hF => ⟨h.1, hF⟩
theorem main_1_2 : Claimed_1_2 := comes_1 fun _ _ _ _ _ _ h hF => ⟨h.2.1, hF⟩
end Jvm.Pilot.@@N@@
namespace Jvm.Pilot.@@N@@
open Jvm Jvm.ClassFile Sem Op Lib Jvm.Free Jvm.Stand Jvm.Pilot.@@N@@.Jvm.D
/-! MADE BY PROGRAM (witnessworld.py) out of the Statement's table words and the real class files: 9 classes; the members and pool entries that the words name. The judged class is class 1, her method 1. -/
namespace start1
open Jvm.ClassFile
def u (s : String) : CpInfo := .utf8 (stringToUtf16 s)
/-- a pool by its gaps: so many unusable entries, then the entry; so many at the end -/
def gap : Nat → List CpInfo → List CpInfo
  | 0, r => r
  | n + 1, r => .unusable :: gap n r
def poolList (es : List (Nat × CpInfo)) (last : Nat) : List CpInfo := es.foldr (fun e r => gap e.1 (e.2 :: r)) (gap last [])
def pool (es : List (Nat × CpInfo)) (last : Nat) : Array CpInfo := ⟨poolList es last⟩
def fileOf (pool : Array CpInfo) (this : Nat) (attrs : Array Attribute := #[]) (ms : Array MethodInfo := #[]) (fl : Nat := 33) (sup : Nat := 0) (ifs : Array Nat := #[]) (fds : Array FieldInfo := #[]) : ClassFile where
  minorVersion := 0
  majorVersion := 65
  constantPool := pool
  accessFlags := fl
  thisClass := this
  superClass := sup
  interfaces := ifs
  fields := fds
  methods := ms
  attributes := attrs
def plain (name : String) (sup : Option ClassId) : Class where
  name := name
  kind := .ordinary
  loader := none
  accessFlags := 33
  super := sup
  interfaces := #[]
  cf := none
  fields := #[]
  methods := #[]
  instanceTypes := #[]
  staticTypes := #[]
  resolved := #[]
  callSites := []
  init := .initialized
  statics := none
  mirror := none

def pool0 : Array CpInfo := pool [(5, u "<init>"), (0, u "()V"), (1, .class_ 10), (1, u "java/lang/Object")] 113

def k0c0 : Code := { maxStack := 0, maxLocals := 1, code := object_method_1_code, exceptionTable := #[], attributes := #[] }
def k0m0 : Method := { name := "<init>", desc := "()V", sig := { parameters := [], returnType := none }, accessFlags := 1, code := some k0c0 }
/-- java/lang/Object -/
def k0 : Class := { plain "java/lang/Object" none with
  accessFlags := 33
  interfaces := #[]
  cf := some (fileOf pool0 8 #[] #[{ accessFlags := 1, nameIndex := 5, descriptorIndex := 6, attributes := #[] }] 33 0 #[] #[])
  fields := #[]
  methods := #[k0m0]
  instanceTypes := #[]
  staticTypes := #[]
  resolved := Array.replicate 124 none
  statics := none }

def pool1 : Array CpInfo := pool [(2, .class_ 4), (0, .nameAndType 5 6), (0, u "java/lang/Object"), (0, u "<init>"), (0, u "()V"), (0, .integer 65536), (0, .integer 65537), (0, .integer 2147483647), (0, .class_ 11), (0, u "com/example/pankti/pankti/protocol/ByteWindow"), (0, .methodref 10 3), (0, .fieldref 10 14), (0, .nameAndType 15 16), (0, u "bytes"), (0, u "[B"), (0, .fieldref 10 18), (0, .nameAndType 19 20), (0, u "start"), (0, u "I"), (0, .fieldref 10 22), (0, .nameAndType 23 20), (0, u "end"), (0, .methodref 10 25), (0, .nameAndType 26 27), (0, u "release"), (0, u "(I)V"), (0, .class_ 29), (0, u "com/example/pankti/pankti/protocol/ByteWindowReleasePinLaw"), (2, u "law"), (0, u "(IIIII)Z")] 4

def k1m0 : Method := { name := "<init>", desc := "()V", sig := { parameters := [], returnType := none }, accessFlags := 1, code := none }
def k1c1 : Code := { maxStack := 4, maxLocals := 12, code := code, exceptionTable := #[], attributes := #[] }
def k1m1 : Method := { name := "law", desc := "(IIIII)Z", sig := { parameters := [.int, .int, .int, .int, .int], returnType := some .boolean }, accessFlags := 9, code := some k1c1 }
/-- com/example/pankti/pankti/protocol/ByteWindowReleasePinLaw -/
def k1 : Class := { plain "com/example/pankti/pankti/protocol/ByteWindowReleasePinLaw" (some 0) with
  accessFlags := 49
  interfaces := #[]
  cf := some (fileOf pool1 28 #[] #[{ accessFlags := 1, nameIndex := 5, descriptorIndex := 6, attributes := #[] }, { accessFlags := 9, nameIndex := 32, descriptorIndex := 33, attributes := #[] }] 49 2 #[] #[])
  fields := #[]
  methods := #[k1m0, k1m1]
  instanceTypes := #[]
  staticTypes := #[]
  resolved := Array.replicate 38 none
  statics := none }

def pool2 : Array CpInfo := pool [(1, .methodref 2 3), (0, .class_ 4), (0, .nameAndType 5 6), (0, u "java/lang/Object"), (0, u "<init>"), (0, u "()V"), (0, .class_ 8), (0, u "com/example/pankti/pankti/protocol/ByteWindow"), (0, .fieldref 7 10), (0, .nameAndType 11 12), (0, u "bytes"), (0, u "[B"), (0, .fieldref 7 14), (0, .nameAndType 15 16), (0, u "end"), (0, u "I"), (3, u "(I)V"), (4, .fieldref 7 26), (0, .nameAndType 27 16), (0, u "start"), (12, .integer 65536), (0, u "INITIAL_CAPACITY"), (2, u "KEPT_CAPACITY"), (6, u "release")] 2

def k2c0 : Code := { maxStack := 2, maxLocals := 1, code := prog_50_method_1_code, exceptionTable := #[], attributes := #[] }
def k2m0 : Method := { name := "<init>", desc := "()V", sig := { parameters := [], returnType := none }, accessFlags := 0, code := some k2c0 }
def k2c1 : Code := { maxStack := 2, maxLocals := 2, code := prog_50_method_6_code, exceptionTable := #[], attributes := #[] }
def k2m1 : Method := { name := "release", desc := "(I)V", sig := { parameters := [.int], returnType := none }, accessFlags := 0, code := some k2c1 }
/-- com/example/pankti/pankti/protocol/ByteWindow -/
def k2 : Class := { plain "com/example/pankti/pankti/protocol/ByteWindow" (some 0) with
  accessFlags := 48
  interfaces := #[]
  cf := some (fileOf pool2 7 #[] #[{ accessFlags := 0, nameIndex := 5, descriptorIndex := 6, attributes := #[] }, { accessFlags := 0, nameIndex := 51, descriptorIndex := 20, attributes := #[] }] 48 2 #[] #[{ accessFlags := 26, nameIndex := 41, descriptorIndex := 16, attributes := #[] }, { accessFlags := 26, nameIndex := 44, descriptorIndex := 16, attributes := #[] }, { accessFlags := 0, nameIndex := 11, descriptorIndex := 12, attributes := #[] }, { accessFlags := 0, nameIndex := 27, descriptorIndex := 16, attributes := #[] }, { accessFlags := 0, nameIndex := 15, descriptorIndex := 16, attributes := #[] }])
  fields := #[{ name := "INITIAL_CAPACITY", type := .int, accessFlags := 26, slot := 0, constantValue := 0 }, { name := "KEPT_CAPACITY", type := .int, accessFlags := 26, slot := 1, constantValue := 0 }, { name := "bytes", type := (.array .byte), accessFlags := 0, slot := 0, constantValue := 0 }, { name := "start", type := .int, accessFlags := 0, slot := 1, constantValue := 0 }, { name := "end", type := .int, accessFlags := 0, slot := 2, constantValue := 0 }]
  methods := #[k2m0, k2m1]
  instanceTypes := #[(.array .byte), .int, .int]
  staticTypes := #[.int, .int]
  resolved := Array.replicate 54 none
  statics := none }

def pool3 : Array CpInfo := pool [(1, u "java/lang/Cloneable"), (0, .class_ 1), (0, u "java/lang/Object"), (0, .class_ 3)] 3

/-- java/lang/Cloneable -/
def k3 : Class := { plain "java/lang/Cloneable" (some 0) with
  accessFlags := 1537
  interfaces := #[]
  cf := some (fileOf pool3 2 #[] #[] 1537 4 #[] #[])
  fields := #[]
  methods := #[]
  instanceTypes := #[]
  staticTypes := #[]
  resolved := Array.replicate 8 none
  statics := none }

def pool4 : Array CpInfo := pool [(1, u "java/io/Serializable"), (0, .class_ 1), (0, u "java/lang/Object"), (0, .class_ 3)] 3

/-- java/io/Serializable -/
def k4 : Class := { plain "java/io/Serializable" (some 0) with
  accessFlags := 1537
  interfaces := #[]
  cf := some (fileOf pool4 2 #[] #[] 1537 4 #[] #[])
  fields := #[]
  methods := #[]
  instanceTypes := #[]
  staticTypes := #[]
  resolved := Array.replicate 8 none
  statics := none }

/-- the primitive byte -/
def k5 : Class := { plain "byte" none with kind := .primitive 'B', accessFlags := 0x411 }
/-- [B -/
def k6 : Class := { plain "[B" (some 0) with kind := .array 5 .byte, interfaces := #[3, 4], accessFlags := 1041 }

/-- the primitive int -/
def k7 : Class := { plain "int" none with kind := .primitive 'I', accessFlags := 0x411 }
/-- [I -/
def k8 : Class := { plain "[I" (some 0) with kind := .array 7 .int, interfaces := #[3, 4], accessFlags := 1041 }

def heap : Heap := #[]
def classes : Array Class := #[k0, k1, k2, k3, k4, k5, k6, k7, k8]
def interned : List (Array UInt16 × Addr) := []
def slotsUsed : Nat := 0
def theMethod : MethodId := ⟨1, 1⟩
def args0 : Array Value := #[.int 5, .int 4, .int 3, .int 1, .int 1]
def aboutOver (below : List Frame) : State where
  vm := { classes := classes, interned := interned.toArray }
  heap := heap
  slotsUsed := slotsUsed
  threads := #[{ frames := .invoking theMethod args0 :: below }]
def below0 : List Frame := [.native { method := ⟨0, 0⟩, args := #[] }]
def about1 : State := aboutOver below0
def p0 : Program := .bare "" "" ""
def e0 : Env := launch0.env 0 0 0
theorem w_frames : about1.frames = Frame.invoking theMethod args0 :: below0 := rfl
set_option maxRecDepth 65536 in
theorem w_args : argsFit about1.vm theMethod args0 = true := by decide +kernel
set_option maxRecDepth 65536 in
theorem w_heap : heapFits about1 = true := by decide +kernel
set_option maxRecDepth 65536 in
theorem w_runnable : about1.curStatus? = some .runnable := by decide +kernel
set_option maxRecDepth 65536 in
theorem w_alone : about1.alone = true := by decide +kernel
set_option maxRecDepth 65536 in
theorem w_named : about1.methodNamed? x = some theMethod := by decide +kernel
set_option maxRecDepth 65536 in
theorem w_hears : about1.hears theMethod below0 = true := by decide +kernel
set_option maxRecDepth 65536 in
theorem w_ripe : about1.ripe theMethod args0 below0 = true := by decide +kernel
theorem w_running : about1.status = .running := rfl
set_option maxRecDepth 65536 in
theorem w_room : about1.hasRoom e0.platform room_1 = true :=
  launch0.hasRoom_least _ room_1 (by decide +kernel) (by decide +kernel) (by decide +kernel) (by decide +kernel) (by decide +kernel) (by decide +kernel)
theorem allAtoms_all (ts : List Jvm.Cond) (a : Array Jvm.Value) (st : Jvm.State) : (allAtoms ts).before a st = ts.all (fun c => c.before a st) := by
  induction ts with
  | nil => rfl
  | cons c t ih =>
    show (Jvm.Cond.and c (allAtoms t)).before a st = _
    rw [Jvm.Cond.before_and, ih, List.all_cons]
def words1 : List Jvm.Cond := Jvm.Cond.code x code maxLocals ret :: tables_1
/-- a 'code' word, met by the world's own term for the bytes: nothing is compared byte by byte -/
theorem code_word {y : MethodName} {bytes : ByteArray} {mx : Nat} {rt : Option FieldType} {a : Array Value} {s : State} {m : MethodId} {meth : Method} {c : Code} (h1 : s.methodNamed? y = some m) (h2 : s.vm.method? m = some meth) (h3 : meth.code = some c) (h4 : c.code = bytes)
    (h5 : (c.maxLocals == mx && c.exceptionTable.isEmpty && decide (c.maxStack ≤ mostOperands) && decide (meth.sig.returnType = rt) && !meth.locks && decide (parseMethodDescriptor y.desc = some meth.sig)) = true) : (Jvm.Cond.code y bytes mx rt).before a s = true := by
  simp only [Bool.and_eq_true, beq_iff_eq, Bool.not_eq_true', decide_eq_true_eq] at h5
  obtain ⟨⟨⟨⟨⟨g1, g2⟩, g3⟩, g4⟩, g5⟩, g6⟩ := h5
  simp [Cond.before, Cond.holds, Cond.value, h1, h2, h3, h4, g1, g2, g3, g4, g5, g6]
def isCode : Jvm.Cond → Bool
  | .code _ _ _ _ => true
  | _ => false
theorem all_split {L : List Jvm.Cond} {P : Jvm.Cond → Bool} (h1 : L.all (fun c => isCode c || P c) = true) (h2 : ∀ c ∈ L.filter isCode, P c = true) : L.all P = true := by
  refine List.all_eq_true.mpr fun c hc => ?_
  have h := List.all_eq_true.mp h1 c hc
  rcases Bool.eq_false_or_eq_true (isCode c) with hi | hi
  · exact h2 c (List.mem_filter.mpr ⟨hc, hi⟩)
  · simpa [hi] using h
set_option maxRecDepth 65536 in
theorem w_c0 : (Jvm.Cond.code x code maxLocals ret).before args0 about1 = true := code_word (m := ⟨1, 1⟩) (meth := k1m1) (c := k1c1) (by decide +kernel) rfl rfl rfl (by decide +kernel)
set_option maxRecDepth 65536 in
theorem w_c1 : (Jvm.Cond.code ({ cls := "com/example/pankti/pankti/protocol/ByteWindow", name := "<init>", desc := "()V" } : Jvm.MethodName) prog_50_method_1_code (1 : Nat) (Option.none : Option Jvm.ClassFile.FieldType)).before args0 about1 = true := code_word (m := ⟨2, 0⟩) (meth := k2m0) (c := k2c0) (by decide +kernel) rfl rfl rfl (by decide +kernel)
set_option maxRecDepth 65536 in
theorem w_c2 : (Jvm.Cond.code ({ cls := "java/lang/Object", name := "<init>", desc := "()V" } : Jvm.MethodName) object_method_1_code (1 : Nat) (Option.none : Option Jvm.ClassFile.FieldType)).before args0 about1 = true := code_word (m := ⟨0, 0⟩) (meth := k0m0) (c := k0c0) (by decide +kernel) rfl rfl rfl (by decide +kernel)
set_option maxRecDepth 65536 in
theorem w_c3 : (Jvm.Cond.code ({ cls := "com/example/pankti/pankti/protocol/ByteWindow", name := "release", desc := "(I)V" } : Jvm.MethodName) prog_50_method_6_code (2 : Nat) (Option.none : Option Jvm.ClassFile.FieldType)).before args0 about1 = true := code_word (m := ⟨2, 1⟩) (meth := k2m1) (c := k2c1) (by decide +kernel) rfl rfl rfl (by decide +kernel)
def codes1 : List Jvm.Cond := [Jvm.Cond.code x code maxLocals ret, Jvm.Cond.code ({ cls := "com/example/pankti/pankti/protocol/ByteWindow", name := "<init>", desc := "()V" } : Jvm.MethodName) prog_50_method_1_code (1 : Nat) (Option.none : Option Jvm.ClassFile.FieldType), Jvm.Cond.code ({ cls := "java/lang/Object", name := "<init>", desc := "()V" } : Jvm.MethodName) object_method_1_code (1 : Nat) (Option.none : Option Jvm.ClassFile.FieldType), Jvm.Cond.code ({ cls := "com/example/pankti/pankti/protocol/ByteWindow", name := "release", desc := "(I)V" } : Jvm.MethodName) prog_50_method_6_code (2 : Nat) (Option.none : Option Jvm.ClassFile.FieldType)]
set_option maxRecDepth 65536 in
theorem codes_eq : words1.filter isCode = codes1 := rfl
theorem w_codes : ∀ c ∈ words1.filter isCode, c.before args0 about1 = true := by
  rw [codes_eq]
  intro c hc
  simp only [codes1, List.mem_cons, List.not_mem_nil, or_false] at hc
  rcases hc with rfl | rfl | rfl | rfl
  · exact w_c0
  · exact w_c1
  · exact w_c2
  · exact w_c3
set_option maxRecDepth 65536 in
theorem w_t1 : (words1.take 24).all (fun c => isCode c || c.before args0 about1) = true := by decide +kernel
set_option maxRecDepth 65536 in
theorem w_t2 : (words1.drop 24).all (fun c => isCode c || c.before args0 about1) = true := by decide +kernel
theorem w_tables : (allAtoms (Jvm.Cond.code x code maxLocals ret :: tables_1)).before args0 about1 = true := by
  rw [allAtoms_all]
  show words1.all (fun c => c.before args0 about1) = true
  refine all_split ?_ w_codes
  rw [← List.take_append_drop 24 words1, List.all_append, w_t1, w_t2]
  rfl
set_option maxRecDepth 65536 in
theorem w_case : (Jvm.Cond.and given_1 narrow_1).before args0 about1 = true := by decide +kernel
theorem w_applies : (headSpec (Jvm.Cond.code x code maxLocals ret :: tables_1) room_1).applies x e0.platform about1 = true :=
  (Spec.applies_iff w_frames).mpr ⟨w_running, w_runnable, w_alone, w_named, w_hears, w_ripe, w_room, w_tables⟩
theorem atStart : AtStart classFile x code maxLocals ret World_1 tables_1 room_1 Calls_1 rest_1 Pre_1 launch0 p0 e0 about1 theMethod args0 below0 :=
  ⟨lists_1, trivial, launch0.admits_env _ _ _, launch0.least_env, fairChoices_fair.cas, fairChoices_fair.clock, w_frames, w_args, w_heap, w_applies, trivial, trivial, w_case⟩
end start1
theorem witness_1 : WitnessClaimed_1 := ⟨start1.p0, start1.e0, start1.about1, start1.theMethod, start1.args0, start1.below0, start1.atStart⟩
end Jvm.Pilot.@@N@@
