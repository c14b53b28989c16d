import JvmDerived
import JvmDerived.Pilot.@@N@@Statement
import JvmDerived.Pilot.@@N@@Code
set_option linter.unusedVariables false
set_option linter.unusedSimpArgs false
namespace Jvm.RoadKit
open Sem ClassFile Op Lib Jvm.Stand Jvm.Free Jvm.LawKit
section New
variable {p : Program} {l : Launch} {e : Env} {R : Room} {s : State} {m : MethodId} {args : Array Value} {below : List Frame} {meth : Method} {c : Code} {T : State} {locs : List Loc} {cells slots : Nat}
theorem retI (X : Stand p l e R s m args below meth c T locs cells slots) (hx : p.tables.exec = Jvm.exec) {pc : Nat} {Ls : Array Slot} {z : Int32} {rest : List Value} (hret : meth.sig.returnType = some .int) (hd : decode c.code pc = .ok (.ireturn, 1)) {fs : List Frame}
    (hl : ∀ (f : JFrame) (acts : List Action), f.method = m → f.locked = none → f.entered = [] → (doReturn e (T.setTop f) acts (some (.int z))).1 = T.setFrames fs) : Steps p.tables e below (T.setTop (mkF m pc Ls (.int z :: rest))) (T.setFrames fs) := by
  have hm' : T.vm.method? m = some meth := X.method'
  have hn : narrow .int (.int z) = .int z := rfl
  show Steps p.tables e below (T.setTop { method := m, pc := pc, locals := Ls, stack := _ :: rest, locked := none }) _
  jvm_step X.here [X.here.top, hx, hd, hm', hret, hn]
  first | (intro acts; rw [hl _ acts rfl rfl rfl]) | rw [hl _ _ rfl rfl rfl]
  exact Steps.refl _
end New
/-- the run comes, from the state U, to an end at which Q holds -/
def Go (tb : Tables) (e : Env) (below : List Frame) (Q : Outcome → State → Prop) (U : State) : Prop := ∃ s₂ o, Steps tb e below U s₂ ∧ s₂.status = .running ∧ Ended s₂ below o ∧ Q o s₂
theorem Go.on {tb : Tables} {e : Env} {below : List Frame} {Q : Outcome → State → Prop} {A B : State} (h : ∀ t, Steps tb e below B t → Steps tb e below A t) (k : Go tb e below Q B) : Go tb e below Q A := by
  obtain ⟨s₂, o, h1, h2⟩ := k
  exact ⟨s₂, o, h _ h1, h2⟩
end Jvm.RoadKit
namespace Jvm.Pilot.@@N@@
open Jvm Jvm.ClassFile Sem Op Lib Jvm.Free Jvm.Stand Jvm.LawKit Jvm.RoadKit Bundle Jvm.Pilot.@@N@@.Jvm.D
theorem d1_0 : decode prog_17_method_1_code 0 = .ok (.aload_n 0, 1) := by decide +kernel
theorem d1_1 : decode prog_17_method_1_code 1 = .ok (.invokespecial 3, 3) := by decide +kernel
theorem d1_4 : decode prog_17_method_1_code 4 = .ok (.aload_n 0, 1) := by decide +kernel
theorem d1_5 : decode prog_17_method_1_code 5 = .ok (.iload_n 1, 1) := by decide +kernel
theorem d1_6 : decode prog_17_method_1_code 6 = .ok (.putfield 9, 3) := by decide +kernel
theorem d1_9 : decode prog_17_method_1_code 9 = .ok (.aload_n 0, 1) := by decide +kernel
theorem d1_10 : decode prog_17_method_1_code 10 = .ok (.lload_n 2, 1) := by decide +kernel
theorem d1_11 : decode prog_17_method_1_code 11 = .ok (.putfield 13, 3) := by decide +kernel
theorem d1_14 : decode prog_17_method_1_code 14 = .ok (.aload_n 0, 1) := by decide +kernel
theorem d1_15 : decode prog_17_method_1_code 15 = .ok (.lload 4, 2) := by decide +kernel
theorem d1_17 : decode prog_17_method_1_code 17 = .ok (.putfield 17, 3) := by decide +kernel
theorem d1_20 : decode prog_17_method_1_code 20 = .ok (.aload_n 0, 1) := by decide +kernel
theorem d1_21 : decode prog_17_method_1_code 21 = .ok (.iload 6, 2) := by decide +kernel
theorem d1_23 : decode prog_17_method_1_code 23 = .ok (.putfield 20, 3) := by decide +kernel
theorem d1_26 : decode prog_17_method_1_code 26 = .ok (.aload_n 0, 1) := by decide +kernel
theorem d1_27 : decode prog_17_method_1_code 27 = .ok (.iload 7, 2) := by decide +kernel
theorem d1_29 : decode prog_17_method_1_code 29 = .ok (.putfield 24, 3) := by decide +kernel
theorem d1_32 : decode prog_17_method_1_code 32 = .ok (.return_, 1) := by decide +kernel
theorem pn_2 : plainName "com/example/pankti/pankti/engine/JobId" = true := by first | (simp [plainName, overriddenIn]; done) | decide +kernel
theorem ef_rini (m : MethodId) (a1 : Addr) (p2 : Int32) (q3 : Int64) (q4 : Int64) (p5 : Int32) (p6 : Int32) : entryFrame m #[(.ref a1), (.int p2), (.long q3), (.long q4), (.int p5), (.int p6)] 8 = mkF m 0 #[.val (.ref a1), .val (.int p2), .val (.long q3), .second, .val (.long q4), .second, .val (.int p5), .val (.int p6)] [] := by first | (simp [entryFrame, mkF, argsToLocals, Value.category]; done) | rfl
def Q_rini (Z : State) (a1 : Addr) (p2 : Int32) (q3 : Int64) (q4 : Int64) (p5 : Int32) (p6 : Int32) (h0 : Heap) (n0 : Nat) (v : Option Value) (h : Heap) (L : List Loc) : Prop := v = none ∧ Fr n0 L ∧ Keep h0 h [a1] ∧ Exa Z h a1 "com/example/pankti/pankti/engine/JobId" ∧ Fld Z h a1 "com/example/pankti/pankti/engine/JobId" "node" "I" (.int p2) ∧ Fld Z h a1 "com/example/pankti/pankti/engine/JobId" "randomHigh" "J" (.long q3) ∧ Fld Z h a1 "com/example/pankti/pankti/engine/JobId" "randomMiddle" "J" (.long q4) ∧ Fld Z h a1 "com/example/pankti/pankti/engine/JobId" "randomLow" "S" (.int (nar .short p5)) ∧ Fld Z h a1 "com/example/pankti/pankti/engine/JobId" "ttlField" "S" (.int (nar .short p6))
set_option maxRecDepth 65536 in
set_option maxHeartbeats 40000000 in
theorem rini (l : Launch) (Z : State) (a0 : Array Value) (hw : ∀ d ∈ tables_1, d.before a0 Z = true) (ws : List Jvm.Cond) (a1 : Addr) (p2 : Int32) (q3 : Int64) (q4 : Int64) (p5 : Int32) (p6 : Int32) (h0 : Heap) (n0 : Nat) (Z0 : n0 ≤ h0.size) (E1 : Exa Z h0 a1 "com/example/pankti/pankti/engine/JobId") (F_node : Fld Z h0 a1 "com/example/pankti/pankti/engine/JobId" "node" "I" (.int (0 : Int32))) (F_randomHigh : Fld Z h0 a1 "com/example/pankti/pankti/engine/JobId" "randomHigh" "J" (.long (0 : Int64))) (F_randomMiddle : Fld Z h0 a1 "com/example/pankti/pankti/engine/JobId" "randomMiddle" "J" (.long (0 : Int64))) (F_randomLow : Fld Z h0 a1 "com/example/pankti/pankti/engine/JobId" "randomLow" "S" (.int (0 : Int32))) (F_ttlField : Fld Z h0 a1 "com/example/pankti/pankti/engine/JobId" "ttlField" "S" (.int (0 : Int32))) (g1 : n0 ≤ a1) :
    MetFree l (⟨"com/example/pankti/pankti/engine/JobId", "<init>", "(IJJSS)V"⟩ : MethodName) (head1 (Jvm.Cond.code (⟨"com/example/pankti/pankti/engine/JobId", "<init>", "(IJJSS)V"⟩ : MethodName) prog_17_method_1_code 8 none :: ws) ({ frames := 1, cells := 0, slots := 0, locals := 12 } : Room)) (fun a U => a = #[(.ref a1), (.int p2), (.long q3), (.long q4), (.int p5), (.int p6)] ∧ Z.Warmed39 U.vm ∧ U.heap = h0) (fun _ _ _ _ _ => True) (fun _ U o U' => ∃ v L, o = .returned v ∧ Q_rini Z a1 p2 q3 q4 p5 p6 h0 n0 v U'.heap L ∧ FrameEnd U o U' L ({ frames := 1, cells := 0, slots := 0, locals := 12 } : Room).cells ({ frames := 1, cells := 0, slots := 0, locals := 12 } : Room).slots) := by
  refine MetFree.of_bodySF (plainFor_of_name pn_2) hisR ?_
  intro p e s m args below meth c s₁ Bd hml0 hP hK
  obtain ⟨rfl, hZ, hh⟩ := hP
  have hx := Bd.exec
  have hby := Bd.bytes
  have hml : c.maxLocals = 8 := hml0
  have hown : s.vm.findClass "com/example/pankti/pankti/engine/JobId" = some m.cls := findClass_of_methodNamed Bd.named
  have hnm := (name_of_methodNamed Bd.named Bd.method).1
  have X0 : Stand p l e ({ frames := 1, cells := 0, slots := 0, locals := 12 } : Room) s m #[(.ref a1), (.int p2), (.long q3), (.long q4), (.int p5), (.int p6)] below meth c s₁ [] 0 0 := Stand.of_body Bd
  have e0 : s₁.heap = h0 := by rw [← hh, Bd.state]; rfl
  have N0 := Fr.nil n0
  have pre0 : ∀ t, Steps p.tables e below (s₁.setTop (mkF m 0 #[.val (.ref a1), .val (.int p2), .val (.long q3), .second, .val (.long q4), .second, .val (.int p5), .val (.int p6)] [])) t → Steps p.tables e below (s₁.setTop (entryFrame m #[(.ref a1), (.int p2), (.long q3), (.long q4), (.int p5), (.int p6)] 8)) t := fun t k => castTop (ef_rini m a1 p2 q3 q4 p5 p6) k
  change Go p.tables e below (fun o U' => ∃ v L, o = .returned v ∧ Q_rini Z a1 p2 q3 q4 p5 p6 h0 n0 v U'.heap L ∧ FrameEnd s o U' L ({ frames := 1, cells := 0, slots := 0, locals := 12 } : Room).cells ({ frames := 1, cells := 0, slots := 0, locals := 12 } : Room).slots) (s₁.setTop (entryFrame m #[(.ref a1), (.int p2), (.long q3), (.long q4), (.int p5), (.int p6)] 8))
  have K0 := Keep.refl h0 [a1]
  refine Go.on pre0 ?_
  refine Go.on (B := s₁.setTop (mkF m 1 #[.val (.ref a1), .val (.int p2), .val (.long q3), .second, .val (.long q4), .second, .val (.int p5), .val (.int p6)] [(.ref a1)])) (fun t k => XS.aloadN X0.here hx rfl (hb hby d1_0) rfl rfl k) ?_
  obtain ⟨T1, X1, e1, st1⟩ := initO X0 hx hZ hown (hw _ (List.mem_of_getElem? (i := 6) rfl)) (hw _ (List.mem_of_getElem? (i := 7) rfl)) (hw _ (List.mem_of_getElem? (i := 8) rfl)) e0 (g := (mkF m 1 #[.val (.ref a1), .val (.int p2), .val (.long q3), .second, .val (.long q4), .second, .val (.int p5), .val (.int p6)] [(.ref a1)])) rfl (by rw [hml]; rfl) rfl (hb hby d1_1) (by decide) (W := 0) (by show 2 * 0 + _ ≤ _; exact Nat.le_of_eq rfl) (by decide)
  refine Go.on (B := T1.setTop (mkF m 4 #[.val (.ref a1), .val (.int p2), .val (.long q3), .second, .val (.long q4), .second, .val (.int p5), .val (.int p6)] [])) (fun t k => st1 _ k) ?_
  refine Go.on (B := T1.setTop (mkF m 5 #[.val (.ref a1), .val (.int p2), .val (.long q3), .second, .val (.long q4), .second, .val (.int p5), .val (.int p6)] [(.ref a1)])) (fun t k => XS.aloadN X1.here hx rfl (hb hby d1_4) rfl rfl k) ?_
  refine Go.on (B := T1.setTop (mkF m 6 #[.val (.ref a1), .val (.int p2), .val (.long q3), .second, .val (.long q4), .second, .val (.int p5), .val (.int p6)] [(.int p2), (.ref a1)])) (fun t k => XS.iloadN X1.here hx rfl (hb hby d1_5) rfl k) ?_
  obtain ⟨T2, h2, X2, e2, W2, st2⟩ := putF X1 hx hZ hown (host := "") (Or.inl (hw _ (List.mem_of_getElem? (i := 9) rfl))) Via.refl e1 F_node E1 (Or.inr ⟨(hw _ (List.mem_of_getElem? (i := 10) rfl)), rfl, hnm⟩) (hw _ (List.mem_of_getElem? (i := 1) rfl)) (ty := .int) (by decide) rfl rfl (g := (mkF m 6 #[.val (.ref a1), .val (.int p2), .val (.long q3), .second, .val (.long q4), .second, .val (.int p5), .val (.int p6)] [(.int p2), (.ref a1)])) rfl rfl (hb hby d1_6)
  have N2 := Fr.snoc X2 N0 g1
  have Fw2 := F_node.same W2
  have f1 := E1.wr W2
  have f2 := F_randomHigh.other W2 (Or.inr (slot_ne (Or.inr (hw _ (List.mem_of_getElem? (i := 12) rfl))) (Or.inr (hw _ (List.mem_of_getElem? (i := 10) rfl))) (by decide) (t := .long) (t' := .int) (by decide) (by decide)))
  have f3 := F_randomMiddle.other W2 (Or.inr (slot_ne (Or.inr (hw _ (List.mem_of_getElem? (i := 14) rfl))) (Or.inr (hw _ (List.mem_of_getElem? (i := 10) rfl))) (by decide) (t := .long) (t' := .int) (by decide) (by decide)))
  have f4 := F_randomLow.other W2 (Or.inr (slot_ne (Or.inr (hw _ (List.mem_of_getElem? (i := 16) rfl))) (Or.inr (hw _ (List.mem_of_getElem? (i := 10) rfl))) (by decide) (t := .short) (t' := .int) (by decide) (by decide)))
  have f5 := F_ttlField.other W2 (Or.inr (slot_ne (Or.inr (hw _ (List.mem_of_getElem? (i := 18) rfl))) (Or.inr (hw _ (List.mem_of_getElem? (i := 10) rfl))) (by decide) (t := .short) (t' := .int) (by decide) (by decide)))
  have Zs6 := Nat.le_trans Z0 (Keep.of_wr W2).1
  have K7 := K0.wr W2 (Or.inl (List.mem_of_getElem? (i := 0) rfl))
  refine Go.on (B := T2.setTop (mkF m 9 #[.val (.ref a1), .val (.int p2), .val (.long q3), .second, .val (.long q4), .second, .val (.int p5), .val (.int p6)] [])) (fun t k => st2 _ k) ?_
  refine Go.on (B := T2.setTop (mkF m 10 #[.val (.ref a1), .val (.int p2), .val (.long q3), .second, .val (.long q4), .second, .val (.int p5), .val (.int p6)] [(.ref a1)])) (fun t k => XS.aloadN X2.here hx rfl (hb hby d1_9) rfl rfl k) ?_
  refine Go.on (B := T2.setTop (mkF m 11 #[.val (.ref a1), .val (.int p2), .val (.long q3), .second, .val (.long q4), .second, .val (.int p5), .val (.int p6)] [(.long q3), (.ref a1)])) (fun t k => XS.lloadN X2.here hx rfl (hb hby d1_10) rfl k) ?_
  obtain ⟨T3, h3, X3, e3, W3, st3⟩ := putF X2 hx hZ hown (host := "") (Or.inl (hw _ (List.mem_of_getElem? (i := 11) rfl))) Via.refl e2 f2 f1 (Or.inr ⟨(hw _ (List.mem_of_getElem? (i := 12) rfl)), rfl, hnm⟩) (hw _ (List.mem_of_getElem? (i := 1) rfl)) (ty := .long) (by decide) rfl rfl (g := (mkF m 11 #[.val (.ref a1), .val (.int p2), .val (.long q3), .second, .val (.long q4), .second, .val (.int p5), .val (.int p6)] [(.long q3), (.ref a1)])) rfl rfl (hb hby d1_11)
  have N3 := Fr.snoc X3 N2 g1
  have Fw3 := f2.same W3
  have f8 := f1.wr W3
  have f9 := Fw2.other W3 (Or.inr (slot_ne (Or.inr (hw _ (List.mem_of_getElem? (i := 10) rfl))) (Or.inr (hw _ (List.mem_of_getElem? (i := 12) rfl))) (by decide) (t := .int) (t' := .long) (by decide) (by decide)))
  have f10 := f3.other W3 (Or.inr (slot_ne (Or.inr (hw _ (List.mem_of_getElem? (i := 14) rfl))) (Or.inr (hw _ (List.mem_of_getElem? (i := 12) rfl))) (by decide) (t := .long) (t' := .long) (by decide) (by decide)))
  have f11 := f4.other W3 (Or.inr (slot_ne (Or.inr (hw _ (List.mem_of_getElem? (i := 16) rfl))) (Or.inr (hw _ (List.mem_of_getElem? (i := 12) rfl))) (by decide) (t := .short) (t' := .long) (by decide) (by decide)))
  have f12 := f5.other W3 (Or.inr (slot_ne (Or.inr (hw _ (List.mem_of_getElem? (i := 18) rfl))) (Or.inr (hw _ (List.mem_of_getElem? (i := 12) rfl))) (by decide) (t := .short) (t' := .long) (by decide) (by decide)))
  have Zs13 := Nat.le_trans Zs6 (Keep.of_wr W3).1
  have K14 := K7.wr W3 (Or.inl (List.mem_of_getElem? (i := 0) rfl))
  refine Go.on (B := T3.setTop (mkF m 14 #[.val (.ref a1), .val (.int p2), .val (.long q3), .second, .val (.long q4), .second, .val (.int p5), .val (.int p6)] [])) (fun t k => st3 _ k) ?_
  refine Go.on (B := T3.setTop (mkF m 15 #[.val (.ref a1), .val (.int p2), .val (.long q3), .second, .val (.long q4), .second, .val (.int p5), .val (.int p6)] [(.ref a1)])) (fun t k => XS.aloadN X3.here hx rfl (hb hby d1_14) rfl rfl k) ?_
  refine Go.on (B := T3.setTop (mkF m 17 #[.val (.ref a1), .val (.int p2), .val (.long q3), .second, .val (.long q4), .second, .val (.int p5), .val (.int p6)] [(.long q4), (.ref a1)])) (fun t k => XS.lload X3.here hx rfl (hb hby d1_15) rfl k) ?_
  obtain ⟨T4, h4, X4, e4, W4, st4⟩ := putF X3 hx hZ hown (host := "") (Or.inl (hw _ (List.mem_of_getElem? (i := 13) rfl))) Via.refl e3 f10 f8 (Or.inr ⟨(hw _ (List.mem_of_getElem? (i := 14) rfl)), rfl, hnm⟩) (hw _ (List.mem_of_getElem? (i := 1) rfl)) (ty := .long) (by decide) rfl rfl (g := (mkF m 17 #[.val (.ref a1), .val (.int p2), .val (.long q3), .second, .val (.long q4), .second, .val (.int p5), .val (.int p6)] [(.long q4), (.ref a1)])) rfl rfl (hb hby d1_17)
  have N4 := Fr.snoc X4 N3 g1
  have Fw4 := f10.same W4
  have f15 := f8.wr W4
  have f16 := f9.other W4 (Or.inr (slot_ne (Or.inr (hw _ (List.mem_of_getElem? (i := 10) rfl))) (Or.inr (hw _ (List.mem_of_getElem? (i := 14) rfl))) (by decide) (t := .int) (t' := .long) (by decide) (by decide)))
  have f17 := Fw3.other W4 (Or.inr (slot_ne (Or.inr (hw _ (List.mem_of_getElem? (i := 12) rfl))) (Or.inr (hw _ (List.mem_of_getElem? (i := 14) rfl))) (by decide) (t := .long) (t' := .long) (by decide) (by decide)))
  have f18 := f11.other W4 (Or.inr (slot_ne (Or.inr (hw _ (List.mem_of_getElem? (i := 16) rfl))) (Or.inr (hw _ (List.mem_of_getElem? (i := 14) rfl))) (by decide) (t := .short) (t' := .long) (by decide) (by decide)))
  have f19 := f12.other W4 (Or.inr (slot_ne (Or.inr (hw _ (List.mem_of_getElem? (i := 18) rfl))) (Or.inr (hw _ (List.mem_of_getElem? (i := 14) rfl))) (by decide) (t := .short) (t' := .long) (by decide) (by decide)))
  have Zs20 := Nat.le_trans Zs13 (Keep.of_wr W4).1
  have K21 := K14.wr W4 (Or.inl (List.mem_of_getElem? (i := 0) rfl))
  refine Go.on (B := T4.setTop (mkF m 20 #[.val (.ref a1), .val (.int p2), .val (.long q3), .second, .val (.long q4), .second, .val (.int p5), .val (.int p6)] [])) (fun t k => st4 _ k) ?_
  refine Go.on (B := T4.setTop (mkF m 21 #[.val (.ref a1), .val (.int p2), .val (.long q3), .second, .val (.long q4), .second, .val (.int p5), .val (.int p6)] [(.ref a1)])) (fun t k => XS.aloadN X4.here hx rfl (hb hby d1_20) rfl rfl k) ?_
  refine Go.on (B := T4.setTop (mkF m 23 #[.val (.ref a1), .val (.int p2), .val (.long q3), .second, .val (.long q4), .second, .val (.int p5), .val (.int p6)] [(.int p5), (.ref a1)])) (fun t k => XS.iload X4.here hx rfl (hb hby d1_21) rfl k) ?_
  obtain ⟨T5, h5, X5, e5, W5, st5⟩ := putFN X4 hx hZ hown (hw _ (List.mem_of_getElem? (i := 15) rfl)) Via.refl e4 f18 f15 (Or.inr ⟨(hw _ (List.mem_of_getElem? (i := 16) rfl)), rfl, hnm⟩) (hw _ (List.mem_of_getElem? (i := 1) rfl)) (ty := .short) (v' := (.int (nar .short p5))) (by decide) rfl (fits_nar_short _) (g := (mkF m 23 #[.val (.ref a1), .val (.int p2), .val (.long q3), .second, .val (.long q4), .second, .val (.int p5), .val (.int p6)] [(.int p5), (.ref a1)])) rfl rfl (hb hby d1_23)
  have N5 := Fr.snoc X5 N4 g1
  have Fw5 := f18.same W5
  have f22 := f15.wr W5
  have f23 := f16.other W5 (Or.inr (slot_ne (Or.inr (hw _ (List.mem_of_getElem? (i := 10) rfl))) (Or.inr (hw _ (List.mem_of_getElem? (i := 16) rfl))) (by decide) (t := .int) (t' := .short) (by decide) (by decide)))
  have f24 := f17.other W5 (Or.inr (slot_ne (Or.inr (hw _ (List.mem_of_getElem? (i := 12) rfl))) (Or.inr (hw _ (List.mem_of_getElem? (i := 16) rfl))) (by decide) (t := .long) (t' := .short) (by decide) (by decide)))
  have f25 := Fw4.other W5 (Or.inr (slot_ne (Or.inr (hw _ (List.mem_of_getElem? (i := 14) rfl))) (Or.inr (hw _ (List.mem_of_getElem? (i := 16) rfl))) (by decide) (t := .long) (t' := .short) (by decide) (by decide)))
  have f26 := f19.other W5 (Or.inr (slot_ne (Or.inr (hw _ (List.mem_of_getElem? (i := 18) rfl))) (Or.inr (hw _ (List.mem_of_getElem? (i := 16) rfl))) (by decide) (t := .short) (t' := .short) (by decide) (by decide)))
  have Zs27 := Nat.le_trans Zs20 (Keep.of_wr W5).1
  have K28 := K21.wr W5 (Or.inl (List.mem_of_getElem? (i := 0) rfl))
  refine Go.on (B := T5.setTop (mkF m 26 #[.val (.ref a1), .val (.int p2), .val (.long q3), .second, .val (.long q4), .second, .val (.int p5), .val (.int p6)] [])) (fun t k => st5 _ k) ?_
  refine Go.on (B := T5.setTop (mkF m 27 #[.val (.ref a1), .val (.int p2), .val (.long q3), .second, .val (.long q4), .second, .val (.int p5), .val (.int p6)] [(.ref a1)])) (fun t k => XS.aloadN X5.here hx rfl (hb hby d1_26) rfl rfl k) ?_
  refine Go.on (B := T5.setTop (mkF m 29 #[.val (.ref a1), .val (.int p2), .val (.long q3), .second, .val (.long q4), .second, .val (.int p5), .val (.int p6)] [(.int p6), (.ref a1)])) (fun t k => XS.iload X5.here hx rfl (hb hby d1_27) rfl k) ?_
  obtain ⟨T6, h6, X6, e6, W6, st6⟩ := putFN X5 hx hZ hown (hw _ (List.mem_of_getElem? (i := 17) rfl)) Via.refl e5 f26 f22 (Or.inr ⟨(hw _ (List.mem_of_getElem? (i := 18) rfl)), rfl, hnm⟩) (hw _ (List.mem_of_getElem? (i := 1) rfl)) (ty := .short) (v' := (.int (nar .short p6))) (by decide) rfl (fits_nar_short _) (g := (mkF m 29 #[.val (.ref a1), .val (.int p2), .val (.long q3), .second, .val (.long q4), .second, .val (.int p5), .val (.int p6)] [(.int p6), (.ref a1)])) rfl rfl (hb hby d1_29)
  have N6 := Fr.snoc X6 N5 g1
  have Fw6 := f26.same W6
  have f29 := f22.wr W6
  have f30 := f23.other W6 (Or.inr (slot_ne (Or.inr (hw _ (List.mem_of_getElem? (i := 10) rfl))) (Or.inr (hw _ (List.mem_of_getElem? (i := 18) rfl))) (by decide) (t := .int) (t' := .short) (by decide) (by decide)))
  have f31 := f24.other W6 (Or.inr (slot_ne (Or.inr (hw _ (List.mem_of_getElem? (i := 12) rfl))) (Or.inr (hw _ (List.mem_of_getElem? (i := 18) rfl))) (by decide) (t := .long) (t' := .short) (by decide) (by decide)))
  have f32 := f25.other W6 (Or.inr (slot_ne (Or.inr (hw _ (List.mem_of_getElem? (i := 14) rfl))) (Or.inr (hw _ (List.mem_of_getElem? (i := 18) rfl))) (by decide) (t := .long) (t' := .short) (by decide) (by decide)))
  have f33 := Fw5.other W6 (Or.inr (slot_ne (Or.inr (hw _ (List.mem_of_getElem? (i := 16) rfl))) (Or.inr (hw _ (List.mem_of_getElem? (i := 18) rfl))) (by decide) (t := .short) (t' := .short) (by decide) (by decide)))
  have Zs34 := Nat.le_trans Zs27 (Keep.of_wr W6).1
  have K35 := K28.wr W6 (Or.inl (List.mem_of_getElem? (i := 0) rfl))
  refine Go.on (B := T6.setTop (mkF m 32 #[.val (.ref a1), .val (.int p2), .val (.long q3), .second, .val (.long q4), .second, .val (.int p5), .val (.int p6)] [])) (fun t k => st6 _ k) ?_
  obtain ⟨fs, hr, hrun, hended, hW, hsame⟩ := X6.leave (v := none) (fun _ => rfl)
  refine ⟨_, _, ?_, hrun, hended, _, _, rfl, ?_, ⟨_, rfl⟩, hW, hsame.mono (by decide) (by decide)⟩
  · exact X6.returnOut hx Bd.returns (hb hby d1_32) hr
  · show Q_rini Z a1 p2 q3 q4 p5 p6 h0 n0 _ T6.heap _
    rw [e6]
    exact ⟨rfl, N6, K35, f29, f30, f31, f32, f33, Fw6⟩
theorem d6_0 : decode jdk_18_method_1_code 0 = .ok (.aload_n 0, 1) := by decide +kernel
theorem d6_1 : decode jdk_18_method_1_code 1 = .ok (.invokespecial 1, 3) := by decide +kernel
theorem d6_4 : decode jdk_18_method_1_code 4 = .ok (.return_, 1) := by decide +kernel
theorem pn_4 : plainName "java/lang/Number" = true := by first | (simp [plainName, overriddenIn]; done) | decide +kernel
theorem ef_rnum (m : MethodId) (a1 : Addr) : entryFrame m #[(.ref a1)] 1 = mkF m 0 #[.val (.ref a1)] [] := by first | (simp [entryFrame, mkF, argsToLocals, Value.category]; done) | rfl
def Q_rnum (Z : State) (a1 : Addr) (h0 : Heap) (n0 : Nat) (v : Option Value) (h : Heap) (L : List Loc) : Prop := v = none ∧ Fr n0 L ∧ h = h0
set_option maxRecDepth 65536 in
set_option maxHeartbeats 40000000 in
theorem rnum (l : Launch) (Z : State) (a0 : Array Value) (hw : ∀ d ∈ tables_1, d.before a0 Z = true) (ws : List Jvm.Cond) (a1 : Addr) (h0 : Heap) (n0 : Nat) (Z0 : n0 ≤ h0.size)  :
    MetFree l (⟨"java/lang/Number", "<init>", "()V"⟩ : MethodName) (head1 (Jvm.Cond.code (⟨"java/lang/Number", "<init>", "()V"⟩ : MethodName) jdk_18_method_1_code 1 none :: ws) ({ frames := 1, cells := 0, slots := 0, locals := 12 } : Room)) (fun a U => a = #[(.ref a1)] ∧ Z.Warmed39 U.vm ∧ U.heap = h0) (fun _ _ _ _ _ => True) (fun _ U o U' => ∃ v L, o = .returned v ∧ Q_rnum Z a1 h0 n0 v U'.heap L ∧ FrameEnd U o U' L ({ frames := 1, cells := 0, slots := 0, locals := 12 } : Room).cells ({ frames := 1, cells := 0, slots := 0, locals := 12 } : Room).slots) := by
  refine MetFree.of_bodySF (plainFor_of_name pn_4) hisR ?_
  intro p e s m args below meth c s₁ Bd hml0 hP hK
  obtain ⟨rfl, hZ, hh⟩ := hP
  have hx := Bd.exec
  have hby := Bd.bytes
  have hml : c.maxLocals = 1 := hml0
  have hown : s.vm.findClass "java/lang/Number" = some m.cls := findClass_of_methodNamed Bd.named
  have hnm := (name_of_methodNamed Bd.named Bd.method).1
  have X0 : Stand p l e ({ frames := 1, cells := 0, slots := 0, locals := 12 } : Room) s m #[(.ref a1)] below meth c s₁ [] 0 0 := Stand.of_body Bd
  have e0 : s₁.heap = h0 := by rw [← hh, Bd.state]; rfl
  have N0 := Fr.nil n0
  have pre0 : ∀ t, Steps p.tables e below (s₁.setTop (mkF m 0 #[.val (.ref a1)] [])) t → Steps p.tables e below (s₁.setTop (entryFrame m #[(.ref a1)] 1)) t := fun t k => castTop (ef_rnum m a1) k
  change Go p.tables e below (fun o U' => ∃ v L, o = .returned v ∧ Q_rnum Z a1 h0 n0 v U'.heap L ∧ FrameEnd s o U' L ({ frames := 1, cells := 0, slots := 0, locals := 12 } : Room).cells ({ frames := 1, cells := 0, slots := 0, locals := 12 } : Room).slots) (s₁.setTop (entryFrame m #[(.ref a1)] 1))
  refine Go.on pre0 ?_
  refine Go.on (B := s₁.setTop (mkF m 1 #[.val (.ref a1)] [(.ref a1)])) (fun t k => XS.aloadN X0.here hx rfl (hb hby d6_0) rfl rfl k) ?_
  obtain ⟨T1, X1, e1, st1⟩ := initO X0 hx hZ hown (hw _ (List.mem_of_getElem? (i := 44) rfl)) (hw _ (List.mem_of_getElem? (i := 7) rfl)) (hw _ (List.mem_of_getElem? (i := 8) rfl)) e0 (g := (mkF m 1 #[.val (.ref a1)] [(.ref a1)])) rfl (by rw [hml]; rfl) rfl (hb hby d6_1) (by decide) (W := 0) (by show 2 * 0 + _ ≤ _; exact Nat.le_of_eq rfl) (by decide)
  refine Go.on (B := T1.setTop (mkF m 4 #[.val (.ref a1)] [])) (fun t k => st1 _ k) ?_
  obtain ⟨fs, hr, hrun, hended, hW, hsame⟩ := X1.leave (v := none) (fun _ => rfl)
  refine ⟨_, _, ?_, hrun, hended, _, _, rfl, ?_, ⟨_, rfl⟩, hW, hsame.mono (by decide) (by decide)⟩
  · exact X1.returnOut hx Bd.returns (hb hby d6_4) hr
  · show Q_rnum Z a1 h0 n0 _ T1.heap _
    rw [e1]
    exact ⟨rfl, N0, rfl⟩
theorem d5_0 : decode jdk_35_method_26_code 0 = .ok (.aload_n 0, 1) := by decide +kernel
theorem d5_1 : decode jdk_35_method_26_code 1 = .ok (.invokespecial 270, 3) := by decide +kernel
theorem d5_4 : decode jdk_35_method_26_code 4 = .ok (.aload_n 0, 1) := by decide +kernel
theorem d5_5 : decode jdk_35_method_26_code 5 = .ok (.lload_n 1, 1) := by decide +kernel
theorem d5_6 : decode jdk_35_method_26_code 6 = .ok (.putfield 273, 3) := by decide +kernel
theorem d5_9 : decode jdk_35_method_26_code 9 = .ok (.return_, 1) := by decide +kernel
theorem pd_0 : parseMethodDescriptor "()V" = some ⟨[], none⟩ := by decide +kernel
theorem pn_7 : plainName "java/lang/Long" = true := by first | (simp [plainName, overriddenIn]; done) | decide +kernel
theorem ef_rli (m : MethodId) (a1 : Addr) (q2 : Int64) : entryFrame m #[(.ref a1), (.long q2)] 3 = mkF m 0 #[.val (.ref a1), .val (.long q2), .second] [] := by first | (simp [entryFrame, mkF, argsToLocals, Value.category]; done) | rfl
def Q_rli (Z : State) (a1 : Addr) (q2 : Int64) (h0 : Heap) (n0 : Nat) (v : Option Value) (h : Heap) (L : List Loc) : Prop := v = none ∧ Fr n0 L ∧ Keep h0 h [a1] ∧ Exa Z h a1 "java/lang/Long" ∧ Fld Z h a1 "java/lang/Long" "value" "J" (.long q2)
set_option maxRecDepth 65536 in
set_option maxHeartbeats 40000000 in
theorem rli (l : Launch) (Z : State) (a0 : Array Value) (hw : ∀ d ∈ tables_1, d.before a0 Z = true) (ws : List Jvm.Cond) (a1 : Addr) (q2 : Int64) (h0 : Heap) (n0 : Nat) (Z0 : n0 ≤ h0.size) (E1 : Exa Z h0 a1 "java/lang/Long") (F1 : Fld Z h0 a1 "java/lang/Long" "value" "J" (.long (0 : Int64))) (g1 : n0 ≤ a1) :
    MetFree l (⟨"java/lang/Long", "<init>", "(J)V"⟩ : MethodName) (head1 (Jvm.Cond.code (⟨"java/lang/Long", "<init>", "(J)V"⟩ : MethodName) jdk_35_method_26_code 3 none :: ws) ({ frames := 2, cells := 0, slots := 0, locals := 24 } : Room)) (fun a U => a = #[(.ref a1), (.long q2)] ∧ Z.Warmed39 U.vm ∧ U.heap = h0) (fun _ _ _ _ _ => True) (fun _ U o U' => ∃ v L, o = .returned v ∧ Q_rli Z a1 q2 h0 n0 v U'.heap L ∧ FrameEnd U o U' L ({ frames := 2, cells := 0, slots := 0, locals := 24 } : Room).cells ({ frames := 2, cells := 0, slots := 0, locals := 24 } : Room).slots) := by
  refine MetFree.of_bodySF (plainFor_of_name pn_7) hisR ?_
  intro p e s m args below meth c s₁ Bd hml0 hP hK
  obtain ⟨rfl, hZ, hh⟩ := hP
  have hx := Bd.exec
  have hby := Bd.bytes
  have hml : c.maxLocals = 3 := hml0
  have hown : s.vm.findClass "java/lang/Long" = some m.cls := findClass_of_methodNamed Bd.named
  have hnm := (name_of_methodNamed Bd.named Bd.method).1
  have X0 : Stand p l e ({ frames := 2, cells := 0, slots := 0, locals := 24 } : Room) s m #[(.ref a1), (.long q2)] below meth c s₁ [] 0 0 := Stand.of_body Bd
  have e0 : s₁.heap = h0 := by rw [← hh, Bd.state]; rfl
  have N0 := Fr.nil n0
  have pre0 : ∀ t, Steps p.tables e below (s₁.setTop (mkF m 0 #[.val (.ref a1), .val (.long q2), .second] [])) t → Steps p.tables e below (s₁.setTop (entryFrame m #[(.ref a1), (.long q2)] 3)) t := fun t k => castTop (ef_rli m a1 q2) k
  change Go p.tables e below (fun o U' => ∃ v L, o = .returned v ∧ Q_rli Z a1 q2 h0 n0 v U'.heap L ∧ FrameEnd s o U' L ({ frames := 2, cells := 0, slots := 0, locals := 24 } : Room).cells ({ frames := 2, cells := 0, slots := 0, locals := 24 } : Room).slots) (s₁.setTop (entryFrame m #[(.ref a1), (.long q2)] 3))
  have K0 := Keep.refl h0 [a1]
  refine Go.on pre0 ?_
  refine Go.on (B := s₁.setTop (mkF m 1 #[.val (.ref a1), .val (.long q2), .second] [(.ref a1)])) (fun t k => XS.aloadN X0.here hx rfl (hb hby d5_0) rfl rfl k) ?_
  obtain ⟨_, _, ⟨T1, L1, k1, n1⟩, -, X1, ⟨Lc1, hQ1, l1, y1, z1⟩, st1⟩ := X0.specialBack hx (y := (⟨"java/lang/Number", "<init>", "()V"⟩ : MethodName)) rfl hown (mvT hZ (hw _ (List.mem_of_getElem? (i := 38) rfl))) (mvT hZ (hw _ (List.mem_of_getElem? (i := 39) rfl))) (mvT hZ (hw _ (List.mem_of_getElem? (i := 43) rfl))) (by decide) (backOf (W := 0) (rnum l Z a0 hw [] a1 h0 n0 Z0) hZ (hw _ (List.mem_of_getElem? (i := 43) rfl)) (hw _ (List.mem_of_getElem? (i := 42) rfl)) (by decide) (by decide)) (g := (mkF m 1 #[.val (.ref a1), .val (.long q2), .second] [(.ref a1)])) rfl (by rw [hml]; rfl) (Steps.refl _) (a := a1) (argsL := []) (rest := []) (lenOf pd_0 rfl) rfl (by show 2 * 0 + _ ≤ _; exact Nat.le_of_eq rfl) (hb hby d5_1) (fun _ _ => ⟨rfl, e0, (by decide : 0 + 0 ≤ _), (by decide : 0 + 0 ≤ _)⟩)
  dsimp only [Pt.U, Pt.locs, Pt.cells, Pt.slots] at X1 l1 y1 z1 st1 hQ1
  subst l1 y1 z1
  obtain ⟨rfl, N1q, e1q⟩ := hQ1
  have N1 := Fr.app N0 N1q
  refine Go.on (B := T1.setTop (mkF m 4 #[.val (.ref a1), .val (.long q2), .second] [])) (fun t k => st1.trans k) ?_
  refine Go.on (B := T1.setTop (mkF m 5 #[.val (.ref a1), .val (.long q2), .second] [(.ref a1)])) (fun t k => XS.aloadN X1.here hx rfl (hb hby d5_4) rfl rfl k) ?_
  refine Go.on (B := T1.setTop (mkF m 6 #[.val (.ref a1), .val (.long q2), .second] [(.long q2), (.ref a1)])) (fun t k => XS.lloadN X1.here hx rfl (hb hby d5_5) rfl k) ?_
  obtain ⟨T2, h2, X2, e2, W2, st2⟩ := putF X1 hx hZ hown (host := "") (Or.inl (hw _ (List.mem_of_getElem? (i := 45) rfl))) Via.refl e1q F1 E1 (Or.inr ⟨(hw _ (List.mem_of_getElem? (i := 46) rfl)), rfl, hnm⟩) (hw _ (List.mem_of_getElem? (i := 33) rfl)) (ty := .long) (by decide) rfl rfl (g := (mkF m 6 #[.val (.ref a1), .val (.long q2), .second] [(.long q2), (.ref a1)])) rfl rfl (hb hby d5_6)
  have N2 := Fr.snoc X2 N1 g1
  have Fw2 := F1.same W2
  have f1 := E1.wr W2
  have Zs2 := Nat.le_trans Z0 (Keep.of_wr W2).1
  have K3 := K0.wr W2 (Or.inl (List.mem_of_getElem? (i := 0) rfl))
  refine Go.on (B := T2.setTop (mkF m 9 #[.val (.ref a1), .val (.long q2), .second] [])) (fun t k => st2 _ k) ?_
  obtain ⟨fs, hr, hrun, hended, hW, hsame⟩ := X2.leave (v := none) (fun _ => rfl)
  refine ⟨_, _, ?_, hrun, hended, _, _, rfl, ?_, ⟨_, rfl⟩, hW, hsame.mono (by decide) (by decide)⟩
  · exact X2.returnOut hx Bd.returns (hb hby d5_9) hr
  · show Q_rli Z a1 q2 h0 n0 _ T2.heap _
    rw [e2]
    exact ⟨rfl, N2, K3, f1, Fw2⟩
theorem own_ixl (q : Int64) (h1 : ¬ (q < (-128 : Int64))) (h2 : ¬ ((127 : Int64) < q)) : (¬ ((q.toInt32) + (128 : Int32)) < 0 ∧ ((q.toInt32) + (128 : Int32)) < (256 : Int32)) ∧ ((((q.toInt32) + (128 : Int32)) - (128 : Int32)).toInt64) = q := by
  have m1 : (-128 : Int64).toInt = -128 := by decide
  have m2 : (127 : Int64).toInt = 127 := by decide
  have m3 : (128 : Int32).toInt = 128 := by decide
  have m4 : (256 : Int32).toInt = 256 := by decide
  have m5 : (0 : Int32).toInt = 0 := by decide
  rw [Int64.lt_iff_toInt_lt, m1] at h1
  rw [Int64.lt_iff_toInt_lt, m2] at h2
  have k1 := c_l2i q
  have r1 := rng32 q.toInt32
  have k2 := c_iadd q.toInt32 128
  have r2 := rng32 (q.toInt32 + 128)
  have k3 := c_isub (q.toInt32 + 128) 128
  have r3 := rng32 (q.toInt32 + 128 - 128)
  rw [m3] at k2 k3
  refine ⟨⟨?_, ?_⟩, ?_⟩
  · rw [Int32.lt_iff_toInt_lt, m5]; omega
  · rw [Int32.lt_iff_toInt_lt, m4]; omega
  · apply Int64.toInt_inj.mp
    rw [c_i2l]
    omega
theorem d4_0 : decode jdk_35_method_24_code 0 = .ok (.sipush 128, 3) := by decide +kernel
theorem d4_3 : decode jdk_35_method_24_code 3 = .ok (.istore_n 2, 1) := by decide +kernel
theorem d4_4 : decode jdk_35_method_24_code 4 = .ok (.lload_n 0, 1) := by decide +kernel
theorem d4_5 : decode jdk_35_method_24_code 5 = .ok (.ldc2_w 230, 3) := by decide +kernel
theorem d4_8 : decode jdk_35_method_24_code 8 = .ok (.lcmp, 1) := by decide +kernel
theorem d4_9 : decode jdk_35_method_24_code 9 = .ok (.ifCond .lt 22, 3) := by decide +kernel
theorem d4_12 : decode jdk_35_method_24_code 12 = .ok (.lload_n 0, 1) := by decide +kernel
theorem d4_13 : decode jdk_35_method_24_code 13 = .ok (.ldc2_w 232, 3) := by decide +kernel
theorem d4_16 : decode jdk_35_method_24_code 16 = .ok (.lcmp, 1) := by decide +kernel
theorem d4_17 : decode jdk_35_method_24_code 17 = .ok (.ifCond .gt 14, 3) := by decide +kernel
theorem d4_20 : decode jdk_35_method_24_code 20 = .ok (.getstatic 234, 3) := by decide +kernel
theorem d4_23 : decode jdk_35_method_24_code 23 = .ok (.lload_n 0, 1) := by decide +kernel
theorem d4_24 : decode jdk_35_method_24_code 24 = .ok (.l2i, 1) := by decide +kernel
theorem d4_25 : decode jdk_35_method_24_code 25 = .ok (.sipush 128, 3) := by decide +kernel
theorem d4_28 : decode jdk_35_method_24_code 28 = .ok (.iadd, 1) := by decide +kernel
theorem d4_29 : decode jdk_35_method_24_code 29 = .ok (.aaload, 1) := by decide +kernel
theorem d4_30 : decode jdk_35_method_24_code 30 = .ok (.areturn, 1) := by decide +kernel
theorem d4_31 : decode jdk_35_method_24_code 31 = .ok (.new 1, 3) := by decide +kernel
theorem d4_34 : decode jdk_35_method_24_code 34 = .ok (.dup, 1) := by decide +kernel
theorem d4_35 : decode jdk_35_method_24_code 35 = .ok (.lload_n 0, 1) := by decide +kernel
theorem d4_36 : decode jdk_35_method_24_code 36 = .ok (.invokespecial 240, 3) := by decide +kernel
theorem d4_39 : decode jdk_35_method_24_code 39 = .ok (.areturn, 1) := by decide +kernel
theorem pd_1 : parseMethodDescriptor "(J)V" = some ⟨[.long], none⟩ := by decide +kernel
theorem ef_rlv (m : MethodId) (q1 : Int64) : entryFrame m #[(.long q1)] 3 = mkF m 0 #[.val (.long q1), .second, .unset] [] := by first | (simp [entryFrame, mkF, argsToLocals, Value.category]; done) | rfl
def Q_rlv (Z : State) (q1 : Int64) (ca : Addr) (cc : Cell) (h0 : Heap) (n0 : Nat) (v : Option Value) (h : Heap) (L : List Loc) : Prop := (∃ b : Addr, v = some (.ref b) ∧ Exa Z h b "java/lang/Long" ∧ Fld Z h b "java/lang/Long" "value" "J" (.long q1)) ∧ Fr n0 L ∧ Keep h0 h []
set_option maxRecDepth 65536 in
set_option maxHeartbeats 40000000 in
theorem rlv (l : Launch) (Z : State) (a0 : Array Value) (hw : ∀ d ∈ tables_1, d.before a0 Z = true) (ws : List Jvm.Cond) (q1 : Int64) (ca : Addr) (cc : Cell) (h0 : Heap) (n0 : Nat) (Z0 : n0 ≤ h0.size) (O0 : Old Z n0 h0) (S_cache : Sta Z Z.heap "java/lang/Long$LongCache" "cache" "[Ljava/lang/Long;" (.ref ca)) (B_cache : Bxs Z ca cc "java/lang/Long" "J" (256 : Int32) (fun j => .long (j - (128 : Int32)).toInt64)) :
    MetFree l (⟨"java/lang/Long", "valueOf", "(J)Ljava/lang/Long;"⟩ : MethodName) (head1 (Jvm.Cond.code (⟨"java/lang/Long", "valueOf", "(J)Ljava/lang/Long;"⟩ : MethodName) jdk_35_method_24_code 3 (some (.object "java/lang/Long")) :: ws) ({ frames := 3, cells := 1, slots := 1, locals := 40 } : Room)) (fun a U => a = #[(.long q1)] ∧ Z.Warmed39 U.vm ∧ U.heap = h0) (fun _ _ _ _ _ => True) (fun _ U o U' => ∃ v L, o = .returned v ∧ Q_rlv Z q1 ca cc h0 n0 v U'.heap L ∧ FrameEnd U o U' L ({ frames := 3, cells := 1, slots := 1, locals := 40 } : Room).cells ({ frames := 3, cells := 1, slots := 1, locals := 40 } : Room).slots) := by
  refine MetFree.of_bodySF (plainFor_of_name pn_7) hisR ?_
  intro p e s m args below meth c s₁ Bd hml0 hP hK
  obtain ⟨rfl, hZ, hh⟩ := hP
  have hx := Bd.exec
  have hby := Bd.bytes
  have hml : c.maxLocals = 3 := hml0
  have hown : s.vm.findClass "java/lang/Long" = some m.cls := findClass_of_methodNamed Bd.named
  have hnm := (name_of_methodNamed Bd.named Bd.method).1
  have X0 : Stand p l e ({ frames := 3, cells := 1, slots := 1, locals := 40 } : Room) s m #[(.long q1)] below meth c s₁ [] 0 0 := Stand.of_body Bd
  have e0 : s₁.heap = h0 := by rw [← hh, Bd.state]; rfl
  have N0 := Fr.nil n0
  have pre0 : ∀ t, Steps p.tables e below (s₁.setTop (mkF m 0 #[.val (.long q1), .second, .unset] [])) t → Steps p.tables e below (s₁.setTop (entryFrame m #[(.long q1)] 3)) t := fun t k => castTop (ef_rlv m q1) k
  change Go p.tables e below (fun o U' => ∃ v L, o = .returned v ∧ Q_rlv Z q1 ca cc h0 n0 v U'.heap L ∧ FrameEnd s o U' L ({ frames := 3, cells := 1, slots := 1, locals := 40 } : Room).cells ({ frames := 3, cells := 1, slots := 1, locals := 40 } : Room).slots) (s₁.setTop (entryFrame m #[(.long q1)] 3))
  have K0 := Keep.refl h0 []
  have S0 := S_cache.ext O0.2
  refine Go.on pre0 ?_
  refine Go.on (B := s₁.setTop (mkF m 3 #[.val (.long q1), .second, .unset] [(.int (128 : Int32))])) (fun t k => XS.sipush X0.here hx rfl (hb hby d4_0) k) ?_
  refine Go.on (B := s₁.setTop (mkF m 4 #[.val (.long q1), .second, .val (.int (128 : Int32))] [])) (fun t k => XS.istoreN X0.here hx rfl (hb hby d4_3) rfl (l' := #[.val (.long q1), .second, .val (.int (128 : Int32))]) rfl k) ?_
  refine Go.on (B := s₁.setTop (mkF m 5 #[.val (.long q1), .second, .val (.int (128 : Int32))] [(.long q1)])) (fun t k => XS.lloadN X0.here hx rfl (hb hby d4_4) rfl k) ?_
  refine Go.on (B := s₁.setTop (mkF m 8 #[.val (.long q1), .second, .val (.int (128 : Int32))] [(.long (-128 : Int64)), (.long q1)])) (fun t k => X0.ldc2Long hx hown (mvT hZ (hw _ (List.mem_of_getElem? (i := 30) rfl))) (g := (mkF m 5 #[.val (.long q1), .second, .val (.int (128 : Int32))] [(.long q1)])) rfl (hb hby d4_5) _ k) ?_
  refine Go.on (B := s₁.setTop (mkF m 9 #[.val (.long q1), .second, .val (.int (128 : Int32))] [(.int (lcmpW q1 (-128 : Int64)))])) (fun t k => XS.lcmp X0.here hx rfl (hb hby d4_8) rfl k) ?_
  by_cases hc9_2 : q1 < (-128 : Int64)
  · refine Go.on (B := s₁.setTop (mkF m 31 #[.val (.long q1), .second, .val (.int (128 : Int32))] [])) (fun t k => XS.ifYes X0.here hx rfl (pc0 := 9) (pc' := 31) rfl (hb hby d4_9) rfl ((if0 _ _).trans (tlt ((lw_lt _ _).mpr hc9_2)).1) (by decide) (by decide) k) ?_
    obtain ⟨T3, h3, X3, e3, E3, A3, D3, -, st3⟩ := newO X0 hx hZ hown (hw _ (List.mem_of_getElem? (i := 32) rfl)) (hw _ (List.mem_of_getElem? (i := 33) rfl)) (hw _ (List.mem_of_getElem? (i := 28) rfl)) e0 (g := (mkF m 31 #[.val (.long q1), .second, .val (.int (128 : Int32))] [])) rfl (hb hby d4_31) (by decide) (by decide)
    obtain ⟨b3, g3⟩ : ∃ z, z = h0.size := ⟨_, rfl⟩
    rw [← g3] at A3 D3 st3
    have ge_b3 : n0 ≤ b3 := Nat.le_trans Z0 (Nat.le_of_eq g3.symm)
    have sz_b3 : h0.size ≤ b3 := Nat.le_trans K0.1 (Nat.le_of_eq g3.symm)
    have f1 := S0.ext E3
    have Zs2 := Nat.le_trans Z0 E3.1
    have K3 := K0.ext E3
    have F3_value : Fld Z h3 b3 "java/lang/Long" "value" "J" (.long (0 : Int64)) := D3 (Or.inr (hw _ (List.mem_of_getElem? (i := 46) rfl))) (ty := .long) (by decide)
    refine Go.on (B := T3.setTop (mkF m 34 #[.val (.long q1), .second, .val (.int (128 : Int32))] [(.ref b3)])) (fun t k => st3 _ k) ?_
    refine Go.on (B := T3.setTop (mkF m 35 #[.val (.long q1), .second, .val (.int (128 : Int32))] [(.ref b3), (.ref b3)])) (fun t k => XS.dup X3.here hx rfl (hb hby d4_34) rfl rfl k) ?_
    refine Go.on (B := T3.setTop (mkF m 36 #[.val (.long q1), .second, .val (.int (128 : Int32))] [(.long q1), (.ref b3), (.ref b3)])) (fun t k => XS.lloadN X3.here hx rfl (hb hby d4_35) rfl k) ?_
    obtain ⟨_, _, ⟨T4, L4, k4, n4⟩, -, X4, ⟨Lc4, hQ4, l4, y4, z4⟩, st4⟩ := X3.specialBack hx (y := (⟨"java/lang/Long", "<init>", "(J)V"⟩ : MethodName)) rfl hown (mvT hZ (hw _ (List.mem_of_getElem? (i := 34) rfl))) (mvT hZ (hw _ (List.mem_of_getElem? (i := 35) rfl))) (mvT hZ (hw _ (List.mem_of_getElem? (i := 37) rfl))) (by decide) (backOf (W := 1) (rli l Z a0 hw [] b3 q1 h3 n0 Zs2 A3 F3_value ge_b3) hZ (hw _ (List.mem_of_getElem? (i := 37) rfl)) (hw _ (List.mem_of_getElem? (i := 28) rfl)) (by decide) (by decide)) (g := (mkF m 36 #[.val (.long q1), .second, .val (.int (128 : Int32))] [(.long q1), (.ref b3), (.ref b3)])) rfl (by rw [hml]; rfl) (Steps.refl _) (a := b3) (argsL := [(.long q1)]) (rest := [(.ref b3)]) (lenOf pd_1 rfl) rfl (by show 2 * 0 + _ ≤ _; exact Nat.le_of_eq rfl) (hb hby d4_36) (fun _ _ => ⟨rfl, e3, (by decide : 1 + 0 ≤ _), (by decide : 1 + 0 ≤ _)⟩)
    dsimp only [Pt.U, Pt.locs, Pt.cells, Pt.slots] at X4 l4 y4 z4 st4 hQ4
    subst l4 y4 z4
    obtain ⟨rfl, N4q, K4q, G4_0, G4_1⟩ := hQ4
    have N4 := Fr.app N0 N4q
    have f4 := A3.keep K4q
    have Zs5 := Nat.le_trans Zs2 K4q.1
    have K6 := K3.trans K4q (allS (Or.inr sz_b3) all0)
    refine Go.on (B := T4.setTop (mkF m 39 #[.val (.long q1), .second, .val (.int (128 : Int32))] [(.ref b3)])) (fun t k => st4.trans k) ?_
    obtain ⟨fs, hr, hrun, hended, hW, hsame⟩ := X4.leave (v := some (.ref b3)) (fun h => by rw [Bd.returns] at h; cases h)
    refine ⟨_, _, ?_, hrun, hended, _, _, rfl, ?_, ⟨_, rfl⟩, hW, hsame.mono (by decide) (by decide)⟩
    · exact retOut X4 hx Bd.returns rfl (Or.inr (Or.inr (Or.inr (Or.inr ⟨rfl, rfl, rfl⟩)))) (hb hby d4_39) hr
    · show Q_rlv Z q1 ca cc h0 n0 _ T4.heap _
      exact ⟨⟨_, rfl, G4_0, G4_1⟩, N4, K6⟩
  · refine Go.on (B := s₁.setTop (mkF m 12 #[.val (.long q1), .second, .val (.int (128 : Int32))] [])) (fun t k => XS.ifNo X0.here hx rfl (hb hby d4_9) rfl ((if0 _ _).trans (flt (mt (lw_lt _ _).mp hc9_2)).1) k) ?_
    refine Go.on (B := s₁.setTop (mkF m 13 #[.val (.long q1), .second, .val (.int (128 : Int32))] [(.long q1)])) (fun t k => XS.lloadN X0.here hx rfl (hb hby d4_12) rfl k) ?_
    refine Go.on (B := s₁.setTop (mkF m 16 #[.val (.long q1), .second, .val (.int (128 : Int32))] [(.long (127 : Int64)), (.long q1)])) (fun t k => X0.ldc2Long hx hown (mvT hZ (hw _ (List.mem_of_getElem? (i := 31) rfl))) (g := (mkF m 13 #[.val (.long q1), .second, .val (.int (128 : Int32))] [(.long q1)])) rfl (hb hby d4_13) _ k) ?_
    refine Go.on (B := s₁.setTop (mkF m 17 #[.val (.long q1), .second, .val (.int (128 : Int32))] [(.int (lcmpW q1 (127 : Int64)))])) (fun t k => XS.lcmp X0.here hx rfl (hb hby d4_16) rfl k) ?_
    by_cases hc17_5 : (127 : Int64) < q1
    · refine Go.on (B := s₁.setTop (mkF m 31 #[.val (.long q1), .second, .val (.int (128 : Int32))] [])) (fun t k => XS.ifYes X0.here hx rfl (pc0 := 17) (pc' := 31) rfl (hb hby d4_17) rfl ((if0 _ _).trans (tlt ((lw_gt _ _).mpr hc17_5)).2.2.1) (by decide) (by decide) k) ?_
      obtain ⟨T6, h6, X6, e6, E6, A6, D6, -, st6⟩ := newO X0 hx hZ hown (hw _ (List.mem_of_getElem? (i := 32) rfl)) (hw _ (List.mem_of_getElem? (i := 33) rfl)) (hw _ (List.mem_of_getElem? (i := 28) rfl)) e0 (g := (mkF m 31 #[.val (.long q1), .second, .val (.int (128 : Int32))] [])) rfl (hb hby d4_31) (by decide) (by decide)
      obtain ⟨b6, g6⟩ : ∃ z, z = h0.size := ⟨_, rfl⟩
      rw [← g6] at A6 D6 st6
      have ge_b6 : n0 ≤ b6 := Nat.le_trans Z0 (Nat.le_of_eq g6.symm)
      have sz_b6 : h0.size ≤ b6 := Nat.le_trans K0.1 (Nat.le_of_eq g6.symm)
      have f7 := S0.ext E6
      have Zs8 := Nat.le_trans Z0 E6.1
      have K9 := K0.ext E6
      have F6_value : Fld Z h6 b6 "java/lang/Long" "value" "J" (.long (0 : Int64)) := D6 (Or.inr (hw _ (List.mem_of_getElem? (i := 46) rfl))) (ty := .long) (by decide)
      refine Go.on (B := T6.setTop (mkF m 34 #[.val (.long q1), .second, .val (.int (128 : Int32))] [(.ref b6)])) (fun t k => st6 _ k) ?_
      refine Go.on (B := T6.setTop (mkF m 35 #[.val (.long q1), .second, .val (.int (128 : Int32))] [(.ref b6), (.ref b6)])) (fun t k => XS.dup X6.here hx rfl (hb hby d4_34) rfl rfl k) ?_
      refine Go.on (B := T6.setTop (mkF m 36 #[.val (.long q1), .second, .val (.int (128 : Int32))] [(.long q1), (.ref b6), (.ref b6)])) (fun t k => XS.lloadN X6.here hx rfl (hb hby d4_35) rfl k) ?_
      obtain ⟨_, _, ⟨T7, L7, k7, n7⟩, -, X7, ⟨Lc7, hQ7, l7, y7, z7⟩, st7⟩ := X6.specialBack hx (y := (⟨"java/lang/Long", "<init>", "(J)V"⟩ : MethodName)) rfl hown (mvT hZ (hw _ (List.mem_of_getElem? (i := 34) rfl))) (mvT hZ (hw _ (List.mem_of_getElem? (i := 35) rfl))) (mvT hZ (hw _ (List.mem_of_getElem? (i := 37) rfl))) (by decide) (backOf (W := 1) (rli l Z a0 hw [] b6 q1 h6 n0 Zs8 A6 F6_value ge_b6) hZ (hw _ (List.mem_of_getElem? (i := 37) rfl)) (hw _ (List.mem_of_getElem? (i := 28) rfl)) (by decide) (by decide)) (g := (mkF m 36 #[.val (.long q1), .second, .val (.int (128 : Int32))] [(.long q1), (.ref b6), (.ref b6)])) rfl (by rw [hml]; rfl) (Steps.refl _) (a := b6) (argsL := [(.long q1)]) (rest := [(.ref b6)]) (lenOf pd_1 rfl) rfl (by show 2 * 0 + _ ≤ _; exact Nat.le_of_eq rfl) (hb hby d4_36) (fun _ _ => ⟨rfl, e6, (by decide : 1 + 0 ≤ _), (by decide : 1 + 0 ≤ _)⟩)
      dsimp only [Pt.U, Pt.locs, Pt.cells, Pt.slots] at X7 l7 y7 z7 st7 hQ7
      subst l7 y7 z7
      obtain ⟨rfl, N7q, K7q, G7_0, G7_1⟩ := hQ7
      have N7 := Fr.app N0 N7q
      have f10 := A6.keep K7q
      have Zs11 := Nat.le_trans Zs8 K7q.1
      have K12 := K9.trans K7q (allS (Or.inr sz_b6) all0)
      refine Go.on (B := T7.setTop (mkF m 39 #[.val (.long q1), .second, .val (.int (128 : Int32))] [(.ref b6)])) (fun t k => st7.trans k) ?_
      obtain ⟨fs, hr, hrun, hended, hW, hsame⟩ := X7.leave (v := some (.ref b6)) (fun h => by rw [Bd.returns] at h; cases h)
      refine ⟨_, _, ?_, hrun, hended, _, _, rfl, ?_, ⟨_, rfl⟩, hW, hsame.mono (by decide) (by decide)⟩
      · exact retOut X7 hx Bd.returns rfl (Or.inr (Or.inr (Or.inr (Or.inr ⟨rfl, rfl, rfl⟩)))) (hb hby d4_39) hr
      · show Q_rlv Z q1 ca cc h0 n0 _ T7.heap _
        exact ⟨⟨_, rfl, G7_0, G7_1⟩, N7, K12⟩
    · refine Go.on (B := s₁.setTop (mkF m 20 #[.val (.long q1), .second, .val (.int (128 : Int32))] [])) (fun t k => XS.ifNo X0.here hx rfl (hb hby d4_17) rfl ((if0 _ _).trans (flt (mt (lw_gt _ _).mp hc17_5)).2.2.1) k) ?_
      obtain ⟨T8, X8, e8, st8⟩ := getS2 X0 hx hZ hown (host := "") (Or.inl (hw _ (List.mem_of_getElem? (i := 50) rfl))) Via.refl e0 S0 (g := (mkF m 20 #[.val (.long q1), .second, .val (.int (128 : Int32))] [])) rfl (hb hby d4_20)
      refine Go.on (B := T8.setTop (mkF m 23 #[.val (.long q1), .second, .val (.int (128 : Int32))] [(.ref ca)])) (fun t k => st8 _ k) ?_
      refine Go.on (B := T8.setTop (mkF m 24 #[.val (.long q1), .second, .val (.int (128 : Int32))] [(.long q1), (.ref ca)])) (fun t k => XS.lloadN X8.here hx rfl (hb hby d4_23) rfl k) ?_
      refine Go.on (B := T8.setTop (mkF m 25 #[.val (.long q1), .second, .val (.int (128 : Int32))] [(.int (q1.toInt32)), (.ref ca)])) (fun t k => XS.l2i X8.here hx rfl (hb hby d4_24) rfl k) ?_
      refine Go.on (B := T8.setTop (mkF m 28 #[.val (.long q1), .second, .val (.int (128 : Int32))] [(.int (128 : Int32)), (.int (q1.toInt32)), (.ref ca)])) (fun t k => XS.sipush X8.here hx rfl (hb hby d4_25) k) ?_
      refine Go.on (B := T8.setTop (mkF m 29 #[.val (.long q1), .second, .val (.int (128 : Int32))] [(.int ((q1.toInt32) + (128 : Int32))), (.ref ca)])) (fun t k => XS.iadd X8.here hx rfl (hb hby d4_28) rfl k) ?_
      have hidx := inb_of B_cache.2.1 (own_ixl q1 hc9_2 hc17_5).1
      obtain ⟨box, hbx, Ebx, Fbx⟩ := B_cache.2.2.2 ((q1.toInt32) + (128 : Int32)) hidx
      have Arx := B_cache.1.ext O0.2
      refine Go.on (B := T8.setTop (mkF m 30 #[.val (.long q1), .second, .val (.int (128 : Int32))] [(.ref box)])) (fun t k => X8.aaload hx (j := ((q1.toInt32) + (128 : Int32))) (v := (.ref box)) (by rw [e8]; exact Arx.1) (State.isArrayOf_alike hZ.alike Arx.2.1) rfl Arx.2.2 hidx hbx (g := (mkF m 29 #[.val (.long q1), .second, .val (.int (128 : Int32))] [(.int ((q1.toInt32) + (128 : Int32))), (.ref ca)])) rfl rfl (hb hby d4_29) _ k) ?_
      obtain ⟨fs, hr, hrun, hended, hW, hsame⟩ := X8.leave (v := some (.ref box)) (fun h => by rw [Bd.returns] at h; cases h)
      refine ⟨_, _, ?_, hrun, hended, _, _, rfl, ?_, ⟨_, rfl⟩, hW, hsame.mono (by decide) (by decide)⟩
      · exact retOut X8 hx Bd.returns rfl (Or.inr (Or.inr (Or.inr (Or.inr ⟨rfl, rfl, rfl⟩)))) (hb hby d4_30) hr
      · show Q_rlv Z q1 ca cc h0 n0 _ T8.heap _
        rw [e8]
        exact ⟨⟨_, rfl, (Ebx.ext O0.2), ((congrArg Value.long (own_ixl q1 hc9_2 hc17_5).2) ▸ (Fbx.ext O0.2))⟩, N0, K0⟩
def own_eq (n h m l t n' h' m' l' t' : Int) : Int32 := if n = n' then (if h = h' then (if m = m' then (if l = l' then (if t = t' then (1 : Int32) else (0 : Int32)) else (0 : Int32)) else (0 : Int32)) else (0 : Int32)) else (0 : Int32)
theorem own_notjob {Z : State} {a0 : Array Value} (w1 : (Jvm.Cond.superclass "java/lang/Long" "java/lang/Number").before a0 Z = true) (w2 : (Jvm.Cond.superclass "java/lang/Number" "java/lang/Object").before a0 Z = true) (w3 : (Jvm.Cond.noSuperclass "java/lang/Object").before a0 Z = true) (wi : (Jvm.Cond.instantiable "com/example/pankti/pankti/engine/JobId" 5).before a0 Z = true) :
    ∃ c t, Z.vm.findClass "java/lang/Long" = some c ∧ Z.vm.findClass "com/example/pankti/pankti/engine/JobId" = some t ∧ Z.vm.assignable c t = false := by
  obtain ⟨t, kt, i1, i2, i3, i4, -⟩ := Cond.instantiable_spec wi
  have i5 : kt.isInterface = false := by
    cases hq : kt.isInterface with
    | false => rfl
    | true => simp [hq] at i4
  have root : NS Z "java/lang/Object" "com/example/pankti/pankti/engine/JobId" := by
    obtain ⟨c, k, h1, h2, h3, -, -⟩ := Cond.noSuperclass_spec w3
    have ne := ids_ne h1 i1 (by decide)
    refine ⟨c, t, h1, i1, fun fuel => ?_⟩
    cases fuel with
    | zero => rfl
    | succ f => simp [Vm.isSubclassAux, ne, h2, h3]
  obtain ⟨c, t', h0, g0, n3⟩ := NS.step w1 (NS.step w2 root (by decide)) (by decide)
  cases i1.symm.trans g0
  obtain ⟨p, k, kp, h1, h2, h3, h4, h5, -, h7⟩ := Cond.superclass_spec h0 w1
  have ne := ids_ne h0 g0 (by decide)
  refine ⟨c, t, h0, g0, ?_⟩
  show Z.vm.assignableAux (255 + 1) c t = false
  simp [Vm.assignableAux, ne, h2, i2, h5, i3, i5, Vm.isSubclass, n3]
theorem d3_0 : decode prog_17_method_11_code 0 = .ok (.aload_n 1, 1) := by decide +kernel
theorem d3_1 : decode prog_17_method_11_code 1 = .ok (.instanceof 1, 3) := by decide +kernel
theorem d3_4 : decode prog_17_method_11_code 4 = .ok (.ifCond .eq 11, 3) := by decide +kernel
theorem d3_7 : decode prog_17_method_11_code 7 = .ok (.aload_n 1, 1) := by decide +kernel
theorem d3_8 : decode prog_17_method_11_code 8 = .ok (.checkcast 1, 3) := by decide +kernel
theorem d3_11 : decode prog_17_method_11_code 11 = .ok (.astore_n 2, 1) := by decide +kernel
theorem d3_12 : decode prog_17_method_11_code 12 = .ok (.goto 5, 3) := by decide +kernel
theorem d3_15 : decode prog_17_method_11_code 15 = .ok (.iconst 0, 1) := by decide +kernel
theorem d3_16 : decode prog_17_method_11_code 16 = .ok (.ireturn, 1) := by decide +kernel
theorem d3_17 : decode prog_17_method_11_code 17 = .ok (.aload_n 0, 1) := by decide +kernel
theorem d3_18 : decode prog_17_method_11_code 18 = .ok (.getfield 9, 3) := by decide +kernel
theorem d3_21 : decode prog_17_method_11_code 21 = .ok (.aload_n 2, 1) := by decide +kernel
theorem d3_22 : decode prog_17_method_11_code 22 = .ok (.getfield 9, 3) := by decide +kernel
theorem d3_25 : decode prog_17_method_11_code 25 = .ok (.if_icmp .ne 53, 3) := by decide +kernel
theorem d3_28 : decode prog_17_method_11_code 28 = .ok (.aload_n 0, 1) := by decide +kernel
theorem d3_29 : decode prog_17_method_11_code 29 = .ok (.getfield 13, 3) := by decide +kernel
theorem d3_32 : decode prog_17_method_11_code 32 = .ok (.aload_n 2, 1) := by decide +kernel
theorem d3_33 : decode prog_17_method_11_code 33 = .ok (.getfield 13, 3) := by decide +kernel
theorem d3_36 : decode prog_17_method_11_code 36 = .ok (.lcmp, 1) := by decide +kernel
theorem d3_37 : decode prog_17_method_11_code 37 = .ok (.ifCond .ne 41, 3) := by decide +kernel
theorem d3_40 : decode prog_17_method_11_code 40 = .ok (.aload_n 0, 1) := by decide +kernel
theorem d3_41 : decode prog_17_method_11_code 41 = .ok (.getfield 17, 3) := by decide +kernel
theorem d3_44 : decode prog_17_method_11_code 44 = .ok (.aload_n 2, 1) := by decide +kernel
theorem d3_45 : decode prog_17_method_11_code 45 = .ok (.getfield 17, 3) := by decide +kernel
theorem d3_48 : decode prog_17_method_11_code 48 = .ok (.lcmp, 1) := by decide +kernel
theorem d3_49 : decode prog_17_method_11_code 49 = .ok (.ifCond .ne 29, 3) := by decide +kernel
theorem d3_52 : decode prog_17_method_11_code 52 = .ok (.aload_n 0, 1) := by decide +kernel
theorem d3_53 : decode prog_17_method_11_code 53 = .ok (.getfield 20, 3) := by decide +kernel
theorem d3_56 : decode prog_17_method_11_code 56 = .ok (.aload_n 2, 1) := by decide +kernel
theorem d3_57 : decode prog_17_method_11_code 57 = .ok (.getfield 20, 3) := by decide +kernel
theorem d3_60 : decode prog_17_method_11_code 60 = .ok (.if_icmp .ne 18, 3) := by decide +kernel
theorem d3_63 : decode prog_17_method_11_code 63 = .ok (.aload_n 0, 1) := by decide +kernel
theorem d3_64 : decode prog_17_method_11_code 64 = .ok (.getfield 24, 3) := by decide +kernel
theorem d3_67 : decode prog_17_method_11_code 67 = .ok (.aload_n 2, 1) := by decide +kernel
theorem d3_68 : decode prog_17_method_11_code 68 = .ok (.getfield 24, 3) := by decide +kernel
theorem d3_71 : decode prog_17_method_11_code 71 = .ok (.if_icmp .ne 7, 3) := by decide +kernel
theorem d3_74 : decode prog_17_method_11_code 74 = .ok (.iconst 1, 1) := by decide +kernel
theorem d3_75 : decode prog_17_method_11_code 75 = .ok (.goto 4, 3) := by decide +kernel
theorem d3_78 : decode prog_17_method_11_code 78 = .ok (.iconst 0, 1) := by decide +kernel
theorem d3_79 : decode prog_17_method_11_code 79 = .ok (.ireturn, 1) := by decide +kernel
theorem ef_req0 (m : MethodId) (a1 : Addr) : entryFrame m #[(.ref a1), .null] 3 = mkF m 0 #[.val (.ref a1), .val .null, .unset] [] := by first | (simp [entryFrame, mkF, argsToLocals, Value.category]; done) | rfl
def Q_req0 (Z : State) (a1 : Addr) (h0 : Heap) (n0 : Nat) (v : Option Value) (h : Heap) (L : List Loc) : Prop := v = some (.int (0 : Int32)) ∧ Fr n0 L ∧ h = h0
set_option maxRecDepth 65536 in
set_option maxHeartbeats 40000000 in
theorem req0 (l : Launch) (Z : State) (a0 : Array Value) (hw : ∀ d ∈ tables_1, d.before a0 Z = true) (ws : List Jvm.Cond) (a1 : Addr) (h0 : Heap) (n0 : Nat) (Z0 : n0 ≤ h0.size)  :
    MetFree l (⟨"com/example/pankti/pankti/engine/JobId", "equals", "(Ljava/lang/Object;)Z"⟩ : MethodName) (head1 (Jvm.Cond.code (⟨"com/example/pankti/pankti/engine/JobId", "equals", "(Ljava/lang/Object;)Z"⟩ : MethodName) prog_17_method_11_code 3 (some .boolean) :: ws) ({ frames := 0, cells := 0, slots := 0, locals := 0 } : Room)) (fun a U => a = #[(.ref a1), .null] ∧ Z.Warmed39 U.vm ∧ U.heap = h0) (fun _ _ _ _ _ => True) (fun _ U o U' => ∃ v L, o = .returned v ∧ Q_req0 Z a1 h0 n0 v U'.heap L ∧ FrameEnd U o U' L ({ frames := 0, cells := 0, slots := 0, locals := 0 } : Room).cells ({ frames := 0, cells := 0, slots := 0, locals := 0 } : Room).slots) := by
  refine MetFree.of_bodySF (plainFor_of_name pn_2) hisR ?_
  intro p e s m args below meth c s₁ Bd hml0 hP hK
  obtain ⟨rfl, hZ, hh⟩ := hP
  have hx := Bd.exec
  have hby := Bd.bytes
  have hml : c.maxLocals = 3 := hml0
  have hown : s.vm.findClass "com/example/pankti/pankti/engine/JobId" = some m.cls := findClass_of_methodNamed Bd.named
  have hnm := (name_of_methodNamed Bd.named Bd.method).1
  have X0 : Stand p l e ({ frames := 0, cells := 0, slots := 0, locals := 0 } : Room) s m #[(.ref a1), .null] below meth c s₁ [] 0 0 := Stand.of_body Bd
  have e0 : s₁.heap = h0 := by rw [← hh, Bd.state]; rfl
  have N0 := Fr.nil n0
  have pre0 : ∀ t, Steps p.tables e below (s₁.setTop (mkF m 0 #[.val (.ref a1), .val .null, .unset] [])) t → Steps p.tables e below (s₁.setTop (entryFrame m #[(.ref a1), .null] 3)) t := fun t k => castTop (ef_req0 m a1) k
  change Go p.tables e below (fun o U' => ∃ v L, o = .returned v ∧ Q_req0 Z a1 h0 n0 v U'.heap L ∧ FrameEnd s o U' L ({ frames := 0, cells := 0, slots := 0, locals := 0 } : Room).cells ({ frames := 0, cells := 0, slots := 0, locals := 0 } : Room).slots) (s₁.setTop (entryFrame m #[(.ref a1), .null] 3))
  refine Go.on pre0 ?_
  refine Go.on (B := s₁.setTop (mkF m 1 #[.val (.ref a1), .val .null, .unset] [.null])) (fun t k => XS.aloadN X0.here hx rfl (hb hby d3_0) rfl rfl k) ?_
  refine Go.on (B := s₁.setTop (mkF m 4 #[.val (.ref a1), .val .null, .unset] [(.int (0 : Int32))])) (fun t k => X0.instanceofNull hx (g := (mkF m 1 #[.val (.ref a1), .val .null, .unset] [.null])) rfl rfl (hb hby d3_1) _ k) ?_
  have hc4_1 : (0 : Int32) = (0 : Int32) := by decide
  refine Go.on (B := s₁.setTop (mkF m 15 #[.val (.ref a1), .val .null, .unset] [])) (fun t k => XS.ifYes X0.here hx rfl (pc0 := 4) (pc' := 15) rfl (hb hby d3_4) rfl ((if0 _ _).trans (teq hc4_1).1) (by decide) (by decide) k) ?_
  refine Go.on (B := s₁.setTop (mkF m 16 #[.val (.ref a1), .val .null, .unset] [(.int (0 : Int32))])) (fun t k => XS.iconst X0.here hx rfl (hb hby d3_15) k) ?_
  obtain ⟨fs, hr, hrun, hended, hW, hsame⟩ := X0.leave (v := some (.int (0 : Int32))) (fun h => by rw [Bd.returns] at h; cases h)
  refine ⟨_, _, ?_, hrun, hended, _, _, rfl, ?_, ⟨_, rfl⟩, hW, hsame.mono (by decide) (by decide)⟩
  · exact retN X0 hx (t := .boolean) Bd.returns (by simp) (hb hby d3_16) hr
  · show Q_req0 Z a1 h0 n0 _ s₁.heap _
    rw [e0]
    exact ⟨rfl, N0, rfl⟩

theorem ef_req1 (m : MethodId) (a1 : Addr) (a2 : Addr) : entryFrame m #[(.ref a1), (.ref a2)] 3 = mkF m 0 #[.val (.ref a1), .val (.ref a2), .unset] [] := by first | (simp [entryFrame, mkF, argsToLocals, Value.category]; done) | rfl
def Q_req1 (Z : State) (a1 : Addr) (a2 : Addr) (h0 : Heap) (n0 : Nat) (v : Option Value) (h : Heap) (L : List Loc) : Prop := v = some (.int (0 : Int32)) ∧ Fr n0 L ∧ h = h0
set_option maxRecDepth 65536 in
set_option maxHeartbeats 40000000 in
theorem req1 (l : Launch) (Z : State) (a0 : Array Value) (hw : ∀ d ∈ tables_1, d.before a0 Z = true) (ws : List Jvm.Cond) (a1 : Addr) (a2 : Addr) (h0 : Heap) (n0 : Nat) (Z0 : n0 ≤ h0.size) (E2 : Exa Z h0 a2 "java/lang/Long") :
    MetFree l (⟨"com/example/pankti/pankti/engine/JobId", "equals", "(Ljava/lang/Object;)Z"⟩ : MethodName) (head1 (Jvm.Cond.code (⟨"com/example/pankti/pankti/engine/JobId", "equals", "(Ljava/lang/Object;)Z"⟩ : MethodName) prog_17_method_11_code 3 (some .boolean) :: ws) ({ frames := 0, cells := 0, slots := 0, locals := 0 } : Room)) (fun a U => a = #[(.ref a1), (.ref a2)] ∧ Z.Warmed39 U.vm ∧ U.heap = h0) (fun _ _ _ _ _ => True) (fun _ U o U' => ∃ v L, o = .returned v ∧ Q_req1 Z a1 a2 h0 n0 v U'.heap L ∧ FrameEnd U o U' L ({ frames := 0, cells := 0, slots := 0, locals := 0 } : Room).cells ({ frames := 0, cells := 0, slots := 0, locals := 0 } : Room).slots) := by
  refine MetFree.of_bodySF (plainFor_of_name pn_2) hisR ?_
  intro p e s m args below meth c s₁ Bd hml0 hP hK
  obtain ⟨rfl, hZ, hh⟩ := hP
  have hx := Bd.exec
  have hby := Bd.bytes
  have hml : c.maxLocals = 3 := hml0
  have hown : s.vm.findClass "com/example/pankti/pankti/engine/JobId" = some m.cls := findClass_of_methodNamed Bd.named
  have hnm := (name_of_methodNamed Bd.named Bd.method).1
  have X0 : Stand p l e ({ frames := 0, cells := 0, slots := 0, locals := 0 } : Room) s m #[(.ref a1), (.ref a2)] below meth c s₁ [] 0 0 := Stand.of_body Bd
  have e0 : s₁.heap = h0 := by rw [← hh, Bd.state]; rfl
  have N0 := Fr.nil n0
  have pre0 : ∀ t, Steps p.tables e below (s₁.setTop (mkF m 0 #[.val (.ref a1), .val (.ref a2), .unset] [])) t → Steps p.tables e below (s₁.setTop (entryFrame m #[(.ref a1), (.ref a2)] 3)) t := fun t k => castTop (ef_req1 m a1 a2) k
  change Go p.tables e below (fun o U' => ∃ v L, o = .returned v ∧ Q_req1 Z a1 a2 h0 n0 v U'.heap L ∧ FrameEnd s o U' L ({ frames := 0, cells := 0, slots := 0, locals := 0 } : Room).cells ({ frames := 0, cells := 0, slots := 0, locals := 0 } : Room).slots) (s₁.setTop (entryFrame m #[(.ref a1), (.ref a2)] 3))
  refine Go.on pre0 ?_
  refine Go.on (B := s₁.setTop (mkF m 1 #[.val (.ref a1), .val (.ref a2), .unset] [(.ref a2)])) (fun t k => XS.aloadN X0.here hx rfl (hb hby d3_0) rfl rfl k) ?_
  obtain ⟨T1, X1, e1, st1⟩ := instNo X0 hx hZ hown (hw _ (List.mem_of_getElem? (i := 24) rfl)) e0 E2 (own_notjob (hw _ (List.mem_of_getElem? (i := 47) rfl)) (hw _ (List.mem_of_getElem? (i := 48) rfl)) (hw _ (List.mem_of_getElem? (i := 49) rfl)) (hw _ (List.mem_of_getElem? (i := 1) rfl))) (g := (mkF m 1 #[.val (.ref a1), .val (.ref a2), .unset] [(.ref a2)])) rfl rfl (hb hby d3_1)
  refine Go.on (B := T1.setTop (mkF m 4 #[.val (.ref a1), .val (.ref a2), .unset] [(.int (0 : Int32))])) (fun t k => st1 _ k) ?_
  have hc4_2 : (0 : Int32) = (0 : Int32) := by decide
  refine Go.on (B := T1.setTop (mkF m 15 #[.val (.ref a1), .val (.ref a2), .unset] [])) (fun t k => XS.ifYes X1.here hx rfl (pc0 := 4) (pc' := 15) rfl (hb hby d3_4) rfl ((if0 _ _).trans (teq hc4_2).1) (by decide) (by decide) k) ?_
  refine Go.on (B := T1.setTop (mkF m 16 #[.val (.ref a1), .val (.ref a2), .unset] [(.int (0 : Int32))])) (fun t k => XS.iconst X1.here hx rfl (hb hby d3_15) k) ?_
  obtain ⟨fs, hr, hrun, hended, hW, hsame⟩ := X1.leave (v := some (.int (0 : Int32))) (fun h => by rw [Bd.returns] at h; cases h)
  refine ⟨_, _, ?_, hrun, hended, _, _, rfl, ?_, ⟨_, rfl⟩, hW, hsame.mono (by decide) (by decide)⟩
  · exact retN X1 hx (t := .boolean) Bd.returns (by simp) (hb hby d3_16) hr
  · show Q_req1 Z a1 a2 h0 n0 _ T1.heap _
    rw [e1]
    exact ⟨rfl, N0, rfl⟩

theorem ef_req2 (m : MethodId) (a1 : Addr) (a2 : Addr) : entryFrame m #[(.ref a1), (.ref a2)] 3 = mkF m 0 #[.val (.ref a1), .val (.ref a2), .unset] [] := by first | (simp [entryFrame, mkF, argsToLocals, Value.category]; done) | rfl
def Q_req2 (Z : State) (a1 : Addr) (a2 : Addr) (x1 : Int32) (x2 x3 : Int64) (x4 x5 : Int32) (y1 : Int32) (y2 y3 : Int64) (y4 y5 : Int32) (h0 : Heap) (n0 : Nat) (v : Option Value) (h : Heap) (L : List Loc) : Prop := v = some (.int (own_eq (x1).toInt (x2).toInt (x3).toInt (x4).toInt (x5).toInt (y1).toInt (y2).toInt (y3).toInt (y4).toInt (y5).toInt)) ∧ Fr n0 L ∧ h = h0
set_option maxRecDepth 65536 in
set_option maxHeartbeats 40000000 in
theorem req2 (l : Launch) (Z : State) (a0 : Array Value) (hw : ∀ d ∈ tables_1, d.before a0 Z = true) (ws : List Jvm.Cond) (a1 : Addr) (a2 : Addr) (x1 : Int32) (x2 x3 : Int64) (x4 x5 : Int32) (y1 : Int32) (y2 y3 : Int64) (y4 y5 : Int32) (h0 : Heap) (n0 : Nat) (Z0 : n0 ≤ h0.size) (E2 : Exa Z h0 a2 "com/example/pankti/pankti/engine/JobId") (F_node : Fld Z h0 a1 "com/example/pankti/pankti/engine/JobId" "node" "I" (.int x1)) (G_node : Fld Z h0 a2 "com/example/pankti/pankti/engine/JobId" "node" "I" (.int y1)) (F_randomHigh : Fld Z h0 a1 "com/example/pankti/pankti/engine/JobId" "randomHigh" "J" (.long x2)) (G_randomHigh : Fld Z h0 a2 "com/example/pankti/pankti/engine/JobId" "randomHigh" "J" (.long y2)) (F_randomMiddle : Fld Z h0 a1 "com/example/pankti/pankti/engine/JobId" "randomMiddle" "J" (.long x3)) (G_randomMiddle : Fld Z h0 a2 "com/example/pankti/pankti/engine/JobId" "randomMiddle" "J" (.long y3)) (F_randomLow : Fld Z h0 a1 "com/example/pankti/pankti/engine/JobId" "randomLow" "S" (.int x4)) (G_randomLow : Fld Z h0 a2 "com/example/pankti/pankti/engine/JobId" "randomLow" "S" (.int y4)) (F_ttlField : Fld Z h0 a1 "com/example/pankti/pankti/engine/JobId" "ttlField" "S" (.int x5)) (G_ttlField : Fld Z h0 a2 "com/example/pankti/pankti/engine/JobId" "ttlField" "S" (.int y5)) :
    MetFree l (⟨"com/example/pankti/pankti/engine/JobId", "equals", "(Ljava/lang/Object;)Z"⟩ : MethodName) (head1 (Jvm.Cond.code (⟨"com/example/pankti/pankti/engine/JobId", "equals", "(Ljava/lang/Object;)Z"⟩ : MethodName) prog_17_method_11_code 3 (some .boolean) :: ws) ({ frames := 0, cells := 0, slots := 0, locals := 0 } : Room)) (fun a U => a = #[(.ref a1), (.ref a2)] ∧ Z.Warmed39 U.vm ∧ U.heap = h0) (fun _ _ _ _ _ => True) (fun _ U o U' => ∃ v L, o = .returned v ∧ Q_req2 Z a1 a2 x1 x2 x3 x4 x5 y1 y2 y3 y4 y5 h0 n0 v U'.heap L ∧ FrameEnd U o U' L ({ frames := 0, cells := 0, slots := 0, locals := 0 } : Room).cells ({ frames := 0, cells := 0, slots := 0, locals := 0 } : Room).slots) := by
  refine MetFree.of_bodySF (plainFor_of_name pn_2) hisR ?_
  intro p e s m args below meth c s₁ Bd hml0 hP hK
  obtain ⟨rfl, hZ, hh⟩ := hP
  have hx := Bd.exec
  have hby := Bd.bytes
  have hml : c.maxLocals = 3 := hml0
  have hown : s.vm.findClass "com/example/pankti/pankti/engine/JobId" = some m.cls := findClass_of_methodNamed Bd.named
  have hnm := (name_of_methodNamed Bd.named Bd.method).1
  have X0 : Stand p l e ({ frames := 0, cells := 0, slots := 0, locals := 0 } : Room) s m #[(.ref a1), (.ref a2)] below meth c s₁ [] 0 0 := Stand.of_body Bd
  have e0 : s₁.heap = h0 := by rw [← hh, Bd.state]; rfl
  have N0 := Fr.nil n0
  have pre0 : ∀ t, Steps p.tables e below (s₁.setTop (mkF m 0 #[.val (.ref a1), .val (.ref a2), .unset] [])) t → Steps p.tables e below (s₁.setTop (entryFrame m #[(.ref a1), (.ref a2)] 3)) t := fun t k => castTop (ef_req2 m a1 a2) k
  change Go p.tables e below (fun o U' => ∃ v L, o = .returned v ∧ Q_req2 Z a1 a2 x1 x2 x3 x4 x5 y1 y2 y3 y4 y5 h0 n0 v U'.heap L ∧ FrameEnd s o U' L ({ frames := 0, cells := 0, slots := 0, locals := 0 } : Room).cells ({ frames := 0, cells := 0, slots := 0, locals := 0 } : Room).slots) (s₁.setTop (entryFrame m #[(.ref a1), (.ref a2)] 3))
  refine Go.on pre0 ?_
  refine Go.on (B := s₁.setTop (mkF m 1 #[.val (.ref a1), .val (.ref a2), .unset] [(.ref a2)])) (fun t k => XS.aloadN X0.here hx rfl (hb hby d3_0) rfl rfl k) ?_
  obtain ⟨T1, X1, e1, st1⟩ := instY X0 hx hZ hown (hw _ (List.mem_of_getElem? (i := 24) rfl)) e0 (Ins.self E2) (g := (mkF m 1 #[.val (.ref a1), .val (.ref a2), .unset] [(.ref a2)])) rfl rfl (hb hby d3_1)
  refine Go.on (B := T1.setTop (mkF m 4 #[.val (.ref a1), .val (.ref a2), .unset] [(.int (1 : Int32))])) (fun t k => st1 _ k) ?_
  have hc4_2 : ¬ ((1 : Int32) = (0 : Int32)) := by decide
  refine Go.on (B := T1.setTop (mkF m 7 #[.val (.ref a1), .val (.ref a2), .unset] [])) (fun t k => XS.ifNo X1.here hx rfl (hb hby d3_4) rfl ((if0 _ _).trans (feq hc4_2).1) k) ?_
  refine Go.on (B := T1.setTop (mkF m 8 #[.val (.ref a1), .val (.ref a2), .unset] [(.ref a2)])) (fun t k => XS.aloadN X1.here hx rfl (hb hby d3_7) rfl rfl k) ?_
  obtain ⟨T3, X3, e3, st3⟩ := castY X1 hx hZ hown (hw _ (List.mem_of_getElem? (i := 24) rfl)) e1 (Ins.self E2) (g := (mkF m 8 #[.val (.ref a1), .val (.ref a2), .unset] [(.ref a2)])) rfl rfl (hb hby d3_8)
  refine Go.on (B := T3.setTop (mkF m 11 #[.val (.ref a1), .val (.ref a2), .unset] [(.ref a2)])) (fun t k => st3 _ k) ?_
  refine Go.on (B := T3.setTop (mkF m 12 #[.val (.ref a1), .val (.ref a2), .val (.ref a2)] [])) (fun t k => XS.astoreN X3.here hx rfl (hb hby d3_11) rfl rfl (l' := #[.val (.ref a1), .val (.ref a2), .val (.ref a2)]) rfl k) ?_
  refine Go.on (B := T3.setTop (mkF m 17 #[.val (.ref a1), .val (.ref a2), .val (.ref a2)] [])) (fun t k => XS.goto X3.here hx rfl (pc0 := 12) (pc' := 17) rfl (hb hby d3_12) (by decide) (by decide) k) ?_
  refine Go.on (B := T3.setTop (mkF m 18 #[.val (.ref a1), .val (.ref a2), .val (.ref a2)] [(.ref a1)])) (fun t k => XS.aloadN X3.here hx rfl (hb hby d3_17) rfl rfl k) ?_
  obtain ⟨T4, X4, e4, st4⟩ := getF X3 hx hZ hown (host := "") (Or.inl (hw _ (List.mem_of_getElem? (i := 9) rfl))) Via.refl e3 F_node (g := (mkF m 18 #[.val (.ref a1), .val (.ref a2), .val (.ref a2)] [(.ref a1)])) rfl rfl (hb hby d3_18)
  refine Go.on (B := T4.setTop (mkF m 21 #[.val (.ref a1), .val (.ref a2), .val (.ref a2)] [(.int x1)])) (fun t k => st4 _ k) ?_
  refine Go.on (B := T4.setTop (mkF m 22 #[.val (.ref a1), .val (.ref a2), .val (.ref a2)] [(.ref a2), (.int x1)])) (fun t k => XS.aloadN X4.here hx rfl (hb hby d3_21) rfl rfl k) ?_
  obtain ⟨T5, X5, e5, st5⟩ := getF X4 hx hZ hown (host := "") (Or.inl (hw _ (List.mem_of_getElem? (i := 9) rfl))) Via.refl e4 G_node (g := (mkF m 22 #[.val (.ref a1), .val (.ref a2), .val (.ref a2)] [(.ref a2), (.int x1)])) rfl rfl (hb hby d3_22)
  refine Go.on (B := T5.setTop (mkF m 25 #[.val (.ref a1), .val (.ref a2), .val (.ref a2)] [(.int y1), (.int x1)])) (fun t k => st5 _ k) ?_
  by_cases hc25_6 : x1 = y1
  · refine Go.on (B := T5.setTop (mkF m 28 #[.val (.ref a1), .val (.ref a2), .val (.ref a2)] [])) (fun t k => XS.icmpNo X5.here hx rfl (hb hby d3_25) rfl (teq hc25_6).2 k) ?_
    refine Go.on (B := T5.setTop (mkF m 29 #[.val (.ref a1), .val (.ref a2), .val (.ref a2)] [(.ref a1)])) (fun t k => XS.aloadN X5.here hx rfl (hb hby d3_28) rfl rfl k) ?_
    obtain ⟨T7, X7, e7, st7⟩ := getF X5 hx hZ hown (host := "") (Or.inl (hw _ (List.mem_of_getElem? (i := 11) rfl))) Via.refl e5 F_randomHigh (g := (mkF m 29 #[.val (.ref a1), .val (.ref a2), .val (.ref a2)] [(.ref a1)])) rfl rfl (hb hby d3_29)
    refine Go.on (B := T7.setTop (mkF m 32 #[.val (.ref a1), .val (.ref a2), .val (.ref a2)] [(.long x2)])) (fun t k => st7 _ k) ?_
    refine Go.on (B := T7.setTop (mkF m 33 #[.val (.ref a1), .val (.ref a2), .val (.ref a2)] [(.ref a2), (.long x2)])) (fun t k => XS.aloadN X7.here hx rfl (hb hby d3_32) rfl rfl k) ?_
    obtain ⟨T8, X8, e8, st8⟩ := getF X7 hx hZ hown (host := "") (Or.inl (hw _ (List.mem_of_getElem? (i := 11) rfl))) Via.refl e7 G_randomHigh (g := (mkF m 33 #[.val (.ref a1), .val (.ref a2), .val (.ref a2)] [(.ref a2), (.long x2)])) rfl rfl (hb hby d3_33)
    refine Go.on (B := T8.setTop (mkF m 36 #[.val (.ref a1), .val (.ref a2), .val (.ref a2)] [(.long y2), (.long x2)])) (fun t k => st8 _ k) ?_
    refine Go.on (B := T8.setTop (mkF m 37 #[.val (.ref a1), .val (.ref a2), .val (.ref a2)] [(.int (lcmpW x2 y2))])) (fun t k => XS.lcmp X8.here hx rfl (hb hby d3_36) rfl k) ?_
    by_cases hc37_9 : x2 = y2
    · refine Go.on (B := T8.setTop (mkF m 40 #[.val (.ref a1), .val (.ref a2), .val (.ref a2)] [])) (fun t k => XS.ifNo X8.here hx rfl (hb hby d3_37) rfl ((if0 _ _).trans (teq ((lw_eq _ _).mpr hc37_9)).2) k) ?_
      refine Go.on (B := T8.setTop (mkF m 41 #[.val (.ref a1), .val (.ref a2), .val (.ref a2)] [(.ref a1)])) (fun t k => XS.aloadN X8.here hx rfl (hb hby d3_40) rfl rfl k) ?_
      obtain ⟨T10, X10, e10, st10⟩ := getF X8 hx hZ hown (host := "") (Or.inl (hw _ (List.mem_of_getElem? (i := 13) rfl))) Via.refl e8 F_randomMiddle (g := (mkF m 41 #[.val (.ref a1), .val (.ref a2), .val (.ref a2)] [(.ref a1)])) rfl rfl (hb hby d3_41)
      refine Go.on (B := T10.setTop (mkF m 44 #[.val (.ref a1), .val (.ref a2), .val (.ref a2)] [(.long x3)])) (fun t k => st10 _ k) ?_
      refine Go.on (B := T10.setTop (mkF m 45 #[.val (.ref a1), .val (.ref a2), .val (.ref a2)] [(.ref a2), (.long x3)])) (fun t k => XS.aloadN X10.here hx rfl (hb hby d3_44) rfl rfl k) ?_
      obtain ⟨T11, X11, e11, st11⟩ := getF X10 hx hZ hown (host := "") (Or.inl (hw _ (List.mem_of_getElem? (i := 13) rfl))) Via.refl e10 G_randomMiddle (g := (mkF m 45 #[.val (.ref a1), .val (.ref a2), .val (.ref a2)] [(.ref a2), (.long x3)])) rfl rfl (hb hby d3_45)
      refine Go.on (B := T11.setTop (mkF m 48 #[.val (.ref a1), .val (.ref a2), .val (.ref a2)] [(.long y3), (.long x3)])) (fun t k => st11 _ k) ?_
      refine Go.on (B := T11.setTop (mkF m 49 #[.val (.ref a1), .val (.ref a2), .val (.ref a2)] [(.int (lcmpW x3 y3))])) (fun t k => XS.lcmp X11.here hx rfl (hb hby d3_48) rfl k) ?_
      by_cases hc49_12 : x3 = y3
      · refine Go.on (B := T11.setTop (mkF m 52 #[.val (.ref a1), .val (.ref a2), .val (.ref a2)] [])) (fun t k => XS.ifNo X11.here hx rfl (hb hby d3_49) rfl ((if0 _ _).trans (teq ((lw_eq _ _).mpr hc49_12)).2) k) ?_
        refine Go.on (B := T11.setTop (mkF m 53 #[.val (.ref a1), .val (.ref a2), .val (.ref a2)] [(.ref a1)])) (fun t k => XS.aloadN X11.here hx rfl (hb hby d3_52) rfl rfl k) ?_
        obtain ⟨T13, X13, e13, st13⟩ := getF X11 hx hZ hown (host := "") (Or.inl (hw _ (List.mem_of_getElem? (i := 15) rfl))) Via.refl e11 F_randomLow (g := (mkF m 53 #[.val (.ref a1), .val (.ref a2), .val (.ref a2)] [(.ref a1)])) rfl rfl (hb hby d3_53)
        refine Go.on (B := T13.setTop (mkF m 56 #[.val (.ref a1), .val (.ref a2), .val (.ref a2)] [(.int x4)])) (fun t k => st13 _ k) ?_
        refine Go.on (B := T13.setTop (mkF m 57 #[.val (.ref a1), .val (.ref a2), .val (.ref a2)] [(.ref a2), (.int x4)])) (fun t k => XS.aloadN X13.here hx rfl (hb hby d3_56) rfl rfl k) ?_
        obtain ⟨T14, X14, e14, st14⟩ := getF X13 hx hZ hown (host := "") (Or.inl (hw _ (List.mem_of_getElem? (i := 15) rfl))) Via.refl e13 G_randomLow (g := (mkF m 57 #[.val (.ref a1), .val (.ref a2), .val (.ref a2)] [(.ref a2), (.int x4)])) rfl rfl (hb hby d3_57)
        refine Go.on (B := T14.setTop (mkF m 60 #[.val (.ref a1), .val (.ref a2), .val (.ref a2)] [(.int y4), (.int x4)])) (fun t k => st14 _ k) ?_
        by_cases hc60_15 : x4 = y4
        · refine Go.on (B := T14.setTop (mkF m 63 #[.val (.ref a1), .val (.ref a2), .val (.ref a2)] [])) (fun t k => XS.icmpNo X14.here hx rfl (hb hby d3_60) rfl (teq hc60_15).2 k) ?_
          refine Go.on (B := T14.setTop (mkF m 64 #[.val (.ref a1), .val (.ref a2), .val (.ref a2)] [(.ref a1)])) (fun t k => XS.aloadN X14.here hx rfl (hb hby d3_63) rfl rfl k) ?_
          obtain ⟨T16, X16, e16, st16⟩ := getF X14 hx hZ hown (host := "") (Or.inl (hw _ (List.mem_of_getElem? (i := 17) rfl))) Via.refl e14 F_ttlField (g := (mkF m 64 #[.val (.ref a1), .val (.ref a2), .val (.ref a2)] [(.ref a1)])) rfl rfl (hb hby d3_64)
          refine Go.on (B := T16.setTop (mkF m 67 #[.val (.ref a1), .val (.ref a2), .val (.ref a2)] [(.int x5)])) (fun t k => st16 _ k) ?_
          refine Go.on (B := T16.setTop (mkF m 68 #[.val (.ref a1), .val (.ref a2), .val (.ref a2)] [(.ref a2), (.int x5)])) (fun t k => XS.aloadN X16.here hx rfl (hb hby d3_67) rfl rfl k) ?_
          obtain ⟨T17, X17, e17, st17⟩ := getF X16 hx hZ hown (host := "") (Or.inl (hw _ (List.mem_of_getElem? (i := 17) rfl))) Via.refl e16 G_ttlField (g := (mkF m 68 #[.val (.ref a1), .val (.ref a2), .val (.ref a2)] [(.ref a2), (.int x5)])) rfl rfl (hb hby d3_68)
          refine Go.on (B := T17.setTop (mkF m 71 #[.val (.ref a1), .val (.ref a2), .val (.ref a2)] [(.int y5), (.int x5)])) (fun t k => st17 _ k) ?_
          by_cases hc71_18 : x5 = y5
          · refine Go.on (B := T17.setTop (mkF m 74 #[.val (.ref a1), .val (.ref a2), .val (.ref a2)] [])) (fun t k => XS.icmpNo X17.here hx rfl (hb hby d3_71) rfl (teq hc71_18).2 k) ?_
            refine Go.on (B := T17.setTop (mkF m 75 #[.val (.ref a1), .val (.ref a2), .val (.ref a2)] [(.int (1 : Int32))])) (fun t k => XS.iconst X17.here hx rfl (hb hby d3_74) k) ?_
            refine Go.on (B := T17.setTop (mkF m 79 #[.val (.ref a1), .val (.ref a2), .val (.ref a2)] [(.int (1 : Int32))])) (fun t k => XS.goto X17.here hx rfl (pc0 := 75) (pc' := 79) rfl (hb hby d3_75) (by decide) (by decide) k) ?_
            obtain ⟨fs, hr, hrun, hended, hW, hsame⟩ := X17.leave (v := some (.int (1 : Int32))) (fun h => by rw [Bd.returns] at h; cases h)
            refine ⟨_, _, ?_, hrun, hended, _, _, rfl, ?_, ⟨_, rfl⟩, hW, hsame.mono (by decide) (by decide)⟩
            · exact retN X17 hx (t := .boolean) Bd.returns (by simp) (hb hby d3_79) hr
            · show Q_req2 Z a1 a2 x1 x2 x3 x4 x5 y1 y2 y3 y4 y5 h0 n0 _ T17.heap _
              rw [e17]
              exact ⟨by simp [own_eq, Int32.toInt_inj, Int64.toInt_inj, hc4_2, hc25_6, hc37_9, hc49_12, hc60_15, hc71_18], N0, rfl⟩
          · refine Go.on (B := T17.setTop (mkF m 78 #[.val (.ref a1), .val (.ref a2), .val (.ref a2)] [])) (fun t k => XS.icmpYes X17.here hx rfl (pc0 := 71) (pc' := 78) rfl (hb hby d3_71) rfl (feq hc71_18).2 (by decide) (by decide) k) ?_
            refine Go.on (B := T17.setTop (mkF m 79 #[.val (.ref a1), .val (.ref a2), .val (.ref a2)] [(.int (0 : Int32))])) (fun t k => XS.iconst X17.here hx rfl (hb hby d3_78) k) ?_
            obtain ⟨fs, hr, hrun, hended, hW, hsame⟩ := X17.leave (v := some (.int (0 : Int32))) (fun h => by rw [Bd.returns] at h; cases h)
            refine ⟨_, _, ?_, hrun, hended, _, _, rfl, ?_, ⟨_, rfl⟩, hW, hsame.mono (by decide) (by decide)⟩
            · exact retN X17 hx (t := .boolean) Bd.returns (by simp) (hb hby d3_79) hr
            · show Q_req2 Z a1 a2 x1 x2 x3 x4 x5 y1 y2 y3 y4 y5 h0 n0 _ T17.heap _
              rw [e17]
              exact ⟨by simp [own_eq, Int32.toInt_inj, Int64.toInt_inj, hc4_2, hc25_6, hc37_9, hc49_12, hc60_15, hc71_18], N0, rfl⟩
        · refine Go.on (B := T14.setTop (mkF m 78 #[.val (.ref a1), .val (.ref a2), .val (.ref a2)] [])) (fun t k => XS.icmpYes X14.here hx rfl (pc0 := 60) (pc' := 78) rfl (hb hby d3_60) rfl (feq hc60_15).2 (by decide) (by decide) k) ?_
          refine Go.on (B := T14.setTop (mkF m 79 #[.val (.ref a1), .val (.ref a2), .val (.ref a2)] [(.int (0 : Int32))])) (fun t k => XS.iconst X14.here hx rfl (hb hby d3_78) k) ?_
          obtain ⟨fs, hr, hrun, hended, hW, hsame⟩ := X14.leave (v := some (.int (0 : Int32))) (fun h => by rw [Bd.returns] at h; cases h)
          refine ⟨_, _, ?_, hrun, hended, _, _, rfl, ?_, ⟨_, rfl⟩, hW, hsame.mono (by decide) (by decide)⟩
          · exact retN X14 hx (t := .boolean) Bd.returns (by simp) (hb hby d3_79) hr
          · show Q_req2 Z a1 a2 x1 x2 x3 x4 x5 y1 y2 y3 y4 y5 h0 n0 _ T14.heap _
            rw [e14]
            exact ⟨by simp [own_eq, Int32.toInt_inj, Int64.toInt_inj, hc4_2, hc25_6, hc37_9, hc49_12, hc60_15], N0, rfl⟩
      · refine Go.on (B := T11.setTop (mkF m 78 #[.val (.ref a1), .val (.ref a2), .val (.ref a2)] [])) (fun t k => XS.ifYes X11.here hx rfl (pc0 := 49) (pc' := 78) rfl (hb hby d3_49) rfl ((if0 _ _).trans (feq (mt (lw_eq _ _).mp hc49_12)).2) (by decide) (by decide) k) ?_
        refine Go.on (B := T11.setTop (mkF m 79 #[.val (.ref a1), .val (.ref a2), .val (.ref a2)] [(.int (0 : Int32))])) (fun t k => XS.iconst X11.here hx rfl (hb hby d3_78) k) ?_
        obtain ⟨fs, hr, hrun, hended, hW, hsame⟩ := X11.leave (v := some (.int (0 : Int32))) (fun h => by rw [Bd.returns] at h; cases h)
        refine ⟨_, _, ?_, hrun, hended, _, _, rfl, ?_, ⟨_, rfl⟩, hW, hsame.mono (by decide) (by decide)⟩
        · exact retN X11 hx (t := .boolean) Bd.returns (by simp) (hb hby d3_79) hr
        · show Q_req2 Z a1 a2 x1 x2 x3 x4 x5 y1 y2 y3 y4 y5 h0 n0 _ T11.heap _
          rw [e11]
          exact ⟨by simp [own_eq, Int32.toInt_inj, Int64.toInt_inj, hc4_2, hc25_6, hc37_9, hc49_12], N0, rfl⟩
    · refine Go.on (B := T8.setTop (mkF m 78 #[.val (.ref a1), .val (.ref a2), .val (.ref a2)] [])) (fun t k => XS.ifYes X8.here hx rfl (pc0 := 37) (pc' := 78) rfl (hb hby d3_37) rfl ((if0 _ _).trans (feq (mt (lw_eq _ _).mp hc37_9)).2) (by decide) (by decide) k) ?_
      refine Go.on (B := T8.setTop (mkF m 79 #[.val (.ref a1), .val (.ref a2), .val (.ref a2)] [(.int (0 : Int32))])) (fun t k => XS.iconst X8.here hx rfl (hb hby d3_78) k) ?_
      obtain ⟨fs, hr, hrun, hended, hW, hsame⟩ := X8.leave (v := some (.int (0 : Int32))) (fun h => by rw [Bd.returns] at h; cases h)
      refine ⟨_, _, ?_, hrun, hended, _, _, rfl, ?_, ⟨_, rfl⟩, hW, hsame.mono (by decide) (by decide)⟩
      · exact retN X8 hx (t := .boolean) Bd.returns (by simp) (hb hby d3_79) hr
      · show Q_req2 Z a1 a2 x1 x2 x3 x4 x5 y1 y2 y3 y4 y5 h0 n0 _ T8.heap _
        rw [e8]
        exact ⟨by simp [own_eq, Int32.toInt_inj, Int64.toInt_inj, hc4_2, hc25_6, hc37_9], N0, rfl⟩
  · refine Go.on (B := T5.setTop (mkF m 78 #[.val (.ref a1), .val (.ref a2), .val (.ref a2)] [])) (fun t k => XS.icmpYes X5.here hx rfl (pc0 := 25) (pc' := 78) rfl (hb hby d3_25) rfl (feq hc25_6).2 (by decide) (by decide) k) ?_
    refine Go.on (B := T5.setTop (mkF m 79 #[.val (.ref a1), .val (.ref a2), .val (.ref a2)] [(.int (0 : Int32))])) (fun t k => XS.iconst X5.here hx rfl (hb hby d3_78) k) ?_
    obtain ⟨fs, hr, hrun, hended, hW, hsame⟩ := X5.leave (v := some (.int (0 : Int32))) (fun h => by rw [Bd.returns] at h; cases h)
    refine ⟨_, _, ?_, hrun, hended, _, _, rfl, ?_, ⟨_, rfl⟩, hW, hsame.mono (by decide) (by decide)⟩
    · exact retN X5 hx (t := .boolean) Bd.returns (by simp) (hb hby d3_79) hr
    · show Q_req2 Z a1 a2 x1 x2 x3 x4 x5 y1 y2 y3 y4 y5 h0 n0 _ T5.heap _
      rw [e5]
      exact ⟨by simp [own_eq, Int32.toInt_inj, Int64.toInt_inj, hc4_2, hc25_6], N0, rfl⟩

theorem own_nar (x : Int32) : nar .short (x.toInt16.toInt32) = x.toInt16.toInt32 := by
  show (x.toInt16.toInt32).toInt16.toInt32 = x.toInt16.toInt32
  simp
theorem own_nar2 (c : Prop) [Decidable c] (x y z : Int32) (h : z = (if c then (x.toInt16.toInt32) else (y.toInt16.toInt32))) : nar .short z = z := by
  by_cases q : c
  · rw [if_pos q] at h; rw [h]; exact own_nar x
  · rw [if_neg q] at h; rw [h]; exact own_nar y
theorem own_same (n n' : Int32) (h h' m m' : Int64) (l l' t t' z : Int32) (hz : z = (if n = n' then (if h = h' then (if m = m' then (if l = l' then (if t = t' then (1 : Int32) else (0 : Int32)) else (0 : Int32)) else (0 : Int32)) else (0 : Int32)) else (0 : Int32))) : own_eq n.toInt h.toInt m.toInt l.toInt t.toInt n'.toInt h'.toInt m'.toInt l'.toInt t'.toInt = z := by
  rw [hz]
  simp only [own_eq, Int32.toInt_inj, Int64.toInt_inj]
theorem own_swap (n h m l t n' h' m' l' t' : Int) : own_eq n h m l t n' h' m' l' t' = own_eq n' h' m' l' t' n h m l t := by
  simp only [own_eq, eq_comm]
theorem own_self (n h m l t : Int) : own_eq n h m l t n h m l t = (1 : Int32) := by simp [own_eq]
theorem pd_2 : parseMethodDescriptor "(IJJSS)V" = some ⟨[.int, .long, .long, .short, .short], none⟩ := by decide +kernel
theorem pd_3 : parseMethodDescriptor "(Ljava/lang/Object;)Z" = some ⟨[(.object "java/lang/Object")], some .boolean⟩ := by decide +kernel
theorem pd_4 : parseMethodDescriptor "(J)Ljava/lang/Long;" = some ⟨[.long], some (.object "java/lang/Long")⟩ := by decide +kernel
theorem pn_14 : plainName "com/example/pankti/pankti/engine/JobIdEqualsPinLaw" = true := by first | (simp [plainName, overriddenIn]; done) | decide +kernel
theorem ef_rm0 (m : MethodId) (p1 : Int32) (q2 : Int64) (q3 : Int64) (p4 : Int32) (p5 : Int32) (q6 : Int64) : entryFrame m #[(.int p1), (.long q2), (.long q3), (.int p4), (.int p5), (.long q6)] maxLocals = mkF m 0 #[.val (.int p1), .val (.long q2), .second, .val (.long q3), .second, .val (.int p4), .val (.int p5), .val (.long q6), .second, .unset, .unset, .unset, .unset, .unset, .unset, .unset, .unset, .unset, .unset, .unset, .unset, .unset] [] := by first | (simp [entryFrame, mkF, argsToLocals, Value.category, maxLocals]; done) | rfl
def Q_rm0 (Z : State) (p1 : Int32) (q2 : Int64) (q3 : Int64) (p4 : Int32) (p5 : Int32) (q6 : Int64) (ca : Addr) (cc : Cell) (h0 : Heap) (n0 : Nat) (v : Option Value) (h : Heap) (L : List Loc) : Prop := v = some (.int 1) ∧ Fr n0 L
set_option maxRecDepth 65536 in
set_option maxHeartbeats 40000000 in
theorem rm0 (l : Launch) (Z : State) (a0 : Array Value) (hw : ∀ d ∈ tables_1, d.before a0 Z = true) (ws : List Jvm.Cond) (p1 : Int32) (q2 : Int64) (q3 : Int64) (p4 : Int32) (p5 : Int32) (q6 : Int64) (ca : Addr) (cc : Cell) (h0 : Heap) (n0 : Nat) (Z0 : n0 ≤ h0.size) (O0 : Old Z n0 h0) (S_cache : Sta Z Z.heap "java/lang/Long$LongCache" "cache" "[Ljava/lang/Long;" (.ref ca)) (B_cache : Bxs Z ca cc "java/lang/Long" "J" (256 : Int32) (fun j => .long (j - (128 : Int32)).toInt64)) :
    MetFree l x (head1 (Jvm.Cond.code x code maxLocals ret :: ws) room_1) (fun a U => a = #[(.int p1), (.long q2), (.long q3), (.int p4), (.int p5), (.long q6)] ∧ Z.Warmed39 U.vm ∧ U.heap = h0) (fun _ _ _ _ _ => True) (fun _ U o U' => ∃ v L, o = .returned v ∧ Q_rm0 Z p1 q2 q3 p4 p5 q6 ca cc h0 n0 v U'.heap L ∧ FrameEnd U o U' L room_1.cells room_1.slots) := by
  refine MetFree.of_bodySF (plainFor_of_name pn_14) hisR ?_
  intro p e s m args below meth c s₁ Bd hml0 hP hK
  obtain ⟨rfl, hZ, hh⟩ := hP
  have hx := Bd.exec
  have hby := Bd.bytes
  have hml : c.maxLocals = 22 := hml0
  have hown : s.vm.findClass "com/example/pankti/pankti/engine/JobIdEqualsPinLaw" = some m.cls := findClass_of_methodNamed Bd.named
  have hnm := (name_of_methodNamed Bd.named Bd.method).1
  have X0 : Stand p l e room_1 s m #[(.int p1), (.long q2), (.long q3), (.int p4), (.int p5), (.long q6)] below meth c s₁ [] 0 0 := Stand.of_body Bd
  have e0 : s₁.heap = h0 := by rw [← hh, Bd.state]; rfl
  have N0 := Fr.nil n0
  have pre0 : ∀ t, Steps p.tables e below (s₁.setTop (mkF m 0 #[.val (.int p1), .val (.long q2), .second, .val (.long q3), .second, .val (.int p4), .val (.int p5), .val (.long q6), .second, .unset, .unset, .unset, .unset, .unset, .unset, .unset, .unset, .unset, .unset, .unset, .unset, .unset] [])) t → Steps p.tables e below (s₁.setTop (entryFrame m #[(.int p1), (.long q2), (.long q3), (.int p4), (.int p5), (.long q6)] maxLocals)) t := fun t k => castTop (ef_rm0 m p1 q2 q3 p4 p5 q6) k
  change Go p.tables e below (fun o U' => ∃ v L, o = .returned v ∧ Q_rm0 Z p1 q2 q3 p4 p5 q6 ca cc h0 n0 v U'.heap L ∧ FrameEnd s o U' L room_1.cells room_1.slots) (s₁.setTop (entryFrame m #[(.int p1), (.long q2), (.long q3), (.int p4), (.int p5), (.long q6)] maxLocals))
  refine Go.on pre0 ?_
  refine Go.on (B := s₁.setTop (mkF m 2 #[.val (.int p1), .val (.long q2), .second, .val (.long q3), .second, .val (.int p4), .val (.int p5), .val (.long q6), .second, .unset, .unset, .unset, .unset, .unset, .unset, .unset, .unset, .unset, .unset, .unset, .unset, .unset] [(.int p4)])) (fun t k => XS.iload X0.here hx rfl (hb hby at_0) rfl k) ?_
  refine Go.on (B := s₁.setTop (mkF m 3 #[.val (.int p1), .val (.long q2), .second, .val (.long q3), .second, .val (.int p4), .val (.int p5), .val (.long q6), .second, .unset, .unset, .unset, .unset, .unset, .unset, .unset, .unset, .unset, .unset, .unset, .unset, .unset] [(.int (p4.toInt16.toInt32))])) (fun t k => XS.i2s X0.here hx rfl (hb hby at_2) rfl k) ?_
  generalize hv3_1 : (p4.toInt16.toInt32) = v3_1
  refine Go.on (B := s₁.setTop (mkF m 5 #[.val (.int p1), .val (.long q2), .second, .val (.long q3), .second, .val (.int p4), .val (.int p5), .val (.long q6), .second, .val (.int v3_1), .unset, .unset, .unset, .unset, .unset, .unset, .unset, .unset, .unset, .unset, .unset, .unset] [])) (fun t k => XS.istore X0.here hx rfl (hb hby at_3) rfl (l' := #[.val (.int p1), .val (.long q2), .second, .val (.long q3), .second, .val (.int p4), .val (.int p5), .val (.long q6), .second, .val (.int v3_1), .unset, .unset, .unset, .unset, .unset, .unset, .unset, .unset, .unset, .unset, .unset, .unset]) rfl k) ?_
  refine Go.on (B := s₁.setTop (mkF m 7 #[.val (.int p1), .val (.long q2), .second, .val (.long q3), .second, .val (.int p4), .val (.int p5), .val (.long q6), .second, .val (.int v3_1), .unset, .unset, .unset, .unset, .unset, .unset, .unset, .unset, .unset, .unset, .unset, .unset] [(.int p4)])) (fun t k => XS.iload X0.here hx rfl (hb hby at_5) rfl k) ?_
  refine Go.on (B := s₁.setTop (mkF m 9 #[.val (.int p1), .val (.long q2), .second, .val (.long q3), .second, .val (.int p4), .val (.int p5), .val (.long q6), .second, .val (.int v3_1), .unset, .unset, .unset, .unset, .unset, .unset, .unset, .unset, .unset, .unset, .unset, .unset] [(.int (16 : Int32)), (.int p4)])) (fun t k => XS.bipush X0.here hx rfl (hb hby at_7) k) ?_
  refine Go.on (B := s₁.setTop (mkF m 10 #[.val (.int p1), .val (.long q2), .second, .val (.long q3), .second, .val (.int p4), .val (.int p5), .val (.long q6), .second, .val (.int v3_1), .unset, .unset, .unset, .unset, .unset, .unset, .unset, .unset, .unset, .unset, .unset, .unset] [(.int ((p4.toUInt32 >>> ((16 : Int32) &&& 31).toUInt32).toInt32))])) (fun t k => XS.iushr X0.here hx rfl (hb hby at_9) rfl k) ?_
  refine Go.on (B := s₁.setTop (mkF m 11 #[.val (.int p1), .val (.long q2), .second, .val (.long q3), .second, .val (.int p4), .val (.int p5), .val (.long q6), .second, .val (.int v3_1), .unset, .unset, .unset, .unset, .unset, .unset, .unset, .unset, .unset, .unset, .unset, .unset] [(.int (((p4.toUInt32 >>> ((16 : Int32) &&& 31).toUInt32).toInt32).toInt16.toInt32))])) (fun t k => XS.i2s X0.here hx rfl (hb hby at_10) rfl k) ?_
  generalize hv11_2 : (((p4.toUInt32 >>> ((16 : Int32) &&& 31).toUInt32).toInt32).toInt16.toInt32) = v11_2
  refine Go.on (B := s₁.setTop (mkF m 13 #[.val (.int p1), .val (.long q2), .second, .val (.long q3), .second, .val (.int p4), .val (.int p5), .val (.long q6), .second, .val (.int v3_1), .val (.int v11_2), .unset, .unset, .unset, .unset, .unset, .unset, .unset, .unset, .unset, .unset, .unset] [])) (fun t k => XS.istore X0.here hx rfl (hb hby at_11) rfl (l' := #[.val (.int p1), .val (.long q2), .second, .val (.long q3), .second, .val (.int p4), .val (.int p5), .val (.long q6), .second, .val (.int v3_1), .val (.int v11_2), .unset, .unset, .unset, .unset, .unset, .unset, .unset, .unset, .unset, .unset, .unset]) rfl k) ?_
  refine Go.on (B := s₁.setTop (mkF m 15 #[.val (.int p1), .val (.long q2), .second, .val (.long q3), .second, .val (.int p4), .val (.int p5), .val (.long q6), .second, .val (.int v3_1), .val (.int v11_2), .unset, .unset, .unset, .unset, .unset, .unset, .unset, .unset, .unset, .unset, .unset] [(.int p5)])) (fun t k => XS.iload X0.here hx rfl (hb hby at_13) rfl k) ?_
  refine Go.on (B := s₁.setTop (mkF m 16 #[.val (.int p1), .val (.long q2), .second, .val (.long q3), .second, .val (.int p4), .val (.int p5), .val (.long q6), .second, .val (.int v3_1), .val (.int v11_2), .unset, .unset, .unset, .unset, .unset, .unset, .unset, .unset, .unset, .unset, .unset] [(.int (1 : Int32)), (.int p5)])) (fun t k => XS.iconst X0.here hx rfl (hb hby at_15) k) ?_
  refine Go.on (B := s₁.setTop (mkF m 17 #[.val (.int p1), .val (.long q2), .second, .val (.long q3), .second, .val (.int p4), .val (.int p5), .val (.long q6), .second, .val (.int v3_1), .val (.int v11_2), .unset, .unset, .unset, .unset, .unset, .unset, .unset, .unset, .unset, .unset, .unset] [(.int (p5 &&& (1 : Int32)))])) (fun t k => XS.iand X0.here hx rfl (hb hby at_16) rfl k) ?_
  have sg17_3 : ∀ (z17_a3 : Int32) (hz17_a3 : z17_a3 = (if (p5 &&& (1 : Int32)) = (0 : Int32) then p1 else (p1 ^^^ (q6.toInt32)))), ∀ t, Steps p.tables e below (s₁.setTop (mkF m 29 #[.val (.int p1), .val (.long q2), .second, .val (.long q3), .second, .val (.int p4), .val (.int p5), .val (.long q6), .second, .val (.int v3_1), .val (.int v11_2), .unset, .unset, .unset, .unset, .unset, .unset, .unset, .unset, .unset, .unset, .unset] [(.int z17_a3)])) t → Steps p.tables e below (s₁.setTop (mkF m 17 #[.val (.int p1), .val (.long q2), .second, .val (.long q3), .second, .val (.int p4), .val (.int p5), .val (.long q6), .second, .val (.int v3_1), .val (.int v11_2), .unset, .unset, .unset, .unset, .unset, .unset, .unset, .unset, .unset, .unset, .unset] [(.int (p5 &&& (1 : Int32)))])) t := by
    intro z17_a3 hz17_a3 t k
    show Steps p.tables e below (s₁.setTop (mkF m 17 #[.val (.int p1), .val (.long q2), .second, .val (.long q3), .second, .val (.int p4), .val (.int p5), .val (.long q6), .second, .val (.int v3_1), .val (.int v11_2), .unset, .unset, .unset, .unset, .unset, .unset, .unset, .unset, .unset, .unset, .unset] [(.int (p5 &&& (1 : Int32)))])) _
    by_cases hc17_4 : (p5 &&& (1 : Int32)) = (0 : Int32)
    · first | rw [if_pos hc17_4] at hz17_a3 | skip
      refine XS.ifYes X0.here hx rfl (pc0 := 17) (pc' := 28) rfl (hb hby at_17) rfl ((if0 _ _).trans (teq hc17_4).1) (by decide) (by decide) ?_
      show Steps p.tables e below (s₁.setTop (mkF m 28 #[.val (.int p1), .val (.long q2), .second, .val (.long q3), .second, .val (.int p4), .val (.int p5), .val (.long q6), .second, .val (.int v3_1), .val (.int v11_2), .unset, .unset, .unset, .unset, .unset, .unset, .unset, .unset, .unset, .unset, .unset] [])) _
      refine XS.iloadN X0.here hx rfl (hb hby at_28) rfl ?_
      show Steps p.tables e below (s₁.setTop (mkF m 29 #[.val (.int p1), .val (.long q2), .second, .val (.long q3), .second, .val (.int p4), .val (.int p5), .val (.long q6), .second, .val (.int v3_1), .val (.int v11_2), .unset, .unset, .unset, .unset, .unset, .unset, .unset, .unset, .unset, .unset, .unset] [(.int p1)])) _
      subst hz17_a3
      exact k
    · first | rw [if_neg hc17_4] at hz17_a3 | skip
      refine XS.ifNo X0.here hx rfl (hb hby at_17) rfl ((if0 _ _).trans (feq hc17_4).1) ?_
      show Steps p.tables e below (s₁.setTop (mkF m 20 #[.val (.int p1), .val (.long q2), .second, .val (.long q3), .second, .val (.int p4), .val (.int p5), .val (.long q6), .second, .val (.int v3_1), .val (.int v11_2), .unset, .unset, .unset, .unset, .unset, .unset, .unset, .unset, .unset, .unset, .unset] [])) _
      refine XS.iloadN X0.here hx rfl (hb hby at_20) rfl ?_
      show Steps p.tables e below (s₁.setTop (mkF m 21 #[.val (.int p1), .val (.long q2), .second, .val (.long q3), .second, .val (.int p4), .val (.int p5), .val (.long q6), .second, .val (.int v3_1), .val (.int v11_2), .unset, .unset, .unset, .unset, .unset, .unset, .unset, .unset, .unset, .unset, .unset] [(.int p1)])) _
      refine XS.lload X0.here hx rfl (hb hby at_21) rfl ?_
      show Steps p.tables e below (s₁.setTop (mkF m 23 #[.val (.int p1), .val (.long q2), .second, .val (.long q3), .second, .val (.int p4), .val (.int p5), .val (.long q6), .second, .val (.int v3_1), .val (.int v11_2), .unset, .unset, .unset, .unset, .unset, .unset, .unset, .unset, .unset, .unset, .unset] [(.long q6), (.int p1)])) _
      refine XS.l2i X0.here hx rfl (hb hby at_23) rfl ?_
      show Steps p.tables e below (s₁.setTop (mkF m 24 #[.val (.int p1), .val (.long q2), .second, .val (.long q3), .second, .val (.int p4), .val (.int p5), .val (.long q6), .second, .val (.int v3_1), .val (.int v11_2), .unset, .unset, .unset, .unset, .unset, .unset, .unset, .unset, .unset, .unset, .unset] [(.int (q6.toInt32)), (.int p1)])) _
      refine XS.ixor X0.here hx rfl (hb hby at_24) rfl ?_
      show Steps p.tables e below (s₁.setTop (mkF m 25 #[.val (.int p1), .val (.long q2), .second, .val (.long q3), .second, .val (.int p4), .val (.int p5), .val (.long q6), .second, .val (.int v3_1), .val (.int v11_2), .unset, .unset, .unset, .unset, .unset, .unset, .unset, .unset, .unset, .unset, .unset] [(.int (p1 ^^^ (q6.toInt32)))])) _
      refine XS.goto X0.here hx rfl (pc0 := 25) (pc' := 29) rfl (hb hby at_25) (by decide) (by decide) ?_
      show Steps p.tables e below (s₁.setTop (mkF m 29 #[.val (.int p1), .val (.long q2), .second, .val (.long q3), .second, .val (.int p4), .val (.int p5), .val (.long q6), .second, .val (.int v3_1), .val (.int v11_2), .unset, .unset, .unset, .unset, .unset, .unset, .unset, .unset, .unset, .unset, .unset] [(.int (p1 ^^^ (q6.toInt32)))])) _
      subst hz17_a3
      exact k
  obtain ⟨z17_a3, hz17_a3⟩ : ∃ z, z = (if (p5 &&& (1 : Int32)) = (0 : Int32) then p1 else (p1 ^^^ (q6.toInt32))) := ⟨_, rfl⟩
  refine Go.on (sg17_3 z17_a3 hz17_a3) ?_
  refine Go.on (B := s₁.setTop (mkF m 31 #[.val (.int p1), .val (.long q2), .second, .val (.long q3), .second, .val (.int p4), .val (.int p5), .val (.long q6), .second, .val (.int v3_1), .val (.int v11_2), .val (.int z17_a3), .unset, .unset, .unset, .unset, .unset, .unset, .unset, .unset, .unset, .unset] [])) (fun t k => XS.istore X0.here hx rfl (hb hby at_29) rfl (l' := #[.val (.int p1), .val (.long q2), .second, .val (.long q3), .second, .val (.int p4), .val (.int p5), .val (.long q6), .second, .val (.int v3_1), .val (.int v11_2), .val (.int z17_a3), .unset, .unset, .unset, .unset, .unset, .unset, .unset, .unset, .unset, .unset]) rfl k) ?_
  refine Go.on (B := s₁.setTop (mkF m 33 #[.val (.int p1), .val (.long q2), .second, .val (.long q3), .second, .val (.int p4), .val (.int p5), .val (.long q6), .second, .val (.int v3_1), .val (.int v11_2), .val (.int z17_a3), .unset, .unset, .unset, .unset, .unset, .unset, .unset, .unset, .unset, .unset] [(.int p5)])) (fun t k => XS.iload X0.here hx rfl (hb hby at_31) rfl k) ?_
  refine Go.on (B := s₁.setTop (mkF m 34 #[.val (.int p1), .val (.long q2), .second, .val (.long q3), .second, .val (.int p4), .val (.int p5), .val (.long q6), .second, .val (.int v3_1), .val (.int v11_2), .val (.int z17_a3), .unset, .unset, .unset, .unset, .unset, .unset, .unset, .unset, .unset, .unset] [(.int (2 : Int32)), (.int p5)])) (fun t k => XS.iconst X0.here hx rfl (hb hby at_33) k) ?_
  refine Go.on (B := s₁.setTop (mkF m 35 #[.val (.int p1), .val (.long q2), .second, .val (.long q3), .second, .val (.int p4), .val (.int p5), .val (.long q6), .second, .val (.int v3_1), .val (.int v11_2), .val (.int z17_a3), .unset, .unset, .unset, .unset, .unset, .unset, .unset, .unset, .unset, .unset] [(.int (p5 &&& (2 : Int32)))])) (fun t k => XS.iand X0.here hx rfl (hb hby at_34) rfl k) ?_
  have sg35_6 : ∀ (z35_a6 : Int64) (hz35_a6 : z35_a6 = (if (p5 &&& (2 : Int32)) = (0 : Int32) then q2 else (q2 ^^^ q6))), ∀ t, Steps p.tables e below (s₁.setTop (mkF m 46 #[.val (.int p1), .val (.long q2), .second, .val (.long q3), .second, .val (.int p4), .val (.int p5), .val (.long q6), .second, .val (.int v3_1), .val (.int v11_2), .val (.int z17_a3), .unset, .unset, .unset, .unset, .unset, .unset, .unset, .unset, .unset, .unset] [(.long z35_a6)])) t → Steps p.tables e below (s₁.setTop (mkF m 35 #[.val (.int p1), .val (.long q2), .second, .val (.long q3), .second, .val (.int p4), .val (.int p5), .val (.long q6), .second, .val (.int v3_1), .val (.int v11_2), .val (.int z17_a3), .unset, .unset, .unset, .unset, .unset, .unset, .unset, .unset, .unset, .unset] [(.int (p5 &&& (2 : Int32)))])) t := by
    intro z35_a6 hz35_a6 t k
    show Steps p.tables e below (s₁.setTop (mkF m 35 #[.val (.int p1), .val (.long q2), .second, .val (.long q3), .second, .val (.int p4), .val (.int p5), .val (.long q6), .second, .val (.int v3_1), .val (.int v11_2), .val (.int z17_a3), .unset, .unset, .unset, .unset, .unset, .unset, .unset, .unset, .unset, .unset] [(.int (p5 &&& (2 : Int32)))])) _
    by_cases hc35_7 : (p5 &&& (2 : Int32)) = (0 : Int32)
    · first | rw [if_pos hc35_7] at hz35_a6 | skip
      refine XS.ifYes X0.here hx rfl (pc0 := 35) (pc' := 45) rfl (hb hby at_35) rfl ((if0 _ _).trans (teq hc35_7).1) (by decide) (by decide) ?_
      show Steps p.tables e below (s₁.setTop (mkF m 45 #[.val (.int p1), .val (.long q2), .second, .val (.long q3), .second, .val (.int p4), .val (.int p5), .val (.long q6), .second, .val (.int v3_1), .val (.int v11_2), .val (.int z17_a3), .unset, .unset, .unset, .unset, .unset, .unset, .unset, .unset, .unset, .unset] [])) _
      refine XS.lloadN X0.here hx rfl (hb hby at_45) rfl ?_
      show Steps p.tables e below (s₁.setTop (mkF m 46 #[.val (.int p1), .val (.long q2), .second, .val (.long q3), .second, .val (.int p4), .val (.int p5), .val (.long q6), .second, .val (.int v3_1), .val (.int v11_2), .val (.int z17_a3), .unset, .unset, .unset, .unset, .unset, .unset, .unset, .unset, .unset, .unset] [(.long q2)])) _
      subst hz35_a6
      exact k
    · first | rw [if_neg hc35_7] at hz35_a6 | skip
      refine XS.ifNo X0.here hx rfl (hb hby at_35) rfl ((if0 _ _).trans (feq hc35_7).1) ?_
      show Steps p.tables e below (s₁.setTop (mkF m 38 #[.val (.int p1), .val (.long q2), .second, .val (.long q3), .second, .val (.int p4), .val (.int p5), .val (.long q6), .second, .val (.int v3_1), .val (.int v11_2), .val (.int z17_a3), .unset, .unset, .unset, .unset, .unset, .unset, .unset, .unset, .unset, .unset] [])) _
      refine XS.lloadN X0.here hx rfl (hb hby at_38) rfl ?_
      show Steps p.tables e below (s₁.setTop (mkF m 39 #[.val (.int p1), .val (.long q2), .second, .val (.long q3), .second, .val (.int p4), .val (.int p5), .val (.long q6), .second, .val (.int v3_1), .val (.int v11_2), .val (.int z17_a3), .unset, .unset, .unset, .unset, .unset, .unset, .unset, .unset, .unset, .unset] [(.long q2)])) _
      refine XS.lload X0.here hx rfl (hb hby at_39) rfl ?_
      show Steps p.tables e below (s₁.setTop (mkF m 41 #[.val (.int p1), .val (.long q2), .second, .val (.long q3), .second, .val (.int p4), .val (.int p5), .val (.long q6), .second, .val (.int v3_1), .val (.int v11_2), .val (.int z17_a3), .unset, .unset, .unset, .unset, .unset, .unset, .unset, .unset, .unset, .unset] [(.long q6), (.long q2)])) _
      refine XS.lxor X0.here hx rfl (hb hby at_41) rfl ?_
      show Steps p.tables e below (s₁.setTop (mkF m 42 #[.val (.int p1), .val (.long q2), .second, .val (.long q3), .second, .val (.int p4), .val (.int p5), .val (.long q6), .second, .val (.int v3_1), .val (.int v11_2), .val (.int z17_a3), .unset, .unset, .unset, .unset, .unset, .unset, .unset, .unset, .unset, .unset] [(.long (q2 ^^^ q6))])) _
      refine XS.goto X0.here hx rfl (pc0 := 42) (pc' := 46) rfl (hb hby at_42) (by decide) (by decide) ?_
      show Steps p.tables e below (s₁.setTop (mkF m 46 #[.val (.int p1), .val (.long q2), .second, .val (.long q3), .second, .val (.int p4), .val (.int p5), .val (.long q6), .second, .val (.int v3_1), .val (.int v11_2), .val (.int z17_a3), .unset, .unset, .unset, .unset, .unset, .unset, .unset, .unset, .unset, .unset] [(.long (q2 ^^^ q6))])) _
      subst hz35_a6
      exact k
  obtain ⟨z35_a6, hz35_a6⟩ : ∃ z, z = (if (p5 &&& (2 : Int32)) = (0 : Int32) then q2 else (q2 ^^^ q6)) := ⟨_, rfl⟩
  refine Go.on (sg35_6 z35_a6 hz35_a6) ?_
  refine Go.on (B := s₁.setTop (mkF m 48 #[.val (.int p1), .val (.long q2), .second, .val (.long q3), .second, .val (.int p4), .val (.int p5), .val (.long q6), .second, .val (.int v3_1), .val (.int v11_2), .val (.int z17_a3), .val (.long z35_a6), .second, .unset, .unset, .unset, .unset, .unset, .unset, .unset, .unset] [])) (fun t k => XS.lstore X0.here hx rfl (hb hby at_46) rfl (l' := #[.val (.int p1), .val (.long q2), .second, .val (.long q3), .second, .val (.int p4), .val (.int p5), .val (.long q6), .second, .val (.int v3_1), .val (.int v11_2), .val (.int z17_a3), .val (.long z35_a6), .second, .unset, .unset, .unset, .unset, .unset, .unset, .unset, .unset]) rfl k) ?_
  refine Go.on (B := s₁.setTop (mkF m 50 #[.val (.int p1), .val (.long q2), .second, .val (.long q3), .second, .val (.int p4), .val (.int p5), .val (.long q6), .second, .val (.int v3_1), .val (.int v11_2), .val (.int z17_a3), .val (.long z35_a6), .second, .unset, .unset, .unset, .unset, .unset, .unset, .unset, .unset] [(.int p5)])) (fun t k => XS.iload X0.here hx rfl (hb hby at_48) rfl k) ?_
  refine Go.on (B := s₁.setTop (mkF m 51 #[.val (.int p1), .val (.long q2), .second, .val (.long q3), .second, .val (.int p4), .val (.int p5), .val (.long q6), .second, .val (.int v3_1), .val (.int v11_2), .val (.int z17_a3), .val (.long z35_a6), .second, .unset, .unset, .unset, .unset, .unset, .unset, .unset, .unset] [(.int (4 : Int32)), (.int p5)])) (fun t k => XS.iconst X0.here hx rfl (hb hby at_50) k) ?_
  refine Go.on (B := s₁.setTop (mkF m 52 #[.val (.int p1), .val (.long q2), .second, .val (.long q3), .second, .val (.int p4), .val (.int p5), .val (.long q6), .second, .val (.int v3_1), .val (.int v11_2), .val (.int z17_a3), .val (.long z35_a6), .second, .unset, .unset, .unset, .unset, .unset, .unset, .unset, .unset] [(.int (p5 &&& (4 : Int32)))])) (fun t k => XS.iand X0.here hx rfl (hb hby at_51) rfl k) ?_
  have sg52_9 : ∀ (z52_a9 : Int64) (hz52_a9 : z52_a9 = (if (p5 &&& (4 : Int32)) = (0 : Int32) then q3 else (q3 ^^^ q6))), ∀ t, Steps p.tables e below (s₁.setTop (mkF m 63 #[.val (.int p1), .val (.long q2), .second, .val (.long q3), .second, .val (.int p4), .val (.int p5), .val (.long q6), .second, .val (.int v3_1), .val (.int v11_2), .val (.int z17_a3), .val (.long z35_a6), .second, .unset, .unset, .unset, .unset, .unset, .unset, .unset, .unset] [(.long z52_a9)])) t → Steps p.tables e below (s₁.setTop (mkF m 52 #[.val (.int p1), .val (.long q2), .second, .val (.long q3), .second, .val (.int p4), .val (.int p5), .val (.long q6), .second, .val (.int v3_1), .val (.int v11_2), .val (.int z17_a3), .val (.long z35_a6), .second, .unset, .unset, .unset, .unset, .unset, .unset, .unset, .unset] [(.int (p5 &&& (4 : Int32)))])) t := by
    intro z52_a9 hz52_a9 t k
    show Steps p.tables e below (s₁.setTop (mkF m 52 #[.val (.int p1), .val (.long q2), .second, .val (.long q3), .second, .val (.int p4), .val (.int p5), .val (.long q6), .second, .val (.int v3_1), .val (.int v11_2), .val (.int z17_a3), .val (.long z35_a6), .second, .unset, .unset, .unset, .unset, .unset, .unset, .unset, .unset] [(.int (p5 &&& (4 : Int32)))])) _
    by_cases hc52_10 : (p5 &&& (4 : Int32)) = (0 : Int32)
    · first | rw [if_pos hc52_10] at hz52_a9 | skip
      refine XS.ifYes X0.here hx rfl (pc0 := 52) (pc' := 62) rfl (hb hby at_52) rfl ((if0 _ _).trans (teq hc52_10).1) (by decide) (by decide) ?_
      show Steps p.tables e below (s₁.setTop (mkF m 62 #[.val (.int p1), .val (.long q2), .second, .val (.long q3), .second, .val (.int p4), .val (.int p5), .val (.long q6), .second, .val (.int v3_1), .val (.int v11_2), .val (.int z17_a3), .val (.long z35_a6), .second, .unset, .unset, .unset, .unset, .unset, .unset, .unset, .unset] [])) _
      refine XS.lloadN X0.here hx rfl (hb hby at_62) rfl ?_
      show Steps p.tables e below (s₁.setTop (mkF m 63 #[.val (.int p1), .val (.long q2), .second, .val (.long q3), .second, .val (.int p4), .val (.int p5), .val (.long q6), .second, .val (.int v3_1), .val (.int v11_2), .val (.int z17_a3), .val (.long z35_a6), .second, .unset, .unset, .unset, .unset, .unset, .unset, .unset, .unset] [(.long q3)])) _
      subst hz52_a9
      exact k
    · first | rw [if_neg hc52_10] at hz52_a9 | skip
      refine XS.ifNo X0.here hx rfl (hb hby at_52) rfl ((if0 _ _).trans (feq hc52_10).1) ?_
      show Steps p.tables e below (s₁.setTop (mkF m 55 #[.val (.int p1), .val (.long q2), .second, .val (.long q3), .second, .val (.int p4), .val (.int p5), .val (.long q6), .second, .val (.int v3_1), .val (.int v11_2), .val (.int z17_a3), .val (.long z35_a6), .second, .unset, .unset, .unset, .unset, .unset, .unset, .unset, .unset] [])) _
      refine XS.lloadN X0.here hx rfl (hb hby at_55) rfl ?_
      show Steps p.tables e below (s₁.setTop (mkF m 56 #[.val (.int p1), .val (.long q2), .second, .val (.long q3), .second, .val (.int p4), .val (.int p5), .val (.long q6), .second, .val (.int v3_1), .val (.int v11_2), .val (.int z17_a3), .val (.long z35_a6), .second, .unset, .unset, .unset, .unset, .unset, .unset, .unset, .unset] [(.long q3)])) _
      refine XS.lload X0.here hx rfl (hb hby at_56) rfl ?_
      show Steps p.tables e below (s₁.setTop (mkF m 58 #[.val (.int p1), .val (.long q2), .second, .val (.long q3), .second, .val (.int p4), .val (.int p5), .val (.long q6), .second, .val (.int v3_1), .val (.int v11_2), .val (.int z17_a3), .val (.long z35_a6), .second, .unset, .unset, .unset, .unset, .unset, .unset, .unset, .unset] [(.long q6), (.long q3)])) _
      refine XS.lxor X0.here hx rfl (hb hby at_58) rfl ?_
      show Steps p.tables e below (s₁.setTop (mkF m 59 #[.val (.int p1), .val (.long q2), .second, .val (.long q3), .second, .val (.int p4), .val (.int p5), .val (.long q6), .second, .val (.int v3_1), .val (.int v11_2), .val (.int z17_a3), .val (.long z35_a6), .second, .unset, .unset, .unset, .unset, .unset, .unset, .unset, .unset] [(.long (q3 ^^^ q6))])) _
      refine XS.goto X0.here hx rfl (pc0 := 59) (pc' := 63) rfl (hb hby at_59) (by decide) (by decide) ?_
      show Steps p.tables e below (s₁.setTop (mkF m 63 #[.val (.int p1), .val (.long q2), .second, .val (.long q3), .second, .val (.int p4), .val (.int p5), .val (.long q6), .second, .val (.int v3_1), .val (.int v11_2), .val (.int z17_a3), .val (.long z35_a6), .second, .unset, .unset, .unset, .unset, .unset, .unset, .unset, .unset] [(.long (q3 ^^^ q6))])) _
      subst hz52_a9
      exact k
  obtain ⟨z52_a9, hz52_a9⟩ : ∃ z, z = (if (p5 &&& (4 : Int32)) = (0 : Int32) then q3 else (q3 ^^^ q6)) := ⟨_, rfl⟩
  refine Go.on (sg52_9 z52_a9 hz52_a9) ?_
  refine Go.on (B := s₁.setTop (mkF m 65 #[.val (.int p1), .val (.long q2), .second, .val (.long q3), .second, .val (.int p4), .val (.int p5), .val (.long q6), .second, .val (.int v3_1), .val (.int v11_2), .val (.int z17_a3), .val (.long z35_a6), .second, .val (.long z52_a9), .second, .unset, .unset, .unset, .unset, .unset, .unset] [])) (fun t k => XS.lstore X0.here hx rfl (hb hby at_63) rfl (l' := #[.val (.int p1), .val (.long q2), .second, .val (.long q3), .second, .val (.int p4), .val (.int p5), .val (.long q6), .second, .val (.int v3_1), .val (.int v11_2), .val (.int z17_a3), .val (.long z35_a6), .second, .val (.long z52_a9), .second, .unset, .unset, .unset, .unset, .unset, .unset]) rfl k) ?_
  refine Go.on (B := s₁.setTop (mkF m 67 #[.val (.int p1), .val (.long q2), .second, .val (.long q3), .second, .val (.int p4), .val (.int p5), .val (.long q6), .second, .val (.int v3_1), .val (.int v11_2), .val (.int z17_a3), .val (.long z35_a6), .second, .val (.long z52_a9), .second, .unset, .unset, .unset, .unset, .unset, .unset] [(.int p5)])) (fun t k => XS.iload X0.here hx rfl (hb hby at_65) rfl k) ?_
  refine Go.on (B := s₁.setTop (mkF m 69 #[.val (.int p1), .val (.long q2), .second, .val (.long q3), .second, .val (.int p4), .val (.int p5), .val (.long q6), .second, .val (.int v3_1), .val (.int v11_2), .val (.int z17_a3), .val (.long z35_a6), .second, .val (.long z52_a9), .second, .unset, .unset, .unset, .unset, .unset, .unset] [(.int (8 : Int32)), (.int p5)])) (fun t k => XS.bipush X0.here hx rfl (hb hby at_67) k) ?_
  refine Go.on (B := s₁.setTop (mkF m 70 #[.val (.int p1), .val (.long q2), .second, .val (.long q3), .second, .val (.int p4), .val (.int p5), .val (.long q6), .second, .val (.int v3_1), .val (.int v11_2), .val (.int z17_a3), .val (.long z35_a6), .second, .val (.long z52_a9), .second, .unset, .unset, .unset, .unset, .unset, .unset] [(.int (p5 &&& (8 : Int32)))])) (fun t k => XS.iand X0.here hx rfl (hb hby at_69) rfl k) ?_
  have sg70_12 : ∀ (z70_a12 : Int32) (hz70_a12 : z70_a12 = (if (p5 &&& (8 : Int32)) = (0 : Int32) then v3_1 else ((v3_1 ^^^ (q6.toInt32)).toInt16.toInt32))), ∀ t, Steps p.tables e below (s₁.setTop (mkF m 85 #[.val (.int p1), .val (.long q2), .second, .val (.long q3), .second, .val (.int p4), .val (.int p5), .val (.long q6), .second, .val (.int v3_1), .val (.int v11_2), .val (.int z17_a3), .val (.long z35_a6), .second, .val (.long z52_a9), .second, .unset, .unset, .unset, .unset, .unset, .unset] [(.int z70_a12)])) t → Steps p.tables e below (s₁.setTop (mkF m 70 #[.val (.int p1), .val (.long q2), .second, .val (.long q3), .second, .val (.int p4), .val (.int p5), .val (.long q6), .second, .val (.int v3_1), .val (.int v11_2), .val (.int z17_a3), .val (.long z35_a6), .second, .val (.long z52_a9), .second, .unset, .unset, .unset, .unset, .unset, .unset] [(.int (p5 &&& (8 : Int32)))])) t := by
    intro z70_a12 hz70_a12 t k
    show Steps p.tables e below (s₁.setTop (mkF m 70 #[.val (.int p1), .val (.long q2), .second, .val (.long q3), .second, .val (.int p4), .val (.int p5), .val (.long q6), .second, .val (.int v3_1), .val (.int v11_2), .val (.int z17_a3), .val (.long z35_a6), .second, .val (.long z52_a9), .second, .unset, .unset, .unset, .unset, .unset, .unset] [(.int (p5 &&& (8 : Int32)))])) _
    by_cases hc70_13 : (p5 &&& (8 : Int32)) = (0 : Int32)
    · first | rw [if_pos hc70_13] at hz70_a12 | skip
      refine XS.ifYes X0.here hx rfl (pc0 := 70) (pc' := 83) rfl (hb hby at_70) rfl ((if0 _ _).trans (teq hc70_13).1) (by decide) (by decide) ?_
      show Steps p.tables e below (s₁.setTop (mkF m 83 #[.val (.int p1), .val (.long q2), .second, .val (.long q3), .second, .val (.int p4), .val (.int p5), .val (.long q6), .second, .val (.int v3_1), .val (.int v11_2), .val (.int z17_a3), .val (.long z35_a6), .second, .val (.long z52_a9), .second, .unset, .unset, .unset, .unset, .unset, .unset] [])) _
      refine XS.iload X0.here hx rfl (hb hby at_83) rfl ?_
      show Steps p.tables e below (s₁.setTop (mkF m 85 #[.val (.int p1), .val (.long q2), .second, .val (.long q3), .second, .val (.int p4), .val (.int p5), .val (.long q6), .second, .val (.int v3_1), .val (.int v11_2), .val (.int z17_a3), .val (.long z35_a6), .second, .val (.long z52_a9), .second, .unset, .unset, .unset, .unset, .unset, .unset] [(.int v3_1)])) _
      subst hz70_a12
      exact k
    · first | rw [if_neg hc70_13] at hz70_a12 | skip
      refine XS.ifNo X0.here hx rfl (hb hby at_70) rfl ((if0 _ _).trans (feq hc70_13).1) ?_
      show Steps p.tables e below (s₁.setTop (mkF m 73 #[.val (.int p1), .val (.long q2), .second, .val (.long q3), .second, .val (.int p4), .val (.int p5), .val (.long q6), .second, .val (.int v3_1), .val (.int v11_2), .val (.int z17_a3), .val (.long z35_a6), .second, .val (.long z52_a9), .second, .unset, .unset, .unset, .unset, .unset, .unset] [])) _
      refine XS.iload X0.here hx rfl (hb hby at_73) rfl ?_
      show Steps p.tables e below (s₁.setTop (mkF m 75 #[.val (.int p1), .val (.long q2), .second, .val (.long q3), .second, .val (.int p4), .val (.int p5), .val (.long q6), .second, .val (.int v3_1), .val (.int v11_2), .val (.int z17_a3), .val (.long z35_a6), .second, .val (.long z52_a9), .second, .unset, .unset, .unset, .unset, .unset, .unset] [(.int v3_1)])) _
      refine XS.lload X0.here hx rfl (hb hby at_75) rfl ?_
      show Steps p.tables e below (s₁.setTop (mkF m 77 #[.val (.int p1), .val (.long q2), .second, .val (.long q3), .second, .val (.int p4), .val (.int p5), .val (.long q6), .second, .val (.int v3_1), .val (.int v11_2), .val (.int z17_a3), .val (.long z35_a6), .second, .val (.long z52_a9), .second, .unset, .unset, .unset, .unset, .unset, .unset] [(.long q6), (.int v3_1)])) _
      refine XS.l2i X0.here hx rfl (hb hby at_77) rfl ?_
      show Steps p.tables e below (s₁.setTop (mkF m 78 #[.val (.int p1), .val (.long q2), .second, .val (.long q3), .second, .val (.int p4), .val (.int p5), .val (.long q6), .second, .val (.int v3_1), .val (.int v11_2), .val (.int z17_a3), .val (.long z35_a6), .second, .val (.long z52_a9), .second, .unset, .unset, .unset, .unset, .unset, .unset] [(.int (q6.toInt32)), (.int v3_1)])) _
      refine XS.ixor X0.here hx rfl (hb hby at_78) rfl ?_
      show Steps p.tables e below (s₁.setTop (mkF m 79 #[.val (.int p1), .val (.long q2), .second, .val (.long q3), .second, .val (.int p4), .val (.int p5), .val (.long q6), .second, .val (.int v3_1), .val (.int v11_2), .val (.int z17_a3), .val (.long z35_a6), .second, .val (.long z52_a9), .second, .unset, .unset, .unset, .unset, .unset, .unset] [(.int (v3_1 ^^^ (q6.toInt32)))])) _
      refine XS.i2s X0.here hx rfl (hb hby at_79) rfl ?_
      show Steps p.tables e below (s₁.setTop (mkF m 80 #[.val (.int p1), .val (.long q2), .second, .val (.long q3), .second, .val (.int p4), .val (.int p5), .val (.long q6), .second, .val (.int v3_1), .val (.int v11_2), .val (.int z17_a3), .val (.long z35_a6), .second, .val (.long z52_a9), .second, .unset, .unset, .unset, .unset, .unset, .unset] [(.int ((v3_1 ^^^ (q6.toInt32)).toInt16.toInt32))])) _
      refine XS.goto X0.here hx rfl (pc0 := 80) (pc' := 85) rfl (hb hby at_80) (by decide) (by decide) ?_
      show Steps p.tables e below (s₁.setTop (mkF m 85 #[.val (.int p1), .val (.long q2), .second, .val (.long q3), .second, .val (.int p4), .val (.int p5), .val (.long q6), .second, .val (.int v3_1), .val (.int v11_2), .val (.int z17_a3), .val (.long z35_a6), .second, .val (.long z52_a9), .second, .unset, .unset, .unset, .unset, .unset, .unset] [(.int ((v3_1 ^^^ (q6.toInt32)).toInt16.toInt32))])) _
      subst hz70_a12
      exact k
  obtain ⟨z70_a12, hz70_a12⟩ : ∃ z, z = (if (p5 &&& (8 : Int32)) = (0 : Int32) then v3_1 else ((v3_1 ^^^ (q6.toInt32)).toInt16.toInt32)) := ⟨_, rfl⟩
  refine Go.on (sg70_12 z70_a12 hz70_a12) ?_
  refine Go.on (B := s₁.setTop (mkF m 87 #[.val (.int p1), .val (.long q2), .second, .val (.long q3), .second, .val (.int p4), .val (.int p5), .val (.long q6), .second, .val (.int v3_1), .val (.int v11_2), .val (.int z17_a3), .val (.long z35_a6), .second, .val (.long z52_a9), .second, .val (.int z70_a12), .unset, .unset, .unset, .unset, .unset] [])) (fun t k => XS.istore X0.here hx rfl (hb hby at_85) rfl (l' := #[.val (.int p1), .val (.long q2), .second, .val (.long q3), .second, .val (.int p4), .val (.int p5), .val (.long q6), .second, .val (.int v3_1), .val (.int v11_2), .val (.int z17_a3), .val (.long z35_a6), .second, .val (.long z52_a9), .second, .val (.int z70_a12), .unset, .unset, .unset, .unset, .unset]) rfl k) ?_
  refine Go.on (B := s₁.setTop (mkF m 89 #[.val (.int p1), .val (.long q2), .second, .val (.long q3), .second, .val (.int p4), .val (.int p5), .val (.long q6), .second, .val (.int v3_1), .val (.int v11_2), .val (.int z17_a3), .val (.long z35_a6), .second, .val (.long z52_a9), .second, .val (.int z70_a12), .unset, .unset, .unset, .unset, .unset] [(.int p5)])) (fun t k => XS.iload X0.here hx rfl (hb hby at_87) rfl k) ?_
  refine Go.on (B := s₁.setTop (mkF m 91 #[.val (.int p1), .val (.long q2), .second, .val (.long q3), .second, .val (.int p4), .val (.int p5), .val (.long q6), .second, .val (.int v3_1), .val (.int v11_2), .val (.int z17_a3), .val (.long z35_a6), .second, .val (.long z52_a9), .second, .val (.int z70_a12), .unset, .unset, .unset, .unset, .unset] [(.int (16 : Int32)), (.int p5)])) (fun t k => XS.bipush X0.here hx rfl (hb hby at_89) k) ?_
  refine Go.on (B := s₁.setTop (mkF m 92 #[.val (.int p1), .val (.long q2), .second, .val (.long q3), .second, .val (.int p4), .val (.int p5), .val (.long q6), .second, .val (.int v3_1), .val (.int v11_2), .val (.int z17_a3), .val (.long z35_a6), .second, .val (.long z52_a9), .second, .val (.int z70_a12), .unset, .unset, .unset, .unset, .unset] [(.int (p5 &&& (16 : Int32)))])) (fun t k => XS.iand X0.here hx rfl (hb hby at_91) rfl k) ?_
  have sg92_15 : ∀ (z92_a15 : Int32) (hz92_a15 : z92_a15 = (if (p5 &&& (16 : Int32)) = (0 : Int32) then v11_2 else ((v11_2 ^^^ (((q6.toUInt64 >>> ((16 : Int32) &&& 0x3f).toInt64.toUInt64).toInt64).toInt32)).toInt16.toInt32))), ∀ t, Steps p.tables e below (s₁.setTop (mkF m 110 #[.val (.int p1), .val (.long q2), .second, .val (.long q3), .second, .val (.int p4), .val (.int p5), .val (.long q6), .second, .val (.int v3_1), .val (.int v11_2), .val (.int z17_a3), .val (.long z35_a6), .second, .val (.long z52_a9), .second, .val (.int z70_a12), .unset, .unset, .unset, .unset, .unset] [(.int z92_a15)])) t → Steps p.tables e below (s₁.setTop (mkF m 92 #[.val (.int p1), .val (.long q2), .second, .val (.long q3), .second, .val (.int p4), .val (.int p5), .val (.long q6), .second, .val (.int v3_1), .val (.int v11_2), .val (.int z17_a3), .val (.long z35_a6), .second, .val (.long z52_a9), .second, .val (.int z70_a12), .unset, .unset, .unset, .unset, .unset] [(.int (p5 &&& (16 : Int32)))])) t := by
    intro z92_a15 hz92_a15 t k
    show Steps p.tables e below (s₁.setTop (mkF m 92 #[.val (.int p1), .val (.long q2), .second, .val (.long q3), .second, .val (.int p4), .val (.int p5), .val (.long q6), .second, .val (.int v3_1), .val (.int v11_2), .val (.int z17_a3), .val (.long z35_a6), .second, .val (.long z52_a9), .second, .val (.int z70_a12), .unset, .unset, .unset, .unset, .unset] [(.int (p5 &&& (16 : Int32)))])) _
    by_cases hc92_16 : (p5 &&& (16 : Int32)) = (0 : Int32)
    · first | rw [if_pos hc92_16] at hz92_a15 | skip
      refine XS.ifYes X0.here hx rfl (pc0 := 92) (pc' := 108) rfl (hb hby at_92) rfl ((if0 _ _).trans (teq hc92_16).1) (by decide) (by decide) ?_
      show Steps p.tables e below (s₁.setTop (mkF m 108 #[.val (.int p1), .val (.long q2), .second, .val (.long q3), .second, .val (.int p4), .val (.int p5), .val (.long q6), .second, .val (.int v3_1), .val (.int v11_2), .val (.int z17_a3), .val (.long z35_a6), .second, .val (.long z52_a9), .second, .val (.int z70_a12), .unset, .unset, .unset, .unset, .unset] [])) _
      refine XS.iload X0.here hx rfl (hb hby at_108) rfl ?_
      show Steps p.tables e below (s₁.setTop (mkF m 110 #[.val (.int p1), .val (.long q2), .second, .val (.long q3), .second, .val (.int p4), .val (.int p5), .val (.long q6), .second, .val (.int v3_1), .val (.int v11_2), .val (.int z17_a3), .val (.long z35_a6), .second, .val (.long z52_a9), .second, .val (.int z70_a12), .unset, .unset, .unset, .unset, .unset] [(.int v11_2)])) _
      subst hz92_a15
      exact k
    · first | rw [if_neg hc92_16] at hz92_a15 | skip
      refine XS.ifNo X0.here hx rfl (hb hby at_92) rfl ((if0 _ _).trans (feq hc92_16).1) ?_
      show Steps p.tables e below (s₁.setTop (mkF m 95 #[.val (.int p1), .val (.long q2), .second, .val (.long q3), .second, .val (.int p4), .val (.int p5), .val (.long q6), .second, .val (.int v3_1), .val (.int v11_2), .val (.int z17_a3), .val (.long z35_a6), .second, .val (.long z52_a9), .second, .val (.int z70_a12), .unset, .unset, .unset, .unset, .unset] [])) _
      refine XS.iload X0.here hx rfl (hb hby at_95) rfl ?_
      show Steps p.tables e below (s₁.setTop (mkF m 97 #[.val (.int p1), .val (.long q2), .second, .val (.long q3), .second, .val (.int p4), .val (.int p5), .val (.long q6), .second, .val (.int v3_1), .val (.int v11_2), .val (.int z17_a3), .val (.long z35_a6), .second, .val (.long z52_a9), .second, .val (.int z70_a12), .unset, .unset, .unset, .unset, .unset] [(.int v11_2)])) _
      refine XS.lload X0.here hx rfl (hb hby at_97) rfl ?_
      show Steps p.tables e below (s₁.setTop (mkF m 99 #[.val (.int p1), .val (.long q2), .second, .val (.long q3), .second, .val (.int p4), .val (.int p5), .val (.long q6), .second, .val (.int v3_1), .val (.int v11_2), .val (.int z17_a3), .val (.long z35_a6), .second, .val (.long z52_a9), .second, .val (.int z70_a12), .unset, .unset, .unset, .unset, .unset] [(.long q6), (.int v11_2)])) _
      refine XS.bipush X0.here hx rfl (hb hby at_99) ?_
      show Steps p.tables e below (s₁.setTop (mkF m 101 #[.val (.int p1), .val (.long q2), .second, .val (.long q3), .second, .val (.int p4), .val (.int p5), .val (.long q6), .second, .val (.int v3_1), .val (.int v11_2), .val (.int z17_a3), .val (.long z35_a6), .second, .val (.long z52_a9), .second, .val (.int z70_a12), .unset, .unset, .unset, .unset, .unset] [(.int (16 : Int32)), (.long q6), (.int v11_2)])) _
      refine XS.lushr X0.here hx rfl (hb hby at_101) rfl ?_
      show Steps p.tables e below (s₁.setTop (mkF m 102 #[.val (.int p1), .val (.long q2), .second, .val (.long q3), .second, .val (.int p4), .val (.int p5), .val (.long q6), .second, .val (.int v3_1), .val (.int v11_2), .val (.int z17_a3), .val (.long z35_a6), .second, .val (.long z52_a9), .second, .val (.int z70_a12), .unset, .unset, .unset, .unset, .unset] [(.long ((q6.toUInt64 >>> ((16 : Int32) &&& 0x3f).toInt64.toUInt64).toInt64)), (.int v11_2)])) _
      refine XS.l2i X0.here hx rfl (hb hby at_102) rfl ?_
      show Steps p.tables e below (s₁.setTop (mkF m 103 #[.val (.int p1), .val (.long q2), .second, .val (.long q3), .second, .val (.int p4), .val (.int p5), .val (.long q6), .second, .val (.int v3_1), .val (.int v11_2), .val (.int z17_a3), .val (.long z35_a6), .second, .val (.long z52_a9), .second, .val (.int z70_a12), .unset, .unset, .unset, .unset, .unset] [(.int (((q6.toUInt64 >>> ((16 : Int32) &&& 0x3f).toInt64.toUInt64).toInt64).toInt32)), (.int v11_2)])) _
      refine XS.ixor X0.here hx rfl (hb hby at_103) rfl ?_
      show Steps p.tables e below (s₁.setTop (mkF m 104 #[.val (.int p1), .val (.long q2), .second, .val (.long q3), .second, .val (.int p4), .val (.int p5), .val (.long q6), .second, .val (.int v3_1), .val (.int v11_2), .val (.int z17_a3), .val (.long z35_a6), .second, .val (.long z52_a9), .second, .val (.int z70_a12), .unset, .unset, .unset, .unset, .unset] [(.int (v11_2 ^^^ (((q6.toUInt64 >>> ((16 : Int32) &&& 0x3f).toInt64.toUInt64).toInt64).toInt32)))])) _
      refine XS.i2s X0.here hx rfl (hb hby at_104) rfl ?_
      show Steps p.tables e below (s₁.setTop (mkF m 105 #[.val (.int p1), .val (.long q2), .second, .val (.long q3), .second, .val (.int p4), .val (.int p5), .val (.long q6), .second, .val (.int v3_1), .val (.int v11_2), .val (.int z17_a3), .val (.long z35_a6), .second, .val (.long z52_a9), .second, .val (.int z70_a12), .unset, .unset, .unset, .unset, .unset] [(.int ((v11_2 ^^^ (((q6.toUInt64 >>> ((16 : Int32) &&& 0x3f).toInt64.toUInt64).toInt64).toInt32)).toInt16.toInt32))])) _
      refine XS.goto X0.here hx rfl (pc0 := 105) (pc' := 110) rfl (hb hby at_105) (by decide) (by decide) ?_
      show Steps p.tables e below (s₁.setTop (mkF m 110 #[.val (.int p1), .val (.long q2), .second, .val (.long q3), .second, .val (.int p4), .val (.int p5), .val (.long q6), .second, .val (.int v3_1), .val (.int v11_2), .val (.int z17_a3), .val (.long z35_a6), .second, .val (.long z52_a9), .second, .val (.int z70_a12), .unset, .unset, .unset, .unset, .unset] [(.int ((v11_2 ^^^ (((q6.toUInt64 >>> ((16 : Int32) &&& 0x3f).toInt64.toUInt64).toInt64).toInt32)).toInt16.toInt32))])) _
      subst hz92_a15
      exact k
  obtain ⟨z92_a15, hz92_a15⟩ : ∃ z, z = (if (p5 &&& (16 : Int32)) = (0 : Int32) then v11_2 else ((v11_2 ^^^ (((q6.toUInt64 >>> ((16 : Int32) &&& 0x3f).toInt64.toUInt64).toInt64).toInt32)).toInt16.toInt32)) := ⟨_, rfl⟩
  refine Go.on (sg92_15 z92_a15 hz92_a15) ?_
  refine Go.on (B := s₁.setTop (mkF m 112 #[.val (.int p1), .val (.long q2), .second, .val (.long q3), .second, .val (.int p4), .val (.int p5), .val (.long q6), .second, .val (.int v3_1), .val (.int v11_2), .val (.int z17_a3), .val (.long z35_a6), .second, .val (.long z52_a9), .second, .val (.int z70_a12), .val (.int z92_a15), .unset, .unset, .unset, .unset] [])) (fun t k => XS.istore X0.here hx rfl (hb hby at_110) rfl (l' := #[.val (.int p1), .val (.long q2), .second, .val (.long q3), .second, .val (.int p4), .val (.int p5), .val (.long q6), .second, .val (.int v3_1), .val (.int v11_2), .val (.int z17_a3), .val (.long z35_a6), .second, .val (.long z52_a9), .second, .val (.int z70_a12), .val (.int z92_a15), .unset, .unset, .unset, .unset]) rfl k) ?_
  have nl : nar .short v3_1 = v3_1 := by rw [← hv3_1]; exact own_nar _
  have nt : nar .short v11_2 = v11_2 := by rw [← hv11_2]; exact own_nar _
  have nl2 : nar .short z70_a12 = z70_a12 := own_nar2 _ _ _ _ (hz70_a12.trans (by rw [← hv3_1]))
  have nt2 : nar .short z92_a15 = z92_a15 := own_nar2 _ _ _ _ (hz92_a15.trans (by rw [← hv11_2]))
  obtain ⟨T18, h18, X18, e18, E18, A18, D18, -, st18⟩ := newO X0 hx hZ hown (hw _ (List.mem_of_getElem? (i := 0) rfl)) (hw _ (List.mem_of_getElem? (i := 1) rfl)) (hw _ (List.mem_of_getElem? (i := 2) rfl)) e0 (g := (mkF m 112 #[.val (.int p1), .val (.long q2), .second, .val (.long q3), .second, .val (.int p4), .val (.int p5), .val (.long q6), .second, .val (.int v3_1), .val (.int v11_2), .val (.int z17_a3), .val (.long z35_a6), .second, .val (.long z52_a9), .second, .val (.int z70_a12), .val (.int z92_a15), .unset, .unset, .unset, .unset] [])) rfl (hb hby at_112) (by decide) (by decide)
  obtain ⟨b18, g18⟩ : ∃ z, z = h0.size := ⟨_, rfl⟩
  rw [← g18] at A18 D18 st18
  have ge_b18 : n0 ≤ b18 := Nat.le_trans Z0 (Nat.le_of_eq g18.symm)
  have O_1 := O0.ext E18
  have Zs2 := Nat.le_trans Z0 E18.1
  have F18_node : Fld Z h18 b18 "com/example/pankti/pankti/engine/JobId" "node" "I" (.int (0 : Int32)) := D18 (Or.inr (hw _ (List.mem_of_getElem? (i := 10) rfl))) (ty := .int) (by decide)
  have F18_randomHigh : Fld Z h18 b18 "com/example/pankti/pankti/engine/JobId" "randomHigh" "J" (.long (0 : Int64)) := D18 (Or.inr (hw _ (List.mem_of_getElem? (i := 12) rfl))) (ty := .long) (by decide)
  have F18_randomMiddle : Fld Z h18 b18 "com/example/pankti/pankti/engine/JobId" "randomMiddle" "J" (.long (0 : Int64)) := D18 (Or.inr (hw _ (List.mem_of_getElem? (i := 14) rfl))) (ty := .long) (by decide)
  have F18_randomLow : Fld Z h18 b18 "com/example/pankti/pankti/engine/JobId" "randomLow" "S" (.int (0 : Int32)) := D18 (Or.inr (hw _ (List.mem_of_getElem? (i := 16) rfl))) (ty := .short) (by decide)
  have F18_ttlField : Fld Z h18 b18 "com/example/pankti/pankti/engine/JobId" "ttlField" "S" (.int (0 : Int32)) := D18 (Or.inr (hw _ (List.mem_of_getElem? (i := 18) rfl))) (ty := .short) (by decide)
  refine Go.on (B := T18.setTop (mkF m 115 #[.val (.int p1), .val (.long q2), .second, .val (.long q3), .second, .val (.int p4), .val (.int p5), .val (.long q6), .second, .val (.int v3_1), .val (.int v11_2), .val (.int z17_a3), .val (.long z35_a6), .second, .val (.long z52_a9), .second, .val (.int z70_a12), .val (.int z92_a15), .unset, .unset, .unset, .unset] [(.ref b18)])) (fun t k => st18 _ k) ?_
  refine Go.on (B := T18.setTop (mkF m 116 #[.val (.int p1), .val (.long q2), .second, .val (.long q3), .second, .val (.int p4), .val (.int p5), .val (.long q6), .second, .val (.int v3_1), .val (.int v11_2), .val (.int z17_a3), .val (.long z35_a6), .second, .val (.long z52_a9), .second, .val (.int z70_a12), .val (.int z92_a15), .unset, .unset, .unset, .unset] [(.ref b18), (.ref b18)])) (fun t k => XS.dup X18.here hx rfl (hb hby at_115) rfl rfl k) ?_
  refine Go.on (B := T18.setTop (mkF m 117 #[.val (.int p1), .val (.long q2), .second, .val (.long q3), .second, .val (.int p4), .val (.int p5), .val (.long q6), .second, .val (.int v3_1), .val (.int v11_2), .val (.int z17_a3), .val (.long z35_a6), .second, .val (.long z52_a9), .second, .val (.int z70_a12), .val (.int z92_a15), .unset, .unset, .unset, .unset] [(.int p1), (.ref b18), (.ref b18)])) (fun t k => XS.iloadN X18.here hx rfl (hb hby at_116) rfl k) ?_
  refine Go.on (B := T18.setTop (mkF m 118 #[.val (.int p1), .val (.long q2), .second, .val (.long q3), .second, .val (.int p4), .val (.int p5), .val (.long q6), .second, .val (.int v3_1), .val (.int v11_2), .val (.int z17_a3), .val (.long z35_a6), .second, .val (.long z52_a9), .second, .val (.int z70_a12), .val (.int z92_a15), .unset, .unset, .unset, .unset] [(.long q2), (.int p1), (.ref b18), (.ref b18)])) (fun t k => XS.lloadN X18.here hx rfl (hb hby at_117) rfl k) ?_
  refine Go.on (B := T18.setTop (mkF m 119 #[.val (.int p1), .val (.long q2), .second, .val (.long q3), .second, .val (.int p4), .val (.int p5), .val (.long q6), .second, .val (.int v3_1), .val (.int v11_2), .val (.int z17_a3), .val (.long z35_a6), .second, .val (.long z52_a9), .second, .val (.int z70_a12), .val (.int z92_a15), .unset, .unset, .unset, .unset] [(.long q3), (.long q2), (.int p1), (.ref b18), (.ref b18)])) (fun t k => XS.lloadN X18.here hx rfl (hb hby at_118) rfl k) ?_
  refine Go.on (B := T18.setTop (mkF m 121 #[.val (.int p1), .val (.long q2), .second, .val (.long q3), .second, .val (.int p4), .val (.int p5), .val (.long q6), .second, .val (.int v3_1), .val (.int v11_2), .val (.int z17_a3), .val (.long z35_a6), .second, .val (.long z52_a9), .second, .val (.int z70_a12), .val (.int z92_a15), .unset, .unset, .unset, .unset] [(.int v3_1), (.long q3), (.long q2), (.int p1), (.ref b18), (.ref b18)])) (fun t k => XS.iload X18.here hx rfl (hb hby at_119) rfl k) ?_
  refine Go.on (B := T18.setTop (mkF m 123 #[.val (.int p1), .val (.long q2), .second, .val (.long q3), .second, .val (.int p4), .val (.int p5), .val (.long q6), .second, .val (.int v3_1), .val (.int v11_2), .val (.int z17_a3), .val (.long z35_a6), .second, .val (.long z52_a9), .second, .val (.int z70_a12), .val (.int z92_a15), .unset, .unset, .unset, .unset] [(.int v11_2), (.int v3_1), (.long q3), (.long q2), (.int p1), (.ref b18), (.ref b18)])) (fun t k => XS.iload X18.here hx rfl (hb hby at_121) rfl k) ?_
  obtain ⟨_, _, ⟨T19, L19, k19, n19⟩, -, X19, ⟨Lc19, hQ19, l19, y19, z19⟩, st19⟩ := X18.specialBack hx (y := (⟨"com/example/pankti/pankti/engine/JobId", "<init>", "(IJJSS)V"⟩ : MethodName)) rfl hown (mvT hZ (hw _ (List.mem_of_getElem? (i := 3) rfl))) (mvT hZ (hw _ (List.mem_of_getElem? (i := 4) rfl))) (mvT hZ (hw _ (List.mem_of_getElem? (i := 5) rfl))) (by decide) (backOf (W := 1) (rini l Z a0 hw [] b18 p1 q2 q3 v3_1 v11_2 h18 n0 Zs2 A18 F18_node F18_randomHigh F18_randomMiddle F18_randomLow F18_ttlField ge_b18) hZ (hw _ (List.mem_of_getElem? (i := 5) rfl)) (hw _ (List.mem_of_getElem? (i := 2) rfl)) (by decide) (by decide)) (g := (mkF m 123 #[.val (.int p1), .val (.long q2), .second, .val (.long q3), .second, .val (.int p4), .val (.int p5), .val (.long q6), .second, .val (.int v3_1), .val (.int v11_2), .val (.int z17_a3), .val (.long z35_a6), .second, .val (.long z52_a9), .second, .val (.int z70_a12), .val (.int z92_a15), .unset, .unset, .unset, .unset] [(.int v11_2), (.int v3_1), (.long q3), (.long q2), (.int p1), (.ref b18), (.ref b18)])) rfl (by rw [hml]; rfl) (Steps.refl _) (a := b18) (argsL := [(.int p1), (.long q2), (.long q3), (.int v3_1), (.int v11_2)]) (rest := [(.ref b18)]) (lenOf pd_2 rfl) rfl (by show 2 * 0 + _ ≤ _; exact Nat.le_of_eq rfl) (hb hby at_123) (fun _ _ => ⟨rfl, e18, (by decide : 1 + 0 ≤ _), (by decide : 5 + 0 ≤ _)⟩)
  dsimp only [Pt.U, Pt.locs, Pt.cells, Pt.slots] at X19 l19 y19 z19 st19 hQ19
  subst l19 y19 z19
  obtain ⟨rfl, N19q, K19q, G19_0, G19_1, G19_2, G19_3, G19_4, G19_5⟩ := hQ19
  have N19 := Fr.app N0 N19q
  have O_3 := O_1.keep K19q (allS ge_b18 all0)
  have f4 := A18.keep K19q
  have Zs5 := Nat.le_trans Zs2 K19q.1
  refine Go.on (B := T19.setTop (mkF m 126 #[.val (.int p1), .val (.long q2), .second, .val (.long q3), .second, .val (.int p4), .val (.int p5), .val (.long q6), .second, .val (.int v3_1), .val (.int v11_2), .val (.int z17_a3), .val (.long z35_a6), .second, .val (.long z52_a9), .second, .val (.int z70_a12), .val (.int z92_a15), .unset, .unset, .unset, .unset] [(.ref b18)])) (fun t k => st19.trans k) ?_
  refine Go.on (B := T19.setTop (mkF m 128 #[.val (.int p1), .val (.long q2), .second, .val (.long q3), .second, .val (.int p4), .val (.int p5), .val (.long q6), .second, .val (.int v3_1), .val (.int v11_2), .val (.int z17_a3), .val (.long z35_a6), .second, .val (.long z52_a9), .second, .val (.int z70_a12), .val (.int z92_a15), .val (.ref b18), .unset, .unset, .unset] [])) (fun t k => XS.astore X19.here hx rfl (hb hby at_126) rfl rfl (l' := #[.val (.int p1), .val (.long q2), .second, .val (.long q3), .second, .val (.int p4), .val (.int p5), .val (.long q6), .second, .val (.int v3_1), .val (.int v11_2), .val (.int z17_a3), .val (.long z35_a6), .second, .val (.long z52_a9), .second, .val (.int z70_a12), .val (.int z92_a15), .val (.ref b18), .unset, .unset, .unset]) rfl k) ?_
  obtain ⟨T20, h20, X20, e20, E20, A20, D20, -, st20⟩ := newO X19 hx hZ hown (hw _ (List.mem_of_getElem? (i := 0) rfl)) (hw _ (List.mem_of_getElem? (i := 1) rfl)) (hw _ (List.mem_of_getElem? (i := 2) rfl)) rfl (g := (mkF m 128 #[.val (.int p1), .val (.long q2), .second, .val (.long q3), .second, .val (.int p4), .val (.int p5), .val (.long q6), .second, .val (.int v3_1), .val (.int v11_2), .val (.int z17_a3), .val (.long z35_a6), .second, .val (.long z52_a9), .second, .val (.int z70_a12), .val (.int z92_a15), .val (.ref b18), .unset, .unset, .unset] [])) rfl (hb hby at_128) (by decide) (by decide)
  obtain ⟨b20, g20⟩ : ∃ z, z = T19.heap.size := ⟨_, rfl⟩
  rw [← g20] at A20 D20 st20
  have ge_b20 : n0 ≤ b20 := Nat.le_trans Zs5 (Nat.le_of_eq g20.symm)
  have ne_b18_b20 : b18 ≠ b20 := Nat.ne_of_lt (Nat.lt_of_lt_of_le G19_0.lt (Nat.le_of_eq g20.symm))
  have O_6 := O_3.ext E20
  have f7 := G19_0.ext E20
  have f8 := G19_1.ext E20
  have f9 := G19_2.ext E20
  have f10 := G19_3.ext E20
  have f11 := G19_4.ext E20
  have f12 := G19_5.ext E20
  have Zs13 := Nat.le_trans Zs5 E20.1
  have F20_node : Fld Z h20 b20 "com/example/pankti/pankti/engine/JobId" "node" "I" (.int (0 : Int32)) := D20 (Or.inr (hw _ (List.mem_of_getElem? (i := 10) rfl))) (ty := .int) (by decide)
  have F20_randomHigh : Fld Z h20 b20 "com/example/pankti/pankti/engine/JobId" "randomHigh" "J" (.long (0 : Int64)) := D20 (Or.inr (hw _ (List.mem_of_getElem? (i := 12) rfl))) (ty := .long) (by decide)
  have F20_randomMiddle : Fld Z h20 b20 "com/example/pankti/pankti/engine/JobId" "randomMiddle" "J" (.long (0 : Int64)) := D20 (Or.inr (hw _ (List.mem_of_getElem? (i := 14) rfl))) (ty := .long) (by decide)
  have F20_randomLow : Fld Z h20 b20 "com/example/pankti/pankti/engine/JobId" "randomLow" "S" (.int (0 : Int32)) := D20 (Or.inr (hw _ (List.mem_of_getElem? (i := 16) rfl))) (ty := .short) (by decide)
  have F20_ttlField : Fld Z h20 b20 "com/example/pankti/pankti/engine/JobId" "ttlField" "S" (.int (0 : Int32)) := D20 (Or.inr (hw _ (List.mem_of_getElem? (i := 18) rfl))) (ty := .short) (by decide)
  refine Go.on (B := T20.setTop (mkF m 131 #[.val (.int p1), .val (.long q2), .second, .val (.long q3), .second, .val (.int p4), .val (.int p5), .val (.long q6), .second, .val (.int v3_1), .val (.int v11_2), .val (.int z17_a3), .val (.long z35_a6), .second, .val (.long z52_a9), .second, .val (.int z70_a12), .val (.int z92_a15), .val (.ref b18), .unset, .unset, .unset] [(.ref b20)])) (fun t k => st20 _ k) ?_
  refine Go.on (B := T20.setTop (mkF m 132 #[.val (.int p1), .val (.long q2), .second, .val (.long q3), .second, .val (.int p4), .val (.int p5), .val (.long q6), .second, .val (.int v3_1), .val (.int v11_2), .val (.int z17_a3), .val (.long z35_a6), .second, .val (.long z52_a9), .second, .val (.int z70_a12), .val (.int z92_a15), .val (.ref b18), .unset, .unset, .unset] [(.ref b20), (.ref b20)])) (fun t k => XS.dup X20.here hx rfl (hb hby at_131) rfl rfl k) ?_
  refine Go.on (B := T20.setTop (mkF m 134 #[.val (.int p1), .val (.long q2), .second, .val (.long q3), .second, .val (.int p4), .val (.int p5), .val (.long q6), .second, .val (.int v3_1), .val (.int v11_2), .val (.int z17_a3), .val (.long z35_a6), .second, .val (.long z52_a9), .second, .val (.int z70_a12), .val (.int z92_a15), .val (.ref b18), .unset, .unset, .unset] [(.int z17_a3), (.ref b20), (.ref b20)])) (fun t k => XS.iload X20.here hx rfl (hb hby at_132) rfl k) ?_
  refine Go.on (B := T20.setTop (mkF m 136 #[.val (.int p1), .val (.long q2), .second, .val (.long q3), .second, .val (.int p4), .val (.int p5), .val (.long q6), .second, .val (.int v3_1), .val (.int v11_2), .val (.int z17_a3), .val (.long z35_a6), .second, .val (.long z52_a9), .second, .val (.int z70_a12), .val (.int z92_a15), .val (.ref b18), .unset, .unset, .unset] [(.long z35_a6), (.int z17_a3), (.ref b20), (.ref b20)])) (fun t k => XS.lload X20.here hx rfl (hb hby at_134) rfl k) ?_
  refine Go.on (B := T20.setTop (mkF m 138 #[.val (.int p1), .val (.long q2), .second, .val (.long q3), .second, .val (.int p4), .val (.int p5), .val (.long q6), .second, .val (.int v3_1), .val (.int v11_2), .val (.int z17_a3), .val (.long z35_a6), .second, .val (.long z52_a9), .second, .val (.int z70_a12), .val (.int z92_a15), .val (.ref b18), .unset, .unset, .unset] [(.long z52_a9), (.long z35_a6), (.int z17_a3), (.ref b20), (.ref b20)])) (fun t k => XS.lload X20.here hx rfl (hb hby at_136) rfl k) ?_
  refine Go.on (B := T20.setTop (mkF m 140 #[.val (.int p1), .val (.long q2), .second, .val (.long q3), .second, .val (.int p4), .val (.int p5), .val (.long q6), .second, .val (.int v3_1), .val (.int v11_2), .val (.int z17_a3), .val (.long z35_a6), .second, .val (.long z52_a9), .second, .val (.int z70_a12), .val (.int z92_a15), .val (.ref b18), .unset, .unset, .unset] [(.int z70_a12), (.long z52_a9), (.long z35_a6), (.int z17_a3), (.ref b20), (.ref b20)])) (fun t k => XS.iload X20.here hx rfl (hb hby at_138) rfl k) ?_
  refine Go.on (B := T20.setTop (mkF m 142 #[.val (.int p1), .val (.long q2), .second, .val (.long q3), .second, .val (.int p4), .val (.int p5), .val (.long q6), .second, .val (.int v3_1), .val (.int v11_2), .val (.int z17_a3), .val (.long z35_a6), .second, .val (.long z52_a9), .second, .val (.int z70_a12), .val (.int z92_a15), .val (.ref b18), .unset, .unset, .unset] [(.int z92_a15), (.int z70_a12), (.long z52_a9), (.long z35_a6), (.int z17_a3), (.ref b20), (.ref b20)])) (fun t k => XS.iload X20.here hx rfl (hb hby at_140) rfl k) ?_
  obtain ⟨_, _, ⟨T21, L21, k21, n21⟩, -, X21, ⟨Lc21, hQ21, l21, y21, z21⟩, st21⟩ := X20.specialBack hx (y := (⟨"com/example/pankti/pankti/engine/JobId", "<init>", "(IJJSS)V"⟩ : MethodName)) rfl hown (mvT hZ (hw _ (List.mem_of_getElem? (i := 3) rfl))) (mvT hZ (hw _ (List.mem_of_getElem? (i := 4) rfl))) (mvT hZ (hw _ (List.mem_of_getElem? (i := 5) rfl))) (by decide) (backOf (W := 1) (rini l Z a0 hw [] b20 z17_a3 z35_a6 z52_a9 z70_a12 z92_a15 h20 n0 Zs13 A20 F20_node F20_randomHigh F20_randomMiddle F20_randomLow F20_ttlField ge_b20) hZ (hw _ (List.mem_of_getElem? (i := 5) rfl)) (hw _ (List.mem_of_getElem? (i := 2) rfl)) (by decide) (by decide)) (g := (mkF m 142 #[.val (.int p1), .val (.long q2), .second, .val (.long q3), .second, .val (.int p4), .val (.int p5), .val (.long q6), .second, .val (.int v3_1), .val (.int v11_2), .val (.int z17_a3), .val (.long z35_a6), .second, .val (.long z52_a9), .second, .val (.int z70_a12), .val (.int z92_a15), .val (.ref b18), .unset, .unset, .unset] [(.int z92_a15), (.int z70_a12), (.long z52_a9), (.long z35_a6), (.int z17_a3), (.ref b20), (.ref b20)])) rfl (by rw [hml]; rfl) (Steps.refl _) (a := b20) (argsL := [(.int z17_a3), (.long z35_a6), (.long z52_a9), (.int z70_a12), (.int z92_a15)]) (rest := [(.ref b20)]) (lenOf pd_2 rfl) rfl (by show 2 * 0 + _ ≤ _; exact Nat.le_of_eq rfl) (hb hby at_142) (fun _ _ => ⟨rfl, e20, (by decide : 2 + 0 ≤ _), (by decide : 10 + 0 ≤ _)⟩)
  dsimp only [Pt.U, Pt.locs, Pt.cells, Pt.slots] at X21 l21 y21 z21 st21 hQ21
  subst l21 y21 z21
  obtain ⟨rfl, N21q, K21q, G21_0, G21_1, G21_2, G21_3, G21_4, G21_5⟩ := hQ21
  have N21 := Fr.app N19 N21q
  have O_14 := O_6.keep K21q (allS ge_b20 all0)
  have f15 := f7.keep K21q
  have f16 := f8.keep K21q (ninS ne_b18_b20 nin0)
  have f17 := f9.keep K21q (ninS ne_b18_b20 nin0)
  have f18 := f10.keep K21q (ninS ne_b18_b20 nin0)
  have f19 := f11.keep K21q (ninS ne_b18_b20 nin0)
  have f20 := f12.keep K21q (ninS ne_b18_b20 nin0)
  have f21 := A20.keep K21q
  have Zs22 := Nat.le_trans Zs13 K21q.1
  refine Go.on (B := T21.setTop (mkF m 145 #[.val (.int p1), .val (.long q2), .second, .val (.long q3), .second, .val (.int p4), .val (.int p5), .val (.long q6), .second, .val (.int v3_1), .val (.int v11_2), .val (.int z17_a3), .val (.long z35_a6), .second, .val (.long z52_a9), .second, .val (.int z70_a12), .val (.int z92_a15), .val (.ref b18), .unset, .unset, .unset] [(.ref b20)])) (fun t k => st21.trans k) ?_
  refine Go.on (B := T21.setTop (mkF m 147 #[.val (.int p1), .val (.long q2), .second, .val (.long q3), .second, .val (.int p4), .val (.int p5), .val (.long q6), .second, .val (.int v3_1), .val (.int v11_2), .val (.int z17_a3), .val (.long z35_a6), .second, .val (.long z52_a9), .second, .val (.int z70_a12), .val (.int z92_a15), .val (.ref b18), .val (.ref b20), .unset, .unset] [])) (fun t k => XS.astore X21.here hx rfl (hb hby at_145) rfl rfl (l' := #[.val (.int p1), .val (.long q2), .second, .val (.long q3), .second, .val (.int p4), .val (.int p5), .val (.long q6), .second, .val (.int v3_1), .val (.int v11_2), .val (.int z17_a3), .val (.long z35_a6), .second, .val (.long z52_a9), .second, .val (.int z70_a12), .val (.int z92_a15), .val (.ref b18), .val (.ref b20), .unset, .unset]) rfl k) ?_
  refine Go.on (B := T21.setTop (mkF m 148 #[.val (.int p1), .val (.long q2), .second, .val (.long q3), .second, .val (.int p4), .val (.int p5), .val (.long q6), .second, .val (.int v3_1), .val (.int v11_2), .val (.int z17_a3), .val (.long z35_a6), .second, .val (.long z52_a9), .second, .val (.int z70_a12), .val (.int z92_a15), .val (.ref b18), .val (.ref b20), .unset, .unset] [(.int p1)])) (fun t k => XS.iloadN X21.here hx rfl (hb hby at_147) rfl k) ?_
  refine Go.on (B := T21.setTop (mkF m 150 #[.val (.int p1), .val (.long q2), .second, .val (.long q3), .second, .val (.int p4), .val (.int p5), .val (.long q6), .second, .val (.int v3_1), .val (.int v11_2), .val (.int z17_a3), .val (.long z35_a6), .second, .val (.long z52_a9), .second, .val (.int z70_a12), .val (.int z92_a15), .val (.ref b18), .val (.ref b20), .unset, .unset] [(.int z17_a3), (.int p1)])) (fun t k => XS.iload X21.here hx rfl (hb hby at_148) rfl k) ?_
  have sg150_22 : ∀ (z150_a22 : Int32) (hz150_a22 : z150_a22 = (if p1 = z17_a3 then (if q2 = z35_a6 then (if q3 = z52_a9 then (if v3_1 = z70_a12 then (if v11_2 = z92_a15 then (1 : Int32) else (0 : Int32)) else (0 : Int32)) else (0 : Int32)) else (0 : Int32)) else (0 : Int32))), ∀ t, Steps p.tables e below (T21.setTop (mkF m 186 #[.val (.int p1), .val (.long q2), .second, .val (.long q3), .second, .val (.int p4), .val (.int p5), .val (.long q6), .second, .val (.int v3_1), .val (.int v11_2), .val (.int z17_a3), .val (.long z35_a6), .second, .val (.long z52_a9), .second, .val (.int z70_a12), .val (.int z92_a15), .val (.ref b18), .val (.ref b20), .unset, .unset] [(.int z150_a22)])) t → Steps p.tables e below (T21.setTop (mkF m 150 #[.val (.int p1), .val (.long q2), .second, .val (.long q3), .second, .val (.int p4), .val (.int p5), .val (.long q6), .second, .val (.int v3_1), .val (.int v11_2), .val (.int z17_a3), .val (.long z35_a6), .second, .val (.long z52_a9), .second, .val (.int z70_a12), .val (.int z92_a15), .val (.ref b18), .val (.ref b20), .unset, .unset] [(.int z17_a3), (.int p1)])) t := by
    intro z150_a22 hz150_a22 t k
    show Steps p.tables e below (T21.setTop (mkF m 150 #[.val (.int p1), .val (.long q2), .second, .val (.long q3), .second, .val (.int p4), .val (.int p5), .val (.long q6), .second, .val (.int v3_1), .val (.int v11_2), .val (.int z17_a3), .val (.long z35_a6), .second, .val (.long z52_a9), .second, .val (.int z70_a12), .val (.int z92_a15), .val (.ref b18), .val (.ref b20), .unset, .unset] [(.int z17_a3), (.int p1)])) _
    by_cases hc150_23 : p1 = z17_a3
    · first | rw [if_pos hc150_23] at hz150_a22 | skip
      refine XS.icmpNo X21.here hx rfl (hb hby at_150) rfl (teq hc150_23).2 ?_
      show Steps p.tables e below (T21.setTop (mkF m 153 #[.val (.int p1), .val (.long q2), .second, .val (.long q3), .second, .val (.int p4), .val (.int p5), .val (.long q6), .second, .val (.int v3_1), .val (.int v11_2), .val (.int z17_a3), .val (.long z35_a6), .second, .val (.long z52_a9), .second, .val (.int z70_a12), .val (.int z92_a15), .val (.ref b18), .val (.ref b20), .unset, .unset] [])) _
      refine XS.lloadN X21.here hx rfl (hb hby at_153) rfl ?_
      show Steps p.tables e below (T21.setTop (mkF m 154 #[.val (.int p1), .val (.long q2), .second, .val (.long q3), .second, .val (.int p4), .val (.int p5), .val (.long q6), .second, .val (.int v3_1), .val (.int v11_2), .val (.int z17_a3), .val (.long z35_a6), .second, .val (.long z52_a9), .second, .val (.int z70_a12), .val (.int z92_a15), .val (.ref b18), .val (.ref b20), .unset, .unset] [(.long q2)])) _
      refine XS.lload X21.here hx rfl (hb hby at_154) rfl ?_
      show Steps p.tables e below (T21.setTop (mkF m 156 #[.val (.int p1), .val (.long q2), .second, .val (.long q3), .second, .val (.int p4), .val (.int p5), .val (.long q6), .second, .val (.int v3_1), .val (.int v11_2), .val (.int z17_a3), .val (.long z35_a6), .second, .val (.long z52_a9), .second, .val (.int z70_a12), .val (.int z92_a15), .val (.ref b18), .val (.ref b20), .unset, .unset] [(.long z35_a6), (.long q2)])) _
      refine XS.lcmp X21.here hx rfl (hb hby at_156) rfl ?_
      show Steps p.tables e below (T21.setTop (mkF m 157 #[.val (.int p1), .val (.long q2), .second, .val (.long q3), .second, .val (.int p4), .val (.int p5), .val (.long q6), .second, .val (.int v3_1), .val (.int v11_2), .val (.int z17_a3), .val (.long z35_a6), .second, .val (.long z52_a9), .second, .val (.int z70_a12), .val (.int z92_a15), .val (.ref b18), .val (.ref b20), .unset, .unset] [(.int (lcmpW q2 z35_a6))])) _
      by_cases hc157_24 : q2 = z35_a6
      · first | rw [if_pos hc157_24] at hz150_a22 | skip
        refine XS.ifNo X21.here hx rfl (hb hby at_157) rfl ((if0 _ _).trans (teq ((lw_eq _ _).mpr hc157_24)).2) ?_
        show Steps p.tables e below (T21.setTop (mkF m 160 #[.val (.int p1), .val (.long q2), .second, .val (.long q3), .second, .val (.int p4), .val (.int p5), .val (.long q6), .second, .val (.int v3_1), .val (.int v11_2), .val (.int z17_a3), .val (.long z35_a6), .second, .val (.long z52_a9), .second, .val (.int z70_a12), .val (.int z92_a15), .val (.ref b18), .val (.ref b20), .unset, .unset] [])) _
        refine XS.lloadN X21.here hx rfl (hb hby at_160) rfl ?_
        show Steps p.tables e below (T21.setTop (mkF m 161 #[.val (.int p1), .val (.long q2), .second, .val (.long q3), .second, .val (.int p4), .val (.int p5), .val (.long q6), .second, .val (.int v3_1), .val (.int v11_2), .val (.int z17_a3), .val (.long z35_a6), .second, .val (.long z52_a9), .second, .val (.int z70_a12), .val (.int z92_a15), .val (.ref b18), .val (.ref b20), .unset, .unset] [(.long q3)])) _
        refine XS.lload X21.here hx rfl (hb hby at_161) rfl ?_
        show Steps p.tables e below (T21.setTop (mkF m 163 #[.val (.int p1), .val (.long q2), .second, .val (.long q3), .second, .val (.int p4), .val (.int p5), .val (.long q6), .second, .val (.int v3_1), .val (.int v11_2), .val (.int z17_a3), .val (.long z35_a6), .second, .val (.long z52_a9), .second, .val (.int z70_a12), .val (.int z92_a15), .val (.ref b18), .val (.ref b20), .unset, .unset] [(.long z52_a9), (.long q3)])) _
        refine XS.lcmp X21.here hx rfl (hb hby at_163) rfl ?_
        show Steps p.tables e below (T21.setTop (mkF m 164 #[.val (.int p1), .val (.long q2), .second, .val (.long q3), .second, .val (.int p4), .val (.int p5), .val (.long q6), .second, .val (.int v3_1), .val (.int v11_2), .val (.int z17_a3), .val (.long z35_a6), .second, .val (.long z52_a9), .second, .val (.int z70_a12), .val (.int z92_a15), .val (.ref b18), .val (.ref b20), .unset, .unset] [(.int (lcmpW q3 z52_a9))])) _
        by_cases hc164_25 : q3 = z52_a9
        · first | rw [if_pos hc164_25] at hz150_a22 | skip
          refine XS.ifNo X21.here hx rfl (hb hby at_164) rfl ((if0 _ _).trans (teq ((lw_eq _ _).mpr hc164_25)).2) ?_
          show Steps p.tables e below (T21.setTop (mkF m 167 #[.val (.int p1), .val (.long q2), .second, .val (.long q3), .second, .val (.int p4), .val (.int p5), .val (.long q6), .second, .val (.int v3_1), .val (.int v11_2), .val (.int z17_a3), .val (.long z35_a6), .second, .val (.long z52_a9), .second, .val (.int z70_a12), .val (.int z92_a15), .val (.ref b18), .val (.ref b20), .unset, .unset] [])) _
          refine XS.iload X21.here hx rfl (hb hby at_167) rfl ?_
          show Steps p.tables e below (T21.setTop (mkF m 169 #[.val (.int p1), .val (.long q2), .second, .val (.long q3), .second, .val (.int p4), .val (.int p5), .val (.long q6), .second, .val (.int v3_1), .val (.int v11_2), .val (.int z17_a3), .val (.long z35_a6), .second, .val (.long z52_a9), .second, .val (.int z70_a12), .val (.int z92_a15), .val (.ref b18), .val (.ref b20), .unset, .unset] [(.int v3_1)])) _
          refine XS.iload X21.here hx rfl (hb hby at_169) rfl ?_
          show Steps p.tables e below (T21.setTop (mkF m 171 #[.val (.int p1), .val (.long q2), .second, .val (.long q3), .second, .val (.int p4), .val (.int p5), .val (.long q6), .second, .val (.int v3_1), .val (.int v11_2), .val (.int z17_a3), .val (.long z35_a6), .second, .val (.long z52_a9), .second, .val (.int z70_a12), .val (.int z92_a15), .val (.ref b18), .val (.ref b20), .unset, .unset] [(.int z70_a12), (.int v3_1)])) _
          by_cases hc171_26 : v3_1 = z70_a12
          · first | rw [if_pos hc171_26] at hz150_a22 | skip
            refine XS.icmpNo X21.here hx rfl (hb hby at_171) rfl (teq hc171_26).2 ?_
            show Steps p.tables e below (T21.setTop (mkF m 174 #[.val (.int p1), .val (.long q2), .second, .val (.long q3), .second, .val (.int p4), .val (.int p5), .val (.long q6), .second, .val (.int v3_1), .val (.int v11_2), .val (.int z17_a3), .val (.long z35_a6), .second, .val (.long z52_a9), .second, .val (.int z70_a12), .val (.int z92_a15), .val (.ref b18), .val (.ref b20), .unset, .unset] [])) _
            refine XS.iload X21.here hx rfl (hb hby at_174) rfl ?_
            show Steps p.tables e below (T21.setTop (mkF m 176 #[.val (.int p1), .val (.long q2), .second, .val (.long q3), .second, .val (.int p4), .val (.int p5), .val (.long q6), .second, .val (.int v3_1), .val (.int v11_2), .val (.int z17_a3), .val (.long z35_a6), .second, .val (.long z52_a9), .second, .val (.int z70_a12), .val (.int z92_a15), .val (.ref b18), .val (.ref b20), .unset, .unset] [(.int v11_2)])) _
            refine XS.iload X21.here hx rfl (hb hby at_176) rfl ?_
            show Steps p.tables e below (T21.setTop (mkF m 178 #[.val (.int p1), .val (.long q2), .second, .val (.long q3), .second, .val (.int p4), .val (.int p5), .val (.long q6), .second, .val (.int v3_1), .val (.int v11_2), .val (.int z17_a3), .val (.long z35_a6), .second, .val (.long z52_a9), .second, .val (.int z70_a12), .val (.int z92_a15), .val (.ref b18), .val (.ref b20), .unset, .unset] [(.int z92_a15), (.int v11_2)])) _
            by_cases hc178_27 : v11_2 = z92_a15
            · first | rw [if_pos hc178_27] at hz150_a22 | skip
              refine XS.icmpNo X21.here hx rfl (hb hby at_178) rfl (teq hc178_27).2 ?_
              show Steps p.tables e below (T21.setTop (mkF m 181 #[.val (.int p1), .val (.long q2), .second, .val (.long q3), .second, .val (.int p4), .val (.int p5), .val (.long q6), .second, .val (.int v3_1), .val (.int v11_2), .val (.int z17_a3), .val (.long z35_a6), .second, .val (.long z52_a9), .second, .val (.int z70_a12), .val (.int z92_a15), .val (.ref b18), .val (.ref b20), .unset, .unset] [])) _
              refine XS.iconst X21.here hx rfl (hb hby at_181) ?_
              show Steps p.tables e below (T21.setTop (mkF m 182 #[.val (.int p1), .val (.long q2), .second, .val (.long q3), .second, .val (.int p4), .val (.int p5), .val (.long q6), .second, .val (.int v3_1), .val (.int v11_2), .val (.int z17_a3), .val (.long z35_a6), .second, .val (.long z52_a9), .second, .val (.int z70_a12), .val (.int z92_a15), .val (.ref b18), .val (.ref b20), .unset, .unset] [(.int (1 : Int32))])) _
              refine XS.goto X21.here hx rfl (pc0 := 182) (pc' := 186) rfl (hb hby at_182) (by decide) (by decide) ?_
              show Steps p.tables e below (T21.setTop (mkF m 186 #[.val (.int p1), .val (.long q2), .second, .val (.long q3), .second, .val (.int p4), .val (.int p5), .val (.long q6), .second, .val (.int v3_1), .val (.int v11_2), .val (.int z17_a3), .val (.long z35_a6), .second, .val (.long z52_a9), .second, .val (.int z70_a12), .val (.int z92_a15), .val (.ref b18), .val (.ref b20), .unset, .unset] [(.int (1 : Int32))])) _
              subst hz150_a22
              exact k
            · first | rw [if_neg hc178_27] at hz150_a22 | skip
              refine XS.icmpYes X21.here hx rfl (pc0 := 178) (pc' := 185) rfl (hb hby at_178) rfl (feq hc178_27).2 (by decide) (by decide) ?_
              show Steps p.tables e below (T21.setTop (mkF m 185 #[.val (.int p1), .val (.long q2), .second, .val (.long q3), .second, .val (.int p4), .val (.int p5), .val (.long q6), .second, .val (.int v3_1), .val (.int v11_2), .val (.int z17_a3), .val (.long z35_a6), .second, .val (.long z52_a9), .second, .val (.int z70_a12), .val (.int z92_a15), .val (.ref b18), .val (.ref b20), .unset, .unset] [])) _
              refine XS.iconst X21.here hx rfl (hb hby at_185) ?_
              show Steps p.tables e below (T21.setTop (mkF m 186 #[.val (.int p1), .val (.long q2), .second, .val (.long q3), .second, .val (.int p4), .val (.int p5), .val (.long q6), .second, .val (.int v3_1), .val (.int v11_2), .val (.int z17_a3), .val (.long z35_a6), .second, .val (.long z52_a9), .second, .val (.int z70_a12), .val (.int z92_a15), .val (.ref b18), .val (.ref b20), .unset, .unset] [(.int (0 : Int32))])) _
              subst hz150_a22
              exact k
          · first | rw [if_neg hc171_26] at hz150_a22 | skip
            refine XS.icmpYes X21.here hx rfl (pc0 := 171) (pc' := 185) rfl (hb hby at_171) rfl (feq hc171_26).2 (by decide) (by decide) ?_
            show Steps p.tables e below (T21.setTop (mkF m 185 #[.val (.int p1), .val (.long q2), .second, .val (.long q3), .second, .val (.int p4), .val (.int p5), .val (.long q6), .second, .val (.int v3_1), .val (.int v11_2), .val (.int z17_a3), .val (.long z35_a6), .second, .val (.long z52_a9), .second, .val (.int z70_a12), .val (.int z92_a15), .val (.ref b18), .val (.ref b20), .unset, .unset] [])) _
            refine XS.iconst X21.here hx rfl (hb hby at_185) ?_
            show Steps p.tables e below (T21.setTop (mkF m 186 #[.val (.int p1), .val (.long q2), .second, .val (.long q3), .second, .val (.int p4), .val (.int p5), .val (.long q6), .second, .val (.int v3_1), .val (.int v11_2), .val (.int z17_a3), .val (.long z35_a6), .second, .val (.long z52_a9), .second, .val (.int z70_a12), .val (.int z92_a15), .val (.ref b18), .val (.ref b20), .unset, .unset] [(.int (0 : Int32))])) _
            subst hz150_a22
            exact k
        · first | rw [if_neg hc164_25] at hz150_a22 | skip
          refine XS.ifYes X21.here hx rfl (pc0 := 164) (pc' := 185) rfl (hb hby at_164) rfl ((if0 _ _).trans (feq (mt (lw_eq _ _).mp hc164_25)).2) (by decide) (by decide) ?_
          show Steps p.tables e below (T21.setTop (mkF m 185 #[.val (.int p1), .val (.long q2), .second, .val (.long q3), .second, .val (.int p4), .val (.int p5), .val (.long q6), .second, .val (.int v3_1), .val (.int v11_2), .val (.int z17_a3), .val (.long z35_a6), .second, .val (.long z52_a9), .second, .val (.int z70_a12), .val (.int z92_a15), .val (.ref b18), .val (.ref b20), .unset, .unset] [])) _
          refine XS.iconst X21.here hx rfl (hb hby at_185) ?_
          show Steps p.tables e below (T21.setTop (mkF m 186 #[.val (.int p1), .val (.long q2), .second, .val (.long q3), .second, .val (.int p4), .val (.int p5), .val (.long q6), .second, .val (.int v3_1), .val (.int v11_2), .val (.int z17_a3), .val (.long z35_a6), .second, .val (.long z52_a9), .second, .val (.int z70_a12), .val (.int z92_a15), .val (.ref b18), .val (.ref b20), .unset, .unset] [(.int (0 : Int32))])) _
          subst hz150_a22
          exact k
      · first | rw [if_neg hc157_24] at hz150_a22 | skip
        refine XS.ifYes X21.here hx rfl (pc0 := 157) (pc' := 185) rfl (hb hby at_157) rfl ((if0 _ _).trans (feq (mt (lw_eq _ _).mp hc157_24)).2) (by decide) (by decide) ?_
        show Steps p.tables e below (T21.setTop (mkF m 185 #[.val (.int p1), .val (.long q2), .second, .val (.long q3), .second, .val (.int p4), .val (.int p5), .val (.long q6), .second, .val (.int v3_1), .val (.int v11_2), .val (.int z17_a3), .val (.long z35_a6), .second, .val (.long z52_a9), .second, .val (.int z70_a12), .val (.int z92_a15), .val (.ref b18), .val (.ref b20), .unset, .unset] [])) _
        refine XS.iconst X21.here hx rfl (hb hby at_185) ?_
        show Steps p.tables e below (T21.setTop (mkF m 186 #[.val (.int p1), .val (.long q2), .second, .val (.long q3), .second, .val (.int p4), .val (.int p5), .val (.long q6), .second, .val (.int v3_1), .val (.int v11_2), .val (.int z17_a3), .val (.long z35_a6), .second, .val (.long z52_a9), .second, .val (.int z70_a12), .val (.int z92_a15), .val (.ref b18), .val (.ref b20), .unset, .unset] [(.int (0 : Int32))])) _
        subst hz150_a22
        exact k
    · first | rw [if_neg hc150_23] at hz150_a22 | skip
      refine XS.icmpYes X21.here hx rfl (pc0 := 150) (pc' := 185) rfl (hb hby at_150) rfl (feq hc150_23).2 (by decide) (by decide) ?_
      show Steps p.tables e below (T21.setTop (mkF m 185 #[.val (.int p1), .val (.long q2), .second, .val (.long q3), .second, .val (.int p4), .val (.int p5), .val (.long q6), .second, .val (.int v3_1), .val (.int v11_2), .val (.int z17_a3), .val (.long z35_a6), .second, .val (.long z52_a9), .second, .val (.int z70_a12), .val (.int z92_a15), .val (.ref b18), .val (.ref b20), .unset, .unset] [])) _
      refine XS.iconst X21.here hx rfl (hb hby at_185) ?_
      show Steps p.tables e below (T21.setTop (mkF m 186 #[.val (.int p1), .val (.long q2), .second, .val (.long q3), .second, .val (.int p4), .val (.int p5), .val (.long q6), .second, .val (.int v3_1), .val (.int v11_2), .val (.int z17_a3), .val (.long z35_a6), .second, .val (.long z52_a9), .second, .val (.int z70_a12), .val (.int z92_a15), .val (.ref b18), .val (.ref b20), .unset, .unset] [(.int (0 : Int32))])) _
      subst hz150_a22
      exact k
  obtain ⟨z150_a22, hz150_a22⟩ : ∃ z, z = (if p1 = z17_a3 then (if q2 = z35_a6 then (if q3 = z52_a9 then (if v3_1 = z70_a12 then (if v11_2 = z92_a15 then (1 : Int32) else (0 : Int32)) else (0 : Int32)) else (0 : Int32)) else (0 : Int32)) else (0 : Int32)) := ⟨_, rfl⟩
  refine Go.on (sg150_22 z150_a22 hz150_a22) ?_
  refine Go.on (B := T21.setTop (mkF m 188 #[.val (.int p1), .val (.long q2), .second, .val (.long q3), .second, .val (.int p4), .val (.int p5), .val (.long q6), .second, .val (.int v3_1), .val (.int v11_2), .val (.int z17_a3), .val (.long z35_a6), .second, .val (.long z52_a9), .second, .val (.int z70_a12), .val (.int z92_a15), .val (.ref b18), .val (.ref b20), .val (.int z150_a22), .unset] [])) (fun t k => XS.istore X21.here hx rfl (hb hby at_186) rfl (l' := #[.val (.int p1), .val (.long q2), .second, .val (.long q3), .second, .val (.int p4), .val (.int p5), .val (.long q6), .second, .val (.int v3_1), .val (.int v11_2), .val (.int z17_a3), .val (.long z35_a6), .second, .val (.long z52_a9), .second, .val (.int z70_a12), .val (.int z92_a15), .val (.ref b18), .val (.ref b20), .val (.int z150_a22), .unset]) rfl k) ?_
  refine Go.on (B := T21.setTop (mkF m 190 #[.val (.int p1), .val (.long q2), .second, .val (.long q3), .second, .val (.int p4), .val (.int p5), .val (.long q6), .second, .val (.int v3_1), .val (.int v11_2), .val (.int z17_a3), .val (.long z35_a6), .second, .val (.long z52_a9), .second, .val (.int z70_a12), .val (.int z92_a15), .val (.ref b18), .val (.ref b20), .val (.int z150_a22), .unset] [(.int p5)])) (fun t k => XS.iload X21.here hx rfl (hb hby at_188) rfl k) ?_
  refine Go.on (B := T21.setTop (mkF m 191 #[.val (.int p1), .val (.long q2), .second, .val (.long q3), .second, .val (.int p4), .val (.int p5), .val (.long q6), .second, .val (.int v3_1), .val (.int v11_2), .val (.int z17_a3), .val (.long z35_a6), .second, .val (.long z52_a9), .second, .val (.int z70_a12), .val (.int z92_a15), .val (.ref b18), .val (.ref b20), .val (.int z150_a22), .unset] [(.int (5 : Int32)), (.int p5)])) (fun t k => XS.iconst X21.here hx rfl (hb hby at_190) k) ?_
  refine Go.on (B := T21.setTop (mkF m 192 #[.val (.int p1), .val (.long q2), .second, .val (.long q3), .second, .val (.int p4), .val (.int p5), .val (.long q6), .second, .val (.int v3_1), .val (.int v11_2), .val (.int z17_a3), .val (.long z35_a6), .second, .val (.long z52_a9), .second, .val (.int z70_a12), .val (.int z92_a15), .val (.ref b18), .val (.ref b20), .val (.int z150_a22), .unset] [(.int ((p5.toUInt32 >>> ((5 : Int32) &&& 31).toUInt32).toInt32))])) (fun t k => XS.iushr X21.here hx rfl (hb hby at_191) rfl k) ?_
  refine Go.on (B := T21.setTop (mkF m 193 #[.val (.int p1), .val (.long q2), .second, .val (.long q3), .second, .val (.int p4), .val (.int p5), .val (.long q6), .second, .val (.int v3_1), .val (.int v11_2), .val (.int z17_a3), .val (.long z35_a6), .second, .val (.long z52_a9), .second, .val (.int z70_a12), .val (.int z92_a15), .val (.ref b18), .val (.ref b20), .val (.int z150_a22), .unset] [(.int (3 : Int32)), (.int ((p5.toUInt32 >>> ((5 : Int32) &&& 31).toUInt32).toInt32))])) (fun t k => XS.iconst X21.here hx rfl (hb hby at_192) k) ?_
  refine Go.on (B := T21.setTop (mkF m 194 #[.val (.int p1), .val (.long q2), .second, .val (.long q3), .second, .val (.int p4), .val (.int p5), .val (.long q6), .second, .val (.int v3_1), .val (.int v11_2), .val (.int z17_a3), .val (.long z35_a6), .second, .val (.long z52_a9), .second, .val (.int z70_a12), .val (.int z92_a15), .val (.ref b18), .val (.ref b20), .val (.int z150_a22), .unset] [(.int (((p5.toUInt32 >>> ((5 : Int32) &&& 31).toUInt32).toInt32) &&& (3 : Int32)))])) (fun t k => XS.iand X21.here hx rfl (hb hby at_193) rfl k) ?_
  generalize hv194_29 : (((p5.toUInt32 >>> ((5 : Int32) &&& 31).toUInt32).toInt32) &&& (3 : Int32)) = v194_29
  refine Go.on (B := T21.setTop (mkF m 196 #[.val (.int p1), .val (.long q2), .second, .val (.long q3), .second, .val (.int p4), .val (.int p5), .val (.long q6), .second, .val (.int v3_1), .val (.int v11_2), .val (.int z17_a3), .val (.long z35_a6), .second, .val (.long z52_a9), .second, .val (.int z70_a12), .val (.int z92_a15), .val (.ref b18), .val (.ref b20), .val (.int z150_a22), .val (.int v194_29)] [])) (fun t k => XS.istore X21.here hx rfl (hb hby at_194) rfl (l' := #[.val (.int p1), .val (.long q2), .second, .val (.long q3), .second, .val (.int p4), .val (.int p5), .val (.long q6), .second, .val (.int v3_1), .val (.int v11_2), .val (.int z17_a3), .val (.long z35_a6), .second, .val (.long z52_a9), .second, .val (.int z70_a12), .val (.int z92_a15), .val (.ref b18), .val (.ref b20), .val (.int z150_a22), .val (.int v194_29)]) rfl k) ?_
  refine Go.on (B := T21.setTop (mkF m 198 #[.val (.int p1), .val (.long q2), .second, .val (.long q3), .second, .val (.int p4), .val (.int p5), .val (.long q6), .second, .val (.int v3_1), .val (.int v11_2), .val (.int z17_a3), .val (.long z35_a6), .second, .val (.long z52_a9), .second, .val (.int z70_a12), .val (.int z92_a15), .val (.ref b18), .val (.ref b20), .val (.int z150_a22), .val (.int v194_29)] [(.int v194_29)])) (fun t k => XS.iload X21.here hx rfl (hb hby at_196) rfl k) ?_
  refine Go.on (B := T21.setTop (mkF m 199 #[.val (.int p1), .val (.long q2), .second, .val (.long q3), .second, .val (.int p4), .val (.int p5), .val (.long q6), .second, .val (.int v3_1), .val (.int v11_2), .val (.int z17_a3), .val (.long z35_a6), .second, .val (.long z52_a9), .second, .val (.int z70_a12), .val (.int z92_a15), .val (.ref b18), .val (.ref b20), .val (.int z150_a22), .val (.int v194_29)] [(.int (1 : Int32)), (.int v194_29)])) (fun t k => XS.iconst X21.here hx rfl (hb hby at_198) k) ?_
  by_cases hc199_30 : v194_29 = (1 : Int32)
  · refine Go.on (B := T21.setTop (mkF m 202 #[.val (.int p1), .val (.long q2), .second, .val (.long q3), .second, .val (.int p4), .val (.int p5), .val (.long q6), .second, .val (.int v3_1), .val (.int v11_2), .val (.int z17_a3), .val (.long z35_a6), .second, .val (.long z52_a9), .second, .val (.int z70_a12), .val (.int z92_a15), .val (.ref b18), .val (.ref b20), .val (.int z150_a22), .val (.int v194_29)] [])) (fun t k => XS.icmpNo X21.here hx rfl (hb hby at_199) rfl (teq hc199_30).2 k) ?_
    refine Go.on (B := T21.setTop (mkF m 204 #[.val (.int p1), .val (.long q2), .second, .val (.long q3), .second, .val (.int p4), .val (.int p5), .val (.long q6), .second, .val (.int v3_1), .val (.int v11_2), .val (.int z17_a3), .val (.long z35_a6), .second, .val (.long z52_a9), .second, .val (.int z70_a12), .val (.int z92_a15), .val (.ref b18), .val (.ref b20), .val (.int z150_a22), .val (.int v194_29)] [(.ref b18)])) (fun t k => XS.aload X21.here hx rfl (hb hby at_202) rfl rfl k) ?_
    refine Go.on (B := T21.setTop (mkF m 205 #[.val (.int p1), .val (.long q2), .second, .val (.long q3), .second, .val (.int p4), .val (.int p5), .val (.long q6), .second, .val (.int v3_1), .val (.int v11_2), .val (.int z17_a3), .val (.long z35_a6), .second, .val (.long z52_a9), .second, .val (.int z70_a12), .val (.int z92_a15), .val (.ref b18), .val (.ref b20), .val (.int z150_a22), .val (.int v194_29)] [.null, (.ref b18)])) (fun t k => XS.aconstNull X21.here hx rfl (hb hby at_204) k) ?_
    obtain ⟨cq31, kq31, q31a, q31b, q31c⟩ := isOf hZ rfl f15
    obtain ⟨_, _, ⟨T31, L31, k31, n31⟩, -, X31, ⟨Lc31, hQ31, l31, y31, z31⟩, st31⟩ := X21.virtualBack hx (y := (⟨"com/example/pankti/pankti/engine/JobId", "equals", "(Ljava/lang/Object;)Z"⟩ : MethodName)) (z := (⟨"com/example/pankti/pankti/engine/JobId", "equals", "(Ljava/lang/Object;)Z"⟩ : MethodName)) hown (mvT hZ (hw _ (List.mem_of_getElem? (i := 19) rfl))) (mvT hZ (hw _ (List.mem_of_getElem? (i := 20) rfl))) (notFace_of_selects (args := #[]) (mvT hZ (hw _ (List.mem_of_getElem? (i := 22) rfl)))) (mvT hZ (hw _ (List.mem_of_getElem? (i := 22) rfl))) (mvT hZ (hw _ (List.mem_of_getElem? (i := 21) rfl))) (by decide) (backOf (W := 0) (req0 l Z a0 hw [] b18 T21.heap n0 Zs22) hZ (hw _ (List.mem_of_getElem? (i := 23) rfl)) (hw _ (List.mem_of_getElem? (i := 2) rfl)) (by decide) (by decide)) q31a q31c (g := (mkF m 205 #[.val (.int p1), .val (.long q2), .second, .val (.long q3), .second, .val (.int p4), .val (.int p5), .val (.long q6), .second, .val (.int v3_1), .val (.int v11_2), .val (.int z17_a3), .val (.long z35_a6), .second, .val (.long z52_a9), .second, .val (.int z70_a12), .val (.int z92_a15), .val (.ref b18), .val (.ref b20), .val (.int z150_a22), .val (.int v194_29)] [.null, (.ref b18)])) rfl (by rw [hml]; rfl) (Steps.refl _) (argsL := [.null]) (rest := []) (lenOf pd_3 rfl) rfl (by show 2 * 0 + _ ≤ _; exact Nat.le_of_eq rfl) (hb hby at_205) (fun _ _ => ⟨rfl, rfl, (by decide : 2 + 0 ≤ _), (by decide : 10 + 0 ≤ _)⟩)
    dsimp only [Pt.U, Pt.locs, Pt.cells, Pt.slots] at X31 l31 y31 z31 st31 hQ31
    subst l31 y31 z31
    obtain ⟨rfl, N31q, e31q⟩ := hQ31
    have N31 := Fr.app N21 N31q
    refine Go.on (B := T31.setTop (mkF m 208 #[.val (.int p1), .val (.long q2), .second, .val (.long q3), .second, .val (.int p4), .val (.int p5), .val (.long q6), .second, .val (.int v3_1), .val (.int v11_2), .val (.int z17_a3), .val (.long z35_a6), .second, .val (.long z52_a9), .second, .val (.int z70_a12), .val (.int z92_a15), .val (.ref b18), .val (.ref b20), .val (.int z150_a22), .val (.int v194_29)] [(.int (0 : Int32))])) (fun t k => st31.trans k) ?_
    have hc208_32 : (0 : Int32) = (0 : Int32) := by decide
    refine Go.on (B := T31.setTop (mkF m 211 #[.val (.int p1), .val (.long q2), .second, .val (.long q3), .second, .val (.int p4), .val (.int p5), .val (.long q6), .second, .val (.int v3_1), .val (.int v11_2), .val (.int z17_a3), .val (.long z35_a6), .second, .val (.long z52_a9), .second, .val (.int z70_a12), .val (.int z92_a15), .val (.ref b18), .val (.ref b20), .val (.int z150_a22), .val (.int v194_29)] [])) (fun t k => XS.ifNo X31.here hx rfl (hb hby at_208) rfl ((if0 _ _).trans (teq hc208_32).2) k) ?_
    refine Go.on (B := T31.setTop (mkF m 212 #[.val (.int p1), .val (.long q2), .second, .val (.long q3), .second, .val (.int p4), .val (.int p5), .val (.long q6), .second, .val (.int v3_1), .val (.int v11_2), .val (.int z17_a3), .val (.long z35_a6), .second, .val (.long z52_a9), .second, .val (.int z70_a12), .val (.int z92_a15), .val (.ref b18), .val (.ref b20), .val (.int z150_a22), .val (.int v194_29)] [(.int (1 : Int32))])) (fun t k => XS.iconst X31.here hx rfl (hb hby at_211) k) ?_
    refine Go.on (B := T31.setTop (mkF m 216 #[.val (.int p1), .val (.long q2), .second, .val (.long q3), .second, .val (.int p4), .val (.int p5), .val (.long q6), .second, .val (.int v3_1), .val (.int v11_2), .val (.int z17_a3), .val (.long z35_a6), .second, .val (.long z52_a9), .second, .val (.int z70_a12), .val (.int z92_a15), .val (.ref b18), .val (.ref b20), .val (.int z150_a22), .val (.int v194_29)] [(.int (1 : Int32))])) (fun t k => XS.goto X31.here hx rfl (pc0 := 212) (pc' := 216) rfl (hb hby at_212) (by decide) (by decide) k) ?_
    obtain ⟨fs, hr, hrun, hended, hW, hsame⟩ := X31.leave (v := some (.int (1 : Int32))) (fun h => by rw [Bd.returns] at h; cases h)
    refine ⟨_, _, ?_, hrun, hended, _, _, rfl, ?_, ⟨_, rfl⟩, hW, hsame.mono (by decide) (by decide)⟩
    · exact retN X31 hx (t := .boolean) Bd.returns (by simp) (hb hby at_216) hr
    · show Q_rm0 Z p1 q2 q3 p4 p5 q6 ca cc h0 n0 _ T31.heap _
      rw [e31q]
      exact ⟨rfl, N31⟩
  · refine Go.on (B := T21.setTop (mkF m 217 #[.val (.int p1), .val (.long q2), .second, .val (.long q3), .second, .val (.int p4), .val (.int p5), .val (.long q6), .second, .val (.int v3_1), .val (.int v11_2), .val (.int z17_a3), .val (.long z35_a6), .second, .val (.long z52_a9), .second, .val (.int z70_a12), .val (.int z92_a15), .val (.ref b18), .val (.ref b20), .val (.int z150_a22), .val (.int v194_29)] [])) (fun t k => XS.icmpYes X21.here hx rfl (pc0 := 199) (pc' := 217) rfl (hb hby at_199) rfl (feq hc199_30).2 (by decide) (by decide) k) ?_
    refine Go.on (B := T21.setTop (mkF m 219 #[.val (.int p1), .val (.long q2), .second, .val (.long q3), .second, .val (.int p4), .val (.int p5), .val (.long q6), .second, .val (.int v3_1), .val (.int v11_2), .val (.int z17_a3), .val (.long z35_a6), .second, .val (.long z52_a9), .second, .val (.int z70_a12), .val (.int z92_a15), .val (.ref b18), .val (.ref b20), .val (.int z150_a22), .val (.int v194_29)] [(.int v194_29)])) (fun t k => XS.iload X21.here hx rfl (hb hby at_217) rfl k) ?_
    refine Go.on (B := T21.setTop (mkF m 220 #[.val (.int p1), .val (.long q2), .second, .val (.long q3), .second, .val (.int p4), .val (.int p5), .val (.long q6), .second, .val (.int v3_1), .val (.int v11_2), .val (.int z17_a3), .val (.long z35_a6), .second, .val (.long z52_a9), .second, .val (.int z70_a12), .val (.int z92_a15), .val (.ref b18), .val (.ref b20), .val (.int z150_a22), .val (.int v194_29)] [(.int (2 : Int32)), (.int v194_29)])) (fun t k => XS.iconst X21.here hx rfl (hb hby at_219) k) ?_
    by_cases hc220_33 : v194_29 = (2 : Int32)
    · refine Go.on (B := T21.setTop (mkF m 223 #[.val (.int p1), .val (.long q2), .second, .val (.long q3), .second, .val (.int p4), .val (.int p5), .val (.long q6), .second, .val (.int v3_1), .val (.int v11_2), .val (.int z17_a3), .val (.long z35_a6), .second, .val (.long z52_a9), .second, .val (.int z70_a12), .val (.int z92_a15), .val (.ref b18), .val (.ref b20), .val (.int z150_a22), .val (.int v194_29)] [])) (fun t k => XS.icmpNo X21.here hx rfl (hb hby at_220) rfl (teq hc220_33).2 k) ?_
      refine Go.on (B := T21.setTop (mkF m 225 #[.val (.int p1), .val (.long q2), .second, .val (.long q3), .second, .val (.int p4), .val (.int p5), .val (.long q6), .second, .val (.int v3_1), .val (.int v11_2), .val (.int z17_a3), .val (.long z35_a6), .second, .val (.long z52_a9), .second, .val (.int z70_a12), .val (.int z92_a15), .val (.ref b18), .val (.ref b20), .val (.int z150_a22), .val (.int v194_29)] [(.ref b18)])) (fun t k => XS.aload X21.here hx rfl (hb hby at_223) rfl rfl k) ?_
      refine Go.on (B := T21.setTop (mkF m 226 #[.val (.int p1), .val (.long q2), .second, .val (.long q3), .second, .val (.int p4), .val (.int p5), .val (.long q6), .second, .val (.int v3_1), .val (.int v11_2), .val (.int z17_a3), .val (.long z35_a6), .second, .val (.long z52_a9), .second, .val (.int z70_a12), .val (.int z92_a15), .val (.ref b18), .val (.ref b20), .val (.int z150_a22), .val (.int v194_29)] [(.long q2), (.ref b18)])) (fun t k => XS.lloadN X21.here hx rfl (hb hby at_225) rfl k) ?_
      obtain ⟨_, _, ⟨T34, L34, k34, n34⟩, -, X34, ⟨Lc34, hQ34, l34, y34, z34⟩, st34⟩ := Jvm.LawKit.callS X21 hx (y := (⟨"java/lang/Long", "valueOf", "(J)Ljava/lang/Long;"⟩ : MethodName)) hown (mvT hZ (hw _ (List.mem_of_getElem? (i := 26) rfl))) (mvT hZ (hw _ (List.mem_of_getElem? (i := 27) rfl))) (mvT hZ (hw _ (List.mem_of_getElem? (i := 28) rfl))) (mvT hZ (hw _ (List.mem_of_getElem? (i := 29) rfl))) (by decide) (backOf (W := 1) (rlv l Z a0 hw [] q2 ca cc T21.heap n0 Zs22 O_14 S_cache B_cache) hZ (hw _ (List.mem_of_getElem? (i := 29) rfl)) (hw _ (List.mem_of_getElem? (i := 28) rfl)) (by decide) (by decide)) (g := (mkF m 226 #[.val (.int p1), .val (.long q2), .second, .val (.long q3), .second, .val (.int p4), .val (.int p5), .val (.long q6), .second, .val (.int v3_1), .val (.int v11_2), .val (.int z17_a3), .val (.long z35_a6), .second, .val (.long z52_a9), .second, .val (.int z70_a12), .val (.int z92_a15), .val (.ref b18), .val (.ref b20), .val (.int z150_a22), .val (.int v194_29)] [(.long q2), (.ref b18)])) rfl (by rw [hml]; rfl) (argsL := [(.long q2)]) (rest := [(.ref b18)]) (lenOf pd_4 rfl) rfl (by show 2 * 0 + _ ≤ _; exact Nat.le_of_eq rfl) (hb hby at_226) (fun _ _ => ⟨rfl, rfl, (by decide : 2 + 1 ≤ _), (by decide : 10 + 1 ≤ _)⟩)
      dsimp only [Pt.U, Pt.locs, Pt.cells, Pt.slots] at X34 l34 y34 z34 st34 hQ34
      subst l34 y34 z34
      obtain ⟨⟨x34, rfl, G34a, G34b⟩, N34q, K34q⟩ := hQ34
      have N34 := Fr.app N21 N34q
      have O_23 := O_14.keep K34q all0
      have f24 := f15.keep K34q
      have f25 := f16.keep K34q nin0
      have f26 := f17.keep K34q nin0
      have f27 := f18.keep K34q nin0
      have f28 := f19.keep K34q nin0
      have f29 := f20.keep K34q nin0
      have f30 := G21_0.keep K34q
      have f31 := G21_1.keep K34q nin0
      have f32 := G21_2.keep K34q nin0
      have f33 := G21_3.keep K34q nin0
      have f34 := G21_4.keep K34q nin0
      have f35 := G21_5.keep K34q nin0
      have Zs36 := Nat.le_trans Zs22 K34q.1
      refine Go.on (B := T34.setTop (mkF m 229 #[.val (.int p1), .val (.long q2), .second, .val (.long q3), .second, .val (.int p4), .val (.int p5), .val (.long q6), .second, .val (.int v3_1), .val (.int v11_2), .val (.int z17_a3), .val (.long z35_a6), .second, .val (.long z52_a9), .second, .val (.int z70_a12), .val (.int z92_a15), .val (.ref b18), .val (.ref b20), .val (.int z150_a22), .val (.int v194_29)] [(.ref x34), (.ref b18)])) (fun t k => st34 _ k) ?_
      obtain ⟨cq35, kq35, q35a, q35b, q35c⟩ := isOf hZ rfl f24
      obtain ⟨_, _, ⟨T35, L35, k35, n35⟩, -, X35, ⟨Lc35, hQ35, l35, y35, z35⟩, st35⟩ := X34.virtualBack hx (y := (⟨"com/example/pankti/pankti/engine/JobId", "equals", "(Ljava/lang/Object;)Z"⟩ : MethodName)) (z := (⟨"com/example/pankti/pankti/engine/JobId", "equals", "(Ljava/lang/Object;)Z"⟩ : MethodName)) hown (mvT hZ (hw _ (List.mem_of_getElem? (i := 19) rfl))) (mvT hZ (hw _ (List.mem_of_getElem? (i := 20) rfl))) (notFace_of_selects (args := #[]) (mvT hZ (hw _ (List.mem_of_getElem? (i := 22) rfl)))) (mvT hZ (hw _ (List.mem_of_getElem? (i := 22) rfl))) (mvT hZ (hw _ (List.mem_of_getElem? (i := 21) rfl))) (by decide) (backOf (W := 0) (req1 l Z a0 hw [] b18 x34 T34.heap n0 Zs36 G34a) hZ (hw _ (List.mem_of_getElem? (i := 23) rfl)) (hw _ (List.mem_of_getElem? (i := 2) rfl)) (by decide) (by decide)) q35a q35c (g := (mkF m 229 #[.val (.int p1), .val (.long q2), .second, .val (.long q3), .second, .val (.int p4), .val (.int p5), .val (.long q6), .second, .val (.int v3_1), .val (.int v11_2), .val (.int z17_a3), .val (.long z35_a6), .second, .val (.long z52_a9), .second, .val (.int z70_a12), .val (.int z92_a15), .val (.ref b18), .val (.ref b20), .val (.int z150_a22), .val (.int v194_29)] [(.ref x34), (.ref b18)])) rfl (by rw [hml]; rfl) (Steps.refl _) (argsL := [(.ref x34)]) (rest := []) (lenOf pd_3 rfl) rfl (by show 2 * 0 + _ ≤ _; exact Nat.le_of_eq rfl) (hb hby at_229) (fun _ _ => ⟨rfl, rfl, (by decide : 3 + 0 ≤ _), (by decide : 11 + 0 ≤ _)⟩)
      dsimp only [Pt.U, Pt.locs, Pt.cells, Pt.slots] at X35 l35 y35 z35 st35 hQ35
      subst l35 y35 z35
      obtain ⟨rfl, N35q, e35q⟩ := hQ35
      have N35 := Fr.app N34 N35q
      refine Go.on (B := T35.setTop (mkF m 232 #[.val (.int p1), .val (.long q2), .second, .val (.long q3), .second, .val (.int p4), .val (.int p5), .val (.long q6), .second, .val (.int v3_1), .val (.int v11_2), .val (.int z17_a3), .val (.long z35_a6), .second, .val (.long z52_a9), .second, .val (.int z70_a12), .val (.int z92_a15), .val (.ref b18), .val (.ref b20), .val (.int z150_a22), .val (.int v194_29)] [(.int (0 : Int32))])) (fun t k => st35.trans k) ?_
      have hc232_36 : (0 : Int32) = (0 : Int32) := by decide
      refine Go.on (B := T35.setTop (mkF m 235 #[.val (.int p1), .val (.long q2), .second, .val (.long q3), .second, .val (.int p4), .val (.int p5), .val (.long q6), .second, .val (.int v3_1), .val (.int v11_2), .val (.int z17_a3), .val (.long z35_a6), .second, .val (.long z52_a9), .second, .val (.int z70_a12), .val (.int z92_a15), .val (.ref b18), .val (.ref b20), .val (.int z150_a22), .val (.int v194_29)] [])) (fun t k => XS.ifNo X35.here hx rfl (hb hby at_232) rfl ((if0 _ _).trans (teq hc232_36).2) k) ?_
      refine Go.on (B := T35.setTop (mkF m 236 #[.val (.int p1), .val (.long q2), .second, .val (.long q3), .second, .val (.int p4), .val (.int p5), .val (.long q6), .second, .val (.int v3_1), .val (.int v11_2), .val (.int z17_a3), .val (.long z35_a6), .second, .val (.long z52_a9), .second, .val (.int z70_a12), .val (.int z92_a15), .val (.ref b18), .val (.ref b20), .val (.int z150_a22), .val (.int v194_29)] [(.int (1 : Int32))])) (fun t k => XS.iconst X35.here hx rfl (hb hby at_235) k) ?_
      refine Go.on (B := T35.setTop (mkF m 240 #[.val (.int p1), .val (.long q2), .second, .val (.long q3), .second, .val (.int p4), .val (.int p5), .val (.long q6), .second, .val (.int v3_1), .val (.int v11_2), .val (.int z17_a3), .val (.long z35_a6), .second, .val (.long z52_a9), .second, .val (.int z70_a12), .val (.int z92_a15), .val (.ref b18), .val (.ref b20), .val (.int z150_a22), .val (.int v194_29)] [(.int (1 : Int32))])) (fun t k => XS.goto X35.here hx rfl (pc0 := 236) (pc' := 240) rfl (hb hby at_236) (by decide) (by decide) k) ?_
      obtain ⟨fs, hr, hrun, hended, hW, hsame⟩ := X35.leave (v := some (.int (1 : Int32))) (fun h => by rw [Bd.returns] at h; cases h)
      refine ⟨_, _, ?_, hrun, hended, _, _, rfl, ?_, ⟨_, rfl⟩, hW, hsame.mono (by decide) (by decide)⟩
      · exact retN X35 hx (t := .boolean) Bd.returns (by simp) (hb hby at_240) hr
      · show Q_rm0 Z p1 q2 q3 p4 p5 q6 ca cc h0 n0 _ T35.heap _
        rw [e35q]
        exact ⟨rfl, N35⟩
    · refine Go.on (B := T21.setTop (mkF m 241 #[.val (.int p1), .val (.long q2), .second, .val (.long q3), .second, .val (.int p4), .val (.int p5), .val (.long q6), .second, .val (.int v3_1), .val (.int v11_2), .val (.int z17_a3), .val (.long z35_a6), .second, .val (.long z52_a9), .second, .val (.int z70_a12), .val (.int z92_a15), .val (.ref b18), .val (.ref b20), .val (.int z150_a22), .val (.int v194_29)] [])) (fun t k => XS.icmpYes X21.here hx rfl (pc0 := 220) (pc' := 241) rfl (hb hby at_220) rfl (feq hc220_33).2 (by decide) (by decide) k) ?_
      refine Go.on (B := T21.setTop (mkF m 243 #[.val (.int p1), .val (.long q2), .second, .val (.long q3), .second, .val (.int p4), .val (.int p5), .val (.long q6), .second, .val (.int v3_1), .val (.int v11_2), .val (.int z17_a3), .val (.long z35_a6), .second, .val (.long z52_a9), .second, .val (.int z70_a12), .val (.int z92_a15), .val (.ref b18), .val (.ref b20), .val (.int z150_a22), .val (.int v194_29)] [(.ref b18)])) (fun t k => XS.aload X21.here hx rfl (hb hby at_241) rfl rfl k) ?_
      refine Go.on (B := T21.setTop (mkF m 245 #[.val (.int p1), .val (.long q2), .second, .val (.long q3), .second, .val (.int p4), .val (.int p5), .val (.long q6), .second, .val (.int v3_1), .val (.int v11_2), .val (.int z17_a3), .val (.long z35_a6), .second, .val (.long z52_a9), .second, .val (.int z70_a12), .val (.int z92_a15), .val (.ref b18), .val (.ref b20), .val (.int z150_a22), .val (.int v194_29)] [(.ref b20), (.ref b18)])) (fun t k => XS.aload X21.here hx rfl (hb hby at_243) rfl rfl k) ?_
      obtain ⟨cq37, kq37, q37a, q37b, q37c⟩ := isOf hZ rfl f15
      obtain ⟨_, _, ⟨T37, L37, k37, n37⟩, -, X37, ⟨Lc37, hQ37, l37, y37, z37⟩, st37⟩ := X21.virtualBack hx (y := (⟨"com/example/pankti/pankti/engine/JobId", "equals", "(Ljava/lang/Object;)Z"⟩ : MethodName)) (z := (⟨"com/example/pankti/pankti/engine/JobId", "equals", "(Ljava/lang/Object;)Z"⟩ : MethodName)) hown (mvT hZ (hw _ (List.mem_of_getElem? (i := 19) rfl))) (mvT hZ (hw _ (List.mem_of_getElem? (i := 20) rfl))) (notFace_of_selects (args := #[]) (mvT hZ (hw _ (List.mem_of_getElem? (i := 22) rfl)))) (mvT hZ (hw _ (List.mem_of_getElem? (i := 22) rfl))) (mvT hZ (hw _ (List.mem_of_getElem? (i := 21) rfl))) (by decide) (backOf (W := 0) (req2 l Z a0 hw [] b18 b20 p1 q2 q3 (nar .short v3_1) (nar .short v11_2) z17_a3 z35_a6 z52_a9 (nar .short z70_a12) (nar .short z92_a15) T21.heap n0 Zs22 G21_0 f16 G21_1 f17 G21_2 f18 G21_3 f19 G21_4 f20 G21_5) hZ (hw _ (List.mem_of_getElem? (i := 23) rfl)) (hw _ (List.mem_of_getElem? (i := 2) rfl)) (by decide) (by decide)) q37a q37c (g := (mkF m 245 #[.val (.int p1), .val (.long q2), .second, .val (.long q3), .second, .val (.int p4), .val (.int p5), .val (.long q6), .second, .val (.int v3_1), .val (.int v11_2), .val (.int z17_a3), .val (.long z35_a6), .second, .val (.long z52_a9), .second, .val (.int z70_a12), .val (.int z92_a15), .val (.ref b18), .val (.ref b20), .val (.int z150_a22), .val (.int v194_29)] [(.ref b20), (.ref b18)])) rfl (by rw [hml]; rfl) (Steps.refl _) (argsL := [(.ref b20)]) (rest := []) (lenOf pd_3 rfl) rfl (by show 2 * 0 + _ ≤ _; exact Nat.le_of_eq rfl) (hb hby at_245) (fun _ _ => ⟨rfl, rfl, (by decide : 2 + 0 ≤ _), (by decide : 10 + 0 ≤ _)⟩)
      dsimp only [Pt.U, Pt.locs, Pt.cells, Pt.slots] at X37 l37 y37 z37 st37 hQ37
      subst l37 y37 z37
      obtain ⟨rfl, N37q, e37q⟩ := hQ37
      have N37 := Fr.app N21 N37q
      refine Go.on (B := T37.setTop (mkF m 248 #[.val (.int p1), .val (.long q2), .second, .val (.long q3), .second, .val (.int p4), .val (.int p5), .val (.long q6), .second, .val (.int v3_1), .val (.int v11_2), .val (.int z17_a3), .val (.long z35_a6), .second, .val (.long z52_a9), .second, .val (.int z70_a12), .val (.int z92_a15), .val (.ref b18), .val (.ref b20), .val (.int z150_a22), .val (.int v194_29)] [(.int (own_eq (p1).toInt (q2).toInt (q3).toInt ((nar .short v3_1)).toInt ((nar .short v11_2)).toInt (z17_a3).toInt (z35_a6).toInt (z52_a9).toInt ((nar .short z70_a12)).toInt ((nar .short z92_a15)).toInt))])) (fun t k => st37.trans k) ?_
      refine Go.on (B := T37.setTop (mkF m 250 #[.val (.int p1), .val (.long q2), .second, .val (.long q3), .second, .val (.int p4), .val (.int p5), .val (.long q6), .second, .val (.int v3_1), .val (.int v11_2), .val (.int z17_a3), .val (.long z35_a6), .second, .val (.long z52_a9), .second, .val (.int z70_a12), .val (.int z92_a15), .val (.ref b18), .val (.ref b20), .val (.int z150_a22), .val (.int v194_29)] [(.int z150_a22), (.int (own_eq (p1).toInt (q2).toInt (q3).toInt ((nar .short v3_1)).toInt ((nar .short v11_2)).toInt (z17_a3).toInt (z35_a6).toInt (z52_a9).toInt ((nar .short z70_a12)).toInt ((nar .short z92_a15)).toInt))])) (fun t k => XS.iload X37.here hx rfl (hb hby at_248) rfl k) ?_
      have hc250_38 : (own_eq (p1).toInt (q2).toInt (q3).toInt ((nar .short v3_1)).toInt ((nar .short v11_2)).toInt (z17_a3).toInt (z35_a6).toInt (z52_a9).toInt ((nar .short z70_a12)).toInt ((nar .short z92_a15)).toInt) = z150_a22 := by
        rw [nl, nt, nl2, nt2]
        exact own_same _ _ _ _ _ _ _ _ _ _ _ hz150_a22
      refine Go.on (B := T37.setTop (mkF m 253 #[.val (.int p1), .val (.long q2), .second, .val (.long q3), .second, .val (.int p4), .val (.int p5), .val (.long q6), .second, .val (.int v3_1), .val (.int v11_2), .val (.int z17_a3), .val (.long z35_a6), .second, .val (.long z52_a9), .second, .val (.int z70_a12), .val (.int z92_a15), .val (.ref b18), .val (.ref b20), .val (.int z150_a22), .val (.int v194_29)] [])) (fun t k => XS.icmpNo X37.here hx rfl (hb hby at_250) rfl (teq hc250_38).2 k) ?_
      refine Go.on (B := T37.setTop (mkF m 255 #[.val (.int p1), .val (.long q2), .second, .val (.long q3), .second, .val (.int p4), .val (.int p5), .val (.long q6), .second, .val (.int v3_1), .val (.int v11_2), .val (.int z17_a3), .val (.long z35_a6), .second, .val (.long z52_a9), .second, .val (.int z70_a12), .val (.int z92_a15), .val (.ref b18), .val (.ref b20), .val (.int z150_a22), .val (.int v194_29)] [(.ref b20)])) (fun t k => XS.aload X37.here hx rfl (hb hby at_253) rfl rfl k) ?_
      refine Go.on (B := T37.setTop (mkF m 257 #[.val (.int p1), .val (.long q2), .second, .val (.long q3), .second, .val (.int p4), .val (.int p5), .val (.long q6), .second, .val (.int v3_1), .val (.int v11_2), .val (.int z17_a3), .val (.long z35_a6), .second, .val (.long z52_a9), .second, .val (.int z70_a12), .val (.int z92_a15), .val (.ref b18), .val (.ref b20), .val (.int z150_a22), .val (.int v194_29)] [(.ref b18), (.ref b20)])) (fun t k => XS.aload X37.here hx rfl (hb hby at_255) rfl rfl k) ?_
      obtain ⟨cq39, kq39, q39a, q39b, q39c⟩ := isOf hZ e37q G21_0
      obtain ⟨_, _, ⟨T39, L39, k39, n39⟩, -, X39, ⟨Lc39, hQ39, l39, y39, z39⟩, st39⟩ := X37.virtualBack hx (y := (⟨"com/example/pankti/pankti/engine/JobId", "equals", "(Ljava/lang/Object;)Z"⟩ : MethodName)) (z := (⟨"com/example/pankti/pankti/engine/JobId", "equals", "(Ljava/lang/Object;)Z"⟩ : MethodName)) hown (mvT hZ (hw _ (List.mem_of_getElem? (i := 19) rfl))) (mvT hZ (hw _ (List.mem_of_getElem? (i := 20) rfl))) (notFace_of_selects (args := #[]) (mvT hZ (hw _ (List.mem_of_getElem? (i := 22) rfl)))) (mvT hZ (hw _ (List.mem_of_getElem? (i := 22) rfl))) (mvT hZ (hw _ (List.mem_of_getElem? (i := 21) rfl))) (by decide) (backOf (W := 0) (req2 l Z a0 hw [] b20 b18 z17_a3 z35_a6 z52_a9 (nar .short z70_a12) (nar .short z92_a15) p1 q2 q3 (nar .short v3_1) (nar .short v11_2) T21.heap n0 Zs22 f15 G21_1 f16 G21_2 f17 G21_3 f18 G21_4 f19 G21_5 f20) hZ (hw _ (List.mem_of_getElem? (i := 23) rfl)) (hw _ (List.mem_of_getElem? (i := 2) rfl)) (by decide) (by decide)) q39a q39c (g := (mkF m 257 #[.val (.int p1), .val (.long q2), .second, .val (.long q3), .second, .val (.int p4), .val (.int p5), .val (.long q6), .second, .val (.int v3_1), .val (.int v11_2), .val (.int z17_a3), .val (.long z35_a6), .second, .val (.long z52_a9), .second, .val (.int z70_a12), .val (.int z92_a15), .val (.ref b18), .val (.ref b20), .val (.int z150_a22), .val (.int v194_29)] [(.ref b18), (.ref b20)])) rfl (by rw [hml]; rfl) (Steps.refl _) (argsL := [(.ref b18)]) (rest := []) (lenOf pd_3 rfl) rfl (by show 2 * 0 + _ ≤ _; exact Nat.le_of_eq rfl) (hb hby at_257) (fun _ _ => ⟨rfl, e37q, (by decide : 2 + 0 ≤ _), (by decide : 10 + 0 ≤ _)⟩)
      dsimp only [Pt.U, Pt.locs, Pt.cells, Pt.slots] at X39 l39 y39 z39 st39 hQ39
      subst l39 y39 z39
      obtain ⟨rfl, N39q, e39q⟩ := hQ39
      have N39 := Fr.app N37 N39q
      refine Go.on (B := T39.setTop (mkF m 260 #[.val (.int p1), .val (.long q2), .second, .val (.long q3), .second, .val (.int p4), .val (.int p5), .val (.long q6), .second, .val (.int v3_1), .val (.int v11_2), .val (.int z17_a3), .val (.long z35_a6), .second, .val (.long z52_a9), .second, .val (.int z70_a12), .val (.int z92_a15), .val (.ref b18), .val (.ref b20), .val (.int z150_a22), .val (.int v194_29)] [(.int (own_eq (z17_a3).toInt (z35_a6).toInt (z52_a9).toInt ((nar .short z70_a12)).toInt ((nar .short z92_a15)).toInt (p1).toInt (q2).toInt (q3).toInt ((nar .short v3_1)).toInt ((nar .short v11_2)).toInt))])) (fun t k => st39.trans k) ?_
      refine Go.on (B := T39.setTop (mkF m 262 #[.val (.int p1), .val (.long q2), .second, .val (.long q3), .second, .val (.int p4), .val (.int p5), .val (.long q6), .second, .val (.int v3_1), .val (.int v11_2), .val (.int z17_a3), .val (.long z35_a6), .second, .val (.long z52_a9), .second, .val (.int z70_a12), .val (.int z92_a15), .val (.ref b18), .val (.ref b20), .val (.int z150_a22), .val (.int v194_29)] [(.int z150_a22), (.int (own_eq (z17_a3).toInt (z35_a6).toInt (z52_a9).toInt ((nar .short z70_a12)).toInt ((nar .short z92_a15)).toInt (p1).toInt (q2).toInt (q3).toInt ((nar .short v3_1)).toInt ((nar .short v11_2)).toInt))])) (fun t k => XS.iload X39.here hx rfl (hb hby at_260) rfl k) ?_
      have hc262_40 : (own_eq (z17_a3).toInt (z35_a6).toInt (z52_a9).toInt ((nar .short z70_a12)).toInt ((nar .short z92_a15)).toInt (p1).toInt (q2).toInt (q3).toInt ((nar .short v3_1)).toInt ((nar .short v11_2)).toInt) = z150_a22 := by
        rw [nl, nt, nl2, nt2, own_swap]
        exact own_same _ _ _ _ _ _ _ _ _ _ _ hz150_a22
      refine Go.on (B := T39.setTop (mkF m 265 #[.val (.int p1), .val (.long q2), .second, .val (.long q3), .second, .val (.int p4), .val (.int p5), .val (.long q6), .second, .val (.int v3_1), .val (.int v11_2), .val (.int z17_a3), .val (.long z35_a6), .second, .val (.long z52_a9), .second, .val (.int z70_a12), .val (.int z92_a15), .val (.ref b18), .val (.ref b20), .val (.int z150_a22), .val (.int v194_29)] [])) (fun t k => XS.icmpNo X39.here hx rfl (hb hby at_262) rfl (teq hc262_40).2 k) ?_
      refine Go.on (B := T39.setTop (mkF m 267 #[.val (.int p1), .val (.long q2), .second, .val (.long q3), .second, .val (.int p4), .val (.int p5), .val (.long q6), .second, .val (.int v3_1), .val (.int v11_2), .val (.int z17_a3), .val (.long z35_a6), .second, .val (.long z52_a9), .second, .val (.int z70_a12), .val (.int z92_a15), .val (.ref b18), .val (.ref b20), .val (.int z150_a22), .val (.int v194_29)] [(.ref b18)])) (fun t k => XS.aload X39.here hx rfl (hb hby at_265) rfl rfl k) ?_
      refine Go.on (B := T39.setTop (mkF m 269 #[.val (.int p1), .val (.long q2), .second, .val (.long q3), .second, .val (.int p4), .val (.int p5), .val (.long q6), .second, .val (.int v3_1), .val (.int v11_2), .val (.int z17_a3), .val (.long z35_a6), .second, .val (.long z52_a9), .second, .val (.int z70_a12), .val (.int z92_a15), .val (.ref b18), .val (.ref b20), .val (.int z150_a22), .val (.int v194_29)] [(.ref b18), (.ref b18)])) (fun t k => XS.aload X39.here hx rfl (hb hby at_267) rfl rfl k) ?_
      obtain ⟨cq41, kq41, q41a, q41b, q41c⟩ := isOf hZ e39q f15
      obtain ⟨_, _, ⟨T41, L41, k41, n41⟩, -, X41, ⟨Lc41, hQ41, l41, y41, z41⟩, st41⟩ := X39.virtualBack hx (y := (⟨"com/example/pankti/pankti/engine/JobId", "equals", "(Ljava/lang/Object;)Z"⟩ : MethodName)) (z := (⟨"com/example/pankti/pankti/engine/JobId", "equals", "(Ljava/lang/Object;)Z"⟩ : MethodName)) hown (mvT hZ (hw _ (List.mem_of_getElem? (i := 19) rfl))) (mvT hZ (hw _ (List.mem_of_getElem? (i := 20) rfl))) (notFace_of_selects (args := #[]) (mvT hZ (hw _ (List.mem_of_getElem? (i := 22) rfl)))) (mvT hZ (hw _ (List.mem_of_getElem? (i := 22) rfl))) (mvT hZ (hw _ (List.mem_of_getElem? (i := 21) rfl))) (by decide) (backOf (W := 0) (req2 l Z a0 hw [] b18 b18 p1 q2 q3 (nar .short v3_1) (nar .short v11_2) p1 q2 q3 (nar .short v3_1) (nar .short v11_2) T21.heap n0 Zs22 f15 f16 f16 f17 f17 f18 f18 f19 f19 f20 f20) hZ (hw _ (List.mem_of_getElem? (i := 23) rfl)) (hw _ (List.mem_of_getElem? (i := 2) rfl)) (by decide) (by decide)) q41a q41c (g := (mkF m 269 #[.val (.int p1), .val (.long q2), .second, .val (.long q3), .second, .val (.int p4), .val (.int p5), .val (.long q6), .second, .val (.int v3_1), .val (.int v11_2), .val (.int z17_a3), .val (.long z35_a6), .second, .val (.long z52_a9), .second, .val (.int z70_a12), .val (.int z92_a15), .val (.ref b18), .val (.ref b20), .val (.int z150_a22), .val (.int v194_29)] [(.ref b18), (.ref b18)])) rfl (by rw [hml]; rfl) (Steps.refl _) (argsL := [(.ref b18)]) (rest := []) (lenOf pd_3 rfl) rfl (by show 2 * 0 + _ ≤ _; exact Nat.le_of_eq rfl) (hb hby at_269) (fun _ _ => ⟨rfl, e39q, (by decide : 2 + 0 ≤ _), (by decide : 10 + 0 ≤ _)⟩)
      dsimp only [Pt.U, Pt.locs, Pt.cells, Pt.slots] at X41 l41 y41 z41 st41 hQ41
      subst l41 y41 z41
      obtain ⟨rfl, N41q, e41q⟩ := hQ41
      have N41 := Fr.app N39 N41q
      refine Go.on (B := T41.setTop (mkF m 272 #[.val (.int p1), .val (.long q2), .second, .val (.long q3), .second, .val (.int p4), .val (.int p5), .val (.long q6), .second, .val (.int v3_1), .val (.int v11_2), .val (.int z17_a3), .val (.long z35_a6), .second, .val (.long z52_a9), .second, .val (.int z70_a12), .val (.int z92_a15), .val (.ref b18), .val (.ref b20), .val (.int z150_a22), .val (.int v194_29)] [(.int (own_eq (p1).toInt (q2).toInt (q3).toInt ((nar .short v3_1)).toInt ((nar .short v11_2)).toInt (p1).toInt (q2).toInt (q3).toInt ((nar .short v3_1)).toInt ((nar .short v11_2)).toInt))])) (fun t k => st41.trans k) ?_
      have hc272_42 : ¬ ((own_eq (p1).toInt (q2).toInt (q3).toInt ((nar .short v3_1)).toInt ((nar .short v11_2)).toInt (p1).toInt (q2).toInt (q3).toInt ((nar .short v3_1)).toInt ((nar .short v11_2)).toInt) = (0 : Int32)) := by rw [own_self]; decide
      refine Go.on (B := T41.setTop (mkF m 275 #[.val (.int p1), .val (.long q2), .second, .val (.long q3), .second, .val (.int p4), .val (.int p5), .val (.long q6), .second, .val (.int v3_1), .val (.int v11_2), .val (.int z17_a3), .val (.long z35_a6), .second, .val (.long z52_a9), .second, .val (.int z70_a12), .val (.int z92_a15), .val (.ref b18), .val (.ref b20), .val (.int z150_a22), .val (.int v194_29)] [])) (fun t k => XS.ifNo X41.here hx rfl (hb hby at_272) rfl ((if0 _ _).trans (feq hc272_42).1) k) ?_
      refine Go.on (B := T41.setTop (mkF m 276 #[.val (.int p1), .val (.long q2), .second, .val (.long q3), .second, .val (.int p4), .val (.int p5), .val (.long q6), .second, .val (.int v3_1), .val (.int v11_2), .val (.int z17_a3), .val (.long z35_a6), .second, .val (.long z52_a9), .second, .val (.int z70_a12), .val (.int z92_a15), .val (.ref b18), .val (.ref b20), .val (.int z150_a22), .val (.int v194_29)] [(.int (1 : Int32))])) (fun t k => XS.iconst X41.here hx rfl (hb hby at_275) k) ?_
      refine Go.on (B := T41.setTop (mkF m 280 #[.val (.int p1), .val (.long q2), .second, .val (.long q3), .second, .val (.int p4), .val (.int p5), .val (.long q6), .second, .val (.int v3_1), .val (.int v11_2), .val (.int z17_a3), .val (.long z35_a6), .second, .val (.long z52_a9), .second, .val (.int z70_a12), .val (.int z92_a15), .val (.ref b18), .val (.ref b20), .val (.int z150_a22), .val (.int v194_29)] [(.int (1 : Int32))])) (fun t k => XS.goto X41.here hx rfl (pc0 := 276) (pc' := 280) rfl (hb hby at_276) (by decide) (by decide) k) ?_
      obtain ⟨fs, hr, hrun, hended, hW, hsame⟩ := X41.leave (v := some (.int (1 : Int32))) (fun h => by rw [Bd.returns] at h; cases h)
      refine ⟨_, _, ?_, hrun, hended, _, _, rfl, ?_, ⟨_, rfl⟩, hW, hsame.mono (by decide) (by decide)⟩
      · exact retN X41 hx (t := .boolean) Bd.returns (by simp) (hb hby at_280) hr
      · show Q_rm0 Z p1 q2 q3 p4 p5 q6 ca cc h0 n0 _ T41.heap _
        rw [e41q]
        exact ⟨rfl, N41⟩
theorem own_idx128 {s : State} {args : Array Value} {j : Int32} (nn : ¬ j < 0) : (Term.sub (.index 0) (.int (128 : Int32))).eval args s none [j.toNatClampNeg] s = some (.int (j - (128 : Int32))) := by
  have q := idx_at (args := args) (s := s) (first := s) (o := none) nn
  simp [Term.eval] at q ⊢
  rw [q]
theorem own_box {s : State} {args : Array Value} {ca : Addr} {cc : Cell} (e : (Term.static "java/lang/Long$LongCache" "cache" "[Ljava/lang/Long;").eval args s none [] s = some (.ref ca)) (A : Arr s s.heap ca cc (.object "java/lang/Long")) (h1 : (Jvm.Cond.eq (Term.length (Term.static "java/lang/Long$LongCache" "cache" "[Ljava/lang/Long;")) (Term.int (256 : Int32))).value args s none s [] = some true)
    (h2 : (Jvm.Cond.all (Term.static "java/lang/Long$LongCache" "cache" "[Ljava/lang/Long;") (.and (.exactly (.elem (Term.static "java/lang/Long$LongCache" "cache" "[Ljava/lang/Long;") (.index 0)) "java/lang/Long") (.eq (.field (.elem (Term.static "java/lang/Long$LongCache" "cache" "[Ljava/lang/Long;") (.index 0)) "java/lang/Long" "value" "J") (.op1 .i2l (.sub (.index 0) (.int (128 : Int32))))))).value args s none s [] = some true) : Bxs s ca cc "java/lang/Long" "J" (256 : Int32) (fun j => .long (j - (128 : Int32)).toInt64) := by
  have l1 := eqv_i (Term.int_eval (256 : Int32)) h1
  have l2 := SBG.length_lt e (A.fin (Vm.Alike.refl _)) l1
  obtain ⟨x, c', e1, e2, e3⟩ := Term.length_spec l1
  cases e.symm.trans e1
  cases (A.fin (Vm.Alike.refl _)).symm.trans e2
  refine Bxs.start (fun idx => e) A l2 (Value.int.inj e3).symm (by decide) h2 (fun X j nn h => ?_)
  exact eqv_l (i2l_at (own_idx128 nn)) h
set_option maxRecDepth 65536 in
set_option maxHeartbeats 40000000 in
theorem comes_1 {Post : Tables → Env → Array Value → State → Outcome → State → Prop} (hpost : ∀ tb e args s v u, (limb_1_1.after args s (.returned v) u = true ∧ limb_1_2.after args s (.returned v) u = true ∧ True) → FrameEnd s (.returned v) u (Jvm.fieldLocs frame_1_writes args s ++ Jvm.arrayLocs frame_1_arrays args s ++ Jvm.staticLocs frame_1_statics s) 16 128 → Post tb e args s (.returned v) u) :
    ArmFor flags0 classFile x code maxLocals ret World_1 tables_1 room_1 Calls_1 rest_1 Pre_1 Post := by
  intro l hfl _ _ p e ha hc hk s m args below hf hA hF happ hP
  obtain ⟨hcalls, hrest, hpre⟩ := hP
  obtain ⟨-, -, -, hnamed, -, -, -, hat⟩ := (Spec.applies_iff hf).mp happ
  obtain ⟨hg, hn⟩ := and_e (Cond.before_iff.mp (show (Jvm.Cond.and given_1 narrow_1).before args s = true from hpre))
  obtain ⟨gc, gr0⟩ := and_e hg
  obtain ⟨ga0, gr1⟩ := and_e gr0
  obtain ⟨ga1, gr2⟩ := and_e gr1
  obtain ⟨ga2, gr3⟩ := and_e gr2
  obtain ⟨ga3, gr4⟩ := and_e gr3
  obtain ⟨ga4, gr5⟩ := and_e gr4
  obtain ⟨w0, w1, w2, w3, w4, w5, rfl⟩ : ∃ w0 w1 w2 w3 w4 w5 : Value, args = #[w0, w1, w2, w3, w4, w5] := by
    have hs : args.size = 6 := by simpa [Cond.value, given_1] using gc
    obtain ⟨L⟩ := args
    match L, hs with
    | [w0, w1, w2, w3, w4, w5], _ => exact ⟨w0, w1, w2, w3, w4, w5, rfl⟩
  have hw := fun d (hd : d ∈ tables_1) => atoms_spec (ws := Jvm.Cond.code x code maxLocals ret :: tables_1) hat d (List.mem_cons_of_mem _ hd)
  have hfit : Fit s := fun {y c} hc i hi => by
    obtain ⟨ha, rfl⟩ := Array.getElem?_eq_some_iff.mp hc
    have q := List.all_eq_true.mp ((Array.all_eq_true_iff_forall_mem.mp hF) _ (Array.getElem_mem ha)) i (List.mem_range.mpr hi)
    simpa [Array.getElem?_eq_getElem hi] using q
  obtain ⟨hsets, hown0⟩ := atoms_of _ (rest_1_c_eq ▸ (show rest_1_c.before _ s = true from hrest))
  have hr0 := Cond.before_iff.mp hown0
  obtain ⟨i0, ei0⟩ := is_v ga0
  obtain rfl : w0 = (.int i0) := Option.some.inj ei0
  obtain ⟨i1, ei1⟩ := isL_v ga1
  obtain rfl : w1 = (.long i1) := Option.some.inj ei1
  obtain ⟨i2, ei2⟩ := isL_v ga2
  obtain rfl : w2 = (.long i2) := Option.some.inj ei2
  obtain ⟨i3, ei3⟩ := is_v ga3
  obtain rfl : w3 = (.int i3) := Option.some.inj ei3
  obtain ⟨i4, ei4⟩ := is_v ga4
  obtain rfl : w4 = (.int i4) := Option.some.inj ei4
  obtain ⟨i5, ei5⟩ := isL_v gr5
  obtain rfl : w5 = (.long i5) := Option.some.inj ei5
  obtain ⟨ca, eca⟩ := arr_v (Cond.before_iff.mp (hsets _ (List.mem_of_getElem? (i := 2) rfl)))
  have S_cache : Sta s s.heap "java/lang/Long$LongCache" "cache" "[Ljava/lang/Long;" (.ref ca) := Sta.start eca (Or.inl (hsets _ (List.mem_of_getElem? (i := 1) rfl)))
  obtain ⟨cc, Acc⟩ := Arr.start eca (Cond.before_iff.mp (hsets _ (List.mem_of_getElem? (i := 2) rfl)))
  have B_cache := own_box eca Acc (Cond.before_iff.mp (hsets _ (List.mem_of_getElem? (i := 4) rfl))) (Cond.before_iff.mp (hsets _ (List.mem_of_getElem? (i := 5) rfl)))
  obtain ⟨n, o, h1, h2, h3, _, L, rfl, ⟨rfl, N⟩, hq⟩ := rm0 l s _ hw tables_1 i0 i1 i2 i3 i4 i5 ca cc s.heap s.heap.size (Nat.le_refl _) (Old.start s) S_cache B_cache p e ha hc hk s m _ below hf ((Spec.applies_iff_loose hf).mp happ).1 ⟨rfl, State.Warmed39.refl s, rfl⟩ trivial
  refine ⟨n, _, h1, h2, h3, hpost _ _ _ _ _ _ ⟨Cond.after_iff.mpr rfl, Cond.after_iff.mpr (eq_i res_at (Term.int_eval (1)) rfl), trivial⟩ ⟨hq.1, hq.2.1, (hq.2.2.sift fun y hy => Or.inr (N y hy)).mono (by decide) (by decide)⟩⟩
theorem main_1_1 : Claimed_1_1 := comes_1 fun _ _ _ _ _ _ h hF => ⟨h.1, hF⟩
theorem main_1_2 : Claimed_1_2 := comes_1 fun _ _ _ _ _ _ h hF => ⟨h.2.1, hF⟩
end Jvm.Pilot.@@N@@
namespace Jvm.Pilot.@@N@@
open Jvm Jvm.ClassFile Sem Op Lib Jvm.Free Jvm.Stand Jvm.Pilot.@@N@@.Jvm.D
/-! MADE BY PROGRAM (witnessworld.py) out of the Statement's table words and the real class files: 16 classes; the members and pool entries that the words name. The judged class is class 1, her method 1. -/
namespace start1
open Jvm.ClassFile
def u (s : String) : CpInfo := .utf8 (stringToUtf16 s)
/-- a pool by its gaps: so many unusable entries, then the entry; so many at the end -/
def gap : Nat → List CpInfo → List CpInfo
  | 0, r => r
  | n + 1, r => .unusable :: gap n r
def poolList (es : List (Nat × CpInfo)) (last : Nat) : List CpInfo := es.foldr (fun e r => gap e.1 (e.2 :: r)) (gap last [])
def pool (es : List (Nat × CpInfo)) (last : Nat) : Array CpInfo := ⟨poolList es last⟩
def fileOf (pool : Array CpInfo) (this : Nat) (attrs : Array Attribute := #[]) (ms : Array MethodInfo := #[]) (fl : Nat := 33) (sup : Nat := 0) (ifs : Array Nat := #[]) (fds : Array FieldInfo := #[]) : ClassFile where
  minorVersion := 0
  majorVersion := 65
  constantPool := pool
  accessFlags := fl
  thisClass := this
  superClass := sup
  interfaces := ifs
  fields := fds
  methods := ms
  attributes := attrs
def plain (name : String) (sup : Option ClassId) : Class where
  name := name
  kind := .ordinary
  loader := none
  accessFlags := 33
  super := sup
  interfaces := #[]
  cf := none
  fields := #[]
  methods := #[]
  instanceTypes := #[]
  staticTypes := #[]
  resolved := #[]
  callSites := []
  init := .initialized
  statics := none
  mirror := none

def pool0 : Array CpInfo := pool [(5, u "<init>"), (0, u "()V"), (1, .class_ 10), (1, u "java/lang/Object")] 113

def k0c0 : Code := { maxStack := 0, maxLocals := 1, code := object_method_1_code, exceptionTable := #[], attributes := #[] }
def k0m0 : Method := { name := "<init>", desc := "()V", sig := { parameters := [], returnType := none }, accessFlags := 1, code := some k0c0 }
/-- java/lang/Object -/
def k0 : Class := { plain "java/lang/Object" none with
  accessFlags := 33
  interfaces := #[]
  cf := some (fileOf pool0 8 #[] #[{ accessFlags := 1, nameIndex := 5, descriptorIndex := 6, attributes := #[] }] 33 0 #[] #[])
  fields := #[]
  methods := #[k0m0]
  instanceTypes := #[]
  staticTypes := #[]
  resolved := Array.replicate 124 none
  statics := none }

def pool1 : Array CpInfo := pool [(2, .class_ 4), (1, u "java/lang/Object"), (0, u "<init>"), (0, u "()V"), (0, .class_ 8), (0, u "com/example/pankti/pankti/engine/JobId"), (0, .methodref 7 10), (0, .nameAndType 5 11), (0, u "(IJJSS)V"), (0, .methodref 7 13), (0, .nameAndType 14 15), (0, u "equals"), (0, u "(Ljava/lang/Object;)Z"), (0, .methodref 17 18), (0, .class_ 19), (0, .nameAndType 20 21), (0, u "java/lang/Long"), (0, u "valueOf"), (0, u "(J)Ljava/lang/Long;"), (0, .class_ 23), (0, u "com/example/pankti/pankti/engine/JobIdEqualsPinLaw"), (2, u "law"), (0, u "(IJJIIJ)Z")] 3

def k1m0 : Method := { name := "<init>", desc := "()V", sig := { parameters := [], returnType := none }, accessFlags := 1, code := none }
def k1c1 : Code := { maxStack := 9, maxLocals := 22, code := code, exceptionTable := #[], attributes := #[] }
def k1m1 : Method := { name := "law", desc := "(IJJIIJ)Z", sig := { parameters := [.int, .long, .long, .int, .int, .long], returnType := some .boolean }, accessFlags := 9, code := some k1c1 }
/-- com/example/pankti/pankti/engine/JobIdEqualsPinLaw -/
def k1 : Class := { plain "com/example/pankti/pankti/engine/JobIdEqualsPinLaw" (some 0) with
  accessFlags := 49
  interfaces := #[]
  cf := some (fileOf pool1 22 #[] #[{ accessFlags := 1, nameIndex := 5, descriptorIndex := 6, attributes := #[] }, { accessFlags := 9, nameIndex := 26, descriptorIndex := 27, attributes := #[] }] 49 2 #[] #[])
  fields := #[]
  methods := #[k1m0, k1m1]
  instanceTypes := #[]
  staticTypes := #[]
  resolved := Array.replicate 31 none
  statics := none }

def pool2 : Array CpInfo := pool [(1, .class_ 2), (0, u "com/example/pankti/pankti/engine/JobId"), (0, .methodref 4 5), (0, .class_ 6), (0, .nameAndType 7 8), (0, u "java/lang/Object"), (0, u "<init>"), (0, u "()V"), (0, .fieldref 1 10), (0, .nameAndType 11 12), (0, u "node"), (0, u "I"), (0, .fieldref 1 14), (0, .nameAndType 15 16), (0, u "randomHigh"), (0, u "J"), (0, .fieldref 1 18), (0, .nameAndType 19 16), (0, u "randomMiddle"), (0, .fieldref 1 21), (0, .nameAndType 22 23), (0, u "randomLow"), (0, u "S"), (0, .fieldref 1 25), (0, .nameAndType 26 23), (0, u "ttlField"), (10, u "(IJJSS)V"), (51, u "TEXT"), (0, u "Ljava/util/regex/Pattern;"), (105, u "HEX_DIGITS"), (0, u "[B"), (6, u "BASE64_DIGITS"), (14, u "LENGTH"), (2, u "BYTES"), (1, u "NODE_DIGITS"), (1, u "NODE_START"), (1, u "RANDOM_START"), (1, u "RANDOM_END"), (1, u "RANDOM_BYTES"), (1, u "TTL_START"), (1, u "MAX_TTL_MINUTES"), (0, u "SECONDS_PER_MINUTE"), (0, u "NODE_BITS"), (1, u "TTL_FIELD_BITS"), (1, u "BASE64_GROUP_BYTES"), (14, u "equals"), (0, u "(Ljava/lang/Object;)Z")] 20

def k2c0 : Code := { maxStack := 3, maxLocals := 8, code := prog_17_method_1_code, exceptionTable := #[], attributes := #[] }
def k2m0 : Method := { name := "<init>", desc := "(IJJSS)V", sig := { parameters := [.int, .long, .long, .short, .short], returnType := none }, accessFlags := 0, code := some k2c0 }
def k2c1 : Code := { maxStack := 4, maxLocals := 3, code := prog_17_method_11_code, exceptionTable := #[], attributes := #[] }
def k2m1 : Method := { name := "equals", desc := "(Ljava/lang/Object;)Z", sig := { parameters := [(.object "java/lang/Object")], returnType := some .boolean }, accessFlags := 1, code := some k2c1 }
/-- com/example/pankti/pankti/engine/JobId -/
def k2 : Class := { plain "com/example/pankti/pankti/engine/JobId" (some 0) with
  accessFlags := 49
  interfaces := #[]
  cf := some (fileOf pool2 1 #[] #[{ accessFlags := 0, nameIndex := 7, descriptorIndex := 37, attributes := #[] }, { accessFlags := 1, nameIndex := 257, descriptorIndex := 258, attributes := #[] }] 49 4 #[] #[{ accessFlags := 25, nameIndex := 219, descriptorIndex := 12, attributes := #[] }, { accessFlags := 25, nameIndex := 222, descriptorIndex := 12, attributes := #[] }, { accessFlags := 26, nameIndex := 224, descriptorIndex := 12, attributes := #[] }, { accessFlags := 26, nameIndex := 226, descriptorIndex := 12, attributes := #[] }, { accessFlags := 26, nameIndex := 228, descriptorIndex := 12, attributes := #[] }, { accessFlags := 26, nameIndex := 230, descriptorIndex := 12, attributes := #[] }, { accessFlags := 26, nameIndex := 232, descriptorIndex := 12, attributes := #[] }, { accessFlags := 26, nameIndex := 234, descriptorIndex := 12, attributes := #[] }, { accessFlags := 26, nameIndex := 236, descriptorIndex := 16, attributes := #[] }, { accessFlags := 26, nameIndex := 237, descriptorIndex := 16, attributes := #[] }, { accessFlags := 26, nameIndex := 89, descriptorIndex := 90, attributes := #[] }, { accessFlags := 26, nameIndex := 196, descriptorIndex := 197, attributes := #[] }, { accessFlags := 26, nameIndex := 204, descriptorIndex := 197, attributes := #[] }, { accessFlags := 26, nameIndex := 238, descriptorIndex := 12, attributes := #[] }, { accessFlags := 26, nameIndex := 240, descriptorIndex := 12, attributes := #[] }, { accessFlags := 26, nameIndex := 242, descriptorIndex := 12, attributes := #[] }, { accessFlags := 18, nameIndex := 11, descriptorIndex := 12, attributes := #[] }, { accessFlags := 18, nameIndex := 15, descriptorIndex := 16, attributes := #[] }, { accessFlags := 18, nameIndex := 19, descriptorIndex := 16, attributes := #[] }, { accessFlags := 18, nameIndex := 22, descriptorIndex := 23, attributes := #[] }, { accessFlags := 18, nameIndex := 26, descriptorIndex := 23, attributes := #[] }])
  fields := #[{ name := "LENGTH", type := .int, accessFlags := 25, slot := 0, constantValue := 0 }, { name := "BYTES", type := .int, accessFlags := 25, slot := 1, constantValue := 0 }, { name := "NODE_DIGITS", type := .int, accessFlags := 26, slot := 2, constantValue := 0 }, { name := "NODE_START", type := .int, accessFlags := 26, slot := 3, constantValue := 0 }, { name := "RANDOM_START", type := .int, accessFlags := 26, slot := 4, constantValue := 0 }, { name := "RANDOM_END", type := .int, accessFlags := 26, slot := 5, constantValue := 0 }, { name := "RANDOM_BYTES", type := .int, accessFlags := 26, slot := 6, constantValue := 0 }, { name := "TTL_START", type := .int, accessFlags := 26, slot := 7, constantValue := 0 }, { name := "MAX_TTL_MINUTES", type := .long, accessFlags := 26, slot := 8, constantValue := 0 }, { name := "SECONDS_PER_MINUTE", type := .long, accessFlags := 26, slot := 9, constantValue := 0 }, { name := "TEXT", type := (.object "java/util/regex/Pattern"), accessFlags := 26, slot := 10, constantValue := 0 }, { name := "HEX_DIGITS", type := (.array .byte), accessFlags := 26, slot := 11, constantValue := 0 }, { name := "BASE64_DIGITS", type := (.array .byte), accessFlags := 26, slot := 12, constantValue := 0 }, { name := "NODE_BITS", type := .int, accessFlags := 26, slot := 13, constantValue := 0 }, { name := "TTL_FIELD_BITS", type := .int, accessFlags := 26, slot := 14, constantValue := 0 }, { name := "BASE64_GROUP_BYTES", type := .int, accessFlags := 26, slot := 15, constantValue := 0 }, { name := "node", type := .int, accessFlags := 18, slot := 0, constantValue := 0 }, { name := "randomHigh", type := .long, accessFlags := 18, slot := 1, constantValue := 0 }, { name := "randomMiddle", type := .long, accessFlags := 18, slot := 2, constantValue := 0 }, { name := "randomLow", type := .short, accessFlags := 18, slot := 3, constantValue := 0 }, { name := "ttlField", type := .short, accessFlags := 18, slot := 4, constantValue := 0 }]
  methods := #[k2m0, k2m1]
  instanceTypes := #[.int, .long, .long, .short, .short]
  staticTypes := #[.int, .int, .int, .int, .int, .int, .int, .int, .long, .long, (.object "java/util/regex/Pattern"), (.array .byte), (.array .byte), .int, .int, .int]
  resolved := Array.replicate 279 none
  statics := none }

def pool3 : Array CpInfo := pool [(1, .class_ 2), (0, u "java/io/Serializable"), (0, .class_ 4), (0, u "java/lang/Object")] 2

/-- java/io/Serializable -/
def k3 : Class := { plain "java/io/Serializable" (some 0) with
  accessFlags := 1537
  interfaces := #[]
  cf := some (fileOf pool3 1 #[] #[] 1537 3 #[] #[])
  fields := #[]
  methods := #[]
  instanceTypes := #[]
  staticTypes := #[]
  resolved := Array.replicate 7 none
  statics := none }

def pool4 : Array CpInfo := pool [(1, .methodref 2 3), (0, .class_ 4), (0, .nameAndType 5 6), (0, u "java/lang/Object"), (0, u "<init>"), (0, u "()V"), (1, .class_ 10), (1, u "java/lang/Number"), (2, .class_ 14), (0, u "java/io/Serializable"), (0, u "serialVersionUID"), (0, u "J")] 20

def k4c0 : Code := { maxStack := 1, maxLocals := 1, code := jdk_18_method_1_code, exceptionTable := #[], attributes := #[] }
def k4m0 : Method := { name := "<init>", desc := "()V", sig := { parameters := [], returnType := none }, accessFlags := 1, code := some k4c0 }
/-- java/lang/Number -/
def k4 : Class := { plain "java/lang/Number" (some 0) with
  accessFlags := 1057
  interfaces := #[3]
  cf := some (fileOf pool4 8 #[] #[{ accessFlags := 1, nameIndex := 5, descriptorIndex := 6, attributes := #[] }] 1057 2 #[13] #[{ accessFlags := 26, nameIndex := 15, descriptorIndex := 16, attributes := #[] }])
  fields := #[{ name := "serialVersionUID", type := .long, accessFlags := 26, slot := 0, constantValue := 0 }]
  methods := #[k4m0]
  instanceTypes := #[]
  staticTypes := #[.long]
  resolved := Array.replicate 37 none
  statics := none }

def pool5 : Array CpInfo := pool [(1, .class_ 2), (0, u "java/lang/Comparable"), (0, .class_ 4), (0, u "java/lang/Object")] 7

/-- java/lang/Comparable -/
def k5 : Class := { plain "java/lang/Comparable" (some 0) with
  accessFlags := 1537
  interfaces := #[]
  cf := some (fileOf pool5 1 #[] #[] 1537 3 #[] #[])
  fields := #[]
  methods := #[]
  instanceTypes := #[]
  staticTypes := #[]
  resolved := Array.replicate 12 none
  statics := none }

def pool6 : Array CpInfo := pool [(1, .class_ 2), (0, u "java/lang/constant/Constable"), (0, .class_ 4), (0, u "java/lang/Object")] 6

/-- java/lang/constant/Constable -/
def k6 : Class := { plain "java/lang/constant/Constable" (some 0) with
  accessFlags := 1537
  interfaces := #[]
  cf := some (fileOf pool6 1 #[] #[] 1537 3 #[] #[])
  fields := #[]
  methods := #[]
  instanceTypes := #[]
  staticTypes := #[]
  resolved := Array.replicate 11 none
  statics := none }

def pool7 : Array CpInfo := pool [(1, .class_ 2), (0, u "java/lang/constant/ConstantDesc"), (0, .class_ 4), (0, u "java/lang/Object")] 32

/-- java/lang/constant/ConstantDesc -/
def k7 : Class := { plain "java/lang/constant/ConstantDesc" (some 0) with
  accessFlags := 1537
  interfaces := #[]
  cf := some (fileOf pool7 1 #[] #[] 1537 3 #[] #[])
  fields := #[]
  methods := #[]
  instanceTypes := #[]
  staticTypes := #[]
  resolved := Array.replicate 37 none
  statics := none }

def pool8 : Array CpInfo := pool [(1, .class_ 2), (0, u "java/lang/Long"), (55, .nameAndType 59 60), (0, u "<init>"), (0, u "()V"), (24, u "valueOf"), (143, u "(J)Ljava/lang/Long;"), (0, .long 18446744073709551488), (1, .long 127), (1, .fieldref 235 236), (0, .class_ 237), (0, .nameAndType 238 239), (0, u "java/lang/Long$LongCache"), (0, u "cache"), (0, u "[Ljava/lang/Long;"), (0, .methodref 1 241), (0, .nameAndType 59 242), (0, u "(J)V"), (27, .methodref 271 58), (0, .class_ 272), (0, u "java/lang/Number"), (0, .fieldref 1 274), (0, .nameAndType 275 276), (0, u "value"), (0, u "J"), (84, u "TYPE"), (0, u "Ljava/lang/Class;"), (0, .class_ 364), (0, u "java/lang/Comparable"), (0, .class_ 366), (0, u "java/lang/constant/Constable"), (0, .class_ 368), (0, u "java/lang/constant/ConstantDesc"), (0, u "MIN_VALUE"), (1, u "MAX_VALUE"), (4, u "SIZE"), (0, u "I"), (1, u "BYTES"), (1, u "serialVersionUID")] 142

def k8c0 : Code := { maxStack := 4, maxLocals := 3, code := jdk_35_method_24_code, exceptionTable := #[], attributes := #[] }
def k8m0 : Method := { name := "valueOf", desc := "(J)Ljava/lang/Long;", sig := { parameters := [.long], returnType := some (.object "java/lang/Long") }, accessFlags := 9, code := some k8c0 }
def k8c1 : Code := { maxStack := 3, maxLocals := 3, code := jdk_35_method_26_code, exceptionTable := #[], attributes := #[] }
def k8m1 : Method := { name := "<init>", desc := "(J)V", sig := { parameters := [.long], returnType := none }, accessFlags := 1, code := some k8c1 }
/-- java/lang/Long -/
def k8 : Class := { plain "java/lang/Long" (some 4) with
  accessFlags := 49
  interfaces := #[5, 6, 7]
  cf := some (fileOf pool8 1 #[.nestMembers #[235]] #[{ accessFlags := 9, nameIndex := 85, descriptorIndex := 229, attributes := #[] }, { accessFlags := 1, nameIndex := 59, descriptorIndex := 242, attributes := #[] }] 49 271 #[363, 365, 367] #[{ accessFlags := 25, nameIndex := 369, descriptorIndex := 276, attributes := #[] }, { accessFlags := 25, nameIndex := 371, descriptorIndex := 276, attributes := #[] }, { accessFlags := 25, nameIndex := 361, descriptorIndex := 362, attributes := #[] }, { accessFlags := 18, nameIndex := 275, descriptorIndex := 276, attributes := #[] }, { accessFlags := 25, nameIndex := 376, descriptorIndex := 377, attributes := #[] }, { accessFlags := 25, nameIndex := 379, descriptorIndex := 377, attributes := #[] }, { accessFlags := 26, nameIndex := 381, descriptorIndex := 276, attributes := #[] }])
  fields := #[{ name := "MIN_VALUE", type := .long, accessFlags := 25, slot := 0, constantValue := 0 }, { name := "MAX_VALUE", type := .long, accessFlags := 25, slot := 1, constantValue := 0 }, { name := "TYPE", type := (.object "java/lang/Class"), accessFlags := 25, slot := 2, constantValue := 0 }, { name := "value", type := .long, accessFlags := 18, slot := 0, constantValue := 0 }, { name := "SIZE", type := .int, accessFlags := 25, slot := 3, constantValue := 0 }, { name := "BYTES", type := .int, accessFlags := 25, slot := 4, constantValue := 0 }, { name := "serialVersionUID", type := .long, accessFlags := 26, slot := 5, constantValue := 0 }]
  methods := #[k8m0, k8m1]
  instanceTypes := #[.long]
  staticTypes := #[.long, .long, (.object "java/lang/Class"), .int, .int, .long]
  resolved := Array.replicate 524 none
  statics := none }

def pool9 : Array CpInfo := pool [(2, .class_ 4), (1, u "java/lang/Object"), (0, u "<init>"), (0, u "()V"), (0, .class_ 8), (0, u "java/lang/Long"), (7, .class_ 18), (1, u "java/lang/Long$LongCache"), (0, u "$assertionsDisabled"), (0, u "Z"), (8, u "archivedCache"), (0, u "[Ljava/lang/Long;"), (7, u "cache")] 24

def k9m0 : Method := { name := "<init>", desc := "()V", sig := { parameters := [], returnType := none }, accessFlags := 2, code := none }
/-- java/lang/Long$LongCache -/
def k9 : Class := { plain "java/lang/Long$LongCache" (some 0) with
  accessFlags := 48
  interfaces := #[]
  cf := some (fileOf pool9 16 #[.nestHost 7] #[{ accessFlags := 2, nameIndex := 5, descriptorIndex := 6, attributes := #[] }] 48 2 #[] #[{ accessFlags := 24, nameIndex := 38, descriptorIndex := 30, attributes := #[] }, { accessFlags := 8, nameIndex := 29, descriptorIndex := 30, attributes := #[] }, { accessFlags := 4120, nameIndex := 19, descriptorIndex := 20, attributes := #[] }])
  fields := #[{ name := "cache", type := (.array (.object "java/lang/Long")), accessFlags := 24, slot := 0, constantValue := 0 }, { name := "archivedCache", type := (.array (.object "java/lang/Long")), accessFlags := 8, slot := 1, constantValue := 0 }, { name := "$assertionsDisabled", type := .boolean, accessFlags := 4120, slot := 2, constantValue := 0 }]
  methods := #[k9m0]
  instanceTypes := #[]
  staticTypes := #[(.array (.object "java/lang/Long")), (.array (.object "java/lang/Long")), .boolean]
  resolved := Array.replicate 63 none
  statics := some 0 }

def pool10 : Array CpInfo := pool [(1, u "java/lang/Cloneable"), (0, .class_ 1), (0, u "java/lang/Object"), (0, .class_ 3)] 3

/-- java/lang/Cloneable -/
def k10 : Class := { plain "java/lang/Cloneable" (some 0) with
  accessFlags := 1537
  interfaces := #[]
  cf := some (fileOf pool10 2 #[] #[] 1537 4 #[] #[])
  fields := #[]
  methods := #[]
  instanceTypes := #[]
  staticTypes := #[]
  resolved := Array.replicate 8 none
  statics := none }

/-- the primitive byte -/
def k11 : Class := { plain "byte" none with kind := .primitive 'B', accessFlags := 0x411 }
/-- [B -/
def k12 : Class := { plain "[B" (some 0) with kind := .array 11 .byte, interfaces := #[10, 3], accessFlags := 1041 }

/-- the primitive int -/
def k13 : Class := { plain "int" none with kind := .primitive 'I', accessFlags := 0x411 }
/-- [I -/
def k14 : Class := { plain "[I" (some 0) with kind := .array 13 .int, interfaces := #[10, 3], accessFlags := 1041 }

/-- [Ljava/lang/Long; -/
def k15 : Class := { plain "[Ljava/lang/Long;" (some 0) with kind := .array 8 (.object "java/lang/Long"), interfaces := #[10, 3], accessFlags := 1041 }

def heap : Heap := #[{ cls := 9, slots := #[.ref 1, .null, .int 0], vm := .statics 9 },
  { cls := 15, slots := #[.ref 2, .ref 3, .ref 4, .ref 5, .ref 6, .ref 7, .ref 8, .ref 9, .ref 10, .ref 11, .ref 12, .ref 13, .ref 14, .ref 15, .ref 16, .ref 17, .ref 18, .ref 19, .ref 20, .ref 21, .ref 22, .ref 23, .ref 24, .ref 25, .ref 26, .ref 27, .ref 28, .ref 29, .ref 30, .ref 31, .ref 32, .ref 33, .ref 34, .ref 35, .ref 36, .ref 37, .ref 38, .ref 39, .ref 40, .ref 41, .ref 42, .ref 43, .ref 44, .ref 45, .ref 46, .ref 47, .ref 48, .ref 49, .ref 50, .ref 51, .ref 52, .ref 53, .ref 54, .ref 55, .ref 56, .ref 57, .ref 58, .ref 59, .ref 60, .ref 61, .ref 62, .ref 63, .ref 64, .ref 65, .ref 66, .ref 67, .ref 68, .ref 69, .ref 70, .ref 71, .ref 72, .ref 73, .ref 74, .ref 75, .ref 76, .ref 77, .ref 78, .ref 79, .ref 80, .ref 81, .ref 82, .ref 83, .ref 84, .ref 85, .ref 86, .ref 87, .ref 88, .ref 89, .ref 90, .ref 91, .ref 92, .ref 93, .ref 94, .ref 95, .ref 96, .ref 97, .ref 98, .ref 99, .ref 100, .ref 101, .ref 102, .ref 103, .ref 104, .ref 105, .ref 106, .ref 107, .ref 108, .ref 109, .ref 110, .ref 111, .ref 112, .ref 113, .ref 114, .ref 115, .ref 116, .ref 117, .ref 118, .ref 119, .ref 120, .ref 121, .ref 122, .ref 123, .ref 124, .ref 125, .ref 126, .ref 127, .ref 128, .ref 129, .ref 130, .ref 131, .ref 132, .ref 133, .ref 134, .ref 135, .ref 136, .ref 137, .ref 138, .ref 139, .ref 140, .ref 141, .ref 142, .ref 143, .ref 144, .ref 145, .ref 146, .ref 147, .ref 148, .ref 149, .ref 150, .ref 151, .ref 152, .ref 153, .ref 154, .ref 155, .ref 156, .ref 157, .ref 158, .ref 159, .ref 160, .ref 161, .ref 162, .ref 163, .ref 164, .ref 165, .ref 166, .ref 167, .ref 168, .ref 169, .ref 170, .ref 171, .ref 172, .ref 173, .ref 174, .ref 175, .ref 176, .ref 177, .ref 178, .ref 179, .ref 180, .ref 181, .ref 182, .ref 183, .ref 184, .ref 185, .ref 186, .ref 187, .ref 188, .ref 189, .ref 190, .ref 191, .ref 192, .ref 193, .ref 194, .ref 195, .ref 196, .ref 197, .ref 198, .ref 199, .ref 200, .ref 201, .ref 202, .ref 203, .ref 204, .ref 205, .ref 206, .ref 207, .ref 208, .ref 209, .ref 210, .ref 211, .ref 212, .ref 213, .ref 214, .ref 215, .ref 216, .ref 217, .ref 218, .ref 219, .ref 220, .ref 221, .ref 222, .ref 223, .ref 224, .ref 225, .ref 226, .ref 227, .ref 228, .ref 229, .ref 230, .ref 231, .ref 232, .ref 233, .ref 234, .ref 235, .ref 236, .ref 237, .ref 238, .ref 239, .ref 240, .ref 241, .ref 242, .ref 243, .ref 244, .ref 245, .ref 246, .ref 247, .ref 248, .ref 249, .ref 250, .ref 251, .ref 252, .ref 253, .ref 254, .ref 255, .ref 256, .ref 257], vm := .none },
  { cls := 8, slots := #[.long (-128)], vm := .none },
  { cls := 8, slots := #[.long (-127)], vm := .none },
  { cls := 8, slots := #[.long (-126)], vm := .none },
  { cls := 8, slots := #[.long (-125)], vm := .none },
  { cls := 8, slots := #[.long (-124)], vm := .none },
  { cls := 8, slots := #[.long (-123)], vm := .none },
  { cls := 8, slots := #[.long (-122)], vm := .none },
  { cls := 8, slots := #[.long (-121)], vm := .none },
  { cls := 8, slots := #[.long (-120)], vm := .none },
  { cls := 8, slots := #[.long (-119)], vm := .none },
  { cls := 8, slots := #[.long (-118)], vm := .none },
  { cls := 8, slots := #[.long (-117)], vm := .none },
  { cls := 8, slots := #[.long (-116)], vm := .none },
  { cls := 8, slots := #[.long (-115)], vm := .none },
  { cls := 8, slots := #[.long (-114)], vm := .none },
  { cls := 8, slots := #[.long (-113)], vm := .none },
  { cls := 8, slots := #[.long (-112)], vm := .none },
  { cls := 8, slots := #[.long (-111)], vm := .none },
  { cls := 8, slots := #[.long (-110)], vm := .none },
  { cls := 8, slots := #[.long (-109)], vm := .none },
  { cls := 8, slots := #[.long (-108)], vm := .none },
  { cls := 8, slots := #[.long (-107)], vm := .none },
  { cls := 8, slots := #[.long (-106)], vm := .none },
  { cls := 8, slots := #[.long (-105)], vm := .none },
  { cls := 8, slots := #[.long (-104)], vm := .none },
  { cls := 8, slots := #[.long (-103)], vm := .none },
  { cls := 8, slots := #[.long (-102)], vm := .none },
  { cls := 8, slots := #[.long (-101)], vm := .none },
  { cls := 8, slots := #[.long (-100)], vm := .none },
  { cls := 8, slots := #[.long (-99)], vm := .none },
  { cls := 8, slots := #[.long (-98)], vm := .none },
  { cls := 8, slots := #[.long (-97)], vm := .none },
  { cls := 8, slots := #[.long (-96)], vm := .none },
  { cls := 8, slots := #[.long (-95)], vm := .none },
  { cls := 8, slots := #[.long (-94)], vm := .none },
  { cls := 8, slots := #[.long (-93)], vm := .none },
  { cls := 8, slots := #[.long (-92)], vm := .none },
  { cls := 8, slots := #[.long (-91)], vm := .none },
  { cls := 8, slots := #[.long (-90)], vm := .none },
  { cls := 8, slots := #[.long (-89)], vm := .none },
  { cls := 8, slots := #[.long (-88)], vm := .none },
  { cls := 8, slots := #[.long (-87)], vm := .none },
  { cls := 8, slots := #[.long (-86)], vm := .none },
  { cls := 8, slots := #[.long (-85)], vm := .none },
  { cls := 8, slots := #[.long (-84)], vm := .none },
  { cls := 8, slots := #[.long (-83)], vm := .none },
  { cls := 8, slots := #[.long (-82)], vm := .none },
  { cls := 8, slots := #[.long (-81)], vm := .none },
  { cls := 8, slots := #[.long (-80)], vm := .none },
  { cls := 8, slots := #[.long (-79)], vm := .none },
  { cls := 8, slots := #[.long (-78)], vm := .none },
  { cls := 8, slots := #[.long (-77)], vm := .none },
  { cls := 8, slots := #[.long (-76)], vm := .none },
  { cls := 8, slots := #[.long (-75)], vm := .none },
  { cls := 8, slots := #[.long (-74)], vm := .none },
  { cls := 8, slots := #[.long (-73)], vm := .none },
  { cls := 8, slots := #[.long (-72)], vm := .none },
  { cls := 8, slots := #[.long (-71)], vm := .none },
  { cls := 8, slots := #[.long (-70)], vm := .none },
  { cls := 8, slots := #[.long (-69)], vm := .none },
  { cls := 8, slots := #[.long (-68)], vm := .none },
  { cls := 8, slots := #[.long (-67)], vm := .none },
  { cls := 8, slots := #[.long (-66)], vm := .none },
  { cls := 8, slots := #[.long (-65)], vm := .none },
  { cls := 8, slots := #[.long (-64)], vm := .none },
  { cls := 8, slots := #[.long (-63)], vm := .none },
  { cls := 8, slots := #[.long (-62)], vm := .none },
  { cls := 8, slots := #[.long (-61)], vm := .none },
  { cls := 8, slots := #[.long (-60)], vm := .none },
  { cls := 8, slots := #[.long (-59)], vm := .none },
  { cls := 8, slots := #[.long (-58)], vm := .none },
  { cls := 8, slots := #[.long (-57)], vm := .none },
  { cls := 8, slots := #[.long (-56)], vm := .none },
  { cls := 8, slots := #[.long (-55)], vm := .none },
  { cls := 8, slots := #[.long (-54)], vm := .none },
  { cls := 8, slots := #[.long (-53)], vm := .none },
  { cls := 8, slots := #[.long (-52)], vm := .none },
  { cls := 8, slots := #[.long (-51)], vm := .none },
  { cls := 8, slots := #[.long (-50)], vm := .none },
  { cls := 8, slots := #[.long (-49)], vm := .none },
  { cls := 8, slots := #[.long (-48)], vm := .none },
  { cls := 8, slots := #[.long (-47)], vm := .none },
  { cls := 8, slots := #[.long (-46)], vm := .none },
  { cls := 8, slots := #[.long (-45)], vm := .none },
  { cls := 8, slots := #[.long (-44)], vm := .none },
  { cls := 8, slots := #[.long (-43)], vm := .none },
  { cls := 8, slots := #[.long (-42)], vm := .none },
  { cls := 8, slots := #[.long (-41)], vm := .none },
  { cls := 8, slots := #[.long (-40)], vm := .none },
  { cls := 8, slots := #[.long (-39)], vm := .none },
  { cls := 8, slots := #[.long (-38)], vm := .none },
  { cls := 8, slots := #[.long (-37)], vm := .none },
  { cls := 8, slots := #[.long (-36)], vm := .none },
  { cls := 8, slots := #[.long (-35)], vm := .none },
  { cls := 8, slots := #[.long (-34)], vm := .none },
  { cls := 8, slots := #[.long (-33)], vm := .none },
  { cls := 8, slots := #[.long (-32)], vm := .none },
  { cls := 8, slots := #[.long (-31)], vm := .none },
  { cls := 8, slots := #[.long (-30)], vm := .none },
  { cls := 8, slots := #[.long (-29)], vm := .none },
  { cls := 8, slots := #[.long (-28)], vm := .none },
  { cls := 8, slots := #[.long (-27)], vm := .none },
  { cls := 8, slots := #[.long (-26)], vm := .none },
  { cls := 8, slots := #[.long (-25)], vm := .none },
  { cls := 8, slots := #[.long (-24)], vm := .none },
  { cls := 8, slots := #[.long (-23)], vm := .none },
  { cls := 8, slots := #[.long (-22)], vm := .none },
  { cls := 8, slots := #[.long (-21)], vm := .none },
  { cls := 8, slots := #[.long (-20)], vm := .none },
  { cls := 8, slots := #[.long (-19)], vm := .none },
  { cls := 8, slots := #[.long (-18)], vm := .none },
  { cls := 8, slots := #[.long (-17)], vm := .none },
  { cls := 8, slots := #[.long (-16)], vm := .none },
  { cls := 8, slots := #[.long (-15)], vm := .none },
  { cls := 8, slots := #[.long (-14)], vm := .none },
  { cls := 8, slots := #[.long (-13)], vm := .none },
  { cls := 8, slots := #[.long (-12)], vm := .none },
  { cls := 8, slots := #[.long (-11)], vm := .none },
  { cls := 8, slots := #[.long (-10)], vm := .none },
  { cls := 8, slots := #[.long (-9)], vm := .none },
  { cls := 8, slots := #[.long (-8)], vm := .none },
  { cls := 8, slots := #[.long (-7)], vm := .none },
  { cls := 8, slots := #[.long (-6)], vm := .none },
  { cls := 8, slots := #[.long (-5)], vm := .none },
  { cls := 8, slots := #[.long (-4)], vm := .none },
  { cls := 8, slots := #[.long (-3)], vm := .none },
  { cls := 8, slots := #[.long (-2)], vm := .none },
  { cls := 8, slots := #[.long (-1)], vm := .none },
  { cls := 8, slots := #[.long 0], vm := .none },
  { cls := 8, slots := #[.long 1], vm := .none },
  { cls := 8, slots := #[.long 2], vm := .none },
  { cls := 8, slots := #[.long 3], vm := .none },
  { cls := 8, slots := #[.long 4], vm := .none },
  { cls := 8, slots := #[.long 5], vm := .none },
  { cls := 8, slots := #[.long 6], vm := .none },
  { cls := 8, slots := #[.long 7], vm := .none },
  { cls := 8, slots := #[.long 8], vm := .none },
  { cls := 8, slots := #[.long 9], vm := .none },
  { cls := 8, slots := #[.long 10], vm := .none },
  { cls := 8, slots := #[.long 11], vm := .none },
  { cls := 8, slots := #[.long 12], vm := .none },
  { cls := 8, slots := #[.long 13], vm := .none },
  { cls := 8, slots := #[.long 14], vm := .none },
  { cls := 8, slots := #[.long 15], vm := .none },
  { cls := 8, slots := #[.long 16], vm := .none },
  { cls := 8, slots := #[.long 17], vm := .none },
  { cls := 8, slots := #[.long 18], vm := .none },
  { cls := 8, slots := #[.long 19], vm := .none },
  { cls := 8, slots := #[.long 20], vm := .none },
  { cls := 8, slots := #[.long 21], vm := .none },
  { cls := 8, slots := #[.long 22], vm := .none },
  { cls := 8, slots := #[.long 23], vm := .none },
  { cls := 8, slots := #[.long 24], vm := .none },
  { cls := 8, slots := #[.long 25], vm := .none },
  { cls := 8, slots := #[.long 26], vm := .none },
  { cls := 8, slots := #[.long 27], vm := .none },
  { cls := 8, slots := #[.long 28], vm := .none },
  { cls := 8, slots := #[.long 29], vm := .none },
  { cls := 8, slots := #[.long 30], vm := .none },
  { cls := 8, slots := #[.long 31], vm := .none },
  { cls := 8, slots := #[.long 32], vm := .none },
  { cls := 8, slots := #[.long 33], vm := .none },
  { cls := 8, slots := #[.long 34], vm := .none },
  { cls := 8, slots := #[.long 35], vm := .none },
  { cls := 8, slots := #[.long 36], vm := .none },
  { cls := 8, slots := #[.long 37], vm := .none },
  { cls := 8, slots := #[.long 38], vm := .none },
  { cls := 8, slots := #[.long 39], vm := .none },
  { cls := 8, slots := #[.long 40], vm := .none },
  { cls := 8, slots := #[.long 41], vm := .none },
  { cls := 8, slots := #[.long 42], vm := .none },
  { cls := 8, slots := #[.long 43], vm := .none },
  { cls := 8, slots := #[.long 44], vm := .none },
  { cls := 8, slots := #[.long 45], vm := .none },
  { cls := 8, slots := #[.long 46], vm := .none },
  { cls := 8, slots := #[.long 47], vm := .none },
  { cls := 8, slots := #[.long 48], vm := .none },
  { cls := 8, slots := #[.long 49], vm := .none },
  { cls := 8, slots := #[.long 50], vm := .none },
  { cls := 8, slots := #[.long 51], vm := .none },
  { cls := 8, slots := #[.long 52], vm := .none },
  { cls := 8, slots := #[.long 53], vm := .none },
  { cls := 8, slots := #[.long 54], vm := .none },
  { cls := 8, slots := #[.long 55], vm := .none },
  { cls := 8, slots := #[.long 56], vm := .none },
  { cls := 8, slots := #[.long 57], vm := .none },
  { cls := 8, slots := #[.long 58], vm := .none },
  { cls := 8, slots := #[.long 59], vm := .none },
  { cls := 8, slots := #[.long 60], vm := .none },
  { cls := 8, slots := #[.long 61], vm := .none },
  { cls := 8, slots := #[.long 62], vm := .none },
  { cls := 8, slots := #[.long 63], vm := .none },
  { cls := 8, slots := #[.long 64], vm := .none },
  { cls := 8, slots := #[.long 65], vm := .none },
  { cls := 8, slots := #[.long 66], vm := .none },
  { cls := 8, slots := #[.long 67], vm := .none },
  { cls := 8, slots := #[.long 68], vm := .none },
  { cls := 8, slots := #[.long 69], vm := .none },
  { cls := 8, slots := #[.long 70], vm := .none },
  { cls := 8, slots := #[.long 71], vm := .none },
  { cls := 8, slots := #[.long 72], vm := .none },
  { cls := 8, slots := #[.long 73], vm := .none },
  { cls := 8, slots := #[.long 74], vm := .none },
  { cls := 8, slots := #[.long 75], vm := .none },
  { cls := 8, slots := #[.long 76], vm := .none },
  { cls := 8, slots := #[.long 77], vm := .none },
  { cls := 8, slots := #[.long 78], vm := .none },
  { cls := 8, slots := #[.long 79], vm := .none },
  { cls := 8, slots := #[.long 80], vm := .none },
  { cls := 8, slots := #[.long 81], vm := .none },
  { cls := 8, slots := #[.long 82], vm := .none },
  { cls := 8, slots := #[.long 83], vm := .none },
  { cls := 8, slots := #[.long 84], vm := .none },
  { cls := 8, slots := #[.long 85], vm := .none },
  { cls := 8, slots := #[.long 86], vm := .none },
  { cls := 8, slots := #[.long 87], vm := .none },
  { cls := 8, slots := #[.long 88], vm := .none },
  { cls := 8, slots := #[.long 89], vm := .none },
  { cls := 8, slots := #[.long 90], vm := .none },
  { cls := 8, slots := #[.long 91], vm := .none },
  { cls := 8, slots := #[.long 92], vm := .none },
  { cls := 8, slots := #[.long 93], vm := .none },
  { cls := 8, slots := #[.long 94], vm := .none },
  { cls := 8, slots := #[.long 95], vm := .none },
  { cls := 8, slots := #[.long 96], vm := .none },
  { cls := 8, slots := #[.long 97], vm := .none },
  { cls := 8, slots := #[.long 98], vm := .none },
  { cls := 8, slots := #[.long 99], vm := .none },
  { cls := 8, slots := #[.long 100], vm := .none },
  { cls := 8, slots := #[.long 101], vm := .none },
  { cls := 8, slots := #[.long 102], vm := .none },
  { cls := 8, slots := #[.long 103], vm := .none },
  { cls := 8, slots := #[.long 104], vm := .none },
  { cls := 8, slots := #[.long 105], vm := .none },
  { cls := 8, slots := #[.long 106], vm := .none },
  { cls := 8, slots := #[.long 107], vm := .none },
  { cls := 8, slots := #[.long 108], vm := .none },
  { cls := 8, slots := #[.long 109], vm := .none },
  { cls := 8, slots := #[.long 110], vm := .none },
  { cls := 8, slots := #[.long 111], vm := .none },
  { cls := 8, slots := #[.long 112], vm := .none },
  { cls := 8, slots := #[.long 113], vm := .none },
  { cls := 8, slots := #[.long 114], vm := .none },
  { cls := 8, slots := #[.long 115], vm := .none },
  { cls := 8, slots := #[.long 116], vm := .none },
  { cls := 8, slots := #[.long 117], vm := .none },
  { cls := 8, slots := #[.long 118], vm := .none },
  { cls := 8, slots := #[.long 119], vm := .none },
  { cls := 8, slots := #[.long 120], vm := .none },
  { cls := 8, slots := #[.long 121], vm := .none },
  { cls := 8, slots := #[.long 122], vm := .none },
  { cls := 8, slots := #[.long 123], vm := .none },
  { cls := 8, slots := #[.long 124], vm := .none },
  { cls := 8, slots := #[.long 125], vm := .none },
  { cls := 8, slots := #[.long 126], vm := .none },
  { cls := 8, slots := #[.long 127], vm := .none }]
def classes : Array Class := #[k0, k1, k2, k3, k4, k5, k6, k7, k8, k9, k10, k11, k12, k13, k14, k15]
def interned : List (Array UInt16 × Addr) := []
def slotsUsed : Nat := 515
def theMethod : MethodId := ⟨1, 1⟩
def args0 : Array Value := #[.int 5, .long 4, .long 3, .int 1, .int 2, .long 9]
def aboutOver (below : List Frame) : State where
  vm := { classes := classes, interned := interned.toArray }
  heap := heap
  slotsUsed := slotsUsed
  threads := #[{ frames := .invoking theMethod args0 :: below }]
def below0 : List Frame := [.native { method := ⟨0, 0⟩, args := #[] }]
def about1 : State := aboutOver below0
def p0 : Program := .bare "" "" ""
def e0 : Env := launch0.env 0 0 0
theorem w_frames : about1.frames = Frame.invoking theMethod args0 :: below0 := rfl
set_option maxRecDepth 65536 in
theorem w_args : argsFit about1.vm theMethod args0 = true := by decide +kernel
set_option maxRecDepth 65536 in
theorem w_heap : heapFits about1 = true := by decide +kernel
set_option maxRecDepth 65536 in
theorem w_runnable : about1.curStatus? = some .runnable := by decide +kernel
set_option maxRecDepth 65536 in
theorem w_alone : about1.alone = true := by decide +kernel
set_option maxRecDepth 65536 in
theorem w_named : about1.methodNamed? x = some theMethod := by decide +kernel
set_option maxRecDepth 65536 in
theorem w_hears : about1.hears theMethod below0 = true := by decide +kernel
set_option maxRecDepth 65536 in
theorem w_ripe : about1.ripe theMethod args0 below0 = true := by decide +kernel
theorem w_running : about1.status = .running := rfl
set_option maxRecDepth 65536 in
theorem w_room : about1.hasRoom e0.platform room_1 = true :=
  launch0.hasRoom_least _ room_1 (by decide +kernel) (by decide +kernel) (by decide +kernel) (by decide +kernel) (by decide +kernel) (by decide +kernel)
theorem allAtoms_all (ts : List Jvm.Cond) (a : Array Jvm.Value) (st : Jvm.State) : (allAtoms ts).before a st = ts.all (fun c => c.before a st) := by
  induction ts with
  | nil => rfl
  | cons c t ih =>
    show (Jvm.Cond.and c (allAtoms t)).before a st = _
    rw [Jvm.Cond.before_and, ih, List.all_cons]
def words1 : List Jvm.Cond := Jvm.Cond.code x code maxLocals ret :: tables_1
/-- a 'code' word, met by the world's own term for the bytes: nothing is compared byte by byte -/
theorem code_word {y : MethodName} {bytes : ByteArray} {mx : Nat} {rt : Option FieldType} {a : Array Value} {s : State} {m : MethodId} {meth : Method} {c : Code} (h1 : s.methodNamed? y = some m) (h2 : s.vm.method? m = some meth) (h3 : meth.code = some c) (h4 : c.code = bytes)
    (h5 : (c.maxLocals == mx && c.exceptionTable.isEmpty && decide (c.maxStack ≤ mostOperands) && decide (meth.sig.returnType = rt) && !meth.locks && decide (parseMethodDescriptor y.desc = some meth.sig)) = true) : (Jvm.Cond.code y bytes mx rt).before a s = true := by
  simp only [Bool.and_eq_true, beq_iff_eq, Bool.not_eq_true', decide_eq_true_eq] at h5
  obtain ⟨⟨⟨⟨⟨g1, g2⟩, g3⟩, g4⟩, g5⟩, g6⟩ := h5
  simp [Cond.before, Cond.holds, Cond.value, h1, h2, h3, h4, g1, g2, g3, g4, g5, g6]
def isCode : Jvm.Cond → Bool
  | .code _ _ _ _ => true
  | _ => false
theorem all_split {L : List Jvm.Cond} {P : Jvm.Cond → Bool} (h1 : L.all (fun c => isCode c || P c) = true) (h2 : ∀ c ∈ L.filter isCode, P c = true) : L.all P = true := by
  refine List.all_eq_true.mpr fun c hc => ?_
  have h := List.all_eq_true.mp h1 c hc
  rcases Bool.eq_false_or_eq_true (isCode c) with hi | hi
  · exact h2 c (List.mem_filter.mpr ⟨hc, hi⟩)
  · simpa [hi] using h
set_option maxRecDepth 65536 in
theorem w_c0 : (Jvm.Cond.code x code maxLocals ret).before args0 about1 = true := code_word (m := ⟨1, 1⟩) (meth := k1m1) (c := k1c1) (by decide +kernel) rfl rfl rfl (by decide +kernel)
set_option maxRecDepth 65536 in
theorem w_c1 : (Jvm.Cond.code ({ cls := "com/example/pankti/pankti/engine/JobId", name := "<init>", desc := "(IJJSS)V" } : Jvm.MethodName) prog_17_method_1_code (8 : Nat) (Option.none : Option Jvm.ClassFile.FieldType)).before args0 about1 = true := code_word (m := ⟨2, 0⟩) (meth := k2m0) (c := k2c0) (by decide +kernel) rfl rfl rfl (by decide +kernel)
set_option maxRecDepth 65536 in
theorem w_c2 : (Jvm.Cond.code ({ cls := "java/lang/Object", name := "<init>", desc := "()V" } : Jvm.MethodName) object_method_1_code (1 : Nat) (Option.none : Option Jvm.ClassFile.FieldType)).before args0 about1 = true := code_word (m := ⟨0, 0⟩) (meth := k0m0) (c := k0c0) (by decide +kernel) rfl rfl rfl (by decide +kernel)
set_option maxRecDepth 65536 in
theorem w_c3 : (Jvm.Cond.code ({ cls := "com/example/pankti/pankti/engine/JobId", name := "equals", desc := "(Ljava/lang/Object;)Z" } : Jvm.MethodName) prog_17_method_11_code (3 : Nat) (Option.some Jvm.ClassFile.FieldType.boolean)).before args0 about1 = true := code_word (m := ⟨2, 1⟩) (meth := k2m1) (c := k2c1) (by decide +kernel) rfl rfl rfl (by decide +kernel)
set_option maxRecDepth 65536 in
theorem w_c4 : (Jvm.Cond.code ({ cls := "java/lang/Long", name := "valueOf", desc := "(J)Ljava/lang/Long;" } : Jvm.MethodName) jdk_35_method_24_code (3 : Nat) (Option.some (Jvm.ClassFile.FieldType.object "java/lang/Long"))).before args0 about1 = true := code_word (m := ⟨8, 0⟩) (meth := k8m0) (c := k8c0) (by decide +kernel) rfl rfl rfl (by decide +kernel)
set_option maxRecDepth 65536 in
theorem w_c5 : (Jvm.Cond.code ({ cls := "java/lang/Long", name := "<init>", desc := "(J)V" } : Jvm.MethodName) jdk_35_method_26_code (3 : Nat) (Option.none : Option Jvm.ClassFile.FieldType)).before args0 about1 = true := code_word (m := ⟨8, 1⟩) (meth := k8m1) (c := k8c1) (by decide +kernel) rfl rfl rfl (by decide +kernel)
set_option maxRecDepth 65536 in
theorem w_c6 : (Jvm.Cond.code ({ cls := "java/lang/Number", name := "<init>", desc := "()V" } : Jvm.MethodName) jdk_18_method_1_code (1 : Nat) (Option.none : Option Jvm.ClassFile.FieldType)).before args0 about1 = true := code_word (m := ⟨4, 0⟩) (meth := k4m0) (c := k4c0) (by decide +kernel) rfl rfl rfl (by decide +kernel)
def codes1 : List Jvm.Cond := [Jvm.Cond.code x code maxLocals ret, Jvm.Cond.code ({ cls := "com/example/pankti/pankti/engine/JobId", name := "<init>", desc := "(IJJSS)V" } : Jvm.MethodName) prog_17_method_1_code (8 : Nat) (Option.none : Option Jvm.ClassFile.FieldType), Jvm.Cond.code ({ cls := "java/lang/Object", name := "<init>", desc := "()V" } : Jvm.MethodName) object_method_1_code (1 : Nat) (Option.none : Option Jvm.ClassFile.FieldType), Jvm.Cond.code ({ cls := "com/example/pankti/pankti/engine/JobId", name := "equals", desc := "(Ljava/lang/Object;)Z" } : Jvm.MethodName) prog_17_method_11_code (3 : Nat) (Option.some Jvm.ClassFile.FieldType.boolean), Jvm.Cond.code ({ cls := "java/lang/Long", name := "valueOf", desc := "(J)Ljava/lang/Long;" } : Jvm.MethodName) jdk_35_method_24_code (3 : Nat) (Option.some (Jvm.ClassFile.FieldType.object "java/lang/Long")), Jvm.Cond.code ({ cls := "java/lang/Long", name := "<init>", desc := "(J)V" } : Jvm.MethodName) jdk_35_method_26_code (3 : Nat) (Option.none : Option Jvm.ClassFile.FieldType), Jvm.Cond.code ({ cls := "java/lang/Number", name := "<init>", desc := "()V" } : Jvm.MethodName) jdk_18_method_1_code (1 : Nat) (Option.none : Option Jvm.ClassFile.FieldType)]
set_option maxRecDepth 65536 in
theorem codes_eq : words1.filter isCode = codes1 := rfl
theorem w_codes : ∀ c ∈ words1.filter isCode, c.before args0 about1 = true := by
  rw [codes_eq]
  intro c hc
  simp only [codes1, List.mem_cons, List.not_mem_nil, or_false] at hc
  rcases hc with rfl | rfl | rfl | rfl | rfl | rfl | rfl
  · exact w_c0
  · exact w_c1
  · exact w_c2
  · exact w_c3
  · exact w_c4
  · exact w_c5
  · exact w_c6
set_option maxRecDepth 65536 in
theorem w_t1 : (words1.take 24).all (fun c => isCode c || c.before args0 about1) = true := by decide +kernel
set_option maxRecDepth 65536 in
theorem w_t2 : ((words1.drop 24).take 24).all (fun c => isCode c || c.before args0 about1) = true := by decide +kernel
set_option maxRecDepth 65536 in
theorem w_t3 : ((words1.drop 24).drop 24).all (fun c => isCode c || c.before args0 about1) = true := by decide +kernel
theorem w_tables : (allAtoms (Jvm.Cond.code x code maxLocals ret :: tables_1)).before args0 about1 = true := by
  rw [allAtoms_all]
  show words1.all (fun c => c.before args0 about1) = true
  refine all_split ?_ w_codes
  rw [← List.take_append_drop 24 words1, List.all_append, w_t1, ← List.take_append_drop 24 (words1.drop 24), List.all_append, w_t2, w_t3]
  rfl
set_option maxRecDepth 65536 in
theorem w_rest : rest_1_c.before args0 about1 = true := by decide +kernel
set_option maxRecDepth 65536 in
theorem w_case : (Jvm.Cond.and given_1 narrow_1).before args0 about1 = true := by decide +kernel
theorem w_applies : (headSpec (Jvm.Cond.code x code maxLocals ret :: tables_1) room_1).applies x e0.platform about1 = true :=
  (Spec.applies_iff w_frames).mpr ⟨w_running, w_runnable, w_alone, w_named, w_hears, w_ripe, w_room, w_tables⟩
theorem atStart : AtStart classFile x code maxLocals ret World_1 tables_1 room_1 Calls_1 rest_1 Pre_1 launch0 p0 e0 about1 theMethod args0 below0 :=
  ⟨lists_1, trivial, launch0.admits_env _ _ _, launch0.least_env, fairChoices_fair.cas, fairChoices_fair.clock, w_frames, w_args, w_heap, w_applies, trivial, w_rest, w_case⟩
end start1
theorem witness_1 : WitnessClaimed_1 := ⟨start1.p0, start1.e0, start1.about1, start1.theMethod, start1.args0, start1.below0, start1.atStart⟩
end Jvm.Pilot.@@N@@
