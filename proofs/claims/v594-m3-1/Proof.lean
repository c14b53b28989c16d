import JvmDerived
import JvmDerived.Pilot.@@N@@Statement
import JvmDerived.Pilot.@@N@@Code
set_option linter.unusedVariables false
set_option linter.unusedSimpArgs false
namespace Jvm.RoadKit
open Sem ClassFile Op Lib Jvm.Stand Jvm.Free Jvm.LawKit
section New
variable {p : Program} {l : Launch} {e : Env} {R : Room} {s : State} {m : MethodId} {args : Array Value} {below : List Frame} {meth : Method} {c : Code} {T : State} {locs : List Loc} {cells slots : Nat}
theorem retI (X : Stand p l e R s m args below meth c T locs cells slots) (hx : p.tables.exec = Jvm.exec) {pc : Nat} {Ls : Array Slot} {z : Int32} {rest : List Value} (hret : meth.sig.returnType = some .int) (hd : decode c.code pc = .ok (.ireturn, 1)) {fs : List Frame}
    (hl : ∀ (f : JFrame) (acts : List Action), f.method = m → f.locked = none → f.entered = [] → (doReturn e (T.setTop f) acts (some (.int z))).1 = T.setFrames fs) : Steps p.tables e below (T.setTop (mkF m pc Ls (.int z :: rest))) (T.setFrames fs) := by
  have hm' : T.vm.method? m = some meth := X.method'
  have hn : narrow .int (.int z) = .int z := rfl
  show Steps p.tables e below (T.setTop { method := m, pc := pc, locals := Ls, stack := _ :: rest, locked := none }) _
  jvm_step X.here [X.here.top, hx, hd, hm', hret, hn]
  first | (intro acts; rw [hl _ acts rfl rfl rfl]) | rw [hl _ _ rfl rfl rfl]
  exact Steps.refl _
end New
/-- the run comes, from the state U, to an end at which Q holds -/
def Go (tb : Tables) (e : Env) (below : List Frame) (Q : Outcome → State → Prop) (U : State) : Prop := ∃ s₂ o, Steps tb e below U s₂ ∧ s₂.status = .running ∧ Ended s₂ below o ∧ Q o s₂
theorem Go.on {tb : Tables} {e : Env} {below : List Frame} {Q : Outcome → State → Prop} {A B : State} (h : ∀ t, Steps tb e below B t → Steps tb e below A t) (k : Go tb e below Q B) : Go tb e below Q A := by
  obtain ⟨s₂, o, h1, h2⟩ := k
  exact ⟨s₂, o, h _ h1, h2⟩
end Jvm.RoadKit
namespace Jvm.Pilot.@@N@@
open Jvm Jvm.ClassFile Sem Op Lib Jvm.Free Jvm.Stand Jvm.LawKit Jvm.RoadKit Bundle Jvm.Pilot.@@N@@.Jvm.D
theorem d1_0 : decode prog_20_method_1_code 0 = .ok (.aload_n 0, 1) := by decide +kernel
theorem d1_1 : decode prog_20_method_1_code 1 = .ok (.invokespecial 1, 3) := by decide +kernel
theorem d1_4 : decode prog_20_method_1_code 4 = .ok (.aload_n 0, 1) := by decide +kernel
theorem d1_5 : decode prog_20_method_1_code 5 = .ok (.iload_n 1, 1) := by decide +kernel
theorem d1_6 : decode prog_20_method_1_code 6 = .ok (.putfield 7, 3) := by decide +kernel
theorem d1_9 : decode prog_20_method_1_code 9 = .ok (.aload_n 0, 1) := by decide +kernel
theorem d1_10 : decode prog_20_method_1_code 10 = .ok (.aload_n 2, 1) := by decide +kernel
theorem d1_11 : decode prog_20_method_1_code 11 = .ok (.putfield 13, 3) := by decide +kernel
theorem d1_14 : decode prog_20_method_1_code 14 = .ok (.aload_n 0, 1) := by decide +kernel
theorem d1_15 : decode prog_20_method_1_code 15 = .ok (.aload_n 3, 1) := by decide +kernel
theorem d1_16 : decode prog_20_method_1_code 16 = .ok (.putfield 17, 3) := by decide +kernel
theorem d1_19 : decode prog_20_method_1_code 19 = .ok (.aload_n 0, 1) := by decide +kernel
theorem d1_20 : decode prog_20_method_1_code 20 = .ok (.aload 4, 2) := by decide +kernel
theorem d1_22 : decode prog_20_method_1_code 22 = .ok (.putfield 21, 3) := by decide +kernel
theorem d1_25 : decode prog_20_method_1_code 25 = .ok (.aload_n 0, 1) := by decide +kernel
theorem d1_26 : decode prog_20_method_1_code 26 = .ok (.aload 5, 2) := by decide +kernel
theorem d1_28 : decode prog_20_method_1_code 28 = .ok (.putfield 24, 3) := by decide +kernel
theorem d1_31 : decode prog_20_method_1_code 31 = .ok (.return_, 1) := by decide +kernel
theorem pn_2 : plainName "com/example/stricture/stricture/csv/CsvRecord" = true := by first | (simp [plainName, overriddenIn]; done) | decide +kernel
theorem ef_rini (m : MethodId) (a1 : Addr) (p2 : Int32) (a3 : Addr) (a4 : Addr) (a5 : Addr) (a6 : Addr) : entryFrame m #[(.ref a1), (.int p2), (.ref a3), (.ref a4), (.ref a5), (.ref a6)] 6 = mkF m 0 #[.val (.ref a1), .val (.int p2), .val (.ref a3), .val (.ref a4), .val (.ref a5), .val (.ref a6)] [] := by first | (simp [entryFrame, mkF, argsToLocals, Value.category]; done) | rfl
def Q_rini (Z : State) (a1 : Addr) (p2 : Int32) (a3 : Addr) (a4 : Addr) (a5 : Addr) (a6 : Addr) (h0 : Heap) (n0 : Nat) (v : Option Value) (h : Heap) (L : List Loc) : Prop := v = none ∧ Fr n0 L ∧ Keep h0 h [a1] ∧ Exa Z h a1 "com/example/stricture/stricture/csv/CsvRecord" ∧ Fld Z h a1 "com/example/stricture/stricture/csv/CsvRecord" "flags" "[B" (.ref a6)
set_option maxRecDepth 65536 in
set_option maxHeartbeats 40000000 in
theorem rini (l : Launch) (Z : State) (a0 : Array Value) (hw : ∀ d ∈ tables_1, d.before a0 Z = true) (ws : List Jvm.Cond) (a1 : Addr) (p2 : Int32) (a3 : Addr) (a4 : Addr) (a5 : Addr) (a6 : Addr) (h0 : Heap) (n0 : Nat) (Z0 : n0 ≤ h0.size) (E1 : Exa Z h0 a1 "com/example/stricture/stricture/csv/CsvRecord") (F0q : Fld Z h0 a1 "com/example/stricture/stricture/csv/CsvRecord" "line" "I" (.int (0 : Int32))) (F1q : Fld Z h0 a1 "com/example/stricture/stricture/csv/CsvRecord" "bytes" "[B" .null) (F2q : Fld Z h0 a1 "com/example/stricture/stricture/csv/CsvRecord" "starts" "[I" .null) (F3q : Fld Z h0 a1 "com/example/stricture/stricture/csv/CsvRecord" "ends" "[I" .null) (F4q : Fld Z h0 a1 "com/example/stricture/stricture/csv/CsvRecord" "flags" "[B" .null) (g1 : n0 ≤ a1) :
    MetFree l (⟨"com/example/stricture/stricture/csv/CsvRecord", "<init>", "(I[B[I[I[B)V"⟩ : MethodName) (head1 (Jvm.Cond.code (⟨"com/example/stricture/stricture/csv/CsvRecord", "<init>", "(I[B[I[I[B)V"⟩ : MethodName) prog_20_method_1_code 6 none :: ws) ({ frames := 1, cells := 0, slots := 0, locals := 12 } : Room)) (fun a U => a = #[(.ref a1), (.int p2), (.ref a3), (.ref a4), (.ref a5), (.ref a6)] ∧ Z.Warmed39 U.vm ∧ U.heap = h0) (fun _ _ _ _ _ => True) (fun _ U o U' => ∃ v L, o = .returned v ∧ Q_rini Z a1 p2 a3 a4 a5 a6 h0 n0 v U'.heap L ∧ FrameEnd U o U' L ({ frames := 1, cells := 0, slots := 0, locals := 12 } : Room).cells ({ frames := 1, cells := 0, slots := 0, locals := 12 } : Room).slots) := by
  refine MetFree.of_bodySF (plainFor_of_name pn_2) hisR ?_
  intro p e s m args below meth c s₁ Bd hml0 hP hK
  obtain ⟨rfl, hZ, hh⟩ := hP
  have hx := Bd.exec
  have hby := Bd.bytes
  have hml : c.maxLocals = 6 := hml0
  have hown : s.vm.findClass "com/example/stricture/stricture/csv/CsvRecord" = some m.cls := findClass_of_methodNamed Bd.named
  have hnm := (name_of_methodNamed Bd.named Bd.method).1
  have X0 : Stand p l e ({ frames := 1, cells := 0, slots := 0, locals := 12 } : Room) s m #[(.ref a1), (.int p2), (.ref a3), (.ref a4), (.ref a5), (.ref a6)] below meth c s₁ [] 0 0 := Stand.of_body Bd
  have e0 : s₁.heap = h0 := by rw [← hh, Bd.state]; rfl
  have N0 := Fr.nil n0
  have pre0 : ∀ t, Steps p.tables e below (s₁.setTop (mkF m 0 #[.val (.ref a1), .val (.int p2), .val (.ref a3), .val (.ref a4), .val (.ref a5), .val (.ref a6)] [])) t → Steps p.tables e below (s₁.setTop (entryFrame m #[(.ref a1), (.int p2), (.ref a3), (.ref a4), (.ref a5), (.ref a6)] 6)) t := fun t k => castTop (ef_rini m a1 p2 a3 a4 a5 a6) k
  change Go p.tables e below (fun o U' => ∃ v L, o = .returned v ∧ Q_rini Z a1 p2 a3 a4 a5 a6 h0 n0 v U'.heap L ∧ FrameEnd s o U' L ({ frames := 1, cells := 0, slots := 0, locals := 12 } : Room).cells ({ frames := 1, cells := 0, slots := 0, locals := 12 } : Room).slots) (s₁.setTop (entryFrame m #[(.ref a1), (.int p2), (.ref a3), (.ref a4), (.ref a5), (.ref a6)] 6))
  have K0 := Keep.refl h0 [a1]
  refine Go.on pre0 ?_
  refine Go.on (B := s₁.setTop (mkF m 1 #[.val (.ref a1), .val (.int p2), .val (.ref a3), .val (.ref a4), .val (.ref a5), .val (.ref a6)] [(.ref a1)])) (fun t k => XS.aloadN X0.here hx rfl (hb hby d1_0) rfl rfl k) ?_
  obtain ⟨T1, X1, e1, st1⟩ := initO X0 hx hZ hown (hw _ (List.mem_of_getElem? (i := 8) rfl)) (hw _ (List.mem_of_getElem? (i := 9) rfl)) (hw _ (List.mem_of_getElem? (i := 10) rfl)) e0 (g := (mkF m 1 #[.val (.ref a1), .val (.int p2), .val (.ref a3), .val (.ref a4), .val (.ref a5), .val (.ref a6)] [(.ref a1)])) rfl (by rw [hml]; rfl) rfl (hb hby d1_1) (by decide) (W := 0) (by show 2 * 0 + _ ≤ _; exact Nat.le_of_eq rfl) (by decide)
  refine Go.on (B := T1.setTop (mkF m 4 #[.val (.ref a1), .val (.int p2), .val (.ref a3), .val (.ref a4), .val (.ref a5), .val (.ref a6)] [])) (fun t k => st1 _ k) ?_
  refine Go.on (B := T1.setTop (mkF m 5 #[.val (.ref a1), .val (.int p2), .val (.ref a3), .val (.ref a4), .val (.ref a5), .val (.ref a6)] [(.ref a1)])) (fun t k => XS.aloadN X1.here hx rfl (hb hby d1_4) rfl rfl k) ?_
  refine Go.on (B := T1.setTop (mkF m 6 #[.val (.ref a1), .val (.int p2), .val (.ref a3), .val (.ref a4), .val (.ref a5), .val (.ref a6)] [(.int p2), (.ref a1)])) (fun t k => XS.iloadN X1.here hx rfl (hb hby d1_5) rfl k) ?_
  obtain ⟨T2, h2, X2, e2, W2, st2⟩ := putF X1 hx hZ hown (host := "") (Or.inl (hw _ (List.mem_of_getElem? (i := 11) rfl))) Via.refl e1 F0q E1 (Or.inr ⟨(hw _ (List.mem_of_getElem? (i := 12) rfl)), rfl, hnm⟩) (hw _ (List.mem_of_getElem? (i := 3) rfl)) (ty := .int) (by decide) rfl rfl (g := (mkF m 6 #[.val (.ref a1), .val (.int p2), .val (.ref a3), .val (.ref a4), .val (.ref a5), .val (.ref a6)] [(.int p2), (.ref a1)])) rfl rfl (hb hby d1_6)
  have N2 := Fr.snoc X2 N0 g1
  have Fw2 := F0q.same W2
  have f1 := E1.wr W2
  have f2 := F1q.other W2 (Or.inr (slot_ne (Or.inr (hw _ (List.mem_of_getElem? (i := 14) rfl))) (Or.inr (hw _ (List.mem_of_getElem? (i := 12) rfl))) (by decide) (t := (.array .byte)) (t' := .int) (by decide) (by decide)))
  have f3 := F2q.other W2 (Or.inr (slot_ne (Or.inr (hw _ (List.mem_of_getElem? (i := 16) rfl))) (Or.inr (hw _ (List.mem_of_getElem? (i := 12) rfl))) (by decide) (t := (.array .int)) (t' := .int) (by decide) (by decide)))
  have f4 := F3q.other W2 (Or.inr (slot_ne (Or.inr (hw _ (List.mem_of_getElem? (i := 18) rfl))) (Or.inr (hw _ (List.mem_of_getElem? (i := 12) rfl))) (by decide) (t := (.array .int)) (t' := .int) (by decide) (by decide)))
  have f5 := F4q.other W2 (Or.inr (slot_ne (Or.inr (hw _ (List.mem_of_getElem? (i := 20) rfl))) (Or.inr (hw _ (List.mem_of_getElem? (i := 12) rfl))) (by decide) (t := (.array .byte)) (t' := .int) (by decide) (by decide)))
  have Zs6 := Nat.le_trans Z0 (Keep.of_wr W2).1
  have K7 := K0.wr W2 (Or.inl (List.mem_of_getElem? (i := 0) rfl))
  refine Go.on (B := T2.setTop (mkF m 9 #[.val (.ref a1), .val (.int p2), .val (.ref a3), .val (.ref a4), .val (.ref a5), .val (.ref a6)] [])) (fun t k => st2 _ k) ?_
  refine Go.on (B := T2.setTop (mkF m 10 #[.val (.ref a1), .val (.int p2), .val (.ref a3), .val (.ref a4), .val (.ref a5), .val (.ref a6)] [(.ref a1)])) (fun t k => XS.aloadN X2.here hx rfl (hb hby d1_9) rfl rfl k) ?_
  refine Go.on (B := T2.setTop (mkF m 11 #[.val (.ref a1), .val (.int p2), .val (.ref a3), .val (.ref a4), .val (.ref a5), .val (.ref a6)] [(.ref a3), (.ref a1)])) (fun t k => XS.aloadN X2.here hx rfl (hb hby d1_10) rfl rfl k) ?_
  obtain ⟨T3, h3, X3, e3, W3, st3⟩ := putF X2 hx hZ hown (host := "") (Or.inl (hw _ (List.mem_of_getElem? (i := 13) rfl))) Via.refl e2 f2 f1 (Or.inr ⟨(hw _ (List.mem_of_getElem? (i := 14) rfl)), rfl, hnm⟩) (hw _ (List.mem_of_getElem? (i := 3) rfl)) (ty := (.array .byte)) (by decide) rfl rfl (g := (mkF m 11 #[.val (.ref a1), .val (.int p2), .val (.ref a3), .val (.ref a4), .val (.ref a5), .val (.ref a6)] [(.ref a3), (.ref a1)])) rfl rfl (hb hby d1_11)
  have N3 := Fr.snoc X3 N2 g1
  have Fw3 := f2.same W3
  have f8 := f1.wr W3
  have f9 := Fw2.other W3 (Or.inr (slot_ne (Or.inr (hw _ (List.mem_of_getElem? (i := 12) rfl))) (Or.inr (hw _ (List.mem_of_getElem? (i := 14) rfl))) (by decide) (t := .int) (t' := (.array .byte)) (by decide) (by decide)))
  have f10 := f3.other W3 (Or.inr (slot_ne (Or.inr (hw _ (List.mem_of_getElem? (i := 16) rfl))) (Or.inr (hw _ (List.mem_of_getElem? (i := 14) rfl))) (by decide) (t := (.array .int)) (t' := (.array .byte)) (by decide) (by decide)))
  have f11 := f4.other W3 (Or.inr (slot_ne (Or.inr (hw _ (List.mem_of_getElem? (i := 18) rfl))) (Or.inr (hw _ (List.mem_of_getElem? (i := 14) rfl))) (by decide) (t := (.array .int)) (t' := (.array .byte)) (by decide) (by decide)))
  have f12 := f5.other W3 (Or.inr (slot_ne (Or.inr (hw _ (List.mem_of_getElem? (i := 20) rfl))) (Or.inr (hw _ (List.mem_of_getElem? (i := 14) rfl))) (by decide) (t := (.array .byte)) (t' := (.array .byte)) (by decide) (by decide)))
  have Zs13 := Nat.le_trans Zs6 (Keep.of_wr W3).1
  have K14 := K7.wr W3 (Or.inl (List.mem_of_getElem? (i := 0) rfl))
  refine Go.on (B := T3.setTop (mkF m 14 #[.val (.ref a1), .val (.int p2), .val (.ref a3), .val (.ref a4), .val (.ref a5), .val (.ref a6)] [])) (fun t k => st3 _ k) ?_
  refine Go.on (B := T3.setTop (mkF m 15 #[.val (.ref a1), .val (.int p2), .val (.ref a3), .val (.ref a4), .val (.ref a5), .val (.ref a6)] [(.ref a1)])) (fun t k => XS.aloadN X3.here hx rfl (hb hby d1_14) rfl rfl k) ?_
  refine Go.on (B := T3.setTop (mkF m 16 #[.val (.ref a1), .val (.int p2), .val (.ref a3), .val (.ref a4), .val (.ref a5), .val (.ref a6)] [(.ref a4), (.ref a1)])) (fun t k => XS.aloadN X3.here hx rfl (hb hby d1_15) rfl rfl k) ?_
  obtain ⟨T4, h4, X4, e4, W4, st4⟩ := putF X3 hx hZ hown (host := "") (Or.inl (hw _ (List.mem_of_getElem? (i := 15) rfl))) Via.refl e3 f10 f8 (Or.inr ⟨(hw _ (List.mem_of_getElem? (i := 16) rfl)), rfl, hnm⟩) (hw _ (List.mem_of_getElem? (i := 3) rfl)) (ty := (.array .int)) (by decide) rfl rfl (g := (mkF m 16 #[.val (.ref a1), .val (.int p2), .val (.ref a3), .val (.ref a4), .val (.ref a5), .val (.ref a6)] [(.ref a4), (.ref a1)])) rfl rfl (hb hby d1_16)
  have N4 := Fr.snoc X4 N3 g1
  have Fw4 := f10.same W4
  have f15 := f8.wr W4
  have f16 := f9.other W4 (Or.inr (slot_ne (Or.inr (hw _ (List.mem_of_getElem? (i := 12) rfl))) (Or.inr (hw _ (List.mem_of_getElem? (i := 16) rfl))) (by decide) (t := .int) (t' := (.array .int)) (by decide) (by decide)))
  have f17 := Fw3.other W4 (Or.inr (slot_ne (Or.inr (hw _ (List.mem_of_getElem? (i := 14) rfl))) (Or.inr (hw _ (List.mem_of_getElem? (i := 16) rfl))) (by decide) (t := (.array .byte)) (t' := (.array .int)) (by decide) (by decide)))
  have f18 := f11.other W4 (Or.inr (slot_ne (Or.inr (hw _ (List.mem_of_getElem? (i := 18) rfl))) (Or.inr (hw _ (List.mem_of_getElem? (i := 16) rfl))) (by decide) (t := (.array .int)) (t' := (.array .int)) (by decide) (by decide)))
  have f19 := f12.other W4 (Or.inr (slot_ne (Or.inr (hw _ (List.mem_of_getElem? (i := 20) rfl))) (Or.inr (hw _ (List.mem_of_getElem? (i := 16) rfl))) (by decide) (t := (.array .byte)) (t' := (.array .int)) (by decide) (by decide)))
  have Zs20 := Nat.le_trans Zs13 (Keep.of_wr W4).1
  have K21 := K14.wr W4 (Or.inl (List.mem_of_getElem? (i := 0) rfl))
  refine Go.on (B := T4.setTop (mkF m 19 #[.val (.ref a1), .val (.int p2), .val (.ref a3), .val (.ref a4), .val (.ref a5), .val (.ref a6)] [])) (fun t k => st4 _ k) ?_
  refine Go.on (B := T4.setTop (mkF m 20 #[.val (.ref a1), .val (.int p2), .val (.ref a3), .val (.ref a4), .val (.ref a5), .val (.ref a6)] [(.ref a1)])) (fun t k => XS.aloadN X4.here hx rfl (hb hby d1_19) rfl rfl k) ?_
  refine Go.on (B := T4.setTop (mkF m 22 #[.val (.ref a1), .val (.int p2), .val (.ref a3), .val (.ref a4), .val (.ref a5), .val (.ref a6)] [(.ref a5), (.ref a1)])) (fun t k => XS.aload X4.here hx rfl (hb hby d1_20) rfl rfl k) ?_
  obtain ⟨T5, h5, X5, e5, W5, st5⟩ := putF X4 hx hZ hown (host := "") (Or.inl (hw _ (List.mem_of_getElem? (i := 17) rfl))) Via.refl e4 f18 f15 (Or.inr ⟨(hw _ (List.mem_of_getElem? (i := 18) rfl)), rfl, hnm⟩) (hw _ (List.mem_of_getElem? (i := 3) rfl)) (ty := (.array .int)) (by decide) rfl rfl (g := (mkF m 22 #[.val (.ref a1), .val (.int p2), .val (.ref a3), .val (.ref a4), .val (.ref a5), .val (.ref a6)] [(.ref a5), (.ref a1)])) rfl rfl (hb hby d1_22)
  have N5 := Fr.snoc X5 N4 g1
  have Fw5 := f18.same W5
  have f22 := f15.wr W5
  have f23 := f16.other W5 (Or.inr (slot_ne (Or.inr (hw _ (List.mem_of_getElem? (i := 12) rfl))) (Or.inr (hw _ (List.mem_of_getElem? (i := 18) rfl))) (by decide) (t := .int) (t' := (.array .int)) (by decide) (by decide)))
  have f24 := f17.other W5 (Or.inr (slot_ne (Or.inr (hw _ (List.mem_of_getElem? (i := 14) rfl))) (Or.inr (hw _ (List.mem_of_getElem? (i := 18) rfl))) (by decide) (t := (.array .byte)) (t' := (.array .int)) (by decide) (by decide)))
  have f25 := Fw4.other W5 (Or.inr (slot_ne (Or.inr (hw _ (List.mem_of_getElem? (i := 16) rfl))) (Or.inr (hw _ (List.mem_of_getElem? (i := 18) rfl))) (by decide) (t := (.array .int)) (t' := (.array .int)) (by decide) (by decide)))
  have f26 := f19.other W5 (Or.inr (slot_ne (Or.inr (hw _ (List.mem_of_getElem? (i := 20) rfl))) (Or.inr (hw _ (List.mem_of_getElem? (i := 18) rfl))) (by decide) (t := (.array .byte)) (t' := (.array .int)) (by decide) (by decide)))
  have Zs27 := Nat.le_trans Zs20 (Keep.of_wr W5).1
  have K28 := K21.wr W5 (Or.inl (List.mem_of_getElem? (i := 0) rfl))
  refine Go.on (B := T5.setTop (mkF m 25 #[.val (.ref a1), .val (.int p2), .val (.ref a3), .val (.ref a4), .val (.ref a5), .val (.ref a6)] [])) (fun t k => st5 _ k) ?_
  refine Go.on (B := T5.setTop (mkF m 26 #[.val (.ref a1), .val (.int p2), .val (.ref a3), .val (.ref a4), .val (.ref a5), .val (.ref a6)] [(.ref a1)])) (fun t k => XS.aloadN X5.here hx rfl (hb hby d1_25) rfl rfl k) ?_
  refine Go.on (B := T5.setTop (mkF m 28 #[.val (.ref a1), .val (.int p2), .val (.ref a3), .val (.ref a4), .val (.ref a5), .val (.ref a6)] [(.ref a6), (.ref a1)])) (fun t k => XS.aload X5.here hx rfl (hb hby d1_26) rfl rfl k) ?_
  obtain ⟨T6, h6, X6, e6, W6, st6⟩ := putF X5 hx hZ hown (host := "") (Or.inl (hw _ (List.mem_of_getElem? (i := 19) rfl))) Via.refl e5 f26 f22 (Or.inr ⟨(hw _ (List.mem_of_getElem? (i := 20) rfl)), rfl, hnm⟩) (hw _ (List.mem_of_getElem? (i := 3) rfl)) (ty := (.array .byte)) (by decide) rfl rfl (g := (mkF m 28 #[.val (.ref a1), .val (.int p2), .val (.ref a3), .val (.ref a4), .val (.ref a5), .val (.ref a6)] [(.ref a6), (.ref a1)])) rfl rfl (hb hby d1_28)
  have N6 := Fr.snoc X6 N5 g1
  have Fw6 := f26.same W6
  have f29 := f22.wr W6
  have f30 := f23.other W6 (Or.inr (slot_ne (Or.inr (hw _ (List.mem_of_getElem? (i := 12) rfl))) (Or.inr (hw _ (List.mem_of_getElem? (i := 20) rfl))) (by decide) (t := .int) (t' := (.array .byte)) (by decide) (by decide)))
  have f31 := f24.other W6 (Or.inr (slot_ne (Or.inr (hw _ (List.mem_of_getElem? (i := 14) rfl))) (Or.inr (hw _ (List.mem_of_getElem? (i := 20) rfl))) (by decide) (t := (.array .byte)) (t' := (.array .byte)) (by decide) (by decide)))
  have f32 := f25.other W6 (Or.inr (slot_ne (Or.inr (hw _ (List.mem_of_getElem? (i := 16) rfl))) (Or.inr (hw _ (List.mem_of_getElem? (i := 20) rfl))) (by decide) (t := (.array .int)) (t' := (.array .byte)) (by decide) (by decide)))
  have f33 := Fw5.other W6 (Or.inr (slot_ne (Or.inr (hw _ (List.mem_of_getElem? (i := 18) rfl))) (Or.inr (hw _ (List.mem_of_getElem? (i := 20) rfl))) (by decide) (t := (.array .int)) (t' := (.array .byte)) (by decide) (by decide)))
  have Zs34 := Nat.le_trans Zs27 (Keep.of_wr W6).1
  have K35 := K28.wr W6 (Or.inl (List.mem_of_getElem? (i := 0) rfl))
  refine Go.on (B := T6.setTop (mkF m 31 #[.val (.ref a1), .val (.int p2), .val (.ref a3), .val (.ref a4), .val (.ref a5), .val (.ref a6)] [])) (fun t k => st6 _ k) ?_
  obtain ⟨fs, hr, hrun, hended, hW, hsame⟩ := X6.leave (v := none) (fun _ => rfl)
  refine ⟨_, _, ?_, hrun, hended, _, _, rfl, ?_, ⟨_, rfl⟩, hW, hsame.mono (by decide) (by decide)⟩
  · exact X6.returnOut hx Bd.returns (hb hby d1_31) hr
  · show Q_rini Z a1 p2 a3 a4 a5 a6 h0 n0 _ T6.heap _
    rw [e6]
    exact ⟨rfl, N6, K35, f29, Fw6⟩
theorem d3_0 : decode prog_20_method_5_code 0 = .ok (.aload_n 0, 1) := by decide +kernel
theorem d3_1 : decode prog_20_method_5_code 1 = .ok (.getfield 24, 3) := by decide +kernel
theorem d3_4 : decode prog_20_method_5_code 4 = .ok (.iload_n 1, 1) := by decide +kernel
theorem d3_5 : decode prog_20_method_5_code 5 = .ok (.baload, 1) := by decide +kernel
theorem d3_6 : decode prog_20_method_5_code 6 = .ok (.iconst 1, 1) := by decide +kernel
theorem d3_7 : decode prog_20_method_5_code 7 = .ok (.iand, 1) := by decide +kernel
theorem d3_8 : decode prog_20_method_5_code 8 = .ok (.ifCond .eq 7, 3) := by decide +kernel
theorem d3_11 : decode prog_20_method_5_code 11 = .ok (.iconst 1, 1) := by decide +kernel
theorem d3_12 : decode prog_20_method_5_code 12 = .ok (.goto 4, 3) := by decide +kernel
theorem d3_15 : decode prog_20_method_5_code 15 = .ok (.iconst 0, 1) := by decide +kernel
theorem d3_16 : decode prog_20_method_5_code 16 = .ok (.ireturn, 1) := by decide +kernel
theorem ef_riq (m : MethodId) (a1 : Addr) (p2 : Int32) : entryFrame m #[(.ref a1), (.int p2)] 2 = mkF m 0 #[.val (.ref a1), .val (.int p2)] [] := by first | (simp [entryFrame, mkF, argsToLocals, Value.category]; done) | rfl
def Q_riq (Z : State) (a1 : Addr) (p2 : Int32) (a3 : Addr) (k3 : ClassId) (z3 : Int32) (vs : List Value) (x3 : Int32) (h0 : Heap) (n0 : Nat) (v : Option Value) (h : Heap) (L : List Loc) : Prop := v = some (.int (if (x3 &&& (1 : Int32)) = (0 : Int32) then (0 : Int32) else (1 : Int32))) ∧ Fr n0 L ∧ h = h0
set_option maxRecDepth 65536 in
set_option maxHeartbeats 40000000 in
theorem riq (l : Launch) (Z : State) (a0 : Array Value) (hw : ∀ d ∈ tables_1, d.before a0 Z = true) (ws : List Jvm.Cond) (a1 : Addr) (p2 : Int32) (a3 : Addr) (k3 : ClassId) (z3 : Int32) (vs : List Value) (x3 : Int32) (h0 : Heap) (n0 : Nat) (Z0 : n0 ≤ h0.size) (F2 : Fld Z h0 a1 "com/example/stricture/stricture/csv/CsvRecord" "flags" "[B" (.ref a3)) (V3 : Arv Z h0 a3 k3 .byte z3 vs (.int (0 : Int32))) (hi : ¬ p2 < 0 ∧ p2 < z3) (hv : vs.getD p2.toNatClampNeg (.int (0 : Int32)) = .int x3) :
    MetFree l (⟨"com/example/stricture/stricture/csv/CsvRecord", "isQuoted", "(I)Z"⟩ : MethodName) (head1 (Jvm.Cond.code (⟨"com/example/stricture/stricture/csv/CsvRecord", "isQuoted", "(I)Z"⟩ : MethodName) prog_20_method_5_code 2 (some .boolean) :: ws) ({ frames := 0, cells := 0, slots := 0, locals := 0 } : Room)) (fun a U => a = #[(.ref a1), (.int p2)] ∧ Z.Warmed39 U.vm ∧ U.heap = h0) (fun _ _ _ _ _ => True) (fun _ U o U' => ∃ v L, o = .returned v ∧ Q_riq Z a1 p2 a3 k3 z3 vs x3 h0 n0 v U'.heap L ∧ FrameEnd U o U' L ({ frames := 0, cells := 0, slots := 0, locals := 0 } : Room).cells ({ frames := 0, cells := 0, slots := 0, locals := 0 } : Room).slots) := by
  refine MetFree.of_bodySF (plainFor_of_name pn_2) hisR ?_
  intro p e s m args below meth c s₁ Bd hml0 hP hK
  obtain ⟨rfl, hZ, hh⟩ := hP
  have hx := Bd.exec
  have hby := Bd.bytes
  have hml : c.maxLocals = 2 := hml0
  have hown : s.vm.findClass "com/example/stricture/stricture/csv/CsvRecord" = some m.cls := findClass_of_methodNamed Bd.named
  have hnm := (name_of_methodNamed Bd.named Bd.method).1
  have X0 : Stand p l e ({ frames := 0, cells := 0, slots := 0, locals := 0 } : Room) s m #[(.ref a1), (.int p2)] below meth c s₁ [] 0 0 := Stand.of_body Bd
  have e0 : s₁.heap = h0 := by rw [← hh, Bd.state]; rfl
  have N0 := Fr.nil n0
  have pre0 : ∀ t, Steps p.tables e below (s₁.setTop (mkF m 0 #[.val (.ref a1), .val (.int p2)] [])) t → Steps p.tables e below (s₁.setTop (entryFrame m #[(.ref a1), (.int p2)] 2)) t := fun t k => castTop (ef_riq m a1 p2) k
  change Go p.tables e below (fun o U' => ∃ v L, o = .returned v ∧ Q_riq Z a1 p2 a3 k3 z3 vs x3 h0 n0 v U'.heap L ∧ FrameEnd s o U' L ({ frames := 0, cells := 0, slots := 0, locals := 0 } : Room).cells ({ frames := 0, cells := 0, slots := 0, locals := 0 } : Room).slots) (s₁.setTop (entryFrame m #[(.ref a1), (.int p2)] 2))
  refine Go.on pre0 ?_
  refine Go.on (B := s₁.setTop (mkF m 1 #[.val (.ref a1), .val (.int p2)] [(.ref a1)])) (fun t k => XS.aloadN X0.here hx rfl (hb hby d3_0) rfl rfl k) ?_
  obtain ⟨T1, X1, e1, st1⟩ := getF X0 hx hZ hown (host := "") (Or.inl (hw _ (List.mem_of_getElem? (i := 19) rfl))) Via.refl e0 F2 (g := (mkF m 1 #[.val (.ref a1), .val (.int p2)] [(.ref a1)])) rfl rfl (hb hby d3_1)
  refine Go.on (B := T1.setTop (mkF m 4 #[.val (.ref a1), .val (.int p2)] [(.ref a3)])) (fun t k => st1 _ k) ?_
  refine Go.on (B := T1.setTop (mkF m 5 #[.val (.ref a1), .val (.int p2)] [(.int p2), (.ref a3)])) (fun t k => XS.iloadN X1.here hx rfl (hb hby d3_4) rfl k) ?_
  obtain ⟨cl2, Ar2, qq2, Sz2, Ng2, Hh2, Gg2⟩ := V3
  have hin2 : ¬ (p2 < 0 ∨ cl2.slots.size ≤ (p2).toNatClampNeg) := inb_of Sz2 hi
  have hat2 : cl2.slots[(p2).toNatClampNeg]? = some (.int x3) := Hh2.at hin2 hv
  refine Go.on (B := T1.setTop (mkF m 6 #[.val (.ref a1), .val (.int p2)] [(.int x3)])) (fun t k => X1.baloadBytes hx (j := p2) (v := (.int x3)) (by rw [e1]; exact Ar2.1) (State.isArrayOf_alike hZ.alike Ar2.2.1) Ar2.2.2 hin2 hat2 (g := (mkF m 5 #[.val (.ref a1), .val (.int p2)] [(.int p2), (.ref a3)])) rfl rfl (hb hby d3_5) _ k) ?_
  refine Go.on (B := T1.setTop (mkF m 7 #[.val (.ref a1), .val (.int p2)] [(.int (1 : Int32)), (.int x3)])) (fun t k => XS.iconst X1.here hx rfl (hb hby d3_6) k) ?_
  refine Go.on (B := T1.setTop (mkF m 8 #[.val (.ref a1), .val (.int p2)] [(.int (x3 &&& (1 : Int32)))])) (fun t k => XS.iand X1.here hx rfl (hb hby d3_7) rfl k) ?_
  by_cases hc8_3 : (x3 &&& (1 : Int32)) = (0 : Int32)
  · refine Go.on (B := T1.setTop (mkF m 15 #[.val (.ref a1), .val (.int p2)] [])) (fun t k => XS.ifYes X1.here hx rfl (pc0 := 8) (pc' := 15) rfl (hb hby d3_8) rfl ((if0 _ _).trans (teq hc8_3).1) (by decide) (by decide) k) ?_
    refine Go.on (B := T1.setTop (mkF m 16 #[.val (.ref a1), .val (.int p2)] [(.int (0 : Int32))])) (fun t k => XS.iconst X1.here hx rfl (hb hby d3_15) k) ?_
    obtain ⟨fs, hr, hrun, hended, hW, hsame⟩ := X1.leave (v := some (.int (0 : Int32))) (fun h => by rw [Bd.returns] at h; cases h)
    refine ⟨_, _, ?_, hrun, hended, _, _, rfl, ?_, ⟨_, rfl⟩, hW, hsame.mono (by decide) (by decide)⟩
    · exact retN X1 hx (t := .boolean) Bd.returns (by simp) (hb hby d3_16) hr
    · show Q_riq Z a1 p2 a3 k3 z3 vs x3 h0 n0 _ T1.heap _
      rw [e1]
      exact ⟨by simp [hc8_3], N0, rfl⟩
  · refine Go.on (B := T1.setTop (mkF m 11 #[.val (.ref a1), .val (.int p2)] [])) (fun t k => XS.ifNo X1.here hx rfl (hb hby d3_8) rfl ((if0 _ _).trans (feq hc8_3).1) k) ?_
    refine Go.on (B := T1.setTop (mkF m 12 #[.val (.ref a1), .val (.int p2)] [(.int (1 : Int32))])) (fun t k => XS.iconst X1.here hx rfl (hb hby d3_11) k) ?_
    refine Go.on (B := T1.setTop (mkF m 16 #[.val (.ref a1), .val (.int p2)] [(.int (1 : Int32))])) (fun t k => XS.goto X1.here hx rfl (pc0 := 12) (pc' := 16) rfl (hb hby d3_12) (by decide) (by decide) k) ?_
    obtain ⟨fs, hr, hrun, hended, hW, hsame⟩ := X1.leave (v := some (.int (1 : Int32))) (fun h => by rw [Bd.returns] at h; cases h)
    refine ⟨_, _, ?_, hrun, hended, _, _, rfl, ?_, ⟨_, rfl⟩, hW, hsame.mono (by decide) (by decide)⟩
    · exact retN X1 hx (t := .boolean) Bd.returns (by simp) (hb hby d3_16) hr
    · show Q_riq Z a1 p2 a3 k3 z3 vs x3 h0 n0 _ T1.heap _
      rw [e1]
      exact ⟨by simp [hc8_3], N0, rfl⟩
theorem d4_0 : decode method_2_code 0 = .ok (.iload_n 0, 1) := by decide +kernel
theorem d4_1 : decode method_2_code 1 = .ok (.istore_n 1, 1) := by decide +kernel
theorem d4_2 : decode method_2_code 2 = .ok (.iload_n 1, 1) := by decide +kernel
theorem d4_3 : decode method_2_code 3 = .ok (.iconst 2, 1) := by decide +kernel
theorem d4_4 : decode method_2_code 4 = .ok (.irem, 1) := by decide +kernel
theorem d4_5 : decode method_2_code 5 = .ok (.ifCond .eq 7, 3) := by decide +kernel
theorem d4_8 : decode method_2_code 8 = .ok (.iconst 1, 1) := by decide +kernel
theorem d4_9 : decode method_2_code 9 = .ok (.goto 4, 3) := by decide +kernel
theorem d4_12 : decode method_2_code 12 = .ok (.iconst 0, 1) := by decide +kernel
theorem d4_13 : decode method_2_code 13 = .ok (.ireturn, 1) := by decide +kernel
theorem pn_5 : plainName "com/example/stricture/stricture/csv/CsvRecordIsQuotedPinLaw" = true := by first | (simp [plainName, overriddenIn]; done) | decide +kernel
theorem ef_rod (m : MethodId) (p1 : Int32) : entryFrame m #[(.int p1)] 2 = mkF m 0 #[.val (.int p1), .unset] [] := by first | (simp [entryFrame, mkF, argsToLocals, Value.category]; done) | rfl
def Q_rod (Z : State) (p1 : Int32) (h0 : Heap) (n0 : Nat) (v : Option Value) (h : Heap) (L : List Loc) : Prop := v = some (.int (if (p1 % (2 : Int32)) = (0 : Int32) then (0 : Int32) else (1 : Int32))) ∧ Fr n0 L ∧ h = h0
set_option maxRecDepth 65536 in
set_option maxHeartbeats 40000000 in
theorem rod (l : Launch) (Z : State) (a0 : Array Value) (hw : ∀ d ∈ tables_1, d.before a0 Z = true) (ws : List Jvm.Cond) (p1 : Int32) (h0 : Heap) (n0 : Nat) (Z0 : n0 ≤ h0.size)  :
    MetFree l (⟨"com/example/stricture/stricture/csv/CsvRecordIsQuotedPinLaw", "odd", "(B)Z"⟩ : MethodName) (head1 (Jvm.Cond.code (⟨"com/example/stricture/stricture/csv/CsvRecordIsQuotedPinLaw", "odd", "(B)Z"⟩ : MethodName) method_2_code 2 (some .boolean) :: ws) ({ frames := 0, cells := 0, slots := 0, locals := 0 } : Room)) (fun a U => a = #[(.int p1)] ∧ Z.Warmed39 U.vm ∧ U.heap = h0) (fun _ _ _ _ _ => True) (fun _ U o U' => ∃ v L, o = .returned v ∧ Q_rod Z p1 h0 n0 v U'.heap L ∧ FrameEnd U o U' L ({ frames := 0, cells := 0, slots := 0, locals := 0 } : Room).cells ({ frames := 0, cells := 0, slots := 0, locals := 0 } : Room).slots) := by
  refine MetFree.of_bodySF (plainFor_of_name pn_5) hisR ?_
  intro p e s m args below meth c s₁ Bd hml0 hP hK
  obtain ⟨rfl, hZ, hh⟩ := hP
  have hx := Bd.exec
  have hby := Bd.bytes
  have hml : c.maxLocals = 2 := hml0
  have hown : s.vm.findClass "com/example/stricture/stricture/csv/CsvRecordIsQuotedPinLaw" = some m.cls := findClass_of_methodNamed Bd.named
  have hnm := (name_of_methodNamed Bd.named Bd.method).1
  have X0 : Stand p l e ({ frames := 0, cells := 0, slots := 0, locals := 0 } : Room) s m #[(.int p1)] below meth c s₁ [] 0 0 := Stand.of_body Bd
  have e0 : s₁.heap = h0 := by rw [← hh, Bd.state]; rfl
  have N0 := Fr.nil n0
  have pre0 : ∀ t, Steps p.tables e below (s₁.setTop (mkF m 0 #[.val (.int p1), .unset] [])) t → Steps p.tables e below (s₁.setTop (entryFrame m #[(.int p1)] 2)) t := fun t k => castTop (ef_rod m p1) k
  change Go p.tables e below (fun o U' => ∃ v L, o = .returned v ∧ Q_rod Z p1 h0 n0 v U'.heap L ∧ FrameEnd s o U' L ({ frames := 0, cells := 0, slots := 0, locals := 0 } : Room).cells ({ frames := 0, cells := 0, slots := 0, locals := 0 } : Room).slots) (s₁.setTop (entryFrame m #[(.int p1)] 2))
  refine Go.on pre0 ?_
  refine Go.on (B := s₁.setTop (mkF m 1 #[.val (.int p1), .unset] [(.int p1)])) (fun t k => XS.iloadN X0.here hx rfl (hb hby d4_0) rfl k) ?_
  refine Go.on (B := s₁.setTop (mkF m 2 #[.val (.int p1), .val (.int p1)] [])) (fun t k => XS.istoreN X0.here hx rfl (hb hby d4_1) rfl (l' := #[.val (.int p1), .val (.int p1)]) rfl k) ?_
  refine Go.on (B := s₁.setTop (mkF m 3 #[.val (.int p1), .val (.int p1)] [(.int p1)])) (fun t k => XS.iloadN X0.here hx rfl (hb hby d4_2) rfl k) ?_
  refine Go.on (B := s₁.setTop (mkF m 4 #[.val (.int p1), .val (.int p1)] [(.int (2 : Int32)), (.int p1)])) (fun t k => XS.iconst X0.here hx rfl (hb hby d4_3) k) ?_
  refine Go.on (B := s₁.setTop (mkF m 5 #[.val (.int p1), .val (.int p1)] [(.int (p1 % (2 : Int32)))])) (fun t k => iremM X0 hx rfl (hb hby d4_4) rfl (by decide) k) ?_
  by_cases hc5_2 : (p1 % (2 : Int32)) = (0 : Int32)
  · refine Go.on (B := s₁.setTop (mkF m 12 #[.val (.int p1), .val (.int p1)] [])) (fun t k => XS.ifYes X0.here hx rfl (pc0 := 5) (pc' := 12) rfl (hb hby d4_5) rfl ((if0 _ _).trans (teq hc5_2).1) (by decide) (by decide) k) ?_
    refine Go.on (B := s₁.setTop (mkF m 13 #[.val (.int p1), .val (.int p1)] [(.int (0 : Int32))])) (fun t k => XS.iconst X0.here hx rfl (hb hby d4_12) k) ?_
    obtain ⟨fs, hr, hrun, hended, hW, hsame⟩ := X0.leave (v := some (.int (0 : Int32))) (fun h => by rw [Bd.returns] at h; cases h)
    refine ⟨_, _, ?_, hrun, hended, _, _, rfl, ?_, ⟨_, rfl⟩, hW, hsame.mono (by decide) (by decide)⟩
    · exact retN X0 hx (t := .boolean) Bd.returns (by simp) (hb hby d4_13) hr
    · show Q_rod Z p1 h0 n0 _ s₁.heap _
      rw [e0]
      exact ⟨by simp [hc5_2], N0, rfl⟩
  · refine Go.on (B := s₁.setTop (mkF m 8 #[.val (.int p1), .val (.int p1)] [])) (fun t k => XS.ifNo X0.here hx rfl (hb hby d4_5) rfl ((if0 _ _).trans (feq hc5_2).1) k) ?_
    refine Go.on (B := s₁.setTop (mkF m 9 #[.val (.int p1), .val (.int p1)] [(.int (1 : Int32))])) (fun t k => XS.iconst X0.here hx rfl (hb hby d4_8) k) ?_
    refine Go.on (B := s₁.setTop (mkF m 13 #[.val (.int p1), .val (.int p1)] [(.int (1 : Int32))])) (fun t k => XS.goto X0.here hx rfl (pc0 := 9) (pc' := 13) rfl (hb hby d4_9) (by decide) (by decide) k) ?_
    obtain ⟨fs, hr, hrun, hended, hW, hsame⟩ := X0.leave (v := some (.int (1 : Int32))) (fun h => by rw [Bd.returns] at h; cases h)
    refine ⟨_, _, ?_, hrun, hended, _, _, rfl, ?_, ⟨_, rfl⟩, hW, hsame.mono (by decide) (by decide)⟩
    · exact retN X0 hx (t := .boolean) Bd.returns (by simp) (hb hby d4_13) hr
    · show Q_rod Z p1 h0 n0 _ s₁.heap _
      rw [e0]
      exact ⟨by simp [hc5_2], N0, rfl⟩
theorem own_odd (p b : Int32) (hb : (p.toInt8.toInt32) = b) : (if ((b.toInt8.toInt32) &&& (1 : Int32)) = (0 : Int32) then (0 : Int32) else (1 : Int32)) = (if (b % (2 : Int32)) = (0 : Int32) then (0 : Int32) else (1 : Int32)) := by
  have e : b.toInt8.toInt32 = b := by rw [← hb]; simp
  rw [e]
  have k1 := c_mask b 1 1 (by decide) (by decide)
  have k2 := c_irem b 2 2 (by decide)
  have z0 : (0 : Int32).toInt = 0 := by decide
  have hiff : (b &&& (1 : Int32)) = (0 : Int32) ↔ (b % (2 : Int32)) = (0 : Int32) := by
    rw [← Int32.toInt_inj, ← Int32.toInt_inj, k1, z0]
    have := Int.lt_or_le b.toInt 0
    omega
  by_cases h : (b &&& (1 : Int32)) = (0 : Int32)
  · rw [if_pos h, if_pos (hiff.mp h)]
  · rw [if_neg h, if_neg (fun q => h (hiff.mpr q))]
theorem pd_0 : parseMethodDescriptor "(I[B[I[I[B)V" = some ⟨[.int, (.array .byte), (.array .int), (.array .int), (.array .byte)], none⟩ := by decide +kernel
theorem pd_1 : parseMethodDescriptor "(I)Z" = some ⟨[.int], some .boolean⟩ := by decide +kernel
theorem pd_2 : parseMethodDescriptor "(B)Z" = some ⟨[.byte], some .boolean⟩ := by decide +kernel
theorem ef_rm0 (m : MethodId) (p1 : Int32) (p2 : Int32) (p3 : Int32) (p4 : Int32) : entryFrame m #[(.int p1), (.int p2), (.int p3), (.int p4)] maxLocals = mkF m 0 #[.val (.int p1), .val (.int p2), .val (.int p3), .val (.int p4), .unset, .unset, .unset, .unset, .unset, .unset, .unset, .unset, .unset, .unset, .unset] [] := by first | (simp [entryFrame, mkF, argsToLocals, Value.category, maxLocals]; done) | rfl
def Q_rm0 (Z : State) (p1 : Int32) (p2 : Int32) (p3 : Int32) (p4 : Int32) (h0 : Heap) (n0 : Nat) (v : Option Value) (h : Heap) (L : List Loc) : Prop := v = some (.int 1) ∧ Fr n0 L
set_option maxRecDepth 65536 in
set_option maxHeartbeats 40000000 in
theorem rm0 (l : Launch) (Z : State) (a0 : Array Value) (hw : ∀ d ∈ tables_1, d.before a0 Z = true) (ws : List Jvm.Cond) (p1 : Int32) (p2 : Int32) (p3 : Int32) (p4 : Int32) (h0 : Heap) (n0 : Nat) (Z0 : n0 ≤ h0.size)  :
    MetFree l x (head1 (Jvm.Cond.code x code maxLocals ret :: ws) room_1) (fun a U => a = #[(.int p1), (.int p2), (.int p3), (.int p4)] ∧ Z.Warmed39 U.vm ∧ U.heap = h0) (fun _ _ _ _ _ => True) (fun _ U o U' => ∃ v L, o = .returned v ∧ Q_rm0 Z p1 p2 p3 p4 h0 n0 v U'.heap L ∧ FrameEnd U o U' L room_1.cells room_1.slots) := by
  refine MetFree.of_bodySF (plainFor_of_name pn_5) hisR ?_
  intro p e s m args below meth c s₁ Bd hml0 hP hK
  obtain ⟨rfl, hZ, hh⟩ := hP
  have hx := Bd.exec
  have hby := Bd.bytes
  have hml : c.maxLocals = 15 := hml0
  have hown : s.vm.findClass "com/example/stricture/stricture/csv/CsvRecordIsQuotedPinLaw" = some m.cls := findClass_of_methodNamed Bd.named
  have hnm := (name_of_methodNamed Bd.named Bd.method).1
  have X0 : Stand p l e room_1 s m #[(.int p1), (.int p2), (.int p3), (.int p4)] below meth c s₁ [] 0 0 := Stand.of_body Bd
  have e0 : s₁.heap = h0 := by rw [← hh, Bd.state]; rfl
  have N0 := Fr.nil n0
  have pre0 : ∀ t, Steps p.tables e below (s₁.setTop (mkF m 0 #[.val (.int p1), .val (.int p2), .val (.int p3), .val (.int p4), .unset, .unset, .unset, .unset, .unset, .unset, .unset, .unset, .unset, .unset, .unset] [])) t → Steps p.tables e below (s₁.setTop (entryFrame m #[(.int p1), (.int p2), (.int p3), (.int p4)] maxLocals)) t := fun t k => castTop (ef_rm0 m p1 p2 p3 p4) k
  change Go p.tables e below (fun o U' => ∃ v L, o = .returned v ∧ Q_rm0 Z p1 p2 p3 p4 h0 n0 v U'.heap L ∧ FrameEnd s o U' L room_1.cells room_1.slots) (s₁.setTop (entryFrame m #[(.int p1), (.int p2), (.int p3), (.int p4)] maxLocals))
  refine Go.on pre0 ?_
  refine Go.on (B := s₁.setTop (mkF m 1 #[.val (.int p1), .val (.int p2), .val (.int p3), .val (.int p4), .unset, .unset, .unset, .unset, .unset, .unset, .unset, .unset, .unset, .unset, .unset] [(.int p1)])) (fun t k => XS.iloadN X0.here hx rfl (hb hby at_0) rfl k) ?_
  refine Go.on (B := s₁.setTop (mkF m 2 #[.val (.int p1), .val (.int p2), .val (.int p3), .val (.int p4), .unset, .unset, .unset, .unset, .unset, .unset, .unset, .unset, .unset, .unset, .unset] [(.int (p1.toInt8.toInt32))])) (fun t k => XS.i2b X0.here hx rfl (hb hby at_1) rfl k) ?_
  generalize hv2_1 : (p1.toInt8.toInt32) = v2_1
  refine Go.on (B := s₁.setTop (mkF m 4 #[.val (.int p1), .val (.int p2), .val (.int p3), .val (.int p4), .val (.int v2_1), .unset, .unset, .unset, .unset, .unset, .unset, .unset, .unset, .unset, .unset] [])) (fun t k => XS.istore X0.here hx rfl (hb hby at_2) rfl (l' := #[.val (.int p1), .val (.int p2), .val (.int p3), .val (.int p4), .val (.int v2_1), .unset, .unset, .unset, .unset, .unset, .unset, .unset, .unset, .unset, .unset]) rfl k) ?_
  refine Go.on (B := s₁.setTop (mkF m 5 #[.val (.int p1), .val (.int p2), .val (.int p3), .val (.int p4), .val (.int v2_1), .unset, .unset, .unset, .unset, .unset, .unset, .unset, .unset, .unset, .unset] [(.int p2)])) (fun t k => XS.iloadN X0.here hx rfl (hb hby at_4) rfl k) ?_
  refine Go.on (B := s₁.setTop (mkF m 6 #[.val (.int p1), .val (.int p2), .val (.int p3), .val (.int p4), .val (.int v2_1), .unset, .unset, .unset, .unset, .unset, .unset, .unset, .unset, .unset, .unset] [(.int (p2.toInt8.toInt32))])) (fun t k => XS.i2b X0.here hx rfl (hb hby at_5) rfl k) ?_
  generalize hv6_2 : (p2.toInt8.toInt32) = v6_2
  refine Go.on (B := s₁.setTop (mkF m 8 #[.val (.int p1), .val (.int p2), .val (.int p3), .val (.int p4), .val (.int v2_1), .val (.int v6_2), .unset, .unset, .unset, .unset, .unset, .unset, .unset, .unset, .unset] [])) (fun t k => XS.istore X0.here hx rfl (hb hby at_6) rfl (l' := #[.val (.int p1), .val (.int p2), .val (.int p3), .val (.int p4), .val (.int v2_1), .val (.int v6_2), .unset, .unset, .unset, .unset, .unset, .unset, .unset, .unset, .unset]) rfl k) ?_
  refine Go.on (B := s₁.setTop (mkF m 9 #[.val (.int p1), .val (.int p2), .val (.int p3), .val (.int p4), .val (.int v2_1), .val (.int v6_2), .unset, .unset, .unset, .unset, .unset, .unset, .unset, .unset, .unset] [(.int p3)])) (fun t k => XS.iloadN X0.here hx rfl (hb hby at_8) rfl k) ?_
  refine Go.on (B := s₁.setTop (mkF m 10 #[.val (.int p1), .val (.int p2), .val (.int p3), .val (.int p4), .val (.int v2_1), .val (.int v6_2), .unset, .unset, .unset, .unset, .unset, .unset, .unset, .unset, .unset] [(.int (p3.toInt8.toInt32))])) (fun t k => XS.i2b X0.here hx rfl (hb hby at_9) rfl k) ?_
  generalize hv10_3 : (p3.toInt8.toInt32) = v10_3
  refine Go.on (B := s₁.setTop (mkF m 12 #[.val (.int p1), .val (.int p2), .val (.int p3), .val (.int p4), .val (.int v2_1), .val (.int v6_2), .val (.int v10_3), .unset, .unset, .unset, .unset, .unset, .unset, .unset, .unset] [])) (fun t k => XS.istore X0.here hx rfl (hb hby at_10) rfl (l' := #[.val (.int p1), .val (.int p2), .val (.int p3), .val (.int p4), .val (.int v2_1), .val (.int v6_2), .val (.int v10_3), .unset, .unset, .unset, .unset, .unset, .unset, .unset, .unset]) rfl k) ?_
  refine Go.on (B := s₁.setTop (mkF m 13 #[.val (.int p1), .val (.int p2), .val (.int p3), .val (.int p4), .val (.int v2_1), .val (.int v6_2), .val (.int v10_3), .unset, .unset, .unset, .unset, .unset, .unset, .unset, .unset] [(.int (0 : Int32))])) (fun t k => XS.iconst X0.here hx rfl (hb hby at_12) k) ?_
  obtain ⟨T4, h4, k4, X4, e4, E4, A4, st4⟩ := newP X0 hx hZ (hw _ (List.mem_of_getElem? (i := 0) rfl)) e0 (g := (mkF m 13 #[.val (.int p1), .val (.int p2), .val (.int p3), .val (.int p4), .val (.int v2_1), .val (.int v6_2), .val (.int v10_3), .unset, .unset, .unset, .unset, .unset, .unset, .unset, .unset] [(.int (0 : Int32))])) rfl (hb hby at_13) rfl (by decide) (cap := 0) (by decide) (by decide) (by decide) (by decide)
  obtain ⟨b4, g4⟩ : ∃ z, z = h0.size := ⟨_, rfl⟩
  rw [← g4] at A4 st4
  have ge_b4 : n0 ≤ b4 := Nat.le_trans Z0 (Nat.le_of_eq g4.symm)
  have Zs1 := Nat.le_trans Z0 E4.1
  have V4 : Arv Z h4 b4 k4 .byte (0 : Int32) [] (.int (0 : Int32)) := Arv.new A4 (by decide)
  refine Go.on (B := T4.setTop (mkF m 15 #[.val (.int p1), .val (.int p2), .val (.int p3), .val (.int p4), .val (.int v2_1), .val (.int v6_2), .val (.int v10_3), .unset, .unset, .unset, .unset, .unset, .unset, .unset, .unset] [(.ref b4)])) (fun t k => st4 _ k) ?_
  refine Go.on (B := T4.setTop (mkF m 17 #[.val (.int p1), .val (.int p2), .val (.int p3), .val (.int p4), .val (.int v2_1), .val (.int v6_2), .val (.int v10_3), .val (.ref b4), .unset, .unset, .unset, .unset, .unset, .unset, .unset] [])) (fun t k => XS.astore X4.here hx rfl (hb hby at_15) rfl rfl (l' := #[.val (.int p1), .val (.int p2), .val (.int p3), .val (.int p4), .val (.int v2_1), .val (.int v6_2), .val (.int v10_3), .val (.ref b4), .unset, .unset, .unset, .unset, .unset, .unset, .unset]) rfl k) ?_
  refine Go.on (B := T4.setTop (mkF m 18 #[.val (.int p1), .val (.int p2), .val (.int p3), .val (.int p4), .val (.int v2_1), .val (.int v6_2), .val (.int v10_3), .val (.ref b4), .unset, .unset, .unset, .unset, .unset, .unset, .unset] [(.int (3 : Int32))])) (fun t k => XS.iconst X4.here hx rfl (hb hby at_17) k) ?_
  obtain ⟨T5, h5, k5, X5, e5, E5, A5, st5⟩ := newP X4 hx hZ (hw _ (List.mem_of_getElem? (i := 1) rfl)) e4 (g := (mkF m 18 #[.val (.int p1), .val (.int p2), .val (.int p3), .val (.int p4), .val (.int v2_1), .val (.int v6_2), .val (.int v10_3), .val (.ref b4), .unset, .unset, .unset, .unset, .unset, .unset, .unset] [(.int (3 : Int32))])) rfl (hb hby at_18) rfl (by decide) (cap := 3) (by decide) (by decide) (by decide) (by decide)
  obtain ⟨b5, g5⟩ : ∃ z, z = h4.size := ⟨_, rfl⟩
  rw [← g5] at A5 st5
  have ge_b5 : n0 ≤ b5 := Nat.le_trans Zs1 (Nat.le_of_eq g5.symm)
  have ne_b4_b5 : b4 ≠ b5 := Nat.ne_of_lt (Nat.lt_of_lt_of_le V4.lt (Nat.le_of_eq g5.symm))
  have f2 := V4.ext E5
  have Zs3 := Nat.le_trans Zs1 E5.1
  have V5 : Arv Z h5 b5 k5 .int (3 : Int32) [(.int (0 : Int32)), (.int (0 : Int32)), (.int (0 : Int32))] (.int (0 : Int32)) := (Arv.new A5 (by decide)).pad (pad_rep [] (.int (0 : Int32)) 3)
  refine Go.on (B := T5.setTop (mkF m 20 #[.val (.int p1), .val (.int p2), .val (.int p3), .val (.int p4), .val (.int v2_1), .val (.int v6_2), .val (.int v10_3), .val (.ref b4), .unset, .unset, .unset, .unset, .unset, .unset, .unset] [(.ref b5)])) (fun t k => st5 _ k) ?_
  refine Go.on (B := T5.setTop (mkF m 21 #[.val (.int p1), .val (.int p2), .val (.int p3), .val (.int p4), .val (.int v2_1), .val (.int v6_2), .val (.int v10_3), .val (.ref b4), .unset, .unset, .unset, .unset, .unset, .unset, .unset] [(.ref b5), (.ref b5)])) (fun t k => XS.dup X5.here hx rfl (hb hby at_20) rfl rfl k) ?_
  refine Go.on (B := T5.setTop (mkF m 22 #[.val (.int p1), .val (.int p2), .val (.int p3), .val (.int p4), .val (.int v2_1), .val (.int v6_2), .val (.int v10_3), .val (.ref b4), .unset, .unset, .unset, .unset, .unset, .unset, .unset] [(.int (0 : Int32)), (.ref b5), (.ref b5)])) (fun t k => XS.iconst X5.here hx rfl (hb hby at_21) k) ?_
  refine Go.on (B := T5.setTop (mkF m 23 #[.val (.int p1), .val (.int p2), .val (.int p3), .val (.int p4), .val (.int v2_1), .val (.int v6_2), .val (.int v10_3), .val (.ref b4), .unset, .unset, .unset, .unset, .unset, .unset, .unset] [(.int (0 : Int32)), (.int (0 : Int32)), (.ref b5), (.ref b5)])) (fun t k => XS.iconst X5.here hx rfl (hb hby at_22) k) ?_
  obtain ⟨cl6, Ar6, qq6, Sz6, Ng6, Hh6, Gg6⟩ := V5
  have hin6 : ¬ ((0 : Int32) < 0 ∨ cl6.slots.size ≤ ((0 : Int32)).toNatClampNeg) := inb_of Sz6 ⟨by decide, by decide⟩
  obtain ⟨T6, h6, X6, e6, W6, st6⟩ := stI X5 hx hZ e5 Ar6 (j := (0 : Int32)) hin6 (g := (mkF m 23 #[.val (.int p1), .val (.int p2), .val (.int p3), .val (.int p4), .val (.int v2_1), .val (.int v6_2), .val (.int v10_3), .val (.ref b4), .unset, .unset, .unset, .unset, .unset, .unset, .unset] [(.int (0 : Int32)), (.int (0 : Int32)), (.ref b5), (.ref b5)])) rfl rfl (hb hby at_23)
  have V6 : Arv Z h6 b5 k5 .int (3 : Int32) [(.int (0 : Int32)), (.int (0 : Int32)), (.int (0 : Int32))] (.int (0 : Int32)) := Arv.set Ar6 qq6 Sz6 Ng6 Hh6 Gg6 rfl W6 0 rfl (Nat.le_of_ble_eq_true rfl)
  have N6 := Fr.snoc X6 N0 ge_b5
  have f4 := f2.other W6 ne_b4_b5
  have Zs5 := Nat.le_trans Zs3 (Keep.of_wr W6).1
  refine Go.on (B := T6.setTop (mkF m 24 #[.val (.int p1), .val (.int p2), .val (.int p3), .val (.int p4), .val (.int v2_1), .val (.int v6_2), .val (.int v10_3), .val (.ref b4), .unset, .unset, .unset, .unset, .unset, .unset, .unset] [(.ref b5)])) (fun t k => st6 _ k) ?_
  refine Go.on (B := T6.setTop (mkF m 25 #[.val (.int p1), .val (.int p2), .val (.int p3), .val (.int p4), .val (.int v2_1), .val (.int v6_2), .val (.int v10_3), .val (.ref b4), .unset, .unset, .unset, .unset, .unset, .unset, .unset] [(.ref b5), (.ref b5)])) (fun t k => XS.dup X6.here hx rfl (hb hby at_24) rfl rfl k) ?_
  refine Go.on (B := T6.setTop (mkF m 26 #[.val (.int p1), .val (.int p2), .val (.int p3), .val (.int p4), .val (.int v2_1), .val (.int v6_2), .val (.int v10_3), .val (.ref b4), .unset, .unset, .unset, .unset, .unset, .unset, .unset] [(.int (1 : Int32)), (.ref b5), (.ref b5)])) (fun t k => XS.iconst X6.here hx rfl (hb hby at_25) k) ?_
  refine Go.on (B := T6.setTop (mkF m 27 #[.val (.int p1), .val (.int p2), .val (.int p3), .val (.int p4), .val (.int v2_1), .val (.int v6_2), .val (.int v10_3), .val (.ref b4), .unset, .unset, .unset, .unset, .unset, .unset, .unset] [(.int (0 : Int32)), (.int (1 : Int32)), (.ref b5), (.ref b5)])) (fun t k => XS.iconst X6.here hx rfl (hb hby at_26) k) ?_
  obtain ⟨cl7, Ar7, qq7, Sz7, Ng7, Hh7, Gg7⟩ := V6
  have hin7 : ¬ ((1 : Int32) < 0 ∨ cl7.slots.size ≤ ((1 : Int32)).toNatClampNeg) := inb_of Sz7 ⟨by decide, by decide⟩
  obtain ⟨T7, h7, X7, e7, W7, st7⟩ := stI X6 hx hZ e6 Ar7 (j := (1 : Int32)) hin7 (g := (mkF m 27 #[.val (.int p1), .val (.int p2), .val (.int p3), .val (.int p4), .val (.int v2_1), .val (.int v6_2), .val (.int v10_3), .val (.ref b4), .unset, .unset, .unset, .unset, .unset, .unset, .unset] [(.int (0 : Int32)), (.int (1 : Int32)), (.ref b5), (.ref b5)])) rfl rfl (hb hby at_27)
  have V7 : Arv Z h7 b5 k5 .int (3 : Int32) [(.int (0 : Int32)), (.int (0 : Int32)), (.int (0 : Int32))] (.int (0 : Int32)) := Arv.set Ar7 qq7 Sz7 Ng7 Hh7 Gg7 rfl W7 1 rfl (Nat.le_of_ble_eq_true rfl)
  have N7 := Fr.snoc X7 N6 ge_b5
  have f6 := f4.other W7 ne_b4_b5
  have Zs7 := Nat.le_trans Zs5 (Keep.of_wr W7).1
  refine Go.on (B := T7.setTop (mkF m 28 #[.val (.int p1), .val (.int p2), .val (.int p3), .val (.int p4), .val (.int v2_1), .val (.int v6_2), .val (.int v10_3), .val (.ref b4), .unset, .unset, .unset, .unset, .unset, .unset, .unset] [(.ref b5)])) (fun t k => st7 _ k) ?_
  refine Go.on (B := T7.setTop (mkF m 29 #[.val (.int p1), .val (.int p2), .val (.int p3), .val (.int p4), .val (.int v2_1), .val (.int v6_2), .val (.int v10_3), .val (.ref b4), .unset, .unset, .unset, .unset, .unset, .unset, .unset] [(.ref b5), (.ref b5)])) (fun t k => XS.dup X7.here hx rfl (hb hby at_28) rfl rfl k) ?_
  refine Go.on (B := T7.setTop (mkF m 30 #[.val (.int p1), .val (.int p2), .val (.int p3), .val (.int p4), .val (.int v2_1), .val (.int v6_2), .val (.int v10_3), .val (.ref b4), .unset, .unset, .unset, .unset, .unset, .unset, .unset] [(.int (2 : Int32)), (.ref b5), (.ref b5)])) (fun t k => XS.iconst X7.here hx rfl (hb hby at_29) k) ?_
  refine Go.on (B := T7.setTop (mkF m 31 #[.val (.int p1), .val (.int p2), .val (.int p3), .val (.int p4), .val (.int v2_1), .val (.int v6_2), .val (.int v10_3), .val (.ref b4), .unset, .unset, .unset, .unset, .unset, .unset, .unset] [(.int (0 : Int32)), (.int (2 : Int32)), (.ref b5), (.ref b5)])) (fun t k => XS.iconst X7.here hx rfl (hb hby at_30) k) ?_
  obtain ⟨cl8, Ar8, qq8, Sz8, Ng8, Hh8, Gg8⟩ := V7
  have hin8 : ¬ ((2 : Int32) < 0 ∨ cl8.slots.size ≤ ((2 : Int32)).toNatClampNeg) := inb_of Sz8 ⟨by decide, by decide⟩
  obtain ⟨T8, h8, X8, e8, W8, st8⟩ := stI X7 hx hZ e7 Ar8 (j := (2 : Int32)) hin8 (g := (mkF m 31 #[.val (.int p1), .val (.int p2), .val (.int p3), .val (.int p4), .val (.int v2_1), .val (.int v6_2), .val (.int v10_3), .val (.ref b4), .unset, .unset, .unset, .unset, .unset, .unset, .unset] [(.int (0 : Int32)), (.int (2 : Int32)), (.ref b5), (.ref b5)])) rfl rfl (hb hby at_31)
  have V8 : Arv Z h8 b5 k5 .int (3 : Int32) [(.int (0 : Int32)), (.int (0 : Int32)), (.int (0 : Int32))] (.int (0 : Int32)) := Arv.set Ar8 qq8 Sz8 Ng8 Hh8 Gg8 rfl W8 2 rfl (Nat.le_of_ble_eq_true rfl)
  have N8 := Fr.snoc X8 N7 ge_b5
  have f8 := f6.other W8 ne_b4_b5
  have Zs9 := Nat.le_trans Zs7 (Keep.of_wr W8).1
  refine Go.on (B := T8.setTop (mkF m 32 #[.val (.int p1), .val (.int p2), .val (.int p3), .val (.int p4), .val (.int v2_1), .val (.int v6_2), .val (.int v10_3), .val (.ref b4), .unset, .unset, .unset, .unset, .unset, .unset, .unset] [(.ref b5)])) (fun t k => st8 _ k) ?_
  refine Go.on (B := T8.setTop (mkF m 34 #[.val (.int p1), .val (.int p2), .val (.int p3), .val (.int p4), .val (.int v2_1), .val (.int v6_2), .val (.int v10_3), .val (.ref b4), .val (.ref b5), .unset, .unset, .unset, .unset, .unset, .unset] [])) (fun t k => XS.astore X8.here hx rfl (hb hby at_32) rfl rfl (l' := #[.val (.int p1), .val (.int p2), .val (.int p3), .val (.int p4), .val (.int v2_1), .val (.int v6_2), .val (.int v10_3), .val (.ref b4), .val (.ref b5), .unset, .unset, .unset, .unset, .unset, .unset]) rfl k) ?_
  refine Go.on (B := T8.setTop (mkF m 35 #[.val (.int p1), .val (.int p2), .val (.int p3), .val (.int p4), .val (.int v2_1), .val (.int v6_2), .val (.int v10_3), .val (.ref b4), .val (.ref b5), .unset, .unset, .unset, .unset, .unset, .unset] [(.int (3 : Int32))])) (fun t k => XS.iconst X8.here hx rfl (hb hby at_34) k) ?_
  obtain ⟨T9, h9, k9, X9, e9, E9, A9, st9⟩ := newP X8 hx hZ (hw _ (List.mem_of_getElem? (i := 1) rfl)) e8 (g := (mkF m 35 #[.val (.int p1), .val (.int p2), .val (.int p3), .val (.int p4), .val (.int v2_1), .val (.int v6_2), .val (.int v10_3), .val (.ref b4), .val (.ref b5), .unset, .unset, .unset, .unset, .unset, .unset] [(.int (3 : Int32))])) rfl (hb hby at_35) rfl (by decide) (cap := 3) (by decide) (by decide) (by decide) (by decide)
  obtain ⟨b9, g9⟩ : ∃ z, z = h8.size := ⟨_, rfl⟩
  rw [← g9] at A9 st9
  have ge_b9 : n0 ≤ b9 := Nat.le_trans Zs9 (Nat.le_of_eq g9.symm)
  have ne_b4_b9 : b4 ≠ b9 := Nat.ne_of_lt (Nat.lt_of_lt_of_le f8.lt (Nat.le_of_eq g9.symm))
  have ne_b5_b9 : b5 ≠ b9 := Nat.ne_of_lt (Nat.lt_of_lt_of_le V8.lt (Nat.le_of_eq g9.symm))
  have f10 := f8.ext E9
  have f11 := V8.ext E9
  have Zs12 := Nat.le_trans Zs9 E9.1
  have V9 : Arv Z h9 b9 k9 .int (3 : Int32) [(.int (0 : Int32)), (.int (0 : Int32)), (.int (0 : Int32))] (.int (0 : Int32)) := (Arv.new A9 (by decide)).pad (pad_rep [] (.int (0 : Int32)) 3)
  refine Go.on (B := T9.setTop (mkF m 37 #[.val (.int p1), .val (.int p2), .val (.int p3), .val (.int p4), .val (.int v2_1), .val (.int v6_2), .val (.int v10_3), .val (.ref b4), .val (.ref b5), .unset, .unset, .unset, .unset, .unset, .unset] [(.ref b9)])) (fun t k => st9 _ k) ?_
  refine Go.on (B := T9.setTop (mkF m 38 #[.val (.int p1), .val (.int p2), .val (.int p3), .val (.int p4), .val (.int v2_1), .val (.int v6_2), .val (.int v10_3), .val (.ref b4), .val (.ref b5), .unset, .unset, .unset, .unset, .unset, .unset] [(.ref b9), (.ref b9)])) (fun t k => XS.dup X9.here hx rfl (hb hby at_37) rfl rfl k) ?_
  refine Go.on (B := T9.setTop (mkF m 39 #[.val (.int p1), .val (.int p2), .val (.int p3), .val (.int p4), .val (.int v2_1), .val (.int v6_2), .val (.int v10_3), .val (.ref b4), .val (.ref b5), .unset, .unset, .unset, .unset, .unset, .unset] [(.int (0 : Int32)), (.ref b9), (.ref b9)])) (fun t k => XS.iconst X9.here hx rfl (hb hby at_38) k) ?_
  refine Go.on (B := T9.setTop (mkF m 40 #[.val (.int p1), .val (.int p2), .val (.int p3), .val (.int p4), .val (.int v2_1), .val (.int v6_2), .val (.int v10_3), .val (.ref b4), .val (.ref b5), .unset, .unset, .unset, .unset, .unset, .unset] [(.int (0 : Int32)), (.int (0 : Int32)), (.ref b9), (.ref b9)])) (fun t k => XS.iconst X9.here hx rfl (hb hby at_39) k) ?_
  obtain ⟨cl10, Ar10, qq10, Sz10, Ng10, Hh10, Gg10⟩ := V9
  have hin10 : ¬ ((0 : Int32) < 0 ∨ cl10.slots.size ≤ ((0 : Int32)).toNatClampNeg) := inb_of Sz10 ⟨by decide, by decide⟩
  obtain ⟨T10, h10, X10, e10, W10, st10⟩ := stI X9 hx hZ e9 Ar10 (j := (0 : Int32)) hin10 (g := (mkF m 40 #[.val (.int p1), .val (.int p2), .val (.int p3), .val (.int p4), .val (.int v2_1), .val (.int v6_2), .val (.int v10_3), .val (.ref b4), .val (.ref b5), .unset, .unset, .unset, .unset, .unset, .unset] [(.int (0 : Int32)), (.int (0 : Int32)), (.ref b9), (.ref b9)])) rfl rfl (hb hby at_40)
  have V10 : Arv Z h10 b9 k9 .int (3 : Int32) [(.int (0 : Int32)), (.int (0 : Int32)), (.int (0 : Int32))] (.int (0 : Int32)) := Arv.set Ar10 qq10 Sz10 Ng10 Hh10 Gg10 rfl W10 0 rfl (Nat.le_of_ble_eq_true rfl)
  have N10 := Fr.snoc X10 N8 ge_b9
  have f13 := f10.other W10 ne_b4_b9
  have f14 := f11.other W10 ne_b5_b9
  have Zs15 := Nat.le_trans Zs12 (Keep.of_wr W10).1
  refine Go.on (B := T10.setTop (mkF m 41 #[.val (.int p1), .val (.int p2), .val (.int p3), .val (.int p4), .val (.int v2_1), .val (.int v6_2), .val (.int v10_3), .val (.ref b4), .val (.ref b5), .unset, .unset, .unset, .unset, .unset, .unset] [(.ref b9)])) (fun t k => st10 _ k) ?_
  refine Go.on (B := T10.setTop (mkF m 42 #[.val (.int p1), .val (.int p2), .val (.int p3), .val (.int p4), .val (.int v2_1), .val (.int v6_2), .val (.int v10_3), .val (.ref b4), .val (.ref b5), .unset, .unset, .unset, .unset, .unset, .unset] [(.ref b9), (.ref b9)])) (fun t k => XS.dup X10.here hx rfl (hb hby at_41) rfl rfl k) ?_
  refine Go.on (B := T10.setTop (mkF m 43 #[.val (.int p1), .val (.int p2), .val (.int p3), .val (.int p4), .val (.int v2_1), .val (.int v6_2), .val (.int v10_3), .val (.ref b4), .val (.ref b5), .unset, .unset, .unset, .unset, .unset, .unset] [(.int (1 : Int32)), (.ref b9), (.ref b9)])) (fun t k => XS.iconst X10.here hx rfl (hb hby at_42) k) ?_
  refine Go.on (B := T10.setTop (mkF m 44 #[.val (.int p1), .val (.int p2), .val (.int p3), .val (.int p4), .val (.int v2_1), .val (.int v6_2), .val (.int v10_3), .val (.ref b4), .val (.ref b5), .unset, .unset, .unset, .unset, .unset, .unset] [(.int (0 : Int32)), (.int (1 : Int32)), (.ref b9), (.ref b9)])) (fun t k => XS.iconst X10.here hx rfl (hb hby at_43) k) ?_
  obtain ⟨cl11, Ar11, qq11, Sz11, Ng11, Hh11, Gg11⟩ := V10
  have hin11 : ¬ ((1 : Int32) < 0 ∨ cl11.slots.size ≤ ((1 : Int32)).toNatClampNeg) := inb_of Sz11 ⟨by decide, by decide⟩
  obtain ⟨T11, h11, X11, e11, W11, st11⟩ := stI X10 hx hZ e10 Ar11 (j := (1 : Int32)) hin11 (g := (mkF m 44 #[.val (.int p1), .val (.int p2), .val (.int p3), .val (.int p4), .val (.int v2_1), .val (.int v6_2), .val (.int v10_3), .val (.ref b4), .val (.ref b5), .unset, .unset, .unset, .unset, .unset, .unset] [(.int (0 : Int32)), (.int (1 : Int32)), (.ref b9), (.ref b9)])) rfl rfl (hb hby at_44)
  have V11 : Arv Z h11 b9 k9 .int (3 : Int32) [(.int (0 : Int32)), (.int (0 : Int32)), (.int (0 : Int32))] (.int (0 : Int32)) := Arv.set Ar11 qq11 Sz11 Ng11 Hh11 Gg11 rfl W11 1 rfl (Nat.le_of_ble_eq_true rfl)
  have N11 := Fr.snoc X11 N10 ge_b9
  have f16 := f13.other W11 ne_b4_b9
  have f17 := f14.other W11 ne_b5_b9
  have Zs18 := Nat.le_trans Zs15 (Keep.of_wr W11).1
  refine Go.on (B := T11.setTop (mkF m 45 #[.val (.int p1), .val (.int p2), .val (.int p3), .val (.int p4), .val (.int v2_1), .val (.int v6_2), .val (.int v10_3), .val (.ref b4), .val (.ref b5), .unset, .unset, .unset, .unset, .unset, .unset] [(.ref b9)])) (fun t k => st11 _ k) ?_
  refine Go.on (B := T11.setTop (mkF m 46 #[.val (.int p1), .val (.int p2), .val (.int p3), .val (.int p4), .val (.int v2_1), .val (.int v6_2), .val (.int v10_3), .val (.ref b4), .val (.ref b5), .unset, .unset, .unset, .unset, .unset, .unset] [(.ref b9), (.ref b9)])) (fun t k => XS.dup X11.here hx rfl (hb hby at_45) rfl rfl k) ?_
  refine Go.on (B := T11.setTop (mkF m 47 #[.val (.int p1), .val (.int p2), .val (.int p3), .val (.int p4), .val (.int v2_1), .val (.int v6_2), .val (.int v10_3), .val (.ref b4), .val (.ref b5), .unset, .unset, .unset, .unset, .unset, .unset] [(.int (2 : Int32)), (.ref b9), (.ref b9)])) (fun t k => XS.iconst X11.here hx rfl (hb hby at_46) k) ?_
  refine Go.on (B := T11.setTop (mkF m 48 #[.val (.int p1), .val (.int p2), .val (.int p3), .val (.int p4), .val (.int v2_1), .val (.int v6_2), .val (.int v10_3), .val (.ref b4), .val (.ref b5), .unset, .unset, .unset, .unset, .unset, .unset] [(.int (0 : Int32)), (.int (2 : Int32)), (.ref b9), (.ref b9)])) (fun t k => XS.iconst X11.here hx rfl (hb hby at_47) k) ?_
  obtain ⟨cl12, Ar12, qq12, Sz12, Ng12, Hh12, Gg12⟩ := V11
  have hin12 : ¬ ((2 : Int32) < 0 ∨ cl12.slots.size ≤ ((2 : Int32)).toNatClampNeg) := inb_of Sz12 ⟨by decide, by decide⟩
  obtain ⟨T12, h12, X12, e12, W12, st12⟩ := stI X11 hx hZ e11 Ar12 (j := (2 : Int32)) hin12 (g := (mkF m 48 #[.val (.int p1), .val (.int p2), .val (.int p3), .val (.int p4), .val (.int v2_1), .val (.int v6_2), .val (.int v10_3), .val (.ref b4), .val (.ref b5), .unset, .unset, .unset, .unset, .unset, .unset] [(.int (0 : Int32)), (.int (2 : Int32)), (.ref b9), (.ref b9)])) rfl rfl (hb hby at_48)
  have V12 : Arv Z h12 b9 k9 .int (3 : Int32) [(.int (0 : Int32)), (.int (0 : Int32)), (.int (0 : Int32))] (.int (0 : Int32)) := Arv.set Ar12 qq12 Sz12 Ng12 Hh12 Gg12 rfl W12 2 rfl (Nat.le_of_ble_eq_true rfl)
  have N12 := Fr.snoc X12 N11 ge_b9
  have f19 := f16.other W12 ne_b4_b9
  have f20 := f17.other W12 ne_b5_b9
  have Zs21 := Nat.le_trans Zs18 (Keep.of_wr W12).1
  refine Go.on (B := T12.setTop (mkF m 49 #[.val (.int p1), .val (.int p2), .val (.int p3), .val (.int p4), .val (.int v2_1), .val (.int v6_2), .val (.int v10_3), .val (.ref b4), .val (.ref b5), .unset, .unset, .unset, .unset, .unset, .unset] [(.ref b9)])) (fun t k => st12 _ k) ?_
  refine Go.on (B := T12.setTop (mkF m 51 #[.val (.int p1), .val (.int p2), .val (.int p3), .val (.int p4), .val (.int v2_1), .val (.int v6_2), .val (.int v10_3), .val (.ref b4), .val (.ref b5), .val (.ref b9), .unset, .unset, .unset, .unset, .unset] [])) (fun t k => XS.astore X12.here hx rfl (hb hby at_49) rfl rfl (l' := #[.val (.int p1), .val (.int p2), .val (.int p3), .val (.int p4), .val (.int v2_1), .val (.int v6_2), .val (.int v10_3), .val (.ref b4), .val (.ref b5), .val (.ref b9), .unset, .unset, .unset, .unset, .unset]) rfl k) ?_
  refine Go.on (B := T12.setTop (mkF m 52 #[.val (.int p1), .val (.int p2), .val (.int p3), .val (.int p4), .val (.int v2_1), .val (.int v6_2), .val (.int v10_3), .val (.ref b4), .val (.ref b5), .val (.ref b9), .unset, .unset, .unset, .unset, .unset] [(.int (3 : Int32))])) (fun t k => XS.iconst X12.here hx rfl (hb hby at_51) k) ?_
  obtain ⟨T13, h13, k13, X13, e13, E13, A13, st13⟩ := newP X12 hx hZ (hw _ (List.mem_of_getElem? (i := 0) rfl)) e12 (g := (mkF m 52 #[.val (.int p1), .val (.int p2), .val (.int p3), .val (.int p4), .val (.int v2_1), .val (.int v6_2), .val (.int v10_3), .val (.ref b4), .val (.ref b5), .val (.ref b9), .unset, .unset, .unset, .unset, .unset] [(.int (3 : Int32))])) rfl (hb hby at_52) rfl (by decide) (cap := 3) (by decide) (by decide) (by decide) (by decide)
  obtain ⟨b13, g13⟩ : ∃ z, z = h12.size := ⟨_, rfl⟩
  rw [← g13] at A13 st13
  have ge_b13 : n0 ≤ b13 := Nat.le_trans Zs21 (Nat.le_of_eq g13.symm)
  have ne_b4_b13 : b4 ≠ b13 := Nat.ne_of_lt (Nat.lt_of_lt_of_le f19.lt (Nat.le_of_eq g13.symm))
  have ne_b5_b13 : b5 ≠ b13 := Nat.ne_of_lt (Nat.lt_of_lt_of_le f20.lt (Nat.le_of_eq g13.symm))
  have ne_b9_b13 : b9 ≠ b13 := Nat.ne_of_lt (Nat.lt_of_lt_of_le V12.lt (Nat.le_of_eq g13.symm))
  have f22 := f19.ext E13
  have f23 := f20.ext E13
  have f24 := V12.ext E13
  have Zs25 := Nat.le_trans Zs21 E13.1
  have V13 : Arv Z h13 b13 k13 .byte (3 : Int32) [(.int (0 : Int32)), (.int (0 : Int32)), (.int (0 : Int32))] (.int (0 : Int32)) := (Arv.new A13 (by decide)).pad (pad_rep [] (.int (0 : Int32)) 3)
  refine Go.on (B := T13.setTop (mkF m 54 #[.val (.int p1), .val (.int p2), .val (.int p3), .val (.int p4), .val (.int v2_1), .val (.int v6_2), .val (.int v10_3), .val (.ref b4), .val (.ref b5), .val (.ref b9), .unset, .unset, .unset, .unset, .unset] [(.ref b13)])) (fun t k => st13 _ k) ?_
  refine Go.on (B := T13.setTop (mkF m 55 #[.val (.int p1), .val (.int p2), .val (.int p3), .val (.int p4), .val (.int v2_1), .val (.int v6_2), .val (.int v10_3), .val (.ref b4), .val (.ref b5), .val (.ref b9), .unset, .unset, .unset, .unset, .unset] [(.ref b13), (.ref b13)])) (fun t k => XS.dup X13.here hx rfl (hb hby at_54) rfl rfl k) ?_
  refine Go.on (B := T13.setTop (mkF m 56 #[.val (.int p1), .val (.int p2), .val (.int p3), .val (.int p4), .val (.int v2_1), .val (.int v6_2), .val (.int v10_3), .val (.ref b4), .val (.ref b5), .val (.ref b9), .unset, .unset, .unset, .unset, .unset] [(.int (0 : Int32)), (.ref b13), (.ref b13)])) (fun t k => XS.iconst X13.here hx rfl (hb hby at_55) k) ?_
  refine Go.on (B := T13.setTop (mkF m 58 #[.val (.int p1), .val (.int p2), .val (.int p3), .val (.int p4), .val (.int v2_1), .val (.int v6_2), .val (.int v10_3), .val (.ref b4), .val (.ref b5), .val (.ref b9), .unset, .unset, .unset, .unset, .unset] [(.int v2_1), (.int (0 : Int32)), (.ref b13), (.ref b13)])) (fun t k => XS.iload X13.here hx rfl (hb hby at_56) rfl k) ?_
  obtain ⟨cl14, Ar14, qq14, Sz14, Ng14, Hh14, Gg14⟩ := V13
  have hin14 : ¬ ((0 : Int32) < 0 ∨ cl14.slots.size ≤ ((0 : Int32)).toNatClampNeg) := inb_of Sz14 ⟨by decide, by decide⟩
  obtain ⟨T14, h14, X14, e14, W14, st14⟩ := stB X13 hx hZ e13 Ar14 (j := (0 : Int32)) hin14 (g := (mkF m 58 #[.val (.int p1), .val (.int p2), .val (.int p3), .val (.int p4), .val (.int v2_1), .val (.int v6_2), .val (.int v10_3), .val (.ref b4), .val (.ref b5), .val (.ref b9), .unset, .unset, .unset, .unset, .unset] [(.int v2_1), (.int (0 : Int32)), (.ref b13), (.ref b13)])) rfl rfl (hb hby at_58)
  have V14 : Arv Z h14 b13 k13 .byte (3 : Int32) [(.int (v2_1.toInt8.toInt32)), (.int (0 : Int32)), (.int (0 : Int32))] (.int (0 : Int32)) := Arv.set Ar14 qq14 Sz14 Ng14 Hh14 Gg14 (fits_nar_byte _) W14 0 rfl (Nat.le_of_ble_eq_true rfl)
  have N14 := Fr.snoc X14 N12 ge_b13
  have f26 := f22.other W14 ne_b4_b13
  have f27 := f23.other W14 ne_b5_b13
  have f28 := f24.other W14 ne_b9_b13
  have Zs29 := Nat.le_trans Zs25 (Keep.of_wr W14).1
  refine Go.on (B := T14.setTop (mkF m 59 #[.val (.int p1), .val (.int p2), .val (.int p3), .val (.int p4), .val (.int v2_1), .val (.int v6_2), .val (.int v10_3), .val (.ref b4), .val (.ref b5), .val (.ref b9), .unset, .unset, .unset, .unset, .unset] [(.ref b13)])) (fun t k => st14 _ k) ?_
  refine Go.on (B := T14.setTop (mkF m 60 #[.val (.int p1), .val (.int p2), .val (.int p3), .val (.int p4), .val (.int v2_1), .val (.int v6_2), .val (.int v10_3), .val (.ref b4), .val (.ref b5), .val (.ref b9), .unset, .unset, .unset, .unset, .unset] [(.ref b13), (.ref b13)])) (fun t k => XS.dup X14.here hx rfl (hb hby at_59) rfl rfl k) ?_
  refine Go.on (B := T14.setTop (mkF m 61 #[.val (.int p1), .val (.int p2), .val (.int p3), .val (.int p4), .val (.int v2_1), .val (.int v6_2), .val (.int v10_3), .val (.ref b4), .val (.ref b5), .val (.ref b9), .unset, .unset, .unset, .unset, .unset] [(.int (1 : Int32)), (.ref b13), (.ref b13)])) (fun t k => XS.iconst X14.here hx rfl (hb hby at_60) k) ?_
  refine Go.on (B := T14.setTop (mkF m 63 #[.val (.int p1), .val (.int p2), .val (.int p3), .val (.int p4), .val (.int v2_1), .val (.int v6_2), .val (.int v10_3), .val (.ref b4), .val (.ref b5), .val (.ref b9), .unset, .unset, .unset, .unset, .unset] [(.int v6_2), (.int (1 : Int32)), (.ref b13), (.ref b13)])) (fun t k => XS.iload X14.here hx rfl (hb hby at_61) rfl k) ?_
  obtain ⟨cl15, Ar15, qq15, Sz15, Ng15, Hh15, Gg15⟩ := V14
  have hin15 : ¬ ((1 : Int32) < 0 ∨ cl15.slots.size ≤ ((1 : Int32)).toNatClampNeg) := inb_of Sz15 ⟨by decide, by decide⟩
  obtain ⟨T15, h15, X15, e15, W15, st15⟩ := stB X14 hx hZ e14 Ar15 (j := (1 : Int32)) hin15 (g := (mkF m 63 #[.val (.int p1), .val (.int p2), .val (.int p3), .val (.int p4), .val (.int v2_1), .val (.int v6_2), .val (.int v10_3), .val (.ref b4), .val (.ref b5), .val (.ref b9), .unset, .unset, .unset, .unset, .unset] [(.int v6_2), (.int (1 : Int32)), (.ref b13), (.ref b13)])) rfl rfl (hb hby at_63)
  have V15 : Arv Z h15 b13 k13 .byte (3 : Int32) [(.int (v2_1.toInt8.toInt32)), (.int (v6_2.toInt8.toInt32)), (.int (0 : Int32))] (.int (0 : Int32)) := Arv.set Ar15 qq15 Sz15 Ng15 Hh15 Gg15 (fits_nar_byte _) W15 1 rfl (Nat.le_of_ble_eq_true rfl)
  have N15 := Fr.snoc X15 N14 ge_b13
  have f30 := f26.other W15 ne_b4_b13
  have f31 := f27.other W15 ne_b5_b13
  have f32 := f28.other W15 ne_b9_b13
  have Zs33 := Nat.le_trans Zs29 (Keep.of_wr W15).1
  refine Go.on (B := T15.setTop (mkF m 64 #[.val (.int p1), .val (.int p2), .val (.int p3), .val (.int p4), .val (.int v2_1), .val (.int v6_2), .val (.int v10_3), .val (.ref b4), .val (.ref b5), .val (.ref b9), .unset, .unset, .unset, .unset, .unset] [(.ref b13)])) (fun t k => st15 _ k) ?_
  refine Go.on (B := T15.setTop (mkF m 65 #[.val (.int p1), .val (.int p2), .val (.int p3), .val (.int p4), .val (.int v2_1), .val (.int v6_2), .val (.int v10_3), .val (.ref b4), .val (.ref b5), .val (.ref b9), .unset, .unset, .unset, .unset, .unset] [(.ref b13), (.ref b13)])) (fun t k => XS.dup X15.here hx rfl (hb hby at_64) rfl rfl k) ?_
  refine Go.on (B := T15.setTop (mkF m 66 #[.val (.int p1), .val (.int p2), .val (.int p3), .val (.int p4), .val (.int v2_1), .val (.int v6_2), .val (.int v10_3), .val (.ref b4), .val (.ref b5), .val (.ref b9), .unset, .unset, .unset, .unset, .unset] [(.int (2 : Int32)), (.ref b13), (.ref b13)])) (fun t k => XS.iconst X15.here hx rfl (hb hby at_65) k) ?_
  refine Go.on (B := T15.setTop (mkF m 68 #[.val (.int p1), .val (.int p2), .val (.int p3), .val (.int p4), .val (.int v2_1), .val (.int v6_2), .val (.int v10_3), .val (.ref b4), .val (.ref b5), .val (.ref b9), .unset, .unset, .unset, .unset, .unset] [(.int v10_3), (.int (2 : Int32)), (.ref b13), (.ref b13)])) (fun t k => XS.iload X15.here hx rfl (hb hby at_66) rfl k) ?_
  obtain ⟨cl16, Ar16, qq16, Sz16, Ng16, Hh16, Gg16⟩ := V15
  have hin16 : ¬ ((2 : Int32) < 0 ∨ cl16.slots.size ≤ ((2 : Int32)).toNatClampNeg) := inb_of Sz16 ⟨by decide, by decide⟩
  obtain ⟨T16, h16, X16, e16, W16, st16⟩ := stB X15 hx hZ e15 Ar16 (j := (2 : Int32)) hin16 (g := (mkF m 68 #[.val (.int p1), .val (.int p2), .val (.int p3), .val (.int p4), .val (.int v2_1), .val (.int v6_2), .val (.int v10_3), .val (.ref b4), .val (.ref b5), .val (.ref b9), .unset, .unset, .unset, .unset, .unset] [(.int v10_3), (.int (2 : Int32)), (.ref b13), (.ref b13)])) rfl rfl (hb hby at_68)
  have V16 : Arv Z h16 b13 k13 .byte (3 : Int32) [(.int (v2_1.toInt8.toInt32)), (.int (v6_2.toInt8.toInt32)), (.int (v10_3.toInt8.toInt32))] (.int (0 : Int32)) := Arv.set Ar16 qq16 Sz16 Ng16 Hh16 Gg16 (fits_nar_byte _) W16 2 rfl (Nat.le_of_ble_eq_true rfl)
  have N16 := Fr.snoc X16 N15 ge_b13
  have f34 := f30.other W16 ne_b4_b13
  have f35 := f31.other W16 ne_b5_b13
  have f36 := f32.other W16 ne_b9_b13
  have Zs37 := Nat.le_trans Zs33 (Keep.of_wr W16).1
  refine Go.on (B := T16.setTop (mkF m 69 #[.val (.int p1), .val (.int p2), .val (.int p3), .val (.int p4), .val (.int v2_1), .val (.int v6_2), .val (.int v10_3), .val (.ref b4), .val (.ref b5), .val (.ref b9), .unset, .unset, .unset, .unset, .unset] [(.ref b13)])) (fun t k => st16 _ k) ?_
  refine Go.on (B := T16.setTop (mkF m 71 #[.val (.int p1), .val (.int p2), .val (.int p3), .val (.int p4), .val (.int v2_1), .val (.int v6_2), .val (.int v10_3), .val (.ref b4), .val (.ref b5), .val (.ref b9), .val (.ref b13), .unset, .unset, .unset, .unset] [])) (fun t k => XS.astore X16.here hx rfl (hb hby at_69) rfl rfl (l' := #[.val (.int p1), .val (.int p2), .val (.int p3), .val (.int p4), .val (.int v2_1), .val (.int v6_2), .val (.int v10_3), .val (.ref b4), .val (.ref b5), .val (.ref b9), .val (.ref b13), .unset, .unset, .unset, .unset]) rfl k) ?_
  obtain ⟨T17, h17, X17, e17, E17, A17, D17, -, st17⟩ := newO X16 hx hZ hown (hw _ (List.mem_of_getElem? (i := 2) rfl)) (hw _ (List.mem_of_getElem? (i := 3) rfl)) (hw _ (List.mem_of_getElem? (i := 4) rfl)) e16 (g := (mkF m 71 #[.val (.int p1), .val (.int p2), .val (.int p3), .val (.int p4), .val (.int v2_1), .val (.int v6_2), .val (.int v10_3), .val (.ref b4), .val (.ref b5), .val (.ref b9), .val (.ref b13), .unset, .unset, .unset, .unset] [])) rfl (hb hby at_71) (by decide) (by decide)
  obtain ⟨b17, g17⟩ : ∃ z, z = h16.size := ⟨_, rfl⟩
  rw [← g17] at A17 D17 st17
  have ge_b17 : n0 ≤ b17 := Nat.le_trans Zs37 (Nat.le_of_eq g17.symm)
  have ne_b4_b17 : b4 ≠ b17 := Nat.ne_of_lt (Nat.lt_of_lt_of_le f34.lt (Nat.le_of_eq g17.symm))
  have ne_b5_b17 : b5 ≠ b17 := Nat.ne_of_lt (Nat.lt_of_lt_of_le f35.lt (Nat.le_of_eq g17.symm))
  have ne_b9_b17 : b9 ≠ b17 := Nat.ne_of_lt (Nat.lt_of_lt_of_le f36.lt (Nat.le_of_eq g17.symm))
  have ne_b13_b17 : b13 ≠ b17 := Nat.ne_of_lt (Nat.lt_of_lt_of_le V16.lt (Nat.le_of_eq g17.symm))
  have f38 := f34.ext E17
  have f39 := f35.ext E17
  have f40 := f36.ext E17
  have f41 := V16.ext E17
  have Zs42 := Nat.le_trans Zs37 E17.1
  have F17_line : Fld Z h17 b17 "com/example/stricture/stricture/csv/CsvRecord" "line" "I" (.int (0 : Int32)) := D17 (Or.inr (hw _ (List.mem_of_getElem? (i := 12) rfl))) (ty := .int) (by decide)
  have F17_bytes : Fld Z h17 b17 "com/example/stricture/stricture/csv/CsvRecord" "bytes" "[B" .null := D17 (Or.inr (hw _ (List.mem_of_getElem? (i := 14) rfl))) (ty := (.array .byte)) (by decide)
  have F17_starts : Fld Z h17 b17 "com/example/stricture/stricture/csv/CsvRecord" "starts" "[I" .null := D17 (Or.inr (hw _ (List.mem_of_getElem? (i := 16) rfl))) (ty := (.array .int)) (by decide)
  have F17_ends : Fld Z h17 b17 "com/example/stricture/stricture/csv/CsvRecord" "ends" "[I" .null := D17 (Or.inr (hw _ (List.mem_of_getElem? (i := 18) rfl))) (ty := (.array .int)) (by decide)
  have F17_flags : Fld Z h17 b17 "com/example/stricture/stricture/csv/CsvRecord" "flags" "[B" .null := D17 (Or.inr (hw _ (List.mem_of_getElem? (i := 20) rfl))) (ty := (.array .byte)) (by decide)
  refine Go.on (B := T17.setTop (mkF m 74 #[.val (.int p1), .val (.int p2), .val (.int p3), .val (.int p4), .val (.int v2_1), .val (.int v6_2), .val (.int v10_3), .val (.ref b4), .val (.ref b5), .val (.ref b9), .val (.ref b13), .unset, .unset, .unset, .unset] [(.ref b17)])) (fun t k => st17 _ k) ?_
  refine Go.on (B := T17.setTop (mkF m 75 #[.val (.int p1), .val (.int p2), .val (.int p3), .val (.int p4), .val (.int v2_1), .val (.int v6_2), .val (.int v10_3), .val (.ref b4), .val (.ref b5), .val (.ref b9), .val (.ref b13), .unset, .unset, .unset, .unset] [(.ref b17), (.ref b17)])) (fun t k => XS.dup X17.here hx rfl (hb hby at_74) rfl rfl k) ?_
  refine Go.on (B := T17.setTop (mkF m 76 #[.val (.int p1), .val (.int p2), .val (.int p3), .val (.int p4), .val (.int v2_1), .val (.int v6_2), .val (.int v10_3), .val (.ref b4), .val (.ref b5), .val (.ref b9), .val (.ref b13), .unset, .unset, .unset, .unset] [(.int p4), (.ref b17), (.ref b17)])) (fun t k => XS.iloadN X17.here hx rfl (hb hby at_75) rfl k) ?_
  refine Go.on (B := T17.setTop (mkF m 78 #[.val (.int p1), .val (.int p2), .val (.int p3), .val (.int p4), .val (.int v2_1), .val (.int v6_2), .val (.int v10_3), .val (.ref b4), .val (.ref b5), .val (.ref b9), .val (.ref b13), .unset, .unset, .unset, .unset] [(.ref b4), (.int p4), (.ref b17), (.ref b17)])) (fun t k => XS.aload X17.here hx rfl (hb hby at_76) rfl rfl k) ?_
  refine Go.on (B := T17.setTop (mkF m 80 #[.val (.int p1), .val (.int p2), .val (.int p3), .val (.int p4), .val (.int v2_1), .val (.int v6_2), .val (.int v10_3), .val (.ref b4), .val (.ref b5), .val (.ref b9), .val (.ref b13), .unset, .unset, .unset, .unset] [(.ref b5), (.ref b4), (.int p4), (.ref b17), (.ref b17)])) (fun t k => XS.aload X17.here hx rfl (hb hby at_78) rfl rfl k) ?_
  refine Go.on (B := T17.setTop (mkF m 82 #[.val (.int p1), .val (.int p2), .val (.int p3), .val (.int p4), .val (.int v2_1), .val (.int v6_2), .val (.int v10_3), .val (.ref b4), .val (.ref b5), .val (.ref b9), .val (.ref b13), .unset, .unset, .unset, .unset] [(.ref b9), (.ref b5), (.ref b4), (.int p4), (.ref b17), (.ref b17)])) (fun t k => XS.aload X17.here hx rfl (hb hby at_80) rfl rfl k) ?_
  refine Go.on (B := T17.setTop (mkF m 84 #[.val (.int p1), .val (.int p2), .val (.int p3), .val (.int p4), .val (.int v2_1), .val (.int v6_2), .val (.int v10_3), .val (.ref b4), .val (.ref b5), .val (.ref b9), .val (.ref b13), .unset, .unset, .unset, .unset] [(.ref b13), (.ref b9), (.ref b5), (.ref b4), (.int p4), (.ref b17), (.ref b17)])) (fun t k => XS.aload X17.here hx rfl (hb hby at_82) rfl rfl k) ?_
  obtain ⟨_, _, ⟨T18, L18, k18, n18⟩, -, X18, ⟨Lc18, hQ18, l18, y18, z18⟩, st18⟩ := X17.specialBack hx (y := (⟨"com/example/stricture/stricture/csv/CsvRecord", "<init>", "(I[B[I[I[B)V"⟩ : MethodName)) rfl hown (mvT hZ (hw _ (List.mem_of_getElem? (i := 5) rfl))) (mvT hZ (hw _ (List.mem_of_getElem? (i := 6) rfl))) (mvT hZ (hw _ (List.mem_of_getElem? (i := 7) rfl))) (by decide) (backOf (W := 1) (rini l Z a0 hw [] b17 p4 b4 b5 b9 b13 h17 n0 Zs42 A17 F17_line F17_bytes F17_starts F17_ends F17_flags ge_b17) hZ (hw _ (List.mem_of_getElem? (i := 7) rfl)) (hw _ (List.mem_of_getElem? (i := 4) rfl)) (by decide) (by decide)) (g := (mkF m 84 #[.val (.int p1), .val (.int p2), .val (.int p3), .val (.int p4), .val (.int v2_1), .val (.int v6_2), .val (.int v10_3), .val (.ref b4), .val (.ref b5), .val (.ref b9), .val (.ref b13), .unset, .unset, .unset, .unset] [(.ref b13), (.ref b9), (.ref b5), (.ref b4), (.int p4), (.ref b17), (.ref b17)])) rfl (by rw [hml]; rfl) (Steps.refl _) (a := b17) (argsL := [(.int p4), (.ref b4), (.ref b5), (.ref b9), (.ref b13)]) (rest := [(.ref b17)]) (lenOf pd_0 rfl) rfl (by show 2 * 0 + _ ≤ _; exact Nat.le_of_eq rfl) (hb hby at_84) (fun _ _ => ⟨rfl, e17, (by decide : 5 + 0 ≤ _), (by decide : 14 + 0 ≤ _)⟩)
  dsimp only [Pt.U, Pt.locs, Pt.cells, Pt.slots] at X18 l18 y18 z18 st18 hQ18
  subst l18 y18 z18
  obtain ⟨rfl, N18q, K18q, G18_0, G18_1⟩ := hQ18
  have N18 := Fr.app N16 N18q
  have f43 := f38.keep K18q (ninS ne_b4_b17 nin0)
  have f44 := f39.keep K18q (ninS ne_b5_b17 nin0)
  have f45 := f40.keep K18q (ninS ne_b9_b17 nin0)
  have f46 := f41.keep K18q (ninS ne_b13_b17 nin0)
  have f47 := A17.keep K18q
  have Zs48 := Nat.le_trans Zs42 K18q.1
  refine Go.on (B := T18.setTop (mkF m 87 #[.val (.int p1), .val (.int p2), .val (.int p3), .val (.int p4), .val (.int v2_1), .val (.int v6_2), .val (.int v10_3), .val (.ref b4), .val (.ref b5), .val (.ref b9), .val (.ref b13), .unset, .unset, .unset, .unset] [(.ref b17)])) (fun t k => st18.trans k) ?_
  refine Go.on (B := T18.setTop (mkF m 89 #[.val (.int p1), .val (.int p2), .val (.int p3), .val (.int p4), .val (.int v2_1), .val (.int v6_2), .val (.int v10_3), .val (.ref b4), .val (.ref b5), .val (.ref b9), .val (.ref b13), .val (.ref b17), .unset, .unset, .unset] [])) (fun t k => XS.astore X18.here hx rfl (hb hby at_87) rfl rfl (l' := #[.val (.int p1), .val (.int p2), .val (.int p3), .val (.int p4), .val (.int v2_1), .val (.int v6_2), .val (.int v10_3), .val (.ref b4), .val (.ref b5), .val (.ref b9), .val (.ref b13), .val (.ref b17), .unset, .unset, .unset]) rfl k) ?_
  refine Go.on (B := T18.setTop (mkF m 91 #[.val (.int p1), .val (.int p2), .val (.int p3), .val (.int p4), .val (.int v2_1), .val (.int v6_2), .val (.int v10_3), .val (.ref b4), .val (.ref b5), .val (.ref b9), .val (.ref b13), .val (.ref b17), .unset, .unset, .unset] [(.ref b17)])) (fun t k => XS.aload X18.here hx rfl (hb hby at_89) rfl rfl k) ?_
  refine Go.on (B := T18.setTop (mkF m 92 #[.val (.int p1), .val (.int p2), .val (.int p3), .val (.int p4), .val (.int v2_1), .val (.int v6_2), .val (.int v10_3), .val (.ref b4), .val (.ref b5), .val (.ref b9), .val (.ref b13), .val (.ref b17), .unset, .unset, .unset] [(.int (0 : Int32)), (.ref b17)])) (fun t k => XS.iconst X18.here hx rfl (hb hby at_91) k) ?_
  obtain ⟨cq19, kq19, q19a, q19b, q19c⟩ := isOf hZ rfl G18_0
  obtain ⟨_, _, ⟨T19, L19, k19, n19⟩, -, X19, ⟨Lc19, hQ19, l19, y19, z19⟩, st19⟩ := X18.virtualBack hx (y := (⟨"com/example/stricture/stricture/csv/CsvRecord", "isQuoted", "(I)Z"⟩ : MethodName)) (z := (⟨"com/example/stricture/stricture/csv/CsvRecord", "isQuoted", "(I)Z"⟩ : MethodName)) hown (mvT hZ (hw _ (List.mem_of_getElem? (i := 21) rfl))) (mvT hZ (hw _ (List.mem_of_getElem? (i := 22) rfl))) (notFace_of_selects (args := #[]) (mvT hZ (hw _ (List.mem_of_getElem? (i := 24) rfl)))) (mvT hZ (hw _ (List.mem_of_getElem? (i := 24) rfl))) (mvT hZ (hw _ (List.mem_of_getElem? (i := 23) rfl))) (by decide) (backOf (W := 0) (riq l Z a0 hw [] b17 (0 : Int32) b13 k13 (3 : Int32) [(.int (v2_1.toInt8.toInt32)), (.int (v6_2.toInt8.toInt32)), (.int (v10_3.toInt8.toInt32))] (v2_1.toInt8.toInt32) T18.heap n0 Zs48 G18_1 f46 ⟨by decide, by decide⟩ rfl) hZ (hw _ (List.mem_of_getElem? (i := 25) rfl)) (hw _ (List.mem_of_getElem? (i := 4) rfl)) (by decide) (by decide)) q19a q19c (g := (mkF m 92 #[.val (.int p1), .val (.int p2), .val (.int p3), .val (.int p4), .val (.int v2_1), .val (.int v6_2), .val (.int v10_3), .val (.ref b4), .val (.ref b5), .val (.ref b9), .val (.ref b13), .val (.ref b17), .unset, .unset, .unset] [(.int (0 : Int32)), (.ref b17)])) rfl (by rw [hml]; rfl) (Steps.refl _) (argsL := [(.int (0 : Int32))]) (rest := []) (lenOf pd_1 rfl) rfl (by show 2 * 0 + _ ≤ _; exact Nat.le_of_eq rfl) (hb hby at_92) (fun _ _ => ⟨rfl, rfl, (by decide : 5 + 0 ≤ _), (by decide : 14 + 0 ≤ _)⟩)
  dsimp only [Pt.U, Pt.locs, Pt.cells, Pt.slots] at X19 l19 y19 z19 st19 hQ19
  subst l19 y19 z19
  obtain ⟨rfl, N19q, e19q⟩ := hQ19
  have N19 := Fr.app N18 N19q
  refine Go.on (B := T19.setTop (mkF m 95 #[.val (.int p1), .val (.int p2), .val (.int p3), .val (.int p4), .val (.int v2_1), .val (.int v6_2), .val (.int v10_3), .val (.ref b4), .val (.ref b5), .val (.ref b9), .val (.ref b13), .val (.ref b17), .unset, .unset, .unset] [(.int (if ((v2_1.toInt8.toInt32) &&& (1 : Int32)) = (0 : Int32) then (0 : Int32) else (1 : Int32)))])) (fun t k => st19.trans k) ?_
  generalize hv95_20 : (if ((v2_1.toInt8.toInt32) &&& (1 : Int32)) = (0 : Int32) then (0 : Int32) else (1 : Int32)) = v95_20
  refine Go.on (B := T19.setTop (mkF m 97 #[.val (.int p1), .val (.int p2), .val (.int p3), .val (.int p4), .val (.int v2_1), .val (.int v6_2), .val (.int v10_3), .val (.ref b4), .val (.ref b5), .val (.ref b9), .val (.ref b13), .val (.ref b17), .val (.int v95_20), .unset, .unset] [])) (fun t k => XS.istore X19.here hx rfl (hb hby at_95) rfl (l' := #[.val (.int p1), .val (.int p2), .val (.int p3), .val (.int p4), .val (.int v2_1), .val (.int v6_2), .val (.int v10_3), .val (.ref b4), .val (.ref b5), .val (.ref b9), .val (.ref b13), .val (.ref b17), .val (.int v95_20), .unset, .unset]) rfl k) ?_
  refine Go.on (B := T19.setTop (mkF m 99 #[.val (.int p1), .val (.int p2), .val (.int p3), .val (.int p4), .val (.int v2_1), .val (.int v6_2), .val (.int v10_3), .val (.ref b4), .val (.ref b5), .val (.ref b9), .val (.ref b13), .val (.ref b17), .val (.int v95_20), .unset, .unset] [(.ref b17)])) (fun t k => XS.aload X19.here hx rfl (hb hby at_97) rfl rfl k) ?_
  refine Go.on (B := T19.setTop (mkF m 100 #[.val (.int p1), .val (.int p2), .val (.int p3), .val (.int p4), .val (.int v2_1), .val (.int v6_2), .val (.int v10_3), .val (.ref b4), .val (.ref b5), .val (.ref b9), .val (.ref b13), .val (.ref b17), .val (.int v95_20), .unset, .unset] [(.int (1 : Int32)), (.ref b17)])) (fun t k => XS.iconst X19.here hx rfl (hb hby at_99) k) ?_
  obtain ⟨cq21, kq21, q21a, q21b, q21c⟩ := isOf hZ e19q G18_0
  obtain ⟨_, _, ⟨T21, L21, k21, n21⟩, -, X21, ⟨Lc21, hQ21, l21, y21, z21⟩, st21⟩ := X19.virtualBack hx (y := (⟨"com/example/stricture/stricture/csv/CsvRecord", "isQuoted", "(I)Z"⟩ : MethodName)) (z := (⟨"com/example/stricture/stricture/csv/CsvRecord", "isQuoted", "(I)Z"⟩ : MethodName)) hown (mvT hZ (hw _ (List.mem_of_getElem? (i := 21) rfl))) (mvT hZ (hw _ (List.mem_of_getElem? (i := 22) rfl))) (notFace_of_selects (args := #[]) (mvT hZ (hw _ (List.mem_of_getElem? (i := 24) rfl)))) (mvT hZ (hw _ (List.mem_of_getElem? (i := 24) rfl))) (mvT hZ (hw _ (List.mem_of_getElem? (i := 23) rfl))) (by decide) (backOf (W := 0) (riq l Z a0 hw [] b17 (1 : Int32) b13 k13 (3 : Int32) [(.int (v2_1.toInt8.toInt32)), (.int (v6_2.toInt8.toInt32)), (.int (v10_3.toInt8.toInt32))] (v6_2.toInt8.toInt32) T18.heap n0 Zs48 G18_1 f46 ⟨by decide, by decide⟩ rfl) hZ (hw _ (List.mem_of_getElem? (i := 25) rfl)) (hw _ (List.mem_of_getElem? (i := 4) rfl)) (by decide) (by decide)) q21a q21c (g := (mkF m 100 #[.val (.int p1), .val (.int p2), .val (.int p3), .val (.int p4), .val (.int v2_1), .val (.int v6_2), .val (.int v10_3), .val (.ref b4), .val (.ref b5), .val (.ref b9), .val (.ref b13), .val (.ref b17), .val (.int v95_20), .unset, .unset] [(.int (1 : Int32)), (.ref b17)])) rfl (by rw [hml]; rfl) (Steps.refl _) (argsL := [(.int (1 : Int32))]) (rest := []) (lenOf pd_1 rfl) rfl (by show 2 * 0 + _ ≤ _; exact Nat.le_of_eq rfl) (hb hby at_100) (fun _ _ => ⟨rfl, e19q, (by decide : 5 + 0 ≤ _), (by decide : 14 + 0 ≤ _)⟩)
  dsimp only [Pt.U, Pt.locs, Pt.cells, Pt.slots] at X21 l21 y21 z21 st21 hQ21
  subst l21 y21 z21
  obtain ⟨rfl, N21q, e21q⟩ := hQ21
  have N21 := Fr.app N19 N21q
  refine Go.on (B := T21.setTop (mkF m 103 #[.val (.int p1), .val (.int p2), .val (.int p3), .val (.int p4), .val (.int v2_1), .val (.int v6_2), .val (.int v10_3), .val (.ref b4), .val (.ref b5), .val (.ref b9), .val (.ref b13), .val (.ref b17), .val (.int v95_20), .unset, .unset] [(.int (if ((v6_2.toInt8.toInt32) &&& (1 : Int32)) = (0 : Int32) then (0 : Int32) else (1 : Int32)))])) (fun t k => st21.trans k) ?_
  generalize hv103_22 : (if ((v6_2.toInt8.toInt32) &&& (1 : Int32)) = (0 : Int32) then (0 : Int32) else (1 : Int32)) = v103_22
  refine Go.on (B := T21.setTop (mkF m 105 #[.val (.int p1), .val (.int p2), .val (.int p3), .val (.int p4), .val (.int v2_1), .val (.int v6_2), .val (.int v10_3), .val (.ref b4), .val (.ref b5), .val (.ref b9), .val (.ref b13), .val (.ref b17), .val (.int v95_20), .val (.int v103_22), .unset] [])) (fun t k => XS.istore X21.here hx rfl (hb hby at_103) rfl (l' := #[.val (.int p1), .val (.int p2), .val (.int p3), .val (.int p4), .val (.int v2_1), .val (.int v6_2), .val (.int v10_3), .val (.ref b4), .val (.ref b5), .val (.ref b9), .val (.ref b13), .val (.ref b17), .val (.int v95_20), .val (.int v103_22), .unset]) rfl k) ?_
  refine Go.on (B := T21.setTop (mkF m 107 #[.val (.int p1), .val (.int p2), .val (.int p3), .val (.int p4), .val (.int v2_1), .val (.int v6_2), .val (.int v10_3), .val (.ref b4), .val (.ref b5), .val (.ref b9), .val (.ref b13), .val (.ref b17), .val (.int v95_20), .val (.int v103_22), .unset] [(.ref b17)])) (fun t k => XS.aload X21.here hx rfl (hb hby at_105) rfl rfl k) ?_
  refine Go.on (B := T21.setTop (mkF m 108 #[.val (.int p1), .val (.int p2), .val (.int p3), .val (.int p4), .val (.int v2_1), .val (.int v6_2), .val (.int v10_3), .val (.ref b4), .val (.ref b5), .val (.ref b9), .val (.ref b13), .val (.ref b17), .val (.int v95_20), .val (.int v103_22), .unset] [(.int (2 : Int32)), (.ref b17)])) (fun t k => XS.iconst X21.here hx rfl (hb hby at_107) k) ?_
  obtain ⟨cq23, kq23, q23a, q23b, q23c⟩ := isOf hZ e21q G18_0
  obtain ⟨_, _, ⟨T23, L23, k23, n23⟩, -, X23, ⟨Lc23, hQ23, l23, y23, z23⟩, st23⟩ := X21.virtualBack hx (y := (⟨"com/example/stricture/stricture/csv/CsvRecord", "isQuoted", "(I)Z"⟩ : MethodName)) (z := (⟨"com/example/stricture/stricture/csv/CsvRecord", "isQuoted", "(I)Z"⟩ : MethodName)) hown (mvT hZ (hw _ (List.mem_of_getElem? (i := 21) rfl))) (mvT hZ (hw _ (List.mem_of_getElem? (i := 22) rfl))) (notFace_of_selects (args := #[]) (mvT hZ (hw _ (List.mem_of_getElem? (i := 24) rfl)))) (mvT hZ (hw _ (List.mem_of_getElem? (i := 24) rfl))) (mvT hZ (hw _ (List.mem_of_getElem? (i := 23) rfl))) (by decide) (backOf (W := 0) (riq l Z a0 hw [] b17 (2 : Int32) b13 k13 (3 : Int32) [(.int (v2_1.toInt8.toInt32)), (.int (v6_2.toInt8.toInt32)), (.int (v10_3.toInt8.toInt32))] (v10_3.toInt8.toInt32) T18.heap n0 Zs48 G18_1 f46 ⟨by decide, by decide⟩ rfl) hZ (hw _ (List.mem_of_getElem? (i := 25) rfl)) (hw _ (List.mem_of_getElem? (i := 4) rfl)) (by decide) (by decide)) q23a q23c (g := (mkF m 108 #[.val (.int p1), .val (.int p2), .val (.int p3), .val (.int p4), .val (.int v2_1), .val (.int v6_2), .val (.int v10_3), .val (.ref b4), .val (.ref b5), .val (.ref b9), .val (.ref b13), .val (.ref b17), .val (.int v95_20), .val (.int v103_22), .unset] [(.int (2 : Int32)), (.ref b17)])) rfl (by rw [hml]; rfl) (Steps.refl _) (argsL := [(.int (2 : Int32))]) (rest := []) (lenOf pd_1 rfl) rfl (by show 2 * 0 + _ ≤ _; exact Nat.le_of_eq rfl) (hb hby at_108) (fun _ _ => ⟨rfl, e21q, (by decide : 5 + 0 ≤ _), (by decide : 14 + 0 ≤ _)⟩)
  dsimp only [Pt.U, Pt.locs, Pt.cells, Pt.slots] at X23 l23 y23 z23 st23 hQ23
  subst l23 y23 z23
  obtain ⟨rfl, N23q, e23q⟩ := hQ23
  have N23 := Fr.app N21 N23q
  refine Go.on (B := T23.setTop (mkF m 111 #[.val (.int p1), .val (.int p2), .val (.int p3), .val (.int p4), .val (.int v2_1), .val (.int v6_2), .val (.int v10_3), .val (.ref b4), .val (.ref b5), .val (.ref b9), .val (.ref b13), .val (.ref b17), .val (.int v95_20), .val (.int v103_22), .unset] [(.int (if ((v10_3.toInt8.toInt32) &&& (1 : Int32)) = (0 : Int32) then (0 : Int32) else (1 : Int32)))])) (fun t k => st23.trans k) ?_
  generalize hv111_24 : (if ((v10_3.toInt8.toInt32) &&& (1 : Int32)) = (0 : Int32) then (0 : Int32) else (1 : Int32)) = v111_24
  refine Go.on (B := T23.setTop (mkF m 113 #[.val (.int p1), .val (.int p2), .val (.int p3), .val (.int p4), .val (.int v2_1), .val (.int v6_2), .val (.int v10_3), .val (.ref b4), .val (.ref b5), .val (.ref b9), .val (.ref b13), .val (.ref b17), .val (.int v95_20), .val (.int v103_22), .val (.int v111_24)] [])) (fun t k => XS.istore X23.here hx rfl (hb hby at_111) rfl (l' := #[.val (.int p1), .val (.int p2), .val (.int p3), .val (.int p4), .val (.int v2_1), .val (.int v6_2), .val (.int v10_3), .val (.ref b4), .val (.ref b5), .val (.ref b9), .val (.ref b13), .val (.ref b17), .val (.int v95_20), .val (.int v103_22), .val (.int v111_24)]) rfl k) ?_
  refine Go.on (B := T23.setTop (mkF m 115 #[.val (.int p1), .val (.int p2), .val (.int p3), .val (.int p4), .val (.int v2_1), .val (.int v6_2), .val (.int v10_3), .val (.ref b4), .val (.ref b5), .val (.ref b9), .val (.ref b13), .val (.ref b17), .val (.int v95_20), .val (.int v103_22), .val (.int v111_24)] [(.int v95_20)])) (fun t k => XS.iload X23.here hx rfl (hb hby at_113) rfl k) ?_
  refine Go.on (B := T23.setTop (mkF m 117 #[.val (.int p1), .val (.int p2), .val (.int p3), .val (.int p4), .val (.int v2_1), .val (.int v6_2), .val (.int v10_3), .val (.ref b4), .val (.ref b5), .val (.ref b9), .val (.ref b13), .val (.ref b17), .val (.int v95_20), .val (.int v103_22), .val (.int v111_24)] [(.int v2_1), (.int v95_20)])) (fun t k => XS.iload X23.here hx rfl (hb hby at_115) rfl k) ?_
  obtain ⟨_, _, ⟨T25, L25, k25, n25⟩, -, X25, ⟨Lc25, hQ25, l25, y25, z25⟩, st25⟩ := Jvm.LawKit.callS X23 hx (y := (⟨"com/example/stricture/stricture/csv/CsvRecordIsQuotedPinLaw", "odd", "(B)Z"⟩ : MethodName)) hown (mvT hZ (hw _ (List.mem_of_getElem? (i := 26) rfl))) (mvT hZ (hw _ (List.mem_of_getElem? (i := 27) rfl))) (mvT hZ (hw _ (List.mem_of_getElem? (i := 28) rfl))) (mvT hZ (hw _ (List.mem_of_getElem? (i := 29) rfl))) (by decide) (backOf (W := 1) (rod l Z a0 hw [] v2_1 T18.heap n0 Zs48) hZ (hw _ (List.mem_of_getElem? (i := 29) rfl)) (hw _ (List.mem_of_getElem? (i := 28) rfl)) (by decide) (by decide)) (g := (mkF m 117 #[.val (.int p1), .val (.int p2), .val (.int p3), .val (.int p4), .val (.int v2_1), .val (.int v6_2), .val (.int v10_3), .val (.ref b4), .val (.ref b5), .val (.ref b9), .val (.ref b13), .val (.ref b17), .val (.int v95_20), .val (.int v103_22), .val (.int v111_24)] [(.int v2_1), (.int v95_20)])) rfl (by rw [hml]; rfl) (argsL := [(.int v2_1)]) (rest := [(.int v95_20)]) (lenOf pd_2 rfl) rfl (by show 2 * 0 + _ ≤ _; exact Nat.le_of_eq rfl) (hb hby at_117) (fun _ _ => ⟨rfl, e23q, (by decide : 5 + 0 ≤ _), (by decide : 14 + 0 ≤ _)⟩)
  dsimp only [Pt.U, Pt.locs, Pt.cells, Pt.slots] at X25 l25 y25 z25 st25 hQ25
  subst l25 y25 z25
  obtain ⟨rfl, N25q, e25q⟩ := hQ25
  have N25 := Fr.app N23 N25q
  refine Go.on (B := T25.setTop (mkF m 120 #[.val (.int p1), .val (.int p2), .val (.int p3), .val (.int p4), .val (.int v2_1), .val (.int v6_2), .val (.int v10_3), .val (.ref b4), .val (.ref b5), .val (.ref b9), .val (.ref b13), .val (.ref b17), .val (.int v95_20), .val (.int v103_22), .val (.int v111_24)] [(.int (if (v2_1 % (2 : Int32)) = (0 : Int32) then (0 : Int32) else (1 : Int32))), (.int v95_20)])) (fun t k => st25 _ k) ?_
  have hc120_26 : v95_20 = (if (v2_1 % (2 : Int32)) = (0 : Int32) then (0 : Int32) else (1 : Int32)) := by
    rw [← hv95_20]
    exact own_odd p1 v2_1 hv2_1
  refine Go.on (B := T25.setTop (mkF m 123 #[.val (.int p1), .val (.int p2), .val (.int p3), .val (.int p4), .val (.int v2_1), .val (.int v6_2), .val (.int v10_3), .val (.ref b4), .val (.ref b5), .val (.ref b9), .val (.ref b13), .val (.ref b17), .val (.int v95_20), .val (.int v103_22), .val (.int v111_24)] [])) (fun t k => XS.icmpNo X25.here hx rfl (hb hby at_120) rfl (teq hc120_26).2 k) ?_
  refine Go.on (B := T25.setTop (mkF m 125 #[.val (.int p1), .val (.int p2), .val (.int p3), .val (.int p4), .val (.int v2_1), .val (.int v6_2), .val (.int v10_3), .val (.ref b4), .val (.ref b5), .val (.ref b9), .val (.ref b13), .val (.ref b17), .val (.int v95_20), .val (.int v103_22), .val (.int v111_24)] [(.int v103_22)])) (fun t k => XS.iload X25.here hx rfl (hb hby at_123) rfl k) ?_
  refine Go.on (B := T25.setTop (mkF m 127 #[.val (.int p1), .val (.int p2), .val (.int p3), .val (.int p4), .val (.int v2_1), .val (.int v6_2), .val (.int v10_3), .val (.ref b4), .val (.ref b5), .val (.ref b9), .val (.ref b13), .val (.ref b17), .val (.int v95_20), .val (.int v103_22), .val (.int v111_24)] [(.int v6_2), (.int v103_22)])) (fun t k => XS.iload X25.here hx rfl (hb hby at_125) rfl k) ?_
  obtain ⟨_, _, ⟨T27, L27, k27, n27⟩, -, X27, ⟨Lc27, hQ27, l27, y27, z27⟩, st27⟩ := Jvm.LawKit.callS X25 hx (y := (⟨"com/example/stricture/stricture/csv/CsvRecordIsQuotedPinLaw", "odd", "(B)Z"⟩ : MethodName)) hown (mvT hZ (hw _ (List.mem_of_getElem? (i := 26) rfl))) (mvT hZ (hw _ (List.mem_of_getElem? (i := 27) rfl))) (mvT hZ (hw _ (List.mem_of_getElem? (i := 28) rfl))) (mvT hZ (hw _ (List.mem_of_getElem? (i := 29) rfl))) (by decide) (backOf (W := 1) (rod l Z a0 hw [] v6_2 T18.heap n0 Zs48) hZ (hw _ (List.mem_of_getElem? (i := 29) rfl)) (hw _ (List.mem_of_getElem? (i := 28) rfl)) (by decide) (by decide)) (g := (mkF m 127 #[.val (.int p1), .val (.int p2), .val (.int p3), .val (.int p4), .val (.int v2_1), .val (.int v6_2), .val (.int v10_3), .val (.ref b4), .val (.ref b5), .val (.ref b9), .val (.ref b13), .val (.ref b17), .val (.int v95_20), .val (.int v103_22), .val (.int v111_24)] [(.int v6_2), (.int v103_22)])) rfl (by rw [hml]; rfl) (argsL := [(.int v6_2)]) (rest := [(.int v103_22)]) (lenOf pd_2 rfl) rfl (by show 2 * 0 + _ ≤ _; exact Nat.le_of_eq rfl) (hb hby at_127) (fun _ _ => ⟨rfl, e25q, (by decide : 5 + 0 ≤ _), (by decide : 14 + 0 ≤ _)⟩)
  dsimp only [Pt.U, Pt.locs, Pt.cells, Pt.slots] at X27 l27 y27 z27 st27 hQ27
  subst l27 y27 z27
  obtain ⟨rfl, N27q, e27q⟩ := hQ27
  have N27 := Fr.app N25 N27q
  refine Go.on (B := T27.setTop (mkF m 130 #[.val (.int p1), .val (.int p2), .val (.int p3), .val (.int p4), .val (.int v2_1), .val (.int v6_2), .val (.int v10_3), .val (.ref b4), .val (.ref b5), .val (.ref b9), .val (.ref b13), .val (.ref b17), .val (.int v95_20), .val (.int v103_22), .val (.int v111_24)] [(.int (if (v6_2 % (2 : Int32)) = (0 : Int32) then (0 : Int32) else (1 : Int32))), (.int v103_22)])) (fun t k => st27 _ k) ?_
  have hc130_28 : v103_22 = (if (v6_2 % (2 : Int32)) = (0 : Int32) then (0 : Int32) else (1 : Int32)) := by
    rw [← hv103_22]
    exact own_odd p2 v6_2 hv6_2
  refine Go.on (B := T27.setTop (mkF m 133 #[.val (.int p1), .val (.int p2), .val (.int p3), .val (.int p4), .val (.int v2_1), .val (.int v6_2), .val (.int v10_3), .val (.ref b4), .val (.ref b5), .val (.ref b9), .val (.ref b13), .val (.ref b17), .val (.int v95_20), .val (.int v103_22), .val (.int v111_24)] [])) (fun t k => XS.icmpNo X27.here hx rfl (hb hby at_130) rfl (teq hc130_28).2 k) ?_
  refine Go.on (B := T27.setTop (mkF m 135 #[.val (.int p1), .val (.int p2), .val (.int p3), .val (.int p4), .val (.int v2_1), .val (.int v6_2), .val (.int v10_3), .val (.ref b4), .val (.ref b5), .val (.ref b9), .val (.ref b13), .val (.ref b17), .val (.int v95_20), .val (.int v103_22), .val (.int v111_24)] [(.int v111_24)])) (fun t k => XS.iload X27.here hx rfl (hb hby at_133) rfl k) ?_
  refine Go.on (B := T27.setTop (mkF m 137 #[.val (.int p1), .val (.int p2), .val (.int p3), .val (.int p4), .val (.int v2_1), .val (.int v6_2), .val (.int v10_3), .val (.ref b4), .val (.ref b5), .val (.ref b9), .val (.ref b13), .val (.ref b17), .val (.int v95_20), .val (.int v103_22), .val (.int v111_24)] [(.int v10_3), (.int v111_24)])) (fun t k => XS.iload X27.here hx rfl (hb hby at_135) rfl k) ?_
  obtain ⟨_, _, ⟨T29, L29, k29, n29⟩, -, X29, ⟨Lc29, hQ29, l29, y29, z29⟩, st29⟩ := Jvm.LawKit.callS X27 hx (y := (⟨"com/example/stricture/stricture/csv/CsvRecordIsQuotedPinLaw", "odd", "(B)Z"⟩ : MethodName)) hown (mvT hZ (hw _ (List.mem_of_getElem? (i := 26) rfl))) (mvT hZ (hw _ (List.mem_of_getElem? (i := 27) rfl))) (mvT hZ (hw _ (List.mem_of_getElem? (i := 28) rfl))) (mvT hZ (hw _ (List.mem_of_getElem? (i := 29) rfl))) (by decide) (backOf (W := 1) (rod l Z a0 hw [] v10_3 T18.heap n0 Zs48) hZ (hw _ (List.mem_of_getElem? (i := 29) rfl)) (hw _ (List.mem_of_getElem? (i := 28) rfl)) (by decide) (by decide)) (g := (mkF m 137 #[.val (.int p1), .val (.int p2), .val (.int p3), .val (.int p4), .val (.int v2_1), .val (.int v6_2), .val (.int v10_3), .val (.ref b4), .val (.ref b5), .val (.ref b9), .val (.ref b13), .val (.ref b17), .val (.int v95_20), .val (.int v103_22), .val (.int v111_24)] [(.int v10_3), (.int v111_24)])) rfl (by rw [hml]; rfl) (argsL := [(.int v10_3)]) (rest := [(.int v111_24)]) (lenOf pd_2 rfl) rfl (by show 2 * 0 + _ ≤ _; exact Nat.le_of_eq rfl) (hb hby at_137) (fun _ _ => ⟨rfl, e27q, (by decide : 5 + 0 ≤ _), (by decide : 14 + 0 ≤ _)⟩)
  dsimp only [Pt.U, Pt.locs, Pt.cells, Pt.slots] at X29 l29 y29 z29 st29 hQ29
  subst l29 y29 z29
  obtain ⟨rfl, N29q, e29q⟩ := hQ29
  have N29 := Fr.app N27 N29q
  refine Go.on (B := T29.setTop (mkF m 140 #[.val (.int p1), .val (.int p2), .val (.int p3), .val (.int p4), .val (.int v2_1), .val (.int v6_2), .val (.int v10_3), .val (.ref b4), .val (.ref b5), .val (.ref b9), .val (.ref b13), .val (.ref b17), .val (.int v95_20), .val (.int v103_22), .val (.int v111_24)] [(.int (if (v10_3 % (2 : Int32)) = (0 : Int32) then (0 : Int32) else (1 : Int32))), (.int v111_24)])) (fun t k => st29 _ k) ?_
  have hc140_30 : v111_24 = (if (v10_3 % (2 : Int32)) = (0 : Int32) then (0 : Int32) else (1 : Int32)) := by
    rw [← hv111_24]
    exact own_odd p3 v10_3 hv10_3
  refine Go.on (B := T29.setTop (mkF m 143 #[.val (.int p1), .val (.int p2), .val (.int p3), .val (.int p4), .val (.int v2_1), .val (.int v6_2), .val (.int v10_3), .val (.ref b4), .val (.ref b5), .val (.ref b9), .val (.ref b13), .val (.ref b17), .val (.int v95_20), .val (.int v103_22), .val (.int v111_24)] [])) (fun t k => XS.icmpNo X29.here hx rfl (hb hby at_140) rfl (teq hc140_30).2 k) ?_
  refine Go.on (B := T29.setTop (mkF m 144 #[.val (.int p1), .val (.int p2), .val (.int p3), .val (.int p4), .val (.int v2_1), .val (.int v6_2), .val (.int v10_3), .val (.ref b4), .val (.ref b5), .val (.ref b9), .val (.ref b13), .val (.ref b17), .val (.int v95_20), .val (.int v103_22), .val (.int v111_24)] [(.int (1 : Int32))])) (fun t k => XS.iconst X29.here hx rfl (hb hby at_143) k) ?_
  refine Go.on (B := T29.setTop (mkF m 148 #[.val (.int p1), .val (.int p2), .val (.int p3), .val (.int p4), .val (.int v2_1), .val (.int v6_2), .val (.int v10_3), .val (.ref b4), .val (.ref b5), .val (.ref b9), .val (.ref b13), .val (.ref b17), .val (.int v95_20), .val (.int v103_22), .val (.int v111_24)] [(.int (1 : Int32))])) (fun t k => XS.goto X29.here hx rfl (pc0 := 144) (pc' := 148) rfl (hb hby at_144) (by decide) (by decide) k) ?_
  obtain ⟨fs, hr, hrun, hended, hW, hsame⟩ := X29.leave (v := some (.int (1 : Int32))) (fun h => by rw [Bd.returns] at h; cases h)
  refine ⟨_, _, ?_, hrun, hended, _, _, rfl, ?_, ⟨_, rfl⟩, hW, hsame.mono (by decide) (by decide)⟩
  · exact retN X29 hx (t := .boolean) Bd.returns (by simp) (hb hby at_148) hr
  · show Q_rm0 Z p1 p2 p3 p4 h0 n0 _ T29.heap _
    rw [e29q]
    exact ⟨rfl, N29⟩
set_option maxRecDepth 65536 in
set_option maxHeartbeats 40000000 in
theorem comes_1 {Post : Tables → Env → Array Value → State → Outcome → State → Prop} (hpost : ∀ tb e args s v u, (limb_1_1.after args s (.returned v) u = true ∧ limb_1_2.after args s (.returned v) u = true ∧ True) → FrameEnd s (.returned v) u (Jvm.fieldLocs frame_1_writes args s ++ Jvm.arrayLocs frame_1_arrays args s ++ Jvm.staticLocs frame_1_statics s) 24 128 → Post tb e args s (.returned v) u) :
    ArmFor flags0 classFile x code maxLocals ret World_1 tables_1 room_1 Calls_1 rest_1 Pre_1 Post := by
  intro l hfl _ _ p e ha hc hk s m args below hf hA hF happ hP
  obtain ⟨hcalls, hrest, hpre⟩ := hP
  obtain ⟨-, -, -, hnamed, -, -, -, hat⟩ := (Spec.applies_iff hf).mp happ
  obtain ⟨hg, hn⟩ := and_e (Cond.before_iff.mp (show (Jvm.Cond.and given_1 narrow_1).before args s = true from hpre))
  obtain ⟨gc, gr0⟩ := and_e hg
  obtain ⟨ga0, gr1⟩ := and_e gr0
  obtain ⟨ga1, gr2⟩ := and_e gr1
  obtain ⟨ga2, gr3⟩ := and_e gr2
  obtain ⟨w0, w1, w2, w3, rfl⟩ : ∃ w0 w1 w2 w3 : Value, args = #[w0, w1, w2, w3] := by
    have hs : args.size = 4 := by simpa [Cond.value, given_1] using gc
    obtain ⟨L⟩ := args
    match L, hs with
    | [w0, w1, w2, w3], _ => exact ⟨w0, w1, w2, w3, rfl⟩
  have hw := fun d (hd : d ∈ tables_1) => atoms_spec (ws := Jvm.Cond.code x code maxLocals ret :: tables_1) hat d (List.mem_cons_of_mem _ hd)
  have hfit : Fit s := fun {y c} hc i hi => by
    obtain ⟨ha, rfl⟩ := Array.getElem?_eq_some_iff.mp hc
    have q := List.all_eq_true.mp ((Array.all_eq_true_iff_forall_mem.mp hF) _ (Array.getElem_mem ha)) i (List.mem_range.mpr hi)
    simpa [Array.getElem?_eq_getElem hi] using q
  obtain ⟨i0, ei0⟩ := is_v ga0
  obtain rfl : w0 = (.int i0) := Option.some.inj ei0
  obtain ⟨i1, ei1⟩ := is_v ga1
  obtain rfl : w1 = (.int i1) := Option.some.inj ei1
  obtain ⟨i2, ei2⟩ := is_v ga2
  obtain rfl : w2 = (.int i2) := Option.some.inj ei2
  obtain ⟨i3, ei3⟩ := is_v gr3
  obtain rfl : w3 = (.int i3) := Option.some.inj ei3
  obtain ⟨n, o, h1, h2, h3, _, L, rfl, ⟨rfl, N⟩, hq⟩ := rm0 l s _ hw tables_1 i0 i1 i2 i3  s.heap s.heap.size (Nat.le_refl _)  p e ha hc hk s m _ below hf ((Spec.applies_iff_loose hf).mp happ).1 ⟨rfl, State.Warmed39.refl s, rfl⟩ trivial
  refine ⟨n, _, h1, h2, h3, hpost _ _ _ _ _ _ ⟨Cond.after_iff.mpr rfl, Cond.after_iff.mpr (eq_i res_at (Term.int_eval (1)) rfl), trivial⟩ ⟨hq.1, hq.2.1, (hq.2.2.sift fun y hy => Or.inr (N y hy)).mono (by decide) (by decide)⟩⟩
theorem main_1_1 : Claimed_1_1 := comes_1 fun _ _ _ _ _ _ h hF => ⟨h.1, hF⟩
theorem main_1_2 : Claimed_1_2 := comes_1 fun _ _ _ _ _ _ h hF => ⟨h.2.1, hF⟩
end Jvm.Pilot.@@N@@
namespace Jvm.Pilot.@@N@@
open Jvm Jvm.ClassFile Sem Op Lib Jvm.Free Jvm.Stand Jvm.Pilot.@@N@@.Jvm.D
/-! MADE BY PROGRAM (witnessworld.py) out of the Statement's table words and the real class files: 9 classes; the members and pool entries that the words name. The judged class is class 1, her method 2. -/
namespace start1
open Jvm.ClassFile
def u (s : String) : CpInfo := .utf8 (stringToUtf16 s)
/-- a pool by its gaps: so many unusable entries, then the entry; so many at the end -/
def gap : Nat → List CpInfo → List CpInfo
  | 0, r => r
  | n + 1, r => .unusable :: gap n r
def poolList (es : List (Nat × CpInfo)) (last : Nat) : List CpInfo := es.foldr (fun e r => gap e.1 (e.2 :: r)) (gap last [])
def pool (es : List (Nat × CpInfo)) (last : Nat) : Array CpInfo := ⟨poolList es last⟩
def fileOf (pool : Array CpInfo) (this : Nat) (attrs : Array Attribute := #[]) (ms : Array MethodInfo := #[]) (fl : Nat := 33) (sup : Nat := 0) (ifs : Array Nat := #[]) (fds : Array FieldInfo := #[]) : ClassFile where
  minorVersion := 0
  majorVersion := 65
  constantPool := pool
  accessFlags := fl
  thisClass := this
  superClass := sup
  interfaces := ifs
  fields := fds
  methods := ms
  attributes := attrs
def plain (name : String) (sup : Option ClassId) : Class where
  name := name
  kind := .ordinary
  loader := none
  accessFlags := 33
  super := sup
  interfaces := #[]
  cf := none
  fields := #[]
  methods := #[]
  instanceTypes := #[]
  staticTypes := #[]
  resolved := #[]
  callSites := []
  init := .initialized
  statics := none
  mirror := none

def pool0 : Array CpInfo := pool [(5, u "<init>"), (0, u "()V"), (1, .class_ 10), (1, u "java/lang/Object")] 113

def k0c0 : Code := { maxStack := 0, maxLocals := 1, code := object_method_1_code, exceptionTable := #[], attributes := #[] }
def k0m0 : Method := { name := "<init>", desc := "()V", sig := { parameters := [], returnType := none }, accessFlags := 1, code := some k0c0 }
/-- java/lang/Object -/
def k0 : Class := { plain "java/lang/Object" none with
  accessFlags := 33
  interfaces := #[]
  cf := some (fileOf pool0 8 #[] #[{ accessFlags := 1, nameIndex := 5, descriptorIndex := 6, attributes := #[] }] 33 0 #[] #[])
  fields := #[]
  methods := #[k0m0]
  instanceTypes := #[]
  staticTypes := #[]
  resolved := Array.replicate 124 none
  statics := none }

def pool1 : Array CpInfo := pool [(2, .class_ 4), (1, u "java/lang/Object"), (0, u "<init>"), (0, u "()V"), (0, .class_ 8), (0, u "com/example/stricture/stricture/csv/CsvRecord"), (0, .methodref 7 10), (0, .nameAndType 5 11), (0, u "(I[B[I[I[B)V"), (0, .methodref 7 13), (0, .nameAndType 14 15), (0, u "isQuoted"), (0, u "(I)Z"), (0, .methodref 17 18), (0, .class_ 19), (0, .nameAndType 20 21), (0, u "com/example/stricture/stricture/csv/CsvRecordIsQuotedPinLaw"), (0, u "odd"), (0, u "(B)Z"), (3, u "law"), (0, u "(IIII)Z")] 6

def k1m0 : Method := { name := "<init>", desc := "()V", sig := { parameters := [], returnType := none }, accessFlags := 1, code := none }
def k1c1 : Code := { maxStack := 2, maxLocals := 2, code := method_2_code, exceptionTable := #[], attributes := #[] }
def k1m1 : Method := { name := "odd", desc := "(B)Z", sig := { parameters := [.byte], returnType := some .boolean }, accessFlags := 10, code := some k1c1 }
def k1c2 : Code := { maxStack := 7, maxLocals := 15, code := code, exceptionTable := #[], attributes := #[] }
def k1m2 : Method := { name := "law", desc := "(IIII)Z", sig := { parameters := [.int, .int, .int, .int], returnType := some .boolean }, accessFlags := 9, code := some k1c2 }
/-- com/example/stricture/stricture/csv/CsvRecordIsQuotedPinLaw -/
def k1 : Class := { plain "com/example/stricture/stricture/csv/CsvRecordIsQuotedPinLaw" (some 0) with
  accessFlags := 49
  interfaces := #[]
  cf := some (fileOf pool1 17 #[] #[{ accessFlags := 1, nameIndex := 5, descriptorIndex := 6, attributes := #[] }, { accessFlags := 10, nameIndex := 20, descriptorIndex := 21, attributes := #[] }, { accessFlags := 9, nameIndex := 25, descriptorIndex := 26, attributes := #[] }] 49 2 #[] #[])
  fields := #[]
  methods := #[k1m0, k1m1, k1m2]
  instanceTypes := #[]
  staticTypes := #[]
  resolved := Array.replicate 33 none
  statics := none }

def pool2 : Array CpInfo := pool [(1, .methodref 2 3), (0, .class_ 4), (0, .nameAndType 5 6), (0, u "java/lang/Object"), (0, u "<init>"), (0, u "()V"), (0, .fieldref 8 9), (0, .class_ 10), (0, .nameAndType 11 12), (0, u "com/example/stricture/stricture/csv/CsvRecord"), (0, u "line"), (0, u "I"), (0, .fieldref 8 14), (0, .nameAndType 15 16), (0, u "bytes"), (0, u "[B"), (0, .fieldref 8 18), (0, .nameAndType 19 20), (0, u "starts"), (0, u "[I"), (0, .fieldref 8 22), (0, .nameAndType 23 20), (0, u "ends"), (0, .fieldref 8 25), (0, .nameAndType 26 16), (0, u "flags"), (18, u "QUOTED"), (0, u "B"), (2, u "ESCAPED"), (1, u "WIDE"), (1, u "(I[B[I[I[B)V"), (6, u "isQuoted"), (0, u "(I)Z")] 6

def k2c0 : Code := { maxStack := 2, maxLocals := 6, code := prog_20_method_1_code, exceptionTable := #[], attributes := #[] }
def k2m0 : Method := { name := "<init>", desc := "(I[B[I[I[B)V", sig := { parameters := [.int, (.array .byte), (.array .int), (.array .int), (.array .byte)], returnType := none }, accessFlags := 0, code := some k2c0 }
def k2c1 : Code := { maxStack := 2, maxLocals := 2, code := prog_20_method_5_code, exceptionTable := #[], attributes := #[] }
def k2m1 : Method := { name := "isQuoted", desc := "(I)Z", sig := { parameters := [.int], returnType := some .boolean }, accessFlags := 1, code := some k2c1 }
/-- com/example/stricture/stricture/csv/CsvRecord -/
def k2 : Class := { plain "com/example/stricture/stricture/csv/CsvRecord" (some 0) with
  accessFlags := 49
  interfaces := #[]
  cf := some (fileOf pool2 8 #[] #[{ accessFlags := 0, nameIndex := 5, descriptorIndex := 53, attributes := #[] }, { accessFlags := 1, nameIndex := 60, descriptorIndex := 61, attributes := #[] }] 49 2 #[] #[{ accessFlags := 24, nameIndex := 45, descriptorIndex := 46, attributes := #[] }, { accessFlags := 24, nameIndex := 49, descriptorIndex := 46, attributes := #[] }, { accessFlags := 24, nameIndex := 51, descriptorIndex := 46, attributes := #[] }, { accessFlags := 18, nameIndex := 11, descriptorIndex := 12, attributes := #[] }, { accessFlags := 18, nameIndex := 15, descriptorIndex := 16, attributes := #[] }, { accessFlags := 18, nameIndex := 19, descriptorIndex := 20, attributes := #[] }, { accessFlags := 18, nameIndex := 23, descriptorIndex := 20, attributes := #[] }, { accessFlags := 18, nameIndex := 26, descriptorIndex := 16, attributes := #[] }])
  fields := #[{ name := "QUOTED", type := .byte, accessFlags := 24, slot := 0, constantValue := 0 }, { name := "ESCAPED", type := .byte, accessFlags := 24, slot := 1, constantValue := 0 }, { name := "WIDE", type := .byte, accessFlags := 24, slot := 2, constantValue := 0 }, { name := "line", type := .int, accessFlags := 18, slot := 0, constantValue := 0 }, { name := "bytes", type := (.array .byte), accessFlags := 18, slot := 1, constantValue := 0 }, { name := "starts", type := (.array .int), accessFlags := 18, slot := 2, constantValue := 0 }, { name := "ends", type := (.array .int), accessFlags := 18, slot := 3, constantValue := 0 }, { name := "flags", type := (.array .byte), accessFlags := 18, slot := 4, constantValue := 0 }]
  methods := #[k2m0, k2m1]
  instanceTypes := #[.int, (.array .byte), (.array .int), (.array .int), (.array .byte)]
  staticTypes := #[.byte, .byte, .byte]
  resolved := Array.replicate 68 none
  statics := none }

def pool3 : Array CpInfo := pool [(1, u "java/lang/Cloneable"), (0, .class_ 1), (0, u "java/lang/Object"), (0, .class_ 3)] 3

/-- java/lang/Cloneable -/
def k3 : Class := { plain "java/lang/Cloneable" (some 0) with
  accessFlags := 1537
  interfaces := #[]
  cf := some (fileOf pool3 2 #[] #[] 1537 4 #[] #[])
  fields := #[]
  methods := #[]
  instanceTypes := #[]
  staticTypes := #[]
  resolved := Array.replicate 8 none
  statics := none }

def pool4 : Array CpInfo := pool [(1, u "java/io/Serializable"), (0, .class_ 1), (0, u "java/lang/Object"), (0, .class_ 3)] 3

/-- java/io/Serializable -/
def k4 : Class := { plain "java/io/Serializable" (some 0) with
  accessFlags := 1537
  interfaces := #[]
  cf := some (fileOf pool4 2 #[] #[] 1537 4 #[] #[])
  fields := #[]
  methods := #[]
  instanceTypes := #[]
  staticTypes := #[]
  resolved := Array.replicate 8 none
  statics := none }

/-- the primitive byte -/
def k5 : Class := { plain "byte" none with kind := .primitive 'B', accessFlags := 0x411 }
/-- [B -/
def k6 : Class := { plain "[B" (some 0) with kind := .array 5 .byte, interfaces := #[3, 4], accessFlags := 1041 }

/-- the primitive int -/
def k7 : Class := { plain "int" none with kind := .primitive 'I', accessFlags := 0x411 }
/-- [I -/
def k8 : Class := { plain "[I" (some 0) with kind := .array 7 .int, interfaces := #[3, 4], accessFlags := 1041 }

def heap : Heap := #[]
def classes : Array Class := #[k0, k1, k2, k3, k4, k5, k6, k7, k8]
def interned : List (Array UInt16 × Addr) := []
def slotsUsed : Nat := 0
def theMethod : MethodId := ⟨1, 2⟩
def args0 : Array Value := #[.int 5, .int 4, .int 3, .int 1]
def aboutOver (below : List Frame) : State where
  vm := { classes := classes, interned := interned.toArray }
  heap := heap
  slotsUsed := slotsUsed
  threads := #[{ frames := .invoking theMethod args0 :: below }]
def below0 : List Frame := [.native { method := ⟨0, 0⟩, args := #[] }]
def about1 : State := aboutOver below0
def p0 : Program := .bare "" "" ""
def e0 : Env := launch0.env 0 0 0
theorem w_frames : about1.frames = Frame.invoking theMethod args0 :: below0 := rfl
set_option maxRecDepth 65536 in
theorem w_args : argsFit about1.vm theMethod args0 = true := by decide +kernel
set_option maxRecDepth 65536 in
theorem w_heap : heapFits about1 = true := by decide +kernel
set_option maxRecDepth 65536 in
theorem w_runnable : about1.curStatus? = some .runnable := by decide +kernel
set_option maxRecDepth 65536 in
theorem w_alone : about1.alone = true := by decide +kernel
set_option maxRecDepth 65536 in
theorem w_named : about1.methodNamed? x = some theMethod := by decide +kernel
set_option maxRecDepth 65536 in
theorem w_hears : about1.hears theMethod below0 = true := by decide +kernel
set_option maxRecDepth 65536 in
theorem w_ripe : about1.ripe theMethod args0 below0 = true := by decide +kernel
theorem w_running : about1.status = .running := rfl
set_option maxRecDepth 65536 in
theorem w_room : about1.hasRoom e0.platform room_1 = true :=
  launch0.hasRoom_least _ room_1 (by decide +kernel) (by decide +kernel) (by decide +kernel) (by decide +kernel) (by decide +kernel) (by decide +kernel)
theorem allAtoms_all (ts : List Jvm.Cond) (a : Array Jvm.Value) (st : Jvm.State) : (allAtoms ts).before a st = ts.all (fun c => c.before a st) := by
  induction ts with
  | nil => rfl
  | cons c t ih =>
    show (Jvm.Cond.and c (allAtoms t)).before a st = _
    rw [Jvm.Cond.before_and, ih, List.all_cons]
def words1 : List Jvm.Cond := Jvm.Cond.code x code maxLocals ret :: tables_1
/-- a 'code' word, met by the world's own term for the bytes: nothing is compared byte by byte -/
theorem code_word {y : MethodName} {bytes : ByteArray} {mx : Nat} {rt : Option FieldType} {a : Array Value} {s : State} {m : MethodId} {meth : Method} {c : Code} (h1 : s.methodNamed? y = some m) (h2 : s.vm.method? m = some meth) (h3 : meth.code = some c) (h4 : c.code = bytes)
    (h5 : (c.maxLocals == mx && c.exceptionTable.isEmpty && decide (c.maxStack ≤ mostOperands) && decide (meth.sig.returnType = rt) && !meth.locks && decide (parseMethodDescriptor y.desc = some meth.sig)) = true) : (Jvm.Cond.code y bytes mx rt).before a s = true := by
  simp only [Bool.and_eq_true, beq_iff_eq, Bool.not_eq_true', decide_eq_true_eq] at h5
  obtain ⟨⟨⟨⟨⟨g1, g2⟩, g3⟩, g4⟩, g5⟩, g6⟩ := h5
  simp [Cond.before, Cond.holds, Cond.value, h1, h2, h3, h4, g1, g2, g3, g4, g5, g6]
def isCode : Jvm.Cond → Bool
  | .code _ _ _ _ => true
  | _ => false
theorem all_split {L : List Jvm.Cond} {P : Jvm.Cond → Bool} (h1 : L.all (fun c => isCode c || P c) = true) (h2 : ∀ c ∈ L.filter isCode, P c = true) : L.all P = true := by
  refine List.all_eq_true.mpr fun c hc => ?_
  have h := List.all_eq_true.mp h1 c hc
  rcases Bool.eq_false_or_eq_true (isCode c) with hi | hi
  · exact h2 c (List.mem_filter.mpr ⟨hc, hi⟩)
  · simpa [hi] using h
set_option maxRecDepth 65536 in
theorem w_c0 : (Jvm.Cond.code x code maxLocals ret).before args0 about1 = true := code_word (m := ⟨1, 2⟩) (meth := k1m2) (c := k1c2) (by decide +kernel) rfl rfl rfl (by decide +kernel)
set_option maxRecDepth 65536 in
theorem w_c1 : (Jvm.Cond.code ({ cls := "com/example/stricture/stricture/csv/CsvRecord", name := "<init>", desc := "(I[B[I[I[B)V" } : Jvm.MethodName) prog_20_method_1_code (6 : Nat) (Option.none : Option Jvm.ClassFile.FieldType)).before args0 about1 = true := code_word (m := ⟨2, 0⟩) (meth := k2m0) (c := k2c0) (by decide +kernel) rfl rfl rfl (by decide +kernel)
set_option maxRecDepth 65536 in
theorem w_c2 : (Jvm.Cond.code ({ cls := "java/lang/Object", name := "<init>", desc := "()V" } : Jvm.MethodName) object_method_1_code (1 : Nat) (Option.none : Option Jvm.ClassFile.FieldType)).before args0 about1 = true := code_word (m := ⟨0, 0⟩) (meth := k0m0) (c := k0c0) (by decide +kernel) rfl rfl rfl (by decide +kernel)
set_option maxRecDepth 65536 in
theorem w_c3 : (Jvm.Cond.code ({ cls := "com/example/stricture/stricture/csv/CsvRecord", name := "isQuoted", desc := "(I)Z" } : Jvm.MethodName) prog_20_method_5_code (2 : Nat) (Option.some Jvm.ClassFile.FieldType.boolean)).before args0 about1 = true := code_word (m := ⟨2, 1⟩) (meth := k2m1) (c := k2c1) (by decide +kernel) rfl rfl rfl (by decide +kernel)
set_option maxRecDepth 65536 in
theorem w_c4 : (Jvm.Cond.code ({ cls := "com/example/stricture/stricture/csv/CsvRecordIsQuotedPinLaw", name := "odd", desc := "(B)Z" } : Jvm.MethodName) method_2_code (2 : Nat) (Option.some Jvm.ClassFile.FieldType.boolean)).before args0 about1 = true := code_word (m := ⟨1, 1⟩) (meth := k1m1) (c := k1c1) (by decide +kernel) rfl rfl rfl (by decide +kernel)
def codes1 : List Jvm.Cond := [Jvm.Cond.code x code maxLocals ret, Jvm.Cond.code ({ cls := "com/example/stricture/stricture/csv/CsvRecord", name := "<init>", desc := "(I[B[I[I[B)V" } : Jvm.MethodName) prog_20_method_1_code (6 : Nat) (Option.none : Option Jvm.ClassFile.FieldType), Jvm.Cond.code ({ cls := "java/lang/Object", name := "<init>", desc := "()V" } : Jvm.MethodName) object_method_1_code (1 : Nat) (Option.none : Option Jvm.ClassFile.FieldType), Jvm.Cond.code ({ cls := "com/example/stricture/stricture/csv/CsvRecord", name := "isQuoted", desc := "(I)Z" } : Jvm.MethodName) prog_20_method_5_code (2 : Nat) (Option.some Jvm.ClassFile.FieldType.boolean), Jvm.Cond.code ({ cls := "com/example/stricture/stricture/csv/CsvRecordIsQuotedPinLaw", name := "odd", desc := "(B)Z" } : Jvm.MethodName) method_2_code (2 : Nat) (Option.some Jvm.ClassFile.FieldType.boolean)]
set_option maxRecDepth 65536 in
theorem codes_eq : words1.filter isCode = codes1 := rfl
theorem w_codes : ∀ c ∈ words1.filter isCode, c.before args0 about1 = true := by
  rw [codes_eq]
  intro c hc
  simp only [codes1, List.mem_cons, List.not_mem_nil, or_false] at hc
  rcases hc with rfl | rfl | rfl | rfl | rfl
  · exact w_c0
  · exact w_c1
  · exact w_c2
  · exact w_c3
  · exact w_c4
set_option maxRecDepth 65536 in
theorem w_t1 : (words1.take 24).all (fun c => isCode c || c.before args0 about1) = true := by decide +kernel
set_option maxRecDepth 65536 in
theorem w_t2 : (words1.drop 24).all (fun c => isCode c || c.before args0 about1) = true := by decide +kernel
theorem w_tables : (allAtoms (Jvm.Cond.code x code maxLocals ret :: tables_1)).before args0 about1 = true := by
  rw [allAtoms_all]
  show words1.all (fun c => c.before args0 about1) = true
  refine all_split ?_ w_codes
  rw [← List.take_append_drop 24 words1, List.all_append, w_t1, w_t2]
  rfl
set_option maxRecDepth 65536 in
theorem w_case : (Jvm.Cond.and given_1 narrow_1).before args0 about1 = true := by decide +kernel
theorem w_applies : (headSpec (Jvm.Cond.code x code maxLocals ret :: tables_1) room_1).applies x e0.platform about1 = true :=
  (Spec.applies_iff w_frames).mpr ⟨w_running, w_runnable, w_alone, w_named, w_hears, w_ripe, w_room, w_tables⟩
theorem atStart : AtStart classFile x code maxLocals ret World_1 tables_1 room_1 Calls_1 rest_1 Pre_1 launch0 p0 e0 about1 theMethod args0 below0 :=
  ⟨lists_1, trivial, launch0.admits_env _ _ _, launch0.least_env, fairChoices_fair.cas, fairChoices_fair.clock, w_frames, w_args, w_heap, w_applies, trivial, trivial, w_case⟩
end start1
theorem witness_1 : WitnessClaimed_1 := ⟨start1.p0, start1.e0, start1.about1, start1.theMethod, start1.args0, start1.below0, start1.atStart⟩
end Jvm.Pilot.@@N@@
