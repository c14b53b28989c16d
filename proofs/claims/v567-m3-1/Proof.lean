import JvmDerived
import JvmDerived.Pilot.@@N@@Statement
import JvmDerived.Pilot.@@N@@Code
set_option linter.unusedVariables false
set_option linter.unusedSimpArgs false
namespace Jvm.RoadKit
open Sem ClassFile Op Lib Jvm.Stand Jvm.Free Jvm.LawKit
section New
variable {p : Program} {l : Launch} {e : Env} {R : Room} {s : State} {m : MethodId} {args : Array Value} {below : List Frame} {meth : Method} {c : Code} {T : State} {locs : List Loc} {cells slots : Nat}
theorem retI (X : Stand p l e R s m args below meth c T locs cells slots) (hx : p.tables.exec = Jvm.exec) {pc : Nat} {Ls : Array Slot} {z : Int32} {rest : List Value} (hret : meth.sig.returnType = some .int) (hd : decode c.code pc = .ok (.ireturn, 1)) {fs : List Frame}
    (hl : ∀ (f : JFrame) (acts : List Action), f.method = m → f.locked = none → f.entered = [] → (doReturn e (T.setTop f) acts (some (.int z))).1 = T.setFrames fs) : Steps p.tables e below (T.setTop (mkF m pc Ls (.int z :: rest))) (T.setFrames fs) := by
  have hm' : T.vm.method? m = some meth := X.method'
  have hn : narrow .int (.int z) = .int z := rfl
  show Steps p.tables e below (T.setTop { method := m, pc := pc, locals := Ls, stack := _ :: rest, locked := none }) _
  jvm_step X.here [X.here.top, hx, hd, hm', hret, hn]
  first | (intro acts; rw [hl _ acts rfl rfl rfl]) | rw [hl _ _ rfl rfl rfl]
  exact Steps.refl _
end New
/-- the run comes, from the state U, to an end at which Q holds -/
def Go (tb : Tables) (e : Env) (below : List Frame) (Q : Outcome → State → Prop) (U : State) : Prop := ∃ s₂ o, Steps tb e below U s₂ ∧ s₂.status = .running ∧ Ended s₂ below o ∧ Q o s₂
theorem Go.on {tb : Tables} {e : Env} {below : List Frame} {Q : Outcome → State → Prop} {A B : State} (h : ∀ t, Steps tb e below B t → Steps tb e below A t) (k : Go tb e below Q B) : Go tb e below Q A := by
  obtain ⟨s₂, o, h1, h2⟩ := k
  exact ⟨s₂, o, h _ h1, h2⟩
end Jvm.RoadKit
namespace Jvm.Pilot.@@N@@
open Jvm Jvm.ClassFile Sem Op Lib Jvm.Free Jvm.Stand Jvm.LawKit Jvm.RoadKit Bundle Jvm.Pilot.@@N@@.Jvm.D
theorem d1_0 : decode jdk_29_method_70_code 0 = .ok (.lload_n 0, 1) := by decide +kernel
theorem d1_1 : decode jdk_29_method_70_code 1 = .ok (.lload_n 2, 1) := by decide +kernel
theorem d1_2 : decode jdk_29_method_70_code 2 = .ok (.lcmp, 1) := by decide +kernel
theorem d1_3 : decode jdk_29_method_70_code 3 = .ok (.ifCond .gt 7, 3) := by decide +kernel
theorem d1_6 : decode jdk_29_method_70_code 6 = .ok (.lload_n 0, 1) := by decide +kernel
theorem d1_7 : decode jdk_29_method_70_code 7 = .ok (.goto 4, 3) := by decide +kernel
theorem d1_10 : decode jdk_29_method_70_code 10 = .ok (.lload_n 2, 1) := by decide +kernel
theorem d1_11 : decode jdk_29_method_70_code 11 = .ok (.lreturn, 1) := by decide +kernel
theorem ef_rmin (m : MethodId) (q1 : Int64) (q2 : Int64) : entryFrame m #[(.long q1), (.long q2)] 4 = mkF m 0 #[.val (.long q1), .second, .val (.long q2), .second] [] := by first | (simp [entryFrame, mkF, argsToLocals, Value.category]; done) | rfl
def Q_rmin (Z : State) (q1 : Int64) (q2 : Int64) (h0 : Heap) (n0 : Nat) (v : Option Value) (h : Heap) (L : List Loc) : Prop := v = some (.long (if q2 < q1 then q2 else q1)) ∧ Fr n0 L ∧ h = h0
set_option maxRecDepth 65536 in
set_option maxHeartbeats 40000000 in
theorem rmin (l : Launch) (Z : State) (a0 : Array Value) (hw : ∀ d ∈ tables_1, d.before a0 Z = true) (ws : List Jvm.Cond) (q1 : Int64) (q2 : Int64) (h0 : Heap) (n0 : Nat) (Z0 : n0 ≤ h0.size)  :
    MetFree l (⟨"java/lang/Math", "min", "(JJ)J"⟩ : MethodName) (head1 (Jvm.Cond.code (⟨"java/lang/Math", "min", "(JJ)J"⟩ : MethodName) jdk_29_method_70_code 4 (some .long) :: ws) ({ frames := 0, cells := 0, slots := 0, locals := 0 } : Room)) (fun a U => a = #[(.long q1), (.long q2)] ∧ Z.Warmed39 U.vm ∧ U.heap = h0) (fun _ _ _ _ _ => True) (fun _ U o U' => ∃ v L, o = .returned v ∧ Q_rmin Z q1 q2 h0 n0 v U'.heap L ∧ FrameEnd U o U' L ({ frames := 0, cells := 0, slots := 0, locals := 0 } : Room).cells ({ frames := 0, cells := 0, slots := 0, locals := 0 } : Room).slots) := by
  refine MetFree.of_bodySF (Jvm.Free.JP.mathPlain rfl (by decide +kernel)) hisR ?_
  intro p e s m args below meth c s₁ Bd hml0 hP hK
  obtain ⟨rfl, hZ, hh⟩ := hP
  have hx := Bd.exec
  have hby := Bd.bytes
  have hml : c.maxLocals = 4 := hml0
  have hown : s.vm.findClass "java/lang/Math" = some m.cls := findClass_of_methodNamed Bd.named
  have hnm := (name_of_methodNamed Bd.named Bd.method).1
  have X0 : Stand p l e ({ frames := 0, cells := 0, slots := 0, locals := 0 } : Room) s m #[(.long q1), (.long q2)] below meth c s₁ [] 0 0 := Stand.of_body Bd
  have e0 : s₁.heap = h0 := by rw [← hh, Bd.state]; rfl
  have N0 := Fr.nil n0
  have pre0 : ∀ t, Steps p.tables e below (s₁.setTop (mkF m 0 #[.val (.long q1), .second, .val (.long q2), .second] [])) t → Steps p.tables e below (s₁.setTop (entryFrame m #[(.long q1), (.long q2)] 4)) t := fun t k => castTop (ef_rmin m q1 q2) k
  change Go p.tables e below (fun o U' => ∃ v L, o = .returned v ∧ Q_rmin Z q1 q2 h0 n0 v U'.heap L ∧ FrameEnd s o U' L ({ frames := 0, cells := 0, slots := 0, locals := 0 } : Room).cells ({ frames := 0, cells := 0, slots := 0, locals := 0 } : Room).slots) (s₁.setTop (entryFrame m #[(.long q1), (.long q2)] 4))
  refine Go.on pre0 ?_
  refine Go.on (B := s₁.setTop (mkF m 1 #[.val (.long q1), .second, .val (.long q2), .second] [(.long q1)])) (fun t k => XS.lloadN X0.here hx rfl (hb hby d1_0) rfl k) ?_
  refine Go.on (B := s₁.setTop (mkF m 2 #[.val (.long q1), .second, .val (.long q2), .second] [(.long q2), (.long q1)])) (fun t k => XS.lloadN X0.here hx rfl (hb hby d1_1) rfl k) ?_
  refine Go.on (B := s₁.setTop (mkF m 3 #[.val (.long q1), .second, .val (.long q2), .second] [(.int (lcmpW q1 q2))])) (fun t k => XS.lcmp X0.here hx rfl (hb hby d1_2) rfl k) ?_
  by_cases hc3_1 : q2 < q1
  · refine Go.on (B := s₁.setTop (mkF m 10 #[.val (.long q1), .second, .val (.long q2), .second] [])) (fun t k => XS.ifYes X0.here hx rfl (pc0 := 3) (pc' := 10) rfl (hb hby d1_3) rfl ((if0 _ _).trans (tlt ((lw_gt _ _).mpr hc3_1)).2.2.1) (by decide) (by decide) k) ?_
    refine Go.on (B := s₁.setTop (mkF m 11 #[.val (.long q1), .second, .val (.long q2), .second] [(.long q2)])) (fun t k => XS.lloadN X0.here hx rfl (hb hby d1_10) rfl k) ?_
    obtain ⟨fs, hr, hrun, hended, hW, hsame⟩ := X0.leave (v := some (.long q2)) (fun h => by rw [Bd.returns] at h; cases h)
    refine ⟨_, _, ?_, hrun, hended, _, _, rfl, ?_, ⟨_, rfl⟩, hW, hsame.mono (by decide) (by decide)⟩
    · exact retOut X0 hx Bd.returns rfl (Or.inr (Or.inl ⟨rfl, rfl, _, rfl⟩)) (hb hby d1_11) hr
    · show Q_rmin Z q1 q2 h0 n0 _ s₁.heap _
      rw [e0]
      exact ⟨by simp [hc3_1], N0, rfl⟩
  · refine Go.on (B := s₁.setTop (mkF m 6 #[.val (.long q1), .second, .val (.long q2), .second] [])) (fun t k => XS.ifNo X0.here hx rfl (hb hby d1_3) rfl ((if0 _ _).trans (flt (mt (lw_gt _ _).mp hc3_1)).2.2.1) k) ?_
    refine Go.on (B := s₁.setTop (mkF m 7 #[.val (.long q1), .second, .val (.long q2), .second] [(.long q1)])) (fun t k => XS.lloadN X0.here hx rfl (hb hby d1_6) rfl k) ?_
    refine Go.on (B := s₁.setTop (mkF m 11 #[.val (.long q1), .second, .val (.long q2), .second] [(.long q1)])) (fun t k => XS.goto X0.here hx rfl (pc0 := 7) (pc' := 11) rfl (hb hby d1_7) (by decide) (by decide) k) ?_
    obtain ⟨fs, hr, hrun, hended, hW, hsame⟩ := X0.leave (v := some (.long q1)) (fun h => by rw [Bd.returns] at h; cases h)
    refine ⟨_, _, ?_, hrun, hended, _, _, rfl, ?_, ⟨_, rfl⟩, hW, hsame.mono (by decide) (by decide)⟩
    · exact retOut X0 hx Bd.returns rfl (Or.inr (Or.inl ⟨rfl, rfl, _, rfl⟩)) (hb hby d1_11) hr
    · show Q_rmin Z q1 q2 h0 n0 _ s₁.heap _
      rw [e0]
      exact ⟨by simp [hc3_1], N0, rfl⟩
theorem d2_0 : decode jdk_29_method_66_code 0 = .ok (.lload_n 0, 1) := by decide +kernel
theorem d2_1 : decode jdk_29_method_66_code 1 = .ok (.lload_n 2, 1) := by decide +kernel
theorem d2_2 : decode jdk_29_method_66_code 2 = .ok (.lcmp, 1) := by decide +kernel
theorem d2_3 : decode jdk_29_method_66_code 3 = .ok (.ifCond .lt 7, 3) := by decide +kernel
theorem d2_6 : decode jdk_29_method_66_code 6 = .ok (.lload_n 0, 1) := by decide +kernel
theorem d2_7 : decode jdk_29_method_66_code 7 = .ok (.goto 4, 3) := by decide +kernel
theorem d2_10 : decode jdk_29_method_66_code 10 = .ok (.lload_n 2, 1) := by decide +kernel
theorem d2_11 : decode jdk_29_method_66_code 11 = .ok (.lreturn, 1) := by decide +kernel
theorem ef_rmax (m : MethodId) (q1 : Int64) (q2 : Int64) : entryFrame m #[(.long q1), (.long q2)] 4 = mkF m 0 #[.val (.long q1), .second, .val (.long q2), .second] [] := by first | (simp [entryFrame, mkF, argsToLocals, Value.category]; done) | rfl
def Q_rmax (Z : State) (q1 : Int64) (q2 : Int64) (h0 : Heap) (n0 : Nat) (v : Option Value) (h : Heap) (L : List Loc) : Prop := v = some (.long (if q1 < q2 then q2 else q1)) ∧ Fr n0 L ∧ h = h0
set_option maxRecDepth 65536 in
set_option maxHeartbeats 40000000 in
theorem rmax (l : Launch) (Z : State) (a0 : Array Value) (hw : ∀ d ∈ tables_1, d.before a0 Z = true) (ws : List Jvm.Cond) (q1 : Int64) (q2 : Int64) (h0 : Heap) (n0 : Nat) (Z0 : n0 ≤ h0.size)  :
    MetFree l (⟨"java/lang/Math", "max", "(JJ)J"⟩ : MethodName) (head1 (Jvm.Cond.code (⟨"java/lang/Math", "max", "(JJ)J"⟩ : MethodName) jdk_29_method_66_code 4 (some .long) :: ws) ({ frames := 0, cells := 0, slots := 0, locals := 0 } : Room)) (fun a U => a = #[(.long q1), (.long q2)] ∧ Z.Warmed39 U.vm ∧ U.heap = h0) (fun _ _ _ _ _ => True) (fun _ U o U' => ∃ v L, o = .returned v ∧ Q_rmax Z q1 q2 h0 n0 v U'.heap L ∧ FrameEnd U o U' L ({ frames := 0, cells := 0, slots := 0, locals := 0 } : Room).cells ({ frames := 0, cells := 0, slots := 0, locals := 0 } : Room).slots) := by
  refine MetFree.of_bodySF (Jvm.Free.JP.mathPlain rfl (by decide +kernel)) hisR ?_
  intro p e s m args below meth c s₁ Bd hml0 hP hK
  obtain ⟨rfl, hZ, hh⟩ := hP
  have hx := Bd.exec
  have hby := Bd.bytes
  have hml : c.maxLocals = 4 := hml0
  have hown : s.vm.findClass "java/lang/Math" = some m.cls := findClass_of_methodNamed Bd.named
  have hnm := (name_of_methodNamed Bd.named Bd.method).1
  have X0 : Stand p l e ({ frames := 0, cells := 0, slots := 0, locals := 0 } : Room) s m #[(.long q1), (.long q2)] below meth c s₁ [] 0 0 := Stand.of_body Bd
  have e0 : s₁.heap = h0 := by rw [← hh, Bd.state]; rfl
  have N0 := Fr.nil n0
  have pre0 : ∀ t, Steps p.tables e below (s₁.setTop (mkF m 0 #[.val (.long q1), .second, .val (.long q2), .second] [])) t → Steps p.tables e below (s₁.setTop (entryFrame m #[(.long q1), (.long q2)] 4)) t := fun t k => castTop (ef_rmax m q1 q2) k
  change Go p.tables e below (fun o U' => ∃ v L, o = .returned v ∧ Q_rmax Z q1 q2 h0 n0 v U'.heap L ∧ FrameEnd s o U' L ({ frames := 0, cells := 0, slots := 0, locals := 0 } : Room).cells ({ frames := 0, cells := 0, slots := 0, locals := 0 } : Room).slots) (s₁.setTop (entryFrame m #[(.long q1), (.long q2)] 4))
  refine Go.on pre0 ?_
  refine Go.on (B := s₁.setTop (mkF m 1 #[.val (.long q1), .second, .val (.long q2), .second] [(.long q1)])) (fun t k => XS.lloadN X0.here hx rfl (hb hby d2_0) rfl k) ?_
  refine Go.on (B := s₁.setTop (mkF m 2 #[.val (.long q1), .second, .val (.long q2), .second] [(.long q2), (.long q1)])) (fun t k => XS.lloadN X0.here hx rfl (hb hby d2_1) rfl k) ?_
  refine Go.on (B := s₁.setTop (mkF m 3 #[.val (.long q1), .second, .val (.long q2), .second] [(.int (lcmpW q1 q2))])) (fun t k => XS.lcmp X0.here hx rfl (hb hby d2_2) rfl k) ?_
  by_cases hc3_1 : q1 < q2
  · refine Go.on (B := s₁.setTop (mkF m 10 #[.val (.long q1), .second, .val (.long q2), .second] [])) (fun t k => XS.ifYes X0.here hx rfl (pc0 := 3) (pc' := 10) rfl (hb hby d2_3) rfl ((if0 _ _).trans (tlt ((lw_lt _ _).mpr hc3_1)).1) (by decide) (by decide) k) ?_
    refine Go.on (B := s₁.setTop (mkF m 11 #[.val (.long q1), .second, .val (.long q2), .second] [(.long q2)])) (fun t k => XS.lloadN X0.here hx rfl (hb hby d2_10) rfl k) ?_
    obtain ⟨fs, hr, hrun, hended, hW, hsame⟩ := X0.leave (v := some (.long q2)) (fun h => by rw [Bd.returns] at h; cases h)
    refine ⟨_, _, ?_, hrun, hended, _, _, rfl, ?_, ⟨_, rfl⟩, hW, hsame.mono (by decide) (by decide)⟩
    · exact retOut X0 hx Bd.returns rfl (Or.inr (Or.inl ⟨rfl, rfl, _, rfl⟩)) (hb hby d2_11) hr
    · show Q_rmax Z q1 q2 h0 n0 _ s₁.heap _
      rw [e0]
      exact ⟨by simp [hc3_1], N0, rfl⟩
  · refine Go.on (B := s₁.setTop (mkF m 6 #[.val (.long q1), .second, .val (.long q2), .second] [])) (fun t k => XS.ifNo X0.here hx rfl (hb hby d2_3) rfl ((if0 _ _).trans (flt (mt (lw_lt _ _).mp hc3_1)).1) k) ?_
    refine Go.on (B := s₁.setTop (mkF m 7 #[.val (.long q1), .second, .val (.long q2), .second] [(.long q1)])) (fun t k => XS.lloadN X0.here hx rfl (hb hby d2_6) rfl k) ?_
    refine Go.on (B := s₁.setTop (mkF m 11 #[.val (.long q1), .second, .val (.long q2), .second] [(.long q1)])) (fun t k => XS.goto X0.here hx rfl (pc0 := 7) (pc' := 11) rfl (hb hby d2_7) (by decide) (by decide) k) ?_
    obtain ⟨fs, hr, hrun, hended, hW, hsame⟩ := X0.leave (v := some (.long q1)) (fun h => by rw [Bd.returns] at h; cases h)
    refine ⟨_, _, ?_, hrun, hended, _, _, rfl, ?_, ⟨_, rfl⟩, hW, hsame.mono (by decide) (by decide)⟩
    · exact retOut X0 hx Bd.returns rfl (Or.inr (Or.inl ⟨rfl, rfl, _, rfl⟩)) (hb hby d2_11) hr
    · show Q_rmax Z q1 q2 h0 n0 _ s₁.heap _
      rw [e0]
      exact ⟨by simp [hc3_1], N0, rfl⟩
theorem d4_0 : decode jdk_30_method_1_code 0 = .ok (.aload_n 0, 1) := by decide +kernel
theorem d4_1 : decode jdk_30_method_1_code 1 = .ok (.invokespecial 1, 3) := by decide +kernel
theorem d4_4 : decode jdk_30_method_1_code 4 = .ok (.return_, 1) := by decide +kernel
theorem pn_4 : plainName "java/lang/Record" = true := by first | (simp [plainName, overriddenIn]; done) | decide +kernel
theorem ef_rrec (m : MethodId) (a1 : Addr) : entryFrame m #[(.ref a1)] 1 = mkF m 0 #[.val (.ref a1)] [] := by first | (simp [entryFrame, mkF, argsToLocals, Value.category]; done) | rfl
def Q_rrec (Z : State) (a1 : Addr) (h0 : Heap) (n0 : Nat) (v : Option Value) (h : Heap) (L : List Loc) : Prop := v = none ∧ Fr n0 L ∧ h = h0
set_option maxRecDepth 65536 in
set_option maxHeartbeats 40000000 in
theorem rrec (l : Launch) (Z : State) (a0 : Array Value) (hw : ∀ d ∈ tables_1, d.before a0 Z = true) (ws : List Jvm.Cond) (a1 : Addr) (h0 : Heap) (n0 : Nat) (Z0 : n0 ≤ h0.size)  :
    MetFree l (⟨"java/lang/Record", "<init>", "()V"⟩ : MethodName) (head1 (Jvm.Cond.code (⟨"java/lang/Record", "<init>", "()V"⟩ : MethodName) jdk_30_method_1_code 1 none :: ws) ({ frames := 1, cells := 0, slots := 0, locals := 12 } : Room)) (fun a U => a = #[(.ref a1)] ∧ Z.Warmed39 U.vm ∧ U.heap = h0) (fun _ _ _ _ _ => True) (fun _ U o U' => ∃ v L, o = .returned v ∧ Q_rrec Z a1 h0 n0 v U'.heap L ∧ FrameEnd U o U' L ({ frames := 1, cells := 0, slots := 0, locals := 12 } : Room).cells ({ frames := 1, cells := 0, slots := 0, locals := 12 } : Room).slots) := by
  refine MetFree.of_bodySF (plainFor_of_name pn_4) hisR ?_
  intro p e s m args below meth c s₁ Bd hml0 hP hK
  obtain ⟨rfl, hZ, hh⟩ := hP
  have hx := Bd.exec
  have hby := Bd.bytes
  have hml : c.maxLocals = 1 := hml0
  have hown : s.vm.findClass "java/lang/Record" = some m.cls := findClass_of_methodNamed Bd.named
  have hnm := (name_of_methodNamed Bd.named Bd.method).1
  have X0 : Stand p l e ({ frames := 1, cells := 0, slots := 0, locals := 12 } : Room) s m #[(.ref a1)] below meth c s₁ [] 0 0 := Stand.of_body Bd
  have e0 : s₁.heap = h0 := by rw [← hh, Bd.state]; rfl
  have N0 := Fr.nil n0
  have pre0 : ∀ t, Steps p.tables e below (s₁.setTop (mkF m 0 #[.val (.ref a1)] [])) t → Steps p.tables e below (s₁.setTop (entryFrame m #[(.ref a1)] 1)) t := fun t k => castTop (ef_rrec m a1) k
  change Go p.tables e below (fun o U' => ∃ v L, o = .returned v ∧ Q_rrec Z a1 h0 n0 v U'.heap L ∧ FrameEnd s o U' L ({ frames := 1, cells := 0, slots := 0, locals := 12 } : Room).cells ({ frames := 1, cells := 0, slots := 0, locals := 12 } : Room).slots) (s₁.setTop (entryFrame m #[(.ref a1)] 1))
  refine Go.on pre0 ?_
  refine Go.on (B := s₁.setTop (mkF m 1 #[.val (.ref a1)] [(.ref a1)])) (fun t k => XS.aloadN X0.here hx rfl (hb hby d4_0) rfl rfl k) ?_
  obtain ⟨T1, X1, e1, st1⟩ := initO X0 hx hZ hown (hw _ (List.mem_of_getElem? (i := 18) rfl)) (hw _ (List.mem_of_getElem? (i := 19) rfl)) (hw _ (List.mem_of_getElem? (i := 20) rfl)) e0 (g := (mkF m 1 #[.val (.ref a1)] [(.ref a1)])) rfl (by rw [hml]; rfl) rfl (hb hby d4_1) (by decide) (W := 0) (by show 2 * 0 + _ ≤ _; exact Nat.le_of_eq rfl) (by decide)
  refine Go.on (B := T1.setTop (mkF m 4 #[.val (.ref a1)] [])) (fun t k => st1 _ k) ?_
  obtain ⟨fs, hr, hrun, hended, hW, hsame⟩ := X1.leave (v := none) (fun _ => rfl)
  refine ⟨_, _, ?_, hrun, hended, _, _, rfl, ?_, ⟨_, rfl⟩, hW, hsame.mono (by decide) (by decide)⟩
  · exact X1.returnOut hx Bd.returns (hb hby d4_4) hr
  · show Q_rrec Z a1 h0 n0 _ T1.heap _
    rw [e1]
    exact ⟨rfl, N0, rfl⟩
theorem d3_0 : decode prog_32_method_1_code 0 = .ok (.aload_n 0, 1) := by decide +kernel
theorem d3_1 : decode prog_32_method_1_code 1 = .ok (.invokespecial 1, 3) := by decide +kernel
theorem d3_4 : decode prog_32_method_1_code 4 = .ok (.lload_n 3, 1) := by decide +kernel
theorem d3_5 : decode prog_32_method_1_code 5 = .ok (.lload_n 1, 1) := by decide +kernel
theorem d3_6 : decode prog_32_method_1_code 6 = .ok (.lcmp, 1) := by decide +kernel
theorem d3_7 : decode prog_32_method_1_code 7 = .ok (.ifCond .gt 18, 3) := by decide +kernel
theorem d3_25 : decode prog_32_method_1_code 25 = .ok (.aload_n 0, 1) := by decide +kernel
theorem d3_26 : decode prog_32_method_1_code 26 = .ok (.lload_n 1, 1) := by decide +kernel
theorem d3_27 : decode prog_32_method_1_code 27 = .ok (.putfield 16, 3) := by decide +kernel
theorem d3_30 : decode prog_32_method_1_code 30 = .ok (.aload_n 0, 1) := by decide +kernel
theorem d3_31 : decode prog_32_method_1_code 31 = .ok (.lload_n 3, 1) := by decide +kernel
theorem d3_32 : decode prog_32_method_1_code 32 = .ok (.putfield 22, 3) := by decide +kernel
theorem d3_35 : decode prog_32_method_1_code 35 = .ok (.return_, 1) := by decide +kernel
theorem pd_0 : parseMethodDescriptor "()V" = some ⟨[], none⟩ := by decide +kernel
theorem pn_7 : plainName "com/example/tailrace/tailrace/api/Window" = true := by first | (simp [plainName, overriddenIn]; done) | decide +kernel
theorem ef_rwin (m : MethodId) (a1 : Addr) (q2 : Int64) (q3 : Int64) : entryFrame m #[(.ref a1), (.long q2), (.long q3)] 5 = mkF m 0 #[.val (.ref a1), .val (.long q2), .second, .val (.long q3), .second] [] := by first | (simp [entryFrame, mkF, argsToLocals, Value.category]; done) | rfl
def Q_rwin (Z : State) (a1 : Addr) (q2 : Int64) (q3 : Int64) (h0 : Heap) (n0 : Nat) (v : Option Value) (h : Heap) (L : List Loc) : Prop := v = none ∧ Fr n0 L ∧ Keep h0 h [a1] ∧ Exa Z h a1 "com/example/tailrace/tailrace/api/Window" ∧ Fld Z h a1 "com/example/tailrace/tailrace/api/Window" "start" "J" (.long q2) ∧ Fld Z h a1 "com/example/tailrace/tailrace/api/Window" "end" "J" (.long q3)
set_option maxRecDepth 65536 in
set_option maxHeartbeats 40000000 in
theorem rwin (l : Launch) (Z : State) (a0 : Array Value) (hw : ∀ d ∈ tables_1, d.before a0 Z = true) (ws : List Jvm.Cond) (a1 : Addr) (q2 : Int64) (q3 : Int64) (h0 : Heap) (n0 : Nat) (Z0 : n0 ≤ h0.size) (E1 : Exa Z h0 a1 "com/example/tailrace/tailrace/api/Window") (F1 : Fld Z h0 a1 "com/example/tailrace/tailrace/api/Window" "start" "J" (.long (0 : Int64))) (F2 : Fld Z h0 a1 "com/example/tailrace/tailrace/api/Window" "end" "J" (.long (0 : Int64))) (g1 : n0 ≤ a1) (hp : q2 < q3) :
    MetFree l (⟨"com/example/tailrace/tailrace/api/Window", "<init>", "(JJ)V"⟩ : MethodName) (head1 (Jvm.Cond.code (⟨"com/example/tailrace/tailrace/api/Window", "<init>", "(JJ)V"⟩ : MethodName) prog_32_method_1_code 5 none :: ws) ({ frames := 2, cells := 0, slots := 0, locals := 24 } : Room)) (fun a U => a = #[(.ref a1), (.long q2), (.long q3)] ∧ Z.Warmed39 U.vm ∧ U.heap = h0) (fun _ _ _ _ _ => True) (fun _ U o U' => ∃ v L, o = .returned v ∧ Q_rwin Z a1 q2 q3 h0 n0 v U'.heap L ∧ FrameEnd U o U' L ({ frames := 2, cells := 0, slots := 0, locals := 24 } : Room).cells ({ frames := 2, cells := 0, slots := 0, locals := 24 } : Room).slots) := by
  refine MetFree.of_bodySF (plainFor_of_name pn_7) hisR ?_
  intro p e s m args below meth c s₁ Bd hml0 hP hK
  obtain ⟨rfl, hZ, hh⟩ := hP
  have hx := Bd.exec
  have hby := Bd.bytes
  have hml : c.maxLocals = 5 := hml0
  have hown : s.vm.findClass "com/example/tailrace/tailrace/api/Window" = some m.cls := findClass_of_methodNamed Bd.named
  have hnm := (name_of_methodNamed Bd.named Bd.method).1
  have X0 : Stand p l e ({ frames := 2, cells := 0, slots := 0, locals := 24 } : Room) s m #[(.ref a1), (.long q2), (.long q3)] below meth c s₁ [] 0 0 := Stand.of_body Bd
  have e0 : s₁.heap = h0 := by rw [← hh, Bd.state]; rfl
  have N0 := Fr.nil n0
  have pre0 : ∀ t, Steps p.tables e below (s₁.setTop (mkF m 0 #[.val (.ref a1), .val (.long q2), .second, .val (.long q3), .second] [])) t → Steps p.tables e below (s₁.setTop (entryFrame m #[(.ref a1), (.long q2), (.long q3)] 5)) t := fun t k => castTop (ef_rwin m a1 q2 q3) k
  change Go p.tables e below (fun o U' => ∃ v L, o = .returned v ∧ Q_rwin Z a1 q2 q3 h0 n0 v U'.heap L ∧ FrameEnd s o U' L ({ frames := 2, cells := 0, slots := 0, locals := 24 } : Room).cells ({ frames := 2, cells := 0, slots := 0, locals := 24 } : Room).slots) (s₁.setTop (entryFrame m #[(.ref a1), (.long q2), (.long q3)] 5))
  have K0 := Keep.refl h0 [a1]
  refine Go.on pre0 ?_
  refine Go.on (B := s₁.setTop (mkF m 1 #[.val (.ref a1), .val (.long q2), .second, .val (.long q3), .second] [(.ref a1)])) (fun t k => XS.aloadN X0.here hx rfl (hb hby d3_0) rfl rfl k) ?_
  obtain ⟨_, _, ⟨T1, L1, k1, n1⟩, -, X1, ⟨Lc1, hQ1, l1, y1, z1⟩, st1⟩ := X0.specialBack hx (y := (⟨"java/lang/Record", "<init>", "()V"⟩ : MethodName)) rfl hown (mvT hZ (hw _ (List.mem_of_getElem? (i := 13) rfl))) (mvT hZ (hw _ (List.mem_of_getElem? (i := 14) rfl))) (mvT hZ (hw _ (List.mem_of_getElem? (i := 17) rfl))) (by decide) (backOf (W := 0) (rrec l Z a0 hw [] a1 h0 n0 Z0) hZ (hw _ (List.mem_of_getElem? (i := 17) rfl)) (hw _ (List.mem_of_getElem? (i := 16) rfl)) (by decide) (by decide)) (g := (mkF m 1 #[.val (.ref a1), .val (.long q2), .second, .val (.long q3), .second] [(.ref a1)])) rfl (by rw [hml]; rfl) (Steps.refl _) (a := a1) (argsL := []) (rest := []) (lenOf pd_0 rfl) rfl (by show 2 * 0 + _ ≤ _; exact Nat.le_of_eq rfl) (hb hby d3_1) (fun _ _ => ⟨rfl, e0, (by decide : 0 + 0 ≤ _), (by decide : 0 + 0 ≤ _)⟩)
  dsimp only [Pt.U, Pt.locs, Pt.cells, Pt.slots] at X1 l1 y1 z1 st1 hQ1
  subst l1 y1 z1
  obtain ⟨rfl, N1q, e1q⟩ := hQ1
  have N1 := Fr.app N0 N1q
  refine Go.on (B := T1.setTop (mkF m 4 #[.val (.ref a1), .val (.long q2), .second, .val (.long q3), .second] [])) (fun t k => st1.trans k) ?_
  refine Go.on (B := T1.setTop (mkF m 5 #[.val (.ref a1), .val (.long q2), .second, .val (.long q3), .second] [(.long q3)])) (fun t k => XS.lloadN X1.here hx rfl (hb hby d3_4) rfl k) ?_
  refine Go.on (B := T1.setTop (mkF m 6 #[.val (.ref a1), .val (.long q2), .second, .val (.long q3), .second] [(.long q2), (.long q3)])) (fun t k => XS.lloadN X1.here hx rfl (hb hby d3_5) rfl k) ?_
  refine Go.on (B := T1.setTop (mkF m 7 #[.val (.ref a1), .val (.long q2), .second, .val (.long q3), .second] [(.int (lcmpW q3 q2))])) (fun t k => XS.lcmp X1.here hx rfl (hb hby d3_6) rfl k) ?_
  have hc7_2 : q2 < q3 := hp
  refine Go.on (B := T1.setTop (mkF m 25 #[.val (.ref a1), .val (.long q2), .second, .val (.long q3), .second] [])) (fun t k => XS.ifYes X1.here hx rfl (pc0 := 7) (pc' := 25) rfl (hb hby d3_7) rfl ((if0 _ _).trans (tlt ((lw_gt _ _).mpr hc7_2)).2.2.1) (by decide) (by decide) k) ?_
  refine Go.on (B := T1.setTop (mkF m 26 #[.val (.ref a1), .val (.long q2), .second, .val (.long q3), .second] [(.ref a1)])) (fun t k => XS.aloadN X1.here hx rfl (hb hby d3_25) rfl rfl k) ?_
  refine Go.on (B := T1.setTop (mkF m 27 #[.val (.ref a1), .val (.long q2), .second, .val (.long q3), .second] [(.long q2), (.ref a1)])) (fun t k => XS.lloadN X1.here hx rfl (hb hby d3_26) rfl k) ?_
  obtain ⟨T3, h3, X3, e3, W3, st3⟩ := putF X1 hx hZ hown (host := "") (Or.inl (hw _ (List.mem_of_getElem? (i := 21) rfl))) Via.refl e1q F1 E1 (Or.inr ⟨(hw _ (List.mem_of_getElem? (i := 22) rfl)), rfl, hnm⟩) (hw _ (List.mem_of_getElem? (i := 8) rfl)) (ty := .long) (by decide) rfl rfl (g := (mkF m 27 #[.val (.ref a1), .val (.long q2), .second, .val (.long q3), .second] [(.long q2), (.ref a1)])) rfl rfl (hb hby d3_27)
  have N3 := Fr.snoc X3 N1 g1
  have Fw3 := F1.same W3
  have f1 := E1.wr W3
  have f2 := F2.other W3 (Or.inr (slot_ne (Or.inr (hw _ (List.mem_of_getElem? (i := 24) rfl))) (Or.inr (hw _ (List.mem_of_getElem? (i := 22) rfl))) (by decide) (t := .long) (t' := .long) (by decide) (by decide)))
  have Zs3 := Nat.le_trans Z0 (Keep.of_wr W3).1
  have K4 := K0.wr W3 (Or.inl (List.mem_of_getElem? (i := 0) rfl))
  refine Go.on (B := T3.setTop (mkF m 30 #[.val (.ref a1), .val (.long q2), .second, .val (.long q3), .second] [])) (fun t k => st3 _ k) ?_
  refine Go.on (B := T3.setTop (mkF m 31 #[.val (.ref a1), .val (.long q2), .second, .val (.long q3), .second] [(.ref a1)])) (fun t k => XS.aloadN X3.here hx rfl (hb hby d3_30) rfl rfl k) ?_
  refine Go.on (B := T3.setTop (mkF m 32 #[.val (.ref a1), .val (.long q2), .second, .val (.long q3), .second] [(.long q3), (.ref a1)])) (fun t k => XS.lloadN X3.here hx rfl (hb hby d3_31) rfl k) ?_
  obtain ⟨T4, h4, X4, e4, W4, st4⟩ := putF X3 hx hZ hown (host := "") (Or.inl (hw _ (List.mem_of_getElem? (i := 23) rfl))) Via.refl e3 f2 f1 (Or.inr ⟨(hw _ (List.mem_of_getElem? (i := 24) rfl)), rfl, hnm⟩) (hw _ (List.mem_of_getElem? (i := 8) rfl)) (ty := .long) (by decide) rfl rfl (g := (mkF m 32 #[.val (.ref a1), .val (.long q2), .second, .val (.long q3), .second] [(.long q3), (.ref a1)])) rfl rfl (hb hby d3_32)
  have N4 := Fr.snoc X4 N3 g1
  have Fw4 := f2.same W4
  have f5 := f1.wr W4
  have f6 := Fw3.other W4 (Or.inr (slot_ne (Or.inr (hw _ (List.mem_of_getElem? (i := 22) rfl))) (Or.inr (hw _ (List.mem_of_getElem? (i := 24) rfl))) (by decide) (t := .long) (t' := .long) (by decide) (by decide)))
  have Zs7 := Nat.le_trans Zs3 (Keep.of_wr W4).1
  have K8 := K4.wr W4 (Or.inl (List.mem_of_getElem? (i := 0) rfl))
  refine Go.on (B := T4.setTop (mkF m 35 #[.val (.ref a1), .val (.long q2), .second, .val (.long q3), .second] [])) (fun t k => st4 _ k) ?_
  obtain ⟨fs, hr, hrun, hended, hW, hsame⟩ := X4.leave (v := none) (fun _ => rfl)
  refine ⟨_, _, ?_, hrun, hended, _, _, rfl, ?_, ⟨_, rfl⟩, hW, hsame.mono (by decide) (by decide)⟩
  · exact X4.returnOut hx Bd.returns (hb hby d3_35) hr
  · show Q_rwin Z a1 q2 q3 h0 n0 _ T4.heap _
    rw [e4]
    exact ⟨rfl, N4, K8, f5, f6, Fw4⟩
theorem d7_0 : decode prog_32_method_6_code 0 = .ok (.aload_n 0, 1) := by decide +kernel
theorem d7_1 : decode prog_32_method_6_code 1 = .ok (.getfield 22, 3) := by decide +kernel
theorem d7_4 : decode prog_32_method_6_code 4 = .ok (.lreturn, 1) := by decide +kernel
theorem ef_rend (m : MethodId) (a1 : Addr) : entryFrame m #[(.ref a1)] 1 = mkF m 0 #[.val (.ref a1)] [] := by first | (simp [entryFrame, mkF, argsToLocals, Value.category]; done) | rfl
def Q_rend (Z : State) (a1 : Addr) (q2 : Int64) (h0 : Heap) (n0 : Nat) (v : Option Value) (h : Heap) (L : List Loc) : Prop := v = some (.long q2) ∧ Fr n0 L ∧ h = h0
set_option maxRecDepth 65536 in
set_option maxHeartbeats 40000000 in
theorem rend (l : Launch) (Z : State) (a0 : Array Value) (hw : ∀ d ∈ tables_1, d.before a0 Z = true) (ws : List Jvm.Cond) (a1 : Addr) (q2 : Int64) (h0 : Heap) (n0 : Nat) (Z0 : n0 ≤ h0.size) (F2 : Fld Z h0 a1 "com/example/tailrace/tailrace/api/Window" "end" "J" (.long q2)) :
    MetFree l (⟨"com/example/tailrace/tailrace/api/Window", "end", "()J"⟩ : MethodName) (head1 (Jvm.Cond.code (⟨"com/example/tailrace/tailrace/api/Window", "end", "()J"⟩ : MethodName) prog_32_method_6_code 1 (some .long) :: ws) ({ frames := 0, cells := 0, slots := 0, locals := 0 } : Room)) (fun a U => a = #[(.ref a1)] ∧ Z.Warmed39 U.vm ∧ U.heap = h0) (fun _ _ _ _ _ => True) (fun _ U o U' => ∃ v L, o = .returned v ∧ Q_rend Z a1 q2 h0 n0 v U'.heap L ∧ FrameEnd U o U' L ({ frames := 0, cells := 0, slots := 0, locals := 0 } : Room).cells ({ frames := 0, cells := 0, slots := 0, locals := 0 } : Room).slots) := by
  refine MetFree.of_bodySF (plainFor_of_name pn_7) hisR ?_
  intro p e s m args below meth c s₁ Bd hml0 hP hK
  obtain ⟨rfl, hZ, hh⟩ := hP
  have hx := Bd.exec
  have hby := Bd.bytes
  have hml : c.maxLocals = 1 := hml0
  have hown : s.vm.findClass "com/example/tailrace/tailrace/api/Window" = some m.cls := findClass_of_methodNamed Bd.named
  have hnm := (name_of_methodNamed Bd.named Bd.method).1
  have X0 : Stand p l e ({ frames := 0, cells := 0, slots := 0, locals := 0 } : Room) s m #[(.ref a1)] below meth c s₁ [] 0 0 := Stand.of_body Bd
  have e0 : s₁.heap = h0 := by rw [← hh, Bd.state]; rfl
  have N0 := Fr.nil n0
  have pre0 : ∀ t, Steps p.tables e below (s₁.setTop (mkF m 0 #[.val (.ref a1)] [])) t → Steps p.tables e below (s₁.setTop (entryFrame m #[(.ref a1)] 1)) t := fun t k => castTop (ef_rend m a1) k
  change Go p.tables e below (fun o U' => ∃ v L, o = .returned v ∧ Q_rend Z a1 q2 h0 n0 v U'.heap L ∧ FrameEnd s o U' L ({ frames := 0, cells := 0, slots := 0, locals := 0 } : Room).cells ({ frames := 0, cells := 0, slots := 0, locals := 0 } : Room).slots) (s₁.setTop (entryFrame m #[(.ref a1)] 1))
  refine Go.on pre0 ?_
  refine Go.on (B := s₁.setTop (mkF m 1 #[.val (.ref a1)] [(.ref a1)])) (fun t k => XS.aloadN X0.here hx rfl (hb hby d7_0) rfl rfl k) ?_
  obtain ⟨T1, X1, e1, st1⟩ := getF X0 hx hZ hown (host := "") (Or.inl (hw _ (List.mem_of_getElem? (i := 23) rfl))) Via.refl e0 F2 (g := (mkF m 1 #[.val (.ref a1)] [(.ref a1)])) rfl rfl (hb hby d7_1)
  refine Go.on (B := T1.setTop (mkF m 4 #[.val (.ref a1)] [(.long q2)])) (fun t k => st1 _ k) ?_
  obtain ⟨fs, hr, hrun, hended, hW, hsame⟩ := X1.leave (v := some (.long q2)) (fun h => by rw [Bd.returns] at h; cases h)
  refine ⟨_, _, ?_, hrun, hended, _, _, rfl, ?_, ⟨_, rfl⟩, hW, hsame.mono (by decide) (by decide)⟩
  · exact retOut X1 hx Bd.returns rfl (Or.inr (Or.inl ⟨rfl, rfl, _, rfl⟩)) (hb hby d7_4) hr
  · show Q_rend Z a1 q2 h0 n0 _ T1.heap _
    rw [e1]
    exact ⟨by simp [], N0, rfl⟩
theorem d6_0 : decode prog_92_method_5_code 0 = .ok (.aload_n 0, 1) := by decide +kernel
theorem d6_1 : decode prog_92_method_5_code 1 = .ok (.invokevirtual 91, 3) := by decide +kernel
theorem d6_4 : decode prog_92_method_5_code 4 = .ok (.lconst 1, 1) := by decide +kernel
theorem d6_5 : decode prog_92_method_5_code 5 = .ok (.lsub, 1) := by decide +kernel
theorem d6_6 : decode prog_92_method_5_code 6 = .ok (.lload_n 1, 1) := by decide +kernel
theorem d6_7 : decode prog_92_method_5_code 7 = .ok (.lcmp, 1) := by decide +kernel
theorem d6_8 : decode prog_92_method_5_code 8 = .ok (.ifCond .gt 7, 3) := by decide +kernel
theorem d6_11 : decode prog_92_method_5_code 11 = .ok (.iconst 1, 1) := by decide +kernel
theorem d6_12 : decode prog_92_method_5_code 12 = .ok (.goto 4, 3) := by decide +kernel
theorem d6_15 : decode prog_92_method_5_code 15 = .ok (.iconst 0, 1) := by decide +kernel
theorem d6_16 : decode prog_92_method_5_code 16 = .ok (.ireturn, 1) := by decide +kernel
theorem pd_1 : parseMethodDescriptor "()J" = some ⟨[], some .long⟩ := by decide +kernel
theorem pn_11 : plainName "com/example/tailrace/tailrace/engine/KeyedAccumulators" = true := by first | (simp [plainName, overriddenIn]; done) | decide +kernel
theorem ef_rfb (m : MethodId) (a1 : Addr) (q2 : Int64) : entryFrame m #[(.ref a1), (.long q2)] 3 = mkF m 0 #[.val (.ref a1), .val (.long q2), .second] [] := by first | (simp [entryFrame, mkF, argsToLocals, Value.category]; done) | rfl
def Q_rfb (Z : State) (a1 : Addr) (q2 : Int64) (q3 : Int64) (h0 : Heap) (n0 : Nat) (v : Option Value) (h : Heap) (L : List Loc) : Prop := v = some (.int (if q2 < (q3 - (1 : Int64)) then (0 : Int32) else (1 : Int32))) ∧ Fr n0 L ∧ h = h0
set_option maxRecDepth 65536 in
set_option maxHeartbeats 40000000 in
theorem rfb (l : Launch) (Z : State) (a0 : Array Value) (hw : ∀ d ∈ tables_1, d.before a0 Z = true) (ws : List Jvm.Cond) (a1 : Addr) (q2 : Int64) (q3 : Int64) (h0 : Heap) (n0 : Nat) (Z0 : n0 ≤ h0.size) (E1 : Exa Z h0 a1 "com/example/tailrace/tailrace/api/Window") (F2 : Fld Z h0 a1 "com/example/tailrace/tailrace/api/Window" "end" "J" (.long q3)) :
    MetFree l (⟨"com/example/tailrace/tailrace/engine/KeyedAccumulators", "firesBy", "(Lcom/example/tailrace/tailrace/api/Window;J)Z"⟩ : MethodName) (head1 (Jvm.Cond.code (⟨"com/example/tailrace/tailrace/engine/KeyedAccumulators", "firesBy", "(Lcom/example/tailrace/tailrace/api/Window;J)Z"⟩ : MethodName) prog_92_method_5_code 3 (some .boolean) :: ws) ({ frames := 1, cells := 0, slots := 0, locals := 12 } : Room)) (fun a U => a = #[(.ref a1), (.long q2)] ∧ Z.Warmed39 U.vm ∧ U.heap = h0) (fun _ _ _ _ _ => True) (fun _ U o U' => ∃ v L, o = .returned v ∧ Q_rfb Z a1 q2 q3 h0 n0 v U'.heap L ∧ FrameEnd U o U' L ({ frames := 1, cells := 0, slots := 0, locals := 12 } : Room).cells ({ frames := 1, cells := 0, slots := 0, locals := 12 } : Room).slots) := by
  refine MetFree.of_bodySF (plainFor_of_name pn_11) hisR ?_
  intro p e s m args below meth c s₁ Bd hml0 hP hK
  obtain ⟨rfl, hZ, hh⟩ := hP
  have hx := Bd.exec
  have hby := Bd.bytes
  have hml : c.maxLocals = 3 := hml0
  have hown : s.vm.findClass "com/example/tailrace/tailrace/engine/KeyedAccumulators" = some m.cls := findClass_of_methodNamed Bd.named
  have hnm := (name_of_methodNamed Bd.named Bd.method).1
  have X0 : Stand p l e ({ frames := 1, cells := 0, slots := 0, locals := 12 } : Room) s m #[(.ref a1), (.long q2)] below meth c s₁ [] 0 0 := Stand.of_body Bd
  have e0 : s₁.heap = h0 := by rw [← hh, Bd.state]; rfl
  have N0 := Fr.nil n0
  have pre0 : ∀ t, Steps p.tables e below (s₁.setTop (mkF m 0 #[.val (.ref a1), .val (.long q2), .second] [])) t → Steps p.tables e below (s₁.setTop (entryFrame m #[(.ref a1), (.long q2)] 3)) t := fun t k => castTop (ef_rfb m a1 q2) k
  change Go p.tables e below (fun o U' => ∃ v L, o = .returned v ∧ Q_rfb Z a1 q2 q3 h0 n0 v U'.heap L ∧ FrameEnd s o U' L ({ frames := 1, cells := 0, slots := 0, locals := 12 } : Room).cells ({ frames := 1, cells := 0, slots := 0, locals := 12 } : Room).slots) (s₁.setTop (entryFrame m #[(.ref a1), (.long q2)] 3))
  refine Go.on pre0 ?_
  refine Go.on (B := s₁.setTop (mkF m 1 #[.val (.ref a1), .val (.long q2), .second] [(.ref a1)])) (fun t k => XS.aloadN X0.here hx rfl (hb hby d6_0) rfl rfl k) ?_
  obtain ⟨cq1, kq1, q1a, q1b, q1c⟩ := isOf hZ e0 E1
  obtain ⟨_, _, ⟨T1, L1, k1, n1⟩, -, X1, ⟨Lc1, hQ1, l1, y1, z1⟩, st1⟩ := X0.virtualBack hx (y := (⟨"com/example/tailrace/tailrace/api/Window", "end", "()J"⟩ : MethodName)) (z := (⟨"com/example/tailrace/tailrace/api/Window", "end", "()J"⟩ : MethodName)) hown (mvT hZ (hw _ (List.mem_of_getElem? (i := 30) rfl))) (mvT hZ (hw _ (List.mem_of_getElem? (i := 31) rfl))) (notFace_of_selects (args := #[]) (mvT hZ (hw _ (List.mem_of_getElem? (i := 33) rfl)))) (mvT hZ (hw _ (List.mem_of_getElem? (i := 33) rfl))) (mvT hZ (hw _ (List.mem_of_getElem? (i := 32) rfl))) (by decide) (backOf (W := 0) (rend l Z a0 hw [] a1 q3 h0 n0 Z0 F2) hZ (hw _ (List.mem_of_getElem? (i := 34) rfl)) (hw _ (List.mem_of_getElem? (i := 9) rfl)) (by decide) (by decide)) q1a q1c (g := (mkF m 1 #[.val (.ref a1), .val (.long q2), .second] [(.ref a1)])) rfl (by rw [hml]; rfl) (Steps.refl _) (argsL := []) (rest := []) (lenOf pd_1 rfl) rfl (by show 2 * 0 + _ ≤ _; exact Nat.le_of_eq rfl) (hb hby d6_1) (fun _ _ => ⟨rfl, e0, (by decide : 0 + 0 ≤ _), (by decide : 0 + 0 ≤ _)⟩)
  dsimp only [Pt.U, Pt.locs, Pt.cells, Pt.slots] at X1 l1 y1 z1 st1 hQ1
  subst l1 y1 z1
  obtain ⟨rfl, N1q, e1q⟩ := hQ1
  have N1 := Fr.app N0 N1q
  refine Go.on (B := T1.setTop (mkF m 4 #[.val (.ref a1), .val (.long q2), .second] [(.long q3)])) (fun t k => st1.trans k) ?_
  refine Go.on (B := T1.setTop (mkF m 5 #[.val (.ref a1), .val (.long q2), .second] [(.long (1 : Int64)), (.long q3)])) (fun t k => XS.lconst X1.here hx rfl (hb hby d6_4) k) ?_
  refine Go.on (B := T1.setTop (mkF m 6 #[.val (.ref a1), .val (.long q2), .second] [(.long (q3 - (1 : Int64)))])) (fun t k => XS.lsub X1.here hx rfl (hb hby d6_5) rfl k) ?_
  refine Go.on (B := T1.setTop (mkF m 7 #[.val (.ref a1), .val (.long q2), .second] [(.long q2), (.long (q3 - (1 : Int64)))])) (fun t k => XS.lloadN X1.here hx rfl (hb hby d6_6) rfl k) ?_
  refine Go.on (B := T1.setTop (mkF m 8 #[.val (.ref a1), .val (.long q2), .second] [(.int (lcmpW (q3 - (1 : Int64)) q2))])) (fun t k => XS.lcmp X1.here hx rfl (hb hby d6_7) rfl k) ?_
  by_cases hc8_2 : q2 < (q3 - (1 : Int64))
  · refine Go.on (B := T1.setTop (mkF m 15 #[.val (.ref a1), .val (.long q2), .second] [])) (fun t k => XS.ifYes X1.here hx rfl (pc0 := 8) (pc' := 15) rfl (hb hby d6_8) rfl ((if0 _ _).trans (tlt ((lw_gt _ _).mpr hc8_2)).2.2.1) (by decide) (by decide) k) ?_
    refine Go.on (B := T1.setTop (mkF m 16 #[.val (.ref a1), .val (.long q2), .second] [(.int (0 : Int32))])) (fun t k => XS.iconst X1.here hx rfl (hb hby d6_15) k) ?_
    obtain ⟨fs, hr, hrun, hended, hW, hsame⟩ := X1.leave (v := some (.int (0 : Int32))) (fun h => by rw [Bd.returns] at h; cases h)
    refine ⟨_, _, ?_, hrun, hended, _, _, rfl, ?_, ⟨_, rfl⟩, hW, hsame.mono (by decide) (by decide)⟩
    · exact retN X1 hx (t := .boolean) Bd.returns (by simp) (hb hby d6_16) hr
    · show Q_rfb Z a1 q2 q3 h0 n0 _ T1.heap _
      rw [e1q]
      exact ⟨by simp [hc8_2], N1, rfl⟩
  · refine Go.on (B := T1.setTop (mkF m 11 #[.val (.ref a1), .val (.long q2), .second] [])) (fun t k => XS.ifNo X1.here hx rfl (hb hby d6_8) rfl ((if0 _ _).trans (flt (mt (lw_gt _ _).mp hc8_2)).2.2.1) k) ?_
    refine Go.on (B := T1.setTop (mkF m 12 #[.val (.ref a1), .val (.long q2), .second] [(.int (1 : Int32))])) (fun t k => XS.iconst X1.here hx rfl (hb hby d6_11) k) ?_
    refine Go.on (B := T1.setTop (mkF m 16 #[.val (.ref a1), .val (.long q2), .second] [(.int (1 : Int32))])) (fun t k => XS.goto X1.here hx rfl (pc0 := 12) (pc' := 16) rfl (hb hby d6_12) (by decide) (by decide) k) ?_
    obtain ⟨fs, hr, hrun, hended, hW, hsame⟩ := X1.leave (v := some (.int (1 : Int32))) (fun h => by rw [Bd.returns] at h; cases h)
    refine ⟨_, _, ?_, hrun, hended, _, _, rfl, ?_, ⟨_, rfl⟩, hW, hsame.mono (by decide) (by decide)⟩
    · exact retN X1 hx (t := .boolean) Bd.returns (by simp) (hb hby d6_16) hr
    · show Q_rfb Z a1 q2 q3 h0 n0 _ T1.heap _
      rw [e1q]
      exact ⟨by simp [hc8_2], N1, rfl⟩
theorem own_lit : (1 : Int64).toInt = 1 := by decide
theorem own_max : (9223372036854775807 : Int64).toInt = 9223372036854775807 := by decide
theorem own_lohi (s e a b lo hi : Int64) (ha : (if e < s then e else s) = a) (hb : (if s < e then e else s) = b) (hlo : lo = (if a = b then (if b = (9223372036854775807 : Int64) then (b - (1 : Int64)) else a) else a)) (hhi : hi = (if a = b then (if b = (9223372036854775807 : Int64) then b else (b + (1 : Int64))) else b)) : lo < hi := by
  have r1 := rng64 s
  have r2 := rng64 e
  have r3 := rng64 a
  have r4 := rng64 b
  have k1 := c_lsub b 1
  have k2 := c_ladd b 1
  have r5 := rng64 (b - 1)
  have r6 := rng64 (b + 1)
  rw [own_lit] at k1 k2
  rw [Int64.lt_iff_toInt_lt]
  by_cases h1 : a = b
  · rw [if_pos h1] at hlo hhi
    by_cases h2 : b = (9223372036854775807 : Int64)
    · rw [if_pos h2] at hlo hhi
      have := own_max
      rw [← h2] at this
      subst hlo hhi
      omega
    · rw [if_neg h2] at hlo hhi
      have h3 : b.toInt ≠ 9223372036854775807 := fun q => h2 (Int64.toInt_inj.mp (by rw [q]; exact own_max.symm))
      subst hlo hhi
      rw [h1]
      omega
  · rw [if_neg h1] at hlo hhi
    rw [hlo, hhi]
    have h3 : a.toInt ≠ b.toInt := fun q => h1 (Int64.toInt_inj.mp q)
    by_cases h4 : s < e
    · rw [if_pos h4] at hb
      have h5 : ¬ e < s := fun q => by
        rw [Int64.lt_iff_toInt_lt] at h4 q
        omega
      rw [if_neg h5] at ha
      rw [Int64.lt_iff_toInt_lt] at h4
      rw [← ha, ← hb]
      exact h4
    · rw [if_neg h4] at hb
      rw [Int64.lt_iff_toInt_lt] at h4
      by_cases h5 : e < s
      · rw [if_pos h5] at ha
        rw [Int64.lt_iff_toInt_lt] at h5
        rw [← ha, ← hb]
        exact h5
      · rw [if_neg h5] at ha
        exact absurd (ha.symm.trans hb) h1
theorem own_fires (lo hi wm : Int64) (h : lo < hi) : (if wm < (hi - (1 : Int64)) then (0 : Int32) else (1 : Int32)) = (if wm = (9223372036854775807 : Int64) then (1 : Int32) else (if (wm + (1 : Int64)) < hi then (0 : Int32) else (1 : Int32))) := by
  have r3 := rng64 lo
  have r4 := rng64 hi
  have r1 := rng64 wm
  have k1 := c_lsub hi 1
  have k2 := c_ladd wm 1
  have r5 := rng64 (hi - 1)
  have r6 := rng64 (wm + 1)
  rw [own_lit] at k1 k2
  rw [Int64.lt_iff_toInt_lt] at h
  by_cases h1 : wm = (9223372036854775807 : Int64)
  · have q := own_max
    rw [← h1] at q
    have n1 : ¬ wm < (hi - (1 : Int64)) := fun z => by
      rw [Int64.lt_iff_toInt_lt] at z
      omega
    rw [if_pos h1, if_neg n1]
  · have h3 : wm.toInt ≠ 9223372036854775807 := fun q => h1 (Int64.toInt_inj.mp (by rw [q]; exact own_max.symm))
    rw [if_neg h1]
    by_cases h4 : wm < (hi - (1 : Int64))
    · have h5 : (wm + (1 : Int64)) < hi := by
        rw [Int64.lt_iff_toInt_lt] at h4 ⊢
        omega
      rw [if_pos h4, if_pos h5]
    · have h5 : ¬ (wm + (1 : Int64)) < hi := by
        rw [Int64.lt_iff_toInt_lt] at h4 ⊢
        omega
      rw [if_neg h4, if_neg h5]
theorem pd_2 : parseMethodDescriptor "(JJ)J" = some ⟨[.long, .long], some .long⟩ := by decide +kernel
theorem pd_3 : parseMethodDescriptor "(JJ)V" = some ⟨[.long, .long], none⟩ := by decide +kernel
theorem pd_4 : parseMethodDescriptor "(Lcom/example/tailrace/tailrace/api/Window;J)Z" = some ⟨[(.object "com/example/tailrace/tailrace/api/Window"), .long], some .boolean⟩ := by decide +kernel
theorem pn_15 : plainName "com/example/tailrace/tailrace/engine/KeyedAccumulatorsFiresByPinLaw" = true := by first | (simp [plainName, overriddenIn]; done) | decide +kernel
theorem ef_rm0 (m : MethodId) (q1 : Int64) (q2 : Int64) (q3 : Int64) (p4 : Int32) : entryFrame m #[(.long q1), (.long q2), (.long q3), (.int p4)] maxLocals = mkF m 0 #[.val (.long q1), .second, .val (.long q2), .second, .val (.long q3), .second, .val (.int p4), .unset, .unset, .unset, .unset, .unset, .unset, .unset, .unset] [] := by first | (simp [entryFrame, mkF, argsToLocals, Value.category, maxLocals]; done) | rfl
def Q_rm0 (Z : State) (q1 : Int64) (q2 : Int64) (q3 : Int64) (p4 : Int32) (h0 : Heap) (n0 : Nat) (v : Option Value) (h : Heap) (L : List Loc) : Prop := v = some (.int 1) ∧ Fr n0 L
set_option maxRecDepth 65536 in
set_option maxHeartbeats 40000000 in
theorem rm0 (l : Launch) (Z : State) (a0 : Array Value) (hw : ∀ d ∈ tables_1, d.before a0 Z = true) (ws : List Jvm.Cond) (q1 : Int64) (q2 : Int64) (q3 : Int64) (p4 : Int32) (h0 : Heap) (n0 : Nat) (Z0 : n0 ≤ h0.size)  :
    MetFree l x (head1 (Jvm.Cond.code x code maxLocals ret :: ws) room_1) (fun a U => a = #[(.long q1), (.long q2), (.long q3), (.int p4)] ∧ Z.Warmed39 U.vm ∧ U.heap = h0) (fun _ _ _ _ _ => True) (fun _ U o U' => ∃ v L, o = .returned v ∧ Q_rm0 Z q1 q2 q3 p4 h0 n0 v U'.heap L ∧ FrameEnd U o U' L room_1.cells room_1.slots) := by
  refine MetFree.of_bodySF (plainFor_of_name pn_15) hisR ?_
  intro p e s m args below meth c s₁ Bd hml0 hP hK
  obtain ⟨rfl, hZ, hh⟩ := hP
  have hx := Bd.exec
  have hby := Bd.bytes
  have hml : c.maxLocals = 15 := hml0
  have hown : s.vm.findClass "com/example/tailrace/tailrace/engine/KeyedAccumulatorsFiresByPinLaw" = some m.cls := findClass_of_methodNamed Bd.named
  have hnm := (name_of_methodNamed Bd.named Bd.method).1
  have X0 : Stand p l e room_1 s m #[(.long q1), (.long q2), (.long q3), (.int p4)] below meth c s₁ [] 0 0 := Stand.of_body Bd
  have e0 : s₁.heap = h0 := by rw [← hh, Bd.state]; rfl
  have N0 := Fr.nil n0
  have pre0 : ∀ t, Steps p.tables e below (s₁.setTop (mkF m 0 #[.val (.long q1), .second, .val (.long q2), .second, .val (.long q3), .second, .val (.int p4), .unset, .unset, .unset, .unset, .unset, .unset, .unset, .unset] [])) t → Steps p.tables e below (s₁.setTop (entryFrame m #[(.long q1), (.long q2), (.long q3), (.int p4)] maxLocals)) t := fun t k => castTop (ef_rm0 m q1 q2 q3 p4) k
  change Go p.tables e below (fun o U' => ∃ v L, o = .returned v ∧ Q_rm0 Z q1 q2 q3 p4 h0 n0 v U'.heap L ∧ FrameEnd s o U' L room_1.cells room_1.slots) (s₁.setTop (entryFrame m #[(.long q1), (.long q2), (.long q3), (.int p4)] maxLocals))
  refine Go.on pre0 ?_
  refine Go.on (B := s₁.setTop (mkF m 1 #[.val (.long q1), .second, .val (.long q2), .second, .val (.long q3), .second, .val (.int p4), .unset, .unset, .unset, .unset, .unset, .unset, .unset, .unset] [(.long q1)])) (fun t k => XS.lloadN X0.here hx rfl (hb hby at_0) rfl k) ?_
  refine Go.on (B := s₁.setTop (mkF m 2 #[.val (.long q1), .second, .val (.long q2), .second, .val (.long q3), .second, .val (.int p4), .unset, .unset, .unset, .unset, .unset, .unset, .unset, .unset] [(.long q2), (.long q1)])) (fun t k => XS.lloadN X0.here hx rfl (hb hby at_1) rfl k) ?_
  obtain ⟨_, _, ⟨T1, L1, k1, n1⟩, -, X1, ⟨Lc1, hQ1, l1, y1, z1⟩, st1⟩ := Jvm.LawKit.callS X0 hx (y := (⟨"java/lang/Math", "min", "(JJ)J"⟩ : MethodName)) hown (mvT hZ (hw _ (List.mem_of_getElem? (i := 0) rfl))) (mvT hZ (hw _ (List.mem_of_getElem? (i := 1) rfl))) (mvT hZ (hw _ (List.mem_of_getElem? (i := 2) rfl))) (mvT hZ (hw _ (List.mem_of_getElem? (i := 3) rfl))) (by decide) (backOf (W := 0) (rmin l Z a0 hw [] q1 q2 h0 n0 Z0) hZ (hw _ (List.mem_of_getElem? (i := 3) rfl)) (hw _ (List.mem_of_getElem? (i := 2) rfl)) (by decide) (by decide)) (g := (mkF m 2 #[.val (.long q1), .second, .val (.long q2), .second, .val (.long q3), .second, .val (.int p4), .unset, .unset, .unset, .unset, .unset, .unset, .unset, .unset] [(.long q2), (.long q1)])) rfl (by rw [hml]; rfl) (argsL := [(.long q1), (.long q2)]) (rest := []) (lenOf pd_2 rfl) rfl (by show 2 * 0 + _ ≤ _; exact Nat.le_of_eq rfl) (hb hby at_2) (fun _ _ => ⟨rfl, e0, (by decide : 0 + 0 ≤ _), (by decide : 0 + 0 ≤ _)⟩)
  dsimp only [Pt.U, Pt.locs, Pt.cells, Pt.slots] at X1 l1 y1 z1 st1 hQ1
  subst l1 y1 z1
  obtain ⟨rfl, N1q, e1q⟩ := hQ1
  have N1 := Fr.app N0 N1q
  refine Go.on (B := T1.setTop (mkF m 5 #[.val (.long q1), .second, .val (.long q2), .second, .val (.long q3), .second, .val (.int p4), .unset, .unset, .unset, .unset, .unset, .unset, .unset, .unset] [(.long (if q2 < q1 then q2 else q1))])) (fun t k => st1 _ k) ?_
  generalize hv5_2 : (if q2 < q1 then q2 else q1) = v5_2
  refine Go.on (B := T1.setTop (mkF m 7 #[.val (.long q1), .second, .val (.long q2), .second, .val (.long q3), .second, .val (.int p4), .val (.long v5_2), .second, .unset, .unset, .unset, .unset, .unset, .unset] [])) (fun t k => XS.lstore X1.here hx rfl (hb hby at_5) rfl (l' := #[.val (.long q1), .second, .val (.long q2), .second, .val (.long q3), .second, .val (.int p4), .val (.long v5_2), .second, .unset, .unset, .unset, .unset, .unset, .unset]) rfl k) ?_
  refine Go.on (B := T1.setTop (mkF m 8 #[.val (.long q1), .second, .val (.long q2), .second, .val (.long q3), .second, .val (.int p4), .val (.long v5_2), .second, .unset, .unset, .unset, .unset, .unset, .unset] [(.long q1)])) (fun t k => XS.lloadN X1.here hx rfl (hb hby at_7) rfl k) ?_
  refine Go.on (B := T1.setTop (mkF m 9 #[.val (.long q1), .second, .val (.long q2), .second, .val (.long q3), .second, .val (.int p4), .val (.long v5_2), .second, .unset, .unset, .unset, .unset, .unset, .unset] [(.long q2), (.long q1)])) (fun t k => XS.lloadN X1.here hx rfl (hb hby at_8) rfl k) ?_
  obtain ⟨_, _, ⟨T3, L3, k3, n3⟩, -, X3, ⟨Lc3, hQ3, l3, y3, z3⟩, st3⟩ := Jvm.LawKit.callS X1 hx (y := (⟨"java/lang/Math", "max", "(JJ)J"⟩ : MethodName)) hown (mvT hZ (hw _ (List.mem_of_getElem? (i := 4) rfl))) (mvT hZ (hw _ (List.mem_of_getElem? (i := 5) rfl))) (mvT hZ (hw _ (List.mem_of_getElem? (i := 2) rfl))) (mvT hZ (hw _ (List.mem_of_getElem? (i := 6) rfl))) (by decide) (backOf (W := 0) (rmax l Z a0 hw [] q1 q2 h0 n0 Z0) hZ (hw _ (List.mem_of_getElem? (i := 6) rfl)) (hw _ (List.mem_of_getElem? (i := 2) rfl)) (by decide) (by decide)) (g := (mkF m 9 #[.val (.long q1), .second, .val (.long q2), .second, .val (.long q3), .second, .val (.int p4), .val (.long v5_2), .second, .unset, .unset, .unset, .unset, .unset, .unset] [(.long q2), (.long q1)])) rfl (by rw [hml]; rfl) (argsL := [(.long q1), (.long q2)]) (rest := []) (lenOf pd_2 rfl) rfl (by show 2 * 0 + _ ≤ _; exact Nat.le_of_eq rfl) (hb hby at_9) (fun _ _ => ⟨rfl, e1q, (by decide : 0 + 0 ≤ _), (by decide : 0 + 0 ≤ _)⟩)
  dsimp only [Pt.U, Pt.locs, Pt.cells, Pt.slots] at X3 l3 y3 z3 st3 hQ3
  subst l3 y3 z3
  obtain ⟨rfl, N3q, e3q⟩ := hQ3
  have N3 := Fr.app N1 N3q
  refine Go.on (B := T3.setTop (mkF m 12 #[.val (.long q1), .second, .val (.long q2), .second, .val (.long q3), .second, .val (.int p4), .val (.long v5_2), .second, .unset, .unset, .unset, .unset, .unset, .unset] [(.long (if q1 < q2 then q2 else q1))])) (fun t k => st3 _ k) ?_
  generalize hv12_4 : (if q1 < q2 then q2 else q1) = v12_4
  refine Go.on (B := T3.setTop (mkF m 14 #[.val (.long q1), .second, .val (.long q2), .second, .val (.long q3), .second, .val (.int p4), .val (.long v5_2), .second, .val (.long v12_4), .second, .unset, .unset, .unset, .unset] [])) (fun t k => XS.lstore X3.here hx rfl (hb hby at_12) rfl (l' := #[.val (.long q1), .second, .val (.long q2), .second, .val (.long q3), .second, .val (.int p4), .val (.long v5_2), .second, .val (.long v12_4), .second, .unset, .unset, .unset, .unset]) rfl k) ?_
  refine Go.on (B := T3.setTop (mkF m 16 #[.val (.long q1), .second, .val (.long q2), .second, .val (.long q3), .second, .val (.int p4), .val (.long v5_2), .second, .val (.long v12_4), .second, .unset, .unset, .unset, .unset] [(.long v5_2)])) (fun t k => XS.lload X3.here hx rfl (hb hby at_14) rfl k) ?_
  refine Go.on (B := T3.setTop (mkF m 18 #[.val (.long q1), .second, .val (.long q2), .second, .val (.long q3), .second, .val (.int p4), .val (.long v5_2), .second, .val (.long v12_4), .second, .unset, .unset, .unset, .unset] [(.long v12_4), (.long v5_2)])) (fun t k => XS.lload X3.here hx rfl (hb hby at_16) rfl k) ?_
  refine Go.on (B := T3.setTop (mkF m 19 #[.val (.long q1), .second, .val (.long q2), .second, .val (.long q3), .second, .val (.int p4), .val (.long v5_2), .second, .val (.long v12_4), .second, .unset, .unset, .unset, .unset] [(.int (lcmpW v5_2 v12_4))])) (fun t k => XS.lcmp X3.here hx rfl (hb hby at_18) rfl k) ?_
  have sg19_5 : ∀ (z19_a5 : Int64) (z19_b5 : Int64) (hz19_a5 : z19_a5 = (if v5_2 = v12_4 then (if v12_4 = (9223372036854775807 : Int64) then (v12_4 - (1 : Int64)) else v5_2) else v5_2)) (hz19_b5 : z19_b5 = (if v5_2 = v12_4 then (if v12_4 = (9223372036854775807 : Int64) then v12_4 else (v12_4 + (1 : Int64))) else v12_4)), ∀ t, Steps p.tables e below (T3.setTop (mkF m 46 #[.val (.long q1), .second, .val (.long q2), .second, .val (.long q3), .second, .val (.int p4), .val (.long z19_a5), .second, .val (.long z19_b5), .second, .unset, .unset, .unset, .unset] [])) t → Steps p.tables e below (T3.setTop (mkF m 19 #[.val (.long q1), .second, .val (.long q2), .second, .val (.long q3), .second, .val (.int p4), .val (.long v5_2), .second, .val (.long v12_4), .second, .unset, .unset, .unset, .unset] [(.int (lcmpW v5_2 v12_4))])) t := by
    intro z19_a5 z19_b5 hz19_a5 hz19_b5 t k
    show Steps p.tables e below (T3.setTop (mkF m 19 #[.val (.long q1), .second, .val (.long q2), .second, .val (.long q3), .second, .val (.int p4), .val (.long v5_2), .second, .val (.long v12_4), .second, .unset, .unset, .unset, .unset] [(.int (lcmpW v5_2 v12_4))])) _
    by_cases hc19_6 : v5_2 = v12_4
    · first | rw [if_pos hc19_6] at hz19_a5 | skip
      first | rw [if_pos hc19_6] at hz19_b5 | skip
      refine XS.ifNo X3.here hx rfl (hb hby at_19) rfl ((if0 _ _).trans (teq ((lw_eq _ _).mpr hc19_6)).2) ?_
      show Steps p.tables e below (T3.setTop (mkF m 22 #[.val (.long q1), .second, .val (.long q2), .second, .val (.long q3), .second, .val (.int p4), .val (.long v5_2), .second, .val (.long v12_4), .second, .unset, .unset, .unset, .unset] [])) _
      refine XS.lload X3.here hx rfl (hb hby at_22) rfl ?_
      show Steps p.tables e below (T3.setTop (mkF m 24 #[.val (.long q1), .second, .val (.long q2), .second, .val (.long q3), .second, .val (.int p4), .val (.long v5_2), .second, .val (.long v12_4), .second, .unset, .unset, .unset, .unset] [(.long v12_4)])) _
      refine X3.ldc2Long hx hown (mvT hZ (hw _ (List.mem_of_getElem? (i := 25) rfl))) (g := (mkF m 24 #[.val (.long q1), .second, .val (.long q2), .second, .val (.long q3), .second, .val (.int p4), .val (.long v5_2), .second, .val (.long v12_4), .second, .unset, .unset, .unset, .unset] [(.long v12_4)])) rfl (hb hby at_24) _ ?_
      show Steps p.tables e below (T3.setTop (mkF m 27 #[.val (.long q1), .second, .val (.long q2), .second, .val (.long q3), .second, .val (.int p4), .val (.long v5_2), .second, .val (.long v12_4), .second, .unset, .unset, .unset, .unset] [(.long (9223372036854775807 : Int64)), (.long v12_4)])) _
      refine XS.lcmp X3.here hx rfl (hb hby at_27) rfl ?_
      show Steps p.tables e below (T3.setTop (mkF m 28 #[.val (.long q1), .second, .val (.long q2), .second, .val (.long q3), .second, .val (.int p4), .val (.long v5_2), .second, .val (.long v12_4), .second, .unset, .unset, .unset, .unset] [(.int (lcmpW v12_4 (9223372036854775807 : Int64)))])) _
      by_cases hc28_7 : v12_4 = (9223372036854775807 : Int64)
      · first | rw [if_pos hc28_7] at hz19_a5 | skip
        first | rw [if_pos hc28_7] at hz19_b5 | skip
        refine XS.ifNo X3.here hx rfl (hb hby at_28) rfl ((if0 _ _).trans (teq ((lw_eq _ _).mpr hc28_7)).2) ?_
        show Steps p.tables e below (T3.setTop (mkF m 31 #[.val (.long q1), .second, .val (.long q2), .second, .val (.long q3), .second, .val (.int p4), .val (.long v5_2), .second, .val (.long v12_4), .second, .unset, .unset, .unset, .unset] [])) _
        refine XS.lload X3.here hx rfl (hb hby at_31) rfl ?_
        show Steps p.tables e below (T3.setTop (mkF m 33 #[.val (.long q1), .second, .val (.long q2), .second, .val (.long q3), .second, .val (.int p4), .val (.long v5_2), .second, .val (.long v12_4), .second, .unset, .unset, .unset, .unset] [(.long v12_4)])) _
        refine XS.lconst X3.here hx rfl (hb hby at_33) ?_
        show Steps p.tables e below (T3.setTop (mkF m 34 #[.val (.long q1), .second, .val (.long q2), .second, .val (.long q3), .second, .val (.int p4), .val (.long v5_2), .second, .val (.long v12_4), .second, .unset, .unset, .unset, .unset] [(.long (1 : Int64)), (.long v12_4)])) _
        refine XS.lsub X3.here hx rfl (hb hby at_34) rfl ?_
        show Steps p.tables e below (T3.setTop (mkF m 35 #[.val (.long q1), .second, .val (.long q2), .second, .val (.long q3), .second, .val (.int p4), .val (.long v5_2), .second, .val (.long v12_4), .second, .unset, .unset, .unset, .unset] [(.long (v12_4 - (1 : Int64)))])) _
        refine XS.lstore X3.here hx rfl (hb hby at_35) rfl (l' := #[.val (.long q1), .second, .val (.long q2), .second, .val (.long q3), .second, .val (.int p4), .val (.long (v12_4 - (1 : Int64))), .second, .val (.long v12_4), .second, .unset, .unset, .unset, .unset]) rfl ?_
        show Steps p.tables e below (T3.setTop (mkF m 37 #[.val (.long q1), .second, .val (.long q2), .second, .val (.long q3), .second, .val (.int p4), .val (.long (v12_4 - (1 : Int64))), .second, .val (.long v12_4), .second, .unset, .unset, .unset, .unset] [])) _
        refine XS.goto X3.here hx rfl (pc0 := 37) (pc' := 46) rfl (hb hby at_37) (by decide) (by decide) ?_
        show Steps p.tables e below (T3.setTop (mkF m 46 #[.val (.long q1), .second, .val (.long q2), .second, .val (.long q3), .second, .val (.int p4), .val (.long (v12_4 - (1 : Int64))), .second, .val (.long v12_4), .second, .unset, .unset, .unset, .unset] [])) _
        subst hz19_a5
        subst hz19_b5
        exact k
      · first | rw [if_neg hc28_7] at hz19_a5 | skip
        first | rw [if_neg hc28_7] at hz19_b5 | skip
        refine XS.ifYes X3.here hx rfl (pc0 := 28) (pc' := 40) rfl (hb hby at_28) rfl ((if0 _ _).trans (feq (mt (lw_eq _ _).mp hc28_7)).2) (by decide) (by decide) ?_
        show Steps p.tables e below (T3.setTop (mkF m 40 #[.val (.long q1), .second, .val (.long q2), .second, .val (.long q3), .second, .val (.int p4), .val (.long v5_2), .second, .val (.long v12_4), .second, .unset, .unset, .unset, .unset] [])) _
        refine XS.lload X3.here hx rfl (hb hby at_40) rfl ?_
        show Steps p.tables e below (T3.setTop (mkF m 42 #[.val (.long q1), .second, .val (.long q2), .second, .val (.long q3), .second, .val (.int p4), .val (.long v5_2), .second, .val (.long v12_4), .second, .unset, .unset, .unset, .unset] [(.long v12_4)])) _
        refine XS.lconst X3.here hx rfl (hb hby at_42) ?_
        show Steps p.tables e below (T3.setTop (mkF m 43 #[.val (.long q1), .second, .val (.long q2), .second, .val (.long q3), .second, .val (.int p4), .val (.long v5_2), .second, .val (.long v12_4), .second, .unset, .unset, .unset, .unset] [(.long (1 : Int64)), (.long v12_4)])) _
        refine XS.ladd X3.here hx rfl (hb hby at_43) rfl ?_
        show Steps p.tables e below (T3.setTop (mkF m 44 #[.val (.long q1), .second, .val (.long q2), .second, .val (.long q3), .second, .val (.int p4), .val (.long v5_2), .second, .val (.long v12_4), .second, .unset, .unset, .unset, .unset] [(.long (v12_4 + (1 : Int64)))])) _
        refine XS.lstore X3.here hx rfl (hb hby at_44) rfl (l' := #[.val (.long q1), .second, .val (.long q2), .second, .val (.long q3), .second, .val (.int p4), .val (.long v5_2), .second, .val (.long (v12_4 + (1 : Int64))), .second, .unset, .unset, .unset, .unset]) rfl ?_
        show Steps p.tables e below (T3.setTop (mkF m 46 #[.val (.long q1), .second, .val (.long q2), .second, .val (.long q3), .second, .val (.int p4), .val (.long v5_2), .second, .val (.long (v12_4 + (1 : Int64))), .second, .unset, .unset, .unset, .unset] [])) _
        subst hz19_a5
        subst hz19_b5
        exact k
    · first | rw [if_neg hc19_6] at hz19_a5 | skip
      first | rw [if_neg hc19_6] at hz19_b5 | skip
      refine XS.ifYes X3.here hx rfl (pc0 := 19) (pc' := 46) rfl (hb hby at_19) rfl ((if0 _ _).trans (feq (mt (lw_eq _ _).mp hc19_6)).2) (by decide) (by decide) ?_
      show Steps p.tables e below (T3.setTop (mkF m 46 #[.val (.long q1), .second, .val (.long q2), .second, .val (.long q3), .second, .val (.int p4), .val (.long v5_2), .second, .val (.long v12_4), .second, .unset, .unset, .unset, .unset] [])) _
      subst hz19_a5
      subst hz19_b5
      exact k
  obtain ⟨z19_a5, hz19_a5⟩ : ∃ z, z = (if v5_2 = v12_4 then (if v12_4 = (9223372036854775807 : Int64) then (v12_4 - (1 : Int64)) else v5_2) else v5_2) := ⟨_, rfl⟩
  obtain ⟨z19_b5, hz19_b5⟩ : ∃ z, z = (if v5_2 = v12_4 then (if v12_4 = (9223372036854775807 : Int64) then v12_4 else (v12_4 + (1 : Int64))) else v12_4) := ⟨_, rfl⟩
  refine Go.on (sg19_5 z19_a5 z19_b5 hz19_a5 hz19_b5) ?_
  have hlt : z19_a5 < z19_b5 := own_lohi q1 q2 v5_2 v12_4 z19_a5 z19_b5 hv5_2 hv12_4 hz19_a5 hz19_b5
  obtain ⟨T10, h10, X10, e10, E10, A10, D10, -, st10⟩ := newO X3 hx hZ hown (hw _ (List.mem_of_getElem? (i := 7) rfl)) (hw _ (List.mem_of_getElem? (i := 8) rfl)) (hw _ (List.mem_of_getElem? (i := 9) rfl)) e3q (g := (mkF m 46 #[.val (.long q1), .second, .val (.long q2), .second, .val (.long q3), .second, .val (.int p4), .val (.long z19_a5), .second, .val (.long z19_b5), .second, .unset, .unset, .unset, .unset] [])) rfl (hb hby at_46) (by decide) (by decide)
  obtain ⟨b10, g10⟩ : ∃ z, z = h0.size := ⟨_, rfl⟩
  rw [← g10] at A10 D10 st10
  have ge_b10 : n0 ≤ b10 := Nat.le_trans Z0 (Nat.le_of_eq g10.symm)
  have Zs1 := Nat.le_trans Z0 E10.1
  have F10_start : Fld Z h10 b10 "com/example/tailrace/tailrace/api/Window" "start" "J" (.long (0 : Int64)) := D10 (Or.inr (hw _ (List.mem_of_getElem? (i := 22) rfl))) (ty := .long) (by decide)
  have F10_end : Fld Z h10 b10 "com/example/tailrace/tailrace/api/Window" "end" "J" (.long (0 : Int64)) := D10 (Or.inr (hw _ (List.mem_of_getElem? (i := 24) rfl))) (ty := .long) (by decide)
  refine Go.on (B := T10.setTop (mkF m 49 #[.val (.long q1), .second, .val (.long q2), .second, .val (.long q3), .second, .val (.int p4), .val (.long z19_a5), .second, .val (.long z19_b5), .second, .unset, .unset, .unset, .unset] [(.ref b10)])) (fun t k => st10 _ k) ?_
  refine Go.on (B := T10.setTop (mkF m 50 #[.val (.long q1), .second, .val (.long q2), .second, .val (.long q3), .second, .val (.int p4), .val (.long z19_a5), .second, .val (.long z19_b5), .second, .unset, .unset, .unset, .unset] [(.ref b10), (.ref b10)])) (fun t k => XS.dup X10.here hx rfl (hb hby at_49) rfl rfl k) ?_
  refine Go.on (B := T10.setTop (mkF m 52 #[.val (.long q1), .second, .val (.long q2), .second, .val (.long q3), .second, .val (.int p4), .val (.long z19_a5), .second, .val (.long z19_b5), .second, .unset, .unset, .unset, .unset] [(.long z19_a5), (.ref b10), (.ref b10)])) (fun t k => XS.lload X10.here hx rfl (hb hby at_50) rfl k) ?_
  refine Go.on (B := T10.setTop (mkF m 54 #[.val (.long q1), .second, .val (.long q2), .second, .val (.long q3), .second, .val (.int p4), .val (.long z19_a5), .second, .val (.long z19_b5), .second, .unset, .unset, .unset, .unset] [(.long z19_b5), (.long z19_a5), (.ref b10), (.ref b10)])) (fun t k => XS.lload X10.here hx rfl (hb hby at_52) rfl k) ?_
  obtain ⟨_, _, ⟨T11, L11, k11, n11⟩, -, X11, ⟨Lc11, hQ11, l11, y11, z11⟩, st11⟩ := X10.specialBack hx (y := (⟨"com/example/tailrace/tailrace/api/Window", "<init>", "(JJ)V"⟩ : MethodName)) rfl hown (mvT hZ (hw _ (List.mem_of_getElem? (i := 10) rfl))) (mvT hZ (hw _ (List.mem_of_getElem? (i := 11) rfl))) (mvT hZ (hw _ (List.mem_of_getElem? (i := 12) rfl))) (by decide) (backOf (W := 1) (rwin l Z a0 hw [] b10 z19_a5 z19_b5 h10 n0 Zs1 A10 F10_start F10_end ge_b10 hlt) hZ (hw _ (List.mem_of_getElem? (i := 12) rfl)) (hw _ (List.mem_of_getElem? (i := 9) rfl)) (by decide) (by decide)) (g := (mkF m 54 #[.val (.long q1), .second, .val (.long q2), .second, .val (.long q3), .second, .val (.int p4), .val (.long z19_a5), .second, .val (.long z19_b5), .second, .unset, .unset, .unset, .unset] [(.long z19_b5), (.long z19_a5), (.ref b10), (.ref b10)])) rfl (by rw [hml]; rfl) (Steps.refl _) (a := b10) (argsL := [(.long z19_a5), (.long z19_b5)]) (rest := [(.ref b10)]) (lenOf pd_3 rfl) rfl (by show 2 * 0 + _ ≤ _; exact Nat.le_of_eq rfl) (hb hby at_54) (fun _ _ => ⟨rfl, e10, (by decide : 1 + 0 ≤ _), (by decide : 2 + 0 ≤ _)⟩)
  dsimp only [Pt.U, Pt.locs, Pt.cells, Pt.slots] at X11 l11 y11 z11 st11 hQ11
  subst l11 y11 z11
  obtain ⟨rfl, N11q, K11q, G11_0, G11_1, G11_2⟩ := hQ11
  have N11 := Fr.app N3 N11q
  have f2 := A10.keep K11q
  have Zs3 := Nat.le_trans Zs1 K11q.1
  refine Go.on (B := T11.setTop (mkF m 57 #[.val (.long q1), .second, .val (.long q2), .second, .val (.long q3), .second, .val (.int p4), .val (.long z19_a5), .second, .val (.long z19_b5), .second, .unset, .unset, .unset, .unset] [(.ref b10)])) (fun t k => st11.trans k) ?_
  refine Go.on (B := T11.setTop (mkF m 59 #[.val (.long q1), .second, .val (.long q2), .second, .val (.long q3), .second, .val (.int p4), .val (.long z19_a5), .second, .val (.long z19_b5), .second, .val (.ref b10), .unset, .unset, .unset] [])) (fun t k => XS.astore X11.here hx rfl (hb hby at_57) rfl rfl (l' := #[.val (.long q1), .second, .val (.long q2), .second, .val (.long q3), .second, .val (.int p4), .val (.long z19_a5), .second, .val (.long z19_b5), .second, .val (.ref b10), .unset, .unset, .unset]) rfl k) ?_
  refine Go.on (B := T11.setTop (mkF m 61 #[.val (.long q1), .second, .val (.long q2), .second, .val (.long q3), .second, .val (.int p4), .val (.long z19_a5), .second, .val (.long z19_b5), .second, .val (.ref b10), .unset, .unset, .unset] [(.int p4)])) (fun t k => XS.iload X11.here hx rfl (hb hby at_59) rfl k) ?_
  refine Go.on (B := T11.setTop (mkF m 62 #[.val (.long q1), .second, .val (.long q2), .second, .val (.long q3), .second, .val (.int p4), .val (.long z19_a5), .second, .val (.long z19_b5), .second, .val (.ref b10), .unset, .unset, .unset] [(.int (1 : Int32)), (.int p4)])) (fun t k => XS.iconst X11.here hx rfl (hb hby at_61) k) ?_
  refine Go.on (B := T11.setTop (mkF m 63 #[.val (.long q1), .second, .val (.long q2), .second, .val (.long q3), .second, .val (.int p4), .val (.long z19_a5), .second, .val (.long z19_b5), .second, .val (.ref b10), .unset, .unset, .unset] [(.int (p4 &&& (1 : Int32)))])) (fun t k => XS.iand X11.here hx rfl (hb hby at_62) rfl k) ?_
  have sg63_12 : ∀ (z63_a12 : Int64) (hz63_a12 : z63_a12 = (if (p4 &&& (1 : Int32)) = (0 : Int32) then q3 else ((z19_b5 + (q3 - (q3 / (4 : Int64)) * (4 : Int64))) - (2 : Int64)))), ∀ t, Steps p.tables e below (T11.setTop (mkF m 84 #[.val (.long q1), .second, .val (.long q2), .second, .val (.long q3), .second, .val (.int p4), .val (.long z19_a5), .second, .val (.long z19_b5), .second, .val (.ref b10), .unset, .unset, .unset] [(.long z63_a12)])) t → Steps p.tables e below (T11.setTop (mkF m 63 #[.val (.long q1), .second, .val (.long q2), .second, .val (.long q3), .second, .val (.int p4), .val (.long z19_a5), .second, .val (.long z19_b5), .second, .val (.ref b10), .unset, .unset, .unset] [(.int (p4 &&& (1 : Int32)))])) t := by
    intro z63_a12 hz63_a12 t k
    show Steps p.tables e below (T11.setTop (mkF m 63 #[.val (.long q1), .second, .val (.long q2), .second, .val (.long q3), .second, .val (.int p4), .val (.long z19_a5), .second, .val (.long z19_b5), .second, .val (.ref b10), .unset, .unset, .unset] [(.int (p4 &&& (1 : Int32)))])) _
    by_cases hc63_13 : (p4 &&& (1 : Int32)) = (0 : Int32)
    · first | rw [if_pos hc63_13] at hz63_a12 | skip
      refine XS.ifNo X11.here hx rfl (hb hby at_63) rfl ((if0 _ _).trans (teq hc63_13).2) ?_
      show Steps p.tables e below (T11.setTop (mkF m 66 #[.val (.long q1), .second, .val (.long q2), .second, .val (.long q3), .second, .val (.int p4), .val (.long z19_a5), .second, .val (.long z19_b5), .second, .val (.ref b10), .unset, .unset, .unset] [])) _
      refine XS.lload X11.here hx rfl (hb hby at_66) rfl ?_
      show Steps p.tables e below (T11.setTop (mkF m 68 #[.val (.long q1), .second, .val (.long q2), .second, .val (.long q3), .second, .val (.int p4), .val (.long z19_a5), .second, .val (.long z19_b5), .second, .val (.ref b10), .unset, .unset, .unset] [(.long q3)])) _
      refine XS.goto X11.here hx rfl (pc0 := 68) (pc' := 84) rfl (hb hby at_68) (by decide) (by decide) ?_
      show Steps p.tables e below (T11.setTop (mkF m 84 #[.val (.long q1), .second, .val (.long q2), .second, .val (.long q3), .second, .val (.int p4), .val (.long z19_a5), .second, .val (.long z19_b5), .second, .val (.ref b10), .unset, .unset, .unset] [(.long q3)])) _
      subst hz63_a12
      exact k
    · first | rw [if_neg hc63_13] at hz63_a12 | skip
      refine XS.ifYes X11.here hx rfl (pc0 := 63) (pc' := 71) rfl (hb hby at_63) rfl ((if0 _ _).trans (feq hc63_13).2) (by decide) (by decide) ?_
      show Steps p.tables e below (T11.setTop (mkF m 71 #[.val (.long q1), .second, .val (.long q2), .second, .val (.long q3), .second, .val (.int p4), .val (.long z19_a5), .second, .val (.long z19_b5), .second, .val (.ref b10), .unset, .unset, .unset] [])) _
      refine XS.lload X11.here hx rfl (hb hby at_71) rfl ?_
      show Steps p.tables e below (T11.setTop (mkF m 73 #[.val (.long q1), .second, .val (.long q2), .second, .val (.long q3), .second, .val (.int p4), .val (.long z19_a5), .second, .val (.long z19_b5), .second, .val (.ref b10), .unset, .unset, .unset] [(.long z19_b5)])) _
      refine XS.lload X11.here hx rfl (hb hby at_73) rfl ?_
      show Steps p.tables e below (T11.setTop (mkF m 75 #[.val (.long q1), .second, .val (.long q2), .second, .val (.long q3), .second, .val (.int p4), .val (.long z19_a5), .second, .val (.long z19_b5), .second, .val (.ref b10), .unset, .unset, .unset] [(.long q3), (.long z19_b5)])) _
      refine X11.ldc2Long hx hown (mvT hZ (hw _ (List.mem_of_getElem? (i := 35) rfl))) (g := (mkF m 75 #[.val (.long q1), .second, .val (.long q2), .second, .val (.long q3), .second, .val (.int p4), .val (.long z19_a5), .second, .val (.long z19_b5), .second, .val (.ref b10), .unset, .unset, .unset] [(.long q3), (.long z19_b5)])) rfl (hb hby at_75) _ ?_
      show Steps p.tables e below (T11.setTop (mkF m 78 #[.val (.long q1), .second, .val (.long q2), .second, .val (.long q3), .second, .val (.int p4), .val (.long z19_a5), .second, .val (.long z19_b5), .second, .val (.ref b10), .unset, .unset, .unset] [(.long (4 : Int64)), (.long q3), (.long z19_b5)])) _
      refine XS.lrem X11.here hx rfl (hb hby at_78) rfl (by decide) ?_
      show Steps p.tables e below (T11.setTop (mkF m 79 #[.val (.long q1), .second, .val (.long q2), .second, .val (.long q3), .second, .val (.int p4), .val (.long z19_a5), .second, .val (.long z19_b5), .second, .val (.ref b10), .unset, .unset, .unset] [(.long (q3 - (q3 / (4 : Int64)) * (4 : Int64))), (.long z19_b5)])) _
      refine XS.ladd X11.here hx rfl (hb hby at_79) rfl ?_
      show Steps p.tables e below (T11.setTop (mkF m 80 #[.val (.long q1), .second, .val (.long q2), .second, .val (.long q3), .second, .val (.int p4), .val (.long z19_a5), .second, .val (.long z19_b5), .second, .val (.ref b10), .unset, .unset, .unset] [(.long (z19_b5 + (q3 - (q3 / (4 : Int64)) * (4 : Int64))))])) _
      refine X11.ldc2Long hx hown (mvT hZ (hw _ (List.mem_of_getElem? (i := 36) rfl))) (g := (mkF m 80 #[.val (.long q1), .second, .val (.long q2), .second, .val (.long q3), .second, .val (.int p4), .val (.long z19_a5), .second, .val (.long z19_b5), .second, .val (.ref b10), .unset, .unset, .unset] [(.long (z19_b5 + (q3 - (q3 / (4 : Int64)) * (4 : Int64))))])) rfl (hb hby at_80) _ ?_
      show Steps p.tables e below (T11.setTop (mkF m 83 #[.val (.long q1), .second, .val (.long q2), .second, .val (.long q3), .second, .val (.int p4), .val (.long z19_a5), .second, .val (.long z19_b5), .second, .val (.ref b10), .unset, .unset, .unset] [(.long (2 : Int64)), (.long (z19_b5 + (q3 - (q3 / (4 : Int64)) * (4 : Int64))))])) _
      refine XS.lsub X11.here hx rfl (hb hby at_83) rfl ?_
      show Steps p.tables e below (T11.setTop (mkF m 84 #[.val (.long q1), .second, .val (.long q2), .second, .val (.long q3), .second, .val (.int p4), .val (.long z19_a5), .second, .val (.long z19_b5), .second, .val (.ref b10), .unset, .unset, .unset] [(.long ((z19_b5 + (q3 - (q3 / (4 : Int64)) * (4 : Int64))) - (2 : Int64)))])) _
      subst hz63_a12
      exact k
  obtain ⟨z63_a12, hz63_a12⟩ : ∃ z, z = (if (p4 &&& (1 : Int32)) = (0 : Int32) then q3 else ((z19_b5 + (q3 - (q3 / (4 : Int64)) * (4 : Int64))) - (2 : Int64))) := ⟨_, rfl⟩
  refine Go.on (sg63_12 z63_a12 hz63_a12) ?_
  refine Go.on (B := T11.setTop (mkF m 86 #[.val (.long q1), .second, .val (.long q2), .second, .val (.long q3), .second, .val (.int p4), .val (.long z19_a5), .second, .val (.long z19_b5), .second, .val (.ref b10), .val (.long z63_a12), .second, .unset] [])) (fun t k => XS.lstore X11.here hx rfl (hb hby at_84) rfl (l' := #[.val (.long q1), .second, .val (.long q2), .second, .val (.long q3), .second, .val (.int p4), .val (.long z19_a5), .second, .val (.long z19_b5), .second, .val (.ref b10), .val (.long z63_a12), .second, .unset]) rfl k) ?_
  refine Go.on (B := T11.setTop (mkF m 88 #[.val (.long q1), .second, .val (.long q2), .second, .val (.long q3), .second, .val (.int p4), .val (.long z19_a5), .second, .val (.long z19_b5), .second, .val (.ref b10), .val (.long z63_a12), .second, .unset] [(.long z63_a12)])) (fun t k => XS.lload X11.here hx rfl (hb hby at_86) rfl k) ?_
  refine Go.on (B := T11.setTop (mkF m 91 #[.val (.long q1), .second, .val (.long q2), .second, .val (.long q3), .second, .val (.int p4), .val (.long z19_a5), .second, .val (.long z19_b5), .second, .val (.ref b10), .val (.long z63_a12), .second, .unset] [(.long (9223372036854775807 : Int64)), (.long z63_a12)])) (fun t k => X11.ldc2Long hx hown (mvT hZ (hw _ (List.mem_of_getElem? (i := 25) rfl))) (g := (mkF m 88 #[.val (.long q1), .second, .val (.long q2), .second, .val (.long q3), .second, .val (.int p4), .val (.long z19_a5), .second, .val (.long z19_b5), .second, .val (.ref b10), .val (.long z63_a12), .second, .unset] [(.long z63_a12)])) rfl (hb hby at_88) _ k) ?_
  refine Go.on (B := T11.setTop (mkF m 92 #[.val (.long q1), .second, .val (.long q2), .second, .val (.long q3), .second, .val (.int p4), .val (.long z19_a5), .second, .val (.long z19_b5), .second, .val (.ref b10), .val (.long z63_a12), .second, .unset] [(.int (lcmpW z63_a12 (9223372036854775807 : Int64)))])) (fun t k => XS.lcmp X11.here hx rfl (hb hby at_91) rfl k) ?_
  have sg92_15 : ∀ (z92_a15 : Int32) (hz92_a15 : z92_a15 = (if z63_a12 = (9223372036854775807 : Int64) then (1 : Int32) else (if (z63_a12 + (1 : Int64)) < z19_b5 then (0 : Int32) else (1 : Int32)))), ∀ t, Steps p.tables e below (T11.setTop (mkF m 110 #[.val (.long q1), .second, .val (.long q2), .second, .val (.long q3), .second, .val (.int p4), .val (.long z19_a5), .second, .val (.long z19_b5), .second, .val (.ref b10), .val (.long z63_a12), .second, .unset] [(.int z92_a15)])) t → Steps p.tables e below (T11.setTop (mkF m 92 #[.val (.long q1), .second, .val (.long q2), .second, .val (.long q3), .second, .val (.int p4), .val (.long z19_a5), .second, .val (.long z19_b5), .second, .val (.ref b10), .val (.long z63_a12), .second, .unset] [(.int (lcmpW z63_a12 (9223372036854775807 : Int64)))])) t := by
    intro z92_a15 hz92_a15 t k
    show Steps p.tables e below (T11.setTop (mkF m 92 #[.val (.long q1), .second, .val (.long q2), .second, .val (.long q3), .second, .val (.int p4), .val (.long z19_a5), .second, .val (.long z19_b5), .second, .val (.ref b10), .val (.long z63_a12), .second, .unset] [(.int (lcmpW z63_a12 (9223372036854775807 : Int64)))])) _
    by_cases hc92_16 : z63_a12 = (9223372036854775807 : Int64)
    · first | rw [if_pos hc92_16] at hz92_a15 | skip
      refine XS.ifYes X11.here hx rfl (pc0 := 92) (pc' := 105) rfl (hb hby at_92) rfl ((if0 _ _).trans (teq ((lw_eq _ _).mpr hc92_16)).1) (by decide) (by decide) ?_
      show Steps p.tables e below (T11.setTop (mkF m 105 #[.val (.long q1), .second, .val (.long q2), .second, .val (.long q3), .second, .val (.int p4), .val (.long z19_a5), .second, .val (.long z19_b5), .second, .val (.ref b10), .val (.long z63_a12), .second, .unset] [])) _
      refine XS.iconst X11.here hx rfl (hb hby at_105) ?_
      show Steps p.tables e below (T11.setTop (mkF m 106 #[.val (.long q1), .second, .val (.long q2), .second, .val (.long q3), .second, .val (.int p4), .val (.long z19_a5), .second, .val (.long z19_b5), .second, .val (.ref b10), .val (.long z63_a12), .second, .unset] [(.int (1 : Int32))])) _
      refine XS.goto X11.here hx rfl (pc0 := 106) (pc' := 110) rfl (hb hby at_106) (by decide) (by decide) ?_
      show Steps p.tables e below (T11.setTop (mkF m 110 #[.val (.long q1), .second, .val (.long q2), .second, .val (.long q3), .second, .val (.int p4), .val (.long z19_a5), .second, .val (.long z19_b5), .second, .val (.ref b10), .val (.long z63_a12), .second, .unset] [(.int (1 : Int32))])) _
      subst hz92_a15
      exact k
    · first | rw [if_neg hc92_16] at hz92_a15 | skip
      refine XS.ifNo X11.here hx rfl (hb hby at_92) rfl ((if0 _ _).trans (feq (mt (lw_eq _ _).mp hc92_16)).1) ?_
      show Steps p.tables e below (T11.setTop (mkF m 95 #[.val (.long q1), .second, .val (.long q2), .second, .val (.long q3), .second, .val (.int p4), .val (.long z19_a5), .second, .val (.long z19_b5), .second, .val (.ref b10), .val (.long z63_a12), .second, .unset] [])) _
      refine XS.lload X11.here hx rfl (hb hby at_95) rfl ?_
      show Steps p.tables e below (T11.setTop (mkF m 97 #[.val (.long q1), .second, .val (.long q2), .second, .val (.long q3), .second, .val (.int p4), .val (.long z19_a5), .second, .val (.long z19_b5), .second, .val (.ref b10), .val (.long z63_a12), .second, .unset] [(.long z19_b5)])) _
      refine XS.lload X11.here hx rfl (hb hby at_97) rfl ?_
      show Steps p.tables e below (T11.setTop (mkF m 99 #[.val (.long q1), .second, .val (.long q2), .second, .val (.long q3), .second, .val (.int p4), .val (.long z19_a5), .second, .val (.long z19_b5), .second, .val (.ref b10), .val (.long z63_a12), .second, .unset] [(.long z63_a12), (.long z19_b5)])) _
      refine XS.lconst X11.here hx rfl (hb hby at_99) ?_
      show Steps p.tables e below (T11.setTop (mkF m 100 #[.val (.long q1), .second, .val (.long q2), .second, .val (.long q3), .second, .val (.int p4), .val (.long z19_a5), .second, .val (.long z19_b5), .second, .val (.ref b10), .val (.long z63_a12), .second, .unset] [(.long (1 : Int64)), (.long z63_a12), (.long z19_b5)])) _
      refine XS.ladd X11.here hx rfl (hb hby at_100) rfl ?_
      show Steps p.tables e below (T11.setTop (mkF m 101 #[.val (.long q1), .second, .val (.long q2), .second, .val (.long q3), .second, .val (.int p4), .val (.long z19_a5), .second, .val (.long z19_b5), .second, .val (.ref b10), .val (.long z63_a12), .second, .unset] [(.long (z63_a12 + (1 : Int64))), (.long z19_b5)])) _
      refine XS.lcmp X11.here hx rfl (hb hby at_101) rfl ?_
      show Steps p.tables e below (T11.setTop (mkF m 102 #[.val (.long q1), .second, .val (.long q2), .second, .val (.long q3), .second, .val (.int p4), .val (.long z19_a5), .second, .val (.long z19_b5), .second, .val (.ref b10), .val (.long z63_a12), .second, .unset] [(.int (lcmpW z19_b5 (z63_a12 + (1 : Int64))))])) _
      by_cases hc102_17 : (z63_a12 + (1 : Int64)) < z19_b5
      · first | rw [if_pos hc102_17] at hz92_a15 | skip
        refine XS.ifYes X11.here hx rfl (pc0 := 102) (pc' := 109) rfl (hb hby at_102) rfl ((if0 _ _).trans (tlt ((lw_gt _ _).mpr hc102_17)).2.2.1) (by decide) (by decide) ?_
        show Steps p.tables e below (T11.setTop (mkF m 109 #[.val (.long q1), .second, .val (.long q2), .second, .val (.long q3), .second, .val (.int p4), .val (.long z19_a5), .second, .val (.long z19_b5), .second, .val (.ref b10), .val (.long z63_a12), .second, .unset] [])) _
        refine XS.iconst X11.here hx rfl (hb hby at_109) ?_
        show Steps p.tables e below (T11.setTop (mkF m 110 #[.val (.long q1), .second, .val (.long q2), .second, .val (.long q3), .second, .val (.int p4), .val (.long z19_a5), .second, .val (.long z19_b5), .second, .val (.ref b10), .val (.long z63_a12), .second, .unset] [(.int (0 : Int32))])) _
        subst hz92_a15
        exact k
      · first | rw [if_neg hc102_17] at hz92_a15 | skip
        refine XS.ifNo X11.here hx rfl (hb hby at_102) rfl ((if0 _ _).trans (flt (mt (lw_gt _ _).mp hc102_17)).2.2.1) ?_
        show Steps p.tables e below (T11.setTop (mkF m 105 #[.val (.long q1), .second, .val (.long q2), .second, .val (.long q3), .second, .val (.int p4), .val (.long z19_a5), .second, .val (.long z19_b5), .second, .val (.ref b10), .val (.long z63_a12), .second, .unset] [])) _
        refine XS.iconst X11.here hx rfl (hb hby at_105) ?_
        show Steps p.tables e below (T11.setTop (mkF m 106 #[.val (.long q1), .second, .val (.long q2), .second, .val (.long q3), .second, .val (.int p4), .val (.long z19_a5), .second, .val (.long z19_b5), .second, .val (.ref b10), .val (.long z63_a12), .second, .unset] [(.int (1 : Int32))])) _
        refine XS.goto X11.here hx rfl (pc0 := 106) (pc' := 110) rfl (hb hby at_106) (by decide) (by decide) ?_
        show Steps p.tables e below (T11.setTop (mkF m 110 #[.val (.long q1), .second, .val (.long q2), .second, .val (.long q3), .second, .val (.int p4), .val (.long z19_a5), .second, .val (.long z19_b5), .second, .val (.ref b10), .val (.long z63_a12), .second, .unset] [(.int (1 : Int32))])) _
        subst hz92_a15
        exact k
  obtain ⟨z92_a15, hz92_a15⟩ : ∃ z, z = (if z63_a12 = (9223372036854775807 : Int64) then (1 : Int32) else (if (z63_a12 + (1 : Int64)) < z19_b5 then (0 : Int32) else (1 : Int32))) := ⟨_, rfl⟩
  refine Go.on (sg92_15 z92_a15 hz92_a15) ?_
  refine Go.on (B := T11.setTop (mkF m 112 #[.val (.long q1), .second, .val (.long q2), .second, .val (.long q3), .second, .val (.int p4), .val (.long z19_a5), .second, .val (.long z19_b5), .second, .val (.ref b10), .val (.long z63_a12), .second, .val (.int z92_a15)] [])) (fun t k => XS.istore X11.here hx rfl (hb hby at_110) rfl (l' := #[.val (.long q1), .second, .val (.long q2), .second, .val (.long q3), .second, .val (.int p4), .val (.long z19_a5), .second, .val (.long z19_b5), .second, .val (.ref b10), .val (.long z63_a12), .second, .val (.int z92_a15)]) rfl k) ?_
  refine Go.on (B := T11.setTop (mkF m 114 #[.val (.long q1), .second, .val (.long q2), .second, .val (.long q3), .second, .val (.int p4), .val (.long z19_a5), .second, .val (.long z19_b5), .second, .val (.ref b10), .val (.long z63_a12), .second, .val (.int z92_a15)] [(.ref b10)])) (fun t k => XS.aload X11.here hx rfl (hb hby at_112) rfl rfl k) ?_
  refine Go.on (B := T11.setTop (mkF m 116 #[.val (.long q1), .second, .val (.long q2), .second, .val (.long q3), .second, .val (.int p4), .val (.long z19_a5), .second, .val (.long z19_b5), .second, .val (.ref b10), .val (.long z63_a12), .second, .val (.int z92_a15)] [(.long z63_a12), (.ref b10)])) (fun t k => XS.lload X11.here hx rfl (hb hby at_114) rfl k) ?_
  obtain ⟨_, _, ⟨T19, L19, k19, n19⟩, -, X19, ⟨Lc19, hQ19, l19, y19, z19⟩, st19⟩ := Jvm.LawKit.callS X11 hx (y := (⟨"com/example/tailrace/tailrace/engine/KeyedAccumulators", "firesBy", "(Lcom/example/tailrace/tailrace/api/Window;J)Z"⟩ : MethodName)) hown (mvT hZ (hw _ (List.mem_of_getElem? (i := 26) rfl))) (mvT hZ (hw _ (List.mem_of_getElem? (i := 27) rfl))) (mvT hZ (hw _ (List.mem_of_getElem? (i := 28) rfl))) (mvT hZ (hw _ (List.mem_of_getElem? (i := 29) rfl))) (by decide) (backOf (W := 0) (rfb l Z a0 hw [] b10 z63_a12 z19_b5 T11.heap n0 Zs3 G11_0 G11_2) hZ (hw _ (List.mem_of_getElem? (i := 29) rfl)) (hw _ (List.mem_of_getElem? (i := 28) rfl)) (by decide) (by decide)) (g := (mkF m 116 #[.val (.long q1), .second, .val (.long q2), .second, .val (.long q3), .second, .val (.int p4), .val (.long z19_a5), .second, .val (.long z19_b5), .second, .val (.ref b10), .val (.long z63_a12), .second, .val (.int z92_a15)] [(.long z63_a12), (.ref b10)])) rfl (by rw [hml]; rfl) (argsL := [(.ref b10), (.long z63_a12)]) (rest := []) (lenOf pd_4 rfl) rfl (by show 2 * 0 + _ ≤ _; exact Nat.le_of_eq rfl) (hb hby at_116) (fun _ _ => ⟨rfl, rfl, (by decide : 1 + 0 ≤ _), (by decide : 2 + 0 ≤ _)⟩)
  dsimp only [Pt.U, Pt.locs, Pt.cells, Pt.slots] at X19 l19 y19 z19 st19 hQ19
  subst l19 y19 z19
  obtain ⟨rfl, N19q, e19q⟩ := hQ19
  have N19 := Fr.app N11 N19q
  refine Go.on (B := T19.setTop (mkF m 119 #[.val (.long q1), .second, .val (.long q2), .second, .val (.long q3), .second, .val (.int p4), .val (.long z19_a5), .second, .val (.long z19_b5), .second, .val (.ref b10), .val (.long z63_a12), .second, .val (.int z92_a15)] [(.int (if z63_a12 < (z19_b5 - (1 : Int64)) then (0 : Int32) else (1 : Int32)))])) (fun t k => st19 _ k) ?_
  refine Go.on (B := T19.setTop (mkF m 121 #[.val (.long q1), .second, .val (.long q2), .second, .val (.long q3), .second, .val (.int p4), .val (.long z19_a5), .second, .val (.long z19_b5), .second, .val (.ref b10), .val (.long z63_a12), .second, .val (.int z92_a15)] [(.int z92_a15), (.int (if z63_a12 < (z19_b5 - (1 : Int64)) then (0 : Int32) else (1 : Int32)))])) (fun t k => XS.iload X19.here hx rfl (hb hby at_119) rfl k) ?_
  have hc121_20 : (if z63_a12 < (z19_b5 - (1 : Int64)) then (0 : Int32) else (1 : Int32)) = z92_a15 := by
    rw [hz92_a15]
    exact own_fires _ _ _ hlt
  refine Go.on (B := T19.setTop (mkF m 124 #[.val (.long q1), .second, .val (.long q2), .second, .val (.long q3), .second, .val (.int p4), .val (.long z19_a5), .second, .val (.long z19_b5), .second, .val (.ref b10), .val (.long z63_a12), .second, .val (.int z92_a15)] [])) (fun t k => XS.icmpNo X19.here hx rfl (hb hby at_121) rfl (teq hc121_20).2 k) ?_
  refine Go.on (B := T19.setTop (mkF m 125 #[.val (.long q1), .second, .val (.long q2), .second, .val (.long q3), .second, .val (.int p4), .val (.long z19_a5), .second, .val (.long z19_b5), .second, .val (.ref b10), .val (.long z63_a12), .second, .val (.int z92_a15)] [(.int (1 : Int32))])) (fun t k => XS.iconst X19.here hx rfl (hb hby at_124) k) ?_
  refine Go.on (B := T19.setTop (mkF m 129 #[.val (.long q1), .second, .val (.long q2), .second, .val (.long q3), .second, .val (.int p4), .val (.long z19_a5), .second, .val (.long z19_b5), .second, .val (.ref b10), .val (.long z63_a12), .second, .val (.int z92_a15)] [(.int (1 : Int32))])) (fun t k => XS.goto X19.here hx rfl (pc0 := 125) (pc' := 129) rfl (hb hby at_125) (by decide) (by decide) k) ?_
  obtain ⟨fs, hr, hrun, hended, hW, hsame⟩ := X19.leave (v := some (.int (1 : Int32))) (fun h => by rw [Bd.returns] at h; cases h)
  refine ⟨_, _, ?_, hrun, hended, _, _, rfl, ?_, ⟨_, rfl⟩, hW, hsame.mono (by decide) (by decide)⟩
  · exact retN X19 hx (t := .boolean) Bd.returns (by simp) (hb hby at_129) hr
  · show Q_rm0 Z q1 q2 q3 p4 h0 n0 _ T19.heap _
    rw [e19q]
    exact ⟨rfl, N19⟩
set_option maxRecDepth 65536 in
set_option maxHeartbeats 40000000 in
theorem comes_1 {Post : Tables → Env → Array Value → State → Outcome → State → Prop} (hpost : ∀ tb e args s v u, (limb_1_1.after args s (.returned v) u = true ∧ limb_1_2.after args s (.returned v) u = true ∧ True) → FrameEnd s (.returned v) u (Jvm.fieldLocs frame_1_writes args s ++ Jvm.arrayLocs frame_1_arrays args s ++ Jvm.staticLocs frame_1_statics s) 16 128 → Post tb e args s (.returned v) u) :
    ArmFor flags0 classFile x code maxLocals ret World_1 tables_1 room_1 Calls_1 rest_1 Pre_1 Post := by
  intro l hfl _ _ p e ha hc hk s m args below hf hA hF happ hP
  obtain ⟨hcalls, hrest, hpre⟩ := hP
  obtain ⟨-, -, -, hnamed, -, -, -, hat⟩ := (Spec.applies_iff hf).mp happ
  obtain ⟨hg, hn⟩ := and_e (Cond.before_iff.mp (show (Jvm.Cond.and given_1 narrow_1).before args s = true from hpre))
  obtain ⟨gc, gr0⟩ := and_e hg
  obtain ⟨ga0, gr1⟩ := and_e gr0
  obtain ⟨ga1, gr2⟩ := and_e gr1
  obtain ⟨ga2, gr3⟩ := and_e gr2
  obtain ⟨w0, w1, w2, w3, rfl⟩ : ∃ w0 w1 w2 w3 : Value, args = #[w0, w1, w2, w3] := by
    have hs : args.size = 4 := by simpa [Cond.value, given_1] using gc
    obtain ⟨L⟩ := args
    match L, hs with
    | [w0, w1, w2, w3], _ => exact ⟨w0, w1, w2, w3, rfl⟩
  have hw := fun d (hd : d ∈ tables_1) => atoms_spec (ws := Jvm.Cond.code x code maxLocals ret :: tables_1) hat d (List.mem_cons_of_mem _ hd)
  have hfit : Fit s := fun {y c} hc i hi => by
    obtain ⟨ha, rfl⟩ := Array.getElem?_eq_some_iff.mp hc
    have q := List.all_eq_true.mp ((Array.all_eq_true_iff_forall_mem.mp hF) _ (Array.getElem_mem ha)) i (List.mem_range.mpr hi)
    simpa [Array.getElem?_eq_getElem hi] using q
  obtain ⟨i0, ei0⟩ := isL_v ga0
  obtain rfl : w0 = (.long i0) := Option.some.inj ei0
  obtain ⟨i1, ei1⟩ := isL_v ga1
  obtain rfl : w1 = (.long i1) := Option.some.inj ei1
  obtain ⟨i2, ei2⟩ := isL_v ga2
  obtain rfl : w2 = (.long i2) := Option.some.inj ei2
  obtain ⟨i3, ei3⟩ := is_v gr3
  obtain rfl : w3 = (.int i3) := Option.some.inj ei3
  obtain ⟨n, o, h1, h2, h3, _, L, rfl, ⟨rfl, N⟩, hq⟩ := rm0 l s _ hw tables_1 i0 i1 i2 i3  s.heap s.heap.size (Nat.le_refl _)  p e ha hc hk s m _ below hf ((Spec.applies_iff_loose hf).mp happ).1 ⟨rfl, State.Warmed39.refl s, rfl⟩ trivial
  refine ⟨n, _, h1, h2, h3, hpost _ _ _ _ _ _ ⟨Cond.after_iff.mpr rfl, Cond.after_iff.mpr (eq_i res_at (Term.int_eval (1)) rfl), trivial⟩ ⟨hq.1, hq.2.1, (hq.2.2.sift fun y hy => Or.inr (N y hy)).mono (by decide) (by decide)⟩⟩
theorem main_1_1 : Claimed_1_1 := comes_1 fun _ _ _ _ _ _ h hF => ⟨h.1, hF⟩
theorem main_1_2 : Claimed_1_2 := comes_1 fun _ _ _ _ _ _ h hF => ⟨h.2.1, hF⟩
end Jvm.Pilot.@@N@@
namespace Jvm.Pilot.@@N@@
open Jvm Jvm.ClassFile Sem Op Lib Jvm.Free Jvm.Stand Jvm.Pilot.@@N@@.Jvm.D
/-! MADE BY PROGRAM (witnessworld.py) out of the Statement's table words and the real class files: 12 classes; the members and pool entries that the words name. The judged class is class 1, her method 1. -/
namespace start1
open Jvm.ClassFile
def u (s : String) : CpInfo := .utf8 (stringToUtf16 s)
/-- a pool by its gaps: so many unusable entries, then the entry; so many at the end -/
def gap : Nat → List CpInfo → List CpInfo
  | 0, r => r
  | n + 1, r => .unusable :: gap n r
def poolList (es : List (Nat × CpInfo)) (last : Nat) : List CpInfo := es.foldr (fun e r => gap e.1 (e.2 :: r)) (gap last [])
def pool (es : List (Nat × CpInfo)) (last : Nat) : Array CpInfo := ⟨poolList es last⟩
def fileOf (pool : Array CpInfo) (this : Nat) (attrs : Array Attribute := #[]) (ms : Array MethodInfo := #[]) (fl : Nat := 33) (sup : Nat := 0) (ifs : Array Nat := #[]) (fds : Array FieldInfo := #[]) : ClassFile where
  minorVersion := 0
  majorVersion := 65
  constantPool := pool
  accessFlags := fl
  thisClass := this
  superClass := sup
  interfaces := ifs
  fields := fds
  methods := ms
  attributes := attrs
def plain (name : String) (sup : Option ClassId) : Class where
  name := name
  kind := .ordinary
  loader := none
  accessFlags := 33
  super := sup
  interfaces := #[]
  cf := none
  fields := #[]
  methods := #[]
  instanceTypes := #[]
  staticTypes := #[]
  resolved := #[]
  callSites := []
  init := .initialized
  statics := none
  mirror := none

def pool0 : Array CpInfo := pool [(5, u "<init>"), (0, u "()V"), (1, .class_ 10), (1, u "java/lang/Object")] 113

def k0c0 : Code := { maxStack := 0, maxLocals := 1, code := object_method_1_code, exceptionTable := #[], attributes := #[] }
def k0m0 : Method := { name := "<init>", desc := "()V", sig := { parameters := [], returnType := none }, accessFlags := 1, code := some k0c0 }
/-- java/lang/Object -/
def k0 : Class := { plain "java/lang/Object" none with
  accessFlags := 33
  interfaces := #[]
  cf := some (fileOf pool0 8 #[] #[{ accessFlags := 1, nameIndex := 5, descriptorIndex := 6, attributes := #[] }] 33 0 #[] #[])
  fields := #[]
  methods := #[k0m0]
  instanceTypes := #[]
  staticTypes := #[]
  resolved := Array.replicate 124 none
  statics := none }

def pool1 : Array CpInfo := pool [(2, .class_ 4), (1, u "java/lang/Object"), (0, u "<init>"), (0, u "()V"), (0, .methodref 8 9), (0, .class_ 10), (0, .nameAndType 11 12), (0, u "java/lang/Math"), (0, u "min"), (0, u "(JJ)J"), (0, .methodref 8 14), (0, .nameAndType 15 12), (0, u "max"), (2, .long 9223372036854775807), (1, .class_ 21), (0, u "com/example/tailrace/tailrace/api/Window"), (0, .methodref 20 23), (0, .nameAndType 5 24), (0, u "(JJ)V"), (0, .long 4), (1, .long 2), (1, .methodref 30 31), (0, .class_ 32), (0, .nameAndType 33 34), (0, u "com/example/tailrace/tailrace/engine/KeyedAccumulators"), (0, u "firesBy"), (0, u "(Lcom/example/tailrace/tailrace/api/Window;J)Z"), (0, .class_ 36), (0, u "com/example/tailrace/tailrace/engine/KeyedAccumulatorsFiresByPinLaw"), (2, u "law"), (0, u "(JJJI)Z")] 3

def k1m0 : Method := { name := "<init>", desc := "()V", sig := { parameters := [], returnType := none }, accessFlags := 2, code := none }
def k1c1 : Code := { maxStack := 6, maxLocals := 15, code := code, exceptionTable := #[], attributes := #[] }
def k1m1 : Method := { name := "law", desc := "(JJJI)Z", sig := { parameters := [.long, .long, .long, .int], returnType := some .boolean }, accessFlags := 9, code := some k1c1 }
/-- com/example/tailrace/tailrace/engine/KeyedAccumulatorsFiresByPinLaw -/
def k1 : Class := { plain "com/example/tailrace/tailrace/engine/KeyedAccumulatorsFiresByPinLaw" (some 0) with
  accessFlags := 49
  interfaces := #[]
  cf := some (fileOf pool1 35 #[] #[{ accessFlags := 2, nameIndex := 5, descriptorIndex := 6, attributes := #[] }, { accessFlags := 9, nameIndex := 39, descriptorIndex := 40, attributes := #[] }] 49 2 #[] #[])
  fields := #[]
  methods := #[k1m0, k1m1]
  instanceTypes := #[]
  staticTypes := #[]
  resolved := Array.replicate 44 none
  statics := none }

def pool2 : Array CpInfo := pool [(1, .class_ 2), (0, u "java/lang/Math"), (1, .class_ 6), (1, u "java/lang/Object"), (0, u "<init>"), (0, u "()V"), (89, .class_ 100), (1, u "java/lang/Math$RandomNumberGeneratorHolder"), (20, u "(JJ)J"), (50, u "negativeZeroFloatBits"), (0, u "J"), (2, u "negativeZeroDoubleBits"), (21, u "max"), (2, u "min"), (43, u "$assertionsDisabled"), (0, u "Z"), (91, u "twoToTheDoubleScaleDown"), (0, u "D"), (4, u "twoToTheDoubleScaleUp"), (9, u "E"), (3, u "PI"), (2, u "TAU"), (2, u "DEGREES_TO_RADIANS"), (0, u "RADIANS_TO_DEGREES")] 94

def k2m0 : Method := { name := "<init>", desc := "()V", sig := { parameters := [], returnType := none }, accessFlags := 2, code := none }
def k2c1 : Code := { maxStack := 4, maxLocals := 4, code := jdk_29_method_66_code, exceptionTable := #[], attributes := #[] }
def k2m1 : Method := { name := "max", desc := "(JJ)J", sig := { parameters := [.long, .long], returnType := some .long }, accessFlags := 9, code := some k2c1 }
def k2c2 : Code := { maxStack := 4, maxLocals := 4, code := jdk_29_method_70_code, exceptionTable := #[], attributes := #[] }
def k2m2 : Method := { name := "min", desc := "(JJ)J", sig := { parameters := [.long, .long], returnType := some .long }, accessFlags := 9, code := some k2c2 }
/-- java/lang/Math -/
def k2 : Class := { plain "java/lang/Math" (some 0) with
  accessFlags := 49
  interfaces := #[]
  cf := some (fileOf pool2 1 #[.nestMembers #[98]] #[{ accessFlags := 2, nameIndex := 7, descriptorIndex := 8, attributes := #[] }, { accessFlags := 9, nameIndex := 198, descriptorIndex := 121, attributes := #[] }, { accessFlags := 9, nameIndex := 201, descriptorIndex := 121, attributes := #[] }] 49 4 #[] #[{ accessFlags := 25, nameIndex := 354, descriptorIndex := 339, attributes := #[] }, { accessFlags := 25, nameIndex := 358, descriptorIndex := 339, attributes := #[] }, { accessFlags := 25, nameIndex := 361, descriptorIndex := 339, attributes := #[] }, { accessFlags := 26, nameIndex := 364, descriptorIndex := 339, attributes := #[] }, { accessFlags := 26, nameIndex := 365, descriptorIndex := 339, attributes := #[] }, { accessFlags := 26, nameIndex := 172, descriptorIndex := 173, attributes := #[] }, { accessFlags := 26, nameIndex := 176, descriptorIndex := 173, attributes := #[] }, { accessFlags := 8, nameIndex := 344, descriptorIndex := 339, attributes := #[] }, { accessFlags := 8, nameIndex := 338, descriptorIndex := 339, attributes := #[] }, { accessFlags := 4120, nameIndex := 245, descriptorIndex := 246, attributes := #[] }])
  fields := #[{ name := "E", type := .double, accessFlags := 25, slot := 0, constantValue := 0 }, { name := "PI", type := .double, accessFlags := 25, slot := 1, constantValue := 0 }, { name := "TAU", type := .double, accessFlags := 25, slot := 2, constantValue := 0 }, { name := "DEGREES_TO_RADIANS", type := .double, accessFlags := 26, slot := 3, constantValue := 0 }, { name := "RADIANS_TO_DEGREES", type := .double, accessFlags := 26, slot := 4, constantValue := 0 }, { name := "negativeZeroFloatBits", type := .long, accessFlags := 26, slot := 5, constantValue := 0 }, { name := "negativeZeroDoubleBits", type := .long, accessFlags := 26, slot := 6, constantValue := 0 }, { name := "twoToTheDoubleScaleUp", type := .double, accessFlags := 8, slot := 7, constantValue := 0 }, { name := "twoToTheDoubleScaleDown", type := .double, accessFlags := 8, slot := 8, constantValue := 0 }, { name := "$assertionsDisabled", type := .boolean, accessFlags := 4120, slot := 9, constantValue := 0 }]
  methods := #[k2m0, k2m1, k2m2]
  instanceTypes := #[]
  staticTypes := #[.double, .double, .double, .double, .double, .long, .long, .double, .double, .boolean]
  resolved := Array.replicate 460 none
  statics := none }

def pool3 : Array CpInfo := pool [(1, .methodref 2 3), (0, .class_ 4), (0, .nameAndType 5 6), (0, u "java/lang/Object"), (0, u "<init>"), (0, u "()V"), (0, .class_ 8), (0, u "java/lang/Record")] 13

def k3c0 : Code := { maxStack := 1, maxLocals := 1, code := jdk_30_method_1_code, exceptionTable := #[], attributes := #[] }
def k3m0 : Method := { name := "<init>", desc := "()V", sig := { parameters := [], returnType := none }, accessFlags := 4, code := some k3c0 }
/-- java/lang/Record -/
def k3 : Class := { plain "java/lang/Record" (some 0) with
  accessFlags := 1057
  interfaces := #[]
  cf := some (fileOf pool3 7 #[] #[{ accessFlags := 4, nameIndex := 5, descriptorIndex := 6, attributes := #[] }] 1057 2 #[] #[])
  fields := #[]
  methods := #[k3m0]
  instanceTypes := #[]
  staticTypes := #[]
  resolved := Array.replicate 22 none
  statics := none }

def pool4 : Array CpInfo := pool [(1, .class_ 2), (0, u "java/io/Serializable"), (0, .class_ 4), (0, u "java/lang/Object")] 2

/-- java/io/Serializable -/
def k4 : Class := { plain "java/io/Serializable" (some 0) with
  accessFlags := 1537
  interfaces := #[]
  cf := some (fileOf pool4 1 #[] #[] 1537 3 #[] #[])
  fields := #[]
  methods := #[]
  instanceTypes := #[]
  staticTypes := #[]
  resolved := Array.replicate 7 none
  statics := none }

def pool5 : Array CpInfo := pool [(1, .methodref 2 3), (0, .class_ 4), (0, .nameAndType 5 6), (0, u "java/lang/Record"), (0, u "<init>"), (0, u "()V"), (9, .fieldref 17 18), (0, .class_ 19), (0, .nameAndType 20 21), (0, u "com/example/tailrace/tailrace/api/Window"), (0, u "start"), (0, u "J"), (0, .fieldref 17 23), (0, .nameAndType 24 21), (0, u "end"), (20, u "(JJ)V"), (2, u "GLOBAL"), (0, u "Lcom/example/tailrace/tailrace/api/Window;"), (0, .class_ 51), (0, u "java/io/Serializable"), (7, u "()J")] 30

def k5c0 : Code := { maxStack := 6, maxLocals := 5, code := prog_32_method_1_code, exceptionTable := #[], attributes := #[] }
def k5m0 : Method := { name := "<init>", desc := "(JJ)V", sig := { parameters := [.long, .long], returnType := none }, accessFlags := 1, code := some k5c0 }
def k5c1 : Code := { maxStack := 2, maxLocals := 1, code := prog_32_method_6_code, exceptionTable := #[], attributes := #[] }
def k5m1 : Method := { name := "end", desc := "()J", sig := { parameters := [], returnType := some .long }, accessFlags := 1, code := some k5c1 }
/-- com/example/tailrace/tailrace/api/Window -/
def k5 : Class := { plain "com/example/tailrace/tailrace/api/Window" (some 3) with
  accessFlags := 49
  interfaces := #[4]
  cf := some (fileOf pool5 17 #[] #[{ accessFlags := 1, nameIndex := 5, descriptorIndex := 45, attributes := #[] }, { accessFlags := 1, nameIndex := 24, descriptorIndex := 59, attributes := #[] }] 49 2 #[50] #[{ accessFlags := 18, nameIndex := 20, descriptorIndex := 21, attributes := #[] }, { accessFlags := 18, nameIndex := 24, descriptorIndex := 21, attributes := #[] }, { accessFlags := 25, nameIndex := 48, descriptorIndex := 49, attributes := #[] }])
  fields := #[{ name := "start", type := .long, accessFlags := 18, slot := 0, constantValue := 0 }, { name := "end", type := .long, accessFlags := 18, slot := 1, constantValue := 0 }, { name := "GLOBAL", type := (.object "com/example/tailrace/tailrace/api/Window"), accessFlags := 25, slot := 0, constantValue := 0 }]
  methods := #[k5m0, k5m1]
  instanceTypes := #[.long, .long]
  staticTypes := #[(.object "com/example/tailrace/tailrace/api/Window")]
  resolved := Array.replicate 90 none
  statics := none }

def pool6 : Array CpInfo := pool [(2, .class_ 4), (1, u "java/lang/Object"), (5, .class_ 12), (1, u "com/example/tailrace/tailrace/engine/KeyedAccumulators"), (0, u "FIRING_ORDER"), (0, u "Ljava/util/Comparator;"), (5, u "windows"), (0, u "Ljava/util/NavigableMap;"), (6, u "owner"), (0, u "Ljava/lang/String;"), (2, u "aggregate"), (0, u "Lcom/example/tailrace/tailrace/api/AggregateFunction;"), (48, .class_ 83), (0, u "com/example/tailrace/tailrace/api/Window"), (2, u "firesBy"), (0, u "(Lcom/example/tailrace/tailrace/api/Window;J)Z"), (3, .methodref 82 92), (0, .nameAndType 93 94), (0, u "end"), (0, u "()J"), (22, u "RELEASED")] 92

def k6c0 : Code := { maxStack := 4, maxLocals := 3, code := prog_92_method_5_code, exceptionTable := #[], attributes := #[] }
def k6m0 : Method := { name := "firesBy", desc := "(Lcom/example/tailrace/tailrace/api/Window;J)Z", sig := { parameters := [(.object "com/example/tailrace/tailrace/api/Window"), .long], returnType := some .boolean }, accessFlags := 8, code := some k6c0 }
/-- com/example/tailrace/tailrace/engine/KeyedAccumulators -/
def k6 : Class := { plain "com/example/tailrace/tailrace/engine/KeyedAccumulators" (some 0) with
  accessFlags := 48
  interfaces := #[]
  cf := some (fileOf pool6 10 #[] #[{ accessFlags := 8, nameIndex := 86, descriptorIndex := 87, attributes := #[] }] 48 2 #[] #[{ accessFlags := 26, nameIndex := 13, descriptorIndex := 14, attributes := #[] }, { accessFlags := 26, nameIndex := 117, descriptorIndex := 21, attributes := #[] }, { accessFlags := 18, nameIndex := 28, descriptorIndex := 29, attributes := #[] }, { accessFlags := 18, nameIndex := 32, descriptorIndex := 33, attributes := #[] }, { accessFlags := 2, nameIndex := 20, descriptorIndex := 21, attributes := #[] }])
  fields := #[{ name := "FIRING_ORDER", type := (.object "java/util/Comparator"), accessFlags := 26, slot := 0, constantValue := 0 }, { name := "RELEASED", type := (.object "java/util/NavigableMap"), accessFlags := 26, slot := 1, constantValue := 0 }, { name := "owner", type := (.object "java/lang/String"), accessFlags := 18, slot := 0, constantValue := 0 }, { name := "aggregate", type := (.object "com/example/tailrace/tailrace/api/AggregateFunction"), accessFlags := 18, slot := 1, constantValue := 0 }, { name := "windows", type := (.object "java/util/NavigableMap"), accessFlags := 2, slot := 2, constantValue := 0 }]
  methods := #[k6m0]
  instanceTypes := #[(.object "java/lang/String"), (.object "com/example/tailrace/tailrace/api/AggregateFunction"), (.object "java/util/NavigableMap")]
  staticTypes := #[(.object "java/util/Comparator"), (.object "java/util/NavigableMap")]
  resolved := Array.replicate 210 none
  statics := none }

def pool7 : Array CpInfo := pool [(1, u "java/lang/Cloneable"), (0, .class_ 1), (0, u "java/lang/Object"), (0, .class_ 3)] 3

/-- java/lang/Cloneable -/
def k7 : Class := { plain "java/lang/Cloneable" (some 0) with
  accessFlags := 1537
  interfaces := #[]
  cf := some (fileOf pool7 2 #[] #[] 1537 4 #[] #[])
  fields := #[]
  methods := #[]
  instanceTypes := #[]
  staticTypes := #[]
  resolved := Array.replicate 8 none
  statics := none }

/-- the primitive byte -/
def k8 : Class := { plain "byte" none with kind := .primitive 'B', accessFlags := 0x411 }
/-- [B -/
def k9 : Class := { plain "[B" (some 0) with kind := .array 8 .byte, interfaces := #[7, 4], accessFlags := 1041 }

/-- the primitive int -/
def k10 : Class := { plain "int" none with kind := .primitive 'I', accessFlags := 0x411 }
/-- [I -/
def k11 : Class := { plain "[I" (some 0) with kind := .array 10 .int, interfaces := #[7, 4], accessFlags := 1041 }

def heap : Heap := #[]
def classes : Array Class := #[k0, k1, k2, k3, k4, k5, k6, k7, k8, k9, k10, k11]
def interned : List (Array UInt16 × Addr) := []
def slotsUsed : Nat := 0
def theMethod : MethodId := ⟨1, 1⟩
def args0 : Array Value := #[.long 5, .long 9, .long 7, .int 0]
def aboutOver (below : List Frame) : State where
  vm := { classes := classes, interned := interned.toArray }
  heap := heap
  slotsUsed := slotsUsed
  threads := #[{ frames := .invoking theMethod args0 :: below }]
def below0 : List Frame := [.native { method := ⟨0, 0⟩, args := #[] }]
def about1 : State := aboutOver below0
def p0 : Program := .bare "" "" ""
def e0 : Env := launch0.env 0 0 0
theorem w_frames : about1.frames = Frame.invoking theMethod args0 :: below0 := rfl
set_option maxRecDepth 65536 in
theorem w_args : argsFit about1.vm theMethod args0 = true := by decide +kernel
set_option maxRecDepth 65536 in
theorem w_heap : heapFits about1 = true := by decide +kernel
set_option maxRecDepth 65536 in
theorem w_runnable : about1.curStatus? = some .runnable := by decide +kernel
set_option maxRecDepth 65536 in
theorem w_alone : about1.alone = true := by decide +kernel
set_option maxRecDepth 65536 in
theorem w_named : about1.methodNamed? x = some theMethod := by decide +kernel
set_option maxRecDepth 65536 in
theorem w_hears : about1.hears theMethod below0 = true := by decide +kernel
set_option maxRecDepth 65536 in
theorem w_ripe : about1.ripe theMethod args0 below0 = true := by decide +kernel
theorem w_running : about1.status = .running := rfl
set_option maxRecDepth 65536 in
theorem w_room : about1.hasRoom e0.platform room_1 = true :=
  launch0.hasRoom_least _ room_1 (by decide +kernel) (by decide +kernel) (by decide +kernel) (by decide +kernel) (by decide +kernel) (by decide +kernel)
theorem allAtoms_all (ts : List Jvm.Cond) (a : Array Jvm.Value) (st : Jvm.State) : (allAtoms ts).before a st = ts.all (fun c => c.before a st) := by
  induction ts with
  | nil => rfl
  | cons c t ih =>
    show (Jvm.Cond.and c (allAtoms t)).before a st = _
    rw [Jvm.Cond.before_and, ih, List.all_cons]
def words1 : List Jvm.Cond := Jvm.Cond.code x code maxLocals ret :: tables_1
/-- a 'code' word, met by the world's own term for the bytes: nothing is compared byte by byte -/
theorem code_word {y : MethodName} {bytes : ByteArray} {mx : Nat} {rt : Option FieldType} {a : Array Value} {s : State} {m : MethodId} {meth : Method} {c : Code} (h1 : s.methodNamed? y = some m) (h2 : s.vm.method? m = some meth) (h3 : meth.code = some c) (h4 : c.code = bytes)
    (h5 : (c.maxLocals == mx && c.exceptionTable.isEmpty && decide (c.maxStack ≤ mostOperands) && decide (meth.sig.returnType = rt) && !meth.locks && decide (parseMethodDescriptor y.desc = some meth.sig)) = true) : (Jvm.Cond.code y bytes mx rt).before a s = true := by
  simp only [Bool.and_eq_true, beq_iff_eq, Bool.not_eq_true', decide_eq_true_eq] at h5
  obtain ⟨⟨⟨⟨⟨g1, g2⟩, g3⟩, g4⟩, g5⟩, g6⟩ := h5
  simp [Cond.before, Cond.holds, Cond.value, h1, h2, h3, h4, g1, g2, g3, g4, g5, g6]
def isCode : Jvm.Cond → Bool
  | .code _ _ _ _ => true
  | _ => false
theorem all_split {L : List Jvm.Cond} {P : Jvm.Cond → Bool} (h1 : L.all (fun c => isCode c || P c) = true) (h2 : ∀ c ∈ L.filter isCode, P c = true) : L.all P = true := by
  refine List.all_eq_true.mpr fun c hc => ?_
  have h := List.all_eq_true.mp h1 c hc
  rcases Bool.eq_false_or_eq_true (isCode c) with hi | hi
  · exact h2 c (List.mem_filter.mpr ⟨hc, hi⟩)
  · simpa [hi] using h
set_option maxRecDepth 65536 in
theorem w_c0 : (Jvm.Cond.code x code maxLocals ret).before args0 about1 = true := code_word (m := ⟨1, 1⟩) (meth := k1m1) (c := k1c1) (by decide +kernel) rfl rfl rfl (by decide +kernel)
set_option maxRecDepth 65536 in
theorem w_c1 : (Jvm.Cond.code ({ cls := "java/lang/Math", name := "min", desc := "(JJ)J" } : Jvm.MethodName) jdk_29_method_70_code (4 : Nat) (Option.some Jvm.ClassFile.FieldType.long)).before args0 about1 = true := code_word (m := ⟨2, 2⟩) (meth := k2m2) (c := k2c2) (by decide +kernel) rfl rfl rfl (by decide +kernel)
set_option maxRecDepth 65536 in
theorem w_c2 : (Jvm.Cond.code ({ cls := "java/lang/Math", name := "max", desc := "(JJ)J" } : Jvm.MethodName) jdk_29_method_66_code (4 : Nat) (Option.some Jvm.ClassFile.FieldType.long)).before args0 about1 = true := code_word (m := ⟨2, 1⟩) (meth := k2m1) (c := k2c1) (by decide +kernel) rfl rfl rfl (by decide +kernel)
set_option maxRecDepth 65536 in
theorem w_c3 : (Jvm.Cond.code ({ cls := "com/example/tailrace/tailrace/api/Window", name := "<init>", desc := "(JJ)V" } : Jvm.MethodName) prog_32_method_1_code (5 : Nat) (Option.none : Option Jvm.ClassFile.FieldType)).before args0 about1 = true := code_word (m := ⟨5, 0⟩) (meth := k5m0) (c := k5c0) (by decide +kernel) rfl rfl rfl (by decide +kernel)
set_option maxRecDepth 65536 in
theorem w_c4 : (Jvm.Cond.code ({ cls := "java/lang/Record", name := "<init>", desc := "()V" } : Jvm.MethodName) jdk_30_method_1_code (1 : Nat) (Option.none : Option Jvm.ClassFile.FieldType)).before args0 about1 = true := code_word (m := ⟨3, 0⟩) (meth := k3m0) (c := k3c0) (by decide +kernel) rfl rfl rfl (by decide +kernel)
set_option maxRecDepth 65536 in
theorem w_c5 : (Jvm.Cond.code ({ cls := "java/lang/Object", name := "<init>", desc := "()V" } : Jvm.MethodName) object_method_1_code (1 : Nat) (Option.none : Option Jvm.ClassFile.FieldType)).before args0 about1 = true := code_word (m := ⟨0, 0⟩) (meth := k0m0) (c := k0c0) (by decide +kernel) rfl rfl rfl (by decide +kernel)
set_option maxRecDepth 65536 in
theorem w_c6 : (Jvm.Cond.code ({ cls := "com/example/tailrace/tailrace/engine/KeyedAccumulators", name := "firesBy", desc := "(Lcom/example/tailrace/tailrace/api/Window;J)Z" } : Jvm.MethodName) prog_92_method_5_code (3 : Nat) (Option.some Jvm.ClassFile.FieldType.boolean)).before args0 about1 = true := code_word (m := ⟨6, 0⟩) (meth := k6m0) (c := k6c0) (by decide +kernel) rfl rfl rfl (by decide +kernel)
set_option maxRecDepth 65536 in
theorem w_c7 : (Jvm.Cond.code ({ cls := "com/example/tailrace/tailrace/api/Window", name := "end", desc := "()J" } : Jvm.MethodName) prog_32_method_6_code (1 : Nat) (Option.some Jvm.ClassFile.FieldType.long)).before args0 about1 = true := code_word (m := ⟨5, 1⟩) (meth := k5m1) (c := k5c1) (by decide +kernel) rfl rfl rfl (by decide +kernel)
def codes1 : List Jvm.Cond := [Jvm.Cond.code x code maxLocals ret, Jvm.Cond.code ({ cls := "java/lang/Math", name := "min", desc := "(JJ)J" } : Jvm.MethodName) jdk_29_method_70_code (4 : Nat) (Option.some Jvm.ClassFile.FieldType.long), Jvm.Cond.code ({ cls := "java/lang/Math", name := "max", desc := "(JJ)J" } : Jvm.MethodName) jdk_29_method_66_code (4 : Nat) (Option.some Jvm.ClassFile.FieldType.long), Jvm.Cond.code ({ cls := "com/example/tailrace/tailrace/api/Window", name := "<init>", desc := "(JJ)V" } : Jvm.MethodName) prog_32_method_1_code (5 : Nat) (Option.none : Option Jvm.ClassFile.FieldType), Jvm.Cond.code ({ cls := "java/lang/Record", name := "<init>", desc := "()V" } : Jvm.MethodName) jdk_30_method_1_code (1 : Nat) (Option.none : Option Jvm.ClassFile.FieldType), Jvm.Cond.code ({ cls := "java/lang/Object", name := "<init>", desc := "()V" } : Jvm.MethodName) object_method_1_code (1 : Nat) (Option.none : Option Jvm.ClassFile.FieldType), Jvm.Cond.code ({ cls := "com/example/tailrace/tailrace/engine/KeyedAccumulators", name := "firesBy", desc := "(Lcom/example/tailrace/tailrace/api/Window;J)Z" } : Jvm.MethodName) prog_92_method_5_code (3 : Nat) (Option.some Jvm.ClassFile.FieldType.boolean), Jvm.Cond.code ({ cls := "com/example/tailrace/tailrace/api/Window", name := "end", desc := "()J" } : Jvm.MethodName) prog_32_method_6_code (1 : Nat) (Option.some Jvm.ClassFile.FieldType.long)]
set_option maxRecDepth 65536 in
theorem codes_eq : words1.filter isCode = codes1 := rfl
theorem w_codes : ∀ c ∈ words1.filter isCode, c.before args0 about1 = true := by
  rw [codes_eq]
  intro c hc
  simp only [codes1, List.mem_cons, List.not_mem_nil, or_false] at hc
  rcases hc with rfl | rfl | rfl | rfl | rfl | rfl | rfl | rfl
  · exact w_c0
  · exact w_c1
  · exact w_c2
  · exact w_c3
  · exact w_c4
  · exact w_c5
  · exact w_c6
  · exact w_c7
set_option maxRecDepth 65536 in
theorem w_t1 : (words1.take 24).all (fun c => isCode c || c.before args0 about1) = true := by decide +kernel
set_option maxRecDepth 65536 in
theorem w_t2 : (words1.drop 24).all (fun c => isCode c || c.before args0 about1) = true := by decide +kernel
theorem w_tables : (allAtoms (Jvm.Cond.code x code maxLocals ret :: tables_1)).before args0 about1 = true := by
  rw [allAtoms_all]
  show words1.all (fun c => c.before args0 about1) = true
  refine all_split ?_ w_codes
  rw [← List.take_append_drop 24 words1, List.all_append, w_t1, w_t2]
  rfl
set_option maxRecDepth 65536 in
theorem w_case : (Jvm.Cond.and given_1 narrow_1).before args0 about1 = true := by decide +kernel
theorem w_applies : (headSpec (Jvm.Cond.code x code maxLocals ret :: tables_1) room_1).applies x e0.platform about1 = true :=
  (Spec.applies_iff w_frames).mpr ⟨w_running, w_runnable, w_alone, w_named, w_hears, w_ripe, w_room, w_tables⟩
theorem atStart : AtStart classFile x code maxLocals ret World_1 tables_1 room_1 Calls_1 rest_1 Pre_1 launch0 p0 e0 about1 theMethod args0 below0 :=
  ⟨lists_1, trivial, launch0.admits_env _ _ _, launch0.least_env, fairChoices_fair.cas, fairChoices_fair.clock, w_frames, w_args, w_heap, w_applies, trivial, trivial, w_case⟩
end start1
theorem witness_1 : WitnessClaimed_1 := ⟨start1.p0, start1.e0, start1.about1, start1.theMethod, start1.args0, start1.below0, start1.atStart⟩
end Jvm.Pilot.@@N@@
