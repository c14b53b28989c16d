import JvmDerived
import JvmDerived.Pilot.@@N@@Statement
import JvmDerived.Pilot.@@N@@Code
set_option linter.unusedVariables false
set_option linter.unusedSimpArgs false
namespace Jvm.RoadKit
open Sem ClassFile Op Lib Jvm.Stand Jvm.Free Jvm.LawKit
section New
variable {p : Program} {l : Launch} {e : Env} {R : Room} {s : State} {m : MethodId} {args : Array Value} {below : List Frame} {meth : Method} {c : Code} {T : State} {locs : List Loc} {cells slots : Nat}
theorem retI (X : Stand p l e R s m args below meth c T locs cells slots) (hx : p.tables.exec = Jvm.exec) {pc : Nat} {Ls : Array Slot} {z : Int32} {rest : List Value} (hret : meth.sig.returnType = some .int) (hd : decode c.code pc = .ok (.ireturn, 1)) {fs : List Frame}
    (hl : ∀ (f : JFrame) (acts : List Action), f.method = m → f.locked = none → f.entered = [] → (doReturn e (T.setTop f) acts (some (.int z))).1 = T.setFrames fs) : Steps p.tables e below (T.setTop (mkF m pc Ls (.int z :: rest))) (T.setFrames fs) := by
  have hm' : T.vm.method? m = some meth := X.method'
  have hn : narrow .int (.int z) = .int z := rfl
  show Steps p.tables e below (T.setTop { method := m, pc := pc, locals := Ls, stack := _ :: rest, locked := none }) _
  jvm_step X.here [X.here.top, hx, hd, hm', hret, hn]
  first | (intro acts; rw [hl _ acts rfl rfl rfl]) | rw [hl _ _ rfl rfl rfl]
  exact Steps.refl _
end New
/-- the run comes, from the state U, to an end at which Q holds -/
def Go (tb : Tables) (e : Env) (below : List Frame) (Q : Outcome → State → Prop) (U : State) : Prop := ∃ s₂ o, Steps tb e below U s₂ ∧ s₂.status = .running ∧ Ended s₂ below o ∧ Q o s₂
theorem Go.on {tb : Tables} {e : Env} {below : List Frame} {Q : Outcome → State → Prop} {A B : State} (h : ∀ t, Steps tb e below B t → Steps tb e below A t) (k : Go tb e below Q B) : Go tb e below Q A := by
  obtain ⟨s₂, o, h1, h2⟩ := k
  exact ⟨s₂, o, h _ h1, h2⟩
end Jvm.RoadKit
namespace Jvm.Pilot.@@N@@
open Jvm Jvm.ClassFile Sem Op Lib Jvm.Free Jvm.Stand Jvm.LawKit Jvm.RoadKit Bundle Jvm.Pilot.@@N@@.Jvm.D
def own_cmp (a b : Int64) : Int32 := if a < b then (-1 : Int32) else if a = b then (0 : Int32) else (1 : Int32)
def own_cu (a b : Int64) : Int32 := own_cmp (a + (-9223372036854775808 : Int64)) (b + (-9223372036854775808 : Int64))
def own_up (lo hi c : Int64) : Int64 := hi + ((c >>> ((63 : Int32) &&& 0x3f).toInt64) + ((if own_cu (lo + c) lo < (0 : Int32) then (1 : Int32) else (0 : Int32)).toInt64))
def own_fit (lo hi : Int64) : Int32 := if hi = (lo >>> ((63 : Int32) &&& 0x3f).toInt64) then (1 : Int32) else (0 : Int32)
theorem d1_0 : decode method_3_code 0 = .ok (.lload_n 0, 1) := by decide +kernel
theorem d1_1 : decode method_3_code 1 = .ok (.ldc2_w 7, 3) := by decide +kernel
theorem d1_4 : decode method_3_code 4 = .ok (.land, 1) := by decide +kernel
theorem d1_5 : decode method_3_code 5 = .ok (.lreturn, 1) := by decide +kernel
theorem pn_2 : plainName "com/example/encours/encours/engine/TotalFitsPinLaw" = true := by first | (simp [plainName, overriddenIn]; done) | decide +kernel
theorem ef_rlo (m : MethodId) (q1 : Int64) : entryFrame m #[(.long q1)] 2 = mkF m 0 #[.val (.long q1), .second] [] := by first | (simp [entryFrame, mkF, argsToLocals, Value.category]; done) | rfl
def Q_rlo (Z : State) (q1 : Int64) (h0 : Heap) (n0 : Nat) (v : Option Value) (h : Heap) (L : List Loc) : Prop := v = some (.long (q1 &&& (4294967295 : Int64))) ∧ Fr n0 L ∧ h = h0
set_option maxRecDepth 65536 in
set_option maxHeartbeats 40000000 in
theorem rlo (l : Launch) (Z : State) (a0 : Array Value) (hw : ∀ d ∈ tables_1, d.before a0 Z = true) (ws : List Jvm.Cond) (q1 : Int64) (h0 : Heap) (n0 : Nat) (Z0 : n0 ≤ h0.size)  :
    MetFree l (⟨"com/example/encours/encours/engine/TotalFitsPinLaw", "lo", "(J)J"⟩ : MethodName) (head1 (Jvm.Cond.code (⟨"com/example/encours/encours/engine/TotalFitsPinLaw", "lo", "(J)J"⟩ : MethodName) method_3_code 2 (some .long) :: ws) ({ frames := 0, cells := 0, slots := 0, locals := 0 } : Room)) (fun a U => a = #[(.long q1)] ∧ Z.Warmed39 U.vm ∧ U.heap = h0) (fun _ _ _ _ _ => True) (fun _ U o U' => ∃ v L, o = .returned v ∧ Q_rlo Z q1 h0 n0 v U'.heap L ∧ FrameEnd U o U' L ({ frames := 0, cells := 0, slots := 0, locals := 0 } : Room).cells ({ frames := 0, cells := 0, slots := 0, locals := 0 } : Room).slots) := by
  refine MetFree.of_bodySF (plainFor_of_name pn_2) hisR ?_
  intro p e s m args below meth c s₁ Bd hml0 hP hK
  obtain ⟨rfl, hZ, hh⟩ := hP
  have hx := Bd.exec
  have hby := Bd.bytes
  have hml : c.maxLocals = 2 := hml0
  have hown : s.vm.findClass "com/example/encours/encours/engine/TotalFitsPinLaw" = some m.cls := findClass_of_methodNamed Bd.named
  have hnm := (name_of_methodNamed Bd.named Bd.method).1
  have X0 : Stand p l e ({ frames := 0, cells := 0, slots := 0, locals := 0 } : Room) s m #[(.long q1)] below meth c s₁ [] 0 0 := Stand.of_body Bd
  have e0 : s₁.heap = h0 := by rw [← hh, Bd.state]; rfl
  have N0 := Fr.nil n0
  have pre0 : ∀ t, Steps p.tables e below (s₁.setTop (mkF m 0 #[.val (.long q1), .second] [])) t → Steps p.tables e below (s₁.setTop (entryFrame m #[(.long q1)] 2)) t := fun t k => castTop (ef_rlo m q1) k
  change Go p.tables e below (fun o U' => ∃ v L, o = .returned v ∧ Q_rlo Z q1 h0 n0 v U'.heap L ∧ FrameEnd s o U' L ({ frames := 0, cells := 0, slots := 0, locals := 0 } : Room).cells ({ frames := 0, cells := 0, slots := 0, locals := 0 } : Room).slots) (s₁.setTop (entryFrame m #[(.long q1)] 2))
  refine Go.on pre0 ?_
  refine Go.on (B := s₁.setTop (mkF m 1 #[.val (.long q1), .second] [(.long q1)])) (fun t k => XS.lloadN X0.here hx rfl (hb hby d1_0) rfl k) ?_
  refine Go.on (B := s₁.setTop (mkF m 4 #[.val (.long q1), .second] [(.long (4294967295 : Int64)), (.long q1)])) (fun t k => X0.ldc2Long hx hown (mvT hZ (hw _ (List.mem_of_getElem? (i := 4) rfl))) (g := (mkF m 1 #[.val (.long q1), .second] [(.long q1)])) rfl (hb hby d1_1) _ k) ?_
  refine Go.on (B := s₁.setTop (mkF m 5 #[.val (.long q1), .second] [(.long (q1 &&& (4294967295 : Int64)))])) (fun t k => XS.land X0.here hx rfl (hb hby d1_4) rfl k) ?_
  obtain ⟨fs, hr, hrun, hended, hW, hsame⟩ := X0.leave (v := some (.long (q1 &&& (4294967295 : Int64)))) (fun h => by rw [Bd.returns] at h; cases h)
  refine ⟨_, _, ?_, hrun, hended, _, _, rfl, ?_, ⟨_, rfl⟩, hW, hsame.mono (by decide) (by decide)⟩
  · exact retOut X0 hx Bd.returns rfl (Or.inr (Or.inl ⟨rfl, rfl, _, rfl⟩)) (hb hby d1_5) hr
  · show Q_rlo Z q1 h0 n0 _ s₁.heap _
    rw [e0]
    exact ⟨rfl, N0, rfl⟩
theorem d2_0 : decode method_2_code 0 = .ok (.lload_n 0, 1) := by decide +kernel
theorem d2_1 : decode method_2_code 1 = .ok (.bipush 32, 2) := by decide +kernel
theorem d2_3 : decode method_2_code 3 = .ok (.lshr, 1) := by decide +kernel
theorem d2_4 : decode method_2_code 4 = .ok (.lreturn, 1) := by decide +kernel
theorem ef_rhi (m : MethodId) (q1 : Int64) : entryFrame m #[(.long q1)] 2 = mkF m 0 #[.val (.long q1), .second] [] := by first | (simp [entryFrame, mkF, argsToLocals, Value.category]; done) | rfl
def Q_rhi (Z : State) (q1 : Int64) (h0 : Heap) (n0 : Nat) (v : Option Value) (h : Heap) (L : List Loc) : Prop := v = some (.long (q1 >>> ((32 : Int32) &&& 0x3f).toInt64)) ∧ Fr n0 L ∧ h = h0
set_option maxRecDepth 65536 in
set_option maxHeartbeats 40000000 in
theorem rhi (l : Launch) (Z : State) (a0 : Array Value) (hw : ∀ d ∈ tables_1, d.before a0 Z = true) (ws : List Jvm.Cond) (q1 : Int64) (h0 : Heap) (n0 : Nat) (Z0 : n0 ≤ h0.size)  :
    MetFree l (⟨"com/example/encours/encours/engine/TotalFitsPinLaw", "hi", "(J)J"⟩ : MethodName) (head1 (Jvm.Cond.code (⟨"com/example/encours/encours/engine/TotalFitsPinLaw", "hi", "(J)J"⟩ : MethodName) method_2_code 2 (some .long) :: ws) ({ frames := 0, cells := 0, slots := 0, locals := 0 } : Room)) (fun a U => a = #[(.long q1)] ∧ Z.Warmed39 U.vm ∧ U.heap = h0) (fun _ _ _ _ _ => True) (fun _ U o U' => ∃ v L, o = .returned v ∧ Q_rhi Z q1 h0 n0 v U'.heap L ∧ FrameEnd U o U' L ({ frames := 0, cells := 0, slots := 0, locals := 0 } : Room).cells ({ frames := 0, cells := 0, slots := 0, locals := 0 } : Room).slots) := by
  refine MetFree.of_bodySF (plainFor_of_name pn_2) hisR ?_
  intro p e s m args below meth c s₁ Bd hml0 hP hK
  obtain ⟨rfl, hZ, hh⟩ := hP
  have hx := Bd.exec
  have hby := Bd.bytes
  have hml : c.maxLocals = 2 := hml0
  have hown : s.vm.findClass "com/example/encours/encours/engine/TotalFitsPinLaw" = some m.cls := findClass_of_methodNamed Bd.named
  have hnm := (name_of_methodNamed Bd.named Bd.method).1
  have X0 : Stand p l e ({ frames := 0, cells := 0, slots := 0, locals := 0 } : Room) s m #[(.long q1)] below meth c s₁ [] 0 0 := Stand.of_body Bd
  have e0 : s₁.heap = h0 := by rw [← hh, Bd.state]; rfl
  have N0 := Fr.nil n0
  have pre0 : ∀ t, Steps p.tables e below (s₁.setTop (mkF m 0 #[.val (.long q1), .second] [])) t → Steps p.tables e below (s₁.setTop (entryFrame m #[(.long q1)] 2)) t := fun t k => castTop (ef_rhi m q1) k
  change Go p.tables e below (fun o U' => ∃ v L, o = .returned v ∧ Q_rhi Z q1 h0 n0 v U'.heap L ∧ FrameEnd s o U' L ({ frames := 0, cells := 0, slots := 0, locals := 0 } : Room).cells ({ frames := 0, cells := 0, slots := 0, locals := 0 } : Room).slots) (s₁.setTop (entryFrame m #[(.long q1)] 2))
  refine Go.on pre0 ?_
  refine Go.on (B := s₁.setTop (mkF m 1 #[.val (.long q1), .second] [(.long q1)])) (fun t k => XS.lloadN X0.here hx rfl (hb hby d2_0) rfl k) ?_
  refine Go.on (B := s₁.setTop (mkF m 3 #[.val (.long q1), .second] [(.int (32 : Int32)), (.long q1)])) (fun t k => XS.bipush X0.here hx rfl (hb hby d2_1) k) ?_
  refine Go.on (B := s₁.setTop (mkF m 4 #[.val (.long q1), .second] [(.long (q1 >>> ((32 : Int32) &&& 0x3f).toInt64))])) (fun t k => XS.lshr X0.here hx rfl (hb hby d2_3) rfl k) ?_
  obtain ⟨fs, hr, hrun, hended, hW, hsame⟩ := X0.leave (v := some (.long (q1 >>> ((32 : Int32) &&& 0x3f).toInt64))) (fun h => by rw [Bd.returns] at h; cases h)
  refine ⟨_, _, ?_, hrun, hended, _, _, rfl, ?_, ⟨_, rfl⟩, hW, hsame.mono (by decide) (by decide)⟩
  · exact retOut X0 hx Bd.returns rfl (Or.inr (Or.inl ⟨rfl, rfl, _, rfl⟩)) (hb hby d2_4) hr
  · show Q_rhi Z q1 h0 n0 _ s₁.heap _
    rw [e0]
    exact ⟨rfl, N0, rfl⟩
theorem d3_0 : decode prog_37_method_1_code 0 = .ok (.aload_n 0, 1) := by decide +kernel
theorem d3_1 : decode prog_37_method_1_code 1 = .ok (.invokespecial 1, 3) := by decide +kernel
theorem d3_4 : decode prog_37_method_1_code 4 = .ok (.return_, 1) := by decide +kernel
theorem pn_5 : plainName "com/example/encours/encours/engine/Money$Total" = true := by first | (simp [plainName, overriddenIn]; done) | decide +kernel
theorem ef_rini (m : MethodId) (a1 : Addr) : entryFrame m #[(.ref a1)] 1 = mkF m 0 #[.val (.ref a1)] [] := by first | (simp [entryFrame, mkF, argsToLocals, Value.category]; done) | rfl
def Q_rini (Z : State) (a1 : Addr) (h0 : Heap) (n0 : Nat) (v : Option Value) (h : Heap) (L : List Loc) : Prop := v = none ∧ Fr n0 L ∧ h = h0
set_option maxRecDepth 65536 in
set_option maxHeartbeats 40000000 in
theorem rini (l : Launch) (Z : State) (a0 : Array Value) (hw : ∀ d ∈ tables_1, d.before a0 Z = true) (ws : List Jvm.Cond) (a1 : Addr) (h0 : Heap) (n0 : Nat) (Z0 : n0 ≤ h0.size)  :
    MetFree l (⟨"com/example/encours/encours/engine/Money$Total", "<init>", "()V"⟩ : MethodName) (head1 (Jvm.Cond.code (⟨"com/example/encours/encours/engine/Money$Total", "<init>", "()V"⟩ : MethodName) prog_37_method_1_code 1 none :: ws) ({ frames := 1, cells := 0, slots := 0, locals := 12 } : Room)) (fun a U => a = #[(.ref a1)] ∧ Z.Warmed39 U.vm ∧ U.heap = h0) (fun _ _ _ _ _ => True) (fun _ U o U' => ∃ v L, o = .returned v ∧ Q_rini Z a1 h0 n0 v U'.heap L ∧ FrameEnd U o U' L ({ frames := 1, cells := 0, slots := 0, locals := 12 } : Room).cells ({ frames := 1, cells := 0, slots := 0, locals := 12 } : Room).slots) := by
  refine MetFree.of_bodySF (plainFor_of_name pn_5) hisR ?_
  intro p e s m args below meth c s₁ Bd hml0 hP hK
  obtain ⟨rfl, hZ, hh⟩ := hP
  have hx := Bd.exec
  have hby := Bd.bytes
  have hml : c.maxLocals = 1 := hml0
  have hown : s.vm.findClass "com/example/encours/encours/engine/Money$Total" = some m.cls := findClass_of_methodNamed Bd.named
  have hnm := (name_of_methodNamed Bd.named Bd.method).1
  have X0 : Stand p l e ({ frames := 1, cells := 0, slots := 0, locals := 12 } : Room) s m #[(.ref a1)] below meth c s₁ [] 0 0 := Stand.of_body Bd
  have e0 : s₁.heap = h0 := by rw [← hh, Bd.state]; rfl
  have N0 := Fr.nil n0
  have pre0 : ∀ t, Steps p.tables e below (s₁.setTop (mkF m 0 #[.val (.ref a1)] [])) t → Steps p.tables e below (s₁.setTop (entryFrame m #[(.ref a1)] 1)) t := fun t k => castTop (ef_rini m a1) k
  change Go p.tables e below (fun o U' => ∃ v L, o = .returned v ∧ Q_rini Z a1 h0 n0 v U'.heap L ∧ FrameEnd s o U' L ({ frames := 1, cells := 0, slots := 0, locals := 12 } : Room).cells ({ frames := 1, cells := 0, slots := 0, locals := 12 } : Room).slots) (s₁.setTop (entryFrame m #[(.ref a1)] 1))
  refine Go.on pre0 ?_
  refine Go.on (B := s₁.setTop (mkF m 1 #[.val (.ref a1)] [(.ref a1)])) (fun t k => XS.aloadN X0.here hx rfl (hb hby d3_0) rfl rfl k) ?_
  obtain ⟨T1, X1, e1, st1⟩ := initO X0 hx hZ hown (hw _ (List.mem_of_getElem? (i := 16) rfl)) (hw _ (List.mem_of_getElem? (i := 17) rfl)) (hw _ (List.mem_of_getElem? (i := 18) rfl)) e0 (g := (mkF m 1 #[.val (.ref a1)] [(.ref a1)])) rfl (by rw [hml]; rfl) rfl (hb hby d3_1) (by decide) (W := 0) (by show 2 * 0 + _ ≤ _; exact Nat.le_of_eq rfl) (by decide)
  refine Go.on (B := T1.setTop (mkF m 4 #[.val (.ref a1)] [])) (fun t k => st1 _ k) ?_
  obtain ⟨fs, hr, hrun, hended, hW, hsame⟩ := X1.leave (v := none) (fun _ => rfl)
  refine ⟨_, _, ?_, hrun, hended, _, _, rfl, ?_, ⟨_, rfl⟩, hW, hsame.mono (by decide) (by decide)⟩
  · exact X1.returnOut hx Bd.returns (hb hby d3_4) hr
  · show Q_rini Z a1 h0 n0 _ T1.heap _
    rw [e1]
    exact ⟨rfl, N0, rfl⟩
theorem d7_0 : decode jdk_35_method_42_code 0 = .ok (.lload_n 0, 1) := by decide +kernel
theorem d7_1 : decode jdk_35_method_42_code 1 = .ok (.lload_n 2, 1) := by decide +kernel
theorem d7_2 : decode jdk_35_method_42_code 2 = .ok (.lcmp, 1) := by decide +kernel
theorem d7_3 : decode jdk_35_method_42_code 3 = .ok (.ifCond .ge 7, 3) := by decide +kernel
theorem d7_6 : decode jdk_35_method_42_code 6 = .ok (.iconst (-1), 1) := by decide +kernel
theorem d7_7 : decode jdk_35_method_42_code 7 = .ok (.goto 14, 3) := by decide +kernel
theorem d7_10 : decode jdk_35_method_42_code 10 = .ok (.lload_n 0, 1) := by decide +kernel
theorem d7_11 : decode jdk_35_method_42_code 11 = .ok (.lload_n 2, 1) := by decide +kernel
theorem d7_12 : decode jdk_35_method_42_code 12 = .ok (.lcmp, 1) := by decide +kernel
theorem d7_13 : decode jdk_35_method_42_code 13 = .ok (.ifCond .ne 7, 3) := by decide +kernel
theorem d7_16 : decode jdk_35_method_42_code 16 = .ok (.iconst 0, 1) := by decide +kernel
theorem d7_17 : decode jdk_35_method_42_code 17 = .ok (.goto 4, 3) := by decide +kernel
theorem d7_20 : decode jdk_35_method_42_code 20 = .ok (.iconst 1, 1) := by decide +kernel
theorem d7_21 : decode jdk_35_method_42_code 21 = .ok (.ireturn, 1) := by decide +kernel
theorem pn_7 : plainName "java/lang/Long" = true := by first | (simp [plainName, overriddenIn]; done) | decide +kernel
theorem ef_rcmp (m : MethodId) (q1 : Int64) (q2 : Int64) : entryFrame m #[(.long q1), (.long q2)] 4 = mkF m 0 #[.val (.long q1), .second, .val (.long q2), .second] [] := by first | (simp [entryFrame, mkF, argsToLocals, Value.category]; done) | rfl
def Q_rcmp (Z : State) (q1 : Int64) (q2 : Int64) (h0 : Heap) (n0 : Nat) (v : Option Value) (h : Heap) (L : List Loc) : Prop := v = some (.int (own_cmp q1 q2)) ∧ Fr n0 L ∧ h = h0
set_option maxRecDepth 65536 in
set_option maxHeartbeats 40000000 in
theorem rcmp (l : Launch) (Z : State) (a0 : Array Value) (hw : ∀ d ∈ tables_1, d.before a0 Z = true) (ws : List Jvm.Cond) (q1 : Int64) (q2 : Int64) (h0 : Heap) (n0 : Nat) (Z0 : n0 ≤ h0.size)  :
    MetFree l (⟨"java/lang/Long", "compare", "(JJ)I"⟩ : MethodName) (head1 (Jvm.Cond.code (⟨"java/lang/Long", "compare", "(JJ)I"⟩ : MethodName) jdk_35_method_42_code 4 (some .int) :: ws) ({ frames := 0, cells := 0, slots := 0, locals := 0 } : Room)) (fun a U => a = #[(.long q1), (.long q2)] ∧ Z.Warmed39 U.vm ∧ U.heap = h0) (fun _ _ _ _ _ => True) (fun _ U o U' => ∃ v L, o = .returned v ∧ Q_rcmp Z q1 q2 h0 n0 v U'.heap L ∧ FrameEnd U o U' L ({ frames := 0, cells := 0, slots := 0, locals := 0 } : Room).cells ({ frames := 0, cells := 0, slots := 0, locals := 0 } : Room).slots) := by
  refine MetFree.of_bodySF (plainFor_of_name pn_7) hisR ?_
  intro p e s m args below meth c s₁ Bd hml0 hP hK
  obtain ⟨rfl, hZ, hh⟩ := hP
  have hx := Bd.exec
  have hby := Bd.bytes
  have hml : c.maxLocals = 4 := hml0
  have hown : s.vm.findClass "java/lang/Long" = some m.cls := findClass_of_methodNamed Bd.named
  have hnm := (name_of_methodNamed Bd.named Bd.method).1
  have X0 : Stand p l e ({ frames := 0, cells := 0, slots := 0, locals := 0 } : Room) s m #[(.long q1), (.long q2)] below meth c s₁ [] 0 0 := Stand.of_body Bd
  have e0 : s₁.heap = h0 := by rw [← hh, Bd.state]; rfl
  have N0 := Fr.nil n0
  have pre0 : ∀ t, Steps p.tables e below (s₁.setTop (mkF m 0 #[.val (.long q1), .second, .val (.long q2), .second] [])) t → Steps p.tables e below (s₁.setTop (entryFrame m #[(.long q1), (.long q2)] 4)) t := fun t k => castTop (ef_rcmp m q1 q2) k
  change Go p.tables e below (fun o U' => ∃ v L, o = .returned v ∧ Q_rcmp Z q1 q2 h0 n0 v U'.heap L ∧ FrameEnd s o U' L ({ frames := 0, cells := 0, slots := 0, locals := 0 } : Room).cells ({ frames := 0, cells := 0, slots := 0, locals := 0 } : Room).slots) (s₁.setTop (entryFrame m #[(.long q1), (.long q2)] 4))
  refine Go.on pre0 ?_
  refine Go.on (B := s₁.setTop (mkF m 1 #[.val (.long q1), .second, .val (.long q2), .second] [(.long q1)])) (fun t k => XS.lloadN X0.here hx rfl (hb hby d7_0) rfl k) ?_
  refine Go.on (B := s₁.setTop (mkF m 2 #[.val (.long q1), .second, .val (.long q2), .second] [(.long q2), (.long q1)])) (fun t k => XS.lloadN X0.here hx rfl (hb hby d7_1) rfl k) ?_
  refine Go.on (B := s₁.setTop (mkF m 3 #[.val (.long q1), .second, .val (.long q2), .second] [(.int (lcmpW q1 q2))])) (fun t k => XS.lcmp X0.here hx rfl (hb hby d7_2) rfl k) ?_
  by_cases hc3_1 : q1 < q2
  · refine Go.on (B := s₁.setTop (mkF m 6 #[.val (.long q1), .second, .val (.long q2), .second] [])) (fun t k => XS.ifNo X0.here hx rfl (hb hby d7_3) rfl ((if0 _ _).trans (tlt ((lw_lt _ _).mpr hc3_1)).2.1) k) ?_
    refine Go.on (B := s₁.setTop (mkF m 7 #[.val (.long q1), .second, .val (.long q2), .second] [(.int (-1 : Int32))])) (fun t k => XS.iconst X0.here hx rfl (hb hby d7_6) k) ?_
    refine Go.on (B := s₁.setTop (mkF m 21 #[.val (.long q1), .second, .val (.long q2), .second] [(.int (-1 : Int32))])) (fun t k => XS.goto X0.here hx rfl (pc0 := 7) (pc' := 21) rfl (hb hby d7_7) (by decide) (by decide) k) ?_
    obtain ⟨fs, hr, hrun, hended, hW, hsame⟩ := X0.leave (v := some (.int (-1 : Int32))) (fun h => by rw [Bd.returns] at h; cases h)
    refine ⟨_, _, ?_, hrun, hended, _, _, rfl, ?_, ⟨_, rfl⟩, hW, hsame.mono (by decide) (by decide)⟩
    · exact retI X0 hx Bd.returns (hb hby d7_21) hr
    · show Q_rcmp Z q1 q2 h0 n0 _ s₁.heap _
      rw [e0]
      exact ⟨by simp [own_cmp, hc3_1], N0, rfl⟩
  · refine Go.on (B := s₁.setTop (mkF m 10 #[.val (.long q1), .second, .val (.long q2), .second] [])) (fun t k => XS.ifYes X0.here hx rfl (pc0 := 3) (pc' := 10) rfl (hb hby d7_3) rfl ((if0 _ _).trans (flt (mt (lw_lt _ _).mp hc3_1)).2.1) (by decide) (by decide) k) ?_
    refine Go.on (B := s₁.setTop (mkF m 11 #[.val (.long q1), .second, .val (.long q2), .second] [(.long q1)])) (fun t k => XS.lloadN X0.here hx rfl (hb hby d7_10) rfl k) ?_
    refine Go.on (B := s₁.setTop (mkF m 12 #[.val (.long q1), .second, .val (.long q2), .second] [(.long q2), (.long q1)])) (fun t k => XS.lloadN X0.here hx rfl (hb hby d7_11) rfl k) ?_
    refine Go.on (B := s₁.setTop (mkF m 13 #[.val (.long q1), .second, .val (.long q2), .second] [(.int (lcmpW q1 q2))])) (fun t k => XS.lcmp X0.here hx rfl (hb hby d7_12) rfl k) ?_
    by_cases hc13_2 : q1 = q2
    · refine Go.on (B := s₁.setTop (mkF m 16 #[.val (.long q1), .second, .val (.long q2), .second] [])) (fun t k => XS.ifNo X0.here hx rfl (hb hby d7_13) rfl ((if0 _ _).trans (teq ((lw_eq _ _).mpr hc13_2)).2) k) ?_
      refine Go.on (B := s₁.setTop (mkF m 17 #[.val (.long q1), .second, .val (.long q2), .second] [(.int (0 : Int32))])) (fun t k => XS.iconst X0.here hx rfl (hb hby d7_16) k) ?_
      refine Go.on (B := s₁.setTop (mkF m 21 #[.val (.long q1), .second, .val (.long q2), .second] [(.int (0 : Int32))])) (fun t k => XS.goto X0.here hx rfl (pc0 := 17) (pc' := 21) rfl (hb hby d7_17) (by decide) (by decide) k) ?_
      obtain ⟨fs, hr, hrun, hended, hW, hsame⟩ := X0.leave (v := some (.int (0 : Int32))) (fun h => by rw [Bd.returns] at h; cases h)
      refine ⟨_, _, ?_, hrun, hended, _, _, rfl, ?_, ⟨_, rfl⟩, hW, hsame.mono (by decide) (by decide)⟩
      · exact retI X0 hx Bd.returns (hb hby d7_21) hr
      · show Q_rcmp Z q1 q2 h0 n0 _ s₁.heap _
        rw [e0]
        exact ⟨by simp [own_cmp, hc3_1, hc13_2], N0, rfl⟩
    · refine Go.on (B := s₁.setTop (mkF m 20 #[.val (.long q1), .second, .val (.long q2), .second] [])) (fun t k => XS.ifYes X0.here hx rfl (pc0 := 13) (pc' := 20) rfl (hb hby d7_13) rfl ((if0 _ _).trans (feq (mt (lw_eq _ _).mp hc13_2)).2) (by decide) (by decide) k) ?_
      refine Go.on (B := s₁.setTop (mkF m 21 #[.val (.long q1), .second, .val (.long q2), .second] [(.int (1 : Int32))])) (fun t k => XS.iconst X0.here hx rfl (hb hby d7_20) k) ?_
      obtain ⟨fs, hr, hrun, hended, hW, hsame⟩ := X0.leave (v := some (.int (1 : Int32))) (fun h => by rw [Bd.returns] at h; cases h)
      refine ⟨_, _, ?_, hrun, hended, _, _, rfl, ?_, ⟨_, rfl⟩, hW, hsame.mono (by decide) (by decide)⟩
      · exact retI X0 hx Bd.returns (hb hby d7_21) hr
      · show Q_rcmp Z q1 q2 h0 n0 _ s₁.heap _
        rw [e0]
        exact ⟨by simp [own_cmp, hc3_1, hc13_2], N0, rfl⟩
theorem d6_0 : decode jdk_35_method_43_code 0 = .ok (.lload_n 0, 1) := by decide +kernel
theorem d6_1 : decode jdk_35_method_43_code 1 = .ok (.ldc2_w 168, 3) := by decide +kernel
theorem d6_4 : decode jdk_35_method_43_code 4 = .ok (.ladd, 1) := by decide +kernel
theorem d6_5 : decode jdk_35_method_43_code 5 = .ok (.lload_n 2, 1) := by decide +kernel
theorem d6_6 : decode jdk_35_method_43_code 6 = .ok (.ldc2_w 168, 3) := by decide +kernel
theorem d6_9 : decode jdk_35_method_43_code 9 = .ok (.ladd, 1) := by decide +kernel
theorem d6_10 : decode jdk_35_method_43_code 10 = .ok (.invokestatic 302, 3) := by decide +kernel
theorem d6_13 : decode jdk_35_method_43_code 13 = .ok (.ireturn, 1) := by decide +kernel
theorem pd_0 : parseMethodDescriptor "(JJ)I" = some ⟨[.long, .long], some .int⟩ := by decide +kernel
theorem ef_rcu (m : MethodId) (q1 : Int64) (q2 : Int64) : entryFrame m #[(.long q1), (.long q2)] 4 = mkF m 0 #[.val (.long q1), .second, .val (.long q2), .second] [] := by first | (simp [entryFrame, mkF, argsToLocals, Value.category]; done) | rfl
def Q_rcu (Z : State) (q1 : Int64) (q2 : Int64) (h0 : Heap) (n0 : Nat) (v : Option Value) (h : Heap) (L : List Loc) : Prop := v = some (.int (own_cu q1 q2)) ∧ Fr n0 L ∧ h = h0
set_option maxRecDepth 65536 in
set_option maxHeartbeats 40000000 in
theorem rcu (l : Launch) (Z : State) (a0 : Array Value) (hw : ∀ d ∈ tables_1, d.before a0 Z = true) (ws : List Jvm.Cond) (q1 : Int64) (q2 : Int64) (h0 : Heap) (n0 : Nat) (Z0 : n0 ≤ h0.size)  :
    MetFree l (⟨"java/lang/Long", "compareUnsigned", "(JJ)I"⟩ : MethodName) (head1 (Jvm.Cond.code (⟨"java/lang/Long", "compareUnsigned", "(JJ)I"⟩ : MethodName) jdk_35_method_43_code 4 (some .int) :: ws) ({ frames := 1, cells := 0, slots := 0, locals := 15 } : Room)) (fun a U => a = #[(.long q1), (.long q2)] ∧ Z.Warmed39 U.vm ∧ U.heap = h0) (fun _ _ _ _ _ => True) (fun _ U o U' => ∃ v L, o = .returned v ∧ Q_rcu Z q1 q2 h0 n0 v U'.heap L ∧ FrameEnd U o U' L ({ frames := 1, cells := 0, slots := 0, locals := 15 } : Room).cells ({ frames := 1, cells := 0, slots := 0, locals := 15 } : Room).slots) := by
  refine MetFree.of_bodySF (plainFor_of_name pn_7) hisR ?_
  intro p e s m args below meth c s₁ Bd hml0 hP hK
  obtain ⟨rfl, hZ, hh⟩ := hP
  have hx := Bd.exec
  have hby := Bd.bytes
  have hml : c.maxLocals = 4 := hml0
  have hown : s.vm.findClass "java/lang/Long" = some m.cls := findClass_of_methodNamed Bd.named
  have hnm := (name_of_methodNamed Bd.named Bd.method).1
  have X0 : Stand p l e ({ frames := 1, cells := 0, slots := 0, locals := 15 } : Room) s m #[(.long q1), (.long q2)] below meth c s₁ [] 0 0 := Stand.of_body Bd
  have e0 : s₁.heap = h0 := by rw [← hh, Bd.state]; rfl
  have N0 := Fr.nil n0
  have pre0 : ∀ t, Steps p.tables e below (s₁.setTop (mkF m 0 #[.val (.long q1), .second, .val (.long q2), .second] [])) t → Steps p.tables e below (s₁.setTop (entryFrame m #[(.long q1), (.long q2)] 4)) t := fun t k => castTop (ef_rcu m q1 q2) k
  change Go p.tables e below (fun o U' => ∃ v L, o = .returned v ∧ Q_rcu Z q1 q2 h0 n0 v U'.heap L ∧ FrameEnd s o U' L ({ frames := 1, cells := 0, slots := 0, locals := 15 } : Room).cells ({ frames := 1, cells := 0, slots := 0, locals := 15 } : Room).slots) (s₁.setTop (entryFrame m #[(.long q1), (.long q2)] 4))
  refine Go.on pre0 ?_
  refine Go.on (B := s₁.setTop (mkF m 1 #[.val (.long q1), .second, .val (.long q2), .second] [(.long q1)])) (fun t k => XS.lloadN X0.here hx rfl (hb hby d6_0) rfl k) ?_
  refine Go.on (B := s₁.setTop (mkF m 4 #[.val (.long q1), .second, .val (.long q2), .second] [(.long (-9223372036854775808 : Int64)), (.long q1)])) (fun t k => X0.ldc2Long hx hown (mvT hZ (hw _ (List.mem_of_getElem? (i := 32) rfl))) (g := (mkF m 1 #[.val (.long q1), .second, .val (.long q2), .second] [(.long q1)])) rfl (hb hby d6_1) _ k) ?_
  refine Go.on (B := s₁.setTop (mkF m 5 #[.val (.long q1), .second, .val (.long q2), .second] [(.long (q1 + (-9223372036854775808 : Int64)))])) (fun t k => XS.ladd X0.here hx rfl (hb hby d6_4) rfl k) ?_
  refine Go.on (B := s₁.setTop (mkF m 6 #[.val (.long q1), .second, .val (.long q2), .second] [(.long q2), (.long (q1 + (-9223372036854775808 : Int64)))])) (fun t k => XS.lloadN X0.here hx rfl (hb hby d6_5) rfl k) ?_
  refine Go.on (B := s₁.setTop (mkF m 9 #[.val (.long q1), .second, .val (.long q2), .second] [(.long (-9223372036854775808 : Int64)), (.long q2), (.long (q1 + (-9223372036854775808 : Int64)))])) (fun t k => X0.ldc2Long hx hown (mvT hZ (hw _ (List.mem_of_getElem? (i := 32) rfl))) (g := (mkF m 6 #[.val (.long q1), .second, .val (.long q2), .second] [(.long q2), (.long (q1 + (-9223372036854775808 : Int64)))])) rfl (hb hby d6_6) _ k) ?_
  refine Go.on (B := s₁.setTop (mkF m 10 #[.val (.long q1), .second, .val (.long q2), .second] [(.long (q2 + (-9223372036854775808 : Int64))), (.long (q1 + (-9223372036854775808 : Int64)))])) (fun t k => XS.ladd X0.here hx rfl (hb hby d6_9) rfl k) ?_
  obtain ⟨_, _, ⟨T1, L1, k1, n1⟩, -, X1, ⟨Lc1, hQ1, l1, y1, z1⟩, st1⟩ := Jvm.LawKit.callS X0 hx (y := (⟨"java/lang/Long", "compare", "(JJ)I"⟩ : MethodName)) hown (mvT hZ (hw _ (List.mem_of_getElem? (i := 33) rfl))) (mvT hZ (hw _ (List.mem_of_getElem? (i := 34) rfl))) (mvT hZ (hw _ (List.mem_of_getElem? (i := 30) rfl))) (mvT hZ (hw _ (List.mem_of_getElem? (i := 35) rfl))) (by decide) (backOf (W := 0) (rcmp l Z a0 hw [] (q1 + (-9223372036854775808 : Int64)) (q2 + (-9223372036854775808 : Int64)) h0 n0 Z0) hZ (hw _ (List.mem_of_getElem? (i := 35) rfl)) (hw _ (List.mem_of_getElem? (i := 30) rfl)) (by decide) (by decide)) (g := (mkF m 10 #[.val (.long q1), .second, .val (.long q2), .second] [(.long (q2 + (-9223372036854775808 : Int64))), (.long (q1 + (-9223372036854775808 : Int64)))])) rfl (by rw [hml]; rfl) (argsL := [(.long (q1 + (-9223372036854775808 : Int64))), (.long (q2 + (-9223372036854775808 : Int64)))]) (rest := []) (lenOf pd_0 rfl) rfl (by show 2 * 0 + _ ≤ _; exact Nat.le_of_eq rfl) (hb hby d6_10) (fun _ _ => ⟨rfl, e0, (by decide : 0 + 0 ≤ _), (by decide : 0 + 0 ≤ _)⟩)
  dsimp only [Pt.U, Pt.locs, Pt.cells, Pt.slots] at X1 l1 y1 z1 st1 hQ1
  subst l1 y1 z1
  obtain ⟨rfl, N1q, e1q⟩ := hQ1
  have N1 := Fr.app N0 N1q
  refine Go.on (B := T1.setTop (mkF m 13 #[.val (.long q1), .second, .val (.long q2), .second] [(.int (own_cmp (q1 + (-9223372036854775808 : Int64)) (q2 + (-9223372036854775808 : Int64))))])) (fun t k => st1 _ k) ?_
  obtain ⟨fs, hr, hrun, hended, hW, hsame⟩ := X1.leave (v := some (.int (own_cmp (q1 + (-9223372036854775808 : Int64)) (q2 + (-9223372036854775808 : Int64))))) (fun h => by rw [Bd.returns] at h; cases h)
  refine ⟨_, _, ?_, hrun, hended, _, _, rfl, ?_, ⟨_, rfl⟩, hW, hsame.mono (by decide) (by decide)⟩
  · exact retI X1 hx Bd.returns (hb hby d6_13) hr
  · show Q_rcu Z q1 q2 h0 n0 _ T1.heap _
    rw [e1q]
    exact ⟨rfl, N1, rfl⟩
theorem d5_0 : decode prog_37_method_2_code 0 = .ok (.aload_n 0, 1) := by decide +kernel
theorem d5_1 : decode prog_37_method_2_code 1 = .ok (.getfield 7, 3) := by decide +kernel
theorem d5_4 : decode prog_37_method_2_code 4 = .ok (.lload_n 1, 1) := by decide +kernel
theorem d5_5 : decode prog_37_method_2_code 5 = .ok (.ladd, 1) := by decide +kernel
theorem d5_6 : decode prog_37_method_2_code 6 = .ok (.lstore_n 3, 1) := by decide +kernel
theorem d5_7 : decode prog_37_method_2_code 7 = .ok (.aload_n 0, 1) := by decide +kernel
theorem d5_8 : decode prog_37_method_2_code 8 = .ok (.dup, 1) := by decide +kernel
theorem d5_9 : decode prog_37_method_2_code 9 = .ok (.getfield 13, 3) := by decide +kernel
theorem d5_12 : decode prog_37_method_2_code 12 = .ok (.lload_n 1, 1) := by decide +kernel
theorem d5_13 : decode prog_37_method_2_code 13 = .ok (.bipush 63, 2) := by decide +kernel
theorem d5_15 : decode prog_37_method_2_code 15 = .ok (.lshr, 1) := by decide +kernel
theorem d5_16 : decode prog_37_method_2_code 16 = .ok (.lload_n 3, 1) := by decide +kernel
theorem d5_17 : decode prog_37_method_2_code 17 = .ok (.aload_n 0, 1) := by decide +kernel
theorem d5_18 : decode prog_37_method_2_code 18 = .ok (.getfield 7, 3) := by decide +kernel
theorem d5_21 : decode prog_37_method_2_code 21 = .ok (.invokestatic 16, 3) := by decide +kernel
theorem d5_24 : decode prog_37_method_2_code 24 = .ok (.ifCond .ge 7, 3) := by decide +kernel
theorem d5_27 : decode prog_37_method_2_code 27 = .ok (.iconst 1, 1) := by decide +kernel
theorem d5_28 : decode prog_37_method_2_code 28 = .ok (.goto 4, 3) := by decide +kernel
theorem d5_31 : decode prog_37_method_2_code 31 = .ok (.iconst 0, 1) := by decide +kernel
theorem d5_32 : decode prog_37_method_2_code 32 = .ok (.i2l, 1) := by decide +kernel
theorem d5_33 : decode prog_37_method_2_code 33 = .ok (.ladd, 1) := by decide +kernel
theorem d5_34 : decode prog_37_method_2_code 34 = .ok (.ladd, 1) := by decide +kernel
theorem d5_35 : decode prog_37_method_2_code 35 = .ok (.putfield 13, 3) := by decide +kernel
theorem d5_38 : decode prog_37_method_2_code 38 = .ok (.aload_n 0, 1) := by decide +kernel
theorem d5_39 : decode prog_37_method_2_code 39 = .ok (.lload_n 3, 1) := by decide +kernel
theorem d5_40 : decode prog_37_method_2_code 40 = .ok (.putfield 7, 3) := by decide +kernel
theorem d5_43 : decode prog_37_method_2_code 43 = .ok (.aload_n 0, 1) := by decide +kernel
theorem d5_44 : decode prog_37_method_2_code 44 = .ok (.areturn, 1) := by decide +kernel
theorem ef_rplus (m : MethodId) (a1 : Addr) (q2 : Int64) : entryFrame m #[(.ref a1), (.long q2)] 5 = mkF m 0 #[.val (.ref a1), .val (.long q2), .second, .unset, .unset] [] := by first | (simp [entryFrame, mkF, argsToLocals, Value.category]; done) | rfl
def Q_rplus (Z : State) (a1 : Addr) (q2 : Int64) (q3 q4 : Int64) (h0 : Heap) (n0 : Nat) (v : Option Value) (h : Heap) (L : List Loc) : Prop := v = some (.ref a1) ∧ Fr n0 L ∧ Keep h0 h [a1] ∧ Exa Z h a1 "com/example/encours/encours/engine/Money$Total" ∧ ∃ l1 u1 : Int64, l1 = q3 + q2 ∧ u1 = own_up q3 q4 q2 ∧ Fld Z h a1 "com/example/encours/encours/engine/Money$Total" "low" "J" (.long l1) ∧ Fld Z h a1 "com/example/encours/encours/engine/Money$Total" "high" "J" (.long u1)
set_option maxRecDepth 65536 in
set_option maxHeartbeats 40000000 in
theorem rplus (l : Launch) (Z : State) (a0 : Array Value) (hw : ∀ d ∈ tables_1, d.before a0 Z = true) (ws : List Jvm.Cond) (a1 : Addr) (q2 : Int64) (q3 q4 : Int64) (h0 : Heap) (n0 : Nat) (Z0 : n0 ≤ h0.size) (E1 : Exa Z h0 a1 "com/example/encours/encours/engine/Money$Total") (F1 : Fld Z h0 a1 "com/example/encours/encours/engine/Money$Total" "low" "J" (.long q3)) (F2 : Fld Z h0 a1 "com/example/encours/encours/engine/Money$Total" "high" "J" (.long q4)) (g1 : n0 ≤ a1) :
    MetFree l (⟨"com/example/encours/encours/engine/Money$Total", "plus", "(J)Lcom/example/encours/encours/engine/Money$Total;"⟩ : MethodName) (head1 (Jvm.Cond.code (⟨"com/example/encours/encours/engine/Money$Total", "plus", "(J)Lcom/example/encours/encours/engine/Money$Total;"⟩ : MethodName) prog_37_method_2_code 5 (some (.object "com/example/encours/encours/engine/Money$Total")) :: ws) ({ frames := 2, cells := 0, slots := 0, locals := 40 } : Room)) (fun a U => a = #[(.ref a1), (.long q2)] ∧ Z.Warmed39 U.vm ∧ U.heap = h0) (fun _ _ _ _ _ => True) (fun _ U o U' => ∃ v L, o = .returned v ∧ Q_rplus Z a1 q2 q3 q4 h0 n0 v U'.heap L ∧ FrameEnd U o U' L ({ frames := 2, cells := 0, slots := 0, locals := 40 } : Room).cells ({ frames := 2, cells := 0, slots := 0, locals := 40 } : Room).slots) := by
  refine MetFree.of_bodySF (plainFor_of_name pn_5) hisR ?_
  intro p e s m args below meth c s₁ Bd hml0 hP hK
  obtain ⟨rfl, hZ, hh⟩ := hP
  have hx := Bd.exec
  have hby := Bd.bytes
  have hml : c.maxLocals = 5 := hml0
  have hown : s.vm.findClass "com/example/encours/encours/engine/Money$Total" = some m.cls := findClass_of_methodNamed Bd.named
  have hnm := (name_of_methodNamed Bd.named Bd.method).1
  have X0 : Stand p l e ({ frames := 2, cells := 0, slots := 0, locals := 40 } : Room) s m #[(.ref a1), (.long q2)] below meth c s₁ [] 0 0 := Stand.of_body Bd
  have e0 : s₁.heap = h0 := by rw [← hh, Bd.state]; rfl
  have N0 := Fr.nil n0
  have pre0 : ∀ t, Steps p.tables e below (s₁.setTop (mkF m 0 #[.val (.ref a1), .val (.long q2), .second, .unset, .unset] [])) t → Steps p.tables e below (s₁.setTop (entryFrame m #[(.ref a1), (.long q2)] 5)) t := fun t k => castTop (ef_rplus m a1 q2) k
  change Go p.tables e below (fun o U' => ∃ v L, o = .returned v ∧ Q_rplus Z a1 q2 q3 q4 h0 n0 v U'.heap L ∧ FrameEnd s o U' L ({ frames := 2, cells := 0, slots := 0, locals := 40 } : Room).cells ({ frames := 2, cells := 0, slots := 0, locals := 40 } : Room).slots) (s₁.setTop (entryFrame m #[(.ref a1), (.long q2)] 5))
  have K0 := Keep.refl h0 [a1]
  refine Go.on pre0 ?_
  refine Go.on (B := s₁.setTop (mkF m 1 #[.val (.ref a1), .val (.long q2), .second, .unset, .unset] [(.ref a1)])) (fun t k => XS.aloadN X0.here hx rfl (hb hby d5_0) rfl rfl k) ?_
  obtain ⟨T1, X1, e1, st1⟩ := getF X0 hx hZ hown (host := "") (Or.inl (hw _ (List.mem_of_getElem? (i := 24) rfl))) Via.refl e0 F1 (g := (mkF m 1 #[.val (.ref a1), .val (.long q2), .second, .unset, .unset] [(.ref a1)])) rfl rfl (hb hby d5_1)
  refine Go.on (B := T1.setTop (mkF m 4 #[.val (.ref a1), .val (.long q2), .second, .unset, .unset] [(.long q3)])) (fun t k => st1 _ k) ?_
  refine Go.on (B := T1.setTop (mkF m 5 #[.val (.ref a1), .val (.long q2), .second, .unset, .unset] [(.long q2), (.long q3)])) (fun t k => XS.lloadN X1.here hx rfl (hb hby d5_4) rfl k) ?_
  refine Go.on (B := T1.setTop (mkF m 6 #[.val (.ref a1), .val (.long q2), .second, .unset, .unset] [(.long (q3 + q2))])) (fun t k => XS.ladd X1.here hx rfl (hb hby d5_5) rfl k) ?_
  generalize hv6_2 : (q3 + q2) = v6_2
  refine Go.on (B := T1.setTop (mkF m 7 #[.val (.ref a1), .val (.long q2), .second, .val (.long v6_2), .second] [])) (fun t k => XS.lstoreN X1.here hx rfl (hb hby d5_6) rfl (l' := #[.val (.ref a1), .val (.long q2), .second, .val (.long v6_2), .second]) rfl k) ?_
  refine Go.on (B := T1.setTop (mkF m 8 #[.val (.ref a1), .val (.long q2), .second, .val (.long v6_2), .second] [(.ref a1)])) (fun t k => XS.aloadN X1.here hx rfl (hb hby d5_7) rfl rfl k) ?_
  refine Go.on (B := T1.setTop (mkF m 9 #[.val (.ref a1), .val (.long q2), .second, .val (.long v6_2), .second] [(.ref a1), (.ref a1)])) (fun t k => XS.dup X1.here hx rfl (hb hby d5_8) rfl rfl k) ?_
  obtain ⟨T3, X3, e3, st3⟩ := getF X1 hx hZ hown (host := "") (Or.inl (hw _ (List.mem_of_getElem? (i := 26) rfl))) Via.refl e1 F2 (g := (mkF m 9 #[.val (.ref a1), .val (.long q2), .second, .val (.long v6_2), .second] [(.ref a1), (.ref a1)])) rfl rfl (hb hby d5_9)
  refine Go.on (B := T3.setTop (mkF m 12 #[.val (.ref a1), .val (.long q2), .second, .val (.long v6_2), .second] [(.long q4), (.ref a1)])) (fun t k => st3 _ k) ?_
  refine Go.on (B := T3.setTop (mkF m 13 #[.val (.ref a1), .val (.long q2), .second, .val (.long v6_2), .second] [(.long q2), (.long q4), (.ref a1)])) (fun t k => XS.lloadN X3.here hx rfl (hb hby d5_12) rfl k) ?_
  refine Go.on (B := T3.setTop (mkF m 15 #[.val (.ref a1), .val (.long q2), .second, .val (.long v6_2), .second] [(.int (63 : Int32)), (.long q2), (.long q4), (.ref a1)])) (fun t k => XS.bipush X3.here hx rfl (hb hby d5_13) k) ?_
  refine Go.on (B := T3.setTop (mkF m 16 #[.val (.ref a1), .val (.long q2), .second, .val (.long v6_2), .second] [(.long (q2 >>> ((63 : Int32) &&& 0x3f).toInt64)), (.long q4), (.ref a1)])) (fun t k => XS.lshr X3.here hx rfl (hb hby d5_15) rfl k) ?_
  refine Go.on (B := T3.setTop (mkF m 17 #[.val (.ref a1), .val (.long q2), .second, .val (.long v6_2), .second] [(.long v6_2), (.long (q2 >>> ((63 : Int32) &&& 0x3f).toInt64)), (.long q4), (.ref a1)])) (fun t k => XS.lloadN X3.here hx rfl (hb hby d5_16) rfl k) ?_
  refine Go.on (B := T3.setTop (mkF m 18 #[.val (.ref a1), .val (.long q2), .second, .val (.long v6_2), .second] [(.ref a1), (.long v6_2), (.long (q2 >>> ((63 : Int32) &&& 0x3f).toInt64)), (.long q4), (.ref a1)])) (fun t k => XS.aloadN X3.here hx rfl (hb hby d5_17) rfl rfl k) ?_
  obtain ⟨T4, X4, e4, st4⟩ := getF X3 hx hZ hown (host := "") (Or.inl (hw _ (List.mem_of_getElem? (i := 24) rfl))) Via.refl e3 F1 (g := (mkF m 18 #[.val (.ref a1), .val (.long q2), .second, .val (.long v6_2), .second] [(.ref a1), (.long v6_2), (.long (q2 >>> ((63 : Int32) &&& 0x3f).toInt64)), (.long q4), (.ref a1)])) rfl rfl (hb hby d5_18)
  refine Go.on (B := T4.setTop (mkF m 21 #[.val (.ref a1), .val (.long q2), .second, .val (.long v6_2), .second] [(.long q3), (.long v6_2), (.long (q2 >>> ((63 : Int32) &&& 0x3f).toInt64)), (.long q4), (.ref a1)])) (fun t k => st4 _ k) ?_
  obtain ⟨_, _, ⟨T5, L5, k5, n5⟩, -, X5, ⟨Lc5, hQ5, l5, y5, z5⟩, st5⟩ := Jvm.LawKit.callS X4 hx (y := (⟨"java/lang/Long", "compareUnsigned", "(JJ)I"⟩ : MethodName)) hown (mvT hZ (hw _ (List.mem_of_getElem? (i := 28) rfl))) (mvT hZ (hw _ (List.mem_of_getElem? (i := 29) rfl))) (mvT hZ (hw _ (List.mem_of_getElem? (i := 30) rfl))) (mvT hZ (hw _ (List.mem_of_getElem? (i := 31) rfl))) (by decide) (backOf (W := 5) (rcu l Z a0 hw [] v6_2 q3 h0 n0 Z0) hZ (hw _ (List.mem_of_getElem? (i := 31) rfl)) (hw _ (List.mem_of_getElem? (i := 30) rfl)) (by decide) (by decide)) (g := (mkF m 21 #[.val (.ref a1), .val (.long q2), .second, .val (.long v6_2), .second] [(.long q3), (.long v6_2), (.long (q2 >>> ((63 : Int32) &&& 0x3f).toInt64)), (.long q4), (.ref a1)])) rfl (by rw [hml]; rfl) (argsL := [(.long v6_2), (.long q3)]) (rest := [(.long (q2 >>> ((63 : Int32) &&& 0x3f).toInt64)), (.long q4), (.ref a1)]) (lenOf pd_0 rfl) rfl (by show 2 * 0 + _ ≤ _; exact Nat.le_of_eq rfl) (hb hby d5_21) (fun _ _ => ⟨rfl, e4, (by decide : 0 + 0 ≤ _), (by decide : 0 + 0 ≤ _)⟩)
  dsimp only [Pt.U, Pt.locs, Pt.cells, Pt.slots] at X5 l5 y5 z5 st5 hQ5
  subst l5 y5 z5
  obtain ⟨rfl, N5q, e5q⟩ := hQ5
  have N5 := Fr.app N0 N5q
  refine Go.on (B := T5.setTop (mkF m 24 #[.val (.ref a1), .val (.long q2), .second, .val (.long v6_2), .second] [(.int (own_cu v6_2 q3)), (.long (q2 >>> ((63 : Int32) &&& 0x3f).toInt64)), (.long q4), (.ref a1)])) (fun t k => st5 _ k) ?_
  have sg24_6 : ∀ (z24_a6 : Int32) (hz24_a6 : z24_a6 = (if (own_cu v6_2 q3) < (0 : Int32) then (1 : Int32) else (0 : Int32))), ∀ t, Steps p.tables e below (T5.setTop (mkF m 32 #[.val (.ref a1), .val (.long q2), .second, .val (.long v6_2), .second] [(.int z24_a6), (.long (q2 >>> ((63 : Int32) &&& 0x3f).toInt64)), (.long q4), (.ref a1)])) t → Steps p.tables e below (T5.setTop (mkF m 24 #[.val (.ref a1), .val (.long q2), .second, .val (.long v6_2), .second] [(.int (own_cu v6_2 q3)), (.long (q2 >>> ((63 : Int32) &&& 0x3f).toInt64)), (.long q4), (.ref a1)])) t := by
    intro z24_a6 hz24_a6 t k
    show Steps p.tables e below (T5.setTop (mkF m 24 #[.val (.ref a1), .val (.long q2), .second, .val (.long v6_2), .second] [(.int (own_cu v6_2 q3)), (.long (q2 >>> ((63 : Int32) &&& 0x3f).toInt64)), (.long q4), (.ref a1)])) _
    by_cases hc24_7 : (own_cu v6_2 q3) < (0 : Int32)
    · first | rw [if_pos hc24_7] at hz24_a6 | skip
      refine XS.ifNo X5.here hx rfl (hb hby d5_24) rfl ((if0 _ _).trans (tlt hc24_7).2.1) ?_
      show Steps p.tables e below (T5.setTop (mkF m 27 #[.val (.ref a1), .val (.long q2), .second, .val (.long v6_2), .second] [(.long (q2 >>> ((63 : Int32) &&& 0x3f).toInt64)), (.long q4), (.ref a1)])) _
      refine XS.iconst X5.here hx rfl (hb hby d5_27) ?_
      show Steps p.tables e below (T5.setTop (mkF m 28 #[.val (.ref a1), .val (.long q2), .second, .val (.long v6_2), .second] [(.int (1 : Int32)), (.long (q2 >>> ((63 : Int32) &&& 0x3f).toInt64)), (.long q4), (.ref a1)])) _
      refine XS.goto X5.here hx rfl (pc0 := 28) (pc' := 32) rfl (hb hby d5_28) (by decide) (by decide) ?_
      show Steps p.tables e below (T5.setTop (mkF m 32 #[.val (.ref a1), .val (.long q2), .second, .val (.long v6_2), .second] [(.int (1 : Int32)), (.long (q2 >>> ((63 : Int32) &&& 0x3f).toInt64)), (.long q4), (.ref a1)])) _
      subst hz24_a6
      exact k
    · first | rw [if_neg hc24_7] at hz24_a6 | skip
      refine XS.ifYes X5.here hx rfl (pc0 := 24) (pc' := 31) rfl (hb hby d5_24) rfl ((if0 _ _).trans (flt hc24_7).2.1) (by decide) (by decide) ?_
      show Steps p.tables e below (T5.setTop (mkF m 31 #[.val (.ref a1), .val (.long q2), .second, .val (.long v6_2), .second] [(.long (q2 >>> ((63 : Int32) &&& 0x3f).toInt64)), (.long q4), (.ref a1)])) _
      refine XS.iconst X5.here hx rfl (hb hby d5_31) ?_
      show Steps p.tables e below (T5.setTop (mkF m 32 #[.val (.ref a1), .val (.long q2), .second, .val (.long v6_2), .second] [(.int (0 : Int32)), (.long (q2 >>> ((63 : Int32) &&& 0x3f).toInt64)), (.long q4), (.ref a1)])) _
      subst hz24_a6
      exact k
  obtain ⟨z24_a6, hz24_a6⟩ : ∃ z, z = (if (own_cu v6_2 q3) < (0 : Int32) then (1 : Int32) else (0 : Int32)) := ⟨_, rfl⟩
  refine Go.on (sg24_6 z24_a6 hz24_a6) ?_
  refine Go.on (B := T5.setTop (mkF m 33 #[.val (.ref a1), .val (.long q2), .second, .val (.long v6_2), .second] [(.long (z24_a6.toInt64)), (.long (q2 >>> ((63 : Int32) &&& 0x3f).toInt64)), (.long q4), (.ref a1)])) (fun t k => XS.i2l X5.here hx rfl (hb hby d5_32) rfl k) ?_
  refine Go.on (B := T5.setTop (mkF m 34 #[.val (.ref a1), .val (.long q2), .second, .val (.long v6_2), .second] [(.long ((q2 >>> ((63 : Int32) &&& 0x3f).toInt64) + (z24_a6.toInt64))), (.long q4), (.ref a1)])) (fun t k => XS.ladd X5.here hx rfl (hb hby d5_33) rfl k) ?_
  refine Go.on (B := T5.setTop (mkF m 35 #[.val (.ref a1), .val (.long q2), .second, .val (.long v6_2), .second] [(.long (q4 + ((q2 >>> ((63 : Int32) &&& 0x3f).toInt64) + (z24_a6.toInt64)))), (.ref a1)])) (fun t k => XS.ladd X5.here hx rfl (hb hby d5_34) rfl k) ?_
  obtain ⟨T8, h8, X8, e8, W8, st8⟩ := putF X5 hx hZ hown (host := "") (Or.inl (hw _ (List.mem_of_getElem? (i := 26) rfl))) Via.refl e5q F2 E1 (Or.inl (hw _ (List.mem_of_getElem? (i := 27) rfl))) (hw _ (List.mem_of_getElem? (i := 11) rfl)) (ty := .long) (by decide) rfl rfl (g := (mkF m 35 #[.val (.ref a1), .val (.long q2), .second, .val (.long v6_2), .second] [(.long (q4 + ((q2 >>> ((63 : Int32) &&& 0x3f).toInt64) + (z24_a6.toInt64)))), (.ref a1)])) rfl rfl (hb hby d5_35)
  have N8 := Fr.snoc X8 N5 g1
  have Fw8 := F2.same W8
  have f1 := E1.wr W8
  have f2 := F1.other W8 (Or.inr (slot_ne (Or.inl (hw _ (List.mem_of_getElem? (i := 25) rfl))) (Or.inl (hw _ (List.mem_of_getElem? (i := 27) rfl))) (by decide) (t := .long) (t' := .long) (by decide) (by decide)))
  have Zs3 := Nat.le_trans Z0 (Keep.of_wr W8).1
  have K4 := K0.wr W8 (Or.inl (List.mem_of_getElem? (i := 0) rfl))
  refine Go.on (B := T8.setTop (mkF m 38 #[.val (.ref a1), .val (.long q2), .second, .val (.long v6_2), .second] [])) (fun t k => st8 _ k) ?_
  refine Go.on (B := T8.setTop (mkF m 39 #[.val (.ref a1), .val (.long q2), .second, .val (.long v6_2), .second] [(.ref a1)])) (fun t k => XS.aloadN X8.here hx rfl (hb hby d5_38) rfl rfl k) ?_
  refine Go.on (B := T8.setTop (mkF m 40 #[.val (.ref a1), .val (.long q2), .second, .val (.long v6_2), .second] [(.long v6_2), (.ref a1)])) (fun t k => XS.lloadN X8.here hx rfl (hb hby d5_39) rfl k) ?_
  obtain ⟨T9, h9, X9, e9, W9, st9⟩ := putF X8 hx hZ hown (host := "") (Or.inl (hw _ (List.mem_of_getElem? (i := 24) rfl))) Via.refl e8 f2 f1 (Or.inl (hw _ (List.mem_of_getElem? (i := 25) rfl))) (hw _ (List.mem_of_getElem? (i := 11) rfl)) (ty := .long) (by decide) rfl rfl (g := (mkF m 40 #[.val (.ref a1), .val (.long q2), .second, .val (.long v6_2), .second] [(.long v6_2), (.ref a1)])) rfl rfl (hb hby d5_40)
  have N9 := Fr.snoc X9 N8 g1
  have Fw9 := f2.same W9
  have f5 := f1.wr W9
  have f6 := Fw8.other W9 (Or.inr (slot_ne (Or.inl (hw _ (List.mem_of_getElem? (i := 27) rfl))) (Or.inl (hw _ (List.mem_of_getElem? (i := 25) rfl))) (by decide) (t := .long) (t' := .long) (by decide) (by decide)))
  have Zs7 := Nat.le_trans Zs3 (Keep.of_wr W9).1
  have K8 := K4.wr W9 (Or.inl (List.mem_of_getElem? (i := 0) rfl))
  refine Go.on (B := T9.setTop (mkF m 43 #[.val (.ref a1), .val (.long q2), .second, .val (.long v6_2), .second] [])) (fun t k => st9 _ k) ?_
  refine Go.on (B := T9.setTop (mkF m 44 #[.val (.ref a1), .val (.long q2), .second, .val (.long v6_2), .second] [(.ref a1)])) (fun t k => XS.aloadN X9.here hx rfl (hb hby d5_43) rfl rfl k) ?_
  obtain ⟨fs, hr, hrun, hended, hW, hsame⟩ := X9.leave (v := some (.ref a1)) (fun h => by rw [Bd.returns] at h; cases h)
  refine ⟨_, _, ?_, hrun, hended, _, _, rfl, ?_, ⟨_, rfl⟩, hW, hsame.mono (by decide) (by decide)⟩
  · exact retOut X9 hx Bd.returns rfl (Or.inr (Or.inr (Or.inr (Or.inr ⟨rfl, rfl, rfl⟩)))) (hb hby d5_44) hr
  · show Q_rplus Z a1 q2 q3 q4 h0 n0 _ T9.heap _
    rw [e9]
    exact ⟨rfl, N9, K8, f5, _, _, hv6_2.symm, (by rw [hz24_a6, ← hv6_2]; rfl), Fw9, f6⟩
theorem d8_0 : decode prog_37_method_6_code 0 = .ok (.aload_n 0, 1) := by decide +kernel
theorem d8_1 : decode prog_37_method_6_code 1 = .ok (.getfield 13, 3) := by decide +kernel
theorem d8_4 : decode prog_37_method_6_code 4 = .ok (.aload_n 0, 1) := by decide +kernel
theorem d8_5 : decode prog_37_method_6_code 5 = .ok (.getfield 7, 3) := by decide +kernel
theorem d8_8 : decode prog_37_method_6_code 8 = .ok (.bipush 63, 2) := by decide +kernel
theorem d8_10 : decode prog_37_method_6_code 10 = .ok (.lshr, 1) := by decide +kernel
theorem d8_11 : decode prog_37_method_6_code 11 = .ok (.lcmp, 1) := by decide +kernel
theorem d8_12 : decode prog_37_method_6_code 12 = .ok (.ifCond .ne 7, 3) := by decide +kernel
theorem d8_15 : decode prog_37_method_6_code 15 = .ok (.iconst 1, 1) := by decide +kernel
theorem d8_16 : decode prog_37_method_6_code 16 = .ok (.goto 4, 3) := by decide +kernel
theorem d8_19 : decode prog_37_method_6_code 19 = .ok (.iconst 0, 1) := by decide +kernel
theorem d8_20 : decode prog_37_method_6_code 20 = .ok (.ireturn, 1) := by decide +kernel
theorem ef_rfit (m : MethodId) (a1 : Addr) : entryFrame m #[(.ref a1)] 1 = mkF m 0 #[.val (.ref a1)] [] := by first | (simp [entryFrame, mkF, argsToLocals, Value.category]; done) | rfl
def Q_rfit (Z : State) (a1 : Addr) (q3 q4 : Int64) (h0 : Heap) (n0 : Nat) (v : Option Value) (h : Heap) (L : List Loc) : Prop := v = some (.int (own_fit q3 q4)) ∧ Fr n0 L ∧ h = h0
set_option maxRecDepth 65536 in
set_option maxHeartbeats 40000000 in
theorem rfit (l : Launch) (Z : State) (a0 : Array Value) (hw : ∀ d ∈ tables_1, d.before a0 Z = true) (ws : List Jvm.Cond) (a1 : Addr) (q3 q4 : Int64) (h0 : Heap) (n0 : Nat) (Z0 : n0 ≤ h0.size) (E1 : Exa Z h0 a1 "com/example/encours/encours/engine/Money$Total") (F1 : Fld Z h0 a1 "com/example/encours/encours/engine/Money$Total" "low" "J" (.long q3)) (F2 : Fld Z h0 a1 "com/example/encours/encours/engine/Money$Total" "high" "J" (.long q4)) :
    MetFree l (⟨"com/example/encours/encours/engine/Money$Total", "fits", "()Z"⟩ : MethodName) (head1 (Jvm.Cond.code (⟨"com/example/encours/encours/engine/Money$Total", "fits", "()Z"⟩ : MethodName) prog_37_method_6_code 1 (some .boolean) :: ws) ({ frames := 0, cells := 0, slots := 0, locals := 0 } : Room)) (fun a U => a = #[(.ref a1)] ∧ Z.Warmed39 U.vm ∧ U.heap = h0) (fun _ _ _ _ _ => True) (fun _ U o U' => ∃ v L, o = .returned v ∧ Q_rfit Z a1 q3 q4 h0 n0 v U'.heap L ∧ FrameEnd U o U' L ({ frames := 0, cells := 0, slots := 0, locals := 0 } : Room).cells ({ frames := 0, cells := 0, slots := 0, locals := 0 } : Room).slots) := by
  refine MetFree.of_bodySF (plainFor_of_name pn_5) hisR ?_
  intro p e s m args below meth c s₁ Bd hml0 hP hK
  obtain ⟨rfl, hZ, hh⟩ := hP
  have hx := Bd.exec
  have hby := Bd.bytes
  have hml : c.maxLocals = 1 := hml0
  have hown : s.vm.findClass "com/example/encours/encours/engine/Money$Total" = some m.cls := findClass_of_methodNamed Bd.named
  have hnm := (name_of_methodNamed Bd.named Bd.method).1
  have X0 : Stand p l e ({ frames := 0, cells := 0, slots := 0, locals := 0 } : Room) s m #[(.ref a1)] below meth c s₁ [] 0 0 := Stand.of_body Bd
  have e0 : s₁.heap = h0 := by rw [← hh, Bd.state]; rfl
  have N0 := Fr.nil n0
  have pre0 : ∀ t, Steps p.tables e below (s₁.setTop (mkF m 0 #[.val (.ref a1)] [])) t → Steps p.tables e below (s₁.setTop (entryFrame m #[(.ref a1)] 1)) t := fun t k => castTop (ef_rfit m a1) k
  change Go p.tables e below (fun o U' => ∃ v L, o = .returned v ∧ Q_rfit Z a1 q3 q4 h0 n0 v U'.heap L ∧ FrameEnd s o U' L ({ frames := 0, cells := 0, slots := 0, locals := 0 } : Room).cells ({ frames := 0, cells := 0, slots := 0, locals := 0 } : Room).slots) (s₁.setTop (entryFrame m #[(.ref a1)] 1))
  refine Go.on pre0 ?_
  refine Go.on (B := s₁.setTop (mkF m 1 #[.val (.ref a1)] [(.ref a1)])) (fun t k => XS.aloadN X0.here hx rfl (hb hby d8_0) rfl rfl k) ?_
  obtain ⟨T1, X1, e1, st1⟩ := getF X0 hx hZ hown (host := "") (Or.inl (hw _ (List.mem_of_getElem? (i := 26) rfl))) Via.refl e0 F2 (g := (mkF m 1 #[.val (.ref a1)] [(.ref a1)])) rfl rfl (hb hby d8_1)
  refine Go.on (B := T1.setTop (mkF m 4 #[.val (.ref a1)] [(.long q4)])) (fun t k => st1 _ k) ?_
  refine Go.on (B := T1.setTop (mkF m 5 #[.val (.ref a1)] [(.ref a1), (.long q4)])) (fun t k => XS.aloadN X1.here hx rfl (hb hby d8_4) rfl rfl k) ?_
  obtain ⟨T2, X2, e2, st2⟩ := getF X1 hx hZ hown (host := "") (Or.inl (hw _ (List.mem_of_getElem? (i := 24) rfl))) Via.refl e1 F1 (g := (mkF m 5 #[.val (.ref a1)] [(.ref a1), (.long q4)])) rfl rfl (hb hby d8_5)
  refine Go.on (B := T2.setTop (mkF m 8 #[.val (.ref a1)] [(.long q3), (.long q4)])) (fun t k => st2 _ k) ?_
  refine Go.on (B := T2.setTop (mkF m 10 #[.val (.ref a1)] [(.int (63 : Int32)), (.long q3), (.long q4)])) (fun t k => XS.bipush X2.here hx rfl (hb hby d8_8) k) ?_
  refine Go.on (B := T2.setTop (mkF m 11 #[.val (.ref a1)] [(.long (q3 >>> ((63 : Int32) &&& 0x3f).toInt64)), (.long q4)])) (fun t k => XS.lshr X2.here hx rfl (hb hby d8_10) rfl k) ?_
  refine Go.on (B := T2.setTop (mkF m 12 #[.val (.ref a1)] [(.int (lcmpW q4 (q3 >>> ((63 : Int32) &&& 0x3f).toInt64)))])) (fun t k => XS.lcmp X2.here hx rfl (hb hby d8_11) rfl k) ?_
  by_cases hc12_3 : q4 = (q3 >>> ((63 : Int32) &&& 0x3f).toInt64)
  · refine Go.on (B := T2.setTop (mkF m 15 #[.val (.ref a1)] [])) (fun t k => XS.ifNo X2.here hx rfl (hb hby d8_12) rfl ((if0 _ _).trans (teq ((lw_eq _ _).mpr hc12_3)).2) k) ?_
    refine Go.on (B := T2.setTop (mkF m 16 #[.val (.ref a1)] [(.int (1 : Int32))])) (fun t k => XS.iconst X2.here hx rfl (hb hby d8_15) k) ?_
    refine Go.on (B := T2.setTop (mkF m 20 #[.val (.ref a1)] [(.int (1 : Int32))])) (fun t k => XS.goto X2.here hx rfl (pc0 := 16) (pc' := 20) rfl (hb hby d8_16) (by decide) (by decide) k) ?_
    obtain ⟨fs, hr, hrun, hended, hW, hsame⟩ := X2.leave (v := some (.int (1 : Int32))) (fun h => by rw [Bd.returns] at h; cases h)
    refine ⟨_, _, ?_, hrun, hended, _, _, rfl, ?_, ⟨_, rfl⟩, hW, hsame.mono (by decide) (by decide)⟩
    · exact retN X2 hx (t := .boolean) Bd.returns (by simp) (hb hby d8_20) hr
    · show Q_rfit Z a1 q3 q4 h0 n0 _ T2.heap _
      rw [e2]
      exact ⟨by unfold own_fit; rw [if_pos hc12_3], N0, rfl⟩
  · refine Go.on (B := T2.setTop (mkF m 19 #[.val (.ref a1)] [])) (fun t k => XS.ifYes X2.here hx rfl (pc0 := 12) (pc' := 19) rfl (hb hby d8_12) rfl ((if0 _ _).trans (feq (mt (lw_eq _ _).mp hc12_3)).2) (by decide) (by decide) k) ?_
    refine Go.on (B := T2.setTop (mkF m 20 #[.val (.ref a1)] [(.int (0 : Int32))])) (fun t k => XS.iconst X2.here hx rfl (hb hby d8_19) k) ?_
    obtain ⟨fs, hr, hrun, hended, hW, hsame⟩ := X2.leave (v := some (.int (0 : Int32))) (fun h => by rw [Bd.returns] at h; cases h)
    refine ⟨_, _, ?_, hrun, hended, _, _, rfl, ?_, ⟨_, rfl⟩, hW, hsame.mono (by decide) (by decide)⟩
    · exact retN X2 hx (t := .boolean) Bd.returns (by simp) (hb hby d8_20) hr
    · show Q_rfit Z a1 q3 q4 h0 n0 _ T2.heap _
      rw [e2]
      exact ⟨by unfold own_fit; rw [if_neg hc12_3], N0, rfl⟩
theorem d9_0 : decode prog_37_method_7_code 0 = .ok (.aload_n 0, 1) := by decide +kernel
theorem d9_1 : decode prog_37_method_7_code 1 = .ok (.invokevirtual 41, 3) := by decide +kernel
theorem d9_4 : decode prog_37_method_7_code 4 = .ok (.ifCond .ne 13, 3) := by decide +kernel
theorem d9_17 : decode prog_37_method_7_code 17 = .ok (.aload_n 0, 1) := by decide +kernel
theorem d9_18 : decode prog_37_method_7_code 18 = .ok (.getfield 7, 3) := by decide +kernel
theorem d9_21 : decode prog_37_method_7_code 21 = .ok (.lreturn, 1) := by decide +kernel
theorem pd_1 : parseMethodDescriptor "()Z" = some ⟨[], some .boolean⟩ := by decide +kernel
theorem ef_rcen (m : MethodId) (a1 : Addr) : entryFrame m #[(.ref a1)] 1 = mkF m 0 #[.val (.ref a1)] [] := by first | (simp [entryFrame, mkF, argsToLocals, Value.category]; done) | rfl
def Q_rcen (Z : State) (a1 : Addr) (q3 q4 : Int64) (h0 : Heap) (n0 : Nat) (v : Option Value) (h : Heap) (L : List Loc) : Prop := v = some (.long q3) ∧ Fr n0 L ∧ h = h0
set_option maxRecDepth 65536 in
set_option maxHeartbeats 40000000 in
theorem rcen (l : Launch) (Z : State) (a0 : Array Value) (hw : ∀ d ∈ tables_1, d.before a0 Z = true) (ws : List Jvm.Cond) (a1 : Addr) (q3 q4 : Int64) (h0 : Heap) (n0 : Nat) (Z0 : n0 ≤ h0.size) (E1 : Exa Z h0 a1 "com/example/encours/encours/engine/Money$Total") (F1 : Fld Z h0 a1 "com/example/encours/encours/engine/Money$Total" "low" "J" (.long q3)) (F2 : Fld Z h0 a1 "com/example/encours/encours/engine/Money$Total" "high" "J" (.long q4)) (hf : ¬ (own_fit q3 q4 = (0 : Int32))) :
    MetFree l (⟨"com/example/encours/encours/engine/Money$Total", "cents", "()J"⟩ : MethodName) (head1 (Jvm.Cond.code (⟨"com/example/encours/encours/engine/Money$Total", "cents", "()J"⟩ : MethodName) prog_37_method_7_code 1 (some .long) :: ws) ({ frames := 1, cells := 0, slots := 0, locals := 12 } : Room)) (fun a U => a = #[(.ref a1)] ∧ Z.Warmed39 U.vm ∧ U.heap = h0) (fun _ _ _ _ _ => True) (fun _ U o U' => ∃ v L, o = .returned v ∧ Q_rcen Z a1 q3 q4 h0 n0 v U'.heap L ∧ FrameEnd U o U' L ({ frames := 1, cells := 0, slots := 0, locals := 12 } : Room).cells ({ frames := 1, cells := 0, slots := 0, locals := 12 } : Room).slots) := by
  refine MetFree.of_bodySF (plainFor_of_name pn_5) hisR ?_
  intro p e s m args below meth c s₁ Bd hml0 hP hK
  obtain ⟨rfl, hZ, hh⟩ := hP
  have hx := Bd.exec
  have hby := Bd.bytes
  have hml : c.maxLocals = 1 := hml0
  have hown : s.vm.findClass "com/example/encours/encours/engine/Money$Total" = some m.cls := findClass_of_methodNamed Bd.named
  have hnm := (name_of_methodNamed Bd.named Bd.method).1
  have X0 : Stand p l e ({ frames := 1, cells := 0, slots := 0, locals := 12 } : Room) s m #[(.ref a1)] below meth c s₁ [] 0 0 := Stand.of_body Bd
  have e0 : s₁.heap = h0 := by rw [← hh, Bd.state]; rfl
  have N0 := Fr.nil n0
  have pre0 : ∀ t, Steps p.tables e below (s₁.setTop (mkF m 0 #[.val (.ref a1)] [])) t → Steps p.tables e below (s₁.setTop (entryFrame m #[(.ref a1)] 1)) t := fun t k => castTop (ef_rcen m a1) k
  change Go p.tables e below (fun o U' => ∃ v L, o = .returned v ∧ Q_rcen Z a1 q3 q4 h0 n0 v U'.heap L ∧ FrameEnd s o U' L ({ frames := 1, cells := 0, slots := 0, locals := 12 } : Room).cells ({ frames := 1, cells := 0, slots := 0, locals := 12 } : Room).slots) (s₁.setTop (entryFrame m #[(.ref a1)] 1))
  refine Go.on pre0 ?_
  refine Go.on (B := s₁.setTop (mkF m 1 #[.val (.ref a1)] [(.ref a1)])) (fun t k => XS.aloadN X0.here hx rfl (hb hby d9_0) rfl rfl k) ?_
  obtain ⟨cq1, kq1, q1a, q1b, q1c⟩ := isOf hZ e0 E1
  obtain ⟨_, _, ⟨T1, L1, k1, n1⟩, -, X1, ⟨Lc1, hQ1, l1, y1, z1⟩, st1⟩ := X0.virtualBack hx (y := (⟨"com/example/encours/encours/engine/Money$Total", "fits", "()Z"⟩ : MethodName)) (z := (⟨"com/example/encours/encours/engine/Money$Total", "fits", "()Z"⟩ : MethodName)) hown (mvT hZ (hw _ (List.mem_of_getElem? (i := 46) rfl))) (mvT hZ (hw _ (List.mem_of_getElem? (i := 37) rfl))) (notFace_of_selects (args := #[]) (mvT hZ (hw _ (List.mem_of_getElem? (i := 39) rfl)))) (mvT hZ (hw _ (List.mem_of_getElem? (i := 39) rfl))) (mvT hZ (hw _ (List.mem_of_getElem? (i := 38) rfl))) (by decide) (backOf (W := 0) (rfit l Z a0 hw [] a1 q3 q4 h0 n0 Z0 E1 F1 F2) hZ (hw _ (List.mem_of_getElem? (i := 40) rfl)) (hw _ (List.mem_of_getElem? (i := 12) rfl)) (by decide) (by decide)) q1a q1c (g := (mkF m 1 #[.val (.ref a1)] [(.ref a1)])) rfl (by rw [hml]; rfl) (Steps.refl _) (argsL := []) (rest := []) (lenOf pd_1 rfl) rfl (by show 2 * 0 + _ ≤ _; exact Nat.le_of_eq rfl) (hb hby d9_1) (fun _ _ => ⟨rfl, e0, (by decide : 0 + 0 ≤ _), (by decide : 0 + 0 ≤ _)⟩)
  dsimp only [Pt.U, Pt.locs, Pt.cells, Pt.slots] at X1 l1 y1 z1 st1 hQ1
  subst l1 y1 z1
  obtain ⟨rfl, N1q, e1q⟩ := hQ1
  have N1 := Fr.app N0 N1q
  refine Go.on (B := T1.setTop (mkF m 4 #[.val (.ref a1)] [(.int (own_fit q3 q4))])) (fun t k => st1.trans k) ?_
  have hc4_2 : ¬ ((own_fit q3 q4) = (0 : Int32)) := hf
  refine Go.on (B := T1.setTop (mkF m 17 #[.val (.ref a1)] [])) (fun t k => XS.ifYes X1.here hx rfl (pc0 := 4) (pc' := 17) rfl (hb hby d9_4) rfl ((if0 _ _).trans (feq hc4_2).2) (by decide) (by decide) k) ?_
  refine Go.on (B := T1.setTop (mkF m 18 #[.val (.ref a1)] [(.ref a1)])) (fun t k => XS.aloadN X1.here hx rfl (hb hby d9_17) rfl rfl k) ?_
  obtain ⟨T3, X3, e3, st3⟩ := getF X1 hx hZ hown (host := "") (Or.inl (hw _ (List.mem_of_getElem? (i := 24) rfl))) Via.refl e1q F1 (g := (mkF m 18 #[.val (.ref a1)] [(.ref a1)])) rfl rfl (hb hby d9_18)
  refine Go.on (B := T3.setTop (mkF m 21 #[.val (.ref a1)] [(.long q3)])) (fun t k => st3 _ k) ?_
  obtain ⟨fs, hr, hrun, hended, hW, hsame⟩ := X3.leave (v := some (.long q3)) (fun h => by rw [Bd.returns] at h; cases h)
  refine ⟨_, _, ?_, hrun, hended, _, _, rfl, ?_, ⟨_, rfl⟩, hW, hsame.mono (by decide) (by decide)⟩
  · exact retOut X3 hx Bd.returns rfl (Or.inr (Or.inl ⟨rfl, rfl, _, rfl⟩)) (hb hby d9_21) hr
  · show Q_rcen Z a1 q3 q4 h0 n0 _ T3.heap _
    rw [e3]
    exact ⟨rfl, N1, rfl⟩
theorem own_cmp_lt (a b : Int64) : own_cmp a b < (0 : Int32) ↔ a.toInt < b.toInt := by
  unfold own_cmp
  by_cases h1 : a < b
  · rw [if_pos h1]
    rw [Int64.lt_iff_toInt_lt] at h1
    exact ⟨fun _ => h1, fun _ => by decide⟩
  · rw [if_neg h1]
    rw [Int64.lt_iff_toInt_lt] at h1
    by_cases h2 : a = b
    · rw [if_pos h2]
      exact ⟨fun q => absurd q (by decide), fun q => absurd q h1⟩
    · rw [if_neg h2]
      exact ⟨fun q => absurd q (by decide), fun q => absurd q h1⟩
theorem own_cu_lt (a b : Int64) : own_cu a b < (0 : Int32) ↔ a.toInt % 18446744073709551616 < b.toInt % 18446744073709551616 := by
  unfold own_cu
  rw [own_cmp_lt]
  have k1 := c_ladd a (-9223372036854775808)
  have k2 := c_ladd b (-9223372036854775808)
  have m : (-9223372036854775808 : Int64).toInt = -9223372036854775808 := by decide
  rw [m] at k1 k2
  have r1 := rng64 a
  have r2 := rng64 b
  have r3 := rng64 (a + -9223372036854775808)
  have r4 := rng64 (b + -9223372036854775808)
  omega
theorem own_step (lo hi c l1 u1 : Int64) (B : Int) (hB : 0 ≤ B ∧ B < 1000) (hb : -B ≤ hi.toInt ∧ hi.toInt ≤ B) (h1 : l1 = lo + c) (h2 : u1 = own_up lo hi c) :
    u1.toInt * 18446744073709551616 + l1.toInt % 18446744073709551616 = hi.toInt * 18446744073709551616 + lo.toInt % 18446744073709551616 + c.toInt ∧ -(B + 1) ≤ u1.toInt ∧ u1.toInt ≤ B + 1 := by
  have q := own_cu_lt (lo + c) lo
  have k1 := c_ladd lo c
  have r1 := rng64 lo
  have r2 := rng64 c
  have r3 := rng64 (lo + c)
  have sh := c_lshr c 63 63 (by decide)
  have sh' : (c >>> ((63 : Int32) &&& 0x3f).toInt64).toInt = c.toInt / 9223372036854775808 := sh
  subst h1
  have key : ∃ k : Int, (k = 0 ∨ k = 1) ∧ (k = 1 ↔ (lo + c).toInt % 18446744073709551616 < lo.toInt % 18446744073709551616) ∧ ((if own_cu (lo + c) lo < (0 : Int32) then (1 : Int32) else (0 : Int32)).toInt64).toInt = k := by
    by_cases h : own_cu (lo + c) lo < (0 : Int32)
    · rw [if_pos h]
      exact ⟨1, Or.inr rfl, ⟨fun _ => q.mp h, fun _ => rfl⟩, by decide⟩
    · rw [if_neg h]
      exact ⟨0, Or.inl rfl, ⟨fun z => absurd z (by decide), fun z => absurd (q.mpr z) h⟩, by decide⟩
  obtain ⟨k, hk, hk2, hk3⟩ := key
  have k2 := c_ladd (c >>> ((63 : Int32) &&& 0x3f).toInt64) ((if own_cu (lo + c) lo < (0 : Int32) then (1 : Int32) else (0 : Int32)).toInt64)
  have r4 := rng64 ((c >>> ((63 : Int32) &&& 0x3f).toInt64) + ((if own_cu (lo + c) lo < (0 : Int32) then (1 : Int32) else (0 : Int32)).toInt64))
  have k3 := c_ladd hi ((c >>> ((63 : Int32) &&& 0x3f).toInt64) + ((if own_cu (lo + c) lo < (0 : Int32) then (1 : Int32) else (0 : Int32)).toInt64))
  have e : own_up lo hi c = hi + ((c >>> ((63 : Int32) &&& 0x3f).toInt64) + ((if own_cu (lo + c) lo < (0 : Int32) then (1 : Int32) else (0 : Int32)).toInt64)) := rfl
  rw [← e, ← h2] at k3
  rw [sh', hk3] at k2
  have r5 := rng64 u1
  generalize ((c >>> ((63 : Int32) &&& 0x3f).toInt64) + ((if own_cu (lo + c) lo < (0 : Int32) then (1 : Int32) else (0 : Int32)).toInt64)).toInt = X at k2 k3 r4
  generalize (lo + c).toInt = Y at *
  omega
theorem own_fit_iff (lo hi : Int64) : own_fit lo hi = (1 : Int32) ∧ hi.toInt = lo.toInt / 9223372036854775808 ∨ own_fit lo hi = (0 : Int32) ∧ hi.toInt ≠ lo.toInt / 9223372036854775808 := by
  have sh : (lo >>> ((63 : Int32) &&& 0x3f).toInt64).toInt = lo.toInt / 9223372036854775808 := c_lshr lo 63 63 (by decide)
  unfold own_fit
  by_cases h : hi = (lo >>> ((63 : Int32) &&& 0x3f).toInt64)
  · rw [if_pos h]
    exact Or.inl ⟨rfl, by rw [← sh, ← h]⟩
  · rw [if_neg h]
    exact Or.inr ⟨rfl, fun q => h (Int64.toInt_inj.mp (by rw [sh]; exact q))⟩
theorem own_hi (x : Int64) : (x >>> ((32 : Int32) &&& 0x3f).toInt64).toInt = x.toInt / 4294967296 := c_lshr x 32 32 (by decide)
theorem own_lo (x : Int64) : (x &&& (4294967295 : Int64)).toInt = x.toInt % 4294967296 := c_maskL x 4294967295 32 (by decide) (by decide)
theorem own_sum4 (x y z w s : Int64) (B : Int) (hB : B ≤ 2000000000000000000) (hx : -B ≤ x.toInt ∧ x.toInt ≤ B) (hy : -B ≤ y.toInt ∧ y.toInt ≤ B) (hz : -B ≤ z.toInt ∧ z.toInt ≤ B) (hw : -B ≤ w.toInt ∧ w.toInt ≤ B) (h : (((x + y) + z) + w) = s) : s.toInt = x.toInt + y.toInt + z.toInt + w.toInt := by
  subst h
  have k1 := c_ladd x y
  have k2 := c_ladd (x + y) z
  have k3 := c_ladd (x + y + z) w
  have r1 := rng64 (x + y)
  have r2 := rng64 (x + y + z)
  have r3 := rng64 (x + y + z + w)
  omega
theorem own_exp (a b c d ls hs h : Int64) (hls : ((((a &&& (4294967295 : Int64)) + (b &&& (4294967295 : Int64))) + (c &&& (4294967295 : Int64))) + (d &&& (4294967295 : Int64))) = ls) (hhs : ((((a >>> ((32 : Int32) &&& 0x3f).toInt64) + (b >>> ((32 : Int32) &&& 0x3f).toInt64)) + (c >>> ((32 : Int32) &&& 0x3f).toInt64)) + (d >>> ((32 : Int32) &&& 0x3f).toInt64)) = hs) (hh : (hs + ((ls.toUInt64 >>> ((32 : Int32) &&& 0x3f).toInt64.toUInt64).toInt64)) = h) :
    h.toInt = (a.toInt + b.toInt + c.toInt + d.toInt) / 4294967296 := by
  have r1 := rng64 a
  have r2 := rng64 b
  have r3 := rng64 c
  have r4 := rng64 d
  have la := own_lo a
  have lb := own_lo b
  have lc := own_lo c
  have ld := own_lo d
  have ha := own_hi a
  have hb := own_hi b
  have hc := own_hi c
  have hd := own_hi d
  have s1 := own_sum4 _ _ _ _ ls 4294967296 (by decide) (by omega) (by omega) (by omega) (by omega) hls
  have s2 := own_sum4 _ _ _ _ hs 4294967296 (by decide) (by omega) (by omega) (by omega) (by omega) hhs
  rw [la, lb, lc, ld] at s1
  rw [ha, hb, hc, hd] at s2
  have u : ((ls.toUInt64 >>> ((32 : Int32) &&& 0x3f).toInt64.toUInt64).toInt64).toInt = (ls.toInt % 18446744073709551616) / 4294967296 := c_lushr ls 32 32 (by decide) (by decide)
  have k := c_ladd hs ((ls.toUInt64 >>> ((32 : Int32) &&& 0x3f).toInt64.toUInt64).toInt64)
  rw [hh, u] at k
  have r := rng64 h
  omega
theorem own_law (a b c d l1 u1 l2 u2 l3 u3 l4 u4 h : Int64) (z got : Int32) (hg : own_fit l4 u4 = got) (hl1 : l1 = (0 : Int64) + a) (hu1 : u1 = own_up (0 : Int64) (0 : Int64) a) (hl2 : l2 = l1 + b) (hu2 : u2 = own_up l1 u1 b) (hl3 : l3 = l2 + c) (hu3 : u3 = own_up l2 u2 c) (hl4 : l4 = l3 + d) (hu4 : u4 = own_up l3 u3 d)
    (hh : h.toInt = (a.toInt + b.toInt + c.toInt + d.toInt) / 4294967296) (hz : z = (if h < (-2147483648 : Int64) then (0 : Int32) else (if (2147483647 : Int64) < h then (0 : Int32) else (1 : Int32)))) : got = z := by
  have z0 : (0 : Int64).toInt = 0 := by decide
  have s1 := own_step 0 0 a l1 u1 0 (by omega) (by rw [z0]; omega) hl1 hu1
  have s2 := own_step l1 u1 b l2 u2 1 (by omega) (by omega) hl2 hu2
  have s3 := own_step l2 u2 c l3 u3 2 (by omega) (by omega) hl3 hu3
  have s4 := own_step l3 u3 d l4 u4 3 (by omega) (by omega) hl4 hu4
  rw [z0] at s1
  have r := rng64 l4
  have m1 : (-2147483648 : Int64).toInt = -2147483648 := by decide
  have m2 : (2147483647 : Int64).toInt = 2147483647 := by decide
  have ex : z = 1 ∧ -2147483648 ≤ h.toInt ∧ h.toInt ≤ 2147483647 ∨ z = 0 ∧ ¬ (-2147483648 ≤ h.toInt ∧ h.toInt ≤ 2147483647) := by
    by_cases g1 : h < (-2147483648 : Int64)
    · rw [if_pos g1] at hz
      rw [Int64.lt_iff_toInt_lt, m1] at g1
      exact Or.inr ⟨hz, by omega⟩
    · rw [if_neg g1] at hz
      rw [Int64.lt_iff_toInt_lt, m1] at g1
      by_cases g2 : (2147483647 : Int64) < h
      · rw [if_pos g2] at hz
        rw [Int64.lt_iff_toInt_lt, m2] at g2
        exact Or.inr ⟨hz, by omega⟩
      · rw [if_neg g2] at hz
        rw [Int64.lt_iff_toInt_lt, m2] at g2
        exact Or.inl ⟨hz, by omega⟩
  have f := own_fit_iff l4 u4
  rw [hg] at f
  rcases f with ⟨f1, f2⟩ | ⟨f1, f2⟩ <;> rcases ex with ⟨x1, x2⟩ | ⟨x1, x2⟩
  · rw [f1, x1]
  · exfalso; omega
  · exfalso; omega
  · rw [f1, x1]
theorem pd_2 : parseMethodDescriptor "(J)J" = some ⟨[.long], some .long⟩ := by decide +kernel
theorem pd_3 : parseMethodDescriptor "()V" = some ⟨[], none⟩ := by decide +kernel
theorem pd_4 : parseMethodDescriptor "(J)Lcom/example/encours/encours/engine/Money$Total;" = some ⟨[.long], some (.object "com/example/encours/encours/engine/Money$Total")⟩ := by decide +kernel
theorem pd_5 : parseMethodDescriptor "()J" = some ⟨[], some .long⟩ := by decide +kernel
theorem ef_rm0 (m : MethodId) (q1 : Int64) (q2 : Int64) (q3 : Int64) (q4 : Int64) : entryFrame m #[(.long q1), (.long q2), (.long q3), (.long q4)] maxLocals = mkF m 0 #[.val (.long q1), .second, .val (.long q2), .second, .val (.long q3), .second, .val (.long q4), .second, .unset, .unset, .unset, .unset, .unset, .unset, .unset, .unset, .unset, .unset, .unset] [] := by first | (simp [entryFrame, mkF, argsToLocals, Value.category, maxLocals]; done) | rfl
def Q_rm0 (Z : State) (q1 : Int64) (q2 : Int64) (q3 : Int64) (q4 : Int64) (h0 : Heap) (n0 : Nat) (v : Option Value) (h : Heap) (L : List Loc) : Prop := v = some (.int 1) ∧ Fr n0 L
set_option maxRecDepth 65536 in
set_option maxHeartbeats 40000000 in
theorem rm0 (l : Launch) (Z : State) (a0 : Array Value) (hw : ∀ d ∈ tables_1, d.before a0 Z = true) (ws : List Jvm.Cond) (q1 : Int64) (q2 : Int64) (q3 : Int64) (q4 : Int64) (h0 : Heap) (n0 : Nat) (Z0 : n0 ≤ h0.size)  :
    MetFree l x (head1 (Jvm.Cond.code x code maxLocals ret :: ws) room_1) (fun a U => a = #[(.long q1), (.long q2), (.long q3), (.long q4)] ∧ Z.Warmed39 U.vm ∧ U.heap = h0) (fun _ _ _ _ _ => True) (fun _ U o U' => ∃ v L, o = .returned v ∧ Q_rm0 Z q1 q2 q3 q4 h0 n0 v U'.heap L ∧ FrameEnd U o U' L room_1.cells room_1.slots) := by
  refine MetFree.of_bodySF (plainFor_of_name pn_2) hisR ?_
  intro p e s m args below meth c s₁ Bd hml0 hP hK
  obtain ⟨rfl, hZ, hh⟩ := hP
  have hx := Bd.exec
  have hby := Bd.bytes
  have hml : c.maxLocals = 19 := hml0
  have hown : s.vm.findClass "com/example/encours/encours/engine/TotalFitsPinLaw" = some m.cls := findClass_of_methodNamed Bd.named
  have hnm := (name_of_methodNamed Bd.named Bd.method).1
  have X0 : Stand p l e room_1 s m #[(.long q1), (.long q2), (.long q3), (.long q4)] below meth c s₁ [] 0 0 := Stand.of_body Bd
  have e0 : s₁.heap = h0 := by rw [← hh, Bd.state]; rfl
  have N0 := Fr.nil n0
  have pre0 : ∀ t, Steps p.tables e below (s₁.setTop (mkF m 0 #[.val (.long q1), .second, .val (.long q2), .second, .val (.long q3), .second, .val (.long q4), .second, .unset, .unset, .unset, .unset, .unset, .unset, .unset, .unset, .unset, .unset, .unset] [])) t → Steps p.tables e below (s₁.setTop (entryFrame m #[(.long q1), (.long q2), (.long q3), (.long q4)] maxLocals)) t := fun t k => castTop (ef_rm0 m q1 q2 q3 q4) k
  change Go p.tables e below (fun o U' => ∃ v L, o = .returned v ∧ Q_rm0 Z q1 q2 q3 q4 h0 n0 v U'.heap L ∧ FrameEnd s o U' L room_1.cells room_1.slots) (s₁.setTop (entryFrame m #[(.long q1), (.long q2), (.long q3), (.long q4)] maxLocals))
  refine Go.on pre0 ?_
  refine Go.on (B := s₁.setTop (mkF m 1 #[.val (.long q1), .second, .val (.long q2), .second, .val (.long q3), .second, .val (.long q4), .second, .unset, .unset, .unset, .unset, .unset, .unset, .unset, .unset, .unset, .unset, .unset] [(.long q1)])) (fun t k => XS.lloadN X0.here hx rfl (hb hby at_0) rfl k) ?_
  obtain ⟨_, _, ⟨T1, L1, k1, n1⟩, -, X1, ⟨Lc1, hQ1, l1, y1, z1⟩, st1⟩ := Jvm.LawKit.callS X0 hx (y := (⟨"com/example/encours/encours/engine/TotalFitsPinLaw", "lo", "(J)J"⟩ : MethodName)) hown (mvT hZ (hw _ (List.mem_of_getElem? (i := 0) rfl))) (mvT hZ (hw _ (List.mem_of_getElem? (i := 1) rfl))) (mvT hZ (hw _ (List.mem_of_getElem? (i := 2) rfl))) (mvT hZ (hw _ (List.mem_of_getElem? (i := 3) rfl))) (by decide) (backOf (W := 0) (rlo l Z a0 hw [] q1 h0 n0 Z0) hZ (hw _ (List.mem_of_getElem? (i := 3) rfl)) (hw _ (List.mem_of_getElem? (i := 2) rfl)) (by decide) (by decide)) (g := (mkF m 1 #[.val (.long q1), .second, .val (.long q2), .second, .val (.long q3), .second, .val (.long q4), .second, .unset, .unset, .unset, .unset, .unset, .unset, .unset, .unset, .unset, .unset, .unset] [(.long q1)])) rfl (by rw [hml]; rfl) (argsL := [(.long q1)]) (rest := []) (lenOf pd_2 rfl) rfl (by show 2 * 0 + _ ≤ _; exact Nat.le_of_eq rfl) (hb hby at_1) (fun _ _ => ⟨rfl, e0, (by decide : 0 + 0 ≤ _), (by decide : 0 + 0 ≤ _)⟩)
  dsimp only [Pt.U, Pt.locs, Pt.cells, Pt.slots] at X1 l1 y1 z1 st1 hQ1
  subst l1 y1 z1
  obtain ⟨rfl, N1q, e1q⟩ := hQ1
  have N1 := Fr.app N0 N1q
  refine Go.on (B := T1.setTop (mkF m 4 #[.val (.long q1), .second, .val (.long q2), .second, .val (.long q3), .second, .val (.long q4), .second, .unset, .unset, .unset, .unset, .unset, .unset, .unset, .unset, .unset, .unset, .unset] [(.long (q1 &&& (4294967295 : Int64)))])) (fun t k => st1 _ k) ?_
  refine Go.on (B := T1.setTop (mkF m 5 #[.val (.long q1), .second, .val (.long q2), .second, .val (.long q3), .second, .val (.long q4), .second, .unset, .unset, .unset, .unset, .unset, .unset, .unset, .unset, .unset, .unset, .unset] [(.long q2), (.long (q1 &&& (4294967295 : Int64)))])) (fun t k => XS.lloadN X1.here hx rfl (hb hby at_4) rfl k) ?_
  obtain ⟨_, _, ⟨T2, L2, k2, n2⟩, -, X2, ⟨Lc2, hQ2, l2, y2, z2⟩, st2⟩ := Jvm.LawKit.callS X1 hx (y := (⟨"com/example/encours/encours/engine/TotalFitsPinLaw", "lo", "(J)J"⟩ : MethodName)) hown (mvT hZ (hw _ (List.mem_of_getElem? (i := 0) rfl))) (mvT hZ (hw _ (List.mem_of_getElem? (i := 1) rfl))) (mvT hZ (hw _ (List.mem_of_getElem? (i := 2) rfl))) (mvT hZ (hw _ (List.mem_of_getElem? (i := 3) rfl))) (by decide) (backOf (W := 2) (rlo l Z a0 hw [] q2 h0 n0 Z0) hZ (hw _ (List.mem_of_getElem? (i := 3) rfl)) (hw _ (List.mem_of_getElem? (i := 2) rfl)) (by decide) (by decide)) (g := (mkF m 5 #[.val (.long q1), .second, .val (.long q2), .second, .val (.long q3), .second, .val (.long q4), .second, .unset, .unset, .unset, .unset, .unset, .unset, .unset, .unset, .unset, .unset, .unset] [(.long q2), (.long (q1 &&& (4294967295 : Int64)))])) rfl (by rw [hml]; rfl) (argsL := [(.long q2)]) (rest := [(.long (q1 &&& (4294967295 : Int64)))]) (lenOf pd_2 rfl) rfl (by show 2 * 0 + _ ≤ _; exact Nat.le_of_eq rfl) (hb hby at_5) (fun _ _ => ⟨rfl, e1q, (by decide : 0 + 0 ≤ _), (by decide : 0 + 0 ≤ _)⟩)
  dsimp only [Pt.U, Pt.locs, Pt.cells, Pt.slots] at X2 l2 y2 z2 st2 hQ2
  subst l2 y2 z2
  obtain ⟨rfl, N2q, e2q⟩ := hQ2
  have N2 := Fr.app N1 N2q
  refine Go.on (B := T2.setTop (mkF m 8 #[.val (.long q1), .second, .val (.long q2), .second, .val (.long q3), .second, .val (.long q4), .second, .unset, .unset, .unset, .unset, .unset, .unset, .unset, .unset, .unset, .unset, .unset] [(.long (q2 &&& (4294967295 : Int64))), (.long (q1 &&& (4294967295 : Int64)))])) (fun t k => st2 _ k) ?_
  refine Go.on (B := T2.setTop (mkF m 9 #[.val (.long q1), .second, .val (.long q2), .second, .val (.long q3), .second, .val (.long q4), .second, .unset, .unset, .unset, .unset, .unset, .unset, .unset, .unset, .unset, .unset, .unset] [(.long ((q1 &&& (4294967295 : Int64)) + (q2 &&& (4294967295 : Int64))))])) (fun t k => XS.ladd X2.here hx rfl (hb hby at_8) rfl k) ?_
  refine Go.on (B := T2.setTop (mkF m 11 #[.val (.long q1), .second, .val (.long q2), .second, .val (.long q3), .second, .val (.long q4), .second, .unset, .unset, .unset, .unset, .unset, .unset, .unset, .unset, .unset, .unset, .unset] [(.long q3), (.long ((q1 &&& (4294967295 : Int64)) + (q2 &&& (4294967295 : Int64))))])) (fun t k => XS.lload X2.here hx rfl (hb hby at_9) rfl k) ?_
  obtain ⟨_, _, ⟨T3, L3, k3, n3⟩, -, X3, ⟨Lc3, hQ3, l3, y3, z3⟩, st3⟩ := Jvm.LawKit.callS X2 hx (y := (⟨"com/example/encours/encours/engine/TotalFitsPinLaw", "lo", "(J)J"⟩ : MethodName)) hown (mvT hZ (hw _ (List.mem_of_getElem? (i := 0) rfl))) (mvT hZ (hw _ (List.mem_of_getElem? (i := 1) rfl))) (mvT hZ (hw _ (List.mem_of_getElem? (i := 2) rfl))) (mvT hZ (hw _ (List.mem_of_getElem? (i := 3) rfl))) (by decide) (backOf (W := 2) (rlo l Z a0 hw [] q3 h0 n0 Z0) hZ (hw _ (List.mem_of_getElem? (i := 3) rfl)) (hw _ (List.mem_of_getElem? (i := 2) rfl)) (by decide) (by decide)) (g := (mkF m 11 #[.val (.long q1), .second, .val (.long q2), .second, .val (.long q3), .second, .val (.long q4), .second, .unset, .unset, .unset, .unset, .unset, .unset, .unset, .unset, .unset, .unset, .unset] [(.long q3), (.long ((q1 &&& (4294967295 : Int64)) + (q2 &&& (4294967295 : Int64))))])) rfl (by rw [hml]; rfl) (argsL := [(.long q3)]) (rest := [(.long ((q1 &&& (4294967295 : Int64)) + (q2 &&& (4294967295 : Int64))))]) (lenOf pd_2 rfl) rfl (by show 2 * 0 + _ ≤ _; exact Nat.le_of_eq rfl) (hb hby at_11) (fun _ _ => ⟨rfl, e2q, (by decide : 0 + 0 ≤ _), (by decide : 0 + 0 ≤ _)⟩)
  dsimp only [Pt.U, Pt.locs, Pt.cells, Pt.slots] at X3 l3 y3 z3 st3 hQ3
  subst l3 y3 z3
  obtain ⟨rfl, N3q, e3q⟩ := hQ3
  have N3 := Fr.app N2 N3q
  refine Go.on (B := T3.setTop (mkF m 14 #[.val (.long q1), .second, .val (.long q2), .second, .val (.long q3), .second, .val (.long q4), .second, .unset, .unset, .unset, .unset, .unset, .unset, .unset, .unset, .unset, .unset, .unset] [(.long (q3 &&& (4294967295 : Int64))), (.long ((q1 &&& (4294967295 : Int64)) + (q2 &&& (4294967295 : Int64))))])) (fun t k => st3 _ k) ?_
  refine Go.on (B := T3.setTop (mkF m 15 #[.val (.long q1), .second, .val (.long q2), .second, .val (.long q3), .second, .val (.long q4), .second, .unset, .unset, .unset, .unset, .unset, .unset, .unset, .unset, .unset, .unset, .unset] [(.long (((q1 &&& (4294967295 : Int64)) + (q2 &&& (4294967295 : Int64))) + (q3 &&& (4294967295 : Int64))))])) (fun t k => XS.ladd X3.here hx rfl (hb hby at_14) rfl k) ?_
  refine Go.on (B := T3.setTop (mkF m 17 #[.val (.long q1), .second, .val (.long q2), .second, .val (.long q3), .second, .val (.long q4), .second, .unset, .unset, .unset, .unset, .unset, .unset, .unset, .unset, .unset, .unset, .unset] [(.long q4), (.long (((q1 &&& (4294967295 : Int64)) + (q2 &&& (4294967295 : Int64))) + (q3 &&& (4294967295 : Int64))))])) (fun t k => XS.lload X3.here hx rfl (hb hby at_15) rfl k) ?_
  obtain ⟨_, _, ⟨T4, L4, k4, n4⟩, -, X4, ⟨Lc4, hQ4, l4, y4, z4⟩, st4⟩ := Jvm.LawKit.callS X3 hx (y := (⟨"com/example/encours/encours/engine/TotalFitsPinLaw", "lo", "(J)J"⟩ : MethodName)) hown (mvT hZ (hw _ (List.mem_of_getElem? (i := 0) rfl))) (mvT hZ (hw _ (List.mem_of_getElem? (i := 1) rfl))) (mvT hZ (hw _ (List.mem_of_getElem? (i := 2) rfl))) (mvT hZ (hw _ (List.mem_of_getElem? (i := 3) rfl))) (by decide) (backOf (W := 2) (rlo l Z a0 hw [] q4 h0 n0 Z0) hZ (hw _ (List.mem_of_getElem? (i := 3) rfl)) (hw _ (List.mem_of_getElem? (i := 2) rfl)) (by decide) (by decide)) (g := (mkF m 17 #[.val (.long q1), .second, .val (.long q2), .second, .val (.long q3), .second, .val (.long q4), .second, .unset, .unset, .unset, .unset, .unset, .unset, .unset, .unset, .unset, .unset, .unset] [(.long q4), (.long (((q1 &&& (4294967295 : Int64)) + (q2 &&& (4294967295 : Int64))) + (q3 &&& (4294967295 : Int64))))])) rfl (by rw [hml]; rfl) (argsL := [(.long q4)]) (rest := [(.long (((q1 &&& (4294967295 : Int64)) + (q2 &&& (4294967295 : Int64))) + (q3 &&& (4294967295 : Int64))))]) (lenOf pd_2 rfl) rfl (by show 2 * 0 + _ ≤ _; exact Nat.le_of_eq rfl) (hb hby at_17) (fun _ _ => ⟨rfl, e3q, (by decide : 0 + 0 ≤ _), (by decide : 0 + 0 ≤ _)⟩)
  dsimp only [Pt.U, Pt.locs, Pt.cells, Pt.slots] at X4 l4 y4 z4 st4 hQ4
  subst l4 y4 z4
  obtain ⟨rfl, N4q, e4q⟩ := hQ4
  have N4 := Fr.app N3 N4q
  refine Go.on (B := T4.setTop (mkF m 20 #[.val (.long q1), .second, .val (.long q2), .second, .val (.long q3), .second, .val (.long q4), .second, .unset, .unset, .unset, .unset, .unset, .unset, .unset, .unset, .unset, .unset, .unset] [(.long (q4 &&& (4294967295 : Int64))), (.long (((q1 &&& (4294967295 : Int64)) + (q2 &&& (4294967295 : Int64))) + (q3 &&& (4294967295 : Int64))))])) (fun t k => st4 _ k) ?_
  refine Go.on (B := T4.setTop (mkF m 21 #[.val (.long q1), .second, .val (.long q2), .second, .val (.long q3), .second, .val (.long q4), .second, .unset, .unset, .unset, .unset, .unset, .unset, .unset, .unset, .unset, .unset, .unset] [(.long ((((q1 &&& (4294967295 : Int64)) + (q2 &&& (4294967295 : Int64))) + (q3 &&& (4294967295 : Int64))) + (q4 &&& (4294967295 : Int64))))])) (fun t k => XS.ladd X4.here hx rfl (hb hby at_20) rfl k) ?_
  generalize hv21_5 : ((((q1 &&& (4294967295 : Int64)) + (q2 &&& (4294967295 : Int64))) + (q3 &&& (4294967295 : Int64))) + (q4 &&& (4294967295 : Int64))) = v21_5
  refine Go.on (B := T4.setTop (mkF m 23 #[.val (.long q1), .second, .val (.long q2), .second, .val (.long q3), .second, .val (.long q4), .second, .val (.long v21_5), .second, .unset, .unset, .unset, .unset, .unset, .unset, .unset, .unset, .unset] [])) (fun t k => XS.lstore X4.here hx rfl (hb hby at_21) rfl (l' := #[.val (.long q1), .second, .val (.long q2), .second, .val (.long q3), .second, .val (.long q4), .second, .val (.long v21_5), .second, .unset, .unset, .unset, .unset, .unset, .unset, .unset, .unset, .unset]) rfl k) ?_
  refine Go.on (B := T4.setTop (mkF m 24 #[.val (.long q1), .second, .val (.long q2), .second, .val (.long q3), .second, .val (.long q4), .second, .val (.long v21_5), .second, .unset, .unset, .unset, .unset, .unset, .unset, .unset, .unset, .unset] [(.long q1)])) (fun t k => XS.lloadN X4.here hx rfl (hb hby at_23) rfl k) ?_
  obtain ⟨_, _, ⟨T6, L6, k6, n6⟩, -, X6, ⟨Lc6, hQ6, l6, y6, z6⟩, st6⟩ := Jvm.LawKit.callS X4 hx (y := (⟨"com/example/encours/encours/engine/TotalFitsPinLaw", "hi", "(J)J"⟩ : MethodName)) hown (mvT hZ (hw _ (List.mem_of_getElem? (i := 5) rfl))) (mvT hZ (hw _ (List.mem_of_getElem? (i := 6) rfl))) (mvT hZ (hw _ (List.mem_of_getElem? (i := 2) rfl))) (mvT hZ (hw _ (List.mem_of_getElem? (i := 7) rfl))) (by decide) (backOf (W := 0) (rhi l Z a0 hw [] q1 h0 n0 Z0) hZ (hw _ (List.mem_of_getElem? (i := 7) rfl)) (hw _ (List.mem_of_getElem? (i := 2) rfl)) (by decide) (by decide)) (g := (mkF m 24 #[.val (.long q1), .second, .val (.long q2), .second, .val (.long q3), .second, .val (.long q4), .second, .val (.long v21_5), .second, .unset, .unset, .unset, .unset, .unset, .unset, .unset, .unset, .unset] [(.long q1)])) rfl (by rw [hml]; rfl) (argsL := [(.long q1)]) (rest := []) (lenOf pd_2 rfl) rfl (by show 2 * 0 + _ ≤ _; exact Nat.le_of_eq rfl) (hb hby at_24) (fun _ _ => ⟨rfl, e4q, (by decide : 0 + 0 ≤ _), (by decide : 0 + 0 ≤ _)⟩)
  dsimp only [Pt.U, Pt.locs, Pt.cells, Pt.slots] at X6 l6 y6 z6 st6 hQ6
  subst l6 y6 z6
  obtain ⟨rfl, N6q, e6q⟩ := hQ6
  have N6 := Fr.app N4 N6q
  refine Go.on (B := T6.setTop (mkF m 27 #[.val (.long q1), .second, .val (.long q2), .second, .val (.long q3), .second, .val (.long q4), .second, .val (.long v21_5), .second, .unset, .unset, .unset, .unset, .unset, .unset, .unset, .unset, .unset] [(.long (q1 >>> ((32 : Int32) &&& 0x3f).toInt64))])) (fun t k => st6 _ k) ?_
  refine Go.on (B := T6.setTop (mkF m 28 #[.val (.long q1), .second, .val (.long q2), .second, .val (.long q3), .second, .val (.long q4), .second, .val (.long v21_5), .second, .unset, .unset, .unset, .unset, .unset, .unset, .unset, .unset, .unset] [(.long q2), (.long (q1 >>> ((32 : Int32) &&& 0x3f).toInt64))])) (fun t k => XS.lloadN X6.here hx rfl (hb hby at_27) rfl k) ?_
  obtain ⟨_, _, ⟨T7, L7, k7, n7⟩, -, X7, ⟨Lc7, hQ7, l7, y7, z7⟩, st7⟩ := Jvm.LawKit.callS X6 hx (y := (⟨"com/example/encours/encours/engine/TotalFitsPinLaw", "hi", "(J)J"⟩ : MethodName)) hown (mvT hZ (hw _ (List.mem_of_getElem? (i := 5) rfl))) (mvT hZ (hw _ (List.mem_of_getElem? (i := 6) rfl))) (mvT hZ (hw _ (List.mem_of_getElem? (i := 2) rfl))) (mvT hZ (hw _ (List.mem_of_getElem? (i := 7) rfl))) (by decide) (backOf (W := 2) (rhi l Z a0 hw [] q2 h0 n0 Z0) hZ (hw _ (List.mem_of_getElem? (i := 7) rfl)) (hw _ (List.mem_of_getElem? (i := 2) rfl)) (by decide) (by decide)) (g := (mkF m 28 #[.val (.long q1), .second, .val (.long q2), .second, .val (.long q3), .second, .val (.long q4), .second, .val (.long v21_5), .second, .unset, .unset, .unset, .unset, .unset, .unset, .unset, .unset, .unset] [(.long q2), (.long (q1 >>> ((32 : Int32) &&& 0x3f).toInt64))])) rfl (by rw [hml]; rfl) (argsL := [(.long q2)]) (rest := [(.long (q1 >>> ((32 : Int32) &&& 0x3f).toInt64))]) (lenOf pd_2 rfl) rfl (by show 2 * 0 + _ ≤ _; exact Nat.le_of_eq rfl) (hb hby at_28) (fun _ _ => ⟨rfl, e6q, (by decide : 0 + 0 ≤ _), (by decide : 0 + 0 ≤ _)⟩)
  dsimp only [Pt.U, Pt.locs, Pt.cells, Pt.slots] at X7 l7 y7 z7 st7 hQ7
  subst l7 y7 z7
  obtain ⟨rfl, N7q, e7q⟩ := hQ7
  have N7 := Fr.app N6 N7q
  refine Go.on (B := T7.setTop (mkF m 31 #[.val (.long q1), .second, .val (.long q2), .second, .val (.long q3), .second, .val (.long q4), .second, .val (.long v21_5), .second, .unset, .unset, .unset, .unset, .unset, .unset, .unset, .unset, .unset] [(.long (q2 >>> ((32 : Int32) &&& 0x3f).toInt64)), (.long (q1 >>> ((32 : Int32) &&& 0x3f).toInt64))])) (fun t k => st7 _ k) ?_
  refine Go.on (B := T7.setTop (mkF m 32 #[.val (.long q1), .second, .val (.long q2), .second, .val (.long q3), .second, .val (.long q4), .second, .val (.long v21_5), .second, .unset, .unset, .unset, .unset, .unset, .unset, .unset, .unset, .unset] [(.long ((q1 >>> ((32 : Int32) &&& 0x3f).toInt64) + (q2 >>> ((32 : Int32) &&& 0x3f).toInt64)))])) (fun t k => XS.ladd X7.here hx rfl (hb hby at_31) rfl k) ?_
  refine Go.on (B := T7.setTop (mkF m 34 #[.val (.long q1), .second, .val (.long q2), .second, .val (.long q3), .second, .val (.long q4), .second, .val (.long v21_5), .second, .unset, .unset, .unset, .unset, .unset, .unset, .unset, .unset, .unset] [(.long q3), (.long ((q1 >>> ((32 : Int32) &&& 0x3f).toInt64) + (q2 >>> ((32 : Int32) &&& 0x3f).toInt64)))])) (fun t k => XS.lload X7.here hx rfl (hb hby at_32) rfl k) ?_
  obtain ⟨_, _, ⟨T8, L8, k8, n8⟩, -, X8, ⟨Lc8, hQ8, l8, y8, z8⟩, st8⟩ := Jvm.LawKit.callS X7 hx (y := (⟨"com/example/encours/encours/engine/TotalFitsPinLaw", "hi", "(J)J"⟩ : MethodName)) hown (mvT hZ (hw _ (List.mem_of_getElem? (i := 5) rfl))) (mvT hZ (hw _ (List.mem_of_getElem? (i := 6) rfl))) (mvT hZ (hw _ (List.mem_of_getElem? (i := 2) rfl))) (mvT hZ (hw _ (List.mem_of_getElem? (i := 7) rfl))) (by decide) (backOf (W := 2) (rhi l Z a0 hw [] q3 h0 n0 Z0) hZ (hw _ (List.mem_of_getElem? (i := 7) rfl)) (hw _ (List.mem_of_getElem? (i := 2) rfl)) (by decide) (by decide)) (g := (mkF m 34 #[.val (.long q1), .second, .val (.long q2), .second, .val (.long q3), .second, .val (.long q4), .second, .val (.long v21_5), .second, .unset, .unset, .unset, .unset, .unset, .unset, .unset, .unset, .unset] [(.long q3), (.long ((q1 >>> ((32 : Int32) &&& 0x3f).toInt64) + (q2 >>> ((32 : Int32) &&& 0x3f).toInt64)))])) rfl (by rw [hml]; rfl) (argsL := [(.long q3)]) (rest := [(.long ((q1 >>> ((32 : Int32) &&& 0x3f).toInt64) + (q2 >>> ((32 : Int32) &&& 0x3f).toInt64)))]) (lenOf pd_2 rfl) rfl (by show 2 * 0 + _ ≤ _; exact Nat.le_of_eq rfl) (hb hby at_34) (fun _ _ => ⟨rfl, e7q, (by decide : 0 + 0 ≤ _), (by decide : 0 + 0 ≤ _)⟩)
  dsimp only [Pt.U, Pt.locs, Pt.cells, Pt.slots] at X8 l8 y8 z8 st8 hQ8
  subst l8 y8 z8
  obtain ⟨rfl, N8q, e8q⟩ := hQ8
  have N8 := Fr.app N7 N8q
  refine Go.on (B := T8.setTop (mkF m 37 #[.val (.long q1), .second, .val (.long q2), .second, .val (.long q3), .second, .val (.long q4), .second, .val (.long v21_5), .second, .unset, .unset, .unset, .unset, .unset, .unset, .unset, .unset, .unset] [(.long (q3 >>> ((32 : Int32) &&& 0x3f).toInt64)), (.long ((q1 >>> ((32 : Int32) &&& 0x3f).toInt64) + (q2 >>> ((32 : Int32) &&& 0x3f).toInt64)))])) (fun t k => st8 _ k) ?_
  refine Go.on (B := T8.setTop (mkF m 38 #[.val (.long q1), .second, .val (.long q2), .second, .val (.long q3), .second, .val (.long q4), .second, .val (.long v21_5), .second, .unset, .unset, .unset, .unset, .unset, .unset, .unset, .unset, .unset] [(.long (((q1 >>> ((32 : Int32) &&& 0x3f).toInt64) + (q2 >>> ((32 : Int32) &&& 0x3f).toInt64)) + (q3 >>> ((32 : Int32) &&& 0x3f).toInt64)))])) (fun t k => XS.ladd X8.here hx rfl (hb hby at_37) rfl k) ?_
  refine Go.on (B := T8.setTop (mkF m 40 #[.val (.long q1), .second, .val (.long q2), .second, .val (.long q3), .second, .val (.long q4), .second, .val (.long v21_5), .second, .unset, .unset, .unset, .unset, .unset, .unset, .unset, .unset, .unset] [(.long q4), (.long (((q1 >>> ((32 : Int32) &&& 0x3f).toInt64) + (q2 >>> ((32 : Int32) &&& 0x3f).toInt64)) + (q3 >>> ((32 : Int32) &&& 0x3f).toInt64)))])) (fun t k => XS.lload X8.here hx rfl (hb hby at_38) rfl k) ?_
  obtain ⟨_, _, ⟨T9, L9, k9, n9⟩, -, X9, ⟨Lc9, hQ9, l9, y9, z9⟩, st9⟩ := Jvm.LawKit.callS X8 hx (y := (⟨"com/example/encours/encours/engine/TotalFitsPinLaw", "hi", "(J)J"⟩ : MethodName)) hown (mvT hZ (hw _ (List.mem_of_getElem? (i := 5) rfl))) (mvT hZ (hw _ (List.mem_of_getElem? (i := 6) rfl))) (mvT hZ (hw _ (List.mem_of_getElem? (i := 2) rfl))) (mvT hZ (hw _ (List.mem_of_getElem? (i := 7) rfl))) (by decide) (backOf (W := 2) (rhi l Z a0 hw [] q4 h0 n0 Z0) hZ (hw _ (List.mem_of_getElem? (i := 7) rfl)) (hw _ (List.mem_of_getElem? (i := 2) rfl)) (by decide) (by decide)) (g := (mkF m 40 #[.val (.long q1), .second, .val (.long q2), .second, .val (.long q3), .second, .val (.long q4), .second, .val (.long v21_5), .second, .unset, .unset, .unset, .unset, .unset, .unset, .unset, .unset, .unset] [(.long q4), (.long (((q1 >>> ((32 : Int32) &&& 0x3f).toInt64) + (q2 >>> ((32 : Int32) &&& 0x3f).toInt64)) + (q3 >>> ((32 : Int32) &&& 0x3f).toInt64)))])) rfl (by rw [hml]; rfl) (argsL := [(.long q4)]) (rest := [(.long (((q1 >>> ((32 : Int32) &&& 0x3f).toInt64) + (q2 >>> ((32 : Int32) &&& 0x3f).toInt64)) + (q3 >>> ((32 : Int32) &&& 0x3f).toInt64)))]) (lenOf pd_2 rfl) rfl (by show 2 * 0 + _ ≤ _; exact Nat.le_of_eq rfl) (hb hby at_40) (fun _ _ => ⟨rfl, e8q, (by decide : 0 + 0 ≤ _), (by decide : 0 + 0 ≤ _)⟩)
  dsimp only [Pt.U, Pt.locs, Pt.cells, Pt.slots] at X9 l9 y9 z9 st9 hQ9
  subst l9 y9 z9
  obtain ⟨rfl, N9q, e9q⟩ := hQ9
  have N9 := Fr.app N8 N9q
  refine Go.on (B := T9.setTop (mkF m 43 #[.val (.long q1), .second, .val (.long q2), .second, .val (.long q3), .second, .val (.long q4), .second, .val (.long v21_5), .second, .unset, .unset, .unset, .unset, .unset, .unset, .unset, .unset, .unset] [(.long (q4 >>> ((32 : Int32) &&& 0x3f).toInt64)), (.long (((q1 >>> ((32 : Int32) &&& 0x3f).toInt64) + (q2 >>> ((32 : Int32) &&& 0x3f).toInt64)) + (q3 >>> ((32 : Int32) &&& 0x3f).toInt64)))])) (fun t k => st9 _ k) ?_
  refine Go.on (B := T9.setTop (mkF m 44 #[.val (.long q1), .second, .val (.long q2), .second, .val (.long q3), .second, .val (.long q4), .second, .val (.long v21_5), .second, .unset, .unset, .unset, .unset, .unset, .unset, .unset, .unset, .unset] [(.long ((((q1 >>> ((32 : Int32) &&& 0x3f).toInt64) + (q2 >>> ((32 : Int32) &&& 0x3f).toInt64)) + (q3 >>> ((32 : Int32) &&& 0x3f).toInt64)) + (q4 >>> ((32 : Int32) &&& 0x3f).toInt64)))])) (fun t k => XS.ladd X9.here hx rfl (hb hby at_43) rfl k) ?_
  generalize hv44_10 : ((((q1 >>> ((32 : Int32) &&& 0x3f).toInt64) + (q2 >>> ((32 : Int32) &&& 0x3f).toInt64)) + (q3 >>> ((32 : Int32) &&& 0x3f).toInt64)) + (q4 >>> ((32 : Int32) &&& 0x3f).toInt64)) = v44_10
  refine Go.on (B := T9.setTop (mkF m 46 #[.val (.long q1), .second, .val (.long q2), .second, .val (.long q3), .second, .val (.long q4), .second, .val (.long v21_5), .second, .val (.long v44_10), .second, .unset, .unset, .unset, .unset, .unset, .unset, .unset] [])) (fun t k => XS.lstore X9.here hx rfl (hb hby at_44) rfl (l' := #[.val (.long q1), .second, .val (.long q2), .second, .val (.long q3), .second, .val (.long q4), .second, .val (.long v21_5), .second, .val (.long v44_10), .second, .unset, .unset, .unset, .unset, .unset, .unset, .unset]) rfl k) ?_
  refine Go.on (B := T9.setTop (mkF m 48 #[.val (.long q1), .second, .val (.long q2), .second, .val (.long q3), .second, .val (.long q4), .second, .val (.long v21_5), .second, .val (.long v44_10), .second, .unset, .unset, .unset, .unset, .unset, .unset, .unset] [(.long v44_10)])) (fun t k => XS.lload X9.here hx rfl (hb hby at_46) rfl k) ?_
  refine Go.on (B := T9.setTop (mkF m 50 #[.val (.long q1), .second, .val (.long q2), .second, .val (.long q3), .second, .val (.long q4), .second, .val (.long v21_5), .second, .val (.long v44_10), .second, .unset, .unset, .unset, .unset, .unset, .unset, .unset] [(.long v21_5), (.long v44_10)])) (fun t k => XS.lload X9.here hx rfl (hb hby at_48) rfl k) ?_
  refine Go.on (B := T9.setTop (mkF m 52 #[.val (.long q1), .second, .val (.long q2), .second, .val (.long q3), .second, .val (.long q4), .second, .val (.long v21_5), .second, .val (.long v44_10), .second, .unset, .unset, .unset, .unset, .unset, .unset, .unset] [(.int (32 : Int32)), (.long v21_5), (.long v44_10)])) (fun t k => XS.bipush X9.here hx rfl (hb hby at_50) k) ?_
  refine Go.on (B := T9.setTop (mkF m 53 #[.val (.long q1), .second, .val (.long q2), .second, .val (.long q3), .second, .val (.long q4), .second, .val (.long v21_5), .second, .val (.long v44_10), .second, .unset, .unset, .unset, .unset, .unset, .unset, .unset] [(.long ((v21_5.toUInt64 >>> ((32 : Int32) &&& 0x3f).toInt64.toUInt64).toInt64)), (.long v44_10)])) (fun t k => XS.lushr X9.here hx rfl (hb hby at_52) rfl k) ?_
  refine Go.on (B := T9.setTop (mkF m 54 #[.val (.long q1), .second, .val (.long q2), .second, .val (.long q3), .second, .val (.long q4), .second, .val (.long v21_5), .second, .val (.long v44_10), .second, .unset, .unset, .unset, .unset, .unset, .unset, .unset] [(.long (v44_10 + ((v21_5.toUInt64 >>> ((32 : Int32) &&& 0x3f).toInt64.toUInt64).toInt64)))])) (fun t k => XS.ladd X9.here hx rfl (hb hby at_53) rfl k) ?_
  generalize hv54_11 : (v44_10 + ((v21_5.toUInt64 >>> ((32 : Int32) &&& 0x3f).toInt64.toUInt64).toInt64)) = v54_11
  refine Go.on (B := T9.setTop (mkF m 56 #[.val (.long q1), .second, .val (.long q2), .second, .val (.long q3), .second, .val (.long q4), .second, .val (.long v21_5), .second, .val (.long v44_10), .second, .val (.long v54_11), .second, .unset, .unset, .unset, .unset, .unset] [])) (fun t k => XS.lstore X9.here hx rfl (hb hby at_54) rfl (l' := #[.val (.long q1), .second, .val (.long q2), .second, .val (.long q3), .second, .val (.long q4), .second, .val (.long v21_5), .second, .val (.long v44_10), .second, .val (.long v54_11), .second, .unset, .unset, .unset, .unset, .unset]) rfl k) ?_
  refine Go.on (B := T9.setTop (mkF m 58 #[.val (.long q1), .second, .val (.long q2), .second, .val (.long q3), .second, .val (.long q4), .second, .val (.long v21_5), .second, .val (.long v44_10), .second, .val (.long v54_11), .second, .unset, .unset, .unset, .unset, .unset] [(.long v54_11)])) (fun t k => XS.lload X9.here hx rfl (hb hby at_56) rfl k) ?_
  refine Go.on (B := T9.setTop (mkF m 61 #[.val (.long q1), .second, .val (.long q2), .second, .val (.long q3), .second, .val (.long q4), .second, .val (.long v21_5), .second, .val (.long v44_10), .second, .val (.long v54_11), .second, .unset, .unset, .unset, .unset, .unset] [(.long (-2147483648 : Int64)), (.long v54_11)])) (fun t k => X9.ldc2Long hx hown (mvT hZ (hw _ (List.mem_of_getElem? (i := 8) rfl))) (g := (mkF m 58 #[.val (.long q1), .second, .val (.long q2), .second, .val (.long q3), .second, .val (.long q4), .second, .val (.long v21_5), .second, .val (.long v44_10), .second, .val (.long v54_11), .second, .unset, .unset, .unset, .unset, .unset] [(.long v54_11)])) rfl (hb hby at_58) _ k) ?_
  refine Go.on (B := T9.setTop (mkF m 62 #[.val (.long q1), .second, .val (.long q2), .second, .val (.long q3), .second, .val (.long q4), .second, .val (.long v21_5), .second, .val (.long v44_10), .second, .val (.long v54_11), .second, .unset, .unset, .unset, .unset, .unset] [(.int (lcmpW v54_11 (-2147483648 : Int64)))])) (fun t k => XS.lcmp X9.here hx rfl (hb hby at_61) rfl k) ?_
  have sg62_12 : ∀ (z62_a12 : Int32) (hz62_a12 : z62_a12 = (if v54_11 < (-2147483648 : Int64) then (0 : Int32) else (if (2147483647 : Int64) < v54_11 then (0 : Int32) else (1 : Int32)))), ∀ t, Steps p.tables e below (T9.setTop (mkF m 79 #[.val (.long q1), .second, .val (.long q2), .second, .val (.long q3), .second, .val (.long q4), .second, .val (.long v21_5), .second, .val (.long v44_10), .second, .val (.long v54_11), .second, .unset, .unset, .unset, .unset, .unset] [(.int z62_a12)])) t → Steps p.tables e below (T9.setTop (mkF m 62 #[.val (.long q1), .second, .val (.long q2), .second, .val (.long q3), .second, .val (.long q4), .second, .val (.long v21_5), .second, .val (.long v44_10), .second, .val (.long v54_11), .second, .unset, .unset, .unset, .unset, .unset] [(.int (lcmpW v54_11 (-2147483648 : Int64)))])) t := by
    intro z62_a12 hz62_a12 t k
    show Steps p.tables e below (T9.setTop (mkF m 62 #[.val (.long q1), .second, .val (.long q2), .second, .val (.long q3), .second, .val (.long q4), .second, .val (.long v21_5), .second, .val (.long v44_10), .second, .val (.long v54_11), .second, .unset, .unset, .unset, .unset, .unset] [(.int (lcmpW v54_11 (-2147483648 : Int64)))])) _
    by_cases hc62_13 : v54_11 < (-2147483648 : Int64)
    · first | rw [if_pos hc62_13] at hz62_a12 | skip
      refine XS.ifYes X9.here hx rfl (pc0 := 62) (pc' := 78) rfl (hb hby at_62) rfl ((if0 _ _).trans (tlt ((lw_lt _ _).mpr hc62_13)).1) (by decide) (by decide) ?_
      show Steps p.tables e below (T9.setTop (mkF m 78 #[.val (.long q1), .second, .val (.long q2), .second, .val (.long q3), .second, .val (.long q4), .second, .val (.long v21_5), .second, .val (.long v44_10), .second, .val (.long v54_11), .second, .unset, .unset, .unset, .unset, .unset] [])) _
      refine XS.iconst X9.here hx rfl (hb hby at_78) ?_
      show Steps p.tables e below (T9.setTop (mkF m 79 #[.val (.long q1), .second, .val (.long q2), .second, .val (.long q3), .second, .val (.long q4), .second, .val (.long v21_5), .second, .val (.long v44_10), .second, .val (.long v54_11), .second, .unset, .unset, .unset, .unset, .unset] [(.int (0 : Int32))])) _
      subst hz62_a12
      exact k
    · first | rw [if_neg hc62_13] at hz62_a12 | skip
      refine XS.ifNo X9.here hx rfl (hb hby at_62) rfl ((if0 _ _).trans (flt (mt (lw_lt _ _).mp hc62_13)).1) ?_
      show Steps p.tables e below (T9.setTop (mkF m 65 #[.val (.long q1), .second, .val (.long q2), .second, .val (.long q3), .second, .val (.long q4), .second, .val (.long v21_5), .second, .val (.long v44_10), .second, .val (.long v54_11), .second, .unset, .unset, .unset, .unset, .unset] [])) _
      refine XS.lload X9.here hx rfl (hb hby at_65) rfl ?_
      show Steps p.tables e below (T9.setTop (mkF m 67 #[.val (.long q1), .second, .val (.long q2), .second, .val (.long q3), .second, .val (.long q4), .second, .val (.long v21_5), .second, .val (.long v44_10), .second, .val (.long v54_11), .second, .unset, .unset, .unset, .unset, .unset] [(.long v54_11)])) _
      refine X9.ldc2Long hx hown (mvT hZ (hw _ (List.mem_of_getElem? (i := 9) rfl))) (g := (mkF m 67 #[.val (.long q1), .second, .val (.long q2), .second, .val (.long q3), .second, .val (.long q4), .second, .val (.long v21_5), .second, .val (.long v44_10), .second, .val (.long v54_11), .second, .unset, .unset, .unset, .unset, .unset] [(.long v54_11)])) rfl (hb hby at_67) _ ?_
      show Steps p.tables e below (T9.setTop (mkF m 70 #[.val (.long q1), .second, .val (.long q2), .second, .val (.long q3), .second, .val (.long q4), .second, .val (.long v21_5), .second, .val (.long v44_10), .second, .val (.long v54_11), .second, .unset, .unset, .unset, .unset, .unset] [(.long (2147483647 : Int64)), (.long v54_11)])) _
      refine XS.lcmp X9.here hx rfl (hb hby at_70) rfl ?_
      show Steps p.tables e below (T9.setTop (mkF m 71 #[.val (.long q1), .second, .val (.long q2), .second, .val (.long q3), .second, .val (.long q4), .second, .val (.long v21_5), .second, .val (.long v44_10), .second, .val (.long v54_11), .second, .unset, .unset, .unset, .unset, .unset] [(.int (lcmpW v54_11 (2147483647 : Int64)))])) _
      by_cases hc71_14 : (2147483647 : Int64) < v54_11
      · first | rw [if_pos hc71_14] at hz62_a12 | skip
        refine XS.ifYes X9.here hx rfl (pc0 := 71) (pc' := 78) rfl (hb hby at_71) rfl ((if0 _ _).trans (tlt ((lw_gt _ _).mpr hc71_14)).2.2.1) (by decide) (by decide) ?_
        show Steps p.tables e below (T9.setTop (mkF m 78 #[.val (.long q1), .second, .val (.long q2), .second, .val (.long q3), .second, .val (.long q4), .second, .val (.long v21_5), .second, .val (.long v44_10), .second, .val (.long v54_11), .second, .unset, .unset, .unset, .unset, .unset] [])) _
        refine XS.iconst X9.here hx rfl (hb hby at_78) ?_
        show Steps p.tables e below (T9.setTop (mkF m 79 #[.val (.long q1), .second, .val (.long q2), .second, .val (.long q3), .second, .val (.long q4), .second, .val (.long v21_5), .second, .val (.long v44_10), .second, .val (.long v54_11), .second, .unset, .unset, .unset, .unset, .unset] [(.int (0 : Int32))])) _
        subst hz62_a12
        exact k
      · first | rw [if_neg hc71_14] at hz62_a12 | skip
        refine XS.ifNo X9.here hx rfl (hb hby at_71) rfl ((if0 _ _).trans (flt (mt (lw_gt _ _).mp hc71_14)).2.2.1) ?_
        show Steps p.tables e below (T9.setTop (mkF m 74 #[.val (.long q1), .second, .val (.long q2), .second, .val (.long q3), .second, .val (.long q4), .second, .val (.long v21_5), .second, .val (.long v44_10), .second, .val (.long v54_11), .second, .unset, .unset, .unset, .unset, .unset] [])) _
        refine XS.iconst X9.here hx rfl (hb hby at_74) ?_
        show Steps p.tables e below (T9.setTop (mkF m 75 #[.val (.long q1), .second, .val (.long q2), .second, .val (.long q3), .second, .val (.long q4), .second, .val (.long v21_5), .second, .val (.long v44_10), .second, .val (.long v54_11), .second, .unset, .unset, .unset, .unset, .unset] [(.int (1 : Int32))])) _
        refine XS.goto X9.here hx rfl (pc0 := 75) (pc' := 79) rfl (hb hby at_75) (by decide) (by decide) ?_
        show Steps p.tables e below (T9.setTop (mkF m 79 #[.val (.long q1), .second, .val (.long q2), .second, .val (.long q3), .second, .val (.long q4), .second, .val (.long v21_5), .second, .val (.long v44_10), .second, .val (.long v54_11), .second, .unset, .unset, .unset, .unset, .unset] [(.int (1 : Int32))])) _
        subst hz62_a12
        exact k
  obtain ⟨z62_a12, hz62_a12⟩ : ∃ z, z = (if v54_11 < (-2147483648 : Int64) then (0 : Int32) else (if (2147483647 : Int64) < v54_11 then (0 : Int32) else (1 : Int32))) := ⟨_, rfl⟩
  refine Go.on (sg62_12 z62_a12 hz62_a12) ?_
  refine Go.on (B := T9.setTop (mkF m 81 #[.val (.long q1), .second, .val (.long q2), .second, .val (.long q3), .second, .val (.long q4), .second, .val (.long v21_5), .second, .val (.long v44_10), .second, .val (.long v54_11), .second, .val (.int z62_a12), .unset, .unset, .unset, .unset] [])) (fun t k => XS.istore X9.here hx rfl (hb hby at_79) rfl (l' := #[.val (.long q1), .second, .val (.long q2), .second, .val (.long q3), .second, .val (.long q4), .second, .val (.long v21_5), .second, .val (.long v44_10), .second, .val (.long v54_11), .second, .val (.int z62_a12), .unset, .unset, .unset, .unset]) rfl k) ?_
  obtain ⟨T16, h16, X16, e16, E16, A16, D16, -, st16⟩ := newO X9 hx hZ hown (hw _ (List.mem_of_getElem? (i := 10) rfl)) (hw _ (List.mem_of_getElem? (i := 11) rfl)) (hw _ (List.mem_of_getElem? (i := 12) rfl)) e9q (g := (mkF m 81 #[.val (.long q1), .second, .val (.long q2), .second, .val (.long q3), .second, .val (.long q4), .second, .val (.long v21_5), .second, .val (.long v44_10), .second, .val (.long v54_11), .second, .val (.int z62_a12), .unset, .unset, .unset, .unset] [])) rfl (hb hby at_81) (by decide) (by decide)
  obtain ⟨b16, g16⟩ : ∃ z, z = h0.size := ⟨_, rfl⟩
  rw [← g16] at A16 D16 st16
  have ge_b16 : n0 ≤ b16 := Nat.le_trans Z0 (Nat.le_of_eq g16.symm)
  have Zs1 := Nat.le_trans Z0 E16.1
  have F16_low : Fld Z h16 b16 "com/example/encours/encours/engine/Money$Total" "low" "J" (.long (0 : Int64)) := D16 (Or.inl (hw _ (List.mem_of_getElem? (i := 25) rfl))) (ty := .long) (by decide)
  have F16_high : Fld Z h16 b16 "com/example/encours/encours/engine/Money$Total" "high" "J" (.long (0 : Int64)) := D16 (Or.inl (hw _ (List.mem_of_getElem? (i := 27) rfl))) (ty := .long) (by decide)
  refine Go.on (B := T16.setTop (mkF m 84 #[.val (.long q1), .second, .val (.long q2), .second, .val (.long q3), .second, .val (.long q4), .second, .val (.long v21_5), .second, .val (.long v44_10), .second, .val (.long v54_11), .second, .val (.int z62_a12), .unset, .unset, .unset, .unset] [(.ref b16)])) (fun t k => st16 _ k) ?_
  refine Go.on (B := T16.setTop (mkF m 85 #[.val (.long q1), .second, .val (.long q2), .second, .val (.long q3), .second, .val (.long q4), .second, .val (.long v21_5), .second, .val (.long v44_10), .second, .val (.long v54_11), .second, .val (.int z62_a12), .unset, .unset, .unset, .unset] [(.ref b16), (.ref b16)])) (fun t k => XS.dup X16.here hx rfl (hb hby at_84) rfl rfl k) ?_
  obtain ⟨_, _, ⟨T17, L17, k17, n17⟩, -, X17, ⟨Lc17, hQ17, l17, y17, z17⟩, st17⟩ := X16.specialBack hx (y := (⟨"com/example/encours/encours/engine/Money$Total", "<init>", "()V"⟩ : MethodName)) rfl hown (mvT hZ (hw _ (List.mem_of_getElem? (i := 13) rfl))) (mvT hZ (hw _ (List.mem_of_getElem? (i := 14) rfl))) (mvT hZ (hw _ (List.mem_of_getElem? (i := 15) rfl))) (by decide) (backOf (W := 1) (rini l Z a0 hw [] b16 h16 n0 Zs1) hZ (hw _ (List.mem_of_getElem? (i := 15) rfl)) (hw _ (List.mem_of_getElem? (i := 12) rfl)) (by decide) (by decide)) (g := (mkF m 85 #[.val (.long q1), .second, .val (.long q2), .second, .val (.long q3), .second, .val (.long q4), .second, .val (.long v21_5), .second, .val (.long v44_10), .second, .val (.long v54_11), .second, .val (.int z62_a12), .unset, .unset, .unset, .unset] [(.ref b16), (.ref b16)])) rfl (by rw [hml]; rfl) (Steps.refl _) (a := b16) (argsL := []) (rest := [(.ref b16)]) (lenOf pd_3 rfl) rfl (by show 2 * 0 + _ ≤ _; exact Nat.le_of_eq rfl) (hb hby at_85) (fun _ _ => ⟨rfl, e16, (by decide : 1 + 0 ≤ _), (by decide : 2 + 0 ≤ _)⟩)
  dsimp only [Pt.U, Pt.locs, Pt.cells, Pt.slots] at X17 l17 y17 z17 st17 hQ17
  subst l17 y17 z17
  obtain ⟨rfl, N17q, e17q⟩ := hQ17
  have N17 := Fr.app N9 N17q
  refine Go.on (B := T17.setTop (mkF m 88 #[.val (.long q1), .second, .val (.long q2), .second, .val (.long q3), .second, .val (.long q4), .second, .val (.long v21_5), .second, .val (.long v44_10), .second, .val (.long v54_11), .second, .val (.int z62_a12), .unset, .unset, .unset, .unset] [(.ref b16)])) (fun t k => st17.trans k) ?_
  refine Go.on (B := T17.setTop (mkF m 90 #[.val (.long q1), .second, .val (.long q2), .second, .val (.long q3), .second, .val (.long q4), .second, .val (.long v21_5), .second, .val (.long v44_10), .second, .val (.long v54_11), .second, .val (.int z62_a12), .val (.ref b16), .unset, .unset, .unset] [])) (fun t k => XS.astore X17.here hx rfl (hb hby at_88) rfl rfl (l' := #[.val (.long q1), .second, .val (.long q2), .second, .val (.long q3), .second, .val (.long q4), .second, .val (.long v21_5), .second, .val (.long v44_10), .second, .val (.long v54_11), .second, .val (.int z62_a12), .val (.ref b16), .unset, .unset, .unset]) rfl k) ?_
  refine Go.on (B := T17.setTop (mkF m 92 #[.val (.long q1), .second, .val (.long q2), .second, .val (.long q3), .second, .val (.long q4), .second, .val (.long v21_5), .second, .val (.long v44_10), .second, .val (.long v54_11), .second, .val (.int z62_a12), .val (.ref b16), .unset, .unset, .unset] [(.ref b16)])) (fun t k => XS.aload X17.here hx rfl (hb hby at_90) rfl rfl k) ?_
  refine Go.on (B := T17.setTop (mkF m 93 #[.val (.long q1), .second, .val (.long q2), .second, .val (.long q3), .second, .val (.long q4), .second, .val (.long v21_5), .second, .val (.long v44_10), .second, .val (.long v54_11), .second, .val (.int z62_a12), .val (.ref b16), .unset, .unset, .unset] [(.long q1), (.ref b16)])) (fun t k => XS.lloadN X17.here hx rfl (hb hby at_92) rfl k) ?_
  obtain ⟨cq18, kq18, q18a, q18b, q18c⟩ := isOf hZ e17q A16
  obtain ⟨_, _, ⟨T18, L18, k18, n18⟩, -, X18, ⟨Lc18, hQ18, l18, y18, z18⟩, st18⟩ := X17.virtualBack hx (y := (⟨"com/example/encours/encours/engine/Money$Total", "plus", "(J)Lcom/example/encours/encours/engine/Money$Total;"⟩ : MethodName)) (z := (⟨"com/example/encours/encours/engine/Money$Total", "plus", "(J)Lcom/example/encours/encours/engine/Money$Total;"⟩ : MethodName)) hown (mvT hZ (hw _ (List.mem_of_getElem? (i := 19) rfl))) (mvT hZ (hw _ (List.mem_of_getElem? (i := 20) rfl))) (notFace_of_selects (args := #[]) (mvT hZ (hw _ (List.mem_of_getElem? (i := 22) rfl)))) (mvT hZ (hw _ (List.mem_of_getElem? (i := 22) rfl))) (mvT hZ (hw _ (List.mem_of_getElem? (i := 21) rfl))) (by decide) (backOf (W := 0) (rplus l Z a0 hw [] b16 q1 (0 : Int64) (0 : Int64) h16 n0 Zs1 A16 F16_low F16_high ge_b16) hZ (hw _ (List.mem_of_getElem? (i := 23) rfl)) (hw _ (List.mem_of_getElem? (i := 12) rfl)) (by decide) (by decide)) q18a q18c (g := (mkF m 93 #[.val (.long q1), .second, .val (.long q2), .second, .val (.long q3), .second, .val (.long q4), .second, .val (.long v21_5), .second, .val (.long v44_10), .second, .val (.long v54_11), .second, .val (.int z62_a12), .val (.ref b16), .unset, .unset, .unset] [(.long q1), (.ref b16)])) rfl (by rw [hml]; rfl) (Steps.refl _) (argsL := [(.long q1)]) (rest := []) (lenOf pd_4 rfl) rfl (by show 2 * 0 + _ ≤ _; exact Nat.le_of_eq rfl) (hb hby at_93) (fun _ _ => ⟨rfl, e17q, (by decide : 1 + 0 ≤ _), (by decide : 2 + 0 ≤ _)⟩)
  dsimp only [Pt.U, Pt.locs, Pt.cells, Pt.slots] at X18 l18 y18 z18 st18 hQ18
  subst l18 y18 z18
  obtain ⟨rfl, N18q, K18q, G18a, lo18, up18, hlo18, hup18, G18b, G18c⟩ := hQ18
  have N18 := Fr.app N17 N18q
  have f2 := A16.keep K18q
  have Zs3 := Nat.le_trans Zs1 K18q.1
  refine Go.on (B := T18.setTop (mkF m 96 #[.val (.long q1), .second, .val (.long q2), .second, .val (.long q3), .second, .val (.long q4), .second, .val (.long v21_5), .second, .val (.long v44_10), .second, .val (.long v54_11), .second, .val (.int z62_a12), .val (.ref b16), .unset, .unset, .unset] [(.ref b16)])) (fun t k => st18.trans k) ?_
  refine Go.on (B := T18.setTop (mkF m 97 #[.val (.long q1), .second, .val (.long q2), .second, .val (.long q3), .second, .val (.long q4), .second, .val (.long v21_5), .second, .val (.long v44_10), .second, .val (.long v54_11), .second, .val (.int z62_a12), .val (.ref b16), .unset, .unset, .unset] [])) (fun t k => XS.pop X18.here hx rfl (hb hby at_96) rfl rfl k) ?_
  refine Go.on (B := T18.setTop (mkF m 99 #[.val (.long q1), .second, .val (.long q2), .second, .val (.long q3), .second, .val (.long q4), .second, .val (.long v21_5), .second, .val (.long v44_10), .second, .val (.long v54_11), .second, .val (.int z62_a12), .val (.ref b16), .unset, .unset, .unset] [(.ref b16)])) (fun t k => XS.aload X18.here hx rfl (hb hby at_97) rfl rfl k) ?_
  refine Go.on (B := T18.setTop (mkF m 100 #[.val (.long q1), .second, .val (.long q2), .second, .val (.long q3), .second, .val (.long q4), .second, .val (.long v21_5), .second, .val (.long v44_10), .second, .val (.long v54_11), .second, .val (.int z62_a12), .val (.ref b16), .unset, .unset, .unset] [(.long q2), (.ref b16)])) (fun t k => XS.lloadN X18.here hx rfl (hb hby at_99) rfl k) ?_
  obtain ⟨cq19, kq19, q19a, q19b, q19c⟩ := isOf hZ rfl G18a
  obtain ⟨_, _, ⟨T19, L19, k19, n19⟩, -, X19, ⟨Lc19, hQ19, l19, y19, z19⟩, st19⟩ := X18.virtualBack hx (y := (⟨"com/example/encours/encours/engine/Money$Total", "plus", "(J)Lcom/example/encours/encours/engine/Money$Total;"⟩ : MethodName)) (z := (⟨"com/example/encours/encours/engine/Money$Total", "plus", "(J)Lcom/example/encours/encours/engine/Money$Total;"⟩ : MethodName)) hown (mvT hZ (hw _ (List.mem_of_getElem? (i := 19) rfl))) (mvT hZ (hw _ (List.mem_of_getElem? (i := 20) rfl))) (notFace_of_selects (args := #[]) (mvT hZ (hw _ (List.mem_of_getElem? (i := 22) rfl)))) (mvT hZ (hw _ (List.mem_of_getElem? (i := 22) rfl))) (mvT hZ (hw _ (List.mem_of_getElem? (i := 21) rfl))) (by decide) (backOf (W := 0) (rplus l Z a0 hw [] b16 q2 lo18 up18 T18.heap n0 Zs3 G18a G18b G18c ge_b16) hZ (hw _ (List.mem_of_getElem? (i := 23) rfl)) (hw _ (List.mem_of_getElem? (i := 12) rfl)) (by decide) (by decide)) q19a q19c (g := (mkF m 100 #[.val (.long q1), .second, .val (.long q2), .second, .val (.long q3), .second, .val (.long q4), .second, .val (.long v21_5), .second, .val (.long v44_10), .second, .val (.long v54_11), .second, .val (.int z62_a12), .val (.ref b16), .unset, .unset, .unset] [(.long q2), (.ref b16)])) rfl (by rw [hml]; rfl) (Steps.refl _) (argsL := [(.long q2)]) (rest := []) (lenOf pd_4 rfl) rfl (by show 2 * 0 + _ ≤ _; exact Nat.le_of_eq rfl) (hb hby at_100) (fun _ _ => ⟨rfl, rfl, (by decide : 1 + 0 ≤ _), (by decide : 2 + 0 ≤ _)⟩)
  dsimp only [Pt.U, Pt.locs, Pt.cells, Pt.slots] at X19 l19 y19 z19 st19 hQ19
  subst l19 y19 z19
  obtain ⟨rfl, N19q, K19q, G19a, lo19, up19, hlo19, hup19, G19b, G19c⟩ := hQ19
  have N19 := Fr.app N18 N19q
  have f4 := G18a.keep K19q
  have Zs5 := Nat.le_trans Zs3 K19q.1
  refine Go.on (B := T19.setTop (mkF m 103 #[.val (.long q1), .second, .val (.long q2), .second, .val (.long q3), .second, .val (.long q4), .second, .val (.long v21_5), .second, .val (.long v44_10), .second, .val (.long v54_11), .second, .val (.int z62_a12), .val (.ref b16), .unset, .unset, .unset] [(.ref b16)])) (fun t k => st19.trans k) ?_
  refine Go.on (B := T19.setTop (mkF m 104 #[.val (.long q1), .second, .val (.long q2), .second, .val (.long q3), .second, .val (.long q4), .second, .val (.long v21_5), .second, .val (.long v44_10), .second, .val (.long v54_11), .second, .val (.int z62_a12), .val (.ref b16), .unset, .unset, .unset] [])) (fun t k => XS.pop X19.here hx rfl (hb hby at_103) rfl rfl k) ?_
  refine Go.on (B := T19.setTop (mkF m 106 #[.val (.long q1), .second, .val (.long q2), .second, .val (.long q3), .second, .val (.long q4), .second, .val (.long v21_5), .second, .val (.long v44_10), .second, .val (.long v54_11), .second, .val (.int z62_a12), .val (.ref b16), .unset, .unset, .unset] [(.ref b16)])) (fun t k => XS.aload X19.here hx rfl (hb hby at_104) rfl rfl k) ?_
  refine Go.on (B := T19.setTop (mkF m 108 #[.val (.long q1), .second, .val (.long q2), .second, .val (.long q3), .second, .val (.long q4), .second, .val (.long v21_5), .second, .val (.long v44_10), .second, .val (.long v54_11), .second, .val (.int z62_a12), .val (.ref b16), .unset, .unset, .unset] [(.long q3), (.ref b16)])) (fun t k => XS.lload X19.here hx rfl (hb hby at_106) rfl k) ?_
  obtain ⟨cq20, kq20, q20a, q20b, q20c⟩ := isOf hZ rfl G19a
  obtain ⟨_, _, ⟨T20, L20, k20, n20⟩, -, X20, ⟨Lc20, hQ20, l20, y20, z20⟩, st20⟩ := X19.virtualBack hx (y := (⟨"com/example/encours/encours/engine/Money$Total", "plus", "(J)Lcom/example/encours/encours/engine/Money$Total;"⟩ : MethodName)) (z := (⟨"com/example/encours/encours/engine/Money$Total", "plus", "(J)Lcom/example/encours/encours/engine/Money$Total;"⟩ : MethodName)) hown (mvT hZ (hw _ (List.mem_of_getElem? (i := 19) rfl))) (mvT hZ (hw _ (List.mem_of_getElem? (i := 20) rfl))) (notFace_of_selects (args := #[]) (mvT hZ (hw _ (List.mem_of_getElem? (i := 22) rfl)))) (mvT hZ (hw _ (List.mem_of_getElem? (i := 22) rfl))) (mvT hZ (hw _ (List.mem_of_getElem? (i := 21) rfl))) (by decide) (backOf (W := 0) (rplus l Z a0 hw [] b16 q3 lo19 up19 T19.heap n0 Zs5 G19a G19b G19c ge_b16) hZ (hw _ (List.mem_of_getElem? (i := 23) rfl)) (hw _ (List.mem_of_getElem? (i := 12) rfl)) (by decide) (by decide)) q20a q20c (g := (mkF m 108 #[.val (.long q1), .second, .val (.long q2), .second, .val (.long q3), .second, .val (.long q4), .second, .val (.long v21_5), .second, .val (.long v44_10), .second, .val (.long v54_11), .second, .val (.int z62_a12), .val (.ref b16), .unset, .unset, .unset] [(.long q3), (.ref b16)])) rfl (by rw [hml]; rfl) (Steps.refl _) (argsL := [(.long q3)]) (rest := []) (lenOf pd_4 rfl) rfl (by show 2 * 0 + _ ≤ _; exact Nat.le_of_eq rfl) (hb hby at_108) (fun _ _ => ⟨rfl, rfl, (by decide : 1 + 0 ≤ _), (by decide : 2 + 0 ≤ _)⟩)
  dsimp only [Pt.U, Pt.locs, Pt.cells, Pt.slots] at X20 l20 y20 z20 st20 hQ20
  subst l20 y20 z20
  obtain ⟨rfl, N20q, K20q, G20a, lo20, up20, hlo20, hup20, G20b, G20c⟩ := hQ20
  have N20 := Fr.app N19 N20q
  have f6 := G19a.keep K20q
  have Zs7 := Nat.le_trans Zs5 K20q.1
  refine Go.on (B := T20.setTop (mkF m 111 #[.val (.long q1), .second, .val (.long q2), .second, .val (.long q3), .second, .val (.long q4), .second, .val (.long v21_5), .second, .val (.long v44_10), .second, .val (.long v54_11), .second, .val (.int z62_a12), .val (.ref b16), .unset, .unset, .unset] [(.ref b16)])) (fun t k => st20.trans k) ?_
  refine Go.on (B := T20.setTop (mkF m 112 #[.val (.long q1), .second, .val (.long q2), .second, .val (.long q3), .second, .val (.long q4), .second, .val (.long v21_5), .second, .val (.long v44_10), .second, .val (.long v54_11), .second, .val (.int z62_a12), .val (.ref b16), .unset, .unset, .unset] [])) (fun t k => XS.pop X20.here hx rfl (hb hby at_111) rfl rfl k) ?_
  refine Go.on (B := T20.setTop (mkF m 114 #[.val (.long q1), .second, .val (.long q2), .second, .val (.long q3), .second, .val (.long q4), .second, .val (.long v21_5), .second, .val (.long v44_10), .second, .val (.long v54_11), .second, .val (.int z62_a12), .val (.ref b16), .unset, .unset, .unset] [(.ref b16)])) (fun t k => XS.aload X20.here hx rfl (hb hby at_112) rfl rfl k) ?_
  refine Go.on (B := T20.setTop (mkF m 116 #[.val (.long q1), .second, .val (.long q2), .second, .val (.long q3), .second, .val (.long q4), .second, .val (.long v21_5), .second, .val (.long v44_10), .second, .val (.long v54_11), .second, .val (.int z62_a12), .val (.ref b16), .unset, .unset, .unset] [(.long q4), (.ref b16)])) (fun t k => XS.lload X20.here hx rfl (hb hby at_114) rfl k) ?_
  obtain ⟨cq21, kq21, q21a, q21b, q21c⟩ := isOf hZ rfl G20a
  obtain ⟨_, _, ⟨T21, L21, k21, n21⟩, -, X21, ⟨Lc21, hQ21, l21, y21, z21⟩, st21⟩ := X20.virtualBack hx (y := (⟨"com/example/encours/encours/engine/Money$Total", "plus", "(J)Lcom/example/encours/encours/engine/Money$Total;"⟩ : MethodName)) (z := (⟨"com/example/encours/encours/engine/Money$Total", "plus", "(J)Lcom/example/encours/encours/engine/Money$Total;"⟩ : MethodName)) hown (mvT hZ (hw _ (List.mem_of_getElem? (i := 19) rfl))) (mvT hZ (hw _ (List.mem_of_getElem? (i := 20) rfl))) (notFace_of_selects (args := #[]) (mvT hZ (hw _ (List.mem_of_getElem? (i := 22) rfl)))) (mvT hZ (hw _ (List.mem_of_getElem? (i := 22) rfl))) (mvT hZ (hw _ (List.mem_of_getElem? (i := 21) rfl))) (by decide) (backOf (W := 0) (rplus l Z a0 hw [] b16 q4 lo20 up20 T20.heap n0 Zs7 G20a G20b G20c ge_b16) hZ (hw _ (List.mem_of_getElem? (i := 23) rfl)) (hw _ (List.mem_of_getElem? (i := 12) rfl)) (by decide) (by decide)) q21a q21c (g := (mkF m 116 #[.val (.long q1), .second, .val (.long q2), .second, .val (.long q3), .second, .val (.long q4), .second, .val (.long v21_5), .second, .val (.long v44_10), .second, .val (.long v54_11), .second, .val (.int z62_a12), .val (.ref b16), .unset, .unset, .unset] [(.long q4), (.ref b16)])) rfl (by rw [hml]; rfl) (Steps.refl _) (argsL := [(.long q4)]) (rest := []) (lenOf pd_4 rfl) rfl (by show 2 * 0 + _ ≤ _; exact Nat.le_of_eq rfl) (hb hby at_116) (fun _ _ => ⟨rfl, rfl, (by decide : 1 + 0 ≤ _), (by decide : 2 + 0 ≤ _)⟩)
  dsimp only [Pt.U, Pt.locs, Pt.cells, Pt.slots] at X21 l21 y21 z21 st21 hQ21
  subst l21 y21 z21
  obtain ⟨rfl, N21q, K21q, G21a, lo21, up21, hlo21, hup21, G21b, G21c⟩ := hQ21
  have N21 := Fr.app N20 N21q
  have f8 := G20a.keep K21q
  have Zs9 := Nat.le_trans Zs7 K21q.1
  refine Go.on (B := T21.setTop (mkF m 119 #[.val (.long q1), .second, .val (.long q2), .second, .val (.long q3), .second, .val (.long q4), .second, .val (.long v21_5), .second, .val (.long v44_10), .second, .val (.long v54_11), .second, .val (.int z62_a12), .val (.ref b16), .unset, .unset, .unset] [(.ref b16)])) (fun t k => st21.trans k) ?_
  refine Go.on (B := T21.setTop (mkF m 120 #[.val (.long q1), .second, .val (.long q2), .second, .val (.long q3), .second, .val (.long q4), .second, .val (.long v21_5), .second, .val (.long v44_10), .second, .val (.long v54_11), .second, .val (.int z62_a12), .val (.ref b16), .unset, .unset, .unset] [])) (fun t k => XS.pop X21.here hx rfl (hb hby at_119) rfl rfl k) ?_
  refine Go.on (B := T21.setTop (mkF m 122 #[.val (.long q1), .second, .val (.long q2), .second, .val (.long q3), .second, .val (.long q4), .second, .val (.long v21_5), .second, .val (.long v44_10), .second, .val (.long v54_11), .second, .val (.int z62_a12), .val (.ref b16), .unset, .unset, .unset] [(.ref b16)])) (fun t k => XS.aload X21.here hx rfl (hb hby at_120) rfl rfl k) ?_
  obtain ⟨cq22, kq22, q22a, q22b, q22c⟩ := isOf hZ rfl G21a
  obtain ⟨_, _, ⟨T22, L22, k22, n22⟩, -, X22, ⟨Lc22, hQ22, l22, y22, z22⟩, st22⟩ := X21.virtualBack hx (y := (⟨"com/example/encours/encours/engine/Money$Total", "fits", "()Z"⟩ : MethodName)) (z := (⟨"com/example/encours/encours/engine/Money$Total", "fits", "()Z"⟩ : MethodName)) hown (mvT hZ (hw _ (List.mem_of_getElem? (i := 36) rfl))) (mvT hZ (hw _ (List.mem_of_getElem? (i := 37) rfl))) (notFace_of_selects (args := #[]) (mvT hZ (hw _ (List.mem_of_getElem? (i := 39) rfl)))) (mvT hZ (hw _ (List.mem_of_getElem? (i := 39) rfl))) (mvT hZ (hw _ (List.mem_of_getElem? (i := 38) rfl))) (by decide) (backOf (W := 0) (rfit l Z a0 hw [] b16 lo21 up21 T21.heap n0 Zs9 G21a G21b G21c) hZ (hw _ (List.mem_of_getElem? (i := 40) rfl)) (hw _ (List.mem_of_getElem? (i := 12) rfl)) (by decide) (by decide)) q22a q22c (g := (mkF m 122 #[.val (.long q1), .second, .val (.long q2), .second, .val (.long q3), .second, .val (.long q4), .second, .val (.long v21_5), .second, .val (.long v44_10), .second, .val (.long v54_11), .second, .val (.int z62_a12), .val (.ref b16), .unset, .unset, .unset] [(.ref b16)])) rfl (by rw [hml]; rfl) (Steps.refl _) (argsL := []) (rest := []) (lenOf pd_1 rfl) rfl (by show 2 * 0 + _ ≤ _; exact Nat.le_of_eq rfl) (hb hby at_122) (fun _ _ => ⟨rfl, rfl, (by decide : 1 + 0 ≤ _), (by decide : 2 + 0 ≤ _)⟩)
  dsimp only [Pt.U, Pt.locs, Pt.cells, Pt.slots] at X22 l22 y22 z22 st22 hQ22
  subst l22 y22 z22
  obtain ⟨rfl, N22q, e22q⟩ := hQ22
  have N22 := Fr.app N21 N22q
  refine Go.on (B := T22.setTop (mkF m 125 #[.val (.long q1), .second, .val (.long q2), .second, .val (.long q3), .second, .val (.long q4), .second, .val (.long v21_5), .second, .val (.long v44_10), .second, .val (.long v54_11), .second, .val (.int z62_a12), .val (.ref b16), .unset, .unset, .unset] [(.int (own_fit lo21 up21))])) (fun t k => st22.trans k) ?_
  generalize hv125_23 : (own_fit lo21 up21) = v125_23
  refine Go.on (B := T22.setTop (mkF m 127 #[.val (.long q1), .second, .val (.long q2), .second, .val (.long q3), .second, .val (.long q4), .second, .val (.long v21_5), .second, .val (.long v44_10), .second, .val (.long v54_11), .second, .val (.int z62_a12), .val (.ref b16), .val (.int v125_23), .unset, .unset] [])) (fun t k => XS.istore X22.here hx rfl (hb hby at_125) rfl (l' := #[.val (.long q1), .second, .val (.long q2), .second, .val (.long q3), .second, .val (.long q4), .second, .val (.long v21_5), .second, .val (.long v44_10), .second, .val (.long v54_11), .second, .val (.int z62_a12), .val (.ref b16), .val (.int v125_23), .unset, .unset]) rfl k) ?_
  refine Go.on (B := T22.setTop (mkF m 129 #[.val (.long q1), .second, .val (.long q2), .second, .val (.long q3), .second, .val (.long q4), .second, .val (.long v21_5), .second, .val (.long v44_10), .second, .val (.long v54_11), .second, .val (.int z62_a12), .val (.ref b16), .val (.int v125_23), .unset, .unset] [(.int v125_23)])) (fun t k => XS.iload X22.here hx rfl (hb hby at_127) rfl k) ?_
  refine Go.on (B := T22.setTop (mkF m 131 #[.val (.long q1), .second, .val (.long q2), .second, .val (.long q3), .second, .val (.long q4), .second, .val (.long v21_5), .second, .val (.long v44_10), .second, .val (.long v54_11), .second, .val (.int z62_a12), .val (.ref b16), .val (.int v125_23), .unset, .unset] [(.int z62_a12), (.int v125_23)])) (fun t k => XS.iload X22.here hx rfl (hb hby at_129) rfl k) ?_
  have hc131_24 : v125_23 = z62_a12 := own_law q1 q2 q3 q4 lo18 up18 lo19 up19 lo20 up20 lo21 up21 v54_11 z62_a12 v125_23 hv125_23 hlo18 hup18 hlo19 hup19 hlo20 hup20 hlo21 hup21 (own_exp q1 q2 q3 q4 v21_5 v44_10 v54_11 hv21_5 hv44_10 hv54_11) hz62_a12
  refine Go.on (B := T22.setTop (mkF m 136 #[.val (.long q1), .second, .val (.long q2), .second, .val (.long q3), .second, .val (.long q4), .second, .val (.long v21_5), .second, .val (.long v44_10), .second, .val (.long v54_11), .second, .val (.int z62_a12), .val (.ref b16), .val (.int v125_23), .unset, .unset] [])) (fun t k => XS.icmpYes X22.here hx rfl (pc0 := 131) (pc' := 136) rfl (hb hby at_131) rfl (teq hc131_24).1 (by decide) (by decide) k) ?_
  refine Go.on (B := T22.setTop (mkF m 138 #[.val (.long q1), .second, .val (.long q2), .second, .val (.long q3), .second, .val (.long q4), .second, .val (.long v21_5), .second, .val (.long v44_10), .second, .val (.long v54_11), .second, .val (.int z62_a12), .val (.ref b16), .val (.int v125_23), .unset, .unset] [(.int v125_23)])) (fun t k => XS.iload X22.here hx rfl (hb hby at_136) rfl k) ?_
  by_cases hc138_25 : v125_23 = (0 : Int32)
  · refine Go.on (B := T22.setTop (mkF m 165 #[.val (.long q1), .second, .val (.long q2), .second, .val (.long q3), .second, .val (.long q4), .second, .val (.long v21_5), .second, .val (.long v44_10), .second, .val (.long v54_11), .second, .val (.int z62_a12), .val (.ref b16), .val (.int v125_23), .unset, .unset] [])) (fun t k => XS.ifYes X22.here hx rfl (pc0 := 138) (pc' := 165) rfl (hb hby at_138) rfl ((if0 _ _).trans (teq hc138_25).1) (by decide) (by decide) k) ?_
    refine Go.on (B := T22.setTop (mkF m 166 #[.val (.long q1), .second, .val (.long q2), .second, .val (.long q3), .second, .val (.long q4), .second, .val (.long v21_5), .second, .val (.long v44_10), .second, .val (.long v54_11), .second, .val (.int z62_a12), .val (.ref b16), .val (.int v125_23), .unset, .unset] [(.int (1 : Int32))])) (fun t k => XS.iconst X22.here hx rfl (hb hby at_165) k) ?_
    obtain ⟨fs, hr, hrun, hended, hW, hsame⟩ := X22.leave (v := some (.int (1 : Int32))) (fun h => by rw [Bd.returns] at h; cases h)
    refine ⟨_, _, ?_, hrun, hended, _, _, rfl, ?_, ⟨_, rfl⟩, hW, hsame.mono (by decide) (by decide)⟩
    · exact retN X22 hx (t := .boolean) Bd.returns (by simp) (hb hby at_166) hr
    · show Q_rm0 Z q1 q2 q3 q4 h0 n0 _ T22.heap _
      rw [e22q]
      exact ⟨rfl, N22⟩
  · refine Go.on (B := T22.setTop (mkF m 141 #[.val (.long q1), .second, .val (.long q2), .second, .val (.long q3), .second, .val (.long q4), .second, .val (.long v21_5), .second, .val (.long v44_10), .second, .val (.long v54_11), .second, .val (.int z62_a12), .val (.ref b16), .val (.int v125_23), .unset, .unset] [])) (fun t k => XS.ifNo X22.here hx rfl (hb hby at_138) rfl ((if0 _ _).trans (feq hc138_25).1) k) ?_
    refine Go.on (B := T22.setTop (mkF m 142 #[.val (.long q1), .second, .val (.long q2), .second, .val (.long q3), .second, .val (.long q4), .second, .val (.long v21_5), .second, .val (.long v44_10), .second, .val (.long v54_11), .second, .val (.int z62_a12), .val (.ref b16), .val (.int v125_23), .unset, .unset] [(.long q1)])) (fun t k => XS.lloadN X22.here hx rfl (hb hby at_141) rfl k) ?_
    refine Go.on (B := T22.setTop (mkF m 143 #[.val (.long q1), .second, .val (.long q2), .second, .val (.long q3), .second, .val (.long q4), .second, .val (.long v21_5), .second, .val (.long v44_10), .second, .val (.long v54_11), .second, .val (.int z62_a12), .val (.ref b16), .val (.int v125_23), .unset, .unset] [(.long q2), (.long q1)])) (fun t k => XS.lloadN X22.here hx rfl (hb hby at_142) rfl k) ?_
    refine Go.on (B := T22.setTop (mkF m 144 #[.val (.long q1), .second, .val (.long q2), .second, .val (.long q3), .second, .val (.long q4), .second, .val (.long v21_5), .second, .val (.long v44_10), .second, .val (.long v54_11), .second, .val (.int z62_a12), .val (.ref b16), .val (.int v125_23), .unset, .unset] [(.long (q1 + q2))])) (fun t k => XS.ladd X22.here hx rfl (hb hby at_143) rfl k) ?_
    refine Go.on (B := T22.setTop (mkF m 146 #[.val (.long q1), .second, .val (.long q2), .second, .val (.long q3), .second, .val (.long q4), .second, .val (.long v21_5), .second, .val (.long v44_10), .second, .val (.long v54_11), .second, .val (.int z62_a12), .val (.ref b16), .val (.int v125_23), .unset, .unset] [(.long q3), (.long (q1 + q2))])) (fun t k => XS.lload X22.here hx rfl (hb hby at_144) rfl k) ?_
    refine Go.on (B := T22.setTop (mkF m 147 #[.val (.long q1), .second, .val (.long q2), .second, .val (.long q3), .second, .val (.long q4), .second, .val (.long v21_5), .second, .val (.long v44_10), .second, .val (.long v54_11), .second, .val (.int z62_a12), .val (.ref b16), .val (.int v125_23), .unset, .unset] [(.long ((q1 + q2) + q3))])) (fun t k => XS.ladd X22.here hx rfl (hb hby at_146) rfl k) ?_
    refine Go.on (B := T22.setTop (mkF m 149 #[.val (.long q1), .second, .val (.long q2), .second, .val (.long q3), .second, .val (.long q4), .second, .val (.long v21_5), .second, .val (.long v44_10), .second, .val (.long v54_11), .second, .val (.int z62_a12), .val (.ref b16), .val (.int v125_23), .unset, .unset] [(.long q4), (.long ((q1 + q2) + q3))])) (fun t k => XS.lload X22.here hx rfl (hb hby at_147) rfl k) ?_
    refine Go.on (B := T22.setTop (mkF m 150 #[.val (.long q1), .second, .val (.long q2), .second, .val (.long q3), .second, .val (.long q4), .second, .val (.long v21_5), .second, .val (.long v44_10), .second, .val (.long v54_11), .second, .val (.int z62_a12), .val (.ref b16), .val (.int v125_23), .unset, .unset] [(.long (((q1 + q2) + q3) + q4))])) (fun t k => XS.ladd X22.here hx rfl (hb hby at_149) rfl k) ?_
    generalize hv150_26 : (((q1 + q2) + q3) + q4) = v150_26
    refine Go.on (B := T22.setTop (mkF m 152 #[.val (.long q1), .second, .val (.long q2), .second, .val (.long q3), .second, .val (.long q4), .second, .val (.long v21_5), .second, .val (.long v44_10), .second, .val (.long v54_11), .second, .val (.int z62_a12), .val (.ref b16), .val (.int v125_23), .val (.long v150_26), .second] [])) (fun t k => XS.lstore X22.here hx rfl (hb hby at_150) rfl (l' := #[.val (.long q1), .second, .val (.long q2), .second, .val (.long q3), .second, .val (.long q4), .second, .val (.long v21_5), .second, .val (.long v44_10), .second, .val (.long v54_11), .second, .val (.int z62_a12), .val (.ref b16), .val (.int v125_23), .val (.long v150_26), .second]) rfl k) ?_
    have hfit1 := hc138_25
    rw [← hv125_23] at hfit1
    refine Go.on (B := T22.setTop (mkF m 154 #[.val (.long q1), .second, .val (.long q2), .second, .val (.long q3), .second, .val (.long q4), .second, .val (.long v21_5), .second, .val (.long v44_10), .second, .val (.long v54_11), .second, .val (.int z62_a12), .val (.ref b16), .val (.int v125_23), .val (.long v150_26), .second] [(.ref b16)])) (fun t k => XS.aload X22.here hx rfl (hb hby at_152) rfl rfl k) ?_
    obtain ⟨cq27, kq27, q27a, q27b, q27c⟩ := isOf hZ e22q G21a
    obtain ⟨_, _, ⟨T27, L27, k27, n27⟩, -, X27, ⟨Lc27, hQ27, l27, y27, z27⟩, st27⟩ := X22.virtualBack hx (y := (⟨"com/example/encours/encours/engine/Money$Total", "cents", "()J"⟩ : MethodName)) (z := (⟨"com/example/encours/encours/engine/Money$Total", "cents", "()J"⟩ : MethodName)) hown (mvT hZ (hw _ (List.mem_of_getElem? (i := 41) rfl))) (mvT hZ (hw _ (List.mem_of_getElem? (i := 42) rfl))) (notFace_of_selects (args := #[]) (mvT hZ (hw _ (List.mem_of_getElem? (i := 44) rfl)))) (mvT hZ (hw _ (List.mem_of_getElem? (i := 44) rfl))) (mvT hZ (hw _ (List.mem_of_getElem? (i := 43) rfl))) (by decide) (backOf (W := 0) (rcen l Z a0 hw [] b16 lo21 up21 T21.heap n0 Zs9 G21a G21b G21c hfit1) hZ (hw _ (List.mem_of_getElem? (i := 45) rfl)) (hw _ (List.mem_of_getElem? (i := 12) rfl)) (by decide) (by decide)) q27a q27c (g := (mkF m 154 #[.val (.long q1), .second, .val (.long q2), .second, .val (.long q3), .second, .val (.long q4), .second, .val (.long v21_5), .second, .val (.long v44_10), .second, .val (.long v54_11), .second, .val (.int z62_a12), .val (.ref b16), .val (.int v125_23), .val (.long v150_26), .second] [(.ref b16)])) rfl (by rw [hml]; rfl) (Steps.refl _) (argsL := []) (rest := []) (lenOf pd_5 rfl) rfl (by show 2 * 0 + _ ≤ _; exact Nat.le_of_eq rfl) (hb hby at_154) (fun _ _ => ⟨rfl, e22q, (by decide : 1 + 0 ≤ _), (by decide : 2 + 0 ≤ _)⟩)
    dsimp only [Pt.U, Pt.locs, Pt.cells, Pt.slots] at X27 l27 y27 z27 st27 hQ27
    subst l27 y27 z27
    obtain ⟨rfl, N27q, e27q⟩ := hQ27
    have N27 := Fr.app N22 N27q
    refine Go.on (B := T27.setTop (mkF m 157 #[.val (.long q1), .second, .val (.long q2), .second, .val (.long q3), .second, .val (.long q4), .second, .val (.long v21_5), .second, .val (.long v44_10), .second, .val (.long v54_11), .second, .val (.int z62_a12), .val (.ref b16), .val (.int v125_23), .val (.long v150_26), .second] [(.long lo21)])) (fun t k => st27.trans k) ?_
    refine Go.on (B := T27.setTop (mkF m 159 #[.val (.long q1), .second, .val (.long q2), .second, .val (.long q3), .second, .val (.long q4), .second, .val (.long v21_5), .second, .val (.long v44_10), .second, .val (.long v54_11), .second, .val (.int z62_a12), .val (.ref b16), .val (.int v125_23), .val (.long v150_26), .second] [(.long v150_26), (.long lo21)])) (fun t k => XS.lload X27.here hx rfl (hb hby at_157) rfl k) ?_
    refine Go.on (B := T27.setTop (mkF m 160 #[.val (.long q1), .second, .val (.long q2), .second, .val (.long q3), .second, .val (.long q4), .second, .val (.long v21_5), .second, .val (.long v44_10), .second, .val (.long v54_11), .second, .val (.int z62_a12), .val (.ref b16), .val (.int v125_23), .val (.long v150_26), .second] [(.int (lcmpW lo21 v150_26))])) (fun t k => XS.lcmp X27.here hx rfl (hb hby at_159) rfl k) ?_
    have hc160_28 : lo21 = v150_26 := by rw [hlo21, hlo20, hlo19, hlo18, ← hv150_26, Int64.zero_add]
    refine Go.on (B := T27.setTop (mkF m 165 #[.val (.long q1), .second, .val (.long q2), .second, .val (.long q3), .second, .val (.long q4), .second, .val (.long v21_5), .second, .val (.long v44_10), .second, .val (.long v54_11), .second, .val (.int z62_a12), .val (.ref b16), .val (.int v125_23), .val (.long v150_26), .second] [])) (fun t k => XS.ifYes X27.here hx rfl (pc0 := 160) (pc' := 165) rfl (hb hby at_160) rfl ((if0 _ _).trans (teq ((lw_eq _ _).mpr hc160_28)).1) (by decide) (by decide) k) ?_
    refine Go.on (B := T27.setTop (mkF m 166 #[.val (.long q1), .second, .val (.long q2), .second, .val (.long q3), .second, .val (.long q4), .second, .val (.long v21_5), .second, .val (.long v44_10), .second, .val (.long v54_11), .second, .val (.int z62_a12), .val (.ref b16), .val (.int v125_23), .val (.long v150_26), .second] [(.int (1 : Int32))])) (fun t k => XS.iconst X27.here hx rfl (hb hby at_165) k) ?_
    obtain ⟨fs, hr, hrun, hended, hW, hsame⟩ := X27.leave (v := some (.int (1 : Int32))) (fun h => by rw [Bd.returns] at h; cases h)
    refine ⟨_, _, ?_, hrun, hended, _, _, rfl, ?_, ⟨_, rfl⟩, hW, hsame.mono (by decide) (by decide)⟩
    · exact retN X27 hx (t := .boolean) Bd.returns (by simp) (hb hby at_166) hr
    · show Q_rm0 Z q1 q2 q3 q4 h0 n0 _ T27.heap _
      rw [e27q]
      exact ⟨rfl, N27⟩
set_option maxRecDepth 65536 in
set_option maxHeartbeats 40000000 in
theorem comes_1 {Post : Tables → Env → Array Value → State → Outcome → State → Prop} (hpost : ∀ tb e args s v u, (limb_1_1.after args s (.returned v) u = true ∧ limb_1_2.after args s (.returned v) u = true ∧ True) → FrameEnd s (.returned v) u (Jvm.fieldLocs frame_1_writes args s ++ Jvm.arrayLocs frame_1_arrays args s ++ Jvm.staticLocs frame_1_statics s) 16 128 → Post tb e args s (.returned v) u) :
    ArmFor flags0 classFile x code maxLocals ret World_1 tables_1 room_1 Calls_1 rest_1 Pre_1 Post := by
  intro l hfl _ _ p e ha hc hk s m args below hf hA hF happ hP
  obtain ⟨hcalls, hrest, hpre⟩ := hP
  obtain ⟨-, -, -, hnamed, -, -, -, hat⟩ := (Spec.applies_iff hf).mp happ
  obtain ⟨hg, hn⟩ := and_e (Cond.before_iff.mp (show (Jvm.Cond.and given_1 narrow_1).before args s = true from hpre))
  obtain ⟨gc, gr0⟩ := and_e hg
  obtain ⟨ga0, gr1⟩ := and_e gr0
  obtain ⟨ga1, gr2⟩ := and_e gr1
  obtain ⟨ga2, gr3⟩ := and_e gr2
  obtain ⟨w0, w1, w2, w3, rfl⟩ : ∃ w0 w1 w2 w3 : Value, args = #[w0, w1, w2, w3] := by
    have hs : args.size = 4 := by simpa [Cond.value, given_1] using gc
    obtain ⟨L⟩ := args
    match L, hs with
    | [w0, w1, w2, w3], _ => exact ⟨w0, w1, w2, w3, rfl⟩
  have hw := fun d (hd : d ∈ tables_1) => atoms_spec (ws := Jvm.Cond.code x code maxLocals ret :: tables_1) hat d (List.mem_cons_of_mem _ hd)
  have hfit : Fit s := fun {y c} hc i hi => by
    obtain ⟨ha, rfl⟩ := Array.getElem?_eq_some_iff.mp hc
    have q := List.all_eq_true.mp ((Array.all_eq_true_iff_forall_mem.mp hF) _ (Array.getElem_mem ha)) i (List.mem_range.mpr hi)
    simpa [Array.getElem?_eq_getElem hi] using q
  obtain ⟨i0, ei0⟩ := isL_v ga0
  obtain rfl : w0 = (.long i0) := Option.some.inj ei0
  obtain ⟨i1, ei1⟩ := isL_v ga1
  obtain rfl : w1 = (.long i1) := Option.some.inj ei1
  obtain ⟨i2, ei2⟩ := isL_v ga2
  obtain rfl : w2 = (.long i2) := Option.some.inj ei2
  obtain ⟨i3, ei3⟩ := isL_v gr3
  obtain rfl : w3 = (.long i3) := Option.some.inj ei3
  obtain ⟨n, o, h1, h2, h3, _, L, rfl, ⟨rfl, N⟩, hq⟩ := rm0 l s _ hw tables_1 i0 i1 i2 i3  s.heap s.heap.size (Nat.le_refl _)  p e ha hc hk s m _ below hf ((Spec.applies_iff_loose hf).mp happ).1 ⟨rfl, State.Warmed39.refl s, rfl⟩ trivial
  refine ⟨n, _, h1, h2, h3, hpost _ _ _ _ _ _ ⟨Cond.after_iff.mpr rfl, Cond.after_iff.mpr (eq_i res_at (Term.int_eval (1)) rfl), trivial⟩ ⟨hq.1, hq.2.1, (hq.2.2.sift fun y hy => Or.inr (N y hy)).mono (by decide) (by decide)⟩⟩
theorem main_1_1 : Claimed_1_1 := comes_1 fun _ _ _ _ _ _ h hF => ⟨h.1, hF⟩
theorem main_1_2 : Claimed_1_2 := comes_1 fun _ _ _ _ _ _ h hF => ⟨h.2.1, hF⟩
end Jvm.Pilot.@@N@@
namespace Jvm.Pilot.@@N@@
open Jvm Jvm.ClassFile Sem Op Lib Jvm.Free Jvm.Stand Jvm.Pilot.@@N@@.Jvm.D
/-! MADE BY PROGRAM (witnessworld.py) out of the Statement's table words and the real class files: 14 classes; the members and pool entries that the words name. The judged class is class 1, her method 3. -/
namespace start1
open Jvm.ClassFile
def u (s : String) : CpInfo := .utf8 (stringToUtf16 s)
/-- a pool by its gaps: so many unusable entries, then the entry; so many at the end -/
def gap : Nat → List CpInfo → List CpInfo
  | 0, r => r
  | n + 1, r => .unusable :: gap n r
def poolList (es : List (Nat × CpInfo)) (last : Nat) : List CpInfo := es.foldr (fun e r => gap e.1 (e.2 :: r)) (gap last [])
def pool (es : List (Nat × CpInfo)) (last : Nat) : Array CpInfo := ⟨poolList es last⟩
def fileOf (pool : Array CpInfo) (this : Nat) (attrs : Array Attribute := #[]) (ms : Array MethodInfo := #[]) (fl : Nat := 33) (sup : Nat := 0) (ifs : Array Nat := #[]) (fds : Array FieldInfo := #[]) : ClassFile where
  minorVersion := 0
  majorVersion := 65
  constantPool := pool
  accessFlags := fl
  thisClass := this
  superClass := sup
  interfaces := ifs
  fields := fds
  methods := ms
  attributes := attrs
def plain (name : String) (sup : Option ClassId) : Class where
  name := name
  kind := .ordinary
  loader := none
  accessFlags := 33
  super := sup
  interfaces := #[]
  cf := none
  fields := #[]
  methods := #[]
  instanceTypes := #[]
  staticTypes := #[]
  resolved := #[]
  callSites := []
  init := .initialized
  statics := none
  mirror := none

def pool0 : Array CpInfo := pool [(5, u "<init>"), (0, u "()V"), (1, .class_ 10), (1, u "java/lang/Object")] 113

def k0c0 : Code := { maxStack := 0, maxLocals := 1, code := object_method_1_code, exceptionTable := #[], attributes := #[] }
def k0m0 : Method := { name := "<init>", desc := "()V", sig := { parameters := [], returnType := none }, accessFlags := 1, code := some k0c0 }
/-- java/lang/Object -/
def k0 : Class := { plain "java/lang/Object" none with
  accessFlags := 33
  interfaces := #[]
  cf := some (fileOf pool0 8 #[] #[{ accessFlags := 1, nameIndex := 5, descriptorIndex := 6, attributes := #[] }] 33 0 #[] #[])
  fields := #[]
  methods := #[k0m0]
  instanceTypes := #[]
  staticTypes := #[]
  resolved := Array.replicate 124 none
  statics := none }

def pool1 : Array CpInfo := pool [(2, .class_ 4), (0, .nameAndType 5 6), (0, u "java/lang/Object"), (0, u "<init>"), (0, u "()V"), (0, .long 4294967295), (1, .methodref 10 11), (0, .class_ 12), (0, .nameAndType 13 14), (0, u "com/example/encours/encours/engine/TotalFitsPinLaw"), (0, u "lo"), (0, u "(J)J"), (0, .methodref 10 16), (0, .nameAndType 17 14), (0, u "hi"), (0, .long 18446744071562067968), (1, .long 2147483647), (1, .class_ 23), (0, u "com/example/encours/encours/engine/Money$Total"), (0, .methodref 22 3), (0, .methodref 22 26), (0, .nameAndType 27 28), (0, u "plus"), (0, u "(J)Lcom/example/encours/encours/engine/Money$Total;"), (0, .methodref 22 30), (0, .nameAndType 31 32), (0, u "fits"), (0, u "()Z"), (0, .methodref 22 34), (0, .nameAndType 35 36), (0, u "cents"), (0, u "()J"), (2, u "law"), (0, u "(JJJJ)Z")] 7

def k1m0 : Method := { name := "<init>", desc := "()V", sig := { parameters := [], returnType := none }, accessFlags := 1, code := none }
def k1c1 : Code := { maxStack := 3, maxLocals := 2, code := method_2_code, exceptionTable := #[], attributes := #[] }
def k1m1 : Method := { name := "hi", desc := "(J)J", sig := { parameters := [.long], returnType := some .long }, accessFlags := 10, code := some k1c1 }
def k1c2 : Code := { maxStack := 4, maxLocals := 2, code := method_3_code, exceptionTable := #[], attributes := #[] }
def k1m2 : Method := { name := "lo", desc := "(J)J", sig := { parameters := [.long], returnType := some .long }, accessFlags := 10, code := some k1c2 }
def k1c3 : Code := { maxStack := 5, maxLocals := 19, code := code, exceptionTable := #[], attributes := #[] }
def k1m3 : Method := { name := "law", desc := "(JJJJ)Z", sig := { parameters := [.long, .long, .long, .long], returnType := some .boolean }, accessFlags := 9, code := some k1c3 }
/-- com/example/encours/encours/engine/TotalFitsPinLaw -/
def k1 : Class := { plain "com/example/encours/encours/engine/TotalFitsPinLaw" (some 0) with
  accessFlags := 49
  interfaces := #[]
  cf := some (fileOf pool1 10 #[] #[{ accessFlags := 1, nameIndex := 5, descriptorIndex := 6, attributes := #[] }, { accessFlags := 10, nameIndex := 17, descriptorIndex := 14, attributes := #[] }, { accessFlags := 10, nameIndex := 13, descriptorIndex := 14, attributes := #[] }, { accessFlags := 9, nameIndex := 39, descriptorIndex := 40, attributes := #[] }] 49 2 #[] #[])
  fields := #[]
  methods := #[k1m0, k1m1, k1m2, k1m3]
  instanceTypes := #[]
  staticTypes := #[]
  resolved := Array.replicate 48 none
  statics := none }

def pool2 : Array CpInfo := pool [(1, .methodref 2 3), (0, .class_ 4), (0, .nameAndType 5 6), (0, u "java/lang/Object"), (0, u "<init>"), (0, u "()V"), (0, .fieldref 8 9), (0, .class_ 10), (0, .nameAndType 11 12), (0, u "com/example/encours/encours/engine/Money$Total"), (0, u "low"), (0, u "J"), (0, .fieldref 8 14), (0, .nameAndType 15 12), (0, u "high"), (0, .methodref 17 18), (0, .class_ 19), (0, .nameAndType 20 21), (0, u "java/lang/Long"), (0, u "compareUnsigned"), (0, u "(JJ)I"), (1, .class_ 25), (1, u "com/example/encours/encours/engine/Money"), (0, u "cents"), (2, u "plus"), (0, u "(J)Lcom/example/encours/encours/engine/Money$Total;"), (10, .methodref 8 42), (0, .nameAndType 43 44), (0, u "fits"), (0, u "()Z"), (9, u "()J")] 17

def k2c0 : Code := { maxStack := 1, maxLocals := 1, code := prog_37_method_1_code, exceptionTable := #[], attributes := #[] }
def k2m0 : Method := { name := "<init>", desc := "()V", sig := { parameters := [], returnType := none }, accessFlags := 1, code := some k2c0 }
def k2c1 : Code := { maxStack := 9, maxLocals := 5, code := prog_37_method_2_code, exceptionTable := #[], attributes := #[] }
def k2m1 : Method := { name := "plus", desc := "(J)Lcom/example/encours/encours/engine/Money$Total;", sig := { parameters := [.long], returnType := some (.object "com/example/encours/encours/engine/Money$Total") }, accessFlags := 1, code := some k2c1 }
def k2c2 : Code := { maxStack := 5, maxLocals := 1, code := prog_37_method_6_code, exceptionTable := #[], attributes := #[] }
def k2m2 : Method := { name := "fits", desc := "()Z", sig := { parameters := [], returnType := some .boolean }, accessFlags := 1, code := some k2c2 }
def k2c3 : Code := { maxStack := 3, maxLocals := 1, code := prog_37_method_7_code, exceptionTable := #[], attributes := #[] }
def k2m3 : Method := { name := "cents", desc := "()J", sig := { parameters := [], returnType := some .long }, accessFlags := 1, code := some k2c3 }
/-- com/example/encours/encours/engine/Money$Total -/
def k2 : Class := { plain "com/example/encours/encours/engine/Money$Total" (some 0) with
  accessFlags := 33
  interfaces := #[]
  cf := some (fileOf pool2 8 #[.nestHost 23] #[{ accessFlags := 1, nameIndex := 5, descriptorIndex := 6, attributes := #[] }, { accessFlags := 1, nameIndex := 29, descriptorIndex := 30, attributes := #[] }, { accessFlags := 1, nameIndex := 43, descriptorIndex := 44, attributes := #[] }, { accessFlags := 1, nameIndex := 26, descriptorIndex := 54, attributes := #[] }] 33 2 #[] #[{ accessFlags := 2, nameIndex := 15, descriptorIndex := 12, attributes := #[] }, { accessFlags := 2, nameIndex := 11, descriptorIndex := 12, attributes := #[] }])
  fields := #[{ name := "high", type := .long, accessFlags := 2, slot := 0, constantValue := 0 }, { name := "low", type := .long, accessFlags := 2, slot := 1, constantValue := 0 }]
  methods := #[k2m0, k2m1, k2m2, k2m3]
  instanceTypes := #[.long, .long]
  staticTypes := #[]
  resolved := Array.replicate 72 none
  statics := none }

def pool3 : Array CpInfo := pool [(1, .class_ 2), (0, u "java/io/Serializable"), (0, .class_ 4), (0, u "java/lang/Object")] 2

/-- java/io/Serializable -/
def k3 : Class := { plain "java/io/Serializable" (some 0) with
  accessFlags := 1537
  interfaces := #[]
  cf := some (fileOf pool3 1 #[] #[] 1537 3 #[] #[])
  fields := #[]
  methods := #[]
  instanceTypes := #[]
  staticTypes := #[]
  resolved := Array.replicate 7 none
  statics := none }

def pool4 : Array CpInfo := pool [(2, .class_ 4), (1, u "java/lang/Object"), (0, u "<init>"), (0, u "()V"), (1, .class_ 10), (1, u "java/lang/Number"), (2, .class_ 14), (0, u "java/io/Serializable"), (0, u "serialVersionUID"), (0, u "J")] 20

def k4m0 : Method := { name := "<init>", desc := "()V", sig := { parameters := [], returnType := none }, accessFlags := 1, code := none }
/-- java/lang/Number -/
def k4 : Class := { plain "java/lang/Number" (some 0) with
  accessFlags := 1057
  interfaces := #[3]
  cf := some (fileOf pool4 8 #[] #[{ accessFlags := 1, nameIndex := 5, descriptorIndex := 6, attributes := #[] }] 1057 2 #[13] #[{ accessFlags := 26, nameIndex := 15, descriptorIndex := 16, attributes := #[] }])
  fields := #[{ name := "serialVersionUID", type := .long, accessFlags := 26, slot := 0, constantValue := 0 }]
  methods := #[k4m0]
  instanceTypes := #[]
  staticTypes := #[.long]
  resolved := Array.replicate 37 none
  statics := none }

def pool5 : Array CpInfo := pool [(1, .class_ 2), (0, u "java/lang/Comparable"), (0, .class_ 4), (0, u "java/lang/Object")] 7

/-- java/lang/Comparable -/
def k5 : Class := { plain "java/lang/Comparable" (some 0) with
  accessFlags := 1537
  interfaces := #[]
  cf := some (fileOf pool5 1 #[] #[] 1537 3 #[] #[])
  fields := #[]
  methods := #[]
  instanceTypes := #[]
  staticTypes := #[]
  resolved := Array.replicate 12 none
  statics := none }

def pool6 : Array CpInfo := pool [(1, .class_ 2), (0, u "java/lang/constant/Constable"), (0, .class_ 4), (0, u "java/lang/Object")] 6

/-- java/lang/constant/Constable -/
def k6 : Class := { plain "java/lang/constant/Constable" (some 0) with
  accessFlags := 1537
  interfaces := #[]
  cf := some (fileOf pool6 1 #[] #[] 1537 3 #[] #[])
  fields := #[]
  methods := #[]
  instanceTypes := #[]
  staticTypes := #[]
  resolved := Array.replicate 11 none
  statics := none }

def pool7 : Array CpInfo := pool [(1, .class_ 2), (0, u "java/lang/constant/ConstantDesc"), (0, .class_ 4), (0, u "java/lang/Object")] 32

/-- java/lang/constant/ConstantDesc -/
def k7 : Class := { plain "java/lang/constant/ConstantDesc" (some 0) with
  accessFlags := 1537
  interfaces := #[]
  cf := some (fileOf pool7 1 #[] #[] 1537 3 #[] #[])
  fields := #[]
  methods := #[]
  instanceTypes := #[]
  staticTypes := #[]
  resolved := Array.replicate 37 none
  statics := none }

def pool8 : Array CpInfo := pool [(1, .class_ 2), (0, u "java/lang/Long"), (165, .long 9223372036854775808), (66, .class_ 237), (1, u "java/lang/Long$LongCache"), (33, .class_ 272), (0, u "java/lang/Number"), (2, u "value"), (0, u "J"), (25, .methodref 1 303), (0, .nameAndType 304 305), (0, u "compare"), (0, u "(JJ)I"), (55, u "TYPE"), (0, u "Ljava/lang/Class;"), (0, .class_ 364), (0, u "java/lang/Comparable"), (0, .class_ 366), (0, u "java/lang/constant/Constable"), (0, .class_ 368), (0, u "java/lang/constant/ConstantDesc"), (0, u "MIN_VALUE"), (1, u "MAX_VALUE"), (4, u "SIZE"), (0, u "I"), (1, u "BYTES"), (1, u "serialVersionUID"), (87, u "compareUnsigned")] 54

def k8c0 : Code := { maxStack := 4, maxLocals := 4, code := jdk_35_method_42_code, exceptionTable := #[], attributes := #[] }
def k8m0 : Method := { name := "compare", desc := "(JJ)I", sig := { parameters := [.long, .long], returnType := some .int }, accessFlags := 9, code := some k8c0 }
def k8c1 : Code := { maxStack := 6, maxLocals := 4, code := jdk_35_method_43_code, exceptionTable := #[], attributes := #[] }
def k8m1 : Method := { name := "compareUnsigned", desc := "(JJ)I", sig := { parameters := [.long, .long], returnType := some .int }, accessFlags := 9, code := some k8c1 }
/-- java/lang/Long -/
def k8 : Class := { plain "java/lang/Long" (some 4) with
  accessFlags := 49
  interfaces := #[5, 6, 7]
  cf := some (fileOf pool8 1 #[.nestMembers #[235]] #[{ accessFlags := 9, nameIndex := 304, descriptorIndex := 305, attributes := #[] }, { accessFlags := 9, nameIndex := 469, descriptorIndex := 305, attributes := #[] }] 49 271 #[363, 365, 367] #[{ accessFlags := 25, nameIndex := 369, descriptorIndex := 276, attributes := #[] }, { accessFlags := 25, nameIndex := 371, descriptorIndex := 276, attributes := #[] }, { accessFlags := 25, nameIndex := 361, descriptorIndex := 362, attributes := #[] }, { accessFlags := 18, nameIndex := 275, descriptorIndex := 276, attributes := #[] }, { accessFlags := 25, nameIndex := 376, descriptorIndex := 377, attributes := #[] }, { accessFlags := 25, nameIndex := 379, descriptorIndex := 377, attributes := #[] }, { accessFlags := 26, nameIndex := 381, descriptorIndex := 276, attributes := #[] }])
  fields := #[{ name := "MIN_VALUE", type := .long, accessFlags := 25, slot := 0, constantValue := 0 }, { name := "MAX_VALUE", type := .long, accessFlags := 25, slot := 1, constantValue := 0 }, { name := "TYPE", type := (.object "java/lang/Class"), accessFlags := 25, slot := 2, constantValue := 0 }, { name := "value", type := .long, accessFlags := 18, slot := 0, constantValue := 0 }, { name := "SIZE", type := .int, accessFlags := 25, slot := 3, constantValue := 0 }, { name := "BYTES", type := .int, accessFlags := 25, slot := 4, constantValue := 0 }, { name := "serialVersionUID", type := .long, accessFlags := 26, slot := 5, constantValue := 0 }]
  methods := #[k8m0, k8m1]
  instanceTypes := #[.long]
  staticTypes := #[.long, .long, (.object "java/lang/Class"), .int, .int, .long]
  resolved := Array.replicate 524 none
  statics := none }

def pool9 : Array CpInfo := pool [(1, u "java/lang/Cloneable"), (0, .class_ 1), (0, u "java/lang/Object"), (0, .class_ 3)] 3

/-- java/lang/Cloneable -/
def k9 : Class := { plain "java/lang/Cloneable" (some 0) with
  accessFlags := 1537
  interfaces := #[]
  cf := some (fileOf pool9 2 #[] #[] 1537 4 #[] #[])
  fields := #[]
  methods := #[]
  instanceTypes := #[]
  staticTypes := #[]
  resolved := Array.replicate 8 none
  statics := none }

/-- the primitive byte -/
def k10 : Class := { plain "byte" none with kind := .primitive 'B', accessFlags := 0x411 }
/-- [B -/
def k11 : Class := { plain "[B" (some 0) with kind := .array 10 .byte, interfaces := #[9, 3], accessFlags := 1041 }

/-- the primitive int -/
def k12 : Class := { plain "int" none with kind := .primitive 'I', accessFlags := 0x411 }
/-- [I -/
def k13 : Class := { plain "[I" (some 0) with kind := .array 12 .int, interfaces := #[9, 3], accessFlags := 1041 }

def heap : Heap := #[]
def classes : Array Class := #[k0, k1, k2, k3, k4, k5, k6, k7, k8, k9, k10, k11, k12, k13]
def interned : List (Array UInt16 × Addr) := []
def slotsUsed : Nat := 0
def theMethod : MethodId := ⟨1, 3⟩
def args0 : Array Value := #[.long 5, .long 4, .long 3, .long 1]
def aboutOver (below : List Frame) : State where
  vm := { classes := classes, interned := interned.toArray }
  heap := heap
  slotsUsed := slotsUsed
  threads := #[{ frames := .invoking theMethod args0 :: below }]
def below0 : List Frame := [.native { method := ⟨0, 0⟩, args := #[] }]
def about1 : State := aboutOver below0
def p0 : Program := .bare "" "" ""
def e0 : Env := launch0.env 0 0 0
theorem w_frames : about1.frames = Frame.invoking theMethod args0 :: below0 := rfl
set_option maxRecDepth 65536 in
theorem w_args : argsFit about1.vm theMethod args0 = true := by decide +kernel
set_option maxRecDepth 65536 in
theorem w_heap : heapFits about1 = true := by decide +kernel
set_option maxRecDepth 65536 in
theorem w_runnable : about1.curStatus? = some .runnable := by decide +kernel
set_option maxRecDepth 65536 in
theorem w_alone : about1.alone = true := by decide +kernel
set_option maxRecDepth 65536 in
theorem w_named : about1.methodNamed? x = some theMethod := by decide +kernel
set_option maxRecDepth 65536 in
theorem w_hears : about1.hears theMethod below0 = true := by decide +kernel
set_option maxRecDepth 65536 in
theorem w_ripe : about1.ripe theMethod args0 below0 = true := by decide +kernel
theorem w_running : about1.status = .running := rfl
set_option maxRecDepth 65536 in
theorem w_room : about1.hasRoom e0.platform room_1 = true :=
  launch0.hasRoom_least _ room_1 (by decide +kernel) (by decide +kernel) (by decide +kernel) (by decide +kernel) (by decide +kernel) (by decide +kernel)
theorem allAtoms_all (ts : List Jvm.Cond) (a : Array Jvm.Value) (st : Jvm.State) : (allAtoms ts).before a st = ts.all (fun c => c.before a st) := by
  induction ts with
  | nil => rfl
  | cons c t ih =>
    show (Jvm.Cond.and c (allAtoms t)).before a st = _
    rw [Jvm.Cond.before_and, ih, List.all_cons]
def words1 : List Jvm.Cond := Jvm.Cond.code x code maxLocals ret :: tables_1
/-- a 'code' word, met by the world's own term for the bytes: nothing is compared byte by byte -/
theorem code_word {y : MethodName} {bytes : ByteArray} {mx : Nat} {rt : Option FieldType} {a : Array Value} {s : State} {m : MethodId} {meth : Method} {c : Code} (h1 : s.methodNamed? y = some m) (h2 : s.vm.method? m = some meth) (h3 : meth.code = some c) (h4 : c.code = bytes)
    (h5 : (c.maxLocals == mx && c.exceptionTable.isEmpty && decide (c.maxStack ≤ mostOperands) && decide (meth.sig.returnType = rt) && !meth.locks && decide (parseMethodDescriptor y.desc = some meth.sig)) = true) : (Jvm.Cond.code y bytes mx rt).before a s = true := by
  simp only [Bool.and_eq_true, beq_iff_eq, Bool.not_eq_true', decide_eq_true_eq] at h5
  obtain ⟨⟨⟨⟨⟨g1, g2⟩, g3⟩, g4⟩, g5⟩, g6⟩ := h5
  simp [Cond.before, Cond.holds, Cond.value, h1, h2, h3, h4, g1, g2, g3, g4, g5, g6]
def isCode : Jvm.Cond → Bool
  | .code _ _ _ _ => true
  | _ => false
theorem all_split {L : List Jvm.Cond} {P : Jvm.Cond → Bool} (h1 : L.all (fun c => isCode c || P c) = true) (h2 : ∀ c ∈ L.filter isCode, P c = true) : L.all P = true := by
  refine List.all_eq_true.mpr fun c hc => ?_
  have h := List.all_eq_true.mp h1 c hc
  rcases Bool.eq_false_or_eq_true (isCode c) with hi | hi
  · exact h2 c (List.mem_filter.mpr ⟨hc, hi⟩)
  · simpa [hi] using h
set_option maxRecDepth 65536 in
theorem w_c0 : (Jvm.Cond.code x code maxLocals ret).before args0 about1 = true := code_word (m := ⟨1, 3⟩) (meth := k1m3) (c := k1c3) (by decide +kernel) rfl rfl rfl (by decide +kernel)
set_option maxRecDepth 65536 in
theorem w_c1 : (Jvm.Cond.code ({ cls := "com/example/encours/encours/engine/TotalFitsPinLaw", name := "lo", desc := "(J)J" } : Jvm.MethodName) method_3_code (2 : Nat) (Option.some Jvm.ClassFile.FieldType.long)).before args0 about1 = true := code_word (m := ⟨1, 2⟩) (meth := k1m2) (c := k1c2) (by decide +kernel) rfl rfl rfl (by decide +kernel)
set_option maxRecDepth 65536 in
theorem w_c2 : (Jvm.Cond.code ({ cls := "com/example/encours/encours/engine/TotalFitsPinLaw", name := "hi", desc := "(J)J" } : Jvm.MethodName) method_2_code (2 : Nat) (Option.some Jvm.ClassFile.FieldType.long)).before args0 about1 = true := code_word (m := ⟨1, 1⟩) (meth := k1m1) (c := k1c1) (by decide +kernel) rfl rfl rfl (by decide +kernel)
set_option maxRecDepth 65536 in
theorem w_c3 : (Jvm.Cond.code ({ cls := "com/example/encours/encours/engine/Money$Total", name := "<init>", desc := "()V" } : Jvm.MethodName) prog_37_method_1_code (1 : Nat) (Option.none : Option Jvm.ClassFile.FieldType)).before args0 about1 = true := code_word (m := ⟨2, 0⟩) (meth := k2m0) (c := k2c0) (by decide +kernel) rfl rfl rfl (by decide +kernel)
set_option maxRecDepth 65536 in
theorem w_c4 : (Jvm.Cond.code ({ cls := "java/lang/Object", name := "<init>", desc := "()V" } : Jvm.MethodName) object_method_1_code (1 : Nat) (Option.none : Option Jvm.ClassFile.FieldType)).before args0 about1 = true := code_word (m := ⟨0, 0⟩) (meth := k0m0) (c := k0c0) (by decide +kernel) rfl rfl rfl (by decide +kernel)
set_option maxRecDepth 65536 in
theorem w_c5 : (Jvm.Cond.code ({ cls := "com/example/encours/encours/engine/Money$Total", name := "plus", desc := "(J)Lcom/example/encours/encours/engine/Money$Total;" } : Jvm.MethodName) prog_37_method_2_code (5 : Nat) (Option.some (Jvm.ClassFile.FieldType.object "com/example/encours/encours/engine/Money$Total"))).before args0 about1 = true := code_word (m := ⟨2, 1⟩) (meth := k2m1) (c := k2c1) (by decide +kernel) rfl rfl rfl (by decide +kernel)
set_option maxRecDepth 65536 in
theorem w_c6 : (Jvm.Cond.code ({ cls := "java/lang/Long", name := "compareUnsigned", desc := "(JJ)I" } : Jvm.MethodName) jdk_35_method_43_code (4 : Nat) (Option.some Jvm.ClassFile.FieldType.int)).before args0 about1 = true := code_word (m := ⟨8, 1⟩) (meth := k8m1) (c := k8c1) (by decide +kernel) rfl rfl rfl (by decide +kernel)
set_option maxRecDepth 65536 in
theorem w_c7 : (Jvm.Cond.code ({ cls := "java/lang/Long", name := "compare", desc := "(JJ)I" } : Jvm.MethodName) jdk_35_method_42_code (4 : Nat) (Option.some Jvm.ClassFile.FieldType.int)).before args0 about1 = true := code_word (m := ⟨8, 0⟩) (meth := k8m0) (c := k8c0) (by decide +kernel) rfl rfl rfl (by decide +kernel)
set_option maxRecDepth 65536 in
theorem w_c8 : (Jvm.Cond.code ({ cls := "com/example/encours/encours/engine/Money$Total", name := "fits", desc := "()Z" } : Jvm.MethodName) prog_37_method_6_code (1 : Nat) (Option.some Jvm.ClassFile.FieldType.boolean)).before args0 about1 = true := code_word (m := ⟨2, 2⟩) (meth := k2m2) (c := k2c2) (by decide +kernel) rfl rfl rfl (by decide +kernel)
set_option maxRecDepth 65536 in
theorem w_c9 : (Jvm.Cond.code ({ cls := "com/example/encours/encours/engine/Money$Total", name := "cents", desc := "()J" } : Jvm.MethodName) prog_37_method_7_code (1 : Nat) (Option.some Jvm.ClassFile.FieldType.long)).before args0 about1 = true := code_word (m := ⟨2, 3⟩) (meth := k2m3) (c := k2c3) (by decide +kernel) rfl rfl rfl (by decide +kernel)
def codes1 : List Jvm.Cond := [Jvm.Cond.code x code maxLocals ret, Jvm.Cond.code ({ cls := "com/example/encours/encours/engine/TotalFitsPinLaw", name := "lo", desc := "(J)J" } : Jvm.MethodName) method_3_code (2 : Nat) (Option.some Jvm.ClassFile.FieldType.long), Jvm.Cond.code ({ cls := "com/example/encours/encours/engine/TotalFitsPinLaw", name := "hi", desc := "(J)J" } : Jvm.MethodName) method_2_code (2 : Nat) (Option.some Jvm.ClassFile.FieldType.long), Jvm.Cond.code ({ cls := "com/example/encours/encours/engine/Money$Total", name := "<init>", desc := "()V" } : Jvm.MethodName) prog_37_method_1_code (1 : Nat) (Option.none : Option Jvm.ClassFile.FieldType), Jvm.Cond.code ({ cls := "java/lang/Object", name := "<init>", desc := "()V" } : Jvm.MethodName) object_method_1_code (1 : Nat) (Option.none : Option Jvm.ClassFile.FieldType), Jvm.Cond.code ({ cls := "com/example/encours/encours/engine/Money$Total", name := "plus", desc := "(J)Lcom/example/encours/encours/engine/Money$Total;" } : Jvm.MethodName) prog_37_method_2_code (5 : Nat) (Option.some (Jvm.ClassFile.FieldType.object "com/example/encours/encours/engine/Money$Total")), Jvm.Cond.code ({ cls := "java/lang/Long", name := "compareUnsigned", desc := "(JJ)I" } : Jvm.MethodName) jdk_35_method_43_code (4 : Nat) (Option.some Jvm.ClassFile.FieldType.int), Jvm.Cond.code ({ cls := "java/lang/Long", name := "compare", desc := "(JJ)I" } : Jvm.MethodName) jdk_35_method_42_code (4 : Nat) (Option.some Jvm.ClassFile.FieldType.int), Jvm.Cond.code ({ cls := "com/example/encours/encours/engine/Money$Total", name := "fits", desc := "()Z" } : Jvm.MethodName) prog_37_method_6_code (1 : Nat) (Option.some Jvm.ClassFile.FieldType.boolean), Jvm.Cond.code ({ cls := "com/example/encours/encours/engine/Money$Total", name := "cents", desc := "()J" } : Jvm.MethodName) prog_37_method_7_code (1 : Nat) (Option.some Jvm.ClassFile.FieldType.long)]
set_option maxRecDepth 65536 in
theorem codes_eq : words1.filter isCode = codes1 := rfl
theorem w_codes : ∀ c ∈ words1.filter isCode, c.before args0 about1 = true := by
  rw [codes_eq]
  intro c hc
  simp only [codes1, List.mem_cons, List.not_mem_nil, or_false] at hc
  rcases hc with rfl | rfl | rfl | rfl | rfl | rfl | rfl | rfl | rfl | rfl
  · exact w_c0
  · exact w_c1
  · exact w_c2
  · exact w_c3
  · exact w_c4
  · exact w_c5
  · exact w_c6
  · exact w_c7
  · exact w_c8
  · exact w_c9
set_option maxRecDepth 65536 in
theorem w_t1 : (words1.take 24).all (fun c => isCode c || c.before args0 about1) = true := by decide +kernel
set_option maxRecDepth 65536 in
theorem w_t2 : (words1.drop 24).all (fun c => isCode c || c.before args0 about1) = true := by decide +kernel
theorem w_tables : (allAtoms (Jvm.Cond.code x code maxLocals ret :: tables_1)).before args0 about1 = true := by
  rw [allAtoms_all]
  show words1.all (fun c => c.before args0 about1) = true
  refine all_split ?_ w_codes
  rw [← List.take_append_drop 24 words1, List.all_append, w_t1, w_t2]
  rfl
set_option maxRecDepth 65536 in
theorem w_case : (Jvm.Cond.and given_1 narrow_1).before args0 about1 = true := by decide +kernel
theorem w_applies : (headSpec (Jvm.Cond.code x code maxLocals ret :: tables_1) room_1).applies x e0.platform about1 = true :=
  (Spec.applies_iff w_frames).mpr ⟨w_running, w_runnable, w_alone, w_named, w_hears, w_ripe, w_room, w_tables⟩
theorem atStart : AtStart classFile x code maxLocals ret World_1 tables_1 room_1 Calls_1 rest_1 Pre_1 launch0 p0 e0 about1 theMethod args0 below0 :=
  ⟨lists_1, trivial, launch0.admits_env _ _ _, launch0.least_env, fairChoices_fair.cas, fairChoices_fair.clock, w_frames, w_args, w_heap, w_applies, trivial, trivial, w_case⟩
end start1
theorem witness_1 : WitnessClaimed_1 := ⟨start1.p0, start1.e0, start1.about1, start1.theMethod, start1.args0, start1.below0, start1.atStart⟩
end Jvm.Pilot.@@N@@
