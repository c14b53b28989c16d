import JvmDerived
import JvmDerived.Pilot.@@N@@Statement
import JvmDerived.Pilot.@@N@@Code
set_option linter.unusedVariables false
set_option linter.unusedSimpArgs false
namespace Jvm.RoadKit
open Sem ClassFile Op Lib Jvm.Stand Jvm.Free Jvm.LawKit
section New
variable {p : Program} {l : Launch} {e : Env} {R : Room} {s : State} {m : MethodId} {args : Array Value} {below : List Frame} {meth : Method} {c : Code} {T : State} {locs : List Loc} {cells slots : Nat}
theorem retI (X : Stand p l e R s m args below meth c T locs cells slots) (hx : p.tables.exec = Jvm.exec) {pc : Nat} {Ls : Array Slot} {z : Int32} {rest : List Value} (hret : meth.sig.returnType = some .int) (hd : decode c.code pc = .ok (.ireturn, 1)) {fs : List Frame}
    (hl : ∀ (f : JFrame) (acts : List Action), f.method = m → f.locked = none → f.entered = [] → (doReturn e (T.setTop f) acts (some (.int z))).1 = T.setFrames fs) : Steps p.tables e below (T.setTop (mkF m pc Ls (.int z :: rest))) (T.setFrames fs) := by
  have hm' : T.vm.method? m = some meth := X.method'
  have hn : narrow .int (.int z) = .int z := rfl
  show Steps p.tables e below (T.setTop { method := m, pc := pc, locals := Ls, stack := _ :: rest, locked := none }) _
  jvm_step X.here [X.here.top, hx, hd, hm', hret, hn]
  first | (intro acts; rw [hl _ acts rfl rfl rfl]) | rw [hl _ _ rfl rfl rfl]
  exact Steps.refl _
end New
/-- the run comes, from the state U, to an end at which Q holds -/
def Go (tb : Tables) (e : Env) (below : List Frame) (Q : Outcome → State → Prop) (U : State) : Prop := ∃ s₂ o, Steps tb e below U s₂ ∧ s₂.status = .running ∧ Ended s₂ below o ∧ Q o s₂
theorem Go.on {tb : Tables} {e : Env} {below : List Frame} {Q : Outcome → State → Prop} {A B : State} (h : ∀ t, Steps tb e below B t → Steps tb e below A t) (k : Go tb e below Q B) : Go tb e below Q A := by
  obtain ⟨s₂, o, h1, h2⟩ := k
  exact ⟨s₂, o, h _ h1, h2⟩
end Jvm.RoadKit
namespace Jvm.Pilot.@@N@@
open Jvm Jvm.ClassFile Sem Op Lib Jvm.Free Jvm.Stand Jvm.LawKit Jvm.RoadKit Bundle Jvm.Pilot.@@N@@.Jvm.D
theorem own_narc (r : Int32) (h : 0 ≤ r.toInt ∧ r.toInt ≤ 65535) : nar .char r = r := by
  have k := c_i2c r
  apply Int32.toInt_inj.mp
  show r.toUInt32.toUInt16.toUInt32.toInt32.toInt = r.toInt
  omega
theorem own_ch (x : Int32) : 0 ≤ (nar .char x).toInt ∧ (nar .char x).toInt ≤ 65535 := by
  have k := c_i2c x
  show 0 ≤ x.toUInt32.toUInt16.toUInt32.toInt32.toInt ∧ x.toUInt32.toUInt16.toUInt32.toInt32.toInt ≤ 65535
  omega
theorem own_m255 : (255 : Int32).toInt = 255 := by decide
theorem own_lat (c : Int32) (h : 0 ≤ c.toInt ∧ c.toInt ≤ 255) : (nar .char (((((c.toInt8.toInt32)).toInt8.toInt32) &&& (255 : Int32)).toUInt32.toUInt16.toUInt32.toInt32)) = c := by
  have k1 := c_i2b c
  have k2 := c_i2b c.toInt8.toInt32
  have k3 := c_mask c.toInt8.toInt32.toInt8.toInt32 255 8 (by decide) (by decide)
  have k4 := c_i2c (c.toInt8.toInt32.toInt8.toInt32 &&& (255 : Int32))
  have k5 := c_i2c ((c.toInt8.toInt32.toInt8.toInt32 &&& (255 : Int32)).toUInt32.toUInt16.toUInt32.toInt32)
  have e8 : ((2 ^ 8 : Nat) : Int) = 256 := by decide
  rw [e8] at k3
  apply Int32.toInt_inj.mp
  show ((c.toInt8.toInt32.toInt8.toInt32 &&& (255 : Int32)).toUInt32.toUInt16.toUInt32.toInt32).toUInt32.toUInt16.toUInt32.toInt32.toInt = c.toInt
  omega
theorem own_utf (c : Int32) (h : 0 ≤ c.toInt ∧ c.toInt ≤ 65535) : (nar .char ((((((((c >>> ((0 : Int32) &&& 31))).toInt8.toInt32).toInt8.toInt32) &&& (255 : Int32)) <<< ((0 : Int32) &&& 31)) ||| ((((((c >>> ((8 : Int32) &&& 31))).toInt8.toInt32).toInt8.toInt32) &&& (255 : Int32)) <<< ((8 : Int32) &&& 31))).toUInt32.toUInt16.toUInt32.toInt32)) = c := by
  have s0 := c_ishr c 0 0 (by decide)
  have s8 := c_ishr c 8 8 (by decide)
  have e0 : ((2 ^ 0 : Nat) : Int) = 1 := by decide
  have e8 : ((2 ^ 8 : Nat) : Int) = 256 := by decide
  rw [e0] at s0
  rw [e8] at s8
  have a1 := c_i2b (c >>> ((0 : Int32) &&& 31))
  have a2 := c_i2b (c >>> ((0 : Int32) &&& 31)).toInt8.toInt32
  have b1 := c_i2b (c >>> ((8 : Int32) &&& 31))
  have b2 := c_i2b (c >>> ((8 : Int32) &&& 31)).toInt8.toInt32
  generalize (c >>> ((0 : Int32) &&& 31)).toInt8.toInt32.toInt8.toInt32 = x at *
  generalize (c >>> ((8 : Int32) &&& 31)).toInt8.toInt32.toInt8.toInt32 = y at *
  have a3 := c_mask x 255 8 (by decide) (by decide)
  have b3 := c_mask y 255 8 (by decide) (by decide)
  rw [e8] at a3 b3
  have a4 := c_ishl (x &&& (255 : Int32)) 0 0 (by decide)
  have b4 := c_ishl (y &&& (255 : Int32)) 8 8 (by decide)
  rw [e0] at a4
  rw [e8] at b4
  have ra := rng32 ((x &&& (255 : Int32)) <<< ((0 : Int32) &&& 31))
  have rb := rng32 ((y &&& (255 : Int32)) <<< ((8 : Int32) &&& 31))
  have o := c_or' ((x &&& (255 : Int32)) <<< ((0 : Int32) &&& 31)) ((y &&& (255 : Int32)) <<< ((8 : Int32) &&& 31)) 8 (by decide) 256 (by decide) (by omega) (by omega) (by omega)
  generalize ((x &&& (255 : Int32)) <<< ((0 : Int32) &&& 31)) ||| ((y &&& (255 : Int32)) <<< ((8 : Int32) &&& 31)) = w at *
  have rw' := rng32 w
  have k4 := c_i2c w
  have k5 := c_i2c (w.toUInt32.toUInt16.toUInt32.toInt32)
  apply Int32.toInt_inj.mp
  show (w.toUInt32.toUInt16.toUInt32.toInt32).toUInt32.toUInt16.toUInt32.toInt32.toInt = c.toInt
  omega
theorem d15_0 : decode jdk_41_method_11_code 0 = .ok (.iload_n 0, 1) := by decide +kernel
theorem d15_1 : decode jdk_41_method_11_code 1 = .ok (.ifCond .lt 8, 3) := by decide +kernel
theorem d15_4 : decode jdk_41_method_11_code 4 = .ok (.iload_n 0, 1) := by decide +kernel
theorem d15_5 : decode jdk_41_method_11_code 5 = .ok (.iload_n 1, 1) := by decide +kernel
theorem d15_6 : decode jdk_41_method_11_code 6 = .ok (.if_icmp .lt 10, 3) := by decide +kernel
theorem d15_16 : decode jdk_41_method_11_code 16 = .ok (.iload_n 0, 1) := by decide +kernel
theorem d15_17 : decode jdk_41_method_11_code 17 = .ok (.ireturn, 1) := by decide +kernel
theorem pn_2 : plainName "jdk/internal/util/Preconditions" = true := by first | (simp [plainName, overriddenIn]; done) | decide +kernel
theorem ef_rpi0 (m : MethodId) (p1 : Int32) (p2 : Int32) : entryFrame m #[(.int p1), (.int p2), .null] 3 = mkF m 0 #[.val (.int p1), .val (.int p2), .val .null] [] := by first | (simp [entryFrame, mkF, argsToLocals, Value.category]; done) | rfl
def Q_rpi0 (Z : State) (p1 : Int32) (p2 : Int32) (h0 : Heap) (n0 : Nat) (v : Option Value) (h : Heap) (L : List Loc) : Prop := v = some (.int p1) ∧ Fr n0 L ∧ h = h0
set_option maxRecDepth 65536 in
set_option maxHeartbeats 40000000 in
theorem rpi0 (l : Launch) (Z : State) (a0 : Array Value) (hw : ∀ d ∈ tables_1, d.before a0 Z = true) (ws : List Jvm.Cond) (p1 : Int32) (p2 : Int32) (h0 : Heap) (n0 : Nat) (Z0 : n0 ≤ h0.size) (hi : ¬ p1 < (0 : Int32) ∧ p1 < p2) :
    MetFree l (⟨"jdk/internal/util/Preconditions", "checkIndex", "(IILjava/util/function/BiFunction;)I"⟩ : MethodName) (head1 (Jvm.Cond.code (⟨"jdk/internal/util/Preconditions", "checkIndex", "(IILjava/util/function/BiFunction;)I"⟩ : MethodName) jdk_41_method_11_code 3 (some .int) :: ws) ({ frames := 0, cells := 0, slots := 0, locals := 0 } : Room)) (fun a U => a = #[(.int p1), (.int p2), .null] ∧ Z.Warmed39 U.vm ∧ U.heap = h0) (fun _ _ _ _ _ => True) (fun _ U o U' => ∃ v L, o = .returned v ∧ Q_rpi0 Z p1 p2 h0 n0 v U'.heap L ∧ FrameEnd U o U' L ({ frames := 0, cells := 0, slots := 0, locals := 0 } : Room).cells ({ frames := 0, cells := 0, slots := 0, locals := 0 } : Room).slots) := by
  refine MetFree.of_bodySF (plainFor_of_name pn_2) hisR ?_
  intro p e s m args below meth c s₁ Bd hml0 hP hK
  obtain ⟨rfl, hZ, hh⟩ := hP
  have hx := Bd.exec
  have hby := Bd.bytes
  have hml : c.maxLocals = 3 := hml0
  have hown : s.vm.findClass "jdk/internal/util/Preconditions" = some m.cls := findClass_of_methodNamed Bd.named
  have hnm := (name_of_methodNamed Bd.named Bd.method).1
  have X0 : Stand p l e ({ frames := 0, cells := 0, slots := 0, locals := 0 } : Room) s m #[(.int p1), (.int p2), .null] below meth c s₁ [] 0 0 := Stand.of_body Bd
  have e0 : s₁.heap = h0 := by rw [← hh, Bd.state]; rfl
  have N0 := Fr.nil n0
  have pre0 : ∀ t, Steps p.tables e below (s₁.setTop (mkF m 0 #[.val (.int p1), .val (.int p2), .val .null] [])) t → Steps p.tables e below (s₁.setTop (entryFrame m #[(.int p1), (.int p2), .null] 3)) t := fun t k => castTop (ef_rpi0 m p1 p2) k
  change Go p.tables e below (fun o U' => ∃ v L, o = .returned v ∧ Q_rpi0 Z p1 p2 h0 n0 v U'.heap L ∧ FrameEnd s o U' L ({ frames := 0, cells := 0, slots := 0, locals := 0 } : Room).cells ({ frames := 0, cells := 0, slots := 0, locals := 0 } : Room).slots) (s₁.setTop (entryFrame m #[(.int p1), (.int p2), .null] 3))
  refine Go.on pre0 ?_
  refine Go.on (B := s₁.setTop (mkF m 1 #[.val (.int p1), .val (.int p2), .val .null] [(.int p1)])) (fun t k => XS.iloadN X0.here hx rfl (hb hby d15_0) rfl k) ?_
  have hc1_1 : ¬ (p1 < (0 : Int32)) := hi.1
  refine Go.on (B := s₁.setTop (mkF m 4 #[.val (.int p1), .val (.int p2), .val .null] [])) (fun t k => XS.ifNo X0.here hx rfl (hb hby d15_1) rfl ((if0 _ _).trans (flt hc1_1).1) k) ?_
  refine Go.on (B := s₁.setTop (mkF m 5 #[.val (.int p1), .val (.int p2), .val .null] [(.int p1)])) (fun t k => XS.iloadN X0.here hx rfl (hb hby d15_4) rfl k) ?_
  refine Go.on (B := s₁.setTop (mkF m 6 #[.val (.int p1), .val (.int p2), .val .null] [(.int p2), (.int p1)])) (fun t k => XS.iloadN X0.here hx rfl (hb hby d15_5) rfl k) ?_
  have hc6_2 : p1 < p2 := hi.2
  refine Go.on (B := s₁.setTop (mkF m 16 #[.val (.int p1), .val (.int p2), .val .null] [])) (fun t k => XS.icmpYes X0.here hx rfl (pc0 := 6) (pc' := 16) rfl (hb hby d15_6) rfl (tlt hc6_2).1 (by decide) (by decide) k) ?_
  refine Go.on (B := s₁.setTop (mkF m 17 #[.val (.int p1), .val (.int p2), .val .null] [(.int p1)])) (fun t k => XS.iloadN X0.here hx rfl (hb hby d15_16) rfl k) ?_
  obtain ⟨fs, hr, hrun, hended, hW, hsame⟩ := X0.leave (v := some (.int p1)) (fun h => by rw [Bd.returns] at h; cases h)
  refine ⟨_, _, ?_, hrun, hended, _, _, rfl, ?_, ⟨_, rfl⟩, hW, hsame.mono (by decide) (by decide)⟩
  · exact retI X0 hx Bd.returns (hb hby d15_17) hr
  · show Q_rpi0 Z p1 p2 h0 n0 _ s₁.heap _
    rw [e0]
    exact ⟨rfl, N0, rfl⟩
theorem ef_rpi1 (m : MethodId) (p1 : Int32) (p2 : Int32) (a3 : Addr) : entryFrame m #[(.int p1), (.int p2), (.ref a3)] 3 = mkF m 0 #[.val (.int p1), .val (.int p2), .val (.ref a3)] [] := by first | (simp [entryFrame, mkF, argsToLocals, Value.category]; done) | rfl
def Q_rpi1 (Z : State) (p1 : Int32) (p2 : Int32) (a3 : Addr) (h0 : Heap) (n0 : Nat) (v : Option Value) (h : Heap) (L : List Loc) : Prop := v = some (.int p1) ∧ Fr n0 L ∧ h = h0
set_option maxRecDepth 65536 in
set_option maxHeartbeats 40000000 in
theorem rpi1 (l : Launch) (Z : State) (a0 : Array Value) (hw : ∀ d ∈ tables_1, d.before a0 Z = true) (ws : List Jvm.Cond) (p1 : Int32) (p2 : Int32) (a3 : Addr) (h0 : Heap) (n0 : Nat) (Z0 : n0 ≤ h0.size) (hi : ¬ p1 < (0 : Int32) ∧ p1 < p2) :
    MetFree l (⟨"jdk/internal/util/Preconditions", "checkIndex", "(IILjava/util/function/BiFunction;)I"⟩ : MethodName) (head1 (Jvm.Cond.code (⟨"jdk/internal/util/Preconditions", "checkIndex", "(IILjava/util/function/BiFunction;)I"⟩ : MethodName) jdk_41_method_11_code 3 (some .int) :: ws) ({ frames := 0, cells := 0, slots := 0, locals := 0 } : Room)) (fun a U => a = #[(.int p1), (.int p2), (.ref a3)] ∧ Z.Warmed39 U.vm ∧ U.heap = h0) (fun _ _ _ _ _ => True) (fun _ U o U' => ∃ v L, o = .returned v ∧ Q_rpi1 Z p1 p2 a3 h0 n0 v U'.heap L ∧ FrameEnd U o U' L ({ frames := 0, cells := 0, slots := 0, locals := 0 } : Room).cells ({ frames := 0, cells := 0, slots := 0, locals := 0 } : Room).slots) := by
  refine MetFree.of_bodySF (plainFor_of_name pn_2) hisR ?_
  intro p e s m args below meth c s₁ Bd hml0 hP hK
  obtain ⟨rfl, hZ, hh⟩ := hP
  have hx := Bd.exec
  have hby := Bd.bytes
  have hml : c.maxLocals = 3 := hml0
  have hown : s.vm.findClass "jdk/internal/util/Preconditions" = some m.cls := findClass_of_methodNamed Bd.named
  have hnm := (name_of_methodNamed Bd.named Bd.method).1
  have X0 : Stand p l e ({ frames := 0, cells := 0, slots := 0, locals := 0 } : Room) s m #[(.int p1), (.int p2), (.ref a3)] below meth c s₁ [] 0 0 := Stand.of_body Bd
  have e0 : s₁.heap = h0 := by rw [← hh, Bd.state]; rfl
  have N0 := Fr.nil n0
  have pre0 : ∀ t, Steps p.tables e below (s₁.setTop (mkF m 0 #[.val (.int p1), .val (.int p2), .val (.ref a3)] [])) t → Steps p.tables e below (s₁.setTop (entryFrame m #[(.int p1), (.int p2), (.ref a3)] 3)) t := fun t k => castTop (ef_rpi1 m p1 p2 a3) k
  change Go p.tables e below (fun o U' => ∃ v L, o = .returned v ∧ Q_rpi1 Z p1 p2 a3 h0 n0 v U'.heap L ∧ FrameEnd s o U' L ({ frames := 0, cells := 0, slots := 0, locals := 0 } : Room).cells ({ frames := 0, cells := 0, slots := 0, locals := 0 } : Room).slots) (s₁.setTop (entryFrame m #[(.int p1), (.int p2), (.ref a3)] 3))
  refine Go.on pre0 ?_
  refine Go.on (B := s₁.setTop (mkF m 1 #[.val (.int p1), .val (.int p2), .val (.ref a3)] [(.int p1)])) (fun t k => XS.iloadN X0.here hx rfl (hb hby d15_0) rfl k) ?_
  have hc1_1 : ¬ (p1 < (0 : Int32)) := hi.1
  refine Go.on (B := s₁.setTop (mkF m 4 #[.val (.int p1), .val (.int p2), .val (.ref a3)] [])) (fun t k => XS.ifNo X0.here hx rfl (hb hby d15_1) rfl ((if0 _ _).trans (flt hc1_1).1) k) ?_
  refine Go.on (B := s₁.setTop (mkF m 5 #[.val (.int p1), .val (.int p2), .val (.ref a3)] [(.int p1)])) (fun t k => XS.iloadN X0.here hx rfl (hb hby d15_4) rfl k) ?_
  refine Go.on (B := s₁.setTop (mkF m 6 #[.val (.int p1), .val (.int p2), .val (.ref a3)] [(.int p2), (.int p1)])) (fun t k => XS.iloadN X0.here hx rfl (hb hby d15_5) rfl k) ?_
  have hc6_2 : p1 < p2 := hi.2
  refine Go.on (B := s₁.setTop (mkF m 16 #[.val (.int p1), .val (.int p2), .val (.ref a3)] [])) (fun t k => XS.icmpYes X0.here hx rfl (pc0 := 6) (pc' := 16) rfl (hb hby d15_6) rfl (tlt hc6_2).1 (by decide) (by decide) k) ?_
  refine Go.on (B := s₁.setTop (mkF m 17 #[.val (.int p1), .val (.int p2), .val (.ref a3)] [(.int p1)])) (fun t k => XS.iloadN X0.here hx rfl (hb hby d15_16) rfl k) ?_
  obtain ⟨fs, hr, hrun, hended, hW, hsame⟩ := X0.leave (v := some (.int p1)) (fun h => by rw [Bd.returns] at h; cases h)
  refine ⟨_, _, ?_, hrun, hended, _, _, rfl, ?_, ⟨_, rfl⟩, hW, hsame.mono (by decide) (by decide)⟩
  · exact retI X0 hx Bd.returns (hb hby d15_17) hr
  · show Q_rpi1 Z p1 p2 a3 h0 n0 _ s₁.heap _
    rw [e0]
    exact ⟨rfl, N0, rfl⟩
theorem d14_0 : decode jdk_42_method_155_code 0 = .ok (.iload_n 0, 1) := by decide +kernel
theorem d14_1 : decode jdk_42_method_155_code 1 = .ok (.iload_n 1, 1) := by decide +kernel
theorem d14_2 : decode jdk_42_method_155_code 2 = .ok (.getstatic 1053, 3) := by decide +kernel
theorem d14_5 : decode jdk_42_method_155_code 5 = .ok (.invokestatic 1059, 3) := by decide +kernel
theorem d14_8 : decode jdk_42_method_155_code 8 = .ok (.pop, 1) := by decide +kernel
theorem d14_9 : decode jdk_42_method_155_code 9 = .ok (.return_, 1) := by decide +kernel
theorem pd_0 : parseMethodDescriptor "(IILjava/util/function/BiFunction;)I" = some ⟨[.int, .int, (.object "java/util/function/BiFunction")], some .int⟩ := by decide +kernel
theorem pn_5 : plainName "java/lang/String" = true := by first | (simp [plainName, overriddenIn]; done) | decide +kernel
theorem ef_rci (m : MethodId) (p1 : Int32) (p2 : Int32) : entryFrame m #[(.int p1), (.int p2)] 2 = mkF m 0 #[.val (.int p1), .val (.int p2)] [] := by first | (simp [entryFrame, mkF, argsToLocals, Value.category]; done) | rfl
def Q_rci (Z : State) (p1 : Int32) (p2 : Int32) (G3 : Value) (h0 : Heap) (n0 : Nat) (v : Option Value) (h : Heap) (L : List Loc) : Prop := v = none ∧ Fr n0 L ∧ h = h0
set_option maxRecDepth 65536 in
set_option maxHeartbeats 40000000 in
theorem rci (l : Launch) (Z : State) (a0 : Array Value) (hw : ∀ d ∈ tables_1, d.before a0 Z = true) (ws : List Jvm.Cond) (p1 : Int32) (p2 : Int32) (G3 : Value) (h0 : Heap) (n0 : Nat) (Z0 : n0 ≤ h0.size) (hi : ¬ p1 < (0 : Int32) ∧ p1 < p2) (O0 : Old Z n0 h0) (S_fm : Sta Z Z.heap "jdk/internal/util/Preconditions" "SIOOBE_FORMATTER" "Ljava/util/function/BiFunction;" G3) (rG3 : G3.isRef = true) :
    MetFree l (⟨"java/lang/String", "checkIndex", "(II)V"⟩ : MethodName) (head1 (Jvm.Cond.code (⟨"java/lang/String", "checkIndex", "(II)V"⟩ : MethodName) jdk_42_method_155_code 2 none :: ws) ({ frames := 1, cells := 0, slots := 0, locals := 14 } : Room)) (fun a U => a = #[(.int p1), (.int p2)] ∧ Z.Warmed39 U.vm ∧ U.heap = h0) (fun _ _ _ _ _ => True) (fun _ U o U' => ∃ v L, o = .returned v ∧ Q_rci Z p1 p2 G3 h0 n0 v U'.heap L ∧ FrameEnd U o U' L ({ frames := 1, cells := 0, slots := 0, locals := 14 } : Room).cells ({ frames := 1, cells := 0, slots := 0, locals := 14 } : Room).slots) := by
  refine MetFree.of_bodySF (plainFor_of_name pn_5) hisR ?_
  intro p e s m args below meth c s₁ Bd hml0 hP hK
  obtain ⟨rfl, hZ, hh⟩ := hP
  have hx := Bd.exec
  have hby := Bd.bytes
  have hml : c.maxLocals = 2 := hml0
  have hown : s.vm.findClass "java/lang/String" = some m.cls := findClass_of_methodNamed Bd.named
  have hnm := (name_of_methodNamed Bd.named Bd.method).1
  have X0 : Stand p l e ({ frames := 1, cells := 0, slots := 0, locals := 14 } : Room) s m #[(.int p1), (.int p2)] below meth c s₁ [] 0 0 := Stand.of_body Bd
  have e0 : s₁.heap = h0 := by rw [← hh, Bd.state]; rfl
  have N0 := Fr.nil n0
  have pre0 : ∀ t, Steps p.tables e below (s₁.setTop (mkF m 0 #[.val (.int p1), .val (.int p2)] [])) t → Steps p.tables e below (s₁.setTop (entryFrame m #[(.int p1), (.int p2)] 2)) t := fun t k => castTop (ef_rci m p1 p2) k
  change Go p.tables e below (fun o U' => ∃ v L, o = .returned v ∧ Q_rci Z p1 p2 G3 h0 n0 v U'.heap L ∧ FrameEnd s o U' L ({ frames := 1, cells := 0, slots := 0, locals := 14 } : Room).cells ({ frames := 1, cells := 0, slots := 0, locals := 14 } : Room).slots) (s₁.setTop (entryFrame m #[(.int p1), (.int p2)] 2))
  refine Go.on pre0 ?_
  rcases ref_cases rG3 with rfl | ⟨g3, rfl⟩
  · refine Go.on (B := s₁.setTop (mkF m 1 #[.val (.int p1), .val (.int p2)] [(.int p1)])) (fun t k => XS.iloadN X0.here hx rfl (hb hby d14_0) rfl k) ?_
    refine Go.on (B := s₁.setTop (mkF m 2 #[.val (.int p1), .val (.int p2)] [(.int p2), (.int p1)])) (fun t k => XS.iloadN X0.here hx rfl (hb hby d14_1) rfl k) ?_
    obtain ⟨T1, X1, e1, st1⟩ := getS2 X0 hx hZ hown (host := "") (Or.inl (hw _ (List.mem_of_getElem? (i := 64) rfl))) Via.refl e0 (S_fm.ext O0.2) (g := (mkF m 2 #[.val (.int p1), .val (.int p2)] [(.int p2), (.int p1)])) rfl (hb hby d14_2)
    refine Go.on (B := T1.setTop (mkF m 5 #[.val (.int p1), .val (.int p2)] [.null, (.int p2), (.int p1)])) (fun t k => st1 _ k) ?_
    obtain ⟨_, _, ⟨T2, L2, k2, n2⟩, -, X2, ⟨Lc2, hQ2, l2, y2, z2⟩, st2⟩ := Jvm.LawKit.callS X1 hx (y := (⟨"jdk/internal/util/Preconditions", "checkIndex", "(IILjava/util/function/BiFunction;)I"⟩ : MethodName)) hown (mvT hZ (hw _ (List.mem_of_getElem? (i := 66) rfl))) (mvT hZ (hw _ (List.mem_of_getElem? (i := 67) rfl))) (mvT hZ (hw _ (List.mem_of_getElem? (i := 65) rfl))) (mvT hZ (hw _ (List.mem_of_getElem? (i := 68) rfl))) (by decide) (backOf (W := 0) (rpi0 l Z a0 hw [] p1 p2 h0 n0 Z0 hi) hZ (hw _ (List.mem_of_getElem? (i := 68) rfl)) (hw _ (List.mem_of_getElem? (i := 65) rfl)) (by decide) (by decide)) (g := (mkF m 5 #[.val (.int p1), .val (.int p2)] [.null, (.int p2), (.int p1)])) rfl (by rw [hml]; rfl) (argsL := [(.int p1), (.int p2), .null]) (rest := []) (lenOf pd_0 rfl) rfl (by show 2 * 0 + _ ≤ _; exact Nat.le_of_eq rfl) (hb hby d14_5) (fun _ _ => ⟨rfl, e1, (by decide : 0 + 0 ≤ _), (by decide : 0 + 0 ≤ _)⟩)
    dsimp only [Pt.U, Pt.locs, Pt.cells, Pt.slots] at X2 l2 y2 z2 st2 hQ2
    subst l2 y2 z2
    obtain ⟨rfl, N2q, e2q⟩ := hQ2
    have N2 := Fr.app N0 N2q
    refine Go.on (B := T2.setTop (mkF m 8 #[.val (.int p1), .val (.int p2)] [(.int p1)])) (fun t k => st2 _ k) ?_
    refine Go.on (B := T2.setTop (mkF m 9 #[.val (.int p1), .val (.int p2)] [])) (fun t k => XS.pop X2.here hx rfl (hb hby d14_8) rfl rfl k) ?_
    obtain ⟨fs, hr, hrun, hended, hW, hsame⟩ := X2.leave (v := none) (fun _ => rfl)
    refine ⟨_, _, ?_, hrun, hended, _, _, rfl, ?_, ⟨_, rfl⟩, hW, hsame.mono (by decide) (by decide)⟩
    · exact X2.returnOut hx Bd.returns (hb hby d14_9) hr
    · show Q_rci Z p1 p2 .null h0 n0 _ T2.heap _
      rw [e2q]
      exact ⟨rfl, N2, rfl⟩
  · refine Go.on (B := s₁.setTop (mkF m 1 #[.val (.int p1), .val (.int p2)] [(.int p1)])) (fun t k => XS.iloadN X0.here hx rfl (hb hby d14_0) rfl k) ?_
    refine Go.on (B := s₁.setTop (mkF m 2 #[.val (.int p1), .val (.int p2)] [(.int p2), (.int p1)])) (fun t k => XS.iloadN X0.here hx rfl (hb hby d14_1) rfl k) ?_
    obtain ⟨T3, X3, e3, st3⟩ := getS2 X0 hx hZ hown (host := "") (Or.inl (hw _ (List.mem_of_getElem? (i := 64) rfl))) Via.refl e0 (S_fm.ext O0.2) (g := (mkF m 2 #[.val (.int p1), .val (.int p2)] [(.int p2), (.int p1)])) rfl (hb hby d14_2)
    refine Go.on (B := T3.setTop (mkF m 5 #[.val (.int p1), .val (.int p2)] [(.ref g3), (.int p2), (.int p1)])) (fun t k => st3 _ k) ?_
    obtain ⟨_, _, ⟨T4, L4, k4, n4⟩, -, X4, ⟨Lc4, hQ4, l4, y4, z4⟩, st4⟩ := Jvm.LawKit.callS X3 hx (y := (⟨"jdk/internal/util/Preconditions", "checkIndex", "(IILjava/util/function/BiFunction;)I"⟩ : MethodName)) hown (mvT hZ (hw _ (List.mem_of_getElem? (i := 66) rfl))) (mvT hZ (hw _ (List.mem_of_getElem? (i := 67) rfl))) (mvT hZ (hw _ (List.mem_of_getElem? (i := 65) rfl))) (mvT hZ (hw _ (List.mem_of_getElem? (i := 68) rfl))) (by decide) (backOf (W := 0) (rpi1 l Z a0 hw [] p1 p2 g3 h0 n0 Z0 hi) hZ (hw _ (List.mem_of_getElem? (i := 68) rfl)) (hw _ (List.mem_of_getElem? (i := 65) rfl)) (by decide) (by decide)) (g := (mkF m 5 #[.val (.int p1), .val (.int p2)] [(.ref g3), (.int p2), (.int p1)])) rfl (by rw [hml]; rfl) (argsL := [(.int p1), (.int p2), (.ref g3)]) (rest := []) (lenOf pd_0 rfl) rfl (by show 2 * 0 + _ ≤ _; exact Nat.le_of_eq rfl) (hb hby d14_5) (fun _ _ => ⟨rfl, e3, (by decide : 0 + 0 ≤ _), (by decide : 0 + 0 ≤ _)⟩)
    dsimp only [Pt.U, Pt.locs, Pt.cells, Pt.slots] at X4 l4 y4 z4 st4 hQ4
    subst l4 y4 z4
    obtain ⟨rfl, N4q, e4q⟩ := hQ4
    have N4 := Fr.app N0 N4q
    refine Go.on (B := T4.setTop (mkF m 8 #[.val (.int p1), .val (.int p2)] [(.int p1)])) (fun t k => st4 _ k) ?_
    refine Go.on (B := T4.setTop (mkF m 9 #[.val (.int p1), .val (.int p2)] [])) (fun t k => XS.pop X4.here hx rfl (hb hby d14_8) rfl rfl k) ?_
    obtain ⟨fs, hr, hrun, hended, hW, hsame⟩ := X4.leave (v := none) (fun _ => rfl)
    refine ⟨_, _, ?_, hrun, hended, _, _, rfl, ?_, ⟨_, rfl⟩, hW, hsame.mono (by decide) (by decide)⟩
    · exact X4.returnOut hx Bd.returns (hb hby d14_9) hr
    · show Q_rci Z p1 p2 (.ref g3) h0 n0 _ T4.heap _
      rw [e4q]
      exact ⟨rfl, N4, rfl⟩
theorem d13_0 : decode jdk_43_method_2_code 0 = .ok (.iload_n 1, 1) := by decide +kernel
theorem d13_1 : decode jdk_43_method_2_code 1 = .ok (.aload_n 0, 1) := by decide +kernel
theorem d13_2 : decode jdk_43_method_2_code 2 = .ok (.arraylength, 1) := by decide +kernel
theorem d13_3 : decode jdk_43_method_2_code 3 = .ok (.invokestatic 9, 3) := by decide +kernel
theorem d13_6 : decode jdk_43_method_2_code 6 = .ok (.aload_n 0, 1) := by decide +kernel
theorem d13_7 : decode jdk_43_method_2_code 7 = .ok (.iload_n 1, 1) := by decide +kernel
theorem d13_8 : decode jdk_43_method_2_code 8 = .ok (.baload, 1) := by decide +kernel
theorem d13_9 : decode jdk_43_method_2_code 9 = .ok (.sipush 255, 3) := by decide +kernel
theorem d13_12 : decode jdk_43_method_2_code 12 = .ok (.iand, 1) := by decide +kernel
theorem d13_13 : decode jdk_43_method_2_code 13 = .ok (.i2c, 1) := by decide +kernel
theorem d13_14 : decode jdk_43_method_2_code 14 = .ok (.ireturn, 1) := by decide +kernel
theorem pd_1 : parseMethodDescriptor "(II)V" = some ⟨[.int, .int], none⟩ := by decide +kernel
theorem pn_8 : plainName "java/lang/StringLatin1" = true := by first | (simp [plainName, overriddenIn]; done) | decide +kernel
theorem ef_rl1 (m : MethodId) (a1 : Addr) (p2 : Int32) : entryFrame m #[(.ref a1), (.int p2)] 2 = mkF m 0 #[.val (.ref a1), .val (.int p2)] [] := by first | (simp [entryFrame, mkF, argsToLocals, Value.category]; done) | rfl
def Q_rl1 (Z : State) (a1 : Addr) (p2 : Int32) (k1 : ClassId) (z1 : Int32) (vs : List Value) (x r : Int32) (G3 : Value) (h0 : Heap) (n0 : Nat) (v : Option Value) (h : Heap) (L : List Loc) : Prop := v = some (.int r) ∧ Fr n0 L ∧ h = h0
set_option maxRecDepth 65536 in
set_option maxHeartbeats 40000000 in
theorem rl1 (l : Launch) (Z : State) (a0 : Array Value) (hw : ∀ d ∈ tables_1, d.before a0 Z = true) (ws : List Jvm.Cond) (a1 : Addr) (p2 : Int32) (k1 : ClassId) (z1 : Int32) (vs : List Value) (x r : Int32) (G3 : Value) (h0 : Heap) (n0 : Nat) (Z0 : n0 ≤ h0.size) (V1 : Arv Z h0 a1 k1 .byte z1 vs (.int (0 : Int32))) (hi : ¬ p2 < (0 : Int32) ∧ p2 < z1) (hv : vs.getD p2.toNatClampNeg (.int (0 : Int32)) = .int x) (hrr : (nar .char ((x &&& (255 : Int32)).toUInt32.toUInt16.toUInt32.toInt32)) = r) (O0 : Old Z n0 h0) (S_fm : Sta Z Z.heap "jdk/internal/util/Preconditions" "SIOOBE_FORMATTER" "Ljava/util/function/BiFunction;" G3) (rG3 : G3.isRef = true) :
    MetFree l (⟨"java/lang/StringLatin1", "charAt", "([BI)C"⟩ : MethodName) (head1 (Jvm.Cond.code (⟨"java/lang/StringLatin1", "charAt", "([BI)C"⟩ : MethodName) jdk_43_method_2_code 2 (some .char) :: ws) ({ frames := 2, cells := 0, slots := 0, locals := 30 } : Room)) (fun a U => a = #[(.ref a1), (.int p2)] ∧ Z.Warmed39 U.vm ∧ U.heap = h0) (fun _ _ _ _ _ => True) (fun _ U o U' => ∃ v L, o = .returned v ∧ Q_rl1 Z a1 p2 k1 z1 vs x r G3 h0 n0 v U'.heap L ∧ FrameEnd U o U' L ({ frames := 2, cells := 0, slots := 0, locals := 30 } : Room).cells ({ frames := 2, cells := 0, slots := 0, locals := 30 } : Room).slots) := by
  refine MetFree.of_bodySF (plainFor_of_name pn_8) hisR ?_
  intro p e s m args below meth c s₁ Bd hml0 hP hK
  obtain ⟨rfl, hZ, hh⟩ := hP
  have hx := Bd.exec
  have hby := Bd.bytes
  have hml : c.maxLocals = 2 := hml0
  have hown : s.vm.findClass "java/lang/StringLatin1" = some m.cls := findClass_of_methodNamed Bd.named
  have hnm := (name_of_methodNamed Bd.named Bd.method).1
  have X0 : Stand p l e ({ frames := 2, cells := 0, slots := 0, locals := 30 } : Room) s m #[(.ref a1), (.int p2)] below meth c s₁ [] 0 0 := Stand.of_body Bd
  have e0 : s₁.heap = h0 := by rw [← hh, Bd.state]; rfl
  have N0 := Fr.nil n0
  have pre0 : ∀ t, Steps p.tables e below (s₁.setTop (mkF m 0 #[.val (.ref a1), .val (.int p2)] [])) t → Steps p.tables e below (s₁.setTop (entryFrame m #[(.ref a1), (.int p2)] 2)) t := fun t k => castTop (ef_rl1 m a1 p2) k
  change Go p.tables e below (fun o U' => ∃ v L, o = .returned v ∧ Q_rl1 Z a1 p2 k1 z1 vs x r G3 h0 n0 v U'.heap L ∧ FrameEnd s o U' L ({ frames := 2, cells := 0, slots := 0, locals := 30 } : Room).cells ({ frames := 2, cells := 0, slots := 0, locals := 30 } : Room).slots) (s₁.setTop (entryFrame m #[(.ref a1), (.int p2)] 2))
  refine Go.on pre0 ?_
  refine Go.on (B := s₁.setTop (mkF m 1 #[.val (.ref a1), .val (.int p2)] [(.int p2)])) (fun t k => XS.iloadN X0.here hx rfl (hb hby d13_0) rfl k) ?_
  refine Go.on (B := s₁.setTop (mkF m 2 #[.val (.ref a1), .val (.int p2)] [(.ref a1), (.int p2)])) (fun t k => XS.aloadN X0.here hx rfl (hb hby d13_1) rfl rfl k) ?_
  obtain ⟨cl1, Ar1, -, Sz1, Ng1, -, -⟩ := id V1
  refine Go.on (B := s₁.setTop (mkF m 3 #[.val (.ref a1), .val (.int p2)] [(.int z1), (.int p2)])) (fun t k => X0.arraylength hx (by rw [e0]; exact Ar1.1) (State.isArrayOf_alike hZ.alike Ar1.2.1) (g := (mkF m 2 #[.val (.ref a1), .val (.int p2)] [(.ref a1), (.int p2)])) rfl rfl (hb hby d13_2) _ (by rw [len_of Sz1 Ng1]; exact k)) ?_
  obtain ⟨_, _, ⟨T2, L2, k2, n2⟩, -, X2, ⟨Lc2, hQ2, l2, y2, z2⟩, st2⟩ := Jvm.LawKit.callS X0 hx (y := (⟨"java/lang/String", "checkIndex", "(II)V"⟩ : MethodName)) hown (mvT hZ (hw _ (List.mem_of_getElem? (i := 61) rfl))) (mvT hZ (hw _ (List.mem_of_getElem? (i := 62) rfl))) (mvT hZ (hw _ (List.mem_of_getElem? (i := 9) rfl))) (mvT hZ (hw _ (List.mem_of_getElem? (i := 63) rfl))) (by decide) (backOf (W := 0) (rci l Z a0 hw [] p2 z1 G3 h0 n0 Z0 hi O0 S_fm rG3) hZ (hw _ (List.mem_of_getElem? (i := 63) rfl)) (hw _ (List.mem_of_getElem? (i := 9) rfl)) (by decide) (by decide)) (g := (mkF m 3 #[.val (.ref a1), .val (.int p2)] [(.int z1), (.int p2)])) rfl (by rw [hml]; rfl) (argsL := [(.int p2), (.int z1)]) (rest := []) (lenOf pd_1 rfl) rfl (by show 2 * 0 + _ ≤ _; exact Nat.le_of_eq rfl) (hb hby d13_3) (fun _ _ => ⟨rfl, e0, (by decide : 0 + 0 ≤ _), (by decide : 0 + 0 ≤ _)⟩)
  dsimp only [Pt.U, Pt.locs, Pt.cells, Pt.slots] at X2 l2 y2 z2 st2 hQ2
  subst l2 y2 z2
  obtain ⟨rfl, N2q, e2q⟩ := hQ2
  have N2 := Fr.app N0 N2q
  refine Go.on (B := T2.setTop (mkF m 6 #[.val (.ref a1), .val (.int p2)] [])) (fun t k => st2 _ k) ?_
  refine Go.on (B := T2.setTop (mkF m 7 #[.val (.ref a1), .val (.int p2)] [(.ref a1)])) (fun t k => XS.aloadN X2.here hx rfl (hb hby d13_6) rfl rfl k) ?_
  refine Go.on (B := T2.setTop (mkF m 8 #[.val (.ref a1), .val (.int p2)] [(.int p2), (.ref a1)])) (fun t k => XS.iloadN X2.here hx rfl (hb hby d13_7) rfl k) ?_
  obtain ⟨cl3, Ar3, qq3, Sz3, Ng3, Hh3, Gg3⟩ := id V1
  have hin3 : ¬ (p2 < 0 ∨ cl3.slots.size ≤ (p2).toNatClampNeg) := inb_of Sz3 hi
  have hat3 : cl3.slots[(p2).toNatClampNeg]? = some (.int x) := Hh3.at hin3 hv
  refine Go.on (B := T2.setTop (mkF m 9 #[.val (.ref a1), .val (.int p2)] [(.int x)])) (fun t k => X2.baloadBytes hx (j := p2) (v := (.int x)) (by rw [e2q]; exact Ar3.1) (State.isArrayOf_alike hZ.alike Ar3.2.1) Ar3.2.2 hin3 hat3 (g := (mkF m 8 #[.val (.ref a1), .val (.int p2)] [(.int p2), (.ref a1)])) rfl rfl (hb hby d13_8) _ k) ?_
  refine Go.on (B := T2.setTop (mkF m 12 #[.val (.ref a1), .val (.int p2)] [(.int (255 : Int32)), (.int x)])) (fun t k => XS.sipush X2.here hx rfl (hb hby d13_9) k) ?_
  refine Go.on (B := T2.setTop (mkF m 13 #[.val (.ref a1), .val (.int p2)] [(.int (x &&& (255 : Int32)))])) (fun t k => XS.iand X2.here hx rfl (hb hby d13_12) rfl k) ?_
  refine Go.on (B := T2.setTop (mkF m 14 #[.val (.ref a1), .val (.int p2)] [(.int ((x &&& (255 : Int32)).toUInt32.toUInt16.toUInt32.toInt32))])) (fun t k => XS.i2c X2.here hx rfl (hb hby d13_13) rfl k) ?_
  obtain ⟨fs, hr, hrun, hended, hW, hsame⟩ := X2.leave (v := some (.int (nar .char ((x &&& (255 : Int32)).toUInt32.toUInt16.toUInt32.toInt32)))) (fun h => by rw [Bd.returns] at h; cases h)
  refine ⟨_, _, ?_, hrun, hended, _, _, rfl, ?_, ⟨_, rfl⟩, hW, hsame.mono (by decide) (by decide)⟩
  · exact retN X2 hx (t := .char) Bd.returns (by simp) (hb hby d13_14) hr
  · show Q_rl1 Z a1 p2 k1 z1 vs x r G3 h0 n0 _ T2.heap _
    rw [e2q]
    exact ⟨congrArg (fun z => some (Value.int z)) hrr, N2, rfl⟩
theorem d23_0 : decode jdk_52_method_6_code 0 = .ok (.aload_n 0, 1) := by decide +kernel
theorem d23_1 : decode jdk_52_method_6_code 1 = .ok (.arraylength, 1) := by decide +kernel
theorem d23_2 : decode jdk_52_method_6_code 2 = .ok (.iconst 1, 1) := by decide +kernel
theorem d23_3 : decode jdk_52_method_6_code 3 = .ok (.ishr, 1) := by decide +kernel
theorem d23_4 : decode jdk_52_method_6_code 4 = .ok (.ireturn, 1) := by decide +kernel
theorem pn_10 : plainName "java/lang/StringUTF16" = true := by first | (simp [plainName, overriddenIn]; done) | decide +kernel
theorem ef_rul (m : MethodId) (a1 : Addr) : entryFrame m #[(.ref a1)] 1 = mkF m 0 #[.val (.ref a1)] [] := by first | (simp [entryFrame, mkF, argsToLocals, Value.category]; done) | rfl
def Q_rul (Z : State) (a1 : Addr) (k1 : ClassId) (z1 : Int32) (vs : List Value) (r : Int32) (h0 : Heap) (n0 : Nat) (v : Option Value) (h : Heap) (L : List Loc) : Prop := v = some (.int r) ∧ Fr n0 L ∧ h = h0
set_option maxRecDepth 65536 in
set_option maxHeartbeats 40000000 in
theorem rul (l : Launch) (Z : State) (a0 : Array Value) (hw : ∀ d ∈ tables_1, d.before a0 Z = true) (ws : List Jvm.Cond) (a1 : Addr) (k1 : ClassId) (z1 : Int32) (vs : List Value) (r : Int32) (h0 : Heap) (n0 : Nat) (Z0 : n0 ≤ h0.size) (V1 : Arv Z h0 a1 k1 .byte z1 vs (.int (0 : Int32))) (hrr : (z1 >>> ((1 : Int32) &&& 31)) = r) :
    MetFree l (⟨"java/lang/StringUTF16", "length", "([B)I"⟩ : MethodName) (head1 (Jvm.Cond.code (⟨"java/lang/StringUTF16", "length", "([B)I"⟩ : MethodName) jdk_52_method_6_code 1 (some .int) :: ws) ({ frames := 0, cells := 0, slots := 0, locals := 0 } : Room)) (fun a U => a = #[(.ref a1)] ∧ Z.Warmed39 U.vm ∧ U.heap = h0) (fun _ _ _ _ _ => True) (fun _ U o U' => ∃ v L, o = .returned v ∧ Q_rul Z a1 k1 z1 vs r h0 n0 v U'.heap L ∧ FrameEnd U o U' L ({ frames := 0, cells := 0, slots := 0, locals := 0 } : Room).cells ({ frames := 0, cells := 0, slots := 0, locals := 0 } : Room).slots) := by
  refine MetFree.of_bodySF (plainFor_of_name pn_10) hisR ?_
  intro p e s m args below meth c s₁ Bd hml0 hP hK
  obtain ⟨rfl, hZ, hh⟩ := hP
  have hx := Bd.exec
  have hby := Bd.bytes
  have hml : c.maxLocals = 1 := hml0
  have hown : s.vm.findClass "java/lang/StringUTF16" = some m.cls := findClass_of_methodNamed Bd.named
  have hnm := (name_of_methodNamed Bd.named Bd.method).1
  have X0 : Stand p l e ({ frames := 0, cells := 0, slots := 0, locals := 0 } : Room) s m #[(.ref a1)] below meth c s₁ [] 0 0 := Stand.of_body Bd
  have e0 : s₁.heap = h0 := by rw [← hh, Bd.state]; rfl
  have N0 := Fr.nil n0
  have pre0 : ∀ t, Steps p.tables e below (s₁.setTop (mkF m 0 #[.val (.ref a1)] [])) t → Steps p.tables e below (s₁.setTop (entryFrame m #[(.ref a1)] 1)) t := fun t k => castTop (ef_rul m a1) k
  change Go p.tables e below (fun o U' => ∃ v L, o = .returned v ∧ Q_rul Z a1 k1 z1 vs r h0 n0 v U'.heap L ∧ FrameEnd s o U' L ({ frames := 0, cells := 0, slots := 0, locals := 0 } : Room).cells ({ frames := 0, cells := 0, slots := 0, locals := 0 } : Room).slots) (s₁.setTop (entryFrame m #[(.ref a1)] 1))
  refine Go.on pre0 ?_
  refine Go.on (B := s₁.setTop (mkF m 1 #[.val (.ref a1)] [(.ref a1)])) (fun t k => XS.aloadN X0.here hx rfl (hb hby d23_0) rfl rfl k) ?_
  obtain ⟨cl1, Ar1, -, Sz1, Ng1, -, -⟩ := id V1
  refine Go.on (B := s₁.setTop (mkF m 2 #[.val (.ref a1)] [(.int z1)])) (fun t k => X0.arraylength hx (by rw [e0]; exact Ar1.1) (State.isArrayOf_alike hZ.alike Ar1.2.1) (g := (mkF m 1 #[.val (.ref a1)] [(.ref a1)])) rfl rfl (hb hby d23_1) _ (by rw [len_of Sz1 Ng1]; exact k)) ?_
  refine Go.on (B := s₁.setTop (mkF m 3 #[.val (.ref a1)] [(.int (1 : Int32)), (.int z1)])) (fun t k => XS.iconst X0.here hx rfl (hb hby d23_2) k) ?_
  refine Go.on (B := s₁.setTop (mkF m 4 #[.val (.ref a1)] [(.int (z1 >>> ((1 : Int32) &&& 31)))])) (fun t k => XS.ishr X0.here hx rfl (hb hby d23_3) rfl k) ?_
  obtain ⟨fs, hr, hrun, hended, hW, hsame⟩ := X0.leave (v := some (.int (z1 >>> ((1 : Int32) &&& 31)))) (fun h => by rw [Bd.returns] at h; cases h)
  refine ⟨_, _, ?_, hrun, hended, _, _, rfl, ?_, ⟨_, rfl⟩, hW, hsame.mono (by decide) (by decide)⟩
  · exact retI X0 hx Bd.returns (hb hby d23_4) hr
  · show Q_rul Z a1 k1 z1 vs r h0 n0 _ s₁.heap _
    rw [e0]
    exact ⟨congrArg (fun z => some (Value.int z)) hrr, N0, rfl⟩
theorem d22_0 : decode jdk_52_method_91_code 0 = .ok (.iload_n 0, 1) := by decide +kernel
theorem d22_1 : decode jdk_52_method_91_code 1 = .ok (.aload_n 1, 1) := by decide +kernel
theorem d22_2 : decode jdk_52_method_91_code 2 = .ok (.invokestatic 48, 3) := by decide +kernel
theorem d22_5 : decode jdk_52_method_91_code 5 = .ok (.invokestatic 414, 3) := by decide +kernel
theorem d22_8 : decode jdk_52_method_91_code 8 = .ok (.return_, 1) := by decide +kernel
theorem pd_2 : parseMethodDescriptor "([B)I" = some ⟨[(.array .byte)], some .int⟩ := by decide +kernel
theorem ef_ruc (m : MethodId) (p1 : Int32) (a2 : Addr) : entryFrame m #[(.int p1), (.ref a2)] 2 = mkF m 0 #[.val (.int p1), .val (.ref a2)] [] := by first | (simp [entryFrame, mkF, argsToLocals, Value.category]; done) | rfl
def Q_ruc (Z : State) (p1 : Int32) (a2 : Addr) (k1 : ClassId) (z1 : Int32) (vs : List Value) (z2 : Int32) (G3 : Value) (h0 : Heap) (n0 : Nat) (v : Option Value) (h : Heap) (L : List Loc) : Prop := v = none ∧ Fr n0 L ∧ h = h0
set_option maxRecDepth 65536 in
set_option maxHeartbeats 40000000 in
theorem ruc (l : Launch) (Z : State) (a0 : Array Value) (hw : ∀ d ∈ tables_1, d.before a0 Z = true) (ws : List Jvm.Cond) (p1 : Int32) (a2 : Addr) (k1 : ClassId) (z1 : Int32) (vs : List Value) (z2 : Int32) (G3 : Value) (h0 : Heap) (n0 : Nat) (Z0 : n0 ≤ h0.size) (V2 : Arv Z h0 a2 k1 .byte z1 vs (.int (0 : Int32))) (hz2 : (z1 >>> ((1 : Int32) &&& 31)) = z2) (hi : ¬ p1 < (0 : Int32) ∧ p1 < z2) (O0 : Old Z n0 h0) (S_fm : Sta Z Z.heap "jdk/internal/util/Preconditions" "SIOOBE_FORMATTER" "Ljava/util/function/BiFunction;" G3) (rG3 : G3.isRef = true) :
    MetFree l (⟨"java/lang/StringUTF16", "checkIndex", "(I[B)V"⟩ : MethodName) (head1 (Jvm.Cond.code (⟨"java/lang/StringUTF16", "checkIndex", "(I[B)V"⟩ : MethodName) jdk_52_method_91_code 2 none :: ws) ({ frames := 2, cells := 0, slots := 0, locals := 30 } : Room)) (fun a U => a = #[(.int p1), (.ref a2)] ∧ Z.Warmed39 U.vm ∧ U.heap = h0) (fun _ _ _ _ _ => True) (fun _ U o U' => ∃ v L, o = .returned v ∧ Q_ruc Z p1 a2 k1 z1 vs z2 G3 h0 n0 v U'.heap L ∧ FrameEnd U o U' L ({ frames := 2, cells := 0, slots := 0, locals := 30 } : Room).cells ({ frames := 2, cells := 0, slots := 0, locals := 30 } : Room).slots) := by
  refine MetFree.of_bodySF (plainFor_of_name pn_10) hisR ?_
  intro p e s m args below meth c s₁ Bd hml0 hP hK
  obtain ⟨rfl, hZ, hh⟩ := hP
  have hx := Bd.exec
  have hby := Bd.bytes
  have hml : c.maxLocals = 2 := hml0
  have hown : s.vm.findClass "java/lang/StringUTF16" = some m.cls := findClass_of_methodNamed Bd.named
  have hnm := (name_of_methodNamed Bd.named Bd.method).1
  have X0 : Stand p l e ({ frames := 2, cells := 0, slots := 0, locals := 30 } : Room) s m #[(.int p1), (.ref a2)] below meth c s₁ [] 0 0 := Stand.of_body Bd
  have e0 : s₁.heap = h0 := by rw [← hh, Bd.state]; rfl
  have N0 := Fr.nil n0
  have pre0 : ∀ t, Steps p.tables e below (s₁.setTop (mkF m 0 #[.val (.int p1), .val (.ref a2)] [])) t → Steps p.tables e below (s₁.setTop (entryFrame m #[(.int p1), (.ref a2)] 2)) t := fun t k => castTop (ef_ruc m p1 a2) k
  change Go p.tables e below (fun o U' => ∃ v L, o = .returned v ∧ Q_ruc Z p1 a2 k1 z1 vs z2 G3 h0 n0 v U'.heap L ∧ FrameEnd s o U' L ({ frames := 2, cells := 0, slots := 0, locals := 30 } : Room).cells ({ frames := 2, cells := 0, slots := 0, locals := 30 } : Room).slots) (s₁.setTop (entryFrame m #[(.int p1), (.ref a2)] 2))
  refine Go.on pre0 ?_
  refine Go.on (B := s₁.setTop (mkF m 1 #[.val (.int p1), .val (.ref a2)] [(.int p1)])) (fun t k => XS.iloadN X0.here hx rfl (hb hby d22_0) rfl k) ?_
  refine Go.on (B := s₁.setTop (mkF m 2 #[.val (.int p1), .val (.ref a2)] [(.ref a2), (.int p1)])) (fun t k => XS.aloadN X0.here hx rfl (hb hby d22_1) rfl rfl k) ?_
  obtain ⟨_, _, ⟨T1, L1, k1, n1⟩, -, X1, ⟨Lc1, hQ1, l1, y1, z1⟩, st1⟩ := Jvm.LawKit.callS X0 hx (y := (⟨"java/lang/StringUTF16", "length", "([B)I"⟩ : MethodName)) hown (mvT hZ (hw _ (List.mem_of_getElem? (i := 94) rfl))) (mvT hZ (hw _ (List.mem_of_getElem? (i := 95) rfl))) (mvT hZ (hw _ (List.mem_of_getElem? (i := 23) rfl))) (mvT hZ (hw _ (List.mem_of_getElem? (i := 96) rfl))) (by decide) (backOf (W := 1) (rul l Z a0 hw [] a2 k1 z1 vs z2 h0 n0 Z0 V2 hz2) hZ (hw _ (List.mem_of_getElem? (i := 96) rfl)) (hw _ (List.mem_of_getElem? (i := 23) rfl)) (by decide) (by decide)) (g := (mkF m 2 #[.val (.int p1), .val (.ref a2)] [(.ref a2), (.int p1)])) rfl (by rw [hml]; rfl) (argsL := [(.ref a2)]) (rest := [(.int p1)]) (lenOf pd_2 rfl) rfl (by show 2 * 0 + _ ≤ _; exact Nat.le_of_eq rfl) (hb hby d22_2) (fun _ _ => ⟨rfl, e0, (by decide : 0 + 0 ≤ _), (by decide : 0 + 0 ≤ _)⟩)
  dsimp only [Pt.U, Pt.locs, Pt.cells, Pt.slots] at X1 l1 y1 z1 st1 hQ1
  subst l1 y1 z1
  obtain ⟨rfl, N1q, e1q⟩ := hQ1
  have N1 := Fr.app N0 N1q
  refine Go.on (B := T1.setTop (mkF m 5 #[.val (.int p1), .val (.ref a2)] [(.int z2), (.int p1)])) (fun t k => st1 _ k) ?_
  obtain ⟨_, _, ⟨T2, L2, k2, n2⟩, -, X2, ⟨Lc2, hQ2, l2, y2, z2⟩, st2⟩ := Jvm.LawKit.callS X1 hx (y := (⟨"java/lang/String", "checkIndex", "(II)V"⟩ : MethodName)) hown (mvT hZ (hw _ (List.mem_of_getElem? (i := 97) rfl))) (mvT hZ (hw _ (List.mem_of_getElem? (i := 62) rfl))) (mvT hZ (hw _ (List.mem_of_getElem? (i := 9) rfl))) (mvT hZ (hw _ (List.mem_of_getElem? (i := 63) rfl))) (by decide) (backOf (W := 0) (rci l Z a0 hw [] p1 z2 G3 h0 n0 Z0 hi O0 S_fm rG3) hZ (hw _ (List.mem_of_getElem? (i := 63) rfl)) (hw _ (List.mem_of_getElem? (i := 9) rfl)) (by decide) (by decide)) (g := (mkF m 5 #[.val (.int p1), .val (.ref a2)] [(.int z2), (.int p1)])) rfl (by rw [hml]; rfl) (argsL := [(.int p1), (.int z2)]) (rest := []) (lenOf pd_1 rfl) rfl (by show 2 * 0 + _ ≤ _; exact Nat.le_of_eq rfl) (hb hby d22_5) (fun _ _ => ⟨rfl, e1q, (by decide : 0 + 0 ≤ _), (by decide : 0 + 0 ≤ _)⟩)
  dsimp only [Pt.U, Pt.locs, Pt.cells, Pt.slots] at X2 l2 y2 z2 st2 hQ2
  subst l2 y2 z2
  obtain ⟨rfl, N2q, e2q⟩ := hQ2
  have N2 := Fr.app N1 N2q
  refine Go.on (B := T2.setTop (mkF m 8 #[.val (.int p1), .val (.ref a2)] [])) (fun t k => st2 _ k) ?_
  obtain ⟨fs, hr, hrun, hended, hW, hsame⟩ := X2.leave (v := none) (fun _ => rfl)
  refine ⟨_, _, ?_, hrun, hended, _, _, rfl, ?_, ⟨_, rfl⟩, hW, hsame.mono (by decide) (by decide)⟩
  · exact X2.returnOut hx Bd.returns (hb hby d22_8) hr
  · show Q_ruc Z p1 a2 k1 z1 vs z2 G3 h0 n0 _ T2.heap _
    rw [e2q]
    exact ⟨rfl, N2, rfl⟩
theorem d20_0 : decode jdk_52_method_5_code 0 = .ok (.getstatic 44, 3) := by decide +kernel
theorem d20_3 : decode jdk_52_method_5_code 3 = .ok (.ifCond .ne 25, 3) := by decide +kernel
theorem d20_28 : decode jdk_52_method_5_code 28 = .ok (.iload_n 1, 1) := by decide +kernel
theorem d20_29 : decode jdk_52_method_5_code 29 = .ok (.iconst 1, 1) := by decide +kernel
theorem d20_30 : decode jdk_52_method_5_code 30 = .ok (.ishl, 1) := by decide +kernel
theorem d20_31 : decode jdk_52_method_5_code 31 = .ok (.istore_n 1, 1) := by decide +kernel
theorem d20_32 : decode jdk_52_method_5_code 32 = .ok (.aload_n 0, 1) := by decide +kernel
theorem d20_33 : decode jdk_52_method_5_code 33 = .ok (.iload_n 1, 1) := by decide +kernel
theorem d20_34 : decode jdk_52_method_5_code 34 = .ok (.iinc 1 1, 3) := by decide +kernel
theorem d20_37 : decode jdk_52_method_5_code 37 = .ok (.baload, 1) := by decide +kernel
theorem d20_38 : decode jdk_52_method_5_code 38 = .ok (.sipush 255, 3) := by decide +kernel
theorem d20_41 : decode jdk_52_method_5_code 41 = .ok (.iand, 1) := by decide +kernel
theorem d20_42 : decode jdk_52_method_5_code 42 = .ok (.getstatic 59, 3) := by decide +kernel
theorem d20_45 : decode jdk_52_method_5_code 45 = .ok (.ishl, 1) := by decide +kernel
theorem d20_46 : decode jdk_52_method_5_code 46 = .ok (.aload_n 0, 1) := by decide +kernel
theorem d20_47 : decode jdk_52_method_5_code 47 = .ok (.iload_n 1, 1) := by decide +kernel
theorem d20_48 : decode jdk_52_method_5_code 48 = .ok (.baload, 1) := by decide +kernel
theorem d20_49 : decode jdk_52_method_5_code 49 = .ok (.sipush 255, 3) := by decide +kernel
theorem d20_52 : decode jdk_52_method_5_code 52 = .ok (.iand, 1) := by decide +kernel
theorem d20_53 : decode jdk_52_method_5_code 53 = .ok (.getstatic 63, 3) := by decide +kernel
theorem d20_56 : decode jdk_52_method_5_code 56 = .ok (.ishl, 1) := by decide +kernel
theorem d20_57 : decode jdk_52_method_5_code 57 = .ok (.ior, 1) := by decide +kernel
theorem d20_58 : decode jdk_52_method_5_code 58 = .ok (.i2c, 1) := by decide +kernel
theorem d20_59 : decode jdk_52_method_5_code 59 = .ok (.ireturn, 1) := by decide +kernel
theorem ef_rgc (m : MethodId) (a1 : Addr) (p2 : Int32) : entryFrame m #[(.ref a1), (.int p2)] 2 = mkF m 0 #[.val (.ref a1), .val (.int p2)] [] := by first | (simp [entryFrame, mkF, argsToLocals, Value.category]; done) | rfl
def Q_rgc (Z : State) (a1 : Addr) (p2 : Int32) (k1 : ClassId) (z1 : Int32) (vs : List Value) (x0 x1 r : Int32) (h0 : Heap) (n0 : Nat) (v : Option Value) (h : Heap) (L : List Loc) : Prop := v = some (.int r) ∧ Fr n0 L ∧ h = h0
set_option maxRecDepth 65536 in
set_option maxHeartbeats 40000000 in
theorem rgc (l : Launch) (Z : State) (a0 : Array Value) (hw : ∀ d ∈ tables_1, d.before a0 Z = true) (ws : List Jvm.Cond) (a1 : Addr) (p2 : Int32) (k1 : ClassId) (z1 : Int32) (vs : List Value) (x0 x1 r : Int32) (h0 : Heap) (n0 : Nat) (Z0 : n0 ≤ h0.size) (V1 : Arv Z h0 a1 k1 .byte z1 vs (.int (0 : Int32))) (h0i : ¬ (p2 <<< ((1 : Int32) &&& 31)) < 0 ∧ (p2 <<< ((1 : Int32) &&& 31)) < z1) (h0v : vs.getD ((p2 <<< ((1 : Int32) &&& 31))).toNatClampNeg (.int (0 : Int32)) = .int x0) (h1i : ¬ ((p2 <<< ((1 : Int32) &&& 31)) + (1 : Int32)) < 0 ∧ ((p2 <<< ((1 : Int32) &&& 31)) + (1 : Int32)) < z1) (h1v : vs.getD (((p2 <<< ((1 : Int32) &&& 31)) + (1 : Int32))).toNatClampNeg (.int (0 : Int32)) = .int x1) (hrr : (nar .char ((((x0 &&& (255 : Int32)) <<< ((0 : Int32) &&& 31)) ||| ((x1 &&& (255 : Int32)) <<< ((8 : Int32) &&& 31))).toUInt32.toUInt16.toUInt32.toInt32)) = r) (O0 : Old Z n0 h0) (S_ad : Sta Z Z.heap "java/lang/StringUTF16" "$assertionsDisabled" "Z" (.int (1 : Int32))) (S_hi : Sta Z Z.heap "java/lang/StringUTF16" "HI_BYTE_SHIFT" "I" (.int (0 : Int32))) (S_lo : Sta Z Z.heap "java/lang/StringUTF16" "LO_BYTE_SHIFT" "I" (.int (8 : Int32))) :
    MetFree l (⟨"java/lang/StringUTF16", "getChar", "([BI)C"⟩ : MethodName) (head1 (Jvm.Cond.code (⟨"java/lang/StringUTF16", "getChar", "([BI)C"⟩ : MethodName) jdk_52_method_5_code 2 (some .char) :: ws) ({ frames := 0, cells := 0, slots := 0, locals := 0 } : Room)) (fun a U => a = #[(.ref a1), (.int p2)] ∧ Z.Warmed39 U.vm ∧ U.heap = h0) (fun _ _ _ _ _ => True) (fun _ U o U' => ∃ v L, o = .returned v ∧ Q_rgc Z a1 p2 k1 z1 vs x0 x1 r h0 n0 v U'.heap L ∧ FrameEnd U o U' L ({ frames := 0, cells := 0, slots := 0, locals := 0 } : Room).cells ({ frames := 0, cells := 0, slots := 0, locals := 0 } : Room).slots) := by
  refine MetFree.of_bodySF (plainFor_of_name pn_10) hisR ?_
  intro p e s m args below meth c s₁ Bd hml0 hP hK
  obtain ⟨rfl, hZ, hh⟩ := hP
  have hx := Bd.exec
  have hby := Bd.bytes
  have hml : c.maxLocals = 2 := hml0
  have hown : s.vm.findClass "java/lang/StringUTF16" = some m.cls := findClass_of_methodNamed Bd.named
  have hnm := (name_of_methodNamed Bd.named Bd.method).1
  have X0 : Stand p l e ({ frames := 0, cells := 0, slots := 0, locals := 0 } : Room) s m #[(.ref a1), (.int p2)] below meth c s₁ [] 0 0 := Stand.of_body Bd
  have e0 : s₁.heap = h0 := by rw [← hh, Bd.state]; rfl
  have N0 := Fr.nil n0
  have pre0 : ∀ t, Steps p.tables e below (s₁.setTop (mkF m 0 #[.val (.ref a1), .val (.int p2)] [])) t → Steps p.tables e below (s₁.setTop (entryFrame m #[(.ref a1), (.int p2)] 2)) t := fun t k => castTop (ef_rgc m a1 p2) k
  change Go p.tables e below (fun o U' => ∃ v L, o = .returned v ∧ Q_rgc Z a1 p2 k1 z1 vs x0 x1 r h0 n0 v U'.heap L ∧ FrameEnd s o U' L ({ frames := 0, cells := 0, slots := 0, locals := 0 } : Room).cells ({ frames := 0, cells := 0, slots := 0, locals := 0 } : Room).slots) (s₁.setTop (entryFrame m #[(.ref a1), (.int p2)] 2))
  refine Go.on pre0 ?_
  obtain ⟨T1, X1, e1, st1⟩ := getS2 X0 hx hZ hown (host := "") (Or.inl (hw _ (List.mem_of_getElem? (i := 82) rfl))) Via.refl e0 (S_ad.ext O0.2) (g := (mkF m 0 #[.val (.ref a1), .val (.int p2)] [])) rfl (hb hby d20_0)
  refine Go.on (B := T1.setTop (mkF m 3 #[.val (.ref a1), .val (.int p2)] [(.int (1 : Int32))])) (fun t k => st1 _ k) ?_
  have hc3_2 : ¬ ((1 : Int32) = (0 : Int32)) := by decide
  refine Go.on (B := T1.setTop (mkF m 28 #[.val (.ref a1), .val (.int p2)] [])) (fun t k => XS.ifYes X1.here hx rfl (pc0 := 3) (pc' := 28) rfl (hb hby d20_3) rfl ((if0 _ _).trans (feq hc3_2).2) (by decide) (by decide) k) ?_
  refine Go.on (B := T1.setTop (mkF m 29 #[.val (.ref a1), .val (.int p2)] [(.int p2)])) (fun t k => XS.iloadN X1.here hx rfl (hb hby d20_28) rfl k) ?_
  refine Go.on (B := T1.setTop (mkF m 30 #[.val (.ref a1), .val (.int p2)] [(.int (1 : Int32)), (.int p2)])) (fun t k => XS.iconst X1.here hx rfl (hb hby d20_29) k) ?_
  refine Go.on (B := T1.setTop (mkF m 31 #[.val (.ref a1), .val (.int p2)] [(.int (p2 <<< ((1 : Int32) &&& 31)))])) (fun t k => XS.ishl X1.here hx rfl (hb hby d20_30) rfl k) ?_
  refine Go.on (B := T1.setTop (mkF m 32 #[.val (.ref a1), .val (.int (p2 <<< ((1 : Int32) &&& 31)))] [])) (fun t k => XS.istoreN X1.here hx rfl (hb hby d20_31) rfl (l' := #[.val (.ref a1), .val (.int (p2 <<< ((1 : Int32) &&& 31)))]) rfl k) ?_
  refine Go.on (B := T1.setTop (mkF m 33 #[.val (.ref a1), .val (.int (p2 <<< ((1 : Int32) &&& 31)))] [(.ref a1)])) (fun t k => XS.aloadN X1.here hx rfl (hb hby d20_32) rfl rfl k) ?_
  refine Go.on (B := T1.setTop (mkF m 34 #[.val (.ref a1), .val (.int (p2 <<< ((1 : Int32) &&& 31)))] [(.int (p2 <<< ((1 : Int32) &&& 31))), (.ref a1)])) (fun t k => XS.iloadN X1.here hx rfl (hb hby d20_33) rfl k) ?_
  refine Go.on (B := T1.setTop (mkF m 37 #[.val (.ref a1), .val (.int ((p2 <<< ((1 : Int32) &&& 31)) + (1 : Int32)))] [(.int (p2 <<< ((1 : Int32) &&& 31))), (.ref a1)])) (fun t k => XS.iinc X1.here hx rfl (hb hby d20_34) rfl (l' := #[.val (.ref a1), .val (.int ((p2 <<< ((1 : Int32) &&& 31)) + (1 : Int32)))]) rfl k) ?_
  obtain ⟨cl4, Ar4, qq4, Sz4, Ng4, Hh4, Gg4⟩ := id V1
  have hin4 : ¬ ((p2 <<< ((1 : Int32) &&& 31)) < 0 ∨ cl4.slots.size ≤ ((p2 <<< ((1 : Int32) &&& 31))).toNatClampNeg) := inb_of Sz4 h0i
  have hat4 : cl4.slots[((p2 <<< ((1 : Int32) &&& 31))).toNatClampNeg]? = some (.int x0) := Hh4.at hin4 h0v
  refine Go.on (B := T1.setTop (mkF m 38 #[.val (.ref a1), .val (.int ((p2 <<< ((1 : Int32) &&& 31)) + (1 : Int32)))] [(.int x0)])) (fun t k => X1.baloadBytes hx (j := (p2 <<< ((1 : Int32) &&& 31))) (v := (.int x0)) (by rw [e1]; exact Ar4.1) (State.isArrayOf_alike hZ.alike Ar4.2.1) Ar4.2.2 hin4 hat4 (g := (mkF m 37 #[.val (.ref a1), .val (.int ((p2 <<< ((1 : Int32) &&& 31)) + (1 : Int32)))] [(.int (p2 <<< ((1 : Int32) &&& 31))), (.ref a1)])) rfl rfl (hb hby d20_37) _ k) ?_
  refine Go.on (B := T1.setTop (mkF m 41 #[.val (.ref a1), .val (.int ((p2 <<< ((1 : Int32) &&& 31)) + (1 : Int32)))] [(.int (255 : Int32)), (.int x0)])) (fun t k => XS.sipush X1.here hx rfl (hb hby d20_38) k) ?_
  refine Go.on (B := T1.setTop (mkF m 42 #[.val (.ref a1), .val (.int ((p2 <<< ((1 : Int32) &&& 31)) + (1 : Int32)))] [(.int (x0 &&& (255 : Int32)))])) (fun t k => XS.iand X1.here hx rfl (hb hby d20_41) rfl k) ?_
  obtain ⟨T5, X5, e5, st5⟩ := getS2 X1 hx hZ hown (host := "") (Or.inl (hw _ (List.mem_of_getElem? (i := 83) rfl))) Via.refl e1 (S_hi.ext O0.2) (g := (mkF m 42 #[.val (.ref a1), .val (.int ((p2 <<< ((1 : Int32) &&& 31)) + (1 : Int32)))] [(.int (x0 &&& (255 : Int32)))])) rfl (hb hby d20_42)
  refine Go.on (B := T5.setTop (mkF m 45 #[.val (.ref a1), .val (.int ((p2 <<< ((1 : Int32) &&& 31)) + (1 : Int32)))] [(.int (0 : Int32)), (.int (x0 &&& (255 : Int32)))])) (fun t k => st5 _ k) ?_
  refine Go.on (B := T5.setTop (mkF m 46 #[.val (.ref a1), .val (.int ((p2 <<< ((1 : Int32) &&& 31)) + (1 : Int32)))] [(.int ((x0 &&& (255 : Int32)) <<< ((0 : Int32) &&& 31)))])) (fun t k => XS.ishl X5.here hx rfl (hb hby d20_45) rfl k) ?_
  refine Go.on (B := T5.setTop (mkF m 47 #[.val (.ref a1), .val (.int ((p2 <<< ((1 : Int32) &&& 31)) + (1 : Int32)))] [(.ref a1), (.int ((x0 &&& (255 : Int32)) <<< ((0 : Int32) &&& 31)))])) (fun t k => XS.aloadN X5.here hx rfl (hb hby d20_46) rfl rfl k) ?_
  refine Go.on (B := T5.setTop (mkF m 48 #[.val (.ref a1), .val (.int ((p2 <<< ((1 : Int32) &&& 31)) + (1 : Int32)))] [(.int ((p2 <<< ((1 : Int32) &&& 31)) + (1 : Int32))), (.ref a1), (.int ((x0 &&& (255 : Int32)) <<< ((0 : Int32) &&& 31)))])) (fun t k => XS.iloadN X5.here hx rfl (hb hby d20_47) rfl k) ?_
  obtain ⟨cl6, Ar6, qq6, Sz6, Ng6, Hh6, Gg6⟩ := id V1
  have hin6 : ¬ (((p2 <<< ((1 : Int32) &&& 31)) + (1 : Int32)) < 0 ∨ cl6.slots.size ≤ (((p2 <<< ((1 : Int32) &&& 31)) + (1 : Int32))).toNatClampNeg) := inb_of Sz6 h1i
  have hat6 : cl6.slots[(((p2 <<< ((1 : Int32) &&& 31)) + (1 : Int32))).toNatClampNeg]? = some (.int x1) := Hh6.at hin6 h1v
  refine Go.on (B := T5.setTop (mkF m 49 #[.val (.ref a1), .val (.int ((p2 <<< ((1 : Int32) &&& 31)) + (1 : Int32)))] [(.int x1), (.int ((x0 &&& (255 : Int32)) <<< ((0 : Int32) &&& 31)))])) (fun t k => X5.baloadBytes hx (j := ((p2 <<< ((1 : Int32) &&& 31)) + (1 : Int32))) (v := (.int x1)) (by rw [e5]; exact Ar6.1) (State.isArrayOf_alike hZ.alike Ar6.2.1) Ar6.2.2 hin6 hat6 (g := (mkF m 48 #[.val (.ref a1), .val (.int ((p2 <<< ((1 : Int32) &&& 31)) + (1 : Int32)))] [(.int ((p2 <<< ((1 : Int32) &&& 31)) + (1 : Int32))), (.ref a1), (.int ((x0 &&& (255 : Int32)) <<< ((0 : Int32) &&& 31)))])) rfl rfl (hb hby d20_48) _ k) ?_
  refine Go.on (B := T5.setTop (mkF m 52 #[.val (.ref a1), .val (.int ((p2 <<< ((1 : Int32) &&& 31)) + (1 : Int32)))] [(.int (255 : Int32)), (.int x1), (.int ((x0 &&& (255 : Int32)) <<< ((0 : Int32) &&& 31)))])) (fun t k => XS.sipush X5.here hx rfl (hb hby d20_49) k) ?_
  refine Go.on (B := T5.setTop (mkF m 53 #[.val (.ref a1), .val (.int ((p2 <<< ((1 : Int32) &&& 31)) + (1 : Int32)))] [(.int (x1 &&& (255 : Int32))), (.int ((x0 &&& (255 : Int32)) <<< ((0 : Int32) &&& 31)))])) (fun t k => XS.iand X5.here hx rfl (hb hby d20_52) rfl k) ?_
  obtain ⟨T7, X7, e7, st7⟩ := getS2 X5 hx hZ hown (host := "") (Or.inl (hw _ (List.mem_of_getElem? (i := 84) rfl))) Via.refl e5 (S_lo.ext O0.2) (g := (mkF m 53 #[.val (.ref a1), .val (.int ((p2 <<< ((1 : Int32) &&& 31)) + (1 : Int32)))] [(.int (x1 &&& (255 : Int32))), (.int ((x0 &&& (255 : Int32)) <<< ((0 : Int32) &&& 31)))])) rfl (hb hby d20_53)
  refine Go.on (B := T7.setTop (mkF m 56 #[.val (.ref a1), .val (.int ((p2 <<< ((1 : Int32) &&& 31)) + (1 : Int32)))] [(.int (8 : Int32)), (.int (x1 &&& (255 : Int32))), (.int ((x0 &&& (255 : Int32)) <<< ((0 : Int32) &&& 31)))])) (fun t k => st7 _ k) ?_
  refine Go.on (B := T7.setTop (mkF m 57 #[.val (.ref a1), .val (.int ((p2 <<< ((1 : Int32) &&& 31)) + (1 : Int32)))] [(.int ((x1 &&& (255 : Int32)) <<< ((8 : Int32) &&& 31))), (.int ((x0 &&& (255 : Int32)) <<< ((0 : Int32) &&& 31)))])) (fun t k => XS.ishl X7.here hx rfl (hb hby d20_56) rfl k) ?_
  refine Go.on (B := T7.setTop (mkF m 58 #[.val (.ref a1), .val (.int ((p2 <<< ((1 : Int32) &&& 31)) + (1 : Int32)))] [(.int (((x0 &&& (255 : Int32)) <<< ((0 : Int32) &&& 31)) ||| ((x1 &&& (255 : Int32)) <<< ((8 : Int32) &&& 31))))])) (fun t k => XS.ior X7.here hx rfl (hb hby d20_57) rfl k) ?_
  refine Go.on (B := T7.setTop (mkF m 59 #[.val (.ref a1), .val (.int ((p2 <<< ((1 : Int32) &&& 31)) + (1 : Int32)))] [(.int ((((x0 &&& (255 : Int32)) <<< ((0 : Int32) &&& 31)) ||| ((x1 &&& (255 : Int32)) <<< ((8 : Int32) &&& 31))).toUInt32.toUInt16.toUInt32.toInt32))])) (fun t k => XS.i2c X7.here hx rfl (hb hby d20_58) rfl k) ?_
  obtain ⟨fs, hr, hrun, hended, hW, hsame⟩ := X7.leave (v := some (.int (nar .char ((((x0 &&& (255 : Int32)) <<< ((0 : Int32) &&& 31)) ||| ((x1 &&& (255 : Int32)) <<< ((8 : Int32) &&& 31))).toUInt32.toUInt16.toUInt32.toInt32)))) (fun h => by rw [Bd.returns] at h; cases h)
  refine ⟨_, _, ?_, hrun, hended, _, _, rfl, ?_, ⟨_, rfl⟩, hW, hsame.mono (by decide) (by decide)⟩
  · exact retN X7 hx (t := .char) Bd.returns (by simp) (hb hby d20_59) hr
  · show Q_rgc Z a1 p2 k1 z1 vs x0 x1 r h0 n0 _ T7.heap _
    rw [e7]
    exact ⟨congrArg (fun z => some (Value.int z)) hrr, N0, rfl⟩
theorem d21_0 : decode jdk_52_method_83_code 0 = .ok (.iload_n 1, 1) := by decide +kernel
theorem d21_1 : decode jdk_52_method_83_code 1 = .ok (.aload_n 0, 1) := by decide +kernel
theorem d21_2 : decode jdk_52_method_83_code 2 = .ok (.invokestatic 67, 3) := by decide +kernel
theorem d21_5 : decode jdk_52_method_83_code 5 = .ok (.aload_n 0, 1) := by decide +kernel
theorem d21_6 : decode jdk_52_method_83_code 6 = .ok (.iload_n 1, 1) := by decide +kernel
theorem d21_7 : decode jdk_52_method_83_code 7 = .ok (.invokestatic 71, 3) := by decide +kernel
theorem d21_10 : decode jdk_52_method_83_code 10 = .ok (.ireturn, 1) := by decide +kernel
theorem pd_3 : parseMethodDescriptor "(I[B)V" = some ⟨[.int, (.array .byte)], none⟩ := by decide +kernel
theorem pd_4 : parseMethodDescriptor "([BI)C" = some ⟨[(.array .byte), .int], some .char⟩ := by decide +kernel
theorem ef_rua (m : MethodId) (a1 : Addr) (p2 : Int32) : entryFrame m #[(.ref a1), (.int p2)] 2 = mkF m 0 #[.val (.ref a1), .val (.int p2)] [] := by first | (simp [entryFrame, mkF, argsToLocals, Value.category]; done) | rfl
def Q_rua (Z : State) (a1 : Addr) (p2 : Int32) (k1 : ClassId) (z1 : Int32) (vs : List Value) (z2 x0 x1 r : Int32) (G3 : Value) (h0 : Heap) (n0 : Nat) (v : Option Value) (h : Heap) (L : List Loc) : Prop := v = some (.int (nar .char r)) ∧ Fr n0 L ∧ h = h0
set_option maxRecDepth 65536 in
set_option maxHeartbeats 40000000 in
theorem rua (l : Launch) (Z : State) (a0 : Array Value) (hw : ∀ d ∈ tables_1, d.before a0 Z = true) (ws : List Jvm.Cond) (a1 : Addr) (p2 : Int32) (k1 : ClassId) (z1 : Int32) (vs : List Value) (z2 x0 x1 r : Int32) (G3 : Value) (h0 : Heap) (n0 : Nat) (Z0 : n0 ≤ h0.size) (V1 : Arv Z h0 a1 k1 .byte z1 vs (.int (0 : Int32))) (hz2 : (z1 >>> ((1 : Int32) &&& 31)) = z2) (hi : ¬ p2 < (0 : Int32) ∧ p2 < z2) (h0i : ¬ (p2 <<< ((1 : Int32) &&& 31)) < 0 ∧ (p2 <<< ((1 : Int32) &&& 31)) < z1) (h0v : vs.getD ((p2 <<< ((1 : Int32) &&& 31))).toNatClampNeg (.int (0 : Int32)) = .int x0) (h1i : ¬ ((p2 <<< ((1 : Int32) &&& 31)) + (1 : Int32)) < 0 ∧ ((p2 <<< ((1 : Int32) &&& 31)) + (1 : Int32)) < z1) (h1v : vs.getD (((p2 <<< ((1 : Int32) &&& 31)) + (1 : Int32))).toNatClampNeg (.int (0 : Int32)) = .int x1) (hrr : (nar .char ((((x0 &&& (255 : Int32)) <<< ((0 : Int32) &&& 31)) ||| ((x1 &&& (255 : Int32)) <<< ((8 : Int32) &&& 31))).toUInt32.toUInt16.toUInt32.toInt32)) = r) (O0 : Old Z n0 h0) (S_fm : Sta Z Z.heap "jdk/internal/util/Preconditions" "SIOOBE_FORMATTER" "Ljava/util/function/BiFunction;" G3) (S_ad : Sta Z Z.heap "java/lang/StringUTF16" "$assertionsDisabled" "Z" (.int (1 : Int32))) (S_hi : Sta Z Z.heap "java/lang/StringUTF16" "HI_BYTE_SHIFT" "I" (.int (0 : Int32))) (S_lo : Sta Z Z.heap "java/lang/StringUTF16" "LO_BYTE_SHIFT" "I" (.int (8 : Int32))) (rG3 : G3.isRef = true) :
    MetFree l (⟨"java/lang/StringUTF16", "charAt", "([BI)C"⟩ : MethodName) (head1 (Jvm.Cond.code (⟨"java/lang/StringUTF16", "charAt", "([BI)C"⟩ : MethodName) jdk_52_method_83_code 2 (some .char) :: ws) ({ frames := 3, cells := 0, slots := 0, locals := 46 } : Room)) (fun a U => a = #[(.ref a1), (.int p2)] ∧ Z.Warmed39 U.vm ∧ U.heap = h0) (fun _ _ _ _ _ => True) (fun _ U o U' => ∃ v L, o = .returned v ∧ Q_rua Z a1 p2 k1 z1 vs z2 x0 x1 r G3 h0 n0 v U'.heap L ∧ FrameEnd U o U' L ({ frames := 3, cells := 0, slots := 0, locals := 46 } : Room).cells ({ frames := 3, cells := 0, slots := 0, locals := 46 } : Room).slots) := by
  refine MetFree.of_bodySF (plainFor_of_name pn_10) hisR ?_
  intro p e s m args below meth c s₁ Bd hml0 hP hK
  obtain ⟨rfl, hZ, hh⟩ := hP
  have hx := Bd.exec
  have hby := Bd.bytes
  have hml : c.maxLocals = 2 := hml0
  have hown : s.vm.findClass "java/lang/StringUTF16" = some m.cls := findClass_of_methodNamed Bd.named
  have hnm := (name_of_methodNamed Bd.named Bd.method).1
  have X0 : Stand p l e ({ frames := 3, cells := 0, slots := 0, locals := 46 } : Room) s m #[(.ref a1), (.int p2)] below meth c s₁ [] 0 0 := Stand.of_body Bd
  have e0 : s₁.heap = h0 := by rw [← hh, Bd.state]; rfl
  have N0 := Fr.nil n0
  have pre0 : ∀ t, Steps p.tables e below (s₁.setTop (mkF m 0 #[.val (.ref a1), .val (.int p2)] [])) t → Steps p.tables e below (s₁.setTop (entryFrame m #[(.ref a1), (.int p2)] 2)) t := fun t k => castTop (ef_rua m a1 p2) k
  change Go p.tables e below (fun o U' => ∃ v L, o = .returned v ∧ Q_rua Z a1 p2 k1 z1 vs z2 x0 x1 r G3 h0 n0 v U'.heap L ∧ FrameEnd s o U' L ({ frames := 3, cells := 0, slots := 0, locals := 46 } : Room).cells ({ frames := 3, cells := 0, slots := 0, locals := 46 } : Room).slots) (s₁.setTop (entryFrame m #[(.ref a1), (.int p2)] 2))
  refine Go.on pre0 ?_
  refine Go.on (B := s₁.setTop (mkF m 1 #[.val (.ref a1), .val (.int p2)] [(.int p2)])) (fun t k => XS.iloadN X0.here hx rfl (hb hby d21_0) rfl k) ?_
  refine Go.on (B := s₁.setTop (mkF m 2 #[.val (.ref a1), .val (.int p2)] [(.ref a1), (.int p2)])) (fun t k => XS.aloadN X0.here hx rfl (hb hby d21_1) rfl rfl k) ?_
  obtain ⟨_, _, ⟨T1, L1, k1, n1⟩, -, X1, ⟨Lc1, hQ1, l1, y1, z1⟩, st1⟩ := Jvm.LawKit.callS X0 hx (y := (⟨"java/lang/StringUTF16", "checkIndex", "(I[B)V"⟩ : MethodName)) hown (mvT hZ (hw _ (List.mem_of_getElem? (i := 91) rfl))) (mvT hZ (hw _ (List.mem_of_getElem? (i := 92) rfl))) (mvT hZ (hw _ (List.mem_of_getElem? (i := 23) rfl))) (mvT hZ (hw _ (List.mem_of_getElem? (i := 93) rfl))) (by decide) (backOf (W := 0) (ruc l Z a0 hw [] p2 a1 k1 z1 vs z2 G3 h0 n0 Z0 V1 hz2 hi O0 S_fm rG3) hZ (hw _ (List.mem_of_getElem? (i := 93) rfl)) (hw _ (List.mem_of_getElem? (i := 23) rfl)) (by decide) (by decide)) (g := (mkF m 2 #[.val (.ref a1), .val (.int p2)] [(.ref a1), (.int p2)])) rfl (by rw [hml]; rfl) (argsL := [(.int p2), (.ref a1)]) (rest := []) (lenOf pd_3 rfl) rfl (by show 2 * 0 + _ ≤ _; exact Nat.le_of_eq rfl) (hb hby d21_2) (fun _ _ => ⟨rfl, e0, (by decide : 0 + 0 ≤ _), (by decide : 0 + 0 ≤ _)⟩)
  dsimp only [Pt.U, Pt.locs, Pt.cells, Pt.slots] at X1 l1 y1 z1 st1 hQ1
  subst l1 y1 z1
  obtain ⟨rfl, N1q, e1q⟩ := hQ1
  have N1 := Fr.app N0 N1q
  refine Go.on (B := T1.setTop (mkF m 5 #[.val (.ref a1), .val (.int p2)] [])) (fun t k => st1 _ k) ?_
  refine Go.on (B := T1.setTop (mkF m 6 #[.val (.ref a1), .val (.int p2)] [(.ref a1)])) (fun t k => XS.aloadN X1.here hx rfl (hb hby d21_5) rfl rfl k) ?_
  refine Go.on (B := T1.setTop (mkF m 7 #[.val (.ref a1), .val (.int p2)] [(.int p2), (.ref a1)])) (fun t k => XS.iloadN X1.here hx rfl (hb hby d21_6) rfl k) ?_
  obtain ⟨_, _, ⟨T2, L2, k2, n2⟩, -, X2, ⟨Lc2, hQ2, l2, y2, z2⟩, st2⟩ := Jvm.LawKit.callS X1 hx (y := (⟨"java/lang/StringUTF16", "getChar", "([BI)C"⟩ : MethodName)) hown (mvT hZ (hw _ (List.mem_of_getElem? (i := 85) rfl))) (mvT hZ (hw _ (List.mem_of_getElem? (i := 86) rfl))) (mvT hZ (hw _ (List.mem_of_getElem? (i := 23) rfl))) (mvT hZ (hw _ (List.mem_of_getElem? (i := 87) rfl))) (by decide) (backOf (W := 0) (rgc l Z a0 hw [] a1 p2 k1 z1 vs x0 x1 r h0 n0 Z0 V1 h0i h0v h1i h1v hrr O0 S_ad S_hi S_lo) hZ (hw _ (List.mem_of_getElem? (i := 87) rfl)) (hw _ (List.mem_of_getElem? (i := 23) rfl)) (by decide) (by decide)) (g := (mkF m 7 #[.val (.ref a1), .val (.int p2)] [(.int p2), (.ref a1)])) rfl (by rw [hml]; rfl) (argsL := [(.ref a1), (.int p2)]) (rest := []) (lenOf pd_4 rfl) rfl (by show 2 * 0 + _ ≤ _; exact Nat.le_of_eq rfl) (hb hby d21_7) (fun _ _ => ⟨rfl, e1q, (by decide : 0 + 0 ≤ _), (by decide : 0 + 0 ≤ _)⟩)
  dsimp only [Pt.U, Pt.locs, Pt.cells, Pt.slots] at X2 l2 y2 z2 st2 hQ2
  subst l2 y2 z2
  obtain ⟨rfl, N2q, e2q⟩ := hQ2
  have N2 := Fr.app N1 N2q
  refine Go.on (B := T2.setTop (mkF m 10 #[.val (.ref a1), .val (.int p2)] [(.int r)])) (fun t k => st2 _ k) ?_
  obtain ⟨fs, hr, hrun, hended, hW, hsame⟩ := X2.leave (v := some (.int (nar .char r))) (fun h => by rw [Bd.returns] at h; cases h)
  refine ⟨_, _, ?_, hrun, hended, _, _, rfl, ?_, ⟨_, rfl⟩, hW, hsame.mono (by decide) (by decide)⟩
  · exact retN X2 hx (t := .char) Bd.returns (by simp) (hb hby d21_10) hr
  · show Q_rua Z a1 p2 k1 z1 vs z2 x0 x1 r G3 h0 n0 _ T2.heap _
    rw [e2q]
    exact ⟨rfl, N2, rfl⟩
theorem d12_0 : decode jdk_42_method_154_code 0 = .ok (.getstatic 38, 3) := by decide +kernel
theorem d12_3 : decode jdk_42_method_154_code 3 = .ok (.ifCond .eq 14, 3) := by decide +kernel
theorem d12_6 : decode jdk_42_method_154_code 6 = .ok (.aload_n 0, 1) := by decide +kernel
theorem d12_7 : decode jdk_42_method_154_code 7 = .ok (.getfield 15, 3) := by decide +kernel
theorem d12_10 : decode jdk_42_method_154_code 10 = .ok (.ifCond .ne 7, 3) := by decide +kernel
theorem d12_13 : decode jdk_42_method_154_code 13 = .ok (.iconst 1, 1) := by decide +kernel
theorem d12_14 : decode jdk_42_method_154_code 14 = .ok (.goto 4, 3) := by decide +kernel
theorem d12_17 : decode jdk_42_method_154_code 17 = .ok (.iconst 0, 1) := by decide +kernel
theorem d12_18 : decode jdk_42_method_154_code 18 = .ok (.ireturn, 1) := by decide +kernel
theorem ef_ril0 (m : MethodId) (a1 : Addr) : entryFrame m #[(.ref a1)] 1 = mkF m 0 #[.val (.ref a1)] [] := by first | (simp [entryFrame, mkF, argsToLocals, Value.category]; done) | rfl
def Q_ril0 (Z : State) (a1 : Addr) (G1 : Int32) (h0 : Heap) (n0 : Nat) (v : Option Value) (h : Heap) (L : List Loc) : Prop := v = some (.int (1 : Int32)) ∧ Fr n0 L ∧ h = h0
set_option maxRecDepth 65536 in
set_option maxHeartbeats 40000000 in
theorem ril0 (l : Launch) (Z : State) (a0 : Array Value) (hw : ∀ d ∈ tables_1, d.before a0 Z = true) (ws : List Jvm.Cond) (a1 : Addr) (G1 : Int32) (h0 : Heap) (n0 : Nat) (Z0 : n0 ≤ h0.size) (F_cd : Fld Z h0 a1 "java/lang/String" "coder" "B" (.int (0 : Int32))) (O0 : Old Z n0 h0) (S_cs : Sta Z Z.heap "java/lang/String" "COMPACT_STRINGS" "Z" (.int G1)) (P5 : ¬ (G1 = (0 : Int32))) :
    MetFree l (⟨"java/lang/String", "isLatin1", "()Z"⟩ : MethodName) (head1 (Jvm.Cond.code (⟨"java/lang/String", "isLatin1", "()Z"⟩ : MethodName) jdk_42_method_154_code 1 (some .boolean) :: ws) ({ frames := 0, cells := 0, slots := 0, locals := 0 } : Room)) (fun a U => a = #[(.ref a1)] ∧ Z.Warmed39 U.vm ∧ U.heap = h0) (fun _ _ _ _ _ => True) (fun _ U o U' => ∃ v L, o = .returned v ∧ Q_ril0 Z a1 G1 h0 n0 v U'.heap L ∧ FrameEnd U o U' L ({ frames := 0, cells := 0, slots := 0, locals := 0 } : Room).cells ({ frames := 0, cells := 0, slots := 0, locals := 0 } : Room).slots) := by
  refine MetFree.of_bodySF (plainFor_of_name pn_5) hisR ?_
  intro p e s m args below meth c s₁ Bd hml0 hP hK
  obtain ⟨rfl, hZ, hh⟩ := hP
  have hx := Bd.exec
  have hby := Bd.bytes
  have hml : c.maxLocals = 1 := hml0
  have hown : s.vm.findClass "java/lang/String" = some m.cls := findClass_of_methodNamed Bd.named
  have hnm := (name_of_methodNamed Bd.named Bd.method).1
  have X0 : Stand p l e ({ frames := 0, cells := 0, slots := 0, locals := 0 } : Room) s m #[(.ref a1)] below meth c s₁ [] 0 0 := Stand.of_body Bd
  have e0 : s₁.heap = h0 := by rw [← hh, Bd.state]; rfl
  have N0 := Fr.nil n0
  have pre0 : ∀ t, Steps p.tables e below (s₁.setTop (mkF m 0 #[.val (.ref a1)] [])) t → Steps p.tables e below (s₁.setTop (entryFrame m #[(.ref a1)] 1)) t := fun t k => castTop (ef_ril0 m a1) k
  change Go p.tables e below (fun o U' => ∃ v L, o = .returned v ∧ Q_ril0 Z a1 G1 h0 n0 v U'.heap L ∧ FrameEnd s o U' L ({ frames := 0, cells := 0, slots := 0, locals := 0 } : Room).cells ({ frames := 0, cells := 0, slots := 0, locals := 0 } : Room).slots) (s₁.setTop (entryFrame m #[(.ref a1)] 1))
  refine Go.on pre0 ?_
  obtain ⟨T1, X1, e1, st1⟩ := getS2 X0 hx hZ hown (host := "") (Or.inl (hw _ (List.mem_of_getElem? (i := 20) rfl))) Via.refl e0 (S_cs.ext O0.2) (g := (mkF m 0 #[.val (.ref a1)] [])) rfl (hb hby d12_0)
  refine Go.on (B := T1.setTop (mkF m 3 #[.val (.ref a1)] [(.int G1)])) (fun t k => st1 _ k) ?_
  have hc3_2 : ¬ (G1 = (0 : Int32)) := P5
  refine Go.on (B := T1.setTop (mkF m 6 #[.val (.ref a1)] [])) (fun t k => XS.ifNo X1.here hx rfl (hb hby d12_3) rfl ((if0 _ _).trans (feq hc3_2).1) k) ?_
  refine Go.on (B := T1.setTop (mkF m 7 #[.val (.ref a1)] [(.ref a1)])) (fun t k => XS.aloadN X1.here hx rfl (hb hby d12_6) rfl rfl k) ?_
  obtain ⟨T3, X3, e3, st3⟩ := getF X1 hx hZ hown (host := "") (Or.inl (hw _ (List.mem_of_getElem? (i := 32) rfl))) Via.refl e1 F_cd (g := (mkF m 7 #[.val (.ref a1)] [(.ref a1)])) rfl rfl (hb hby d12_7)
  refine Go.on (B := T3.setTop (mkF m 10 #[.val (.ref a1)] [(.int (0 : Int32))])) (fun t k => st3 _ k) ?_
  have hc10_4 : (0 : Int32) = (0 : Int32) := by decide
  refine Go.on (B := T3.setTop (mkF m 13 #[.val (.ref a1)] [])) (fun t k => XS.ifNo X3.here hx rfl (hb hby d12_10) rfl ((if0 _ _).trans (teq hc10_4).2) k) ?_
  refine Go.on (B := T3.setTop (mkF m 14 #[.val (.ref a1)] [(.int (1 : Int32))])) (fun t k => XS.iconst X3.here hx rfl (hb hby d12_13) k) ?_
  refine Go.on (B := T3.setTop (mkF m 18 #[.val (.ref a1)] [(.int (1 : Int32))])) (fun t k => XS.goto X3.here hx rfl (pc0 := 14) (pc' := 18) rfl (hb hby d12_14) (by decide) (by decide) k) ?_
  obtain ⟨fs, hr, hrun, hended, hW, hsame⟩ := X3.leave (v := some (.int (1 : Int32))) (fun h => by rw [Bd.returns] at h; cases h)
  refine ⟨_, _, ?_, hrun, hended, _, _, rfl, ?_, ⟨_, rfl⟩, hW, hsame.mono (by decide) (by decide)⟩
  · exact retN X3 hx (t := .boolean) Bd.returns (by simp) (hb hby d12_18) hr
  · show Q_ril0 Z a1 G1 h0 n0 _ T3.heap _
    rw [e3]
    exact ⟨rfl, N0, rfl⟩
theorem ef_ril1 (m : MethodId) (a1 : Addr) : entryFrame m #[(.ref a1)] 1 = mkF m 0 #[.val (.ref a1)] [] := by first | (simp [entryFrame, mkF, argsToLocals, Value.category]; done) | rfl
def Q_ril1 (Z : State) (a1 : Addr) (G1 : Int32) (h0 : Heap) (n0 : Nat) (v : Option Value) (h : Heap) (L : List Loc) : Prop := v = some (.int (0 : Int32)) ∧ Fr n0 L ∧ h = h0
set_option maxRecDepth 65536 in
set_option maxHeartbeats 40000000 in
theorem ril1 (l : Launch) (Z : State) (a0 : Array Value) (hw : ∀ d ∈ tables_1, d.before a0 Z = true) (ws : List Jvm.Cond) (a1 : Addr) (G1 : Int32) (h0 : Heap) (n0 : Nat) (Z0 : n0 ≤ h0.size) (F_cd : Fld Z h0 a1 "java/lang/String" "coder" "B" (.int (1 : Int32))) (O0 : Old Z n0 h0) (S_cs : Sta Z Z.heap "java/lang/String" "COMPACT_STRINGS" "Z" (.int G1)) (P5 : ¬ (G1 = (0 : Int32))) :
    MetFree l (⟨"java/lang/String", "isLatin1", "()Z"⟩ : MethodName) (head1 (Jvm.Cond.code (⟨"java/lang/String", "isLatin1", "()Z"⟩ : MethodName) jdk_42_method_154_code 1 (some .boolean) :: ws) ({ frames := 0, cells := 0, slots := 0, locals := 0 } : Room)) (fun a U => a = #[(.ref a1)] ∧ Z.Warmed39 U.vm ∧ U.heap = h0) (fun _ _ _ _ _ => True) (fun _ U o U' => ∃ v L, o = .returned v ∧ Q_ril1 Z a1 G1 h0 n0 v U'.heap L ∧ FrameEnd U o U' L ({ frames := 0, cells := 0, slots := 0, locals := 0 } : Room).cells ({ frames := 0, cells := 0, slots := 0, locals := 0 } : Room).slots) := by
  refine MetFree.of_bodySF (plainFor_of_name pn_5) hisR ?_
  intro p e s m args below meth c s₁ Bd hml0 hP hK
  obtain ⟨rfl, hZ, hh⟩ := hP
  have hx := Bd.exec
  have hby := Bd.bytes
  have hml : c.maxLocals = 1 := hml0
  have hown : s.vm.findClass "java/lang/String" = some m.cls := findClass_of_methodNamed Bd.named
  have hnm := (name_of_methodNamed Bd.named Bd.method).1
  have X0 : Stand p l e ({ frames := 0, cells := 0, slots := 0, locals := 0 } : Room) s m #[(.ref a1)] below meth c s₁ [] 0 0 := Stand.of_body Bd
  have e0 : s₁.heap = h0 := by rw [← hh, Bd.state]; rfl
  have N0 := Fr.nil n0
  have pre0 : ∀ t, Steps p.tables e below (s₁.setTop (mkF m 0 #[.val (.ref a1)] [])) t → Steps p.tables e below (s₁.setTop (entryFrame m #[(.ref a1)] 1)) t := fun t k => castTop (ef_ril1 m a1) k
  change Go p.tables e below (fun o U' => ∃ v L, o = .returned v ∧ Q_ril1 Z a1 G1 h0 n0 v U'.heap L ∧ FrameEnd s o U' L ({ frames := 0, cells := 0, slots := 0, locals := 0 } : Room).cells ({ frames := 0, cells := 0, slots := 0, locals := 0 } : Room).slots) (s₁.setTop (entryFrame m #[(.ref a1)] 1))
  refine Go.on pre0 ?_
  obtain ⟨T1, X1, e1, st1⟩ := getS2 X0 hx hZ hown (host := "") (Or.inl (hw _ (List.mem_of_getElem? (i := 20) rfl))) Via.refl e0 (S_cs.ext O0.2) (g := (mkF m 0 #[.val (.ref a1)] [])) rfl (hb hby d12_0)
  refine Go.on (B := T1.setTop (mkF m 3 #[.val (.ref a1)] [(.int G1)])) (fun t k => st1 _ k) ?_
  have hc3_2 : ¬ (G1 = (0 : Int32)) := P5
  refine Go.on (B := T1.setTop (mkF m 6 #[.val (.ref a1)] [])) (fun t k => XS.ifNo X1.here hx rfl (hb hby d12_3) rfl ((if0 _ _).trans (feq hc3_2).1) k) ?_
  refine Go.on (B := T1.setTop (mkF m 7 #[.val (.ref a1)] [(.ref a1)])) (fun t k => XS.aloadN X1.here hx rfl (hb hby d12_6) rfl rfl k) ?_
  obtain ⟨T3, X3, e3, st3⟩ := getF X1 hx hZ hown (host := "") (Or.inl (hw _ (List.mem_of_getElem? (i := 32) rfl))) Via.refl e1 F_cd (g := (mkF m 7 #[.val (.ref a1)] [(.ref a1)])) rfl rfl (hb hby d12_7)
  refine Go.on (B := T3.setTop (mkF m 10 #[.val (.ref a1)] [(.int (1 : Int32))])) (fun t k => st3 _ k) ?_
  have hc10_4 : ¬ ((1 : Int32) = (0 : Int32)) := by decide
  refine Go.on (B := T3.setTop (mkF m 17 #[.val (.ref a1)] [])) (fun t k => XS.ifYes X3.here hx rfl (pc0 := 10) (pc' := 17) rfl (hb hby d12_10) rfl ((if0 _ _).trans (feq hc10_4).2) (by decide) (by decide) k) ?_
  refine Go.on (B := T3.setTop (mkF m 18 #[.val (.ref a1)] [(.int (0 : Int32))])) (fun t k => XS.iconst X3.here hx rfl (hb hby d12_17) k) ?_
  obtain ⟨fs, hr, hrun, hended, hW, hsame⟩ := X3.leave (v := some (.int (0 : Int32))) (fun h => by rw [Bd.returns] at h; cases h)
  refine ⟨_, _, ?_, hrun, hended, _, _, rfl, ?_, ⟨_, rfl⟩, hW, hsame.mono (by decide) (by decide)⟩
  · exact retN X3 hx (t := .boolean) Bd.returns (by simp) (hb hby d12_18) hr
  · show Q_ril1 Z a1 G1 h0 n0 _ T3.heap _
    rw [e3]
    exact ⟨rfl, N0, rfl⟩
theorem d11_0 : decode jdk_42_method_56_code 0 = .ok (.aload_n 0, 1) := by decide +kernel
theorem d11_1 : decode jdk_42_method_56_code 1 = .ok (.invokevirtual 492, 3) := by decide +kernel
theorem d11_4 : decode jdk_42_method_56_code 4 = .ok (.ifCond .eq 12, 3) := by decide +kernel
theorem d11_7 : decode jdk_42_method_56_code 7 = .ok (.aload_n 0, 1) := by decide +kernel
theorem d11_8 : decode jdk_42_method_56_code 8 = .ok (.getfield 9, 3) := by decide +kernel
theorem d11_11 : decode jdk_42_method_56_code 11 = .ok (.iload_n 1, 1) := by decide +kernel
theorem d11_12 : decode jdk_42_method_56_code 12 = .ok (.invokestatic 495, 3) := by decide +kernel
theorem d11_15 : decode jdk_42_method_56_code 15 = .ok (.ireturn, 1) := by decide +kernel
theorem d11_16 : decode jdk_42_method_56_code 16 = .ok (.aload_n 0, 1) := by decide +kernel
theorem d11_17 : decode jdk_42_method_56_code 17 = .ok (.getfield 9, 3) := by decide +kernel
theorem d11_20 : decode jdk_42_method_56_code 20 = .ok (.iload_n 1, 1) := by decide +kernel
theorem d11_21 : decode jdk_42_method_56_code 21 = .ok (.invokestatic 498, 3) := by decide +kernel
theorem d11_24 : decode jdk_42_method_56_code 24 = .ok (.ireturn, 1) := by decide +kernel
theorem pd_5 : parseMethodDescriptor "()Z" = some ⟨[], some .boolean⟩ := by decide +kernel
theorem ef_rchL (m : MethodId) (a1 : Addr) (p2 : Int32) : entryFrame m #[(.ref a1), (.int p2)] 2 = mkF m 0 #[.val (.ref a1), .val (.int p2)] [] := by first | (simp [entryFrame, mkF, argsToLocals, Value.category]; done) | rfl
def Q_rchL (Z : State) (a1 : Addr) (p2 : Int32) (a3 : Addr) (k1 : ClassId) (z1 : Int32) (vs : List Value) (x r G1 : Int32) (G3 : Value) (h0 : Heap) (n0 : Nat) (v : Option Value) (h : Heap) (L : List Loc) : Prop := v = some (.int r) ∧ Fr n0 L ∧ h = h0
set_option maxRecDepth 65536 in
set_option maxHeartbeats 40000000 in
theorem rchL (l : Launch) (Z : State) (a0 : Array Value) (hw : ∀ d ∈ tables_1, d.before a0 Z = true) (ws : List Jvm.Cond) (a1 : Addr) (p2 : Int32) (a3 : Addr) (k1 : ClassId) (z1 : Int32) (vs : List Value) (x r G1 : Int32) (G3 : Value) (h0 : Heap) (n0 : Nat) (Z0 : n0 ≤ h0.size) (E1 : Exa Z h0 a1 "java/lang/String") (F_cd : Fld Z h0 a1 "java/lang/String" "coder" "B" (.int (0 : Int32))) (F_vl : Fld Z h0 a1 "java/lang/String" "value" "[B" (.ref a3)) (V3 : Arv Z h0 a3 k1 .byte z1 vs (.int (0 : Int32))) (hi : ¬ p2 < (0 : Int32) ∧ p2 < z1) (hv : vs.getD p2.toNatClampNeg (.int (0 : Int32)) = .int x) (hrr : (nar .char ((x &&& (255 : Int32)).toUInt32.toUInt16.toUInt32.toInt32)) = r) (hnr : nar .char r = r) (O0 : Old Z n0 h0) (S_cs : Sta Z Z.heap "java/lang/String" "COMPACT_STRINGS" "Z" (.int G1)) (S_fm : Sta Z Z.heap "jdk/internal/util/Preconditions" "SIOOBE_FORMATTER" "Ljava/util/function/BiFunction;" G3) (P5 : ¬ (G1 = (0 : Int32))) (rG3 : G3.isRef = true) :
    MetFree l (⟨"java/lang/String", "charAt", "(I)C"⟩ : MethodName) (head1 (Jvm.Cond.code (⟨"java/lang/String", "charAt", "(I)C"⟩ : MethodName) jdk_42_method_56_code 2 (some .char) :: ws) ({ frames := 3, cells := 0, slots := 0, locals := 46 } : Room)) (fun a U => a = #[(.ref a1), (.int p2)] ∧ Z.Warmed39 U.vm ∧ U.heap = h0) (fun _ _ _ _ _ => True) (fun _ U o U' => ∃ v L, o = .returned v ∧ Q_rchL Z a1 p2 a3 k1 z1 vs x r G1 G3 h0 n0 v U'.heap L ∧ FrameEnd U o U' L ({ frames := 3, cells := 0, slots := 0, locals := 46 } : Room).cells ({ frames := 3, cells := 0, slots := 0, locals := 46 } : Room).slots) := by
  refine MetFree.of_bodySF (plainFor_of_name pn_5) hisR ?_
  intro p e s m args below meth c s₁ Bd hml0 hP hK
  obtain ⟨rfl, hZ, hh⟩ := hP
  have hx := Bd.exec
  have hby := Bd.bytes
  have hml : c.maxLocals = 2 := hml0
  have hown : s.vm.findClass "java/lang/String" = some m.cls := findClass_of_methodNamed Bd.named
  have hnm := (name_of_methodNamed Bd.named Bd.method).1
  have X0 : Stand p l e ({ frames := 3, cells := 0, slots := 0, locals := 46 } : Room) s m #[(.ref a1), (.int p2)] below meth c s₁ [] 0 0 := Stand.of_body Bd
  have e0 : s₁.heap = h0 := by rw [← hh, Bd.state]; rfl
  have N0 := Fr.nil n0
  have pre0 : ∀ t, Steps p.tables e below (s₁.setTop (mkF m 0 #[.val (.ref a1), .val (.int p2)] [])) t → Steps p.tables e below (s₁.setTop (entryFrame m #[(.ref a1), (.int p2)] 2)) t := fun t k => castTop (ef_rchL m a1 p2) k
  change Go p.tables e below (fun o U' => ∃ v L, o = .returned v ∧ Q_rchL Z a1 p2 a3 k1 z1 vs x r G1 G3 h0 n0 v U'.heap L ∧ FrameEnd s o U' L ({ frames := 3, cells := 0, slots := 0, locals := 46 } : Room).cells ({ frames := 3, cells := 0, slots := 0, locals := 46 } : Room).slots) (s₁.setTop (entryFrame m #[(.ref a1), (.int p2)] 2))
  refine Go.on pre0 ?_
  refine Go.on (B := s₁.setTop (mkF m 1 #[.val (.ref a1), .val (.int p2)] [(.ref a1)])) (fun t k => XS.aloadN X0.here hx rfl (hb hby d11_0) rfl rfl k) ?_
  obtain ⟨cq1, kq1, q1a, q1b, q1c⟩ := isOf hZ e0 E1
  obtain ⟨_, _, ⟨T1, L1, k1, n1⟩, -, X1, ⟨Lc1, hQ1, l1, y1, z1⟩, st1⟩ := X0.virtualBack hx (y := (⟨"java/lang/String", "isLatin1", "()Z"⟩ : MethodName)) (z := (⟨"java/lang/String", "isLatin1", "()Z"⟩ : MethodName)) hown (mvT hZ (hw _ (List.mem_of_getElem? (i := 52) rfl))) (mvT hZ (hw _ (List.mem_of_getElem? (i := 53) rfl))) (notFace_of_selects (args := #[]) (mvT hZ (hw _ (List.mem_of_getElem? (i := 55) rfl)))) (mvT hZ (hw _ (List.mem_of_getElem? (i := 55) rfl))) (mvT hZ (hw _ (List.mem_of_getElem? (i := 54) rfl))) (by decide) (backOf (W := 0) (ril0 l Z a0 hw [] a1 G1 h0 n0 Z0 F_cd O0 S_cs P5) hZ (hw _ (List.mem_of_getElem? (i := 56) rfl)) (hw _ (List.mem_of_getElem? (i := 9) rfl)) (by decide) (by decide)) q1a q1c (g := (mkF m 1 #[.val (.ref a1), .val (.int p2)] [(.ref a1)])) rfl (by rw [hml]; rfl) (Steps.refl _) (argsL := []) (rest := []) (lenOf pd_5 rfl) rfl (by show 2 * 0 + _ ≤ _; exact Nat.le_of_eq rfl) (hb hby d11_1) (fun _ _ => ⟨rfl, e0, (by decide : 0 + 0 ≤ _), (by decide : 0 + 0 ≤ _)⟩)
  dsimp only [Pt.U, Pt.locs, Pt.cells, Pt.slots] at X1 l1 y1 z1 st1 hQ1
  subst l1 y1 z1
  obtain ⟨rfl, N1q, e1q⟩ := hQ1
  have N1 := Fr.app N0 N1q
  refine Go.on (B := T1.setTop (mkF m 4 #[.val (.ref a1), .val (.int p2)] [(.int (1 : Int32))])) (fun t k => st1.trans k) ?_
  have hc4_2 : ¬ ((1 : Int32) = (0 : Int32)) := by decide
  refine Go.on (B := T1.setTop (mkF m 7 #[.val (.ref a1), .val (.int p2)] [])) (fun t k => XS.ifNo X1.here hx rfl (hb hby d11_4) rfl ((if0 _ _).trans (feq hc4_2).1) k) ?_
  refine Go.on (B := T1.setTop (mkF m 8 #[.val (.ref a1), .val (.int p2)] [(.ref a1)])) (fun t k => XS.aloadN X1.here hx rfl (hb hby d11_7) rfl rfl k) ?_
  obtain ⟨T3, X3, e3, st3⟩ := getF X1 hx hZ hown (host := "") (Or.inl (hw _ (List.mem_of_getElem? (i := 34) rfl))) Via.refl e1q F_vl (g := (mkF m 8 #[.val (.ref a1), .val (.int p2)] [(.ref a1)])) rfl rfl (hb hby d11_8)
  refine Go.on (B := T3.setTop (mkF m 11 #[.val (.ref a1), .val (.int p2)] [(.ref a3)])) (fun t k => st3 _ k) ?_
  refine Go.on (B := T3.setTop (mkF m 12 #[.val (.ref a1), .val (.int p2)] [(.int p2), (.ref a3)])) (fun t k => XS.iloadN X3.here hx rfl (hb hby d11_11) rfl k) ?_
  obtain ⟨_, _, ⟨T4, L4, k4, n4⟩, -, X4, ⟨Lc4, hQ4, l4, y4, z4⟩, st4⟩ := Jvm.LawKit.callS X3 hx (y := (⟨"java/lang/StringLatin1", "charAt", "([BI)C"⟩ : MethodName)) hown (mvT hZ (hw _ (List.mem_of_getElem? (i := 57) rfl))) (mvT hZ (hw _ (List.mem_of_getElem? (i := 58) rfl))) (mvT hZ (hw _ (List.mem_of_getElem? (i := 59) rfl))) (mvT hZ (hw _ (List.mem_of_getElem? (i := 60) rfl))) (by decide) (backOf (W := 0) (rl1 l Z a0 hw [] a3 p2 k1 z1 vs x r G3 h0 n0 Z0 V3 hi hv hrr O0 S_fm rG3) hZ (hw _ (List.mem_of_getElem? (i := 60) rfl)) (hw _ (List.mem_of_getElem? (i := 59) rfl)) (by decide) (by decide)) (g := (mkF m 12 #[.val (.ref a1), .val (.int p2)] [(.int p2), (.ref a3)])) rfl (by rw [hml]; rfl) (argsL := [(.ref a3), (.int p2)]) (rest := []) (lenOf pd_4 rfl) rfl (by show 2 * 0 + _ ≤ _; exact Nat.le_of_eq rfl) (hb hby d11_12) (fun _ _ => ⟨rfl, e3, (by decide : 0 + 0 ≤ _), (by decide : 0 + 0 ≤ _)⟩)
  dsimp only [Pt.U, Pt.locs, Pt.cells, Pt.slots] at X4 l4 y4 z4 st4 hQ4
  subst l4 y4 z4
  obtain ⟨rfl, N4q, e4q⟩ := hQ4
  have N4 := Fr.app N1 N4q
  refine Go.on (B := T4.setTop (mkF m 15 #[.val (.ref a1), .val (.int p2)] [(.int r)])) (fun t k => st4 _ k) ?_
  obtain ⟨fs, hr, hrun, hended, hW, hsame⟩ := X4.leave (v := some (.int (nar .char r))) (fun h => by rw [Bd.returns] at h; cases h)
  refine ⟨_, _, ?_, hrun, hended, _, _, rfl, ?_, ⟨_, rfl⟩, hW, hsame.mono (by decide) (by decide)⟩
  · exact retN X4 hx (t := .char) Bd.returns (by simp) (hb hby d11_15) hr
  · show Q_rchL Z a1 p2 a3 k1 z1 vs x r G1 G3 h0 n0 _ T4.heap _
    rw [e4q]
    exact ⟨congrArg (fun z => some (Value.int z)) hnr, N4, rfl⟩

theorem ef_rchU (m : MethodId) (a1 : Addr) (p2 : Int32) : entryFrame m #[(.ref a1), (.int p2)] 2 = mkF m 0 #[.val (.ref a1), .val (.int p2)] [] := by first | (simp [entryFrame, mkF, argsToLocals, Value.category]; done) | rfl
def Q_rchU (Z : State) (a1 : Addr) (p2 : Int32) (a3 : Addr) (k1 : ClassId) (z1 : Int32) (vs : List Value) (z2 x0 x1 r G1 : Int32) (G3 : Value) (h0 : Heap) (n0 : Nat) (v : Option Value) (h : Heap) (L : List Loc) : Prop := v = some (.int r) ∧ Fr n0 L ∧ h = h0
set_option maxRecDepth 65536 in
set_option maxHeartbeats 40000000 in
theorem rchU (l : Launch) (Z : State) (a0 : Array Value) (hw : ∀ d ∈ tables_1, d.before a0 Z = true) (ws : List Jvm.Cond) (a1 : Addr) (p2 : Int32) (a3 : Addr) (k1 : ClassId) (z1 : Int32) (vs : List Value) (z2 x0 x1 r G1 : Int32) (G3 : Value) (h0 : Heap) (n0 : Nat) (Z0 : n0 ≤ h0.size) (E1 : Exa Z h0 a1 "java/lang/String") (F_cd : Fld Z h0 a1 "java/lang/String" "coder" "B" (.int (1 : Int32))) (F_vl : Fld Z h0 a1 "java/lang/String" "value" "[B" (.ref a3)) (V3 : Arv Z h0 a3 k1 .byte z1 vs (.int (0 : Int32))) (hz2 : (z1 >>> ((1 : Int32) &&& 31)) = z2) (hi : ¬ p2 < (0 : Int32) ∧ p2 < z2) (h0i : ¬ (p2 <<< ((1 : Int32) &&& 31)) < 0 ∧ (p2 <<< ((1 : Int32) &&& 31)) < z1) (h0v : vs.getD ((p2 <<< ((1 : Int32) &&& 31))).toNatClampNeg (.int (0 : Int32)) = .int x0) (h1i : ¬ ((p2 <<< ((1 : Int32) &&& 31)) + (1 : Int32)) < 0 ∧ ((p2 <<< ((1 : Int32) &&& 31)) + (1 : Int32)) < z1) (h1v : vs.getD (((p2 <<< ((1 : Int32) &&& 31)) + (1 : Int32))).toNatClampNeg (.int (0 : Int32)) = .int x1) (hrr : (nar .char ((((x0 &&& (255 : Int32)) <<< ((0 : Int32) &&& 31)) ||| ((x1 &&& (255 : Int32)) <<< ((8 : Int32) &&& 31))).toUInt32.toUInt16.toUInt32.toInt32)) = r) (hnr : nar .char r = r) (O0 : Old Z n0 h0) (S_cs : Sta Z Z.heap "java/lang/String" "COMPACT_STRINGS" "Z" (.int G1)) (S_fm : Sta Z Z.heap "jdk/internal/util/Preconditions" "SIOOBE_FORMATTER" "Ljava/util/function/BiFunction;" G3) (S_ad : Sta Z Z.heap "java/lang/StringUTF16" "$assertionsDisabled" "Z" (.int (1 : Int32))) (S_hi : Sta Z Z.heap "java/lang/StringUTF16" "HI_BYTE_SHIFT" "I" (.int (0 : Int32))) (S_lo : Sta Z Z.heap "java/lang/StringUTF16" "LO_BYTE_SHIFT" "I" (.int (8 : Int32))) (P5 : ¬ (G1 = (0 : Int32))) (rG3 : G3.isRef = true) :
    MetFree l (⟨"java/lang/String", "charAt", "(I)C"⟩ : MethodName) (head1 (Jvm.Cond.code (⟨"java/lang/String", "charAt", "(I)C"⟩ : MethodName) jdk_42_method_56_code 2 (some .char) :: ws) ({ frames := 4, cells := 0, slots := 0, locals := 62 } : Room)) (fun a U => a = #[(.ref a1), (.int p2)] ∧ Z.Warmed39 U.vm ∧ U.heap = h0) (fun _ _ _ _ _ => True) (fun _ U o U' => ∃ v L, o = .returned v ∧ Q_rchU Z a1 p2 a3 k1 z1 vs z2 x0 x1 r G1 G3 h0 n0 v U'.heap L ∧ FrameEnd U o U' L ({ frames := 4, cells := 0, slots := 0, locals := 62 } : Room).cells ({ frames := 4, cells := 0, slots := 0, locals := 62 } : Room).slots) := by
  refine MetFree.of_bodySF (plainFor_of_name pn_5) hisR ?_
  intro p e s m args below meth c s₁ Bd hml0 hP hK
  obtain ⟨rfl, hZ, hh⟩ := hP
  have hx := Bd.exec
  have hby := Bd.bytes
  have hml : c.maxLocals = 2 := hml0
  have hown : s.vm.findClass "java/lang/String" = some m.cls := findClass_of_methodNamed Bd.named
  have hnm := (name_of_methodNamed Bd.named Bd.method).1
  have X0 : Stand p l e ({ frames := 4, cells := 0, slots := 0, locals := 62 } : Room) s m #[(.ref a1), (.int p2)] below meth c s₁ [] 0 0 := Stand.of_body Bd
  have e0 : s₁.heap = h0 := by rw [← hh, Bd.state]; rfl
  have N0 := Fr.nil n0
  have pre0 : ∀ t, Steps p.tables e below (s₁.setTop (mkF m 0 #[.val (.ref a1), .val (.int p2)] [])) t → Steps p.tables e below (s₁.setTop (entryFrame m #[(.ref a1), (.int p2)] 2)) t := fun t k => castTop (ef_rchU m a1 p2) k
  change Go p.tables e below (fun o U' => ∃ v L, o = .returned v ∧ Q_rchU Z a1 p2 a3 k1 z1 vs z2 x0 x1 r G1 G3 h0 n0 v U'.heap L ∧ FrameEnd s o U' L ({ frames := 4, cells := 0, slots := 0, locals := 62 } : Room).cells ({ frames := 4, cells := 0, slots := 0, locals := 62 } : Room).slots) (s₁.setTop (entryFrame m #[(.ref a1), (.int p2)] 2))
  refine Go.on pre0 ?_
  refine Go.on (B := s₁.setTop (mkF m 1 #[.val (.ref a1), .val (.int p2)] [(.ref a1)])) (fun t k => XS.aloadN X0.here hx rfl (hb hby d11_0) rfl rfl k) ?_
  obtain ⟨cq1, kq1, q1a, q1b, q1c⟩ := isOf hZ e0 E1
  obtain ⟨_, _, ⟨T1, L1, k1, n1⟩, -, X1, ⟨Lc1, hQ1, l1, y1, z1⟩, st1⟩ := X0.virtualBack hx (y := (⟨"java/lang/String", "isLatin1", "()Z"⟩ : MethodName)) (z := (⟨"java/lang/String", "isLatin1", "()Z"⟩ : MethodName)) hown (mvT hZ (hw _ (List.mem_of_getElem? (i := 52) rfl))) (mvT hZ (hw _ (List.mem_of_getElem? (i := 53) rfl))) (notFace_of_selects (args := #[]) (mvT hZ (hw _ (List.mem_of_getElem? (i := 55) rfl)))) (mvT hZ (hw _ (List.mem_of_getElem? (i := 55) rfl))) (mvT hZ (hw _ (List.mem_of_getElem? (i := 54) rfl))) (by decide) (backOf (W := 0) (ril1 l Z a0 hw [] a1 G1 h0 n0 Z0 F_cd O0 S_cs P5) hZ (hw _ (List.mem_of_getElem? (i := 56) rfl)) (hw _ (List.mem_of_getElem? (i := 9) rfl)) (by decide) (by decide)) q1a q1c (g := (mkF m 1 #[.val (.ref a1), .val (.int p2)] [(.ref a1)])) rfl (by rw [hml]; rfl) (Steps.refl _) (argsL := []) (rest := []) (lenOf pd_5 rfl) rfl (by show 2 * 0 + _ ≤ _; exact Nat.le_of_eq rfl) (hb hby d11_1) (fun _ _ => ⟨rfl, e0, (by decide : 0 + 0 ≤ _), (by decide : 0 + 0 ≤ _)⟩)
  dsimp only [Pt.U, Pt.locs, Pt.cells, Pt.slots] at X1 l1 y1 z1 st1 hQ1
  subst l1 y1 z1
  obtain ⟨rfl, N1q, e1q⟩ := hQ1
  have N1 := Fr.app N0 N1q
  refine Go.on (B := T1.setTop (mkF m 4 #[.val (.ref a1), .val (.int p2)] [(.int (0 : Int32))])) (fun t k => st1.trans k) ?_
  have hc4_2 : (0 : Int32) = (0 : Int32) := by decide
  refine Go.on (B := T1.setTop (mkF m 16 #[.val (.ref a1), .val (.int p2)] [])) (fun t k => XS.ifYes X1.here hx rfl (pc0 := 4) (pc' := 16) rfl (hb hby d11_4) rfl ((if0 _ _).trans (teq hc4_2).1) (by decide) (by decide) k) ?_
  refine Go.on (B := T1.setTop (mkF m 17 #[.val (.ref a1), .val (.int p2)] [(.ref a1)])) (fun t k => XS.aloadN X1.here hx rfl (hb hby d11_16) rfl rfl k) ?_
  obtain ⟨T3, X3, e3, st3⟩ := getF X1 hx hZ hown (host := "") (Or.inl (hw _ (List.mem_of_getElem? (i := 34) rfl))) Via.refl e1q F_vl (g := (mkF m 17 #[.val (.ref a1), .val (.int p2)] [(.ref a1)])) rfl rfl (hb hby d11_17)
  refine Go.on (B := T3.setTop (mkF m 20 #[.val (.ref a1), .val (.int p2)] [(.ref a3)])) (fun t k => st3 _ k) ?_
  refine Go.on (B := T3.setTop (mkF m 21 #[.val (.ref a1), .val (.int p2)] [(.int p2), (.ref a3)])) (fun t k => XS.iloadN X3.here hx rfl (hb hby d11_20) rfl k) ?_
  obtain ⟨_, _, ⟨T4, L4, k4, n4⟩, -, X4, ⟨Lc4, hQ4, l4, y4, z4⟩, st4⟩ := Jvm.LawKit.callS X3 hx (y := (⟨"java/lang/StringUTF16", "charAt", "([BI)C"⟩ : MethodName)) hown (mvT hZ (hw _ (List.mem_of_getElem? (i := 88) rfl))) (mvT hZ (hw _ (List.mem_of_getElem? (i := 89) rfl))) (mvT hZ (hw _ (List.mem_of_getElem? (i := 23) rfl))) (mvT hZ (hw _ (List.mem_of_getElem? (i := 90) rfl))) (by decide) (backOf (W := 0) (rua l Z a0 hw [] a3 p2 k1 z1 vs z2 x0 x1 r G3 h0 n0 Z0 V3 hz2 hi h0i h0v h1i h1v hrr O0 S_fm S_ad S_hi S_lo rG3) hZ (hw _ (List.mem_of_getElem? (i := 90) rfl)) (hw _ (List.mem_of_getElem? (i := 23) rfl)) (by decide) (by decide)) (g := (mkF m 21 #[.val (.ref a1), .val (.int p2)] [(.int p2), (.ref a3)])) rfl (by rw [hml]; rfl) (argsL := [(.ref a3), (.int p2)]) (rest := []) (lenOf pd_4 rfl) rfl (by show 2 * 0 + _ ≤ _; exact Nat.le_of_eq rfl) (hb hby d11_21) (fun _ _ => ⟨rfl, e3, (by decide : 0 + 0 ≤ _), (by decide : 0 + 0 ≤ _)⟩)
  dsimp only [Pt.U, Pt.locs, Pt.cells, Pt.slots] at X4 l4 y4 z4 st4 hQ4
  subst l4 y4 z4
  obtain ⟨rfl, N4q, e4q⟩ := hQ4
  have N4 := Fr.app N1 N4q
  refine Go.on (B := T4.setTop (mkF m 24 #[.val (.ref a1), .val (.int p2)] [(.int (nar .char r))])) (fun t k => st4 _ k) ?_
  obtain ⟨fs, hr, hrun, hended, hW, hsame⟩ := X4.leave (v := some (.int (nar .char (nar .char r)))) (fun h => by rw [Bd.returns] at h; cases h)
  refine ⟨_, _, ?_, hrun, hended, _, _, rfl, ?_, ⟨_, rfl⟩, hW, hsame.mono (by decide) (by decide)⟩
  · exact retN X4 hx (t := .char) Bd.returns (by simp) (hb hby d11_24) hr
  · show Q_rchU Z a1 p2 a3 k1 z1 vs z2 x0 x1 r G1 G3 h0 n0 _ T4.heap _
    rw [e4q]
    exact ⟨(by rw [hnr, hnr]), N4, rfl⟩

theorem d18_0 : decode jdk_52_method_3_code 0 = .ok (.iload_n 0, 1) := by decide +kernel
theorem d18_1 : decode jdk_52_method_3_code 1 = .ok (.ifCond .ge 11, 3) := by decide +kernel
theorem d18_12 : decode jdk_52_method_3_code 12 = .ok (.iload_n 0, 1) := by decide +kernel
theorem d18_13 : decode jdk_52_method_3_code 13 = .ok (.ldc 20, 2) := by decide +kernel
theorem d18_15 : decode jdk_52_method_3_code 15 = .ok (.if_icmp .lt 40, 3) := by decide +kernel
theorem d18_55 : decode jdk_52_method_3_code 55 = .ok (.iload_n 0, 1) := by decide +kernel
theorem d18_56 : decode jdk_52_method_3_code 56 = .ok (.iconst 1, 1) := by decide +kernel
theorem d18_57 : decode jdk_52_method_3_code 57 = .ok (.ishl, 1) := by decide +kernel
theorem d18_58 : decode jdk_52_method_3_code 58 = .ok (.ireturn, 1) := by decide +kernel
theorem ef_rnl_4 (m : MethodId)  : entryFrame m #[(.int (4 : Int32))] 1 = mkF m 0 #[.val (.int (4 : Int32))] [] := by first | (simp [entryFrame, mkF, argsToLocals, Value.category]; done) | rfl
def Q_rnl_4 (Z : State)  (h0 : Heap) (n0 : Nat) (v : Option Value) (h : Heap) (L : List Loc) : Prop := v = some (.int (8 : Int32)) ∧ Fr n0 L ∧ h = h0
set_option maxRecDepth 65536 in
set_option maxHeartbeats 40000000 in
theorem rnl_4 (l : Launch) (Z : State) (a0 : Array Value) (hw : ∀ d ∈ tables_1, d.before a0 Z = true) (ws : List Jvm.Cond)  (h0 : Heap) (n0 : Nat) (Z0 : n0 ≤ h0.size)  :
    MetFree l (⟨"java/lang/StringUTF16", "newBytesLength", "(I)I"⟩ : MethodName) (head1 (Jvm.Cond.code (⟨"java/lang/StringUTF16", "newBytesLength", "(I)I"⟩ : MethodName) jdk_52_method_3_code 1 (some .int) :: ws) ({ frames := 0, cells := 0, slots := 0, locals := 0 } : Room)) (fun a U => a = #[(.int (4 : Int32))] ∧ Z.Warmed39 U.vm ∧ U.heap = h0) (fun _ _ _ _ _ => True) (fun _ U o U' => ∃ v L, o = .returned v ∧ Q_rnl_4 Z  h0 n0 v U'.heap L ∧ FrameEnd U o U' L ({ frames := 0, cells := 0, slots := 0, locals := 0 } : Room).cells ({ frames := 0, cells := 0, slots := 0, locals := 0 } : Room).slots) := by
  refine MetFree.of_bodySF (plainFor_of_name pn_10) hisR ?_
  intro p e s m args below meth c s₁ Bd hml0 hP hK
  obtain ⟨rfl, hZ, hh⟩ := hP
  have hx := Bd.exec
  have hby := Bd.bytes
  have hml : c.maxLocals = 1 := hml0
  have hown : s.vm.findClass "java/lang/StringUTF16" = some m.cls := findClass_of_methodNamed Bd.named
  have hnm := (name_of_methodNamed Bd.named Bd.method).1
  have X0 : Stand p l e ({ frames := 0, cells := 0, slots := 0, locals := 0 } : Room) s m #[(.int (4 : Int32))] below meth c s₁ [] 0 0 := Stand.of_body Bd
  have e0 : s₁.heap = h0 := by rw [← hh, Bd.state]; rfl
  have N0 := Fr.nil n0
  have pre0 : ∀ t, Steps p.tables e below (s₁.setTop (mkF m 0 #[.val (.int (4 : Int32))] [])) t → Steps p.tables e below (s₁.setTop (entryFrame m #[(.int (4 : Int32))] 1)) t := fun t k => castTop (ef_rnl_4 m ) k
  change Go p.tables e below (fun o U' => ∃ v L, o = .returned v ∧ Q_rnl_4 Z  h0 n0 v U'.heap L ∧ FrameEnd s o U' L ({ frames := 0, cells := 0, slots := 0, locals := 0 } : Room).cells ({ frames := 0, cells := 0, slots := 0, locals := 0 } : Room).slots) (s₁.setTop (entryFrame m #[(.int (4 : Int32))] 1))
  refine Go.on pre0 ?_
  refine Go.on (B := s₁.setTop (mkF m 1 #[.val (.int (4 : Int32))] [(.int (4 : Int32))])) (fun t k => XS.iloadN X0.here hx rfl (hb hby d18_0) rfl k) ?_
  have hc1_1 : ¬ ((4 : Int32) < (0 : Int32)) := by decide
  refine Go.on (B := s₁.setTop (mkF m 12 #[.val (.int (4 : Int32))] [])) (fun t k => XS.ifYes X0.here hx rfl (pc0 := 1) (pc' := 12) rfl (hb hby d18_1) rfl ((if0 _ _).trans (flt hc1_1).2.1) (by decide) (by decide) k) ?_
  refine Go.on (B := s₁.setTop (mkF m 13 #[.val (.int (4 : Int32))] [(.int (4 : Int32))])) (fun t k => XS.iloadN X0.here hx rfl (hb hby d18_12) rfl k) ?_
  refine Go.on (B := s₁.setTop (mkF m 15 #[.val (.int (4 : Int32))] [(.int (1073741823 : Int32)), (.int (4 : Int32))])) (fun t k => X0.ldcInt hx hown (mvT hZ (hw _ (List.mem_of_getElem? (i := 78) rfl))) (g := (mkF m 13 #[.val (.int (4 : Int32))] [(.int (4 : Int32))])) rfl (hb hby d18_13) _ k) ?_
  have hc15_2 : (4 : Int32) < (1073741823 : Int32) := by decide
  refine Go.on (B := s₁.setTop (mkF m 55 #[.val (.int (4 : Int32))] [])) (fun t k => XS.icmpYes X0.here hx rfl (pc0 := 15) (pc' := 55) rfl (hb hby d18_15) rfl (tlt hc15_2).1 (by decide) (by decide) k) ?_
  refine Go.on (B := s₁.setTop (mkF m 56 #[.val (.int (4 : Int32))] [(.int (4 : Int32))])) (fun t k => XS.iloadN X0.here hx rfl (hb hby d18_55) rfl k) ?_
  refine Go.on (B := s₁.setTop (mkF m 57 #[.val (.int (4 : Int32))] [(.int (1 : Int32)), (.int (4 : Int32))])) (fun t k => XS.iconst X0.here hx rfl (hb hby d18_56) k) ?_
  refine Go.on (B := s₁.setTop (mkF m 58 #[.val (.int (4 : Int32))] [(.int ((4 : Int32) <<< ((1 : Int32) &&& 31)))])) (fun t k => XS.ishl X0.here hx rfl (hb hby d18_57) rfl k) ?_
  rw [show ((4 : Int32) <<< ((1 : Int32) &&& 31)) = (8 : Int32) from by decide]
  obtain ⟨fs, hr, hrun, hended, hW, hsame⟩ := X0.leave (v := some (.int (8 : Int32))) (fun h => by rw [Bd.returns] at h; cases h)
  refine ⟨_, _, ?_, hrun, hended, _, _, rfl, ?_, ⟨_, rfl⟩, hW, hsame.mono (by decide) (by decide)⟩
  · exact retI X0 hx Bd.returns (hb hby d18_58) hr
  · show Q_rnl_4 Z  h0 n0 _ s₁.heap _
    rw [e0]
    exact ⟨rfl, N0, rfl⟩
theorem d17_0 : decode jdk_52_method_2_code 0 = .ok (.iload_n 0, 1) := by decide +kernel
theorem d17_1 : decode jdk_52_method_2_code 1 = .ok (.invokestatic 11, 3) := by decide +kernel
theorem d17_4 : decode jdk_52_method_2_code 4 = .ok (.newarray .byte, 2) := by decide +kernel
theorem d17_6 : decode jdk_52_method_2_code 6 = .ok (.areturn, 1) := by decide +kernel
theorem pd_6 : parseMethodDescriptor "(I)I" = some ⟨[.int], some .int⟩ := by decide +kernel
theorem ef_rnf_4 (m : MethodId)  : entryFrame m #[(.int (4 : Int32))] 1 = mkF m 0 #[.val (.int (4 : Int32))] [] := by first | (simp [entryFrame, mkF, argsToLocals, Value.category]; done) | rfl
def Q_rnf_4 (Z : State)  (h0 : Heap) (n0 : Nat) (v : Option Value) (h : Heap) (L : List Loc) : Prop := (∃ (b : Addr) (kb : ClassId), v = some (.ref b) ∧ h0.size ≤ b ∧ Arv Z h b kb .byte (8 : Int32) [(.int (0 : Int32)), (.int (0 : Int32)), (.int (0 : Int32)), (.int (0 : Int32)), (.int (0 : Int32)), (.int (0 : Int32)), (.int (0 : Int32)), (.int (0 : Int32))] (.int (0 : Int32))) ∧ Fr n0 L ∧ Keep h0 h []
set_option maxRecDepth 65536 in
set_option maxHeartbeats 40000000 in
theorem rnf_4 (l : Launch) (Z : State) (a0 : Array Value) (hw : ∀ d ∈ tables_1, d.before a0 Z = true) (ws : List Jvm.Cond)  (h0 : Heap) (n0 : Nat) (Z0 : n0 ≤ h0.size)  :
    MetFree l (⟨"java/lang/StringUTF16", "newBytesFor", "(I)[B"⟩ : MethodName) (head1 (Jvm.Cond.code (⟨"java/lang/StringUTF16", "newBytesFor", "(I)[B"⟩ : MethodName) jdk_52_method_2_code 1 (some (.array .byte)) :: ws) ({ frames := 1, cells := 1, slots := 8, locals := 12 } : Room)) (fun a U => a = #[(.int (4 : Int32))] ∧ Z.Warmed39 U.vm ∧ U.heap = h0) (fun _ _ _ _ _ => True) (fun _ U o U' => ∃ v L, o = .returned v ∧ Q_rnf_4 Z  h0 n0 v U'.heap L ∧ FrameEnd U o U' L ({ frames := 1, cells := 1, slots := 8, locals := 12 } : Room).cells ({ frames := 1, cells := 1, slots := 8, locals := 12 } : Room).slots) := by
  refine MetFree.of_bodySF (plainFor_of_name pn_10) hisR ?_
  intro p e s m args below meth c s₁ Bd hml0 hP hK
  obtain ⟨rfl, hZ, hh⟩ := hP
  have hx := Bd.exec
  have hby := Bd.bytes
  have hml : c.maxLocals = 1 := hml0
  have hown : s.vm.findClass "java/lang/StringUTF16" = some m.cls := findClass_of_methodNamed Bd.named
  have hnm := (name_of_methodNamed Bd.named Bd.method).1
  have X0 : Stand p l e ({ frames := 1, cells := 1, slots := 8, locals := 12 } : Room) s m #[(.int (4 : Int32))] below meth c s₁ [] 0 0 := Stand.of_body Bd
  have e0 : s₁.heap = h0 := by rw [← hh, Bd.state]; rfl
  have N0 := Fr.nil n0
  have pre0 : ∀ t, Steps p.tables e below (s₁.setTop (mkF m 0 #[.val (.int (4 : Int32))] [])) t → Steps p.tables e below (s₁.setTop (entryFrame m #[(.int (4 : Int32))] 1)) t := fun t k => castTop (ef_rnf_4 m ) k
  change Go p.tables e below (fun o U' => ∃ v L, o = .returned v ∧ Q_rnf_4 Z  h0 n0 v U'.heap L ∧ FrameEnd s o U' L ({ frames := 1, cells := 1, slots := 8, locals := 12 } : Room).cells ({ frames := 1, cells := 1, slots := 8, locals := 12 } : Room).slots) (s₁.setTop (entryFrame m #[(.int (4 : Int32))] 1))
  have K0 := Keep.refl h0 []
  refine Go.on pre0 ?_
  refine Go.on (B := s₁.setTop (mkF m 1 #[.val (.int (4 : Int32))] [(.int (4 : Int32))])) (fun t k => XS.iloadN X0.here hx rfl (hb hby d17_0) rfl k) ?_
  obtain ⟨_, _, ⟨T1, L1, k1, n1⟩, -, X1, ⟨Lc1, hQ1, l1, y1, z1⟩, st1⟩ := Jvm.LawKit.callS X0 hx (y := (⟨"java/lang/StringUTF16", "newBytesLength", "(I)I"⟩ : MethodName)) hown (mvT hZ (hw _ (List.mem_of_getElem? (i := 75) rfl))) (mvT hZ (hw _ (List.mem_of_getElem? (i := 76) rfl))) (mvT hZ (hw _ (List.mem_of_getElem? (i := 23) rfl))) (mvT hZ (hw _ (List.mem_of_getElem? (i := 77) rfl))) (by decide) (backOf (W := 0) (rnl_4 l Z a0 hw []  h0 n0 Z0) hZ (hw _ (List.mem_of_getElem? (i := 77) rfl)) (hw _ (List.mem_of_getElem? (i := 23) rfl)) (by decide) (by decide)) (g := (mkF m 1 #[.val (.int (4 : Int32))] [(.int (4 : Int32))])) rfl (by rw [hml]; rfl) (argsL := [(.int (4 : Int32))]) (rest := []) (lenOf pd_6 rfl) rfl (by show 2 * 0 + _ ≤ _; exact Nat.le_of_eq rfl) (hb hby d17_1) (fun _ _ => ⟨rfl, e0, (by decide : 0 + 0 ≤ _), (by decide : 0 + 0 ≤ _)⟩)
  dsimp only [Pt.U, Pt.locs, Pt.cells, Pt.slots] at X1 l1 y1 z1 st1 hQ1
  subst l1 y1 z1
  obtain ⟨rfl, N1q, e1q⟩ := hQ1
  have N1 := Fr.app N0 N1q
  refine Go.on (B := T1.setTop (mkF m 4 #[.val (.int (4 : Int32))] [(.int (8 : Int32))])) (fun t k => st1 _ k) ?_
  obtain ⟨T2, h2, k2, X2, e2, Xe2, A2, st2⟩ := newP X1 hx hZ (hw _ (List.mem_of_getElem? (i := 25) rfl)) e1q (g := (mkF m 4 #[.val (.int (4 : Int32))] [(.int (8 : Int32))])) rfl (hb hby d17_4) rfl (by decide) (cap := 8) (by decide) (by decide) (by decide) (by decide)
  obtain ⟨b2, gq2⟩ : ∃ z, z = h0.size := ⟨_, rfl⟩
  rw [← gq2] at A2 st2
  have ge_b2 : n0 ≤ b2 := Nat.le_trans Z0 (Nat.le_of_eq gq2.symm)
  have sz_b2 : h0.size ≤ b2 := Nat.le_trans K0.1 (Nat.le_of_eq gq2.symm)
  have Zs1 := Nat.le_trans Z0 Xe2.1
  have K2 := K0.ext Xe2
  have V2 : Arv Z h2 b2 k2 .byte (8 : Int32) [(.int (0 : Int32)), (.int (0 : Int32)), (.int (0 : Int32)), (.int (0 : Int32)), (.int (0 : Int32)), (.int (0 : Int32)), (.int (0 : Int32)), (.int (0 : Int32))] (.int (0 : Int32)) := (Arv.new A2 (by decide)).pad (pad_rep [] (.int (0 : Int32)) 8)
  refine Go.on (B := T2.setTop (mkF m 6 #[.val (.int (4 : Int32))] [(.ref b2)])) (fun t k => st2 _ k) ?_
  obtain ⟨fs, hr, hrun, hended, hW, hsame⟩ := X2.leave (v := some (.ref b2)) (fun h => by rw [Bd.returns] at h; cases h)
  refine ⟨_, _, ?_, hrun, hended, _, _, rfl, ?_, ⟨_, rfl⟩, hW, hsame.mono (by decide) (by decide)⟩
  · exact retOut X2 hx Bd.returns rfl (Or.inr (Or.inr (Or.inr (Or.inr ⟨rfl, rfl, rfl⟩)))) (hb hby d17_6) hr
  · show Q_rnf_4 Z  h0 n0 _ T2.heap _
    rw [e2]
    exact ⟨⟨_, _, rfl, sz_b2, V2⟩, N1, K2⟩
theorem d19_0 : decode jdk_52_method_4_code 0 = .ok (.getstatic 44, 3) := by decide +kernel
theorem d19_3 : decode jdk_52_method_4_code 3 = .ok (.ifCond .ne 25, 3) := by decide +kernel
theorem d19_28 : decode jdk_52_method_4_code 28 = .ok (.iload_n 1, 1) := by decide +kernel
theorem d19_29 : decode jdk_52_method_4_code 29 = .ok (.iconst 1, 1) := by decide +kernel
theorem d19_30 : decode jdk_52_method_4_code 30 = .ok (.ishl, 1) := by decide +kernel
theorem d19_31 : decode jdk_52_method_4_code 31 = .ok (.istore_n 1, 1) := by decide +kernel
theorem d19_32 : decode jdk_52_method_4_code 32 = .ok (.aload_n 0, 1) := by decide +kernel
theorem d19_33 : decode jdk_52_method_4_code 33 = .ok (.iload_n 1, 1) := by decide +kernel
theorem d19_34 : decode jdk_52_method_4_code 34 = .ok (.iinc 1 1, 3) := by decide +kernel
theorem d19_37 : decode jdk_52_method_4_code 37 = .ok (.iload_n 2, 1) := by decide +kernel
theorem d19_38 : decode jdk_52_method_4_code 38 = .ok (.getstatic 59, 3) := by decide +kernel
theorem d19_41 : decode jdk_52_method_4_code 41 = .ok (.ishr, 1) := by decide +kernel
theorem d19_42 : decode jdk_52_method_4_code 42 = .ok (.i2b, 1) := by decide +kernel
theorem d19_43 : decode jdk_52_method_4_code 43 = .ok (.bastore, 1) := by decide +kernel
theorem d19_44 : decode jdk_52_method_4_code 44 = .ok (.aload_n 0, 1) := by decide +kernel
theorem d19_45 : decode jdk_52_method_4_code 45 = .ok (.iload_n 1, 1) := by decide +kernel
theorem d19_46 : decode jdk_52_method_4_code 46 = .ok (.iload_n 2, 1) := by decide +kernel
theorem d19_47 : decode jdk_52_method_4_code 47 = .ok (.getstatic 63, 3) := by decide +kernel
theorem d19_50 : decode jdk_52_method_4_code 50 = .ok (.ishr, 1) := by decide +kernel
theorem d19_51 : decode jdk_52_method_4_code 51 = .ok (.i2b, 1) := by decide +kernel
theorem d19_52 : decode jdk_52_method_4_code 52 = .ok (.bastore, 1) := by decide +kernel
theorem d19_53 : decode jdk_52_method_4_code 53 = .ok (.return_, 1) := by decide +kernel
theorem ef_rpc_4_0 (m : MethodId) (a1 : Addr) (p3 : Int32) : entryFrame m #[(.ref a1), (.int (0 : Int32)), (.int p3)] 3 = mkF m 0 #[.val (.ref a1), .val (.int (0 : Int32)), .val (.int p3)] [] := by first | (simp [entryFrame, mkF, argsToLocals, Value.category]; done) | rfl
def Q_rpc_4_0 (Z : State) (a1 : Addr) (p3 : Int32) (k1 : ClassId) (w0 w1 w2 w3 w4 w5 w6 w7 : Value) (h0 : Heap) (n0 : Nat) (v : Option Value) (h : Heap) (L : List Loc) : Prop := v = none ∧ Fr n0 L ∧ Keep h0 h [a1] ∧ Arv Z h a1 k1 .byte (8 : Int32) [(.int ((((p3 >>> ((0 : Int32) &&& 31))).toInt8.toInt32).toInt8.toInt32)), (.int ((((p3 >>> ((8 : Int32) &&& 31))).toInt8.toInt32).toInt8.toInt32)), w2, w3, w4, w5, w6, w7] (.int (0 : Int32))
set_option maxRecDepth 65536 in
set_option maxHeartbeats 40000000 in
theorem rpc_4_0 (l : Launch) (Z : State) (a0 : Array Value) (hw : ∀ d ∈ tables_1, d.before a0 Z = true) (ws : List Jvm.Cond) (a1 : Addr) (p3 : Int32) (k1 : ClassId) (w0 w1 w2 w3 w4 w5 w6 w7 : Value) (h0 : Heap) (n0 : Nat) (Z0 : n0 ≤ h0.size) (V1 : Arv Z h0 a1 k1 .byte (8 : Int32) [w0, w1, w2, w3, w4, w5, w6, w7] (.int (0 : Int32))) (g1 : n0 ≤ a1) (O0 : Old Z n0 h0) (S_ad : Sta Z Z.heap "java/lang/StringUTF16" "$assertionsDisabled" "Z" (.int (1 : Int32))) (S_hi : Sta Z Z.heap "java/lang/StringUTF16" "HI_BYTE_SHIFT" "I" (.int (0 : Int32))) (S_lo : Sta Z Z.heap "java/lang/StringUTF16" "LO_BYTE_SHIFT" "I" (.int (8 : Int32))) :
    MetFree l (⟨"java/lang/StringUTF16", "putChar", "([BII)V"⟩ : MethodName) (head1 (Jvm.Cond.code (⟨"java/lang/StringUTF16", "putChar", "([BII)V"⟩ : MethodName) jdk_52_method_4_code 3 none :: ws) ({ frames := 0, cells := 0, slots := 0, locals := 0 } : Room)) (fun a U => a = #[(.ref a1), (.int (0 : Int32)), (.int p3)] ∧ Z.Warmed39 U.vm ∧ U.heap = h0) (fun _ _ _ _ _ => True) (fun _ U o U' => ∃ v L, o = .returned v ∧ Q_rpc_4_0 Z a1 p3 k1 w0 w1 w2 w3 w4 w5 w6 w7 h0 n0 v U'.heap L ∧ FrameEnd U o U' L ({ frames := 0, cells := 0, slots := 0, locals := 0 } : Room).cells ({ frames := 0, cells := 0, slots := 0, locals := 0 } : Room).slots) := by
  refine MetFree.of_bodySF (plainFor_of_name pn_10) hisR ?_
  intro p e s m args below meth c s₁ Bd hml0 hP hK
  obtain ⟨rfl, hZ, hh⟩ := hP
  have hx := Bd.exec
  have hby := Bd.bytes
  have hml : c.maxLocals = 3 := hml0
  have hown : s.vm.findClass "java/lang/StringUTF16" = some m.cls := findClass_of_methodNamed Bd.named
  have hnm := (name_of_methodNamed Bd.named Bd.method).1
  have X0 : Stand p l e ({ frames := 0, cells := 0, slots := 0, locals := 0 } : Room) s m #[(.ref a1), (.int (0 : Int32)), (.int p3)] below meth c s₁ [] 0 0 := Stand.of_body Bd
  have e0 : s₁.heap = h0 := by rw [← hh, Bd.state]; rfl
  have N0 := Fr.nil n0
  have pre0 : ∀ t, Steps p.tables e below (s₁.setTop (mkF m 0 #[.val (.ref a1), .val (.int (0 : Int32)), .val (.int p3)] [])) t → Steps p.tables e below (s₁.setTop (entryFrame m #[(.ref a1), (.int (0 : Int32)), (.int p3)] 3)) t := fun t k => castTop (ef_rpc_4_0 m a1 p3) k
  change Go p.tables e below (fun o U' => ∃ v L, o = .returned v ∧ Q_rpc_4_0 Z a1 p3 k1 w0 w1 w2 w3 w4 w5 w6 w7 h0 n0 v U'.heap L ∧ FrameEnd s o U' L ({ frames := 0, cells := 0, slots := 0, locals := 0 } : Room).cells ({ frames := 0, cells := 0, slots := 0, locals := 0 } : Room).slots) (s₁.setTop (entryFrame m #[(.ref a1), (.int (0 : Int32)), (.int p3)] 3))
  have K0 := Keep.refl h0 [a1]
  refine Go.on pre0 ?_
  obtain ⟨T1, X1, e1, st1⟩ := getS2 X0 hx hZ hown (host := "") (Or.inl (hw _ (List.mem_of_getElem? (i := 82) rfl))) Via.refl e0 (S_ad.ext O0.2) (g := (mkF m 0 #[.val (.ref a1), .val (.int (0 : Int32)), .val (.int p3)] [])) rfl (hb hby d19_0)
  refine Go.on (B := T1.setTop (mkF m 3 #[.val (.ref a1), .val (.int (0 : Int32)), .val (.int p3)] [(.int (1 : Int32))])) (fun t k => st1 _ k) ?_
  have hc3_2 : ¬ ((1 : Int32) = (0 : Int32)) := by decide
  refine Go.on (B := T1.setTop (mkF m 28 #[.val (.ref a1), .val (.int (0 : Int32)), .val (.int p3)] [])) (fun t k => XS.ifYes X1.here hx rfl (pc0 := 3) (pc' := 28) rfl (hb hby d19_3) rfl ((if0 _ _).trans (feq hc3_2).2) (by decide) (by decide) k) ?_
  refine Go.on (B := T1.setTop (mkF m 29 #[.val (.ref a1), .val (.int (0 : Int32)), .val (.int p3)] [(.int (0 : Int32))])) (fun t k => XS.iloadN X1.here hx rfl (hb hby d19_28) rfl k) ?_
  refine Go.on (B := T1.setTop (mkF m 30 #[.val (.ref a1), .val (.int (0 : Int32)), .val (.int p3)] [(.int (1 : Int32)), (.int (0 : Int32))])) (fun t k => XS.iconst X1.here hx rfl (hb hby d19_29) k) ?_
  refine Go.on (B := T1.setTop (mkF m 31 #[.val (.ref a1), .val (.int (0 : Int32)), .val (.int p3)] [(.int ((0 : Int32) <<< ((1 : Int32) &&& 31)))])) (fun t k => XS.ishl X1.here hx rfl (hb hby d19_30) rfl k) ?_
  rw [show ((0 : Int32) <<< ((1 : Int32) &&& 31)) = (0 : Int32) from by decide]
  refine Go.on (B := T1.setTop (mkF m 32 #[.val (.ref a1), .val (.int (0 : Int32)), .val (.int p3)] [])) (fun t k => XS.istoreN X1.here hx rfl (hb hby d19_31) rfl (l' := #[.val (.ref a1), .val (.int (0 : Int32)), .val (.int p3)]) rfl k) ?_
  refine Go.on (B := T1.setTop (mkF m 33 #[.val (.ref a1), .val (.int (0 : Int32)), .val (.int p3)] [(.ref a1)])) (fun t k => XS.aloadN X1.here hx rfl (hb hby d19_32) rfl rfl k) ?_
  refine Go.on (B := T1.setTop (mkF m 34 #[.val (.ref a1), .val (.int (0 : Int32)), .val (.int p3)] [(.int (0 : Int32)), (.ref a1)])) (fun t k => XS.iloadN X1.here hx rfl (hb hby d19_33) rfl k) ?_
  refine Go.on (B := T1.setTop (mkF m 37 #[.val (.ref a1), .val (.int ((0 : Int32) + (1 : Int32))), .val (.int p3)] [(.int (0 : Int32)), (.ref a1)])) (fun t k => XS.iinc X1.here hx rfl (hb hby d19_34) rfl (l' := #[.val (.ref a1), .val (.int ((0 : Int32) + (1 : Int32))), .val (.int p3)]) rfl k) ?_
  rw [show ((0 : Int32) + (1 : Int32)) = (1 : Int32) from by decide]
  refine Go.on (B := T1.setTop (mkF m 38 #[.val (.ref a1), .val (.int (1 : Int32)), .val (.int p3)] [(.int p3), (.int (0 : Int32)), (.ref a1)])) (fun t k => XS.iloadN X1.here hx rfl (hb hby d19_37) rfl k) ?_
  obtain ⟨T4, X4, e4, st4⟩ := getS2 X1 hx hZ hown (host := "") (Or.inl (hw _ (List.mem_of_getElem? (i := 83) rfl))) Via.refl e1 (S_hi.ext O0.2) (g := (mkF m 38 #[.val (.ref a1), .val (.int (1 : Int32)), .val (.int p3)] [(.int p3), (.int (0 : Int32)), (.ref a1)])) rfl (hb hby d19_38)
  refine Go.on (B := T4.setTop (mkF m 41 #[.val (.ref a1), .val (.int (1 : Int32)), .val (.int p3)] [(.int (0 : Int32)), (.int p3), (.int (0 : Int32)), (.ref a1)])) (fun t k => st4 _ k) ?_
  refine Go.on (B := T4.setTop (mkF m 42 #[.val (.ref a1), .val (.int (1 : Int32)), .val (.int p3)] [(.int (p3 >>> ((0 : Int32) &&& 31))), (.int (0 : Int32)), (.ref a1)])) (fun t k => XS.ishr X4.here hx rfl (hb hby d19_41) rfl k) ?_
  refine Go.on (B := T4.setTop (mkF m 43 #[.val (.ref a1), .val (.int (1 : Int32)), .val (.int p3)] [(.int ((p3 >>> ((0 : Int32) &&& 31)).toInt8.toInt32)), (.int (0 : Int32)), (.ref a1)])) (fun t k => XS.i2b X4.here hx rfl (hb hby d19_42) rfl k) ?_
  obtain ⟨cl5, Ar5, qq5, Sz5, Ng5, Hh5, Gg5⟩ := id V1
  have hin5 : ¬ ((0 : Int32) < 0 ∨ cl5.slots.size ≤ ((0 : Int32)).toNatClampNeg) := inb_of Sz5 ⟨by decide, by decide⟩
  obtain ⟨T5, h5, X5, e5, W5, st5⟩ := stB X4 hx hZ e4 Ar5 (j := (0 : Int32)) hin5 (g := (mkF m 43 #[.val (.ref a1), .val (.int (1 : Int32)), .val (.int p3)] [(.int ((p3 >>> ((0 : Int32) &&& 31)).toInt8.toInt32)), (.int (0 : Int32)), (.ref a1)])) rfl rfl (hb hby d19_43)
  have V5 : Arv Z h5 a1 k1 .byte (8 : Int32) [(.int (((p3 >>> ((0 : Int32) &&& 31)).toInt8.toInt32).toInt8.toInt32)), w1, w2, w3, w4, w5, w6, w7] (.int (0 : Int32)) := Arv.set Ar5 qq5 Sz5 Ng5 Hh5 Gg5 (fits_nar_byte _) W5 0 rfl (Nat.le_of_ble_eq_true rfl)
  have N5 := Fr.snoc X5 N0 g1
  have O_1 := O0.wr W5 g1
  have Zs2 := Nat.le_trans Z0 (Keep.of_wr W5).1
  have K3 := K0.wr W5 (Or.inl (List.mem_of_getElem? (i := 0) rfl))
  refine Go.on (B := T5.setTop (mkF m 44 #[.val (.ref a1), .val (.int (1 : Int32)), .val (.int p3)] [])) (fun t k => st5 _ k) ?_
  refine Go.on (B := T5.setTop (mkF m 45 #[.val (.ref a1), .val (.int (1 : Int32)), .val (.int p3)] [(.ref a1)])) (fun t k => XS.aloadN X5.here hx rfl (hb hby d19_44) rfl rfl k) ?_
  refine Go.on (B := T5.setTop (mkF m 46 #[.val (.ref a1), .val (.int (1 : Int32)), .val (.int p3)] [(.int (1 : Int32)), (.ref a1)])) (fun t k => XS.iloadN X5.here hx rfl (hb hby d19_45) rfl k) ?_
  refine Go.on (B := T5.setTop (mkF m 47 #[.val (.ref a1), .val (.int (1 : Int32)), .val (.int p3)] [(.int p3), (.int (1 : Int32)), (.ref a1)])) (fun t k => XS.iloadN X5.here hx rfl (hb hby d19_46) rfl k) ?_
  obtain ⟨T6, X6, e6, st6⟩ := getS2 X5 hx hZ hown (host := "") (Or.inl (hw _ (List.mem_of_getElem? (i := 84) rfl))) Via.refl e5 (S_lo.ext O_1.2) (g := (mkF m 47 #[.val (.ref a1), .val (.int (1 : Int32)), .val (.int p3)] [(.int p3), (.int (1 : Int32)), (.ref a1)])) rfl (hb hby d19_47)
  refine Go.on (B := T6.setTop (mkF m 50 #[.val (.ref a1), .val (.int (1 : Int32)), .val (.int p3)] [(.int (8 : Int32)), (.int p3), (.int (1 : Int32)), (.ref a1)])) (fun t k => st6 _ k) ?_
  refine Go.on (B := T6.setTop (mkF m 51 #[.val (.ref a1), .val (.int (1 : Int32)), .val (.int p3)] [(.int (p3 >>> ((8 : Int32) &&& 31))), (.int (1 : Int32)), (.ref a1)])) (fun t k => XS.ishr X6.here hx rfl (hb hby d19_50) rfl k) ?_
  refine Go.on (B := T6.setTop (mkF m 52 #[.val (.ref a1), .val (.int (1 : Int32)), .val (.int p3)] [(.int ((p3 >>> ((8 : Int32) &&& 31)).toInt8.toInt32)), (.int (1 : Int32)), (.ref a1)])) (fun t k => XS.i2b X6.here hx rfl (hb hby d19_51) rfl k) ?_
  obtain ⟨cl7, Ar7, qq7, Sz7, Ng7, Hh7, Gg7⟩ := id V5
  have hin7 : ¬ ((1 : Int32) < 0 ∨ cl7.slots.size ≤ ((1 : Int32)).toNatClampNeg) := inb_of Sz7 ⟨by decide, by decide⟩
  obtain ⟨T7, h7, X7, e7, W7, st7⟩ := stB X6 hx hZ e6 Ar7 (j := (1 : Int32)) hin7 (g := (mkF m 52 #[.val (.ref a1), .val (.int (1 : Int32)), .val (.int p3)] [(.int ((p3 >>> ((8 : Int32) &&& 31)).toInt8.toInt32)), (.int (1 : Int32)), (.ref a1)])) rfl rfl (hb hby d19_52)
  have V7 : Arv Z h7 a1 k1 .byte (8 : Int32) [(.int (((p3 >>> ((0 : Int32) &&& 31)).toInt8.toInt32).toInt8.toInt32)), (.int (((p3 >>> ((8 : Int32) &&& 31)).toInt8.toInt32).toInt8.toInt32)), w2, w3, w4, w5, w6, w7] (.int (0 : Int32)) := Arv.set Ar7 qq7 Sz7 Ng7 Hh7 Gg7 (fits_nar_byte _) W7 1 rfl (Nat.le_of_ble_eq_true rfl)
  have N7 := Fr.snoc X7 N5 g1
  have O_4 := O_1.wr W7 g1
  have Zs5 := Nat.le_trans Zs2 (Keep.of_wr W7).1
  have K6 := K3.wr W7 (Or.inl (List.mem_of_getElem? (i := 0) rfl))
  refine Go.on (B := T7.setTop (mkF m 53 #[.val (.ref a1), .val (.int (1 : Int32)), .val (.int p3)] [])) (fun t k => st7 _ k) ?_
  obtain ⟨fs, hr, hrun, hended, hW, hsame⟩ := X7.leave (v := none) (fun _ => rfl)
  refine ⟨_, _, ?_, hrun, hended, _, _, rfl, ?_, ⟨_, rfl⟩, hW, hsame.mono (by decide) (by decide)⟩
  · exact X7.returnOut hx Bd.returns (hb hby d19_53) hr
  · show Q_rpc_4_0 Z a1 p3 k1 w0 w1 w2 w3 w4 w5 w6 w7 h0 n0 _ T7.heap _
    rw [e7]
    exact ⟨rfl, N7, K6, V7⟩
theorem ef_rpc_4_1 (m : MethodId) (a1 : Addr) (p3 : Int32) : entryFrame m #[(.ref a1), (.int (1 : Int32)), (.int p3)] 3 = mkF m 0 #[.val (.ref a1), .val (.int (1 : Int32)), .val (.int p3)] [] := by first | (simp [entryFrame, mkF, argsToLocals, Value.category]; done) | rfl
def Q_rpc_4_1 (Z : State) (a1 : Addr) (p3 : Int32) (k1 : ClassId) (w0 w1 w2 w3 w4 w5 w6 w7 : Value) (h0 : Heap) (n0 : Nat) (v : Option Value) (h : Heap) (L : List Loc) : Prop := v = none ∧ Fr n0 L ∧ Keep h0 h [a1] ∧ Arv Z h a1 k1 .byte (8 : Int32) [w0, w1, (.int ((((p3 >>> ((0 : Int32) &&& 31))).toInt8.toInt32).toInt8.toInt32)), (.int ((((p3 >>> ((8 : Int32) &&& 31))).toInt8.toInt32).toInt8.toInt32)), w4, w5, w6, w7] (.int (0 : Int32))
set_option maxRecDepth 65536 in
set_option maxHeartbeats 40000000 in
theorem rpc_4_1 (l : Launch) (Z : State) (a0 : Array Value) (hw : ∀ d ∈ tables_1, d.before a0 Z = true) (ws : List Jvm.Cond) (a1 : Addr) (p3 : Int32) (k1 : ClassId) (w0 w1 w2 w3 w4 w5 w6 w7 : Value) (h0 : Heap) (n0 : Nat) (Z0 : n0 ≤ h0.size) (V1 : Arv Z h0 a1 k1 .byte (8 : Int32) [w0, w1, w2, w3, w4, w5, w6, w7] (.int (0 : Int32))) (g1 : n0 ≤ a1) (O0 : Old Z n0 h0) (S_ad : Sta Z Z.heap "java/lang/StringUTF16" "$assertionsDisabled" "Z" (.int (1 : Int32))) (S_hi : Sta Z Z.heap "java/lang/StringUTF16" "HI_BYTE_SHIFT" "I" (.int (0 : Int32))) (S_lo : Sta Z Z.heap "java/lang/StringUTF16" "LO_BYTE_SHIFT" "I" (.int (8 : Int32))) :
    MetFree l (⟨"java/lang/StringUTF16", "putChar", "([BII)V"⟩ : MethodName) (head1 (Jvm.Cond.code (⟨"java/lang/StringUTF16", "putChar", "([BII)V"⟩ : MethodName) jdk_52_method_4_code 3 none :: ws) ({ frames := 0, cells := 0, slots := 0, locals := 0 } : Room)) (fun a U => a = #[(.ref a1), (.int (1 : Int32)), (.int p3)] ∧ Z.Warmed39 U.vm ∧ U.heap = h0) (fun _ _ _ _ _ => True) (fun _ U o U' => ∃ v L, o = .returned v ∧ Q_rpc_4_1 Z a1 p3 k1 w0 w1 w2 w3 w4 w5 w6 w7 h0 n0 v U'.heap L ∧ FrameEnd U o U' L ({ frames := 0, cells := 0, slots := 0, locals := 0 } : Room).cells ({ frames := 0, cells := 0, slots := 0, locals := 0 } : Room).slots) := by
  refine MetFree.of_bodySF (plainFor_of_name pn_10) hisR ?_
  intro p e s m args below meth c s₁ Bd hml0 hP hK
  obtain ⟨rfl, hZ, hh⟩ := hP
  have hx := Bd.exec
  have hby := Bd.bytes
  have hml : c.maxLocals = 3 := hml0
  have hown : s.vm.findClass "java/lang/StringUTF16" = some m.cls := findClass_of_methodNamed Bd.named
  have hnm := (name_of_methodNamed Bd.named Bd.method).1
  have X0 : Stand p l e ({ frames := 0, cells := 0, slots := 0, locals := 0 } : Room) s m #[(.ref a1), (.int (1 : Int32)), (.int p3)] below meth c s₁ [] 0 0 := Stand.of_body Bd
  have e0 : s₁.heap = h0 := by rw [← hh, Bd.state]; rfl
  have N0 := Fr.nil n0
  have pre0 : ∀ t, Steps p.tables e below (s₁.setTop (mkF m 0 #[.val (.ref a1), .val (.int (1 : Int32)), .val (.int p3)] [])) t → Steps p.tables e below (s₁.setTop (entryFrame m #[(.ref a1), (.int (1 : Int32)), (.int p3)] 3)) t := fun t k => castTop (ef_rpc_4_1 m a1 p3) k
  change Go p.tables e below (fun o U' => ∃ v L, o = .returned v ∧ Q_rpc_4_1 Z a1 p3 k1 w0 w1 w2 w3 w4 w5 w6 w7 h0 n0 v U'.heap L ∧ FrameEnd s o U' L ({ frames := 0, cells := 0, slots := 0, locals := 0 } : Room).cells ({ frames := 0, cells := 0, slots := 0, locals := 0 } : Room).slots) (s₁.setTop (entryFrame m #[(.ref a1), (.int (1 : Int32)), (.int p3)] 3))
  have K0 := Keep.refl h0 [a1]
  refine Go.on pre0 ?_
  obtain ⟨T1, X1, e1, st1⟩ := getS2 X0 hx hZ hown (host := "") (Or.inl (hw _ (List.mem_of_getElem? (i := 82) rfl))) Via.refl e0 (S_ad.ext O0.2) (g := (mkF m 0 #[.val (.ref a1), .val (.int (1 : Int32)), .val (.int p3)] [])) rfl (hb hby d19_0)
  refine Go.on (B := T1.setTop (mkF m 3 #[.val (.ref a1), .val (.int (1 : Int32)), .val (.int p3)] [(.int (1 : Int32))])) (fun t k => st1 _ k) ?_
  have hc3_2 : ¬ ((1 : Int32) = (0 : Int32)) := by decide
  refine Go.on (B := T1.setTop (mkF m 28 #[.val (.ref a1), .val (.int (1 : Int32)), .val (.int p3)] [])) (fun t k => XS.ifYes X1.here hx rfl (pc0 := 3) (pc' := 28) rfl (hb hby d19_3) rfl ((if0 _ _).trans (feq hc3_2).2) (by decide) (by decide) k) ?_
  refine Go.on (B := T1.setTop (mkF m 29 #[.val (.ref a1), .val (.int (1 : Int32)), .val (.int p3)] [(.int (1 : Int32))])) (fun t k => XS.iloadN X1.here hx rfl (hb hby d19_28) rfl k) ?_
  refine Go.on (B := T1.setTop (mkF m 30 #[.val (.ref a1), .val (.int (1 : Int32)), .val (.int p3)] [(.int (1 : Int32)), (.int (1 : Int32))])) (fun t k => XS.iconst X1.here hx rfl (hb hby d19_29) k) ?_
  refine Go.on (B := T1.setTop (mkF m 31 #[.val (.ref a1), .val (.int (1 : Int32)), .val (.int p3)] [(.int ((1 : Int32) <<< ((1 : Int32) &&& 31)))])) (fun t k => XS.ishl X1.here hx rfl (hb hby d19_30) rfl k) ?_
  rw [show ((1 : Int32) <<< ((1 : Int32) &&& 31)) = (2 : Int32) from by decide]
  refine Go.on (B := T1.setTop (mkF m 32 #[.val (.ref a1), .val (.int (2 : Int32)), .val (.int p3)] [])) (fun t k => XS.istoreN X1.here hx rfl (hb hby d19_31) rfl (l' := #[.val (.ref a1), .val (.int (2 : Int32)), .val (.int p3)]) rfl k) ?_
  refine Go.on (B := T1.setTop (mkF m 33 #[.val (.ref a1), .val (.int (2 : Int32)), .val (.int p3)] [(.ref a1)])) (fun t k => XS.aloadN X1.here hx rfl (hb hby d19_32) rfl rfl k) ?_
  refine Go.on (B := T1.setTop (mkF m 34 #[.val (.ref a1), .val (.int (2 : Int32)), .val (.int p3)] [(.int (2 : Int32)), (.ref a1)])) (fun t k => XS.iloadN X1.here hx rfl (hb hby d19_33) rfl k) ?_
  refine Go.on (B := T1.setTop (mkF m 37 #[.val (.ref a1), .val (.int ((2 : Int32) + (1 : Int32))), .val (.int p3)] [(.int (2 : Int32)), (.ref a1)])) (fun t k => XS.iinc X1.here hx rfl (hb hby d19_34) rfl (l' := #[.val (.ref a1), .val (.int ((2 : Int32) + (1 : Int32))), .val (.int p3)]) rfl k) ?_
  rw [show ((2 : Int32) + (1 : Int32)) = (3 : Int32) from by decide]
  refine Go.on (B := T1.setTop (mkF m 38 #[.val (.ref a1), .val (.int (3 : Int32)), .val (.int p3)] [(.int p3), (.int (2 : Int32)), (.ref a1)])) (fun t k => XS.iloadN X1.here hx rfl (hb hby d19_37) rfl k) ?_
  obtain ⟨T4, X4, e4, st4⟩ := getS2 X1 hx hZ hown (host := "") (Or.inl (hw _ (List.mem_of_getElem? (i := 83) rfl))) Via.refl e1 (S_hi.ext O0.2) (g := (mkF m 38 #[.val (.ref a1), .val (.int (3 : Int32)), .val (.int p3)] [(.int p3), (.int (2 : Int32)), (.ref a1)])) rfl (hb hby d19_38)
  refine Go.on (B := T4.setTop (mkF m 41 #[.val (.ref a1), .val (.int (3 : Int32)), .val (.int p3)] [(.int (0 : Int32)), (.int p3), (.int (2 : Int32)), (.ref a1)])) (fun t k => st4 _ k) ?_
  refine Go.on (B := T4.setTop (mkF m 42 #[.val (.ref a1), .val (.int (3 : Int32)), .val (.int p3)] [(.int (p3 >>> ((0 : Int32) &&& 31))), (.int (2 : Int32)), (.ref a1)])) (fun t k => XS.ishr X4.here hx rfl (hb hby d19_41) rfl k) ?_
  refine Go.on (B := T4.setTop (mkF m 43 #[.val (.ref a1), .val (.int (3 : Int32)), .val (.int p3)] [(.int ((p3 >>> ((0 : Int32) &&& 31)).toInt8.toInt32)), (.int (2 : Int32)), (.ref a1)])) (fun t k => XS.i2b X4.here hx rfl (hb hby d19_42) rfl k) ?_
  obtain ⟨cl5, Ar5, qq5, Sz5, Ng5, Hh5, Gg5⟩ := id V1
  have hin5 : ¬ ((2 : Int32) < 0 ∨ cl5.slots.size ≤ ((2 : Int32)).toNatClampNeg) := inb_of Sz5 ⟨by decide, by decide⟩
  obtain ⟨T5, h5, X5, e5, W5, st5⟩ := stB X4 hx hZ e4 Ar5 (j := (2 : Int32)) hin5 (g := (mkF m 43 #[.val (.ref a1), .val (.int (3 : Int32)), .val (.int p3)] [(.int ((p3 >>> ((0 : Int32) &&& 31)).toInt8.toInt32)), (.int (2 : Int32)), (.ref a1)])) rfl rfl (hb hby d19_43)
  have V5 : Arv Z h5 a1 k1 .byte (8 : Int32) [w0, w1, (.int (((p3 >>> ((0 : Int32) &&& 31)).toInt8.toInt32).toInt8.toInt32)), w3, w4, w5, w6, w7] (.int (0 : Int32)) := Arv.set Ar5 qq5 Sz5 Ng5 Hh5 Gg5 (fits_nar_byte _) W5 2 rfl (Nat.le_of_ble_eq_true rfl)
  have N5 := Fr.snoc X5 N0 g1
  have O_1 := O0.wr W5 g1
  have Zs2 := Nat.le_trans Z0 (Keep.of_wr W5).1
  have K3 := K0.wr W5 (Or.inl (List.mem_of_getElem? (i := 0) rfl))
  refine Go.on (B := T5.setTop (mkF m 44 #[.val (.ref a1), .val (.int (3 : Int32)), .val (.int p3)] [])) (fun t k => st5 _ k) ?_
  refine Go.on (B := T5.setTop (mkF m 45 #[.val (.ref a1), .val (.int (3 : Int32)), .val (.int p3)] [(.ref a1)])) (fun t k => XS.aloadN X5.here hx rfl (hb hby d19_44) rfl rfl k) ?_
  refine Go.on (B := T5.setTop (mkF m 46 #[.val (.ref a1), .val (.int (3 : Int32)), .val (.int p3)] [(.int (3 : Int32)), (.ref a1)])) (fun t k => XS.iloadN X5.here hx rfl (hb hby d19_45) rfl k) ?_
  refine Go.on (B := T5.setTop (mkF m 47 #[.val (.ref a1), .val (.int (3 : Int32)), .val (.int p3)] [(.int p3), (.int (3 : Int32)), (.ref a1)])) (fun t k => XS.iloadN X5.here hx rfl (hb hby d19_46) rfl k) ?_
  obtain ⟨T6, X6, e6, st6⟩ := getS2 X5 hx hZ hown (host := "") (Or.inl (hw _ (List.mem_of_getElem? (i := 84) rfl))) Via.refl e5 (S_lo.ext O_1.2) (g := (mkF m 47 #[.val (.ref a1), .val (.int (3 : Int32)), .val (.int p3)] [(.int p3), (.int (3 : Int32)), (.ref a1)])) rfl (hb hby d19_47)
  refine Go.on (B := T6.setTop (mkF m 50 #[.val (.ref a1), .val (.int (3 : Int32)), .val (.int p3)] [(.int (8 : Int32)), (.int p3), (.int (3 : Int32)), (.ref a1)])) (fun t k => st6 _ k) ?_
  refine Go.on (B := T6.setTop (mkF m 51 #[.val (.ref a1), .val (.int (3 : Int32)), .val (.int p3)] [(.int (p3 >>> ((8 : Int32) &&& 31))), (.int (3 : Int32)), (.ref a1)])) (fun t k => XS.ishr X6.here hx rfl (hb hby d19_50) rfl k) ?_
  refine Go.on (B := T6.setTop (mkF m 52 #[.val (.ref a1), .val (.int (3 : Int32)), .val (.int p3)] [(.int ((p3 >>> ((8 : Int32) &&& 31)).toInt8.toInt32)), (.int (3 : Int32)), (.ref a1)])) (fun t k => XS.i2b X6.here hx rfl (hb hby d19_51) rfl k) ?_
  obtain ⟨cl7, Ar7, qq7, Sz7, Ng7, Hh7, Gg7⟩ := id V5
  have hin7 : ¬ ((3 : Int32) < 0 ∨ cl7.slots.size ≤ ((3 : Int32)).toNatClampNeg) := inb_of Sz7 ⟨by decide, by decide⟩
  obtain ⟨T7, h7, X7, e7, W7, st7⟩ := stB X6 hx hZ e6 Ar7 (j := (3 : Int32)) hin7 (g := (mkF m 52 #[.val (.ref a1), .val (.int (3 : Int32)), .val (.int p3)] [(.int ((p3 >>> ((8 : Int32) &&& 31)).toInt8.toInt32)), (.int (3 : Int32)), (.ref a1)])) rfl rfl (hb hby d19_52)
  have V7 : Arv Z h7 a1 k1 .byte (8 : Int32) [w0, w1, (.int (((p3 >>> ((0 : Int32) &&& 31)).toInt8.toInt32).toInt8.toInt32)), (.int (((p3 >>> ((8 : Int32) &&& 31)).toInt8.toInt32).toInt8.toInt32)), w4, w5, w6, w7] (.int (0 : Int32)) := Arv.set Ar7 qq7 Sz7 Ng7 Hh7 Gg7 (fits_nar_byte _) W7 3 rfl (Nat.le_of_ble_eq_true rfl)
  have N7 := Fr.snoc X7 N5 g1
  have O_4 := O_1.wr W7 g1
  have Zs5 := Nat.le_trans Zs2 (Keep.of_wr W7).1
  have K6 := K3.wr W7 (Or.inl (List.mem_of_getElem? (i := 0) rfl))
  refine Go.on (B := T7.setTop (mkF m 53 #[.val (.ref a1), .val (.int (3 : Int32)), .val (.int p3)] [])) (fun t k => st7 _ k) ?_
  obtain ⟨fs, hr, hrun, hended, hW, hsame⟩ := X7.leave (v := none) (fun _ => rfl)
  refine ⟨_, _, ?_, hrun, hended, _, _, rfl, ?_, ⟨_, rfl⟩, hW, hsame.mono (by decide) (by decide)⟩
  · exact X7.returnOut hx Bd.returns (hb hby d19_53) hr
  · show Q_rpc_4_1 Z a1 p3 k1 w0 w1 w2 w3 w4 w5 w6 w7 h0 n0 _ T7.heap _
    rw [e7]
    exact ⟨rfl, N7, K6, V7⟩
theorem ef_rpc_4_2 (m : MethodId) (a1 : Addr) (p3 : Int32) : entryFrame m #[(.ref a1), (.int (2 : Int32)), (.int p3)] 3 = mkF m 0 #[.val (.ref a1), .val (.int (2 : Int32)), .val (.int p3)] [] := by first | (simp [entryFrame, mkF, argsToLocals, Value.category]; done) | rfl
def Q_rpc_4_2 (Z : State) (a1 : Addr) (p3 : Int32) (k1 : ClassId) (w0 w1 w2 w3 w4 w5 w6 w7 : Value) (h0 : Heap) (n0 : Nat) (v : Option Value) (h : Heap) (L : List Loc) : Prop := v = none ∧ Fr n0 L ∧ Keep h0 h [a1] ∧ Arv Z h a1 k1 .byte (8 : Int32) [w0, w1, w2, w3, (.int ((((p3 >>> ((0 : Int32) &&& 31))).toInt8.toInt32).toInt8.toInt32)), (.int ((((p3 >>> ((8 : Int32) &&& 31))).toInt8.toInt32).toInt8.toInt32)), w6, w7] (.int (0 : Int32))
set_option maxRecDepth 65536 in
set_option maxHeartbeats 40000000 in
theorem rpc_4_2 (l : Launch) (Z : State) (a0 : Array Value) (hw : ∀ d ∈ tables_1, d.before a0 Z = true) (ws : List Jvm.Cond) (a1 : Addr) (p3 : Int32) (k1 : ClassId) (w0 w1 w2 w3 w4 w5 w6 w7 : Value) (h0 : Heap) (n0 : Nat) (Z0 : n0 ≤ h0.size) (V1 : Arv Z h0 a1 k1 .byte (8 : Int32) [w0, w1, w2, w3, w4, w5, w6, w7] (.int (0 : Int32))) (g1 : n0 ≤ a1) (O0 : Old Z n0 h0) (S_ad : Sta Z Z.heap "java/lang/StringUTF16" "$assertionsDisabled" "Z" (.int (1 : Int32))) (S_hi : Sta Z Z.heap "java/lang/StringUTF16" "HI_BYTE_SHIFT" "I" (.int (0 : Int32))) (S_lo : Sta Z Z.heap "java/lang/StringUTF16" "LO_BYTE_SHIFT" "I" (.int (8 : Int32))) :
    MetFree l (⟨"java/lang/StringUTF16", "putChar", "([BII)V"⟩ : MethodName) (head1 (Jvm.Cond.code (⟨"java/lang/StringUTF16", "putChar", "([BII)V"⟩ : MethodName) jdk_52_method_4_code 3 none :: ws) ({ frames := 0, cells := 0, slots := 0, locals := 0 } : Room)) (fun a U => a = #[(.ref a1), (.int (2 : Int32)), (.int p3)] ∧ Z.Warmed39 U.vm ∧ U.heap = h0) (fun _ _ _ _ _ => True) (fun _ U o U' => ∃ v L, o = .returned v ∧ Q_rpc_4_2 Z a1 p3 k1 w0 w1 w2 w3 w4 w5 w6 w7 h0 n0 v U'.heap L ∧ FrameEnd U o U' L ({ frames := 0, cells := 0, slots := 0, locals := 0 } : Room).cells ({ frames := 0, cells := 0, slots := 0, locals := 0 } : Room).slots) := by
  refine MetFree.of_bodySF (plainFor_of_name pn_10) hisR ?_
  intro p e s m args below meth c s₁ Bd hml0 hP hK
  obtain ⟨rfl, hZ, hh⟩ := hP
  have hx := Bd.exec
  have hby := Bd.bytes
  have hml : c.maxLocals = 3 := hml0
  have hown : s.vm.findClass "java/lang/StringUTF16" = some m.cls := findClass_of_methodNamed Bd.named
  have hnm := (name_of_methodNamed Bd.named Bd.method).1
  have X0 : Stand p l e ({ frames := 0, cells := 0, slots := 0, locals := 0 } : Room) s m #[(.ref a1), (.int (2 : Int32)), (.int p3)] below meth c s₁ [] 0 0 := Stand.of_body Bd
  have e0 : s₁.heap = h0 := by rw [← hh, Bd.state]; rfl
  have N0 := Fr.nil n0
  have pre0 : ∀ t, Steps p.tables e below (s₁.setTop (mkF m 0 #[.val (.ref a1), .val (.int (2 : Int32)), .val (.int p3)] [])) t → Steps p.tables e below (s₁.setTop (entryFrame m #[(.ref a1), (.int (2 : Int32)), (.int p3)] 3)) t := fun t k => castTop (ef_rpc_4_2 m a1 p3) k
  change Go p.tables e below (fun o U' => ∃ v L, o = .returned v ∧ Q_rpc_4_2 Z a1 p3 k1 w0 w1 w2 w3 w4 w5 w6 w7 h0 n0 v U'.heap L ∧ FrameEnd s o U' L ({ frames := 0, cells := 0, slots := 0, locals := 0 } : Room).cells ({ frames := 0, cells := 0, slots := 0, locals := 0 } : Room).slots) (s₁.setTop (entryFrame m #[(.ref a1), (.int (2 : Int32)), (.int p3)] 3))
  have K0 := Keep.refl h0 [a1]
  refine Go.on pre0 ?_
  obtain ⟨T1, X1, e1, st1⟩ := getS2 X0 hx hZ hown (host := "") (Or.inl (hw _ (List.mem_of_getElem? (i := 82) rfl))) Via.refl e0 (S_ad.ext O0.2) (g := (mkF m 0 #[.val (.ref a1), .val (.int (2 : Int32)), .val (.int p3)] [])) rfl (hb hby d19_0)
  refine Go.on (B := T1.setTop (mkF m 3 #[.val (.ref a1), .val (.int (2 : Int32)), .val (.int p3)] [(.int (1 : Int32))])) (fun t k => st1 _ k) ?_
  have hc3_2 : ¬ ((1 : Int32) = (0 : Int32)) := by decide
  refine Go.on (B := T1.setTop (mkF m 28 #[.val (.ref a1), .val (.int (2 : Int32)), .val (.int p3)] [])) (fun t k => XS.ifYes X1.here hx rfl (pc0 := 3) (pc' := 28) rfl (hb hby d19_3) rfl ((if0 _ _).trans (feq hc3_2).2) (by decide) (by decide) k) ?_
  refine Go.on (B := T1.setTop (mkF m 29 #[.val (.ref a1), .val (.int (2 : Int32)), .val (.int p3)] [(.int (2 : Int32))])) (fun t k => XS.iloadN X1.here hx rfl (hb hby d19_28) rfl k) ?_
  refine Go.on (B := T1.setTop (mkF m 30 #[.val (.ref a1), .val (.int (2 : Int32)), .val (.int p3)] [(.int (1 : Int32)), (.int (2 : Int32))])) (fun t k => XS.iconst X1.here hx rfl (hb hby d19_29) k) ?_
  refine Go.on (B := T1.setTop (mkF m 31 #[.val (.ref a1), .val (.int (2 : Int32)), .val (.int p3)] [(.int ((2 : Int32) <<< ((1 : Int32) &&& 31)))])) (fun t k => XS.ishl X1.here hx rfl (hb hby d19_30) rfl k) ?_
  rw [show ((2 : Int32) <<< ((1 : Int32) &&& 31)) = (4 : Int32) from by decide]
  refine Go.on (B := T1.setTop (mkF m 32 #[.val (.ref a1), .val (.int (4 : Int32)), .val (.int p3)] [])) (fun t k => XS.istoreN X1.here hx rfl (hb hby d19_31) rfl (l' := #[.val (.ref a1), .val (.int (4 : Int32)), .val (.int p3)]) rfl k) ?_
  refine Go.on (B := T1.setTop (mkF m 33 #[.val (.ref a1), .val (.int (4 : Int32)), .val (.int p3)] [(.ref a1)])) (fun t k => XS.aloadN X1.here hx rfl (hb hby d19_32) rfl rfl k) ?_
  refine Go.on (B := T1.setTop (mkF m 34 #[.val (.ref a1), .val (.int (4 : Int32)), .val (.int p3)] [(.int (4 : Int32)), (.ref a1)])) (fun t k => XS.iloadN X1.here hx rfl (hb hby d19_33) rfl k) ?_
  refine Go.on (B := T1.setTop (mkF m 37 #[.val (.ref a1), .val (.int ((4 : Int32) + (1 : Int32))), .val (.int p3)] [(.int (4 : Int32)), (.ref a1)])) (fun t k => XS.iinc X1.here hx rfl (hb hby d19_34) rfl (l' := #[.val (.ref a1), .val (.int ((4 : Int32) + (1 : Int32))), .val (.int p3)]) rfl k) ?_
  rw [show ((4 : Int32) + (1 : Int32)) = (5 : Int32) from by decide]
  refine Go.on (B := T1.setTop (mkF m 38 #[.val (.ref a1), .val (.int (5 : Int32)), .val (.int p3)] [(.int p3), (.int (4 : Int32)), (.ref a1)])) (fun t k => XS.iloadN X1.here hx rfl (hb hby d19_37) rfl k) ?_
  obtain ⟨T4, X4, e4, st4⟩ := getS2 X1 hx hZ hown (host := "") (Or.inl (hw _ (List.mem_of_getElem? (i := 83) rfl))) Via.refl e1 (S_hi.ext O0.2) (g := (mkF m 38 #[.val (.ref a1), .val (.int (5 : Int32)), .val (.int p3)] [(.int p3), (.int (4 : Int32)), (.ref a1)])) rfl (hb hby d19_38)
  refine Go.on (B := T4.setTop (mkF m 41 #[.val (.ref a1), .val (.int (5 : Int32)), .val (.int p3)] [(.int (0 : Int32)), (.int p3), (.int (4 : Int32)), (.ref a1)])) (fun t k => st4 _ k) ?_
  refine Go.on (B := T4.setTop (mkF m 42 #[.val (.ref a1), .val (.int (5 : Int32)), .val (.int p3)] [(.int (p3 >>> ((0 : Int32) &&& 31))), (.int (4 : Int32)), (.ref a1)])) (fun t k => XS.ishr X4.here hx rfl (hb hby d19_41) rfl k) ?_
  refine Go.on (B := T4.setTop (mkF m 43 #[.val (.ref a1), .val (.int (5 : Int32)), .val (.int p3)] [(.int ((p3 >>> ((0 : Int32) &&& 31)).toInt8.toInt32)), (.int (4 : Int32)), (.ref a1)])) (fun t k => XS.i2b X4.here hx rfl (hb hby d19_42) rfl k) ?_
  obtain ⟨cl5, Ar5, qq5, Sz5, Ng5, Hh5, Gg5⟩ := id V1
  have hin5 : ¬ ((4 : Int32) < 0 ∨ cl5.slots.size ≤ ((4 : Int32)).toNatClampNeg) := inb_of Sz5 ⟨by decide, by decide⟩
  obtain ⟨T5, h5, X5, e5, W5, st5⟩ := stB X4 hx hZ e4 Ar5 (j := (4 : Int32)) hin5 (g := (mkF m 43 #[.val (.ref a1), .val (.int (5 : Int32)), .val (.int p3)] [(.int ((p3 >>> ((0 : Int32) &&& 31)).toInt8.toInt32)), (.int (4 : Int32)), (.ref a1)])) rfl rfl (hb hby d19_43)
  have V5 : Arv Z h5 a1 k1 .byte (8 : Int32) [w0, w1, w2, w3, (.int (((p3 >>> ((0 : Int32) &&& 31)).toInt8.toInt32).toInt8.toInt32)), w5, w6, w7] (.int (0 : Int32)) := Arv.set Ar5 qq5 Sz5 Ng5 Hh5 Gg5 (fits_nar_byte _) W5 4 rfl (Nat.le_of_ble_eq_true rfl)
  have N5 := Fr.snoc X5 N0 g1
  have O_1 := O0.wr W5 g1
  have Zs2 := Nat.le_trans Z0 (Keep.of_wr W5).1
  have K3 := K0.wr W5 (Or.inl (List.mem_of_getElem? (i := 0) rfl))
  refine Go.on (B := T5.setTop (mkF m 44 #[.val (.ref a1), .val (.int (5 : Int32)), .val (.int p3)] [])) (fun t k => st5 _ k) ?_
  refine Go.on (B := T5.setTop (mkF m 45 #[.val (.ref a1), .val (.int (5 : Int32)), .val (.int p3)] [(.ref a1)])) (fun t k => XS.aloadN X5.here hx rfl (hb hby d19_44) rfl rfl k) ?_
  refine Go.on (B := T5.setTop (mkF m 46 #[.val (.ref a1), .val (.int (5 : Int32)), .val (.int p3)] [(.int (5 : Int32)), (.ref a1)])) (fun t k => XS.iloadN X5.here hx rfl (hb hby d19_45) rfl k) ?_
  refine Go.on (B := T5.setTop (mkF m 47 #[.val (.ref a1), .val (.int (5 : Int32)), .val (.int p3)] [(.int p3), (.int (5 : Int32)), (.ref a1)])) (fun t k => XS.iloadN X5.here hx rfl (hb hby d19_46) rfl k) ?_
  obtain ⟨T6, X6, e6, st6⟩ := getS2 X5 hx hZ hown (host := "") (Or.inl (hw _ (List.mem_of_getElem? (i := 84) rfl))) Via.refl e5 (S_lo.ext O_1.2) (g := (mkF m 47 #[.val (.ref a1), .val (.int (5 : Int32)), .val (.int p3)] [(.int p3), (.int (5 : Int32)), (.ref a1)])) rfl (hb hby d19_47)
  refine Go.on (B := T6.setTop (mkF m 50 #[.val (.ref a1), .val (.int (5 : Int32)), .val (.int p3)] [(.int (8 : Int32)), (.int p3), (.int (5 : Int32)), (.ref a1)])) (fun t k => st6 _ k) ?_
  refine Go.on (B := T6.setTop (mkF m 51 #[.val (.ref a1), .val (.int (5 : Int32)), .val (.int p3)] [(.int (p3 >>> ((8 : Int32) &&& 31))), (.int (5 : Int32)), (.ref a1)])) (fun t k => XS.ishr X6.here hx rfl (hb hby d19_50) rfl k) ?_
  refine Go.on (B := T6.setTop (mkF m 52 #[.val (.ref a1), .val (.int (5 : Int32)), .val (.int p3)] [(.int ((p3 >>> ((8 : Int32) &&& 31)).toInt8.toInt32)), (.int (5 : Int32)), (.ref a1)])) (fun t k => XS.i2b X6.here hx rfl (hb hby d19_51) rfl k) ?_
  obtain ⟨cl7, Ar7, qq7, Sz7, Ng7, Hh7, Gg7⟩ := id V5
  have hin7 : ¬ ((5 : Int32) < 0 ∨ cl7.slots.size ≤ ((5 : Int32)).toNatClampNeg) := inb_of Sz7 ⟨by decide, by decide⟩
  obtain ⟨T7, h7, X7, e7, W7, st7⟩ := stB X6 hx hZ e6 Ar7 (j := (5 : Int32)) hin7 (g := (mkF m 52 #[.val (.ref a1), .val (.int (5 : Int32)), .val (.int p3)] [(.int ((p3 >>> ((8 : Int32) &&& 31)).toInt8.toInt32)), (.int (5 : Int32)), (.ref a1)])) rfl rfl (hb hby d19_52)
  have V7 : Arv Z h7 a1 k1 .byte (8 : Int32) [w0, w1, w2, w3, (.int (((p3 >>> ((0 : Int32) &&& 31)).toInt8.toInt32).toInt8.toInt32)), (.int (((p3 >>> ((8 : Int32) &&& 31)).toInt8.toInt32).toInt8.toInt32)), w6, w7] (.int (0 : Int32)) := Arv.set Ar7 qq7 Sz7 Ng7 Hh7 Gg7 (fits_nar_byte _) W7 5 rfl (Nat.le_of_ble_eq_true rfl)
  have N7 := Fr.snoc X7 N5 g1
  have O_4 := O_1.wr W7 g1
  have Zs5 := Nat.le_trans Zs2 (Keep.of_wr W7).1
  have K6 := K3.wr W7 (Or.inl (List.mem_of_getElem? (i := 0) rfl))
  refine Go.on (B := T7.setTop (mkF m 53 #[.val (.ref a1), .val (.int (5 : Int32)), .val (.int p3)] [])) (fun t k => st7 _ k) ?_
  obtain ⟨fs, hr, hrun, hended, hW, hsame⟩ := X7.leave (v := none) (fun _ => rfl)
  refine ⟨_, _, ?_, hrun, hended, _, _, rfl, ?_, ⟨_, rfl⟩, hW, hsame.mono (by decide) (by decide)⟩
  · exact X7.returnOut hx Bd.returns (hb hby d19_53) hr
  · show Q_rpc_4_2 Z a1 p3 k1 w0 w1 w2 w3 w4 w5 w6 w7 h0 n0 _ T7.heap _
    rw [e7]
    exact ⟨rfl, N7, K6, V7⟩
theorem ef_rpc_4_3 (m : MethodId) (a1 : Addr) (p3 : Int32) : entryFrame m #[(.ref a1), (.int (3 : Int32)), (.int p3)] 3 = mkF m 0 #[.val (.ref a1), .val (.int (3 : Int32)), .val (.int p3)] [] := by first | (simp [entryFrame, mkF, argsToLocals, Value.category]; done) | rfl
def Q_rpc_4_3 (Z : State) (a1 : Addr) (p3 : Int32) (k1 : ClassId) (w0 w1 w2 w3 w4 w5 w6 w7 : Value) (h0 : Heap) (n0 : Nat) (v : Option Value) (h : Heap) (L : List Loc) : Prop := v = none ∧ Fr n0 L ∧ Keep h0 h [a1] ∧ Arv Z h a1 k1 .byte (8 : Int32) [w0, w1, w2, w3, w4, w5, (.int ((((p3 >>> ((0 : Int32) &&& 31))).toInt8.toInt32).toInt8.toInt32)), (.int ((((p3 >>> ((8 : Int32) &&& 31))).toInt8.toInt32).toInt8.toInt32))] (.int (0 : Int32))
set_option maxRecDepth 65536 in
set_option maxHeartbeats 40000000 in
theorem rpc_4_3 (l : Launch) (Z : State) (a0 : Array Value) (hw : ∀ d ∈ tables_1, d.before a0 Z = true) (ws : List Jvm.Cond) (a1 : Addr) (p3 : Int32) (k1 : ClassId) (w0 w1 w2 w3 w4 w5 w6 w7 : Value) (h0 : Heap) (n0 : Nat) (Z0 : n0 ≤ h0.size) (V1 : Arv Z h0 a1 k1 .byte (8 : Int32) [w0, w1, w2, w3, w4, w5, w6, w7] (.int (0 : Int32))) (g1 : n0 ≤ a1) (O0 : Old Z n0 h0) (S_ad : Sta Z Z.heap "java/lang/StringUTF16" "$assertionsDisabled" "Z" (.int (1 : Int32))) (S_hi : Sta Z Z.heap "java/lang/StringUTF16" "HI_BYTE_SHIFT" "I" (.int (0 : Int32))) (S_lo : Sta Z Z.heap "java/lang/StringUTF16" "LO_BYTE_SHIFT" "I" (.int (8 : Int32))) :
    MetFree l (⟨"java/lang/StringUTF16", "putChar", "([BII)V"⟩ : MethodName) (head1 (Jvm.Cond.code (⟨"java/lang/StringUTF16", "putChar", "([BII)V"⟩ : MethodName) jdk_52_method_4_code 3 none :: ws) ({ frames := 0, cells := 0, slots := 0, locals := 0 } : Room)) (fun a U => a = #[(.ref a1), (.int (3 : Int32)), (.int p3)] ∧ Z.Warmed39 U.vm ∧ U.heap = h0) (fun _ _ _ _ _ => True) (fun _ U o U' => ∃ v L, o = .returned v ∧ Q_rpc_4_3 Z a1 p3 k1 w0 w1 w2 w3 w4 w5 w6 w7 h0 n0 v U'.heap L ∧ FrameEnd U o U' L ({ frames := 0, cells := 0, slots := 0, locals := 0 } : Room).cells ({ frames := 0, cells := 0, slots := 0, locals := 0 } : Room).slots) := by
  refine MetFree.of_bodySF (plainFor_of_name pn_10) hisR ?_
  intro p e s m args below meth c s₁ Bd hml0 hP hK
  obtain ⟨rfl, hZ, hh⟩ := hP
  have hx := Bd.exec
  have hby := Bd.bytes
  have hml : c.maxLocals = 3 := hml0
  have hown : s.vm.findClass "java/lang/StringUTF16" = some m.cls := findClass_of_methodNamed Bd.named
  have hnm := (name_of_methodNamed Bd.named Bd.method).1
  have X0 : Stand p l e ({ frames := 0, cells := 0, slots := 0, locals := 0 } : Room) s m #[(.ref a1), (.int (3 : Int32)), (.int p3)] below meth c s₁ [] 0 0 := Stand.of_body Bd
  have e0 : s₁.heap = h0 := by rw [← hh, Bd.state]; rfl
  have N0 := Fr.nil n0
  have pre0 : ∀ t, Steps p.tables e below (s₁.setTop (mkF m 0 #[.val (.ref a1), .val (.int (3 : Int32)), .val (.int p3)] [])) t → Steps p.tables e below (s₁.setTop (entryFrame m #[(.ref a1), (.int (3 : Int32)), (.int p3)] 3)) t := fun t k => castTop (ef_rpc_4_3 m a1 p3) k
  change Go p.tables e below (fun o U' => ∃ v L, o = .returned v ∧ Q_rpc_4_3 Z a1 p3 k1 w0 w1 w2 w3 w4 w5 w6 w7 h0 n0 v U'.heap L ∧ FrameEnd s o U' L ({ frames := 0, cells := 0, slots := 0, locals := 0 } : Room).cells ({ frames := 0, cells := 0, slots := 0, locals := 0 } : Room).slots) (s₁.setTop (entryFrame m #[(.ref a1), (.int (3 : Int32)), (.int p3)] 3))
  have K0 := Keep.refl h0 [a1]
  refine Go.on pre0 ?_
  obtain ⟨T1, X1, e1, st1⟩ := getS2 X0 hx hZ hown (host := "") (Or.inl (hw _ (List.mem_of_getElem? (i := 82) rfl))) Via.refl e0 (S_ad.ext O0.2) (g := (mkF m 0 #[.val (.ref a1), .val (.int (3 : Int32)), .val (.int p3)] [])) rfl (hb hby d19_0)
  refine Go.on (B := T1.setTop (mkF m 3 #[.val (.ref a1), .val (.int (3 : Int32)), .val (.int p3)] [(.int (1 : Int32))])) (fun t k => st1 _ k) ?_
  have hc3_2 : ¬ ((1 : Int32) = (0 : Int32)) := by decide
  refine Go.on (B := T1.setTop (mkF m 28 #[.val (.ref a1), .val (.int (3 : Int32)), .val (.int p3)] [])) (fun t k => XS.ifYes X1.here hx rfl (pc0 := 3) (pc' := 28) rfl (hb hby d19_3) rfl ((if0 _ _).trans (feq hc3_2).2) (by decide) (by decide) k) ?_
  refine Go.on (B := T1.setTop (mkF m 29 #[.val (.ref a1), .val (.int (3 : Int32)), .val (.int p3)] [(.int (3 : Int32))])) (fun t k => XS.iloadN X1.here hx rfl (hb hby d19_28) rfl k) ?_
  refine Go.on (B := T1.setTop (mkF m 30 #[.val (.ref a1), .val (.int (3 : Int32)), .val (.int p3)] [(.int (1 : Int32)), (.int (3 : Int32))])) (fun t k => XS.iconst X1.here hx rfl (hb hby d19_29) k) ?_
  refine Go.on (B := T1.setTop (mkF m 31 #[.val (.ref a1), .val (.int (3 : Int32)), .val (.int p3)] [(.int ((3 : Int32) <<< ((1 : Int32) &&& 31)))])) (fun t k => XS.ishl X1.here hx rfl (hb hby d19_30) rfl k) ?_
  rw [show ((3 : Int32) <<< ((1 : Int32) &&& 31)) = (6 : Int32) from by decide]
  refine Go.on (B := T1.setTop (mkF m 32 #[.val (.ref a1), .val (.int (6 : Int32)), .val (.int p3)] [])) (fun t k => XS.istoreN X1.here hx rfl (hb hby d19_31) rfl (l' := #[.val (.ref a1), .val (.int (6 : Int32)), .val (.int p3)]) rfl k) ?_
  refine Go.on (B := T1.setTop (mkF m 33 #[.val (.ref a1), .val (.int (6 : Int32)), .val (.int p3)] [(.ref a1)])) (fun t k => XS.aloadN X1.here hx rfl (hb hby d19_32) rfl rfl k) ?_
  refine Go.on (B := T1.setTop (mkF m 34 #[.val (.ref a1), .val (.int (6 : Int32)), .val (.int p3)] [(.int (6 : Int32)), (.ref a1)])) (fun t k => XS.iloadN X1.here hx rfl (hb hby d19_33) rfl k) ?_
  refine Go.on (B := T1.setTop (mkF m 37 #[.val (.ref a1), .val (.int ((6 : Int32) + (1 : Int32))), .val (.int p3)] [(.int (6 : Int32)), (.ref a1)])) (fun t k => XS.iinc X1.here hx rfl (hb hby d19_34) rfl (l' := #[.val (.ref a1), .val (.int ((6 : Int32) + (1 : Int32))), .val (.int p3)]) rfl k) ?_
  rw [show ((6 : Int32) + (1 : Int32)) = (7 : Int32) from by decide]
  refine Go.on (B := T1.setTop (mkF m 38 #[.val (.ref a1), .val (.int (7 : Int32)), .val (.int p3)] [(.int p3), (.int (6 : Int32)), (.ref a1)])) (fun t k => XS.iloadN X1.here hx rfl (hb hby d19_37) rfl k) ?_
  obtain ⟨T4, X4, e4, st4⟩ := getS2 X1 hx hZ hown (host := "") (Or.inl (hw _ (List.mem_of_getElem? (i := 83) rfl))) Via.refl e1 (S_hi.ext O0.2) (g := (mkF m 38 #[.val (.ref a1), .val (.int (7 : Int32)), .val (.int p3)] [(.int p3), (.int (6 : Int32)), (.ref a1)])) rfl (hb hby d19_38)
  refine Go.on (B := T4.setTop (mkF m 41 #[.val (.ref a1), .val (.int (7 : Int32)), .val (.int p3)] [(.int (0 : Int32)), (.int p3), (.int (6 : Int32)), (.ref a1)])) (fun t k => st4 _ k) ?_
  refine Go.on (B := T4.setTop (mkF m 42 #[.val (.ref a1), .val (.int (7 : Int32)), .val (.int p3)] [(.int (p3 >>> ((0 : Int32) &&& 31))), (.int (6 : Int32)), (.ref a1)])) (fun t k => XS.ishr X4.here hx rfl (hb hby d19_41) rfl k) ?_
  refine Go.on (B := T4.setTop (mkF m 43 #[.val (.ref a1), .val (.int (7 : Int32)), .val (.int p3)] [(.int ((p3 >>> ((0 : Int32) &&& 31)).toInt8.toInt32)), (.int (6 : Int32)), (.ref a1)])) (fun t k => XS.i2b X4.here hx rfl (hb hby d19_42) rfl k) ?_
  obtain ⟨cl5, Ar5, qq5, Sz5, Ng5, Hh5, Gg5⟩ := id V1
  have hin5 : ¬ ((6 : Int32) < 0 ∨ cl5.slots.size ≤ ((6 : Int32)).toNatClampNeg) := inb_of Sz5 ⟨by decide, by decide⟩
  obtain ⟨T5, h5, X5, e5, W5, st5⟩ := stB X4 hx hZ e4 Ar5 (j := (6 : Int32)) hin5 (g := (mkF m 43 #[.val (.ref a1), .val (.int (7 : Int32)), .val (.int p3)] [(.int ((p3 >>> ((0 : Int32) &&& 31)).toInt8.toInt32)), (.int (6 : Int32)), (.ref a1)])) rfl rfl (hb hby d19_43)
  have V5 : Arv Z h5 a1 k1 .byte (8 : Int32) [w0, w1, w2, w3, w4, w5, (.int (((p3 >>> ((0 : Int32) &&& 31)).toInt8.toInt32).toInt8.toInt32)), w7] (.int (0 : Int32)) := Arv.set Ar5 qq5 Sz5 Ng5 Hh5 Gg5 (fits_nar_byte _) W5 6 rfl (Nat.le_of_ble_eq_true rfl)
  have N5 := Fr.snoc X5 N0 g1
  have O_1 := O0.wr W5 g1
  have Zs2 := Nat.le_trans Z0 (Keep.of_wr W5).1
  have K3 := K0.wr W5 (Or.inl (List.mem_of_getElem? (i := 0) rfl))
  refine Go.on (B := T5.setTop (mkF m 44 #[.val (.ref a1), .val (.int (7 : Int32)), .val (.int p3)] [])) (fun t k => st5 _ k) ?_
  refine Go.on (B := T5.setTop (mkF m 45 #[.val (.ref a1), .val (.int (7 : Int32)), .val (.int p3)] [(.ref a1)])) (fun t k => XS.aloadN X5.here hx rfl (hb hby d19_44) rfl rfl k) ?_
  refine Go.on (B := T5.setTop (mkF m 46 #[.val (.ref a1), .val (.int (7 : Int32)), .val (.int p3)] [(.int (7 : Int32)), (.ref a1)])) (fun t k => XS.iloadN X5.here hx rfl (hb hby d19_45) rfl k) ?_
  refine Go.on (B := T5.setTop (mkF m 47 #[.val (.ref a1), .val (.int (7 : Int32)), .val (.int p3)] [(.int p3), (.int (7 : Int32)), (.ref a1)])) (fun t k => XS.iloadN X5.here hx rfl (hb hby d19_46) rfl k) ?_
  obtain ⟨T6, X6, e6, st6⟩ := getS2 X5 hx hZ hown (host := "") (Or.inl (hw _ (List.mem_of_getElem? (i := 84) rfl))) Via.refl e5 (S_lo.ext O_1.2) (g := (mkF m 47 #[.val (.ref a1), .val (.int (7 : Int32)), .val (.int p3)] [(.int p3), (.int (7 : Int32)), (.ref a1)])) rfl (hb hby d19_47)
  refine Go.on (B := T6.setTop (mkF m 50 #[.val (.ref a1), .val (.int (7 : Int32)), .val (.int p3)] [(.int (8 : Int32)), (.int p3), (.int (7 : Int32)), (.ref a1)])) (fun t k => st6 _ k) ?_
  refine Go.on (B := T6.setTop (mkF m 51 #[.val (.ref a1), .val (.int (7 : Int32)), .val (.int p3)] [(.int (p3 >>> ((8 : Int32) &&& 31))), (.int (7 : Int32)), (.ref a1)])) (fun t k => XS.ishr X6.here hx rfl (hb hby d19_50) rfl k) ?_
  refine Go.on (B := T6.setTop (mkF m 52 #[.val (.ref a1), .val (.int (7 : Int32)), .val (.int p3)] [(.int ((p3 >>> ((8 : Int32) &&& 31)).toInt8.toInt32)), (.int (7 : Int32)), (.ref a1)])) (fun t k => XS.i2b X6.here hx rfl (hb hby d19_51) rfl k) ?_
  obtain ⟨cl7, Ar7, qq7, Sz7, Ng7, Hh7, Gg7⟩ := id V5
  have hin7 : ¬ ((7 : Int32) < 0 ∨ cl7.slots.size ≤ ((7 : Int32)).toNatClampNeg) := inb_of Sz7 ⟨by decide, by decide⟩
  obtain ⟨T7, h7, X7, e7, W7, st7⟩ := stB X6 hx hZ e6 Ar7 (j := (7 : Int32)) hin7 (g := (mkF m 52 #[.val (.ref a1), .val (.int (7 : Int32)), .val (.int p3)] [(.int ((p3 >>> ((8 : Int32) &&& 31)).toInt8.toInt32)), (.int (7 : Int32)), (.ref a1)])) rfl rfl (hb hby d19_52)
  have V7 : Arv Z h7 a1 k1 .byte (8 : Int32) [w0, w1, w2, w3, w4, w5, (.int (((p3 >>> ((0 : Int32) &&& 31)).toInt8.toInt32).toInt8.toInt32)), (.int (((p3 >>> ((8 : Int32) &&& 31)).toInt8.toInt32).toInt8.toInt32))] (.int (0 : Int32)) := Arv.set Ar7 qq7 Sz7 Ng7 Hh7 Gg7 (fits_nar_byte _) W7 7 rfl (Nat.le_of_ble_eq_true rfl)
  have N7 := Fr.snoc X7 N5 g1
  have O_4 := O_1.wr W7 g1
  have Zs5 := Nat.le_trans Zs2 (Keep.of_wr W7).1
  have K6 := K3.wr W7 (Or.inl (List.mem_of_getElem? (i := 0) rfl))
  refine Go.on (B := T7.setTop (mkF m 53 #[.val (.ref a1), .val (.int (7 : Int32)), .val (.int p3)] [])) (fun t k => st7 _ k) ?_
  obtain ⟨fs, hr, hrun, hended, hW, hsame⟩ := X7.leave (v := none) (fun _ => rfl)
  refine ⟨_, _, ?_, hrun, hended, _, _, rfl, ?_, ⟨_, rfl⟩, hW, hsame.mono (by decide) (by decide)⟩
  · exact X7.returnOut hx Bd.returns (hb hby d19_53) hr
  · show Q_rpc_4_3 Z a1 p3 k1 w0 w1 w2 w3 w4 w5 w6 w7 h0 n0 _ T7.heap _
    rw [e7]
    exact ⟨rfl, N7, K6, V7⟩
theorem d16_0 : decode jdk_52_method_14_code 0 = .ok (.iload_n 2, 1) := by decide +kernel
theorem d16_1 : decode jdk_52_method_14_code 1 = .ok (.invokestatic 107, 3) := by decide +kernel
theorem d16_4 : decode jdk_52_method_14_code 4 = .ok (.astore_n 3, 1) := by decide +kernel
theorem d16_5 : decode jdk_52_method_14_code 5 = .ok (.iconst 0, 1) := by decide +kernel
theorem d16_6 : decode jdk_52_method_14_code 6 = .ok (.istore 4, 2) := by decide +kernel
theorem d16_8 : decode jdk_52_method_14_code 8 = .ok (.iload 4, 2) := by decide +kernel
theorem d16_10 : decode jdk_52_method_14_code 10 = .ok (.iload_n 2, 1) := by decide +kernel
theorem d16_11 : decode jdk_52_method_14_code 11 = .ok (.if_icmp .ge 21, 3) := by decide +kernel
theorem d16_14 : decode jdk_52_method_14_code 14 = .ok (.aload_n 3, 1) := by decide +kernel
theorem d16_15 : decode jdk_52_method_14_code 15 = .ok (.iload 4, 2) := by decide +kernel
theorem d16_17 : decode jdk_52_method_14_code 17 = .ok (.aload_n 0, 1) := by decide +kernel
theorem d16_18 : decode jdk_52_method_14_code 18 = .ok (.iload_n 1, 1) := by decide +kernel
theorem d16_19 : decode jdk_52_method_14_code 19 = .ok (.caload, 1) := by decide +kernel
theorem d16_20 : decode jdk_52_method_14_code 20 = .ok (.invokestatic 111, 3) := by decide +kernel
theorem d16_23 : decode jdk_52_method_14_code 23 = .ok (.iinc 1 1, 3) := by decide +kernel
theorem d16_26 : decode jdk_52_method_14_code 26 = .ok (.iinc 4 1, 3) := by decide +kernel
theorem d16_29 : decode jdk_52_method_14_code 29 = .ok (.goto (-21), 3) := by decide +kernel
theorem d16_32 : decode jdk_52_method_14_code 32 = .ok (.aload_n 3, 1) := by decide +kernel
theorem d16_33 : decode jdk_52_method_14_code 33 = .ok (.areturn, 1) := by decide +kernel
theorem pd_7 : parseMethodDescriptor "(I)[B" = some ⟨[.int], some (.array .byte)⟩ := by decide +kernel
theorem pd_8 : parseMethodDescriptor "([BII)V" = some ⟨[(.array .byte), .int, .int], none⟩ := by decide +kernel
theorem ef_rtb_4 (m : MethodId) (a1 : Addr) : entryFrame m #[(.ref a1), (.int (0 : Int32)), (.int (4 : Int32))] 5 = mkF m 0 #[.val (.ref a1), .val (.int (0 : Int32)), .val (.int (4 : Int32)), .unset, .unset] [] := by first | (simp [entryFrame, mkF, argsToLocals, Value.category]; done) | rfl
def Q_rtb_4 (Z : State) (a1 : Addr) (kc : ClassId) (c0 c1 c2 c3 : Int32) (h0 : Heap) (n0 : Nat) (v : Option Value) (h : Heap) (L : List Loc) : Prop := (∃ (b : Addr) (kb : ClassId), v = some (.ref b) ∧ h0.size ≤ b ∧ Arv Z h b kb .byte (8 : Int32) [(.int ((((c0 >>> ((0 : Int32) &&& 31))).toInt8.toInt32).toInt8.toInt32)), (.int ((((c0 >>> ((8 : Int32) &&& 31))).toInt8.toInt32).toInt8.toInt32)), (.int ((((c1 >>> ((0 : Int32) &&& 31))).toInt8.toInt32).toInt8.toInt32)), (.int ((((c1 >>> ((8 : Int32) &&& 31))).toInt8.toInt32).toInt8.toInt32)), (.int ((((c2 >>> ((0 : Int32) &&& 31))).toInt8.toInt32).toInt8.toInt32)), (.int ((((c2 >>> ((8 : Int32) &&& 31))).toInt8.toInt32).toInt8.toInt32)), (.int ((((c3 >>> ((0 : Int32) &&& 31))).toInt8.toInt32).toInt8.toInt32)), (.int ((((c3 >>> ((8 : Int32) &&& 31))).toInt8.toInt32).toInt8.toInt32))] (.int (0 : Int32))) ∧ Fr n0 L ∧ Keep h0 h []
set_option maxRecDepth 65536 in
set_option maxHeartbeats 40000000 in
theorem rtb_4 (l : Launch) (Z : State) (a0 : Array Value) (hw : ∀ d ∈ tables_1, d.before a0 Z = true) (ws : List Jvm.Cond) (a1 : Addr) (kc : ClassId) (c0 c1 c2 c3 : Int32) (h0 : Heap) (n0 : Nat) (Z0 : n0 ≤ h0.size) (V1 : Arv Z h0 a1 kc .char (4 : Int32) [(.int c0), (.int c1), (.int c2), (.int c3)] (.int (0 : Int32))) (O0 : Old Z n0 h0) (S_ad : Sta Z Z.heap "java/lang/StringUTF16" "$assertionsDisabled" "Z" (.int (1 : Int32))) (S_hi : Sta Z Z.heap "java/lang/StringUTF16" "HI_BYTE_SHIFT" "I" (.int (0 : Int32))) (S_lo : Sta Z Z.heap "java/lang/StringUTF16" "LO_BYTE_SHIFT" "I" (.int (8 : Int32))) :
    MetFree l (⟨"java/lang/StringUTF16", "toBytes", "([CII)[B"⟩ : MethodName) (head1 (Jvm.Cond.code (⟨"java/lang/StringUTF16", "toBytes", "([CII)[B"⟩ : MethodName) jdk_52_method_14_code 5 (some (.array .byte)) :: ws) ({ frames := 2, cells := 1, slots := 8, locals := 30 } : Room)) (fun a U => a = #[(.ref a1), (.int (0 : Int32)), (.int (4 : Int32))] ∧ Z.Warmed39 U.vm ∧ U.heap = h0) (fun _ _ _ _ _ => True) (fun _ U o U' => ∃ v L, o = .returned v ∧ Q_rtb_4 Z a1 kc c0 c1 c2 c3 h0 n0 v U'.heap L ∧ FrameEnd U o U' L ({ frames := 2, cells := 1, slots := 8, locals := 30 } : Room).cells ({ frames := 2, cells := 1, slots := 8, locals := 30 } : Room).slots) := by
  refine MetFree.of_bodySF (plainFor_of_name pn_10) hisR ?_
  intro p e s m args below meth c s₁ Bd hml0 hP hK
  obtain ⟨rfl, hZ, hh⟩ := hP
  have hx := Bd.exec
  have hby := Bd.bytes
  have hml : c.maxLocals = 5 := hml0
  have hown : s.vm.findClass "java/lang/StringUTF16" = some m.cls := findClass_of_methodNamed Bd.named
  have hnm := (name_of_methodNamed Bd.named Bd.method).1
  have X0 : Stand p l e ({ frames := 2, cells := 1, slots := 8, locals := 30 } : Room) s m #[(.ref a1), (.int (0 : Int32)), (.int (4 : Int32))] below meth c s₁ [] 0 0 := Stand.of_body Bd
  have e0 : s₁.heap = h0 := by rw [← hh, Bd.state]; rfl
  have N0 := Fr.nil n0
  have pre0 : ∀ t, Steps p.tables e below (s₁.setTop (mkF m 0 #[.val (.ref a1), .val (.int (0 : Int32)), .val (.int (4 : Int32)), .unset, .unset] [])) t → Steps p.tables e below (s₁.setTop (entryFrame m #[(.ref a1), (.int (0 : Int32)), (.int (4 : Int32))] 5)) t := fun t k => castTop (ef_rtb_4 m a1) k
  change Go p.tables e below (fun o U' => ∃ v L, o = .returned v ∧ Q_rtb_4 Z a1 kc c0 c1 c2 c3 h0 n0 v U'.heap L ∧ FrameEnd s o U' L ({ frames := 2, cells := 1, slots := 8, locals := 30 } : Room).cells ({ frames := 2, cells := 1, slots := 8, locals := 30 } : Room).slots) (s₁.setTop (entryFrame m #[(.ref a1), (.int (0 : Int32)), (.int (4 : Int32))] 5))
  have K0 := Keep.refl h0 []
  refine Go.on pre0 ?_
  refine Go.on (B := s₁.setTop (mkF m 1 #[.val (.ref a1), .val (.int (0 : Int32)), .val (.int (4 : Int32)), .unset, .unset] [(.int (4 : Int32))])) (fun t k => XS.iloadN X0.here hx rfl (hb hby d16_0) rfl k) ?_
  obtain ⟨_, _, ⟨T1, L1, k1, n1⟩, -, X1, ⟨Lc1, hQ1, l1, y1, z1⟩, st1⟩ := Jvm.LawKit.callS X0 hx (y := (⟨"java/lang/StringUTF16", "newBytesFor", "(I)[B"⟩ : MethodName)) hown (mvT hZ (hw _ (List.mem_of_getElem? (i := 72) rfl))) (mvT hZ (hw _ (List.mem_of_getElem? (i := 73) rfl))) (mvT hZ (hw _ (List.mem_of_getElem? (i := 23) rfl))) (mvT hZ (hw _ (List.mem_of_getElem? (i := 74) rfl))) (by decide) (backOf (W := 0) (rnf_4 l Z a0 hw []  h0 n0 Z0) hZ (hw _ (List.mem_of_getElem? (i := 74) rfl)) (hw _ (List.mem_of_getElem? (i := 23) rfl)) (by decide) (by decide)) (g := (mkF m 1 #[.val (.ref a1), .val (.int (0 : Int32)), .val (.int (4 : Int32)), .unset, .unset] [(.int (4 : Int32))])) rfl (by rw [hml]; rfl) (argsL := [(.int (4 : Int32))]) (rest := []) (lenOf pd_7 rfl) rfl (by show 2 * 0 + _ ≤ _; exact Nat.le_of_eq rfl) (hb hby d16_1) (fun _ _ => ⟨rfl, e0, (by decide : 0 + 1 ≤ _), (by decide : 0 + 8 ≤ _)⟩)
  dsimp only [Pt.U, Pt.locs, Pt.cells, Pt.slots] at X1 l1 y1 z1 st1 hQ1
  subst l1 y1 z1
  obtain ⟨⟨y1, ky1, rfl, sx1, Vy1⟩, N1q, K1q⟩ := hQ1
  have N1 := Fr.app N0 N1q
  have ne_a1_y1 : a1 ≠ y1 := Nat.ne_of_lt (Nat.lt_of_lt_of_le V1.lt sx1)
  have ge_y1 : n0 ≤ y1 := Nat.le_trans Z0 sx1
  have sz_y1 : h0.size ≤ y1 := Nat.le_trans K0.1 sx1
  have f1 := V1.keep K1q nin0
  have O_2 := O0.keep K1q all0
  have Zs3 := Nat.le_trans Z0 K1q.1
  have K4 := K0.trans K1q all0
  refine Go.on (B := T1.setTop (mkF m 4 #[.val (.ref a1), .val (.int (0 : Int32)), .val (.int (4 : Int32)), .unset, .unset] [(.ref y1)])) (fun t k => st1 _ k) ?_
  refine Go.on (B := T1.setTop (mkF m 5 #[.val (.ref a1), .val (.int (0 : Int32)), .val (.int (4 : Int32)), .val (.ref y1), .unset] [])) (fun t k => XS.astoreN X1.here hx rfl (hb hby d16_4) rfl rfl (l' := #[.val (.ref a1), .val (.int (0 : Int32)), .val (.int (4 : Int32)), .val (.ref y1), .unset]) rfl k) ?_
  refine Go.on (B := T1.setTop (mkF m 6 #[.val (.ref a1), .val (.int (0 : Int32)), .val (.int (4 : Int32)), .val (.ref y1), .unset] [(.int (0 : Int32))])) (fun t k => XS.iconst X1.here hx rfl (hb hby d16_5) k) ?_
  refine Go.on (B := T1.setTop (mkF m 8 #[.val (.ref a1), .val (.int (0 : Int32)), .val (.int (4 : Int32)), .val (.ref y1), .val (.int (0 : Int32))] [])) (fun t k => XS.istore X1.here hx rfl (hb hby d16_6) rfl (l' := #[.val (.ref a1), .val (.int (0 : Int32)), .val (.int (4 : Int32)), .val (.ref y1), .val (.int (0 : Int32))]) rfl k) ?_
  refine Go.on (B := T1.setTop (mkF m 10 #[.val (.ref a1), .val (.int (0 : Int32)), .val (.int (4 : Int32)), .val (.ref y1), .val (.int (0 : Int32))] [(.int (0 : Int32))])) (fun t k => XS.iload X1.here hx rfl (hb hby d16_8) rfl k) ?_
  refine Go.on (B := T1.setTop (mkF m 11 #[.val (.ref a1), .val (.int (0 : Int32)), .val (.int (4 : Int32)), .val (.ref y1), .val (.int (0 : Int32))] [(.int (4 : Int32)), (.int (0 : Int32))])) (fun t k => XS.iloadN X1.here hx rfl (hb hby d16_10) rfl k) ?_
  have hc11_3 : (0 : Int32) < (4 : Int32) := by decide
  refine Go.on (B := T1.setTop (mkF m 14 #[.val (.ref a1), .val (.int (0 : Int32)), .val (.int (4 : Int32)), .val (.ref y1), .val (.int (0 : Int32))] [])) (fun t k => XS.icmpNo X1.here hx rfl (hb hby d16_11) rfl (tlt hc11_3).2.1 k) ?_
  refine Go.on (B := T1.setTop (mkF m 15 #[.val (.ref a1), .val (.int (0 : Int32)), .val (.int (4 : Int32)), .val (.ref y1), .val (.int (0 : Int32))] [(.ref y1)])) (fun t k => XS.aloadN X1.here hx rfl (hb hby d16_14) rfl rfl k) ?_
  refine Go.on (B := T1.setTop (mkF m 17 #[.val (.ref a1), .val (.int (0 : Int32)), .val (.int (4 : Int32)), .val (.ref y1), .val (.int (0 : Int32))] [(.int (0 : Int32)), (.ref y1)])) (fun t k => XS.iload X1.here hx rfl (hb hby d16_15) rfl k) ?_
  refine Go.on (B := T1.setTop (mkF m 18 #[.val (.ref a1), .val (.int (0 : Int32)), .val (.int (4 : Int32)), .val (.ref y1), .val (.int (0 : Int32))] [(.ref a1), (.int (0 : Int32)), (.ref y1)])) (fun t k => XS.aloadN X1.here hx rfl (hb hby d16_17) rfl rfl k) ?_
  refine Go.on (B := T1.setTop (mkF m 19 #[.val (.ref a1), .val (.int (0 : Int32)), .val (.int (4 : Int32)), .val (.ref y1), .val (.int (0 : Int32))] [(.int (0 : Int32)), (.ref a1), (.int (0 : Int32)), (.ref y1)])) (fun t k => XS.iloadN X1.here hx rfl (hb hby d16_18) rfl k) ?_
  obtain ⟨cl4, Ar4, qq4, Sz4, Ng4, Hh4, Gg4⟩ := id f1
  have hin4 : ¬ ((0 : Int32) < 0 ∨ cl4.slots.size ≤ ((0 : Int32)).toNatClampNeg) := inb_of Sz4 ⟨by decide, by decide⟩
  have hat4 : cl4.slots[((0 : Int32)).toNatClampNeg]? = some (.int c0) := Hh4.at hin4 rfl
  refine Go.on (B := T1.setTop (mkF m 20 #[.val (.ref a1), .val (.int (0 : Int32)), .val (.int (4 : Int32)), .val (.ref y1), .val (.int (0 : Int32))] [(.int c0), (.int (0 : Int32)), (.ref y1)])) (fun t k => X1.caload hx (j := (0 : Int32)) (v := (.int c0)) Ar4.1 (State.isArrayOf_alike hZ.alike Ar4.2.1) Ar4.2.2 hin4 hat4 (g := (mkF m 19 #[.val (.ref a1), .val (.int (0 : Int32)), .val (.int (4 : Int32)), .val (.ref y1), .val (.int (0 : Int32))] [(.int (0 : Int32)), (.ref a1), (.int (0 : Int32)), (.ref y1)])) rfl rfl (hb hby d16_19) _ k) ?_
  obtain ⟨_, _, ⟨T5, L5, k5, n5⟩, -, X5, ⟨Lc5, hQ5, l5, y5, z5⟩, st5⟩ := Jvm.LawKit.callS X1 hx (y := (⟨"java/lang/StringUTF16", "putChar", "([BII)V"⟩ : MethodName)) hown (mvT hZ (hw _ (List.mem_of_getElem? (i := 79) rfl))) (mvT hZ (hw _ (List.mem_of_getElem? (i := 80) rfl))) (mvT hZ (hw _ (List.mem_of_getElem? (i := 23) rfl))) (mvT hZ (hw _ (List.mem_of_getElem? (i := 81) rfl))) (by decide) (backOf (W := 0) (rpc_4_0 l Z a0 hw [] y1 c0 ky1 (.int (0 : Int32)) (.int (0 : Int32)) (.int (0 : Int32)) (.int (0 : Int32)) (.int (0 : Int32)) (.int (0 : Int32)) (.int (0 : Int32)) (.int (0 : Int32)) T1.heap n0 Zs3 Vy1 ge_y1 O_2 S_ad S_hi S_lo) hZ (hw _ (List.mem_of_getElem? (i := 81) rfl)) (hw _ (List.mem_of_getElem? (i := 23) rfl)) (by decide) (by decide)) (g := (mkF m 20 #[.val (.ref a1), .val (.int (0 : Int32)), .val (.int (4 : Int32)), .val (.ref y1), .val (.int (0 : Int32))] [(.int c0), (.int (0 : Int32)), (.ref y1)])) rfl (by rw [hml]; rfl) (argsL := [(.ref y1), (.int (0 : Int32)), (.int c0)]) (rest := []) (lenOf pd_8 rfl) rfl (by show 2 * 0 + _ ≤ _; exact Nat.le_of_eq rfl) (hb hby d16_20) (fun _ _ => ⟨rfl, rfl, (by decide : 1 + 0 ≤ _), (by decide : 8 + 0 ≤ _)⟩)
  dsimp only [Pt.U, Pt.locs, Pt.cells, Pt.slots] at X5 l5 y5 z5 st5 hQ5
  subst l5 y5 z5
  obtain ⟨rfl, N5q, K5q, G5_0⟩ := hQ5
  have N5 := Fr.app N1 N5q
  have f5 := f1.keep K5q (ninS ne_a1_y1 nin0)
  have O_6 := O_2.keep K5q (allS ge_y1 all0)
  have Zs7 := Nat.le_trans Zs3 K5q.1
  have K8 := K4.trans K5q (allS (Or.inr sz_y1) all0)
  refine Go.on (B := T5.setTop (mkF m 23 #[.val (.ref a1), .val (.int (0 : Int32)), .val (.int (4 : Int32)), .val (.ref y1), .val (.int (0 : Int32))] [])) (fun t k => st5 _ k) ?_
  refine Go.on (B := T5.setTop (mkF m 26 #[.val (.ref a1), .val (.int ((0 : Int32) + (1 : Int32))), .val (.int (4 : Int32)), .val (.ref y1), .val (.int (0 : Int32))] [])) (fun t k => XS.iinc X5.here hx rfl (hb hby d16_23) rfl (l' := #[.val (.ref a1), .val (.int ((0 : Int32) + (1 : Int32))), .val (.int (4 : Int32)), .val (.ref y1), .val (.int (0 : Int32))]) rfl k) ?_
  rw [show ((0 : Int32) + (1 : Int32)) = (1 : Int32) from by decide]
  refine Go.on (B := T5.setTop (mkF m 29 #[.val (.ref a1), .val (.int (1 : Int32)), .val (.int (4 : Int32)), .val (.ref y1), .val (.int ((0 : Int32) + (1 : Int32)))] [])) (fun t k => XS.iinc X5.here hx rfl (hb hby d16_26) rfl (l' := #[.val (.ref a1), .val (.int (1 : Int32)), .val (.int (4 : Int32)), .val (.ref y1), .val (.int ((0 : Int32) + (1 : Int32)))]) rfl k) ?_
  rw [show ((0 : Int32) + (1 : Int32)) = (1 : Int32) from by decide]
  refine Go.on (B := T5.setTop (mkF m 8 #[.val (.ref a1), .val (.int (1 : Int32)), .val (.int (4 : Int32)), .val (.ref y1), .val (.int (1 : Int32))] [])) (fun t k => XS.goto X5.here hx rfl (pc0 := 29) (pc' := 8) rfl (hb hby d16_29) (by decide) (by decide) k) ?_
  refine Go.on (B := T5.setTop (mkF m 10 #[.val (.ref a1), .val (.int (1 : Int32)), .val (.int (4 : Int32)), .val (.ref y1), .val (.int (1 : Int32))] [(.int (1 : Int32))])) (fun t k => XS.iload X5.here hx rfl (hb hby d16_8) rfl k) ?_
  refine Go.on (B := T5.setTop (mkF m 11 #[.val (.ref a1), .val (.int (1 : Int32)), .val (.int (4 : Int32)), .val (.ref y1), .val (.int (1 : Int32))] [(.int (4 : Int32)), (.int (1 : Int32))])) (fun t k => XS.iloadN X5.here hx rfl (hb hby d16_10) rfl k) ?_
  have hc11_6 : (1 : Int32) < (4 : Int32) := by decide
  refine Go.on (B := T5.setTop (mkF m 14 #[.val (.ref a1), .val (.int (1 : Int32)), .val (.int (4 : Int32)), .val (.ref y1), .val (.int (1 : Int32))] [])) (fun t k => XS.icmpNo X5.here hx rfl (hb hby d16_11) rfl (tlt hc11_6).2.1 k) ?_
  refine Go.on (B := T5.setTop (mkF m 15 #[.val (.ref a1), .val (.int (1 : Int32)), .val (.int (4 : Int32)), .val (.ref y1), .val (.int (1 : Int32))] [(.ref y1)])) (fun t k => XS.aloadN X5.here hx rfl (hb hby d16_14) rfl rfl k) ?_
  refine Go.on (B := T5.setTop (mkF m 17 #[.val (.ref a1), .val (.int (1 : Int32)), .val (.int (4 : Int32)), .val (.ref y1), .val (.int (1 : Int32))] [(.int (1 : Int32)), (.ref y1)])) (fun t k => XS.iload X5.here hx rfl (hb hby d16_15) rfl k) ?_
  refine Go.on (B := T5.setTop (mkF m 18 #[.val (.ref a1), .val (.int (1 : Int32)), .val (.int (4 : Int32)), .val (.ref y1), .val (.int (1 : Int32))] [(.ref a1), (.int (1 : Int32)), (.ref y1)])) (fun t k => XS.aloadN X5.here hx rfl (hb hby d16_17) rfl rfl k) ?_
  refine Go.on (B := T5.setTop (mkF m 19 #[.val (.ref a1), .val (.int (1 : Int32)), .val (.int (4 : Int32)), .val (.ref y1), .val (.int (1 : Int32))] [(.int (1 : Int32)), (.ref a1), (.int (1 : Int32)), (.ref y1)])) (fun t k => XS.iloadN X5.here hx rfl (hb hby d16_18) rfl k) ?_
  obtain ⟨cl7, Ar7, qq7, Sz7, Ng7, Hh7, Gg7⟩ := id f5
  have hin7 : ¬ ((1 : Int32) < 0 ∨ cl7.slots.size ≤ ((1 : Int32)).toNatClampNeg) := inb_of Sz7 ⟨by decide, by decide⟩
  have hat7 : cl7.slots[((1 : Int32)).toNatClampNeg]? = some (.int c1) := Hh7.at hin7 rfl
  refine Go.on (B := T5.setTop (mkF m 20 #[.val (.ref a1), .val (.int (1 : Int32)), .val (.int (4 : Int32)), .val (.ref y1), .val (.int (1 : Int32))] [(.int c1), (.int (1 : Int32)), (.ref y1)])) (fun t k => X5.caload hx (j := (1 : Int32)) (v := (.int c1)) Ar7.1 (State.isArrayOf_alike hZ.alike Ar7.2.1) Ar7.2.2 hin7 hat7 (g := (mkF m 19 #[.val (.ref a1), .val (.int (1 : Int32)), .val (.int (4 : Int32)), .val (.ref y1), .val (.int (1 : Int32))] [(.int (1 : Int32)), (.ref a1), (.int (1 : Int32)), (.ref y1)])) rfl rfl (hb hby d16_19) _ k) ?_
  obtain ⟨_, _, ⟨T8, L8, k8, n8⟩, -, X8, ⟨Lc8, hQ8, l8, y8, z8⟩, st8⟩ := Jvm.LawKit.callS X5 hx (y := (⟨"java/lang/StringUTF16", "putChar", "([BII)V"⟩ : MethodName)) hown (mvT hZ (hw _ (List.mem_of_getElem? (i := 79) rfl))) (mvT hZ (hw _ (List.mem_of_getElem? (i := 80) rfl))) (mvT hZ (hw _ (List.mem_of_getElem? (i := 23) rfl))) (mvT hZ (hw _ (List.mem_of_getElem? (i := 81) rfl))) (by decide) (backOf (W := 0) (rpc_4_1 l Z a0 hw [] y1 c1 ky1 (.int ((((c0 >>> ((0 : Int32) &&& 31))).toInt8.toInt32).toInt8.toInt32)) (.int ((((c0 >>> ((8 : Int32) &&& 31))).toInt8.toInt32).toInt8.toInt32)) (.int (0 : Int32)) (.int (0 : Int32)) (.int (0 : Int32)) (.int (0 : Int32)) (.int (0 : Int32)) (.int (0 : Int32)) T5.heap n0 Zs7 G5_0 ge_y1 O_6 S_ad S_hi S_lo) hZ (hw _ (List.mem_of_getElem? (i := 81) rfl)) (hw _ (List.mem_of_getElem? (i := 23) rfl)) (by decide) (by decide)) (g := (mkF m 20 #[.val (.ref a1), .val (.int (1 : Int32)), .val (.int (4 : Int32)), .val (.ref y1), .val (.int (1 : Int32))] [(.int c1), (.int (1 : Int32)), (.ref y1)])) rfl (by rw [hml]; rfl) (argsL := [(.ref y1), (.int (1 : Int32)), (.int c1)]) (rest := []) (lenOf pd_8 rfl) rfl (by show 2 * 0 + _ ≤ _; exact Nat.le_of_eq rfl) (hb hby d16_20) (fun _ _ => ⟨rfl, rfl, (by decide : 1 + 0 ≤ _), (by decide : 8 + 0 ≤ _)⟩)
  dsimp only [Pt.U, Pt.locs, Pt.cells, Pt.slots] at X8 l8 y8 z8 st8 hQ8
  subst l8 y8 z8
  obtain ⟨rfl, N8q, K8q, G8_0⟩ := hQ8
  have N8 := Fr.app N5 N8q
  have f9 := f5.keep K8q (ninS ne_a1_y1 nin0)
  have O_10 := O_6.keep K8q (allS ge_y1 all0)
  have Zs11 := Nat.le_trans Zs7 K8q.1
  have K12 := K8.trans K8q (allS (Or.inr sz_y1) all0)
  refine Go.on (B := T8.setTop (mkF m 23 #[.val (.ref a1), .val (.int (1 : Int32)), .val (.int (4 : Int32)), .val (.ref y1), .val (.int (1 : Int32))] [])) (fun t k => st8 _ k) ?_
  refine Go.on (B := T8.setTop (mkF m 26 #[.val (.ref a1), .val (.int ((1 : Int32) + (1 : Int32))), .val (.int (4 : Int32)), .val (.ref y1), .val (.int (1 : Int32))] [])) (fun t k => XS.iinc X8.here hx rfl (hb hby d16_23) rfl (l' := #[.val (.ref a1), .val (.int ((1 : Int32) + (1 : Int32))), .val (.int (4 : Int32)), .val (.ref y1), .val (.int (1 : Int32))]) rfl k) ?_
  rw [show ((1 : Int32) + (1 : Int32)) = (2 : Int32) from by decide]
  refine Go.on (B := T8.setTop (mkF m 29 #[.val (.ref a1), .val (.int (2 : Int32)), .val (.int (4 : Int32)), .val (.ref y1), .val (.int ((1 : Int32) + (1 : Int32)))] [])) (fun t k => XS.iinc X8.here hx rfl (hb hby d16_26) rfl (l' := #[.val (.ref a1), .val (.int (2 : Int32)), .val (.int (4 : Int32)), .val (.ref y1), .val (.int ((1 : Int32) + (1 : Int32)))]) rfl k) ?_
  rw [show ((1 : Int32) + (1 : Int32)) = (2 : Int32) from by decide]
  refine Go.on (B := T8.setTop (mkF m 8 #[.val (.ref a1), .val (.int (2 : Int32)), .val (.int (4 : Int32)), .val (.ref y1), .val (.int (2 : Int32))] [])) (fun t k => XS.goto X8.here hx rfl (pc0 := 29) (pc' := 8) rfl (hb hby d16_29) (by decide) (by decide) k) ?_
  refine Go.on (B := T8.setTop (mkF m 10 #[.val (.ref a1), .val (.int (2 : Int32)), .val (.int (4 : Int32)), .val (.ref y1), .val (.int (2 : Int32))] [(.int (2 : Int32))])) (fun t k => XS.iload X8.here hx rfl (hb hby d16_8) rfl k) ?_
  refine Go.on (B := T8.setTop (mkF m 11 #[.val (.ref a1), .val (.int (2 : Int32)), .val (.int (4 : Int32)), .val (.ref y1), .val (.int (2 : Int32))] [(.int (4 : Int32)), (.int (2 : Int32))])) (fun t k => XS.iloadN X8.here hx rfl (hb hby d16_10) rfl k) ?_
  have hc11_9 : (2 : Int32) < (4 : Int32) := by decide
  refine Go.on (B := T8.setTop (mkF m 14 #[.val (.ref a1), .val (.int (2 : Int32)), .val (.int (4 : Int32)), .val (.ref y1), .val (.int (2 : Int32))] [])) (fun t k => XS.icmpNo X8.here hx rfl (hb hby d16_11) rfl (tlt hc11_9).2.1 k) ?_
  refine Go.on (B := T8.setTop (mkF m 15 #[.val (.ref a1), .val (.int (2 : Int32)), .val (.int (4 : Int32)), .val (.ref y1), .val (.int (2 : Int32))] [(.ref y1)])) (fun t k => XS.aloadN X8.here hx rfl (hb hby d16_14) rfl rfl k) ?_
  refine Go.on (B := T8.setTop (mkF m 17 #[.val (.ref a1), .val (.int (2 : Int32)), .val (.int (4 : Int32)), .val (.ref y1), .val (.int (2 : Int32))] [(.int (2 : Int32)), (.ref y1)])) (fun t k => XS.iload X8.here hx rfl (hb hby d16_15) rfl k) ?_
  refine Go.on (B := T8.setTop (mkF m 18 #[.val (.ref a1), .val (.int (2 : Int32)), .val (.int (4 : Int32)), .val (.ref y1), .val (.int (2 : Int32))] [(.ref a1), (.int (2 : Int32)), (.ref y1)])) (fun t k => XS.aloadN X8.here hx rfl (hb hby d16_17) rfl rfl k) ?_
  refine Go.on (B := T8.setTop (mkF m 19 #[.val (.ref a1), .val (.int (2 : Int32)), .val (.int (4 : Int32)), .val (.ref y1), .val (.int (2 : Int32))] [(.int (2 : Int32)), (.ref a1), (.int (2 : Int32)), (.ref y1)])) (fun t k => XS.iloadN X8.here hx rfl (hb hby d16_18) rfl k) ?_
  obtain ⟨cl10, Ar10, qq10, Sz10, Ng10, Hh10, Gg10⟩ := id f9
  have hin10 : ¬ ((2 : Int32) < 0 ∨ cl10.slots.size ≤ ((2 : Int32)).toNatClampNeg) := inb_of Sz10 ⟨by decide, by decide⟩
  have hat10 : cl10.slots[((2 : Int32)).toNatClampNeg]? = some (.int c2) := Hh10.at hin10 rfl
  refine Go.on (B := T8.setTop (mkF m 20 #[.val (.ref a1), .val (.int (2 : Int32)), .val (.int (4 : Int32)), .val (.ref y1), .val (.int (2 : Int32))] [(.int c2), (.int (2 : Int32)), (.ref y1)])) (fun t k => X8.caload hx (j := (2 : Int32)) (v := (.int c2)) Ar10.1 (State.isArrayOf_alike hZ.alike Ar10.2.1) Ar10.2.2 hin10 hat10 (g := (mkF m 19 #[.val (.ref a1), .val (.int (2 : Int32)), .val (.int (4 : Int32)), .val (.ref y1), .val (.int (2 : Int32))] [(.int (2 : Int32)), (.ref a1), (.int (2 : Int32)), (.ref y1)])) rfl rfl (hb hby d16_19) _ k) ?_
  obtain ⟨_, _, ⟨T11, L11, k11, n11⟩, -, X11, ⟨Lc11, hQ11, l11, y11, z11⟩, st11⟩ := Jvm.LawKit.callS X8 hx (y := (⟨"java/lang/StringUTF16", "putChar", "([BII)V"⟩ : MethodName)) hown (mvT hZ (hw _ (List.mem_of_getElem? (i := 79) rfl))) (mvT hZ (hw _ (List.mem_of_getElem? (i := 80) rfl))) (mvT hZ (hw _ (List.mem_of_getElem? (i := 23) rfl))) (mvT hZ (hw _ (List.mem_of_getElem? (i := 81) rfl))) (by decide) (backOf (W := 0) (rpc_4_2 l Z a0 hw [] y1 c2 ky1 (.int ((((c0 >>> ((0 : Int32) &&& 31))).toInt8.toInt32).toInt8.toInt32)) (.int ((((c0 >>> ((8 : Int32) &&& 31))).toInt8.toInt32).toInt8.toInt32)) (.int ((((c1 >>> ((0 : Int32) &&& 31))).toInt8.toInt32).toInt8.toInt32)) (.int ((((c1 >>> ((8 : Int32) &&& 31))).toInt8.toInt32).toInt8.toInt32)) (.int (0 : Int32)) (.int (0 : Int32)) (.int (0 : Int32)) (.int (0 : Int32)) T8.heap n0 Zs11 G8_0 ge_y1 O_10 S_ad S_hi S_lo) hZ (hw _ (List.mem_of_getElem? (i := 81) rfl)) (hw _ (List.mem_of_getElem? (i := 23) rfl)) (by decide) (by decide)) (g := (mkF m 20 #[.val (.ref a1), .val (.int (2 : Int32)), .val (.int (4 : Int32)), .val (.ref y1), .val (.int (2 : Int32))] [(.int c2), (.int (2 : Int32)), (.ref y1)])) rfl (by rw [hml]; rfl) (argsL := [(.ref y1), (.int (2 : Int32)), (.int c2)]) (rest := []) (lenOf pd_8 rfl) rfl (by show 2 * 0 + _ ≤ _; exact Nat.le_of_eq rfl) (hb hby d16_20) (fun _ _ => ⟨rfl, rfl, (by decide : 1 + 0 ≤ _), (by decide : 8 + 0 ≤ _)⟩)
  dsimp only [Pt.U, Pt.locs, Pt.cells, Pt.slots] at X11 l11 y11 z11 st11 hQ11
  subst l11 y11 z11
  obtain ⟨rfl, N11q, K11q, G11_0⟩ := hQ11
  have N11 := Fr.app N8 N11q
  have f13 := f9.keep K11q (ninS ne_a1_y1 nin0)
  have O_14 := O_10.keep K11q (allS ge_y1 all0)
  have Zs15 := Nat.le_trans Zs11 K11q.1
  have K16 := K12.trans K11q (allS (Or.inr sz_y1) all0)
  refine Go.on (B := T11.setTop (mkF m 23 #[.val (.ref a1), .val (.int (2 : Int32)), .val (.int (4 : Int32)), .val (.ref y1), .val (.int (2 : Int32))] [])) (fun t k => st11 _ k) ?_
  refine Go.on (B := T11.setTop (mkF m 26 #[.val (.ref a1), .val (.int ((2 : Int32) + (1 : Int32))), .val (.int (4 : Int32)), .val (.ref y1), .val (.int (2 : Int32))] [])) (fun t k => XS.iinc X11.here hx rfl (hb hby d16_23) rfl (l' := #[.val (.ref a1), .val (.int ((2 : Int32) + (1 : Int32))), .val (.int (4 : Int32)), .val (.ref y1), .val (.int (2 : Int32))]) rfl k) ?_
  rw [show ((2 : Int32) + (1 : Int32)) = (3 : Int32) from by decide]
  refine Go.on (B := T11.setTop (mkF m 29 #[.val (.ref a1), .val (.int (3 : Int32)), .val (.int (4 : Int32)), .val (.ref y1), .val (.int ((2 : Int32) + (1 : Int32)))] [])) (fun t k => XS.iinc X11.here hx rfl (hb hby d16_26) rfl (l' := #[.val (.ref a1), .val (.int (3 : Int32)), .val (.int (4 : Int32)), .val (.ref y1), .val (.int ((2 : Int32) + (1 : Int32)))]) rfl k) ?_
  rw [show ((2 : Int32) + (1 : Int32)) = (3 : Int32) from by decide]
  refine Go.on (B := T11.setTop (mkF m 8 #[.val (.ref a1), .val (.int (3 : Int32)), .val (.int (4 : Int32)), .val (.ref y1), .val (.int (3 : Int32))] [])) (fun t k => XS.goto X11.here hx rfl (pc0 := 29) (pc' := 8) rfl (hb hby d16_29) (by decide) (by decide) k) ?_
  refine Go.on (B := T11.setTop (mkF m 10 #[.val (.ref a1), .val (.int (3 : Int32)), .val (.int (4 : Int32)), .val (.ref y1), .val (.int (3 : Int32))] [(.int (3 : Int32))])) (fun t k => XS.iload X11.here hx rfl (hb hby d16_8) rfl k) ?_
  refine Go.on (B := T11.setTop (mkF m 11 #[.val (.ref a1), .val (.int (3 : Int32)), .val (.int (4 : Int32)), .val (.ref y1), .val (.int (3 : Int32))] [(.int (4 : Int32)), (.int (3 : Int32))])) (fun t k => XS.iloadN X11.here hx rfl (hb hby d16_10) rfl k) ?_
  have hc11_12 : (3 : Int32) < (4 : Int32) := by decide
  refine Go.on (B := T11.setTop (mkF m 14 #[.val (.ref a1), .val (.int (3 : Int32)), .val (.int (4 : Int32)), .val (.ref y1), .val (.int (3 : Int32))] [])) (fun t k => XS.icmpNo X11.here hx rfl (hb hby d16_11) rfl (tlt hc11_12).2.1 k) ?_
  refine Go.on (B := T11.setTop (mkF m 15 #[.val (.ref a1), .val (.int (3 : Int32)), .val (.int (4 : Int32)), .val (.ref y1), .val (.int (3 : Int32))] [(.ref y1)])) (fun t k => XS.aloadN X11.here hx rfl (hb hby d16_14) rfl rfl k) ?_
  refine Go.on (B := T11.setTop (mkF m 17 #[.val (.ref a1), .val (.int (3 : Int32)), .val (.int (4 : Int32)), .val (.ref y1), .val (.int (3 : Int32))] [(.int (3 : Int32)), (.ref y1)])) (fun t k => XS.iload X11.here hx rfl (hb hby d16_15) rfl k) ?_
  refine Go.on (B := T11.setTop (mkF m 18 #[.val (.ref a1), .val (.int (3 : Int32)), .val (.int (4 : Int32)), .val (.ref y1), .val (.int (3 : Int32))] [(.ref a1), (.int (3 : Int32)), (.ref y1)])) (fun t k => XS.aloadN X11.here hx rfl (hb hby d16_17) rfl rfl k) ?_
  refine Go.on (B := T11.setTop (mkF m 19 #[.val (.ref a1), .val (.int (3 : Int32)), .val (.int (4 : Int32)), .val (.ref y1), .val (.int (3 : Int32))] [(.int (3 : Int32)), (.ref a1), (.int (3 : Int32)), (.ref y1)])) (fun t k => XS.iloadN X11.here hx rfl (hb hby d16_18) rfl k) ?_
  obtain ⟨cl13, Ar13, qq13, Sz13, Ng13, Hh13, Gg13⟩ := id f13
  have hin13 : ¬ ((3 : Int32) < 0 ∨ cl13.slots.size ≤ ((3 : Int32)).toNatClampNeg) := inb_of Sz13 ⟨by decide, by decide⟩
  have hat13 : cl13.slots[((3 : Int32)).toNatClampNeg]? = some (.int c3) := Hh13.at hin13 rfl
  refine Go.on (B := T11.setTop (mkF m 20 #[.val (.ref a1), .val (.int (3 : Int32)), .val (.int (4 : Int32)), .val (.ref y1), .val (.int (3 : Int32))] [(.int c3), (.int (3 : Int32)), (.ref y1)])) (fun t k => X11.caload hx (j := (3 : Int32)) (v := (.int c3)) Ar13.1 (State.isArrayOf_alike hZ.alike Ar13.2.1) Ar13.2.2 hin13 hat13 (g := (mkF m 19 #[.val (.ref a1), .val (.int (3 : Int32)), .val (.int (4 : Int32)), .val (.ref y1), .val (.int (3 : Int32))] [(.int (3 : Int32)), (.ref a1), (.int (3 : Int32)), (.ref y1)])) rfl rfl (hb hby d16_19) _ k) ?_
  obtain ⟨_, _, ⟨T14, L14, k14, n14⟩, -, X14, ⟨Lc14, hQ14, l14, y14, z14⟩, st14⟩ := Jvm.LawKit.callS X11 hx (y := (⟨"java/lang/StringUTF16", "putChar", "([BII)V"⟩ : MethodName)) hown (mvT hZ (hw _ (List.mem_of_getElem? (i := 79) rfl))) (mvT hZ (hw _ (List.mem_of_getElem? (i := 80) rfl))) (mvT hZ (hw _ (List.mem_of_getElem? (i := 23) rfl))) (mvT hZ (hw _ (List.mem_of_getElem? (i := 81) rfl))) (by decide) (backOf (W := 0) (rpc_4_3 l Z a0 hw [] y1 c3 ky1 (.int ((((c0 >>> ((0 : Int32) &&& 31))).toInt8.toInt32).toInt8.toInt32)) (.int ((((c0 >>> ((8 : Int32) &&& 31))).toInt8.toInt32).toInt8.toInt32)) (.int ((((c1 >>> ((0 : Int32) &&& 31))).toInt8.toInt32).toInt8.toInt32)) (.int ((((c1 >>> ((8 : Int32) &&& 31))).toInt8.toInt32).toInt8.toInt32)) (.int ((((c2 >>> ((0 : Int32) &&& 31))).toInt8.toInt32).toInt8.toInt32)) (.int ((((c2 >>> ((8 : Int32) &&& 31))).toInt8.toInt32).toInt8.toInt32)) (.int (0 : Int32)) (.int (0 : Int32)) T11.heap n0 Zs15 G11_0 ge_y1 O_14 S_ad S_hi S_lo) hZ (hw _ (List.mem_of_getElem? (i := 81) rfl)) (hw _ (List.mem_of_getElem? (i := 23) rfl)) (by decide) (by decide)) (g := (mkF m 20 #[.val (.ref a1), .val (.int (3 : Int32)), .val (.int (4 : Int32)), .val (.ref y1), .val (.int (3 : Int32))] [(.int c3), (.int (3 : Int32)), (.ref y1)])) rfl (by rw [hml]; rfl) (argsL := [(.ref y1), (.int (3 : Int32)), (.int c3)]) (rest := []) (lenOf pd_8 rfl) rfl (by show 2 * 0 + _ ≤ _; exact Nat.le_of_eq rfl) (hb hby d16_20) (fun _ _ => ⟨rfl, rfl, (by decide : 1 + 0 ≤ _), (by decide : 8 + 0 ≤ _)⟩)
  dsimp only [Pt.U, Pt.locs, Pt.cells, Pt.slots] at X14 l14 y14 z14 st14 hQ14
  subst l14 y14 z14
  obtain ⟨rfl, N14q, K14q, G14_0⟩ := hQ14
  have N14 := Fr.app N11 N14q
  have f17 := f13.keep K14q (ninS ne_a1_y1 nin0)
  have O_18 := O_14.keep K14q (allS ge_y1 all0)
  have Zs19 := Nat.le_trans Zs15 K14q.1
  have K20 := K16.trans K14q (allS (Or.inr sz_y1) all0)
  refine Go.on (B := T14.setTop (mkF m 23 #[.val (.ref a1), .val (.int (3 : Int32)), .val (.int (4 : Int32)), .val (.ref y1), .val (.int (3 : Int32))] [])) (fun t k => st14 _ k) ?_
  refine Go.on (B := T14.setTop (mkF m 26 #[.val (.ref a1), .val (.int ((3 : Int32) + (1 : Int32))), .val (.int (4 : Int32)), .val (.ref y1), .val (.int (3 : Int32))] [])) (fun t k => XS.iinc X14.here hx rfl (hb hby d16_23) rfl (l' := #[.val (.ref a1), .val (.int ((3 : Int32) + (1 : Int32))), .val (.int (4 : Int32)), .val (.ref y1), .val (.int (3 : Int32))]) rfl k) ?_
  rw [show ((3 : Int32) + (1 : Int32)) = (4 : Int32) from by decide]
  refine Go.on (B := T14.setTop (mkF m 29 #[.val (.ref a1), .val (.int (4 : Int32)), .val (.int (4 : Int32)), .val (.ref y1), .val (.int ((3 : Int32) + (1 : Int32)))] [])) (fun t k => XS.iinc X14.here hx rfl (hb hby d16_26) rfl (l' := #[.val (.ref a1), .val (.int (4 : Int32)), .val (.int (4 : Int32)), .val (.ref y1), .val (.int ((3 : Int32) + (1 : Int32)))]) rfl k) ?_
  rw [show ((3 : Int32) + (1 : Int32)) = (4 : Int32) from by decide]
  refine Go.on (B := T14.setTop (mkF m 8 #[.val (.ref a1), .val (.int (4 : Int32)), .val (.int (4 : Int32)), .val (.ref y1), .val (.int (4 : Int32))] [])) (fun t k => XS.goto X14.here hx rfl (pc0 := 29) (pc' := 8) rfl (hb hby d16_29) (by decide) (by decide) k) ?_
  refine Go.on (B := T14.setTop (mkF m 10 #[.val (.ref a1), .val (.int (4 : Int32)), .val (.int (4 : Int32)), .val (.ref y1), .val (.int (4 : Int32))] [(.int (4 : Int32))])) (fun t k => XS.iload X14.here hx rfl (hb hby d16_8) rfl k) ?_
  refine Go.on (B := T14.setTop (mkF m 11 #[.val (.ref a1), .val (.int (4 : Int32)), .val (.int (4 : Int32)), .val (.ref y1), .val (.int (4 : Int32))] [(.int (4 : Int32)), (.int (4 : Int32))])) (fun t k => XS.iloadN X14.here hx rfl (hb hby d16_10) rfl k) ?_
  have hc11_15 : ¬ ((4 : Int32) < (4 : Int32)) := by decide
  refine Go.on (B := T14.setTop (mkF m 32 #[.val (.ref a1), .val (.int (4 : Int32)), .val (.int (4 : Int32)), .val (.ref y1), .val (.int (4 : Int32))] [])) (fun t k => XS.icmpYes X14.here hx rfl (pc0 := 11) (pc' := 32) rfl (hb hby d16_11) rfl (flt hc11_15).2.1 (by decide) (by decide) k) ?_
  refine Go.on (B := T14.setTop (mkF m 33 #[.val (.ref a1), .val (.int (4 : Int32)), .val (.int (4 : Int32)), .val (.ref y1), .val (.int (4 : Int32))] [(.ref y1)])) (fun t k => XS.aloadN X14.here hx rfl (hb hby d16_32) rfl rfl k) ?_
  obtain ⟨fs, hr, hrun, hended, hW, hsame⟩ := X14.leave (v := some (.ref y1)) (fun h => by rw [Bd.returns] at h; cases h)
  refine ⟨_, _, ?_, hrun, hended, _, _, rfl, ?_, ⟨_, rfl⟩, hW, hsame.mono (by decide) (by decide)⟩
  · exact retOut X14 hx Bd.returns rfl (Or.inr (Or.inr (Or.inr (Or.inr ⟨rfl, rfl, rfl⟩)))) (hb hby d16_33) hr
  · show Q_rtb_4 Z a1 kc c0 c1 c2 c3 h0 n0 _ T14.heap _
    exact ⟨⟨_, _, rfl, sz_y1, G14_0⟩, N14, K20⟩
theorem d6_0 : decode jdk_52_method_21_code 0 = .ok (.iconst 0, 1) := by decide +kernel
theorem d6_1 : decode jdk_52_method_21_code 1 = .ok (.istore 5, 2) := by decide +kernel
theorem d6_3 : decode jdk_52_method_21_code 3 = .ok (.iload 5, 2) := by decide +kernel
theorem d6_5 : decode jdk_52_method_21_code 5 = .ok (.iload 4, 2) := by decide +kernel
theorem d6_7 : decode jdk_52_method_21_code 7 = .ok (.if_icmp .ge 37, 3) := by decide +kernel
theorem d6_10 : decode jdk_52_method_21_code 10 = .ok (.aload_n 0, 1) := by decide +kernel
theorem d6_11 : decode jdk_52_method_21_code 11 = .ok (.iload_n 1, 1) := by decide +kernel
theorem d6_12 : decode jdk_52_method_21_code 12 = .ok (.caload, 1) := by decide +kernel
theorem d6_13 : decode jdk_52_method_21_code 13 = .ok (.istore 6, 2) := by decide +kernel
theorem d6_15 : decode jdk_52_method_21_code 15 = .ok (.iload 6, 2) := by decide +kernel
theorem d6_17 : decode jdk_52_method_21_code 17 = .ok (.sipush 255, 3) := by decide +kernel
theorem d6_20 : decode jdk_52_method_21_code 20 = .ok (.if_icmp .le 6, 3) := by decide +kernel
theorem d6_23 : decode jdk_52_method_21_code 23 = .ok (.iload 5, 2) := by decide +kernel
theorem d6_25 : decode jdk_52_method_21_code 25 = .ok (.ireturn, 1) := by decide +kernel
theorem d6_26 : decode jdk_52_method_21_code 26 = .ok (.aload_n 2, 1) := by decide +kernel
theorem d6_27 : decode jdk_52_method_21_code 27 = .ok (.iload_n 3, 1) := by decide +kernel
theorem d6_28 : decode jdk_52_method_21_code 28 = .ok (.iload 6, 2) := by decide +kernel
theorem d6_30 : decode jdk_52_method_21_code 30 = .ok (.i2b, 1) := by decide +kernel
theorem d6_31 : decode jdk_52_method_21_code 31 = .ok (.bastore, 1) := by decide +kernel
theorem d6_32 : decode jdk_52_method_21_code 32 = .ok (.iinc 1 1, 3) := by decide +kernel
theorem d6_35 : decode jdk_52_method_21_code 35 = .ok (.iinc 3 1, 3) := by decide +kernel
theorem d6_38 : decode jdk_52_method_21_code 38 = .ok (.iinc 5 1, 3) := by decide +kernel
theorem d6_41 : decode jdk_52_method_21_code 41 = .ok (.goto (-38), 3) := by decide +kernel
theorem d6_44 : decode jdk_52_method_21_code 44 = .ok (.iload 4, 2) := by decide +kernel
theorem d6_46 : decode jdk_52_method_21_code 46 = .ok (.ireturn, 1) := by decide +kernel
theorem ef_rc5_4 (m : MethodId) (a1 : Addr) (a3 : Addr) : entryFrame m #[(.ref a1), (.int (0 : Int32)), (.ref a3), (.int (0 : Int32)), (.int (4 : Int32))] 7 = mkF m 0 #[.val (.ref a1), .val (.int (0 : Int32)), .val (.ref a3), .val (.int (0 : Int32)), .val (.int (4 : Int32)), .unset, .unset] [] := by first | (simp [entryFrame, mkF, argsToLocals, Value.category]; done) | rfl
def Q_rc5_4 (Z : State) (a1 : Addr) (a3 : Addr) (kc k3 : ClassId) (c0 c1 c2 c3 : Int32) (h0 : Heap) (n0 : Nat) (v : Option Value) (h : Heap) (L : List Loc) : Prop := ((v = some (.int (4 : Int32)) ∧ Arv Z h a3 k3 .byte (4 : Int32) [(.int (((c0.toInt8.toInt32)).toInt8.toInt32)), (.int (((c1.toInt8.toInt32)).toInt8.toInt32)), (.int (((c2.toInt8.toInt32)).toInt8.toInt32)), (.int (((c3.toInt8.toInt32)).toInt8.toInt32))] (.int (0 : Int32)) ∧ ¬ ((255 : Int32) < c0) ∧ ¬ ((255 : Int32) < c1) ∧ ¬ ((255 : Int32) < c2) ∧ ¬ ((255 : Int32) < c3)) ∨ (v = some (.int (0 : Int32)) ∧ (255 : Int32) < c0) ∨ (v = some (.int (1 : Int32)) ∧ (255 : Int32) < c1) ∨ (v = some (.int (2 : Int32)) ∧ (255 : Int32) < c2) ∨ (v = some (.int (3 : Int32)) ∧ (255 : Int32) < c3)) ∧ Fr n0 L ∧ Keep h0 h [a3]
set_option maxRecDepth 65536 in
set_option maxHeartbeats 40000000 in
theorem rc5_4 (l : Launch) (Z : State) (a0 : Array Value) (hw : ∀ d ∈ tables_1, d.before a0 Z = true) (ws : List Jvm.Cond) (a1 : Addr) (a3 : Addr) (kc k3 : ClassId) (c0 c1 c2 c3 : Int32) (h0 : Heap) (n0 : Nat) (Z0 : n0 ≤ h0.size) (V1 : Arv Z h0 a1 kc .char (4 : Int32) [(.int c0), (.int c1), (.int c2), (.int c3)] (.int (0 : Int32))) (V3 : Arv Z h0 a3 k3 .byte (4 : Int32) [(.int (0 : Int32)), (.int (0 : Int32)), (.int (0 : Int32)), (.int (0 : Int32))] (.int (0 : Int32))) (hne : a1 ≠ a3) (g3 : n0 ≤ a3) :
    MetFree l (⟨"java/lang/StringUTF16", "compress", "([CI[BII)I"⟩ : MethodName) (head1 (Jvm.Cond.code (⟨"java/lang/StringUTF16", "compress", "([CI[BII)I"⟩ : MethodName) jdk_52_method_21_code 7 (some .int) :: ws) ({ frames := 0, cells := 0, slots := 0, locals := 0 } : Room)) (fun a U => a = #[(.ref a1), (.int (0 : Int32)), (.ref a3), (.int (0 : Int32)), (.int (4 : Int32))] ∧ Z.Warmed39 U.vm ∧ U.heap = h0) (fun _ _ _ _ _ => True) (fun _ U o U' => ∃ v L, o = .returned v ∧ Q_rc5_4 Z a1 a3 kc k3 c0 c1 c2 c3 h0 n0 v U'.heap L ∧ FrameEnd U o U' L ({ frames := 0, cells := 0, slots := 0, locals := 0 } : Room).cells ({ frames := 0, cells := 0, slots := 0, locals := 0 } : Room).slots) := by
  refine MetFree.of_bodySF (plainFor_of_name pn_10) hisR ?_
  intro p e s m args below meth c s₁ Bd hml0 hP hK
  obtain ⟨rfl, hZ, hh⟩ := hP
  have hx := Bd.exec
  have hby := Bd.bytes
  have hml : c.maxLocals = 7 := hml0
  have hown : s.vm.findClass "java/lang/StringUTF16" = some m.cls := findClass_of_methodNamed Bd.named
  have hnm := (name_of_methodNamed Bd.named Bd.method).1
  have X0 : Stand p l e ({ frames := 0, cells := 0, slots := 0, locals := 0 } : Room) s m #[(.ref a1), (.int (0 : Int32)), (.ref a3), (.int (0 : Int32)), (.int (4 : Int32))] below meth c s₁ [] 0 0 := Stand.of_body Bd
  have e0 : s₁.heap = h0 := by rw [← hh, Bd.state]; rfl
  have N0 := Fr.nil n0
  have pre0 : ∀ t, Steps p.tables e below (s₁.setTop (mkF m 0 #[.val (.ref a1), .val (.int (0 : Int32)), .val (.ref a3), .val (.int (0 : Int32)), .val (.int (4 : Int32)), .unset, .unset] [])) t → Steps p.tables e below (s₁.setTop (entryFrame m #[(.ref a1), (.int (0 : Int32)), (.ref a3), (.int (0 : Int32)), (.int (4 : Int32))] 7)) t := fun t k => castTop (ef_rc5_4 m a1 a3) k
  change Go p.tables e below (fun o U' => ∃ v L, o = .returned v ∧ Q_rc5_4 Z a1 a3 kc k3 c0 c1 c2 c3 h0 n0 v U'.heap L ∧ FrameEnd s o U' L ({ frames := 0, cells := 0, slots := 0, locals := 0 } : Room).cells ({ frames := 0, cells := 0, slots := 0, locals := 0 } : Room).slots) (s₁.setTop (entryFrame m #[(.ref a1), (.int (0 : Int32)), (.ref a3), (.int (0 : Int32)), (.int (4 : Int32))] 7))
  have K0 := Keep.refl h0 [a3]
  refine Go.on pre0 ?_
  refine Go.on (B := s₁.setTop (mkF m 1 #[.val (.ref a1), .val (.int (0 : Int32)), .val (.ref a3), .val (.int (0 : Int32)), .val (.int (4 : Int32)), .unset, .unset] [(.int (0 : Int32))])) (fun t k => XS.iconst X0.here hx rfl (hb hby d6_0) k) ?_
  refine Go.on (B := s₁.setTop (mkF m 3 #[.val (.ref a1), .val (.int (0 : Int32)), .val (.ref a3), .val (.int (0 : Int32)), .val (.int (4 : Int32)), .val (.int (0 : Int32)), .unset] [])) (fun t k => XS.istore X0.here hx rfl (hb hby d6_1) rfl (l' := #[.val (.ref a1), .val (.int (0 : Int32)), .val (.ref a3), .val (.int (0 : Int32)), .val (.int (4 : Int32)), .val (.int (0 : Int32)), .unset]) rfl k) ?_
  refine Go.on (B := s₁.setTop (mkF m 5 #[.val (.ref a1), .val (.int (0 : Int32)), .val (.ref a3), .val (.int (0 : Int32)), .val (.int (4 : Int32)), .val (.int (0 : Int32)), .unset] [(.int (0 : Int32))])) (fun t k => XS.iload X0.here hx rfl (hb hby d6_3) rfl k) ?_
  refine Go.on (B := s₁.setTop (mkF m 7 #[.val (.ref a1), .val (.int (0 : Int32)), .val (.ref a3), .val (.int (0 : Int32)), .val (.int (4 : Int32)), .val (.int (0 : Int32)), .unset] [(.int (4 : Int32)), (.int (0 : Int32))])) (fun t k => XS.iload X0.here hx rfl (hb hby d6_5) rfl k) ?_
  have hc7_2 : (0 : Int32) < (4 : Int32) := by decide
  refine Go.on (B := s₁.setTop (mkF m 10 #[.val (.ref a1), .val (.int (0 : Int32)), .val (.ref a3), .val (.int (0 : Int32)), .val (.int (4 : Int32)), .val (.int (0 : Int32)), .unset] [])) (fun t k => XS.icmpNo X0.here hx rfl (hb hby d6_7) rfl (tlt hc7_2).2.1 k) ?_
  refine Go.on (B := s₁.setTop (mkF m 11 #[.val (.ref a1), .val (.int (0 : Int32)), .val (.ref a3), .val (.int (0 : Int32)), .val (.int (4 : Int32)), .val (.int (0 : Int32)), .unset] [(.ref a1)])) (fun t k => XS.aloadN X0.here hx rfl (hb hby d6_10) rfl rfl k) ?_
  refine Go.on (B := s₁.setTop (mkF m 12 #[.val (.ref a1), .val (.int (0 : Int32)), .val (.ref a3), .val (.int (0 : Int32)), .val (.int (4 : Int32)), .val (.int (0 : Int32)), .unset] [(.int (0 : Int32)), (.ref a1)])) (fun t k => XS.iloadN X0.here hx rfl (hb hby d6_11) rfl k) ?_
  obtain ⟨cl3, Ar3, qq3, Sz3, Ng3, Hh3, Gg3⟩ := id V1
  have hin3 : ¬ ((0 : Int32) < 0 ∨ cl3.slots.size ≤ ((0 : Int32)).toNatClampNeg) := inb_of Sz3 ⟨by decide, by decide⟩
  have hat3 : cl3.slots[((0 : Int32)).toNatClampNeg]? = some (.int c0) := Hh3.at hin3 rfl
  refine Go.on (B := s₁.setTop (mkF m 13 #[.val (.ref a1), .val (.int (0 : Int32)), .val (.ref a3), .val (.int (0 : Int32)), .val (.int (4 : Int32)), .val (.int (0 : Int32)), .unset] [(.int c0)])) (fun t k => X0.caload hx (j := (0 : Int32)) (v := (.int c0)) (by rw [e0]; exact Ar3.1) (State.isArrayOf_alike hZ.alike Ar3.2.1) Ar3.2.2 hin3 hat3 (g := (mkF m 12 #[.val (.ref a1), .val (.int (0 : Int32)), .val (.ref a3), .val (.int (0 : Int32)), .val (.int (4 : Int32)), .val (.int (0 : Int32)), .unset] [(.int (0 : Int32)), (.ref a1)])) rfl rfl (hb hby d6_12) _ k) ?_
  refine Go.on (B := s₁.setTop (mkF m 15 #[.val (.ref a1), .val (.int (0 : Int32)), .val (.ref a3), .val (.int (0 : Int32)), .val (.int (4 : Int32)), .val (.int (0 : Int32)), .val (.int c0)] [])) (fun t k => XS.istore X0.here hx rfl (hb hby d6_13) rfl (l' := #[.val (.ref a1), .val (.int (0 : Int32)), .val (.ref a3), .val (.int (0 : Int32)), .val (.int (4 : Int32)), .val (.int (0 : Int32)), .val (.int c0)]) rfl k) ?_
  refine Go.on (B := s₁.setTop (mkF m 17 #[.val (.ref a1), .val (.int (0 : Int32)), .val (.ref a3), .val (.int (0 : Int32)), .val (.int (4 : Int32)), .val (.int (0 : Int32)), .val (.int c0)] [(.int c0)])) (fun t k => XS.iload X0.here hx rfl (hb hby d6_15) rfl k) ?_
  refine Go.on (B := s₁.setTop (mkF m 20 #[.val (.ref a1), .val (.int (0 : Int32)), .val (.ref a3), .val (.int (0 : Int32)), .val (.int (4 : Int32)), .val (.int (0 : Int32)), .val (.int c0)] [(.int (255 : Int32)), (.int c0)])) (fun t k => XS.sipush X0.here hx rfl (hb hby d6_17) k) ?_
  by_cases hc20_5 : (255 : Int32) < c0
  · refine Go.on (B := s₁.setTop (mkF m 23 #[.val (.ref a1), .val (.int (0 : Int32)), .val (.ref a3), .val (.int (0 : Int32)), .val (.int (4 : Int32)), .val (.int (0 : Int32)), .val (.int c0)] [])) (fun t k => XS.icmpNo X0.here hx rfl (hb hby d6_20) rfl (tlt hc20_5).2.2.2 k) ?_
    refine Go.on (B := s₁.setTop (mkF m 25 #[.val (.ref a1), .val (.int (0 : Int32)), .val (.ref a3), .val (.int (0 : Int32)), .val (.int (4 : Int32)), .val (.int (0 : Int32)), .val (.int c0)] [(.int (0 : Int32))])) (fun t k => XS.iload X0.here hx rfl (hb hby d6_23) rfl k) ?_
    obtain ⟨fs, hr, hrun, hended, hW, hsame⟩ := X0.leave (v := some (.int (0 : Int32))) (fun h => by rw [Bd.returns] at h; cases h)
    refine ⟨_, _, ?_, hrun, hended, _, _, rfl, ?_, ⟨_, rfl⟩, hW, hsame.mono (by decide) (by decide)⟩
    · exact retI X0 hx Bd.returns (hb hby d6_25) hr
    · show Q_rc5_4 Z a1 a3 kc k3 c0 c1 c2 c3 h0 n0 _ s₁.heap _
      rw [e0]
      exact ⟨(Or.inr (Or.inl ⟨rfl, hc20_5⟩)), N0, K0⟩
  · refine Go.on (B := s₁.setTop (mkF m 26 #[.val (.ref a1), .val (.int (0 : Int32)), .val (.ref a3), .val (.int (0 : Int32)), .val (.int (4 : Int32)), .val (.int (0 : Int32)), .val (.int c0)] [])) (fun t k => XS.icmpYes X0.here hx rfl (pc0 := 20) (pc' := 26) rfl (hb hby d6_20) rfl (flt hc20_5).2.2.2 (by decide) (by decide) k) ?_
    refine Go.on (B := s₁.setTop (mkF m 27 #[.val (.ref a1), .val (.int (0 : Int32)), .val (.ref a3), .val (.int (0 : Int32)), .val (.int (4 : Int32)), .val (.int (0 : Int32)), .val (.int c0)] [(.ref a3)])) (fun t k => XS.aloadN X0.here hx rfl (hb hby d6_26) rfl rfl k) ?_
    refine Go.on (B := s₁.setTop (mkF m 28 #[.val (.ref a1), .val (.int (0 : Int32)), .val (.ref a3), .val (.int (0 : Int32)), .val (.int (4 : Int32)), .val (.int (0 : Int32)), .val (.int c0)] [(.int (0 : Int32)), (.ref a3)])) (fun t k => XS.iloadN X0.here hx rfl (hb hby d6_27) rfl k) ?_
    refine Go.on (B := s₁.setTop (mkF m 30 #[.val (.ref a1), .val (.int (0 : Int32)), .val (.ref a3), .val (.int (0 : Int32)), .val (.int (4 : Int32)), .val (.int (0 : Int32)), .val (.int c0)] [(.int c0), (.int (0 : Int32)), (.ref a3)])) (fun t k => XS.iload X0.here hx rfl (hb hby d6_28) rfl k) ?_
    refine Go.on (B := s₁.setTop (mkF m 31 #[.val (.ref a1), .val (.int (0 : Int32)), .val (.ref a3), .val (.int (0 : Int32)), .val (.int (4 : Int32)), .val (.int (0 : Int32)), .val (.int c0)] [(.int (c0.toInt8.toInt32)), (.int (0 : Int32)), (.ref a3)])) (fun t k => XS.i2b X0.here hx rfl (hb hby d6_30) rfl k) ?_
    obtain ⟨cl6, Ar6, qq6, Sz6, Ng6, Hh6, Gg6⟩ := id V3
    have hin6 : ¬ ((0 : Int32) < 0 ∨ cl6.slots.size ≤ ((0 : Int32)).toNatClampNeg) := inb_of Sz6 ⟨by decide, by decide⟩
    obtain ⟨T6, h6, X6, e6, W6, st6⟩ := stB X0 hx hZ e0 Ar6 (j := (0 : Int32)) hin6 (g := (mkF m 31 #[.val (.ref a1), .val (.int (0 : Int32)), .val (.ref a3), .val (.int (0 : Int32)), .val (.int (4 : Int32)), .val (.int (0 : Int32)), .val (.int c0)] [(.int (c0.toInt8.toInt32)), (.int (0 : Int32)), (.ref a3)])) rfl rfl (hb hby d6_31)
    have V6 : Arv Z h6 a3 k3 .byte (4 : Int32) [(.int ((c0.toInt8.toInt32).toInt8.toInt32)), (.int (0 : Int32)), (.int (0 : Int32)), (.int (0 : Int32))] (.int (0 : Int32)) := Arv.set Ar6 qq6 Sz6 Ng6 Hh6 Gg6 (fits_nar_byte _) W6 0 rfl (Nat.le_of_ble_eq_true rfl)
    have N6 := Fr.snoc X6 N0 g3
    have f1 := V1.other W6 hne
    have Zs2 := Nat.le_trans Z0 (Keep.of_wr W6).1
    have K3 := K0.wr W6 (Or.inl (List.mem_of_getElem? (i := 0) rfl))
    refine Go.on (B := T6.setTop (mkF m 32 #[.val (.ref a1), .val (.int (0 : Int32)), .val (.ref a3), .val (.int (0 : Int32)), .val (.int (4 : Int32)), .val (.int (0 : Int32)), .val (.int c0)] [])) (fun t k => st6 _ k) ?_
    refine Go.on (B := T6.setTop (mkF m 35 #[.val (.ref a1), .val (.int ((0 : Int32) + (1 : Int32))), .val (.ref a3), .val (.int (0 : Int32)), .val (.int (4 : Int32)), .val (.int (0 : Int32)), .val (.int c0)] [])) (fun t k => XS.iinc X6.here hx rfl (hb hby d6_32) rfl (l' := #[.val (.ref a1), .val (.int ((0 : Int32) + (1 : Int32))), .val (.ref a3), .val (.int (0 : Int32)), .val (.int (4 : Int32)), .val (.int (0 : Int32)), .val (.int c0)]) rfl k) ?_
    rw [show ((0 : Int32) + (1 : Int32)) = (1 : Int32) from by decide]
    refine Go.on (B := T6.setTop (mkF m 38 #[.val (.ref a1), .val (.int (1 : Int32)), .val (.ref a3), .val (.int ((0 : Int32) + (1 : Int32))), .val (.int (4 : Int32)), .val (.int (0 : Int32)), .val (.int c0)] [])) (fun t k => XS.iinc X6.here hx rfl (hb hby d6_35) rfl (l' := #[.val (.ref a1), .val (.int (1 : Int32)), .val (.ref a3), .val (.int ((0 : Int32) + (1 : Int32))), .val (.int (4 : Int32)), .val (.int (0 : Int32)), .val (.int c0)]) rfl k) ?_
    rw [show ((0 : Int32) + (1 : Int32)) = (1 : Int32) from by decide]
    refine Go.on (B := T6.setTop (mkF m 41 #[.val (.ref a1), .val (.int (1 : Int32)), .val (.ref a3), .val (.int (1 : Int32)), .val (.int (4 : Int32)), .val (.int ((0 : Int32) + (1 : Int32))), .val (.int c0)] [])) (fun t k => XS.iinc X6.here hx rfl (hb hby d6_38) rfl (l' := #[.val (.ref a1), .val (.int (1 : Int32)), .val (.ref a3), .val (.int (1 : Int32)), .val (.int (4 : Int32)), .val (.int ((0 : Int32) + (1 : Int32))), .val (.int c0)]) rfl k) ?_
    rw [show ((0 : Int32) + (1 : Int32)) = (1 : Int32) from by decide]
    refine Go.on (B := T6.setTop (mkF m 3 #[.val (.ref a1), .val (.int (1 : Int32)), .val (.ref a3), .val (.int (1 : Int32)), .val (.int (4 : Int32)), .val (.int (1 : Int32)), .val (.int c0)] [])) (fun t k => XS.goto X6.here hx rfl (pc0 := 41) (pc' := 3) rfl (hb hby d6_41) (by decide) (by decide) k) ?_
    refine Go.on (B := T6.setTop (mkF m 5 #[.val (.ref a1), .val (.int (1 : Int32)), .val (.ref a3), .val (.int (1 : Int32)), .val (.int (4 : Int32)), .val (.int (1 : Int32)), .val (.int c0)] [(.int (1 : Int32))])) (fun t k => XS.iload X6.here hx rfl (hb hby d6_3) rfl k) ?_
    refine Go.on (B := T6.setTop (mkF m 7 #[.val (.ref a1), .val (.int (1 : Int32)), .val (.ref a3), .val (.int (1 : Int32)), .val (.int (4 : Int32)), .val (.int (1 : Int32)), .val (.int c0)] [(.int (4 : Int32)), (.int (1 : Int32))])) (fun t k => XS.iload X6.here hx rfl (hb hby d6_5) rfl k) ?_
    have hc7_7 : (1 : Int32) < (4 : Int32) := by decide
    refine Go.on (B := T6.setTop (mkF m 10 #[.val (.ref a1), .val (.int (1 : Int32)), .val (.ref a3), .val (.int (1 : Int32)), .val (.int (4 : Int32)), .val (.int (1 : Int32)), .val (.int c0)] [])) (fun t k => XS.icmpNo X6.here hx rfl (hb hby d6_7) rfl (tlt hc7_7).2.1 k) ?_
    refine Go.on (B := T6.setTop (mkF m 11 #[.val (.ref a1), .val (.int (1 : Int32)), .val (.ref a3), .val (.int (1 : Int32)), .val (.int (4 : Int32)), .val (.int (1 : Int32)), .val (.int c0)] [(.ref a1)])) (fun t k => XS.aloadN X6.here hx rfl (hb hby d6_10) rfl rfl k) ?_
    refine Go.on (B := T6.setTop (mkF m 12 #[.val (.ref a1), .val (.int (1 : Int32)), .val (.ref a3), .val (.int (1 : Int32)), .val (.int (4 : Int32)), .val (.int (1 : Int32)), .val (.int c0)] [(.int (1 : Int32)), (.ref a1)])) (fun t k => XS.iloadN X6.here hx rfl (hb hby d6_11) rfl k) ?_
    obtain ⟨cl8, Ar8, qq8, Sz8, Ng8, Hh8, Gg8⟩ := id f1
    have hin8 : ¬ ((1 : Int32) < 0 ∨ cl8.slots.size ≤ ((1 : Int32)).toNatClampNeg) := inb_of Sz8 ⟨by decide, by decide⟩
    have hat8 : cl8.slots[((1 : Int32)).toNatClampNeg]? = some (.int c1) := Hh8.at hin8 rfl
    refine Go.on (B := T6.setTop (mkF m 13 #[.val (.ref a1), .val (.int (1 : Int32)), .val (.ref a3), .val (.int (1 : Int32)), .val (.int (4 : Int32)), .val (.int (1 : Int32)), .val (.int c0)] [(.int c1)])) (fun t k => X6.caload hx (j := (1 : Int32)) (v := (.int c1)) (by rw [e6]; exact Ar8.1) (State.isArrayOf_alike hZ.alike Ar8.2.1) Ar8.2.2 hin8 hat8 (g := (mkF m 12 #[.val (.ref a1), .val (.int (1 : Int32)), .val (.ref a3), .val (.int (1 : Int32)), .val (.int (4 : Int32)), .val (.int (1 : Int32)), .val (.int c0)] [(.int (1 : Int32)), (.ref a1)])) rfl rfl (hb hby d6_12) _ k) ?_
    refine Go.on (B := T6.setTop (mkF m 15 #[.val (.ref a1), .val (.int (1 : Int32)), .val (.ref a3), .val (.int (1 : Int32)), .val (.int (4 : Int32)), .val (.int (1 : Int32)), .val (.int c1)] [])) (fun t k => XS.istore X6.here hx rfl (hb hby d6_13) rfl (l' := #[.val (.ref a1), .val (.int (1 : Int32)), .val (.ref a3), .val (.int (1 : Int32)), .val (.int (4 : Int32)), .val (.int (1 : Int32)), .val (.int c1)]) rfl k) ?_
    refine Go.on (B := T6.setTop (mkF m 17 #[.val (.ref a1), .val (.int (1 : Int32)), .val (.ref a3), .val (.int (1 : Int32)), .val (.int (4 : Int32)), .val (.int (1 : Int32)), .val (.int c1)] [(.int c1)])) (fun t k => XS.iload X6.here hx rfl (hb hby d6_15) rfl k) ?_
    refine Go.on (B := T6.setTop (mkF m 20 #[.val (.ref a1), .val (.int (1 : Int32)), .val (.ref a3), .val (.int (1 : Int32)), .val (.int (4 : Int32)), .val (.int (1 : Int32)), .val (.int c1)] [(.int (255 : Int32)), (.int c1)])) (fun t k => XS.sipush X6.here hx rfl (hb hby d6_17) k) ?_
    by_cases hc20_10 : (255 : Int32) < c1
    · refine Go.on (B := T6.setTop (mkF m 23 #[.val (.ref a1), .val (.int (1 : Int32)), .val (.ref a3), .val (.int (1 : Int32)), .val (.int (4 : Int32)), .val (.int (1 : Int32)), .val (.int c1)] [])) (fun t k => XS.icmpNo X6.here hx rfl (hb hby d6_20) rfl (tlt hc20_10).2.2.2 k) ?_
      refine Go.on (B := T6.setTop (mkF m 25 #[.val (.ref a1), .val (.int (1 : Int32)), .val (.ref a3), .val (.int (1 : Int32)), .val (.int (4 : Int32)), .val (.int (1 : Int32)), .val (.int c1)] [(.int (1 : Int32))])) (fun t k => XS.iload X6.here hx rfl (hb hby d6_23) rfl k) ?_
      obtain ⟨fs, hr, hrun, hended, hW, hsame⟩ := X6.leave (v := some (.int (1 : Int32))) (fun h => by rw [Bd.returns] at h; cases h)
      refine ⟨_, _, ?_, hrun, hended, _, _, rfl, ?_, ⟨_, rfl⟩, hW, hsame.mono (by decide) (by decide)⟩
      · exact retI X6 hx Bd.returns (hb hby d6_25) hr
      · show Q_rc5_4 Z a1 a3 kc k3 c0 c1 c2 c3 h0 n0 _ T6.heap _
        rw [e6]
        exact ⟨(Or.inr (Or.inr (Or.inl ⟨rfl, hc20_10⟩))), N6, K3⟩
    · refine Go.on (B := T6.setTop (mkF m 26 #[.val (.ref a1), .val (.int (1 : Int32)), .val (.ref a3), .val (.int (1 : Int32)), .val (.int (4 : Int32)), .val (.int (1 : Int32)), .val (.int c1)] [])) (fun t k => XS.icmpYes X6.here hx rfl (pc0 := 20) (pc' := 26) rfl (hb hby d6_20) rfl (flt hc20_10).2.2.2 (by decide) (by decide) k) ?_
      refine Go.on (B := T6.setTop (mkF m 27 #[.val (.ref a1), .val (.int (1 : Int32)), .val (.ref a3), .val (.int (1 : Int32)), .val (.int (4 : Int32)), .val (.int (1 : Int32)), .val (.int c1)] [(.ref a3)])) (fun t k => XS.aloadN X6.here hx rfl (hb hby d6_26) rfl rfl k) ?_
      refine Go.on (B := T6.setTop (mkF m 28 #[.val (.ref a1), .val (.int (1 : Int32)), .val (.ref a3), .val (.int (1 : Int32)), .val (.int (4 : Int32)), .val (.int (1 : Int32)), .val (.int c1)] [(.int (1 : Int32)), (.ref a3)])) (fun t k => XS.iloadN X6.here hx rfl (hb hby d6_27) rfl k) ?_
      refine Go.on (B := T6.setTop (mkF m 30 #[.val (.ref a1), .val (.int (1 : Int32)), .val (.ref a3), .val (.int (1 : Int32)), .val (.int (4 : Int32)), .val (.int (1 : Int32)), .val (.int c1)] [(.int c1), (.int (1 : Int32)), (.ref a3)])) (fun t k => XS.iload X6.here hx rfl (hb hby d6_28) rfl k) ?_
      refine Go.on (B := T6.setTop (mkF m 31 #[.val (.ref a1), .val (.int (1 : Int32)), .val (.ref a3), .val (.int (1 : Int32)), .val (.int (4 : Int32)), .val (.int (1 : Int32)), .val (.int c1)] [(.int (c1.toInt8.toInt32)), (.int (1 : Int32)), (.ref a3)])) (fun t k => XS.i2b X6.here hx rfl (hb hby d6_30) rfl k) ?_
      obtain ⟨cl11, Ar11, qq11, Sz11, Ng11, Hh11, Gg11⟩ := id V6
      have hin11 : ¬ ((1 : Int32) < 0 ∨ cl11.slots.size ≤ ((1 : Int32)).toNatClampNeg) := inb_of Sz11 ⟨by decide, by decide⟩
      obtain ⟨T11, h11, X11, e11, W11, st11⟩ := stB X6 hx hZ e6 Ar11 (j := (1 : Int32)) hin11 (g := (mkF m 31 #[.val (.ref a1), .val (.int (1 : Int32)), .val (.ref a3), .val (.int (1 : Int32)), .val (.int (4 : Int32)), .val (.int (1 : Int32)), .val (.int c1)] [(.int (c1.toInt8.toInt32)), (.int (1 : Int32)), (.ref a3)])) rfl rfl (hb hby d6_31)
      have V11 : Arv Z h11 a3 k3 .byte (4 : Int32) [(.int ((c0.toInt8.toInt32).toInt8.toInt32)), (.int ((c1.toInt8.toInt32).toInt8.toInt32)), (.int (0 : Int32)), (.int (0 : Int32))] (.int (0 : Int32)) := Arv.set Ar11 qq11 Sz11 Ng11 Hh11 Gg11 (fits_nar_byte _) W11 1 rfl (Nat.le_of_ble_eq_true rfl)
      have N11 := Fr.snoc X11 N6 g3
      have f4 := f1.other W11 hne
      have Zs5 := Nat.le_trans Zs2 (Keep.of_wr W11).1
      have K6 := K3.wr W11 (Or.inl (List.mem_of_getElem? (i := 0) rfl))
      refine Go.on (B := T11.setTop (mkF m 32 #[.val (.ref a1), .val (.int (1 : Int32)), .val (.ref a3), .val (.int (1 : Int32)), .val (.int (4 : Int32)), .val (.int (1 : Int32)), .val (.int c1)] [])) (fun t k => st11 _ k) ?_
      refine Go.on (B := T11.setTop (mkF m 35 #[.val (.ref a1), .val (.int ((1 : Int32) + (1 : Int32))), .val (.ref a3), .val (.int (1 : Int32)), .val (.int (4 : Int32)), .val (.int (1 : Int32)), .val (.int c1)] [])) (fun t k => XS.iinc X11.here hx rfl (hb hby d6_32) rfl (l' := #[.val (.ref a1), .val (.int ((1 : Int32) + (1 : Int32))), .val (.ref a3), .val (.int (1 : Int32)), .val (.int (4 : Int32)), .val (.int (1 : Int32)), .val (.int c1)]) rfl k) ?_
      rw [show ((1 : Int32) + (1 : Int32)) = (2 : Int32) from by decide]
      refine Go.on (B := T11.setTop (mkF m 38 #[.val (.ref a1), .val (.int (2 : Int32)), .val (.ref a3), .val (.int ((1 : Int32) + (1 : Int32))), .val (.int (4 : Int32)), .val (.int (1 : Int32)), .val (.int c1)] [])) (fun t k => XS.iinc X11.here hx rfl (hb hby d6_35) rfl (l' := #[.val (.ref a1), .val (.int (2 : Int32)), .val (.ref a3), .val (.int ((1 : Int32) + (1 : Int32))), .val (.int (4 : Int32)), .val (.int (1 : Int32)), .val (.int c1)]) rfl k) ?_
      rw [show ((1 : Int32) + (1 : Int32)) = (2 : Int32) from by decide]
      refine Go.on (B := T11.setTop (mkF m 41 #[.val (.ref a1), .val (.int (2 : Int32)), .val (.ref a3), .val (.int (2 : Int32)), .val (.int (4 : Int32)), .val (.int ((1 : Int32) + (1 : Int32))), .val (.int c1)] [])) (fun t k => XS.iinc X11.here hx rfl (hb hby d6_38) rfl (l' := #[.val (.ref a1), .val (.int (2 : Int32)), .val (.ref a3), .val (.int (2 : Int32)), .val (.int (4 : Int32)), .val (.int ((1 : Int32) + (1 : Int32))), .val (.int c1)]) rfl k) ?_
      rw [show ((1 : Int32) + (1 : Int32)) = (2 : Int32) from by decide]
      refine Go.on (B := T11.setTop (mkF m 3 #[.val (.ref a1), .val (.int (2 : Int32)), .val (.ref a3), .val (.int (2 : Int32)), .val (.int (4 : Int32)), .val (.int (2 : Int32)), .val (.int c1)] [])) (fun t k => XS.goto X11.here hx rfl (pc0 := 41) (pc' := 3) rfl (hb hby d6_41) (by decide) (by decide) k) ?_
      refine Go.on (B := T11.setTop (mkF m 5 #[.val (.ref a1), .val (.int (2 : Int32)), .val (.ref a3), .val (.int (2 : Int32)), .val (.int (4 : Int32)), .val (.int (2 : Int32)), .val (.int c1)] [(.int (2 : Int32))])) (fun t k => XS.iload X11.here hx rfl (hb hby d6_3) rfl k) ?_
      refine Go.on (B := T11.setTop (mkF m 7 #[.val (.ref a1), .val (.int (2 : Int32)), .val (.ref a3), .val (.int (2 : Int32)), .val (.int (4 : Int32)), .val (.int (2 : Int32)), .val (.int c1)] [(.int (4 : Int32)), (.int (2 : Int32))])) (fun t k => XS.iload X11.here hx rfl (hb hby d6_5) rfl k) ?_
      have hc7_12 : (2 : Int32) < (4 : Int32) := by decide
      refine Go.on (B := T11.setTop (mkF m 10 #[.val (.ref a1), .val (.int (2 : Int32)), .val (.ref a3), .val (.int (2 : Int32)), .val (.int (4 : Int32)), .val (.int (2 : Int32)), .val (.int c1)] [])) (fun t k => XS.icmpNo X11.here hx rfl (hb hby d6_7) rfl (tlt hc7_12).2.1 k) ?_
      refine Go.on (B := T11.setTop (mkF m 11 #[.val (.ref a1), .val (.int (2 : Int32)), .val (.ref a3), .val (.int (2 : Int32)), .val (.int (4 : Int32)), .val (.int (2 : Int32)), .val (.int c1)] [(.ref a1)])) (fun t k => XS.aloadN X11.here hx rfl (hb hby d6_10) rfl rfl k) ?_
      refine Go.on (B := T11.setTop (mkF m 12 #[.val (.ref a1), .val (.int (2 : Int32)), .val (.ref a3), .val (.int (2 : Int32)), .val (.int (4 : Int32)), .val (.int (2 : Int32)), .val (.int c1)] [(.int (2 : Int32)), (.ref a1)])) (fun t k => XS.iloadN X11.here hx rfl (hb hby d6_11) rfl k) ?_
      obtain ⟨cl13, Ar13, qq13, Sz13, Ng13, Hh13, Gg13⟩ := id f4
      have hin13 : ¬ ((2 : Int32) < 0 ∨ cl13.slots.size ≤ ((2 : Int32)).toNatClampNeg) := inb_of Sz13 ⟨by decide, by decide⟩
      have hat13 : cl13.slots[((2 : Int32)).toNatClampNeg]? = some (.int c2) := Hh13.at hin13 rfl
      refine Go.on (B := T11.setTop (mkF m 13 #[.val (.ref a1), .val (.int (2 : Int32)), .val (.ref a3), .val (.int (2 : Int32)), .val (.int (4 : Int32)), .val (.int (2 : Int32)), .val (.int c1)] [(.int c2)])) (fun t k => X11.caload hx (j := (2 : Int32)) (v := (.int c2)) (by rw [e11]; exact Ar13.1) (State.isArrayOf_alike hZ.alike Ar13.2.1) Ar13.2.2 hin13 hat13 (g := (mkF m 12 #[.val (.ref a1), .val (.int (2 : Int32)), .val (.ref a3), .val (.int (2 : Int32)), .val (.int (4 : Int32)), .val (.int (2 : Int32)), .val (.int c1)] [(.int (2 : Int32)), (.ref a1)])) rfl rfl (hb hby d6_12) _ k) ?_
      refine Go.on (B := T11.setTop (mkF m 15 #[.val (.ref a1), .val (.int (2 : Int32)), .val (.ref a3), .val (.int (2 : Int32)), .val (.int (4 : Int32)), .val (.int (2 : Int32)), .val (.int c2)] [])) (fun t k => XS.istore X11.here hx rfl (hb hby d6_13) rfl (l' := #[.val (.ref a1), .val (.int (2 : Int32)), .val (.ref a3), .val (.int (2 : Int32)), .val (.int (4 : Int32)), .val (.int (2 : Int32)), .val (.int c2)]) rfl k) ?_
      refine Go.on (B := T11.setTop (mkF m 17 #[.val (.ref a1), .val (.int (2 : Int32)), .val (.ref a3), .val (.int (2 : Int32)), .val (.int (4 : Int32)), .val (.int (2 : Int32)), .val (.int c2)] [(.int c2)])) (fun t k => XS.iload X11.here hx rfl (hb hby d6_15) rfl k) ?_
      refine Go.on (B := T11.setTop (mkF m 20 #[.val (.ref a1), .val (.int (2 : Int32)), .val (.ref a3), .val (.int (2 : Int32)), .val (.int (4 : Int32)), .val (.int (2 : Int32)), .val (.int c2)] [(.int (255 : Int32)), (.int c2)])) (fun t k => XS.sipush X11.here hx rfl (hb hby d6_17) k) ?_
      by_cases hc20_15 : (255 : Int32) < c2
      · refine Go.on (B := T11.setTop (mkF m 23 #[.val (.ref a1), .val (.int (2 : Int32)), .val (.ref a3), .val (.int (2 : Int32)), .val (.int (4 : Int32)), .val (.int (2 : Int32)), .val (.int c2)] [])) (fun t k => XS.icmpNo X11.here hx rfl (hb hby d6_20) rfl (tlt hc20_15).2.2.2 k) ?_
        refine Go.on (B := T11.setTop (mkF m 25 #[.val (.ref a1), .val (.int (2 : Int32)), .val (.ref a3), .val (.int (2 : Int32)), .val (.int (4 : Int32)), .val (.int (2 : Int32)), .val (.int c2)] [(.int (2 : Int32))])) (fun t k => XS.iload X11.here hx rfl (hb hby d6_23) rfl k) ?_
        obtain ⟨fs, hr, hrun, hended, hW, hsame⟩ := X11.leave (v := some (.int (2 : Int32))) (fun h => by rw [Bd.returns] at h; cases h)
        refine ⟨_, _, ?_, hrun, hended, _, _, rfl, ?_, ⟨_, rfl⟩, hW, hsame.mono (by decide) (by decide)⟩
        · exact retI X11 hx Bd.returns (hb hby d6_25) hr
        · show Q_rc5_4 Z a1 a3 kc k3 c0 c1 c2 c3 h0 n0 _ T11.heap _
          rw [e11]
          exact ⟨(Or.inr (Or.inr (Or.inr (Or.inl ⟨rfl, hc20_15⟩)))), N11, K6⟩
      · refine Go.on (B := T11.setTop (mkF m 26 #[.val (.ref a1), .val (.int (2 : Int32)), .val (.ref a3), .val (.int (2 : Int32)), .val (.int (4 : Int32)), .val (.int (2 : Int32)), .val (.int c2)] [])) (fun t k => XS.icmpYes X11.here hx rfl (pc0 := 20) (pc' := 26) rfl (hb hby d6_20) rfl (flt hc20_15).2.2.2 (by decide) (by decide) k) ?_
        refine Go.on (B := T11.setTop (mkF m 27 #[.val (.ref a1), .val (.int (2 : Int32)), .val (.ref a3), .val (.int (2 : Int32)), .val (.int (4 : Int32)), .val (.int (2 : Int32)), .val (.int c2)] [(.ref a3)])) (fun t k => XS.aloadN X11.here hx rfl (hb hby d6_26) rfl rfl k) ?_
        refine Go.on (B := T11.setTop (mkF m 28 #[.val (.ref a1), .val (.int (2 : Int32)), .val (.ref a3), .val (.int (2 : Int32)), .val (.int (4 : Int32)), .val (.int (2 : Int32)), .val (.int c2)] [(.int (2 : Int32)), (.ref a3)])) (fun t k => XS.iloadN X11.here hx rfl (hb hby d6_27) rfl k) ?_
        refine Go.on (B := T11.setTop (mkF m 30 #[.val (.ref a1), .val (.int (2 : Int32)), .val (.ref a3), .val (.int (2 : Int32)), .val (.int (4 : Int32)), .val (.int (2 : Int32)), .val (.int c2)] [(.int c2), (.int (2 : Int32)), (.ref a3)])) (fun t k => XS.iload X11.here hx rfl (hb hby d6_28) rfl k) ?_
        refine Go.on (B := T11.setTop (mkF m 31 #[.val (.ref a1), .val (.int (2 : Int32)), .val (.ref a3), .val (.int (2 : Int32)), .val (.int (4 : Int32)), .val (.int (2 : Int32)), .val (.int c2)] [(.int (c2.toInt8.toInt32)), (.int (2 : Int32)), (.ref a3)])) (fun t k => XS.i2b X11.here hx rfl (hb hby d6_30) rfl k) ?_
        obtain ⟨cl16, Ar16, qq16, Sz16, Ng16, Hh16, Gg16⟩ := id V11
        have hin16 : ¬ ((2 : Int32) < 0 ∨ cl16.slots.size ≤ ((2 : Int32)).toNatClampNeg) := inb_of Sz16 ⟨by decide, by decide⟩
        obtain ⟨T16, h16, X16, e16, W16, st16⟩ := stB X11 hx hZ e11 Ar16 (j := (2 : Int32)) hin16 (g := (mkF m 31 #[.val (.ref a1), .val (.int (2 : Int32)), .val (.ref a3), .val (.int (2 : Int32)), .val (.int (4 : Int32)), .val (.int (2 : Int32)), .val (.int c2)] [(.int (c2.toInt8.toInt32)), (.int (2 : Int32)), (.ref a3)])) rfl rfl (hb hby d6_31)
        have V16 : Arv Z h16 a3 k3 .byte (4 : Int32) [(.int ((c0.toInt8.toInt32).toInt8.toInt32)), (.int ((c1.toInt8.toInt32).toInt8.toInt32)), (.int ((c2.toInt8.toInt32).toInt8.toInt32)), (.int (0 : Int32))] (.int (0 : Int32)) := Arv.set Ar16 qq16 Sz16 Ng16 Hh16 Gg16 (fits_nar_byte _) W16 2 rfl (Nat.le_of_ble_eq_true rfl)
        have N16 := Fr.snoc X16 N11 g3
        have f7 := f4.other W16 hne
        have Zs8 := Nat.le_trans Zs5 (Keep.of_wr W16).1
        have K9 := K6.wr W16 (Or.inl (List.mem_of_getElem? (i := 0) rfl))
        refine Go.on (B := T16.setTop (mkF m 32 #[.val (.ref a1), .val (.int (2 : Int32)), .val (.ref a3), .val (.int (2 : Int32)), .val (.int (4 : Int32)), .val (.int (2 : Int32)), .val (.int c2)] [])) (fun t k => st16 _ k) ?_
        refine Go.on (B := T16.setTop (mkF m 35 #[.val (.ref a1), .val (.int ((2 : Int32) + (1 : Int32))), .val (.ref a3), .val (.int (2 : Int32)), .val (.int (4 : Int32)), .val (.int (2 : Int32)), .val (.int c2)] [])) (fun t k => XS.iinc X16.here hx rfl (hb hby d6_32) rfl (l' := #[.val (.ref a1), .val (.int ((2 : Int32) + (1 : Int32))), .val (.ref a3), .val (.int (2 : Int32)), .val (.int (4 : Int32)), .val (.int (2 : Int32)), .val (.int c2)]) rfl k) ?_
        rw [show ((2 : Int32) + (1 : Int32)) = (3 : Int32) from by decide]
        refine Go.on (B := T16.setTop (mkF m 38 #[.val (.ref a1), .val (.int (3 : Int32)), .val (.ref a3), .val (.int ((2 : Int32) + (1 : Int32))), .val (.int (4 : Int32)), .val (.int (2 : Int32)), .val (.int c2)] [])) (fun t k => XS.iinc X16.here hx rfl (hb hby d6_35) rfl (l' := #[.val (.ref a1), .val (.int (3 : Int32)), .val (.ref a3), .val (.int ((2 : Int32) + (1 : Int32))), .val (.int (4 : Int32)), .val (.int (2 : Int32)), .val (.int c2)]) rfl k) ?_
        rw [show ((2 : Int32) + (1 : Int32)) = (3 : Int32) from by decide]
        refine Go.on (B := T16.setTop (mkF m 41 #[.val (.ref a1), .val (.int (3 : Int32)), .val (.ref a3), .val (.int (3 : Int32)), .val (.int (4 : Int32)), .val (.int ((2 : Int32) + (1 : Int32))), .val (.int c2)] [])) (fun t k => XS.iinc X16.here hx rfl (hb hby d6_38) rfl (l' := #[.val (.ref a1), .val (.int (3 : Int32)), .val (.ref a3), .val (.int (3 : Int32)), .val (.int (4 : Int32)), .val (.int ((2 : Int32) + (1 : Int32))), .val (.int c2)]) rfl k) ?_
        rw [show ((2 : Int32) + (1 : Int32)) = (3 : Int32) from by decide]
        refine Go.on (B := T16.setTop (mkF m 3 #[.val (.ref a1), .val (.int (3 : Int32)), .val (.ref a3), .val (.int (3 : Int32)), .val (.int (4 : Int32)), .val (.int (3 : Int32)), .val (.int c2)] [])) (fun t k => XS.goto X16.here hx rfl (pc0 := 41) (pc' := 3) rfl (hb hby d6_41) (by decide) (by decide) k) ?_
        refine Go.on (B := T16.setTop (mkF m 5 #[.val (.ref a1), .val (.int (3 : Int32)), .val (.ref a3), .val (.int (3 : Int32)), .val (.int (4 : Int32)), .val (.int (3 : Int32)), .val (.int c2)] [(.int (3 : Int32))])) (fun t k => XS.iload X16.here hx rfl (hb hby d6_3) rfl k) ?_
        refine Go.on (B := T16.setTop (mkF m 7 #[.val (.ref a1), .val (.int (3 : Int32)), .val (.ref a3), .val (.int (3 : Int32)), .val (.int (4 : Int32)), .val (.int (3 : Int32)), .val (.int c2)] [(.int (4 : Int32)), (.int (3 : Int32))])) (fun t k => XS.iload X16.here hx rfl (hb hby d6_5) rfl k) ?_
        have hc7_17 : (3 : Int32) < (4 : Int32) := by decide
        refine Go.on (B := T16.setTop (mkF m 10 #[.val (.ref a1), .val (.int (3 : Int32)), .val (.ref a3), .val (.int (3 : Int32)), .val (.int (4 : Int32)), .val (.int (3 : Int32)), .val (.int c2)] [])) (fun t k => XS.icmpNo X16.here hx rfl (hb hby d6_7) rfl (tlt hc7_17).2.1 k) ?_
        refine Go.on (B := T16.setTop (mkF m 11 #[.val (.ref a1), .val (.int (3 : Int32)), .val (.ref a3), .val (.int (3 : Int32)), .val (.int (4 : Int32)), .val (.int (3 : Int32)), .val (.int c2)] [(.ref a1)])) (fun t k => XS.aloadN X16.here hx rfl (hb hby d6_10) rfl rfl k) ?_
        refine Go.on (B := T16.setTop (mkF m 12 #[.val (.ref a1), .val (.int (3 : Int32)), .val (.ref a3), .val (.int (3 : Int32)), .val (.int (4 : Int32)), .val (.int (3 : Int32)), .val (.int c2)] [(.int (3 : Int32)), (.ref a1)])) (fun t k => XS.iloadN X16.here hx rfl (hb hby d6_11) rfl k) ?_
        obtain ⟨cl18, Ar18, qq18, Sz18, Ng18, Hh18, Gg18⟩ := id f7
        have hin18 : ¬ ((3 : Int32) < 0 ∨ cl18.slots.size ≤ ((3 : Int32)).toNatClampNeg) := inb_of Sz18 ⟨by decide, by decide⟩
        have hat18 : cl18.slots[((3 : Int32)).toNatClampNeg]? = some (.int c3) := Hh18.at hin18 rfl
        refine Go.on (B := T16.setTop (mkF m 13 #[.val (.ref a1), .val (.int (3 : Int32)), .val (.ref a3), .val (.int (3 : Int32)), .val (.int (4 : Int32)), .val (.int (3 : Int32)), .val (.int c2)] [(.int c3)])) (fun t k => X16.caload hx (j := (3 : Int32)) (v := (.int c3)) (by rw [e16]; exact Ar18.1) (State.isArrayOf_alike hZ.alike Ar18.2.1) Ar18.2.2 hin18 hat18 (g := (mkF m 12 #[.val (.ref a1), .val (.int (3 : Int32)), .val (.ref a3), .val (.int (3 : Int32)), .val (.int (4 : Int32)), .val (.int (3 : Int32)), .val (.int c2)] [(.int (3 : Int32)), (.ref a1)])) rfl rfl (hb hby d6_12) _ k) ?_
        refine Go.on (B := T16.setTop (mkF m 15 #[.val (.ref a1), .val (.int (3 : Int32)), .val (.ref a3), .val (.int (3 : Int32)), .val (.int (4 : Int32)), .val (.int (3 : Int32)), .val (.int c3)] [])) (fun t k => XS.istore X16.here hx rfl (hb hby d6_13) rfl (l' := #[.val (.ref a1), .val (.int (3 : Int32)), .val (.ref a3), .val (.int (3 : Int32)), .val (.int (4 : Int32)), .val (.int (3 : Int32)), .val (.int c3)]) rfl k) ?_
        refine Go.on (B := T16.setTop (mkF m 17 #[.val (.ref a1), .val (.int (3 : Int32)), .val (.ref a3), .val (.int (3 : Int32)), .val (.int (4 : Int32)), .val (.int (3 : Int32)), .val (.int c3)] [(.int c3)])) (fun t k => XS.iload X16.here hx rfl (hb hby d6_15) rfl k) ?_
        refine Go.on (B := T16.setTop (mkF m 20 #[.val (.ref a1), .val (.int (3 : Int32)), .val (.ref a3), .val (.int (3 : Int32)), .val (.int (4 : Int32)), .val (.int (3 : Int32)), .val (.int c3)] [(.int (255 : Int32)), (.int c3)])) (fun t k => XS.sipush X16.here hx rfl (hb hby d6_17) k) ?_
        by_cases hc20_20 : (255 : Int32) < c3
        · refine Go.on (B := T16.setTop (mkF m 23 #[.val (.ref a1), .val (.int (3 : Int32)), .val (.ref a3), .val (.int (3 : Int32)), .val (.int (4 : Int32)), .val (.int (3 : Int32)), .val (.int c3)] [])) (fun t k => XS.icmpNo X16.here hx rfl (hb hby d6_20) rfl (tlt hc20_20).2.2.2 k) ?_
          refine Go.on (B := T16.setTop (mkF m 25 #[.val (.ref a1), .val (.int (3 : Int32)), .val (.ref a3), .val (.int (3 : Int32)), .val (.int (4 : Int32)), .val (.int (3 : Int32)), .val (.int c3)] [(.int (3 : Int32))])) (fun t k => XS.iload X16.here hx rfl (hb hby d6_23) rfl k) ?_
          obtain ⟨fs, hr, hrun, hended, hW, hsame⟩ := X16.leave (v := some (.int (3 : Int32))) (fun h => by rw [Bd.returns] at h; cases h)
          refine ⟨_, _, ?_, hrun, hended, _, _, rfl, ?_, ⟨_, rfl⟩, hW, hsame.mono (by decide) (by decide)⟩
          · exact retI X16 hx Bd.returns (hb hby d6_25) hr
          · show Q_rc5_4 Z a1 a3 kc k3 c0 c1 c2 c3 h0 n0 _ T16.heap _
            rw [e16]
            exact ⟨(Or.inr (Or.inr (Or.inr (Or.inr ⟨rfl, hc20_20⟩)))), N16, K9⟩
        · refine Go.on (B := T16.setTop (mkF m 26 #[.val (.ref a1), .val (.int (3 : Int32)), .val (.ref a3), .val (.int (3 : Int32)), .val (.int (4 : Int32)), .val (.int (3 : Int32)), .val (.int c3)] [])) (fun t k => XS.icmpYes X16.here hx rfl (pc0 := 20) (pc' := 26) rfl (hb hby d6_20) rfl (flt hc20_20).2.2.2 (by decide) (by decide) k) ?_
          refine Go.on (B := T16.setTop (mkF m 27 #[.val (.ref a1), .val (.int (3 : Int32)), .val (.ref a3), .val (.int (3 : Int32)), .val (.int (4 : Int32)), .val (.int (3 : Int32)), .val (.int c3)] [(.ref a3)])) (fun t k => XS.aloadN X16.here hx rfl (hb hby d6_26) rfl rfl k) ?_
          refine Go.on (B := T16.setTop (mkF m 28 #[.val (.ref a1), .val (.int (3 : Int32)), .val (.ref a3), .val (.int (3 : Int32)), .val (.int (4 : Int32)), .val (.int (3 : Int32)), .val (.int c3)] [(.int (3 : Int32)), (.ref a3)])) (fun t k => XS.iloadN X16.here hx rfl (hb hby d6_27) rfl k) ?_
          refine Go.on (B := T16.setTop (mkF m 30 #[.val (.ref a1), .val (.int (3 : Int32)), .val (.ref a3), .val (.int (3 : Int32)), .val (.int (4 : Int32)), .val (.int (3 : Int32)), .val (.int c3)] [(.int c3), (.int (3 : Int32)), (.ref a3)])) (fun t k => XS.iload X16.here hx rfl (hb hby d6_28) rfl k) ?_
          refine Go.on (B := T16.setTop (mkF m 31 #[.val (.ref a1), .val (.int (3 : Int32)), .val (.ref a3), .val (.int (3 : Int32)), .val (.int (4 : Int32)), .val (.int (3 : Int32)), .val (.int c3)] [(.int (c3.toInt8.toInt32)), (.int (3 : Int32)), (.ref a3)])) (fun t k => XS.i2b X16.here hx rfl (hb hby d6_30) rfl k) ?_
          obtain ⟨cl21, Ar21, qq21, Sz21, Ng21, Hh21, Gg21⟩ := id V16
          have hin21 : ¬ ((3 : Int32) < 0 ∨ cl21.slots.size ≤ ((3 : Int32)).toNatClampNeg) := inb_of Sz21 ⟨by decide, by decide⟩
          obtain ⟨T21, h21, X21, e21, W21, st21⟩ := stB X16 hx hZ e16 Ar21 (j := (3 : Int32)) hin21 (g := (mkF m 31 #[.val (.ref a1), .val (.int (3 : Int32)), .val (.ref a3), .val (.int (3 : Int32)), .val (.int (4 : Int32)), .val (.int (3 : Int32)), .val (.int c3)] [(.int (c3.toInt8.toInt32)), (.int (3 : Int32)), (.ref a3)])) rfl rfl (hb hby d6_31)
          have V21 : Arv Z h21 a3 k3 .byte (4 : Int32) [(.int ((c0.toInt8.toInt32).toInt8.toInt32)), (.int ((c1.toInt8.toInt32).toInt8.toInt32)), (.int ((c2.toInt8.toInt32).toInt8.toInt32)), (.int ((c3.toInt8.toInt32).toInt8.toInt32))] (.int (0 : Int32)) := Arv.set Ar21 qq21 Sz21 Ng21 Hh21 Gg21 (fits_nar_byte _) W21 3 rfl (Nat.le_of_ble_eq_true rfl)
          have N21 := Fr.snoc X21 N16 g3
          have f10 := f7.other W21 hne
          have Zs11 := Nat.le_trans Zs8 (Keep.of_wr W21).1
          have K12 := K9.wr W21 (Or.inl (List.mem_of_getElem? (i := 0) rfl))
          refine Go.on (B := T21.setTop (mkF m 32 #[.val (.ref a1), .val (.int (3 : Int32)), .val (.ref a3), .val (.int (3 : Int32)), .val (.int (4 : Int32)), .val (.int (3 : Int32)), .val (.int c3)] [])) (fun t k => st21 _ k) ?_
          refine Go.on (B := T21.setTop (mkF m 35 #[.val (.ref a1), .val (.int ((3 : Int32) + (1 : Int32))), .val (.ref a3), .val (.int (3 : Int32)), .val (.int (4 : Int32)), .val (.int (3 : Int32)), .val (.int c3)] [])) (fun t k => XS.iinc X21.here hx rfl (hb hby d6_32) rfl (l' := #[.val (.ref a1), .val (.int ((3 : Int32) + (1 : Int32))), .val (.ref a3), .val (.int (3 : Int32)), .val (.int (4 : Int32)), .val (.int (3 : Int32)), .val (.int c3)]) rfl k) ?_
          rw [show ((3 : Int32) + (1 : Int32)) = (4 : Int32) from by decide]
          refine Go.on (B := T21.setTop (mkF m 38 #[.val (.ref a1), .val (.int (4 : Int32)), .val (.ref a3), .val (.int ((3 : Int32) + (1 : Int32))), .val (.int (4 : Int32)), .val (.int (3 : Int32)), .val (.int c3)] [])) (fun t k => XS.iinc X21.here hx rfl (hb hby d6_35) rfl (l' := #[.val (.ref a1), .val (.int (4 : Int32)), .val (.ref a3), .val (.int ((3 : Int32) + (1 : Int32))), .val (.int (4 : Int32)), .val (.int (3 : Int32)), .val (.int c3)]) rfl k) ?_
          rw [show ((3 : Int32) + (1 : Int32)) = (4 : Int32) from by decide]
          refine Go.on (B := T21.setTop (mkF m 41 #[.val (.ref a1), .val (.int (4 : Int32)), .val (.ref a3), .val (.int (4 : Int32)), .val (.int (4 : Int32)), .val (.int ((3 : Int32) + (1 : Int32))), .val (.int c3)] [])) (fun t k => XS.iinc X21.here hx rfl (hb hby d6_38) rfl (l' := #[.val (.ref a1), .val (.int (4 : Int32)), .val (.ref a3), .val (.int (4 : Int32)), .val (.int (4 : Int32)), .val (.int ((3 : Int32) + (1 : Int32))), .val (.int c3)]) rfl k) ?_
          rw [show ((3 : Int32) + (1 : Int32)) = (4 : Int32) from by decide]
          refine Go.on (B := T21.setTop (mkF m 3 #[.val (.ref a1), .val (.int (4 : Int32)), .val (.ref a3), .val (.int (4 : Int32)), .val (.int (4 : Int32)), .val (.int (4 : Int32)), .val (.int c3)] [])) (fun t k => XS.goto X21.here hx rfl (pc0 := 41) (pc' := 3) rfl (hb hby d6_41) (by decide) (by decide) k) ?_
          refine Go.on (B := T21.setTop (mkF m 5 #[.val (.ref a1), .val (.int (4 : Int32)), .val (.ref a3), .val (.int (4 : Int32)), .val (.int (4 : Int32)), .val (.int (4 : Int32)), .val (.int c3)] [(.int (4 : Int32))])) (fun t k => XS.iload X21.here hx rfl (hb hby d6_3) rfl k) ?_
          refine Go.on (B := T21.setTop (mkF m 7 #[.val (.ref a1), .val (.int (4 : Int32)), .val (.ref a3), .val (.int (4 : Int32)), .val (.int (4 : Int32)), .val (.int (4 : Int32)), .val (.int c3)] [(.int (4 : Int32)), (.int (4 : Int32))])) (fun t k => XS.iload X21.here hx rfl (hb hby d6_5) rfl k) ?_
          have hc7_22 : ¬ ((4 : Int32) < (4 : Int32)) := by decide
          refine Go.on (B := T21.setTop (mkF m 44 #[.val (.ref a1), .val (.int (4 : Int32)), .val (.ref a3), .val (.int (4 : Int32)), .val (.int (4 : Int32)), .val (.int (4 : Int32)), .val (.int c3)] [])) (fun t k => XS.icmpYes X21.here hx rfl (pc0 := 7) (pc' := 44) rfl (hb hby d6_7) rfl (flt hc7_22).2.1 (by decide) (by decide) k) ?_
          refine Go.on (B := T21.setTop (mkF m 46 #[.val (.ref a1), .val (.int (4 : Int32)), .val (.ref a3), .val (.int (4 : Int32)), .val (.int (4 : Int32)), .val (.int (4 : Int32)), .val (.int c3)] [(.int (4 : Int32))])) (fun t k => XS.iload X21.here hx rfl (hb hby d6_44) rfl k) ?_
          obtain ⟨fs, hr, hrun, hended, hW, hsame⟩ := X21.leave (v := some (.int (4 : Int32))) (fun h => by rw [Bd.returns] at h; cases h)
          refine ⟨_, _, ?_, hrun, hended, _, _, rfl, ?_, ⟨_, rfl⟩, hW, hsame.mono (by decide) (by decide)⟩
          · exact retI X21 hx Bd.returns (hb hby d6_46) hr
          · show Q_rc5_4 Z a1 a3 kc k3 c0 c1 c2 c3 h0 n0 _ T21.heap _
            rw [e21]
            exact ⟨Or.inl ⟨rfl, V21, hc20_5, hc20_10, hc20_15, hc20_20⟩, N21, K12⟩
theorem d5_0 : decode jdk_52_method_16_code 0 = .ok (.iload_n 2, 1) := by decide +kernel
theorem d5_1 : decode jdk_52_method_16_code 1 = .ok (.newarray .byte, 2) := by decide +kernel
theorem d5_3 : decode jdk_52_method_16_code 3 = .ok (.astore_n 3, 1) := by decide +kernel
theorem d5_4 : decode jdk_52_method_16_code 4 = .ok (.aload_n 0, 1) := by decide +kernel
theorem d5_5 : decode jdk_52_method_16_code 5 = .ok (.iload_n 1, 1) := by decide +kernel
theorem d5_6 : decode jdk_52_method_16_code 6 = .ok (.aload_n 3, 1) := by decide +kernel
theorem d5_7 : decode jdk_52_method_16_code 7 = .ok (.iconst 0, 1) := by decide +kernel
theorem d5_8 : decode jdk_52_method_16_code 8 = .ok (.iload_n 2, 1) := by decide +kernel
theorem d5_9 : decode jdk_52_method_16_code 9 = .ok (.invokestatic 115, 3) := by decide +kernel
theorem d5_12 : decode jdk_52_method_16_code 12 = .ok (.istore 4, 2) := by decide +kernel
theorem d5_14 : decode jdk_52_method_16_code 14 = .ok (.iload 4, 2) := by decide +kernel
theorem d5_16 : decode jdk_52_method_16_code 16 = .ok (.iload_n 2, 1) := by decide +kernel
theorem d5_17 : decode jdk_52_method_16_code 17 = .ok (.if_icmp .eq 40, 3) := by decide +kernel
theorem d5_20 : decode jdk_52_method_16_code 20 = .ok (.aload_n 0, 1) := by decide +kernel
theorem d5_21 : decode jdk_52_method_16_code 21 = .ok (.iload_n 1, 1) := by decide +kernel
theorem d5_22 : decode jdk_52_method_16_code 22 = .ok (.iload_n 2, 1) := by decide +kernel
theorem d5_23 : decode jdk_52_method_16_code 23 = .ok (.invokestatic 119, 3) := by decide +kernel
theorem d5_26 : decode jdk_52_method_16_code 26 = .ok (.astore 5, 2) := by decide +kernel
theorem d5_28 : decode jdk_52_method_16_code 28 = .ok (.aload 5, 2) := by decide +kernel
theorem d5_30 : decode jdk_52_method_16_code 30 = .ok (.iload 4, 2) := by decide +kernel
theorem d5_32 : decode jdk_52_method_16_code 32 = .ok (.invokestatic 71, 3) := by decide +kernel
theorem d5_35 : decode jdk_52_method_16_code 35 = .ok (.sipush 255, 3) := by decide +kernel
theorem d5_38 : decode jdk_52_method_16_code 38 = .ok (.if_icmp .gt 16, 3) := by decide +kernel
theorem d5_54 : decode jdk_52_method_16_code 54 = .ok (.aload 5, 2) := by decide +kernel
theorem d5_56 : decode jdk_52_method_16_code 56 = .ok (.areturn, 1) := by decide +kernel
theorem d5_57 : decode jdk_52_method_16_code 57 = .ok (.aload_n 3, 1) := by decide +kernel
theorem d5_58 : decode jdk_52_method_16_code 58 = .ok (.areturn, 1) := by decide +kernel
theorem pd_9 : parseMethodDescriptor "([CI[BII)I" = some ⟨[(.array .char), .int, (.array .byte), .int, .int], some .int⟩ := by decide +kernel
theorem pd_10 : parseMethodDescriptor "([CII)[B" = some ⟨[(.array .char), .int, .int], some (.array .byte)⟩ := by decide +kernel
theorem ef_rc3_4 (m : MethodId) (a1 : Addr) : entryFrame m #[(.ref a1), (.int (0 : Int32)), (.int (4 : Int32))] 6 = mkF m 0 #[.val (.ref a1), .val (.int (0 : Int32)), .val (.int (4 : Int32)), .unset, .unset, .unset] [] := by first | (simp [entryFrame, mkF, argsToLocals, Value.category]; done) | rfl
def Q_rc3_4 (Z : State) (a1 : Addr) (kc : ClassId) (c0 c1 c2 c3 : Int32) (h0 : Heap) (n0 : Nat) (v : Option Value) (h : Heap) (L : List Loc) : Prop := (∃ (b : Addr) (kb : ClassId), v = some (.ref b) ∧ h0.size ≤ b ∧ ((Arv Z h b kb .byte (4 : Int32) [(.int (((c0.toInt8.toInt32)).toInt8.toInt32)), (.int (((c1.toInt8.toInt32)).toInt8.toInt32)), (.int (((c2.toInt8.toInt32)).toInt8.toInt32)), (.int (((c3.toInt8.toInt32)).toInt8.toInt32))] (.int (0 : Int32)) ∧ ¬ ((255 : Int32) < c0) ∧ ¬ ((255 : Int32) < c1) ∧ ¬ ((255 : Int32) < c2) ∧ ¬ ((255 : Int32) < c3)) ∨ (Arv Z h b kb .byte (8 : Int32) [(.int ((((c0 >>> ((0 : Int32) &&& 31))).toInt8.toInt32).toInt8.toInt32)), (.int ((((c0 >>> ((8 : Int32) &&& 31))).toInt8.toInt32).toInt8.toInt32)), (.int ((((c1 >>> ((0 : Int32) &&& 31))).toInt8.toInt32).toInt8.toInt32)), (.int ((((c1 >>> ((8 : Int32) &&& 31))).toInt8.toInt32).toInt8.toInt32)), (.int ((((c2 >>> ((0 : Int32) &&& 31))).toInt8.toInt32).toInt8.toInt32)), (.int ((((c2 >>> ((8 : Int32) &&& 31))).toInt8.toInt32).toInt8.toInt32)), (.int ((((c3 >>> ((0 : Int32) &&& 31))).toInt8.toInt32).toInt8.toInt32)), (.int ((((c3 >>> ((8 : Int32) &&& 31))).toInt8.toInt32).toInt8.toInt32))] (.int (0 : Int32))))) ∧ Fr n0 L ∧ Keep h0 h []
set_option maxRecDepth 65536 in
set_option maxHeartbeats 40000000 in
theorem rc3_4 (l : Launch) (Z : State) (a0 : Array Value) (hw : ∀ d ∈ tables_1, d.before a0 Z = true) (ws : List Jvm.Cond) (a1 : Addr) (kc : ClassId) (c0 c1 c2 c3 : Int32) (h0 : Heap) (n0 : Nat) (Z0 : n0 ≤ h0.size) (V1 : Arv Z h0 a1 kc .char (4 : Int32) [(.int c0), (.int c1), (.int c2), (.int c3)] (.int (0 : Int32))) (hc0 : 0 ≤ c0.toInt ∧ c0.toInt ≤ 65535) (hc1 : 0 ≤ c1.toInt ∧ c1.toInt ≤ 65535) (hc2 : 0 ≤ c2.toInt ∧ c2.toInt ≤ 65535) (hc3 : 0 ≤ c3.toInt ∧ c3.toInt ≤ 65535) (O0 : Old Z n0 h0) (S_ad : Sta Z Z.heap "java/lang/StringUTF16" "$assertionsDisabled" "Z" (.int (1 : Int32))) (S_hi : Sta Z Z.heap "java/lang/StringUTF16" "HI_BYTE_SHIFT" "I" (.int (0 : Int32))) (S_lo : Sta Z Z.heap "java/lang/StringUTF16" "LO_BYTE_SHIFT" "I" (.int (8 : Int32))) :
    MetFree l (⟨"java/lang/StringUTF16", "compress", "([CII)[B"⟩ : MethodName) (head1 (Jvm.Cond.code (⟨"java/lang/StringUTF16", "compress", "([CII)[B"⟩ : MethodName) jdk_52_method_16_code 6 (some (.array .byte)) :: ws) ({ frames := 3, cells := 2, slots := 12, locals := 60 } : Room)) (fun a U => a = #[(.ref a1), (.int (0 : Int32)), (.int (4 : Int32))] ∧ Z.Warmed39 U.vm ∧ U.heap = h0) (fun _ _ _ _ _ => True) (fun _ U o U' => ∃ v L, o = .returned v ∧ Q_rc3_4 Z a1 kc c0 c1 c2 c3 h0 n0 v U'.heap L ∧ FrameEnd U o U' L ({ frames := 3, cells := 2, slots := 12, locals := 60 } : Room).cells ({ frames := 3, cells := 2, slots := 12, locals := 60 } : Room).slots) := by
  refine MetFree.of_bodySF (plainFor_of_name pn_10) hisR ?_
  intro p e s m args below meth c s₁ Bd hml0 hP hK
  obtain ⟨rfl, hZ, hh⟩ := hP
  have hx := Bd.exec
  have hby := Bd.bytes
  have hml : c.maxLocals = 6 := hml0
  have hown : s.vm.findClass "java/lang/StringUTF16" = some m.cls := findClass_of_methodNamed Bd.named
  have hnm := (name_of_methodNamed Bd.named Bd.method).1
  have X0 : Stand p l e ({ frames := 3, cells := 2, slots := 12, locals := 60 } : Room) s m #[(.ref a1), (.int (0 : Int32)), (.int (4 : Int32))] below meth c s₁ [] 0 0 := Stand.of_body Bd
  have e0 : s₁.heap = h0 := by rw [← hh, Bd.state]; rfl
  have N0 := Fr.nil n0
  have pre0 : ∀ t, Steps p.tables e below (s₁.setTop (mkF m 0 #[.val (.ref a1), .val (.int (0 : Int32)), .val (.int (4 : Int32)), .unset, .unset, .unset] [])) t → Steps p.tables e below (s₁.setTop (entryFrame m #[(.ref a1), (.int (0 : Int32)), (.int (4 : Int32))] 6)) t := fun t k => castTop (ef_rc3_4 m a1) k
  change Go p.tables e below (fun o U' => ∃ v L, o = .returned v ∧ Q_rc3_4 Z a1 kc c0 c1 c2 c3 h0 n0 v U'.heap L ∧ FrameEnd s o U' L ({ frames := 3, cells := 2, slots := 12, locals := 60 } : Room).cells ({ frames := 3, cells := 2, slots := 12, locals := 60 } : Room).slots) (s₁.setTop (entryFrame m #[(.ref a1), (.int (0 : Int32)), (.int (4 : Int32))] 6))
  have K0 := Keep.refl h0 []
  refine Go.on pre0 ?_
  refine Go.on (B := s₁.setTop (mkF m 1 #[.val (.ref a1), .val (.int (0 : Int32)), .val (.int (4 : Int32)), .unset, .unset, .unset] [(.int (4 : Int32))])) (fun t k => XS.iloadN X0.here hx rfl (hb hby d5_0) rfl k) ?_
  obtain ⟨T1, h1, k1, X1, e1, Xe1, A1, st1⟩ := newP X0 hx hZ (hw _ (List.mem_of_getElem? (i := 25) rfl)) e0 (g := (mkF m 1 #[.val (.ref a1), .val (.int (0 : Int32)), .val (.int (4 : Int32)), .unset, .unset, .unset] [(.int (4 : Int32))])) rfl (hb hby d5_1) rfl (by decide) (cap := 4) (by decide) (by decide) (by decide) (by decide)
  obtain ⟨b1, gq1⟩ : ∃ z, z = h0.size := ⟨_, rfl⟩
  rw [← gq1] at A1 st1
  have ge_b1 : n0 ≤ b1 := Nat.le_trans Z0 (Nat.le_of_eq gq1.symm)
  have sz_b1 : h0.size ≤ b1 := Nat.le_trans K0.1 (Nat.le_of_eq gq1.symm)
  have ne_a1_b1 : a1 ≠ b1 := Nat.ne_of_lt (Nat.lt_of_lt_of_le V1.lt (Nat.le_of_eq gq1.symm))
  have f1 := V1.ext Xe1
  have O_2 := O0.ext Xe1
  have Zs3 := Nat.le_trans Z0 Xe1.1
  have K4 := K0.ext Xe1
  have V1 : Arv Z h1 b1 k1 .byte (4 : Int32) [(.int (0 : Int32)), (.int (0 : Int32)), (.int (0 : Int32)), (.int (0 : Int32))] (.int (0 : Int32)) := (Arv.new A1 (by decide)).pad (pad_rep [] (.int (0 : Int32)) 4)
  refine Go.on (B := T1.setTop (mkF m 3 #[.val (.ref a1), .val (.int (0 : Int32)), .val (.int (4 : Int32)), .unset, .unset, .unset] [(.ref b1)])) (fun t k => st1 _ k) ?_
  refine Go.on (B := T1.setTop (mkF m 4 #[.val (.ref a1), .val (.int (0 : Int32)), .val (.int (4 : Int32)), .val (.ref b1), .unset, .unset] [])) (fun t k => XS.astoreN X1.here hx rfl (hb hby d5_3) rfl rfl (l' := #[.val (.ref a1), .val (.int (0 : Int32)), .val (.int (4 : Int32)), .val (.ref b1), .unset, .unset]) rfl k) ?_
  refine Go.on (B := T1.setTop (mkF m 5 #[.val (.ref a1), .val (.int (0 : Int32)), .val (.int (4 : Int32)), .val (.ref b1), .unset, .unset] [(.ref a1)])) (fun t k => XS.aloadN X1.here hx rfl (hb hby d5_4) rfl rfl k) ?_
  refine Go.on (B := T1.setTop (mkF m 6 #[.val (.ref a1), .val (.int (0 : Int32)), .val (.int (4 : Int32)), .val (.ref b1), .unset, .unset] [(.int (0 : Int32)), (.ref a1)])) (fun t k => XS.iloadN X1.here hx rfl (hb hby d5_5) rfl k) ?_
  refine Go.on (B := T1.setTop (mkF m 7 #[.val (.ref a1), .val (.int (0 : Int32)), .val (.int (4 : Int32)), .val (.ref b1), .unset, .unset] [(.ref b1), (.int (0 : Int32)), (.ref a1)])) (fun t k => XS.aloadN X1.here hx rfl (hb hby d5_6) rfl rfl k) ?_
  refine Go.on (B := T1.setTop (mkF m 8 #[.val (.ref a1), .val (.int (0 : Int32)), .val (.int (4 : Int32)), .val (.ref b1), .unset, .unset] [(.int (0 : Int32)), (.ref b1), (.int (0 : Int32)), (.ref a1)])) (fun t k => XS.iconst X1.here hx rfl (hb hby d5_7) k) ?_
  refine Go.on (B := T1.setTop (mkF m 9 #[.val (.ref a1), .val (.int (0 : Int32)), .val (.int (4 : Int32)), .val (.ref b1), .unset, .unset] [(.int (4 : Int32)), (.int (0 : Int32)), (.ref b1), (.int (0 : Int32)), (.ref a1)])) (fun t k => XS.iloadN X1.here hx rfl (hb hby d5_8) rfl k) ?_
  obtain ⟨_, _, ⟨T2, L2, k2, n2⟩, -, X2, ⟨Lc2, hQ2, l2, y2, z2⟩, st2⟩ := Jvm.LawKit.callS X1 hx (y := (⟨"java/lang/StringUTF16", "compress", "([CI[BII)I"⟩ : MethodName)) hown (mvT hZ (hw _ (List.mem_of_getElem? (i := 26) rfl))) (mvT hZ (hw _ (List.mem_of_getElem? (i := 27) rfl))) (mvT hZ (hw _ (List.mem_of_getElem? (i := 23) rfl))) (mvT hZ (hw _ (List.mem_of_getElem? (i := 28) rfl))) (by decide) (backOf (W := 0) (rc5_4 l Z a0 hw [] a1 b1 kc k1 c0 c1 c2 c3 h1 n0 Zs3 f1 V1 ne_a1_b1 ge_b1) hZ (hw _ (List.mem_of_getElem? (i := 28) rfl)) (hw _ (List.mem_of_getElem? (i := 23) rfl)) (by decide) (by decide)) (g := (mkF m 9 #[.val (.ref a1), .val (.int (0 : Int32)), .val (.int (4 : Int32)), .val (.ref b1), .unset, .unset] [(.int (4 : Int32)), (.int (0 : Int32)), (.ref b1), (.int (0 : Int32)), (.ref a1)])) rfl (by rw [hml]; rfl) (argsL := [(.ref a1), (.int (0 : Int32)), (.ref b1), (.int (0 : Int32)), (.int (4 : Int32))]) (rest := []) (lenOf pd_9 rfl) rfl (by show 2 * 0 + _ ≤ _; exact Nat.le_of_eq rfl) (hb hby d5_9) (fun _ _ => ⟨rfl, e1, (by decide : 1 + 0 ≤ _), (by decide : 4 + 0 ≤ _)⟩)
  dsimp only [Pt.U, Pt.locs, Pt.cells, Pt.slots] at X2 l2 y2 z2 st2 hQ2
  subst l2 y2 z2
  rcases hQ2 with ⟨⟨rfl, V52, hx2_c0, hx2_c1, hx2_c2, hx2_c3⟩ | ⟨rfl, hx2_c0⟩ | ⟨rfl, hx2_c1⟩ | ⟨rfl, hx2_c2⟩ | ⟨rfl, hx2_c3⟩, N2q, K2q⟩
  · have N2 := Fr.app N0 N2q
    have f5 := f1.keep K2q (ninS ne_a1_b1 nin0)
    have O_6 := O_2.keep K2q (allS ge_b1 all0)
    have Zs7 := Nat.le_trans Zs3 K2q.1
    have K8 := K4.trans K2q (allS (Or.inr sz_b1) all0)
    refine Go.on (B := T2.setTop (mkF m 12 #[.val (.ref a1), .val (.int (0 : Int32)), .val (.int (4 : Int32)), .val (.ref b1), .unset, .unset] [(.int (4 : Int32))])) (fun t k => st2 _ k) ?_
    refine Go.on (B := T2.setTop (mkF m 14 #[.val (.ref a1), .val (.int (0 : Int32)), .val (.int (4 : Int32)), .val (.ref b1), .val (.int (4 : Int32)), .unset] [])) (fun t k => XS.istore X2.here hx rfl (hb hby d5_12) rfl (l' := #[.val (.ref a1), .val (.int (0 : Int32)), .val (.int (4 : Int32)), .val (.ref b1), .val (.int (4 : Int32)), .unset]) rfl k) ?_
    refine Go.on (B := T2.setTop (mkF m 16 #[.val (.ref a1), .val (.int (0 : Int32)), .val (.int (4 : Int32)), .val (.ref b1), .val (.int (4 : Int32)), .unset] [(.int (4 : Int32))])) (fun t k => XS.iload X2.here hx rfl (hb hby d5_14) rfl k) ?_
    refine Go.on (B := T2.setTop (mkF m 17 #[.val (.ref a1), .val (.int (0 : Int32)), .val (.int (4 : Int32)), .val (.ref b1), .val (.int (4 : Int32)), .unset] [(.int (4 : Int32)), (.int (4 : Int32))])) (fun t k => XS.iloadN X2.here hx rfl (hb hby d5_16) rfl k) ?_
    have hc17_4 : (4 : Int32) = (4 : Int32) := by decide
    refine Go.on (B := T2.setTop (mkF m 57 #[.val (.ref a1), .val (.int (0 : Int32)), .val (.int (4 : Int32)), .val (.ref b1), .val (.int (4 : Int32)), .unset] [])) (fun t k => XS.icmpYes X2.here hx rfl (pc0 := 17) (pc' := 57) rfl (hb hby d5_17) rfl (teq hc17_4).1 (by decide) (by decide) k) ?_
    refine Go.on (B := T2.setTop (mkF m 58 #[.val (.ref a1), .val (.int (0 : Int32)), .val (.int (4 : Int32)), .val (.ref b1), .val (.int (4 : Int32)), .unset] [(.ref b1)])) (fun t k => XS.aloadN X2.here hx rfl (hb hby d5_57) rfl rfl k) ?_
    obtain ⟨fs, hr, hrun, hended, hW, hsame⟩ := X2.leave (v := some (.ref b1)) (fun h => by rw [Bd.returns] at h; cases h)
    refine ⟨_, _, ?_, hrun, hended, _, _, rfl, ?_, ⟨_, rfl⟩, hW, hsame.mono (by decide) (by decide)⟩
    · exact retOut X2 hx Bd.returns rfl (Or.inr (Or.inr (Or.inr (Or.inr ⟨rfl, rfl, rfl⟩)))) (hb hby d5_58) hr
    · show Q_rc3_4 Z a1 kc c0 c1 c2 c3 h0 n0 _ T2.heap _
      exact ⟨⟨_, _, rfl, sz_b1, Or.inl ⟨V52, hx2_c0, hx2_c1, hx2_c2, hx2_c3⟩⟩, N2, K8⟩
  · have N2 := Fr.app N0 N2q
    have f9 := f1.keep K2q (ninS ne_a1_b1 nin0)
    have O_10 := O_2.keep K2q (allS ge_b1 all0)
    have Zs11 := Nat.le_trans Zs3 K2q.1
    have K12 := K4.trans K2q (allS (Or.inr sz_b1) all0)
    refine Go.on (B := T2.setTop (mkF m 12 #[.val (.ref a1), .val (.int (0 : Int32)), .val (.int (4 : Int32)), .val (.ref b1), .unset, .unset] [(.int (0 : Int32))])) (fun t k => st2 _ k) ?_
    refine Go.on (B := T2.setTop (mkF m 14 #[.val (.ref a1), .val (.int (0 : Int32)), .val (.int (4 : Int32)), .val (.ref b1), .val (.int (0 : Int32)), .unset] [])) (fun t k => XS.istore X2.here hx rfl (hb hby d5_12) rfl (l' := #[.val (.ref a1), .val (.int (0 : Int32)), .val (.int (4 : Int32)), .val (.ref b1), .val (.int (0 : Int32)), .unset]) rfl k) ?_
    refine Go.on (B := T2.setTop (mkF m 16 #[.val (.ref a1), .val (.int (0 : Int32)), .val (.int (4 : Int32)), .val (.ref b1), .val (.int (0 : Int32)), .unset] [(.int (0 : Int32))])) (fun t k => XS.iload X2.here hx rfl (hb hby d5_14) rfl k) ?_
    refine Go.on (B := T2.setTop (mkF m 17 #[.val (.ref a1), .val (.int (0 : Int32)), .val (.int (4 : Int32)), .val (.ref b1), .val (.int (0 : Int32)), .unset] [(.int (4 : Int32)), (.int (0 : Int32))])) (fun t k => XS.iloadN X2.here hx rfl (hb hby d5_16) rfl k) ?_
    have hc17_6 : ¬ ((0 : Int32) = (4 : Int32)) := by decide
    refine Go.on (B := T2.setTop (mkF m 20 #[.val (.ref a1), .val (.int (0 : Int32)), .val (.int (4 : Int32)), .val (.ref b1), .val (.int (0 : Int32)), .unset] [])) (fun t k => XS.icmpNo X2.here hx rfl (hb hby d5_17) rfl (feq hc17_6).1 k) ?_
    refine Go.on (B := T2.setTop (mkF m 21 #[.val (.ref a1), .val (.int (0 : Int32)), .val (.int (4 : Int32)), .val (.ref b1), .val (.int (0 : Int32)), .unset] [(.ref a1)])) (fun t k => XS.aloadN X2.here hx rfl (hb hby d5_20) rfl rfl k) ?_
    refine Go.on (B := T2.setTop (mkF m 22 #[.val (.ref a1), .val (.int (0 : Int32)), .val (.int (4 : Int32)), .val (.ref b1), .val (.int (0 : Int32)), .unset] [(.int (0 : Int32)), (.ref a1)])) (fun t k => XS.iloadN X2.here hx rfl (hb hby d5_21) rfl k) ?_
    refine Go.on (B := T2.setTop (mkF m 23 #[.val (.ref a1), .val (.int (0 : Int32)), .val (.int (4 : Int32)), .val (.ref b1), .val (.int (0 : Int32)), .unset] [(.int (4 : Int32)), (.int (0 : Int32)), (.ref a1)])) (fun t k => XS.iloadN X2.here hx rfl (hb hby d5_22) rfl k) ?_
    obtain ⟨_, _, ⟨T7, L7, k7, n7⟩, -, X7, ⟨Lc7, hQ7, l7, y7, z7⟩, st7⟩ := Jvm.LawKit.callS X2 hx (y := (⟨"java/lang/StringUTF16", "toBytes", "([CII)[B"⟩ : MethodName)) hown (mvT hZ (hw _ (List.mem_of_getElem? (i := 69) rfl))) (mvT hZ (hw _ (List.mem_of_getElem? (i := 70) rfl))) (mvT hZ (hw _ (List.mem_of_getElem? (i := 23) rfl))) (mvT hZ (hw _ (List.mem_of_getElem? (i := 71) rfl))) (by decide) (backOf (W := 0) (rtb_4 l Z a0 hw [] a1 kc c0 c1 c2 c3 T2.heap n0 Zs11 f9 O_10 S_ad S_hi S_lo) hZ (hw _ (List.mem_of_getElem? (i := 71) rfl)) (hw _ (List.mem_of_getElem? (i := 23) rfl)) (by decide) (by decide)) (g := (mkF m 23 #[.val (.ref a1), .val (.int (0 : Int32)), .val (.int (4 : Int32)), .val (.ref b1), .val (.int (0 : Int32)), .unset] [(.int (4 : Int32)), (.int (0 : Int32)), (.ref a1)])) rfl (by rw [hml]; rfl) (argsL := [(.ref a1), (.int (0 : Int32)), (.int (4 : Int32))]) (rest := []) (lenOf pd_10 rfl) rfl (by show 2 * 0 + _ ≤ _; exact Nat.le_of_eq rfl) (hb hby d5_23) (fun _ _ => ⟨rfl, rfl, (by decide : 1 + 1 ≤ _), (by decide : 4 + 8 ≤ _)⟩)
    dsimp only [Pt.U, Pt.locs, Pt.cells, Pt.slots] at X7 l7 y7 z7 st7 hQ7
    subst l7 y7 z7
    obtain ⟨⟨y7, ky7, rfl, sx7, Vy7⟩, N7q, K7q⟩ := hQ7
    have N7 := Fr.app N2 N7q
    have ne_a1_y7 : a1 ≠ y7 := Nat.ne_of_lt (Nat.lt_of_lt_of_le f9.lt sx7)
    have ge_y7 : n0 ≤ y7 := Nat.le_trans Zs11 sx7
    have sz_y7 : h0.size ≤ y7 := Nat.le_trans K12.1 sx7
    have f13 := f9.keep K7q nin0
    have O_14 := O_10.keep K7q all0
    have Zs15 := Nat.le_trans Zs11 K7q.1
    have K16 := K12.trans K7q all0
    refine Go.on (B := T7.setTop (mkF m 26 #[.val (.ref a1), .val (.int (0 : Int32)), .val (.int (4 : Int32)), .val (.ref b1), .val (.int (0 : Int32)), .unset] [(.ref y7)])) (fun t k => st7 _ k) ?_
    refine Go.on (B := T7.setTop (mkF m 28 #[.val (.ref a1), .val (.int (0 : Int32)), .val (.int (4 : Int32)), .val (.ref b1), .val (.int (0 : Int32)), .val (.ref y7)] [])) (fun t k => XS.astore X7.here hx rfl (hb hby d5_26) rfl rfl (l' := #[.val (.ref a1), .val (.int (0 : Int32)), .val (.int (4 : Int32)), .val (.ref b1), .val (.int (0 : Int32)), .val (.ref y7)]) rfl k) ?_
    refine Go.on (B := T7.setTop (mkF m 30 #[.val (.ref a1), .val (.int (0 : Int32)), .val (.int (4 : Int32)), .val (.ref b1), .val (.int (0 : Int32)), .val (.ref y7)] [(.ref y7)])) (fun t k => XS.aload X7.here hx rfl (hb hby d5_28) rfl rfl k) ?_
    refine Go.on (B := T7.setTop (mkF m 32 #[.val (.ref a1), .val (.int (0 : Int32)), .val (.int (4 : Int32)), .val (.ref b1), .val (.int (0 : Int32)), .val (.ref y7)] [(.int (0 : Int32)), (.ref y7)])) (fun t k => XS.iload X7.here hx rfl (hb hby d5_30) rfl k) ?_
    obtain ⟨_, _, ⟨T8, L8, k8, n8⟩, -, X8, ⟨Lc8, hQ8, l8, y8, z8⟩, st8⟩ := Jvm.LawKit.callS X7 hx (y := (⟨"java/lang/StringUTF16", "getChar", "([BI)C"⟩ : MethodName)) hown (mvT hZ (hw _ (List.mem_of_getElem? (i := 85) rfl))) (mvT hZ (hw _ (List.mem_of_getElem? (i := 86) rfl))) (mvT hZ (hw _ (List.mem_of_getElem? (i := 23) rfl))) (mvT hZ (hw _ (List.mem_of_getElem? (i := 87) rfl))) (by decide) (backOf (W := 0) (rgc l Z a0 hw [] y7 (0 : Int32) ky7 (8 : Int32) [(.int ((((c0 >>> ((0 : Int32) &&& 31))).toInt8.toInt32).toInt8.toInt32)), (.int ((((c0 >>> ((8 : Int32) &&& 31))).toInt8.toInt32).toInt8.toInt32)), (.int ((((c1 >>> ((0 : Int32) &&& 31))).toInt8.toInt32).toInt8.toInt32)), (.int ((((c1 >>> ((8 : Int32) &&& 31))).toInt8.toInt32).toInt8.toInt32)), (.int ((((c2 >>> ((0 : Int32) &&& 31))).toInt8.toInt32).toInt8.toInt32)), (.int ((((c2 >>> ((8 : Int32) &&& 31))).toInt8.toInt32).toInt8.toInt32)), (.int ((((c3 >>> ((0 : Int32) &&& 31))).toInt8.toInt32).toInt8.toInt32)), (.int ((((c3 >>> ((8 : Int32) &&& 31))).toInt8.toInt32).toInt8.toInt32))] ((((c0 >>> ((0 : Int32) &&& 31))).toInt8.toInt32).toInt8.toInt32) ((((c0 >>> ((8 : Int32) &&& 31))).toInt8.toInt32).toInt8.toInt32) c0 T7.heap n0 Zs15 Vy7 ⟨by decide, by decide⟩ rfl ⟨by decide, by decide⟩ rfl (own_utf c0 hc0) O_14 S_ad S_hi S_lo) hZ (hw _ (List.mem_of_getElem? (i := 87) rfl)) (hw _ (List.mem_of_getElem? (i := 23) rfl)) (by decide) (by decide)) (g := (mkF m 32 #[.val (.ref a1), .val (.int (0 : Int32)), .val (.int (4 : Int32)), .val (.ref b1), .val (.int (0 : Int32)), .val (.ref y7)] [(.int (0 : Int32)), (.ref y7)])) rfl (by rw [hml]; rfl) (argsL := [(.ref y7), (.int (0 : Int32))]) (rest := []) (lenOf pd_4 rfl) rfl (by show 2 * 0 + _ ≤ _; exact Nat.le_of_eq rfl) (hb hby d5_32) (fun _ _ => ⟨rfl, rfl, (by decide : 2 + 0 ≤ _), (by decide : 12 + 0 ≤ _)⟩)
    dsimp only [Pt.U, Pt.locs, Pt.cells, Pt.slots] at X8 l8 y8 z8 st8 hQ8
    subst l8 y8 z8
    obtain ⟨rfl, N8q, e8q⟩ := hQ8
    have N8 := Fr.app N7 N8q
    refine Go.on (B := T8.setTop (mkF m 35 #[.val (.ref a1), .val (.int (0 : Int32)), .val (.int (4 : Int32)), .val (.ref b1), .val (.int (0 : Int32)), .val (.ref y7)] [(.int c0)])) (fun t k => st8 _ k) ?_
    refine Go.on (B := T8.setTop (mkF m 38 #[.val (.ref a1), .val (.int (0 : Int32)), .val (.int (4 : Int32)), .val (.ref b1), .val (.int (0 : Int32)), .val (.ref y7)] [(.int (255 : Int32)), (.int c0)])) (fun t k => XS.sipush X8.here hx rfl (hb hby d5_35) k) ?_
    have hc38_9 : (255 : Int32) < c0 := hx2_c0
    refine Go.on (B := T8.setTop (mkF m 54 #[.val (.ref a1), .val (.int (0 : Int32)), .val (.int (4 : Int32)), .val (.ref b1), .val (.int (0 : Int32)), .val (.ref y7)] [])) (fun t k => XS.icmpYes X8.here hx rfl (pc0 := 38) (pc' := 54) rfl (hb hby d5_38) rfl (tlt hc38_9).2.2.1 (by decide) (by decide) k) ?_
    refine Go.on (B := T8.setTop (mkF m 56 #[.val (.ref a1), .val (.int (0 : Int32)), .val (.int (4 : Int32)), .val (.ref b1), .val (.int (0 : Int32)), .val (.ref y7)] [(.ref y7)])) (fun t k => XS.aload X8.here hx rfl (hb hby d5_54) rfl rfl k) ?_
    obtain ⟨fs, hr, hrun, hended, hW, hsame⟩ := X8.leave (v := some (.ref y7)) (fun h => by rw [Bd.returns] at h; cases h)
    refine ⟨_, _, ?_, hrun, hended, _, _, rfl, ?_, ⟨_, rfl⟩, hW, hsame.mono (by decide) (by decide)⟩
    · exact retOut X8 hx Bd.returns rfl (Or.inr (Or.inr (Or.inr (Or.inr ⟨rfl, rfl, rfl⟩)))) (hb hby d5_56) hr
    · show Q_rc3_4 Z a1 kc c0 c1 c2 c3 h0 n0 _ T8.heap _
      rw [e8q]
      exact ⟨⟨_, _, rfl, sz_y7, Or.inr Vy7⟩, N8, K16⟩
  · have N2 := Fr.app N0 N2q
    have f17 := f1.keep K2q (ninS ne_a1_b1 nin0)
    have O_18 := O_2.keep K2q (allS ge_b1 all0)
    have Zs19 := Nat.le_trans Zs3 K2q.1
    have K20 := K4.trans K2q (allS (Or.inr sz_b1) all0)
    refine Go.on (B := T2.setTop (mkF m 12 #[.val (.ref a1), .val (.int (0 : Int32)), .val (.int (4 : Int32)), .val (.ref b1), .unset, .unset] [(.int (1 : Int32))])) (fun t k => st2 _ k) ?_
    refine Go.on (B := T2.setTop (mkF m 14 #[.val (.ref a1), .val (.int (0 : Int32)), .val (.int (4 : Int32)), .val (.ref b1), .val (.int (1 : Int32)), .unset] [])) (fun t k => XS.istore X2.here hx rfl (hb hby d5_12) rfl (l' := #[.val (.ref a1), .val (.int (0 : Int32)), .val (.int (4 : Int32)), .val (.ref b1), .val (.int (1 : Int32)), .unset]) rfl k) ?_
    refine Go.on (B := T2.setTop (mkF m 16 #[.val (.ref a1), .val (.int (0 : Int32)), .val (.int (4 : Int32)), .val (.ref b1), .val (.int (1 : Int32)), .unset] [(.int (1 : Int32))])) (fun t k => XS.iload X2.here hx rfl (hb hby d5_14) rfl k) ?_
    refine Go.on (B := T2.setTop (mkF m 17 #[.val (.ref a1), .val (.int (0 : Int32)), .val (.int (4 : Int32)), .val (.ref b1), .val (.int (1 : Int32)), .unset] [(.int (4 : Int32)), (.int (1 : Int32))])) (fun t k => XS.iloadN X2.here hx rfl (hb hby d5_16) rfl k) ?_
    have hc17_11 : ¬ ((1 : Int32) = (4 : Int32)) := by decide
    refine Go.on (B := T2.setTop (mkF m 20 #[.val (.ref a1), .val (.int (0 : Int32)), .val (.int (4 : Int32)), .val (.ref b1), .val (.int (1 : Int32)), .unset] [])) (fun t k => XS.icmpNo X2.here hx rfl (hb hby d5_17) rfl (feq hc17_11).1 k) ?_
    refine Go.on (B := T2.setTop (mkF m 21 #[.val (.ref a1), .val (.int (0 : Int32)), .val (.int (4 : Int32)), .val (.ref b1), .val (.int (1 : Int32)), .unset] [(.ref a1)])) (fun t k => XS.aloadN X2.here hx rfl (hb hby d5_20) rfl rfl k) ?_
    refine Go.on (B := T2.setTop (mkF m 22 #[.val (.ref a1), .val (.int (0 : Int32)), .val (.int (4 : Int32)), .val (.ref b1), .val (.int (1 : Int32)), .unset] [(.int (0 : Int32)), (.ref a1)])) (fun t k => XS.iloadN X2.here hx rfl (hb hby d5_21) rfl k) ?_
    refine Go.on (B := T2.setTop (mkF m 23 #[.val (.ref a1), .val (.int (0 : Int32)), .val (.int (4 : Int32)), .val (.ref b1), .val (.int (1 : Int32)), .unset] [(.int (4 : Int32)), (.int (0 : Int32)), (.ref a1)])) (fun t k => XS.iloadN X2.here hx rfl (hb hby d5_22) rfl k) ?_
    obtain ⟨_, _, ⟨T12, L12, k12, n12⟩, -, X12, ⟨Lc12, hQ12, l12, y12, z12⟩, st12⟩ := Jvm.LawKit.callS X2 hx (y := (⟨"java/lang/StringUTF16", "toBytes", "([CII)[B"⟩ : MethodName)) hown (mvT hZ (hw _ (List.mem_of_getElem? (i := 69) rfl))) (mvT hZ (hw _ (List.mem_of_getElem? (i := 70) rfl))) (mvT hZ (hw _ (List.mem_of_getElem? (i := 23) rfl))) (mvT hZ (hw _ (List.mem_of_getElem? (i := 71) rfl))) (by decide) (backOf (W := 0) (rtb_4 l Z a0 hw [] a1 kc c0 c1 c2 c3 T2.heap n0 Zs19 f17 O_18 S_ad S_hi S_lo) hZ (hw _ (List.mem_of_getElem? (i := 71) rfl)) (hw _ (List.mem_of_getElem? (i := 23) rfl)) (by decide) (by decide)) (g := (mkF m 23 #[.val (.ref a1), .val (.int (0 : Int32)), .val (.int (4 : Int32)), .val (.ref b1), .val (.int (1 : Int32)), .unset] [(.int (4 : Int32)), (.int (0 : Int32)), (.ref a1)])) rfl (by rw [hml]; rfl) (argsL := [(.ref a1), (.int (0 : Int32)), (.int (4 : Int32))]) (rest := []) (lenOf pd_10 rfl) rfl (by show 2 * 0 + _ ≤ _; exact Nat.le_of_eq rfl) (hb hby d5_23) (fun _ _ => ⟨rfl, rfl, (by decide : 1 + 1 ≤ _), (by decide : 4 + 8 ≤ _)⟩)
    dsimp only [Pt.U, Pt.locs, Pt.cells, Pt.slots] at X12 l12 y12 z12 st12 hQ12
    subst l12 y12 z12
    obtain ⟨⟨y12, ky12, rfl, sx12, Vy12⟩, N12q, K12q⟩ := hQ12
    have N12 := Fr.app N2 N12q
    have ne_a1_y12 : a1 ≠ y12 := Nat.ne_of_lt (Nat.lt_of_lt_of_le f17.lt sx12)
    have ge_y12 : n0 ≤ y12 := Nat.le_trans Zs19 sx12
    have sz_y12 : h0.size ≤ y12 := Nat.le_trans K20.1 sx12
    have f21 := f17.keep K12q nin0
    have O_22 := O_18.keep K12q all0
    have Zs23 := Nat.le_trans Zs19 K12q.1
    have K24 := K20.trans K12q all0
    refine Go.on (B := T12.setTop (mkF m 26 #[.val (.ref a1), .val (.int (0 : Int32)), .val (.int (4 : Int32)), .val (.ref b1), .val (.int (1 : Int32)), .unset] [(.ref y12)])) (fun t k => st12 _ k) ?_
    refine Go.on (B := T12.setTop (mkF m 28 #[.val (.ref a1), .val (.int (0 : Int32)), .val (.int (4 : Int32)), .val (.ref b1), .val (.int (1 : Int32)), .val (.ref y12)] [])) (fun t k => XS.astore X12.here hx rfl (hb hby d5_26) rfl rfl (l' := #[.val (.ref a1), .val (.int (0 : Int32)), .val (.int (4 : Int32)), .val (.ref b1), .val (.int (1 : Int32)), .val (.ref y12)]) rfl k) ?_
    refine Go.on (B := T12.setTop (mkF m 30 #[.val (.ref a1), .val (.int (0 : Int32)), .val (.int (4 : Int32)), .val (.ref b1), .val (.int (1 : Int32)), .val (.ref y12)] [(.ref y12)])) (fun t k => XS.aload X12.here hx rfl (hb hby d5_28) rfl rfl k) ?_
    refine Go.on (B := T12.setTop (mkF m 32 #[.val (.ref a1), .val (.int (0 : Int32)), .val (.int (4 : Int32)), .val (.ref b1), .val (.int (1 : Int32)), .val (.ref y12)] [(.int (1 : Int32)), (.ref y12)])) (fun t k => XS.iload X12.here hx rfl (hb hby d5_30) rfl k) ?_
    obtain ⟨_, _, ⟨T13, L13, k13, n13⟩, -, X13, ⟨Lc13, hQ13, l13, y13, z13⟩, st13⟩ := Jvm.LawKit.callS X12 hx (y := (⟨"java/lang/StringUTF16", "getChar", "([BI)C"⟩ : MethodName)) hown (mvT hZ (hw _ (List.mem_of_getElem? (i := 85) rfl))) (mvT hZ (hw _ (List.mem_of_getElem? (i := 86) rfl))) (mvT hZ (hw _ (List.mem_of_getElem? (i := 23) rfl))) (mvT hZ (hw _ (List.mem_of_getElem? (i := 87) rfl))) (by decide) (backOf (W := 0) (rgc l Z a0 hw [] y12 (1 : Int32) ky12 (8 : Int32) [(.int ((((c0 >>> ((0 : Int32) &&& 31))).toInt8.toInt32).toInt8.toInt32)), (.int ((((c0 >>> ((8 : Int32) &&& 31))).toInt8.toInt32).toInt8.toInt32)), (.int ((((c1 >>> ((0 : Int32) &&& 31))).toInt8.toInt32).toInt8.toInt32)), (.int ((((c1 >>> ((8 : Int32) &&& 31))).toInt8.toInt32).toInt8.toInt32)), (.int ((((c2 >>> ((0 : Int32) &&& 31))).toInt8.toInt32).toInt8.toInt32)), (.int ((((c2 >>> ((8 : Int32) &&& 31))).toInt8.toInt32).toInt8.toInt32)), (.int ((((c3 >>> ((0 : Int32) &&& 31))).toInt8.toInt32).toInt8.toInt32)), (.int ((((c3 >>> ((8 : Int32) &&& 31))).toInt8.toInt32).toInt8.toInt32))] ((((c1 >>> ((0 : Int32) &&& 31))).toInt8.toInt32).toInt8.toInt32) ((((c1 >>> ((8 : Int32) &&& 31))).toInt8.toInt32).toInt8.toInt32) c1 T12.heap n0 Zs23 Vy12 ⟨by decide, by decide⟩ rfl ⟨by decide, by decide⟩ rfl (own_utf c1 hc1) O_22 S_ad S_hi S_lo) hZ (hw _ (List.mem_of_getElem? (i := 87) rfl)) (hw _ (List.mem_of_getElem? (i := 23) rfl)) (by decide) (by decide)) (g := (mkF m 32 #[.val (.ref a1), .val (.int (0 : Int32)), .val (.int (4 : Int32)), .val (.ref b1), .val (.int (1 : Int32)), .val (.ref y12)] [(.int (1 : Int32)), (.ref y12)])) rfl (by rw [hml]; rfl) (argsL := [(.ref y12), (.int (1 : Int32))]) (rest := []) (lenOf pd_4 rfl) rfl (by show 2 * 0 + _ ≤ _; exact Nat.le_of_eq rfl) (hb hby d5_32) (fun _ _ => ⟨rfl, rfl, (by decide : 2 + 0 ≤ _), (by decide : 12 + 0 ≤ _)⟩)
    dsimp only [Pt.U, Pt.locs, Pt.cells, Pt.slots] at X13 l13 y13 z13 st13 hQ13
    subst l13 y13 z13
    obtain ⟨rfl, N13q, e13q⟩ := hQ13
    have N13 := Fr.app N12 N13q
    refine Go.on (B := T13.setTop (mkF m 35 #[.val (.ref a1), .val (.int (0 : Int32)), .val (.int (4 : Int32)), .val (.ref b1), .val (.int (1 : Int32)), .val (.ref y12)] [(.int c1)])) (fun t k => st13 _ k) ?_
    refine Go.on (B := T13.setTop (mkF m 38 #[.val (.ref a1), .val (.int (0 : Int32)), .val (.int (4 : Int32)), .val (.ref b1), .val (.int (1 : Int32)), .val (.ref y12)] [(.int (255 : Int32)), (.int c1)])) (fun t k => XS.sipush X13.here hx rfl (hb hby d5_35) k) ?_
    have hc38_14 : (255 : Int32) < c1 := hx2_c1
    refine Go.on (B := T13.setTop (mkF m 54 #[.val (.ref a1), .val (.int (0 : Int32)), .val (.int (4 : Int32)), .val (.ref b1), .val (.int (1 : Int32)), .val (.ref y12)] [])) (fun t k => XS.icmpYes X13.here hx rfl (pc0 := 38) (pc' := 54) rfl (hb hby d5_38) rfl (tlt hc38_14).2.2.1 (by decide) (by decide) k) ?_
    refine Go.on (B := T13.setTop (mkF m 56 #[.val (.ref a1), .val (.int (0 : Int32)), .val (.int (4 : Int32)), .val (.ref b1), .val (.int (1 : Int32)), .val (.ref y12)] [(.ref y12)])) (fun t k => XS.aload X13.here hx rfl (hb hby d5_54) rfl rfl k) ?_
    obtain ⟨fs, hr, hrun, hended, hW, hsame⟩ := X13.leave (v := some (.ref y12)) (fun h => by rw [Bd.returns] at h; cases h)
    refine ⟨_, _, ?_, hrun, hended, _, _, rfl, ?_, ⟨_, rfl⟩, hW, hsame.mono (by decide) (by decide)⟩
    · exact retOut X13 hx Bd.returns rfl (Or.inr (Or.inr (Or.inr (Or.inr ⟨rfl, rfl, rfl⟩)))) (hb hby d5_56) hr
    · show Q_rc3_4 Z a1 kc c0 c1 c2 c3 h0 n0 _ T13.heap _
      rw [e13q]
      exact ⟨⟨_, _, rfl, sz_y12, Or.inr Vy12⟩, N13, K24⟩
  · have N2 := Fr.app N0 N2q
    have f25 := f1.keep K2q (ninS ne_a1_b1 nin0)
    have O_26 := O_2.keep K2q (allS ge_b1 all0)
    have Zs27 := Nat.le_trans Zs3 K2q.1
    have K28 := K4.trans K2q (allS (Or.inr sz_b1) all0)
    refine Go.on (B := T2.setTop (mkF m 12 #[.val (.ref a1), .val (.int (0 : Int32)), .val (.int (4 : Int32)), .val (.ref b1), .unset, .unset] [(.int (2 : Int32))])) (fun t k => st2 _ k) ?_
    refine Go.on (B := T2.setTop (mkF m 14 #[.val (.ref a1), .val (.int (0 : Int32)), .val (.int (4 : Int32)), .val (.ref b1), .val (.int (2 : Int32)), .unset] [])) (fun t k => XS.istore X2.here hx rfl (hb hby d5_12) rfl (l' := #[.val (.ref a1), .val (.int (0 : Int32)), .val (.int (4 : Int32)), .val (.ref b1), .val (.int (2 : Int32)), .unset]) rfl k) ?_
    refine Go.on (B := T2.setTop (mkF m 16 #[.val (.ref a1), .val (.int (0 : Int32)), .val (.int (4 : Int32)), .val (.ref b1), .val (.int (2 : Int32)), .unset] [(.int (2 : Int32))])) (fun t k => XS.iload X2.here hx rfl (hb hby d5_14) rfl k) ?_
    refine Go.on (B := T2.setTop (mkF m 17 #[.val (.ref a1), .val (.int (0 : Int32)), .val (.int (4 : Int32)), .val (.ref b1), .val (.int (2 : Int32)), .unset] [(.int (4 : Int32)), (.int (2 : Int32))])) (fun t k => XS.iloadN X2.here hx rfl (hb hby d5_16) rfl k) ?_
    have hc17_16 : ¬ ((2 : Int32) = (4 : Int32)) := by decide
    refine Go.on (B := T2.setTop (mkF m 20 #[.val (.ref a1), .val (.int (0 : Int32)), .val (.int (4 : Int32)), .val (.ref b1), .val (.int (2 : Int32)), .unset] [])) (fun t k => XS.icmpNo X2.here hx rfl (hb hby d5_17) rfl (feq hc17_16).1 k) ?_
    refine Go.on (B := T2.setTop (mkF m 21 #[.val (.ref a1), .val (.int (0 : Int32)), .val (.int (4 : Int32)), .val (.ref b1), .val (.int (2 : Int32)), .unset] [(.ref a1)])) (fun t k => XS.aloadN X2.here hx rfl (hb hby d5_20) rfl rfl k) ?_
    refine Go.on (B := T2.setTop (mkF m 22 #[.val (.ref a1), .val (.int (0 : Int32)), .val (.int (4 : Int32)), .val (.ref b1), .val (.int (2 : Int32)), .unset] [(.int (0 : Int32)), (.ref a1)])) (fun t k => XS.iloadN X2.here hx rfl (hb hby d5_21) rfl k) ?_
    refine Go.on (B := T2.setTop (mkF m 23 #[.val (.ref a1), .val (.int (0 : Int32)), .val (.int (4 : Int32)), .val (.ref b1), .val (.int (2 : Int32)), .unset] [(.int (4 : Int32)), (.int (0 : Int32)), (.ref a1)])) (fun t k => XS.iloadN X2.here hx rfl (hb hby d5_22) rfl k) ?_
    obtain ⟨_, _, ⟨T17, L17, k17, n17⟩, -, X17, ⟨Lc17, hQ17, l17, y17, z17⟩, st17⟩ := Jvm.LawKit.callS X2 hx (y := (⟨"java/lang/StringUTF16", "toBytes", "([CII)[B"⟩ : MethodName)) hown (mvT hZ (hw _ (List.mem_of_getElem? (i := 69) rfl))) (mvT hZ (hw _ (List.mem_of_getElem? (i := 70) rfl))) (mvT hZ (hw _ (List.mem_of_getElem? (i := 23) rfl))) (mvT hZ (hw _ (List.mem_of_getElem? (i := 71) rfl))) (by decide) (backOf (W := 0) (rtb_4 l Z a0 hw [] a1 kc c0 c1 c2 c3 T2.heap n0 Zs27 f25 O_26 S_ad S_hi S_lo) hZ (hw _ (List.mem_of_getElem? (i := 71) rfl)) (hw _ (List.mem_of_getElem? (i := 23) rfl)) (by decide) (by decide)) (g := (mkF m 23 #[.val (.ref a1), .val (.int (0 : Int32)), .val (.int (4 : Int32)), .val (.ref b1), .val (.int (2 : Int32)), .unset] [(.int (4 : Int32)), (.int (0 : Int32)), (.ref a1)])) rfl (by rw [hml]; rfl) (argsL := [(.ref a1), (.int (0 : Int32)), (.int (4 : Int32))]) (rest := []) (lenOf pd_10 rfl) rfl (by show 2 * 0 + _ ≤ _; exact Nat.le_of_eq rfl) (hb hby d5_23) (fun _ _ => ⟨rfl, rfl, (by decide : 1 + 1 ≤ _), (by decide : 4 + 8 ≤ _)⟩)
    dsimp only [Pt.U, Pt.locs, Pt.cells, Pt.slots] at X17 l17 y17 z17 st17 hQ17
    subst l17 y17 z17
    obtain ⟨⟨y17, ky17, rfl, sx17, Vy17⟩, N17q, K17q⟩ := hQ17
    have N17 := Fr.app N2 N17q
    have ne_a1_y17 : a1 ≠ y17 := Nat.ne_of_lt (Nat.lt_of_lt_of_le f25.lt sx17)
    have ge_y17 : n0 ≤ y17 := Nat.le_trans Zs27 sx17
    have sz_y17 : h0.size ≤ y17 := Nat.le_trans K28.1 sx17
    have f29 := f25.keep K17q nin0
    have O_30 := O_26.keep K17q all0
    have Zs31 := Nat.le_trans Zs27 K17q.1
    have K32 := K28.trans K17q all0
    refine Go.on (B := T17.setTop (mkF m 26 #[.val (.ref a1), .val (.int (0 : Int32)), .val (.int (4 : Int32)), .val (.ref b1), .val (.int (2 : Int32)), .unset] [(.ref y17)])) (fun t k => st17 _ k) ?_
    refine Go.on (B := T17.setTop (mkF m 28 #[.val (.ref a1), .val (.int (0 : Int32)), .val (.int (4 : Int32)), .val (.ref b1), .val (.int (2 : Int32)), .val (.ref y17)] [])) (fun t k => XS.astore X17.here hx rfl (hb hby d5_26) rfl rfl (l' := #[.val (.ref a1), .val (.int (0 : Int32)), .val (.int (4 : Int32)), .val (.ref b1), .val (.int (2 : Int32)), .val (.ref y17)]) rfl k) ?_
    refine Go.on (B := T17.setTop (mkF m 30 #[.val (.ref a1), .val (.int (0 : Int32)), .val (.int (4 : Int32)), .val (.ref b1), .val (.int (2 : Int32)), .val (.ref y17)] [(.ref y17)])) (fun t k => XS.aload X17.here hx rfl (hb hby d5_28) rfl rfl k) ?_
    refine Go.on (B := T17.setTop (mkF m 32 #[.val (.ref a1), .val (.int (0 : Int32)), .val (.int (4 : Int32)), .val (.ref b1), .val (.int (2 : Int32)), .val (.ref y17)] [(.int (2 : Int32)), (.ref y17)])) (fun t k => XS.iload X17.here hx rfl (hb hby d5_30) rfl k) ?_
    obtain ⟨_, _, ⟨T18, L18, k18, n18⟩, -, X18, ⟨Lc18, hQ18, l18, y18, z18⟩, st18⟩ := Jvm.LawKit.callS X17 hx (y := (⟨"java/lang/StringUTF16", "getChar", "([BI)C"⟩ : MethodName)) hown (mvT hZ (hw _ (List.mem_of_getElem? (i := 85) rfl))) (mvT hZ (hw _ (List.mem_of_getElem? (i := 86) rfl))) (mvT hZ (hw _ (List.mem_of_getElem? (i := 23) rfl))) (mvT hZ (hw _ (List.mem_of_getElem? (i := 87) rfl))) (by decide) (backOf (W := 0) (rgc l Z a0 hw [] y17 (2 : Int32) ky17 (8 : Int32) [(.int ((((c0 >>> ((0 : Int32) &&& 31))).toInt8.toInt32).toInt8.toInt32)), (.int ((((c0 >>> ((8 : Int32) &&& 31))).toInt8.toInt32).toInt8.toInt32)), (.int ((((c1 >>> ((0 : Int32) &&& 31))).toInt8.toInt32).toInt8.toInt32)), (.int ((((c1 >>> ((8 : Int32) &&& 31))).toInt8.toInt32).toInt8.toInt32)), (.int ((((c2 >>> ((0 : Int32) &&& 31))).toInt8.toInt32).toInt8.toInt32)), (.int ((((c2 >>> ((8 : Int32) &&& 31))).toInt8.toInt32).toInt8.toInt32)), (.int ((((c3 >>> ((0 : Int32) &&& 31))).toInt8.toInt32).toInt8.toInt32)), (.int ((((c3 >>> ((8 : Int32) &&& 31))).toInt8.toInt32).toInt8.toInt32))] ((((c2 >>> ((0 : Int32) &&& 31))).toInt8.toInt32).toInt8.toInt32) ((((c2 >>> ((8 : Int32) &&& 31))).toInt8.toInt32).toInt8.toInt32) c2 T17.heap n0 Zs31 Vy17 ⟨by decide, by decide⟩ rfl ⟨by decide, by decide⟩ rfl (own_utf c2 hc2) O_30 S_ad S_hi S_lo) hZ (hw _ (List.mem_of_getElem? (i := 87) rfl)) (hw _ (List.mem_of_getElem? (i := 23) rfl)) (by decide) (by decide)) (g := (mkF m 32 #[.val (.ref a1), .val (.int (0 : Int32)), .val (.int (4 : Int32)), .val (.ref b1), .val (.int (2 : Int32)), .val (.ref y17)] [(.int (2 : Int32)), (.ref y17)])) rfl (by rw [hml]; rfl) (argsL := [(.ref y17), (.int (2 : Int32))]) (rest := []) (lenOf pd_4 rfl) rfl (by show 2 * 0 + _ ≤ _; exact Nat.le_of_eq rfl) (hb hby d5_32) (fun _ _ => ⟨rfl, rfl, (by decide : 2 + 0 ≤ _), (by decide : 12 + 0 ≤ _)⟩)
    dsimp only [Pt.U, Pt.locs, Pt.cells, Pt.slots] at X18 l18 y18 z18 st18 hQ18
    subst l18 y18 z18
    obtain ⟨rfl, N18q, e18q⟩ := hQ18
    have N18 := Fr.app N17 N18q
    refine Go.on (B := T18.setTop (mkF m 35 #[.val (.ref a1), .val (.int (0 : Int32)), .val (.int (4 : Int32)), .val (.ref b1), .val (.int (2 : Int32)), .val (.ref y17)] [(.int c2)])) (fun t k => st18 _ k) ?_
    refine Go.on (B := T18.setTop (mkF m 38 #[.val (.ref a1), .val (.int (0 : Int32)), .val (.int (4 : Int32)), .val (.ref b1), .val (.int (2 : Int32)), .val (.ref y17)] [(.int (255 : Int32)), (.int c2)])) (fun t k => XS.sipush X18.here hx rfl (hb hby d5_35) k) ?_
    have hc38_19 : (255 : Int32) < c2 := hx2_c2
    refine Go.on (B := T18.setTop (mkF m 54 #[.val (.ref a1), .val (.int (0 : Int32)), .val (.int (4 : Int32)), .val (.ref b1), .val (.int (2 : Int32)), .val (.ref y17)] [])) (fun t k => XS.icmpYes X18.here hx rfl (pc0 := 38) (pc' := 54) rfl (hb hby d5_38) rfl (tlt hc38_19).2.2.1 (by decide) (by decide) k) ?_
    refine Go.on (B := T18.setTop (mkF m 56 #[.val (.ref a1), .val (.int (0 : Int32)), .val (.int (4 : Int32)), .val (.ref b1), .val (.int (2 : Int32)), .val (.ref y17)] [(.ref y17)])) (fun t k => XS.aload X18.here hx rfl (hb hby d5_54) rfl rfl k) ?_
    obtain ⟨fs, hr, hrun, hended, hW, hsame⟩ := X18.leave (v := some (.ref y17)) (fun h => by rw [Bd.returns] at h; cases h)
    refine ⟨_, _, ?_, hrun, hended, _, _, rfl, ?_, ⟨_, rfl⟩, hW, hsame.mono (by decide) (by decide)⟩
    · exact retOut X18 hx Bd.returns rfl (Or.inr (Or.inr (Or.inr (Or.inr ⟨rfl, rfl, rfl⟩)))) (hb hby d5_56) hr
    · show Q_rc3_4 Z a1 kc c0 c1 c2 c3 h0 n0 _ T18.heap _
      rw [e18q]
      exact ⟨⟨_, _, rfl, sz_y17, Or.inr Vy17⟩, N18, K32⟩
  · have N2 := Fr.app N0 N2q
    have f33 := f1.keep K2q (ninS ne_a1_b1 nin0)
    have O_34 := O_2.keep K2q (allS ge_b1 all0)
    have Zs35 := Nat.le_trans Zs3 K2q.1
    have K36 := K4.trans K2q (allS (Or.inr sz_b1) all0)
    refine Go.on (B := T2.setTop (mkF m 12 #[.val (.ref a1), .val (.int (0 : Int32)), .val (.int (4 : Int32)), .val (.ref b1), .unset, .unset] [(.int (3 : Int32))])) (fun t k => st2 _ k) ?_
    refine Go.on (B := T2.setTop (mkF m 14 #[.val (.ref a1), .val (.int (0 : Int32)), .val (.int (4 : Int32)), .val (.ref b1), .val (.int (3 : Int32)), .unset] [])) (fun t k => XS.istore X2.here hx rfl (hb hby d5_12) rfl (l' := #[.val (.ref a1), .val (.int (0 : Int32)), .val (.int (4 : Int32)), .val (.ref b1), .val (.int (3 : Int32)), .unset]) rfl k) ?_
    refine Go.on (B := T2.setTop (mkF m 16 #[.val (.ref a1), .val (.int (0 : Int32)), .val (.int (4 : Int32)), .val (.ref b1), .val (.int (3 : Int32)), .unset] [(.int (3 : Int32))])) (fun t k => XS.iload X2.here hx rfl (hb hby d5_14) rfl k) ?_
    refine Go.on (B := T2.setTop (mkF m 17 #[.val (.ref a1), .val (.int (0 : Int32)), .val (.int (4 : Int32)), .val (.ref b1), .val (.int (3 : Int32)), .unset] [(.int (4 : Int32)), (.int (3 : Int32))])) (fun t k => XS.iloadN X2.here hx rfl (hb hby d5_16) rfl k) ?_
    have hc17_21 : ¬ ((3 : Int32) = (4 : Int32)) := by decide
    refine Go.on (B := T2.setTop (mkF m 20 #[.val (.ref a1), .val (.int (0 : Int32)), .val (.int (4 : Int32)), .val (.ref b1), .val (.int (3 : Int32)), .unset] [])) (fun t k => XS.icmpNo X2.here hx rfl (hb hby d5_17) rfl (feq hc17_21).1 k) ?_
    refine Go.on (B := T2.setTop (mkF m 21 #[.val (.ref a1), .val (.int (0 : Int32)), .val (.int (4 : Int32)), .val (.ref b1), .val (.int (3 : Int32)), .unset] [(.ref a1)])) (fun t k => XS.aloadN X2.here hx rfl (hb hby d5_20) rfl rfl k) ?_
    refine Go.on (B := T2.setTop (mkF m 22 #[.val (.ref a1), .val (.int (0 : Int32)), .val (.int (4 : Int32)), .val (.ref b1), .val (.int (3 : Int32)), .unset] [(.int (0 : Int32)), (.ref a1)])) (fun t k => XS.iloadN X2.here hx rfl (hb hby d5_21) rfl k) ?_
    refine Go.on (B := T2.setTop (mkF m 23 #[.val (.ref a1), .val (.int (0 : Int32)), .val (.int (4 : Int32)), .val (.ref b1), .val (.int (3 : Int32)), .unset] [(.int (4 : Int32)), (.int (0 : Int32)), (.ref a1)])) (fun t k => XS.iloadN X2.here hx rfl (hb hby d5_22) rfl k) ?_
    obtain ⟨_, _, ⟨T22, L22, k22, n22⟩, -, X22, ⟨Lc22, hQ22, l22, y22, z22⟩, st22⟩ := Jvm.LawKit.callS X2 hx (y := (⟨"java/lang/StringUTF16", "toBytes", "([CII)[B"⟩ : MethodName)) hown (mvT hZ (hw _ (List.mem_of_getElem? (i := 69) rfl))) (mvT hZ (hw _ (List.mem_of_getElem? (i := 70) rfl))) (mvT hZ (hw _ (List.mem_of_getElem? (i := 23) rfl))) (mvT hZ (hw _ (List.mem_of_getElem? (i := 71) rfl))) (by decide) (backOf (W := 0) (rtb_4 l Z a0 hw [] a1 kc c0 c1 c2 c3 T2.heap n0 Zs35 f33 O_34 S_ad S_hi S_lo) hZ (hw _ (List.mem_of_getElem? (i := 71) rfl)) (hw _ (List.mem_of_getElem? (i := 23) rfl)) (by decide) (by decide)) (g := (mkF m 23 #[.val (.ref a1), .val (.int (0 : Int32)), .val (.int (4 : Int32)), .val (.ref b1), .val (.int (3 : Int32)), .unset] [(.int (4 : Int32)), (.int (0 : Int32)), (.ref a1)])) rfl (by rw [hml]; rfl) (argsL := [(.ref a1), (.int (0 : Int32)), (.int (4 : Int32))]) (rest := []) (lenOf pd_10 rfl) rfl (by show 2 * 0 + _ ≤ _; exact Nat.le_of_eq rfl) (hb hby d5_23) (fun _ _ => ⟨rfl, rfl, (by decide : 1 + 1 ≤ _), (by decide : 4 + 8 ≤ _)⟩)
    dsimp only [Pt.U, Pt.locs, Pt.cells, Pt.slots] at X22 l22 y22 z22 st22 hQ22
    subst l22 y22 z22
    obtain ⟨⟨y22, ky22, rfl, sx22, Vy22⟩, N22q, K22q⟩ := hQ22
    have N22 := Fr.app N2 N22q
    have ne_a1_y22 : a1 ≠ y22 := Nat.ne_of_lt (Nat.lt_of_lt_of_le f33.lt sx22)
    have ge_y22 : n0 ≤ y22 := Nat.le_trans Zs35 sx22
    have sz_y22 : h0.size ≤ y22 := Nat.le_trans K36.1 sx22
    have f37 := f33.keep K22q nin0
    have O_38 := O_34.keep K22q all0
    have Zs39 := Nat.le_trans Zs35 K22q.1
    have K40 := K36.trans K22q all0
    refine Go.on (B := T22.setTop (mkF m 26 #[.val (.ref a1), .val (.int (0 : Int32)), .val (.int (4 : Int32)), .val (.ref b1), .val (.int (3 : Int32)), .unset] [(.ref y22)])) (fun t k => st22 _ k) ?_
    refine Go.on (B := T22.setTop (mkF m 28 #[.val (.ref a1), .val (.int (0 : Int32)), .val (.int (4 : Int32)), .val (.ref b1), .val (.int (3 : Int32)), .val (.ref y22)] [])) (fun t k => XS.astore X22.here hx rfl (hb hby d5_26) rfl rfl (l' := #[.val (.ref a1), .val (.int (0 : Int32)), .val (.int (4 : Int32)), .val (.ref b1), .val (.int (3 : Int32)), .val (.ref y22)]) rfl k) ?_
    refine Go.on (B := T22.setTop (mkF m 30 #[.val (.ref a1), .val (.int (0 : Int32)), .val (.int (4 : Int32)), .val (.ref b1), .val (.int (3 : Int32)), .val (.ref y22)] [(.ref y22)])) (fun t k => XS.aload X22.here hx rfl (hb hby d5_28) rfl rfl k) ?_
    refine Go.on (B := T22.setTop (mkF m 32 #[.val (.ref a1), .val (.int (0 : Int32)), .val (.int (4 : Int32)), .val (.ref b1), .val (.int (3 : Int32)), .val (.ref y22)] [(.int (3 : Int32)), (.ref y22)])) (fun t k => XS.iload X22.here hx rfl (hb hby d5_30) rfl k) ?_
    obtain ⟨_, _, ⟨T23, L23, k23, n23⟩, -, X23, ⟨Lc23, hQ23, l23, y23, z23⟩, st23⟩ := Jvm.LawKit.callS X22 hx (y := (⟨"java/lang/StringUTF16", "getChar", "([BI)C"⟩ : MethodName)) hown (mvT hZ (hw _ (List.mem_of_getElem? (i := 85) rfl))) (mvT hZ (hw _ (List.mem_of_getElem? (i := 86) rfl))) (mvT hZ (hw _ (List.mem_of_getElem? (i := 23) rfl))) (mvT hZ (hw _ (List.mem_of_getElem? (i := 87) rfl))) (by decide) (backOf (W := 0) (rgc l Z a0 hw [] y22 (3 : Int32) ky22 (8 : Int32) [(.int ((((c0 >>> ((0 : Int32) &&& 31))).toInt8.toInt32).toInt8.toInt32)), (.int ((((c0 >>> ((8 : Int32) &&& 31))).toInt8.toInt32).toInt8.toInt32)), (.int ((((c1 >>> ((0 : Int32) &&& 31))).toInt8.toInt32).toInt8.toInt32)), (.int ((((c1 >>> ((8 : Int32) &&& 31))).toInt8.toInt32).toInt8.toInt32)), (.int ((((c2 >>> ((0 : Int32) &&& 31))).toInt8.toInt32).toInt8.toInt32)), (.int ((((c2 >>> ((8 : Int32) &&& 31))).toInt8.toInt32).toInt8.toInt32)), (.int ((((c3 >>> ((0 : Int32) &&& 31))).toInt8.toInt32).toInt8.toInt32)), (.int ((((c3 >>> ((8 : Int32) &&& 31))).toInt8.toInt32).toInt8.toInt32))] ((((c3 >>> ((0 : Int32) &&& 31))).toInt8.toInt32).toInt8.toInt32) ((((c3 >>> ((8 : Int32) &&& 31))).toInt8.toInt32).toInt8.toInt32) c3 T22.heap n0 Zs39 Vy22 ⟨by decide, by decide⟩ rfl ⟨by decide, by decide⟩ rfl (own_utf c3 hc3) O_38 S_ad S_hi S_lo) hZ (hw _ (List.mem_of_getElem? (i := 87) rfl)) (hw _ (List.mem_of_getElem? (i := 23) rfl)) (by decide) (by decide)) (g := (mkF m 32 #[.val (.ref a1), .val (.int (0 : Int32)), .val (.int (4 : Int32)), .val (.ref b1), .val (.int (3 : Int32)), .val (.ref y22)] [(.int (3 : Int32)), (.ref y22)])) rfl (by rw [hml]; rfl) (argsL := [(.ref y22), (.int (3 : Int32))]) (rest := []) (lenOf pd_4 rfl) rfl (by show 2 * 0 + _ ≤ _; exact Nat.le_of_eq rfl) (hb hby d5_32) (fun _ _ => ⟨rfl, rfl, (by decide : 2 + 0 ≤ _), (by decide : 12 + 0 ≤ _)⟩)
    dsimp only [Pt.U, Pt.locs, Pt.cells, Pt.slots] at X23 l23 y23 z23 st23 hQ23
    subst l23 y23 z23
    obtain ⟨rfl, N23q, e23q⟩ := hQ23
    have N23 := Fr.app N22 N23q
    refine Go.on (B := T23.setTop (mkF m 35 #[.val (.ref a1), .val (.int (0 : Int32)), .val (.int (4 : Int32)), .val (.ref b1), .val (.int (3 : Int32)), .val (.ref y22)] [(.int c3)])) (fun t k => st23 _ k) ?_
    refine Go.on (B := T23.setTop (mkF m 38 #[.val (.ref a1), .val (.int (0 : Int32)), .val (.int (4 : Int32)), .val (.ref b1), .val (.int (3 : Int32)), .val (.ref y22)] [(.int (255 : Int32)), (.int c3)])) (fun t k => XS.sipush X23.here hx rfl (hb hby d5_35) k) ?_
    have hc38_24 : (255 : Int32) < c3 := hx2_c3
    refine Go.on (B := T23.setTop (mkF m 54 #[.val (.ref a1), .val (.int (0 : Int32)), .val (.int (4 : Int32)), .val (.ref b1), .val (.int (3 : Int32)), .val (.ref y22)] [])) (fun t k => XS.icmpYes X23.here hx rfl (pc0 := 38) (pc' := 54) rfl (hb hby d5_38) rfl (tlt hc38_24).2.2.1 (by decide) (by decide) k) ?_
    refine Go.on (B := T23.setTop (mkF m 56 #[.val (.ref a1), .val (.int (0 : Int32)), .val (.int (4 : Int32)), .val (.ref b1), .val (.int (3 : Int32)), .val (.ref y22)] [(.ref y22)])) (fun t k => XS.aload X23.here hx rfl (hb hby d5_54) rfl rfl k) ?_
    obtain ⟨fs, hr, hrun, hended, hW, hsame⟩ := X23.leave (v := some (.ref y22)) (fun h => by rw [Bd.returns] at h; cases h)
    refine ⟨_, _, ?_, hrun, hended, _, _, rfl, ?_, ⟨_, rfl⟩, hW, hsame.mono (by decide) (by decide)⟩
    · exact retOut X23 hx Bd.returns rfl (Or.inr (Or.inr (Or.inr (Or.inr ⟨rfl, rfl, rfl⟩)))) (hb hby d5_56) hr
    · show Q_rc3_4 Z a1 kc c0 c1 c2 c3 h0 n0 _ T23.heap _
      rw [e23q]
      exact ⟨⟨_, _, rfl, sz_y22, Or.inr Vy22⟩, N23, K40⟩
theorem d7_0 : decode jdk_52_method_15_code 0 = .ok (.iload_n 1, 1) := by decide +kernel
theorem d7_1 : decode jdk_52_method_15_code 1 = .ok (.aload_n 0, 1) := by decide +kernel
theorem d7_2 : decode jdk_52_method_15_code 2 = .ok (.arraylength, 1) := by decide +kernel
theorem d7_3 : decode jdk_52_method_15_code 3 = .ok (.isub, 1) := by decide +kernel
theorem d7_4 : decode jdk_52_method_15_code 4 = .ok (.bipush 31, 2) := by decide +kernel
theorem d7_6 : decode jdk_52_method_15_code 6 = .ok (.iushr, 1) := by decide +kernel
theorem d7_7 : decode jdk_52_method_15_code 7 = .ok (.i2b, 1) := by decide +kernel
theorem d7_8 : decode jdk_52_method_15_code 8 = .ok (.ireturn, 1) := by decide +kernel
theorem ef_rcdL_4 (m : MethodId) (a1 : Addr) : entryFrame m #[(.ref a1), (.int (4 : Int32))] 2 = mkF m 0 #[.val (.ref a1), .val (.int (4 : Int32))] [] := by first | (simp [entryFrame, mkF, argsToLocals, Value.category]; done) | rfl
def Q_rcdL_4 (Z : State) (a1 : Addr) (k1 : ClassId) (vs : List Value) (h0 : Heap) (n0 : Nat) (v : Option Value) (h : Heap) (L : List Loc) : Prop := v = some (.int (0 : Int32)) ∧ Fr n0 L ∧ h = h0
set_option maxRecDepth 65536 in
set_option maxHeartbeats 40000000 in
theorem rcdL_4 (l : Launch) (Z : State) (a0 : Array Value) (hw : ∀ d ∈ tables_1, d.before a0 Z = true) (ws : List Jvm.Cond) (a1 : Addr) (k1 : ClassId) (vs : List Value) (h0 : Heap) (n0 : Nat) (Z0 : n0 ≤ h0.size) (V1 : Arv Z h0 a1 k1 .byte (4 : Int32) vs (.int (0 : Int32))) :
    MetFree l (⟨"java/lang/StringUTF16", "coderFromArrayLen", "([BI)B"⟩ : MethodName) (head1 (Jvm.Cond.code (⟨"java/lang/StringUTF16", "coderFromArrayLen", "([BI)B"⟩ : MethodName) jdk_52_method_15_code 2 (some .byte) :: ws) ({ frames := 0, cells := 0, slots := 0, locals := 0 } : Room)) (fun a U => a = #[(.ref a1), (.int (4 : Int32))] ∧ Z.Warmed39 U.vm ∧ U.heap = h0) (fun _ _ _ _ _ => True) (fun _ U o U' => ∃ v L, o = .returned v ∧ Q_rcdL_4 Z a1 k1 vs h0 n0 v U'.heap L ∧ FrameEnd U o U' L ({ frames := 0, cells := 0, slots := 0, locals := 0 } : Room).cells ({ frames := 0, cells := 0, slots := 0, locals := 0 } : Room).slots) := by
  refine MetFree.of_bodySF (plainFor_of_name pn_10) hisR ?_
  intro p e s m args below meth c s₁ Bd hml0 hP hK
  obtain ⟨rfl, hZ, hh⟩ := hP
  have hx := Bd.exec
  have hby := Bd.bytes
  have hml : c.maxLocals = 2 := hml0
  have hown : s.vm.findClass "java/lang/StringUTF16" = some m.cls := findClass_of_methodNamed Bd.named
  have hnm := (name_of_methodNamed Bd.named Bd.method).1
  have X0 : Stand p l e ({ frames := 0, cells := 0, slots := 0, locals := 0 } : Room) s m #[(.ref a1), (.int (4 : Int32))] below meth c s₁ [] 0 0 := Stand.of_body Bd
  have e0 : s₁.heap = h0 := by rw [← hh, Bd.state]; rfl
  have N0 := Fr.nil n0
  have pre0 : ∀ t, Steps p.tables e below (s₁.setTop (mkF m 0 #[.val (.ref a1), .val (.int (4 : Int32))] [])) t → Steps p.tables e below (s₁.setTop (entryFrame m #[(.ref a1), (.int (4 : Int32))] 2)) t := fun t k => castTop (ef_rcdL_4 m a1) k
  change Go p.tables e below (fun o U' => ∃ v L, o = .returned v ∧ Q_rcdL_4 Z a1 k1 vs h0 n0 v U'.heap L ∧ FrameEnd s o U' L ({ frames := 0, cells := 0, slots := 0, locals := 0 } : Room).cells ({ frames := 0, cells := 0, slots := 0, locals := 0 } : Room).slots) (s₁.setTop (entryFrame m #[(.ref a1), (.int (4 : Int32))] 2))
  refine Go.on pre0 ?_
  refine Go.on (B := s₁.setTop (mkF m 1 #[.val (.ref a1), .val (.int (4 : Int32))] [(.int (4 : Int32))])) (fun t k => XS.iloadN X0.here hx rfl (hb hby d7_0) rfl k) ?_
  refine Go.on (B := s₁.setTop (mkF m 2 #[.val (.ref a1), .val (.int (4 : Int32))] [(.ref a1), (.int (4 : Int32))])) (fun t k => XS.aloadN X0.here hx rfl (hb hby d7_1) rfl rfl k) ?_
  obtain ⟨cl1, Ar1, -, Sz1, Ng1, -, -⟩ := id V1
  refine Go.on (B := s₁.setTop (mkF m 3 #[.val (.ref a1), .val (.int (4 : Int32))] [(.int (4 : Int32)), (.int (4 : Int32))])) (fun t k => X0.arraylength hx (by rw [e0]; exact Ar1.1) (State.isArrayOf_alike hZ.alike Ar1.2.1) (g := (mkF m 2 #[.val (.ref a1), .val (.int (4 : Int32))] [(.ref a1), (.int (4 : Int32))])) rfl rfl (hb hby d7_2) _ (by rw [len_of Sz1 Ng1]; exact k)) ?_
  refine Go.on (B := s₁.setTop (mkF m 4 #[.val (.ref a1), .val (.int (4 : Int32))] [(.int ((4 : Int32) - (4 : Int32)))])) (fun t k => XS.isub X0.here hx rfl (hb hby d7_3) rfl k) ?_
  rw [show ((4 : Int32) - (4 : Int32)) = (0 : Int32) from by decide]
  refine Go.on (B := s₁.setTop (mkF m 6 #[.val (.ref a1), .val (.int (4 : Int32))] [(.int (31 : Int32)), (.int (0 : Int32))])) (fun t k => XS.bipush X0.here hx rfl (hb hby d7_4) k) ?_
  refine Go.on (B := s₁.setTop (mkF m 7 #[.val (.ref a1), .val (.int (4 : Int32))] [(.int (((0 : Int32).toUInt32 >>> ((31 : Int32) &&& 31).toUInt32).toInt32))])) (fun t k => XS.iushr X0.here hx rfl (hb hby d7_6) rfl k) ?_
  rw [show (((0 : Int32).toUInt32 >>> ((31 : Int32) &&& 31).toUInt32).toInt32) = (0 : Int32) from by decide]
  refine Go.on (B := s₁.setTop (mkF m 8 #[.val (.ref a1), .val (.int (4 : Int32))] [(.int ((0 : Int32).toInt8.toInt32))])) (fun t k => XS.i2b X0.here hx rfl (hb hby d7_7) rfl k) ?_
  rw [show ((0 : Int32).toInt8.toInt32) = (0 : Int32) from by decide]
  obtain ⟨fs, hr, hrun, hended, hW, hsame⟩ := X0.leave (v := some (.int (0 : Int32))) (fun h => by rw [Bd.returns] at h; cases h)
  refine ⟨_, _, ?_, hrun, hended, _, _, rfl, ?_, ⟨_, rfl⟩, hW, hsame.mono (by decide) (by decide)⟩
  · exact retN X0 hx (t := .byte) Bd.returns (by simp) (hb hby d7_8) hr
  · show Q_rcdL_4 Z a1 k1 vs h0 n0 _ s₁.heap _
    rw [e0]
    exact ⟨rfl, N0, rfl⟩
theorem ef_rcdU_4 (m : MethodId) (a1 : Addr) : entryFrame m #[(.ref a1), (.int (4 : Int32))] 2 = mkF m 0 #[.val (.ref a1), .val (.int (4 : Int32))] [] := by first | (simp [entryFrame, mkF, argsToLocals, Value.category]; done) | rfl
def Q_rcdU_4 (Z : State) (a1 : Addr) (k1 : ClassId) (vs : List Value) (h0 : Heap) (n0 : Nat) (v : Option Value) (h : Heap) (L : List Loc) : Prop := v = some (.int (1 : Int32)) ∧ Fr n0 L ∧ h = h0
set_option maxRecDepth 65536 in
set_option maxHeartbeats 40000000 in
theorem rcdU_4 (l : Launch) (Z : State) (a0 : Array Value) (hw : ∀ d ∈ tables_1, d.before a0 Z = true) (ws : List Jvm.Cond) (a1 : Addr) (k1 : ClassId) (vs : List Value) (h0 : Heap) (n0 : Nat) (Z0 : n0 ≤ h0.size) (V1 : Arv Z h0 a1 k1 .byte (8 : Int32) vs (.int (0 : Int32))) :
    MetFree l (⟨"java/lang/StringUTF16", "coderFromArrayLen", "([BI)B"⟩ : MethodName) (head1 (Jvm.Cond.code (⟨"java/lang/StringUTF16", "coderFromArrayLen", "([BI)B"⟩ : MethodName) jdk_52_method_15_code 2 (some .byte) :: ws) ({ frames := 0, cells := 0, slots := 0, locals := 0 } : Room)) (fun a U => a = #[(.ref a1), (.int (4 : Int32))] ∧ Z.Warmed39 U.vm ∧ U.heap = h0) (fun _ _ _ _ _ => True) (fun _ U o U' => ∃ v L, o = .returned v ∧ Q_rcdU_4 Z a1 k1 vs h0 n0 v U'.heap L ∧ FrameEnd U o U' L ({ frames := 0, cells := 0, slots := 0, locals := 0 } : Room).cells ({ frames := 0, cells := 0, slots := 0, locals := 0 } : Room).slots) := by
  refine MetFree.of_bodySF (plainFor_of_name pn_10) hisR ?_
  intro p e s m args below meth c s₁ Bd hml0 hP hK
  obtain ⟨rfl, hZ, hh⟩ := hP
  have hx := Bd.exec
  have hby := Bd.bytes
  have hml : c.maxLocals = 2 := hml0
  have hown : s.vm.findClass "java/lang/StringUTF16" = some m.cls := findClass_of_methodNamed Bd.named
  have hnm := (name_of_methodNamed Bd.named Bd.method).1
  have X0 : Stand p l e ({ frames := 0, cells := 0, slots := 0, locals := 0 } : Room) s m #[(.ref a1), (.int (4 : Int32))] below meth c s₁ [] 0 0 := Stand.of_body Bd
  have e0 : s₁.heap = h0 := by rw [← hh, Bd.state]; rfl
  have N0 := Fr.nil n0
  have pre0 : ∀ t, Steps p.tables e below (s₁.setTop (mkF m 0 #[.val (.ref a1), .val (.int (4 : Int32))] [])) t → Steps p.tables e below (s₁.setTop (entryFrame m #[(.ref a1), (.int (4 : Int32))] 2)) t := fun t k => castTop (ef_rcdU_4 m a1) k
  change Go p.tables e below (fun o U' => ∃ v L, o = .returned v ∧ Q_rcdU_4 Z a1 k1 vs h0 n0 v U'.heap L ∧ FrameEnd s o U' L ({ frames := 0, cells := 0, slots := 0, locals := 0 } : Room).cells ({ frames := 0, cells := 0, slots := 0, locals := 0 } : Room).slots) (s₁.setTop (entryFrame m #[(.ref a1), (.int (4 : Int32))] 2))
  refine Go.on pre0 ?_
  refine Go.on (B := s₁.setTop (mkF m 1 #[.val (.ref a1), .val (.int (4 : Int32))] [(.int (4 : Int32))])) (fun t k => XS.iloadN X0.here hx rfl (hb hby d7_0) rfl k) ?_
  refine Go.on (B := s₁.setTop (mkF m 2 #[.val (.ref a1), .val (.int (4 : Int32))] [(.ref a1), (.int (4 : Int32))])) (fun t k => XS.aloadN X0.here hx rfl (hb hby d7_1) rfl rfl k) ?_
  obtain ⟨cl1, Ar1, -, Sz1, Ng1, -, -⟩ := id V1
  refine Go.on (B := s₁.setTop (mkF m 3 #[.val (.ref a1), .val (.int (4 : Int32))] [(.int (8 : Int32)), (.int (4 : Int32))])) (fun t k => X0.arraylength hx (by rw [e0]; exact Ar1.1) (State.isArrayOf_alike hZ.alike Ar1.2.1) (g := (mkF m 2 #[.val (.ref a1), .val (.int (4 : Int32))] [(.ref a1), (.int (4 : Int32))])) rfl rfl (hb hby d7_2) _ (by rw [len_of Sz1 Ng1]; exact k)) ?_
  refine Go.on (B := s₁.setTop (mkF m 4 #[.val (.ref a1), .val (.int (4 : Int32))] [(.int ((4 : Int32) - (8 : Int32)))])) (fun t k => XS.isub X0.here hx rfl (hb hby d7_3) rfl k) ?_
  rw [show ((4 : Int32) - (8 : Int32)) = (-4 : Int32) from by decide]
  refine Go.on (B := s₁.setTop (mkF m 6 #[.val (.ref a1), .val (.int (4 : Int32))] [(.int (31 : Int32)), (.int (-4 : Int32))])) (fun t k => XS.bipush X0.here hx rfl (hb hby d7_4) k) ?_
  refine Go.on (B := s₁.setTop (mkF m 7 #[.val (.ref a1), .val (.int (4 : Int32))] [(.int (((-4 : Int32).toUInt32 >>> ((31 : Int32) &&& 31).toUInt32).toInt32))])) (fun t k => XS.iushr X0.here hx rfl (hb hby d7_6) rfl k) ?_
  rw [show (((-4 : Int32).toUInt32 >>> ((31 : Int32) &&& 31).toUInt32).toInt32) = (1 : Int32) from by decide]
  refine Go.on (B := s₁.setTop (mkF m 8 #[.val (.ref a1), .val (.int (4 : Int32))] [(.int ((1 : Int32).toInt8.toInt32))])) (fun t k => XS.i2b X0.here hx rfl (hb hby d7_7) rfl k) ?_
  rw [show ((1 : Int32).toInt8.toInt32) = (1 : Int32) from by decide]
  obtain ⟨fs, hr, hrun, hended, hW, hsame⟩ := X0.leave (v := some (.int (1 : Int32))) (fun h => by rw [Bd.returns] at h; cases h)
  refine ⟨_, _, ?_, hrun, hended, _, _, rfl, ?_, ⟨_, rfl⟩, hW, hsame.mono (by decide) (by decide)⟩
  · exact retN X0 hx (t := .byte) Bd.returns (by simp) (hb hby d7_8) hr
  · show Q_rcdU_4 Z a1 k1 vs h0 n0 _ s₁.heap _
    rw [e0]
    exact ⟨rfl, N0, rfl⟩
theorem d3_0 : decode jdk_42_method_149_code 0 = .ok (.aload_n 0, 1) := by decide +kernel
theorem d3_1 : decode jdk_42_method_149_code 1 = .ok (.invokespecial 1, 3) := by decide +kernel
theorem d3_4 : decode jdk_42_method_149_code 4 = .ok (.iload_n 3, 1) := by decide +kernel
theorem d3_5 : decode jdk_42_method_149_code 5 = .ok (.ifCond .ne 22, 3) := by decide +kernel
theorem d3_27 : decode jdk_42_method_149_code 27 = .ok (.getstatic 38, 3) := by decide +kernel
theorem d3_30 : decode jdk_42_method_149_code 30 = .ok (.ifCond .eq 28, 3) := by decide +kernel
theorem d3_33 : decode jdk_42_method_149_code 33 = .ok (.aload_n 1, 1) := by decide +kernel
theorem d3_34 : decode jdk_42_method_149_code 34 = .ok (.iload_n 2, 1) := by decide +kernel
theorem d3_35 : decode jdk_42_method_149_code 35 = .ok (.iload_n 3, 1) := by decide +kernel
theorem d3_36 : decode jdk_42_method_149_code 36 = .ok (.invokestatic 177, 3) := by decide +kernel
theorem d3_39 : decode jdk_42_method_149_code 39 = .ok (.astore 5, 2) := by decide +kernel
theorem d3_41 : decode jdk_42_method_149_code 41 = .ok (.aload_n 0, 1) := by decide +kernel
theorem d3_42 : decode jdk_42_method_149_code 42 = .ok (.aload 5, 2) := by decide +kernel
theorem d3_44 : decode jdk_42_method_149_code 44 = .ok (.iload_n 3, 1) := by decide +kernel
theorem d3_45 : decode jdk_42_method_149_code 45 = .ok (.invokestatic 47, 3) := by decide +kernel
theorem d3_48 : decode jdk_42_method_149_code 48 = .ok (.putfield 15, 3) := by decide +kernel
theorem d3_51 : decode jdk_42_method_149_code 51 = .ok (.aload_n 0, 1) := by decide +kernel
theorem d3_52 : decode jdk_42_method_149_code 52 = .ok (.aload 5, 2) := by decide +kernel
theorem d3_54 : decode jdk_42_method_149_code 54 = .ok (.putfield 9, 3) := by decide +kernel
theorem d3_57 : decode jdk_42_method_149_code 57 = .ok (.return_, 1) := by decide +kernel
theorem pd_11 : parseMethodDescriptor "([BI)B" = some ⟨[(.array .byte), .int], some .byte⟩ := by decide +kernel
theorem ef_ri4_4 (m : MethodId) (a1 : Addr) (a2 : Addr) : entryFrame m #[(.ref a1), (.ref a2), (.int (0 : Int32)), (.int (4 : Int32)), .null] 6 = mkF m 0 #[.val (.ref a1), .val (.ref a2), .val (.int (0 : Int32)), .val (.int (4 : Int32)), .val .null, .unset] [] := by first | (simp [entryFrame, mkF, argsToLocals, Value.category]; done) | rfl
def Q_ri4_4 (Z : State) (a1 : Addr) (a2 : Addr) (kc : ClassId) (c0 c1 c2 c3 : Int32) (G1 : Int32) (h0 : Heap) (n0 : Nat) (v : Option Value) (h : Heap) (L : List Loc) : Prop := v = none ∧ Fr n0 L ∧ Keep h0 h [a1] ∧ Exa Z h a1 "java/lang/String" ∧ ∃ (b : Addr) (kb : ClassId), h0.size ≤ b ∧ Fld Z h a1 "java/lang/String" "value" "[B" (.ref b) ∧ ((Fld Z h a1 "java/lang/String" "coder" "B" (.int (0 : Int32)) ∧ Arv Z h b kb .byte (4 : Int32) [(.int (((c0.toInt8.toInt32)).toInt8.toInt32)), (.int (((c1.toInt8.toInt32)).toInt8.toInt32)), (.int (((c2.toInt8.toInt32)).toInt8.toInt32)), (.int (((c3.toInt8.toInt32)).toInt8.toInt32))] (.int (0 : Int32)) ∧ ¬ ((255 : Int32) < c0) ∧ ¬ ((255 : Int32) < c1) ∧ ¬ ((255 : Int32) < c2) ∧ ¬ ((255 : Int32) < c3)) ∨ (Fld Z h a1 "java/lang/String" "coder" "B" (.int (1 : Int32)) ∧ Arv Z h b kb .byte (8 : Int32) [(.int ((((c0 >>> ((0 : Int32) &&& 31))).toInt8.toInt32).toInt8.toInt32)), (.int ((((c0 >>> ((8 : Int32) &&& 31))).toInt8.toInt32).toInt8.toInt32)), (.int ((((c1 >>> ((0 : Int32) &&& 31))).toInt8.toInt32).toInt8.toInt32)), (.int ((((c1 >>> ((8 : Int32) &&& 31))).toInt8.toInt32).toInt8.toInt32)), (.int ((((c2 >>> ((0 : Int32) &&& 31))).toInt8.toInt32).toInt8.toInt32)), (.int ((((c2 >>> ((8 : Int32) &&& 31))).toInt8.toInt32).toInt8.toInt32)), (.int ((((c3 >>> ((0 : Int32) &&& 31))).toInt8.toInt32).toInt8.toInt32)), (.int ((((c3 >>> ((8 : Int32) &&& 31))).toInt8.toInt32).toInt8.toInt32))] (.int (0 : Int32))))
set_option maxRecDepth 65536 in
set_option maxHeartbeats 40000000 in
theorem ri4_4 (l : Launch) (Z : State) (a0 : Array Value) (hw : ∀ d ∈ tables_1, d.before a0 Z = true) (ws : List Jvm.Cond) (a1 : Addr) (a2 : Addr) (kc : ClassId) (c0 c1 c2 c3 : Int32) (G1 : Int32) (h0 : Heap) (n0 : Nat) (Z0 : n0 ≤ h0.size) (E1 : Exa Z h0 a1 "java/lang/String") (F_vl : Fld Z h0 a1 "java/lang/String" "value" "[B" .null) (F_cd : Fld Z h0 a1 "java/lang/String" "coder" "B" (.int (0 : Int32))) (g1 : n0 ≤ a1) (V2 : Arv Z h0 a2 kc .char (4 : Int32) [(.int c0), (.int c1), (.int c2), (.int c3)] (.int (0 : Int32))) (hne : a2 ≠ a1) (hc0 : 0 ≤ c0.toInt ∧ c0.toInt ≤ 65535) (hc1 : 0 ≤ c1.toInt ∧ c1.toInt ≤ 65535) (hc2 : 0 ≤ c2.toInt ∧ c2.toInt ≤ 65535) (hc3 : 0 ≤ c3.toInt ∧ c3.toInt ≤ 65535) (O0 : Old Z n0 h0) (S_cs : Sta Z Z.heap "java/lang/String" "COMPACT_STRINGS" "Z" (.int G1)) (S_ad : Sta Z Z.heap "java/lang/StringUTF16" "$assertionsDisabled" "Z" (.int (1 : Int32))) (S_hi : Sta Z Z.heap "java/lang/StringUTF16" "HI_BYTE_SHIFT" "I" (.int (0 : Int32))) (S_lo : Sta Z Z.heap "java/lang/StringUTF16" "LO_BYTE_SHIFT" "I" (.int (8 : Int32))) (P5 : ¬ (G1 = (0 : Int32))) :
    MetFree l (⟨"java/lang/String", "<init>", "([CIILjava/lang/Void;)V"⟩ : MethodName) (head1 (Jvm.Cond.code (⟨"java/lang/String", "<init>", "([CIILjava/lang/Void;)V"⟩ : MethodName) jdk_42_method_149_code 6 none :: ws) ({ frames := 4, cells := 2, slots := 12, locals := 90 } : Room)) (fun a U => a = #[(.ref a1), (.ref a2), (.int (0 : Int32)), (.int (4 : Int32)), .null] ∧ Z.Warmed39 U.vm ∧ U.heap = h0) (fun _ _ _ _ _ => True) (fun _ U o U' => ∃ v L, o = .returned v ∧ Q_ri4_4 Z a1 a2 kc c0 c1 c2 c3 G1 h0 n0 v U'.heap L ∧ FrameEnd U o U' L ({ frames := 4, cells := 2, slots := 12, locals := 90 } : Room).cells ({ frames := 4, cells := 2, slots := 12, locals := 90 } : Room).slots) := by
  refine MetFree.of_bodySF (plainFor_of_name pn_5) hisR ?_
  intro p e s m args below meth c s₁ Bd hml0 hP hK
  obtain ⟨rfl, hZ, hh⟩ := hP
  have hx := Bd.exec
  have hby := Bd.bytes
  have hml : c.maxLocals = 6 := hml0
  have hown : s.vm.findClass "java/lang/String" = some m.cls := findClass_of_methodNamed Bd.named
  have hnm := (name_of_methodNamed Bd.named Bd.method).1
  have X0 : Stand p l e ({ frames := 4, cells := 2, slots := 12, locals := 90 } : Room) s m #[(.ref a1), (.ref a2), (.int (0 : Int32)), (.int (4 : Int32)), .null] below meth c s₁ [] 0 0 := Stand.of_body Bd
  have e0 : s₁.heap = h0 := by rw [← hh, Bd.state]; rfl
  have N0 := Fr.nil n0
  have pre0 : ∀ t, Steps p.tables e below (s₁.setTop (mkF m 0 #[.val (.ref a1), .val (.ref a2), .val (.int (0 : Int32)), .val (.int (4 : Int32)), .val .null, .unset] [])) t → Steps p.tables e below (s₁.setTop (entryFrame m #[(.ref a1), (.ref a2), (.int (0 : Int32)), (.int (4 : Int32)), .null] 6)) t := fun t k => castTop (ef_ri4_4 m a1 a2) k
  change Go p.tables e below (fun o U' => ∃ v L, o = .returned v ∧ Q_ri4_4 Z a1 a2 kc c0 c1 c2 c3 G1 h0 n0 v U'.heap L ∧ FrameEnd s o U' L ({ frames := 4, cells := 2, slots := 12, locals := 90 } : Room).cells ({ frames := 4, cells := 2, slots := 12, locals := 90 } : Room).slots) (s₁.setTop (entryFrame m #[(.ref a1), (.ref a2), (.int (0 : Int32)), (.int (4 : Int32)), .null] 6))
  have K0 := Keep.refl h0 [a1]
  refine Go.on pre0 ?_
  refine Go.on (B := s₁.setTop (mkF m 1 #[.val (.ref a1), .val (.ref a2), .val (.int (0 : Int32)), .val (.int (4 : Int32)), .val .null, .unset] [(.ref a1)])) (fun t k => XS.aloadN X0.here hx rfl (hb hby d3_0) rfl rfl k) ?_
  obtain ⟨T1, X1, e1, st1⟩ := initO X0 hx hZ hown (hw _ (List.mem_of_getElem? (i := 17) rfl)) (hw _ (List.mem_of_getElem? (i := 18) rfl)) (hw _ (List.mem_of_getElem? (i := 19) rfl)) e0 (g := (mkF m 1 #[.val (.ref a1), .val (.ref a2), .val (.int (0 : Int32)), .val (.int (4 : Int32)), .val .null, .unset] [(.ref a1)])) rfl (by rw [hml]; rfl) rfl (hb hby d3_1) (by decide) (W := 0) (by show 2 * 0 + _ ≤ _; exact Nat.le_of_eq rfl) (by decide)
  refine Go.on (B := T1.setTop (mkF m 4 #[.val (.ref a1), .val (.ref a2), .val (.int (0 : Int32)), .val (.int (4 : Int32)), .val .null, .unset] [])) (fun t k => st1 _ k) ?_
  refine Go.on (B := T1.setTop (mkF m 5 #[.val (.ref a1), .val (.ref a2), .val (.int (0 : Int32)), .val (.int (4 : Int32)), .val .null, .unset] [(.int (4 : Int32))])) (fun t k => XS.iloadN X1.here hx rfl (hb hby d3_4) rfl k) ?_
  have hc5_2 : ¬ ((4 : Int32) = (0 : Int32)) := by decide
  refine Go.on (B := T1.setTop (mkF m 27 #[.val (.ref a1), .val (.ref a2), .val (.int (0 : Int32)), .val (.int (4 : Int32)), .val .null, .unset] [])) (fun t k => XS.ifYes X1.here hx rfl (pc0 := 5) (pc' := 27) rfl (hb hby d3_5) rfl ((if0 _ _).trans (feq hc5_2).2) (by decide) (by decide) k) ?_
  obtain ⟨T3, X3, e3, st3⟩ := getS2 X1 hx hZ hown (host := "") (Or.inl (hw _ (List.mem_of_getElem? (i := 20) rfl))) Via.refl e1 (S_cs.ext O0.2) (g := (mkF m 27 #[.val (.ref a1), .val (.ref a2), .val (.int (0 : Int32)), .val (.int (4 : Int32)), .val .null, .unset] [])) rfl (hb hby d3_27)
  refine Go.on (B := T3.setTop (mkF m 30 #[.val (.ref a1), .val (.ref a2), .val (.int (0 : Int32)), .val (.int (4 : Int32)), .val .null, .unset] [(.int G1)])) (fun t k => st3 _ k) ?_
  have hc30_4 : ¬ (G1 = (0 : Int32)) := P5
  refine Go.on (B := T3.setTop (mkF m 33 #[.val (.ref a1), .val (.ref a2), .val (.int (0 : Int32)), .val (.int (4 : Int32)), .val .null, .unset] [])) (fun t k => XS.ifNo X3.here hx rfl (hb hby d3_30) rfl ((if0 _ _).trans (feq hc30_4).1) k) ?_
  refine Go.on (B := T3.setTop (mkF m 34 #[.val (.ref a1), .val (.ref a2), .val (.int (0 : Int32)), .val (.int (4 : Int32)), .val .null, .unset] [(.ref a2)])) (fun t k => XS.aloadN X3.here hx rfl (hb hby d3_33) rfl rfl k) ?_
  refine Go.on (B := T3.setTop (mkF m 35 #[.val (.ref a1), .val (.ref a2), .val (.int (0 : Int32)), .val (.int (4 : Int32)), .val .null, .unset] [(.int (0 : Int32)), (.ref a2)])) (fun t k => XS.iloadN X3.here hx rfl (hb hby d3_34) rfl k) ?_
  refine Go.on (B := T3.setTop (mkF m 36 #[.val (.ref a1), .val (.ref a2), .val (.int (0 : Int32)), .val (.int (4 : Int32)), .val .null, .unset] [(.int (4 : Int32)), (.int (0 : Int32)), (.ref a2)])) (fun t k => XS.iloadN X3.here hx rfl (hb hby d3_35) rfl k) ?_
  obtain ⟨_, _, ⟨T5, L5, k5, n5⟩, -, X5, ⟨Lc5, hQ5, l5, y5, z5⟩, st5⟩ := Jvm.LawKit.callS X3 hx (y := (⟨"java/lang/StringUTF16", "compress", "([CII)[B"⟩ : MethodName)) hown (mvT hZ (hw _ (List.mem_of_getElem? (i := 21) rfl))) (mvT hZ (hw _ (List.mem_of_getElem? (i := 22) rfl))) (mvT hZ (hw _ (List.mem_of_getElem? (i := 23) rfl))) (mvT hZ (hw _ (List.mem_of_getElem? (i := 24) rfl))) (by decide) (backOf (W := 0) (rc3_4 l Z a0 hw [] a2 kc c0 c1 c2 c3 h0 n0 Z0 V2 hc0 hc1 hc2 hc3 O0 S_ad S_hi S_lo) hZ (hw _ (List.mem_of_getElem? (i := 24) rfl)) (hw _ (List.mem_of_getElem? (i := 23) rfl)) (by decide) (by decide)) (g := (mkF m 36 #[.val (.ref a1), .val (.ref a2), .val (.int (0 : Int32)), .val (.int (4 : Int32)), .val .null, .unset] [(.int (4 : Int32)), (.int (0 : Int32)), (.ref a2)])) rfl (by rw [hml]; rfl) (argsL := [(.ref a2), (.int (0 : Int32)), (.int (4 : Int32))]) (rest := []) (lenOf pd_10 rfl) rfl (by show 2 * 0 + _ ≤ _; exact Nat.le_of_eq rfl) (hb hby d3_36) (fun _ _ => ⟨rfl, e3, (by decide : 0 + 2 ≤ _), (by decide : 0 + 12 ≤ _)⟩)
  dsimp only [Pt.U, Pt.locs, Pt.cells, Pt.slots] at X5 l5 y5 z5 st5 hQ5
  subst l5 y5 z5
  rcases hQ5 with ⟨⟨y5, ky5, rfl, sx5, ⟨Vy5, hx5_c0, hx5_c1, hx5_c2, hx5_c3⟩ | Vy5⟩, N5q, K5q⟩
  · have N5 := Fr.app N0 N5q
    have ne_a1_y5 : a1 ≠ y5 := Nat.ne_of_lt (Nat.lt_of_lt_of_le E1.lt sx5)
    have ne_a2_y5 : a2 ≠ y5 := Nat.ne_of_lt (Nat.lt_of_lt_of_le V2.lt sx5)
    have ge_y5 : n0 ≤ y5 := Nat.le_trans Z0 sx5
    have sz_y5 : h0.size ≤ y5 := Nat.le_trans K0.1 sx5
    have f1 := E1.keep K5q
    have f2 := F_vl.keep K5q nin0
    have f3 := F_cd.keep K5q nin0
    have f4 := V2.keep K5q nin0
    have O_5 := O0.keep K5q all0
    have Zs6 := Nat.le_trans Z0 K5q.1
    have K7 := K0.trans K5q all0
    refine Go.on (B := T5.setTop (mkF m 39 #[.val (.ref a1), .val (.ref a2), .val (.int (0 : Int32)), .val (.int (4 : Int32)), .val .null, .unset] [(.ref y5)])) (fun t k => st5 _ k) ?_
    refine Go.on (B := T5.setTop (mkF m 41 #[.val (.ref a1), .val (.ref a2), .val (.int (0 : Int32)), .val (.int (4 : Int32)), .val .null, .val (.ref y5)] [])) (fun t k => XS.astore X5.here hx rfl (hb hby d3_39) rfl rfl (l' := #[.val (.ref a1), .val (.ref a2), .val (.int (0 : Int32)), .val (.int (4 : Int32)), .val .null, .val (.ref y5)]) rfl k) ?_
    refine Go.on (B := T5.setTop (mkF m 42 #[.val (.ref a1), .val (.ref a2), .val (.int (0 : Int32)), .val (.int (4 : Int32)), .val .null, .val (.ref y5)] [(.ref a1)])) (fun t k => XS.aloadN X5.here hx rfl (hb hby d3_41) rfl rfl k) ?_
    refine Go.on (B := T5.setTop (mkF m 44 #[.val (.ref a1), .val (.ref a2), .val (.int (0 : Int32)), .val (.int (4 : Int32)), .val .null, .val (.ref y5)] [(.ref y5), (.ref a1)])) (fun t k => XS.aload X5.here hx rfl (hb hby d3_42) rfl rfl k) ?_
    refine Go.on (B := T5.setTop (mkF m 45 #[.val (.ref a1), .val (.ref a2), .val (.int (0 : Int32)), .val (.int (4 : Int32)), .val .null, .val (.ref y5)] [(.int (4 : Int32)), (.ref y5), (.ref a1)])) (fun t k => XS.iloadN X5.here hx rfl (hb hby d3_44) rfl k) ?_
    obtain ⟨_, _, ⟨T6, L6, k6, n6⟩, -, X6, ⟨Lc6, hQ6, l6, y6, z6⟩, st6⟩ := Jvm.LawKit.callS X5 hx (y := (⟨"java/lang/StringUTF16", "coderFromArrayLen", "([BI)B"⟩ : MethodName)) hown (mvT hZ (hw _ (List.mem_of_getElem? (i := 29) rfl))) (mvT hZ (hw _ (List.mem_of_getElem? (i := 30) rfl))) (mvT hZ (hw _ (List.mem_of_getElem? (i := 23) rfl))) (mvT hZ (hw _ (List.mem_of_getElem? (i := 31) rfl))) (by decide) (backOf (W := 1) (rcdL_4 l Z a0 hw [] y5 ky5 [(.int (((c0.toInt8.toInt32)).toInt8.toInt32)), (.int (((c1.toInt8.toInt32)).toInt8.toInt32)), (.int (((c2.toInt8.toInt32)).toInt8.toInt32)), (.int (((c3.toInt8.toInt32)).toInt8.toInt32))] T5.heap n0 Zs6 Vy5) hZ (hw _ (List.mem_of_getElem? (i := 31) rfl)) (hw _ (List.mem_of_getElem? (i := 23) rfl)) (by decide) (by decide)) (g := (mkF m 45 #[.val (.ref a1), .val (.ref a2), .val (.int (0 : Int32)), .val (.int (4 : Int32)), .val .null, .val (.ref y5)] [(.int (4 : Int32)), (.ref y5), (.ref a1)])) rfl (by rw [hml]; rfl) (argsL := [(.ref y5), (.int (4 : Int32))]) (rest := [(.ref a1)]) (lenOf pd_11 rfl) rfl (by show 2 * 0 + _ ≤ _; exact Nat.le_of_eq rfl) (hb hby d3_45) (fun _ _ => ⟨rfl, rfl, (by decide : 2 + 0 ≤ _), (by decide : 12 + 0 ≤ _)⟩)
    dsimp only [Pt.U, Pt.locs, Pt.cells, Pt.slots] at X6 l6 y6 z6 st6 hQ6
    subst l6 y6 z6
    obtain ⟨rfl, N6q, e6q⟩ := hQ6
    have N6 := Fr.app N5 N6q
    refine Go.on (B := T6.setTop (mkF m 48 #[.val (.ref a1), .val (.ref a2), .val (.int (0 : Int32)), .val (.int (4 : Int32)), .val .null, .val (.ref y5)] [(.int (0 : Int32)), (.ref a1)])) (fun t k => st6 _ k) ?_
    obtain ⟨T7, h7, X7, e7, W7, st7⟩ := putFN X6 hx hZ hown (hw _ (List.mem_of_getElem? (i := 32) rfl)) Via.refl e6q f3 f1 (Or.inr ⟨(hw _ (List.mem_of_getElem? (i := 33) rfl)), rfl, hnm⟩) (hw _ (List.mem_of_getElem? (i := 8) rfl)) (ty := .byte) (v' := (.int (0 : Int32))) (by decide) rfl (by decide) (g := (mkF m 48 #[.val (.ref a1), .val (.ref a2), .val (.int (0 : Int32)), .val (.int (4 : Int32)), .val .null, .val (.ref y5)] [(.int (0 : Int32)), (.ref a1)])) rfl rfl (hb hby d3_48)
    have N7 := Fr.snoc X7 N6 g1
    have Fw7 := f3.same W7
    have f8 := f1.wr W7
    have f9 := f2.other W7 (Or.inr (slot_ne (Or.inr (hw _ (List.mem_of_getElem? (i := 35) rfl))) (Or.inr (hw _ (List.mem_of_getElem? (i := 33) rfl))) (by decide) (t := (.array .byte)) (t' := .byte) (by decide) (by decide)))
    have f10 := f4.other W7 hne
    have O_11 := O_5.wr W7 g1
    have f12 := Vy5.other W7 (Ne.symm ne_a1_y5)
    have Zs13 := Nat.le_trans Zs6 (Keep.of_wr W7).1
    have K14 := K7.wr W7 (Or.inl (List.mem_of_getElem? (i := 0) rfl))
    refine Go.on (B := T7.setTop (mkF m 51 #[.val (.ref a1), .val (.ref a2), .val (.int (0 : Int32)), .val (.int (4 : Int32)), .val .null, .val (.ref y5)] [])) (fun t k => st7 _ k) ?_
    refine Go.on (B := T7.setTop (mkF m 52 #[.val (.ref a1), .val (.ref a2), .val (.int (0 : Int32)), .val (.int (4 : Int32)), .val .null, .val (.ref y5)] [(.ref a1)])) (fun t k => XS.aloadN X7.here hx rfl (hb hby d3_51) rfl rfl k) ?_
    refine Go.on (B := T7.setTop (mkF m 54 #[.val (.ref a1), .val (.ref a2), .val (.int (0 : Int32)), .val (.int (4 : Int32)), .val .null, .val (.ref y5)] [(.ref y5), (.ref a1)])) (fun t k => XS.aload X7.here hx rfl (hb hby d3_52) rfl rfl k) ?_
    obtain ⟨T8, h8, X8, e8, W8, st8⟩ := putF X7 hx hZ hown (host := "") (Or.inl (hw _ (List.mem_of_getElem? (i := 34) rfl))) Via.refl e7 f9 f8 (Or.inr ⟨(hw _ (List.mem_of_getElem? (i := 35) rfl)), rfl, hnm⟩) (hw _ (List.mem_of_getElem? (i := 8) rfl)) (ty := (.array .byte)) (by decide) rfl rfl (g := (mkF m 54 #[.val (.ref a1), .val (.ref a2), .val (.int (0 : Int32)), .val (.int (4 : Int32)), .val .null, .val (.ref y5)] [(.ref y5), (.ref a1)])) rfl rfl (hb hby d3_54)
    have N8 := Fr.snoc X8 N7 g1
    have Fw8 := f9.same W8
    have f15 := f8.wr W8
    have f16 := Fw7.other W8 (Or.inr (slot_ne (Or.inr (hw _ (List.mem_of_getElem? (i := 33) rfl))) (Or.inr (hw _ (List.mem_of_getElem? (i := 35) rfl))) (by decide) (t := .byte) (t' := (.array .byte)) (by decide) (by decide)))
    have f17 := f10.other W8 hne
    have O_18 := O_11.wr W8 g1
    have f19 := f12.other W8 (Ne.symm ne_a1_y5)
    have Zs20 := Nat.le_trans Zs13 (Keep.of_wr W8).1
    have K21 := K14.wr W8 (Or.inl (List.mem_of_getElem? (i := 0) rfl))
    refine Go.on (B := T8.setTop (mkF m 57 #[.val (.ref a1), .val (.ref a2), .val (.int (0 : Int32)), .val (.int (4 : Int32)), .val .null, .val (.ref y5)] [])) (fun t k => st8 _ k) ?_
    obtain ⟨fs, hr, hrun, hended, hW, hsame⟩ := X8.leave (v := none) (fun _ => rfl)
    refine ⟨_, _, ?_, hrun, hended, _, _, rfl, ?_, ⟨_, rfl⟩, hW, hsame.mono (by decide) (by decide)⟩
    · exact X8.returnOut hx Bd.returns (hb hby d3_57) hr
    · show Q_ri4_4 Z a1 a2 kc c0 c1 c2 c3 G1 h0 n0 _ T8.heap _
      rw [e8]
      exact ⟨rfl, N8, K21, f15, _, _, sz_y5, Fw8, Or.inl ⟨f16, f19, hx5_c0, hx5_c1, hx5_c2, hx5_c3⟩⟩
  · have N5 := Fr.app N0 N5q
    have ne_a1_y5 : a1 ≠ y5 := Nat.ne_of_lt (Nat.lt_of_lt_of_le E1.lt sx5)
    have ne_a2_y5 : a2 ≠ y5 := Nat.ne_of_lt (Nat.lt_of_lt_of_le V2.lt sx5)
    have ge_y5 : n0 ≤ y5 := Nat.le_trans Z0 sx5
    have sz_y5 : h0.size ≤ y5 := Nat.le_trans K0.1 sx5
    have f22 := E1.keep K5q
    have f23 := F_vl.keep K5q nin0
    have f24 := F_cd.keep K5q nin0
    have f25 := V2.keep K5q nin0
    have O_26 := O0.keep K5q all0
    have Zs27 := Nat.le_trans Z0 K5q.1
    have K28 := K0.trans K5q all0
    refine Go.on (B := T5.setTop (mkF m 39 #[.val (.ref a1), .val (.ref a2), .val (.int (0 : Int32)), .val (.int (4 : Int32)), .val .null, .unset] [(.ref y5)])) (fun t k => st5 _ k) ?_
    refine Go.on (B := T5.setTop (mkF m 41 #[.val (.ref a1), .val (.ref a2), .val (.int (0 : Int32)), .val (.int (4 : Int32)), .val .null, .val (.ref y5)] [])) (fun t k => XS.astore X5.here hx rfl (hb hby d3_39) rfl rfl (l' := #[.val (.ref a1), .val (.ref a2), .val (.int (0 : Int32)), .val (.int (4 : Int32)), .val .null, .val (.ref y5)]) rfl k) ?_
    refine Go.on (B := T5.setTop (mkF m 42 #[.val (.ref a1), .val (.ref a2), .val (.int (0 : Int32)), .val (.int (4 : Int32)), .val .null, .val (.ref y5)] [(.ref a1)])) (fun t k => XS.aloadN X5.here hx rfl (hb hby d3_41) rfl rfl k) ?_
    refine Go.on (B := T5.setTop (mkF m 44 #[.val (.ref a1), .val (.ref a2), .val (.int (0 : Int32)), .val (.int (4 : Int32)), .val .null, .val (.ref y5)] [(.ref y5), (.ref a1)])) (fun t k => XS.aload X5.here hx rfl (hb hby d3_42) rfl rfl k) ?_
    refine Go.on (B := T5.setTop (mkF m 45 #[.val (.ref a1), .val (.ref a2), .val (.int (0 : Int32)), .val (.int (4 : Int32)), .val .null, .val (.ref y5)] [(.int (4 : Int32)), (.ref y5), (.ref a1)])) (fun t k => XS.iloadN X5.here hx rfl (hb hby d3_44) rfl k) ?_
    obtain ⟨_, _, ⟨T9, L9, k9, n9⟩, -, X9, ⟨Lc9, hQ9, l9, y9, z9⟩, st9⟩ := Jvm.LawKit.callS X5 hx (y := (⟨"java/lang/StringUTF16", "coderFromArrayLen", "([BI)B"⟩ : MethodName)) hown (mvT hZ (hw _ (List.mem_of_getElem? (i := 29) rfl))) (mvT hZ (hw _ (List.mem_of_getElem? (i := 30) rfl))) (mvT hZ (hw _ (List.mem_of_getElem? (i := 23) rfl))) (mvT hZ (hw _ (List.mem_of_getElem? (i := 31) rfl))) (by decide) (backOf (W := 1) (rcdU_4 l Z a0 hw [] y5 ky5 [(.int ((((c0 >>> ((0 : Int32) &&& 31))).toInt8.toInt32).toInt8.toInt32)), (.int ((((c0 >>> ((8 : Int32) &&& 31))).toInt8.toInt32).toInt8.toInt32)), (.int ((((c1 >>> ((0 : Int32) &&& 31))).toInt8.toInt32).toInt8.toInt32)), (.int ((((c1 >>> ((8 : Int32) &&& 31))).toInt8.toInt32).toInt8.toInt32)), (.int ((((c2 >>> ((0 : Int32) &&& 31))).toInt8.toInt32).toInt8.toInt32)), (.int ((((c2 >>> ((8 : Int32) &&& 31))).toInt8.toInt32).toInt8.toInt32)), (.int ((((c3 >>> ((0 : Int32) &&& 31))).toInt8.toInt32).toInt8.toInt32)), (.int ((((c3 >>> ((8 : Int32) &&& 31))).toInt8.toInt32).toInt8.toInt32))] T5.heap n0 Zs27 Vy5) hZ (hw _ (List.mem_of_getElem? (i := 31) rfl)) (hw _ (List.mem_of_getElem? (i := 23) rfl)) (by decide) (by decide)) (g := (mkF m 45 #[.val (.ref a1), .val (.ref a2), .val (.int (0 : Int32)), .val (.int (4 : Int32)), .val .null, .val (.ref y5)] [(.int (4 : Int32)), (.ref y5), (.ref a1)])) rfl (by rw [hml]; rfl) (argsL := [(.ref y5), (.int (4 : Int32))]) (rest := [(.ref a1)]) (lenOf pd_11 rfl) rfl (by show 2 * 0 + _ ≤ _; exact Nat.le_of_eq rfl) (hb hby d3_45) (fun _ _ => ⟨rfl, rfl, (by decide : 2 + 0 ≤ _), (by decide : 12 + 0 ≤ _)⟩)
    dsimp only [Pt.U, Pt.locs, Pt.cells, Pt.slots] at X9 l9 y9 z9 st9 hQ9
    subst l9 y9 z9
    obtain ⟨rfl, N9q, e9q⟩ := hQ9
    have N9 := Fr.app N5 N9q
    refine Go.on (B := T9.setTop (mkF m 48 #[.val (.ref a1), .val (.ref a2), .val (.int (0 : Int32)), .val (.int (4 : Int32)), .val .null, .val (.ref y5)] [(.int (1 : Int32)), (.ref a1)])) (fun t k => st9 _ k) ?_
    obtain ⟨T10, h10, X10, e10, W10, st10⟩ := putFN X9 hx hZ hown (hw _ (List.mem_of_getElem? (i := 32) rfl)) Via.refl e9q f24 f22 (Or.inr ⟨(hw _ (List.mem_of_getElem? (i := 33) rfl)), rfl, hnm⟩) (hw _ (List.mem_of_getElem? (i := 8) rfl)) (ty := .byte) (v' := (.int (1 : Int32))) (by decide) rfl (by decide) (g := (mkF m 48 #[.val (.ref a1), .val (.ref a2), .val (.int (0 : Int32)), .val (.int (4 : Int32)), .val .null, .val (.ref y5)] [(.int (1 : Int32)), (.ref a1)])) rfl rfl (hb hby d3_48)
    have N10 := Fr.snoc X10 N9 g1
    have Fw10 := f24.same W10
    have f29 := f22.wr W10
    have f30 := f23.other W10 (Or.inr (slot_ne (Or.inr (hw _ (List.mem_of_getElem? (i := 35) rfl))) (Or.inr (hw _ (List.mem_of_getElem? (i := 33) rfl))) (by decide) (t := (.array .byte)) (t' := .byte) (by decide) (by decide)))
    have f31 := f25.other W10 hne
    have O_32 := O_26.wr W10 g1
    have f33 := Vy5.other W10 (Ne.symm ne_a1_y5)
    have Zs34 := Nat.le_trans Zs27 (Keep.of_wr W10).1
    have K35 := K28.wr W10 (Or.inl (List.mem_of_getElem? (i := 0) rfl))
    refine Go.on (B := T10.setTop (mkF m 51 #[.val (.ref a1), .val (.ref a2), .val (.int (0 : Int32)), .val (.int (4 : Int32)), .val .null, .val (.ref y5)] [])) (fun t k => st10 _ k) ?_
    refine Go.on (B := T10.setTop (mkF m 52 #[.val (.ref a1), .val (.ref a2), .val (.int (0 : Int32)), .val (.int (4 : Int32)), .val .null, .val (.ref y5)] [(.ref a1)])) (fun t k => XS.aloadN X10.here hx rfl (hb hby d3_51) rfl rfl k) ?_
    refine Go.on (B := T10.setTop (mkF m 54 #[.val (.ref a1), .val (.ref a2), .val (.int (0 : Int32)), .val (.int (4 : Int32)), .val .null, .val (.ref y5)] [(.ref y5), (.ref a1)])) (fun t k => XS.aload X10.here hx rfl (hb hby d3_52) rfl rfl k) ?_
    obtain ⟨T11, h11, X11, e11, W11, st11⟩ := putF X10 hx hZ hown (host := "") (Or.inl (hw _ (List.mem_of_getElem? (i := 34) rfl))) Via.refl e10 f30 f29 (Or.inr ⟨(hw _ (List.mem_of_getElem? (i := 35) rfl)), rfl, hnm⟩) (hw _ (List.mem_of_getElem? (i := 8) rfl)) (ty := (.array .byte)) (by decide) rfl rfl (g := (mkF m 54 #[.val (.ref a1), .val (.ref a2), .val (.int (0 : Int32)), .val (.int (4 : Int32)), .val .null, .val (.ref y5)] [(.ref y5), (.ref a1)])) rfl rfl (hb hby d3_54)
    have N11 := Fr.snoc X11 N10 g1
    have Fw11 := f30.same W11
    have f36 := f29.wr W11
    have f37 := Fw10.other W11 (Or.inr (slot_ne (Or.inr (hw _ (List.mem_of_getElem? (i := 33) rfl))) (Or.inr (hw _ (List.mem_of_getElem? (i := 35) rfl))) (by decide) (t := .byte) (t' := (.array .byte)) (by decide) (by decide)))
    have f38 := f31.other W11 hne
    have O_39 := O_32.wr W11 g1
    have f40 := f33.other W11 (Ne.symm ne_a1_y5)
    have Zs41 := Nat.le_trans Zs34 (Keep.of_wr W11).1
    have K42 := K35.wr W11 (Or.inl (List.mem_of_getElem? (i := 0) rfl))
    refine Go.on (B := T11.setTop (mkF m 57 #[.val (.ref a1), .val (.ref a2), .val (.int (0 : Int32)), .val (.int (4 : Int32)), .val .null, .val (.ref y5)] [])) (fun t k => st11 _ k) ?_
    obtain ⟨fs, hr, hrun, hended, hW, hsame⟩ := X11.leave (v := none) (fun _ => rfl)
    refine ⟨_, _, ?_, hrun, hended, _, _, rfl, ?_, ⟨_, rfl⟩, hW, hsame.mono (by decide) (by decide)⟩
    · exact X11.returnOut hx Bd.returns (hb hby d3_57) hr
    · show Q_ri4_4 Z a1 a2 kc c0 c1 c2 c3 G1 h0 n0 _ T11.heap _
      rw [e11]
      exact ⟨rfl, N11, K42, f36, _, _, sz_y5, Fw11, Or.inr ⟨f37, f40⟩⟩
theorem d2_0 : decode jdk_42_method_3_code 0 = .ok (.aload_n 0, 1) := by decide +kernel
theorem d2_1 : decode jdk_42_method_3_code 1 = .ok (.aload_n 1, 1) := by decide +kernel
theorem d2_2 : decode jdk_42_method_3_code 2 = .ok (.iconst 0, 1) := by decide +kernel
theorem d2_3 : decode jdk_42_method_3_code 3 = .ok (.aload_n 1, 1) := by decide +kernel
theorem d2_4 : decode jdk_42_method_3_code 4 = .ok (.arraylength, 1) := by decide +kernel
theorem d2_5 : decode jdk_42_method_3_code 5 = .ok (.aconst_null, 1) := by decide +kernel
theorem d2_6 : decode jdk_42_method_3_code 6 = .ok (.invokespecial 27, 3) := by decide +kernel
theorem d2_9 : decode jdk_42_method_3_code 9 = .ok (.return_, 1) := by decide +kernel
theorem pd_12 : parseMethodDescriptor "([CIILjava/lang/Void;)V" = some ⟨[(.array .char), .int, .int, (.object "java/lang/Void")], none⟩ := by decide +kernel
theorem ef_ri1_4 (m : MethodId) (a1 : Addr) (a2 : Addr) : entryFrame m #[(.ref a1), (.ref a2)] 2 = mkF m 0 #[.val (.ref a1), .val (.ref a2)] [] := by first | (simp [entryFrame, mkF, argsToLocals, Value.category]; done) | rfl
def Q_ri1_4 (Z : State) (a1 : Addr) (a2 : Addr) (kc : ClassId) (c0 c1 c2 c3 : Int32) (G1 : Int32) (h0 : Heap) (n0 : Nat) (v : Option Value) (h : Heap) (L : List Loc) : Prop := v = none ∧ Fr n0 L ∧ Keep h0 h [a1] ∧ Exa Z h a1 "java/lang/String" ∧ ∃ (b : Addr) (kb : ClassId), h0.size ≤ b ∧ Fld Z h a1 "java/lang/String" "value" "[B" (.ref b) ∧ ((Fld Z h a1 "java/lang/String" "coder" "B" (.int (0 : Int32)) ∧ Arv Z h b kb .byte (4 : Int32) [(.int (((c0.toInt8.toInt32)).toInt8.toInt32)), (.int (((c1.toInt8.toInt32)).toInt8.toInt32)), (.int (((c2.toInt8.toInt32)).toInt8.toInt32)), (.int (((c3.toInt8.toInt32)).toInt8.toInt32))] (.int (0 : Int32)) ∧ ¬ ((255 : Int32) < c0) ∧ ¬ ((255 : Int32) < c1) ∧ ¬ ((255 : Int32) < c2) ∧ ¬ ((255 : Int32) < c3)) ∨ (Fld Z h a1 "java/lang/String" "coder" "B" (.int (1 : Int32)) ∧ Arv Z h b kb .byte (8 : Int32) [(.int ((((c0 >>> ((0 : Int32) &&& 31))).toInt8.toInt32).toInt8.toInt32)), (.int ((((c0 >>> ((8 : Int32) &&& 31))).toInt8.toInt32).toInt8.toInt32)), (.int ((((c1 >>> ((0 : Int32) &&& 31))).toInt8.toInt32).toInt8.toInt32)), (.int ((((c1 >>> ((8 : Int32) &&& 31))).toInt8.toInt32).toInt8.toInt32)), (.int ((((c2 >>> ((0 : Int32) &&& 31))).toInt8.toInt32).toInt8.toInt32)), (.int ((((c2 >>> ((8 : Int32) &&& 31))).toInt8.toInt32).toInt8.toInt32)), (.int ((((c3 >>> ((0 : Int32) &&& 31))).toInt8.toInt32).toInt8.toInt32)), (.int ((((c3 >>> ((8 : Int32) &&& 31))).toInt8.toInt32).toInt8.toInt32))] (.int (0 : Int32))))
set_option maxRecDepth 65536 in
set_option maxHeartbeats 40000000 in
theorem ri1_4 (l : Launch) (Z : State) (a0 : Array Value) (hw : ∀ d ∈ tables_1, d.before a0 Z = true) (ws : List Jvm.Cond) (a1 : Addr) (a2 : Addr) (kc : ClassId) (c0 c1 c2 c3 : Int32) (G1 : Int32) (h0 : Heap) (n0 : Nat) (Z0 : n0 ≤ h0.size) (E1 : Exa Z h0 a1 "java/lang/String") (F_vl : Fld Z h0 a1 "java/lang/String" "value" "[B" .null) (F_cd : Fld Z h0 a1 "java/lang/String" "coder" "B" (.int (0 : Int32))) (g1 : n0 ≤ a1) (V2 : Arv Z h0 a2 kc .char (4 : Int32) [(.int c0), (.int c1), (.int c2), (.int c3)] (.int (0 : Int32))) (hne : a2 ≠ a1) (hc0 : 0 ≤ c0.toInt ∧ c0.toInt ≤ 65535) (hc1 : 0 ≤ c1.toInt ∧ c1.toInt ≤ 65535) (hc2 : 0 ≤ c2.toInt ∧ c2.toInt ≤ 65535) (hc3 : 0 ≤ c3.toInt ∧ c3.toInt ≤ 65535) (O0 : Old Z n0 h0) (S_cs : Sta Z Z.heap "java/lang/String" "COMPACT_STRINGS" "Z" (.int G1)) (S_ad : Sta Z Z.heap "java/lang/StringUTF16" "$assertionsDisabled" "Z" (.int (1 : Int32))) (S_hi : Sta Z Z.heap "java/lang/StringUTF16" "HI_BYTE_SHIFT" "I" (.int (0 : Int32))) (S_lo : Sta Z Z.heap "java/lang/StringUTF16" "LO_BYTE_SHIFT" "I" (.int (8 : Int32))) (P5 : ¬ (G1 = (0 : Int32))) :
    MetFree l (⟨"java/lang/String", "<init>", "([C)V"⟩ : MethodName) (head1 (Jvm.Cond.code (⟨"java/lang/String", "<init>", "([C)V"⟩ : MethodName) jdk_42_method_3_code 2 none :: ws) ({ frames := 5, cells := 2, slots := 12, locals := 120 } : Room)) (fun a U => a = #[(.ref a1), (.ref a2)] ∧ Z.Warmed39 U.vm ∧ U.heap = h0) (fun _ _ _ _ _ => True) (fun _ U o U' => ∃ v L, o = .returned v ∧ Q_ri1_4 Z a1 a2 kc c0 c1 c2 c3 G1 h0 n0 v U'.heap L ∧ FrameEnd U o U' L ({ frames := 5, cells := 2, slots := 12, locals := 120 } : Room).cells ({ frames := 5, cells := 2, slots := 12, locals := 120 } : Room).slots) := by
  refine MetFree.of_bodySF (plainFor_of_name pn_5) hisR ?_
  intro p e s m args below meth c s₁ Bd hml0 hP hK
  obtain ⟨rfl, hZ, hh⟩ := hP
  have hx := Bd.exec
  have hby := Bd.bytes
  have hml : c.maxLocals = 2 := hml0
  have hown : s.vm.findClass "java/lang/String" = some m.cls := findClass_of_methodNamed Bd.named
  have hnm := (name_of_methodNamed Bd.named Bd.method).1
  have X0 : Stand p l e ({ frames := 5, cells := 2, slots := 12, locals := 120 } : Room) s m #[(.ref a1), (.ref a2)] below meth c s₁ [] 0 0 := Stand.of_body Bd
  have e0 : s₁.heap = h0 := by rw [← hh, Bd.state]; rfl
  have N0 := Fr.nil n0
  have pre0 : ∀ t, Steps p.tables e below (s₁.setTop (mkF m 0 #[.val (.ref a1), .val (.ref a2)] [])) t → Steps p.tables e below (s₁.setTop (entryFrame m #[(.ref a1), (.ref a2)] 2)) t := fun t k => castTop (ef_ri1_4 m a1 a2) k
  change Go p.tables e below (fun o U' => ∃ v L, o = .returned v ∧ Q_ri1_4 Z a1 a2 kc c0 c1 c2 c3 G1 h0 n0 v U'.heap L ∧ FrameEnd s o U' L ({ frames := 5, cells := 2, slots := 12, locals := 120 } : Room).cells ({ frames := 5, cells := 2, slots := 12, locals := 120 } : Room).slots) (s₁.setTop (entryFrame m #[(.ref a1), (.ref a2)] 2))
  have K0 := Keep.refl h0 [a1]
  refine Go.on pre0 ?_
  refine Go.on (B := s₁.setTop (mkF m 1 #[.val (.ref a1), .val (.ref a2)] [(.ref a1)])) (fun t k => XS.aloadN X0.here hx rfl (hb hby d2_0) rfl rfl k) ?_
  refine Go.on (B := s₁.setTop (mkF m 2 #[.val (.ref a1), .val (.ref a2)] [(.ref a2), (.ref a1)])) (fun t k => XS.aloadN X0.here hx rfl (hb hby d2_1) rfl rfl k) ?_
  refine Go.on (B := s₁.setTop (mkF m 3 #[.val (.ref a1), .val (.ref a2)] [(.int (0 : Int32)), (.ref a2), (.ref a1)])) (fun t k => XS.iconst X0.here hx rfl (hb hby d2_2) k) ?_
  refine Go.on (B := s₁.setTop (mkF m 4 #[.val (.ref a1), .val (.ref a2)] [(.ref a2), (.int (0 : Int32)), (.ref a2), (.ref a1)])) (fun t k => XS.aloadN X0.here hx rfl (hb hby d2_3) rfl rfl k) ?_
  obtain ⟨cl1, Ar1, -, Sz1, Ng1, -, -⟩ := id V2
  refine Go.on (B := s₁.setTop (mkF m 5 #[.val (.ref a1), .val (.ref a2)] [(.int (4 : Int32)), (.int (0 : Int32)), (.ref a2), (.ref a1)])) (fun t k => X0.arraylength hx (by rw [e0]; exact Ar1.1) (State.isArrayOf_alike hZ.alike Ar1.2.1) (g := (mkF m 4 #[.val (.ref a1), .val (.ref a2)] [(.ref a2), (.int (0 : Int32)), (.ref a2), (.ref a1)])) rfl rfl (hb hby d2_4) _ (by rw [len_of Sz1 Ng1]; exact k)) ?_
  refine Go.on (B := s₁.setTop (mkF m 6 #[.val (.ref a1), .val (.ref a2)] [.null, (.int (4 : Int32)), (.int (0 : Int32)), (.ref a2), (.ref a1)])) (fun t k => XS.aconstNull X0.here hx rfl (hb hby d2_5) k) ?_
  obtain ⟨_, _, ⟨T2, L2, k2, n2⟩, -, X2, ⟨Lc2, hQ2, l2, y2, z2⟩, st2⟩ := X0.specialBack hx (y := (⟨"java/lang/String", "<init>", "([CIILjava/lang/Void;)V"⟩ : MethodName)) rfl hown (mvT hZ (hw _ (List.mem_of_getElem? (i := 13) rfl))) (mvT hZ (hw _ (List.mem_of_getElem? (i := 14) rfl))) (mvT hZ (hw _ (List.mem_of_getElem? (i := 16) rfl))) (by decide) (backOf (W := 0) (ri4_4 l Z a0 hw [] a1 a2 kc c0 c1 c2 c3 G1 h0 n0 Z0 E1 F_vl F_cd g1 V2 hne hc0 hc1 hc2 hc3 O0 S_cs S_ad S_hi S_lo P5) hZ (hw _ (List.mem_of_getElem? (i := 16) rfl)) (hw _ (List.mem_of_getElem? (i := 9) rfl)) (by decide) (by decide)) (g := (mkF m 6 #[.val (.ref a1), .val (.ref a2)] [.null, (.int (4 : Int32)), (.int (0 : Int32)), (.ref a2), (.ref a1)])) rfl (by rw [hml]; rfl) (Steps.refl _) (a := a1) (argsL := [(.ref a2), (.int (0 : Int32)), (.int (4 : Int32)), .null]) (rest := []) (lenOf pd_12 rfl) rfl (by show 2 * 0 + _ ≤ _; exact Nat.le_of_eq rfl) (hb hby d2_6) (fun _ _ => ⟨rfl, e0, (by decide : 0 + 2 ≤ _), (by decide : 0 + 12 ≤ _)⟩)
  dsimp only [Pt.U, Pt.locs, Pt.cells, Pt.slots] at X2 l2 y2 z2 st2 hQ2
  subst l2 y2 z2
  rcases hQ2 with ⟨rfl, N2q, K2q, E2q, y2, ky2, sx2, Fv2, ⟨Fc2, Vy2, hx2_0, hx2_1, hx2_2, hx2_3⟩ | ⟨Fc2, Vy2⟩⟩
  · have N2 := Fr.app N0 N2q
    have ne_a1_y2 : a1 ≠ y2 := Nat.ne_of_lt (Nat.lt_of_lt_of_le E1.lt sx2)
    have ne_a2_y2 : a2 ≠ y2 := Nat.ne_of_lt (Nat.lt_of_lt_of_le V2.lt sx2)
    have sz_y2 : h0.size ≤ y2 := Nat.le_trans K0.1 sx2
    have f1 := E1.keep K2q
    have f2 := V2.keep K2q (ninS hne nin0)
    have O_3 := O0.keep K2q (allS g1 all0)
    have Zs4 := Nat.le_trans Z0 K2q.1
    have K5 := K0.trans K2q (allS (Or.inl (List.mem_of_getElem? (i := 0) rfl)) all0)
    refine Go.on (B := T2.setTop (mkF m 9 #[.val (.ref a1), .val (.ref a2)] [])) (fun t k => st2.trans k) ?_
    obtain ⟨fs, hr, hrun, hended, hW, hsame⟩ := X2.leave (v := none) (fun _ => rfl)
    refine ⟨_, _, ?_, hrun, hended, _, _, rfl, ?_, ⟨_, rfl⟩, hW, hsame.mono (by decide) (by decide)⟩
    · exact X2.returnOut hx Bd.returns (hb hby d2_9) hr
    · show Q_ri1_4 Z a1 a2 kc c0 c1 c2 c3 G1 h0 n0 _ T2.heap _
      exact ⟨rfl, N2, K5, E2q, _, _, sz_y2, Fv2, Or.inl ⟨Fc2, Vy2, hx2_0, hx2_1, hx2_2, hx2_3⟩⟩
  · have N2 := Fr.app N0 N2q
    have ne_a1_y2 : a1 ≠ y2 := Nat.ne_of_lt (Nat.lt_of_lt_of_le E1.lt sx2)
    have ne_a2_y2 : a2 ≠ y2 := Nat.ne_of_lt (Nat.lt_of_lt_of_le V2.lt sx2)
    have sz_y2 : h0.size ≤ y2 := Nat.le_trans K0.1 sx2
    have f6 := E1.keep K2q
    have f7 := V2.keep K2q (ninS hne nin0)
    have O_8 := O0.keep K2q (allS g1 all0)
    have Zs9 := Nat.le_trans Z0 K2q.1
    have K10 := K0.trans K2q (allS (Or.inl (List.mem_of_getElem? (i := 0) rfl)) all0)
    refine Go.on (B := T2.setTop (mkF m 9 #[.val (.ref a1), .val (.ref a2)] [])) (fun t k => st2.trans k) ?_
    obtain ⟨fs, hr, hrun, hended, hW, hsame⟩ := X2.leave (v := none) (fun _ => rfl)
    refine ⟨_, _, ?_, hrun, hended, _, _, rfl, ?_, ⟨_, rfl⟩, hW, hsame.mono (by decide) (by decide)⟩
    · exact X2.returnOut hx Bd.returns (hb hby d2_9) hr
    · show Q_ri1_4 Z a1 a2 kc c0 c1 c2 c3 G1 h0 n0 _ T2.heap _
      exact ⟨rfl, N2, K10, E2q, _, _, sz_y2, Fv2, Or.inr ⟨Fc2, Vy2⟩⟩
def own_Dg (c : Int32) : Prop := ¬ (c < (48 : Int32)) ∧ ¬ ((57 : Int32) < c)
def own_c (c0 c1 c2 c3 i : Int32) : Int32 := if i = (0 : Int32) then c0 else if i = (1 : Int32) then c1 else if i = (2 : Int32) then c2 else c3
theorem own_c0 (c0 c1 c2 c3 : Int32) : own_c c0 c1 c2 c3 (0 : Int32) = c0 := by simp [own_c]
theorem own_c1 (c0 c1 c2 c3 : Int32) : own_c c0 c1 c2 c3 (1 : Int32) = c1 := by simp [own_c]
theorem own_c2 (c0 c1 c2 c3 : Int32) : own_c c0 c1 c2 c3 (2 : Int32) = c2 := by simp [own_c]
theorem own_c3 (c0 c1 c2 c3 : Int32) : own_c c0 c1 c2 c3 (3 : Int32) = c3 := by simp [own_c]
theorem own_crng (c0 c1 c2 c3 i : Int32) (B : Int) (h0 : 0 ≤ c0.toInt ∧ c0.toInt ≤ B) (h1 : 0 ≤ c1.toInt ∧ c1.toInt ≤ B) (h2 : 0 ≤ c2.toInt ∧ c2.toInt ≤ B) (h3 : 0 ≤ c3.toInt ∧ c3.toInt ≤ B) : 0 ≤ (own_c c0 c1 c2 c3 i).toInt ∧ (own_c c0 c1 c2 c3 i).toInt ≤ B := by
  unfold own_c
  by_cases q0 : i = (0 : Int32)
  · rw [if_pos q0]; exact h0
  · rw [if_neg q0]
    by_cases q1 : i = (1 : Int32)
    · rw [if_pos q1]; exact h1
    · rw [if_neg q1]
      by_cases q2 : i = (2 : Int32)
      · rw [if_pos q2]; exact h2
      · rw [if_neg q2]; exact h3
theorem own_le255 (c : Int32) (h : 0 ≤ c.toInt ∧ c.toInt ≤ 65535) (q : ¬ ((255 : Int32) < c)) : 0 ≤ c.toInt ∧ c.toInt ≤ 255 := by
  rw [Int32.lt_iff_toInt_lt, own_m255] at q
  omega
theorem own_case4 (i : Int32) (h : ¬ i < (0 : Int32) ∧ i < (4 : Int32)) : i = (0 : Int32) ∨ i = (1 : Int32) ∨ i = (2 : Int32) ∨ i = (3 : Int32) := by
  rw [Int32.lt_iff_toInt_lt, Int32.lt_iff_toInt_lt, show (0 : Int32).toInt = 0 from by decide, show (4 : Int32).toInt = 4 from by decide] at h
  rcases (by omega : i.toInt = 0 ∨ i.toInt = 1 ∨ i.toInt = 2 ∨ i.toInt = 3) with q | q | q | q
  · exact Or.inl (Int32.toInt_inj.mp (by rw [q]; decide))
  · exact Or.inr (Or.inl (Int32.toInt_inj.mp (by rw [q]; decide)))
  · exact Or.inr (Or.inr (Or.inl (Int32.toInt_inj.mp (by rw [q]; decide))))
  · exact Or.inr (Or.inr (Or.inr (Int32.toInt_inj.mp (by rw [q]; decide))))
theorem own_get4 (c0 c1 c2 c3 i : Int32) (h : ¬ i < (0 : Int32) ∧ i < (4 : Int32)) : ([(.int (((c0.toInt8.toInt32)).toInt8.toInt32)), (.int (((c1.toInt8.toInt32)).toInt8.toInt32)), (.int (((c2.toInt8.toInt32)).toInt8.toInt32)), (.int (((c3.toInt8.toInt32)).toInt8.toInt32))] : List Value).getD i.toNatClampNeg (.int (0 : Int32)) = .int ((((own_c c0 c1 c2 c3 i).toInt8.toInt32)).toInt8.toInt32) := by
  rcases own_case4 i h with rfl | rfl | rfl | rfl
  · rw [own_c0]; rfl
  · rw [own_c1]; rfl
  · rw [own_c2]; rfl
  · rw [own_c3]; rfl
theorem own_get8 (c0 c1 c2 c3 i : Int32) (h : ¬ i < (0 : Int32) ∧ i < (4 : Int32)) : (¬ (i <<< ((1 : Int32) &&& 31)) < 0 ∧ (i <<< ((1 : Int32) &&& 31)) < (8 : Int32)) ∧ ([(.int ((((c0 >>> ((0 : Int32) &&& 31))).toInt8.toInt32).toInt8.toInt32)), (.int ((((c0 >>> ((8 : Int32) &&& 31))).toInt8.toInt32).toInt8.toInt32)), (.int ((((c1 >>> ((0 : Int32) &&& 31))).toInt8.toInt32).toInt8.toInt32)), (.int ((((c1 >>> ((8 : Int32) &&& 31))).toInt8.toInt32).toInt8.toInt32)), (.int ((((c2 >>> ((0 : Int32) &&& 31))).toInt8.toInt32).toInt8.toInt32)), (.int ((((c2 >>> ((8 : Int32) &&& 31))).toInt8.toInt32).toInt8.toInt32)), (.int ((((c3 >>> ((0 : Int32) &&& 31))).toInt8.toInt32).toInt8.toInt32)), (.int ((((c3 >>> ((8 : Int32) &&& 31))).toInt8.toInt32).toInt8.toInt32))] : List Value).getD ((i <<< ((1 : Int32) &&& 31))).toNatClampNeg (.int (0 : Int32)) = .int (((((own_c c0 c1 c2 c3 i) >>> ((0 : Int32) &&& 31))).toInt8.toInt32).toInt8.toInt32) ∧ (¬ ((i <<< ((1 : Int32) &&& 31)) + (1 : Int32)) < 0 ∧ ((i <<< ((1 : Int32) &&& 31)) + (1 : Int32)) < (8 : Int32)) ∧ ([(.int ((((c0 >>> ((0 : Int32) &&& 31))).toInt8.toInt32).toInt8.toInt32)), (.int ((((c0 >>> ((8 : Int32) &&& 31))).toInt8.toInt32).toInt8.toInt32)), (.int ((((c1 >>> ((0 : Int32) &&& 31))).toInt8.toInt32).toInt8.toInt32)), (.int ((((c1 >>> ((8 : Int32) &&& 31))).toInt8.toInt32).toInt8.toInt32)), (.int ((((c2 >>> ((0 : Int32) &&& 31))).toInt8.toInt32).toInt8.toInt32)), (.int ((((c2 >>> ((8 : Int32) &&& 31))).toInt8.toInt32).toInt8.toInt32)), (.int ((((c3 >>> ((0 : Int32) &&& 31))).toInt8.toInt32).toInt8.toInt32)), (.int ((((c3 >>> ((8 : Int32) &&& 31))).toInt8.toInt32).toInt8.toInt32))] : List Value).getD (((i <<< ((1 : Int32) &&& 31)) + (1 : Int32))).toNatClampNeg (.int (0 : Int32)) = .int (((((own_c c0 c1 c2 c3 i) >>> ((8 : Int32) &&& 31))).toInt8.toInt32).toInt8.toInt32) := by
  rcases own_case4 i h with rfl | rfl | rfl | rfl
  · rw [own_c0]; exact ⟨⟨by decide, by decide⟩, rfl, ⟨by decide, by decide⟩, rfl⟩
  · rw [own_c1]; exact ⟨⟨by decide, by decide⟩, rfl, ⟨by decide, by decide⟩, rfl⟩
  · rw [own_c2]; exact ⟨⟨by decide, by decide⟩, rfl, ⟨by decide, by decide⟩, rfl⟩
  · rw [own_c3]; exact ⟨⟨by decide, by decide⟩, rfl, ⟨by decide, by decide⟩, rfl⟩
theorem own_up {i p3 : Int32} (h : i < p3) : (i + (1 : Int32)).toInt = i.toInt + 1 := by
  have k := c_iadd i 1
  have r := rng32 (i + 1)
  have r2 := rng32 p3
  have r3 := rng32 i
  rw [show (1 : Int32).toInt = 1 from by decide] at k
  rw [Int32.lt_iff_toInt_lt] at h
  omega
theorem own_next {i p2 p3 : Int32} {k : Nat} (hlo : ¬ i < p2) (h3 : i < p3) (hk : (p3.toInt - i.toInt).toNat = k + 1) : ¬ (i + (1 : Int32)) < p2 ∧ ¬ p3 < (i + (1 : Int32)) ∧ (p3.toInt - (i + (1 : Int32)).toInt).toNat = k := by
  have u := own_up h3
  rw [Int32.lt_iff_toInt_lt] at hlo h3
  rw [Int32.lt_iff_toInt_lt, Int32.lt_iff_toInt_lt, u]
  omega
theorem own_ext {P : Int32 → Prop} {i p2 p3 : Int32} (h3 : i < p3) (hd : ∀ j : Int32, ¬ j < p2 → j < i → P j) (hi : P i) : ∀ j : Int32, ¬ j < p2 → j < (i + (1 : Int32)) → P j := fun j h1 h2 => by
  have u := own_up h3
  by_cases q : j < i
  · exact hd j h1 q
  · rw [Int32.lt_iff_toInt_lt] at q h2
    have e : j = i := Int32.toInt_inj.mp (by omega)
    rw [e]; exact hi
theorem own_idx {i p2 p3 : Int32} (hb : 0 ≤ p2.toInt ∧ p3.toInt ≤ 4) (hlo : ¬ i < p2) (h3 : i < p3) : ¬ i < (0 : Int32) ∧ i < (4 : Int32) := by
  rw [Int32.lt_iff_toInt_lt] at hlo h3
  rw [Int32.lt_iff_toInt_lt, Int32.lt_iff_toInt_lt, show (0 : Int32).toInt = 0 from by decide, show (4 : Int32).toInt = 4 from by decide]
  omega
theorem own_end {i p3 : Int32} (hk : (p3.toInt - i.toInt).toNat = 0) : ¬ i < p3 := by
  rw [Int32.lt_iff_toInt_lt]
  omega
theorem own_more {i p3 : Int32} {k : Nat} (hk : (p3.toInt - i.toInt).toNat = k + 1) : i < p3 := by
  rw [Int32.lt_iff_toInt_lt]
  omega
theorem own_sub {j i p3 : Int32} (h : j < p3) (q : ¬ p3 < i) (q2 : ¬ i < p3) : j < i := by
  rw [Int32.lt_iff_toInt_lt] at *
  omega
theorem own_m5 (x v : Int32) (h : ((x &&& (2147483647 : Int32)) % (5 : Int32)) = v) : 0 ≤ v.toInt ∧ v.toInt ≤ 4 := by
  have a := (c_and x (2147483647 : Int32) (by decide)).1
  have q := (c_irem (x &&& (2147483647 : Int32)) 5 5 (by decide)).1 a
  rw [h] at q
  omega
theorem own_allok {c0 c1 c2 c3 s e : Int32} (hs : 0 ≤ s.toInt ∧ e.toInt ≤ 4) (h0 : (0 : Int32) < s ∨ ¬ (0 : Int32) < e ∨ own_Dg c0) (h1 : (1 : Int32) < s ∨ ¬ (1 : Int32) < e ∨ own_Dg c1) (h2 : (2 : Int32) < s ∨ ¬ (2 : Int32) < e ∨ own_Dg c2) (h3 : (3 : Int32) < s ∨ ¬ (3 : Int32) < e ∨ own_Dg c3) (j : Int32) (ha : ¬ j < s) (hb : j < e) : own_Dg (own_c c0 c1 c2 c3 j) := by
  rcases own_case4 j (own_idx hs ha hb) with rfl | rfl | rfl | rfl
  · rw [own_c0]; exact (h0.resolve_left ha).resolve_left (fun q => q hb)
  · rw [own_c1]; exact (h1.resolve_left ha).resolve_left (fun q => q hb)
  · rw [own_c2]; exact (h2.resolve_left ha).resolve_left (fun q => q hb)
  · rw [own_c3]; exact (h3.resolve_left ha).resolve_left (fun q => q hb)
theorem d1_0 : decode method_2_code 0 = .ok (.iload_n 0, 1) := by decide +kernel
theorem d1_1 : decode method_2_code 1 = .ok (.ldc 7, 2) := by decide +kernel
theorem d1_3 : decode method_2_code 3 = .ok (.iand, 1) := by decide +kernel
theorem d1_4 : decode method_2_code 4 = .ok (.istore_n 1, 1) := by decide +kernel
theorem d1_5 : decode method_2_code 5 = .ok (.iload_n 0, 1) := by decide +kernel
theorem d1_6 : decode method_2_code 6 = .ok (.ldc 8, 2) := by decide +kernel
theorem d1_8 : decode method_2_code 8 = .ok (.iand, 1) := by decide +kernel
theorem d1_9 : decode method_2_code 9 = .ok (.ifCond .eq 6, 3) := by decide +kernel
theorem d1_12 : decode method_2_code 12 = .ok (.iload_n 1, 1) := by decide +kernel
theorem d1_13 : decode method_2_code 13 = .ok (.i2c, 1) := by decide +kernel
theorem d1_14 : decode method_2_code 14 = .ok (.ireturn, 1) := by decide +kernel
theorem d1_15 : decode method_2_code 15 = .ok (.bipush 47, 2) := by decide +kernel
theorem d1_17 : decode method_2_code 17 = .ok (.iload_n 1, 1) := by decide +kernel
theorem d1_18 : decode method_2_code 18 = .ok (.bipush 12, 2) := by decide +kernel
theorem d1_20 : decode method_2_code 20 = .ok (.irem, 1) := by decide +kernel
theorem d1_21 : decode method_2_code 21 = .ok (.iadd, 1) := by decide +kernel
theorem d1_22 : decode method_2_code 22 = .ok (.i2c, 1) := by decide +kernel
theorem d1_23 : decode method_2_code 23 = .ok (.ireturn, 1) := by decide +kernel
theorem pn_37 : plainName "com/example/encours/encours/engine/MoneyIsDigitsPinLaw" = true := by first | (simp [plainName, overriddenIn]; done) | decide +kernel
theorem ef_rdr (m : MethodId) (p1 : Int32) : entryFrame m #[(.int p1)] 2 = mkF m 0 #[.val (.int p1), .unset] [] := by first | (simp [entryFrame, mkF, argsToLocals, Value.category]; done) | rfl
def Q_rdr (Z : State) (p1 : Int32) (h0 : Heap) (n0 : Nat) (v : Option Value) (h : Heap) (L : List Loc) : Prop := (∃ r : Int32, v = some (.int r) ∧ 0 ≤ r.toInt ∧ r.toInt ≤ 65535) ∧ Fr n0 L ∧ h = h0
set_option maxRecDepth 65536 in
set_option maxHeartbeats 40000000 in
theorem rdr (l : Launch) (Z : State) (a0 : Array Value) (hw : ∀ d ∈ tables_1, d.before a0 Z = true) (ws : List Jvm.Cond) (p1 : Int32) (h0 : Heap) (n0 : Nat) (Z0 : n0 ≤ h0.size)  :
    MetFree l (⟨"com/example/encours/encours/engine/MoneyIsDigitsPinLaw", "draw", "(I)C"⟩ : MethodName) (head1 (Jvm.Cond.code (⟨"com/example/encours/encours/engine/MoneyIsDigitsPinLaw", "draw", "(I)C"⟩ : MethodName) method_2_code 2 (some .char) :: ws) ({ frames := 0, cells := 0, slots := 0, locals := 0 } : Room)) (fun a U => a = #[(.int p1)] ∧ Z.Warmed39 U.vm ∧ U.heap = h0) (fun _ _ _ _ _ => True) (fun _ U o U' => ∃ v L, o = .returned v ∧ Q_rdr Z p1 h0 n0 v U'.heap L ∧ FrameEnd U o U' L ({ frames := 0, cells := 0, slots := 0, locals := 0 } : Room).cells ({ frames := 0, cells := 0, slots := 0, locals := 0 } : Room).slots) := by
  refine MetFree.of_bodySF (plainFor_of_name pn_37) hisR ?_
  intro p e s m args below meth c s₁ Bd hml0 hP hK
  obtain ⟨rfl, hZ, hh⟩ := hP
  have hx := Bd.exec
  have hby := Bd.bytes
  have hml : c.maxLocals = 2 := hml0
  have hown : s.vm.findClass "com/example/encours/encours/engine/MoneyIsDigitsPinLaw" = some m.cls := findClass_of_methodNamed Bd.named
  have hnm := (name_of_methodNamed Bd.named Bd.method).1
  have X0 : Stand p l e ({ frames := 0, cells := 0, slots := 0, locals := 0 } : Room) s m #[(.int p1)] below meth c s₁ [] 0 0 := Stand.of_body Bd
  have e0 : s₁.heap = h0 := by rw [← hh, Bd.state]; rfl
  have N0 := Fr.nil n0
  have pre0 : ∀ t, Steps p.tables e below (s₁.setTop (mkF m 0 #[.val (.int p1), .unset] [])) t → Steps p.tables e below (s₁.setTop (entryFrame m #[(.int p1)] 2)) t := fun t k => castTop (ef_rdr m p1) k
  change Go p.tables e below (fun o U' => ∃ v L, o = .returned v ∧ Q_rdr Z p1 h0 n0 v U'.heap L ∧ FrameEnd s o U' L ({ frames := 0, cells := 0, slots := 0, locals := 0 } : Room).cells ({ frames := 0, cells := 0, slots := 0, locals := 0 } : Room).slots) (s₁.setTop (entryFrame m #[(.int p1)] 2))
  refine Go.on pre0 ?_
  refine Go.on (B := s₁.setTop (mkF m 1 #[.val (.int p1), .unset] [(.int p1)])) (fun t k => XS.iloadN X0.here hx rfl (hb hby d1_0) rfl k) ?_
  refine Go.on (B := s₁.setTop (mkF m 3 #[.val (.int p1), .unset] [(.int (65535 : Int32)), (.int p1)])) (fun t k => X0.ldcInt hx hown (mvT hZ (hw _ (List.mem_of_getElem? (i := 4) rfl))) (g := (mkF m 1 #[.val (.int p1), .unset] [(.int p1)])) rfl (hb hby d1_1) _ k) ?_
  refine Go.on (B := s₁.setTop (mkF m 4 #[.val (.int p1), .unset] [(.int (p1 &&& (65535 : Int32)))])) (fun t k => XS.iand X0.here hx rfl (hb hby d1_3) rfl k) ?_
  generalize hv4_1 : (p1 &&& (65535 : Int32)) = v4_1
  refine Go.on (B := s₁.setTop (mkF m 5 #[.val (.int p1), .val (.int v4_1)] [])) (fun t k => XS.istoreN X0.here hx rfl (hb hby d1_4) rfl (l' := #[.val (.int p1), .val (.int v4_1)]) rfl k) ?_
  refine Go.on (B := s₁.setTop (mkF m 6 #[.val (.int p1), .val (.int v4_1)] [(.int p1)])) (fun t k => XS.iloadN X0.here hx rfl (hb hby d1_5) rfl k) ?_
  refine Go.on (B := s₁.setTop (mkF m 8 #[.val (.int p1), .val (.int v4_1)] [(.int (65536 : Int32)), (.int p1)])) (fun t k => X0.ldcInt hx hown (mvT hZ (hw _ (List.mem_of_getElem? (i := 5) rfl))) (g := (mkF m 6 #[.val (.int p1), .val (.int v4_1)] [(.int p1)])) rfl (hb hby d1_6) _ k) ?_
  refine Go.on (B := s₁.setTop (mkF m 9 #[.val (.int p1), .val (.int v4_1)] [(.int (p1 &&& (65536 : Int32)))])) (fun t k => XS.iand X0.here hx rfl (hb hby d1_8) rfl k) ?_
  by_cases hc9_2 : (p1 &&& (65536 : Int32)) = (0 : Int32)
  · refine Go.on (B := s₁.setTop (mkF m 15 #[.val (.int p1), .val (.int v4_1)] [])) (fun t k => XS.ifYes X0.here hx rfl (pc0 := 9) (pc' := 15) rfl (hb hby d1_9) rfl ((if0 _ _).trans (teq hc9_2).1) (by decide) (by decide) k) ?_
    refine Go.on (B := s₁.setTop (mkF m 17 #[.val (.int p1), .val (.int v4_1)] [(.int (47 : Int32))])) (fun t k => XS.bipush X0.here hx rfl (hb hby d1_15) k) ?_
    refine Go.on (B := s₁.setTop (mkF m 18 #[.val (.int p1), .val (.int v4_1)] [(.int v4_1), (.int (47 : Int32))])) (fun t k => XS.iloadN X0.here hx rfl (hb hby d1_17) rfl k) ?_
    refine Go.on (B := s₁.setTop (mkF m 20 #[.val (.int p1), .val (.int v4_1)] [(.int (12 : Int32)), (.int v4_1), (.int (47 : Int32))])) (fun t k => XS.bipush X0.here hx rfl (hb hby d1_18) k) ?_
    refine Go.on (B := s₁.setTop (mkF m 21 #[.val (.int p1), .val (.int v4_1)] [(.int (v4_1 % (12 : Int32))), (.int (47 : Int32))])) (fun t k => iremM X0 hx rfl (hb hby d1_20) rfl (by decide) k) ?_
    refine Go.on (B := s₁.setTop (mkF m 22 #[.val (.int p1), .val (.int v4_1)] [(.int ((47 : Int32) + (v4_1 % (12 : Int32))))])) (fun t k => XS.iadd X0.here hx rfl (hb hby d1_21) rfl k) ?_
    refine Go.on (B := s₁.setTop (mkF m 23 #[.val (.int p1), .val (.int v4_1)] [(.int (((47 : Int32) + (v4_1 % (12 : Int32))).toUInt32.toUInt16.toUInt32.toInt32))])) (fun t k => XS.i2c X0.here hx rfl (hb hby d1_22) rfl k) ?_
    obtain ⟨fs, hr, hrun, hended, hW, hsame⟩ := X0.leave (v := some (.int (nar .char (((47 : Int32) + (v4_1 % (12 : Int32))).toUInt32.toUInt16.toUInt32.toInt32)))) (fun h => by rw [Bd.returns] at h; cases h)
    refine ⟨_, _, ?_, hrun, hended, _, _, rfl, ?_, ⟨_, rfl⟩, hW, hsame.mono (by decide) (by decide)⟩
    · exact retN X0 hx (t := .char) Bd.returns (by simp) (hb hby d1_23) hr
    · show Q_rdr Z p1 h0 n0 _ s₁.heap _
      rw [e0]
      exact ⟨⟨_, rfl, own_ch _⟩, N0, rfl⟩
  · refine Go.on (B := s₁.setTop (mkF m 12 #[.val (.int p1), .val (.int v4_1)] [])) (fun t k => XS.ifNo X0.here hx rfl (hb hby d1_9) rfl ((if0 _ _).trans (feq hc9_2).1) k) ?_
    refine Go.on (B := s₁.setTop (mkF m 13 #[.val (.int p1), .val (.int v4_1)] [(.int v4_1)])) (fun t k => XS.iloadN X0.here hx rfl (hb hby d1_12) rfl k) ?_
    refine Go.on (B := s₁.setTop (mkF m 14 #[.val (.int p1), .val (.int v4_1)] [(.int (v4_1.toUInt32.toUInt16.toUInt32.toInt32))])) (fun t k => XS.i2c X0.here hx rfl (hb hby d1_13) rfl k) ?_
    obtain ⟨fs, hr, hrun, hended, hW, hsame⟩ := X0.leave (v := some (.int (nar .char (v4_1.toUInt32.toUInt16.toUInt32.toInt32)))) (fun h => by rw [Bd.returns] at h; cases h)
    refine ⟨_, _, ?_, hrun, hended, _, _, rfl, ?_, ⟨_, rfl⟩, hW, hsame.mono (by decide) (by decide)⟩
    · exact retN X0 hx (t := .char) Bd.returns (by simp) (hb hby d1_14) hr
    · show Q_rdr Z p1 h0 n0 _ s₁.heap _
      rw [e0]
      exact ⟨⟨_, rfl, own_ch _⟩, N0, rfl⟩
theorem d9_0 : decode method_3_code 0 = .ok (.iload_n 0, 1) := by decide +kernel
theorem d9_1 : decode method_3_code 1 = .ok (.bipush 48, 2) := by decide +kernel
theorem d9_3 : decode method_3_code 3 = .ok (.if_icmp .lt 13, 3) := by decide +kernel
theorem d9_6 : decode method_3_code 6 = .ok (.iload_n 0, 1) := by decide +kernel
theorem d9_7 : decode method_3_code 7 = .ok (.bipush 57, 2) := by decide +kernel
theorem d9_9 : decode method_3_code 9 = .ok (.if_icmp .gt 7, 3) := by decide +kernel
theorem d9_12 : decode method_3_code 12 = .ok (.iconst 1, 1) := by decide +kernel
theorem d9_13 : decode method_3_code 13 = .ok (.goto 4, 3) := by decide +kernel
theorem d9_16 : decode method_3_code 16 = .ok (.iconst 0, 1) := by decide +kernel
theorem d9_17 : decode method_3_code 17 = .ok (.ireturn, 1) := by decide +kernel
theorem ef_rdg (m : MethodId) (p1 : Int32) : entryFrame m #[(.int p1)] 1 = mkF m 0 #[.val (.int p1)] [] := by first | (simp [entryFrame, mkF, argsToLocals, Value.category]; done) | rfl
def Q_rdg (Z : State) (p1 : Int32) (h0 : Heap) (n0 : Nat) (v : Option Value) (h : Heap) (L : List Loc) : Prop := (∃ r : Int32, v = some (.int r) ∧ ((r = (1 : Int32) ∧ own_Dg p1) ∨ (r = (0 : Int32) ∧ ¬ own_Dg p1))) ∧ Fr n0 L ∧ h = h0
set_option maxRecDepth 65536 in
set_option maxHeartbeats 40000000 in
theorem rdg (l : Launch) (Z : State) (a0 : Array Value) (hw : ∀ d ∈ tables_1, d.before a0 Z = true) (ws : List Jvm.Cond) (p1 : Int32) (h0 : Heap) (n0 : Nat) (Z0 : n0 ≤ h0.size)  :
    MetFree l (⟨"com/example/encours/encours/engine/MoneyIsDigitsPinLaw", "digit", "(C)Z"⟩ : MethodName) (head1 (Jvm.Cond.code (⟨"com/example/encours/encours/engine/MoneyIsDigitsPinLaw", "digit", "(C)Z"⟩ : MethodName) method_3_code 1 (some .boolean) :: ws) ({ frames := 0, cells := 0, slots := 0, locals := 0 } : Room)) (fun a U => a = #[(.int p1)] ∧ Z.Warmed39 U.vm ∧ U.heap = h0) (fun _ _ _ _ _ => True) (fun _ U o U' => ∃ v L, o = .returned v ∧ Q_rdg Z p1 h0 n0 v U'.heap L ∧ FrameEnd U o U' L ({ frames := 0, cells := 0, slots := 0, locals := 0 } : Room).cells ({ frames := 0, cells := 0, slots := 0, locals := 0 } : Room).slots) := by
  refine MetFree.of_bodySF (plainFor_of_name pn_37) hisR ?_
  intro p e s m args below meth c s₁ Bd hml0 hP hK
  obtain ⟨rfl, hZ, hh⟩ := hP
  have hx := Bd.exec
  have hby := Bd.bytes
  have hml : c.maxLocals = 1 := hml0
  have hown : s.vm.findClass "com/example/encours/encours/engine/MoneyIsDigitsPinLaw" = some m.cls := findClass_of_methodNamed Bd.named
  have hnm := (name_of_methodNamed Bd.named Bd.method).1
  have X0 : Stand p l e ({ frames := 0, cells := 0, slots := 0, locals := 0 } : Room) s m #[(.int p1)] below meth c s₁ [] 0 0 := Stand.of_body Bd
  have e0 : s₁.heap = h0 := by rw [← hh, Bd.state]; rfl
  have N0 := Fr.nil n0
  have pre0 : ∀ t, Steps p.tables e below (s₁.setTop (mkF m 0 #[.val (.int p1)] [])) t → Steps p.tables e below (s₁.setTop (entryFrame m #[(.int p1)] 1)) t := fun t k => castTop (ef_rdg m p1) k
  change Go p.tables e below (fun o U' => ∃ v L, o = .returned v ∧ Q_rdg Z p1 h0 n0 v U'.heap L ∧ FrameEnd s o U' L ({ frames := 0, cells := 0, slots := 0, locals := 0 } : Room).cells ({ frames := 0, cells := 0, slots := 0, locals := 0 } : Room).slots) (s₁.setTop (entryFrame m #[(.int p1)] 1))
  refine Go.on pre0 ?_
  refine Go.on (B := s₁.setTop (mkF m 1 #[.val (.int p1)] [(.int p1)])) (fun t k => XS.iloadN X0.here hx rfl (hb hby d9_0) rfl k) ?_
  refine Go.on (B := s₁.setTop (mkF m 3 #[.val (.int p1)] [(.int (48 : Int32)), (.int p1)])) (fun t k => XS.bipush X0.here hx rfl (hb hby d9_1) k) ?_
  by_cases hc3_1 : p1 < (48 : Int32)
  · refine Go.on (B := s₁.setTop (mkF m 16 #[.val (.int p1)] [])) (fun t k => XS.icmpYes X0.here hx rfl (pc0 := 3) (pc' := 16) rfl (hb hby d9_3) rfl (tlt hc3_1).1 (by decide) (by decide) k) ?_
    refine Go.on (B := s₁.setTop (mkF m 17 #[.val (.int p1)] [(.int (0 : Int32))])) (fun t k => XS.iconst X0.here hx rfl (hb hby d9_16) k) ?_
    obtain ⟨fs, hr, hrun, hended, hW, hsame⟩ := X0.leave (v := some (.int (0 : Int32))) (fun h => by rw [Bd.returns] at h; cases h)
    refine ⟨_, _, ?_, hrun, hended, _, _, rfl, ?_, ⟨_, rfl⟩, hW, hsame.mono (by decide) (by decide)⟩
    · exact retN X0 hx (t := .boolean) Bd.returns (by simp) (hb hby d9_17) hr
    · show Q_rdg Z p1 h0 n0 _ s₁.heap _
      rw [e0]
      exact ⟨⟨_, rfl, Or.inr ⟨rfl, fun q => q.1 hc3_1⟩⟩, N0, rfl⟩
  · refine Go.on (B := s₁.setTop (mkF m 6 #[.val (.int p1)] [])) (fun t k => XS.icmpNo X0.here hx rfl (hb hby d9_3) rfl (flt hc3_1).1 k) ?_
    refine Go.on (B := s₁.setTop (mkF m 7 #[.val (.int p1)] [(.int p1)])) (fun t k => XS.iloadN X0.here hx rfl (hb hby d9_6) rfl k) ?_
    refine Go.on (B := s₁.setTop (mkF m 9 #[.val (.int p1)] [(.int (57 : Int32)), (.int p1)])) (fun t k => XS.bipush X0.here hx rfl (hb hby d9_7) k) ?_
    by_cases hc9_2 : (57 : Int32) < p1
    · refine Go.on (B := s₁.setTop (mkF m 16 #[.val (.int p1)] [])) (fun t k => XS.icmpYes X0.here hx rfl (pc0 := 9) (pc' := 16) rfl (hb hby d9_9) rfl (tlt hc9_2).2.2.1 (by decide) (by decide) k) ?_
      refine Go.on (B := s₁.setTop (mkF m 17 #[.val (.int p1)] [(.int (0 : Int32))])) (fun t k => XS.iconst X0.here hx rfl (hb hby d9_16) k) ?_
      obtain ⟨fs, hr, hrun, hended, hW, hsame⟩ := X0.leave (v := some (.int (0 : Int32))) (fun h => by rw [Bd.returns] at h; cases h)
      refine ⟨_, _, ?_, hrun, hended, _, _, rfl, ?_, ⟨_, rfl⟩, hW, hsame.mono (by decide) (by decide)⟩
      · exact retN X0 hx (t := .boolean) Bd.returns (by simp) (hb hby d9_17) hr
      · show Q_rdg Z p1 h0 n0 _ s₁.heap _
        rw [e0]
        exact ⟨⟨_, rfl, Or.inr ⟨rfl, fun q => q.2 hc9_2⟩⟩, N0, rfl⟩
    · refine Go.on (B := s₁.setTop (mkF m 12 #[.val (.int p1)] [])) (fun t k => XS.icmpNo X0.here hx rfl (hb hby d9_9) rfl (flt hc9_2).2.2.1 k) ?_
      refine Go.on (B := s₁.setTop (mkF m 13 #[.val (.int p1)] [(.int (1 : Int32))])) (fun t k => XS.iconst X0.here hx rfl (hb hby d9_12) k) ?_
      refine Go.on (B := s₁.setTop (mkF m 17 #[.val (.int p1)] [(.int (1 : Int32))])) (fun t k => XS.goto X0.here hx rfl (pc0 := 13) (pc' := 17) rfl (hb hby d9_13) (by decide) (by decide) k) ?_
      obtain ⟨fs, hr, hrun, hended, hW, hsame⟩ := X0.leave (v := some (.int (1 : Int32))) (fun h => by rw [Bd.returns] at h; cases h)
      refine ⟨_, _, ?_, hrun, hended, _, _, rfl, ?_, ⟨_, rfl⟩, hW, hsame.mono (by decide) (by decide)⟩
      · exact retN X0 hx (t := .boolean) Bd.returns (by simp) (hb hby d9_17) hr
      · show Q_rdg Z p1 h0 n0 _ s₁.heap _
        rw [e0]
        exact ⟨⟨_, rfl, Or.inl ⟨rfl, hc3_1, hc9_2⟩⟩, N0, rfl⟩
theorem d8_0 : decode method_4_code 0 = .ok (.iload_n 1, 1) := by decide +kernel
theorem d8_1 : decode method_4_code 1 = .ok (.iload_n 0, 1) := by decide +kernel
theorem d8_2 : decode method_4_code 2 = .ok (.if_icmp .gt 12, 3) := by decide +kernel
theorem d8_5 : decode method_4_code 5 = .ok (.iload_n 0, 1) := by decide +kernel
theorem d8_6 : decode method_4_code 6 = .ok (.iload_n 2, 1) := by decide +kernel
theorem d8_7 : decode method_4_code 7 = .ok (.if_icmp .ge 7, 3) := by decide +kernel
theorem d8_10 : decode method_4_code 10 = .ok (.iconst 1, 1) := by decide +kernel
theorem d8_11 : decode method_4_code 11 = .ok (.goto 4, 3) := by decide +kernel
theorem d8_14 : decode method_4_code 14 = .ok (.iconst 0, 1) := by decide +kernel
theorem d8_15 : decode method_4_code 15 = .ok (.istore 4, 2) := by decide +kernel
theorem d8_17 : decode method_4_code 17 = .ok (.iload 4, 2) := by decide +kernel
theorem d8_19 : decode method_4_code 19 = .ok (.ifCond .eq 10, 3) := by decide +kernel
theorem d8_22 : decode method_4_code 22 = .ok (.iload_n 3, 1) := by decide +kernel
theorem d8_23 : decode method_4_code 23 = .ok (.invokestatic 9, 3) := by decide +kernel
theorem d8_26 : decode method_4_code 26 = .ok (.ifCond .eq 7, 3) := by decide +kernel
theorem d8_29 : decode method_4_code 29 = .ok (.iconst 1, 1) := by decide +kernel
theorem d8_30 : decode method_4_code 30 = .ok (.goto 4, 3) := by decide +kernel
theorem d8_33 : decode method_4_code 33 = .ok (.iconst 0, 1) := by decide +kernel
theorem d8_34 : decode method_4_code 34 = .ok (.ireturn, 1) := by decide +kernel
theorem pd_13 : parseMethodDescriptor "(C)Z" = some ⟨[.char], some .boolean⟩ := by decide +kernel
theorem ef_rok (m : MethodId) (p1 : Int32) (p2 : Int32) (p3 : Int32) (p4 : Int32) : entryFrame m #[(.int p1), (.int p2), (.int p3), (.int p4)] 5 = mkF m 0 #[.val (.int p1), .val (.int p2), .val (.int p3), .val (.int p4), .unset] [] := by first | (simp [entryFrame, mkF, argsToLocals, Value.category]; done) | rfl
def Q_rok (Z : State) (p1 : Int32) (p2 : Int32) (p3 : Int32) (p4 : Int32) (h0 : Heap) (n0 : Nat) (v : Option Value) (h : Heap) (L : List Loc) : Prop := (∃ r : Int32, v = some (.int r) ∧ ((r = (1 : Int32) ∧ (p1 < p2 ∨ ¬ p1 < p3 ∨ own_Dg p4)) ∨ (r = (0 : Int32) ∧ ¬ p1 < p2 ∧ p1 < p3 ∧ ¬ own_Dg p4))) ∧ Fr n0 L ∧ h = h0
set_option maxRecDepth 65536 in
set_option maxHeartbeats 40000000 in
theorem rok (l : Launch) (Z : State) (a0 : Array Value) (hw : ∀ d ∈ tables_1, d.before a0 Z = true) (ws : List Jvm.Cond) (p1 : Int32) (p2 : Int32) (p3 : Int32) (p4 : Int32) (h0 : Heap) (n0 : Nat) (Z0 : n0 ≤ h0.size)  :
    MetFree l (⟨"com/example/encours/encours/engine/MoneyIsDigitsPinLaw", "ok", "(IIIC)Z"⟩ : MethodName) (head1 (Jvm.Cond.code (⟨"com/example/encours/encours/engine/MoneyIsDigitsPinLaw", "ok", "(IIIC)Z"⟩ : MethodName) method_4_code 5 (some .boolean) :: ws) ({ frames := 1, cells := 0, slots := 0, locals := 14 } : Room)) (fun a U => a = #[(.int p1), (.int p2), (.int p3), (.int p4)] ∧ Z.Warmed39 U.vm ∧ U.heap = h0) (fun _ _ _ _ _ => True) (fun _ U o U' => ∃ v L, o = .returned v ∧ Q_rok Z p1 p2 p3 p4 h0 n0 v U'.heap L ∧ FrameEnd U o U' L ({ frames := 1, cells := 0, slots := 0, locals := 14 } : Room).cells ({ frames := 1, cells := 0, slots := 0, locals := 14 } : Room).slots) := by
  refine MetFree.of_bodySF (plainFor_of_name pn_37) hisR ?_
  intro p e s m args below meth c s₁ Bd hml0 hP hK
  obtain ⟨rfl, hZ, hh⟩ := hP
  have hx := Bd.exec
  have hby := Bd.bytes
  have hml : c.maxLocals = 5 := hml0
  have hown : s.vm.findClass "com/example/encours/encours/engine/MoneyIsDigitsPinLaw" = some m.cls := findClass_of_methodNamed Bd.named
  have hnm := (name_of_methodNamed Bd.named Bd.method).1
  have X0 : Stand p l e ({ frames := 1, cells := 0, slots := 0, locals := 14 } : Room) s m #[(.int p1), (.int p2), (.int p3), (.int p4)] below meth c s₁ [] 0 0 := Stand.of_body Bd
  have e0 : s₁.heap = h0 := by rw [← hh, Bd.state]; rfl
  have N0 := Fr.nil n0
  have pre0 : ∀ t, Steps p.tables e below (s₁.setTop (mkF m 0 #[.val (.int p1), .val (.int p2), .val (.int p3), .val (.int p4), .unset] [])) t → Steps p.tables e below (s₁.setTop (entryFrame m #[(.int p1), (.int p2), (.int p3), (.int p4)] 5)) t := fun t k => castTop (ef_rok m p1 p2 p3 p4) k
  change Go p.tables e below (fun o U' => ∃ v L, o = .returned v ∧ Q_rok Z p1 p2 p3 p4 h0 n0 v U'.heap L ∧ FrameEnd s o U' L ({ frames := 1, cells := 0, slots := 0, locals := 14 } : Room).cells ({ frames := 1, cells := 0, slots := 0, locals := 14 } : Room).slots) (s₁.setTop (entryFrame m #[(.int p1), (.int p2), (.int p3), (.int p4)] 5))
  refine Go.on pre0 ?_
  refine Go.on (B := s₁.setTop (mkF m 1 #[.val (.int p1), .val (.int p2), .val (.int p3), .val (.int p4), .unset] [(.int p2)])) (fun t k => XS.iloadN X0.here hx rfl (hb hby d8_0) rfl k) ?_
  refine Go.on (B := s₁.setTop (mkF m 2 #[.val (.int p1), .val (.int p2), .val (.int p3), .val (.int p4), .unset] [(.int p1), (.int p2)])) (fun t k => XS.iloadN X0.here hx rfl (hb hby d8_1) rfl k) ?_
  by_cases hc2_1 : p1 < p2
  · refine Go.on (B := s₁.setTop (mkF m 14 #[.val (.int p1), .val (.int p2), .val (.int p3), .val (.int p4), .unset] [])) (fun t k => XS.icmpYes X0.here hx rfl (pc0 := 2) (pc' := 14) rfl (hb hby d8_2) rfl (tlt hc2_1).2.2.1 (by decide) (by decide) k) ?_
    refine Go.on (B := s₁.setTop (mkF m 15 #[.val (.int p1), .val (.int p2), .val (.int p3), .val (.int p4), .unset] [(.int (0 : Int32))])) (fun t k => XS.iconst X0.here hx rfl (hb hby d8_14) k) ?_
    refine Go.on (B := s₁.setTop (mkF m 17 #[.val (.int p1), .val (.int p2), .val (.int p3), .val (.int p4), .val (.int (0 : Int32))] [])) (fun t k => XS.istore X0.here hx rfl (hb hby d8_15) rfl (l' := #[.val (.int p1), .val (.int p2), .val (.int p3), .val (.int p4), .val (.int (0 : Int32))]) rfl k) ?_
    refine Go.on (B := s₁.setTop (mkF m 19 #[.val (.int p1), .val (.int p2), .val (.int p3), .val (.int p4), .val (.int (0 : Int32))] [(.int (0 : Int32))])) (fun t k => XS.iload X0.here hx rfl (hb hby d8_17) rfl k) ?_
    have hc19_3 : (0 : Int32) = (0 : Int32) := by decide
    refine Go.on (B := s₁.setTop (mkF m 29 #[.val (.int p1), .val (.int p2), .val (.int p3), .val (.int p4), .val (.int (0 : Int32))] [])) (fun t k => XS.ifYes X0.here hx rfl (pc0 := 19) (pc' := 29) rfl (hb hby d8_19) rfl ((if0 _ _).trans (teq hc19_3).1) (by decide) (by decide) k) ?_
    refine Go.on (B := s₁.setTop (mkF m 30 #[.val (.int p1), .val (.int p2), .val (.int p3), .val (.int p4), .val (.int (0 : Int32))] [(.int (1 : Int32))])) (fun t k => XS.iconst X0.here hx rfl (hb hby d8_29) k) ?_
    refine Go.on (B := s₁.setTop (mkF m 34 #[.val (.int p1), .val (.int p2), .val (.int p3), .val (.int p4), .val (.int (0 : Int32))] [(.int (1 : Int32))])) (fun t k => XS.goto X0.here hx rfl (pc0 := 30) (pc' := 34) rfl (hb hby d8_30) (by decide) (by decide) k) ?_
    obtain ⟨fs, hr, hrun, hended, hW, hsame⟩ := X0.leave (v := some (.int (1 : Int32))) (fun h => by rw [Bd.returns] at h; cases h)
    refine ⟨_, _, ?_, hrun, hended, _, _, rfl, ?_, ⟨_, rfl⟩, hW, hsame.mono (by decide) (by decide)⟩
    · exact retN X0 hx (t := .boolean) Bd.returns (by simp) (hb hby d8_34) hr
    · show Q_rok Z p1 p2 p3 p4 h0 n0 _ s₁.heap _
      rw [e0]
      exact ⟨⟨_, rfl, Or.inl ⟨rfl, Or.inl hc2_1⟩⟩, N0, rfl⟩
  · refine Go.on (B := s₁.setTop (mkF m 5 #[.val (.int p1), .val (.int p2), .val (.int p3), .val (.int p4), .unset] [])) (fun t k => XS.icmpNo X0.here hx rfl (hb hby d8_2) rfl (flt hc2_1).2.2.1 k) ?_
    refine Go.on (B := s₁.setTop (mkF m 6 #[.val (.int p1), .val (.int p2), .val (.int p3), .val (.int p4), .unset] [(.int p1)])) (fun t k => XS.iloadN X0.here hx rfl (hb hby d8_5) rfl k) ?_
    refine Go.on (B := s₁.setTop (mkF m 7 #[.val (.int p1), .val (.int p2), .val (.int p3), .val (.int p4), .unset] [(.int p3), (.int p1)])) (fun t k => XS.iloadN X0.here hx rfl (hb hby d8_6) rfl k) ?_
    by_cases hc7_4 : p1 < p3
    · refine Go.on (B := s₁.setTop (mkF m 10 #[.val (.int p1), .val (.int p2), .val (.int p3), .val (.int p4), .unset] [])) (fun t k => XS.icmpNo X0.here hx rfl (hb hby d8_7) rfl (tlt hc7_4).2.1 k) ?_
      refine Go.on (B := s₁.setTop (mkF m 11 #[.val (.int p1), .val (.int p2), .val (.int p3), .val (.int p4), .unset] [(.int (1 : Int32))])) (fun t k => XS.iconst X0.here hx rfl (hb hby d8_10) k) ?_
      refine Go.on (B := s₁.setTop (mkF m 15 #[.val (.int p1), .val (.int p2), .val (.int p3), .val (.int p4), .unset] [(.int (1 : Int32))])) (fun t k => XS.goto X0.here hx rfl (pc0 := 11) (pc' := 15) rfl (hb hby d8_11) (by decide) (by decide) k) ?_
      refine Go.on (B := s₁.setTop (mkF m 17 #[.val (.int p1), .val (.int p2), .val (.int p3), .val (.int p4), .val (.int (1 : Int32))] [])) (fun t k => XS.istore X0.here hx rfl (hb hby d8_15) rfl (l' := #[.val (.int p1), .val (.int p2), .val (.int p3), .val (.int p4), .val (.int (1 : Int32))]) rfl k) ?_
      refine Go.on (B := s₁.setTop (mkF m 19 #[.val (.int p1), .val (.int p2), .val (.int p3), .val (.int p4), .val (.int (1 : Int32))] [(.int (1 : Int32))])) (fun t k => XS.iload X0.here hx rfl (hb hby d8_17) rfl k) ?_
      have hc19_6 : ¬ ((1 : Int32) = (0 : Int32)) := by decide
      refine Go.on (B := s₁.setTop (mkF m 22 #[.val (.int p1), .val (.int p2), .val (.int p3), .val (.int p4), .val (.int (1 : Int32))] [])) (fun t k => XS.ifNo X0.here hx rfl (hb hby d8_19) rfl ((if0 _ _).trans (feq hc19_6).1) k) ?_
      refine Go.on (B := s₁.setTop (mkF m 23 #[.val (.int p1), .val (.int p2), .val (.int p3), .val (.int p4), .val (.int (1 : Int32))] [(.int p4)])) (fun t k => XS.iloadN X0.here hx rfl (hb hby d8_22) rfl k) ?_
      obtain ⟨_, _, ⟨T7, L7, k7, n7⟩, -, X7, ⟨Lc7, hQ7, l7, y7, z7⟩, st7⟩ := Jvm.LawKit.callS X0 hx (y := (⟨"com/example/encours/encours/engine/MoneyIsDigitsPinLaw", "digit", "(C)Z"⟩ : MethodName)) hown (mvT hZ (hw _ (List.mem_of_getElem? (i := 40) rfl))) (mvT hZ (hw _ (List.mem_of_getElem? (i := 41) rfl))) (mvT hZ (hw _ (List.mem_of_getElem? (i := 2) rfl))) (mvT hZ (hw _ (List.mem_of_getElem? (i := 42) rfl))) (by decide) (backOf (W := 0) (rdg l Z a0 hw [] p4 h0 n0 Z0) hZ (hw _ (List.mem_of_getElem? (i := 42) rfl)) (hw _ (List.mem_of_getElem? (i := 2) rfl)) (by decide) (by decide)) (g := (mkF m 23 #[.val (.int p1), .val (.int p2), .val (.int p3), .val (.int p4), .val (.int (1 : Int32))] [(.int p4)])) rfl (by rw [hml]; rfl) (argsL := [(.int p4)]) (rest := []) (lenOf pd_13 rfl) rfl (by show 2 * 0 + _ ≤ _; exact Nat.le_of_eq rfl) (hb hby d8_23) (fun _ _ => ⟨rfl, e0, (by decide : 0 + 0 ≤ _), (by decide : 0 + 0 ≤ _)⟩)
      dsimp only [Pt.U, Pt.locs, Pt.cells, Pt.slots] at X7 l7 y7 z7 st7 hQ7
      subst l7 y7 z7
      rcases hQ7 with ⟨⟨_, rfl, ⟨rfl, hd7⟩ | ⟨rfl, hd7⟩⟩, N7q, e7q⟩
      · have N7 := Fr.app N0 N7q
        refine Go.on (B := T7.setTop (mkF m 26 #[.val (.int p1), .val (.int p2), .val (.int p3), .val (.int p4), .val (.int (1 : Int32))] [(.int (1 : Int32))])) (fun t k => st7 _ k) ?_
        have hc26_8 : ¬ ((1 : Int32) = (0 : Int32)) := by decide
        refine Go.on (B := T7.setTop (mkF m 29 #[.val (.int p1), .val (.int p2), .val (.int p3), .val (.int p4), .val (.int (1 : Int32))] [])) (fun t k => XS.ifNo X7.here hx rfl (hb hby d8_26) rfl ((if0 _ _).trans (feq hc26_8).1) k) ?_
        refine Go.on (B := T7.setTop (mkF m 30 #[.val (.int p1), .val (.int p2), .val (.int p3), .val (.int p4), .val (.int (1 : Int32))] [(.int (1 : Int32))])) (fun t k => XS.iconst X7.here hx rfl (hb hby d8_29) k) ?_
        refine Go.on (B := T7.setTop (mkF m 34 #[.val (.int p1), .val (.int p2), .val (.int p3), .val (.int p4), .val (.int (1 : Int32))] [(.int (1 : Int32))])) (fun t k => XS.goto X7.here hx rfl (pc0 := 30) (pc' := 34) rfl (hb hby d8_30) (by decide) (by decide) k) ?_
        obtain ⟨fs, hr, hrun, hended, hW, hsame⟩ := X7.leave (v := some (.int (1 : Int32))) (fun h => by rw [Bd.returns] at h; cases h)
        refine ⟨_, _, ?_, hrun, hended, _, _, rfl, ?_, ⟨_, rfl⟩, hW, hsame.mono (by decide) (by decide)⟩
        · exact retN X7 hx (t := .boolean) Bd.returns (by simp) (hb hby d8_34) hr
        · show Q_rok Z p1 p2 p3 p4 h0 n0 _ T7.heap _
          rw [e7q]
          exact ⟨⟨_, rfl, Or.inl ⟨rfl, Or.inr (Or.inr hd7)⟩⟩, N7, rfl⟩
      · have N7 := Fr.app N0 N7q
        refine Go.on (B := T7.setTop (mkF m 26 #[.val (.int p1), .val (.int p2), .val (.int p3), .val (.int p4), .val (.int (1 : Int32))] [(.int (0 : Int32))])) (fun t k => st7 _ k) ?_
        have hc26_9 : (0 : Int32) = (0 : Int32) := by decide
        refine Go.on (B := T7.setTop (mkF m 33 #[.val (.int p1), .val (.int p2), .val (.int p3), .val (.int p4), .val (.int (1 : Int32))] [])) (fun t k => XS.ifYes X7.here hx rfl (pc0 := 26) (pc' := 33) rfl (hb hby d8_26) rfl ((if0 _ _).trans (teq hc26_9).1) (by decide) (by decide) k) ?_
        refine Go.on (B := T7.setTop (mkF m 34 #[.val (.int p1), .val (.int p2), .val (.int p3), .val (.int p4), .val (.int (1 : Int32))] [(.int (0 : Int32))])) (fun t k => XS.iconst X7.here hx rfl (hb hby d8_33) k) ?_
        obtain ⟨fs, hr, hrun, hended, hW, hsame⟩ := X7.leave (v := some (.int (0 : Int32))) (fun h => by rw [Bd.returns] at h; cases h)
        refine ⟨_, _, ?_, hrun, hended, _, _, rfl, ?_, ⟨_, rfl⟩, hW, hsame.mono (by decide) (by decide)⟩
        · exact retN X7 hx (t := .boolean) Bd.returns (by simp) (hb hby d8_34) hr
        · show Q_rok Z p1 p2 p3 p4 h0 n0 _ T7.heap _
          rw [e7q]
          exact ⟨⟨_, rfl, Or.inr ⟨rfl, hc2_1, hc7_4, hd7⟩⟩, N7, rfl⟩
    · refine Go.on (B := s₁.setTop (mkF m 14 #[.val (.int p1), .val (.int p2), .val (.int p3), .val (.int p4), .unset] [])) (fun t k => XS.icmpYes X0.here hx rfl (pc0 := 7) (pc' := 14) rfl (hb hby d8_7) rfl (flt hc7_4).2.1 (by decide) (by decide) k) ?_
      refine Go.on (B := s₁.setTop (mkF m 15 #[.val (.int p1), .val (.int p2), .val (.int p3), .val (.int p4), .unset] [(.int (0 : Int32))])) (fun t k => XS.iconst X0.here hx rfl (hb hby d8_14) k) ?_
      refine Go.on (B := s₁.setTop (mkF m 17 #[.val (.int p1), .val (.int p2), .val (.int p3), .val (.int p4), .val (.int (0 : Int32))] [])) (fun t k => XS.istore X0.here hx rfl (hb hby d8_15) rfl (l' := #[.val (.int p1), .val (.int p2), .val (.int p3), .val (.int p4), .val (.int (0 : Int32))]) rfl k) ?_
      refine Go.on (B := s₁.setTop (mkF m 19 #[.val (.int p1), .val (.int p2), .val (.int p3), .val (.int p4), .val (.int (0 : Int32))] [(.int (0 : Int32))])) (fun t k => XS.iload X0.here hx rfl (hb hby d8_17) rfl k) ?_
      have hc19_11 : (0 : Int32) = (0 : Int32) := by decide
      refine Go.on (B := s₁.setTop (mkF m 29 #[.val (.int p1), .val (.int p2), .val (.int p3), .val (.int p4), .val (.int (0 : Int32))] [])) (fun t k => XS.ifYes X0.here hx rfl (pc0 := 19) (pc' := 29) rfl (hb hby d8_19) rfl ((if0 _ _).trans (teq hc19_11).1) (by decide) (by decide) k) ?_
      refine Go.on (B := s₁.setTop (mkF m 30 #[.val (.int p1), .val (.int p2), .val (.int p3), .val (.int p4), .val (.int (0 : Int32))] [(.int (1 : Int32))])) (fun t k => XS.iconst X0.here hx rfl (hb hby d8_29) k) ?_
      refine Go.on (B := s₁.setTop (mkF m 34 #[.val (.int p1), .val (.int p2), .val (.int p3), .val (.int p4), .val (.int (0 : Int32))] [(.int (1 : Int32))])) (fun t k => XS.goto X0.here hx rfl (pc0 := 30) (pc' := 34) rfl (hb hby d8_30) (by decide) (by decide) k) ?_
      obtain ⟨fs, hr, hrun, hended, hW, hsame⟩ := X0.leave (v := some (.int (1 : Int32))) (fun h => by rw [Bd.returns] at h; cases h)
      refine ⟨_, _, ?_, hrun, hended, _, _, rfl, ?_, ⟨_, rfl⟩, hW, hsame.mono (by decide) (by decide)⟩
      · exact retN X0 hx (t := .boolean) Bd.returns (by simp) (hb hby d8_34) hr
      · show Q_rok Z p1 p2 p3 p4 h0 n0 _ s₁.heap _
        rw [e0]
        exact ⟨⟨_, rfl, Or.inl ⟨rfl, Or.inr (Or.inl hc7_4)⟩⟩, N0, rfl⟩
theorem own_nlt {a b : Int32} (h : a < b) : ¬ b < a := fun q => by
  rw [Int32.lt_iff_toInt_lt] at h q
  omega
theorem d10_0 : decode prog_36_method_5_code 0 = .ok (.iload_n 1, 1) := by decide +kernel
theorem d10_1 : decode prog_36_method_5_code 1 = .ok (.iload_n 2, 1) := by decide +kernel
theorem d10_2 : decode prog_36_method_5_code 2 = .ok (.if_icmp .lt 5, 3) := by decide +kernel
theorem d10_5 : decode prog_36_method_5_code 5 = .ok (.iconst 0, 1) := by decide +kernel
theorem d10_6 : decode prog_36_method_5_code 6 = .ok (.ireturn, 1) := by decide +kernel
theorem d10_7 : decode prog_36_method_5_code 7 = .ok (.iload_n 1, 1) := by decide +kernel
theorem d10_8 : decode prog_36_method_5_code 8 = .ok (.istore_n 3, 1) := by decide +kernel
theorem d10_9 : decode prog_36_method_5_code 9 = .ok (.iload_n 3, 1) := by decide +kernel
theorem d10_10 : decode prog_36_method_5_code 10 = .ok (.iload_n 2, 1) := by decide +kernel
theorem d10_11 : decode prog_36_method_5_code 11 = .ok (.if_icmp .ge 32, 3) := by decide +kernel
theorem d10_14 : decode prog_36_method_5_code 14 = .ok (.aload_n 0, 1) := by decide +kernel
theorem d10_15 : decode prog_36_method_5_code 15 = .ok (.iload_n 3, 1) := by decide +kernel
theorem d10_16 : decode prog_36_method_5_code 16 = .ok (.invokevirtual 26, 3) := by decide +kernel
theorem d10_19 : decode prog_36_method_5_code 19 = .ok (.istore 4, 2) := by decide +kernel
theorem d10_21 : decode prog_36_method_5_code 21 = .ok (.iload 4, 2) := by decide +kernel
theorem d10_23 : decode prog_36_method_5_code 23 = .ok (.bipush 48, 2) := by decide +kernel
theorem d10_25 : decode prog_36_method_5_code 25 = .ok (.if_icmp .lt 10, 3) := by decide +kernel
theorem d10_28 : decode prog_36_method_5_code 28 = .ok (.iload 4, 2) := by decide +kernel
theorem d10_30 : decode prog_36_method_5_code 30 = .ok (.bipush 57, 2) := by decide +kernel
theorem d10_32 : decode prog_36_method_5_code 32 = .ok (.if_icmp .le 5, 3) := by decide +kernel
theorem d10_35 : decode prog_36_method_5_code 35 = .ok (.iconst 0, 1) := by decide +kernel
theorem d10_36 : decode prog_36_method_5_code 36 = .ok (.ireturn, 1) := by decide +kernel
theorem d10_37 : decode prog_36_method_5_code 37 = .ok (.iinc 3 1, 3) := by decide +kernel
theorem d10_40 : decode prog_36_method_5_code 40 = .ok (.goto (-31), 3) := by decide +kernel
theorem d10_43 : decode prog_36_method_5_code 43 = .ok (.iconst 1, 1) := by decide +kernel
theorem d10_44 : decode prog_36_method_5_code 44 = .ok (.ireturn, 1) := by decide +kernel
theorem pd_14 : parseMethodDescriptor "(I)C" = some ⟨[.int], some .char⟩ := by decide +kernel
theorem pn_43 : plainName "com/example/encours/encours/engine/Money" = true := by first | (simp [plainName, overriddenIn]; done) | decide +kernel
theorem ef_risL (m : MethodId) (a1 : Addr) (p2 : Int32) (p3 : Int32) : entryFrame m #[(.ref a1), (.int p2), (.int p3)] 5 = mkF m 0 #[.val (.ref a1), .val (.int p2), .val (.int p3), .unset, .unset] [] := by first | (simp [entryFrame, mkF, argsToLocals, Value.category]; done) | rfl
def Q_risL (Z : State) (a1 : Addr) (p2 : Int32) (p3 : Int32) (a4 : Addr) (k4 : ClassId) (c0 c1 c2 c3 : Int32) (G1 : Int32) (G3 : Value) (h0 : Heap) (n0 : Nat) (v : Option Value) (h : Heap) (L : List Loc) : Prop := (∃ r : Int32, v = some (.int r) ∧ ((r = (1 : Int32) ∧ p2 < p3 ∧ ∀ j : Int32, ¬ j < p2 → j < p3 → own_Dg (own_c c0 c1 c2 c3 j)) ∨ (r = (0 : Int32) ∧ (¬ p2 < p3 ∨ ∃ j : Int32, ¬ j < p2 ∧ j < p3 ∧ ¬ own_Dg (own_c c0 c1 c2 c3 j))))) ∧ Fr n0 L ∧ h = h0
set_option maxRecDepth 65536 in
set_option maxHeartbeats 40000000 in
theorem risL (l : Launch) (Z : State) (a0 : Array Value) (hw : ∀ d ∈ tables_1, d.before a0 Z = true) (ws : List Jvm.Cond) (a1 : Addr) (p2 : Int32) (p3 : Int32) (a4 : Addr) (k4 : ClassId) (c0 c1 c2 c3 : Int32) (G1 : Int32) (G3 : Value) (h0 : Heap) (n0 : Nat) (Z0 : n0 ≤ h0.size) (E1 : Exa Z h0 a1 "java/lang/String") (F_cd : Fld Z h0 a1 "java/lang/String" "coder" "B" (.int (0 : Int32))) (F_vl : Fld Z h0 a1 "java/lang/String" "value" "[B" (.ref a4)) (V4 : Arv Z h0 a4 k4 .byte (4 : Int32) [(.int (((c0.toInt8.toInt32)).toInt8.toInt32)), (.int (((c1.toInt8.toInt32)).toInt8.toInt32)), (.int (((c2.toInt8.toInt32)).toInt8.toInt32)), (.int (((c3.toInt8.toInt32)).toInt8.toInt32))] (.int (0 : Int32))) (hc0 : 0 ≤ c0.toInt ∧ c0.toInt ≤ 65535) (hc1 : 0 ≤ c1.toInt ∧ c1.toInt ≤ 65535) (hc2 : 0 ≤ c2.toInt ∧ c2.toInt ≤ 65535) (hc3 : 0 ≤ c3.toInt ∧ c3.toInt ≤ 65535) (hl0 : 0 ≤ c0.toInt ∧ c0.toInt ≤ 255) (hl1 : 0 ≤ c1.toInt ∧ c1.toInt ≤ 255) (hl2 : 0 ≤ c2.toInt ∧ c2.toInt ≤ 255) (hl3 : 0 ≤ c3.toInt ∧ c3.toInt ≤ 255) (hbd : p2 < p3 → 0 ≤ p2.toInt ∧ p3.toInt ≤ 4) (O0 : Old Z n0 h0) (S_cs : Sta Z Z.heap "java/lang/String" "COMPACT_STRINGS" "Z" (.int G1)) (S_fm : Sta Z Z.heap "jdk/internal/util/Preconditions" "SIOOBE_FORMATTER" "Ljava/util/function/BiFunction;" G3) (S_ad : Sta Z Z.heap "java/lang/StringUTF16" "$assertionsDisabled" "Z" (.int (1 : Int32))) (S_hi : Sta Z Z.heap "java/lang/StringUTF16" "HI_BYTE_SHIFT" "I" (.int (0 : Int32))) (S_lo : Sta Z Z.heap "java/lang/StringUTF16" "LO_BYTE_SHIFT" "I" (.int (8 : Int32))) (P5 : ¬ (G1 = (0 : Int32))) (rG3 : G3.isRef = true) :
    MetFree l (⟨"com/example/encours/encours/engine/Money", "isDigits", "(Ljava/lang/String;II)Z"⟩ : MethodName) (head1 (Jvm.Cond.code (⟨"com/example/encours/encours/engine/Money", "isDigits", "(Ljava/lang/String;II)Z"⟩ : MethodName) prog_36_method_5_code 5 (some .boolean) :: ws) ({ frames := 4, cells := 0, slots := 0, locals := 62 } : Room)) (fun a U => a = #[(.ref a1), (.int p2), (.int p3)] ∧ Z.Warmed39 U.vm ∧ U.heap = h0) (fun _ _ _ _ _ => True) (fun _ U o U' => ∃ v L, o = .returned v ∧ Q_risL Z a1 p2 p3 a4 k4 c0 c1 c2 c3 G1 G3 h0 n0 v U'.heap L ∧ FrameEnd U o U' L ({ frames := 4, cells := 0, slots := 0, locals := 62 } : Room).cells ({ frames := 4, cells := 0, slots := 0, locals := 62 } : Room).slots) := by
  refine MetFree.of_bodySF (plainFor_of_name pn_43) hisR ?_
  intro p e s m args below meth c s₁ Bd hml0 hP hK
  obtain ⟨rfl, hZ, hh⟩ := hP
  have hx := Bd.exec
  have hby := Bd.bytes
  have hml : c.maxLocals = 5 := hml0
  have hown : s.vm.findClass "com/example/encours/encours/engine/Money" = some m.cls := findClass_of_methodNamed Bd.named
  have hnm := (name_of_methodNamed Bd.named Bd.method).1
  have X0 : Stand p l e ({ frames := 4, cells := 0, slots := 0, locals := 62 } : Room) s m #[(.ref a1), (.int p2), (.int p3)] below meth c s₁ [] 0 0 := Stand.of_body Bd
  have e0 : s₁.heap = h0 := by rw [← hh, Bd.state]; rfl
  have N0 := Fr.nil n0
  have pre0 : ∀ t, Steps p.tables e below (s₁.setTop (mkF m 0 #[.val (.ref a1), .val (.int p2), .val (.int p3), .unset, .unset] [])) t → Steps p.tables e below (s₁.setTop (entryFrame m #[(.ref a1), (.int p2), (.int p3)] 5)) t := fun t k => castTop (ef_risL m a1 p2 p3) k
  change Go p.tables e below (fun o U' => ∃ v L, o = .returned v ∧ Q_risL Z a1 p2 p3 a4 k4 c0 c1 c2 c3 G1 G3 h0 n0 v U'.heap L ∧ FrameEnd s o U' L ({ frames := 4, cells := 0, slots := 0, locals := 62 } : Room).cells ({ frames := 4, cells := 0, slots := 0, locals := 62 } : Room).slots) (s₁.setTop (entryFrame m #[(.ref a1), (.int p2), (.int p3)] 5))
  refine Go.on pre0 ?_
  refine Go.on (B := s₁.setTop (mkF m 1 #[.val (.ref a1), .val (.int p2), .val (.int p3), .unset, .unset] [(.int p2)])) (fun t k => XS.iloadN X0.here hx rfl (hb hby d10_0) rfl k) ?_
  refine Go.on (B := s₁.setTop (mkF m 2 #[.val (.ref a1), .val (.int p2), .val (.int p3), .unset, .unset] [(.int p3), (.int p2)])) (fun t k => XS.iloadN X0.here hx rfl (hb hby d10_1) rfl k) ?_
  by_cases hc2_1 : p2 < p3
  · refine Go.on (B := s₁.setTop (mkF m 7 #[.val (.ref a1), .val (.int p2), .val (.int p3), .unset, .unset] [])) (fun t k => XS.icmpYes X0.here hx rfl (pc0 := 2) (pc' := 7) rfl (hb hby d10_2) rfl (tlt hc2_1).1 (by decide) (by decide) k) ?_
    refine Go.on (B := s₁.setTop (mkF m 8 #[.val (.ref a1), .val (.int p2), .val (.int p3), .unset, .unset] [(.int p2)])) (fun t k => XS.iloadN X0.here hx rfl (hb hby d10_7) rfl k) ?_
    refine Go.on (B := s₁.setTop (mkF m 9 #[.val (.ref a1), .val (.int p2), .val (.int p3), .val (.int p2), .unset] [])) (fun t k => XS.istoreN X0.here hx rfl (hb hby d10_8) rfl (l' := #[.val (.ref a1), .val (.int p2), .val (.int p3), .val (.int p2), .unset]) rfl k) ?_
    have loop : ∀ (k : Nat) (i : Int32) (sl : Slot) (T : State) (L : List Loc), (sl = .unset ∨ ∃ z : Int32, sl = .val (.int z)) → Stand p l e ({ frames := 4, cells := 0, slots := 0, locals := 62 } : Room) s m #[(.ref a1), (.int p2), (.int p3)] below meth c T L 0 0 → T.heap = h0 → Fr n0 L → ¬ i < p2 → ¬ p3 < i → (∀ j : Int32, ¬ j < p2 → j < i → own_Dg (own_c c0 c1 c2 c3 j)) → (p3.toInt - i.toInt).toNat = k → Go p.tables e below (fun o U' => ∃ v L, o = .returned v ∧ Q_risL Z a1 p2 p3 a4 k4 c0 c1 c2 c3 G1 G3 h0 n0 v U'.heap L ∧ FrameEnd s o U' L ({ frames := 4, cells := 0, slots := 0, locals := 62 } : Room).cells ({ frames := 4, cells := 0, slots := 0, locals := 62 } : Room).slots) (T.setTop (mkF m 9 #[.val (.ref a1), .val (.int p2), .val (.int p3), .val (.int i), sl] [])) := by
      intro k
      induction k with
      | zero =>
        intro i sl T L hsl X eT N hlo hhi hd hk
        have hend := own_end hk
        refine Go.on (B := T.setTop (mkF m 10 #[.val (.ref a1), .val (.int p2), .val (.int p3), .val (.int i), sl] [(.int i)])) (fun t k => XS.iloadN X.here hx rfl (hb hby d10_9) rfl k) ?_
        refine Go.on (B := T.setTop (mkF m 11 #[.val (.ref a1), .val (.int p2), .val (.int p3), .val (.int i), sl] [(.int p3), (.int i)])) (fun t k => XS.iloadN X.here hx rfl (hb hby d10_10) rfl k) ?_
        have hc11_3 : ¬ (i < p3) := hend
        refine Go.on (B := T.setTop (mkF m 43 #[.val (.ref a1), .val (.int p2), .val (.int p3), .val (.int i), sl] [])) (fun t k => XS.icmpYes X.here hx rfl (pc0 := 11) (pc' := 43) rfl (hb hby d10_11) rfl (flt hc11_3).2.1 (by decide) (by decide) k) ?_
        refine Go.on (B := T.setTop (mkF m 44 #[.val (.ref a1), .val (.int p2), .val (.int p3), .val (.int i), sl] [(.int (1 : Int32))])) (fun t k => XS.iconst X.here hx rfl (hb hby d10_43) k) ?_
        obtain ⟨fs, hr, hrun, hended, hW, hsame⟩ := X.leave (v := some (.int (1 : Int32))) (fun h => by rw [Bd.returns] at h; cases h)
        refine ⟨_, _, ?_, hrun, hended, _, _, rfl, ?_, ⟨_, rfl⟩, hW, hsame.mono (by decide) (by decide)⟩
        · exact retN X hx (t := .boolean) Bd.returns (by simp) (hb hby d10_44) hr
        · show Q_risL Z a1 p2 p3 a4 k4 c0 c1 c2 c3 G1 G3 h0 n0 _ T.heap _
          rw [eT]
          exact ⟨⟨_, rfl, Or.inl ⟨rfl, hc2_1, fun j h1 h2 => hd j h1 (own_sub h2 hhi hend)⟩⟩, N, rfl⟩
      | succ k ih =>
        intro i sl T L hsl X eT N hlo hhi hd hk
        have hlt := own_more hk
        have hix := own_idx (hbd hc2_1) hlo hlt
        rcases hsl with rfl | ⟨z0, rfl⟩
        · refine Go.on (B := T.setTop (mkF m 10 #[.val (.ref a1), .val (.int p2), .val (.int p3), .val (.int i), .unset] [(.int i)])) (fun t k => XS.iloadN X.here hx rfl (hb hby d10_9) rfl k) ?_
          refine Go.on (B := T.setTop (mkF m 11 #[.val (.ref a1), .val (.int p2), .val (.int p3), .val (.int i), .unset] [(.int p3), (.int i)])) (fun t k => XS.iloadN X.here hx rfl (hb hby d10_10) rfl k) ?_
          have hc11_4 : i < p3 := hlt
          refine Go.on (B := T.setTop (mkF m 14 #[.val (.ref a1), .val (.int p2), .val (.int p3), .val (.int i), .unset] [])) (fun t k => XS.icmpNo X.here hx rfl (hb hby d10_11) rfl (tlt hc11_4).2.1 k) ?_
          refine Go.on (B := T.setTop (mkF m 15 #[.val (.ref a1), .val (.int p2), .val (.int p3), .val (.int i), .unset] [(.ref a1)])) (fun t k => XS.aloadN X.here hx rfl (hb hby d10_14) rfl rfl k) ?_
          refine Go.on (B := T.setTop (mkF m 16 #[.val (.ref a1), .val (.int p2), .val (.int p3), .val (.int i), .unset] [(.int i), (.ref a1)])) (fun t k => XS.iloadN X.here hx rfl (hb hby d10_15) rfl k) ?_
          obtain ⟨cq5, kq5, q5a, q5b, q5c⟩ := isOf hZ eT E1
          obtain ⟨_, _, ⟨T5, L5, k5, n5⟩, -, X5, ⟨Lc5, hQ5, l5, y5, z5⟩, st5⟩ := X.virtualBack hx (y := (⟨"java/lang/String", "charAt", "(I)C"⟩ : MethodName)) (z := (⟨"java/lang/String", "charAt", "(I)C"⟩ : MethodName)) hown (mvT hZ (hw _ (List.mem_of_getElem? (i := 47) rfl))) (mvT hZ (hw _ (List.mem_of_getElem? (i := 48) rfl))) (notFace_of_selects (args := #[]) (mvT hZ (hw _ (List.mem_of_getElem? (i := 50) rfl)))) (mvT hZ (hw _ (List.mem_of_getElem? (i := 50) rfl))) (mvT hZ (hw _ (List.mem_of_getElem? (i := 49) rfl))) (by decide) (backOf (W := 0) (rchL l Z a0 hw [] a1 i a4 k4 (4 : Int32) [(.int (((c0.toInt8.toInt32)).toInt8.toInt32)), (.int (((c1.toInt8.toInt32)).toInt8.toInt32)), (.int (((c2.toInt8.toInt32)).toInt8.toInt32)), (.int (((c3.toInt8.toInt32)).toInt8.toInt32))] ((((own_c c0 c1 c2 c3 i).toInt8.toInt32)).toInt8.toInt32) (own_c c0 c1 c2 c3 i) G1 G3 h0 n0 Z0 E1 F_cd F_vl V4 hix (own_get4 c0 c1 c2 c3 i hix) (own_lat _ (own_crng c0 c1 c2 c3 i 255 hl0 hl1 hl2 hl3)) (own_narc _ (own_crng c0 c1 c2 c3 i 65535 hc0 hc1 hc2 hc3)) O0 S_cs S_fm P5 rG3) hZ (hw _ (List.mem_of_getElem? (i := 51) rfl)) (hw _ (List.mem_of_getElem? (i := 9) rfl)) (by decide) (by decide)) q5a q5c (g := (mkF m 16 #[.val (.ref a1), .val (.int p2), .val (.int p3), .val (.int i), .unset] [(.int i), (.ref a1)])) rfl (by rw [hml]; rfl) (Steps.refl _) (argsL := [(.int i)]) (rest := []) (lenOf pd_14 rfl) rfl (by show 2 * 0 + _ ≤ _; exact Nat.le_of_eq rfl) (hb hby d10_16) (fun _ _ => ⟨rfl, eT, (by decide : 0 + 0 ≤ _), (by decide : 0 + 0 ≤ _)⟩)
          dsimp only [Pt.U, Pt.locs, Pt.cells, Pt.slots] at X5 l5 y5 z5 st5 hQ5
          subst l5 y5 z5
          obtain ⟨rfl, N5q, e5q⟩ := hQ5
          have N5 := Fr.app N N5q
          refine Go.on (B := T5.setTop (mkF m 19 #[.val (.ref a1), .val (.int p2), .val (.int p3), .val (.int i), .unset] [(.int (own_c c0 c1 c2 c3 i))])) (fun t k => st5.trans k) ?_
          generalize hv19_6 : (own_c c0 c1 c2 c3 i) = v19_6
          refine Go.on (B := T5.setTop (mkF m 21 #[.val (.ref a1), .val (.int p2), .val (.int p3), .val (.int i), .val (.int v19_6)] [])) (fun t k => XS.istore X5.here hx rfl (hb hby d10_19) rfl (l' := #[.val (.ref a1), .val (.int p2), .val (.int p3), .val (.int i), .val (.int v19_6)]) rfl k) ?_
          refine Go.on (B := T5.setTop (mkF m 23 #[.val (.ref a1), .val (.int p2), .val (.int p3), .val (.int i), .val (.int v19_6)] [(.int v19_6)])) (fun t k => XS.iload X5.here hx rfl (hb hby d10_21) rfl k) ?_
          refine Go.on (B := T5.setTop (mkF m 25 #[.val (.ref a1), .val (.int p2), .val (.int p3), .val (.int i), .val (.int v19_6)] [(.int (48 : Int32)), (.int v19_6)])) (fun t k => XS.bipush X5.here hx rfl (hb hby d10_23) k) ?_
          by_cases hc25_7 : v19_6 < (48 : Int32)
          · refine Go.on (B := T5.setTop (mkF m 35 #[.val (.ref a1), .val (.int p2), .val (.int p3), .val (.int i), .val (.int v19_6)] [])) (fun t k => XS.icmpYes X5.here hx rfl (pc0 := 25) (pc' := 35) rfl (hb hby d10_25) rfl (tlt hc25_7).1 (by decide) (by decide) k) ?_
            refine Go.on (B := T5.setTop (mkF m 36 #[.val (.ref a1), .val (.int p2), .val (.int p3), .val (.int i), .val (.int v19_6)] [(.int (0 : Int32))])) (fun t k => XS.iconst X5.here hx rfl (hb hby d10_35) k) ?_
            obtain ⟨fs, hr, hrun, hended, hW, hsame⟩ := X5.leave (v := some (.int (0 : Int32))) (fun h => by rw [Bd.returns] at h; cases h)
            refine ⟨_, _, ?_, hrun, hended, _, _, rfl, ?_, ⟨_, rfl⟩, hW, hsame.mono (by decide) (by decide)⟩
            · exact retN X5 hx (t := .boolean) Bd.returns (by simp) (hb hby d10_36) hr
            · show Q_risL Z a1 p2 p3 a4 k4 c0 c1 c2 c3 G1 G3 h0 n0 _ T5.heap _
              rw [e5q]
              exact ⟨⟨_, rfl, Or.inr ⟨rfl, Or.inr ⟨i, hlo, hlt, fun q => by rw [hv19_6] at q; exact q.1 hc25_7⟩⟩⟩, N5, rfl⟩
          · refine Go.on (B := T5.setTop (mkF m 28 #[.val (.ref a1), .val (.int p2), .val (.int p3), .val (.int i), .val (.int v19_6)] [])) (fun t k => XS.icmpNo X5.here hx rfl (hb hby d10_25) rfl (flt hc25_7).1 k) ?_
            refine Go.on (B := T5.setTop (mkF m 30 #[.val (.ref a1), .val (.int p2), .val (.int p3), .val (.int i), .val (.int v19_6)] [(.int v19_6)])) (fun t k => XS.iload X5.here hx rfl (hb hby d10_28) rfl k) ?_
            refine Go.on (B := T5.setTop (mkF m 32 #[.val (.ref a1), .val (.int p2), .val (.int p3), .val (.int i), .val (.int v19_6)] [(.int (57 : Int32)), (.int v19_6)])) (fun t k => XS.bipush X5.here hx rfl (hb hby d10_30) k) ?_
            by_cases hc32_8 : (57 : Int32) < v19_6
            · refine Go.on (B := T5.setTop (mkF m 35 #[.val (.ref a1), .val (.int p2), .val (.int p3), .val (.int i), .val (.int v19_6)] [])) (fun t k => XS.icmpNo X5.here hx rfl (hb hby d10_32) rfl (tlt hc32_8).2.2.2 k) ?_
              refine Go.on (B := T5.setTop (mkF m 36 #[.val (.ref a1), .val (.int p2), .val (.int p3), .val (.int i), .val (.int v19_6)] [(.int (0 : Int32))])) (fun t k => XS.iconst X5.here hx rfl (hb hby d10_35) k) ?_
              obtain ⟨fs, hr, hrun, hended, hW, hsame⟩ := X5.leave (v := some (.int (0 : Int32))) (fun h => by rw [Bd.returns] at h; cases h)
              refine ⟨_, _, ?_, hrun, hended, _, _, rfl, ?_, ⟨_, rfl⟩, hW, hsame.mono (by decide) (by decide)⟩
              · exact retN X5 hx (t := .boolean) Bd.returns (by simp) (hb hby d10_36) hr
              · show Q_risL Z a1 p2 p3 a4 k4 c0 c1 c2 c3 G1 G3 h0 n0 _ T5.heap _
                rw [e5q]
                exact ⟨⟨_, rfl, Or.inr ⟨rfl, Or.inr ⟨i, hlo, hlt, fun q => by rw [hv19_6] at q; exact q.2 hc32_8⟩⟩⟩, N5, rfl⟩
            · refine Go.on (B := T5.setTop (mkF m 37 #[.val (.ref a1), .val (.int p2), .val (.int p3), .val (.int i), .val (.int v19_6)] [])) (fun t k => XS.icmpYes X5.here hx rfl (pc0 := 32) (pc' := 37) rfl (hb hby d10_32) rfl (flt hc32_8).2.2.2 (by decide) (by decide) k) ?_
              refine Go.on (B := T5.setTop (mkF m 40 #[.val (.ref a1), .val (.int p2), .val (.int p3), .val (.int (i + (1 : Int32))), .val (.int v19_6)] [])) (fun t k => XS.iinc X5.here hx rfl (hb hby d10_37) rfl (l' := #[.val (.ref a1), .val (.int p2), .val (.int p3), .val (.int (i + (1 : Int32))), .val (.int v19_6)]) rfl k) ?_
              refine Go.on (B := T5.setTop (mkF m 9 #[.val (.ref a1), .val (.int p2), .val (.int p3), .val (.int (i + (1 : Int32))), .val (.int v19_6)] [])) (fun t k => XS.goto X5.here hx rfl (pc0 := 40) (pc' := 9) rfl (hb hby d10_40) (by decide) (by decide) k) ?_
              have hnx := own_next hlo hlt hk
              exact ih (i + (1 : Int32)) (.val (.int v19_6)) T5 _ (Or.inr ⟨_, rfl⟩) X5 e5q N5 hnx.1 hnx.2.1 (own_ext hlt hd (by rw [hv19_6]; exact ⟨hc25_7, hc32_8⟩)) hnx.2.2
        · refine Go.on (B := T.setTop (mkF m 10 #[.val (.ref a1), .val (.int p2), .val (.int p3), .val (.int i), .val (.int z0)] [(.int i)])) (fun t k => XS.iloadN X.here hx rfl (hb hby d10_9) rfl k) ?_
          refine Go.on (B := T.setTop (mkF m 11 #[.val (.ref a1), .val (.int p2), .val (.int p3), .val (.int i), .val (.int z0)] [(.int p3), (.int i)])) (fun t k => XS.iloadN X.here hx rfl (hb hby d10_10) rfl k) ?_
          have hc11_9 : i < p3 := hlt
          refine Go.on (B := T.setTop (mkF m 14 #[.val (.ref a1), .val (.int p2), .val (.int p3), .val (.int i), .val (.int z0)] [])) (fun t k => XS.icmpNo X.here hx rfl (hb hby d10_11) rfl (tlt hc11_9).2.1 k) ?_
          refine Go.on (B := T.setTop (mkF m 15 #[.val (.ref a1), .val (.int p2), .val (.int p3), .val (.int i), .val (.int z0)] [(.ref a1)])) (fun t k => XS.aloadN X.here hx rfl (hb hby d10_14) rfl rfl k) ?_
          refine Go.on (B := T.setTop (mkF m 16 #[.val (.ref a1), .val (.int p2), .val (.int p3), .val (.int i), .val (.int z0)] [(.int i), (.ref a1)])) (fun t k => XS.iloadN X.here hx rfl (hb hby d10_15) rfl k) ?_
          obtain ⟨cq10, kq10, q10a, q10b, q10c⟩ := isOf hZ eT E1
          obtain ⟨_, _, ⟨T10, L10, k10, n10⟩, -, X10, ⟨Lc10, hQ10, l10, y10, z10⟩, st10⟩ := X.virtualBack hx (y := (⟨"java/lang/String", "charAt", "(I)C"⟩ : MethodName)) (z := (⟨"java/lang/String", "charAt", "(I)C"⟩ : MethodName)) hown (mvT hZ (hw _ (List.mem_of_getElem? (i := 47) rfl))) (mvT hZ (hw _ (List.mem_of_getElem? (i := 48) rfl))) (notFace_of_selects (args := #[]) (mvT hZ (hw _ (List.mem_of_getElem? (i := 50) rfl)))) (mvT hZ (hw _ (List.mem_of_getElem? (i := 50) rfl))) (mvT hZ (hw _ (List.mem_of_getElem? (i := 49) rfl))) (by decide) (backOf (W := 0) (rchL l Z a0 hw [] a1 i a4 k4 (4 : Int32) [(.int (((c0.toInt8.toInt32)).toInt8.toInt32)), (.int (((c1.toInt8.toInt32)).toInt8.toInt32)), (.int (((c2.toInt8.toInt32)).toInt8.toInt32)), (.int (((c3.toInt8.toInt32)).toInt8.toInt32))] ((((own_c c0 c1 c2 c3 i).toInt8.toInt32)).toInt8.toInt32) (own_c c0 c1 c2 c3 i) G1 G3 h0 n0 Z0 E1 F_cd F_vl V4 hix (own_get4 c0 c1 c2 c3 i hix) (own_lat _ (own_crng c0 c1 c2 c3 i 255 hl0 hl1 hl2 hl3)) (own_narc _ (own_crng c0 c1 c2 c3 i 65535 hc0 hc1 hc2 hc3)) O0 S_cs S_fm P5 rG3) hZ (hw _ (List.mem_of_getElem? (i := 51) rfl)) (hw _ (List.mem_of_getElem? (i := 9) rfl)) (by decide) (by decide)) q10a q10c (g := (mkF m 16 #[.val (.ref a1), .val (.int p2), .val (.int p3), .val (.int i), .val (.int z0)] [(.int i), (.ref a1)])) rfl (by rw [hml]; rfl) (Steps.refl _) (argsL := [(.int i)]) (rest := []) (lenOf pd_14 rfl) rfl (by show 2 * 0 + _ ≤ _; exact Nat.le_of_eq rfl) (hb hby d10_16) (fun _ _ => ⟨rfl, eT, (by decide : 0 + 0 ≤ _), (by decide : 0 + 0 ≤ _)⟩)
          dsimp only [Pt.U, Pt.locs, Pt.cells, Pt.slots] at X10 l10 y10 z10 st10 hQ10
          subst l10 y10 z10
          obtain ⟨rfl, N10q, e10q⟩ := hQ10
          have N10 := Fr.app N N10q
          refine Go.on (B := T10.setTop (mkF m 19 #[.val (.ref a1), .val (.int p2), .val (.int p3), .val (.int i), .val (.int z0)] [(.int (own_c c0 c1 c2 c3 i))])) (fun t k => st10.trans k) ?_
          generalize hv19_11 : (own_c c0 c1 c2 c3 i) = v19_11
          refine Go.on (B := T10.setTop (mkF m 21 #[.val (.ref a1), .val (.int p2), .val (.int p3), .val (.int i), .val (.int v19_11)] [])) (fun t k => XS.istore X10.here hx rfl (hb hby d10_19) rfl (l' := #[.val (.ref a1), .val (.int p2), .val (.int p3), .val (.int i), .val (.int v19_11)]) rfl k) ?_
          refine Go.on (B := T10.setTop (mkF m 23 #[.val (.ref a1), .val (.int p2), .val (.int p3), .val (.int i), .val (.int v19_11)] [(.int v19_11)])) (fun t k => XS.iload X10.here hx rfl (hb hby d10_21) rfl k) ?_
          refine Go.on (B := T10.setTop (mkF m 25 #[.val (.ref a1), .val (.int p2), .val (.int p3), .val (.int i), .val (.int v19_11)] [(.int (48 : Int32)), (.int v19_11)])) (fun t k => XS.bipush X10.here hx rfl (hb hby d10_23) k) ?_
          by_cases hc25_12 : v19_11 < (48 : Int32)
          · refine Go.on (B := T10.setTop (mkF m 35 #[.val (.ref a1), .val (.int p2), .val (.int p3), .val (.int i), .val (.int v19_11)] [])) (fun t k => XS.icmpYes X10.here hx rfl (pc0 := 25) (pc' := 35) rfl (hb hby d10_25) rfl (tlt hc25_12).1 (by decide) (by decide) k) ?_
            refine Go.on (B := T10.setTop (mkF m 36 #[.val (.ref a1), .val (.int p2), .val (.int p3), .val (.int i), .val (.int v19_11)] [(.int (0 : Int32))])) (fun t k => XS.iconst X10.here hx rfl (hb hby d10_35) k) ?_
            obtain ⟨fs, hr, hrun, hended, hW, hsame⟩ := X10.leave (v := some (.int (0 : Int32))) (fun h => by rw [Bd.returns] at h; cases h)
            refine ⟨_, _, ?_, hrun, hended, _, _, rfl, ?_, ⟨_, rfl⟩, hW, hsame.mono (by decide) (by decide)⟩
            · exact retN X10 hx (t := .boolean) Bd.returns (by simp) (hb hby d10_36) hr
            · show Q_risL Z a1 p2 p3 a4 k4 c0 c1 c2 c3 G1 G3 h0 n0 _ T10.heap _
              rw [e10q]
              exact ⟨⟨_, rfl, Or.inr ⟨rfl, Or.inr ⟨i, hlo, hlt, fun q => by rw [hv19_11] at q; exact q.1 hc25_12⟩⟩⟩, N10, rfl⟩
          · refine Go.on (B := T10.setTop (mkF m 28 #[.val (.ref a1), .val (.int p2), .val (.int p3), .val (.int i), .val (.int v19_11)] [])) (fun t k => XS.icmpNo X10.here hx rfl (hb hby d10_25) rfl (flt hc25_12).1 k) ?_
            refine Go.on (B := T10.setTop (mkF m 30 #[.val (.ref a1), .val (.int p2), .val (.int p3), .val (.int i), .val (.int v19_11)] [(.int v19_11)])) (fun t k => XS.iload X10.here hx rfl (hb hby d10_28) rfl k) ?_
            refine Go.on (B := T10.setTop (mkF m 32 #[.val (.ref a1), .val (.int p2), .val (.int p3), .val (.int i), .val (.int v19_11)] [(.int (57 : Int32)), (.int v19_11)])) (fun t k => XS.bipush X10.here hx rfl (hb hby d10_30) k) ?_
            by_cases hc32_13 : (57 : Int32) < v19_11
            · refine Go.on (B := T10.setTop (mkF m 35 #[.val (.ref a1), .val (.int p2), .val (.int p3), .val (.int i), .val (.int v19_11)] [])) (fun t k => XS.icmpNo X10.here hx rfl (hb hby d10_32) rfl (tlt hc32_13).2.2.2 k) ?_
              refine Go.on (B := T10.setTop (mkF m 36 #[.val (.ref a1), .val (.int p2), .val (.int p3), .val (.int i), .val (.int v19_11)] [(.int (0 : Int32))])) (fun t k => XS.iconst X10.here hx rfl (hb hby d10_35) k) ?_
              obtain ⟨fs, hr, hrun, hended, hW, hsame⟩ := X10.leave (v := some (.int (0 : Int32))) (fun h => by rw [Bd.returns] at h; cases h)
              refine ⟨_, _, ?_, hrun, hended, _, _, rfl, ?_, ⟨_, rfl⟩, hW, hsame.mono (by decide) (by decide)⟩
              · exact retN X10 hx (t := .boolean) Bd.returns (by simp) (hb hby d10_36) hr
              · show Q_risL Z a1 p2 p3 a4 k4 c0 c1 c2 c3 G1 G3 h0 n0 _ T10.heap _
                rw [e10q]
                exact ⟨⟨_, rfl, Or.inr ⟨rfl, Or.inr ⟨i, hlo, hlt, fun q => by rw [hv19_11] at q; exact q.2 hc32_13⟩⟩⟩, N10, rfl⟩
            · refine Go.on (B := T10.setTop (mkF m 37 #[.val (.ref a1), .val (.int p2), .val (.int p3), .val (.int i), .val (.int v19_11)] [])) (fun t k => XS.icmpYes X10.here hx rfl (pc0 := 32) (pc' := 37) rfl (hb hby d10_32) rfl (flt hc32_13).2.2.2 (by decide) (by decide) k) ?_
              refine Go.on (B := T10.setTop (mkF m 40 #[.val (.ref a1), .val (.int p2), .val (.int p3), .val (.int (i + (1 : Int32))), .val (.int v19_11)] [])) (fun t k => XS.iinc X10.here hx rfl (hb hby d10_37) rfl (l' := #[.val (.ref a1), .val (.int p2), .val (.int p3), .val (.int (i + (1 : Int32))), .val (.int v19_11)]) rfl k) ?_
              refine Go.on (B := T10.setTop (mkF m 9 #[.val (.ref a1), .val (.int p2), .val (.int p3), .val (.int (i + (1 : Int32))), .val (.int v19_11)] [])) (fun t k => XS.goto X10.here hx rfl (pc0 := 40) (pc' := 9) rfl (hb hby d10_40) (by decide) (by decide) k) ?_
              have hnx := own_next hlo hlt hk
              exact ih (i + (1 : Int32)) (.val (.int v19_11)) T10 _ (Or.inr ⟨_, rfl⟩) X10 e10q N10 hnx.1 hnx.2.1 (own_ext hlt hd (by rw [hv19_11]; exact ⟨hc25_12, hc32_13⟩)) hnx.2.2
    exact loop _ p2 .unset s₁ _ (Or.inl rfl) X0 e0 N0 (Int32.lt_irrefl) (own_nlt hc2_1) (fun j h1 h2 => absurd h2 h1) rfl
  · refine Go.on (B := s₁.setTop (mkF m 5 #[.val (.ref a1), .val (.int p2), .val (.int p3), .unset, .unset] [])) (fun t k => XS.icmpNo X0.here hx rfl (hb hby d10_2) rfl (flt hc2_1).1 k) ?_
    refine Go.on (B := s₁.setTop (mkF m 6 #[.val (.ref a1), .val (.int p2), .val (.int p3), .unset, .unset] [(.int (0 : Int32))])) (fun t k => XS.iconst X0.here hx rfl (hb hby d10_5) k) ?_
    obtain ⟨fs, hr, hrun, hended, hW, hsame⟩ := X0.leave (v := some (.int (0 : Int32))) (fun h => by rw [Bd.returns] at h; cases h)
    refine ⟨_, _, ?_, hrun, hended, _, _, rfl, ?_, ⟨_, rfl⟩, hW, hsame.mono (by decide) (by decide)⟩
    · exact retN X0 hx (t := .boolean) Bd.returns (by simp) (hb hby d10_6) hr
    · show Q_risL Z a1 p2 p3 a4 k4 c0 c1 c2 c3 G1 G3 h0 n0 _ s₁.heap _
      rw [e0]
      exact ⟨⟨_, rfl, Or.inr ⟨rfl, Or.inl hc2_1⟩⟩, N0, rfl⟩
theorem ef_risU (m : MethodId) (a1 : Addr) (p2 : Int32) (p3 : Int32) : entryFrame m #[(.ref a1), (.int p2), (.int p3)] 5 = mkF m 0 #[.val (.ref a1), .val (.int p2), .val (.int p3), .unset, .unset] [] := by first | (simp [entryFrame, mkF, argsToLocals, Value.category]; done) | rfl
def Q_risU (Z : State) (a1 : Addr) (p2 : Int32) (p3 : Int32) (a4 : Addr) (k4 : ClassId) (c0 c1 c2 c3 : Int32) (G1 : Int32) (G3 : Value) (h0 : Heap) (n0 : Nat) (v : Option Value) (h : Heap) (L : List Loc) : Prop := (∃ r : Int32, v = some (.int r) ∧ ((r = (1 : Int32) ∧ p2 < p3 ∧ ∀ j : Int32, ¬ j < p2 → j < p3 → own_Dg (own_c c0 c1 c2 c3 j)) ∨ (r = (0 : Int32) ∧ (¬ p2 < p3 ∨ ∃ j : Int32, ¬ j < p2 ∧ j < p3 ∧ ¬ own_Dg (own_c c0 c1 c2 c3 j))))) ∧ Fr n0 L ∧ h = h0
set_option maxRecDepth 65536 in
set_option maxHeartbeats 40000000 in
theorem risU (l : Launch) (Z : State) (a0 : Array Value) (hw : ∀ d ∈ tables_1, d.before a0 Z = true) (ws : List Jvm.Cond) (a1 : Addr) (p2 : Int32) (p3 : Int32) (a4 : Addr) (k4 : ClassId) (c0 c1 c2 c3 : Int32) (G1 : Int32) (G3 : Value) (h0 : Heap) (n0 : Nat) (Z0 : n0 ≤ h0.size) (E1 : Exa Z h0 a1 "java/lang/String") (F_cd : Fld Z h0 a1 "java/lang/String" "coder" "B" (.int (1 : Int32))) (F_vl : Fld Z h0 a1 "java/lang/String" "value" "[B" (.ref a4)) (V4 : Arv Z h0 a4 k4 .byte (8 : Int32) [(.int ((((c0 >>> ((0 : Int32) &&& 31))).toInt8.toInt32).toInt8.toInt32)), (.int ((((c0 >>> ((8 : Int32) &&& 31))).toInt8.toInt32).toInt8.toInt32)), (.int ((((c1 >>> ((0 : Int32) &&& 31))).toInt8.toInt32).toInt8.toInt32)), (.int ((((c1 >>> ((8 : Int32) &&& 31))).toInt8.toInt32).toInt8.toInt32)), (.int ((((c2 >>> ((0 : Int32) &&& 31))).toInt8.toInt32).toInt8.toInt32)), (.int ((((c2 >>> ((8 : Int32) &&& 31))).toInt8.toInt32).toInt8.toInt32)), (.int ((((c3 >>> ((0 : Int32) &&& 31))).toInt8.toInt32).toInt8.toInt32)), (.int ((((c3 >>> ((8 : Int32) &&& 31))).toInt8.toInt32).toInt8.toInt32))] (.int (0 : Int32))) (hc0 : 0 ≤ c0.toInt ∧ c0.toInt ≤ 65535) (hc1 : 0 ≤ c1.toInt ∧ c1.toInt ≤ 65535) (hc2 : 0 ≤ c2.toInt ∧ c2.toInt ≤ 65535) (hc3 : 0 ≤ c3.toInt ∧ c3.toInt ≤ 65535) (hbd : p2 < p3 → 0 ≤ p2.toInt ∧ p3.toInt ≤ 4) (O0 : Old Z n0 h0) (S_cs : Sta Z Z.heap "java/lang/String" "COMPACT_STRINGS" "Z" (.int G1)) (S_fm : Sta Z Z.heap "jdk/internal/util/Preconditions" "SIOOBE_FORMATTER" "Ljava/util/function/BiFunction;" G3) (S_ad : Sta Z Z.heap "java/lang/StringUTF16" "$assertionsDisabled" "Z" (.int (1 : Int32))) (S_hi : Sta Z Z.heap "java/lang/StringUTF16" "HI_BYTE_SHIFT" "I" (.int (0 : Int32))) (S_lo : Sta Z Z.heap "java/lang/StringUTF16" "LO_BYTE_SHIFT" "I" (.int (8 : Int32))) (P5 : ¬ (G1 = (0 : Int32))) (rG3 : G3.isRef = true) :
    MetFree l (⟨"com/example/encours/encours/engine/Money", "isDigits", "(Ljava/lang/String;II)Z"⟩ : MethodName) (head1 (Jvm.Cond.code (⟨"com/example/encours/encours/engine/Money", "isDigits", "(Ljava/lang/String;II)Z"⟩ : MethodName) prog_36_method_5_code 5 (some .boolean) :: ws) ({ frames := 5, cells := 0, slots := 0, locals := 80 } : Room)) (fun a U => a = #[(.ref a1), (.int p2), (.int p3)] ∧ Z.Warmed39 U.vm ∧ U.heap = h0) (fun _ _ _ _ _ => True) (fun _ U o U' => ∃ v L, o = .returned v ∧ Q_risU Z a1 p2 p3 a4 k4 c0 c1 c2 c3 G1 G3 h0 n0 v U'.heap L ∧ FrameEnd U o U' L ({ frames := 5, cells := 0, slots := 0, locals := 80 } : Room).cells ({ frames := 5, cells := 0, slots := 0, locals := 80 } : Room).slots) := by
  refine MetFree.of_bodySF (plainFor_of_name pn_43) hisR ?_
  intro p e s m args below meth c s₁ Bd hml0 hP hK
  obtain ⟨rfl, hZ, hh⟩ := hP
  have hx := Bd.exec
  have hby := Bd.bytes
  have hml : c.maxLocals = 5 := hml0
  have hown : s.vm.findClass "com/example/encours/encours/engine/Money" = some m.cls := findClass_of_methodNamed Bd.named
  have hnm := (name_of_methodNamed Bd.named Bd.method).1
  have X0 : Stand p l e ({ frames := 5, cells := 0, slots := 0, locals := 80 } : Room) s m #[(.ref a1), (.int p2), (.int p3)] below meth c s₁ [] 0 0 := Stand.of_body Bd
  have e0 : s₁.heap = h0 := by rw [← hh, Bd.state]; rfl
  have N0 := Fr.nil n0
  have pre0 : ∀ t, Steps p.tables e below (s₁.setTop (mkF m 0 #[.val (.ref a1), .val (.int p2), .val (.int p3), .unset, .unset] [])) t → Steps p.tables e below (s₁.setTop (entryFrame m #[(.ref a1), (.int p2), (.int p3)] 5)) t := fun t k => castTop (ef_risU m a1 p2 p3) k
  change Go p.tables e below (fun o U' => ∃ v L, o = .returned v ∧ Q_risU Z a1 p2 p3 a4 k4 c0 c1 c2 c3 G1 G3 h0 n0 v U'.heap L ∧ FrameEnd s o U' L ({ frames := 5, cells := 0, slots := 0, locals := 80 } : Room).cells ({ frames := 5, cells := 0, slots := 0, locals := 80 } : Room).slots) (s₁.setTop (entryFrame m #[(.ref a1), (.int p2), (.int p3)] 5))
  refine Go.on pre0 ?_
  refine Go.on (B := s₁.setTop (mkF m 1 #[.val (.ref a1), .val (.int p2), .val (.int p3), .unset, .unset] [(.int p2)])) (fun t k => XS.iloadN X0.here hx rfl (hb hby d10_0) rfl k) ?_
  refine Go.on (B := s₁.setTop (mkF m 2 #[.val (.ref a1), .val (.int p2), .val (.int p3), .unset, .unset] [(.int p3), (.int p2)])) (fun t k => XS.iloadN X0.here hx rfl (hb hby d10_1) rfl k) ?_
  by_cases hc2_1 : p2 < p3
  · refine Go.on (B := s₁.setTop (mkF m 7 #[.val (.ref a1), .val (.int p2), .val (.int p3), .unset, .unset] [])) (fun t k => XS.icmpYes X0.here hx rfl (pc0 := 2) (pc' := 7) rfl (hb hby d10_2) rfl (tlt hc2_1).1 (by decide) (by decide) k) ?_
    refine Go.on (B := s₁.setTop (mkF m 8 #[.val (.ref a1), .val (.int p2), .val (.int p3), .unset, .unset] [(.int p2)])) (fun t k => XS.iloadN X0.here hx rfl (hb hby d10_7) rfl k) ?_
    refine Go.on (B := s₁.setTop (mkF m 9 #[.val (.ref a1), .val (.int p2), .val (.int p3), .val (.int p2), .unset] [])) (fun t k => XS.istoreN X0.here hx rfl (hb hby d10_8) rfl (l' := #[.val (.ref a1), .val (.int p2), .val (.int p3), .val (.int p2), .unset]) rfl k) ?_
    have loop : ∀ (k : Nat) (i : Int32) (sl : Slot) (T : State) (L : List Loc), (sl = .unset ∨ ∃ z : Int32, sl = .val (.int z)) → Stand p l e ({ frames := 5, cells := 0, slots := 0, locals := 80 } : Room) s m #[(.ref a1), (.int p2), (.int p3)] below meth c T L 0 0 → T.heap = h0 → Fr n0 L → ¬ i < p2 → ¬ p3 < i → (∀ j : Int32, ¬ j < p2 → j < i → own_Dg (own_c c0 c1 c2 c3 j)) → (p3.toInt - i.toInt).toNat = k → Go p.tables e below (fun o U' => ∃ v L, o = .returned v ∧ Q_risU Z a1 p2 p3 a4 k4 c0 c1 c2 c3 G1 G3 h0 n0 v U'.heap L ∧ FrameEnd s o U' L ({ frames := 5, cells := 0, slots := 0, locals := 80 } : Room).cells ({ frames := 5, cells := 0, slots := 0, locals := 80 } : Room).slots) (T.setTop (mkF m 9 #[.val (.ref a1), .val (.int p2), .val (.int p3), .val (.int i), sl] [])) := by
      intro k
      induction k with
      | zero =>
        intro i sl T L hsl X eT N hlo hhi hd hk
        have hend := own_end hk
        refine Go.on (B := T.setTop (mkF m 10 #[.val (.ref a1), .val (.int p2), .val (.int p3), .val (.int i), sl] [(.int i)])) (fun t k => XS.iloadN X.here hx rfl (hb hby d10_9) rfl k) ?_
        refine Go.on (B := T.setTop (mkF m 11 #[.val (.ref a1), .val (.int p2), .val (.int p3), .val (.int i), sl] [(.int p3), (.int i)])) (fun t k => XS.iloadN X.here hx rfl (hb hby d10_10) rfl k) ?_
        have hc11_3 : ¬ (i < p3) := hend
        refine Go.on (B := T.setTop (mkF m 43 #[.val (.ref a1), .val (.int p2), .val (.int p3), .val (.int i), sl] [])) (fun t k => XS.icmpYes X.here hx rfl (pc0 := 11) (pc' := 43) rfl (hb hby d10_11) rfl (flt hc11_3).2.1 (by decide) (by decide) k) ?_
        refine Go.on (B := T.setTop (mkF m 44 #[.val (.ref a1), .val (.int p2), .val (.int p3), .val (.int i), sl] [(.int (1 : Int32))])) (fun t k => XS.iconst X.here hx rfl (hb hby d10_43) k) ?_
        obtain ⟨fs, hr, hrun, hended, hW, hsame⟩ := X.leave (v := some (.int (1 : Int32))) (fun h => by rw [Bd.returns] at h; cases h)
        refine ⟨_, _, ?_, hrun, hended, _, _, rfl, ?_, ⟨_, rfl⟩, hW, hsame.mono (by decide) (by decide)⟩
        · exact retN X hx (t := .boolean) Bd.returns (by simp) (hb hby d10_44) hr
        · show Q_risU Z a1 p2 p3 a4 k4 c0 c1 c2 c3 G1 G3 h0 n0 _ T.heap _
          rw [eT]
          exact ⟨⟨_, rfl, Or.inl ⟨rfl, hc2_1, fun j h1 h2 => hd j h1 (own_sub h2 hhi hend)⟩⟩, N, rfl⟩
      | succ k ih =>
        intro i sl T L hsl X eT N hlo hhi hd hk
        have hlt := own_more hk
        have hix := own_idx (hbd hc2_1) hlo hlt
        rcases hsl with rfl | ⟨z0, rfl⟩
        · refine Go.on (B := T.setTop (mkF m 10 #[.val (.ref a1), .val (.int p2), .val (.int p3), .val (.int i), .unset] [(.int i)])) (fun t k => XS.iloadN X.here hx rfl (hb hby d10_9) rfl k) ?_
          refine Go.on (B := T.setTop (mkF m 11 #[.val (.ref a1), .val (.int p2), .val (.int p3), .val (.int i), .unset] [(.int p3), (.int i)])) (fun t k => XS.iloadN X.here hx rfl (hb hby d10_10) rfl k) ?_
          have hc11_4 : i < p3 := hlt
          refine Go.on (B := T.setTop (mkF m 14 #[.val (.ref a1), .val (.int p2), .val (.int p3), .val (.int i), .unset] [])) (fun t k => XS.icmpNo X.here hx rfl (hb hby d10_11) rfl (tlt hc11_4).2.1 k) ?_
          refine Go.on (B := T.setTop (mkF m 15 #[.val (.ref a1), .val (.int p2), .val (.int p3), .val (.int i), .unset] [(.ref a1)])) (fun t k => XS.aloadN X.here hx rfl (hb hby d10_14) rfl rfl k) ?_
          refine Go.on (B := T.setTop (mkF m 16 #[.val (.ref a1), .val (.int p2), .val (.int p3), .val (.int i), .unset] [(.int i), (.ref a1)])) (fun t k => XS.iloadN X.here hx rfl (hb hby d10_15) rfl k) ?_
          obtain ⟨cq5, kq5, q5a, q5b, q5c⟩ := isOf hZ eT E1
          obtain ⟨_, _, ⟨T5, L5, k5, n5⟩, -, X5, ⟨Lc5, hQ5, l5, y5, z5⟩, st5⟩ := X.virtualBack hx (y := (⟨"java/lang/String", "charAt", "(I)C"⟩ : MethodName)) (z := (⟨"java/lang/String", "charAt", "(I)C"⟩ : MethodName)) hown (mvT hZ (hw _ (List.mem_of_getElem? (i := 47) rfl))) (mvT hZ (hw _ (List.mem_of_getElem? (i := 48) rfl))) (notFace_of_selects (args := #[]) (mvT hZ (hw _ (List.mem_of_getElem? (i := 50) rfl)))) (mvT hZ (hw _ (List.mem_of_getElem? (i := 50) rfl))) (mvT hZ (hw _ (List.mem_of_getElem? (i := 49) rfl))) (by decide) (backOf (W := 0) (rchU l Z a0 hw [] a1 i a4 k4 (8 : Int32) [(.int ((((c0 >>> ((0 : Int32) &&& 31))).toInt8.toInt32).toInt8.toInt32)), (.int ((((c0 >>> ((8 : Int32) &&& 31))).toInt8.toInt32).toInt8.toInt32)), (.int ((((c1 >>> ((0 : Int32) &&& 31))).toInt8.toInt32).toInt8.toInt32)), (.int ((((c1 >>> ((8 : Int32) &&& 31))).toInt8.toInt32).toInt8.toInt32)), (.int ((((c2 >>> ((0 : Int32) &&& 31))).toInt8.toInt32).toInt8.toInt32)), (.int ((((c2 >>> ((8 : Int32) &&& 31))).toInt8.toInt32).toInt8.toInt32)), (.int ((((c3 >>> ((0 : Int32) &&& 31))).toInt8.toInt32).toInt8.toInt32)), (.int ((((c3 >>> ((8 : Int32) &&& 31))).toInt8.toInt32).toInt8.toInt32))] (4 : Int32) (((((own_c c0 c1 c2 c3 i) >>> ((0 : Int32) &&& 31))).toInt8.toInt32).toInt8.toInt32) (((((own_c c0 c1 c2 c3 i) >>> ((8 : Int32) &&& 31))).toInt8.toInt32).toInt8.toInt32) (own_c c0 c1 c2 c3 i) G1 G3 h0 n0 Z0 E1 F_cd F_vl V4 (by decide) hix (own_get8 c0 c1 c2 c3 i hix).1 (own_get8 c0 c1 c2 c3 i hix).2.1 (own_get8 c0 c1 c2 c3 i hix).2.2.1 (own_get8 c0 c1 c2 c3 i hix).2.2.2 (own_utf _ (own_crng c0 c1 c2 c3 i 65535 hc0 hc1 hc2 hc3)) (own_narc _ (own_crng c0 c1 c2 c3 i 65535 hc0 hc1 hc2 hc3)) O0 S_cs S_fm S_ad S_hi S_lo P5 rG3) hZ (hw _ (List.mem_of_getElem? (i := 51) rfl)) (hw _ (List.mem_of_getElem? (i := 9) rfl)) (by decide) (by decide)) q5a q5c (g := (mkF m 16 #[.val (.ref a1), .val (.int p2), .val (.int p3), .val (.int i), .unset] [(.int i), (.ref a1)])) rfl (by rw [hml]; rfl) (Steps.refl _) (argsL := [(.int i)]) (rest := []) (lenOf pd_14 rfl) rfl (by show 2 * 0 + _ ≤ _; exact Nat.le_of_eq rfl) (hb hby d10_16) (fun _ _ => ⟨rfl, eT, (by decide : 0 + 0 ≤ _), (by decide : 0 + 0 ≤ _)⟩)
          dsimp only [Pt.U, Pt.locs, Pt.cells, Pt.slots] at X5 l5 y5 z5 st5 hQ5
          subst l5 y5 z5
          obtain ⟨rfl, N5q, e5q⟩ := hQ5
          have N5 := Fr.app N N5q
          refine Go.on (B := T5.setTop (mkF m 19 #[.val (.ref a1), .val (.int p2), .val (.int p3), .val (.int i), .unset] [(.int (own_c c0 c1 c2 c3 i))])) (fun t k => st5.trans k) ?_
          generalize hv19_6 : (own_c c0 c1 c2 c3 i) = v19_6
          refine Go.on (B := T5.setTop (mkF m 21 #[.val (.ref a1), .val (.int p2), .val (.int p3), .val (.int i), .val (.int v19_6)] [])) (fun t k => XS.istore X5.here hx rfl (hb hby d10_19) rfl (l' := #[.val (.ref a1), .val (.int p2), .val (.int p3), .val (.int i), .val (.int v19_6)]) rfl k) ?_
          refine Go.on (B := T5.setTop (mkF m 23 #[.val (.ref a1), .val (.int p2), .val (.int p3), .val (.int i), .val (.int v19_6)] [(.int v19_6)])) (fun t k => XS.iload X5.here hx rfl (hb hby d10_21) rfl k) ?_
          refine Go.on (B := T5.setTop (mkF m 25 #[.val (.ref a1), .val (.int p2), .val (.int p3), .val (.int i), .val (.int v19_6)] [(.int (48 : Int32)), (.int v19_6)])) (fun t k => XS.bipush X5.here hx rfl (hb hby d10_23) k) ?_
          by_cases hc25_7 : v19_6 < (48 : Int32)
          · refine Go.on (B := T5.setTop (mkF m 35 #[.val (.ref a1), .val (.int p2), .val (.int p3), .val (.int i), .val (.int v19_6)] [])) (fun t k => XS.icmpYes X5.here hx rfl (pc0 := 25) (pc' := 35) rfl (hb hby d10_25) rfl (tlt hc25_7).1 (by decide) (by decide) k) ?_
            refine Go.on (B := T5.setTop (mkF m 36 #[.val (.ref a1), .val (.int p2), .val (.int p3), .val (.int i), .val (.int v19_6)] [(.int (0 : Int32))])) (fun t k => XS.iconst X5.here hx rfl (hb hby d10_35) k) ?_
            obtain ⟨fs, hr, hrun, hended, hW, hsame⟩ := X5.leave (v := some (.int (0 : Int32))) (fun h => by rw [Bd.returns] at h; cases h)
            refine ⟨_, _, ?_, hrun, hended, _, _, rfl, ?_, ⟨_, rfl⟩, hW, hsame.mono (by decide) (by decide)⟩
            · exact retN X5 hx (t := .boolean) Bd.returns (by simp) (hb hby d10_36) hr
            · show Q_risU Z a1 p2 p3 a4 k4 c0 c1 c2 c3 G1 G3 h0 n0 _ T5.heap _
              rw [e5q]
              exact ⟨⟨_, rfl, Or.inr ⟨rfl, Or.inr ⟨i, hlo, hlt, fun q => by rw [hv19_6] at q; exact q.1 hc25_7⟩⟩⟩, N5, rfl⟩
          · refine Go.on (B := T5.setTop (mkF m 28 #[.val (.ref a1), .val (.int p2), .val (.int p3), .val (.int i), .val (.int v19_6)] [])) (fun t k => XS.icmpNo X5.here hx rfl (hb hby d10_25) rfl (flt hc25_7).1 k) ?_
            refine Go.on (B := T5.setTop (mkF m 30 #[.val (.ref a1), .val (.int p2), .val (.int p3), .val (.int i), .val (.int v19_6)] [(.int v19_6)])) (fun t k => XS.iload X5.here hx rfl (hb hby d10_28) rfl k) ?_
            refine Go.on (B := T5.setTop (mkF m 32 #[.val (.ref a1), .val (.int p2), .val (.int p3), .val (.int i), .val (.int v19_6)] [(.int (57 : Int32)), (.int v19_6)])) (fun t k => XS.bipush X5.here hx rfl (hb hby d10_30) k) ?_
            by_cases hc32_8 : (57 : Int32) < v19_6
            · refine Go.on (B := T5.setTop (mkF m 35 #[.val (.ref a1), .val (.int p2), .val (.int p3), .val (.int i), .val (.int v19_6)] [])) (fun t k => XS.icmpNo X5.here hx rfl (hb hby d10_32) rfl (tlt hc32_8).2.2.2 k) ?_
              refine Go.on (B := T5.setTop (mkF m 36 #[.val (.ref a1), .val (.int p2), .val (.int p3), .val (.int i), .val (.int v19_6)] [(.int (0 : Int32))])) (fun t k => XS.iconst X5.here hx rfl (hb hby d10_35) k) ?_
              obtain ⟨fs, hr, hrun, hended, hW, hsame⟩ := X5.leave (v := some (.int (0 : Int32))) (fun h => by rw [Bd.returns] at h; cases h)
              refine ⟨_, _, ?_, hrun, hended, _, _, rfl, ?_, ⟨_, rfl⟩, hW, hsame.mono (by decide) (by decide)⟩
              · exact retN X5 hx (t := .boolean) Bd.returns (by simp) (hb hby d10_36) hr
              · show Q_risU Z a1 p2 p3 a4 k4 c0 c1 c2 c3 G1 G3 h0 n0 _ T5.heap _
                rw [e5q]
                exact ⟨⟨_, rfl, Or.inr ⟨rfl, Or.inr ⟨i, hlo, hlt, fun q => by rw [hv19_6] at q; exact q.2 hc32_8⟩⟩⟩, N5, rfl⟩
            · refine Go.on (B := T5.setTop (mkF m 37 #[.val (.ref a1), .val (.int p2), .val (.int p3), .val (.int i), .val (.int v19_6)] [])) (fun t k => XS.icmpYes X5.here hx rfl (pc0 := 32) (pc' := 37) rfl (hb hby d10_32) rfl (flt hc32_8).2.2.2 (by decide) (by decide) k) ?_
              refine Go.on (B := T5.setTop (mkF m 40 #[.val (.ref a1), .val (.int p2), .val (.int p3), .val (.int (i + (1 : Int32))), .val (.int v19_6)] [])) (fun t k => XS.iinc X5.here hx rfl (hb hby d10_37) rfl (l' := #[.val (.ref a1), .val (.int p2), .val (.int p3), .val (.int (i + (1 : Int32))), .val (.int v19_6)]) rfl k) ?_
              refine Go.on (B := T5.setTop (mkF m 9 #[.val (.ref a1), .val (.int p2), .val (.int p3), .val (.int (i + (1 : Int32))), .val (.int v19_6)] [])) (fun t k => XS.goto X5.here hx rfl (pc0 := 40) (pc' := 9) rfl (hb hby d10_40) (by decide) (by decide) k) ?_
              have hnx := own_next hlo hlt hk
              exact ih (i + (1 : Int32)) (.val (.int v19_6)) T5 _ (Or.inr ⟨_, rfl⟩) X5 e5q N5 hnx.1 hnx.2.1 (own_ext hlt hd (by rw [hv19_6]; exact ⟨hc25_7, hc32_8⟩)) hnx.2.2
        · refine Go.on (B := T.setTop (mkF m 10 #[.val (.ref a1), .val (.int p2), .val (.int p3), .val (.int i), .val (.int z0)] [(.int i)])) (fun t k => XS.iloadN X.here hx rfl (hb hby d10_9) rfl k) ?_
          refine Go.on (B := T.setTop (mkF m 11 #[.val (.ref a1), .val (.int p2), .val (.int p3), .val (.int i), .val (.int z0)] [(.int p3), (.int i)])) (fun t k => XS.iloadN X.here hx rfl (hb hby d10_10) rfl k) ?_
          have hc11_9 : i < p3 := hlt
          refine Go.on (B := T.setTop (mkF m 14 #[.val (.ref a1), .val (.int p2), .val (.int p3), .val (.int i), .val (.int z0)] [])) (fun t k => XS.icmpNo X.here hx rfl (hb hby d10_11) rfl (tlt hc11_9).2.1 k) ?_
          refine Go.on (B := T.setTop (mkF m 15 #[.val (.ref a1), .val (.int p2), .val (.int p3), .val (.int i), .val (.int z0)] [(.ref a1)])) (fun t k => XS.aloadN X.here hx rfl (hb hby d10_14) rfl rfl k) ?_
          refine Go.on (B := T.setTop (mkF m 16 #[.val (.ref a1), .val (.int p2), .val (.int p3), .val (.int i), .val (.int z0)] [(.int i), (.ref a1)])) (fun t k => XS.iloadN X.here hx rfl (hb hby d10_15) rfl k) ?_
          obtain ⟨cq10, kq10, q10a, q10b, q10c⟩ := isOf hZ eT E1
          obtain ⟨_, _, ⟨T10, L10, k10, n10⟩, -, X10, ⟨Lc10, hQ10, l10, y10, z10⟩, st10⟩ := X.virtualBack hx (y := (⟨"java/lang/String", "charAt", "(I)C"⟩ : MethodName)) (z := (⟨"java/lang/String", "charAt", "(I)C"⟩ : MethodName)) hown (mvT hZ (hw _ (List.mem_of_getElem? (i := 47) rfl))) (mvT hZ (hw _ (List.mem_of_getElem? (i := 48) rfl))) (notFace_of_selects (args := #[]) (mvT hZ (hw _ (List.mem_of_getElem? (i := 50) rfl)))) (mvT hZ (hw _ (List.mem_of_getElem? (i := 50) rfl))) (mvT hZ (hw _ (List.mem_of_getElem? (i := 49) rfl))) (by decide) (backOf (W := 0) (rchU l Z a0 hw [] a1 i a4 k4 (8 : Int32) [(.int ((((c0 >>> ((0 : Int32) &&& 31))).toInt8.toInt32).toInt8.toInt32)), (.int ((((c0 >>> ((8 : Int32) &&& 31))).toInt8.toInt32).toInt8.toInt32)), (.int ((((c1 >>> ((0 : Int32) &&& 31))).toInt8.toInt32).toInt8.toInt32)), (.int ((((c1 >>> ((8 : Int32) &&& 31))).toInt8.toInt32).toInt8.toInt32)), (.int ((((c2 >>> ((0 : Int32) &&& 31))).toInt8.toInt32).toInt8.toInt32)), (.int ((((c2 >>> ((8 : Int32) &&& 31))).toInt8.toInt32).toInt8.toInt32)), (.int ((((c3 >>> ((0 : Int32) &&& 31))).toInt8.toInt32).toInt8.toInt32)), (.int ((((c3 >>> ((8 : Int32) &&& 31))).toInt8.toInt32).toInt8.toInt32))] (4 : Int32) (((((own_c c0 c1 c2 c3 i) >>> ((0 : Int32) &&& 31))).toInt8.toInt32).toInt8.toInt32) (((((own_c c0 c1 c2 c3 i) >>> ((8 : Int32) &&& 31))).toInt8.toInt32).toInt8.toInt32) (own_c c0 c1 c2 c3 i) G1 G3 h0 n0 Z0 E1 F_cd F_vl V4 (by decide) hix (own_get8 c0 c1 c2 c3 i hix).1 (own_get8 c0 c1 c2 c3 i hix).2.1 (own_get8 c0 c1 c2 c3 i hix).2.2.1 (own_get8 c0 c1 c2 c3 i hix).2.2.2 (own_utf _ (own_crng c0 c1 c2 c3 i 65535 hc0 hc1 hc2 hc3)) (own_narc _ (own_crng c0 c1 c2 c3 i 65535 hc0 hc1 hc2 hc3)) O0 S_cs S_fm S_ad S_hi S_lo P5 rG3) hZ (hw _ (List.mem_of_getElem? (i := 51) rfl)) (hw _ (List.mem_of_getElem? (i := 9) rfl)) (by decide) (by decide)) q10a q10c (g := (mkF m 16 #[.val (.ref a1), .val (.int p2), .val (.int p3), .val (.int i), .val (.int z0)] [(.int i), (.ref a1)])) rfl (by rw [hml]; rfl) (Steps.refl _) (argsL := [(.int i)]) (rest := []) (lenOf pd_14 rfl) rfl (by show 2 * 0 + _ ≤ _; exact Nat.le_of_eq rfl) (hb hby d10_16) (fun _ _ => ⟨rfl, eT, (by decide : 0 + 0 ≤ _), (by decide : 0 + 0 ≤ _)⟩)
          dsimp only [Pt.U, Pt.locs, Pt.cells, Pt.slots] at X10 l10 y10 z10 st10 hQ10
          subst l10 y10 z10
          obtain ⟨rfl, N10q, e10q⟩ := hQ10
          have N10 := Fr.app N N10q
          refine Go.on (B := T10.setTop (mkF m 19 #[.val (.ref a1), .val (.int p2), .val (.int p3), .val (.int i), .val (.int z0)] [(.int (own_c c0 c1 c2 c3 i))])) (fun t k => st10.trans k) ?_
          generalize hv19_11 : (own_c c0 c1 c2 c3 i) = v19_11
          refine Go.on (B := T10.setTop (mkF m 21 #[.val (.ref a1), .val (.int p2), .val (.int p3), .val (.int i), .val (.int v19_11)] [])) (fun t k => XS.istore X10.here hx rfl (hb hby d10_19) rfl (l' := #[.val (.ref a1), .val (.int p2), .val (.int p3), .val (.int i), .val (.int v19_11)]) rfl k) ?_
          refine Go.on (B := T10.setTop (mkF m 23 #[.val (.ref a1), .val (.int p2), .val (.int p3), .val (.int i), .val (.int v19_11)] [(.int v19_11)])) (fun t k => XS.iload X10.here hx rfl (hb hby d10_21) rfl k) ?_
          refine Go.on (B := T10.setTop (mkF m 25 #[.val (.ref a1), .val (.int p2), .val (.int p3), .val (.int i), .val (.int v19_11)] [(.int (48 : Int32)), (.int v19_11)])) (fun t k => XS.bipush X10.here hx rfl (hb hby d10_23) k) ?_
          by_cases hc25_12 : v19_11 < (48 : Int32)
          · refine Go.on (B := T10.setTop (mkF m 35 #[.val (.ref a1), .val (.int p2), .val (.int p3), .val (.int i), .val (.int v19_11)] [])) (fun t k => XS.icmpYes X10.here hx rfl (pc0 := 25) (pc' := 35) rfl (hb hby d10_25) rfl (tlt hc25_12).1 (by decide) (by decide) k) ?_
            refine Go.on (B := T10.setTop (mkF m 36 #[.val (.ref a1), .val (.int p2), .val (.int p3), .val (.int i), .val (.int v19_11)] [(.int (0 : Int32))])) (fun t k => XS.iconst X10.here hx rfl (hb hby d10_35) k) ?_
            obtain ⟨fs, hr, hrun, hended, hW, hsame⟩ := X10.leave (v := some (.int (0 : Int32))) (fun h => by rw [Bd.returns] at h; cases h)
            refine ⟨_, _, ?_, hrun, hended, _, _, rfl, ?_, ⟨_, rfl⟩, hW, hsame.mono (by decide) (by decide)⟩
            · exact retN X10 hx (t := .boolean) Bd.returns (by simp) (hb hby d10_36) hr
            · show Q_risU Z a1 p2 p3 a4 k4 c0 c1 c2 c3 G1 G3 h0 n0 _ T10.heap _
              rw [e10q]
              exact ⟨⟨_, rfl, Or.inr ⟨rfl, Or.inr ⟨i, hlo, hlt, fun q => by rw [hv19_11] at q; exact q.1 hc25_12⟩⟩⟩, N10, rfl⟩
          · refine Go.on (B := T10.setTop (mkF m 28 #[.val (.ref a1), .val (.int p2), .val (.int p3), .val (.int i), .val (.int v19_11)] [])) (fun t k => XS.icmpNo X10.here hx rfl (hb hby d10_25) rfl (flt hc25_12).1 k) ?_
            refine Go.on (B := T10.setTop (mkF m 30 #[.val (.ref a1), .val (.int p2), .val (.int p3), .val (.int i), .val (.int v19_11)] [(.int v19_11)])) (fun t k => XS.iload X10.here hx rfl (hb hby d10_28) rfl k) ?_
            refine Go.on (B := T10.setTop (mkF m 32 #[.val (.ref a1), .val (.int p2), .val (.int p3), .val (.int i), .val (.int v19_11)] [(.int (57 : Int32)), (.int v19_11)])) (fun t k => XS.bipush X10.here hx rfl (hb hby d10_30) k) ?_
            by_cases hc32_13 : (57 : Int32) < v19_11
            · refine Go.on (B := T10.setTop (mkF m 35 #[.val (.ref a1), .val (.int p2), .val (.int p3), .val (.int i), .val (.int v19_11)] [])) (fun t k => XS.icmpNo X10.here hx rfl (hb hby d10_32) rfl (tlt hc32_13).2.2.2 k) ?_
              refine Go.on (B := T10.setTop (mkF m 36 #[.val (.ref a1), .val (.int p2), .val (.int p3), .val (.int i), .val (.int v19_11)] [(.int (0 : Int32))])) (fun t k => XS.iconst X10.here hx rfl (hb hby d10_35) k) ?_
              obtain ⟨fs, hr, hrun, hended, hW, hsame⟩ := X10.leave (v := some (.int (0 : Int32))) (fun h => by rw [Bd.returns] at h; cases h)
              refine ⟨_, _, ?_, hrun, hended, _, _, rfl, ?_, ⟨_, rfl⟩, hW, hsame.mono (by decide) (by decide)⟩
              · exact retN X10 hx (t := .boolean) Bd.returns (by simp) (hb hby d10_36) hr
              · show Q_risU Z a1 p2 p3 a4 k4 c0 c1 c2 c3 G1 G3 h0 n0 _ T10.heap _
                rw [e10q]
                exact ⟨⟨_, rfl, Or.inr ⟨rfl, Or.inr ⟨i, hlo, hlt, fun q => by rw [hv19_11] at q; exact q.2 hc32_13⟩⟩⟩, N10, rfl⟩
            · refine Go.on (B := T10.setTop (mkF m 37 #[.val (.ref a1), .val (.int p2), .val (.int p3), .val (.int i), .val (.int v19_11)] [])) (fun t k => XS.icmpYes X10.here hx rfl (pc0 := 32) (pc' := 37) rfl (hb hby d10_32) rfl (flt hc32_13).2.2.2 (by decide) (by decide) k) ?_
              refine Go.on (B := T10.setTop (mkF m 40 #[.val (.ref a1), .val (.int p2), .val (.int p3), .val (.int (i + (1 : Int32))), .val (.int v19_11)] [])) (fun t k => XS.iinc X10.here hx rfl (hb hby d10_37) rfl (l' := #[.val (.ref a1), .val (.int p2), .val (.int p3), .val (.int (i + (1 : Int32))), .val (.int v19_11)]) rfl k) ?_
              refine Go.on (B := T10.setTop (mkF m 9 #[.val (.ref a1), .val (.int p2), .val (.int p3), .val (.int (i + (1 : Int32))), .val (.int v19_11)] [])) (fun t k => XS.goto X10.here hx rfl (pc0 := 40) (pc' := 9) rfl (hb hby d10_40) (by decide) (by decide) k) ?_
              have hnx := own_next hlo hlt hk
              exact ih (i + (1 : Int32)) (.val (.int v19_11)) T10 _ (Or.inr ⟨_, rfl⟩) X10 e10q N10 hnx.1 hnx.2.1 (own_ext hlt hd (by rw [hv19_11]; exact ⟨hc25_12, hc32_13⟩)) hnx.2.2
    exact loop _ p2 .unset s₁ _ (Or.inl rfl) X0 e0 N0 (Int32.lt_irrefl) (own_nlt hc2_1) (fun j h1 h2 => absurd h2 h1) rfl
  · refine Go.on (B := s₁.setTop (mkF m 5 #[.val (.ref a1), .val (.int p2), .val (.int p3), .unset, .unset] [])) (fun t k => XS.icmpNo X0.here hx rfl (hb hby d10_2) rfl (flt hc2_1).1 k) ?_
    refine Go.on (B := s₁.setTop (mkF m 6 #[.val (.ref a1), .val (.int p2), .val (.int p3), .unset, .unset] [(.int (0 : Int32))])) (fun t k => XS.iconst X0.here hx rfl (hb hby d10_5) k) ?_
    obtain ⟨fs, hr, hrun, hended, hW, hsame⟩ := X0.leave (v := some (.int (0 : Int32))) (fun h => by rw [Bd.returns] at h; cases h)
    refine ⟨_, _, ?_, hrun, hended, _, _, rfl, ?_, ⟨_, rfl⟩, hW, hsame.mono (by decide) (by decide)⟩
    · exact retN X0 hx (t := .boolean) Bd.returns (by simp) (hb hby d10_6) hr
    · show Q_risU Z a1 p2 p3 a4 k4 c0 c1 c2 c3 G1 G3 h0 n0 _ s₁.heap _
      rw [e0]
      exact ⟨⟨_, rfl, Or.inr ⟨rfl, Or.inl hc2_1⟩⟩, N0, rfl⟩
theorem pd_15 : parseMethodDescriptor "([C)V" = some ⟨[(.array .char)], none⟩ := by decide +kernel
theorem pd_16 : parseMethodDescriptor "(IIIC)Z" = some ⟨[.int, .int, .int, .char], some .boolean⟩ := by decide +kernel
theorem pd_17 : parseMethodDescriptor "(Ljava/lang/String;II)Z" = some ⟨[(.object "java/lang/String"), .int, .int], some .boolean⟩ := by decide +kernel
theorem ef_rm0 (m : MethodId) (p1 : Int32) (p2 : Int32) (p3 : Int32) (p4 : Int32) (p5 : Int32) (p6 : Int32) : entryFrame m #[(.int p1), (.int p2), (.int p3), (.int p4), (.int p5), (.int p6)] maxLocals = mkF m 0 #[.val (.int p1), .val (.int p2), .val (.int p3), .val (.int p4), .val (.int p5), .val (.int p6), .unset, .unset, .unset, .unset, .unset, .unset, .unset, .unset, .unset] [] := by first | (simp [entryFrame, mkF, argsToLocals, Value.category, maxLocals]; done) | rfl
def Q_rm0 (Z : State) (p1 : Int32) (p2 : Int32) (p3 : Int32) (p4 : Int32) (p5 : Int32) (p6 : Int32) (G1 : Int32) (G3 : Value) (h0 : Heap) (n0 : Nat) (v : Option Value) (h : Heap) (L : List Loc) : Prop := v = some (.int 1) ∧ Fr n0 L
set_option maxRecDepth 65536 in
set_option maxHeartbeats 40000000 in
theorem rm0 (l : Launch) (Z : State) (a0 : Array Value) (hw : ∀ d ∈ tables_1, d.before a0 Z = true) (ws : List Jvm.Cond) (p1 : Int32) (p2 : Int32) (p3 : Int32) (p4 : Int32) (p5 : Int32) (p6 : Int32) (G1 : Int32) (G3 : Value) (h0 : Heap) (n0 : Nat) (Z0 : n0 ≤ h0.size)  (O0 : Old Z n0 h0) (S_cs : Sta Z Z.heap "java/lang/String" "COMPACT_STRINGS" "Z" (.int G1)) (S_fm : Sta Z Z.heap "jdk/internal/util/Preconditions" "SIOOBE_FORMATTER" "Ljava/util/function/BiFunction;" G3) (S_ad : Sta Z Z.heap "java/lang/StringUTF16" "$assertionsDisabled" "Z" (.int (1 : Int32))) (S_hi : Sta Z Z.heap "java/lang/StringUTF16" "HI_BYTE_SHIFT" "I" (.int (0 : Int32))) (S_lo : Sta Z Z.heap "java/lang/StringUTF16" "LO_BYTE_SHIFT" "I" (.int (8 : Int32))) (P5 : ¬ (G1 = (0 : Int32))) (rG3 : G3.isRef = true) :
    MetFree l x (head1 (Jvm.Cond.code x code maxLocals ret :: ws) room_1) (fun a U => a = #[(.int p1), (.int p2), (.int p3), (.int p4), (.int p5), (.int p6)] ∧ Z.Warmed39 U.vm ∧ U.heap = h0) (fun _ _ _ _ _ => True) (fun _ U o U' => ∃ v L, o = .returned v ∧ Q_rm0 Z p1 p2 p3 p4 p5 p6 G1 G3 h0 n0 v U'.heap L ∧ FrameEnd U o U' L room_1.cells room_1.slots) := by
  refine MetFree.of_bodySF (plainFor_of_name pn_37) hisR ?_
  intro p e s m args below meth c s₁ Bd hml0 hP hK
  obtain ⟨rfl, hZ, hh⟩ := hP
  have hx := Bd.exec
  have hby := Bd.bytes
  have hml : c.maxLocals = 15 := hml0
  have hown : s.vm.findClass "com/example/encours/encours/engine/MoneyIsDigitsPinLaw" = some m.cls := findClass_of_methodNamed Bd.named
  have hnm := (name_of_methodNamed Bd.named Bd.method).1
  have X0 : Stand p l e room_1 s m #[(.int p1), (.int p2), (.int p3), (.int p4), (.int p5), (.int p6)] below meth c s₁ [] 0 0 := Stand.of_body Bd
  have e0 : s₁.heap = h0 := by rw [← hh, Bd.state]; rfl
  have N0 := Fr.nil n0
  have pre0 : ∀ t, Steps p.tables e below (s₁.setTop (mkF m 0 #[.val (.int p1), .val (.int p2), .val (.int p3), .val (.int p4), .val (.int p5), .val (.int p6), .unset, .unset, .unset, .unset, .unset, .unset, .unset, .unset, .unset] [])) t → Steps p.tables e below (s₁.setTop (entryFrame m #[(.int p1), (.int p2), (.int p3), (.int p4), (.int p5), (.int p6)] maxLocals)) t := fun t k => castTop (ef_rm0 m p1 p2 p3 p4 p5 p6) k
  change Go p.tables e below (fun o U' => ∃ v L, o = .returned v ∧ Q_rm0 Z p1 p2 p3 p4 p5 p6 G1 G3 h0 n0 v U'.heap L ∧ FrameEnd s o U' L room_1.cells room_1.slots) (s₁.setTop (entryFrame m #[(.int p1), (.int p2), (.int p3), (.int p4), (.int p5), (.int p6)] maxLocals))
  refine Go.on pre0 ?_
  refine Go.on (B := s₁.setTop (mkF m 1 #[.val (.int p1), .val (.int p2), .val (.int p3), .val (.int p4), .val (.int p5), .val (.int p6), .unset, .unset, .unset, .unset, .unset, .unset, .unset, .unset, .unset] [(.int p1)])) (fun t k => XS.iloadN X0.here hx rfl (hb hby at_0) rfl k) ?_
  obtain ⟨_, _, ⟨T1, L1, k1, n1⟩, -, X1, ⟨Lc1, hQ1, l1, y1, z1⟩, st1⟩ := Jvm.LawKit.callS X0 hx (y := (⟨"com/example/encours/encours/engine/MoneyIsDigitsPinLaw", "draw", "(I)C"⟩ : MethodName)) hown (mvT hZ (hw _ (List.mem_of_getElem? (i := 0) rfl))) (mvT hZ (hw _ (List.mem_of_getElem? (i := 1) rfl))) (mvT hZ (hw _ (List.mem_of_getElem? (i := 2) rfl))) (mvT hZ (hw _ (List.mem_of_getElem? (i := 3) rfl))) (by decide) (backOf (W := 0) (rdr l Z a0 hw [] p1 h0 n0 Z0) hZ (hw _ (List.mem_of_getElem? (i := 3) rfl)) (hw _ (List.mem_of_getElem? (i := 2) rfl)) (by decide) (by decide)) (g := (mkF m 1 #[.val (.int p1), .val (.int p2), .val (.int p3), .val (.int p4), .val (.int p5), .val (.int p6), .unset, .unset, .unset, .unset, .unset, .unset, .unset, .unset, .unset] [(.int p1)])) rfl (by rw [hml]; rfl) (argsL := [(.int p1)]) (rest := []) (lenOf pd_14 rfl) rfl (by show 2 * 0 + _ ≤ _; exact Nat.le_of_eq rfl) (hb hby at_1) (fun _ _ => ⟨rfl, e0, (by decide : 0 + 0 ≤ _), (by decide : 0 + 0 ≤ _)⟩)
  dsimp only [Pt.U, Pt.locs, Pt.cells, Pt.slots] at X1 l1 y1 z1 st1 hQ1
  subst l1 y1 z1
  obtain ⟨⟨r1, rfl, hr1⟩, N1q, e1q⟩ := hQ1
  have N1 := Fr.app N0 N1q
  refine Go.on (B := T1.setTop (mkF m 4 #[.val (.int p1), .val (.int p2), .val (.int p3), .val (.int p4), .val (.int p5), .val (.int p6), .unset, .unset, .unset, .unset, .unset, .unset, .unset, .unset, .unset] [(.int r1)])) (fun t k => st1 _ k) ?_
  refine Go.on (B := T1.setTop (mkF m 6 #[.val (.int p1), .val (.int p2), .val (.int p3), .val (.int p4), .val (.int p5), .val (.int p6), .val (.int r1), .unset, .unset, .unset, .unset, .unset, .unset, .unset, .unset] [])) (fun t k => XS.istore X1.here hx rfl (hb hby at_4) rfl (l' := #[.val (.int p1), .val (.int p2), .val (.int p3), .val (.int p4), .val (.int p5), .val (.int p6), .val (.int r1), .unset, .unset, .unset, .unset, .unset, .unset, .unset, .unset]) rfl k) ?_
  refine Go.on (B := T1.setTop (mkF m 7 #[.val (.int p1), .val (.int p2), .val (.int p3), .val (.int p4), .val (.int p5), .val (.int p6), .val (.int r1), .unset, .unset, .unset, .unset, .unset, .unset, .unset, .unset] [(.int p2)])) (fun t k => XS.iloadN X1.here hx rfl (hb hby at_6) rfl k) ?_
  obtain ⟨_, _, ⟨T3, L3, k3, n3⟩, -, X3, ⟨Lc3, hQ3, l3, y3, z3⟩, st3⟩ := Jvm.LawKit.callS X1 hx (y := (⟨"com/example/encours/encours/engine/MoneyIsDigitsPinLaw", "draw", "(I)C"⟩ : MethodName)) hown (mvT hZ (hw _ (List.mem_of_getElem? (i := 0) rfl))) (mvT hZ (hw _ (List.mem_of_getElem? (i := 1) rfl))) (mvT hZ (hw _ (List.mem_of_getElem? (i := 2) rfl))) (mvT hZ (hw _ (List.mem_of_getElem? (i := 3) rfl))) (by decide) (backOf (W := 0) (rdr l Z a0 hw [] p2 h0 n0 Z0) hZ (hw _ (List.mem_of_getElem? (i := 3) rfl)) (hw _ (List.mem_of_getElem? (i := 2) rfl)) (by decide) (by decide)) (g := (mkF m 7 #[.val (.int p1), .val (.int p2), .val (.int p3), .val (.int p4), .val (.int p5), .val (.int p6), .val (.int r1), .unset, .unset, .unset, .unset, .unset, .unset, .unset, .unset] [(.int p2)])) rfl (by rw [hml]; rfl) (argsL := [(.int p2)]) (rest := []) (lenOf pd_14 rfl) rfl (by show 2 * 0 + _ ≤ _; exact Nat.le_of_eq rfl) (hb hby at_7) (fun _ _ => ⟨rfl, e1q, (by decide : 0 + 0 ≤ _), (by decide : 0 + 0 ≤ _)⟩)
  dsimp only [Pt.U, Pt.locs, Pt.cells, Pt.slots] at X3 l3 y3 z3 st3 hQ3
  subst l3 y3 z3
  obtain ⟨⟨r3, rfl, hr3⟩, N3q, e3q⟩ := hQ3
  have N3 := Fr.app N1 N3q
  refine Go.on (B := T3.setTop (mkF m 10 #[.val (.int p1), .val (.int p2), .val (.int p3), .val (.int p4), .val (.int p5), .val (.int p6), .val (.int r1), .unset, .unset, .unset, .unset, .unset, .unset, .unset, .unset] [(.int r3)])) (fun t k => st3 _ k) ?_
  refine Go.on (B := T3.setTop (mkF m 12 #[.val (.int p1), .val (.int p2), .val (.int p3), .val (.int p4), .val (.int p5), .val (.int p6), .val (.int r1), .val (.int r3), .unset, .unset, .unset, .unset, .unset, .unset, .unset] [])) (fun t k => XS.istore X3.here hx rfl (hb hby at_10) rfl (l' := #[.val (.int p1), .val (.int p2), .val (.int p3), .val (.int p4), .val (.int p5), .val (.int p6), .val (.int r1), .val (.int r3), .unset, .unset, .unset, .unset, .unset, .unset, .unset]) rfl k) ?_
  refine Go.on (B := T3.setTop (mkF m 13 #[.val (.int p1), .val (.int p2), .val (.int p3), .val (.int p4), .val (.int p5), .val (.int p6), .val (.int r1), .val (.int r3), .unset, .unset, .unset, .unset, .unset, .unset, .unset] [(.int p3)])) (fun t k => XS.iloadN X3.here hx rfl (hb hby at_12) rfl k) ?_
  obtain ⟨_, _, ⟨T5, L5, k5, n5⟩, -, X5, ⟨Lc5, hQ5, l5, y5, z5⟩, st5⟩ := Jvm.LawKit.callS X3 hx (y := (⟨"com/example/encours/encours/engine/MoneyIsDigitsPinLaw", "draw", "(I)C"⟩ : MethodName)) hown (mvT hZ (hw _ (List.mem_of_getElem? (i := 0) rfl))) (mvT hZ (hw _ (List.mem_of_getElem? (i := 1) rfl))) (mvT hZ (hw _ (List.mem_of_getElem? (i := 2) rfl))) (mvT hZ (hw _ (List.mem_of_getElem? (i := 3) rfl))) (by decide) (backOf (W := 0) (rdr l Z a0 hw [] p3 h0 n0 Z0) hZ (hw _ (List.mem_of_getElem? (i := 3) rfl)) (hw _ (List.mem_of_getElem? (i := 2) rfl)) (by decide) (by decide)) (g := (mkF m 13 #[.val (.int p1), .val (.int p2), .val (.int p3), .val (.int p4), .val (.int p5), .val (.int p6), .val (.int r1), .val (.int r3), .unset, .unset, .unset, .unset, .unset, .unset, .unset] [(.int p3)])) rfl (by rw [hml]; rfl) (argsL := [(.int p3)]) (rest := []) (lenOf pd_14 rfl) rfl (by show 2 * 0 + _ ≤ _; exact Nat.le_of_eq rfl) (hb hby at_13) (fun _ _ => ⟨rfl, e3q, (by decide : 0 + 0 ≤ _), (by decide : 0 + 0 ≤ _)⟩)
  dsimp only [Pt.U, Pt.locs, Pt.cells, Pt.slots] at X5 l5 y5 z5 st5 hQ5
  subst l5 y5 z5
  obtain ⟨⟨r5, rfl, hr5⟩, N5q, e5q⟩ := hQ5
  have N5 := Fr.app N3 N5q
  refine Go.on (B := T5.setTop (mkF m 16 #[.val (.int p1), .val (.int p2), .val (.int p3), .val (.int p4), .val (.int p5), .val (.int p6), .val (.int r1), .val (.int r3), .unset, .unset, .unset, .unset, .unset, .unset, .unset] [(.int r5)])) (fun t k => st5 _ k) ?_
  refine Go.on (B := T5.setTop (mkF m 18 #[.val (.int p1), .val (.int p2), .val (.int p3), .val (.int p4), .val (.int p5), .val (.int p6), .val (.int r1), .val (.int r3), .val (.int r5), .unset, .unset, .unset, .unset, .unset, .unset] [])) (fun t k => XS.istore X5.here hx rfl (hb hby at_16) rfl (l' := #[.val (.int p1), .val (.int p2), .val (.int p3), .val (.int p4), .val (.int p5), .val (.int p6), .val (.int r1), .val (.int r3), .val (.int r5), .unset, .unset, .unset, .unset, .unset, .unset]) rfl k) ?_
  refine Go.on (B := T5.setTop (mkF m 19 #[.val (.int p1), .val (.int p2), .val (.int p3), .val (.int p4), .val (.int p5), .val (.int p6), .val (.int r1), .val (.int r3), .val (.int r5), .unset, .unset, .unset, .unset, .unset, .unset] [(.int p4)])) (fun t k => XS.iloadN X5.here hx rfl (hb hby at_18) rfl k) ?_
  obtain ⟨_, _, ⟨T7, L7, k7, n7⟩, -, X7, ⟨Lc7, hQ7, l7, y7, z7⟩, st7⟩ := Jvm.LawKit.callS X5 hx (y := (⟨"com/example/encours/encours/engine/MoneyIsDigitsPinLaw", "draw", "(I)C"⟩ : MethodName)) hown (mvT hZ (hw _ (List.mem_of_getElem? (i := 0) rfl))) (mvT hZ (hw _ (List.mem_of_getElem? (i := 1) rfl))) (mvT hZ (hw _ (List.mem_of_getElem? (i := 2) rfl))) (mvT hZ (hw _ (List.mem_of_getElem? (i := 3) rfl))) (by decide) (backOf (W := 0) (rdr l Z a0 hw [] p4 h0 n0 Z0) hZ (hw _ (List.mem_of_getElem? (i := 3) rfl)) (hw _ (List.mem_of_getElem? (i := 2) rfl)) (by decide) (by decide)) (g := (mkF m 19 #[.val (.int p1), .val (.int p2), .val (.int p3), .val (.int p4), .val (.int p5), .val (.int p6), .val (.int r1), .val (.int r3), .val (.int r5), .unset, .unset, .unset, .unset, .unset, .unset] [(.int p4)])) rfl (by rw [hml]; rfl) (argsL := [(.int p4)]) (rest := []) (lenOf pd_14 rfl) rfl (by show 2 * 0 + _ ≤ _; exact Nat.le_of_eq rfl) (hb hby at_19) (fun _ _ => ⟨rfl, e5q, (by decide : 0 + 0 ≤ _), (by decide : 0 + 0 ≤ _)⟩)
  dsimp only [Pt.U, Pt.locs, Pt.cells, Pt.slots] at X7 l7 y7 z7 st7 hQ7
  subst l7 y7 z7
  obtain ⟨⟨r7, rfl, hr7⟩, N7q, e7q⟩ := hQ7
  have N7 := Fr.app N5 N7q
  refine Go.on (B := T7.setTop (mkF m 22 #[.val (.int p1), .val (.int p2), .val (.int p3), .val (.int p4), .val (.int p5), .val (.int p6), .val (.int r1), .val (.int r3), .val (.int r5), .unset, .unset, .unset, .unset, .unset, .unset] [(.int r7)])) (fun t k => st7 _ k) ?_
  refine Go.on (B := T7.setTop (mkF m 24 #[.val (.int p1), .val (.int p2), .val (.int p3), .val (.int p4), .val (.int p5), .val (.int p6), .val (.int r1), .val (.int r3), .val (.int r5), .val (.int r7), .unset, .unset, .unset, .unset, .unset] [])) (fun t k => XS.istore X7.here hx rfl (hb hby at_22) rfl (l' := #[.val (.int p1), .val (.int p2), .val (.int p3), .val (.int p4), .val (.int p5), .val (.int p6), .val (.int r1), .val (.int r3), .val (.int r5), .val (.int r7), .unset, .unset, .unset, .unset, .unset]) rfl k) ?_
  refine Go.on (B := T7.setTop (mkF m 25 #[.val (.int p1), .val (.int p2), .val (.int p3), .val (.int p4), .val (.int p5), .val (.int p6), .val (.int r1), .val (.int r3), .val (.int r5), .val (.int r7), .unset, .unset, .unset, .unset, .unset] [(.int (4 : Int32))])) (fun t k => XS.iconst X7.here hx rfl (hb hby at_24) k) ?_
  obtain ⟨T9, h9, k9, X9, e9, Xe9, A9, st9⟩ := newP X7 hx hZ (hw _ (List.mem_of_getElem? (i := 6) rfl)) e7q (g := (mkF m 25 #[.val (.int p1), .val (.int p2), .val (.int p3), .val (.int p4), .val (.int p5), .val (.int p6), .val (.int r1), .val (.int r3), .val (.int r5), .val (.int r7), .unset, .unset, .unset, .unset, .unset] [(.int (4 : Int32))])) rfl (hb hby at_25) rfl (by decide) (cap := 4) (by decide) (by decide) (by decide) (by decide)
  obtain ⟨b9, gq9⟩ : ∃ z, z = h0.size := ⟨_, rfl⟩
  rw [← gq9] at A9 st9
  have ge_b9 : n0 ≤ b9 := Nat.le_trans Z0 (Nat.le_of_eq gq9.symm)
  have O_1 := O0.ext Xe9
  have Zs2 := Nat.le_trans Z0 Xe9.1
  have V9 : Arv Z h9 b9 k9 .char (4 : Int32) [(.int (0 : Int32)), (.int (0 : Int32)), (.int (0 : Int32)), (.int (0 : Int32))] (.int (0 : Int32)) := (Arv.new A9 (by decide)).pad (pad_rep [] (.int (0 : Int32)) 4)
  refine Go.on (B := T9.setTop (mkF m 27 #[.val (.int p1), .val (.int p2), .val (.int p3), .val (.int p4), .val (.int p5), .val (.int p6), .val (.int r1), .val (.int r3), .val (.int r5), .val (.int r7), .unset, .unset, .unset, .unset, .unset] [(.ref b9)])) (fun t k => st9 _ k) ?_
  refine Go.on (B := T9.setTop (mkF m 29 #[.val (.int p1), .val (.int p2), .val (.int p3), .val (.int p4), .val (.int p5), .val (.int p6), .val (.int r1), .val (.int r3), .val (.int r5), .val (.int r7), .val (.ref b9), .unset, .unset, .unset, .unset] [])) (fun t k => XS.astore X9.here hx rfl (hb hby at_27) rfl rfl (l' := #[.val (.int p1), .val (.int p2), .val (.int p3), .val (.int p4), .val (.int p5), .val (.int p6), .val (.int r1), .val (.int r3), .val (.int r5), .val (.int r7), .val (.ref b9), .unset, .unset, .unset, .unset]) rfl k) ?_
  refine Go.on (B := T9.setTop (mkF m 31 #[.val (.int p1), .val (.int p2), .val (.int p3), .val (.int p4), .val (.int p5), .val (.int p6), .val (.int r1), .val (.int r3), .val (.int r5), .val (.int r7), .val (.ref b9), .unset, .unset, .unset, .unset] [(.ref b9)])) (fun t k => XS.aload X9.here hx rfl (hb hby at_29) rfl rfl k) ?_
  refine Go.on (B := T9.setTop (mkF m 32 #[.val (.int p1), .val (.int p2), .val (.int p3), .val (.int p4), .val (.int p5), .val (.int p6), .val (.int r1), .val (.int r3), .val (.int r5), .val (.int r7), .val (.ref b9), .unset, .unset, .unset, .unset] [(.int (0 : Int32)), (.ref b9)])) (fun t k => XS.iconst X9.here hx rfl (hb hby at_31) k) ?_
  refine Go.on (B := T9.setTop (mkF m 34 #[.val (.int p1), .val (.int p2), .val (.int p3), .val (.int p4), .val (.int p5), .val (.int p6), .val (.int r1), .val (.int r3), .val (.int r5), .val (.int r7), .val (.ref b9), .unset, .unset, .unset, .unset] [(.int r1), (.int (0 : Int32)), (.ref b9)])) (fun t k => XS.iload X9.here hx rfl (hb hby at_32) rfl k) ?_
  obtain ⟨cl10, Ar10, qq10, Sz10, Ng10, Hh10, Gg10⟩ := id V9
  have hin10 : ¬ ((0 : Int32) < 0 ∨ cl10.slots.size ≤ ((0 : Int32)).toNatClampNeg) := inb_of Sz10 ⟨by decide, by decide⟩
  obtain ⟨T10, h10, X10, e10, W10, st10⟩ := stC X9 hx hZ e9 Ar10 (j := (0 : Int32)) hin10 (g := (mkF m 34 #[.val (.int p1), .val (.int p2), .val (.int p3), .val (.int p4), .val (.int p5), .val (.int p6), .val (.int r1), .val (.int r3), .val (.int r5), .val (.int r7), .val (.ref b9), .unset, .unset, .unset, .unset] [(.int r1), (.int (0 : Int32)), (.ref b9)])) rfl rfl (hb hby at_34)
  have V10 : Arv Z h10 b9 k9 .char (4 : Int32) [(.int (nar .char r1)), (.int (0 : Int32)), (.int (0 : Int32)), (.int (0 : Int32))] (.int (0 : Int32)) := Arv.set Ar10 qq10 Sz10 Ng10 Hh10 Gg10 (fits_nar_char _) W10 0 rfl (Nat.le_of_ble_eq_true rfl)
  have N10 := Fr.snoc X10 N7 ge_b9
  have O_3 := O_1.wr W10 ge_b9
  have Zs4 := Nat.le_trans Zs2 (Keep.of_wr W10).1
  refine Go.on (B := T10.setTop (mkF m 35 #[.val (.int p1), .val (.int p2), .val (.int p3), .val (.int p4), .val (.int p5), .val (.int p6), .val (.int r1), .val (.int r3), .val (.int r5), .val (.int r7), .val (.ref b9), .unset, .unset, .unset, .unset] [])) (fun t k => st10 _ k) ?_
  refine Go.on (B := T10.setTop (mkF m 37 #[.val (.int p1), .val (.int p2), .val (.int p3), .val (.int p4), .val (.int p5), .val (.int p6), .val (.int r1), .val (.int r3), .val (.int r5), .val (.int r7), .val (.ref b9), .unset, .unset, .unset, .unset] [(.ref b9)])) (fun t k => XS.aload X10.here hx rfl (hb hby at_35) rfl rfl k) ?_
  refine Go.on (B := T10.setTop (mkF m 38 #[.val (.int p1), .val (.int p2), .val (.int p3), .val (.int p4), .val (.int p5), .val (.int p6), .val (.int r1), .val (.int r3), .val (.int r5), .val (.int r7), .val (.ref b9), .unset, .unset, .unset, .unset] [(.int (1 : Int32)), (.ref b9)])) (fun t k => XS.iconst X10.here hx rfl (hb hby at_37) k) ?_
  refine Go.on (B := T10.setTop (mkF m 40 #[.val (.int p1), .val (.int p2), .val (.int p3), .val (.int p4), .val (.int p5), .val (.int p6), .val (.int r1), .val (.int r3), .val (.int r5), .val (.int r7), .val (.ref b9), .unset, .unset, .unset, .unset] [(.int r3), (.int (1 : Int32)), (.ref b9)])) (fun t k => XS.iload X10.here hx rfl (hb hby at_38) rfl k) ?_
  obtain ⟨cl11, Ar11, qq11, Sz11, Ng11, Hh11, Gg11⟩ := id V10
  have hin11 : ¬ ((1 : Int32) < 0 ∨ cl11.slots.size ≤ ((1 : Int32)).toNatClampNeg) := inb_of Sz11 ⟨by decide, by decide⟩
  obtain ⟨T11, h11, X11, e11, W11, st11⟩ := stC X10 hx hZ e10 Ar11 (j := (1 : Int32)) hin11 (g := (mkF m 40 #[.val (.int p1), .val (.int p2), .val (.int p3), .val (.int p4), .val (.int p5), .val (.int p6), .val (.int r1), .val (.int r3), .val (.int r5), .val (.int r7), .val (.ref b9), .unset, .unset, .unset, .unset] [(.int r3), (.int (1 : Int32)), (.ref b9)])) rfl rfl (hb hby at_40)
  have V11 : Arv Z h11 b9 k9 .char (4 : Int32) [(.int (nar .char r1)), (.int (nar .char r3)), (.int (0 : Int32)), (.int (0 : Int32))] (.int (0 : Int32)) := Arv.set Ar11 qq11 Sz11 Ng11 Hh11 Gg11 (fits_nar_char _) W11 1 rfl (Nat.le_of_ble_eq_true rfl)
  have N11 := Fr.snoc X11 N10 ge_b9
  have O_5 := O_3.wr W11 ge_b9
  have Zs6 := Nat.le_trans Zs4 (Keep.of_wr W11).1
  refine Go.on (B := T11.setTop (mkF m 41 #[.val (.int p1), .val (.int p2), .val (.int p3), .val (.int p4), .val (.int p5), .val (.int p6), .val (.int r1), .val (.int r3), .val (.int r5), .val (.int r7), .val (.ref b9), .unset, .unset, .unset, .unset] [])) (fun t k => st11 _ k) ?_
  refine Go.on (B := T11.setTop (mkF m 43 #[.val (.int p1), .val (.int p2), .val (.int p3), .val (.int p4), .val (.int p5), .val (.int p6), .val (.int r1), .val (.int r3), .val (.int r5), .val (.int r7), .val (.ref b9), .unset, .unset, .unset, .unset] [(.ref b9)])) (fun t k => XS.aload X11.here hx rfl (hb hby at_41) rfl rfl k) ?_
  refine Go.on (B := T11.setTop (mkF m 44 #[.val (.int p1), .val (.int p2), .val (.int p3), .val (.int p4), .val (.int p5), .val (.int p6), .val (.int r1), .val (.int r3), .val (.int r5), .val (.int r7), .val (.ref b9), .unset, .unset, .unset, .unset] [(.int (2 : Int32)), (.ref b9)])) (fun t k => XS.iconst X11.here hx rfl (hb hby at_43) k) ?_
  refine Go.on (B := T11.setTop (mkF m 46 #[.val (.int p1), .val (.int p2), .val (.int p3), .val (.int p4), .val (.int p5), .val (.int p6), .val (.int r1), .val (.int r3), .val (.int r5), .val (.int r7), .val (.ref b9), .unset, .unset, .unset, .unset] [(.int r5), (.int (2 : Int32)), (.ref b9)])) (fun t k => XS.iload X11.here hx rfl (hb hby at_44) rfl k) ?_
  obtain ⟨cl12, Ar12, qq12, Sz12, Ng12, Hh12, Gg12⟩ := id V11
  have hin12 : ¬ ((2 : Int32) < 0 ∨ cl12.slots.size ≤ ((2 : Int32)).toNatClampNeg) := inb_of Sz12 ⟨by decide, by decide⟩
  obtain ⟨T12, h12, X12, e12, W12, st12⟩ := stC X11 hx hZ e11 Ar12 (j := (2 : Int32)) hin12 (g := (mkF m 46 #[.val (.int p1), .val (.int p2), .val (.int p3), .val (.int p4), .val (.int p5), .val (.int p6), .val (.int r1), .val (.int r3), .val (.int r5), .val (.int r7), .val (.ref b9), .unset, .unset, .unset, .unset] [(.int r5), (.int (2 : Int32)), (.ref b9)])) rfl rfl (hb hby at_46)
  have V12 : Arv Z h12 b9 k9 .char (4 : Int32) [(.int (nar .char r1)), (.int (nar .char r3)), (.int (nar .char r5)), (.int (0 : Int32))] (.int (0 : Int32)) := Arv.set Ar12 qq12 Sz12 Ng12 Hh12 Gg12 (fits_nar_char _) W12 2 rfl (Nat.le_of_ble_eq_true rfl)
  have N12 := Fr.snoc X12 N11 ge_b9
  have O_7 := O_5.wr W12 ge_b9
  have Zs8 := Nat.le_trans Zs6 (Keep.of_wr W12).1
  refine Go.on (B := T12.setTop (mkF m 47 #[.val (.int p1), .val (.int p2), .val (.int p3), .val (.int p4), .val (.int p5), .val (.int p6), .val (.int r1), .val (.int r3), .val (.int r5), .val (.int r7), .val (.ref b9), .unset, .unset, .unset, .unset] [])) (fun t k => st12 _ k) ?_
  refine Go.on (B := T12.setTop (mkF m 49 #[.val (.int p1), .val (.int p2), .val (.int p3), .val (.int p4), .val (.int p5), .val (.int p6), .val (.int r1), .val (.int r3), .val (.int r5), .val (.int r7), .val (.ref b9), .unset, .unset, .unset, .unset] [(.ref b9)])) (fun t k => XS.aload X12.here hx rfl (hb hby at_47) rfl rfl k) ?_
  refine Go.on (B := T12.setTop (mkF m 50 #[.val (.int p1), .val (.int p2), .val (.int p3), .val (.int p4), .val (.int p5), .val (.int p6), .val (.int r1), .val (.int r3), .val (.int r5), .val (.int r7), .val (.ref b9), .unset, .unset, .unset, .unset] [(.int (3 : Int32)), (.ref b9)])) (fun t k => XS.iconst X12.here hx rfl (hb hby at_49) k) ?_
  refine Go.on (B := T12.setTop (mkF m 52 #[.val (.int p1), .val (.int p2), .val (.int p3), .val (.int p4), .val (.int p5), .val (.int p6), .val (.int r1), .val (.int r3), .val (.int r5), .val (.int r7), .val (.ref b9), .unset, .unset, .unset, .unset] [(.int r7), (.int (3 : Int32)), (.ref b9)])) (fun t k => XS.iload X12.here hx rfl (hb hby at_50) rfl k) ?_
  obtain ⟨cl13, Ar13, qq13, Sz13, Ng13, Hh13, Gg13⟩ := id V12
  have hin13 : ¬ ((3 : Int32) < 0 ∨ cl13.slots.size ≤ ((3 : Int32)).toNatClampNeg) := inb_of Sz13 ⟨by decide, by decide⟩
  obtain ⟨T13, h13, X13, e13, W13, st13⟩ := stC X12 hx hZ e12 Ar13 (j := (3 : Int32)) hin13 (g := (mkF m 52 #[.val (.int p1), .val (.int p2), .val (.int p3), .val (.int p4), .val (.int p5), .val (.int p6), .val (.int r1), .val (.int r3), .val (.int r5), .val (.int r7), .val (.ref b9), .unset, .unset, .unset, .unset] [(.int r7), (.int (3 : Int32)), (.ref b9)])) rfl rfl (hb hby at_52)
  have V13 : Arv Z h13 b9 k9 .char (4 : Int32) [(.int (nar .char r1)), (.int (nar .char r3)), (.int (nar .char r5)), (.int (nar .char r7))] (.int (0 : Int32)) := Arv.set Ar13 qq13 Sz13 Ng13 Hh13 Gg13 (fits_nar_char _) W13 3 rfl (Nat.le_of_ble_eq_true rfl)
  have N13 := Fr.snoc X13 N12 ge_b9
  have O_9 := O_7.wr W13 ge_b9
  have Zs10 := Nat.le_trans Zs8 (Keep.of_wr W13).1
  refine Go.on (B := T13.setTop (mkF m 53 #[.val (.int p1), .val (.int p2), .val (.int p3), .val (.int p4), .val (.int p5), .val (.int p6), .val (.int r1), .val (.int r3), .val (.int r5), .val (.int r7), .val (.ref b9), .unset, .unset, .unset, .unset] [])) (fun t k => st13 _ k) ?_
  rw [own_narc r1 hr1, own_narc r3 hr3, own_narc r5 hr5, own_narc r7 hr7] at V13
  obtain ⟨T14, h14, X14, e14, Xe14, A14, D14, Ue14, st14⟩ := newO X13 hx hZ hown (hw _ (List.mem_of_getElem? (i := 7) rfl)) (hw _ (List.mem_of_getElem? (i := 8) rfl)) (hw _ (List.mem_of_getElem? (i := 9) rfl)) e13 (g := (mkF m 53 #[.val (.int p1), .val (.int p2), .val (.int p3), .val (.int p4), .val (.int p5), .val (.int p6), .val (.int r1), .val (.int r3), .val (.int r5), .val (.int r7), .val (.ref b9), .unset, .unset, .unset, .unset] [])) rfl (hb hby at_53) (by decide) (by decide)
  obtain ⟨b14, gq14⟩ : ∃ z, z = h13.size := ⟨_, rfl⟩
  rw [← gq14] at A14 D14 Ue14 st14
  have ge_b14 : n0 ≤ b14 := Nat.le_trans Zs10 (Nat.le_of_eq gq14.symm)
  have ne_b9_b14 : b9 ≠ b14 := Nat.ne_of_lt (Nat.lt_of_lt_of_le V13.lt (Nat.le_of_eq gq14.symm))
  have O_11 := O_9.ext Xe14
  have f12 := V13.ext Xe14
  have Zs13 := Nat.le_trans Zs10 Xe14.1
  have F14_coder : Fld Z h14 b14 "java/lang/String" "coder" "B" (.int (0 : Int32)) := D14 (Or.inr (hw _ (List.mem_of_getElem? (i := 33) rfl))) (ty := .byte) (by decide)
  have F14_value : Fld Z h14 b14 "java/lang/String" "value" "[B" .null := D14 (Or.inr (hw _ (List.mem_of_getElem? (i := 35) rfl))) (ty := (.array .byte)) (by decide)
  refine Go.on (B := T14.setTop (mkF m 56 #[.val (.int p1), .val (.int p2), .val (.int p3), .val (.int p4), .val (.int p5), .val (.int p6), .val (.int r1), .val (.int r3), .val (.int r5), .val (.int r7), .val (.ref b9), .unset, .unset, .unset, .unset] [(.ref b14)])) (fun t k => st14 _ k) ?_
  refine Go.on (B := T14.setTop (mkF m 57 #[.val (.int p1), .val (.int p2), .val (.int p3), .val (.int p4), .val (.int p5), .val (.int p6), .val (.int r1), .val (.int r3), .val (.int r5), .val (.int r7), .val (.ref b9), .unset, .unset, .unset, .unset] [(.ref b14), (.ref b14)])) (fun t k => XS.dup X14.here hx rfl (hb hby at_56) rfl rfl k) ?_
  refine Go.on (B := T14.setTop (mkF m 59 #[.val (.int p1), .val (.int p2), .val (.int p3), .val (.int p4), .val (.int p5), .val (.int p6), .val (.int r1), .val (.int r3), .val (.int r5), .val (.int r7), .val (.ref b9), .unset, .unset, .unset, .unset] [(.ref b9), (.ref b14), (.ref b14)])) (fun t k => XS.aload X14.here hx rfl (hb hby at_57) rfl rfl k) ?_
  obtain ⟨_, _, ⟨T15, L15, k15, n15⟩, -, X15, ⟨Lc15, hQ15, l15, y15, z15⟩, st15⟩ := X14.specialBack hx (y := (⟨"java/lang/String", "<init>", "([C)V"⟩ : MethodName)) rfl hown (mvT hZ (hw _ (List.mem_of_getElem? (i := 10) rfl))) (mvT hZ (hw _ (List.mem_of_getElem? (i := 11) rfl))) (mvT hZ (hw _ (List.mem_of_getElem? (i := 12) rfl))) (by decide) (backOf (W := 1) (ri1_4 l Z a0 hw [] b14 b9 k9 r1 r3 r5 r7 G1 h14 n0 Zs13 A14 F14_value F14_coder ge_b14 f12 ne_b9_b14 hr1 hr3 hr5 hr7 O_11 S_cs S_ad S_hi S_lo P5) hZ (hw _ (List.mem_of_getElem? (i := 12) rfl)) (hw _ (List.mem_of_getElem? (i := 9) rfl)) (by decide) (by decide)) (g := (mkF m 59 #[.val (.int p1), .val (.int p2), .val (.int p3), .val (.int p4), .val (.int p5), .val (.int p6), .val (.int r1), .val (.int r3), .val (.int r5), .val (.int r7), .val (.ref b9), .unset, .unset, .unset, .unset] [(.ref b9), (.ref b14), (.ref b14)])) rfl (by rw [hml]; rfl) (Steps.refl _) (a := b14) (argsL := [(.ref b9)]) (rest := [(.ref b14)]) (lenOf pd_15 rfl) rfl (by show 2 * 0 + _ ≤ _; exact Nat.le_of_eq rfl) (hb hby at_59) (fun _ _ => ⟨rfl, e14, (by decide : 2 + 2 ≤ _), (by decide : 8 + 12 ≤ _)⟩)
  dsimp only [Pt.U, Pt.locs, Pt.cells, Pt.slots] at X15 l15 y15 z15 st15 hQ15
  subst l15 y15 z15
  rcases hQ15 with ⟨rfl, N15q, K15q, E15q, y15, ky15, sx15, Fv15, ⟨Fc15, Vy15, hx15_0, hx15_1, hx15_2, hx15_3⟩ | ⟨Fc15, Vy15⟩⟩
  · have N15 := Fr.app N13 N15q
    have ne_b9_y15 : b9 ≠ y15 := Nat.ne_of_lt (Nat.lt_of_lt_of_le f12.lt sx15)
    have ne_b14_y15 : b14 ≠ y15 := Nat.ne_of_lt (Nat.lt_of_lt_of_le A14.lt sx15)
    have O_14 := O_11.keep K15q (allS ge_b14 all0)
    have f15 := f12.keep K15q (ninS ne_b9_b14 nin0)
    have f16 := A14.keep K15q
    have Zs17 := Nat.le_trans Zs13 K15q.1
    refine Go.on (B := T15.setTop (mkF m 62 #[.val (.int p1), .val (.int p2), .val (.int p3), .val (.int p4), .val (.int p5), .val (.int p6), .val (.int r1), .val (.int r3), .val (.int r5), .val (.int r7), .val (.ref b9), .unset, .unset, .unset, .unset] [(.ref b14)])) (fun t k => st15.trans k) ?_
    refine Go.on (B := T15.setTop (mkF m 64 #[.val (.int p1), .val (.int p2), .val (.int p3), .val (.int p4), .val (.int p5), .val (.int p6), .val (.int r1), .val (.int r3), .val (.int r5), .val (.int r7), .val (.ref b9), .val (.ref b14), .unset, .unset, .unset] [])) (fun t k => XS.astore X15.here hx rfl (hb hby at_62) rfl rfl (l' := #[.val (.int p1), .val (.int p2), .val (.int p3), .val (.int p4), .val (.int p5), .val (.int p6), .val (.int r1), .val (.int r3), .val (.int r5), .val (.int r7), .val (.ref b9), .val (.ref b14), .unset, .unset, .unset]) rfl k) ?_
    refine Go.on (B := T15.setTop (mkF m 66 #[.val (.int p1), .val (.int p2), .val (.int p3), .val (.int p4), .val (.int p5), .val (.int p6), .val (.int r1), .val (.int r3), .val (.int r5), .val (.int r7), .val (.ref b9), .val (.ref b14), .unset, .unset, .unset] [(.int p5)])) (fun t k => XS.iload X15.here hx rfl (hb hby at_64) rfl k) ?_
    refine Go.on (B := T15.setTop (mkF m 68 #[.val (.int p1), .val (.int p2), .val (.int p3), .val (.int p4), .val (.int p5), .val (.int p6), .val (.int r1), .val (.int r3), .val (.int r5), .val (.int r7), .val (.ref b9), .val (.ref b14), .unset, .unset, .unset] [(.int p6), (.int p5)])) (fun t k => XS.iload X15.here hx rfl (hb hby at_66) rfl k) ?_
    by_cases hc68_16 : p5 < p6
    · refine Go.on (B := T15.setTop (mkF m 89 #[.val (.int p1), .val (.int p2), .val (.int p3), .val (.int p4), .val (.int p5), .val (.int p6), .val (.int r1), .val (.int r3), .val (.int r5), .val (.int r7), .val (.ref b9), .val (.ref b14), .unset, .unset, .unset] [])) (fun t k => XS.icmpYes X15.here hx rfl (pc0 := 68) (pc' := 89) rfl (hb hby at_68) rfl (tlt hc68_16).1 (by decide) (by decide) k) ?_
      refine Go.on (B := T15.setTop (mkF m 91 #[.val (.int p1), .val (.int p2), .val (.int p3), .val (.int p4), .val (.int p5), .val (.int p6), .val (.int r1), .val (.int r3), .val (.int r5), .val (.int r7), .val (.ref b9), .val (.ref b14), .unset, .unset, .unset] [(.int p5)])) (fun t k => XS.iload X15.here hx rfl (hb hby at_89) rfl k) ?_
      refine Go.on (B := T15.setTop (mkF m 93 #[.val (.int p1), .val (.int p2), .val (.int p3), .val (.int p4), .val (.int p5), .val (.int p6), .val (.int r1), .val (.int r3), .val (.int r5), .val (.int r7), .val (.ref b9), .val (.ref b14), .unset, .unset, .unset] [(.int (2147483647 : Int32)), (.int p5)])) (fun t k => X15.ldcInt hx hown (mvT hZ (hw _ (List.mem_of_getElem? (i := 36) rfl))) (g := (mkF m 91 #[.val (.int p1), .val (.int p2), .val (.int p3), .val (.int p4), .val (.int p5), .val (.int p6), .val (.int r1), .val (.int r3), .val (.int r5), .val (.int r7), .val (.ref b9), .val (.ref b14), .unset, .unset, .unset] [(.int p5)])) rfl (hb hby at_91) _ k) ?_
      refine Go.on (B := T15.setTop (mkF m 94 #[.val (.int p1), .val (.int p2), .val (.int p3), .val (.int p4), .val (.int p5), .val (.int p6), .val (.int r1), .val (.int r3), .val (.int r5), .val (.int r7), .val (.ref b9), .val (.ref b14), .unset, .unset, .unset] [(.int (p5 &&& (2147483647 : Int32)))])) (fun t k => XS.iand X15.here hx rfl (hb hby at_93) rfl k) ?_
      refine Go.on (B := T15.setTop (mkF m 95 #[.val (.int p1), .val (.int p2), .val (.int p3), .val (.int p4), .val (.int p5), .val (.int p6), .val (.int r1), .val (.int r3), .val (.int r5), .val (.int r7), .val (.ref b9), .val (.ref b14), .unset, .unset, .unset] [(.int (5 : Int32)), (.int (p5 &&& (2147483647 : Int32)))])) (fun t k => XS.iconst X15.here hx rfl (hb hby at_94) k) ?_
      refine Go.on (B := T15.setTop (mkF m 96 #[.val (.int p1), .val (.int p2), .val (.int p3), .val (.int p4), .val (.int p5), .val (.int p6), .val (.int r1), .val (.int r3), .val (.int r5), .val (.int r7), .val (.ref b9), .val (.ref b14), .unset, .unset, .unset] [(.int ((p5 &&& (2147483647 : Int32)) % (5 : Int32)))])) (fun t k => iremM X15 hx rfl (hb hby at_95) rfl (by decide) k) ?_
      generalize hv96_17 : ((p5 &&& (2147483647 : Int32)) % (5 : Int32)) = v96_17
      refine Go.on (B := T15.setTop (mkF m 98 #[.val (.int p1), .val (.int p2), .val (.int p3), .val (.int p4), .val (.int p5), .val (.int p6), .val (.int r1), .val (.int r3), .val (.int r5), .val (.int r7), .val (.ref b9), .val (.ref b14), .val (.int v96_17), .unset, .unset] [])) (fun t k => XS.istore X15.here hx rfl (hb hby at_96) rfl (l' := #[.val (.int p1), .val (.int p2), .val (.int p3), .val (.int p4), .val (.int p5), .val (.int p6), .val (.int r1), .val (.int r3), .val (.int r5), .val (.int r7), .val (.ref b9), .val (.ref b14), .val (.int v96_17), .unset, .unset]) rfl k) ?_
      refine Go.on (B := T15.setTop (mkF m 100 #[.val (.int p1), .val (.int p2), .val (.int p3), .val (.int p4), .val (.int p5), .val (.int p6), .val (.int r1), .val (.int r3), .val (.int r5), .val (.int r7), .val (.ref b9), .val (.ref b14), .val (.int v96_17), .unset, .unset] [(.int p6)])) (fun t k => XS.iload X15.here hx rfl (hb hby at_98) rfl k) ?_
      refine Go.on (B := T15.setTop (mkF m 102 #[.val (.int p1), .val (.int p2), .val (.int p3), .val (.int p4), .val (.int p5), .val (.int p6), .val (.int r1), .val (.int r3), .val (.int r5), .val (.int r7), .val (.ref b9), .val (.ref b14), .val (.int v96_17), .unset, .unset] [(.int (2147483647 : Int32)), (.int p6)])) (fun t k => X15.ldcInt hx hown (mvT hZ (hw _ (List.mem_of_getElem? (i := 36) rfl))) (g := (mkF m 100 #[.val (.int p1), .val (.int p2), .val (.int p3), .val (.int p4), .val (.int p5), .val (.int p6), .val (.int r1), .val (.int r3), .val (.int r5), .val (.int r7), .val (.ref b9), .val (.ref b14), .val (.int v96_17), .unset, .unset] [(.int p6)])) rfl (hb hby at_100) _ k) ?_
      refine Go.on (B := T15.setTop (mkF m 103 #[.val (.int p1), .val (.int p2), .val (.int p3), .val (.int p4), .val (.int p5), .val (.int p6), .val (.int r1), .val (.int r3), .val (.int r5), .val (.int r7), .val (.ref b9), .val (.ref b14), .val (.int v96_17), .unset, .unset] [(.int (p6 &&& (2147483647 : Int32)))])) (fun t k => XS.iand X15.here hx rfl (hb hby at_102) rfl k) ?_
      refine Go.on (B := T15.setTop (mkF m 104 #[.val (.int p1), .val (.int p2), .val (.int p3), .val (.int p4), .val (.int p5), .val (.int p6), .val (.int r1), .val (.int r3), .val (.int r5), .val (.int r7), .val (.ref b9), .val (.ref b14), .val (.int v96_17), .unset, .unset] [(.int (5 : Int32)), (.int (p6 &&& (2147483647 : Int32)))])) (fun t k => XS.iconst X15.here hx rfl (hb hby at_103) k) ?_
      refine Go.on (B := T15.setTop (mkF m 105 #[.val (.int p1), .val (.int p2), .val (.int p3), .val (.int p4), .val (.int p5), .val (.int p6), .val (.int r1), .val (.int r3), .val (.int r5), .val (.int r7), .val (.ref b9), .val (.ref b14), .val (.int v96_17), .unset, .unset] [(.int ((p6 &&& (2147483647 : Int32)) % (5 : Int32)))])) (fun t k => iremM X15 hx rfl (hb hby at_104) rfl (by decide) k) ?_
      generalize hv105_18 : ((p6 &&& (2147483647 : Int32)) % (5 : Int32)) = v105_18
      refine Go.on (B := T15.setTop (mkF m 107 #[.val (.int p1), .val (.int p2), .val (.int p3), .val (.int p4), .val (.int p5), .val (.int p6), .val (.int r1), .val (.int r3), .val (.int r5), .val (.int r7), .val (.ref b9), .val (.ref b14), .val (.int v96_17), .val (.int v105_18), .unset] [])) (fun t k => XS.istore X15.here hx rfl (hb hby at_105) rfl (l' := #[.val (.int p1), .val (.int p2), .val (.int p3), .val (.int p4), .val (.int p5), .val (.int p6), .val (.int r1), .val (.int r3), .val (.int r5), .val (.int r7), .val (.ref b9), .val (.ref b14), .val (.int v96_17), .val (.int v105_18), .unset]) rfl k) ?_
      have hs0 := own_m5 _ _ hv96_17
      have he0 := own_m5 _ _ hv105_18
      refine Go.on (B := T15.setTop (mkF m 109 #[.val (.int p1), .val (.int p2), .val (.int p3), .val (.int p4), .val (.int p5), .val (.int p6), .val (.int r1), .val (.int r3), .val (.int r5), .val (.int r7), .val (.ref b9), .val (.ref b14), .val (.int v96_17), .val (.int v105_18), .unset] [(.int v96_17)])) (fun t k => XS.iload X15.here hx rfl (hb hby at_107) rfl k) ?_
      refine Go.on (B := T15.setTop (mkF m 111 #[.val (.int p1), .val (.int p2), .val (.int p3), .val (.int p4), .val (.int p5), .val (.int p6), .val (.int r1), .val (.int r3), .val (.int r5), .val (.int r7), .val (.ref b9), .val (.ref b14), .val (.int v96_17), .val (.int v105_18), .unset] [(.int v105_18), (.int v96_17)])) (fun t k => XS.iload X15.here hx rfl (hb hby at_109) rfl k) ?_
      by_cases hc111_19 : v96_17 < v105_18
      · refine Go.on (B := T15.setTop (mkF m 114 #[.val (.int p1), .val (.int p2), .val (.int p3), .val (.int p4), .val (.int p5), .val (.int p6), .val (.int r1), .val (.int r3), .val (.int r5), .val (.int r7), .val (.ref b9), .val (.ref b14), .val (.int v96_17), .val (.int v105_18), .unset] [])) (fun t k => XS.icmpNo X15.here hx rfl (hb hby at_111) rfl (tlt hc111_19).2.1 k) ?_
        refine Go.on (B := T15.setTop (mkF m 115 #[.val (.int p1), .val (.int p2), .val (.int p3), .val (.int p4), .val (.int p5), .val (.int p6), .val (.int r1), .val (.int r3), .val (.int r5), .val (.int r7), .val (.ref b9), .val (.ref b14), .val (.int v96_17), .val (.int v105_18), .unset] [(.int (0 : Int32))])) (fun t k => XS.iconst X15.here hx rfl (hb hby at_114) k) ?_
        refine Go.on (B := T15.setTop (mkF m 117 #[.val (.int p1), .val (.int p2), .val (.int p3), .val (.int p4), .val (.int p5), .val (.int p6), .val (.int r1), .val (.int r3), .val (.int r5), .val (.int r7), .val (.ref b9), .val (.ref b14), .val (.int v96_17), .val (.int v105_18), .unset] [(.int v96_17), (.int (0 : Int32))])) (fun t k => XS.iload X15.here hx rfl (hb hby at_115) rfl k) ?_
        refine Go.on (B := T15.setTop (mkF m 119 #[.val (.int p1), .val (.int p2), .val (.int p3), .val (.int p4), .val (.int p5), .val (.int p6), .val (.int r1), .val (.int r3), .val (.int r5), .val (.int r7), .val (.ref b9), .val (.ref b14), .val (.int v96_17), .val (.int v105_18), .unset] [(.int v105_18), (.int v96_17), (.int (0 : Int32))])) (fun t k => XS.iload X15.here hx rfl (hb hby at_117) rfl k) ?_
        refine Go.on (B := T15.setTop (mkF m 121 #[.val (.int p1), .val (.int p2), .val (.int p3), .val (.int p4), .val (.int p5), .val (.int p6), .val (.int r1), .val (.int r3), .val (.int r5), .val (.int r7), .val (.ref b9), .val (.ref b14), .val (.int v96_17), .val (.int v105_18), .unset] [(.int r1), (.int v105_18), (.int v96_17), (.int (0 : Int32))])) (fun t k => XS.iload X15.here hx rfl (hb hby at_119) rfl k) ?_
        obtain ⟨_, _, ⟨T20, L20, k20, n20⟩, -, X20, ⟨Lc20, hQ20, l20, y20, z20⟩, st20⟩ := Jvm.LawKit.callS X15 hx (y := (⟨"com/example/encours/encours/engine/MoneyIsDigitsPinLaw", "ok", "(IIIC)Z"⟩ : MethodName)) hown (mvT hZ (hw _ (List.mem_of_getElem? (i := 37) rfl))) (mvT hZ (hw _ (List.mem_of_getElem? (i := 38) rfl))) (mvT hZ (hw _ (List.mem_of_getElem? (i := 2) rfl))) (mvT hZ (hw _ (List.mem_of_getElem? (i := 39) rfl))) (by decide) (backOf (W := 0) (rok l Z a0 hw [] (0 : Int32) v96_17 v105_18 r1 T15.heap n0 Zs17) hZ (hw _ (List.mem_of_getElem? (i := 39) rfl)) (hw _ (List.mem_of_getElem? (i := 2) rfl)) (by decide) (by decide)) (g := (mkF m 121 #[.val (.int p1), .val (.int p2), .val (.int p3), .val (.int p4), .val (.int p5), .val (.int p6), .val (.int r1), .val (.int r3), .val (.int r5), .val (.int r7), .val (.ref b9), .val (.ref b14), .val (.int v96_17), .val (.int v105_18), .unset] [(.int r1), (.int v105_18), (.int v96_17), (.int (0 : Int32))])) rfl (by rw [hml]; rfl) (argsL := [(.int (0 : Int32)), (.int v96_17), (.int v105_18), (.int r1)]) (rest := []) (lenOf pd_16 rfl) rfl (by show 2 * 0 + _ ≤ _; exact Nat.le_of_eq rfl) (hb hby at_121) (fun _ _ => ⟨rfl, rfl, (by decide : 4 + 0 ≤ _), (by decide : 20 + 0 ≤ _)⟩)
        dsimp only [Pt.U, Pt.locs, Pt.cells, Pt.slots] at X20 l20 y20 z20 st20 hQ20
        subst l20 y20 z20
        rcases hQ20 with ⟨⟨_, rfl, ⟨rfl, hd20⟩ | ⟨rfl, hd20⟩⟩, N20q, e20q⟩
        · have N20 := Fr.app N15 N20q
          refine Go.on (B := T20.setTop (mkF m 124 #[.val (.int p1), .val (.int p2), .val (.int p3), .val (.int p4), .val (.int p5), .val (.int p6), .val (.int r1), .val (.int r3), .val (.int r5), .val (.int r7), .val (.ref b9), .val (.ref b14), .val (.int v96_17), .val (.int v105_18), .unset] [(.int (1 : Int32))])) (fun t k => st20 _ k) ?_
          have hc124_21 : ¬ ((1 : Int32) = (0 : Int32)) := by decide
          refine Go.on (B := T20.setTop (mkF m 127 #[.val (.int p1), .val (.int p2), .val (.int p3), .val (.int p4), .val (.int p5), .val (.int p6), .val (.int r1), .val (.int r3), .val (.int r5), .val (.int r7), .val (.ref b9), .val (.ref b14), .val (.int v96_17), .val (.int v105_18), .unset] [])) (fun t k => XS.ifNo X20.here hx rfl (hb hby at_124) rfl ((if0 _ _).trans (feq hc124_21).1) k) ?_
          refine Go.on (B := T20.setTop (mkF m 128 #[.val (.int p1), .val (.int p2), .val (.int p3), .val (.int p4), .val (.int p5), .val (.int p6), .val (.int r1), .val (.int r3), .val (.int r5), .val (.int r7), .val (.ref b9), .val (.ref b14), .val (.int v96_17), .val (.int v105_18), .unset] [(.int (1 : Int32))])) (fun t k => XS.iconst X20.here hx rfl (hb hby at_127) k) ?_
          refine Go.on (B := T20.setTop (mkF m 130 #[.val (.int p1), .val (.int p2), .val (.int p3), .val (.int p4), .val (.int p5), .val (.int p6), .val (.int r1), .val (.int r3), .val (.int r5), .val (.int r7), .val (.ref b9), .val (.ref b14), .val (.int v96_17), .val (.int v105_18), .unset] [(.int v96_17), (.int (1 : Int32))])) (fun t k => XS.iload X20.here hx rfl (hb hby at_128) rfl k) ?_
          refine Go.on (B := T20.setTop (mkF m 132 #[.val (.int p1), .val (.int p2), .val (.int p3), .val (.int p4), .val (.int p5), .val (.int p6), .val (.int r1), .val (.int r3), .val (.int r5), .val (.int r7), .val (.ref b9), .val (.ref b14), .val (.int v96_17), .val (.int v105_18), .unset] [(.int v105_18), (.int v96_17), (.int (1 : Int32))])) (fun t k => XS.iload X20.here hx rfl (hb hby at_130) rfl k) ?_
          refine Go.on (B := T20.setTop (mkF m 134 #[.val (.int p1), .val (.int p2), .val (.int p3), .val (.int p4), .val (.int p5), .val (.int p6), .val (.int r1), .val (.int r3), .val (.int r5), .val (.int r7), .val (.ref b9), .val (.ref b14), .val (.int v96_17), .val (.int v105_18), .unset] [(.int r3), (.int v105_18), (.int v96_17), (.int (1 : Int32))])) (fun t k => XS.iload X20.here hx rfl (hb hby at_132) rfl k) ?_
          obtain ⟨_, _, ⟨T22, L22, k22, n22⟩, -, X22, ⟨Lc22, hQ22, l22, y22, z22⟩, st22⟩ := Jvm.LawKit.callS X20 hx (y := (⟨"com/example/encours/encours/engine/MoneyIsDigitsPinLaw", "ok", "(IIIC)Z"⟩ : MethodName)) hown (mvT hZ (hw _ (List.mem_of_getElem? (i := 37) rfl))) (mvT hZ (hw _ (List.mem_of_getElem? (i := 38) rfl))) (mvT hZ (hw _ (List.mem_of_getElem? (i := 2) rfl))) (mvT hZ (hw _ (List.mem_of_getElem? (i := 39) rfl))) (by decide) (backOf (W := 0) (rok l Z a0 hw [] (1 : Int32) v96_17 v105_18 r3 T15.heap n0 Zs17) hZ (hw _ (List.mem_of_getElem? (i := 39) rfl)) (hw _ (List.mem_of_getElem? (i := 2) rfl)) (by decide) (by decide)) (g := (mkF m 134 #[.val (.int p1), .val (.int p2), .val (.int p3), .val (.int p4), .val (.int p5), .val (.int p6), .val (.int r1), .val (.int r3), .val (.int r5), .val (.int r7), .val (.ref b9), .val (.ref b14), .val (.int v96_17), .val (.int v105_18), .unset] [(.int r3), (.int v105_18), (.int v96_17), (.int (1 : Int32))])) rfl (by rw [hml]; rfl) (argsL := [(.int (1 : Int32)), (.int v96_17), (.int v105_18), (.int r3)]) (rest := []) (lenOf pd_16 rfl) rfl (by show 2 * 0 + _ ≤ _; exact Nat.le_of_eq rfl) (hb hby at_134) (fun _ _ => ⟨rfl, e20q, (by decide : 4 + 0 ≤ _), (by decide : 20 + 0 ≤ _)⟩)
          dsimp only [Pt.U, Pt.locs, Pt.cells, Pt.slots] at X22 l22 y22 z22 st22 hQ22
          subst l22 y22 z22
          rcases hQ22 with ⟨⟨_, rfl, ⟨rfl, hd22⟩ | ⟨rfl, hd22⟩⟩, N22q, e22q⟩
          · have N22 := Fr.app N20 N22q
            refine Go.on (B := T22.setTop (mkF m 137 #[.val (.int p1), .val (.int p2), .val (.int p3), .val (.int p4), .val (.int p5), .val (.int p6), .val (.int r1), .val (.int r3), .val (.int r5), .val (.int r7), .val (.ref b9), .val (.ref b14), .val (.int v96_17), .val (.int v105_18), .unset] [(.int (1 : Int32))])) (fun t k => st22 _ k) ?_
            have hc137_23 : ¬ ((1 : Int32) = (0 : Int32)) := by decide
            refine Go.on (B := T22.setTop (mkF m 140 #[.val (.int p1), .val (.int p2), .val (.int p3), .val (.int p4), .val (.int p5), .val (.int p6), .val (.int r1), .val (.int r3), .val (.int r5), .val (.int r7), .val (.ref b9), .val (.ref b14), .val (.int v96_17), .val (.int v105_18), .unset] [])) (fun t k => XS.ifNo X22.here hx rfl (hb hby at_137) rfl ((if0 _ _).trans (feq hc137_23).1) k) ?_
            refine Go.on (B := T22.setTop (mkF m 141 #[.val (.int p1), .val (.int p2), .val (.int p3), .val (.int p4), .val (.int p5), .val (.int p6), .val (.int r1), .val (.int r3), .val (.int r5), .val (.int r7), .val (.ref b9), .val (.ref b14), .val (.int v96_17), .val (.int v105_18), .unset] [(.int (2 : Int32))])) (fun t k => XS.iconst X22.here hx rfl (hb hby at_140) k) ?_
            refine Go.on (B := T22.setTop (mkF m 143 #[.val (.int p1), .val (.int p2), .val (.int p3), .val (.int p4), .val (.int p5), .val (.int p6), .val (.int r1), .val (.int r3), .val (.int r5), .val (.int r7), .val (.ref b9), .val (.ref b14), .val (.int v96_17), .val (.int v105_18), .unset] [(.int v96_17), (.int (2 : Int32))])) (fun t k => XS.iload X22.here hx rfl (hb hby at_141) rfl k) ?_
            refine Go.on (B := T22.setTop (mkF m 145 #[.val (.int p1), .val (.int p2), .val (.int p3), .val (.int p4), .val (.int p5), .val (.int p6), .val (.int r1), .val (.int r3), .val (.int r5), .val (.int r7), .val (.ref b9), .val (.ref b14), .val (.int v96_17), .val (.int v105_18), .unset] [(.int v105_18), (.int v96_17), (.int (2 : Int32))])) (fun t k => XS.iload X22.here hx rfl (hb hby at_143) rfl k) ?_
            refine Go.on (B := T22.setTop (mkF m 147 #[.val (.int p1), .val (.int p2), .val (.int p3), .val (.int p4), .val (.int p5), .val (.int p6), .val (.int r1), .val (.int r3), .val (.int r5), .val (.int r7), .val (.ref b9), .val (.ref b14), .val (.int v96_17), .val (.int v105_18), .unset] [(.int r5), (.int v105_18), (.int v96_17), (.int (2 : Int32))])) (fun t k => XS.iload X22.here hx rfl (hb hby at_145) rfl k) ?_
            obtain ⟨_, _, ⟨T24, L24, k24, n24⟩, -, X24, ⟨Lc24, hQ24, l24, y24, z24⟩, st24⟩ := Jvm.LawKit.callS X22 hx (y := (⟨"com/example/encours/encours/engine/MoneyIsDigitsPinLaw", "ok", "(IIIC)Z"⟩ : MethodName)) hown (mvT hZ (hw _ (List.mem_of_getElem? (i := 37) rfl))) (mvT hZ (hw _ (List.mem_of_getElem? (i := 38) rfl))) (mvT hZ (hw _ (List.mem_of_getElem? (i := 2) rfl))) (mvT hZ (hw _ (List.mem_of_getElem? (i := 39) rfl))) (by decide) (backOf (W := 0) (rok l Z a0 hw [] (2 : Int32) v96_17 v105_18 r5 T15.heap n0 Zs17) hZ (hw _ (List.mem_of_getElem? (i := 39) rfl)) (hw _ (List.mem_of_getElem? (i := 2) rfl)) (by decide) (by decide)) (g := (mkF m 147 #[.val (.int p1), .val (.int p2), .val (.int p3), .val (.int p4), .val (.int p5), .val (.int p6), .val (.int r1), .val (.int r3), .val (.int r5), .val (.int r7), .val (.ref b9), .val (.ref b14), .val (.int v96_17), .val (.int v105_18), .unset] [(.int r5), (.int v105_18), (.int v96_17), (.int (2 : Int32))])) rfl (by rw [hml]; rfl) (argsL := [(.int (2 : Int32)), (.int v96_17), (.int v105_18), (.int r5)]) (rest := []) (lenOf pd_16 rfl) rfl (by show 2 * 0 + _ ≤ _; exact Nat.le_of_eq rfl) (hb hby at_147) (fun _ _ => ⟨rfl, e22q, (by decide : 4 + 0 ≤ _), (by decide : 20 + 0 ≤ _)⟩)
            dsimp only [Pt.U, Pt.locs, Pt.cells, Pt.slots] at X24 l24 y24 z24 st24 hQ24
            subst l24 y24 z24
            rcases hQ24 with ⟨⟨_, rfl, ⟨rfl, hd24⟩ | ⟨rfl, hd24⟩⟩, N24q, e24q⟩
            · have N24 := Fr.app N22 N24q
              refine Go.on (B := T24.setTop (mkF m 150 #[.val (.int p1), .val (.int p2), .val (.int p3), .val (.int p4), .val (.int p5), .val (.int p6), .val (.int r1), .val (.int r3), .val (.int r5), .val (.int r7), .val (.ref b9), .val (.ref b14), .val (.int v96_17), .val (.int v105_18), .unset] [(.int (1 : Int32))])) (fun t k => st24 _ k) ?_
              have hc150_25 : ¬ ((1 : Int32) = (0 : Int32)) := by decide
              refine Go.on (B := T24.setTop (mkF m 153 #[.val (.int p1), .val (.int p2), .val (.int p3), .val (.int p4), .val (.int p5), .val (.int p6), .val (.int r1), .val (.int r3), .val (.int r5), .val (.int r7), .val (.ref b9), .val (.ref b14), .val (.int v96_17), .val (.int v105_18), .unset] [])) (fun t k => XS.ifNo X24.here hx rfl (hb hby at_150) rfl ((if0 _ _).trans (feq hc150_25).1) k) ?_
              refine Go.on (B := T24.setTop (mkF m 154 #[.val (.int p1), .val (.int p2), .val (.int p3), .val (.int p4), .val (.int p5), .val (.int p6), .val (.int r1), .val (.int r3), .val (.int r5), .val (.int r7), .val (.ref b9), .val (.ref b14), .val (.int v96_17), .val (.int v105_18), .unset] [(.int (3 : Int32))])) (fun t k => XS.iconst X24.here hx rfl (hb hby at_153) k) ?_
              refine Go.on (B := T24.setTop (mkF m 156 #[.val (.int p1), .val (.int p2), .val (.int p3), .val (.int p4), .val (.int p5), .val (.int p6), .val (.int r1), .val (.int r3), .val (.int r5), .val (.int r7), .val (.ref b9), .val (.ref b14), .val (.int v96_17), .val (.int v105_18), .unset] [(.int v96_17), (.int (3 : Int32))])) (fun t k => XS.iload X24.here hx rfl (hb hby at_154) rfl k) ?_
              refine Go.on (B := T24.setTop (mkF m 158 #[.val (.int p1), .val (.int p2), .val (.int p3), .val (.int p4), .val (.int p5), .val (.int p6), .val (.int r1), .val (.int r3), .val (.int r5), .val (.int r7), .val (.ref b9), .val (.ref b14), .val (.int v96_17), .val (.int v105_18), .unset] [(.int v105_18), (.int v96_17), (.int (3 : Int32))])) (fun t k => XS.iload X24.here hx rfl (hb hby at_156) rfl k) ?_
              refine Go.on (B := T24.setTop (mkF m 160 #[.val (.int p1), .val (.int p2), .val (.int p3), .val (.int p4), .val (.int p5), .val (.int p6), .val (.int r1), .val (.int r3), .val (.int r5), .val (.int r7), .val (.ref b9), .val (.ref b14), .val (.int v96_17), .val (.int v105_18), .unset] [(.int r7), (.int v105_18), (.int v96_17), (.int (3 : Int32))])) (fun t k => XS.iload X24.here hx rfl (hb hby at_158) rfl k) ?_
              obtain ⟨_, _, ⟨T26, L26, k26, n26⟩, -, X26, ⟨Lc26, hQ26, l26, y26, z26⟩, st26⟩ := Jvm.LawKit.callS X24 hx (y := (⟨"com/example/encours/encours/engine/MoneyIsDigitsPinLaw", "ok", "(IIIC)Z"⟩ : MethodName)) hown (mvT hZ (hw _ (List.mem_of_getElem? (i := 37) rfl))) (mvT hZ (hw _ (List.mem_of_getElem? (i := 38) rfl))) (mvT hZ (hw _ (List.mem_of_getElem? (i := 2) rfl))) (mvT hZ (hw _ (List.mem_of_getElem? (i := 39) rfl))) (by decide) (backOf (W := 0) (rok l Z a0 hw [] (3 : Int32) v96_17 v105_18 r7 T15.heap n0 Zs17) hZ (hw _ (List.mem_of_getElem? (i := 39) rfl)) (hw _ (List.mem_of_getElem? (i := 2) rfl)) (by decide) (by decide)) (g := (mkF m 160 #[.val (.int p1), .val (.int p2), .val (.int p3), .val (.int p4), .val (.int p5), .val (.int p6), .val (.int r1), .val (.int r3), .val (.int r5), .val (.int r7), .val (.ref b9), .val (.ref b14), .val (.int v96_17), .val (.int v105_18), .unset] [(.int r7), (.int v105_18), (.int v96_17), (.int (3 : Int32))])) rfl (by rw [hml]; rfl) (argsL := [(.int (3 : Int32)), (.int v96_17), (.int v105_18), (.int r7)]) (rest := []) (lenOf pd_16 rfl) rfl (by show 2 * 0 + _ ≤ _; exact Nat.le_of_eq rfl) (hb hby at_160) (fun _ _ => ⟨rfl, e24q, (by decide : 4 + 0 ≤ _), (by decide : 20 + 0 ≤ _)⟩)
              dsimp only [Pt.U, Pt.locs, Pt.cells, Pt.slots] at X26 l26 y26 z26 st26 hQ26
              subst l26 y26 z26
              rcases hQ26 with ⟨⟨_, rfl, ⟨rfl, hd26⟩ | ⟨rfl, hd26⟩⟩, N26q, e26q⟩
              · have N26 := Fr.app N24 N26q
                refine Go.on (B := T26.setTop (mkF m 163 #[.val (.int p1), .val (.int p2), .val (.int p3), .val (.int p4), .val (.int p5), .val (.int p6), .val (.int r1), .val (.int r3), .val (.int r5), .val (.int r7), .val (.ref b9), .val (.ref b14), .val (.int v96_17), .val (.int v105_18), .unset] [(.int (1 : Int32))])) (fun t k => st26 _ k) ?_
                have hc163_27 : ¬ ((1 : Int32) = (0 : Int32)) := by decide
                refine Go.on (B := T26.setTop (mkF m 166 #[.val (.int p1), .val (.int p2), .val (.int p3), .val (.int p4), .val (.int p5), .val (.int p6), .val (.int r1), .val (.int r3), .val (.int r5), .val (.int r7), .val (.ref b9), .val (.ref b14), .val (.int v96_17), .val (.int v105_18), .unset] [])) (fun t k => XS.ifNo X26.here hx rfl (hb hby at_163) rfl ((if0 _ _).trans (feq hc163_27).1) k) ?_
                refine Go.on (B := T26.setTop (mkF m 167 #[.val (.int p1), .val (.int p2), .val (.int p3), .val (.int p4), .val (.int p5), .val (.int p6), .val (.int r1), .val (.int r3), .val (.int r5), .val (.int r7), .val (.ref b9), .val (.ref b14), .val (.int v96_17), .val (.int v105_18), .unset] [(.int (1 : Int32))])) (fun t k => XS.iconst X26.here hx rfl (hb hby at_166) k) ?_
                refine Go.on (B := T26.setTop (mkF m 171 #[.val (.int p1), .val (.int p2), .val (.int p3), .val (.int p4), .val (.int p5), .val (.int p6), .val (.int r1), .val (.int r3), .val (.int r5), .val (.int r7), .val (.ref b9), .val (.ref b14), .val (.int v96_17), .val (.int v105_18), .unset] [(.int (1 : Int32))])) (fun t k => XS.goto X26.here hx rfl (pc0 := 167) (pc' := 171) rfl (hb hby at_167) (by decide) (by decide) k) ?_
                refine Go.on (B := T26.setTop (mkF m 173 #[.val (.int p1), .val (.int p2), .val (.int p3), .val (.int p4), .val (.int p5), .val (.int p6), .val (.int r1), .val (.int r3), .val (.int r5), .val (.int r7), .val (.ref b9), .val (.ref b14), .val (.int v96_17), .val (.int v105_18), .val (.int (1 : Int32))] [])) (fun t k => XS.istore X26.here hx rfl (hb hby at_171) rfl (l' := #[.val (.int p1), .val (.int p2), .val (.int p3), .val (.int p4), .val (.int p5), .val (.int p6), .val (.int r1), .val (.int r3), .val (.int r5), .val (.int r7), .val (.ref b9), .val (.ref b14), .val (.int v96_17), .val (.int v105_18), .val (.int (1 : Int32))]) rfl k) ?_
                refine Go.on (B := T26.setTop (mkF m 175 #[.val (.int p1), .val (.int p2), .val (.int p3), .val (.int p4), .val (.int p5), .val (.int p6), .val (.int r1), .val (.int r3), .val (.int r5), .val (.int r7), .val (.ref b9), .val (.ref b14), .val (.int v96_17), .val (.int v105_18), .val (.int (1 : Int32))] [(.ref b14)])) (fun t k => XS.aload X26.here hx rfl (hb hby at_173) rfl rfl k) ?_
                refine Go.on (B := T26.setTop (mkF m 177 #[.val (.int p1), .val (.int p2), .val (.int p3), .val (.int p4), .val (.int p5), .val (.int p6), .val (.int r1), .val (.int r3), .val (.int r5), .val (.int r7), .val (.ref b9), .val (.ref b14), .val (.int v96_17), .val (.int v105_18), .val (.int (1 : Int32))] [(.int v96_17), (.ref b14)])) (fun t k => XS.iload X26.here hx rfl (hb hby at_175) rfl k) ?_
                refine Go.on (B := T26.setTop (mkF m 179 #[.val (.int p1), .val (.int p2), .val (.int p3), .val (.int p4), .val (.int p5), .val (.int p6), .val (.int r1), .val (.int r3), .val (.int r5), .val (.int r7), .val (.ref b9), .val (.ref b14), .val (.int v96_17), .val (.int v105_18), .val (.int (1 : Int32))] [(.int v105_18), (.int v96_17), (.ref b14)])) (fun t k => XS.iload X26.here hx rfl (hb hby at_177) rfl k) ?_
                obtain ⟨_, _, ⟨T29, L29, k29, n29⟩, -, X29, ⟨Lc29, hQ29, l29, y29, z29⟩, st29⟩ := Jvm.LawKit.callS X26 hx (y := (⟨"com/example/encours/encours/engine/Money", "isDigits", "(Ljava/lang/String;II)Z"⟩ : MethodName)) hown (mvT hZ (hw _ (List.mem_of_getElem? (i := 43) rfl))) (mvT hZ (hw _ (List.mem_of_getElem? (i := 44) rfl))) (mvT hZ (hw _ (List.mem_of_getElem? (i := 45) rfl))) (mvT hZ (hw _ (List.mem_of_getElem? (i := 46) rfl))) (by decide) (backOf (W := 0) (risL l Z a0 hw [] b14 v96_17 v105_18 y15 ky15 r1 r3 r5 r7 G1 G3 T15.heap n0 Zs17 E15q Fc15 Fv15 Vy15 hr1 hr3 hr5 hr7 (own_le255 _ hr1 hx15_0) (own_le255 _ hr3 hx15_1) (own_le255 _ hr5 hx15_2) (own_le255 _ hr7 hx15_3) (fun _ => ⟨hs0.1, he0.2⟩) O_14 S_cs S_fm S_ad S_hi S_lo P5 rG3) hZ (hw _ (List.mem_of_getElem? (i := 46) rfl)) (hw _ (List.mem_of_getElem? (i := 45) rfl)) (by decide) (by decide)) (g := (mkF m 179 #[.val (.int p1), .val (.int p2), .val (.int p3), .val (.int p4), .val (.int p5), .val (.int p6), .val (.int r1), .val (.int r3), .val (.int r5), .val (.int r7), .val (.ref b9), .val (.ref b14), .val (.int v96_17), .val (.int v105_18), .val (.int (1 : Int32))] [(.int v105_18), (.int v96_17), (.ref b14)])) rfl (by rw [hml]; rfl) (argsL := [(.ref b14), (.int v96_17), (.int v105_18)]) (rest := []) (lenOf pd_17 rfl) rfl (by show 2 * 0 + _ ≤ _; exact Nat.le_of_eq rfl) (hb hby at_179) (fun _ _ => ⟨rfl, e26q, (by decide : 4 + 0 ≤ _), (by decide : 20 + 0 ≤ _)⟩)
                dsimp only [Pt.U, Pt.locs, Pt.cells, Pt.slots] at X29 l29 y29 z29 st29 hQ29
                subst l29 y29 z29
                rcases hQ29 with ⟨⟨_, rfl, ⟨rfl, hd29⟩ | ⟨rfl, hd29⟩⟩, N29q, e29q⟩
                · have N29 := Fr.app N26 N29q
                  refine Go.on (B := T29.setTop (mkF m 182 #[.val (.int p1), .val (.int p2), .val (.int p3), .val (.int p4), .val (.int p5), .val (.int p6), .val (.int r1), .val (.int r3), .val (.int r5), .val (.int r7), .val (.ref b9), .val (.ref b14), .val (.int v96_17), .val (.int v105_18), .val (.int (1 : Int32))] [(.int (1 : Int32))])) (fun t k => st29 _ k) ?_
                  refine Go.on (B := T29.setTop (mkF m 184 #[.val (.int p1), .val (.int p2), .val (.int p3), .val (.int p4), .val (.int p5), .val (.int p6), .val (.int r1), .val (.int r3), .val (.int r5), .val (.int r7), .val (.ref b9), .val (.ref b14), .val (.int v96_17), .val (.int v105_18), .val (.int (1 : Int32))] [(.int (1 : Int32)), (.int (1 : Int32))])) (fun t k => XS.iload X29.here hx rfl (hb hby at_182) rfl k) ?_
                  have hc184_30 : (1 : Int32) = (1 : Int32) := by decide
                  refine Go.on (B := T29.setTop (mkF m 187 #[.val (.int p1), .val (.int p2), .val (.int p3), .val (.int p4), .val (.int p5), .val (.int p6), .val (.int r1), .val (.int r3), .val (.int r5), .val (.int r7), .val (.ref b9), .val (.ref b14), .val (.int v96_17), .val (.int v105_18), .val (.int (1 : Int32))] [])) (fun t k => XS.icmpNo X29.here hx rfl (hb hby at_184) rfl (teq hc184_30).2 k) ?_
                  refine Go.on (B := T29.setTop (mkF m 188 #[.val (.int p1), .val (.int p2), .val (.int p3), .val (.int p4), .val (.int p5), .val (.int p6), .val (.int r1), .val (.int r3), .val (.int r5), .val (.int r7), .val (.ref b9), .val (.ref b14), .val (.int v96_17), .val (.int v105_18), .val (.int (1 : Int32))] [(.int (1 : Int32))])) (fun t k => XS.iconst X29.here hx rfl (hb hby at_187) k) ?_
                  refine Go.on (B := T29.setTop (mkF m 192 #[.val (.int p1), .val (.int p2), .val (.int p3), .val (.int p4), .val (.int p5), .val (.int p6), .val (.int r1), .val (.int r3), .val (.int r5), .val (.int r7), .val (.ref b9), .val (.ref b14), .val (.int v96_17), .val (.int v105_18), .val (.int (1 : Int32))] [(.int (1 : Int32))])) (fun t k => XS.goto X29.here hx rfl (pc0 := 188) (pc' := 192) rfl (hb hby at_188) (by decide) (by decide) k) ?_
                  obtain ⟨fs, hr, hrun, hended, hW, hsame⟩ := X29.leave (v := some (.int (1 : Int32))) (fun h => by rw [Bd.returns] at h; cases h)
                  refine ⟨_, _, ?_, hrun, hended, _, _, rfl, ?_, ⟨_, rfl⟩, hW, hsame.mono (by decide) (by decide)⟩
                  · exact retN X29 hx (t := .boolean) Bd.returns (by simp) (hb hby at_192) hr
                  · show Q_rm0 Z p1 p2 p3 p4 p5 p6 G1 G3 h0 n0 _ T29.heap _
                    rw [e29q]
                    exact ⟨rfl, N29⟩
                · have N29 := Fr.app N26 N29q
                  exact hd29.elim (fun q => absurd hc111_19 q) (fun ⟨j, q1, q2, q3⟩ => absurd (own_allok ⟨hs0.1, he0.2⟩ hd20 hd22 hd24 hd26 j q1 q2) q3)
              · have N26 := Fr.app N24 N26q
                refine Go.on (B := T26.setTop (mkF m 163 #[.val (.int p1), .val (.int p2), .val (.int p3), .val (.int p4), .val (.int p5), .val (.int p6), .val (.int r1), .val (.int r3), .val (.int r5), .val (.int r7), .val (.ref b9), .val (.ref b14), .val (.int v96_17), .val (.int v105_18), .unset] [(.int (0 : Int32))])) (fun t k => st26 _ k) ?_
                have hc163_31 : (0 : Int32) = (0 : Int32) := by decide
                refine Go.on (B := T26.setTop (mkF m 170 #[.val (.int p1), .val (.int p2), .val (.int p3), .val (.int p4), .val (.int p5), .val (.int p6), .val (.int r1), .val (.int r3), .val (.int r5), .val (.int r7), .val (.ref b9), .val (.ref b14), .val (.int v96_17), .val (.int v105_18), .unset] [])) (fun t k => XS.ifYes X26.here hx rfl (pc0 := 163) (pc' := 170) rfl (hb hby at_163) rfl ((if0 _ _).trans (teq hc163_31).1) (by decide) (by decide) k) ?_
                refine Go.on (B := T26.setTop (mkF m 171 #[.val (.int p1), .val (.int p2), .val (.int p3), .val (.int p4), .val (.int p5), .val (.int p6), .val (.int r1), .val (.int r3), .val (.int r5), .val (.int r7), .val (.ref b9), .val (.ref b14), .val (.int v96_17), .val (.int v105_18), .unset] [(.int (0 : Int32))])) (fun t k => XS.iconst X26.here hx rfl (hb hby at_170) k) ?_
                refine Go.on (B := T26.setTop (mkF m 173 #[.val (.int p1), .val (.int p2), .val (.int p3), .val (.int p4), .val (.int p5), .val (.int p6), .val (.int r1), .val (.int r3), .val (.int r5), .val (.int r7), .val (.ref b9), .val (.ref b14), .val (.int v96_17), .val (.int v105_18), .val (.int (0 : Int32))] [])) (fun t k => XS.istore X26.here hx rfl (hb hby at_171) rfl (l' := #[.val (.int p1), .val (.int p2), .val (.int p3), .val (.int p4), .val (.int p5), .val (.int p6), .val (.int r1), .val (.int r3), .val (.int r5), .val (.int r7), .val (.ref b9), .val (.ref b14), .val (.int v96_17), .val (.int v105_18), .val (.int (0 : Int32))]) rfl k) ?_
                refine Go.on (B := T26.setTop (mkF m 175 #[.val (.int p1), .val (.int p2), .val (.int p3), .val (.int p4), .val (.int p5), .val (.int p6), .val (.int r1), .val (.int r3), .val (.int r5), .val (.int r7), .val (.ref b9), .val (.ref b14), .val (.int v96_17), .val (.int v105_18), .val (.int (0 : Int32))] [(.ref b14)])) (fun t k => XS.aload X26.here hx rfl (hb hby at_173) rfl rfl k) ?_
                refine Go.on (B := T26.setTop (mkF m 177 #[.val (.int p1), .val (.int p2), .val (.int p3), .val (.int p4), .val (.int p5), .val (.int p6), .val (.int r1), .val (.int r3), .val (.int r5), .val (.int r7), .val (.ref b9), .val (.ref b14), .val (.int v96_17), .val (.int v105_18), .val (.int (0 : Int32))] [(.int v96_17), (.ref b14)])) (fun t k => XS.iload X26.here hx rfl (hb hby at_175) rfl k) ?_
                refine Go.on (B := T26.setTop (mkF m 179 #[.val (.int p1), .val (.int p2), .val (.int p3), .val (.int p4), .val (.int p5), .val (.int p6), .val (.int r1), .val (.int r3), .val (.int r5), .val (.int r7), .val (.ref b9), .val (.ref b14), .val (.int v96_17), .val (.int v105_18), .val (.int (0 : Int32))] [(.int v105_18), (.int v96_17), (.ref b14)])) (fun t k => XS.iload X26.here hx rfl (hb hby at_177) rfl k) ?_
                obtain ⟨_, _, ⟨T33, L33, k33, n33⟩, -, X33, ⟨Lc33, hQ33, l33, y33, z33⟩, st33⟩ := Jvm.LawKit.callS X26 hx (y := (⟨"com/example/encours/encours/engine/Money", "isDigits", "(Ljava/lang/String;II)Z"⟩ : MethodName)) hown (mvT hZ (hw _ (List.mem_of_getElem? (i := 43) rfl))) (mvT hZ (hw _ (List.mem_of_getElem? (i := 44) rfl))) (mvT hZ (hw _ (List.mem_of_getElem? (i := 45) rfl))) (mvT hZ (hw _ (List.mem_of_getElem? (i := 46) rfl))) (by decide) (backOf (W := 0) (risL l Z a0 hw [] b14 v96_17 v105_18 y15 ky15 r1 r3 r5 r7 G1 G3 T15.heap n0 Zs17 E15q Fc15 Fv15 Vy15 hr1 hr3 hr5 hr7 (own_le255 _ hr1 hx15_0) (own_le255 _ hr3 hx15_1) (own_le255 _ hr5 hx15_2) (own_le255 _ hr7 hx15_3) (fun _ => ⟨hs0.1, he0.2⟩) O_14 S_cs S_fm S_ad S_hi S_lo P5 rG3) hZ (hw _ (List.mem_of_getElem? (i := 46) rfl)) (hw _ (List.mem_of_getElem? (i := 45) rfl)) (by decide) (by decide)) (g := (mkF m 179 #[.val (.int p1), .val (.int p2), .val (.int p3), .val (.int p4), .val (.int p5), .val (.int p6), .val (.int r1), .val (.int r3), .val (.int r5), .val (.int r7), .val (.ref b9), .val (.ref b14), .val (.int v96_17), .val (.int v105_18), .val (.int (0 : Int32))] [(.int v105_18), (.int v96_17), (.ref b14)])) rfl (by rw [hml]; rfl) (argsL := [(.ref b14), (.int v96_17), (.int v105_18)]) (rest := []) (lenOf pd_17 rfl) rfl (by show 2 * 0 + _ ≤ _; exact Nat.le_of_eq rfl) (hb hby at_179) (fun _ _ => ⟨rfl, e26q, (by decide : 4 + 0 ≤ _), (by decide : 20 + 0 ≤ _)⟩)
                dsimp only [Pt.U, Pt.locs, Pt.cells, Pt.slots] at X33 l33 y33 z33 st33 hQ33
                subst l33 y33 z33
                rcases hQ33 with ⟨⟨_, rfl, ⟨rfl, hd33⟩ | ⟨rfl, hd33⟩⟩, N33q, e33q⟩
                · have N33 := Fr.app N26 N33q
                  exact absurd ((own_c3 r1 r3 r5 r7) ▸ hd33.2 (3 : Int32) hd26.1 hd26.2.1) hd26.2.2
                · have N33 := Fr.app N26 N33q
                  refine Go.on (B := T33.setTop (mkF m 182 #[.val (.int p1), .val (.int p2), .val (.int p3), .val (.int p4), .val (.int p5), .val (.int p6), .val (.int r1), .val (.int r3), .val (.int r5), .val (.int r7), .val (.ref b9), .val (.ref b14), .val (.int v96_17), .val (.int v105_18), .val (.int (0 : Int32))] [(.int (0 : Int32))])) (fun t k => st33 _ k) ?_
                  refine Go.on (B := T33.setTop (mkF m 184 #[.val (.int p1), .val (.int p2), .val (.int p3), .val (.int p4), .val (.int p5), .val (.int p6), .val (.int r1), .val (.int r3), .val (.int r5), .val (.int r7), .val (.ref b9), .val (.ref b14), .val (.int v96_17), .val (.int v105_18), .val (.int (0 : Int32))] [(.int (0 : Int32)), (.int (0 : Int32))])) (fun t k => XS.iload X33.here hx rfl (hb hby at_182) rfl k) ?_
                  have hc184_34 : (0 : Int32) = (0 : Int32) := by decide
                  refine Go.on (B := T33.setTop (mkF m 187 #[.val (.int p1), .val (.int p2), .val (.int p3), .val (.int p4), .val (.int p5), .val (.int p6), .val (.int r1), .val (.int r3), .val (.int r5), .val (.int r7), .val (.ref b9), .val (.ref b14), .val (.int v96_17), .val (.int v105_18), .val (.int (0 : Int32))] [])) (fun t k => XS.icmpNo X33.here hx rfl (hb hby at_184) rfl (teq hc184_34).2 k) ?_
                  refine Go.on (B := T33.setTop (mkF m 188 #[.val (.int p1), .val (.int p2), .val (.int p3), .val (.int p4), .val (.int p5), .val (.int p6), .val (.int r1), .val (.int r3), .val (.int r5), .val (.int r7), .val (.ref b9), .val (.ref b14), .val (.int v96_17), .val (.int v105_18), .val (.int (0 : Int32))] [(.int (1 : Int32))])) (fun t k => XS.iconst X33.here hx rfl (hb hby at_187) k) ?_
                  refine Go.on (B := T33.setTop (mkF m 192 #[.val (.int p1), .val (.int p2), .val (.int p3), .val (.int p4), .val (.int p5), .val (.int p6), .val (.int r1), .val (.int r3), .val (.int r5), .val (.int r7), .val (.ref b9), .val (.ref b14), .val (.int v96_17), .val (.int v105_18), .val (.int (0 : Int32))] [(.int (1 : Int32))])) (fun t k => XS.goto X33.here hx rfl (pc0 := 188) (pc' := 192) rfl (hb hby at_188) (by decide) (by decide) k) ?_
                  obtain ⟨fs, hr, hrun, hended, hW, hsame⟩ := X33.leave (v := some (.int (1 : Int32))) (fun h => by rw [Bd.returns] at h; cases h)
                  refine ⟨_, _, ?_, hrun, hended, _, _, rfl, ?_, ⟨_, rfl⟩, hW, hsame.mono (by decide) (by decide)⟩
                  · exact retN X33 hx (t := .boolean) Bd.returns (by simp) (hb hby at_192) hr
                  · show Q_rm0 Z p1 p2 p3 p4 p5 p6 G1 G3 h0 n0 _ T33.heap _
                    rw [e33q]
                    exact ⟨rfl, N33⟩
            · have N24 := Fr.app N22 N24q
              refine Go.on (B := T24.setTop (mkF m 150 #[.val (.int p1), .val (.int p2), .val (.int p3), .val (.int p4), .val (.int p5), .val (.int p6), .val (.int r1), .val (.int r3), .val (.int r5), .val (.int r7), .val (.ref b9), .val (.ref b14), .val (.int v96_17), .val (.int v105_18), .unset] [(.int (0 : Int32))])) (fun t k => st24 _ k) ?_
              have hc150_35 : (0 : Int32) = (0 : Int32) := by decide
              refine Go.on (B := T24.setTop (mkF m 170 #[.val (.int p1), .val (.int p2), .val (.int p3), .val (.int p4), .val (.int p5), .val (.int p6), .val (.int r1), .val (.int r3), .val (.int r5), .val (.int r7), .val (.ref b9), .val (.ref b14), .val (.int v96_17), .val (.int v105_18), .unset] [])) (fun t k => XS.ifYes X24.here hx rfl (pc0 := 150) (pc' := 170) rfl (hb hby at_150) rfl ((if0 _ _).trans (teq hc150_35).1) (by decide) (by decide) k) ?_
              refine Go.on (B := T24.setTop (mkF m 171 #[.val (.int p1), .val (.int p2), .val (.int p3), .val (.int p4), .val (.int p5), .val (.int p6), .val (.int r1), .val (.int r3), .val (.int r5), .val (.int r7), .val (.ref b9), .val (.ref b14), .val (.int v96_17), .val (.int v105_18), .unset] [(.int (0 : Int32))])) (fun t k => XS.iconst X24.here hx rfl (hb hby at_170) k) ?_
              refine Go.on (B := T24.setTop (mkF m 173 #[.val (.int p1), .val (.int p2), .val (.int p3), .val (.int p4), .val (.int p5), .val (.int p6), .val (.int r1), .val (.int r3), .val (.int r5), .val (.int r7), .val (.ref b9), .val (.ref b14), .val (.int v96_17), .val (.int v105_18), .val (.int (0 : Int32))] [])) (fun t k => XS.istore X24.here hx rfl (hb hby at_171) rfl (l' := #[.val (.int p1), .val (.int p2), .val (.int p3), .val (.int p4), .val (.int p5), .val (.int p6), .val (.int r1), .val (.int r3), .val (.int r5), .val (.int r7), .val (.ref b9), .val (.ref b14), .val (.int v96_17), .val (.int v105_18), .val (.int (0 : Int32))]) rfl k) ?_
              refine Go.on (B := T24.setTop (mkF m 175 #[.val (.int p1), .val (.int p2), .val (.int p3), .val (.int p4), .val (.int p5), .val (.int p6), .val (.int r1), .val (.int r3), .val (.int r5), .val (.int r7), .val (.ref b9), .val (.ref b14), .val (.int v96_17), .val (.int v105_18), .val (.int (0 : Int32))] [(.ref b14)])) (fun t k => XS.aload X24.here hx rfl (hb hby at_173) rfl rfl k) ?_
              refine Go.on (B := T24.setTop (mkF m 177 #[.val (.int p1), .val (.int p2), .val (.int p3), .val (.int p4), .val (.int p5), .val (.int p6), .val (.int r1), .val (.int r3), .val (.int r5), .val (.int r7), .val (.ref b9), .val (.ref b14), .val (.int v96_17), .val (.int v105_18), .val (.int (0 : Int32))] [(.int v96_17), (.ref b14)])) (fun t k => XS.iload X24.here hx rfl (hb hby at_175) rfl k) ?_
              refine Go.on (B := T24.setTop (mkF m 179 #[.val (.int p1), .val (.int p2), .val (.int p3), .val (.int p4), .val (.int p5), .val (.int p6), .val (.int r1), .val (.int r3), .val (.int r5), .val (.int r7), .val (.ref b9), .val (.ref b14), .val (.int v96_17), .val (.int v105_18), .val (.int (0 : Int32))] [(.int v105_18), (.int v96_17), (.ref b14)])) (fun t k => XS.iload X24.here hx rfl (hb hby at_177) rfl k) ?_
              obtain ⟨_, _, ⟨T37, L37, k37, n37⟩, -, X37, ⟨Lc37, hQ37, l37, y37, z37⟩, st37⟩ := Jvm.LawKit.callS X24 hx (y := (⟨"com/example/encours/encours/engine/Money", "isDigits", "(Ljava/lang/String;II)Z"⟩ : MethodName)) hown (mvT hZ (hw _ (List.mem_of_getElem? (i := 43) rfl))) (mvT hZ (hw _ (List.mem_of_getElem? (i := 44) rfl))) (mvT hZ (hw _ (List.mem_of_getElem? (i := 45) rfl))) (mvT hZ (hw _ (List.mem_of_getElem? (i := 46) rfl))) (by decide) (backOf (W := 0) (risL l Z a0 hw [] b14 v96_17 v105_18 y15 ky15 r1 r3 r5 r7 G1 G3 T15.heap n0 Zs17 E15q Fc15 Fv15 Vy15 hr1 hr3 hr5 hr7 (own_le255 _ hr1 hx15_0) (own_le255 _ hr3 hx15_1) (own_le255 _ hr5 hx15_2) (own_le255 _ hr7 hx15_3) (fun _ => ⟨hs0.1, he0.2⟩) O_14 S_cs S_fm S_ad S_hi S_lo P5 rG3) hZ (hw _ (List.mem_of_getElem? (i := 46) rfl)) (hw _ (List.mem_of_getElem? (i := 45) rfl)) (by decide) (by decide)) (g := (mkF m 179 #[.val (.int p1), .val (.int p2), .val (.int p3), .val (.int p4), .val (.int p5), .val (.int p6), .val (.int r1), .val (.int r3), .val (.int r5), .val (.int r7), .val (.ref b9), .val (.ref b14), .val (.int v96_17), .val (.int v105_18), .val (.int (0 : Int32))] [(.int v105_18), (.int v96_17), (.ref b14)])) rfl (by rw [hml]; rfl) (argsL := [(.ref b14), (.int v96_17), (.int v105_18)]) (rest := []) (lenOf pd_17 rfl) rfl (by show 2 * 0 + _ ≤ _; exact Nat.le_of_eq rfl) (hb hby at_179) (fun _ _ => ⟨rfl, e24q, (by decide : 4 + 0 ≤ _), (by decide : 20 + 0 ≤ _)⟩)
              dsimp only [Pt.U, Pt.locs, Pt.cells, Pt.slots] at X37 l37 y37 z37 st37 hQ37
              subst l37 y37 z37
              rcases hQ37 with ⟨⟨_, rfl, ⟨rfl, hd37⟩ | ⟨rfl, hd37⟩⟩, N37q, e37q⟩
              · have N37 := Fr.app N24 N37q
                exact absurd ((own_c2 r1 r3 r5 r7) ▸ hd37.2 (2 : Int32) hd24.1 hd24.2.1) hd24.2.2
              · have N37 := Fr.app N24 N37q
                refine Go.on (B := T37.setTop (mkF m 182 #[.val (.int p1), .val (.int p2), .val (.int p3), .val (.int p4), .val (.int p5), .val (.int p6), .val (.int r1), .val (.int r3), .val (.int r5), .val (.int r7), .val (.ref b9), .val (.ref b14), .val (.int v96_17), .val (.int v105_18), .val (.int (0 : Int32))] [(.int (0 : Int32))])) (fun t k => st37 _ k) ?_
                refine Go.on (B := T37.setTop (mkF m 184 #[.val (.int p1), .val (.int p2), .val (.int p3), .val (.int p4), .val (.int p5), .val (.int p6), .val (.int r1), .val (.int r3), .val (.int r5), .val (.int r7), .val (.ref b9), .val (.ref b14), .val (.int v96_17), .val (.int v105_18), .val (.int (0 : Int32))] [(.int (0 : Int32)), (.int (0 : Int32))])) (fun t k => XS.iload X37.here hx rfl (hb hby at_182) rfl k) ?_
                have hc184_38 : (0 : Int32) = (0 : Int32) := by decide
                refine Go.on (B := T37.setTop (mkF m 187 #[.val (.int p1), .val (.int p2), .val (.int p3), .val (.int p4), .val (.int p5), .val (.int p6), .val (.int r1), .val (.int r3), .val (.int r5), .val (.int r7), .val (.ref b9), .val (.ref b14), .val (.int v96_17), .val (.int v105_18), .val (.int (0 : Int32))] [])) (fun t k => XS.icmpNo X37.here hx rfl (hb hby at_184) rfl (teq hc184_38).2 k) ?_
                refine Go.on (B := T37.setTop (mkF m 188 #[.val (.int p1), .val (.int p2), .val (.int p3), .val (.int p4), .val (.int p5), .val (.int p6), .val (.int r1), .val (.int r3), .val (.int r5), .val (.int r7), .val (.ref b9), .val (.ref b14), .val (.int v96_17), .val (.int v105_18), .val (.int (0 : Int32))] [(.int (1 : Int32))])) (fun t k => XS.iconst X37.here hx rfl (hb hby at_187) k) ?_
                refine Go.on (B := T37.setTop (mkF m 192 #[.val (.int p1), .val (.int p2), .val (.int p3), .val (.int p4), .val (.int p5), .val (.int p6), .val (.int r1), .val (.int r3), .val (.int r5), .val (.int r7), .val (.ref b9), .val (.ref b14), .val (.int v96_17), .val (.int v105_18), .val (.int (0 : Int32))] [(.int (1 : Int32))])) (fun t k => XS.goto X37.here hx rfl (pc0 := 188) (pc' := 192) rfl (hb hby at_188) (by decide) (by decide) k) ?_
                obtain ⟨fs, hr, hrun, hended, hW, hsame⟩ := X37.leave (v := some (.int (1 : Int32))) (fun h => by rw [Bd.returns] at h; cases h)
                refine ⟨_, _, ?_, hrun, hended, _, _, rfl, ?_, ⟨_, rfl⟩, hW, hsame.mono (by decide) (by decide)⟩
                · exact retN X37 hx (t := .boolean) Bd.returns (by simp) (hb hby at_192) hr
                · show Q_rm0 Z p1 p2 p3 p4 p5 p6 G1 G3 h0 n0 _ T37.heap _
                  rw [e37q]
                  exact ⟨rfl, N37⟩
          · have N22 := Fr.app N20 N22q
            refine Go.on (B := T22.setTop (mkF m 137 #[.val (.int p1), .val (.int p2), .val (.int p3), .val (.int p4), .val (.int p5), .val (.int p6), .val (.int r1), .val (.int r3), .val (.int r5), .val (.int r7), .val (.ref b9), .val (.ref b14), .val (.int v96_17), .val (.int v105_18), .unset] [(.int (0 : Int32))])) (fun t k => st22 _ k) ?_
            have hc137_39 : (0 : Int32) = (0 : Int32) := by decide
            refine Go.on (B := T22.setTop (mkF m 170 #[.val (.int p1), .val (.int p2), .val (.int p3), .val (.int p4), .val (.int p5), .val (.int p6), .val (.int r1), .val (.int r3), .val (.int r5), .val (.int r7), .val (.ref b9), .val (.ref b14), .val (.int v96_17), .val (.int v105_18), .unset] [])) (fun t k => XS.ifYes X22.here hx rfl (pc0 := 137) (pc' := 170) rfl (hb hby at_137) rfl ((if0 _ _).trans (teq hc137_39).1) (by decide) (by decide) k) ?_
            refine Go.on (B := T22.setTop (mkF m 171 #[.val (.int p1), .val (.int p2), .val (.int p3), .val (.int p4), .val (.int p5), .val (.int p6), .val (.int r1), .val (.int r3), .val (.int r5), .val (.int r7), .val (.ref b9), .val (.ref b14), .val (.int v96_17), .val (.int v105_18), .unset] [(.int (0 : Int32))])) (fun t k => XS.iconst X22.here hx rfl (hb hby at_170) k) ?_
            refine Go.on (B := T22.setTop (mkF m 173 #[.val (.int p1), .val (.int p2), .val (.int p3), .val (.int p4), .val (.int p5), .val (.int p6), .val (.int r1), .val (.int r3), .val (.int r5), .val (.int r7), .val (.ref b9), .val (.ref b14), .val (.int v96_17), .val (.int v105_18), .val (.int (0 : Int32))] [])) (fun t k => XS.istore X22.here hx rfl (hb hby at_171) rfl (l' := #[.val (.int p1), .val (.int p2), .val (.int p3), .val (.int p4), .val (.int p5), .val (.int p6), .val (.int r1), .val (.int r3), .val (.int r5), .val (.int r7), .val (.ref b9), .val (.ref b14), .val (.int v96_17), .val (.int v105_18), .val (.int (0 : Int32))]) rfl k) ?_
            refine Go.on (B := T22.setTop (mkF m 175 #[.val (.int p1), .val (.int p2), .val (.int p3), .val (.int p4), .val (.int p5), .val (.int p6), .val (.int r1), .val (.int r3), .val (.int r5), .val (.int r7), .val (.ref b9), .val (.ref b14), .val (.int v96_17), .val (.int v105_18), .val (.int (0 : Int32))] [(.ref b14)])) (fun t k => XS.aload X22.here hx rfl (hb hby at_173) rfl rfl k) ?_
            refine Go.on (B := T22.setTop (mkF m 177 #[.val (.int p1), .val (.int p2), .val (.int p3), .val (.int p4), .val (.int p5), .val (.int p6), .val (.int r1), .val (.int r3), .val (.int r5), .val (.int r7), .val (.ref b9), .val (.ref b14), .val (.int v96_17), .val (.int v105_18), .val (.int (0 : Int32))] [(.int v96_17), (.ref b14)])) (fun t k => XS.iload X22.here hx rfl (hb hby at_175) rfl k) ?_
            refine Go.on (B := T22.setTop (mkF m 179 #[.val (.int p1), .val (.int p2), .val (.int p3), .val (.int p4), .val (.int p5), .val (.int p6), .val (.int r1), .val (.int r3), .val (.int r5), .val (.int r7), .val (.ref b9), .val (.ref b14), .val (.int v96_17), .val (.int v105_18), .val (.int (0 : Int32))] [(.int v105_18), (.int v96_17), (.ref b14)])) (fun t k => XS.iload X22.here hx rfl (hb hby at_177) rfl k) ?_
            obtain ⟨_, _, ⟨T41, L41, k41, n41⟩, -, X41, ⟨Lc41, hQ41, l41, y41, z41⟩, st41⟩ := Jvm.LawKit.callS X22 hx (y := (⟨"com/example/encours/encours/engine/Money", "isDigits", "(Ljava/lang/String;II)Z"⟩ : MethodName)) hown (mvT hZ (hw _ (List.mem_of_getElem? (i := 43) rfl))) (mvT hZ (hw _ (List.mem_of_getElem? (i := 44) rfl))) (mvT hZ (hw _ (List.mem_of_getElem? (i := 45) rfl))) (mvT hZ (hw _ (List.mem_of_getElem? (i := 46) rfl))) (by decide) (backOf (W := 0) (risL l Z a0 hw [] b14 v96_17 v105_18 y15 ky15 r1 r3 r5 r7 G1 G3 T15.heap n0 Zs17 E15q Fc15 Fv15 Vy15 hr1 hr3 hr5 hr7 (own_le255 _ hr1 hx15_0) (own_le255 _ hr3 hx15_1) (own_le255 _ hr5 hx15_2) (own_le255 _ hr7 hx15_3) (fun _ => ⟨hs0.1, he0.2⟩) O_14 S_cs S_fm S_ad S_hi S_lo P5 rG3) hZ (hw _ (List.mem_of_getElem? (i := 46) rfl)) (hw _ (List.mem_of_getElem? (i := 45) rfl)) (by decide) (by decide)) (g := (mkF m 179 #[.val (.int p1), .val (.int p2), .val (.int p3), .val (.int p4), .val (.int p5), .val (.int p6), .val (.int r1), .val (.int r3), .val (.int r5), .val (.int r7), .val (.ref b9), .val (.ref b14), .val (.int v96_17), .val (.int v105_18), .val (.int (0 : Int32))] [(.int v105_18), (.int v96_17), (.ref b14)])) rfl (by rw [hml]; rfl) (argsL := [(.ref b14), (.int v96_17), (.int v105_18)]) (rest := []) (lenOf pd_17 rfl) rfl (by show 2 * 0 + _ ≤ _; exact Nat.le_of_eq rfl) (hb hby at_179) (fun _ _ => ⟨rfl, e22q, (by decide : 4 + 0 ≤ _), (by decide : 20 + 0 ≤ _)⟩)
            dsimp only [Pt.U, Pt.locs, Pt.cells, Pt.slots] at X41 l41 y41 z41 st41 hQ41
            subst l41 y41 z41
            rcases hQ41 with ⟨⟨_, rfl, ⟨rfl, hd41⟩ | ⟨rfl, hd41⟩⟩, N41q, e41q⟩
            · have N41 := Fr.app N22 N41q
              exact absurd ((own_c1 r1 r3 r5 r7) ▸ hd41.2 (1 : Int32) hd22.1 hd22.2.1) hd22.2.2
            · have N41 := Fr.app N22 N41q
              refine Go.on (B := T41.setTop (mkF m 182 #[.val (.int p1), .val (.int p2), .val (.int p3), .val (.int p4), .val (.int p5), .val (.int p6), .val (.int r1), .val (.int r3), .val (.int r5), .val (.int r7), .val (.ref b9), .val (.ref b14), .val (.int v96_17), .val (.int v105_18), .val (.int (0 : Int32))] [(.int (0 : Int32))])) (fun t k => st41 _ k) ?_
              refine Go.on (B := T41.setTop (mkF m 184 #[.val (.int p1), .val (.int p2), .val (.int p3), .val (.int p4), .val (.int p5), .val (.int p6), .val (.int r1), .val (.int r3), .val (.int r5), .val (.int r7), .val (.ref b9), .val (.ref b14), .val (.int v96_17), .val (.int v105_18), .val (.int (0 : Int32))] [(.int (0 : Int32)), (.int (0 : Int32))])) (fun t k => XS.iload X41.here hx rfl (hb hby at_182) rfl k) ?_
              have hc184_42 : (0 : Int32) = (0 : Int32) := by decide
              refine Go.on (B := T41.setTop (mkF m 187 #[.val (.int p1), .val (.int p2), .val (.int p3), .val (.int p4), .val (.int p5), .val (.int p6), .val (.int r1), .val (.int r3), .val (.int r5), .val (.int r7), .val (.ref b9), .val (.ref b14), .val (.int v96_17), .val (.int v105_18), .val (.int (0 : Int32))] [])) (fun t k => XS.icmpNo X41.here hx rfl (hb hby at_184) rfl (teq hc184_42).2 k) ?_
              refine Go.on (B := T41.setTop (mkF m 188 #[.val (.int p1), .val (.int p2), .val (.int p3), .val (.int p4), .val (.int p5), .val (.int p6), .val (.int r1), .val (.int r3), .val (.int r5), .val (.int r7), .val (.ref b9), .val (.ref b14), .val (.int v96_17), .val (.int v105_18), .val (.int (0 : Int32))] [(.int (1 : Int32))])) (fun t k => XS.iconst X41.here hx rfl (hb hby at_187) k) ?_
              refine Go.on (B := T41.setTop (mkF m 192 #[.val (.int p1), .val (.int p2), .val (.int p3), .val (.int p4), .val (.int p5), .val (.int p6), .val (.int r1), .val (.int r3), .val (.int r5), .val (.int r7), .val (.ref b9), .val (.ref b14), .val (.int v96_17), .val (.int v105_18), .val (.int (0 : Int32))] [(.int (1 : Int32))])) (fun t k => XS.goto X41.here hx rfl (pc0 := 188) (pc' := 192) rfl (hb hby at_188) (by decide) (by decide) k) ?_
              obtain ⟨fs, hr, hrun, hended, hW, hsame⟩ := X41.leave (v := some (.int (1 : Int32))) (fun h => by rw [Bd.returns] at h; cases h)
              refine ⟨_, _, ?_, hrun, hended, _, _, rfl, ?_, ⟨_, rfl⟩, hW, hsame.mono (by decide) (by decide)⟩
              · exact retN X41 hx (t := .boolean) Bd.returns (by simp) (hb hby at_192) hr
              · show Q_rm0 Z p1 p2 p3 p4 p5 p6 G1 G3 h0 n0 _ T41.heap _
                rw [e41q]
                exact ⟨rfl, N41⟩
        · have N20 := Fr.app N15 N20q
          refine Go.on (B := T20.setTop (mkF m 124 #[.val (.int p1), .val (.int p2), .val (.int p3), .val (.int p4), .val (.int p5), .val (.int p6), .val (.int r1), .val (.int r3), .val (.int r5), .val (.int r7), .val (.ref b9), .val (.ref b14), .val (.int v96_17), .val (.int v105_18), .unset] [(.int (0 : Int32))])) (fun t k => st20 _ k) ?_
          have hc124_43 : (0 : Int32) = (0 : Int32) := by decide
          refine Go.on (B := T20.setTop (mkF m 170 #[.val (.int p1), .val (.int p2), .val (.int p3), .val (.int p4), .val (.int p5), .val (.int p6), .val (.int r1), .val (.int r3), .val (.int r5), .val (.int r7), .val (.ref b9), .val (.ref b14), .val (.int v96_17), .val (.int v105_18), .unset] [])) (fun t k => XS.ifYes X20.here hx rfl (pc0 := 124) (pc' := 170) rfl (hb hby at_124) rfl ((if0 _ _).trans (teq hc124_43).1) (by decide) (by decide) k) ?_
          refine Go.on (B := T20.setTop (mkF m 171 #[.val (.int p1), .val (.int p2), .val (.int p3), .val (.int p4), .val (.int p5), .val (.int p6), .val (.int r1), .val (.int r3), .val (.int r5), .val (.int r7), .val (.ref b9), .val (.ref b14), .val (.int v96_17), .val (.int v105_18), .unset] [(.int (0 : Int32))])) (fun t k => XS.iconst X20.here hx rfl (hb hby at_170) k) ?_
          refine Go.on (B := T20.setTop (mkF m 173 #[.val (.int p1), .val (.int p2), .val (.int p3), .val (.int p4), .val (.int p5), .val (.int p6), .val (.int r1), .val (.int r3), .val (.int r5), .val (.int r7), .val (.ref b9), .val (.ref b14), .val (.int v96_17), .val (.int v105_18), .val (.int (0 : Int32))] [])) (fun t k => XS.istore X20.here hx rfl (hb hby at_171) rfl (l' := #[.val (.int p1), .val (.int p2), .val (.int p3), .val (.int p4), .val (.int p5), .val (.int p6), .val (.int r1), .val (.int r3), .val (.int r5), .val (.int r7), .val (.ref b9), .val (.ref b14), .val (.int v96_17), .val (.int v105_18), .val (.int (0 : Int32))]) rfl k) ?_
          refine Go.on (B := T20.setTop (mkF m 175 #[.val (.int p1), .val (.int p2), .val (.int p3), .val (.int p4), .val (.int p5), .val (.int p6), .val (.int r1), .val (.int r3), .val (.int r5), .val (.int r7), .val (.ref b9), .val (.ref b14), .val (.int v96_17), .val (.int v105_18), .val (.int (0 : Int32))] [(.ref b14)])) (fun t k => XS.aload X20.here hx rfl (hb hby at_173) rfl rfl k) ?_
          refine Go.on (B := T20.setTop (mkF m 177 #[.val (.int p1), .val (.int p2), .val (.int p3), .val (.int p4), .val (.int p5), .val (.int p6), .val (.int r1), .val (.int r3), .val (.int r5), .val (.int r7), .val (.ref b9), .val (.ref b14), .val (.int v96_17), .val (.int v105_18), .val (.int (0 : Int32))] [(.int v96_17), (.ref b14)])) (fun t k => XS.iload X20.here hx rfl (hb hby at_175) rfl k) ?_
          refine Go.on (B := T20.setTop (mkF m 179 #[.val (.int p1), .val (.int p2), .val (.int p3), .val (.int p4), .val (.int p5), .val (.int p6), .val (.int r1), .val (.int r3), .val (.int r5), .val (.int r7), .val (.ref b9), .val (.ref b14), .val (.int v96_17), .val (.int v105_18), .val (.int (0 : Int32))] [(.int v105_18), (.int v96_17), (.ref b14)])) (fun t k => XS.iload X20.here hx rfl (hb hby at_177) rfl k) ?_
          obtain ⟨_, _, ⟨T45, L45, k45, n45⟩, -, X45, ⟨Lc45, hQ45, l45, y45, z45⟩, st45⟩ := Jvm.LawKit.callS X20 hx (y := (⟨"com/example/encours/encours/engine/Money", "isDigits", "(Ljava/lang/String;II)Z"⟩ : MethodName)) hown (mvT hZ (hw _ (List.mem_of_getElem? (i := 43) rfl))) (mvT hZ (hw _ (List.mem_of_getElem? (i := 44) rfl))) (mvT hZ (hw _ (List.mem_of_getElem? (i := 45) rfl))) (mvT hZ (hw _ (List.mem_of_getElem? (i := 46) rfl))) (by decide) (backOf (W := 0) (risL l Z a0 hw [] b14 v96_17 v105_18 y15 ky15 r1 r3 r5 r7 G1 G3 T15.heap n0 Zs17 E15q Fc15 Fv15 Vy15 hr1 hr3 hr5 hr7 (own_le255 _ hr1 hx15_0) (own_le255 _ hr3 hx15_1) (own_le255 _ hr5 hx15_2) (own_le255 _ hr7 hx15_3) (fun _ => ⟨hs0.1, he0.2⟩) O_14 S_cs S_fm S_ad S_hi S_lo P5 rG3) hZ (hw _ (List.mem_of_getElem? (i := 46) rfl)) (hw _ (List.mem_of_getElem? (i := 45) rfl)) (by decide) (by decide)) (g := (mkF m 179 #[.val (.int p1), .val (.int p2), .val (.int p3), .val (.int p4), .val (.int p5), .val (.int p6), .val (.int r1), .val (.int r3), .val (.int r5), .val (.int r7), .val (.ref b9), .val (.ref b14), .val (.int v96_17), .val (.int v105_18), .val (.int (0 : Int32))] [(.int v105_18), (.int v96_17), (.ref b14)])) rfl (by rw [hml]; rfl) (argsL := [(.ref b14), (.int v96_17), (.int v105_18)]) (rest := []) (lenOf pd_17 rfl) rfl (by show 2 * 0 + _ ≤ _; exact Nat.le_of_eq rfl) (hb hby at_179) (fun _ _ => ⟨rfl, e20q, (by decide : 4 + 0 ≤ _), (by decide : 20 + 0 ≤ _)⟩)
          dsimp only [Pt.U, Pt.locs, Pt.cells, Pt.slots] at X45 l45 y45 z45 st45 hQ45
          subst l45 y45 z45
          rcases hQ45 with ⟨⟨_, rfl, ⟨rfl, hd45⟩ | ⟨rfl, hd45⟩⟩, N45q, e45q⟩
          · have N45 := Fr.app N20 N45q
            exact absurd ((own_c0 r1 r3 r5 r7) ▸ hd45.2 (0 : Int32) hd20.1 hd20.2.1) hd20.2.2
          · have N45 := Fr.app N20 N45q
            refine Go.on (B := T45.setTop (mkF m 182 #[.val (.int p1), .val (.int p2), .val (.int p3), .val (.int p4), .val (.int p5), .val (.int p6), .val (.int r1), .val (.int r3), .val (.int r5), .val (.int r7), .val (.ref b9), .val (.ref b14), .val (.int v96_17), .val (.int v105_18), .val (.int (0 : Int32))] [(.int (0 : Int32))])) (fun t k => st45 _ k) ?_
            refine Go.on (B := T45.setTop (mkF m 184 #[.val (.int p1), .val (.int p2), .val (.int p3), .val (.int p4), .val (.int p5), .val (.int p6), .val (.int r1), .val (.int r3), .val (.int r5), .val (.int r7), .val (.ref b9), .val (.ref b14), .val (.int v96_17), .val (.int v105_18), .val (.int (0 : Int32))] [(.int (0 : Int32)), (.int (0 : Int32))])) (fun t k => XS.iload X45.here hx rfl (hb hby at_182) rfl k) ?_
            have hc184_46 : (0 : Int32) = (0 : Int32) := by decide
            refine Go.on (B := T45.setTop (mkF m 187 #[.val (.int p1), .val (.int p2), .val (.int p3), .val (.int p4), .val (.int p5), .val (.int p6), .val (.int r1), .val (.int r3), .val (.int r5), .val (.int r7), .val (.ref b9), .val (.ref b14), .val (.int v96_17), .val (.int v105_18), .val (.int (0 : Int32))] [])) (fun t k => XS.icmpNo X45.here hx rfl (hb hby at_184) rfl (teq hc184_46).2 k) ?_
            refine Go.on (B := T45.setTop (mkF m 188 #[.val (.int p1), .val (.int p2), .val (.int p3), .val (.int p4), .val (.int p5), .val (.int p6), .val (.int r1), .val (.int r3), .val (.int r5), .val (.int r7), .val (.ref b9), .val (.ref b14), .val (.int v96_17), .val (.int v105_18), .val (.int (0 : Int32))] [(.int (1 : Int32))])) (fun t k => XS.iconst X45.here hx rfl (hb hby at_187) k) ?_
            refine Go.on (B := T45.setTop (mkF m 192 #[.val (.int p1), .val (.int p2), .val (.int p3), .val (.int p4), .val (.int p5), .val (.int p6), .val (.int r1), .val (.int r3), .val (.int r5), .val (.int r7), .val (.ref b9), .val (.ref b14), .val (.int v96_17), .val (.int v105_18), .val (.int (0 : Int32))] [(.int (1 : Int32))])) (fun t k => XS.goto X45.here hx rfl (pc0 := 188) (pc' := 192) rfl (hb hby at_188) (by decide) (by decide) k) ?_
            obtain ⟨fs, hr, hrun, hended, hW, hsame⟩ := X45.leave (v := some (.int (1 : Int32))) (fun h => by rw [Bd.returns] at h; cases h)
            refine ⟨_, _, ?_, hrun, hended, _, _, rfl, ?_, ⟨_, rfl⟩, hW, hsame.mono (by decide) (by decide)⟩
            · exact retN X45 hx (t := .boolean) Bd.returns (by simp) (hb hby at_192) hr
            · show Q_rm0 Z p1 p2 p3 p4 p5 p6 G1 G3 h0 n0 _ T45.heap _
              rw [e45q]
              exact ⟨rfl, N45⟩
      · refine Go.on (B := T15.setTop (mkF m 170 #[.val (.int p1), .val (.int p2), .val (.int p3), .val (.int p4), .val (.int p5), .val (.int p6), .val (.int r1), .val (.int r3), .val (.int r5), .val (.int r7), .val (.ref b9), .val (.ref b14), .val (.int v96_17), .val (.int v105_18), .unset] [])) (fun t k => XS.icmpYes X15.here hx rfl (pc0 := 111) (pc' := 170) rfl (hb hby at_111) rfl (flt hc111_19).2.1 (by decide) (by decide) k) ?_
        refine Go.on (B := T15.setTop (mkF m 171 #[.val (.int p1), .val (.int p2), .val (.int p3), .val (.int p4), .val (.int p5), .val (.int p6), .val (.int r1), .val (.int r3), .val (.int r5), .val (.int r7), .val (.ref b9), .val (.ref b14), .val (.int v96_17), .val (.int v105_18), .unset] [(.int (0 : Int32))])) (fun t k => XS.iconst X15.here hx rfl (hb hby at_170) k) ?_
        refine Go.on (B := T15.setTop (mkF m 173 #[.val (.int p1), .val (.int p2), .val (.int p3), .val (.int p4), .val (.int p5), .val (.int p6), .val (.int r1), .val (.int r3), .val (.int r5), .val (.int r7), .val (.ref b9), .val (.ref b14), .val (.int v96_17), .val (.int v105_18), .val (.int (0 : Int32))] [])) (fun t k => XS.istore X15.here hx rfl (hb hby at_171) rfl (l' := #[.val (.int p1), .val (.int p2), .val (.int p3), .val (.int p4), .val (.int p5), .val (.int p6), .val (.int r1), .val (.int r3), .val (.int r5), .val (.int r7), .val (.ref b9), .val (.ref b14), .val (.int v96_17), .val (.int v105_18), .val (.int (0 : Int32))]) rfl k) ?_
        refine Go.on (B := T15.setTop (mkF m 175 #[.val (.int p1), .val (.int p2), .val (.int p3), .val (.int p4), .val (.int p5), .val (.int p6), .val (.int r1), .val (.int r3), .val (.int r5), .val (.int r7), .val (.ref b9), .val (.ref b14), .val (.int v96_17), .val (.int v105_18), .val (.int (0 : Int32))] [(.ref b14)])) (fun t k => XS.aload X15.here hx rfl (hb hby at_173) rfl rfl k) ?_
        refine Go.on (B := T15.setTop (mkF m 177 #[.val (.int p1), .val (.int p2), .val (.int p3), .val (.int p4), .val (.int p5), .val (.int p6), .val (.int r1), .val (.int r3), .val (.int r5), .val (.int r7), .val (.ref b9), .val (.ref b14), .val (.int v96_17), .val (.int v105_18), .val (.int (0 : Int32))] [(.int v96_17), (.ref b14)])) (fun t k => XS.iload X15.here hx rfl (hb hby at_175) rfl k) ?_
        refine Go.on (B := T15.setTop (mkF m 179 #[.val (.int p1), .val (.int p2), .val (.int p3), .val (.int p4), .val (.int p5), .val (.int p6), .val (.int r1), .val (.int r3), .val (.int r5), .val (.int r7), .val (.ref b9), .val (.ref b14), .val (.int v96_17), .val (.int v105_18), .val (.int (0 : Int32))] [(.int v105_18), (.int v96_17), (.ref b14)])) (fun t k => XS.iload X15.here hx rfl (hb hby at_177) rfl k) ?_
        obtain ⟨_, _, ⟨T48, L48, k48, n48⟩, -, X48, ⟨Lc48, hQ48, l48, y48, z48⟩, st48⟩ := Jvm.LawKit.callS X15 hx (y := (⟨"com/example/encours/encours/engine/Money", "isDigits", "(Ljava/lang/String;II)Z"⟩ : MethodName)) hown (mvT hZ (hw _ (List.mem_of_getElem? (i := 43) rfl))) (mvT hZ (hw _ (List.mem_of_getElem? (i := 44) rfl))) (mvT hZ (hw _ (List.mem_of_getElem? (i := 45) rfl))) (mvT hZ (hw _ (List.mem_of_getElem? (i := 46) rfl))) (by decide) (backOf (W := 0) (risL l Z a0 hw [] b14 v96_17 v105_18 y15 ky15 r1 r3 r5 r7 G1 G3 T15.heap n0 Zs17 E15q Fc15 Fv15 Vy15 hr1 hr3 hr5 hr7 (own_le255 _ hr1 hx15_0) (own_le255 _ hr3 hx15_1) (own_le255 _ hr5 hx15_2) (own_le255 _ hr7 hx15_3) (fun _ => ⟨hs0.1, he0.2⟩) O_14 S_cs S_fm S_ad S_hi S_lo P5 rG3) hZ (hw _ (List.mem_of_getElem? (i := 46) rfl)) (hw _ (List.mem_of_getElem? (i := 45) rfl)) (by decide) (by decide)) (g := (mkF m 179 #[.val (.int p1), .val (.int p2), .val (.int p3), .val (.int p4), .val (.int p5), .val (.int p6), .val (.int r1), .val (.int r3), .val (.int r5), .val (.int r7), .val (.ref b9), .val (.ref b14), .val (.int v96_17), .val (.int v105_18), .val (.int (0 : Int32))] [(.int v105_18), (.int v96_17), (.ref b14)])) rfl (by rw [hml]; rfl) (argsL := [(.ref b14), (.int v96_17), (.int v105_18)]) (rest := []) (lenOf pd_17 rfl) rfl (by show 2 * 0 + _ ≤ _; exact Nat.le_of_eq rfl) (hb hby at_179) (fun _ _ => ⟨rfl, rfl, (by decide : 4 + 0 ≤ _), (by decide : 20 + 0 ≤ _)⟩)
        dsimp only [Pt.U, Pt.locs, Pt.cells, Pt.slots] at X48 l48 y48 z48 st48 hQ48
        subst l48 y48 z48
        rcases hQ48 with ⟨⟨_, rfl, ⟨rfl, hd48⟩ | ⟨rfl, hd48⟩⟩, N48q, e48q⟩
        · have N48 := Fr.app N15 N48q
          exact absurd hd48.1 hc111_19
        · have N48 := Fr.app N15 N48q
          refine Go.on (B := T48.setTop (mkF m 182 #[.val (.int p1), .val (.int p2), .val (.int p3), .val (.int p4), .val (.int p5), .val (.int p6), .val (.int r1), .val (.int r3), .val (.int r5), .val (.int r7), .val (.ref b9), .val (.ref b14), .val (.int v96_17), .val (.int v105_18), .val (.int (0 : Int32))] [(.int (0 : Int32))])) (fun t k => st48 _ k) ?_
          refine Go.on (B := T48.setTop (mkF m 184 #[.val (.int p1), .val (.int p2), .val (.int p3), .val (.int p4), .val (.int p5), .val (.int p6), .val (.int r1), .val (.int r3), .val (.int r5), .val (.int r7), .val (.ref b9), .val (.ref b14), .val (.int v96_17), .val (.int v105_18), .val (.int (0 : Int32))] [(.int (0 : Int32)), (.int (0 : Int32))])) (fun t k => XS.iload X48.here hx rfl (hb hby at_182) rfl k) ?_
          have hc184_49 : (0 : Int32) = (0 : Int32) := by decide
          refine Go.on (B := T48.setTop (mkF m 187 #[.val (.int p1), .val (.int p2), .val (.int p3), .val (.int p4), .val (.int p5), .val (.int p6), .val (.int r1), .val (.int r3), .val (.int r5), .val (.int r7), .val (.ref b9), .val (.ref b14), .val (.int v96_17), .val (.int v105_18), .val (.int (0 : Int32))] [])) (fun t k => XS.icmpNo X48.here hx rfl (hb hby at_184) rfl (teq hc184_49).2 k) ?_
          refine Go.on (B := T48.setTop (mkF m 188 #[.val (.int p1), .val (.int p2), .val (.int p3), .val (.int p4), .val (.int p5), .val (.int p6), .val (.int r1), .val (.int r3), .val (.int r5), .val (.int r7), .val (.ref b9), .val (.ref b14), .val (.int v96_17), .val (.int v105_18), .val (.int (0 : Int32))] [(.int (1 : Int32))])) (fun t k => XS.iconst X48.here hx rfl (hb hby at_187) k) ?_
          refine Go.on (B := T48.setTop (mkF m 192 #[.val (.int p1), .val (.int p2), .val (.int p3), .val (.int p4), .val (.int p5), .val (.int p6), .val (.int r1), .val (.int r3), .val (.int r5), .val (.int r7), .val (.ref b9), .val (.ref b14), .val (.int v96_17), .val (.int v105_18), .val (.int (0 : Int32))] [(.int (1 : Int32))])) (fun t k => XS.goto X48.here hx rfl (pc0 := 188) (pc' := 192) rfl (hb hby at_188) (by decide) (by decide) k) ?_
          obtain ⟨fs, hr, hrun, hended, hW, hsame⟩ := X48.leave (v := some (.int (1 : Int32))) (fun h => by rw [Bd.returns] at h; cases h)
          refine ⟨_, _, ?_, hrun, hended, _, _, rfl, ?_, ⟨_, rfl⟩, hW, hsame.mono (by decide) (by decide)⟩
          · exact retN X48 hx (t := .boolean) Bd.returns (by simp) (hb hby at_192) hr
          · show Q_rm0 Z p1 p2 p3 p4 p5 p6 G1 G3 h0 n0 _ T48.heap _
            rw [e48q]
            exact ⟨rfl, N48⟩
    · refine Go.on (B := T15.setTop (mkF m 71 #[.val (.int p1), .val (.int p2), .val (.int p3), .val (.int p4), .val (.int p5), .val (.int p6), .val (.int r1), .val (.int r3), .val (.int r5), .val (.int r7), .val (.ref b9), .val (.ref b14), .unset, .unset, .unset] [])) (fun t k => XS.icmpNo X15.here hx rfl (hb hby at_68) rfl (flt hc68_16).1 k) ?_
      refine Go.on (B := T15.setTop (mkF m 73 #[.val (.int p1), .val (.int p2), .val (.int p3), .val (.int p4), .val (.int p5), .val (.int p6), .val (.int r1), .val (.int r3), .val (.int r5), .val (.int r7), .val (.ref b9), .val (.ref b14), .unset, .unset, .unset] [(.ref b14)])) (fun t k => XS.aload X15.here hx rfl (hb hby at_71) rfl rfl k) ?_
      refine Go.on (B := T15.setTop (mkF m 75 #[.val (.int p1), .val (.int p2), .val (.int p3), .val (.int p4), .val (.int p5), .val (.int p6), .val (.int r1), .val (.int r3), .val (.int r5), .val (.int r7), .val (.ref b9), .val (.ref b14), .unset, .unset, .unset] [(.int p5), (.ref b14)])) (fun t k => XS.iload X15.here hx rfl (hb hby at_73) rfl k) ?_
      refine Go.on (B := T15.setTop (mkF m 77 #[.val (.int p1), .val (.int p2), .val (.int p3), .val (.int p4), .val (.int p5), .val (.int p6), .val (.int r1), .val (.int r3), .val (.int r5), .val (.int r7), .val (.ref b9), .val (.ref b14), .unset, .unset, .unset] [(.int p6), (.int p5), (.ref b14)])) (fun t k => XS.iload X15.here hx rfl (hb hby at_75) rfl k) ?_
      obtain ⟨_, _, ⟨T50, L50, k50, n50⟩, -, X50, ⟨Lc50, hQ50, l50, y50, z50⟩, st50⟩ := Jvm.LawKit.callS X15 hx (y := (⟨"com/example/encours/encours/engine/Money", "isDigits", "(Ljava/lang/String;II)Z"⟩ : MethodName)) hown (mvT hZ (hw _ (List.mem_of_getElem? (i := 43) rfl))) (mvT hZ (hw _ (List.mem_of_getElem? (i := 44) rfl))) (mvT hZ (hw _ (List.mem_of_getElem? (i := 45) rfl))) (mvT hZ (hw _ (List.mem_of_getElem? (i := 46) rfl))) (by decide) (backOf (W := 0) (risL l Z a0 hw [] b14 p5 p6 y15 ky15 r1 r3 r5 r7 G1 G3 T15.heap n0 Zs17 E15q Fc15 Fv15 Vy15 hr1 hr3 hr5 hr7 (own_le255 _ hr1 hx15_0) (own_le255 _ hr3 hx15_1) (own_le255 _ hr5 hx15_2) (own_le255 _ hr7 hx15_3) (fun q => absurd q hc68_16) O_14 S_cs S_fm S_ad S_hi S_lo P5 rG3) hZ (hw _ (List.mem_of_getElem? (i := 46) rfl)) (hw _ (List.mem_of_getElem? (i := 45) rfl)) (by decide) (by decide)) (g := (mkF m 77 #[.val (.int p1), .val (.int p2), .val (.int p3), .val (.int p4), .val (.int p5), .val (.int p6), .val (.int r1), .val (.int r3), .val (.int r5), .val (.int r7), .val (.ref b9), .val (.ref b14), .unset, .unset, .unset] [(.int p6), (.int p5), (.ref b14)])) rfl (by rw [hml]; rfl) (argsL := [(.ref b14), (.int p5), (.int p6)]) (rest := []) (lenOf pd_17 rfl) rfl (by show 2 * 0 + _ ≤ _; exact Nat.le_of_eq rfl) (hb hby at_77) (fun _ _ => ⟨rfl, rfl, (by decide : 4 + 0 ≤ _), (by decide : 20 + 0 ≤ _)⟩)
      dsimp only [Pt.U, Pt.locs, Pt.cells, Pt.slots] at X50 l50 y50 z50 st50 hQ50
      subst l50 y50 z50
      rcases hQ50 with ⟨⟨_, rfl, ⟨rfl, hd50⟩ | ⟨rfl, hd50⟩⟩, N50q, e50q⟩
      · have N50 := Fr.app N15 N50q
        exact absurd hd50.1 hc68_16
      · have N50 := Fr.app N15 N50q
        refine Go.on (B := T50.setTop (mkF m 80 #[.val (.int p1), .val (.int p2), .val (.int p3), .val (.int p4), .val (.int p5), .val (.int p6), .val (.int r1), .val (.int r3), .val (.int r5), .val (.int r7), .val (.ref b9), .val (.ref b14), .unset, .unset, .unset] [(.int (0 : Int32))])) (fun t k => st50 _ k) ?_
        have hc80_51 : (0 : Int32) = (0 : Int32) := by decide
        refine Go.on (B := T50.setTop (mkF m 83 #[.val (.int p1), .val (.int p2), .val (.int p3), .val (.int p4), .val (.int p5), .val (.int p6), .val (.int r1), .val (.int r3), .val (.int r5), .val (.int r7), .val (.ref b9), .val (.ref b14), .unset, .unset, .unset] [])) (fun t k => XS.ifNo X50.here hx rfl (hb hby at_80) rfl ((if0 _ _).trans (teq hc80_51).2) k) ?_
        refine Go.on (B := T50.setTop (mkF m 84 #[.val (.int p1), .val (.int p2), .val (.int p3), .val (.int p4), .val (.int p5), .val (.int p6), .val (.int r1), .val (.int r3), .val (.int r5), .val (.int r7), .val (.ref b9), .val (.ref b14), .unset, .unset, .unset] [(.int (1 : Int32))])) (fun t k => XS.iconst X50.here hx rfl (hb hby at_83) k) ?_
        refine Go.on (B := T50.setTop (mkF m 88 #[.val (.int p1), .val (.int p2), .val (.int p3), .val (.int p4), .val (.int p5), .val (.int p6), .val (.int r1), .val (.int r3), .val (.int r5), .val (.int r7), .val (.ref b9), .val (.ref b14), .unset, .unset, .unset] [(.int (1 : Int32))])) (fun t k => XS.goto X50.here hx rfl (pc0 := 84) (pc' := 88) rfl (hb hby at_84) (by decide) (by decide) k) ?_
        obtain ⟨fs, hr, hrun, hended, hW, hsame⟩ := X50.leave (v := some (.int (1 : Int32))) (fun h => by rw [Bd.returns] at h; cases h)
        refine ⟨_, _, ?_, hrun, hended, _, _, rfl, ?_, ⟨_, rfl⟩, hW, hsame.mono (by decide) (by decide)⟩
        · exact retN X50 hx (t := .boolean) Bd.returns (by simp) (hb hby at_88) hr
        · show Q_rm0 Z p1 p2 p3 p4 p5 p6 G1 G3 h0 n0 _ T50.heap _
          rw [e50q]
          exact ⟨rfl, N50⟩
  · have N15 := Fr.app N13 N15q
    have ne_b9_y15 : b9 ≠ y15 := Nat.ne_of_lt (Nat.lt_of_lt_of_le f12.lt sx15)
    have ne_b14_y15 : b14 ≠ y15 := Nat.ne_of_lt (Nat.lt_of_lt_of_le A14.lt sx15)
    have O_18 := O_11.keep K15q (allS ge_b14 all0)
    have f19 := f12.keep K15q (ninS ne_b9_b14 nin0)
    have f20 := A14.keep K15q
    have Zs21 := Nat.le_trans Zs13 K15q.1
    refine Go.on (B := T15.setTop (mkF m 62 #[.val (.int p1), .val (.int p2), .val (.int p3), .val (.int p4), .val (.int p5), .val (.int p6), .val (.int r1), .val (.int r3), .val (.int r5), .val (.int r7), .val (.ref b9), .unset, .unset, .unset, .unset] [(.ref b14)])) (fun t k => st15.trans k) ?_
    refine Go.on (B := T15.setTop (mkF m 64 #[.val (.int p1), .val (.int p2), .val (.int p3), .val (.int p4), .val (.int p5), .val (.int p6), .val (.int r1), .val (.int r3), .val (.int r5), .val (.int r7), .val (.ref b9), .val (.ref b14), .unset, .unset, .unset] [])) (fun t k => XS.astore X15.here hx rfl (hb hby at_62) rfl rfl (l' := #[.val (.int p1), .val (.int p2), .val (.int p3), .val (.int p4), .val (.int p5), .val (.int p6), .val (.int r1), .val (.int r3), .val (.int r5), .val (.int r7), .val (.ref b9), .val (.ref b14), .unset, .unset, .unset]) rfl k) ?_
    refine Go.on (B := T15.setTop (mkF m 66 #[.val (.int p1), .val (.int p2), .val (.int p3), .val (.int p4), .val (.int p5), .val (.int p6), .val (.int r1), .val (.int r3), .val (.int r5), .val (.int r7), .val (.ref b9), .val (.ref b14), .unset, .unset, .unset] [(.int p5)])) (fun t k => XS.iload X15.here hx rfl (hb hby at_64) rfl k) ?_
    refine Go.on (B := T15.setTop (mkF m 68 #[.val (.int p1), .val (.int p2), .val (.int p3), .val (.int p4), .val (.int p5), .val (.int p6), .val (.int r1), .val (.int r3), .val (.int r5), .val (.int r7), .val (.ref b9), .val (.ref b14), .unset, .unset, .unset] [(.int p6), (.int p5)])) (fun t k => XS.iload X15.here hx rfl (hb hby at_66) rfl k) ?_
    by_cases hc68_52 : p5 < p6
    · refine Go.on (B := T15.setTop (mkF m 89 #[.val (.int p1), .val (.int p2), .val (.int p3), .val (.int p4), .val (.int p5), .val (.int p6), .val (.int r1), .val (.int r3), .val (.int r5), .val (.int r7), .val (.ref b9), .val (.ref b14), .unset, .unset, .unset] [])) (fun t k => XS.icmpYes X15.here hx rfl (pc0 := 68) (pc' := 89) rfl (hb hby at_68) rfl (tlt hc68_52).1 (by decide) (by decide) k) ?_
      refine Go.on (B := T15.setTop (mkF m 91 #[.val (.int p1), .val (.int p2), .val (.int p3), .val (.int p4), .val (.int p5), .val (.int p6), .val (.int r1), .val (.int r3), .val (.int r5), .val (.int r7), .val (.ref b9), .val (.ref b14), .unset, .unset, .unset] [(.int p5)])) (fun t k => XS.iload X15.here hx rfl (hb hby at_89) rfl k) ?_
      refine Go.on (B := T15.setTop (mkF m 93 #[.val (.int p1), .val (.int p2), .val (.int p3), .val (.int p4), .val (.int p5), .val (.int p6), .val (.int r1), .val (.int r3), .val (.int r5), .val (.int r7), .val (.ref b9), .val (.ref b14), .unset, .unset, .unset] [(.int (2147483647 : Int32)), (.int p5)])) (fun t k => X15.ldcInt hx hown (mvT hZ (hw _ (List.mem_of_getElem? (i := 36) rfl))) (g := (mkF m 91 #[.val (.int p1), .val (.int p2), .val (.int p3), .val (.int p4), .val (.int p5), .val (.int p6), .val (.int r1), .val (.int r3), .val (.int r5), .val (.int r7), .val (.ref b9), .val (.ref b14), .unset, .unset, .unset] [(.int p5)])) rfl (hb hby at_91) _ k) ?_
      refine Go.on (B := T15.setTop (mkF m 94 #[.val (.int p1), .val (.int p2), .val (.int p3), .val (.int p4), .val (.int p5), .val (.int p6), .val (.int r1), .val (.int r3), .val (.int r5), .val (.int r7), .val (.ref b9), .val (.ref b14), .unset, .unset, .unset] [(.int (p5 &&& (2147483647 : Int32)))])) (fun t k => XS.iand X15.here hx rfl (hb hby at_93) rfl k) ?_
      refine Go.on (B := T15.setTop (mkF m 95 #[.val (.int p1), .val (.int p2), .val (.int p3), .val (.int p4), .val (.int p5), .val (.int p6), .val (.int r1), .val (.int r3), .val (.int r5), .val (.int r7), .val (.ref b9), .val (.ref b14), .unset, .unset, .unset] [(.int (5 : Int32)), (.int (p5 &&& (2147483647 : Int32)))])) (fun t k => XS.iconst X15.here hx rfl (hb hby at_94) k) ?_
      refine Go.on (B := T15.setTop (mkF m 96 #[.val (.int p1), .val (.int p2), .val (.int p3), .val (.int p4), .val (.int p5), .val (.int p6), .val (.int r1), .val (.int r3), .val (.int r5), .val (.int r7), .val (.ref b9), .val (.ref b14), .unset, .unset, .unset] [(.int ((p5 &&& (2147483647 : Int32)) % (5 : Int32)))])) (fun t k => iremM X15 hx rfl (hb hby at_95) rfl (by decide) k) ?_
      generalize hv96_53 : ((p5 &&& (2147483647 : Int32)) % (5 : Int32)) = v96_53
      refine Go.on (B := T15.setTop (mkF m 98 #[.val (.int p1), .val (.int p2), .val (.int p3), .val (.int p4), .val (.int p5), .val (.int p6), .val (.int r1), .val (.int r3), .val (.int r5), .val (.int r7), .val (.ref b9), .val (.ref b14), .val (.int v96_53), .unset, .unset] [])) (fun t k => XS.istore X15.here hx rfl (hb hby at_96) rfl (l' := #[.val (.int p1), .val (.int p2), .val (.int p3), .val (.int p4), .val (.int p5), .val (.int p6), .val (.int r1), .val (.int r3), .val (.int r5), .val (.int r7), .val (.ref b9), .val (.ref b14), .val (.int v96_53), .unset, .unset]) rfl k) ?_
      refine Go.on (B := T15.setTop (mkF m 100 #[.val (.int p1), .val (.int p2), .val (.int p3), .val (.int p4), .val (.int p5), .val (.int p6), .val (.int r1), .val (.int r3), .val (.int r5), .val (.int r7), .val (.ref b9), .val (.ref b14), .val (.int v96_53), .unset, .unset] [(.int p6)])) (fun t k => XS.iload X15.here hx rfl (hb hby at_98) rfl k) ?_
      refine Go.on (B := T15.setTop (mkF m 102 #[.val (.int p1), .val (.int p2), .val (.int p3), .val (.int p4), .val (.int p5), .val (.int p6), .val (.int r1), .val (.int r3), .val (.int r5), .val (.int r7), .val (.ref b9), .val (.ref b14), .val (.int v96_53), .unset, .unset] [(.int (2147483647 : Int32)), (.int p6)])) (fun t k => X15.ldcInt hx hown (mvT hZ (hw _ (List.mem_of_getElem? (i := 36) rfl))) (g := (mkF m 100 #[.val (.int p1), .val (.int p2), .val (.int p3), .val (.int p4), .val (.int p5), .val (.int p6), .val (.int r1), .val (.int r3), .val (.int r5), .val (.int r7), .val (.ref b9), .val (.ref b14), .val (.int v96_53), .unset, .unset] [(.int p6)])) rfl (hb hby at_100) _ k) ?_
      refine Go.on (B := T15.setTop (mkF m 103 #[.val (.int p1), .val (.int p2), .val (.int p3), .val (.int p4), .val (.int p5), .val (.int p6), .val (.int r1), .val (.int r3), .val (.int r5), .val (.int r7), .val (.ref b9), .val (.ref b14), .val (.int v96_53), .unset, .unset] [(.int (p6 &&& (2147483647 : Int32)))])) (fun t k => XS.iand X15.here hx rfl (hb hby at_102) rfl k) ?_
      refine Go.on (B := T15.setTop (mkF m 104 #[.val (.int p1), .val (.int p2), .val (.int p3), .val (.int p4), .val (.int p5), .val (.int p6), .val (.int r1), .val (.int r3), .val (.int r5), .val (.int r7), .val (.ref b9), .val (.ref b14), .val (.int v96_53), .unset, .unset] [(.int (5 : Int32)), (.int (p6 &&& (2147483647 : Int32)))])) (fun t k => XS.iconst X15.here hx rfl (hb hby at_103) k) ?_
      refine Go.on (B := T15.setTop (mkF m 105 #[.val (.int p1), .val (.int p2), .val (.int p3), .val (.int p4), .val (.int p5), .val (.int p6), .val (.int r1), .val (.int r3), .val (.int r5), .val (.int r7), .val (.ref b9), .val (.ref b14), .val (.int v96_53), .unset, .unset] [(.int ((p6 &&& (2147483647 : Int32)) % (5 : Int32)))])) (fun t k => iremM X15 hx rfl (hb hby at_104) rfl (by decide) k) ?_
      generalize hv105_54 : ((p6 &&& (2147483647 : Int32)) % (5 : Int32)) = v105_54
      refine Go.on (B := T15.setTop (mkF m 107 #[.val (.int p1), .val (.int p2), .val (.int p3), .val (.int p4), .val (.int p5), .val (.int p6), .val (.int r1), .val (.int r3), .val (.int r5), .val (.int r7), .val (.ref b9), .val (.ref b14), .val (.int v96_53), .val (.int v105_54), .unset] [])) (fun t k => XS.istore X15.here hx rfl (hb hby at_105) rfl (l' := #[.val (.int p1), .val (.int p2), .val (.int p3), .val (.int p4), .val (.int p5), .val (.int p6), .val (.int r1), .val (.int r3), .val (.int r5), .val (.int r7), .val (.ref b9), .val (.ref b14), .val (.int v96_53), .val (.int v105_54), .unset]) rfl k) ?_
      have hs0 := own_m5 _ _ hv96_53
      have he0 := own_m5 _ _ hv105_54
      refine Go.on (B := T15.setTop (mkF m 109 #[.val (.int p1), .val (.int p2), .val (.int p3), .val (.int p4), .val (.int p5), .val (.int p6), .val (.int r1), .val (.int r3), .val (.int r5), .val (.int r7), .val (.ref b9), .val (.ref b14), .val (.int v96_53), .val (.int v105_54), .unset] [(.int v96_53)])) (fun t k => XS.iload X15.here hx rfl (hb hby at_107) rfl k) ?_
      refine Go.on (B := T15.setTop (mkF m 111 #[.val (.int p1), .val (.int p2), .val (.int p3), .val (.int p4), .val (.int p5), .val (.int p6), .val (.int r1), .val (.int r3), .val (.int r5), .val (.int r7), .val (.ref b9), .val (.ref b14), .val (.int v96_53), .val (.int v105_54), .unset] [(.int v105_54), (.int v96_53)])) (fun t k => XS.iload X15.here hx rfl (hb hby at_109) rfl k) ?_
      by_cases hc111_55 : v96_53 < v105_54
      · refine Go.on (B := T15.setTop (mkF m 114 #[.val (.int p1), .val (.int p2), .val (.int p3), .val (.int p4), .val (.int p5), .val (.int p6), .val (.int r1), .val (.int r3), .val (.int r5), .val (.int r7), .val (.ref b9), .val (.ref b14), .val (.int v96_53), .val (.int v105_54), .unset] [])) (fun t k => XS.icmpNo X15.here hx rfl (hb hby at_111) rfl (tlt hc111_55).2.1 k) ?_
        refine Go.on (B := T15.setTop (mkF m 115 #[.val (.int p1), .val (.int p2), .val (.int p3), .val (.int p4), .val (.int p5), .val (.int p6), .val (.int r1), .val (.int r3), .val (.int r5), .val (.int r7), .val (.ref b9), .val (.ref b14), .val (.int v96_53), .val (.int v105_54), .unset] [(.int (0 : Int32))])) (fun t k => XS.iconst X15.here hx rfl (hb hby at_114) k) ?_
        refine Go.on (B := T15.setTop (mkF m 117 #[.val (.int p1), .val (.int p2), .val (.int p3), .val (.int p4), .val (.int p5), .val (.int p6), .val (.int r1), .val (.int r3), .val (.int r5), .val (.int r7), .val (.ref b9), .val (.ref b14), .val (.int v96_53), .val (.int v105_54), .unset] [(.int v96_53), (.int (0 : Int32))])) (fun t k => XS.iload X15.here hx rfl (hb hby at_115) rfl k) ?_
        refine Go.on (B := T15.setTop (mkF m 119 #[.val (.int p1), .val (.int p2), .val (.int p3), .val (.int p4), .val (.int p5), .val (.int p6), .val (.int r1), .val (.int r3), .val (.int r5), .val (.int r7), .val (.ref b9), .val (.ref b14), .val (.int v96_53), .val (.int v105_54), .unset] [(.int v105_54), (.int v96_53), (.int (0 : Int32))])) (fun t k => XS.iload X15.here hx rfl (hb hby at_117) rfl k) ?_
        refine Go.on (B := T15.setTop (mkF m 121 #[.val (.int p1), .val (.int p2), .val (.int p3), .val (.int p4), .val (.int p5), .val (.int p6), .val (.int r1), .val (.int r3), .val (.int r5), .val (.int r7), .val (.ref b9), .val (.ref b14), .val (.int v96_53), .val (.int v105_54), .unset] [(.int r1), (.int v105_54), (.int v96_53), (.int (0 : Int32))])) (fun t k => XS.iload X15.here hx rfl (hb hby at_119) rfl k) ?_
        obtain ⟨_, _, ⟨T56, L56, k56, n56⟩, -, X56, ⟨Lc56, hQ56, l56, y56, z56⟩, st56⟩ := Jvm.LawKit.callS X15 hx (y := (⟨"com/example/encours/encours/engine/MoneyIsDigitsPinLaw", "ok", "(IIIC)Z"⟩ : MethodName)) hown (mvT hZ (hw _ (List.mem_of_getElem? (i := 37) rfl))) (mvT hZ (hw _ (List.mem_of_getElem? (i := 38) rfl))) (mvT hZ (hw _ (List.mem_of_getElem? (i := 2) rfl))) (mvT hZ (hw _ (List.mem_of_getElem? (i := 39) rfl))) (by decide) (backOf (W := 0) (rok l Z a0 hw [] (0 : Int32) v96_53 v105_54 r1 T15.heap n0 Zs21) hZ (hw _ (List.mem_of_getElem? (i := 39) rfl)) (hw _ (List.mem_of_getElem? (i := 2) rfl)) (by decide) (by decide)) (g := (mkF m 121 #[.val (.int p1), .val (.int p2), .val (.int p3), .val (.int p4), .val (.int p5), .val (.int p6), .val (.int r1), .val (.int r3), .val (.int r5), .val (.int r7), .val (.ref b9), .val (.ref b14), .val (.int v96_53), .val (.int v105_54), .unset] [(.int r1), (.int v105_54), (.int v96_53), (.int (0 : Int32))])) rfl (by rw [hml]; rfl) (argsL := [(.int (0 : Int32)), (.int v96_53), (.int v105_54), (.int r1)]) (rest := []) (lenOf pd_16 rfl) rfl (by show 2 * 0 + _ ≤ _; exact Nat.le_of_eq rfl) (hb hby at_121) (fun _ _ => ⟨rfl, rfl, (by decide : 4 + 0 ≤ _), (by decide : 20 + 0 ≤ _)⟩)
        dsimp only [Pt.U, Pt.locs, Pt.cells, Pt.slots] at X56 l56 y56 z56 st56 hQ56
        subst l56 y56 z56
        rcases hQ56 with ⟨⟨_, rfl, ⟨rfl, hd56⟩ | ⟨rfl, hd56⟩⟩, N56q, e56q⟩
        · have N56 := Fr.app N15 N56q
          refine Go.on (B := T56.setTop (mkF m 124 #[.val (.int p1), .val (.int p2), .val (.int p3), .val (.int p4), .val (.int p5), .val (.int p6), .val (.int r1), .val (.int r3), .val (.int r5), .val (.int r7), .val (.ref b9), .val (.ref b14), .val (.int v96_53), .val (.int v105_54), .unset] [(.int (1 : Int32))])) (fun t k => st56 _ k) ?_
          have hc124_57 : ¬ ((1 : Int32) = (0 : Int32)) := by decide
          refine Go.on (B := T56.setTop (mkF m 127 #[.val (.int p1), .val (.int p2), .val (.int p3), .val (.int p4), .val (.int p5), .val (.int p6), .val (.int r1), .val (.int r3), .val (.int r5), .val (.int r7), .val (.ref b9), .val (.ref b14), .val (.int v96_53), .val (.int v105_54), .unset] [])) (fun t k => XS.ifNo X56.here hx rfl (hb hby at_124) rfl ((if0 _ _).trans (feq hc124_57).1) k) ?_
          refine Go.on (B := T56.setTop (mkF m 128 #[.val (.int p1), .val (.int p2), .val (.int p3), .val (.int p4), .val (.int p5), .val (.int p6), .val (.int r1), .val (.int r3), .val (.int r5), .val (.int r7), .val (.ref b9), .val (.ref b14), .val (.int v96_53), .val (.int v105_54), .unset] [(.int (1 : Int32))])) (fun t k => XS.iconst X56.here hx rfl (hb hby at_127) k) ?_
          refine Go.on (B := T56.setTop (mkF m 130 #[.val (.int p1), .val (.int p2), .val (.int p3), .val (.int p4), .val (.int p5), .val (.int p6), .val (.int r1), .val (.int r3), .val (.int r5), .val (.int r7), .val (.ref b9), .val (.ref b14), .val (.int v96_53), .val (.int v105_54), .unset] [(.int v96_53), (.int (1 : Int32))])) (fun t k => XS.iload X56.here hx rfl (hb hby at_128) rfl k) ?_
          refine Go.on (B := T56.setTop (mkF m 132 #[.val (.int p1), .val (.int p2), .val (.int p3), .val (.int p4), .val (.int p5), .val (.int p6), .val (.int r1), .val (.int r3), .val (.int r5), .val (.int r7), .val (.ref b9), .val (.ref b14), .val (.int v96_53), .val (.int v105_54), .unset] [(.int v105_54), (.int v96_53), (.int (1 : Int32))])) (fun t k => XS.iload X56.here hx rfl (hb hby at_130) rfl k) ?_
          refine Go.on (B := T56.setTop (mkF m 134 #[.val (.int p1), .val (.int p2), .val (.int p3), .val (.int p4), .val (.int p5), .val (.int p6), .val (.int r1), .val (.int r3), .val (.int r5), .val (.int r7), .val (.ref b9), .val (.ref b14), .val (.int v96_53), .val (.int v105_54), .unset] [(.int r3), (.int v105_54), (.int v96_53), (.int (1 : Int32))])) (fun t k => XS.iload X56.here hx rfl (hb hby at_132) rfl k) ?_
          obtain ⟨_, _, ⟨T58, L58, k58, n58⟩, -, X58, ⟨Lc58, hQ58, l58, y58, z58⟩, st58⟩ := Jvm.LawKit.callS X56 hx (y := (⟨"com/example/encours/encours/engine/MoneyIsDigitsPinLaw", "ok", "(IIIC)Z"⟩ : MethodName)) hown (mvT hZ (hw _ (List.mem_of_getElem? (i := 37) rfl))) (mvT hZ (hw _ (List.mem_of_getElem? (i := 38) rfl))) (mvT hZ (hw _ (List.mem_of_getElem? (i := 2) rfl))) (mvT hZ (hw _ (List.mem_of_getElem? (i := 39) rfl))) (by decide) (backOf (W := 0) (rok l Z a0 hw [] (1 : Int32) v96_53 v105_54 r3 T15.heap n0 Zs21) hZ (hw _ (List.mem_of_getElem? (i := 39) rfl)) (hw _ (List.mem_of_getElem? (i := 2) rfl)) (by decide) (by decide)) (g := (mkF m 134 #[.val (.int p1), .val (.int p2), .val (.int p3), .val (.int p4), .val (.int p5), .val (.int p6), .val (.int r1), .val (.int r3), .val (.int r5), .val (.int r7), .val (.ref b9), .val (.ref b14), .val (.int v96_53), .val (.int v105_54), .unset] [(.int r3), (.int v105_54), (.int v96_53), (.int (1 : Int32))])) rfl (by rw [hml]; rfl) (argsL := [(.int (1 : Int32)), (.int v96_53), (.int v105_54), (.int r3)]) (rest := []) (lenOf pd_16 rfl) rfl (by show 2 * 0 + _ ≤ _; exact Nat.le_of_eq rfl) (hb hby at_134) (fun _ _ => ⟨rfl, e56q, (by decide : 4 + 0 ≤ _), (by decide : 20 + 0 ≤ _)⟩)
          dsimp only [Pt.U, Pt.locs, Pt.cells, Pt.slots] at X58 l58 y58 z58 st58 hQ58
          subst l58 y58 z58
          rcases hQ58 with ⟨⟨_, rfl, ⟨rfl, hd58⟩ | ⟨rfl, hd58⟩⟩, N58q, e58q⟩
          · have N58 := Fr.app N56 N58q
            refine Go.on (B := T58.setTop (mkF m 137 #[.val (.int p1), .val (.int p2), .val (.int p3), .val (.int p4), .val (.int p5), .val (.int p6), .val (.int r1), .val (.int r3), .val (.int r5), .val (.int r7), .val (.ref b9), .val (.ref b14), .val (.int v96_53), .val (.int v105_54), .unset] [(.int (1 : Int32))])) (fun t k => st58 _ k) ?_
            have hc137_59 : ¬ ((1 : Int32) = (0 : Int32)) := by decide
            refine Go.on (B := T58.setTop (mkF m 140 #[.val (.int p1), .val (.int p2), .val (.int p3), .val (.int p4), .val (.int p5), .val (.int p6), .val (.int r1), .val (.int r3), .val (.int r5), .val (.int r7), .val (.ref b9), .val (.ref b14), .val (.int v96_53), .val (.int v105_54), .unset] [])) (fun t k => XS.ifNo X58.here hx rfl (hb hby at_137) rfl ((if0 _ _).trans (feq hc137_59).1) k) ?_
            refine Go.on (B := T58.setTop (mkF m 141 #[.val (.int p1), .val (.int p2), .val (.int p3), .val (.int p4), .val (.int p5), .val (.int p6), .val (.int r1), .val (.int r3), .val (.int r5), .val (.int r7), .val (.ref b9), .val (.ref b14), .val (.int v96_53), .val (.int v105_54), .unset] [(.int (2 : Int32))])) (fun t k => XS.iconst X58.here hx rfl (hb hby at_140) k) ?_
            refine Go.on (B := T58.setTop (mkF m 143 #[.val (.int p1), .val (.int p2), .val (.int p3), .val (.int p4), .val (.int p5), .val (.int p6), .val (.int r1), .val (.int r3), .val (.int r5), .val (.int r7), .val (.ref b9), .val (.ref b14), .val (.int v96_53), .val (.int v105_54), .unset] [(.int v96_53), (.int (2 : Int32))])) (fun t k => XS.iload X58.here hx rfl (hb hby at_141) rfl k) ?_
            refine Go.on (B := T58.setTop (mkF m 145 #[.val (.int p1), .val (.int p2), .val (.int p3), .val (.int p4), .val (.int p5), .val (.int p6), .val (.int r1), .val (.int r3), .val (.int r5), .val (.int r7), .val (.ref b9), .val (.ref b14), .val (.int v96_53), .val (.int v105_54), .unset] [(.int v105_54), (.int v96_53), (.int (2 : Int32))])) (fun t k => XS.iload X58.here hx rfl (hb hby at_143) rfl k) ?_
            refine Go.on (B := T58.setTop (mkF m 147 #[.val (.int p1), .val (.int p2), .val (.int p3), .val (.int p4), .val (.int p5), .val (.int p6), .val (.int r1), .val (.int r3), .val (.int r5), .val (.int r7), .val (.ref b9), .val (.ref b14), .val (.int v96_53), .val (.int v105_54), .unset] [(.int r5), (.int v105_54), (.int v96_53), (.int (2 : Int32))])) (fun t k => XS.iload X58.here hx rfl (hb hby at_145) rfl k) ?_
            obtain ⟨_, _, ⟨T60, L60, k60, n60⟩, -, X60, ⟨Lc60, hQ60, l60, y60, z60⟩, st60⟩ := Jvm.LawKit.callS X58 hx (y := (⟨"com/example/encours/encours/engine/MoneyIsDigitsPinLaw", "ok", "(IIIC)Z"⟩ : MethodName)) hown (mvT hZ (hw _ (List.mem_of_getElem? (i := 37) rfl))) (mvT hZ (hw _ (List.mem_of_getElem? (i := 38) rfl))) (mvT hZ (hw _ (List.mem_of_getElem? (i := 2) rfl))) (mvT hZ (hw _ (List.mem_of_getElem? (i := 39) rfl))) (by decide) (backOf (W := 0) (rok l Z a0 hw [] (2 : Int32) v96_53 v105_54 r5 T15.heap n0 Zs21) hZ (hw _ (List.mem_of_getElem? (i := 39) rfl)) (hw _ (List.mem_of_getElem? (i := 2) rfl)) (by decide) (by decide)) (g := (mkF m 147 #[.val (.int p1), .val (.int p2), .val (.int p3), .val (.int p4), .val (.int p5), .val (.int p6), .val (.int r1), .val (.int r3), .val (.int r5), .val (.int r7), .val (.ref b9), .val (.ref b14), .val (.int v96_53), .val (.int v105_54), .unset] [(.int r5), (.int v105_54), (.int v96_53), (.int (2 : Int32))])) rfl (by rw [hml]; rfl) (argsL := [(.int (2 : Int32)), (.int v96_53), (.int v105_54), (.int r5)]) (rest := []) (lenOf pd_16 rfl) rfl (by show 2 * 0 + _ ≤ _; exact Nat.le_of_eq rfl) (hb hby at_147) (fun _ _ => ⟨rfl, e58q, (by decide : 4 + 0 ≤ _), (by decide : 20 + 0 ≤ _)⟩)
            dsimp only [Pt.U, Pt.locs, Pt.cells, Pt.slots] at X60 l60 y60 z60 st60 hQ60
            subst l60 y60 z60
            rcases hQ60 with ⟨⟨_, rfl, ⟨rfl, hd60⟩ | ⟨rfl, hd60⟩⟩, N60q, e60q⟩
            · have N60 := Fr.app N58 N60q
              refine Go.on (B := T60.setTop (mkF m 150 #[.val (.int p1), .val (.int p2), .val (.int p3), .val (.int p4), .val (.int p5), .val (.int p6), .val (.int r1), .val (.int r3), .val (.int r5), .val (.int r7), .val (.ref b9), .val (.ref b14), .val (.int v96_53), .val (.int v105_54), .unset] [(.int (1 : Int32))])) (fun t k => st60 _ k) ?_
              have hc150_61 : ¬ ((1 : Int32) = (0 : Int32)) := by decide
              refine Go.on (B := T60.setTop (mkF m 153 #[.val (.int p1), .val (.int p2), .val (.int p3), .val (.int p4), .val (.int p5), .val (.int p6), .val (.int r1), .val (.int r3), .val (.int r5), .val (.int r7), .val (.ref b9), .val (.ref b14), .val (.int v96_53), .val (.int v105_54), .unset] [])) (fun t k => XS.ifNo X60.here hx rfl (hb hby at_150) rfl ((if0 _ _).trans (feq hc150_61).1) k) ?_
              refine Go.on (B := T60.setTop (mkF m 154 #[.val (.int p1), .val (.int p2), .val (.int p3), .val (.int p4), .val (.int p5), .val (.int p6), .val (.int r1), .val (.int r3), .val (.int r5), .val (.int r7), .val (.ref b9), .val (.ref b14), .val (.int v96_53), .val (.int v105_54), .unset] [(.int (3 : Int32))])) (fun t k => XS.iconst X60.here hx rfl (hb hby at_153) k) ?_
              refine Go.on (B := T60.setTop (mkF m 156 #[.val (.int p1), .val (.int p2), .val (.int p3), .val (.int p4), .val (.int p5), .val (.int p6), .val (.int r1), .val (.int r3), .val (.int r5), .val (.int r7), .val (.ref b9), .val (.ref b14), .val (.int v96_53), .val (.int v105_54), .unset] [(.int v96_53), (.int (3 : Int32))])) (fun t k => XS.iload X60.here hx rfl (hb hby at_154) rfl k) ?_
              refine Go.on (B := T60.setTop (mkF m 158 #[.val (.int p1), .val (.int p2), .val (.int p3), .val (.int p4), .val (.int p5), .val (.int p6), .val (.int r1), .val (.int r3), .val (.int r5), .val (.int r7), .val (.ref b9), .val (.ref b14), .val (.int v96_53), .val (.int v105_54), .unset] [(.int v105_54), (.int v96_53), (.int (3 : Int32))])) (fun t k => XS.iload X60.here hx rfl (hb hby at_156) rfl k) ?_
              refine Go.on (B := T60.setTop (mkF m 160 #[.val (.int p1), .val (.int p2), .val (.int p3), .val (.int p4), .val (.int p5), .val (.int p6), .val (.int r1), .val (.int r3), .val (.int r5), .val (.int r7), .val (.ref b9), .val (.ref b14), .val (.int v96_53), .val (.int v105_54), .unset] [(.int r7), (.int v105_54), (.int v96_53), (.int (3 : Int32))])) (fun t k => XS.iload X60.here hx rfl (hb hby at_158) rfl k) ?_
              obtain ⟨_, _, ⟨T62, L62, k62, n62⟩, -, X62, ⟨Lc62, hQ62, l62, y62, z62⟩, st62⟩ := Jvm.LawKit.callS X60 hx (y := (⟨"com/example/encours/encours/engine/MoneyIsDigitsPinLaw", "ok", "(IIIC)Z"⟩ : MethodName)) hown (mvT hZ (hw _ (List.mem_of_getElem? (i := 37) rfl))) (mvT hZ (hw _ (List.mem_of_getElem? (i := 38) rfl))) (mvT hZ (hw _ (List.mem_of_getElem? (i := 2) rfl))) (mvT hZ (hw _ (List.mem_of_getElem? (i := 39) rfl))) (by decide) (backOf (W := 0) (rok l Z a0 hw [] (3 : Int32) v96_53 v105_54 r7 T15.heap n0 Zs21) hZ (hw _ (List.mem_of_getElem? (i := 39) rfl)) (hw _ (List.mem_of_getElem? (i := 2) rfl)) (by decide) (by decide)) (g := (mkF m 160 #[.val (.int p1), .val (.int p2), .val (.int p3), .val (.int p4), .val (.int p5), .val (.int p6), .val (.int r1), .val (.int r3), .val (.int r5), .val (.int r7), .val (.ref b9), .val (.ref b14), .val (.int v96_53), .val (.int v105_54), .unset] [(.int r7), (.int v105_54), (.int v96_53), (.int (3 : Int32))])) rfl (by rw [hml]; rfl) (argsL := [(.int (3 : Int32)), (.int v96_53), (.int v105_54), (.int r7)]) (rest := []) (lenOf pd_16 rfl) rfl (by show 2 * 0 + _ ≤ _; exact Nat.le_of_eq rfl) (hb hby at_160) (fun _ _ => ⟨rfl, e60q, (by decide : 4 + 0 ≤ _), (by decide : 20 + 0 ≤ _)⟩)
              dsimp only [Pt.U, Pt.locs, Pt.cells, Pt.slots] at X62 l62 y62 z62 st62 hQ62
              subst l62 y62 z62
              rcases hQ62 with ⟨⟨_, rfl, ⟨rfl, hd62⟩ | ⟨rfl, hd62⟩⟩, N62q, e62q⟩
              · have N62 := Fr.app N60 N62q
                refine Go.on (B := T62.setTop (mkF m 163 #[.val (.int p1), .val (.int p2), .val (.int p3), .val (.int p4), .val (.int p5), .val (.int p6), .val (.int r1), .val (.int r3), .val (.int r5), .val (.int r7), .val (.ref b9), .val (.ref b14), .val (.int v96_53), .val (.int v105_54), .unset] [(.int (1 : Int32))])) (fun t k => st62 _ k) ?_
                have hc163_63 : ¬ ((1 : Int32) = (0 : Int32)) := by decide
                refine Go.on (B := T62.setTop (mkF m 166 #[.val (.int p1), .val (.int p2), .val (.int p3), .val (.int p4), .val (.int p5), .val (.int p6), .val (.int r1), .val (.int r3), .val (.int r5), .val (.int r7), .val (.ref b9), .val (.ref b14), .val (.int v96_53), .val (.int v105_54), .unset] [])) (fun t k => XS.ifNo X62.here hx rfl (hb hby at_163) rfl ((if0 _ _).trans (feq hc163_63).1) k) ?_
                refine Go.on (B := T62.setTop (mkF m 167 #[.val (.int p1), .val (.int p2), .val (.int p3), .val (.int p4), .val (.int p5), .val (.int p6), .val (.int r1), .val (.int r3), .val (.int r5), .val (.int r7), .val (.ref b9), .val (.ref b14), .val (.int v96_53), .val (.int v105_54), .unset] [(.int (1 : Int32))])) (fun t k => XS.iconst X62.here hx rfl (hb hby at_166) k) ?_
                refine Go.on (B := T62.setTop (mkF m 171 #[.val (.int p1), .val (.int p2), .val (.int p3), .val (.int p4), .val (.int p5), .val (.int p6), .val (.int r1), .val (.int r3), .val (.int r5), .val (.int r7), .val (.ref b9), .val (.ref b14), .val (.int v96_53), .val (.int v105_54), .unset] [(.int (1 : Int32))])) (fun t k => XS.goto X62.here hx rfl (pc0 := 167) (pc' := 171) rfl (hb hby at_167) (by decide) (by decide) k) ?_
                refine Go.on (B := T62.setTop (mkF m 173 #[.val (.int p1), .val (.int p2), .val (.int p3), .val (.int p4), .val (.int p5), .val (.int p6), .val (.int r1), .val (.int r3), .val (.int r5), .val (.int r7), .val (.ref b9), .val (.ref b14), .val (.int v96_53), .val (.int v105_54), .val (.int (1 : Int32))] [])) (fun t k => XS.istore X62.here hx rfl (hb hby at_171) rfl (l' := #[.val (.int p1), .val (.int p2), .val (.int p3), .val (.int p4), .val (.int p5), .val (.int p6), .val (.int r1), .val (.int r3), .val (.int r5), .val (.int r7), .val (.ref b9), .val (.ref b14), .val (.int v96_53), .val (.int v105_54), .val (.int (1 : Int32))]) rfl k) ?_
                refine Go.on (B := T62.setTop (mkF m 175 #[.val (.int p1), .val (.int p2), .val (.int p3), .val (.int p4), .val (.int p5), .val (.int p6), .val (.int r1), .val (.int r3), .val (.int r5), .val (.int r7), .val (.ref b9), .val (.ref b14), .val (.int v96_53), .val (.int v105_54), .val (.int (1 : Int32))] [(.ref b14)])) (fun t k => XS.aload X62.here hx rfl (hb hby at_173) rfl rfl k) ?_
                refine Go.on (B := T62.setTop (mkF m 177 #[.val (.int p1), .val (.int p2), .val (.int p3), .val (.int p4), .val (.int p5), .val (.int p6), .val (.int r1), .val (.int r3), .val (.int r5), .val (.int r7), .val (.ref b9), .val (.ref b14), .val (.int v96_53), .val (.int v105_54), .val (.int (1 : Int32))] [(.int v96_53), (.ref b14)])) (fun t k => XS.iload X62.here hx rfl (hb hby at_175) rfl k) ?_
                refine Go.on (B := T62.setTop (mkF m 179 #[.val (.int p1), .val (.int p2), .val (.int p3), .val (.int p4), .val (.int p5), .val (.int p6), .val (.int r1), .val (.int r3), .val (.int r5), .val (.int r7), .val (.ref b9), .val (.ref b14), .val (.int v96_53), .val (.int v105_54), .val (.int (1 : Int32))] [(.int v105_54), (.int v96_53), (.ref b14)])) (fun t k => XS.iload X62.here hx rfl (hb hby at_177) rfl k) ?_
                obtain ⟨_, _, ⟨T65, L65, k65, n65⟩, -, X65, ⟨Lc65, hQ65, l65, y65, z65⟩, st65⟩ := Jvm.LawKit.callS X62 hx (y := (⟨"com/example/encours/encours/engine/Money", "isDigits", "(Ljava/lang/String;II)Z"⟩ : MethodName)) hown (mvT hZ (hw _ (List.mem_of_getElem? (i := 43) rfl))) (mvT hZ (hw _ (List.mem_of_getElem? (i := 44) rfl))) (mvT hZ (hw _ (List.mem_of_getElem? (i := 45) rfl))) (mvT hZ (hw _ (List.mem_of_getElem? (i := 46) rfl))) (by decide) (backOf (W := 0) (risU l Z a0 hw [] b14 v96_53 v105_54 y15 ky15 r1 r3 r5 r7 G1 G3 T15.heap n0 Zs21 E15q Fc15 Fv15 Vy15 hr1 hr3 hr5 hr7 (fun _ => ⟨hs0.1, he0.2⟩) O_18 S_cs S_fm S_ad S_hi S_lo P5 rG3) hZ (hw _ (List.mem_of_getElem? (i := 46) rfl)) (hw _ (List.mem_of_getElem? (i := 45) rfl)) (by decide) (by decide)) (g := (mkF m 179 #[.val (.int p1), .val (.int p2), .val (.int p3), .val (.int p4), .val (.int p5), .val (.int p6), .val (.int r1), .val (.int r3), .val (.int r5), .val (.int r7), .val (.ref b9), .val (.ref b14), .val (.int v96_53), .val (.int v105_54), .val (.int (1 : Int32))] [(.int v105_54), (.int v96_53), (.ref b14)])) rfl (by rw [hml]; rfl) (argsL := [(.ref b14), (.int v96_53), (.int v105_54)]) (rest := []) (lenOf pd_17 rfl) rfl (by show 2 * 0 + _ ≤ _; exact Nat.le_of_eq rfl) (hb hby at_179) (fun _ _ => ⟨rfl, e62q, (by decide : 4 + 0 ≤ _), (by decide : 20 + 0 ≤ _)⟩)
                dsimp only [Pt.U, Pt.locs, Pt.cells, Pt.slots] at X65 l65 y65 z65 st65 hQ65
                subst l65 y65 z65
                rcases hQ65 with ⟨⟨_, rfl, ⟨rfl, hd65⟩ | ⟨rfl, hd65⟩⟩, N65q, e65q⟩
                · have N65 := Fr.app N62 N65q
                  refine Go.on (B := T65.setTop (mkF m 182 #[.val (.int p1), .val (.int p2), .val (.int p3), .val (.int p4), .val (.int p5), .val (.int p6), .val (.int r1), .val (.int r3), .val (.int r5), .val (.int r7), .val (.ref b9), .val (.ref b14), .val (.int v96_53), .val (.int v105_54), .val (.int (1 : Int32))] [(.int (1 : Int32))])) (fun t k => st65 _ k) ?_
                  refine Go.on (B := T65.setTop (mkF m 184 #[.val (.int p1), .val (.int p2), .val (.int p3), .val (.int p4), .val (.int p5), .val (.int p6), .val (.int r1), .val (.int r3), .val (.int r5), .val (.int r7), .val (.ref b9), .val (.ref b14), .val (.int v96_53), .val (.int v105_54), .val (.int (1 : Int32))] [(.int (1 : Int32)), (.int (1 : Int32))])) (fun t k => XS.iload X65.here hx rfl (hb hby at_182) rfl k) ?_
                  have hc184_66 : (1 : Int32) = (1 : Int32) := by decide
                  refine Go.on (B := T65.setTop (mkF m 187 #[.val (.int p1), .val (.int p2), .val (.int p3), .val (.int p4), .val (.int p5), .val (.int p6), .val (.int r1), .val (.int r3), .val (.int r5), .val (.int r7), .val (.ref b9), .val (.ref b14), .val (.int v96_53), .val (.int v105_54), .val (.int (1 : Int32))] [])) (fun t k => XS.icmpNo X65.here hx rfl (hb hby at_184) rfl (teq hc184_66).2 k) ?_
                  refine Go.on (B := T65.setTop (mkF m 188 #[.val (.int p1), .val (.int p2), .val (.int p3), .val (.int p4), .val (.int p5), .val (.int p6), .val (.int r1), .val (.int r3), .val (.int r5), .val (.int r7), .val (.ref b9), .val (.ref b14), .val (.int v96_53), .val (.int v105_54), .val (.int (1 : Int32))] [(.int (1 : Int32))])) (fun t k => XS.iconst X65.here hx rfl (hb hby at_187) k) ?_
                  refine Go.on (B := T65.setTop (mkF m 192 #[.val (.int p1), .val (.int p2), .val (.int p3), .val (.int p4), .val (.int p5), .val (.int p6), .val (.int r1), .val (.int r3), .val (.int r5), .val (.int r7), .val (.ref b9), .val (.ref b14), .val (.int v96_53), .val (.int v105_54), .val (.int (1 : Int32))] [(.int (1 : Int32))])) (fun t k => XS.goto X65.here hx rfl (pc0 := 188) (pc' := 192) rfl (hb hby at_188) (by decide) (by decide) k) ?_
                  obtain ⟨fs, hr, hrun, hended, hW, hsame⟩ := X65.leave (v := some (.int (1 : Int32))) (fun h => by rw [Bd.returns] at h; cases h)
                  refine ⟨_, _, ?_, hrun, hended, _, _, rfl, ?_, ⟨_, rfl⟩, hW, hsame.mono (by decide) (by decide)⟩
                  · exact retN X65 hx (t := .boolean) Bd.returns (by simp) (hb hby at_192) hr
                  · show Q_rm0 Z p1 p2 p3 p4 p5 p6 G1 G3 h0 n0 _ T65.heap _
                    rw [e65q]
                    exact ⟨rfl, N65⟩
                · have N65 := Fr.app N62 N65q
                  exact hd65.elim (fun q => absurd hc111_55 q) (fun ⟨j, q1, q2, q3⟩ => absurd (own_allok ⟨hs0.1, he0.2⟩ hd56 hd58 hd60 hd62 j q1 q2) q3)
              · have N62 := Fr.app N60 N62q
                refine Go.on (B := T62.setTop (mkF m 163 #[.val (.int p1), .val (.int p2), .val (.int p3), .val (.int p4), .val (.int p5), .val (.int p6), .val (.int r1), .val (.int r3), .val (.int r5), .val (.int r7), .val (.ref b9), .val (.ref b14), .val (.int v96_53), .val (.int v105_54), .unset] [(.int (0 : Int32))])) (fun t k => st62 _ k) ?_
                have hc163_67 : (0 : Int32) = (0 : Int32) := by decide
                refine Go.on (B := T62.setTop (mkF m 170 #[.val (.int p1), .val (.int p2), .val (.int p3), .val (.int p4), .val (.int p5), .val (.int p6), .val (.int r1), .val (.int r3), .val (.int r5), .val (.int r7), .val (.ref b9), .val (.ref b14), .val (.int v96_53), .val (.int v105_54), .unset] [])) (fun t k => XS.ifYes X62.here hx rfl (pc0 := 163) (pc' := 170) rfl (hb hby at_163) rfl ((if0 _ _).trans (teq hc163_67).1) (by decide) (by decide) k) ?_
                refine Go.on (B := T62.setTop (mkF m 171 #[.val (.int p1), .val (.int p2), .val (.int p3), .val (.int p4), .val (.int p5), .val (.int p6), .val (.int r1), .val (.int r3), .val (.int r5), .val (.int r7), .val (.ref b9), .val (.ref b14), .val (.int v96_53), .val (.int v105_54), .unset] [(.int (0 : Int32))])) (fun t k => XS.iconst X62.here hx rfl (hb hby at_170) k) ?_
                refine Go.on (B := T62.setTop (mkF m 173 #[.val (.int p1), .val (.int p2), .val (.int p3), .val (.int p4), .val (.int p5), .val (.int p6), .val (.int r1), .val (.int r3), .val (.int r5), .val (.int r7), .val (.ref b9), .val (.ref b14), .val (.int v96_53), .val (.int v105_54), .val (.int (0 : Int32))] [])) (fun t k => XS.istore X62.here hx rfl (hb hby at_171) rfl (l' := #[.val (.int p1), .val (.int p2), .val (.int p3), .val (.int p4), .val (.int p5), .val (.int p6), .val (.int r1), .val (.int r3), .val (.int r5), .val (.int r7), .val (.ref b9), .val (.ref b14), .val (.int v96_53), .val (.int v105_54), .val (.int (0 : Int32))]) rfl k) ?_
                refine Go.on (B := T62.setTop (mkF m 175 #[.val (.int p1), .val (.int p2), .val (.int p3), .val (.int p4), .val (.int p5), .val (.int p6), .val (.int r1), .val (.int r3), .val (.int r5), .val (.int r7), .val (.ref b9), .val (.ref b14), .val (.int v96_53), .val (.int v105_54), .val (.int (0 : Int32))] [(.ref b14)])) (fun t k => XS.aload X62.here hx rfl (hb hby at_173) rfl rfl k) ?_
                refine Go.on (B := T62.setTop (mkF m 177 #[.val (.int p1), .val (.int p2), .val (.int p3), .val (.int p4), .val (.int p5), .val (.int p6), .val (.int r1), .val (.int r3), .val (.int r5), .val (.int r7), .val (.ref b9), .val (.ref b14), .val (.int v96_53), .val (.int v105_54), .val (.int (0 : Int32))] [(.int v96_53), (.ref b14)])) (fun t k => XS.iload X62.here hx rfl (hb hby at_175) rfl k) ?_
                refine Go.on (B := T62.setTop (mkF m 179 #[.val (.int p1), .val (.int p2), .val (.int p3), .val (.int p4), .val (.int p5), .val (.int p6), .val (.int r1), .val (.int r3), .val (.int r5), .val (.int r7), .val (.ref b9), .val (.ref b14), .val (.int v96_53), .val (.int v105_54), .val (.int (0 : Int32))] [(.int v105_54), (.int v96_53), (.ref b14)])) (fun t k => XS.iload X62.here hx rfl (hb hby at_177) rfl k) ?_
                obtain ⟨_, _, ⟨T69, L69, k69, n69⟩, -, X69, ⟨Lc69, hQ69, l69, y69, z69⟩, st69⟩ := Jvm.LawKit.callS X62 hx (y := (⟨"com/example/encours/encours/engine/Money", "isDigits", "(Ljava/lang/String;II)Z"⟩ : MethodName)) hown (mvT hZ (hw _ (List.mem_of_getElem? (i := 43) rfl))) (mvT hZ (hw _ (List.mem_of_getElem? (i := 44) rfl))) (mvT hZ (hw _ (List.mem_of_getElem? (i := 45) rfl))) (mvT hZ (hw _ (List.mem_of_getElem? (i := 46) rfl))) (by decide) (backOf (W := 0) (risU l Z a0 hw [] b14 v96_53 v105_54 y15 ky15 r1 r3 r5 r7 G1 G3 T15.heap n0 Zs21 E15q Fc15 Fv15 Vy15 hr1 hr3 hr5 hr7 (fun _ => ⟨hs0.1, he0.2⟩) O_18 S_cs S_fm S_ad S_hi S_lo P5 rG3) hZ (hw _ (List.mem_of_getElem? (i := 46) rfl)) (hw _ (List.mem_of_getElem? (i := 45) rfl)) (by decide) (by decide)) (g := (mkF m 179 #[.val (.int p1), .val (.int p2), .val (.int p3), .val (.int p4), .val (.int p5), .val (.int p6), .val (.int r1), .val (.int r3), .val (.int r5), .val (.int r7), .val (.ref b9), .val (.ref b14), .val (.int v96_53), .val (.int v105_54), .val (.int (0 : Int32))] [(.int v105_54), (.int v96_53), (.ref b14)])) rfl (by rw [hml]; rfl) (argsL := [(.ref b14), (.int v96_53), (.int v105_54)]) (rest := []) (lenOf pd_17 rfl) rfl (by show 2 * 0 + _ ≤ _; exact Nat.le_of_eq rfl) (hb hby at_179) (fun _ _ => ⟨rfl, e62q, (by decide : 4 + 0 ≤ _), (by decide : 20 + 0 ≤ _)⟩)
                dsimp only [Pt.U, Pt.locs, Pt.cells, Pt.slots] at X69 l69 y69 z69 st69 hQ69
                subst l69 y69 z69
                rcases hQ69 with ⟨⟨_, rfl, ⟨rfl, hd69⟩ | ⟨rfl, hd69⟩⟩, N69q, e69q⟩
                · have N69 := Fr.app N62 N69q
                  exact absurd ((own_c3 r1 r3 r5 r7) ▸ hd69.2 (3 : Int32) hd62.1 hd62.2.1) hd62.2.2
                · have N69 := Fr.app N62 N69q
                  refine Go.on (B := T69.setTop (mkF m 182 #[.val (.int p1), .val (.int p2), .val (.int p3), .val (.int p4), .val (.int p5), .val (.int p6), .val (.int r1), .val (.int r3), .val (.int r5), .val (.int r7), .val (.ref b9), .val (.ref b14), .val (.int v96_53), .val (.int v105_54), .val (.int (0 : Int32))] [(.int (0 : Int32))])) (fun t k => st69 _ k) ?_
                  refine Go.on (B := T69.setTop (mkF m 184 #[.val (.int p1), .val (.int p2), .val (.int p3), .val (.int p4), .val (.int p5), .val (.int p6), .val (.int r1), .val (.int r3), .val (.int r5), .val (.int r7), .val (.ref b9), .val (.ref b14), .val (.int v96_53), .val (.int v105_54), .val (.int (0 : Int32))] [(.int (0 : Int32)), (.int (0 : Int32))])) (fun t k => XS.iload X69.here hx rfl (hb hby at_182) rfl k) ?_
                  have hc184_70 : (0 : Int32) = (0 : Int32) := by decide
                  refine Go.on (B := T69.setTop (mkF m 187 #[.val (.int p1), .val (.int p2), .val (.int p3), .val (.int p4), .val (.int p5), .val (.int p6), .val (.int r1), .val (.int r3), .val (.int r5), .val (.int r7), .val (.ref b9), .val (.ref b14), .val (.int v96_53), .val (.int v105_54), .val (.int (0 : Int32))] [])) (fun t k => XS.icmpNo X69.here hx rfl (hb hby at_184) rfl (teq hc184_70).2 k) ?_
                  refine Go.on (B := T69.setTop (mkF m 188 #[.val (.int p1), .val (.int p2), .val (.int p3), .val (.int p4), .val (.int p5), .val (.int p6), .val (.int r1), .val (.int r3), .val (.int r5), .val (.int r7), .val (.ref b9), .val (.ref b14), .val (.int v96_53), .val (.int v105_54), .val (.int (0 : Int32))] [(.int (1 : Int32))])) (fun t k => XS.iconst X69.here hx rfl (hb hby at_187) k) ?_
                  refine Go.on (B := T69.setTop (mkF m 192 #[.val (.int p1), .val (.int p2), .val (.int p3), .val (.int p4), .val (.int p5), .val (.int p6), .val (.int r1), .val (.int r3), .val (.int r5), .val (.int r7), .val (.ref b9), .val (.ref b14), .val (.int v96_53), .val (.int v105_54), .val (.int (0 : Int32))] [(.int (1 : Int32))])) (fun t k => XS.goto X69.here hx rfl (pc0 := 188) (pc' := 192) rfl (hb hby at_188) (by decide) (by decide) k) ?_
                  obtain ⟨fs, hr, hrun, hended, hW, hsame⟩ := X69.leave (v := some (.int (1 : Int32))) (fun h => by rw [Bd.returns] at h; cases h)
                  refine ⟨_, _, ?_, hrun, hended, _, _, rfl, ?_, ⟨_, rfl⟩, hW, hsame.mono (by decide) (by decide)⟩
                  · exact retN X69 hx (t := .boolean) Bd.returns (by simp) (hb hby at_192) hr
                  · show Q_rm0 Z p1 p2 p3 p4 p5 p6 G1 G3 h0 n0 _ T69.heap _
                    rw [e69q]
                    exact ⟨rfl, N69⟩
            · have N60 := Fr.app N58 N60q
              refine Go.on (B := T60.setTop (mkF m 150 #[.val (.int p1), .val (.int p2), .val (.int p3), .val (.int p4), .val (.int p5), .val (.int p6), .val (.int r1), .val (.int r3), .val (.int r5), .val (.int r7), .val (.ref b9), .val (.ref b14), .val (.int v96_53), .val (.int v105_54), .unset] [(.int (0 : Int32))])) (fun t k => st60 _ k) ?_
              have hc150_71 : (0 : Int32) = (0 : Int32) := by decide
              refine Go.on (B := T60.setTop (mkF m 170 #[.val (.int p1), .val (.int p2), .val (.int p3), .val (.int p4), .val (.int p5), .val (.int p6), .val (.int r1), .val (.int r3), .val (.int r5), .val (.int r7), .val (.ref b9), .val (.ref b14), .val (.int v96_53), .val (.int v105_54), .unset] [])) (fun t k => XS.ifYes X60.here hx rfl (pc0 := 150) (pc' := 170) rfl (hb hby at_150) rfl ((if0 _ _).trans (teq hc150_71).1) (by decide) (by decide) k) ?_
              refine Go.on (B := T60.setTop (mkF m 171 #[.val (.int p1), .val (.int p2), .val (.int p3), .val (.int p4), .val (.int p5), .val (.int p6), .val (.int r1), .val (.int r3), .val (.int r5), .val (.int r7), .val (.ref b9), .val (.ref b14), .val (.int v96_53), .val (.int v105_54), .unset] [(.int (0 : Int32))])) (fun t k => XS.iconst X60.here hx rfl (hb hby at_170) k) ?_
              refine Go.on (B := T60.setTop (mkF m 173 #[.val (.int p1), .val (.int p2), .val (.int p3), .val (.int p4), .val (.int p5), .val (.int p6), .val (.int r1), .val (.int r3), .val (.int r5), .val (.int r7), .val (.ref b9), .val (.ref b14), .val (.int v96_53), .val (.int v105_54), .val (.int (0 : Int32))] [])) (fun t k => XS.istore X60.here hx rfl (hb hby at_171) rfl (l' := #[.val (.int p1), .val (.int p2), .val (.int p3), .val (.int p4), .val (.int p5), .val (.int p6), .val (.int r1), .val (.int r3), .val (.int r5), .val (.int r7), .val (.ref b9), .val (.ref b14), .val (.int v96_53), .val (.int v105_54), .val (.int (0 : Int32))]) rfl k) ?_
              refine Go.on (B := T60.setTop (mkF m 175 #[.val (.int p1), .val (.int p2), .val (.int p3), .val (.int p4), .val (.int p5), .val (.int p6), .val (.int r1), .val (.int r3), .val (.int r5), .val (.int r7), .val (.ref b9), .val (.ref b14), .val (.int v96_53), .val (.int v105_54), .val (.int (0 : Int32))] [(.ref b14)])) (fun t k => XS.aload X60.here hx rfl (hb hby at_173) rfl rfl k) ?_
              refine Go.on (B := T60.setTop (mkF m 177 #[.val (.int p1), .val (.int p2), .val (.int p3), .val (.int p4), .val (.int p5), .val (.int p6), .val (.int r1), .val (.int r3), .val (.int r5), .val (.int r7), .val (.ref b9), .val (.ref b14), .val (.int v96_53), .val (.int v105_54), .val (.int (0 : Int32))] [(.int v96_53), (.ref b14)])) (fun t k => XS.iload X60.here hx rfl (hb hby at_175) rfl k) ?_
              refine Go.on (B := T60.setTop (mkF m 179 #[.val (.int p1), .val (.int p2), .val (.int p3), .val (.int p4), .val (.int p5), .val (.int p6), .val (.int r1), .val (.int r3), .val (.int r5), .val (.int r7), .val (.ref b9), .val (.ref b14), .val (.int v96_53), .val (.int v105_54), .val (.int (0 : Int32))] [(.int v105_54), (.int v96_53), (.ref b14)])) (fun t k => XS.iload X60.here hx rfl (hb hby at_177) rfl k) ?_
              obtain ⟨_, _, ⟨T73, L73, k73, n73⟩, -, X73, ⟨Lc73, hQ73, l73, y73, z73⟩, st73⟩ := Jvm.LawKit.callS X60 hx (y := (⟨"com/example/encours/encours/engine/Money", "isDigits", "(Ljava/lang/String;II)Z"⟩ : MethodName)) hown (mvT hZ (hw _ (List.mem_of_getElem? (i := 43) rfl))) (mvT hZ (hw _ (List.mem_of_getElem? (i := 44) rfl))) (mvT hZ (hw _ (List.mem_of_getElem? (i := 45) rfl))) (mvT hZ (hw _ (List.mem_of_getElem? (i := 46) rfl))) (by decide) (backOf (W := 0) (risU l Z a0 hw [] b14 v96_53 v105_54 y15 ky15 r1 r3 r5 r7 G1 G3 T15.heap n0 Zs21 E15q Fc15 Fv15 Vy15 hr1 hr3 hr5 hr7 (fun _ => ⟨hs0.1, he0.2⟩) O_18 S_cs S_fm S_ad S_hi S_lo P5 rG3) hZ (hw _ (List.mem_of_getElem? (i := 46) rfl)) (hw _ (List.mem_of_getElem? (i := 45) rfl)) (by decide) (by decide)) (g := (mkF m 179 #[.val (.int p1), .val (.int p2), .val (.int p3), .val (.int p4), .val (.int p5), .val (.int p6), .val (.int r1), .val (.int r3), .val (.int r5), .val (.int r7), .val (.ref b9), .val (.ref b14), .val (.int v96_53), .val (.int v105_54), .val (.int (0 : Int32))] [(.int v105_54), (.int v96_53), (.ref b14)])) rfl (by rw [hml]; rfl) (argsL := [(.ref b14), (.int v96_53), (.int v105_54)]) (rest := []) (lenOf pd_17 rfl) rfl (by show 2 * 0 + _ ≤ _; exact Nat.le_of_eq rfl) (hb hby at_179) (fun _ _ => ⟨rfl, e60q, (by decide : 4 + 0 ≤ _), (by decide : 20 + 0 ≤ _)⟩)
              dsimp only [Pt.U, Pt.locs, Pt.cells, Pt.slots] at X73 l73 y73 z73 st73 hQ73
              subst l73 y73 z73
              rcases hQ73 with ⟨⟨_, rfl, ⟨rfl, hd73⟩ | ⟨rfl, hd73⟩⟩, N73q, e73q⟩
              · have N73 := Fr.app N60 N73q
                exact absurd ((own_c2 r1 r3 r5 r7) ▸ hd73.2 (2 : Int32) hd60.1 hd60.2.1) hd60.2.2
              · have N73 := Fr.app N60 N73q
                refine Go.on (B := T73.setTop (mkF m 182 #[.val (.int p1), .val (.int p2), .val (.int p3), .val (.int p4), .val (.int p5), .val (.int p6), .val (.int r1), .val (.int r3), .val (.int r5), .val (.int r7), .val (.ref b9), .val (.ref b14), .val (.int v96_53), .val (.int v105_54), .val (.int (0 : Int32))] [(.int (0 : Int32))])) (fun t k => st73 _ k) ?_
                refine Go.on (B := T73.setTop (mkF m 184 #[.val (.int p1), .val (.int p2), .val (.int p3), .val (.int p4), .val (.int p5), .val (.int p6), .val (.int r1), .val (.int r3), .val (.int r5), .val (.int r7), .val (.ref b9), .val (.ref b14), .val (.int v96_53), .val (.int v105_54), .val (.int (0 : Int32))] [(.int (0 : Int32)), (.int (0 : Int32))])) (fun t k => XS.iload X73.here hx rfl (hb hby at_182) rfl k) ?_
                have hc184_74 : (0 : Int32) = (0 : Int32) := by decide
                refine Go.on (B := T73.setTop (mkF m 187 #[.val (.int p1), .val (.int p2), .val (.int p3), .val (.int p4), .val (.int p5), .val (.int p6), .val (.int r1), .val (.int r3), .val (.int r5), .val (.int r7), .val (.ref b9), .val (.ref b14), .val (.int v96_53), .val (.int v105_54), .val (.int (0 : Int32))] [])) (fun t k => XS.icmpNo X73.here hx rfl (hb hby at_184) rfl (teq hc184_74).2 k) ?_
                refine Go.on (B := T73.setTop (mkF m 188 #[.val (.int p1), .val (.int p2), .val (.int p3), .val (.int p4), .val (.int p5), .val (.int p6), .val (.int r1), .val (.int r3), .val (.int r5), .val (.int r7), .val (.ref b9), .val (.ref b14), .val (.int v96_53), .val (.int v105_54), .val (.int (0 : Int32))] [(.int (1 : Int32))])) (fun t k => XS.iconst X73.here hx rfl (hb hby at_187) k) ?_
                refine Go.on (B := T73.setTop (mkF m 192 #[.val (.int p1), .val (.int p2), .val (.int p3), .val (.int p4), .val (.int p5), .val (.int p6), .val (.int r1), .val (.int r3), .val (.int r5), .val (.int r7), .val (.ref b9), .val (.ref b14), .val (.int v96_53), .val (.int v105_54), .val (.int (0 : Int32))] [(.int (1 : Int32))])) (fun t k => XS.goto X73.here hx rfl (pc0 := 188) (pc' := 192) rfl (hb hby at_188) (by decide) (by decide) k) ?_
                obtain ⟨fs, hr, hrun, hended, hW, hsame⟩ := X73.leave (v := some (.int (1 : Int32))) (fun h => by rw [Bd.returns] at h; cases h)
                refine ⟨_, _, ?_, hrun, hended, _, _, rfl, ?_, ⟨_, rfl⟩, hW, hsame.mono (by decide) (by decide)⟩
                · exact retN X73 hx (t := .boolean) Bd.returns (by simp) (hb hby at_192) hr
                · show Q_rm0 Z p1 p2 p3 p4 p5 p6 G1 G3 h0 n0 _ T73.heap _
                  rw [e73q]
                  exact ⟨rfl, N73⟩
          · have N58 := Fr.app N56 N58q
            refine Go.on (B := T58.setTop (mkF m 137 #[.val (.int p1), .val (.int p2), .val (.int p3), .val (.int p4), .val (.int p5), .val (.int p6), .val (.int r1), .val (.int r3), .val (.int r5), .val (.int r7), .val (.ref b9), .val (.ref b14), .val (.int v96_53), .val (.int v105_54), .unset] [(.int (0 : Int32))])) (fun t k => st58 _ k) ?_
            have hc137_75 : (0 : Int32) = (0 : Int32) := by decide
            refine Go.on (B := T58.setTop (mkF m 170 #[.val (.int p1), .val (.int p2), .val (.int p3), .val (.int p4), .val (.int p5), .val (.int p6), .val (.int r1), .val (.int r3), .val (.int r5), .val (.int r7), .val (.ref b9), .val (.ref b14), .val (.int v96_53), .val (.int v105_54), .unset] [])) (fun t k => XS.ifYes X58.here hx rfl (pc0 := 137) (pc' := 170) rfl (hb hby at_137) rfl ((if0 _ _).trans (teq hc137_75).1) (by decide) (by decide) k) ?_
            refine Go.on (B := T58.setTop (mkF m 171 #[.val (.int p1), .val (.int p2), .val (.int p3), .val (.int p4), .val (.int p5), .val (.int p6), .val (.int r1), .val (.int r3), .val (.int r5), .val (.int r7), .val (.ref b9), .val (.ref b14), .val (.int v96_53), .val (.int v105_54), .unset] [(.int (0 : Int32))])) (fun t k => XS.iconst X58.here hx rfl (hb hby at_170) k) ?_
            refine Go.on (B := T58.setTop (mkF m 173 #[.val (.int p1), .val (.int p2), .val (.int p3), .val (.int p4), .val (.int p5), .val (.int p6), .val (.int r1), .val (.int r3), .val (.int r5), .val (.int r7), .val (.ref b9), .val (.ref b14), .val (.int v96_53), .val (.int v105_54), .val (.int (0 : Int32))] [])) (fun t k => XS.istore X58.here hx rfl (hb hby at_171) rfl (l' := #[.val (.int p1), .val (.int p2), .val (.int p3), .val (.int p4), .val (.int p5), .val (.int p6), .val (.int r1), .val (.int r3), .val (.int r5), .val (.int r7), .val (.ref b9), .val (.ref b14), .val (.int v96_53), .val (.int v105_54), .val (.int (0 : Int32))]) rfl k) ?_
            refine Go.on (B := T58.setTop (mkF m 175 #[.val (.int p1), .val (.int p2), .val (.int p3), .val (.int p4), .val (.int p5), .val (.int p6), .val (.int r1), .val (.int r3), .val (.int r5), .val (.int r7), .val (.ref b9), .val (.ref b14), .val (.int v96_53), .val (.int v105_54), .val (.int (0 : Int32))] [(.ref b14)])) (fun t k => XS.aload X58.here hx rfl (hb hby at_173) rfl rfl k) ?_
            refine Go.on (B := T58.setTop (mkF m 177 #[.val (.int p1), .val (.int p2), .val (.int p3), .val (.int p4), .val (.int p5), .val (.int p6), .val (.int r1), .val (.int r3), .val (.int r5), .val (.int r7), .val (.ref b9), .val (.ref b14), .val (.int v96_53), .val (.int v105_54), .val (.int (0 : Int32))] [(.int v96_53), (.ref b14)])) (fun t k => XS.iload X58.here hx rfl (hb hby at_175) rfl k) ?_
            refine Go.on (B := T58.setTop (mkF m 179 #[.val (.int p1), .val (.int p2), .val (.int p3), .val (.int p4), .val (.int p5), .val (.int p6), .val (.int r1), .val (.int r3), .val (.int r5), .val (.int r7), .val (.ref b9), .val (.ref b14), .val (.int v96_53), .val (.int v105_54), .val (.int (0 : Int32))] [(.int v105_54), (.int v96_53), (.ref b14)])) (fun t k => XS.iload X58.here hx rfl (hb hby at_177) rfl k) ?_
            obtain ⟨_, _, ⟨T77, L77, k77, n77⟩, -, X77, ⟨Lc77, hQ77, l77, y77, z77⟩, st77⟩ := Jvm.LawKit.callS X58 hx (y := (⟨"com/example/encours/encours/engine/Money", "isDigits", "(Ljava/lang/String;II)Z"⟩ : MethodName)) hown (mvT hZ (hw _ (List.mem_of_getElem? (i := 43) rfl))) (mvT hZ (hw _ (List.mem_of_getElem? (i := 44) rfl))) (mvT hZ (hw _ (List.mem_of_getElem? (i := 45) rfl))) (mvT hZ (hw _ (List.mem_of_getElem? (i := 46) rfl))) (by decide) (backOf (W := 0) (risU l Z a0 hw [] b14 v96_53 v105_54 y15 ky15 r1 r3 r5 r7 G1 G3 T15.heap n0 Zs21 E15q Fc15 Fv15 Vy15 hr1 hr3 hr5 hr7 (fun _ => ⟨hs0.1, he0.2⟩) O_18 S_cs S_fm S_ad S_hi S_lo P5 rG3) hZ (hw _ (List.mem_of_getElem? (i := 46) rfl)) (hw _ (List.mem_of_getElem? (i := 45) rfl)) (by decide) (by decide)) (g := (mkF m 179 #[.val (.int p1), .val (.int p2), .val (.int p3), .val (.int p4), .val (.int p5), .val (.int p6), .val (.int r1), .val (.int r3), .val (.int r5), .val (.int r7), .val (.ref b9), .val (.ref b14), .val (.int v96_53), .val (.int v105_54), .val (.int (0 : Int32))] [(.int v105_54), (.int v96_53), (.ref b14)])) rfl (by rw [hml]; rfl) (argsL := [(.ref b14), (.int v96_53), (.int v105_54)]) (rest := []) (lenOf pd_17 rfl) rfl (by show 2 * 0 + _ ≤ _; exact Nat.le_of_eq rfl) (hb hby at_179) (fun _ _ => ⟨rfl, e58q, (by decide : 4 + 0 ≤ _), (by decide : 20 + 0 ≤ _)⟩)
            dsimp only [Pt.U, Pt.locs, Pt.cells, Pt.slots] at X77 l77 y77 z77 st77 hQ77
            subst l77 y77 z77
            rcases hQ77 with ⟨⟨_, rfl, ⟨rfl, hd77⟩ | ⟨rfl, hd77⟩⟩, N77q, e77q⟩
            · have N77 := Fr.app N58 N77q
              exact absurd ((own_c1 r1 r3 r5 r7) ▸ hd77.2 (1 : Int32) hd58.1 hd58.2.1) hd58.2.2
            · have N77 := Fr.app N58 N77q
              refine Go.on (B := T77.setTop (mkF m 182 #[.val (.int p1), .val (.int p2), .val (.int p3), .val (.int p4), .val (.int p5), .val (.int p6), .val (.int r1), .val (.int r3), .val (.int r5), .val (.int r7), .val (.ref b9), .val (.ref b14), .val (.int v96_53), .val (.int v105_54), .val (.int (0 : Int32))] [(.int (0 : Int32))])) (fun t k => st77 _ k) ?_
              refine Go.on (B := T77.setTop (mkF m 184 #[.val (.int p1), .val (.int p2), .val (.int p3), .val (.int p4), .val (.int p5), .val (.int p6), .val (.int r1), .val (.int r3), .val (.int r5), .val (.int r7), .val (.ref b9), .val (.ref b14), .val (.int v96_53), .val (.int v105_54), .val (.int (0 : Int32))] [(.int (0 : Int32)), (.int (0 : Int32))])) (fun t k => XS.iload X77.here hx rfl (hb hby at_182) rfl k) ?_
              have hc184_78 : (0 : Int32) = (0 : Int32) := by decide
              refine Go.on (B := T77.setTop (mkF m 187 #[.val (.int p1), .val (.int p2), .val (.int p3), .val (.int p4), .val (.int p5), .val (.int p6), .val (.int r1), .val (.int r3), .val (.int r5), .val (.int r7), .val (.ref b9), .val (.ref b14), .val (.int v96_53), .val (.int v105_54), .val (.int (0 : Int32))] [])) (fun t k => XS.icmpNo X77.here hx rfl (hb hby at_184) rfl (teq hc184_78).2 k) ?_
              refine Go.on (B := T77.setTop (mkF m 188 #[.val (.int p1), .val (.int p2), .val (.int p3), .val (.int p4), .val (.int p5), .val (.int p6), .val (.int r1), .val (.int r3), .val (.int r5), .val (.int r7), .val (.ref b9), .val (.ref b14), .val (.int v96_53), .val (.int v105_54), .val (.int (0 : Int32))] [(.int (1 : Int32))])) (fun t k => XS.iconst X77.here hx rfl (hb hby at_187) k) ?_
              refine Go.on (B := T77.setTop (mkF m 192 #[.val (.int p1), .val (.int p2), .val (.int p3), .val (.int p4), .val (.int p5), .val (.int p6), .val (.int r1), .val (.int r3), .val (.int r5), .val (.int r7), .val (.ref b9), .val (.ref b14), .val (.int v96_53), .val (.int v105_54), .val (.int (0 : Int32))] [(.int (1 : Int32))])) (fun t k => XS.goto X77.here hx rfl (pc0 := 188) (pc' := 192) rfl (hb hby at_188) (by decide) (by decide) k) ?_
              obtain ⟨fs, hr, hrun, hended, hW, hsame⟩ := X77.leave (v := some (.int (1 : Int32))) (fun h => by rw [Bd.returns] at h; cases h)
              refine ⟨_, _, ?_, hrun, hended, _, _, rfl, ?_, ⟨_, rfl⟩, hW, hsame.mono (by decide) (by decide)⟩
              · exact retN X77 hx (t := .boolean) Bd.returns (by simp) (hb hby at_192) hr
              · show Q_rm0 Z p1 p2 p3 p4 p5 p6 G1 G3 h0 n0 _ T77.heap _
                rw [e77q]
                exact ⟨rfl, N77⟩
        · have N56 := Fr.app N15 N56q
          refine Go.on (B := T56.setTop (mkF m 124 #[.val (.int p1), .val (.int p2), .val (.int p3), .val (.int p4), .val (.int p5), .val (.int p6), .val (.int r1), .val (.int r3), .val (.int r5), .val (.int r7), .val (.ref b9), .val (.ref b14), .val (.int v96_53), .val (.int v105_54), .unset] [(.int (0 : Int32))])) (fun t k => st56 _ k) ?_
          have hc124_79 : (0 : Int32) = (0 : Int32) := by decide
          refine Go.on (B := T56.setTop (mkF m 170 #[.val (.int p1), .val (.int p2), .val (.int p3), .val (.int p4), .val (.int p5), .val (.int p6), .val (.int r1), .val (.int r3), .val (.int r5), .val (.int r7), .val (.ref b9), .val (.ref b14), .val (.int v96_53), .val (.int v105_54), .unset] [])) (fun t k => XS.ifYes X56.here hx rfl (pc0 := 124) (pc' := 170) rfl (hb hby at_124) rfl ((if0 _ _).trans (teq hc124_79).1) (by decide) (by decide) k) ?_
          refine Go.on (B := T56.setTop (mkF m 171 #[.val (.int p1), .val (.int p2), .val (.int p3), .val (.int p4), .val (.int p5), .val (.int p6), .val (.int r1), .val (.int r3), .val (.int r5), .val (.int r7), .val (.ref b9), .val (.ref b14), .val (.int v96_53), .val (.int v105_54), .unset] [(.int (0 : Int32))])) (fun t k => XS.iconst X56.here hx rfl (hb hby at_170) k) ?_
          refine Go.on (B := T56.setTop (mkF m 173 #[.val (.int p1), .val (.int p2), .val (.int p3), .val (.int p4), .val (.int p5), .val (.int p6), .val (.int r1), .val (.int r3), .val (.int r5), .val (.int r7), .val (.ref b9), .val (.ref b14), .val (.int v96_53), .val (.int v105_54), .val (.int (0 : Int32))] [])) (fun t k => XS.istore X56.here hx rfl (hb hby at_171) rfl (l' := #[.val (.int p1), .val (.int p2), .val (.int p3), .val (.int p4), .val (.int p5), .val (.int p6), .val (.int r1), .val (.int r3), .val (.int r5), .val (.int r7), .val (.ref b9), .val (.ref b14), .val (.int v96_53), .val (.int v105_54), .val (.int (0 : Int32))]) rfl k) ?_
          refine Go.on (B := T56.setTop (mkF m 175 #[.val (.int p1), .val (.int p2), .val (.int p3), .val (.int p4), .val (.int p5), .val (.int p6), .val (.int r1), .val (.int r3), .val (.int r5), .val (.int r7), .val (.ref b9), .val (.ref b14), .val (.int v96_53), .val (.int v105_54), .val (.int (0 : Int32))] [(.ref b14)])) (fun t k => XS.aload X56.here hx rfl (hb hby at_173) rfl rfl k) ?_
          refine Go.on (B := T56.setTop (mkF m 177 #[.val (.int p1), .val (.int p2), .val (.int p3), .val (.int p4), .val (.int p5), .val (.int p6), .val (.int r1), .val (.int r3), .val (.int r5), .val (.int r7), .val (.ref b9), .val (.ref b14), .val (.int v96_53), .val (.int v105_54), .val (.int (0 : Int32))] [(.int v96_53), (.ref b14)])) (fun t k => XS.iload X56.here hx rfl (hb hby at_175) rfl k) ?_
          refine Go.on (B := T56.setTop (mkF m 179 #[.val (.int p1), .val (.int p2), .val (.int p3), .val (.int p4), .val (.int p5), .val (.int p6), .val (.int r1), .val (.int r3), .val (.int r5), .val (.int r7), .val (.ref b9), .val (.ref b14), .val (.int v96_53), .val (.int v105_54), .val (.int (0 : Int32))] [(.int v105_54), (.int v96_53), (.ref b14)])) (fun t k => XS.iload X56.here hx rfl (hb hby at_177) rfl k) ?_
          obtain ⟨_, _, ⟨T81, L81, k81, n81⟩, -, X81, ⟨Lc81, hQ81, l81, y81, z81⟩, st81⟩ := Jvm.LawKit.callS X56 hx (y := (⟨"com/example/encours/encours/engine/Money", "isDigits", "(Ljava/lang/String;II)Z"⟩ : MethodName)) hown (mvT hZ (hw _ (List.mem_of_getElem? (i := 43) rfl))) (mvT hZ (hw _ (List.mem_of_getElem? (i := 44) rfl))) (mvT hZ (hw _ (List.mem_of_getElem? (i := 45) rfl))) (mvT hZ (hw _ (List.mem_of_getElem? (i := 46) rfl))) (by decide) (backOf (W := 0) (risU l Z a0 hw [] b14 v96_53 v105_54 y15 ky15 r1 r3 r5 r7 G1 G3 T15.heap n0 Zs21 E15q Fc15 Fv15 Vy15 hr1 hr3 hr5 hr7 (fun _ => ⟨hs0.1, he0.2⟩) O_18 S_cs S_fm S_ad S_hi S_lo P5 rG3) hZ (hw _ (List.mem_of_getElem? (i := 46) rfl)) (hw _ (List.mem_of_getElem? (i := 45) rfl)) (by decide) (by decide)) (g := (mkF m 179 #[.val (.int p1), .val (.int p2), .val (.int p3), .val (.int p4), .val (.int p5), .val (.int p6), .val (.int r1), .val (.int r3), .val (.int r5), .val (.int r7), .val (.ref b9), .val (.ref b14), .val (.int v96_53), .val (.int v105_54), .val (.int (0 : Int32))] [(.int v105_54), (.int v96_53), (.ref b14)])) rfl (by rw [hml]; rfl) (argsL := [(.ref b14), (.int v96_53), (.int v105_54)]) (rest := []) (lenOf pd_17 rfl) rfl (by show 2 * 0 + _ ≤ _; exact Nat.le_of_eq rfl) (hb hby at_179) (fun _ _ => ⟨rfl, e56q, (by decide : 4 + 0 ≤ _), (by decide : 20 + 0 ≤ _)⟩)
          dsimp only [Pt.U, Pt.locs, Pt.cells, Pt.slots] at X81 l81 y81 z81 st81 hQ81
          subst l81 y81 z81
          rcases hQ81 with ⟨⟨_, rfl, ⟨rfl, hd81⟩ | ⟨rfl, hd81⟩⟩, N81q, e81q⟩
          · have N81 := Fr.app N56 N81q
            exact absurd ((own_c0 r1 r3 r5 r7) ▸ hd81.2 (0 : Int32) hd56.1 hd56.2.1) hd56.2.2
          · have N81 := Fr.app N56 N81q
            refine Go.on (B := T81.setTop (mkF m 182 #[.val (.int p1), .val (.int p2), .val (.int p3), .val (.int p4), .val (.int p5), .val (.int p6), .val (.int r1), .val (.int r3), .val (.int r5), .val (.int r7), .val (.ref b9), .val (.ref b14), .val (.int v96_53), .val (.int v105_54), .val (.int (0 : Int32))] [(.int (0 : Int32))])) (fun t k => st81 _ k) ?_
            refine Go.on (B := T81.setTop (mkF m 184 #[.val (.int p1), .val (.int p2), .val (.int p3), .val (.int p4), .val (.int p5), .val (.int p6), .val (.int r1), .val (.int r3), .val (.int r5), .val (.int r7), .val (.ref b9), .val (.ref b14), .val (.int v96_53), .val (.int v105_54), .val (.int (0 : Int32))] [(.int (0 : Int32)), (.int (0 : Int32))])) (fun t k => XS.iload X81.here hx rfl (hb hby at_182) rfl k) ?_
            have hc184_82 : (0 : Int32) = (0 : Int32) := by decide
            refine Go.on (B := T81.setTop (mkF m 187 #[.val (.int p1), .val (.int p2), .val (.int p3), .val (.int p4), .val (.int p5), .val (.int p6), .val (.int r1), .val (.int r3), .val (.int r5), .val (.int r7), .val (.ref b9), .val (.ref b14), .val (.int v96_53), .val (.int v105_54), .val (.int (0 : Int32))] [])) (fun t k => XS.icmpNo X81.here hx rfl (hb hby at_184) rfl (teq hc184_82).2 k) ?_
            refine Go.on (B := T81.setTop (mkF m 188 #[.val (.int p1), .val (.int p2), .val (.int p3), .val (.int p4), .val (.int p5), .val (.int p6), .val (.int r1), .val (.int r3), .val (.int r5), .val (.int r7), .val (.ref b9), .val (.ref b14), .val (.int v96_53), .val (.int v105_54), .val (.int (0 : Int32))] [(.int (1 : Int32))])) (fun t k => XS.iconst X81.here hx rfl (hb hby at_187) k) ?_
            refine Go.on (B := T81.setTop (mkF m 192 #[.val (.int p1), .val (.int p2), .val (.int p3), .val (.int p4), .val (.int p5), .val (.int p6), .val (.int r1), .val (.int r3), .val (.int r5), .val (.int r7), .val (.ref b9), .val (.ref b14), .val (.int v96_53), .val (.int v105_54), .val (.int (0 : Int32))] [(.int (1 : Int32))])) (fun t k => XS.goto X81.here hx rfl (pc0 := 188) (pc' := 192) rfl (hb hby at_188) (by decide) (by decide) k) ?_
            obtain ⟨fs, hr, hrun, hended, hW, hsame⟩ := X81.leave (v := some (.int (1 : Int32))) (fun h => by rw [Bd.returns] at h; cases h)
            refine ⟨_, _, ?_, hrun, hended, _, _, rfl, ?_, ⟨_, rfl⟩, hW, hsame.mono (by decide) (by decide)⟩
            · exact retN X81 hx (t := .boolean) Bd.returns (by simp) (hb hby at_192) hr
            · show Q_rm0 Z p1 p2 p3 p4 p5 p6 G1 G3 h0 n0 _ T81.heap _
              rw [e81q]
              exact ⟨rfl, N81⟩
      · refine Go.on (B := T15.setTop (mkF m 170 #[.val (.int p1), .val (.int p2), .val (.int p3), .val (.int p4), .val (.int p5), .val (.int p6), .val (.int r1), .val (.int r3), .val (.int r5), .val (.int r7), .val (.ref b9), .val (.ref b14), .val (.int v96_53), .val (.int v105_54), .unset] [])) (fun t k => XS.icmpYes X15.here hx rfl (pc0 := 111) (pc' := 170) rfl (hb hby at_111) rfl (flt hc111_55).2.1 (by decide) (by decide) k) ?_
        refine Go.on (B := T15.setTop (mkF m 171 #[.val (.int p1), .val (.int p2), .val (.int p3), .val (.int p4), .val (.int p5), .val (.int p6), .val (.int r1), .val (.int r3), .val (.int r5), .val (.int r7), .val (.ref b9), .val (.ref b14), .val (.int v96_53), .val (.int v105_54), .unset] [(.int (0 : Int32))])) (fun t k => XS.iconst X15.here hx rfl (hb hby at_170) k) ?_
        refine Go.on (B := T15.setTop (mkF m 173 #[.val (.int p1), .val (.int p2), .val (.int p3), .val (.int p4), .val (.int p5), .val (.int p6), .val (.int r1), .val (.int r3), .val (.int r5), .val (.int r7), .val (.ref b9), .val (.ref b14), .val (.int v96_53), .val (.int v105_54), .val (.int (0 : Int32))] [])) (fun t k => XS.istore X15.here hx rfl (hb hby at_171) rfl (l' := #[.val (.int p1), .val (.int p2), .val (.int p3), .val (.int p4), .val (.int p5), .val (.int p6), .val (.int r1), .val (.int r3), .val (.int r5), .val (.int r7), .val (.ref b9), .val (.ref b14), .val (.int v96_53), .val (.int v105_54), .val (.int (0 : Int32))]) rfl k) ?_
        refine Go.on (B := T15.setTop (mkF m 175 #[.val (.int p1), .val (.int p2), .val (.int p3), .val (.int p4), .val (.int p5), .val (.int p6), .val (.int r1), .val (.int r3), .val (.int r5), .val (.int r7), .val (.ref b9), .val (.ref b14), .val (.int v96_53), .val (.int v105_54), .val (.int (0 : Int32))] [(.ref b14)])) (fun t k => XS.aload X15.here hx rfl (hb hby at_173) rfl rfl k) ?_
        refine Go.on (B := T15.setTop (mkF m 177 #[.val (.int p1), .val (.int p2), .val (.int p3), .val (.int p4), .val (.int p5), .val (.int p6), .val (.int r1), .val (.int r3), .val (.int r5), .val (.int r7), .val (.ref b9), .val (.ref b14), .val (.int v96_53), .val (.int v105_54), .val (.int (0 : Int32))] [(.int v96_53), (.ref b14)])) (fun t k => XS.iload X15.here hx rfl (hb hby at_175) rfl k) ?_
        refine Go.on (B := T15.setTop (mkF m 179 #[.val (.int p1), .val (.int p2), .val (.int p3), .val (.int p4), .val (.int p5), .val (.int p6), .val (.int r1), .val (.int r3), .val (.int r5), .val (.int r7), .val (.ref b9), .val (.ref b14), .val (.int v96_53), .val (.int v105_54), .val (.int (0 : Int32))] [(.int v105_54), (.int v96_53), (.ref b14)])) (fun t k => XS.iload X15.here hx rfl (hb hby at_177) rfl k) ?_
        obtain ⟨_, _, ⟨T84, L84, k84, n84⟩, -, X84, ⟨Lc84, hQ84, l84, y84, z84⟩, st84⟩ := Jvm.LawKit.callS X15 hx (y := (⟨"com/example/encours/encours/engine/Money", "isDigits", "(Ljava/lang/String;II)Z"⟩ : MethodName)) hown (mvT hZ (hw _ (List.mem_of_getElem? (i := 43) rfl))) (mvT hZ (hw _ (List.mem_of_getElem? (i := 44) rfl))) (mvT hZ (hw _ (List.mem_of_getElem? (i := 45) rfl))) (mvT hZ (hw _ (List.mem_of_getElem? (i := 46) rfl))) (by decide) (backOf (W := 0) (risU l Z a0 hw [] b14 v96_53 v105_54 y15 ky15 r1 r3 r5 r7 G1 G3 T15.heap n0 Zs21 E15q Fc15 Fv15 Vy15 hr1 hr3 hr5 hr7 (fun _ => ⟨hs0.1, he0.2⟩) O_18 S_cs S_fm S_ad S_hi S_lo P5 rG3) hZ (hw _ (List.mem_of_getElem? (i := 46) rfl)) (hw _ (List.mem_of_getElem? (i := 45) rfl)) (by decide) (by decide)) (g := (mkF m 179 #[.val (.int p1), .val (.int p2), .val (.int p3), .val (.int p4), .val (.int p5), .val (.int p6), .val (.int r1), .val (.int r3), .val (.int r5), .val (.int r7), .val (.ref b9), .val (.ref b14), .val (.int v96_53), .val (.int v105_54), .val (.int (0 : Int32))] [(.int v105_54), (.int v96_53), (.ref b14)])) rfl (by rw [hml]; rfl) (argsL := [(.ref b14), (.int v96_53), (.int v105_54)]) (rest := []) (lenOf pd_17 rfl) rfl (by show 2 * 0 + _ ≤ _; exact Nat.le_of_eq rfl) (hb hby at_179) (fun _ _ => ⟨rfl, rfl, (by decide : 4 + 0 ≤ _), (by decide : 20 + 0 ≤ _)⟩)
        dsimp only [Pt.U, Pt.locs, Pt.cells, Pt.slots] at X84 l84 y84 z84 st84 hQ84
        subst l84 y84 z84
        rcases hQ84 with ⟨⟨_, rfl, ⟨rfl, hd84⟩ | ⟨rfl, hd84⟩⟩, N84q, e84q⟩
        · have N84 := Fr.app N15 N84q
          exact absurd hd84.1 hc111_55
        · have N84 := Fr.app N15 N84q
          refine Go.on (B := T84.setTop (mkF m 182 #[.val (.int p1), .val (.int p2), .val (.int p3), .val (.int p4), .val (.int p5), .val (.int p6), .val (.int r1), .val (.int r3), .val (.int r5), .val (.int r7), .val (.ref b9), .val (.ref b14), .val (.int v96_53), .val (.int v105_54), .val (.int (0 : Int32))] [(.int (0 : Int32))])) (fun t k => st84 _ k) ?_
          refine Go.on (B := T84.setTop (mkF m 184 #[.val (.int p1), .val (.int p2), .val (.int p3), .val (.int p4), .val (.int p5), .val (.int p6), .val (.int r1), .val (.int r3), .val (.int r5), .val (.int r7), .val (.ref b9), .val (.ref b14), .val (.int v96_53), .val (.int v105_54), .val (.int (0 : Int32))] [(.int (0 : Int32)), (.int (0 : Int32))])) (fun t k => XS.iload X84.here hx rfl (hb hby at_182) rfl k) ?_
          have hc184_85 : (0 : Int32) = (0 : Int32) := by decide
          refine Go.on (B := T84.setTop (mkF m 187 #[.val (.int p1), .val (.int p2), .val (.int p3), .val (.int p4), .val (.int p5), .val (.int p6), .val (.int r1), .val (.int r3), .val (.int r5), .val (.int r7), .val (.ref b9), .val (.ref b14), .val (.int v96_53), .val (.int v105_54), .val (.int (0 : Int32))] [])) (fun t k => XS.icmpNo X84.here hx rfl (hb hby at_184) rfl (teq hc184_85).2 k) ?_
          refine Go.on (B := T84.setTop (mkF m 188 #[.val (.int p1), .val (.int p2), .val (.int p3), .val (.int p4), .val (.int p5), .val (.int p6), .val (.int r1), .val (.int r3), .val (.int r5), .val (.int r7), .val (.ref b9), .val (.ref b14), .val (.int v96_53), .val (.int v105_54), .val (.int (0 : Int32))] [(.int (1 : Int32))])) (fun t k => XS.iconst X84.here hx rfl (hb hby at_187) k) ?_
          refine Go.on (B := T84.setTop (mkF m 192 #[.val (.int p1), .val (.int p2), .val (.int p3), .val (.int p4), .val (.int p5), .val (.int p6), .val (.int r1), .val (.int r3), .val (.int r5), .val (.int r7), .val (.ref b9), .val (.ref b14), .val (.int v96_53), .val (.int v105_54), .val (.int (0 : Int32))] [(.int (1 : Int32))])) (fun t k => XS.goto X84.here hx rfl (pc0 := 188) (pc' := 192) rfl (hb hby at_188) (by decide) (by decide) k) ?_
          obtain ⟨fs, hr, hrun, hended, hW, hsame⟩ := X84.leave (v := some (.int (1 : Int32))) (fun h => by rw [Bd.returns] at h; cases h)
          refine ⟨_, _, ?_, hrun, hended, _, _, rfl, ?_, ⟨_, rfl⟩, hW, hsame.mono (by decide) (by decide)⟩
          · exact retN X84 hx (t := .boolean) Bd.returns (by simp) (hb hby at_192) hr
          · show Q_rm0 Z p1 p2 p3 p4 p5 p6 G1 G3 h0 n0 _ T84.heap _
            rw [e84q]
            exact ⟨rfl, N84⟩
    · refine Go.on (B := T15.setTop (mkF m 71 #[.val (.int p1), .val (.int p2), .val (.int p3), .val (.int p4), .val (.int p5), .val (.int p6), .val (.int r1), .val (.int r3), .val (.int r5), .val (.int r7), .val (.ref b9), .val (.ref b14), .unset, .unset, .unset] [])) (fun t k => XS.icmpNo X15.here hx rfl (hb hby at_68) rfl (flt hc68_52).1 k) ?_
      refine Go.on (B := T15.setTop (mkF m 73 #[.val (.int p1), .val (.int p2), .val (.int p3), .val (.int p4), .val (.int p5), .val (.int p6), .val (.int r1), .val (.int r3), .val (.int r5), .val (.int r7), .val (.ref b9), .val (.ref b14), .unset, .unset, .unset] [(.ref b14)])) (fun t k => XS.aload X15.here hx rfl (hb hby at_71) rfl rfl k) ?_
      refine Go.on (B := T15.setTop (mkF m 75 #[.val (.int p1), .val (.int p2), .val (.int p3), .val (.int p4), .val (.int p5), .val (.int p6), .val (.int r1), .val (.int r3), .val (.int r5), .val (.int r7), .val (.ref b9), .val (.ref b14), .unset, .unset, .unset] [(.int p5), (.ref b14)])) (fun t k => XS.iload X15.here hx rfl (hb hby at_73) rfl k) ?_
      refine Go.on (B := T15.setTop (mkF m 77 #[.val (.int p1), .val (.int p2), .val (.int p3), .val (.int p4), .val (.int p5), .val (.int p6), .val (.int r1), .val (.int r3), .val (.int r5), .val (.int r7), .val (.ref b9), .val (.ref b14), .unset, .unset, .unset] [(.int p6), (.int p5), (.ref b14)])) (fun t k => XS.iload X15.here hx rfl (hb hby at_75) rfl k) ?_
      obtain ⟨_, _, ⟨T86, L86, k86, n86⟩, -, X86, ⟨Lc86, hQ86, l86, y86, z86⟩, st86⟩ := Jvm.LawKit.callS X15 hx (y := (⟨"com/example/encours/encours/engine/Money", "isDigits", "(Ljava/lang/String;II)Z"⟩ : MethodName)) hown (mvT hZ (hw _ (List.mem_of_getElem? (i := 43) rfl))) (mvT hZ (hw _ (List.mem_of_getElem? (i := 44) rfl))) (mvT hZ (hw _ (List.mem_of_getElem? (i := 45) rfl))) (mvT hZ (hw _ (List.mem_of_getElem? (i := 46) rfl))) (by decide) (backOf (W := 0) (risU l Z a0 hw [] b14 p5 p6 y15 ky15 r1 r3 r5 r7 G1 G3 T15.heap n0 Zs21 E15q Fc15 Fv15 Vy15 hr1 hr3 hr5 hr7 (fun q => absurd q hc68_52) O_18 S_cs S_fm S_ad S_hi S_lo P5 rG3) hZ (hw _ (List.mem_of_getElem? (i := 46) rfl)) (hw _ (List.mem_of_getElem? (i := 45) rfl)) (by decide) (by decide)) (g := (mkF m 77 #[.val (.int p1), .val (.int p2), .val (.int p3), .val (.int p4), .val (.int p5), .val (.int p6), .val (.int r1), .val (.int r3), .val (.int r5), .val (.int r7), .val (.ref b9), .val (.ref b14), .unset, .unset, .unset] [(.int p6), (.int p5), (.ref b14)])) rfl (by rw [hml]; rfl) (argsL := [(.ref b14), (.int p5), (.int p6)]) (rest := []) (lenOf pd_17 rfl) rfl (by show 2 * 0 + _ ≤ _; exact Nat.le_of_eq rfl) (hb hby at_77) (fun _ _ => ⟨rfl, rfl, (by decide : 4 + 0 ≤ _), (by decide : 20 + 0 ≤ _)⟩)
      dsimp only [Pt.U, Pt.locs, Pt.cells, Pt.slots] at X86 l86 y86 z86 st86 hQ86
      subst l86 y86 z86
      rcases hQ86 with ⟨⟨_, rfl, ⟨rfl, hd86⟩ | ⟨rfl, hd86⟩⟩, N86q, e86q⟩
      · have N86 := Fr.app N15 N86q
        exact absurd hd86.1 hc68_52
      · have N86 := Fr.app N15 N86q
        refine Go.on (B := T86.setTop (mkF m 80 #[.val (.int p1), .val (.int p2), .val (.int p3), .val (.int p4), .val (.int p5), .val (.int p6), .val (.int r1), .val (.int r3), .val (.int r5), .val (.int r7), .val (.ref b9), .val (.ref b14), .unset, .unset, .unset] [(.int (0 : Int32))])) (fun t k => st86 _ k) ?_
        have hc80_87 : (0 : Int32) = (0 : Int32) := by decide
        refine Go.on (B := T86.setTop (mkF m 83 #[.val (.int p1), .val (.int p2), .val (.int p3), .val (.int p4), .val (.int p5), .val (.int p6), .val (.int r1), .val (.int r3), .val (.int r5), .val (.int r7), .val (.ref b9), .val (.ref b14), .unset, .unset, .unset] [])) (fun t k => XS.ifNo X86.here hx rfl (hb hby at_80) rfl ((if0 _ _).trans (teq hc80_87).2) k) ?_
        refine Go.on (B := T86.setTop (mkF m 84 #[.val (.int p1), .val (.int p2), .val (.int p3), .val (.int p4), .val (.int p5), .val (.int p6), .val (.int r1), .val (.int r3), .val (.int r5), .val (.int r7), .val (.ref b9), .val (.ref b14), .unset, .unset, .unset] [(.int (1 : Int32))])) (fun t k => XS.iconst X86.here hx rfl (hb hby at_83) k) ?_
        refine Go.on (B := T86.setTop (mkF m 88 #[.val (.int p1), .val (.int p2), .val (.int p3), .val (.int p4), .val (.int p5), .val (.int p6), .val (.int r1), .val (.int r3), .val (.int r5), .val (.int r7), .val (.ref b9), .val (.ref b14), .unset, .unset, .unset] [(.int (1 : Int32))])) (fun t k => XS.goto X86.here hx rfl (pc0 := 84) (pc' := 88) rfl (hb hby at_84) (by decide) (by decide) k) ?_
        obtain ⟨fs, hr, hrun, hended, hW, hsame⟩ := X86.leave (v := some (.int (1 : Int32))) (fun h => by rw [Bd.returns] at h; cases h)
        refine ⟨_, _, ?_, hrun, hended, _, _, rfl, ?_, ⟨_, rfl⟩, hW, hsame.mono (by decide) (by decide)⟩
        · exact retN X86 hx (t := .boolean) Bd.returns (by simp) (hb hby at_88) hr
        · show Q_rm0 Z p1 p2 p3 p4 p5 p6 G1 G3 h0 n0 _ T86.heap _
          rw [e86q]
          exact ⟨rfl, N86⟩
set_option maxRecDepth 65536 in
set_option maxHeartbeats 40000000 in
theorem comes_1 {Post : Tables → Env → Array Value → State → Outcome → State → Prop} (hpost : ∀ tb e args s v u, (limb_1_1.after args s (.returned v) u = true ∧ limb_1_2.after args s (.returned v) u = true ∧ True) → FrameEnd s (.returned v) u (Jvm.fieldLocs frame_1_writes args s ++ Jvm.arrayLocs frame_1_arrays args s ++ Jvm.staticLocs frame_1_statics s) 16 128 → Post tb e args s (.returned v) u) :
    ArmFor flags0 classFile x code maxLocals ret World_1 tables_1 room_1 Calls_1 rest_1 Pre_1 Post := by
  intro l hfl _ _ p e ha hc hk s m args below hf hA hF happ hP
  obtain ⟨hcalls, hrest, hpre⟩ := hP
  obtain ⟨-, -, -, hnamed, -, -, -, hat⟩ := (Spec.applies_iff hf).mp happ
  obtain ⟨hg, hn⟩ := and_e (Cond.before_iff.mp (show (Jvm.Cond.and given_1 narrow_1).before args s = true from hpre))
  obtain ⟨gc, gr0⟩ := and_e hg
  obtain ⟨ga0, gr1⟩ := and_e gr0
  obtain ⟨ga1, gr2⟩ := and_e gr1
  obtain ⟨ga2, gr3⟩ := and_e gr2
  obtain ⟨ga3, gr4⟩ := and_e gr3
  obtain ⟨ga4, gr5⟩ := and_e gr4
  obtain ⟨w0, w1, w2, w3, w4, w5, rfl⟩ : ∃ w0 w1 w2 w3 w4 w5 : Value, args = #[w0, w1, w2, w3, w4, w5] := by
    have hs : args.size = 6 := by simpa [Cond.value, given_1] using gc
    obtain ⟨L⟩ := args
    match L, hs with
    | [w0, w1, w2, w3, w4, w5], _ => exact ⟨w0, w1, w2, w3, w4, w5, rfl⟩
  have hw := fun d (hd : d ∈ tables_1) => atoms_spec (ws := Jvm.Cond.code x code maxLocals ret :: tables_1) hat d (List.mem_cons_of_mem _ hd)
  have hfit : Fit s := fun {y c} hc i hi => by
    obtain ⟨ha, rfl⟩ := Array.getElem?_eq_some_iff.mp hc
    have q := List.all_eq_true.mp ((Array.all_eq_true_iff_forall_mem.mp hF) _ (Array.getElem_mem ha)) i (List.mem_range.mpr hi)
    simpa [Array.getElem?_eq_getElem hi] using q
  obtain ⟨hsets, hown0⟩ := atoms_of _ (rest_1_c_eq ▸ (show rest_1_c.before _ s = true from hrest))
  have hr0 := Cond.before_iff.mp hown0
  obtain ⟨i0, ei0⟩ := is_v ga0
  obtain rfl : w0 = (.int i0) := Option.some.inj ei0
  obtain ⟨i1, ei1⟩ := is_v ga1
  obtain rfl : w1 = (.int i1) := Option.some.inj ei1
  obtain ⟨i2, ei2⟩ := is_v ga2
  obtain rfl : w2 = (.int i2) := Option.some.inj ei2
  obtain ⟨i3, ei3⟩ := is_v ga3
  obtain rfl : w3 = (.int i3) := Option.some.inj ei3
  obtain ⟨i4, ei4⟩ := is_v ga4
  obtain rfl : w4 = (.int i4) := Option.some.inj ei4
  obtain ⟨i5, ei5⟩ := is_v gr5
  obtain rfl : w5 = (.int i5) := Option.some.inj ei5
  have n5 := not_v (Cond.before_iff.mp (hsets _ (List.mem_of_getElem? (i := 2) rfl)))
  obtain ⟨G1, e10⟩ := is_v (Cond.before_iff.mp (hsets _ (List.mem_of_getElem? (i := 1) rfl)))
  have S_cs : Sta s s.heap "java/lang/String" "COMPACT_STRINGS" "Z" (.int G1) := Sta.start e10 (Or.inl (hsets _ (List.mem_of_getElem? (i := 0) rfl)))
  have P5 : ¬ (G1 = (0 : Int32)) := gotF (Cond.eq_ints e10 (Term.int_eval (0))) n5
  obtain ⟨G3, e14, rG3⟩ := isR_v (Cond.before_iff.mp (hsets _ (List.mem_of_getElem? (i := 8) rfl)))
  have S_fm : Sta s s.heap "jdk/internal/util/Preconditions" "SIOOBE_FORMATTER" "Ljava/util/function/BiFunction;" G3 := Sta.start e14 (Or.inl (hsets _ (List.mem_of_getElem? (i := 7) rfl)))
  have S_ad : Sta s s.heap "java/lang/StringUTF16" "$assertionsDisabled" "Z" (.int (1 : Int32)) := Sta.start (eqv_i (Term.int_eval (1 : Int32)) (Cond.before_iff.mp (hsets _ (List.mem_of_getElem? (i := 12) rfl)))) (Or.inl (hsets _ (List.mem_of_getElem? (i := 11) rfl)))
  have S_hi : Sta s s.heap "java/lang/StringUTF16" "HI_BYTE_SHIFT" "I" (.int (0 : Int32)) := Sta.start (eqv_i (Term.int_eval (0 : Int32)) (Cond.before_iff.mp (hsets _ (List.mem_of_getElem? (i := 15) rfl)))) (Or.inl (hsets _ (List.mem_of_getElem? (i := 14) rfl)))
  have S_lo : Sta s s.heap "java/lang/StringUTF16" "LO_BYTE_SHIFT" "I" (.int (8 : Int32)) := Sta.start (eqv_i (Term.int_eval (8 : Int32)) (Cond.before_iff.mp (hsets _ (List.mem_of_getElem? (i := 18) rfl)))) (Or.inl (hsets _ (List.mem_of_getElem? (i := 17) rfl)))
  obtain ⟨n, o, h1, h2, h3, _, L, rfl, ⟨rfl, N⟩, hq⟩ := rm0 l s _ hw tables_1 i0 i1 i2 i3 i4 i5 G1 G3 s.heap s.heap.size (Nat.le_refl _) (Old.start s) S_cs S_fm S_ad S_hi S_lo P5 rG3 p e ha hc hk s m _ below hf ((Spec.applies_iff_loose hf).mp happ).1 ⟨rfl, State.Warmed39.refl s, rfl⟩ trivial
  refine ⟨n, _, h1, h2, h3, hpost _ _ _ _ _ _ ⟨Cond.after_iff.mpr rfl, Cond.after_iff.mpr (eq_i res_at (Term.int_eval (1)) rfl), trivial⟩ ⟨hq.1, hq.2.1, (hq.2.2.sift fun y hy => Or.inr (N y hy)).mono (by decide) (by decide)⟩⟩
theorem main_1_1 : Claimed_1_1 := comes_1 fun _ _ _ _ _ _ h hF => ⟨h.1, hF⟩
theorem main_1_2 : Claimed_1_2 := comes_1 fun _ _ _ _ _ _ h hF => ⟨h.2.1, hF⟩
end Jvm.Pilot.@@N@@
namespace Jvm.Pilot.@@N@@
open Jvm Jvm.ClassFile Sem Op Lib Jvm.Free Jvm.Stand Jvm.Pilot.@@N@@.Jvm.D
/-! MADE BY PROGRAM (witnessworld.py) out of the Statement's table words and the real class files: 20 classes; the members and pool entries that the words name. The judged class is class 1, her method 4. -/
namespace start1
open Jvm.ClassFile
def u (s : String) : CpInfo := .utf8 (stringToUtf16 s)
/-- a pool by its gaps: so many unusable entries, then the entry; so many at the end -/
def gap : Nat → List CpInfo → List CpInfo
  | 0, r => r
  | n + 1, r => .unusable :: gap n r
def poolList (es : List (Nat × CpInfo)) (last : Nat) : List CpInfo := es.foldr (fun e r => gap e.1 (e.2 :: r)) (gap last [])
def pool (es : List (Nat × CpInfo)) (last : Nat) : Array CpInfo := ⟨poolList es last⟩
def fileOf (pool : Array CpInfo) (this : Nat) (attrs : Array Attribute := #[]) (ms : Array MethodInfo := #[]) (fl : Nat := 33) (sup : Nat := 0) (ifs : Array Nat := #[]) (fds : Array FieldInfo := #[]) : ClassFile where
  minorVersion := 0
  majorVersion := 65
  constantPool := pool
  accessFlags := fl
  thisClass := this
  superClass := sup
  interfaces := ifs
  fields := fds
  methods := ms
  attributes := attrs
def plain (name : String) (sup : Option ClassId) : Class where
  name := name
  kind := .ordinary
  loader := none
  accessFlags := 33
  super := sup
  interfaces := #[]
  cf := none
  fields := #[]
  methods := #[]
  instanceTypes := #[]
  staticTypes := #[]
  resolved := #[]
  callSites := []
  init := .initialized
  statics := none
  mirror := none

def pool0 : Array CpInfo := pool [(5, u "<init>"), (0, u "()V"), (1, .class_ 10), (1, u "java/lang/Object")] 113

def k0c0 : Code := { maxStack := 0, maxLocals := 1, code := object_method_1_code, exceptionTable := #[], attributes := #[] }
def k0m0 : Method := { name := "<init>", desc := "()V", sig := { parameters := [], returnType := none }, accessFlags := 1, code := some k0c0 }
/-- java/lang/Object -/
def k0 : Class := { plain "java/lang/Object" none with
  accessFlags := 33
  interfaces := #[]
  cf := some (fileOf pool0 8 #[] #[{ accessFlags := 1, nameIndex := 5, descriptorIndex := 6, attributes := #[] }] 33 0 #[] #[])
  fields := #[]
  methods := #[k0m0]
  instanceTypes := #[]
  staticTypes := #[]
  resolved := Array.replicate 124 none
  statics := none }

def pool1 : Array CpInfo := pool [(2, .class_ 4), (1, u "java/lang/Object"), (0, u "<init>"), (0, u "()V"), (0, .integer 65535), (0, .integer 65536), (0, .methodref 10 11), (0, .class_ 12), (0, .nameAndType 13 14), (0, u "com/example/encours/encours/engine/MoneyIsDigitsPinLaw"), (0, u "digit"), (0, u "(C)Z"), (0, .methodref 10 16), (0, .nameAndType 17 18), (0, u "draw"), (0, u "(I)C"), (0, .class_ 20), (0, u "java/lang/String"), (0, .methodref 19 22), (0, .nameAndType 5 23), (0, u "([C)V"), (0, .methodref 25 26), (0, .class_ 27), (0, .nameAndType 28 29), (0, u "com/example/encours/encours/engine/Money"), (0, u "isDigits"), (0, u "(Ljava/lang/String;II)Z"), (0, .integer 2147483647), (0, .methodref 10 32), (0, .nameAndType 33 34), (0, u "ok"), (0, u "(IIIC)Z"), (3, u "law"), (0, u "(IIIIII)Z")] 4

def k1m0 : Method := { name := "<init>", desc := "()V", sig := { parameters := [], returnType := none }, accessFlags := 1, code := none }
def k1c1 : Code := { maxStack := 3, maxLocals := 2, code := method_2_code, exceptionTable := #[], attributes := #[] }
def k1m1 : Method := { name := "draw", desc := "(I)C", sig := { parameters := [.int], returnType := some .char }, accessFlags := 10, code := some k1c1 }
def k1c2 : Code := { maxStack := 2, maxLocals := 1, code := method_3_code, exceptionTable := #[], attributes := #[] }
def k1m2 : Method := { name := "digit", desc := "(C)Z", sig := { parameters := [.char], returnType := some .boolean }, accessFlags := 10, code := some k1c2 }
def k1c3 : Code := { maxStack := 2, maxLocals := 5, code := method_4_code, exceptionTable := #[], attributes := #[] }
def k1m3 : Method := { name := "ok", desc := "(IIIC)Z", sig := { parameters := [.int, .int, .int, .char], returnType := some .boolean }, accessFlags := 10, code := some k1c3 }
def k1c4 : Code := { maxStack := 4, maxLocals := 15, code := code, exceptionTable := #[], attributes := #[] }
def k1m4 : Method := { name := "law", desc := "(IIIIII)Z", sig := { parameters := [.int, .int, .int, .int, .int, .int], returnType := some .boolean }, accessFlags := 9, code := some k1c4 }
/-- com/example/encours/encours/engine/MoneyIsDigitsPinLaw -/
def k1 : Class := { plain "com/example/encours/encours/engine/MoneyIsDigitsPinLaw" (some 0) with
  accessFlags := 49
  interfaces := #[]
  cf := some (fileOf pool1 10 #[] #[{ accessFlags := 1, nameIndex := 5, descriptorIndex := 6, attributes := #[] }, { accessFlags := 10, nameIndex := 17, descriptorIndex := 18, attributes := #[] }, { accessFlags := 10, nameIndex := 13, descriptorIndex := 14, attributes := #[] }, { accessFlags := 10, nameIndex := 33, descriptorIndex := 34, attributes := #[] }, { accessFlags := 9, nameIndex := 38, descriptorIndex := 39, attributes := #[] }] 49 2 #[] #[])
  fields := #[]
  methods := #[k1m0, k1m1, k1m2, k1m3, k1m4]
  instanceTypes := #[]
  staticTypes := #[]
  resolved := Array.replicate 44 none
  statics := none }

def pool2 : Array CpInfo := pool [(1, .class_ 2), (0, u "java/io/Serializable"), (0, .class_ 4), (0, u "java/lang/Object")] 2

/-- java/io/Serializable -/
def k2 : Class := { plain "java/io/Serializable" (some 0) with
  accessFlags := 1537
  interfaces := #[]
  cf := some (fileOf pool2 1 #[] #[] 1537 3 #[] #[])
  fields := #[]
  methods := #[]
  instanceTypes := #[]
  staticTypes := #[]
  resolved := Array.replicate 7 none
  statics := none }

def pool3 : Array CpInfo := pool [(1, .class_ 2), (0, u "java/lang/Comparable"), (0, .class_ 4), (0, u "java/lang/Object")] 7

/-- java/lang/Comparable -/
def k3 : Class := { plain "java/lang/Comparable" (some 0) with
  accessFlags := 1537
  interfaces := #[]
  cf := some (fileOf pool3 1 #[] #[] 1537 3 #[] #[])
  fields := #[]
  methods := #[]
  instanceTypes := #[]
  staticTypes := #[]
  resolved := Array.replicate 12 none
  statics := none }

def pool4 : Array CpInfo := pool [(2, .class_ 4), (1, u "java/lang/CharSequence"), (42, .class_ 48), (0, u "java/lang/CharSequence$1CodePointIterator"), (10, .class_ 60), (0, u "java/lang/CharSequence$1CharIterator"), (5, .class_ 67), (0, u "java/lang/Object")] 63

/-- java/lang/CharSequence -/
def k4 : Class := { plain "java/lang/CharSequence" (some 0) with
  accessFlags := 1537
  interfaces := #[]
  cf := some (fileOf pool4 2 #[.nestMembers #[47, 59]] #[] 1537 66 #[] #[])
  fields := #[]
  methods := #[]
  instanceTypes := #[]
  staticTypes := #[]
  resolved := Array.replicate 131 none
  statics := none }

def pool5 : Array CpInfo := pool [(1, .class_ 2), (0, u "java/lang/constant/Constable"), (0, .class_ 4), (0, u "java/lang/Object")] 6

/-- java/lang/constant/Constable -/
def k5 : Class := { plain "java/lang/constant/Constable" (some 0) with
  accessFlags := 1537
  interfaces := #[]
  cf := some (fileOf pool5 1 #[] #[] 1537 3 #[] #[])
  fields := #[]
  methods := #[]
  instanceTypes := #[]
  staticTypes := #[]
  resolved := Array.replicate 11 none
  statics := none }

def pool6 : Array CpInfo := pool [(1, .class_ 2), (0, u "java/lang/constant/ConstantDesc"), (0, .class_ 4), (0, u "java/lang/Object")] 32

/-- java/lang/constant/ConstantDesc -/
def k6 : Class := { plain "java/lang/constant/ConstantDesc" (some 0) with
  accessFlags := 1537
  interfaces := #[]
  cf := some (fileOf pool6 1 #[] #[] 1537 3 #[] #[])
  fields := #[]
  methods := #[]
  instanceTypes := #[]
  staticTypes := #[]
  resolved := Array.replicate 37 none
  statics := none }

def pool7 : Array CpInfo := pool [(1, .methodref 2 3), (0, .class_ 4), (0, .nameAndType 5 6), (0, u "java/lang/Object"), (0, u "<init>"), (0, u "()V"), (2, .fieldref 10 11), (0, .class_ 12), (0, .nameAndType 13 14), (0, u "java/lang/String"), (0, u "value"), (0, u "[B"), (0, .fieldref 10 16), (0, .nameAndType 17 18), (0, u "coder"), (0, u "B"), (2, u "hash"), (0, u "I"), (2, u "hashIsZero"), (0, u "Z"), (0, .methodref 10 28), (0, .nameAndType 5 29), (0, u "([CIILjava/lang/Void;)V"), (8, .fieldref 10 39), (0, .nameAndType 40 26), (0, u "COMPACT_STRINGS"), (1, .class_ 44), (1, u "java/lang/StringUTF16"), (0, u "compress"), (1, .methodref 42 48), (0, .nameAndType 49 50), (0, u "coderFromArrayLen"), (0, u "([BI)B"), (56, .class_ 109), (1, u "java/lang/StringLatin1"), (32, u "()Z"), (34, .methodref 42 178), (0, .nameAndType 45 179), (0, u "([CII)[B"), (183, u "([BI)C"), (27, u "(II)V"), (35, u "(I)C"), (64, .methodref 10 493), (0, .nameAndType 494 142), (0, u "isLatin1"), (0, .methodref 107 496), (0, .nameAndType 497 363), (0, u "charAt"), (0, .methodref 42 496), (2, u "checkIndex"), (73, .class_ 576), (0, u "java/lang/CharSequence"), (22, u "CASE_INSENSITIVE_ORDER"), (0, u "Ljava/util/Comparator;"), (409, u "([C)V"), (42, .fieldref 1054 1055), (0, .class_ 1056), (0, .nameAndType 1057 1058), (0, u "jdk/internal/util/Preconditions"), (0, u "SIOOBE_FORMATTER"), (0, u "Ljava/util/function/BiFunction;"), (0, .methodref 1054 1060), (0, .nameAndType 501 1061), (0, u "(IILjava/util/function/BiFunction;)I"), (39, u "serialPersistentFields"), (0, u "[Ljava/io/ObjectStreamField;"), (0, .class_ 1104), (0, u "java/lang/String$CaseInsensitiveComparator"), (1, .class_ 1107), (0, u "java/io/Serializable"), (0, .class_ 1109), (0, u "java/lang/Comparable"), (0, .class_ 1111), (0, u "java/lang/constant/Constable"), (0, .class_ 1113), (0, u "java/lang/constant/ConstantDesc"), (2, u "serialVersionUID"), (0, u "J"), (3, u "REPL"), (0, u "C"), (2, u "LATIN1"), (1, u "UTF16")] 323

def k7m0 : Method := { name := "<init>", desc := "()V", sig := { parameters := [], returnType := none }, accessFlags := 1, code := none }
def k7c1 : Code := { maxStack := 5, maxLocals := 2, code := jdk_42_method_3_code, exceptionTable := #[], attributes := #[] }
def k7m1 : Method := { name := "<init>", desc := "([C)V", sig := { parameters := [(.array .char)], returnType := none }, accessFlags := 1, code := some k7c1 }
def k7c2 : Code := { maxStack := 2, maxLocals := 2, code := jdk_42_method_56_code, exceptionTable := #[], attributes := #[] }
def k7m2 : Method := { name := "charAt", desc := "(I)C", sig := { parameters := [.int], returnType := some .char }, accessFlags := 1, code := some k7c2 }
def k7c3 : Code := { maxStack := 4, maxLocals := 6, code := jdk_42_method_149_code, exceptionTable := #[], attributes := #[] }
def k7m3 : Method := { name := "<init>", desc := "([CIILjava/lang/Void;)V", sig := { parameters := [(.array .char), .int, .int, (.object "java/lang/Void")], returnType := none }, accessFlags := 2, code := some k7c3 }
def k7c4 : Code := { maxStack := 1, maxLocals := 1, code := jdk_42_method_154_code, exceptionTable := #[], attributes := #[] }
def k7m4 : Method := { name := "isLatin1", desc := "()Z", sig := { parameters := [], returnType := some .boolean }, accessFlags := 0, code := some k7c4 }
def k7c5 : Code := { maxStack := 3, maxLocals := 2, code := jdk_42_method_155_code, exceptionTable := #[], attributes := #[] }
def k7m5 : Method := { name := "checkIndex", desc := "(II)V", sig := { parameters := [.int, .int], returnType := none }, accessFlags := 8, code := some k7c5 }
/-- java/lang/String -/
def k7 : Class := { plain "java/lang/String" (some 0) with
  accessFlags := 49
  interfaces := #[2, 3, 4, 5, 6]
  cf := some (fileOf pool7 10 #[.nestMembers #[1103]] #[{ accessFlags := 1, nameIndex := 5, descriptorIndex := 6, attributes := #[] }, { accessFlags := 1, nameIndex := 5, descriptorIndex := 1010, attributes := #[] }, { accessFlags := 1, nameIndex := 497, descriptorIndex := 427, attributes := #[] }, { accessFlags := 2, nameIndex := 5, descriptorIndex := 29, attributes := #[] }, { accessFlags := 0, nameIndex := 494, descriptorIndex := 142, attributes := #[] }, { accessFlags := 8, nameIndex := 501, descriptorIndex := 391, attributes := #[] }] 49 2 #[1106, 1108, 575, 1110, 1112] #[{ accessFlags := 18, nameIndex := 13, descriptorIndex := 14, attributes := #[] }, { accessFlags := 18, nameIndex := 17, descriptorIndex := 18, attributes := #[] }, { accessFlags := 2, nameIndex := 21, descriptorIndex := 22, attributes := #[] }, { accessFlags := 2, nameIndex := 25, descriptorIndex := 26, attributes := #[] }, { accessFlags := 26, nameIndex := 1116, descriptorIndex := 1117, attributes := #[] }, { accessFlags := 24, nameIndex := 40, descriptorIndex := 26, attributes := #[] }, { accessFlags := 26, nameIndex := 1101, descriptorIndex := 1102, attributes := #[] }, { accessFlags := 26, nameIndex := 1121, descriptorIndex := 1122, attributes := #[] }, { accessFlags := 25, nameIndex := 599, descriptorIndex := 600, attributes := #[] }, { accessFlags := 24, nameIndex := 1125, descriptorIndex := 18, attributes := #[] }, { accessFlags := 24, nameIndex := 1127, descriptorIndex := 18, attributes := #[] }])
  fields := #[{ name := "value", type := (.array .byte), accessFlags := 18, slot := 0, constantValue := 0 }, { name := "coder", type := .byte, accessFlags := 18, slot := 1, constantValue := 0 }, { name := "hash", type := .int, accessFlags := 2, slot := 2, constantValue := 0 }, { name := "hashIsZero", type := .boolean, accessFlags := 2, slot := 3, constantValue := 0 }, { name := "serialVersionUID", type := .long, accessFlags := 26, slot := 0, constantValue := 0 }, { name := "COMPACT_STRINGS", type := .boolean, accessFlags := 24, slot := 1, constantValue := 0 }, { name := "serialPersistentFields", type := (.array (.object "java/io/ObjectStreamField")), accessFlags := 26, slot := 2, constantValue := 0 }, { name := "REPL", type := .char, accessFlags := 26, slot := 3, constantValue := 0 }, { name := "CASE_INSENSITIVE_ORDER", type := (.object "java/util/Comparator"), accessFlags := 25, slot := 4, constantValue := 0 }, { name := "LATIN1", type := .byte, accessFlags := 24, slot := 5, constantValue := 0 }, { name := "UTF16", type := .byte, accessFlags := 24, slot := 6, constantValue := 0 }]
  methods := #[k7m0, k7m1, k7m2, k7m3, k7m4, k7m5]
  instanceTypes := #[(.array .byte), .byte, .int, .boolean]
  staticTypes := #[.long, .boolean, (.array (.object "java/io/ObjectStreamField")), .char, (.object "java/util/Comparator"), .byte, .byte]
  resolved := Array.replicate 1451 none
  statics := some 0 }

def pool8 : Array CpInfo := pool [(3, .class_ 4), (0, u "java/lang/String"), (1, .class_ 8), (1, u "java/lang/Object"), (0, u "<init>"), (0, u "()V"), (0, .methodref 12 13), (0, .class_ 14), (0, .nameAndType 15 16), (0, u "java/lang/StringUTF16"), (0, u "newBytesLength"), (0, u "(I)I"), (3, .integer 1073741823), (23, .fieldref 12 45), (0, .nameAndType 46 47), (0, u "$assertionsDisabled"), (0, u "Z"), (0, .methodref 12 49), (0, .nameAndType 50 51), (0, u "length"), (0, u "([B)I"), (7, .fieldref 12 60), (0, .nameAndType 61 62), (0, u "HI_BYTE_SHIFT"), (0, u "I"), (0, .fieldref 12 64), (0, .nameAndType 65 62), (0, u "LO_BYTE_SHIFT"), (1, .methodref 12 68), (0, .nameAndType 69 70), (0, u "checkIndex"), (0, u "(I[B)V"), (0, .methodref 12 72), (0, .nameAndType 73 74), (0, u "getChar"), (0, u "([BI)C"), (32, .methodref 12 108), (0, .nameAndType 109 110), (0, u "newBytesFor"), (0, u "(I)[B"), (0, .methodref 12 112), (0, .nameAndType 113 114), (0, u "putChar"), (0, u "([BII)V"), (0, .methodref 12 116), (0, .nameAndType 117 118), (0, u "compress"), (0, u "([CI[BII)I"), (0, .methodref 12 120), (0, .nameAndType 121 122), (0, u "toBytes"), (0, u "([CII)[B"), (138, u "coderFromArrayLen"), (0, u "([BI)B"), (106, .class_ 371), (1, u "java/lang/StringUTF16$LinesSpliterator"), (20, u "charAt"), (21, .methodref 3 415), (0, .nameAndType 69 416), (0, u "(II)V"), (13, u "MAX_LENGTH"), (196, .class_ 628), (0, u "java/lang/StringUTF16$CodePointsSpliterator"), (0, .class_ 630), (0, u "java/lang/StringUTF16$CharsSpliterator")] 4

def k8m0 : Method := { name := "<init>", desc := "()V", sig := { parameters := [], returnType := none }, accessFlags := 0, code := none }
def k8c1 : Code := { maxStack := 1, maxLocals := 1, code := jdk_52_method_2_code, exceptionTable := #[], attributes := #[] }
def k8m1 : Method := { name := "newBytesFor", desc := "(I)[B", sig := { parameters := [.int], returnType := some (.array .byte) }, accessFlags := 9, code := some k8c1 }
def k8c2 : Code := { maxStack := 4, maxLocals := 1, code := jdk_52_method_3_code, exceptionTable := #[], attributes := #[] }
def k8m2 : Method := { name := "newBytesLength", desc := "(I)I", sig := { parameters := [.int], returnType := some .int }, accessFlags := 9, code := some k8c2 }
def k8c3 : Code := { maxStack := 4, maxLocals := 3, code := jdk_52_method_4_code, exceptionTable := #[], attributes := #[] }
def k8m3 : Method := { name := "putChar", desc := "([BII)V", sig := { parameters := [(.array .byte), .int, .int], returnType := none }, accessFlags := 8, code := some k8c3 }
def k8c4 : Code := { maxStack := 3, maxLocals := 2, code := jdk_52_method_5_code, exceptionTable := #[], attributes := #[] }
def k8m4 : Method := { name := "getChar", desc := "([BI)C", sig := { parameters := [(.array .byte), .int], returnType := some .char }, accessFlags := 8, code := some k8c4 }
def k8c5 : Code := { maxStack := 2, maxLocals := 1, code := jdk_52_method_6_code, exceptionTable := #[], attributes := #[] }
def k8m5 : Method := { name := "length", desc := "([B)I", sig := { parameters := [(.array .byte)], returnType := some .int }, accessFlags := 9, code := some k8c5 }
def k8c6 : Code := { maxStack := 4, maxLocals := 5, code := jdk_52_method_14_code, exceptionTable := #[], attributes := #[] }
def k8m6 : Method := { name := "toBytes", desc := "([CII)[B", sig := { parameters := [(.array .char), .int, .int], returnType := some (.array .byte) }, accessFlags := 9, code := some k8c6 }
def k8c7 : Code := { maxStack := 2, maxLocals := 2, code := jdk_52_method_15_code, exceptionTable := #[], attributes := #[] }
def k8m7 : Method := { name := "coderFromArrayLen", desc := "([BI)B", sig := { parameters := [(.array .byte), .int], returnType := some .byte }, accessFlags := 8, code := some k8c7 }
def k8c8 : Code := { maxStack := 5, maxLocals := 6, code := jdk_52_method_16_code, exceptionTable := #[], attributes := #[] }
def k8m8 : Method := { name := "compress", desc := "([CII)[B", sig := { parameters := [(.array .char), .int, .int], returnType := some (.array .byte) }, accessFlags := 9, code := some k8c8 }
def k8c9 : Code := { maxStack := 3, maxLocals := 7, code := jdk_52_method_21_code, exceptionTable := #[], attributes := #[] }
def k8m9 : Method := { name := "compress", desc := "([CI[BII)I", sig := { parameters := [(.array .char), .int, (.array .byte), .int, .int], returnType := some .int }, accessFlags := 9, code := some k8c9 }
def k8c10 : Code := { maxStack := 2, maxLocals := 2, code := jdk_52_method_83_code, exceptionTable := #[], attributes := #[] }
def k8m10 : Method := { name := "charAt", desc := "([BI)C", sig := { parameters := [(.array .byte), .int], returnType := some .char }, accessFlags := 9, code := some k8c10 }
def k8c11 : Code := { maxStack := 2, maxLocals := 2, code := jdk_52_method_91_code, exceptionTable := #[], attributes := #[] }
def k8m11 : Method := { name := "checkIndex", desc := "(I[B)V", sig := { parameters := [.int, (.array .byte)], returnType := none }, accessFlags := 9, code := some k8c11 }
/-- java/lang/StringUTF16 -/
def k8 : Class := { plain "java/lang/StringUTF16" (some 0) with
  accessFlags := 48
  interfaces := #[]
  cf := some (fileOf pool8 12 #[.nestMembers #[627, 629, 369]] #[{ accessFlags := 0, nameIndex := 9, descriptorIndex := 10, attributes := #[] }, { accessFlags := 9, nameIndex := 109, descriptorIndex := 110, attributes := #[] }, { accessFlags := 9, nameIndex := 15, descriptorIndex := 16, attributes := #[] }, { accessFlags := 8, nameIndex := 113, descriptorIndex := 114, attributes := #[] }, { accessFlags := 8, nameIndex := 73, descriptorIndex := 74, attributes := #[] }, { accessFlags := 9, nameIndex := 50, descriptorIndex := 51, attributes := #[] }, { accessFlags := 9, nameIndex := 121, descriptorIndex := 122, attributes := #[] }, { accessFlags := 8, nameIndex := 261, descriptorIndex := 262, attributes := #[] }, { accessFlags := 9, nameIndex := 117, descriptorIndex := 122, attributes := #[] }, { accessFlags := 9, nameIndex := 117, descriptorIndex := 118, attributes := #[] }, { accessFlags := 9, nameIndex := 392, descriptorIndex := 74, attributes := #[] }, { accessFlags := 9, nameIndex := 69, descriptorIndex := 70, attributes := #[] }] 48 6 #[] #[{ accessFlags := 26, nameIndex := 61, descriptorIndex := 62, attributes := #[] }, { accessFlags := 26, nameIndex := 65, descriptorIndex := 62, attributes := #[] }, { accessFlags := 24, nameIndex := 430, descriptorIndex := 62, attributes := #[] }, { accessFlags := 4120, nameIndex := 46, descriptorIndex := 47, attributes := #[] }])
  fields := #[{ name := "HI_BYTE_SHIFT", type := .int, accessFlags := 26, slot := 0, constantValue := 0 }, { name := "LO_BYTE_SHIFT", type := .int, accessFlags := 26, slot := 1, constantValue := 0 }, { name := "MAX_LENGTH", type := .int, accessFlags := 24, slot := 2, constantValue := 0 }, { name := "$assertionsDisabled", type := .boolean, accessFlags := 4120, slot := 3, constantValue := 0 }]
  methods := #[k8m0, k8m1, k8m2, k8m3, k8m4, k8m5, k8m6, k8m7, k8m8, k8m9, k8m10, k8m11]
  instanceTypes := #[]
  staticTypes := #[.int, .int, .int, .boolean]
  resolved := Array.replicate 635 none
  statics := some 1 }

def pool9 : Array CpInfo := pool [(2, .class_ 4), (1, u "java/lang/Object"), (3, .class_ 10), (1, u "com/example/encours/encours/engine/Money"), (0, u "cents"), (0, u "J"), (2, u "ZERO"), (0, u "Lcom/example/encours/encours/engine/Money;"), (4, .class_ 23), (1, u "java/lang/String"), (2, .methodref 21 27), (0, .nameAndType 28 29), (0, u "charAt"), (0, u "(I)C"), (6, u "isDigits"), (0, u "(Ljava/lang/String;II)Z"), (91, .class_ 130), (0, u "java/lang/Comparable"), (19, .class_ 151), (0, u "com/example/encours/encours/engine/Money$Total")] 24

def k9c0 : Code := { maxStack := 2, maxLocals := 5, code := prog_36_method_5_code, exceptionTable := #[], attributes := #[] }
def k9m0 : Method := { name := "isDigits", desc := "(Ljava/lang/String;II)Z", sig := { parameters := [(.object "java/lang/String"), .int, .int], returnType := some .boolean }, accessFlags := 9, code := some k9c0 }
/-- com/example/encours/encours/engine/Money -/
def k9 : Class := { plain "com/example/encours/encours/engine/Money" (some 0) with
  accessFlags := 33
  interfaces := #[3]
  cf := some (fileOf pool9 8 #[.nestMembers #[150]] #[{ accessFlags := 9, nameIndex := 36, descriptorIndex := 37, attributes := #[] }] 33 2 #[129] #[{ accessFlags := 25, nameIndex := 15, descriptorIndex := 16, attributes := #[] }, { accessFlags := 18, nameIndex := 11, descriptorIndex := 12, attributes := #[] }])
  fields := #[{ name := "ZERO", type := (.object "com/example/encours/encours/engine/Money"), accessFlags := 25, slot := 0, constantValue := 0 }, { name := "cents", type := .long, accessFlags := 18, slot := 0, constantValue := 0 }]
  methods := #[k9m0]
  instanceTypes := #[.long]
  staticTypes := #[(.object "com/example/encours/encours/engine/Money")]
  resolved := Array.replicate 176 none
  statics := none }

def pool10 : Array CpInfo := pool [(1, .class_ 2), (0, u "java/lang/String"), (1, .class_ 6), (1, u "java/lang/Object"), (0, u "<init>"), (0, u "()V"), (0, .methodref 1 10), (0, .nameAndType 11 12), (0, u "checkIndex"), (0, u "(II)V"), (1, .class_ 16), (1, u "java/lang/StringLatin1"), (36, u "([BI)C"), (67, u "$assertionsDisabled"), (0, u "Z"), (98, .class_ 223), (1, u "java/lang/StringLatin1$LinesSpliterator"), (28, u "charAt"), (137, .class_ 391), (0, u "java/lang/StringLatin1$CharsSpliterator")] 3

def k10m0 : Method := { name := "<init>", desc := "()V", sig := { parameters := [], returnType := none }, accessFlags := 0, code := none }
def k10c1 : Code := { maxStack := 2, maxLocals := 2, code := jdk_43_method_2_code, exceptionTable := #[], attributes := #[] }
def k10m1 : Method := { name := "charAt", desc := "([BI)C", sig := { parameters := [(.array .byte), .int], returnType := some .char }, accessFlags := 9, code := some k10c1 }
/-- java/lang/StringLatin1 -/
def k10 : Class := { plain "java/lang/StringLatin1" (some 0) with
  accessFlags := 48
  interfaces := #[]
  cf := some (fileOf pool10 14 #[.nestMembers #[390, 221]] #[{ accessFlags := 0, nameIndex := 7, descriptorIndex := 8, attributes := #[] }, { accessFlags := 9, nameIndex := 252, descriptorIndex := 53, attributes := #[] }] 48 4 #[] #[{ accessFlags := 4120, nameIndex := 121, descriptorIndex := 122, attributes := #[] }])
  fields := #[{ name := "$assertionsDisabled", type := .boolean, accessFlags := 4120, slot := 0, constantValue := 0 }]
  methods := #[k10m0, k10m1]
  instanceTypes := #[]
  staticTypes := #[.boolean]
  resolved := Array.replicate 395 none
  statics := none }

def pool11 : Array CpInfo := pool [(2, .class_ 4), (1, u "java/lang/Object"), (0, u "<init>"), (0, u "()V"), (17, .class_ 26), (1, u "jdk/internal/util/Preconditions"), (6, u "checkIndex"), (21, .class_ 56), (0, u "jdk/internal/util/Preconditions$4"), (57, .class_ 115), (0, u "jdk/internal/util/Preconditions$1"), (7, u "SIOOBE_FORMATTER"), (0, u "Ljava/util/function/BiFunction;"), (0, .class_ 126), (0, u "jdk/internal/util/Preconditions$2"), (3, u "AIOOBE_FORMATTER"), (0, .class_ 132), (0, u "jdk/internal/util/Preconditions$3"), (3, u "IOOBE_FORMATTER"), (41, u "(IILjava/util/function/BiFunction;)I")] 15

def k11m0 : Method := { name := "<init>", desc := "()V", sig := { parameters := [], returnType := none }, accessFlags := 1, code := none }
def k11c1 : Code := { maxStack := 3, maxLocals := 3, code := jdk_41_method_11_code, exceptionTable := #[], attributes := #[] }
def k11m1 : Method := { name := "checkIndex", desc := "(IILjava/util/function/BiFunction;)I", sig := { parameters := [.int, .int, (.object "java/util/function/BiFunction")], returnType := some .int }, accessFlags := 9, code := some k11c1 }
/-- jdk/internal/util/Preconditions -/
def k11 : Class := { plain "jdk/internal/util/Preconditions" (some 0) with
  accessFlags := 33
  interfaces := #[]
  cf := some (fileOf pool11 24 #[.nestMembers #[55, 131, 125, 114]] #[{ accessFlags := 1, nameIndex := 5, descriptorIndex := 6, attributes := #[] }, { accessFlags := 9, nameIndex := 33, descriptorIndex := 178, attributes := #[] }] 33 2 #[] #[{ accessFlags := 25, nameIndex := 123, descriptorIndex := 124, attributes := #[] }, { accessFlags := 25, nameIndex := 130, descriptorIndex := 124, attributes := #[] }, { accessFlags := 25, nameIndex := 136, descriptorIndex := 124, attributes := #[] }])
  fields := #[{ name := "SIOOBE_FORMATTER", type := (.object "java/util/function/BiFunction"), accessFlags := 25, slot := 0, constantValue := 0 }, { name := "AIOOBE_FORMATTER", type := (.object "java/util/function/BiFunction"), accessFlags := 25, slot := 1, constantValue := 0 }, { name := "IOOBE_FORMATTER", type := (.object "java/util/function/BiFunction"), accessFlags := 25, slot := 2, constantValue := 0 }]
  methods := #[k11m0, k11m1]
  instanceTypes := #[]
  staticTypes := #[(.object "java/util/function/BiFunction"), (.object "java/util/function/BiFunction"), (.object "java/util/function/BiFunction")]
  resolved := Array.replicate 194 none
  statics := some 2 }

def pool12 : Array CpInfo := pool [(9, u "<init>"), (6, .class_ 18), (1, u "java/lang/Object"), (0, u "()V"), (1, .class_ 23), (1, u "jdk/internal/util/ArraysSupport"), (0, u "LOG2_ARRAY_LONG_INDEX_SCALE"), (0, u "I"), (2, u "U"), (0, u "Ljdk/internal/misc/Unsafe;"), (8, u "BIG_ENDIAN"), (0, u "Z"), (8, u "LOG2_BYTE_BIT_SIZE"), (4, u "LOG2_ARRAY_INT_INDEX_SCALE"), (54, u "JLA"), (0, u "Ljdk/internal/access/JavaLangAccess;"), (11, u "LOG2_ARRAY_BOOLEAN_INDEX_SCALE"), (9, u "LOG2_ARRAY_BYTE_INDEX_SCALE"), (5, u "LOG2_ARRAY_CHAR_INDEX_SCALE"), (5, u "LOG2_ARRAY_SHORT_INDEX_SCALE"), (18, u "LOG2_ARRAY_FLOAT_INDEX_SCALE"), (24, u "LOG2_ARRAY_DOUBLE_INDEX_SCALE"), (89, u "T_BOOLEAN"), (2, u "T_CHAR"), (1, u "T_FLOAT"), (1, u "T_DOUBLE"), (1, u "T_BYTE"), (1, u "T_SHORT"), (1, u "T_INT"), (1, u "T_LONG"), (1, u "SOFT_MAX_ARRAY_LENGTH")] 83

def k12m0 : Method := { name := "<init>", desc := "()V", sig := { parameters := [], returnType := none }, accessFlags := 2, code := none }
/-- jdk/internal/util/ArraysSupport -/
def k12 : Class := { plain "jdk/internal/util/ArraysSupport" (some 0) with
  accessFlags := 33
  interfaces := #[]
  cf := some (fileOf pool12 21 #[] #[{ accessFlags := 2, nameIndex := 9, descriptorIndex := 19, attributes := #[] }] 33 16 #[] #[{ accessFlags := 24, nameIndex := 28, descriptorIndex := 29, attributes := #[] }, { accessFlags := 26, nameIndex := 38, descriptorIndex := 39, attributes := #[] }, { accessFlags := 25, nameIndex := 121, descriptorIndex := 25, attributes := #[] }, { accessFlags := 25, nameIndex := 131, descriptorIndex := 25, attributes := #[] }, { accessFlags := 25, nameIndex := 137, descriptorIndex := 25, attributes := #[] }, { accessFlags := 25, nameIndex := 143, descriptorIndex := 25, attributes := #[] }, { accessFlags := 25, nameIndex := 53, descriptorIndex := 25, attributes := #[] }, { accessFlags := 25, nameIndex := 24, descriptorIndex := 25, attributes := #[] }, { accessFlags := 25, nameIndex := 162, descriptorIndex := 25, attributes := #[] }, { accessFlags := 25, nameIndex := 187, descriptorIndex := 25, attributes := #[] }, { accessFlags := 26, nameIndex := 48, descriptorIndex := 25, attributes := #[] }, { accessFlags := 25, nameIndex := 277, descriptorIndex := 25, attributes := #[] }, { accessFlags := 25, nameIndex := 280, descriptorIndex := 25, attributes := #[] }, { accessFlags := 25, nameIndex := 282, descriptorIndex := 25, attributes := #[] }, { accessFlags := 25, nameIndex := 284, descriptorIndex := 25, attributes := #[] }, { accessFlags := 25, nameIndex := 286, descriptorIndex := 25, attributes := #[] }, { accessFlags := 25, nameIndex := 288, descriptorIndex := 25, attributes := #[] }, { accessFlags := 25, nameIndex := 290, descriptorIndex := 25, attributes := #[] }, { accessFlags := 25, nameIndex := 292, descriptorIndex := 25, attributes := #[] }, { accessFlags := 26, nameIndex := 108, descriptorIndex := 109, attributes := #[] }, { accessFlags := 25, nameIndex := 294, descriptorIndex := 25, attributes := #[] }])
  fields := #[{ name := "U", type := (.object "jdk/internal/misc/Unsafe"), accessFlags := 24, slot := 0, constantValue := 0 }, { name := "BIG_ENDIAN", type := .boolean, accessFlags := 26, slot := 1, constantValue := 0 }, { name := "LOG2_ARRAY_BOOLEAN_INDEX_SCALE", type := .int, accessFlags := 25, slot := 2, constantValue := 0 }, { name := "LOG2_ARRAY_BYTE_INDEX_SCALE", type := .int, accessFlags := 25, slot := 3, constantValue := 0 }, { name := "LOG2_ARRAY_CHAR_INDEX_SCALE", type := .int, accessFlags := 25, slot := 4, constantValue := 0 }, { name := "LOG2_ARRAY_SHORT_INDEX_SCALE", type := .int, accessFlags := 25, slot := 5, constantValue := 0 }, { name := "LOG2_ARRAY_INT_INDEX_SCALE", type := .int, accessFlags := 25, slot := 6, constantValue := 0 }, { name := "LOG2_ARRAY_LONG_INDEX_SCALE", type := .int, accessFlags := 25, slot := 7, constantValue := 0 }, { name := "LOG2_ARRAY_FLOAT_INDEX_SCALE", type := .int, accessFlags := 25, slot := 8, constantValue := 0 }, { name := "LOG2_ARRAY_DOUBLE_INDEX_SCALE", type := .int, accessFlags := 25, slot := 9, constantValue := 0 }, { name := "LOG2_BYTE_BIT_SIZE", type := .int, accessFlags := 26, slot := 10, constantValue := 0 }, { name := "T_BOOLEAN", type := .int, accessFlags := 25, slot := 11, constantValue := 0 }, { name := "T_CHAR", type := .int, accessFlags := 25, slot := 12, constantValue := 0 }, { name := "T_FLOAT", type := .int, accessFlags := 25, slot := 13, constantValue := 0 }, { name := "T_DOUBLE", type := .int, accessFlags := 25, slot := 14, constantValue := 0 }, { name := "T_BYTE", type := .int, accessFlags := 25, slot := 15, constantValue := 0 }, { name := "T_SHORT", type := .int, accessFlags := 25, slot := 16, constantValue := 0 }, { name := "T_INT", type := .int, accessFlags := 25, slot := 17, constantValue := 0 }, { name := "T_LONG", type := .int, accessFlags := 25, slot := 18, constantValue := 0 }, { name := "JLA", type := (.object "jdk/internal/access/JavaLangAccess"), accessFlags := 26, slot := 19, constantValue := 0 }, { name := "SOFT_MAX_ARRAY_LENGTH", type := .int, accessFlags := 25, slot := 20, constantValue := 0 }]
  methods := #[k12m0]
  instanceTypes := #[]
  staticTypes := #[(.object "jdk/internal/misc/Unsafe"), .boolean, .int, .int, .int, .int, .int, .int, .int, .int, .int, .int, .int, .int, .int, .int, .int, .int, .int, (.object "jdk/internal/access/JavaLangAccess"), .int]
  resolved := Array.replicate 378 none
  statics := none }

def pool13 : Array CpInfo := pool [(1, u "java/lang/Cloneable"), (0, .class_ 1), (0, u "java/lang/Object"), (0, .class_ 3)] 3

/-- java/lang/Cloneable -/
def k13 : Class := { plain "java/lang/Cloneable" (some 0) with
  accessFlags := 1537
  interfaces := #[]
  cf := some (fileOf pool13 2 #[] #[] 1537 4 #[] #[])
  fields := #[]
  methods := #[]
  instanceTypes := #[]
  staticTypes := #[]
  resolved := Array.replicate 8 none
  statics := none }

/-- the primitive byte -/
def k14 : Class := { plain "byte" none with kind := .primitive 'B', accessFlags := 0x411 }
/-- [B -/
def k15 : Class := { plain "[B" (some 0) with kind := .array 14 .byte, interfaces := #[13, 2], accessFlags := 1041 }

/-- the primitive char -/
def k16 : Class := { plain "char" none with kind := .primitive 'C', accessFlags := 0x411 }
/-- [C -/
def k17 : Class := { plain "[C" (some 0) with kind := .array 16 .char, interfaces := #[13, 2], accessFlags := 1041 }

/-- the primitive int -/
def k18 : Class := { plain "int" none with kind := .primitive 'I', accessFlags := 0x411 }
/-- [I -/
def k19 : Class := { plain "[I" (some 0) with kind := .array 18 .int, interfaces := #[13, 2], accessFlags := 1041 }

def heap : Heap := #[{ cls := 7, slots := #[.long 0, .int 1, .null, .int 0, .null, .int 0, .int 0], vm := .statics 7 },
  { cls := 8, slots := #[.int 0, .int 8, .int 0, .int 1], vm := .statics 8 },
  { cls := 11, slots := #[.null, .null, .null], vm := .statics 11 }]
def classes : Array Class := #[k0, k1, k2, k3, k4, k5, k6, k7, k8, k9, k10, k11, k12, k13, k14, k15, k16, k17, k18, k19]
def interned : List (Array UInt16 × Addr) := []
def slotsUsed : Nat := 14
def theMethod : MethodId := ⟨1, 4⟩
def args0 : Array Value := #[.int 5, .int 4, .int 3, .int 1, .int 2, .int 3]
def aboutOver (below : List Frame) : State where
  vm := { classes := classes, interned := interned.toArray }
  heap := heap
  slotsUsed := slotsUsed
  threads := #[{ frames := .invoking theMethod args0 :: below }]
def below0 : List Frame := [.native { method := ⟨0, 0⟩, args := #[] }]
def about1 : State := aboutOver below0
def p0 : Program := .bare "" "" ""
def e0 : Env := launch0.env 0 0 0
theorem w_frames : about1.frames = Frame.invoking theMethod args0 :: below0 := rfl
set_option maxRecDepth 65536 in
theorem w_args : argsFit about1.vm theMethod args0 = true := by decide +kernel
set_option maxRecDepth 65536 in
theorem w_heap : heapFits about1 = true := by decide +kernel
set_option maxRecDepth 65536 in
theorem w_runnable : about1.curStatus? = some .runnable := by decide +kernel
set_option maxRecDepth 65536 in
theorem w_alone : about1.alone = true := by decide +kernel
set_option maxRecDepth 65536 in
theorem w_named : about1.methodNamed? x = some theMethod := by decide +kernel
set_option maxRecDepth 65536 in
theorem w_hears : about1.hears theMethod below0 = true := by decide +kernel
set_option maxRecDepth 65536 in
theorem w_ripe : about1.ripe theMethod args0 below0 = true := by decide +kernel
theorem w_running : about1.status = .running := rfl
set_option maxRecDepth 65536 in
theorem w_room : about1.hasRoom e0.platform room_1 = true :=
  launch0.hasRoom_least _ room_1 (by decide +kernel) (by decide +kernel) (by decide +kernel) (by decide +kernel) (by decide +kernel) (by decide +kernel)
theorem allAtoms_all (ts : List Jvm.Cond) (a : Array Jvm.Value) (st : Jvm.State) : (allAtoms ts).before a st = ts.all (fun c => c.before a st) := by
  induction ts with
  | nil => rfl
  | cons c t ih =>
    show (Jvm.Cond.and c (allAtoms t)).before a st = _
    rw [Jvm.Cond.before_and, ih, List.all_cons]
def words1 : List Jvm.Cond := Jvm.Cond.code x code maxLocals ret :: tables_1
/-- a 'code' word, met by the world's own term for the bytes: nothing is compared byte by byte -/
theorem code_word {y : MethodName} {bytes : ByteArray} {mx : Nat} {rt : Option FieldType} {a : Array Value} {s : State} {m : MethodId} {meth : Method} {c : Code} (h1 : s.methodNamed? y = some m) (h2 : s.vm.method? m = some meth) (h3 : meth.code = some c) (h4 : c.code = bytes)
    (h5 : (c.maxLocals == mx && c.exceptionTable.isEmpty && decide (c.maxStack ≤ mostOperands) && decide (meth.sig.returnType = rt) && !meth.locks && decide (parseMethodDescriptor y.desc = some meth.sig)) = true) : (Jvm.Cond.code y bytes mx rt).before a s = true := by
  simp only [Bool.and_eq_true, beq_iff_eq, Bool.not_eq_true', decide_eq_true_eq] at h5
  obtain ⟨⟨⟨⟨⟨g1, g2⟩, g3⟩, g4⟩, g5⟩, g6⟩ := h5
  simp [Cond.before, Cond.holds, Cond.value, h1, h2, h3, h4, g1, g2, g3, g4, g5, g6]
def isCode : Jvm.Cond → Bool
  | .code _ _ _ _ => true
  | _ => false
theorem all_split {L : List Jvm.Cond} {P : Jvm.Cond → Bool} (h1 : L.all (fun c => isCode c || P c) = true) (h2 : ∀ c ∈ L.filter isCode, P c = true) : L.all P = true := by
  refine List.all_eq_true.mpr fun c hc => ?_
  have h := List.all_eq_true.mp h1 c hc
  rcases Bool.eq_false_or_eq_true (isCode c) with hi | hi
  · exact h2 c (List.mem_filter.mpr ⟨hc, hi⟩)
  · simpa [hi] using h
set_option maxRecDepth 65536 in
theorem w_c0 : (Jvm.Cond.code x code maxLocals ret).before args0 about1 = true := code_word (m := ⟨1, 4⟩) (meth := k1m4) (c := k1c4) (by decide +kernel) rfl rfl rfl (by decide +kernel)
set_option maxRecDepth 65536 in
theorem w_c1 : (Jvm.Cond.code ({ cls := "com/example/encours/encours/engine/MoneyIsDigitsPinLaw", name := "draw", desc := "(I)C" } : Jvm.MethodName) method_2_code (2 : Nat) (Option.some Jvm.ClassFile.FieldType.char)).before args0 about1 = true := code_word (m := ⟨1, 1⟩) (meth := k1m1) (c := k1c1) (by decide +kernel) rfl rfl rfl (by decide +kernel)
set_option maxRecDepth 65536 in
theorem w_c2 : (Jvm.Cond.code ({ cls := "java/lang/String", name := "<init>", desc := "([C)V" } : Jvm.MethodName) jdk_42_method_3_code (2 : Nat) (Option.none : Option Jvm.ClassFile.FieldType)).before args0 about1 = true := code_word (m := ⟨7, 1⟩) (meth := k7m1) (c := k7c1) (by decide +kernel) rfl rfl rfl (by decide +kernel)
set_option maxRecDepth 65536 in
theorem w_c3 : (Jvm.Cond.code ({ cls := "java/lang/String", name := "<init>", desc := "([CIILjava/lang/Void;)V" } : Jvm.MethodName) jdk_42_method_149_code (6 : Nat) (Option.none : Option Jvm.ClassFile.FieldType)).before args0 about1 = true := code_word (m := ⟨7, 3⟩) (meth := k7m3) (c := k7c3) (by decide +kernel) rfl rfl rfl (by decide +kernel)
set_option maxRecDepth 65536 in
theorem w_c4 : (Jvm.Cond.code ({ cls := "java/lang/Object", name := "<init>", desc := "()V" } : Jvm.MethodName) object_method_1_code (1 : Nat) (Option.none : Option Jvm.ClassFile.FieldType)).before args0 about1 = true := code_word (m := ⟨0, 0⟩) (meth := k0m0) (c := k0c0) (by decide +kernel) rfl rfl rfl (by decide +kernel)
set_option maxRecDepth 65536 in
theorem w_c5 : (Jvm.Cond.code ({ cls := "java/lang/StringUTF16", name := "compress", desc := "([CII)[B" } : Jvm.MethodName) jdk_52_method_16_code (6 : Nat) (Option.some (Jvm.ClassFile.FieldType.array Jvm.ClassFile.FieldType.byte))).before args0 about1 = true := code_word (m := ⟨8, 8⟩) (meth := k8m8) (c := k8c8) (by decide +kernel) rfl rfl rfl (by decide +kernel)
set_option maxRecDepth 65536 in
theorem w_c6 : (Jvm.Cond.code ({ cls := "java/lang/StringUTF16", name := "compress", desc := "([CI[BII)I" } : Jvm.MethodName) jdk_52_method_21_code (7 : Nat) (Option.some Jvm.ClassFile.FieldType.int)).before args0 about1 = true := code_word (m := ⟨8, 9⟩) (meth := k8m9) (c := k8c9) (by decide +kernel) rfl rfl rfl (by decide +kernel)
set_option maxRecDepth 65536 in
theorem w_c7 : (Jvm.Cond.code ({ cls := "java/lang/StringUTF16", name := "coderFromArrayLen", desc := "([BI)B" } : Jvm.MethodName) jdk_52_method_15_code (2 : Nat) (Option.some Jvm.ClassFile.FieldType.byte)).before args0 about1 = true := code_word (m := ⟨8, 7⟩) (meth := k8m7) (c := k8c7) (by decide +kernel) rfl rfl rfl (by decide +kernel)
set_option maxRecDepth 65536 in
theorem w_c8 : (Jvm.Cond.code ({ cls := "com/example/encours/encours/engine/MoneyIsDigitsPinLaw", name := "ok", desc := "(IIIC)Z" } : Jvm.MethodName) method_4_code (5 : Nat) (Option.some Jvm.ClassFile.FieldType.boolean)).before args0 about1 = true := code_word (m := ⟨1, 3⟩) (meth := k1m3) (c := k1c3) (by decide +kernel) rfl rfl rfl (by decide +kernel)
set_option maxRecDepth 65536 in
theorem w_c9 : (Jvm.Cond.code ({ cls := "com/example/encours/encours/engine/MoneyIsDigitsPinLaw", name := "digit", desc := "(C)Z" } : Jvm.MethodName) method_3_code (1 : Nat) (Option.some Jvm.ClassFile.FieldType.boolean)).before args0 about1 = true := code_word (m := ⟨1, 2⟩) (meth := k1m2) (c := k1c2) (by decide +kernel) rfl rfl rfl (by decide +kernel)
set_option maxRecDepth 65536 in
theorem w_c10 : (Jvm.Cond.code ({ cls := "com/example/encours/encours/engine/Money", name := "isDigits", desc := "(Ljava/lang/String;II)Z" } : Jvm.MethodName) prog_36_method_5_code (5 : Nat) (Option.some Jvm.ClassFile.FieldType.boolean)).before args0 about1 = true := code_word (m := ⟨9, 0⟩) (meth := k9m0) (c := k9c0) (by decide +kernel) rfl rfl rfl (by decide +kernel)
set_option maxRecDepth 65536 in
theorem w_c11 : (Jvm.Cond.code ({ cls := "java/lang/String", name := "charAt", desc := "(I)C" } : Jvm.MethodName) jdk_42_method_56_code (2 : Nat) (Option.some Jvm.ClassFile.FieldType.char)).before args0 about1 = true := code_word (m := ⟨7, 2⟩) (meth := k7m2) (c := k7c2) (by decide +kernel) rfl rfl rfl (by decide +kernel)
set_option maxRecDepth 65536 in
theorem w_c12 : (Jvm.Cond.code ({ cls := "java/lang/String", name := "isLatin1", desc := "()Z" } : Jvm.MethodName) jdk_42_method_154_code (1 : Nat) (Option.some Jvm.ClassFile.FieldType.boolean)).before args0 about1 = true := code_word (m := ⟨7, 4⟩) (meth := k7m4) (c := k7c4) (by decide +kernel) rfl rfl rfl (by decide +kernel)
set_option maxRecDepth 65536 in
theorem w_c13 : (Jvm.Cond.code ({ cls := "java/lang/StringLatin1", name := "charAt", desc := "([BI)C" } : Jvm.MethodName) jdk_43_method_2_code (2 : Nat) (Option.some Jvm.ClassFile.FieldType.char)).before args0 about1 = true := code_word (m := ⟨10, 1⟩) (meth := k10m1) (c := k10c1) (by decide +kernel) rfl rfl rfl (by decide +kernel)
set_option maxRecDepth 65536 in
theorem w_c14 : (Jvm.Cond.code ({ cls := "java/lang/String", name := "checkIndex", desc := "(II)V" } : Jvm.MethodName) jdk_42_method_155_code (2 : Nat) (Option.none : Option Jvm.ClassFile.FieldType)).before args0 about1 = true := code_word (m := ⟨7, 5⟩) (meth := k7m5) (c := k7c5) (by decide +kernel) rfl rfl rfl (by decide +kernel)
set_option maxRecDepth 65536 in
theorem w_c15 : (Jvm.Cond.code ({ cls := "jdk/internal/util/Preconditions", name := "checkIndex", desc := "(IILjava/util/function/BiFunction;)I" } : Jvm.MethodName) jdk_41_method_11_code (3 : Nat) (Option.some Jvm.ClassFile.FieldType.int)).before args0 about1 = true := code_word (m := ⟨11, 1⟩) (meth := k11m1) (c := k11c1) (by decide +kernel) rfl rfl rfl (by decide +kernel)
set_option maxRecDepth 65536 in
theorem w_c16 : (Jvm.Cond.code ({ cls := "java/lang/StringUTF16", name := "toBytes", desc := "([CII)[B" } : Jvm.MethodName) jdk_52_method_14_code (5 : Nat) (Option.some (Jvm.ClassFile.FieldType.array Jvm.ClassFile.FieldType.byte))).before args0 about1 = true := code_word (m := ⟨8, 6⟩) (meth := k8m6) (c := k8c6) (by decide +kernel) rfl rfl rfl (by decide +kernel)
set_option maxRecDepth 65536 in
theorem w_c17 : (Jvm.Cond.code ({ cls := "java/lang/StringUTF16", name := "newBytesFor", desc := "(I)[B" } : Jvm.MethodName) jdk_52_method_2_code (1 : Nat) (Option.some (Jvm.ClassFile.FieldType.array Jvm.ClassFile.FieldType.byte))).before args0 about1 = true := code_word (m := ⟨8, 1⟩) (meth := k8m1) (c := k8c1) (by decide +kernel) rfl rfl rfl (by decide +kernel)
set_option maxRecDepth 65536 in
theorem w_c18 : (Jvm.Cond.code ({ cls := "java/lang/StringUTF16", name := "newBytesLength", desc := "(I)I" } : Jvm.MethodName) jdk_52_method_3_code (1 : Nat) (Option.some Jvm.ClassFile.FieldType.int)).before args0 about1 = true := code_word (m := ⟨8, 2⟩) (meth := k8m2) (c := k8c2) (by decide +kernel) rfl rfl rfl (by decide +kernel)
set_option maxRecDepth 65536 in
theorem w_c19 : (Jvm.Cond.code ({ cls := "java/lang/StringUTF16", name := "putChar", desc := "([BII)V" } : Jvm.MethodName) jdk_52_method_4_code (3 : Nat) (Option.none : Option Jvm.ClassFile.FieldType)).before args0 about1 = true := code_word (m := ⟨8, 3⟩) (meth := k8m3) (c := k8c3) (by decide +kernel) rfl rfl rfl (by decide +kernel)
set_option maxRecDepth 65536 in
theorem w_c20 : (Jvm.Cond.code ({ cls := "java/lang/StringUTF16", name := "getChar", desc := "([BI)C" } : Jvm.MethodName) jdk_52_method_5_code (2 : Nat) (Option.some Jvm.ClassFile.FieldType.char)).before args0 about1 = true := code_word (m := ⟨8, 4⟩) (meth := k8m4) (c := k8c4) (by decide +kernel) rfl rfl rfl (by decide +kernel)
set_option maxRecDepth 65536 in
theorem w_c21 : (Jvm.Cond.code ({ cls := "java/lang/StringUTF16", name := "charAt", desc := "([BI)C" } : Jvm.MethodName) jdk_52_method_83_code (2 : Nat) (Option.some Jvm.ClassFile.FieldType.char)).before args0 about1 = true := code_word (m := ⟨8, 10⟩) (meth := k8m10) (c := k8c10) (by decide +kernel) rfl rfl rfl (by decide +kernel)
set_option maxRecDepth 65536 in
theorem w_c22 : (Jvm.Cond.code ({ cls := "java/lang/StringUTF16", name := "checkIndex", desc := "(I[B)V" } : Jvm.MethodName) jdk_52_method_91_code (2 : Nat) (Option.none : Option Jvm.ClassFile.FieldType)).before args0 about1 = true := code_word (m := ⟨8, 11⟩) (meth := k8m11) (c := k8c11) (by decide +kernel) rfl rfl rfl (by decide +kernel)
set_option maxRecDepth 65536 in
theorem w_c23 : (Jvm.Cond.code ({ cls := "java/lang/StringUTF16", name := "length", desc := "([B)I" } : Jvm.MethodName) jdk_52_method_6_code (1 : Nat) (Option.some Jvm.ClassFile.FieldType.int)).before args0 about1 = true := code_word (m := ⟨8, 5⟩) (meth := k8m5) (c := k8c5) (by decide +kernel) rfl rfl rfl (by decide +kernel)
def codes1 : List Jvm.Cond := [Jvm.Cond.code x code maxLocals ret, Jvm.Cond.code ({ cls := "com/example/encours/encours/engine/MoneyIsDigitsPinLaw", name := "draw", desc := "(I)C" } : Jvm.MethodName) method_2_code (2 : Nat) (Option.some Jvm.ClassFile.FieldType.char), Jvm.Cond.code ({ cls := "java/lang/String", name := "<init>", desc := "([C)V" } : Jvm.MethodName) jdk_42_method_3_code (2 : Nat) (Option.none : Option Jvm.ClassFile.FieldType), Jvm.Cond.code ({ cls := "java/lang/String", name := "<init>", desc := "([CIILjava/lang/Void;)V" } : Jvm.MethodName) jdk_42_method_149_code (6 : Nat) (Option.none : Option Jvm.ClassFile.FieldType), Jvm.Cond.code ({ cls := "java/lang/Object", name := "<init>", desc := "()V" } : Jvm.MethodName) object_method_1_code (1 : Nat) (Option.none : Option Jvm.ClassFile.FieldType), Jvm.Cond.code ({ cls := "java/lang/StringUTF16", name := "compress", desc := "([CII)[B" } : Jvm.MethodName) jdk_52_method_16_code (6 : Nat) (Option.some (Jvm.ClassFile.FieldType.array Jvm.ClassFile.FieldType.byte)), Jvm.Cond.code ({ cls := "java/lang/StringUTF16", name := "compress", desc := "([CI[BII)I" } : Jvm.MethodName) jdk_52_method_21_code (7 : Nat) (Option.some Jvm.ClassFile.FieldType.int), Jvm.Cond.code ({ cls := "java/lang/StringUTF16", name := "coderFromArrayLen", desc := "([BI)B" } : Jvm.MethodName) jdk_52_method_15_code (2 : Nat) (Option.some Jvm.ClassFile.FieldType.byte), Jvm.Cond.code ({ cls := "com/example/encours/encours/engine/MoneyIsDigitsPinLaw", name := "ok", desc := "(IIIC)Z" } : Jvm.MethodName) method_4_code (5 : Nat) (Option.some Jvm.ClassFile.FieldType.boolean), Jvm.Cond.code ({ cls := "com/example/encours/encours/engine/MoneyIsDigitsPinLaw", name := "digit", desc := "(C)Z" } : Jvm.MethodName) method_3_code (1 : Nat) (Option.some Jvm.ClassFile.FieldType.boolean), Jvm.Cond.code ({ cls := "com/example/encours/encours/engine/Money", name := "isDigits", desc := "(Ljava/lang/String;II)Z" } : Jvm.MethodName) prog_36_method_5_code (5 : Nat) (Option.some Jvm.ClassFile.FieldType.boolean), Jvm.Cond.code ({ cls := "java/lang/String", name := "charAt", desc := "(I)C" } : Jvm.MethodName) jdk_42_method_56_code (2 : Nat) (Option.some Jvm.ClassFile.FieldType.char), Jvm.Cond.code ({ cls := "java/lang/String", name := "isLatin1", desc := "()Z" } : Jvm.MethodName) jdk_42_method_154_code (1 : Nat) (Option.some Jvm.ClassFile.FieldType.boolean), Jvm.Cond.code ({ cls := "java/lang/StringLatin1", name := "charAt", desc := "([BI)C" } : Jvm.MethodName) jdk_43_method_2_code (2 : Nat) (Option.some Jvm.ClassFile.FieldType.char), Jvm.Cond.code ({ cls := "java/lang/String", name := "checkIndex", desc := "(II)V" } : Jvm.MethodName) jdk_42_method_155_code (2 : Nat) (Option.none : Option Jvm.ClassFile.FieldType), Jvm.Cond.code ({ cls := "jdk/internal/util/Preconditions", name := "checkIndex", desc := "(IILjava/util/function/BiFunction;)I" } : Jvm.MethodName) jdk_41_method_11_code (3 : Nat) (Option.some Jvm.ClassFile.FieldType.int), Jvm.Cond.code ({ cls := "java/lang/StringUTF16", name := "toBytes", desc := "([CII)[B" } : Jvm.MethodName) jdk_52_method_14_code (5 : Nat) (Option.some (Jvm.ClassFile.FieldType.array Jvm.ClassFile.FieldType.byte)), Jvm.Cond.code ({ cls := "java/lang/StringUTF16", name := "newBytesFor", desc := "(I)[B" } : Jvm.MethodName) jdk_52_method_2_code (1 : Nat) (Option.some (Jvm.ClassFile.FieldType.array Jvm.ClassFile.FieldType.byte)), Jvm.Cond.code ({ cls := "java/lang/StringUTF16", name := "newBytesLength", desc := "(I)I" } : Jvm.MethodName) jdk_52_method_3_code (1 : Nat) (Option.some Jvm.ClassFile.FieldType.int), Jvm.Cond.code ({ cls := "java/lang/StringUTF16", name := "putChar", desc := "([BII)V" } : Jvm.MethodName) jdk_52_method_4_code (3 : Nat) (Option.none : Option Jvm.ClassFile.FieldType), Jvm.Cond.code ({ cls := "java/lang/StringUTF16", name := "getChar", desc := "([BI)C" } : Jvm.MethodName) jdk_52_method_5_code (2 : Nat) (Option.some Jvm.ClassFile.FieldType.char), Jvm.Cond.code ({ cls := "java/lang/StringUTF16", name := "charAt", desc := "([BI)C" } : Jvm.MethodName) jdk_52_method_83_code (2 : Nat) (Option.some Jvm.ClassFile.FieldType.char), Jvm.Cond.code ({ cls := "java/lang/StringUTF16", name := "checkIndex", desc := "(I[B)V" } : Jvm.MethodName) jdk_52_method_91_code (2 : Nat) (Option.none : Option Jvm.ClassFile.FieldType), Jvm.Cond.code ({ cls := "java/lang/StringUTF16", name := "length", desc := "([B)I" } : Jvm.MethodName) jdk_52_method_6_code (1 : Nat) (Option.some Jvm.ClassFile.FieldType.int)]
set_option maxRecDepth 65536 in
theorem codes_eq : words1.filter isCode = codes1 := rfl
theorem w_codes : ∀ c ∈ words1.filter isCode, c.before args0 about1 = true := by
  rw [codes_eq]
  intro c hc
  simp only [codes1, List.mem_cons, List.not_mem_nil, or_false] at hc
  rcases hc with rfl | rfl | rfl | rfl | rfl | rfl | rfl | rfl | rfl | rfl | rfl | rfl | rfl | rfl | rfl | rfl | rfl | rfl | rfl | rfl | rfl | rfl | rfl | rfl
  · exact w_c0
  · exact w_c1
  · exact w_c2
  · exact w_c3
  · exact w_c4
  · exact w_c5
  · exact w_c6
  · exact w_c7
  · exact w_c8
  · exact w_c9
  · exact w_c10
  · exact w_c11
  · exact w_c12
  · exact w_c13
  · exact w_c14
  · exact w_c15
  · exact w_c16
  · exact w_c17
  · exact w_c18
  · exact w_c19
  · exact w_c20
  · exact w_c21
  · exact w_c22
  · exact w_c23
set_option maxRecDepth 65536 in
theorem w_t1 : (words1.take 24).all (fun c => isCode c || c.before args0 about1) = true := by decide +kernel
set_option maxRecDepth 65536 in
theorem w_t2 : ((words1.drop 24).take 24).all (fun c => isCode c || c.before args0 about1) = true := by decide +kernel
set_option maxRecDepth 65536 in
theorem w_t3 : (((words1.drop 24).drop 24).take 24).all (fun c => isCode c || c.before args0 about1) = true := by decide +kernel
set_option maxRecDepth 65536 in
theorem w_t4 : ((((words1.drop 24).drop 24).drop 24).take 24).all (fun c => isCode c || c.before args0 about1) = true := by decide +kernel
set_option maxRecDepth 65536 in
theorem w_t5 : ((((words1.drop 24).drop 24).drop 24).drop 24).all (fun c => isCode c || c.before args0 about1) = true := by decide +kernel
theorem w_tables : (allAtoms (Jvm.Cond.code x code maxLocals ret :: tables_1)).before args0 about1 = true := by
  rw [allAtoms_all]
  show words1.all (fun c => c.before args0 about1) = true
  refine all_split ?_ w_codes
  rw [← List.take_append_drop 24 words1, List.all_append, w_t1, ← List.take_append_drop 24 (words1.drop 24), List.all_append, w_t2, ← List.take_append_drop 24 ((words1.drop 24).drop 24), List.all_append, w_t3, ← List.take_append_drop 24 (((words1.drop 24).drop 24).drop 24), List.all_append, w_t4, w_t5]
  rfl
set_option maxRecDepth 65536 in
theorem w_rest : rest_1_c.before args0 about1 = true := by decide +kernel
set_option maxRecDepth 65536 in
theorem w_case : (Jvm.Cond.and given_1 narrow_1).before args0 about1 = true := by decide +kernel
theorem w_applies : (headSpec (Jvm.Cond.code x code maxLocals ret :: tables_1) room_1).applies x e0.platform about1 = true :=
  (Spec.applies_iff w_frames).mpr ⟨w_running, w_runnable, w_alone, w_named, w_hears, w_ripe, w_room, w_tables⟩
theorem atStart : AtStart classFile x code maxLocals ret World_1 tables_1 room_1 Calls_1 rest_1 Pre_1 launch0 p0 e0 about1 theMethod args0 below0 :=
  ⟨lists_1, trivial, launch0.admits_env _ _ _, launch0.least_env, fairChoices_fair.cas, fairChoices_fair.clock, w_frames, w_args, w_heap, w_applies, trivial, w_rest, w_case⟩
end start1
theorem witness_1 : WitnessClaimed_1 := ⟨start1.p0, start1.e0, start1.about1, start1.theMethod, start1.args0, start1.below0, start1.atStart⟩
end Jvm.Pilot.@@N@@
