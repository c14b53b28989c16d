import JvmDerived
import JvmDerived.Pilot.@@N@@Statement
import JvmDerived.Pilot.@@N@@Code
set_option linter.unusedVariables false
set_option linter.unusedSimpArgs false
namespace Jvm.RoadKit
open Sem ClassFile Op Lib Jvm.Stand Jvm.Free Jvm.LawKit
section New
variable {p : Program} {l : Launch} {e : Env} {R : Room} {s : State} {m : MethodId} {args : Array Value} {below : List Frame} {meth : Method} {c : Code} {T : State} {locs : List Loc} {cells slots : Nat}
theorem retI (X : Stand p l e R s m args below meth c T locs cells slots) (hx : p.tables.exec = Jvm.exec) {pc : Nat} {Ls : Array Slot} {z : Int32} {rest : List Value} (hret : meth.sig.returnType = some .int) (hd : decode c.code pc = .ok (.ireturn, 1)) {fs : List Frame}
    (hl : ∀ (f : JFrame) (acts : List Action), f.method = m → f.locked = none → f.entered = [] → (doReturn e (T.setTop f) acts (some (.int z))).1 = T.setFrames fs) : Steps p.tables e below (T.setTop (mkF m pc Ls (.int z :: rest))) (T.setFrames fs) := by
  have hm' : T.vm.method? m = some meth := X.method'
  have hn : narrow .int (.int z) = .int z := rfl
  show Steps p.tables e below (T.setTop { method := m, pc := pc, locals := Ls, stack := _ :: rest, locked := none }) _
  jvm_step X.here [X.here.top, hx, hd, hm', hret, hn]
  first | (intro acts; rw [hl _ acts rfl rfl rfl]) | rw [hl _ _ rfl rfl rfl]
  exact Steps.refl _
end New
/-- the run comes, from the state U, to an end at which Q holds -/
def Go (tb : Tables) (e : Env) (below : List Frame) (Q : Outcome → State → Prop) (U : State) : Prop := ∃ s₂ o, Steps tb e below U s₂ ∧ s₂.status = .running ∧ Ended s₂ below o ∧ Q o s₂
theorem Go.on {tb : Tables} {e : Env} {below : List Frame} {Q : Outcome → State → Prop} {A B : State} (h : ∀ t, Steps tb e below B t → Steps tb e below A t) (k : Go tb e below Q B) : Go tb e below Q A := by
  obtain ⟨s₂, o, h1, h2⟩ := k
  exact ⟨s₂, o, h _ h1, h2⟩
end Jvm.RoadKit
namespace Jvm.Pilot.@@N@@
open Jvm Jvm.ClassFile Sem Op Lib Jvm.Free Jvm.Stand Jvm.LawKit Jvm.RoadKit Bundle Jvm.Pilot.@@N@@.Jvm.D
theorem d1_0 : decode method_2_code 0 = .ok (.iload_n 0, 1) := by decide +kernel
theorem d1_1 : decode method_2_code 1 = .ok (.ifCond .ne 5, 3) := by decide +kernel
theorem d1_4 : decode method_2_code 4 = .ok (.lload_n 1, 1) := by decide +kernel
theorem d1_5 : decode method_2_code 5 = .ok (.lreturn, 1) := by decide +kernel
theorem d1_6 : decode method_2_code 6 = .ok (.iload_n 0, 1) := by decide +kernel
theorem d1_7 : decode method_2_code 7 = .ok (.iconst 1, 1) := by decide +kernel
theorem d1_8 : decode method_2_code 8 = .ok (.if_icmp .ne 9, 3) := by decide +kernel
theorem d1_11 : decode method_2_code 11 = .ok (.lload_n 1, 1) := by decide +kernel
theorem d1_12 : decode method_2_code 12 = .ok (.ldc2_w 7, 3) := by decide +kernel
theorem d1_15 : decode method_2_code 15 = .ok (.lrem, 1) := by decide +kernel
theorem d1_16 : decode method_2_code 16 = .ok (.lreturn, 1) := by decide +kernel
theorem d1_17 : decode method_2_code 17 = .ok (.iload_n 0, 1) := by decide +kernel
theorem d1_18 : decode method_2_code 18 = .ok (.iconst 2, 1) := by decide +kernel
theorem d1_19 : decode method_2_code 19 = .ok (.if_icmp .ne 9, 3) := by decide +kernel
theorem d1_22 : decode method_2_code 22 = .ok (.lload_n 1, 1) := by decide +kernel
theorem d1_23 : decode method_2_code 23 = .ok (.ldc2_w 9, 3) := by decide +kernel
theorem d1_26 : decode method_2_code 26 = .ok (.lrem, 1) := by decide +kernel
theorem d1_27 : decode method_2_code 27 = .ok (.lreturn, 1) := by decide +kernel
theorem d1_28 : decode method_2_code 28 = .ok (.lload_n 1, 1) := by decide +kernel
theorem d1_29 : decode method_2_code 29 = .ok (.lconst 1, 1) := by decide +kernel
theorem d1_30 : decode method_2_code 30 = .ok (.land, 1) := by decide +kernel
theorem d1_31 : decode method_2_code 31 = .ok (.lconst 0, 1) := by decide +kernel
theorem d1_32 : decode method_2_code 32 = .ok (.lcmp, 1) := by decide +kernel
theorem d1_33 : decode method_2_code 33 = .ok (.ifCond .ne 9, 3) := by decide +kernel
theorem d1_36 : decode method_2_code 36 = .ok (.ldc2_w 11, 3) := by decide +kernel
theorem d1_39 : decode method_2_code 39 = .ok (.goto 6, 3) := by decide +kernel
theorem d1_42 : decode method_2_code 42 = .ok (.ldc2_w 13, 3) := by decide +kernel
theorem d1_45 : decode method_2_code 45 = .ok (.lstore_n 3, 1) := by decide +kernel
theorem d1_46 : decode method_2_code 46 = .ok (.lload_n 3, 1) := by decide +kernel
theorem d1_47 : decode method_2_code 47 = .ok (.lload_n 1, 1) := by decide +kernel
theorem d1_48 : decode method_2_code 48 = .ok (.iconst 1, 1) := by decide +kernel
theorem d1_49 : decode method_2_code 49 = .ok (.lshr, 1) := by decide +kernel
theorem d1_50 : decode method_2_code 50 = .ok (.ldc2_w 15, 3) := by decide +kernel
theorem d1_53 : decode method_2_code 53 = .ok (.lrem, 1) := by decide +kernel
theorem d1_54 : decode method_2_code 54 = .ok (.ladd, 1) := by decide +kernel
theorem d1_55 : decode method_2_code 55 = .ok (.lreturn, 1) := by decide +kernel
theorem pn_2 : plainName "com/example/stricture/stricture/type/TypeKindHoldsPinLaw" = true := by first | (simp [plainName, overriddenIn]; done) | decide +kernel
theorem ef_rpick (m : MethodId) (p1 : Int32) (q2 : Int64) : entryFrame m #[(.int p1), (.long q2)] 5 = mkF m 0 #[.val (.int p1), .val (.long q2), .second, .unset, .unset] [] := by first | (simp [entryFrame, mkF, argsToLocals, Value.category]; done) | rfl
def Q_rpick (Z : State) (p1 : Int32) (q2 : Int64) (h0 : Heap) (n0 : Nat) (v : Option Value) (h : Heap) (L : List Loc) : Prop := (∃ r : Int64, v = some (.long r)) ∧ Fr n0 L ∧ h = h0
set_option maxRecDepth 65536 in
set_option maxHeartbeats 40000000 in
theorem rpick (l : Launch) (Z : State) (a0 : Array Value) (hw : ∀ d ∈ tables_1, d.before a0 Z = true) (ws : List Jvm.Cond) (p1 : Int32) (q2 : Int64) (h0 : Heap) (n0 : Nat) (Z0 : n0 ≤ h0.size)  :
    MetFree l (⟨"com/example/stricture/stricture/type/TypeKindHoldsPinLaw", "pickValue", "(IJ)J"⟩ : MethodName) (head1 (Jvm.Cond.code (⟨"com/example/stricture/stricture/type/TypeKindHoldsPinLaw", "pickValue", "(IJ)J"⟩ : MethodName) method_2_code 5 (some .long) :: ws) ({ frames := 0, cells := 0, slots := 0, locals := 0 } : Room)) (fun a U => a = #[(.int p1), (.long q2)] ∧ Z.Warmed39 U.vm ∧ U.heap = h0) (fun _ _ _ _ _ => True) (fun _ U o U' => ∃ v L, o = .returned v ∧ Q_rpick Z p1 q2 h0 n0 v U'.heap L ∧ FrameEnd U o U' L ({ frames := 0, cells := 0, slots := 0, locals := 0 } : Room).cells ({ frames := 0, cells := 0, slots := 0, locals := 0 } : Room).slots) := by
  refine MetFree.of_bodySF (plainFor_of_name pn_2) hisR ?_
  intro p e s m args below meth c s₁ Bd hml0 hP hK
  obtain ⟨rfl, hZ, hh⟩ := hP
  have hx := Bd.exec
  have hby := Bd.bytes
  have hml : c.maxLocals = 5 := hml0
  have hown : s.vm.findClass "com/example/stricture/stricture/type/TypeKindHoldsPinLaw" = some m.cls := findClass_of_methodNamed Bd.named
  have hnm := (name_of_methodNamed Bd.named Bd.method).1
  have X0 : Stand p l e ({ frames := 0, cells := 0, slots := 0, locals := 0 } : Room) s m #[(.int p1), (.long q2)] below meth c s₁ [] 0 0 := Stand.of_body Bd
  have e0 : s₁.heap = h0 := by rw [← hh, Bd.state]; rfl
  have N0 := Fr.nil n0
  have pre0 : ∀ t, Steps p.tables e below (s₁.setTop (mkF m 0 #[.val (.int p1), .val (.long q2), .second, .unset, .unset] [])) t → Steps p.tables e below (s₁.setTop (entryFrame m #[(.int p1), (.long q2)] 5)) t := fun t k => castTop (ef_rpick m p1 q2) k
  change Go p.tables e below (fun o U' => ∃ v L, o = .returned v ∧ Q_rpick Z p1 q2 h0 n0 v U'.heap L ∧ FrameEnd s o U' L ({ frames := 0, cells := 0, slots := 0, locals := 0 } : Room).cells ({ frames := 0, cells := 0, slots := 0, locals := 0 } : Room).slots) (s₁.setTop (entryFrame m #[(.int p1), (.long q2)] 5))
  refine Go.on pre0 ?_
  refine Go.on (B := s₁.setTop (mkF m 1 #[.val (.int p1), .val (.long q2), .second, .unset, .unset] [(.int p1)])) (fun t k => XS.iloadN X0.here hx rfl (hb hby d1_0) rfl k) ?_
  by_cases hc1_1 : p1 = (0 : Int32)
  · refine Go.on (B := s₁.setTop (mkF m 4 #[.val (.int p1), .val (.long q2), .second, .unset, .unset] [])) (fun t k => XS.ifNo X0.here hx rfl (hb hby d1_1) rfl ((if0 _ _).trans (teq hc1_1).2) k) ?_
    refine Go.on (B := s₁.setTop (mkF m 5 #[.val (.int p1), .val (.long q2), .second, .unset, .unset] [(.long q2)])) (fun t k => XS.lloadN X0.here hx rfl (hb hby d1_4) rfl k) ?_
    obtain ⟨fs, hr, hrun, hended, hW, hsame⟩ := X0.leave (v := some (.long q2)) (fun h => by rw [Bd.returns] at h; cases h)
    refine ⟨_, _, ?_, hrun, hended, _, _, rfl, ?_, ⟨_, rfl⟩, hW, hsame.mono (by decide) (by decide)⟩
    · exact retOut X0 hx Bd.returns rfl (Or.inr (Or.inl ⟨rfl, rfl, _, rfl⟩)) (hb hby d1_5) hr
    · show Q_rpick Z p1 q2 h0 n0 _ s₁.heap _
      rw [e0]
      exact ⟨⟨_, rfl⟩, N0, rfl⟩
  · refine Go.on (B := s₁.setTop (mkF m 6 #[.val (.int p1), .val (.long q2), .second, .unset, .unset] [])) (fun t k => XS.ifYes X0.here hx rfl (pc0 := 1) (pc' := 6) rfl (hb hby d1_1) rfl ((if0 _ _).trans (feq hc1_1).2) (by decide) (by decide) k) ?_
    refine Go.on (B := s₁.setTop (mkF m 7 #[.val (.int p1), .val (.long q2), .second, .unset, .unset] [(.int p1)])) (fun t k => XS.iloadN X0.here hx rfl (hb hby d1_6) rfl k) ?_
    refine Go.on (B := s₁.setTop (mkF m 8 #[.val (.int p1), .val (.long q2), .second, .unset, .unset] [(.int (1 : Int32)), (.int p1)])) (fun t k => XS.iconst X0.here hx rfl (hb hby d1_7) k) ?_
    by_cases hc8_2 : p1 = (1 : Int32)
    · refine Go.on (B := s₁.setTop (mkF m 11 #[.val (.int p1), .val (.long q2), .second, .unset, .unset] [])) (fun t k => XS.icmpNo X0.here hx rfl (hb hby d1_8) rfl (teq hc8_2).2 k) ?_
      refine Go.on (B := s₁.setTop (mkF m 12 #[.val (.int p1), .val (.long q2), .second, .unset, .unset] [(.long q2)])) (fun t k => XS.lloadN X0.here hx rfl (hb hby d1_11) rfl k) ?_
      refine Go.on (B := s₁.setTop (mkF m 15 #[.val (.int p1), .val (.long q2), .second, .unset, .unset] [(.long (300 : Int64)), (.long q2)])) (fun t k => X0.ldc2Long hx hown (mvT hZ (hw _ (List.mem_of_getElem? (i := 25) rfl))) (g := (mkF m 12 #[.val (.int p1), .val (.long q2), .second, .unset, .unset] [(.long q2)])) rfl (hb hby d1_12) _ k) ?_
      refine Go.on (B := s₁.setTop (mkF m 16 #[.val (.int p1), .val (.long q2), .second, .unset, .unset] [(.long (q2 - (q2 / (300 : Int64)) * (300 : Int64)))])) (fun t k => XS.lrem X0.here hx rfl (hb hby d1_15) rfl (by decide) k) ?_
      obtain ⟨fs, hr, hrun, hended, hW, hsame⟩ := X0.leave (v := some (.long (q2 - (q2 / (300 : Int64)) * (300 : Int64)))) (fun h => by rw [Bd.returns] at h; cases h)
      refine ⟨_, _, ?_, hrun, hended, _, _, rfl, ?_, ⟨_, rfl⟩, hW, hsame.mono (by decide) (by decide)⟩
      · exact retOut X0 hx Bd.returns rfl (Or.inr (Or.inl ⟨rfl, rfl, _, rfl⟩)) (hb hby d1_16) hr
      · show Q_rpick Z p1 q2 h0 n0 _ s₁.heap _
        rw [e0]
        exact ⟨⟨_, rfl⟩, N0, rfl⟩
    · refine Go.on (B := s₁.setTop (mkF m 17 #[.val (.int p1), .val (.long q2), .second, .unset, .unset] [])) (fun t k => XS.icmpYes X0.here hx rfl (pc0 := 8) (pc' := 17) rfl (hb hby d1_8) rfl (feq hc8_2).2 (by decide) (by decide) k) ?_
      refine Go.on (B := s₁.setTop (mkF m 18 #[.val (.int p1), .val (.long q2), .second, .unset, .unset] [(.int p1)])) (fun t k => XS.iloadN X0.here hx rfl (hb hby d1_17) rfl k) ?_
      refine Go.on (B := s₁.setTop (mkF m 19 #[.val (.int p1), .val (.long q2), .second, .unset, .unset] [(.int (2 : Int32)), (.int p1)])) (fun t k => XS.iconst X0.here hx rfl (hb hby d1_18) k) ?_
      by_cases hc19_3 : p1 = (2 : Int32)
      · refine Go.on (B := s₁.setTop (mkF m 22 #[.val (.int p1), .val (.long q2), .second, .unset, .unset] [])) (fun t k => XS.icmpNo X0.here hx rfl (hb hby d1_19) rfl (teq hc19_3).2 k) ?_
        refine Go.on (B := s₁.setTop (mkF m 23 #[.val (.int p1), .val (.long q2), .second, .unset, .unset] [(.long q2)])) (fun t k => XS.lloadN X0.here hx rfl (hb hby d1_22) rfl k) ?_
        refine Go.on (B := s₁.setTop (mkF m 26 #[.val (.int p1), .val (.long q2), .second, .unset, .unset] [(.long (70000 : Int64)), (.long q2)])) (fun t k => X0.ldc2Long hx hown (mvT hZ (hw _ (List.mem_of_getElem? (i := 18) rfl))) (g := (mkF m 23 #[.val (.int p1), .val (.long q2), .second, .unset, .unset] [(.long q2)])) rfl (hb hby d1_23) _ k) ?_
        refine Go.on (B := s₁.setTop (mkF m 27 #[.val (.int p1), .val (.long q2), .second, .unset, .unset] [(.long (q2 - (q2 / (70000 : Int64)) * (70000 : Int64)))])) (fun t k => XS.lrem X0.here hx rfl (hb hby d1_26) rfl (by decide) k) ?_
        obtain ⟨fs, hr, hrun, hended, hW, hsame⟩ := X0.leave (v := some (.long (q2 - (q2 / (70000 : Int64)) * (70000 : Int64)))) (fun h => by rw [Bd.returns] at h; cases h)
        refine ⟨_, _, ?_, hrun, hended, _, _, rfl, ?_, ⟨_, rfl⟩, hW, hsame.mono (by decide) (by decide)⟩
        · exact retOut X0 hx Bd.returns rfl (Or.inr (Or.inl ⟨rfl, rfl, _, rfl⟩)) (hb hby d1_27) hr
        · show Q_rpick Z p1 q2 h0 n0 _ s₁.heap _
          rw [e0]
          exact ⟨⟨_, rfl⟩, N0, rfl⟩
      · refine Go.on (B := s₁.setTop (mkF m 28 #[.val (.int p1), .val (.long q2), .second, .unset, .unset] [])) (fun t k => XS.icmpYes X0.here hx rfl (pc0 := 19) (pc' := 28) rfl (hb hby d1_19) rfl (feq hc19_3).2 (by decide) (by decide) k) ?_
        refine Go.on (B := s₁.setTop (mkF m 29 #[.val (.int p1), .val (.long q2), .second, .unset, .unset] [(.long q2)])) (fun t k => XS.lloadN X0.here hx rfl (hb hby d1_28) rfl k) ?_
        refine Go.on (B := s₁.setTop (mkF m 30 #[.val (.int p1), .val (.long q2), .second, .unset, .unset] [(.long (1 : Int64)), (.long q2)])) (fun t k => XS.lconst X0.here hx rfl (hb hby d1_29) k) ?_
        refine Go.on (B := s₁.setTop (mkF m 31 #[.val (.int p1), .val (.long q2), .second, .unset, .unset] [(.long (q2 &&& (1 : Int64)))])) (fun t k => XS.land X0.here hx rfl (hb hby d1_30) rfl k) ?_
        refine Go.on (B := s₁.setTop (mkF m 32 #[.val (.int p1), .val (.long q2), .second, .unset, .unset] [(.long (0 : Int64)), (.long (q2 &&& (1 : Int64)))])) (fun t k => XS.lconst X0.here hx rfl (hb hby d1_31) k) ?_
        refine Go.on (B := s₁.setTop (mkF m 33 #[.val (.int p1), .val (.long q2), .second, .unset, .unset] [(.int (lcmpW (q2 &&& (1 : Int64)) (0 : Int64)))])) (fun t k => XS.lcmp X0.here hx rfl (hb hby d1_32) rfl k) ?_
        have sg33_4 : ∀ (z33_a4 : Int64) (hz33_a4 : z33_a4 = (if (q2 &&& (1 : Int64)) = (0 : Int64) then (2147483647 : Int64) else (-2147483648 : Int64))), ∀ t, Steps p.tables e below (s₁.setTop (mkF m 45 #[.val (.int p1), .val (.long q2), .second, .unset, .unset] [(.long z33_a4)])) t → Steps p.tables e below (s₁.setTop (mkF m 33 #[.val (.int p1), .val (.long q2), .second, .unset, .unset] [(.int (lcmpW (q2 &&& (1 : Int64)) (0 : Int64)))])) t := by
          intro z33_a4 hz33_a4 t k
          show Steps p.tables e below (s₁.setTop (mkF m 33 #[.val (.int p1), .val (.long q2), .second, .unset, .unset] [(.int (lcmpW (q2 &&& (1 : Int64)) (0 : Int64)))])) _
          by_cases hc33_5 : (q2 &&& (1 : Int64)) = (0 : Int64)
          · first | rw [if_pos hc33_5] at hz33_a4 | skip
            refine XS.ifNo X0.here hx rfl (hb hby d1_33) rfl ((if0 _ _).trans (teq ((lw_eq _ _).mpr hc33_5)).2) ?_
            show Steps p.tables e below (s₁.setTop (mkF m 36 #[.val (.int p1), .val (.long q2), .second, .unset, .unset] [])) _
            refine X0.ldc2Long hx hown (mvT hZ (hw _ (List.mem_of_getElem? (i := 26) rfl))) (g := (mkF m 36 #[.val (.int p1), .val (.long q2), .second, .unset, .unset] [])) rfl (hb hby d1_36) _ ?_
            show Steps p.tables e below (s₁.setTop (mkF m 39 #[.val (.int p1), .val (.long q2), .second, .unset, .unset] [(.long (2147483647 : Int64))])) _
            refine XS.goto X0.here hx rfl (pc0 := 39) (pc' := 45) rfl (hb hby d1_39) (by decide) (by decide) ?_
            show Steps p.tables e below (s₁.setTop (mkF m 45 #[.val (.int p1), .val (.long q2), .second, .unset, .unset] [(.long (2147483647 : Int64))])) _
            subst hz33_a4
            exact k
          · first | rw [if_neg hc33_5] at hz33_a4 | skip
            refine XS.ifYes X0.here hx rfl (pc0 := 33) (pc' := 42) rfl (hb hby d1_33) rfl ((if0 _ _).trans (feq (mt (lw_eq _ _).mp hc33_5)).2) (by decide) (by decide) ?_
            show Steps p.tables e below (s₁.setTop (mkF m 42 #[.val (.int p1), .val (.long q2), .second, .unset, .unset] [])) _
            refine X0.ldc2Long hx hown (mvT hZ (hw _ (List.mem_of_getElem? (i := 21) rfl))) (g := (mkF m 42 #[.val (.int p1), .val (.long q2), .second, .unset, .unset] [])) rfl (hb hby d1_42) _ ?_
            show Steps p.tables e below (s₁.setTop (mkF m 45 #[.val (.int p1), .val (.long q2), .second, .unset, .unset] [(.long (-2147483648 : Int64))])) _
            subst hz33_a4
            exact k
        obtain ⟨z33_a4, hz33_a4⟩ : ∃ z, z = (if (q2 &&& (1 : Int64)) = (0 : Int64) then (2147483647 : Int64) else (-2147483648 : Int64)) := ⟨_, rfl⟩
        refine Go.on (sg33_4 z33_a4 hz33_a4) ?_
        refine Go.on (B := s₁.setTop (mkF m 46 #[.val (.int p1), .val (.long q2), .second, .val (.long z33_a4), .second] [])) (fun t k => XS.lstoreN X0.here hx rfl (hb hby d1_45) rfl (l' := #[.val (.int p1), .val (.long q2), .second, .val (.long z33_a4), .second]) rfl k) ?_
        refine Go.on (B := s₁.setTop (mkF m 47 #[.val (.int p1), .val (.long q2), .second, .val (.long z33_a4), .second] [(.long z33_a4)])) (fun t k => XS.lloadN X0.here hx rfl (hb hby d1_46) rfl k) ?_
        refine Go.on (B := s₁.setTop (mkF m 48 #[.val (.int p1), .val (.long q2), .second, .val (.long z33_a4), .second] [(.long q2), (.long z33_a4)])) (fun t k => XS.lloadN X0.here hx rfl (hb hby d1_47) rfl k) ?_
        refine Go.on (B := s₁.setTop (mkF m 49 #[.val (.int p1), .val (.long q2), .second, .val (.long z33_a4), .second] [(.int (1 : Int32)), (.long q2), (.long z33_a4)])) (fun t k => XS.iconst X0.here hx rfl (hb hby d1_48) k) ?_
        refine Go.on (B := s₁.setTop (mkF m 50 #[.val (.int p1), .val (.long q2), .second, .val (.long z33_a4), .second] [(.long (q2 >>> ((1 : Int32) &&& 0x3f).toInt64)), (.long z33_a4)])) (fun t k => XS.lshr X0.here hx rfl (hb hby d1_49) rfl k) ?_
        refine Go.on (B := s₁.setTop (mkF m 53 #[.val (.int p1), .val (.long q2), .second, .val (.long z33_a4), .second] [(.long (3 : Int64)), (.long (q2 >>> ((1 : Int32) &&& 0x3f).toInt64)), (.long z33_a4)])) (fun t k => X0.ldc2Long hx hown (mvT hZ (hw _ (List.mem_of_getElem? (i := 22) rfl))) (g := (mkF m 50 #[.val (.int p1), .val (.long q2), .second, .val (.long z33_a4), .second] [(.long (q2 >>> ((1 : Int32) &&& 0x3f).toInt64)), (.long z33_a4)])) rfl (hb hby d1_50) _ k) ?_
        refine Go.on (B := s₁.setTop (mkF m 54 #[.val (.int p1), .val (.long q2), .second, .val (.long z33_a4), .second] [(.long ((q2 >>> ((1 : Int32) &&& 0x3f).toInt64) - ((q2 >>> ((1 : Int32) &&& 0x3f).toInt64) / (3 : Int64)) * (3 : Int64))), (.long z33_a4)])) (fun t k => XS.lrem X0.here hx rfl (hb hby d1_53) rfl (by decide) k) ?_
        refine Go.on (B := s₁.setTop (mkF m 55 #[.val (.int p1), .val (.long q2), .second, .val (.long z33_a4), .second] [(.long (z33_a4 + ((q2 >>> ((1 : Int32) &&& 0x3f).toInt64) - ((q2 >>> ((1 : Int32) &&& 0x3f).toInt64) / (3 : Int64)) * (3 : Int64))))])) (fun t k => XS.ladd X0.here hx rfl (hb hby d1_54) rfl k) ?_
        obtain ⟨fs, hr, hrun, hended, hW, hsame⟩ := X0.leave (v := some (.long (z33_a4 + ((q2 >>> ((1 : Int32) &&& 0x3f).toInt64) - ((q2 >>> ((1 : Int32) &&& 0x3f).toInt64) / (3 : Int64)) * (3 : Int64))))) (fun h => by rw [Bd.returns] at h; cases h)
        refine ⟨_, _, ?_, hrun, hended, _, _, rfl, ?_, ⟨_, rfl⟩, hW, hsame.mono (by decide) (by decide)⟩
        · exact retOut X0 hx Bd.returns rfl (Or.inr (Or.inl ⟨rfl, rfl, _, rfl⟩)) (hb hby d1_55) hr
        · show Q_rpick Z p1 q2 h0 n0 _ s₁.heap _
          rw [e0]
          exact ⟨⟨_, rfl⟩, N0, rfl⟩
theorem d2_0 : decode prog_126_method_6_code 0 = .ok (.lload_n 1, 1) := by decide +kernel
theorem d2_1 : decode prog_126_method_6_code 1 = .ok (.aload_n 0, 1) := by decide +kernel
theorem d2_2 : decode prog_126_method_6_code 2 = .ok (.getfield 69, 3) := by decide +kernel
theorem d2_5 : decode prog_126_method_6_code 5 = .ok (.lcmp, 1) := by decide +kernel
theorem d2_6 : decode prog_126_method_6_code 6 = .ok (.ifCond .lt 16, 3) := by decide +kernel
theorem d2_9 : decode prog_126_method_6_code 9 = .ok (.lload_n 1, 1) := by decide +kernel
theorem d2_10 : decode prog_126_method_6_code 10 = .ok (.aload_n 0, 1) := by decide +kernel
theorem d2_11 : decode prog_126_method_6_code 11 = .ok (.getfield 73, 3) := by decide +kernel
theorem d2_14 : decode prog_126_method_6_code 14 = .ok (.lcmp, 1) := by decide +kernel
theorem d2_15 : decode prog_126_method_6_code 15 = .ok (.ifCond .gt 7, 3) := by decide +kernel
theorem d2_18 : decode prog_126_method_6_code 18 = .ok (.iconst 1, 1) := by decide +kernel
theorem d2_19 : decode prog_126_method_6_code 19 = .ok (.goto 4, 3) := by decide +kernel
theorem d2_22 : decode prog_126_method_6_code 22 = .ok (.iconst 0, 1) := by decide +kernel
theorem d2_23 : decode prog_126_method_6_code 23 = .ok (.ireturn, 1) := by decide +kernel
theorem pn_4 : plainName "com/example/stricture/stricture/type/TypeKind" = true := by first | (simp [plainName, overriddenIn]; done) | decide +kernel
theorem ef_rhold (m : MethodId) (a1 : Addr) (q2 : Int64) : entryFrame m #[(.ref a1), (.long q2)] 3 = mkF m 0 #[.val (.ref a1), .val (.long q2), .second] [] := by first | (simp [entryFrame, mkF, argsToLocals, Value.category]; done) | rfl
def Q_rhold (Z : State) (a1 : Addr) (q2 : Int64) (q3 q4 : Int64) (h0 : Heap) (n0 : Nat) (v : Option Value) (h : Heap) (L : List Loc) : Prop := v = some (.int (if q2 < q3 then (0 : Int32) else (if q4 < q2 then (0 : Int32) else (1 : Int32)))) ∧ Fr n0 L ∧ h = h0
set_option maxRecDepth 65536 in
set_option maxHeartbeats 40000000 in
theorem rhold (l : Launch) (Z : State) (a0 : Array Value) (hw : ∀ d ∈ tables_1, d.before a0 Z = true) (ws : List Jvm.Cond) (a1 : Addr) (q2 : Int64) (q3 q4 : Int64) (h0 : Heap) (n0 : Nat) (Z0 : n0 ≤ h0.size) (F_min : Fld Z h0 a1 "com/example/stricture/stricture/type/TypeKind" "min" "J" (.long q3)) (F_max : Fld Z h0 a1 "com/example/stricture/stricture/type/TypeKind" "max" "J" (.long q4)) :
    MetFree l (⟨"com/example/stricture/stricture/type/TypeKind", "holds", "(J)Z"⟩ : MethodName) (head1 (Jvm.Cond.code (⟨"com/example/stricture/stricture/type/TypeKind", "holds", "(J)Z"⟩ : MethodName) prog_126_method_6_code 3 (some .boolean) :: ws) ({ frames := 0, cells := 0, slots := 0, locals := 0 } : Room)) (fun a U => a = #[(.ref a1), (.long q2)] ∧ Z.Warmed39 U.vm ∧ U.heap = h0) (fun _ _ _ _ _ => True) (fun _ U o U' => ∃ v L, o = .returned v ∧ Q_rhold Z a1 q2 q3 q4 h0 n0 v U'.heap L ∧ FrameEnd U o U' L ({ frames := 0, cells := 0, slots := 0, locals := 0 } : Room).cells ({ frames := 0, cells := 0, slots := 0, locals := 0 } : Room).slots) := by
  refine MetFree.of_bodySF (plainFor_of_name pn_4) hisR ?_
  intro p e s m args below meth c s₁ Bd hml0 hP hK
  obtain ⟨rfl, hZ, hh⟩ := hP
  have hx := Bd.exec
  have hby := Bd.bytes
  have hml : c.maxLocals = 3 := hml0
  have hown : s.vm.findClass "com/example/stricture/stricture/type/TypeKind" = some m.cls := findClass_of_methodNamed Bd.named
  have hnm := (name_of_methodNamed Bd.named Bd.method).1
  have X0 : Stand p l e ({ frames := 0, cells := 0, slots := 0, locals := 0 } : Room) s m #[(.ref a1), (.long q2)] below meth c s₁ [] 0 0 := Stand.of_body Bd
  have e0 : s₁.heap = h0 := by rw [← hh, Bd.state]; rfl
  have N0 := Fr.nil n0
  have pre0 : ∀ t, Steps p.tables e below (s₁.setTop (mkF m 0 #[.val (.ref a1), .val (.long q2), .second] [])) t → Steps p.tables e below (s₁.setTop (entryFrame m #[(.ref a1), (.long q2)] 3)) t := fun t k => castTop (ef_rhold m a1 q2) k
  change Go p.tables e below (fun o U' => ∃ v L, o = .returned v ∧ Q_rhold Z a1 q2 q3 q4 h0 n0 v U'.heap L ∧ FrameEnd s o U' L ({ frames := 0, cells := 0, slots := 0, locals := 0 } : Room).cells ({ frames := 0, cells := 0, slots := 0, locals := 0 } : Room).slots) (s₁.setTop (entryFrame m #[(.ref a1), (.long q2)] 3))
  refine Go.on pre0 ?_
  refine Go.on (B := s₁.setTop (mkF m 1 #[.val (.ref a1), .val (.long q2), .second] [(.long q2)])) (fun t k => XS.lloadN X0.here hx rfl (hb hby d2_0) rfl k) ?_
  refine Go.on (B := s₁.setTop (mkF m 2 #[.val (.ref a1), .val (.long q2), .second] [(.ref a1), (.long q2)])) (fun t k => XS.aloadN X0.here hx rfl (hb hby d2_1) rfl rfl k) ?_
  obtain ⟨T1, X1, e1, st1⟩ := getF X0 hx hZ hown (host := "") (Or.inl (hw _ (List.mem_of_getElem? (i := 12) rfl))) Via.refl e0 F_min (g := (mkF m 2 #[.val (.ref a1), .val (.long q2), .second] [(.ref a1), (.long q2)])) rfl rfl (hb hby d2_2)
  refine Go.on (B := T1.setTop (mkF m 5 #[.val (.ref a1), .val (.long q2), .second] [(.long q3), (.long q2)])) (fun t k => st1 _ k) ?_
  refine Go.on (B := T1.setTop (mkF m 6 #[.val (.ref a1), .val (.long q2), .second] [(.int (lcmpW q2 q3))])) (fun t k => XS.lcmp X1.here hx rfl (hb hby d2_5) rfl k) ?_
  by_cases hc6_2 : q2 < q3
  · refine Go.on (B := T1.setTop (mkF m 22 #[.val (.ref a1), .val (.long q2), .second] [])) (fun t k => XS.ifYes X1.here hx rfl (pc0 := 6) (pc' := 22) rfl (hb hby d2_6) rfl ((if0 _ _).trans (tlt ((lw_lt _ _).mpr hc6_2)).1) (by decide) (by decide) k) ?_
    refine Go.on (B := T1.setTop (mkF m 23 #[.val (.ref a1), .val (.long q2), .second] [(.int (0 : Int32))])) (fun t k => XS.iconst X1.here hx rfl (hb hby d2_22) k) ?_
    obtain ⟨fs, hr, hrun, hended, hW, hsame⟩ := X1.leave (v := some (.int (0 : Int32))) (fun h => by rw [Bd.returns] at h; cases h)
    refine ⟨_, _, ?_, hrun, hended, _, _, rfl, ?_, ⟨_, rfl⟩, hW, hsame.mono (by decide) (by decide)⟩
    · exact retN X1 hx (t := .boolean) Bd.returns (by simp) (hb hby d2_23) hr
    · show Q_rhold Z a1 q2 q3 q4 h0 n0 _ T1.heap _
      rw [e1]
      exact ⟨by simp [hc6_2], N0, rfl⟩
  · refine Go.on (B := T1.setTop (mkF m 9 #[.val (.ref a1), .val (.long q2), .second] [])) (fun t k => XS.ifNo X1.here hx rfl (hb hby d2_6) rfl ((if0 _ _).trans (flt (mt (lw_lt _ _).mp hc6_2)).1) k) ?_
    refine Go.on (B := T1.setTop (mkF m 10 #[.val (.ref a1), .val (.long q2), .second] [(.long q2)])) (fun t k => XS.lloadN X1.here hx rfl (hb hby d2_9) rfl k) ?_
    refine Go.on (B := T1.setTop (mkF m 11 #[.val (.ref a1), .val (.long q2), .second] [(.ref a1), (.long q2)])) (fun t k => XS.aloadN X1.here hx rfl (hb hby d2_10) rfl rfl k) ?_
    obtain ⟨T3, X3, e3, st3⟩ := getF X1 hx hZ hown (host := "") (Or.inl (hw _ (List.mem_of_getElem? (i := 14) rfl))) Via.refl e1 F_max (g := (mkF m 11 #[.val (.ref a1), .val (.long q2), .second] [(.ref a1), (.long q2)])) rfl rfl (hb hby d2_11)
    refine Go.on (B := T3.setTop (mkF m 14 #[.val (.ref a1), .val (.long q2), .second] [(.long q4), (.long q2)])) (fun t k => st3 _ k) ?_
    refine Go.on (B := T3.setTop (mkF m 15 #[.val (.ref a1), .val (.long q2), .second] [(.int (lcmpW q2 q4))])) (fun t k => XS.lcmp X3.here hx rfl (hb hby d2_14) rfl k) ?_
    by_cases hc15_4 : q4 < q2
    · refine Go.on (B := T3.setTop (mkF m 22 #[.val (.ref a1), .val (.long q2), .second] [])) (fun t k => XS.ifYes X3.here hx rfl (pc0 := 15) (pc' := 22) rfl (hb hby d2_15) rfl ((if0 _ _).trans (tlt ((lw_gt _ _).mpr hc15_4)).2.2.1) (by decide) (by decide) k) ?_
      refine Go.on (B := T3.setTop (mkF m 23 #[.val (.ref a1), .val (.long q2), .second] [(.int (0 : Int32))])) (fun t k => XS.iconst X3.here hx rfl (hb hby d2_22) k) ?_
      obtain ⟨fs, hr, hrun, hended, hW, hsame⟩ := X3.leave (v := some (.int (0 : Int32))) (fun h => by rw [Bd.returns] at h; cases h)
      refine ⟨_, _, ?_, hrun, hended, _, _, rfl, ?_, ⟨_, rfl⟩, hW, hsame.mono (by decide) (by decide)⟩
      · exact retN X3 hx (t := .boolean) Bd.returns (by simp) (hb hby d2_23) hr
      · show Q_rhold Z a1 q2 q3 q4 h0 n0 _ T3.heap _
        rw [e3]
        exact ⟨by simp [hc6_2, hc15_4], N0, rfl⟩
    · refine Go.on (B := T3.setTop (mkF m 18 #[.val (.ref a1), .val (.long q2), .second] [])) (fun t k => XS.ifNo X3.here hx rfl (hb hby d2_15) rfl ((if0 _ _).trans (flt (mt (lw_gt _ _).mp hc15_4)).2.2.1) k) ?_
      refine Go.on (B := T3.setTop (mkF m 19 #[.val (.ref a1), .val (.long q2), .second] [(.int (1 : Int32))])) (fun t k => XS.iconst X3.here hx rfl (hb hby d2_18) k) ?_
      refine Go.on (B := T3.setTop (mkF m 23 #[.val (.ref a1), .val (.long q2), .second] [(.int (1 : Int32))])) (fun t k => XS.goto X3.here hx rfl (pc0 := 19) (pc' := 23) rfl (hb hby d2_19) (by decide) (by decide) k) ?_
      obtain ⟨fs, hr, hrun, hended, hW, hsame⟩ := X3.leave (v := some (.int (1 : Int32))) (fun h => by rw [Bd.returns] at h; cases h)
      refine ⟨_, _, ?_, hrun, hended, _, _, rfl, ?_, ⟨_, rfl⟩, hW, hsame.mono (by decide) (by decide)⟩
      · exact retN X3 hx (t := .boolean) Bd.returns (by simp) (hb hby d2_23) hr
      · show Q_rhold Z a1 q2 q3 q4 h0 n0 _ T3.heap _
        rw [e3]
        exact ⟨by simp [hc6_2, hc15_4], N0, rfl⟩
theorem own_b (v : Int64) : (if v < (-128 : Int64) then (0 : Int32) else (if (127 : Int64) < v then (0 : Int32) else (1 : Int32))) = (if ((((v.toInt32)).toInt8.toInt32).toInt64) = v then (1 : Int32) else (0 : Int32)) := by
  have r := rng64 v
  have k1 := c_l2i v
  have r1 := rng32 v.toInt32
  have k2 := c_i2b v.toInt32
  have m1 : (-128 : Int64).toInt = -128 := by decide
  have m2 : (127 : Int64).toInt = 127 := by decide
  have hiff : ((((v.toInt32)).toInt8.toInt32).toInt64) = v ↔ ¬ v < (-128 : Int64) ∧ ¬ (127 : Int64) < v := by
    rw [← Int64.toInt_inj, c_i2l, Int64.lt_iff_toInt_lt, Int64.lt_iff_toInt_lt, m1, m2]
    omega
  by_cases h1 : v < (-128 : Int64)
  · rw [if_pos h1, if_neg (fun q => (hiff.mp q).1 h1)]
  · rw [if_neg h1]
    by_cases h2 : (127 : Int64) < v
    · rw [if_pos h2, if_neg (fun q => (hiff.mp q).2 h2)]
    · rw [if_neg h2, if_pos (hiff.mpr ⟨h1, h2⟩)]
theorem own_s (v : Int64) : (if v < (-32768 : Int64) then (0 : Int32) else (if (32767 : Int64) < v then (0 : Int32) else (1 : Int32))) = (if ((((v.toInt32)).toInt16.toInt32).toInt64) = v then (1 : Int32) else (0 : Int32)) := by
  have r := rng64 v
  have k1 := c_l2i v
  have r1 := rng32 v.toInt32
  have k2 := c_i2s v.toInt32
  have m1 : (-32768 : Int64).toInt = -32768 := by decide
  have m2 : (32767 : Int64).toInt = 32767 := by decide
  have hiff : ((((v.toInt32)).toInt16.toInt32).toInt64) = v ↔ ¬ v < (-32768 : Int64) ∧ ¬ (32767 : Int64) < v := by
    rw [← Int64.toInt_inj, c_i2l, Int64.lt_iff_toInt_lt, Int64.lt_iff_toInt_lt, m1, m2]
    omega
  by_cases h1 : v < (-32768 : Int64)
  · rw [if_pos h1, if_neg (fun q => (hiff.mp q).1 h1)]
  · rw [if_neg h1]
    by_cases h2 : (32767 : Int64) < v
    · rw [if_pos h2, if_neg (fun q => (hiff.mp q).2 h2)]
    · rw [if_neg h2, if_pos (hiff.mpr ⟨h1, h2⟩)]
theorem own_i (v : Int64) : (if v < (-2147483648 : Int64) then (0 : Int32) else (if (2147483647 : Int64) < v then (0 : Int32) else (1 : Int32))) = (if ((v.toInt32).toInt64) = v then (1 : Int32) else (0 : Int32)) := by
  have r := rng64 v
  have k1 := c_l2i v
  have r1 := rng32 v.toInt32

  have m1 : (-2147483648 : Int64).toInt = -2147483648 := by decide
  have m2 : (2147483647 : Int64).toInt = 2147483647 := by decide
  have hiff : ((v.toInt32).toInt64) = v ↔ ¬ v < (-2147483648 : Int64) ∧ ¬ (2147483647 : Int64) < v := by
    rw [← Int64.toInt_inj, c_i2l, Int64.lt_iff_toInt_lt, Int64.lt_iff_toInt_lt, m1, m2]
    omega
  by_cases h1 : v < (-2147483648 : Int64)
  · rw [if_pos h1, if_neg (fun q => (hiff.mp q).1 h1)]
  · rw [if_neg h1]
    by_cases h2 : (2147483647 : Int64) < v
    · rw [if_pos h2, if_neg (fun q => (hiff.mp q).2 h2)]
    · rw [if_neg h2, if_pos (hiff.mpr ⟨h1, h2⟩)]
theorem own_g (v : Int64) : (if v < (-9223372036854775808 : Int64) then (0 : Int32) else (if (9223372036854775807 : Int64) < v then (0 : Int32) else (1 : Int32))) = (1 : Int32) := by
  have r := rng64 v
  have m1 : (-9223372036854775808 : Int64).toInt = -9223372036854775808 := by decide
  have m2 : (9223372036854775807 : Int64).toInt = 9223372036854775807 := by decide
  rw [if_neg (by rw [Int64.lt_iff_toInt_lt, m1]; omega), if_neg (by rw [Int64.lt_iff_toInt_lt, m2]; omega)]
theorem own_fl {args : Array Value} {s : State} {t : Term} {C n d : String} {k : Int64} {x : Addr} (ht : t.eval args s none [] s = some (.ref x)) (h : (Jvm.Cond.eq (Term.field t C n d) (Term.long k)).value args s none s [] = some true) : s.fieldOf? x C n d = some (.long k) := by
  obtain ⟨u, w, h1, h2, h3, h4⟩ := cmp_v (Or.inl h)
  have e : w = .long k := (Option.some.inj (h2.symm.trans (long_at k)))
  subst e
  obtain ⟨z, rfl⟩ : ∃ z, u = .long z := h4
  have q := gotT (eq_L h1 h2) h
  rw [← fld_at ht, h1, q]
theorem pd_0 : parseMethodDescriptor "(IJ)J" = some ⟨[.int, .long], some .long⟩ := by decide +kernel
theorem pd_1 : parseMethodDescriptor "(J)Z" = some ⟨[.long], some .boolean⟩ := by decide +kernel
theorem ef_rm0 (m : MethodId) (p1 : Int32) (q2 : Int64) : entryFrame m #[(.int p1), (.long q2)] maxLocals = mkF m 0 #[.val (.int p1), .val (.long q2), .second, .unset, .unset, .unset, .unset, .unset, .unset] [] := by first | (simp [entryFrame, mkF, argsToLocals, Value.category, maxLocals]; done) | rfl
def Q_rm0 (Z : State) (p1 : Int32) (q2 : Int64) (a_BYTEINT a_SMALLINT a_INTEGER a_BIGINT : Addr) (h0 : Heap) (n0 : Nat) (v : Option Value) (h : Heap) (L : List Loc) : Prop := v = some (.int 1) ∧ Fr n0 L
set_option maxRecDepth 65536 in
set_option maxHeartbeats 40000000 in
theorem rm0 (l : Launch) (Z : State) (a0 : Array Value) (hw : ∀ d ∈ tables_1, d.before a0 Z = true) (ws : List Jvm.Cond) (p1 : Int32) (q2 : Int64) (a_BYTEINT a_SMALLINT a_INTEGER a_BIGINT : Addr) (h0 : Heap) (n0 : Nat) (Z0 : n0 ≤ h0.size) (S_BYTEINT : Sta Z h0 "com/example/stricture/stricture/type/TypeKind" "BYTEINT" "Lcom/example/stricture/stricture/type/TypeKind;" (.ref a_BYTEINT)) (E_BYTEINT : Exa Z h0 a_BYTEINT "com/example/stricture/stricture/type/TypeKind") (N_BYTEINT : Fld Z h0 a_BYTEINT "com/example/stricture/stricture/type/TypeKind" "min" "J" (.long (-128 : Int64))) (M_BYTEINT : Fld Z h0 a_BYTEINT "com/example/stricture/stricture/type/TypeKind" "max" "J" (.long (127 : Int64))) (S_SMALLINT : Sta Z h0 "com/example/stricture/stricture/type/TypeKind" "SMALLINT" "Lcom/example/stricture/stricture/type/TypeKind;" (.ref a_SMALLINT)) (E_SMALLINT : Exa Z h0 a_SMALLINT "com/example/stricture/stricture/type/TypeKind") (N_SMALLINT : Fld Z h0 a_SMALLINT "com/example/stricture/stricture/type/TypeKind" "min" "J" (.long (-32768 : Int64))) (M_SMALLINT : Fld Z h0 a_SMALLINT "com/example/stricture/stricture/type/TypeKind" "max" "J" (.long (32767 : Int64))) (S_INTEGER : Sta Z h0 "com/example/stricture/stricture/type/TypeKind" "INTEGER" "Lcom/example/stricture/stricture/type/TypeKind;" (.ref a_INTEGER)) (E_INTEGER : Exa Z h0 a_INTEGER "com/example/stricture/stricture/type/TypeKind") (N_INTEGER : Fld Z h0 a_INTEGER "com/example/stricture/stricture/type/TypeKind" "min" "J" (.long (-2147483648 : Int64))) (M_INTEGER : Fld Z h0 a_INTEGER "com/example/stricture/stricture/type/TypeKind" "max" "J" (.long (2147483647 : Int64))) (S_BIGINT : Sta Z h0 "com/example/stricture/stricture/type/TypeKind" "BIGINT" "Lcom/example/stricture/stricture/type/TypeKind;" (.ref a_BIGINT)) (E_BIGINT : Exa Z h0 a_BIGINT "com/example/stricture/stricture/type/TypeKind") (N_BIGINT : Fld Z h0 a_BIGINT "com/example/stricture/stricture/type/TypeKind" "min" "J" (.long (-9223372036854775808 : Int64))) (M_BIGINT : Fld Z h0 a_BIGINT "com/example/stricture/stricture/type/TypeKind" "max" "J" (.long (9223372036854775807 : Int64))) :
    MetFree l x (head1 (Jvm.Cond.code x code maxLocals ret :: ws) room_1) (fun a U => a = #[(.int p1), (.long q2)] ∧ Z.Warmed39 U.vm ∧ U.heap = h0) (fun _ _ _ _ _ => True) (fun _ U o U' => ∃ v L, o = .returned v ∧ Q_rm0 Z p1 q2 a_BYTEINT a_SMALLINT a_INTEGER a_BIGINT h0 n0 v U'.heap L ∧ FrameEnd U o U' L room_1.cells room_1.slots) := by
  refine MetFree.of_bodySF (plainFor_of_name pn_2) hisR ?_
  intro p e s m args below meth c s₁ Bd hml0 hP hK
  obtain ⟨rfl, hZ, hh⟩ := hP
  have hx := Bd.exec
  have hby := Bd.bytes
  have hml : c.maxLocals = 9 := hml0
  have hown : s.vm.findClass "com/example/stricture/stricture/type/TypeKindHoldsPinLaw" = some m.cls := findClass_of_methodNamed Bd.named
  have hnm := (name_of_methodNamed Bd.named Bd.method).1
  have X0 : Stand p l e room_1 s m #[(.int p1), (.long q2)] below meth c s₁ [] 0 0 := Stand.of_body Bd
  have e0 : s₁.heap = h0 := by rw [← hh, Bd.state]; rfl
  have N0 := Fr.nil n0
  have pre0 : ∀ t, Steps p.tables e below (s₁.setTop (mkF m 0 #[.val (.int p1), .val (.long q2), .second, .unset, .unset, .unset, .unset, .unset, .unset] [])) t → Steps p.tables e below (s₁.setTop (entryFrame m #[(.int p1), (.long q2)] maxLocals)) t := fun t k => castTop (ef_rm0 m p1 q2) k
  change Go p.tables e below (fun o U' => ∃ v L, o = .returned v ∧ Q_rm0 Z p1 q2 a_BYTEINT a_SMALLINT a_INTEGER a_BIGINT h0 n0 v U'.heap L ∧ FrameEnd s o U' L room_1.cells room_1.slots) (s₁.setTop (entryFrame m #[(.int p1), (.long q2)] maxLocals))
  refine Go.on pre0 ?_
  refine Go.on (B := s₁.setTop (mkF m 1 #[.val (.int p1), .val (.long q2), .second, .unset, .unset, .unset, .unset, .unset, .unset] [(.int p1)])) (fun t k => XS.iloadN X0.here hx rfl (hb hby at_0) rfl k) ?_
  refine Go.on (B := s₁.setTop (mkF m 2 #[.val (.int p1), .val (.long q2), .second, .unset, .unset, .unset, .unset, .unset, .unset] [(.int (3 : Int32)), (.int p1)])) (fun t k => XS.iconst X0.here hx rfl (hb hby at_1) k) ?_
  refine Go.on (B := s₁.setTop (mkF m 3 #[.val (.int p1), .val (.long q2), .second, .unset, .unset, .unset, .unset, .unset, .unset] [(.int (p1 &&& (3 : Int32)))])) (fun t k => XS.iand X0.here hx rfl (hb hby at_2) rfl k) ?_
  generalize hv3_1 : (p1 &&& (3 : Int32)) = v3_1
  refine Go.on (B := s₁.setTop (mkF m 4 #[.val (.int p1), .val (.long q2), .second, .val (.int v3_1), .unset, .unset, .unset, .unset, .unset] [])) (fun t k => XS.istoreN X0.here hx rfl (hb hby at_3) rfl (l' := #[.val (.int p1), .val (.long q2), .second, .val (.int v3_1), .unset, .unset, .unset, .unset, .unset]) rfl k) ?_
  refine Go.on (B := s₁.setTop (mkF m 5 #[.val (.int p1), .val (.long q2), .second, .val (.int v3_1), .unset, .unset, .unset, .unset, .unset] [(.int p1)])) (fun t k => XS.iloadN X0.here hx rfl (hb hby at_4) rfl k) ?_
  refine Go.on (B := s₁.setTop (mkF m 6 #[.val (.int p1), .val (.long q2), .second, .val (.int v3_1), .unset, .unset, .unset, .unset, .unset] [(.int (2 : Int32)), (.int p1)])) (fun t k => XS.iconst X0.here hx rfl (hb hby at_5) k) ?_
  refine Go.on (B := s₁.setTop (mkF m 7 #[.val (.int p1), .val (.long q2), .second, .val (.int v3_1), .unset, .unset, .unset, .unset, .unset] [(.int ((p1.toUInt32 >>> ((2 : Int32) &&& 31).toUInt32).toInt32))])) (fun t k => XS.iushr X0.here hx rfl (hb hby at_6) rfl k) ?_
  refine Go.on (B := s₁.setTop (mkF m 8 #[.val (.int p1), .val (.long q2), .second, .val (.int v3_1), .unset, .unset, .unset, .unset, .unset] [(.int (3 : Int32)), (.int ((p1.toUInt32 >>> ((2 : Int32) &&& 31).toUInt32).toInt32))])) (fun t k => XS.iconst X0.here hx rfl (hb hby at_7) k) ?_
  refine Go.on (B := s₁.setTop (mkF m 9 #[.val (.int p1), .val (.long q2), .second, .val (.int v3_1), .unset, .unset, .unset, .unset, .unset] [(.int (((p1.toUInt32 >>> ((2 : Int32) &&& 31).toUInt32).toInt32) &&& (3 : Int32)))])) (fun t k => XS.iand X0.here hx rfl (hb hby at_8) rfl k) ?_
  generalize hv9_2 : (((p1.toUInt32 >>> ((2 : Int32) &&& 31).toUInt32).toInt32) &&& (3 : Int32)) = v9_2
  refine Go.on (B := s₁.setTop (mkF m 11 #[.val (.int p1), .val (.long q2), .second, .val (.int v3_1), .val (.int v9_2), .unset, .unset, .unset, .unset] [])) (fun t k => XS.istore X0.here hx rfl (hb hby at_9) rfl (l' := #[.val (.int p1), .val (.long q2), .second, .val (.int v3_1), .val (.int v9_2), .unset, .unset, .unset, .unset]) rfl k) ?_
  refine Go.on (B := s₁.setTop (mkF m 13 #[.val (.int p1), .val (.long q2), .second, .val (.int v3_1), .val (.int v9_2), .unset, .unset, .unset, .unset] [(.int v9_2)])) (fun t k => XS.iload X0.here hx rfl (hb hby at_11) rfl k) ?_
  refine Go.on (B := s₁.setTop (mkF m 14 #[.val (.int p1), .val (.long q2), .second, .val (.int v3_1), .val (.int v9_2), .unset, .unset, .unset, .unset] [(.long q2), (.int v9_2)])) (fun t k => XS.lloadN X0.here hx rfl (hb hby at_13) rfl k) ?_
  obtain ⟨_, _, ⟨T3, L3, k3, n3⟩, -, X3, ⟨Lc3, hQ3, l3, y3, z3⟩, st3⟩ := Jvm.LawKit.callS X0 hx (y := (⟨"com/example/stricture/stricture/type/TypeKindHoldsPinLaw", "pickValue", "(IJ)J"⟩ : MethodName)) hown (mvT hZ (hw _ (List.mem_of_getElem? (i := 0) rfl))) (mvT hZ (hw _ (List.mem_of_getElem? (i := 1) rfl))) (mvT hZ (hw _ (List.mem_of_getElem? (i := 2) rfl))) (mvT hZ (hw _ (List.mem_of_getElem? (i := 3) rfl))) (by decide) (backOf (W := 0) (rpick l Z a0 hw [] v9_2 q2 h0 n0 Z0) hZ (hw _ (List.mem_of_getElem? (i := 3) rfl)) (hw _ (List.mem_of_getElem? (i := 2) rfl)) (by decide) (by decide)) (g := (mkF m 14 #[.val (.int p1), .val (.long q2), .second, .val (.int v3_1), .val (.int v9_2), .unset, .unset, .unset, .unset] [(.long q2), (.int v9_2)])) rfl (by rw [hml]; rfl) (argsL := [(.int v9_2), (.long q2)]) (rest := []) (lenOf pd_0 rfl) rfl (by show 2 * 0 + _ ≤ _; exact Nat.le_of_eq rfl) (hb hby at_14) (fun _ _ => ⟨rfl, e0, (by decide : 0 + 0 ≤ _), (by decide : 0 + 0 ≤ _)⟩)
  dsimp only [Pt.U, Pt.locs, Pt.cells, Pt.slots] at X3 l3 y3 z3 st3 hQ3
  subst l3 y3 z3
  obtain ⟨⟨r3, rfl⟩, N3q, e3q⟩ := hQ3
  have N3 := Fr.app N0 N3q
  refine Go.on (B := T3.setTop (mkF m 17 #[.val (.int p1), .val (.long q2), .second, .val (.int v3_1), .val (.int v9_2), .unset, .unset, .unset, .unset] [(.long r3)])) (fun t k => st3 _ k) ?_
  refine Go.on (B := T3.setTop (mkF m 19 #[.val (.int p1), .val (.long q2), .second, .val (.int v3_1), .val (.int v9_2), .val (.long r3), .second, .unset, .unset] [])) (fun t k => XS.lstore X3.here hx rfl (hb hby at_17) rfl (l' := #[.val (.int p1), .val (.long q2), .second, .val (.int v3_1), .val (.int v9_2), .val (.long r3), .second, .unset, .unset]) rfl k) ?_
  refine Go.on (B := T3.setTop (mkF m 20 #[.val (.int p1), .val (.long q2), .second, .val (.int v3_1), .val (.int v9_2), .val (.long r3), .second, .unset, .unset] [(.int v3_1)])) (fun t k => XS.iloadN X3.here hx rfl (hb hby at_19) rfl k) ?_
  by_cases hc20_5 : v3_1 = (0 : Int32)
  · refine Go.on (B := T3.setTop (mkF m 23 #[.val (.int p1), .val (.long q2), .second, .val (.int v3_1), .val (.int v9_2), .val (.long r3), .second, .unset, .unset] [])) (fun t k => XS.ifNo X3.here hx rfl (hb hby at_20) rfl ((if0 _ _).trans (teq hc20_5).2) k) ?_
    obtain ⟨T6, X6, e6, st6⟩ := getS2 X3 hx hZ hown (host := "") (Or.inl (hw _ (List.mem_of_getElem? (i := 4) rfl))) Via.refl e3q S_BYTEINT (g := (mkF m 23 #[.val (.int p1), .val (.long q2), .second, .val (.int v3_1), .val (.int v9_2), .val (.long r3), .second, .unset, .unset] [])) rfl (hb hby at_23)
    refine Go.on (B := T6.setTop (mkF m 26 #[.val (.int p1), .val (.long q2), .second, .val (.int v3_1), .val (.int v9_2), .val (.long r3), .second, .unset, .unset] [(.ref a_BYTEINT)])) (fun t k => st6 _ k) ?_
    refine Go.on (B := T6.setTop (mkF m 28 #[.val (.int p1), .val (.long q2), .second, .val (.int v3_1), .val (.int v9_2), .val (.long r3), .second, .val (.ref a_BYTEINT), .unset] [])) (fun t k => XS.astore X6.here hx rfl (hb hby at_26) rfl rfl (l' := #[.val (.int p1), .val (.long q2), .second, .val (.int v3_1), .val (.int v9_2), .val (.long r3), .second, .val (.ref a_BYTEINT), .unset]) rfl k) ?_
    refine Go.on (B := T6.setTop (mkF m 30 #[.val (.int p1), .val (.long q2), .second, .val (.int v3_1), .val (.int v9_2), .val (.long r3), .second, .val (.ref a_BYTEINT), .unset] [(.long r3)])) (fun t k => XS.lload X6.here hx rfl (hb hby at_28) rfl k) ?_
    refine Go.on (B := T6.setTop (mkF m 31 #[.val (.int p1), .val (.long q2), .second, .val (.int v3_1), .val (.int v9_2), .val (.long r3), .second, .val (.ref a_BYTEINT), .unset] [(.int (r3.toInt32))])) (fun t k => XS.l2i X6.here hx rfl (hb hby at_30) rfl k) ?_
    refine Go.on (B := T6.setTop (mkF m 32 #[.val (.int p1), .val (.long q2), .second, .val (.int v3_1), .val (.int v9_2), .val (.long r3), .second, .val (.ref a_BYTEINT), .unset] [(.int ((r3.toInt32).toInt8.toInt32))])) (fun t k => XS.i2b X6.here hx rfl (hb hby at_31) rfl k) ?_
    refine Go.on (B := T6.setTop (mkF m 33 #[.val (.int p1), .val (.long q2), .second, .val (.int v3_1), .val (.int v9_2), .val (.long r3), .second, .val (.ref a_BYTEINT), .unset] [(.long (((r3.toInt32).toInt8.toInt32).toInt64))])) (fun t k => XS.i2l X6.here hx rfl (hb hby at_32) rfl k) ?_
    refine Go.on (B := T6.setTop (mkF m 35 #[.val (.int p1), .val (.long q2), .second, .val (.int v3_1), .val (.int v9_2), .val (.long r3), .second, .val (.ref a_BYTEINT), .unset] [(.long r3), (.long (((r3.toInt32).toInt8.toInt32).toInt64))])) (fun t k => XS.lload X6.here hx rfl (hb hby at_33) rfl k) ?_
    refine Go.on (B := T6.setTop (mkF m 36 #[.val (.int p1), .val (.long q2), .second, .val (.int v3_1), .val (.int v9_2), .val (.long r3), .second, .val (.ref a_BYTEINT), .unset] [(.int (lcmpW (((r3.toInt32).toInt8.toInt32).toInt64) r3))])) (fun t k => XS.lcmp X6.here hx rfl (hb hby at_35) rfl k) ?_
    have sg36_7 : ∀ (z36_a7 : Int32) (hz36_a7 : z36_a7 = (if (((r3.toInt32).toInt8.toInt32).toInt64) = r3 then (1 : Int32) else (0 : Int32))), ∀ t, Steps p.tables e below (T6.setTop (mkF m 44 #[.val (.int p1), .val (.long q2), .second, .val (.int v3_1), .val (.int v9_2), .val (.long r3), .second, .val (.ref a_BYTEINT), .unset] [(.int z36_a7)])) t → Steps p.tables e below (T6.setTop (mkF m 36 #[.val (.int p1), .val (.long q2), .second, .val (.int v3_1), .val (.int v9_2), .val (.long r3), .second, .val (.ref a_BYTEINT), .unset] [(.int (lcmpW (((r3.toInt32).toInt8.toInt32).toInt64) r3))])) t := by
      intro z36_a7 hz36_a7 t k
      show Steps p.tables e below (T6.setTop (mkF m 36 #[.val (.int p1), .val (.long q2), .second, .val (.int v3_1), .val (.int v9_2), .val (.long r3), .second, .val (.ref a_BYTEINT), .unset] [(.int (lcmpW (((r3.toInt32).toInt8.toInt32).toInt64) r3))])) _
      by_cases hc36_8 : (((r3.toInt32).toInt8.toInt32).toInt64) = r3
      · first | rw [if_pos hc36_8] at hz36_a7 | skip
        refine XS.ifNo X6.here hx rfl (hb hby at_36) rfl ((if0 _ _).trans (teq ((lw_eq _ _).mpr hc36_8)).2) ?_
        show Steps p.tables e below (T6.setTop (mkF m 39 #[.val (.int p1), .val (.long q2), .second, .val (.int v3_1), .val (.int v9_2), .val (.long r3), .second, .val (.ref a_BYTEINT), .unset] [])) _
        refine XS.iconst X6.here hx rfl (hb hby at_39) ?_
        show Steps p.tables e below (T6.setTop (mkF m 40 #[.val (.int p1), .val (.long q2), .second, .val (.int v3_1), .val (.int v9_2), .val (.long r3), .second, .val (.ref a_BYTEINT), .unset] [(.int (1 : Int32))])) _
        refine XS.goto X6.here hx rfl (pc0 := 40) (pc' := 44) rfl (hb hby at_40) (by decide) (by decide) ?_
        show Steps p.tables e below (T6.setTop (mkF m 44 #[.val (.int p1), .val (.long q2), .second, .val (.int v3_1), .val (.int v9_2), .val (.long r3), .second, .val (.ref a_BYTEINT), .unset] [(.int (1 : Int32))])) _
        subst hz36_a7
        exact k
      · first | rw [if_neg hc36_8] at hz36_a7 | skip
        refine XS.ifYes X6.here hx rfl (pc0 := 36) (pc' := 43) rfl (hb hby at_36) rfl ((if0 _ _).trans (feq (mt (lw_eq _ _).mp hc36_8)).2) (by decide) (by decide) ?_
        show Steps p.tables e below (T6.setTop (mkF m 43 #[.val (.int p1), .val (.long q2), .second, .val (.int v3_1), .val (.int v9_2), .val (.long r3), .second, .val (.ref a_BYTEINT), .unset] [])) _
        refine XS.iconst X6.here hx rfl (hb hby at_43) ?_
        show Steps p.tables e below (T6.setTop (mkF m 44 #[.val (.int p1), .val (.long q2), .second, .val (.int v3_1), .val (.int v9_2), .val (.long r3), .second, .val (.ref a_BYTEINT), .unset] [(.int (0 : Int32))])) _
        subst hz36_a7
        exact k
    obtain ⟨z36_a7, hz36_a7⟩ : ∃ z, z = (if (((r3.toInt32).toInt8.toInt32).toInt64) = r3 then (1 : Int32) else (0 : Int32)) := ⟨_, rfl⟩
    refine Go.on (sg36_7 z36_a7 hz36_a7) ?_
    refine Go.on (B := T6.setTop (mkF m 46 #[.val (.int p1), .val (.long q2), .second, .val (.int v3_1), .val (.int v9_2), .val (.long r3), .second, .val (.ref a_BYTEINT), .val (.int z36_a7)] [])) (fun t k => XS.istore X6.here hx rfl (hb hby at_44) rfl (l' := #[.val (.int p1), .val (.long q2), .second, .val (.int v3_1), .val (.int v9_2), .val (.long r3), .second, .val (.ref a_BYTEINT), .val (.int z36_a7)]) rfl k) ?_
    refine Go.on (B := T6.setTop (mkF m 118 #[.val (.int p1), .val (.long q2), .second, .val (.int v3_1), .val (.int v9_2), .val (.long r3), .second, .val (.ref a_BYTEINT), .val (.int z36_a7)] [])) (fun t k => XS.goto X6.here hx rfl (pc0 := 46) (pc' := 118) rfl (hb hby at_46) (by decide) (by decide) k) ?_
    refine Go.on (B := T6.setTop (mkF m 120 #[.val (.int p1), .val (.long q2), .second, .val (.int v3_1), .val (.int v9_2), .val (.long r3), .second, .val (.ref a_BYTEINT), .val (.int z36_a7)] [(.ref a_BYTEINT)])) (fun t k => XS.aload X6.here hx rfl (hb hby at_118) rfl rfl k) ?_
    refine Go.on (B := T6.setTop (mkF m 122 #[.val (.int p1), .val (.long q2), .second, .val (.int v3_1), .val (.int v9_2), .val (.long r3), .second, .val (.ref a_BYTEINT), .val (.int z36_a7)] [(.long r3), (.ref a_BYTEINT)])) (fun t k => XS.lload X6.here hx rfl (hb hby at_120) rfl k) ?_
    obtain ⟨cq10, kq10, q10a, q10b, q10c⟩ := isOf hZ e6 E_BYTEINT
    obtain ⟨_, _, ⟨T10, L10, k10, n10⟩, -, X10, ⟨Lc10, hQ10, l10, y10, z10⟩, st10⟩ := X6.virtualBack hx (y := (⟨"com/example/stricture/stricture/type/TypeKind", "holds", "(J)Z"⟩ : MethodName)) (z := (⟨"com/example/stricture/stricture/type/TypeKind", "holds", "(J)Z"⟩ : MethodName)) hown (mvT hZ (hw _ (List.mem_of_getElem? (i := 7) rfl))) (mvT hZ (hw _ (List.mem_of_getElem? (i := 8) rfl))) (notFace_of_selects (args := #[]) (mvT hZ (hw _ (List.mem_of_getElem? (i := 10) rfl)))) (mvT hZ (hw _ (List.mem_of_getElem? (i := 10) rfl))) (mvT hZ (hw _ (List.mem_of_getElem? (i := 9) rfl))) (by decide) (backOf (W := 0) (rhold l Z a0 hw [] a_BYTEINT r3 (-128 : Int64) (127 : Int64) h0 n0 Z0 N_BYTEINT M_BYTEINT) hZ (hw _ (List.mem_of_getElem? (i := 11) rfl)) (hw _ (List.mem_of_getElem? (i := 5) rfl)) (by decide) (by decide)) q10a q10c (g := (mkF m 122 #[.val (.int p1), .val (.long q2), .second, .val (.int v3_1), .val (.int v9_2), .val (.long r3), .second, .val (.ref a_BYTEINT), .val (.int z36_a7)] [(.long r3), (.ref a_BYTEINT)])) rfl (by rw [hml]; rfl) (Steps.refl _) (argsL := [(.long r3)]) (rest := []) (lenOf pd_1 rfl) rfl (by show 2 * 0 + _ ≤ _; exact Nat.le_of_eq rfl) (hb hby at_122) (fun _ _ => ⟨rfl, e6, (by decide : 0 + 0 ≤ _), (by decide : 0 + 0 ≤ _)⟩)
    dsimp only [Pt.U, Pt.locs, Pt.cells, Pt.slots] at X10 l10 y10 z10 st10 hQ10
    subst l10 y10 z10
    obtain ⟨rfl, N10q, e10q⟩ := hQ10
    have N10 := Fr.app N3 N10q
    refine Go.on (B := T10.setTop (mkF m 125 #[.val (.int p1), .val (.long q2), .second, .val (.int v3_1), .val (.int v9_2), .val (.long r3), .second, .val (.ref a_BYTEINT), .val (.int z36_a7)] [(.int (if r3 < (-128 : Int64) then (0 : Int32) else (if (127 : Int64) < r3 then (0 : Int32) else (1 : Int32))))])) (fun t k => st10.trans k) ?_
    refine Go.on (B := T10.setTop (mkF m 127 #[.val (.int p1), .val (.long q2), .second, .val (.int v3_1), .val (.int v9_2), .val (.long r3), .second, .val (.ref a_BYTEINT), .val (.int z36_a7)] [(.int z36_a7), (.int (if r3 < (-128 : Int64) then (0 : Int32) else (if (127 : Int64) < r3 then (0 : Int32) else (1 : Int32))))])) (fun t k => XS.iload X10.here hx rfl (hb hby at_125) rfl k) ?_
    have hc127_11 : (if r3 < (-128 : Int64) then (0 : Int32) else (if (127 : Int64) < r3 then (0 : Int32) else (1 : Int32))) = z36_a7 := by rw [hz36_a7]; exact own_b _
    refine Go.on (B := T10.setTop (mkF m 130 #[.val (.int p1), .val (.long q2), .second, .val (.int v3_1), .val (.int v9_2), .val (.long r3), .second, .val (.ref a_BYTEINT), .val (.int z36_a7)] [])) (fun t k => XS.icmpNo X10.here hx rfl (hb hby at_127) rfl (teq hc127_11).2 k) ?_
    refine Go.on (B := T10.setTop (mkF m 131 #[.val (.int p1), .val (.long q2), .second, .val (.int v3_1), .val (.int v9_2), .val (.long r3), .second, .val (.ref a_BYTEINT), .val (.int z36_a7)] [(.int (1 : Int32))])) (fun t k => XS.iconst X10.here hx rfl (hb hby at_130) k) ?_
    refine Go.on (B := T10.setTop (mkF m 135 #[.val (.int p1), .val (.long q2), .second, .val (.int v3_1), .val (.int v9_2), .val (.long r3), .second, .val (.ref a_BYTEINT), .val (.int z36_a7)] [(.int (1 : Int32))])) (fun t k => XS.goto X10.here hx rfl (pc0 := 131) (pc' := 135) rfl (hb hby at_131) (by decide) (by decide) k) ?_
    obtain ⟨fs, hr, hrun, hended, hW, hsame⟩ := X10.leave (v := some (.int (1 : Int32))) (fun h => by rw [Bd.returns] at h; cases h)
    refine ⟨_, _, ?_, hrun, hended, _, _, rfl, ?_, ⟨_, rfl⟩, hW, hsame.mono (by decide) (by decide)⟩
    · exact retN X10 hx (t := .boolean) Bd.returns (by simp) (hb hby at_135) hr
    · show Q_rm0 Z p1 q2 a_BYTEINT a_SMALLINT a_INTEGER a_BIGINT h0 n0 _ T10.heap _
      rw [e10q]
      exact ⟨rfl, N10⟩
  · refine Go.on (B := T3.setTop (mkF m 49 #[.val (.int p1), .val (.long q2), .second, .val (.int v3_1), .val (.int v9_2), .val (.long r3), .second, .unset, .unset] [])) (fun t k => XS.ifYes X3.here hx rfl (pc0 := 20) (pc' := 49) rfl (hb hby at_20) rfl ((if0 _ _).trans (feq hc20_5).2) (by decide) (by decide) k) ?_
    refine Go.on (B := T3.setTop (mkF m 50 #[.val (.int p1), .val (.long q2), .second, .val (.int v3_1), .val (.int v9_2), .val (.long r3), .second, .unset, .unset] [(.int v3_1)])) (fun t k => XS.iloadN X3.here hx rfl (hb hby at_49) rfl k) ?_
    refine Go.on (B := T3.setTop (mkF m 51 #[.val (.int p1), .val (.long q2), .second, .val (.int v3_1), .val (.int v9_2), .val (.long r3), .second, .unset, .unset] [(.int (1 : Int32)), (.int v3_1)])) (fun t k => XS.iconst X3.here hx rfl (hb hby at_50) k) ?_
    by_cases hc51_12 : v3_1 = (1 : Int32)
    · refine Go.on (B := T3.setTop (mkF m 54 #[.val (.int p1), .val (.long q2), .second, .val (.int v3_1), .val (.int v9_2), .val (.long r3), .second, .unset, .unset] [])) (fun t k => XS.icmpNo X3.here hx rfl (hb hby at_51) rfl (teq hc51_12).2 k) ?_
      obtain ⟨T13, X13, e13, st13⟩ := getS2 X3 hx hZ hown (host := "") (Or.inl (hw _ (List.mem_of_getElem? (i := 16) rfl))) Via.refl e3q S_SMALLINT (g := (mkF m 54 #[.val (.int p1), .val (.long q2), .second, .val (.int v3_1), .val (.int v9_2), .val (.long r3), .second, .unset, .unset] [])) rfl (hb hby at_54)
      refine Go.on (B := T13.setTop (mkF m 57 #[.val (.int p1), .val (.long q2), .second, .val (.int v3_1), .val (.int v9_2), .val (.long r3), .second, .unset, .unset] [(.ref a_SMALLINT)])) (fun t k => st13 _ k) ?_
      refine Go.on (B := T13.setTop (mkF m 59 #[.val (.int p1), .val (.long q2), .second, .val (.int v3_1), .val (.int v9_2), .val (.long r3), .second, .val (.ref a_SMALLINT), .unset] [])) (fun t k => XS.astore X13.here hx rfl (hb hby at_57) rfl rfl (l' := #[.val (.int p1), .val (.long q2), .second, .val (.int v3_1), .val (.int v9_2), .val (.long r3), .second, .val (.ref a_SMALLINT), .unset]) rfl k) ?_
      refine Go.on (B := T13.setTop (mkF m 61 #[.val (.int p1), .val (.long q2), .second, .val (.int v3_1), .val (.int v9_2), .val (.long r3), .second, .val (.ref a_SMALLINT), .unset] [(.long r3)])) (fun t k => XS.lload X13.here hx rfl (hb hby at_59) rfl k) ?_
      refine Go.on (B := T13.setTop (mkF m 62 #[.val (.int p1), .val (.long q2), .second, .val (.int v3_1), .val (.int v9_2), .val (.long r3), .second, .val (.ref a_SMALLINT), .unset] [(.int (r3.toInt32))])) (fun t k => XS.l2i X13.here hx rfl (hb hby at_61) rfl k) ?_
      refine Go.on (B := T13.setTop (mkF m 63 #[.val (.int p1), .val (.long q2), .second, .val (.int v3_1), .val (.int v9_2), .val (.long r3), .second, .val (.ref a_SMALLINT), .unset] [(.int ((r3.toInt32).toInt16.toInt32))])) (fun t k => XS.i2s X13.here hx rfl (hb hby at_62) rfl k) ?_
      refine Go.on (B := T13.setTop (mkF m 64 #[.val (.int p1), .val (.long q2), .second, .val (.int v3_1), .val (.int v9_2), .val (.long r3), .second, .val (.ref a_SMALLINT), .unset] [(.long (((r3.toInt32).toInt16.toInt32).toInt64))])) (fun t k => XS.i2l X13.here hx rfl (hb hby at_63) rfl k) ?_
      refine Go.on (B := T13.setTop (mkF m 66 #[.val (.int p1), .val (.long q2), .second, .val (.int v3_1), .val (.int v9_2), .val (.long r3), .second, .val (.ref a_SMALLINT), .unset] [(.long r3), (.long (((r3.toInt32).toInt16.toInt32).toInt64))])) (fun t k => XS.lload X13.here hx rfl (hb hby at_64) rfl k) ?_
      refine Go.on (B := T13.setTop (mkF m 67 #[.val (.int p1), .val (.long q2), .second, .val (.int v3_1), .val (.int v9_2), .val (.long r3), .second, .val (.ref a_SMALLINT), .unset] [(.int (lcmpW (((r3.toInt32).toInt16.toInt32).toInt64) r3))])) (fun t k => XS.lcmp X13.here hx rfl (hb hby at_66) rfl k) ?_
      have sg67_14 : ∀ (z67_a14 : Int32) (hz67_a14 : z67_a14 = (if (((r3.toInt32).toInt16.toInt32).toInt64) = r3 then (1 : Int32) else (0 : Int32))), ∀ t, Steps p.tables e below (T13.setTop (mkF m 75 #[.val (.int p1), .val (.long q2), .second, .val (.int v3_1), .val (.int v9_2), .val (.long r3), .second, .val (.ref a_SMALLINT), .unset] [(.int z67_a14)])) t → Steps p.tables e below (T13.setTop (mkF m 67 #[.val (.int p1), .val (.long q2), .second, .val (.int v3_1), .val (.int v9_2), .val (.long r3), .second, .val (.ref a_SMALLINT), .unset] [(.int (lcmpW (((r3.toInt32).toInt16.toInt32).toInt64) r3))])) t := by
        intro z67_a14 hz67_a14 t k
        show Steps p.tables e below (T13.setTop (mkF m 67 #[.val (.int p1), .val (.long q2), .second, .val (.int v3_1), .val (.int v9_2), .val (.long r3), .second, .val (.ref a_SMALLINT), .unset] [(.int (lcmpW (((r3.toInt32).toInt16.toInt32).toInt64) r3))])) _
        by_cases hc67_15 : (((r3.toInt32).toInt16.toInt32).toInt64) = r3
        · first | rw [if_pos hc67_15] at hz67_a14 | skip
          refine XS.ifNo X13.here hx rfl (hb hby at_67) rfl ((if0 _ _).trans (teq ((lw_eq _ _).mpr hc67_15)).2) ?_
          show Steps p.tables e below (T13.setTop (mkF m 70 #[.val (.int p1), .val (.long q2), .second, .val (.int v3_1), .val (.int v9_2), .val (.long r3), .second, .val (.ref a_SMALLINT), .unset] [])) _
          refine XS.iconst X13.here hx rfl (hb hby at_70) ?_
          show Steps p.tables e below (T13.setTop (mkF m 71 #[.val (.int p1), .val (.long q2), .second, .val (.int v3_1), .val (.int v9_2), .val (.long r3), .second, .val (.ref a_SMALLINT), .unset] [(.int (1 : Int32))])) _
          refine XS.goto X13.here hx rfl (pc0 := 71) (pc' := 75) rfl (hb hby at_71) (by decide) (by decide) ?_
          show Steps p.tables e below (T13.setTop (mkF m 75 #[.val (.int p1), .val (.long q2), .second, .val (.int v3_1), .val (.int v9_2), .val (.long r3), .second, .val (.ref a_SMALLINT), .unset] [(.int (1 : Int32))])) _
          subst hz67_a14
          exact k
        · first | rw [if_neg hc67_15] at hz67_a14 | skip
          refine XS.ifYes X13.here hx rfl (pc0 := 67) (pc' := 74) rfl (hb hby at_67) rfl ((if0 _ _).trans (feq (mt (lw_eq _ _).mp hc67_15)).2) (by decide) (by decide) ?_
          show Steps p.tables e below (T13.setTop (mkF m 74 #[.val (.int p1), .val (.long q2), .second, .val (.int v3_1), .val (.int v9_2), .val (.long r3), .second, .val (.ref a_SMALLINT), .unset] [])) _
          refine XS.iconst X13.here hx rfl (hb hby at_74) ?_
          show Steps p.tables e below (T13.setTop (mkF m 75 #[.val (.int p1), .val (.long q2), .second, .val (.int v3_1), .val (.int v9_2), .val (.long r3), .second, .val (.ref a_SMALLINT), .unset] [(.int (0 : Int32))])) _
          subst hz67_a14
          exact k
      obtain ⟨z67_a14, hz67_a14⟩ : ∃ z, z = (if (((r3.toInt32).toInt16.toInt32).toInt64) = r3 then (1 : Int32) else (0 : Int32)) := ⟨_, rfl⟩
      refine Go.on (sg67_14 z67_a14 hz67_a14) ?_
      refine Go.on (B := T13.setTop (mkF m 77 #[.val (.int p1), .val (.long q2), .second, .val (.int v3_1), .val (.int v9_2), .val (.long r3), .second, .val (.ref a_SMALLINT), .val (.int z67_a14)] [])) (fun t k => XS.istore X13.here hx rfl (hb hby at_75) rfl (l' := #[.val (.int p1), .val (.long q2), .second, .val (.int v3_1), .val (.int v9_2), .val (.long r3), .second, .val (.ref a_SMALLINT), .val (.int z67_a14)]) rfl k) ?_
      refine Go.on (B := T13.setTop (mkF m 118 #[.val (.int p1), .val (.long q2), .second, .val (.int v3_1), .val (.int v9_2), .val (.long r3), .second, .val (.ref a_SMALLINT), .val (.int z67_a14)] [])) (fun t k => XS.goto X13.here hx rfl (pc0 := 77) (pc' := 118) rfl (hb hby at_77) (by decide) (by decide) k) ?_
      refine Go.on (B := T13.setTop (mkF m 120 #[.val (.int p1), .val (.long q2), .second, .val (.int v3_1), .val (.int v9_2), .val (.long r3), .second, .val (.ref a_SMALLINT), .val (.int z67_a14)] [(.ref a_SMALLINT)])) (fun t k => XS.aload X13.here hx rfl (hb hby at_118) rfl rfl k) ?_
      refine Go.on (B := T13.setTop (mkF m 122 #[.val (.int p1), .val (.long q2), .second, .val (.int v3_1), .val (.int v9_2), .val (.long r3), .second, .val (.ref a_SMALLINT), .val (.int z67_a14)] [(.long r3), (.ref a_SMALLINT)])) (fun t k => XS.lload X13.here hx rfl (hb hby at_120) rfl k) ?_
      obtain ⟨cq17, kq17, q17a, q17b, q17c⟩ := isOf hZ e13 E_SMALLINT
      obtain ⟨_, _, ⟨T17, L17, k17, n17⟩, -, X17, ⟨Lc17, hQ17, l17, y17, z17⟩, st17⟩ := X13.virtualBack hx (y := (⟨"com/example/stricture/stricture/type/TypeKind", "holds", "(J)Z"⟩ : MethodName)) (z := (⟨"com/example/stricture/stricture/type/TypeKind", "holds", "(J)Z"⟩ : MethodName)) hown (mvT hZ (hw _ (List.mem_of_getElem? (i := 7) rfl))) (mvT hZ (hw _ (List.mem_of_getElem? (i := 8) rfl))) (notFace_of_selects (args := #[]) (mvT hZ (hw _ (List.mem_of_getElem? (i := 10) rfl)))) (mvT hZ (hw _ (List.mem_of_getElem? (i := 10) rfl))) (mvT hZ (hw _ (List.mem_of_getElem? (i := 9) rfl))) (by decide) (backOf (W := 0) (rhold l Z a0 hw [] a_SMALLINT r3 (-32768 : Int64) (32767 : Int64) h0 n0 Z0 N_SMALLINT M_SMALLINT) hZ (hw _ (List.mem_of_getElem? (i := 11) rfl)) (hw _ (List.mem_of_getElem? (i := 5) rfl)) (by decide) (by decide)) q17a q17c (g := (mkF m 122 #[.val (.int p1), .val (.long q2), .second, .val (.int v3_1), .val (.int v9_2), .val (.long r3), .second, .val (.ref a_SMALLINT), .val (.int z67_a14)] [(.long r3), (.ref a_SMALLINT)])) rfl (by rw [hml]; rfl) (Steps.refl _) (argsL := [(.long r3)]) (rest := []) (lenOf pd_1 rfl) rfl (by show 2 * 0 + _ ≤ _; exact Nat.le_of_eq rfl) (hb hby at_122) (fun _ _ => ⟨rfl, e13, (by decide : 0 + 0 ≤ _), (by decide : 0 + 0 ≤ _)⟩)
      dsimp only [Pt.U, Pt.locs, Pt.cells, Pt.slots] at X17 l17 y17 z17 st17 hQ17
      subst l17 y17 z17
      obtain ⟨rfl, N17q, e17q⟩ := hQ17
      have N17 := Fr.app N3 N17q
      refine Go.on (B := T17.setTop (mkF m 125 #[.val (.int p1), .val (.long q2), .second, .val (.int v3_1), .val (.int v9_2), .val (.long r3), .second, .val (.ref a_SMALLINT), .val (.int z67_a14)] [(.int (if r3 < (-32768 : Int64) then (0 : Int32) else (if (32767 : Int64) < r3 then (0 : Int32) else (1 : Int32))))])) (fun t k => st17.trans k) ?_
      refine Go.on (B := T17.setTop (mkF m 127 #[.val (.int p1), .val (.long q2), .second, .val (.int v3_1), .val (.int v9_2), .val (.long r3), .second, .val (.ref a_SMALLINT), .val (.int z67_a14)] [(.int z67_a14), (.int (if r3 < (-32768 : Int64) then (0 : Int32) else (if (32767 : Int64) < r3 then (0 : Int32) else (1 : Int32))))])) (fun t k => XS.iload X17.here hx rfl (hb hby at_125) rfl k) ?_
      have hc127_18 : (if r3 < (-32768 : Int64) then (0 : Int32) else (if (32767 : Int64) < r3 then (0 : Int32) else (1 : Int32))) = z67_a14 := by rw [hz67_a14]; exact own_s _
      refine Go.on (B := T17.setTop (mkF m 130 #[.val (.int p1), .val (.long q2), .second, .val (.int v3_1), .val (.int v9_2), .val (.long r3), .second, .val (.ref a_SMALLINT), .val (.int z67_a14)] [])) (fun t k => XS.icmpNo X17.here hx rfl (hb hby at_127) rfl (teq hc127_18).2 k) ?_
      refine Go.on (B := T17.setTop (mkF m 131 #[.val (.int p1), .val (.long q2), .second, .val (.int v3_1), .val (.int v9_2), .val (.long r3), .second, .val (.ref a_SMALLINT), .val (.int z67_a14)] [(.int (1 : Int32))])) (fun t k => XS.iconst X17.here hx rfl (hb hby at_130) k) ?_
      refine Go.on (B := T17.setTop (mkF m 135 #[.val (.int p1), .val (.long q2), .second, .val (.int v3_1), .val (.int v9_2), .val (.long r3), .second, .val (.ref a_SMALLINT), .val (.int z67_a14)] [(.int (1 : Int32))])) (fun t k => XS.goto X17.here hx rfl (pc0 := 131) (pc' := 135) rfl (hb hby at_131) (by decide) (by decide) k) ?_
      obtain ⟨fs, hr, hrun, hended, hW, hsame⟩ := X17.leave (v := some (.int (1 : Int32))) (fun h => by rw [Bd.returns] at h; cases h)
      refine ⟨_, _, ?_, hrun, hended, _, _, rfl, ?_, ⟨_, rfl⟩, hW, hsame.mono (by decide) (by decide)⟩
      · exact retN X17 hx (t := .boolean) Bd.returns (by simp) (hb hby at_135) hr
      · show Q_rm0 Z p1 q2 a_BYTEINT a_SMALLINT a_INTEGER a_BIGINT h0 n0 _ T17.heap _
        rw [e17q]
        exact ⟨rfl, N17⟩
    · refine Go.on (B := T3.setTop (mkF m 80 #[.val (.int p1), .val (.long q2), .second, .val (.int v3_1), .val (.int v9_2), .val (.long r3), .second, .unset, .unset] [])) (fun t k => XS.icmpYes X3.here hx rfl (pc0 := 51) (pc' := 80) rfl (hb hby at_51) rfl (feq hc51_12).2 (by decide) (by decide) k) ?_
      refine Go.on (B := T3.setTop (mkF m 81 #[.val (.int p1), .val (.long q2), .second, .val (.int v3_1), .val (.int v9_2), .val (.long r3), .second, .unset, .unset] [(.int v3_1)])) (fun t k => XS.iloadN X3.here hx rfl (hb hby at_80) rfl k) ?_
      refine Go.on (B := T3.setTop (mkF m 82 #[.val (.int p1), .val (.long q2), .second, .val (.int v3_1), .val (.int v9_2), .val (.long r3), .second, .unset, .unset] [(.int (2 : Int32)), (.int v3_1)])) (fun t k => XS.iconst X3.here hx rfl (hb hby at_81) k) ?_
      by_cases hc82_19 : v3_1 = (2 : Int32)
      · refine Go.on (B := T3.setTop (mkF m 85 #[.val (.int p1), .val (.long q2), .second, .val (.int v3_1), .val (.int v9_2), .val (.long r3), .second, .unset, .unset] [])) (fun t k => XS.icmpNo X3.here hx rfl (hb hby at_82) rfl (teq hc82_19).2 k) ?_
        obtain ⟨T20, X20, e20, st20⟩ := getS2 X3 hx hZ hown (host := "") (Or.inl (hw _ (List.mem_of_getElem? (i := 19) rfl))) Via.refl e3q S_INTEGER (g := (mkF m 85 #[.val (.int p1), .val (.long q2), .second, .val (.int v3_1), .val (.int v9_2), .val (.long r3), .second, .unset, .unset] [])) rfl (hb hby at_85)
        refine Go.on (B := T20.setTop (mkF m 88 #[.val (.int p1), .val (.long q2), .second, .val (.int v3_1), .val (.int v9_2), .val (.long r3), .second, .unset, .unset] [(.ref a_INTEGER)])) (fun t k => st20 _ k) ?_
        refine Go.on (B := T20.setTop (mkF m 90 #[.val (.int p1), .val (.long q2), .second, .val (.int v3_1), .val (.int v9_2), .val (.long r3), .second, .val (.ref a_INTEGER), .unset] [])) (fun t k => XS.astore X20.here hx rfl (hb hby at_88) rfl rfl (l' := #[.val (.int p1), .val (.long q2), .second, .val (.int v3_1), .val (.int v9_2), .val (.long r3), .second, .val (.ref a_INTEGER), .unset]) rfl k) ?_
        refine Go.on (B := T20.setTop (mkF m 92 #[.val (.int p1), .val (.long q2), .second, .val (.int v3_1), .val (.int v9_2), .val (.long r3), .second, .val (.ref a_INTEGER), .unset] [(.long r3)])) (fun t k => XS.lload X20.here hx rfl (hb hby at_90) rfl k) ?_
        refine Go.on (B := T20.setTop (mkF m 93 #[.val (.int p1), .val (.long q2), .second, .val (.int v3_1), .val (.int v9_2), .val (.long r3), .second, .val (.ref a_INTEGER), .unset] [(.int (r3.toInt32))])) (fun t k => XS.l2i X20.here hx rfl (hb hby at_92) rfl k) ?_
        refine Go.on (B := T20.setTop (mkF m 94 #[.val (.int p1), .val (.long q2), .second, .val (.int v3_1), .val (.int v9_2), .val (.long r3), .second, .val (.ref a_INTEGER), .unset] [(.long ((r3.toInt32).toInt64))])) (fun t k => XS.i2l X20.here hx rfl (hb hby at_93) rfl k) ?_
        refine Go.on (B := T20.setTop (mkF m 96 #[.val (.int p1), .val (.long q2), .second, .val (.int v3_1), .val (.int v9_2), .val (.long r3), .second, .val (.ref a_INTEGER), .unset] [(.long r3), (.long ((r3.toInt32).toInt64))])) (fun t k => XS.lload X20.here hx rfl (hb hby at_94) rfl k) ?_
        refine Go.on (B := T20.setTop (mkF m 97 #[.val (.int p1), .val (.long q2), .second, .val (.int v3_1), .val (.int v9_2), .val (.long r3), .second, .val (.ref a_INTEGER), .unset] [(.int (lcmpW ((r3.toInt32).toInt64) r3))])) (fun t k => XS.lcmp X20.here hx rfl (hb hby at_96) rfl k) ?_
        have sg97_21 : ∀ (z97_a21 : Int32) (hz97_a21 : z97_a21 = (if ((r3.toInt32).toInt64) = r3 then (1 : Int32) else (0 : Int32))), ∀ t, Steps p.tables e below (T20.setTop (mkF m 105 #[.val (.int p1), .val (.long q2), .second, .val (.int v3_1), .val (.int v9_2), .val (.long r3), .second, .val (.ref a_INTEGER), .unset] [(.int z97_a21)])) t → Steps p.tables e below (T20.setTop (mkF m 97 #[.val (.int p1), .val (.long q2), .second, .val (.int v3_1), .val (.int v9_2), .val (.long r3), .second, .val (.ref a_INTEGER), .unset] [(.int (lcmpW ((r3.toInt32).toInt64) r3))])) t := by
          intro z97_a21 hz97_a21 t k
          show Steps p.tables e below (T20.setTop (mkF m 97 #[.val (.int p1), .val (.long q2), .second, .val (.int v3_1), .val (.int v9_2), .val (.long r3), .second, .val (.ref a_INTEGER), .unset] [(.int (lcmpW ((r3.toInt32).toInt64) r3))])) _
          by_cases hc97_22 : ((r3.toInt32).toInt64) = r3
          · first | rw [if_pos hc97_22] at hz97_a21 | skip
            refine XS.ifNo X20.here hx rfl (hb hby at_97) rfl ((if0 _ _).trans (teq ((lw_eq _ _).mpr hc97_22)).2) ?_
            show Steps p.tables e below (T20.setTop (mkF m 100 #[.val (.int p1), .val (.long q2), .second, .val (.int v3_1), .val (.int v9_2), .val (.long r3), .second, .val (.ref a_INTEGER), .unset] [])) _
            refine XS.iconst X20.here hx rfl (hb hby at_100) ?_
            show Steps p.tables e below (T20.setTop (mkF m 101 #[.val (.int p1), .val (.long q2), .second, .val (.int v3_1), .val (.int v9_2), .val (.long r3), .second, .val (.ref a_INTEGER), .unset] [(.int (1 : Int32))])) _
            refine XS.goto X20.here hx rfl (pc0 := 101) (pc' := 105) rfl (hb hby at_101) (by decide) (by decide) ?_
            show Steps p.tables e below (T20.setTop (mkF m 105 #[.val (.int p1), .val (.long q2), .second, .val (.int v3_1), .val (.int v9_2), .val (.long r3), .second, .val (.ref a_INTEGER), .unset] [(.int (1 : Int32))])) _
            subst hz97_a21
            exact k
          · first | rw [if_neg hc97_22] at hz97_a21 | skip
            refine XS.ifYes X20.here hx rfl (pc0 := 97) (pc' := 104) rfl (hb hby at_97) rfl ((if0 _ _).trans (feq (mt (lw_eq _ _).mp hc97_22)).2) (by decide) (by decide) ?_
            show Steps p.tables e below (T20.setTop (mkF m 104 #[.val (.int p1), .val (.long q2), .second, .val (.int v3_1), .val (.int v9_2), .val (.long r3), .second, .val (.ref a_INTEGER), .unset] [])) _
            refine XS.iconst X20.here hx rfl (hb hby at_104) ?_
            show Steps p.tables e below (T20.setTop (mkF m 105 #[.val (.int p1), .val (.long q2), .second, .val (.int v3_1), .val (.int v9_2), .val (.long r3), .second, .val (.ref a_INTEGER), .unset] [(.int (0 : Int32))])) _
            subst hz97_a21
            exact k
        obtain ⟨z97_a21, hz97_a21⟩ : ∃ z, z = (if ((r3.toInt32).toInt64) = r3 then (1 : Int32) else (0 : Int32)) := ⟨_, rfl⟩
        refine Go.on (sg97_21 z97_a21 hz97_a21) ?_
        refine Go.on (B := T20.setTop (mkF m 107 #[.val (.int p1), .val (.long q2), .second, .val (.int v3_1), .val (.int v9_2), .val (.long r3), .second, .val (.ref a_INTEGER), .val (.int z97_a21)] [])) (fun t k => XS.istore X20.here hx rfl (hb hby at_105) rfl (l' := #[.val (.int p1), .val (.long q2), .second, .val (.int v3_1), .val (.int v9_2), .val (.long r3), .second, .val (.ref a_INTEGER), .val (.int z97_a21)]) rfl k) ?_
        refine Go.on (B := T20.setTop (mkF m 118 #[.val (.int p1), .val (.long q2), .second, .val (.int v3_1), .val (.int v9_2), .val (.long r3), .second, .val (.ref a_INTEGER), .val (.int z97_a21)] [])) (fun t k => XS.goto X20.here hx rfl (pc0 := 107) (pc' := 118) rfl (hb hby at_107) (by decide) (by decide) k) ?_
        refine Go.on (B := T20.setTop (mkF m 120 #[.val (.int p1), .val (.long q2), .second, .val (.int v3_1), .val (.int v9_2), .val (.long r3), .second, .val (.ref a_INTEGER), .val (.int z97_a21)] [(.ref a_INTEGER)])) (fun t k => XS.aload X20.here hx rfl (hb hby at_118) rfl rfl k) ?_
        refine Go.on (B := T20.setTop (mkF m 122 #[.val (.int p1), .val (.long q2), .second, .val (.int v3_1), .val (.int v9_2), .val (.long r3), .second, .val (.ref a_INTEGER), .val (.int z97_a21)] [(.long r3), (.ref a_INTEGER)])) (fun t k => XS.lload X20.here hx rfl (hb hby at_120) rfl k) ?_
        obtain ⟨cq24, kq24, q24a, q24b, q24c⟩ := isOf hZ e20 E_INTEGER
        obtain ⟨_, _, ⟨T24, L24, k24, n24⟩, -, X24, ⟨Lc24, hQ24, l24, y24, z24⟩, st24⟩ := X20.virtualBack hx (y := (⟨"com/example/stricture/stricture/type/TypeKind", "holds", "(J)Z"⟩ : MethodName)) (z := (⟨"com/example/stricture/stricture/type/TypeKind", "holds", "(J)Z"⟩ : MethodName)) hown (mvT hZ (hw _ (List.mem_of_getElem? (i := 7) rfl))) (mvT hZ (hw _ (List.mem_of_getElem? (i := 8) rfl))) (notFace_of_selects (args := #[]) (mvT hZ (hw _ (List.mem_of_getElem? (i := 10) rfl)))) (mvT hZ (hw _ (List.mem_of_getElem? (i := 10) rfl))) (mvT hZ (hw _ (List.mem_of_getElem? (i := 9) rfl))) (by decide) (backOf (W := 0) (rhold l Z a0 hw [] a_INTEGER r3 (-2147483648 : Int64) (2147483647 : Int64) h0 n0 Z0 N_INTEGER M_INTEGER) hZ (hw _ (List.mem_of_getElem? (i := 11) rfl)) (hw _ (List.mem_of_getElem? (i := 5) rfl)) (by decide) (by decide)) q24a q24c (g := (mkF m 122 #[.val (.int p1), .val (.long q2), .second, .val (.int v3_1), .val (.int v9_2), .val (.long r3), .second, .val (.ref a_INTEGER), .val (.int z97_a21)] [(.long r3), (.ref a_INTEGER)])) rfl (by rw [hml]; rfl) (Steps.refl _) (argsL := [(.long r3)]) (rest := []) (lenOf pd_1 rfl) rfl (by show 2 * 0 + _ ≤ _; exact Nat.le_of_eq rfl) (hb hby at_122) (fun _ _ => ⟨rfl, e20, (by decide : 0 + 0 ≤ _), (by decide : 0 + 0 ≤ _)⟩)
        dsimp only [Pt.U, Pt.locs, Pt.cells, Pt.slots] at X24 l24 y24 z24 st24 hQ24
        subst l24 y24 z24
        obtain ⟨rfl, N24q, e24q⟩ := hQ24
        have N24 := Fr.app N3 N24q
        refine Go.on (B := T24.setTop (mkF m 125 #[.val (.int p1), .val (.long q2), .second, .val (.int v3_1), .val (.int v9_2), .val (.long r3), .second, .val (.ref a_INTEGER), .val (.int z97_a21)] [(.int (if r3 < (-2147483648 : Int64) then (0 : Int32) else (if (2147483647 : Int64) < r3 then (0 : Int32) else (1 : Int32))))])) (fun t k => st24.trans k) ?_
        refine Go.on (B := T24.setTop (mkF m 127 #[.val (.int p1), .val (.long q2), .second, .val (.int v3_1), .val (.int v9_2), .val (.long r3), .second, .val (.ref a_INTEGER), .val (.int z97_a21)] [(.int z97_a21), (.int (if r3 < (-2147483648 : Int64) then (0 : Int32) else (if (2147483647 : Int64) < r3 then (0 : Int32) else (1 : Int32))))])) (fun t k => XS.iload X24.here hx rfl (hb hby at_125) rfl k) ?_
        have hc127_25 : (if r3 < (-2147483648 : Int64) then (0 : Int32) else (if (2147483647 : Int64) < r3 then (0 : Int32) else (1 : Int32))) = z97_a21 := by rw [hz97_a21]; exact own_i _
        refine Go.on (B := T24.setTop (mkF m 130 #[.val (.int p1), .val (.long q2), .second, .val (.int v3_1), .val (.int v9_2), .val (.long r3), .second, .val (.ref a_INTEGER), .val (.int z97_a21)] [])) (fun t k => XS.icmpNo X24.here hx rfl (hb hby at_127) rfl (teq hc127_25).2 k) ?_
        refine Go.on (B := T24.setTop (mkF m 131 #[.val (.int p1), .val (.long q2), .second, .val (.int v3_1), .val (.int v9_2), .val (.long r3), .second, .val (.ref a_INTEGER), .val (.int z97_a21)] [(.int (1 : Int32))])) (fun t k => XS.iconst X24.here hx rfl (hb hby at_130) k) ?_
        refine Go.on (B := T24.setTop (mkF m 135 #[.val (.int p1), .val (.long q2), .second, .val (.int v3_1), .val (.int v9_2), .val (.long r3), .second, .val (.ref a_INTEGER), .val (.int z97_a21)] [(.int (1 : Int32))])) (fun t k => XS.goto X24.here hx rfl (pc0 := 131) (pc' := 135) rfl (hb hby at_131) (by decide) (by decide) k) ?_
        obtain ⟨fs, hr, hrun, hended, hW, hsame⟩ := X24.leave (v := some (.int (1 : Int32))) (fun h => by rw [Bd.returns] at h; cases h)
        refine ⟨_, _, ?_, hrun, hended, _, _, rfl, ?_, ⟨_, rfl⟩, hW, hsame.mono (by decide) (by decide)⟩
        · exact retN X24 hx (t := .boolean) Bd.returns (by simp) (hb hby at_135) hr
        · show Q_rm0 Z p1 q2 a_BYTEINT a_SMALLINT a_INTEGER a_BIGINT h0 n0 _ T24.heap _
          rw [e24q]
          exact ⟨rfl, N24⟩
      · refine Go.on (B := T3.setTop (mkF m 110 #[.val (.int p1), .val (.long q2), .second, .val (.int v3_1), .val (.int v9_2), .val (.long r3), .second, .unset, .unset] [])) (fun t k => XS.icmpYes X3.here hx rfl (pc0 := 82) (pc' := 110) rfl (hb hby at_82) rfl (feq hc82_19).2 (by decide) (by decide) k) ?_
        obtain ⟨T26, X26, e26, st26⟩ := getS2 X3 hx hZ hown (host := "") (Or.inl (hw _ (List.mem_of_getElem? (i := 23) rfl))) Via.refl e3q S_BIGINT (g := (mkF m 110 #[.val (.int p1), .val (.long q2), .second, .val (.int v3_1), .val (.int v9_2), .val (.long r3), .second, .unset, .unset] [])) rfl (hb hby at_110)
        refine Go.on (B := T26.setTop (mkF m 113 #[.val (.int p1), .val (.long q2), .second, .val (.int v3_1), .val (.int v9_2), .val (.long r3), .second, .unset, .unset] [(.ref a_BIGINT)])) (fun t k => st26 _ k) ?_
        refine Go.on (B := T26.setTop (mkF m 115 #[.val (.int p1), .val (.long q2), .second, .val (.int v3_1), .val (.int v9_2), .val (.long r3), .second, .val (.ref a_BIGINT), .unset] [])) (fun t k => XS.astore X26.here hx rfl (hb hby at_113) rfl rfl (l' := #[.val (.int p1), .val (.long q2), .second, .val (.int v3_1), .val (.int v9_2), .val (.long r3), .second, .val (.ref a_BIGINT), .unset]) rfl k) ?_
        refine Go.on (B := T26.setTop (mkF m 116 #[.val (.int p1), .val (.long q2), .second, .val (.int v3_1), .val (.int v9_2), .val (.long r3), .second, .val (.ref a_BIGINT), .unset] [(.int (1 : Int32))])) (fun t k => XS.iconst X26.here hx rfl (hb hby at_115) k) ?_
        refine Go.on (B := T26.setTop (mkF m 118 #[.val (.int p1), .val (.long q2), .second, .val (.int v3_1), .val (.int v9_2), .val (.long r3), .second, .val (.ref a_BIGINT), .val (.int (1 : Int32))] [])) (fun t k => XS.istore X26.here hx rfl (hb hby at_116) rfl (l' := #[.val (.int p1), .val (.long q2), .second, .val (.int v3_1), .val (.int v9_2), .val (.long r3), .second, .val (.ref a_BIGINT), .val (.int (1 : Int32))]) rfl k) ?_
        refine Go.on (B := T26.setTop (mkF m 120 #[.val (.int p1), .val (.long q2), .second, .val (.int v3_1), .val (.int v9_2), .val (.long r3), .second, .val (.ref a_BIGINT), .val (.int (1 : Int32))] [(.ref a_BIGINT)])) (fun t k => XS.aload X26.here hx rfl (hb hby at_118) rfl rfl k) ?_
        refine Go.on (B := T26.setTop (mkF m 122 #[.val (.int p1), .val (.long q2), .second, .val (.int v3_1), .val (.int v9_2), .val (.long r3), .second, .val (.ref a_BIGINT), .val (.int (1 : Int32))] [(.long r3), (.ref a_BIGINT)])) (fun t k => XS.lload X26.here hx rfl (hb hby at_120) rfl k) ?_
        obtain ⟨cq28, kq28, q28a, q28b, q28c⟩ := isOf hZ e26 E_BIGINT
        obtain ⟨_, _, ⟨T28, L28, k28, n28⟩, -, X28, ⟨Lc28, hQ28, l28, y28, z28⟩, st28⟩ := X26.virtualBack hx (y := (⟨"com/example/stricture/stricture/type/TypeKind", "holds", "(J)Z"⟩ : MethodName)) (z := (⟨"com/example/stricture/stricture/type/TypeKind", "holds", "(J)Z"⟩ : MethodName)) hown (mvT hZ (hw _ (List.mem_of_getElem? (i := 7) rfl))) (mvT hZ (hw _ (List.mem_of_getElem? (i := 8) rfl))) (notFace_of_selects (args := #[]) (mvT hZ (hw _ (List.mem_of_getElem? (i := 10) rfl)))) (mvT hZ (hw _ (List.mem_of_getElem? (i := 10) rfl))) (mvT hZ (hw _ (List.mem_of_getElem? (i := 9) rfl))) (by decide) (backOf (W := 0) (rhold l Z a0 hw [] a_BIGINT r3 (-9223372036854775808 : Int64) (9223372036854775807 : Int64) h0 n0 Z0 N_BIGINT M_BIGINT) hZ (hw _ (List.mem_of_getElem? (i := 11) rfl)) (hw _ (List.mem_of_getElem? (i := 5) rfl)) (by decide) (by decide)) q28a q28c (g := (mkF m 122 #[.val (.int p1), .val (.long q2), .second, .val (.int v3_1), .val (.int v9_2), .val (.long r3), .second, .val (.ref a_BIGINT), .val (.int (1 : Int32))] [(.long r3), (.ref a_BIGINT)])) rfl (by rw [hml]; rfl) (Steps.refl _) (argsL := [(.long r3)]) (rest := []) (lenOf pd_1 rfl) rfl (by show 2 * 0 + _ ≤ _; exact Nat.le_of_eq rfl) (hb hby at_122) (fun _ _ => ⟨rfl, e26, (by decide : 0 + 0 ≤ _), (by decide : 0 + 0 ≤ _)⟩)
        dsimp only [Pt.U, Pt.locs, Pt.cells, Pt.slots] at X28 l28 y28 z28 st28 hQ28
        subst l28 y28 z28
        obtain ⟨rfl, N28q, e28q⟩ := hQ28
        have N28 := Fr.app N3 N28q
        refine Go.on (B := T28.setTop (mkF m 125 #[.val (.int p1), .val (.long q2), .second, .val (.int v3_1), .val (.int v9_2), .val (.long r3), .second, .val (.ref a_BIGINT), .val (.int (1 : Int32))] [(.int (if r3 < (-9223372036854775808 : Int64) then (0 : Int32) else (if (9223372036854775807 : Int64) < r3 then (0 : Int32) else (1 : Int32))))])) (fun t k => st28.trans k) ?_
        refine Go.on (B := T28.setTop (mkF m 127 #[.val (.int p1), .val (.long q2), .second, .val (.int v3_1), .val (.int v9_2), .val (.long r3), .second, .val (.ref a_BIGINT), .val (.int (1 : Int32))] [(.int (1 : Int32)), (.int (if r3 < (-9223372036854775808 : Int64) then (0 : Int32) else (if (9223372036854775807 : Int64) < r3 then (0 : Int32) else (1 : Int32))))])) (fun t k => XS.iload X28.here hx rfl (hb hby at_125) rfl k) ?_
        have hc127_29 : (if r3 < (-9223372036854775808 : Int64) then (0 : Int32) else (if (9223372036854775807 : Int64) < r3 then (0 : Int32) else (1 : Int32))) = (1 : Int32) := own_g _
        refine Go.on (B := T28.setTop (mkF m 130 #[.val (.int p1), .val (.long q2), .second, .val (.int v3_1), .val (.int v9_2), .val (.long r3), .second, .val (.ref a_BIGINT), .val (.int (1 : Int32))] [])) (fun t k => XS.icmpNo X28.here hx rfl (hb hby at_127) rfl (teq hc127_29).2 k) ?_
        refine Go.on (B := T28.setTop (mkF m 131 #[.val (.int p1), .val (.long q2), .second, .val (.int v3_1), .val (.int v9_2), .val (.long r3), .second, .val (.ref a_BIGINT), .val (.int (1 : Int32))] [(.int (1 : Int32))])) (fun t k => XS.iconst X28.here hx rfl (hb hby at_130) k) ?_
        refine Go.on (B := T28.setTop (mkF m 135 #[.val (.int p1), .val (.long q2), .second, .val (.int v3_1), .val (.int v9_2), .val (.long r3), .second, .val (.ref a_BIGINT), .val (.int (1 : Int32))] [(.int (1 : Int32))])) (fun t k => XS.goto X28.here hx rfl (pc0 := 131) (pc' := 135) rfl (hb hby at_131) (by decide) (by decide) k) ?_
        obtain ⟨fs, hr, hrun, hended, hW, hsame⟩ := X28.leave (v := some (.int (1 : Int32))) (fun h => by rw [Bd.returns] at h; cases h)
        refine ⟨_, _, ?_, hrun, hended, _, _, rfl, ?_, ⟨_, rfl⟩, hW, hsame.mono (by decide) (by decide)⟩
        · exact retN X28 hx (t := .boolean) Bd.returns (by simp) (hb hby at_135) hr
        · show Q_rm0 Z p1 q2 a_BYTEINT a_SMALLINT a_INTEGER a_BIGINT h0 n0 _ T28.heap _
          rw [e28q]
          exact ⟨rfl, N28⟩
set_option maxRecDepth 65536 in
set_option maxHeartbeats 40000000 in
theorem comes_1 {Post : Tables → Env → Array Value → State → Outcome → State → Prop} (hpost : ∀ tb e args s v u, (limb_1_1.after args s (.returned v) u = true ∧ limb_1_2.after args s (.returned v) u = true ∧ True) → FrameEnd s (.returned v) u (Jvm.fieldLocs frame_1_writes args s ++ Jvm.arrayLocs frame_1_arrays args s ++ Jvm.staticLocs frame_1_statics s) 0 0 → Post tb e args s (.returned v) u) :
    ArmFor flags0 classFile x code maxLocals ret World_1 tables_1 room_1 Calls_1 rest_1 Pre_1 Post := by
  intro l hfl _ _ p e ha hc hk s m args below hf hA hF happ hP
  obtain ⟨hcalls, hrest, hpre⟩ := hP
  obtain ⟨-, -, -, hnamed, -, -, -, hat⟩ := (Spec.applies_iff hf).mp happ
  obtain ⟨hg, hn⟩ := and_e (Cond.before_iff.mp (show (Jvm.Cond.and given_1 narrow_1).before args s = true from hpre))
  obtain ⟨gc, gr0⟩ := and_e hg
  obtain ⟨ga0, gr1⟩ := and_e gr0
  obtain ⟨w0, w1, rfl⟩ : ∃ w0 w1 : Value, args = #[w0, w1] := by
    have hs : args.size = 2 := by simpa [Cond.value, given_1] using gc
    obtain ⟨L⟩ := args
    match L, hs with
    | [w0, w1], _ => exact ⟨w0, w1, rfl⟩
  have hw := fun d (hd : d ∈ tables_1) => atoms_spec (ws := Jvm.Cond.code x code maxLocals ret :: tables_1) hat d (List.mem_cons_of_mem _ hd)
  have hfit : Fit s := fun {y c} hc i hi => by
    obtain ⟨ha, rfl⟩ := Array.getElem?_eq_some_iff.mp hc
    have q := List.all_eq_true.mp ((Array.all_eq_true_iff_forall_mem.mp hF) _ (Array.getElem_mem ha)) i (List.mem_range.mpr hi)
    simpa [Array.getElem?_eq_getElem hi] using q
  obtain ⟨i0, ei0⟩ := is_v ga0
  obtain rfl : w0 = (.int i0) := Option.some.inj ei0
  obtain ⟨i1, ei1⟩ := isL_v gr1
  obtain rfl : w1 = (.long i1) := Option.some.inj ei1
  obtain ⟨cE_BYTEINT, cr0⟩ := and_e hn
  obtain ⟨cN_BYTEINT, cr1⟩ := and_e cr0
  obtain ⟨cM_BYTEINT, cr2⟩ := and_e cr1
  obtain ⟨cE_SMALLINT, cr3⟩ := and_e cr2
  obtain ⟨cN_SMALLINT, cr4⟩ := and_e cr3
  obtain ⟨cE_INTEGER, cr5⟩ := and_e cr4
  obtain ⟨cN_INTEGER, cr6⟩ := and_e cr5
  obtain ⟨cM_INTEGER, cr7⟩ := and_e cr6
  obtain ⟨cE_BIGINT, cr8⟩ := and_e cr7
  obtain ⟨cN_BIGINT, cr9⟩ := and_e cr8
  obtain ⟨cM_BIGINT, cr10⟩ := and_e cr9
  have cM_SMALLINT := cr10
  obtain ⟨a_BYTEINT, v_BYTEINT⟩ := exa_v cE_BYTEINT
  have E_BYTEINT := Exa.start v_BYTEINT cE_BYTEINT
  have S_BYTEINT : Sta s s.heap "com/example/stricture/stricture/type/TypeKind" "BYTEINT" "Lcom/example/stricture/stricture/type/TypeKind;" (.ref a_BYTEINT) := Sta.start v_BYTEINT (Or.inr ⟨(hw _ (List.mem_of_getElem? (i := 5) rfl)), (hw _ (List.mem_of_getElem? (i := 6) rfl))⟩)
  have N_BYTEINT := Fld.start (own_fl v_BYTEINT cN_BYTEINT)
  have M_BYTEINT := Fld.start (own_fl v_BYTEINT cM_BYTEINT)
  obtain ⟨a_SMALLINT, v_SMALLINT⟩ := exa_v cE_SMALLINT
  have E_SMALLINT := Exa.start v_SMALLINT cE_SMALLINT
  have S_SMALLINT : Sta s s.heap "com/example/stricture/stricture/type/TypeKind" "SMALLINT" "Lcom/example/stricture/stricture/type/TypeKind;" (.ref a_SMALLINT) := Sta.start v_SMALLINT (Or.inr ⟨(hw _ (List.mem_of_getElem? (i := 5) rfl)), (hw _ (List.mem_of_getElem? (i := 17) rfl))⟩)
  have N_SMALLINT := Fld.start (own_fl v_SMALLINT cN_SMALLINT)
  have M_SMALLINT := Fld.start (own_fl v_SMALLINT cM_SMALLINT)
  obtain ⟨a_INTEGER, v_INTEGER⟩ := exa_v cE_INTEGER
  have E_INTEGER := Exa.start v_INTEGER cE_INTEGER
  have S_INTEGER : Sta s s.heap "com/example/stricture/stricture/type/TypeKind" "INTEGER" "Lcom/example/stricture/stricture/type/TypeKind;" (.ref a_INTEGER) := Sta.start v_INTEGER (Or.inr ⟨(hw _ (List.mem_of_getElem? (i := 5) rfl)), (hw _ (List.mem_of_getElem? (i := 20) rfl))⟩)
  have N_INTEGER := Fld.start (own_fl v_INTEGER cN_INTEGER)
  have M_INTEGER := Fld.start (own_fl v_INTEGER cM_INTEGER)
  obtain ⟨a_BIGINT, v_BIGINT⟩ := exa_v cE_BIGINT
  have E_BIGINT := Exa.start v_BIGINT cE_BIGINT
  have S_BIGINT : Sta s s.heap "com/example/stricture/stricture/type/TypeKind" "BIGINT" "Lcom/example/stricture/stricture/type/TypeKind;" (.ref a_BIGINT) := Sta.start v_BIGINT (Or.inr ⟨(hw _ (List.mem_of_getElem? (i := 5) rfl)), (hw _ (List.mem_of_getElem? (i := 24) rfl))⟩)
  have N_BIGINT := Fld.start (own_fl v_BIGINT cN_BIGINT)
  have M_BIGINT := Fld.start (own_fl v_BIGINT cM_BIGINT)
  obtain ⟨n, o, h1, h2, h3, _, L, rfl, ⟨rfl, N⟩, hq⟩ := rm0 l s _ hw tables_1 i0 i1 a_BYTEINT a_SMALLINT a_INTEGER a_BIGINT s.heap s.heap.size (Nat.le_refl _) S_BYTEINT E_BYTEINT N_BYTEINT M_BYTEINT S_SMALLINT E_SMALLINT N_SMALLINT M_SMALLINT S_INTEGER E_INTEGER N_INTEGER M_INTEGER S_BIGINT E_BIGINT N_BIGINT M_BIGINT p e ha hc hk s m _ below hf ((Spec.applies_iff_loose hf).mp happ).1 ⟨rfl, State.Warmed39.refl s, rfl⟩ trivial
  refine ⟨n, _, h1, h2, h3, hpost _ _ _ _ _ _ ⟨Cond.after_iff.mpr rfl, Cond.after_iff.mpr (eq_i res_at (Term.int_eval (1)) rfl), trivial⟩ ⟨hq.1, hq.2.1, (hq.2.2.sift fun y hy => Or.inr (N y hy)).mono (by decide) (by decide)⟩⟩
theorem main_1_1 : Claimed_1_1 := comes_1 fun _ _ _ _ _ _ h hF => ⟨h.1, hF⟩
theorem main_1_2 : Claimed_1_2 := comes_1 fun _ _ _ _ _ _ h hF => ⟨h.2.1, hF⟩
end Jvm.Pilot.@@N@@
namespace Jvm.Pilot.@@N@@
open Jvm Jvm.ClassFile Sem Op Lib Jvm.Free Jvm.Stand Jvm.Pilot.@@N@@.Jvm.D
/-! MADE BY PROGRAM (witnessworld.py) out of the Statement's table words and the real class files: 12 classes; the members and pool entries that the words name. The judged class is class 1, her method 2. -/
namespace start1
open Jvm.ClassFile
def u (s : String) : CpInfo := .utf8 (stringToUtf16 s)
/-- a pool by its gaps: so many unusable entries, then the entry; so many at the end -/
def gap : Nat → List CpInfo → List CpInfo
  | 0, r => r
  | n + 1, r => .unusable :: gap n r
def poolList (es : List (Nat × CpInfo)) (last : Nat) : List CpInfo := es.foldr (fun e r => gap e.1 (e.2 :: r)) (gap last [])
def pool (es : List (Nat × CpInfo)) (last : Nat) : Array CpInfo := ⟨poolList es last⟩
def fileOf (pool : Array CpInfo) (this : Nat) (attrs : Array Attribute := #[]) (ms : Array MethodInfo := #[]) (fl : Nat := 33) (sup : Nat := 0) (ifs : Array Nat := #[]) (fds : Array FieldInfo := #[]) : ClassFile where
  minorVersion := 0
  majorVersion := 65
  constantPool := pool
  accessFlags := fl
  thisClass := this
  superClass := sup
  interfaces := ifs
  fields := fds
  methods := ms
  attributes := attrs
def plain (name : String) (sup : Option ClassId) : Class where
  name := name
  kind := .ordinary
  loader := none
  accessFlags := 33
  super := sup
  interfaces := #[]
  cf := none
  fields := #[]
  methods := #[]
  instanceTypes := #[]
  staticTypes := #[]
  resolved := #[]
  callSites := []
  init := .initialized
  statics := none
  mirror := none

def pool0 : Array CpInfo := pool [(5, u "<init>"), (0, u "()V"), (1, .class_ 10), (1, u "java/lang/Object")] 113

def k0m0 : Method := { name := "<init>", desc := "()V", sig := { parameters := [], returnType := none }, accessFlags := 1, code := none }
/-- java/lang/Object -/
def k0 : Class := { plain "java/lang/Object" none with
  accessFlags := 33
  interfaces := #[]
  cf := some (fileOf pool0 8 #[] #[{ accessFlags := 1, nameIndex := 5, descriptorIndex := 6, attributes := #[] }] 33 0 #[] #[])
  fields := #[]
  methods := #[k0m0]
  instanceTypes := #[]
  staticTypes := #[]
  resolved := Array.replicate 124 none
  statics := none }

def pool1 : Array CpInfo := pool [(2, .class_ 4), (1, u "java/lang/Object"), (0, u "<init>"), (0, u "()V"), (0, .long 300), (1, .long 70000), (1, .long 2147483647), (1, .long 18446744071562067968), (1, .long 3), (1, .methodref 18 19), (0, .class_ 20), (0, .nameAndType 21 22), (0, u "com/example/stricture/stricture/type/TypeKindHoldsPinLaw"), (0, u "pickValue"), (0, u "(IJ)J"), (0, .fieldref 24 25), (0, .class_ 26), (0, .nameAndType 27 28), (0, u "com/example/stricture/stricture/type/TypeKind"), (0, u "BYTEINT"), (0, u "Lcom/example/stricture/stricture/type/TypeKind;"), (0, .fieldref 24 30), (0, .nameAndType 31 28), (0, u "SMALLINT"), (0, .fieldref 24 33), (0, .nameAndType 34 28), (0, u "INTEGER"), (0, .fieldref 24 36), (0, .nameAndType 37 28), (0, u "BIGINT"), (0, .methodref 24 39), (0, .nameAndType 40 41), (0, u "holds"), (0, u "(J)Z"), (3, u "law"), (0, u "(IJ)Z")] 2

def k1m0 : Method := { name := "<init>", desc := "()V", sig := { parameters := [], returnType := none }, accessFlags := 2, code := none }
def k1c1 : Code := { maxStack := 6, maxLocals := 5, code := method_2_code, exceptionTable := #[], attributes := #[] }
def k1m1 : Method := { name := "pickValue", desc := "(IJ)J", sig := { parameters := [.int, .long], returnType := some .long }, accessFlags := 10, code := some k1c1 }
def k1c2 : Code := { maxStack := 4, maxLocals := 9, code := code, exceptionTable := #[], attributes := #[] }
def k1m2 : Method := { name := "law", desc := "(IJ)Z", sig := { parameters := [.int, .long], returnType := some .boolean }, accessFlags := 9, code := some k1c2 }
/-- com/example/stricture/stricture/type/TypeKindHoldsPinLaw -/
def k1 : Class := { plain "com/example/stricture/stricture/type/TypeKindHoldsPinLaw" (some 0) with
  accessFlags := 49
  interfaces := #[]
  cf := some (fileOf pool1 18 #[] #[{ accessFlags := 2, nameIndex := 5, descriptorIndex := 6, attributes := #[] }, { accessFlags := 10, nameIndex := 21, descriptorIndex := 22, attributes := #[] }, { accessFlags := 9, nameIndex := 45, descriptorIndex := 46, attributes := #[] }] 49 2 #[] #[])
  fields := #[]
  methods := #[k1m0, k1m1, k1m2]
  instanceTypes := #[]
  staticTypes := #[]
  resolved := Array.replicate 49 none
  statics := none }

def pool2 : Array CpInfo := pool [(1, .class_ 2), (0, u "java/lang/constant/Constable"), (0, .class_ 4), (0, u "java/lang/Object")] 6

/-- java/lang/constant/Constable -/
def k2 : Class := { plain "java/lang/constant/Constable" (some 0) with
  accessFlags := 1537
  interfaces := #[]
  cf := some (fileOf pool2 1 #[] #[] 1537 3 #[] #[])
  fields := #[]
  methods := #[]
  instanceTypes := #[]
  staticTypes := #[]
  resolved := Array.replicate 11 none
  statics := none }

def pool3 : Array CpInfo := pool [(1, .class_ 2), (0, u "java/lang/Comparable"), (0, .class_ 4), (0, u "java/lang/Object")] 7

/-- java/lang/Comparable -/
def k3 : Class := { plain "java/lang/Comparable" (some 0) with
  accessFlags := 1537
  interfaces := #[]
  cf := some (fileOf pool3 1 #[] #[] 1537 3 #[] #[])
  fields := #[]
  methods := #[]
  instanceTypes := #[]
  staticTypes := #[]
  resolved := Array.replicate 12 none
  statics := none }

def pool4 : Array CpInfo := pool [(1, .class_ 2), (0, u "java/io/Serializable"), (0, .class_ 4), (0, u "java/lang/Object")] 2

/-- java/io/Serializable -/
def k4 : Class := { plain "java/io/Serializable" (some 0) with
  accessFlags := 1537
  interfaces := #[]
  cf := some (fileOf pool4 1 #[] #[] 1537 3 #[] #[])
  fields := #[]
  methods := #[]
  instanceTypes := #[]
  staticTypes := #[]
  resolved := Array.replicate 7 none
  statics := none }

def pool5 : Array CpInfo := pool [(2, .class_ 4), (1, u "java/lang/Enum"), (0, u "name"), (0, u "Ljava/lang/String;"), (2, u "ordinal"), (0, u "I"), (1, .class_ 14), (1, u "java/lang/Object"), (4, u "hash"), (86, .class_ 108), (1, u "java/lang/Enum$EnumDesc"), (2, .class_ 112), (0, u "java/lang/constant/Constable"), (0, .class_ 114), (0, u "java/lang/Comparable"), (0, .class_ 116), (0, u "java/io/Serializable")] 87

/-- java/lang/Enum -/
def k5 : Class := { plain "java/lang/Enum" (some 0) with
  accessFlags := 1057
  interfaces := #[2, 3, 4]
  cf := some (fileOf pool5 2 #[.nestMembers #[106]] #[] 1057 12 #[111, 113, 115] #[{ accessFlags := 18, nameIndex := 5, descriptorIndex := 6, attributes := #[] }, { accessFlags := 18, nameIndex := 9, descriptorIndex := 10, attributes := #[] }, { accessFlags := 2, nameIndex := 19, descriptorIndex := 10, attributes := #[] }])
  fields := #[{ name := "name", type := (.object "java/lang/String"), accessFlags := 18, slot := 0, constantValue := 0 }, { name := "ordinal", type := .int, accessFlags := 18, slot := 1, constantValue := 0 }, { name := "hash", type := .int, accessFlags := 2, slot := 2, constantValue := 0 }]
  methods := #[]
  instanceTypes := #[(.object "java/lang/String"), .int, .int]
  staticTypes := #[]
  resolved := Array.replicate 204 none
  statics := none }

def pool6 : Array CpInfo := pool [(1, .class_ 2), (0, u "com/example/stricture/stricture/type/TypeKind"), (2, u "BYTEINT"), (0, u "Lcom/example/stricture/stricture/type/TypeKind;"), (2, u "SMALLINT"), (2, u "INTEGER"), (2, u "BIGINT"), (2, u "DECIMAL"), (2, u "FLOAT"), (2, u "CHAR"), (2, u "VARCHAR"), (2, u "DATE"), (2, u "CLOB"), (2, u "BLOB"), (2, u "XML"), (2, u "JSON"), (2, u "PERIOD"), (2, u "$VALUES"), (0, u "[Lcom/example/stricture/stricture/type/TypeKind;"), (6, .class_ 58), (1, u "java/lang/Enum"), (8, u "family"), (0, u "Lcom/example/stricture/stricture/type/TypeKind$Family;"), (0, .fieldref 1 70), (0, .nameAndType 71 72), (0, u "min"), (0, u "J"), (0, .fieldref 1 74), (0, .nameAndType 75 72), (0, u "max"), (8, .class_ 86), (1, u "com/example/stricture/stricture/type/TypeKind$Family"), (65, u "holds"), (0, u "(J)Z")] 8

def k6c0 : Code := { maxStack := 4, maxLocals := 3, code := prog_126_method_6_code, exceptionTable := #[], attributes := #[] }
def k6m0 : Method := { name := "holds", desc := "(J)Z", sig := { parameters := [.long], returnType := some .boolean }, accessFlags := 0, code := some k6c0 }
/-- com/example/stricture/stricture/type/TypeKind -/
def k6 : Class := { plain "com/example/stricture/stricture/type/TypeKind" (some 5) with
  accessFlags := 16433
  interfaces := #[]
  cf := some (fileOf pool6 1 #[.nestMembers #[84]] #[{ accessFlags := 0, nameIndex := 152, descriptorIndex := 153, attributes := #[] }] 16433 56 #[] #[{ accessFlags := 16409, nameIndex := 5, descriptorIndex := 6, attributes := #[] }, { accessFlags := 16409, nameIndex := 9, descriptorIndex := 6, attributes := #[] }, { accessFlags := 16409, nameIndex := 12, descriptorIndex := 6, attributes := #[] }, { accessFlags := 16409, nameIndex := 15, descriptorIndex := 6, attributes := #[] }, { accessFlags := 16409, nameIndex := 18, descriptorIndex := 6, attributes := #[] }, { accessFlags := 16409, nameIndex := 21, descriptorIndex := 6, attributes := #[] }, { accessFlags := 16409, nameIndex := 24, descriptorIndex := 6, attributes := #[] }, { accessFlags := 16409, nameIndex := 27, descriptorIndex := 6, attributes := #[] }, { accessFlags := 16409, nameIndex := 30, descriptorIndex := 6, attributes := #[] }, { accessFlags := 16409, nameIndex := 33, descriptorIndex := 6, attributes := #[] }, { accessFlags := 16409, nameIndex := 36, descriptorIndex := 6, attributes := #[] }, { accessFlags := 16409, nameIndex := 39, descriptorIndex := 6, attributes := #[] }, { accessFlags := 16409, nameIndex := 42, descriptorIndex := 6, attributes := #[] }, { accessFlags := 16409, nameIndex := 45, descriptorIndex := 6, attributes := #[] }, { accessFlags := 18, nameIndex := 67, descriptorIndex := 68, attributes := #[] }, { accessFlags := 18, nameIndex := 71, descriptorIndex := 72, attributes := #[] }, { accessFlags := 18, nameIndex := 75, descriptorIndex := 72, attributes := #[] }, { accessFlags := 4122, nameIndex := 48, descriptorIndex := 49, attributes := #[] }])
  fields := #[{ name := "BYTEINT", type := (.object "com/example/stricture/stricture/type/TypeKind"), accessFlags := 16409, slot := 0, constantValue := 0 }, { name := "SMALLINT", type := (.object "com/example/stricture/stricture/type/TypeKind"), accessFlags := 16409, slot := 1, constantValue := 0 }, { name := "INTEGER", type := (.object "com/example/stricture/stricture/type/TypeKind"), accessFlags := 16409, slot := 2, constantValue := 0 }, { name := "BIGINT", type := (.object "com/example/stricture/stricture/type/TypeKind"), accessFlags := 16409, slot := 3, constantValue := 0 }, { name := "DECIMAL", type := (.object "com/example/stricture/stricture/type/TypeKind"), accessFlags := 16409, slot := 4, constantValue := 0 }, { name := "FLOAT", type := (.object "com/example/stricture/stricture/type/TypeKind"), accessFlags := 16409, slot := 5, constantValue := 0 }, { name := "CHAR", type := (.object "com/example/stricture/stricture/type/TypeKind"), accessFlags := 16409, slot := 6, constantValue := 0 }, { name := "VARCHAR", type := (.object "com/example/stricture/stricture/type/TypeKind"), accessFlags := 16409, slot := 7, constantValue := 0 }, { name := "DATE", type := (.object "com/example/stricture/stricture/type/TypeKind"), accessFlags := 16409, slot := 8, constantValue := 0 }, { name := "CLOB", type := (.object "com/example/stricture/stricture/type/TypeKind"), accessFlags := 16409, slot := 9, constantValue := 0 }, { name := "BLOB", type := (.object "com/example/stricture/stricture/type/TypeKind"), accessFlags := 16409, slot := 10, constantValue := 0 }, { name := "XML", type := (.object "com/example/stricture/stricture/type/TypeKind"), accessFlags := 16409, slot := 11, constantValue := 0 }, { name := "JSON", type := (.object "com/example/stricture/stricture/type/TypeKind"), accessFlags := 16409, slot := 12, constantValue := 0 }, { name := "PERIOD", type := (.object "com/example/stricture/stricture/type/TypeKind"), accessFlags := 16409, slot := 13, constantValue := 0 }, { name := "family", type := (.object "com/example/stricture/stricture/type/TypeKind$Family"), accessFlags := 18, slot := 3, constantValue := 0 }, { name := "min", type := .long, accessFlags := 18, slot := 4, constantValue := 0 }, { name := "max", type := .long, accessFlags := 18, slot := 5, constantValue := 0 }, { name := "$VALUES", type := (.array (.object "com/example/stricture/stricture/type/TypeKind")), accessFlags := 4122, slot := 14, constantValue := 0 }]
  methods := #[k6m0]
  instanceTypes := #[(.object "java/lang/String"), .int, .int, (.object "com/example/stricture/stricture/type/TypeKind$Family"), .long, .long]
  staticTypes := #[(.object "com/example/stricture/stricture/type/TypeKind"), (.object "com/example/stricture/stricture/type/TypeKind"), (.object "com/example/stricture/stricture/type/TypeKind"), (.object "com/example/stricture/stricture/type/TypeKind"), (.object "com/example/stricture/stricture/type/TypeKind"), (.object "com/example/stricture/stricture/type/TypeKind"), (.object "com/example/stricture/stricture/type/TypeKind"), (.object "com/example/stricture/stricture/type/TypeKind"), (.object "com/example/stricture/stricture/type/TypeKind"), (.object "com/example/stricture/stricture/type/TypeKind"), (.object "com/example/stricture/stricture/type/TypeKind"), (.object "com/example/stricture/stricture/type/TypeKind"), (.object "com/example/stricture/stricture/type/TypeKind"), (.object "com/example/stricture/stricture/type/TypeKind"), (.array (.object "com/example/stricture/stricture/type/TypeKind"))]
  resolved := Array.replicate 162 none
  statics := some 0 }

def pool7 : Array CpInfo := pool [(1, u "java/lang/Cloneable"), (0, .class_ 1), (0, u "java/lang/Object"), (0, .class_ 3)] 3

/-- java/lang/Cloneable -/
def k7 : Class := { plain "java/lang/Cloneable" (some 0) with
  accessFlags := 1537
  interfaces := #[]
  cf := some (fileOf pool7 2 #[] #[] 1537 4 #[] #[])
  fields := #[]
  methods := #[]
  instanceTypes := #[]
  staticTypes := #[]
  resolved := Array.replicate 8 none
  statics := none }

/-- the primitive byte -/
def k8 : Class := { plain "byte" none with kind := .primitive 'B', accessFlags := 0x411 }
/-- [B -/
def k9 : Class := { plain "[B" (some 0) with kind := .array 8 .byte, interfaces := #[7, 4], accessFlags := 1041 }

/-- the primitive int -/
def k10 : Class := { plain "int" none with kind := .primitive 'I', accessFlags := 0x411 }
/-- [I -/
def k11 : Class := { plain "[I" (some 0) with kind := .array 10 .int, interfaces := #[7, 4], accessFlags := 1041 }

def heap : Heap := #[{ cls := 6, slots := #[.ref 1, .ref 2, .ref 3, .ref 4, .null, .null, .null, .null, .null, .null, .null, .null, .null, .null, .null], vm := .statics 6 },
  { cls := 6, slots := #[.null, .int 0, .int 0, .null, .long (-128), .long 127], vm := .none },
  { cls := 6, slots := #[.null, .int 0, .int 0, .null, .long (-32768), .long 32767], vm := .none },
  { cls := 6, slots := #[.null, .int 0, .int 0, .null, .long (-2147483648), .long 2147483647], vm := .none },
  { cls := 6, slots := #[.null, .int 0, .int 0, .null, .long (-9223372036854775808), .long 9223372036854775807], vm := .none }]
def classes : Array Class := #[k0, k1, k2, k3, k4, k5, k6, k7, k8, k9, k10, k11]
def interned : List (Array UInt16 × Addr) := []
def slotsUsed : Nat := 39
def theMethod : MethodId := ⟨1, 2⟩
def args0 : Array Value := #[.int 5, .long 4]
def aboutOver (below : List Frame) : State where
  vm := { classes := classes, interned := interned.toArray }
  heap := heap
  slotsUsed := slotsUsed
  threads := #[{ frames := .invoking theMethod args0 :: below }]
def below0 : List Frame := [.native { method := ⟨0, 0⟩, args := #[] }]
def about1 : State := aboutOver below0
def p0 : Program := .bare "" "" ""
def e0 : Env := launch0.env 0 0 0
theorem w_frames : about1.frames = Frame.invoking theMethod args0 :: below0 := rfl
set_option maxRecDepth 65536 in
theorem w_args : argsFit about1.vm theMethod args0 = true := by decide +kernel
set_option maxRecDepth 65536 in
theorem w_heap : heapFits about1 = true := by decide +kernel
set_option maxRecDepth 65536 in
theorem w_runnable : about1.curStatus? = some .runnable := by decide +kernel
set_option maxRecDepth 65536 in
theorem w_alone : about1.alone = true := by decide +kernel
set_option maxRecDepth 65536 in
theorem w_named : about1.methodNamed? x = some theMethod := by decide +kernel
set_option maxRecDepth 65536 in
theorem w_hears : about1.hears theMethod below0 = true := by decide +kernel
set_option maxRecDepth 65536 in
theorem w_ripe : about1.ripe theMethod args0 below0 = true := by decide +kernel
theorem w_running : about1.status = .running := rfl
set_option maxRecDepth 65536 in
theorem w_room : about1.hasRoom e0.platform room_1 = true :=
  launch0.hasRoom_least _ room_1 (by decide +kernel) (by decide +kernel) (by decide +kernel) (by decide +kernel) (by decide +kernel) (by decide +kernel)
theorem allAtoms_all (ts : List Jvm.Cond) (a : Array Jvm.Value) (st : Jvm.State) : (allAtoms ts).before a st = ts.all (fun c => c.before a st) := by
  induction ts with
  | nil => rfl
  | cons c t ih =>
    show (Jvm.Cond.and c (allAtoms t)).before a st = _
    rw [Jvm.Cond.before_and, ih, List.all_cons]
def words1 : List Jvm.Cond := Jvm.Cond.code x code maxLocals ret :: tables_1
/-- a 'code' word, met by the world's own term for the bytes: nothing is compared byte by byte -/
theorem code_word {y : MethodName} {bytes : ByteArray} {mx : Nat} {rt : Option FieldType} {a : Array Value} {s : State} {m : MethodId} {meth : Method} {c : Code} (h1 : s.methodNamed? y = some m) (h2 : s.vm.method? m = some meth) (h3 : meth.code = some c) (h4 : c.code = bytes)
    (h5 : (c.maxLocals == mx && c.exceptionTable.isEmpty && decide (c.maxStack ≤ mostOperands) && decide (meth.sig.returnType = rt) && !meth.locks && decide (parseMethodDescriptor y.desc = some meth.sig)) = true) : (Jvm.Cond.code y bytes mx rt).before a s = true := by
  simp only [Bool.and_eq_true, beq_iff_eq, Bool.not_eq_true', decide_eq_true_eq] at h5
  obtain ⟨⟨⟨⟨⟨g1, g2⟩, g3⟩, g4⟩, g5⟩, g6⟩ := h5
  simp [Cond.before, Cond.holds, Cond.value, h1, h2, h3, h4, g1, g2, g3, g4, g5, g6]
def isCode : Jvm.Cond → Bool
  | .code _ _ _ _ => true
  | _ => false
theorem all_split {L : List Jvm.Cond} {P : Jvm.Cond → Bool} (h1 : L.all (fun c => isCode c || P c) = true) (h2 : ∀ c ∈ L.filter isCode, P c = true) : L.all P = true := by
  refine List.all_eq_true.mpr fun c hc => ?_
  have h := List.all_eq_true.mp h1 c hc
  rcases Bool.eq_false_or_eq_true (isCode c) with hi | hi
  · exact h2 c (List.mem_filter.mpr ⟨hc, hi⟩)
  · simpa [hi] using h
set_option maxRecDepth 65536 in
theorem w_c0 : (Jvm.Cond.code x code maxLocals ret).before args0 about1 = true := code_word (m := ⟨1, 2⟩) (meth := k1m2) (c := k1c2) (by decide +kernel) rfl rfl rfl (by decide +kernel)
set_option maxRecDepth 65536 in
theorem w_c1 : (Jvm.Cond.code ({ cls := "com/example/stricture/stricture/type/TypeKindHoldsPinLaw", name := "pickValue", desc := "(IJ)J" } : Jvm.MethodName) method_2_code (5 : Nat) (Option.some Jvm.ClassFile.FieldType.long)).before args0 about1 = true := code_word (m := ⟨1, 1⟩) (meth := k1m1) (c := k1c1) (by decide +kernel) rfl rfl rfl (by decide +kernel)
set_option maxRecDepth 65536 in
theorem w_c2 : (Jvm.Cond.code ({ cls := "com/example/stricture/stricture/type/TypeKind", name := "holds", desc := "(J)Z" } : Jvm.MethodName) prog_126_method_6_code (3 : Nat) (Option.some Jvm.ClassFile.FieldType.boolean)).before args0 about1 = true := code_word (m := ⟨6, 0⟩) (meth := k6m0) (c := k6c0) (by decide +kernel) rfl rfl rfl (by decide +kernel)
def codes1 : List Jvm.Cond := [Jvm.Cond.code x code maxLocals ret, Jvm.Cond.code ({ cls := "com/example/stricture/stricture/type/TypeKindHoldsPinLaw", name := "pickValue", desc := "(IJ)J" } : Jvm.MethodName) method_2_code (5 : Nat) (Option.some Jvm.ClassFile.FieldType.long), Jvm.Cond.code ({ cls := "com/example/stricture/stricture/type/TypeKind", name := "holds", desc := "(J)Z" } : Jvm.MethodName) prog_126_method_6_code (3 : Nat) (Option.some Jvm.ClassFile.FieldType.boolean)]
set_option maxRecDepth 65536 in
theorem codes_eq : words1.filter isCode = codes1 := rfl
theorem w_codes : ∀ c ∈ words1.filter isCode, c.before args0 about1 = true := by
  rw [codes_eq]
  intro c hc
  simp only [codes1, List.mem_cons, List.not_mem_nil, or_false] at hc
  rcases hc with rfl | rfl | rfl
  · exact w_c0
  · exact w_c1
  · exact w_c2
set_option maxRecDepth 65536 in
theorem w_t1 : (words1.take 24).all (fun c => isCode c || c.before args0 about1) = true := by decide +kernel
set_option maxRecDepth 65536 in
theorem w_t2 : (words1.drop 24).all (fun c => isCode c || c.before args0 about1) = true := by decide +kernel
theorem w_tables : (allAtoms (Jvm.Cond.code x code maxLocals ret :: tables_1)).before args0 about1 = true := by
  rw [allAtoms_all]
  show words1.all (fun c => c.before args0 about1) = true
  refine all_split ?_ w_codes
  rw [← List.take_append_drop 24 words1, List.all_append, w_t1, w_t2]
  rfl
set_option maxRecDepth 65536 in
theorem w_case : (Jvm.Cond.and given_1 narrow_1).before args0 about1 = true := by decide +kernel
theorem w_applies : (headSpec (Jvm.Cond.code x code maxLocals ret :: tables_1) room_1).applies x e0.platform about1 = true :=
  (Spec.applies_iff w_frames).mpr ⟨w_running, w_runnable, w_alone, w_named, w_hears, w_ripe, w_room, w_tables⟩
theorem atStart : AtStart classFile x code maxLocals ret World_1 tables_1 room_1 Calls_1 rest_1 Pre_1 launch0 p0 e0 about1 theMethod args0 below0 :=
  ⟨lists_1, trivial, launch0.admits_env _ _ _, launch0.least_env, fairChoices_fair.cas, fairChoices_fair.clock, w_frames, w_args, w_heap, w_applies, trivial, trivial, w_case⟩
end start1
theorem witness_1 : WitnessClaimed_1 := ⟨start1.p0, start1.e0, start1.about1, start1.theMethod, start1.args0, start1.below0, start1.atStart⟩
end Jvm.Pilot.@@N@@
