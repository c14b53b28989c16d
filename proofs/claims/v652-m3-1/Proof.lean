import JvmDerived
import JvmDerived.Pilot.@@N@@Statement
import JvmDerived.Pilot.@@N@@Code
set_option linter.unusedVariables false
set_option linter.unusedSimpArgs false
namespace Jvm.RoadKit
open Sem ClassFile Op Lib Jvm.Stand Jvm.Free Jvm.LawKit
section New
variable {p : Program} {l : Launch} {e : Env} {R : Room} {s : State} {m : MethodId} {args : Array Value} {below : List Frame} {meth : Method} {c : Code} {T : State} {locs : List Loc} {cells slots : Nat}
theorem retI (X : Stand p l e R s m args below meth c T locs cells slots) (hx : p.tables.exec = Jvm.exec) {pc : Nat} {Ls : Array Slot} {z : Int32} {rest : List Value} (hret : meth.sig.returnType = some .int) (hd : decode c.code pc = .ok (.ireturn, 1)) {fs : List Frame}
    (hl : ∀ (f : JFrame) (acts : List Action), f.method = m → f.locked = none → f.entered = [] → (doReturn e (T.setTop f) acts (some (.int z))).1 = T.setFrames fs) : Steps p.tables e below (T.setTop (mkF m pc Ls (.int z :: rest))) (T.setFrames fs) := by
  have hm' : T.vm.method? m = some meth := X.method'
  have hn : narrow .int (.int z) = .int z := rfl
  show Steps p.tables e below (T.setTop { method := m, pc := pc, locals := Ls, stack := _ :: rest, locked := none }) _
  jvm_step X.here [X.here.top, hx, hd, hm', hret, hn]
  first | (intro acts; rw [hl _ acts rfl rfl rfl]) | rw [hl _ _ rfl rfl rfl]
  exact Steps.refl _
end New
/-- the run comes, from the state U, to an end at which Q holds -/
def Go (tb : Tables) (e : Env) (below : List Frame) (Q : Outcome → State → Prop) (U : State) : Prop := ∃ s₂ o, Steps tb e below U s₂ ∧ s₂.status = .running ∧ Ended s₂ below o ∧ Q o s₂
theorem Go.on {tb : Tables} {e : Env} {below : List Frame} {Q : Outcome → State → Prop} {A B : State} (h : ∀ t, Steps tb e below B t → Steps tb e below A t) (k : Go tb e below Q B) : Go tb e below Q A := by
  obtain ⟨s₂, o, h1, h2⟩ := k
  exact ⟨s₂, o, h _ h1, h2⟩
end Jvm.RoadKit
namespace Jvm.RoadKit
open Sem ClassFile Op Lib Jvm.Stand Jvm.Free Jvm.LawKit
abbrev mkM (m : MethodId) (pc : Nat) (ls : Array Slot) (st : List Value) (en : List Addr) (k : Nat) : JFrame := { method := m, pc := pc, locals := ls, stack := st, locked := none, entered := en, monitorRoom := k }
section OwnMon
variable {p : Program} {l : Launch} {e : Env} {R : Room} {s : State} {m : MethodId} {args : Array Value} {below : List Frame} {meth : Method} {c : Code} {T : State} {locs : List Loc} {cells slots : Nat}
theorem retIM (X : Stand p l e R s m args below meth c T locs cells slots) (hx : p.tables.exec = Jvm.exec) {pc k : Nat} {Ls : Array Slot} {z : Int32} {rest : List Value} (hret : meth.sig.returnType = some .int) (hd : decode c.code pc = .ok (.ireturn, 1)) {fs : List Frame}
    (hl : ∀ (f : JFrame) (acts : List Action), f.method = m → f.locked = none → f.entered = [] → (doReturn e (T.setTop f) acts (some (.int z))).1 = T.setFrames fs) : Steps p.tables e below (T.setTop (mkM m pc Ls (.int z :: rest) [] k)) (T.setFrames fs) := by
  have hm' : T.vm.method? m = some meth := X.method'
  have hn : narrow .int (.int z) = .int z := rfl
  show Steps p.tables e below (T.setTop { method := m, pc := pc, locals := Ls, stack := _ :: rest, locked := none, entered := [], monitorRoom := k }) _
  jvm_step X.here [X.here.top, hx, hd, hm', hret, hn]
  first | (intro acts; rw [hl _ acts rfl rfl rfl]) | rw [hl _ _ rfl rfl rfl]
  exact Steps.refl _
end OwnMon
theorem own_untk {h h' : Heap} {ws : List Addr} {a : Addr} (F : Unt h a) (K : Keep h h' ws) (q : a ∉ ws) : Unt h' a := by
  obtain ⟨c, h1, r⟩ := F
  exact ⟨c, K.2.1 a c h1 q, r⟩
theorem own_at {h : Heap} {a : Addr} {c x : Cell} (hc : h[a]? = some c) : (h.setIfInBounds a x)[a]? = some x := by
  have := (Array.getElem?_eq_some_iff.mp hc).1
  simp [this]
theorem own_off {h : Heap} {a y : Addr} {x : Cell} (q : y ≠ a) : (h.setIfInBounds a x)[y]? = h[y]? := by
  rw [Array.getElem?_setIfInBounds]
  simp [Ne.symm q]
theorem own_km {h h' : Heap} {a : Addr} {c x : Cell} (e : h' = h.setIfInBounds a x) (hc : h[a]? = some c) (h1 : x.cls = c.cls) (h2 : x.vm = c.vm) (h3 : x.slots.size = c.slots.size) : Keep h h' [a] := by
  subst e
  refine ⟨by simp, fun y cy hy q => ?_, fun y cy hy => ?_⟩
  · have ne : y ≠ a := fun z => q (by rw [z]; exact List.mem_singleton.mpr rfl)
    rw [own_off ne]
    exact hy
  · by_cases z : y = a
    · subst z
      cases hc.symm.trans hy
      exact ⟨x, own_at hc, h1, h2, h3⟩
    · exact ⟨cy, by rw [own_off z]; exact hy, rfl, rfl, rfl⟩
theorem own_kx {h0 h1 h5 h6 : Heap} {a : Addr} {c x : Cell} {ws : List Addr} (e1 : h1 = h0.setIfInBounds a x) (hc : h0[a]? = some c) (K : Keep h1 h5 ws) (hx : h5[a]? = some x) (e6 : h6 = h5.setIfInBounds a c) : Keep h0 h6 ws := by
  subst e1 e6
  have s1 : h0.size ≤ h5.size := by
    have := K.1
    simpa using this
  refine ⟨by simpa using s1, fun y cy hy q => ?_, fun y cy hy => ?_⟩
  · by_cases z : y = a
    · subst z
      cases hc.symm.trans hy
      exact own_at hx
    · rw [own_off z]
      exact K.2.1 y cy (by rw [own_off z]; exact hy) q
  · by_cases z : y = a
    · subst z
      cases hc.symm.trans hy
      exact ⟨_, own_at hx, rfl, rfl, rfl⟩
    · obtain ⟨c', q1, q2⟩ := K.2.2 y cy (by rw [own_off z]; exact hy)
      exact ⟨c', by rw [own_off z]; exact q1, q2⟩
end Jvm.RoadKit
namespace Jvm.Pilot.@@N@@
open Jvm Jvm.ClassFile Sem Op Lib Jvm.Free Jvm.Stand Jvm.LawKit Jvm.RoadKit Bundle Jvm.Pilot.@@N@@.Jvm.D
theorem d11_0 : decode jdk_22_method_1_code 0 = .ok (.aload_n 0, 1) := by decide +kernel
theorem d11_1 : decode jdk_22_method_1_code 1 = .ok (.invokespecial 1, 3) := by decide +kernel
theorem d11_4 : decode jdk_22_method_1_code 4 = .ok (.return_, 1) := by decide +kernel
theorem pn_2 : plainName "java/util/AbstractCollection" = true := by first | (simp [plainName, overriddenIn]; done) | decide +kernel
theorem ef_rabc (m : MethodId) (a1 : Addr) : entryFrame m #[(.ref a1)] 1 = mkF m 0 #[.val (.ref a1)] [] := by first | (simp [entryFrame, mkF, argsToLocals, Value.category]; done) | rfl
def Q_rabc (Z : State) (a1 : Addr) (h0 : Heap) (n0 : Nat) (v : Option Value) (h : Heap) (L : List Loc) : Prop := v = none ∧ Fr n0 L ∧ h = h0
set_option maxRecDepth 65536 in
set_option maxHeartbeats 40000000 in
theorem rabc (l : Launch) (Z : State) (a0 : Array Value) (hw : ∀ d ∈ tables_1, d.before a0 Z = true) (ws : List Jvm.Cond) (a1 : Addr) (h0 : Heap) (n0 : Nat) (Z0 : n0 ≤ h0.size)  :
    MetFree l (⟨"java/util/AbstractCollection", "<init>", "()V"⟩ : MethodName) (head1 (Jvm.Cond.code (⟨"java/util/AbstractCollection", "<init>", "()V"⟩ : MethodName) jdk_22_method_1_code 1 none :: ws) ({ frames := 1, cells := 0, slots := 0, locals := 12 } : Room)) (fun a U => a = #[(.ref a1)] ∧ Z.Warmed39 U.vm ∧ U.heap = h0) (fun _ _ _ _ _ => True) (fun _ U o U' => ∃ v L, o = .returned v ∧ Q_rabc Z a1 h0 n0 v U'.heap L ∧ FrameEnd U o U' L ({ frames := 1, cells := 0, slots := 0, locals := 12 } : Room).cells ({ frames := 1, cells := 0, slots := 0, locals := 12 } : Room).slots) := by
  refine MetFree.of_bodySF (plainFor_of_name pn_2) hisR ?_
  intro p e s m args below meth c s₁ Bd hml0 hP hK
  obtain ⟨rfl, hZ, hh⟩ := hP
  have hx := Bd.exec
  have hby := Bd.bytes
  have hml : c.maxLocals = 1 := hml0
  have hown : s.vm.findClass "java/util/AbstractCollection" = some m.cls := findClass_of_methodNamed Bd.named
  have hnm := (name_of_methodNamed Bd.named Bd.method).1
  have X0 : Stand p l e ({ frames := 1, cells := 0, slots := 0, locals := 12 } : Room) s m #[(.ref a1)] below meth c s₁ [] 0 0 := Stand.of_body Bd
  have e0 : s₁.heap = h0 := by rw [← hh, Bd.state]; rfl
  have N0 := Fr.nil n0
  have pre0 : ∀ t, Steps p.tables e below (s₁.setTop (mkF m 0 #[.val (.ref a1)] [])) t → Steps p.tables e below (s₁.setTop (entryFrame m #[(.ref a1)] 1)) t := fun t k => castTop (ef_rabc m a1) k
  change Go p.tables e below (fun o U' => ∃ v L, o = .returned v ∧ Q_rabc Z a1 h0 n0 v U'.heap L ∧ FrameEnd s o U' L ({ frames := 1, cells := 0, slots := 0, locals := 12 } : Room).cells ({ frames := 1, cells := 0, slots := 0, locals := 12 } : Room).slots) (s₁.setTop (entryFrame m #[(.ref a1)] 1))
  refine Go.on pre0 ?_
  refine Go.on (B := s₁.setTop (mkF m 1 #[.val (.ref a1)] [(.ref a1)])) (fun t k => XS.aloadN X0.here hx rfl (hb hby d11_0) rfl rfl k) ?_
  obtain ⟨T1, X1, e1, st1⟩ := initO X0 hx hZ hown (hw _ (List.mem_of_getElem? (i := 90) rfl)) (hw _ (List.mem_of_getElem? (i := 7) rfl)) (hw _ (List.mem_of_getElem? (i := 8) rfl)) e0 (g := (mkF m 1 #[.val (.ref a1)] [(.ref a1)])) rfl (by rw [hml]; rfl) rfl (hb hby d11_1) (by decide) (W := 0) (by show 2 * 0 + _ ≤ _; exact Nat.le_of_eq rfl) (by decide)
  refine Go.on (B := T1.setTop (mkF m 4 #[.val (.ref a1)] [])) (fun t k => st1 _ k) ?_
  obtain ⟨fs, hr, hrun, hended, hW, hsame⟩ := X1.leave (v := none) (fun _ => rfl)
  refine ⟨_, _, ?_, hrun, hended, _, _, rfl, ?_, ⟨_, rfl⟩, hW, hsame.mono (by decide) (by decide)⟩
  · exact X1.returnOut hx Bd.returns (hb hby d11_4) hr
  · show Q_rabc Z a1 h0 n0 _ T1.heap _
    rw [e1]
    exact ⟨rfl, N0, rfl⟩
theorem d10_0 : decode jdk_39_method_1_code 0 = .ok (.aload_n 0, 1) := by decide +kernel
theorem d10_1 : decode jdk_39_method_1_code 1 = .ok (.invokespecial 1, 3) := by decide +kernel
theorem d10_4 : decode jdk_39_method_1_code 4 = .ok (.aload_n 0, 1) := by decide +kernel
theorem d10_5 : decode jdk_39_method_1_code 5 = .ok (.iconst 0, 1) := by decide +kernel
theorem d10_6 : decode jdk_39_method_1_code 6 = .ok (.putfield 7, 3) := by decide +kernel
theorem d10_9 : decode jdk_39_method_1_code 9 = .ok (.return_, 1) := by decide +kernel
theorem pd_0 : parseMethodDescriptor "()V" = some ⟨[], none⟩ := by decide +kernel
theorem pn_5 : plainName "java/util/AbstractList" = true := by first | (simp [plainName, overriddenIn]; done) | decide +kernel
theorem ef_rabl (m : MethodId) (a1 : Addr) : entryFrame m #[(.ref a1)] 1 = mkF m 0 #[.val (.ref a1)] [] := by first | (simp [entryFrame, mkF, argsToLocals, Value.category]; done) | rfl
def Q_rabl (Z : State) (a1 : Addr) (h0 : Heap) (n0 : Nat) (v : Option Value) (h : Heap) (L : List Loc) : Prop := v = none ∧ Fr n0 L ∧ Keep h0 h [a1] ∧ Exa Z h a1 "java/util/ArrayList" ∧ Fld Z h a1 "java/util/AbstractList" "modCount" "I" (.int (0 : Int32)) ∧ Fld Z h a1 "java/util/ArrayList" "elementData" "[Ljava/lang/Object;" .null
set_option maxRecDepth 65536 in
set_option maxHeartbeats 40000000 in
theorem rabl (l : Launch) (Z : State) (a0 : Array Value) (hw : ∀ d ∈ tables_1, d.before a0 Z = true) (ws : List Jvm.Cond) (a1 : Addr) (h0 : Heap) (n0 : Nat) (Z0 : n0 ≤ h0.size) (E1 : Exa Z h0 a1 "java/util/ArrayList") (F_mc : Fld Z h0 a1 "java/util/AbstractList" "modCount" "I" (.int (0 : Int32))) (F_ed : Fld Z h0 a1 "java/util/ArrayList" "elementData" "[Ljava/lang/Object;" .null) (g1 : n0 ≤ a1) :
    MetFree l (⟨"java/util/AbstractList", "<init>", "()V"⟩ : MethodName) (head1 (Jvm.Cond.code (⟨"java/util/AbstractList", "<init>", "()V"⟩ : MethodName) jdk_39_method_1_code 1 none :: ws) ({ frames := 2, cells := 0, slots := 0, locals := 24 } : Room)) (fun a U => a = #[(.ref a1)] ∧ Z.Warmed39 U.vm ∧ U.heap = h0) (fun _ _ _ _ _ => True) (fun _ U o U' => ∃ v L, o = .returned v ∧ Q_rabl Z a1 h0 n0 v U'.heap L ∧ FrameEnd U o U' L ({ frames := 2, cells := 0, slots := 0, locals := 24 } : Room).cells ({ frames := 2, cells := 0, slots := 0, locals := 24 } : Room).slots) := by
  refine MetFree.of_bodySF (plainFor_of_name pn_5) hisR ?_
  intro p e s m args below meth c s₁ Bd hml0 hP hK
  obtain ⟨rfl, hZ, hh⟩ := hP
  have hx := Bd.exec
  have hby := Bd.bytes
  have hml : c.maxLocals = 1 := hml0
  have hown : s.vm.findClass "java/util/AbstractList" = some m.cls := findClass_of_methodNamed Bd.named
  have hnm := (name_of_methodNamed Bd.named Bd.method).1
  have X0 : Stand p l e ({ frames := 2, cells := 0, slots := 0, locals := 24 } : Room) s m #[(.ref a1)] below meth c s₁ [] 0 0 := Stand.of_body Bd
  have e0 : s₁.heap = h0 := by rw [← hh, Bd.state]; rfl
  have N0 := Fr.nil n0
  have pre0 : ∀ t, Steps p.tables e below (s₁.setTop (mkF m 0 #[.val (.ref a1)] [])) t → Steps p.tables e below (s₁.setTop (entryFrame m #[(.ref a1)] 1)) t := fun t k => castTop (ef_rabl m a1) k
  change Go p.tables e below (fun o U' => ∃ v L, o = .returned v ∧ Q_rabl Z a1 h0 n0 v U'.heap L ∧ FrameEnd s o U' L ({ frames := 2, cells := 0, slots := 0, locals := 24 } : Room).cells ({ frames := 2, cells := 0, slots := 0, locals := 24 } : Room).slots) (s₁.setTop (entryFrame m #[(.ref a1)] 1))
  have K0 := Keep.refl h0 [a1]
  refine Go.on pre0 ?_
  refine Go.on (B := s₁.setTop (mkF m 1 #[.val (.ref a1)] [(.ref a1)])) (fun t k => XS.aloadN X0.here hx rfl (hb hby d10_0) rfl rfl k) ?_
  obtain ⟨_, _, ⟨T1, L1, k1, n1⟩, -, X1, ⟨Lc1, hQ1, l1, y1, z1⟩, st1⟩ := X0.specialBack hx (y := (⟨"java/util/AbstractCollection", "<init>", "()V"⟩ : MethodName)) rfl hown (mvT hZ (hw _ (List.mem_of_getElem? (i := 84) rfl))) (mvT hZ (hw _ (List.mem_of_getElem? (i := 85) rfl))) (mvT hZ (hw _ (List.mem_of_getElem? (i := 89) rfl))) (by decide) (backOf (W := 0) (rabc l Z a0 hw [] a1 h0 n0 Z0) hZ (hw _ (List.mem_of_getElem? (i := 89) rfl)) (hw _ (List.mem_of_getElem? (i := 88) rfl)) (by decide) (by decide)) (g := (mkF m 1 #[.val (.ref a1)] [(.ref a1)])) rfl (by rw [hml]; rfl) (Steps.refl _) (a := a1) (argsL := []) (rest := []) (lenOf pd_0 rfl) rfl (by show 2 * 0 + _ ≤ _; exact Nat.le_of_eq rfl) (hb hby d10_1) (fun _ _ => ⟨rfl, e0, (by decide : 0 + 0 ≤ _), (by decide : 0 + 0 ≤ _)⟩)
  dsimp only [Pt.U, Pt.locs, Pt.cells, Pt.slots] at X1 l1 y1 z1 st1 hQ1
  subst l1 y1 z1
  obtain ⟨rfl, N1q, e1q⟩ := hQ1
  have N1 := Fr.app N0 N1q
  refine Go.on (B := T1.setTop (mkF m 4 #[.val (.ref a1)] [])) (fun t k => st1.trans k) ?_
  refine Go.on (B := T1.setTop (mkF m 5 #[.val (.ref a1)] [(.ref a1)])) (fun t k => XS.aloadN X1.here hx rfl (hb hby d10_4) rfl rfl k) ?_
  refine Go.on (B := T1.setTop (mkF m 6 #[.val (.ref a1)] [(.int (0 : Int32)), (.ref a1)])) (fun t k => XS.iconst X1.here hx rfl (hb hby d10_5) k) ?_
  obtain ⟨T2, h2, X2, e2, W2, st2⟩ := putF X1 hx hZ hown (host := "") (Or.inl (hw _ (List.mem_of_getElem? (i := 91) rfl))) Via.refl e1q F_mc E1 (Or.inl (hw _ (List.mem_of_getElem? (i := 92) rfl))) (hw _ (List.mem_of_getElem? (i := 73) rfl)) (ty := .int) (by decide) rfl rfl (g := (mkF m 6 #[.val (.ref a1)] [(.int (0 : Int32)), (.ref a1)])) rfl rfl (hb hby d10_6)
  have N2 := Fr.snoc X2 N1 g1
  have Fw2 := F_mc.same W2
  have f1 := E1.wr W2
  have f2 := F_ed.other W2 (Or.inr (slot_ne (Or.inl (hw _ (List.mem_of_getElem? (i := 95) rfl))) (Or.inl (hw _ (List.mem_of_getElem? (i := 92) rfl))) (by decide) (t := (.array (.object "java/lang/Object"))) (t' := .int) (by decide) (by decide)))
  have Zs3 := Nat.le_trans Z0 (Keep.of_wr W2).1
  have K4 := K0.wr W2 (Or.inl (List.mem_of_getElem? (i := 0) rfl))
  refine Go.on (B := T2.setTop (mkF m 9 #[.val (.ref a1)] [])) (fun t k => st2 _ k) ?_
  obtain ⟨fs, hr, hrun, hended, hW, hsame⟩ := X2.leave (v := none) (fun _ => rfl)
  refine ⟨_, _, ?_, hrun, hended, _, _, rfl, ?_, ⟨_, rfl⟩, hW, hsame.mono (by decide) (by decide)⟩
  · exact X2.returnOut hx Bd.returns (hb hby d10_9) hr
  · show Q_rabl Z a1 h0 n0 _ T2.heap _
    rw [e2]
    exact ⟨rfl, N2, K4, f1, Fw2, f2⟩
theorem d9_0 : decode jdk_38_method_2_code 0 = .ok (.aload_n 0, 1) := by decide +kernel
theorem d9_1 : decode jdk_38_method_2_code 1 = .ok (.invokespecial 1, 3) := by decide +kernel
theorem d9_4 : decode jdk_38_method_2_code 4 = .ok (.aload_n 0, 1) := by decide +kernel
theorem d9_5 : decode jdk_38_method_2_code 5 = .ok (.getstatic 39, 3) := by decide +kernel
theorem d9_8 : decode jdk_38_method_2_code 8 = .ok (.putfield 9, 3) := by decide +kernel
theorem d9_11 : decode jdk_38_method_2_code 11 = .ok (.return_, 1) := by decide +kernel
theorem pn_7 : plainName "java/util/ArrayList" = true := by first | (simp [plainName, overriddenIn]; done) | decide +kernel
theorem ef_ral (m : MethodId) (a1 : Addr) : entryFrame m #[(.ref a1)] 1 = mkF m 0 #[.val (.ref a1)] [] := by first | (simp [entryFrame, mkF, argsToLocals, Value.category]; done) | rfl
def Q_ral (Z : State) (a1 : Addr) (da : Addr) (h0 : Heap) (n0 : Nat) (v : Option Value) (h : Heap) (L : List Loc) : Prop := v = none ∧ Fr n0 L ∧ Keep h0 h [a1] ∧ Exa Z h a1 "java/util/ArrayList"
set_option maxRecDepth 65536 in
set_option maxHeartbeats 40000000 in
theorem ral (l : Launch) (Z : State) (a0 : Array Value) (hw : ∀ d ∈ tables_1, d.before a0 Z = true) (ws : List Jvm.Cond) (a1 : Addr) (da : Addr) (h0 : Heap) (n0 : Nat) (Z0 : n0 ≤ h0.size) (E1 : Exa Z h0 a1 "java/util/ArrayList") (F_mc : Fld Z h0 a1 "java/util/AbstractList" "modCount" "I" (.int (0 : Int32))) (F_ed : Fld Z h0 a1 "java/util/ArrayList" "elementData" "[Ljava/lang/Object;" .null) (g1 : n0 ≤ a1) (O0 : Old Z n0 h0) (S_de : Sta Z Z.heap "java/util/ArrayList" "DEFAULTCAPACITY_EMPTY_ELEMENTDATA" "[Ljava/lang/Object;" (.ref da)) :
    MetFree l (⟨"java/util/ArrayList", "<init>", "()V"⟩ : MethodName) (head1 (Jvm.Cond.code (⟨"java/util/ArrayList", "<init>", "()V"⟩ : MethodName) jdk_38_method_2_code 1 none :: ws) ({ frames := 3, cells := 0, slots := 0, locals := 36 } : Room)) (fun a U => a = #[(.ref a1)] ∧ Z.Warmed39 U.vm ∧ U.heap = h0) (fun _ _ _ _ _ => True) (fun _ U o U' => ∃ v L, o = .returned v ∧ Q_ral Z a1 da h0 n0 v U'.heap L ∧ FrameEnd U o U' L ({ frames := 3, cells := 0, slots := 0, locals := 36 } : Room).cells ({ frames := 3, cells := 0, slots := 0, locals := 36 } : Room).slots) := by
  refine MetFree.of_bodySF (plainFor_of_name pn_7) hisR ?_
  intro p e s m args below meth c s₁ Bd hml0 hP hK
  obtain ⟨rfl, hZ, hh⟩ := hP
  have hx := Bd.exec
  have hby := Bd.bytes
  have hml : c.maxLocals = 1 := hml0
  have hown : s.vm.findClass "java/util/ArrayList" = some m.cls := findClass_of_methodNamed Bd.named
  have hnm := (name_of_methodNamed Bd.named Bd.method).1
  have X0 : Stand p l e ({ frames := 3, cells := 0, slots := 0, locals := 36 } : Room) s m #[(.ref a1)] below meth c s₁ [] 0 0 := Stand.of_body Bd
  have e0 : s₁.heap = h0 := by rw [← hh, Bd.state]; rfl
  have N0 := Fr.nil n0
  have pre0 : ∀ t, Steps p.tables e below (s₁.setTop (mkF m 0 #[.val (.ref a1)] [])) t → Steps p.tables e below (s₁.setTop (entryFrame m #[(.ref a1)] 1)) t := fun t k => castTop (ef_ral m a1) k
  change Go p.tables e below (fun o U' => ∃ v L, o = .returned v ∧ Q_ral Z a1 da h0 n0 v U'.heap L ∧ FrameEnd s o U' L ({ frames := 3, cells := 0, slots := 0, locals := 36 } : Room).cells ({ frames := 3, cells := 0, slots := 0, locals := 36 } : Room).slots) (s₁.setTop (entryFrame m #[(.ref a1)] 1))
  have K0 := Keep.refl h0 [a1]
  refine Go.on pre0 ?_
  refine Go.on (B := s₁.setTop (mkF m 1 #[.val (.ref a1)] [(.ref a1)])) (fun t k => XS.aloadN X0.here hx rfl (hb hby d9_0) rfl rfl k) ?_
  obtain ⟨_, _, ⟨T1, L1, k1, n1⟩, -, X1, ⟨Lc1, hQ1, l1, y1, z1⟩, st1⟩ := X0.specialBack hx (y := (⟨"java/util/AbstractList", "<init>", "()V"⟩ : MethodName)) rfl hown (mvT hZ (hw _ (List.mem_of_getElem? (i := 78) rfl))) (mvT hZ (hw _ (List.mem_of_getElem? (i := 79) rfl))) (mvT hZ (hw _ (List.mem_of_getElem? (i := 83) rfl))) (by decide) (backOf (W := 0) (rabl l Z a0 hw [] a1 h0 n0 Z0 E1 F_mc F_ed g1) hZ (hw _ (List.mem_of_getElem? (i := 83) rfl)) (hw _ (List.mem_of_getElem? (i := 82) rfl)) (by decide) (by decide)) (g := (mkF m 1 #[.val (.ref a1)] [(.ref a1)])) rfl (by rw [hml]; rfl) (Steps.refl _) (a := a1) (argsL := []) (rest := []) (lenOf pd_0 rfl) rfl (by show 2 * 0 + _ ≤ _; exact Nat.le_of_eq rfl) (hb hby d9_1) (fun _ _ => ⟨rfl, e0, (by decide : 0 + 0 ≤ _), (by decide : 0 + 0 ≤ _)⟩)
  dsimp only [Pt.U, Pt.locs, Pt.cells, Pt.slots] at X1 l1 y1 z1 st1 hQ1
  subst l1 y1 z1
  obtain ⟨rfl, N1q, K1q, G1_0, G1_1, G1_2⟩ := hQ1
  have N1 := Fr.app N0 N1q
  have f1 := E1.keep K1q
  have O_2 := O0.keep K1q (allS g1 all0)
  have Zs3 := Nat.le_trans Z0 K1q.1
  have K4 := K0.trans K1q (allS (Or.inl (List.mem_of_getElem? (i := 0) rfl)) all0)
  refine Go.on (B := T1.setTop (mkF m 4 #[.val (.ref a1)] [])) (fun t k => st1.trans k) ?_
  refine Go.on (B := T1.setTop (mkF m 5 #[.val (.ref a1)] [(.ref a1)])) (fun t k => XS.aloadN X1.here hx rfl (hb hby d9_4) rfl rfl k) ?_
  obtain ⟨T2, X2, e2, st2⟩ := getS2 X1 hx hZ hown (host := "") (Or.inl (hw _ (List.mem_of_getElem? (i := 93) rfl))) Via.refl rfl (S_de.ext O_2.2) (g := (mkF m 5 #[.val (.ref a1)] [(.ref a1)])) rfl (hb hby d9_5)
  refine Go.on (B := T2.setTop (mkF m 8 #[.val (.ref a1)] [(.ref da), (.ref a1)])) (fun t k => st2 _ k) ?_
  obtain ⟨T3, h3, X3, e3, W3, st3⟩ := putF X2 hx hZ hown (host := "") (Or.inl (hw _ (List.mem_of_getElem? (i := 94) rfl))) Via.refl e2 G1_2 G1_0 (Or.inl (hw _ (List.mem_of_getElem? (i := 95) rfl))) (hw _ (List.mem_of_getElem? (i := 73) rfl)) (ty := (.array (.object "java/lang/Object"))) (by decide) rfl rfl (g := (mkF m 8 #[.val (.ref a1)] [(.ref da), (.ref a1)])) rfl rfl (hb hby d9_8)
  have N3 := Fr.snoc X3 N1 g1
  have Fw3 := G1_2.same W3
  have f5 := G1_0.wr W3
  have O_6 := O_2.wr W3 g1
  have f7 := G1_1.other W3 (Or.inr (slot_ne (Or.inl (hw _ (List.mem_of_getElem? (i := 92) rfl))) (Or.inl (hw _ (List.mem_of_getElem? (i := 95) rfl))) (by decide) (t := .int) (t' := (.array (.object "java/lang/Object"))) (by decide) (by decide)))
  have Zs8 := Nat.le_trans Zs3 (Keep.of_wr W3).1
  have K9 := K4.wr W3 (Or.inl (List.mem_of_getElem? (i := 0) rfl))
  refine Go.on (B := T3.setTop (mkF m 11 #[.val (.ref a1)] [])) (fun t k => st3 _ k) ?_
  obtain ⟨fs, hr, hrun, hended, hW, hsame⟩ := X3.leave (v := none) (fun _ => rfl)
  refine ⟨_, _, ?_, hrun, hended, _, _, rfl, ?_, ⟨_, rfl⟩, hW, hsame.mono (by decide) (by decide)⟩
  · exact X3.returnOut hx Bd.returns (hb hby d9_11) hr
  · show Q_ral Z a1 da h0 n0 _ T3.heap _
    rw [e3]
    exact ⟨rfl, N3, K9, f5⟩
theorem d6_0 : decode jdk_71_method_1_code 0 = .ok (.aload_n 0, 1) := by decide +kernel
theorem d6_1 : decode jdk_71_method_1_code 1 = .ok (.invokespecial 1, 3) := by decide +kernel
theorem d6_4 : decode jdk_71_method_1_code 4 = .ok (.return_, 1) := by decide +kernel
theorem pn_9 : plainName "java/util/AbstractMap" = true := by first | (simp [plainName, overriddenIn]; done) | decide +kernel
theorem ef_ram (m : MethodId) (a1 : Addr) : entryFrame m #[(.ref a1)] 1 = mkF m 0 #[.val (.ref a1)] [] := by first | (simp [entryFrame, mkF, argsToLocals, Value.category]; done) | rfl
def Q_ram (Z : State) (a1 : Addr) (h0 : Heap) (n0 : Nat) (v : Option Value) (h : Heap) (L : List Loc) : Prop := v = none ∧ Fr n0 L ∧ h = h0
set_option maxRecDepth 65536 in
set_option maxHeartbeats 40000000 in
theorem ram (l : Launch) (Z : State) (a0 : Array Value) (hw : ∀ d ∈ tables_1, d.before a0 Z = true) (ws : List Jvm.Cond) (a1 : Addr) (h0 : Heap) (n0 : Nat) (Z0 : n0 ≤ h0.size)  :
    MetFree l (⟨"java/util/AbstractMap", "<init>", "()V"⟩ : MethodName) (head1 (Jvm.Cond.code (⟨"java/util/AbstractMap", "<init>", "()V"⟩ : MethodName) jdk_71_method_1_code 1 none :: ws) ({ frames := 1, cells := 0, slots := 0, locals := 12 } : Room)) (fun a U => a = #[(.ref a1)] ∧ Z.Warmed39 U.vm ∧ U.heap = h0) (fun _ _ _ _ _ => True) (fun _ U o U' => ∃ v L, o = .returned v ∧ Q_ram Z a1 h0 n0 v U'.heap L ∧ FrameEnd U o U' L ({ frames := 1, cells := 0, slots := 0, locals := 12 } : Room).cells ({ frames := 1, cells := 0, slots := 0, locals := 12 } : Room).slots) := by
  refine MetFree.of_bodySF (plainFor_of_name pn_9) hisR ?_
  intro p e s m args below meth c s₁ Bd hml0 hP hK
  obtain ⟨rfl, hZ, hh⟩ := hP
  have hx := Bd.exec
  have hby := Bd.bytes
  have hml : c.maxLocals = 1 := hml0
  have hown : s.vm.findClass "java/util/AbstractMap" = some m.cls := findClass_of_methodNamed Bd.named
  have hnm := (name_of_methodNamed Bd.named Bd.method).1
  have X0 : Stand p l e ({ frames := 1, cells := 0, slots := 0, locals := 12 } : Room) s m #[(.ref a1)] below meth c s₁ [] 0 0 := Stand.of_body Bd
  have e0 : s₁.heap = h0 := by rw [← hh, Bd.state]; rfl
  have N0 := Fr.nil n0
  have pre0 : ∀ t, Steps p.tables e below (s₁.setTop (mkF m 0 #[.val (.ref a1)] [])) t → Steps p.tables e below (s₁.setTop (entryFrame m #[(.ref a1)] 1)) t := fun t k => castTop (ef_ram m a1) k
  change Go p.tables e below (fun o U' => ∃ v L, o = .returned v ∧ Q_ram Z a1 h0 n0 v U'.heap L ∧ FrameEnd s o U' L ({ frames := 1, cells := 0, slots := 0, locals := 12 } : Room).cells ({ frames := 1, cells := 0, slots := 0, locals := 12 } : Room).slots) (s₁.setTop (entryFrame m #[(.ref a1)] 1))
  refine Go.on pre0 ?_
  refine Go.on (B := s₁.setTop (mkF m 1 #[.val (.ref a1)] [(.ref a1)])) (fun t k => XS.aloadN X0.here hx rfl (hb hby d6_0) rfl rfl k) ?_
  obtain ⟨T1, X1, e1, st1⟩ := initO X0 hx hZ hown (hw _ (List.mem_of_getElem? (i := 45) rfl)) (hw _ (List.mem_of_getElem? (i := 7) rfl)) (hw _ (List.mem_of_getElem? (i := 8) rfl)) e0 (g := (mkF m 1 #[.val (.ref a1)] [(.ref a1)])) rfl (by rw [hml]; rfl) rfl (hb hby d6_1) (by decide) (W := 0) (by show 2 * 0 + _ ≤ _; exact Nat.le_of_eq rfl) (by decide)
  refine Go.on (B := T1.setTop (mkF m 4 #[.val (.ref a1)] [])) (fun t k => st1 _ k) ?_
  obtain ⟨fs, hr, hrun, hended, hW, hsame⟩ := X1.leave (v := none) (fun _ => rfl)
  refine ⟨_, _, ?_, hrun, hended, _, _, rfl, ?_, ⟨_, rfl⟩, hW, hsame.mono (by decide) (by decide)⟩
  · exact X1.returnOut hx Bd.returns (hb hby d6_4) hr
  · show Q_ram Z a1 h0 n0 _ T1.heap _
    rw [e1]
    exact ⟨rfl, N0, rfl⟩
theorem d4_0 : decode jdk_2780_method_2_code 0 = .ok (.aload_n 0, 1) := by decide +kernel
theorem d4_1 : decode jdk_2780_method_2_code 1 = .ok (.aload_n 1, 1) := by decide +kernel
theorem d4_2 : decode jdk_2780_method_2_code 2 = .ok (.putfield 1, 3) := by decide +kernel
theorem d4_5 : decode jdk_2780_method_2_code 5 = .ok (.return_, 1) := by decide +kernel
theorem pn_11 : plainName "java/util/concurrent/CopyOnWriteArrayList" = true := by first | (simp [plainName, overriddenIn]; done) | decide +kernel
theorem ef_rsa (m : MethodId) (a1 : Addr) (a2 : Addr) : entryFrame m #[(.ref a1), (.ref a2)] 2 = mkF m 0 #[.val (.ref a1), .val (.ref a2)] [] := by first | (simp [entryFrame, mkF, argsToLocals, Value.category]; done) | rfl
def Q_rsa (Z : State) (a1 : Addr) (a2 : Addr) (h0 : Heap) (n0 : Nat) (v : Option Value) (h : Heap) (L : List Loc) : Prop := v = none ∧ Fr n0 L ∧ Keep h0 h [a1] ∧ Exa Z h a1 "java/util/concurrent/CopyOnWriteArrayList"
set_option maxRecDepth 65536 in
set_option maxHeartbeats 40000000 in
theorem rsa (l : Launch) (Z : State) (a0 : Array Value) (hw : ∀ d ∈ tables_1, d.before a0 Z = true) (ws : List Jvm.Cond) (a1 : Addr) (a2 : Addr) (h0 : Heap) (n0 : Nat) (Z0 : n0 ≤ h0.size) (E1 : Exa Z h0 a1 "java/util/concurrent/CopyOnWriteArrayList") (F_array : Fld Z h0 a1 "java/util/concurrent/CopyOnWriteArrayList" "array" "[Ljava/lang/Object;" .null) (g1 : n0 ≤ a1) :
    MetFree l (⟨"java/util/concurrent/CopyOnWriteArrayList", "setArray", "([Ljava/lang/Object;)V"⟩ : MethodName) (head1 (Jvm.Cond.code (⟨"java/util/concurrent/CopyOnWriteArrayList", "setArray", "([Ljava/lang/Object;)V"⟩ : MethodName) jdk_2780_method_2_code 2 none :: ws) ({ frames := 0, cells := 0, slots := 0, locals := 0 } : Room)) (fun a U => a = #[(.ref a1), (.ref a2)] ∧ Z.Warmed39 U.vm ∧ U.heap = h0) (fun _ _ _ _ _ => True) (fun _ U o U' => ∃ v L, o = .returned v ∧ Q_rsa Z a1 a2 h0 n0 v U'.heap L ∧ FrameEnd U o U' L ({ frames := 0, cells := 0, slots := 0, locals := 0 } : Room).cells ({ frames := 0, cells := 0, slots := 0, locals := 0 } : Room).slots) := by
  refine MetFree.of_bodySF (plainFor_of_name pn_11) hisR ?_
  intro p e s m args below meth c s₁ Bd hml0 hP hK
  obtain ⟨rfl, hZ, hh⟩ := hP
  have hx := Bd.exec
  have hby := Bd.bytes
  have hml : c.maxLocals = 2 := hml0
  have hown : s.vm.findClass "java/util/concurrent/CopyOnWriteArrayList" = some m.cls := findClass_of_methodNamed Bd.named
  have hnm := (name_of_methodNamed Bd.named Bd.method).1
  have X0 : Stand p l e ({ frames := 0, cells := 0, slots := 0, locals := 0 } : Room) s m #[(.ref a1), (.ref a2)] below meth c s₁ [] 0 0 := Stand.of_body Bd
  have e0 : s₁.heap = h0 := by rw [← hh, Bd.state]; rfl
  have N0 := Fr.nil n0
  have pre0 : ∀ t, Steps p.tables e below (s₁.setTop (mkF m 0 #[.val (.ref a1), .val (.ref a2)] [])) t → Steps p.tables e below (s₁.setTop (entryFrame m #[(.ref a1), (.ref a2)] 2)) t := fun t k => castTop (ef_rsa m a1 a2) k
  change Go p.tables e below (fun o U' => ∃ v L, o = .returned v ∧ Q_rsa Z a1 a2 h0 n0 v U'.heap L ∧ FrameEnd s o U' L ({ frames := 0, cells := 0, slots := 0, locals := 0 } : Room).cells ({ frames := 0, cells := 0, slots := 0, locals := 0 } : Room).slots) (s₁.setTop (entryFrame m #[(.ref a1), (.ref a2)] 2))
  have K0 := Keep.refl h0 [a1]
  refine Go.on pre0 ?_
  refine Go.on (B := s₁.setTop (mkF m 1 #[.val (.ref a1), .val (.ref a2)] [(.ref a1)])) (fun t k => XS.aloadN X0.here hx rfl (hb hby d4_0) rfl rfl k) ?_
  refine Go.on (B := s₁.setTop (mkF m 2 #[.val (.ref a1), .val (.ref a2)] [(.ref a2), (.ref a1)])) (fun t k => XS.aloadN X0.here hx rfl (hb hby d4_1) rfl rfl k) ?_
  obtain ⟨T1, h1, X1, e1, W1, st1⟩ := putF X0 hx hZ hown (host := "") (Or.inl (hw _ (List.mem_of_getElem? (i := 29) rfl))) Via.refl e0 F_array E1 (Or.inl (hw _ (List.mem_of_getElem? (i := 30) rfl))) (hw _ (List.mem_of_getElem? (i := 14) rfl)) (ty := (.array (.object "java/lang/Object"))) (by decide) rfl rfl (g := (mkF m 2 #[.val (.ref a1), .val (.ref a2)] [(.ref a2), (.ref a1)])) rfl rfl (hb hby d4_2)
  have N1 := Fr.snoc X1 N0 g1
  have Fw1 := F_array.same W1
  have f1 := E1.wr W1
  have Zs2 := Nat.le_trans Z0 (Keep.of_wr W1).1
  have K3 := K0.wr W1 (Or.inl (List.mem_of_getElem? (i := 0) rfl))
  refine Go.on (B := T1.setTop (mkF m 5 #[.val (.ref a1), .val (.ref a2)] [])) (fun t k => st1 _ k) ?_
  obtain ⟨fs, hr, hrun, hended, hW, hsame⟩ := X1.leave (v := none) (fun _ => rfl)
  refine ⟨_, _, ?_, hrun, hended, _, _, rfl, ?_, ⟨_, rfl⟩, hW, hsame.mono (by decide) (by decide)⟩
  · exact X1.returnOut hx Bd.returns (hb hby d4_5) hr
  · show Q_rsa Z a1 a2 h0 n0 _ T1.heap _
    rw [e1]
    exact ⟨rfl, N1, K3, f1⟩
theorem d3_0 : decode jdk_2780_method_3_code 0 = .ok (.aload_n 0, 1) := by decide +kernel
theorem d3_1 : decode jdk_2780_method_3_code 1 = .ok (.invokespecial 7, 3) := by decide +kernel
theorem d3_4 : decode jdk_2780_method_3_code 4 = .ok (.aload_n 0, 1) := by decide +kernel
theorem d3_5 : decode jdk_2780_method_3_code 5 = .ok (.new 8, 3) := by decide +kernel
theorem d3_8 : decode jdk_2780_method_3_code 8 = .ok (.dup, 1) := by decide +kernel
theorem d3_9 : decode jdk_2780_method_3_code 9 = .ok (.invokespecial 7, 3) := by decide +kernel
theorem d3_12 : decode jdk_2780_method_3_code 12 = .ok (.putfield 13, 3) := by decide +kernel
theorem d3_15 : decode jdk_2780_method_3_code 15 = .ok (.aload_n 0, 1) := by decide +kernel
theorem d3_16 : decode jdk_2780_method_3_code 16 = .ok (.iconst 0, 1) := by decide +kernel
theorem d3_17 : decode jdk_2780_method_3_code 17 = .ok (.anewarray 8, 3) := by decide +kernel
theorem d3_20 : decode jdk_2780_method_3_code 20 = .ok (.invokevirtual 17, 3) := by decide +kernel
theorem d3_23 : decode jdk_2780_method_3_code 23 = .ok (.return_, 1) := by decide +kernel
theorem pd_1 : parseMethodDescriptor "([Ljava/lang/Object;)V" = some ⟨[(.array (.object "java/lang/Object"))], none⟩ := by decide +kernel
theorem ef_rcow (m : MethodId) (a1 : Addr) : entryFrame m #[(.ref a1)] 1 = mkF m 0 #[.val (.ref a1)] [] := by first | (simp [entryFrame, mkF, argsToLocals, Value.category]; done) | rfl
def Q_rcow (Z : State) (a1 : Addr) (h0 : Heap) (n0 : Nat) (v : Option Value) (h : Heap) (L : List Loc) : Prop := v = none ∧ Fr n0 L ∧ Keep h0 h [a1] ∧ Exa Z h a1 "java/util/concurrent/CopyOnWriteArrayList"
set_option maxRecDepth 65536 in
set_option maxHeartbeats 40000000 in
theorem rcow (l : Launch) (Z : State) (a0 : Array Value) (hw : ∀ d ∈ tables_1, d.before a0 Z = true) (ws : List Jvm.Cond) (a1 : Addr) (h0 : Heap) (n0 : Nat) (Z0 : n0 ≤ h0.size) (E1 : Exa Z h0 a1 "java/util/concurrent/CopyOnWriteArrayList") (F_array : Fld Z h0 a1 "java/util/concurrent/CopyOnWriteArrayList" "array" "[Ljava/lang/Object;" .null) (F_lock : Fld Z h0 a1 "java/util/concurrent/CopyOnWriteArrayList" "lock" "Ljava/lang/Object;" .null) (g1 : n0 ≤ a1) :
    MetFree l (⟨"java/util/concurrent/CopyOnWriteArrayList", "<init>", "()V"⟩ : MethodName) (head1 (Jvm.Cond.code (⟨"java/util/concurrent/CopyOnWriteArrayList", "<init>", "()V"⟩ : MethodName) jdk_2780_method_3_code 1 none :: ws) ({ frames := 2, cells := 2, slots := 0, locals := 30 } : Room)) (fun a U => a = #[(.ref a1)] ∧ Z.Warmed39 U.vm ∧ U.heap = h0) (fun _ _ _ _ _ => True) (fun _ U o U' => ∃ v L, o = .returned v ∧ Q_rcow Z a1 h0 n0 v U'.heap L ∧ FrameEnd U o U' L ({ frames := 2, cells := 2, slots := 0, locals := 30 } : Room).cells ({ frames := 2, cells := 2, slots := 0, locals := 30 } : Room).slots) := by
  refine MetFree.of_bodySF (plainFor_of_name pn_11) hisR ?_
  intro p e s m args below meth c s₁ Bd hml0 hP hK
  obtain ⟨rfl, hZ, hh⟩ := hP
  have hx := Bd.exec
  have hby := Bd.bytes
  have hml : c.maxLocals = 1 := hml0
  have hown : s.vm.findClass "java/util/concurrent/CopyOnWriteArrayList" = some m.cls := findClass_of_methodNamed Bd.named
  have hnm := (name_of_methodNamed Bd.named Bd.method).1
  have X0 : Stand p l e ({ frames := 2, cells := 2, slots := 0, locals := 30 } : Room) s m #[(.ref a1)] below meth c s₁ [] 0 0 := Stand.of_body Bd
  have e0 : s₁.heap = h0 := by rw [← hh, Bd.state]; rfl
  have N0 := Fr.nil n0
  have pre0 : ∀ t, Steps p.tables e below (s₁.setTop (mkF m 0 #[.val (.ref a1)] [])) t → Steps p.tables e below (s₁.setTop (entryFrame m #[(.ref a1)] 1)) t := fun t k => castTop (ef_rcow m a1) k
  change Go p.tables e below (fun o U' => ∃ v L, o = .returned v ∧ Q_rcow Z a1 h0 n0 v U'.heap L ∧ FrameEnd s o U' L ({ frames := 2, cells := 2, slots := 0, locals := 30 } : Room).cells ({ frames := 2, cells := 2, slots := 0, locals := 30 } : Room).slots) (s₁.setTop (entryFrame m #[(.ref a1)] 1))
  have K0 := Keep.refl h0 [a1]
  refine Go.on pre0 ?_
  refine Go.on (B := s₁.setTop (mkF m 1 #[.val (.ref a1)] [(.ref a1)])) (fun t k => XS.aloadN X0.here hx rfl (hb hby d3_0) rfl rfl k) ?_
  obtain ⟨T1, X1, e1, st1⟩ := initO X0 hx hZ hown (hw _ (List.mem_of_getElem? (i := 19) rfl)) (hw _ (List.mem_of_getElem? (i := 7) rfl)) (hw _ (List.mem_of_getElem? (i := 8) rfl)) e0 (g := (mkF m 1 #[.val (.ref a1)] [(.ref a1)])) rfl (by rw [hml]; rfl) rfl (hb hby d3_1) (by decide) (W := 0) (by show 2 * 0 + _ ≤ _; exact Nat.le_of_eq rfl) (by decide)
  refine Go.on (B := T1.setTop (mkF m 4 #[.val (.ref a1)] [])) (fun t k => st1 _ k) ?_
  refine Go.on (B := T1.setTop (mkF m 5 #[.val (.ref a1)] [(.ref a1)])) (fun t k => XS.aloadN X1.here hx rfl (hb hby d3_4) rfl rfl k) ?_
  obtain ⟨T2, h2, X2, e2, Xe2, A2, D2, Ue2, st2⟩ := newO X1 hx hZ hown (hw _ (List.mem_of_getElem? (i := 20) rfl)) (hw _ (List.mem_of_getElem? (i := 4) rfl)) (hw _ (List.mem_of_getElem? (i := 5) rfl)) e1 (g := (mkF m 5 #[.val (.ref a1)] [(.ref a1)])) rfl (hb hby d3_5) (by decide) (by decide)
  obtain ⟨b2, gq2⟩ : ∃ z, z = h0.size := ⟨_, rfl⟩
  rw [← gq2] at A2 D2 Ue2 st2
  have ge_b2 : n0 ≤ b2 := Nat.le_trans Z0 (Nat.le_of_eq gq2.symm)
  have sz_b2 : h0.size ≤ b2 := Nat.le_trans K0.1 (Nat.le_of_eq gq2.symm)
  have ne_a1_b2 : a1 ≠ b2 := Nat.ne_of_lt (Nat.lt_of_lt_of_le E1.lt (Nat.le_of_eq gq2.symm))
  have f1 := E1.ext Xe2
  have f2 := F_array.ext Xe2
  have f3 := F_lock.ext Xe2
  have Zs4 := Nat.le_trans Z0 Xe2.1
  have K5 := K0.ext Xe2
  have Un2 : Unt h2 b2 := Ue2
  refine Go.on (B := T2.setTop (mkF m 8 #[.val (.ref a1)] [(.ref b2), (.ref a1)])) (fun t k => st2 _ k) ?_
  refine Go.on (B := T2.setTop (mkF m 9 #[.val (.ref a1)] [(.ref b2), (.ref b2), (.ref a1)])) (fun t k => XS.dup X2.here hx rfl (hb hby d3_8) rfl rfl k) ?_
  obtain ⟨T3, X3, e3, st3⟩ := initO X2 hx hZ hown (hw _ (List.mem_of_getElem? (i := 19) rfl)) (hw _ (List.mem_of_getElem? (i := 7) rfl)) (hw _ (List.mem_of_getElem? (i := 8) rfl)) e2 (g := (mkF m 9 #[.val (.ref a1)] [(.ref b2), (.ref b2), (.ref a1)])) rfl (by rw [hml]; rfl) rfl (hb hby d3_9) (by decide) (W := 2) (by show 2 * 0 + _ ≤ _; exact Nat.le_of_eq rfl) (by decide)
  refine Go.on (B := T3.setTop (mkF m 12 #[.val (.ref a1)] [(.ref b2), (.ref a1)])) (fun t k => st3 _ k) ?_
  obtain ⟨T4, h4, X4, e4, W4, st4⟩ := putF X3 hx hZ hown (host := "") (Or.inl (hw _ (List.mem_of_getElem? (i := 21) rfl))) Via.refl e3 f3 f1 (Or.inr ⟨(hw _ (List.mem_of_getElem? (i := 22) rfl)), rfl, hnm⟩) (hw _ (List.mem_of_getElem? (i := 14) rfl)) (ty := (.object "java/lang/Object")) (by decide) rfl rfl (g := (mkF m 12 #[.val (.ref a1)] [(.ref b2), (.ref a1)])) rfl rfl (hb hby d3_12)
  have N4 := Fr.snoc X4 N0 g1
  have Fw4 := f3.same W4
  have f6 := f1.wr W4
  have f7 := f2.other W4 (Or.inr (slot_ne (Or.inl (hw _ (List.mem_of_getElem? (i := 30) rfl))) (Or.inr (hw _ (List.mem_of_getElem? (i := 22) rfl))) (by decide) (t := (.array (.object "java/lang/Object"))) (t' := (.object "java/lang/Object")) (by decide) (by decide)))
  have f8 := A2.wr W4
  have f9 := Un2.wr W4
  have Zs10 := Nat.le_trans Zs4 (Keep.of_wr W4).1
  have K11 := K5.wr W4 (Or.inl (List.mem_of_getElem? (i := 0) rfl))
  refine Go.on (B := T4.setTop (mkF m 15 #[.val (.ref a1)] [])) (fun t k => st4 _ k) ?_
  refine Go.on (B := T4.setTop (mkF m 16 #[.val (.ref a1)] [(.ref a1)])) (fun t k => XS.aloadN X4.here hx rfl (hb hby d3_15) rfl rfl k) ?_
  refine Go.on (B := T4.setTop (mkF m 17 #[.val (.ref a1)] [(.int (0 : Int32)), (.ref a1)])) (fun t k => XS.iconst X4.here hx rfl (hb hby d3_16) k) ?_
  obtain ⟨T5, h5, k5, X5, e5, Xe5, A5, Ov5, st5⟩ := newR X4 hx hZ hown (hw _ (List.mem_of_getElem? (i := 20) rfl)) (hw _ (List.mem_of_getElem? (i := 23) rfl)) e4 (g := (mkF m 17 #[.val (.ref a1)] [(.int (0 : Int32)), (.ref a1)])) rfl (hb hby d3_17) rfl (by decide) (cap := 0) (by decide) (by decide) (by decide) (by decide)
  obtain ⟨b5, gq5⟩ : ∃ z, z = h4.size := ⟨_, rfl⟩
  rw [← gq5] at A5 st5
  have ge_b5 : n0 ≤ b5 := Nat.le_trans Zs10 (Nat.le_of_eq gq5.symm)
  have sz_b5 : h0.size ≤ b5 := Nat.le_trans K11.1 (Nat.le_of_eq gq5.symm)
  have ne_a1_b5 : a1 ≠ b5 := Nat.ne_of_lt (Nat.lt_of_lt_of_le f6.lt (Nat.le_of_eq gq5.symm))
  have ne_b2_b5 : b2 ≠ b5 := Nat.ne_of_lt (Nat.lt_of_lt_of_le f8.lt (Nat.le_of_eq gq5.symm))
  have f12 := f6.ext Xe5
  have f13 := f7.ext Xe5
  have f14 := Fw4.ext Xe5
  have f15 := f8.ext Xe5
  have f16 := f9.ext Xe5
  have Zs17 := Nat.le_trans Zs10 Xe5.1
  have K18 := K11.ext Xe5
  have V5 : Arv Z h5 b5 k5 (.object "java/lang/Object") (0 : Int32) [] .null := Arv.new A5 (by decide)
  refine Go.on (B := T5.setTop (mkF m 20 #[.val (.ref a1)] [(.ref b5), (.ref a1)])) (fun t k => st5 _ k) ?_
  obtain ⟨cq6, kq6, q6a, q6b, q6c⟩ := isOf hZ e5 f12
  obtain ⟨_, _, ⟨T6, L6, k6, n6⟩, -, X6, ⟨Lc6, hQ6, l6, y6, z6⟩, st6⟩ := X5.virtualBack hx (y := (⟨"java/util/concurrent/CopyOnWriteArrayList", "setArray", "([Ljava/lang/Object;)V"⟩ : MethodName)) (z := (⟨"java/util/concurrent/CopyOnWriteArrayList", "setArray", "([Ljava/lang/Object;)V"⟩ : MethodName)) hown (mvT hZ (hw _ (List.mem_of_getElem? (i := 24) rfl))) (mvT hZ (hw _ (List.mem_of_getElem? (i := 25) rfl))) (notFace_of_selects (args := #[]) (mvT hZ (hw _ (List.mem_of_getElem? (i := 27) rfl)))) (mvT hZ (hw _ (List.mem_of_getElem? (i := 27) rfl))) (mvT hZ (hw _ (List.mem_of_getElem? (i := 26) rfl))) (by decide) (backOf (W := 0) (rsa l Z a0 hw [] a1 b5 h5 n0 Zs17 f12 f13 g1) hZ (hw _ (List.mem_of_getElem? (i := 28) rfl)) (hw _ (List.mem_of_getElem? (i := 15) rfl)) (by decide) (by decide)) q6a q6c (g := (mkF m 20 #[.val (.ref a1)] [(.ref b5), (.ref a1)])) rfl (by rw [hml]; rfl) (Steps.refl _) (argsL := [(.ref b5)]) (rest := []) (lenOf pd_1 rfl) rfl (by show 2 * 0 + _ ≤ _; exact Nat.le_of_eq rfl) (hb hby d3_20) (fun _ _ => ⟨rfl, e5, (by decide : 2 + 0 ≤ _), (by decide : 0 + 0 ≤ _)⟩)
  dsimp only [Pt.U, Pt.locs, Pt.cells, Pt.slots] at X6 l6 y6 z6 st6 hQ6
  subst l6 y6 z6
  obtain ⟨rfl, N6q, K6q, G6_0⟩ := hQ6
  have N6 := Fr.app N4 N6q
  have f19 := f12.keep K6q
  have f20 := f15.keep K6q
  have f21 := own_untk f16 K6q (ninS (Ne.symm ne_a1_b2) nin0)
  have f22 := V5.keep K6q (ninS (Ne.symm ne_a1_b5) nin0)
  have Zs23 := Nat.le_trans Zs17 K6q.1
  have K24 := K18.trans K6q (allS (Or.inl (List.mem_of_getElem? (i := 0) rfl)) all0)
  refine Go.on (B := T6.setTop (mkF m 23 #[.val (.ref a1)] [])) (fun t k => st6.trans k) ?_
  obtain ⟨fs, hr, hrun, hended, hW, hsame⟩ := X6.leave (v := none) (fun _ => rfl)
  refine ⟨_, _, ?_, hrun, hended, _, _, rfl, ?_, ⟨_, rfl⟩, hW, hsame.mono (by decide) (by decide)⟩
  · exact X6.returnOut hx Bd.returns (hb hby d3_23) hr
  · show Q_rcow Z a1 h0 n0 _ T6.heap _
    exact ⟨rfl, N6, K24, G6_0⟩
theorem d5_0 : decode jdk_2729_method_1_code 0 = .ok (.aload_n 0, 1) := by decide +kernel
theorem d5_1 : decode jdk_2729_method_1_code 1 = .ok (.invokespecial 1, 3) := by decide +kernel
theorem d5_4 : decode jdk_2729_method_1_code 4 = .ok (.aload_n 0, 1) := by decide +kernel
theorem d5_5 : decode jdk_2729_method_1_code 5 = .ok (.iconst 0, 1) := by decide +kernel
theorem d5_6 : decode jdk_2729_method_1_code 6 = .ok (.putfield 7, 3) := by decide +kernel
theorem d5_9 : decode jdk_2729_method_1_code 9 = .ok (.aload_n 0, 1) := by decide +kernel
theorem d5_10 : decode jdk_2729_method_1_code 10 = .ok (.iconst 0, 1) := by decide +kernel
theorem d5_11 : decode jdk_2729_method_1_code 11 = .ok (.putfield 13, 3) := by decide +kernel
theorem d5_14 : decode jdk_2729_method_1_code 14 = .ok (.aload_n 0, 1) := by decide +kernel
theorem d5_15 : decode jdk_2729_method_1_code 15 = .ok (.aconst_null, 1) := by decide +kernel
theorem d5_16 : decode jdk_2729_method_1_code 16 = .ok (.putfield 16, 3) := by decide +kernel
theorem d5_19 : decode jdk_2729_method_1_code 19 = .ok (.return_, 1) := by decide +kernel
theorem pn_15 : plainName "java/util/TreeMap" = true := by first | (simp [plainName, overriddenIn]; done) | decide +kernel
theorem ef_rtm (m : MethodId) (a1 : Addr) : entryFrame m #[(.ref a1)] 1 = mkF m 0 #[.val (.ref a1)] [] := by first | (simp [entryFrame, mkF, argsToLocals, Value.category]; done) | rfl
def Q_rtm (Z : State) (a1 : Addr) (h0 : Heap) (n0 : Nat) (v : Option Value) (h : Heap) (L : List Loc) : Prop := v = none ∧ Fr n0 L ∧ Keep h0 h [a1] ∧ Exa Z h a1 "java/util/TreeMap" ∧ Fld Z h a1 "java/util/TreeMap" "root" "Ljava/util/TreeMap$Entry;" .null
set_option maxRecDepth 65536 in
set_option maxHeartbeats 40000000 in
theorem rtm (l : Launch) (Z : State) (a0 : Array Value) (hw : ∀ d ∈ tables_1, d.before a0 Z = true) (ws : List Jvm.Cond) (a1 : Addr) (h0 : Heap) (n0 : Nat) (Z0 : n0 ≤ h0.size) (E1 : Exa Z h0 a1 "java/util/TreeMap") (F_size : Fld Z h0 a1 "java/util/TreeMap" "size" "I" (.int (0 : Int32))) (F_modCount : Fld Z h0 a1 "java/util/TreeMap" "modCount" "I" (.int (0 : Int32))) (F_comparator : Fld Z h0 a1 "java/util/TreeMap" "comparator" "Ljava/util/Comparator;" .null) (F_root : Fld Z h0 a1 "java/util/TreeMap" "root" "Ljava/util/TreeMap$Entry;" .null) (g1 : n0 ≤ a1) :
    MetFree l (⟨"java/util/TreeMap", "<init>", "()V"⟩ : MethodName) (head1 (Jvm.Cond.code (⟨"java/util/TreeMap", "<init>", "()V"⟩ : MethodName) jdk_2729_method_1_code 1 none :: ws) ({ frames := 2, cells := 0, slots := 0, locals := 24 } : Room)) (fun a U => a = #[(.ref a1)] ∧ Z.Warmed39 U.vm ∧ U.heap = h0) (fun _ _ _ _ _ => True) (fun _ U o U' => ∃ v L, o = .returned v ∧ Q_rtm Z a1 h0 n0 v U'.heap L ∧ FrameEnd U o U' L ({ frames := 2, cells := 0, slots := 0, locals := 24 } : Room).cells ({ frames := 2, cells := 0, slots := 0, locals := 24 } : Room).slots) := by
  refine MetFree.of_bodySF (plainFor_of_name pn_15) hisR ?_
  intro p e s m args below meth c s₁ Bd hml0 hP hK
  obtain ⟨rfl, hZ, hh⟩ := hP
  have hx := Bd.exec
  have hby := Bd.bytes
  have hml : c.maxLocals = 1 := hml0
  have hown : s.vm.findClass "java/util/TreeMap" = some m.cls := findClass_of_methodNamed Bd.named
  have hnm := (name_of_methodNamed Bd.named Bd.method).1
  have X0 : Stand p l e ({ frames := 2, cells := 0, slots := 0, locals := 24 } : Room) s m #[(.ref a1)] below meth c s₁ [] 0 0 := Stand.of_body Bd
  have e0 : s₁.heap = h0 := by rw [← hh, Bd.state]; rfl
  have N0 := Fr.nil n0
  have pre0 : ∀ t, Steps p.tables e below (s₁.setTop (mkF m 0 #[.val (.ref a1)] [])) t → Steps p.tables e below (s₁.setTop (entryFrame m #[(.ref a1)] 1)) t := fun t k => castTop (ef_rtm m a1) k
  change Go p.tables e below (fun o U' => ∃ v L, o = .returned v ∧ Q_rtm Z a1 h0 n0 v U'.heap L ∧ FrameEnd s o U' L ({ frames := 2, cells := 0, slots := 0, locals := 24 } : Room).cells ({ frames := 2, cells := 0, slots := 0, locals := 24 } : Room).slots) (s₁.setTop (entryFrame m #[(.ref a1)] 1))
  have K0 := Keep.refl h0 [a1]
  refine Go.on pre0 ?_
  refine Go.on (B := s₁.setTop (mkF m 1 #[.val (.ref a1)] [(.ref a1)])) (fun t k => XS.aloadN X0.here hx rfl (hb hby d5_0) rfl rfl k) ?_
  obtain ⟨_, _, ⟨T1, L1, k1, n1⟩, -, X1, ⟨Lc1, hQ1, l1, y1, z1⟩, st1⟩ := X0.specialBack hx (y := (⟨"java/util/AbstractMap", "<init>", "()V"⟩ : MethodName)) rfl hown (mvT hZ (hw _ (List.mem_of_getElem? (i := 39) rfl))) (mvT hZ (hw _ (List.mem_of_getElem? (i := 40) rfl))) (mvT hZ (hw _ (List.mem_of_getElem? (i := 44) rfl))) (by decide) (backOf (W := 0) (ram l Z a0 hw [] a1 h0 n0 Z0) hZ (hw _ (List.mem_of_getElem? (i := 44) rfl)) (hw _ (List.mem_of_getElem? (i := 43) rfl)) (by decide) (by decide)) (g := (mkF m 1 #[.val (.ref a1)] [(.ref a1)])) rfl (by rw [hml]; rfl) (Steps.refl _) (a := a1) (argsL := []) (rest := []) (lenOf pd_0 rfl) rfl (by show 2 * 0 + _ ≤ _; exact Nat.le_of_eq rfl) (hb hby d5_1) (fun _ _ => ⟨rfl, e0, (by decide : 0 + 0 ≤ _), (by decide : 0 + 0 ≤ _)⟩)
  dsimp only [Pt.U, Pt.locs, Pt.cells, Pt.slots] at X1 l1 y1 z1 st1 hQ1
  subst l1 y1 z1
  obtain ⟨rfl, N1q, e1q⟩ := hQ1
  have N1 := Fr.app N0 N1q
  refine Go.on (B := T1.setTop (mkF m 4 #[.val (.ref a1)] [])) (fun t k => st1.trans k) ?_
  refine Go.on (B := T1.setTop (mkF m 5 #[.val (.ref a1)] [(.ref a1)])) (fun t k => XS.aloadN X1.here hx rfl (hb hby d5_4) rfl rfl k) ?_
  refine Go.on (B := T1.setTop (mkF m 6 #[.val (.ref a1)] [(.int (0 : Int32)), (.ref a1)])) (fun t k => XS.iconst X1.here hx rfl (hb hby d5_5) k) ?_
  obtain ⟨T2, h2, X2, e2, W2, st2⟩ := putF X1 hx hZ hown (host := "") (Or.inl (hw _ (List.mem_of_getElem? (i := 46) rfl))) Via.refl e1q F_size E1 (Or.inl (hw _ (List.mem_of_getElem? (i := 47) rfl))) (hw _ (List.mem_of_getElem? (i := 34) rfl)) (ty := .int) (by decide) rfl rfl (g := (mkF m 6 #[.val (.ref a1)] [(.int (0 : Int32)), (.ref a1)])) rfl rfl (hb hby d5_6)
  have N2 := Fr.snoc X2 N1 g1
  have Fw2 := F_size.same W2
  have f1 := E1.wr W2
  have f2 := F_modCount.other W2 (Or.inr (slot_ne (Or.inl (hw _ (List.mem_of_getElem? (i := 49) rfl))) (Or.inl (hw _ (List.mem_of_getElem? (i := 47) rfl))) (by decide) (t := .int) (t' := .int) (by decide) (by decide)))
  have f3 := F_comparator.other W2 (Or.inr (slot_ne (Or.inr (hw _ (List.mem_of_getElem? (i := 51) rfl))) (Or.inl (hw _ (List.mem_of_getElem? (i := 47) rfl))) (by decide) (t := (.object "java/util/Comparator")) (t' := .int) (by decide) (by decide)))
  have f4 := F_root.other W2 (Or.inr (slot_ne (Or.inl (hw _ (List.mem_of_getElem? (i := 143) rfl))) (Or.inl (hw _ (List.mem_of_getElem? (i := 47) rfl))) (by decide) (t := (.object "java/util/TreeMap$Entry")) (t' := .int) (by decide) (by decide)))
  have Zs5 := Nat.le_trans Z0 (Keep.of_wr W2).1
  have K6 := K0.wr W2 (Or.inl (List.mem_of_getElem? (i := 0) rfl))
  refine Go.on (B := T2.setTop (mkF m 9 #[.val (.ref a1)] [])) (fun t k => st2 _ k) ?_
  refine Go.on (B := T2.setTop (mkF m 10 #[.val (.ref a1)] [(.ref a1)])) (fun t k => XS.aloadN X2.here hx rfl (hb hby d5_9) rfl rfl k) ?_
  refine Go.on (B := T2.setTop (mkF m 11 #[.val (.ref a1)] [(.int (0 : Int32)), (.ref a1)])) (fun t k => XS.iconst X2.here hx rfl (hb hby d5_10) k) ?_
  obtain ⟨T3, h3, X3, e3, W3, st3⟩ := putF X2 hx hZ hown (host := "") (Or.inl (hw _ (List.mem_of_getElem? (i := 48) rfl))) Via.refl e2 f2 f1 (Or.inl (hw _ (List.mem_of_getElem? (i := 49) rfl))) (hw _ (List.mem_of_getElem? (i := 34) rfl)) (ty := .int) (by decide) rfl rfl (g := (mkF m 11 #[.val (.ref a1)] [(.int (0 : Int32)), (.ref a1)])) rfl rfl (hb hby d5_11)
  have N3 := Fr.snoc X3 N2 g1
  have Fw3 := f2.same W3
  have f7 := f1.wr W3
  have f8 := Fw2.other W3 (Or.inr (slot_ne (Or.inl (hw _ (List.mem_of_getElem? (i := 47) rfl))) (Or.inl (hw _ (List.mem_of_getElem? (i := 49) rfl))) (by decide) (t := .int) (t' := .int) (by decide) (by decide)))
  have f9 := f3.other W3 (Or.inr (slot_ne (Or.inr (hw _ (List.mem_of_getElem? (i := 51) rfl))) (Or.inl (hw _ (List.mem_of_getElem? (i := 49) rfl))) (by decide) (t := (.object "java/util/Comparator")) (t' := .int) (by decide) (by decide)))
  have f10 := f4.other W3 (Or.inr (slot_ne (Or.inl (hw _ (List.mem_of_getElem? (i := 143) rfl))) (Or.inl (hw _ (List.mem_of_getElem? (i := 49) rfl))) (by decide) (t := (.object "java/util/TreeMap$Entry")) (t' := .int) (by decide) (by decide)))
  have Zs11 := Nat.le_trans Zs5 (Keep.of_wr W3).1
  have K12 := K6.wr W3 (Or.inl (List.mem_of_getElem? (i := 0) rfl))
  refine Go.on (B := T3.setTop (mkF m 14 #[.val (.ref a1)] [])) (fun t k => st3 _ k) ?_
  refine Go.on (B := T3.setTop (mkF m 15 #[.val (.ref a1)] [(.ref a1)])) (fun t k => XS.aloadN X3.here hx rfl (hb hby d5_14) rfl rfl k) ?_
  refine Go.on (B := T3.setTop (mkF m 16 #[.val (.ref a1)] [.null, (.ref a1)])) (fun t k => XS.aconstNull X3.here hx rfl (hb hby d5_15) k) ?_
  obtain ⟨T4, h4, X4, e4, W4, st4⟩ := putF X3 hx hZ hown (host := "") (Or.inl (hw _ (List.mem_of_getElem? (i := 50) rfl))) Via.refl e3 f9 f7 (Or.inr ⟨(hw _ (List.mem_of_getElem? (i := 51) rfl)), rfl, hnm⟩) (hw _ (List.mem_of_getElem? (i := 34) rfl)) (ty := (.object "java/util/Comparator")) (by decide) rfl rfl (g := (mkF m 16 #[.val (.ref a1)] [.null, (.ref a1)])) rfl rfl (hb hby d5_16)
  have N4 := Fr.snoc X4 N3 g1
  have Fw4 := f9.same W4
  have f13 := f7.wr W4
  have f14 := f8.other W4 (Or.inr (slot_ne (Or.inl (hw _ (List.mem_of_getElem? (i := 47) rfl))) (Or.inr (hw _ (List.mem_of_getElem? (i := 51) rfl))) (by decide) (t := .int) (t' := (.object "java/util/Comparator")) (by decide) (by decide)))
  have f15 := Fw3.other W4 (Or.inr (slot_ne (Or.inl (hw _ (List.mem_of_getElem? (i := 49) rfl))) (Or.inr (hw _ (List.mem_of_getElem? (i := 51) rfl))) (by decide) (t := .int) (t' := (.object "java/util/Comparator")) (by decide) (by decide)))
  have f16 := f10.other W4 (Or.inr (slot_ne (Or.inl (hw _ (List.mem_of_getElem? (i := 143) rfl))) (Or.inr (hw _ (List.mem_of_getElem? (i := 51) rfl))) (by decide) (t := (.object "java/util/TreeMap$Entry")) (t' := (.object "java/util/Comparator")) (by decide) (by decide)))
  have Zs17 := Nat.le_trans Zs11 (Keep.of_wr W4).1
  have K18 := K12.wr W4 (Or.inl (List.mem_of_getElem? (i := 0) rfl))
  refine Go.on (B := T4.setTop (mkF m 19 #[.val (.ref a1)] [])) (fun t k => st4 _ k) ?_
  obtain ⟨fs, hr, hrun, hended, hW, hsame⟩ := X4.leave (v := none) (fun _ => rfl)
  refine ⟨_, _, ?_, hrun, hended, _, _, rfl, ?_, ⟨_, rfl⟩, hW, hsame.mono (by decide) (by decide)⟩
  · exact X4.returnOut hx Bd.returns (hb hby d5_19) hr
  · show Q_rtm Z a1 h0 n0 _ T4.heap _
    rw [e4]
    exact ⟨rfl, N4, K18, f13, f16⟩
theorem d8_0 : decode jdk_2581_method_6_code 0 = .ok (.aload_n 0, 1) := by decide +kernel
theorem d8_1 : decode jdk_2581_method_6_code 1 = .ok (.iconst 2, 1) := by decide +kernel
theorem d8_2 : decode jdk_2581_method_6_code 2 = .ok (.iload_n 1, 1) := by decide +kernel
theorem d8_3 : decode jdk_2581_method_6_code 3 = .ok (.imul, 1) := by decide +kernel
theorem d8_4 : decode jdk_2581_method_6_code 4 = .ok (.anewarray 49, 3) := by decide +kernel
theorem d8_7 : decode jdk_2581_method_6_code 7 = .ok (.putfield 51, 3) := by decide +kernel
theorem d8_10 : decode jdk_2581_method_6_code 10 = .ok (.return_, 1) := by decide +kernel
theorem pn_17 : plainName "java/util/IdentityHashMap" = true := by first | (simp [plainName, overriddenIn]; done) | decide +kernel
theorem ef_rihi (m : MethodId) (a1 : Addr) : entryFrame m #[(.ref a1), (.int (32 : Int32))] 2 = mkF m 0 #[.val (.ref a1), .val (.int (32 : Int32))] [] := by first | (simp [entryFrame, mkF, argsToLocals, Value.category]; done) | rfl
def Q_rihi (Z : State) (a1 : Addr) (h0 : Heap) (n0 : Nat) (v : Option Value) (h : Heap) (L : List Loc) : Prop := v = none ∧ Fr n0 L ∧ Keep h0 h [a1] ∧ Exa Z h a1 "java/util/IdentityHashMap"
set_option maxRecDepth 65536 in
set_option maxHeartbeats 40000000 in
theorem rihi (l : Launch) (Z : State) (a0 : Array Value) (hw : ∀ d ∈ tables_1, d.before a0 Z = true) (ws : List Jvm.Cond) (a1 : Addr) (h0 : Heap) (n0 : Nat) (Z0 : n0 ≤ h0.size) (E1 : Exa Z h0 a1 "java/util/IdentityHashMap") (F_table : Fld Z h0 a1 "java/util/IdentityHashMap" "table" "[Ljava/lang/Object;" .null) (g1 : n0 ≤ a1) :
    MetFree l (⟨"java/util/IdentityHashMap", "init", "(I)V"⟩ : MethodName) (head1 (Jvm.Cond.code (⟨"java/util/IdentityHashMap", "init", "(I)V"⟩ : MethodName) jdk_2581_method_6_code 2 none :: ws) ({ frames := 0, cells := 1, slots := 64, locals := 0 } : Room)) (fun a U => a = #[(.ref a1), (.int (32 : Int32))] ∧ Z.Warmed39 U.vm ∧ U.heap = h0) (fun _ _ _ _ _ => True) (fun _ U o U' => ∃ v L, o = .returned v ∧ Q_rihi Z a1 h0 n0 v U'.heap L ∧ FrameEnd U o U' L ({ frames := 0, cells := 1, slots := 64, locals := 0 } : Room).cells ({ frames := 0, cells := 1, slots := 64, locals := 0 } : Room).slots) := by
  refine MetFree.of_bodySF (plainFor_of_name pn_17) hisR ?_
  intro p e s m args below meth c s₁ Bd hml0 hP hK
  obtain ⟨rfl, hZ, hh⟩ := hP
  have hx := Bd.exec
  have hby := Bd.bytes
  have hml : c.maxLocals = 2 := hml0
  have hown : s.vm.findClass "java/util/IdentityHashMap" = some m.cls := findClass_of_methodNamed Bd.named
  have hnm := (name_of_methodNamed Bd.named Bd.method).1
  have X0 : Stand p l e ({ frames := 0, cells := 1, slots := 64, locals := 0 } : Room) s m #[(.ref a1), (.int (32 : Int32))] below meth c s₁ [] 0 0 := Stand.of_body Bd
  have e0 : s₁.heap = h0 := by rw [← hh, Bd.state]; rfl
  have N0 := Fr.nil n0
  have pre0 : ∀ t, Steps p.tables e below (s₁.setTop (mkF m 0 #[.val (.ref a1), .val (.int (32 : Int32))] [])) t → Steps p.tables e below (s₁.setTop (entryFrame m #[(.ref a1), (.int (32 : Int32))] 2)) t := fun t k => castTop (ef_rihi m a1) k
  change Go p.tables e below (fun o U' => ∃ v L, o = .returned v ∧ Q_rihi Z a1 h0 n0 v U'.heap L ∧ FrameEnd s o U' L ({ frames := 0, cells := 1, slots := 64, locals := 0 } : Room).cells ({ frames := 0, cells := 1, slots := 64, locals := 0 } : Room).slots) (s₁.setTop (entryFrame m #[(.ref a1), (.int (32 : Int32))] 2))
  have K0 := Keep.refl h0 [a1]
  refine Go.on pre0 ?_
  refine Go.on (B := s₁.setTop (mkF m 1 #[.val (.ref a1), .val (.int (32 : Int32))] [(.ref a1)])) (fun t k => XS.aloadN X0.here hx rfl (hb hby d8_0) rfl rfl k) ?_
  refine Go.on (B := s₁.setTop (mkF m 2 #[.val (.ref a1), .val (.int (32 : Int32))] [(.int (2 : Int32)), (.ref a1)])) (fun t k => XS.iconst X0.here hx rfl (hb hby d8_1) k) ?_
  refine Go.on (B := s₁.setTop (mkF m 3 #[.val (.ref a1), .val (.int (32 : Int32))] [(.int (32 : Int32)), (.int (2 : Int32)), (.ref a1)])) (fun t k => XS.iloadN X0.here hx rfl (hb hby d8_2) rfl k) ?_
  refine Go.on (B := s₁.setTop (mkF m 4 #[.val (.ref a1), .val (.int (32 : Int32))] [(.int ((2 : Int32) * (32 : Int32))), (.ref a1)])) (fun t k => XS.imul X0.here hx rfl (hb hby d8_3) rfl k) ?_
  rw [show ((2 : Int32) * (32 : Int32)) = (64 : Int32) from by decide]
  obtain ⟨T1, h1, k1, X1, e1, Xe1, A1, Ov1, st1⟩ := newR X0 hx hZ hown (hw _ (List.mem_of_getElem? (i := 67) rfl)) (hw _ (List.mem_of_getElem? (i := 23) rfl)) e0 (g := (mkF m 4 #[.val (.ref a1), .val (.int (32 : Int32))] [(.int (64 : Int32)), (.ref a1)])) rfl (hb hby d8_4) rfl (by decide) (cap := 64) (by decide) (by decide) (by decide) (by decide)
  obtain ⟨b1, gq1⟩ : ∃ z, z = h0.size := ⟨_, rfl⟩
  rw [← gq1] at A1 st1
  have ge_b1 : n0 ≤ b1 := Nat.le_trans Z0 (Nat.le_of_eq gq1.symm)
  have sz_b1 : h0.size ≤ b1 := Nat.le_trans K0.1 (Nat.le_of_eq gq1.symm)
  have ne_a1_b1 : a1 ≠ b1 := Nat.ne_of_lt (Nat.lt_of_lt_of_le E1.lt (Nat.le_of_eq gq1.symm))
  have f1 := E1.ext Xe1
  have f2 := F_table.ext Xe1
  have Zs3 := Nat.le_trans Z0 Xe1.1
  have K4 := K0.ext Xe1
  have V1 : Arv Z h1 b1 k1 (.object "java/lang/Object") (64 : Int32) [] .null := Arv.new A1 (by decide)
  refine Go.on (B := T1.setTop (mkF m 7 #[.val (.ref a1), .val (.int (32 : Int32))] [(.ref b1), (.ref a1)])) (fun t k => st1 _ k) ?_
  obtain ⟨T2, h2, X2, e2, W2, st2⟩ := putF X1 hx hZ hown (host := "") (Or.inl (hw _ (List.mem_of_getElem? (i := 68) rfl))) Via.refl e1 f2 f1 (Or.inl (hw _ (List.mem_of_getElem? (i := 69) rfl))) (hw _ (List.mem_of_getElem? (i := 55) rfl)) (ty := (.array (.object "java/lang/Object"))) (by decide) rfl rfl (g := (mkF m 7 #[.val (.ref a1), .val (.int (32 : Int32))] [(.ref b1), (.ref a1)])) rfl rfl (hb hby d8_7)
  have N2 := Fr.snoc X2 N0 g1
  have Fw2 := f2.same W2
  have f5 := f1.wr W2
  have f6 := V1.other W2 (Ne.symm ne_a1_b1)
  have Zs7 := Nat.le_trans Zs3 (Keep.of_wr W2).1
  have K8 := K4.wr W2 (Or.inl (List.mem_of_getElem? (i := 0) rfl))
  refine Go.on (B := T2.setTop (mkF m 10 #[.val (.ref a1), .val (.int (32 : Int32))] [])) (fun t k => st2 _ k) ?_
  obtain ⟨fs, hr, hrun, hended, hW, hsame⟩ := X2.leave (v := none) (fun _ => rfl)
  refine ⟨_, _, ?_, hrun, hended, _, _, rfl, ?_, ⟨_, rfl⟩, hW, hsame.mono (by decide) (by decide)⟩
  · exact X2.returnOut hx Bd.returns (hb hby d8_10) hr
  · show Q_rihi Z a1 h0 n0 _ T2.heap _
    rw [e2]
    exact ⟨rfl, N2, K8, f5⟩
theorem d7_0 : decode jdk_2581_method_3_code 0 = .ok (.aload_n 0, 1) := by decide +kernel
theorem d7_1 : decode jdk_2581_method_3_code 1 = .ok (.invokespecial 7, 3) := by decide +kernel
theorem d7_4 : decode jdk_2581_method_3_code 4 = .ok (.aload_n 0, 1) := by decide +kernel
theorem d7_5 : decode jdk_2581_method_3_code 5 = .ok (.bipush 32, 2) := by decide +kernel
theorem d7_7 : decode jdk_2581_method_3_code 7 = .ok (.invokevirtual 13, 3) := by decide +kernel
theorem d7_10 : decode jdk_2581_method_3_code 10 = .ok (.return_, 1) := by decide +kernel
theorem pd_2 : parseMethodDescriptor "(I)V" = some ⟨[.int], none⟩ := by decide +kernel
theorem ef_rihm (m : MethodId) (a1 : Addr) : entryFrame m #[(.ref a1)] 1 = mkF m 0 #[.val (.ref a1)] [] := by first | (simp [entryFrame, mkF, argsToLocals, Value.category]; done) | rfl
def Q_rihm (Z : State) (a1 : Addr) (h0 : Heap) (n0 : Nat) (v : Option Value) (h : Heap) (L : List Loc) : Prop := v = none ∧ Fr n0 L ∧ Keep h0 h [a1] ∧ Exa Z h a1 "java/util/IdentityHashMap"
set_option maxRecDepth 65536 in
set_option maxHeartbeats 40000000 in
theorem rihm (l : Launch) (Z : State) (a0 : Array Value) (hw : ∀ d ∈ tables_1, d.before a0 Z = true) (ws : List Jvm.Cond) (a1 : Addr) (h0 : Heap) (n0 : Nat) (Z0 : n0 ≤ h0.size) (E1 : Exa Z h0 a1 "java/util/IdentityHashMap") (F_table : Fld Z h0 a1 "java/util/IdentityHashMap" "table" "[Ljava/lang/Object;" .null) (g1 : n0 ≤ a1) :
    MetFree l (⟨"java/util/IdentityHashMap", "<init>", "()V"⟩ : MethodName) (head1 (Jvm.Cond.code (⟨"java/util/IdentityHashMap", "<init>", "()V"⟩ : MethodName) jdk_2581_method_3_code 1 none :: ws) ({ frames := 2, cells := 1, slots := 64, locals := 24 } : Room)) (fun a U => a = #[(.ref a1)] ∧ Z.Warmed39 U.vm ∧ U.heap = h0) (fun _ _ _ _ _ => True) (fun _ U o U' => ∃ v L, o = .returned v ∧ Q_rihm Z a1 h0 n0 v U'.heap L ∧ FrameEnd U o U' L ({ frames := 2, cells := 1, slots := 64, locals := 24 } : Room).cells ({ frames := 2, cells := 1, slots := 64, locals := 24 } : Room).slots) := by
  refine MetFree.of_bodySF (plainFor_of_name pn_17) hisR ?_
  intro p e s m args below meth c s₁ Bd hml0 hP hK
  obtain ⟨rfl, hZ, hh⟩ := hP
  have hx := Bd.exec
  have hby := Bd.bytes
  have hml : c.maxLocals = 1 := hml0
  have hown : s.vm.findClass "java/util/IdentityHashMap" = some m.cls := findClass_of_methodNamed Bd.named
  have hnm := (name_of_methodNamed Bd.named Bd.method).1
  have X0 : Stand p l e ({ frames := 2, cells := 1, slots := 64, locals := 24 } : Room) s m #[(.ref a1)] below meth c s₁ [] 0 0 := Stand.of_body Bd
  have e0 : s₁.heap = h0 := by rw [← hh, Bd.state]; rfl
  have N0 := Fr.nil n0
  have pre0 : ∀ t, Steps p.tables e below (s₁.setTop (mkF m 0 #[.val (.ref a1)] [])) t → Steps p.tables e below (s₁.setTop (entryFrame m #[(.ref a1)] 1)) t := fun t k => castTop (ef_rihm m a1) k
  change Go p.tables e below (fun o U' => ∃ v L, o = .returned v ∧ Q_rihm Z a1 h0 n0 v U'.heap L ∧ FrameEnd s o U' L ({ frames := 2, cells := 1, slots := 64, locals := 24 } : Room).cells ({ frames := 2, cells := 1, slots := 64, locals := 24 } : Room).slots) (s₁.setTop (entryFrame m #[(.ref a1)] 1))
  have K0 := Keep.refl h0 [a1]
  refine Go.on pre0 ?_
  refine Go.on (B := s₁.setTop (mkF m 1 #[.val (.ref a1)] [(.ref a1)])) (fun t k => XS.aloadN X0.here hx rfl (hb hby d7_0) rfl rfl k) ?_
  obtain ⟨_, _, ⟨T1, L1, k1, n1⟩, -, X1, ⟨Lc1, hQ1, l1, y1, z1⟩, st1⟩ := X0.specialBack hx (y := (⟨"java/util/AbstractMap", "<init>", "()V"⟩ : MethodName)) rfl hown (mvT hZ (hw _ (List.mem_of_getElem? (i := 60) rfl))) (mvT hZ (hw _ (List.mem_of_getElem? (i := 40) rfl))) (mvT hZ (hw _ (List.mem_of_getElem? (i := 44) rfl))) (by decide) (backOf (W := 0) (ram l Z a0 hw [] a1 h0 n0 Z0) hZ (hw _ (List.mem_of_getElem? (i := 44) rfl)) (hw _ (List.mem_of_getElem? (i := 43) rfl)) (by decide) (by decide)) (g := (mkF m 1 #[.val (.ref a1)] [(.ref a1)])) rfl (by rw [hml]; rfl) (Steps.refl _) (a := a1) (argsL := []) (rest := []) (lenOf pd_0 rfl) rfl (by show 2 * 0 + _ ≤ _; exact Nat.le_of_eq rfl) (hb hby d7_1) (fun _ _ => ⟨rfl, e0, (by decide : 0 + 0 ≤ _), (by decide : 0 + 0 ≤ _)⟩)
  dsimp only [Pt.U, Pt.locs, Pt.cells, Pt.slots] at X1 l1 y1 z1 st1 hQ1
  subst l1 y1 z1
  obtain ⟨rfl, N1q, e1q⟩ := hQ1
  have N1 := Fr.app N0 N1q
  refine Go.on (B := T1.setTop (mkF m 4 #[.val (.ref a1)] [])) (fun t k => st1.trans k) ?_
  refine Go.on (B := T1.setTop (mkF m 5 #[.val (.ref a1)] [(.ref a1)])) (fun t k => XS.aloadN X1.here hx rfl (hb hby d7_4) rfl rfl k) ?_
  refine Go.on (B := T1.setTop (mkF m 7 #[.val (.ref a1)] [(.int (32 : Int32)), (.ref a1)])) (fun t k => XS.bipush X1.here hx rfl (hb hby d7_5) k) ?_
  obtain ⟨cq2, q2, q2'⟩ := E1.cell
  obtain ⟨_, _, ⟨T2, L2, k2, n2⟩, -, X2, ⟨Lc2, hQ2, l2, y2, z2⟩, st2⟩ := X1.privateBack hx (y := (⟨"java/util/IdentityHashMap", "init", "(I)V"⟩ : MethodName)) hown (mvT hZ (hw _ (List.mem_of_getElem? (i := 62) rfl))) (mvT hZ (hw _ (List.mem_of_getElem? (i := 63) rfl))) (mvT hZ (hw _ (List.mem_of_getElem? (i := 65) rfl))) (Cond.privateMethod_at (mvP hZ (hw _ (List.mem_of_getElem? (i := 64) rfl)) (args := #[]))) (mvT hZ (hw _ (List.mem_of_getElem? (i := 66) rfl))) (by decide) (backOf (W := 0) (rihi l Z a0 hw [] a1 h0 n0 Z0 E1 F_table g1) hZ (hw _ (List.mem_of_getElem? (i := 66) rfl)) (hw _ (List.mem_of_getElem? (i := 56) rfl)) (by decide) (by decide)) (g := (mkF m 7 #[.val (.ref a1)] [(.int (32 : Int32)), (.ref a1)])) rfl (by rw [hml]; rfl) (Steps.refl _) (a := a1) (by rw [e1q]; exact q2) q2' (argsL := [(.int (32 : Int32))]) (rest := []) (lenOf pd_2 rfl) rfl (by show 2 * 0 + _ ≤ _; exact Nat.le_of_eq rfl) (hb hby d7_7) (fun _ _ => ⟨rfl, e1q, (by decide : 0 + 1 ≤ _), (by decide : 0 + 64 ≤ _)⟩)
  dsimp only [Pt.U, Pt.locs, Pt.cells, Pt.slots] at X2 l2 y2 z2 st2 hQ2
  subst l2 y2 z2
  obtain ⟨rfl, N2q, K2q, G2_0⟩ := hQ2
  have N2 := Fr.app N1 N2q
  have f1 := E1.keep K2q
  have Zs2 := Nat.le_trans Z0 K2q.1
  have K3 := K0.trans K2q (allS (Or.inl (List.mem_of_getElem? (i := 0) rfl)) all0)
  refine Go.on (B := T2.setTop (mkF m 10 #[.val (.ref a1)] [])) (fun t k => st2.trans k) ?_
  obtain ⟨fs, hr, hrun, hended, hW, hsame⟩ := X2.leave (v := none) (fun _ => rfl)
  refine ⟨_, _, ?_, hrun, hended, _, _, rfl, ?_, ⟨_, rfl⟩, hW, hsame.mono (by decide) (by decide)⟩
  · exact X2.returnOut hx Bd.returns (hb hby d7_10) hr
  · show Q_rihm Z a1 h0 n0 _ T2.heap _
    exact ⟨rfl, N2, K3, G2_0⟩
theorem d2_0 : decode prog_12_method_1_code 0 = .ok (.aload_n 0, 1) := by decide +kernel
theorem d2_1 : decode prog_12_method_1_code 1 = .ok (.invokespecial 1, 3) := by decide +kernel
theorem d2_4 : decode prog_12_method_1_code 4 = .ok (.aload_n 0, 1) := by decide +kernel
theorem d2_5 : decode prog_12_method_1_code 5 = .ok (.new 7, 3) := by decide +kernel
theorem d2_8 : decode prog_12_method_1_code 8 = .ok (.dup, 1) := by decide +kernel
theorem d2_9 : decode prog_12_method_1_code 9 = .ok (.invokespecial 9, 3) := by decide +kernel
theorem d2_12 : decode prog_12_method_1_code 12 = .ok (.putfield 10, 3) := by decide +kernel
theorem d2_15 : decode prog_12_method_1_code 15 = .ok (.aload_n 0, 1) := by decide +kernel
theorem d2_16 : decode prog_12_method_1_code 16 = .ok (.new 16, 3) := by decide +kernel
theorem d2_19 : decode prog_12_method_1_code 19 = .ok (.dup, 1) := by decide +kernel
theorem d2_20 : decode prog_12_method_1_code 20 = .ok (.invokespecial 18, 3) := by decide +kernel
theorem d2_23 : decode prog_12_method_1_code 23 = .ok (.putfield 19, 3) := by decide +kernel
theorem d2_26 : decode prog_12_method_1_code 26 = .ok (.aload_n 0, 1) := by decide +kernel
theorem d2_27 : decode prog_12_method_1_code 27 = .ok (.new 23, 3) := by decide +kernel
theorem d2_30 : decode prog_12_method_1_code 30 = .ok (.dup, 1) := by decide +kernel
theorem d2_31 : decode prog_12_method_1_code 31 = .ok (.invokespecial 25, 3) := by decide +kernel
theorem d2_34 : decode prog_12_method_1_code 34 = .ok (.putfield 26, 3) := by decide +kernel
theorem d2_37 : decode prog_12_method_1_code 37 = .ok (.aload_n 0, 1) := by decide +kernel
theorem d2_38 : decode prog_12_method_1_code 38 = .ok (.new 30, 3) := by decide +kernel
theorem d2_41 : decode prog_12_method_1_code 41 = .ok (.dup, 1) := by decide +kernel
theorem d2_42 : decode prog_12_method_1_code 42 = .ok (.invokespecial 32, 3) := by decide +kernel
theorem d2_45 : decode prog_12_method_1_code 45 = .ok (.putfield 33, 3) := by decide +kernel
theorem d2_48 : decode prog_12_method_1_code 48 = .ok (.aload_n 0, 1) := by decide +kernel
theorem d2_49 : decode prog_12_method_1_code 49 = .ok (.new 16, 3) := by decide +kernel
theorem d2_52 : decode prog_12_method_1_code 52 = .ok (.dup, 1) := by decide +kernel
theorem d2_53 : decode prog_12_method_1_code 53 = .ok (.invokespecial 18, 3) := by decide +kernel
theorem d2_56 : decode prog_12_method_1_code 56 = .ok (.putfield 36, 3) := by decide +kernel
theorem d2_59 : decode prog_12_method_1_code 59 = .ok (.aload_n 0, 1) := by decide +kernel
theorem d2_60 : decode prog_12_method_1_code 60 = .ok (.aload_n 1, 1) := by decide +kernel
theorem d2_61 : decode prog_12_method_1_code 61 = .ok (.putfield 39, 3) := by decide +kernel
theorem d2_64 : decode prog_12_method_1_code 64 = .ok (.return_, 1) := by decide +kernel
theorem pn_21 : plainName "com/example/windlass/windlass/LevelRegistry" = true := by first | (simp [plainName, overriddenIn]; done) | decide +kernel
theorem ef_rlr (m : MethodId) (a1 : Addr) (a2 : Addr) : entryFrame m #[(.ref a1), (.ref a2)] 2 = mkF m 0 #[.val (.ref a1), .val (.ref a2)] [] := by first | (simp [entryFrame, mkF, argsToLocals, Value.category]; done) | rfl
def Q_rlr (Z : State) (a1 : Addr) (a2 : Addr) (da : Addr) (h0 : Heap) (n0 : Nat) (v : Option Value) (h : Heap) (L : List Loc) : Prop := v = none ∧ Fr n0 L ∧ Keep h0 h [a1] ∧ Exa Z h a1 "com/example/windlass/windlass/LevelRegistry" ∧ Fld Z h a1 "com/example/windlass/windlass/LevelRegistry" "lock" "Ljava/lang/Object;" (.ref a2) ∧ Fld Z h a1 "com/example/windlass/windlass/LevelRegistry" "current" "I" (.int (0 : Int32)) ∧ Fld Z h a1 "com/example/windlass/windlass/LevelRegistry" "entered" "I" (.int (0 : Int32)) ∧ ∃ b : Addr, h0.size ≤ b ∧ Fld Z h a1 "com/example/windlass/windlass/LevelRegistry" "levels" "Ljava/util/NavigableMap;" (.ref b) ∧ Exa Z h b "java/util/TreeMap" ∧ Fld Z h b "java/util/TreeMap" "root" "Ljava/util/TreeMap$Entry;" .null
set_option maxRecDepth 65536 in
set_option maxHeartbeats 40000000 in
theorem rlr (l : Launch) (Z : State) (a0 : Array Value) (hw : ∀ d ∈ tables_1, d.before a0 Z = true) (ws : List Jvm.Cond) (a1 : Addr) (a2 : Addr) (da : Addr) (h0 : Heap) (n0 : Nat) (Z0 : n0 ≤ h0.size) (E1 : Exa Z h0 a1 "com/example/windlass/windlass/LevelRegistry") (F_sorters : Fld Z h0 a1 "com/example/windlass/windlass/LevelRegistry" "sorters" "Ljava/util/List;" .null) (F_levels : Fld Z h0 a1 "com/example/windlass/windlass/LevelRegistry" "levels" "Ljava/util/NavigableMap;" .null) (F_registrations : Fld Z h0 a1 "com/example/windlass/windlass/LevelRegistry" "registrations" "Ljava/util/Map;" .null) (F_deferred : Fld Z h0 a1 "com/example/windlass/windlass/LevelRegistry" "deferred" "Ljava/util/List;" .null) (F_stopsOutByLevel : Fld Z h0 a1 "com/example/windlass/windlass/LevelRegistry" "stopsOutByLevel" "Ljava/util/NavigableMap;" .null) (F_lock : Fld Z h0 a1 "com/example/windlass/windlass/LevelRegistry" "lock" "Ljava/lang/Object;" .null) (F_current : Fld Z h0 a1 "com/example/windlass/windlass/LevelRegistry" "current" "I" (.int (0 : Int32))) (F_entered : Fld Z h0 a1 "com/example/windlass/windlass/LevelRegistry" "entered" "I" (.int (0 : Int32))) (g1 : n0 ≤ a1) (O0 : Old Z n0 h0) (S_de : Sta Z Z.heap "java/util/ArrayList" "DEFAULTCAPACITY_EMPTY_ELEMENTDATA" "[Ljava/lang/Object;" (.ref da)) :
    MetFree l (⟨"com/example/windlass/windlass/LevelRegistry", "<init>", "(Ljava/lang/Object;)V"⟩ : MethodName) (head1 (Jvm.Cond.code (⟨"com/example/windlass/windlass/LevelRegistry", "<init>", "(Ljava/lang/Object;)V"⟩ : MethodName) prog_12_method_1_code 2 none :: ws) ({ frames := 5, cells := 8, slots := 93, locals := 60 } : Room)) (fun a U => a = #[(.ref a1), (.ref a2)] ∧ Z.Warmed39 U.vm ∧ U.heap = h0) (fun _ _ _ _ _ => True) (fun _ U o U' => ∃ v L, o = .returned v ∧ Q_rlr Z a1 a2 da h0 n0 v U'.heap L ∧ FrameEnd U o U' L ({ frames := 5, cells := 8, slots := 93, locals := 60 } : Room).cells ({ frames := 5, cells := 8, slots := 93, locals := 60 } : Room).slots) := by
  refine MetFree.of_bodySF (plainFor_of_name pn_21) hisR ?_
  intro p e s m args below meth c s₁ Bd hml0 hP hK
  obtain ⟨rfl, hZ, hh⟩ := hP
  have hx := Bd.exec
  have hby := Bd.bytes
  have hml : c.maxLocals = 2 := hml0
  have hown : s.vm.findClass "com/example/windlass/windlass/LevelRegistry" = some m.cls := findClass_of_methodNamed Bd.named
  have hnm := (name_of_methodNamed Bd.named Bd.method).1
  have X0 : Stand p l e ({ frames := 5, cells := 8, slots := 93, locals := 60 } : Room) s m #[(.ref a1), (.ref a2)] below meth c s₁ [] 0 0 := Stand.of_body Bd
  have e0 : s₁.heap = h0 := by rw [← hh, Bd.state]; rfl
  have N0 := Fr.nil n0
  have pre0 : ∀ t, Steps p.tables e below (s₁.setTop (mkF m 0 #[.val (.ref a1), .val (.ref a2)] [])) t → Steps p.tables e below (s₁.setTop (entryFrame m #[(.ref a1), (.ref a2)] 2)) t := fun t k => castTop (ef_rlr m a1 a2) k
  change Go p.tables e below (fun o U' => ∃ v L, o = .returned v ∧ Q_rlr Z a1 a2 da h0 n0 v U'.heap L ∧ FrameEnd s o U' L ({ frames := 5, cells := 8, slots := 93, locals := 60 } : Room).cells ({ frames := 5, cells := 8, slots := 93, locals := 60 } : Room).slots) (s₁.setTop (entryFrame m #[(.ref a1), (.ref a2)] 2))
  have K0 := Keep.refl h0 [a1]
  refine Go.on pre0 ?_
  refine Go.on (B := s₁.setTop (mkF m 1 #[.val (.ref a1), .val (.ref a2)] [(.ref a1)])) (fun t k => XS.aloadN X0.here hx rfl (hb hby d2_0) rfl rfl k) ?_
  obtain ⟨T1, X1, e1, st1⟩ := initO X0 hx hZ hown (hw _ (List.mem_of_getElem? (i := 12) rfl)) (hw _ (List.mem_of_getElem? (i := 7) rfl)) (hw _ (List.mem_of_getElem? (i := 8) rfl)) e0 (g := (mkF m 1 #[.val (.ref a1), .val (.ref a2)] [(.ref a1)])) rfl (by rw [hml]; rfl) rfl (hb hby d2_1) (by decide) (W := 0) (by show 2 * 0 + _ ≤ _; exact Nat.le_of_eq rfl) (by decide)
  refine Go.on (B := T1.setTop (mkF m 4 #[.val (.ref a1), .val (.ref a2)] [])) (fun t k => st1 _ k) ?_
  refine Go.on (B := T1.setTop (mkF m 5 #[.val (.ref a1), .val (.ref a2)] [(.ref a1)])) (fun t k => XS.aloadN X1.here hx rfl (hb hby d2_4) rfl rfl k) ?_
  obtain ⟨T2, h2, X2, e2, Xe2, A2, D2, Ue2, st2⟩ := newO X1 hx hZ hown (hw _ (List.mem_of_getElem? (i := 13) rfl)) (hw _ (List.mem_of_getElem? (i := 14) rfl)) (hw _ (List.mem_of_getElem? (i := 15) rfl)) e1 (g := (mkF m 5 #[.val (.ref a1), .val (.ref a2)] [(.ref a1)])) rfl (hb hby d2_5) (by decide) (by decide)
  obtain ⟨b2, gq2⟩ : ∃ z, z = h0.size := ⟨_, rfl⟩
  rw [← gq2] at A2 D2 Ue2 st2
  have ge_b2 : n0 ≤ b2 := Nat.le_trans Z0 (Nat.le_of_eq gq2.symm)
  have sz_b2 : h0.size ≤ b2 := Nat.le_trans K0.1 (Nat.le_of_eq gq2.symm)
  have ne_a1_b2 : a1 ≠ b2 := Nat.ne_of_lt (Nat.lt_of_lt_of_le E1.lt (Nat.le_of_eq gq2.symm))
  have f1 := E1.ext Xe2
  have O_2 := O0.ext Xe2
  have f3 := F_sorters.ext Xe2
  have f4 := F_levels.ext Xe2
  have f5 := F_registrations.ext Xe2
  have f6 := F_deferred.ext Xe2
  have f7 := F_stopsOutByLevel.ext Xe2
  have f8 := F_lock.ext Xe2
  have f9 := F_current.ext Xe2
  have f10 := F_entered.ext Xe2
  have Zs11 := Nat.le_trans Z0 Xe2.1
  have K12 := K0.ext Xe2
  have Un2 : Unt h2 b2 := Ue2
  have F2_lock : Fld Z h2 b2 "java/util/concurrent/CopyOnWriteArrayList" "lock" "Ljava/lang/Object;" .null := D2 (Or.inr (hw _ (List.mem_of_getElem? (i := 22) rfl))) (ty := (.object "java/lang/Object")) (by decide)
  have F2_array : Fld Z h2 b2 "java/util/concurrent/CopyOnWriteArrayList" "array" "[Ljava/lang/Object;" .null := D2 (Or.inl (hw _ (List.mem_of_getElem? (i := 30) rfl))) (ty := (.array (.object "java/lang/Object"))) (by decide)
  refine Go.on (B := T2.setTop (mkF m 8 #[.val (.ref a1), .val (.ref a2)] [(.ref b2), (.ref a1)])) (fun t k => st2 _ k) ?_
  refine Go.on (B := T2.setTop (mkF m 9 #[.val (.ref a1), .val (.ref a2)] [(.ref b2), (.ref b2), (.ref a1)])) (fun t k => XS.dup X2.here hx rfl (hb hby d2_8) rfl rfl k) ?_
  obtain ⟨_, _, ⟨T3, L3, k3, n3⟩, -, X3, ⟨Lc3, hQ3, l3, y3, z3⟩, st3⟩ := X2.specialBack hx (y := (⟨"java/util/concurrent/CopyOnWriteArrayList", "<init>", "()V"⟩ : MethodName)) rfl hown (mvT hZ (hw _ (List.mem_of_getElem? (i := 16) rfl))) (mvT hZ (hw _ (List.mem_of_getElem? (i := 17) rfl))) (mvT hZ (hw _ (List.mem_of_getElem? (i := 18) rfl))) (by decide) (backOf (W := 2) (rcow l Z a0 hw [] b2 h2 n0 Zs11 A2 F2_array F2_lock ge_b2) hZ (hw _ (List.mem_of_getElem? (i := 18) rfl)) (hw _ (List.mem_of_getElem? (i := 15) rfl)) (by decide) (by decide)) (g := (mkF m 9 #[.val (.ref a1), .val (.ref a2)] [(.ref b2), (.ref b2), (.ref a1)])) rfl (by rw [hml]; rfl) (Steps.refl _) (a := b2) (argsL := []) (rest := [(.ref b2), (.ref a1)]) (lenOf pd_0 rfl) rfl (by show 2 * 0 + _ ≤ _; exact Nat.le_of_eq rfl) (hb hby d2_9) (fun _ _ => ⟨rfl, e2, (by decide : 1 + 2 ≤ _), (by decide : 2 + 0 ≤ _)⟩)
  dsimp only [Pt.U, Pt.locs, Pt.cells, Pt.slots] at X3 l3 y3 z3 st3 hQ3
  subst l3 y3 z3
  obtain ⟨rfl, N3q, K3q, G3_0⟩ := hQ3
  have N3 := Fr.app N0 N3q
  have f13 := f1.keep K3q
  have O_14 := O_2.keep K3q (allS ge_b2 all0)
  have f15 := f3.keep K3q (ninS ne_a1_b2 nin0)
  have f16 := f4.keep K3q (ninS ne_a1_b2 nin0)
  have f17 := f5.keep K3q (ninS ne_a1_b2 nin0)
  have f18 := f6.keep K3q (ninS ne_a1_b2 nin0)
  have f19 := f7.keep K3q (ninS ne_a1_b2 nin0)
  have f20 := f8.keep K3q (ninS ne_a1_b2 nin0)
  have f21 := f9.keep K3q (ninS ne_a1_b2 nin0)
  have f22 := f10.keep K3q (ninS ne_a1_b2 nin0)
  have f23 := A2.keep K3q
  have Zs24 := Nat.le_trans Zs11 K3q.1
  have K25 := K12.trans K3q (allS (Or.inr sz_b2) all0)
  refine Go.on (B := T3.setTop (mkF m 12 #[.val (.ref a1), .val (.ref a2)] [(.ref b2), (.ref a1)])) (fun t k => st3.trans k) ?_
  obtain ⟨T4, h4, X4, e4, W4, st4⟩ := putF X3 hx hZ hown (host := "") (Or.inl (hw _ (List.mem_of_getElem? (i := 31) rfl))) Via.refl rfl f15 f13 (Or.inr ⟨(hw _ (List.mem_of_getElem? (i := 32) rfl)), rfl, hnm⟩) (hw _ (List.mem_of_getElem? (i := 1) rfl)) (ty := (.object "java/util/List")) (by decide) rfl rfl (g := (mkF m 12 #[.val (.ref a1), .val (.ref a2)] [(.ref b2), (.ref a1)])) rfl rfl (hb hby d2_12)
  have N4 := Fr.snoc X4 N3 g1
  have Fw4 := f15.same W4
  have f26 := f13.wr W4
  have O_27 := O_14.wr W4 g1
  have f28 := f16.other W4 (Or.inr (slot_ne (Or.inr (hw _ (List.mem_of_getElem? (i := 53) rfl))) (Or.inr (hw _ (List.mem_of_getElem? (i := 32) rfl))) (by decide) (t := (.object "java/util/NavigableMap")) (t' := (.object "java/util/List")) (by decide) (by decide)))
  have f29 := f17.other W4 (Or.inr (slot_ne (Or.inr (hw _ (List.mem_of_getElem? (i := 71) rfl))) (Or.inr (hw _ (List.mem_of_getElem? (i := 32) rfl))) (by decide) (t := (.object "java/util/Map")) (t' := (.object "java/util/List")) (by decide) (by decide)))
  have f30 := f18.other W4 (Or.inr (slot_ne (Or.inr (hw _ (List.mem_of_getElem? (i := 97) rfl))) (Or.inr (hw _ (List.mem_of_getElem? (i := 32) rfl))) (by decide) (t := (.object "java/util/List")) (t' := (.object "java/util/List")) (by decide) (by decide)))
  have f31 := f19.other W4 (Or.inr (slot_ne (Or.inr (hw _ (List.mem_of_getElem? (i := 99) rfl))) (Or.inr (hw _ (List.mem_of_getElem? (i := 32) rfl))) (by decide) (t := (.object "java/util/NavigableMap")) (t' := (.object "java/util/List")) (by decide) (by decide)))
  have f32 := f20.other W4 (Or.inr (slot_ne (Or.inr (hw _ (List.mem_of_getElem? (i := 101) rfl))) (Or.inr (hw _ (List.mem_of_getElem? (i := 32) rfl))) (by decide) (t := (.object "java/lang/Object")) (t' := (.object "java/util/List")) (by decide) (by decide)))
  have f33 := f21.other W4 (Or.inr (slot_ne (Or.inl (hw _ (List.mem_of_getElem? (i := 108) rfl))) (Or.inr (hw _ (List.mem_of_getElem? (i := 32) rfl))) (by decide) (t := .int) (t' := (.object "java/util/List")) (by decide) (by decide)))
  have f34 := f22.other W4 (Or.inr (slot_ne (Or.inl (hw _ (List.mem_of_getElem? (i := 115) rfl))) (Or.inr (hw _ (List.mem_of_getElem? (i := 32) rfl))) (by decide) (t := .int) (t' := (.object "java/util/List")) (by decide) (by decide)))
  have f35 := G3_0.wr W4
  have Zs36 := Nat.le_trans Zs24 (Keep.of_wr W4).1
  have K37 := K25.wr W4 (Or.inl (List.mem_of_getElem? (i := 0) rfl))
  refine Go.on (B := T4.setTop (mkF m 15 #[.val (.ref a1), .val (.ref a2)] [])) (fun t k => st4 _ k) ?_
  refine Go.on (B := T4.setTop (mkF m 16 #[.val (.ref a1), .val (.ref a2)] [(.ref a1)])) (fun t k => XS.aloadN X4.here hx rfl (hb hby d2_15) rfl rfl k) ?_
  obtain ⟨T5, h5, X5, e5, Xe5, A5, D5, Ue5, st5⟩ := newO X4 hx hZ hown (hw _ (List.mem_of_getElem? (i := 33) rfl)) (hw _ (List.mem_of_getElem? (i := 34) rfl)) (hw _ (List.mem_of_getElem? (i := 35) rfl)) e4 (g := (mkF m 16 #[.val (.ref a1), .val (.ref a2)] [(.ref a1)])) rfl (hb hby d2_16) (by decide) (by decide)
  obtain ⟨b5, gq5⟩ : ∃ z, z = h4.size := ⟨_, rfl⟩
  rw [← gq5] at A5 D5 Ue5 st5
  have ge_b5 : n0 ≤ b5 := Nat.le_trans Zs36 (Nat.le_of_eq gq5.symm)
  have sz_b5 : h0.size ≤ b5 := Nat.le_trans K37.1 (Nat.le_of_eq gq5.symm)
  have ne_a1_b5 : a1 ≠ b5 := Nat.ne_of_lt (Nat.lt_of_lt_of_le f26.lt (Nat.le_of_eq gq5.symm))
  have ne_b2_b5 : b2 ≠ b5 := Nat.ne_of_lt (Nat.lt_of_lt_of_le f35.lt (Nat.le_of_eq gq5.symm))
  have f38 := f26.ext Xe5
  have O_39 := O_27.ext Xe5
  have f40 := Fw4.ext Xe5
  have f41 := f28.ext Xe5
  have f42 := f29.ext Xe5
  have f43 := f30.ext Xe5
  have f44 := f31.ext Xe5
  have f45 := f32.ext Xe5
  have f46 := f33.ext Xe5
  have f47 := f34.ext Xe5
  have f48 := f35.ext Xe5
  have Zs49 := Nat.le_trans Zs36 Xe5.1
  have K50 := K37.ext Xe5
  have Un5 : Unt h5 b5 := Ue5
  have F5_size : Fld Z h5 b5 "java/util/TreeMap" "size" "I" (.int (0 : Int32)) := D5 (Or.inl (hw _ (List.mem_of_getElem? (i := 47) rfl))) (ty := .int) (by decide)
  have F5_modCount : Fld Z h5 b5 "java/util/TreeMap" "modCount" "I" (.int (0 : Int32)) := D5 (Or.inl (hw _ (List.mem_of_getElem? (i := 49) rfl))) (ty := .int) (by decide)
  have F5_comparator : Fld Z h5 b5 "java/util/TreeMap" "comparator" "Ljava/util/Comparator;" .null := D5 (Or.inr (hw _ (List.mem_of_getElem? (i := 51) rfl))) (ty := (.object "java/util/Comparator")) (by decide)
  have F5_root : Fld Z h5 b5 "java/util/TreeMap" "root" "Ljava/util/TreeMap$Entry;" .null := D5 (Or.inl (hw _ (List.mem_of_getElem? (i := 143) rfl))) (ty := (.object "java/util/TreeMap$Entry")) (by decide)
  refine Go.on (B := T5.setTop (mkF m 19 #[.val (.ref a1), .val (.ref a2)] [(.ref b5), (.ref a1)])) (fun t k => st5 _ k) ?_
  refine Go.on (B := T5.setTop (mkF m 20 #[.val (.ref a1), .val (.ref a2)] [(.ref b5), (.ref b5), (.ref a1)])) (fun t k => XS.dup X5.here hx rfl (hb hby d2_19) rfl rfl k) ?_
  obtain ⟨_, _, ⟨T6, L6, k6, n6⟩, -, X6, ⟨Lc6, hQ6, l6, y6, z6⟩, st6⟩ := X5.specialBack hx (y := (⟨"java/util/TreeMap", "<init>", "()V"⟩ : MethodName)) rfl hown (mvT hZ (hw _ (List.mem_of_getElem? (i := 36) rfl))) (mvT hZ (hw _ (List.mem_of_getElem? (i := 37) rfl))) (mvT hZ (hw _ (List.mem_of_getElem? (i := 38) rfl))) (by decide) (backOf (W := 2) (rtm l Z a0 hw [] b5 h5 n0 Zs49 A5 F5_size F5_modCount F5_comparator F5_root ge_b5) hZ (hw _ (List.mem_of_getElem? (i := 38) rfl)) (hw _ (List.mem_of_getElem? (i := 35) rfl)) (by decide) (by decide)) (g := (mkF m 20 #[.val (.ref a1), .val (.ref a2)] [(.ref b5), (.ref b5), (.ref a1)])) rfl (by rw [hml]; rfl) (Steps.refl _) (a := b5) (argsL := []) (rest := [(.ref b5), (.ref a1)]) (lenOf pd_0 rfl) rfl (by show 2 * 0 + _ ≤ _; exact Nat.le_of_eq rfl) (hb hby d2_20) (fun _ _ => ⟨rfl, e5, (by decide : 4 + 0 ≤ _), (by decide : 11 + 0 ≤ _)⟩)
  dsimp only [Pt.U, Pt.locs, Pt.cells, Pt.slots] at X6 l6 y6 z6 st6 hQ6
  subst l6 y6 z6
  obtain ⟨rfl, N6q, K6q, G6_0, G6_1⟩ := hQ6
  have N6 := Fr.app N4 N6q
  have f51 := f38.keep K6q
  have O_52 := O_39.keep K6q (allS ge_b5 all0)
  have f53 := f40.keep K6q (ninS ne_a1_b5 nin0)
  have f54 := f41.keep K6q (ninS ne_a1_b5 nin0)
  have f55 := f42.keep K6q (ninS ne_a1_b5 nin0)
  have f56 := f43.keep K6q (ninS ne_a1_b5 nin0)
  have f57 := f44.keep K6q (ninS ne_a1_b5 nin0)
  have f58 := f45.keep K6q (ninS ne_a1_b5 nin0)
  have f59 := f46.keep K6q (ninS ne_a1_b5 nin0)
  have f60 := f47.keep K6q (ninS ne_a1_b5 nin0)
  have f61 := f48.keep K6q
  have f62 := A5.keep K6q
  have Zs63 := Nat.le_trans Zs49 K6q.1
  have K64 := K50.trans K6q (allS (Or.inr sz_b5) all0)
  refine Go.on (B := T6.setTop (mkF m 23 #[.val (.ref a1), .val (.ref a2)] [(.ref b5), (.ref a1)])) (fun t k => st6.trans k) ?_
  obtain ⟨T7, h7, X7, e7, W7, st7⟩ := putF X6 hx hZ hown (host := "") (Or.inl (hw _ (List.mem_of_getElem? (i := 52) rfl))) Via.refl rfl f54 f51 (Or.inr ⟨(hw _ (List.mem_of_getElem? (i := 53) rfl)), rfl, hnm⟩) (hw _ (List.mem_of_getElem? (i := 1) rfl)) (ty := (.object "java/util/NavigableMap")) (by decide) rfl rfl (g := (mkF m 23 #[.val (.ref a1), .val (.ref a2)] [(.ref b5), (.ref a1)])) rfl rfl (hb hby d2_23)
  have N7 := Fr.snoc X7 N6 g1
  have Fw7 := f54.same W7
  have f65 := f51.wr W7
  have O_66 := O_52.wr W7 g1
  have f67 := f53.other W7 (Or.inr (slot_ne (Or.inr (hw _ (List.mem_of_getElem? (i := 32) rfl))) (Or.inr (hw _ (List.mem_of_getElem? (i := 53) rfl))) (by decide) (t := (.object "java/util/List")) (t' := (.object "java/util/NavigableMap")) (by decide) (by decide)))
  have f68 := f55.other W7 (Or.inr (slot_ne (Or.inr (hw _ (List.mem_of_getElem? (i := 71) rfl))) (Or.inr (hw _ (List.mem_of_getElem? (i := 53) rfl))) (by decide) (t := (.object "java/util/Map")) (t' := (.object "java/util/NavigableMap")) (by decide) (by decide)))
  have f69 := f56.other W7 (Or.inr (slot_ne (Or.inr (hw _ (List.mem_of_getElem? (i := 97) rfl))) (Or.inr (hw _ (List.mem_of_getElem? (i := 53) rfl))) (by decide) (t := (.object "java/util/List")) (t' := (.object "java/util/NavigableMap")) (by decide) (by decide)))
  have f70 := f57.other W7 (Or.inr (slot_ne (Or.inr (hw _ (List.mem_of_getElem? (i := 99) rfl))) (Or.inr (hw _ (List.mem_of_getElem? (i := 53) rfl))) (by decide) (t := (.object "java/util/NavigableMap")) (t' := (.object "java/util/NavigableMap")) (by decide) (by decide)))
  have f71 := f58.other W7 (Or.inr (slot_ne (Or.inr (hw _ (List.mem_of_getElem? (i := 101) rfl))) (Or.inr (hw _ (List.mem_of_getElem? (i := 53) rfl))) (by decide) (t := (.object "java/lang/Object")) (t' := (.object "java/util/NavigableMap")) (by decide) (by decide)))
  have f72 := f59.other W7 (Or.inr (slot_ne (Or.inl (hw _ (List.mem_of_getElem? (i := 108) rfl))) (Or.inr (hw _ (List.mem_of_getElem? (i := 53) rfl))) (by decide) (t := .int) (t' := (.object "java/util/NavigableMap")) (by decide) (by decide)))
  have f73 := f60.other W7 (Or.inr (slot_ne (Or.inl (hw _ (List.mem_of_getElem? (i := 115) rfl))) (Or.inr (hw _ (List.mem_of_getElem? (i := 53) rfl))) (by decide) (t := .int) (t' := (.object "java/util/NavigableMap")) (by decide) (by decide)))
  have f74 := f61.wr W7
  have f75 := G6_0.wr W7
  have f76 := G6_1.other W7 (Or.inl (Ne.symm ne_a1_b5))
  have Zs77 := Nat.le_trans Zs63 (Keep.of_wr W7).1
  have K78 := K64.wr W7 (Or.inl (List.mem_of_getElem? (i := 0) rfl))
  refine Go.on (B := T7.setTop (mkF m 26 #[.val (.ref a1), .val (.ref a2)] [])) (fun t k => st7 _ k) ?_
  refine Go.on (B := T7.setTop (mkF m 27 #[.val (.ref a1), .val (.ref a2)] [(.ref a1)])) (fun t k => XS.aloadN X7.here hx rfl (hb hby d2_26) rfl rfl k) ?_
  obtain ⟨T8, h8, X8, e8, Xe8, A8, D8, Ue8, st8⟩ := newO X7 hx hZ hown (hw _ (List.mem_of_getElem? (i := 54) rfl)) (hw _ (List.mem_of_getElem? (i := 55) rfl)) (hw _ (List.mem_of_getElem? (i := 56) rfl)) e7 (g := (mkF m 27 #[.val (.ref a1), .val (.ref a2)] [(.ref a1)])) rfl (hb hby d2_27) (by decide) (by decide)
  obtain ⟨b8, gq8⟩ : ∃ z, z = h7.size := ⟨_, rfl⟩
  rw [← gq8] at A8 D8 Ue8 st8
  have ge_b8 : n0 ≤ b8 := Nat.le_trans Zs77 (Nat.le_of_eq gq8.symm)
  have sz_b8 : h0.size ≤ b8 := Nat.le_trans K78.1 (Nat.le_of_eq gq8.symm)
  have ne_a1_b8 : a1 ≠ b8 := Nat.ne_of_lt (Nat.lt_of_lt_of_le f65.lt (Nat.le_of_eq gq8.symm))
  have ne_b2_b8 : b2 ≠ b8 := Nat.ne_of_lt (Nat.lt_of_lt_of_le f74.lt (Nat.le_of_eq gq8.symm))
  have ne_b5_b8 : b5 ≠ b8 := Nat.ne_of_lt (Nat.lt_of_lt_of_le f75.lt (Nat.le_of_eq gq8.symm))
  have f79 := f65.ext Xe8
  have O_80 := O_66.ext Xe8
  have f81 := f67.ext Xe8
  have f82 := Fw7.ext Xe8
  have f83 := f68.ext Xe8
  have f84 := f69.ext Xe8
  have f85 := f70.ext Xe8
  have f86 := f71.ext Xe8
  have f87 := f72.ext Xe8
  have f88 := f73.ext Xe8
  have f89 := f74.ext Xe8
  have f90 := f75.ext Xe8
  have f91 := f76.ext Xe8
  have Zs92 := Nat.le_trans Zs77 Xe8.1
  have K93 := K78.ext Xe8
  have Un8 : Unt h8 b8 := Ue8
  have F8_table : Fld Z h8 b8 "java/util/IdentityHashMap" "table" "[Ljava/lang/Object;" .null := D8 (Or.inl (hw _ (List.mem_of_getElem? (i := 69) rfl))) (ty := (.array (.object "java/lang/Object"))) (by decide)
  refine Go.on (B := T8.setTop (mkF m 30 #[.val (.ref a1), .val (.ref a2)] [(.ref b8), (.ref a1)])) (fun t k => st8 _ k) ?_
  refine Go.on (B := T8.setTop (mkF m 31 #[.val (.ref a1), .val (.ref a2)] [(.ref b8), (.ref b8), (.ref a1)])) (fun t k => XS.dup X8.here hx rfl (hb hby d2_30) rfl rfl k) ?_
  obtain ⟨_, _, ⟨T9, L9, k9, n9⟩, -, X9, ⟨Lc9, hQ9, l9, y9, z9⟩, st9⟩ := X8.specialBack hx (y := (⟨"java/util/IdentityHashMap", "<init>", "()V"⟩ : MethodName)) rfl hown (mvT hZ (hw _ (List.mem_of_getElem? (i := 57) rfl))) (mvT hZ (hw _ (List.mem_of_getElem? (i := 58) rfl))) (mvT hZ (hw _ (List.mem_of_getElem? (i := 59) rfl))) (by decide) (backOf (W := 2) (rihm l Z a0 hw [] b8 h8 n0 Zs92 A8 F8_table ge_b8) hZ (hw _ (List.mem_of_getElem? (i := 59) rfl)) (hw _ (List.mem_of_getElem? (i := 56) rfl)) (by decide) (by decide)) (g := (mkF m 31 #[.val (.ref a1), .val (.ref a2)] [(.ref b8), (.ref b8), (.ref a1)])) rfl (by rw [hml]; rfl) (Steps.refl _) (a := b8) (argsL := []) (rest := [(.ref b8), (.ref a1)]) (lenOf pd_0 rfl) rfl (by show 2 * 0 + _ ≤ _; exact Nat.le_of_eq rfl) (hb hby d2_31) (fun _ _ => ⟨rfl, e8, (by decide : 5 + 1 ≤ _), (by decide : 17 + 64 ≤ _)⟩)
  dsimp only [Pt.U, Pt.locs, Pt.cells, Pt.slots] at X9 l9 y9 z9 st9 hQ9
  subst l9 y9 z9
  obtain ⟨rfl, N9q, K9q, G9_0⟩ := hQ9
  have N9 := Fr.app N7 N9q
  have f94 := f79.keep K9q
  have O_95 := O_80.keep K9q (allS ge_b8 all0)
  have f96 := f81.keep K9q (ninS ne_a1_b8 nin0)
  have f97 := f82.keep K9q (ninS ne_a1_b8 nin0)
  have f98 := f83.keep K9q (ninS ne_a1_b8 nin0)
  have f99 := f84.keep K9q (ninS ne_a1_b8 nin0)
  have f100 := f85.keep K9q (ninS ne_a1_b8 nin0)
  have f101 := f86.keep K9q (ninS ne_a1_b8 nin0)
  have f102 := f87.keep K9q (ninS ne_a1_b8 nin0)
  have f103 := f88.keep K9q (ninS ne_a1_b8 nin0)
  have f104 := f89.keep K9q
  have f105 := f90.keep K9q
  have f106 := f91.keep K9q (ninS ne_b5_b8 nin0)
  have f107 := A8.keep K9q
  have Zs108 := Nat.le_trans Zs92 K9q.1
  have K109 := K93.trans K9q (allS (Or.inr sz_b8) all0)
  refine Go.on (B := T9.setTop (mkF m 34 #[.val (.ref a1), .val (.ref a2)] [(.ref b8), (.ref a1)])) (fun t k => st9.trans k) ?_
  obtain ⟨T10, h10, X10, e10, W10, st10⟩ := putF X9 hx hZ hown (host := "") (Or.inl (hw _ (List.mem_of_getElem? (i := 70) rfl))) Via.refl rfl f98 f94 (Or.inr ⟨(hw _ (List.mem_of_getElem? (i := 71) rfl)), rfl, hnm⟩) (hw _ (List.mem_of_getElem? (i := 1) rfl)) (ty := (.object "java/util/Map")) (by decide) rfl rfl (g := (mkF m 34 #[.val (.ref a1), .val (.ref a2)] [(.ref b8), (.ref a1)])) rfl rfl (hb hby d2_34)
  have N10 := Fr.snoc X10 N9 g1
  have Fw10 := f98.same W10
  have f110 := f94.wr W10
  have O_111 := O_95.wr W10 g1
  have f112 := f96.other W10 (Or.inr (slot_ne (Or.inr (hw _ (List.mem_of_getElem? (i := 32) rfl))) (Or.inr (hw _ (List.mem_of_getElem? (i := 71) rfl))) (by decide) (t := (.object "java/util/List")) (t' := (.object "java/util/Map")) (by decide) (by decide)))
  have f113 := f97.other W10 (Or.inr (slot_ne (Or.inr (hw _ (List.mem_of_getElem? (i := 53) rfl))) (Or.inr (hw _ (List.mem_of_getElem? (i := 71) rfl))) (by decide) (t := (.object "java/util/NavigableMap")) (t' := (.object "java/util/Map")) (by decide) (by decide)))
  have f114 := f99.other W10 (Or.inr (slot_ne (Or.inr (hw _ (List.mem_of_getElem? (i := 97) rfl))) (Or.inr (hw _ (List.mem_of_getElem? (i := 71) rfl))) (by decide) (t := (.object "java/util/List")) (t' := (.object "java/util/Map")) (by decide) (by decide)))
  have f115 := f100.other W10 (Or.inr (slot_ne (Or.inr (hw _ (List.mem_of_getElem? (i := 99) rfl))) (Or.inr (hw _ (List.mem_of_getElem? (i := 71) rfl))) (by decide) (t := (.object "java/util/NavigableMap")) (t' := (.object "java/util/Map")) (by decide) (by decide)))
  have f116 := f101.other W10 (Or.inr (slot_ne (Or.inr (hw _ (List.mem_of_getElem? (i := 101) rfl))) (Or.inr (hw _ (List.mem_of_getElem? (i := 71) rfl))) (by decide) (t := (.object "java/lang/Object")) (t' := (.object "java/util/Map")) (by decide) (by decide)))
  have f117 := f102.other W10 (Or.inr (slot_ne (Or.inl (hw _ (List.mem_of_getElem? (i := 108) rfl))) (Or.inr (hw _ (List.mem_of_getElem? (i := 71) rfl))) (by decide) (t := .int) (t' := (.object "java/util/Map")) (by decide) (by decide)))
  have f118 := f103.other W10 (Or.inr (slot_ne (Or.inl (hw _ (List.mem_of_getElem? (i := 115) rfl))) (Or.inr (hw _ (List.mem_of_getElem? (i := 71) rfl))) (by decide) (t := .int) (t' := (.object "java/util/Map")) (by decide) (by decide)))
  have f119 := f104.wr W10
  have f120 := f105.wr W10
  have f121 := f106.other W10 (Or.inl (Ne.symm ne_a1_b5))
  have f122 := G9_0.wr W10
  have Zs123 := Nat.le_trans Zs108 (Keep.of_wr W10).1
  have K124 := K109.wr W10 (Or.inl (List.mem_of_getElem? (i := 0) rfl))
  refine Go.on (B := T10.setTop (mkF m 37 #[.val (.ref a1), .val (.ref a2)] [])) (fun t k => st10 _ k) ?_
  refine Go.on (B := T10.setTop (mkF m 38 #[.val (.ref a1), .val (.ref a2)] [(.ref a1)])) (fun t k => XS.aloadN X10.here hx rfl (hb hby d2_37) rfl rfl k) ?_
  obtain ⟨T11, h11, X11, e11, Xe11, A11, D11, Ue11, st11⟩ := newO X10 hx hZ hown (hw _ (List.mem_of_getElem? (i := 72) rfl)) (hw _ (List.mem_of_getElem? (i := 73) rfl)) (hw _ (List.mem_of_getElem? (i := 74) rfl)) e10 (g := (mkF m 38 #[.val (.ref a1), .val (.ref a2)] [(.ref a1)])) rfl (hb hby d2_38) (by decide) (by decide)
  obtain ⟨b11, gq11⟩ : ∃ z, z = h10.size := ⟨_, rfl⟩
  rw [← gq11] at A11 D11 Ue11 st11
  have ge_b11 : n0 ≤ b11 := Nat.le_trans Zs123 (Nat.le_of_eq gq11.symm)
  have sz_b11 : h0.size ≤ b11 := Nat.le_trans K124.1 (Nat.le_of_eq gq11.symm)
  have ne_a1_b11 : a1 ≠ b11 := Nat.ne_of_lt (Nat.lt_of_lt_of_le f110.lt (Nat.le_of_eq gq11.symm))
  have ne_b2_b11 : b2 ≠ b11 := Nat.ne_of_lt (Nat.lt_of_lt_of_le f119.lt (Nat.le_of_eq gq11.symm))
  have ne_b5_b11 : b5 ≠ b11 := Nat.ne_of_lt (Nat.lt_of_lt_of_le f120.lt (Nat.le_of_eq gq11.symm))
  have ne_b8_b11 : b8 ≠ b11 := Nat.ne_of_lt (Nat.lt_of_lt_of_le f122.lt (Nat.le_of_eq gq11.symm))
  have f125 := f110.ext Xe11
  have O_126 := O_111.ext Xe11
  have f127 := f112.ext Xe11
  have f128 := f113.ext Xe11
  have f129 := Fw10.ext Xe11
  have f130 := f114.ext Xe11
  have f131 := f115.ext Xe11
  have f132 := f116.ext Xe11
  have f133 := f117.ext Xe11
  have f134 := f118.ext Xe11
  have f135 := f119.ext Xe11
  have f136 := f120.ext Xe11
  have f137 := f121.ext Xe11
  have f138 := f122.ext Xe11
  have Zs139 := Nat.le_trans Zs123 Xe11.1
  have K140 := K124.ext Xe11
  have Un11 : Unt h11 b11 := Ue11
  have F11_modCount : Fld Z h11 b11 "java/util/AbstractList" "modCount" "I" (.int (0 : Int32)) := D11 (Or.inl (hw _ (List.mem_of_getElem? (i := 92) rfl))) (ty := .int) (by decide)
  have F11_elementData : Fld Z h11 b11 "java/util/ArrayList" "elementData" "[Ljava/lang/Object;" .null := D11 (Or.inl (hw _ (List.mem_of_getElem? (i := 95) rfl))) (ty := (.array (.object "java/lang/Object"))) (by decide)
  refine Go.on (B := T11.setTop (mkF m 41 #[.val (.ref a1), .val (.ref a2)] [(.ref b11), (.ref a1)])) (fun t k => st11 _ k) ?_
  refine Go.on (B := T11.setTop (mkF m 42 #[.val (.ref a1), .val (.ref a2)] [(.ref b11), (.ref b11), (.ref a1)])) (fun t k => XS.dup X11.here hx rfl (hb hby d2_41) rfl rfl k) ?_
  obtain ⟨_, _, ⟨T12, L12, k12, n12⟩, -, X12, ⟨Lc12, hQ12, l12, y12, z12⟩, st12⟩ := X11.specialBack hx (y := (⟨"java/util/ArrayList", "<init>", "()V"⟩ : MethodName)) rfl hown (mvT hZ (hw _ (List.mem_of_getElem? (i := 75) rfl))) (mvT hZ (hw _ (List.mem_of_getElem? (i := 76) rfl))) (mvT hZ (hw _ (List.mem_of_getElem? (i := 77) rfl))) (by decide) (backOf (W := 2) (ral l Z a0 hw [] b11 da h11 n0 Zs139 A11 F11_modCount F11_elementData ge_b11 O_126 S_de) hZ (hw _ (List.mem_of_getElem? (i := 77) rfl)) (hw _ (List.mem_of_getElem? (i := 74) rfl)) (by decide) (by decide)) (g := (mkF m 42 #[.val (.ref a1), .val (.ref a2)] [(.ref b11), (.ref b11), (.ref a1)])) rfl (by rw [hml]; rfl) (Steps.refl _) (a := b11) (argsL := []) (rest := [(.ref b11), (.ref a1)]) (lenOf pd_0 rfl) rfl (by show 2 * 0 + _ ≤ _; exact Nat.le_of_eq rfl) (hb hby d2_42) (fun _ _ => ⟨rfl, e11, (by decide : 7 + 0 ≤ _), (by decide : 84 + 0 ≤ _)⟩)
  dsimp only [Pt.U, Pt.locs, Pt.cells, Pt.slots] at X12 l12 y12 z12 st12 hQ12
  subst l12 y12 z12
  obtain ⟨rfl, N12q, K12q, G12_0⟩ := hQ12
  have N12 := Fr.app N10 N12q
  have f141 := f125.keep K12q
  have O_142 := O_126.keep K12q (allS ge_b11 all0)
  have f143 := f127.keep K12q (ninS ne_a1_b11 nin0)
  have f144 := f128.keep K12q (ninS ne_a1_b11 nin0)
  have f145 := f129.keep K12q (ninS ne_a1_b11 nin0)
  have f146 := f130.keep K12q (ninS ne_a1_b11 nin0)
  have f147 := f131.keep K12q (ninS ne_a1_b11 nin0)
  have f148 := f132.keep K12q (ninS ne_a1_b11 nin0)
  have f149 := f133.keep K12q (ninS ne_a1_b11 nin0)
  have f150 := f134.keep K12q (ninS ne_a1_b11 nin0)
  have f151 := f135.keep K12q
  have f152 := f136.keep K12q
  have f153 := f137.keep K12q (ninS ne_b5_b11 nin0)
  have f154 := f138.keep K12q
  have f155 := A11.keep K12q
  have Zs156 := Nat.le_trans Zs139 K12q.1
  have K157 := K140.trans K12q (allS (Or.inr sz_b11) all0)
  refine Go.on (B := T12.setTop (mkF m 45 #[.val (.ref a1), .val (.ref a2)] [(.ref b11), (.ref a1)])) (fun t k => st12.trans k) ?_
  obtain ⟨T13, h13, X13, e13, W13, st13⟩ := putF X12 hx hZ hown (host := "") (Or.inl (hw _ (List.mem_of_getElem? (i := 96) rfl))) Via.refl rfl f146 f141 (Or.inr ⟨(hw _ (List.mem_of_getElem? (i := 97) rfl)), rfl, hnm⟩) (hw _ (List.mem_of_getElem? (i := 1) rfl)) (ty := (.object "java/util/List")) (by decide) rfl rfl (g := (mkF m 45 #[.val (.ref a1), .val (.ref a2)] [(.ref b11), (.ref a1)])) rfl rfl (hb hby d2_45)
  have N13 := Fr.snoc X13 N12 g1
  have Fw13 := f146.same W13
  have f158 := f141.wr W13
  have O_159 := O_142.wr W13 g1
  have f160 := f143.other W13 (Or.inr (slot_ne (Or.inr (hw _ (List.mem_of_getElem? (i := 32) rfl))) (Or.inr (hw _ (List.mem_of_getElem? (i := 97) rfl))) (by decide) (t := (.object "java/util/List")) (t' := (.object "java/util/List")) (by decide) (by decide)))
  have f161 := f144.other W13 (Or.inr (slot_ne (Or.inr (hw _ (List.mem_of_getElem? (i := 53) rfl))) (Or.inr (hw _ (List.mem_of_getElem? (i := 97) rfl))) (by decide) (t := (.object "java/util/NavigableMap")) (t' := (.object "java/util/List")) (by decide) (by decide)))
  have f162 := f145.other W13 (Or.inr (slot_ne (Or.inr (hw _ (List.mem_of_getElem? (i := 71) rfl))) (Or.inr (hw _ (List.mem_of_getElem? (i := 97) rfl))) (by decide) (t := (.object "java/util/Map")) (t' := (.object "java/util/List")) (by decide) (by decide)))
  have f163 := f147.other W13 (Or.inr (slot_ne (Or.inr (hw _ (List.mem_of_getElem? (i := 99) rfl))) (Or.inr (hw _ (List.mem_of_getElem? (i := 97) rfl))) (by decide) (t := (.object "java/util/NavigableMap")) (t' := (.object "java/util/List")) (by decide) (by decide)))
  have f164 := f148.other W13 (Or.inr (slot_ne (Or.inr (hw _ (List.mem_of_getElem? (i := 101) rfl))) (Or.inr (hw _ (List.mem_of_getElem? (i := 97) rfl))) (by decide) (t := (.object "java/lang/Object")) (t' := (.object "java/util/List")) (by decide) (by decide)))
  have f165 := f149.other W13 (Or.inr (slot_ne (Or.inl (hw _ (List.mem_of_getElem? (i := 108) rfl))) (Or.inr (hw _ (List.mem_of_getElem? (i := 97) rfl))) (by decide) (t := .int) (t' := (.object "java/util/List")) (by decide) (by decide)))
  have f166 := f150.other W13 (Or.inr (slot_ne (Or.inl (hw _ (List.mem_of_getElem? (i := 115) rfl))) (Or.inr (hw _ (List.mem_of_getElem? (i := 97) rfl))) (by decide) (t := .int) (t' := (.object "java/util/List")) (by decide) (by decide)))
  have f167 := f151.wr W13
  have f168 := f152.wr W13
  have f169 := f153.other W13 (Or.inl (Ne.symm ne_a1_b5))
  have f170 := f154.wr W13
  have f171 := G12_0.wr W13
  have Zs172 := Nat.le_trans Zs156 (Keep.of_wr W13).1
  have K173 := K157.wr W13 (Or.inl (List.mem_of_getElem? (i := 0) rfl))
  refine Go.on (B := T13.setTop (mkF m 48 #[.val (.ref a1), .val (.ref a2)] [])) (fun t k => st13 _ k) ?_
  refine Go.on (B := T13.setTop (mkF m 49 #[.val (.ref a1), .val (.ref a2)] [(.ref a1)])) (fun t k => XS.aloadN X13.here hx rfl (hb hby d2_48) rfl rfl k) ?_
  obtain ⟨T14, h14, X14, e14, Xe14, A14, D14, Ue14, st14⟩ := newO X13 hx hZ hown (hw _ (List.mem_of_getElem? (i := 33) rfl)) (hw _ (List.mem_of_getElem? (i := 34) rfl)) (hw _ (List.mem_of_getElem? (i := 35) rfl)) e13 (g := (mkF m 49 #[.val (.ref a1), .val (.ref a2)] [(.ref a1)])) rfl (hb hby d2_49) (by decide) (by decide)
  obtain ⟨b14, gq14⟩ : ∃ z, z = h13.size := ⟨_, rfl⟩
  rw [← gq14] at A14 D14 Ue14 st14
  have ge_b14 : n0 ≤ b14 := Nat.le_trans Zs172 (Nat.le_of_eq gq14.symm)
  have sz_b14 : h0.size ≤ b14 := Nat.le_trans K173.1 (Nat.le_of_eq gq14.symm)
  have ne_a1_b14 : a1 ≠ b14 := Nat.ne_of_lt (Nat.lt_of_lt_of_le f158.lt (Nat.le_of_eq gq14.symm))
  have ne_b2_b14 : b2 ≠ b14 := Nat.ne_of_lt (Nat.lt_of_lt_of_le f167.lt (Nat.le_of_eq gq14.symm))
  have ne_b5_b14 : b5 ≠ b14 := Nat.ne_of_lt (Nat.lt_of_lt_of_le f168.lt (Nat.le_of_eq gq14.symm))
  have ne_b8_b14 : b8 ≠ b14 := Nat.ne_of_lt (Nat.lt_of_lt_of_le f170.lt (Nat.le_of_eq gq14.symm))
  have ne_b11_b14 : b11 ≠ b14 := Nat.ne_of_lt (Nat.lt_of_lt_of_le f171.lt (Nat.le_of_eq gq14.symm))
  have f174 := f158.ext Xe14
  have O_175 := O_159.ext Xe14
  have f176 := f160.ext Xe14
  have f177 := f161.ext Xe14
  have f178 := f162.ext Xe14
  have f179 := Fw13.ext Xe14
  have f180 := f163.ext Xe14
  have f181 := f164.ext Xe14
  have f182 := f165.ext Xe14
  have f183 := f166.ext Xe14
  have f184 := f167.ext Xe14
  have f185 := f168.ext Xe14
  have f186 := f169.ext Xe14
  have f187 := f170.ext Xe14
  have f188 := f171.ext Xe14
  have Zs189 := Nat.le_trans Zs172 Xe14.1
  have K190 := K173.ext Xe14
  have Un14 : Unt h14 b14 := Ue14
  have F14_size : Fld Z h14 b14 "java/util/TreeMap" "size" "I" (.int (0 : Int32)) := D14 (Or.inl (hw _ (List.mem_of_getElem? (i := 47) rfl))) (ty := .int) (by decide)
  have F14_modCount : Fld Z h14 b14 "java/util/TreeMap" "modCount" "I" (.int (0 : Int32)) := D14 (Or.inl (hw _ (List.mem_of_getElem? (i := 49) rfl))) (ty := .int) (by decide)
  have F14_comparator : Fld Z h14 b14 "java/util/TreeMap" "comparator" "Ljava/util/Comparator;" .null := D14 (Or.inr (hw _ (List.mem_of_getElem? (i := 51) rfl))) (ty := (.object "java/util/Comparator")) (by decide)
  have F14_root : Fld Z h14 b14 "java/util/TreeMap" "root" "Ljava/util/TreeMap$Entry;" .null := D14 (Or.inl (hw _ (List.mem_of_getElem? (i := 143) rfl))) (ty := (.object "java/util/TreeMap$Entry")) (by decide)
  refine Go.on (B := T14.setTop (mkF m 52 #[.val (.ref a1), .val (.ref a2)] [(.ref b14), (.ref a1)])) (fun t k => st14 _ k) ?_
  refine Go.on (B := T14.setTop (mkF m 53 #[.val (.ref a1), .val (.ref a2)] [(.ref b14), (.ref b14), (.ref a1)])) (fun t k => XS.dup X14.here hx rfl (hb hby d2_52) rfl rfl k) ?_
  obtain ⟨_, _, ⟨T15, L15, k15, n15⟩, -, X15, ⟨Lc15, hQ15, l15, y15, z15⟩, st15⟩ := X14.specialBack hx (y := (⟨"java/util/TreeMap", "<init>", "()V"⟩ : MethodName)) rfl hown (mvT hZ (hw _ (List.mem_of_getElem? (i := 36) rfl))) (mvT hZ (hw _ (List.mem_of_getElem? (i := 37) rfl))) (mvT hZ (hw _ (List.mem_of_getElem? (i := 38) rfl))) (by decide) (backOf (W := 2) (rtm l Z a0 hw [] b14 h14 n0 Zs189 A14 F14_size F14_modCount F14_comparator F14_root ge_b14) hZ (hw _ (List.mem_of_getElem? (i := 38) rfl)) (hw _ (List.mem_of_getElem? (i := 35) rfl)) (by decide) (by decide)) (g := (mkF m 53 #[.val (.ref a1), .val (.ref a2)] [(.ref b14), (.ref b14), (.ref a1)])) rfl (by rw [hml]; rfl) (Steps.refl _) (a := b14) (argsL := []) (rest := [(.ref b14), (.ref a1)]) (lenOf pd_0 rfl) rfl (by show 2 * 0 + _ ≤ _; exact Nat.le_of_eq rfl) (hb hby d2_53) (fun _ _ => ⟨rfl, e14, (by decide : 8 + 0 ≤ _), (by decide : 93 + 0 ≤ _)⟩)
  dsimp only [Pt.U, Pt.locs, Pt.cells, Pt.slots] at X15 l15 y15 z15 st15 hQ15
  subst l15 y15 z15
  obtain ⟨rfl, N15q, K15q, G15_0, G15_1⟩ := hQ15
  have N15 := Fr.app N13 N15q
  have f191 := f174.keep K15q
  have O_192 := O_175.keep K15q (allS ge_b14 all0)
  have f193 := f176.keep K15q (ninS ne_a1_b14 nin0)
  have f194 := f177.keep K15q (ninS ne_a1_b14 nin0)
  have f195 := f178.keep K15q (ninS ne_a1_b14 nin0)
  have f196 := f179.keep K15q (ninS ne_a1_b14 nin0)
  have f197 := f180.keep K15q (ninS ne_a1_b14 nin0)
  have f198 := f181.keep K15q (ninS ne_a1_b14 nin0)
  have f199 := f182.keep K15q (ninS ne_a1_b14 nin0)
  have f200 := f183.keep K15q (ninS ne_a1_b14 nin0)
  have f201 := f184.keep K15q
  have f202 := f185.keep K15q
  have f203 := f186.keep K15q (ninS ne_b5_b14 nin0)
  have f204 := f187.keep K15q
  have f205 := f188.keep K15q
  have f206 := A14.keep K15q
  have Zs207 := Nat.le_trans Zs189 K15q.1
  have K208 := K190.trans K15q (allS (Or.inr sz_b14) all0)
  refine Go.on (B := T15.setTop (mkF m 56 #[.val (.ref a1), .val (.ref a2)] [(.ref b14), (.ref a1)])) (fun t k => st15.trans k) ?_
  obtain ⟨T16, h16, X16, e16, W16, st16⟩ := putF X15 hx hZ hown (host := "") (Or.inl (hw _ (List.mem_of_getElem? (i := 98) rfl))) Via.refl rfl f197 f191 (Or.inr ⟨(hw _ (List.mem_of_getElem? (i := 99) rfl)), rfl, hnm⟩) (hw _ (List.mem_of_getElem? (i := 1) rfl)) (ty := (.object "java/util/NavigableMap")) (by decide) rfl rfl (g := (mkF m 56 #[.val (.ref a1), .val (.ref a2)] [(.ref b14), (.ref a1)])) rfl rfl (hb hby d2_56)
  have N16 := Fr.snoc X16 N15 g1
  have Fw16 := f197.same W16
  have f209 := f191.wr W16
  have O_210 := O_192.wr W16 g1
  have f211 := f193.other W16 (Or.inr (slot_ne (Or.inr (hw _ (List.mem_of_getElem? (i := 32) rfl))) (Or.inr (hw _ (List.mem_of_getElem? (i := 99) rfl))) (by decide) (t := (.object "java/util/List")) (t' := (.object "java/util/NavigableMap")) (by decide) (by decide)))
  have f212 := f194.other W16 (Or.inr (slot_ne (Or.inr (hw _ (List.mem_of_getElem? (i := 53) rfl))) (Or.inr (hw _ (List.mem_of_getElem? (i := 99) rfl))) (by decide) (t := (.object "java/util/NavigableMap")) (t' := (.object "java/util/NavigableMap")) (by decide) (by decide)))
  have f213 := f195.other W16 (Or.inr (slot_ne (Or.inr (hw _ (List.mem_of_getElem? (i := 71) rfl))) (Or.inr (hw _ (List.mem_of_getElem? (i := 99) rfl))) (by decide) (t := (.object "java/util/Map")) (t' := (.object "java/util/NavigableMap")) (by decide) (by decide)))
  have f214 := f196.other W16 (Or.inr (slot_ne (Or.inr (hw _ (List.mem_of_getElem? (i := 97) rfl))) (Or.inr (hw _ (List.mem_of_getElem? (i := 99) rfl))) (by decide) (t := (.object "java/util/List")) (t' := (.object "java/util/NavigableMap")) (by decide) (by decide)))
  have f215 := f198.other W16 (Or.inr (slot_ne (Or.inr (hw _ (List.mem_of_getElem? (i := 101) rfl))) (Or.inr (hw _ (List.mem_of_getElem? (i := 99) rfl))) (by decide) (t := (.object "java/lang/Object")) (t' := (.object "java/util/NavigableMap")) (by decide) (by decide)))
  have f216 := f199.other W16 (Or.inr (slot_ne (Or.inl (hw _ (List.mem_of_getElem? (i := 108) rfl))) (Or.inr (hw _ (List.mem_of_getElem? (i := 99) rfl))) (by decide) (t := .int) (t' := (.object "java/util/NavigableMap")) (by decide) (by decide)))
  have f217 := f200.other W16 (Or.inr (slot_ne (Or.inl (hw _ (List.mem_of_getElem? (i := 115) rfl))) (Or.inr (hw _ (List.mem_of_getElem? (i := 99) rfl))) (by decide) (t := .int) (t' := (.object "java/util/NavigableMap")) (by decide) (by decide)))
  have f218 := f201.wr W16
  have f219 := f202.wr W16
  have f220 := f203.other W16 (Or.inl (Ne.symm ne_a1_b5))
  have f221 := f204.wr W16
  have f222 := f205.wr W16
  have f223 := G15_0.wr W16
  have f224 := G15_1.other W16 (Or.inl (Ne.symm ne_a1_b14))
  have Zs225 := Nat.le_trans Zs207 (Keep.of_wr W16).1
  have K226 := K208.wr W16 (Or.inl (List.mem_of_getElem? (i := 0) rfl))
  refine Go.on (B := T16.setTop (mkF m 59 #[.val (.ref a1), .val (.ref a2)] [])) (fun t k => st16 _ k) ?_
  refine Go.on (B := T16.setTop (mkF m 60 #[.val (.ref a1), .val (.ref a2)] [(.ref a1)])) (fun t k => XS.aloadN X16.here hx rfl (hb hby d2_59) rfl rfl k) ?_
  refine Go.on (B := T16.setTop (mkF m 61 #[.val (.ref a1), .val (.ref a2)] [(.ref a2), (.ref a1)])) (fun t k => XS.aloadN X16.here hx rfl (hb hby d2_60) rfl rfl k) ?_
  obtain ⟨T17, h17, X17, e17, W17, st17⟩ := putF X16 hx hZ hown (host := "") (Or.inl (hw _ (List.mem_of_getElem? (i := 100) rfl))) Via.refl e16 f215 f209 (Or.inr ⟨(hw _ (List.mem_of_getElem? (i := 101) rfl)), rfl, hnm⟩) (hw _ (List.mem_of_getElem? (i := 1) rfl)) (ty := (.object "java/lang/Object")) (by decide) rfl rfl (g := (mkF m 61 #[.val (.ref a1), .val (.ref a2)] [(.ref a2), (.ref a1)])) rfl rfl (hb hby d2_61)
  have N17 := Fr.snoc X17 N16 g1
  have Fw17 := f215.same W17
  have f227 := f209.wr W17
  have O_228 := O_210.wr W17 g1
  have f229 := f211.other W17 (Or.inr (slot_ne (Or.inr (hw _ (List.mem_of_getElem? (i := 32) rfl))) (Or.inr (hw _ (List.mem_of_getElem? (i := 101) rfl))) (by decide) (t := (.object "java/util/List")) (t' := (.object "java/lang/Object")) (by decide) (by decide)))
  have f230 := f212.other W17 (Or.inr (slot_ne (Or.inr (hw _ (List.mem_of_getElem? (i := 53) rfl))) (Or.inr (hw _ (List.mem_of_getElem? (i := 101) rfl))) (by decide) (t := (.object "java/util/NavigableMap")) (t' := (.object "java/lang/Object")) (by decide) (by decide)))
  have f231 := f213.other W17 (Or.inr (slot_ne (Or.inr (hw _ (List.mem_of_getElem? (i := 71) rfl))) (Or.inr (hw _ (List.mem_of_getElem? (i := 101) rfl))) (by decide) (t := (.object "java/util/Map")) (t' := (.object "java/lang/Object")) (by decide) (by decide)))
  have f232 := f214.other W17 (Or.inr (slot_ne (Or.inr (hw _ (List.mem_of_getElem? (i := 97) rfl))) (Or.inr (hw _ (List.mem_of_getElem? (i := 101) rfl))) (by decide) (t := (.object "java/util/List")) (t' := (.object "java/lang/Object")) (by decide) (by decide)))
  have f233 := Fw16.other W17 (Or.inr (slot_ne (Or.inr (hw _ (List.mem_of_getElem? (i := 99) rfl))) (Or.inr (hw _ (List.mem_of_getElem? (i := 101) rfl))) (by decide) (t := (.object "java/util/NavigableMap")) (t' := (.object "java/lang/Object")) (by decide) (by decide)))
  have f234 := f216.other W17 (Or.inr (slot_ne (Or.inl (hw _ (List.mem_of_getElem? (i := 108) rfl))) (Or.inr (hw _ (List.mem_of_getElem? (i := 101) rfl))) (by decide) (t := .int) (t' := (.object "java/lang/Object")) (by decide) (by decide)))
  have f235 := f217.other W17 (Or.inr (slot_ne (Or.inl (hw _ (List.mem_of_getElem? (i := 115) rfl))) (Or.inr (hw _ (List.mem_of_getElem? (i := 101) rfl))) (by decide) (t := .int) (t' := (.object "java/lang/Object")) (by decide) (by decide)))
  have f236 := f218.wr W17
  have f237 := f219.wr W17
  have f238 := f220.other W17 (Or.inl (Ne.symm ne_a1_b5))
  have f239 := f221.wr W17
  have f240 := f222.wr W17
  have f241 := f223.wr W17
  have f242 := f224.other W17 (Or.inl (Ne.symm ne_a1_b14))
  have Zs243 := Nat.le_trans Zs225 (Keep.of_wr W17).1
  have K244 := K226.wr W17 (Or.inl (List.mem_of_getElem? (i := 0) rfl))
  refine Go.on (B := T17.setTop (mkF m 64 #[.val (.ref a1), .val (.ref a2)] [])) (fun t k => st17 _ k) ?_
  obtain ⟨fs, hr, hrun, hended, hW, hsame⟩ := X17.leave (v := none) (fun _ => rfl)
  refine ⟨_, _, ?_, hrun, hended, _, _, rfl, ?_, ⟨_, rfl⟩, hW, hsame.mono (by decide) (by decide)⟩
  · exact X17.returnOut hx Bd.returns (hb hby d2_64) hr
  · show Q_rlr Z a1 a2 da h0 n0 _ T17.heap _
    rw [e17]
    exact ⟨rfl, N17, K244, f227, Fw17, f234, f235, _, sz_b5, f230, f237, f238⟩
theorem d12_0 : decode prog_12_method_7_code 0 = .ok (.aload_n 0, 1) := by decide +kernel
theorem d12_1 : decode prog_12_method_7_code 1 = .ok (.iload_n 1, 1) := by decide +kernel
theorem d12_2 : decode prog_12_method_7_code 2 = .ok (.putfield 81, 3) := by decide +kernel
theorem d12_5 : decode prog_12_method_7_code 5 = .ok (.aload_n 0, 1) := by decide +kernel
theorem d12_6 : decode prog_12_method_7_code 6 = .ok (.iload_n 1, 1) := by decide +kernel
theorem d12_7 : decode prog_12_method_7_code 7 = .ok (.putfield 75, 3) := by decide +kernel
theorem d12_10 : decode prog_12_method_7_code 10 = .ok (.return_, 1) := by decide +kernel
theorem ef_rst (m : MethodId) (a1 : Addr) (p2 : Int32) : entryFrame m #[(.ref a1), (.int p2)] 2 = mkF m 0 #[.val (.ref a1), .val (.int p2)] [] := by first | (simp [entryFrame, mkF, argsToLocals, Value.category]; done) | rfl
def Q_rst (Z : State) (a1 : Addr) (p2 : Int32) (p3 p4 : Int32) (a5 a6 : Addr) (h0 : Heap) (n0 : Nat) (v : Option Value) (h : Heap) (L : List Loc) : Prop := v = none ∧ Fr n0 L ∧ Keep h0 h [a1] ∧ Exa Z h a1 "com/example/windlass/windlass/LevelRegistry" ∧ Fld Z h a1 "com/example/windlass/windlass/LevelRegistry" "current" "I" (.int p2) ∧ Fld Z h a1 "com/example/windlass/windlass/LevelRegistry" "entered" "I" (.int p2) ∧ Fld Z h a1 "com/example/windlass/windlass/LevelRegistry" "lock" "Ljava/lang/Object;" (.ref a5) ∧ Fld Z h a1 "com/example/windlass/windlass/LevelRegistry" "levels" "Ljava/util/NavigableMap;" (.ref a6)
set_option maxRecDepth 65536 in
set_option maxHeartbeats 40000000 in
theorem rst (l : Launch) (Z : State) (a0 : Array Value) (hw : ∀ d ∈ tables_1, d.before a0 Z = true) (ws : List Jvm.Cond) (a1 : Addr) (p2 : Int32) (p3 p4 : Int32) (a5 a6 : Addr) (h0 : Heap) (n0 : Nat) (Z0 : n0 ≤ h0.size) (E1 : Exa Z h0 a1 "com/example/windlass/windlass/LevelRegistry") (F_current : Fld Z h0 a1 "com/example/windlass/windlass/LevelRegistry" "current" "I" (.int p3)) (F_entered : Fld Z h0 a1 "com/example/windlass/windlass/LevelRegistry" "entered" "I" (.int p4)) (F_lock : Fld Z h0 a1 "com/example/windlass/windlass/LevelRegistry" "lock" "Ljava/lang/Object;" (.ref a5)) (F_levels : Fld Z h0 a1 "com/example/windlass/windlass/LevelRegistry" "levels" "Ljava/util/NavigableMap;" (.ref a6)) (g1 : n0 ≤ a1) :
    MetFree l (⟨"com/example/windlass/windlass/LevelRegistry", "standAt", "(I)V"⟩ : MethodName) (head1 (Jvm.Cond.code (⟨"com/example/windlass/windlass/LevelRegistry", "standAt", "(I)V"⟩ : MethodName) prog_12_method_7_code 2 none :: ws) ({ frames := 0, cells := 0, slots := 0, locals := 0 } : Room)) (fun a U => a = #[(.ref a1), (.int p2)] ∧ Z.Warmed39 U.vm ∧ U.heap = h0) (fun _ _ _ _ _ => True) (fun _ U o U' => ∃ v L, o = .returned v ∧ Q_rst Z a1 p2 p3 p4 a5 a6 h0 n0 v U'.heap L ∧ FrameEnd U o U' L ({ frames := 0, cells := 0, slots := 0, locals := 0 } : Room).cells ({ frames := 0, cells := 0, slots := 0, locals := 0 } : Room).slots) := by
  refine MetFree.of_bodySF (plainFor_of_name pn_21) hisR ?_
  intro p e s m args below meth c s₁ Bd hml0 hP hK
  obtain ⟨rfl, hZ, hh⟩ := hP
  have hx := Bd.exec
  have hby := Bd.bytes
  have hml : c.maxLocals = 2 := hml0
  have hown : s.vm.findClass "com/example/windlass/windlass/LevelRegistry" = some m.cls := findClass_of_methodNamed Bd.named
  have hnm := (name_of_methodNamed Bd.named Bd.method).1
  have X0 : Stand p l e ({ frames := 0, cells := 0, slots := 0, locals := 0 } : Room) s m #[(.ref a1), (.int p2)] below meth c s₁ [] 0 0 := Stand.of_body Bd
  have e0 : s₁.heap = h0 := by rw [← hh, Bd.state]; rfl
  have N0 := Fr.nil n0
  have pre0 : ∀ t, Steps p.tables e below (s₁.setTop (mkF m 0 #[.val (.ref a1), .val (.int p2)] [])) t → Steps p.tables e below (s₁.setTop (entryFrame m #[(.ref a1), (.int p2)] 2)) t := fun t k => castTop (ef_rst m a1 p2) k
  change Go p.tables e below (fun o U' => ∃ v L, o = .returned v ∧ Q_rst Z a1 p2 p3 p4 a5 a6 h0 n0 v U'.heap L ∧ FrameEnd s o U' L ({ frames := 0, cells := 0, slots := 0, locals := 0 } : Room).cells ({ frames := 0, cells := 0, slots := 0, locals := 0 } : Room).slots) (s₁.setTop (entryFrame m #[(.ref a1), (.int p2)] 2))
  have K0 := Keep.refl h0 [a1]
  refine Go.on pre0 ?_
  refine Go.on (B := s₁.setTop (mkF m 1 #[.val (.ref a1), .val (.int p2)] [(.ref a1)])) (fun t k => XS.aloadN X0.here hx rfl (hb hby d12_0) rfl rfl k) ?_
  refine Go.on (B := s₁.setTop (mkF m 2 #[.val (.ref a1), .val (.int p2)] [(.int p2), (.ref a1)])) (fun t k => XS.iloadN X0.here hx rfl (hb hby d12_1) rfl k) ?_
  obtain ⟨T1, h1, X1, e1, W1, st1⟩ := putF X0 hx hZ hown (host := "") (Or.inl (hw _ (List.mem_of_getElem? (i := 107) rfl))) Via.refl e0 F_current E1 (Or.inl (hw _ (List.mem_of_getElem? (i := 108) rfl))) (hw _ (List.mem_of_getElem? (i := 1) rfl)) (ty := .int) (by decide) rfl rfl (g := (mkF m 2 #[.val (.ref a1), .val (.int p2)] [(.int p2), (.ref a1)])) rfl rfl (hb hby d12_2)
  have N1 := Fr.snoc X1 N0 g1
  have Fw1 := F_current.same W1
  have f1 := E1.wr W1
  have f2 := F_entered.other W1 (Or.inr (slot_ne (Or.inl (hw _ (List.mem_of_getElem? (i := 115) rfl))) (Or.inl (hw _ (List.mem_of_getElem? (i := 108) rfl))) (by decide) (t := .int) (t' := .int) (by decide) (by decide)))
  have f3 := F_lock.other W1 (Or.inr (slot_ne (Or.inr (hw _ (List.mem_of_getElem? (i := 101) rfl))) (Or.inl (hw _ (List.mem_of_getElem? (i := 108) rfl))) (by decide) (t := (.object "java/lang/Object")) (t' := .int) (by decide) (by decide)))
  have f4 := F_levels.other W1 (Or.inr (slot_ne (Or.inr (hw _ (List.mem_of_getElem? (i := 53) rfl))) (Or.inl (hw _ (List.mem_of_getElem? (i := 108) rfl))) (by decide) (t := (.object "java/util/NavigableMap")) (t' := .int) (by decide) (by decide)))
  have Zs5 := Nat.le_trans Z0 (Keep.of_wr W1).1
  have K6 := K0.wr W1 (Or.inl (List.mem_of_getElem? (i := 0) rfl))
  refine Go.on (B := T1.setTop (mkF m 5 #[.val (.ref a1), .val (.int p2)] [])) (fun t k => st1 _ k) ?_
  refine Go.on (B := T1.setTop (mkF m 6 #[.val (.ref a1), .val (.int p2)] [(.ref a1)])) (fun t k => XS.aloadN X1.here hx rfl (hb hby d12_5) rfl rfl k) ?_
  refine Go.on (B := T1.setTop (mkF m 7 #[.val (.ref a1), .val (.int p2)] [(.int p2), (.ref a1)])) (fun t k => XS.iloadN X1.here hx rfl (hb hby d12_6) rfl k) ?_
  obtain ⟨T2, h2, X2, e2, W2, st2⟩ := putF X1 hx hZ hown (host := "") (Or.inl (hw _ (List.mem_of_getElem? (i := 114) rfl))) Via.refl e1 f2 f1 (Or.inl (hw _ (List.mem_of_getElem? (i := 115) rfl))) (hw _ (List.mem_of_getElem? (i := 1) rfl)) (ty := .int) (by decide) rfl rfl (g := (mkF m 7 #[.val (.ref a1), .val (.int p2)] [(.int p2), (.ref a1)])) rfl rfl (hb hby d12_7)
  have N2 := Fr.snoc X2 N1 g1
  have Fw2 := f2.same W2
  have f7 := f1.wr W2
  have f8 := Fw1.other W2 (Or.inr (slot_ne (Or.inl (hw _ (List.mem_of_getElem? (i := 108) rfl))) (Or.inl (hw _ (List.mem_of_getElem? (i := 115) rfl))) (by decide) (t := .int) (t' := .int) (by decide) (by decide)))
  have f9 := f3.other W2 (Or.inr (slot_ne (Or.inr (hw _ (List.mem_of_getElem? (i := 101) rfl))) (Or.inl (hw _ (List.mem_of_getElem? (i := 115) rfl))) (by decide) (t := (.object "java/lang/Object")) (t' := .int) (by decide) (by decide)))
  have f10 := f4.other W2 (Or.inr (slot_ne (Or.inr (hw _ (List.mem_of_getElem? (i := 53) rfl))) (Or.inl (hw _ (List.mem_of_getElem? (i := 115) rfl))) (by decide) (t := (.object "java/util/NavigableMap")) (t' := .int) (by decide) (by decide)))
  have Zs11 := Nat.le_trans Zs5 (Keep.of_wr W2).1
  have K12 := K6.wr W2 (Or.inl (List.mem_of_getElem? (i := 0) rfl))
  refine Go.on (B := T2.setTop (mkF m 10 #[.val (.ref a1), .val (.int p2)] [])) (fun t k => st2 _ k) ?_
  obtain ⟨fs, hr, hrun, hended, hW, hsame⟩ := X2.leave (v := none) (fun _ => rfl)
  refine ⟨_, _, ?_, hrun, hended, _, _, rfl, ?_, ⟨_, rfl⟩, hW, hsame.mono (by decide) (by decide)⟩
  · exact X2.returnOut hx Bd.returns (hb hby d12_10) hr
  · show Q_rst Z a1 p2 p3 p4 a5 a6 h0 n0 _ T2.heap _
    rw [e2]
    exact ⟨rfl, N2, K12, f7, f8, Fw2, f9, f10⟩
theorem d18_0 : decode jdk_18_method_1_code 0 = .ok (.aload_n 0, 1) := by decide +kernel
theorem d18_1 : decode jdk_18_method_1_code 1 = .ok (.invokespecial 1, 3) := by decide +kernel
theorem d18_4 : decode jdk_18_method_1_code 4 = .ok (.return_, 1) := by decide +kernel
theorem pn_24 : plainName "java/lang/Number" = true := by first | (simp [plainName, overriddenIn]; done) | decide +kernel
theorem ef_rnum (m : MethodId) (a1 : Addr) : entryFrame m #[(.ref a1)] 1 = mkF m 0 #[.val (.ref a1)] [] := by first | (simp [entryFrame, mkF, argsToLocals, Value.category]; done) | rfl
def Q_rnum (Z : State) (a1 : Addr) (h0 : Heap) (n0 : Nat) (v : Option Value) (h : Heap) (L : List Loc) : Prop := v = none ∧ Fr n0 L ∧ h = h0
set_option maxRecDepth 65536 in
set_option maxHeartbeats 40000000 in
theorem rnum (l : Launch) (Z : State) (a0 : Array Value) (hw : ∀ d ∈ tables_1, d.before a0 Z = true) (ws : List Jvm.Cond) (a1 : Addr) (h0 : Heap) (n0 : Nat) (Z0 : n0 ≤ h0.size)  :
    MetFree l (⟨"java/lang/Number", "<init>", "()V"⟩ : MethodName) (head1 (Jvm.Cond.code (⟨"java/lang/Number", "<init>", "()V"⟩ : MethodName) jdk_18_method_1_code 1 none :: ws) ({ frames := 1, cells := 0, slots := 0, locals := 12 } : Room)) (fun a U => a = #[(.ref a1)] ∧ Z.Warmed39 U.vm ∧ U.heap = h0) (fun _ _ _ _ _ => True) (fun _ U o U' => ∃ v L, o = .returned v ∧ Q_rnum Z a1 h0 n0 v U'.heap L ∧ FrameEnd U o U' L ({ frames := 1, cells := 0, slots := 0, locals := 12 } : Room).cells ({ frames := 1, cells := 0, slots := 0, locals := 12 } : Room).slots) := by
  refine MetFree.of_bodySF (plainFor_of_name pn_24) hisR ?_
  intro p e s m args below meth c s₁ Bd hml0 hP hK
  obtain ⟨rfl, hZ, hh⟩ := hP
  have hx := Bd.exec
  have hby := Bd.bytes
  have hml : c.maxLocals = 1 := hml0
  have hown : s.vm.findClass "java/lang/Number" = some m.cls := findClass_of_methodNamed Bd.named
  have hnm := (name_of_methodNamed Bd.named Bd.method).1
  have X0 : Stand p l e ({ frames := 1, cells := 0, slots := 0, locals := 12 } : Room) s m #[(.ref a1)] below meth c s₁ [] 0 0 := Stand.of_body Bd
  have e0 : s₁.heap = h0 := by rw [← hh, Bd.state]; rfl
  have N0 := Fr.nil n0
  have pre0 : ∀ t, Steps p.tables e below (s₁.setTop (mkF m 0 #[.val (.ref a1)] [])) t → Steps p.tables e below (s₁.setTop (entryFrame m #[(.ref a1)] 1)) t := fun t k => castTop (ef_rnum m a1) k
  change Go p.tables e below (fun o U' => ∃ v L, o = .returned v ∧ Q_rnum Z a1 h0 n0 v U'.heap L ∧ FrameEnd s o U' L ({ frames := 1, cells := 0, slots := 0, locals := 12 } : Room).cells ({ frames := 1, cells := 0, slots := 0, locals := 12 } : Room).slots) (s₁.setTop (entryFrame m #[(.ref a1)] 1))
  refine Go.on pre0 ?_
  refine Go.on (B := s₁.setTop (mkF m 1 #[.val (.ref a1)] [(.ref a1)])) (fun t k => XS.aloadN X0.here hx rfl (hb hby d18_0) rfl rfl k) ?_
  obtain ⟨T1, X1, e1, st1⟩ := initO X0 hx hZ hown (hw _ (List.mem_of_getElem? (i := 159) rfl)) (hw _ (List.mem_of_getElem? (i := 7) rfl)) (hw _ (List.mem_of_getElem? (i := 8) rfl)) e0 (g := (mkF m 1 #[.val (.ref a1)] [(.ref a1)])) rfl (by rw [hml]; rfl) rfl (hb hby d18_1) (by decide) (W := 0) (by show 2 * 0 + _ ≤ _; exact Nat.le_of_eq rfl) (by decide)
  refine Go.on (B := T1.setTop (mkF m 4 #[.val (.ref a1)] [])) (fun t k => st1 _ k) ?_
  obtain ⟨fs, hr, hrun, hended, hW, hsame⟩ := X1.leave (v := none) (fun _ => rfl)
  refine ⟨_, _, ?_, hrun, hended, _, _, rfl, ?_, ⟨_, rfl⟩, hW, hsame.mono (by decide) (by decide)⟩
  · exact X1.returnOut hx Bd.returns (hb hby d18_4) hr
  · show Q_rnum Z a1 h0 n0 _ T1.heap _
    rw [e1]
    exact ⟨rfl, N0, rfl⟩
theorem d17_0 : decode jdk_33_method_23_code 0 = .ok (.aload_n 0, 1) := by decide +kernel
theorem d17_1 : decode jdk_33_method_23_code 1 = .ok (.invokespecial 202, 3) := by decide +kernel
theorem d17_4 : decode jdk_33_method_23_code 4 = .ok (.aload_n 0, 1) := by decide +kernel
theorem d17_5 : decode jdk_33_method_23_code 5 = .ok (.iload_n 1, 1) := by decide +kernel
theorem d17_6 : decode jdk_33_method_23_code 6 = .ok (.putfield 205, 3) := by decide +kernel
theorem d17_9 : decode jdk_33_method_23_code 9 = .ok (.return_, 1) := by decide +kernel
theorem pn_26 : plainName "java/lang/Integer" = true := by first | (simp [plainName, overriddenIn]; done) | decide +kernel
theorem ef_rii (m : MethodId) (a1 : Addr) (p2 : Int32) : entryFrame m #[(.ref a1), (.int p2)] 2 = mkF m 0 #[.val (.ref a1), .val (.int p2)] [] := by first | (simp [entryFrame, mkF, argsToLocals, Value.category]; done) | rfl
def Q_rii (Z : State) (a1 : Addr) (p2 : Int32) (h0 : Heap) (n0 : Nat) (v : Option Value) (h : Heap) (L : List Loc) : Prop := v = none ∧ Fr n0 L ∧ Keep h0 h [a1] ∧ Exa Z h a1 "java/lang/Integer" ∧ Fld Z h a1 "java/lang/Integer" "value" "I" (.int p2)
set_option maxRecDepth 65536 in
set_option maxHeartbeats 40000000 in
theorem rii (l : Launch) (Z : State) (a0 : Array Value) (hw : ∀ d ∈ tables_1, d.before a0 Z = true) (ws : List Jvm.Cond) (a1 : Addr) (p2 : Int32) (h0 : Heap) (n0 : Nat) (Z0 : n0 ≤ h0.size) (E1 : Exa Z h0 a1 "java/lang/Integer") (F1 : Fld Z h0 a1 "java/lang/Integer" "value" "I" (.int (0 : Int32))) (g1 : n0 ≤ a1) :
    MetFree l (⟨"java/lang/Integer", "<init>", "(I)V"⟩ : MethodName) (head1 (Jvm.Cond.code (⟨"java/lang/Integer", "<init>", "(I)V"⟩ : MethodName) jdk_33_method_23_code 2 none :: ws) ({ frames := 2, cells := 0, slots := 0, locals := 24 } : Room)) (fun a U => a = #[(.ref a1), (.int p2)] ∧ Z.Warmed39 U.vm ∧ U.heap = h0) (fun _ _ _ _ _ => True) (fun _ U o U' => ∃ v L, o = .returned v ∧ Q_rii Z a1 p2 h0 n0 v U'.heap L ∧ FrameEnd U o U' L ({ frames := 2, cells := 0, slots := 0, locals := 24 } : Room).cells ({ frames := 2, cells := 0, slots := 0, locals := 24 } : Room).slots) := by
  refine MetFree.of_bodySF (plainFor_of_name pn_26) hisR ?_
  intro p e s m args below meth c s₁ Bd hml0 hP hK
  obtain ⟨rfl, hZ, hh⟩ := hP
  have hx := Bd.exec
  have hby := Bd.bytes
  have hml : c.maxLocals = 2 := hml0
  have hown : s.vm.findClass "java/lang/Integer" = some m.cls := findClass_of_methodNamed Bd.named
  have hnm := (name_of_methodNamed Bd.named Bd.method).1
  have X0 : Stand p l e ({ frames := 2, cells := 0, slots := 0, locals := 24 } : Room) s m #[(.ref a1), (.int p2)] below meth c s₁ [] 0 0 := Stand.of_body Bd
  have e0 : s₁.heap = h0 := by rw [← hh, Bd.state]; rfl
  have N0 := Fr.nil n0
  have pre0 : ∀ t, Steps p.tables e below (s₁.setTop (mkF m 0 #[.val (.ref a1), .val (.int p2)] [])) t → Steps p.tables e below (s₁.setTop (entryFrame m #[(.ref a1), (.int p2)] 2)) t := fun t k => castTop (ef_rii m a1 p2) k
  change Go p.tables e below (fun o U' => ∃ v L, o = .returned v ∧ Q_rii Z a1 p2 h0 n0 v U'.heap L ∧ FrameEnd s o U' L ({ frames := 2, cells := 0, slots := 0, locals := 24 } : Room).cells ({ frames := 2, cells := 0, slots := 0, locals := 24 } : Room).slots) (s₁.setTop (entryFrame m #[(.ref a1), (.int p2)] 2))
  have K0 := Keep.refl h0 [a1]
  refine Go.on pre0 ?_
  refine Go.on (B := s₁.setTop (mkF m 1 #[.val (.ref a1), .val (.int p2)] [(.ref a1)])) (fun t k => XS.aloadN X0.here hx rfl (hb hby d17_0) rfl rfl k) ?_
  obtain ⟨_, _, ⟨T1, L1, k1, n1⟩, -, X1, ⟨Lc1, hQ1, l1, y1, z1⟩, st1⟩ := X0.specialBack hx (y := (⟨"java/lang/Number", "<init>", "()V"⟩ : MethodName)) rfl hown (mvT hZ (hw _ (List.mem_of_getElem? (i := 153) rfl))) (mvT hZ (hw _ (List.mem_of_getElem? (i := 154) rfl))) (mvT hZ (hw _ (List.mem_of_getElem? (i := 158) rfl))) (by decide) (backOf (W := 0) (rnum l Z a0 hw [] a1 h0 n0 Z0) hZ (hw _ (List.mem_of_getElem? (i := 158) rfl)) (hw _ (List.mem_of_getElem? (i := 157) rfl)) (by decide) (by decide)) (g := (mkF m 1 #[.val (.ref a1), .val (.int p2)] [(.ref a1)])) rfl (by rw [hml]; rfl) (Steps.refl _) (a := a1) (argsL := []) (rest := []) (lenOf pd_0 rfl) rfl (by show 2 * 0 + _ ≤ _; exact Nat.le_of_eq rfl) (hb hby d17_1) (fun _ _ => ⟨rfl, e0, (by decide : 0 + 0 ≤ _), (by decide : 0 + 0 ≤ _)⟩)
  dsimp only [Pt.U, Pt.locs, Pt.cells, Pt.slots] at X1 l1 y1 z1 st1 hQ1
  subst l1 y1 z1
  obtain ⟨rfl, N1q, e1q⟩ := hQ1
  have N1 := Fr.app N0 N1q
  refine Go.on (B := T1.setTop (mkF m 4 #[.val (.ref a1), .val (.int p2)] [])) (fun t k => st1.trans k) ?_
  refine Go.on (B := T1.setTop (mkF m 5 #[.val (.ref a1), .val (.int p2)] [(.ref a1)])) (fun t k => XS.aloadN X1.here hx rfl (hb hby d17_4) rfl rfl k) ?_
  refine Go.on (B := T1.setTop (mkF m 6 #[.val (.ref a1), .val (.int p2)] [(.int p2), (.ref a1)])) (fun t k => XS.iloadN X1.here hx rfl (hb hby d17_5) rfl k) ?_
  obtain ⟨T2, h2, X2, e2, W2, st2⟩ := putF X1 hx hZ hown (host := "") (Or.inl (hw _ (List.mem_of_getElem? (i := 160) rfl))) Via.refl e1q F1 E1 (Or.inr ⟨(hw _ (List.mem_of_getElem? (i := 161) rfl)), rfl, hnm⟩) (hw _ (List.mem_of_getElem? (i := 148) rfl)) (ty := .int) (by decide) rfl rfl (g := (mkF m 6 #[.val (.ref a1), .val (.int p2)] [(.int p2), (.ref a1)])) rfl rfl (hb hby d17_6)
  have N2 := Fr.snoc X2 N1 g1
  have Fw2 := F1.same W2
  have f1 := E1.wr W2
  have Zs2 := Nat.le_trans Z0 (Keep.of_wr W2).1
  have K3 := K0.wr W2 (Or.inl (List.mem_of_getElem? (i := 0) rfl))
  refine Go.on (B := T2.setTop (mkF m 9 #[.val (.ref a1), .val (.int p2)] [])) (fun t k => st2 _ k) ?_
  obtain ⟨fs, hr, hrun, hended, hW, hsame⟩ := X2.leave (v := none) (fun _ => rfl)
  refine ⟨_, _, ?_, hrun, hended, _, _, rfl, ?_, ⟨_, rfl⟩, hW, hsame.mono (by decide) (by decide)⟩
  · exact X2.returnOut hx Bd.returns (hb hby d17_9) hr
  · show Q_rii Z a1 p2 h0 n0 _ T2.heap _
    rw [e2]
    exact ⟨rfl, N2, K3, f1, Fw2⟩
theorem own_ixi (q : Int32) (h1 : ¬ (q < (-128 : Int32))) (h2 : ¬ ((127 : Int32) < q)) : (¬ (q + (128 : Int32)) < 0 ∧ (q + (128 : Int32)) < (256 : Int32)) ∧ ((q + (128 : Int32)) - (128 : Int32)) = q := by
  have m1 : (-128 : Int32).toInt = -128 := by decide
  have m2 : (127 : Int32).toInt = 127 := by decide
  have m3 : (128 : Int32).toInt = 128 := by decide
  have m4 : (256 : Int32).toInt = 256 := by decide
  have m5 : (0 : Int32).toInt = 0 := by decide
  rw [Int32.lt_iff_toInt_lt, m1] at h1
  rw [Int32.lt_iff_toInt_lt, m2] at h2
  have k2 := c_iadd q 128
  have r2 := rng32 (q + 128)
  have k3 := c_isub (q + 128) 128
  have r3 := rng32 (q + 128 - 128)
  rw [m3] at k2 k3
  refine ⟨⟨?_, ?_⟩, ?_⟩
  · rw [Int32.lt_iff_toInt_lt, m5]; omega
  · rw [Int32.lt_iff_toInt_lt, m4]; omega
  · apply Int32.toInt_inj.mp
    omega
theorem d13_0 : decode jdk_33_method_22_code 0 = .ok (.iload_n 0, 1) := by decide +kernel
theorem d13_1 : decode jdk_33_method_22_code 1 = .ok (.bipush (-128), 2) := by decide +kernel
theorem d13_3 : decode jdk_33_method_22_code 3 = .ok (.if_icmp .lt 20, 3) := by decide +kernel
theorem d13_6 : decode jdk_33_method_22_code 6 = .ok (.iload_n 0, 1) := by decide +kernel
theorem d13_7 : decode jdk_33_method_22_code 7 = .ok (.getstatic 191, 3) := by decide +kernel
theorem d13_10 : decode jdk_33_method_22_code 10 = .ok (.if_icmp .gt 13, 3) := by decide +kernel
theorem d13_13 : decode jdk_33_method_22_code 13 = .ok (.getstatic 195, 3) := by decide +kernel
theorem d13_16 : decode jdk_33_method_22_code 16 = .ok (.iload_n 0, 1) := by decide +kernel
theorem d13_17 : decode jdk_33_method_22_code 17 = .ok (.sipush 128, 3) := by decide +kernel
theorem d13_20 : decode jdk_33_method_22_code 20 = .ok (.iadd, 1) := by decide +kernel
theorem d13_21 : decode jdk_33_method_22_code 21 = .ok (.aaload, 1) := by decide +kernel
theorem d13_22 : decode jdk_33_method_22_code 22 = .ok (.areturn, 1) := by decide +kernel
theorem d13_23 : decode jdk_33_method_22_code 23 = .ok (.new 1, 3) := by decide +kernel
theorem d13_26 : decode jdk_33_method_22_code 26 = .ok (.dup, 1) := by decide +kernel
theorem d13_27 : decode jdk_33_method_22_code 27 = .ok (.iload_n 0, 1) := by decide +kernel
theorem d13_28 : decode jdk_33_method_22_code 28 = .ok (.invokespecial 199, 3) := by decide +kernel
theorem d13_31 : decode jdk_33_method_22_code 31 = .ok (.areturn, 1) := by decide +kernel
theorem ef_riv (m : MethodId) (p1 : Int32) : entryFrame m #[(.int p1)] 1 = mkF m 0 #[.val (.int p1)] [] := by first | (simp [entryFrame, mkF, argsToLocals, Value.category]; done) | rfl
def Q_riv (Z : State) (p1 : Int32) (ica : Addr) (icc : Cell) (h0 : Heap) (n0 : Nat) (v : Option Value) (h : Heap) (L : List Loc) : Prop := (∃ b : Addr, v = some (.ref b) ∧ Exa Z h b "java/lang/Integer" ∧ Fld Z h b "java/lang/Integer" "value" "I" (.int p1)) ∧ Fr n0 L ∧ Keep h0 h []
set_option maxRecDepth 65536 in
set_option maxHeartbeats 40000000 in
theorem riv (l : Launch) (Z : State) (a0 : Array Value) (hw : ∀ d ∈ tables_1, d.before a0 Z = true) (ws : List Jvm.Cond) (p1 : Int32) (ica : Addr) (icc : Cell) (h0 : Heap) (n0 : Nat) (Z0 : n0 ≤ h0.size) (O0 : Old Z n0 h0) (S_high : Sta Z Z.heap "java/lang/Integer$IntegerCache" "high" "I" (.int (127 : Int32))) (S_icache : Sta Z Z.heap "java/lang/Integer$IntegerCache" "cache" "[Ljava/lang/Integer;" (.ref ica)) (B_icache : Bxs Z ica icc "java/lang/Integer" "I" (256 : Int32) (fun j => .int (j - (128 : Int32)))) :
    MetFree l (⟨"java/lang/Integer", "valueOf", "(I)Ljava/lang/Integer;"⟩ : MethodName) (head1 (Jvm.Cond.code (⟨"java/lang/Integer", "valueOf", "(I)Ljava/lang/Integer;"⟩ : MethodName) jdk_33_method_22_code 1 (some (.object "java/lang/Integer")) :: ws) ({ frames := 3, cells := 1, slots := 1, locals := 40 } : Room)) (fun a U => a = #[(.int p1)] ∧ Z.Warmed39 U.vm ∧ U.heap = h0) (fun _ _ _ _ _ => True) (fun _ U o U' => ∃ v L, o = .returned v ∧ Q_riv Z p1 ica icc h0 n0 v U'.heap L ∧ FrameEnd U o U' L ({ frames := 3, cells := 1, slots := 1, locals := 40 } : Room).cells ({ frames := 3, cells := 1, slots := 1, locals := 40 } : Room).slots) := by
  refine MetFree.of_bodySF (plainFor_of_name pn_26) hisR ?_
  intro p e s m args below meth c s₁ Bd hml0 hP hK
  obtain ⟨rfl, hZ, hh⟩ := hP
  have hx := Bd.exec
  have hby := Bd.bytes
  have hml : c.maxLocals = 1 := hml0
  have hown : s.vm.findClass "java/lang/Integer" = some m.cls := findClass_of_methodNamed Bd.named
  have hnm := (name_of_methodNamed Bd.named Bd.method).1
  have X0 : Stand p l e ({ frames := 3, cells := 1, slots := 1, locals := 40 } : Room) s m #[(.int p1)] below meth c s₁ [] 0 0 := Stand.of_body Bd
  have e0 : s₁.heap = h0 := by rw [← hh, Bd.state]; rfl
  have N0 := Fr.nil n0
  have pre0 : ∀ t, Steps p.tables e below (s₁.setTop (mkF m 0 #[.val (.int p1)] [])) t → Steps p.tables e below (s₁.setTop (entryFrame m #[(.int p1)] 1)) t := fun t k => castTop (ef_riv m p1) k
  change Go p.tables e below (fun o U' => ∃ v L, o = .returned v ∧ Q_riv Z p1 ica icc h0 n0 v U'.heap L ∧ FrameEnd s o U' L ({ frames := 3, cells := 1, slots := 1, locals := 40 } : Room).cells ({ frames := 3, cells := 1, slots := 1, locals := 40 } : Room).slots) (s₁.setTop (entryFrame m #[(.int p1)] 1))
  have K0 := Keep.refl h0 []
  have S0 := S_icache.ext O0.2
  have S1 := S_high.ext O0.2
  refine Go.on pre0 ?_
  refine Go.on (B := s₁.setTop (mkF m 1 #[.val (.int p1)] [(.int p1)])) (fun t k => XS.iloadN X0.here hx rfl (hb hby d13_0) rfl k) ?_
  refine Go.on (B := s₁.setTop (mkF m 3 #[.val (.int p1)] [(.int (-128 : Int32)), (.int p1)])) (fun t k => XS.bipush X0.here hx rfl (hb hby d13_1) k) ?_
  by_cases hc3_1 : p1 < (-128 : Int32)
  · refine Go.on (B := s₁.setTop (mkF m 23 #[.val (.int p1)] [])) (fun t k => XS.icmpYes X0.here hx rfl (pc0 := 3) (pc' := 23) rfl (hb hby d13_3) rfl (tlt hc3_1).1 (by decide) (by decide) k) ?_
    obtain ⟨T2, h2, X2, e2, Xe2, A2, D2, Ue2, st2⟩ := newO X0 hx hZ hown (hw _ (List.mem_of_getElem? (i := 147) rfl)) (hw _ (List.mem_of_getElem? (i := 148) rfl)) (hw _ (List.mem_of_getElem? (i := 123) rfl)) e0 (g := (mkF m 23 #[.val (.int p1)] [])) rfl (hb hby d13_23) (by decide) (by decide)
    obtain ⟨b2, gq2⟩ : ∃ z, z = h0.size := ⟨_, rfl⟩
    rw [← gq2] at A2 D2 Ue2 st2
    have ge_b2 : n0 ≤ b2 := Nat.le_trans Z0 (Nat.le_of_eq gq2.symm)
    have sz_b2 : h0.size ≤ b2 := Nat.le_trans K0.1 (Nat.le_of_eq gq2.symm)
    have f1 := S0.ext Xe2
    have f2 := S1.ext Xe2
    have Zs3 := Nat.le_trans Z0 Xe2.1
    have K4 := K0.ext Xe2
    have Un2 : Unt h2 b2 := Ue2
    have F2_value : Fld Z h2 b2 "java/lang/Integer" "value" "I" (.int (0 : Int32)) := D2 (Or.inr (hw _ (List.mem_of_getElem? (i := 161) rfl))) (ty := .int) (by decide)
    refine Go.on (B := T2.setTop (mkF m 26 #[.val (.int p1)] [(.ref b2)])) (fun t k => st2 _ k) ?_
    refine Go.on (B := T2.setTop (mkF m 27 #[.val (.int p1)] [(.ref b2), (.ref b2)])) (fun t k => XS.dup X2.here hx rfl (hb hby d13_26) rfl rfl k) ?_
    refine Go.on (B := T2.setTop (mkF m 28 #[.val (.int p1)] [(.int p1), (.ref b2), (.ref b2)])) (fun t k => XS.iloadN X2.here hx rfl (hb hby d13_27) rfl k) ?_
    obtain ⟨_, _, ⟨T3, L3, k3, n3⟩, -, X3, ⟨Lc3, hQ3, l3, y3, z3⟩, st3⟩ := X2.specialBack hx (y := (⟨"java/lang/Integer", "<init>", "(I)V"⟩ : MethodName)) rfl hown (mvT hZ (hw _ (List.mem_of_getElem? (i := 149) rfl))) (mvT hZ (hw _ (List.mem_of_getElem? (i := 150) rfl))) (mvT hZ (hw _ (List.mem_of_getElem? (i := 152) rfl))) (by decide) (backOf (W := 1) (rii l Z a0 hw [] b2 p1 h2 n0 Zs3 A2 F2_value ge_b2) hZ (hw _ (List.mem_of_getElem? (i := 152) rfl)) (hw _ (List.mem_of_getElem? (i := 123) rfl)) (by decide) (by decide)) (g := (mkF m 28 #[.val (.int p1)] [(.int p1), (.ref b2), (.ref b2)])) rfl (by rw [hml]; rfl) (Steps.refl _) (a := b2) (argsL := [(.int p1)]) (rest := [(.ref b2)]) (lenOf pd_2 rfl) rfl (by show 2 * 0 + _ ≤ _; exact Nat.le_of_eq rfl) (hb hby d13_28) (fun _ _ => ⟨rfl, e2, (by decide : 1 + 0 ≤ _), (by decide : 1 + 0 ≤ _)⟩)
    dsimp only [Pt.U, Pt.locs, Pt.cells, Pt.slots] at X3 l3 y3 z3 st3 hQ3
    subst l3 y3 z3
    obtain ⟨rfl, N3q, K3q, G3_0, G3_1⟩ := hQ3
    have N3 := Fr.app N0 N3q
    have f5 := A2.keep K3q
    have Zs6 := Nat.le_trans Zs3 K3q.1
    have K7 := K4.trans K3q (allS (Or.inr sz_b2) all0)
    refine Go.on (B := T3.setTop (mkF m 31 #[.val (.int p1)] [(.ref b2)])) (fun t k => st3.trans k) ?_
    obtain ⟨fs, hr, hrun, hended, hW, hsame⟩ := X3.leave (v := some (.ref b2)) (fun h => by rw [Bd.returns] at h; cases h)
    refine ⟨_, _, ?_, hrun, hended, _, _, rfl, ?_, ⟨_, rfl⟩, hW, hsame.mono (by decide) (by decide)⟩
    · exact retOut X3 hx Bd.returns rfl (Or.inr (Or.inr (Or.inr (Or.inr ⟨rfl, rfl, rfl⟩)))) (hb hby d13_31) hr
    · show Q_riv Z p1 ica icc h0 n0 _ T3.heap _
      exact ⟨⟨_, rfl, G3_0, G3_1⟩, N3, K7⟩
  · refine Go.on (B := s₁.setTop (mkF m 6 #[.val (.int p1)] [])) (fun t k => XS.icmpNo X0.here hx rfl (hb hby d13_3) rfl (flt hc3_1).1 k) ?_
    refine Go.on (B := s₁.setTop (mkF m 7 #[.val (.int p1)] [(.int p1)])) (fun t k => XS.iloadN X0.here hx rfl (hb hby d13_6) rfl k) ?_
    obtain ⟨T4, X4, e4, st4⟩ := getS2 X0 hx hZ hown (host := "") (Or.inl (hw _ (List.mem_of_getElem? (i := 125) rfl))) Via.refl e0 S1 (g := (mkF m 7 #[.val (.int p1)] [(.int p1)])) rfl (hb hby d13_7)
    refine Go.on (B := T4.setTop (mkF m 10 #[.val (.int p1)] [(.int (127 : Int32)), (.int p1)])) (fun t k => st4 _ k) ?_
    by_cases hc10_5 : (127 : Int32) < p1
    · refine Go.on (B := T4.setTop (mkF m 23 #[.val (.int p1)] [])) (fun t k => XS.icmpYes X4.here hx rfl (pc0 := 10) (pc' := 23) rfl (hb hby d13_10) rfl (tlt hc10_5).2.2.1 (by decide) (by decide) k) ?_
      obtain ⟨T6, h6, X6, e6, Xe6, A6, D6, Ue6, st6⟩ := newO X4 hx hZ hown (hw _ (List.mem_of_getElem? (i := 147) rfl)) (hw _ (List.mem_of_getElem? (i := 148) rfl)) (hw _ (List.mem_of_getElem? (i := 123) rfl)) e4 (g := (mkF m 23 #[.val (.int p1)] [])) rfl (hb hby d13_23) (by decide) (by decide)
      obtain ⟨b6, gq6⟩ : ∃ z, z = h0.size := ⟨_, rfl⟩
      rw [← gq6] at A6 D6 Ue6 st6
      have ge_b6 : n0 ≤ b6 := Nat.le_trans Z0 (Nat.le_of_eq gq6.symm)
      have sz_b6 : h0.size ≤ b6 := Nat.le_trans K0.1 (Nat.le_of_eq gq6.symm)
      have f8 := S0.ext Xe6
      have f9 := S1.ext Xe6
      have Zs10 := Nat.le_trans Z0 Xe6.1
      have K11 := K0.ext Xe6
      have Un6 : Unt h6 b6 := Ue6
      have F6_value : Fld Z h6 b6 "java/lang/Integer" "value" "I" (.int (0 : Int32)) := D6 (Or.inr (hw _ (List.mem_of_getElem? (i := 161) rfl))) (ty := .int) (by decide)
      refine Go.on (B := T6.setTop (mkF m 26 #[.val (.int p1)] [(.ref b6)])) (fun t k => st6 _ k) ?_
      refine Go.on (B := T6.setTop (mkF m 27 #[.val (.int p1)] [(.ref b6), (.ref b6)])) (fun t k => XS.dup X6.here hx rfl (hb hby d13_26) rfl rfl k) ?_
      refine Go.on (B := T6.setTop (mkF m 28 #[.val (.int p1)] [(.int p1), (.ref b6), (.ref b6)])) (fun t k => XS.iloadN X6.here hx rfl (hb hby d13_27) rfl k) ?_
      obtain ⟨_, _, ⟨T7, L7, k7, n7⟩, -, X7, ⟨Lc7, hQ7, l7, y7, z7⟩, st7⟩ := X6.specialBack hx (y := (⟨"java/lang/Integer", "<init>", "(I)V"⟩ : MethodName)) rfl hown (mvT hZ (hw _ (List.mem_of_getElem? (i := 149) rfl))) (mvT hZ (hw _ (List.mem_of_getElem? (i := 150) rfl))) (mvT hZ (hw _ (List.mem_of_getElem? (i := 152) rfl))) (by decide) (backOf (W := 1) (rii l Z a0 hw [] b6 p1 h6 n0 Zs10 A6 F6_value ge_b6) hZ (hw _ (List.mem_of_getElem? (i := 152) rfl)) (hw _ (List.mem_of_getElem? (i := 123) rfl)) (by decide) (by decide)) (g := (mkF m 28 #[.val (.int p1)] [(.int p1), (.ref b6), (.ref b6)])) rfl (by rw [hml]; rfl) (Steps.refl _) (a := b6) (argsL := [(.int p1)]) (rest := [(.ref b6)]) (lenOf pd_2 rfl) rfl (by show 2 * 0 + _ ≤ _; exact Nat.le_of_eq rfl) (hb hby d13_28) (fun _ _ => ⟨rfl, e6, (by decide : 1 + 0 ≤ _), (by decide : 1 + 0 ≤ _)⟩)
      dsimp only [Pt.U, Pt.locs, Pt.cells, Pt.slots] at X7 l7 y7 z7 st7 hQ7
      subst l7 y7 z7
      obtain ⟨rfl, N7q, K7q, G7_0, G7_1⟩ := hQ7
      have N7 := Fr.app N0 N7q
      have f12 := A6.keep K7q
      have Zs13 := Nat.le_trans Zs10 K7q.1
      have K14 := K11.trans K7q (allS (Or.inr sz_b6) all0)
      refine Go.on (B := T7.setTop (mkF m 31 #[.val (.int p1)] [(.ref b6)])) (fun t k => st7.trans k) ?_
      obtain ⟨fs, hr, hrun, hended, hW, hsame⟩ := X7.leave (v := some (.ref b6)) (fun h => by rw [Bd.returns] at h; cases h)
      refine ⟨_, _, ?_, hrun, hended, _, _, rfl, ?_, ⟨_, rfl⟩, hW, hsame.mono (by decide) (by decide)⟩
      · exact retOut X7 hx Bd.returns rfl (Or.inr (Or.inr (Or.inr (Or.inr ⟨rfl, rfl, rfl⟩)))) (hb hby d13_31) hr
      · show Q_riv Z p1 ica icc h0 n0 _ T7.heap _
        exact ⟨⟨_, rfl, G7_0, G7_1⟩, N7, K14⟩
    · refine Go.on (B := T4.setTop (mkF m 13 #[.val (.int p1)] [])) (fun t k => XS.icmpNo X4.here hx rfl (hb hby d13_10) rfl (flt hc10_5).2.2.1 k) ?_
      obtain ⟨T8, X8, e8, st8⟩ := getS2 X4 hx hZ hown (host := "") (Or.inl (hw _ (List.mem_of_getElem? (i := 127) rfl))) Via.refl e4 S0 (g := (mkF m 13 #[.val (.int p1)] [])) rfl (hb hby d13_13)
      refine Go.on (B := T8.setTop (mkF m 16 #[.val (.int p1)] [(.ref ica)])) (fun t k => st8 _ k) ?_
      refine Go.on (B := T8.setTop (mkF m 17 #[.val (.int p1)] [(.int p1), (.ref ica)])) (fun t k => XS.iloadN X8.here hx rfl (hb hby d13_16) rfl k) ?_
      refine Go.on (B := T8.setTop (mkF m 20 #[.val (.int p1)] [(.int (128 : Int32)), (.int p1), (.ref ica)])) (fun t k => XS.sipush X8.here hx rfl (hb hby d13_17) k) ?_
      refine Go.on (B := T8.setTop (mkF m 21 #[.val (.int p1)] [(.int (p1 + (128 : Int32))), (.ref ica)])) (fun t k => XS.iadd X8.here hx rfl (hb hby d13_20) rfl k) ?_
      have hidx := inb_of B_icache.2.1 (own_ixi p1 hc3_1 hc10_5).1
      obtain ⟨box, hbx, Ebx, Fbx⟩ := B_icache.2.2.2 (p1 + (128 : Int32)) hidx
      have Arx := B_icache.1.ext O0.2
      refine Go.on (B := T8.setTop (mkF m 22 #[.val (.int p1)] [(.ref box)])) (fun t k => X8.aaload hx (j := (p1 + (128 : Int32))) (v := (.ref box)) (by rw [e8]; exact Arx.1) (State.isArrayOf_alike hZ.alike Arx.2.1) rfl Arx.2.2 hidx hbx (g := (mkF m 21 #[.val (.int p1)] [(.int (p1 + (128 : Int32))), (.ref ica)])) rfl rfl (hb hby d13_21) _ k) ?_
      obtain ⟨fs, hr, hrun, hended, hW, hsame⟩ := X8.leave (v := some (.ref box)) (fun h => by rw [Bd.returns] at h; cases h)
      refine ⟨_, _, ?_, hrun, hended, _, _, rfl, ?_, ⟨_, rfl⟩, hW, hsame.mono (by decide) (by decide)⟩
      · exact retOut X8 hx Bd.returns rfl (Or.inr (Or.inr (Or.inr (Or.inr ⟨rfl, rfl, rfl⟩)))) (hb hby d13_22) hr
      · show Q_riv Z p1 ica icc h0 n0 _ T8.heap _
        rw [e8]
        exact ⟨⟨_, rfl, (Ebx.ext O0.2), ((congrArg Value.int (own_ixi p1 hc3_1 hc10_5).2) ▸ (Fbx.ext O0.2))⟩, N0, K0⟩
theorem d15_0 : decode jdk_2729_method_19_code 0 = .ok (.aload_n 0, 1) := by decide +kernel
theorem d15_1 : decode jdk_2729_method_19_code 1 = .ok (.getfield 101, 3) := by decide +kernel
theorem d15_4 : decode jdk_2729_method_19_code 4 = .ok (.astore_n 2, 1) := by decide +kernel
theorem d15_5 : decode jdk_2729_method_19_code 5 = .ok (.aload_n 2, 1) := by decide +kernel
theorem d15_6 : decode jdk_2729_method_19_code 6 = .ok (.ifnull 93, 3) := by decide +kernel
theorem d15_99 : decode jdk_2729_method_19_code 99 = .ok (.aconst_null, 1) := by decide +kernel
theorem d15_100 : decode jdk_2729_method_19_code 100 = .ok (.areturn, 1) := by decide +kernel
theorem ef_rghe (m : MethodId) (a1 : Addr) (a2 : Addr) : entryFrame m #[(.ref a1), (.ref a2)] 6 = mkF m 0 #[.val (.ref a1), .val (.ref a2), .unset, .unset, .unset, .unset] [] := by first | (simp [entryFrame, mkF, argsToLocals, Value.category]; done) | rfl
def Q_rghe (Z : State) (a1 : Addr) (a2 : Addr) (h0 : Heap) (n0 : Nat) (v : Option Value) (h : Heap) (L : List Loc) : Prop := v = some .null ∧ Fr n0 L ∧ h = h0
set_option maxRecDepth 65536 in
set_option maxHeartbeats 40000000 in
theorem rghe (l : Launch) (Z : State) (a0 : Array Value) (hw : ∀ d ∈ tables_1, d.before a0 Z = true) (ws : List Jvm.Cond) (a1 : Addr) (a2 : Addr) (h0 : Heap) (n0 : Nat) (Z0 : n0 ≤ h0.size) (E1 : Exa Z h0 a1 "java/util/TreeMap") (F_root : Fld Z h0 a1 "java/util/TreeMap" "root" "Ljava/util/TreeMap$Entry;" .null) :
    MetFree l (⟨"java/util/TreeMap", "getHigherEntry", "(Ljava/lang/Object;)Ljava/util/TreeMap$Entry;"⟩ : MethodName) (head1 (Jvm.Cond.code (⟨"java/util/TreeMap", "getHigherEntry", "(Ljava/lang/Object;)Ljava/util/TreeMap$Entry;"⟩ : MethodName) jdk_2729_method_19_code 6 (some (.object "java/util/TreeMap$Entry")) :: ws) ({ frames := 0, cells := 0, slots := 0, locals := 0 } : Room)) (fun a U => a = #[(.ref a1), (.ref a2)] ∧ Z.Warmed39 U.vm ∧ U.heap = h0) (fun _ _ _ _ _ => True) (fun _ U o U' => ∃ v L, o = .returned v ∧ Q_rghe Z a1 a2 h0 n0 v U'.heap L ∧ FrameEnd U o U' L ({ frames := 0, cells := 0, slots := 0, locals := 0 } : Room).cells ({ frames := 0, cells := 0, slots := 0, locals := 0 } : Room).slots) := by
  refine MetFree.of_bodySF (plainFor_of_name pn_15) hisR ?_
  intro p e s m args below meth c s₁ Bd hml0 hP hK
  obtain ⟨rfl, hZ, hh⟩ := hP
  have hx := Bd.exec
  have hby := Bd.bytes
  have hml : c.maxLocals = 6 := hml0
  have hown : s.vm.findClass "java/util/TreeMap" = some m.cls := findClass_of_methodNamed Bd.named
  have hnm := (name_of_methodNamed Bd.named Bd.method).1
  have X0 : Stand p l e ({ frames := 0, cells := 0, slots := 0, locals := 0 } : Room) s m #[(.ref a1), (.ref a2)] below meth c s₁ [] 0 0 := Stand.of_body Bd
  have e0 : s₁.heap = h0 := by rw [← hh, Bd.state]; rfl
  have N0 := Fr.nil n0
  have pre0 : ∀ t, Steps p.tables e below (s₁.setTop (mkF m 0 #[.val (.ref a1), .val (.ref a2), .unset, .unset, .unset, .unset] [])) t → Steps p.tables e below (s₁.setTop (entryFrame m #[(.ref a1), (.ref a2)] 6)) t := fun t k => castTop (ef_rghe m a1 a2) k
  change Go p.tables e below (fun o U' => ∃ v L, o = .returned v ∧ Q_rghe Z a1 a2 h0 n0 v U'.heap L ∧ FrameEnd s o U' L ({ frames := 0, cells := 0, slots := 0, locals := 0 } : Room).cells ({ frames := 0, cells := 0, slots := 0, locals := 0 } : Room).slots) (s₁.setTop (entryFrame m #[(.ref a1), (.ref a2)] 6))
  refine Go.on pre0 ?_
  refine Go.on (B := s₁.setTop (mkF m 1 #[.val (.ref a1), .val (.ref a2), .unset, .unset, .unset, .unset] [(.ref a1)])) (fun t k => XS.aloadN X0.here hx rfl (hb hby d15_0) rfl rfl k) ?_
  obtain ⟨T1, X1, e1, st1⟩ := getF X0 hx hZ hown (host := "") (Or.inl (hw _ (List.mem_of_getElem? (i := 142) rfl))) Via.refl e0 F_root (g := (mkF m 1 #[.val (.ref a1), .val (.ref a2), .unset, .unset, .unset, .unset] [(.ref a1)])) rfl rfl (hb hby d15_1)
  refine Go.on (B := T1.setTop (mkF m 4 #[.val (.ref a1), .val (.ref a2), .unset, .unset, .unset, .unset] [.null])) (fun t k => st1 _ k) ?_
  refine Go.on (B := T1.setTop (mkF m 5 #[.val (.ref a1), .val (.ref a2), .val .null, .unset, .unset, .unset] [])) (fun t k => XS.astoreN X1.here hx rfl (hb hby d15_4) rfl rfl (l' := #[.val (.ref a1), .val (.ref a2), .val .null, .unset, .unset, .unset]) rfl k) ?_
  refine Go.on (B := T1.setTop (mkF m 6 #[.val (.ref a1), .val (.ref a2), .val .null, .unset, .unset, .unset] [.null])) (fun t k => XS.aloadN X1.here hx rfl (hb hby d15_5) rfl rfl k) ?_
  refine Go.on (B := T1.setTop (mkF m 99 #[.val (.ref a1), .val (.ref a2), .val .null, .unset, .unset, .unset] [])) (fun t k => XS.ifnullYes X1.here hx rfl (pc0 := 6) (pc' := 99) rfl (hb hby d15_6) rfl (by decide) (by decide) k) ?_
  refine Go.on (B := T1.setTop (mkF m 100 #[.val (.ref a1), .val (.ref a2), .val .null, .unset, .unset, .unset] [.null])) (fun t k => XS.aconstNull X1.here hx rfl (hb hby d15_99) k) ?_
  obtain ⟨fs, hr, hrun, hended, hW, hsame⟩ := X1.leave (v := some .null) (fun h => by rw [Bd.returns] at h; cases h)
  refine ⟨_, _, ?_, hrun, hended, _, _, rfl, ?_, ⟨_, rfl⟩, hW, hsame.mono (by decide) (by decide)⟩
  · exact retOut X1 hx Bd.returns rfl (Or.inr (Or.inr (Or.inr (Or.inr ⟨rfl, rfl, rfl⟩)))) (hb hby d15_100) hr
  · show Q_rghe Z a1 a2 h0 n0 _ T1.heap _
    rw [e1]
    exact ⟨rfl, N0, rfl⟩
theorem d16_0 : decode jdk_2729_method_70_code 0 = .ok (.aload_n 0, 1) := by decide +kernel
theorem d16_1 : decode jdk_2729_method_70_code 1 = .ok (.ifnonnull 7, 3) := by decide +kernel
theorem d16_4 : decode jdk_2729_method_70_code 4 = .ok (.aconst_null, 1) := by decide +kernel
theorem d16_5 : decode jdk_2729_method_70_code 5 = .ok (.goto 7, 3) := by decide +kernel
theorem d16_12 : decode jdk_2729_method_70_code 12 = .ok (.areturn, 1) := by decide +kernel
theorem ef_rkon (m : MethodId)  : entryFrame m #[.null] 1 = mkF m 0 #[.val .null] [] := by first | (simp [entryFrame, mkF, argsToLocals, Value.category]; done) | rfl
def Q_rkon (Z : State)  (h0 : Heap) (n0 : Nat) (v : Option Value) (h : Heap) (L : List Loc) : Prop := v = some .null ∧ Fr n0 L ∧ h = h0
set_option maxRecDepth 65536 in
set_option maxHeartbeats 40000000 in
theorem rkon (l : Launch) (Z : State) (a0 : Array Value) (hw : ∀ d ∈ tables_1, d.before a0 Z = true) (ws : List Jvm.Cond)  (h0 : Heap) (n0 : Nat) (Z0 : n0 ≤ h0.size)  :
    MetFree l (⟨"java/util/TreeMap", "keyOrNull", "(Ljava/util/TreeMap$Entry;)Ljava/lang/Object;"⟩ : MethodName) (head1 (Jvm.Cond.code (⟨"java/util/TreeMap", "keyOrNull", "(Ljava/util/TreeMap$Entry;)Ljava/lang/Object;"⟩ : MethodName) jdk_2729_method_70_code 1 (some (.object "java/lang/Object")) :: ws) ({ frames := 0, cells := 0, slots := 0, locals := 0 } : Room)) (fun a U => a = #[.null] ∧ Z.Warmed39 U.vm ∧ U.heap = h0) (fun _ _ _ _ _ => True) (fun _ U o U' => ∃ v L, o = .returned v ∧ Q_rkon Z  h0 n0 v U'.heap L ∧ FrameEnd U o U' L ({ frames := 0, cells := 0, slots := 0, locals := 0 } : Room).cells ({ frames := 0, cells := 0, slots := 0, locals := 0 } : Room).slots) := by
  refine MetFree.of_bodySF (plainFor_of_name pn_15) hisR ?_
  intro p e s m args below meth c s₁ Bd hml0 hP hK
  obtain ⟨rfl, hZ, hh⟩ := hP
  have hx := Bd.exec
  have hby := Bd.bytes
  have hml : c.maxLocals = 1 := hml0
  have hown : s.vm.findClass "java/util/TreeMap" = some m.cls := findClass_of_methodNamed Bd.named
  have hnm := (name_of_methodNamed Bd.named Bd.method).1
  have X0 : Stand p l e ({ frames := 0, cells := 0, slots := 0, locals := 0 } : Room) s m #[.null] below meth c s₁ [] 0 0 := Stand.of_body Bd
  have e0 : s₁.heap = h0 := by rw [← hh, Bd.state]; rfl
  have N0 := Fr.nil n0
  have pre0 : ∀ t, Steps p.tables e below (s₁.setTop (mkF m 0 #[.val .null] [])) t → Steps p.tables e below (s₁.setTop (entryFrame m #[.null] 1)) t := fun t k => castTop (ef_rkon m ) k
  change Go p.tables e below (fun o U' => ∃ v L, o = .returned v ∧ Q_rkon Z  h0 n0 v U'.heap L ∧ FrameEnd s o U' L ({ frames := 0, cells := 0, slots := 0, locals := 0 } : Room).cells ({ frames := 0, cells := 0, slots := 0, locals := 0 } : Room).slots) (s₁.setTop (entryFrame m #[.null] 1))
  refine Go.on pre0 ?_
  refine Go.on (B := s₁.setTop (mkF m 1 #[.val .null] [.null])) (fun t k => XS.aloadN X0.here hx rfl (hb hby d16_0) rfl rfl k) ?_
  refine Go.on (B := s₁.setTop (mkF m 4 #[.val .null] [])) (fun t k => XS.ifnonnullNo X0.here hx rfl (hb hby d16_1) rfl k) ?_
  refine Go.on (B := s₁.setTop (mkF m 5 #[.val .null] [.null])) (fun t k => XS.aconstNull X0.here hx rfl (hb hby d16_4) k) ?_
  refine Go.on (B := s₁.setTop (mkF m 12 #[.val .null] [.null])) (fun t k => XS.goto X0.here hx rfl (pc0 := 5) (pc' := 12) rfl (hb hby d16_5) (by decide) (by decide) k) ?_
  obtain ⟨fs, hr, hrun, hended, hW, hsame⟩ := X0.leave (v := some .null) (fun h => by rw [Bd.returns] at h; cases h)
  refine ⟨_, _, ?_, hrun, hended, _, _, rfl, ?_, ⟨_, rfl⟩, hW, hsame.mono (by decide) (by decide)⟩
  · exact retOut X0 hx Bd.returns rfl (Or.inr (Or.inr (Or.inr (Or.inr ⟨rfl, rfl, rfl⟩)))) (hb hby d16_12) hr
  · show Q_rkon Z  h0 n0 _ s₁.heap _
    rw [e0]
    exact ⟨rfl, N0, rfl⟩
theorem d14_0 : decode jdk_2729_method_48_code 0 = .ok (.aload_n 0, 1) := by decide +kernel
theorem d14_1 : decode jdk_2729_method_48_code 1 = .ok (.aload_n 1, 1) := by decide +kernel
theorem d14_2 : decode jdk_2729_method_48_code 2 = .ok (.invokevirtual 216, 3) := by decide +kernel
theorem d14_5 : decode jdk_2729_method_48_code 5 = .ok (.invokestatic 207, 3) := by decide +kernel
theorem d14_8 : decode jdk_2729_method_48_code 8 = .ok (.areturn, 1) := by decide +kernel
theorem pd_3 : parseMethodDescriptor "(Ljava/lang/Object;)Ljava/util/TreeMap$Entry;" = some ⟨[(.object "java/lang/Object")], some (.object "java/util/TreeMap$Entry")⟩ := by decide +kernel
theorem pd_4 : parseMethodDescriptor "(Ljava/util/TreeMap$Entry;)Ljava/lang/Object;" = some ⟨[(.object "java/util/TreeMap$Entry")], some (.object "java/lang/Object")⟩ := by decide +kernel
theorem ef_rhk (m : MethodId) (a1 : Addr) (a2 : Addr) : entryFrame m #[(.ref a1), (.ref a2)] 2 = mkF m 0 #[.val (.ref a1), .val (.ref a2)] [] := by first | (simp [entryFrame, mkF, argsToLocals, Value.category]; done) | rfl
def Q_rhk (Z : State) (a1 : Addr) (a2 : Addr) (h0 : Heap) (n0 : Nat) (v : Option Value) (h : Heap) (L : List Loc) : Prop := v = some .null ∧ Fr n0 L ∧ h = h0
set_option maxRecDepth 65536 in
set_option maxHeartbeats 40000000 in
theorem rhk (l : Launch) (Z : State) (a0 : Array Value) (hw : ∀ d ∈ tables_1, d.before a0 Z = true) (ws : List Jvm.Cond) (a1 : Addr) (a2 : Addr) (h0 : Heap) (n0 : Nat) (Z0 : n0 ≤ h0.size) (E1 : Exa Z h0 a1 "java/util/TreeMap") (F_root : Fld Z h0 a1 "java/util/TreeMap" "root" "Ljava/util/TreeMap$Entry;" .null) :
    MetFree l (⟨"java/util/TreeMap", "higherKey", "(Ljava/lang/Object;)Ljava/lang/Object;"⟩ : MethodName) (head1 (Jvm.Cond.code (⟨"java/util/TreeMap", "higherKey", "(Ljava/lang/Object;)Ljava/lang/Object;"⟩ : MethodName) jdk_2729_method_48_code 2 (some (.object "java/lang/Object")) :: ws) ({ frames := 1, cells := 0, slots := 0, locals := 20 } : Room)) (fun a U => a = #[(.ref a1), (.ref a2)] ∧ Z.Warmed39 U.vm ∧ U.heap = h0) (fun _ _ _ _ _ => True) (fun _ U o U' => ∃ v L, o = .returned v ∧ Q_rhk Z a1 a2 h0 n0 v U'.heap L ∧ FrameEnd U o U' L ({ frames := 1, cells := 0, slots := 0, locals := 20 } : Room).cells ({ frames := 1, cells := 0, slots := 0, locals := 20 } : Room).slots) := by
  refine MetFree.of_bodySF (plainFor_of_name pn_15) hisR ?_
  intro p e s m args below meth c s₁ Bd hml0 hP hK
  obtain ⟨rfl, hZ, hh⟩ := hP
  have hx := Bd.exec
  have hby := Bd.bytes
  have hml : c.maxLocals = 2 := hml0
  have hown : s.vm.findClass "java/util/TreeMap" = some m.cls := findClass_of_methodNamed Bd.named
  have hnm := (name_of_methodNamed Bd.named Bd.method).1
  have X0 : Stand p l e ({ frames := 1, cells := 0, slots := 0, locals := 20 } : Room) s m #[(.ref a1), (.ref a2)] below meth c s₁ [] 0 0 := Stand.of_body Bd
  have e0 : s₁.heap = h0 := by rw [← hh, Bd.state]; rfl
  have N0 := Fr.nil n0
  have pre0 : ∀ t, Steps p.tables e below (s₁.setTop (mkF m 0 #[.val (.ref a1), .val (.ref a2)] [])) t → Steps p.tables e below (s₁.setTop (entryFrame m #[(.ref a1), (.ref a2)] 2)) t := fun t k => castTop (ef_rhk m a1 a2) k
  change Go p.tables e below (fun o U' => ∃ v L, o = .returned v ∧ Q_rhk Z a1 a2 h0 n0 v U'.heap L ∧ FrameEnd s o U' L ({ frames := 1, cells := 0, slots := 0, locals := 20 } : Room).cells ({ frames := 1, cells := 0, slots := 0, locals := 20 } : Room).slots) (s₁.setTop (entryFrame m #[(.ref a1), (.ref a2)] 2))
  refine Go.on pre0 ?_
  refine Go.on (B := s₁.setTop (mkF m 1 #[.val (.ref a1), .val (.ref a2)] [(.ref a1)])) (fun t k => XS.aloadN X0.here hx rfl (hb hby d14_0) rfl rfl k) ?_
  refine Go.on (B := s₁.setTop (mkF m 2 #[.val (.ref a1), .val (.ref a2)] [(.ref a2), (.ref a1)])) (fun t k => XS.aloadN X0.here hx rfl (hb hby d14_1) rfl rfl k) ?_
  obtain ⟨cq1, kq1, q1a, q1b, q1c⟩ := isOf hZ e0 E1
  obtain ⟨_, _, ⟨T1, L1, k1, n1⟩, -, X1, ⟨Lc1, hQ1, l1, y1, z1⟩, st1⟩ := X0.virtualBack hx (y := (⟨"java/util/TreeMap", "getHigherEntry", "(Ljava/lang/Object;)Ljava/util/TreeMap$Entry;"⟩ : MethodName)) (z := (⟨"java/util/TreeMap", "getHigherEntry", "(Ljava/lang/Object;)Ljava/util/TreeMap$Entry;"⟩ : MethodName)) hown (mvT hZ (hw _ (List.mem_of_getElem? (i := 137) rfl))) (mvT hZ (hw _ (List.mem_of_getElem? (i := 138) rfl))) (notFace_of_selects (args := #[]) (mvT hZ (hw _ (List.mem_of_getElem? (i := 140) rfl)))) (mvT hZ (hw _ (List.mem_of_getElem? (i := 140) rfl))) (mvT hZ (hw _ (List.mem_of_getElem? (i := 139) rfl))) (by decide) (backOf (W := 0) (rghe l Z a0 hw [] a1 a2 h0 n0 Z0 E1 F_root) hZ (hw _ (List.mem_of_getElem? (i := 141) rfl)) (hw _ (List.mem_of_getElem? (i := 35) rfl)) (by decide) (by decide)) q1a q1c (g := (mkF m 2 #[.val (.ref a1), .val (.ref a2)] [(.ref a2), (.ref a1)])) rfl (by rw [hml]; rfl) (Steps.refl _) (argsL := [(.ref a2)]) (rest := []) (lenOf pd_3 rfl) rfl (by show 2 * 0 + _ ≤ _; exact Nat.le_of_eq rfl) (hb hby d14_2) (fun _ _ => ⟨rfl, e0, (by decide : 0 + 0 ≤ _), (by decide : 0 + 0 ≤ _)⟩)
  dsimp only [Pt.U, Pt.locs, Pt.cells, Pt.slots] at X1 l1 y1 z1 st1 hQ1
  subst l1 y1 z1
  obtain ⟨rfl, N1q, e1q⟩ := hQ1
  have N1 := Fr.app N0 N1q
  refine Go.on (B := T1.setTop (mkF m 5 #[.val (.ref a1), .val (.ref a2)] [.null])) (fun t k => st1.trans k) ?_
  obtain ⟨_, _, ⟨T2, L2, k2, n2⟩, -, X2, ⟨Lc2, hQ2, l2, y2, z2⟩, st2⟩ := Jvm.LawKit.callS X1 hx (y := (⟨"java/util/TreeMap", "keyOrNull", "(Ljava/util/TreeMap$Entry;)Ljava/lang/Object;"⟩ : MethodName)) hown (mvT hZ (hw _ (List.mem_of_getElem? (i := 144) rfl))) (mvT hZ (hw _ (List.mem_of_getElem? (i := 145) rfl))) (mvT hZ (hw _ (List.mem_of_getElem? (i := 35) rfl))) (mvT hZ (hw _ (List.mem_of_getElem? (i := 146) rfl))) (by decide) (backOf (W := 0) (rkon l Z a0 hw []  h0 n0 Z0) hZ (hw _ (List.mem_of_getElem? (i := 146) rfl)) (hw _ (List.mem_of_getElem? (i := 35) rfl)) (by decide) (by decide)) (g := (mkF m 5 #[.val (.ref a1), .val (.ref a2)] [.null])) rfl (by rw [hml]; rfl) (argsL := [.null]) (rest := []) (lenOf pd_4 rfl) rfl (by show 2 * 0 + _ ≤ _; exact Nat.le_of_eq rfl) (hb hby d14_5) (fun _ _ => ⟨rfl, e1q, (by decide : 0 + 0 ≤ _), (by decide : 0 + 0 ≤ _)⟩)
  dsimp only [Pt.U, Pt.locs, Pt.cells, Pt.slots] at X2 l2 y2 z2 st2 hQ2
  subst l2 y2 z2
  obtain ⟨rfl, N2q, e2q⟩ := hQ2
  have N2 := Fr.app N1 N2q
  refine Go.on (B := T2.setTop (mkF m 8 #[.val (.ref a1), .val (.ref a2)] [.null])) (fun t k => st2 _ k) ?_
  obtain ⟨fs, hr, hrun, hended, hW, hsame⟩ := X2.leave (v := some .null) (fun h => by rw [Bd.returns] at h; cases h)
  refine ⟨_, _, ?_, hrun, hended, _, _, rfl, ?_, ⟨_, rfl⟩, hW, hsame.mono (by decide) (by decide)⟩
  · exact retOut X2 hx Bd.returns rfl (Or.inr (Or.inr (Or.inr (Or.inr ⟨rfl, rfl, rfl⟩)))) (hb hby d14_8) hr
  · show Q_rhk Z a1 a2 h0 n0 _ T2.heap _
    rw [e2q]
    exact ⟨rfl, N2, rfl⟩
theorem d19_0 : decode prog_12_method_6_code 0 = .ok (.aload_n 0, 1) := by decide +kernel
theorem d19_1 : decode prog_12_method_6_code 1 = .ok (.getfield 39, 3) := by decide +kernel
theorem d19_4 : decode prog_12_method_6_code 4 = .ok (.dup, 1) := by decide +kernel
theorem d19_5 : decode prog_12_method_6_code 5 = .ok (.astore_n 1, 1) := by decide +kernel
theorem d19_6 : decode prog_12_method_6_code 6 = .ok (.monitorenter, 1) := by decide +kernel
theorem d19_7 : decode prog_12_method_6_code 7 = .ok (.aload_n 0, 1) := by decide +kernel
theorem d19_8 : decode prog_12_method_6_code 8 = .ok (.getfield 81, 3) := by decide +kernel
theorem d19_11 : decode prog_12_method_6_code 11 = .ok (.aload_n 1, 1) := by decide +kernel
theorem d19_12 : decode prog_12_method_6_code 12 = .ok (.monitorexit, 1) := by decide +kernel
theorem d19_13 : decode prog_12_method_6_code 13 = .ok (.ireturn, 1) := by decide +kernel
theorem ef_rcur (m : MethodId) (a1 : Addr) : entryFrame m #[(.ref a1)] 3 = mkF m 0 #[.val (.ref a1), .unset, .unset] [] := by first | (simp [entryFrame, mkF, argsToLocals, Value.category]; done) | rfl
def Q_rcur (Z : State) (a1 : Addr) (a2 : Addr) (p3 : Int32) (h0 : Heap) (n0 : Nat) (v : Option Value) (h : Heap) (L : List Loc) : Prop := v = some (.int p3) ∧ Fr n0 L ∧ Keep h0 h []
set_option maxRecDepth 65536 in
set_option maxHeartbeats 40000000 in
theorem rcur (l : Launch) (Z : State) (a0 : Array Value) (hw : ∀ d ∈ tables_1, d.before a0 Z = true) (ws : List Jvm.Cond) (a1 : Addr) (a2 : Addr) (p3 : Int32) (h0 : Heap) (n0 : Nat) (Z0 : n0 ≤ h0.size) (E1 : Exa Z h0 a1 "com/example/windlass/windlass/LevelRegistry") (F_lock : Fld Z h0 a1 "com/example/windlass/windlass/LevelRegistry" "lock" "Ljava/lang/Object;" (.ref a2)) (F_current : Fld Z h0 a1 "com/example/windlass/windlass/LevelRegistry" "current" "I" (.int p3)) (U2 : Unt h0 a2) (hne : a1 ≠ a2) :
    MetFree l (⟨"com/example/windlass/windlass/LevelRegistry", "current", "()I"⟩ : MethodName) (head1 (Jvm.Cond.codeWith (⟨"com/example/windlass/windlass/LevelRegistry", "current", "()I"⟩ : MethodName) prog_12_method_6_code 3 (some .int) [(7, 13, 14, 0), (14, 17, 14, 0)] :: ws) ({ frames := 0, cells := 0, slots := 0, locals := 4 } : Room)) (fun a U => a = #[(.ref a1)] ∧ Z.Warmed39 U.vm ∧ U.heap = h0) (fun _ _ _ _ _ => True) (fun _ U o U' => ∃ v L, o = .returned v ∧ Q_rcur Z a1 a2 p3 h0 n0 v U'.heap L ∧ FrameEnd U o U' L ({ frames := 0, cells := 0, slots := 0, locals := 4 } : Room).cells ({ frames := 0, cells := 0, slots := 0, locals := 4 } : Room).slots) := by
  refine MetFree.of_bodySF (plainFor_of_name pn_21) hisWith ?_
  intro p e s m args below meth c s₁ Bd hml0 hP hK
  obtain ⟨rfl, hZ, hh⟩ := hP
  have hx := Bd.exec
  have hby := Bd.bytes
  have hml : c.maxLocals = 3 := hml0
  have hown : s.vm.findClass "com/example/windlass/windlass/LevelRegistry" = some m.cls := findClass_of_methodNamed Bd.named
  have hnm := (name_of_methodNamed Bd.named Bd.method).1
  have X0 : Stand p l e ({ frames := 0, cells := 0, slots := 0, locals := 4 } : Room) s m #[(.ref a1)] below meth c s₁ [] 0 0 := Stand.of_body Bd
  have e0 : s₁.heap = h0 := by rw [← hh, Bd.state]; rfl
  have N0 := Fr.nil n0
  have pre0 : ∀ t, Steps p.tables e below (s₁.setTop (mkF m 0 #[.val (.ref a1), .unset, .unset] [])) t → Steps p.tables e below (s₁.setTop (entryFrame m #[(.ref a1)] 3)) t := fun t k => castTop (ef_rcur m a1) k
  change Go p.tables e below (fun o U' => ∃ v L, o = .returned v ∧ Q_rcur Z a1 a2 p3 h0 n0 v U'.heap L ∧ FrameEnd s o U' L ({ frames := 0, cells := 0, slots := 0, locals := 4 } : Room).cells ({ frames := 0, cells := 0, slots := 0, locals := 4 } : Room).slots) (s₁.setTop (entryFrame m #[(.ref a1)] 3))
  have K0 := Keep.refl h0 []
  refine Go.on pre0 ?_
  refine Go.on (B := s₁.setTop (mkF m 1 #[.val (.ref a1), .unset, .unset] [(.ref a1)])) (fun t k => XS.aloadN X0.here hx rfl (hb hby d19_0) rfl rfl k) ?_
  obtain ⟨T1, X1, e1, st1⟩ := getF X0 hx hZ hown (host := "") (Or.inl (hw _ (List.mem_of_getElem? (i := 100) rfl))) Via.refl e0 F_lock (g := (mkF m 1 #[.val (.ref a1), .unset, .unset] [(.ref a1)])) rfl rfl (hb hby d19_1)
  refine Go.on (B := T1.setTop (mkF m 4 #[.val (.ref a1), .unset, .unset] [(.ref a2)])) (fun t k => st1 _ k) ?_
  refine Go.on (B := T1.setTop (mkF m 5 #[.val (.ref a1), .unset, .unset] [(.ref a2), (.ref a2)])) (fun t k => XS.dup X1.here hx rfl (hb hby d19_4) rfl rfl k) ?_
  refine Go.on (B := T1.setTop (mkF m 6 #[.val (.ref a1), .val (.ref a2), .unset] [(.ref a2)])) (fun t k => XS.astoreN X1.here hx rfl (hb hby d19_5) rfl rfl (l' := #[.val (.ref a1), .val (.ref a2), .unset]) rfl k) ?_
  have hsync : meth.isSynchronized = false := by
    have q := Bd.notSynchronized
    cases hq : meth.isSynchronized with
    | false => rfl
    | true => simp [Method.locks, hq, hnm] at q
  obtain ⟨cm, um1, um2, um3⟩ := id U2
  have cmT : T1.heap[a2]? = some cm := by rw [e1]; exact um1
  have cms : s.heap[a2]? = some cm := by rw [hh]; exact um1
  have ment : cm.enterable s.cur := Or.inl ⟨by rw [um3], by rw [um3]⟩
  have mcur : T1.cur = s.cur := X1.cur_eq
  obtain ⟨X2, st2⟩ := X1.monitorenterAt hx (g := (mkF m 6 #[.val (.ref a1), .val (.ref a2), .unset] [(.ref a2)])) rfl (by rw [hml]; rfl) rfl (hb hby d19_6) cms cmT (Or.inl (by rw [um3])) hsync (by show 2 * 1 + 0 ≤ _; decide)
  rw [mcur] at X2 st2
  obtain ⟨s2, hs2⟩ : ∃ z, z = s.setCell a2 (cm.withEntry s.cur) := ⟨_, rfl⟩
  obtain ⟨T2, hT2⟩ : ∃ z, z = T1.setCell a2 (cm.withEntry s.cur) := ⟨_, rfl⟩
  rw [← hs2, ← hT2] at X2
  rw [← hT2] at st2
  obtain ⟨h2, hm2⟩ : ∃ z, z = h0.setIfInBounds a2 (cm.withEntry s.cur) := ⟨_, rfl⟩
  have e2 : T2.heap = h2 := by rw [hT2, hm2, ← e1]; rfl
  have hZo := hZ
  have howno := hown
  have hZ : Z.Warmed39 s2.vm := by rw [hs2]; exact hZo
  have hown : s2.vm.findClass "com/example/windlass/windlass/LevelRegistry" = some m.cls := by rw [hs2]; exact howno
  have Km2 : Keep h0 h2 [a2] := own_km hm2 um1 rfl rfl rfl
  have cl2 : h2[a2]? = some (cm.withEntry s.cur) := by rw [hm2]; exact own_at um1
  have f1 := E1.keep Km2
  have f2 := F_lock.keep Km2 (ninS hne nin0)
  have f3 := F_current.keep Km2 (ninS hne nin0)
  have Zs4 := Nat.le_trans Z0 Km2.1
  have Kin2 := Keep.refl h2 []
  refine Go.on (B := T2.setTop (mkM m 7 #[.val (.ref a1), .val (.ref a2), .unset] [] [a2] 1)) (fun t k => st2 _ k) ?_
  refine Go.on (B := T2.setTop (mkM m 8 #[.val (.ref a1), .val (.ref a2), .unset] [(.ref a1)] [a2] 1)) (fun t k => XS.aloadN X2.here hx rfl (hb hby d19_7) rfl rfl k) ?_
  obtain ⟨T3, X3, e3, st3⟩ := getF X2 hx hZ hown (host := "") (Or.inl (hw _ (List.mem_of_getElem? (i := 107) rfl))) Via.refl e2 f3 (g := (mkM m 8 #[.val (.ref a1), .val (.ref a2), .unset] [(.ref a1)] [a2] 1)) rfl rfl (hb hby d19_8)
  refine Go.on (B := T3.setTop (mkM m 11 #[.val (.ref a1), .val (.ref a2), .unset] [(.int p3)] [a2] 1)) (fun t k => st3 _ k) ?_
  refine Go.on (B := T3.setTop (mkM m 12 #[.val (.ref a1), .val (.ref a2), .unset] [(.ref a2), (.int p3)] [a2] 1)) (fun t k => XS.aloadN X3.here hx rfl (hb hby d19_11) rfl rfl k) ?_
  rw [hs2] at X3
  obtain ⟨X4, st4⟩ := X3.monitorexitAt hx (g := (mkM m 12 #[.val (.ref a1), .val (.ref a2), .unset] [(.ref a2), (.int p3)] [a2] 1)) rfl (more := []) rfl (hb hby d19_12) cms ment (by rw [e3]; exact cl2) (by show some s.cur = some T3.cur; rw [X3.cur_eq]; rfl) rfl
  rw [Cell.left_withEntry' ment] at X4 st4
  obtain ⟨T4, hT4⟩ : ∃ z, z = T3.setCell a2 cm := ⟨_, rfl⟩
  rw [← hT4] at X4 st4
  obtain ⟨h4, hm4⟩ : ∃ z, z = h2.setIfInBounds a2 cm := ⟨_, rfl⟩
  have e4 : T4.heap = h4 := by rw [hT4, hm4, ← e3]; rfl
  have hZ := hZo
  have hown := howno
  have Kx4 : Keep h2 h4 [a2] := own_km hm4 cl2 rfl rfl rfl
  have Kt4 : Keep h0 h4 [] := own_kx hm2 um1 Kin2 cl2 hm4
  have f5 := f1.keep Kx4
  have f6 := f2.keep Kx4 (ninS hne nin0)
  have f7 := f3.keep Kx4 (ninS hne nin0)
  have Zs8 := Nat.le_trans Zs4 Kx4.1
  refine Go.on (B := T4.setTop (mkM m 13 #[.val (.ref a1), .val (.ref a2), .unset] [(.int p3)] [] 1)) (fun t k => st4 _ k) ?_
  obtain ⟨fs, hr, hrun, hended, hW, hsame⟩ := X4.leave (v := some (.int p3)) (fun h => by rw [Bd.returns] at h; cases h)
  refine ⟨_, _, ?_, hrun, hended, _, _, rfl, ?_, ⟨_, rfl⟩, hW, hsame.mono (by decide) (by decide)⟩
  · exact retIM X4 hx Bd.returns (hb hby d19_13) hr
  · show Q_rcur Z a1 a2 p3 h0 n0 _ T4.heap _
    rw [e4]
    exact ⟨rfl, N0, Kt4⟩
theorem d20_0 : decode prog_12_method_8_code 0 = .ok (.aload_n 0, 1) := by decide +kernel
theorem d20_1 : decode prog_12_method_8_code 1 = .ok (.getfield 39, 3) := by decide +kernel
theorem d20_4 : decode prog_12_method_8_code 4 = .ok (.dup, 1) := by decide +kernel
theorem d20_5 : decode prog_12_method_8_code 5 = .ok (.astore 4, 2) := by decide +kernel
theorem d20_7 : decode prog_12_method_8_code 7 = .ok (.monitorenter, 1) := by decide +kernel
theorem d20_8 : decode prog_12_method_8_code 8 = .ok (.iload_n 3, 1) := by decide +kernel
theorem d20_9 : decode prog_12_method_8_code 9 = .ok (.ifCond .eq 13, 3) := by decide +kernel
theorem d20_12 : decode prog_12_method_8_code 12 = .ok (.aload_n 0, 1) := by decide +kernel
theorem d20_13 : decode prog_12_method_8_code 13 = .ok (.iload_n 1, 1) := by decide +kernel
theorem d20_14 : decode prog_12_method_8_code 14 = .ok (.iconst 1, 1) := by decide +kernel
theorem d20_15 : decode prog_12_method_8_code 15 = .ok (.iadd, 1) := by decide +kernel
theorem d20_16 : decode prog_12_method_8_code 16 = .ok (.putfield 75, 3) := by decide +kernel
theorem d20_19 : decode prog_12_method_8_code 19 = .ok (.goto 43, 3) := by decide +kernel
theorem d20_22 : decode prog_12_method_8_code 22 = .ok (.aload_n 0, 1) := by decide +kernel
theorem d20_23 : decode prog_12_method_8_code 23 = .ok (.getfield 19, 3) := by decide +kernel
theorem d20_26 : decode prog_12_method_8_code 26 = .ok (.iload_n 1, 1) := by decide +kernel
theorem d20_27 : decode prog_12_method_8_code 27 = .ok (.invokestatic 102, 3) := by decide +kernel
theorem d20_30 : decode prog_12_method_8_code 30 = .ok (.invokeinterface 215 2, 5) := by decide +kernel
theorem d20_35 : decode prog_12_method_8_code 35 = .ok (.checkcast 103, 3) := by decide +kernel
theorem d20_38 : decode prog_12_method_8_code 38 = .ok (.astore 5, 2) := by decide +kernel
theorem d20_40 : decode prog_12_method_8_code 40 = .ok (.aload_n 0, 1) := by decide +kernel
theorem d20_41 : decode prog_12_method_8_code 41 = .ok (.aload 5, 2) := by decide +kernel
theorem d20_43 : decode prog_12_method_8_code 43 = .ok (.ifnonnull 7, 3) := by decide +kernel
theorem d20_46 : decode prog_12_method_8_code 46 = .ok (.iload_n 2, 1) := by decide +kernel
theorem d20_47 : decode prog_12_method_8_code 47 = .ok (.goto 12, 3) := by decide +kernel
theorem d20_59 : decode prog_12_method_8_code 59 = .ok (.putfield 75, 3) := by decide +kernel
theorem d20_62 : decode prog_12_method_8_code 62 = .ok (.aload_n 0, 1) := by decide +kernel
theorem d20_63 : decode prog_12_method_8_code 63 = .ok (.getfield 75, 3) := by decide +kernel
theorem d20_66 : decode prog_12_method_8_code 66 = .ok (.aload 4, 2) := by decide +kernel
theorem d20_68 : decode prog_12_method_8_code 68 = .ok (.monitorexit, 1) := by decide +kernel
theorem d20_69 : decode prog_12_method_8_code 69 = .ok (.ireturn, 1) := by decide +kernel
theorem pd_5 : parseMethodDescriptor "(I)Ljava/lang/Integer;" = some ⟨[.int], some (.object "java/lang/Integer")⟩ := by decide +kernel
theorem pd_6 : parseMethodDescriptor "(Ljava/lang/Object;)Ljava/lang/Object;" = some ⟨[(.object "java/lang/Object")], some (.object "java/lang/Object")⟩ := by decide +kernel
theorem ef_ren (m : MethodId) (a1 : Addr) (p2 : Int32) (p3 : Int32) (p4 : Int32) : entryFrame m #[(.ref a1), (.int p2), (.int p3), (.int p4)] 7 = mkF m 0 #[.val (.ref a1), .val (.int p2), .val (.int p3), .val (.int p4), .unset, .unset, .unset] [] := by first | (simp [entryFrame, mkF, argsToLocals, Value.category]; done) | rfl
def Q_ren (Z : State) (a1 : Addr) (p2 : Int32) (p3 : Int32) (p4 : Int32) (p5 p6 : Int32) (a5 a6 : Addr) (ica : Addr) (icc : Cell) (h0 : Heap) (n0 : Nat) (v : Option Value) (h : Heap) (L : List Loc) : Prop := v = some (.int (if p4 = (0 : Int32) then p3 else (p2 + (1 : Int32)))) ∧ Fr n0 L ∧ Keep h0 h [a1] ∧ Exa Z h a1 "com/example/windlass/windlass/LevelRegistry" ∧ Fld Z h a1 "com/example/windlass/windlass/LevelRegistry" "current" "I" (.int p5) ∧ Fld Z h a1 "com/example/windlass/windlass/LevelRegistry" "entered" "I" (.int (if p4 = (0 : Int32) then p3 else (p2 + (1 : Int32)))) ∧ Fld Z h a1 "com/example/windlass/windlass/LevelRegistry" "lock" "Ljava/lang/Object;" (.ref a5) ∧ Fld Z h a1 "com/example/windlass/windlass/LevelRegistry" "levels" "Ljava/util/NavigableMap;" (.ref a6)
set_option maxRecDepth 65536 in
set_option maxHeartbeats 40000000 in
theorem ren (l : Launch) (Z : State) (a0 : Array Value) (hw : ∀ d ∈ tables_1, d.before a0 Z = true) (ws : List Jvm.Cond) (a1 : Addr) (p2 : Int32) (p3 : Int32) (p4 : Int32) (p5 p6 : Int32) (a5 a6 : Addr) (ica : Addr) (icc : Cell) (h0 : Heap) (n0 : Nat) (Z0 : n0 ≤ h0.size) (E1 : Exa Z h0 a1 "com/example/windlass/windlass/LevelRegistry") (F_current : Fld Z h0 a1 "com/example/windlass/windlass/LevelRegistry" "current" "I" (.int p5)) (F_entered : Fld Z h0 a1 "com/example/windlass/windlass/LevelRegistry" "entered" "I" (.int p6)) (F_lock : Fld Z h0 a1 "com/example/windlass/windlass/LevelRegistry" "lock" "Ljava/lang/Object;" (.ref a5)) (F_levels : Fld Z h0 a1 "com/example/windlass/windlass/LevelRegistry" "levels" "Ljava/util/NavigableMap;" (.ref a6)) (E6 : Exa Z h0 a6 "java/util/TreeMap") (F_root : Fld Z h0 a6 "java/util/TreeMap" "root" "Ljava/util/TreeMap$Entry;" .null) (U5 : Unt h0 a5) (hn15 : a1 ≠ a5) (hn65 : a6 ≠ a5) (hn61 : a6 ≠ a1) (g1 : n0 ≤ a1) (g5 : n0 ≤ a5) (O0 : Old Z n0 h0) (S_high : Sta Z Z.heap "java/lang/Integer$IntegerCache" "high" "I" (.int (127 : Int32))) (S_icache : Sta Z Z.heap "java/lang/Integer$IntegerCache" "cache" "[Ljava/lang/Integer;" (.ref ica)) (B_icache : Bxs Z ica icc "java/lang/Integer" "I" (256 : Int32) (fun j => .int (j - (128 : Int32)))) :
    MetFree l (⟨"com/example/windlass/windlass/LevelRegistry", "enterNextUp", "(IIZ)I"⟩ : MethodName) (head1 (Jvm.Cond.codeWith (⟨"com/example/windlass/windlass/LevelRegistry", "enterNextUp", "(IIZ)I"⟩ : MethodName) prog_12_method_8_code 7 (some .int) [(8, 69, 70, 0), (70, 75, 70, 0)] :: ws) ({ frames := 4, cells := 1, slots := 1, locals := 70 } : Room)) (fun a U => a = #[(.ref a1), (.int p2), (.int p3), (.int p4)] ∧ Z.Warmed39 U.vm ∧ U.heap = h0) (fun _ _ _ _ _ => True) (fun _ U o U' => ∃ v L, o = .returned v ∧ Q_ren Z a1 p2 p3 p4 p5 p6 a5 a6 ica icc h0 n0 v U'.heap L ∧ FrameEnd U o U' L ({ frames := 4, cells := 1, slots := 1, locals := 70 } : Room).cells ({ frames := 4, cells := 1, slots := 1, locals := 70 } : Room).slots) := by
  refine MetFree.of_bodySF (plainFor_of_name pn_21) hisWith ?_
  intro p e s m args below meth c s₁ Bd hml0 hP hK
  obtain ⟨rfl, hZ, hh⟩ := hP
  have hx := Bd.exec
  have hby := Bd.bytes
  have hml : c.maxLocals = 7 := hml0
  have hown : s.vm.findClass "com/example/windlass/windlass/LevelRegistry" = some m.cls := findClass_of_methodNamed Bd.named
  have hnm := (name_of_methodNamed Bd.named Bd.method).1
  have X0 : Stand p l e ({ frames := 4, cells := 1, slots := 1, locals := 70 } : Room) s m #[(.ref a1), (.int p2), (.int p3), (.int p4)] below meth c s₁ [] 0 0 := Stand.of_body Bd
  have e0 : s₁.heap = h0 := by rw [← hh, Bd.state]; rfl
  have N0 := Fr.nil n0
  have pre0 : ∀ t, Steps p.tables e below (s₁.setTop (mkF m 0 #[.val (.ref a1), .val (.int p2), .val (.int p3), .val (.int p4), .unset, .unset, .unset] [])) t → Steps p.tables e below (s₁.setTop (entryFrame m #[(.ref a1), (.int p2), (.int p3), (.int p4)] 7)) t := fun t k => castTop (ef_ren m a1 p2 p3 p4) k
  change Go p.tables e below (fun o U' => ∃ v L, o = .returned v ∧ Q_ren Z a1 p2 p3 p4 p5 p6 a5 a6 ica icc h0 n0 v U'.heap L ∧ FrameEnd s o U' L ({ frames := 4, cells := 1, slots := 1, locals := 70 } : Room).cells ({ frames := 4, cells := 1, slots := 1, locals := 70 } : Room).slots) (s₁.setTop (entryFrame m #[(.ref a1), (.int p2), (.int p3), (.int p4)] 7))
  have K0 := Keep.refl h0 [a1]
  refine Go.on pre0 ?_
  refine Go.on (B := s₁.setTop (mkF m 1 #[.val (.ref a1), .val (.int p2), .val (.int p3), .val (.int p4), .unset, .unset, .unset] [(.ref a1)])) (fun t k => XS.aloadN X0.here hx rfl (hb hby d20_0) rfl rfl k) ?_
  obtain ⟨T1, X1, e1, st1⟩ := getF X0 hx hZ hown (host := "") (Or.inl (hw _ (List.mem_of_getElem? (i := 100) rfl))) Via.refl e0 F_lock (g := (mkF m 1 #[.val (.ref a1), .val (.int p2), .val (.int p3), .val (.int p4), .unset, .unset, .unset] [(.ref a1)])) rfl rfl (hb hby d20_1)
  refine Go.on (B := T1.setTop (mkF m 4 #[.val (.ref a1), .val (.int p2), .val (.int p3), .val (.int p4), .unset, .unset, .unset] [(.ref a5)])) (fun t k => st1 _ k) ?_
  refine Go.on (B := T1.setTop (mkF m 5 #[.val (.ref a1), .val (.int p2), .val (.int p3), .val (.int p4), .unset, .unset, .unset] [(.ref a5), (.ref a5)])) (fun t k => XS.dup X1.here hx rfl (hb hby d20_4) rfl rfl k) ?_
  refine Go.on (B := T1.setTop (mkF m 7 #[.val (.ref a1), .val (.int p2), .val (.int p3), .val (.int p4), .val (.ref a5), .unset, .unset] [(.ref a5)])) (fun t k => XS.astore X1.here hx rfl (hb hby d20_5) rfl rfl (l' := #[.val (.ref a1), .val (.int p2), .val (.int p3), .val (.int p4), .val (.ref a5), .unset, .unset]) rfl k) ?_
  have hsync : meth.isSynchronized = false := by
    have q := Bd.notSynchronized
    cases hq : meth.isSynchronized with
    | false => rfl
    | true => simp [Method.locks, hq, hnm] at q
  obtain ⟨cm, um1, um2, um3⟩ := id U5
  have cmT : T1.heap[a5]? = some cm := by rw [e1]; exact um1
  have cms : s.heap[a5]? = some cm := by rw [hh]; exact um1
  have ment : cm.enterable s.cur := Or.inl ⟨by rw [um3], by rw [um3]⟩
  have mcur : T1.cur = s.cur := X1.cur_eq
  obtain ⟨X2, st2⟩ := X1.monitorenterAt hx (g := (mkF m 7 #[.val (.ref a1), .val (.int p2), .val (.int p3), .val (.int p4), .val (.ref a5), .unset, .unset] [(.ref a5)])) rfl (by rw [hml]; rfl) rfl (hb hby d20_7) cms cmT (Or.inl (by rw [um3])) hsync (by show 2 * 1 + 0 ≤ _; decide)
  rw [mcur] at X2 st2
  obtain ⟨s2, hs2⟩ : ∃ z, z = s.setCell a5 (cm.withEntry s.cur) := ⟨_, rfl⟩
  obtain ⟨T2, hT2⟩ : ∃ z, z = T1.setCell a5 (cm.withEntry s.cur) := ⟨_, rfl⟩
  rw [← hs2, ← hT2] at X2
  rw [← hT2] at st2
  obtain ⟨h2, hm2⟩ : ∃ z, z = h0.setIfInBounds a5 (cm.withEntry s.cur) := ⟨_, rfl⟩
  have e2 : T2.heap = h2 := by rw [hT2, hm2, ← e1]; rfl
  have hZo := hZ
  have howno := hown
  have hZ : Z.Warmed39 s2.vm := by rw [hs2]; exact hZo
  have hown : s2.vm.findClass "com/example/windlass/windlass/LevelRegistry" = some m.cls := by rw [hs2]; exact howno
  have Km2 : Keep h0 h2 [a5] := own_km hm2 um1 rfl rfl rfl
  have cl2 : h2[a5]? = some (cm.withEntry s.cur) := by rw [hm2]; exact own_at um1
  have f1 := E1.keep Km2
  have O_2 := O0.keep Km2 (allS g5 all0)
  have f3 := F_current.keep Km2 (ninS hn15 nin0)
  have f4 := F_entered.keep Km2 (ninS hn15 nin0)
  have f5 := F_lock.keep Km2 (ninS hn15 nin0)
  have f6 := F_levels.keep Km2 (ninS hn15 nin0)
  have f7 := E6.keep Km2
  have f8 := F_root.keep Km2 (ninS hn65 nin0)
  have Zs9 := Nat.le_trans Z0 Km2.1
  have Kin2 := Keep.refl h2 [a1]
  refine Go.on (B := T2.setTop (mkM m 8 #[.val (.ref a1), .val (.int p2), .val (.int p3), .val (.int p4), .val (.ref a5), .unset, .unset] [] [a5] 1)) (fun t k => st2 _ k) ?_
  refine Go.on (B := T2.setTop (mkM m 9 #[.val (.ref a1), .val (.int p2), .val (.int p3), .val (.int p4), .val (.ref a5), .unset, .unset] [(.int p4)] [a5] 1)) (fun t k => XS.iloadN X2.here hx rfl (hb hby d20_8) rfl k) ?_
  by_cases hc9_3 : p4 = (0 : Int32)
  · refine Go.on (B := T2.setTop (mkM m 22 #[.val (.ref a1), .val (.int p2), .val (.int p3), .val (.int p4), .val (.ref a5), .unset, .unset] [] [a5] 1)) (fun t k => XS.ifYes X2.here hx rfl (pc0 := 9) (pc' := 22) rfl (hb hby d20_9) rfl ((if0 _ _).trans (teq hc9_3).1) (by decide) (by decide) k) ?_
    refine Go.on (B := T2.setTop (mkM m 23 #[.val (.ref a1), .val (.int p2), .val (.int p3), .val (.int p4), .val (.ref a5), .unset, .unset] [(.ref a1)] [a5] 1)) (fun t k => XS.aloadN X2.here hx rfl (hb hby d20_22) rfl rfl k) ?_
    obtain ⟨T4, X4, e4, st4⟩ := getF X2 hx hZ hown (host := "") (Or.inl (hw _ (List.mem_of_getElem? (i := 52) rfl))) Via.refl e2 f6 (g := (mkM m 23 #[.val (.ref a1), .val (.int p2), .val (.int p3), .val (.int p4), .val (.ref a5), .unset, .unset] [(.ref a1)] [a5] 1)) rfl rfl (hb hby d20_23)
    refine Go.on (B := T4.setTop (mkM m 26 #[.val (.ref a1), .val (.int p2), .val (.int p3), .val (.int p4), .val (.ref a5), .unset, .unset] [(.ref a6)] [a5] 1)) (fun t k => st4 _ k) ?_
    refine Go.on (B := T4.setTop (mkM m 27 #[.val (.ref a1), .val (.int p2), .val (.int p3), .val (.int p4), .val (.ref a5), .unset, .unset] [(.int p2), (.ref a6)] [a5] 1)) (fun t k => XS.iloadN X4.here hx rfl (hb hby d20_26) rfl k) ?_
    obtain ⟨_, _, ⟨T5, L5, k5, n5⟩, -, X5, ⟨Lc5, hQ5, l5, y5, z5⟩, st5⟩ := Jvm.LawKit.callS X4 hx (y := (⟨"java/lang/Integer", "valueOf", "(I)Ljava/lang/Integer;"⟩ : MethodName)) hown (mvT hZ (hw _ (List.mem_of_getElem? (i := 121) rfl))) (mvT hZ (hw _ (List.mem_of_getElem? (i := 122) rfl))) (mvT hZ (hw _ (List.mem_of_getElem? (i := 123) rfl))) (mvT hZ (hw _ (List.mem_of_getElem? (i := 124) rfl))) (by decide) (backOf (W := 3) (riv l Z a0 hw [] p2 ica icc h2 n0 Zs9 O_2 S_high S_icache B_icache) hZ (hw _ (List.mem_of_getElem? (i := 124) rfl)) (hw _ (List.mem_of_getElem? (i := 123) rfl)) (by decide) (by decide)) (g := (mkM m 27 #[.val (.ref a1), .val (.int p2), .val (.int p3), .val (.int p4), .val (.ref a5), .unset, .unset] [(.int p2), (.ref a6)] [a5] 1)) rfl (by rw [hml]; rfl) (argsL := [(.int p2)]) (rest := [(.ref a6)]) (lenOf pd_5 rfl) rfl (by show 2 * 1 + _ ≤ _; exact Nat.le_of_eq rfl) (hb hby d20_27) (fun _ _ => ⟨rfl, e4, (by decide : 0 + 1 ≤ _), (by decide : 0 + 1 ≤ _)⟩)
    dsimp only [Pt.U, Pt.locs, Pt.cells, Pt.slots] at X5 l5 y5 z5 st5 hQ5
    subst l5 y5 z5
    obtain ⟨⟨x5, rfl, G5a, G5b⟩, N5q, K5q⟩ := hQ5
    have N5 := Fr.app N0 N5q
    have f10 := f1.keep K5q
    have O_11 := O_2.keep K5q all0
    have f12 := f3.keep K5q nin0
    have f13 := f4.keep K5q nin0
    have f14 := f5.keep K5q nin0
    have f15 := f6.keep K5q nin0
    have f16 := f7.keep K5q
    have f17 := f8.keep K5q nin0
    have f18 := K5q.2.1 _ _ cl2 nin0
    have Zs19 := Nat.le_trans Zs9 K5q.1
    have K20 := Kin2.trans K5q all0
    refine Go.on (B := T5.setTop (mkM m 30 #[.val (.ref a1), .val (.int p2), .val (.int p3), .val (.int p4), .val (.ref a5), .unset, .unset] [(.ref x5), (.ref a6)] [a5] 1)) (fun t k => st5 _ k) ?_
    obtain ⟨cq6, kq6, q6a, q6b, q6c⟩ := isOf hZ rfl f16
    obtain ⟨_, _, ⟨T6, L6, k6, n6⟩, -, X6, ⟨Lc6, hQ6, l6, y6, z6⟩, st6⟩ := X5.interfaceBack hx (xi := (⟨"java/util/NavigableMap", "higherKey", "(Ljava/lang/Object;)Ljava/lang/Object;"⟩ : MethodName)) (y := (⟨"java/util/TreeMap", "higherKey", "(Ljava/lang/Object;)Ljava/lang/Object;"⟩ : MethodName)) hown (mvT hZ (hw _ (List.mem_of_getElem? (i := 128) rfl))) (mvT hZ (hw _ (List.mem_of_getElem? (i := 129) rfl))) (mvT hZ (hw _ (List.mem_of_getElem? (i := 130) rfl))) (mvT hZ (hw _ (List.mem_of_getElem? (i := 131) rfl))) (mvT hZ (hw _ (List.mem_of_getElem? (i := 132) rfl))) (mvT hZ (hw _ (List.mem_of_getElem? (i := 133) rfl))) (mvT hZ (hw _ (List.mem_of_getElem? (i := 134) rfl))) (mvT hZ (hw _ (List.mem_of_getElem? (i := 135) rfl))) (by decide) (backOf (W := 2) (rhk l Z a0 hw [] a6 x5 T5.heap n0 Zs19 f16 f17) hZ (hw _ (List.mem_of_getElem? (i := 136) rfl)) (hw _ (List.mem_of_getElem? (i := 35) rfl)) (by decide) (by decide)) q6a q6b q6c (g := (mkM m 30 #[.val (.ref a1), .val (.int p2), .val (.int p3), .val (.int p4), .val (.ref a5), .unset, .unset] [(.ref x5), (.ref a6)] [a5] 1)) rfl (by rw [hml]; rfl) (Steps.refl _) (argsL := [(.ref x5)]) (rest := []) (lenOf pd_6 rfl) rfl (by show 2 * 1 + _ ≤ _; exact Nat.le_of_eq rfl) (hb hby d20_30) (fun _ _ => ⟨rfl, rfl, (by decide : 1 + 0 ≤ _), (by decide : 1 + 0 ≤ _)⟩)
    dsimp only [Pt.U, Pt.locs, Pt.cells, Pt.slots] at X6 l6 y6 z6 st6 hQ6
    subst l6 y6 z6
    obtain ⟨rfl, N6q, e6q⟩ := hQ6
    have N6 := Fr.app N5 N6q
    refine Go.on (B := T6.setTop (mkM m 35 #[.val (.ref a1), .val (.int p2), .val (.int p3), .val (.int p4), .val (.ref a5), .unset, .unset] [.null] [a5] 1)) (fun t k => st6.trans k) ?_
    refine Go.on (B := T6.setTop (mkM m 38 #[.val (.ref a1), .val (.int p2), .val (.int p3), .val (.int p4), .val (.ref a5), .unset, .unset] [.null] [a5] 1)) (fun t k => X6.checkcastNull hx (g := (mkM m 35 #[.val (.ref a1), .val (.int p2), .val (.int p3), .val (.int p4), .val (.ref a5), .unset, .unset] [.null] [a5] 1)) rfl rfl (hb hby d20_35) _ k) ?_
    refine Go.on (B := T6.setTop (mkM m 40 #[.val (.ref a1), .val (.int p2), .val (.int p3), .val (.int p4), .val (.ref a5), .val .null, .unset] [] [a5] 1)) (fun t k => XS.astore X6.here hx rfl (hb hby d20_38) rfl rfl (l' := #[.val (.ref a1), .val (.int p2), .val (.int p3), .val (.int p4), .val (.ref a5), .val .null, .unset]) rfl k) ?_
    refine Go.on (B := T6.setTop (mkM m 41 #[.val (.ref a1), .val (.int p2), .val (.int p3), .val (.int p4), .val (.ref a5), .val .null, .unset] [(.ref a1)] [a5] 1)) (fun t k => XS.aloadN X6.here hx rfl (hb hby d20_40) rfl rfl k) ?_
    refine Go.on (B := T6.setTop (mkM m 43 #[.val (.ref a1), .val (.int p2), .val (.int p3), .val (.int p4), .val (.ref a5), .val .null, .unset] [.null, (.ref a1)] [a5] 1)) (fun t k => XS.aload X6.here hx rfl (hb hby d20_41) rfl rfl k) ?_
    refine Go.on (B := T6.setTop (mkM m 46 #[.val (.ref a1), .val (.int p2), .val (.int p3), .val (.int p4), .val (.ref a5), .val .null, .unset] [(.ref a1)] [a5] 1)) (fun t k => XS.ifnonnullNo X6.here hx rfl (hb hby d20_43) rfl k) ?_
    refine Go.on (B := T6.setTop (mkM m 47 #[.val (.ref a1), .val (.int p2), .val (.int p3), .val (.int p4), .val (.ref a5), .val .null, .unset] [(.int p3), (.ref a1)] [a5] 1)) (fun t k => XS.iloadN X6.here hx rfl (hb hby d20_46) rfl k) ?_
    refine Go.on (B := T6.setTop (mkM m 59 #[.val (.ref a1), .val (.int p2), .val (.int p3), .val (.int p4), .val (.ref a5), .val .null, .unset] [(.int p3), (.ref a1)] [a5] 1)) (fun t k => XS.goto X6.here hx rfl (pc0 := 47) (pc' := 59) rfl (hb hby d20_47) (by decide) (by decide) k) ?_
    obtain ⟨T8, h8, X8, e8, W8, st8⟩ := putF X6 hx hZ hown (host := "") (Or.inl (hw _ (List.mem_of_getElem? (i := 114) rfl))) Via.refl e6q f13 f10 (Or.inl (hw _ (List.mem_of_getElem? (i := 115) rfl))) (hw _ (List.mem_of_getElem? (i := 1) rfl)) (ty := .int) (by decide) rfl rfl (g := (mkM m 59 #[.val (.ref a1), .val (.int p2), .val (.int p3), .val (.int p4), .val (.ref a5), .val .null, .unset] [(.int p3), (.ref a1)] [a5] 1)) rfl rfl (hb hby d20_59)
    have N8 := Fr.snoc X8 N6 g1
    have Fw8 := f13.same W8
    have f21 := f10.wr W8
    have O_22 := O_11.wr W8 g1
    have f23 := f12.other W8 (Or.inr (slot_ne (Or.inl (hw _ (List.mem_of_getElem? (i := 108) rfl))) (Or.inl (hw _ (List.mem_of_getElem? (i := 115) rfl))) (by decide) (t := .int) (t' := .int) (by decide) (by decide)))
    have f24 := f14.other W8 (Or.inr (slot_ne (Or.inr (hw _ (List.mem_of_getElem? (i := 101) rfl))) (Or.inl (hw _ (List.mem_of_getElem? (i := 115) rfl))) (by decide) (t := (.object "java/lang/Object")) (t' := .int) (by decide) (by decide)))
    have f25 := f15.other W8 (Or.inr (slot_ne (Or.inr (hw _ (List.mem_of_getElem? (i := 53) rfl))) (Or.inl (hw _ (List.mem_of_getElem? (i := 115) rfl))) (by decide) (t := (.object "java/util/NavigableMap")) (t' := .int) (by decide) (by decide)))
    have f26 := f16.wr W8
    have f27 := f17.other W8 (Or.inl hn61)
    have f28 := (Keep.of_wr W8).2.1 _ _ f18 (ninS (Ne.symm hn15) nin0)
    have Zs29 := Nat.le_trans Zs19 (Keep.of_wr W8).1
    have K30 := K20.wr W8 (Or.inl (List.mem_of_getElem? (i := 0) rfl))
    refine Go.on (B := T8.setTop (mkM m 62 #[.val (.ref a1), .val (.int p2), .val (.int p3), .val (.int p4), .val (.ref a5), .val .null, .unset] [] [a5] 1)) (fun t k => st8 _ k) ?_
    refine Go.on (B := T8.setTop (mkM m 63 #[.val (.ref a1), .val (.int p2), .val (.int p3), .val (.int p4), .val (.ref a5), .val .null, .unset] [(.ref a1)] [a5] 1)) (fun t k => XS.aloadN X8.here hx rfl (hb hby d20_62) rfl rfl k) ?_
    obtain ⟨T9, X9, e9, st9⟩ := getF X8 hx hZ hown (host := "") (Or.inl (hw _ (List.mem_of_getElem? (i := 114) rfl))) Via.refl e8 Fw8 (g := (mkM m 63 #[.val (.ref a1), .val (.int p2), .val (.int p3), .val (.int p4), .val (.ref a5), .val .null, .unset] [(.ref a1)] [a5] 1)) rfl rfl (hb hby d20_63)
    refine Go.on (B := T9.setTop (mkM m 66 #[.val (.ref a1), .val (.int p2), .val (.int p3), .val (.int p4), .val (.ref a5), .val .null, .unset] [(.int p3)] [a5] 1)) (fun t k => st9 _ k) ?_
    refine Go.on (B := T9.setTop (mkM m 68 #[.val (.ref a1), .val (.int p2), .val (.int p3), .val (.int p4), .val (.ref a5), .val .null, .unset] [(.ref a5), (.int p3)] [a5] 1)) (fun t k => XS.aload X9.here hx rfl (hb hby d20_66) rfl rfl k) ?_
    rw [hs2] at X9
    obtain ⟨X10, st10⟩ := X9.monitorexitAt hx (g := (mkM m 68 #[.val (.ref a1), .val (.int p2), .val (.int p3), .val (.int p4), .val (.ref a5), .val .null, .unset] [(.ref a5), (.int p3)] [a5] 1)) rfl (more := []) rfl (hb hby d20_68) cms ment (by rw [e9]; exact f28) (by show some s.cur = some T9.cur; rw [X9.cur_eq]; rfl) rfl
    rw [Cell.left_withEntry' ment] at X10 st10
    obtain ⟨T10, hT10⟩ : ∃ z, z = T9.setCell a5 cm := ⟨_, rfl⟩
    rw [← hT10] at X10 st10
    obtain ⟨h10, hm10⟩ : ∃ z, z = h8.setIfInBounds a5 cm := ⟨_, rfl⟩
    have e10 : T10.heap = h10 := by rw [hT10, hm10, ← e9]; rfl
    have hZ := hZo
    have hown := howno
    have Kx10 : Keep h8 h10 [a5] := own_km hm10 f28 rfl rfl rfl
    have Kt10 : Keep h0 h10 [a1] := own_kx hm2 um1 K30 f28 hm10
    have f31 := f21.keep Kx10
    have O_32 := O_22.keep Kx10 (allS g5 all0)
    have f33 := f23.keep Kx10 (ninS hn15 nin0)
    have f34 := Fw8.keep Kx10 (ninS hn15 nin0)
    have f35 := f24.keep Kx10 (ninS hn15 nin0)
    have f36 := f25.keep Kx10 (ninS hn15 nin0)
    have f37 := f26.keep Kx10
    have f38 := f27.keep Kx10 (ninS hn65 nin0)
    have Zs39 := Nat.le_trans Zs29 Kx10.1
    refine Go.on (B := T10.setTop (mkM m 69 #[.val (.ref a1), .val (.int p2), .val (.int p3), .val (.int p4), .val (.ref a5), .val .null, .unset] [(.int p3)] [] 1)) (fun t k => st10 _ k) ?_
    have hres : p3 = (if p4 = (0 : Int32) then p3 else (p2 + (1 : Int32))) := by rw [if_pos hc9_3]
    obtain ⟨fs, hr, hrun, hended, hW, hsame⟩ := X10.leave (v := some (.int p3)) (fun h => by rw [Bd.returns] at h; cases h)
    refine ⟨_, _, ?_, hrun, hended, _, _, rfl, ?_, ⟨_, rfl⟩, hW, hsame.mono (by decide) (by decide)⟩
    · exact retIM X10 hx Bd.returns (hb hby d20_69) hr
    · show Q_ren Z a1 p2 p3 p4 p5 p6 a5 a6 ica icc h0 n0 _ T10.heap _
      rw [e10]
      exact ⟨congrArg (fun z => some (Value.int z)) hres, N8, Kt10, f31, f33, (by rw [← hres]; exact f34), f35, f36⟩
  · refine Go.on (B := T2.setTop (mkM m 12 #[.val (.ref a1), .val (.int p2), .val (.int p3), .val (.int p4), .val (.ref a5), .unset, .unset] [] [a5] 1)) (fun t k => XS.ifNo X2.here hx rfl (hb hby d20_9) rfl ((if0 _ _).trans (feq hc9_3).1) k) ?_
    refine Go.on (B := T2.setTop (mkM m 13 #[.val (.ref a1), .val (.int p2), .val (.int p3), .val (.int p4), .val (.ref a5), .unset, .unset] [(.ref a1)] [a5] 1)) (fun t k => XS.aloadN X2.here hx rfl (hb hby d20_12) rfl rfl k) ?_
    refine Go.on (B := T2.setTop (mkM m 14 #[.val (.ref a1), .val (.int p2), .val (.int p3), .val (.int p4), .val (.ref a5), .unset, .unset] [(.int p2), (.ref a1)] [a5] 1)) (fun t k => XS.iloadN X2.here hx rfl (hb hby d20_13) rfl k) ?_
    refine Go.on (B := T2.setTop (mkM m 15 #[.val (.ref a1), .val (.int p2), .val (.int p3), .val (.int p4), .val (.ref a5), .unset, .unset] [(.int (1 : Int32)), (.int p2), (.ref a1)] [a5] 1)) (fun t k => XS.iconst X2.here hx rfl (hb hby d20_14) k) ?_
    refine Go.on (B := T2.setTop (mkM m 16 #[.val (.ref a1), .val (.int p2), .val (.int p3), .val (.int p4), .val (.ref a5), .unset, .unset] [(.int (p2 + (1 : Int32))), (.ref a1)] [a5] 1)) (fun t k => XS.iadd X2.here hx rfl (hb hby d20_15) rfl k) ?_
    obtain ⟨T11, h11, X11, e11, W11, st11⟩ := putF X2 hx hZ hown (host := "") (Or.inl (hw _ (List.mem_of_getElem? (i := 114) rfl))) Via.refl e2 f4 f1 (Or.inl (hw _ (List.mem_of_getElem? (i := 115) rfl))) (hw _ (List.mem_of_getElem? (i := 1) rfl)) (ty := .int) (by decide) rfl rfl (g := (mkM m 16 #[.val (.ref a1), .val (.int p2), .val (.int p3), .val (.int p4), .val (.ref a5), .unset, .unset] [(.int (p2 + (1 : Int32))), (.ref a1)] [a5] 1)) rfl rfl (hb hby d20_16)
    have N11 := Fr.snoc X11 N0 g1
    have Fw11 := f4.same W11
    have f40 := f1.wr W11
    have O_41 := O_2.wr W11 g1
    have f42 := f3.other W11 (Or.inr (slot_ne (Or.inl (hw _ (List.mem_of_getElem? (i := 108) rfl))) (Or.inl (hw _ (List.mem_of_getElem? (i := 115) rfl))) (by decide) (t := .int) (t' := .int) (by decide) (by decide)))
    have f43 := f5.other W11 (Or.inr (slot_ne (Or.inr (hw _ (List.mem_of_getElem? (i := 101) rfl))) (Or.inl (hw _ (List.mem_of_getElem? (i := 115) rfl))) (by decide) (t := (.object "java/lang/Object")) (t' := .int) (by decide) (by decide)))
    have f44 := f6.other W11 (Or.inr (slot_ne (Or.inr (hw _ (List.mem_of_getElem? (i := 53) rfl))) (Or.inl (hw _ (List.mem_of_getElem? (i := 115) rfl))) (by decide) (t := (.object "java/util/NavigableMap")) (t' := .int) (by decide) (by decide)))
    have f45 := f7.wr W11
    have f46 := f8.other W11 (Or.inl hn61)
    have f47 := (Keep.of_wr W11).2.1 _ _ cl2 (ninS (Ne.symm hn15) nin0)
    have Zs48 := Nat.le_trans Zs9 (Keep.of_wr W11).1
    have K49 := Kin2.wr W11 (Or.inl (List.mem_of_getElem? (i := 0) rfl))
    refine Go.on (B := T11.setTop (mkM m 19 #[.val (.ref a1), .val (.int p2), .val (.int p3), .val (.int p4), .val (.ref a5), .unset, .unset] [] [a5] 1)) (fun t k => st11 _ k) ?_
    refine Go.on (B := T11.setTop (mkM m 62 #[.val (.ref a1), .val (.int p2), .val (.int p3), .val (.int p4), .val (.ref a5), .unset, .unset] [] [a5] 1)) (fun t k => XS.goto X11.here hx rfl (pc0 := 19) (pc' := 62) rfl (hb hby d20_19) (by decide) (by decide) k) ?_
    refine Go.on (B := T11.setTop (mkM m 63 #[.val (.ref a1), .val (.int p2), .val (.int p3), .val (.int p4), .val (.ref a5), .unset, .unset] [(.ref a1)] [a5] 1)) (fun t k => XS.aloadN X11.here hx rfl (hb hby d20_62) rfl rfl k) ?_
    obtain ⟨T12, X12, e12, st12⟩ := getF X11 hx hZ hown (host := "") (Or.inl (hw _ (List.mem_of_getElem? (i := 114) rfl))) Via.refl e11 Fw11 (g := (mkM m 63 #[.val (.ref a1), .val (.int p2), .val (.int p3), .val (.int p4), .val (.ref a5), .unset, .unset] [(.ref a1)] [a5] 1)) rfl rfl (hb hby d20_63)
    refine Go.on (B := T12.setTop (mkM m 66 #[.val (.ref a1), .val (.int p2), .val (.int p3), .val (.int p4), .val (.ref a5), .unset, .unset] [(.int (p2 + (1 : Int32)))] [a5] 1)) (fun t k => st12 _ k) ?_
    refine Go.on (B := T12.setTop (mkM m 68 #[.val (.ref a1), .val (.int p2), .val (.int p3), .val (.int p4), .val (.ref a5), .unset, .unset] [(.ref a5), (.int (p2 + (1 : Int32)))] [a5] 1)) (fun t k => XS.aload X12.here hx rfl (hb hby d20_66) rfl rfl k) ?_
    rw [hs2] at X12
    obtain ⟨X13, st13⟩ := X12.monitorexitAt hx (g := (mkM m 68 #[.val (.ref a1), .val (.int p2), .val (.int p3), .val (.int p4), .val (.ref a5), .unset, .unset] [(.ref a5), (.int (p2 + (1 : Int32)))] [a5] 1)) rfl (more := []) rfl (hb hby d20_68) cms ment (by rw [e12]; exact f47) (by show some s.cur = some T12.cur; rw [X12.cur_eq]; rfl) rfl
    rw [Cell.left_withEntry' ment] at X13 st13
    obtain ⟨T13, hT13⟩ : ∃ z, z = T12.setCell a5 cm := ⟨_, rfl⟩
    rw [← hT13] at X13 st13
    obtain ⟨h13, hm13⟩ : ∃ z, z = h11.setIfInBounds a5 cm := ⟨_, rfl⟩
    have e13 : T13.heap = h13 := by rw [hT13, hm13, ← e12]; rfl
    have hZ := hZo
    have hown := howno
    have Kx13 : Keep h11 h13 [a5] := own_km hm13 f47 rfl rfl rfl
    have Kt13 : Keep h0 h13 [a1] := own_kx hm2 um1 K49 f47 hm13
    have f50 := f40.keep Kx13
    have O_51 := O_41.keep Kx13 (allS g5 all0)
    have f52 := f42.keep Kx13 (ninS hn15 nin0)
    have f53 := Fw11.keep Kx13 (ninS hn15 nin0)
    have f54 := f43.keep Kx13 (ninS hn15 nin0)
    have f55 := f44.keep Kx13 (ninS hn15 nin0)
    have f56 := f45.keep Kx13
    have f57 := f46.keep Kx13 (ninS hn65 nin0)
    have Zs58 := Nat.le_trans Zs48 Kx13.1
    refine Go.on (B := T13.setTop (mkM m 69 #[.val (.ref a1), .val (.int p2), .val (.int p3), .val (.int p4), .val (.ref a5), .unset, .unset] [(.int (p2 + (1 : Int32)))] [] 1)) (fun t k => st13 _ k) ?_
    have hres : (p2 + (1 : Int32)) = (if p4 = (0 : Int32) then p3 else (p2 + (1 : Int32))) := by rw [if_neg hc9_3]
    obtain ⟨fs, hr, hrun, hended, hW, hsame⟩ := X13.leave (v := some (.int (p2 + (1 : Int32)))) (fun h => by rw [Bd.returns] at h; cases h)
    refine ⟨_, _, ?_, hrun, hended, _, _, rfl, ?_, ⟨_, rfl⟩, hW, hsame.mono (by decide) (by decide)⟩
    · exact retIM X13 hx Bd.returns (hb hby d20_69) hr
    · show Q_ren Z a1 p2 p3 p4 p5 p6 a5 a6 ica icc h0 n0 _ T13.heap _
      rw [e13]
      exact ⟨congrArg (fun z => some (Value.int z)) hres, N11, Kt13, f50, f52, (by rw [← hres]; exact f53), f54, f55⟩
theorem pd_7 : parseMethodDescriptor "(Ljava/lang/Object;)V" = some ⟨[(.object "java/lang/Object")], none⟩ := by decide +kernel
theorem pd_8 : parseMethodDescriptor "()I" = some ⟨[], some .int⟩ := by decide +kernel
theorem pd_9 : parseMethodDescriptor "(IIZ)I" = some ⟨[.int, .int, .boolean], some .int⟩ := by decide +kernel
theorem pn_40 : plainName "com/example/windlass/windlass/LevelRegistryCurrentPinLaw" = true := by first | (simp [plainName, overriddenIn]; done) | decide +kernel
theorem ef_rm0 (m : MethodId) (p1 : Int32) (p2 : Int32) (p3 : Int32) (p4 : Int32) : entryFrame m #[(.int p1), (.int p2), (.int p3), (.int p4)] maxLocals = mkF m 0 #[.val (.int p1), .val (.int p2), .val (.int p3), .val (.int p4), .unset, .unset, .unset, .unset, .unset] [] := by first | (simp [entryFrame, mkF, argsToLocals, Value.category, maxLocals]; done) | rfl
def Q_rm0 (Z : State) (p1 : Int32) (p2 : Int32) (p3 : Int32) (p4 : Int32) (da : Addr) (ica : Addr) (icc : Cell) (h0 : Heap) (n0 : Nat) (v : Option Value) (h : Heap) (L : List Loc) : Prop := v = some (.int 1) ∧ Fr n0 L
set_option maxRecDepth 65536 in
set_option maxHeartbeats 40000000 in
theorem rm0 (l : Launch) (Z : State) (a0 : Array Value) (hw : ∀ d ∈ tables_1, d.before a0 Z = true) (ws : List Jvm.Cond) (p1 : Int32) (p2 : Int32) (p3 : Int32) (p4 : Int32) (da : Addr) (ica : Addr) (icc : Cell) (h0 : Heap) (n0 : Nat) (Z0 : n0 ≤ h0.size) (O0 : Old Z n0 h0) (S_de : Sta Z Z.heap "java/util/ArrayList" "DEFAULTCAPACITY_EMPTY_ELEMENTDATA" "[Ljava/lang/Object;" (.ref da)) (S_high : Sta Z Z.heap "java/lang/Integer$IntegerCache" "high" "I" (.int (127 : Int32))) (S_icache : Sta Z Z.heap "java/lang/Integer$IntegerCache" "cache" "[Ljava/lang/Integer;" (.ref ica)) (B_icache : Bxs Z ica icc "java/lang/Integer" "I" (256 : Int32) (fun j => .int (j - (128 : Int32)))) :
    MetFree l x (head1 (Jvm.Cond.code x code maxLocals ret :: ws) room_1) (fun a U => a = #[(.int p1), (.int p2), (.int p3), (.int p4)] ∧ Z.Warmed39 U.vm ∧ U.heap = h0) (fun _ _ _ _ _ => True) (fun _ U o U' => ∃ v L, o = .returned v ∧ Q_rm0 Z p1 p2 p3 p4 da ica icc h0 n0 v U'.heap L ∧ FrameEnd U o U' L room_1.cells room_1.slots) := by
  refine MetFree.of_bodySF (plainFor_of_name pn_40) hisR ?_
  intro p e s m args below meth c s₁ Bd hml0 hP hK
  obtain ⟨rfl, hZ, hh⟩ := hP
  have hx := Bd.exec
  have hby := Bd.bytes
  have hml : c.maxLocals = 9 := hml0
  have hown : s.vm.findClass "com/example/windlass/windlass/LevelRegistryCurrentPinLaw" = some m.cls := findClass_of_methodNamed Bd.named
  have hnm := (name_of_methodNamed Bd.named Bd.method).1
  have X0 : Stand p l e room_1 s m #[(.int p1), (.int p2), (.int p3), (.int p4)] below meth c s₁ [] 0 0 := Stand.of_body Bd
  have e0 : s₁.heap = h0 := by rw [← hh, Bd.state]; rfl
  have N0 := Fr.nil n0
  have pre0 : ∀ t, Steps p.tables e below (s₁.setTop (mkF m 0 #[.val (.int p1), .val (.int p2), .val (.int p3), .val (.int p4), .unset, .unset, .unset, .unset, .unset] [])) t → Steps p.tables e below (s₁.setTop (entryFrame m #[(.int p1), (.int p2), (.int p3), (.int p4)] maxLocals)) t := fun t k => castTop (ef_rm0 m p1 p2 p3 p4) k
  change Go p.tables e below (fun o U' => ∃ v L, o = .returned v ∧ Q_rm0 Z p1 p2 p3 p4 da ica icc h0 n0 v U'.heap L ∧ FrameEnd s o U' L room_1.cells room_1.slots) (s₁.setTop (entryFrame m #[(.int p1), (.int p2), (.int p3), (.int p4)] maxLocals))
  refine Go.on pre0 ?_
  obtain ⟨T1, h1, X1, e1, Xe1, A1, D1, Ue1, st1⟩ := newO X0 hx hZ hown (hw _ (List.mem_of_getElem? (i := 0) rfl)) (hw _ (List.mem_of_getElem? (i := 1) rfl)) (hw _ (List.mem_of_getElem? (i := 2) rfl)) e0 (g := (mkF m 0 #[.val (.int p1), .val (.int p2), .val (.int p3), .val (.int p4), .unset, .unset, .unset, .unset, .unset] [])) rfl (hb hby at_0) (by decide) (by decide)
  obtain ⟨b1, gq1⟩ : ∃ z, z = h0.size := ⟨_, rfl⟩
  rw [← gq1] at A1 D1 Ue1 st1
  have ge_b1 : n0 ≤ b1 := Nat.le_trans Z0 (Nat.le_of_eq gq1.symm)
  have O_1 := O0.ext Xe1
  have Zs2 := Nat.le_trans Z0 Xe1.1
  have Un1 : Unt h1 b1 := Ue1
  have F1_sorters : Fld Z h1 b1 "com/example/windlass/windlass/LevelRegistry" "sorters" "Ljava/util/List;" .null := D1 (Or.inr (hw _ (List.mem_of_getElem? (i := 32) rfl))) (ty := (.object "java/util/List")) (by decide)
  have F1_levels : Fld Z h1 b1 "com/example/windlass/windlass/LevelRegistry" "levels" "Ljava/util/NavigableMap;" .null := D1 (Or.inr (hw _ (List.mem_of_getElem? (i := 53) rfl))) (ty := (.object "java/util/NavigableMap")) (by decide)
  have F1_registrations : Fld Z h1 b1 "com/example/windlass/windlass/LevelRegistry" "registrations" "Ljava/util/Map;" .null := D1 (Or.inr (hw _ (List.mem_of_getElem? (i := 71) rfl))) (ty := (.object "java/util/Map")) (by decide)
  have F1_deferred : Fld Z h1 b1 "com/example/windlass/windlass/LevelRegistry" "deferred" "Ljava/util/List;" .null := D1 (Or.inr (hw _ (List.mem_of_getElem? (i := 97) rfl))) (ty := (.object "java/util/List")) (by decide)
  have F1_stopsOutByLevel : Fld Z h1 b1 "com/example/windlass/windlass/LevelRegistry" "stopsOutByLevel" "Ljava/util/NavigableMap;" .null := D1 (Or.inr (hw _ (List.mem_of_getElem? (i := 99) rfl))) (ty := (.object "java/util/NavigableMap")) (by decide)
  have F1_lock : Fld Z h1 b1 "com/example/windlass/windlass/LevelRegistry" "lock" "Ljava/lang/Object;" .null := D1 (Or.inr (hw _ (List.mem_of_getElem? (i := 101) rfl))) (ty := (.object "java/lang/Object")) (by decide)
  have F1_current : Fld Z h1 b1 "com/example/windlass/windlass/LevelRegistry" "current" "I" (.int (0 : Int32)) := D1 (Or.inl (hw _ (List.mem_of_getElem? (i := 108) rfl))) (ty := .int) (by decide)
  have F1_entered : Fld Z h1 b1 "com/example/windlass/windlass/LevelRegistry" "entered" "I" (.int (0 : Int32)) := D1 (Or.inl (hw _ (List.mem_of_getElem? (i := 115) rfl))) (ty := .int) (by decide)
  refine Go.on (B := T1.setTop (mkF m 3 #[.val (.int p1), .val (.int p2), .val (.int p3), .val (.int p4), .unset, .unset, .unset, .unset, .unset] [(.ref b1)])) (fun t k => st1 _ k) ?_
  refine Go.on (B := T1.setTop (mkF m 4 #[.val (.int p1), .val (.int p2), .val (.int p3), .val (.int p4), .unset, .unset, .unset, .unset, .unset] [(.ref b1), (.ref b1)])) (fun t k => XS.dup X1.here hx rfl (hb hby at_3) rfl rfl k) ?_
  obtain ⟨T2, h2, X2, e2, Xe2, A2, D2, Ue2, st2⟩ := newO X1 hx hZ hown (hw _ (List.mem_of_getElem? (i := 3) rfl)) (hw _ (List.mem_of_getElem? (i := 4) rfl)) (hw _ (List.mem_of_getElem? (i := 5) rfl)) e1 (g := (mkF m 4 #[.val (.int p1), .val (.int p2), .val (.int p3), .val (.int p4), .unset, .unset, .unset, .unset, .unset] [(.ref b1), (.ref b1)])) rfl (hb hby at_4) (by decide) (by decide)
  obtain ⟨b2, gq2⟩ : ∃ z, z = h1.size := ⟨_, rfl⟩
  rw [← gq2] at A2 D2 Ue2 st2
  have ge_b2 : n0 ≤ b2 := Nat.le_trans Zs2 (Nat.le_of_eq gq2.symm)
  have ne_b1_b2 : b1 ≠ b2 := Nat.ne_of_lt (Nat.lt_of_lt_of_le A1.lt (Nat.le_of_eq gq2.symm))
  have O_3 := O_1.ext Xe2
  have f4 := A1.ext Xe2
  have f5 := Un1.ext Xe2
  have f6 := F1_sorters.ext Xe2
  have f7 := F1_levels.ext Xe2
  have f8 := F1_registrations.ext Xe2
  have f9 := F1_deferred.ext Xe2
  have f10 := F1_stopsOutByLevel.ext Xe2
  have f11 := F1_lock.ext Xe2
  have f12 := F1_current.ext Xe2
  have f13 := F1_entered.ext Xe2
  have Zs14 := Nat.le_trans Zs2 Xe2.1
  have Un2 : Unt h2 b2 := Ue2
  refine Go.on (B := T2.setTop (mkF m 7 #[.val (.int p1), .val (.int p2), .val (.int p3), .val (.int p4), .unset, .unset, .unset, .unset, .unset] [(.ref b2), (.ref b1), (.ref b1)])) (fun t k => st2 _ k) ?_
  refine Go.on (B := T2.setTop (mkF m 8 #[.val (.int p1), .val (.int p2), .val (.int p3), .val (.int p4), .unset, .unset, .unset, .unset, .unset] [(.ref b2), (.ref b2), (.ref b1), (.ref b1)])) (fun t k => XS.dup X2.here hx rfl (hb hby at_7) rfl rfl k) ?_
  obtain ⟨T3, X3, e3, st3⟩ := initO X2 hx hZ hown (hw _ (List.mem_of_getElem? (i := 6) rfl)) (hw _ (List.mem_of_getElem? (i := 7) rfl)) (hw _ (List.mem_of_getElem? (i := 8) rfl)) e2 (g := (mkF m 8 #[.val (.int p1), .val (.int p2), .val (.int p3), .val (.int p4), .unset, .unset, .unset, .unset, .unset] [(.ref b2), (.ref b2), (.ref b1), (.ref b1)])) rfl (by rw [hml]; rfl) rfl (hb hby at_8) (by decide) (W := 3) (by show 2 * 0 + _ ≤ _; exact Nat.le_of_eq rfl) (by decide)
  refine Go.on (B := T3.setTop (mkF m 11 #[.val (.int p1), .val (.int p2), .val (.int p3), .val (.int p4), .unset, .unset, .unset, .unset, .unset] [(.ref b2), (.ref b1), (.ref b1)])) (fun t k => st3 _ k) ?_
  obtain ⟨_, _, ⟨T4, L4, k4, n4⟩, -, X4, ⟨Lc4, hQ4, l4, y4, z4⟩, st4⟩ := X3.specialBack hx (y := (⟨"com/example/windlass/windlass/LevelRegistry", "<init>", "(Ljava/lang/Object;)V"⟩ : MethodName)) rfl hown (mvT hZ (hw _ (List.mem_of_getElem? (i := 9) rfl))) (mvT hZ (hw _ (List.mem_of_getElem? (i := 10) rfl))) (mvT hZ (hw _ (List.mem_of_getElem? (i := 11) rfl))) (by decide) (backOf (W := 1) (rlr l Z a0 hw [] b1 b2 da h2 n0 Zs14 f4 f6 f7 f8 f9 f10 f11 f12 f13 ge_b1 O_3 S_de) hZ (hw _ (List.mem_of_getElem? (i := 11) rfl)) (hw _ (List.mem_of_getElem? (i := 2) rfl)) (by decide) (by decide)) (g := (mkF m 11 #[.val (.int p1), .val (.int p2), .val (.int p3), .val (.int p4), .unset, .unset, .unset, .unset, .unset] [(.ref b2), (.ref b1), (.ref b1)])) rfl (by rw [hml]; rfl) (Steps.refl _) (a := b1) (argsL := [(.ref b2)]) (rest := [(.ref b1)]) (lenOf pd_7 rfl) rfl (by show 2 * 0 + _ ≤ _; exact Nat.le_of_eq rfl) (hb hby at_11) (fun _ _ => ⟨rfl, e3, (by decide : 2 + 8 ≤ _), (by decide : 8 + 93 ≤ _)⟩)
  dsimp only [Pt.U, Pt.locs, Pt.cells, Pt.slots] at X4 l4 y4 z4 st4 hQ4
  subst l4 y4 z4
  obtain ⟨rfl, N4q, K4q, G4a, G4b, G4c, G4d, lv4, sx4, G4e, G4f, G4g⟩ := hQ4
  have N4 := Fr.app N0 N4q
  have ne_b1_lv4 : b1 ≠ lv4 := Nat.ne_of_lt (Nat.lt_of_lt_of_le f4.lt sx4)
  have ne_b2_lv4 : b2 ≠ lv4 := Nat.ne_of_lt (Nat.lt_of_lt_of_le A2.lt sx4)
  have O_15 := O_3.keep K4q (allS ge_b1 all0)
  have f16 := f4.keep K4q
  have f17 := A2.keep K4q
  have f18 := own_untk Un2 K4q (ninS (Ne.symm ne_b1_b2) nin0)
  have Zs19 := Nat.le_trans Zs14 K4q.1
  refine Go.on (B := T4.setTop (mkF m 14 #[.val (.int p1), .val (.int p2), .val (.int p3), .val (.int p4), .unset, .unset, .unset, .unset, .unset] [(.ref b1)])) (fun t k => st4.trans k) ?_
  refine Go.on (B := T4.setTop (mkF m 16 #[.val (.int p1), .val (.int p2), .val (.int p3), .val (.int p4), .val (.ref b1), .unset, .unset, .unset, .unset] [])) (fun t k => XS.astore X4.here hx rfl (hb hby at_14) rfl rfl (l' := #[.val (.int p1), .val (.int p2), .val (.int p3), .val (.int p4), .val (.ref b1), .unset, .unset, .unset, .unset]) rfl k) ?_
  refine Go.on (B := T4.setTop (mkF m 17 #[.val (.int p1), .val (.int p2), .val (.int p3), .val (.int p4), .val (.ref b1), .unset, .unset, .unset, .unset] [(.int p4)])) (fun t k => XS.iloadN X4.here hx rfl (hb hby at_16) rfl k) ?_
  refine Go.on (B := T4.setTop (mkF m 18 #[.val (.int p1), .val (.int p2), .val (.int p3), .val (.int p4), .val (.ref b1), .unset, .unset, .unset, .unset] [(.int (1 : Int32)), (.int p4)])) (fun t k => XS.iconst X4.here hx rfl (hb hby at_17) k) ?_
  refine Go.on (B := T4.setTop (mkF m 19 #[.val (.int p1), .val (.int p2), .val (.int p3), .val (.int p4), .val (.ref b1), .unset, .unset, .unset, .unset] [(.int (p4 &&& (1 : Int32)))])) (fun t k => XS.iand X4.here hx rfl (hb hby at_18) rfl k) ?_
  have sg19_5 : ∀ (z19_a5 : Int32) (hz19_a5 : z19_a5 = (if (p4 &&& (1 : Int32)) = (0 : Int32) then (0 : Int32) else (1 : Int32))), ∀ t, Steps p.tables e below (T4.setTop (mkF m 27 #[.val (.int p1), .val (.int p2), .val (.int p3), .val (.int p4), .val (.ref b1), .unset, .unset, .unset, .unset] [(.int z19_a5)])) t → Steps p.tables e below (T4.setTop (mkF m 19 #[.val (.int p1), .val (.int p2), .val (.int p3), .val (.int p4), .val (.ref b1), .unset, .unset, .unset, .unset] [(.int (p4 &&& (1 : Int32)))])) t := by
    intro z19_a5 hz19_a5 t k
    show Steps p.tables e below (T4.setTop (mkF m 19 #[.val (.int p1), .val (.int p2), .val (.int p3), .val (.int p4), .val (.ref b1), .unset, .unset, .unset, .unset] [(.int (p4 &&& (1 : Int32)))])) _
    by_cases hc19_6 : (p4 &&& (1 : Int32)) = (0 : Int32)
    · first | rw [if_pos hc19_6] at hz19_a5 | skip
      refine XS.ifYes X4.here hx rfl (pc0 := 19) (pc' := 26) rfl (hb hby at_19) rfl ((if0 _ _).trans (teq hc19_6).1) (by decide) (by decide) ?_
      show Steps p.tables e below (T4.setTop (mkF m 26 #[.val (.int p1), .val (.int p2), .val (.int p3), .val (.int p4), .val (.ref b1), .unset, .unset, .unset, .unset] [])) _
      refine XS.iconst X4.here hx rfl (hb hby at_26) ?_
      show Steps p.tables e below (T4.setTop (mkF m 27 #[.val (.int p1), .val (.int p2), .val (.int p3), .val (.int p4), .val (.ref b1), .unset, .unset, .unset, .unset] [(.int (0 : Int32))])) _
      subst hz19_a5
      exact k
    · first | rw [if_neg hc19_6] at hz19_a5 | skip
      refine XS.ifNo X4.here hx rfl (hb hby at_19) rfl ((if0 _ _).trans (feq hc19_6).1) ?_
      show Steps p.tables e below (T4.setTop (mkF m 22 #[.val (.int p1), .val (.int p2), .val (.int p3), .val (.int p4), .val (.ref b1), .unset, .unset, .unset, .unset] [])) _
      refine XS.iconst X4.here hx rfl (hb hby at_22) ?_
      show Steps p.tables e below (T4.setTop (mkF m 23 #[.val (.int p1), .val (.int p2), .val (.int p3), .val (.int p4), .val (.ref b1), .unset, .unset, .unset, .unset] [(.int (1 : Int32))])) _
      refine XS.goto X4.here hx rfl (pc0 := 23) (pc' := 27) rfl (hb hby at_23) (by decide) (by decide) ?_
      show Steps p.tables e below (T4.setTop (mkF m 27 #[.val (.int p1), .val (.int p2), .val (.int p3), .val (.int p4), .val (.ref b1), .unset, .unset, .unset, .unset] [(.int (1 : Int32))])) _
      subst hz19_a5
      exact k
  obtain ⟨z19_a5, hz19_a5⟩ : ∃ z, z = (if (p4 &&& (1 : Int32)) = (0 : Int32) then (0 : Int32) else (1 : Int32)) := ⟨_, rfl⟩
  refine Go.on (sg19_5 z19_a5 hz19_a5) ?_
  refine Go.on (B := T4.setTop (mkF m 29 #[.val (.int p1), .val (.int p2), .val (.int p3), .val (.int p4), .val (.ref b1), .val (.int z19_a5), .unset, .unset, .unset] [])) (fun t k => XS.istore X4.here hx rfl (hb hby at_27) rfl (l' := #[.val (.int p1), .val (.int p2), .val (.int p3), .val (.int p4), .val (.ref b1), .val (.int z19_a5), .unset, .unset, .unset]) rfl k) ?_
  refine Go.on (B := T4.setTop (mkF m 31 #[.val (.int p1), .val (.int p2), .val (.int p3), .val (.int p4), .val (.ref b1), .val (.int z19_a5), .unset, .unset, .unset] [(.ref b1)])) (fun t k => XS.aload X4.here hx rfl (hb hby at_29) rfl rfl k) ?_
  obtain ⟨cq8, kq8, q8a, q8b, q8c⟩ := isOf hZ rfl G4a
  obtain ⟨_, _, ⟨T8, L8, k8, n8⟩, -, X8, ⟨Lc8, hQ8, l8, y8, z8⟩, st8⟩ := X4.virtualBack hx (y := (⟨"com/example/windlass/windlass/LevelRegistry", "current", "()I"⟩ : MethodName)) (z := (⟨"com/example/windlass/windlass/LevelRegistry", "current", "()I"⟩ : MethodName)) hown (mvT hZ (hw _ (List.mem_of_getElem? (i := 102) rfl))) (mvT hZ (hw _ (List.mem_of_getElem? (i := 103) rfl))) (notFace_of_selects (args := #[]) (mvT hZ (hw _ (List.mem_of_getElem? (i := 105) rfl)))) (mvT hZ (hw _ (List.mem_of_getElem? (i := 105) rfl))) (mvT hZ (hw _ (List.mem_of_getElem? (i := 104) rfl))) (by decide) (backOfWith (W := 0) (rcur l Z a0 hw [] b1 b2 (0 : Int32) T4.heap n0 Zs19 G4a G4b G4c f18 ne_b1_b2) hZ (hw _ (List.mem_of_getElem? (i := 106) rfl)) (hw _ (List.mem_of_getElem? (i := 2) rfl)) (by decide) (by decide)) q8a q8c (g := (mkF m 31 #[.val (.int p1), .val (.int p2), .val (.int p3), .val (.int p4), .val (.ref b1), .val (.int z19_a5), .unset, .unset, .unset] [(.ref b1)])) rfl (by rw [hml]; rfl) (Steps.refl _) (argsL := []) (rest := []) (lenOf pd_8 rfl) rfl (by show 2 * 0 + _ ≤ _; exact Nat.le_of_eq rfl) (hb hby at_31) (fun _ _ => ⟨rfl, rfl, (by decide : 10 + 0 ≤ _), (by decide : 101 + 0 ≤ _)⟩)
  dsimp only [Pt.U, Pt.locs, Pt.cells, Pt.slots] at X8 l8 y8 z8 st8 hQ8
  subst l8 y8 z8
  obtain ⟨rfl, N8q, K8q⟩ := hQ8
  have N8 := Fr.app N4 N8q
  have O_20 := O_15.keep K8q all0
  have f21 := G4a.keep K8q
  have f22 := f17.keep K8q
  have f23 := own_untk f18 K8q nin0
  have f24 := G4b.keep K8q nin0
  have f25 := G4c.keep K8q nin0
  have f26 := G4d.keep K8q nin0
  have f27 := G4e.keep K8q nin0
  have f28 := G4f.keep K8q
  have f29 := G4g.keep K8q nin0
  have Zs30 := Nat.le_trans Zs19 K8q.1
  refine Go.on (B := T8.setTop (mkF m 34 #[.val (.int p1), .val (.int p2), .val (.int p3), .val (.int p4), .val (.ref b1), .val (.int z19_a5), .unset, .unset, .unset] [(.int (0 : Int32))])) (fun t k => st8.trans k) ?_
  have hc34_9 : (0 : Int32) = (0 : Int32) := by decide
  refine Go.on (B := T8.setTop (mkF m 37 #[.val (.int p1), .val (.int p2), .val (.int p3), .val (.int p4), .val (.ref b1), .val (.int z19_a5), .unset, .unset, .unset] [])) (fun t k => XS.ifNo X8.here hx rfl (hb hby at_34) rfl ((if0 _ _).trans (teq hc34_9).2) k) ?_
  refine Go.on (B := T8.setTop (mkF m 38 #[.val (.int p1), .val (.int p2), .val (.int p3), .val (.int p4), .val (.ref b1), .val (.int z19_a5), .unset, .unset, .unset] [(.int (1 : Int32))])) (fun t k => XS.iconst X8.here hx rfl (hb hby at_37) k) ?_
  refine Go.on (B := T8.setTop (mkF m 42 #[.val (.int p1), .val (.int p2), .val (.int p3), .val (.int p4), .val (.ref b1), .val (.int z19_a5), .unset, .unset, .unset] [(.int (1 : Int32))])) (fun t k => XS.goto X8.here hx rfl (pc0 := 38) (pc' := 42) rfl (hb hby at_38) (by decide) (by decide) k) ?_
  refine Go.on (B := T8.setTop (mkF m 44 #[.val (.int p1), .val (.int p2), .val (.int p3), .val (.int p4), .val (.ref b1), .val (.int z19_a5), .val (.int (1 : Int32)), .unset, .unset] [])) (fun t k => XS.istore X8.here hx rfl (hb hby at_42) rfl (l' := #[.val (.int p1), .val (.int p2), .val (.int p3), .val (.int p4), .val (.ref b1), .val (.int z19_a5), .val (.int (1 : Int32)), .unset, .unset]) rfl k) ?_
  refine Go.on (B := T8.setTop (mkF m 46 #[.val (.int p1), .val (.int p2), .val (.int p3), .val (.int p4), .val (.ref b1), .val (.int z19_a5), .val (.int (1 : Int32)), .unset, .unset] [(.ref b1)])) (fun t k => XS.aload X8.here hx rfl (hb hby at_44) rfl rfl k) ?_
  refine Go.on (B := T8.setTop (mkF m 47 #[.val (.int p1), .val (.int p2), .val (.int p3), .val (.int p4), .val (.ref b1), .val (.int z19_a5), .val (.int (1 : Int32)), .unset, .unset] [(.int p1), (.ref b1)])) (fun t k => XS.iloadN X8.here hx rfl (hb hby at_46) rfl k) ?_
  obtain ⟨cq11, kq11, q11a, q11b, q11c⟩ := isOf hZ rfl f21
  obtain ⟨_, _, ⟨T11, L11, k11, n11⟩, -, X11, ⟨Lc11, hQ11, l11, y11, z11⟩, st11⟩ := X8.virtualBack hx (y := (⟨"com/example/windlass/windlass/LevelRegistry", "standAt", "(I)V"⟩ : MethodName)) (z := (⟨"com/example/windlass/windlass/LevelRegistry", "standAt", "(I)V"⟩ : MethodName)) hown (mvT hZ (hw _ (List.mem_of_getElem? (i := 109) rfl))) (mvT hZ (hw _ (List.mem_of_getElem? (i := 110) rfl))) (notFace_of_selects (args := #[]) (mvT hZ (hw _ (List.mem_of_getElem? (i := 112) rfl)))) (mvT hZ (hw _ (List.mem_of_getElem? (i := 112) rfl))) (mvT hZ (hw _ (List.mem_of_getElem? (i := 111) rfl))) (by decide) (backOf (W := 0) (rst l Z a0 hw [] b1 p1 (0 : Int32) (0 : Int32) b2 lv4 T8.heap n0 Zs30 f21 f25 f26 f24 f27 ge_b1) hZ (hw _ (List.mem_of_getElem? (i := 113) rfl)) (hw _ (List.mem_of_getElem? (i := 2) rfl)) (by decide) (by decide)) q11a q11c (g := (mkF m 47 #[.val (.int p1), .val (.int p2), .val (.int p3), .val (.int p4), .val (.ref b1), .val (.int z19_a5), .val (.int (1 : Int32)), .unset, .unset] [(.int p1), (.ref b1)])) rfl (by rw [hml]; rfl) (Steps.refl _) (argsL := [(.int p1)]) (rest := []) (lenOf pd_2 rfl) rfl (by show 2 * 0 + _ ≤ _; exact Nat.le_of_eq rfl) (hb hby at_47) (fun _ _ => ⟨rfl, rfl, (by decide : 10 + 0 ≤ _), (by decide : 101 + 0 ≤ _)⟩)
  dsimp only [Pt.U, Pt.locs, Pt.cells, Pt.slots] at X11 l11 y11 z11 st11 hQ11
  subst l11 y11 z11
  obtain ⟨rfl, N11q, K11q, G11_0, G11_1, G11_2, G11_3, G11_4⟩ := hQ11
  have N11 := Fr.app N8 N11q
  have O_31 := O_20.keep K11q (allS ge_b1 all0)
  have f32 := f21.keep K11q
  have f33 := f22.keep K11q
  have f34 := own_untk f23 K11q (ninS (Ne.symm ne_b1_b2) nin0)
  have f35 := f28.keep K11q
  have f36 := f29.keep K11q (ninS (Ne.symm ne_b1_lv4) nin0)
  have Zs37 := Nat.le_trans Zs30 K11q.1
  refine Go.on (B := T11.setTop (mkF m 50 #[.val (.int p1), .val (.int p2), .val (.int p3), .val (.int p4), .val (.ref b1), .val (.int z19_a5), .val (.int (1 : Int32)), .unset, .unset] [])) (fun t k => st11.trans k) ?_
  refine Go.on (B := T11.setTop (mkF m 52 #[.val (.int p1), .val (.int p2), .val (.int p3), .val (.int p4), .val (.ref b1), .val (.int z19_a5), .val (.int (1 : Int32)), .unset, .unset] [(.int (1 : Int32))])) (fun t k => XS.iload X11.here hx rfl (hb hby at_50) rfl k) ?_
  have hc52_12 : ¬ ((1 : Int32) = (0 : Int32)) := by decide
  refine Go.on (B := T11.setTop (mkF m 55 #[.val (.int p1), .val (.int p2), .val (.int p3), .val (.int p4), .val (.ref b1), .val (.int z19_a5), .val (.int (1 : Int32)), .unset, .unset] [])) (fun t k => XS.ifNo X11.here hx rfl (hb hby at_52) rfl ((if0 _ _).trans (feq hc52_12).1) k) ?_
  refine Go.on (B := T11.setTop (mkF m 57 #[.val (.int p1), .val (.int p2), .val (.int p3), .val (.int p4), .val (.ref b1), .val (.int z19_a5), .val (.int (1 : Int32)), .unset, .unset] [(.ref b1)])) (fun t k => XS.aload X11.here hx rfl (hb hby at_55) rfl rfl k) ?_
  obtain ⟨cq13, kq13, q13a, q13b, q13c⟩ := isOf hZ rfl G11_0
  obtain ⟨_, _, ⟨T13, L13, k13, n13⟩, -, X13, ⟨Lc13, hQ13, l13, y13, z13⟩, st13⟩ := X11.virtualBack hx (y := (⟨"com/example/windlass/windlass/LevelRegistry", "current", "()I"⟩ : MethodName)) (z := (⟨"com/example/windlass/windlass/LevelRegistry", "current", "()I"⟩ : MethodName)) hown (mvT hZ (hw _ (List.mem_of_getElem? (i := 102) rfl))) (mvT hZ (hw _ (List.mem_of_getElem? (i := 103) rfl))) (notFace_of_selects (args := #[]) (mvT hZ (hw _ (List.mem_of_getElem? (i := 105) rfl)))) (mvT hZ (hw _ (List.mem_of_getElem? (i := 105) rfl))) (mvT hZ (hw _ (List.mem_of_getElem? (i := 104) rfl))) (by decide) (backOfWith (W := 0) (rcur l Z a0 hw [] b1 b2 p1 T11.heap n0 Zs37 G11_0 G11_3 G11_1 f34 ne_b1_b2) hZ (hw _ (List.mem_of_getElem? (i := 106) rfl)) (hw _ (List.mem_of_getElem? (i := 2) rfl)) (by decide) (by decide)) q13a q13c (g := (mkF m 57 #[.val (.int p1), .val (.int p2), .val (.int p3), .val (.int p4), .val (.ref b1), .val (.int z19_a5), .val (.int (1 : Int32)), .unset, .unset] [(.ref b1)])) rfl (by rw [hml]; rfl) (Steps.refl _) (argsL := []) (rest := []) (lenOf pd_8 rfl) rfl (by show 2 * 0 + _ ≤ _; exact Nat.le_of_eq rfl) (hb hby at_57) (fun _ _ => ⟨rfl, rfl, (by decide : 10 + 0 ≤ _), (by decide : 101 + 0 ≤ _)⟩)
  dsimp only [Pt.U, Pt.locs, Pt.cells, Pt.slots] at X13 l13 y13 z13 st13 hQ13
  subst l13 y13 z13
  obtain ⟨rfl, N13q, K13q⟩ := hQ13
  have N13 := Fr.app N11 N13q
  have O_38 := O_31.keep K13q all0
  have f39 := G11_0.keep K13q
  have f40 := f33.keep K13q
  have f41 := own_untk f34 K13q nin0
  have f42 := f35.keep K13q
  have f43 := f36.keep K13q nin0
  have f44 := G11_1.keep K13q nin0
  have f45 := G11_2.keep K13q nin0
  have f46 := G11_3.keep K13q nin0
  have f47 := G11_4.keep K13q nin0
  have Zs48 := Nat.le_trans Zs37 K13q.1
  refine Go.on (B := T13.setTop (mkF m 60 #[.val (.int p1), .val (.int p2), .val (.int p3), .val (.int p4), .val (.ref b1), .val (.int z19_a5), .val (.int (1 : Int32)), .unset, .unset] [(.int p1)])) (fun t k => st13.trans k) ?_
  refine Go.on (B := T13.setTop (mkF m 61 #[.val (.int p1), .val (.int p2), .val (.int p3), .val (.int p4), .val (.ref b1), .val (.int z19_a5), .val (.int (1 : Int32)), .unset, .unset] [(.int p1), (.int p1)])) (fun t k => XS.iloadN X13.here hx rfl (hb hby at_60) rfl k) ?_
  have hc61_14 : p1 = p1 := rfl
  refine Go.on (B := T13.setTop (mkF m 64 #[.val (.int p1), .val (.int p2), .val (.int p3), .val (.int p4), .val (.ref b1), .val (.int z19_a5), .val (.int (1 : Int32)), .unset, .unset] [])) (fun t k => XS.icmpNo X13.here hx rfl (hb hby at_61) rfl (teq hc61_14).2 k) ?_
  refine Go.on (B := T13.setTop (mkF m 65 #[.val (.int p1), .val (.int p2), .val (.int p3), .val (.int p4), .val (.ref b1), .val (.int z19_a5), .val (.int (1 : Int32)), .unset, .unset] [(.int (1 : Int32))])) (fun t k => XS.iconst X13.here hx rfl (hb hby at_64) k) ?_
  refine Go.on (B := T13.setTop (mkF m 69 #[.val (.int p1), .val (.int p2), .val (.int p3), .val (.int p4), .val (.ref b1), .val (.int z19_a5), .val (.int (1 : Int32)), .unset, .unset] [(.int (1 : Int32))])) (fun t k => XS.goto X13.here hx rfl (pc0 := 65) (pc' := 69) rfl (hb hby at_65) (by decide) (by decide) k) ?_
  refine Go.on (B := T13.setTop (mkF m 71 #[.val (.int p1), .val (.int p2), .val (.int p3), .val (.int p4), .val (.ref b1), .val (.int z19_a5), .val (.int (1 : Int32)), .unset, .unset] [])) (fun t k => XS.istore X13.here hx rfl (hb hby at_69) rfl (l' := #[.val (.int p1), .val (.int p2), .val (.int p3), .val (.int p4), .val (.ref b1), .val (.int z19_a5), .val (.int (1 : Int32)), .unset, .unset]) rfl k) ?_
  refine Go.on (B := T13.setTop (mkF m 73 #[.val (.int p1), .val (.int p2), .val (.int p3), .val (.int p4), .val (.ref b1), .val (.int z19_a5), .val (.int (1 : Int32)), .unset, .unset] [(.ref b1)])) (fun t k => XS.aload X13.here hx rfl (hb hby at_71) rfl rfl k) ?_
  refine Go.on (B := T13.setTop (mkF m 74 #[.val (.int p1), .val (.int p2), .val (.int p3), .val (.int p4), .val (.ref b1), .val (.int z19_a5), .val (.int (1 : Int32)), .unset, .unset] [(.int p1), (.ref b1)])) (fun t k => XS.iloadN X13.here hx rfl (hb hby at_73) rfl k) ?_
  refine Go.on (B := T13.setTop (mkF m 75 #[.val (.int p1), .val (.int p2), .val (.int p3), .val (.int p4), .val (.ref b1), .val (.int z19_a5), .val (.int (1 : Int32)), .unset, .unset] [(.int p2), (.int p1), (.ref b1)])) (fun t k => XS.iloadN X13.here hx rfl (hb hby at_74) rfl k) ?_
  refine Go.on (B := T13.setTop (mkF m 77 #[.val (.int p1), .val (.int p2), .val (.int p3), .val (.int p4), .val (.ref b1), .val (.int z19_a5), .val (.int (1 : Int32)), .unset, .unset] [(.int z19_a5), (.int p2), (.int p1), (.ref b1)])) (fun t k => XS.iload X13.here hx rfl (hb hby at_75) rfl k) ?_
  obtain ⟨cq16, kq16, q16a, q16b, q16c⟩ := isOf hZ rfl f39
  obtain ⟨_, _, ⟨T16, L16, k16, n16⟩, -, X16, ⟨Lc16, hQ16, l16, y16, z16⟩, st16⟩ := X13.virtualBack hx (y := (⟨"com/example/windlass/windlass/LevelRegistry", "enterNextUp", "(IIZ)I"⟩ : MethodName)) (z := (⟨"com/example/windlass/windlass/LevelRegistry", "enterNextUp", "(IIZ)I"⟩ : MethodName)) hown (mvT hZ (hw _ (List.mem_of_getElem? (i := 116) rfl))) (mvT hZ (hw _ (List.mem_of_getElem? (i := 117) rfl))) (notFace_of_selects (args := #[]) (mvT hZ (hw _ (List.mem_of_getElem? (i := 119) rfl)))) (mvT hZ (hw _ (List.mem_of_getElem? (i := 119) rfl))) (mvT hZ (hw _ (List.mem_of_getElem? (i := 118) rfl))) (by decide) (backOfWith (W := 0) (ren l Z a0 hw [] b1 p1 p2 z19_a5 p1 p1 b2 lv4 ica icc T13.heap n0 Zs48 f39 f44 f45 f46 f47 f42 f43 f41 ne_b1_b2 (Ne.symm ne_b2_lv4) (Ne.symm ne_b1_lv4) ge_b1 ge_b2 O_38 S_high S_icache B_icache) hZ (hw _ (List.mem_of_getElem? (i := 120) rfl)) (hw _ (List.mem_of_getElem? (i := 2) rfl)) (by decide) (by decide)) q16a q16c (g := (mkF m 77 #[.val (.int p1), .val (.int p2), .val (.int p3), .val (.int p4), .val (.ref b1), .val (.int z19_a5), .val (.int (1 : Int32)), .unset, .unset] [(.int z19_a5), (.int p2), (.int p1), (.ref b1)])) rfl (by rw [hml]; rfl) (Steps.refl _) (argsL := [(.int p1), (.int p2), (.int z19_a5)]) (rest := []) (lenOf pd_9 rfl) rfl (by show 2 * 0 + _ ≤ _; exact Nat.le_of_eq rfl) (hb hby at_77) (fun _ _ => ⟨rfl, rfl, (by decide : 10 + 1 ≤ _), (by decide : 101 + 1 ≤ _)⟩)
  dsimp only [Pt.U, Pt.locs, Pt.cells, Pt.slots] at X16 l16 y16 z16 st16 hQ16
  subst l16 y16 z16
  obtain ⟨rfl, N16q, K16q, G16_0, G16_1, G16_2, G16_3, G16_4⟩ := hQ16
  have N16 := Fr.app N13 N16q
  have O_49 := O_38.keep K16q (allS ge_b1 all0)
  have f50 := f39.keep K16q
  have f51 := f40.keep K16q
  have f52 := own_untk f41 K16q (ninS (Ne.symm ne_b1_b2) nin0)
  have f53 := f42.keep K16q
  have f54 := f43.keep K16q (ninS (Ne.symm ne_b1_lv4) nin0)
  have Zs55 := Nat.le_trans Zs48 K16q.1
  refine Go.on (B := T16.setTop (mkF m 80 #[.val (.int p1), .val (.int p2), .val (.int p3), .val (.int p4), .val (.ref b1), .val (.int z19_a5), .val (.int (1 : Int32)), .unset, .unset] [(.int (if z19_a5 = (0 : Int32) then p2 else (p1 + (1 : Int32))))])) (fun t k => st16.trans k) ?_
  generalize hv80_17 : (if z19_a5 = (0 : Int32) then p2 else (p1 + (1 : Int32))) = v80_17
  refine Go.on (B := T16.setTop (mkF m 82 #[.val (.int p1), .val (.int p2), .val (.int p3), .val (.int p4), .val (.ref b1), .val (.int z19_a5), .val (.int (1 : Int32)), .val (.int v80_17), .unset] [])) (fun t k => XS.istore X16.here hx rfl (hb hby at_80) rfl (l' := #[.val (.int p1), .val (.int p2), .val (.int p3), .val (.int p4), .val (.ref b1), .val (.int z19_a5), .val (.int (1 : Int32)), .val (.int v80_17), .unset]) rfl k) ?_
  refine Go.on (B := T16.setTop (mkF m 84 #[.val (.int p1), .val (.int p2), .val (.int p3), .val (.int p4), .val (.ref b1), .val (.int z19_a5), .val (.int (1 : Int32)), .val (.int v80_17), .unset] [(.int z19_a5)])) (fun t k => XS.iload X16.here hx rfl (hb hby at_82) rfl k) ?_
  have sg84_18 : ∀ (z84_a18 : Int32) (hz84_a18 : z84_a18 = (if z19_a5 = (0 : Int32) then p2 else (p1 + (1 : Int32)))), ∀ t, Steps p.tables e below (T16.setTop (mkF m 94 #[.val (.int p1), .val (.int p2), .val (.int p3), .val (.int p4), .val (.ref b1), .val (.int z19_a5), .val (.int (1 : Int32)), .val (.int v80_17), .unset] [(.int z84_a18)])) t → Steps p.tables e below (T16.setTop (mkF m 84 #[.val (.int p1), .val (.int p2), .val (.int p3), .val (.int p4), .val (.ref b1), .val (.int z19_a5), .val (.int (1 : Int32)), .val (.int v80_17), .unset] [(.int z19_a5)])) t := by
    intro z84_a18 hz84_a18 t k
    show Steps p.tables e below (T16.setTop (mkF m 84 #[.val (.int p1), .val (.int p2), .val (.int p3), .val (.int p4), .val (.ref b1), .val (.int z19_a5), .val (.int (1 : Int32)), .val (.int v80_17), .unset] [(.int z19_a5)])) _
    by_cases hc84_19 : z19_a5 = (0 : Int32)
    · first | rw [if_pos hc84_19] at hz84_a18 | skip
      refine XS.ifYes X16.here hx rfl (pc0 := 84) (pc' := 93) rfl (hb hby at_84) rfl ((if0 _ _).trans (teq hc84_19).1) (by decide) (by decide) ?_
      show Steps p.tables e below (T16.setTop (mkF m 93 #[.val (.int p1), .val (.int p2), .val (.int p3), .val (.int p4), .val (.ref b1), .val (.int z19_a5), .val (.int (1 : Int32)), .val (.int v80_17), .unset] [])) _
      refine XS.iloadN X16.here hx rfl (hb hby at_93) rfl ?_
      show Steps p.tables e below (T16.setTop (mkF m 94 #[.val (.int p1), .val (.int p2), .val (.int p3), .val (.int p4), .val (.ref b1), .val (.int z19_a5), .val (.int (1 : Int32)), .val (.int v80_17), .unset] [(.int p2)])) _
      subst hz84_a18
      exact k
    · first | rw [if_neg hc84_19] at hz84_a18 | skip
      refine XS.ifNo X16.here hx rfl (hb hby at_84) rfl ((if0 _ _).trans (feq hc84_19).1) ?_
      show Steps p.tables e below (T16.setTop (mkF m 87 #[.val (.int p1), .val (.int p2), .val (.int p3), .val (.int p4), .val (.ref b1), .val (.int z19_a5), .val (.int (1 : Int32)), .val (.int v80_17), .unset] [])) _
      refine XS.iloadN X16.here hx rfl (hb hby at_87) rfl ?_
      show Steps p.tables e below (T16.setTop (mkF m 88 #[.val (.int p1), .val (.int p2), .val (.int p3), .val (.int p4), .val (.ref b1), .val (.int z19_a5), .val (.int (1 : Int32)), .val (.int v80_17), .unset] [(.int p1)])) _
      refine XS.iconst X16.here hx rfl (hb hby at_88) ?_
      show Steps p.tables e below (T16.setTop (mkF m 89 #[.val (.int p1), .val (.int p2), .val (.int p3), .val (.int p4), .val (.ref b1), .val (.int z19_a5), .val (.int (1 : Int32)), .val (.int v80_17), .unset] [(.int (1 : Int32)), (.int p1)])) _
      refine XS.iadd X16.here hx rfl (hb hby at_89) rfl ?_
      show Steps p.tables e below (T16.setTop (mkF m 90 #[.val (.int p1), .val (.int p2), .val (.int p3), .val (.int p4), .val (.ref b1), .val (.int z19_a5), .val (.int (1 : Int32)), .val (.int v80_17), .unset] [(.int (p1 + (1 : Int32)))])) _
      refine XS.goto X16.here hx rfl (pc0 := 90) (pc' := 94) rfl (hb hby at_90) (by decide) (by decide) ?_
      show Steps p.tables e below (T16.setTop (mkF m 94 #[.val (.int p1), .val (.int p2), .val (.int p3), .val (.int p4), .val (.ref b1), .val (.int z19_a5), .val (.int (1 : Int32)), .val (.int v80_17), .unset] [(.int (p1 + (1 : Int32)))])) _
      subst hz84_a18
      exact k
  obtain ⟨z84_a18, hz84_a18⟩ : ∃ z, z = (if z19_a5 = (0 : Int32) then p2 else (p1 + (1 : Int32))) := ⟨_, rfl⟩
  refine Go.on (sg84_18 z84_a18 hz84_a18) ?_
  refine Go.on (B := T16.setTop (mkF m 96 #[.val (.int p1), .val (.int p2), .val (.int p3), .val (.int p4), .val (.ref b1), .val (.int z19_a5), .val (.int (1 : Int32)), .val (.int v80_17), .val (.int z84_a18)] [])) (fun t k => XS.istore X16.here hx rfl (hb hby at_94) rfl (l' := #[.val (.int p1), .val (.int p2), .val (.int p3), .val (.int p4), .val (.ref b1), .val (.int z19_a5), .val (.int (1 : Int32)), .val (.int v80_17), .val (.int z84_a18)]) rfl k) ?_
  refine Go.on (B := T16.setTop (mkF m 98 #[.val (.int p1), .val (.int p2), .val (.int p3), .val (.int p4), .val (.ref b1), .val (.int z19_a5), .val (.int (1 : Int32)), .val (.int v80_17), .val (.int z84_a18)] [(.int (1 : Int32))])) (fun t k => XS.iload X16.here hx rfl (hb hby at_96) rfl k) ?_
  have hc98_21 : ¬ ((1 : Int32) = (0 : Int32)) := by decide
  refine Go.on (B := T16.setTop (mkF m 101 #[.val (.int p1), .val (.int p2), .val (.int p3), .val (.int p4), .val (.ref b1), .val (.int z19_a5), .val (.int (1 : Int32)), .val (.int v80_17), .val (.int z84_a18)] [])) (fun t k => XS.ifNo X16.here hx rfl (hb hby at_98) rfl ((if0 _ _).trans (feq hc98_21).1) k) ?_
  refine Go.on (B := T16.setTop (mkF m 103 #[.val (.int p1), .val (.int p2), .val (.int p3), .val (.int p4), .val (.ref b1), .val (.int z19_a5), .val (.int (1 : Int32)), .val (.int v80_17), .val (.int z84_a18)] [(.int v80_17)])) (fun t k => XS.iload X16.here hx rfl (hb hby at_101) rfl k) ?_
  refine Go.on (B := T16.setTop (mkF m 105 #[.val (.int p1), .val (.int p2), .val (.int p3), .val (.int p4), .val (.ref b1), .val (.int z19_a5), .val (.int (1 : Int32)), .val (.int v80_17), .val (.int z84_a18)] [(.int z84_a18), (.int v80_17)])) (fun t k => XS.iload X16.here hx rfl (hb hby at_103) rfl k) ?_
  have hc105_22 : v80_17 = z84_a18 := by rw [← hv80_17, hz84_a18]
  refine Go.on (B := T16.setTop (mkF m 108 #[.val (.int p1), .val (.int p2), .val (.int p3), .val (.int p4), .val (.ref b1), .val (.int z19_a5), .val (.int (1 : Int32)), .val (.int v80_17), .val (.int z84_a18)] [])) (fun t k => XS.icmpNo X16.here hx rfl (hb hby at_105) rfl (teq hc105_22).2 k) ?_
  refine Go.on (B := T16.setTop (mkF m 109 #[.val (.int p1), .val (.int p2), .val (.int p3), .val (.int p4), .val (.ref b1), .val (.int z19_a5), .val (.int (1 : Int32)), .val (.int v80_17), .val (.int z84_a18)] [(.int (1 : Int32))])) (fun t k => XS.iconst X16.here hx rfl (hb hby at_108) k) ?_
  refine Go.on (B := T16.setTop (mkF m 113 #[.val (.int p1), .val (.int p2), .val (.int p3), .val (.int p4), .val (.ref b1), .val (.int z19_a5), .val (.int (1 : Int32)), .val (.int v80_17), .val (.int z84_a18)] [(.int (1 : Int32))])) (fun t k => XS.goto X16.here hx rfl (pc0 := 109) (pc' := 113) rfl (hb hby at_109) (by decide) (by decide) k) ?_
  refine Go.on (B := T16.setTop (mkF m 115 #[.val (.int p1), .val (.int p2), .val (.int p3), .val (.int p4), .val (.ref b1), .val (.int z19_a5), .val (.int (1 : Int32)), .val (.int v80_17), .val (.int z84_a18)] [])) (fun t k => XS.istore X16.here hx rfl (hb hby at_113) rfl (l' := #[.val (.int p1), .val (.int p2), .val (.int p3), .val (.int p4), .val (.ref b1), .val (.int z19_a5), .val (.int (1 : Int32)), .val (.int v80_17), .val (.int z84_a18)]) rfl k) ?_
  refine Go.on (B := T16.setTop (mkF m 117 #[.val (.int p1), .val (.int p2), .val (.int p3), .val (.int p4), .val (.ref b1), .val (.int z19_a5), .val (.int (1 : Int32)), .val (.int v80_17), .val (.int z84_a18)] [(.int (1 : Int32))])) (fun t k => XS.iload X16.here hx rfl (hb hby at_115) rfl k) ?_
  have hc117_24 : ¬ ((1 : Int32) = (0 : Int32)) := by decide
  refine Go.on (B := T16.setTop (mkF m 120 #[.val (.int p1), .val (.int p2), .val (.int p3), .val (.int p4), .val (.ref b1), .val (.int z19_a5), .val (.int (1 : Int32)), .val (.int v80_17), .val (.int z84_a18)] [])) (fun t k => XS.ifNo X16.here hx rfl (hb hby at_117) rfl ((if0 _ _).trans (feq hc117_24).1) k) ?_
  refine Go.on (B := T16.setTop (mkF m 122 #[.val (.int p1), .val (.int p2), .val (.int p3), .val (.int p4), .val (.ref b1), .val (.int z19_a5), .val (.int (1 : Int32)), .val (.int v80_17), .val (.int z84_a18)] [(.ref b1)])) (fun t k => XS.aload X16.here hx rfl (hb hby at_120) rfl rfl k) ?_
  obtain ⟨cq25, kq25, q25a, q25b, q25c⟩ := isOf hZ rfl G16_0
  obtain ⟨_, _, ⟨T25, L25, k25, n25⟩, -, X25, ⟨Lc25, hQ25, l25, y25, z25⟩, st25⟩ := X16.virtualBack hx (y := (⟨"com/example/windlass/windlass/LevelRegistry", "current", "()I"⟩ : MethodName)) (z := (⟨"com/example/windlass/windlass/LevelRegistry", "current", "()I"⟩ : MethodName)) hown (mvT hZ (hw _ (List.mem_of_getElem? (i := 102) rfl))) (mvT hZ (hw _ (List.mem_of_getElem? (i := 103) rfl))) (notFace_of_selects (args := #[]) (mvT hZ (hw _ (List.mem_of_getElem? (i := 105) rfl)))) (mvT hZ (hw _ (List.mem_of_getElem? (i := 105) rfl))) (mvT hZ (hw _ (List.mem_of_getElem? (i := 104) rfl))) (by decide) (backOfWith (W := 0) (rcur l Z a0 hw [] b1 b2 p1 T16.heap n0 Zs55 G16_0 G16_3 G16_1 f52 ne_b1_b2) hZ (hw _ (List.mem_of_getElem? (i := 106) rfl)) (hw _ (List.mem_of_getElem? (i := 2) rfl)) (by decide) (by decide)) q25a q25c (g := (mkF m 122 #[.val (.int p1), .val (.int p2), .val (.int p3), .val (.int p4), .val (.ref b1), .val (.int z19_a5), .val (.int (1 : Int32)), .val (.int v80_17), .val (.int z84_a18)] [(.ref b1)])) rfl (by rw [hml]; rfl) (Steps.refl _) (argsL := []) (rest := []) (lenOf pd_8 rfl) rfl (by show 2 * 0 + _ ≤ _; exact Nat.le_of_eq rfl) (hb hby at_122) (fun _ _ => ⟨rfl, rfl, (by decide : 11 + 0 ≤ _), (by decide : 102 + 0 ≤ _)⟩)
  dsimp only [Pt.U, Pt.locs, Pt.cells, Pt.slots] at X25 l25 y25 z25 st25 hQ25
  subst l25 y25 z25
  obtain ⟨rfl, N25q, K25q⟩ := hQ25
  have N25 := Fr.app N16 N25q
  have O_56 := O_49.keep K25q all0
  have f57 := G16_0.keep K25q
  have f58 := f51.keep K25q
  have f59 := own_untk f52 K25q nin0
  have f60 := f53.keep K25q
  have f61 := f54.keep K25q nin0
  have f62 := G16_1.keep K25q nin0
  have f63 := G16_2.keep K25q nin0
  have f64 := G16_3.keep K25q nin0
  have f65 := G16_4.keep K25q nin0
  have Zs66 := Nat.le_trans Zs55 K25q.1
  refine Go.on (B := T25.setTop (mkF m 125 #[.val (.int p1), .val (.int p2), .val (.int p3), .val (.int p4), .val (.ref b1), .val (.int z19_a5), .val (.int (1 : Int32)), .val (.int v80_17), .val (.int z84_a18)] [(.int p1)])) (fun t k => st25.trans k) ?_
  refine Go.on (B := T25.setTop (mkF m 126 #[.val (.int p1), .val (.int p2), .val (.int p3), .val (.int p4), .val (.ref b1), .val (.int z19_a5), .val (.int (1 : Int32)), .val (.int v80_17), .val (.int z84_a18)] [(.int p1), (.int p1)])) (fun t k => XS.iloadN X25.here hx rfl (hb hby at_125) rfl k) ?_
  have hc126_26 : p1 = p1 := rfl
  refine Go.on (B := T25.setTop (mkF m 129 #[.val (.int p1), .val (.int p2), .val (.int p3), .val (.int p4), .val (.ref b1), .val (.int z19_a5), .val (.int (1 : Int32)), .val (.int v80_17), .val (.int z84_a18)] [])) (fun t k => XS.icmpNo X25.here hx rfl (hb hby at_126) rfl (teq hc126_26).2 k) ?_
  refine Go.on (B := T25.setTop (mkF m 130 #[.val (.int p1), .val (.int p2), .val (.int p3), .val (.int p4), .val (.ref b1), .val (.int z19_a5), .val (.int (1 : Int32)), .val (.int v80_17), .val (.int z84_a18)] [(.int (1 : Int32))])) (fun t k => XS.iconst X25.here hx rfl (hb hby at_129) k) ?_
  refine Go.on (B := T25.setTop (mkF m 134 #[.val (.int p1), .val (.int p2), .val (.int p3), .val (.int p4), .val (.ref b1), .val (.int z19_a5), .val (.int (1 : Int32)), .val (.int v80_17), .val (.int z84_a18)] [(.int (1 : Int32))])) (fun t k => XS.goto X25.here hx rfl (pc0 := 130) (pc' := 134) rfl (hb hby at_130) (by decide) (by decide) k) ?_
  refine Go.on (B := T25.setTop (mkF m 136 #[.val (.int p1), .val (.int p2), .val (.int p3), .val (.int p4), .val (.ref b1), .val (.int z19_a5), .val (.int (1 : Int32)), .val (.int v80_17), .val (.int z84_a18)] [])) (fun t k => XS.istore X25.here hx rfl (hb hby at_134) rfl (l' := #[.val (.int p1), .val (.int p2), .val (.int p3), .val (.int p4), .val (.ref b1), .val (.int z19_a5), .val (.int (1 : Int32)), .val (.int v80_17), .val (.int z84_a18)]) rfl k) ?_
  refine Go.on (B := T25.setTop (mkF m 138 #[.val (.int p1), .val (.int p2), .val (.int p3), .val (.int p4), .val (.ref b1), .val (.int z19_a5), .val (.int (1 : Int32)), .val (.int v80_17), .val (.int z84_a18)] [(.ref b1)])) (fun t k => XS.aload X25.here hx rfl (hb hby at_136) rfl rfl k) ?_
  refine Go.on (B := T25.setTop (mkF m 139 #[.val (.int p1), .val (.int p2), .val (.int p3), .val (.int p4), .val (.ref b1), .val (.int z19_a5), .val (.int (1 : Int32)), .val (.int v80_17), .val (.int z84_a18)] [(.int p3), (.ref b1)])) (fun t k => XS.iloadN X25.here hx rfl (hb hby at_138) rfl k) ?_
  obtain ⟨cq28, kq28, q28a, q28b, q28c⟩ := isOf hZ rfl f57
  obtain ⟨_, _, ⟨T28, L28, k28, n28⟩, -, X28, ⟨Lc28, hQ28, l28, y28, z28⟩, st28⟩ := X25.virtualBack hx (y := (⟨"com/example/windlass/windlass/LevelRegistry", "standAt", "(I)V"⟩ : MethodName)) (z := (⟨"com/example/windlass/windlass/LevelRegistry", "standAt", "(I)V"⟩ : MethodName)) hown (mvT hZ (hw _ (List.mem_of_getElem? (i := 109) rfl))) (mvT hZ (hw _ (List.mem_of_getElem? (i := 110) rfl))) (notFace_of_selects (args := #[]) (mvT hZ (hw _ (List.mem_of_getElem? (i := 112) rfl)))) (mvT hZ (hw _ (List.mem_of_getElem? (i := 112) rfl))) (mvT hZ (hw _ (List.mem_of_getElem? (i := 111) rfl))) (by decide) (backOf (W := 0) (rst l Z a0 hw [] b1 p3 p1 (if z19_a5 = (0 : Int32) then p2 else (p1 + (1 : Int32))) b2 lv4 T25.heap n0 Zs66 f57 f62 f63 f64 f65 ge_b1) hZ (hw _ (List.mem_of_getElem? (i := 113) rfl)) (hw _ (List.mem_of_getElem? (i := 2) rfl)) (by decide) (by decide)) q28a q28c (g := (mkF m 139 #[.val (.int p1), .val (.int p2), .val (.int p3), .val (.int p4), .val (.ref b1), .val (.int z19_a5), .val (.int (1 : Int32)), .val (.int v80_17), .val (.int z84_a18)] [(.int p3), (.ref b1)])) rfl (by rw [hml]; rfl) (Steps.refl _) (argsL := [(.int p3)]) (rest := []) (lenOf pd_2 rfl) rfl (by show 2 * 0 + _ ≤ _; exact Nat.le_of_eq rfl) (hb hby at_139) (fun _ _ => ⟨rfl, rfl, (by decide : 11 + 0 ≤ _), (by decide : 102 + 0 ≤ _)⟩)
  dsimp only [Pt.U, Pt.locs, Pt.cells, Pt.slots] at X28 l28 y28 z28 st28 hQ28
  subst l28 y28 z28
  obtain ⟨rfl, N28q, K28q, G28_0, G28_1, G28_2, G28_3, G28_4⟩ := hQ28
  have N28 := Fr.app N25 N28q
  have O_67 := O_56.keep K28q (allS ge_b1 all0)
  have f68 := f57.keep K28q
  have f69 := f58.keep K28q
  have f70 := own_untk f59 K28q (ninS (Ne.symm ne_b1_b2) nin0)
  have f71 := f60.keep K28q
  have f72 := f61.keep K28q (ninS (Ne.symm ne_b1_lv4) nin0)
  have Zs73 := Nat.le_trans Zs66 K28q.1
  refine Go.on (B := T28.setTop (mkF m 142 #[.val (.int p1), .val (.int p2), .val (.int p3), .val (.int p4), .val (.ref b1), .val (.int z19_a5), .val (.int (1 : Int32)), .val (.int v80_17), .val (.int z84_a18)] [])) (fun t k => st28.trans k) ?_
  refine Go.on (B := T28.setTop (mkF m 144 #[.val (.int p1), .val (.int p2), .val (.int p3), .val (.int p4), .val (.ref b1), .val (.int z19_a5), .val (.int (1 : Int32)), .val (.int v80_17), .val (.int z84_a18)] [(.int (1 : Int32))])) (fun t k => XS.iload X28.here hx rfl (hb hby at_142) rfl k) ?_
  have hc144_29 : ¬ ((1 : Int32) = (0 : Int32)) := by decide
  refine Go.on (B := T28.setTop (mkF m 147 #[.val (.int p1), .val (.int p2), .val (.int p3), .val (.int p4), .val (.ref b1), .val (.int z19_a5), .val (.int (1 : Int32)), .val (.int v80_17), .val (.int z84_a18)] [])) (fun t k => XS.ifNo X28.here hx rfl (hb hby at_144) rfl ((if0 _ _).trans (feq hc144_29).1) k) ?_
  refine Go.on (B := T28.setTop (mkF m 149 #[.val (.int p1), .val (.int p2), .val (.int p3), .val (.int p4), .val (.ref b1), .val (.int z19_a5), .val (.int (1 : Int32)), .val (.int v80_17), .val (.int z84_a18)] [(.ref b1)])) (fun t k => XS.aload X28.here hx rfl (hb hby at_147) rfl rfl k) ?_
  obtain ⟨cq30, kq30, q30a, q30b, q30c⟩ := isOf hZ rfl G28_0
  obtain ⟨_, _, ⟨T30, L30, k30, n30⟩, -, X30, ⟨Lc30, hQ30, l30, y30, z30⟩, st30⟩ := X28.virtualBack hx (y := (⟨"com/example/windlass/windlass/LevelRegistry", "current", "()I"⟩ : MethodName)) (z := (⟨"com/example/windlass/windlass/LevelRegistry", "current", "()I"⟩ : MethodName)) hown (mvT hZ (hw _ (List.mem_of_getElem? (i := 102) rfl))) (mvT hZ (hw _ (List.mem_of_getElem? (i := 103) rfl))) (notFace_of_selects (args := #[]) (mvT hZ (hw _ (List.mem_of_getElem? (i := 105) rfl)))) (mvT hZ (hw _ (List.mem_of_getElem? (i := 105) rfl))) (mvT hZ (hw _ (List.mem_of_getElem? (i := 104) rfl))) (by decide) (backOfWith (W := 0) (rcur l Z a0 hw [] b1 b2 p3 T28.heap n0 Zs73 G28_0 G28_3 G28_1 f70 ne_b1_b2) hZ (hw _ (List.mem_of_getElem? (i := 106) rfl)) (hw _ (List.mem_of_getElem? (i := 2) rfl)) (by decide) (by decide)) q30a q30c (g := (mkF m 149 #[.val (.int p1), .val (.int p2), .val (.int p3), .val (.int p4), .val (.ref b1), .val (.int z19_a5), .val (.int (1 : Int32)), .val (.int v80_17), .val (.int z84_a18)] [(.ref b1)])) rfl (by rw [hml]; rfl) (Steps.refl _) (argsL := []) (rest := []) (lenOf pd_8 rfl) rfl (by show 2 * 0 + _ ≤ _; exact Nat.le_of_eq rfl) (hb hby at_149) (fun _ _ => ⟨rfl, rfl, (by decide : 11 + 0 ≤ _), (by decide : 102 + 0 ≤ _)⟩)
  dsimp only [Pt.U, Pt.locs, Pt.cells, Pt.slots] at X30 l30 y30 z30 st30 hQ30
  subst l30 y30 z30
  obtain ⟨rfl, N30q, K30q⟩ := hQ30
  have N30 := Fr.app N28 N30q
  have O_74 := O_67.keep K30q all0
  have f75 := G28_0.keep K30q
  have f76 := f69.keep K30q
  have f77 := own_untk f70 K30q nin0
  have f78 := f71.keep K30q
  have f79 := f72.keep K30q nin0
  have f80 := G28_1.keep K30q nin0
  have f81 := G28_2.keep K30q nin0
  have f82 := G28_3.keep K30q nin0
  have f83 := G28_4.keep K30q nin0
  have Zs84 := Nat.le_trans Zs73 K30q.1
  refine Go.on (B := T30.setTop (mkF m 152 #[.val (.int p1), .val (.int p2), .val (.int p3), .val (.int p4), .val (.ref b1), .val (.int z19_a5), .val (.int (1 : Int32)), .val (.int v80_17), .val (.int z84_a18)] [(.int p3)])) (fun t k => st30.trans k) ?_
  refine Go.on (B := T30.setTop (mkF m 153 #[.val (.int p1), .val (.int p2), .val (.int p3), .val (.int p4), .val (.ref b1), .val (.int z19_a5), .val (.int (1 : Int32)), .val (.int v80_17), .val (.int z84_a18)] [(.int p3), (.int p3)])) (fun t k => XS.iloadN X30.here hx rfl (hb hby at_152) rfl k) ?_
  have hc153_31 : p3 = p3 := rfl
  refine Go.on (B := T30.setTop (mkF m 156 #[.val (.int p1), .val (.int p2), .val (.int p3), .val (.int p4), .val (.ref b1), .val (.int z19_a5), .val (.int (1 : Int32)), .val (.int v80_17), .val (.int z84_a18)] [])) (fun t k => XS.icmpNo X30.here hx rfl (hb hby at_153) rfl (teq hc153_31).2 k) ?_
  refine Go.on (B := T30.setTop (mkF m 157 #[.val (.int p1), .val (.int p2), .val (.int p3), .val (.int p4), .val (.ref b1), .val (.int z19_a5), .val (.int (1 : Int32)), .val (.int v80_17), .val (.int z84_a18)] [(.int (1 : Int32))])) (fun t k => XS.iconst X30.here hx rfl (hb hby at_156) k) ?_
  refine Go.on (B := T30.setTop (mkF m 161 #[.val (.int p1), .val (.int p2), .val (.int p3), .val (.int p4), .val (.ref b1), .val (.int z19_a5), .val (.int (1 : Int32)), .val (.int v80_17), .val (.int z84_a18)] [(.int (1 : Int32))])) (fun t k => XS.goto X30.here hx rfl (pc0 := 157) (pc' := 161) rfl (hb hby at_157) (by decide) (by decide) k) ?_
  refine Go.on (B := T30.setTop (mkF m 163 #[.val (.int p1), .val (.int p2), .val (.int p3), .val (.int p4), .val (.ref b1), .val (.int z19_a5), .val (.int (1 : Int32)), .val (.int v80_17), .val (.int z84_a18)] [])) (fun t k => XS.istore X30.here hx rfl (hb hby at_161) rfl (l' := #[.val (.int p1), .val (.int p2), .val (.int p3), .val (.int p4), .val (.ref b1), .val (.int z19_a5), .val (.int (1 : Int32)), .val (.int v80_17), .val (.int z84_a18)]) rfl k) ?_
  refine Go.on (B := T30.setTop (mkF m 165 #[.val (.int p1), .val (.int p2), .val (.int p3), .val (.int p4), .val (.ref b1), .val (.int z19_a5), .val (.int (1 : Int32)), .val (.int v80_17), .val (.int z84_a18)] [(.int (1 : Int32))])) (fun t k => XS.iload X30.here hx rfl (hb hby at_163) rfl k) ?_
  obtain ⟨fs, hr, hrun, hended, hW, hsame⟩ := X30.leave (v := some (.int (1 : Int32))) (fun h => by rw [Bd.returns] at h; cases h)
  refine ⟨_, _, ?_, hrun, hended, _, _, rfl, ?_, ⟨_, rfl⟩, hW, hsame.mono (by decide) (by decide)⟩
  · exact retN X30 hx (t := .boolean) Bd.returns (by simp) (hb hby at_165) hr
  · show Q_rm0 Z p1 p2 p3 p4 da ica icc h0 n0 _ T30.heap _
    exact ⟨rfl, N30⟩
theorem own_idx128 {s : State} {args : Array Value} {j : Int32} (nn : ¬ j < 0) : (Term.sub (.index 0) (.int (128 : Int32))).eval args s none [j.toNatClampNeg] s = some (.int (j - (128 : Int32))) := by
  have q := idx_at (args := args) (s := s) (first := s) (o := none) nn
  simp [Term.eval] at q ⊢
  rw [q]
theorem own_boxI {s : State} {args : Array Value} {ca : Addr} {cc : Cell} (e : (Term.static "java/lang/Integer$IntegerCache" "cache" "[Ljava/lang/Integer;").eval args s none [] s = some (.ref ca)) (A : Arr s s.heap ca cc (.object "java/lang/Integer")) (h1 : (Jvm.Cond.eq (Term.length (Term.static "java/lang/Integer$IntegerCache" "cache" "[Ljava/lang/Integer;")) (Term.int (256 : Int32))).value args s none s [] = some true)
    (h2 : (Jvm.Cond.all (Term.static "java/lang/Integer$IntegerCache" "cache" "[Ljava/lang/Integer;") (.and (.exactly (.elem (Term.static "java/lang/Integer$IntegerCache" "cache" "[Ljava/lang/Integer;") (.index 0)) "java/lang/Integer") (.eq (.field (.elem (Term.static "java/lang/Integer$IntegerCache" "cache" "[Ljava/lang/Integer;") (.index 0)) "java/lang/Integer" "value" "I") (.sub (.index 0) (.int (128 : Int32)))))).value args s none s [] = some true) : Bxs s ca cc "java/lang/Integer" "I" (256 : Int32) (fun j => .int (j - (128 : Int32))) := by
  have l1 := eqv_i (Term.int_eval (256 : Int32)) h1
  have l2 := SBG.length_lt e (A.fin (Vm.Alike.refl _)) l1
  obtain ⟨x, c', e1, e2, e3⟩ := Term.length_spec l1
  cases e.symm.trans e1
  cases (A.fin (Vm.Alike.refl _)).symm.trans e2
  refine Bxs.start (fun idx => e) A l2 (Value.int.inj e3).symm (by decide) h2 (fun X j nn h => ?_)
  exact eqv_i (own_idx128 nn) h
set_option maxRecDepth 65536 in
set_option maxHeartbeats 40000000 in
theorem comes_1 {Post : Tables → Env → Array Value → State → Outcome → State → Prop} (hpost : ∀ tb e args s v u, (limb_1_1.after args s (.returned v) u = true ∧ limb_1_2.after args s (.returned v) u = true ∧ True) → FrameEnd s (.returned v) u (Jvm.fieldLocs frame_1_writes args s ++ Jvm.arrayLocs frame_1_arrays args s ++ Jvm.staticLocs frame_1_statics s) 32 320 → Post tb e args s (.returned v) u) :
    ArmFor flags0 classFile x code maxLocals ret World_1 tables_1 room_1 Calls_1 rest_1 Pre_1 Post := by
  intro l hfl _ _ p e ha hc hk s m args below hf hA hF happ hP
  obtain ⟨hcalls, hrest, hpre⟩ := hP
  obtain ⟨-, -, -, hnamed, -, -, -, hat⟩ := (Spec.applies_iff hf).mp happ
  obtain ⟨hg, hn⟩ := and_e (Cond.before_iff.mp (show (Jvm.Cond.and given_1 narrow_1).before args s = true from hpre))
  obtain ⟨gc, gr0⟩ := and_e hg
  obtain ⟨ga0, gr1⟩ := and_e gr0
  obtain ⟨ga1, gr2⟩ := and_e gr1
  obtain ⟨ga2, gr3⟩ := and_e gr2
  obtain ⟨w0, w1, w2, w3, rfl⟩ : ∃ w0 w1 w2 w3 : Value, args = #[w0, w1, w2, w3] := by
    have hs : args.size = 4 := by simpa [Cond.value, given_1] using gc
    obtain ⟨L⟩ := args
    match L, hs with
    | [w0, w1, w2, w3], _ => exact ⟨w0, w1, w2, w3, rfl⟩
  have hw := fun d (hd : d ∈ tables_1) => atoms_spec (ws := Jvm.Cond.code x code maxLocals ret :: tables_1) hat d (List.mem_cons_of_mem _ hd)
  have hfit : Fit s := fun {y c} hc i hi => by
    obtain ⟨ha, rfl⟩ := Array.getElem?_eq_some_iff.mp hc
    have q := List.all_eq_true.mp ((Array.all_eq_true_iff_forall_mem.mp hF) _ (Array.getElem_mem ha)) i (List.mem_range.mpr hi)
    simpa [Array.getElem?_eq_getElem hi] using q
  obtain ⟨hsets, hown0⟩ := atoms_of _ (rest_1_c_eq ▸ (show rest_1_c.before _ s = true from hrest))
  have hr0 := Cond.before_iff.mp hown0
  obtain ⟨i0, ei0⟩ := is_v ga0
  obtain rfl : w0 = (.int i0) := Option.some.inj ei0
  obtain ⟨i1, ei1⟩ := is_v ga1
  obtain rfl : w1 = (.int i1) := Option.some.inj ei1
  obtain ⟨i2, ei2⟩ := is_v ga2
  obtain rfl : w2 = (.int i2) := Option.some.inj ei2
  obtain ⟨i3, ei3⟩ := is_v gr3
  obtain rfl : w3 = (.int i3) := Option.some.inj ei3
  obtain ⟨da, eda⟩ := arr_v (Cond.before_iff.mp (hsets _ (List.mem_of_getElem? (i := 6) rfl)))
  have S_de : Sta s s.heap "java/util/ArrayList" "DEFAULTCAPACITY_EMPTY_ELEMENTDATA" "[Ljava/lang/Object;" (.ref da) := Sta.start eda (Or.inr ⟨(hw _ (List.mem_of_getElem? (i := 74) rfl)), (hsets _ (List.mem_of_getElem? (i := 2) rfl))⟩)
  obtain ⟨ica, eic⟩ := arr_v (Cond.before_iff.mp (hsets _ (List.mem_of_getElem? (i := 13) rfl)))
  have S_icache : Sta s s.heap "java/lang/Integer$IntegerCache" "cache" "[Ljava/lang/Integer;" (.ref ica) := Sta.start eic (Or.inr ⟨(hw _ (List.mem_of_getElem? (i := 126) rfl)), (hsets _ (List.mem_of_getElem? (i := 11) rfl))⟩)
  obtain ⟨icc, Aic⟩ := Arr.start eic (Cond.before_iff.mp (hsets _ (List.mem_of_getElem? (i := 13) rfl)))
  have B_icache := own_boxI eic Aic (Cond.before_iff.mp (hsets _ (List.mem_of_getElem? (i := 15) rfl))) (Cond.before_iff.mp (hsets _ (List.mem_of_getElem? (i := 16) rfl)))
  have S_high : Sta s s.heap "java/lang/Integer$IntegerCache" "high" "I" (.int (127 : Int32)) := Sta.start (eqv_i (Term.int_eval (127 : Int32)) (Cond.before_iff.mp (hsets _ (List.mem_of_getElem? (i := 12) rfl)))) (Or.inl (hsets _ (List.mem_of_getElem? (i := 10) rfl)))
  obtain ⟨n, o, h1, h2, h3, _, L, rfl, ⟨rfl, N⟩, hq⟩ := rm0 l s _ hw tables_1 i0 i1 i2 i3 da ica icc s.heap s.heap.size (Nat.le_refl _) (Old.start s) S_de S_high S_icache B_icache p e ha hc hk s m _ below hf ((Spec.applies_iff_loose hf).mp happ).1 ⟨rfl, State.Warmed39.refl s, rfl⟩ trivial
  refine ⟨n, _, h1, h2, h3, hpost _ _ _ _ _ _ ⟨Cond.after_iff.mpr rfl, Cond.after_iff.mpr (eq_i res_at (Term.int_eval (1)) rfl), trivial⟩ ⟨hq.1, hq.2.1, (hq.2.2.sift fun y hy => Or.inr (N y hy)).mono (by decide) (by decide)⟩⟩
theorem main_1_1 : Claimed_1_1 := comes_1 fun _ _ _ _ _ _ h hF => ⟨h.1, hF⟩
theorem main_1_2 : Claimed_1_2 := comes_1 fun _ _ _ _ _ _ h hF => ⟨h.2.1, hF⟩
end Jvm.Pilot.@@N@@
namespace Jvm.Pilot.@@N@@
open Jvm Jvm.ClassFile Sem Op Lib Jvm.Free Jvm.Stand Jvm.Pilot.@@N@@.Jvm.D
/-! MADE BY PROGRAM (witnessworld.py) out of the Statement's table words and the real class files: 33 classes; the members and pool entries that the words name. The judged class is class 1, her method 1. -/
namespace start1
open Jvm.ClassFile
def u (s : String) : CpInfo := .utf8 (stringToUtf16 s)
/-- a pool by its gaps: so many unusable entries, then the entry; so many at the end -/
def gap : Nat → List CpInfo → List CpInfo
  | 0, r => r
  | n + 1, r => .unusable :: gap n r
def poolList (es : List (Nat × CpInfo)) (last : Nat) : List CpInfo := es.foldr (fun e r => gap e.1 (e.2 :: r)) (gap last [])
def pool (es : List (Nat × CpInfo)) (last : Nat) : Array CpInfo := ⟨poolList es last⟩
def fileOf (pool : Array CpInfo) (this : Nat) (attrs : Array Attribute := #[]) (ms : Array MethodInfo := #[]) (fl : Nat := 33) (sup : Nat := 0) (ifs : Array Nat := #[]) (fds : Array FieldInfo := #[]) : ClassFile where
  minorVersion := 0
  majorVersion := 65
  constantPool := pool
  accessFlags := fl
  thisClass := this
  superClass := sup
  interfaces := ifs
  fields := fds
  methods := ms
  attributes := attrs
def plain (name : String) (sup : Option ClassId) : Class where
  name := name
  kind := .ordinary
  loader := none
  accessFlags := 33
  super := sup
  interfaces := #[]
  cf := none
  fields := #[]
  methods := #[]
  instanceTypes := #[]
  staticTypes := #[]
  resolved := #[]
  callSites := []
  init := .initialized
  statics := none
  mirror := none

def pool0 : Array CpInfo := pool [(5, u "<init>"), (0, u "()V"), (1, .class_ 10), (1, u "java/lang/Object")] 113

def k0c0 : Code := { maxStack := 0, maxLocals := 1, code := object_method_1_code, exceptionTable := #[], attributes := #[] }
def k0m0 : Method := { name := "<init>", desc := "()V", sig := { parameters := [], returnType := none }, accessFlags := 1, code := some k0c0 }
/-- java/lang/Object -/
def k0 : Class := { plain "java/lang/Object" none with
  accessFlags := 33
  interfaces := #[]
  cf := some (fileOf pool0 8 #[] #[{ accessFlags := 1, nameIndex := 5, descriptorIndex := 6, attributes := #[] }] 33 0 #[] #[])
  fields := #[]
  methods := #[k0m0]
  instanceTypes := #[]
  staticTypes := #[]
  resolved := Array.replicate 124 none
  statics := none }

def pool1 : Array CpInfo := pool [(1, .methodref 2 3), (0, .class_ 4), (0, .nameAndType 5 6), (0, u "java/lang/Object"), (0, u "<init>"), (0, u "()V"), (0, .class_ 8), (0, u "com/example/windlass/windlass/LevelRegistry"), (0, .methodref 7 10), (0, .nameAndType 5 11), (0, u "(Ljava/lang/Object;)V"), (0, .methodref 7 13), (0, .nameAndType 14 15), (0, u "current"), (0, u "()I"), (0, .methodref 7 17), (0, .nameAndType 18 19), (0, u "standAt"), (0, u "(I)V"), (0, .methodref 7 21), (0, .nameAndType 22 23), (0, u "enterNextUp"), (0, u "(IIZ)I"), (0, .class_ 25), (0, u "com/example/windlass/windlass/LevelRegistryCurrentPinLaw"), (2, u "law"), (0, u "(IIII)Z")] 3

def k1m0 : Method := { name := "<init>", desc := "()V", sig := { parameters := [], returnType := none }, accessFlags := 1, code := none }
def k1c1 : Code := { maxStack := 4, maxLocals := 9, code := code, exceptionTable := #[], attributes := #[] }
def k1m1 : Method := { name := "law", desc := "(IIII)Z", sig := { parameters := [.int, .int, .int, .int], returnType := some .boolean }, accessFlags := 9, code := some k1c1 }
/-- com/example/windlass/windlass/LevelRegistryCurrentPinLaw -/
def k1 : Class := { plain "com/example/windlass/windlass/LevelRegistryCurrentPinLaw" (some 0) with
  accessFlags := 49
  interfaces := #[]
  cf := some (fileOf pool1 24 #[] #[{ accessFlags := 1, nameIndex := 5, descriptorIndex := 6, attributes := #[] }, { accessFlags := 9, nameIndex := 28, descriptorIndex := 29, attributes := #[] }] 49 2 #[] #[])
  fields := #[]
  methods := #[k1m0, k1m1]
  instanceTypes := #[]
  staticTypes := #[]
  resolved := Array.replicate 33 none
  statics := none }

def pool2 : Array CpInfo := pool [(1, .methodref 2 3), (0, .class_ 4), (0, .nameAndType 5 6), (0, u "java/lang/Object"), (0, u "<init>"), (0, u "()V"), (0, .class_ 8), (0, u "java/util/concurrent/CopyOnWriteArrayList"), (0, .methodref 7 3), (0, .fieldref 11 12), (0, .class_ 13), (0, .nameAndType 14 15), (0, u "com/example/windlass/windlass/LevelRegistry"), (0, u "sorters"), (0, u "Ljava/util/List;"), (0, .class_ 17), (0, u "java/util/TreeMap"), (0, .methodref 16 3), (0, .fieldref 11 20), (0, .nameAndType 21 22), (0, u "levels"), (0, u "Ljava/util/NavigableMap;"), (0, .class_ 24), (0, u "java/util/IdentityHashMap"), (0, .methodref 23 3), (0, .fieldref 11 27), (0, .nameAndType 28 29), (0, u "registrations"), (0, u "Ljava/util/Map;"), (0, .class_ 31), (0, u "java/util/ArrayList"), (0, .methodref 30 3), (0, .fieldref 11 34), (0, .nameAndType 35 15), (0, u "deferred"), (0, .fieldref 11 37), (0, .nameAndType 38 22), (0, u "stopsOutByLevel"), (0, .fieldref 11 40), (0, .nameAndType 41 42), (0, u "lock"), (0, u "Ljava/lang/Object;"), (27, .class_ 71), (0, u "com/example/windlass/windlass/LevelRegistry$Registration"), (3, .fieldref 11 76), (0, .nameAndType 77 78), (0, u "entered"), (0, u "I"), (2, .fieldref 11 82), (0, .nameAndType 83 78), (0, u "current"), (9, u "(Ljava/lang/Object;)Ljava/lang/Object;"), (8, .methodref 103 104), (0, .class_ 105), (0, .nameAndType 106 107), (0, u "java/lang/Integer"), (0, u "valueOf"), (0, u "(I)Ljava/lang/Integer;"), (5, .class_ 115), (1, u "java/util/NavigableMap"), (2, .class_ 119), (0, u "com/example/windlass/windlass/LevelRegistry$LevelServices"), (95, .interfaceMethodref 113 216), (0, .nameAndType 217 93), (0, u "higherKey"), (3, u "()I"), (48, u "(I)V"), (85, .class_ 358), (1, u "com/example/windlass/windlass/LevelRegistry$Call"), (145, u "(Ljava/lang/Object;)V"), (9, u "standAt"), (0, u "enterNextUp"), (0, u "(IIZ)I")] 199

def k2c0 : Code := { maxStack := 3, maxLocals := 2, code := prog_12_method_1_code, exceptionTable := #[], attributes := #[] }
def k2m0 : Method := { name := "<init>", desc := "(Ljava/lang/Object;)V", sig := { parameters := [(.object "java/lang/Object")], returnType := none }, accessFlags := 0, code := some k2c0 }
def k2c1 : Code := { maxStack := 2, maxLocals := 3, code := prog_12_method_6_code, exceptionTable := #[{ startPc := 7, endPc := 13, handlerPc := 14, catchType := 0 }, { startPc := 14, endPc := 17, handlerPc := 14, catchType := 0 }], attributes := #[] }
def k2m1 : Method := { name := "current", desc := "()I", sig := { parameters := [], returnType := some .int }, accessFlags := 0, code := some k2c1 }
def k2c2 : Code := { maxStack := 2, maxLocals := 2, code := prog_12_method_7_code, exceptionTable := #[], attributes := #[] }
def k2m2 : Method := { name := "standAt", desc := "(I)V", sig := { parameters := [.int], returnType := none }, accessFlags := 0, code := some k2c2 }
def k2c3 : Code := { maxStack := 3, maxLocals := 7, code := prog_12_method_8_code, exceptionTable := #[{ startPc := 8, endPc := 69, handlerPc := 70, catchType := 0 }, { startPc := 70, endPc := 75, handlerPc := 70, catchType := 0 }], attributes := #[] }
def k2m3 : Method := { name := "enterNextUp", desc := "(IIZ)I", sig := { parameters := [.int, .int, .boolean], returnType := some .int }, accessFlags := 0, code := some k2c3 }
/-- com/example/windlass/windlass/LevelRegistry -/
def k2 : Class := { plain "com/example/windlass/windlass/LevelRegistry" (some 0) with
  accessFlags := 48
  interfaces := #[]
  cf := some (fileOf pool2 11 #[.nestMembers #[356, 70, 118]] #[{ accessFlags := 0, nameIndex := 5, descriptorIndex := 504, attributes := #[] }, { accessFlags := 0, nameIndex := 83, descriptorIndex := 221, attributes := #[] }, { accessFlags := 0, nameIndex := 514, descriptorIndex := 270, attributes := #[] }, { accessFlags := 0, nameIndex := 515, descriptorIndex := 516, attributes := #[] }] 48 2 #[] #[{ accessFlags := 16, nameIndex := 41, descriptorIndex := 42, attributes := #[] }, { accessFlags := 18, nameIndex := 14, descriptorIndex := 15, attributes := #[] }, { accessFlags := 18, nameIndex := 21, descriptorIndex := 22, attributes := #[] }, { accessFlags := 18, nameIndex := 28, descriptorIndex := 29, attributes := #[] }, { accessFlags := 18, nameIndex := 35, descriptorIndex := 15, attributes := #[] }, { accessFlags := 18, nameIndex := 38, descriptorIndex := 22, attributes := #[] }, { accessFlags := 2, nameIndex := 83, descriptorIndex := 78, attributes := #[] }, { accessFlags := 2, nameIndex := 77, descriptorIndex := 78, attributes := #[] }])
  fields := #[{ name := "lock", type := (.object "java/lang/Object"), accessFlags := 16, slot := 0, constantValue := 0 }, { name := "sorters", type := (.object "java/util/List"), accessFlags := 18, slot := 1, constantValue := 0 }, { name := "levels", type := (.object "java/util/NavigableMap"), accessFlags := 18, slot := 2, constantValue := 0 }, { name := "registrations", type := (.object "java/util/Map"), accessFlags := 18, slot := 3, constantValue := 0 }, { name := "deferred", type := (.object "java/util/List"), accessFlags := 18, slot := 4, constantValue := 0 }, { name := "stopsOutByLevel", type := (.object "java/util/NavigableMap"), accessFlags := 18, slot := 5, constantValue := 0 }, { name := "current", type := .int, accessFlags := 2, slot := 6, constantValue := 0 }, { name := "entered", type := .int, accessFlags := 2, slot := 7, constantValue := 0 }]
  methods := #[k2m0, k2m1, k2m2, k2m3]
  instanceTypes := #[(.object "java/lang/Object"), (.object "java/util/List"), (.object "java/util/NavigableMap"), (.object "java/util/Map"), (.object "java/util/List"), (.object "java/util/NavigableMap"), .int, .int]
  staticTypes := #[]
  resolved := Array.replicate 716 none
  statics := none }

def pool3 : Array CpInfo := pool [(8, .class_ 10), (1, u "java/lang/Iterable"), (24, .class_ 36), (0, u "java/lang/Object")] 25

/-- java/lang/Iterable -/
def k3 : Class := { plain "java/lang/Iterable" (some 0) with
  accessFlags := 1537
  interfaces := #[]
  cf := some (fileOf pool3 8 #[] #[] 1537 35 #[] #[])
  fields := #[]
  methods := #[]
  instanceTypes := #[]
  staticTypes := #[]
  resolved := Array.replicate 62 none
  statics := none }

def pool4 : Array CpInfo := pool [(10, .class_ 12), (1, u "java/util/Collection"), (47, .class_ 61), (0, u "java/lang/Object"), (0, .class_ 63), (0, u "java/lang/Iterable")] 51

/-- java/util/Collection -/
def k4 : Class := { plain "java/util/Collection" (some 0) with
  accessFlags := 1537
  interfaces := #[3]
  cf := some (fileOf pool4 10 #[] #[] 1537 60 #[62] #[])
  fields := #[]
  methods := #[]
  instanceTypes := #[]
  staticTypes := #[]
  resolved := Array.replicate 115 none
  statics := none }

def pool5 : Array CpInfo := pool [(8, .class_ 10), (1, u "java/util/SequencedCollection"), (15, .class_ 27), (0, u "java/lang/Object"), (0, .class_ 29), (0, u "java/util/Collection")] 27

/-- java/util/SequencedCollection -/
def k5 : Class := { plain "java/util/SequencedCollection" (some 0) with
  accessFlags := 1537
  interfaces := #[4]
  cf := some (fileOf pool5 8 #[] #[] 1537 26 #[28] #[])
  fields := #[]
  methods := #[]
  instanceTypes := #[]
  staticTypes := #[]
  resolved := Array.replicate 57 none
  statics := none }

def pool6 : Array CpInfo := pool [(8, .class_ 10), (1, u "java/util/List"), (92, .class_ 104), (0, u "java/lang/Object"), (15, .class_ 121), (0, u "java/util/SequencedCollection")] 129

/-- java/util/List -/
def k6 : Class := { plain "java/util/List" (some 0) with
  accessFlags := 1537
  interfaces := #[5]
  cf := some (fileOf pool6 8 #[] #[] 1537 103 #[120] #[])
  fields := #[]
  methods := #[]
  instanceTypes := #[]
  staticTypes := #[]
  resolved := Array.replicate 251 none
  statics := none }

def pool7 : Array CpInfo := pool [(1, .class_ 2), (0, u "java/util/RandomAccess"), (0, .class_ 4), (0, u "java/lang/Object")] 2

/-- java/util/RandomAccess -/
def k7 : Class := { plain "java/util/RandomAccess" (some 0) with
  accessFlags := 1537
  interfaces := #[]
  cf := some (fileOf pool7 1 #[] #[] 1537 3 #[] #[])
  fields := #[]
  methods := #[]
  instanceTypes := #[]
  staticTypes := #[]
  resolved := Array.replicate 7 none
  statics := none }

def pool8 : Array CpInfo := pool [(1, .class_ 2), (0, u "java/lang/Cloneable"), (0, .class_ 4), (0, u "java/lang/Object")] 2

/-- java/lang/Cloneable -/
def k8 : Class := { plain "java/lang/Cloneable" (some 0) with
  accessFlags := 1537
  interfaces := #[]
  cf := some (fileOf pool8 1 #[] #[] 1537 3 #[] #[])
  fields := #[]
  methods := #[]
  instanceTypes := #[]
  staticTypes := #[]
  resolved := Array.replicate 7 none
  statics := none }

def pool9 : Array CpInfo := pool [(1, .class_ 2), (0, u "java/io/Serializable"), (0, .class_ 4), (0, u "java/lang/Object")] 2

/-- java/io/Serializable -/
def k9 : Class := { plain "java/io/Serializable" (some 0) with
  accessFlags := 1537
  interfaces := #[]
  cf := some (fileOf pool9 1 #[] #[] 1537 3 #[] #[])
  fields := #[]
  methods := #[]
  instanceTypes := #[]
  staticTypes := #[]
  resolved := Array.replicate 7 none
  statics := none }

def pool10 : Array CpInfo := pool [(1, .fieldref 2 3), (0, .class_ 4), (0, .nameAndType 5 6), (0, u "java/util/concurrent/CopyOnWriteArrayList"), (0, u "array"), (0, u "[Ljava/lang/Object;"), (0, .methodref 8 9), (0, .class_ 10), (0, .nameAndType 11 12), (0, u "java/lang/Object"), (0, u "<init>"), (0, u "()V"), (0, .fieldref 2 14), (0, .nameAndType 15 16), (0, u "lock"), (0, u "Ljava/lang/Object;"), (0, .methodref 2 18), (0, .nameAndType 19 20), (0, u "setArray"), (0, u "([Ljava/lang/Object;)V"), (244, .class_ 266), (0, u "java/util/List"), (8, .class_ 276), (0, u "java/util/concurrent/CopyOnWriteArrayList$COWIterator"), (11, .class_ 289), (0, u "java/util/concurrent/CopyOnWriteArrayList$COWSubList"), (3, .class_ 294), (0, u "java/util/concurrent/CopyOnWriteArrayList$Reversed"), (46, .class_ 342), (0, u "java/util/RandomAccess"), (0, .class_ 344), (0, u "java/lang/Cloneable"), (0, .class_ 346), (0, u "java/io/Serializable"), (0, u "serialVersionUID"), (0, u "J"), (166, .class_ 516), (0, u "java/util/concurrent/CopyOnWriteArrayList$Reversed$DescendingListIterator"), (0, .class_ 518), (0, u "java/util/concurrent/CopyOnWriteArrayList$Reversed$DescendingIterator"), (0, .class_ 520), (0, u "java/util/concurrent/CopyOnWriteArrayList$COWSubListIterator")] 32

def k10c0 : Code := { maxStack := 2, maxLocals := 2, code := jdk_2780_method_2_code, exceptionTable := #[], attributes := #[] }
def k10m0 : Method := { name := "setArray", desc := "([Ljava/lang/Object;)V", sig := { parameters := [(.array (.object "java/lang/Object"))], returnType := none }, accessFlags := 16, code := some k10c0 }
def k10c1 : Code := { maxStack := 3, maxLocals := 1, code := jdk_2780_method_3_code, exceptionTable := #[], attributes := #[] }
def k10m1 : Method := { name := "<init>", desc := "()V", sig := { parameters := [], returnType := none }, accessFlags := 1, code := some k10c1 }
/-- java/util/concurrent/CopyOnWriteArrayList -/
def k10 : Class := { plain "java/util/concurrent/CopyOnWriteArrayList" (some 0) with
  accessFlags := 33
  interfaces := #[6, 7, 8, 9]
  cf := some (fileOf pool10 2 #[.nestMembers #[293, 515, 517, 519, 288, 275]] #[{ accessFlags := 16, nameIndex := 19, descriptorIndex := 20, attributes := #[] }, { accessFlags := 1, nameIndex := 11, descriptorIndex := 12, attributes := #[] }] 33 8 #[265, 341, 343, 345] #[{ accessFlags := 26, nameIndex := 347, descriptorIndex := 348, attributes := #[] }, { accessFlags := 144, nameIndex := 15, descriptorIndex := 16, attributes := #[] }, { accessFlags := 194, nameIndex := 5, descriptorIndex := 6, attributes := #[] }])
  fields := #[{ name := "serialVersionUID", type := .long, accessFlags := 26, slot := 0, constantValue := 0 }, { name := "lock", type := (.object "java/lang/Object"), accessFlags := 144, slot := 0, constantValue := 0 }, { name := "array", type := (.array (.object "java/lang/Object")), accessFlags := 194, slot := 1, constantValue := 0 }]
  methods := #[k10m0, k10m1]
  instanceTypes := #[(.object "java/lang/Object"), (.array (.object "java/lang/Object"))]
  staticTypes := #[.long]
  resolved := Array.replicate 553 none
  statics := none }

def pool11 : Array CpInfo := pool [(2, .class_ 4), (1, u "java/util/Map"), (31, .class_ 37), (0, u "java/util/Map$Entry"), (55, .class_ 94), (0, u "java/lang/Object")] 168

/-- java/util/Map -/
def k11 : Class := { plain "java/util/Map" (some 0) with
  accessFlags := 1537
  interfaces := #[]
  cf := some (fileOf pool11 2 #[.nestMembers #[36]] #[] 1537 93 #[] #[])
  fields := #[]
  methods := #[]
  instanceTypes := #[]
  staticTypes := #[]
  resolved := Array.replicate 263 none
  statics := none }

def pool12 : Array CpInfo := pool [(1, .methodref 2 3), (0, .class_ 4), (0, .nameAndType 5 6), (0, u "java/lang/Object"), (0, u "<init>"), (0, u "()V"), (1, .class_ 10), (1, u "java/util/AbstractMap"), (42, .class_ 54), (0, u "java/util/Map"), (9, u "keySet"), (0, u "Ljava/util/Set;"), (0, .class_ 67), (0, u "java/util/AbstractMap$1"), (5, u "values"), (0, u "Ljava/util/Collection;"), (0, .class_ 76), (0, u "java/util/AbstractMap$2"), (104, .class_ 182), (0, u "java/util/AbstractMap$ViewCollection"), (0, .class_ 184), (0, u "java/util/AbstractMap$SimpleImmutableEntry"), (0, .class_ 186), (0, u "java/util/AbstractMap$SimpleEntry"), (0, .class_ 188), (0, u "java/util/AbstractMap$2$1"), (0, .class_ 190), (0, u "java/util/AbstractMap$1$1")] 5

def k12c0 : Code := { maxStack := 1, maxLocals := 1, code := jdk_71_method_1_code, exceptionTable := #[], attributes := #[] }
def k12m0 : Method := { name := "<init>", desc := "()V", sig := { parameters := [], returnType := none }, accessFlags := 4, code := some k12c0 }
/-- java/util/AbstractMap -/
def k12 : Class := { plain "java/util/AbstractMap" (some 0) with
  accessFlags := 1057
  interfaces := #[11]
  cf := some (fileOf pool12 8 #[.nestMembers #[181, 183, 185, 75, 187, 66, 189]] #[{ accessFlags := 4, nameIndex := 5, descriptorIndex := 6, attributes := #[] }] 1057 2 #[53] #[{ accessFlags := 128, nameIndex := 64, descriptorIndex := 65, attributes := #[] }, { accessFlags := 128, nameIndex := 73, descriptorIndex := 74, attributes := #[] }])
  fields := #[{ name := "keySet", type := (.object "java/util/Set"), accessFlags := 128, slot := 0, constantValue := 0 }, { name := "values", type := (.object "java/util/Collection"), accessFlags := 128, slot := 1, constantValue := 0 }]
  methods := #[k12m0]
  instanceTypes := #[(.object "java/util/Set"), (.object "java/util/Collection")]
  staticTypes := #[]
  resolved := Array.replicate 196 none
  statics := none }

def pool13 : Array CpInfo := pool [(2, .class_ 4), (1, u "java/util/SequencedMap"), (38, .class_ 44), (0, u "java/util/SequencedMap$1SeqKeySet"), (3, .class_ 49), (0, u "java/util/SequencedMap$1SeqValues"), (1, .class_ 52), (0, u "java/util/SequencedMap$1SeqEntrySet"), (1, .class_ 55), (0, u "java/lang/Object"), (0, .class_ 57), (0, u "java/util/Map")] 48

/-- java/util/SequencedMap -/
def k13 : Class := { plain "java/util/SequencedMap" (some 0) with
  accessFlags := 1537
  interfaces := #[11]
  cf := some (fileOf pool13 2 #[.nestMembers #[51, 48, 43]] #[] 1537 54 #[56] #[])
  fields := #[]
  methods := #[]
  instanceTypes := #[]
  staticTypes := #[]
  resolved := Array.replicate 106 none
  statics := none }

def pool14 : Array CpInfo := pool [(14, .class_ 16), (1, u "java/util/SortedMap"), (2, .class_ 20), (0, u "java/lang/Object"), (0, .class_ 22), (0, u "java/util/SequencedMap")] 50

/-- java/util/SortedMap -/
def k14 : Class := { plain "java/util/SortedMap" (some 0) with
  accessFlags := 1537
  interfaces := #[13]
  cf := some (fileOf pool14 14 #[] #[] 1537 19 #[21] #[])
  fields := #[]
  methods := #[]
  instanceTypes := #[]
  staticTypes := #[]
  resolved := Array.replicate 73 none
  statics := none }

def pool15 : Array CpInfo := pool [(2, .class_ 4), (1, u "java/util/NavigableMap"), (5, .class_ 11), (0, u "java/lang/Object"), (0, .class_ 13), (0, u "java/util/SortedMap"), (5, u "(Ljava/lang/Object;)Ljava/lang/Object;"), (6, u "higherKey")] 40

def k15m0 : Method := { name := "higherKey", desc := "(Ljava/lang/Object;)Ljava/lang/Object;", sig := { parameters := [(.object "java/lang/Object")], returnType := some (.object "java/lang/Object") }, accessFlags := 1025, code := none }
/-- java/util/NavigableMap -/
def k15 : Class := { plain "java/util/NavigableMap" (some 0) with
  accessFlags := 1537
  interfaces := #[14]
  cf := some (fileOf pool15 2 #[] #[{ accessFlags := 1025, nameIndex := 26, descriptorIndex := 19, attributes := #[] }] 1537 10 #[12] #[])
  fields := #[]
  methods := #[k15m0]
  instanceTypes := #[]
  staticTypes := #[]
  resolved := Array.replicate 67 none
  statics := none }

def pool16 : Array CpInfo := pool [(1, .methodref 2 3), (0, .class_ 4), (0, .nameAndType 5 6), (0, u "java/util/AbstractMap"), (0, u "<init>"), (0, u "()V"), (0, .fieldref 8 9), (0, .class_ 10), (0, .nameAndType 11 12), (0, u "java/util/TreeMap"), (0, u "size"), (0, u "I"), (0, .fieldref 8 14), (0, .nameAndType 15 12), (0, u "modCount"), (0, .fieldref 8 17), (0, .nameAndType 18 19), (0, u "comparator"), (0, u "Ljava/util/Comparator;"), (14, u "entrySet"), (18, u "(Ljava/lang/Object;)Ljava/util/TreeMap$Entry;"), (5, .class_ 61), (1, u "java/util/TreeMap$Entry"), (1, u "Ljava/lang/Object;"), (11, u "(Ljava/util/TreeMap$Entry;)Ljava/lang/Object;"), (22, u "(Ljava/lang/Object;)Ljava/lang/Object;"), (2, .fieldref 8 102), (0, .nameAndType 103 104), (0, u "root"), (0, u "Ljava/util/TreeMap$Entry;"), (85, u "Ljava/util/TreeMap$EntrySet;"), (2, u "navigableKeySet"), (0, u "Ljava/util/TreeMap$KeySet;"), (2, u "descendingMap"), (0, u "Ljava/util/NavigableMap;"), (8, .methodref 8 208), (0, .nameAndType 209 75), (0, u "keyOrNull"), (6, .methodref 8 217), (0, .nameAndType 218 53), (0, u "getHigherEntry"), (3, .class_ 223), (0, u "java/util/TreeMap$KeySet"), (7, .class_ 232), (0, u "java/util/NavigableMap"), (4, .class_ 238), (0, u "java/util/TreeMap$Values"), (3, .class_ 243), (0, u "java/util/TreeMap$EntrySet"), (1, .class_ 246), (0, u "java/util/TreeMap$DescendingSubMap"), (3, .class_ 251), (0, u "java/util/TreeMap$AscendingSubMap"), (17, .class_ 270), (0, u "java/util/TreeMap$KeyIterator"), (3, .class_ 275), (0, u "java/util/TreeMap$DescendingKeyIterator"), (17, u "Z"), (94, .class_ 389), (0, u "java/util/TreeMap$NavigableSubMap"), (1, .class_ 392), (0, u "java/util/TreeMap$KeySpliterator"), (3, .class_ 397), (0, u "java/util/TreeMap$DescendingKeySpliterator"), (4, u "UNBOUNDED"), (0, .class_ 404), (0, u "java/lang/Cloneable"), (0, .class_ 406), (0, u "java/io/Serializable"), (6, u "RED"), (2, u "BLACK"), (1, u "serialVersionUID"), (0, u "J"), (98, u "higherKey"), (115, .class_ 635), (0, u "java/util/TreeMap$EntrySpliterator"), (0, .class_ 637), (0, u "java/util/TreeMap$ValueSpliterator"), (0, .class_ 639), (0, u "java/util/TreeMap$TreeMapSpliterator"), (0, .class_ 641), (0, u "java/util/TreeMap$SubMap"), (0, .class_ 643), (0, u "java/util/TreeMap$DescendingSubMap$DescendingEntrySetView"), (0, .class_ 645), (0, u "java/util/TreeMap$AscendingSubMap$AscendingEntrySetView"), (0, .class_ 647), (0, u "java/util/TreeMap$NavigableSubMap$DescendingSubMapKeyIterator"), (0, .class_ 649), (0, u "java/util/TreeMap$NavigableSubMap$SubMapKeyIterator"), (0, .class_ 651), (0, u "java/util/TreeMap$NavigableSubMap$DescendingSubMapEntryIterator"), (0, .class_ 653), (0, u "java/util/TreeMap$NavigableSubMap$SubMapEntryIterator"), (0, .class_ 655), (0, u "java/util/TreeMap$NavigableSubMap$SubMapIterator"), (0, .class_ 657), (0, u "java/util/TreeMap$NavigableSubMap$EntrySetView"), (0, .class_ 659), (0, u "java/util/TreeMap$ValueIterator"), (0, .class_ 661), (0, u "java/util/TreeMap$EntryIterator"), (0, .class_ 663), (0, u "java/util/TreeMap$PrivateEntryIterator")] 28

def k16c0 : Code := { maxStack := 2, maxLocals := 1, code := jdk_2729_method_1_code, exceptionTable := #[], attributes := #[] }
def k16m0 : Method := { name := "<init>", desc := "()V", sig := { parameters := [], returnType := none }, accessFlags := 1, code := some k16c0 }
def k16c1 : Code := { maxStack := 3, maxLocals := 6, code := jdk_2729_method_19_code, exceptionTable := #[], attributes := #[] }
def k16m1 : Method := { name := "getHigherEntry", desc := "(Ljava/lang/Object;)Ljava/util/TreeMap$Entry;", sig := { parameters := [(.object "java/lang/Object")], returnType := some (.object "java/util/TreeMap$Entry") }, accessFlags := 16, code := some k16c1 }
def k16c2 : Code := { maxStack := 2, maxLocals := 2, code := jdk_2729_method_48_code, exceptionTable := #[], attributes := #[] }
def k16m2 : Method := { name := "higherKey", desc := "(Ljava/lang/Object;)Ljava/lang/Object;", sig := { parameters := [(.object "java/lang/Object")], returnType := some (.object "java/lang/Object") }, accessFlags := 1, code := some k16c2 }
def k16c3 : Code := { maxStack := 1, maxLocals := 1, code := jdk_2729_method_70_code, exceptionTable := #[], attributes := #[] }
def k16m3 : Method := { name := "keyOrNull", desc := "(Ljava/util/TreeMap$Entry;)Ljava/lang/Object;", sig := { parameters := [(.object "java/util/TreeMap$Entry")], returnType := some (.object "java/lang/Object") }, accessFlags := 8, code := some k16c3 }
/-- java/util/TreeMap -/
def k16 : Class := { plain "java/util/TreeMap" (some 12) with
  accessFlags := 33
  interfaces := #[15, 8, 9]
  cf := some (fileOf pool16 8 #[.nestMembers #[634, 636, 396, 391, 638, 59, 640, 245, 642, 250, 644, 388, 646, 648, 650, 652, 654, 656, 274, 269, 658, 660, 662, 222, 242, 237]] #[{ accessFlags := 1, nameIndex := 5, descriptorIndex := 6, attributes := #[] }, { accessFlags := 16, nameIndex := 218, descriptorIndex := 53, attributes := #[] }, { accessFlags := 1, nameIndex := 518, descriptorIndex := 98, attributes := #[] }, { accessFlags := 8, nameIndex := 209, descriptorIndex := 75, attributes := #[] }] 33 2 #[231, 403, 405] #[{ accessFlags := 18, nameIndex := 18, descriptorIndex := 19, attributes := #[] }, { accessFlags := 130, nameIndex := 103, descriptorIndex := 104, attributes := #[] }, { accessFlags := 130, nameIndex := 11, descriptorIndex := 12, attributes := #[] }, { accessFlags := 130, nameIndex := 15, descriptorIndex := 12, attributes := #[] }, { accessFlags := 130, nameIndex := 34, descriptorIndex := 190, attributes := #[] }, { accessFlags := 130, nameIndex := 193, descriptorIndex := 194, attributes := #[] }, { accessFlags := 130, nameIndex := 197, descriptorIndex := 198, attributes := #[] }, { accessFlags := 26, nameIndex := 402, descriptorIndex := 63, attributes := #[] }, { accessFlags := 26, nameIndex := 413, descriptorIndex := 293, attributes := #[] }, { accessFlags := 26, nameIndex := 416, descriptorIndex := 293, attributes := #[] }, { accessFlags := 26, nameIndex := 418, descriptorIndex := 419, attributes := #[] }])
  fields := #[{ name := "comparator", type := (.object "java/util/Comparator"), accessFlags := 18, slot := 2, constantValue := 0 }, { name := "root", type := (.object "java/util/TreeMap$Entry"), accessFlags := 130, slot := 3, constantValue := 0 }, { name := "size", type := .int, accessFlags := 130, slot := 4, constantValue := 0 }, { name := "modCount", type := .int, accessFlags := 130, slot := 5, constantValue := 0 }, { name := "entrySet", type := (.object "java/util/TreeMap$EntrySet"), accessFlags := 130, slot := 6, constantValue := 0 }, { name := "navigableKeySet", type := (.object "java/util/TreeMap$KeySet"), accessFlags := 130, slot := 7, constantValue := 0 }, { name := "descendingMap", type := (.object "java/util/NavigableMap"), accessFlags := 130, slot := 8, constantValue := 0 }, { name := "UNBOUNDED", type := (.object "java/lang/Object"), accessFlags := 26, slot := 0, constantValue := 0 }, { name := "RED", type := .boolean, accessFlags := 26, slot := 1, constantValue := 0 }, { name := "BLACK", type := .boolean, accessFlags := 26, slot := 2, constantValue := 0 }, { name := "serialVersionUID", type := .long, accessFlags := 26, slot := 3, constantValue := 0 }]
  methods := #[k16m0, k16m1, k16m2, k16m3]
  instanceTypes := #[(.object "java/util/Set"), (.object "java/util/Collection"), (.object "java/util/Comparator"), (.object "java/util/TreeMap$Entry"), .int, .int, (.object "java/util/TreeMap$EntrySet"), (.object "java/util/TreeMap$KeySet"), (.object "java/util/NavigableMap")]
  staticTypes := #[(.object "java/lang/Object"), .boolean, .boolean, .long]
  resolved := Array.replicate 692 none
  statics := none }

def pool17 : Array CpInfo := pool [(2, .class_ 4), (1, u "java/util/IdentityHashMap"), (0, u "NULL_KEY"), (0, u "Ljava/lang/Object;"), (0, .methodref 8 9), (0, .class_ 10), (0, .nameAndType 11 12), (0, u "java/util/AbstractMap"), (0, u "<init>"), (0, u "()V"), (0, .methodref 2 14), (0, .nameAndType 15 16), (0, u "init"), (0, u "(I)V"), (32, .class_ 50), (0, u "java/lang/Object"), (0, .fieldref 2 52), (0, .nameAndType 53 54), (0, u "table"), (0, u "[Ljava/lang/Object;"), (1, .class_ 58), (1, u "java/util/Map"), (0, u "size"), (11, u "I"), (24, u "modCount"), (9, u "entrySet"), (50, u "Ljava/util/Set;"), (12, .class_ 171), (0, u "java/util/IdentityHashMap$KeySet"), (7, .class_ 180), (0, u "java/util/IdentityHashMap$Values"), (1, .class_ 183), (0, u "java/util/IdentityHashMap$EntrySet"), (69, .class_ 254), (0, u "java/io/Serializable"), (0, .class_ 256), (0, u "java/lang/Cloneable"), (0, u "DEFAULT_CAPACITY"), (2, u "MINIMUM_CAPACITY"), (1, u "MAXIMUM_CAPACITY"), (2, u "serialVersionUID"), (0, u "J"), (102, .class_ 370), (0, u "java/util/IdentityHashMap$EntrySpliterator"), (0, .class_ 372), (0, u "java/util/IdentityHashMap$ValueSpliterator"), (0, .class_ 374), (0, u "java/util/IdentityHashMap$KeySpliterator"), (0, .class_ 376), (0, u "java/util/IdentityHashMap$IdentityHashMapSpliterator"), (0, .class_ 378), (0, u "java/util/IdentityHashMap$EntryIterator"), (0, .class_ 380), (0, u "java/util/IdentityHashMap$EntryIterator$Entry"), (0, .class_ 382), (0, u "java/util/IdentityHashMap$ValueIterator"), (0, .class_ 384), (0, u "java/util/IdentityHashMap$KeyIterator"), (0, .class_ 386), (0, u "java/util/IdentityHashMap$IdentityHashMapIterator")] 16

def k17c0 : Code := { maxStack := 2, maxLocals := 1, code := jdk_2581_method_3_code, exceptionTable := #[], attributes := #[] }
def k17m0 : Method := { name := "<init>", desc := "()V", sig := { parameters := [], returnType := none }, accessFlags := 1, code := some k17c0 }
def k17c1 : Code := { maxStack := 3, maxLocals := 2, code := jdk_2581_method_6_code, exceptionTable := #[], attributes := #[] }
def k17m1 : Method := { name := "init", desc := "(I)V", sig := { parameters := [.int], returnType := none }, accessFlags := 2, code := some k17c1 }
/-- java/util/IdentityHashMap -/
def k17 : Class := { plain "java/util/IdentityHashMap" (some 12) with
  accessFlags := 33
  interfaces := #[11, 9, 8]
  cf := some (fileOf pool17 2 #[.nestMembers #[369, 371, 373, 375, 182, 179, 170, 377, 379, 381, 383, 385]] #[{ accessFlags := 1, nameIndex := 11, descriptorIndex := 12, attributes := #[] }, { accessFlags := 2, nameIndex := 15, descriptorIndex := 16, attributes := #[] }] 33 8 #[56, 253, 255] #[{ accessFlags := 26, nameIndex := 257, descriptorIndex := 71, attributes := #[] }, { accessFlags := 26, nameIndex := 260, descriptorIndex := 71, attributes := #[] }, { accessFlags := 26, nameIndex := 262, descriptorIndex := 71, attributes := #[] }, { accessFlags := 128, nameIndex := 53, descriptorIndex := 54, attributes := #[] }, { accessFlags := 0, nameIndex := 59, descriptorIndex := 71, attributes := #[] }, { accessFlags := 128, nameIndex := 96, descriptorIndex := 71, attributes := #[] }, { accessFlags := 24, nameIndex := 5, descriptorIndex := 6, attributes := #[] }, { accessFlags := 130, nameIndex := 106, descriptorIndex := 157, attributes := #[] }, { accessFlags := 26, nameIndex := 265, descriptorIndex := 266, attributes := #[] }])
  fields := #[{ name := "DEFAULT_CAPACITY", type := .int, accessFlags := 26, slot := 0, constantValue := 0 }, { name := "MINIMUM_CAPACITY", type := .int, accessFlags := 26, slot := 1, constantValue := 0 }, { name := "MAXIMUM_CAPACITY", type := .int, accessFlags := 26, slot := 2, constantValue := 0 }, { name := "table", type := (.array (.object "java/lang/Object")), accessFlags := 128, slot := 2, constantValue := 0 }, { name := "size", type := .int, accessFlags := 0, slot := 3, constantValue := 0 }, { name := "modCount", type := .int, accessFlags := 128, slot := 4, constantValue := 0 }, { name := "NULL_KEY", type := (.object "java/lang/Object"), accessFlags := 24, slot := 3, constantValue := 0 }, { name := "entrySet", type := (.object "java/util/Set"), accessFlags := 130, slot := 5, constantValue := 0 }, { name := "serialVersionUID", type := .long, accessFlags := 26, slot := 4, constantValue := 0 }]
  methods := #[k17m0, k17m1]
  instanceTypes := #[(.object "java/util/Set"), (.object "java/util/Collection"), (.array (.object "java/lang/Object")), .int, .int, (.object "java/util/Set")]
  staticTypes := #[.int, .int, .int, (.object "java/lang/Object"), .long]
  resolved := Array.replicate 403 none
  statics := none }

def pool18 : Array CpInfo := pool [(1, .methodref 2 3), (0, .class_ 4), (0, .nameAndType 5 6), (0, u "java/lang/Object"), (0, u "<init>"), (0, u "()V"), (1, .class_ 10), (1, u "java/util/AbstractCollection"), (66, .class_ 78), (0, u "java/util/Collection")] 81

def k18c0 : Code := { maxStack := 1, maxLocals := 1, code := jdk_22_method_1_code, exceptionTable := #[], attributes := #[] }
def k18m0 : Method := { name := "<init>", desc := "()V", sig := { parameters := [], returnType := none }, accessFlags := 4, code := some k18c0 }
/-- java/util/AbstractCollection -/
def k18 : Class := { plain "java/util/AbstractCollection" (some 0) with
  accessFlags := 1057
  interfaces := #[4]
  cf := some (fileOf pool18 8 #[] #[{ accessFlags := 4, nameIndex := 5, descriptorIndex := 6, attributes := #[] }] 1057 2 #[77] #[])
  fields := #[]
  methods := #[k18m0]
  instanceTypes := #[]
  staticTypes := #[]
  resolved := Array.replicate 160 none
  statics := none }

def pool19 : Array CpInfo := pool [(1, .methodref 2 3), (0, .class_ 4), (0, .nameAndType 5 6), (0, u "java/util/AbstractCollection"), (0, u "<init>"), (0, u "()V"), (0, .fieldref 8 9), (0, .class_ 10), (0, .nameAndType 11 12), (0, u "java/util/AbstractList"), (0, u "modCount"), (0, u "I"), (64, .class_ 78), (0, u "java/util/AbstractList$Itr"), (3, .class_ 83), (0, u "java/util/AbstractList$ListItr"), (9, .class_ 94), (0, u "java/util/AbstractList$RandomAccessSubList"), (3, .class_ 99), (0, u "java/util/AbstractList$SubList"), (33, .class_ 134), (0, u "java/util/List"), (73, .class_ 209), (0, u "java/util/AbstractList$SubList$1"), (0, .class_ 211), (0, u "java/util/AbstractList$RandomAccessSpliterator")] 6

def k19c0 : Code := { maxStack := 2, maxLocals := 1, code := jdk_39_method_1_code, exceptionTable := #[], attributes := #[] }
def k19m0 : Method := { name := "<init>", desc := "()V", sig := { parameters := [], returnType := none }, accessFlags := 4, code := some k19c0 }
/-- java/util/AbstractList -/
def k19 : Class := { plain "java/util/AbstractList" (some 18) with
  accessFlags := 1057
  interfaces := #[6]
  cf := some (fileOf pool19 8 #[.nestMembers #[93, 98, 208, 210, 82, 77]] #[{ accessFlags := 4, nameIndex := 5, descriptorIndex := 6, attributes := #[] }] 1057 2 #[133] #[{ accessFlags := 132, nameIndex := 11, descriptorIndex := 12, attributes := #[] }])
  fields := #[{ name := "modCount", type := .int, accessFlags := 132, slot := 0, constantValue := 0 }]
  methods := #[k19m0]
  instanceTypes := #[.int]
  staticTypes := #[]
  resolved := Array.replicate 218 none
  statics := none }

def pool20 : Array CpInfo := pool [(1, .methodref 2 3), (0, .class_ 4), (0, .nameAndType 5 6), (0, u "java/util/AbstractList"), (0, u "<init>"), (0, u "()V"), (2, .fieldref 10 11), (0, .class_ 12), (0, .nameAndType 13 14), (0, u "java/util/ArrayList"), (0, u "elementData"), (0, u "[Ljava/lang/Object;"), (2, u "EMPTY_ELEMENTDATA"), (21, .fieldref 10 40), (0, .nameAndType 41 14), (0, u "DEFAULTCAPACITY_EMPTY_ELEMENTDATA"), (8, u "size"), (0, u "I"), (96, .class_ 149), (0, u "java/util/List"), (112, .class_ 263), (0, u "java/util/ArrayList$ListItr"), (3, .class_ 268), (0, u "java/util/ArrayList$Itr"), (7, .class_ 277), (0, u "java/util/ArrayList$SubList"), (12, .class_ 291), (0, u "java/util/ArrayList$ArrayListSpliterator"), (37, .class_ 330), (0, u "java/util/RandomAccess"), (0, .class_ 332), (0, u "java/lang/Cloneable"), (0, .class_ 334), (0, u "java/io/Serializable"), (0, u "serialVersionUID"), (0, u "J"), (3, u "DEFAULT_CAPACITY"), (159, .class_ 501), (0, u "java/util/ArrayList$SubList$2"), (0, .class_ 503), (0, u "java/util/ArrayList$SubList$1")] 5

def k20c0 : Code := { maxStack := 2, maxLocals := 1, code := jdk_38_method_2_code, exceptionTable := #[], attributes := #[] }
def k20m0 : Method := { name := "<init>", desc := "()V", sig := { parameters := [], returnType := none }, accessFlags := 1, code := some k20c0 }
/-- java/util/ArrayList -/
def k20 : Class := { plain "java/util/ArrayList" (some 19) with
  accessFlags := 33
  interfaces := #[6, 7, 8, 9]
  cf := some (fileOf pool20 10 #[.nestMembers #[290, 276, 500, 502, 262, 267]] #[{ accessFlags := 1, nameIndex := 5, descriptorIndex := 6, attributes := #[] }] 33 2 #[148, 329, 331, 333] #[{ accessFlags := 26, nameIndex := 335, descriptorIndex := 336, attributes := #[] }, { accessFlags := 26, nameIndex := 340, descriptorIndex := 51, attributes := #[] }, { accessFlags := 26, nameIndex := 17, descriptorIndex := 14, attributes := #[] }, { accessFlags := 26, nameIndex := 41, descriptorIndex := 14, attributes := #[] }, { accessFlags := 128, nameIndex := 13, descriptorIndex := 14, attributes := #[] }, { accessFlags := 2, nameIndex := 50, descriptorIndex := 51, attributes := #[] }])
  fields := #[{ name := "serialVersionUID", type := .long, accessFlags := 26, slot := 0, constantValue := 0 }, { name := "DEFAULT_CAPACITY", type := .int, accessFlags := 26, slot := 1, constantValue := 0 }, { name := "EMPTY_ELEMENTDATA", type := (.array (.object "java/lang/Object")), accessFlags := 26, slot := 2, constantValue := 0 }, { name := "DEFAULTCAPACITY_EMPTY_ELEMENTDATA", type := (.array (.object "java/lang/Object")), accessFlags := 26, slot := 3, constantValue := 0 }, { name := "elementData", type := (.array (.object "java/lang/Object")), accessFlags := 128, slot := 1, constantValue := 0 }, { name := "size", type := .int, accessFlags := 2, slot := 2, constantValue := 0 }]
  methods := #[k20m0]
  instanceTypes := #[.int, (.array (.object "java/lang/Object")), .int]
  staticTypes := #[.long, .int, (.array (.object "java/lang/Object")), (.array (.object "java/lang/Object"))]
  resolved := Array.replicate 509 none
  statics := some 0 }

def pool21 : Array CpInfo := pool [(1, .methodref 2 3), (0, .class_ 4), (0, .nameAndType 5 6), (0, u "java/lang/Object"), (0, u "<init>"), (0, u "()V"), (1, .class_ 10), (1, u "java/lang/Number"), (2, .class_ 14), (0, u "java/io/Serializable"), (0, u "serialVersionUID"), (0, u "J")] 20

def k21c0 : Code := { maxStack := 1, maxLocals := 1, code := jdk_18_method_1_code, exceptionTable := #[], attributes := #[] }
def k21m0 : Method := { name := "<init>", desc := "()V", sig := { parameters := [], returnType := none }, accessFlags := 1, code := some k21c0 }
/-- java/lang/Number -/
def k21 : Class := { plain "java/lang/Number" (some 0) with
  accessFlags := 1057
  interfaces := #[9]
  cf := some (fileOf pool21 8 #[] #[{ accessFlags := 1, nameIndex := 5, descriptorIndex := 6, attributes := #[] }] 1057 2 #[13] #[{ accessFlags := 26, nameIndex := 15, descriptorIndex := 16, attributes := #[] }])
  fields := #[{ name := "serialVersionUID", type := .long, accessFlags := 26, slot := 0, constantValue := 0 }]
  methods := #[k21m0]
  instanceTypes := #[]
  staticTypes := #[.long]
  resolved := Array.replicate 37 none
  statics := none }

def pool22 : Array CpInfo := pool [(1, .class_ 2), (0, u "java/lang/Comparable"), (0, .class_ 4), (0, u "java/lang/Object")] 7

/-- java/lang/Comparable -/
def k22 : Class := { plain "java/lang/Comparable" (some 0) with
  accessFlags := 1537
  interfaces := #[]
  cf := some (fileOf pool22 1 #[] #[] 1537 3 #[] #[])
  fields := #[]
  methods := #[]
  instanceTypes := #[]
  staticTypes := #[]
  resolved := Array.replicate 12 none
  statics := none }

def pool23 : Array CpInfo := pool [(1, .class_ 2), (0, u "java/lang/constant/Constable"), (0, .class_ 4), (0, u "java/lang/Object")] 6

/-- java/lang/constant/Constable -/
def k23 : Class := { plain "java/lang/constant/Constable" (some 0) with
  accessFlags := 1537
  interfaces := #[]
  cf := some (fileOf pool23 1 #[] #[] 1537 3 #[] #[])
  fields := #[]
  methods := #[]
  instanceTypes := #[]
  staticTypes := #[]
  resolved := Array.replicate 11 none
  statics := none }

def pool24 : Array CpInfo := pool [(1, .class_ 2), (0, u "java/lang/constant/ConstantDesc"), (0, .class_ 4), (0, u "java/lang/Object")] 32

/-- java/lang/constant/ConstantDesc -/
def k24 : Class := { plain "java/lang/constant/ConstantDesc" (some 0) with
  accessFlags := 1537
  interfaces := #[]
  cf := some (fileOf pool24 1 #[] #[] 1537 3 #[] #[])
  fields := #[]
  methods := #[]
  instanceTypes := #[]
  staticTypes := #[]
  resolved := Array.replicate 37 none
  statics := none }

def pool25 : Array CpInfo := pool [(1, .class_ 2), (0, u "java/lang/Integer"), (16, u "digits"), (0, u "[C"), (46, u "<init>"), (17, u "DigitOnes"), (0, u "[B"), (2, u "DigitTens"), (10, .nameAndType 67 101), (0, u "()V"), (85, u "valueOf"), (0, u "(I)Ljava/lang/Integer;"), (0, .class_ 190), (0, u "java/lang/Integer$IntegerCache"), (0, .fieldref 189 192), (0, .nameAndType 193 194), (0, u "high"), (0, u "I"), (0, .fieldref 189 196), (0, .nameAndType 197 198), (0, u "cache"), (0, u "[Ljava/lang/Integer;"), (0, .methodref 1 200), (0, .nameAndType 67 201), (0, u "(I)V"), (0, .methodref 203 100), (0, .class_ 204), (0, u "java/lang/Number"), (0, .fieldref 1 206), (0, .nameAndType 207 194), (0, u "value"), (94, u "TYPE"), (0, u "Ljava/lang/Class;"), (0, .class_ 305), (0, u "java/lang/Comparable"), (0, .class_ 307), (0, u "java/lang/constant/Constable"), (0, .class_ 309), (0, u "java/lang/constant/ConstantDesc"), (0, u "MIN_VALUE"), (1, u "MAX_VALUE"), (3, u "SIZE"), (1, u "BYTES"), (1, u "serialVersionUID"), (0, u "J")] 131

def k25c0 : Code := { maxStack := 3, maxLocals := 1, code := jdk_33_method_22_code, exceptionTable := #[], attributes := #[] }
def k25m0 : Method := { name := "valueOf", desc := "(I)Ljava/lang/Integer;", sig := { parameters := [.int], returnType := some (.object "java/lang/Integer") }, accessFlags := 9, code := some k25c0 }
def k25c1 : Code := { maxStack := 2, maxLocals := 2, code := jdk_33_method_23_code, exceptionTable := #[], attributes := #[] }
def k25m1 : Method := { name := "<init>", desc := "(I)V", sig := { parameters := [.int], returnType := none }, accessFlags := 1, code := some k25c1 }
/-- java/lang/Integer -/
def k25 : Class := { plain "java/lang/Integer" (some 21) with
  accessFlags := 49
  interfaces := #[22, 23, 24]
  cf := some (fileOf pool25 1 #[.nestMembers #[189]] #[{ accessFlags := 9, nameIndex := 187, descriptorIndex := 188, attributes := #[] }, { accessFlags := 1, nameIndex := 67, descriptorIndex := 201, attributes := #[] }] 49 203 #[304, 306, 308] #[{ accessFlags := 25, nameIndex := 310, descriptorIndex := 194, attributes := #[] }, { accessFlags := 25, nameIndex := 312, descriptorIndex := 194, attributes := #[] }, { accessFlags := 25, nameIndex := 302, descriptorIndex := 303, attributes := #[] }, { accessFlags := 24, nameIndex := 19, descriptorIndex := 20, attributes := #[] }, { accessFlags := 24, nameIndex := 89, descriptorIndex := 86, attributes := #[] }, { accessFlags := 24, nameIndex := 85, descriptorIndex := 86, attributes := #[] }, { accessFlags := 18, nameIndex := 207, descriptorIndex := 194, attributes := #[] }, { accessFlags := 25, nameIndex := 316, descriptorIndex := 194, attributes := #[] }, { accessFlags := 25, nameIndex := 318, descriptorIndex := 194, attributes := #[] }, { accessFlags := 26, nameIndex := 320, descriptorIndex := 321, attributes := #[] }])
  fields := #[{ name := "MIN_VALUE", type := .int, accessFlags := 25, slot := 0, constantValue := 0 }, { name := "MAX_VALUE", type := .int, accessFlags := 25, slot := 1, constantValue := 0 }, { name := "TYPE", type := (.object "java/lang/Class"), accessFlags := 25, slot := 2, constantValue := 0 }, { name := "digits", type := (.array .char), accessFlags := 24, slot := 3, constantValue := 0 }, { name := "DigitTens", type := (.array .byte), accessFlags := 24, slot := 4, constantValue := 0 }, { name := "DigitOnes", type := (.array .byte), accessFlags := 24, slot := 5, constantValue := 0 }, { name := "value", type := .int, accessFlags := 18, slot := 0, constantValue := 0 }, { name := "SIZE", type := .int, accessFlags := 25, slot := 6, constantValue := 0 }, { name := "BYTES", type := .int, accessFlags := 25, slot := 7, constantValue := 0 }, { name := "serialVersionUID", type := .long, accessFlags := 26, slot := 8, constantValue := 0 }]
  methods := #[k25m0, k25m1]
  instanceTypes := #[.int]
  staticTypes := #[.int, .int, (.object "java/lang/Class"), (.array .char), (.array .byte), (.array .byte), .int, .int, .long]
  resolved := Array.replicate 453 none
  statics := none }

def pool26 : Array CpInfo := pool [(2, .class_ 4), (1, u "java/lang/Object"), (0, u "<init>"), (0, u "()V"), (0, .class_ 8), (0, u "java/lang/Integer"), (7, .class_ 18), (1, u "java/lang/Integer$IntegerCache"), (0, u "$assertionsDisabled"), (0, u "Z"), (26, u "high"), (0, u "I"), (8, u "archivedCache"), (0, u "[Ljava/lang/Integer;"), (12, u "cache"), (0, u "low")] 27

def k26m0 : Method := { name := "<init>", desc := "()V", sig := { parameters := [], returnType := none }, accessFlags := 2, code := none }
/-- java/lang/Integer$IntegerCache -/
def k26 : Class := { plain "java/lang/Integer$IntegerCache" (some 0) with
  accessFlags := 48
  interfaces := #[]
  cf := some (fileOf pool26 16 #[.nestHost 7] #[{ accessFlags := 2, nameIndex := 5, descriptorIndex := 6, attributes := #[] }] 48 2 #[] #[{ accessFlags := 24, nameIndex := 72, descriptorIndex := 48, attributes := #[] }, { accessFlags := 24, nameIndex := 47, descriptorIndex := 48, attributes := #[] }, { accessFlags := 24, nameIndex := 71, descriptorIndex := 58, attributes := #[] }, { accessFlags := 8, nameIndex := 57, descriptorIndex := 58, attributes := #[] }, { accessFlags := 4120, nameIndex := 19, descriptorIndex := 20, attributes := #[] }])
  fields := #[{ name := "low", type := .int, accessFlags := 24, slot := 0, constantValue := 0 }, { name := "high", type := .int, accessFlags := 24, slot := 1, constantValue := 0 }, { name := "cache", type := (.array (.object "java/lang/Integer")), accessFlags := 24, slot := 2, constantValue := 0 }, { name := "archivedCache", type := (.array (.object "java/lang/Integer")), accessFlags := 8, slot := 3, constantValue := 0 }, { name := "$assertionsDisabled", type := .boolean, accessFlags := 4120, slot := 4, constantValue := 0 }]
  methods := #[k26m0]
  instanceTypes := #[]
  staticTypes := #[.int, .int, (.array (.object "java/lang/Integer")), (.array (.object "java/lang/Integer")), .boolean]
  resolved := Array.replicate 100 none
  statics := some 1 }

/-- the primitive byte -/
def k27 : Class := { plain "byte" none with kind := .primitive 'B', accessFlags := 0x411 }
/-- [B -/
def k28 : Class := { plain "[B" (some 0) with kind := .array 27 .byte, interfaces := #[8, 9], accessFlags := 1041 }

/-- the primitive int -/
def k29 : Class := { plain "int" none with kind := .primitive 'I', accessFlags := 0x411 }
/-- [I -/
def k30 : Class := { plain "[I" (some 0) with kind := .array 29 .int, interfaces := #[8, 9], accessFlags := 1041 }

/-- [Ljava/lang/Integer; -/
def k31 : Class := { plain "[Ljava/lang/Integer;" (some 0) with kind := .array 25 (.object "java/lang/Integer"), interfaces := #[8, 9], accessFlags := 1041 }

/-- [Ljava/lang/Object; -/
def k32 : Class := { plain "[Ljava/lang/Object;" (some 0) with kind := .array 0 (.object "java/lang/Object"), interfaces := #[8, 9], accessFlags := 1041 }

def heap : Heap := #[{ cls := 20, slots := #[.long 0, .int 0, .ref 259, .ref 260], vm := .statics 20 },
  { cls := 26, slots := #[.int 0, .int 127, .ref 2, .null, .int 0], vm := .statics 26 },
  { cls := 31, slots := #[.ref 3, .ref 4, .ref 5, .ref 6, .ref 7, .ref 8, .ref 9, .ref 10, .ref 11, .ref 12, .ref 13, .ref 14, .ref 15, .ref 16, .ref 17, .ref 18, .ref 19, .ref 20, .ref 21, .ref 22, .ref 23, .ref 24, .ref 25, .ref 26, .ref 27, .ref 28, .ref 29, .ref 30, .ref 31, .ref 32, .ref 33, .ref 34, .ref 35, .ref 36, .ref 37, .ref 38, .ref 39, .ref 40, .ref 41, .ref 42, .ref 43, .ref 44, .ref 45, .ref 46, .ref 47, .ref 48, .ref 49, .ref 50, .ref 51, .ref 52, .ref 53, .ref 54, .ref 55, .ref 56, .ref 57, .ref 58, .ref 59, .ref 60, .ref 61, .ref 62, .ref 63, .ref 64, .ref 65, .ref 66, .ref 67, .ref 68, .ref 69, .ref 70, .ref 71, .ref 72, .ref 73, .ref 74, .ref 75, .ref 76, .ref 77, .ref 78, .ref 79, .ref 80, .ref 81, .ref 82, .ref 83, .ref 84, .ref 85, .ref 86, .ref 87, .ref 88, .ref 89, .ref 90, .ref 91, .ref 92, .ref 93, .ref 94, .ref 95, .ref 96, .ref 97, .ref 98, .ref 99, .ref 100, .ref 101, .ref 102, .ref 103, .ref 104, .ref 105, .ref 106, .ref 107, .ref 108, .ref 109, .ref 110, .ref 111, .ref 112, .ref 113, .ref 114, .ref 115, .ref 116, .ref 117, .ref 118, .ref 119, .ref 120, .ref 121, .ref 122, .ref 123, .ref 124, .ref 125, .ref 126, .ref 127, .ref 128, .ref 129, .ref 130, .ref 131, .ref 132, .ref 133, .ref 134, .ref 135, .ref 136, .ref 137, .ref 138, .ref 139, .ref 140, .ref 141, .ref 142, .ref 143, .ref 144, .ref 145, .ref 146, .ref 147, .ref 148, .ref 149, .ref 150, .ref 151, .ref 152, .ref 153, .ref 154, .ref 155, .ref 156, .ref 157, .ref 158, .ref 159, .ref 160, .ref 161, .ref 162, .ref 163, .ref 164, .ref 165, .ref 166, .ref 167, .ref 168, .ref 169, .ref 170, .ref 171, .ref 172, .ref 173, .ref 174, .ref 175, .ref 176, .ref 177, .ref 178, .ref 179, .ref 180, .ref 181, .ref 182, .ref 183, .ref 184, .ref 185, .ref 186, .ref 187, .ref 188, .ref 189, .ref 190, .ref 191, .ref 192, .ref 193, .ref 194, .ref 195, .ref 196, .ref 197, .ref 198, .ref 199, .ref 200, .ref 201, .ref 202, .ref 203, .ref 204, .ref 205, .ref 206, .ref 207, .ref 208, .ref 209, .ref 210, .ref 211, .ref 212, .ref 213, .ref 214, .ref 215, .ref 216, .ref 217, .ref 218, .ref 219, .ref 220, .ref 221, .ref 222, .ref 223, .ref 224, .ref 225, .ref 226, .ref 227, .ref 228, .ref 229, .ref 230, .ref 231, .ref 232, .ref 233, .ref 234, .ref 235, .ref 236, .ref 237, .ref 238, .ref 239, .ref 240, .ref 241, .ref 242, .ref 243, .ref 244, .ref 245, .ref 246, .ref 247, .ref 248, .ref 249, .ref 250, .ref 251, .ref 252, .ref 253, .ref 254, .ref 255, .ref 256, .ref 257, .ref 258], vm := .none },
  { cls := 25, slots := #[.int (-128)], vm := .none },
  { cls := 25, slots := #[.int (-127)], vm := .none },
  { cls := 25, slots := #[.int (-126)], vm := .none },
  { cls := 25, slots := #[.int (-125)], vm := .none },
  { cls := 25, slots := #[.int (-124)], vm := .none },
  { cls := 25, slots := #[.int (-123)], vm := .none },
  { cls := 25, slots := #[.int (-122)], vm := .none },
  { cls := 25, slots := #[.int (-121)], vm := .none },
  { cls := 25, slots := #[.int (-120)], vm := .none },
  { cls := 25, slots := #[.int (-119)], vm := .none },
  { cls := 25, slots := #[.int (-118)], vm := .none },
  { cls := 25, slots := #[.int (-117)], vm := .none },
  { cls := 25, slots := #[.int (-116)], vm := .none },
  { cls := 25, slots := #[.int (-115)], vm := .none },
  { cls := 25, slots := #[.int (-114)], vm := .none },
  { cls := 25, slots := #[.int (-113)], vm := .none },
  { cls := 25, slots := #[.int (-112)], vm := .none },
  { cls := 25, slots := #[.int (-111)], vm := .none },
  { cls := 25, slots := #[.int (-110)], vm := .none },
  { cls := 25, slots := #[.int (-109)], vm := .none },
  { cls := 25, slots := #[.int (-108)], vm := .none },
  { cls := 25, slots := #[.int (-107)], vm := .none },
  { cls := 25, slots := #[.int (-106)], vm := .none },
  { cls := 25, slots := #[.int (-105)], vm := .none },
  { cls := 25, slots := #[.int (-104)], vm := .none },
  { cls := 25, slots := #[.int (-103)], vm := .none },
  { cls := 25, slots := #[.int (-102)], vm := .none },
  { cls := 25, slots := #[.int (-101)], vm := .none },
  { cls := 25, slots := #[.int (-100)], vm := .none },
  { cls := 25, slots := #[.int (-99)], vm := .none },
  { cls := 25, slots := #[.int (-98)], vm := .none },
  { cls := 25, slots := #[.int (-97)], vm := .none },
  { cls := 25, slots := #[.int (-96)], vm := .none },
  { cls := 25, slots := #[.int (-95)], vm := .none },
  { cls := 25, slots := #[.int (-94)], vm := .none },
  { cls := 25, slots := #[.int (-93)], vm := .none },
  { cls := 25, slots := #[.int (-92)], vm := .none },
  { cls := 25, slots := #[.int (-91)], vm := .none },
  { cls := 25, slots := #[.int (-90)], vm := .none },
  { cls := 25, slots := #[.int (-89)], vm := .none },
  { cls := 25, slots := #[.int (-88)], vm := .none },
  { cls := 25, slots := #[.int (-87)], vm := .none },
  { cls := 25, slots := #[.int (-86)], vm := .none },
  { cls := 25, slots := #[.int (-85)], vm := .none },
  { cls := 25, slots := #[.int (-84)], vm := .none },
  { cls := 25, slots := #[.int (-83)], vm := .none },
  { cls := 25, slots := #[.int (-82)], vm := .none },
  { cls := 25, slots := #[.int (-81)], vm := .none },
  { cls := 25, slots := #[.int (-80)], vm := .none },
  { cls := 25, slots := #[.int (-79)], vm := .none },
  { cls := 25, slots := #[.int (-78)], vm := .none },
  { cls := 25, slots := #[.int (-77)], vm := .none },
  { cls := 25, slots := #[.int (-76)], vm := .none },
  { cls := 25, slots := #[.int (-75)], vm := .none },
  { cls := 25, slots := #[.int (-74)], vm := .none },
  { cls := 25, slots := #[.int (-73)], vm := .none },
  { cls := 25, slots := #[.int (-72)], vm := .none },
  { cls := 25, slots := #[.int (-71)], vm := .none },
  { cls := 25, slots := #[.int (-70)], vm := .none },
  { cls := 25, slots := #[.int (-69)], vm := .none },
  { cls := 25, slots := #[.int (-68)], vm := .none },
  { cls := 25, slots := #[.int (-67)], vm := .none },
  { cls := 25, slots := #[.int (-66)], vm := .none },
  { cls := 25, slots := #[.int (-65)], vm := .none },
  { cls := 25, slots := #[.int (-64)], vm := .none },
  { cls := 25, slots := #[.int (-63)], vm := .none },
  { cls := 25, slots := #[.int (-62)], vm := .none },
  { cls := 25, slots := #[.int (-61)], vm := .none },
  { cls := 25, slots := #[.int (-60)], vm := .none },
  { cls := 25, slots := #[.int (-59)], vm := .none },
  { cls := 25, slots := #[.int (-58)], vm := .none },
  { cls := 25, slots := #[.int (-57)], vm := .none },
  { cls := 25, slots := #[.int (-56)], vm := .none },
  { cls := 25, slots := #[.int (-55)], vm := .none },
  { cls := 25, slots := #[.int (-54)], vm := .none },
  { cls := 25, slots := #[.int (-53)], vm := .none },
  { cls := 25, slots := #[.int (-52)], vm := .none },
  { cls := 25, slots := #[.int (-51)], vm := .none },
  { cls := 25, slots := #[.int (-50)], vm := .none },
  { cls := 25, slots := #[.int (-49)], vm := .none },
  { cls := 25, slots := #[.int (-48)], vm := .none },
  { cls := 25, slots := #[.int (-47)], vm := .none },
  { cls := 25, slots := #[.int (-46)], vm := .none },
  { cls := 25, slots := #[.int (-45)], vm := .none },
  { cls := 25, slots := #[.int (-44)], vm := .none },
  { cls := 25, slots := #[.int (-43)], vm := .none },
  { cls := 25, slots := #[.int (-42)], vm := .none },
  { cls := 25, slots := #[.int (-41)], vm := .none },
  { cls := 25, slots := #[.int (-40)], vm := .none },
  { cls := 25, slots := #[.int (-39)], vm := .none },
  { cls := 25, slots := #[.int (-38)], vm := .none },
  { cls := 25, slots := #[.int (-37)], vm := .none },
  { cls := 25, slots := #[.int (-36)], vm := .none },
  { cls := 25, slots := #[.int (-35)], vm := .none },
  { cls := 25, slots := #[.int (-34)], vm := .none },
  { cls := 25, slots := #[.int (-33)], vm := .none },
  { cls := 25, slots := #[.int (-32)], vm := .none },
  { cls := 25, slots := #[.int (-31)], vm := .none },
  { cls := 25, slots := #[.int (-30)], vm := .none },
  { cls := 25, slots := #[.int (-29)], vm := .none },
  { cls := 25, slots := #[.int (-28)], vm := .none },
  { cls := 25, slots := #[.int (-27)], vm := .none },
  { cls := 25, slots := #[.int (-26)], vm := .none },
  { cls := 25, slots := #[.int (-25)], vm := .none },
  { cls := 25, slots := #[.int (-24)], vm := .none },
  { cls := 25, slots := #[.int (-23)], vm := .none },
  { cls := 25, slots := #[.int (-22)], vm := .none },
  { cls := 25, slots := #[.int (-21)], vm := .none },
  { cls := 25, slots := #[.int (-20)], vm := .none },
  { cls := 25, slots := #[.int (-19)], vm := .none },
  { cls := 25, slots := #[.int (-18)], vm := .none },
  { cls := 25, slots := #[.int (-17)], vm := .none },
  { cls := 25, slots := #[.int (-16)], vm := .none },
  { cls := 25, slots := #[.int (-15)], vm := .none },
  { cls := 25, slots := #[.int (-14)], vm := .none },
  { cls := 25, slots := #[.int (-13)], vm := .none },
  { cls := 25, slots := #[.int (-12)], vm := .none },
  { cls := 25, slots := #[.int (-11)], vm := .none },
  { cls := 25, slots := #[.int (-10)], vm := .none },
  { cls := 25, slots := #[.int (-9)], vm := .none },
  { cls := 25, slots := #[.int (-8)], vm := .none },
  { cls := 25, slots := #[.int (-7)], vm := .none },
  { cls := 25, slots := #[.int (-6)], vm := .none },
  { cls := 25, slots := #[.int (-5)], vm := .none },
  { cls := 25, slots := #[.int (-4)], vm := .none },
  { cls := 25, slots := #[.int (-3)], vm := .none },
  { cls := 25, slots := #[.int (-2)], vm := .none },
  { cls := 25, slots := #[.int (-1)], vm := .none },
  { cls := 25, slots := #[.int 0], vm := .none },
  { cls := 25, slots := #[.int 1], vm := .none },
  { cls := 25, slots := #[.int 2], vm := .none },
  { cls := 25, slots := #[.int 3], vm := .none },
  { cls := 25, slots := #[.int 4], vm := .none },
  { cls := 25, slots := #[.int 5], vm := .none },
  { cls := 25, slots := #[.int 6], vm := .none },
  { cls := 25, slots := #[.int 7], vm := .none },
  { cls := 25, slots := #[.int 8], vm := .none },
  { cls := 25, slots := #[.int 9], vm := .none },
  { cls := 25, slots := #[.int 10], vm := .none },
  { cls := 25, slots := #[.int 11], vm := .none },
  { cls := 25, slots := #[.int 12], vm := .none },
  { cls := 25, slots := #[.int 13], vm := .none },
  { cls := 25, slots := #[.int 14], vm := .none },
  { cls := 25, slots := #[.int 15], vm := .none },
  { cls := 25, slots := #[.int 16], vm := .none },
  { cls := 25, slots := #[.int 17], vm := .none },
  { cls := 25, slots := #[.int 18], vm := .none },
  { cls := 25, slots := #[.int 19], vm := .none },
  { cls := 25, slots := #[.int 20], vm := .none },
  { cls := 25, slots := #[.int 21], vm := .none },
  { cls := 25, slots := #[.int 22], vm := .none },
  { cls := 25, slots := #[.int 23], vm := .none },
  { cls := 25, slots := #[.int 24], vm := .none },
  { cls := 25, slots := #[.int 25], vm := .none },
  { cls := 25, slots := #[.int 26], vm := .none },
  { cls := 25, slots := #[.int 27], vm := .none },
  { cls := 25, slots := #[.int 28], vm := .none },
  { cls := 25, slots := #[.int 29], vm := .none },
  { cls := 25, slots := #[.int 30], vm := .none },
  { cls := 25, slots := #[.int 31], vm := .none },
  { cls := 25, slots := #[.int 32], vm := .none },
  { cls := 25, slots := #[.int 33], vm := .none },
  { cls := 25, slots := #[.int 34], vm := .none },
  { cls := 25, slots := #[.int 35], vm := .none },
  { cls := 25, slots := #[.int 36], vm := .none },
  { cls := 25, slots := #[.int 37], vm := .none },
  { cls := 25, slots := #[.int 38], vm := .none },
  { cls := 25, slots := #[.int 39], vm := .none },
  { cls := 25, slots := #[.int 40], vm := .none },
  { cls := 25, slots := #[.int 41], vm := .none },
  { cls := 25, slots := #[.int 42], vm := .none },
  { cls := 25, slots := #[.int 43], vm := .none },
  { cls := 25, slots := #[.int 44], vm := .none },
  { cls := 25, slots := #[.int 45], vm := .none },
  { cls := 25, slots := #[.int 46], vm := .none },
  { cls := 25, slots := #[.int 47], vm := .none },
  { cls := 25, slots := #[.int 48], vm := .none },
  { cls := 25, slots := #[.int 49], vm := .none },
  { cls := 25, slots := #[.int 50], vm := .none },
  { cls := 25, slots := #[.int 51], vm := .none },
  { cls := 25, slots := #[.int 52], vm := .none },
  { cls := 25, slots := #[.int 53], vm := .none },
  { cls := 25, slots := #[.int 54], vm := .none },
  { cls := 25, slots := #[.int 55], vm := .none },
  { cls := 25, slots := #[.int 56], vm := .none },
  { cls := 25, slots := #[.int 57], vm := .none },
  { cls := 25, slots := #[.int 58], vm := .none },
  { cls := 25, slots := #[.int 59], vm := .none },
  { cls := 25, slots := #[.int 60], vm := .none },
  { cls := 25, slots := #[.int 61], vm := .none },
  { cls := 25, slots := #[.int 62], vm := .none },
  { cls := 25, slots := #[.int 63], vm := .none },
  { cls := 25, slots := #[.int 64], vm := .none },
  { cls := 25, slots := #[.int 65], vm := .none },
  { cls := 25, slots := #[.int 66], vm := .none },
  { cls := 25, slots := #[.int 67], vm := .none },
  { cls := 25, slots := #[.int 68], vm := .none },
  { cls := 25, slots := #[.int 69], vm := .none },
  { cls := 25, slots := #[.int 70], vm := .none },
  { cls := 25, slots := #[.int 71], vm := .none },
  { cls := 25, slots := #[.int 72], vm := .none },
  { cls := 25, slots := #[.int 73], vm := .none },
  { cls := 25, slots := #[.int 74], vm := .none },
  { cls := 25, slots := #[.int 75], vm := .none },
  { cls := 25, slots := #[.int 76], vm := .none },
  { cls := 25, slots := #[.int 77], vm := .none },
  { cls := 25, slots := #[.int 78], vm := .none },
  { cls := 25, slots := #[.int 79], vm := .none },
  { cls := 25, slots := #[.int 80], vm := .none },
  { cls := 25, slots := #[.int 81], vm := .none },
  { cls := 25, slots := #[.int 82], vm := .none },
  { cls := 25, slots := #[.int 83], vm := .none },
  { cls := 25, slots := #[.int 84], vm := .none },
  { cls := 25, slots := #[.int 85], vm := .none },
  { cls := 25, slots := #[.int 86], vm := .none },
  { cls := 25, slots := #[.int 87], vm := .none },
  { cls := 25, slots := #[.int 88], vm := .none },
  { cls := 25, slots := #[.int 89], vm := .none },
  { cls := 25, slots := #[.int 90], vm := .none },
  { cls := 25, slots := #[.int 91], vm := .none },
  { cls := 25, slots := #[.int 92], vm := .none },
  { cls := 25, slots := #[.int 93], vm := .none },
  { cls := 25, slots := #[.int 94], vm := .none },
  { cls := 25, slots := #[.int 95], vm := .none },
  { cls := 25, slots := #[.int 96], vm := .none },
  { cls := 25, slots := #[.int 97], vm := .none },
  { cls := 25, slots := #[.int 98], vm := .none },
  { cls := 25, slots := #[.int 99], vm := .none },
  { cls := 25, slots := #[.int 100], vm := .none },
  { cls := 25, slots := #[.int 101], vm := .none },
  { cls := 25, slots := #[.int 102], vm := .none },
  { cls := 25, slots := #[.int 103], vm := .none },
  { cls := 25, slots := #[.int 104], vm := .none },
  { cls := 25, slots := #[.int 105], vm := .none },
  { cls := 25, slots := #[.int 106], vm := .none },
  { cls := 25, slots := #[.int 107], vm := .none },
  { cls := 25, slots := #[.int 108], vm := .none },
  { cls := 25, slots := #[.int 109], vm := .none },
  { cls := 25, slots := #[.int 110], vm := .none },
  { cls := 25, slots := #[.int 111], vm := .none },
  { cls := 25, slots := #[.int 112], vm := .none },
  { cls := 25, slots := #[.int 113], vm := .none },
  { cls := 25, slots := #[.int 114], vm := .none },
  { cls := 25, slots := #[.int 115], vm := .none },
  { cls := 25, slots := #[.int 116], vm := .none },
  { cls := 25, slots := #[.int 117], vm := .none },
  { cls := 25, slots := #[.int 118], vm := .none },
  { cls := 25, slots := #[.int 119], vm := .none },
  { cls := 25, slots := #[.int 120], vm := .none },
  { cls := 25, slots := #[.int 121], vm := .none },
  { cls := 25, slots := #[.int 122], vm := .none },
  { cls := 25, slots := #[.int 123], vm := .none },
  { cls := 25, slots := #[.int 124], vm := .none },
  { cls := 25, slots := #[.int 125], vm := .none },
  { cls := 25, slots := #[.int 126], vm := .none },
  { cls := 25, slots := #[.int 127], vm := .none },
  { cls := 32, slots := #[], vm := .none },
  { cls := 32, slots := #[], vm := .none }]
def classes : Array Class := #[k0, k1, k2, k3, k4, k5, k6, k7, k8, k9, k10, k11, k12, k13, k14, k15, k16, k17, k18, k19, k20, k21, k22, k23, k24, k25, k26, k27, k28, k29, k30, k31, k32]
def interned : List (Array UInt16 × Addr) := []
def slotsUsed : Nat := 521
def theMethod : MethodId := ⟨1, 1⟩
def args0 : Array Value := #[.int 5, .int 4, .int 3, .int 1]
def aboutOver (below : List Frame) : State where
  vm := { classes := classes, interned := interned.toArray }
  heap := heap
  slotsUsed := slotsUsed
  threads := #[{ frames := .invoking theMethod args0 :: below }]
def below0 : List Frame := [.native { method := ⟨0, 0⟩, args := #[] }]
def about1 : State := aboutOver below0
def p0 : Program := .bare "" "" ""
def e0 : Env := launch0.env 0 0 0
theorem w_frames : about1.frames = Frame.invoking theMethod args0 :: below0 := rfl
set_option maxRecDepth 65536 in
theorem w_args : argsFit about1.vm theMethod args0 = true := by decide +kernel
set_option maxRecDepth 65536 in
theorem w_heap : heapFits about1 = true := by decide +kernel
set_option maxRecDepth 65536 in
theorem w_runnable : about1.curStatus? = some .runnable := by decide +kernel
set_option maxRecDepth 65536 in
theorem w_alone : about1.alone = true := by decide +kernel
set_option maxRecDepth 65536 in
theorem w_named : about1.methodNamed? x = some theMethod := by decide +kernel
set_option maxRecDepth 65536 in
theorem w_hears : about1.hears theMethod below0 = true := by decide +kernel
set_option maxRecDepth 65536 in
theorem w_ripe : about1.ripe theMethod args0 below0 = true := by decide +kernel
theorem w_running : about1.status = .running := rfl
set_option maxRecDepth 65536 in
theorem w_room : about1.hasRoom e0.platform room_1 = true :=
  launch0.hasRoom_least _ room_1 (by decide +kernel) (by decide +kernel) (by decide +kernel) (by decide +kernel) (by decide +kernel) (by decide +kernel)
theorem allAtoms_all (ts : List Jvm.Cond) (a : Array Jvm.Value) (st : Jvm.State) : (allAtoms ts).before a st = ts.all (fun c => c.before a st) := by
  induction ts with
  | nil => rfl
  | cons c t ih =>
    show (Jvm.Cond.and c (allAtoms t)).before a st = _
    rw [Jvm.Cond.before_and, ih, List.all_cons]
def words1 : List Jvm.Cond := Jvm.Cond.code x code maxLocals ret :: tables_1
/-- a 'code' word, met by the world's own term for the bytes: nothing is compared byte by byte -/
theorem code_word {y : MethodName} {bytes : ByteArray} {mx : Nat} {rt : Option FieldType} {a : Array Value} {s : State} {m : MethodId} {meth : Method} {c : Code} (h1 : s.methodNamed? y = some m) (h2 : s.vm.method? m = some meth) (h3 : meth.code = some c) (h4 : c.code = bytes)
    (h5 : (c.maxLocals == mx && c.exceptionTable.isEmpty && decide (c.maxStack ≤ mostOperands) && decide (meth.sig.returnType = rt) && !meth.locks && decide (parseMethodDescriptor y.desc = some meth.sig)) = true) : (Jvm.Cond.code y bytes mx rt).before a s = true := by
  simp only [Bool.and_eq_true, beq_iff_eq, Bool.not_eq_true', decide_eq_true_eq] at h5
  obtain ⟨⟨⟨⟨⟨g1, g2⟩, g3⟩, g4⟩, g5⟩, g6⟩ := h5
  simp [Cond.before, Cond.holds, Cond.value, h1, h2, h3, h4, g1, g2, g3, g4, g5, g6]
def isCode : Jvm.Cond → Bool
  | .code _ _ _ _ => true
  | _ => false
theorem all_split {L : List Jvm.Cond} {P : Jvm.Cond → Bool} (h1 : L.all (fun c => isCode c || P c) = true) (h2 : ∀ c ∈ L.filter isCode, P c = true) : L.all P = true := by
  refine List.all_eq_true.mpr fun c hc => ?_
  have h := List.all_eq_true.mp h1 c hc
  rcases Bool.eq_false_or_eq_true (isCode c) with hi | hi
  · exact h2 c (List.mem_filter.mpr ⟨hc, hi⟩)
  · simpa [hi] using h
set_option maxRecDepth 65536 in
theorem w_c0 : (Jvm.Cond.code x code maxLocals ret).before args0 about1 = true := code_word (m := ⟨1, 1⟩) (meth := k1m1) (c := k1c1) (by decide +kernel) rfl rfl rfl (by decide +kernel)
set_option maxRecDepth 65536 in
theorem w_c1 : (Jvm.Cond.code ({ cls := "java/lang/Object", name := "<init>", desc := "()V" } : Jvm.MethodName) object_method_1_code (1 : Nat) (Option.none : Option Jvm.ClassFile.FieldType)).before args0 about1 = true := code_word (m := ⟨0, 0⟩) (meth := k0m0) (c := k0c0) (by decide +kernel) rfl rfl rfl (by decide +kernel)
set_option maxRecDepth 65536 in
theorem w_c2 : (Jvm.Cond.code ({ cls := "com/example/windlass/windlass/LevelRegistry", name := "<init>", desc := "(Ljava/lang/Object;)V" } : Jvm.MethodName) prog_12_method_1_code (2 : Nat) (Option.none : Option Jvm.ClassFile.FieldType)).before args0 about1 = true := code_word (m := ⟨2, 0⟩) (meth := k2m0) (c := k2c0) (by decide +kernel) rfl rfl rfl (by decide +kernel)
set_option maxRecDepth 65536 in
theorem w_c3 : (Jvm.Cond.code ({ cls := "java/util/concurrent/CopyOnWriteArrayList", name := "<init>", desc := "()V" } : Jvm.MethodName) jdk_2780_method_3_code (1 : Nat) (Option.none : Option Jvm.ClassFile.FieldType)).before args0 about1 = true := code_word (m := ⟨10, 1⟩) (meth := k10m1) (c := k10c1) (by decide +kernel) rfl rfl rfl (by decide +kernel)
set_option maxRecDepth 65536 in
theorem w_c4 : (Jvm.Cond.code ({ cls := "java/util/concurrent/CopyOnWriteArrayList", name := "setArray", desc := "([Ljava/lang/Object;)V" } : Jvm.MethodName) jdk_2780_method_2_code (2 : Nat) (Option.none : Option Jvm.ClassFile.FieldType)).before args0 about1 = true := code_word (m := ⟨10, 0⟩) (meth := k10m0) (c := k10c0) (by decide +kernel) rfl rfl rfl (by decide +kernel)
set_option maxRecDepth 65536 in
theorem w_c5 : (Jvm.Cond.code ({ cls := "java/util/TreeMap", name := "<init>", desc := "()V" } : Jvm.MethodName) jdk_2729_method_1_code (1 : Nat) (Option.none : Option Jvm.ClassFile.FieldType)).before args0 about1 = true := code_word (m := ⟨16, 0⟩) (meth := k16m0) (c := k16c0) (by decide +kernel) rfl rfl rfl (by decide +kernel)
set_option maxRecDepth 65536 in
theorem w_c6 : (Jvm.Cond.code ({ cls := "java/util/AbstractMap", name := "<init>", desc := "()V" } : Jvm.MethodName) jdk_71_method_1_code (1 : Nat) (Option.none : Option Jvm.ClassFile.FieldType)).before args0 about1 = true := code_word (m := ⟨12, 0⟩) (meth := k12m0) (c := k12c0) (by decide +kernel) rfl rfl rfl (by decide +kernel)
set_option maxRecDepth 65536 in
theorem w_c7 : (Jvm.Cond.code ({ cls := "java/util/IdentityHashMap", name := "<init>", desc := "()V" } : Jvm.MethodName) jdk_2581_method_3_code (1 : Nat) (Option.none : Option Jvm.ClassFile.FieldType)).before args0 about1 = true := code_word (m := ⟨17, 0⟩) (meth := k17m0) (c := k17c0) (by decide +kernel) rfl rfl rfl (by decide +kernel)
set_option maxRecDepth 65536 in
theorem w_c8 : (Jvm.Cond.code ({ cls := "java/util/IdentityHashMap", name := "init", desc := "(I)V" } : Jvm.MethodName) jdk_2581_method_6_code (2 : Nat) (Option.none : Option Jvm.ClassFile.FieldType)).before args0 about1 = true := code_word (m := ⟨17, 1⟩) (meth := k17m1) (c := k17c1) (by decide +kernel) rfl rfl rfl (by decide +kernel)
set_option maxRecDepth 65536 in
theorem w_c9 : (Jvm.Cond.code ({ cls := "java/util/ArrayList", name := "<init>", desc := "()V" } : Jvm.MethodName) jdk_38_method_2_code (1 : Nat) (Option.none : Option Jvm.ClassFile.FieldType)).before args0 about1 = true := code_word (m := ⟨20, 0⟩) (meth := k20m0) (c := k20c0) (by decide +kernel) rfl rfl rfl (by decide +kernel)
set_option maxRecDepth 65536 in
theorem w_c10 : (Jvm.Cond.code ({ cls := "java/util/AbstractList", name := "<init>", desc := "()V" } : Jvm.MethodName) jdk_39_method_1_code (1 : Nat) (Option.none : Option Jvm.ClassFile.FieldType)).before args0 about1 = true := code_word (m := ⟨19, 0⟩) (meth := k19m0) (c := k19c0) (by decide +kernel) rfl rfl rfl (by decide +kernel)
set_option maxRecDepth 65536 in
theorem w_c11 : (Jvm.Cond.code ({ cls := "java/util/AbstractCollection", name := "<init>", desc := "()V" } : Jvm.MethodName) jdk_22_method_1_code (1 : Nat) (Option.none : Option Jvm.ClassFile.FieldType)).before args0 about1 = true := code_word (m := ⟨18, 0⟩) (meth := k18m0) (c := k18c0) (by decide +kernel) rfl rfl rfl (by decide +kernel)
set_option maxRecDepth 65536 in
theorem w_c12 : (Jvm.Cond.code ({ cls := "com/example/windlass/windlass/LevelRegistry", name := "standAt", desc := "(I)V" } : Jvm.MethodName) prog_12_method_7_code (2 : Nat) (Option.none : Option Jvm.ClassFile.FieldType)).before args0 about1 = true := code_word (m := ⟨2, 2⟩) (meth := k2m2) (c := k2c2) (by decide +kernel) rfl rfl rfl (by decide +kernel)
set_option maxRecDepth 65536 in
theorem w_c13 : (Jvm.Cond.code ({ cls := "java/lang/Integer", name := "valueOf", desc := "(I)Ljava/lang/Integer;" } : Jvm.MethodName) jdk_33_method_22_code (1 : Nat) (Option.some (Jvm.ClassFile.FieldType.object "java/lang/Integer"))).before args0 about1 = true := code_word (m := ⟨25, 0⟩) (meth := k25m0) (c := k25c0) (by decide +kernel) rfl rfl rfl (by decide +kernel)
set_option maxRecDepth 65536 in
theorem w_c14 : (Jvm.Cond.code ({ cls := "java/util/TreeMap", name := "higherKey", desc := "(Ljava/lang/Object;)Ljava/lang/Object;" } : Jvm.MethodName) jdk_2729_method_48_code (2 : Nat) (Option.some (Jvm.ClassFile.FieldType.object "java/lang/Object"))).before args0 about1 = true := code_word (m := ⟨16, 2⟩) (meth := k16m2) (c := k16c2) (by decide +kernel) rfl rfl rfl (by decide +kernel)
set_option maxRecDepth 65536 in
theorem w_c15 : (Jvm.Cond.code ({ cls := "java/util/TreeMap", name := "getHigherEntry", desc := "(Ljava/lang/Object;)Ljava/util/TreeMap$Entry;" } : Jvm.MethodName) jdk_2729_method_19_code (6 : Nat) (Option.some (Jvm.ClassFile.FieldType.object "java/util/TreeMap$Entry"))).before args0 about1 = true := code_word (m := ⟨16, 1⟩) (meth := k16m1) (c := k16c1) (by decide +kernel) rfl rfl rfl (by decide +kernel)
set_option maxRecDepth 65536 in
theorem w_c16 : (Jvm.Cond.code ({ cls := "java/util/TreeMap", name := "keyOrNull", desc := "(Ljava/util/TreeMap$Entry;)Ljava/lang/Object;" } : Jvm.MethodName) jdk_2729_method_70_code (1 : Nat) (Option.some (Jvm.ClassFile.FieldType.object "java/lang/Object"))).before args0 about1 = true := code_word (m := ⟨16, 3⟩) (meth := k16m3) (c := k16c3) (by decide +kernel) rfl rfl rfl (by decide +kernel)
set_option maxRecDepth 65536 in
theorem w_c17 : (Jvm.Cond.code ({ cls := "java/lang/Integer", name := "<init>", desc := "(I)V" } : Jvm.MethodName) jdk_33_method_23_code (2 : Nat) (Option.none : Option Jvm.ClassFile.FieldType)).before args0 about1 = true := code_word (m := ⟨25, 1⟩) (meth := k25m1) (c := k25c1) (by decide +kernel) rfl rfl rfl (by decide +kernel)
set_option maxRecDepth 65536 in
theorem w_c18 : (Jvm.Cond.code ({ cls := "java/lang/Number", name := "<init>", desc := "()V" } : Jvm.MethodName) jdk_18_method_1_code (1 : Nat) (Option.none : Option Jvm.ClassFile.FieldType)).before args0 about1 = true := code_word (m := ⟨21, 0⟩) (meth := k21m0) (c := k21c0) (by decide +kernel) rfl rfl rfl (by decide +kernel)
def codes1 : List Jvm.Cond := [Jvm.Cond.code x code maxLocals ret, Jvm.Cond.code ({ cls := "java/lang/Object", name := "<init>", desc := "()V" } : Jvm.MethodName) object_method_1_code (1 : Nat) (Option.none : Option Jvm.ClassFile.FieldType), Jvm.Cond.code ({ cls := "com/example/windlass/windlass/LevelRegistry", name := "<init>", desc := "(Ljava/lang/Object;)V" } : Jvm.MethodName) prog_12_method_1_code (2 : Nat) (Option.none : Option Jvm.ClassFile.FieldType), Jvm.Cond.code ({ cls := "java/util/concurrent/CopyOnWriteArrayList", name := "<init>", desc := "()V" } : Jvm.MethodName) jdk_2780_method_3_code (1 : Nat) (Option.none : Option Jvm.ClassFile.FieldType), Jvm.Cond.code ({ cls := "java/util/concurrent/CopyOnWriteArrayList", name := "setArray", desc := "([Ljava/lang/Object;)V" } : Jvm.MethodName) jdk_2780_method_2_code (2 : Nat) (Option.none : Option Jvm.ClassFile.FieldType), Jvm.Cond.code ({ cls := "java/util/TreeMap", name := "<init>", desc := "()V" } : Jvm.MethodName) jdk_2729_method_1_code (1 : Nat) (Option.none : Option Jvm.ClassFile.FieldType), Jvm.Cond.code ({ cls := "java/util/AbstractMap", name := "<init>", desc := "()V" } : Jvm.MethodName) jdk_71_method_1_code (1 : Nat) (Option.none : Option Jvm.ClassFile.FieldType), Jvm.Cond.code ({ cls := "java/util/IdentityHashMap", name := "<init>", desc := "()V" } : Jvm.MethodName) jdk_2581_method_3_code (1 : Nat) (Option.none : Option Jvm.ClassFile.FieldType), Jvm.Cond.code ({ cls := "java/util/IdentityHashMap", name := "init", desc := "(I)V" } : Jvm.MethodName) jdk_2581_method_6_code (2 : Nat) (Option.none : Option Jvm.ClassFile.FieldType), Jvm.Cond.code ({ cls := "java/util/ArrayList", name := "<init>", desc := "()V" } : Jvm.MethodName) jdk_38_method_2_code (1 : Nat) (Option.none : Option Jvm.ClassFile.FieldType), Jvm.Cond.code ({ cls := "java/util/AbstractList", name := "<init>", desc := "()V" } : Jvm.MethodName) jdk_39_method_1_code (1 : Nat) (Option.none : Option Jvm.ClassFile.FieldType), Jvm.Cond.code ({ cls := "java/util/AbstractCollection", name := "<init>", desc := "()V" } : Jvm.MethodName) jdk_22_method_1_code (1 : Nat) (Option.none : Option Jvm.ClassFile.FieldType), Jvm.Cond.code ({ cls := "com/example/windlass/windlass/LevelRegistry", name := "standAt", desc := "(I)V" } : Jvm.MethodName) prog_12_method_7_code (2 : Nat) (Option.none : Option Jvm.ClassFile.FieldType), Jvm.Cond.code ({ cls := "java/lang/Integer", name := "valueOf", desc := "(I)Ljava/lang/Integer;" } : Jvm.MethodName) jdk_33_method_22_code (1 : Nat) (Option.some (Jvm.ClassFile.FieldType.object "java/lang/Integer")), Jvm.Cond.code ({ cls := "java/util/TreeMap", name := "higherKey", desc := "(Ljava/lang/Object;)Ljava/lang/Object;" } : Jvm.MethodName) jdk_2729_method_48_code (2 : Nat) (Option.some (Jvm.ClassFile.FieldType.object "java/lang/Object")), Jvm.Cond.code ({ cls := "java/util/TreeMap", name := "getHigherEntry", desc := "(Ljava/lang/Object;)Ljava/util/TreeMap$Entry;" } : Jvm.MethodName) jdk_2729_method_19_code (6 : Nat) (Option.some (Jvm.ClassFile.FieldType.object "java/util/TreeMap$Entry")), Jvm.Cond.code ({ cls := "java/util/TreeMap", name := "keyOrNull", desc := "(Ljava/util/TreeMap$Entry;)Ljava/lang/Object;" } : Jvm.MethodName) jdk_2729_method_70_code (1 : Nat) (Option.some (Jvm.ClassFile.FieldType.object "java/lang/Object")), Jvm.Cond.code ({ cls := "java/lang/Integer", name := "<init>", desc := "(I)V" } : Jvm.MethodName) jdk_33_method_23_code (2 : Nat) (Option.none : Option Jvm.ClassFile.FieldType), Jvm.Cond.code ({ cls := "java/lang/Number", name := "<init>", desc := "()V" } : Jvm.MethodName) jdk_18_method_1_code (1 : Nat) (Option.none : Option Jvm.ClassFile.FieldType)]
set_option maxRecDepth 65536 in
theorem codes_eq : words1.filter isCode = codes1 := rfl
theorem w_codes : ∀ c ∈ words1.filter isCode, c.before args0 about1 = true := by
  rw [codes_eq]
  intro c hc
  simp only [codes1, List.mem_cons, List.not_mem_nil, or_false] at hc
  rcases hc with rfl | rfl | rfl | rfl | rfl | rfl | rfl | rfl | rfl | rfl | rfl | rfl | rfl | rfl | rfl | rfl | rfl | rfl | rfl
  · exact w_c0
  · exact w_c1
  · exact w_c2
  · exact w_c3
  · exact w_c4
  · exact w_c5
  · exact w_c6
  · exact w_c7
  · exact w_c8
  · exact w_c9
  · exact w_c10
  · exact w_c11
  · exact w_c12
  · exact w_c13
  · exact w_c14
  · exact w_c15
  · exact w_c16
  · exact w_c17
  · exact w_c18
set_option maxRecDepth 65536 in
theorem w_t1 : (words1.take 24).all (fun c => isCode c || c.before args0 about1) = true := by decide +kernel
set_option maxRecDepth 65536 in
theorem w_t2 : ((words1.drop 24).take 24).all (fun c => isCode c || c.before args0 about1) = true := by decide +kernel
set_option maxRecDepth 65536 in
theorem w_t3 : (((words1.drop 24).drop 24).take 24).all (fun c => isCode c || c.before args0 about1) = true := by decide +kernel
set_option maxRecDepth 65536 in
theorem w_t4 : ((((words1.drop 24).drop 24).drop 24).take 24).all (fun c => isCode c || c.before args0 about1) = true := by decide +kernel
set_option maxRecDepth 65536 in
theorem w_t5 : (((((words1.drop 24).drop 24).drop 24).drop 24).take 24).all (fun c => isCode c || c.before args0 about1) = true := by decide +kernel
set_option maxRecDepth 65536 in
theorem w_t6 : ((((((words1.drop 24).drop 24).drop 24).drop 24).drop 24).take 24).all (fun c => isCode c || c.before args0 about1) = true := by decide +kernel
set_option maxRecDepth 65536 in
theorem w_t7 : ((((((words1.drop 24).drop 24).drop 24).drop 24).drop 24).drop 24).all (fun c => isCode c || c.before args0 about1) = true := by decide +kernel
theorem w_tables : (allAtoms (Jvm.Cond.code x code maxLocals ret :: tables_1)).before args0 about1 = true := by
  rw [allAtoms_all]
  show words1.all (fun c => c.before args0 about1) = true
  refine all_split ?_ w_codes
  rw [← List.take_append_drop 24 words1, List.all_append, w_t1, ← List.take_append_drop 24 (words1.drop 24), List.all_append, w_t2, ← List.take_append_drop 24 ((words1.drop 24).drop 24), List.all_append, w_t3, ← List.take_append_drop 24 (((words1.drop 24).drop 24).drop 24), List.all_append, w_t4, ← List.take_append_drop 24 ((((words1.drop 24).drop 24).drop 24).drop 24), List.all_append, w_t5, ← List.take_append_drop 24 (((((words1.drop 24).drop 24).drop 24).drop 24).drop 24), List.all_append, w_t6, w_t7]
  rfl
set_option maxRecDepth 65536 in
theorem w_rest : rest_1_c.before args0 about1 = true := by decide +kernel
set_option maxRecDepth 65536 in
theorem w_case : (Jvm.Cond.and given_1 narrow_1).before args0 about1 = true := by decide +kernel
theorem w_applies : (headSpec (Jvm.Cond.code x code maxLocals ret :: tables_1) room_1).applies x e0.platform about1 = true :=
  (Spec.applies_iff w_frames).mpr ⟨w_running, w_runnable, w_alone, w_named, w_hears, w_ripe, w_room, w_tables⟩
theorem atStart : AtStart classFile x code maxLocals ret World_1 tables_1 room_1 Calls_1 rest_1 Pre_1 launch0 p0 e0 about1 theMethod args0 below0 :=
  ⟨lists_1, trivial, launch0.admits_env _ _ _, launch0.least_env, fairChoices_fair.cas, fairChoices_fair.clock, w_frames, w_args, w_heap, w_applies, trivial, w_rest, w_case⟩
end start1
theorem witness_1 : WitnessClaimed_1 := ⟨start1.p0, start1.e0, start1.about1, start1.theMethod, start1.args0, start1.below0, start1.atStart⟩
end Jvm.Pilot.@@N@@
