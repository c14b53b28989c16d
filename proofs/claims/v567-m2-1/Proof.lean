import JvmDerived
import JvmDerived.Pilot.@@N@@Statement
import JvmDerived.Pilot.@@N@@Code
set_option linter.unusedVariables false
set_option linter.unusedSimpArgs false
namespace Jvm.RoadKit
open Sem ClassFile Op Lib Jvm.Stand Jvm.Free Jvm.LawKit
section New
variable {p : Program} {l : Launch} {e : Env} {R : Room} {s : State} {m : MethodId} {args : Array Value} {below : List Frame} {meth : Method} {c : Code} {T : State} {locs : List Loc} {cells slots : Nat}
theorem retI (X : Stand p l e R s m args below meth c T locs cells slots) (hx : p.tables.exec = Jvm.exec) {pc : Nat} {Ls : Array Slot} {z : Int32} {rest : List Value} (hret : meth.sig.returnType = some .int) (hd : decode c.code pc = .ok (.ireturn, 1)) {fs : List Frame}
    (hl : ∀ (f : JFrame) (acts : List Action), f.method = m → f.locked = none → f.entered = [] → (doReturn e (T.setTop f) acts (some (.int z))).1 = T.setFrames fs) : Steps p.tables e below (T.setTop (mkF m pc Ls (.int z :: rest))) (T.setFrames fs) := by
  have hm' : T.vm.method? m = some meth := X.method'
  have hn : narrow .int (.int z) = .int z := rfl
  show Steps p.tables e below (T.setTop { method := m, pc := pc, locals := Ls, stack := _ :: rest, locked := none }) _
  jvm_step X.here [X.here.top, hx, hd, hm', hret, hn]
  first | (intro acts; rw [hl _ acts rfl rfl rfl]) | rw [hl _ _ rfl rfl rfl]
  exact Steps.refl _
end New
/-- the run comes, from the state U, to an end at which Q holds -/
def Go (tb : Tables) (e : Env) (below : List Frame) (Q : Outcome → State → Prop) (U : State) : Prop := ∃ s₂ o, Steps tb e below U s₂ ∧ s₂.status = .running ∧ Ended s₂ below o ∧ Q o s₂
theorem Go.on {tb : Tables} {e : Env} {below : List Frame} {Q : Outcome → State → Prop} {A B : State} (h : ∀ t, Steps tb e below B t → Steps tb e below A t) (k : Go tb e below Q B) : Go tb e below Q A := by
  obtain ⟨s₂, o, h1, h2⟩ := k
  exact ⟨s₂, o, h _ h1, h2⟩
end Jvm.RoadKit
namespace Jvm.RoadKit
open Sem ClassFile Op Lib Jvm.Stand Jvm.Free Jvm.LawKit
section OwnRef
variable {p : Program} {l : Launch} {e : Env} {R : Room} {s : State} {m : MethodId} {args : Array Value} {below : List Frame} {meth : Method} {c : Code} {T : State} {locs : List Loc} {cells slots : Nat} {Z : State} {a0 : Array Value} {h : Heap}
theorem own_ready {own O n d : String} {index : Nat} (X : Stand p l e R s m args below meth c T locs cells slots) (hZ : Z.Warmed39 s.vm) (hown : s.vm.findClass own = some m.cls) (w : (Cond.fieldRef own index O n d).before a0 Z = true) {cf i : Nat} {k : Class} {f : Field} (hi : Z.fieldFound? O n d = some (cf, k, i, f)) : T.vm.fieldReady m.cls index cf f := by
  have z := wtrans hZ X.warmed
  have w2 : (Cond.fieldRef own index O n d).before a0 (Z.setVm T.vm) = true := Cond.fieldRef_warmed39 z w
  obtain ⟨c', k', i', f', g1, g2⟩ := Cond.fieldRef_spec (s := Z.setVm T.vm) (cur := m.cls) (by rw [State.vm_setVm, X.warmed.alike.findClass]; exact hown) w2
  obtain ⟨k2, q2, -⟩ := State.fieldFound?_setVm (s := Z) z.alike hi
  cases g1.symm.trans q2
  exact g2
theorem own_getFR (X : Stand p l e R s m args below meth c T locs cells slots) (hx : p.tables.exec = Jvm.exec) (hZ : Z.Warmed39 s.vm) {own O n d : String} {index : Nat} (hown : s.vm.findClass own = some m.cls) (w : (Cond.fieldRef own index O n d).before a0 Z = true)
    (eT : T.heap = h) {a : Addr} {v : Value} (F : Fld Z h a O n d v) {g : JFrame} (hg : g.method = m) {rest : List Value} (hs : g.stack = .ref a :: rest) (hd : decode c.code g.pc = .ok (.getfield index, 3)) : ∃ T', Stand p l e R s m args below meth c T' locs cells slots ∧ T'.heap = h ∧ ∀ target, Steps p.tables e below (T'.setTop { g with pc := g.pc + 3, stack := v :: rest }) target → Steps p.tables e below (T.setTop g) target := by
  obtain ⟨cell, cf, k, i, f, h1, h2, h3, h4, -, -, h7⟩ := F
  have hr := own_ready X hZ hown w h2
  have hc : T.heap[a]? = some cell := by rw [eT]; exact h1
  refine ⟨T, X, eT, fun target hrest => ?_⟩
  subst hg
  jvm_step X.here [hx, hd, getfield.wp_ready (e := e) (s := T) (f := g) X.here.top hr h3 hs hc h4 h7]
  exact hrest
theorem own_putFR (X : Stand p l e R s m args below meth c T locs cells slots) (hx : p.tables.exec = Jvm.exec) (hZ : Z.Warmed39 s.vm) {own O n d C : String} {index kk : Nat} {ty : FieldType} (hown : s.vm.findClass own = some m.cls) (w : (Cond.fieldRef own index O n d).before a0 Z = true)
    (eT : T.heap = h) {a : Addr} {v old : Value} (F : Fld Z h a O n d old) (E : Exa Z h a C) (L : (Cond.lays C O n d).before a0 Z = true) (wi : (Cond.instantiable C kk).before a0 Z = true)
    (hty : parseFieldDescriptor d = some ty) (hn : narrow ty v = v) (hf : fits ty v = true) {g : JFrame} (hg : g.method = m) {rest : List Value} (hs : g.stack = v :: .ref a :: rest) (hd : decode c.code g.pc = .ok (.putfield index, 3)) :
    ∃ T' h', Stand p l e R s m args below meth c T' (locs ++ [⟨a, slotOf Z O n d⟩]) cells slots ∧ T'.heap = h' ∧ Wr h h' a (slotOf Z O n d) v ∧ ∀ target, Steps p.tables e below (T'.setTop { g with pc := g.pc + 3, stack := rest }) target → Steps p.tables e below (T.setTop g) target := by
  obtain ⟨cell, cf, k, i, f, h1, h2, h3, h4, h5, -, h7⟩ := F
  have hr := own_ready X hZ hown w h2
  obtain ⟨cell', kc, e1, e2, e3, -⟩ := E
  cases h1.symm.trans e1
  obtain ⟨c1, k1, cf1, kf1, i1, f1, a1, a2, a3, -, -, a6, -⟩ := Laid.spec (a0 := a0) (Or.inl L)
  cases h2.symm.trans a3
  cases e2.symm.trans a1
  obtain ⟨c2, k2, i1, i2, i3, -⟩ := Cond.instantiable_spec wi
  cases e2.symm.trans i1
  cases a2.symm.trans i2
  have ht := (State.fieldFound?_type h2 hty).2
  have hfit : Z.fitsSlot cell.cls cell.vm f.slot v = true := by
    have q : Z.slotType? cell.cls cell.vm f.slot = some ty := by
      simp only [State.slotType?, a2, Option.bind_eq_bind, Option.bind_some, i3]
      cases hq : cell.vm <;> first | (rw [hq] at h5; exact Bool.noConfusion h5) | (rw [a6, ht])
    simp [State.fitsSlot, q, hf]
  have hfit' : T.fitsSlot cell.cls cell.vm f.slot v = true := by
    have z := (wtrans hZ X.warmed).alike
    rw [← State.fitsSlot_setVm z] at hfit
    exact hfit
  have hnf : hasFlag f.accessFlags Acc.final = false := by
    obtain ⟨_, _, _, _, _, _, -, -, b3, -, b5, -⟩ := Cond.lays_spec L
    cases h2.symm.trans b3
    exact b5
  have hlt := (Array.getElem?_eq_some_iff.mp h7).1
  have es : slotOf Z O n d = f.slot := by simp [slotOf, h2]
  rw [es]
  obtain ⟨X', st⟩ := X.putfieldReady hx hr h3 (Or.inl hnf) (by rw [eT]; exact h1) h4 hlt (by rw [ht]; exact hn) hfit' hg hs hd
  exact ⟨_, _, X', rfl, ⟨cell, h1, h5, hlt, by rw [← eT]; rfl⟩, st⟩
end OwnRef
end Jvm.RoadKit
namespace Jvm.Pilot.@@N@@
open Jvm Jvm.ClassFile Sem Op Lib Jvm.Free Jvm.Stand Jvm.LawKit Jvm.RoadKit Bundle Jvm.Pilot.@@N@@.Jvm.D
theorem d1_0 : decode prog_47_method_1_code 0 = .ok (.aload_n 0, 1) := by decide +kernel
theorem d1_1 : decode prog_47_method_1_code 1 = .ok (.invokespecial 1, 3) := by decide +kernel
theorem d1_4 : decode prog_47_method_1_code 4 = .ok (.return_, 1) := by decide +kernel
theorem pn_2 : plainName "com/example/tailrace/tailrace/cli/Count" = true := by first | (simp [plainName, overriddenIn]; done) | decide +kernel
theorem ef_rco (m : MethodId) (a1 : Addr) : entryFrame m #[(.ref a1)] 1 = mkF m 0 #[.val (.ref a1)] [] := by first | (simp [entryFrame, mkF, argsToLocals, Value.category]; done) | rfl
def Q_rco (Z : State) (a1 : Addr) (h0 : Heap) (n0 : Nat) (v : Option Value) (h : Heap) (L : List Loc) : Prop := v = none ∧ Fr n0 L ∧ h = h0
set_option maxRecDepth 65536 in
set_option maxHeartbeats 40000000 in
theorem rco (l : Launch) (Z : State) (a0 : Array Value) (hw : ∀ d ∈ tables_1, d.before a0 Z = true) (ws : List Jvm.Cond) (a1 : Addr) (h0 : Heap) (n0 : Nat) (Z0 : n0 ≤ h0.size)  :
    MetFree l (⟨"com/example/tailrace/tailrace/cli/Count", "<init>", "()V"⟩ : MethodName) (head1 (Jvm.Cond.code (⟨"com/example/tailrace/tailrace/cli/Count", "<init>", "()V"⟩ : MethodName) prog_47_method_1_code 1 none :: ws) ({ frames := 1, cells := 0, slots := 0, locals := 12 } : Room)) (fun a U => a = #[(.ref a1)] ∧ Z.Warmed39 U.vm ∧ U.heap = h0) (fun _ _ _ _ _ => True) (fun _ U o U' => ∃ v L, o = .returned v ∧ Q_rco Z a1 h0 n0 v U'.heap L ∧ FrameEnd U o U' L ({ frames := 1, cells := 0, slots := 0, locals := 12 } : Room).cells ({ frames := 1, cells := 0, slots := 0, locals := 12 } : Room).slots) := by
  refine MetFree.of_bodySF (plainFor_of_name pn_2) hisR ?_
  intro p e s m args below meth c s₁ Bd hml0 hP hK
  obtain ⟨rfl, hZ, hh⟩ := hP
  have hx := Bd.exec
  have hby := Bd.bytes
  have hml : c.maxLocals = 1 := hml0
  have hown : s.vm.findClass "com/example/tailrace/tailrace/cli/Count" = some m.cls := findClass_of_methodNamed Bd.named
  have hnm := (name_of_methodNamed Bd.named Bd.method).1
  have X0 : Stand p l e ({ frames := 1, cells := 0, slots := 0, locals := 12 } : Room) s m #[(.ref a1)] below meth c s₁ [] 0 0 := Stand.of_body Bd
  have e0 : s₁.heap = h0 := by rw [← hh, Bd.state]; rfl
  have N0 := Fr.nil n0
  have pre0 : ∀ t, Steps p.tables e below (s₁.setTop (mkF m 0 #[.val (.ref a1)] [])) t → Steps p.tables e below (s₁.setTop (entryFrame m #[(.ref a1)] 1)) t := fun t k => castTop (ef_rco m a1) k
  change Go p.tables e below (fun o U' => ∃ v L, o = .returned v ∧ Q_rco Z a1 h0 n0 v U'.heap L ∧ FrameEnd s o U' L ({ frames := 1, cells := 0, slots := 0, locals := 12 } : Room).cells ({ frames := 1, cells := 0, slots := 0, locals := 12 } : Room).slots) (s₁.setTop (entryFrame m #[(.ref a1)] 1))
  refine Go.on pre0 ?_
  refine Go.on (B := s₁.setTop (mkF m 1 #[.val (.ref a1)] [(.ref a1)])) (fun t k => XS.aloadN X0.here hx rfl (hb hby d1_0) rfl rfl k) ?_
  obtain ⟨T1, X1, e1, st1⟩ := initO X0 hx hZ hown (hw _ (List.mem_of_getElem? (i := 6) rfl)) (hw _ (List.mem_of_getElem? (i := 7) rfl)) (hw _ (List.mem_of_getElem? (i := 8) rfl)) e0 (g := (mkF m 1 #[.val (.ref a1)] [(.ref a1)])) rfl (by rw [hml]; rfl) rfl (hb hby d1_1) (by decide) (W := 0) (by show 2 * 0 + _ ≤ _; exact Nat.le_of_eq rfl) (by decide)
  refine Go.on (B := T1.setTop (mkF m 4 #[.val (.ref a1)] [])) (fun t k => st1 _ k) ?_
  obtain ⟨fs, hr, hrun, hended, hW, hsame⟩ := X1.leave (v := none) (fun _ => rfl)
  refine ⟨_, _, ?_, hrun, hended, _, _, rfl, ?_, ⟨_, rfl⟩, hW, hsame.mono (by decide) (by decide)⟩
  · exact X1.returnOut hx Bd.returns (hb hby d1_4) hr
  · show Q_rco Z a1 h0 n0 _ T1.heap _
    rw [e1]
    exact ⟨rfl, N0, rfl⟩
theorem d4_0 : decode prog_48_method_1_code 0 = .ok (.aload_n 0, 1) := by decide +kernel
theorem d4_1 : decode prog_48_method_1_code 1 = .ok (.invokespecial 1, 3) := by decide +kernel
theorem d4_4 : decode prog_48_method_1_code 4 = .ok (.return_, 1) := by decide +kernel
theorem pn_4 : plainName "com/example/tailrace/tailrace/cli/Count$Tally" = true := by first | (simp [plainName, overriddenIn]; done) | decide +kernel
theorem ef_rta (m : MethodId) (a1 : Addr) : entryFrame m #[(.ref a1)] 1 = mkF m 0 #[.val (.ref a1)] [] := by first | (simp [entryFrame, mkF, argsToLocals, Value.category]; done) | rfl
def Q_rta (Z : State) (a1 : Addr) (h0 : Heap) (n0 : Nat) (v : Option Value) (h : Heap) (L : List Loc) : Prop := v = none ∧ Fr n0 L ∧ h = h0
set_option maxRecDepth 65536 in
set_option maxHeartbeats 40000000 in
theorem rta (l : Launch) (Z : State) (a0 : Array Value) (hw : ∀ d ∈ tables_1, d.before a0 Z = true) (ws : List Jvm.Cond) (a1 : Addr) (h0 : Heap) (n0 : Nat) (Z0 : n0 ≤ h0.size)  :
    MetFree l (⟨"com/example/tailrace/tailrace/cli/Count$Tally", "<init>", "()V"⟩ : MethodName) (head1 (Jvm.Cond.code (⟨"com/example/tailrace/tailrace/cli/Count$Tally", "<init>", "()V"⟩ : MethodName) prog_48_method_1_code 1 none :: ws) ({ frames := 1, cells := 0, slots := 0, locals := 12 } : Room)) (fun a U => a = #[(.ref a1)] ∧ Z.Warmed39 U.vm ∧ U.heap = h0) (fun _ _ _ _ _ => True) (fun _ U o U' => ∃ v L, o = .returned v ∧ Q_rta Z a1 h0 n0 v U'.heap L ∧ FrameEnd U o U' L ({ frames := 1, cells := 0, slots := 0, locals := 12 } : Room).cells ({ frames := 1, cells := 0, slots := 0, locals := 12 } : Room).slots) := by
  refine MetFree.of_bodySF (plainFor_of_name pn_4) hisR ?_
  intro p e s m args below meth c s₁ Bd hml0 hP hK
  obtain ⟨rfl, hZ, hh⟩ := hP
  have hx := Bd.exec
  have hby := Bd.bytes
  have hml : c.maxLocals = 1 := hml0
  have hown : s.vm.findClass "com/example/tailrace/tailrace/cli/Count$Tally" = some m.cls := findClass_of_methodNamed Bd.named
  have hnm := (name_of_methodNamed Bd.named Bd.method).1
  have X0 : Stand p l e ({ frames := 1, cells := 0, slots := 0, locals := 12 } : Room) s m #[(.ref a1)] below meth c s₁ [] 0 0 := Stand.of_body Bd
  have e0 : s₁.heap = h0 := by rw [← hh, Bd.state]; rfl
  have N0 := Fr.nil n0
  have pre0 : ∀ t, Steps p.tables e below (s₁.setTop (mkF m 0 #[.val (.ref a1)] [])) t → Steps p.tables e below (s₁.setTop (entryFrame m #[(.ref a1)] 1)) t := fun t k => castTop (ef_rta m a1) k
  change Go p.tables e below (fun o U' => ∃ v L, o = .returned v ∧ Q_rta Z a1 h0 n0 v U'.heap L ∧ FrameEnd s o U' L ({ frames := 1, cells := 0, slots := 0, locals := 12 } : Room).cells ({ frames := 1, cells := 0, slots := 0, locals := 12 } : Room).slots) (s₁.setTop (entryFrame m #[(.ref a1)] 1))
  refine Go.on pre0 ?_
  refine Go.on (B := s₁.setTop (mkF m 1 #[.val (.ref a1)] [(.ref a1)])) (fun t k => XS.aloadN X0.here hx rfl (hb hby d4_0) rfl rfl k) ?_
  obtain ⟨T1, X1, e1, st1⟩ := initO X0 hx hZ hown (hw _ (List.mem_of_getElem? (i := 20) rfl)) (hw _ (List.mem_of_getElem? (i := 7) rfl)) (hw _ (List.mem_of_getElem? (i := 8) rfl)) e0 (g := (mkF m 1 #[.val (.ref a1)] [(.ref a1)])) rfl (by rw [hml]; rfl) rfl (hb hby d4_1) (by decide) (W := 0) (by show 2 * 0 + _ ≤ _; exact Nat.le_of_eq rfl) (by decide)
  refine Go.on (B := T1.setTop (mkF m 4 #[.val (.ref a1)] [])) (fun t k => st1 _ k) ?_
  obtain ⟨fs, hr, hrun, hended, hW, hsame⟩ := X1.leave (v := none) (fun _ => rfl)
  refine ⟨_, _, ?_, hrun, hended, _, _, rfl, ?_, ⟨_, rfl⟩, hW, hsame.mono (by decide) (by decide)⟩
  · exact X1.returnOut hx Bd.returns (hb hby d4_4) hr
  · show Q_rta Z a1 h0 n0 _ T1.heap _
    rw [e1]
    exact ⟨rfl, N0, rfl⟩
theorem d3_0 : decode prog_47_method_2_code 0 = .ok (.new 7, 3) := by decide +kernel
theorem d3_3 : decode prog_47_method_2_code 3 = .ok (.dup, 1) := by decide +kernel
theorem d3_4 : decode prog_47_method_2_code 4 = .ok (.invokespecial 9, 3) := by decide +kernel
theorem d3_7 : decode prog_47_method_2_code 7 = .ok (.areturn, 1) := by decide +kernel
theorem pd_0 : parseMethodDescriptor "()V" = some ⟨[], none⟩ := by decide +kernel
theorem ef_rcr (m : MethodId) (a1 : Addr) : entryFrame m #[(.ref a1)] 1 = mkF m 0 #[.val (.ref a1)] [] := by first | (simp [entryFrame, mkF, argsToLocals, Value.category]; done) | rfl
def Q_rcr (Z : State) (a1 : Addr) (h0 : Heap) (n0 : Nat) (v : Option Value) (h : Heap) (L : List Loc) : Prop := (∃ b : Addr, v = some (.ref b) ∧ h0.size ≤ b ∧ Exa Z h b "com/example/tailrace/tailrace/cli/Count$Tally" ∧ Fld Z h b "com/example/tailrace/tailrace/cli/Count$Tally" "count" "J" (.long (0 : Int64))) ∧ Fr n0 L ∧ Keep h0 h []
set_option maxRecDepth 65536 in
set_option maxHeartbeats 40000000 in
theorem rcr (l : Launch) (Z : State) (a0 : Array Value) (hw : ∀ d ∈ tables_1, d.before a0 Z = true) (ws : List Jvm.Cond) (a1 : Addr) (h0 : Heap) (n0 : Nat) (Z0 : n0 ≤ h0.size)  :
    MetFree l (⟨"com/example/tailrace/tailrace/cli/Count", "createAccumulator", "()Lcom/example/tailrace/tailrace/cli/Count$Tally;"⟩ : MethodName) (head1 (Jvm.Cond.code (⟨"com/example/tailrace/tailrace/cli/Count", "createAccumulator", "()Lcom/example/tailrace/tailrace/cli/Count$Tally;"⟩ : MethodName) prog_47_method_2_code 1 (some (.object "com/example/tailrace/tailrace/cli/Count$Tally")) :: ws) ({ frames := 2, cells := 1, slots := 1, locals := 26 } : Room)) (fun a U => a = #[(.ref a1)] ∧ Z.Warmed39 U.vm ∧ U.heap = h0) (fun _ _ _ _ _ => True) (fun _ U o U' => ∃ v L, o = .returned v ∧ Q_rcr Z a1 h0 n0 v U'.heap L ∧ FrameEnd U o U' L ({ frames := 2, cells := 1, slots := 1, locals := 26 } : Room).cells ({ frames := 2, cells := 1, slots := 1, locals := 26 } : Room).slots) := by
  refine MetFree.of_bodySF (plainFor_of_name pn_2) hisR ?_
  intro p e s m args below meth c s₁ Bd hml0 hP hK
  obtain ⟨rfl, hZ, hh⟩ := hP
  have hx := Bd.exec
  have hby := Bd.bytes
  have hml : c.maxLocals = 1 := hml0
  have hown : s.vm.findClass "com/example/tailrace/tailrace/cli/Count" = some m.cls := findClass_of_methodNamed Bd.named
  have hnm := (name_of_methodNamed Bd.named Bd.method).1
  have X0 : Stand p l e ({ frames := 2, cells := 1, slots := 1, locals := 26 } : Room) s m #[(.ref a1)] below meth c s₁ [] 0 0 := Stand.of_body Bd
  have e0 : s₁.heap = h0 := by rw [← hh, Bd.state]; rfl
  have N0 := Fr.nil n0
  have pre0 : ∀ t, Steps p.tables e below (s₁.setTop (mkF m 0 #[.val (.ref a1)] [])) t → Steps p.tables e below (s₁.setTop (entryFrame m #[(.ref a1)] 1)) t := fun t k => castTop (ef_rcr m a1) k
  change Go p.tables e below (fun o U' => ∃ v L, o = .returned v ∧ Q_rcr Z a1 h0 n0 v U'.heap L ∧ FrameEnd s o U' L ({ frames := 2, cells := 1, slots := 1, locals := 26 } : Room).cells ({ frames := 2, cells := 1, slots := 1, locals := 26 } : Room).slots) (s₁.setTop (entryFrame m #[(.ref a1)] 1))
  have K0 := Keep.refl h0 []
  refine Go.on pre0 ?_
  obtain ⟨T1, h1, X1, e1, E1, A1, D1, -, st1⟩ := newO X0 hx hZ hown (hw _ (List.mem_of_getElem? (i := 14) rfl)) (hw _ (List.mem_of_getElem? (i := 15) rfl)) (hw _ (List.mem_of_getElem? (i := 16) rfl)) e0 (g := (mkF m 0 #[.val (.ref a1)] [])) rfl (hb hby d3_0) (by decide) (by decide)
  obtain ⟨b1, g1⟩ : ∃ z, z = h0.size := ⟨_, rfl⟩
  rw [← g1] at A1 D1 st1
  have ge_b1 : n0 ≤ b1 := Nat.le_trans Z0 (Nat.le_of_eq g1.symm)
  have sz_b1 : h0.size ≤ b1 := Nat.le_trans K0.1 (Nat.le_of_eq g1.symm)
  have Zs1 := Nat.le_trans Z0 E1.1
  have K2 := K0.ext E1
  have F1_count : Fld Z h1 b1 "com/example/tailrace/tailrace/cli/Count$Tally" "count" "J" (.long (0 : Int64)) := D1 (Or.inl (hw _ (List.mem_of_getElem? (i := 34) rfl))) (ty := .long) (by decide)
  refine Go.on (B := T1.setTop (mkF m 3 #[.val (.ref a1)] [(.ref b1)])) (fun t k => st1 _ k) ?_
  refine Go.on (B := T1.setTop (mkF m 4 #[.val (.ref a1)] [(.ref b1), (.ref b1)])) (fun t k => XS.dup X1.here hx rfl (hb hby d3_3) rfl rfl k) ?_
  obtain ⟨_, _, ⟨T2, L2, k2, n2⟩, -, X2, ⟨Lc2, hQ2, l2, y2, z2⟩, st2⟩ := X1.specialBack hx (y := (⟨"com/example/tailrace/tailrace/cli/Count$Tally", "<init>", "()V"⟩ : MethodName)) rfl hown (mvT hZ (hw _ (List.mem_of_getElem? (i := 17) rfl))) (mvT hZ (hw _ (List.mem_of_getElem? (i := 18) rfl))) (mvT hZ (hw _ (List.mem_of_getElem? (i := 19) rfl))) (by decide) (backOf (W := 1) (rta l Z a0 hw [] b1 h1 n0 Zs1) hZ (hw _ (List.mem_of_getElem? (i := 19) rfl)) (hw _ (List.mem_of_getElem? (i := 16) rfl)) (by decide) (by decide)) (g := (mkF m 4 #[.val (.ref a1)] [(.ref b1), (.ref b1)])) rfl (by rw [hml]; rfl) (Steps.refl _) (a := b1) (argsL := []) (rest := [(.ref b1)]) (lenOf pd_0 rfl) rfl (by show 2 * 0 + _ ≤ _; exact Nat.le_of_eq rfl) (hb hby d3_4) (fun _ _ => ⟨rfl, e1, (by decide : 1 + 0 ≤ _), (by decide : 1 + 0 ≤ _)⟩)
  dsimp only [Pt.U, Pt.locs, Pt.cells, Pt.slots] at X2 l2 y2 z2 st2 hQ2
  subst l2 y2 z2
  obtain ⟨rfl, N2q, e2q⟩ := hQ2
  have N2 := Fr.app N0 N2q
  refine Go.on (B := T2.setTop (mkF m 7 #[.val (.ref a1)] [(.ref b1)])) (fun t k => st2.trans k) ?_
  obtain ⟨fs, hr, hrun, hended, hW, hsame⟩ := X2.leave (v := some (.ref b1)) (fun h => by rw [Bd.returns] at h; cases h)
  refine ⟨_, _, ?_, hrun, hended, _, _, rfl, ?_, ⟨_, rfl⟩, hW, hsame.mono (by decide) (by decide)⟩
  · exact retOut X2 hx Bd.returns rfl (Or.inr (Or.inr (Or.inr (Or.inr ⟨rfl, rfl, rfl⟩)))) (hb hby d3_7) hr
  · show Q_rcr Z a1 h0 n0 _ T2.heap _
    rw [e2q]
    exact ⟨⟨_, rfl, sz_b1, A1, F1_count⟩, N2, K2⟩
theorem d11_0 : decode jdk_18_method_1_code 0 = .ok (.aload_n 0, 1) := by decide +kernel
theorem d11_1 : decode jdk_18_method_1_code 1 = .ok (.invokespecial 1, 3) := by decide +kernel
theorem d11_4 : decode jdk_18_method_1_code 4 = .ok (.return_, 1) := by decide +kernel
theorem pn_8 : plainName "java/lang/Number" = true := by first | (simp [plainName, overriddenIn]; done) | decide +kernel
theorem ef_rnum (m : MethodId) (a1 : Addr) : entryFrame m #[(.ref a1)] 1 = mkF m 0 #[.val (.ref a1)] [] := by first | (simp [entryFrame, mkF, argsToLocals, Value.category]; done) | rfl
def Q_rnum (Z : State) (a1 : Addr) (h0 : Heap) (n0 : Nat) (v : Option Value) (h : Heap) (L : List Loc) : Prop := v = none ∧ Fr n0 L ∧ h = h0
set_option maxRecDepth 65536 in
set_option maxHeartbeats 40000000 in
theorem rnum (l : Launch) (Z : State) (a0 : Array Value) (hw : ∀ d ∈ tables_1, d.before a0 Z = true) (ws : List Jvm.Cond) (a1 : Addr) (h0 : Heap) (n0 : Nat) (Z0 : n0 ≤ h0.size)  :
    MetFree l (⟨"java/lang/Number", "<init>", "()V"⟩ : MethodName) (head1 (Jvm.Cond.code (⟨"java/lang/Number", "<init>", "()V"⟩ : MethodName) jdk_18_method_1_code 1 none :: ws) ({ frames := 1, cells := 0, slots := 0, locals := 12 } : Room)) (fun a U => a = #[(.ref a1)] ∧ Z.Warmed39 U.vm ∧ U.heap = h0) (fun _ _ _ _ _ => True) (fun _ U o U' => ∃ v L, o = .returned v ∧ Q_rnum Z a1 h0 n0 v U'.heap L ∧ FrameEnd U o U' L ({ frames := 1, cells := 0, slots := 0, locals := 12 } : Room).cells ({ frames := 1, cells := 0, slots := 0, locals := 12 } : Room).slots) := by
  refine MetFree.of_bodySF (plainFor_of_name pn_8) hisR ?_
  intro p e s m args below meth c s₁ Bd hml0 hP hK
  obtain ⟨rfl, hZ, hh⟩ := hP
  have hx := Bd.exec
  have hby := Bd.bytes
  have hml : c.maxLocals = 1 := hml0
  have hown : s.vm.findClass "java/lang/Number" = some m.cls := findClass_of_methodNamed Bd.named
  have hnm := (name_of_methodNamed Bd.named Bd.method).1
  have X0 : Stand p l e ({ frames := 1, cells := 0, slots := 0, locals := 12 } : Room) s m #[(.ref a1)] below meth c s₁ [] 0 0 := Stand.of_body Bd
  have e0 : s₁.heap = h0 := by rw [← hh, Bd.state]; rfl
  have N0 := Fr.nil n0
  have pre0 : ∀ t, Steps p.tables e below (s₁.setTop (mkF m 0 #[.val (.ref a1)] [])) t → Steps p.tables e below (s₁.setTop (entryFrame m #[(.ref a1)] 1)) t := fun t k => castTop (ef_rnum m a1) k
  change Go p.tables e below (fun o U' => ∃ v L, o = .returned v ∧ Q_rnum Z a1 h0 n0 v U'.heap L ∧ FrameEnd s o U' L ({ frames := 1, cells := 0, slots := 0, locals := 12 } : Room).cells ({ frames := 1, cells := 0, slots := 0, locals := 12 } : Room).slots) (s₁.setTop (entryFrame m #[(.ref a1)] 1))
  refine Go.on pre0 ?_
  refine Go.on (B := s₁.setTop (mkF m 1 #[.val (.ref a1)] [(.ref a1)])) (fun t k => XS.aloadN X0.here hx rfl (hb hby d11_0) rfl rfl k) ?_
  obtain ⟨T1, X1, e1, st1⟩ := initO X0 hx hZ hown (hw _ (List.mem_of_getElem? (i := 67) rfl)) (hw _ (List.mem_of_getElem? (i := 7) rfl)) (hw _ (List.mem_of_getElem? (i := 8) rfl)) e0 (g := (mkF m 1 #[.val (.ref a1)] [(.ref a1)])) rfl (by rw [hml]; rfl) rfl (hb hby d11_1) (by decide) (W := 0) (by show 2 * 0 + _ ≤ _; exact Nat.le_of_eq rfl) (by decide)
  refine Go.on (B := T1.setTop (mkF m 4 #[.val (.ref a1)] [])) (fun t k => st1 _ k) ?_
  obtain ⟨fs, hr, hrun, hended, hW, hsame⟩ := X1.leave (v := none) (fun _ => rfl)
  refine ⟨_, _, ?_, hrun, hended, _, _, rfl, ?_, ⟨_, rfl⟩, hW, hsame.mono (by decide) (by decide)⟩
  · exact X1.returnOut hx Bd.returns (hb hby d11_4) hr
  · show Q_rnum Z a1 h0 n0 _ T1.heap _
    rw [e1]
    exact ⟨rfl, N0, rfl⟩
theorem d10_0 : decode jdk_33_method_23_code 0 = .ok (.aload_n 0, 1) := by decide +kernel
theorem d10_1 : decode jdk_33_method_23_code 1 = .ok (.invokespecial 202, 3) := by decide +kernel
theorem d10_4 : decode jdk_33_method_23_code 4 = .ok (.aload_n 0, 1) := by decide +kernel
theorem d10_5 : decode jdk_33_method_23_code 5 = .ok (.iload_n 1, 1) := by decide +kernel
theorem d10_6 : decode jdk_33_method_23_code 6 = .ok (.putfield 205, 3) := by decide +kernel
theorem d10_9 : decode jdk_33_method_23_code 9 = .ok (.return_, 1) := by decide +kernel
theorem pn_10 : plainName "java/lang/Integer" = true := by first | (simp [plainName, overriddenIn]; done) | decide +kernel
theorem ef_rii (m : MethodId) (a1 : Addr) (p2 : Int32) : entryFrame m #[(.ref a1), (.int p2)] 2 = mkF m 0 #[.val (.ref a1), .val (.int p2)] [] := by first | (simp [entryFrame, mkF, argsToLocals, Value.category]; done) | rfl
def Q_rii (Z : State) (a1 : Addr) (p2 : Int32) (h0 : Heap) (n0 : Nat) (v : Option Value) (h : Heap) (L : List Loc) : Prop := v = none ∧ Fr n0 L ∧ Keep h0 h [a1] ∧ Exa Z h a1 "java/lang/Integer" ∧ Fld Z h a1 "java/lang/Integer" "value" "I" (.int p2)
set_option maxRecDepth 65536 in
set_option maxHeartbeats 40000000 in
theorem rii (l : Launch) (Z : State) (a0 : Array Value) (hw : ∀ d ∈ tables_1, d.before a0 Z = true) (ws : List Jvm.Cond) (a1 : Addr) (p2 : Int32) (h0 : Heap) (n0 : Nat) (Z0 : n0 ≤ h0.size) (E1 : Exa Z h0 a1 "java/lang/Integer") (F1 : Fld Z h0 a1 "java/lang/Integer" "value" "I" (.int (0 : Int32))) (g1 : n0 ≤ a1) :
    MetFree l (⟨"java/lang/Integer", "<init>", "(I)V"⟩ : MethodName) (head1 (Jvm.Cond.code (⟨"java/lang/Integer", "<init>", "(I)V"⟩ : MethodName) jdk_33_method_23_code 2 none :: ws) ({ frames := 2, cells := 0, slots := 0, locals := 24 } : Room)) (fun a U => a = #[(.ref a1), (.int p2)] ∧ Z.Warmed39 U.vm ∧ U.heap = h0) (fun _ _ _ _ _ => True) (fun _ U o U' => ∃ v L, o = .returned v ∧ Q_rii Z a1 p2 h0 n0 v U'.heap L ∧ FrameEnd U o U' L ({ frames := 2, cells := 0, slots := 0, locals := 24 } : Room).cells ({ frames := 2, cells := 0, slots := 0, locals := 24 } : Room).slots) := by
  refine MetFree.of_bodySF (plainFor_of_name pn_10) hisR ?_
  intro p e s m args below meth c s₁ Bd hml0 hP hK
  obtain ⟨rfl, hZ, hh⟩ := hP
  have hx := Bd.exec
  have hby := Bd.bytes
  have hml : c.maxLocals = 2 := hml0
  have hown : s.vm.findClass "java/lang/Integer" = some m.cls := findClass_of_methodNamed Bd.named
  have hnm := (name_of_methodNamed Bd.named Bd.method).1
  have X0 : Stand p l e ({ frames := 2, cells := 0, slots := 0, locals := 24 } : Room) s m #[(.ref a1), (.int p2)] below meth c s₁ [] 0 0 := Stand.of_body Bd
  have e0 : s₁.heap = h0 := by rw [← hh, Bd.state]; rfl
  have N0 := Fr.nil n0
  have pre0 : ∀ t, Steps p.tables e below (s₁.setTop (mkF m 0 #[.val (.ref a1), .val (.int p2)] [])) t → Steps p.tables e below (s₁.setTop (entryFrame m #[(.ref a1), (.int p2)] 2)) t := fun t k => castTop (ef_rii m a1 p2) k
  change Go p.tables e below (fun o U' => ∃ v L, o = .returned v ∧ Q_rii Z a1 p2 h0 n0 v U'.heap L ∧ FrameEnd s o U' L ({ frames := 2, cells := 0, slots := 0, locals := 24 } : Room).cells ({ frames := 2, cells := 0, slots := 0, locals := 24 } : Room).slots) (s₁.setTop (entryFrame m #[(.ref a1), (.int p2)] 2))
  have K0 := Keep.refl h0 [a1]
  refine Go.on pre0 ?_
  refine Go.on (B := s₁.setTop (mkF m 1 #[.val (.ref a1), .val (.int p2)] [(.ref a1)])) (fun t k => XS.aloadN X0.here hx rfl (hb hby d10_0) rfl rfl k) ?_
  obtain ⟨_, _, ⟨T1, L1, k1, n1⟩, -, X1, ⟨Lc1, hQ1, l1, y1, z1⟩, st1⟩ := X0.specialBack hx (y := (⟨"java/lang/Number", "<init>", "()V"⟩ : MethodName)) rfl hown (mvT hZ (hw _ (List.mem_of_getElem? (i := 61) rfl))) (mvT hZ (hw _ (List.mem_of_getElem? (i := 62) rfl))) (mvT hZ (hw _ (List.mem_of_getElem? (i := 66) rfl))) (by decide) (backOf (W := 0) (rnum l Z a0 hw [] a1 h0 n0 Z0) hZ (hw _ (List.mem_of_getElem? (i := 66) rfl)) (hw _ (List.mem_of_getElem? (i := 65) rfl)) (by decide) (by decide)) (g := (mkF m 1 #[.val (.ref a1), .val (.int p2)] [(.ref a1)])) rfl (by rw [hml]; rfl) (Steps.refl _) (a := a1) (argsL := []) (rest := []) (lenOf pd_0 rfl) rfl (by show 2 * 0 + _ ≤ _; exact Nat.le_of_eq rfl) (hb hby d10_1) (fun _ _ => ⟨rfl, e0, (by decide : 0 + 0 ≤ _), (by decide : 0 + 0 ≤ _)⟩)
  dsimp only [Pt.U, Pt.locs, Pt.cells, Pt.slots] at X1 l1 y1 z1 st1 hQ1
  subst l1 y1 z1
  obtain ⟨rfl, N1q, e1q⟩ := hQ1
  have N1 := Fr.app N0 N1q
  refine Go.on (B := T1.setTop (mkF m 4 #[.val (.ref a1), .val (.int p2)] [])) (fun t k => st1.trans k) ?_
  refine Go.on (B := T1.setTop (mkF m 5 #[.val (.ref a1), .val (.int p2)] [(.ref a1)])) (fun t k => XS.aloadN X1.here hx rfl (hb hby d10_4) rfl rfl k) ?_
  refine Go.on (B := T1.setTop (mkF m 6 #[.val (.ref a1), .val (.int p2)] [(.int p2), (.ref a1)])) (fun t k => XS.iloadN X1.here hx rfl (hb hby d10_5) rfl k) ?_
  obtain ⟨T2, h2, X2, e2, W2, st2⟩ := putF X1 hx hZ hown (host := "") (Or.inl (hw _ (List.mem_of_getElem? (i := 68) rfl))) Via.refl e1q F1 E1 (Or.inr ⟨(hw _ (List.mem_of_getElem? (i := 69) rfl)), rfl, hnm⟩) (hw _ (List.mem_of_getElem? (i := 56) rfl)) (ty := .int) (by decide) rfl rfl (g := (mkF m 6 #[.val (.ref a1), .val (.int p2)] [(.int p2), (.ref a1)])) rfl rfl (hb hby d10_6)
  have N2 := Fr.snoc X2 N1 g1
  have Fw2 := F1.same W2
  have f1 := E1.wr W2
  have Zs2 := Nat.le_trans Z0 (Keep.of_wr W2).1
  have K3 := K0.wr W2 (Or.inl (List.mem_of_getElem? (i := 0) rfl))
  refine Go.on (B := T2.setTop (mkF m 9 #[.val (.ref a1), .val (.int p2)] [])) (fun t k => st2 _ k) ?_
  obtain ⟨fs, hr, hrun, hended, hW, hsame⟩ := X2.leave (v := none) (fun _ => rfl)
  refine ⟨_, _, ?_, hrun, hended, _, _, rfl, ?_, ⟨_, rfl⟩, hW, hsame.mono (by decide) (by decide)⟩
  · exact X2.returnOut hx Bd.returns (hb hby d10_9) hr
  · show Q_rii Z a1 p2 h0 n0 _ T2.heap _
    rw [e2]
    exact ⟨rfl, N2, K3, f1, Fw2⟩
theorem own_ixi (q : Int32) (h1 : ¬ (q < (-128 : Int32))) (h2 : ¬ ((127 : Int32) < q)) : (¬ (q + (128 : Int32)) < 0 ∧ (q + (128 : Int32)) < (256 : Int32)) ∧ ((q + (128 : Int32)) - (128 : Int32)) = q := by
  have m1 : (-128 : Int32).toInt = -128 := by decide
  have m2 : (127 : Int32).toInt = 127 := by decide
  have m3 : (128 : Int32).toInt = 128 := by decide
  have m4 : (256 : Int32).toInt = 256 := by decide
  have m5 : (0 : Int32).toInt = 0 := by decide
  rw [Int32.lt_iff_toInt_lt, m1] at h1
  rw [Int32.lt_iff_toInt_lt, m2] at h2
  have k2 := c_iadd q 128
  have r2 := rng32 (q + 128)
  have k3 := c_isub (q + 128) 128
  have r3 := rng32 (q + 128 - 128)
  rw [m3] at k2 k3
  refine ⟨⟨?_, ?_⟩, ?_⟩
  · rw [Int32.lt_iff_toInt_lt, m5]; omega
  · rw [Int32.lt_iff_toInt_lt, m4]; omega
  · apply Int32.toInt_inj.mp
    omega
theorem d5_0 : decode jdk_33_method_22_code 0 = .ok (.iload_n 0, 1) := by decide +kernel
theorem d5_1 : decode jdk_33_method_22_code 1 = .ok (.bipush (-128), 2) := by decide +kernel
theorem d5_3 : decode jdk_33_method_22_code 3 = .ok (.if_icmp .lt 20, 3) := by decide +kernel
theorem d5_6 : decode jdk_33_method_22_code 6 = .ok (.iload_n 0, 1) := by decide +kernel
theorem d5_7 : decode jdk_33_method_22_code 7 = .ok (.getstatic 191, 3) := by decide +kernel
theorem d5_10 : decode jdk_33_method_22_code 10 = .ok (.if_icmp .gt 13, 3) := by decide +kernel
theorem d5_13 : decode jdk_33_method_22_code 13 = .ok (.getstatic 195, 3) := by decide +kernel
theorem d5_16 : decode jdk_33_method_22_code 16 = .ok (.iload_n 0, 1) := by decide +kernel
theorem d5_17 : decode jdk_33_method_22_code 17 = .ok (.sipush 128, 3) := by decide +kernel
theorem d5_20 : decode jdk_33_method_22_code 20 = .ok (.iadd, 1) := by decide +kernel
theorem d5_21 : decode jdk_33_method_22_code 21 = .ok (.aaload, 1) := by decide +kernel
theorem d5_22 : decode jdk_33_method_22_code 22 = .ok (.areturn, 1) := by decide +kernel
theorem d5_23 : decode jdk_33_method_22_code 23 = .ok (.new 1, 3) := by decide +kernel
theorem d5_26 : decode jdk_33_method_22_code 26 = .ok (.dup, 1) := by decide +kernel
theorem d5_27 : decode jdk_33_method_22_code 27 = .ok (.iload_n 0, 1) := by decide +kernel
theorem d5_28 : decode jdk_33_method_22_code 28 = .ok (.invokespecial 199, 3) := by decide +kernel
theorem d5_31 : decode jdk_33_method_22_code 31 = .ok (.areturn, 1) := by decide +kernel
theorem pd_1 : parseMethodDescriptor "(I)V" = some ⟨[.int], none⟩ := by decide +kernel
theorem ef_riv (m : MethodId) (p1 : Int32) : entryFrame m #[(.int p1)] 1 = mkF m 0 #[.val (.int p1)] [] := by first | (simp [entryFrame, mkF, argsToLocals, Value.category]; done) | rfl
def Q_riv (Z : State) (p1 : Int32) (ica : Addr) (icc : Cell) (h0 : Heap) (n0 : Nat) (v : Option Value) (h : Heap) (L : List Loc) : Prop := (∃ b : Addr, v = some (.ref b) ∧ Exa Z h b "java/lang/Integer" ∧ Fld Z h b "java/lang/Integer" "value" "I" (.int p1)) ∧ Fr n0 L ∧ Keep h0 h []
set_option maxRecDepth 65536 in
set_option maxHeartbeats 40000000 in
theorem riv (l : Launch) (Z : State) (a0 : Array Value) (hw : ∀ d ∈ tables_1, d.before a0 Z = true) (ws : List Jvm.Cond) (p1 : Int32) (ica : Addr) (icc : Cell) (h0 : Heap) (n0 : Nat) (Z0 : n0 ≤ h0.size) (O0 : Old Z n0 h0) (S_high : Sta Z Z.heap "java/lang/Integer$IntegerCache" "high" "I" (.int (127 : Int32))) (S_icache : Sta Z Z.heap "java/lang/Integer$IntegerCache" "cache" "[Ljava/lang/Integer;" (.ref ica)) (B_icache : Bxs Z ica icc "java/lang/Integer" "I" (256 : Int32) (fun j => .int (j - (128 : Int32)))) :
    MetFree l (⟨"java/lang/Integer", "valueOf", "(I)Ljava/lang/Integer;"⟩ : MethodName) (head1 (Jvm.Cond.code (⟨"java/lang/Integer", "valueOf", "(I)Ljava/lang/Integer;"⟩ : MethodName) jdk_33_method_22_code 1 (some (.object "java/lang/Integer")) :: ws) ({ frames := 3, cells := 1, slots := 1, locals := 40 } : Room)) (fun a U => a = #[(.int p1)] ∧ Z.Warmed39 U.vm ∧ U.heap = h0) (fun _ _ _ _ _ => True) (fun _ U o U' => ∃ v L, o = .returned v ∧ Q_riv Z p1 ica icc h0 n0 v U'.heap L ∧ FrameEnd U o U' L ({ frames := 3, cells := 1, slots := 1, locals := 40 } : Room).cells ({ frames := 3, cells := 1, slots := 1, locals := 40 } : Room).slots) := by
  refine MetFree.of_bodySF (plainFor_of_name pn_10) hisR ?_
  intro p e s m args below meth c s₁ Bd hml0 hP hK
  obtain ⟨rfl, hZ, hh⟩ := hP
  have hx := Bd.exec
  have hby := Bd.bytes
  have hml : c.maxLocals = 1 := hml0
  have hown : s.vm.findClass "java/lang/Integer" = some m.cls := findClass_of_methodNamed Bd.named
  have hnm := (name_of_methodNamed Bd.named Bd.method).1
  have X0 : Stand p l e ({ frames := 3, cells := 1, slots := 1, locals := 40 } : Room) s m #[(.int p1)] below meth c s₁ [] 0 0 := Stand.of_body Bd
  have e0 : s₁.heap = h0 := by rw [← hh, Bd.state]; rfl
  have N0 := Fr.nil n0
  have pre0 : ∀ t, Steps p.tables e below (s₁.setTop (mkF m 0 #[.val (.int p1)] [])) t → Steps p.tables e below (s₁.setTop (entryFrame m #[(.int p1)] 1)) t := fun t k => castTop (ef_riv m p1) k
  change Go p.tables e below (fun o U' => ∃ v L, o = .returned v ∧ Q_riv Z p1 ica icc h0 n0 v U'.heap L ∧ FrameEnd s o U' L ({ frames := 3, cells := 1, slots := 1, locals := 40 } : Room).cells ({ frames := 3, cells := 1, slots := 1, locals := 40 } : Room).slots) (s₁.setTop (entryFrame m #[(.int p1)] 1))
  have K0 := Keep.refl h0 []
  have S0 := S_icache.ext O0.2
  have S1 := S_high.ext O0.2
  refine Go.on pre0 ?_
  refine Go.on (B := s₁.setTop (mkF m 1 #[.val (.int p1)] [(.int p1)])) (fun t k => XS.iloadN X0.here hx rfl (hb hby d5_0) rfl k) ?_
  refine Go.on (B := s₁.setTop (mkF m 3 #[.val (.int p1)] [(.int (-128 : Int32)), (.int p1)])) (fun t k => XS.bipush X0.here hx rfl (hb hby d5_1) k) ?_
  by_cases hc3_1 : p1 < (-128 : Int32)
  · refine Go.on (B := s₁.setTop (mkF m 23 #[.val (.int p1)] [])) (fun t k => XS.icmpYes X0.here hx rfl (pc0 := 3) (pc' := 23) rfl (hb hby d5_3) rfl (tlt hc3_1).1 (by decide) (by decide) k) ?_
    obtain ⟨T2, h2, X2, e2, E2, A2, D2, -, st2⟩ := newO X0 hx hZ hown (hw _ (List.mem_of_getElem? (i := 55) rfl)) (hw _ (List.mem_of_getElem? (i := 56) rfl)) (hw _ (List.mem_of_getElem? (i := 23) rfl)) e0 (g := (mkF m 23 #[.val (.int p1)] [])) rfl (hb hby d5_23) (by decide) (by decide)
    obtain ⟨b2, g2⟩ : ∃ z, z = h0.size := ⟨_, rfl⟩
    rw [← g2] at A2 D2 st2
    have ge_b2 : n0 ≤ b2 := Nat.le_trans Z0 (Nat.le_of_eq g2.symm)
    have sz_b2 : h0.size ≤ b2 := Nat.le_trans K0.1 (Nat.le_of_eq g2.symm)
    have f1 := S0.ext E2
    have f2 := S1.ext E2
    have Zs3 := Nat.le_trans Z0 E2.1
    have K4 := K0.ext E2
    have F2_value : Fld Z h2 b2 "java/lang/Integer" "value" "I" (.int (0 : Int32)) := D2 (Or.inr (hw _ (List.mem_of_getElem? (i := 69) rfl))) (ty := .int) (by decide)
    refine Go.on (B := T2.setTop (mkF m 26 #[.val (.int p1)] [(.ref b2)])) (fun t k => st2 _ k) ?_
    refine Go.on (B := T2.setTop (mkF m 27 #[.val (.int p1)] [(.ref b2), (.ref b2)])) (fun t k => XS.dup X2.here hx rfl (hb hby d5_26) rfl rfl k) ?_
    refine Go.on (B := T2.setTop (mkF m 28 #[.val (.int p1)] [(.int p1), (.ref b2), (.ref b2)])) (fun t k => XS.iloadN X2.here hx rfl (hb hby d5_27) rfl k) ?_
    obtain ⟨_, _, ⟨T3, L3, k3, n3⟩, -, X3, ⟨Lc3, hQ3, l3, y3, z3⟩, st3⟩ := X2.specialBack hx (y := (⟨"java/lang/Integer", "<init>", "(I)V"⟩ : MethodName)) rfl hown (mvT hZ (hw _ (List.mem_of_getElem? (i := 57) rfl))) (mvT hZ (hw _ (List.mem_of_getElem? (i := 58) rfl))) (mvT hZ (hw _ (List.mem_of_getElem? (i := 60) rfl))) (by decide) (backOf (W := 1) (rii l Z a0 hw [] b2 p1 h2 n0 Zs3 A2 F2_value ge_b2) hZ (hw _ (List.mem_of_getElem? (i := 60) rfl)) (hw _ (List.mem_of_getElem? (i := 23) rfl)) (by decide) (by decide)) (g := (mkF m 28 #[.val (.int p1)] [(.int p1), (.ref b2), (.ref b2)])) rfl (by rw [hml]; rfl) (Steps.refl _) (a := b2) (argsL := [(.int p1)]) (rest := [(.ref b2)]) (lenOf pd_1 rfl) rfl (by show 2 * 0 + _ ≤ _; exact Nat.le_of_eq rfl) (hb hby d5_28) (fun _ _ => ⟨rfl, e2, (by decide : 1 + 0 ≤ _), (by decide : 1 + 0 ≤ _)⟩)
    dsimp only [Pt.U, Pt.locs, Pt.cells, Pt.slots] at X3 l3 y3 z3 st3 hQ3
    subst l3 y3 z3
    obtain ⟨rfl, N3q, K3q, G3_0, G3_1⟩ := hQ3
    have N3 := Fr.app N0 N3q
    have f5 := A2.keep K3q
    have Zs6 := Nat.le_trans Zs3 K3q.1
    have K7 := K4.trans K3q (allS (Or.inr sz_b2) all0)
    refine Go.on (B := T3.setTop (mkF m 31 #[.val (.int p1)] [(.ref b2)])) (fun t k => st3.trans k) ?_
    obtain ⟨fs, hr, hrun, hended, hW, hsame⟩ := X3.leave (v := some (.ref b2)) (fun h => by rw [Bd.returns] at h; cases h)
    refine ⟨_, _, ?_, hrun, hended, _, _, rfl, ?_, ⟨_, rfl⟩, hW, hsame.mono (by decide) (by decide)⟩
    · exact retOut X3 hx Bd.returns rfl (Or.inr (Or.inr (Or.inr (Or.inr ⟨rfl, rfl, rfl⟩)))) (hb hby d5_31) hr
    · show Q_riv Z p1 ica icc h0 n0 _ T3.heap _
      exact ⟨⟨_, rfl, G3_0, G3_1⟩, N3, K7⟩
  · refine Go.on (B := s₁.setTop (mkF m 6 #[.val (.int p1)] [])) (fun t k => XS.icmpNo X0.here hx rfl (hb hby d5_3) rfl (flt hc3_1).1 k) ?_
    refine Go.on (B := s₁.setTop (mkF m 7 #[.val (.int p1)] [(.int p1)])) (fun t k => XS.iloadN X0.here hx rfl (hb hby d5_6) rfl k) ?_
    obtain ⟨T4, X4, e4, st4⟩ := getS2 X0 hx hZ hown (host := "") (Or.inl (hw _ (List.mem_of_getElem? (i := 25) rfl))) Via.refl e0 S1 (g := (mkF m 7 #[.val (.int p1)] [(.int p1)])) rfl (hb hby d5_7)
    refine Go.on (B := T4.setTop (mkF m 10 #[.val (.int p1)] [(.int (127 : Int32)), (.int p1)])) (fun t k => st4 _ k) ?_
    by_cases hc10_5 : (127 : Int32) < p1
    · refine Go.on (B := T4.setTop (mkF m 23 #[.val (.int p1)] [])) (fun t k => XS.icmpYes X4.here hx rfl (pc0 := 10) (pc' := 23) rfl (hb hby d5_10) rfl (tlt hc10_5).2.2.1 (by decide) (by decide) k) ?_
      obtain ⟨T6, h6, X6, e6, E6, A6, D6, -, st6⟩ := newO X4 hx hZ hown (hw _ (List.mem_of_getElem? (i := 55) rfl)) (hw _ (List.mem_of_getElem? (i := 56) rfl)) (hw _ (List.mem_of_getElem? (i := 23) rfl)) e4 (g := (mkF m 23 #[.val (.int p1)] [])) rfl (hb hby d5_23) (by decide) (by decide)
      obtain ⟨b6, g6⟩ : ∃ z, z = h0.size := ⟨_, rfl⟩
      rw [← g6] at A6 D6 st6
      have ge_b6 : n0 ≤ b6 := Nat.le_trans Z0 (Nat.le_of_eq g6.symm)
      have sz_b6 : h0.size ≤ b6 := Nat.le_trans K0.1 (Nat.le_of_eq g6.symm)
      have f8 := S0.ext E6
      have f9 := S1.ext E6
      have Zs10 := Nat.le_trans Z0 E6.1
      have K11 := K0.ext E6
      have F6_value : Fld Z h6 b6 "java/lang/Integer" "value" "I" (.int (0 : Int32)) := D6 (Or.inr (hw _ (List.mem_of_getElem? (i := 69) rfl))) (ty := .int) (by decide)
      refine Go.on (B := T6.setTop (mkF m 26 #[.val (.int p1)] [(.ref b6)])) (fun t k => st6 _ k) ?_
      refine Go.on (B := T6.setTop (mkF m 27 #[.val (.int p1)] [(.ref b6), (.ref b6)])) (fun t k => XS.dup X6.here hx rfl (hb hby d5_26) rfl rfl k) ?_
      refine Go.on (B := T6.setTop (mkF m 28 #[.val (.int p1)] [(.int p1), (.ref b6), (.ref b6)])) (fun t k => XS.iloadN X6.here hx rfl (hb hby d5_27) rfl k) ?_
      obtain ⟨_, _, ⟨T7, L7, k7, n7⟩, -, X7, ⟨Lc7, hQ7, l7, y7, z7⟩, st7⟩ := X6.specialBack hx (y := (⟨"java/lang/Integer", "<init>", "(I)V"⟩ : MethodName)) rfl hown (mvT hZ (hw _ (List.mem_of_getElem? (i := 57) rfl))) (mvT hZ (hw _ (List.mem_of_getElem? (i := 58) rfl))) (mvT hZ (hw _ (List.mem_of_getElem? (i := 60) rfl))) (by decide) (backOf (W := 1) (rii l Z a0 hw [] b6 p1 h6 n0 Zs10 A6 F6_value ge_b6) hZ (hw _ (List.mem_of_getElem? (i := 60) rfl)) (hw _ (List.mem_of_getElem? (i := 23) rfl)) (by decide) (by decide)) (g := (mkF m 28 #[.val (.int p1)] [(.int p1), (.ref b6), (.ref b6)])) rfl (by rw [hml]; rfl) (Steps.refl _) (a := b6) (argsL := [(.int p1)]) (rest := [(.ref b6)]) (lenOf pd_1 rfl) rfl (by show 2 * 0 + _ ≤ _; exact Nat.le_of_eq rfl) (hb hby d5_28) (fun _ _ => ⟨rfl, e6, (by decide : 1 + 0 ≤ _), (by decide : 1 + 0 ≤ _)⟩)
      dsimp only [Pt.U, Pt.locs, Pt.cells, Pt.slots] at X7 l7 y7 z7 st7 hQ7
      subst l7 y7 z7
      obtain ⟨rfl, N7q, K7q, G7_0, G7_1⟩ := hQ7
      have N7 := Fr.app N0 N7q
      have f12 := A6.keep K7q
      have Zs13 := Nat.le_trans Zs10 K7q.1
      have K14 := K11.trans K7q (allS (Or.inr sz_b6) all0)
      refine Go.on (B := T7.setTop (mkF m 31 #[.val (.int p1)] [(.ref b6)])) (fun t k => st7.trans k) ?_
      obtain ⟨fs, hr, hrun, hended, hW, hsame⟩ := X7.leave (v := some (.ref b6)) (fun h => by rw [Bd.returns] at h; cases h)
      refine ⟨_, _, ?_, hrun, hended, _, _, rfl, ?_, ⟨_, rfl⟩, hW, hsame.mono (by decide) (by decide)⟩
      · exact retOut X7 hx Bd.returns rfl (Or.inr (Or.inr (Or.inr (Or.inr ⟨rfl, rfl, rfl⟩)))) (hb hby d5_31) hr
      · show Q_riv Z p1 ica icc h0 n0 _ T7.heap _
        exact ⟨⟨_, rfl, G7_0, G7_1⟩, N7, K14⟩
    · refine Go.on (B := T4.setTop (mkF m 13 #[.val (.int p1)] [])) (fun t k => XS.icmpNo X4.here hx rfl (hb hby d5_10) rfl (flt hc10_5).2.2.1 k) ?_
      obtain ⟨T8, X8, e8, st8⟩ := getS2 X4 hx hZ hown (host := "") (Or.inl (hw _ (List.mem_of_getElem? (i := 27) rfl))) Via.refl e4 S0 (g := (mkF m 13 #[.val (.int p1)] [])) rfl (hb hby d5_13)
      refine Go.on (B := T8.setTop (mkF m 16 #[.val (.int p1)] [(.ref ica)])) (fun t k => st8 _ k) ?_
      refine Go.on (B := T8.setTop (mkF m 17 #[.val (.int p1)] [(.int p1), (.ref ica)])) (fun t k => XS.iloadN X8.here hx rfl (hb hby d5_16) rfl k) ?_
      refine Go.on (B := T8.setTop (mkF m 20 #[.val (.int p1)] [(.int (128 : Int32)), (.int p1), (.ref ica)])) (fun t k => XS.sipush X8.here hx rfl (hb hby d5_17) k) ?_
      refine Go.on (B := T8.setTop (mkF m 21 #[.val (.int p1)] [(.int (p1 + (128 : Int32))), (.ref ica)])) (fun t k => XS.iadd X8.here hx rfl (hb hby d5_20) rfl k) ?_
      have hidx := inb_of B_icache.2.1 (own_ixi p1 hc3_1 hc10_5).1
      obtain ⟨box, hbx, Ebx, Fbx⟩ := B_icache.2.2.2 (p1 + (128 : Int32)) hidx
      have Arx := B_icache.1.ext O0.2
      refine Go.on (B := T8.setTop (mkF m 22 #[.val (.int p1)] [(.ref box)])) (fun t k => X8.aaload hx (j := (p1 + (128 : Int32))) (v := (.ref box)) (by rw [e8]; exact Arx.1) (State.isArrayOf_alike hZ.alike Arx.2.1) rfl Arx.2.2 hidx hbx (g := (mkF m 21 #[.val (.int p1)] [(.int (p1 + (128 : Int32))), (.ref ica)])) rfl rfl (hb hby d5_21) _ k) ?_
      obtain ⟨fs, hr, hrun, hended, hW, hsame⟩ := X8.leave (v := some (.ref box)) (fun h => by rw [Bd.returns] at h; cases h)
      refine ⟨_, _, ?_, hrun, hended, _, _, rfl, ?_, ⟨_, rfl⟩, hW, hsame.mono (by decide) (by decide)⟩
      · exact retOut X8 hx Bd.returns rfl (Or.inr (Or.inr (Or.inr (Or.inr ⟨rfl, rfl, rfl⟩)))) (hb hby d5_22) hr
      · show Q_riv Z p1 ica icc h0 n0 _ T8.heap _
        rw [e8]
        exact ⟨⟨_, rfl, (Ebx.ext O0.2), ((congrArg Value.int (own_ixi p1 hc3_1 hc10_5).2) ▸ (Fbx.ext O0.2))⟩, N0, K0⟩
theorem own_ixl (q : Int64) (h1 : ¬ (q < (-128 : Int64))) (h2 : ¬ ((127 : Int64) < q)) : (¬ ((q.toInt32) + (128 : Int32)) < 0 ∧ ((q.toInt32) + (128 : Int32)) < (256 : Int32)) ∧ ((((q.toInt32) + (128 : Int32)) - (128 : Int32)).toInt64) = q := by
  have m1 : (-128 : Int64).toInt = -128 := by decide
  have m2 : (127 : Int64).toInt = 127 := by decide
  have m3 : (128 : Int32).toInt = 128 := by decide
  have m4 : (256 : Int32).toInt = 256 := by decide
  have m5 : (0 : Int32).toInt = 0 := by decide
  rw [Int64.lt_iff_toInt_lt, m1] at h1
  rw [Int64.lt_iff_toInt_lt, m2] at h2
  have k1 := c_l2i q
  have r1 := rng32 q.toInt32
  have k2 := c_iadd q.toInt32 128
  have r2 := rng32 (q.toInt32 + 128)
  have k3 := c_isub (q.toInt32 + 128) 128
  have r3 := rng32 (q.toInt32 + 128 - 128)
  rw [m3] at k2 k3
  refine ⟨⟨?_, ?_⟩, ?_⟩
  · rw [Int32.lt_iff_toInt_lt, m5]; omega
  · rw [Int32.lt_iff_toInt_lt, m4]; omega
  · apply Int64.toInt_inj.mp
    rw [c_i2l]
    omega
theorem d8_0 : decode jdk_35_method_24_code 0 = .ok (.sipush 128, 3) := by decide +kernel
theorem d8_3 : decode jdk_35_method_24_code 3 = .ok (.istore_n 2, 1) := by decide +kernel
theorem d8_4 : decode jdk_35_method_24_code 4 = .ok (.lload_n 0, 1) := by decide +kernel
theorem d8_5 : decode jdk_35_method_24_code 5 = .ok (.ldc2_w 230, 3) := by decide +kernel
theorem d8_8 : decode jdk_35_method_24_code 8 = .ok (.lcmp, 1) := by decide +kernel
theorem d8_9 : decode jdk_35_method_24_code 9 = .ok (.ifCond .lt 22, 3) := by decide +kernel
theorem d8_12 : decode jdk_35_method_24_code 12 = .ok (.lload_n 0, 1) := by decide +kernel
theorem d8_13 : decode jdk_35_method_24_code 13 = .ok (.ldc2_w 232, 3) := by decide +kernel
theorem d8_16 : decode jdk_35_method_24_code 16 = .ok (.lcmp, 1) := by decide +kernel
theorem d8_17 : decode jdk_35_method_24_code 17 = .ok (.ifCond .gt 14, 3) := by decide +kernel
theorem d8_20 : decode jdk_35_method_24_code 20 = .ok (.getstatic 234, 3) := by decide +kernel
theorem d8_23 : decode jdk_35_method_24_code 23 = .ok (.lload_n 0, 1) := by decide +kernel
theorem d8_24 : decode jdk_35_method_24_code 24 = .ok (.l2i, 1) := by decide +kernel
theorem d8_25 : decode jdk_35_method_24_code 25 = .ok (.sipush 128, 3) := by decide +kernel
theorem d8_28 : decode jdk_35_method_24_code 28 = .ok (.iadd, 1) := by decide +kernel
theorem d8_29 : decode jdk_35_method_24_code 29 = .ok (.aaload, 1) := by decide +kernel
theorem d8_30 : decode jdk_35_method_24_code 30 = .ok (.areturn, 1) := by decide +kernel
theorem pn_14 : plainName "java/lang/Long" = true := by first | (simp [plainName, overriddenIn]; done) | decide +kernel
theorem ef_rlv (m : MethodId) (q1 : Int64) : entryFrame m #[(.long q1)] 3 = mkF m 0 #[.val (.long q1), .second, .unset] [] := by first | (simp [entryFrame, mkF, argsToLocals, Value.category]; done) | rfl
def Q_rlv (Z : State) (q1 : Int64) (ca : Addr) (cc : Cell) (h0 : Heap) (n0 : Nat) (v : Option Value) (h : Heap) (L : List Loc) : Prop := (∃ b : Addr, v = some (.ref b) ∧ Exa Z h b "java/lang/Long" ∧ Fld Z h b "java/lang/Long" "value" "J" (.long q1)) ∧ Fr n0 L ∧ Keep h0 h []
set_option maxRecDepth 65536 in
set_option maxHeartbeats 40000000 in
theorem rlv (l : Launch) (Z : State) (a0 : Array Value) (hw : ∀ d ∈ tables_1, d.before a0 Z = true) (ws : List Jvm.Cond) (q1 : Int64) (ca : Addr) (cc : Cell) (h0 : Heap) (n0 : Nat) (Z0 : n0 ≤ h0.size) (O0 : Old Z n0 h0) (S_cache : Sta Z Z.heap "java/lang/Long$LongCache" "cache" "[Ljava/lang/Long;" (.ref ca)) (B_cache : Bxs Z ca cc "java/lang/Long" "J" (256 : Int32) (fun j => .long (j - (128 : Int32)).toInt64)) (hq1 : ¬ (q1 < (-128 : Int64))) (hq2 : ¬ ((127 : Int64) < q1)) :
    MetFree l (⟨"java/lang/Long", "valueOf", "(J)Ljava/lang/Long;"⟩ : MethodName) (head1 (Jvm.Cond.code (⟨"java/lang/Long", "valueOf", "(J)Ljava/lang/Long;"⟩ : MethodName) jdk_35_method_24_code 3 (some (.object "java/lang/Long")) :: ws) ({ frames := 0, cells := 0, slots := 0, locals := 0 } : Room)) (fun a U => a = #[(.long q1)] ∧ Z.Warmed39 U.vm ∧ U.heap = h0) (fun _ _ _ _ _ => True) (fun _ U o U' => ∃ v L, o = .returned v ∧ Q_rlv Z q1 ca cc h0 n0 v U'.heap L ∧ FrameEnd U o U' L ({ frames := 0, cells := 0, slots := 0, locals := 0 } : Room).cells ({ frames := 0, cells := 0, slots := 0, locals := 0 } : Room).slots) := by
  refine MetFree.of_bodySF (plainFor_of_name pn_14) hisR ?_
  intro p e s m args below meth c s₁ Bd hml0 hP hK
  obtain ⟨rfl, hZ, hh⟩ := hP
  have hx := Bd.exec
  have hby := Bd.bytes
  have hml : c.maxLocals = 3 := hml0
  have hown : s.vm.findClass "java/lang/Long" = some m.cls := findClass_of_methodNamed Bd.named
  have hnm := (name_of_methodNamed Bd.named Bd.method).1
  have X0 : Stand p l e ({ frames := 0, cells := 0, slots := 0, locals := 0 } : Room) s m #[(.long q1)] below meth c s₁ [] 0 0 := Stand.of_body Bd
  have e0 : s₁.heap = h0 := by rw [← hh, Bd.state]; rfl
  have N0 := Fr.nil n0
  have pre0 : ∀ t, Steps p.tables e below (s₁.setTop (mkF m 0 #[.val (.long q1), .second, .unset] [])) t → Steps p.tables e below (s₁.setTop (entryFrame m #[(.long q1)] 3)) t := fun t k => castTop (ef_rlv m q1) k
  change Go p.tables e below (fun o U' => ∃ v L, o = .returned v ∧ Q_rlv Z q1 ca cc h0 n0 v U'.heap L ∧ FrameEnd s o U' L ({ frames := 0, cells := 0, slots := 0, locals := 0 } : Room).cells ({ frames := 0, cells := 0, slots := 0, locals := 0 } : Room).slots) (s₁.setTop (entryFrame m #[(.long q1)] 3))
  have K0 := Keep.refl h0 []
  have S0 := S_cache.ext O0.2
  refine Go.on pre0 ?_
  refine Go.on (B := s₁.setTop (mkF m 3 #[.val (.long q1), .second, .unset] [(.int (128 : Int32))])) (fun t k => XS.sipush X0.here hx rfl (hb hby d8_0) k) ?_
  refine Go.on (B := s₁.setTop (mkF m 4 #[.val (.long q1), .second, .val (.int (128 : Int32))] [])) (fun t k => XS.istoreN X0.here hx rfl (hb hby d8_3) rfl (l' := #[.val (.long q1), .second, .val (.int (128 : Int32))]) rfl k) ?_
  refine Go.on (B := s₁.setTop (mkF m 5 #[.val (.long q1), .second, .val (.int (128 : Int32))] [(.long q1)])) (fun t k => XS.lloadN X0.here hx rfl (hb hby d8_4) rfl k) ?_
  refine Go.on (B := s₁.setTop (mkF m 8 #[.val (.long q1), .second, .val (.int (128 : Int32))] [(.long (-128 : Int64)), (.long q1)])) (fun t k => X0.ldc2Long hx hown (mvT hZ (hw _ (List.mem_of_getElem? (i := 44) rfl))) (g := (mkF m 5 #[.val (.long q1), .second, .val (.int (128 : Int32))] [(.long q1)])) rfl (hb hby d8_5) _ k) ?_
  refine Go.on (B := s₁.setTop (mkF m 9 #[.val (.long q1), .second, .val (.int (128 : Int32))] [(.int (lcmpW q1 (-128 : Int64)))])) (fun t k => XS.lcmp X0.here hx rfl (hb hby d8_8) rfl k) ?_
  have hc9_2 : ¬ (q1 < (-128 : Int64)) := hq1
  refine Go.on (B := s₁.setTop (mkF m 12 #[.val (.long q1), .second, .val (.int (128 : Int32))] [])) (fun t k => XS.ifNo X0.here hx rfl (hb hby d8_9) rfl ((if0 _ _).trans (flt (mt (lw_lt _ _).mp hc9_2)).1) k) ?_
  refine Go.on (B := s₁.setTop (mkF m 13 #[.val (.long q1), .second, .val (.int (128 : Int32))] [(.long q1)])) (fun t k => XS.lloadN X0.here hx rfl (hb hby d8_12) rfl k) ?_
  refine Go.on (B := s₁.setTop (mkF m 16 #[.val (.long q1), .second, .val (.int (128 : Int32))] [(.long (127 : Int64)), (.long q1)])) (fun t k => X0.ldc2Long hx hown (mvT hZ (hw _ (List.mem_of_getElem? (i := 45) rfl))) (g := (mkF m 13 #[.val (.long q1), .second, .val (.int (128 : Int32))] [(.long q1)])) rfl (hb hby d8_13) _ k) ?_
  refine Go.on (B := s₁.setTop (mkF m 17 #[.val (.long q1), .second, .val (.int (128 : Int32))] [(.int (lcmpW q1 (127 : Int64)))])) (fun t k => XS.lcmp X0.here hx rfl (hb hby d8_16) rfl k) ?_
  have hc17_3 : ¬ ((127 : Int64) < q1) := hq2
  refine Go.on (B := s₁.setTop (mkF m 20 #[.val (.long q1), .second, .val (.int (128 : Int32))] [])) (fun t k => XS.ifNo X0.here hx rfl (hb hby d8_17) rfl ((if0 _ _).trans (flt (mt (lw_gt _ _).mp hc17_3)).2.2.1) k) ?_
  obtain ⟨T4, X4, e4, st4⟩ := getS2 X0 hx hZ hown (host := "") (Or.inl (hw _ (List.mem_of_getElem? (i := 46) rfl))) Via.refl e0 S0 (g := (mkF m 20 #[.val (.long q1), .second, .val (.int (128 : Int32))] [])) rfl (hb hby d8_20)
  refine Go.on (B := T4.setTop (mkF m 23 #[.val (.long q1), .second, .val (.int (128 : Int32))] [(.ref ca)])) (fun t k => st4 _ k) ?_
  refine Go.on (B := T4.setTop (mkF m 24 #[.val (.long q1), .second, .val (.int (128 : Int32))] [(.long q1), (.ref ca)])) (fun t k => XS.lloadN X4.here hx rfl (hb hby d8_23) rfl k) ?_
  refine Go.on (B := T4.setTop (mkF m 25 #[.val (.long q1), .second, .val (.int (128 : Int32))] [(.int (q1.toInt32)), (.ref ca)])) (fun t k => XS.l2i X4.here hx rfl (hb hby d8_24) rfl k) ?_
  refine Go.on (B := T4.setTop (mkF m 28 #[.val (.long q1), .second, .val (.int (128 : Int32))] [(.int (128 : Int32)), (.int (q1.toInt32)), (.ref ca)])) (fun t k => XS.sipush X4.here hx rfl (hb hby d8_25) k) ?_
  refine Go.on (B := T4.setTop (mkF m 29 #[.val (.long q1), .second, .val (.int (128 : Int32))] [(.int ((q1.toInt32) + (128 : Int32))), (.ref ca)])) (fun t k => XS.iadd X4.here hx rfl (hb hby d8_28) rfl k) ?_
  have hidx := inb_of B_cache.2.1 (own_ixl q1 hc9_2 hc17_3).1
  obtain ⟨box, hbx, Ebx, Fbx⟩ := B_cache.2.2.2 ((q1.toInt32) + (128 : Int32)) hidx
  have Arx := B_cache.1.ext O0.2
  refine Go.on (B := T4.setTop (mkF m 30 #[.val (.long q1), .second, .val (.int (128 : Int32))] [(.ref box)])) (fun t k => X4.aaload hx (j := ((q1.toInt32) + (128 : Int32))) (v := (.ref box)) (by rw [e4]; exact Arx.1) (State.isArrayOf_alike hZ.alike Arx.2.1) rfl Arx.2.2 hidx hbx (g := (mkF m 29 #[.val (.long q1), .second, .val (.int (128 : Int32))] [(.int ((q1.toInt32) + (128 : Int32))), (.ref ca)])) rfl rfl (hb hby d8_29) _ k) ?_
  obtain ⟨fs, hr, hrun, hended, hW, hsame⟩ := X4.leave (v := some (.ref box)) (fun h => by rw [Bd.returns] at h; cases h)
  refine ⟨_, _, ?_, hrun, hended, _, _, rfl, ?_, ⟨_, rfl⟩, hW, hsame.mono (by decide) (by decide)⟩
  · exact retOut X4 hx Bd.returns rfl (Or.inr (Or.inr (Or.inr (Or.inr ⟨rfl, rfl, rfl⟩)))) (hb hby d8_30) hr
  · show Q_rlv Z q1 ca cc h0 n0 _ T4.heap _
    rw [e4]
    exact ⟨⟨_, rfl, (Ebx.ext O0.2), ((congrArg Value.long (own_ixl q1 hc9_2 hc17_3).2) ▸ (Fbx.ext O0.2))⟩, N0, K0⟩
theorem d6_0 : decode prog_47_method_3_code 0 = .ok (.aload_n 2, 1) := by decide +kernel
theorem d6_1 : decode prog_47_method_3_code 1 = .ok (.dup, 1) := by decide +kernel
theorem d6_2 : decode prog_47_method_3_code 2 = .ok (.getfield 10, 3) := by decide +kernel
theorem d6_5 : decode prog_47_method_3_code 5 = .ok (.lconst 1, 1) := by decide +kernel
theorem d6_6 : decode prog_47_method_3_code 6 = .ok (.ladd, 1) := by decide +kernel
theorem d6_7 : decode prog_47_method_3_code 7 = .ok (.putfield 10, 3) := by decide +kernel
theorem d6_10 : decode prog_47_method_3_code 10 = .ok (.aload_n 2, 1) := by decide +kernel
theorem d6_11 : decode prog_47_method_3_code 11 = .ok (.areturn, 1) := by decide +kernel
theorem ef_radd0 (m : MethodId) (a1 : Addr) (a3 : Addr) : entryFrame m #[(.ref a1), .null, (.ref a3)] 3 = mkF m 0 #[.val (.ref a1), .val .null, .val (.ref a3)] [] := by first | (simp [entryFrame, mkF, argsToLocals, Value.category]; done) | rfl
def Q_radd0 (Z : State) (a1 : Addr) (a3 : Addr) (q4 : Int64) (h0 : Heap) (n0 : Nat) (v : Option Value) (h : Heap) (L : List Loc) : Prop := v = some (.ref a3) ∧ Fr n0 L ∧ Keep h0 h [a3] ∧ Exa Z h a3 "com/example/tailrace/tailrace/cli/Count$Tally" ∧ Fld Z h a3 "com/example/tailrace/tailrace/cli/Count$Tally" "count" "J" (.long (q4 + (1 : Int64)))
set_option maxRecDepth 65536 in
set_option maxHeartbeats 40000000 in
theorem radd0 (l : Launch) (Z : State) (a0 : Array Value) (hw : ∀ d ∈ tables_1, d.before a0 Z = true) (ws : List Jvm.Cond) (a1 : Addr) (a3 : Addr) (q4 : Int64) (h0 : Heap) (n0 : Nat) (Z0 : n0 ≤ h0.size) (E3 : Exa Z h0 a3 "com/example/tailrace/tailrace/cli/Count$Tally") (F3 : Fld Z h0 a3 "com/example/tailrace/tailrace/cli/Count$Tally" "count" "J" (.long q4)) (g3 : n0 ≤ a3) :
    MetFree l (⟨"com/example/tailrace/tailrace/cli/Count", "add", "(Ljava/lang/Object;Lcom/example/tailrace/tailrace/cli/Count$Tally;)Lcom/example/tailrace/tailrace/cli/Count$Tally;"⟩ : MethodName) (head1 (Jvm.Cond.code (⟨"com/example/tailrace/tailrace/cli/Count", "add", "(Ljava/lang/Object;Lcom/example/tailrace/tailrace/cli/Count$Tally;)Lcom/example/tailrace/tailrace/cli/Count$Tally;"⟩ : MethodName) prog_47_method_3_code 3 (some (.object "com/example/tailrace/tailrace/cli/Count$Tally")) :: ws) ({ frames := 0, cells := 0, slots := 0, locals := 0 } : Room)) (fun a U => a = #[(.ref a1), .null, (.ref a3)] ∧ Z.Warmed39 U.vm ∧ U.heap = h0) (fun _ _ _ _ _ => True) (fun _ U o U' => ∃ v L, o = .returned v ∧ Q_radd0 Z a1 a3 q4 h0 n0 v U'.heap L ∧ FrameEnd U o U' L ({ frames := 0, cells := 0, slots := 0, locals := 0 } : Room).cells ({ frames := 0, cells := 0, slots := 0, locals := 0 } : Room).slots) := by
  refine MetFree.of_bodySF (plainFor_of_name pn_2) hisR ?_
  intro p e s m args below meth c s₁ Bd hml0 hP hK
  obtain ⟨rfl, hZ, hh⟩ := hP
  have hx := Bd.exec
  have hby := Bd.bytes
  have hml : c.maxLocals = 3 := hml0
  have hown : s.vm.findClass "com/example/tailrace/tailrace/cli/Count" = some m.cls := findClass_of_methodNamed Bd.named
  have hnm := (name_of_methodNamed Bd.named Bd.method).1
  have X0 : Stand p l e ({ frames := 0, cells := 0, slots := 0, locals := 0 } : Room) s m #[(.ref a1), .null, (.ref a3)] below meth c s₁ [] 0 0 := Stand.of_body Bd
  have e0 : s₁.heap = h0 := by rw [← hh, Bd.state]; rfl
  have N0 := Fr.nil n0
  have pre0 : ∀ t, Steps p.tables e below (s₁.setTop (mkF m 0 #[.val (.ref a1), .val .null, .val (.ref a3)] [])) t → Steps p.tables e below (s₁.setTop (entryFrame m #[(.ref a1), .null, (.ref a3)] 3)) t := fun t k => castTop (ef_radd0 m a1 a3) k
  change Go p.tables e below (fun o U' => ∃ v L, o = .returned v ∧ Q_radd0 Z a1 a3 q4 h0 n0 v U'.heap L ∧ FrameEnd s o U' L ({ frames := 0, cells := 0, slots := 0, locals := 0 } : Room).cells ({ frames := 0, cells := 0, slots := 0, locals := 0 } : Room).slots) (s₁.setTop (entryFrame m #[(.ref a1), .null, (.ref a3)] 3))
  have K0 := Keep.refl h0 [a3]
  refine Go.on pre0 ?_
  refine Go.on (B := s₁.setTop (mkF m 1 #[.val (.ref a1), .val .null, .val (.ref a3)] [(.ref a3)])) (fun t k => XS.aloadN X0.here hx rfl (hb hby d6_0) rfl rfl k) ?_
  refine Go.on (B := s₁.setTop (mkF m 2 #[.val (.ref a1), .val .null, .val (.ref a3)] [(.ref a3), (.ref a3)])) (fun t k => XS.dup X0.here hx rfl (hb hby d6_1) rfl rfl k) ?_
  obtain ⟨T1, X1, e1, st1⟩ := own_getFR X0 hx hZ hown (hw _ (List.mem_of_getElem? (i := 33) rfl)) e0 F3 (g := (mkF m 2 #[.val (.ref a1), .val .null, .val (.ref a3)] [(.ref a3), (.ref a3)])) rfl rfl (hb hby d6_2)
  refine Go.on (B := T1.setTop (mkF m 5 #[.val (.ref a1), .val .null, .val (.ref a3)] [(.long q4), (.ref a3)])) (fun t k => st1 _ k) ?_
  refine Go.on (B := T1.setTop (mkF m 6 #[.val (.ref a1), .val .null, .val (.ref a3)] [(.long (1 : Int64)), (.long q4), (.ref a3)])) (fun t k => XS.lconst X1.here hx rfl (hb hby d6_5) k) ?_
  refine Go.on (B := T1.setTop (mkF m 7 #[.val (.ref a1), .val .null, .val (.ref a3)] [(.long (q4 + (1 : Int64))), (.ref a3)])) (fun t k => XS.ladd X1.here hx rfl (hb hby d6_6) rfl k) ?_
  obtain ⟨T2, h2, X2, e2, W2, st2⟩ := own_putFR X1 hx hZ hown (hw _ (List.mem_of_getElem? (i := 33) rfl)) e1 F3 E3 (hw _ (List.mem_of_getElem? (i := 34) rfl)) (hw _ (List.mem_of_getElem? (i := 15) rfl)) (ty := .long) (by decide) rfl rfl (g := (mkF m 7 #[.val (.ref a1), .val .null, .val (.ref a3)] [(.long (q4 + (1 : Int64))), (.ref a3)])) rfl rfl (hb hby d6_7)
  have N2 := Fr.snoc X2 N0 g3
  have Fw2 := F3.same W2
  have f1 := E3.wr W2
  have Zs2 := Nat.le_trans Z0 (Keep.of_wr W2).1
  have K3 := K0.wr W2 (Or.inl (List.mem_of_getElem? (i := 0) rfl))
  refine Go.on (B := T2.setTop (mkF m 10 #[.val (.ref a1), .val .null, .val (.ref a3)] [])) (fun t k => st2 _ k) ?_
  refine Go.on (B := T2.setTop (mkF m 11 #[.val (.ref a1), .val .null, .val (.ref a3)] [(.ref a3)])) (fun t k => XS.aloadN X2.here hx rfl (hb hby d6_10) rfl rfl k) ?_
  obtain ⟨fs, hr, hrun, hended, hW, hsame⟩ := X2.leave (v := some (.ref a3)) (fun h => by rw [Bd.returns] at h; cases h)
  refine ⟨_, _, ?_, hrun, hended, _, _, rfl, ?_, ⟨_, rfl⟩, hW, hsame.mono (by decide) (by decide)⟩
  · exact retOut X2 hx Bd.returns rfl (Or.inr (Or.inr (Or.inr (Or.inr ⟨rfl, rfl, rfl⟩)))) (hb hby d6_11) hr
  · show Q_radd0 Z a1 a3 q4 h0 n0 _ T2.heap _
    rw [e2]
    exact ⟨rfl, N2, K3, f1, Fw2⟩
theorem ef_radd1 (m : MethodId) (a1 : Addr) (a2 : Addr) (a3 : Addr) : entryFrame m #[(.ref a1), (.ref a2), (.ref a3)] 3 = mkF m 0 #[.val (.ref a1), .val (.ref a2), .val (.ref a3)] [] := by first | (simp [entryFrame, mkF, argsToLocals, Value.category]; done) | rfl
def Q_radd1 (Z : State) (a1 : Addr) (a2 : Addr) (a3 : Addr) (q4 : Int64) (h0 : Heap) (n0 : Nat) (v : Option Value) (h : Heap) (L : List Loc) : Prop := v = some (.ref a3) ∧ Fr n0 L ∧ Keep h0 h [a3] ∧ Exa Z h a3 "com/example/tailrace/tailrace/cli/Count$Tally" ∧ Fld Z h a3 "com/example/tailrace/tailrace/cli/Count$Tally" "count" "J" (.long (q4 + (1 : Int64)))
set_option maxRecDepth 65536 in
set_option maxHeartbeats 40000000 in
theorem radd1 (l : Launch) (Z : State) (a0 : Array Value) (hw : ∀ d ∈ tables_1, d.before a0 Z = true) (ws : List Jvm.Cond) (a1 : Addr) (a2 : Addr) (a3 : Addr) (q4 : Int64) (h0 : Heap) (n0 : Nat) (Z0 : n0 ≤ h0.size) (E3 : Exa Z h0 a3 "com/example/tailrace/tailrace/cli/Count$Tally") (F3 : Fld Z h0 a3 "com/example/tailrace/tailrace/cli/Count$Tally" "count" "J" (.long q4)) (g3 : n0 ≤ a3) :
    MetFree l (⟨"com/example/tailrace/tailrace/cli/Count", "add", "(Ljava/lang/Object;Lcom/example/tailrace/tailrace/cli/Count$Tally;)Lcom/example/tailrace/tailrace/cli/Count$Tally;"⟩ : MethodName) (head1 (Jvm.Cond.code (⟨"com/example/tailrace/tailrace/cli/Count", "add", "(Ljava/lang/Object;Lcom/example/tailrace/tailrace/cli/Count$Tally;)Lcom/example/tailrace/tailrace/cli/Count$Tally;"⟩ : MethodName) prog_47_method_3_code 3 (some (.object "com/example/tailrace/tailrace/cli/Count$Tally")) :: ws) ({ frames := 0, cells := 0, slots := 0, locals := 0 } : Room)) (fun a U => a = #[(.ref a1), (.ref a2), (.ref a3)] ∧ Z.Warmed39 U.vm ∧ U.heap = h0) (fun _ _ _ _ _ => True) (fun _ U o U' => ∃ v L, o = .returned v ∧ Q_radd1 Z a1 a2 a3 q4 h0 n0 v U'.heap L ∧ FrameEnd U o U' L ({ frames := 0, cells := 0, slots := 0, locals := 0 } : Room).cells ({ frames := 0, cells := 0, slots := 0, locals := 0 } : Room).slots) := by
  refine MetFree.of_bodySF (plainFor_of_name pn_2) hisR ?_
  intro p e s m args below meth c s₁ Bd hml0 hP hK
  obtain ⟨rfl, hZ, hh⟩ := hP
  have hx := Bd.exec
  have hby := Bd.bytes
  have hml : c.maxLocals = 3 := hml0
  have hown : s.vm.findClass "com/example/tailrace/tailrace/cli/Count" = some m.cls := findClass_of_methodNamed Bd.named
  have hnm := (name_of_methodNamed Bd.named Bd.method).1
  have X0 : Stand p l e ({ frames := 0, cells := 0, slots := 0, locals := 0 } : Room) s m #[(.ref a1), (.ref a2), (.ref a3)] below meth c s₁ [] 0 0 := Stand.of_body Bd
  have e0 : s₁.heap = h0 := by rw [← hh, Bd.state]; rfl
  have N0 := Fr.nil n0
  have pre0 : ∀ t, Steps p.tables e below (s₁.setTop (mkF m 0 #[.val (.ref a1), .val (.ref a2), .val (.ref a3)] [])) t → Steps p.tables e below (s₁.setTop (entryFrame m #[(.ref a1), (.ref a2), (.ref a3)] 3)) t := fun t k => castTop (ef_radd1 m a1 a2 a3) k
  change Go p.tables e below (fun o U' => ∃ v L, o = .returned v ∧ Q_radd1 Z a1 a2 a3 q4 h0 n0 v U'.heap L ∧ FrameEnd s o U' L ({ frames := 0, cells := 0, slots := 0, locals := 0 } : Room).cells ({ frames := 0, cells := 0, slots := 0, locals := 0 } : Room).slots) (s₁.setTop (entryFrame m #[(.ref a1), (.ref a2), (.ref a3)] 3))
  have K0 := Keep.refl h0 [a3]
  refine Go.on pre0 ?_
  refine Go.on (B := s₁.setTop (mkF m 1 #[.val (.ref a1), .val (.ref a2), .val (.ref a3)] [(.ref a3)])) (fun t k => XS.aloadN X0.here hx rfl (hb hby d6_0) rfl rfl k) ?_
  refine Go.on (B := s₁.setTop (mkF m 2 #[.val (.ref a1), .val (.ref a2), .val (.ref a3)] [(.ref a3), (.ref a3)])) (fun t k => XS.dup X0.here hx rfl (hb hby d6_1) rfl rfl k) ?_
  obtain ⟨T1, X1, e1, st1⟩ := own_getFR X0 hx hZ hown (hw _ (List.mem_of_getElem? (i := 33) rfl)) e0 F3 (g := (mkF m 2 #[.val (.ref a1), .val (.ref a2), .val (.ref a3)] [(.ref a3), (.ref a3)])) rfl rfl (hb hby d6_2)
  refine Go.on (B := T1.setTop (mkF m 5 #[.val (.ref a1), .val (.ref a2), .val (.ref a3)] [(.long q4), (.ref a3)])) (fun t k => st1 _ k) ?_
  refine Go.on (B := T1.setTop (mkF m 6 #[.val (.ref a1), .val (.ref a2), .val (.ref a3)] [(.long (1 : Int64)), (.long q4), (.ref a3)])) (fun t k => XS.lconst X1.here hx rfl (hb hby d6_5) k) ?_
  refine Go.on (B := T1.setTop (mkF m 7 #[.val (.ref a1), .val (.ref a2), .val (.ref a3)] [(.long (q4 + (1 : Int64))), (.ref a3)])) (fun t k => XS.ladd X1.here hx rfl (hb hby d6_6) rfl k) ?_
  obtain ⟨T2, h2, X2, e2, W2, st2⟩ := own_putFR X1 hx hZ hown (hw _ (List.mem_of_getElem? (i := 33) rfl)) e1 F3 E3 (hw _ (List.mem_of_getElem? (i := 34) rfl)) (hw _ (List.mem_of_getElem? (i := 15) rfl)) (ty := .long) (by decide) rfl rfl (g := (mkF m 7 #[.val (.ref a1), .val (.ref a2), .val (.ref a3)] [(.long (q4 + (1 : Int64))), (.ref a3)])) rfl rfl (hb hby d6_7)
  have N2 := Fr.snoc X2 N0 g3
  have Fw2 := F3.same W2
  have f1 := E3.wr W2
  have Zs2 := Nat.le_trans Z0 (Keep.of_wr W2).1
  have K3 := K0.wr W2 (Or.inl (List.mem_of_getElem? (i := 0) rfl))
  refine Go.on (B := T2.setTop (mkF m 10 #[.val (.ref a1), .val (.ref a2), .val (.ref a3)] [])) (fun t k => st2 _ k) ?_
  refine Go.on (B := T2.setTop (mkF m 11 #[.val (.ref a1), .val (.ref a2), .val (.ref a3)] [(.ref a3)])) (fun t k => XS.aloadN X2.here hx rfl (hb hby d6_10) rfl rfl k) ?_
  obtain ⟨fs, hr, hrun, hended, hW, hsame⟩ := X2.leave (v := some (.ref a3)) (fun h => by rw [Bd.returns] at h; cases h)
  refine ⟨_, _, ?_, hrun, hended, _, _, rfl, ?_, ⟨_, rfl⟩, hW, hsame.mono (by decide) (by decide)⟩
  · exact retOut X2 hx Bd.returns rfl (Or.inr (Or.inr (Or.inr (Or.inr ⟨rfl, rfl, rfl⟩)))) (hb hby d6_11) hr
  · show Q_radd1 Z a1 a2 a3 q4 h0 n0 _ T2.heap _
    rw [e2]
    exact ⟨rfl, N2, K3, f1, Fw2⟩
theorem d7_0 : decode prog_47_method_4_code 0 = .ok (.aload_n 1, 1) := by decide +kernel
theorem d7_1 : decode prog_47_method_4_code 1 = .ok (.getfield 10, 3) := by decide +kernel
theorem d7_4 : decode prog_47_method_4_code 4 = .ok (.invokestatic 14, 3) := by decide +kernel
theorem d7_7 : decode prog_47_method_4_code 7 = .ok (.areturn, 1) := by decide +kernel
theorem pd_2 : parseMethodDescriptor "(J)Ljava/lang/Long;" = some ⟨[.long], some (.object "java/lang/Long")⟩ := by decide +kernel
theorem ef_rgr (m : MethodId) (a1 : Addr) (a2 : Addr) : entryFrame m #[(.ref a1), (.ref a2)] 2 = mkF m 0 #[.val (.ref a1), .val (.ref a2)] [] := by first | (simp [entryFrame, mkF, argsToLocals, Value.category]; done) | rfl
def Q_rgr (Z : State) (a1 : Addr) (a2 : Addr) (q3 : Int64) (ca : Addr) (cc : Cell) (h0 : Heap) (n0 : Nat) (v : Option Value) (h : Heap) (L : List Loc) : Prop := (∃ b : Addr, v = some (.ref b) ∧ Exa Z h b "java/lang/Long" ∧ Fld Z h b "java/lang/Long" "value" "J" (.long q3)) ∧ Fr n0 L ∧ Keep h0 h []
set_option maxRecDepth 65536 in
set_option maxHeartbeats 40000000 in
theorem rgr (l : Launch) (Z : State) (a0 : Array Value) (hw : ∀ d ∈ tables_1, d.before a0 Z = true) (ws : List Jvm.Cond) (a1 : Addr) (a2 : Addr) (q3 : Int64) (ca : Addr) (cc : Cell) (h0 : Heap) (n0 : Nat) (Z0 : n0 ≤ h0.size) (F2 : Fld Z h0 a2 "com/example/tailrace/tailrace/cli/Count$Tally" "count" "J" (.long q3)) (O0 : Old Z n0 h0) (S_cache : Sta Z Z.heap "java/lang/Long$LongCache" "cache" "[Ljava/lang/Long;" (.ref ca)) (B_cache : Bxs Z ca cc "java/lang/Long" "J" (256 : Int32) (fun j => .long (j - (128 : Int32)).toInt64)) (hq1 : ¬ (q3 < (-128 : Int64))) (hq2 : ¬ ((127 : Int64) < q3)) :
    MetFree l (⟨"com/example/tailrace/tailrace/cli/Count", "getResult", "(Lcom/example/tailrace/tailrace/cli/Count$Tally;)Ljava/lang/Long;"⟩ : MethodName) (head1 (Jvm.Cond.code (⟨"com/example/tailrace/tailrace/cli/Count", "getResult", "(Lcom/example/tailrace/tailrace/cli/Count$Tally;)Ljava/lang/Long;"⟩ : MethodName) prog_47_method_4_code 2 (some (.object "java/lang/Long")) :: ws) ({ frames := 1, cells := 0, slots := 0, locals := 20 } : Room)) (fun a U => a = #[(.ref a1), (.ref a2)] ∧ Z.Warmed39 U.vm ∧ U.heap = h0) (fun _ _ _ _ _ => True) (fun _ U o U' => ∃ v L, o = .returned v ∧ Q_rgr Z a1 a2 q3 ca cc h0 n0 v U'.heap L ∧ FrameEnd U o U' L ({ frames := 1, cells := 0, slots := 0, locals := 20 } : Room).cells ({ frames := 1, cells := 0, slots := 0, locals := 20 } : Room).slots) := by
  refine MetFree.of_bodySF (plainFor_of_name pn_2) hisR ?_
  intro p e s m args below meth c s₁ Bd hml0 hP hK
  obtain ⟨rfl, hZ, hh⟩ := hP
  have hx := Bd.exec
  have hby := Bd.bytes
  have hml : c.maxLocals = 2 := hml0
  have hown : s.vm.findClass "com/example/tailrace/tailrace/cli/Count" = some m.cls := findClass_of_methodNamed Bd.named
  have hnm := (name_of_methodNamed Bd.named Bd.method).1
  have X0 : Stand p l e ({ frames := 1, cells := 0, slots := 0, locals := 20 } : Room) s m #[(.ref a1), (.ref a2)] below meth c s₁ [] 0 0 := Stand.of_body Bd
  have e0 : s₁.heap = h0 := by rw [← hh, Bd.state]; rfl
  have N0 := Fr.nil n0
  have pre0 : ∀ t, Steps p.tables e below (s₁.setTop (mkF m 0 #[.val (.ref a1), .val (.ref a2)] [])) t → Steps p.tables e below (s₁.setTop (entryFrame m #[(.ref a1), (.ref a2)] 2)) t := fun t k => castTop (ef_rgr m a1 a2) k
  change Go p.tables e below (fun o U' => ∃ v L, o = .returned v ∧ Q_rgr Z a1 a2 q3 ca cc h0 n0 v U'.heap L ∧ FrameEnd s o U' L ({ frames := 1, cells := 0, slots := 0, locals := 20 } : Room).cells ({ frames := 1, cells := 0, slots := 0, locals := 20 } : Room).slots) (s₁.setTop (entryFrame m #[(.ref a1), (.ref a2)] 2))
  have K0 := Keep.refl h0 []
  refine Go.on pre0 ?_
  refine Go.on (B := s₁.setTop (mkF m 1 #[.val (.ref a1), .val (.ref a2)] [(.ref a2)])) (fun t k => XS.aloadN X0.here hx rfl (hb hby d7_0) rfl rfl k) ?_
  obtain ⟨T1, X1, e1, st1⟩ := own_getFR X0 hx hZ hown (hw _ (List.mem_of_getElem? (i := 33) rfl)) e0 F2 (g := (mkF m 1 #[.val (.ref a1), .val (.ref a2)] [(.ref a2)])) rfl rfl (hb hby d7_1)
  refine Go.on (B := T1.setTop (mkF m 4 #[.val (.ref a1), .val (.ref a2)] [(.long q3)])) (fun t k => st1 _ k) ?_
  obtain ⟨_, _, ⟨T2, L2, k2, n2⟩, -, X2, ⟨Lc2, hQ2, l2, y2, z2⟩, st2⟩ := Jvm.LawKit.callS X1 hx (y := (⟨"java/lang/Long", "valueOf", "(J)Ljava/lang/Long;"⟩ : MethodName)) hown (mvT hZ (hw _ (List.mem_of_getElem? (i := 40) rfl))) (mvT hZ (hw _ (List.mem_of_getElem? (i := 41) rfl))) (mvT hZ (hw _ (List.mem_of_getElem? (i := 42) rfl))) (mvT hZ (hw _ (List.mem_of_getElem? (i := 43) rfl))) (by decide) (backOf (W := 0) (rlv l Z a0 hw [] q3 ca cc h0 n0 Z0 O0 S_cache B_cache hq1 hq2) hZ (hw _ (List.mem_of_getElem? (i := 43) rfl)) (hw _ (List.mem_of_getElem? (i := 42) rfl)) (by decide) (by decide)) (g := (mkF m 4 #[.val (.ref a1), .val (.ref a2)] [(.long q3)])) rfl (by rw [hml]; rfl) (argsL := [(.long q3)]) (rest := []) (lenOf pd_2 rfl) rfl (by show 2 * 0 + _ ≤ _; exact Nat.le_of_eq rfl) (hb hby d7_4) (fun _ _ => ⟨rfl, e1, (by decide : 0 + 0 ≤ _), (by decide : 0 + 0 ≤ _)⟩)
  dsimp only [Pt.U, Pt.locs, Pt.cells, Pt.slots] at X2 l2 y2 z2 st2 hQ2
  subst l2 y2 z2
  obtain ⟨⟨x2, rfl, G2a, G2b⟩, N2q, K2q⟩ := hQ2
  have N2 := Fr.app N0 N2q
  have f1 := F2.keep K2q nin0
  have O_2 := O0.keep K2q all0
  have Zs3 := Nat.le_trans Z0 K2q.1
  have K4 := K0.trans K2q all0
  refine Go.on (B := T2.setTop (mkF m 7 #[.val (.ref a1), .val (.ref a2)] [(.ref x2)])) (fun t k => st2 _ k) ?_
  obtain ⟨fs, hr, hrun, hended, hW, hsame⟩ := X2.leave (v := some (.ref x2)) (fun h => by rw [Bd.returns] at h; cases h)
  refine ⟨_, _, ?_, hrun, hended, _, _, rfl, ?_, ⟨_, rfl⟩, hW, hsame.mono (by decide) (by decide)⟩
  · exact retOut X2 hx Bd.returns rfl (Or.inr (Or.inr (Or.inr (Or.inr ⟨rfl, rfl, rfl⟩)))) (hb hby d7_7) hr
  · show Q_rgr Z a1 a2 q3 ca cc h0 n0 _ T2.heap _
    exact ⟨⟨_, rfl, G2a, G2b⟩, N2, K4⟩
theorem d9_0 : decode jdk_35_method_31_code 0 = .ok (.aload_n 0, 1) := by decide +kernel
theorem d9_1 : decode jdk_35_method_31_code 1 = .ok (.getfield 273, 3) := by decide +kernel
theorem d9_4 : decode jdk_35_method_31_code 4 = .ok (.lreturn, 1) := by decide +kernel
theorem ef_rval (m : MethodId) (a1 : Addr) : entryFrame m #[(.ref a1)] 1 = mkF m 0 #[.val (.ref a1)] [] := by first | (simp [entryFrame, mkF, argsToLocals, Value.category]; done) | rfl
def Q_rval (Z : State) (a1 : Addr) (q2 : Int64) (h0 : Heap) (n0 : Nat) (v : Option Value) (h : Heap) (L : List Loc) : Prop := v = some (.long q2) ∧ Fr n0 L ∧ h = h0
set_option maxRecDepth 65536 in
set_option maxHeartbeats 40000000 in
theorem rval (l : Launch) (Z : State) (a0 : Array Value) (hw : ∀ d ∈ tables_1, d.before a0 Z = true) (ws : List Jvm.Cond) (a1 : Addr) (q2 : Int64) (h0 : Heap) (n0 : Nat) (Z0 : n0 ≤ h0.size) (F1 : Fld Z h0 a1 "java/lang/Long" "value" "J" (.long q2)) :
    MetFree l (⟨"java/lang/Long", "longValue", "()J"⟩ : MethodName) (head1 (Jvm.Cond.code (⟨"java/lang/Long", "longValue", "()J"⟩ : MethodName) jdk_35_method_31_code 1 (some .long) :: ws) ({ frames := 0, cells := 0, slots := 0, locals := 0 } : Room)) (fun a U => a = #[(.ref a1)] ∧ Z.Warmed39 U.vm ∧ U.heap = h0) (fun _ _ _ _ _ => True) (fun _ U o U' => ∃ v L, o = .returned v ∧ Q_rval Z a1 q2 h0 n0 v U'.heap L ∧ FrameEnd U o U' L ({ frames := 0, cells := 0, slots := 0, locals := 0 } : Room).cells ({ frames := 0, cells := 0, slots := 0, locals := 0 } : Room).slots) := by
  refine MetFree.of_bodySF (plainFor_of_name pn_14) hisR ?_
  intro p e s m args below meth c s₁ Bd hml0 hP hK
  obtain ⟨rfl, hZ, hh⟩ := hP
  have hx := Bd.exec
  have hby := Bd.bytes
  have hml : c.maxLocals = 1 := hml0
  have hown : s.vm.findClass "java/lang/Long" = some m.cls := findClass_of_methodNamed Bd.named
  have hnm := (name_of_methodNamed Bd.named Bd.method).1
  have X0 : Stand p l e ({ frames := 0, cells := 0, slots := 0, locals := 0 } : Room) s m #[(.ref a1)] below meth c s₁ [] 0 0 := Stand.of_body Bd
  have e0 : s₁.heap = h0 := by rw [← hh, Bd.state]; rfl
  have N0 := Fr.nil n0
  have pre0 : ∀ t, Steps p.tables e below (s₁.setTop (mkF m 0 #[.val (.ref a1)] [])) t → Steps p.tables e below (s₁.setTop (entryFrame m #[(.ref a1)] 1)) t := fun t k => castTop (ef_rval m a1) k
  change Go p.tables e below (fun o U' => ∃ v L, o = .returned v ∧ Q_rval Z a1 q2 h0 n0 v U'.heap L ∧ FrameEnd s o U' L ({ frames := 0, cells := 0, slots := 0, locals := 0 } : Room).cells ({ frames := 0, cells := 0, slots := 0, locals := 0 } : Room).slots) (s₁.setTop (entryFrame m #[(.ref a1)] 1))
  refine Go.on pre0 ?_
  refine Go.on (B := s₁.setTop (mkF m 1 #[.val (.ref a1)] [(.ref a1)])) (fun t k => XS.aloadN X0.here hx rfl (hb hby d9_0) rfl rfl k) ?_
  obtain ⟨T1, X1, e1, st1⟩ := getF X0 hx hZ hown (host := "") (Or.inl (hw _ (List.mem_of_getElem? (i := 53) rfl))) Via.refl e0 F1 (g := (mkF m 1 #[.val (.ref a1)] [(.ref a1)])) rfl rfl (hb hby d9_1)
  refine Go.on (B := T1.setTop (mkF m 4 #[.val (.ref a1)] [(.long q2)])) (fun t k => st1 _ k) ?_
  obtain ⟨fs, hr, hrun, hended, hW, hsame⟩ := X1.leave (v := some (.long q2)) (fun h => by rw [Bd.returns] at h; cases h)
  refine ⟨_, _, ?_, hrun, hended, _, _, rfl, ?_, ⟨_, rfl⟩, hW, hsame.mono (by decide) (by decide)⟩
  · exact retOut X1 hx Bd.returns rfl (Or.inr (Or.inl ⟨rfl, rfl, _, rfl⟩)) (hb hby d9_4) hr
  · show Q_rval Z a1 q2 h0 n0 _ T1.heap _
    rw [e1]
    exact ⟨rfl, N0, rfl⟩
theorem own_n3 (p n : Int32) (h : (p &&& (3 : Int32)) = n) : 0 ≤ n.toInt ∧ n.toInt ≤ 3 := by
  have q := c_and p (3 : Int32) (by decide)
  have m : (3 : Int32).toInt = 3 := by decide
  rw [h, m] at q
  exact q
theorem own_up2 {n : Int32} {a b : Int32} (h : n < a) (q : a < b) : n < b := by
  rw [Int32.lt_iff_toInt_lt] at h q ⊢
  omega
theorem own_is {n : Int32} {k : Int64} (z : Int) (h : n.toInt = z) (q : k.toInt = z) : k = n.toInt64 := by
  apply Int64.toInt_inj.mp
  rw [c_i2l, h, q]
theorem pd_3 : parseMethodDescriptor "()Lcom/example/tailrace/tailrace/cli/Count$Tally;" = some ⟨[], some (.object "com/example/tailrace/tailrace/cli/Count$Tally")⟩ := by decide +kernel
theorem pd_4 : parseMethodDescriptor "(I)Ljava/lang/Integer;" = some ⟨[.int], some (.object "java/lang/Integer")⟩ := by decide +kernel
theorem pd_5 : parseMethodDescriptor "(Ljava/lang/Object;Lcom/example/tailrace/tailrace/cli/Count$Tally;)Lcom/example/tailrace/tailrace/cli/Count$Tally;" = some ⟨[(.object "java/lang/Object"), (.object "com/example/tailrace/tailrace/cli/Count$Tally")], some (.object "com/example/tailrace/tailrace/cli/Count$Tally")⟩ := by decide +kernel
theorem pd_6 : parseMethodDescriptor "(Lcom/example/tailrace/tailrace/cli/Count$Tally;)Ljava/lang/Long;" = some ⟨[(.object "com/example/tailrace/tailrace/cli/Count$Tally")], some (.object "java/lang/Long")⟩ := by decide +kernel
theorem pd_7 : parseMethodDescriptor "()J" = some ⟨[], some .long⟩ := by decide +kernel
theorem pn_24 : plainName "com/example/tailrace/tailrace/cli/CountAddPinLaw" = true := by first | (simp [plainName, overriddenIn]; done) | decide +kernel
theorem ef_rm0 (m : MethodId) (p1 : Int32) (p2 : Int32) (p3 : Int32) (p4 : Int32) : entryFrame m #[(.int p1), (.int p2), (.int p3), (.int p4)] maxLocals = mkF m 0 #[.val (.int p1), .val (.int p2), .val (.int p3), .val (.int p4), .unset, .unset, .unset, .unset, .unset, .unset, .unset] [] := by first | (simp [entryFrame, mkF, argsToLocals, Value.category, maxLocals]; done) | rfl
def Q_rm0 (Z : State) (p1 : Int32) (p2 : Int32) (p3 : Int32) (p4 : Int32) (ca : Addr) (cc : Cell) (ica : Addr) (icc : Cell) (h0 : Heap) (n0 : Nat) (v : Option Value) (h : Heap) (L : List Loc) : Prop := v = some (.int 1) ∧ Fr n0 L
set_option maxRecDepth 65536 in
set_option maxHeartbeats 40000000 in
theorem rm0 (l : Launch) (Z : State) (a0 : Array Value) (hw : ∀ d ∈ tables_1, d.before a0 Z = true) (ws : List Jvm.Cond) (p1 : Int32) (p2 : Int32) (p3 : Int32) (p4 : Int32) (ca : Addr) (cc : Cell) (ica : Addr) (icc : Cell) (h0 : Heap) (n0 : Nat) (Z0 : n0 ≤ h0.size) (O0 : Old Z n0 h0) (S_cache : Sta Z Z.heap "java/lang/Long$LongCache" "cache" "[Ljava/lang/Long;" (.ref ca)) (B_cache : Bxs Z ca cc "java/lang/Long" "J" (256 : Int32) (fun j => .long (j - (128 : Int32)).toInt64)) (S_high : Sta Z Z.heap "java/lang/Integer$IntegerCache" "high" "I" (.int (127 : Int32))) (S_icache : Sta Z Z.heap "java/lang/Integer$IntegerCache" "cache" "[Ljava/lang/Integer;" (.ref ica)) (B_icache : Bxs Z ica icc "java/lang/Integer" "I" (256 : Int32) (fun j => .int (j - (128 : Int32)))) :
    MetFree l x (head1 (Jvm.Cond.code x code maxLocals ret :: ws) room_1) (fun a U => a = #[(.int p1), (.int p2), (.int p3), (.int p4)] ∧ Z.Warmed39 U.vm ∧ U.heap = h0) (fun _ _ _ _ _ => True) (fun _ U o U' => ∃ v L, o = .returned v ∧ Q_rm0 Z p1 p2 p3 p4 ca cc ica icc h0 n0 v U'.heap L ∧ FrameEnd U o U' L room_1.cells room_1.slots) := by
  refine MetFree.of_bodySF (plainFor_of_name pn_24) hisR ?_
  intro p e s m args below meth c s₁ Bd hml0 hP hK
  obtain ⟨rfl, hZ, hh⟩ := hP
  have hx := Bd.exec
  have hby := Bd.bytes
  have hml : c.maxLocals = 11 := hml0
  have hown : s.vm.findClass "com/example/tailrace/tailrace/cli/CountAddPinLaw" = some m.cls := findClass_of_methodNamed Bd.named
  have hnm := (name_of_methodNamed Bd.named Bd.method).1
  have X0 : Stand p l e room_1 s m #[(.int p1), (.int p2), (.int p3), (.int p4)] below meth c s₁ [] 0 0 := Stand.of_body Bd
  have e0 : s₁.heap = h0 := by rw [← hh, Bd.state]; rfl
  have N0 := Fr.nil n0
  have pre0 : ∀ t, Steps p.tables e below (s₁.setTop (mkF m 0 #[.val (.int p1), .val (.int p2), .val (.int p3), .val (.int p4), .unset, .unset, .unset, .unset, .unset, .unset, .unset] [])) t → Steps p.tables e below (s₁.setTop (entryFrame m #[(.int p1), (.int p2), (.int p3), (.int p4)] maxLocals)) t := fun t k => castTop (ef_rm0 m p1 p2 p3 p4) k
  change Go p.tables e below (fun o U' => ∃ v L, o = .returned v ∧ Q_rm0 Z p1 p2 p3 p4 ca cc ica icc h0 n0 v U'.heap L ∧ FrameEnd s o U' L room_1.cells room_1.slots) (s₁.setTop (entryFrame m #[(.int p1), (.int p2), (.int p3), (.int p4)] maxLocals))
  refine Go.on pre0 ?_
  obtain ⟨T1, h1, X1, e1, E1, A1, D1, -, st1⟩ := newO X0 hx hZ hown (hw _ (List.mem_of_getElem? (i := 0) rfl)) (hw _ (List.mem_of_getElem? (i := 1) rfl)) (hw _ (List.mem_of_getElem? (i := 2) rfl)) e0 (g := (mkF m 0 #[.val (.int p1), .val (.int p2), .val (.int p3), .val (.int p4), .unset, .unset, .unset, .unset, .unset, .unset, .unset] [])) rfl (hb hby at_0) (by decide) (by decide)
  obtain ⟨b1, g1⟩ : ∃ z, z = h0.size := ⟨_, rfl⟩
  rw [← g1] at A1 D1 st1
  have ge_b1 : n0 ≤ b1 := Nat.le_trans Z0 (Nat.le_of_eq g1.symm)
  have O_1 := O0.ext E1
  have Zs2 := Nat.le_trans Z0 E1.1
  refine Go.on (B := T1.setTop (mkF m 3 #[.val (.int p1), .val (.int p2), .val (.int p3), .val (.int p4), .unset, .unset, .unset, .unset, .unset, .unset, .unset] [(.ref b1)])) (fun t k => st1 _ k) ?_
  refine Go.on (B := T1.setTop (mkF m 4 #[.val (.int p1), .val (.int p2), .val (.int p3), .val (.int p4), .unset, .unset, .unset, .unset, .unset, .unset, .unset] [(.ref b1), (.ref b1)])) (fun t k => XS.dup X1.here hx rfl (hb hby at_3) rfl rfl k) ?_
  obtain ⟨_, _, ⟨T2, L2, k2, n2⟩, -, X2, ⟨Lc2, hQ2, l2, y2, z2⟩, st2⟩ := X1.specialBack hx (y := (⟨"com/example/tailrace/tailrace/cli/Count", "<init>", "()V"⟩ : MethodName)) rfl hown (mvT hZ (hw _ (List.mem_of_getElem? (i := 3) rfl))) (mvT hZ (hw _ (List.mem_of_getElem? (i := 4) rfl))) (mvT hZ (hw _ (List.mem_of_getElem? (i := 5) rfl))) (by decide) (backOf (W := 1) (rco l Z a0 hw [] b1 h1 n0 Zs2) hZ (hw _ (List.mem_of_getElem? (i := 5) rfl)) (hw _ (List.mem_of_getElem? (i := 2) rfl)) (by decide) (by decide)) (g := (mkF m 4 #[.val (.int p1), .val (.int p2), .val (.int p3), .val (.int p4), .unset, .unset, .unset, .unset, .unset, .unset, .unset] [(.ref b1), (.ref b1)])) rfl (by rw [hml]; rfl) (Steps.refl _) (a := b1) (argsL := []) (rest := [(.ref b1)]) (lenOf pd_0 rfl) rfl (by show 2 * 0 + _ ≤ _; exact Nat.le_of_eq rfl) (hb hby at_4) (fun _ _ => ⟨rfl, e1, (by decide : 1 + 0 ≤ _), (by decide : 0 + 0 ≤ _)⟩)
  dsimp only [Pt.U, Pt.locs, Pt.cells, Pt.slots] at X2 l2 y2 z2 st2 hQ2
  subst l2 y2 z2
  obtain ⟨rfl, N2q, e2q⟩ := hQ2
  have N2 := Fr.app N0 N2q
  refine Go.on (B := T2.setTop (mkF m 7 #[.val (.int p1), .val (.int p2), .val (.int p3), .val (.int p4), .unset, .unset, .unset, .unset, .unset, .unset, .unset] [(.ref b1)])) (fun t k => st2.trans k) ?_
  refine Go.on (B := T2.setTop (mkF m 9 #[.val (.int p1), .val (.int p2), .val (.int p3), .val (.int p4), .val (.ref b1), .unset, .unset, .unset, .unset, .unset, .unset] [])) (fun t k => XS.astore X2.here hx rfl (hb hby at_7) rfl rfl (l' := #[.val (.int p1), .val (.int p2), .val (.int p3), .val (.int p4), .val (.ref b1), .unset, .unset, .unset, .unset, .unset, .unset]) rfl k) ?_
  refine Go.on (B := T2.setTop (mkF m 11 #[.val (.int p1), .val (.int p2), .val (.int p3), .val (.int p4), .val (.ref b1), .unset, .unset, .unset, .unset, .unset, .unset] [(.ref b1)])) (fun t k => XS.aload X2.here hx rfl (hb hby at_9) rfl rfl k) ?_
  obtain ⟨cq3, kq3, q3a, q3b, q3c⟩ := isOf hZ e2q A1
  obtain ⟨_, _, ⟨T3, L3, k3, n3⟩, -, X3, ⟨Lc3, hQ3, l3, y3, z3⟩, st3⟩ := X2.virtualBack hx (y := (⟨"com/example/tailrace/tailrace/cli/Count", "createAccumulator", "()Lcom/example/tailrace/tailrace/cli/Count$Tally;"⟩ : MethodName)) (z := (⟨"com/example/tailrace/tailrace/cli/Count", "createAccumulator", "()Lcom/example/tailrace/tailrace/cli/Count$Tally;"⟩ : MethodName)) hown (mvT hZ (hw _ (List.mem_of_getElem? (i := 9) rfl))) (mvT hZ (hw _ (List.mem_of_getElem? (i := 10) rfl))) (notFace_of_selects (args := #[]) (mvT hZ (hw _ (List.mem_of_getElem? (i := 12) rfl)))) (mvT hZ (hw _ (List.mem_of_getElem? (i := 12) rfl))) (mvT hZ (hw _ (List.mem_of_getElem? (i := 11) rfl))) (by decide) (backOf (W := 0) (rcr l Z a0 hw [] b1 h1 n0 Zs2) hZ (hw _ (List.mem_of_getElem? (i := 13) rfl)) (hw _ (List.mem_of_getElem? (i := 2) rfl)) (by decide) (by decide)) q3a q3c (g := (mkF m 11 #[.val (.int p1), .val (.int p2), .val (.int p3), .val (.int p4), .val (.ref b1), .unset, .unset, .unset, .unset, .unset, .unset] [(.ref b1)])) rfl (by rw [hml]; rfl) (Steps.refl _) (argsL := []) (rest := []) (lenOf pd_3 rfl) rfl (by show 2 * 0 + _ ≤ _; exact Nat.le_of_eq rfl) (hb hby at_11) (fun _ _ => ⟨rfl, e2q, (by decide : 1 + 1 ≤ _), (by decide : 0 + 1 ≤ _)⟩)
  dsimp only [Pt.U, Pt.locs, Pt.cells, Pt.slots] at X3 l3 y3 z3 st3 hQ3
  subst l3 y3 z3
  obtain ⟨⟨t3, rfl, sx3, G3a, G3b⟩, N3q, K3q⟩ := hQ3
  have N3 := Fr.app N2 N3q
  have ne_b1_t3 : b1 ≠ t3 := Nat.ne_of_lt (Nat.lt_of_lt_of_le A1.lt sx3)
  have ge_t3 : n0 ≤ t3 := Nat.le_trans Zs2 sx3
  have O_3 := O_1.keep K3q all0
  have f4 := A1.keep K3q
  have Zs5 := Nat.le_trans Zs2 K3q.1
  refine Go.on (B := T3.setTop (mkF m 14 #[.val (.int p1), .val (.int p2), .val (.int p3), .val (.int p4), .val (.ref b1), .unset, .unset, .unset, .unset, .unset, .unset] [(.ref t3)])) (fun t k => st3.trans k) ?_
  refine Go.on (B := T3.setTop (mkF m 16 #[.val (.int p1), .val (.int p2), .val (.int p3), .val (.int p4), .val (.ref b1), .val (.ref t3), .unset, .unset, .unset, .unset, .unset] [])) (fun t k => XS.astore X3.here hx rfl (hb hby at_14) rfl rfl (l' := #[.val (.int p1), .val (.int p2), .val (.int p3), .val (.int p4), .val (.ref b1), .val (.ref t3), .unset, .unset, .unset, .unset, .unset]) rfl k) ?_
  refine Go.on (B := T3.setTop (mkF m 18 #[.val (.int p1), .val (.int p2), .val (.int p3), .val (.int p4), .val (.ref b1), .val (.ref t3), .unset, .unset, .unset, .unset, .unset] [(.ref b1)])) (fun t k => XS.aload X3.here hx rfl (hb hby at_16) rfl rfl k) ?_
  obtain ⟨cq4, kq4, q4a, q4b, q4c⟩ := isOf hZ rfl f4
  obtain ⟨_, _, ⟨T4, L4, k4, n4⟩, -, X4, ⟨Lc4, hQ4, l4, y4, z4⟩, st4⟩ := X3.virtualBack hx (y := (⟨"com/example/tailrace/tailrace/cli/Count", "createAccumulator", "()Lcom/example/tailrace/tailrace/cli/Count$Tally;"⟩ : MethodName)) (z := (⟨"com/example/tailrace/tailrace/cli/Count", "createAccumulator", "()Lcom/example/tailrace/tailrace/cli/Count$Tally;"⟩ : MethodName)) hown (mvT hZ (hw _ (List.mem_of_getElem? (i := 9) rfl))) (mvT hZ (hw _ (List.mem_of_getElem? (i := 10) rfl))) (notFace_of_selects (args := #[]) (mvT hZ (hw _ (List.mem_of_getElem? (i := 12) rfl)))) (mvT hZ (hw _ (List.mem_of_getElem? (i := 12) rfl))) (mvT hZ (hw _ (List.mem_of_getElem? (i := 11) rfl))) (by decide) (backOf (W := 0) (rcr l Z a0 hw [] b1 T3.heap n0 Zs5) hZ (hw _ (List.mem_of_getElem? (i := 13) rfl)) (hw _ (List.mem_of_getElem? (i := 2) rfl)) (by decide) (by decide)) q4a q4c (g := (mkF m 18 #[.val (.int p1), .val (.int p2), .val (.int p3), .val (.int p4), .val (.ref b1), .val (.ref t3), .unset, .unset, .unset, .unset, .unset] [(.ref b1)])) rfl (by rw [hml]; rfl) (Steps.refl _) (argsL := []) (rest := []) (lenOf pd_3 rfl) rfl (by show 2 * 0 + _ ≤ _; exact Nat.le_of_eq rfl) (hb hby at_18) (fun _ _ => ⟨rfl, rfl, (by decide : 2 + 1 ≤ _), (by decide : 1 + 1 ≤ _)⟩)
  dsimp only [Pt.U, Pt.locs, Pt.cells, Pt.slots] at X4 l4 y4 z4 st4 hQ4
  subst l4 y4 z4
  obtain ⟨⟨t4, rfl, sx4, G4a, G4b⟩, N4q, K4q⟩ := hQ4
  have N4 := Fr.app N3 N4q
  have ne_b1_t4 : b1 ≠ t4 := Nat.ne_of_lt (Nat.lt_of_lt_of_le f4.lt sx4)
  have ne_t3_t4 : t3 ≠ t4 := Nat.ne_of_lt (Nat.lt_of_lt_of_le G3a.lt sx4)
  have ge_t4 : n0 ≤ t4 := Nat.le_trans Zs5 sx4
  have O_6 := O_3.keep K4q all0
  have f7 := f4.keep K4q
  have f8 := G3a.keep K4q
  have f9 := G3b.keep K4q nin0
  have Zs10 := Nat.le_trans Zs5 K4q.1
  refine Go.on (B := T4.setTop (mkF m 21 #[.val (.int p1), .val (.int p2), .val (.int p3), .val (.int p4), .val (.ref b1), .val (.ref t3), .unset, .unset, .unset, .unset, .unset] [(.ref t4)])) (fun t k => st4.trans k) ?_
  refine Go.on (B := T4.setTop (mkF m 23 #[.val (.int p1), .val (.int p2), .val (.int p3), .val (.int p4), .val (.ref b1), .val (.ref t3), .val (.ref t4), .unset, .unset, .unset, .unset] [])) (fun t k => XS.astore X4.here hx rfl (hb hby at_21) rfl rfl (l' := #[.val (.int p1), .val (.int p2), .val (.int p3), .val (.int p4), .val (.ref b1), .val (.ref t3), .val (.ref t4), .unset, .unset, .unset, .unset]) rfl k) ?_
  refine Go.on (B := T4.setTop (mkF m 24 #[.val (.int p1), .val (.int p2), .val (.int p3), .val (.int p4), .val (.ref b1), .val (.ref t3), .val (.ref t4), .unset, .unset, .unset, .unset] [(.int p1)])) (fun t k => XS.iloadN X4.here hx rfl (hb hby at_23) rfl k) ?_
  refine Go.on (B := T4.setTop (mkF m 25 #[.val (.int p1), .val (.int p2), .val (.int p3), .val (.int p4), .val (.ref b1), .val (.ref t3), .val (.ref t4), .unset, .unset, .unset, .unset] [(.int (3 : Int32)), (.int p1)])) (fun t k => XS.iconst X4.here hx rfl (hb hby at_24) k) ?_
  refine Go.on (B := T4.setTop (mkF m 26 #[.val (.int p1), .val (.int p2), .val (.int p3), .val (.int p4), .val (.ref b1), .val (.ref t3), .val (.ref t4), .unset, .unset, .unset, .unset] [(.int (p1 &&& (3 : Int32)))])) (fun t k => XS.iand X4.here hx rfl (hb hby at_25) rfl k) ?_
  generalize hv26_5 : (p1 &&& (3 : Int32)) = v26_5
  refine Go.on (B := T4.setTop (mkF m 28 #[.val (.int p1), .val (.int p2), .val (.int p3), .val (.int p4), .val (.ref b1), .val (.ref t3), .val (.ref t4), .val (.int v26_5), .unset, .unset, .unset] [])) (fun t k => XS.istore X4.here hx rfl (hb hby at_26) rfl (l' := #[.val (.int p1), .val (.int p2), .val (.int p3), .val (.int p4), .val (.ref b1), .val (.ref t3), .val (.ref t4), .val (.int v26_5), .unset, .unset, .unset]) rfl k) ?_
  refine Go.on (B := T4.setTop (mkF m 29 #[.val (.int p1), .val (.int p2), .val (.int p3), .val (.int p4), .val (.ref b1), .val (.ref t3), .val (.ref t4), .val (.int v26_5), .unset, .unset, .unset] [(.int p4)])) (fun t k => XS.iloadN X4.here hx rfl (hb hby at_28) rfl k) ?_
  refine Go.on (B := T4.setTop (mkF m 30 #[.val (.int p1), .val (.int p2), .val (.int p3), .val (.int p4), .val (.ref b1), .val (.ref t3), .val (.ref t4), .val (.int v26_5), .unset, .unset, .unset] [(.int (1 : Int32)), (.int p4)])) (fun t k => XS.iconst X4.here hx rfl (hb hby at_29) k) ?_
  refine Go.on (B := T4.setTop (mkF m 31 #[.val (.int p1), .val (.int p2), .val (.int p3), .val (.int p4), .val (.ref b1), .val (.ref t3), .val (.ref t4), .val (.int v26_5), .unset, .unset, .unset] [(.int (p4 &&& (1 : Int32)))])) (fun t k => XS.iand X4.here hx rfl (hb hby at_30) rfl k) ?_
  by_cases hc31_6 : (p4 &&& (1 : Int32)) = (0 : Int32)
  · refine Go.on (B := T4.setTop (mkF m 38 #[.val (.int p1), .val (.int p2), .val (.int p3), .val (.int p4), .val (.ref b1), .val (.ref t3), .val (.ref t4), .val (.int v26_5), .unset, .unset, .unset] [])) (fun t k => XS.ifYes X4.here hx rfl (pc0 := 31) (pc' := 38) rfl (hb hby at_31) rfl ((if0 _ _).trans (teq hc31_6).1) (by decide) (by decide) k) ?_
    refine Go.on (B := T4.setTop (mkF m 39 #[.val (.int p1), .val (.int p2), .val (.int p3), .val (.int p4), .val (.ref b1), .val (.ref t3), .val (.ref t4), .val (.int v26_5), .unset, .unset, .unset] [(.int p2)])) (fun t k => XS.iloadN X4.here hx rfl (hb hby at_38) rfl k) ?_
    obtain ⟨_, _, ⟨T7, L7, k7, n7⟩, -, X7, ⟨Lc7, hQ7, l7, y7, z7⟩, st7⟩ := Jvm.LawKit.callS X4 hx (y := (⟨"java/lang/Integer", "valueOf", "(I)Ljava/lang/Integer;"⟩ : MethodName)) hown (mvT hZ (hw _ (List.mem_of_getElem? (i := 21) rfl))) (mvT hZ (hw _ (List.mem_of_getElem? (i := 22) rfl))) (mvT hZ (hw _ (List.mem_of_getElem? (i := 23) rfl))) (mvT hZ (hw _ (List.mem_of_getElem? (i := 24) rfl))) (by decide) (backOf (W := 0) (riv l Z a0 hw [] p2 ica icc T4.heap n0 Zs10 O_6 S_high S_icache B_icache) hZ (hw _ (List.mem_of_getElem? (i := 24) rfl)) (hw _ (List.mem_of_getElem? (i := 23) rfl)) (by decide) (by decide)) (g := (mkF m 39 #[.val (.int p1), .val (.int p2), .val (.int p3), .val (.int p4), .val (.ref b1), .val (.ref t3), .val (.ref t4), .val (.int v26_5), .unset, .unset, .unset] [(.int p2)])) rfl (by rw [hml]; rfl) (argsL := [(.int p2)]) (rest := []) (lenOf pd_4 rfl) rfl (by show 2 * 0 + _ ≤ _; exact Nat.le_of_eq rfl) (hb hby at_39) (fun _ _ => ⟨rfl, rfl, (by decide : 3 + 1 ≤ _), (by decide : 2 + 1 ≤ _)⟩)
    dsimp only [Pt.U, Pt.locs, Pt.cells, Pt.slots] at X7 l7 y7 z7 st7 hQ7
    subst l7 y7 z7
    obtain ⟨⟨x7, rfl, G7a, G7b⟩, N7q, K7q⟩ := hQ7
    have N7 := Fr.app N4 N7q
    have O_11 := O_6.keep K7q all0
    have f12 := f7.keep K7q
    have f13 := f8.keep K7q
    have f14 := f9.keep K7q nin0
    have f15 := G4a.keep K7q
    have f16 := G4b.keep K7q nin0
    have Zs17 := Nat.le_trans Zs10 K7q.1
    refine Go.on (B := T7.setTop (mkF m 42 #[.val (.int p1), .val (.int p2), .val (.int p3), .val (.int p4), .val (.ref b1), .val (.ref t3), .val (.ref t4), .val (.int v26_5), .unset, .unset, .unset] [(.ref x7)])) (fun t k => st7 _ k) ?_
    refine Go.on (B := T7.setTop (mkF m 44 #[.val (.int p1), .val (.int p2), .val (.int p3), .val (.int p4), .val (.ref b1), .val (.ref t3), .val (.ref t4), .val (.int v26_5), .val (.ref x7), .unset, .unset] [])) (fun t k => XS.astore X7.here hx rfl (hb hby at_42) rfl rfl (l' := #[.val (.int p1), .val (.int p2), .val (.int p3), .val (.int p4), .val (.ref b1), .val (.ref t3), .val (.ref t4), .val (.int v26_5), .val (.ref x7), .unset, .unset]) rfl k) ?_
    refine Go.on (B := T7.setTop (mkF m 45 #[.val (.int p1), .val (.int p2), .val (.int p3), .val (.int p4), .val (.ref b1), .val (.ref t3), .val (.ref t4), .val (.int v26_5), .val (.ref x7), .unset, .unset] [(.int p4)])) (fun t k => XS.iloadN X7.here hx rfl (hb hby at_44) rfl k) ?_
    refine Go.on (B := T7.setTop (mkF m 46 #[.val (.int p1), .val (.int p2), .val (.int p3), .val (.int p4), .val (.ref b1), .val (.ref t3), .val (.ref t4), .val (.int v26_5), .val (.ref x7), .unset, .unset] [(.int (2 : Int32)), (.int p4)])) (fun t k => XS.iconst X7.here hx rfl (hb hby at_45) k) ?_
    refine Go.on (B := T7.setTop (mkF m 47 #[.val (.int p1), .val (.int p2), .val (.int p3), .val (.int p4), .val (.ref b1), .val (.ref t3), .val (.ref t4), .val (.int v26_5), .val (.ref x7), .unset, .unset] [(.int (p4 &&& (2 : Int32)))])) (fun t k => XS.iand X7.here hx rfl (hb hby at_46) rfl k) ?_
    by_cases hc47_8 : (p4 &&& (2 : Int32)) = (0 : Int32)
    · refine Go.on (B := T7.setTop (mkF m 54 #[.val (.int p1), .val (.int p2), .val (.int p3), .val (.int p4), .val (.ref b1), .val (.ref t3), .val (.ref t4), .val (.int v26_5), .val (.ref x7), .unset, .unset] [])) (fun t k => XS.ifYes X7.here hx rfl (pc0 := 47) (pc' := 54) rfl (hb hby at_47) rfl ((if0 _ _).trans (teq hc47_8).1) (by decide) (by decide) k) ?_
      refine Go.on (B := T7.setTop (mkF m 55 #[.val (.int p1), .val (.int p2), .val (.int p3), .val (.int p4), .val (.ref b1), .val (.ref t3), .val (.ref t4), .val (.int v26_5), .val (.ref x7), .unset, .unset] [(.int p3)])) (fun t k => XS.iloadN X7.here hx rfl (hb hby at_54) rfl k) ?_
      obtain ⟨_, _, ⟨T9, L9, k9, n9⟩, -, X9, ⟨Lc9, hQ9, l9, y9, z9⟩, st9⟩ := Jvm.LawKit.callS X7 hx (y := (⟨"java/lang/Integer", "valueOf", "(I)Ljava/lang/Integer;"⟩ : MethodName)) hown (mvT hZ (hw _ (List.mem_of_getElem? (i := 21) rfl))) (mvT hZ (hw _ (List.mem_of_getElem? (i := 22) rfl))) (mvT hZ (hw _ (List.mem_of_getElem? (i := 23) rfl))) (mvT hZ (hw _ (List.mem_of_getElem? (i := 24) rfl))) (by decide) (backOf (W := 0) (riv l Z a0 hw [] p3 ica icc T7.heap n0 Zs17 O_11 S_high S_icache B_icache) hZ (hw _ (List.mem_of_getElem? (i := 24) rfl)) (hw _ (List.mem_of_getElem? (i := 23) rfl)) (by decide) (by decide)) (g := (mkF m 55 #[.val (.int p1), .val (.int p2), .val (.int p3), .val (.int p4), .val (.ref b1), .val (.ref t3), .val (.ref t4), .val (.int v26_5), .val (.ref x7), .unset, .unset] [(.int p3)])) rfl (by rw [hml]; rfl) (argsL := [(.int p3)]) (rest := []) (lenOf pd_4 rfl) rfl (by show 2 * 0 + _ ≤ _; exact Nat.le_of_eq rfl) (hb hby at_55) (fun _ _ => ⟨rfl, rfl, (by decide : 4 + 1 ≤ _), (by decide : 3 + 1 ≤ _)⟩)
      dsimp only [Pt.U, Pt.locs, Pt.cells, Pt.slots] at X9 l9 y9 z9 st9 hQ9
      subst l9 y9 z9
      obtain ⟨⟨x9, rfl, G9a, G9b⟩, N9q, K9q⟩ := hQ9
      have N9 := Fr.app N7 N9q
      have O_18 := O_11.keep K9q all0
      have f19 := f12.keep K9q
      have f20 := f13.keep K9q
      have f21 := f14.keep K9q nin0
      have f22 := f15.keep K9q
      have f23 := f16.keep K9q nin0
      have Zs24 := Nat.le_trans Zs17 K9q.1
      refine Go.on (B := T9.setTop (mkF m 58 #[.val (.int p1), .val (.int p2), .val (.int p3), .val (.int p4), .val (.ref b1), .val (.ref t3), .val (.ref t4), .val (.int v26_5), .val (.ref x7), .unset, .unset] [(.ref x9)])) (fun t k => st9 _ k) ?_
      refine Go.on (B := T9.setTop (mkF m 60 #[.val (.int p1), .val (.int p2), .val (.int p3), .val (.int p4), .val (.ref b1), .val (.ref t3), .val (.ref t4), .val (.int v26_5), .val (.ref x7), .val (.ref x9), .unset] [])) (fun t k => XS.astore X9.here hx rfl (hb hby at_58) rfl rfl (l' := #[.val (.int p1), .val (.int p2), .val (.int p3), .val (.int p4), .val (.ref b1), .val (.ref t3), .val (.ref t4), .val (.int v26_5), .val (.ref x7), .val (.ref x9), .unset]) rfl k) ?_
      refine Go.on (B := T9.setTop (mkF m 61 #[.val (.int p1), .val (.int p2), .val (.int p3), .val (.int p4), .val (.ref b1), .val (.ref t3), .val (.ref t4), .val (.int v26_5), .val (.ref x7), .val (.ref x9), .unset] [(.int (1 : Int32))])) (fun t k => XS.iconst X9.here hx rfl (hb hby at_60) k) ?_
      refine Go.on (B := T9.setTop (mkF m 63 #[.val (.int p1), .val (.int p2), .val (.int p3), .val (.int p4), .val (.ref b1), .val (.ref t3), .val (.ref t4), .val (.int v26_5), .val (.ref x7), .val (.ref x9), .val (.int (1 : Int32))] [])) (fun t k => XS.istore X9.here hx rfl (hb hby at_61) rfl (l' := #[.val (.int p1), .val (.int p2), .val (.int p3), .val (.int p4), .val (.ref b1), .val (.ref t3), .val (.ref t4), .val (.int v26_5), .val (.ref x7), .val (.ref x9), .val (.int (1 : Int32))]) rfl k) ?_
      refine Go.on (B := T9.setTop (mkF m 65 #[.val (.int p1), .val (.int p2), .val (.int p3), .val (.int p4), .val (.ref b1), .val (.ref t3), .val (.ref t4), .val (.int v26_5), .val (.ref x7), .val (.ref x9), .val (.int (1 : Int32))] [(.int v26_5)])) (fun t k => XS.iload X9.here hx rfl (hb hby at_63) rfl k) ?_
      refine Go.on (B := T9.setTop (mkF m 66 #[.val (.int p1), .val (.int p2), .val (.int p3), .val (.int p4), .val (.ref b1), .val (.ref t3), .val (.ref t4), .val (.int v26_5), .val (.ref x7), .val (.ref x9), .val (.int (1 : Int32))] [(.int (1 : Int32)), (.int v26_5)])) (fun t k => XS.iconst X9.here hx rfl (hb hby at_65) k) ?_
      by_cases hc66_11 : v26_5 < (1 : Int32)
      · refine Go.on (B := T9.setTop (mkF m 93 #[.val (.int p1), .val (.int p2), .val (.int p3), .val (.int p4), .val (.ref b1), .val (.ref t3), .val (.ref t4), .val (.int v26_5), .val (.ref x7), .val (.ref x9), .val (.int (1 : Int32))] [])) (fun t k => XS.icmpYes X9.here hx rfl (pc0 := 66) (pc' := 93) rfl (hb hby at_66) rfl (tlt hc66_11).1 (by decide) (by decide) k) ?_
        refine Go.on (B := T9.setTop (mkF m 95 #[.val (.int p1), .val (.int p2), .val (.int p3), .val (.int p4), .val (.ref b1), .val (.ref t3), .val (.ref t4), .val (.int v26_5), .val (.ref x7), .val (.ref x9), .val (.int (1 : Int32))] [(.int v26_5)])) (fun t k => XS.iload X9.here hx rfl (hb hby at_93) rfl k) ?_
        refine Go.on (B := T9.setTop (mkF m 96 #[.val (.int p1), .val (.int p2), .val (.int p3), .val (.int p4), .val (.ref b1), .val (.ref t3), .val (.ref t4), .val (.int v26_5), .val (.ref x7), .val (.ref x9), .val (.int (1 : Int32))] [(.int (2 : Int32)), (.int v26_5)])) (fun t k => XS.iconst X9.here hx rfl (hb hby at_95) k) ?_
        have hc96_12 : v26_5 < (2 : Int32) := own_up2 hc66_11 (by decide)
        refine Go.on (B := T9.setTop (mkF m 123 #[.val (.int p1), .val (.int p2), .val (.int p3), .val (.int p4), .val (.ref b1), .val (.ref t3), .val (.ref t4), .val (.int v26_5), .val (.ref x7), .val (.ref x9), .val (.int (1 : Int32))] [])) (fun t k => XS.icmpYes X9.here hx rfl (pc0 := 96) (pc' := 123) rfl (hb hby at_96) rfl (tlt hc96_12).1 (by decide) (by decide) k) ?_
        refine Go.on (B := T9.setTop (mkF m 125 #[.val (.int p1), .val (.int p2), .val (.int p3), .val (.int p4), .val (.ref b1), .val (.ref t3), .val (.ref t4), .val (.int v26_5), .val (.ref x7), .val (.ref x9), .val (.int (1 : Int32))] [(.int v26_5)])) (fun t k => XS.iload X9.here hx rfl (hb hby at_123) rfl k) ?_
        refine Go.on (B := T9.setTop (mkF m 126 #[.val (.int p1), .val (.int p2), .val (.int p3), .val (.int p4), .val (.ref b1), .val (.ref t3), .val (.ref t4), .val (.int v26_5), .val (.ref x7), .val (.ref x9), .val (.int (1 : Int32))] [(.int (3 : Int32)), (.int v26_5)])) (fun t k => XS.iconst X9.here hx rfl (hb hby at_125) k) ?_
        have hc126_13 : v26_5 < (3 : Int32) := own_up2 hc96_12 (by decide)
        refine Go.on (B := T9.setTop (mkF m 153 #[.val (.int p1), .val (.int p2), .val (.int p3), .val (.int p4), .val (.ref b1), .val (.ref t3), .val (.ref t4), .val (.int v26_5), .val (.ref x7), .val (.ref x9), .val (.int (1 : Int32))] [])) (fun t k => XS.icmpYes X9.here hx rfl (pc0 := 126) (pc' := 153) rfl (hb hby at_126) rfl (tlt hc126_13).1 (by decide) (by decide) k) ?_
        refine Go.on (B := T9.setTop (mkF m 155 #[.val (.int p1), .val (.int p2), .val (.int p3), .val (.int p4), .val (.ref b1), .val (.ref t3), .val (.ref t4), .val (.int v26_5), .val (.ref x7), .val (.ref x9), .val (.int (1 : Int32))] [(.int (1 : Int32))])) (fun t k => XS.iload X9.here hx rfl (hb hby at_153) rfl k) ?_
        refine Go.on (B := T9.setTop (mkF m 157 #[.val (.int p1), .val (.int p2), .val (.int p3), .val (.int p4), .val (.ref b1), .val (.ref t3), .val (.ref t4), .val (.int v26_5), .val (.ref x7), .val (.ref x9), .val (.int (1 : Int32))] [(.ref b1), (.int (1 : Int32))])) (fun t k => XS.aload X9.here hx rfl (hb hby at_155) rfl rfl k) ?_
        refine Go.on (B := T9.setTop (mkF m 159 #[.val (.int p1), .val (.int p2), .val (.int p3), .val (.int p4), .val (.ref b1), .val (.ref t3), .val (.ref t4), .val (.int v26_5), .val (.ref x7), .val (.ref x9), .val (.int (1 : Int32))] [(.ref x9), (.ref b1), (.int (1 : Int32))])) (fun t k => XS.aload X9.here hx rfl (hb hby at_157) rfl rfl k) ?_
        refine Go.on (B := T9.setTop (mkF m 161 #[.val (.int p1), .val (.int p2), .val (.int p3), .val (.int p4), .val (.ref b1), .val (.ref t3), .val (.ref t4), .val (.int v26_5), .val (.ref x7), .val (.ref x9), .val (.int (1 : Int32))] [(.ref t4), (.ref x9), (.ref b1), (.int (1 : Int32))])) (fun t k => XS.aload X9.here hx rfl (hb hby at_159) rfl rfl k) ?_
        obtain ⟨cq14, kq14, q14a, q14b, q14c⟩ := isOf hZ rfl f19
        obtain ⟨_, _, ⟨T14, L14, k14, n14⟩, -, X14, ⟨Lc14, hQ14, l14, y14, z14⟩, st14⟩ := X9.virtualBack hx (y := (⟨"com/example/tailrace/tailrace/cli/Count", "add", "(Ljava/lang/Object;Lcom/example/tailrace/tailrace/cli/Count$Tally;)Lcom/example/tailrace/tailrace/cli/Count$Tally;"⟩ : MethodName)) (z := (⟨"com/example/tailrace/tailrace/cli/Count", "add", "(Ljava/lang/Object;Lcom/example/tailrace/tailrace/cli/Count$Tally;)Lcom/example/tailrace/tailrace/cli/Count$Tally;"⟩ : MethodName)) hown (mvT hZ (hw _ (List.mem_of_getElem? (i := 28) rfl))) (mvT hZ (hw _ (List.mem_of_getElem? (i := 29) rfl))) (notFace_of_selects (args := #[]) (mvT hZ (hw _ (List.mem_of_getElem? (i := 31) rfl)))) (mvT hZ (hw _ (List.mem_of_getElem? (i := 31) rfl))) (mvT hZ (hw _ (List.mem_of_getElem? (i := 30) rfl))) (by decide) (backOf (W := 1) (radd1 l Z a0 hw [] b1 x9 t4 (0 : Int64) T9.heap n0 Zs24 f22 f23 ge_t4) hZ (hw _ (List.mem_of_getElem? (i := 32) rfl)) (hw _ (List.mem_of_getElem? (i := 2) rfl)) (by decide) (by decide)) q14a q14c (g := (mkF m 161 #[.val (.int p1), .val (.int p2), .val (.int p3), .val (.int p4), .val (.ref b1), .val (.ref t3), .val (.ref t4), .val (.int v26_5), .val (.ref x7), .val (.ref x9), .val (.int (1 : Int32))] [(.ref t4), (.ref x9), (.ref b1), (.int (1 : Int32))])) rfl (by rw [hml]; rfl) (Steps.refl _) (argsL := [(.ref x9), (.ref t4)]) (rest := [(.int (1 : Int32))]) (lenOf pd_5 rfl) rfl (by show 2 * 0 + _ ≤ _; exact Nat.le_of_eq rfl) (hb hby at_161) (fun _ _ => ⟨rfl, rfl, (by decide : 5 + 0 ≤ _), (by decide : 4 + 0 ≤ _)⟩)
        dsimp only [Pt.U, Pt.locs, Pt.cells, Pt.slots] at X14 l14 y14 z14 st14 hQ14
        subst l14 y14 z14
        obtain ⟨rfl, N14q, K14q, G14a, G14b⟩ := hQ14
        have N14 := Fr.app N9 N14q
        have O_25 := O_18.keep K14q (allS ge_t4 all0)
        have f26 := f19.keep K14q
        have f27 := f20.keep K14q
        have f28 := f21.keep K14q (ninS ne_t3_t4 nin0)
        have f29 := f22.keep K14q
        have Zs30 := Nat.le_trans Zs24 K14q.1
        rw [show ((0 : Int64) + (1 : Int64)) = (1 : Int64) from by decide] at G14b
        refine Go.on (B := T14.setTop (mkF m 164 #[.val (.int p1), .val (.int p2), .val (.int p3), .val (.int p4), .val (.ref b1), .val (.ref t3), .val (.ref t4), .val (.int v26_5), .val (.ref x7), .val (.ref x9), .val (.int (1 : Int32))] [(.ref t4), (.int (1 : Int32))])) (fun t k => st14.trans k) ?_
        refine Go.on (B := T14.setTop (mkF m 166 #[.val (.int p1), .val (.int p2), .val (.int p3), .val (.int p4), .val (.ref b1), .val (.ref t3), .val (.ref t4), .val (.int v26_5), .val (.ref x7), .val (.ref x9), .val (.int (1 : Int32))] [(.ref t4), (.ref t4), (.int (1 : Int32))])) (fun t k => XS.aload X14.here hx rfl (hb hby at_164) rfl rfl k) ?_
        refine Go.on (B := T14.setTop (mkF m 169 #[.val (.int p1), .val (.int p2), .val (.int p3), .val (.int p4), .val (.ref b1), .val (.ref t3), .val (.ref t4), .val (.int v26_5), .val (.ref x7), .val (.ref x9), .val (.int (1 : Int32))] [(.int (1 : Int32))])) (fun t k => Jvm.RoadKit.acmp (g := (mkF m 166 #[.val (.int p1), .val (.int p2), .val (.int p3), .val (.int p4), .val (.ref b1), .val (.ref t3), .val (.ref t4), .val (.int v26_5), .val (.ref x7), .val (.ref x9), .val (.int (1 : Int32))] [(.ref t4), (.ref t4), (.int (1 : Int32))])) X14 hx rfl rfl rfl (pc0 := 166) (pc' := 169) (same := true) rfl (hb hby at_166) rfl (decide_eq_true rfl) (by decide) (by decide) k) ?_
        refine Go.on (B := T14.setTop (mkF m 170 #[.val (.int p1), .val (.int p2), .val (.int p3), .val (.int p4), .val (.ref b1), .val (.ref t3), .val (.ref t4), .val (.int v26_5), .val (.ref x7), .val (.ref x9), .val (.int (1 : Int32))] [(.int (1 : Int32)), (.int (1 : Int32))])) (fun t k => XS.iconst X14.here hx rfl (hb hby at_169) k) ?_
        refine Go.on (B := T14.setTop (mkF m 174 #[.val (.int p1), .val (.int p2), .val (.int p3), .val (.int p4), .val (.ref b1), .val (.ref t3), .val (.ref t4), .val (.int v26_5), .val (.ref x7), .val (.ref x9), .val (.int (1 : Int32))] [(.int (1 : Int32)), (.int (1 : Int32))])) (fun t k => XS.goto X14.here hx rfl (pc0 := 170) (pc' := 174) rfl (hb hby at_170) (by decide) (by decide) k) ?_
        refine Go.on (B := T14.setTop (mkF m 175 #[.val (.int p1), .val (.int p2), .val (.int p3), .val (.int p4), .val (.ref b1), .val (.ref t3), .val (.ref t4), .val (.int v26_5), .val (.ref x7), .val (.ref x9), .val (.int (1 : Int32))] [(.int ((1 : Int32) &&& (1 : Int32)))])) (fun t k => XS.iand X14.here hx rfl (hb hby at_174) rfl k) ?_
        rw [show ((1 : Int32) &&& (1 : Int32)) = (1 : Int32) from by decide]
        refine Go.on (B := T14.setTop (mkF m 177 #[.val (.int p1), .val (.int p2), .val (.int p3), .val (.int p4), .val (.ref b1), .val (.ref t3), .val (.ref t4), .val (.int v26_5), .val (.ref x7), .val (.ref x9), .val (.int (1 : Int32))] [])) (fun t k => XS.istore X14.here hx rfl (hb hby at_175) rfl (l' := #[.val (.int p1), .val (.int p2), .val (.int p3), .val (.int p4), .val (.ref b1), .val (.ref t3), .val (.ref t4), .val (.int v26_5), .val (.ref x7), .val (.ref x9), .val (.int (1 : Int32))]) rfl k) ?_
        refine Go.on (B := T14.setTop (mkF m 179 #[.val (.int p1), .val (.int p2), .val (.int p3), .val (.int p4), .val (.ref b1), .val (.ref t3), .val (.ref t4), .val (.int v26_5), .val (.ref x7), .val (.ref x9), .val (.int (1 : Int32))] [(.int (1 : Int32))])) (fun t k => XS.iload X14.here hx rfl (hb hby at_177) rfl k) ?_
        refine Go.on (B := T14.setTop (mkF m 181 #[.val (.int p1), .val (.int p2), .val (.int p3), .val (.int p4), .val (.ref b1), .val (.ref t3), .val (.ref t4), .val (.int v26_5), .val (.ref x7), .val (.ref x9), .val (.int (1 : Int32))] [(.ref b1), (.int (1 : Int32))])) (fun t k => XS.aload X14.here hx rfl (hb hby at_179) rfl rfl k) ?_
        refine Go.on (B := T14.setTop (mkF m 183 #[.val (.int p1), .val (.int p2), .val (.int p3), .val (.int p4), .val (.ref b1), .val (.ref t3), .val (.ref t4), .val (.int v26_5), .val (.ref x7), .val (.ref x9), .val (.int (1 : Int32))] [(.ref t3), (.ref b1), (.int (1 : Int32))])) (fun t k => XS.aload X14.here hx rfl (hb hby at_181) rfl rfl k) ?_
        obtain ⟨cq17, kq17, q17a, q17b, q17c⟩ := isOf hZ rfl f26
        obtain ⟨_, _, ⟨T17, L17, k17, n17⟩, -, X17, ⟨Lc17, hQ17, l17, y17, z17⟩, st17⟩ := X14.virtualBack hx (y := (⟨"com/example/tailrace/tailrace/cli/Count", "getResult", "(Lcom/example/tailrace/tailrace/cli/Count$Tally;)Ljava/lang/Long;"⟩ : MethodName)) (z := (⟨"com/example/tailrace/tailrace/cli/Count", "getResult", "(Lcom/example/tailrace/tailrace/cli/Count$Tally;)Ljava/lang/Long;"⟩ : MethodName)) hown (mvT hZ (hw _ (List.mem_of_getElem? (i := 35) rfl))) (mvT hZ (hw _ (List.mem_of_getElem? (i := 36) rfl))) (notFace_of_selects (args := #[]) (mvT hZ (hw _ (List.mem_of_getElem? (i := 38) rfl)))) (mvT hZ (hw _ (List.mem_of_getElem? (i := 38) rfl))) (mvT hZ (hw _ (List.mem_of_getElem? (i := 37) rfl))) (by decide) (backOf (W := 1) (rgr l Z a0 hw [] b1 t3 (0 : Int64) ca cc T14.heap n0 Zs30 f28 O_25 S_cache B_cache (by decide) (by decide)) hZ (hw _ (List.mem_of_getElem? (i := 39) rfl)) (hw _ (List.mem_of_getElem? (i := 2) rfl)) (by decide) (by decide)) q17a q17c (g := (mkF m 183 #[.val (.int p1), .val (.int p2), .val (.int p3), .val (.int p4), .val (.ref b1), .val (.ref t3), .val (.ref t4), .val (.int v26_5), .val (.ref x7), .val (.ref x9), .val (.int (1 : Int32))] [(.ref t3), (.ref b1), (.int (1 : Int32))])) rfl (by rw [hml]; rfl) (Steps.refl _) (argsL := [(.ref t3)]) (rest := [(.int (1 : Int32))]) (lenOf pd_6 rfl) rfl (by show 2 * 0 + _ ≤ _; exact Nat.le_of_eq rfl) (hb hby at_183) (fun _ _ => ⟨rfl, rfl, (by decide : 5 + 0 ≤ _), (by decide : 4 + 0 ≤ _)⟩)
        dsimp only [Pt.U, Pt.locs, Pt.cells, Pt.slots] at X17 l17 y17 z17 st17 hQ17
        subst l17 y17 z17
        obtain ⟨⟨x17, rfl, G17a, G17b⟩, N17q, K17q⟩ := hQ17
        have N17 := Fr.app N14 N17q
        have O_31 := O_25.keep K17q all0
        have f32 := f26.keep K17q
        have f33 := f27.keep K17q
        have f34 := f28.keep K17q nin0
        have f35 := G14a.keep K17q
        have f36 := G14b.keep K17q nin0
        have Zs37 := Nat.le_trans Zs30 K17q.1
        refine Go.on (B := T17.setTop (mkF m 186 #[.val (.int p1), .val (.int p2), .val (.int p3), .val (.int p4), .val (.ref b1), .val (.ref t3), .val (.ref t4), .val (.int v26_5), .val (.ref x7), .val (.ref x9), .val (.int (1 : Int32))] [(.ref x17), (.int (1 : Int32))])) (fun t k => st17.trans k) ?_
        obtain ⟨cq18, kq18, q18a, q18b, q18c⟩ := isOf hZ rfl G17a
        obtain ⟨_, _, ⟨T18, L18, k18, n18⟩, -, X18, ⟨Lc18, hQ18, l18, y18, z18⟩, st18⟩ := X17.virtualBack hx (y := (⟨"java/lang/Long", "longValue", "()J"⟩ : MethodName)) (z := (⟨"java/lang/Long", "longValue", "()J"⟩ : MethodName)) hown (mvT hZ (hw _ (List.mem_of_getElem? (i := 48) rfl))) (mvT hZ (hw _ (List.mem_of_getElem? (i := 49) rfl))) (notFace_of_selects (args := #[]) (mvT hZ (hw _ (List.mem_of_getElem? (i := 51) rfl)))) (mvT hZ (hw _ (List.mem_of_getElem? (i := 51) rfl))) (mvT hZ (hw _ (List.mem_of_getElem? (i := 50) rfl))) (by decide) (backOf (W := 1) (rval l Z a0 hw [] x17 (0 : Int64) T17.heap n0 Zs37 G17b) hZ (hw _ (List.mem_of_getElem? (i := 52) rfl)) (hw _ (List.mem_of_getElem? (i := 42) rfl)) (by decide) (by decide)) q18a q18c (g := (mkF m 186 #[.val (.int p1), .val (.int p2), .val (.int p3), .val (.int p4), .val (.ref b1), .val (.ref t3), .val (.ref t4), .val (.int v26_5), .val (.ref x7), .val (.ref x9), .val (.int (1 : Int32))] [(.ref x17), (.int (1 : Int32))])) rfl (by rw [hml]; rfl) (Steps.refl _) (argsL := []) (rest := [(.int (1 : Int32))]) (lenOf pd_7 rfl) rfl (by show 2 * 0 + _ ≤ _; exact Nat.le_of_eq rfl) (hb hby at_186) (fun _ _ => ⟨rfl, rfl, (by decide : 5 + 0 ≤ _), (by decide : 4 + 0 ≤ _)⟩)
        dsimp only [Pt.U, Pt.locs, Pt.cells, Pt.slots] at X18 l18 y18 z18 st18 hQ18
        subst l18 y18 z18
        obtain ⟨rfl, N18q, e18q⟩ := hQ18
        have N18 := Fr.app N17 N18q
        refine Go.on (B := T18.setTop (mkF m 189 #[.val (.int p1), .val (.int p2), .val (.int p3), .val (.int p4), .val (.ref b1), .val (.ref t3), .val (.ref t4), .val (.int v26_5), .val (.ref x7), .val (.ref x9), .val (.int (1 : Int32))] [(.long (0 : Int64)), (.int (1 : Int32))])) (fun t k => st18.trans k) ?_
        refine Go.on (B := T18.setTop (mkF m 191 #[.val (.int p1), .val (.int p2), .val (.int p3), .val (.int p4), .val (.ref b1), .val (.ref t3), .val (.ref t4), .val (.int v26_5), .val (.ref x7), .val (.ref x9), .val (.int (1 : Int32))] [(.int v26_5), (.long (0 : Int64)), (.int (1 : Int32))])) (fun t k => XS.iload X18.here hx rfl (hb hby at_189) rfl k) ?_
        refine Go.on (B := T18.setTop (mkF m 192 #[.val (.int p1), .val (.int p2), .val (.int p3), .val (.int p4), .val (.ref b1), .val (.ref t3), .val (.ref t4), .val (.int v26_5), .val (.ref x7), .val (.ref x9), .val (.int (1 : Int32))] [(.long (v26_5.toInt64)), (.long (0 : Int64)), (.int (1 : Int32))])) (fun t k => XS.i2l X18.here hx rfl (hb hby at_191) rfl k) ?_
        refine Go.on (B := T18.setTop (mkF m 193 #[.val (.int p1), .val (.int p2), .val (.int p3), .val (.int p4), .val (.ref b1), .val (.ref t3), .val (.ref t4), .val (.int v26_5), .val (.ref x7), .val (.ref x9), .val (.int (1 : Int32))] [(.int (lcmpW (0 : Int64) (v26_5.toInt64))), (.int (1 : Int32))])) (fun t k => XS.lcmp X18.here hx rfl (hb hby at_192) rfl k) ?_
        have hc193_19 : (0 : Int64) = (v26_5.toInt64) := by
          have q := own_n3 _ _ hv26_5
          have u0 := hc66_11
          rw [Int32.lt_iff_toInt_lt, show (1 : Int32).toInt = 1 from by decide] at u0
          have u1 := hc96_12
          rw [Int32.lt_iff_toInt_lt, show (2 : Int32).toInt = 2 from by decide] at u1
          have u2 := hc126_13
          rw [Int32.lt_iff_toInt_lt, show (3 : Int32).toInt = 3 from by decide] at u2
          exact own_is 0 (by omega) (by decide)
        refine Go.on (B := T18.setTop (mkF m 196 #[.val (.int p1), .val (.int p2), .val (.int p3), .val (.int p4), .val (.ref b1), .val (.ref t3), .val (.ref t4), .val (.int v26_5), .val (.ref x7), .val (.ref x9), .val (.int (1 : Int32))] [(.int (1 : Int32))])) (fun t k => XS.ifNo X18.here hx rfl (hb hby at_193) rfl ((if0 _ _).trans (teq ((lw_eq _ _).mpr hc193_19)).2) k) ?_
        refine Go.on (B := T18.setTop (mkF m 197 #[.val (.int p1), .val (.int p2), .val (.int p3), .val (.int p4), .val (.ref b1), .val (.ref t3), .val (.ref t4), .val (.int v26_5), .val (.ref x7), .val (.ref x9), .val (.int (1 : Int32))] [(.int (1 : Int32)), (.int (1 : Int32))])) (fun t k => XS.iconst X18.here hx rfl (hb hby at_196) k) ?_
        refine Go.on (B := T18.setTop (mkF m 201 #[.val (.int p1), .val (.int p2), .val (.int p3), .val (.int p4), .val (.ref b1), .val (.ref t3), .val (.ref t4), .val (.int v26_5), .val (.ref x7), .val (.ref x9), .val (.int (1 : Int32))] [(.int (1 : Int32)), (.int (1 : Int32))])) (fun t k => XS.goto X18.here hx rfl (pc0 := 197) (pc' := 201) rfl (hb hby at_197) (by decide) (by decide) k) ?_
        refine Go.on (B := T18.setTop (mkF m 202 #[.val (.int p1), .val (.int p2), .val (.int p3), .val (.int p4), .val (.ref b1), .val (.ref t3), .val (.ref t4), .val (.int v26_5), .val (.ref x7), .val (.ref x9), .val (.int (1 : Int32))] [(.int ((1 : Int32) &&& (1 : Int32)))])) (fun t k => XS.iand X18.here hx rfl (hb hby at_201) rfl k) ?_
        rw [show ((1 : Int32) &&& (1 : Int32)) = (1 : Int32) from by decide]
        refine Go.on (B := T18.setTop (mkF m 204 #[.val (.int p1), .val (.int p2), .val (.int p3), .val (.int p4), .val (.ref b1), .val (.ref t3), .val (.ref t4), .val (.int v26_5), .val (.ref x7), .val (.ref x9), .val (.int (1 : Int32))] [])) (fun t k => XS.istore X18.here hx rfl (hb hby at_202) rfl (l' := #[.val (.int p1), .val (.int p2), .val (.int p3), .val (.int p4), .val (.ref b1), .val (.ref t3), .val (.ref t4), .val (.int v26_5), .val (.ref x7), .val (.ref x9), .val (.int (1 : Int32))]) rfl k) ?_
        refine Go.on (B := T18.setTop (mkF m 206 #[.val (.int p1), .val (.int p2), .val (.int p3), .val (.int p4), .val (.ref b1), .val (.ref t3), .val (.ref t4), .val (.int v26_5), .val (.ref x7), .val (.ref x9), .val (.int (1 : Int32))] [(.int (1 : Int32))])) (fun t k => XS.iload X18.here hx rfl (hb hby at_204) rfl k) ?_
        refine Go.on (B := T18.setTop (mkF m 208 #[.val (.int p1), .val (.int p2), .val (.int p3), .val (.int p4), .val (.ref b1), .val (.ref t3), .val (.ref t4), .val (.int v26_5), .val (.ref x7), .val (.ref x9), .val (.int (1 : Int32))] [(.ref b1), (.int (1 : Int32))])) (fun t k => XS.aload X18.here hx rfl (hb hby at_206) rfl rfl k) ?_
        refine Go.on (B := T18.setTop (mkF m 210 #[.val (.int p1), .val (.int p2), .val (.int p3), .val (.int p4), .val (.ref b1), .val (.ref t3), .val (.ref t4), .val (.int v26_5), .val (.ref x7), .val (.ref x9), .val (.int (1 : Int32))] [(.ref t4), (.ref b1), (.int (1 : Int32))])) (fun t k => XS.aload X18.here hx rfl (hb hby at_208) rfl rfl k) ?_
        obtain ⟨cq21, kq21, q21a, q21b, q21c⟩ := isOf hZ e18q f32
        obtain ⟨_, _, ⟨T21, L21, k21, n21⟩, -, X21, ⟨Lc21, hQ21, l21, y21, z21⟩, st21⟩ := X18.virtualBack hx (y := (⟨"com/example/tailrace/tailrace/cli/Count", "getResult", "(Lcom/example/tailrace/tailrace/cli/Count$Tally;)Ljava/lang/Long;"⟩ : MethodName)) (z := (⟨"com/example/tailrace/tailrace/cli/Count", "getResult", "(Lcom/example/tailrace/tailrace/cli/Count$Tally;)Ljava/lang/Long;"⟩ : MethodName)) hown (mvT hZ (hw _ (List.mem_of_getElem? (i := 35) rfl))) (mvT hZ (hw _ (List.mem_of_getElem? (i := 36) rfl))) (notFace_of_selects (args := #[]) (mvT hZ (hw _ (List.mem_of_getElem? (i := 38) rfl)))) (mvT hZ (hw _ (List.mem_of_getElem? (i := 38) rfl))) (mvT hZ (hw _ (List.mem_of_getElem? (i := 37) rfl))) (by decide) (backOf (W := 1) (rgr l Z a0 hw [] b1 t4 (1 : Int64) ca cc T17.heap n0 Zs37 f36 O_31 S_cache B_cache (by decide) (by decide)) hZ (hw _ (List.mem_of_getElem? (i := 39) rfl)) (hw _ (List.mem_of_getElem? (i := 2) rfl)) (by decide) (by decide)) q21a q21c (g := (mkF m 210 #[.val (.int p1), .val (.int p2), .val (.int p3), .val (.int p4), .val (.ref b1), .val (.ref t3), .val (.ref t4), .val (.int v26_5), .val (.ref x7), .val (.ref x9), .val (.int (1 : Int32))] [(.ref t4), (.ref b1), (.int (1 : Int32))])) rfl (by rw [hml]; rfl) (Steps.refl _) (argsL := [(.ref t4)]) (rest := [(.int (1 : Int32))]) (lenOf pd_6 rfl) rfl (by show 2 * 0 + _ ≤ _; exact Nat.le_of_eq rfl) (hb hby at_210) (fun _ _ => ⟨rfl, e18q, (by decide : 5 + 0 ≤ _), (by decide : 4 + 0 ≤ _)⟩)
        dsimp only [Pt.U, Pt.locs, Pt.cells, Pt.slots] at X21 l21 y21 z21 st21 hQ21
        subst l21 y21 z21
        obtain ⟨⟨x21, rfl, G21a, G21b⟩, N21q, K21q⟩ := hQ21
        have N21 := Fr.app N18 N21q
        have O_38 := O_31.keep K21q all0
        have f39 := f32.keep K21q
        have f40 := f33.keep K21q
        have f41 := f34.keep K21q nin0
        have f42 := f35.keep K21q
        have f43 := f36.keep K21q nin0
        have f44 := G17a.keep K21q
        have f45 := G17b.keep K21q nin0
        have Zs46 := Nat.le_trans Zs37 K21q.1
        refine Go.on (B := T21.setTop (mkF m 213 #[.val (.int p1), .val (.int p2), .val (.int p3), .val (.int p4), .val (.ref b1), .val (.ref t3), .val (.ref t4), .val (.int v26_5), .val (.ref x7), .val (.ref x9), .val (.int (1 : Int32))] [(.ref x21), (.int (1 : Int32))])) (fun t k => st21.trans k) ?_
        obtain ⟨cq22, kq22, q22a, q22b, q22c⟩ := isOf hZ rfl G21a
        obtain ⟨_, _, ⟨T22, L22, k22, n22⟩, -, X22, ⟨Lc22, hQ22, l22, y22, z22⟩, st22⟩ := X21.virtualBack hx (y := (⟨"java/lang/Long", "longValue", "()J"⟩ : MethodName)) (z := (⟨"java/lang/Long", "longValue", "()J"⟩ : MethodName)) hown (mvT hZ (hw _ (List.mem_of_getElem? (i := 48) rfl))) (mvT hZ (hw _ (List.mem_of_getElem? (i := 49) rfl))) (notFace_of_selects (args := #[]) (mvT hZ (hw _ (List.mem_of_getElem? (i := 51) rfl)))) (mvT hZ (hw _ (List.mem_of_getElem? (i := 51) rfl))) (mvT hZ (hw _ (List.mem_of_getElem? (i := 50) rfl))) (by decide) (backOf (W := 1) (rval l Z a0 hw [] x21 (1 : Int64) T21.heap n0 Zs46 G21b) hZ (hw _ (List.mem_of_getElem? (i := 52) rfl)) (hw _ (List.mem_of_getElem? (i := 42) rfl)) (by decide) (by decide)) q22a q22c (g := (mkF m 213 #[.val (.int p1), .val (.int p2), .val (.int p3), .val (.int p4), .val (.ref b1), .val (.ref t3), .val (.ref t4), .val (.int v26_5), .val (.ref x7), .val (.ref x9), .val (.int (1 : Int32))] [(.ref x21), (.int (1 : Int32))])) rfl (by rw [hml]; rfl) (Steps.refl _) (argsL := []) (rest := [(.int (1 : Int32))]) (lenOf pd_7 rfl) rfl (by show 2 * 0 + _ ≤ _; exact Nat.le_of_eq rfl) (hb hby at_213) (fun _ _ => ⟨rfl, rfl, (by decide : 5 + 0 ≤ _), (by decide : 4 + 0 ≤ _)⟩)
        dsimp only [Pt.U, Pt.locs, Pt.cells, Pt.slots] at X22 l22 y22 z22 st22 hQ22
        subst l22 y22 z22
        obtain ⟨rfl, N22q, e22q⟩ := hQ22
        have N22 := Fr.app N21 N22q
        refine Go.on (B := T22.setTop (mkF m 216 #[.val (.int p1), .val (.int p2), .val (.int p3), .val (.int p4), .val (.ref b1), .val (.ref t3), .val (.ref t4), .val (.int v26_5), .val (.ref x7), .val (.ref x9), .val (.int (1 : Int32))] [(.long (1 : Int64)), (.int (1 : Int32))])) (fun t k => st22.trans k) ?_
        refine Go.on (B := T22.setTop (mkF m 217 #[.val (.int p1), .val (.int p2), .val (.int p3), .val (.int p4), .val (.ref b1), .val (.ref t3), .val (.ref t4), .val (.int v26_5), .val (.ref x7), .val (.ref x9), .val (.int (1 : Int32))] [(.long (1 : Int64)), (.long (1 : Int64)), (.int (1 : Int32))])) (fun t k => XS.lconst X22.here hx rfl (hb hby at_216) k) ?_
        refine Go.on (B := T22.setTop (mkF m 218 #[.val (.int p1), .val (.int p2), .val (.int p3), .val (.int p4), .val (.ref b1), .val (.ref t3), .val (.ref t4), .val (.int v26_5), .val (.ref x7), .val (.ref x9), .val (.int (1 : Int32))] [(.int (lcmpW (1 : Int64) (1 : Int64))), (.int (1 : Int32))])) (fun t k => XS.lcmp X22.here hx rfl (hb hby at_217) rfl k) ?_
        have hc218_23 : (1 : Int64) = (1 : Int64) := by decide
        refine Go.on (B := T22.setTop (mkF m 221 #[.val (.int p1), .val (.int p2), .val (.int p3), .val (.int p4), .val (.ref b1), .val (.ref t3), .val (.ref t4), .val (.int v26_5), .val (.ref x7), .val (.ref x9), .val (.int (1 : Int32))] [(.int (1 : Int32))])) (fun t k => XS.ifNo X22.here hx rfl (hb hby at_218) rfl ((if0 _ _).trans (teq ((lw_eq _ _).mpr hc218_23)).2) k) ?_
        refine Go.on (B := T22.setTop (mkF m 222 #[.val (.int p1), .val (.int p2), .val (.int p3), .val (.int p4), .val (.ref b1), .val (.ref t3), .val (.ref t4), .val (.int v26_5), .val (.ref x7), .val (.ref x9), .val (.int (1 : Int32))] [(.int (1 : Int32)), (.int (1 : Int32))])) (fun t k => XS.iconst X22.here hx rfl (hb hby at_221) k) ?_
        refine Go.on (B := T22.setTop (mkF m 226 #[.val (.int p1), .val (.int p2), .val (.int p3), .val (.int p4), .val (.ref b1), .val (.ref t3), .val (.ref t4), .val (.int v26_5), .val (.ref x7), .val (.ref x9), .val (.int (1 : Int32))] [(.int (1 : Int32)), (.int (1 : Int32))])) (fun t k => XS.goto X22.here hx rfl (pc0 := 222) (pc' := 226) rfl (hb hby at_222) (by decide) (by decide) k) ?_
        refine Go.on (B := T22.setTop (mkF m 227 #[.val (.int p1), .val (.int p2), .val (.int p3), .val (.int p4), .val (.ref b1), .val (.ref t3), .val (.ref t4), .val (.int v26_5), .val (.ref x7), .val (.ref x9), .val (.int (1 : Int32))] [(.int ((1 : Int32) &&& (1 : Int32)))])) (fun t k => XS.iand X22.here hx rfl (hb hby at_226) rfl k) ?_
        rw [show ((1 : Int32) &&& (1 : Int32)) = (1 : Int32) from by decide]
        refine Go.on (B := T22.setTop (mkF m 229 #[.val (.int p1), .val (.int p2), .val (.int p3), .val (.int p4), .val (.ref b1), .val (.ref t3), .val (.ref t4), .val (.int v26_5), .val (.ref x7), .val (.ref x9), .val (.int (1 : Int32))] [])) (fun t k => XS.istore X22.here hx rfl (hb hby at_227) rfl (l' := #[.val (.int p1), .val (.int p2), .val (.int p3), .val (.int p4), .val (.ref b1), .val (.ref t3), .val (.ref t4), .val (.int v26_5), .val (.ref x7), .val (.ref x9), .val (.int (1 : Int32))]) rfl k) ?_
        refine Go.on (B := T22.setTop (mkF m 231 #[.val (.int p1), .val (.int p2), .val (.int p3), .val (.int p4), .val (.ref b1), .val (.ref t3), .val (.ref t4), .val (.int v26_5), .val (.ref x7), .val (.ref x9), .val (.int (1 : Int32))] [(.int (1 : Int32))])) (fun t k => XS.iload X22.here hx rfl (hb hby at_229) rfl k) ?_
        obtain ⟨fs, hr, hrun, hended, hW, hsame⟩ := X22.leave (v := some (.int (1 : Int32))) (fun h => by rw [Bd.returns] at h; cases h)
        refine ⟨_, _, ?_, hrun, hended, _, _, rfl, ?_, ⟨_, rfl⟩, hW, hsame.mono (by decide) (by decide)⟩
        · exact retN X22 hx (t := .boolean) Bd.returns (by simp) (hb hby at_231) hr
        · show Q_rm0 Z p1 p2 p3 p4 ca cc ica icc h0 n0 _ T22.heap _
          rw [e22q]
          exact ⟨rfl, N22⟩
      · refine Go.on (B := T9.setTop (mkF m 69 #[.val (.int p1), .val (.int p2), .val (.int p3), .val (.int p4), .val (.ref b1), .val (.ref t3), .val (.ref t4), .val (.int v26_5), .val (.ref x7), .val (.ref x9), .val (.int (1 : Int32))] [])) (fun t k => XS.icmpNo X9.here hx rfl (hb hby at_66) rfl (flt hc66_11).1 k) ?_
        refine Go.on (B := T9.setTop (mkF m 71 #[.val (.int p1), .val (.int p2), .val (.int p3), .val (.int p4), .val (.ref b1), .val (.ref t3), .val (.ref t4), .val (.int v26_5), .val (.ref x7), .val (.ref x9), .val (.int (1 : Int32))] [(.int (1 : Int32))])) (fun t k => XS.iload X9.here hx rfl (hb hby at_69) rfl k) ?_
        refine Go.on (B := T9.setTop (mkF m 73 #[.val (.int p1), .val (.int p2), .val (.int p3), .val (.int p4), .val (.ref b1), .val (.ref t3), .val (.ref t4), .val (.int v26_5), .val (.ref x7), .val (.ref x9), .val (.int (1 : Int32))] [(.ref b1), (.int (1 : Int32))])) (fun t k => XS.aload X9.here hx rfl (hb hby at_71) rfl rfl k) ?_
        refine Go.on (B := T9.setTop (mkF m 75 #[.val (.int p1), .val (.int p2), .val (.int p3), .val (.int p4), .val (.ref b1), .val (.ref t3), .val (.ref t4), .val (.int v26_5), .val (.ref x7), .val (.ref x9), .val (.int (1 : Int32))] [(.ref x7), (.ref b1), (.int (1 : Int32))])) (fun t k => XS.aload X9.here hx rfl (hb hby at_73) rfl rfl k) ?_
        refine Go.on (B := T9.setTop (mkF m 77 #[.val (.int p1), .val (.int p2), .val (.int p3), .val (.int p4), .val (.ref b1), .val (.ref t3), .val (.ref t4), .val (.int v26_5), .val (.ref x7), .val (.ref x9), .val (.int (1 : Int32))] [(.ref t3), (.ref x7), (.ref b1), (.int (1 : Int32))])) (fun t k => XS.aload X9.here hx rfl (hb hby at_75) rfl rfl k) ?_
        obtain ⟨cq25, kq25, q25a, q25b, q25c⟩ := isOf hZ rfl f19
        obtain ⟨_, _, ⟨T25, L25, k25, n25⟩, -, X25, ⟨Lc25, hQ25, l25, y25, z25⟩, st25⟩ := X9.virtualBack hx (y := (⟨"com/example/tailrace/tailrace/cli/Count", "add", "(Ljava/lang/Object;Lcom/example/tailrace/tailrace/cli/Count$Tally;)Lcom/example/tailrace/tailrace/cli/Count$Tally;"⟩ : MethodName)) (z := (⟨"com/example/tailrace/tailrace/cli/Count", "add", "(Ljava/lang/Object;Lcom/example/tailrace/tailrace/cli/Count$Tally;)Lcom/example/tailrace/tailrace/cli/Count$Tally;"⟩ : MethodName)) hown (mvT hZ (hw _ (List.mem_of_getElem? (i := 28) rfl))) (mvT hZ (hw _ (List.mem_of_getElem? (i := 29) rfl))) (notFace_of_selects (args := #[]) (mvT hZ (hw _ (List.mem_of_getElem? (i := 31) rfl)))) (mvT hZ (hw _ (List.mem_of_getElem? (i := 31) rfl))) (mvT hZ (hw _ (List.mem_of_getElem? (i := 30) rfl))) (by decide) (backOf (W := 1) (radd1 l Z a0 hw [] b1 x7 t3 (0 : Int64) T9.heap n0 Zs24 f20 f21 ge_t3) hZ (hw _ (List.mem_of_getElem? (i := 32) rfl)) (hw _ (List.mem_of_getElem? (i := 2) rfl)) (by decide) (by decide)) q25a q25c (g := (mkF m 77 #[.val (.int p1), .val (.int p2), .val (.int p3), .val (.int p4), .val (.ref b1), .val (.ref t3), .val (.ref t4), .val (.int v26_5), .val (.ref x7), .val (.ref x9), .val (.int (1 : Int32))] [(.ref t3), (.ref x7), (.ref b1), (.int (1 : Int32))])) rfl (by rw [hml]; rfl) (Steps.refl _) (argsL := [(.ref x7), (.ref t3)]) (rest := [(.int (1 : Int32))]) (lenOf pd_5 rfl) rfl (by show 2 * 0 + _ ≤ _; exact Nat.le_of_eq rfl) (hb hby at_77) (fun _ _ => ⟨rfl, rfl, (by decide : 5 + 0 ≤ _), (by decide : 4 + 0 ≤ _)⟩)
        dsimp only [Pt.U, Pt.locs, Pt.cells, Pt.slots] at X25 l25 y25 z25 st25 hQ25
        subst l25 y25 z25
        obtain ⟨rfl, N25q, K25q, G25a, G25b⟩ := hQ25
        have N25 := Fr.app N9 N25q
        have O_47 := O_18.keep K25q (allS ge_t3 all0)
        have f48 := f19.keep K25q
        have f49 := f20.keep K25q
        have f50 := f22.keep K25q
        have f51 := f23.keep K25q (ninS (Ne.symm ne_t3_t4) nin0)
        have Zs52 := Nat.le_trans Zs24 K25q.1
        rw [show ((0 : Int64) + (1 : Int64)) = (1 : Int64) from by decide] at G25b
        refine Go.on (B := T25.setTop (mkF m 80 #[.val (.int p1), .val (.int p2), .val (.int p3), .val (.int p4), .val (.ref b1), .val (.ref t3), .val (.ref t4), .val (.int v26_5), .val (.ref x7), .val (.ref x9), .val (.int (1 : Int32))] [(.ref t3), (.int (1 : Int32))])) (fun t k => st25.trans k) ?_
        refine Go.on (B := T25.setTop (mkF m 82 #[.val (.int p1), .val (.int p2), .val (.int p3), .val (.int p4), .val (.ref b1), .val (.ref t3), .val (.ref t4), .val (.int v26_5), .val (.ref x7), .val (.ref x9), .val (.int (1 : Int32))] [(.ref t3), (.ref t3), (.int (1 : Int32))])) (fun t k => XS.aload X25.here hx rfl (hb hby at_80) rfl rfl k) ?_
        refine Go.on (B := T25.setTop (mkF m 85 #[.val (.int p1), .val (.int p2), .val (.int p3), .val (.int p4), .val (.ref b1), .val (.ref t3), .val (.ref t4), .val (.int v26_5), .val (.ref x7), .val (.ref x9), .val (.int (1 : Int32))] [(.int (1 : Int32))])) (fun t k => Jvm.RoadKit.acmp (g := (mkF m 82 #[.val (.int p1), .val (.int p2), .val (.int p3), .val (.int p4), .val (.ref b1), .val (.ref t3), .val (.ref t4), .val (.int v26_5), .val (.ref x7), .val (.ref x9), .val (.int (1 : Int32))] [(.ref t3), (.ref t3), (.int (1 : Int32))])) X25 hx rfl rfl rfl (pc0 := 82) (pc' := 85) (same := true) rfl (hb hby at_82) rfl (decide_eq_true rfl) (by decide) (by decide) k) ?_
        refine Go.on (B := T25.setTop (mkF m 86 #[.val (.int p1), .val (.int p2), .val (.int p3), .val (.int p4), .val (.ref b1), .val (.ref t3), .val (.ref t4), .val (.int v26_5), .val (.ref x7), .val (.ref x9), .val (.int (1 : Int32))] [(.int (1 : Int32)), (.int (1 : Int32))])) (fun t k => XS.iconst X25.here hx rfl (hb hby at_85) k) ?_
        refine Go.on (B := T25.setTop (mkF m 90 #[.val (.int p1), .val (.int p2), .val (.int p3), .val (.int p4), .val (.ref b1), .val (.ref t3), .val (.ref t4), .val (.int v26_5), .val (.ref x7), .val (.ref x9), .val (.int (1 : Int32))] [(.int (1 : Int32)), (.int (1 : Int32))])) (fun t k => XS.goto X25.here hx rfl (pc0 := 86) (pc' := 90) rfl (hb hby at_86) (by decide) (by decide) k) ?_
        refine Go.on (B := T25.setTop (mkF m 91 #[.val (.int p1), .val (.int p2), .val (.int p3), .val (.int p4), .val (.ref b1), .val (.ref t3), .val (.ref t4), .val (.int v26_5), .val (.ref x7), .val (.ref x9), .val (.int (1 : Int32))] [(.int ((1 : Int32) &&& (1 : Int32)))])) (fun t k => XS.iand X25.here hx rfl (hb hby at_90) rfl k) ?_
        rw [show ((1 : Int32) &&& (1 : Int32)) = (1 : Int32) from by decide]
        refine Go.on (B := T25.setTop (mkF m 93 #[.val (.int p1), .val (.int p2), .val (.int p3), .val (.int p4), .val (.ref b1), .val (.ref t3), .val (.ref t4), .val (.int v26_5), .val (.ref x7), .val (.ref x9), .val (.int (1 : Int32))] [])) (fun t k => XS.istore X25.here hx rfl (hb hby at_91) rfl (l' := #[.val (.int p1), .val (.int p2), .val (.int p3), .val (.int p4), .val (.ref b1), .val (.ref t3), .val (.ref t4), .val (.int v26_5), .val (.ref x7), .val (.ref x9), .val (.int (1 : Int32))]) rfl k) ?_
        refine Go.on (B := T25.setTop (mkF m 95 #[.val (.int p1), .val (.int p2), .val (.int p3), .val (.int p4), .val (.ref b1), .val (.ref t3), .val (.ref t4), .val (.int v26_5), .val (.ref x7), .val (.ref x9), .val (.int (1 : Int32))] [(.int v26_5)])) (fun t k => XS.iload X25.here hx rfl (hb hby at_93) rfl k) ?_
        refine Go.on (B := T25.setTop (mkF m 96 #[.val (.int p1), .val (.int p2), .val (.int p3), .val (.int p4), .val (.ref b1), .val (.ref t3), .val (.ref t4), .val (.int v26_5), .val (.ref x7), .val (.ref x9), .val (.int (1 : Int32))] [(.int (2 : Int32)), (.int v26_5)])) (fun t k => XS.iconst X25.here hx rfl (hb hby at_95) k) ?_
        by_cases hc96_28 : v26_5 < (2 : Int32)
        · refine Go.on (B := T25.setTop (mkF m 123 #[.val (.int p1), .val (.int p2), .val (.int p3), .val (.int p4), .val (.ref b1), .val (.ref t3), .val (.ref t4), .val (.int v26_5), .val (.ref x7), .val (.ref x9), .val (.int (1 : Int32))] [])) (fun t k => XS.icmpYes X25.here hx rfl (pc0 := 96) (pc' := 123) rfl (hb hby at_96) rfl (tlt hc96_28).1 (by decide) (by decide) k) ?_
          refine Go.on (B := T25.setTop (mkF m 125 #[.val (.int p1), .val (.int p2), .val (.int p3), .val (.int p4), .val (.ref b1), .val (.ref t3), .val (.ref t4), .val (.int v26_5), .val (.ref x7), .val (.ref x9), .val (.int (1 : Int32))] [(.int v26_5)])) (fun t k => XS.iload X25.here hx rfl (hb hby at_123) rfl k) ?_
          refine Go.on (B := T25.setTop (mkF m 126 #[.val (.int p1), .val (.int p2), .val (.int p3), .val (.int p4), .val (.ref b1), .val (.ref t3), .val (.ref t4), .val (.int v26_5), .val (.ref x7), .val (.ref x9), .val (.int (1 : Int32))] [(.int (3 : Int32)), (.int v26_5)])) (fun t k => XS.iconst X25.here hx rfl (hb hby at_125) k) ?_
          have hc126_29 : v26_5 < (3 : Int32) := own_up2 hc96_28 (by decide)
          refine Go.on (B := T25.setTop (mkF m 153 #[.val (.int p1), .val (.int p2), .val (.int p3), .val (.int p4), .val (.ref b1), .val (.ref t3), .val (.ref t4), .val (.int v26_5), .val (.ref x7), .val (.ref x9), .val (.int (1 : Int32))] [])) (fun t k => XS.icmpYes X25.here hx rfl (pc0 := 126) (pc' := 153) rfl (hb hby at_126) rfl (tlt hc126_29).1 (by decide) (by decide) k) ?_
          refine Go.on (B := T25.setTop (mkF m 155 #[.val (.int p1), .val (.int p2), .val (.int p3), .val (.int p4), .val (.ref b1), .val (.ref t3), .val (.ref t4), .val (.int v26_5), .val (.ref x7), .val (.ref x9), .val (.int (1 : Int32))] [(.int (1 : Int32))])) (fun t k => XS.iload X25.here hx rfl (hb hby at_153) rfl k) ?_
          refine Go.on (B := T25.setTop (mkF m 157 #[.val (.int p1), .val (.int p2), .val (.int p3), .val (.int p4), .val (.ref b1), .val (.ref t3), .val (.ref t4), .val (.int v26_5), .val (.ref x7), .val (.ref x9), .val (.int (1 : Int32))] [(.ref b1), (.int (1 : Int32))])) (fun t k => XS.aload X25.here hx rfl (hb hby at_155) rfl rfl k) ?_
          refine Go.on (B := T25.setTop (mkF m 159 #[.val (.int p1), .val (.int p2), .val (.int p3), .val (.int p4), .val (.ref b1), .val (.ref t3), .val (.ref t4), .val (.int v26_5), .val (.ref x7), .val (.ref x9), .val (.int (1 : Int32))] [(.ref x9), (.ref b1), (.int (1 : Int32))])) (fun t k => XS.aload X25.here hx rfl (hb hby at_157) rfl rfl k) ?_
          refine Go.on (B := T25.setTop (mkF m 161 #[.val (.int p1), .val (.int p2), .val (.int p3), .val (.int p4), .val (.ref b1), .val (.ref t3), .val (.ref t4), .val (.int v26_5), .val (.ref x7), .val (.ref x9), .val (.int (1 : Int32))] [(.ref t4), (.ref x9), (.ref b1), (.int (1 : Int32))])) (fun t k => XS.aload X25.here hx rfl (hb hby at_159) rfl rfl k) ?_
          obtain ⟨cq30, kq30, q30a, q30b, q30c⟩ := isOf hZ rfl f48
          obtain ⟨_, _, ⟨T30, L30, k30, n30⟩, -, X30, ⟨Lc30, hQ30, l30, y30, z30⟩, st30⟩ := X25.virtualBack hx (y := (⟨"com/example/tailrace/tailrace/cli/Count", "add", "(Ljava/lang/Object;Lcom/example/tailrace/tailrace/cli/Count$Tally;)Lcom/example/tailrace/tailrace/cli/Count$Tally;"⟩ : MethodName)) (z := (⟨"com/example/tailrace/tailrace/cli/Count", "add", "(Ljava/lang/Object;Lcom/example/tailrace/tailrace/cli/Count$Tally;)Lcom/example/tailrace/tailrace/cli/Count$Tally;"⟩ : MethodName)) hown (mvT hZ (hw _ (List.mem_of_getElem? (i := 28) rfl))) (mvT hZ (hw _ (List.mem_of_getElem? (i := 29) rfl))) (notFace_of_selects (args := #[]) (mvT hZ (hw _ (List.mem_of_getElem? (i := 31) rfl)))) (mvT hZ (hw _ (List.mem_of_getElem? (i := 31) rfl))) (mvT hZ (hw _ (List.mem_of_getElem? (i := 30) rfl))) (by decide) (backOf (W := 1) (radd1 l Z a0 hw [] b1 x9 t4 (0 : Int64) T25.heap n0 Zs52 f50 f51 ge_t4) hZ (hw _ (List.mem_of_getElem? (i := 32) rfl)) (hw _ (List.mem_of_getElem? (i := 2) rfl)) (by decide) (by decide)) q30a q30c (g := (mkF m 161 #[.val (.int p1), .val (.int p2), .val (.int p3), .val (.int p4), .val (.ref b1), .val (.ref t3), .val (.ref t4), .val (.int v26_5), .val (.ref x7), .val (.ref x9), .val (.int (1 : Int32))] [(.ref t4), (.ref x9), (.ref b1), (.int (1 : Int32))])) rfl (by rw [hml]; rfl) (Steps.refl _) (argsL := [(.ref x9), (.ref t4)]) (rest := [(.int (1 : Int32))]) (lenOf pd_5 rfl) rfl (by show 2 * 0 + _ ≤ _; exact Nat.le_of_eq rfl) (hb hby at_161) (fun _ _ => ⟨rfl, rfl, (by decide : 5 + 0 ≤ _), (by decide : 4 + 0 ≤ _)⟩)
          dsimp only [Pt.U, Pt.locs, Pt.cells, Pt.slots] at X30 l30 y30 z30 st30 hQ30
          subst l30 y30 z30
          obtain ⟨rfl, N30q, K30q, G30a, G30b⟩ := hQ30
          have N30 := Fr.app N25 N30q
          have O_53 := O_47.keep K30q (allS ge_t4 all0)
          have f54 := f48.keep K30q
          have f55 := G25a.keep K30q
          have f56 := f50.keep K30q
          have f57 := G25b.keep K30q (ninS ne_t3_t4 nin0)
          have Zs58 := Nat.le_trans Zs52 K30q.1
          rw [show ((0 : Int64) + (1 : Int64)) = (1 : Int64) from by decide] at G30b
          refine Go.on (B := T30.setTop (mkF m 164 #[.val (.int p1), .val (.int p2), .val (.int p3), .val (.int p4), .val (.ref b1), .val (.ref t3), .val (.ref t4), .val (.int v26_5), .val (.ref x7), .val (.ref x9), .val (.int (1 : Int32))] [(.ref t4), (.int (1 : Int32))])) (fun t k => st30.trans k) ?_
          refine Go.on (B := T30.setTop (mkF m 166 #[.val (.int p1), .val (.int p2), .val (.int p3), .val (.int p4), .val (.ref b1), .val (.ref t3), .val (.ref t4), .val (.int v26_5), .val (.ref x7), .val (.ref x9), .val (.int (1 : Int32))] [(.ref t4), (.ref t4), (.int (1 : Int32))])) (fun t k => XS.aload X30.here hx rfl (hb hby at_164) rfl rfl k) ?_
          refine Go.on (B := T30.setTop (mkF m 169 #[.val (.int p1), .val (.int p2), .val (.int p3), .val (.int p4), .val (.ref b1), .val (.ref t3), .val (.ref t4), .val (.int v26_5), .val (.ref x7), .val (.ref x9), .val (.int (1 : Int32))] [(.int (1 : Int32))])) (fun t k => Jvm.RoadKit.acmp (g := (mkF m 166 #[.val (.int p1), .val (.int p2), .val (.int p3), .val (.int p4), .val (.ref b1), .val (.ref t3), .val (.ref t4), .val (.int v26_5), .val (.ref x7), .val (.ref x9), .val (.int (1 : Int32))] [(.ref t4), (.ref t4), (.int (1 : Int32))])) X30 hx rfl rfl rfl (pc0 := 166) (pc' := 169) (same := true) rfl (hb hby at_166) rfl (decide_eq_true rfl) (by decide) (by decide) k) ?_
          refine Go.on (B := T30.setTop (mkF m 170 #[.val (.int p1), .val (.int p2), .val (.int p3), .val (.int p4), .val (.ref b1), .val (.ref t3), .val (.ref t4), .val (.int v26_5), .val (.ref x7), .val (.ref x9), .val (.int (1 : Int32))] [(.int (1 : Int32)), (.int (1 : Int32))])) (fun t k => XS.iconst X30.here hx rfl (hb hby at_169) k) ?_
          refine Go.on (B := T30.setTop (mkF m 174 #[.val (.int p1), .val (.int p2), .val (.int p3), .val (.int p4), .val (.ref b1), .val (.ref t3), .val (.ref t4), .val (.int v26_5), .val (.ref x7), .val (.ref x9), .val (.int (1 : Int32))] [(.int (1 : Int32)), (.int (1 : Int32))])) (fun t k => XS.goto X30.here hx rfl (pc0 := 170) (pc' := 174) rfl (hb hby at_170) (by decide) (by decide) k) ?_
          refine Go.on (B := T30.setTop (mkF m 175 #[.val (.int p1), .val (.int p2), .val (.int p3), .val (.int p4), .val (.ref b1), .val (.ref t3), .val (.ref t4), .val (.int v26_5), .val (.ref x7), .val (.ref x9), .val (.int (1 : Int32))] [(.int ((1 : Int32) &&& (1 : Int32)))])) (fun t k => XS.iand X30.here hx rfl (hb hby at_174) rfl k) ?_
          rw [show ((1 : Int32) &&& (1 : Int32)) = (1 : Int32) from by decide]
          refine Go.on (B := T30.setTop (mkF m 177 #[.val (.int p1), .val (.int p2), .val (.int p3), .val (.int p4), .val (.ref b1), .val (.ref t3), .val (.ref t4), .val (.int v26_5), .val (.ref x7), .val (.ref x9), .val (.int (1 : Int32))] [])) (fun t k => XS.istore X30.here hx rfl (hb hby at_175) rfl (l' := #[.val (.int p1), .val (.int p2), .val (.int p3), .val (.int p4), .val (.ref b1), .val (.ref t3), .val (.ref t4), .val (.int v26_5), .val (.ref x7), .val (.ref x9), .val (.int (1 : Int32))]) rfl k) ?_
          refine Go.on (B := T30.setTop (mkF m 179 #[.val (.int p1), .val (.int p2), .val (.int p3), .val (.int p4), .val (.ref b1), .val (.ref t3), .val (.ref t4), .val (.int v26_5), .val (.ref x7), .val (.ref x9), .val (.int (1 : Int32))] [(.int (1 : Int32))])) (fun t k => XS.iload X30.here hx rfl (hb hby at_177) rfl k) ?_
          refine Go.on (B := T30.setTop (mkF m 181 #[.val (.int p1), .val (.int p2), .val (.int p3), .val (.int p4), .val (.ref b1), .val (.ref t3), .val (.ref t4), .val (.int v26_5), .val (.ref x7), .val (.ref x9), .val (.int (1 : Int32))] [(.ref b1), (.int (1 : Int32))])) (fun t k => XS.aload X30.here hx rfl (hb hby at_179) rfl rfl k) ?_
          refine Go.on (B := T30.setTop (mkF m 183 #[.val (.int p1), .val (.int p2), .val (.int p3), .val (.int p4), .val (.ref b1), .val (.ref t3), .val (.ref t4), .val (.int v26_5), .val (.ref x7), .val (.ref x9), .val (.int (1 : Int32))] [(.ref t3), (.ref b1), (.int (1 : Int32))])) (fun t k => XS.aload X30.here hx rfl (hb hby at_181) rfl rfl k) ?_
          obtain ⟨cq33, kq33, q33a, q33b, q33c⟩ := isOf hZ rfl f54
          obtain ⟨_, _, ⟨T33, L33, k33, n33⟩, -, X33, ⟨Lc33, hQ33, l33, y33, z33⟩, st33⟩ := X30.virtualBack hx (y := (⟨"com/example/tailrace/tailrace/cli/Count", "getResult", "(Lcom/example/tailrace/tailrace/cli/Count$Tally;)Ljava/lang/Long;"⟩ : MethodName)) (z := (⟨"com/example/tailrace/tailrace/cli/Count", "getResult", "(Lcom/example/tailrace/tailrace/cli/Count$Tally;)Ljava/lang/Long;"⟩ : MethodName)) hown (mvT hZ (hw _ (List.mem_of_getElem? (i := 35) rfl))) (mvT hZ (hw _ (List.mem_of_getElem? (i := 36) rfl))) (notFace_of_selects (args := #[]) (mvT hZ (hw _ (List.mem_of_getElem? (i := 38) rfl)))) (mvT hZ (hw _ (List.mem_of_getElem? (i := 38) rfl))) (mvT hZ (hw _ (List.mem_of_getElem? (i := 37) rfl))) (by decide) (backOf (W := 1) (rgr l Z a0 hw [] b1 t3 (1 : Int64) ca cc T30.heap n0 Zs58 f57 O_53 S_cache B_cache (by decide) (by decide)) hZ (hw _ (List.mem_of_getElem? (i := 39) rfl)) (hw _ (List.mem_of_getElem? (i := 2) rfl)) (by decide) (by decide)) q33a q33c (g := (mkF m 183 #[.val (.int p1), .val (.int p2), .val (.int p3), .val (.int p4), .val (.ref b1), .val (.ref t3), .val (.ref t4), .val (.int v26_5), .val (.ref x7), .val (.ref x9), .val (.int (1 : Int32))] [(.ref t3), (.ref b1), (.int (1 : Int32))])) rfl (by rw [hml]; rfl) (Steps.refl _) (argsL := [(.ref t3)]) (rest := [(.int (1 : Int32))]) (lenOf pd_6 rfl) rfl (by show 2 * 0 + _ ≤ _; exact Nat.le_of_eq rfl) (hb hby at_183) (fun _ _ => ⟨rfl, rfl, (by decide : 5 + 0 ≤ _), (by decide : 4 + 0 ≤ _)⟩)
          dsimp only [Pt.U, Pt.locs, Pt.cells, Pt.slots] at X33 l33 y33 z33 st33 hQ33
          subst l33 y33 z33
          obtain ⟨⟨x33, rfl, G33a, G33b⟩, N33q, K33q⟩ := hQ33
          have N33 := Fr.app N30 N33q
          have O_59 := O_53.keep K33q all0
          have f60 := f54.keep K33q
          have f61 := f55.keep K33q
          have f62 := G30a.keep K33q
          have f63 := f57.keep K33q nin0
          have f64 := G30b.keep K33q nin0
          have Zs65 := Nat.le_trans Zs58 K33q.1
          refine Go.on (B := T33.setTop (mkF m 186 #[.val (.int p1), .val (.int p2), .val (.int p3), .val (.int p4), .val (.ref b1), .val (.ref t3), .val (.ref t4), .val (.int v26_5), .val (.ref x7), .val (.ref x9), .val (.int (1 : Int32))] [(.ref x33), (.int (1 : Int32))])) (fun t k => st33.trans k) ?_
          obtain ⟨cq34, kq34, q34a, q34b, q34c⟩ := isOf hZ rfl G33a
          obtain ⟨_, _, ⟨T34, L34, k34, n34⟩, -, X34, ⟨Lc34, hQ34, l34, y34, z34⟩, st34⟩ := X33.virtualBack hx (y := (⟨"java/lang/Long", "longValue", "()J"⟩ : MethodName)) (z := (⟨"java/lang/Long", "longValue", "()J"⟩ : MethodName)) hown (mvT hZ (hw _ (List.mem_of_getElem? (i := 48) rfl))) (mvT hZ (hw _ (List.mem_of_getElem? (i := 49) rfl))) (notFace_of_selects (args := #[]) (mvT hZ (hw _ (List.mem_of_getElem? (i := 51) rfl)))) (mvT hZ (hw _ (List.mem_of_getElem? (i := 51) rfl))) (mvT hZ (hw _ (List.mem_of_getElem? (i := 50) rfl))) (by decide) (backOf (W := 1) (rval l Z a0 hw [] x33 (1 : Int64) T33.heap n0 Zs65 G33b) hZ (hw _ (List.mem_of_getElem? (i := 52) rfl)) (hw _ (List.mem_of_getElem? (i := 42) rfl)) (by decide) (by decide)) q34a q34c (g := (mkF m 186 #[.val (.int p1), .val (.int p2), .val (.int p3), .val (.int p4), .val (.ref b1), .val (.ref t3), .val (.ref t4), .val (.int v26_5), .val (.ref x7), .val (.ref x9), .val (.int (1 : Int32))] [(.ref x33), (.int (1 : Int32))])) rfl (by rw [hml]; rfl) (Steps.refl _) (argsL := []) (rest := [(.int (1 : Int32))]) (lenOf pd_7 rfl) rfl (by show 2 * 0 + _ ≤ _; exact Nat.le_of_eq rfl) (hb hby at_186) (fun _ _ => ⟨rfl, rfl, (by decide : 5 + 0 ≤ _), (by decide : 4 + 0 ≤ _)⟩)
          dsimp only [Pt.U, Pt.locs, Pt.cells, Pt.slots] at X34 l34 y34 z34 st34 hQ34
          subst l34 y34 z34
          obtain ⟨rfl, N34q, e34q⟩ := hQ34
          have N34 := Fr.app N33 N34q
          refine Go.on (B := T34.setTop (mkF m 189 #[.val (.int p1), .val (.int p2), .val (.int p3), .val (.int p4), .val (.ref b1), .val (.ref t3), .val (.ref t4), .val (.int v26_5), .val (.ref x7), .val (.ref x9), .val (.int (1 : Int32))] [(.long (1 : Int64)), (.int (1 : Int32))])) (fun t k => st34.trans k) ?_
          refine Go.on (B := T34.setTop (mkF m 191 #[.val (.int p1), .val (.int p2), .val (.int p3), .val (.int p4), .val (.ref b1), .val (.ref t3), .val (.ref t4), .val (.int v26_5), .val (.ref x7), .val (.ref x9), .val (.int (1 : Int32))] [(.int v26_5), (.long (1 : Int64)), (.int (1 : Int32))])) (fun t k => XS.iload X34.here hx rfl (hb hby at_189) rfl k) ?_
          refine Go.on (B := T34.setTop (mkF m 192 #[.val (.int p1), .val (.int p2), .val (.int p3), .val (.int p4), .val (.ref b1), .val (.ref t3), .val (.ref t4), .val (.int v26_5), .val (.ref x7), .val (.ref x9), .val (.int (1 : Int32))] [(.long (v26_5.toInt64)), (.long (1 : Int64)), (.int (1 : Int32))])) (fun t k => XS.i2l X34.here hx rfl (hb hby at_191) rfl k) ?_
          refine Go.on (B := T34.setTop (mkF m 193 #[.val (.int p1), .val (.int p2), .val (.int p3), .val (.int p4), .val (.ref b1), .val (.ref t3), .val (.ref t4), .val (.int v26_5), .val (.ref x7), .val (.ref x9), .val (.int (1 : Int32))] [(.int (lcmpW (1 : Int64) (v26_5.toInt64))), (.int (1 : Int32))])) (fun t k => XS.lcmp X34.here hx rfl (hb hby at_192) rfl k) ?_
          have hc193_35 : (1 : Int64) = (v26_5.toInt64) := by
            have q := own_n3 _ _ hv26_5
            have u0 := hc66_11
            rw [Int32.lt_iff_toInt_lt, show (1 : Int32).toInt = 1 from by decide] at u0
            have u1 := hc96_28
            rw [Int32.lt_iff_toInt_lt, show (2 : Int32).toInt = 2 from by decide] at u1
            have u2 := hc126_29
            rw [Int32.lt_iff_toInt_lt, show (3 : Int32).toInt = 3 from by decide] at u2
            exact own_is 1 (by omega) (by decide)
          refine Go.on (B := T34.setTop (mkF m 196 #[.val (.int p1), .val (.int p2), .val (.int p3), .val (.int p4), .val (.ref b1), .val (.ref t3), .val (.ref t4), .val (.int v26_5), .val (.ref x7), .val (.ref x9), .val (.int (1 : Int32))] [(.int (1 : Int32))])) (fun t k => XS.ifNo X34.here hx rfl (hb hby at_193) rfl ((if0 _ _).trans (teq ((lw_eq _ _).mpr hc193_35)).2) k) ?_
          refine Go.on (B := T34.setTop (mkF m 197 #[.val (.int p1), .val (.int p2), .val (.int p3), .val (.int p4), .val (.ref b1), .val (.ref t3), .val (.ref t4), .val (.int v26_5), .val (.ref x7), .val (.ref x9), .val (.int (1 : Int32))] [(.int (1 : Int32)), (.int (1 : Int32))])) (fun t k => XS.iconst X34.here hx rfl (hb hby at_196) k) ?_
          refine Go.on (B := T34.setTop (mkF m 201 #[.val (.int p1), .val (.int p2), .val (.int p3), .val (.int p4), .val (.ref b1), .val (.ref t3), .val (.ref t4), .val (.int v26_5), .val (.ref x7), .val (.ref x9), .val (.int (1 : Int32))] [(.int (1 : Int32)), (.int (1 : Int32))])) (fun t k => XS.goto X34.here hx rfl (pc0 := 197) (pc' := 201) rfl (hb hby at_197) (by decide) (by decide) k) ?_
          refine Go.on (B := T34.setTop (mkF m 202 #[.val (.int p1), .val (.int p2), .val (.int p3), .val (.int p4), .val (.ref b1), .val (.ref t3), .val (.ref t4), .val (.int v26_5), .val (.ref x7), .val (.ref x9), .val (.int (1 : Int32))] [(.int ((1 : Int32) &&& (1 : Int32)))])) (fun t k => XS.iand X34.here hx rfl (hb hby at_201) rfl k) ?_
          rw [show ((1 : Int32) &&& (1 : Int32)) = (1 : Int32) from by decide]
          refine Go.on (B := T34.setTop (mkF m 204 #[.val (.int p1), .val (.int p2), .val (.int p3), .val (.int p4), .val (.ref b1), .val (.ref t3), .val (.ref t4), .val (.int v26_5), .val (.ref x7), .val (.ref x9), .val (.int (1 : Int32))] [])) (fun t k => XS.istore X34.here hx rfl (hb hby at_202) rfl (l' := #[.val (.int p1), .val (.int p2), .val (.int p3), .val (.int p4), .val (.ref b1), .val (.ref t3), .val (.ref t4), .val (.int v26_5), .val (.ref x7), .val (.ref x9), .val (.int (1 : Int32))]) rfl k) ?_
          refine Go.on (B := T34.setTop (mkF m 206 #[.val (.int p1), .val (.int p2), .val (.int p3), .val (.int p4), .val (.ref b1), .val (.ref t3), .val (.ref t4), .val (.int v26_5), .val (.ref x7), .val (.ref x9), .val (.int (1 : Int32))] [(.int (1 : Int32))])) (fun t k => XS.iload X34.here hx rfl (hb hby at_204) rfl k) ?_
          refine Go.on (B := T34.setTop (mkF m 208 #[.val (.int p1), .val (.int p2), .val (.int p3), .val (.int p4), .val (.ref b1), .val (.ref t3), .val (.ref t4), .val (.int v26_5), .val (.ref x7), .val (.ref x9), .val (.int (1 : Int32))] [(.ref b1), (.int (1 : Int32))])) (fun t k => XS.aload X34.here hx rfl (hb hby at_206) rfl rfl k) ?_
          refine Go.on (B := T34.setTop (mkF m 210 #[.val (.int p1), .val (.int p2), .val (.int p3), .val (.int p4), .val (.ref b1), .val (.ref t3), .val (.ref t4), .val (.int v26_5), .val (.ref x7), .val (.ref x9), .val (.int (1 : Int32))] [(.ref t4), (.ref b1), (.int (1 : Int32))])) (fun t k => XS.aload X34.here hx rfl (hb hby at_208) rfl rfl k) ?_
          obtain ⟨cq37, kq37, q37a, q37b, q37c⟩ := isOf hZ e34q f60
          obtain ⟨_, _, ⟨T37, L37, k37, n37⟩, -, X37, ⟨Lc37, hQ37, l37, y37, z37⟩, st37⟩ := X34.virtualBack hx (y := (⟨"com/example/tailrace/tailrace/cli/Count", "getResult", "(Lcom/example/tailrace/tailrace/cli/Count$Tally;)Ljava/lang/Long;"⟩ : MethodName)) (z := (⟨"com/example/tailrace/tailrace/cli/Count", "getResult", "(Lcom/example/tailrace/tailrace/cli/Count$Tally;)Ljava/lang/Long;"⟩ : MethodName)) hown (mvT hZ (hw _ (List.mem_of_getElem? (i := 35) rfl))) (mvT hZ (hw _ (List.mem_of_getElem? (i := 36) rfl))) (notFace_of_selects (args := #[]) (mvT hZ (hw _ (List.mem_of_getElem? (i := 38) rfl)))) (mvT hZ (hw _ (List.mem_of_getElem? (i := 38) rfl))) (mvT hZ (hw _ (List.mem_of_getElem? (i := 37) rfl))) (by decide) (backOf (W := 1) (rgr l Z a0 hw [] b1 t4 (1 : Int64) ca cc T33.heap n0 Zs65 f64 O_59 S_cache B_cache (by decide) (by decide)) hZ (hw _ (List.mem_of_getElem? (i := 39) rfl)) (hw _ (List.mem_of_getElem? (i := 2) rfl)) (by decide) (by decide)) q37a q37c (g := (mkF m 210 #[.val (.int p1), .val (.int p2), .val (.int p3), .val (.int p4), .val (.ref b1), .val (.ref t3), .val (.ref t4), .val (.int v26_5), .val (.ref x7), .val (.ref x9), .val (.int (1 : Int32))] [(.ref t4), (.ref b1), (.int (1 : Int32))])) rfl (by rw [hml]; rfl) (Steps.refl _) (argsL := [(.ref t4)]) (rest := [(.int (1 : Int32))]) (lenOf pd_6 rfl) rfl (by show 2 * 0 + _ ≤ _; exact Nat.le_of_eq rfl) (hb hby at_210) (fun _ _ => ⟨rfl, e34q, (by decide : 5 + 0 ≤ _), (by decide : 4 + 0 ≤ _)⟩)
          dsimp only [Pt.U, Pt.locs, Pt.cells, Pt.slots] at X37 l37 y37 z37 st37 hQ37
          subst l37 y37 z37
          obtain ⟨⟨x37, rfl, G37a, G37b⟩, N37q, K37q⟩ := hQ37
          have N37 := Fr.app N34 N37q
          have O_66 := O_59.keep K37q all0
          have f67 := f60.keep K37q
          have f68 := f61.keep K37q
          have f69 := f62.keep K37q
          have f70 := f63.keep K37q nin0
          have f71 := f64.keep K37q nin0
          have f72 := G33a.keep K37q
          have f73 := G33b.keep K37q nin0
          have Zs74 := Nat.le_trans Zs65 K37q.1
          refine Go.on (B := T37.setTop (mkF m 213 #[.val (.int p1), .val (.int p2), .val (.int p3), .val (.int p4), .val (.ref b1), .val (.ref t3), .val (.ref t4), .val (.int v26_5), .val (.ref x7), .val (.ref x9), .val (.int (1 : Int32))] [(.ref x37), (.int (1 : Int32))])) (fun t k => st37.trans k) ?_
          obtain ⟨cq38, kq38, q38a, q38b, q38c⟩ := isOf hZ rfl G37a
          obtain ⟨_, _, ⟨T38, L38, k38, n38⟩, -, X38, ⟨Lc38, hQ38, l38, y38, z38⟩, st38⟩ := X37.virtualBack hx (y := (⟨"java/lang/Long", "longValue", "()J"⟩ : MethodName)) (z := (⟨"java/lang/Long", "longValue", "()J"⟩ : MethodName)) hown (mvT hZ (hw _ (List.mem_of_getElem? (i := 48) rfl))) (mvT hZ (hw _ (List.mem_of_getElem? (i := 49) rfl))) (notFace_of_selects (args := #[]) (mvT hZ (hw _ (List.mem_of_getElem? (i := 51) rfl)))) (mvT hZ (hw _ (List.mem_of_getElem? (i := 51) rfl))) (mvT hZ (hw _ (List.mem_of_getElem? (i := 50) rfl))) (by decide) (backOf (W := 1) (rval l Z a0 hw [] x37 (1 : Int64) T37.heap n0 Zs74 G37b) hZ (hw _ (List.mem_of_getElem? (i := 52) rfl)) (hw _ (List.mem_of_getElem? (i := 42) rfl)) (by decide) (by decide)) q38a q38c (g := (mkF m 213 #[.val (.int p1), .val (.int p2), .val (.int p3), .val (.int p4), .val (.ref b1), .val (.ref t3), .val (.ref t4), .val (.int v26_5), .val (.ref x7), .val (.ref x9), .val (.int (1 : Int32))] [(.ref x37), (.int (1 : Int32))])) rfl (by rw [hml]; rfl) (Steps.refl _) (argsL := []) (rest := [(.int (1 : Int32))]) (lenOf pd_7 rfl) rfl (by show 2 * 0 + _ ≤ _; exact Nat.le_of_eq rfl) (hb hby at_213) (fun _ _ => ⟨rfl, rfl, (by decide : 5 + 0 ≤ _), (by decide : 4 + 0 ≤ _)⟩)
          dsimp only [Pt.U, Pt.locs, Pt.cells, Pt.slots] at X38 l38 y38 z38 st38 hQ38
          subst l38 y38 z38
          obtain ⟨rfl, N38q, e38q⟩ := hQ38
          have N38 := Fr.app N37 N38q
          refine Go.on (B := T38.setTop (mkF m 216 #[.val (.int p1), .val (.int p2), .val (.int p3), .val (.int p4), .val (.ref b1), .val (.ref t3), .val (.ref t4), .val (.int v26_5), .val (.ref x7), .val (.ref x9), .val (.int (1 : Int32))] [(.long (1 : Int64)), (.int (1 : Int32))])) (fun t k => st38.trans k) ?_
          refine Go.on (B := T38.setTop (mkF m 217 #[.val (.int p1), .val (.int p2), .val (.int p3), .val (.int p4), .val (.ref b1), .val (.ref t3), .val (.ref t4), .val (.int v26_5), .val (.ref x7), .val (.ref x9), .val (.int (1 : Int32))] [(.long (1 : Int64)), (.long (1 : Int64)), (.int (1 : Int32))])) (fun t k => XS.lconst X38.here hx rfl (hb hby at_216) k) ?_
          refine Go.on (B := T38.setTop (mkF m 218 #[.val (.int p1), .val (.int p2), .val (.int p3), .val (.int p4), .val (.ref b1), .val (.ref t3), .val (.ref t4), .val (.int v26_5), .val (.ref x7), .val (.ref x9), .val (.int (1 : Int32))] [(.int (lcmpW (1 : Int64) (1 : Int64))), (.int (1 : Int32))])) (fun t k => XS.lcmp X38.here hx rfl (hb hby at_217) rfl k) ?_
          have hc218_39 : (1 : Int64) = (1 : Int64) := by decide
          refine Go.on (B := T38.setTop (mkF m 221 #[.val (.int p1), .val (.int p2), .val (.int p3), .val (.int p4), .val (.ref b1), .val (.ref t3), .val (.ref t4), .val (.int v26_5), .val (.ref x7), .val (.ref x9), .val (.int (1 : Int32))] [(.int (1 : Int32))])) (fun t k => XS.ifNo X38.here hx rfl (hb hby at_218) rfl ((if0 _ _).trans (teq ((lw_eq _ _).mpr hc218_39)).2) k) ?_
          refine Go.on (B := T38.setTop (mkF m 222 #[.val (.int p1), .val (.int p2), .val (.int p3), .val (.int p4), .val (.ref b1), .val (.ref t3), .val (.ref t4), .val (.int v26_5), .val (.ref x7), .val (.ref x9), .val (.int (1 : Int32))] [(.int (1 : Int32)), (.int (1 : Int32))])) (fun t k => XS.iconst X38.here hx rfl (hb hby at_221) k) ?_
          refine Go.on (B := T38.setTop (mkF m 226 #[.val (.int p1), .val (.int p2), .val (.int p3), .val (.int p4), .val (.ref b1), .val (.ref t3), .val (.ref t4), .val (.int v26_5), .val (.ref x7), .val (.ref x9), .val (.int (1 : Int32))] [(.int (1 : Int32)), (.int (1 : Int32))])) (fun t k => XS.goto X38.here hx rfl (pc0 := 222) (pc' := 226) rfl (hb hby at_222) (by decide) (by decide) k) ?_
          refine Go.on (B := T38.setTop (mkF m 227 #[.val (.int p1), .val (.int p2), .val (.int p3), .val (.int p4), .val (.ref b1), .val (.ref t3), .val (.ref t4), .val (.int v26_5), .val (.ref x7), .val (.ref x9), .val (.int (1 : Int32))] [(.int ((1 : Int32) &&& (1 : Int32)))])) (fun t k => XS.iand X38.here hx rfl (hb hby at_226) rfl k) ?_
          rw [show ((1 : Int32) &&& (1 : Int32)) = (1 : Int32) from by decide]
          refine Go.on (B := T38.setTop (mkF m 229 #[.val (.int p1), .val (.int p2), .val (.int p3), .val (.int p4), .val (.ref b1), .val (.ref t3), .val (.ref t4), .val (.int v26_5), .val (.ref x7), .val (.ref x9), .val (.int (1 : Int32))] [])) (fun t k => XS.istore X38.here hx rfl (hb hby at_227) rfl (l' := #[.val (.int p1), .val (.int p2), .val (.int p3), .val (.int p4), .val (.ref b1), .val (.ref t3), .val (.ref t4), .val (.int v26_5), .val (.ref x7), .val (.ref x9), .val (.int (1 : Int32))]) rfl k) ?_
          refine Go.on (B := T38.setTop (mkF m 231 #[.val (.int p1), .val (.int p2), .val (.int p3), .val (.int p4), .val (.ref b1), .val (.ref t3), .val (.ref t4), .val (.int v26_5), .val (.ref x7), .val (.ref x9), .val (.int (1 : Int32))] [(.int (1 : Int32))])) (fun t k => XS.iload X38.here hx rfl (hb hby at_229) rfl k) ?_
          obtain ⟨fs, hr, hrun, hended, hW, hsame⟩ := X38.leave (v := some (.int (1 : Int32))) (fun h => by rw [Bd.returns] at h; cases h)
          refine ⟨_, _, ?_, hrun, hended, _, _, rfl, ?_, ⟨_, rfl⟩, hW, hsame.mono (by decide) (by decide)⟩
          · exact retN X38 hx (t := .boolean) Bd.returns (by simp) (hb hby at_231) hr
          · show Q_rm0 Z p1 p2 p3 p4 ca cc ica icc h0 n0 _ T38.heap _
            rw [e38q]
            exact ⟨rfl, N38⟩
        · refine Go.on (B := T25.setTop (mkF m 99 #[.val (.int p1), .val (.int p2), .val (.int p3), .val (.int p4), .val (.ref b1), .val (.ref t3), .val (.ref t4), .val (.int v26_5), .val (.ref x7), .val (.ref x9), .val (.int (1 : Int32))] [])) (fun t k => XS.icmpNo X25.here hx rfl (hb hby at_96) rfl (flt hc96_28).1 k) ?_
          refine Go.on (B := T25.setTop (mkF m 101 #[.val (.int p1), .val (.int p2), .val (.int p3), .val (.int p4), .val (.ref b1), .val (.ref t3), .val (.ref t4), .val (.int v26_5), .val (.ref x7), .val (.ref x9), .val (.int (1 : Int32))] [(.int (1 : Int32))])) (fun t k => XS.iload X25.here hx rfl (hb hby at_99) rfl k) ?_
          refine Go.on (B := T25.setTop (mkF m 103 #[.val (.int p1), .val (.int p2), .val (.int p3), .val (.int p4), .val (.ref b1), .val (.ref t3), .val (.ref t4), .val (.int v26_5), .val (.ref x7), .val (.ref x9), .val (.int (1 : Int32))] [(.ref b1), (.int (1 : Int32))])) (fun t k => XS.aload X25.here hx rfl (hb hby at_101) rfl rfl k) ?_
          refine Go.on (B := T25.setTop (mkF m 105 #[.val (.int p1), .val (.int p2), .val (.int p3), .val (.int p4), .val (.ref b1), .val (.ref t3), .val (.ref t4), .val (.int v26_5), .val (.ref x7), .val (.ref x9), .val (.int (1 : Int32))] [(.ref x9), (.ref b1), (.int (1 : Int32))])) (fun t k => XS.aload X25.here hx rfl (hb hby at_103) rfl rfl k) ?_
          refine Go.on (B := T25.setTop (mkF m 107 #[.val (.int p1), .val (.int p2), .val (.int p3), .val (.int p4), .val (.ref b1), .val (.ref t3), .val (.ref t4), .val (.int v26_5), .val (.ref x7), .val (.ref x9), .val (.int (1 : Int32))] [(.ref t3), (.ref x9), (.ref b1), (.int (1 : Int32))])) (fun t k => XS.aload X25.here hx rfl (hb hby at_105) rfl rfl k) ?_
          obtain ⟨cq41, kq41, q41a, q41b, q41c⟩ := isOf hZ rfl f48
          obtain ⟨_, _, ⟨T41, L41, k41, n41⟩, -, X41, ⟨Lc41, hQ41, l41, y41, z41⟩, st41⟩ := X25.virtualBack hx (y := (⟨"com/example/tailrace/tailrace/cli/Count", "add", "(Ljava/lang/Object;Lcom/example/tailrace/tailrace/cli/Count$Tally;)Lcom/example/tailrace/tailrace/cli/Count$Tally;"⟩ : MethodName)) (z := (⟨"com/example/tailrace/tailrace/cli/Count", "add", "(Ljava/lang/Object;Lcom/example/tailrace/tailrace/cli/Count$Tally;)Lcom/example/tailrace/tailrace/cli/Count$Tally;"⟩ : MethodName)) hown (mvT hZ (hw _ (List.mem_of_getElem? (i := 28) rfl))) (mvT hZ (hw _ (List.mem_of_getElem? (i := 29) rfl))) (notFace_of_selects (args := #[]) (mvT hZ (hw _ (List.mem_of_getElem? (i := 31) rfl)))) (mvT hZ (hw _ (List.mem_of_getElem? (i := 31) rfl))) (mvT hZ (hw _ (List.mem_of_getElem? (i := 30) rfl))) (by decide) (backOf (W := 1) (radd1 l Z a0 hw [] b1 x9 t3 (1 : Int64) T25.heap n0 Zs52 G25a G25b ge_t3) hZ (hw _ (List.mem_of_getElem? (i := 32) rfl)) (hw _ (List.mem_of_getElem? (i := 2) rfl)) (by decide) (by decide)) q41a q41c (g := (mkF m 107 #[.val (.int p1), .val (.int p2), .val (.int p3), .val (.int p4), .val (.ref b1), .val (.ref t3), .val (.ref t4), .val (.int v26_5), .val (.ref x7), .val (.ref x9), .val (.int (1 : Int32))] [(.ref t3), (.ref x9), (.ref b1), (.int (1 : Int32))])) rfl (by rw [hml]; rfl) (Steps.refl _) (argsL := [(.ref x9), (.ref t3)]) (rest := [(.int (1 : Int32))]) (lenOf pd_5 rfl) rfl (by show 2 * 0 + _ ≤ _; exact Nat.le_of_eq rfl) (hb hby at_107) (fun _ _ => ⟨rfl, rfl, (by decide : 5 + 0 ≤ _), (by decide : 4 + 0 ≤ _)⟩)
          dsimp only [Pt.U, Pt.locs, Pt.cells, Pt.slots] at X41 l41 y41 z41 st41 hQ41
          subst l41 y41 z41
          obtain ⟨rfl, N41q, K41q, G41a, G41b⟩ := hQ41
          have N41 := Fr.app N25 N41q
          have O_75 := O_47.keep K41q (allS ge_t3 all0)
          have f76 := f48.keep K41q
          have f77 := G25a.keep K41q
          have f78 := f50.keep K41q
          have f79 := f51.keep K41q (ninS (Ne.symm ne_t3_t4) nin0)
          have Zs80 := Nat.le_trans Zs52 K41q.1
          rw [show ((1 : Int64) + (1 : Int64)) = (2 : Int64) from by decide] at G41b
          refine Go.on (B := T41.setTop (mkF m 110 #[.val (.int p1), .val (.int p2), .val (.int p3), .val (.int p4), .val (.ref b1), .val (.ref t3), .val (.ref t4), .val (.int v26_5), .val (.ref x7), .val (.ref x9), .val (.int (1 : Int32))] [(.ref t3), (.int (1 : Int32))])) (fun t k => st41.trans k) ?_
          refine Go.on (B := T41.setTop (mkF m 112 #[.val (.int p1), .val (.int p2), .val (.int p3), .val (.int p4), .val (.ref b1), .val (.ref t3), .val (.ref t4), .val (.int v26_5), .val (.ref x7), .val (.ref x9), .val (.int (1 : Int32))] [(.ref t3), (.ref t3), (.int (1 : Int32))])) (fun t k => XS.aload X41.here hx rfl (hb hby at_110) rfl rfl k) ?_
          refine Go.on (B := T41.setTop (mkF m 115 #[.val (.int p1), .val (.int p2), .val (.int p3), .val (.int p4), .val (.ref b1), .val (.ref t3), .val (.ref t4), .val (.int v26_5), .val (.ref x7), .val (.ref x9), .val (.int (1 : Int32))] [(.int (1 : Int32))])) (fun t k => Jvm.RoadKit.acmp (g := (mkF m 112 #[.val (.int p1), .val (.int p2), .val (.int p3), .val (.int p4), .val (.ref b1), .val (.ref t3), .val (.ref t4), .val (.int v26_5), .val (.ref x7), .val (.ref x9), .val (.int (1 : Int32))] [(.ref t3), (.ref t3), (.int (1 : Int32))])) X41 hx rfl rfl rfl (pc0 := 112) (pc' := 115) (same := true) rfl (hb hby at_112) rfl (decide_eq_true rfl) (by decide) (by decide) k) ?_
          refine Go.on (B := T41.setTop (mkF m 116 #[.val (.int p1), .val (.int p2), .val (.int p3), .val (.int p4), .val (.ref b1), .val (.ref t3), .val (.ref t4), .val (.int v26_5), .val (.ref x7), .val (.ref x9), .val (.int (1 : Int32))] [(.int (1 : Int32)), (.int (1 : Int32))])) (fun t k => XS.iconst X41.here hx rfl (hb hby at_115) k) ?_
          refine Go.on (B := T41.setTop (mkF m 120 #[.val (.int p1), .val (.int p2), .val (.int p3), .val (.int p4), .val (.ref b1), .val (.ref t3), .val (.ref t4), .val (.int v26_5), .val (.ref x7), .val (.ref x9), .val (.int (1 : Int32))] [(.int (1 : Int32)), (.int (1 : Int32))])) (fun t k => XS.goto X41.here hx rfl (pc0 := 116) (pc' := 120) rfl (hb hby at_116) (by decide) (by decide) k) ?_
          refine Go.on (B := T41.setTop (mkF m 121 #[.val (.int p1), .val (.int p2), .val (.int p3), .val (.int p4), .val (.ref b1), .val (.ref t3), .val (.ref t4), .val (.int v26_5), .val (.ref x7), .val (.ref x9), .val (.int (1 : Int32))] [(.int ((1 : Int32) &&& (1 : Int32)))])) (fun t k => XS.iand X41.here hx rfl (hb hby at_120) rfl k) ?_
          rw [show ((1 : Int32) &&& (1 : Int32)) = (1 : Int32) from by decide]
          refine Go.on (B := T41.setTop (mkF m 123 #[.val (.int p1), .val (.int p2), .val (.int p3), .val (.int p4), .val (.ref b1), .val (.ref t3), .val (.ref t4), .val (.int v26_5), .val (.ref x7), .val (.ref x9), .val (.int (1 : Int32))] [])) (fun t k => XS.istore X41.here hx rfl (hb hby at_121) rfl (l' := #[.val (.int p1), .val (.int p2), .val (.int p3), .val (.int p4), .val (.ref b1), .val (.ref t3), .val (.ref t4), .val (.int v26_5), .val (.ref x7), .val (.ref x9), .val (.int (1 : Int32))]) rfl k) ?_
          refine Go.on (B := T41.setTop (mkF m 125 #[.val (.int p1), .val (.int p2), .val (.int p3), .val (.int p4), .val (.ref b1), .val (.ref t3), .val (.ref t4), .val (.int v26_5), .val (.ref x7), .val (.ref x9), .val (.int (1 : Int32))] [(.int v26_5)])) (fun t k => XS.iload X41.here hx rfl (hb hby at_123) rfl k) ?_
          refine Go.on (B := T41.setTop (mkF m 126 #[.val (.int p1), .val (.int p2), .val (.int p3), .val (.int p4), .val (.ref b1), .val (.ref t3), .val (.ref t4), .val (.int v26_5), .val (.ref x7), .val (.ref x9), .val (.int (1 : Int32))] [(.int (3 : Int32)), (.int v26_5)])) (fun t k => XS.iconst X41.here hx rfl (hb hby at_125) k) ?_
          by_cases hc126_44 : v26_5 < (3 : Int32)
          · refine Go.on (B := T41.setTop (mkF m 153 #[.val (.int p1), .val (.int p2), .val (.int p3), .val (.int p4), .val (.ref b1), .val (.ref t3), .val (.ref t4), .val (.int v26_5), .val (.ref x7), .val (.ref x9), .val (.int (1 : Int32))] [])) (fun t k => XS.icmpYes X41.here hx rfl (pc0 := 126) (pc' := 153) rfl (hb hby at_126) rfl (tlt hc126_44).1 (by decide) (by decide) k) ?_
            refine Go.on (B := T41.setTop (mkF m 155 #[.val (.int p1), .val (.int p2), .val (.int p3), .val (.int p4), .val (.ref b1), .val (.ref t3), .val (.ref t4), .val (.int v26_5), .val (.ref x7), .val (.ref x9), .val (.int (1 : Int32))] [(.int (1 : Int32))])) (fun t k => XS.iload X41.here hx rfl (hb hby at_153) rfl k) ?_
            refine Go.on (B := T41.setTop (mkF m 157 #[.val (.int p1), .val (.int p2), .val (.int p3), .val (.int p4), .val (.ref b1), .val (.ref t3), .val (.ref t4), .val (.int v26_5), .val (.ref x7), .val (.ref x9), .val (.int (1 : Int32))] [(.ref b1), (.int (1 : Int32))])) (fun t k => XS.aload X41.here hx rfl (hb hby at_155) rfl rfl k) ?_
            refine Go.on (B := T41.setTop (mkF m 159 #[.val (.int p1), .val (.int p2), .val (.int p3), .val (.int p4), .val (.ref b1), .val (.ref t3), .val (.ref t4), .val (.int v26_5), .val (.ref x7), .val (.ref x9), .val (.int (1 : Int32))] [(.ref x9), (.ref b1), (.int (1 : Int32))])) (fun t k => XS.aload X41.here hx rfl (hb hby at_157) rfl rfl k) ?_
            refine Go.on (B := T41.setTop (mkF m 161 #[.val (.int p1), .val (.int p2), .val (.int p3), .val (.int p4), .val (.ref b1), .val (.ref t3), .val (.ref t4), .val (.int v26_5), .val (.ref x7), .val (.ref x9), .val (.int (1 : Int32))] [(.ref t4), (.ref x9), (.ref b1), (.int (1 : Int32))])) (fun t k => XS.aload X41.here hx rfl (hb hby at_159) rfl rfl k) ?_
            obtain ⟨cq45, kq45, q45a, q45b, q45c⟩ := isOf hZ rfl f76
            obtain ⟨_, _, ⟨T45, L45, k45, n45⟩, -, X45, ⟨Lc45, hQ45, l45, y45, z45⟩, st45⟩ := X41.virtualBack hx (y := (⟨"com/example/tailrace/tailrace/cli/Count", "add", "(Ljava/lang/Object;Lcom/example/tailrace/tailrace/cli/Count$Tally;)Lcom/example/tailrace/tailrace/cli/Count$Tally;"⟩ : MethodName)) (z := (⟨"com/example/tailrace/tailrace/cli/Count", "add", "(Ljava/lang/Object;Lcom/example/tailrace/tailrace/cli/Count$Tally;)Lcom/example/tailrace/tailrace/cli/Count$Tally;"⟩ : MethodName)) hown (mvT hZ (hw _ (List.mem_of_getElem? (i := 28) rfl))) (mvT hZ (hw _ (List.mem_of_getElem? (i := 29) rfl))) (notFace_of_selects (args := #[]) (mvT hZ (hw _ (List.mem_of_getElem? (i := 31) rfl)))) (mvT hZ (hw _ (List.mem_of_getElem? (i := 31) rfl))) (mvT hZ (hw _ (List.mem_of_getElem? (i := 30) rfl))) (by decide) (backOf (W := 1) (radd1 l Z a0 hw [] b1 x9 t4 (0 : Int64) T41.heap n0 Zs80 f78 f79 ge_t4) hZ (hw _ (List.mem_of_getElem? (i := 32) rfl)) (hw _ (List.mem_of_getElem? (i := 2) rfl)) (by decide) (by decide)) q45a q45c (g := (mkF m 161 #[.val (.int p1), .val (.int p2), .val (.int p3), .val (.int p4), .val (.ref b1), .val (.ref t3), .val (.ref t4), .val (.int v26_5), .val (.ref x7), .val (.ref x9), .val (.int (1 : Int32))] [(.ref t4), (.ref x9), (.ref b1), (.int (1 : Int32))])) rfl (by rw [hml]; rfl) (Steps.refl _) (argsL := [(.ref x9), (.ref t4)]) (rest := [(.int (1 : Int32))]) (lenOf pd_5 rfl) rfl (by show 2 * 0 + _ ≤ _; exact Nat.le_of_eq rfl) (hb hby at_161) (fun _ _ => ⟨rfl, rfl, (by decide : 5 + 0 ≤ _), (by decide : 4 + 0 ≤ _)⟩)
            dsimp only [Pt.U, Pt.locs, Pt.cells, Pt.slots] at X45 l45 y45 z45 st45 hQ45
            subst l45 y45 z45
            obtain ⟨rfl, N45q, K45q, G45a, G45b⟩ := hQ45
            have N45 := Fr.app N41 N45q
            have O_81 := O_75.keep K45q (allS ge_t4 all0)
            have f82 := f76.keep K45q
            have f83 := G41a.keep K45q
            have f84 := f78.keep K45q
            have f85 := G41b.keep K45q (ninS ne_t3_t4 nin0)
            have Zs86 := Nat.le_trans Zs80 K45q.1
            rw [show ((0 : Int64) + (1 : Int64)) = (1 : Int64) from by decide] at G45b
            refine Go.on (B := T45.setTop (mkF m 164 #[.val (.int p1), .val (.int p2), .val (.int p3), .val (.int p4), .val (.ref b1), .val (.ref t3), .val (.ref t4), .val (.int v26_5), .val (.ref x7), .val (.ref x9), .val (.int (1 : Int32))] [(.ref t4), (.int (1 : Int32))])) (fun t k => st45.trans k) ?_
            refine Go.on (B := T45.setTop (mkF m 166 #[.val (.int p1), .val (.int p2), .val (.int p3), .val (.int p4), .val (.ref b1), .val (.ref t3), .val (.ref t4), .val (.int v26_5), .val (.ref x7), .val (.ref x9), .val (.int (1 : Int32))] [(.ref t4), (.ref t4), (.int (1 : Int32))])) (fun t k => XS.aload X45.here hx rfl (hb hby at_164) rfl rfl k) ?_
            refine Go.on (B := T45.setTop (mkF m 169 #[.val (.int p1), .val (.int p2), .val (.int p3), .val (.int p4), .val (.ref b1), .val (.ref t3), .val (.ref t4), .val (.int v26_5), .val (.ref x7), .val (.ref x9), .val (.int (1 : Int32))] [(.int (1 : Int32))])) (fun t k => Jvm.RoadKit.acmp (g := (mkF m 166 #[.val (.int p1), .val (.int p2), .val (.int p3), .val (.int p4), .val (.ref b1), .val (.ref t3), .val (.ref t4), .val (.int v26_5), .val (.ref x7), .val (.ref x9), .val (.int (1 : Int32))] [(.ref t4), (.ref t4), (.int (1 : Int32))])) X45 hx rfl rfl rfl (pc0 := 166) (pc' := 169) (same := true) rfl (hb hby at_166) rfl (decide_eq_true rfl) (by decide) (by decide) k) ?_
            refine Go.on (B := T45.setTop (mkF m 170 #[.val (.int p1), .val (.int p2), .val (.int p3), .val (.int p4), .val (.ref b1), .val (.ref t3), .val (.ref t4), .val (.int v26_5), .val (.ref x7), .val (.ref x9), .val (.int (1 : Int32))] [(.int (1 : Int32)), (.int (1 : Int32))])) (fun t k => XS.iconst X45.here hx rfl (hb hby at_169) k) ?_
            refine Go.on (B := T45.setTop (mkF m 174 #[.val (.int p1), .val (.int p2), .val (.int p3), .val (.int p4), .val (.ref b1), .val (.ref t3), .val (.ref t4), .val (.int v26_5), .val (.ref x7), .val (.ref x9), .val (.int (1 : Int32))] [(.int (1 : Int32)), (.int (1 : Int32))])) (fun t k => XS.goto X45.here hx rfl (pc0 := 170) (pc' := 174) rfl (hb hby at_170) (by decide) (by decide) k) ?_
            refine Go.on (B := T45.setTop (mkF m 175 #[.val (.int p1), .val (.int p2), .val (.int p3), .val (.int p4), .val (.ref b1), .val (.ref t3), .val (.ref t4), .val (.int v26_5), .val (.ref x7), .val (.ref x9), .val (.int (1 : Int32))] [(.int ((1 : Int32) &&& (1 : Int32)))])) (fun t k => XS.iand X45.here hx rfl (hb hby at_174) rfl k) ?_
            rw [show ((1 : Int32) &&& (1 : Int32)) = (1 : Int32) from by decide]
            refine Go.on (B := T45.setTop (mkF m 177 #[.val (.int p1), .val (.int p2), .val (.int p3), .val (.int p4), .val (.ref b1), .val (.ref t3), .val (.ref t4), .val (.int v26_5), .val (.ref x7), .val (.ref x9), .val (.int (1 : Int32))] [])) (fun t k => XS.istore X45.here hx rfl (hb hby at_175) rfl (l' := #[.val (.int p1), .val (.int p2), .val (.int p3), .val (.int p4), .val (.ref b1), .val (.ref t3), .val (.ref t4), .val (.int v26_5), .val (.ref x7), .val (.ref x9), .val (.int (1 : Int32))]) rfl k) ?_
            refine Go.on (B := T45.setTop (mkF m 179 #[.val (.int p1), .val (.int p2), .val (.int p3), .val (.int p4), .val (.ref b1), .val (.ref t3), .val (.ref t4), .val (.int v26_5), .val (.ref x7), .val (.ref x9), .val (.int (1 : Int32))] [(.int (1 : Int32))])) (fun t k => XS.iload X45.here hx rfl (hb hby at_177) rfl k) ?_
            refine Go.on (B := T45.setTop (mkF m 181 #[.val (.int p1), .val (.int p2), .val (.int p3), .val (.int p4), .val (.ref b1), .val (.ref t3), .val (.ref t4), .val (.int v26_5), .val (.ref x7), .val (.ref x9), .val (.int (1 : Int32))] [(.ref b1), (.int (1 : Int32))])) (fun t k => XS.aload X45.here hx rfl (hb hby at_179) rfl rfl k) ?_
            refine Go.on (B := T45.setTop (mkF m 183 #[.val (.int p1), .val (.int p2), .val (.int p3), .val (.int p4), .val (.ref b1), .val (.ref t3), .val (.ref t4), .val (.int v26_5), .val (.ref x7), .val (.ref x9), .val (.int (1 : Int32))] [(.ref t3), (.ref b1), (.int (1 : Int32))])) (fun t k => XS.aload X45.here hx rfl (hb hby at_181) rfl rfl k) ?_
            obtain ⟨cq48, kq48, q48a, q48b, q48c⟩ := isOf hZ rfl f82
            obtain ⟨_, _, ⟨T48, L48, k48, n48⟩, -, X48, ⟨Lc48, hQ48, l48, y48, z48⟩, st48⟩ := X45.virtualBack hx (y := (⟨"com/example/tailrace/tailrace/cli/Count", "getResult", "(Lcom/example/tailrace/tailrace/cli/Count$Tally;)Ljava/lang/Long;"⟩ : MethodName)) (z := (⟨"com/example/tailrace/tailrace/cli/Count", "getResult", "(Lcom/example/tailrace/tailrace/cli/Count$Tally;)Ljava/lang/Long;"⟩ : MethodName)) hown (mvT hZ (hw _ (List.mem_of_getElem? (i := 35) rfl))) (mvT hZ (hw _ (List.mem_of_getElem? (i := 36) rfl))) (notFace_of_selects (args := #[]) (mvT hZ (hw _ (List.mem_of_getElem? (i := 38) rfl)))) (mvT hZ (hw _ (List.mem_of_getElem? (i := 38) rfl))) (mvT hZ (hw _ (List.mem_of_getElem? (i := 37) rfl))) (by decide) (backOf (W := 1) (rgr l Z a0 hw [] b1 t3 (2 : Int64) ca cc T45.heap n0 Zs86 f85 O_81 S_cache B_cache (by decide) (by decide)) hZ (hw _ (List.mem_of_getElem? (i := 39) rfl)) (hw _ (List.mem_of_getElem? (i := 2) rfl)) (by decide) (by decide)) q48a q48c (g := (mkF m 183 #[.val (.int p1), .val (.int p2), .val (.int p3), .val (.int p4), .val (.ref b1), .val (.ref t3), .val (.ref t4), .val (.int v26_5), .val (.ref x7), .val (.ref x9), .val (.int (1 : Int32))] [(.ref t3), (.ref b1), (.int (1 : Int32))])) rfl (by rw [hml]; rfl) (Steps.refl _) (argsL := [(.ref t3)]) (rest := [(.int (1 : Int32))]) (lenOf pd_6 rfl) rfl (by show 2 * 0 + _ ≤ _; exact Nat.le_of_eq rfl) (hb hby at_183) (fun _ _ => ⟨rfl, rfl, (by decide : 5 + 0 ≤ _), (by decide : 4 + 0 ≤ _)⟩)
            dsimp only [Pt.U, Pt.locs, Pt.cells, Pt.slots] at X48 l48 y48 z48 st48 hQ48
            subst l48 y48 z48
            obtain ⟨⟨x48, rfl, G48a, G48b⟩, N48q, K48q⟩ := hQ48
            have N48 := Fr.app N45 N48q
            have O_87 := O_81.keep K48q all0
            have f88 := f82.keep K48q
            have f89 := f83.keep K48q
            have f90 := G45a.keep K48q
            have f91 := f85.keep K48q nin0
            have f92 := G45b.keep K48q nin0
            have Zs93 := Nat.le_trans Zs86 K48q.1
            refine Go.on (B := T48.setTop (mkF m 186 #[.val (.int p1), .val (.int p2), .val (.int p3), .val (.int p4), .val (.ref b1), .val (.ref t3), .val (.ref t4), .val (.int v26_5), .val (.ref x7), .val (.ref x9), .val (.int (1 : Int32))] [(.ref x48), (.int (1 : Int32))])) (fun t k => st48.trans k) ?_
            obtain ⟨cq49, kq49, q49a, q49b, q49c⟩ := isOf hZ rfl G48a
            obtain ⟨_, _, ⟨T49, L49, k49, n49⟩, -, X49, ⟨Lc49, hQ49, l49, y49, z49⟩, st49⟩ := X48.virtualBack hx (y := (⟨"java/lang/Long", "longValue", "()J"⟩ : MethodName)) (z := (⟨"java/lang/Long", "longValue", "()J"⟩ : MethodName)) hown (mvT hZ (hw _ (List.mem_of_getElem? (i := 48) rfl))) (mvT hZ (hw _ (List.mem_of_getElem? (i := 49) rfl))) (notFace_of_selects (args := #[]) (mvT hZ (hw _ (List.mem_of_getElem? (i := 51) rfl)))) (mvT hZ (hw _ (List.mem_of_getElem? (i := 51) rfl))) (mvT hZ (hw _ (List.mem_of_getElem? (i := 50) rfl))) (by decide) (backOf (W := 1) (rval l Z a0 hw [] x48 (2 : Int64) T48.heap n0 Zs93 G48b) hZ (hw _ (List.mem_of_getElem? (i := 52) rfl)) (hw _ (List.mem_of_getElem? (i := 42) rfl)) (by decide) (by decide)) q49a q49c (g := (mkF m 186 #[.val (.int p1), .val (.int p2), .val (.int p3), .val (.int p4), .val (.ref b1), .val (.ref t3), .val (.ref t4), .val (.int v26_5), .val (.ref x7), .val (.ref x9), .val (.int (1 : Int32))] [(.ref x48), (.int (1 : Int32))])) rfl (by rw [hml]; rfl) (Steps.refl _) (argsL := []) (rest := [(.int (1 : Int32))]) (lenOf pd_7 rfl) rfl (by show 2 * 0 + _ ≤ _; exact Nat.le_of_eq rfl) (hb hby at_186) (fun _ _ => ⟨rfl, rfl, (by decide : 5 + 0 ≤ _), (by decide : 4 + 0 ≤ _)⟩)
            dsimp only [Pt.U, Pt.locs, Pt.cells, Pt.slots] at X49 l49 y49 z49 st49 hQ49
            subst l49 y49 z49
            obtain ⟨rfl, N49q, e49q⟩ := hQ49
            have N49 := Fr.app N48 N49q
            refine Go.on (B := T49.setTop (mkF m 189 #[.val (.int p1), .val (.int p2), .val (.int p3), .val (.int p4), .val (.ref b1), .val (.ref t3), .val (.ref t4), .val (.int v26_5), .val (.ref x7), .val (.ref x9), .val (.int (1 : Int32))] [(.long (2 : Int64)), (.int (1 : Int32))])) (fun t k => st49.trans k) ?_
            refine Go.on (B := T49.setTop (mkF m 191 #[.val (.int p1), .val (.int p2), .val (.int p3), .val (.int p4), .val (.ref b1), .val (.ref t3), .val (.ref t4), .val (.int v26_5), .val (.ref x7), .val (.ref x9), .val (.int (1 : Int32))] [(.int v26_5), (.long (2 : Int64)), (.int (1 : Int32))])) (fun t k => XS.iload X49.here hx rfl (hb hby at_189) rfl k) ?_
            refine Go.on (B := T49.setTop (mkF m 192 #[.val (.int p1), .val (.int p2), .val (.int p3), .val (.int p4), .val (.ref b1), .val (.ref t3), .val (.ref t4), .val (.int v26_5), .val (.ref x7), .val (.ref x9), .val (.int (1 : Int32))] [(.long (v26_5.toInt64)), (.long (2 : Int64)), (.int (1 : Int32))])) (fun t k => XS.i2l X49.here hx rfl (hb hby at_191) rfl k) ?_
            refine Go.on (B := T49.setTop (mkF m 193 #[.val (.int p1), .val (.int p2), .val (.int p3), .val (.int p4), .val (.ref b1), .val (.ref t3), .val (.ref t4), .val (.int v26_5), .val (.ref x7), .val (.ref x9), .val (.int (1 : Int32))] [(.int (lcmpW (2 : Int64) (v26_5.toInt64))), (.int (1 : Int32))])) (fun t k => XS.lcmp X49.here hx rfl (hb hby at_192) rfl k) ?_
            have hc193_50 : (2 : Int64) = (v26_5.toInt64) := by
              have q := own_n3 _ _ hv26_5
              have u0 := hc66_11
              rw [Int32.lt_iff_toInt_lt, show (1 : Int32).toInt = 1 from by decide] at u0
              have u1 := hc96_28
              rw [Int32.lt_iff_toInt_lt, show (2 : Int32).toInt = 2 from by decide] at u1
              have u2 := hc126_44
              rw [Int32.lt_iff_toInt_lt, show (3 : Int32).toInt = 3 from by decide] at u2
              exact own_is 2 (by omega) (by decide)
            refine Go.on (B := T49.setTop (mkF m 196 #[.val (.int p1), .val (.int p2), .val (.int p3), .val (.int p4), .val (.ref b1), .val (.ref t3), .val (.ref t4), .val (.int v26_5), .val (.ref x7), .val (.ref x9), .val (.int (1 : Int32))] [(.int (1 : Int32))])) (fun t k => XS.ifNo X49.here hx rfl (hb hby at_193) rfl ((if0 _ _).trans (teq ((lw_eq _ _).mpr hc193_50)).2) k) ?_
            refine Go.on (B := T49.setTop (mkF m 197 #[.val (.int p1), .val (.int p2), .val (.int p3), .val (.int p4), .val (.ref b1), .val (.ref t3), .val (.ref t4), .val (.int v26_5), .val (.ref x7), .val (.ref x9), .val (.int (1 : Int32))] [(.int (1 : Int32)), (.int (1 : Int32))])) (fun t k => XS.iconst X49.here hx rfl (hb hby at_196) k) ?_
            refine Go.on (B := T49.setTop (mkF m 201 #[.val (.int p1), .val (.int p2), .val (.int p3), .val (.int p4), .val (.ref b1), .val (.ref t3), .val (.ref t4), .val (.int v26_5), .val (.ref x7), .val (.ref x9), .val (.int (1 : Int32))] [(.int (1 : Int32)), (.int (1 : Int32))])) (fun t k => XS.goto X49.here hx rfl (pc0 := 197) (pc' := 201) rfl (hb hby at_197) (by decide) (by decide) k) ?_
            refine Go.on (B := T49.setTop (mkF m 202 #[.val (.int p1), .val (.int p2), .val (.int p3), .val (.int p4), .val (.ref b1), .val (.ref t3), .val (.ref t4), .val (.int v26_5), .val (.ref x7), .val (.ref x9), .val (.int (1 : Int32))] [(.int ((1 : Int32) &&& (1 : Int32)))])) (fun t k => XS.iand X49.here hx rfl (hb hby at_201) rfl k) ?_
            rw [show ((1 : Int32) &&& (1 : Int32)) = (1 : Int32) from by decide]
            refine Go.on (B := T49.setTop (mkF m 204 #[.val (.int p1), .val (.int p2), .val (.int p3), .val (.int p4), .val (.ref b1), .val (.ref t3), .val (.ref t4), .val (.int v26_5), .val (.ref x7), .val (.ref x9), .val (.int (1 : Int32))] [])) (fun t k => XS.istore X49.here hx rfl (hb hby at_202) rfl (l' := #[.val (.int p1), .val (.int p2), .val (.int p3), .val (.int p4), .val (.ref b1), .val (.ref t3), .val (.ref t4), .val (.int v26_5), .val (.ref x7), .val (.ref x9), .val (.int (1 : Int32))]) rfl k) ?_
            refine Go.on (B := T49.setTop (mkF m 206 #[.val (.int p1), .val (.int p2), .val (.int p3), .val (.int p4), .val (.ref b1), .val (.ref t3), .val (.ref t4), .val (.int v26_5), .val (.ref x7), .val (.ref x9), .val (.int (1 : Int32))] [(.int (1 : Int32))])) (fun t k => XS.iload X49.here hx rfl (hb hby at_204) rfl k) ?_
            refine Go.on (B := T49.setTop (mkF m 208 #[.val (.int p1), .val (.int p2), .val (.int p3), .val (.int p4), .val (.ref b1), .val (.ref t3), .val (.ref t4), .val (.int v26_5), .val (.ref x7), .val (.ref x9), .val (.int (1 : Int32))] [(.ref b1), (.int (1 : Int32))])) (fun t k => XS.aload X49.here hx rfl (hb hby at_206) rfl rfl k) ?_
            refine Go.on (B := T49.setTop (mkF m 210 #[.val (.int p1), .val (.int p2), .val (.int p3), .val (.int p4), .val (.ref b1), .val (.ref t3), .val (.ref t4), .val (.int v26_5), .val (.ref x7), .val (.ref x9), .val (.int (1 : Int32))] [(.ref t4), (.ref b1), (.int (1 : Int32))])) (fun t k => XS.aload X49.here hx rfl (hb hby at_208) rfl rfl k) ?_
            obtain ⟨cq52, kq52, q52a, q52b, q52c⟩ := isOf hZ e49q f88
            obtain ⟨_, _, ⟨T52, L52, k52, n52⟩, -, X52, ⟨Lc52, hQ52, l52, y52, z52⟩, st52⟩ := X49.virtualBack hx (y := (⟨"com/example/tailrace/tailrace/cli/Count", "getResult", "(Lcom/example/tailrace/tailrace/cli/Count$Tally;)Ljava/lang/Long;"⟩ : MethodName)) (z := (⟨"com/example/tailrace/tailrace/cli/Count", "getResult", "(Lcom/example/tailrace/tailrace/cli/Count$Tally;)Ljava/lang/Long;"⟩ : MethodName)) hown (mvT hZ (hw _ (List.mem_of_getElem? (i := 35) rfl))) (mvT hZ (hw _ (List.mem_of_getElem? (i := 36) rfl))) (notFace_of_selects (args := #[]) (mvT hZ (hw _ (List.mem_of_getElem? (i := 38) rfl)))) (mvT hZ (hw _ (List.mem_of_getElem? (i := 38) rfl))) (mvT hZ (hw _ (List.mem_of_getElem? (i := 37) rfl))) (by decide) (backOf (W := 1) (rgr l Z a0 hw [] b1 t4 (1 : Int64) ca cc T48.heap n0 Zs93 f92 O_87 S_cache B_cache (by decide) (by decide)) hZ (hw _ (List.mem_of_getElem? (i := 39) rfl)) (hw _ (List.mem_of_getElem? (i := 2) rfl)) (by decide) (by decide)) q52a q52c (g := (mkF m 210 #[.val (.int p1), .val (.int p2), .val (.int p3), .val (.int p4), .val (.ref b1), .val (.ref t3), .val (.ref t4), .val (.int v26_5), .val (.ref x7), .val (.ref x9), .val (.int (1 : Int32))] [(.ref t4), (.ref b1), (.int (1 : Int32))])) rfl (by rw [hml]; rfl) (Steps.refl _) (argsL := [(.ref t4)]) (rest := [(.int (1 : Int32))]) (lenOf pd_6 rfl) rfl (by show 2 * 0 + _ ≤ _; exact Nat.le_of_eq rfl) (hb hby at_210) (fun _ _ => ⟨rfl, e49q, (by decide : 5 + 0 ≤ _), (by decide : 4 + 0 ≤ _)⟩)
            dsimp only [Pt.U, Pt.locs, Pt.cells, Pt.slots] at X52 l52 y52 z52 st52 hQ52
            subst l52 y52 z52
            obtain ⟨⟨x52, rfl, G52a, G52b⟩, N52q, K52q⟩ := hQ52
            have N52 := Fr.app N49 N52q
            have O_94 := O_87.keep K52q all0
            have f95 := f88.keep K52q
            have f96 := f89.keep K52q
            have f97 := f90.keep K52q
            have f98 := f91.keep K52q nin0
            have f99 := f92.keep K52q nin0
            have f100 := G48a.keep K52q
            have f101 := G48b.keep K52q nin0
            have Zs102 := Nat.le_trans Zs93 K52q.1
            refine Go.on (B := T52.setTop (mkF m 213 #[.val (.int p1), .val (.int p2), .val (.int p3), .val (.int p4), .val (.ref b1), .val (.ref t3), .val (.ref t4), .val (.int v26_5), .val (.ref x7), .val (.ref x9), .val (.int (1 : Int32))] [(.ref x52), (.int (1 : Int32))])) (fun t k => st52.trans k) ?_
            obtain ⟨cq53, kq53, q53a, q53b, q53c⟩ := isOf hZ rfl G52a
            obtain ⟨_, _, ⟨T53, L53, k53, n53⟩, -, X53, ⟨Lc53, hQ53, l53, y53, z53⟩, st53⟩ := X52.virtualBack hx (y := (⟨"java/lang/Long", "longValue", "()J"⟩ : MethodName)) (z := (⟨"java/lang/Long", "longValue", "()J"⟩ : MethodName)) hown (mvT hZ (hw _ (List.mem_of_getElem? (i := 48) rfl))) (mvT hZ (hw _ (List.mem_of_getElem? (i := 49) rfl))) (notFace_of_selects (args := #[]) (mvT hZ (hw _ (List.mem_of_getElem? (i := 51) rfl)))) (mvT hZ (hw _ (List.mem_of_getElem? (i := 51) rfl))) (mvT hZ (hw _ (List.mem_of_getElem? (i := 50) rfl))) (by decide) (backOf (W := 1) (rval l Z a0 hw [] x52 (1 : Int64) T52.heap n0 Zs102 G52b) hZ (hw _ (List.mem_of_getElem? (i := 52) rfl)) (hw _ (List.mem_of_getElem? (i := 42) rfl)) (by decide) (by decide)) q53a q53c (g := (mkF m 213 #[.val (.int p1), .val (.int p2), .val (.int p3), .val (.int p4), .val (.ref b1), .val (.ref t3), .val (.ref t4), .val (.int v26_5), .val (.ref x7), .val (.ref x9), .val (.int (1 : Int32))] [(.ref x52), (.int (1 : Int32))])) rfl (by rw [hml]; rfl) (Steps.refl _) (argsL := []) (rest := [(.int (1 : Int32))]) (lenOf pd_7 rfl) rfl (by show 2 * 0 + _ ≤ _; exact Nat.le_of_eq rfl) (hb hby at_213) (fun _ _ => ⟨rfl, rfl, (by decide : 5 + 0 ≤ _), (by decide : 4 + 0 ≤ _)⟩)
            dsimp only [Pt.U, Pt.locs, Pt.cells, Pt.slots] at X53 l53 y53 z53 st53 hQ53
            subst l53 y53 z53
            obtain ⟨rfl, N53q, e53q⟩ := hQ53
            have N53 := Fr.app N52 N53q
            refine Go.on (B := T53.setTop (mkF m 216 #[.val (.int p1), .val (.int p2), .val (.int p3), .val (.int p4), .val (.ref b1), .val (.ref t3), .val (.ref t4), .val (.int v26_5), .val (.ref x7), .val (.ref x9), .val (.int (1 : Int32))] [(.long (1 : Int64)), (.int (1 : Int32))])) (fun t k => st53.trans k) ?_
            refine Go.on (B := T53.setTop (mkF m 217 #[.val (.int p1), .val (.int p2), .val (.int p3), .val (.int p4), .val (.ref b1), .val (.ref t3), .val (.ref t4), .val (.int v26_5), .val (.ref x7), .val (.ref x9), .val (.int (1 : Int32))] [(.long (1 : Int64)), (.long (1 : Int64)), (.int (1 : Int32))])) (fun t k => XS.lconst X53.here hx rfl (hb hby at_216) k) ?_
            refine Go.on (B := T53.setTop (mkF m 218 #[.val (.int p1), .val (.int p2), .val (.int p3), .val (.int p4), .val (.ref b1), .val (.ref t3), .val (.ref t4), .val (.int v26_5), .val (.ref x7), .val (.ref x9), .val (.int (1 : Int32))] [(.int (lcmpW (1 : Int64) (1 : Int64))), (.int (1 : Int32))])) (fun t k => XS.lcmp X53.here hx rfl (hb hby at_217) rfl k) ?_
            have hc218_54 : (1 : Int64) = (1 : Int64) := by decide
            refine Go.on (B := T53.setTop (mkF m 221 #[.val (.int p1), .val (.int p2), .val (.int p3), .val (.int p4), .val (.ref b1), .val (.ref t3), .val (.ref t4), .val (.int v26_5), .val (.ref x7), .val (.ref x9), .val (.int (1 : Int32))] [(.int (1 : Int32))])) (fun t k => XS.ifNo X53.here hx rfl (hb hby at_218) rfl ((if0 _ _).trans (teq ((lw_eq _ _).mpr hc218_54)).2) k) ?_
            refine Go.on (B := T53.setTop (mkF m 222 #[.val (.int p1), .val (.int p2), .val (.int p3), .val (.int p4), .val (.ref b1), .val (.ref t3), .val (.ref t4), .val (.int v26_5), .val (.ref x7), .val (.ref x9), .val (.int (1 : Int32))] [(.int (1 : Int32)), (.int (1 : Int32))])) (fun t k => XS.iconst X53.here hx rfl (hb hby at_221) k) ?_
            refine Go.on (B := T53.setTop (mkF m 226 #[.val (.int p1), .val (.int p2), .val (.int p3), .val (.int p4), .val (.ref b1), .val (.ref t3), .val (.ref t4), .val (.int v26_5), .val (.ref x7), .val (.ref x9), .val (.int (1 : Int32))] [(.int (1 : Int32)), (.int (1 : Int32))])) (fun t k => XS.goto X53.here hx rfl (pc0 := 222) (pc' := 226) rfl (hb hby at_222) (by decide) (by decide) k) ?_
            refine Go.on (B := T53.setTop (mkF m 227 #[.val (.int p1), .val (.int p2), .val (.int p3), .val (.int p4), .val (.ref b1), .val (.ref t3), .val (.ref t4), .val (.int v26_5), .val (.ref x7), .val (.ref x9), .val (.int (1 : Int32))] [(.int ((1 : Int32) &&& (1 : Int32)))])) (fun t k => XS.iand X53.here hx rfl (hb hby at_226) rfl k) ?_
            rw [show ((1 : Int32) &&& (1 : Int32)) = (1 : Int32) from by decide]
            refine Go.on (B := T53.setTop (mkF m 229 #[.val (.int p1), .val (.int p2), .val (.int p3), .val (.int p4), .val (.ref b1), .val (.ref t3), .val (.ref t4), .val (.int v26_5), .val (.ref x7), .val (.ref x9), .val (.int (1 : Int32))] [])) (fun t k => XS.istore X53.here hx rfl (hb hby at_227) rfl (l' := #[.val (.int p1), .val (.int p2), .val (.int p3), .val (.int p4), .val (.ref b1), .val (.ref t3), .val (.ref t4), .val (.int v26_5), .val (.ref x7), .val (.ref x9), .val (.int (1 : Int32))]) rfl k) ?_
            refine Go.on (B := T53.setTop (mkF m 231 #[.val (.int p1), .val (.int p2), .val (.int p3), .val (.int p4), .val (.ref b1), .val (.ref t3), .val (.ref t4), .val (.int v26_5), .val (.ref x7), .val (.ref x9), .val (.int (1 : Int32))] [(.int (1 : Int32))])) (fun t k => XS.iload X53.here hx rfl (hb hby at_229) rfl k) ?_
            obtain ⟨fs, hr, hrun, hended, hW, hsame⟩ := X53.leave (v := some (.int (1 : Int32))) (fun h => by rw [Bd.returns] at h; cases h)
            refine ⟨_, _, ?_, hrun, hended, _, _, rfl, ?_, ⟨_, rfl⟩, hW, hsame.mono (by decide) (by decide)⟩
            · exact retN X53 hx (t := .boolean) Bd.returns (by simp) (hb hby at_231) hr
            · show Q_rm0 Z p1 p2 p3 p4 ca cc ica icc h0 n0 _ T53.heap _
              rw [e53q]
              exact ⟨rfl, N53⟩
          · refine Go.on (B := T41.setTop (mkF m 129 #[.val (.int p1), .val (.int p2), .val (.int p3), .val (.int p4), .val (.ref b1), .val (.ref t3), .val (.ref t4), .val (.int v26_5), .val (.ref x7), .val (.ref x9), .val (.int (1 : Int32))] [])) (fun t k => XS.icmpNo X41.here hx rfl (hb hby at_126) rfl (flt hc126_44).1 k) ?_
            refine Go.on (B := T41.setTop (mkF m 131 #[.val (.int p1), .val (.int p2), .val (.int p3), .val (.int p4), .val (.ref b1), .val (.ref t3), .val (.ref t4), .val (.int v26_5), .val (.ref x7), .val (.ref x9), .val (.int (1 : Int32))] [(.int (1 : Int32))])) (fun t k => XS.iload X41.here hx rfl (hb hby at_129) rfl k) ?_
            refine Go.on (B := T41.setTop (mkF m 133 #[.val (.int p1), .val (.int p2), .val (.int p3), .val (.int p4), .val (.ref b1), .val (.ref t3), .val (.ref t4), .val (.int v26_5), .val (.ref x7), .val (.ref x9), .val (.int (1 : Int32))] [(.ref b1), (.int (1 : Int32))])) (fun t k => XS.aload X41.here hx rfl (hb hby at_131) rfl rfl k) ?_
            refine Go.on (B := T41.setTop (mkF m 135 #[.val (.int p1), .val (.int p2), .val (.int p3), .val (.int p4), .val (.ref b1), .val (.ref t3), .val (.ref t4), .val (.int v26_5), .val (.ref x7), .val (.ref x9), .val (.int (1 : Int32))] [(.ref x7), (.ref b1), (.int (1 : Int32))])) (fun t k => XS.aload X41.here hx rfl (hb hby at_133) rfl rfl k) ?_
            refine Go.on (B := T41.setTop (mkF m 137 #[.val (.int p1), .val (.int p2), .val (.int p3), .val (.int p4), .val (.ref b1), .val (.ref t3), .val (.ref t4), .val (.int v26_5), .val (.ref x7), .val (.ref x9), .val (.int (1 : Int32))] [(.ref t3), (.ref x7), (.ref b1), (.int (1 : Int32))])) (fun t k => XS.aload X41.here hx rfl (hb hby at_135) rfl rfl k) ?_
            obtain ⟨cq56, kq56, q56a, q56b, q56c⟩ := isOf hZ rfl f76
            obtain ⟨_, _, ⟨T56, L56, k56, n56⟩, -, X56, ⟨Lc56, hQ56, l56, y56, z56⟩, st56⟩ := X41.virtualBack hx (y := (⟨"com/example/tailrace/tailrace/cli/Count", "add", "(Ljava/lang/Object;Lcom/example/tailrace/tailrace/cli/Count$Tally;)Lcom/example/tailrace/tailrace/cli/Count$Tally;"⟩ : MethodName)) (z := (⟨"com/example/tailrace/tailrace/cli/Count", "add", "(Ljava/lang/Object;Lcom/example/tailrace/tailrace/cli/Count$Tally;)Lcom/example/tailrace/tailrace/cli/Count$Tally;"⟩ : MethodName)) hown (mvT hZ (hw _ (List.mem_of_getElem? (i := 28) rfl))) (mvT hZ (hw _ (List.mem_of_getElem? (i := 29) rfl))) (notFace_of_selects (args := #[]) (mvT hZ (hw _ (List.mem_of_getElem? (i := 31) rfl)))) (mvT hZ (hw _ (List.mem_of_getElem? (i := 31) rfl))) (mvT hZ (hw _ (List.mem_of_getElem? (i := 30) rfl))) (by decide) (backOf (W := 1) (radd1 l Z a0 hw [] b1 x7 t3 (2 : Int64) T41.heap n0 Zs80 G41a G41b ge_t3) hZ (hw _ (List.mem_of_getElem? (i := 32) rfl)) (hw _ (List.mem_of_getElem? (i := 2) rfl)) (by decide) (by decide)) q56a q56c (g := (mkF m 137 #[.val (.int p1), .val (.int p2), .val (.int p3), .val (.int p4), .val (.ref b1), .val (.ref t3), .val (.ref t4), .val (.int v26_5), .val (.ref x7), .val (.ref x9), .val (.int (1 : Int32))] [(.ref t3), (.ref x7), (.ref b1), (.int (1 : Int32))])) rfl (by rw [hml]; rfl) (Steps.refl _) (argsL := [(.ref x7), (.ref t3)]) (rest := [(.int (1 : Int32))]) (lenOf pd_5 rfl) rfl (by show 2 * 0 + _ ≤ _; exact Nat.le_of_eq rfl) (hb hby at_137) (fun _ _ => ⟨rfl, rfl, (by decide : 5 + 0 ≤ _), (by decide : 4 + 0 ≤ _)⟩)
            dsimp only [Pt.U, Pt.locs, Pt.cells, Pt.slots] at X56 l56 y56 z56 st56 hQ56
            subst l56 y56 z56
            obtain ⟨rfl, N56q, K56q, G56a, G56b⟩ := hQ56
            have N56 := Fr.app N41 N56q
            have O_103 := O_75.keep K56q (allS ge_t3 all0)
            have f104 := f76.keep K56q
            have f105 := G41a.keep K56q
            have f106 := f78.keep K56q
            have f107 := f79.keep K56q (ninS (Ne.symm ne_t3_t4) nin0)
            have Zs108 := Nat.le_trans Zs80 K56q.1
            rw [show ((2 : Int64) + (1 : Int64)) = (3 : Int64) from by decide] at G56b
            refine Go.on (B := T56.setTop (mkF m 140 #[.val (.int p1), .val (.int p2), .val (.int p3), .val (.int p4), .val (.ref b1), .val (.ref t3), .val (.ref t4), .val (.int v26_5), .val (.ref x7), .val (.ref x9), .val (.int (1 : Int32))] [(.ref t3), (.int (1 : Int32))])) (fun t k => st56.trans k) ?_
            refine Go.on (B := T56.setTop (mkF m 142 #[.val (.int p1), .val (.int p2), .val (.int p3), .val (.int p4), .val (.ref b1), .val (.ref t3), .val (.ref t4), .val (.int v26_5), .val (.ref x7), .val (.ref x9), .val (.int (1 : Int32))] [(.ref t3), (.ref t3), (.int (1 : Int32))])) (fun t k => XS.aload X56.here hx rfl (hb hby at_140) rfl rfl k) ?_
            refine Go.on (B := T56.setTop (mkF m 145 #[.val (.int p1), .val (.int p2), .val (.int p3), .val (.int p4), .val (.ref b1), .val (.ref t3), .val (.ref t4), .val (.int v26_5), .val (.ref x7), .val (.ref x9), .val (.int (1 : Int32))] [(.int (1 : Int32))])) (fun t k => Jvm.RoadKit.acmp (g := (mkF m 142 #[.val (.int p1), .val (.int p2), .val (.int p3), .val (.int p4), .val (.ref b1), .val (.ref t3), .val (.ref t4), .val (.int v26_5), .val (.ref x7), .val (.ref x9), .val (.int (1 : Int32))] [(.ref t3), (.ref t3), (.int (1 : Int32))])) X56 hx rfl rfl rfl (pc0 := 142) (pc' := 145) (same := true) rfl (hb hby at_142) rfl (decide_eq_true rfl) (by decide) (by decide) k) ?_
            refine Go.on (B := T56.setTop (mkF m 146 #[.val (.int p1), .val (.int p2), .val (.int p3), .val (.int p4), .val (.ref b1), .val (.ref t3), .val (.ref t4), .val (.int v26_5), .val (.ref x7), .val (.ref x9), .val (.int (1 : Int32))] [(.int (1 : Int32)), (.int (1 : Int32))])) (fun t k => XS.iconst X56.here hx rfl (hb hby at_145) k) ?_
            refine Go.on (B := T56.setTop (mkF m 150 #[.val (.int p1), .val (.int p2), .val (.int p3), .val (.int p4), .val (.ref b1), .val (.ref t3), .val (.ref t4), .val (.int v26_5), .val (.ref x7), .val (.ref x9), .val (.int (1 : Int32))] [(.int (1 : Int32)), (.int (1 : Int32))])) (fun t k => XS.goto X56.here hx rfl (pc0 := 146) (pc' := 150) rfl (hb hby at_146) (by decide) (by decide) k) ?_
            refine Go.on (B := T56.setTop (mkF m 151 #[.val (.int p1), .val (.int p2), .val (.int p3), .val (.int p4), .val (.ref b1), .val (.ref t3), .val (.ref t4), .val (.int v26_5), .val (.ref x7), .val (.ref x9), .val (.int (1 : Int32))] [(.int ((1 : Int32) &&& (1 : Int32)))])) (fun t k => XS.iand X56.here hx rfl (hb hby at_150) rfl k) ?_
            rw [show ((1 : Int32) &&& (1 : Int32)) = (1 : Int32) from by decide]
            refine Go.on (B := T56.setTop (mkF m 153 #[.val (.int p1), .val (.int p2), .val (.int p3), .val (.int p4), .val (.ref b1), .val (.ref t3), .val (.ref t4), .val (.int v26_5), .val (.ref x7), .val (.ref x9), .val (.int (1 : Int32))] [])) (fun t k => XS.istore X56.here hx rfl (hb hby at_151) rfl (l' := #[.val (.int p1), .val (.int p2), .val (.int p3), .val (.int p4), .val (.ref b1), .val (.ref t3), .val (.ref t4), .val (.int v26_5), .val (.ref x7), .val (.ref x9), .val (.int (1 : Int32))]) rfl k) ?_
            refine Go.on (B := T56.setTop (mkF m 155 #[.val (.int p1), .val (.int p2), .val (.int p3), .val (.int p4), .val (.ref b1), .val (.ref t3), .val (.ref t4), .val (.int v26_5), .val (.ref x7), .val (.ref x9), .val (.int (1 : Int32))] [(.int (1 : Int32))])) (fun t k => XS.iload X56.here hx rfl (hb hby at_153) rfl k) ?_
            refine Go.on (B := T56.setTop (mkF m 157 #[.val (.int p1), .val (.int p2), .val (.int p3), .val (.int p4), .val (.ref b1), .val (.ref t3), .val (.ref t4), .val (.int v26_5), .val (.ref x7), .val (.ref x9), .val (.int (1 : Int32))] [(.ref b1), (.int (1 : Int32))])) (fun t k => XS.aload X56.here hx rfl (hb hby at_155) rfl rfl k) ?_
            refine Go.on (B := T56.setTop (mkF m 159 #[.val (.int p1), .val (.int p2), .val (.int p3), .val (.int p4), .val (.ref b1), .val (.ref t3), .val (.ref t4), .val (.int v26_5), .val (.ref x7), .val (.ref x9), .val (.int (1 : Int32))] [(.ref x9), (.ref b1), (.int (1 : Int32))])) (fun t k => XS.aload X56.here hx rfl (hb hby at_157) rfl rfl k) ?_
            refine Go.on (B := T56.setTop (mkF m 161 #[.val (.int p1), .val (.int p2), .val (.int p3), .val (.int p4), .val (.ref b1), .val (.ref t3), .val (.ref t4), .val (.int v26_5), .val (.ref x7), .val (.ref x9), .val (.int (1 : Int32))] [(.ref t4), (.ref x9), (.ref b1), (.int (1 : Int32))])) (fun t k => XS.aload X56.here hx rfl (hb hby at_159) rfl rfl k) ?_
            obtain ⟨cq59, kq59, q59a, q59b, q59c⟩ := isOf hZ rfl f104
            obtain ⟨_, _, ⟨T59, L59, k59, n59⟩, -, X59, ⟨Lc59, hQ59, l59, y59, z59⟩, st59⟩ := X56.virtualBack hx (y := (⟨"com/example/tailrace/tailrace/cli/Count", "add", "(Ljava/lang/Object;Lcom/example/tailrace/tailrace/cli/Count$Tally;)Lcom/example/tailrace/tailrace/cli/Count$Tally;"⟩ : MethodName)) (z := (⟨"com/example/tailrace/tailrace/cli/Count", "add", "(Ljava/lang/Object;Lcom/example/tailrace/tailrace/cli/Count$Tally;)Lcom/example/tailrace/tailrace/cli/Count$Tally;"⟩ : MethodName)) hown (mvT hZ (hw _ (List.mem_of_getElem? (i := 28) rfl))) (mvT hZ (hw _ (List.mem_of_getElem? (i := 29) rfl))) (notFace_of_selects (args := #[]) (mvT hZ (hw _ (List.mem_of_getElem? (i := 31) rfl)))) (mvT hZ (hw _ (List.mem_of_getElem? (i := 31) rfl))) (mvT hZ (hw _ (List.mem_of_getElem? (i := 30) rfl))) (by decide) (backOf (W := 1) (radd1 l Z a0 hw [] b1 x9 t4 (0 : Int64) T56.heap n0 Zs108 f106 f107 ge_t4) hZ (hw _ (List.mem_of_getElem? (i := 32) rfl)) (hw _ (List.mem_of_getElem? (i := 2) rfl)) (by decide) (by decide)) q59a q59c (g := (mkF m 161 #[.val (.int p1), .val (.int p2), .val (.int p3), .val (.int p4), .val (.ref b1), .val (.ref t3), .val (.ref t4), .val (.int v26_5), .val (.ref x7), .val (.ref x9), .val (.int (1 : Int32))] [(.ref t4), (.ref x9), (.ref b1), (.int (1 : Int32))])) rfl (by rw [hml]; rfl) (Steps.refl _) (argsL := [(.ref x9), (.ref t4)]) (rest := [(.int (1 : Int32))]) (lenOf pd_5 rfl) rfl (by show 2 * 0 + _ ≤ _; exact Nat.le_of_eq rfl) (hb hby at_161) (fun _ _ => ⟨rfl, rfl, (by decide : 5 + 0 ≤ _), (by decide : 4 + 0 ≤ _)⟩)
            dsimp only [Pt.U, Pt.locs, Pt.cells, Pt.slots] at X59 l59 y59 z59 st59 hQ59
            subst l59 y59 z59
            obtain ⟨rfl, N59q, K59q, G59a, G59b⟩ := hQ59
            have N59 := Fr.app N56 N59q
            have O_109 := O_103.keep K59q (allS ge_t4 all0)
            have f110 := f104.keep K59q
            have f111 := G56a.keep K59q
            have f112 := f106.keep K59q
            have f113 := G56b.keep K59q (ninS ne_t3_t4 nin0)
            have Zs114 := Nat.le_trans Zs108 K59q.1
            rw [show ((0 : Int64) + (1 : Int64)) = (1 : Int64) from by decide] at G59b
            refine Go.on (B := T59.setTop (mkF m 164 #[.val (.int p1), .val (.int p2), .val (.int p3), .val (.int p4), .val (.ref b1), .val (.ref t3), .val (.ref t4), .val (.int v26_5), .val (.ref x7), .val (.ref x9), .val (.int (1 : Int32))] [(.ref t4), (.int (1 : Int32))])) (fun t k => st59.trans k) ?_
            refine Go.on (B := T59.setTop (mkF m 166 #[.val (.int p1), .val (.int p2), .val (.int p3), .val (.int p4), .val (.ref b1), .val (.ref t3), .val (.ref t4), .val (.int v26_5), .val (.ref x7), .val (.ref x9), .val (.int (1 : Int32))] [(.ref t4), (.ref t4), (.int (1 : Int32))])) (fun t k => XS.aload X59.here hx rfl (hb hby at_164) rfl rfl k) ?_
            refine Go.on (B := T59.setTop (mkF m 169 #[.val (.int p1), .val (.int p2), .val (.int p3), .val (.int p4), .val (.ref b1), .val (.ref t3), .val (.ref t4), .val (.int v26_5), .val (.ref x7), .val (.ref x9), .val (.int (1 : Int32))] [(.int (1 : Int32))])) (fun t k => Jvm.RoadKit.acmp (g := (mkF m 166 #[.val (.int p1), .val (.int p2), .val (.int p3), .val (.int p4), .val (.ref b1), .val (.ref t3), .val (.ref t4), .val (.int v26_5), .val (.ref x7), .val (.ref x9), .val (.int (1 : Int32))] [(.ref t4), (.ref t4), (.int (1 : Int32))])) X59 hx rfl rfl rfl (pc0 := 166) (pc' := 169) (same := true) rfl (hb hby at_166) rfl (decide_eq_true rfl) (by decide) (by decide) k) ?_
            refine Go.on (B := T59.setTop (mkF m 170 #[.val (.int p1), .val (.int p2), .val (.int p3), .val (.int p4), .val (.ref b1), .val (.ref t3), .val (.ref t4), .val (.int v26_5), .val (.ref x7), .val (.ref x9), .val (.int (1 : Int32))] [(.int (1 : Int32)), (.int (1 : Int32))])) (fun t k => XS.iconst X59.here hx rfl (hb hby at_169) k) ?_
            refine Go.on (B := T59.setTop (mkF m 174 #[.val (.int p1), .val (.int p2), .val (.int p3), .val (.int p4), .val (.ref b1), .val (.ref t3), .val (.ref t4), .val (.int v26_5), .val (.ref x7), .val (.ref x9), .val (.int (1 : Int32))] [(.int (1 : Int32)), (.int (1 : Int32))])) (fun t k => XS.goto X59.here hx rfl (pc0 := 170) (pc' := 174) rfl (hb hby at_170) (by decide) (by decide) k) ?_
            refine Go.on (B := T59.setTop (mkF m 175 #[.val (.int p1), .val (.int p2), .val (.int p3), .val (.int p4), .val (.ref b1), .val (.ref t3), .val (.ref t4), .val (.int v26_5), .val (.ref x7), .val (.ref x9), .val (.int (1 : Int32))] [(.int ((1 : Int32) &&& (1 : Int32)))])) (fun t k => XS.iand X59.here hx rfl (hb hby at_174) rfl k) ?_
            rw [show ((1 : Int32) &&& (1 : Int32)) = (1 : Int32) from by decide]
            refine Go.on (B := T59.setTop (mkF m 177 #[.val (.int p1), .val (.int p2), .val (.int p3), .val (.int p4), .val (.ref b1), .val (.ref t3), .val (.ref t4), .val (.int v26_5), .val (.ref x7), .val (.ref x9), .val (.int (1 : Int32))] [])) (fun t k => XS.istore X59.here hx rfl (hb hby at_175) rfl (l' := #[.val (.int p1), .val (.int p2), .val (.int p3), .val (.int p4), .val (.ref b1), .val (.ref t3), .val (.ref t4), .val (.int v26_5), .val (.ref x7), .val (.ref x9), .val (.int (1 : Int32))]) rfl k) ?_
            refine Go.on (B := T59.setTop (mkF m 179 #[.val (.int p1), .val (.int p2), .val (.int p3), .val (.int p4), .val (.ref b1), .val (.ref t3), .val (.ref t4), .val (.int v26_5), .val (.ref x7), .val (.ref x9), .val (.int (1 : Int32))] [(.int (1 : Int32))])) (fun t k => XS.iload X59.here hx rfl (hb hby at_177) rfl k) ?_
            refine Go.on (B := T59.setTop (mkF m 181 #[.val (.int p1), .val (.int p2), .val (.int p3), .val (.int p4), .val (.ref b1), .val (.ref t3), .val (.ref t4), .val (.int v26_5), .val (.ref x7), .val (.ref x9), .val (.int (1 : Int32))] [(.ref b1), (.int (1 : Int32))])) (fun t k => XS.aload X59.here hx rfl (hb hby at_179) rfl rfl k) ?_
            refine Go.on (B := T59.setTop (mkF m 183 #[.val (.int p1), .val (.int p2), .val (.int p3), .val (.int p4), .val (.ref b1), .val (.ref t3), .val (.ref t4), .val (.int v26_5), .val (.ref x7), .val (.ref x9), .val (.int (1 : Int32))] [(.ref t3), (.ref b1), (.int (1 : Int32))])) (fun t k => XS.aload X59.here hx rfl (hb hby at_181) rfl rfl k) ?_
            obtain ⟨cq62, kq62, q62a, q62b, q62c⟩ := isOf hZ rfl f110
            obtain ⟨_, _, ⟨T62, L62, k62, n62⟩, -, X62, ⟨Lc62, hQ62, l62, y62, z62⟩, st62⟩ := X59.virtualBack hx (y := (⟨"com/example/tailrace/tailrace/cli/Count", "getResult", "(Lcom/example/tailrace/tailrace/cli/Count$Tally;)Ljava/lang/Long;"⟩ : MethodName)) (z := (⟨"com/example/tailrace/tailrace/cli/Count", "getResult", "(Lcom/example/tailrace/tailrace/cli/Count$Tally;)Ljava/lang/Long;"⟩ : MethodName)) hown (mvT hZ (hw _ (List.mem_of_getElem? (i := 35) rfl))) (mvT hZ (hw _ (List.mem_of_getElem? (i := 36) rfl))) (notFace_of_selects (args := #[]) (mvT hZ (hw _ (List.mem_of_getElem? (i := 38) rfl)))) (mvT hZ (hw _ (List.mem_of_getElem? (i := 38) rfl))) (mvT hZ (hw _ (List.mem_of_getElem? (i := 37) rfl))) (by decide) (backOf (W := 1) (rgr l Z a0 hw [] b1 t3 (3 : Int64) ca cc T59.heap n0 Zs114 f113 O_109 S_cache B_cache (by decide) (by decide)) hZ (hw _ (List.mem_of_getElem? (i := 39) rfl)) (hw _ (List.mem_of_getElem? (i := 2) rfl)) (by decide) (by decide)) q62a q62c (g := (mkF m 183 #[.val (.int p1), .val (.int p2), .val (.int p3), .val (.int p4), .val (.ref b1), .val (.ref t3), .val (.ref t4), .val (.int v26_5), .val (.ref x7), .val (.ref x9), .val (.int (1 : Int32))] [(.ref t3), (.ref b1), (.int (1 : Int32))])) rfl (by rw [hml]; rfl) (Steps.refl _) (argsL := [(.ref t3)]) (rest := [(.int (1 : Int32))]) (lenOf pd_6 rfl) rfl (by show 2 * 0 + _ ≤ _; exact Nat.le_of_eq rfl) (hb hby at_183) (fun _ _ => ⟨rfl, rfl, (by decide : 5 + 0 ≤ _), (by decide : 4 + 0 ≤ _)⟩)
            dsimp only [Pt.U, Pt.locs, Pt.cells, Pt.slots] at X62 l62 y62 z62 st62 hQ62
            subst l62 y62 z62
            obtain ⟨⟨x62, rfl, G62a, G62b⟩, N62q, K62q⟩ := hQ62
            have N62 := Fr.app N59 N62q
            have O_115 := O_109.keep K62q all0
            have f116 := f110.keep K62q
            have f117 := f111.keep K62q
            have f118 := G59a.keep K62q
            have f119 := f113.keep K62q nin0
            have f120 := G59b.keep K62q nin0
            have Zs121 := Nat.le_trans Zs114 K62q.1
            refine Go.on (B := T62.setTop (mkF m 186 #[.val (.int p1), .val (.int p2), .val (.int p3), .val (.int p4), .val (.ref b1), .val (.ref t3), .val (.ref t4), .val (.int v26_5), .val (.ref x7), .val (.ref x9), .val (.int (1 : Int32))] [(.ref x62), (.int (1 : Int32))])) (fun t k => st62.trans k) ?_
            obtain ⟨cq63, kq63, q63a, q63b, q63c⟩ := isOf hZ rfl G62a
            obtain ⟨_, _, ⟨T63, L63, k63, n63⟩, -, X63, ⟨Lc63, hQ63, l63, y63, z63⟩, st63⟩ := X62.virtualBack hx (y := (⟨"java/lang/Long", "longValue", "()J"⟩ : MethodName)) (z := (⟨"java/lang/Long", "longValue", "()J"⟩ : MethodName)) hown (mvT hZ (hw _ (List.mem_of_getElem? (i := 48) rfl))) (mvT hZ (hw _ (List.mem_of_getElem? (i := 49) rfl))) (notFace_of_selects (args := #[]) (mvT hZ (hw _ (List.mem_of_getElem? (i := 51) rfl)))) (mvT hZ (hw _ (List.mem_of_getElem? (i := 51) rfl))) (mvT hZ (hw _ (List.mem_of_getElem? (i := 50) rfl))) (by decide) (backOf (W := 1) (rval l Z a0 hw [] x62 (3 : Int64) T62.heap n0 Zs121 G62b) hZ (hw _ (List.mem_of_getElem? (i := 52) rfl)) (hw _ (List.mem_of_getElem? (i := 42) rfl)) (by decide) (by decide)) q63a q63c (g := (mkF m 186 #[.val (.int p1), .val (.int p2), .val (.int p3), .val (.int p4), .val (.ref b1), .val (.ref t3), .val (.ref t4), .val (.int v26_5), .val (.ref x7), .val (.ref x9), .val (.int (1 : Int32))] [(.ref x62), (.int (1 : Int32))])) rfl (by rw [hml]; rfl) (Steps.refl _) (argsL := []) (rest := [(.int (1 : Int32))]) (lenOf pd_7 rfl) rfl (by show 2 * 0 + _ ≤ _; exact Nat.le_of_eq rfl) (hb hby at_186) (fun _ _ => ⟨rfl, rfl, (by decide : 5 + 0 ≤ _), (by decide : 4 + 0 ≤ _)⟩)
            dsimp only [Pt.U, Pt.locs, Pt.cells, Pt.slots] at X63 l63 y63 z63 st63 hQ63
            subst l63 y63 z63
            obtain ⟨rfl, N63q, e63q⟩ := hQ63
            have N63 := Fr.app N62 N63q
            refine Go.on (B := T63.setTop (mkF m 189 #[.val (.int p1), .val (.int p2), .val (.int p3), .val (.int p4), .val (.ref b1), .val (.ref t3), .val (.ref t4), .val (.int v26_5), .val (.ref x7), .val (.ref x9), .val (.int (1 : Int32))] [(.long (3 : Int64)), (.int (1 : Int32))])) (fun t k => st63.trans k) ?_
            refine Go.on (B := T63.setTop (mkF m 191 #[.val (.int p1), .val (.int p2), .val (.int p3), .val (.int p4), .val (.ref b1), .val (.ref t3), .val (.ref t4), .val (.int v26_5), .val (.ref x7), .val (.ref x9), .val (.int (1 : Int32))] [(.int v26_5), (.long (3 : Int64)), (.int (1 : Int32))])) (fun t k => XS.iload X63.here hx rfl (hb hby at_189) rfl k) ?_
            refine Go.on (B := T63.setTop (mkF m 192 #[.val (.int p1), .val (.int p2), .val (.int p3), .val (.int p4), .val (.ref b1), .val (.ref t3), .val (.ref t4), .val (.int v26_5), .val (.ref x7), .val (.ref x9), .val (.int (1 : Int32))] [(.long (v26_5.toInt64)), (.long (3 : Int64)), (.int (1 : Int32))])) (fun t k => XS.i2l X63.here hx rfl (hb hby at_191) rfl k) ?_
            refine Go.on (B := T63.setTop (mkF m 193 #[.val (.int p1), .val (.int p2), .val (.int p3), .val (.int p4), .val (.ref b1), .val (.ref t3), .val (.ref t4), .val (.int v26_5), .val (.ref x7), .val (.ref x9), .val (.int (1 : Int32))] [(.int (lcmpW (3 : Int64) (v26_5.toInt64))), (.int (1 : Int32))])) (fun t k => XS.lcmp X63.here hx rfl (hb hby at_192) rfl k) ?_
            have hc193_64 : (3 : Int64) = (v26_5.toInt64) := by
              have q := own_n3 _ _ hv26_5
              have u0 := hc66_11
              rw [Int32.lt_iff_toInt_lt, show (1 : Int32).toInt = 1 from by decide] at u0
              have u1 := hc96_28
              rw [Int32.lt_iff_toInt_lt, show (2 : Int32).toInt = 2 from by decide] at u1
              have u2 := hc126_44
              rw [Int32.lt_iff_toInt_lt, show (3 : Int32).toInt = 3 from by decide] at u2
              exact own_is 3 (by omega) (by decide)
            refine Go.on (B := T63.setTop (mkF m 196 #[.val (.int p1), .val (.int p2), .val (.int p3), .val (.int p4), .val (.ref b1), .val (.ref t3), .val (.ref t4), .val (.int v26_5), .val (.ref x7), .val (.ref x9), .val (.int (1 : Int32))] [(.int (1 : Int32))])) (fun t k => XS.ifNo X63.here hx rfl (hb hby at_193) rfl ((if0 _ _).trans (teq ((lw_eq _ _).mpr hc193_64)).2) k) ?_
            refine Go.on (B := T63.setTop (mkF m 197 #[.val (.int p1), .val (.int p2), .val (.int p3), .val (.int p4), .val (.ref b1), .val (.ref t3), .val (.ref t4), .val (.int v26_5), .val (.ref x7), .val (.ref x9), .val (.int (1 : Int32))] [(.int (1 : Int32)), (.int (1 : Int32))])) (fun t k => XS.iconst X63.here hx rfl (hb hby at_196) k) ?_
            refine Go.on (B := T63.setTop (mkF m 201 #[.val (.int p1), .val (.int p2), .val (.int p3), .val (.int p4), .val (.ref b1), .val (.ref t3), .val (.ref t4), .val (.int v26_5), .val (.ref x7), .val (.ref x9), .val (.int (1 : Int32))] [(.int (1 : Int32)), (.int (1 : Int32))])) (fun t k => XS.goto X63.here hx rfl (pc0 := 197) (pc' := 201) rfl (hb hby at_197) (by decide) (by decide) k) ?_
            refine Go.on (B := T63.setTop (mkF m 202 #[.val (.int p1), .val (.int p2), .val (.int p3), .val (.int p4), .val (.ref b1), .val (.ref t3), .val (.ref t4), .val (.int v26_5), .val (.ref x7), .val (.ref x9), .val (.int (1 : Int32))] [(.int ((1 : Int32) &&& (1 : Int32)))])) (fun t k => XS.iand X63.here hx rfl (hb hby at_201) rfl k) ?_
            rw [show ((1 : Int32) &&& (1 : Int32)) = (1 : Int32) from by decide]
            refine Go.on (B := T63.setTop (mkF m 204 #[.val (.int p1), .val (.int p2), .val (.int p3), .val (.int p4), .val (.ref b1), .val (.ref t3), .val (.ref t4), .val (.int v26_5), .val (.ref x7), .val (.ref x9), .val (.int (1 : Int32))] [])) (fun t k => XS.istore X63.here hx rfl (hb hby at_202) rfl (l' := #[.val (.int p1), .val (.int p2), .val (.int p3), .val (.int p4), .val (.ref b1), .val (.ref t3), .val (.ref t4), .val (.int v26_5), .val (.ref x7), .val (.ref x9), .val (.int (1 : Int32))]) rfl k) ?_
            refine Go.on (B := T63.setTop (mkF m 206 #[.val (.int p1), .val (.int p2), .val (.int p3), .val (.int p4), .val (.ref b1), .val (.ref t3), .val (.ref t4), .val (.int v26_5), .val (.ref x7), .val (.ref x9), .val (.int (1 : Int32))] [(.int (1 : Int32))])) (fun t k => XS.iload X63.here hx rfl (hb hby at_204) rfl k) ?_
            refine Go.on (B := T63.setTop (mkF m 208 #[.val (.int p1), .val (.int p2), .val (.int p3), .val (.int p4), .val (.ref b1), .val (.ref t3), .val (.ref t4), .val (.int v26_5), .val (.ref x7), .val (.ref x9), .val (.int (1 : Int32))] [(.ref b1), (.int (1 : Int32))])) (fun t k => XS.aload X63.here hx rfl (hb hby at_206) rfl rfl k) ?_
            refine Go.on (B := T63.setTop (mkF m 210 #[.val (.int p1), .val (.int p2), .val (.int p3), .val (.int p4), .val (.ref b1), .val (.ref t3), .val (.ref t4), .val (.int v26_5), .val (.ref x7), .val (.ref x9), .val (.int (1 : Int32))] [(.ref t4), (.ref b1), (.int (1 : Int32))])) (fun t k => XS.aload X63.here hx rfl (hb hby at_208) rfl rfl k) ?_
            obtain ⟨cq66, kq66, q66a, q66b, q66c⟩ := isOf hZ e63q f116
            obtain ⟨_, _, ⟨T66, L66, k66, n66⟩, -, X66, ⟨Lc66, hQ66, l66, y66, z66⟩, st66⟩ := X63.virtualBack hx (y := (⟨"com/example/tailrace/tailrace/cli/Count", "getResult", "(Lcom/example/tailrace/tailrace/cli/Count$Tally;)Ljava/lang/Long;"⟩ : MethodName)) (z := (⟨"com/example/tailrace/tailrace/cli/Count", "getResult", "(Lcom/example/tailrace/tailrace/cli/Count$Tally;)Ljava/lang/Long;"⟩ : MethodName)) hown (mvT hZ (hw _ (List.mem_of_getElem? (i := 35) rfl))) (mvT hZ (hw _ (List.mem_of_getElem? (i := 36) rfl))) (notFace_of_selects (args := #[]) (mvT hZ (hw _ (List.mem_of_getElem? (i := 38) rfl)))) (mvT hZ (hw _ (List.mem_of_getElem? (i := 38) rfl))) (mvT hZ (hw _ (List.mem_of_getElem? (i := 37) rfl))) (by decide) (backOf (W := 1) (rgr l Z a0 hw [] b1 t4 (1 : Int64) ca cc T62.heap n0 Zs121 f120 O_115 S_cache B_cache (by decide) (by decide)) hZ (hw _ (List.mem_of_getElem? (i := 39) rfl)) (hw _ (List.mem_of_getElem? (i := 2) rfl)) (by decide) (by decide)) q66a q66c (g := (mkF m 210 #[.val (.int p1), .val (.int p2), .val (.int p3), .val (.int p4), .val (.ref b1), .val (.ref t3), .val (.ref t4), .val (.int v26_5), .val (.ref x7), .val (.ref x9), .val (.int (1 : Int32))] [(.ref t4), (.ref b1), (.int (1 : Int32))])) rfl (by rw [hml]; rfl) (Steps.refl _) (argsL := [(.ref t4)]) (rest := [(.int (1 : Int32))]) (lenOf pd_6 rfl) rfl (by show 2 * 0 + _ ≤ _; exact Nat.le_of_eq rfl) (hb hby at_210) (fun _ _ => ⟨rfl, e63q, (by decide : 5 + 0 ≤ _), (by decide : 4 + 0 ≤ _)⟩)
            dsimp only [Pt.U, Pt.locs, Pt.cells, Pt.slots] at X66 l66 y66 z66 st66 hQ66
            subst l66 y66 z66
            obtain ⟨⟨x66, rfl, G66a, G66b⟩, N66q, K66q⟩ := hQ66
            have N66 := Fr.app N63 N66q
            have O_122 := O_115.keep K66q all0
            have f123 := f116.keep K66q
            have f124 := f117.keep K66q
            have f125 := f118.keep K66q
            have f126 := f119.keep K66q nin0
            have f127 := f120.keep K66q nin0
            have f128 := G62a.keep K66q
            have f129 := G62b.keep K66q nin0
            have Zs130 := Nat.le_trans Zs121 K66q.1
            refine Go.on (B := T66.setTop (mkF m 213 #[.val (.int p1), .val (.int p2), .val (.int p3), .val (.int p4), .val (.ref b1), .val (.ref t3), .val (.ref t4), .val (.int v26_5), .val (.ref x7), .val (.ref x9), .val (.int (1 : Int32))] [(.ref x66), (.int (1 : Int32))])) (fun t k => st66.trans k) ?_
            obtain ⟨cq67, kq67, q67a, q67b, q67c⟩ := isOf hZ rfl G66a
            obtain ⟨_, _, ⟨T67, L67, k67, n67⟩, -, X67, ⟨Lc67, hQ67, l67, y67, z67⟩, st67⟩ := X66.virtualBack hx (y := (⟨"java/lang/Long", "longValue", "()J"⟩ : MethodName)) (z := (⟨"java/lang/Long", "longValue", "()J"⟩ : MethodName)) hown (mvT hZ (hw _ (List.mem_of_getElem? (i := 48) rfl))) (mvT hZ (hw _ (List.mem_of_getElem? (i := 49) rfl))) (notFace_of_selects (args := #[]) (mvT hZ (hw _ (List.mem_of_getElem? (i := 51) rfl)))) (mvT hZ (hw _ (List.mem_of_getElem? (i := 51) rfl))) (mvT hZ (hw _ (List.mem_of_getElem? (i := 50) rfl))) (by decide) (backOf (W := 1) (rval l Z a0 hw [] x66 (1 : Int64) T66.heap n0 Zs130 G66b) hZ (hw _ (List.mem_of_getElem? (i := 52) rfl)) (hw _ (List.mem_of_getElem? (i := 42) rfl)) (by decide) (by decide)) q67a q67c (g := (mkF m 213 #[.val (.int p1), .val (.int p2), .val (.int p3), .val (.int p4), .val (.ref b1), .val (.ref t3), .val (.ref t4), .val (.int v26_5), .val (.ref x7), .val (.ref x9), .val (.int (1 : Int32))] [(.ref x66), (.int (1 : Int32))])) rfl (by rw [hml]; rfl) (Steps.refl _) (argsL := []) (rest := [(.int (1 : Int32))]) (lenOf pd_7 rfl) rfl (by show 2 * 0 + _ ≤ _; exact Nat.le_of_eq rfl) (hb hby at_213) (fun _ _ => ⟨rfl, rfl, (by decide : 5 + 0 ≤ _), (by decide : 4 + 0 ≤ _)⟩)
            dsimp only [Pt.U, Pt.locs, Pt.cells, Pt.slots] at X67 l67 y67 z67 st67 hQ67
            subst l67 y67 z67
            obtain ⟨rfl, N67q, e67q⟩ := hQ67
            have N67 := Fr.app N66 N67q
            refine Go.on (B := T67.setTop (mkF m 216 #[.val (.int p1), .val (.int p2), .val (.int p3), .val (.int p4), .val (.ref b1), .val (.ref t3), .val (.ref t4), .val (.int v26_5), .val (.ref x7), .val (.ref x9), .val (.int (1 : Int32))] [(.long (1 : Int64)), (.int (1 : Int32))])) (fun t k => st67.trans k) ?_
            refine Go.on (B := T67.setTop (mkF m 217 #[.val (.int p1), .val (.int p2), .val (.int p3), .val (.int p4), .val (.ref b1), .val (.ref t3), .val (.ref t4), .val (.int v26_5), .val (.ref x7), .val (.ref x9), .val (.int (1 : Int32))] [(.long (1 : Int64)), (.long (1 : Int64)), (.int (1 : Int32))])) (fun t k => XS.lconst X67.here hx rfl (hb hby at_216) k) ?_
            refine Go.on (B := T67.setTop (mkF m 218 #[.val (.int p1), .val (.int p2), .val (.int p3), .val (.int p4), .val (.ref b1), .val (.ref t3), .val (.ref t4), .val (.int v26_5), .val (.ref x7), .val (.ref x9), .val (.int (1 : Int32))] [(.int (lcmpW (1 : Int64) (1 : Int64))), (.int (1 : Int32))])) (fun t k => XS.lcmp X67.here hx rfl (hb hby at_217) rfl k) ?_
            have hc218_68 : (1 : Int64) = (1 : Int64) := by decide
            refine Go.on (B := T67.setTop (mkF m 221 #[.val (.int p1), .val (.int p2), .val (.int p3), .val (.int p4), .val (.ref b1), .val (.ref t3), .val (.ref t4), .val (.int v26_5), .val (.ref x7), .val (.ref x9), .val (.int (1 : Int32))] [(.int (1 : Int32))])) (fun t k => XS.ifNo X67.here hx rfl (hb hby at_218) rfl ((if0 _ _).trans (teq ((lw_eq _ _).mpr hc218_68)).2) k) ?_
            refine Go.on (B := T67.setTop (mkF m 222 #[.val (.int p1), .val (.int p2), .val (.int p3), .val (.int p4), .val (.ref b1), .val (.ref t3), .val (.ref t4), .val (.int v26_5), .val (.ref x7), .val (.ref x9), .val (.int (1 : Int32))] [(.int (1 : Int32)), (.int (1 : Int32))])) (fun t k => XS.iconst X67.here hx rfl (hb hby at_221) k) ?_
            refine Go.on (B := T67.setTop (mkF m 226 #[.val (.int p1), .val (.int p2), .val (.int p3), .val (.int p4), .val (.ref b1), .val (.ref t3), .val (.ref t4), .val (.int v26_5), .val (.ref x7), .val (.ref x9), .val (.int (1 : Int32))] [(.int (1 : Int32)), (.int (1 : Int32))])) (fun t k => XS.goto X67.here hx rfl (pc0 := 222) (pc' := 226) rfl (hb hby at_222) (by decide) (by decide) k) ?_
            refine Go.on (B := T67.setTop (mkF m 227 #[.val (.int p1), .val (.int p2), .val (.int p3), .val (.int p4), .val (.ref b1), .val (.ref t3), .val (.ref t4), .val (.int v26_5), .val (.ref x7), .val (.ref x9), .val (.int (1 : Int32))] [(.int ((1 : Int32) &&& (1 : Int32)))])) (fun t k => XS.iand X67.here hx rfl (hb hby at_226) rfl k) ?_
            rw [show ((1 : Int32) &&& (1 : Int32)) = (1 : Int32) from by decide]
            refine Go.on (B := T67.setTop (mkF m 229 #[.val (.int p1), .val (.int p2), .val (.int p3), .val (.int p4), .val (.ref b1), .val (.ref t3), .val (.ref t4), .val (.int v26_5), .val (.ref x7), .val (.ref x9), .val (.int (1 : Int32))] [])) (fun t k => XS.istore X67.here hx rfl (hb hby at_227) rfl (l' := #[.val (.int p1), .val (.int p2), .val (.int p3), .val (.int p4), .val (.ref b1), .val (.ref t3), .val (.ref t4), .val (.int v26_5), .val (.ref x7), .val (.ref x9), .val (.int (1 : Int32))]) rfl k) ?_
            refine Go.on (B := T67.setTop (mkF m 231 #[.val (.int p1), .val (.int p2), .val (.int p3), .val (.int p4), .val (.ref b1), .val (.ref t3), .val (.ref t4), .val (.int v26_5), .val (.ref x7), .val (.ref x9), .val (.int (1 : Int32))] [(.int (1 : Int32))])) (fun t k => XS.iload X67.here hx rfl (hb hby at_229) rfl k) ?_
            obtain ⟨fs, hr, hrun, hended, hW, hsame⟩ := X67.leave (v := some (.int (1 : Int32))) (fun h => by rw [Bd.returns] at h; cases h)
            refine ⟨_, _, ?_, hrun, hended, _, _, rfl, ?_, ⟨_, rfl⟩, hW, hsame.mono (by decide) (by decide)⟩
            · exact retN X67 hx (t := .boolean) Bd.returns (by simp) (hb hby at_231) hr
            · show Q_rm0 Z p1 p2 p3 p4 ca cc ica icc h0 n0 _ T67.heap _
              rw [e67q]
              exact ⟨rfl, N67⟩
    · refine Go.on (B := T7.setTop (mkF m 50 #[.val (.int p1), .val (.int p2), .val (.int p3), .val (.int p4), .val (.ref b1), .val (.ref t3), .val (.ref t4), .val (.int v26_5), .val (.ref x7), .unset, .unset] [])) (fun t k => XS.ifNo X7.here hx rfl (hb hby at_47) rfl ((if0 _ _).trans (feq hc47_8).1) k) ?_
      refine Go.on (B := T7.setTop (mkF m 51 #[.val (.int p1), .val (.int p2), .val (.int p3), .val (.int p4), .val (.ref b1), .val (.ref t3), .val (.ref t4), .val (.int v26_5), .val (.ref x7), .unset, .unset] [.null])) (fun t k => XS.aconstNull X7.here hx rfl (hb hby at_50) k) ?_
      refine Go.on (B := T7.setTop (mkF m 58 #[.val (.int p1), .val (.int p2), .val (.int p3), .val (.int p4), .val (.ref b1), .val (.ref t3), .val (.ref t4), .val (.int v26_5), .val (.ref x7), .unset, .unset] [.null])) (fun t k => XS.goto X7.here hx rfl (pc0 := 51) (pc' := 58) rfl (hb hby at_51) (by decide) (by decide) k) ?_
      refine Go.on (B := T7.setTop (mkF m 60 #[.val (.int p1), .val (.int p2), .val (.int p3), .val (.int p4), .val (.ref b1), .val (.ref t3), .val (.ref t4), .val (.int v26_5), .val (.ref x7), .val .null, .unset] [])) (fun t k => XS.astore X7.here hx rfl (hb hby at_58) rfl rfl (l' := #[.val (.int p1), .val (.int p2), .val (.int p3), .val (.int p4), .val (.ref b1), .val (.ref t3), .val (.ref t4), .val (.int v26_5), .val (.ref x7), .val .null, .unset]) rfl k) ?_
      refine Go.on (B := T7.setTop (mkF m 61 #[.val (.int p1), .val (.int p2), .val (.int p3), .val (.int p4), .val (.ref b1), .val (.ref t3), .val (.ref t4), .val (.int v26_5), .val (.ref x7), .val .null, .unset] [(.int (1 : Int32))])) (fun t k => XS.iconst X7.here hx rfl (hb hby at_60) k) ?_
      refine Go.on (B := T7.setTop (mkF m 63 #[.val (.int p1), .val (.int p2), .val (.int p3), .val (.int p4), .val (.ref b1), .val (.ref t3), .val (.ref t4), .val (.int v26_5), .val (.ref x7), .val .null, .val (.int (1 : Int32))] [])) (fun t k => XS.istore X7.here hx rfl (hb hby at_61) rfl (l' := #[.val (.int p1), .val (.int p2), .val (.int p3), .val (.int p4), .val (.ref b1), .val (.ref t3), .val (.ref t4), .val (.int v26_5), .val (.ref x7), .val .null, .val (.int (1 : Int32))]) rfl k) ?_
      refine Go.on (B := T7.setTop (mkF m 65 #[.val (.int p1), .val (.int p2), .val (.int p3), .val (.int p4), .val (.ref b1), .val (.ref t3), .val (.ref t4), .val (.int v26_5), .val (.ref x7), .val .null, .val (.int (1 : Int32))] [(.int v26_5)])) (fun t k => XS.iload X7.here hx rfl (hb hby at_63) rfl k) ?_
      refine Go.on (B := T7.setTop (mkF m 66 #[.val (.int p1), .val (.int p2), .val (.int p3), .val (.int p4), .val (.ref b1), .val (.ref t3), .val (.ref t4), .val (.int v26_5), .val (.ref x7), .val .null, .val (.int (1 : Int32))] [(.int (1 : Int32)), (.int v26_5)])) (fun t k => XS.iconst X7.here hx rfl (hb hby at_65) k) ?_
      by_cases hc66_71 : v26_5 < (1 : Int32)
      · refine Go.on (B := T7.setTop (mkF m 93 #[.val (.int p1), .val (.int p2), .val (.int p3), .val (.int p4), .val (.ref b1), .val (.ref t3), .val (.ref t4), .val (.int v26_5), .val (.ref x7), .val .null, .val (.int (1 : Int32))] [])) (fun t k => XS.icmpYes X7.here hx rfl (pc0 := 66) (pc' := 93) rfl (hb hby at_66) rfl (tlt hc66_71).1 (by decide) (by decide) k) ?_
        refine Go.on (B := T7.setTop (mkF m 95 #[.val (.int p1), .val (.int p2), .val (.int p3), .val (.int p4), .val (.ref b1), .val (.ref t3), .val (.ref t4), .val (.int v26_5), .val (.ref x7), .val .null, .val (.int (1 : Int32))] [(.int v26_5)])) (fun t k => XS.iload X7.here hx rfl (hb hby at_93) rfl k) ?_
        refine Go.on (B := T7.setTop (mkF m 96 #[.val (.int p1), .val (.int p2), .val (.int p3), .val (.int p4), .val (.ref b1), .val (.ref t3), .val (.ref t4), .val (.int v26_5), .val (.ref x7), .val .null, .val (.int (1 : Int32))] [(.int (2 : Int32)), (.int v26_5)])) (fun t k => XS.iconst X7.here hx rfl (hb hby at_95) k) ?_
        have hc96_72 : v26_5 < (2 : Int32) := own_up2 hc66_71 (by decide)
        refine Go.on (B := T7.setTop (mkF m 123 #[.val (.int p1), .val (.int p2), .val (.int p3), .val (.int p4), .val (.ref b1), .val (.ref t3), .val (.ref t4), .val (.int v26_5), .val (.ref x7), .val .null, .val (.int (1 : Int32))] [])) (fun t k => XS.icmpYes X7.here hx rfl (pc0 := 96) (pc' := 123) rfl (hb hby at_96) rfl (tlt hc96_72).1 (by decide) (by decide) k) ?_
        refine Go.on (B := T7.setTop (mkF m 125 #[.val (.int p1), .val (.int p2), .val (.int p3), .val (.int p4), .val (.ref b1), .val (.ref t3), .val (.ref t4), .val (.int v26_5), .val (.ref x7), .val .null, .val (.int (1 : Int32))] [(.int v26_5)])) (fun t k => XS.iload X7.here hx rfl (hb hby at_123) rfl k) ?_
        refine Go.on (B := T7.setTop (mkF m 126 #[.val (.int p1), .val (.int p2), .val (.int p3), .val (.int p4), .val (.ref b1), .val (.ref t3), .val (.ref t4), .val (.int v26_5), .val (.ref x7), .val .null, .val (.int (1 : Int32))] [(.int (3 : Int32)), (.int v26_5)])) (fun t k => XS.iconst X7.here hx rfl (hb hby at_125) k) ?_
        have hc126_73 : v26_5 < (3 : Int32) := own_up2 hc96_72 (by decide)
        refine Go.on (B := T7.setTop (mkF m 153 #[.val (.int p1), .val (.int p2), .val (.int p3), .val (.int p4), .val (.ref b1), .val (.ref t3), .val (.ref t4), .val (.int v26_5), .val (.ref x7), .val .null, .val (.int (1 : Int32))] [])) (fun t k => XS.icmpYes X7.here hx rfl (pc0 := 126) (pc' := 153) rfl (hb hby at_126) rfl (tlt hc126_73).1 (by decide) (by decide) k) ?_
        refine Go.on (B := T7.setTop (mkF m 155 #[.val (.int p1), .val (.int p2), .val (.int p3), .val (.int p4), .val (.ref b1), .val (.ref t3), .val (.ref t4), .val (.int v26_5), .val (.ref x7), .val .null, .val (.int (1 : Int32))] [(.int (1 : Int32))])) (fun t k => XS.iload X7.here hx rfl (hb hby at_153) rfl k) ?_
        refine Go.on (B := T7.setTop (mkF m 157 #[.val (.int p1), .val (.int p2), .val (.int p3), .val (.int p4), .val (.ref b1), .val (.ref t3), .val (.ref t4), .val (.int v26_5), .val (.ref x7), .val .null, .val (.int (1 : Int32))] [(.ref b1), (.int (1 : Int32))])) (fun t k => XS.aload X7.here hx rfl (hb hby at_155) rfl rfl k) ?_
        refine Go.on (B := T7.setTop (mkF m 159 #[.val (.int p1), .val (.int p2), .val (.int p3), .val (.int p4), .val (.ref b1), .val (.ref t3), .val (.ref t4), .val (.int v26_5), .val (.ref x7), .val .null, .val (.int (1 : Int32))] [.null, (.ref b1), (.int (1 : Int32))])) (fun t k => XS.aload X7.here hx rfl (hb hby at_157) rfl rfl k) ?_
        refine Go.on (B := T7.setTop (mkF m 161 #[.val (.int p1), .val (.int p2), .val (.int p3), .val (.int p4), .val (.ref b1), .val (.ref t3), .val (.ref t4), .val (.int v26_5), .val (.ref x7), .val .null, .val (.int (1 : Int32))] [(.ref t4), .null, (.ref b1), (.int (1 : Int32))])) (fun t k => XS.aload X7.here hx rfl (hb hby at_159) rfl rfl k) ?_
        obtain ⟨cq74, kq74, q74a, q74b, q74c⟩ := isOf hZ rfl f12
        obtain ⟨_, _, ⟨T74, L74, k74, n74⟩, -, X74, ⟨Lc74, hQ74, l74, y74, z74⟩, st74⟩ := X7.virtualBack hx (y := (⟨"com/example/tailrace/tailrace/cli/Count", "add", "(Ljava/lang/Object;Lcom/example/tailrace/tailrace/cli/Count$Tally;)Lcom/example/tailrace/tailrace/cli/Count$Tally;"⟩ : MethodName)) (z := (⟨"com/example/tailrace/tailrace/cli/Count", "add", "(Ljava/lang/Object;Lcom/example/tailrace/tailrace/cli/Count$Tally;)Lcom/example/tailrace/tailrace/cli/Count$Tally;"⟩ : MethodName)) hown (mvT hZ (hw _ (List.mem_of_getElem? (i := 28) rfl))) (mvT hZ (hw _ (List.mem_of_getElem? (i := 29) rfl))) (notFace_of_selects (args := #[]) (mvT hZ (hw _ (List.mem_of_getElem? (i := 31) rfl)))) (mvT hZ (hw _ (List.mem_of_getElem? (i := 31) rfl))) (mvT hZ (hw _ (List.mem_of_getElem? (i := 30) rfl))) (by decide) (backOf (W := 1) (radd0 l Z a0 hw [] b1 t4 (0 : Int64) T7.heap n0 Zs17 f15 f16 ge_t4) hZ (hw _ (List.mem_of_getElem? (i := 32) rfl)) (hw _ (List.mem_of_getElem? (i := 2) rfl)) (by decide) (by decide)) q74a q74c (g := (mkF m 161 #[.val (.int p1), .val (.int p2), .val (.int p3), .val (.int p4), .val (.ref b1), .val (.ref t3), .val (.ref t4), .val (.int v26_5), .val (.ref x7), .val .null, .val (.int (1 : Int32))] [(.ref t4), .null, (.ref b1), (.int (1 : Int32))])) rfl (by rw [hml]; rfl) (Steps.refl _) (argsL := [.null, (.ref t4)]) (rest := [(.int (1 : Int32))]) (lenOf pd_5 rfl) rfl (by show 2 * 0 + _ ≤ _; exact Nat.le_of_eq rfl) (hb hby at_161) (fun _ _ => ⟨rfl, rfl, (by decide : 4 + 0 ≤ _), (by decide : 3 + 0 ≤ _)⟩)
        dsimp only [Pt.U, Pt.locs, Pt.cells, Pt.slots] at X74 l74 y74 z74 st74 hQ74
        subst l74 y74 z74
        obtain ⟨rfl, N74q, K74q, G74a, G74b⟩ := hQ74
        have N74 := Fr.app N7 N74q
        have O_131 := O_11.keep K74q (allS ge_t4 all0)
        have f132 := f12.keep K74q
        have f133 := f13.keep K74q
        have f134 := f14.keep K74q (ninS ne_t3_t4 nin0)
        have f135 := f15.keep K74q
        have Zs136 := Nat.le_trans Zs17 K74q.1
        rw [show ((0 : Int64) + (1 : Int64)) = (1 : Int64) from by decide] at G74b
        refine Go.on (B := T74.setTop (mkF m 164 #[.val (.int p1), .val (.int p2), .val (.int p3), .val (.int p4), .val (.ref b1), .val (.ref t3), .val (.ref t4), .val (.int v26_5), .val (.ref x7), .val .null, .val (.int (1 : Int32))] [(.ref t4), (.int (1 : Int32))])) (fun t k => st74.trans k) ?_
        refine Go.on (B := T74.setTop (mkF m 166 #[.val (.int p1), .val (.int p2), .val (.int p3), .val (.int p4), .val (.ref b1), .val (.ref t3), .val (.ref t4), .val (.int v26_5), .val (.ref x7), .val .null, .val (.int (1 : Int32))] [(.ref t4), (.ref t4), (.int (1 : Int32))])) (fun t k => XS.aload X74.here hx rfl (hb hby at_164) rfl rfl k) ?_
        refine Go.on (B := T74.setTop (mkF m 169 #[.val (.int p1), .val (.int p2), .val (.int p3), .val (.int p4), .val (.ref b1), .val (.ref t3), .val (.ref t4), .val (.int v26_5), .val (.ref x7), .val .null, .val (.int (1 : Int32))] [(.int (1 : Int32))])) (fun t k => Jvm.RoadKit.acmp (g := (mkF m 166 #[.val (.int p1), .val (.int p2), .val (.int p3), .val (.int p4), .val (.ref b1), .val (.ref t3), .val (.ref t4), .val (.int v26_5), .val (.ref x7), .val .null, .val (.int (1 : Int32))] [(.ref t4), (.ref t4), (.int (1 : Int32))])) X74 hx rfl rfl rfl (pc0 := 166) (pc' := 169) (same := true) rfl (hb hby at_166) rfl (decide_eq_true rfl) (by decide) (by decide) k) ?_
        refine Go.on (B := T74.setTop (mkF m 170 #[.val (.int p1), .val (.int p2), .val (.int p3), .val (.int p4), .val (.ref b1), .val (.ref t3), .val (.ref t4), .val (.int v26_5), .val (.ref x7), .val .null, .val (.int (1 : Int32))] [(.int (1 : Int32)), (.int (1 : Int32))])) (fun t k => XS.iconst X74.here hx rfl (hb hby at_169) k) ?_
        refine Go.on (B := T74.setTop (mkF m 174 #[.val (.int p1), .val (.int p2), .val (.int p3), .val (.int p4), .val (.ref b1), .val (.ref t3), .val (.ref t4), .val (.int v26_5), .val (.ref x7), .val .null, .val (.int (1 : Int32))] [(.int (1 : Int32)), (.int (1 : Int32))])) (fun t k => XS.goto X74.here hx rfl (pc0 := 170) (pc' := 174) rfl (hb hby at_170) (by decide) (by decide) k) ?_
        refine Go.on (B := T74.setTop (mkF m 175 #[.val (.int p1), .val (.int p2), .val (.int p3), .val (.int p4), .val (.ref b1), .val (.ref t3), .val (.ref t4), .val (.int v26_5), .val (.ref x7), .val .null, .val (.int (1 : Int32))] [(.int ((1 : Int32) &&& (1 : Int32)))])) (fun t k => XS.iand X74.here hx rfl (hb hby at_174) rfl k) ?_
        rw [show ((1 : Int32) &&& (1 : Int32)) = (1 : Int32) from by decide]
        refine Go.on (B := T74.setTop (mkF m 177 #[.val (.int p1), .val (.int p2), .val (.int p3), .val (.int p4), .val (.ref b1), .val (.ref t3), .val (.ref t4), .val (.int v26_5), .val (.ref x7), .val .null, .val (.int (1 : Int32))] [])) (fun t k => XS.istore X74.here hx rfl (hb hby at_175) rfl (l' := #[.val (.int p1), .val (.int p2), .val (.int p3), .val (.int p4), .val (.ref b1), .val (.ref t3), .val (.ref t4), .val (.int v26_5), .val (.ref x7), .val .null, .val (.int (1 : Int32))]) rfl k) ?_
        refine Go.on (B := T74.setTop (mkF m 179 #[.val (.int p1), .val (.int p2), .val (.int p3), .val (.int p4), .val (.ref b1), .val (.ref t3), .val (.ref t4), .val (.int v26_5), .val (.ref x7), .val .null, .val (.int (1 : Int32))] [(.int (1 : Int32))])) (fun t k => XS.iload X74.here hx rfl (hb hby at_177) rfl k) ?_
        refine Go.on (B := T74.setTop (mkF m 181 #[.val (.int p1), .val (.int p2), .val (.int p3), .val (.int p4), .val (.ref b1), .val (.ref t3), .val (.ref t4), .val (.int v26_5), .val (.ref x7), .val .null, .val (.int (1 : Int32))] [(.ref b1), (.int (1 : Int32))])) (fun t k => XS.aload X74.here hx rfl (hb hby at_179) rfl rfl k) ?_
        refine Go.on (B := T74.setTop (mkF m 183 #[.val (.int p1), .val (.int p2), .val (.int p3), .val (.int p4), .val (.ref b1), .val (.ref t3), .val (.ref t4), .val (.int v26_5), .val (.ref x7), .val .null, .val (.int (1 : Int32))] [(.ref t3), (.ref b1), (.int (1 : Int32))])) (fun t k => XS.aload X74.here hx rfl (hb hby at_181) rfl rfl k) ?_
        obtain ⟨cq77, kq77, q77a, q77b, q77c⟩ := isOf hZ rfl f132
        obtain ⟨_, _, ⟨T77, L77, k77, n77⟩, -, X77, ⟨Lc77, hQ77, l77, y77, z77⟩, st77⟩ := X74.virtualBack hx (y := (⟨"com/example/tailrace/tailrace/cli/Count", "getResult", "(Lcom/example/tailrace/tailrace/cli/Count$Tally;)Ljava/lang/Long;"⟩ : MethodName)) (z := (⟨"com/example/tailrace/tailrace/cli/Count", "getResult", "(Lcom/example/tailrace/tailrace/cli/Count$Tally;)Ljava/lang/Long;"⟩ : MethodName)) hown (mvT hZ (hw _ (List.mem_of_getElem? (i := 35) rfl))) (mvT hZ (hw _ (List.mem_of_getElem? (i := 36) rfl))) (notFace_of_selects (args := #[]) (mvT hZ (hw _ (List.mem_of_getElem? (i := 38) rfl)))) (mvT hZ (hw _ (List.mem_of_getElem? (i := 38) rfl))) (mvT hZ (hw _ (List.mem_of_getElem? (i := 37) rfl))) (by decide) (backOf (W := 1) (rgr l Z a0 hw [] b1 t3 (0 : Int64) ca cc T74.heap n0 Zs136 f134 O_131 S_cache B_cache (by decide) (by decide)) hZ (hw _ (List.mem_of_getElem? (i := 39) rfl)) (hw _ (List.mem_of_getElem? (i := 2) rfl)) (by decide) (by decide)) q77a q77c (g := (mkF m 183 #[.val (.int p1), .val (.int p2), .val (.int p3), .val (.int p4), .val (.ref b1), .val (.ref t3), .val (.ref t4), .val (.int v26_5), .val (.ref x7), .val .null, .val (.int (1 : Int32))] [(.ref t3), (.ref b1), (.int (1 : Int32))])) rfl (by rw [hml]; rfl) (Steps.refl _) (argsL := [(.ref t3)]) (rest := [(.int (1 : Int32))]) (lenOf pd_6 rfl) rfl (by show 2 * 0 + _ ≤ _; exact Nat.le_of_eq rfl) (hb hby at_183) (fun _ _ => ⟨rfl, rfl, (by decide : 4 + 0 ≤ _), (by decide : 3 + 0 ≤ _)⟩)
        dsimp only [Pt.U, Pt.locs, Pt.cells, Pt.slots] at X77 l77 y77 z77 st77 hQ77
        subst l77 y77 z77
        obtain ⟨⟨x77, rfl, G77a, G77b⟩, N77q, K77q⟩ := hQ77
        have N77 := Fr.app N74 N77q
        have O_137 := O_131.keep K77q all0
        have f138 := f132.keep K77q
        have f139 := f133.keep K77q
        have f140 := f134.keep K77q nin0
        have f141 := G74a.keep K77q
        have f142 := G74b.keep K77q nin0
        have Zs143 := Nat.le_trans Zs136 K77q.1
        refine Go.on (B := T77.setTop (mkF m 186 #[.val (.int p1), .val (.int p2), .val (.int p3), .val (.int p4), .val (.ref b1), .val (.ref t3), .val (.ref t4), .val (.int v26_5), .val (.ref x7), .val .null, .val (.int (1 : Int32))] [(.ref x77), (.int (1 : Int32))])) (fun t k => st77.trans k) ?_
        obtain ⟨cq78, kq78, q78a, q78b, q78c⟩ := isOf hZ rfl G77a
        obtain ⟨_, _, ⟨T78, L78, k78, n78⟩, -, X78, ⟨Lc78, hQ78, l78, y78, z78⟩, st78⟩ := X77.virtualBack hx (y := (⟨"java/lang/Long", "longValue", "()J"⟩ : MethodName)) (z := (⟨"java/lang/Long", "longValue", "()J"⟩ : MethodName)) hown (mvT hZ (hw _ (List.mem_of_getElem? (i := 48) rfl))) (mvT hZ (hw _ (List.mem_of_getElem? (i := 49) rfl))) (notFace_of_selects (args := #[]) (mvT hZ (hw _ (List.mem_of_getElem? (i := 51) rfl)))) (mvT hZ (hw _ (List.mem_of_getElem? (i := 51) rfl))) (mvT hZ (hw _ (List.mem_of_getElem? (i := 50) rfl))) (by decide) (backOf (W := 1) (rval l Z a0 hw [] x77 (0 : Int64) T77.heap n0 Zs143 G77b) hZ (hw _ (List.mem_of_getElem? (i := 52) rfl)) (hw _ (List.mem_of_getElem? (i := 42) rfl)) (by decide) (by decide)) q78a q78c (g := (mkF m 186 #[.val (.int p1), .val (.int p2), .val (.int p3), .val (.int p4), .val (.ref b1), .val (.ref t3), .val (.ref t4), .val (.int v26_5), .val (.ref x7), .val .null, .val (.int (1 : Int32))] [(.ref x77), (.int (1 : Int32))])) rfl (by rw [hml]; rfl) (Steps.refl _) (argsL := []) (rest := [(.int (1 : Int32))]) (lenOf pd_7 rfl) rfl (by show 2 * 0 + _ ≤ _; exact Nat.le_of_eq rfl) (hb hby at_186) (fun _ _ => ⟨rfl, rfl, (by decide : 4 + 0 ≤ _), (by decide : 3 + 0 ≤ _)⟩)
        dsimp only [Pt.U, Pt.locs, Pt.cells, Pt.slots] at X78 l78 y78 z78 st78 hQ78
        subst l78 y78 z78
        obtain ⟨rfl, N78q, e78q⟩ := hQ78
        have N78 := Fr.app N77 N78q
        refine Go.on (B := T78.setTop (mkF m 189 #[.val (.int p1), .val (.int p2), .val (.int p3), .val (.int p4), .val (.ref b1), .val (.ref t3), .val (.ref t4), .val (.int v26_5), .val (.ref x7), .val .null, .val (.int (1 : Int32))] [(.long (0 : Int64)), (.int (1 : Int32))])) (fun t k => st78.trans k) ?_
        refine Go.on (B := T78.setTop (mkF m 191 #[.val (.int p1), .val (.int p2), .val (.int p3), .val (.int p4), .val (.ref b1), .val (.ref t3), .val (.ref t4), .val (.int v26_5), .val (.ref x7), .val .null, .val (.int (1 : Int32))] [(.int v26_5), (.long (0 : Int64)), (.int (1 : Int32))])) (fun t k => XS.iload X78.here hx rfl (hb hby at_189) rfl k) ?_
        refine Go.on (B := T78.setTop (mkF m 192 #[.val (.int p1), .val (.int p2), .val (.int p3), .val (.int p4), .val (.ref b1), .val (.ref t3), .val (.ref t4), .val (.int v26_5), .val (.ref x7), .val .null, .val (.int (1 : Int32))] [(.long (v26_5.toInt64)), (.long (0 : Int64)), (.int (1 : Int32))])) (fun t k => XS.i2l X78.here hx rfl (hb hby at_191) rfl k) ?_
        refine Go.on (B := T78.setTop (mkF m 193 #[.val (.int p1), .val (.int p2), .val (.int p3), .val (.int p4), .val (.ref b1), .val (.ref t3), .val (.ref t4), .val (.int v26_5), .val (.ref x7), .val .null, .val (.int (1 : Int32))] [(.int (lcmpW (0 : Int64) (v26_5.toInt64))), (.int (1 : Int32))])) (fun t k => XS.lcmp X78.here hx rfl (hb hby at_192) rfl k) ?_
        have hc193_79 : (0 : Int64) = (v26_5.toInt64) := by
          have q := own_n3 _ _ hv26_5
          have u0 := hc66_71
          rw [Int32.lt_iff_toInt_lt, show (1 : Int32).toInt = 1 from by decide] at u0
          have u1 := hc96_72
          rw [Int32.lt_iff_toInt_lt, show (2 : Int32).toInt = 2 from by decide] at u1
          have u2 := hc126_73
          rw [Int32.lt_iff_toInt_lt, show (3 : Int32).toInt = 3 from by decide] at u2
          exact own_is 0 (by omega) (by decide)
        refine Go.on (B := T78.setTop (mkF m 196 #[.val (.int p1), .val (.int p2), .val (.int p3), .val (.int p4), .val (.ref b1), .val (.ref t3), .val (.ref t4), .val (.int v26_5), .val (.ref x7), .val .null, .val (.int (1 : Int32))] [(.int (1 : Int32))])) (fun t k => XS.ifNo X78.here hx rfl (hb hby at_193) rfl ((if0 _ _).trans (teq ((lw_eq _ _).mpr hc193_79)).2) k) ?_
        refine Go.on (B := T78.setTop (mkF m 197 #[.val (.int p1), .val (.int p2), .val (.int p3), .val (.int p4), .val (.ref b1), .val (.ref t3), .val (.ref t4), .val (.int v26_5), .val (.ref x7), .val .null, .val (.int (1 : Int32))] [(.int (1 : Int32)), (.int (1 : Int32))])) (fun t k => XS.iconst X78.here hx rfl (hb hby at_196) k) ?_
        refine Go.on (B := T78.setTop (mkF m 201 #[.val (.int p1), .val (.int p2), .val (.int p3), .val (.int p4), .val (.ref b1), .val (.ref t3), .val (.ref t4), .val (.int v26_5), .val (.ref x7), .val .null, .val (.int (1 : Int32))] [(.int (1 : Int32)), (.int (1 : Int32))])) (fun t k => XS.goto X78.here hx rfl (pc0 := 197) (pc' := 201) rfl (hb hby at_197) (by decide) (by decide) k) ?_
        refine Go.on (B := T78.setTop (mkF m 202 #[.val (.int p1), .val (.int p2), .val (.int p3), .val (.int p4), .val (.ref b1), .val (.ref t3), .val (.ref t4), .val (.int v26_5), .val (.ref x7), .val .null, .val (.int (1 : Int32))] [(.int ((1 : Int32) &&& (1 : Int32)))])) (fun t k => XS.iand X78.here hx rfl (hb hby at_201) rfl k) ?_
        rw [show ((1 : Int32) &&& (1 : Int32)) = (1 : Int32) from by decide]
        refine Go.on (B := T78.setTop (mkF m 204 #[.val (.int p1), .val (.int p2), .val (.int p3), .val (.int p4), .val (.ref b1), .val (.ref t3), .val (.ref t4), .val (.int v26_5), .val (.ref x7), .val .null, .val (.int (1 : Int32))] [])) (fun t k => XS.istore X78.here hx rfl (hb hby at_202) rfl (l' := #[.val (.int p1), .val (.int p2), .val (.int p3), .val (.int p4), .val (.ref b1), .val (.ref t3), .val (.ref t4), .val (.int v26_5), .val (.ref x7), .val .null, .val (.int (1 : Int32))]) rfl k) ?_
        refine Go.on (B := T78.setTop (mkF m 206 #[.val (.int p1), .val (.int p2), .val (.int p3), .val (.int p4), .val (.ref b1), .val (.ref t3), .val (.ref t4), .val (.int v26_5), .val (.ref x7), .val .null, .val (.int (1 : Int32))] [(.int (1 : Int32))])) (fun t k => XS.iload X78.here hx rfl (hb hby at_204) rfl k) ?_
        refine Go.on (B := T78.setTop (mkF m 208 #[.val (.int p1), .val (.int p2), .val (.int p3), .val (.int p4), .val (.ref b1), .val (.ref t3), .val (.ref t4), .val (.int v26_5), .val (.ref x7), .val .null, .val (.int (1 : Int32))] [(.ref b1), (.int (1 : Int32))])) (fun t k => XS.aload X78.here hx rfl (hb hby at_206) rfl rfl k) ?_
        refine Go.on (B := T78.setTop (mkF m 210 #[.val (.int p1), .val (.int p2), .val (.int p3), .val (.int p4), .val (.ref b1), .val (.ref t3), .val (.ref t4), .val (.int v26_5), .val (.ref x7), .val .null, .val (.int (1 : Int32))] [(.ref t4), (.ref b1), (.int (1 : Int32))])) (fun t k => XS.aload X78.here hx rfl (hb hby at_208) rfl rfl k) ?_
        obtain ⟨cq81, kq81, q81a, q81b, q81c⟩ := isOf hZ e78q f138
        obtain ⟨_, _, ⟨T81, L81, k81, n81⟩, -, X81, ⟨Lc81, hQ81, l81, y81, z81⟩, st81⟩ := X78.virtualBack hx (y := (⟨"com/example/tailrace/tailrace/cli/Count", "getResult", "(Lcom/example/tailrace/tailrace/cli/Count$Tally;)Ljava/lang/Long;"⟩ : MethodName)) (z := (⟨"com/example/tailrace/tailrace/cli/Count", "getResult", "(Lcom/example/tailrace/tailrace/cli/Count$Tally;)Ljava/lang/Long;"⟩ : MethodName)) hown (mvT hZ (hw _ (List.mem_of_getElem? (i := 35) rfl))) (mvT hZ (hw _ (List.mem_of_getElem? (i := 36) rfl))) (notFace_of_selects (args := #[]) (mvT hZ (hw _ (List.mem_of_getElem? (i := 38) rfl)))) (mvT hZ (hw _ (List.mem_of_getElem? (i := 38) rfl))) (mvT hZ (hw _ (List.mem_of_getElem? (i := 37) rfl))) (by decide) (backOf (W := 1) (rgr l Z a0 hw [] b1 t4 (1 : Int64) ca cc T77.heap n0 Zs143 f142 O_137 S_cache B_cache (by decide) (by decide)) hZ (hw _ (List.mem_of_getElem? (i := 39) rfl)) (hw _ (List.mem_of_getElem? (i := 2) rfl)) (by decide) (by decide)) q81a q81c (g := (mkF m 210 #[.val (.int p1), .val (.int p2), .val (.int p3), .val (.int p4), .val (.ref b1), .val (.ref t3), .val (.ref t4), .val (.int v26_5), .val (.ref x7), .val .null, .val (.int (1 : Int32))] [(.ref t4), (.ref b1), (.int (1 : Int32))])) rfl (by rw [hml]; rfl) (Steps.refl _) (argsL := [(.ref t4)]) (rest := [(.int (1 : Int32))]) (lenOf pd_6 rfl) rfl (by show 2 * 0 + _ ≤ _; exact Nat.le_of_eq rfl) (hb hby at_210) (fun _ _ => ⟨rfl, e78q, (by decide : 4 + 0 ≤ _), (by decide : 3 + 0 ≤ _)⟩)
        dsimp only [Pt.U, Pt.locs, Pt.cells, Pt.slots] at X81 l81 y81 z81 st81 hQ81
        subst l81 y81 z81
        obtain ⟨⟨x81, rfl, G81a, G81b⟩, N81q, K81q⟩ := hQ81
        have N81 := Fr.app N78 N81q
        have O_144 := O_137.keep K81q all0
        have f145 := f138.keep K81q
        have f146 := f139.keep K81q
        have f147 := f140.keep K81q nin0
        have f148 := f141.keep K81q
        have f149 := f142.keep K81q nin0
        have f150 := G77a.keep K81q
        have f151 := G77b.keep K81q nin0
        have Zs152 := Nat.le_trans Zs143 K81q.1
        refine Go.on (B := T81.setTop (mkF m 213 #[.val (.int p1), .val (.int p2), .val (.int p3), .val (.int p4), .val (.ref b1), .val (.ref t3), .val (.ref t4), .val (.int v26_5), .val (.ref x7), .val .null, .val (.int (1 : Int32))] [(.ref x81), (.int (1 : Int32))])) (fun t k => st81.trans k) ?_
        obtain ⟨cq82, kq82, q82a, q82b, q82c⟩ := isOf hZ rfl G81a
        obtain ⟨_, _, ⟨T82, L82, k82, n82⟩, -, X82, ⟨Lc82, hQ82, l82, y82, z82⟩, st82⟩ := X81.virtualBack hx (y := (⟨"java/lang/Long", "longValue", "()J"⟩ : MethodName)) (z := (⟨"java/lang/Long", "longValue", "()J"⟩ : MethodName)) hown (mvT hZ (hw _ (List.mem_of_getElem? (i := 48) rfl))) (mvT hZ (hw _ (List.mem_of_getElem? (i := 49) rfl))) (notFace_of_selects (args := #[]) (mvT hZ (hw _ (List.mem_of_getElem? (i := 51) rfl)))) (mvT hZ (hw _ (List.mem_of_getElem? (i := 51) rfl))) (mvT hZ (hw _ (List.mem_of_getElem? (i := 50) rfl))) (by decide) (backOf (W := 1) (rval l Z a0 hw [] x81 (1 : Int64) T81.heap n0 Zs152 G81b) hZ (hw _ (List.mem_of_getElem? (i := 52) rfl)) (hw _ (List.mem_of_getElem? (i := 42) rfl)) (by decide) (by decide)) q82a q82c (g := (mkF m 213 #[.val (.int p1), .val (.int p2), .val (.int p3), .val (.int p4), .val (.ref b1), .val (.ref t3), .val (.ref t4), .val (.int v26_5), .val (.ref x7), .val .null, .val (.int (1 : Int32))] [(.ref x81), (.int (1 : Int32))])) rfl (by rw [hml]; rfl) (Steps.refl _) (argsL := []) (rest := [(.int (1 : Int32))]) (lenOf pd_7 rfl) rfl (by show 2 * 0 + _ ≤ _; exact Nat.le_of_eq rfl) (hb hby at_213) (fun _ _ => ⟨rfl, rfl, (by decide : 4 + 0 ≤ _), (by decide : 3 + 0 ≤ _)⟩)
        dsimp only [Pt.U, Pt.locs, Pt.cells, Pt.slots] at X82 l82 y82 z82 st82 hQ82
        subst l82 y82 z82
        obtain ⟨rfl, N82q, e82q⟩ := hQ82
        have N82 := Fr.app N81 N82q
        refine Go.on (B := T82.setTop (mkF m 216 #[.val (.int p1), .val (.int p2), .val (.int p3), .val (.int p4), .val (.ref b1), .val (.ref t3), .val (.ref t4), .val (.int v26_5), .val (.ref x7), .val .null, .val (.int (1 : Int32))] [(.long (1 : Int64)), (.int (1 : Int32))])) (fun t k => st82.trans k) ?_
        refine Go.on (B := T82.setTop (mkF m 217 #[.val (.int p1), .val (.int p2), .val (.int p3), .val (.int p4), .val (.ref b1), .val (.ref t3), .val (.ref t4), .val (.int v26_5), .val (.ref x7), .val .null, .val (.int (1 : Int32))] [(.long (1 : Int64)), (.long (1 : Int64)), (.int (1 : Int32))])) (fun t k => XS.lconst X82.here hx rfl (hb hby at_216) k) ?_
        refine Go.on (B := T82.setTop (mkF m 218 #[.val (.int p1), .val (.int p2), .val (.int p3), .val (.int p4), .val (.ref b1), .val (.ref t3), .val (.ref t4), .val (.int v26_5), .val (.ref x7), .val .null, .val (.int (1 : Int32))] [(.int (lcmpW (1 : Int64) (1 : Int64))), (.int (1 : Int32))])) (fun t k => XS.lcmp X82.here hx rfl (hb hby at_217) rfl k) ?_
        have hc218_83 : (1 : Int64) = (1 : Int64) := by decide
        refine Go.on (B := T82.setTop (mkF m 221 #[.val (.int p1), .val (.int p2), .val (.int p3), .val (.int p4), .val (.ref b1), .val (.ref t3), .val (.ref t4), .val (.int v26_5), .val (.ref x7), .val .null, .val (.int (1 : Int32))] [(.int (1 : Int32))])) (fun t k => XS.ifNo X82.here hx rfl (hb hby at_218) rfl ((if0 _ _).trans (teq ((lw_eq _ _).mpr hc218_83)).2) k) ?_
        refine Go.on (B := T82.setTop (mkF m 222 #[.val (.int p1), .val (.int p2), .val (.int p3), .val (.int p4), .val (.ref b1), .val (.ref t3), .val (.ref t4), .val (.int v26_5), .val (.ref x7), .val .null, .val (.int (1 : Int32))] [(.int (1 : Int32)), (.int (1 : Int32))])) (fun t k => XS.iconst X82.here hx rfl (hb hby at_221) k) ?_
        refine Go.on (B := T82.setTop (mkF m 226 #[.val (.int p1), .val (.int p2), .val (.int p3), .val (.int p4), .val (.ref b1), .val (.ref t3), .val (.ref t4), .val (.int v26_5), .val (.ref x7), .val .null, .val (.int (1 : Int32))] [(.int (1 : Int32)), (.int (1 : Int32))])) (fun t k => XS.goto X82.here hx rfl (pc0 := 222) (pc' := 226) rfl (hb hby at_222) (by decide) (by decide) k) ?_
        refine Go.on (B := T82.setTop (mkF m 227 #[.val (.int p1), .val (.int p2), .val (.int p3), .val (.int p4), .val (.ref b1), .val (.ref t3), .val (.ref t4), .val (.int v26_5), .val (.ref x7), .val .null, .val (.int (1 : Int32))] [(.int ((1 : Int32) &&& (1 : Int32)))])) (fun t k => XS.iand X82.here hx rfl (hb hby at_226) rfl k) ?_
        rw [show ((1 : Int32) &&& (1 : Int32)) = (1 : Int32) from by decide]
        refine Go.on (B := T82.setTop (mkF m 229 #[.val (.int p1), .val (.int p2), .val (.int p3), .val (.int p4), .val (.ref b1), .val (.ref t3), .val (.ref t4), .val (.int v26_5), .val (.ref x7), .val .null, .val (.int (1 : Int32))] [])) (fun t k => XS.istore X82.here hx rfl (hb hby at_227) rfl (l' := #[.val (.int p1), .val (.int p2), .val (.int p3), .val (.int p4), .val (.ref b1), .val (.ref t3), .val (.ref t4), .val (.int v26_5), .val (.ref x7), .val .null, .val (.int (1 : Int32))]) rfl k) ?_
        refine Go.on (B := T82.setTop (mkF m 231 #[.val (.int p1), .val (.int p2), .val (.int p3), .val (.int p4), .val (.ref b1), .val (.ref t3), .val (.ref t4), .val (.int v26_5), .val (.ref x7), .val .null, .val (.int (1 : Int32))] [(.int (1 : Int32))])) (fun t k => XS.iload X82.here hx rfl (hb hby at_229) rfl k) ?_
        obtain ⟨fs, hr, hrun, hended, hW, hsame⟩ := X82.leave (v := some (.int (1 : Int32))) (fun h => by rw [Bd.returns] at h; cases h)
        refine ⟨_, _, ?_, hrun, hended, _, _, rfl, ?_, ⟨_, rfl⟩, hW, hsame.mono (by decide) (by decide)⟩
        · exact retN X82 hx (t := .boolean) Bd.returns (by simp) (hb hby at_231) hr
        · show Q_rm0 Z p1 p2 p3 p4 ca cc ica icc h0 n0 _ T82.heap _
          rw [e82q]
          exact ⟨rfl, N82⟩
      · refine Go.on (B := T7.setTop (mkF m 69 #[.val (.int p1), .val (.int p2), .val (.int p3), .val (.int p4), .val (.ref b1), .val (.ref t3), .val (.ref t4), .val (.int v26_5), .val (.ref x7), .val .null, .val (.int (1 : Int32))] [])) (fun t k => XS.icmpNo X7.here hx rfl (hb hby at_66) rfl (flt hc66_71).1 k) ?_
        refine Go.on (B := T7.setTop (mkF m 71 #[.val (.int p1), .val (.int p2), .val (.int p3), .val (.int p4), .val (.ref b1), .val (.ref t3), .val (.ref t4), .val (.int v26_5), .val (.ref x7), .val .null, .val (.int (1 : Int32))] [(.int (1 : Int32))])) (fun t k => XS.iload X7.here hx rfl (hb hby at_69) rfl k) ?_
        refine Go.on (B := T7.setTop (mkF m 73 #[.val (.int p1), .val (.int p2), .val (.int p3), .val (.int p4), .val (.ref b1), .val (.ref t3), .val (.ref t4), .val (.int v26_5), .val (.ref x7), .val .null, .val (.int (1 : Int32))] [(.ref b1), (.int (1 : Int32))])) (fun t k => XS.aload X7.here hx rfl (hb hby at_71) rfl rfl k) ?_
        refine Go.on (B := T7.setTop (mkF m 75 #[.val (.int p1), .val (.int p2), .val (.int p3), .val (.int p4), .val (.ref b1), .val (.ref t3), .val (.ref t4), .val (.int v26_5), .val (.ref x7), .val .null, .val (.int (1 : Int32))] [(.ref x7), (.ref b1), (.int (1 : Int32))])) (fun t k => XS.aload X7.here hx rfl (hb hby at_73) rfl rfl k) ?_
        refine Go.on (B := T7.setTop (mkF m 77 #[.val (.int p1), .val (.int p2), .val (.int p3), .val (.int p4), .val (.ref b1), .val (.ref t3), .val (.ref t4), .val (.int v26_5), .val (.ref x7), .val .null, .val (.int (1 : Int32))] [(.ref t3), (.ref x7), (.ref b1), (.int (1 : Int32))])) (fun t k => XS.aload X7.here hx rfl (hb hby at_75) rfl rfl k) ?_
        obtain ⟨cq85, kq85, q85a, q85b, q85c⟩ := isOf hZ rfl f12
        obtain ⟨_, _, ⟨T85, L85, k85, n85⟩, -, X85, ⟨Lc85, hQ85, l85, y85, z85⟩, st85⟩ := X7.virtualBack hx (y := (⟨"com/example/tailrace/tailrace/cli/Count", "add", "(Ljava/lang/Object;Lcom/example/tailrace/tailrace/cli/Count$Tally;)Lcom/example/tailrace/tailrace/cli/Count$Tally;"⟩ : MethodName)) (z := (⟨"com/example/tailrace/tailrace/cli/Count", "add", "(Ljava/lang/Object;Lcom/example/tailrace/tailrace/cli/Count$Tally;)Lcom/example/tailrace/tailrace/cli/Count$Tally;"⟩ : MethodName)) hown (mvT hZ (hw _ (List.mem_of_getElem? (i := 28) rfl))) (mvT hZ (hw _ (List.mem_of_getElem? (i := 29) rfl))) (notFace_of_selects (args := #[]) (mvT hZ (hw _ (List.mem_of_getElem? (i := 31) rfl)))) (mvT hZ (hw _ (List.mem_of_getElem? (i := 31) rfl))) (mvT hZ (hw _ (List.mem_of_getElem? (i := 30) rfl))) (by decide) (backOf (W := 1) (radd1 l Z a0 hw [] b1 x7 t3 (0 : Int64) T7.heap n0 Zs17 f13 f14 ge_t3) hZ (hw _ (List.mem_of_getElem? (i := 32) rfl)) (hw _ (List.mem_of_getElem? (i := 2) rfl)) (by decide) (by decide)) q85a q85c (g := (mkF m 77 #[.val (.int p1), .val (.int p2), .val (.int p3), .val (.int p4), .val (.ref b1), .val (.ref t3), .val (.ref t4), .val (.int v26_5), .val (.ref x7), .val .null, .val (.int (1 : Int32))] [(.ref t3), (.ref x7), (.ref b1), (.int (1 : Int32))])) rfl (by rw [hml]; rfl) (Steps.refl _) (argsL := [(.ref x7), (.ref t3)]) (rest := [(.int (1 : Int32))]) (lenOf pd_5 rfl) rfl (by show 2 * 0 + _ ≤ _; exact Nat.le_of_eq rfl) (hb hby at_77) (fun _ _ => ⟨rfl, rfl, (by decide : 4 + 0 ≤ _), (by decide : 3 + 0 ≤ _)⟩)
        dsimp only [Pt.U, Pt.locs, Pt.cells, Pt.slots] at X85 l85 y85 z85 st85 hQ85
        subst l85 y85 z85
        obtain ⟨rfl, N85q, K85q, G85a, G85b⟩ := hQ85
        have N85 := Fr.app N7 N85q
        have O_153 := O_11.keep K85q (allS ge_t3 all0)
        have f154 := f12.keep K85q
        have f155 := f13.keep K85q
        have f156 := f15.keep K85q
        have f157 := f16.keep K85q (ninS (Ne.symm ne_t3_t4) nin0)
        have Zs158 := Nat.le_trans Zs17 K85q.1
        rw [show ((0 : Int64) + (1 : Int64)) = (1 : Int64) from by decide] at G85b
        refine Go.on (B := T85.setTop (mkF m 80 #[.val (.int p1), .val (.int p2), .val (.int p3), .val (.int p4), .val (.ref b1), .val (.ref t3), .val (.ref t4), .val (.int v26_5), .val (.ref x7), .val .null, .val (.int (1 : Int32))] [(.ref t3), (.int (1 : Int32))])) (fun t k => st85.trans k) ?_
        refine Go.on (B := T85.setTop (mkF m 82 #[.val (.int p1), .val (.int p2), .val (.int p3), .val (.int p4), .val (.ref b1), .val (.ref t3), .val (.ref t4), .val (.int v26_5), .val (.ref x7), .val .null, .val (.int (1 : Int32))] [(.ref t3), (.ref t3), (.int (1 : Int32))])) (fun t k => XS.aload X85.here hx rfl (hb hby at_80) rfl rfl k) ?_
        refine Go.on (B := T85.setTop (mkF m 85 #[.val (.int p1), .val (.int p2), .val (.int p3), .val (.int p4), .val (.ref b1), .val (.ref t3), .val (.ref t4), .val (.int v26_5), .val (.ref x7), .val .null, .val (.int (1 : Int32))] [(.int (1 : Int32))])) (fun t k => Jvm.RoadKit.acmp (g := (mkF m 82 #[.val (.int p1), .val (.int p2), .val (.int p3), .val (.int p4), .val (.ref b1), .val (.ref t3), .val (.ref t4), .val (.int v26_5), .val (.ref x7), .val .null, .val (.int (1 : Int32))] [(.ref t3), (.ref t3), (.int (1 : Int32))])) X85 hx rfl rfl rfl (pc0 := 82) (pc' := 85) (same := true) rfl (hb hby at_82) rfl (decide_eq_true rfl) (by decide) (by decide) k) ?_
        refine Go.on (B := T85.setTop (mkF m 86 #[.val (.int p1), .val (.int p2), .val (.int p3), .val (.int p4), .val (.ref b1), .val (.ref t3), .val (.ref t4), .val (.int v26_5), .val (.ref x7), .val .null, .val (.int (1 : Int32))] [(.int (1 : Int32)), (.int (1 : Int32))])) (fun t k => XS.iconst X85.here hx rfl (hb hby at_85) k) ?_
        refine Go.on (B := T85.setTop (mkF m 90 #[.val (.int p1), .val (.int p2), .val (.int p3), .val (.int p4), .val (.ref b1), .val (.ref t3), .val (.ref t4), .val (.int v26_5), .val (.ref x7), .val .null, .val (.int (1 : Int32))] [(.int (1 : Int32)), (.int (1 : Int32))])) (fun t k => XS.goto X85.here hx rfl (pc0 := 86) (pc' := 90) rfl (hb hby at_86) (by decide) (by decide) k) ?_
        refine Go.on (B := T85.setTop (mkF m 91 #[.val (.int p1), .val (.int p2), .val (.int p3), .val (.int p4), .val (.ref b1), .val (.ref t3), .val (.ref t4), .val (.int v26_5), .val (.ref x7), .val .null, .val (.int (1 : Int32))] [(.int ((1 : Int32) &&& (1 : Int32)))])) (fun t k => XS.iand X85.here hx rfl (hb hby at_90) rfl k) ?_
        rw [show ((1 : Int32) &&& (1 : Int32)) = (1 : Int32) from by decide]
        refine Go.on (B := T85.setTop (mkF m 93 #[.val (.int p1), .val (.int p2), .val (.int p3), .val (.int p4), .val (.ref b1), .val (.ref t3), .val (.ref t4), .val (.int v26_5), .val (.ref x7), .val .null, .val (.int (1 : Int32))] [])) (fun t k => XS.istore X85.here hx rfl (hb hby at_91) rfl (l' := #[.val (.int p1), .val (.int p2), .val (.int p3), .val (.int p4), .val (.ref b1), .val (.ref t3), .val (.ref t4), .val (.int v26_5), .val (.ref x7), .val .null, .val (.int (1 : Int32))]) rfl k) ?_
        refine Go.on (B := T85.setTop (mkF m 95 #[.val (.int p1), .val (.int p2), .val (.int p3), .val (.int p4), .val (.ref b1), .val (.ref t3), .val (.ref t4), .val (.int v26_5), .val (.ref x7), .val .null, .val (.int (1 : Int32))] [(.int v26_5)])) (fun t k => XS.iload X85.here hx rfl (hb hby at_93) rfl k) ?_
        refine Go.on (B := T85.setTop (mkF m 96 #[.val (.int p1), .val (.int p2), .val (.int p3), .val (.int p4), .val (.ref b1), .val (.ref t3), .val (.ref t4), .val (.int v26_5), .val (.ref x7), .val .null, .val (.int (1 : Int32))] [(.int (2 : Int32)), (.int v26_5)])) (fun t k => XS.iconst X85.here hx rfl (hb hby at_95) k) ?_
        by_cases hc96_88 : v26_5 < (2 : Int32)
        · refine Go.on (B := T85.setTop (mkF m 123 #[.val (.int p1), .val (.int p2), .val (.int p3), .val (.int p4), .val (.ref b1), .val (.ref t3), .val (.ref t4), .val (.int v26_5), .val (.ref x7), .val .null, .val (.int (1 : Int32))] [])) (fun t k => XS.icmpYes X85.here hx rfl (pc0 := 96) (pc' := 123) rfl (hb hby at_96) rfl (tlt hc96_88).1 (by decide) (by decide) k) ?_
          refine Go.on (B := T85.setTop (mkF m 125 #[.val (.int p1), .val (.int p2), .val (.int p3), .val (.int p4), .val (.ref b1), .val (.ref t3), .val (.ref t4), .val (.int v26_5), .val (.ref x7), .val .null, .val (.int (1 : Int32))] [(.int v26_5)])) (fun t k => XS.iload X85.here hx rfl (hb hby at_123) rfl k) ?_
          refine Go.on (B := T85.setTop (mkF m 126 #[.val (.int p1), .val (.int p2), .val (.int p3), .val (.int p4), .val (.ref b1), .val (.ref t3), .val (.ref t4), .val (.int v26_5), .val (.ref x7), .val .null, .val (.int (1 : Int32))] [(.int (3 : Int32)), (.int v26_5)])) (fun t k => XS.iconst X85.here hx rfl (hb hby at_125) k) ?_
          have hc126_89 : v26_5 < (3 : Int32) := own_up2 hc96_88 (by decide)
          refine Go.on (B := T85.setTop (mkF m 153 #[.val (.int p1), .val (.int p2), .val (.int p3), .val (.int p4), .val (.ref b1), .val (.ref t3), .val (.ref t4), .val (.int v26_5), .val (.ref x7), .val .null, .val (.int (1 : Int32))] [])) (fun t k => XS.icmpYes X85.here hx rfl (pc0 := 126) (pc' := 153) rfl (hb hby at_126) rfl (tlt hc126_89).1 (by decide) (by decide) k) ?_
          refine Go.on (B := T85.setTop (mkF m 155 #[.val (.int p1), .val (.int p2), .val (.int p3), .val (.int p4), .val (.ref b1), .val (.ref t3), .val (.ref t4), .val (.int v26_5), .val (.ref x7), .val .null, .val (.int (1 : Int32))] [(.int (1 : Int32))])) (fun t k => XS.iload X85.here hx rfl (hb hby at_153) rfl k) ?_
          refine Go.on (B := T85.setTop (mkF m 157 #[.val (.int p1), .val (.int p2), .val (.int p3), .val (.int p4), .val (.ref b1), .val (.ref t3), .val (.ref t4), .val (.int v26_5), .val (.ref x7), .val .null, .val (.int (1 : Int32))] [(.ref b1), (.int (1 : Int32))])) (fun t k => XS.aload X85.here hx rfl (hb hby at_155) rfl rfl k) ?_
          refine Go.on (B := T85.setTop (mkF m 159 #[.val (.int p1), .val (.int p2), .val (.int p3), .val (.int p4), .val (.ref b1), .val (.ref t3), .val (.ref t4), .val (.int v26_5), .val (.ref x7), .val .null, .val (.int (1 : Int32))] [.null, (.ref b1), (.int (1 : Int32))])) (fun t k => XS.aload X85.here hx rfl (hb hby at_157) rfl rfl k) ?_
          refine Go.on (B := T85.setTop (mkF m 161 #[.val (.int p1), .val (.int p2), .val (.int p3), .val (.int p4), .val (.ref b1), .val (.ref t3), .val (.ref t4), .val (.int v26_5), .val (.ref x7), .val .null, .val (.int (1 : Int32))] [(.ref t4), .null, (.ref b1), (.int (1 : Int32))])) (fun t k => XS.aload X85.here hx rfl (hb hby at_159) rfl rfl k) ?_
          obtain ⟨cq90, kq90, q90a, q90b, q90c⟩ := isOf hZ rfl f154
          obtain ⟨_, _, ⟨T90, L90, k90, n90⟩, -, X90, ⟨Lc90, hQ90, l90, y90, z90⟩, st90⟩ := X85.virtualBack hx (y := (⟨"com/example/tailrace/tailrace/cli/Count", "add", "(Ljava/lang/Object;Lcom/example/tailrace/tailrace/cli/Count$Tally;)Lcom/example/tailrace/tailrace/cli/Count$Tally;"⟩ : MethodName)) (z := (⟨"com/example/tailrace/tailrace/cli/Count", "add", "(Ljava/lang/Object;Lcom/example/tailrace/tailrace/cli/Count$Tally;)Lcom/example/tailrace/tailrace/cli/Count$Tally;"⟩ : MethodName)) hown (mvT hZ (hw _ (List.mem_of_getElem? (i := 28) rfl))) (mvT hZ (hw _ (List.mem_of_getElem? (i := 29) rfl))) (notFace_of_selects (args := #[]) (mvT hZ (hw _ (List.mem_of_getElem? (i := 31) rfl)))) (mvT hZ (hw _ (List.mem_of_getElem? (i := 31) rfl))) (mvT hZ (hw _ (List.mem_of_getElem? (i := 30) rfl))) (by decide) (backOf (W := 1) (radd0 l Z a0 hw [] b1 t4 (0 : Int64) T85.heap n0 Zs158 f156 f157 ge_t4) hZ (hw _ (List.mem_of_getElem? (i := 32) rfl)) (hw _ (List.mem_of_getElem? (i := 2) rfl)) (by decide) (by decide)) q90a q90c (g := (mkF m 161 #[.val (.int p1), .val (.int p2), .val (.int p3), .val (.int p4), .val (.ref b1), .val (.ref t3), .val (.ref t4), .val (.int v26_5), .val (.ref x7), .val .null, .val (.int (1 : Int32))] [(.ref t4), .null, (.ref b1), (.int (1 : Int32))])) rfl (by rw [hml]; rfl) (Steps.refl _) (argsL := [.null, (.ref t4)]) (rest := [(.int (1 : Int32))]) (lenOf pd_5 rfl) rfl (by show 2 * 0 + _ ≤ _; exact Nat.le_of_eq rfl) (hb hby at_161) (fun _ _ => ⟨rfl, rfl, (by decide : 4 + 0 ≤ _), (by decide : 3 + 0 ≤ _)⟩)
          dsimp only [Pt.U, Pt.locs, Pt.cells, Pt.slots] at X90 l90 y90 z90 st90 hQ90
          subst l90 y90 z90
          obtain ⟨rfl, N90q, K90q, G90a, G90b⟩ := hQ90
          have N90 := Fr.app N85 N90q
          have O_159 := O_153.keep K90q (allS ge_t4 all0)
          have f160 := f154.keep K90q
          have f161 := G85a.keep K90q
          have f162 := f156.keep K90q
          have f163 := G85b.keep K90q (ninS ne_t3_t4 nin0)
          have Zs164 := Nat.le_trans Zs158 K90q.1
          rw [show ((0 : Int64) + (1 : Int64)) = (1 : Int64) from by decide] at G90b
          refine Go.on (B := T90.setTop (mkF m 164 #[.val (.int p1), .val (.int p2), .val (.int p3), .val (.int p4), .val (.ref b1), .val (.ref t3), .val (.ref t4), .val (.int v26_5), .val (.ref x7), .val .null, .val (.int (1 : Int32))] [(.ref t4), (.int (1 : Int32))])) (fun t k => st90.trans k) ?_
          refine Go.on (B := T90.setTop (mkF m 166 #[.val (.int p1), .val (.int p2), .val (.int p3), .val (.int p4), .val (.ref b1), .val (.ref t3), .val (.ref t4), .val (.int v26_5), .val (.ref x7), .val .null, .val (.int (1 : Int32))] [(.ref t4), (.ref t4), (.int (1 : Int32))])) (fun t k => XS.aload X90.here hx rfl (hb hby at_164) rfl rfl k) ?_
          refine Go.on (B := T90.setTop (mkF m 169 #[.val (.int p1), .val (.int p2), .val (.int p3), .val (.int p4), .val (.ref b1), .val (.ref t3), .val (.ref t4), .val (.int v26_5), .val (.ref x7), .val .null, .val (.int (1 : Int32))] [(.int (1 : Int32))])) (fun t k => Jvm.RoadKit.acmp (g := (mkF m 166 #[.val (.int p1), .val (.int p2), .val (.int p3), .val (.int p4), .val (.ref b1), .val (.ref t3), .val (.ref t4), .val (.int v26_5), .val (.ref x7), .val .null, .val (.int (1 : Int32))] [(.ref t4), (.ref t4), (.int (1 : Int32))])) X90 hx rfl rfl rfl (pc0 := 166) (pc' := 169) (same := true) rfl (hb hby at_166) rfl (decide_eq_true rfl) (by decide) (by decide) k) ?_
          refine Go.on (B := T90.setTop (mkF m 170 #[.val (.int p1), .val (.int p2), .val (.int p3), .val (.int p4), .val (.ref b1), .val (.ref t3), .val (.ref t4), .val (.int v26_5), .val (.ref x7), .val .null, .val (.int (1 : Int32))] [(.int (1 : Int32)), (.int (1 : Int32))])) (fun t k => XS.iconst X90.here hx rfl (hb hby at_169) k) ?_
          refine Go.on (B := T90.setTop (mkF m 174 #[.val (.int p1), .val (.int p2), .val (.int p3), .val (.int p4), .val (.ref b1), .val (.ref t3), .val (.ref t4), .val (.int v26_5), .val (.ref x7), .val .null, .val (.int (1 : Int32))] [(.int (1 : Int32)), (.int (1 : Int32))])) (fun t k => XS.goto X90.here hx rfl (pc0 := 170) (pc' := 174) rfl (hb hby at_170) (by decide) (by decide) k) ?_
          refine Go.on (B := T90.setTop (mkF m 175 #[.val (.int p1), .val (.int p2), .val (.int p3), .val (.int p4), .val (.ref b1), .val (.ref t3), .val (.ref t4), .val (.int v26_5), .val (.ref x7), .val .null, .val (.int (1 : Int32))] [(.int ((1 : Int32) &&& (1 : Int32)))])) (fun t k => XS.iand X90.here hx rfl (hb hby at_174) rfl k) ?_
          rw [show ((1 : Int32) &&& (1 : Int32)) = (1 : Int32) from by decide]
          refine Go.on (B := T90.setTop (mkF m 177 #[.val (.int p1), .val (.int p2), .val (.int p3), .val (.int p4), .val (.ref b1), .val (.ref t3), .val (.ref t4), .val (.int v26_5), .val (.ref x7), .val .null, .val (.int (1 : Int32))] [])) (fun t k => XS.istore X90.here hx rfl (hb hby at_175) rfl (l' := #[.val (.int p1), .val (.int p2), .val (.int p3), .val (.int p4), .val (.ref b1), .val (.ref t3), .val (.ref t4), .val (.int v26_5), .val (.ref x7), .val .null, .val (.int (1 : Int32))]) rfl k) ?_
          refine Go.on (B := T90.setTop (mkF m 179 #[.val (.int p1), .val (.int p2), .val (.int p3), .val (.int p4), .val (.ref b1), .val (.ref t3), .val (.ref t4), .val (.int v26_5), .val (.ref x7), .val .null, .val (.int (1 : Int32))] [(.int (1 : Int32))])) (fun t k => XS.iload X90.here hx rfl (hb hby at_177) rfl k) ?_
          refine Go.on (B := T90.setTop (mkF m 181 #[.val (.int p1), .val (.int p2), .val (.int p3), .val (.int p4), .val (.ref b1), .val (.ref t3), .val (.ref t4), .val (.int v26_5), .val (.ref x7), .val .null, .val (.int (1 : Int32))] [(.ref b1), (.int (1 : Int32))])) (fun t k => XS.aload X90.here hx rfl (hb hby at_179) rfl rfl k) ?_
          refine Go.on (B := T90.setTop (mkF m 183 #[.val (.int p1), .val (.int p2), .val (.int p3), .val (.int p4), .val (.ref b1), .val (.ref t3), .val (.ref t4), .val (.int v26_5), .val (.ref x7), .val .null, .val (.int (1 : Int32))] [(.ref t3), (.ref b1), (.int (1 : Int32))])) (fun t k => XS.aload X90.here hx rfl (hb hby at_181) rfl rfl k) ?_
          obtain ⟨cq93, kq93, q93a, q93b, q93c⟩ := isOf hZ rfl f160
          obtain ⟨_, _, ⟨T93, L93, k93, n93⟩, -, X93, ⟨Lc93, hQ93, l93, y93, z93⟩, st93⟩ := X90.virtualBack hx (y := (⟨"com/example/tailrace/tailrace/cli/Count", "getResult", "(Lcom/example/tailrace/tailrace/cli/Count$Tally;)Ljava/lang/Long;"⟩ : MethodName)) (z := (⟨"com/example/tailrace/tailrace/cli/Count", "getResult", "(Lcom/example/tailrace/tailrace/cli/Count$Tally;)Ljava/lang/Long;"⟩ : MethodName)) hown (mvT hZ (hw _ (List.mem_of_getElem? (i := 35) rfl))) (mvT hZ (hw _ (List.mem_of_getElem? (i := 36) rfl))) (notFace_of_selects (args := #[]) (mvT hZ (hw _ (List.mem_of_getElem? (i := 38) rfl)))) (mvT hZ (hw _ (List.mem_of_getElem? (i := 38) rfl))) (mvT hZ (hw _ (List.mem_of_getElem? (i := 37) rfl))) (by decide) (backOf (W := 1) (rgr l Z a0 hw [] b1 t3 (1 : Int64) ca cc T90.heap n0 Zs164 f163 O_159 S_cache B_cache (by decide) (by decide)) hZ (hw _ (List.mem_of_getElem? (i := 39) rfl)) (hw _ (List.mem_of_getElem? (i := 2) rfl)) (by decide) (by decide)) q93a q93c (g := (mkF m 183 #[.val (.int p1), .val (.int p2), .val (.int p3), .val (.int p4), .val (.ref b1), .val (.ref t3), .val (.ref t4), .val (.int v26_5), .val (.ref x7), .val .null, .val (.int (1 : Int32))] [(.ref t3), (.ref b1), (.int (1 : Int32))])) rfl (by rw [hml]; rfl) (Steps.refl _) (argsL := [(.ref t3)]) (rest := [(.int (1 : Int32))]) (lenOf pd_6 rfl) rfl (by show 2 * 0 + _ ≤ _; exact Nat.le_of_eq rfl) (hb hby at_183) (fun _ _ => ⟨rfl, rfl, (by decide : 4 + 0 ≤ _), (by decide : 3 + 0 ≤ _)⟩)
          dsimp only [Pt.U, Pt.locs, Pt.cells, Pt.slots] at X93 l93 y93 z93 st93 hQ93
          subst l93 y93 z93
          obtain ⟨⟨x93, rfl, G93a, G93b⟩, N93q, K93q⟩ := hQ93
          have N93 := Fr.app N90 N93q
          have O_165 := O_159.keep K93q all0
          have f166 := f160.keep K93q
          have f167 := f161.keep K93q
          have f168 := G90a.keep K93q
          have f169 := f163.keep K93q nin0
          have f170 := G90b.keep K93q nin0
          have Zs171 := Nat.le_trans Zs164 K93q.1
          refine Go.on (B := T93.setTop (mkF m 186 #[.val (.int p1), .val (.int p2), .val (.int p3), .val (.int p4), .val (.ref b1), .val (.ref t3), .val (.ref t4), .val (.int v26_5), .val (.ref x7), .val .null, .val (.int (1 : Int32))] [(.ref x93), (.int (1 : Int32))])) (fun t k => st93.trans k) ?_
          obtain ⟨cq94, kq94, q94a, q94b, q94c⟩ := isOf hZ rfl G93a
          obtain ⟨_, _, ⟨T94, L94, k94, n94⟩, -, X94, ⟨Lc94, hQ94, l94, y94, z94⟩, st94⟩ := X93.virtualBack hx (y := (⟨"java/lang/Long", "longValue", "()J"⟩ : MethodName)) (z := (⟨"java/lang/Long", "longValue", "()J"⟩ : MethodName)) hown (mvT hZ (hw _ (List.mem_of_getElem? (i := 48) rfl))) (mvT hZ (hw _ (List.mem_of_getElem? (i := 49) rfl))) (notFace_of_selects (args := #[]) (mvT hZ (hw _ (List.mem_of_getElem? (i := 51) rfl)))) (mvT hZ (hw _ (List.mem_of_getElem? (i := 51) rfl))) (mvT hZ (hw _ (List.mem_of_getElem? (i := 50) rfl))) (by decide) (backOf (W := 1) (rval l Z a0 hw [] x93 (1 : Int64) T93.heap n0 Zs171 G93b) hZ (hw _ (List.mem_of_getElem? (i := 52) rfl)) (hw _ (List.mem_of_getElem? (i := 42) rfl)) (by decide) (by decide)) q94a q94c (g := (mkF m 186 #[.val (.int p1), .val (.int p2), .val (.int p3), .val (.int p4), .val (.ref b1), .val (.ref t3), .val (.ref t4), .val (.int v26_5), .val (.ref x7), .val .null, .val (.int (1 : Int32))] [(.ref x93), (.int (1 : Int32))])) rfl (by rw [hml]; rfl) (Steps.refl _) (argsL := []) (rest := [(.int (1 : Int32))]) (lenOf pd_7 rfl) rfl (by show 2 * 0 + _ ≤ _; exact Nat.le_of_eq rfl) (hb hby at_186) (fun _ _ => ⟨rfl, rfl, (by decide : 4 + 0 ≤ _), (by decide : 3 + 0 ≤ _)⟩)
          dsimp only [Pt.U, Pt.locs, Pt.cells, Pt.slots] at X94 l94 y94 z94 st94 hQ94
          subst l94 y94 z94
          obtain ⟨rfl, N94q, e94q⟩ := hQ94
          have N94 := Fr.app N93 N94q
          refine Go.on (B := T94.setTop (mkF m 189 #[.val (.int p1), .val (.int p2), .val (.int p3), .val (.int p4), .val (.ref b1), .val (.ref t3), .val (.ref t4), .val (.int v26_5), .val (.ref x7), .val .null, .val (.int (1 : Int32))] [(.long (1 : Int64)), (.int (1 : Int32))])) (fun t k => st94.trans k) ?_
          refine Go.on (B := T94.setTop (mkF m 191 #[.val (.int p1), .val (.int p2), .val (.int p3), .val (.int p4), .val (.ref b1), .val (.ref t3), .val (.ref t4), .val (.int v26_5), .val (.ref x7), .val .null, .val (.int (1 : Int32))] [(.int v26_5), (.long (1 : Int64)), (.int (1 : Int32))])) (fun t k => XS.iload X94.here hx rfl (hb hby at_189) rfl k) ?_
          refine Go.on (B := T94.setTop (mkF m 192 #[.val (.int p1), .val (.int p2), .val (.int p3), .val (.int p4), .val (.ref b1), .val (.ref t3), .val (.ref t4), .val (.int v26_5), .val (.ref x7), .val .null, .val (.int (1 : Int32))] [(.long (v26_5.toInt64)), (.long (1 : Int64)), (.int (1 : Int32))])) (fun t k => XS.i2l X94.here hx rfl (hb hby at_191) rfl k) ?_
          refine Go.on (B := T94.setTop (mkF m 193 #[.val (.int p1), .val (.int p2), .val (.int p3), .val (.int p4), .val (.ref b1), .val (.ref t3), .val (.ref t4), .val (.int v26_5), .val (.ref x7), .val .null, .val (.int (1 : Int32))] [(.int (lcmpW (1 : Int64) (v26_5.toInt64))), (.int (1 : Int32))])) (fun t k => XS.lcmp X94.here hx rfl (hb hby at_192) rfl k) ?_
          have hc193_95 : (1 : Int64) = (v26_5.toInt64) := by
            have q := own_n3 _ _ hv26_5
            have u0 := hc66_71
            rw [Int32.lt_iff_toInt_lt, show (1 : Int32).toInt = 1 from by decide] at u0
            have u1 := hc96_88
            rw [Int32.lt_iff_toInt_lt, show (2 : Int32).toInt = 2 from by decide] at u1
            have u2 := hc126_89
            rw [Int32.lt_iff_toInt_lt, show (3 : Int32).toInt = 3 from by decide] at u2
            exact own_is 1 (by omega) (by decide)
          refine Go.on (B := T94.setTop (mkF m 196 #[.val (.int p1), .val (.int p2), .val (.int p3), .val (.int p4), .val (.ref b1), .val (.ref t3), .val (.ref t4), .val (.int v26_5), .val (.ref x7), .val .null, .val (.int (1 : Int32))] [(.int (1 : Int32))])) (fun t k => XS.ifNo X94.here hx rfl (hb hby at_193) rfl ((if0 _ _).trans (teq ((lw_eq _ _).mpr hc193_95)).2) k) ?_
          refine Go.on (B := T94.setTop (mkF m 197 #[.val (.int p1), .val (.int p2), .val (.int p3), .val (.int p4), .val (.ref b1), .val (.ref t3), .val (.ref t4), .val (.int v26_5), .val (.ref x7), .val .null, .val (.int (1 : Int32))] [(.int (1 : Int32)), (.int (1 : Int32))])) (fun t k => XS.iconst X94.here hx rfl (hb hby at_196) k) ?_
          refine Go.on (B := T94.setTop (mkF m 201 #[.val (.int p1), .val (.int p2), .val (.int p3), .val (.int p4), .val (.ref b1), .val (.ref t3), .val (.ref t4), .val (.int v26_5), .val (.ref x7), .val .null, .val (.int (1 : Int32))] [(.int (1 : Int32)), (.int (1 : Int32))])) (fun t k => XS.goto X94.here hx rfl (pc0 := 197) (pc' := 201) rfl (hb hby at_197) (by decide) (by decide) k) ?_
          refine Go.on (B := T94.setTop (mkF m 202 #[.val (.int p1), .val (.int p2), .val (.int p3), .val (.int p4), .val (.ref b1), .val (.ref t3), .val (.ref t4), .val (.int v26_5), .val (.ref x7), .val .null, .val (.int (1 : Int32))] [(.int ((1 : Int32) &&& (1 : Int32)))])) (fun t k => XS.iand X94.here hx rfl (hb hby at_201) rfl k) ?_
          rw [show ((1 : Int32) &&& (1 : Int32)) = (1 : Int32) from by decide]
          refine Go.on (B := T94.setTop (mkF m 204 #[.val (.int p1), .val (.int p2), .val (.int p3), .val (.int p4), .val (.ref b1), .val (.ref t3), .val (.ref t4), .val (.int v26_5), .val (.ref x7), .val .null, .val (.int (1 : Int32))] [])) (fun t k => XS.istore X94.here hx rfl (hb hby at_202) rfl (l' := #[.val (.int p1), .val (.int p2), .val (.int p3), .val (.int p4), .val (.ref b1), .val (.ref t3), .val (.ref t4), .val (.int v26_5), .val (.ref x7), .val .null, .val (.int (1 : Int32))]) rfl k) ?_
          refine Go.on (B := T94.setTop (mkF m 206 #[.val (.int p1), .val (.int p2), .val (.int p3), .val (.int p4), .val (.ref b1), .val (.ref t3), .val (.ref t4), .val (.int v26_5), .val (.ref x7), .val .null, .val (.int (1 : Int32))] [(.int (1 : Int32))])) (fun t k => XS.iload X94.here hx rfl (hb hby at_204) rfl k) ?_
          refine Go.on (B := T94.setTop (mkF m 208 #[.val (.int p1), .val (.int p2), .val (.int p3), .val (.int p4), .val (.ref b1), .val (.ref t3), .val (.ref t4), .val (.int v26_5), .val (.ref x7), .val .null, .val (.int (1 : Int32))] [(.ref b1), (.int (1 : Int32))])) (fun t k => XS.aload X94.here hx rfl (hb hby at_206) rfl rfl k) ?_
          refine Go.on (B := T94.setTop (mkF m 210 #[.val (.int p1), .val (.int p2), .val (.int p3), .val (.int p4), .val (.ref b1), .val (.ref t3), .val (.ref t4), .val (.int v26_5), .val (.ref x7), .val .null, .val (.int (1 : Int32))] [(.ref t4), (.ref b1), (.int (1 : Int32))])) (fun t k => XS.aload X94.here hx rfl (hb hby at_208) rfl rfl k) ?_
          obtain ⟨cq97, kq97, q97a, q97b, q97c⟩ := isOf hZ e94q f166
          obtain ⟨_, _, ⟨T97, L97, k97, n97⟩, -, X97, ⟨Lc97, hQ97, l97, y97, z97⟩, st97⟩ := X94.virtualBack hx (y := (⟨"com/example/tailrace/tailrace/cli/Count", "getResult", "(Lcom/example/tailrace/tailrace/cli/Count$Tally;)Ljava/lang/Long;"⟩ : MethodName)) (z := (⟨"com/example/tailrace/tailrace/cli/Count", "getResult", "(Lcom/example/tailrace/tailrace/cli/Count$Tally;)Ljava/lang/Long;"⟩ : MethodName)) hown (mvT hZ (hw _ (List.mem_of_getElem? (i := 35) rfl))) (mvT hZ (hw _ (List.mem_of_getElem? (i := 36) rfl))) (notFace_of_selects (args := #[]) (mvT hZ (hw _ (List.mem_of_getElem? (i := 38) rfl)))) (mvT hZ (hw _ (List.mem_of_getElem? (i := 38) rfl))) (mvT hZ (hw _ (List.mem_of_getElem? (i := 37) rfl))) (by decide) (backOf (W := 1) (rgr l Z a0 hw [] b1 t4 (1 : Int64) ca cc T93.heap n0 Zs171 f170 O_165 S_cache B_cache (by decide) (by decide)) hZ (hw _ (List.mem_of_getElem? (i := 39) rfl)) (hw _ (List.mem_of_getElem? (i := 2) rfl)) (by decide) (by decide)) q97a q97c (g := (mkF m 210 #[.val (.int p1), .val (.int p2), .val (.int p3), .val (.int p4), .val (.ref b1), .val (.ref t3), .val (.ref t4), .val (.int v26_5), .val (.ref x7), .val .null, .val (.int (1 : Int32))] [(.ref t4), (.ref b1), (.int (1 : Int32))])) rfl (by rw [hml]; rfl) (Steps.refl _) (argsL := [(.ref t4)]) (rest := [(.int (1 : Int32))]) (lenOf pd_6 rfl) rfl (by show 2 * 0 + _ ≤ _; exact Nat.le_of_eq rfl) (hb hby at_210) (fun _ _ => ⟨rfl, e94q, (by decide : 4 + 0 ≤ _), (by decide : 3 + 0 ≤ _)⟩)
          dsimp only [Pt.U, Pt.locs, Pt.cells, Pt.slots] at X97 l97 y97 z97 st97 hQ97
          subst l97 y97 z97
          obtain ⟨⟨x97, rfl, G97a, G97b⟩, N97q, K97q⟩ := hQ97
          have N97 := Fr.app N94 N97q
          have O_172 := O_165.keep K97q all0
          have f173 := f166.keep K97q
          have f174 := f167.keep K97q
          have f175 := f168.keep K97q
          have f176 := f169.keep K97q nin0
          have f177 := f170.keep K97q nin0
          have f178 := G93a.keep K97q
          have f179 := G93b.keep K97q nin0
          have Zs180 := Nat.le_trans Zs171 K97q.1
          refine Go.on (B := T97.setTop (mkF m 213 #[.val (.int p1), .val (.int p2), .val (.int p3), .val (.int p4), .val (.ref b1), .val (.ref t3), .val (.ref t4), .val (.int v26_5), .val (.ref x7), .val .null, .val (.int (1 : Int32))] [(.ref x97), (.int (1 : Int32))])) (fun t k => st97.trans k) ?_
          obtain ⟨cq98, kq98, q98a, q98b, q98c⟩ := isOf hZ rfl G97a
          obtain ⟨_, _, ⟨T98, L98, k98, n98⟩, -, X98, ⟨Lc98, hQ98, l98, y98, z98⟩, st98⟩ := X97.virtualBack hx (y := (⟨"java/lang/Long", "longValue", "()J"⟩ : MethodName)) (z := (⟨"java/lang/Long", "longValue", "()J"⟩ : MethodName)) hown (mvT hZ (hw _ (List.mem_of_getElem? (i := 48) rfl))) (mvT hZ (hw _ (List.mem_of_getElem? (i := 49) rfl))) (notFace_of_selects (args := #[]) (mvT hZ (hw _ (List.mem_of_getElem? (i := 51) rfl)))) (mvT hZ (hw _ (List.mem_of_getElem? (i := 51) rfl))) (mvT hZ (hw _ (List.mem_of_getElem? (i := 50) rfl))) (by decide) (backOf (W := 1) (rval l Z a0 hw [] x97 (1 : Int64) T97.heap n0 Zs180 G97b) hZ (hw _ (List.mem_of_getElem? (i := 52) rfl)) (hw _ (List.mem_of_getElem? (i := 42) rfl)) (by decide) (by decide)) q98a q98c (g := (mkF m 213 #[.val (.int p1), .val (.int p2), .val (.int p3), .val (.int p4), .val (.ref b1), .val (.ref t3), .val (.ref t4), .val (.int v26_5), .val (.ref x7), .val .null, .val (.int (1 : Int32))] [(.ref x97), (.int (1 : Int32))])) rfl (by rw [hml]; rfl) (Steps.refl _) (argsL := []) (rest := [(.int (1 : Int32))]) (lenOf pd_7 rfl) rfl (by show 2 * 0 + _ ≤ _; exact Nat.le_of_eq rfl) (hb hby at_213) (fun _ _ => ⟨rfl, rfl, (by decide : 4 + 0 ≤ _), (by decide : 3 + 0 ≤ _)⟩)
          dsimp only [Pt.U, Pt.locs, Pt.cells, Pt.slots] at X98 l98 y98 z98 st98 hQ98
          subst l98 y98 z98
          obtain ⟨rfl, N98q, e98q⟩ := hQ98
          have N98 := Fr.app N97 N98q
          refine Go.on (B := T98.setTop (mkF m 216 #[.val (.int p1), .val (.int p2), .val (.int p3), .val (.int p4), .val (.ref b1), .val (.ref t3), .val (.ref t4), .val (.int v26_5), .val (.ref x7), .val .null, .val (.int (1 : Int32))] [(.long (1 : Int64)), (.int (1 : Int32))])) (fun t k => st98.trans k) ?_
          refine Go.on (B := T98.setTop (mkF m 217 #[.val (.int p1), .val (.int p2), .val (.int p3), .val (.int p4), .val (.ref b1), .val (.ref t3), .val (.ref t4), .val (.int v26_5), .val (.ref x7), .val .null, .val (.int (1 : Int32))] [(.long (1 : Int64)), (.long (1 : Int64)), (.int (1 : Int32))])) (fun t k => XS.lconst X98.here hx rfl (hb hby at_216) k) ?_
          refine Go.on (B := T98.setTop (mkF m 218 #[.val (.int p1), .val (.int p2), .val (.int p3), .val (.int p4), .val (.ref b1), .val (.ref t3), .val (.ref t4), .val (.int v26_5), .val (.ref x7), .val .null, .val (.int (1 : Int32))] [(.int (lcmpW (1 : Int64) (1 : Int64))), (.int (1 : Int32))])) (fun t k => XS.lcmp X98.here hx rfl (hb hby at_217) rfl k) ?_
          have hc218_99 : (1 : Int64) = (1 : Int64) := by decide
          refine Go.on (B := T98.setTop (mkF m 221 #[.val (.int p1), .val (.int p2), .val (.int p3), .val (.int p4), .val (.ref b1), .val (.ref t3), .val (.ref t4), .val (.int v26_5), .val (.ref x7), .val .null, .val (.int (1 : Int32))] [(.int (1 : Int32))])) (fun t k => XS.ifNo X98.here hx rfl (hb hby at_218) rfl ((if0 _ _).trans (teq ((lw_eq _ _).mpr hc218_99)).2) k) ?_
          refine Go.on (B := T98.setTop (mkF m 222 #[.val (.int p1), .val (.int p2), .val (.int p3), .val (.int p4), .val (.ref b1), .val (.ref t3), .val (.ref t4), .val (.int v26_5), .val (.ref x7), .val .null, .val (.int (1 : Int32))] [(.int (1 : Int32)), (.int (1 : Int32))])) (fun t k => XS.iconst X98.here hx rfl (hb hby at_221) k) ?_
          refine Go.on (B := T98.setTop (mkF m 226 #[.val (.int p1), .val (.int p2), .val (.int p3), .val (.int p4), .val (.ref b1), .val (.ref t3), .val (.ref t4), .val (.int v26_5), .val (.ref x7), .val .null, .val (.int (1 : Int32))] [(.int (1 : Int32)), (.int (1 : Int32))])) (fun t k => XS.goto X98.here hx rfl (pc0 := 222) (pc' := 226) rfl (hb hby at_222) (by decide) (by decide) k) ?_
          refine Go.on (B := T98.setTop (mkF m 227 #[.val (.int p1), .val (.int p2), .val (.int p3), .val (.int p4), .val (.ref b1), .val (.ref t3), .val (.ref t4), .val (.int v26_5), .val (.ref x7), .val .null, .val (.int (1 : Int32))] [(.int ((1 : Int32) &&& (1 : Int32)))])) (fun t k => XS.iand X98.here hx rfl (hb hby at_226) rfl k) ?_
          rw [show ((1 : Int32) &&& (1 : Int32)) = (1 : Int32) from by decide]
          refine Go.on (B := T98.setTop (mkF m 229 #[.val (.int p1), .val (.int p2), .val (.int p3), .val (.int p4), .val (.ref b1), .val (.ref t3), .val (.ref t4), .val (.int v26_5), .val (.ref x7), .val .null, .val (.int (1 : Int32))] [])) (fun t k => XS.istore X98.here hx rfl (hb hby at_227) rfl (l' := #[.val (.int p1), .val (.int p2), .val (.int p3), .val (.int p4), .val (.ref b1), .val (.ref t3), .val (.ref t4), .val (.int v26_5), .val (.ref x7), .val .null, .val (.int (1 : Int32))]) rfl k) ?_
          refine Go.on (B := T98.setTop (mkF m 231 #[.val (.int p1), .val (.int p2), .val (.int p3), .val (.int p4), .val (.ref b1), .val (.ref t3), .val (.ref t4), .val (.int v26_5), .val (.ref x7), .val .null, .val (.int (1 : Int32))] [(.int (1 : Int32))])) (fun t k => XS.iload X98.here hx rfl (hb hby at_229) rfl k) ?_
          obtain ⟨fs, hr, hrun, hended, hW, hsame⟩ := X98.leave (v := some (.int (1 : Int32))) (fun h => by rw [Bd.returns] at h; cases h)
          refine ⟨_, _, ?_, hrun, hended, _, _, rfl, ?_, ⟨_, rfl⟩, hW, hsame.mono (by decide) (by decide)⟩
          · exact retN X98 hx (t := .boolean) Bd.returns (by simp) (hb hby at_231) hr
          · show Q_rm0 Z p1 p2 p3 p4 ca cc ica icc h0 n0 _ T98.heap _
            rw [e98q]
            exact ⟨rfl, N98⟩
        · refine Go.on (B := T85.setTop (mkF m 99 #[.val (.int p1), .val (.int p2), .val (.int p3), .val (.int p4), .val (.ref b1), .val (.ref t3), .val (.ref t4), .val (.int v26_5), .val (.ref x7), .val .null, .val (.int (1 : Int32))] [])) (fun t k => XS.icmpNo X85.here hx rfl (hb hby at_96) rfl (flt hc96_88).1 k) ?_
          refine Go.on (B := T85.setTop (mkF m 101 #[.val (.int p1), .val (.int p2), .val (.int p3), .val (.int p4), .val (.ref b1), .val (.ref t3), .val (.ref t4), .val (.int v26_5), .val (.ref x7), .val .null, .val (.int (1 : Int32))] [(.int (1 : Int32))])) (fun t k => XS.iload X85.here hx rfl (hb hby at_99) rfl k) ?_
          refine Go.on (B := T85.setTop (mkF m 103 #[.val (.int p1), .val (.int p2), .val (.int p3), .val (.int p4), .val (.ref b1), .val (.ref t3), .val (.ref t4), .val (.int v26_5), .val (.ref x7), .val .null, .val (.int (1 : Int32))] [(.ref b1), (.int (1 : Int32))])) (fun t k => XS.aload X85.here hx rfl (hb hby at_101) rfl rfl k) ?_
          refine Go.on (B := T85.setTop (mkF m 105 #[.val (.int p1), .val (.int p2), .val (.int p3), .val (.int p4), .val (.ref b1), .val (.ref t3), .val (.ref t4), .val (.int v26_5), .val (.ref x7), .val .null, .val (.int (1 : Int32))] [.null, (.ref b1), (.int (1 : Int32))])) (fun t k => XS.aload X85.here hx rfl (hb hby at_103) rfl rfl k) ?_
          refine Go.on (B := T85.setTop (mkF m 107 #[.val (.int p1), .val (.int p2), .val (.int p3), .val (.int p4), .val (.ref b1), .val (.ref t3), .val (.ref t4), .val (.int v26_5), .val (.ref x7), .val .null, .val (.int (1 : Int32))] [(.ref t3), .null, (.ref b1), (.int (1 : Int32))])) (fun t k => XS.aload X85.here hx rfl (hb hby at_105) rfl rfl k) ?_
          obtain ⟨cq101, kq101, q101a, q101b, q101c⟩ := isOf hZ rfl f154
          obtain ⟨_, _, ⟨T101, L101, k101, n101⟩, -, X101, ⟨Lc101, hQ101, l101, y101, z101⟩, st101⟩ := X85.virtualBack hx (y := (⟨"com/example/tailrace/tailrace/cli/Count", "add", "(Ljava/lang/Object;Lcom/example/tailrace/tailrace/cli/Count$Tally;)Lcom/example/tailrace/tailrace/cli/Count$Tally;"⟩ : MethodName)) (z := (⟨"com/example/tailrace/tailrace/cli/Count", "add", "(Ljava/lang/Object;Lcom/example/tailrace/tailrace/cli/Count$Tally;)Lcom/example/tailrace/tailrace/cli/Count$Tally;"⟩ : MethodName)) hown (mvT hZ (hw _ (List.mem_of_getElem? (i := 28) rfl))) (mvT hZ (hw _ (List.mem_of_getElem? (i := 29) rfl))) (notFace_of_selects (args := #[]) (mvT hZ (hw _ (List.mem_of_getElem? (i := 31) rfl)))) (mvT hZ (hw _ (List.mem_of_getElem? (i := 31) rfl))) (mvT hZ (hw _ (List.mem_of_getElem? (i := 30) rfl))) (by decide) (backOf (W := 1) (radd0 l Z a0 hw [] b1 t3 (1 : Int64) T85.heap n0 Zs158 G85a G85b ge_t3) hZ (hw _ (List.mem_of_getElem? (i := 32) rfl)) (hw _ (List.mem_of_getElem? (i := 2) rfl)) (by decide) (by decide)) q101a q101c (g := (mkF m 107 #[.val (.int p1), .val (.int p2), .val (.int p3), .val (.int p4), .val (.ref b1), .val (.ref t3), .val (.ref t4), .val (.int v26_5), .val (.ref x7), .val .null, .val (.int (1 : Int32))] [(.ref t3), .null, (.ref b1), (.int (1 : Int32))])) rfl (by rw [hml]; rfl) (Steps.refl _) (argsL := [.null, (.ref t3)]) (rest := [(.int (1 : Int32))]) (lenOf pd_5 rfl) rfl (by show 2 * 0 + _ ≤ _; exact Nat.le_of_eq rfl) (hb hby at_107) (fun _ _ => ⟨rfl, rfl, (by decide : 4 + 0 ≤ _), (by decide : 3 + 0 ≤ _)⟩)
          dsimp only [Pt.U, Pt.locs, Pt.cells, Pt.slots] at X101 l101 y101 z101 st101 hQ101
          subst l101 y101 z101
          obtain ⟨rfl, N101q, K101q, G101a, G101b⟩ := hQ101
          have N101 := Fr.app N85 N101q
          have O_181 := O_153.keep K101q (allS ge_t3 all0)
          have f182 := f154.keep K101q
          have f183 := G85a.keep K101q
          have f184 := f156.keep K101q
          have f185 := f157.keep K101q (ninS (Ne.symm ne_t3_t4) nin0)
          have Zs186 := Nat.le_trans Zs158 K101q.1
          rw [show ((1 : Int64) + (1 : Int64)) = (2 : Int64) from by decide] at G101b
          refine Go.on (B := T101.setTop (mkF m 110 #[.val (.int p1), .val (.int p2), .val (.int p3), .val (.int p4), .val (.ref b1), .val (.ref t3), .val (.ref t4), .val (.int v26_5), .val (.ref x7), .val .null, .val (.int (1 : Int32))] [(.ref t3), (.int (1 : Int32))])) (fun t k => st101.trans k) ?_
          refine Go.on (B := T101.setTop (mkF m 112 #[.val (.int p1), .val (.int p2), .val (.int p3), .val (.int p4), .val (.ref b1), .val (.ref t3), .val (.ref t4), .val (.int v26_5), .val (.ref x7), .val .null, .val (.int (1 : Int32))] [(.ref t3), (.ref t3), (.int (1 : Int32))])) (fun t k => XS.aload X101.here hx rfl (hb hby at_110) rfl rfl k) ?_
          refine Go.on (B := T101.setTop (mkF m 115 #[.val (.int p1), .val (.int p2), .val (.int p3), .val (.int p4), .val (.ref b1), .val (.ref t3), .val (.ref t4), .val (.int v26_5), .val (.ref x7), .val .null, .val (.int (1 : Int32))] [(.int (1 : Int32))])) (fun t k => Jvm.RoadKit.acmp (g := (mkF m 112 #[.val (.int p1), .val (.int p2), .val (.int p3), .val (.int p4), .val (.ref b1), .val (.ref t3), .val (.ref t4), .val (.int v26_5), .val (.ref x7), .val .null, .val (.int (1 : Int32))] [(.ref t3), (.ref t3), (.int (1 : Int32))])) X101 hx rfl rfl rfl (pc0 := 112) (pc' := 115) (same := true) rfl (hb hby at_112) rfl (decide_eq_true rfl) (by decide) (by decide) k) ?_
          refine Go.on (B := T101.setTop (mkF m 116 #[.val (.int p1), .val (.int p2), .val (.int p3), .val (.int p4), .val (.ref b1), .val (.ref t3), .val (.ref t4), .val (.int v26_5), .val (.ref x7), .val .null, .val (.int (1 : Int32))] [(.int (1 : Int32)), (.int (1 : Int32))])) (fun t k => XS.iconst X101.here hx rfl (hb hby at_115) k) ?_
          refine Go.on (B := T101.setTop (mkF m 120 #[.val (.int p1), .val (.int p2), .val (.int p3), .val (.int p4), .val (.ref b1), .val (.ref t3), .val (.ref t4), .val (.int v26_5), .val (.ref x7), .val .null, .val (.int (1 : Int32))] [(.int (1 : Int32)), (.int (1 : Int32))])) (fun t k => XS.goto X101.here hx rfl (pc0 := 116) (pc' := 120) rfl (hb hby at_116) (by decide) (by decide) k) ?_
          refine Go.on (B := T101.setTop (mkF m 121 #[.val (.int p1), .val (.int p2), .val (.int p3), .val (.int p4), .val (.ref b1), .val (.ref t3), .val (.ref t4), .val (.int v26_5), .val (.ref x7), .val .null, .val (.int (1 : Int32))] [(.int ((1 : Int32) &&& (1 : Int32)))])) (fun t k => XS.iand X101.here hx rfl (hb hby at_120) rfl k) ?_
          rw [show ((1 : Int32) &&& (1 : Int32)) = (1 : Int32) from by decide]
          refine Go.on (B := T101.setTop (mkF m 123 #[.val (.int p1), .val (.int p2), .val (.int p3), .val (.int p4), .val (.ref b1), .val (.ref t3), .val (.ref t4), .val (.int v26_5), .val (.ref x7), .val .null, .val (.int (1 : Int32))] [])) (fun t k => XS.istore X101.here hx rfl (hb hby at_121) rfl (l' := #[.val (.int p1), .val (.int p2), .val (.int p3), .val (.int p4), .val (.ref b1), .val (.ref t3), .val (.ref t4), .val (.int v26_5), .val (.ref x7), .val .null, .val (.int (1 : Int32))]) rfl k) ?_
          refine Go.on (B := T101.setTop (mkF m 125 #[.val (.int p1), .val (.int p2), .val (.int p3), .val (.int p4), .val (.ref b1), .val (.ref t3), .val (.ref t4), .val (.int v26_5), .val (.ref x7), .val .null, .val (.int (1 : Int32))] [(.int v26_5)])) (fun t k => XS.iload X101.here hx rfl (hb hby at_123) rfl k) ?_
          refine Go.on (B := T101.setTop (mkF m 126 #[.val (.int p1), .val (.int p2), .val (.int p3), .val (.int p4), .val (.ref b1), .val (.ref t3), .val (.ref t4), .val (.int v26_5), .val (.ref x7), .val .null, .val (.int (1 : Int32))] [(.int (3 : Int32)), (.int v26_5)])) (fun t k => XS.iconst X101.here hx rfl (hb hby at_125) k) ?_
          by_cases hc126_104 : v26_5 < (3 : Int32)
          · refine Go.on (B := T101.setTop (mkF m 153 #[.val (.int p1), .val (.int p2), .val (.int p3), .val (.int p4), .val (.ref b1), .val (.ref t3), .val (.ref t4), .val (.int v26_5), .val (.ref x7), .val .null, .val (.int (1 : Int32))] [])) (fun t k => XS.icmpYes X101.here hx rfl (pc0 := 126) (pc' := 153) rfl (hb hby at_126) rfl (tlt hc126_104).1 (by decide) (by decide) k) ?_
            refine Go.on (B := T101.setTop (mkF m 155 #[.val (.int p1), .val (.int p2), .val (.int p3), .val (.int p4), .val (.ref b1), .val (.ref t3), .val (.ref t4), .val (.int v26_5), .val (.ref x7), .val .null, .val (.int (1 : Int32))] [(.int (1 : Int32))])) (fun t k => XS.iload X101.here hx rfl (hb hby at_153) rfl k) ?_
            refine Go.on (B := T101.setTop (mkF m 157 #[.val (.int p1), .val (.int p2), .val (.int p3), .val (.int p4), .val (.ref b1), .val (.ref t3), .val (.ref t4), .val (.int v26_5), .val (.ref x7), .val .null, .val (.int (1 : Int32))] [(.ref b1), (.int (1 : Int32))])) (fun t k => XS.aload X101.here hx rfl (hb hby at_155) rfl rfl k) ?_
            refine Go.on (B := T101.setTop (mkF m 159 #[.val (.int p1), .val (.int p2), .val (.int p3), .val (.int p4), .val (.ref b1), .val (.ref t3), .val (.ref t4), .val (.int v26_5), .val (.ref x7), .val .null, .val (.int (1 : Int32))] [.null, (.ref b1), (.int (1 : Int32))])) (fun t k => XS.aload X101.here hx rfl (hb hby at_157) rfl rfl k) ?_
            refine Go.on (B := T101.setTop (mkF m 161 #[.val (.int p1), .val (.int p2), .val (.int p3), .val (.int p4), .val (.ref b1), .val (.ref t3), .val (.ref t4), .val (.int v26_5), .val (.ref x7), .val .null, .val (.int (1 : Int32))] [(.ref t4), .null, (.ref b1), (.int (1 : Int32))])) (fun t k => XS.aload X101.here hx rfl (hb hby at_159) rfl rfl k) ?_
            obtain ⟨cq105, kq105, q105a, q105b, q105c⟩ := isOf hZ rfl f182
            obtain ⟨_, _, ⟨T105, L105, k105, n105⟩, -, X105, ⟨Lc105, hQ105, l105, y105, z105⟩, st105⟩ := X101.virtualBack hx (y := (⟨"com/example/tailrace/tailrace/cli/Count", "add", "(Ljava/lang/Object;Lcom/example/tailrace/tailrace/cli/Count$Tally;)Lcom/example/tailrace/tailrace/cli/Count$Tally;"⟩ : MethodName)) (z := (⟨"com/example/tailrace/tailrace/cli/Count", "add", "(Ljava/lang/Object;Lcom/example/tailrace/tailrace/cli/Count$Tally;)Lcom/example/tailrace/tailrace/cli/Count$Tally;"⟩ : MethodName)) hown (mvT hZ (hw _ (List.mem_of_getElem? (i := 28) rfl))) (mvT hZ (hw _ (List.mem_of_getElem? (i := 29) rfl))) (notFace_of_selects (args := #[]) (mvT hZ (hw _ (List.mem_of_getElem? (i := 31) rfl)))) (mvT hZ (hw _ (List.mem_of_getElem? (i := 31) rfl))) (mvT hZ (hw _ (List.mem_of_getElem? (i := 30) rfl))) (by decide) (backOf (W := 1) (radd0 l Z a0 hw [] b1 t4 (0 : Int64) T101.heap n0 Zs186 f184 f185 ge_t4) hZ (hw _ (List.mem_of_getElem? (i := 32) rfl)) (hw _ (List.mem_of_getElem? (i := 2) rfl)) (by decide) (by decide)) q105a q105c (g := (mkF m 161 #[.val (.int p1), .val (.int p2), .val (.int p3), .val (.int p4), .val (.ref b1), .val (.ref t3), .val (.ref t4), .val (.int v26_5), .val (.ref x7), .val .null, .val (.int (1 : Int32))] [(.ref t4), .null, (.ref b1), (.int (1 : Int32))])) rfl (by rw [hml]; rfl) (Steps.refl _) (argsL := [.null, (.ref t4)]) (rest := [(.int (1 : Int32))]) (lenOf pd_5 rfl) rfl (by show 2 * 0 + _ ≤ _; exact Nat.le_of_eq rfl) (hb hby at_161) (fun _ _ => ⟨rfl, rfl, (by decide : 4 + 0 ≤ _), (by decide : 3 + 0 ≤ _)⟩)
            dsimp only [Pt.U, Pt.locs, Pt.cells, Pt.slots] at X105 l105 y105 z105 st105 hQ105
            subst l105 y105 z105
            obtain ⟨rfl, N105q, K105q, G105a, G105b⟩ := hQ105
            have N105 := Fr.app N101 N105q
            have O_187 := O_181.keep K105q (allS ge_t4 all0)
            have f188 := f182.keep K105q
            have f189 := G101a.keep K105q
            have f190 := f184.keep K105q
            have f191 := G101b.keep K105q (ninS ne_t3_t4 nin0)
            have Zs192 := Nat.le_trans Zs186 K105q.1
            rw [show ((0 : Int64) + (1 : Int64)) = (1 : Int64) from by decide] at G105b
            refine Go.on (B := T105.setTop (mkF m 164 #[.val (.int p1), .val (.int p2), .val (.int p3), .val (.int p4), .val (.ref b1), .val (.ref t3), .val (.ref t4), .val (.int v26_5), .val (.ref x7), .val .null, .val (.int (1 : Int32))] [(.ref t4), (.int (1 : Int32))])) (fun t k => st105.trans k) ?_
            refine Go.on (B := T105.setTop (mkF m 166 #[.val (.int p1), .val (.int p2), .val (.int p3), .val (.int p4), .val (.ref b1), .val (.ref t3), .val (.ref t4), .val (.int v26_5), .val (.ref x7), .val .null, .val (.int (1 : Int32))] [(.ref t4), (.ref t4), (.int (1 : Int32))])) (fun t k => XS.aload X105.here hx rfl (hb hby at_164) rfl rfl k) ?_
            refine Go.on (B := T105.setTop (mkF m 169 #[.val (.int p1), .val (.int p2), .val (.int p3), .val (.int p4), .val (.ref b1), .val (.ref t3), .val (.ref t4), .val (.int v26_5), .val (.ref x7), .val .null, .val (.int (1 : Int32))] [(.int (1 : Int32))])) (fun t k => Jvm.RoadKit.acmp (g := (mkF m 166 #[.val (.int p1), .val (.int p2), .val (.int p3), .val (.int p4), .val (.ref b1), .val (.ref t3), .val (.ref t4), .val (.int v26_5), .val (.ref x7), .val .null, .val (.int (1 : Int32))] [(.ref t4), (.ref t4), (.int (1 : Int32))])) X105 hx rfl rfl rfl (pc0 := 166) (pc' := 169) (same := true) rfl (hb hby at_166) rfl (decide_eq_true rfl) (by decide) (by decide) k) ?_
            refine Go.on (B := T105.setTop (mkF m 170 #[.val (.int p1), .val (.int p2), .val (.int p3), .val (.int p4), .val (.ref b1), .val (.ref t3), .val (.ref t4), .val (.int v26_5), .val (.ref x7), .val .null, .val (.int (1 : Int32))] [(.int (1 : Int32)), (.int (1 : Int32))])) (fun t k => XS.iconst X105.here hx rfl (hb hby at_169) k) ?_
            refine Go.on (B := T105.setTop (mkF m 174 #[.val (.int p1), .val (.int p2), .val (.int p3), .val (.int p4), .val (.ref b1), .val (.ref t3), .val (.ref t4), .val (.int v26_5), .val (.ref x7), .val .null, .val (.int (1 : Int32))] [(.int (1 : Int32)), (.int (1 : Int32))])) (fun t k => XS.goto X105.here hx rfl (pc0 := 170) (pc' := 174) rfl (hb hby at_170) (by decide) (by decide) k) ?_
            refine Go.on (B := T105.setTop (mkF m 175 #[.val (.int p1), .val (.int p2), .val (.int p3), .val (.int p4), .val (.ref b1), .val (.ref t3), .val (.ref t4), .val (.int v26_5), .val (.ref x7), .val .null, .val (.int (1 : Int32))] [(.int ((1 : Int32) &&& (1 : Int32)))])) (fun t k => XS.iand X105.here hx rfl (hb hby at_174) rfl k) ?_
            rw [show ((1 : Int32) &&& (1 : Int32)) = (1 : Int32) from by decide]
            refine Go.on (B := T105.setTop (mkF m 177 #[.val (.int p1), .val (.int p2), .val (.int p3), .val (.int p4), .val (.ref b1), .val (.ref t3), .val (.ref t4), .val (.int v26_5), .val (.ref x7), .val .null, .val (.int (1 : Int32))] [])) (fun t k => XS.istore X105.here hx rfl (hb hby at_175) rfl (l' := #[.val (.int p1), .val (.int p2), .val (.int p3), .val (.int p4), .val (.ref b1), .val (.ref t3), .val (.ref t4), .val (.int v26_5), .val (.ref x7), .val .null, .val (.int (1 : Int32))]) rfl k) ?_
            refine Go.on (B := T105.setTop (mkF m 179 #[.val (.int p1), .val (.int p2), .val (.int p3), .val (.int p4), .val (.ref b1), .val (.ref t3), .val (.ref t4), .val (.int v26_5), .val (.ref x7), .val .null, .val (.int (1 : Int32))] [(.int (1 : Int32))])) (fun t k => XS.iload X105.here hx rfl (hb hby at_177) rfl k) ?_
            refine Go.on (B := T105.setTop (mkF m 181 #[.val (.int p1), .val (.int p2), .val (.int p3), .val (.int p4), .val (.ref b1), .val (.ref t3), .val (.ref t4), .val (.int v26_5), .val (.ref x7), .val .null, .val (.int (1 : Int32))] [(.ref b1), (.int (1 : Int32))])) (fun t k => XS.aload X105.here hx rfl (hb hby at_179) rfl rfl k) ?_
            refine Go.on (B := T105.setTop (mkF m 183 #[.val (.int p1), .val (.int p2), .val (.int p3), .val (.int p4), .val (.ref b1), .val (.ref t3), .val (.ref t4), .val (.int v26_5), .val (.ref x7), .val .null, .val (.int (1 : Int32))] [(.ref t3), (.ref b1), (.int (1 : Int32))])) (fun t k => XS.aload X105.here hx rfl (hb hby at_181) rfl rfl k) ?_
            obtain ⟨cq108, kq108, q108a, q108b, q108c⟩ := isOf hZ rfl f188
            obtain ⟨_, _, ⟨T108, L108, k108, n108⟩, -, X108, ⟨Lc108, hQ108, l108, y108, z108⟩, st108⟩ := X105.virtualBack hx (y := (⟨"com/example/tailrace/tailrace/cli/Count", "getResult", "(Lcom/example/tailrace/tailrace/cli/Count$Tally;)Ljava/lang/Long;"⟩ : MethodName)) (z := (⟨"com/example/tailrace/tailrace/cli/Count", "getResult", "(Lcom/example/tailrace/tailrace/cli/Count$Tally;)Ljava/lang/Long;"⟩ : MethodName)) hown (mvT hZ (hw _ (List.mem_of_getElem? (i := 35) rfl))) (mvT hZ (hw _ (List.mem_of_getElem? (i := 36) rfl))) (notFace_of_selects (args := #[]) (mvT hZ (hw _ (List.mem_of_getElem? (i := 38) rfl)))) (mvT hZ (hw _ (List.mem_of_getElem? (i := 38) rfl))) (mvT hZ (hw _ (List.mem_of_getElem? (i := 37) rfl))) (by decide) (backOf (W := 1) (rgr l Z a0 hw [] b1 t3 (2 : Int64) ca cc T105.heap n0 Zs192 f191 O_187 S_cache B_cache (by decide) (by decide)) hZ (hw _ (List.mem_of_getElem? (i := 39) rfl)) (hw _ (List.mem_of_getElem? (i := 2) rfl)) (by decide) (by decide)) q108a q108c (g := (mkF m 183 #[.val (.int p1), .val (.int p2), .val (.int p3), .val (.int p4), .val (.ref b1), .val (.ref t3), .val (.ref t4), .val (.int v26_5), .val (.ref x7), .val .null, .val (.int (1 : Int32))] [(.ref t3), (.ref b1), (.int (1 : Int32))])) rfl (by rw [hml]; rfl) (Steps.refl _) (argsL := [(.ref t3)]) (rest := [(.int (1 : Int32))]) (lenOf pd_6 rfl) rfl (by show 2 * 0 + _ ≤ _; exact Nat.le_of_eq rfl) (hb hby at_183) (fun _ _ => ⟨rfl, rfl, (by decide : 4 + 0 ≤ _), (by decide : 3 + 0 ≤ _)⟩)
            dsimp only [Pt.U, Pt.locs, Pt.cells, Pt.slots] at X108 l108 y108 z108 st108 hQ108
            subst l108 y108 z108
            obtain ⟨⟨x108, rfl, G108a, G108b⟩, N108q, K108q⟩ := hQ108
            have N108 := Fr.app N105 N108q
            have O_193 := O_187.keep K108q all0
            have f194 := f188.keep K108q
            have f195 := f189.keep K108q
            have f196 := G105a.keep K108q
            have f197 := f191.keep K108q nin0
            have f198 := G105b.keep K108q nin0
            have Zs199 := Nat.le_trans Zs192 K108q.1
            refine Go.on (B := T108.setTop (mkF m 186 #[.val (.int p1), .val (.int p2), .val (.int p3), .val (.int p4), .val (.ref b1), .val (.ref t3), .val (.ref t4), .val (.int v26_5), .val (.ref x7), .val .null, .val (.int (1 : Int32))] [(.ref x108), (.int (1 : Int32))])) (fun t k => st108.trans k) ?_
            obtain ⟨cq109, kq109, q109a, q109b, q109c⟩ := isOf hZ rfl G108a
            obtain ⟨_, _, ⟨T109, L109, k109, n109⟩, -, X109, ⟨Lc109, hQ109, l109, y109, z109⟩, st109⟩ := X108.virtualBack hx (y := (⟨"java/lang/Long", "longValue", "()J"⟩ : MethodName)) (z := (⟨"java/lang/Long", "longValue", "()J"⟩ : MethodName)) hown (mvT hZ (hw _ (List.mem_of_getElem? (i := 48) rfl))) (mvT hZ (hw _ (List.mem_of_getElem? (i := 49) rfl))) (notFace_of_selects (args := #[]) (mvT hZ (hw _ (List.mem_of_getElem? (i := 51) rfl)))) (mvT hZ (hw _ (List.mem_of_getElem? (i := 51) rfl))) (mvT hZ (hw _ (List.mem_of_getElem? (i := 50) rfl))) (by decide) (backOf (W := 1) (rval l Z a0 hw [] x108 (2 : Int64) T108.heap n0 Zs199 G108b) hZ (hw _ (List.mem_of_getElem? (i := 52) rfl)) (hw _ (List.mem_of_getElem? (i := 42) rfl)) (by decide) (by decide)) q109a q109c (g := (mkF m 186 #[.val (.int p1), .val (.int p2), .val (.int p3), .val (.int p4), .val (.ref b1), .val (.ref t3), .val (.ref t4), .val (.int v26_5), .val (.ref x7), .val .null, .val (.int (1 : Int32))] [(.ref x108), (.int (1 : Int32))])) rfl (by rw [hml]; rfl) (Steps.refl _) (argsL := []) (rest := [(.int (1 : Int32))]) (lenOf pd_7 rfl) rfl (by show 2 * 0 + _ ≤ _; exact Nat.le_of_eq rfl) (hb hby at_186) (fun _ _ => ⟨rfl, rfl, (by decide : 4 + 0 ≤ _), (by decide : 3 + 0 ≤ _)⟩)
            dsimp only [Pt.U, Pt.locs, Pt.cells, Pt.slots] at X109 l109 y109 z109 st109 hQ109
            subst l109 y109 z109
            obtain ⟨rfl, N109q, e109q⟩ := hQ109
            have N109 := Fr.app N108 N109q
            refine Go.on (B := T109.setTop (mkF m 189 #[.val (.int p1), .val (.int p2), .val (.int p3), .val (.int p4), .val (.ref b1), .val (.ref t3), .val (.ref t4), .val (.int v26_5), .val (.ref x7), .val .null, .val (.int (1 : Int32))] [(.long (2 : Int64)), (.int (1 : Int32))])) (fun t k => st109.trans k) ?_
            refine Go.on (B := T109.setTop (mkF m 191 #[.val (.int p1), .val (.int p2), .val (.int p3), .val (.int p4), .val (.ref b1), .val (.ref t3), .val (.ref t4), .val (.int v26_5), .val (.ref x7), .val .null, .val (.int (1 : Int32))] [(.int v26_5), (.long (2 : Int64)), (.int (1 : Int32))])) (fun t k => XS.iload X109.here hx rfl (hb hby at_189) rfl k) ?_
            refine Go.on (B := T109.setTop (mkF m 192 #[.val (.int p1), .val (.int p2), .val (.int p3), .val (.int p4), .val (.ref b1), .val (.ref t3), .val (.ref t4), .val (.int v26_5), .val (.ref x7), .val .null, .val (.int (1 : Int32))] [(.long (v26_5.toInt64)), (.long (2 : Int64)), (.int (1 : Int32))])) (fun t k => XS.i2l X109.here hx rfl (hb hby at_191) rfl k) ?_
            refine Go.on (B := T109.setTop (mkF m 193 #[.val (.int p1), .val (.int p2), .val (.int p3), .val (.int p4), .val (.ref b1), .val (.ref t3), .val (.ref t4), .val (.int v26_5), .val (.ref x7), .val .null, .val (.int (1 : Int32))] [(.int (lcmpW (2 : Int64) (v26_5.toInt64))), (.int (1 : Int32))])) (fun t k => XS.lcmp X109.here hx rfl (hb hby at_192) rfl k) ?_
            have hc193_110 : (2 : Int64) = (v26_5.toInt64) := by
              have q := own_n3 _ _ hv26_5
              have u0 := hc66_71
              rw [Int32.lt_iff_toInt_lt, show (1 : Int32).toInt = 1 from by decide] at u0
              have u1 := hc96_88
              rw [Int32.lt_iff_toInt_lt, show (2 : Int32).toInt = 2 from by decide] at u1
              have u2 := hc126_104
              rw [Int32.lt_iff_toInt_lt, show (3 : Int32).toInt = 3 from by decide] at u2
              exact own_is 2 (by omega) (by decide)
            refine Go.on (B := T109.setTop (mkF m 196 #[.val (.int p1), .val (.int p2), .val (.int p3), .val (.int p4), .val (.ref b1), .val (.ref t3), .val (.ref t4), .val (.int v26_5), .val (.ref x7), .val .null, .val (.int (1 : Int32))] [(.int (1 : Int32))])) (fun t k => XS.ifNo X109.here hx rfl (hb hby at_193) rfl ((if0 _ _).trans (teq ((lw_eq _ _).mpr hc193_110)).2) k) ?_
            refine Go.on (B := T109.setTop (mkF m 197 #[.val (.int p1), .val (.int p2), .val (.int p3), .val (.int p4), .val (.ref b1), .val (.ref t3), .val (.ref t4), .val (.int v26_5), .val (.ref x7), .val .null, .val (.int (1 : Int32))] [(.int (1 : Int32)), (.int (1 : Int32))])) (fun t k => XS.iconst X109.here hx rfl (hb hby at_196) k) ?_
            refine Go.on (B := T109.setTop (mkF m 201 #[.val (.int p1), .val (.int p2), .val (.int p3), .val (.int p4), .val (.ref b1), .val (.ref t3), .val (.ref t4), .val (.int v26_5), .val (.ref x7), .val .null, .val (.int (1 : Int32))] [(.int (1 : Int32)), (.int (1 : Int32))])) (fun t k => XS.goto X109.here hx rfl (pc0 := 197) (pc' := 201) rfl (hb hby at_197) (by decide) (by decide) k) ?_
            refine Go.on (B := T109.setTop (mkF m 202 #[.val (.int p1), .val (.int p2), .val (.int p3), .val (.int p4), .val (.ref b1), .val (.ref t3), .val (.ref t4), .val (.int v26_5), .val (.ref x7), .val .null, .val (.int (1 : Int32))] [(.int ((1 : Int32) &&& (1 : Int32)))])) (fun t k => XS.iand X109.here hx rfl (hb hby at_201) rfl k) ?_
            rw [show ((1 : Int32) &&& (1 : Int32)) = (1 : Int32) from by decide]
            refine Go.on (B := T109.setTop (mkF m 204 #[.val (.int p1), .val (.int p2), .val (.int p3), .val (.int p4), .val (.ref b1), .val (.ref t3), .val (.ref t4), .val (.int v26_5), .val (.ref x7), .val .null, .val (.int (1 : Int32))] [])) (fun t k => XS.istore X109.here hx rfl (hb hby at_202) rfl (l' := #[.val (.int p1), .val (.int p2), .val (.int p3), .val (.int p4), .val (.ref b1), .val (.ref t3), .val (.ref t4), .val (.int v26_5), .val (.ref x7), .val .null, .val (.int (1 : Int32))]) rfl k) ?_
            refine Go.on (B := T109.setTop (mkF m 206 #[.val (.int p1), .val (.int p2), .val (.int p3), .val (.int p4), .val (.ref b1), .val (.ref t3), .val (.ref t4), .val (.int v26_5), .val (.ref x7), .val .null, .val (.int (1 : Int32))] [(.int (1 : Int32))])) (fun t k => XS.iload X109.here hx rfl (hb hby at_204) rfl k) ?_
            refine Go.on (B := T109.setTop (mkF m 208 #[.val (.int p1), .val (.int p2), .val (.int p3), .val (.int p4), .val (.ref b1), .val (.ref t3), .val (.ref t4), .val (.int v26_5), .val (.ref x7), .val .null, .val (.int (1 : Int32))] [(.ref b1), (.int (1 : Int32))])) (fun t k => XS.aload X109.here hx rfl (hb hby at_206) rfl rfl k) ?_
            refine Go.on (B := T109.setTop (mkF m 210 #[.val (.int p1), .val (.int p2), .val (.int p3), .val (.int p4), .val (.ref b1), .val (.ref t3), .val (.ref t4), .val (.int v26_5), .val (.ref x7), .val .null, .val (.int (1 : Int32))] [(.ref t4), (.ref b1), (.int (1 : Int32))])) (fun t k => XS.aload X109.here hx rfl (hb hby at_208) rfl rfl k) ?_
            obtain ⟨cq112, kq112, q112a, q112b, q112c⟩ := isOf hZ e109q f194
            obtain ⟨_, _, ⟨T112, L112, k112, n112⟩, -, X112, ⟨Lc112, hQ112, l112, y112, z112⟩, st112⟩ := X109.virtualBack hx (y := (⟨"com/example/tailrace/tailrace/cli/Count", "getResult", "(Lcom/example/tailrace/tailrace/cli/Count$Tally;)Ljava/lang/Long;"⟩ : MethodName)) (z := (⟨"com/example/tailrace/tailrace/cli/Count", "getResult", "(Lcom/example/tailrace/tailrace/cli/Count$Tally;)Ljava/lang/Long;"⟩ : MethodName)) hown (mvT hZ (hw _ (List.mem_of_getElem? (i := 35) rfl))) (mvT hZ (hw _ (List.mem_of_getElem? (i := 36) rfl))) (notFace_of_selects (args := #[]) (mvT hZ (hw _ (List.mem_of_getElem? (i := 38) rfl)))) (mvT hZ (hw _ (List.mem_of_getElem? (i := 38) rfl))) (mvT hZ (hw _ (List.mem_of_getElem? (i := 37) rfl))) (by decide) (backOf (W := 1) (rgr l Z a0 hw [] b1 t4 (1 : Int64) ca cc T108.heap n0 Zs199 f198 O_193 S_cache B_cache (by decide) (by decide)) hZ (hw _ (List.mem_of_getElem? (i := 39) rfl)) (hw _ (List.mem_of_getElem? (i := 2) rfl)) (by decide) (by decide)) q112a q112c (g := (mkF m 210 #[.val (.int p1), .val (.int p2), .val (.int p3), .val (.int p4), .val (.ref b1), .val (.ref t3), .val (.ref t4), .val (.int v26_5), .val (.ref x7), .val .null, .val (.int (1 : Int32))] [(.ref t4), (.ref b1), (.int (1 : Int32))])) rfl (by rw [hml]; rfl) (Steps.refl _) (argsL := [(.ref t4)]) (rest := [(.int (1 : Int32))]) (lenOf pd_6 rfl) rfl (by show 2 * 0 + _ ≤ _; exact Nat.le_of_eq rfl) (hb hby at_210) (fun _ _ => ⟨rfl, e109q, (by decide : 4 + 0 ≤ _), (by decide : 3 + 0 ≤ _)⟩)
            dsimp only [Pt.U, Pt.locs, Pt.cells, Pt.slots] at X112 l112 y112 z112 st112 hQ112
            subst l112 y112 z112
            obtain ⟨⟨x112, rfl, G112a, G112b⟩, N112q, K112q⟩ := hQ112
            have N112 := Fr.app N109 N112q
            have O_200 := O_193.keep K112q all0
            have f201 := f194.keep K112q
            have f202 := f195.keep K112q
            have f203 := f196.keep K112q
            have f204 := f197.keep K112q nin0
            have f205 := f198.keep K112q nin0
            have f206 := G108a.keep K112q
            have f207 := G108b.keep K112q nin0
            have Zs208 := Nat.le_trans Zs199 K112q.1
            refine Go.on (B := T112.setTop (mkF m 213 #[.val (.int p1), .val (.int p2), .val (.int p3), .val (.int p4), .val (.ref b1), .val (.ref t3), .val (.ref t4), .val (.int v26_5), .val (.ref x7), .val .null, .val (.int (1 : Int32))] [(.ref x112), (.int (1 : Int32))])) (fun t k => st112.trans k) ?_
            obtain ⟨cq113, kq113, q113a, q113b, q113c⟩ := isOf hZ rfl G112a
            obtain ⟨_, _, ⟨T113, L113, k113, n113⟩, -, X113, ⟨Lc113, hQ113, l113, y113, z113⟩, st113⟩ := X112.virtualBack hx (y := (⟨"java/lang/Long", "longValue", "()J"⟩ : MethodName)) (z := (⟨"java/lang/Long", "longValue", "()J"⟩ : MethodName)) hown (mvT hZ (hw _ (List.mem_of_getElem? (i := 48) rfl))) (mvT hZ (hw _ (List.mem_of_getElem? (i := 49) rfl))) (notFace_of_selects (args := #[]) (mvT hZ (hw _ (List.mem_of_getElem? (i := 51) rfl)))) (mvT hZ (hw _ (List.mem_of_getElem? (i := 51) rfl))) (mvT hZ (hw _ (List.mem_of_getElem? (i := 50) rfl))) (by decide) (backOf (W := 1) (rval l Z a0 hw [] x112 (1 : Int64) T112.heap n0 Zs208 G112b) hZ (hw _ (List.mem_of_getElem? (i := 52) rfl)) (hw _ (List.mem_of_getElem? (i := 42) rfl)) (by decide) (by decide)) q113a q113c (g := (mkF m 213 #[.val (.int p1), .val (.int p2), .val (.int p3), .val (.int p4), .val (.ref b1), .val (.ref t3), .val (.ref t4), .val (.int v26_5), .val (.ref x7), .val .null, .val (.int (1 : Int32))] [(.ref x112), (.int (1 : Int32))])) rfl (by rw [hml]; rfl) (Steps.refl _) (argsL := []) (rest := [(.int (1 : Int32))]) (lenOf pd_7 rfl) rfl (by show 2 * 0 + _ ≤ _; exact Nat.le_of_eq rfl) (hb hby at_213) (fun _ _ => ⟨rfl, rfl, (by decide : 4 + 0 ≤ _), (by decide : 3 + 0 ≤ _)⟩)
            dsimp only [Pt.U, Pt.locs, Pt.cells, Pt.slots] at X113 l113 y113 z113 st113 hQ113
            subst l113 y113 z113
            obtain ⟨rfl, N113q, e113q⟩ := hQ113
            have N113 := Fr.app N112 N113q
            refine Go.on (B := T113.setTop (mkF m 216 #[.val (.int p1), .val (.int p2), .val (.int p3), .val (.int p4), .val (.ref b1), .val (.ref t3), .val (.ref t4), .val (.int v26_5), .val (.ref x7), .val .null, .val (.int (1 : Int32))] [(.long (1 : Int64)), (.int (1 : Int32))])) (fun t k => st113.trans k) ?_
            refine Go.on (B := T113.setTop (mkF m 217 #[.val (.int p1), .val (.int p2), .val (.int p3), .val (.int p4), .val (.ref b1), .val (.ref t3), .val (.ref t4), .val (.int v26_5), .val (.ref x7), .val .null, .val (.int (1 : Int32))] [(.long (1 : Int64)), (.long (1 : Int64)), (.int (1 : Int32))])) (fun t k => XS.lconst X113.here hx rfl (hb hby at_216) k) ?_
            refine Go.on (B := T113.setTop (mkF m 218 #[.val (.int p1), .val (.int p2), .val (.int p3), .val (.int p4), .val (.ref b1), .val (.ref t3), .val (.ref t4), .val (.int v26_5), .val (.ref x7), .val .null, .val (.int (1 : Int32))] [(.int (lcmpW (1 : Int64) (1 : Int64))), (.int (1 : Int32))])) (fun t k => XS.lcmp X113.here hx rfl (hb hby at_217) rfl k) ?_
            have hc218_114 : (1 : Int64) = (1 : Int64) := by decide
            refine Go.on (B := T113.setTop (mkF m 221 #[.val (.int p1), .val (.int p2), .val (.int p3), .val (.int p4), .val (.ref b1), .val (.ref t3), .val (.ref t4), .val (.int v26_5), .val (.ref x7), .val .null, .val (.int (1 : Int32))] [(.int (1 : Int32))])) (fun t k => XS.ifNo X113.here hx rfl (hb hby at_218) rfl ((if0 _ _).trans (teq ((lw_eq _ _).mpr hc218_114)).2) k) ?_
            refine Go.on (B := T113.setTop (mkF m 222 #[.val (.int p1), .val (.int p2), .val (.int p3), .val (.int p4), .val (.ref b1), .val (.ref t3), .val (.ref t4), .val (.int v26_5), .val (.ref x7), .val .null, .val (.int (1 : Int32))] [(.int (1 : Int32)), (.int (1 : Int32))])) (fun t k => XS.iconst X113.here hx rfl (hb hby at_221) k) ?_
            refine Go.on (B := T113.setTop (mkF m 226 #[.val (.int p1), .val (.int p2), .val (.int p3), .val (.int p4), .val (.ref b1), .val (.ref t3), .val (.ref t4), .val (.int v26_5), .val (.ref x7), .val .null, .val (.int (1 : Int32))] [(.int (1 : Int32)), (.int (1 : Int32))])) (fun t k => XS.goto X113.here hx rfl (pc0 := 222) (pc' := 226) rfl (hb hby at_222) (by decide) (by decide) k) ?_
            refine Go.on (B := T113.setTop (mkF m 227 #[.val (.int p1), .val (.int p2), .val (.int p3), .val (.int p4), .val (.ref b1), .val (.ref t3), .val (.ref t4), .val (.int v26_5), .val (.ref x7), .val .null, .val (.int (1 : Int32))] [(.int ((1 : Int32) &&& (1 : Int32)))])) (fun t k => XS.iand X113.here hx rfl (hb hby at_226) rfl k) ?_
            rw [show ((1 : Int32) &&& (1 : Int32)) = (1 : Int32) from by decide]
            refine Go.on (B := T113.setTop (mkF m 229 #[.val (.int p1), .val (.int p2), .val (.int p3), .val (.int p4), .val (.ref b1), .val (.ref t3), .val (.ref t4), .val (.int v26_5), .val (.ref x7), .val .null, .val (.int (1 : Int32))] [])) (fun t k => XS.istore X113.here hx rfl (hb hby at_227) rfl (l' := #[.val (.int p1), .val (.int p2), .val (.int p3), .val (.int p4), .val (.ref b1), .val (.ref t3), .val (.ref t4), .val (.int v26_5), .val (.ref x7), .val .null, .val (.int (1 : Int32))]) rfl k) ?_
            refine Go.on (B := T113.setTop (mkF m 231 #[.val (.int p1), .val (.int p2), .val (.int p3), .val (.int p4), .val (.ref b1), .val (.ref t3), .val (.ref t4), .val (.int v26_5), .val (.ref x7), .val .null, .val (.int (1 : Int32))] [(.int (1 : Int32))])) (fun t k => XS.iload X113.here hx rfl (hb hby at_229) rfl k) ?_
            obtain ⟨fs, hr, hrun, hended, hW, hsame⟩ := X113.leave (v := some (.int (1 : Int32))) (fun h => by rw [Bd.returns] at h; cases h)
            refine ⟨_, _, ?_, hrun, hended, _, _, rfl, ?_, ⟨_, rfl⟩, hW, hsame.mono (by decide) (by decide)⟩
            · exact retN X113 hx (t := .boolean) Bd.returns (by simp) (hb hby at_231) hr
            · show Q_rm0 Z p1 p2 p3 p4 ca cc ica icc h0 n0 _ T113.heap _
              rw [e113q]
              exact ⟨rfl, N113⟩
          · refine Go.on (B := T101.setTop (mkF m 129 #[.val (.int p1), .val (.int p2), .val (.int p3), .val (.int p4), .val (.ref b1), .val (.ref t3), .val (.ref t4), .val (.int v26_5), .val (.ref x7), .val .null, .val (.int (1 : Int32))] [])) (fun t k => XS.icmpNo X101.here hx rfl (hb hby at_126) rfl (flt hc126_104).1 k) ?_
            refine Go.on (B := T101.setTop (mkF m 131 #[.val (.int p1), .val (.int p2), .val (.int p3), .val (.int p4), .val (.ref b1), .val (.ref t3), .val (.ref t4), .val (.int v26_5), .val (.ref x7), .val .null, .val (.int (1 : Int32))] [(.int (1 : Int32))])) (fun t k => XS.iload X101.here hx rfl (hb hby at_129) rfl k) ?_
            refine Go.on (B := T101.setTop (mkF m 133 #[.val (.int p1), .val (.int p2), .val (.int p3), .val (.int p4), .val (.ref b1), .val (.ref t3), .val (.ref t4), .val (.int v26_5), .val (.ref x7), .val .null, .val (.int (1 : Int32))] [(.ref b1), (.int (1 : Int32))])) (fun t k => XS.aload X101.here hx rfl (hb hby at_131) rfl rfl k) ?_
            refine Go.on (B := T101.setTop (mkF m 135 #[.val (.int p1), .val (.int p2), .val (.int p3), .val (.int p4), .val (.ref b1), .val (.ref t3), .val (.ref t4), .val (.int v26_5), .val (.ref x7), .val .null, .val (.int (1 : Int32))] [(.ref x7), (.ref b1), (.int (1 : Int32))])) (fun t k => XS.aload X101.here hx rfl (hb hby at_133) rfl rfl k) ?_
            refine Go.on (B := T101.setTop (mkF m 137 #[.val (.int p1), .val (.int p2), .val (.int p3), .val (.int p4), .val (.ref b1), .val (.ref t3), .val (.ref t4), .val (.int v26_5), .val (.ref x7), .val .null, .val (.int (1 : Int32))] [(.ref t3), (.ref x7), (.ref b1), (.int (1 : Int32))])) (fun t k => XS.aload X101.here hx rfl (hb hby at_135) rfl rfl k) ?_
            obtain ⟨cq116, kq116, q116a, q116b, q116c⟩ := isOf hZ rfl f182
            obtain ⟨_, _, ⟨T116, L116, k116, n116⟩, -, X116, ⟨Lc116, hQ116, l116, y116, z116⟩, st116⟩ := X101.virtualBack hx (y := (⟨"com/example/tailrace/tailrace/cli/Count", "add", "(Ljava/lang/Object;Lcom/example/tailrace/tailrace/cli/Count$Tally;)Lcom/example/tailrace/tailrace/cli/Count$Tally;"⟩ : MethodName)) (z := (⟨"com/example/tailrace/tailrace/cli/Count", "add", "(Ljava/lang/Object;Lcom/example/tailrace/tailrace/cli/Count$Tally;)Lcom/example/tailrace/tailrace/cli/Count$Tally;"⟩ : MethodName)) hown (mvT hZ (hw _ (List.mem_of_getElem? (i := 28) rfl))) (mvT hZ (hw _ (List.mem_of_getElem? (i := 29) rfl))) (notFace_of_selects (args := #[]) (mvT hZ (hw _ (List.mem_of_getElem? (i := 31) rfl)))) (mvT hZ (hw _ (List.mem_of_getElem? (i := 31) rfl))) (mvT hZ (hw _ (List.mem_of_getElem? (i := 30) rfl))) (by decide) (backOf (W := 1) (radd1 l Z a0 hw [] b1 x7 t3 (2 : Int64) T101.heap n0 Zs186 G101a G101b ge_t3) hZ (hw _ (List.mem_of_getElem? (i := 32) rfl)) (hw _ (List.mem_of_getElem? (i := 2) rfl)) (by decide) (by decide)) q116a q116c (g := (mkF m 137 #[.val (.int p1), .val (.int p2), .val (.int p3), .val (.int p4), .val (.ref b1), .val (.ref t3), .val (.ref t4), .val (.int v26_5), .val (.ref x7), .val .null, .val (.int (1 : Int32))] [(.ref t3), (.ref x7), (.ref b1), (.int (1 : Int32))])) rfl (by rw [hml]; rfl) (Steps.refl _) (argsL := [(.ref x7), (.ref t3)]) (rest := [(.int (1 : Int32))]) (lenOf pd_5 rfl) rfl (by show 2 * 0 + _ ≤ _; exact Nat.le_of_eq rfl) (hb hby at_137) (fun _ _ => ⟨rfl, rfl, (by decide : 4 + 0 ≤ _), (by decide : 3 + 0 ≤ _)⟩)
            dsimp only [Pt.U, Pt.locs, Pt.cells, Pt.slots] at X116 l116 y116 z116 st116 hQ116
            subst l116 y116 z116
            obtain ⟨rfl, N116q, K116q, G116a, G116b⟩ := hQ116
            have N116 := Fr.app N101 N116q
            have O_209 := O_181.keep K116q (allS ge_t3 all0)
            have f210 := f182.keep K116q
            have f211 := G101a.keep K116q
            have f212 := f184.keep K116q
            have f213 := f185.keep K116q (ninS (Ne.symm ne_t3_t4) nin0)
            have Zs214 := Nat.le_trans Zs186 K116q.1
            rw [show ((2 : Int64) + (1 : Int64)) = (3 : Int64) from by decide] at G116b
            refine Go.on (B := T116.setTop (mkF m 140 #[.val (.int p1), .val (.int p2), .val (.int p3), .val (.int p4), .val (.ref b1), .val (.ref t3), .val (.ref t4), .val (.int v26_5), .val (.ref x7), .val .null, .val (.int (1 : Int32))] [(.ref t3), (.int (1 : Int32))])) (fun t k => st116.trans k) ?_
            refine Go.on (B := T116.setTop (mkF m 142 #[.val (.int p1), .val (.int p2), .val (.int p3), .val (.int p4), .val (.ref b1), .val (.ref t3), .val (.ref t4), .val (.int v26_5), .val (.ref x7), .val .null, .val (.int (1 : Int32))] [(.ref t3), (.ref t3), (.int (1 : Int32))])) (fun t k => XS.aload X116.here hx rfl (hb hby at_140) rfl rfl k) ?_
            refine Go.on (B := T116.setTop (mkF m 145 #[.val (.int p1), .val (.int p2), .val (.int p3), .val (.int p4), .val (.ref b1), .val (.ref t3), .val (.ref t4), .val (.int v26_5), .val (.ref x7), .val .null, .val (.int (1 : Int32))] [(.int (1 : Int32))])) (fun t k => Jvm.RoadKit.acmp (g := (mkF m 142 #[.val (.int p1), .val (.int p2), .val (.int p3), .val (.int p4), .val (.ref b1), .val (.ref t3), .val (.ref t4), .val (.int v26_5), .val (.ref x7), .val .null, .val (.int (1 : Int32))] [(.ref t3), (.ref t3), (.int (1 : Int32))])) X116 hx rfl rfl rfl (pc0 := 142) (pc' := 145) (same := true) rfl (hb hby at_142) rfl (decide_eq_true rfl) (by decide) (by decide) k) ?_
            refine Go.on (B := T116.setTop (mkF m 146 #[.val (.int p1), .val (.int p2), .val (.int p3), .val (.int p4), .val (.ref b1), .val (.ref t3), .val (.ref t4), .val (.int v26_5), .val (.ref x7), .val .null, .val (.int (1 : Int32))] [(.int (1 : Int32)), (.int (1 : Int32))])) (fun t k => XS.iconst X116.here hx rfl (hb hby at_145) k) ?_
            refine Go.on (B := T116.setTop (mkF m 150 #[.val (.int p1), .val (.int p2), .val (.int p3), .val (.int p4), .val (.ref b1), .val (.ref t3), .val (.ref t4), .val (.int v26_5), .val (.ref x7), .val .null, .val (.int (1 : Int32))] [(.int (1 : Int32)), (.int (1 : Int32))])) (fun t k => XS.goto X116.here hx rfl (pc0 := 146) (pc' := 150) rfl (hb hby at_146) (by decide) (by decide) k) ?_
            refine Go.on (B := T116.setTop (mkF m 151 #[.val (.int p1), .val (.int p2), .val (.int p3), .val (.int p4), .val (.ref b1), .val (.ref t3), .val (.ref t4), .val (.int v26_5), .val (.ref x7), .val .null, .val (.int (1 : Int32))] [(.int ((1 : Int32) &&& (1 : Int32)))])) (fun t k => XS.iand X116.here hx rfl (hb hby at_150) rfl k) ?_
            rw [show ((1 : Int32) &&& (1 : Int32)) = (1 : Int32) from by decide]
            refine Go.on (B := T116.setTop (mkF m 153 #[.val (.int p1), .val (.int p2), .val (.int p3), .val (.int p4), .val (.ref b1), .val (.ref t3), .val (.ref t4), .val (.int v26_5), .val (.ref x7), .val .null, .val (.int (1 : Int32))] [])) (fun t k => XS.istore X116.here hx rfl (hb hby at_151) rfl (l' := #[.val (.int p1), .val (.int p2), .val (.int p3), .val (.int p4), .val (.ref b1), .val (.ref t3), .val (.ref t4), .val (.int v26_5), .val (.ref x7), .val .null, .val (.int (1 : Int32))]) rfl k) ?_
            refine Go.on (B := T116.setTop (mkF m 155 #[.val (.int p1), .val (.int p2), .val (.int p3), .val (.int p4), .val (.ref b1), .val (.ref t3), .val (.ref t4), .val (.int v26_5), .val (.ref x7), .val .null, .val (.int (1 : Int32))] [(.int (1 : Int32))])) (fun t k => XS.iload X116.here hx rfl (hb hby at_153) rfl k) ?_
            refine Go.on (B := T116.setTop (mkF m 157 #[.val (.int p1), .val (.int p2), .val (.int p3), .val (.int p4), .val (.ref b1), .val (.ref t3), .val (.ref t4), .val (.int v26_5), .val (.ref x7), .val .null, .val (.int (1 : Int32))] [(.ref b1), (.int (1 : Int32))])) (fun t k => XS.aload X116.here hx rfl (hb hby at_155) rfl rfl k) ?_
            refine Go.on (B := T116.setTop (mkF m 159 #[.val (.int p1), .val (.int p2), .val (.int p3), .val (.int p4), .val (.ref b1), .val (.ref t3), .val (.ref t4), .val (.int v26_5), .val (.ref x7), .val .null, .val (.int (1 : Int32))] [.null, (.ref b1), (.int (1 : Int32))])) (fun t k => XS.aload X116.here hx rfl (hb hby at_157) rfl rfl k) ?_
            refine Go.on (B := T116.setTop (mkF m 161 #[.val (.int p1), .val (.int p2), .val (.int p3), .val (.int p4), .val (.ref b1), .val (.ref t3), .val (.ref t4), .val (.int v26_5), .val (.ref x7), .val .null, .val (.int (1 : Int32))] [(.ref t4), .null, (.ref b1), (.int (1 : Int32))])) (fun t k => XS.aload X116.here hx rfl (hb hby at_159) rfl rfl k) ?_
            obtain ⟨cq119, kq119, q119a, q119b, q119c⟩ := isOf hZ rfl f210
            obtain ⟨_, _, ⟨T119, L119, k119, n119⟩, -, X119, ⟨Lc119, hQ119, l119, y119, z119⟩, st119⟩ := X116.virtualBack hx (y := (⟨"com/example/tailrace/tailrace/cli/Count", "add", "(Ljava/lang/Object;Lcom/example/tailrace/tailrace/cli/Count$Tally;)Lcom/example/tailrace/tailrace/cli/Count$Tally;"⟩ : MethodName)) (z := (⟨"com/example/tailrace/tailrace/cli/Count", "add", "(Ljava/lang/Object;Lcom/example/tailrace/tailrace/cli/Count$Tally;)Lcom/example/tailrace/tailrace/cli/Count$Tally;"⟩ : MethodName)) hown (mvT hZ (hw _ (List.mem_of_getElem? (i := 28) rfl))) (mvT hZ (hw _ (List.mem_of_getElem? (i := 29) rfl))) (notFace_of_selects (args := #[]) (mvT hZ (hw _ (List.mem_of_getElem? (i := 31) rfl)))) (mvT hZ (hw _ (List.mem_of_getElem? (i := 31) rfl))) (mvT hZ (hw _ (List.mem_of_getElem? (i := 30) rfl))) (by decide) (backOf (W := 1) (radd0 l Z a0 hw [] b1 t4 (0 : Int64) T116.heap n0 Zs214 f212 f213 ge_t4) hZ (hw _ (List.mem_of_getElem? (i := 32) rfl)) (hw _ (List.mem_of_getElem? (i := 2) rfl)) (by decide) (by decide)) q119a q119c (g := (mkF m 161 #[.val (.int p1), .val (.int p2), .val (.int p3), .val (.int p4), .val (.ref b1), .val (.ref t3), .val (.ref t4), .val (.int v26_5), .val (.ref x7), .val .null, .val (.int (1 : Int32))] [(.ref t4), .null, (.ref b1), (.int (1 : Int32))])) rfl (by rw [hml]; rfl) (Steps.refl _) (argsL := [.null, (.ref t4)]) (rest := [(.int (1 : Int32))]) (lenOf pd_5 rfl) rfl (by show 2 * 0 + _ ≤ _; exact Nat.le_of_eq rfl) (hb hby at_161) (fun _ _ => ⟨rfl, rfl, (by decide : 4 + 0 ≤ _), (by decide : 3 + 0 ≤ _)⟩)
            dsimp only [Pt.U, Pt.locs, Pt.cells, Pt.slots] at X119 l119 y119 z119 st119 hQ119
            subst l119 y119 z119
            obtain ⟨rfl, N119q, K119q, G119a, G119b⟩ := hQ119
            have N119 := Fr.app N116 N119q
            have O_215 := O_209.keep K119q (allS ge_t4 all0)
            have f216 := f210.keep K119q
            have f217 := G116a.keep K119q
            have f218 := f212.keep K119q
            have f219 := G116b.keep K119q (ninS ne_t3_t4 nin0)
            have Zs220 := Nat.le_trans Zs214 K119q.1
            rw [show ((0 : Int64) + (1 : Int64)) = (1 : Int64) from by decide] at G119b
            refine Go.on (B := T119.setTop (mkF m 164 #[.val (.int p1), .val (.int p2), .val (.int p3), .val (.int p4), .val (.ref b1), .val (.ref t3), .val (.ref t4), .val (.int v26_5), .val (.ref x7), .val .null, .val (.int (1 : Int32))] [(.ref t4), (.int (1 : Int32))])) (fun t k => st119.trans k) ?_
            refine Go.on (B := T119.setTop (mkF m 166 #[.val (.int p1), .val (.int p2), .val (.int p3), .val (.int p4), .val (.ref b1), .val (.ref t3), .val (.ref t4), .val (.int v26_5), .val (.ref x7), .val .null, .val (.int (1 : Int32))] [(.ref t4), (.ref t4), (.int (1 : Int32))])) (fun t k => XS.aload X119.here hx rfl (hb hby at_164) rfl rfl k) ?_
            refine Go.on (B := T119.setTop (mkF m 169 #[.val (.int p1), .val (.int p2), .val (.int p3), .val (.int p4), .val (.ref b1), .val (.ref t3), .val (.ref t4), .val (.int v26_5), .val (.ref x7), .val .null, .val (.int (1 : Int32))] [(.int (1 : Int32))])) (fun t k => Jvm.RoadKit.acmp (g := (mkF m 166 #[.val (.int p1), .val (.int p2), .val (.int p3), .val (.int p4), .val (.ref b1), .val (.ref t3), .val (.ref t4), .val (.int v26_5), .val (.ref x7), .val .null, .val (.int (1 : Int32))] [(.ref t4), (.ref t4), (.int (1 : Int32))])) X119 hx rfl rfl rfl (pc0 := 166) (pc' := 169) (same := true) rfl (hb hby at_166) rfl (decide_eq_true rfl) (by decide) (by decide) k) ?_
            refine Go.on (B := T119.setTop (mkF m 170 #[.val (.int p1), .val (.int p2), .val (.int p3), .val (.int p4), .val (.ref b1), .val (.ref t3), .val (.ref t4), .val (.int v26_5), .val (.ref x7), .val .null, .val (.int (1 : Int32))] [(.int (1 : Int32)), (.int (1 : Int32))])) (fun t k => XS.iconst X119.here hx rfl (hb hby at_169) k) ?_
            refine Go.on (B := T119.setTop (mkF m 174 #[.val (.int p1), .val (.int p2), .val (.int p3), .val (.int p4), .val (.ref b1), .val (.ref t3), .val (.ref t4), .val (.int v26_5), .val (.ref x7), .val .null, .val (.int (1 : Int32))] [(.int (1 : Int32)), (.int (1 : Int32))])) (fun t k => XS.goto X119.here hx rfl (pc0 := 170) (pc' := 174) rfl (hb hby at_170) (by decide) (by decide) k) ?_
            refine Go.on (B := T119.setTop (mkF m 175 #[.val (.int p1), .val (.int p2), .val (.int p3), .val (.int p4), .val (.ref b1), .val (.ref t3), .val (.ref t4), .val (.int v26_5), .val (.ref x7), .val .null, .val (.int (1 : Int32))] [(.int ((1 : Int32) &&& (1 : Int32)))])) (fun t k => XS.iand X119.here hx rfl (hb hby at_174) rfl k) ?_
            rw [show ((1 : Int32) &&& (1 : Int32)) = (1 : Int32) from by decide]
            refine Go.on (B := T119.setTop (mkF m 177 #[.val (.int p1), .val (.int p2), .val (.int p3), .val (.int p4), .val (.ref b1), .val (.ref t3), .val (.ref t4), .val (.int v26_5), .val (.ref x7), .val .null, .val (.int (1 : Int32))] [])) (fun t k => XS.istore X119.here hx rfl (hb hby at_175) rfl (l' := #[.val (.int p1), .val (.int p2), .val (.int p3), .val (.int p4), .val (.ref b1), .val (.ref t3), .val (.ref t4), .val (.int v26_5), .val (.ref x7), .val .null, .val (.int (1 : Int32))]) rfl k) ?_
            refine Go.on (B := T119.setTop (mkF m 179 #[.val (.int p1), .val (.int p2), .val (.int p3), .val (.int p4), .val (.ref b1), .val (.ref t3), .val (.ref t4), .val (.int v26_5), .val (.ref x7), .val .null, .val (.int (1 : Int32))] [(.int (1 : Int32))])) (fun t k => XS.iload X119.here hx rfl (hb hby at_177) rfl k) ?_
            refine Go.on (B := T119.setTop (mkF m 181 #[.val (.int p1), .val (.int p2), .val (.int p3), .val (.int p4), .val (.ref b1), .val (.ref t3), .val (.ref t4), .val (.int v26_5), .val (.ref x7), .val .null, .val (.int (1 : Int32))] [(.ref b1), (.int (1 : Int32))])) (fun t k => XS.aload X119.here hx rfl (hb hby at_179) rfl rfl k) ?_
            refine Go.on (B := T119.setTop (mkF m 183 #[.val (.int p1), .val (.int p2), .val (.int p3), .val (.int p4), .val (.ref b1), .val (.ref t3), .val (.ref t4), .val (.int v26_5), .val (.ref x7), .val .null, .val (.int (1 : Int32))] [(.ref t3), (.ref b1), (.int (1 : Int32))])) (fun t k => XS.aload X119.here hx rfl (hb hby at_181) rfl rfl k) ?_
            obtain ⟨cq122, kq122, q122a, q122b, q122c⟩ := isOf hZ rfl f216
            obtain ⟨_, _, ⟨T122, L122, k122, n122⟩, -, X122, ⟨Lc122, hQ122, l122, y122, z122⟩, st122⟩ := X119.virtualBack hx (y := (⟨"com/example/tailrace/tailrace/cli/Count", "getResult", "(Lcom/example/tailrace/tailrace/cli/Count$Tally;)Ljava/lang/Long;"⟩ : MethodName)) (z := (⟨"com/example/tailrace/tailrace/cli/Count", "getResult", "(Lcom/example/tailrace/tailrace/cli/Count$Tally;)Ljava/lang/Long;"⟩ : MethodName)) hown (mvT hZ (hw _ (List.mem_of_getElem? (i := 35) rfl))) (mvT hZ (hw _ (List.mem_of_getElem? (i := 36) rfl))) (notFace_of_selects (args := #[]) (mvT hZ (hw _ (List.mem_of_getElem? (i := 38) rfl)))) (mvT hZ (hw _ (List.mem_of_getElem? (i := 38) rfl))) (mvT hZ (hw _ (List.mem_of_getElem? (i := 37) rfl))) (by decide) (backOf (W := 1) (rgr l Z a0 hw [] b1 t3 (3 : Int64) ca cc T119.heap n0 Zs220 f219 O_215 S_cache B_cache (by decide) (by decide)) hZ (hw _ (List.mem_of_getElem? (i := 39) rfl)) (hw _ (List.mem_of_getElem? (i := 2) rfl)) (by decide) (by decide)) q122a q122c (g := (mkF m 183 #[.val (.int p1), .val (.int p2), .val (.int p3), .val (.int p4), .val (.ref b1), .val (.ref t3), .val (.ref t4), .val (.int v26_5), .val (.ref x7), .val .null, .val (.int (1 : Int32))] [(.ref t3), (.ref b1), (.int (1 : Int32))])) rfl (by rw [hml]; rfl) (Steps.refl _) (argsL := [(.ref t3)]) (rest := [(.int (1 : Int32))]) (lenOf pd_6 rfl) rfl (by show 2 * 0 + _ ≤ _; exact Nat.le_of_eq rfl) (hb hby at_183) (fun _ _ => ⟨rfl, rfl, (by decide : 4 + 0 ≤ _), (by decide : 3 + 0 ≤ _)⟩)
            dsimp only [Pt.U, Pt.locs, Pt.cells, Pt.slots] at X122 l122 y122 z122 st122 hQ122
            subst l122 y122 z122
            obtain ⟨⟨x122, rfl, G122a, G122b⟩, N122q, K122q⟩ := hQ122
            have N122 := Fr.app N119 N122q
            have O_221 := O_215.keep K122q all0
            have f222 := f216.keep K122q
            have f223 := f217.keep K122q
            have f224 := G119a.keep K122q
            have f225 := f219.keep K122q nin0
            have f226 := G119b.keep K122q nin0
            have Zs227 := Nat.le_trans Zs220 K122q.1
            refine Go.on (B := T122.setTop (mkF m 186 #[.val (.int p1), .val (.int p2), .val (.int p3), .val (.int p4), .val (.ref b1), .val (.ref t3), .val (.ref t4), .val (.int v26_5), .val (.ref x7), .val .null, .val (.int (1 : Int32))] [(.ref x122), (.int (1 : Int32))])) (fun t k => st122.trans k) ?_
            obtain ⟨cq123, kq123, q123a, q123b, q123c⟩ := isOf hZ rfl G122a
            obtain ⟨_, _, ⟨T123, L123, k123, n123⟩, -, X123, ⟨Lc123, hQ123, l123, y123, z123⟩, st123⟩ := X122.virtualBack hx (y := (⟨"java/lang/Long", "longValue", "()J"⟩ : MethodName)) (z := (⟨"java/lang/Long", "longValue", "()J"⟩ : MethodName)) hown (mvT hZ (hw _ (List.mem_of_getElem? (i := 48) rfl))) (mvT hZ (hw _ (List.mem_of_getElem? (i := 49) rfl))) (notFace_of_selects (args := #[]) (mvT hZ (hw _ (List.mem_of_getElem? (i := 51) rfl)))) (mvT hZ (hw _ (List.mem_of_getElem? (i := 51) rfl))) (mvT hZ (hw _ (List.mem_of_getElem? (i := 50) rfl))) (by decide) (backOf (W := 1) (rval l Z a0 hw [] x122 (3 : Int64) T122.heap n0 Zs227 G122b) hZ (hw _ (List.mem_of_getElem? (i := 52) rfl)) (hw _ (List.mem_of_getElem? (i := 42) rfl)) (by decide) (by decide)) q123a q123c (g := (mkF m 186 #[.val (.int p1), .val (.int p2), .val (.int p3), .val (.int p4), .val (.ref b1), .val (.ref t3), .val (.ref t4), .val (.int v26_5), .val (.ref x7), .val .null, .val (.int (1 : Int32))] [(.ref x122), (.int (1 : Int32))])) rfl (by rw [hml]; rfl) (Steps.refl _) (argsL := []) (rest := [(.int (1 : Int32))]) (lenOf pd_7 rfl) rfl (by show 2 * 0 + _ ≤ _; exact Nat.le_of_eq rfl) (hb hby at_186) (fun _ _ => ⟨rfl, rfl, (by decide : 4 + 0 ≤ _), (by decide : 3 + 0 ≤ _)⟩)
            dsimp only [Pt.U, Pt.locs, Pt.cells, Pt.slots] at X123 l123 y123 z123 st123 hQ123
            subst l123 y123 z123
            obtain ⟨rfl, N123q, e123q⟩ := hQ123
            have N123 := Fr.app N122 N123q
            refine Go.on (B := T123.setTop (mkF m 189 #[.val (.int p1), .val (.int p2), .val (.int p3), .val (.int p4), .val (.ref b1), .val (.ref t3), .val (.ref t4), .val (.int v26_5), .val (.ref x7), .val .null, .val (.int (1 : Int32))] [(.long (3 : Int64)), (.int (1 : Int32))])) (fun t k => st123.trans k) ?_
            refine Go.on (B := T123.setTop (mkF m 191 #[.val (.int p1), .val (.int p2), .val (.int p3), .val (.int p4), .val (.ref b1), .val (.ref t3), .val (.ref t4), .val (.int v26_5), .val (.ref x7), .val .null, .val (.int (1 : Int32))] [(.int v26_5), (.long (3 : Int64)), (.int (1 : Int32))])) (fun t k => XS.iload X123.here hx rfl (hb hby at_189) rfl k) ?_
            refine Go.on (B := T123.setTop (mkF m 192 #[.val (.int p1), .val (.int p2), .val (.int p3), .val (.int p4), .val (.ref b1), .val (.ref t3), .val (.ref t4), .val (.int v26_5), .val (.ref x7), .val .null, .val (.int (1 : Int32))] [(.long (v26_5.toInt64)), (.long (3 : Int64)), (.int (1 : Int32))])) (fun t k => XS.i2l X123.here hx rfl (hb hby at_191) rfl k) ?_
            refine Go.on (B := T123.setTop (mkF m 193 #[.val (.int p1), .val (.int p2), .val (.int p3), .val (.int p4), .val (.ref b1), .val (.ref t3), .val (.ref t4), .val (.int v26_5), .val (.ref x7), .val .null, .val (.int (1 : Int32))] [(.int (lcmpW (3 : Int64) (v26_5.toInt64))), (.int (1 : Int32))])) (fun t k => XS.lcmp X123.here hx rfl (hb hby at_192) rfl k) ?_
            have hc193_124 : (3 : Int64) = (v26_5.toInt64) := by
              have q := own_n3 _ _ hv26_5
              have u0 := hc66_71
              rw [Int32.lt_iff_toInt_lt, show (1 : Int32).toInt = 1 from by decide] at u0
              have u1 := hc96_88
              rw [Int32.lt_iff_toInt_lt, show (2 : Int32).toInt = 2 from by decide] at u1
              have u2 := hc126_104
              rw [Int32.lt_iff_toInt_lt, show (3 : Int32).toInt = 3 from by decide] at u2
              exact own_is 3 (by omega) (by decide)
            refine Go.on (B := T123.setTop (mkF m 196 #[.val (.int p1), .val (.int p2), .val (.int p3), .val (.int p4), .val (.ref b1), .val (.ref t3), .val (.ref t4), .val (.int v26_5), .val (.ref x7), .val .null, .val (.int (1 : Int32))] [(.int (1 : Int32))])) (fun t k => XS.ifNo X123.here hx rfl (hb hby at_193) rfl ((if0 _ _).trans (teq ((lw_eq _ _).mpr hc193_124)).2) k) ?_
            refine Go.on (B := T123.setTop (mkF m 197 #[.val (.int p1), .val (.int p2), .val (.int p3), .val (.int p4), .val (.ref b1), .val (.ref t3), .val (.ref t4), .val (.int v26_5), .val (.ref x7), .val .null, .val (.int (1 : Int32))] [(.int (1 : Int32)), (.int (1 : Int32))])) (fun t k => XS.iconst X123.here hx rfl (hb hby at_196) k) ?_
            refine Go.on (B := T123.setTop (mkF m 201 #[.val (.int p1), .val (.int p2), .val (.int p3), .val (.int p4), .val (.ref b1), .val (.ref t3), .val (.ref t4), .val (.int v26_5), .val (.ref x7), .val .null, .val (.int (1 : Int32))] [(.int (1 : Int32)), (.int (1 : Int32))])) (fun t k => XS.goto X123.here hx rfl (pc0 := 197) (pc' := 201) rfl (hb hby at_197) (by decide) (by decide) k) ?_
            refine Go.on (B := T123.setTop (mkF m 202 #[.val (.int p1), .val (.int p2), .val (.int p3), .val (.int p4), .val (.ref b1), .val (.ref t3), .val (.ref t4), .val (.int v26_5), .val (.ref x7), .val .null, .val (.int (1 : Int32))] [(.int ((1 : Int32) &&& (1 : Int32)))])) (fun t k => XS.iand X123.here hx rfl (hb hby at_201) rfl k) ?_
            rw [show ((1 : Int32) &&& (1 : Int32)) = (1 : Int32) from by decide]
            refine Go.on (B := T123.setTop (mkF m 204 #[.val (.int p1), .val (.int p2), .val (.int p3), .val (.int p4), .val (.ref b1), .val (.ref t3), .val (.ref t4), .val (.int v26_5), .val (.ref x7), .val .null, .val (.int (1 : Int32))] [])) (fun t k => XS.istore X123.here hx rfl (hb hby at_202) rfl (l' := #[.val (.int p1), .val (.int p2), .val (.int p3), .val (.int p4), .val (.ref b1), .val (.ref t3), .val (.ref t4), .val (.int v26_5), .val (.ref x7), .val .null, .val (.int (1 : Int32))]) rfl k) ?_
            refine Go.on (B := T123.setTop (mkF m 206 #[.val (.int p1), .val (.int p2), .val (.int p3), .val (.int p4), .val (.ref b1), .val (.ref t3), .val (.ref t4), .val (.int v26_5), .val (.ref x7), .val .null, .val (.int (1 : Int32))] [(.int (1 : Int32))])) (fun t k => XS.iload X123.here hx rfl (hb hby at_204) rfl k) ?_
            refine Go.on (B := T123.setTop (mkF m 208 #[.val (.int p1), .val (.int p2), .val (.int p3), .val (.int p4), .val (.ref b1), .val (.ref t3), .val (.ref t4), .val (.int v26_5), .val (.ref x7), .val .null, .val (.int (1 : Int32))] [(.ref b1), (.int (1 : Int32))])) (fun t k => XS.aload X123.here hx rfl (hb hby at_206) rfl rfl k) ?_
            refine Go.on (B := T123.setTop (mkF m 210 #[.val (.int p1), .val (.int p2), .val (.int p3), .val (.int p4), .val (.ref b1), .val (.ref t3), .val (.ref t4), .val (.int v26_5), .val (.ref x7), .val .null, .val (.int (1 : Int32))] [(.ref t4), (.ref b1), (.int (1 : Int32))])) (fun t k => XS.aload X123.here hx rfl (hb hby at_208) rfl rfl k) ?_
            obtain ⟨cq126, kq126, q126a, q126b, q126c⟩ := isOf hZ e123q f222
            obtain ⟨_, _, ⟨T126, L126, k126, n126⟩, -, X126, ⟨Lc126, hQ126, l126, y126, z126⟩, st126⟩ := X123.virtualBack hx (y := (⟨"com/example/tailrace/tailrace/cli/Count", "getResult", "(Lcom/example/tailrace/tailrace/cli/Count$Tally;)Ljava/lang/Long;"⟩ : MethodName)) (z := (⟨"com/example/tailrace/tailrace/cli/Count", "getResult", "(Lcom/example/tailrace/tailrace/cli/Count$Tally;)Ljava/lang/Long;"⟩ : MethodName)) hown (mvT hZ (hw _ (List.mem_of_getElem? (i := 35) rfl))) (mvT hZ (hw _ (List.mem_of_getElem? (i := 36) rfl))) (notFace_of_selects (args := #[]) (mvT hZ (hw _ (List.mem_of_getElem? (i := 38) rfl)))) (mvT hZ (hw _ (List.mem_of_getElem? (i := 38) rfl))) (mvT hZ (hw _ (List.mem_of_getElem? (i := 37) rfl))) (by decide) (backOf (W := 1) (rgr l Z a0 hw [] b1 t4 (1 : Int64) ca cc T122.heap n0 Zs227 f226 O_221 S_cache B_cache (by decide) (by decide)) hZ (hw _ (List.mem_of_getElem? (i := 39) rfl)) (hw _ (List.mem_of_getElem? (i := 2) rfl)) (by decide) (by decide)) q126a q126c (g := (mkF m 210 #[.val (.int p1), .val (.int p2), .val (.int p3), .val (.int p4), .val (.ref b1), .val (.ref t3), .val (.ref t4), .val (.int v26_5), .val (.ref x7), .val .null, .val (.int (1 : Int32))] [(.ref t4), (.ref b1), (.int (1 : Int32))])) rfl (by rw [hml]; rfl) (Steps.refl _) (argsL := [(.ref t4)]) (rest := [(.int (1 : Int32))]) (lenOf pd_6 rfl) rfl (by show 2 * 0 + _ ≤ _; exact Nat.le_of_eq rfl) (hb hby at_210) (fun _ _ => ⟨rfl, e123q, (by decide : 4 + 0 ≤ _), (by decide : 3 + 0 ≤ _)⟩)
            dsimp only [Pt.U, Pt.locs, Pt.cells, Pt.slots] at X126 l126 y126 z126 st126 hQ126
            subst l126 y126 z126
            obtain ⟨⟨x126, rfl, G126a, G126b⟩, N126q, K126q⟩ := hQ126
            have N126 := Fr.app N123 N126q
            have O_228 := O_221.keep K126q all0
            have f229 := f222.keep K126q
            have f230 := f223.keep K126q
            have f231 := f224.keep K126q
            have f232 := f225.keep K126q nin0
            have f233 := f226.keep K126q nin0
            have f234 := G122a.keep K126q
            have f235 := G122b.keep K126q nin0
            have Zs236 := Nat.le_trans Zs227 K126q.1
            refine Go.on (B := T126.setTop (mkF m 213 #[.val (.int p1), .val (.int p2), .val (.int p3), .val (.int p4), .val (.ref b1), .val (.ref t3), .val (.ref t4), .val (.int v26_5), .val (.ref x7), .val .null, .val (.int (1 : Int32))] [(.ref x126), (.int (1 : Int32))])) (fun t k => st126.trans k) ?_
            obtain ⟨cq127, kq127, q127a, q127b, q127c⟩ := isOf hZ rfl G126a
            obtain ⟨_, _, ⟨T127, L127, k127, n127⟩, -, X127, ⟨Lc127, hQ127, l127, y127, z127⟩, st127⟩ := X126.virtualBack hx (y := (⟨"java/lang/Long", "longValue", "()J"⟩ : MethodName)) (z := (⟨"java/lang/Long", "longValue", "()J"⟩ : MethodName)) hown (mvT hZ (hw _ (List.mem_of_getElem? (i := 48) rfl))) (mvT hZ (hw _ (List.mem_of_getElem? (i := 49) rfl))) (notFace_of_selects (args := #[]) (mvT hZ (hw _ (List.mem_of_getElem? (i := 51) rfl)))) (mvT hZ (hw _ (List.mem_of_getElem? (i := 51) rfl))) (mvT hZ (hw _ (List.mem_of_getElem? (i := 50) rfl))) (by decide) (backOf (W := 1) (rval l Z a0 hw [] x126 (1 : Int64) T126.heap n0 Zs236 G126b) hZ (hw _ (List.mem_of_getElem? (i := 52) rfl)) (hw _ (List.mem_of_getElem? (i := 42) rfl)) (by decide) (by decide)) q127a q127c (g := (mkF m 213 #[.val (.int p1), .val (.int p2), .val (.int p3), .val (.int p4), .val (.ref b1), .val (.ref t3), .val (.ref t4), .val (.int v26_5), .val (.ref x7), .val .null, .val (.int (1 : Int32))] [(.ref x126), (.int (1 : Int32))])) rfl (by rw [hml]; rfl) (Steps.refl _) (argsL := []) (rest := [(.int (1 : Int32))]) (lenOf pd_7 rfl) rfl (by show 2 * 0 + _ ≤ _; exact Nat.le_of_eq rfl) (hb hby at_213) (fun _ _ => ⟨rfl, rfl, (by decide : 4 + 0 ≤ _), (by decide : 3 + 0 ≤ _)⟩)
            dsimp only [Pt.U, Pt.locs, Pt.cells, Pt.slots] at X127 l127 y127 z127 st127 hQ127
            subst l127 y127 z127
            obtain ⟨rfl, N127q, e127q⟩ := hQ127
            have N127 := Fr.app N126 N127q
            refine Go.on (B := T127.setTop (mkF m 216 #[.val (.int p1), .val (.int p2), .val (.int p3), .val (.int p4), .val (.ref b1), .val (.ref t3), .val (.ref t4), .val (.int v26_5), .val (.ref x7), .val .null, .val (.int (1 : Int32))] [(.long (1 : Int64)), (.int (1 : Int32))])) (fun t k => st127.trans k) ?_
            refine Go.on (B := T127.setTop (mkF m 217 #[.val (.int p1), .val (.int p2), .val (.int p3), .val (.int p4), .val (.ref b1), .val (.ref t3), .val (.ref t4), .val (.int v26_5), .val (.ref x7), .val .null, .val (.int (1 : Int32))] [(.long (1 : Int64)), (.long (1 : Int64)), (.int (1 : Int32))])) (fun t k => XS.lconst X127.here hx rfl (hb hby at_216) k) ?_
            refine Go.on (B := T127.setTop (mkF m 218 #[.val (.int p1), .val (.int p2), .val (.int p3), .val (.int p4), .val (.ref b1), .val (.ref t3), .val (.ref t4), .val (.int v26_5), .val (.ref x7), .val .null, .val (.int (1 : Int32))] [(.int (lcmpW (1 : Int64) (1 : Int64))), (.int (1 : Int32))])) (fun t k => XS.lcmp X127.here hx rfl (hb hby at_217) rfl k) ?_
            have hc218_128 : (1 : Int64) = (1 : Int64) := by decide
            refine Go.on (B := T127.setTop (mkF m 221 #[.val (.int p1), .val (.int p2), .val (.int p3), .val (.int p4), .val (.ref b1), .val (.ref t3), .val (.ref t4), .val (.int v26_5), .val (.ref x7), .val .null, .val (.int (1 : Int32))] [(.int (1 : Int32))])) (fun t k => XS.ifNo X127.here hx rfl (hb hby at_218) rfl ((if0 _ _).trans (teq ((lw_eq _ _).mpr hc218_128)).2) k) ?_
            refine Go.on (B := T127.setTop (mkF m 222 #[.val (.int p1), .val (.int p2), .val (.int p3), .val (.int p4), .val (.ref b1), .val (.ref t3), .val (.ref t4), .val (.int v26_5), .val (.ref x7), .val .null, .val (.int (1 : Int32))] [(.int (1 : Int32)), (.int (1 : Int32))])) (fun t k => XS.iconst X127.here hx rfl (hb hby at_221) k) ?_
            refine Go.on (B := T127.setTop (mkF m 226 #[.val (.int p1), .val (.int p2), .val (.int p3), .val (.int p4), .val (.ref b1), .val (.ref t3), .val (.ref t4), .val (.int v26_5), .val (.ref x7), .val .null, .val (.int (1 : Int32))] [(.int (1 : Int32)), (.int (1 : Int32))])) (fun t k => XS.goto X127.here hx rfl (pc0 := 222) (pc' := 226) rfl (hb hby at_222) (by decide) (by decide) k) ?_
            refine Go.on (B := T127.setTop (mkF m 227 #[.val (.int p1), .val (.int p2), .val (.int p3), .val (.int p4), .val (.ref b1), .val (.ref t3), .val (.ref t4), .val (.int v26_5), .val (.ref x7), .val .null, .val (.int (1 : Int32))] [(.int ((1 : Int32) &&& (1 : Int32)))])) (fun t k => XS.iand X127.here hx rfl (hb hby at_226) rfl k) ?_
            rw [show ((1 : Int32) &&& (1 : Int32)) = (1 : Int32) from by decide]
            refine Go.on (B := T127.setTop (mkF m 229 #[.val (.int p1), .val (.int p2), .val (.int p3), .val (.int p4), .val (.ref b1), .val (.ref t3), .val (.ref t4), .val (.int v26_5), .val (.ref x7), .val .null, .val (.int (1 : Int32))] [])) (fun t k => XS.istore X127.here hx rfl (hb hby at_227) rfl (l' := #[.val (.int p1), .val (.int p2), .val (.int p3), .val (.int p4), .val (.ref b1), .val (.ref t3), .val (.ref t4), .val (.int v26_5), .val (.ref x7), .val .null, .val (.int (1 : Int32))]) rfl k) ?_
            refine Go.on (B := T127.setTop (mkF m 231 #[.val (.int p1), .val (.int p2), .val (.int p3), .val (.int p4), .val (.ref b1), .val (.ref t3), .val (.ref t4), .val (.int v26_5), .val (.ref x7), .val .null, .val (.int (1 : Int32))] [(.int (1 : Int32))])) (fun t k => XS.iload X127.here hx rfl (hb hby at_229) rfl k) ?_
            obtain ⟨fs, hr, hrun, hended, hW, hsame⟩ := X127.leave (v := some (.int (1 : Int32))) (fun h => by rw [Bd.returns] at h; cases h)
            refine ⟨_, _, ?_, hrun, hended, _, _, rfl, ?_, ⟨_, rfl⟩, hW, hsame.mono (by decide) (by decide)⟩
            · exact retN X127 hx (t := .boolean) Bd.returns (by simp) (hb hby at_231) hr
            · show Q_rm0 Z p1 p2 p3 p4 ca cc ica icc h0 n0 _ T127.heap _
              rw [e127q]
              exact ⟨rfl, N127⟩
  · refine Go.on (B := T4.setTop (mkF m 34 #[.val (.int p1), .val (.int p2), .val (.int p3), .val (.int p4), .val (.ref b1), .val (.ref t3), .val (.ref t4), .val (.int v26_5), .unset, .unset, .unset] [])) (fun t k => XS.ifNo X4.here hx rfl (hb hby at_31) rfl ((if0 _ _).trans (feq hc31_6).1) k) ?_
    refine Go.on (B := T4.setTop (mkF m 35 #[.val (.int p1), .val (.int p2), .val (.int p3), .val (.int p4), .val (.ref b1), .val (.ref t3), .val (.ref t4), .val (.int v26_5), .unset, .unset, .unset] [.null])) (fun t k => XS.aconstNull X4.here hx rfl (hb hby at_34) k) ?_
    refine Go.on (B := T4.setTop (mkF m 42 #[.val (.int p1), .val (.int p2), .val (.int p3), .val (.int p4), .val (.ref b1), .val (.ref t3), .val (.ref t4), .val (.int v26_5), .unset, .unset, .unset] [.null])) (fun t k => XS.goto X4.here hx rfl (pc0 := 35) (pc' := 42) rfl (hb hby at_35) (by decide) (by decide) k) ?_
    refine Go.on (B := T4.setTop (mkF m 44 #[.val (.int p1), .val (.int p2), .val (.int p3), .val (.int p4), .val (.ref b1), .val (.ref t3), .val (.ref t4), .val (.int v26_5), .val .null, .unset, .unset] [])) (fun t k => XS.astore X4.here hx rfl (hb hby at_42) rfl rfl (l' := #[.val (.int p1), .val (.int p2), .val (.int p3), .val (.int p4), .val (.ref b1), .val (.ref t3), .val (.ref t4), .val (.int v26_5), .val .null, .unset, .unset]) rfl k) ?_
    refine Go.on (B := T4.setTop (mkF m 45 #[.val (.int p1), .val (.int p2), .val (.int p3), .val (.int p4), .val (.ref b1), .val (.ref t3), .val (.ref t4), .val (.int v26_5), .val .null, .unset, .unset] [(.int p4)])) (fun t k => XS.iloadN X4.here hx rfl (hb hby at_44) rfl k) ?_
    refine Go.on (B := T4.setTop (mkF m 46 #[.val (.int p1), .val (.int p2), .val (.int p3), .val (.int p4), .val (.ref b1), .val (.ref t3), .val (.ref t4), .val (.int v26_5), .val .null, .unset, .unset] [(.int (2 : Int32)), (.int p4)])) (fun t k => XS.iconst X4.here hx rfl (hb hby at_45) k) ?_
    refine Go.on (B := T4.setTop (mkF m 47 #[.val (.int p1), .val (.int p2), .val (.int p3), .val (.int p4), .val (.ref b1), .val (.ref t3), .val (.ref t4), .val (.int v26_5), .val .null, .unset, .unset] [(.int (p4 &&& (2 : Int32)))])) (fun t k => XS.iand X4.here hx rfl (hb hby at_46) rfl k) ?_
    by_cases hc47_130 : (p4 &&& (2 : Int32)) = (0 : Int32)
    · refine Go.on (B := T4.setTop (mkF m 54 #[.val (.int p1), .val (.int p2), .val (.int p3), .val (.int p4), .val (.ref b1), .val (.ref t3), .val (.ref t4), .val (.int v26_5), .val .null, .unset, .unset] [])) (fun t k => XS.ifYes X4.here hx rfl (pc0 := 47) (pc' := 54) rfl (hb hby at_47) rfl ((if0 _ _).trans (teq hc47_130).1) (by decide) (by decide) k) ?_
      refine Go.on (B := T4.setTop (mkF m 55 #[.val (.int p1), .val (.int p2), .val (.int p3), .val (.int p4), .val (.ref b1), .val (.ref t3), .val (.ref t4), .val (.int v26_5), .val .null, .unset, .unset] [(.int p3)])) (fun t k => XS.iloadN X4.here hx rfl (hb hby at_54) rfl k) ?_
      obtain ⟨_, _, ⟨T131, L131, k131, n131⟩, -, X131, ⟨Lc131, hQ131, l131, y131, z131⟩, st131⟩ := Jvm.LawKit.callS X4 hx (y := (⟨"java/lang/Integer", "valueOf", "(I)Ljava/lang/Integer;"⟩ : MethodName)) hown (mvT hZ (hw _ (List.mem_of_getElem? (i := 21) rfl))) (mvT hZ (hw _ (List.mem_of_getElem? (i := 22) rfl))) (mvT hZ (hw _ (List.mem_of_getElem? (i := 23) rfl))) (mvT hZ (hw _ (List.mem_of_getElem? (i := 24) rfl))) (by decide) (backOf (W := 0) (riv l Z a0 hw [] p3 ica icc T4.heap n0 Zs10 O_6 S_high S_icache B_icache) hZ (hw _ (List.mem_of_getElem? (i := 24) rfl)) (hw _ (List.mem_of_getElem? (i := 23) rfl)) (by decide) (by decide)) (g := (mkF m 55 #[.val (.int p1), .val (.int p2), .val (.int p3), .val (.int p4), .val (.ref b1), .val (.ref t3), .val (.ref t4), .val (.int v26_5), .val .null, .unset, .unset] [(.int p3)])) rfl (by rw [hml]; rfl) (argsL := [(.int p3)]) (rest := []) (lenOf pd_4 rfl) rfl (by show 2 * 0 + _ ≤ _; exact Nat.le_of_eq rfl) (hb hby at_55) (fun _ _ => ⟨rfl, rfl, (by decide : 3 + 1 ≤ _), (by decide : 2 + 1 ≤ _)⟩)
      dsimp only [Pt.U, Pt.locs, Pt.cells, Pt.slots] at X131 l131 y131 z131 st131 hQ131
      subst l131 y131 z131
      obtain ⟨⟨x131, rfl, G131a, G131b⟩, N131q, K131q⟩ := hQ131
      have N131 := Fr.app N4 N131q
      have O_237 := O_6.keep K131q all0
      have f238 := f7.keep K131q
      have f239 := f8.keep K131q
      have f240 := f9.keep K131q nin0
      have f241 := G4a.keep K131q
      have f242 := G4b.keep K131q nin0
      have Zs243 := Nat.le_trans Zs10 K131q.1
      refine Go.on (B := T131.setTop (mkF m 58 #[.val (.int p1), .val (.int p2), .val (.int p3), .val (.int p4), .val (.ref b1), .val (.ref t3), .val (.ref t4), .val (.int v26_5), .val .null, .unset, .unset] [(.ref x131)])) (fun t k => st131 _ k) ?_
      refine Go.on (B := T131.setTop (mkF m 60 #[.val (.int p1), .val (.int p2), .val (.int p3), .val (.int p4), .val (.ref b1), .val (.ref t3), .val (.ref t4), .val (.int v26_5), .val .null, .val (.ref x131), .unset] [])) (fun t k => XS.astore X131.here hx rfl (hb hby at_58) rfl rfl (l' := #[.val (.int p1), .val (.int p2), .val (.int p3), .val (.int p4), .val (.ref b1), .val (.ref t3), .val (.ref t4), .val (.int v26_5), .val .null, .val (.ref x131), .unset]) rfl k) ?_
      refine Go.on (B := T131.setTop (mkF m 61 #[.val (.int p1), .val (.int p2), .val (.int p3), .val (.int p4), .val (.ref b1), .val (.ref t3), .val (.ref t4), .val (.int v26_5), .val .null, .val (.ref x131), .unset] [(.int (1 : Int32))])) (fun t k => XS.iconst X131.here hx rfl (hb hby at_60) k) ?_
      refine Go.on (B := T131.setTop (mkF m 63 #[.val (.int p1), .val (.int p2), .val (.int p3), .val (.int p4), .val (.ref b1), .val (.ref t3), .val (.ref t4), .val (.int v26_5), .val .null, .val (.ref x131), .val (.int (1 : Int32))] [])) (fun t k => XS.istore X131.here hx rfl (hb hby at_61) rfl (l' := #[.val (.int p1), .val (.int p2), .val (.int p3), .val (.int p4), .val (.ref b1), .val (.ref t3), .val (.ref t4), .val (.int v26_5), .val .null, .val (.ref x131), .val (.int (1 : Int32))]) rfl k) ?_
      refine Go.on (B := T131.setTop (mkF m 65 #[.val (.int p1), .val (.int p2), .val (.int p3), .val (.int p4), .val (.ref b1), .val (.ref t3), .val (.ref t4), .val (.int v26_5), .val .null, .val (.ref x131), .val (.int (1 : Int32))] [(.int v26_5)])) (fun t k => XS.iload X131.here hx rfl (hb hby at_63) rfl k) ?_
      refine Go.on (B := T131.setTop (mkF m 66 #[.val (.int p1), .val (.int p2), .val (.int p3), .val (.int p4), .val (.ref b1), .val (.ref t3), .val (.ref t4), .val (.int v26_5), .val .null, .val (.ref x131), .val (.int (1 : Int32))] [(.int (1 : Int32)), (.int v26_5)])) (fun t k => XS.iconst X131.here hx rfl (hb hby at_65) k) ?_
      by_cases hc66_133 : v26_5 < (1 : Int32)
      · refine Go.on (B := T131.setTop (mkF m 93 #[.val (.int p1), .val (.int p2), .val (.int p3), .val (.int p4), .val (.ref b1), .val (.ref t3), .val (.ref t4), .val (.int v26_5), .val .null, .val (.ref x131), .val (.int (1 : Int32))] [])) (fun t k => XS.icmpYes X131.here hx rfl (pc0 := 66) (pc' := 93) rfl (hb hby at_66) rfl (tlt hc66_133).1 (by decide) (by decide) k) ?_
        refine Go.on (B := T131.setTop (mkF m 95 #[.val (.int p1), .val (.int p2), .val (.int p3), .val (.int p4), .val (.ref b1), .val (.ref t3), .val (.ref t4), .val (.int v26_5), .val .null, .val (.ref x131), .val (.int (1 : Int32))] [(.int v26_5)])) (fun t k => XS.iload X131.here hx rfl (hb hby at_93) rfl k) ?_
        refine Go.on (B := T131.setTop (mkF m 96 #[.val (.int p1), .val (.int p2), .val (.int p3), .val (.int p4), .val (.ref b1), .val (.ref t3), .val (.ref t4), .val (.int v26_5), .val .null, .val (.ref x131), .val (.int (1 : Int32))] [(.int (2 : Int32)), (.int v26_5)])) (fun t k => XS.iconst X131.here hx rfl (hb hby at_95) k) ?_
        have hc96_134 : v26_5 < (2 : Int32) := own_up2 hc66_133 (by decide)
        refine Go.on (B := T131.setTop (mkF m 123 #[.val (.int p1), .val (.int p2), .val (.int p3), .val (.int p4), .val (.ref b1), .val (.ref t3), .val (.ref t4), .val (.int v26_5), .val .null, .val (.ref x131), .val (.int (1 : Int32))] [])) (fun t k => XS.icmpYes X131.here hx rfl (pc0 := 96) (pc' := 123) rfl (hb hby at_96) rfl (tlt hc96_134).1 (by decide) (by decide) k) ?_
        refine Go.on (B := T131.setTop (mkF m 125 #[.val (.int p1), .val (.int p2), .val (.int p3), .val (.int p4), .val (.ref b1), .val (.ref t3), .val (.ref t4), .val (.int v26_5), .val .null, .val (.ref x131), .val (.int (1 : Int32))] [(.int v26_5)])) (fun t k => XS.iload X131.here hx rfl (hb hby at_123) rfl k) ?_
        refine Go.on (B := T131.setTop (mkF m 126 #[.val (.int p1), .val (.int p2), .val (.int p3), .val (.int p4), .val (.ref b1), .val (.ref t3), .val (.ref t4), .val (.int v26_5), .val .null, .val (.ref x131), .val (.int (1 : Int32))] [(.int (3 : Int32)), (.int v26_5)])) (fun t k => XS.iconst X131.here hx rfl (hb hby at_125) k) ?_
        have hc126_135 : v26_5 < (3 : Int32) := own_up2 hc96_134 (by decide)
        refine Go.on (B := T131.setTop (mkF m 153 #[.val (.int p1), .val (.int p2), .val (.int p3), .val (.int p4), .val (.ref b1), .val (.ref t3), .val (.ref t4), .val (.int v26_5), .val .null, .val (.ref x131), .val (.int (1 : Int32))] [])) (fun t k => XS.icmpYes X131.here hx rfl (pc0 := 126) (pc' := 153) rfl (hb hby at_126) rfl (tlt hc126_135).1 (by decide) (by decide) k) ?_
        refine Go.on (B := T131.setTop (mkF m 155 #[.val (.int p1), .val (.int p2), .val (.int p3), .val (.int p4), .val (.ref b1), .val (.ref t3), .val (.ref t4), .val (.int v26_5), .val .null, .val (.ref x131), .val (.int (1 : Int32))] [(.int (1 : Int32))])) (fun t k => XS.iload X131.here hx rfl (hb hby at_153) rfl k) ?_
        refine Go.on (B := T131.setTop (mkF m 157 #[.val (.int p1), .val (.int p2), .val (.int p3), .val (.int p4), .val (.ref b1), .val (.ref t3), .val (.ref t4), .val (.int v26_5), .val .null, .val (.ref x131), .val (.int (1 : Int32))] [(.ref b1), (.int (1 : Int32))])) (fun t k => XS.aload X131.here hx rfl (hb hby at_155) rfl rfl k) ?_
        refine Go.on (B := T131.setTop (mkF m 159 #[.val (.int p1), .val (.int p2), .val (.int p3), .val (.int p4), .val (.ref b1), .val (.ref t3), .val (.ref t4), .val (.int v26_5), .val .null, .val (.ref x131), .val (.int (1 : Int32))] [(.ref x131), (.ref b1), (.int (1 : Int32))])) (fun t k => XS.aload X131.here hx rfl (hb hby at_157) rfl rfl k) ?_
        refine Go.on (B := T131.setTop (mkF m 161 #[.val (.int p1), .val (.int p2), .val (.int p3), .val (.int p4), .val (.ref b1), .val (.ref t3), .val (.ref t4), .val (.int v26_5), .val .null, .val (.ref x131), .val (.int (1 : Int32))] [(.ref t4), (.ref x131), (.ref b1), (.int (1 : Int32))])) (fun t k => XS.aload X131.here hx rfl (hb hby at_159) rfl rfl k) ?_
        obtain ⟨cq136, kq136, q136a, q136b, q136c⟩ := isOf hZ rfl f238
        obtain ⟨_, _, ⟨T136, L136, k136, n136⟩, -, X136, ⟨Lc136, hQ136, l136, y136, z136⟩, st136⟩ := X131.virtualBack hx (y := (⟨"com/example/tailrace/tailrace/cli/Count", "add", "(Ljava/lang/Object;Lcom/example/tailrace/tailrace/cli/Count$Tally;)Lcom/example/tailrace/tailrace/cli/Count$Tally;"⟩ : MethodName)) (z := (⟨"com/example/tailrace/tailrace/cli/Count", "add", "(Ljava/lang/Object;Lcom/example/tailrace/tailrace/cli/Count$Tally;)Lcom/example/tailrace/tailrace/cli/Count$Tally;"⟩ : MethodName)) hown (mvT hZ (hw _ (List.mem_of_getElem? (i := 28) rfl))) (mvT hZ (hw _ (List.mem_of_getElem? (i := 29) rfl))) (notFace_of_selects (args := #[]) (mvT hZ (hw _ (List.mem_of_getElem? (i := 31) rfl)))) (mvT hZ (hw _ (List.mem_of_getElem? (i := 31) rfl))) (mvT hZ (hw _ (List.mem_of_getElem? (i := 30) rfl))) (by decide) (backOf (W := 1) (radd1 l Z a0 hw [] b1 x131 t4 (0 : Int64) T131.heap n0 Zs243 f241 f242 ge_t4) hZ (hw _ (List.mem_of_getElem? (i := 32) rfl)) (hw _ (List.mem_of_getElem? (i := 2) rfl)) (by decide) (by decide)) q136a q136c (g := (mkF m 161 #[.val (.int p1), .val (.int p2), .val (.int p3), .val (.int p4), .val (.ref b1), .val (.ref t3), .val (.ref t4), .val (.int v26_5), .val .null, .val (.ref x131), .val (.int (1 : Int32))] [(.ref t4), (.ref x131), (.ref b1), (.int (1 : Int32))])) rfl (by rw [hml]; rfl) (Steps.refl _) (argsL := [(.ref x131), (.ref t4)]) (rest := [(.int (1 : Int32))]) (lenOf pd_5 rfl) rfl (by show 2 * 0 + _ ≤ _; exact Nat.le_of_eq rfl) (hb hby at_161) (fun _ _ => ⟨rfl, rfl, (by decide : 4 + 0 ≤ _), (by decide : 3 + 0 ≤ _)⟩)
        dsimp only [Pt.U, Pt.locs, Pt.cells, Pt.slots] at X136 l136 y136 z136 st136 hQ136
        subst l136 y136 z136
        obtain ⟨rfl, N136q, K136q, G136a, G136b⟩ := hQ136
        have N136 := Fr.app N131 N136q
        have O_244 := O_237.keep K136q (allS ge_t4 all0)
        have f245 := f238.keep K136q
        have f246 := f239.keep K136q
        have f247 := f240.keep K136q (ninS ne_t3_t4 nin0)
        have f248 := f241.keep K136q
        have Zs249 := Nat.le_trans Zs243 K136q.1
        rw [show ((0 : Int64) + (1 : Int64)) = (1 : Int64) from by decide] at G136b
        refine Go.on (B := T136.setTop (mkF m 164 #[.val (.int p1), .val (.int p2), .val (.int p3), .val (.int p4), .val (.ref b1), .val (.ref t3), .val (.ref t4), .val (.int v26_5), .val .null, .val (.ref x131), .val (.int (1 : Int32))] [(.ref t4), (.int (1 : Int32))])) (fun t k => st136.trans k) ?_
        refine Go.on (B := T136.setTop (mkF m 166 #[.val (.int p1), .val (.int p2), .val (.int p3), .val (.int p4), .val (.ref b1), .val (.ref t3), .val (.ref t4), .val (.int v26_5), .val .null, .val (.ref x131), .val (.int (1 : Int32))] [(.ref t4), (.ref t4), (.int (1 : Int32))])) (fun t k => XS.aload X136.here hx rfl (hb hby at_164) rfl rfl k) ?_
        refine Go.on (B := T136.setTop (mkF m 169 #[.val (.int p1), .val (.int p2), .val (.int p3), .val (.int p4), .val (.ref b1), .val (.ref t3), .val (.ref t4), .val (.int v26_5), .val .null, .val (.ref x131), .val (.int (1 : Int32))] [(.int (1 : Int32))])) (fun t k => Jvm.RoadKit.acmp (g := (mkF m 166 #[.val (.int p1), .val (.int p2), .val (.int p3), .val (.int p4), .val (.ref b1), .val (.ref t3), .val (.ref t4), .val (.int v26_5), .val .null, .val (.ref x131), .val (.int (1 : Int32))] [(.ref t4), (.ref t4), (.int (1 : Int32))])) X136 hx rfl rfl rfl (pc0 := 166) (pc' := 169) (same := true) rfl (hb hby at_166) rfl (decide_eq_true rfl) (by decide) (by decide) k) ?_
        refine Go.on (B := T136.setTop (mkF m 170 #[.val (.int p1), .val (.int p2), .val (.int p3), .val (.int p4), .val (.ref b1), .val (.ref t3), .val (.ref t4), .val (.int v26_5), .val .null, .val (.ref x131), .val (.int (1 : Int32))] [(.int (1 : Int32)), (.int (1 : Int32))])) (fun t k => XS.iconst X136.here hx rfl (hb hby at_169) k) ?_
        refine Go.on (B := T136.setTop (mkF m 174 #[.val (.int p1), .val (.int p2), .val (.int p3), .val (.int p4), .val (.ref b1), .val (.ref t3), .val (.ref t4), .val (.int v26_5), .val .null, .val (.ref x131), .val (.int (1 : Int32))] [(.int (1 : Int32)), (.int (1 : Int32))])) (fun t k => XS.goto X136.here hx rfl (pc0 := 170) (pc' := 174) rfl (hb hby at_170) (by decide) (by decide) k) ?_
        refine Go.on (B := T136.setTop (mkF m 175 #[.val (.int p1), .val (.int p2), .val (.int p3), .val (.int p4), .val (.ref b1), .val (.ref t3), .val (.ref t4), .val (.int v26_5), .val .null, .val (.ref x131), .val (.int (1 : Int32))] [(.int ((1 : Int32) &&& (1 : Int32)))])) (fun t k => XS.iand X136.here hx rfl (hb hby at_174) rfl k) ?_
        rw [show ((1 : Int32) &&& (1 : Int32)) = (1 : Int32) from by decide]
        refine Go.on (B := T136.setTop (mkF m 177 #[.val (.int p1), .val (.int p2), .val (.int p3), .val (.int p4), .val (.ref b1), .val (.ref t3), .val (.ref t4), .val (.int v26_5), .val .null, .val (.ref x131), .val (.int (1 : Int32))] [])) (fun t k => XS.istore X136.here hx rfl (hb hby at_175) rfl (l' := #[.val (.int p1), .val (.int p2), .val (.int p3), .val (.int p4), .val (.ref b1), .val (.ref t3), .val (.ref t4), .val (.int v26_5), .val .null, .val (.ref x131), .val (.int (1 : Int32))]) rfl k) ?_
        refine Go.on (B := T136.setTop (mkF m 179 #[.val (.int p1), .val (.int p2), .val (.int p3), .val (.int p4), .val (.ref b1), .val (.ref t3), .val (.ref t4), .val (.int v26_5), .val .null, .val (.ref x131), .val (.int (1 : Int32))] [(.int (1 : Int32))])) (fun t k => XS.iload X136.here hx rfl (hb hby at_177) rfl k) ?_
        refine Go.on (B := T136.setTop (mkF m 181 #[.val (.int p1), .val (.int p2), .val (.int p3), .val (.int p4), .val (.ref b1), .val (.ref t3), .val (.ref t4), .val (.int v26_5), .val .null, .val (.ref x131), .val (.int (1 : Int32))] [(.ref b1), (.int (1 : Int32))])) (fun t k => XS.aload X136.here hx rfl (hb hby at_179) rfl rfl k) ?_
        refine Go.on (B := T136.setTop (mkF m 183 #[.val (.int p1), .val (.int p2), .val (.int p3), .val (.int p4), .val (.ref b1), .val (.ref t3), .val (.ref t4), .val (.int v26_5), .val .null, .val (.ref x131), .val (.int (1 : Int32))] [(.ref t3), (.ref b1), (.int (1 : Int32))])) (fun t k => XS.aload X136.here hx rfl (hb hby at_181) rfl rfl k) ?_
        obtain ⟨cq139, kq139, q139a, q139b, q139c⟩ := isOf hZ rfl f245
        obtain ⟨_, _, ⟨T139, L139, k139, n139⟩, -, X139, ⟨Lc139, hQ139, l139, y139, z139⟩, st139⟩ := X136.virtualBack hx (y := (⟨"com/example/tailrace/tailrace/cli/Count", "getResult", "(Lcom/example/tailrace/tailrace/cli/Count$Tally;)Ljava/lang/Long;"⟩ : MethodName)) (z := (⟨"com/example/tailrace/tailrace/cli/Count", "getResult", "(Lcom/example/tailrace/tailrace/cli/Count$Tally;)Ljava/lang/Long;"⟩ : MethodName)) hown (mvT hZ (hw _ (List.mem_of_getElem? (i := 35) rfl))) (mvT hZ (hw _ (List.mem_of_getElem? (i := 36) rfl))) (notFace_of_selects (args := #[]) (mvT hZ (hw _ (List.mem_of_getElem? (i := 38) rfl)))) (mvT hZ (hw _ (List.mem_of_getElem? (i := 38) rfl))) (mvT hZ (hw _ (List.mem_of_getElem? (i := 37) rfl))) (by decide) (backOf (W := 1) (rgr l Z a0 hw [] b1 t3 (0 : Int64) ca cc T136.heap n0 Zs249 f247 O_244 S_cache B_cache (by decide) (by decide)) hZ (hw _ (List.mem_of_getElem? (i := 39) rfl)) (hw _ (List.mem_of_getElem? (i := 2) rfl)) (by decide) (by decide)) q139a q139c (g := (mkF m 183 #[.val (.int p1), .val (.int p2), .val (.int p3), .val (.int p4), .val (.ref b1), .val (.ref t3), .val (.ref t4), .val (.int v26_5), .val .null, .val (.ref x131), .val (.int (1 : Int32))] [(.ref t3), (.ref b1), (.int (1 : Int32))])) rfl (by rw [hml]; rfl) (Steps.refl _) (argsL := [(.ref t3)]) (rest := [(.int (1 : Int32))]) (lenOf pd_6 rfl) rfl (by show 2 * 0 + _ ≤ _; exact Nat.le_of_eq rfl) (hb hby at_183) (fun _ _ => ⟨rfl, rfl, (by decide : 4 + 0 ≤ _), (by decide : 3 + 0 ≤ _)⟩)
        dsimp only [Pt.U, Pt.locs, Pt.cells, Pt.slots] at X139 l139 y139 z139 st139 hQ139
        subst l139 y139 z139
        obtain ⟨⟨x139, rfl, G139a, G139b⟩, N139q, K139q⟩ := hQ139
        have N139 := Fr.app N136 N139q
        have O_250 := O_244.keep K139q all0
        have f251 := f245.keep K139q
        have f252 := f246.keep K139q
        have f253 := f247.keep K139q nin0
        have f254 := G136a.keep K139q
        have f255 := G136b.keep K139q nin0
        have Zs256 := Nat.le_trans Zs249 K139q.1
        refine Go.on (B := T139.setTop (mkF m 186 #[.val (.int p1), .val (.int p2), .val (.int p3), .val (.int p4), .val (.ref b1), .val (.ref t3), .val (.ref t4), .val (.int v26_5), .val .null, .val (.ref x131), .val (.int (1 : Int32))] [(.ref x139), (.int (1 : Int32))])) (fun t k => st139.trans k) ?_
        obtain ⟨cq140, kq140, q140a, q140b, q140c⟩ := isOf hZ rfl G139a
        obtain ⟨_, _, ⟨T140, L140, k140, n140⟩, -, X140, ⟨Lc140, hQ140, l140, y140, z140⟩, st140⟩ := X139.virtualBack hx (y := (⟨"java/lang/Long", "longValue", "()J"⟩ : MethodName)) (z := (⟨"java/lang/Long", "longValue", "()J"⟩ : MethodName)) hown (mvT hZ (hw _ (List.mem_of_getElem? (i := 48) rfl))) (mvT hZ (hw _ (List.mem_of_getElem? (i := 49) rfl))) (notFace_of_selects (args := #[]) (mvT hZ (hw _ (List.mem_of_getElem? (i := 51) rfl)))) (mvT hZ (hw _ (List.mem_of_getElem? (i := 51) rfl))) (mvT hZ (hw _ (List.mem_of_getElem? (i := 50) rfl))) (by decide) (backOf (W := 1) (rval l Z a0 hw [] x139 (0 : Int64) T139.heap n0 Zs256 G139b) hZ (hw _ (List.mem_of_getElem? (i := 52) rfl)) (hw _ (List.mem_of_getElem? (i := 42) rfl)) (by decide) (by decide)) q140a q140c (g := (mkF m 186 #[.val (.int p1), .val (.int p2), .val (.int p3), .val (.int p4), .val (.ref b1), .val (.ref t3), .val (.ref t4), .val (.int v26_5), .val .null, .val (.ref x131), .val (.int (1 : Int32))] [(.ref x139), (.int (1 : Int32))])) rfl (by rw [hml]; rfl) (Steps.refl _) (argsL := []) (rest := [(.int (1 : Int32))]) (lenOf pd_7 rfl) rfl (by show 2 * 0 + _ ≤ _; exact Nat.le_of_eq rfl) (hb hby at_186) (fun _ _ => ⟨rfl, rfl, (by decide : 4 + 0 ≤ _), (by decide : 3 + 0 ≤ _)⟩)
        dsimp only [Pt.U, Pt.locs, Pt.cells, Pt.slots] at X140 l140 y140 z140 st140 hQ140
        subst l140 y140 z140
        obtain ⟨rfl, N140q, e140q⟩ := hQ140
        have N140 := Fr.app N139 N140q
        refine Go.on (B := T140.setTop (mkF m 189 #[.val (.int p1), .val (.int p2), .val (.int p3), .val (.int p4), .val (.ref b1), .val (.ref t3), .val (.ref t4), .val (.int v26_5), .val .null, .val (.ref x131), .val (.int (1 : Int32))] [(.long (0 : Int64)), (.int (1 : Int32))])) (fun t k => st140.trans k) ?_
        refine Go.on (B := T140.setTop (mkF m 191 #[.val (.int p1), .val (.int p2), .val (.int p3), .val (.int p4), .val (.ref b1), .val (.ref t3), .val (.ref t4), .val (.int v26_5), .val .null, .val (.ref x131), .val (.int (1 : Int32))] [(.int v26_5), (.long (0 : Int64)), (.int (1 : Int32))])) (fun t k => XS.iload X140.here hx rfl (hb hby at_189) rfl k) ?_
        refine Go.on (B := T140.setTop (mkF m 192 #[.val (.int p1), .val (.int p2), .val (.int p3), .val (.int p4), .val (.ref b1), .val (.ref t3), .val (.ref t4), .val (.int v26_5), .val .null, .val (.ref x131), .val (.int (1 : Int32))] [(.long (v26_5.toInt64)), (.long (0 : Int64)), (.int (1 : Int32))])) (fun t k => XS.i2l X140.here hx rfl (hb hby at_191) rfl k) ?_
        refine Go.on (B := T140.setTop (mkF m 193 #[.val (.int p1), .val (.int p2), .val (.int p3), .val (.int p4), .val (.ref b1), .val (.ref t3), .val (.ref t4), .val (.int v26_5), .val .null, .val (.ref x131), .val (.int (1 : Int32))] [(.int (lcmpW (0 : Int64) (v26_5.toInt64))), (.int (1 : Int32))])) (fun t k => XS.lcmp X140.here hx rfl (hb hby at_192) rfl k) ?_
        have hc193_141 : (0 : Int64) = (v26_5.toInt64) := by
          have q := own_n3 _ _ hv26_5
          have u0 := hc66_133
          rw [Int32.lt_iff_toInt_lt, show (1 : Int32).toInt = 1 from by decide] at u0
          have u1 := hc96_134
          rw [Int32.lt_iff_toInt_lt, show (2 : Int32).toInt = 2 from by decide] at u1
          have u2 := hc126_135
          rw [Int32.lt_iff_toInt_lt, show (3 : Int32).toInt = 3 from by decide] at u2
          exact own_is 0 (by omega) (by decide)
        refine Go.on (B := T140.setTop (mkF m 196 #[.val (.int p1), .val (.int p2), .val (.int p3), .val (.int p4), .val (.ref b1), .val (.ref t3), .val (.ref t4), .val (.int v26_5), .val .null, .val (.ref x131), .val (.int (1 : Int32))] [(.int (1 : Int32))])) (fun t k => XS.ifNo X140.here hx rfl (hb hby at_193) rfl ((if0 _ _).trans (teq ((lw_eq _ _).mpr hc193_141)).2) k) ?_
        refine Go.on (B := T140.setTop (mkF m 197 #[.val (.int p1), .val (.int p2), .val (.int p3), .val (.int p4), .val (.ref b1), .val (.ref t3), .val (.ref t4), .val (.int v26_5), .val .null, .val (.ref x131), .val (.int (1 : Int32))] [(.int (1 : Int32)), (.int (1 : Int32))])) (fun t k => XS.iconst X140.here hx rfl (hb hby at_196) k) ?_
        refine Go.on (B := T140.setTop (mkF m 201 #[.val (.int p1), .val (.int p2), .val (.int p3), .val (.int p4), .val (.ref b1), .val (.ref t3), .val (.ref t4), .val (.int v26_5), .val .null, .val (.ref x131), .val (.int (1 : Int32))] [(.int (1 : Int32)), (.int (1 : Int32))])) (fun t k => XS.goto X140.here hx rfl (pc0 := 197) (pc' := 201) rfl (hb hby at_197) (by decide) (by decide) k) ?_
        refine Go.on (B := T140.setTop (mkF m 202 #[.val (.int p1), .val (.int p2), .val (.int p3), .val (.int p4), .val (.ref b1), .val (.ref t3), .val (.ref t4), .val (.int v26_5), .val .null, .val (.ref x131), .val (.int (1 : Int32))] [(.int ((1 : Int32) &&& (1 : Int32)))])) (fun t k => XS.iand X140.here hx rfl (hb hby at_201) rfl k) ?_
        rw [show ((1 : Int32) &&& (1 : Int32)) = (1 : Int32) from by decide]
        refine Go.on (B := T140.setTop (mkF m 204 #[.val (.int p1), .val (.int p2), .val (.int p3), .val (.int p4), .val (.ref b1), .val (.ref t3), .val (.ref t4), .val (.int v26_5), .val .null, .val (.ref x131), .val (.int (1 : Int32))] [])) (fun t k => XS.istore X140.here hx rfl (hb hby at_202) rfl (l' := #[.val (.int p1), .val (.int p2), .val (.int p3), .val (.int p4), .val (.ref b1), .val (.ref t3), .val (.ref t4), .val (.int v26_5), .val .null, .val (.ref x131), .val (.int (1 : Int32))]) rfl k) ?_
        refine Go.on (B := T140.setTop (mkF m 206 #[.val (.int p1), .val (.int p2), .val (.int p3), .val (.int p4), .val (.ref b1), .val (.ref t3), .val (.ref t4), .val (.int v26_5), .val .null, .val (.ref x131), .val (.int (1 : Int32))] [(.int (1 : Int32))])) (fun t k => XS.iload X140.here hx rfl (hb hby at_204) rfl k) ?_
        refine Go.on (B := T140.setTop (mkF m 208 #[.val (.int p1), .val (.int p2), .val (.int p3), .val (.int p4), .val (.ref b1), .val (.ref t3), .val (.ref t4), .val (.int v26_5), .val .null, .val (.ref x131), .val (.int (1 : Int32))] [(.ref b1), (.int (1 : Int32))])) (fun t k => XS.aload X140.here hx rfl (hb hby at_206) rfl rfl k) ?_
        refine Go.on (B := T140.setTop (mkF m 210 #[.val (.int p1), .val (.int p2), .val (.int p3), .val (.int p4), .val (.ref b1), .val (.ref t3), .val (.ref t4), .val (.int v26_5), .val .null, .val (.ref x131), .val (.int (1 : Int32))] [(.ref t4), (.ref b1), (.int (1 : Int32))])) (fun t k => XS.aload X140.here hx rfl (hb hby at_208) rfl rfl k) ?_
        obtain ⟨cq143, kq143, q143a, q143b, q143c⟩ := isOf hZ e140q f251
        obtain ⟨_, _, ⟨T143, L143, k143, n143⟩, -, X143, ⟨Lc143, hQ143, l143, y143, z143⟩, st143⟩ := X140.virtualBack hx (y := (⟨"com/example/tailrace/tailrace/cli/Count", "getResult", "(Lcom/example/tailrace/tailrace/cli/Count$Tally;)Ljava/lang/Long;"⟩ : MethodName)) (z := (⟨"com/example/tailrace/tailrace/cli/Count", "getResult", "(Lcom/example/tailrace/tailrace/cli/Count$Tally;)Ljava/lang/Long;"⟩ : MethodName)) hown (mvT hZ (hw _ (List.mem_of_getElem? (i := 35) rfl))) (mvT hZ (hw _ (List.mem_of_getElem? (i := 36) rfl))) (notFace_of_selects (args := #[]) (mvT hZ (hw _ (List.mem_of_getElem? (i := 38) rfl)))) (mvT hZ (hw _ (List.mem_of_getElem? (i := 38) rfl))) (mvT hZ (hw _ (List.mem_of_getElem? (i := 37) rfl))) (by decide) (backOf (W := 1) (rgr l Z a0 hw [] b1 t4 (1 : Int64) ca cc T139.heap n0 Zs256 f255 O_250 S_cache B_cache (by decide) (by decide)) hZ (hw _ (List.mem_of_getElem? (i := 39) rfl)) (hw _ (List.mem_of_getElem? (i := 2) rfl)) (by decide) (by decide)) q143a q143c (g := (mkF m 210 #[.val (.int p1), .val (.int p2), .val (.int p3), .val (.int p4), .val (.ref b1), .val (.ref t3), .val (.ref t4), .val (.int v26_5), .val .null, .val (.ref x131), .val (.int (1 : Int32))] [(.ref t4), (.ref b1), (.int (1 : Int32))])) rfl (by rw [hml]; rfl) (Steps.refl _) (argsL := [(.ref t4)]) (rest := [(.int (1 : Int32))]) (lenOf pd_6 rfl) rfl (by show 2 * 0 + _ ≤ _; exact Nat.le_of_eq rfl) (hb hby at_210) (fun _ _ => ⟨rfl, e140q, (by decide : 4 + 0 ≤ _), (by decide : 3 + 0 ≤ _)⟩)
        dsimp only [Pt.U, Pt.locs, Pt.cells, Pt.slots] at X143 l143 y143 z143 st143 hQ143
        subst l143 y143 z143
        obtain ⟨⟨x143, rfl, G143a, G143b⟩, N143q, K143q⟩ := hQ143
        have N143 := Fr.app N140 N143q
        have O_257 := O_250.keep K143q all0
        have f258 := f251.keep K143q
        have f259 := f252.keep K143q
        have f260 := f253.keep K143q nin0
        have f261 := f254.keep K143q
        have f262 := f255.keep K143q nin0
        have f263 := G139a.keep K143q
        have f264 := G139b.keep K143q nin0
        have Zs265 := Nat.le_trans Zs256 K143q.1
        refine Go.on (B := T143.setTop (mkF m 213 #[.val (.int p1), .val (.int p2), .val (.int p3), .val (.int p4), .val (.ref b1), .val (.ref t3), .val (.ref t4), .val (.int v26_5), .val .null, .val (.ref x131), .val (.int (1 : Int32))] [(.ref x143), (.int (1 : Int32))])) (fun t k => st143.trans k) ?_
        obtain ⟨cq144, kq144, q144a, q144b, q144c⟩ := isOf hZ rfl G143a
        obtain ⟨_, _, ⟨T144, L144, k144, n144⟩, -, X144, ⟨Lc144, hQ144, l144, y144, z144⟩, st144⟩ := X143.virtualBack hx (y := (⟨"java/lang/Long", "longValue", "()J"⟩ : MethodName)) (z := (⟨"java/lang/Long", "longValue", "()J"⟩ : MethodName)) hown (mvT hZ (hw _ (List.mem_of_getElem? (i := 48) rfl))) (mvT hZ (hw _ (List.mem_of_getElem? (i := 49) rfl))) (notFace_of_selects (args := #[]) (mvT hZ (hw _ (List.mem_of_getElem? (i := 51) rfl)))) (mvT hZ (hw _ (List.mem_of_getElem? (i := 51) rfl))) (mvT hZ (hw _ (List.mem_of_getElem? (i := 50) rfl))) (by decide) (backOf (W := 1) (rval l Z a0 hw [] x143 (1 : Int64) T143.heap n0 Zs265 G143b) hZ (hw _ (List.mem_of_getElem? (i := 52) rfl)) (hw _ (List.mem_of_getElem? (i := 42) rfl)) (by decide) (by decide)) q144a q144c (g := (mkF m 213 #[.val (.int p1), .val (.int p2), .val (.int p3), .val (.int p4), .val (.ref b1), .val (.ref t3), .val (.ref t4), .val (.int v26_5), .val .null, .val (.ref x131), .val (.int (1 : Int32))] [(.ref x143), (.int (1 : Int32))])) rfl (by rw [hml]; rfl) (Steps.refl _) (argsL := []) (rest := [(.int (1 : Int32))]) (lenOf pd_7 rfl) rfl (by show 2 * 0 + _ ≤ _; exact Nat.le_of_eq rfl) (hb hby at_213) (fun _ _ => ⟨rfl, rfl, (by decide : 4 + 0 ≤ _), (by decide : 3 + 0 ≤ _)⟩)
        dsimp only [Pt.U, Pt.locs, Pt.cells, Pt.slots] at X144 l144 y144 z144 st144 hQ144
        subst l144 y144 z144
        obtain ⟨rfl, N144q, e144q⟩ := hQ144
        have N144 := Fr.app N143 N144q
        refine Go.on (B := T144.setTop (mkF m 216 #[.val (.int p1), .val (.int p2), .val (.int p3), .val (.int p4), .val (.ref b1), .val (.ref t3), .val (.ref t4), .val (.int v26_5), .val .null, .val (.ref x131), .val (.int (1 : Int32))] [(.long (1 : Int64)), (.int (1 : Int32))])) (fun t k => st144.trans k) ?_
        refine Go.on (B := T144.setTop (mkF m 217 #[.val (.int p1), .val (.int p2), .val (.int p3), .val (.int p4), .val (.ref b1), .val (.ref t3), .val (.ref t4), .val (.int v26_5), .val .null, .val (.ref x131), .val (.int (1 : Int32))] [(.long (1 : Int64)), (.long (1 : Int64)), (.int (1 : Int32))])) (fun t k => XS.lconst X144.here hx rfl (hb hby at_216) k) ?_
        refine Go.on (B := T144.setTop (mkF m 218 #[.val (.int p1), .val (.int p2), .val (.int p3), .val (.int p4), .val (.ref b1), .val (.ref t3), .val (.ref t4), .val (.int v26_5), .val .null, .val (.ref x131), .val (.int (1 : Int32))] [(.int (lcmpW (1 : Int64) (1 : Int64))), (.int (1 : Int32))])) (fun t k => XS.lcmp X144.here hx rfl (hb hby at_217) rfl k) ?_
        have hc218_145 : (1 : Int64) = (1 : Int64) := by decide
        refine Go.on (B := T144.setTop (mkF m 221 #[.val (.int p1), .val (.int p2), .val (.int p3), .val (.int p4), .val (.ref b1), .val (.ref t3), .val (.ref t4), .val (.int v26_5), .val .null, .val (.ref x131), .val (.int (1 : Int32))] [(.int (1 : Int32))])) (fun t k => XS.ifNo X144.here hx rfl (hb hby at_218) rfl ((if0 _ _).trans (teq ((lw_eq _ _).mpr hc218_145)).2) k) ?_
        refine Go.on (B := T144.setTop (mkF m 222 #[.val (.int p1), .val (.int p2), .val (.int p3), .val (.int p4), .val (.ref b1), .val (.ref t3), .val (.ref t4), .val (.int v26_5), .val .null, .val (.ref x131), .val (.int (1 : Int32))] [(.int (1 : Int32)), (.int (1 : Int32))])) (fun t k => XS.iconst X144.here hx rfl (hb hby at_221) k) ?_
        refine Go.on (B := T144.setTop (mkF m 226 #[.val (.int p1), .val (.int p2), .val (.int p3), .val (.int p4), .val (.ref b1), .val (.ref t3), .val (.ref t4), .val (.int v26_5), .val .null, .val (.ref x131), .val (.int (1 : Int32))] [(.int (1 : Int32)), (.int (1 : Int32))])) (fun t k => XS.goto X144.here hx rfl (pc0 := 222) (pc' := 226) rfl (hb hby at_222) (by decide) (by decide) k) ?_
        refine Go.on (B := T144.setTop (mkF m 227 #[.val (.int p1), .val (.int p2), .val (.int p3), .val (.int p4), .val (.ref b1), .val (.ref t3), .val (.ref t4), .val (.int v26_5), .val .null, .val (.ref x131), .val (.int (1 : Int32))] [(.int ((1 : Int32) &&& (1 : Int32)))])) (fun t k => XS.iand X144.here hx rfl (hb hby at_226) rfl k) ?_
        rw [show ((1 : Int32) &&& (1 : Int32)) = (1 : Int32) from by decide]
        refine Go.on (B := T144.setTop (mkF m 229 #[.val (.int p1), .val (.int p2), .val (.int p3), .val (.int p4), .val (.ref b1), .val (.ref t3), .val (.ref t4), .val (.int v26_5), .val .null, .val (.ref x131), .val (.int (1 : Int32))] [])) (fun t k => XS.istore X144.here hx rfl (hb hby at_227) rfl (l' := #[.val (.int p1), .val (.int p2), .val (.int p3), .val (.int p4), .val (.ref b1), .val (.ref t3), .val (.ref t4), .val (.int v26_5), .val .null, .val (.ref x131), .val (.int (1 : Int32))]) rfl k) ?_
        refine Go.on (B := T144.setTop (mkF m 231 #[.val (.int p1), .val (.int p2), .val (.int p3), .val (.int p4), .val (.ref b1), .val (.ref t3), .val (.ref t4), .val (.int v26_5), .val .null, .val (.ref x131), .val (.int (1 : Int32))] [(.int (1 : Int32))])) (fun t k => XS.iload X144.here hx rfl (hb hby at_229) rfl k) ?_
        obtain ⟨fs, hr, hrun, hended, hW, hsame⟩ := X144.leave (v := some (.int (1 : Int32))) (fun h => by rw [Bd.returns] at h; cases h)
        refine ⟨_, _, ?_, hrun, hended, _, _, rfl, ?_, ⟨_, rfl⟩, hW, hsame.mono (by decide) (by decide)⟩
        · exact retN X144 hx (t := .boolean) Bd.returns (by simp) (hb hby at_231) hr
        · show Q_rm0 Z p1 p2 p3 p4 ca cc ica icc h0 n0 _ T144.heap _
          rw [e144q]
          exact ⟨rfl, N144⟩
      · refine Go.on (B := T131.setTop (mkF m 69 #[.val (.int p1), .val (.int p2), .val (.int p3), .val (.int p4), .val (.ref b1), .val (.ref t3), .val (.ref t4), .val (.int v26_5), .val .null, .val (.ref x131), .val (.int (1 : Int32))] [])) (fun t k => XS.icmpNo X131.here hx rfl (hb hby at_66) rfl (flt hc66_133).1 k) ?_
        refine Go.on (B := T131.setTop (mkF m 71 #[.val (.int p1), .val (.int p2), .val (.int p3), .val (.int p4), .val (.ref b1), .val (.ref t3), .val (.ref t4), .val (.int v26_5), .val .null, .val (.ref x131), .val (.int (1 : Int32))] [(.int (1 : Int32))])) (fun t k => XS.iload X131.here hx rfl (hb hby at_69) rfl k) ?_
        refine Go.on (B := T131.setTop (mkF m 73 #[.val (.int p1), .val (.int p2), .val (.int p3), .val (.int p4), .val (.ref b1), .val (.ref t3), .val (.ref t4), .val (.int v26_5), .val .null, .val (.ref x131), .val (.int (1 : Int32))] [(.ref b1), (.int (1 : Int32))])) (fun t k => XS.aload X131.here hx rfl (hb hby at_71) rfl rfl k) ?_
        refine Go.on (B := T131.setTop (mkF m 75 #[.val (.int p1), .val (.int p2), .val (.int p3), .val (.int p4), .val (.ref b1), .val (.ref t3), .val (.ref t4), .val (.int v26_5), .val .null, .val (.ref x131), .val (.int (1 : Int32))] [.null, (.ref b1), (.int (1 : Int32))])) (fun t k => XS.aload X131.here hx rfl (hb hby at_73) rfl rfl k) ?_
        refine Go.on (B := T131.setTop (mkF m 77 #[.val (.int p1), .val (.int p2), .val (.int p3), .val (.int p4), .val (.ref b1), .val (.ref t3), .val (.ref t4), .val (.int v26_5), .val .null, .val (.ref x131), .val (.int (1 : Int32))] [(.ref t3), .null, (.ref b1), (.int (1 : Int32))])) (fun t k => XS.aload X131.here hx rfl (hb hby at_75) rfl rfl k) ?_
        obtain ⟨cq147, kq147, q147a, q147b, q147c⟩ := isOf hZ rfl f238
        obtain ⟨_, _, ⟨T147, L147, k147, n147⟩, -, X147, ⟨Lc147, hQ147, l147, y147, z147⟩, st147⟩ := X131.virtualBack hx (y := (⟨"com/example/tailrace/tailrace/cli/Count", "add", "(Ljava/lang/Object;Lcom/example/tailrace/tailrace/cli/Count$Tally;)Lcom/example/tailrace/tailrace/cli/Count$Tally;"⟩ : MethodName)) (z := (⟨"com/example/tailrace/tailrace/cli/Count", "add", "(Ljava/lang/Object;Lcom/example/tailrace/tailrace/cli/Count$Tally;)Lcom/example/tailrace/tailrace/cli/Count$Tally;"⟩ : MethodName)) hown (mvT hZ (hw _ (List.mem_of_getElem? (i := 28) rfl))) (mvT hZ (hw _ (List.mem_of_getElem? (i := 29) rfl))) (notFace_of_selects (args := #[]) (mvT hZ (hw _ (List.mem_of_getElem? (i := 31) rfl)))) (mvT hZ (hw _ (List.mem_of_getElem? (i := 31) rfl))) (mvT hZ (hw _ (List.mem_of_getElem? (i := 30) rfl))) (by decide) (backOf (W := 1) (radd0 l Z a0 hw [] b1 t3 (0 : Int64) T131.heap n0 Zs243 f239 f240 ge_t3) hZ (hw _ (List.mem_of_getElem? (i := 32) rfl)) (hw _ (List.mem_of_getElem? (i := 2) rfl)) (by decide) (by decide)) q147a q147c (g := (mkF m 77 #[.val (.int p1), .val (.int p2), .val (.int p3), .val (.int p4), .val (.ref b1), .val (.ref t3), .val (.ref t4), .val (.int v26_5), .val .null, .val (.ref x131), .val (.int (1 : Int32))] [(.ref t3), .null, (.ref b1), (.int (1 : Int32))])) rfl (by rw [hml]; rfl) (Steps.refl _) (argsL := [.null, (.ref t3)]) (rest := [(.int (1 : Int32))]) (lenOf pd_5 rfl) rfl (by show 2 * 0 + _ ≤ _; exact Nat.le_of_eq rfl) (hb hby at_77) (fun _ _ => ⟨rfl, rfl, (by decide : 4 + 0 ≤ _), (by decide : 3 + 0 ≤ _)⟩)
        dsimp only [Pt.U, Pt.locs, Pt.cells, Pt.slots] at X147 l147 y147 z147 st147 hQ147
        subst l147 y147 z147
        obtain ⟨rfl, N147q, K147q, G147a, G147b⟩ := hQ147
        have N147 := Fr.app N131 N147q
        have O_266 := O_237.keep K147q (allS ge_t3 all0)
        have f267 := f238.keep K147q
        have f268 := f239.keep K147q
        have f269 := f241.keep K147q
        have f270 := f242.keep K147q (ninS (Ne.symm ne_t3_t4) nin0)
        have Zs271 := Nat.le_trans Zs243 K147q.1
        rw [show ((0 : Int64) + (1 : Int64)) = (1 : Int64) from by decide] at G147b
        refine Go.on (B := T147.setTop (mkF m 80 #[.val (.int p1), .val (.int p2), .val (.int p3), .val (.int p4), .val (.ref b1), .val (.ref t3), .val (.ref t4), .val (.int v26_5), .val .null, .val (.ref x131), .val (.int (1 : Int32))] [(.ref t3), (.int (1 : Int32))])) (fun t k => st147.trans k) ?_
        refine Go.on (B := T147.setTop (mkF m 82 #[.val (.int p1), .val (.int p2), .val (.int p3), .val (.int p4), .val (.ref b1), .val (.ref t3), .val (.ref t4), .val (.int v26_5), .val .null, .val (.ref x131), .val (.int (1 : Int32))] [(.ref t3), (.ref t3), (.int (1 : Int32))])) (fun t k => XS.aload X147.here hx rfl (hb hby at_80) rfl rfl k) ?_
        refine Go.on (B := T147.setTop (mkF m 85 #[.val (.int p1), .val (.int p2), .val (.int p3), .val (.int p4), .val (.ref b1), .val (.ref t3), .val (.ref t4), .val (.int v26_5), .val .null, .val (.ref x131), .val (.int (1 : Int32))] [(.int (1 : Int32))])) (fun t k => Jvm.RoadKit.acmp (g := (mkF m 82 #[.val (.int p1), .val (.int p2), .val (.int p3), .val (.int p4), .val (.ref b1), .val (.ref t3), .val (.ref t4), .val (.int v26_5), .val .null, .val (.ref x131), .val (.int (1 : Int32))] [(.ref t3), (.ref t3), (.int (1 : Int32))])) X147 hx rfl rfl rfl (pc0 := 82) (pc' := 85) (same := true) rfl (hb hby at_82) rfl (decide_eq_true rfl) (by decide) (by decide) k) ?_
        refine Go.on (B := T147.setTop (mkF m 86 #[.val (.int p1), .val (.int p2), .val (.int p3), .val (.int p4), .val (.ref b1), .val (.ref t3), .val (.ref t4), .val (.int v26_5), .val .null, .val (.ref x131), .val (.int (1 : Int32))] [(.int (1 : Int32)), (.int (1 : Int32))])) (fun t k => XS.iconst X147.here hx rfl (hb hby at_85) k) ?_
        refine Go.on (B := T147.setTop (mkF m 90 #[.val (.int p1), .val (.int p2), .val (.int p3), .val (.int p4), .val (.ref b1), .val (.ref t3), .val (.ref t4), .val (.int v26_5), .val .null, .val (.ref x131), .val (.int (1 : Int32))] [(.int (1 : Int32)), (.int (1 : Int32))])) (fun t k => XS.goto X147.here hx rfl (pc0 := 86) (pc' := 90) rfl (hb hby at_86) (by decide) (by decide) k) ?_
        refine Go.on (B := T147.setTop (mkF m 91 #[.val (.int p1), .val (.int p2), .val (.int p3), .val (.int p4), .val (.ref b1), .val (.ref t3), .val (.ref t4), .val (.int v26_5), .val .null, .val (.ref x131), .val (.int (1 : Int32))] [(.int ((1 : Int32) &&& (1 : Int32)))])) (fun t k => XS.iand X147.here hx rfl (hb hby at_90) rfl k) ?_
        rw [show ((1 : Int32) &&& (1 : Int32)) = (1 : Int32) from by decide]
        refine Go.on (B := T147.setTop (mkF m 93 #[.val (.int p1), .val (.int p2), .val (.int p3), .val (.int p4), .val (.ref b1), .val (.ref t3), .val (.ref t4), .val (.int v26_5), .val .null, .val (.ref x131), .val (.int (1 : Int32))] [])) (fun t k => XS.istore X147.here hx rfl (hb hby at_91) rfl (l' := #[.val (.int p1), .val (.int p2), .val (.int p3), .val (.int p4), .val (.ref b1), .val (.ref t3), .val (.ref t4), .val (.int v26_5), .val .null, .val (.ref x131), .val (.int (1 : Int32))]) rfl k) ?_
        refine Go.on (B := T147.setTop (mkF m 95 #[.val (.int p1), .val (.int p2), .val (.int p3), .val (.int p4), .val (.ref b1), .val (.ref t3), .val (.ref t4), .val (.int v26_5), .val .null, .val (.ref x131), .val (.int (1 : Int32))] [(.int v26_5)])) (fun t k => XS.iload X147.here hx rfl (hb hby at_93) rfl k) ?_
        refine Go.on (B := T147.setTop (mkF m 96 #[.val (.int p1), .val (.int p2), .val (.int p3), .val (.int p4), .val (.ref b1), .val (.ref t3), .val (.ref t4), .val (.int v26_5), .val .null, .val (.ref x131), .val (.int (1 : Int32))] [(.int (2 : Int32)), (.int v26_5)])) (fun t k => XS.iconst X147.here hx rfl (hb hby at_95) k) ?_
        by_cases hc96_150 : v26_5 < (2 : Int32)
        · refine Go.on (B := T147.setTop (mkF m 123 #[.val (.int p1), .val (.int p2), .val (.int p3), .val (.int p4), .val (.ref b1), .val (.ref t3), .val (.ref t4), .val (.int v26_5), .val .null, .val (.ref x131), .val (.int (1 : Int32))] [])) (fun t k => XS.icmpYes X147.here hx rfl (pc0 := 96) (pc' := 123) rfl (hb hby at_96) rfl (tlt hc96_150).1 (by decide) (by decide) k) ?_
          refine Go.on (B := T147.setTop (mkF m 125 #[.val (.int p1), .val (.int p2), .val (.int p3), .val (.int p4), .val (.ref b1), .val (.ref t3), .val (.ref t4), .val (.int v26_5), .val .null, .val (.ref x131), .val (.int (1 : Int32))] [(.int v26_5)])) (fun t k => XS.iload X147.here hx rfl (hb hby at_123) rfl k) ?_
          refine Go.on (B := T147.setTop (mkF m 126 #[.val (.int p1), .val (.int p2), .val (.int p3), .val (.int p4), .val (.ref b1), .val (.ref t3), .val (.ref t4), .val (.int v26_5), .val .null, .val (.ref x131), .val (.int (1 : Int32))] [(.int (3 : Int32)), (.int v26_5)])) (fun t k => XS.iconst X147.here hx rfl (hb hby at_125) k) ?_
          have hc126_151 : v26_5 < (3 : Int32) := own_up2 hc96_150 (by decide)
          refine Go.on (B := T147.setTop (mkF m 153 #[.val (.int p1), .val (.int p2), .val (.int p3), .val (.int p4), .val (.ref b1), .val (.ref t3), .val (.ref t4), .val (.int v26_5), .val .null, .val (.ref x131), .val (.int (1 : Int32))] [])) (fun t k => XS.icmpYes X147.here hx rfl (pc0 := 126) (pc' := 153) rfl (hb hby at_126) rfl (tlt hc126_151).1 (by decide) (by decide) k) ?_
          refine Go.on (B := T147.setTop (mkF m 155 #[.val (.int p1), .val (.int p2), .val (.int p3), .val (.int p4), .val (.ref b1), .val (.ref t3), .val (.ref t4), .val (.int v26_5), .val .null, .val (.ref x131), .val (.int (1 : Int32))] [(.int (1 : Int32))])) (fun t k => XS.iload X147.here hx rfl (hb hby at_153) rfl k) ?_
          refine Go.on (B := T147.setTop (mkF m 157 #[.val (.int p1), .val (.int p2), .val (.int p3), .val (.int p4), .val (.ref b1), .val (.ref t3), .val (.ref t4), .val (.int v26_5), .val .null, .val (.ref x131), .val (.int (1 : Int32))] [(.ref b1), (.int (1 : Int32))])) (fun t k => XS.aload X147.here hx rfl (hb hby at_155) rfl rfl k) ?_
          refine Go.on (B := T147.setTop (mkF m 159 #[.val (.int p1), .val (.int p2), .val (.int p3), .val (.int p4), .val (.ref b1), .val (.ref t3), .val (.ref t4), .val (.int v26_5), .val .null, .val (.ref x131), .val (.int (1 : Int32))] [(.ref x131), (.ref b1), (.int (1 : Int32))])) (fun t k => XS.aload X147.here hx rfl (hb hby at_157) rfl rfl k) ?_
          refine Go.on (B := T147.setTop (mkF m 161 #[.val (.int p1), .val (.int p2), .val (.int p3), .val (.int p4), .val (.ref b1), .val (.ref t3), .val (.ref t4), .val (.int v26_5), .val .null, .val (.ref x131), .val (.int (1 : Int32))] [(.ref t4), (.ref x131), (.ref b1), (.int (1 : Int32))])) (fun t k => XS.aload X147.here hx rfl (hb hby at_159) rfl rfl k) ?_
          obtain ⟨cq152, kq152, q152a, q152b, q152c⟩ := isOf hZ rfl f267
          obtain ⟨_, _, ⟨T152, L152, k152, n152⟩, -, X152, ⟨Lc152, hQ152, l152, y152, z152⟩, st152⟩ := X147.virtualBack hx (y := (⟨"com/example/tailrace/tailrace/cli/Count", "add", "(Ljava/lang/Object;Lcom/example/tailrace/tailrace/cli/Count$Tally;)Lcom/example/tailrace/tailrace/cli/Count$Tally;"⟩ : MethodName)) (z := (⟨"com/example/tailrace/tailrace/cli/Count", "add", "(Ljava/lang/Object;Lcom/example/tailrace/tailrace/cli/Count$Tally;)Lcom/example/tailrace/tailrace/cli/Count$Tally;"⟩ : MethodName)) hown (mvT hZ (hw _ (List.mem_of_getElem? (i := 28) rfl))) (mvT hZ (hw _ (List.mem_of_getElem? (i := 29) rfl))) (notFace_of_selects (args := #[]) (mvT hZ (hw _ (List.mem_of_getElem? (i := 31) rfl)))) (mvT hZ (hw _ (List.mem_of_getElem? (i := 31) rfl))) (mvT hZ (hw _ (List.mem_of_getElem? (i := 30) rfl))) (by decide) (backOf (W := 1) (radd1 l Z a0 hw [] b1 x131 t4 (0 : Int64) T147.heap n0 Zs271 f269 f270 ge_t4) hZ (hw _ (List.mem_of_getElem? (i := 32) rfl)) (hw _ (List.mem_of_getElem? (i := 2) rfl)) (by decide) (by decide)) q152a q152c (g := (mkF m 161 #[.val (.int p1), .val (.int p2), .val (.int p3), .val (.int p4), .val (.ref b1), .val (.ref t3), .val (.ref t4), .val (.int v26_5), .val .null, .val (.ref x131), .val (.int (1 : Int32))] [(.ref t4), (.ref x131), (.ref b1), (.int (1 : Int32))])) rfl (by rw [hml]; rfl) (Steps.refl _) (argsL := [(.ref x131), (.ref t4)]) (rest := [(.int (1 : Int32))]) (lenOf pd_5 rfl) rfl (by show 2 * 0 + _ ≤ _; exact Nat.le_of_eq rfl) (hb hby at_161) (fun _ _ => ⟨rfl, rfl, (by decide : 4 + 0 ≤ _), (by decide : 3 + 0 ≤ _)⟩)
          dsimp only [Pt.U, Pt.locs, Pt.cells, Pt.slots] at X152 l152 y152 z152 st152 hQ152
          subst l152 y152 z152
          obtain ⟨rfl, N152q, K152q, G152a, G152b⟩ := hQ152
          have N152 := Fr.app N147 N152q
          have O_272 := O_266.keep K152q (allS ge_t4 all0)
          have f273 := f267.keep K152q
          have f274 := G147a.keep K152q
          have f275 := f269.keep K152q
          have f276 := G147b.keep K152q (ninS ne_t3_t4 nin0)
          have Zs277 := Nat.le_trans Zs271 K152q.1
          rw [show ((0 : Int64) + (1 : Int64)) = (1 : Int64) from by decide] at G152b
          refine Go.on (B := T152.setTop (mkF m 164 #[.val (.int p1), .val (.int p2), .val (.int p3), .val (.int p4), .val (.ref b1), .val (.ref t3), .val (.ref t4), .val (.int v26_5), .val .null, .val (.ref x131), .val (.int (1 : Int32))] [(.ref t4), (.int (1 : Int32))])) (fun t k => st152.trans k) ?_
          refine Go.on (B := T152.setTop (mkF m 166 #[.val (.int p1), .val (.int p2), .val (.int p3), .val (.int p4), .val (.ref b1), .val (.ref t3), .val (.ref t4), .val (.int v26_5), .val .null, .val (.ref x131), .val (.int (1 : Int32))] [(.ref t4), (.ref t4), (.int (1 : Int32))])) (fun t k => XS.aload X152.here hx rfl (hb hby at_164) rfl rfl k) ?_
          refine Go.on (B := T152.setTop (mkF m 169 #[.val (.int p1), .val (.int p2), .val (.int p3), .val (.int p4), .val (.ref b1), .val (.ref t3), .val (.ref t4), .val (.int v26_5), .val .null, .val (.ref x131), .val (.int (1 : Int32))] [(.int (1 : Int32))])) (fun t k => Jvm.RoadKit.acmp (g := (mkF m 166 #[.val (.int p1), .val (.int p2), .val (.int p3), .val (.int p4), .val (.ref b1), .val (.ref t3), .val (.ref t4), .val (.int v26_5), .val .null, .val (.ref x131), .val (.int (1 : Int32))] [(.ref t4), (.ref t4), (.int (1 : Int32))])) X152 hx rfl rfl rfl (pc0 := 166) (pc' := 169) (same := true) rfl (hb hby at_166) rfl (decide_eq_true rfl) (by decide) (by decide) k) ?_
          refine Go.on (B := T152.setTop (mkF m 170 #[.val (.int p1), .val (.int p2), .val (.int p3), .val (.int p4), .val (.ref b1), .val (.ref t3), .val (.ref t4), .val (.int v26_5), .val .null, .val (.ref x131), .val (.int (1 : Int32))] [(.int (1 : Int32)), (.int (1 : Int32))])) (fun t k => XS.iconst X152.here hx rfl (hb hby at_169) k) ?_
          refine Go.on (B := T152.setTop (mkF m 174 #[.val (.int p1), .val (.int p2), .val (.int p3), .val (.int p4), .val (.ref b1), .val (.ref t3), .val (.ref t4), .val (.int v26_5), .val .null, .val (.ref x131), .val (.int (1 : Int32))] [(.int (1 : Int32)), (.int (1 : Int32))])) (fun t k => XS.goto X152.here hx rfl (pc0 := 170) (pc' := 174) rfl (hb hby at_170) (by decide) (by decide) k) ?_
          refine Go.on (B := T152.setTop (mkF m 175 #[.val (.int p1), .val (.int p2), .val (.int p3), .val (.int p4), .val (.ref b1), .val (.ref t3), .val (.ref t4), .val (.int v26_5), .val .null, .val (.ref x131), .val (.int (1 : Int32))] [(.int ((1 : Int32) &&& (1 : Int32)))])) (fun t k => XS.iand X152.here hx rfl (hb hby at_174) rfl k) ?_
          rw [show ((1 : Int32) &&& (1 : Int32)) = (1 : Int32) from by decide]
          refine Go.on (B := T152.setTop (mkF m 177 #[.val (.int p1), .val (.int p2), .val (.int p3), .val (.int p4), .val (.ref b1), .val (.ref t3), .val (.ref t4), .val (.int v26_5), .val .null, .val (.ref x131), .val (.int (1 : Int32))] [])) (fun t k => XS.istore X152.here hx rfl (hb hby at_175) rfl (l' := #[.val (.int p1), .val (.int p2), .val (.int p3), .val (.int p4), .val (.ref b1), .val (.ref t3), .val (.ref t4), .val (.int v26_5), .val .null, .val (.ref x131), .val (.int (1 : Int32))]) rfl k) ?_
          refine Go.on (B := T152.setTop (mkF m 179 #[.val (.int p1), .val (.int p2), .val (.int p3), .val (.int p4), .val (.ref b1), .val (.ref t3), .val (.ref t4), .val (.int v26_5), .val .null, .val (.ref x131), .val (.int (1 : Int32))] [(.int (1 : Int32))])) (fun t k => XS.iload X152.here hx rfl (hb hby at_177) rfl k) ?_
          refine Go.on (B := T152.setTop (mkF m 181 #[.val (.int p1), .val (.int p2), .val (.int p3), .val (.int p4), .val (.ref b1), .val (.ref t3), .val (.ref t4), .val (.int v26_5), .val .null, .val (.ref x131), .val (.int (1 : Int32))] [(.ref b1), (.int (1 : Int32))])) (fun t k => XS.aload X152.here hx rfl (hb hby at_179) rfl rfl k) ?_
          refine Go.on (B := T152.setTop (mkF m 183 #[.val (.int p1), .val (.int p2), .val (.int p3), .val (.int p4), .val (.ref b1), .val (.ref t3), .val (.ref t4), .val (.int v26_5), .val .null, .val (.ref x131), .val (.int (1 : Int32))] [(.ref t3), (.ref b1), (.int (1 : Int32))])) (fun t k => XS.aload X152.here hx rfl (hb hby at_181) rfl rfl k) ?_
          obtain ⟨cq155, kq155, q155a, q155b, q155c⟩ := isOf hZ rfl f273
          obtain ⟨_, _, ⟨T155, L155, k155, n155⟩, -, X155, ⟨Lc155, hQ155, l155, y155, z155⟩, st155⟩ := X152.virtualBack hx (y := (⟨"com/example/tailrace/tailrace/cli/Count", "getResult", "(Lcom/example/tailrace/tailrace/cli/Count$Tally;)Ljava/lang/Long;"⟩ : MethodName)) (z := (⟨"com/example/tailrace/tailrace/cli/Count", "getResult", "(Lcom/example/tailrace/tailrace/cli/Count$Tally;)Ljava/lang/Long;"⟩ : MethodName)) hown (mvT hZ (hw _ (List.mem_of_getElem? (i := 35) rfl))) (mvT hZ (hw _ (List.mem_of_getElem? (i := 36) rfl))) (notFace_of_selects (args := #[]) (mvT hZ (hw _ (List.mem_of_getElem? (i := 38) rfl)))) (mvT hZ (hw _ (List.mem_of_getElem? (i := 38) rfl))) (mvT hZ (hw _ (List.mem_of_getElem? (i := 37) rfl))) (by decide) (backOf (W := 1) (rgr l Z a0 hw [] b1 t3 (1 : Int64) ca cc T152.heap n0 Zs277 f276 O_272 S_cache B_cache (by decide) (by decide)) hZ (hw _ (List.mem_of_getElem? (i := 39) rfl)) (hw _ (List.mem_of_getElem? (i := 2) rfl)) (by decide) (by decide)) q155a q155c (g := (mkF m 183 #[.val (.int p1), .val (.int p2), .val (.int p3), .val (.int p4), .val (.ref b1), .val (.ref t3), .val (.ref t4), .val (.int v26_5), .val .null, .val (.ref x131), .val (.int (1 : Int32))] [(.ref t3), (.ref b1), (.int (1 : Int32))])) rfl (by rw [hml]; rfl) (Steps.refl _) (argsL := [(.ref t3)]) (rest := [(.int (1 : Int32))]) (lenOf pd_6 rfl) rfl (by show 2 * 0 + _ ≤ _; exact Nat.le_of_eq rfl) (hb hby at_183) (fun _ _ => ⟨rfl, rfl, (by decide : 4 + 0 ≤ _), (by decide : 3 + 0 ≤ _)⟩)
          dsimp only [Pt.U, Pt.locs, Pt.cells, Pt.slots] at X155 l155 y155 z155 st155 hQ155
          subst l155 y155 z155
          obtain ⟨⟨x155, rfl, G155a, G155b⟩, N155q, K155q⟩ := hQ155
          have N155 := Fr.app N152 N155q
          have O_278 := O_272.keep K155q all0
          have f279 := f273.keep K155q
          have f280 := f274.keep K155q
          have f281 := G152a.keep K155q
          have f282 := f276.keep K155q nin0
          have f283 := G152b.keep K155q nin0
          have Zs284 := Nat.le_trans Zs277 K155q.1
          refine Go.on (B := T155.setTop (mkF m 186 #[.val (.int p1), .val (.int p2), .val (.int p3), .val (.int p4), .val (.ref b1), .val (.ref t3), .val (.ref t4), .val (.int v26_5), .val .null, .val (.ref x131), .val (.int (1 : Int32))] [(.ref x155), (.int (1 : Int32))])) (fun t k => st155.trans k) ?_
          obtain ⟨cq156, kq156, q156a, q156b, q156c⟩ := isOf hZ rfl G155a
          obtain ⟨_, _, ⟨T156, L156, k156, n156⟩, -, X156, ⟨Lc156, hQ156, l156, y156, z156⟩, st156⟩ := X155.virtualBack hx (y := (⟨"java/lang/Long", "longValue", "()J"⟩ : MethodName)) (z := (⟨"java/lang/Long", "longValue", "()J"⟩ : MethodName)) hown (mvT hZ (hw _ (List.mem_of_getElem? (i := 48) rfl))) (mvT hZ (hw _ (List.mem_of_getElem? (i := 49) rfl))) (notFace_of_selects (args := #[]) (mvT hZ (hw _ (List.mem_of_getElem? (i := 51) rfl)))) (mvT hZ (hw _ (List.mem_of_getElem? (i := 51) rfl))) (mvT hZ (hw _ (List.mem_of_getElem? (i := 50) rfl))) (by decide) (backOf (W := 1) (rval l Z a0 hw [] x155 (1 : Int64) T155.heap n0 Zs284 G155b) hZ (hw _ (List.mem_of_getElem? (i := 52) rfl)) (hw _ (List.mem_of_getElem? (i := 42) rfl)) (by decide) (by decide)) q156a q156c (g := (mkF m 186 #[.val (.int p1), .val (.int p2), .val (.int p3), .val (.int p4), .val (.ref b1), .val (.ref t3), .val (.ref t4), .val (.int v26_5), .val .null, .val (.ref x131), .val (.int (1 : Int32))] [(.ref x155), (.int (1 : Int32))])) rfl (by rw [hml]; rfl) (Steps.refl _) (argsL := []) (rest := [(.int (1 : Int32))]) (lenOf pd_7 rfl) rfl (by show 2 * 0 + _ ≤ _; exact Nat.le_of_eq rfl) (hb hby at_186) (fun _ _ => ⟨rfl, rfl, (by decide : 4 + 0 ≤ _), (by decide : 3 + 0 ≤ _)⟩)
          dsimp only [Pt.U, Pt.locs, Pt.cells, Pt.slots] at X156 l156 y156 z156 st156 hQ156
          subst l156 y156 z156
          obtain ⟨rfl, N156q, e156q⟩ := hQ156
          have N156 := Fr.app N155 N156q
          refine Go.on (B := T156.setTop (mkF m 189 #[.val (.int p1), .val (.int p2), .val (.int p3), .val (.int p4), .val (.ref b1), .val (.ref t3), .val (.ref t4), .val (.int v26_5), .val .null, .val (.ref x131), .val (.int (1 : Int32))] [(.long (1 : Int64)), (.int (1 : Int32))])) (fun t k => st156.trans k) ?_
          refine Go.on (B := T156.setTop (mkF m 191 #[.val (.int p1), .val (.int p2), .val (.int p3), .val (.int p4), .val (.ref b1), .val (.ref t3), .val (.ref t4), .val (.int v26_5), .val .null, .val (.ref x131), .val (.int (1 : Int32))] [(.int v26_5), (.long (1 : Int64)), (.int (1 : Int32))])) (fun t k => XS.iload X156.here hx rfl (hb hby at_189) rfl k) ?_
          refine Go.on (B := T156.setTop (mkF m 192 #[.val (.int p1), .val (.int p2), .val (.int p3), .val (.int p4), .val (.ref b1), .val (.ref t3), .val (.ref t4), .val (.int v26_5), .val .null, .val (.ref x131), .val (.int (1 : Int32))] [(.long (v26_5.toInt64)), (.long (1 : Int64)), (.int (1 : Int32))])) (fun t k => XS.i2l X156.here hx rfl (hb hby at_191) rfl k) ?_
          refine Go.on (B := T156.setTop (mkF m 193 #[.val (.int p1), .val (.int p2), .val (.int p3), .val (.int p4), .val (.ref b1), .val (.ref t3), .val (.ref t4), .val (.int v26_5), .val .null, .val (.ref x131), .val (.int (1 : Int32))] [(.int (lcmpW (1 : Int64) (v26_5.toInt64))), (.int (1 : Int32))])) (fun t k => XS.lcmp X156.here hx rfl (hb hby at_192) rfl k) ?_
          have hc193_157 : (1 : Int64) = (v26_5.toInt64) := by
            have q := own_n3 _ _ hv26_5
            have u0 := hc66_133
            rw [Int32.lt_iff_toInt_lt, show (1 : Int32).toInt = 1 from by decide] at u0
            have u1 := hc96_150
            rw [Int32.lt_iff_toInt_lt, show (2 : Int32).toInt = 2 from by decide] at u1
            have u2 := hc126_151
            rw [Int32.lt_iff_toInt_lt, show (3 : Int32).toInt = 3 from by decide] at u2
            exact own_is 1 (by omega) (by decide)
          refine Go.on (B := T156.setTop (mkF m 196 #[.val (.int p1), .val (.int p2), .val (.int p3), .val (.int p4), .val (.ref b1), .val (.ref t3), .val (.ref t4), .val (.int v26_5), .val .null, .val (.ref x131), .val (.int (1 : Int32))] [(.int (1 : Int32))])) (fun t k => XS.ifNo X156.here hx rfl (hb hby at_193) rfl ((if0 _ _).trans (teq ((lw_eq _ _).mpr hc193_157)).2) k) ?_
          refine Go.on (B := T156.setTop (mkF m 197 #[.val (.int p1), .val (.int p2), .val (.int p3), .val (.int p4), .val (.ref b1), .val (.ref t3), .val (.ref t4), .val (.int v26_5), .val .null, .val (.ref x131), .val (.int (1 : Int32))] [(.int (1 : Int32)), (.int (1 : Int32))])) (fun t k => XS.iconst X156.here hx rfl (hb hby at_196) k) ?_
          refine Go.on (B := T156.setTop (mkF m 201 #[.val (.int p1), .val (.int p2), .val (.int p3), .val (.int p4), .val (.ref b1), .val (.ref t3), .val (.ref t4), .val (.int v26_5), .val .null, .val (.ref x131), .val (.int (1 : Int32))] [(.int (1 : Int32)), (.int (1 : Int32))])) (fun t k => XS.goto X156.here hx rfl (pc0 := 197) (pc' := 201) rfl (hb hby at_197) (by decide) (by decide) k) ?_
          refine Go.on (B := T156.setTop (mkF m 202 #[.val (.int p1), .val (.int p2), .val (.int p3), .val (.int p4), .val (.ref b1), .val (.ref t3), .val (.ref t4), .val (.int v26_5), .val .null, .val (.ref x131), .val (.int (1 : Int32))] [(.int ((1 : Int32) &&& (1 : Int32)))])) (fun t k => XS.iand X156.here hx rfl (hb hby at_201) rfl k) ?_
          rw [show ((1 : Int32) &&& (1 : Int32)) = (1 : Int32) from by decide]
          refine Go.on (B := T156.setTop (mkF m 204 #[.val (.int p1), .val (.int p2), .val (.int p3), .val (.int p4), .val (.ref b1), .val (.ref t3), .val (.ref t4), .val (.int v26_5), .val .null, .val (.ref x131), .val (.int (1 : Int32))] [])) (fun t k => XS.istore X156.here hx rfl (hb hby at_202) rfl (l' := #[.val (.int p1), .val (.int p2), .val (.int p3), .val (.int p4), .val (.ref b1), .val (.ref t3), .val (.ref t4), .val (.int v26_5), .val .null, .val (.ref x131), .val (.int (1 : Int32))]) rfl k) ?_
          refine Go.on (B := T156.setTop (mkF m 206 #[.val (.int p1), .val (.int p2), .val (.int p3), .val (.int p4), .val (.ref b1), .val (.ref t3), .val (.ref t4), .val (.int v26_5), .val .null, .val (.ref x131), .val (.int (1 : Int32))] [(.int (1 : Int32))])) (fun t k => XS.iload X156.here hx rfl (hb hby at_204) rfl k) ?_
          refine Go.on (B := T156.setTop (mkF m 208 #[.val (.int p1), .val (.int p2), .val (.int p3), .val (.int p4), .val (.ref b1), .val (.ref t3), .val (.ref t4), .val (.int v26_5), .val .null, .val (.ref x131), .val (.int (1 : Int32))] [(.ref b1), (.int (1 : Int32))])) (fun t k => XS.aload X156.here hx rfl (hb hby at_206) rfl rfl k) ?_
          refine Go.on (B := T156.setTop (mkF m 210 #[.val (.int p1), .val (.int p2), .val (.int p3), .val (.int p4), .val (.ref b1), .val (.ref t3), .val (.ref t4), .val (.int v26_5), .val .null, .val (.ref x131), .val (.int (1 : Int32))] [(.ref t4), (.ref b1), (.int (1 : Int32))])) (fun t k => XS.aload X156.here hx rfl (hb hby at_208) rfl rfl k) ?_
          obtain ⟨cq159, kq159, q159a, q159b, q159c⟩ := isOf hZ e156q f279
          obtain ⟨_, _, ⟨T159, L159, k159, n159⟩, -, X159, ⟨Lc159, hQ159, l159, y159, z159⟩, st159⟩ := X156.virtualBack hx (y := (⟨"com/example/tailrace/tailrace/cli/Count", "getResult", "(Lcom/example/tailrace/tailrace/cli/Count$Tally;)Ljava/lang/Long;"⟩ : MethodName)) (z := (⟨"com/example/tailrace/tailrace/cli/Count", "getResult", "(Lcom/example/tailrace/tailrace/cli/Count$Tally;)Ljava/lang/Long;"⟩ : MethodName)) hown (mvT hZ (hw _ (List.mem_of_getElem? (i := 35) rfl))) (mvT hZ (hw _ (List.mem_of_getElem? (i := 36) rfl))) (notFace_of_selects (args := #[]) (mvT hZ (hw _ (List.mem_of_getElem? (i := 38) rfl)))) (mvT hZ (hw _ (List.mem_of_getElem? (i := 38) rfl))) (mvT hZ (hw _ (List.mem_of_getElem? (i := 37) rfl))) (by decide) (backOf (W := 1) (rgr l Z a0 hw [] b1 t4 (1 : Int64) ca cc T155.heap n0 Zs284 f283 O_278 S_cache B_cache (by decide) (by decide)) hZ (hw _ (List.mem_of_getElem? (i := 39) rfl)) (hw _ (List.mem_of_getElem? (i := 2) rfl)) (by decide) (by decide)) q159a q159c (g := (mkF m 210 #[.val (.int p1), .val (.int p2), .val (.int p3), .val (.int p4), .val (.ref b1), .val (.ref t3), .val (.ref t4), .val (.int v26_5), .val .null, .val (.ref x131), .val (.int (1 : Int32))] [(.ref t4), (.ref b1), (.int (1 : Int32))])) rfl (by rw [hml]; rfl) (Steps.refl _) (argsL := [(.ref t4)]) (rest := [(.int (1 : Int32))]) (lenOf pd_6 rfl) rfl (by show 2 * 0 + _ ≤ _; exact Nat.le_of_eq rfl) (hb hby at_210) (fun _ _ => ⟨rfl, e156q, (by decide : 4 + 0 ≤ _), (by decide : 3 + 0 ≤ _)⟩)
          dsimp only [Pt.U, Pt.locs, Pt.cells, Pt.slots] at X159 l159 y159 z159 st159 hQ159
          subst l159 y159 z159
          obtain ⟨⟨x159, rfl, G159a, G159b⟩, N159q, K159q⟩ := hQ159
          have N159 := Fr.app N156 N159q
          have O_285 := O_278.keep K159q all0
          have f286 := f279.keep K159q
          have f287 := f280.keep K159q
          have f288 := f281.keep K159q
          have f289 := f282.keep K159q nin0
          have f290 := f283.keep K159q nin0
          have f291 := G155a.keep K159q
          have f292 := G155b.keep K159q nin0
          have Zs293 := Nat.le_trans Zs284 K159q.1
          refine Go.on (B := T159.setTop (mkF m 213 #[.val (.int p1), .val (.int p2), .val (.int p3), .val (.int p4), .val (.ref b1), .val (.ref t3), .val (.ref t4), .val (.int v26_5), .val .null, .val (.ref x131), .val (.int (1 : Int32))] [(.ref x159), (.int (1 : Int32))])) (fun t k => st159.trans k) ?_
          obtain ⟨cq160, kq160, q160a, q160b, q160c⟩ := isOf hZ rfl G159a
          obtain ⟨_, _, ⟨T160, L160, k160, n160⟩, -, X160, ⟨Lc160, hQ160, l160, y160, z160⟩, st160⟩ := X159.virtualBack hx (y := (⟨"java/lang/Long", "longValue", "()J"⟩ : MethodName)) (z := (⟨"java/lang/Long", "longValue", "()J"⟩ : MethodName)) hown (mvT hZ (hw _ (List.mem_of_getElem? (i := 48) rfl))) (mvT hZ (hw _ (List.mem_of_getElem? (i := 49) rfl))) (notFace_of_selects (args := #[]) (mvT hZ (hw _ (List.mem_of_getElem? (i := 51) rfl)))) (mvT hZ (hw _ (List.mem_of_getElem? (i := 51) rfl))) (mvT hZ (hw _ (List.mem_of_getElem? (i := 50) rfl))) (by decide) (backOf (W := 1) (rval l Z a0 hw [] x159 (1 : Int64) T159.heap n0 Zs293 G159b) hZ (hw _ (List.mem_of_getElem? (i := 52) rfl)) (hw _ (List.mem_of_getElem? (i := 42) rfl)) (by decide) (by decide)) q160a q160c (g := (mkF m 213 #[.val (.int p1), .val (.int p2), .val (.int p3), .val (.int p4), .val (.ref b1), .val (.ref t3), .val (.ref t4), .val (.int v26_5), .val .null, .val (.ref x131), .val (.int (1 : Int32))] [(.ref x159), (.int (1 : Int32))])) rfl (by rw [hml]; rfl) (Steps.refl _) (argsL := []) (rest := [(.int (1 : Int32))]) (lenOf pd_7 rfl) rfl (by show 2 * 0 + _ ≤ _; exact Nat.le_of_eq rfl) (hb hby at_213) (fun _ _ => ⟨rfl, rfl, (by decide : 4 + 0 ≤ _), (by decide : 3 + 0 ≤ _)⟩)
          dsimp only [Pt.U, Pt.locs, Pt.cells, Pt.slots] at X160 l160 y160 z160 st160 hQ160
          subst l160 y160 z160
          obtain ⟨rfl, N160q, e160q⟩ := hQ160
          have N160 := Fr.app N159 N160q
          refine Go.on (B := T160.setTop (mkF m 216 #[.val (.int p1), .val (.int p2), .val (.int p3), .val (.int p4), .val (.ref b1), .val (.ref t3), .val (.ref t4), .val (.int v26_5), .val .null, .val (.ref x131), .val (.int (1 : Int32))] [(.long (1 : Int64)), (.int (1 : Int32))])) (fun t k => st160.trans k) ?_
          refine Go.on (B := T160.setTop (mkF m 217 #[.val (.int p1), .val (.int p2), .val (.int p3), .val (.int p4), .val (.ref b1), .val (.ref t3), .val (.ref t4), .val (.int v26_5), .val .null, .val (.ref x131), .val (.int (1 : Int32))] [(.long (1 : Int64)), (.long (1 : Int64)), (.int (1 : Int32))])) (fun t k => XS.lconst X160.here hx rfl (hb hby at_216) k) ?_
          refine Go.on (B := T160.setTop (mkF m 218 #[.val (.int p1), .val (.int p2), .val (.int p3), .val (.int p4), .val (.ref b1), .val (.ref t3), .val (.ref t4), .val (.int v26_5), .val .null, .val (.ref x131), .val (.int (1 : Int32))] [(.int (lcmpW (1 : Int64) (1 : Int64))), (.int (1 : Int32))])) (fun t k => XS.lcmp X160.here hx rfl (hb hby at_217) rfl k) ?_
          have hc218_161 : (1 : Int64) = (1 : Int64) := by decide
          refine Go.on (B := T160.setTop (mkF m 221 #[.val (.int p1), .val (.int p2), .val (.int p3), .val (.int p4), .val (.ref b1), .val (.ref t3), .val (.ref t4), .val (.int v26_5), .val .null, .val (.ref x131), .val (.int (1 : Int32))] [(.int (1 : Int32))])) (fun t k => XS.ifNo X160.here hx rfl (hb hby at_218) rfl ((if0 _ _).trans (teq ((lw_eq _ _).mpr hc218_161)).2) k) ?_
          refine Go.on (B := T160.setTop (mkF m 222 #[.val (.int p1), .val (.int p2), .val (.int p3), .val (.int p4), .val (.ref b1), .val (.ref t3), .val (.ref t4), .val (.int v26_5), .val .null, .val (.ref x131), .val (.int (1 : Int32))] [(.int (1 : Int32)), (.int (1 : Int32))])) (fun t k => XS.iconst X160.here hx rfl (hb hby at_221) k) ?_
          refine Go.on (B := T160.setTop (mkF m 226 #[.val (.int p1), .val (.int p2), .val (.int p3), .val (.int p4), .val (.ref b1), .val (.ref t3), .val (.ref t4), .val (.int v26_5), .val .null, .val (.ref x131), .val (.int (1 : Int32))] [(.int (1 : Int32)), (.int (1 : Int32))])) (fun t k => XS.goto X160.here hx rfl (pc0 := 222) (pc' := 226) rfl (hb hby at_222) (by decide) (by decide) k) ?_
          refine Go.on (B := T160.setTop (mkF m 227 #[.val (.int p1), .val (.int p2), .val (.int p3), .val (.int p4), .val (.ref b1), .val (.ref t3), .val (.ref t4), .val (.int v26_5), .val .null, .val (.ref x131), .val (.int (1 : Int32))] [(.int ((1 : Int32) &&& (1 : Int32)))])) (fun t k => XS.iand X160.here hx rfl (hb hby at_226) rfl k) ?_
          rw [show ((1 : Int32) &&& (1 : Int32)) = (1 : Int32) from by decide]
          refine Go.on (B := T160.setTop (mkF m 229 #[.val (.int p1), .val (.int p2), .val (.int p3), .val (.int p4), .val (.ref b1), .val (.ref t3), .val (.ref t4), .val (.int v26_5), .val .null, .val (.ref x131), .val (.int (1 : Int32))] [])) (fun t k => XS.istore X160.here hx rfl (hb hby at_227) rfl (l' := #[.val (.int p1), .val (.int p2), .val (.int p3), .val (.int p4), .val (.ref b1), .val (.ref t3), .val (.ref t4), .val (.int v26_5), .val .null, .val (.ref x131), .val (.int (1 : Int32))]) rfl k) ?_
          refine Go.on (B := T160.setTop (mkF m 231 #[.val (.int p1), .val (.int p2), .val (.int p3), .val (.int p4), .val (.ref b1), .val (.ref t3), .val (.ref t4), .val (.int v26_5), .val .null, .val (.ref x131), .val (.int (1 : Int32))] [(.int (1 : Int32))])) (fun t k => XS.iload X160.here hx rfl (hb hby at_229) rfl k) ?_
          obtain ⟨fs, hr, hrun, hended, hW, hsame⟩ := X160.leave (v := some (.int (1 : Int32))) (fun h => by rw [Bd.returns] at h; cases h)
          refine ⟨_, _, ?_, hrun, hended, _, _, rfl, ?_, ⟨_, rfl⟩, hW, hsame.mono (by decide) (by decide)⟩
          · exact retN X160 hx (t := .boolean) Bd.returns (by simp) (hb hby at_231) hr
          · show Q_rm0 Z p1 p2 p3 p4 ca cc ica icc h0 n0 _ T160.heap _
            rw [e160q]
            exact ⟨rfl, N160⟩
        · refine Go.on (B := T147.setTop (mkF m 99 #[.val (.int p1), .val (.int p2), .val (.int p3), .val (.int p4), .val (.ref b1), .val (.ref t3), .val (.ref t4), .val (.int v26_5), .val .null, .val (.ref x131), .val (.int (1 : Int32))] [])) (fun t k => XS.icmpNo X147.here hx rfl (hb hby at_96) rfl (flt hc96_150).1 k) ?_
          refine Go.on (B := T147.setTop (mkF m 101 #[.val (.int p1), .val (.int p2), .val (.int p3), .val (.int p4), .val (.ref b1), .val (.ref t3), .val (.ref t4), .val (.int v26_5), .val .null, .val (.ref x131), .val (.int (1 : Int32))] [(.int (1 : Int32))])) (fun t k => XS.iload X147.here hx rfl (hb hby at_99) rfl k) ?_
          refine Go.on (B := T147.setTop (mkF m 103 #[.val (.int p1), .val (.int p2), .val (.int p3), .val (.int p4), .val (.ref b1), .val (.ref t3), .val (.ref t4), .val (.int v26_5), .val .null, .val (.ref x131), .val (.int (1 : Int32))] [(.ref b1), (.int (1 : Int32))])) (fun t k => XS.aload X147.here hx rfl (hb hby at_101) rfl rfl k) ?_
          refine Go.on (B := T147.setTop (mkF m 105 #[.val (.int p1), .val (.int p2), .val (.int p3), .val (.int p4), .val (.ref b1), .val (.ref t3), .val (.ref t4), .val (.int v26_5), .val .null, .val (.ref x131), .val (.int (1 : Int32))] [(.ref x131), (.ref b1), (.int (1 : Int32))])) (fun t k => XS.aload X147.here hx rfl (hb hby at_103) rfl rfl k) ?_
          refine Go.on (B := T147.setTop (mkF m 107 #[.val (.int p1), .val (.int p2), .val (.int p3), .val (.int p4), .val (.ref b1), .val (.ref t3), .val (.ref t4), .val (.int v26_5), .val .null, .val (.ref x131), .val (.int (1 : Int32))] [(.ref t3), (.ref x131), (.ref b1), (.int (1 : Int32))])) (fun t k => XS.aload X147.here hx rfl (hb hby at_105) rfl rfl k) ?_
          obtain ⟨cq163, kq163, q163a, q163b, q163c⟩ := isOf hZ rfl f267
          obtain ⟨_, _, ⟨T163, L163, k163, n163⟩, -, X163, ⟨Lc163, hQ163, l163, y163, z163⟩, st163⟩ := X147.virtualBack hx (y := (⟨"com/example/tailrace/tailrace/cli/Count", "add", "(Ljava/lang/Object;Lcom/example/tailrace/tailrace/cli/Count$Tally;)Lcom/example/tailrace/tailrace/cli/Count$Tally;"⟩ : MethodName)) (z := (⟨"com/example/tailrace/tailrace/cli/Count", "add", "(Ljava/lang/Object;Lcom/example/tailrace/tailrace/cli/Count$Tally;)Lcom/example/tailrace/tailrace/cli/Count$Tally;"⟩ : MethodName)) hown (mvT hZ (hw _ (List.mem_of_getElem? (i := 28) rfl))) (mvT hZ (hw _ (List.mem_of_getElem? (i := 29) rfl))) (notFace_of_selects (args := #[]) (mvT hZ (hw _ (List.mem_of_getElem? (i := 31) rfl)))) (mvT hZ (hw _ (List.mem_of_getElem? (i := 31) rfl))) (mvT hZ (hw _ (List.mem_of_getElem? (i := 30) rfl))) (by decide) (backOf (W := 1) (radd1 l Z a0 hw [] b1 x131 t3 (1 : Int64) T147.heap n0 Zs271 G147a G147b ge_t3) hZ (hw _ (List.mem_of_getElem? (i := 32) rfl)) (hw _ (List.mem_of_getElem? (i := 2) rfl)) (by decide) (by decide)) q163a q163c (g := (mkF m 107 #[.val (.int p1), .val (.int p2), .val (.int p3), .val (.int p4), .val (.ref b1), .val (.ref t3), .val (.ref t4), .val (.int v26_5), .val .null, .val (.ref x131), .val (.int (1 : Int32))] [(.ref t3), (.ref x131), (.ref b1), (.int (1 : Int32))])) rfl (by rw [hml]; rfl) (Steps.refl _) (argsL := [(.ref x131), (.ref t3)]) (rest := [(.int (1 : Int32))]) (lenOf pd_5 rfl) rfl (by show 2 * 0 + _ ≤ _; exact Nat.le_of_eq rfl) (hb hby at_107) (fun _ _ => ⟨rfl, rfl, (by decide : 4 + 0 ≤ _), (by decide : 3 + 0 ≤ _)⟩)
          dsimp only [Pt.U, Pt.locs, Pt.cells, Pt.slots] at X163 l163 y163 z163 st163 hQ163
          subst l163 y163 z163
          obtain ⟨rfl, N163q, K163q, G163a, G163b⟩ := hQ163
          have N163 := Fr.app N147 N163q
          have O_294 := O_266.keep K163q (allS ge_t3 all0)
          have f295 := f267.keep K163q
          have f296 := G147a.keep K163q
          have f297 := f269.keep K163q
          have f298 := f270.keep K163q (ninS (Ne.symm ne_t3_t4) nin0)
          have Zs299 := Nat.le_trans Zs271 K163q.1
          rw [show ((1 : Int64) + (1 : Int64)) = (2 : Int64) from by decide] at G163b
          refine Go.on (B := T163.setTop (mkF m 110 #[.val (.int p1), .val (.int p2), .val (.int p3), .val (.int p4), .val (.ref b1), .val (.ref t3), .val (.ref t4), .val (.int v26_5), .val .null, .val (.ref x131), .val (.int (1 : Int32))] [(.ref t3), (.int (1 : Int32))])) (fun t k => st163.trans k) ?_
          refine Go.on (B := T163.setTop (mkF m 112 #[.val (.int p1), .val (.int p2), .val (.int p3), .val (.int p4), .val (.ref b1), .val (.ref t3), .val (.ref t4), .val (.int v26_5), .val .null, .val (.ref x131), .val (.int (1 : Int32))] [(.ref t3), (.ref t3), (.int (1 : Int32))])) (fun t k => XS.aload X163.here hx rfl (hb hby at_110) rfl rfl k) ?_
          refine Go.on (B := T163.setTop (mkF m 115 #[.val (.int p1), .val (.int p2), .val (.int p3), .val (.int p4), .val (.ref b1), .val (.ref t3), .val (.ref t4), .val (.int v26_5), .val .null, .val (.ref x131), .val (.int (1 : Int32))] [(.int (1 : Int32))])) (fun t k => Jvm.RoadKit.acmp (g := (mkF m 112 #[.val (.int p1), .val (.int p2), .val (.int p3), .val (.int p4), .val (.ref b1), .val (.ref t3), .val (.ref t4), .val (.int v26_5), .val .null, .val (.ref x131), .val (.int (1 : Int32))] [(.ref t3), (.ref t3), (.int (1 : Int32))])) X163 hx rfl rfl rfl (pc0 := 112) (pc' := 115) (same := true) rfl (hb hby at_112) rfl (decide_eq_true rfl) (by decide) (by decide) k) ?_
          refine Go.on (B := T163.setTop (mkF m 116 #[.val (.int p1), .val (.int p2), .val (.int p3), .val (.int p4), .val (.ref b1), .val (.ref t3), .val (.ref t4), .val (.int v26_5), .val .null, .val (.ref x131), .val (.int (1 : Int32))] [(.int (1 : Int32)), (.int (1 : Int32))])) (fun t k => XS.iconst X163.here hx rfl (hb hby at_115) k) ?_
          refine Go.on (B := T163.setTop (mkF m 120 #[.val (.int p1), .val (.int p2), .val (.int p3), .val (.int p4), .val (.ref b1), .val (.ref t3), .val (.ref t4), .val (.int v26_5), .val .null, .val (.ref x131), .val (.int (1 : Int32))] [(.int (1 : Int32)), (.int (1 : Int32))])) (fun t k => XS.goto X163.here hx rfl (pc0 := 116) (pc' := 120) rfl (hb hby at_116) (by decide) (by decide) k) ?_
          refine Go.on (B := T163.setTop (mkF m 121 #[.val (.int p1), .val (.int p2), .val (.int p3), .val (.int p4), .val (.ref b1), .val (.ref t3), .val (.ref t4), .val (.int v26_5), .val .null, .val (.ref x131), .val (.int (1 : Int32))] [(.int ((1 : Int32) &&& (1 : Int32)))])) (fun t k => XS.iand X163.here hx rfl (hb hby at_120) rfl k) ?_
          rw [show ((1 : Int32) &&& (1 : Int32)) = (1 : Int32) from by decide]
          refine Go.on (B := T163.setTop (mkF m 123 #[.val (.int p1), .val (.int p2), .val (.int p3), .val (.int p4), .val (.ref b1), .val (.ref t3), .val (.ref t4), .val (.int v26_5), .val .null, .val (.ref x131), .val (.int (1 : Int32))] [])) (fun t k => XS.istore X163.here hx rfl (hb hby at_121) rfl (l' := #[.val (.int p1), .val (.int p2), .val (.int p3), .val (.int p4), .val (.ref b1), .val (.ref t3), .val (.ref t4), .val (.int v26_5), .val .null, .val (.ref x131), .val (.int (1 : Int32))]) rfl k) ?_
          refine Go.on (B := T163.setTop (mkF m 125 #[.val (.int p1), .val (.int p2), .val (.int p3), .val (.int p4), .val (.ref b1), .val (.ref t3), .val (.ref t4), .val (.int v26_5), .val .null, .val (.ref x131), .val (.int (1 : Int32))] [(.int v26_5)])) (fun t k => XS.iload X163.here hx rfl (hb hby at_123) rfl k) ?_
          refine Go.on (B := T163.setTop (mkF m 126 #[.val (.int p1), .val (.int p2), .val (.int p3), .val (.int p4), .val (.ref b1), .val (.ref t3), .val (.ref t4), .val (.int v26_5), .val .null, .val (.ref x131), .val (.int (1 : Int32))] [(.int (3 : Int32)), (.int v26_5)])) (fun t k => XS.iconst X163.here hx rfl (hb hby at_125) k) ?_
          by_cases hc126_166 : v26_5 < (3 : Int32)
          · refine Go.on (B := T163.setTop (mkF m 153 #[.val (.int p1), .val (.int p2), .val (.int p3), .val (.int p4), .val (.ref b1), .val (.ref t3), .val (.ref t4), .val (.int v26_5), .val .null, .val (.ref x131), .val (.int (1 : Int32))] [])) (fun t k => XS.icmpYes X163.here hx rfl (pc0 := 126) (pc' := 153) rfl (hb hby at_126) rfl (tlt hc126_166).1 (by decide) (by decide) k) ?_
            refine Go.on (B := T163.setTop (mkF m 155 #[.val (.int p1), .val (.int p2), .val (.int p3), .val (.int p4), .val (.ref b1), .val (.ref t3), .val (.ref t4), .val (.int v26_5), .val .null, .val (.ref x131), .val (.int (1 : Int32))] [(.int (1 : Int32))])) (fun t k => XS.iload X163.here hx rfl (hb hby at_153) rfl k) ?_
            refine Go.on (B := T163.setTop (mkF m 157 #[.val (.int p1), .val (.int p2), .val (.int p3), .val (.int p4), .val (.ref b1), .val (.ref t3), .val (.ref t4), .val (.int v26_5), .val .null, .val (.ref x131), .val (.int (1 : Int32))] [(.ref b1), (.int (1 : Int32))])) (fun t k => XS.aload X163.here hx rfl (hb hby at_155) rfl rfl k) ?_
            refine Go.on (B := T163.setTop (mkF m 159 #[.val (.int p1), .val (.int p2), .val (.int p3), .val (.int p4), .val (.ref b1), .val (.ref t3), .val (.ref t4), .val (.int v26_5), .val .null, .val (.ref x131), .val (.int (1 : Int32))] [(.ref x131), (.ref b1), (.int (1 : Int32))])) (fun t k => XS.aload X163.here hx rfl (hb hby at_157) rfl rfl k) ?_
            refine Go.on (B := T163.setTop (mkF m 161 #[.val (.int p1), .val (.int p2), .val (.int p3), .val (.int p4), .val (.ref b1), .val (.ref t3), .val (.ref t4), .val (.int v26_5), .val .null, .val (.ref x131), .val (.int (1 : Int32))] [(.ref t4), (.ref x131), (.ref b1), (.int (1 : Int32))])) (fun t k => XS.aload X163.here hx rfl (hb hby at_159) rfl rfl k) ?_
            obtain ⟨cq167, kq167, q167a, q167b, q167c⟩ := isOf hZ rfl f295
            obtain ⟨_, _, ⟨T167, L167, k167, n167⟩, -, X167, ⟨Lc167, hQ167, l167, y167, z167⟩, st167⟩ := X163.virtualBack hx (y := (⟨"com/example/tailrace/tailrace/cli/Count", "add", "(Ljava/lang/Object;Lcom/example/tailrace/tailrace/cli/Count$Tally;)Lcom/example/tailrace/tailrace/cli/Count$Tally;"⟩ : MethodName)) (z := (⟨"com/example/tailrace/tailrace/cli/Count", "add", "(Ljava/lang/Object;Lcom/example/tailrace/tailrace/cli/Count$Tally;)Lcom/example/tailrace/tailrace/cli/Count$Tally;"⟩ : MethodName)) hown (mvT hZ (hw _ (List.mem_of_getElem? (i := 28) rfl))) (mvT hZ (hw _ (List.mem_of_getElem? (i := 29) rfl))) (notFace_of_selects (args := #[]) (mvT hZ (hw _ (List.mem_of_getElem? (i := 31) rfl)))) (mvT hZ (hw _ (List.mem_of_getElem? (i := 31) rfl))) (mvT hZ (hw _ (List.mem_of_getElem? (i := 30) rfl))) (by decide) (backOf (W := 1) (radd1 l Z a0 hw [] b1 x131 t4 (0 : Int64) T163.heap n0 Zs299 f297 f298 ge_t4) hZ (hw _ (List.mem_of_getElem? (i := 32) rfl)) (hw _ (List.mem_of_getElem? (i := 2) rfl)) (by decide) (by decide)) q167a q167c (g := (mkF m 161 #[.val (.int p1), .val (.int p2), .val (.int p3), .val (.int p4), .val (.ref b1), .val (.ref t3), .val (.ref t4), .val (.int v26_5), .val .null, .val (.ref x131), .val (.int (1 : Int32))] [(.ref t4), (.ref x131), (.ref b1), (.int (1 : Int32))])) rfl (by rw [hml]; rfl) (Steps.refl _) (argsL := [(.ref x131), (.ref t4)]) (rest := [(.int (1 : Int32))]) (lenOf pd_5 rfl) rfl (by show 2 * 0 + _ ≤ _; exact Nat.le_of_eq rfl) (hb hby at_161) (fun _ _ => ⟨rfl, rfl, (by decide : 4 + 0 ≤ _), (by decide : 3 + 0 ≤ _)⟩)
            dsimp only [Pt.U, Pt.locs, Pt.cells, Pt.slots] at X167 l167 y167 z167 st167 hQ167
            subst l167 y167 z167
            obtain ⟨rfl, N167q, K167q, G167a, G167b⟩ := hQ167
            have N167 := Fr.app N163 N167q
            have O_300 := O_294.keep K167q (allS ge_t4 all0)
            have f301 := f295.keep K167q
            have f302 := G163a.keep K167q
            have f303 := f297.keep K167q
            have f304 := G163b.keep K167q (ninS ne_t3_t4 nin0)
            have Zs305 := Nat.le_trans Zs299 K167q.1
            rw [show ((0 : Int64) + (1 : Int64)) = (1 : Int64) from by decide] at G167b
            refine Go.on (B := T167.setTop (mkF m 164 #[.val (.int p1), .val (.int p2), .val (.int p3), .val (.int p4), .val (.ref b1), .val (.ref t3), .val (.ref t4), .val (.int v26_5), .val .null, .val (.ref x131), .val (.int (1 : Int32))] [(.ref t4), (.int (1 : Int32))])) (fun t k => st167.trans k) ?_
            refine Go.on (B := T167.setTop (mkF m 166 #[.val (.int p1), .val (.int p2), .val (.int p3), .val (.int p4), .val (.ref b1), .val (.ref t3), .val (.ref t4), .val (.int v26_5), .val .null, .val (.ref x131), .val (.int (1 : Int32))] [(.ref t4), (.ref t4), (.int (1 : Int32))])) (fun t k => XS.aload X167.here hx rfl (hb hby at_164) rfl rfl k) ?_
            refine Go.on (B := T167.setTop (mkF m 169 #[.val (.int p1), .val (.int p2), .val (.int p3), .val (.int p4), .val (.ref b1), .val (.ref t3), .val (.ref t4), .val (.int v26_5), .val .null, .val (.ref x131), .val (.int (1 : Int32))] [(.int (1 : Int32))])) (fun t k => Jvm.RoadKit.acmp (g := (mkF m 166 #[.val (.int p1), .val (.int p2), .val (.int p3), .val (.int p4), .val (.ref b1), .val (.ref t3), .val (.ref t4), .val (.int v26_5), .val .null, .val (.ref x131), .val (.int (1 : Int32))] [(.ref t4), (.ref t4), (.int (1 : Int32))])) X167 hx rfl rfl rfl (pc0 := 166) (pc' := 169) (same := true) rfl (hb hby at_166) rfl (decide_eq_true rfl) (by decide) (by decide) k) ?_
            refine Go.on (B := T167.setTop (mkF m 170 #[.val (.int p1), .val (.int p2), .val (.int p3), .val (.int p4), .val (.ref b1), .val (.ref t3), .val (.ref t4), .val (.int v26_5), .val .null, .val (.ref x131), .val (.int (1 : Int32))] [(.int (1 : Int32)), (.int (1 : Int32))])) (fun t k => XS.iconst X167.here hx rfl (hb hby at_169) k) ?_
            refine Go.on (B := T167.setTop (mkF m 174 #[.val (.int p1), .val (.int p2), .val (.int p3), .val (.int p4), .val (.ref b1), .val (.ref t3), .val (.ref t4), .val (.int v26_5), .val .null, .val (.ref x131), .val (.int (1 : Int32))] [(.int (1 : Int32)), (.int (1 : Int32))])) (fun t k => XS.goto X167.here hx rfl (pc0 := 170) (pc' := 174) rfl (hb hby at_170) (by decide) (by decide) k) ?_
            refine Go.on (B := T167.setTop (mkF m 175 #[.val (.int p1), .val (.int p2), .val (.int p3), .val (.int p4), .val (.ref b1), .val (.ref t3), .val (.ref t4), .val (.int v26_5), .val .null, .val (.ref x131), .val (.int (1 : Int32))] [(.int ((1 : Int32) &&& (1 : Int32)))])) (fun t k => XS.iand X167.here hx rfl (hb hby at_174) rfl k) ?_
            rw [show ((1 : Int32) &&& (1 : Int32)) = (1 : Int32) from by decide]
            refine Go.on (B := T167.setTop (mkF m 177 #[.val (.int p1), .val (.int p2), .val (.int p3), .val (.int p4), .val (.ref b1), .val (.ref t3), .val (.ref t4), .val (.int v26_5), .val .null, .val (.ref x131), .val (.int (1 : Int32))] [])) (fun t k => XS.istore X167.here hx rfl (hb hby at_175) rfl (l' := #[.val (.int p1), .val (.int p2), .val (.int p3), .val (.int p4), .val (.ref b1), .val (.ref t3), .val (.ref t4), .val (.int v26_5), .val .null, .val (.ref x131), .val (.int (1 : Int32))]) rfl k) ?_
            refine Go.on (B := T167.setTop (mkF m 179 #[.val (.int p1), .val (.int p2), .val (.int p3), .val (.int p4), .val (.ref b1), .val (.ref t3), .val (.ref t4), .val (.int v26_5), .val .null, .val (.ref x131), .val (.int (1 : Int32))] [(.int (1 : Int32))])) (fun t k => XS.iload X167.here hx rfl (hb hby at_177) rfl k) ?_
            refine Go.on (B := T167.setTop (mkF m 181 #[.val (.int p1), .val (.int p2), .val (.int p3), .val (.int p4), .val (.ref b1), .val (.ref t3), .val (.ref t4), .val (.int v26_5), .val .null, .val (.ref x131), .val (.int (1 : Int32))] [(.ref b1), (.int (1 : Int32))])) (fun t k => XS.aload X167.here hx rfl (hb hby at_179) rfl rfl k) ?_
            refine Go.on (B := T167.setTop (mkF m 183 #[.val (.int p1), .val (.int p2), .val (.int p3), .val (.int p4), .val (.ref b1), .val (.ref t3), .val (.ref t4), .val (.int v26_5), .val .null, .val (.ref x131), .val (.int (1 : Int32))] [(.ref t3), (.ref b1), (.int (1 : Int32))])) (fun t k => XS.aload X167.here hx rfl (hb hby at_181) rfl rfl k) ?_
            obtain ⟨cq170, kq170, q170a, q170b, q170c⟩ := isOf hZ rfl f301
            obtain ⟨_, _, ⟨T170, L170, k170, n170⟩, -, X170, ⟨Lc170, hQ170, l170, y170, z170⟩, st170⟩ := X167.virtualBack hx (y := (⟨"com/example/tailrace/tailrace/cli/Count", "getResult", "(Lcom/example/tailrace/tailrace/cli/Count$Tally;)Ljava/lang/Long;"⟩ : MethodName)) (z := (⟨"com/example/tailrace/tailrace/cli/Count", "getResult", "(Lcom/example/tailrace/tailrace/cli/Count$Tally;)Ljava/lang/Long;"⟩ : MethodName)) hown (mvT hZ (hw _ (List.mem_of_getElem? (i := 35) rfl))) (mvT hZ (hw _ (List.mem_of_getElem? (i := 36) rfl))) (notFace_of_selects (args := #[]) (mvT hZ (hw _ (List.mem_of_getElem? (i := 38) rfl)))) (mvT hZ (hw _ (List.mem_of_getElem? (i := 38) rfl))) (mvT hZ (hw _ (List.mem_of_getElem? (i := 37) rfl))) (by decide) (backOf (W := 1) (rgr l Z a0 hw [] b1 t3 (2 : Int64) ca cc T167.heap n0 Zs305 f304 O_300 S_cache B_cache (by decide) (by decide)) hZ (hw _ (List.mem_of_getElem? (i := 39) rfl)) (hw _ (List.mem_of_getElem? (i := 2) rfl)) (by decide) (by decide)) q170a q170c (g := (mkF m 183 #[.val (.int p1), .val (.int p2), .val (.int p3), .val (.int p4), .val (.ref b1), .val (.ref t3), .val (.ref t4), .val (.int v26_5), .val .null, .val (.ref x131), .val (.int (1 : Int32))] [(.ref t3), (.ref b1), (.int (1 : Int32))])) rfl (by rw [hml]; rfl) (Steps.refl _) (argsL := [(.ref t3)]) (rest := [(.int (1 : Int32))]) (lenOf pd_6 rfl) rfl (by show 2 * 0 + _ ≤ _; exact Nat.le_of_eq rfl) (hb hby at_183) (fun _ _ => ⟨rfl, rfl, (by decide : 4 + 0 ≤ _), (by decide : 3 + 0 ≤ _)⟩)
            dsimp only [Pt.U, Pt.locs, Pt.cells, Pt.slots] at X170 l170 y170 z170 st170 hQ170
            subst l170 y170 z170
            obtain ⟨⟨x170, rfl, G170a, G170b⟩, N170q, K170q⟩ := hQ170
            have N170 := Fr.app N167 N170q
            have O_306 := O_300.keep K170q all0
            have f307 := f301.keep K170q
            have f308 := f302.keep K170q
            have f309 := G167a.keep K170q
            have f310 := f304.keep K170q nin0
            have f311 := G167b.keep K170q nin0
            have Zs312 := Nat.le_trans Zs305 K170q.1
            refine Go.on (B := T170.setTop (mkF m 186 #[.val (.int p1), .val (.int p2), .val (.int p3), .val (.int p4), .val (.ref b1), .val (.ref t3), .val (.ref t4), .val (.int v26_5), .val .null, .val (.ref x131), .val (.int (1 : Int32))] [(.ref x170), (.int (1 : Int32))])) (fun t k => st170.trans k) ?_
            obtain ⟨cq171, kq171, q171a, q171b, q171c⟩ := isOf hZ rfl G170a
            obtain ⟨_, _, ⟨T171, L171, k171, n171⟩, -, X171, ⟨Lc171, hQ171, l171, y171, z171⟩, st171⟩ := X170.virtualBack hx (y := (⟨"java/lang/Long", "longValue", "()J"⟩ : MethodName)) (z := (⟨"java/lang/Long", "longValue", "()J"⟩ : MethodName)) hown (mvT hZ (hw _ (List.mem_of_getElem? (i := 48) rfl))) (mvT hZ (hw _ (List.mem_of_getElem? (i := 49) rfl))) (notFace_of_selects (args := #[]) (mvT hZ (hw _ (List.mem_of_getElem? (i := 51) rfl)))) (mvT hZ (hw _ (List.mem_of_getElem? (i := 51) rfl))) (mvT hZ (hw _ (List.mem_of_getElem? (i := 50) rfl))) (by decide) (backOf (W := 1) (rval l Z a0 hw [] x170 (2 : Int64) T170.heap n0 Zs312 G170b) hZ (hw _ (List.mem_of_getElem? (i := 52) rfl)) (hw _ (List.mem_of_getElem? (i := 42) rfl)) (by decide) (by decide)) q171a q171c (g := (mkF m 186 #[.val (.int p1), .val (.int p2), .val (.int p3), .val (.int p4), .val (.ref b1), .val (.ref t3), .val (.ref t4), .val (.int v26_5), .val .null, .val (.ref x131), .val (.int (1 : Int32))] [(.ref x170), (.int (1 : Int32))])) rfl (by rw [hml]; rfl) (Steps.refl _) (argsL := []) (rest := [(.int (1 : Int32))]) (lenOf pd_7 rfl) rfl (by show 2 * 0 + _ ≤ _; exact Nat.le_of_eq rfl) (hb hby at_186) (fun _ _ => ⟨rfl, rfl, (by decide : 4 + 0 ≤ _), (by decide : 3 + 0 ≤ _)⟩)
            dsimp only [Pt.U, Pt.locs, Pt.cells, Pt.slots] at X171 l171 y171 z171 st171 hQ171
            subst l171 y171 z171
            obtain ⟨rfl, N171q, e171q⟩ := hQ171
            have N171 := Fr.app N170 N171q
            refine Go.on (B := T171.setTop (mkF m 189 #[.val (.int p1), .val (.int p2), .val (.int p3), .val (.int p4), .val (.ref b1), .val (.ref t3), .val (.ref t4), .val (.int v26_5), .val .null, .val (.ref x131), .val (.int (1 : Int32))] [(.long (2 : Int64)), (.int (1 : Int32))])) (fun t k => st171.trans k) ?_
            refine Go.on (B := T171.setTop (mkF m 191 #[.val (.int p1), .val (.int p2), .val (.int p3), .val (.int p4), .val (.ref b1), .val (.ref t3), .val (.ref t4), .val (.int v26_5), .val .null, .val (.ref x131), .val (.int (1 : Int32))] [(.int v26_5), (.long (2 : Int64)), (.int (1 : Int32))])) (fun t k => XS.iload X171.here hx rfl (hb hby at_189) rfl k) ?_
            refine Go.on (B := T171.setTop (mkF m 192 #[.val (.int p1), .val (.int p2), .val (.int p3), .val (.int p4), .val (.ref b1), .val (.ref t3), .val (.ref t4), .val (.int v26_5), .val .null, .val (.ref x131), .val (.int (1 : Int32))] [(.long (v26_5.toInt64)), (.long (2 : Int64)), (.int (1 : Int32))])) (fun t k => XS.i2l X171.here hx rfl (hb hby at_191) rfl k) ?_
            refine Go.on (B := T171.setTop (mkF m 193 #[.val (.int p1), .val (.int p2), .val (.int p3), .val (.int p4), .val (.ref b1), .val (.ref t3), .val (.ref t4), .val (.int v26_5), .val .null, .val (.ref x131), .val (.int (1 : Int32))] [(.int (lcmpW (2 : Int64) (v26_5.toInt64))), (.int (1 : Int32))])) (fun t k => XS.lcmp X171.here hx rfl (hb hby at_192) rfl k) ?_
            have hc193_172 : (2 : Int64) = (v26_5.toInt64) := by
              have q := own_n3 _ _ hv26_5
              have u0 := hc66_133
              rw [Int32.lt_iff_toInt_lt, show (1 : Int32).toInt = 1 from by decide] at u0
              have u1 := hc96_150
              rw [Int32.lt_iff_toInt_lt, show (2 : Int32).toInt = 2 from by decide] at u1
              have u2 := hc126_166
              rw [Int32.lt_iff_toInt_lt, show (3 : Int32).toInt = 3 from by decide] at u2
              exact own_is 2 (by omega) (by decide)
            refine Go.on (B := T171.setTop (mkF m 196 #[.val (.int p1), .val (.int p2), .val (.int p3), .val (.int p4), .val (.ref b1), .val (.ref t3), .val (.ref t4), .val (.int v26_5), .val .null, .val (.ref x131), .val (.int (1 : Int32))] [(.int (1 : Int32))])) (fun t k => XS.ifNo X171.here hx rfl (hb hby at_193) rfl ((if0 _ _).trans (teq ((lw_eq _ _).mpr hc193_172)).2) k) ?_
            refine Go.on (B := T171.setTop (mkF m 197 #[.val (.int p1), .val (.int p2), .val (.int p3), .val (.int p4), .val (.ref b1), .val (.ref t3), .val (.ref t4), .val (.int v26_5), .val .null, .val (.ref x131), .val (.int (1 : Int32))] [(.int (1 : Int32)), (.int (1 : Int32))])) (fun t k => XS.iconst X171.here hx rfl (hb hby at_196) k) ?_
            refine Go.on (B := T171.setTop (mkF m 201 #[.val (.int p1), .val (.int p2), .val (.int p3), .val (.int p4), .val (.ref b1), .val (.ref t3), .val (.ref t4), .val (.int v26_5), .val .null, .val (.ref x131), .val (.int (1 : Int32))] [(.int (1 : Int32)), (.int (1 : Int32))])) (fun t k => XS.goto X171.here hx rfl (pc0 := 197) (pc' := 201) rfl (hb hby at_197) (by decide) (by decide) k) ?_
            refine Go.on (B := T171.setTop (mkF m 202 #[.val (.int p1), .val (.int p2), .val (.int p3), .val (.int p4), .val (.ref b1), .val (.ref t3), .val (.ref t4), .val (.int v26_5), .val .null, .val (.ref x131), .val (.int (1 : Int32))] [(.int ((1 : Int32) &&& (1 : Int32)))])) (fun t k => XS.iand X171.here hx rfl (hb hby at_201) rfl k) ?_
            rw [show ((1 : Int32) &&& (1 : Int32)) = (1 : Int32) from by decide]
            refine Go.on (B := T171.setTop (mkF m 204 #[.val (.int p1), .val (.int p2), .val (.int p3), .val (.int p4), .val (.ref b1), .val (.ref t3), .val (.ref t4), .val (.int v26_5), .val .null, .val (.ref x131), .val (.int (1 : Int32))] [])) (fun t k => XS.istore X171.here hx rfl (hb hby at_202) rfl (l' := #[.val (.int p1), .val (.int p2), .val (.int p3), .val (.int p4), .val (.ref b1), .val (.ref t3), .val (.ref t4), .val (.int v26_5), .val .null, .val (.ref x131), .val (.int (1 : Int32))]) rfl k) ?_
            refine Go.on (B := T171.setTop (mkF m 206 #[.val (.int p1), .val (.int p2), .val (.int p3), .val (.int p4), .val (.ref b1), .val (.ref t3), .val (.ref t4), .val (.int v26_5), .val .null, .val (.ref x131), .val (.int (1 : Int32))] [(.int (1 : Int32))])) (fun t k => XS.iload X171.here hx rfl (hb hby at_204) rfl k) ?_
            refine Go.on (B := T171.setTop (mkF m 208 #[.val (.int p1), .val (.int p2), .val (.int p3), .val (.int p4), .val (.ref b1), .val (.ref t3), .val (.ref t4), .val (.int v26_5), .val .null, .val (.ref x131), .val (.int (1 : Int32))] [(.ref b1), (.int (1 : Int32))])) (fun t k => XS.aload X171.here hx rfl (hb hby at_206) rfl rfl k) ?_
            refine Go.on (B := T171.setTop (mkF m 210 #[.val (.int p1), .val (.int p2), .val (.int p3), .val (.int p4), .val (.ref b1), .val (.ref t3), .val (.ref t4), .val (.int v26_5), .val .null, .val (.ref x131), .val (.int (1 : Int32))] [(.ref t4), (.ref b1), (.int (1 : Int32))])) (fun t k => XS.aload X171.here hx rfl (hb hby at_208) rfl rfl k) ?_
            obtain ⟨cq174, kq174, q174a, q174b, q174c⟩ := isOf hZ e171q f307
            obtain ⟨_, _, ⟨T174, L174, k174, n174⟩, -, X174, ⟨Lc174, hQ174, l174, y174, z174⟩, st174⟩ := X171.virtualBack hx (y := (⟨"com/example/tailrace/tailrace/cli/Count", "getResult", "(Lcom/example/tailrace/tailrace/cli/Count$Tally;)Ljava/lang/Long;"⟩ : MethodName)) (z := (⟨"com/example/tailrace/tailrace/cli/Count", "getResult", "(Lcom/example/tailrace/tailrace/cli/Count$Tally;)Ljava/lang/Long;"⟩ : MethodName)) hown (mvT hZ (hw _ (List.mem_of_getElem? (i := 35) rfl))) (mvT hZ (hw _ (List.mem_of_getElem? (i := 36) rfl))) (notFace_of_selects (args := #[]) (mvT hZ (hw _ (List.mem_of_getElem? (i := 38) rfl)))) (mvT hZ (hw _ (List.mem_of_getElem? (i := 38) rfl))) (mvT hZ (hw _ (List.mem_of_getElem? (i := 37) rfl))) (by decide) (backOf (W := 1) (rgr l Z a0 hw [] b1 t4 (1 : Int64) ca cc T170.heap n0 Zs312 f311 O_306 S_cache B_cache (by decide) (by decide)) hZ (hw _ (List.mem_of_getElem? (i := 39) rfl)) (hw _ (List.mem_of_getElem? (i := 2) rfl)) (by decide) (by decide)) q174a q174c (g := (mkF m 210 #[.val (.int p1), .val (.int p2), .val (.int p3), .val (.int p4), .val (.ref b1), .val (.ref t3), .val (.ref t4), .val (.int v26_5), .val .null, .val (.ref x131), .val (.int (1 : Int32))] [(.ref t4), (.ref b1), (.int (1 : Int32))])) rfl (by rw [hml]; rfl) (Steps.refl _) (argsL := [(.ref t4)]) (rest := [(.int (1 : Int32))]) (lenOf pd_6 rfl) rfl (by show 2 * 0 + _ ≤ _; exact Nat.le_of_eq rfl) (hb hby at_210) (fun _ _ => ⟨rfl, e171q, (by decide : 4 + 0 ≤ _), (by decide : 3 + 0 ≤ _)⟩)
            dsimp only [Pt.U, Pt.locs, Pt.cells, Pt.slots] at X174 l174 y174 z174 st174 hQ174
            subst l174 y174 z174
            obtain ⟨⟨x174, rfl, G174a, G174b⟩, N174q, K174q⟩ := hQ174
            have N174 := Fr.app N171 N174q
            have O_313 := O_306.keep K174q all0
            have f314 := f307.keep K174q
            have f315 := f308.keep K174q
            have f316 := f309.keep K174q
            have f317 := f310.keep K174q nin0
            have f318 := f311.keep K174q nin0
            have f319 := G170a.keep K174q
            have f320 := G170b.keep K174q nin0
            have Zs321 := Nat.le_trans Zs312 K174q.1
            refine Go.on (B := T174.setTop (mkF m 213 #[.val (.int p1), .val (.int p2), .val (.int p3), .val (.int p4), .val (.ref b1), .val (.ref t3), .val (.ref t4), .val (.int v26_5), .val .null, .val (.ref x131), .val (.int (1 : Int32))] [(.ref x174), (.int (1 : Int32))])) (fun t k => st174.trans k) ?_
            obtain ⟨cq175, kq175, q175a, q175b, q175c⟩ := isOf hZ rfl G174a
            obtain ⟨_, _, ⟨T175, L175, k175, n175⟩, -, X175, ⟨Lc175, hQ175, l175, y175, z175⟩, st175⟩ := X174.virtualBack hx (y := (⟨"java/lang/Long", "longValue", "()J"⟩ : MethodName)) (z := (⟨"java/lang/Long", "longValue", "()J"⟩ : MethodName)) hown (mvT hZ (hw _ (List.mem_of_getElem? (i := 48) rfl))) (mvT hZ (hw _ (List.mem_of_getElem? (i := 49) rfl))) (notFace_of_selects (args := #[]) (mvT hZ (hw _ (List.mem_of_getElem? (i := 51) rfl)))) (mvT hZ (hw _ (List.mem_of_getElem? (i := 51) rfl))) (mvT hZ (hw _ (List.mem_of_getElem? (i := 50) rfl))) (by decide) (backOf (W := 1) (rval l Z a0 hw [] x174 (1 : Int64) T174.heap n0 Zs321 G174b) hZ (hw _ (List.mem_of_getElem? (i := 52) rfl)) (hw _ (List.mem_of_getElem? (i := 42) rfl)) (by decide) (by decide)) q175a q175c (g := (mkF m 213 #[.val (.int p1), .val (.int p2), .val (.int p3), .val (.int p4), .val (.ref b1), .val (.ref t3), .val (.ref t4), .val (.int v26_5), .val .null, .val (.ref x131), .val (.int (1 : Int32))] [(.ref x174), (.int (1 : Int32))])) rfl (by rw [hml]; rfl) (Steps.refl _) (argsL := []) (rest := [(.int (1 : Int32))]) (lenOf pd_7 rfl) rfl (by show 2 * 0 + _ ≤ _; exact Nat.le_of_eq rfl) (hb hby at_213) (fun _ _ => ⟨rfl, rfl, (by decide : 4 + 0 ≤ _), (by decide : 3 + 0 ≤ _)⟩)
            dsimp only [Pt.U, Pt.locs, Pt.cells, Pt.slots] at X175 l175 y175 z175 st175 hQ175
            subst l175 y175 z175
            obtain ⟨rfl, N175q, e175q⟩ := hQ175
            have N175 := Fr.app N174 N175q
            refine Go.on (B := T175.setTop (mkF m 216 #[.val (.int p1), .val (.int p2), .val (.int p3), .val (.int p4), .val (.ref b1), .val (.ref t3), .val (.ref t4), .val (.int v26_5), .val .null, .val (.ref x131), .val (.int (1 : Int32))] [(.long (1 : Int64)), (.int (1 : Int32))])) (fun t k => st175.trans k) ?_
            refine Go.on (B := T175.setTop (mkF m 217 #[.val (.int p1), .val (.int p2), .val (.int p3), .val (.int p4), .val (.ref b1), .val (.ref t3), .val (.ref t4), .val (.int v26_5), .val .null, .val (.ref x131), .val (.int (1 : Int32))] [(.long (1 : Int64)), (.long (1 : Int64)), (.int (1 : Int32))])) (fun t k => XS.lconst X175.here hx rfl (hb hby at_216) k) ?_
            refine Go.on (B := T175.setTop (mkF m 218 #[.val (.int p1), .val (.int p2), .val (.int p3), .val (.int p4), .val (.ref b1), .val (.ref t3), .val (.ref t4), .val (.int v26_5), .val .null, .val (.ref x131), .val (.int (1 : Int32))] [(.int (lcmpW (1 : Int64) (1 : Int64))), (.int (1 : Int32))])) (fun t k => XS.lcmp X175.here hx rfl (hb hby at_217) rfl k) ?_
            have hc218_176 : (1 : Int64) = (1 : Int64) := by decide
            refine Go.on (B := T175.setTop (mkF m 221 #[.val (.int p1), .val (.int p2), .val (.int p3), .val (.int p4), .val (.ref b1), .val (.ref t3), .val (.ref t4), .val (.int v26_5), .val .null, .val (.ref x131), .val (.int (1 : Int32))] [(.int (1 : Int32))])) (fun t k => XS.ifNo X175.here hx rfl (hb hby at_218) rfl ((if0 _ _).trans (teq ((lw_eq _ _).mpr hc218_176)).2) k) ?_
            refine Go.on (B := T175.setTop (mkF m 222 #[.val (.int p1), .val (.int p2), .val (.int p3), .val (.int p4), .val (.ref b1), .val (.ref t3), .val (.ref t4), .val (.int v26_5), .val .null, .val (.ref x131), .val (.int (1 : Int32))] [(.int (1 : Int32)), (.int (1 : Int32))])) (fun t k => XS.iconst X175.here hx rfl (hb hby at_221) k) ?_
            refine Go.on (B := T175.setTop (mkF m 226 #[.val (.int p1), .val (.int p2), .val (.int p3), .val (.int p4), .val (.ref b1), .val (.ref t3), .val (.ref t4), .val (.int v26_5), .val .null, .val (.ref x131), .val (.int (1 : Int32))] [(.int (1 : Int32)), (.int (1 : Int32))])) (fun t k => XS.goto X175.here hx rfl (pc0 := 222) (pc' := 226) rfl (hb hby at_222) (by decide) (by decide) k) ?_
            refine Go.on (B := T175.setTop (mkF m 227 #[.val (.int p1), .val (.int p2), .val (.int p3), .val (.int p4), .val (.ref b1), .val (.ref t3), .val (.ref t4), .val (.int v26_5), .val .null, .val (.ref x131), .val (.int (1 : Int32))] [(.int ((1 : Int32) &&& (1 : Int32)))])) (fun t k => XS.iand X175.here hx rfl (hb hby at_226) rfl k) ?_
            rw [show ((1 : Int32) &&& (1 : Int32)) = (1 : Int32) from by decide]
            refine Go.on (B := T175.setTop (mkF m 229 #[.val (.int p1), .val (.int p2), .val (.int p3), .val (.int p4), .val (.ref b1), .val (.ref t3), .val (.ref t4), .val (.int v26_5), .val .null, .val (.ref x131), .val (.int (1 : Int32))] [])) (fun t k => XS.istore X175.here hx rfl (hb hby at_227) rfl (l' := #[.val (.int p1), .val (.int p2), .val (.int p3), .val (.int p4), .val (.ref b1), .val (.ref t3), .val (.ref t4), .val (.int v26_5), .val .null, .val (.ref x131), .val (.int (1 : Int32))]) rfl k) ?_
            refine Go.on (B := T175.setTop (mkF m 231 #[.val (.int p1), .val (.int p2), .val (.int p3), .val (.int p4), .val (.ref b1), .val (.ref t3), .val (.ref t4), .val (.int v26_5), .val .null, .val (.ref x131), .val (.int (1 : Int32))] [(.int (1 : Int32))])) (fun t k => XS.iload X175.here hx rfl (hb hby at_229) rfl k) ?_
            obtain ⟨fs, hr, hrun, hended, hW, hsame⟩ := X175.leave (v := some (.int (1 : Int32))) (fun h => by rw [Bd.returns] at h; cases h)
            refine ⟨_, _, ?_, hrun, hended, _, _, rfl, ?_, ⟨_, rfl⟩, hW, hsame.mono (by decide) (by decide)⟩
            · exact retN X175 hx (t := .boolean) Bd.returns (by simp) (hb hby at_231) hr
            · show Q_rm0 Z p1 p2 p3 p4 ca cc ica icc h0 n0 _ T175.heap _
              rw [e175q]
              exact ⟨rfl, N175⟩
          · refine Go.on (B := T163.setTop (mkF m 129 #[.val (.int p1), .val (.int p2), .val (.int p3), .val (.int p4), .val (.ref b1), .val (.ref t3), .val (.ref t4), .val (.int v26_5), .val .null, .val (.ref x131), .val (.int (1 : Int32))] [])) (fun t k => XS.icmpNo X163.here hx rfl (hb hby at_126) rfl (flt hc126_166).1 k) ?_
            refine Go.on (B := T163.setTop (mkF m 131 #[.val (.int p1), .val (.int p2), .val (.int p3), .val (.int p4), .val (.ref b1), .val (.ref t3), .val (.ref t4), .val (.int v26_5), .val .null, .val (.ref x131), .val (.int (1 : Int32))] [(.int (1 : Int32))])) (fun t k => XS.iload X163.here hx rfl (hb hby at_129) rfl k) ?_
            refine Go.on (B := T163.setTop (mkF m 133 #[.val (.int p1), .val (.int p2), .val (.int p3), .val (.int p4), .val (.ref b1), .val (.ref t3), .val (.ref t4), .val (.int v26_5), .val .null, .val (.ref x131), .val (.int (1 : Int32))] [(.ref b1), (.int (1 : Int32))])) (fun t k => XS.aload X163.here hx rfl (hb hby at_131) rfl rfl k) ?_
            refine Go.on (B := T163.setTop (mkF m 135 #[.val (.int p1), .val (.int p2), .val (.int p3), .val (.int p4), .val (.ref b1), .val (.ref t3), .val (.ref t4), .val (.int v26_5), .val .null, .val (.ref x131), .val (.int (1 : Int32))] [.null, (.ref b1), (.int (1 : Int32))])) (fun t k => XS.aload X163.here hx rfl (hb hby at_133) rfl rfl k) ?_
            refine Go.on (B := T163.setTop (mkF m 137 #[.val (.int p1), .val (.int p2), .val (.int p3), .val (.int p4), .val (.ref b1), .val (.ref t3), .val (.ref t4), .val (.int v26_5), .val .null, .val (.ref x131), .val (.int (1 : Int32))] [(.ref t3), .null, (.ref b1), (.int (1 : Int32))])) (fun t k => XS.aload X163.here hx rfl (hb hby at_135) rfl rfl k) ?_
            obtain ⟨cq178, kq178, q178a, q178b, q178c⟩ := isOf hZ rfl f295
            obtain ⟨_, _, ⟨T178, L178, k178, n178⟩, -, X178, ⟨Lc178, hQ178, l178, y178, z178⟩, st178⟩ := X163.virtualBack hx (y := (⟨"com/example/tailrace/tailrace/cli/Count", "add", "(Ljava/lang/Object;Lcom/example/tailrace/tailrace/cli/Count$Tally;)Lcom/example/tailrace/tailrace/cli/Count$Tally;"⟩ : MethodName)) (z := (⟨"com/example/tailrace/tailrace/cli/Count", "add", "(Ljava/lang/Object;Lcom/example/tailrace/tailrace/cli/Count$Tally;)Lcom/example/tailrace/tailrace/cli/Count$Tally;"⟩ : MethodName)) hown (mvT hZ (hw _ (List.mem_of_getElem? (i := 28) rfl))) (mvT hZ (hw _ (List.mem_of_getElem? (i := 29) rfl))) (notFace_of_selects (args := #[]) (mvT hZ (hw _ (List.mem_of_getElem? (i := 31) rfl)))) (mvT hZ (hw _ (List.mem_of_getElem? (i := 31) rfl))) (mvT hZ (hw _ (List.mem_of_getElem? (i := 30) rfl))) (by decide) (backOf (W := 1) (radd0 l Z a0 hw [] b1 t3 (2 : Int64) T163.heap n0 Zs299 G163a G163b ge_t3) hZ (hw _ (List.mem_of_getElem? (i := 32) rfl)) (hw _ (List.mem_of_getElem? (i := 2) rfl)) (by decide) (by decide)) q178a q178c (g := (mkF m 137 #[.val (.int p1), .val (.int p2), .val (.int p3), .val (.int p4), .val (.ref b1), .val (.ref t3), .val (.ref t4), .val (.int v26_5), .val .null, .val (.ref x131), .val (.int (1 : Int32))] [(.ref t3), .null, (.ref b1), (.int (1 : Int32))])) rfl (by rw [hml]; rfl) (Steps.refl _) (argsL := [.null, (.ref t3)]) (rest := [(.int (1 : Int32))]) (lenOf pd_5 rfl) rfl (by show 2 * 0 + _ ≤ _; exact Nat.le_of_eq rfl) (hb hby at_137) (fun _ _ => ⟨rfl, rfl, (by decide : 4 + 0 ≤ _), (by decide : 3 + 0 ≤ _)⟩)
            dsimp only [Pt.U, Pt.locs, Pt.cells, Pt.slots] at X178 l178 y178 z178 st178 hQ178
            subst l178 y178 z178
            obtain ⟨rfl, N178q, K178q, G178a, G178b⟩ := hQ178
            have N178 := Fr.app N163 N178q
            have O_322 := O_294.keep K178q (allS ge_t3 all0)
            have f323 := f295.keep K178q
            have f324 := G163a.keep K178q
            have f325 := f297.keep K178q
            have f326 := f298.keep K178q (ninS (Ne.symm ne_t3_t4) nin0)
            have Zs327 := Nat.le_trans Zs299 K178q.1
            rw [show ((2 : Int64) + (1 : Int64)) = (3 : Int64) from by decide] at G178b
            refine Go.on (B := T178.setTop (mkF m 140 #[.val (.int p1), .val (.int p2), .val (.int p3), .val (.int p4), .val (.ref b1), .val (.ref t3), .val (.ref t4), .val (.int v26_5), .val .null, .val (.ref x131), .val (.int (1 : Int32))] [(.ref t3), (.int (1 : Int32))])) (fun t k => st178.trans k) ?_
            refine Go.on (B := T178.setTop (mkF m 142 #[.val (.int p1), .val (.int p2), .val (.int p3), .val (.int p4), .val (.ref b1), .val (.ref t3), .val (.ref t4), .val (.int v26_5), .val .null, .val (.ref x131), .val (.int (1 : Int32))] [(.ref t3), (.ref t3), (.int (1 : Int32))])) (fun t k => XS.aload X178.here hx rfl (hb hby at_140) rfl rfl k) ?_
            refine Go.on (B := T178.setTop (mkF m 145 #[.val (.int p1), .val (.int p2), .val (.int p3), .val (.int p4), .val (.ref b1), .val (.ref t3), .val (.ref t4), .val (.int v26_5), .val .null, .val (.ref x131), .val (.int (1 : Int32))] [(.int (1 : Int32))])) (fun t k => Jvm.RoadKit.acmp (g := (mkF m 142 #[.val (.int p1), .val (.int p2), .val (.int p3), .val (.int p4), .val (.ref b1), .val (.ref t3), .val (.ref t4), .val (.int v26_5), .val .null, .val (.ref x131), .val (.int (1 : Int32))] [(.ref t3), (.ref t3), (.int (1 : Int32))])) X178 hx rfl rfl rfl (pc0 := 142) (pc' := 145) (same := true) rfl (hb hby at_142) rfl (decide_eq_true rfl) (by decide) (by decide) k) ?_
            refine Go.on (B := T178.setTop (mkF m 146 #[.val (.int p1), .val (.int p2), .val (.int p3), .val (.int p4), .val (.ref b1), .val (.ref t3), .val (.ref t4), .val (.int v26_5), .val .null, .val (.ref x131), .val (.int (1 : Int32))] [(.int (1 : Int32)), (.int (1 : Int32))])) (fun t k => XS.iconst X178.here hx rfl (hb hby at_145) k) ?_
            refine Go.on (B := T178.setTop (mkF m 150 #[.val (.int p1), .val (.int p2), .val (.int p3), .val (.int p4), .val (.ref b1), .val (.ref t3), .val (.ref t4), .val (.int v26_5), .val .null, .val (.ref x131), .val (.int (1 : Int32))] [(.int (1 : Int32)), (.int (1 : Int32))])) (fun t k => XS.goto X178.here hx rfl (pc0 := 146) (pc' := 150) rfl (hb hby at_146) (by decide) (by decide) k) ?_
            refine Go.on (B := T178.setTop (mkF m 151 #[.val (.int p1), .val (.int p2), .val (.int p3), .val (.int p4), .val (.ref b1), .val (.ref t3), .val (.ref t4), .val (.int v26_5), .val .null, .val (.ref x131), .val (.int (1 : Int32))] [(.int ((1 : Int32) &&& (1 : Int32)))])) (fun t k => XS.iand X178.here hx rfl (hb hby at_150) rfl k) ?_
            rw [show ((1 : Int32) &&& (1 : Int32)) = (1 : Int32) from by decide]
            refine Go.on (B := T178.setTop (mkF m 153 #[.val (.int p1), .val (.int p2), .val (.int p3), .val (.int p4), .val (.ref b1), .val (.ref t3), .val (.ref t4), .val (.int v26_5), .val .null, .val (.ref x131), .val (.int (1 : Int32))] [])) (fun t k => XS.istore X178.here hx rfl (hb hby at_151) rfl (l' := #[.val (.int p1), .val (.int p2), .val (.int p3), .val (.int p4), .val (.ref b1), .val (.ref t3), .val (.ref t4), .val (.int v26_5), .val .null, .val (.ref x131), .val (.int (1 : Int32))]) rfl k) ?_
            refine Go.on (B := T178.setTop (mkF m 155 #[.val (.int p1), .val (.int p2), .val (.int p3), .val (.int p4), .val (.ref b1), .val (.ref t3), .val (.ref t4), .val (.int v26_5), .val .null, .val (.ref x131), .val (.int (1 : Int32))] [(.int (1 : Int32))])) (fun t k => XS.iload X178.here hx rfl (hb hby at_153) rfl k) ?_
            refine Go.on (B := T178.setTop (mkF m 157 #[.val (.int p1), .val (.int p2), .val (.int p3), .val (.int p4), .val (.ref b1), .val (.ref t3), .val (.ref t4), .val (.int v26_5), .val .null, .val (.ref x131), .val (.int (1 : Int32))] [(.ref b1), (.int (1 : Int32))])) (fun t k => XS.aload X178.here hx rfl (hb hby at_155) rfl rfl k) ?_
            refine Go.on (B := T178.setTop (mkF m 159 #[.val (.int p1), .val (.int p2), .val (.int p3), .val (.int p4), .val (.ref b1), .val (.ref t3), .val (.ref t4), .val (.int v26_5), .val .null, .val (.ref x131), .val (.int (1 : Int32))] [(.ref x131), (.ref b1), (.int (1 : Int32))])) (fun t k => XS.aload X178.here hx rfl (hb hby at_157) rfl rfl k) ?_
            refine Go.on (B := T178.setTop (mkF m 161 #[.val (.int p1), .val (.int p2), .val (.int p3), .val (.int p4), .val (.ref b1), .val (.ref t3), .val (.ref t4), .val (.int v26_5), .val .null, .val (.ref x131), .val (.int (1 : Int32))] [(.ref t4), (.ref x131), (.ref b1), (.int (1 : Int32))])) (fun t k => XS.aload X178.here hx rfl (hb hby at_159) rfl rfl k) ?_
            obtain ⟨cq181, kq181, q181a, q181b, q181c⟩ := isOf hZ rfl f323
            obtain ⟨_, _, ⟨T181, L181, k181, n181⟩, -, X181, ⟨Lc181, hQ181, l181, y181, z181⟩, st181⟩ := X178.virtualBack hx (y := (⟨"com/example/tailrace/tailrace/cli/Count", "add", "(Ljava/lang/Object;Lcom/example/tailrace/tailrace/cli/Count$Tally;)Lcom/example/tailrace/tailrace/cli/Count$Tally;"⟩ : MethodName)) (z := (⟨"com/example/tailrace/tailrace/cli/Count", "add", "(Ljava/lang/Object;Lcom/example/tailrace/tailrace/cli/Count$Tally;)Lcom/example/tailrace/tailrace/cli/Count$Tally;"⟩ : MethodName)) hown (mvT hZ (hw _ (List.mem_of_getElem? (i := 28) rfl))) (mvT hZ (hw _ (List.mem_of_getElem? (i := 29) rfl))) (notFace_of_selects (args := #[]) (mvT hZ (hw _ (List.mem_of_getElem? (i := 31) rfl)))) (mvT hZ (hw _ (List.mem_of_getElem? (i := 31) rfl))) (mvT hZ (hw _ (List.mem_of_getElem? (i := 30) rfl))) (by decide) (backOf (W := 1) (radd1 l Z a0 hw [] b1 x131 t4 (0 : Int64) T178.heap n0 Zs327 f325 f326 ge_t4) hZ (hw _ (List.mem_of_getElem? (i := 32) rfl)) (hw _ (List.mem_of_getElem? (i := 2) rfl)) (by decide) (by decide)) q181a q181c (g := (mkF m 161 #[.val (.int p1), .val (.int p2), .val (.int p3), .val (.int p4), .val (.ref b1), .val (.ref t3), .val (.ref t4), .val (.int v26_5), .val .null, .val (.ref x131), .val (.int (1 : Int32))] [(.ref t4), (.ref x131), (.ref b1), (.int (1 : Int32))])) rfl (by rw [hml]; rfl) (Steps.refl _) (argsL := [(.ref x131), (.ref t4)]) (rest := [(.int (1 : Int32))]) (lenOf pd_5 rfl) rfl (by show 2 * 0 + _ ≤ _; exact Nat.le_of_eq rfl) (hb hby at_161) (fun _ _ => ⟨rfl, rfl, (by decide : 4 + 0 ≤ _), (by decide : 3 + 0 ≤ _)⟩)
            dsimp only [Pt.U, Pt.locs, Pt.cells, Pt.slots] at X181 l181 y181 z181 st181 hQ181
            subst l181 y181 z181
            obtain ⟨rfl, N181q, K181q, G181a, G181b⟩ := hQ181
            have N181 := Fr.app N178 N181q
            have O_328 := O_322.keep K181q (allS ge_t4 all0)
            have f329 := f323.keep K181q
            have f330 := G178a.keep K181q
            have f331 := f325.keep K181q
            have f332 := G178b.keep K181q (ninS ne_t3_t4 nin0)
            have Zs333 := Nat.le_trans Zs327 K181q.1
            rw [show ((0 : Int64) + (1 : Int64)) = (1 : Int64) from by decide] at G181b
            refine Go.on (B := T181.setTop (mkF m 164 #[.val (.int p1), .val (.int p2), .val (.int p3), .val (.int p4), .val (.ref b1), .val (.ref t3), .val (.ref t4), .val (.int v26_5), .val .null, .val (.ref x131), .val (.int (1 : Int32))] [(.ref t4), (.int (1 : Int32))])) (fun t k => st181.trans k) ?_
            refine Go.on (B := T181.setTop (mkF m 166 #[.val (.int p1), .val (.int p2), .val (.int p3), .val (.int p4), .val (.ref b1), .val (.ref t3), .val (.ref t4), .val (.int v26_5), .val .null, .val (.ref x131), .val (.int (1 : Int32))] [(.ref t4), (.ref t4), (.int (1 : Int32))])) (fun t k => XS.aload X181.here hx rfl (hb hby at_164) rfl rfl k) ?_
            refine Go.on (B := T181.setTop (mkF m 169 #[.val (.int p1), .val (.int p2), .val (.int p3), .val (.int p4), .val (.ref b1), .val (.ref t3), .val (.ref t4), .val (.int v26_5), .val .null, .val (.ref x131), .val (.int (1 : Int32))] [(.int (1 : Int32))])) (fun t k => Jvm.RoadKit.acmp (g := (mkF m 166 #[.val (.int p1), .val (.int p2), .val (.int p3), .val (.int p4), .val (.ref b1), .val (.ref t3), .val (.ref t4), .val (.int v26_5), .val .null, .val (.ref x131), .val (.int (1 : Int32))] [(.ref t4), (.ref t4), (.int (1 : Int32))])) X181 hx rfl rfl rfl (pc0 := 166) (pc' := 169) (same := true) rfl (hb hby at_166) rfl (decide_eq_true rfl) (by decide) (by decide) k) ?_
            refine Go.on (B := T181.setTop (mkF m 170 #[.val (.int p1), .val (.int p2), .val (.int p3), .val (.int p4), .val (.ref b1), .val (.ref t3), .val (.ref t4), .val (.int v26_5), .val .null, .val (.ref x131), .val (.int (1 : Int32))] [(.int (1 : Int32)), (.int (1 : Int32))])) (fun t k => XS.iconst X181.here hx rfl (hb hby at_169) k) ?_
            refine Go.on (B := T181.setTop (mkF m 174 #[.val (.int p1), .val (.int p2), .val (.int p3), .val (.int p4), .val (.ref b1), .val (.ref t3), .val (.ref t4), .val (.int v26_5), .val .null, .val (.ref x131), .val (.int (1 : Int32))] [(.int (1 : Int32)), (.int (1 : Int32))])) (fun t k => XS.goto X181.here hx rfl (pc0 := 170) (pc' := 174) rfl (hb hby at_170) (by decide) (by decide) k) ?_
            refine Go.on (B := T181.setTop (mkF m 175 #[.val (.int p1), .val (.int p2), .val (.int p3), .val (.int p4), .val (.ref b1), .val (.ref t3), .val (.ref t4), .val (.int v26_5), .val .null, .val (.ref x131), .val (.int (1 : Int32))] [(.int ((1 : Int32) &&& (1 : Int32)))])) (fun t k => XS.iand X181.here hx rfl (hb hby at_174) rfl k) ?_
            rw [show ((1 : Int32) &&& (1 : Int32)) = (1 : Int32) from by decide]
            refine Go.on (B := T181.setTop (mkF m 177 #[.val (.int p1), .val (.int p2), .val (.int p3), .val (.int p4), .val (.ref b1), .val (.ref t3), .val (.ref t4), .val (.int v26_5), .val .null, .val (.ref x131), .val (.int (1 : Int32))] [])) (fun t k => XS.istore X181.here hx rfl (hb hby at_175) rfl (l' := #[.val (.int p1), .val (.int p2), .val (.int p3), .val (.int p4), .val (.ref b1), .val (.ref t3), .val (.ref t4), .val (.int v26_5), .val .null, .val (.ref x131), .val (.int (1 : Int32))]) rfl k) ?_
            refine Go.on (B := T181.setTop (mkF m 179 #[.val (.int p1), .val (.int p2), .val (.int p3), .val (.int p4), .val (.ref b1), .val (.ref t3), .val (.ref t4), .val (.int v26_5), .val .null, .val (.ref x131), .val (.int (1 : Int32))] [(.int (1 : Int32))])) (fun t k => XS.iload X181.here hx rfl (hb hby at_177) rfl k) ?_
            refine Go.on (B := T181.setTop (mkF m 181 #[.val (.int p1), .val (.int p2), .val (.int p3), .val (.int p4), .val (.ref b1), .val (.ref t3), .val (.ref t4), .val (.int v26_5), .val .null, .val (.ref x131), .val (.int (1 : Int32))] [(.ref b1), (.int (1 : Int32))])) (fun t k => XS.aload X181.here hx rfl (hb hby at_179) rfl rfl k) ?_
            refine Go.on (B := T181.setTop (mkF m 183 #[.val (.int p1), .val (.int p2), .val (.int p3), .val (.int p4), .val (.ref b1), .val (.ref t3), .val (.ref t4), .val (.int v26_5), .val .null, .val (.ref x131), .val (.int (1 : Int32))] [(.ref t3), (.ref b1), (.int (1 : Int32))])) (fun t k => XS.aload X181.here hx rfl (hb hby at_181) rfl rfl k) ?_
            obtain ⟨cq184, kq184, q184a, q184b, q184c⟩ := isOf hZ rfl f329
            obtain ⟨_, _, ⟨T184, L184, k184, n184⟩, -, X184, ⟨Lc184, hQ184, l184, y184, z184⟩, st184⟩ := X181.virtualBack hx (y := (⟨"com/example/tailrace/tailrace/cli/Count", "getResult", "(Lcom/example/tailrace/tailrace/cli/Count$Tally;)Ljava/lang/Long;"⟩ : MethodName)) (z := (⟨"com/example/tailrace/tailrace/cli/Count", "getResult", "(Lcom/example/tailrace/tailrace/cli/Count$Tally;)Ljava/lang/Long;"⟩ : MethodName)) hown (mvT hZ (hw _ (List.mem_of_getElem? (i := 35) rfl))) (mvT hZ (hw _ (List.mem_of_getElem? (i := 36) rfl))) (notFace_of_selects (args := #[]) (mvT hZ (hw _ (List.mem_of_getElem? (i := 38) rfl)))) (mvT hZ (hw _ (List.mem_of_getElem? (i := 38) rfl))) (mvT hZ (hw _ (List.mem_of_getElem? (i := 37) rfl))) (by decide) (backOf (W := 1) (rgr l Z a0 hw [] b1 t3 (3 : Int64) ca cc T181.heap n0 Zs333 f332 O_328 S_cache B_cache (by decide) (by decide)) hZ (hw _ (List.mem_of_getElem? (i := 39) rfl)) (hw _ (List.mem_of_getElem? (i := 2) rfl)) (by decide) (by decide)) q184a q184c (g := (mkF m 183 #[.val (.int p1), .val (.int p2), .val (.int p3), .val (.int p4), .val (.ref b1), .val (.ref t3), .val (.ref t4), .val (.int v26_5), .val .null, .val (.ref x131), .val (.int (1 : Int32))] [(.ref t3), (.ref b1), (.int (1 : Int32))])) rfl (by rw [hml]; rfl) (Steps.refl _) (argsL := [(.ref t3)]) (rest := [(.int (1 : Int32))]) (lenOf pd_6 rfl) rfl (by show 2 * 0 + _ ≤ _; exact Nat.le_of_eq rfl) (hb hby at_183) (fun _ _ => ⟨rfl, rfl, (by decide : 4 + 0 ≤ _), (by decide : 3 + 0 ≤ _)⟩)
            dsimp only [Pt.U, Pt.locs, Pt.cells, Pt.slots] at X184 l184 y184 z184 st184 hQ184
            subst l184 y184 z184
            obtain ⟨⟨x184, rfl, G184a, G184b⟩, N184q, K184q⟩ := hQ184
            have N184 := Fr.app N181 N184q
            have O_334 := O_328.keep K184q all0
            have f335 := f329.keep K184q
            have f336 := f330.keep K184q
            have f337 := G181a.keep K184q
            have f338 := f332.keep K184q nin0
            have f339 := G181b.keep K184q nin0
            have Zs340 := Nat.le_trans Zs333 K184q.1
            refine Go.on (B := T184.setTop (mkF m 186 #[.val (.int p1), .val (.int p2), .val (.int p3), .val (.int p4), .val (.ref b1), .val (.ref t3), .val (.ref t4), .val (.int v26_5), .val .null, .val (.ref x131), .val (.int (1 : Int32))] [(.ref x184), (.int (1 : Int32))])) (fun t k => st184.trans k) ?_
            obtain ⟨cq185, kq185, q185a, q185b, q185c⟩ := isOf hZ rfl G184a
            obtain ⟨_, _, ⟨T185, L185, k185, n185⟩, -, X185, ⟨Lc185, hQ185, l185, y185, z185⟩, st185⟩ := X184.virtualBack hx (y := (⟨"java/lang/Long", "longValue", "()J"⟩ : MethodName)) (z := (⟨"java/lang/Long", "longValue", "()J"⟩ : MethodName)) hown (mvT hZ (hw _ (List.mem_of_getElem? (i := 48) rfl))) (mvT hZ (hw _ (List.mem_of_getElem? (i := 49) rfl))) (notFace_of_selects (args := #[]) (mvT hZ (hw _ (List.mem_of_getElem? (i := 51) rfl)))) (mvT hZ (hw _ (List.mem_of_getElem? (i := 51) rfl))) (mvT hZ (hw _ (List.mem_of_getElem? (i := 50) rfl))) (by decide) (backOf (W := 1) (rval l Z a0 hw [] x184 (3 : Int64) T184.heap n0 Zs340 G184b) hZ (hw _ (List.mem_of_getElem? (i := 52) rfl)) (hw _ (List.mem_of_getElem? (i := 42) rfl)) (by decide) (by decide)) q185a q185c (g := (mkF m 186 #[.val (.int p1), .val (.int p2), .val (.int p3), .val (.int p4), .val (.ref b1), .val (.ref t3), .val (.ref t4), .val (.int v26_5), .val .null, .val (.ref x131), .val (.int (1 : Int32))] [(.ref x184), (.int (1 : Int32))])) rfl (by rw [hml]; rfl) (Steps.refl _) (argsL := []) (rest := [(.int (1 : Int32))]) (lenOf pd_7 rfl) rfl (by show 2 * 0 + _ ≤ _; exact Nat.le_of_eq rfl) (hb hby at_186) (fun _ _ => ⟨rfl, rfl, (by decide : 4 + 0 ≤ _), (by decide : 3 + 0 ≤ _)⟩)
            dsimp only [Pt.U, Pt.locs, Pt.cells, Pt.slots] at X185 l185 y185 z185 st185 hQ185
            subst l185 y185 z185
            obtain ⟨rfl, N185q, e185q⟩ := hQ185
            have N185 := Fr.app N184 N185q
            refine Go.on (B := T185.setTop (mkF m 189 #[.val (.int p1), .val (.int p2), .val (.int p3), .val (.int p4), .val (.ref b1), .val (.ref t3), .val (.ref t4), .val (.int v26_5), .val .null, .val (.ref x131), .val (.int (1 : Int32))] [(.long (3 : Int64)), (.int (1 : Int32))])) (fun t k => st185.trans k) ?_
            refine Go.on (B := T185.setTop (mkF m 191 #[.val (.int p1), .val (.int p2), .val (.int p3), .val (.int p4), .val (.ref b1), .val (.ref t3), .val (.ref t4), .val (.int v26_5), .val .null, .val (.ref x131), .val (.int (1 : Int32))] [(.int v26_5), (.long (3 : Int64)), (.int (1 : Int32))])) (fun t k => XS.iload X185.here hx rfl (hb hby at_189) rfl k) ?_
            refine Go.on (B := T185.setTop (mkF m 192 #[.val (.int p1), .val (.int p2), .val (.int p3), .val (.int p4), .val (.ref b1), .val (.ref t3), .val (.ref t4), .val (.int v26_5), .val .null, .val (.ref x131), .val (.int (1 : Int32))] [(.long (v26_5.toInt64)), (.long (3 : Int64)), (.int (1 : Int32))])) (fun t k => XS.i2l X185.here hx rfl (hb hby at_191) rfl k) ?_
            refine Go.on (B := T185.setTop (mkF m 193 #[.val (.int p1), .val (.int p2), .val (.int p3), .val (.int p4), .val (.ref b1), .val (.ref t3), .val (.ref t4), .val (.int v26_5), .val .null, .val (.ref x131), .val (.int (1 : Int32))] [(.int (lcmpW (3 : Int64) (v26_5.toInt64))), (.int (1 : Int32))])) (fun t k => XS.lcmp X185.here hx rfl (hb hby at_192) rfl k) ?_
            have hc193_186 : (3 : Int64) = (v26_5.toInt64) := by
              have q := own_n3 _ _ hv26_5
              have u0 := hc66_133
              rw [Int32.lt_iff_toInt_lt, show (1 : Int32).toInt = 1 from by decide] at u0
              have u1 := hc96_150
              rw [Int32.lt_iff_toInt_lt, show (2 : Int32).toInt = 2 from by decide] at u1
              have u2 := hc126_166
              rw [Int32.lt_iff_toInt_lt, show (3 : Int32).toInt = 3 from by decide] at u2
              exact own_is 3 (by omega) (by decide)
            refine Go.on (B := T185.setTop (mkF m 196 #[.val (.int p1), .val (.int p2), .val (.int p3), .val (.int p4), .val (.ref b1), .val (.ref t3), .val (.ref t4), .val (.int v26_5), .val .null, .val (.ref x131), .val (.int (1 : Int32))] [(.int (1 : Int32))])) (fun t k => XS.ifNo X185.here hx rfl (hb hby at_193) rfl ((if0 _ _).trans (teq ((lw_eq _ _).mpr hc193_186)).2) k) ?_
            refine Go.on (B := T185.setTop (mkF m 197 #[.val (.int p1), .val (.int p2), .val (.int p3), .val (.int p4), .val (.ref b1), .val (.ref t3), .val (.ref t4), .val (.int v26_5), .val .null, .val (.ref x131), .val (.int (1 : Int32))] [(.int (1 : Int32)), (.int (1 : Int32))])) (fun t k => XS.iconst X185.here hx rfl (hb hby at_196) k) ?_
            refine Go.on (B := T185.setTop (mkF m 201 #[.val (.int p1), .val (.int p2), .val (.int p3), .val (.int p4), .val (.ref b1), .val (.ref t3), .val (.ref t4), .val (.int v26_5), .val .null, .val (.ref x131), .val (.int (1 : Int32))] [(.int (1 : Int32)), (.int (1 : Int32))])) (fun t k => XS.goto X185.here hx rfl (pc0 := 197) (pc' := 201) rfl (hb hby at_197) (by decide) (by decide) k) ?_
            refine Go.on (B := T185.setTop (mkF m 202 #[.val (.int p1), .val (.int p2), .val (.int p3), .val (.int p4), .val (.ref b1), .val (.ref t3), .val (.ref t4), .val (.int v26_5), .val .null, .val (.ref x131), .val (.int (1 : Int32))] [(.int ((1 : Int32) &&& (1 : Int32)))])) (fun t k => XS.iand X185.here hx rfl (hb hby at_201) rfl k) ?_
            rw [show ((1 : Int32) &&& (1 : Int32)) = (1 : Int32) from by decide]
            refine Go.on (B := T185.setTop (mkF m 204 #[.val (.int p1), .val (.int p2), .val (.int p3), .val (.int p4), .val (.ref b1), .val (.ref t3), .val (.ref t4), .val (.int v26_5), .val .null, .val (.ref x131), .val (.int (1 : Int32))] [])) (fun t k => XS.istore X185.here hx rfl (hb hby at_202) rfl (l' := #[.val (.int p1), .val (.int p2), .val (.int p3), .val (.int p4), .val (.ref b1), .val (.ref t3), .val (.ref t4), .val (.int v26_5), .val .null, .val (.ref x131), .val (.int (1 : Int32))]) rfl k) ?_
            refine Go.on (B := T185.setTop (mkF m 206 #[.val (.int p1), .val (.int p2), .val (.int p3), .val (.int p4), .val (.ref b1), .val (.ref t3), .val (.ref t4), .val (.int v26_5), .val .null, .val (.ref x131), .val (.int (1 : Int32))] [(.int (1 : Int32))])) (fun t k => XS.iload X185.here hx rfl (hb hby at_204) rfl k) ?_
            refine Go.on (B := T185.setTop (mkF m 208 #[.val (.int p1), .val (.int p2), .val (.int p3), .val (.int p4), .val (.ref b1), .val (.ref t3), .val (.ref t4), .val (.int v26_5), .val .null, .val (.ref x131), .val (.int (1 : Int32))] [(.ref b1), (.int (1 : Int32))])) (fun t k => XS.aload X185.here hx rfl (hb hby at_206) rfl rfl k) ?_
            refine Go.on (B := T185.setTop (mkF m 210 #[.val (.int p1), .val (.int p2), .val (.int p3), .val (.int p4), .val (.ref b1), .val (.ref t3), .val (.ref t4), .val (.int v26_5), .val .null, .val (.ref x131), .val (.int (1 : Int32))] [(.ref t4), (.ref b1), (.int (1 : Int32))])) (fun t k => XS.aload X185.here hx rfl (hb hby at_208) rfl rfl k) ?_
            obtain ⟨cq188, kq188, q188a, q188b, q188c⟩ := isOf hZ e185q f335
            obtain ⟨_, _, ⟨T188, L188, k188, n188⟩, -, X188, ⟨Lc188, hQ188, l188, y188, z188⟩, st188⟩ := X185.virtualBack hx (y := (⟨"com/example/tailrace/tailrace/cli/Count", "getResult", "(Lcom/example/tailrace/tailrace/cli/Count$Tally;)Ljava/lang/Long;"⟩ : MethodName)) (z := (⟨"com/example/tailrace/tailrace/cli/Count", "getResult", "(Lcom/example/tailrace/tailrace/cli/Count$Tally;)Ljava/lang/Long;"⟩ : MethodName)) hown (mvT hZ (hw _ (List.mem_of_getElem? (i := 35) rfl))) (mvT hZ (hw _ (List.mem_of_getElem? (i := 36) rfl))) (notFace_of_selects (args := #[]) (mvT hZ (hw _ (List.mem_of_getElem? (i := 38) rfl)))) (mvT hZ (hw _ (List.mem_of_getElem? (i := 38) rfl))) (mvT hZ (hw _ (List.mem_of_getElem? (i := 37) rfl))) (by decide) (backOf (W := 1) (rgr l Z a0 hw [] b1 t4 (1 : Int64) ca cc T184.heap n0 Zs340 f339 O_334 S_cache B_cache (by decide) (by decide)) hZ (hw _ (List.mem_of_getElem? (i := 39) rfl)) (hw _ (List.mem_of_getElem? (i := 2) rfl)) (by decide) (by decide)) q188a q188c (g := (mkF m 210 #[.val (.int p1), .val (.int p2), .val (.int p3), .val (.int p4), .val (.ref b1), .val (.ref t3), .val (.ref t4), .val (.int v26_5), .val .null, .val (.ref x131), .val (.int (1 : Int32))] [(.ref t4), (.ref b1), (.int (1 : Int32))])) rfl (by rw [hml]; rfl) (Steps.refl _) (argsL := [(.ref t4)]) (rest := [(.int (1 : Int32))]) (lenOf pd_6 rfl) rfl (by show 2 * 0 + _ ≤ _; exact Nat.le_of_eq rfl) (hb hby at_210) (fun _ _ => ⟨rfl, e185q, (by decide : 4 + 0 ≤ _), (by decide : 3 + 0 ≤ _)⟩)
            dsimp only [Pt.U, Pt.locs, Pt.cells, Pt.slots] at X188 l188 y188 z188 st188 hQ188
            subst l188 y188 z188
            obtain ⟨⟨x188, rfl, G188a, G188b⟩, N188q, K188q⟩ := hQ188
            have N188 := Fr.app N185 N188q
            have O_341 := O_334.keep K188q all0
            have f342 := f335.keep K188q
            have f343 := f336.keep K188q
            have f344 := f337.keep K188q
            have f345 := f338.keep K188q nin0
            have f346 := f339.keep K188q nin0
            have f347 := G184a.keep K188q
            have f348 := G184b.keep K188q nin0
            have Zs349 := Nat.le_trans Zs340 K188q.1
            refine Go.on (B := T188.setTop (mkF m 213 #[.val (.int p1), .val (.int p2), .val (.int p3), .val (.int p4), .val (.ref b1), .val (.ref t3), .val (.ref t4), .val (.int v26_5), .val .null, .val (.ref x131), .val (.int (1 : Int32))] [(.ref x188), (.int (1 : Int32))])) (fun t k => st188.trans k) ?_
            obtain ⟨cq189, kq189, q189a, q189b, q189c⟩ := isOf hZ rfl G188a
            obtain ⟨_, _, ⟨T189, L189, k189, n189⟩, -, X189, ⟨Lc189, hQ189, l189, y189, z189⟩, st189⟩ := X188.virtualBack hx (y := (⟨"java/lang/Long", "longValue", "()J"⟩ : MethodName)) (z := (⟨"java/lang/Long", "longValue", "()J"⟩ : MethodName)) hown (mvT hZ (hw _ (List.mem_of_getElem? (i := 48) rfl))) (mvT hZ (hw _ (List.mem_of_getElem? (i := 49) rfl))) (notFace_of_selects (args := #[]) (mvT hZ (hw _ (List.mem_of_getElem? (i := 51) rfl)))) (mvT hZ (hw _ (List.mem_of_getElem? (i := 51) rfl))) (mvT hZ (hw _ (List.mem_of_getElem? (i := 50) rfl))) (by decide) (backOf (W := 1) (rval l Z a0 hw [] x188 (1 : Int64) T188.heap n0 Zs349 G188b) hZ (hw _ (List.mem_of_getElem? (i := 52) rfl)) (hw _ (List.mem_of_getElem? (i := 42) rfl)) (by decide) (by decide)) q189a q189c (g := (mkF m 213 #[.val (.int p1), .val (.int p2), .val (.int p3), .val (.int p4), .val (.ref b1), .val (.ref t3), .val (.ref t4), .val (.int v26_5), .val .null, .val (.ref x131), .val (.int (1 : Int32))] [(.ref x188), (.int (1 : Int32))])) rfl (by rw [hml]; rfl) (Steps.refl _) (argsL := []) (rest := [(.int (1 : Int32))]) (lenOf pd_7 rfl) rfl (by show 2 * 0 + _ ≤ _; exact Nat.le_of_eq rfl) (hb hby at_213) (fun _ _ => ⟨rfl, rfl, (by decide : 4 + 0 ≤ _), (by decide : 3 + 0 ≤ _)⟩)
            dsimp only [Pt.U, Pt.locs, Pt.cells, Pt.slots] at X189 l189 y189 z189 st189 hQ189
            subst l189 y189 z189
            obtain ⟨rfl, N189q, e189q⟩ := hQ189
            have N189 := Fr.app N188 N189q
            refine Go.on (B := T189.setTop (mkF m 216 #[.val (.int p1), .val (.int p2), .val (.int p3), .val (.int p4), .val (.ref b1), .val (.ref t3), .val (.ref t4), .val (.int v26_5), .val .null, .val (.ref x131), .val (.int (1 : Int32))] [(.long (1 : Int64)), (.int (1 : Int32))])) (fun t k => st189.trans k) ?_
            refine Go.on (B := T189.setTop (mkF m 217 #[.val (.int p1), .val (.int p2), .val (.int p3), .val (.int p4), .val (.ref b1), .val (.ref t3), .val (.ref t4), .val (.int v26_5), .val .null, .val (.ref x131), .val (.int (1 : Int32))] [(.long (1 : Int64)), (.long (1 : Int64)), (.int (1 : Int32))])) (fun t k => XS.lconst X189.here hx rfl (hb hby at_216) k) ?_
            refine Go.on (B := T189.setTop (mkF m 218 #[.val (.int p1), .val (.int p2), .val (.int p3), .val (.int p4), .val (.ref b1), .val (.ref t3), .val (.ref t4), .val (.int v26_5), .val .null, .val (.ref x131), .val (.int (1 : Int32))] [(.int (lcmpW (1 : Int64) (1 : Int64))), (.int (1 : Int32))])) (fun t k => XS.lcmp X189.here hx rfl (hb hby at_217) rfl k) ?_
            have hc218_190 : (1 : Int64) = (1 : Int64) := by decide
            refine Go.on (B := T189.setTop (mkF m 221 #[.val (.int p1), .val (.int p2), .val (.int p3), .val (.int p4), .val (.ref b1), .val (.ref t3), .val (.ref t4), .val (.int v26_5), .val .null, .val (.ref x131), .val (.int (1 : Int32))] [(.int (1 : Int32))])) (fun t k => XS.ifNo X189.here hx rfl (hb hby at_218) rfl ((if0 _ _).trans (teq ((lw_eq _ _).mpr hc218_190)).2) k) ?_
            refine Go.on (B := T189.setTop (mkF m 222 #[.val (.int p1), .val (.int p2), .val (.int p3), .val (.int p4), .val (.ref b1), .val (.ref t3), .val (.ref t4), .val (.int v26_5), .val .null, .val (.ref x131), .val (.int (1 : Int32))] [(.int (1 : Int32)), (.int (1 : Int32))])) (fun t k => XS.iconst X189.here hx rfl (hb hby at_221) k) ?_
            refine Go.on (B := T189.setTop (mkF m 226 #[.val (.int p1), .val (.int p2), .val (.int p3), .val (.int p4), .val (.ref b1), .val (.ref t3), .val (.ref t4), .val (.int v26_5), .val .null, .val (.ref x131), .val (.int (1 : Int32))] [(.int (1 : Int32)), (.int (1 : Int32))])) (fun t k => XS.goto X189.here hx rfl (pc0 := 222) (pc' := 226) rfl (hb hby at_222) (by decide) (by decide) k) ?_
            refine Go.on (B := T189.setTop (mkF m 227 #[.val (.int p1), .val (.int p2), .val (.int p3), .val (.int p4), .val (.ref b1), .val (.ref t3), .val (.ref t4), .val (.int v26_5), .val .null, .val (.ref x131), .val (.int (1 : Int32))] [(.int ((1 : Int32) &&& (1 : Int32)))])) (fun t k => XS.iand X189.here hx rfl (hb hby at_226) rfl k) ?_
            rw [show ((1 : Int32) &&& (1 : Int32)) = (1 : Int32) from by decide]
            refine Go.on (B := T189.setTop (mkF m 229 #[.val (.int p1), .val (.int p2), .val (.int p3), .val (.int p4), .val (.ref b1), .val (.ref t3), .val (.ref t4), .val (.int v26_5), .val .null, .val (.ref x131), .val (.int (1 : Int32))] [])) (fun t k => XS.istore X189.here hx rfl (hb hby at_227) rfl (l' := #[.val (.int p1), .val (.int p2), .val (.int p3), .val (.int p4), .val (.ref b1), .val (.ref t3), .val (.ref t4), .val (.int v26_5), .val .null, .val (.ref x131), .val (.int (1 : Int32))]) rfl k) ?_
            refine Go.on (B := T189.setTop (mkF m 231 #[.val (.int p1), .val (.int p2), .val (.int p3), .val (.int p4), .val (.ref b1), .val (.ref t3), .val (.ref t4), .val (.int v26_5), .val .null, .val (.ref x131), .val (.int (1 : Int32))] [(.int (1 : Int32))])) (fun t k => XS.iload X189.here hx rfl (hb hby at_229) rfl k) ?_
            obtain ⟨fs, hr, hrun, hended, hW, hsame⟩ := X189.leave (v := some (.int (1 : Int32))) (fun h => by rw [Bd.returns] at h; cases h)
            refine ⟨_, _, ?_, hrun, hended, _, _, rfl, ?_, ⟨_, rfl⟩, hW, hsame.mono (by decide) (by decide)⟩
            · exact retN X189 hx (t := .boolean) Bd.returns (by simp) (hb hby at_231) hr
            · show Q_rm0 Z p1 p2 p3 p4 ca cc ica icc h0 n0 _ T189.heap _
              rw [e189q]
              exact ⟨rfl, N189⟩
    · refine Go.on (B := T4.setTop (mkF m 50 #[.val (.int p1), .val (.int p2), .val (.int p3), .val (.int p4), .val (.ref b1), .val (.ref t3), .val (.ref t4), .val (.int v26_5), .val .null, .unset, .unset] [])) (fun t k => XS.ifNo X4.here hx rfl (hb hby at_47) rfl ((if0 _ _).trans (feq hc47_130).1) k) ?_
      refine Go.on (B := T4.setTop (mkF m 51 #[.val (.int p1), .val (.int p2), .val (.int p3), .val (.int p4), .val (.ref b1), .val (.ref t3), .val (.ref t4), .val (.int v26_5), .val .null, .unset, .unset] [.null])) (fun t k => XS.aconstNull X4.here hx rfl (hb hby at_50) k) ?_
      refine Go.on (B := T4.setTop (mkF m 58 #[.val (.int p1), .val (.int p2), .val (.int p3), .val (.int p4), .val (.ref b1), .val (.ref t3), .val (.ref t4), .val (.int v26_5), .val .null, .unset, .unset] [.null])) (fun t k => XS.goto X4.here hx rfl (pc0 := 51) (pc' := 58) rfl (hb hby at_51) (by decide) (by decide) k) ?_
      refine Go.on (B := T4.setTop (mkF m 60 #[.val (.int p1), .val (.int p2), .val (.int p3), .val (.int p4), .val (.ref b1), .val (.ref t3), .val (.ref t4), .val (.int v26_5), .val .null, .val .null, .unset] [])) (fun t k => XS.astore X4.here hx rfl (hb hby at_58) rfl rfl (l' := #[.val (.int p1), .val (.int p2), .val (.int p3), .val (.int p4), .val (.ref b1), .val (.ref t3), .val (.ref t4), .val (.int v26_5), .val .null, .val .null, .unset]) rfl k) ?_
      refine Go.on (B := T4.setTop (mkF m 61 #[.val (.int p1), .val (.int p2), .val (.int p3), .val (.int p4), .val (.ref b1), .val (.ref t3), .val (.ref t4), .val (.int v26_5), .val .null, .val .null, .unset] [(.int (1 : Int32))])) (fun t k => XS.iconst X4.here hx rfl (hb hby at_60) k) ?_
      refine Go.on (B := T4.setTop (mkF m 63 #[.val (.int p1), .val (.int p2), .val (.int p3), .val (.int p4), .val (.ref b1), .val (.ref t3), .val (.ref t4), .val (.int v26_5), .val .null, .val .null, .val (.int (1 : Int32))] [])) (fun t k => XS.istore X4.here hx rfl (hb hby at_61) rfl (l' := #[.val (.int p1), .val (.int p2), .val (.int p3), .val (.int p4), .val (.ref b1), .val (.ref t3), .val (.ref t4), .val (.int v26_5), .val .null, .val .null, .val (.int (1 : Int32))]) rfl k) ?_
      refine Go.on (B := T4.setTop (mkF m 65 #[.val (.int p1), .val (.int p2), .val (.int p3), .val (.int p4), .val (.ref b1), .val (.ref t3), .val (.ref t4), .val (.int v26_5), .val .null, .val .null, .val (.int (1 : Int32))] [(.int v26_5)])) (fun t k => XS.iload X4.here hx rfl (hb hby at_63) rfl k) ?_
      refine Go.on (B := T4.setTop (mkF m 66 #[.val (.int p1), .val (.int p2), .val (.int p3), .val (.int p4), .val (.ref b1), .val (.ref t3), .val (.ref t4), .val (.int v26_5), .val .null, .val .null, .val (.int (1 : Int32))] [(.int (1 : Int32)), (.int v26_5)])) (fun t k => XS.iconst X4.here hx rfl (hb hby at_65) k) ?_
      by_cases hc66_193 : v26_5 < (1 : Int32)
      · refine Go.on (B := T4.setTop (mkF m 93 #[.val (.int p1), .val (.int p2), .val (.int p3), .val (.int p4), .val (.ref b1), .val (.ref t3), .val (.ref t4), .val (.int v26_5), .val .null, .val .null, .val (.int (1 : Int32))] [])) (fun t k => XS.icmpYes X4.here hx rfl (pc0 := 66) (pc' := 93) rfl (hb hby at_66) rfl (tlt hc66_193).1 (by decide) (by decide) k) ?_
        refine Go.on (B := T4.setTop (mkF m 95 #[.val (.int p1), .val (.int p2), .val (.int p3), .val (.int p4), .val (.ref b1), .val (.ref t3), .val (.ref t4), .val (.int v26_5), .val .null, .val .null, .val (.int (1 : Int32))] [(.int v26_5)])) (fun t k => XS.iload X4.here hx rfl (hb hby at_93) rfl k) ?_
        refine Go.on (B := T4.setTop (mkF m 96 #[.val (.int p1), .val (.int p2), .val (.int p3), .val (.int p4), .val (.ref b1), .val (.ref t3), .val (.ref t4), .val (.int v26_5), .val .null, .val .null, .val (.int (1 : Int32))] [(.int (2 : Int32)), (.int v26_5)])) (fun t k => XS.iconst X4.here hx rfl (hb hby at_95) k) ?_
        have hc96_194 : v26_5 < (2 : Int32) := own_up2 hc66_193 (by decide)
        refine Go.on (B := T4.setTop (mkF m 123 #[.val (.int p1), .val (.int p2), .val (.int p3), .val (.int p4), .val (.ref b1), .val (.ref t3), .val (.ref t4), .val (.int v26_5), .val .null, .val .null, .val (.int (1 : Int32))] [])) (fun t k => XS.icmpYes X4.here hx rfl (pc0 := 96) (pc' := 123) rfl (hb hby at_96) rfl (tlt hc96_194).1 (by decide) (by decide) k) ?_
        refine Go.on (B := T4.setTop (mkF m 125 #[.val (.int p1), .val (.int p2), .val (.int p3), .val (.int p4), .val (.ref b1), .val (.ref t3), .val (.ref t4), .val (.int v26_5), .val .null, .val .null, .val (.int (1 : Int32))] [(.int v26_5)])) (fun t k => XS.iload X4.here hx rfl (hb hby at_123) rfl k) ?_
        refine Go.on (B := T4.setTop (mkF m 126 #[.val (.int p1), .val (.int p2), .val (.int p3), .val (.int p4), .val (.ref b1), .val (.ref t3), .val (.ref t4), .val (.int v26_5), .val .null, .val .null, .val (.int (1 : Int32))] [(.int (3 : Int32)), (.int v26_5)])) (fun t k => XS.iconst X4.here hx rfl (hb hby at_125) k) ?_
        have hc126_195 : v26_5 < (3 : Int32) := own_up2 hc96_194 (by decide)
        refine Go.on (B := T4.setTop (mkF m 153 #[.val (.int p1), .val (.int p2), .val (.int p3), .val (.int p4), .val (.ref b1), .val (.ref t3), .val (.ref t4), .val (.int v26_5), .val .null, .val .null, .val (.int (1 : Int32))] [])) (fun t k => XS.icmpYes X4.here hx rfl (pc0 := 126) (pc' := 153) rfl (hb hby at_126) rfl (tlt hc126_195).1 (by decide) (by decide) k) ?_
        refine Go.on (B := T4.setTop (mkF m 155 #[.val (.int p1), .val (.int p2), .val (.int p3), .val (.int p4), .val (.ref b1), .val (.ref t3), .val (.ref t4), .val (.int v26_5), .val .null, .val .null, .val (.int (1 : Int32))] [(.int (1 : Int32))])) (fun t k => XS.iload X4.here hx rfl (hb hby at_153) rfl k) ?_
        refine Go.on (B := T4.setTop (mkF m 157 #[.val (.int p1), .val (.int p2), .val (.int p3), .val (.int p4), .val (.ref b1), .val (.ref t3), .val (.ref t4), .val (.int v26_5), .val .null, .val .null, .val (.int (1 : Int32))] [(.ref b1), (.int (1 : Int32))])) (fun t k => XS.aload X4.here hx rfl (hb hby at_155) rfl rfl k) ?_
        refine Go.on (B := T4.setTop (mkF m 159 #[.val (.int p1), .val (.int p2), .val (.int p3), .val (.int p4), .val (.ref b1), .val (.ref t3), .val (.ref t4), .val (.int v26_5), .val .null, .val .null, .val (.int (1 : Int32))] [.null, (.ref b1), (.int (1 : Int32))])) (fun t k => XS.aload X4.here hx rfl (hb hby at_157) rfl rfl k) ?_
        refine Go.on (B := T4.setTop (mkF m 161 #[.val (.int p1), .val (.int p2), .val (.int p3), .val (.int p4), .val (.ref b1), .val (.ref t3), .val (.ref t4), .val (.int v26_5), .val .null, .val .null, .val (.int (1 : Int32))] [(.ref t4), .null, (.ref b1), (.int (1 : Int32))])) (fun t k => XS.aload X4.here hx rfl (hb hby at_159) rfl rfl k) ?_
        obtain ⟨cq196, kq196, q196a, q196b, q196c⟩ := isOf hZ rfl f7
        obtain ⟨_, _, ⟨T196, L196, k196, n196⟩, -, X196, ⟨Lc196, hQ196, l196, y196, z196⟩, st196⟩ := X4.virtualBack hx (y := (⟨"com/example/tailrace/tailrace/cli/Count", "add", "(Ljava/lang/Object;Lcom/example/tailrace/tailrace/cli/Count$Tally;)Lcom/example/tailrace/tailrace/cli/Count$Tally;"⟩ : MethodName)) (z := (⟨"com/example/tailrace/tailrace/cli/Count", "add", "(Ljava/lang/Object;Lcom/example/tailrace/tailrace/cli/Count$Tally;)Lcom/example/tailrace/tailrace/cli/Count$Tally;"⟩ : MethodName)) hown (mvT hZ (hw _ (List.mem_of_getElem? (i := 28) rfl))) (mvT hZ (hw _ (List.mem_of_getElem? (i := 29) rfl))) (notFace_of_selects (args := #[]) (mvT hZ (hw _ (List.mem_of_getElem? (i := 31) rfl)))) (mvT hZ (hw _ (List.mem_of_getElem? (i := 31) rfl))) (mvT hZ (hw _ (List.mem_of_getElem? (i := 30) rfl))) (by decide) (backOf (W := 1) (radd0 l Z a0 hw [] b1 t4 (0 : Int64) T4.heap n0 Zs10 G4a G4b ge_t4) hZ (hw _ (List.mem_of_getElem? (i := 32) rfl)) (hw _ (List.mem_of_getElem? (i := 2) rfl)) (by decide) (by decide)) q196a q196c (g := (mkF m 161 #[.val (.int p1), .val (.int p2), .val (.int p3), .val (.int p4), .val (.ref b1), .val (.ref t3), .val (.ref t4), .val (.int v26_5), .val .null, .val .null, .val (.int (1 : Int32))] [(.ref t4), .null, (.ref b1), (.int (1 : Int32))])) rfl (by rw [hml]; rfl) (Steps.refl _) (argsL := [.null, (.ref t4)]) (rest := [(.int (1 : Int32))]) (lenOf pd_5 rfl) rfl (by show 2 * 0 + _ ≤ _; exact Nat.le_of_eq rfl) (hb hby at_161) (fun _ _ => ⟨rfl, rfl, (by decide : 3 + 0 ≤ _), (by decide : 2 + 0 ≤ _)⟩)
        dsimp only [Pt.U, Pt.locs, Pt.cells, Pt.slots] at X196 l196 y196 z196 st196 hQ196
        subst l196 y196 z196
        obtain ⟨rfl, N196q, K196q, G196a, G196b⟩ := hQ196
        have N196 := Fr.app N4 N196q
        have O_350 := O_6.keep K196q (allS ge_t4 all0)
        have f351 := f7.keep K196q
        have f352 := f8.keep K196q
        have f353 := f9.keep K196q (ninS ne_t3_t4 nin0)
        have f354 := G4a.keep K196q
        have Zs355 := Nat.le_trans Zs10 K196q.1
        rw [show ((0 : Int64) + (1 : Int64)) = (1 : Int64) from by decide] at G196b
        refine Go.on (B := T196.setTop (mkF m 164 #[.val (.int p1), .val (.int p2), .val (.int p3), .val (.int p4), .val (.ref b1), .val (.ref t3), .val (.ref t4), .val (.int v26_5), .val .null, .val .null, .val (.int (1 : Int32))] [(.ref t4), (.int (1 : Int32))])) (fun t k => st196.trans k) ?_
        refine Go.on (B := T196.setTop (mkF m 166 #[.val (.int p1), .val (.int p2), .val (.int p3), .val (.int p4), .val (.ref b1), .val (.ref t3), .val (.ref t4), .val (.int v26_5), .val .null, .val .null, .val (.int (1 : Int32))] [(.ref t4), (.ref t4), (.int (1 : Int32))])) (fun t k => XS.aload X196.here hx rfl (hb hby at_164) rfl rfl k) ?_
        refine Go.on (B := T196.setTop (mkF m 169 #[.val (.int p1), .val (.int p2), .val (.int p3), .val (.int p4), .val (.ref b1), .val (.ref t3), .val (.ref t4), .val (.int v26_5), .val .null, .val .null, .val (.int (1 : Int32))] [(.int (1 : Int32))])) (fun t k => Jvm.RoadKit.acmp (g := (mkF m 166 #[.val (.int p1), .val (.int p2), .val (.int p3), .val (.int p4), .val (.ref b1), .val (.ref t3), .val (.ref t4), .val (.int v26_5), .val .null, .val .null, .val (.int (1 : Int32))] [(.ref t4), (.ref t4), (.int (1 : Int32))])) X196 hx rfl rfl rfl (pc0 := 166) (pc' := 169) (same := true) rfl (hb hby at_166) rfl (decide_eq_true rfl) (by decide) (by decide) k) ?_
        refine Go.on (B := T196.setTop (mkF m 170 #[.val (.int p1), .val (.int p2), .val (.int p3), .val (.int p4), .val (.ref b1), .val (.ref t3), .val (.ref t4), .val (.int v26_5), .val .null, .val .null, .val (.int (1 : Int32))] [(.int (1 : Int32)), (.int (1 : Int32))])) (fun t k => XS.iconst X196.here hx rfl (hb hby at_169) k) ?_
        refine Go.on (B := T196.setTop (mkF m 174 #[.val (.int p1), .val (.int p2), .val (.int p3), .val (.int p4), .val (.ref b1), .val (.ref t3), .val (.ref t4), .val (.int v26_5), .val .null, .val .null, .val (.int (1 : Int32))] [(.int (1 : Int32)), (.int (1 : Int32))])) (fun t k => XS.goto X196.here hx rfl (pc0 := 170) (pc' := 174) rfl (hb hby at_170) (by decide) (by decide) k) ?_
        refine Go.on (B := T196.setTop (mkF m 175 #[.val (.int p1), .val (.int p2), .val (.int p3), .val (.int p4), .val (.ref b1), .val (.ref t3), .val (.ref t4), .val (.int v26_5), .val .null, .val .null, .val (.int (1 : Int32))] [(.int ((1 : Int32) &&& (1 : Int32)))])) (fun t k => XS.iand X196.here hx rfl (hb hby at_174) rfl k) ?_
        rw [show ((1 : Int32) &&& (1 : Int32)) = (1 : Int32) from by decide]
        refine Go.on (B := T196.setTop (mkF m 177 #[.val (.int p1), .val (.int p2), .val (.int p3), .val (.int p4), .val (.ref b1), .val (.ref t3), .val (.ref t4), .val (.int v26_5), .val .null, .val .null, .val (.int (1 : Int32))] [])) (fun t k => XS.istore X196.here hx rfl (hb hby at_175) rfl (l' := #[.val (.int p1), .val (.int p2), .val (.int p3), .val (.int p4), .val (.ref b1), .val (.ref t3), .val (.ref t4), .val (.int v26_5), .val .null, .val .null, .val (.int (1 : Int32))]) rfl k) ?_
        refine Go.on (B := T196.setTop (mkF m 179 #[.val (.int p1), .val (.int p2), .val (.int p3), .val (.int p4), .val (.ref b1), .val (.ref t3), .val (.ref t4), .val (.int v26_5), .val .null, .val .null, .val (.int (1 : Int32))] [(.int (1 : Int32))])) (fun t k => XS.iload X196.here hx rfl (hb hby at_177) rfl k) ?_
        refine Go.on (B := T196.setTop (mkF m 181 #[.val (.int p1), .val (.int p2), .val (.int p3), .val (.int p4), .val (.ref b1), .val (.ref t3), .val (.ref t4), .val (.int v26_5), .val .null, .val .null, .val (.int (1 : Int32))] [(.ref b1), (.int (1 : Int32))])) (fun t k => XS.aload X196.here hx rfl (hb hby at_179) rfl rfl k) ?_
        refine Go.on (B := T196.setTop (mkF m 183 #[.val (.int p1), .val (.int p2), .val (.int p3), .val (.int p4), .val (.ref b1), .val (.ref t3), .val (.ref t4), .val (.int v26_5), .val .null, .val .null, .val (.int (1 : Int32))] [(.ref t3), (.ref b1), (.int (1 : Int32))])) (fun t k => XS.aload X196.here hx rfl (hb hby at_181) rfl rfl k) ?_
        obtain ⟨cq199, kq199, q199a, q199b, q199c⟩ := isOf hZ rfl f351
        obtain ⟨_, _, ⟨T199, L199, k199, n199⟩, -, X199, ⟨Lc199, hQ199, l199, y199, z199⟩, st199⟩ := X196.virtualBack hx (y := (⟨"com/example/tailrace/tailrace/cli/Count", "getResult", "(Lcom/example/tailrace/tailrace/cli/Count$Tally;)Ljava/lang/Long;"⟩ : MethodName)) (z := (⟨"com/example/tailrace/tailrace/cli/Count", "getResult", "(Lcom/example/tailrace/tailrace/cli/Count$Tally;)Ljava/lang/Long;"⟩ : MethodName)) hown (mvT hZ (hw _ (List.mem_of_getElem? (i := 35) rfl))) (mvT hZ (hw _ (List.mem_of_getElem? (i := 36) rfl))) (notFace_of_selects (args := #[]) (mvT hZ (hw _ (List.mem_of_getElem? (i := 38) rfl)))) (mvT hZ (hw _ (List.mem_of_getElem? (i := 38) rfl))) (mvT hZ (hw _ (List.mem_of_getElem? (i := 37) rfl))) (by decide) (backOf (W := 1) (rgr l Z a0 hw [] b1 t3 (0 : Int64) ca cc T196.heap n0 Zs355 f353 O_350 S_cache B_cache (by decide) (by decide)) hZ (hw _ (List.mem_of_getElem? (i := 39) rfl)) (hw _ (List.mem_of_getElem? (i := 2) rfl)) (by decide) (by decide)) q199a q199c (g := (mkF m 183 #[.val (.int p1), .val (.int p2), .val (.int p3), .val (.int p4), .val (.ref b1), .val (.ref t3), .val (.ref t4), .val (.int v26_5), .val .null, .val .null, .val (.int (1 : Int32))] [(.ref t3), (.ref b1), (.int (1 : Int32))])) rfl (by rw [hml]; rfl) (Steps.refl _) (argsL := [(.ref t3)]) (rest := [(.int (1 : Int32))]) (lenOf pd_6 rfl) rfl (by show 2 * 0 + _ ≤ _; exact Nat.le_of_eq rfl) (hb hby at_183) (fun _ _ => ⟨rfl, rfl, (by decide : 3 + 0 ≤ _), (by decide : 2 + 0 ≤ _)⟩)
        dsimp only [Pt.U, Pt.locs, Pt.cells, Pt.slots] at X199 l199 y199 z199 st199 hQ199
        subst l199 y199 z199
        obtain ⟨⟨x199, rfl, G199a, G199b⟩, N199q, K199q⟩ := hQ199
        have N199 := Fr.app N196 N199q
        have O_356 := O_350.keep K199q all0
        have f357 := f351.keep K199q
        have f358 := f352.keep K199q
        have f359 := f353.keep K199q nin0
        have f360 := G196a.keep K199q
        have f361 := G196b.keep K199q nin0
        have Zs362 := Nat.le_trans Zs355 K199q.1
        refine Go.on (B := T199.setTop (mkF m 186 #[.val (.int p1), .val (.int p2), .val (.int p3), .val (.int p4), .val (.ref b1), .val (.ref t3), .val (.ref t4), .val (.int v26_5), .val .null, .val .null, .val (.int (1 : Int32))] [(.ref x199), (.int (1 : Int32))])) (fun t k => st199.trans k) ?_
        obtain ⟨cq200, kq200, q200a, q200b, q200c⟩ := isOf hZ rfl G199a
        obtain ⟨_, _, ⟨T200, L200, k200, n200⟩, -, X200, ⟨Lc200, hQ200, l200, y200, z200⟩, st200⟩ := X199.virtualBack hx (y := (⟨"java/lang/Long", "longValue", "()J"⟩ : MethodName)) (z := (⟨"java/lang/Long", "longValue", "()J"⟩ : MethodName)) hown (mvT hZ (hw _ (List.mem_of_getElem? (i := 48) rfl))) (mvT hZ (hw _ (List.mem_of_getElem? (i := 49) rfl))) (notFace_of_selects (args := #[]) (mvT hZ (hw _ (List.mem_of_getElem? (i := 51) rfl)))) (mvT hZ (hw _ (List.mem_of_getElem? (i := 51) rfl))) (mvT hZ (hw _ (List.mem_of_getElem? (i := 50) rfl))) (by decide) (backOf (W := 1) (rval l Z a0 hw [] x199 (0 : Int64) T199.heap n0 Zs362 G199b) hZ (hw _ (List.mem_of_getElem? (i := 52) rfl)) (hw _ (List.mem_of_getElem? (i := 42) rfl)) (by decide) (by decide)) q200a q200c (g := (mkF m 186 #[.val (.int p1), .val (.int p2), .val (.int p3), .val (.int p4), .val (.ref b1), .val (.ref t3), .val (.ref t4), .val (.int v26_5), .val .null, .val .null, .val (.int (1 : Int32))] [(.ref x199), (.int (1 : Int32))])) rfl (by rw [hml]; rfl) (Steps.refl _) (argsL := []) (rest := [(.int (1 : Int32))]) (lenOf pd_7 rfl) rfl (by show 2 * 0 + _ ≤ _; exact Nat.le_of_eq rfl) (hb hby at_186) (fun _ _ => ⟨rfl, rfl, (by decide : 3 + 0 ≤ _), (by decide : 2 + 0 ≤ _)⟩)
        dsimp only [Pt.U, Pt.locs, Pt.cells, Pt.slots] at X200 l200 y200 z200 st200 hQ200
        subst l200 y200 z200
        obtain ⟨rfl, N200q, e200q⟩ := hQ200
        have N200 := Fr.app N199 N200q
        refine Go.on (B := T200.setTop (mkF m 189 #[.val (.int p1), .val (.int p2), .val (.int p3), .val (.int p4), .val (.ref b1), .val (.ref t3), .val (.ref t4), .val (.int v26_5), .val .null, .val .null, .val (.int (1 : Int32))] [(.long (0 : Int64)), (.int (1 : Int32))])) (fun t k => st200.trans k) ?_
        refine Go.on (B := T200.setTop (mkF m 191 #[.val (.int p1), .val (.int p2), .val (.int p3), .val (.int p4), .val (.ref b1), .val (.ref t3), .val (.ref t4), .val (.int v26_5), .val .null, .val .null, .val (.int (1 : Int32))] [(.int v26_5), (.long (0 : Int64)), (.int (1 : Int32))])) (fun t k => XS.iload X200.here hx rfl (hb hby at_189) rfl k) ?_
        refine Go.on (B := T200.setTop (mkF m 192 #[.val (.int p1), .val (.int p2), .val (.int p3), .val (.int p4), .val (.ref b1), .val (.ref t3), .val (.ref t4), .val (.int v26_5), .val .null, .val .null, .val (.int (1 : Int32))] [(.long (v26_5.toInt64)), (.long (0 : Int64)), (.int (1 : Int32))])) (fun t k => XS.i2l X200.here hx rfl (hb hby at_191) rfl k) ?_
        refine Go.on (B := T200.setTop (mkF m 193 #[.val (.int p1), .val (.int p2), .val (.int p3), .val (.int p4), .val (.ref b1), .val (.ref t3), .val (.ref t4), .val (.int v26_5), .val .null, .val .null, .val (.int (1 : Int32))] [(.int (lcmpW (0 : Int64) (v26_5.toInt64))), (.int (1 : Int32))])) (fun t k => XS.lcmp X200.here hx rfl (hb hby at_192) rfl k) ?_
        have hc193_201 : (0 : Int64) = (v26_5.toInt64) := by
          have q := own_n3 _ _ hv26_5
          have u0 := hc66_193
          rw [Int32.lt_iff_toInt_lt, show (1 : Int32).toInt = 1 from by decide] at u0
          have u1 := hc96_194
          rw [Int32.lt_iff_toInt_lt, show (2 : Int32).toInt = 2 from by decide] at u1
          have u2 := hc126_195
          rw [Int32.lt_iff_toInt_lt, show (3 : Int32).toInt = 3 from by decide] at u2
          exact own_is 0 (by omega) (by decide)
        refine Go.on (B := T200.setTop (mkF m 196 #[.val (.int p1), .val (.int p2), .val (.int p3), .val (.int p4), .val (.ref b1), .val (.ref t3), .val (.ref t4), .val (.int v26_5), .val .null, .val .null, .val (.int (1 : Int32))] [(.int (1 : Int32))])) (fun t k => XS.ifNo X200.here hx rfl (hb hby at_193) rfl ((if0 _ _).trans (teq ((lw_eq _ _).mpr hc193_201)).2) k) ?_
        refine Go.on (B := T200.setTop (mkF m 197 #[.val (.int p1), .val (.int p2), .val (.int p3), .val (.int p4), .val (.ref b1), .val (.ref t3), .val (.ref t4), .val (.int v26_5), .val .null, .val .null, .val (.int (1 : Int32))] [(.int (1 : Int32)), (.int (1 : Int32))])) (fun t k => XS.iconst X200.here hx rfl (hb hby at_196) k) ?_
        refine Go.on (B := T200.setTop (mkF m 201 #[.val (.int p1), .val (.int p2), .val (.int p3), .val (.int p4), .val (.ref b1), .val (.ref t3), .val (.ref t4), .val (.int v26_5), .val .null, .val .null, .val (.int (1 : Int32))] [(.int (1 : Int32)), (.int (1 : Int32))])) (fun t k => XS.goto X200.here hx rfl (pc0 := 197) (pc' := 201) rfl (hb hby at_197) (by decide) (by decide) k) ?_
        refine Go.on (B := T200.setTop (mkF m 202 #[.val (.int p1), .val (.int p2), .val (.int p3), .val (.int p4), .val (.ref b1), .val (.ref t3), .val (.ref t4), .val (.int v26_5), .val .null, .val .null, .val (.int (1 : Int32))] [(.int ((1 : Int32) &&& (1 : Int32)))])) (fun t k => XS.iand X200.here hx rfl (hb hby at_201) rfl k) ?_
        rw [show ((1 : Int32) &&& (1 : Int32)) = (1 : Int32) from by decide]
        refine Go.on (B := T200.setTop (mkF m 204 #[.val (.int p1), .val (.int p2), .val (.int p3), .val (.int p4), .val (.ref b1), .val (.ref t3), .val (.ref t4), .val (.int v26_5), .val .null, .val .null, .val (.int (1 : Int32))] [])) (fun t k => XS.istore X200.here hx rfl (hb hby at_202) rfl (l' := #[.val (.int p1), .val (.int p2), .val (.int p3), .val (.int p4), .val (.ref b1), .val (.ref t3), .val (.ref t4), .val (.int v26_5), .val .null, .val .null, .val (.int (1 : Int32))]) rfl k) ?_
        refine Go.on (B := T200.setTop (mkF m 206 #[.val (.int p1), .val (.int p2), .val (.int p3), .val (.int p4), .val (.ref b1), .val (.ref t3), .val (.ref t4), .val (.int v26_5), .val .null, .val .null, .val (.int (1 : Int32))] [(.int (1 : Int32))])) (fun t k => XS.iload X200.here hx rfl (hb hby at_204) rfl k) ?_
        refine Go.on (B := T200.setTop (mkF m 208 #[.val (.int p1), .val (.int p2), .val (.int p3), .val (.int p4), .val (.ref b1), .val (.ref t3), .val (.ref t4), .val (.int v26_5), .val .null, .val .null, .val (.int (1 : Int32))] [(.ref b1), (.int (1 : Int32))])) (fun t k => XS.aload X200.here hx rfl (hb hby at_206) rfl rfl k) ?_
        refine Go.on (B := T200.setTop (mkF m 210 #[.val (.int p1), .val (.int p2), .val (.int p3), .val (.int p4), .val (.ref b1), .val (.ref t3), .val (.ref t4), .val (.int v26_5), .val .null, .val .null, .val (.int (1 : Int32))] [(.ref t4), (.ref b1), (.int (1 : Int32))])) (fun t k => XS.aload X200.here hx rfl (hb hby at_208) rfl rfl k) ?_
        obtain ⟨cq203, kq203, q203a, q203b, q203c⟩ := isOf hZ e200q f357
        obtain ⟨_, _, ⟨T203, L203, k203, n203⟩, -, X203, ⟨Lc203, hQ203, l203, y203, z203⟩, st203⟩ := X200.virtualBack hx (y := (⟨"com/example/tailrace/tailrace/cli/Count", "getResult", "(Lcom/example/tailrace/tailrace/cli/Count$Tally;)Ljava/lang/Long;"⟩ : MethodName)) (z := (⟨"com/example/tailrace/tailrace/cli/Count", "getResult", "(Lcom/example/tailrace/tailrace/cli/Count$Tally;)Ljava/lang/Long;"⟩ : MethodName)) hown (mvT hZ (hw _ (List.mem_of_getElem? (i := 35) rfl))) (mvT hZ (hw _ (List.mem_of_getElem? (i := 36) rfl))) (notFace_of_selects (args := #[]) (mvT hZ (hw _ (List.mem_of_getElem? (i := 38) rfl)))) (mvT hZ (hw _ (List.mem_of_getElem? (i := 38) rfl))) (mvT hZ (hw _ (List.mem_of_getElem? (i := 37) rfl))) (by decide) (backOf (W := 1) (rgr l Z a0 hw [] b1 t4 (1 : Int64) ca cc T199.heap n0 Zs362 f361 O_356 S_cache B_cache (by decide) (by decide)) hZ (hw _ (List.mem_of_getElem? (i := 39) rfl)) (hw _ (List.mem_of_getElem? (i := 2) rfl)) (by decide) (by decide)) q203a q203c (g := (mkF m 210 #[.val (.int p1), .val (.int p2), .val (.int p3), .val (.int p4), .val (.ref b1), .val (.ref t3), .val (.ref t4), .val (.int v26_5), .val .null, .val .null, .val (.int (1 : Int32))] [(.ref t4), (.ref b1), (.int (1 : Int32))])) rfl (by rw [hml]; rfl) (Steps.refl _) (argsL := [(.ref t4)]) (rest := [(.int (1 : Int32))]) (lenOf pd_6 rfl) rfl (by show 2 * 0 + _ ≤ _; exact Nat.le_of_eq rfl) (hb hby at_210) (fun _ _ => ⟨rfl, e200q, (by decide : 3 + 0 ≤ _), (by decide : 2 + 0 ≤ _)⟩)
        dsimp only [Pt.U, Pt.locs, Pt.cells, Pt.slots] at X203 l203 y203 z203 st203 hQ203
        subst l203 y203 z203
        obtain ⟨⟨x203, rfl, G203a, G203b⟩, N203q, K203q⟩ := hQ203
        have N203 := Fr.app N200 N203q
        have O_363 := O_356.keep K203q all0
        have f364 := f357.keep K203q
        have f365 := f358.keep K203q
        have f366 := f359.keep K203q nin0
        have f367 := f360.keep K203q
        have f368 := f361.keep K203q nin0
        have f369 := G199a.keep K203q
        have f370 := G199b.keep K203q nin0
        have Zs371 := Nat.le_trans Zs362 K203q.1
        refine Go.on (B := T203.setTop (mkF m 213 #[.val (.int p1), .val (.int p2), .val (.int p3), .val (.int p4), .val (.ref b1), .val (.ref t3), .val (.ref t4), .val (.int v26_5), .val .null, .val .null, .val (.int (1 : Int32))] [(.ref x203), (.int (1 : Int32))])) (fun t k => st203.trans k) ?_
        obtain ⟨cq204, kq204, q204a, q204b, q204c⟩ := isOf hZ rfl G203a
        obtain ⟨_, _, ⟨T204, L204, k204, n204⟩, -, X204, ⟨Lc204, hQ204, l204, y204, z204⟩, st204⟩ := X203.virtualBack hx (y := (⟨"java/lang/Long", "longValue", "()J"⟩ : MethodName)) (z := (⟨"java/lang/Long", "longValue", "()J"⟩ : MethodName)) hown (mvT hZ (hw _ (List.mem_of_getElem? (i := 48) rfl))) (mvT hZ (hw _ (List.mem_of_getElem? (i := 49) rfl))) (notFace_of_selects (args := #[]) (mvT hZ (hw _ (List.mem_of_getElem? (i := 51) rfl)))) (mvT hZ (hw _ (List.mem_of_getElem? (i := 51) rfl))) (mvT hZ (hw _ (List.mem_of_getElem? (i := 50) rfl))) (by decide) (backOf (W := 1) (rval l Z a0 hw [] x203 (1 : Int64) T203.heap n0 Zs371 G203b) hZ (hw _ (List.mem_of_getElem? (i := 52) rfl)) (hw _ (List.mem_of_getElem? (i := 42) rfl)) (by decide) (by decide)) q204a q204c (g := (mkF m 213 #[.val (.int p1), .val (.int p2), .val (.int p3), .val (.int p4), .val (.ref b1), .val (.ref t3), .val (.ref t4), .val (.int v26_5), .val .null, .val .null, .val (.int (1 : Int32))] [(.ref x203), (.int (1 : Int32))])) rfl (by rw [hml]; rfl) (Steps.refl _) (argsL := []) (rest := [(.int (1 : Int32))]) (lenOf pd_7 rfl) rfl (by show 2 * 0 + _ ≤ _; exact Nat.le_of_eq rfl) (hb hby at_213) (fun _ _ => ⟨rfl, rfl, (by decide : 3 + 0 ≤ _), (by decide : 2 + 0 ≤ _)⟩)
        dsimp only [Pt.U, Pt.locs, Pt.cells, Pt.slots] at X204 l204 y204 z204 st204 hQ204
        subst l204 y204 z204
        obtain ⟨rfl, N204q, e204q⟩ := hQ204
        have N204 := Fr.app N203 N204q
        refine Go.on (B := T204.setTop (mkF m 216 #[.val (.int p1), .val (.int p2), .val (.int p3), .val (.int p4), .val (.ref b1), .val (.ref t3), .val (.ref t4), .val (.int v26_5), .val .null, .val .null, .val (.int (1 : Int32))] [(.long (1 : Int64)), (.int (1 : Int32))])) (fun t k => st204.trans k) ?_
        refine Go.on (B := T204.setTop (mkF m 217 #[.val (.int p1), .val (.int p2), .val (.int p3), .val (.int p4), .val (.ref b1), .val (.ref t3), .val (.ref t4), .val (.int v26_5), .val .null, .val .null, .val (.int (1 : Int32))] [(.long (1 : Int64)), (.long (1 : Int64)), (.int (1 : Int32))])) (fun t k => XS.lconst X204.here hx rfl (hb hby at_216) k) ?_
        refine Go.on (B := T204.setTop (mkF m 218 #[.val (.int p1), .val (.int p2), .val (.int p3), .val (.int p4), .val (.ref b1), .val (.ref t3), .val (.ref t4), .val (.int v26_5), .val .null, .val .null, .val (.int (1 : Int32))] [(.int (lcmpW (1 : Int64) (1 : Int64))), (.int (1 : Int32))])) (fun t k => XS.lcmp X204.here hx rfl (hb hby at_217) rfl k) ?_
        have hc218_205 : (1 : Int64) = (1 : Int64) := by decide
        refine Go.on (B := T204.setTop (mkF m 221 #[.val (.int p1), .val (.int p2), .val (.int p3), .val (.int p4), .val (.ref b1), .val (.ref t3), .val (.ref t4), .val (.int v26_5), .val .null, .val .null, .val (.int (1 : Int32))] [(.int (1 : Int32))])) (fun t k => XS.ifNo X204.here hx rfl (hb hby at_218) rfl ((if0 _ _).trans (teq ((lw_eq _ _).mpr hc218_205)).2) k) ?_
        refine Go.on (B := T204.setTop (mkF m 222 #[.val (.int p1), .val (.int p2), .val (.int p3), .val (.int p4), .val (.ref b1), .val (.ref t3), .val (.ref t4), .val (.int v26_5), .val .null, .val .null, .val (.int (1 : Int32))] [(.int (1 : Int32)), (.int (1 : Int32))])) (fun t k => XS.iconst X204.here hx rfl (hb hby at_221) k) ?_
        refine Go.on (B := T204.setTop (mkF m 226 #[.val (.int p1), .val (.int p2), .val (.int p3), .val (.int p4), .val (.ref b1), .val (.ref t3), .val (.ref t4), .val (.int v26_5), .val .null, .val .null, .val (.int (1 : Int32))] [(.int (1 : Int32)), (.int (1 : Int32))])) (fun t k => XS.goto X204.here hx rfl (pc0 := 222) (pc' := 226) rfl (hb hby at_222) (by decide) (by decide) k) ?_
        refine Go.on (B := T204.setTop (mkF m 227 #[.val (.int p1), .val (.int p2), .val (.int p3), .val (.int p4), .val (.ref b1), .val (.ref t3), .val (.ref t4), .val (.int v26_5), .val .null, .val .null, .val (.int (1 : Int32))] [(.int ((1 : Int32) &&& (1 : Int32)))])) (fun t k => XS.iand X204.here hx rfl (hb hby at_226) rfl k) ?_
        rw [show ((1 : Int32) &&& (1 : Int32)) = (1 : Int32) from by decide]
        refine Go.on (B := T204.setTop (mkF m 229 #[.val (.int p1), .val (.int p2), .val (.int p3), .val (.int p4), .val (.ref b1), .val (.ref t3), .val (.ref t4), .val (.int v26_5), .val .null, .val .null, .val (.int (1 : Int32))] [])) (fun t k => XS.istore X204.here hx rfl (hb hby at_227) rfl (l' := #[.val (.int p1), .val (.int p2), .val (.int p3), .val (.int p4), .val (.ref b1), .val (.ref t3), .val (.ref t4), .val (.int v26_5), .val .null, .val .null, .val (.int (1 : Int32))]) rfl k) ?_
        refine Go.on (B := T204.setTop (mkF m 231 #[.val (.int p1), .val (.int p2), .val (.int p3), .val (.int p4), .val (.ref b1), .val (.ref t3), .val (.ref t4), .val (.int v26_5), .val .null, .val .null, .val (.int (1 : Int32))] [(.int (1 : Int32))])) (fun t k => XS.iload X204.here hx rfl (hb hby at_229) rfl k) ?_
        obtain ⟨fs, hr, hrun, hended, hW, hsame⟩ := X204.leave (v := some (.int (1 : Int32))) (fun h => by rw [Bd.returns] at h; cases h)
        refine ⟨_, _, ?_, hrun, hended, _, _, rfl, ?_, ⟨_, rfl⟩, hW, hsame.mono (by decide) (by decide)⟩
        · exact retN X204 hx (t := .boolean) Bd.returns (by simp) (hb hby at_231) hr
        · show Q_rm0 Z p1 p2 p3 p4 ca cc ica icc h0 n0 _ T204.heap _
          rw [e204q]
          exact ⟨rfl, N204⟩
      · refine Go.on (B := T4.setTop (mkF m 69 #[.val (.int p1), .val (.int p2), .val (.int p3), .val (.int p4), .val (.ref b1), .val (.ref t3), .val (.ref t4), .val (.int v26_5), .val .null, .val .null, .val (.int (1 : Int32))] [])) (fun t k => XS.icmpNo X4.here hx rfl (hb hby at_66) rfl (flt hc66_193).1 k) ?_
        refine Go.on (B := T4.setTop (mkF m 71 #[.val (.int p1), .val (.int p2), .val (.int p3), .val (.int p4), .val (.ref b1), .val (.ref t3), .val (.ref t4), .val (.int v26_5), .val .null, .val .null, .val (.int (1 : Int32))] [(.int (1 : Int32))])) (fun t k => XS.iload X4.here hx rfl (hb hby at_69) rfl k) ?_
        refine Go.on (B := T4.setTop (mkF m 73 #[.val (.int p1), .val (.int p2), .val (.int p3), .val (.int p4), .val (.ref b1), .val (.ref t3), .val (.ref t4), .val (.int v26_5), .val .null, .val .null, .val (.int (1 : Int32))] [(.ref b1), (.int (1 : Int32))])) (fun t k => XS.aload X4.here hx rfl (hb hby at_71) rfl rfl k) ?_
        refine Go.on (B := T4.setTop (mkF m 75 #[.val (.int p1), .val (.int p2), .val (.int p3), .val (.int p4), .val (.ref b1), .val (.ref t3), .val (.ref t4), .val (.int v26_5), .val .null, .val .null, .val (.int (1 : Int32))] [.null, (.ref b1), (.int (1 : Int32))])) (fun t k => XS.aload X4.here hx rfl (hb hby at_73) rfl rfl k) ?_
        refine Go.on (B := T4.setTop (mkF m 77 #[.val (.int p1), .val (.int p2), .val (.int p3), .val (.int p4), .val (.ref b1), .val (.ref t3), .val (.ref t4), .val (.int v26_5), .val .null, .val .null, .val (.int (1 : Int32))] [(.ref t3), .null, (.ref b1), (.int (1 : Int32))])) (fun t k => XS.aload X4.here hx rfl (hb hby at_75) rfl rfl k) ?_
        obtain ⟨cq207, kq207, q207a, q207b, q207c⟩ := isOf hZ rfl f7
        obtain ⟨_, _, ⟨T207, L207, k207, n207⟩, -, X207, ⟨Lc207, hQ207, l207, y207, z207⟩, st207⟩ := X4.virtualBack hx (y := (⟨"com/example/tailrace/tailrace/cli/Count", "add", "(Ljava/lang/Object;Lcom/example/tailrace/tailrace/cli/Count$Tally;)Lcom/example/tailrace/tailrace/cli/Count$Tally;"⟩ : MethodName)) (z := (⟨"com/example/tailrace/tailrace/cli/Count", "add", "(Ljava/lang/Object;Lcom/example/tailrace/tailrace/cli/Count$Tally;)Lcom/example/tailrace/tailrace/cli/Count$Tally;"⟩ : MethodName)) hown (mvT hZ (hw _ (List.mem_of_getElem? (i := 28) rfl))) (mvT hZ (hw _ (List.mem_of_getElem? (i := 29) rfl))) (notFace_of_selects (args := #[]) (mvT hZ (hw _ (List.mem_of_getElem? (i := 31) rfl)))) (mvT hZ (hw _ (List.mem_of_getElem? (i := 31) rfl))) (mvT hZ (hw _ (List.mem_of_getElem? (i := 30) rfl))) (by decide) (backOf (W := 1) (radd0 l Z a0 hw [] b1 t3 (0 : Int64) T4.heap n0 Zs10 f8 f9 ge_t3) hZ (hw _ (List.mem_of_getElem? (i := 32) rfl)) (hw _ (List.mem_of_getElem? (i := 2) rfl)) (by decide) (by decide)) q207a q207c (g := (mkF m 77 #[.val (.int p1), .val (.int p2), .val (.int p3), .val (.int p4), .val (.ref b1), .val (.ref t3), .val (.ref t4), .val (.int v26_5), .val .null, .val .null, .val (.int (1 : Int32))] [(.ref t3), .null, (.ref b1), (.int (1 : Int32))])) rfl (by rw [hml]; rfl) (Steps.refl _) (argsL := [.null, (.ref t3)]) (rest := [(.int (1 : Int32))]) (lenOf pd_5 rfl) rfl (by show 2 * 0 + _ ≤ _; exact Nat.le_of_eq rfl) (hb hby at_77) (fun _ _ => ⟨rfl, rfl, (by decide : 3 + 0 ≤ _), (by decide : 2 + 0 ≤ _)⟩)
        dsimp only [Pt.U, Pt.locs, Pt.cells, Pt.slots] at X207 l207 y207 z207 st207 hQ207
        subst l207 y207 z207
        obtain ⟨rfl, N207q, K207q, G207a, G207b⟩ := hQ207
        have N207 := Fr.app N4 N207q
        have O_372 := O_6.keep K207q (allS ge_t3 all0)
        have f373 := f7.keep K207q
        have f374 := f8.keep K207q
        have f375 := G4a.keep K207q
        have f376 := G4b.keep K207q (ninS (Ne.symm ne_t3_t4) nin0)
        have Zs377 := Nat.le_trans Zs10 K207q.1
        rw [show ((0 : Int64) + (1 : Int64)) = (1 : Int64) from by decide] at G207b
        refine Go.on (B := T207.setTop (mkF m 80 #[.val (.int p1), .val (.int p2), .val (.int p3), .val (.int p4), .val (.ref b1), .val (.ref t3), .val (.ref t4), .val (.int v26_5), .val .null, .val .null, .val (.int (1 : Int32))] [(.ref t3), (.int (1 : Int32))])) (fun t k => st207.trans k) ?_
        refine Go.on (B := T207.setTop (mkF m 82 #[.val (.int p1), .val (.int p2), .val (.int p3), .val (.int p4), .val (.ref b1), .val (.ref t3), .val (.ref t4), .val (.int v26_5), .val .null, .val .null, .val (.int (1 : Int32))] [(.ref t3), (.ref t3), (.int (1 : Int32))])) (fun t k => XS.aload X207.here hx rfl (hb hby at_80) rfl rfl k) ?_
        refine Go.on (B := T207.setTop (mkF m 85 #[.val (.int p1), .val (.int p2), .val (.int p3), .val (.int p4), .val (.ref b1), .val (.ref t3), .val (.ref t4), .val (.int v26_5), .val .null, .val .null, .val (.int (1 : Int32))] [(.int (1 : Int32))])) (fun t k => Jvm.RoadKit.acmp (g := (mkF m 82 #[.val (.int p1), .val (.int p2), .val (.int p3), .val (.int p4), .val (.ref b1), .val (.ref t3), .val (.ref t4), .val (.int v26_5), .val .null, .val .null, .val (.int (1 : Int32))] [(.ref t3), (.ref t3), (.int (1 : Int32))])) X207 hx rfl rfl rfl (pc0 := 82) (pc' := 85) (same := true) rfl (hb hby at_82) rfl (decide_eq_true rfl) (by decide) (by decide) k) ?_
        refine Go.on (B := T207.setTop (mkF m 86 #[.val (.int p1), .val (.int p2), .val (.int p3), .val (.int p4), .val (.ref b1), .val (.ref t3), .val (.ref t4), .val (.int v26_5), .val .null, .val .null, .val (.int (1 : Int32))] [(.int (1 : Int32)), (.int (1 : Int32))])) (fun t k => XS.iconst X207.here hx rfl (hb hby at_85) k) ?_
        refine Go.on (B := T207.setTop (mkF m 90 #[.val (.int p1), .val (.int p2), .val (.int p3), .val (.int p4), .val (.ref b1), .val (.ref t3), .val (.ref t4), .val (.int v26_5), .val .null, .val .null, .val (.int (1 : Int32))] [(.int (1 : Int32)), (.int (1 : Int32))])) (fun t k => XS.goto X207.here hx rfl (pc0 := 86) (pc' := 90) rfl (hb hby at_86) (by decide) (by decide) k) ?_
        refine Go.on (B := T207.setTop (mkF m 91 #[.val (.int p1), .val (.int p2), .val (.int p3), .val (.int p4), .val (.ref b1), .val (.ref t3), .val (.ref t4), .val (.int v26_5), .val .null, .val .null, .val (.int (1 : Int32))] [(.int ((1 : Int32) &&& (1 : Int32)))])) (fun t k => XS.iand X207.here hx rfl (hb hby at_90) rfl k) ?_
        rw [show ((1 : Int32) &&& (1 : Int32)) = (1 : Int32) from by decide]
        refine Go.on (B := T207.setTop (mkF m 93 #[.val (.int p1), .val (.int p2), .val (.int p3), .val (.int p4), .val (.ref b1), .val (.ref t3), .val (.ref t4), .val (.int v26_5), .val .null, .val .null, .val (.int (1 : Int32))] [])) (fun t k => XS.istore X207.here hx rfl (hb hby at_91) rfl (l' := #[.val (.int p1), .val (.int p2), .val (.int p3), .val (.int p4), .val (.ref b1), .val (.ref t3), .val (.ref t4), .val (.int v26_5), .val .null, .val .null, .val (.int (1 : Int32))]) rfl k) ?_
        refine Go.on (B := T207.setTop (mkF m 95 #[.val (.int p1), .val (.int p2), .val (.int p3), .val (.int p4), .val (.ref b1), .val (.ref t3), .val (.ref t4), .val (.int v26_5), .val .null, .val .null, .val (.int (1 : Int32))] [(.int v26_5)])) (fun t k => XS.iload X207.here hx rfl (hb hby at_93) rfl k) ?_
        refine Go.on (B := T207.setTop (mkF m 96 #[.val (.int p1), .val (.int p2), .val (.int p3), .val (.int p4), .val (.ref b1), .val (.ref t3), .val (.ref t4), .val (.int v26_5), .val .null, .val .null, .val (.int (1 : Int32))] [(.int (2 : Int32)), (.int v26_5)])) (fun t k => XS.iconst X207.here hx rfl (hb hby at_95) k) ?_
        by_cases hc96_210 : v26_5 < (2 : Int32)
        · refine Go.on (B := T207.setTop (mkF m 123 #[.val (.int p1), .val (.int p2), .val (.int p3), .val (.int p4), .val (.ref b1), .val (.ref t3), .val (.ref t4), .val (.int v26_5), .val .null, .val .null, .val (.int (1 : Int32))] [])) (fun t k => XS.icmpYes X207.here hx rfl (pc0 := 96) (pc' := 123) rfl (hb hby at_96) rfl (tlt hc96_210).1 (by decide) (by decide) k) ?_
          refine Go.on (B := T207.setTop (mkF m 125 #[.val (.int p1), .val (.int p2), .val (.int p3), .val (.int p4), .val (.ref b1), .val (.ref t3), .val (.ref t4), .val (.int v26_5), .val .null, .val .null, .val (.int (1 : Int32))] [(.int v26_5)])) (fun t k => XS.iload X207.here hx rfl (hb hby at_123) rfl k) ?_
          refine Go.on (B := T207.setTop (mkF m 126 #[.val (.int p1), .val (.int p2), .val (.int p3), .val (.int p4), .val (.ref b1), .val (.ref t3), .val (.ref t4), .val (.int v26_5), .val .null, .val .null, .val (.int (1 : Int32))] [(.int (3 : Int32)), (.int v26_5)])) (fun t k => XS.iconst X207.here hx rfl (hb hby at_125) k) ?_
          have hc126_211 : v26_5 < (3 : Int32) := own_up2 hc96_210 (by decide)
          refine Go.on (B := T207.setTop (mkF m 153 #[.val (.int p1), .val (.int p2), .val (.int p3), .val (.int p4), .val (.ref b1), .val (.ref t3), .val (.ref t4), .val (.int v26_5), .val .null, .val .null, .val (.int (1 : Int32))] [])) (fun t k => XS.icmpYes X207.here hx rfl (pc0 := 126) (pc' := 153) rfl (hb hby at_126) rfl (tlt hc126_211).1 (by decide) (by decide) k) ?_
          refine Go.on (B := T207.setTop (mkF m 155 #[.val (.int p1), .val (.int p2), .val (.int p3), .val (.int p4), .val (.ref b1), .val (.ref t3), .val (.ref t4), .val (.int v26_5), .val .null, .val .null, .val (.int (1 : Int32))] [(.int (1 : Int32))])) (fun t k => XS.iload X207.here hx rfl (hb hby at_153) rfl k) ?_
          refine Go.on (B := T207.setTop (mkF m 157 #[.val (.int p1), .val (.int p2), .val (.int p3), .val (.int p4), .val (.ref b1), .val (.ref t3), .val (.ref t4), .val (.int v26_5), .val .null, .val .null, .val (.int (1 : Int32))] [(.ref b1), (.int (1 : Int32))])) (fun t k => XS.aload X207.here hx rfl (hb hby at_155) rfl rfl k) ?_
          refine Go.on (B := T207.setTop (mkF m 159 #[.val (.int p1), .val (.int p2), .val (.int p3), .val (.int p4), .val (.ref b1), .val (.ref t3), .val (.ref t4), .val (.int v26_5), .val .null, .val .null, .val (.int (1 : Int32))] [.null, (.ref b1), (.int (1 : Int32))])) (fun t k => XS.aload X207.here hx rfl (hb hby at_157) rfl rfl k) ?_
          refine Go.on (B := T207.setTop (mkF m 161 #[.val (.int p1), .val (.int p2), .val (.int p3), .val (.int p4), .val (.ref b1), .val (.ref t3), .val (.ref t4), .val (.int v26_5), .val .null, .val .null, .val (.int (1 : Int32))] [(.ref t4), .null, (.ref b1), (.int (1 : Int32))])) (fun t k => XS.aload X207.here hx rfl (hb hby at_159) rfl rfl k) ?_
          obtain ⟨cq212, kq212, q212a, q212b, q212c⟩ := isOf hZ rfl f373
          obtain ⟨_, _, ⟨T212, L212, k212, n212⟩, -, X212, ⟨Lc212, hQ212, l212, y212, z212⟩, st212⟩ := X207.virtualBack hx (y := (⟨"com/example/tailrace/tailrace/cli/Count", "add", "(Ljava/lang/Object;Lcom/example/tailrace/tailrace/cli/Count$Tally;)Lcom/example/tailrace/tailrace/cli/Count$Tally;"⟩ : MethodName)) (z := (⟨"com/example/tailrace/tailrace/cli/Count", "add", "(Ljava/lang/Object;Lcom/example/tailrace/tailrace/cli/Count$Tally;)Lcom/example/tailrace/tailrace/cli/Count$Tally;"⟩ : MethodName)) hown (mvT hZ (hw _ (List.mem_of_getElem? (i := 28) rfl))) (mvT hZ (hw _ (List.mem_of_getElem? (i := 29) rfl))) (notFace_of_selects (args := #[]) (mvT hZ (hw _ (List.mem_of_getElem? (i := 31) rfl)))) (mvT hZ (hw _ (List.mem_of_getElem? (i := 31) rfl))) (mvT hZ (hw _ (List.mem_of_getElem? (i := 30) rfl))) (by decide) (backOf (W := 1) (radd0 l Z a0 hw [] b1 t4 (0 : Int64) T207.heap n0 Zs377 f375 f376 ge_t4) hZ (hw _ (List.mem_of_getElem? (i := 32) rfl)) (hw _ (List.mem_of_getElem? (i := 2) rfl)) (by decide) (by decide)) q212a q212c (g := (mkF m 161 #[.val (.int p1), .val (.int p2), .val (.int p3), .val (.int p4), .val (.ref b1), .val (.ref t3), .val (.ref t4), .val (.int v26_5), .val .null, .val .null, .val (.int (1 : Int32))] [(.ref t4), .null, (.ref b1), (.int (1 : Int32))])) rfl (by rw [hml]; rfl) (Steps.refl _) (argsL := [.null, (.ref t4)]) (rest := [(.int (1 : Int32))]) (lenOf pd_5 rfl) rfl (by show 2 * 0 + _ ≤ _; exact Nat.le_of_eq rfl) (hb hby at_161) (fun _ _ => ⟨rfl, rfl, (by decide : 3 + 0 ≤ _), (by decide : 2 + 0 ≤ _)⟩)
          dsimp only [Pt.U, Pt.locs, Pt.cells, Pt.slots] at X212 l212 y212 z212 st212 hQ212
          subst l212 y212 z212
          obtain ⟨rfl, N212q, K212q, G212a, G212b⟩ := hQ212
          have N212 := Fr.app N207 N212q
          have O_378 := O_372.keep K212q (allS ge_t4 all0)
          have f379 := f373.keep K212q
          have f380 := G207a.keep K212q
          have f381 := f375.keep K212q
          have f382 := G207b.keep K212q (ninS ne_t3_t4 nin0)
          have Zs383 := Nat.le_trans Zs377 K212q.1
          rw [show ((0 : Int64) + (1 : Int64)) = (1 : Int64) from by decide] at G212b
          refine Go.on (B := T212.setTop (mkF m 164 #[.val (.int p1), .val (.int p2), .val (.int p3), .val (.int p4), .val (.ref b1), .val (.ref t3), .val (.ref t4), .val (.int v26_5), .val .null, .val .null, .val (.int (1 : Int32))] [(.ref t4), (.int (1 : Int32))])) (fun t k => st212.trans k) ?_
          refine Go.on (B := T212.setTop (mkF m 166 #[.val (.int p1), .val (.int p2), .val (.int p3), .val (.int p4), .val (.ref b1), .val (.ref t3), .val (.ref t4), .val (.int v26_5), .val .null, .val .null, .val (.int (1 : Int32))] [(.ref t4), (.ref t4), (.int (1 : Int32))])) (fun t k => XS.aload X212.here hx rfl (hb hby at_164) rfl rfl k) ?_
          refine Go.on (B := T212.setTop (mkF m 169 #[.val (.int p1), .val (.int p2), .val (.int p3), .val (.int p4), .val (.ref b1), .val (.ref t3), .val (.ref t4), .val (.int v26_5), .val .null, .val .null, .val (.int (1 : Int32))] [(.int (1 : Int32))])) (fun t k => Jvm.RoadKit.acmp (g := (mkF m 166 #[.val (.int p1), .val (.int p2), .val (.int p3), .val (.int p4), .val (.ref b1), .val (.ref t3), .val (.ref t4), .val (.int v26_5), .val .null, .val .null, .val (.int (1 : Int32))] [(.ref t4), (.ref t4), (.int (1 : Int32))])) X212 hx rfl rfl rfl (pc0 := 166) (pc' := 169) (same := true) rfl (hb hby at_166) rfl (decide_eq_true rfl) (by decide) (by decide) k) ?_
          refine Go.on (B := T212.setTop (mkF m 170 #[.val (.int p1), .val (.int p2), .val (.int p3), .val (.int p4), .val (.ref b1), .val (.ref t3), .val (.ref t4), .val (.int v26_5), .val .null, .val .null, .val (.int (1 : Int32))] [(.int (1 : Int32)), (.int (1 : Int32))])) (fun t k => XS.iconst X212.here hx rfl (hb hby at_169) k) ?_
          refine Go.on (B := T212.setTop (mkF m 174 #[.val (.int p1), .val (.int p2), .val (.int p3), .val (.int p4), .val (.ref b1), .val (.ref t3), .val (.ref t4), .val (.int v26_5), .val .null, .val .null, .val (.int (1 : Int32))] [(.int (1 : Int32)), (.int (1 : Int32))])) (fun t k => XS.goto X212.here hx rfl (pc0 := 170) (pc' := 174) rfl (hb hby at_170) (by decide) (by decide) k) ?_
          refine Go.on (B := T212.setTop (mkF m 175 #[.val (.int p1), .val (.int p2), .val (.int p3), .val (.int p4), .val (.ref b1), .val (.ref t3), .val (.ref t4), .val (.int v26_5), .val .null, .val .null, .val (.int (1 : Int32))] [(.int ((1 : Int32) &&& (1 : Int32)))])) (fun t k => XS.iand X212.here hx rfl (hb hby at_174) rfl k) ?_
          rw [show ((1 : Int32) &&& (1 : Int32)) = (1 : Int32) from by decide]
          refine Go.on (B := T212.setTop (mkF m 177 #[.val (.int p1), .val (.int p2), .val (.int p3), .val (.int p4), .val (.ref b1), .val (.ref t3), .val (.ref t4), .val (.int v26_5), .val .null, .val .null, .val (.int (1 : Int32))] [])) (fun t k => XS.istore X212.here hx rfl (hb hby at_175) rfl (l' := #[.val (.int p1), .val (.int p2), .val (.int p3), .val (.int p4), .val (.ref b1), .val (.ref t3), .val (.ref t4), .val (.int v26_5), .val .null, .val .null, .val (.int (1 : Int32))]) rfl k) ?_
          refine Go.on (B := T212.setTop (mkF m 179 #[.val (.int p1), .val (.int p2), .val (.int p3), .val (.int p4), .val (.ref b1), .val (.ref t3), .val (.ref t4), .val (.int v26_5), .val .null, .val .null, .val (.int (1 : Int32))] [(.int (1 : Int32))])) (fun t k => XS.iload X212.here hx rfl (hb hby at_177) rfl k) ?_
          refine Go.on (B := T212.setTop (mkF m 181 #[.val (.int p1), .val (.int p2), .val (.int p3), .val (.int p4), .val (.ref b1), .val (.ref t3), .val (.ref t4), .val (.int v26_5), .val .null, .val .null, .val (.int (1 : Int32))] [(.ref b1), (.int (1 : Int32))])) (fun t k => XS.aload X212.here hx rfl (hb hby at_179) rfl rfl k) ?_
          refine Go.on (B := T212.setTop (mkF m 183 #[.val (.int p1), .val (.int p2), .val (.int p3), .val (.int p4), .val (.ref b1), .val (.ref t3), .val (.ref t4), .val (.int v26_5), .val .null, .val .null, .val (.int (1 : Int32))] [(.ref t3), (.ref b1), (.int (1 : Int32))])) (fun t k => XS.aload X212.here hx rfl (hb hby at_181) rfl rfl k) ?_
          obtain ⟨cq215, kq215, q215a, q215b, q215c⟩ := isOf hZ rfl f379
          obtain ⟨_, _, ⟨T215, L215, k215, n215⟩, -, X215, ⟨Lc215, hQ215, l215, y215, z215⟩, st215⟩ := X212.virtualBack hx (y := (⟨"com/example/tailrace/tailrace/cli/Count", "getResult", "(Lcom/example/tailrace/tailrace/cli/Count$Tally;)Ljava/lang/Long;"⟩ : MethodName)) (z := (⟨"com/example/tailrace/tailrace/cli/Count", "getResult", "(Lcom/example/tailrace/tailrace/cli/Count$Tally;)Ljava/lang/Long;"⟩ : MethodName)) hown (mvT hZ (hw _ (List.mem_of_getElem? (i := 35) rfl))) (mvT hZ (hw _ (List.mem_of_getElem? (i := 36) rfl))) (notFace_of_selects (args := #[]) (mvT hZ (hw _ (List.mem_of_getElem? (i := 38) rfl)))) (mvT hZ (hw _ (List.mem_of_getElem? (i := 38) rfl))) (mvT hZ (hw _ (List.mem_of_getElem? (i := 37) rfl))) (by decide) (backOf (W := 1) (rgr l Z a0 hw [] b1 t3 (1 : Int64) ca cc T212.heap n0 Zs383 f382 O_378 S_cache B_cache (by decide) (by decide)) hZ (hw _ (List.mem_of_getElem? (i := 39) rfl)) (hw _ (List.mem_of_getElem? (i := 2) rfl)) (by decide) (by decide)) q215a q215c (g := (mkF m 183 #[.val (.int p1), .val (.int p2), .val (.int p3), .val (.int p4), .val (.ref b1), .val (.ref t3), .val (.ref t4), .val (.int v26_5), .val .null, .val .null, .val (.int (1 : Int32))] [(.ref t3), (.ref b1), (.int (1 : Int32))])) rfl (by rw [hml]; rfl) (Steps.refl _) (argsL := [(.ref t3)]) (rest := [(.int (1 : Int32))]) (lenOf pd_6 rfl) rfl (by show 2 * 0 + _ ≤ _; exact Nat.le_of_eq rfl) (hb hby at_183) (fun _ _ => ⟨rfl, rfl, (by decide : 3 + 0 ≤ _), (by decide : 2 + 0 ≤ _)⟩)
          dsimp only [Pt.U, Pt.locs, Pt.cells, Pt.slots] at X215 l215 y215 z215 st215 hQ215
          subst l215 y215 z215
          obtain ⟨⟨x215, rfl, G215a, G215b⟩, N215q, K215q⟩ := hQ215
          have N215 := Fr.app N212 N215q
          have O_384 := O_378.keep K215q all0
          have f385 := f379.keep K215q
          have f386 := f380.keep K215q
          have f387 := G212a.keep K215q
          have f388 := f382.keep K215q nin0
          have f389 := G212b.keep K215q nin0
          have Zs390 := Nat.le_trans Zs383 K215q.1
          refine Go.on (B := T215.setTop (mkF m 186 #[.val (.int p1), .val (.int p2), .val (.int p3), .val (.int p4), .val (.ref b1), .val (.ref t3), .val (.ref t4), .val (.int v26_5), .val .null, .val .null, .val (.int (1 : Int32))] [(.ref x215), (.int (1 : Int32))])) (fun t k => st215.trans k) ?_
          obtain ⟨cq216, kq216, q216a, q216b, q216c⟩ := isOf hZ rfl G215a
          obtain ⟨_, _, ⟨T216, L216, k216, n216⟩, -, X216, ⟨Lc216, hQ216, l216, y216, z216⟩, st216⟩ := X215.virtualBack hx (y := (⟨"java/lang/Long", "longValue", "()J"⟩ : MethodName)) (z := (⟨"java/lang/Long", "longValue", "()J"⟩ : MethodName)) hown (mvT hZ (hw _ (List.mem_of_getElem? (i := 48) rfl))) (mvT hZ (hw _ (List.mem_of_getElem? (i := 49) rfl))) (notFace_of_selects (args := #[]) (mvT hZ (hw _ (List.mem_of_getElem? (i := 51) rfl)))) (mvT hZ (hw _ (List.mem_of_getElem? (i := 51) rfl))) (mvT hZ (hw _ (List.mem_of_getElem? (i := 50) rfl))) (by decide) (backOf (W := 1) (rval l Z a0 hw [] x215 (1 : Int64) T215.heap n0 Zs390 G215b) hZ (hw _ (List.mem_of_getElem? (i := 52) rfl)) (hw _ (List.mem_of_getElem? (i := 42) rfl)) (by decide) (by decide)) q216a q216c (g := (mkF m 186 #[.val (.int p1), .val (.int p2), .val (.int p3), .val (.int p4), .val (.ref b1), .val (.ref t3), .val (.ref t4), .val (.int v26_5), .val .null, .val .null, .val (.int (1 : Int32))] [(.ref x215), (.int (1 : Int32))])) rfl (by rw [hml]; rfl) (Steps.refl _) (argsL := []) (rest := [(.int (1 : Int32))]) (lenOf pd_7 rfl) rfl (by show 2 * 0 + _ ≤ _; exact Nat.le_of_eq rfl) (hb hby at_186) (fun _ _ => ⟨rfl, rfl, (by decide : 3 + 0 ≤ _), (by decide : 2 + 0 ≤ _)⟩)
          dsimp only [Pt.U, Pt.locs, Pt.cells, Pt.slots] at X216 l216 y216 z216 st216 hQ216
          subst l216 y216 z216
          obtain ⟨rfl, N216q, e216q⟩ := hQ216
          have N216 := Fr.app N215 N216q
          refine Go.on (B := T216.setTop (mkF m 189 #[.val (.int p1), .val (.int p2), .val (.int p3), .val (.int p4), .val (.ref b1), .val (.ref t3), .val (.ref t4), .val (.int v26_5), .val .null, .val .null, .val (.int (1 : Int32))] [(.long (1 : Int64)), (.int (1 : Int32))])) (fun t k => st216.trans k) ?_
          refine Go.on (B := T216.setTop (mkF m 191 #[.val (.int p1), .val (.int p2), .val (.int p3), .val (.int p4), .val (.ref b1), .val (.ref t3), .val (.ref t4), .val (.int v26_5), .val .null, .val .null, .val (.int (1 : Int32))] [(.int v26_5), (.long (1 : Int64)), (.int (1 : Int32))])) (fun t k => XS.iload X216.here hx rfl (hb hby at_189) rfl k) ?_
          refine Go.on (B := T216.setTop (mkF m 192 #[.val (.int p1), .val (.int p2), .val (.int p3), .val (.int p4), .val (.ref b1), .val (.ref t3), .val (.ref t4), .val (.int v26_5), .val .null, .val .null, .val (.int (1 : Int32))] [(.long (v26_5.toInt64)), (.long (1 : Int64)), (.int (1 : Int32))])) (fun t k => XS.i2l X216.here hx rfl (hb hby at_191) rfl k) ?_
          refine Go.on (B := T216.setTop (mkF m 193 #[.val (.int p1), .val (.int p2), .val (.int p3), .val (.int p4), .val (.ref b1), .val (.ref t3), .val (.ref t4), .val (.int v26_5), .val .null, .val .null, .val (.int (1 : Int32))] [(.int (lcmpW (1 : Int64) (v26_5.toInt64))), (.int (1 : Int32))])) (fun t k => XS.lcmp X216.here hx rfl (hb hby at_192) rfl k) ?_
          have hc193_217 : (1 : Int64) = (v26_5.toInt64) := by
            have q := own_n3 _ _ hv26_5
            have u0 := hc66_193
            rw [Int32.lt_iff_toInt_lt, show (1 : Int32).toInt = 1 from by decide] at u0
            have u1 := hc96_210
            rw [Int32.lt_iff_toInt_lt, show (2 : Int32).toInt = 2 from by decide] at u1
            have u2 := hc126_211
            rw [Int32.lt_iff_toInt_lt, show (3 : Int32).toInt = 3 from by decide] at u2
            exact own_is 1 (by omega) (by decide)
          refine Go.on (B := T216.setTop (mkF m 196 #[.val (.int p1), .val (.int p2), .val (.int p3), .val (.int p4), .val (.ref b1), .val (.ref t3), .val (.ref t4), .val (.int v26_5), .val .null, .val .null, .val (.int (1 : Int32))] [(.int (1 : Int32))])) (fun t k => XS.ifNo X216.here hx rfl (hb hby at_193) rfl ((if0 _ _).trans (teq ((lw_eq _ _).mpr hc193_217)).2) k) ?_
          refine Go.on (B := T216.setTop (mkF m 197 #[.val (.int p1), .val (.int p2), .val (.int p3), .val (.int p4), .val (.ref b1), .val (.ref t3), .val (.ref t4), .val (.int v26_5), .val .null, .val .null, .val (.int (1 : Int32))] [(.int (1 : Int32)), (.int (1 : Int32))])) (fun t k => XS.iconst X216.here hx rfl (hb hby at_196) k) ?_
          refine Go.on (B := T216.setTop (mkF m 201 #[.val (.int p1), .val (.int p2), .val (.int p3), .val (.int p4), .val (.ref b1), .val (.ref t3), .val (.ref t4), .val (.int v26_5), .val .null, .val .null, .val (.int (1 : Int32))] [(.int (1 : Int32)), (.int (1 : Int32))])) (fun t k => XS.goto X216.here hx rfl (pc0 := 197) (pc' := 201) rfl (hb hby at_197) (by decide) (by decide) k) ?_
          refine Go.on (B := T216.setTop (mkF m 202 #[.val (.int p1), .val (.int p2), .val (.int p3), .val (.int p4), .val (.ref b1), .val (.ref t3), .val (.ref t4), .val (.int v26_5), .val .null, .val .null, .val (.int (1 : Int32))] [(.int ((1 : Int32) &&& (1 : Int32)))])) (fun t k => XS.iand X216.here hx rfl (hb hby at_201) rfl k) ?_
          rw [show ((1 : Int32) &&& (1 : Int32)) = (1 : Int32) from by decide]
          refine Go.on (B := T216.setTop (mkF m 204 #[.val (.int p1), .val (.int p2), .val (.int p3), .val (.int p4), .val (.ref b1), .val (.ref t3), .val (.ref t4), .val (.int v26_5), .val .null, .val .null, .val (.int (1 : Int32))] [])) (fun t k => XS.istore X216.here hx rfl (hb hby at_202) rfl (l' := #[.val (.int p1), .val (.int p2), .val (.int p3), .val (.int p4), .val (.ref b1), .val (.ref t3), .val (.ref t4), .val (.int v26_5), .val .null, .val .null, .val (.int (1 : Int32))]) rfl k) ?_
          refine Go.on (B := T216.setTop (mkF m 206 #[.val (.int p1), .val (.int p2), .val (.int p3), .val (.int p4), .val (.ref b1), .val (.ref t3), .val (.ref t4), .val (.int v26_5), .val .null, .val .null, .val (.int (1 : Int32))] [(.int (1 : Int32))])) (fun t k => XS.iload X216.here hx rfl (hb hby at_204) rfl k) ?_
          refine Go.on (B := T216.setTop (mkF m 208 #[.val (.int p1), .val (.int p2), .val (.int p3), .val (.int p4), .val (.ref b1), .val (.ref t3), .val (.ref t4), .val (.int v26_5), .val .null, .val .null, .val (.int (1 : Int32))] [(.ref b1), (.int (1 : Int32))])) (fun t k => XS.aload X216.here hx rfl (hb hby at_206) rfl rfl k) ?_
          refine Go.on (B := T216.setTop (mkF m 210 #[.val (.int p1), .val (.int p2), .val (.int p3), .val (.int p4), .val (.ref b1), .val (.ref t3), .val (.ref t4), .val (.int v26_5), .val .null, .val .null, .val (.int (1 : Int32))] [(.ref t4), (.ref b1), (.int (1 : Int32))])) (fun t k => XS.aload X216.here hx rfl (hb hby at_208) rfl rfl k) ?_
          obtain ⟨cq219, kq219, q219a, q219b, q219c⟩ := isOf hZ e216q f385
          obtain ⟨_, _, ⟨T219, L219, k219, n219⟩, -, X219, ⟨Lc219, hQ219, l219, y219, z219⟩, st219⟩ := X216.virtualBack hx (y := (⟨"com/example/tailrace/tailrace/cli/Count", "getResult", "(Lcom/example/tailrace/tailrace/cli/Count$Tally;)Ljava/lang/Long;"⟩ : MethodName)) (z := (⟨"com/example/tailrace/tailrace/cli/Count", "getResult", "(Lcom/example/tailrace/tailrace/cli/Count$Tally;)Ljava/lang/Long;"⟩ : MethodName)) hown (mvT hZ (hw _ (List.mem_of_getElem? (i := 35) rfl))) (mvT hZ (hw _ (List.mem_of_getElem? (i := 36) rfl))) (notFace_of_selects (args := #[]) (mvT hZ (hw _ (List.mem_of_getElem? (i := 38) rfl)))) (mvT hZ (hw _ (List.mem_of_getElem? (i := 38) rfl))) (mvT hZ (hw _ (List.mem_of_getElem? (i := 37) rfl))) (by decide) (backOf (W := 1) (rgr l Z a0 hw [] b1 t4 (1 : Int64) ca cc T215.heap n0 Zs390 f389 O_384 S_cache B_cache (by decide) (by decide)) hZ (hw _ (List.mem_of_getElem? (i := 39) rfl)) (hw _ (List.mem_of_getElem? (i := 2) rfl)) (by decide) (by decide)) q219a q219c (g := (mkF m 210 #[.val (.int p1), .val (.int p2), .val (.int p3), .val (.int p4), .val (.ref b1), .val (.ref t3), .val (.ref t4), .val (.int v26_5), .val .null, .val .null, .val (.int (1 : Int32))] [(.ref t4), (.ref b1), (.int (1 : Int32))])) rfl (by rw [hml]; rfl) (Steps.refl _) (argsL := [(.ref t4)]) (rest := [(.int (1 : Int32))]) (lenOf pd_6 rfl) rfl (by show 2 * 0 + _ ≤ _; exact Nat.le_of_eq rfl) (hb hby at_210) (fun _ _ => ⟨rfl, e216q, (by decide : 3 + 0 ≤ _), (by decide : 2 + 0 ≤ _)⟩)
          dsimp only [Pt.U, Pt.locs, Pt.cells, Pt.slots] at X219 l219 y219 z219 st219 hQ219
          subst l219 y219 z219
          obtain ⟨⟨x219, rfl, G219a, G219b⟩, N219q, K219q⟩ := hQ219
          have N219 := Fr.app N216 N219q
          have O_391 := O_384.keep K219q all0
          have f392 := f385.keep K219q
          have f393 := f386.keep K219q
          have f394 := f387.keep K219q
          have f395 := f388.keep K219q nin0
          have f396 := f389.keep K219q nin0
          have f397 := G215a.keep K219q
          have f398 := G215b.keep K219q nin0
          have Zs399 := Nat.le_trans Zs390 K219q.1
          refine Go.on (B := T219.setTop (mkF m 213 #[.val (.int p1), .val (.int p2), .val (.int p3), .val (.int p4), .val (.ref b1), .val (.ref t3), .val (.ref t4), .val (.int v26_5), .val .null, .val .null, .val (.int (1 : Int32))] [(.ref x219), (.int (1 : Int32))])) (fun t k => st219.trans k) ?_
          obtain ⟨cq220, kq220, q220a, q220b, q220c⟩ := isOf hZ rfl G219a
          obtain ⟨_, _, ⟨T220, L220, k220, n220⟩, -, X220, ⟨Lc220, hQ220, l220, y220, z220⟩, st220⟩ := X219.virtualBack hx (y := (⟨"java/lang/Long", "longValue", "()J"⟩ : MethodName)) (z := (⟨"java/lang/Long", "longValue", "()J"⟩ : MethodName)) hown (mvT hZ (hw _ (List.mem_of_getElem? (i := 48) rfl))) (mvT hZ (hw _ (List.mem_of_getElem? (i := 49) rfl))) (notFace_of_selects (args := #[]) (mvT hZ (hw _ (List.mem_of_getElem? (i := 51) rfl)))) (mvT hZ (hw _ (List.mem_of_getElem? (i := 51) rfl))) (mvT hZ (hw _ (List.mem_of_getElem? (i := 50) rfl))) (by decide) (backOf (W := 1) (rval l Z a0 hw [] x219 (1 : Int64) T219.heap n0 Zs399 G219b) hZ (hw _ (List.mem_of_getElem? (i := 52) rfl)) (hw _ (List.mem_of_getElem? (i := 42) rfl)) (by decide) (by decide)) q220a q220c (g := (mkF m 213 #[.val (.int p1), .val (.int p2), .val (.int p3), .val (.int p4), .val (.ref b1), .val (.ref t3), .val (.ref t4), .val (.int v26_5), .val .null, .val .null, .val (.int (1 : Int32))] [(.ref x219), (.int (1 : Int32))])) rfl (by rw [hml]; rfl) (Steps.refl _) (argsL := []) (rest := [(.int (1 : Int32))]) (lenOf pd_7 rfl) rfl (by show 2 * 0 + _ ≤ _; exact Nat.le_of_eq rfl) (hb hby at_213) (fun _ _ => ⟨rfl, rfl, (by decide : 3 + 0 ≤ _), (by decide : 2 + 0 ≤ _)⟩)
          dsimp only [Pt.U, Pt.locs, Pt.cells, Pt.slots] at X220 l220 y220 z220 st220 hQ220
          subst l220 y220 z220
          obtain ⟨rfl, N220q, e220q⟩ := hQ220
          have N220 := Fr.app N219 N220q
          refine Go.on (B := T220.setTop (mkF m 216 #[.val (.int p1), .val (.int p2), .val (.int p3), .val (.int p4), .val (.ref b1), .val (.ref t3), .val (.ref t4), .val (.int v26_5), .val .null, .val .null, .val (.int (1 : Int32))] [(.long (1 : Int64)), (.int (1 : Int32))])) (fun t k => st220.trans k) ?_
          refine Go.on (B := T220.setTop (mkF m 217 #[.val (.int p1), .val (.int p2), .val (.int p3), .val (.int p4), .val (.ref b1), .val (.ref t3), .val (.ref t4), .val (.int v26_5), .val .null, .val .null, .val (.int (1 : Int32))] [(.long (1 : Int64)), (.long (1 : Int64)), (.int (1 : Int32))])) (fun t k => XS.lconst X220.here hx rfl (hb hby at_216) k) ?_
          refine Go.on (B := T220.setTop (mkF m 218 #[.val (.int p1), .val (.int p2), .val (.int p3), .val (.int p4), .val (.ref b1), .val (.ref t3), .val (.ref t4), .val (.int v26_5), .val .null, .val .null, .val (.int (1 : Int32))] [(.int (lcmpW (1 : Int64) (1 : Int64))), (.int (1 : Int32))])) (fun t k => XS.lcmp X220.here hx rfl (hb hby at_217) rfl k) ?_
          have hc218_221 : (1 : Int64) = (1 : Int64) := by decide
          refine Go.on (B := T220.setTop (mkF m 221 #[.val (.int p1), .val (.int p2), .val (.int p3), .val (.int p4), .val (.ref b1), .val (.ref t3), .val (.ref t4), .val (.int v26_5), .val .null, .val .null, .val (.int (1 : Int32))] [(.int (1 : Int32))])) (fun t k => XS.ifNo X220.here hx rfl (hb hby at_218) rfl ((if0 _ _).trans (teq ((lw_eq _ _).mpr hc218_221)).2) k) ?_
          refine Go.on (B := T220.setTop (mkF m 222 #[.val (.int p1), .val (.int p2), .val (.int p3), .val (.int p4), .val (.ref b1), .val (.ref t3), .val (.ref t4), .val (.int v26_5), .val .null, .val .null, .val (.int (1 : Int32))] [(.int (1 : Int32)), (.int (1 : Int32))])) (fun t k => XS.iconst X220.here hx rfl (hb hby at_221) k) ?_
          refine Go.on (B := T220.setTop (mkF m 226 #[.val (.int p1), .val (.int p2), .val (.int p3), .val (.int p4), .val (.ref b1), .val (.ref t3), .val (.ref t4), .val (.int v26_5), .val .null, .val .null, .val (.int (1 : Int32))] [(.int (1 : Int32)), (.int (1 : Int32))])) (fun t k => XS.goto X220.here hx rfl (pc0 := 222) (pc' := 226) rfl (hb hby at_222) (by decide) (by decide) k) ?_
          refine Go.on (B := T220.setTop (mkF m 227 #[.val (.int p1), .val (.int p2), .val (.int p3), .val (.int p4), .val (.ref b1), .val (.ref t3), .val (.ref t4), .val (.int v26_5), .val .null, .val .null, .val (.int (1 : Int32))] [(.int ((1 : Int32) &&& (1 : Int32)))])) (fun t k => XS.iand X220.here hx rfl (hb hby at_226) rfl k) ?_
          rw [show ((1 : Int32) &&& (1 : Int32)) = (1 : Int32) from by decide]
          refine Go.on (B := T220.setTop (mkF m 229 #[.val (.int p1), .val (.int p2), .val (.int p3), .val (.int p4), .val (.ref b1), .val (.ref t3), .val (.ref t4), .val (.int v26_5), .val .null, .val .null, .val (.int (1 : Int32))] [])) (fun t k => XS.istore X220.here hx rfl (hb hby at_227) rfl (l' := #[.val (.int p1), .val (.int p2), .val (.int p3), .val (.int p4), .val (.ref b1), .val (.ref t3), .val (.ref t4), .val (.int v26_5), .val .null, .val .null, .val (.int (1 : Int32))]) rfl k) ?_
          refine Go.on (B := T220.setTop (mkF m 231 #[.val (.int p1), .val (.int p2), .val (.int p3), .val (.int p4), .val (.ref b1), .val (.ref t3), .val (.ref t4), .val (.int v26_5), .val .null, .val .null, .val (.int (1 : Int32))] [(.int (1 : Int32))])) (fun t k => XS.iload X220.here hx rfl (hb hby at_229) rfl k) ?_
          obtain ⟨fs, hr, hrun, hended, hW, hsame⟩ := X220.leave (v := some (.int (1 : Int32))) (fun h => by rw [Bd.returns] at h; cases h)
          refine ⟨_, _, ?_, hrun, hended, _, _, rfl, ?_, ⟨_, rfl⟩, hW, hsame.mono (by decide) (by decide)⟩
          · exact retN X220 hx (t := .boolean) Bd.returns (by simp) (hb hby at_231) hr
          · show Q_rm0 Z p1 p2 p3 p4 ca cc ica icc h0 n0 _ T220.heap _
            rw [e220q]
            exact ⟨rfl, N220⟩
        · refine Go.on (B := T207.setTop (mkF m 99 #[.val (.int p1), .val (.int p2), .val (.int p3), .val (.int p4), .val (.ref b1), .val (.ref t3), .val (.ref t4), .val (.int v26_5), .val .null, .val .null, .val (.int (1 : Int32))] [])) (fun t k => XS.icmpNo X207.here hx rfl (hb hby at_96) rfl (flt hc96_210).1 k) ?_
          refine Go.on (B := T207.setTop (mkF m 101 #[.val (.int p1), .val (.int p2), .val (.int p3), .val (.int p4), .val (.ref b1), .val (.ref t3), .val (.ref t4), .val (.int v26_5), .val .null, .val .null, .val (.int (1 : Int32))] [(.int (1 : Int32))])) (fun t k => XS.iload X207.here hx rfl (hb hby at_99) rfl k) ?_
          refine Go.on (B := T207.setTop (mkF m 103 #[.val (.int p1), .val (.int p2), .val (.int p3), .val (.int p4), .val (.ref b1), .val (.ref t3), .val (.ref t4), .val (.int v26_5), .val .null, .val .null, .val (.int (1 : Int32))] [(.ref b1), (.int (1 : Int32))])) (fun t k => XS.aload X207.here hx rfl (hb hby at_101) rfl rfl k) ?_
          refine Go.on (B := T207.setTop (mkF m 105 #[.val (.int p1), .val (.int p2), .val (.int p3), .val (.int p4), .val (.ref b1), .val (.ref t3), .val (.ref t4), .val (.int v26_5), .val .null, .val .null, .val (.int (1 : Int32))] [.null, (.ref b1), (.int (1 : Int32))])) (fun t k => XS.aload X207.here hx rfl (hb hby at_103) rfl rfl k) ?_
          refine Go.on (B := T207.setTop (mkF m 107 #[.val (.int p1), .val (.int p2), .val (.int p3), .val (.int p4), .val (.ref b1), .val (.ref t3), .val (.ref t4), .val (.int v26_5), .val .null, .val .null, .val (.int (1 : Int32))] [(.ref t3), .null, (.ref b1), (.int (1 : Int32))])) (fun t k => XS.aload X207.here hx rfl (hb hby at_105) rfl rfl k) ?_
          obtain ⟨cq223, kq223, q223a, q223b, q223c⟩ := isOf hZ rfl f373
          obtain ⟨_, _, ⟨T223, L223, k223, n223⟩, -, X223, ⟨Lc223, hQ223, l223, y223, z223⟩, st223⟩ := X207.virtualBack hx (y := (⟨"com/example/tailrace/tailrace/cli/Count", "add", "(Ljava/lang/Object;Lcom/example/tailrace/tailrace/cli/Count$Tally;)Lcom/example/tailrace/tailrace/cli/Count$Tally;"⟩ : MethodName)) (z := (⟨"com/example/tailrace/tailrace/cli/Count", "add", "(Ljava/lang/Object;Lcom/example/tailrace/tailrace/cli/Count$Tally;)Lcom/example/tailrace/tailrace/cli/Count$Tally;"⟩ : MethodName)) hown (mvT hZ (hw _ (List.mem_of_getElem? (i := 28) rfl))) (mvT hZ (hw _ (List.mem_of_getElem? (i := 29) rfl))) (notFace_of_selects (args := #[]) (mvT hZ (hw _ (List.mem_of_getElem? (i := 31) rfl)))) (mvT hZ (hw _ (List.mem_of_getElem? (i := 31) rfl))) (mvT hZ (hw _ (List.mem_of_getElem? (i := 30) rfl))) (by decide) (backOf (W := 1) (radd0 l Z a0 hw [] b1 t3 (1 : Int64) T207.heap n0 Zs377 G207a G207b ge_t3) hZ (hw _ (List.mem_of_getElem? (i := 32) rfl)) (hw _ (List.mem_of_getElem? (i := 2) rfl)) (by decide) (by decide)) q223a q223c (g := (mkF m 107 #[.val (.int p1), .val (.int p2), .val (.int p3), .val (.int p4), .val (.ref b1), .val (.ref t3), .val (.ref t4), .val (.int v26_5), .val .null, .val .null, .val (.int (1 : Int32))] [(.ref t3), .null, (.ref b1), (.int (1 : Int32))])) rfl (by rw [hml]; rfl) (Steps.refl _) (argsL := [.null, (.ref t3)]) (rest := [(.int (1 : Int32))]) (lenOf pd_5 rfl) rfl (by show 2 * 0 + _ ≤ _; exact Nat.le_of_eq rfl) (hb hby at_107) (fun _ _ => ⟨rfl, rfl, (by decide : 3 + 0 ≤ _), (by decide : 2 + 0 ≤ _)⟩)
          dsimp only [Pt.U, Pt.locs, Pt.cells, Pt.slots] at X223 l223 y223 z223 st223 hQ223
          subst l223 y223 z223
          obtain ⟨rfl, N223q, K223q, G223a, G223b⟩ := hQ223
          have N223 := Fr.app N207 N223q
          have O_400 := O_372.keep K223q (allS ge_t3 all0)
          have f401 := f373.keep K223q
          have f402 := G207a.keep K223q
          have f403 := f375.keep K223q
          have f404 := f376.keep K223q (ninS (Ne.symm ne_t3_t4) nin0)
          have Zs405 := Nat.le_trans Zs377 K223q.1
          rw [show ((1 : Int64) + (1 : Int64)) = (2 : Int64) from by decide] at G223b
          refine Go.on (B := T223.setTop (mkF m 110 #[.val (.int p1), .val (.int p2), .val (.int p3), .val (.int p4), .val (.ref b1), .val (.ref t3), .val (.ref t4), .val (.int v26_5), .val .null, .val .null, .val (.int (1 : Int32))] [(.ref t3), (.int (1 : Int32))])) (fun t k => st223.trans k) ?_
          refine Go.on (B := T223.setTop (mkF m 112 #[.val (.int p1), .val (.int p2), .val (.int p3), .val (.int p4), .val (.ref b1), .val (.ref t3), .val (.ref t4), .val (.int v26_5), .val .null, .val .null, .val (.int (1 : Int32))] [(.ref t3), (.ref t3), (.int (1 : Int32))])) (fun t k => XS.aload X223.here hx rfl (hb hby at_110) rfl rfl k) ?_
          refine Go.on (B := T223.setTop (mkF m 115 #[.val (.int p1), .val (.int p2), .val (.int p3), .val (.int p4), .val (.ref b1), .val (.ref t3), .val (.ref t4), .val (.int v26_5), .val .null, .val .null, .val (.int (1 : Int32))] [(.int (1 : Int32))])) (fun t k => Jvm.RoadKit.acmp (g := (mkF m 112 #[.val (.int p1), .val (.int p2), .val (.int p3), .val (.int p4), .val (.ref b1), .val (.ref t3), .val (.ref t4), .val (.int v26_5), .val .null, .val .null, .val (.int (1 : Int32))] [(.ref t3), (.ref t3), (.int (1 : Int32))])) X223 hx rfl rfl rfl (pc0 := 112) (pc' := 115) (same := true) rfl (hb hby at_112) rfl (decide_eq_true rfl) (by decide) (by decide) k) ?_
          refine Go.on (B := T223.setTop (mkF m 116 #[.val (.int p1), .val (.int p2), .val (.int p3), .val (.int p4), .val (.ref b1), .val (.ref t3), .val (.ref t4), .val (.int v26_5), .val .null, .val .null, .val (.int (1 : Int32))] [(.int (1 : Int32)), (.int (1 : Int32))])) (fun t k => XS.iconst X223.here hx rfl (hb hby at_115) k) ?_
          refine Go.on (B := T223.setTop (mkF m 120 #[.val (.int p1), .val (.int p2), .val (.int p3), .val (.int p4), .val (.ref b1), .val (.ref t3), .val (.ref t4), .val (.int v26_5), .val .null, .val .null, .val (.int (1 : Int32))] [(.int (1 : Int32)), (.int (1 : Int32))])) (fun t k => XS.goto X223.here hx rfl (pc0 := 116) (pc' := 120) rfl (hb hby at_116) (by decide) (by decide) k) ?_
          refine Go.on (B := T223.setTop (mkF m 121 #[.val (.int p1), .val (.int p2), .val (.int p3), .val (.int p4), .val (.ref b1), .val (.ref t3), .val (.ref t4), .val (.int v26_5), .val .null, .val .null, .val (.int (1 : Int32))] [(.int ((1 : Int32) &&& (1 : Int32)))])) (fun t k => XS.iand X223.here hx rfl (hb hby at_120) rfl k) ?_
          rw [show ((1 : Int32) &&& (1 : Int32)) = (1 : Int32) from by decide]
          refine Go.on (B := T223.setTop (mkF m 123 #[.val (.int p1), .val (.int p2), .val (.int p3), .val (.int p4), .val (.ref b1), .val (.ref t3), .val (.ref t4), .val (.int v26_5), .val .null, .val .null, .val (.int (1 : Int32))] [])) (fun t k => XS.istore X223.here hx rfl (hb hby at_121) rfl (l' := #[.val (.int p1), .val (.int p2), .val (.int p3), .val (.int p4), .val (.ref b1), .val (.ref t3), .val (.ref t4), .val (.int v26_5), .val .null, .val .null, .val (.int (1 : Int32))]) rfl k) ?_
          refine Go.on (B := T223.setTop (mkF m 125 #[.val (.int p1), .val (.int p2), .val (.int p3), .val (.int p4), .val (.ref b1), .val (.ref t3), .val (.ref t4), .val (.int v26_5), .val .null, .val .null, .val (.int (1 : Int32))] [(.int v26_5)])) (fun t k => XS.iload X223.here hx rfl (hb hby at_123) rfl k) ?_
          refine Go.on (B := T223.setTop (mkF m 126 #[.val (.int p1), .val (.int p2), .val (.int p3), .val (.int p4), .val (.ref b1), .val (.ref t3), .val (.ref t4), .val (.int v26_5), .val .null, .val .null, .val (.int (1 : Int32))] [(.int (3 : Int32)), (.int v26_5)])) (fun t k => XS.iconst X223.here hx rfl (hb hby at_125) k) ?_
          by_cases hc126_226 : v26_5 < (3 : Int32)
          · refine Go.on (B := T223.setTop (mkF m 153 #[.val (.int p1), .val (.int p2), .val (.int p3), .val (.int p4), .val (.ref b1), .val (.ref t3), .val (.ref t4), .val (.int v26_5), .val .null, .val .null, .val (.int (1 : Int32))] [])) (fun t k => XS.icmpYes X223.here hx rfl (pc0 := 126) (pc' := 153) rfl (hb hby at_126) rfl (tlt hc126_226).1 (by decide) (by decide) k) ?_
            refine Go.on (B := T223.setTop (mkF m 155 #[.val (.int p1), .val (.int p2), .val (.int p3), .val (.int p4), .val (.ref b1), .val (.ref t3), .val (.ref t4), .val (.int v26_5), .val .null, .val .null, .val (.int (1 : Int32))] [(.int (1 : Int32))])) (fun t k => XS.iload X223.here hx rfl (hb hby at_153) rfl k) ?_
            refine Go.on (B := T223.setTop (mkF m 157 #[.val (.int p1), .val (.int p2), .val (.int p3), .val (.int p4), .val (.ref b1), .val (.ref t3), .val (.ref t4), .val (.int v26_5), .val .null, .val .null, .val (.int (1 : Int32))] [(.ref b1), (.int (1 : Int32))])) (fun t k => XS.aload X223.here hx rfl (hb hby at_155) rfl rfl k) ?_
            refine Go.on (B := T223.setTop (mkF m 159 #[.val (.int p1), .val (.int p2), .val (.int p3), .val (.int p4), .val (.ref b1), .val (.ref t3), .val (.ref t4), .val (.int v26_5), .val .null, .val .null, .val (.int (1 : Int32))] [.null, (.ref b1), (.int (1 : Int32))])) (fun t k => XS.aload X223.here hx rfl (hb hby at_157) rfl rfl k) ?_
            refine Go.on (B := T223.setTop (mkF m 161 #[.val (.int p1), .val (.int p2), .val (.int p3), .val (.int p4), .val (.ref b1), .val (.ref t3), .val (.ref t4), .val (.int v26_5), .val .null, .val .null, .val (.int (1 : Int32))] [(.ref t4), .null, (.ref b1), (.int (1 : Int32))])) (fun t k => XS.aload X223.here hx rfl (hb hby at_159) rfl rfl k) ?_
            obtain ⟨cq227, kq227, q227a, q227b, q227c⟩ := isOf hZ rfl f401
            obtain ⟨_, _, ⟨T227, L227, k227, n227⟩, -, X227, ⟨Lc227, hQ227, l227, y227, z227⟩, st227⟩ := X223.virtualBack hx (y := (⟨"com/example/tailrace/tailrace/cli/Count", "add", "(Ljava/lang/Object;Lcom/example/tailrace/tailrace/cli/Count$Tally;)Lcom/example/tailrace/tailrace/cli/Count$Tally;"⟩ : MethodName)) (z := (⟨"com/example/tailrace/tailrace/cli/Count", "add", "(Ljava/lang/Object;Lcom/example/tailrace/tailrace/cli/Count$Tally;)Lcom/example/tailrace/tailrace/cli/Count$Tally;"⟩ : MethodName)) hown (mvT hZ (hw _ (List.mem_of_getElem? (i := 28) rfl))) (mvT hZ (hw _ (List.mem_of_getElem? (i := 29) rfl))) (notFace_of_selects (args := #[]) (mvT hZ (hw _ (List.mem_of_getElem? (i := 31) rfl)))) (mvT hZ (hw _ (List.mem_of_getElem? (i := 31) rfl))) (mvT hZ (hw _ (List.mem_of_getElem? (i := 30) rfl))) (by decide) (backOf (W := 1) (radd0 l Z a0 hw [] b1 t4 (0 : Int64) T223.heap n0 Zs405 f403 f404 ge_t4) hZ (hw _ (List.mem_of_getElem? (i := 32) rfl)) (hw _ (List.mem_of_getElem? (i := 2) rfl)) (by decide) (by decide)) q227a q227c (g := (mkF m 161 #[.val (.int p1), .val (.int p2), .val (.int p3), .val (.int p4), .val (.ref b1), .val (.ref t3), .val (.ref t4), .val (.int v26_5), .val .null, .val .null, .val (.int (1 : Int32))] [(.ref t4), .null, (.ref b1), (.int (1 : Int32))])) rfl (by rw [hml]; rfl) (Steps.refl _) (argsL := [.null, (.ref t4)]) (rest := [(.int (1 : Int32))]) (lenOf pd_5 rfl) rfl (by show 2 * 0 + _ ≤ _; exact Nat.le_of_eq rfl) (hb hby at_161) (fun _ _ => ⟨rfl, rfl, (by decide : 3 + 0 ≤ _), (by decide : 2 + 0 ≤ _)⟩)
            dsimp only [Pt.U, Pt.locs, Pt.cells, Pt.slots] at X227 l227 y227 z227 st227 hQ227
            subst l227 y227 z227
            obtain ⟨rfl, N227q, K227q, G227a, G227b⟩ := hQ227
            have N227 := Fr.app N223 N227q
            have O_406 := O_400.keep K227q (allS ge_t4 all0)
            have f407 := f401.keep K227q
            have f408 := G223a.keep K227q
            have f409 := f403.keep K227q
            have f410 := G223b.keep K227q (ninS ne_t3_t4 nin0)
            have Zs411 := Nat.le_trans Zs405 K227q.1
            rw [show ((0 : Int64) + (1 : Int64)) = (1 : Int64) from by decide] at G227b
            refine Go.on (B := T227.setTop (mkF m 164 #[.val (.int p1), .val (.int p2), .val (.int p3), .val (.int p4), .val (.ref b1), .val (.ref t3), .val (.ref t4), .val (.int v26_5), .val .null, .val .null, .val (.int (1 : Int32))] [(.ref t4), (.int (1 : Int32))])) (fun t k => st227.trans k) ?_
            refine Go.on (B := T227.setTop (mkF m 166 #[.val (.int p1), .val (.int p2), .val (.int p3), .val (.int p4), .val (.ref b1), .val (.ref t3), .val (.ref t4), .val (.int v26_5), .val .null, .val .null, .val (.int (1 : Int32))] [(.ref t4), (.ref t4), (.int (1 : Int32))])) (fun t k => XS.aload X227.here hx rfl (hb hby at_164) rfl rfl k) ?_
            refine Go.on (B := T227.setTop (mkF m 169 #[.val (.int p1), .val (.int p2), .val (.int p3), .val (.int p4), .val (.ref b1), .val (.ref t3), .val (.ref t4), .val (.int v26_5), .val .null, .val .null, .val (.int (1 : Int32))] [(.int (1 : Int32))])) (fun t k => Jvm.RoadKit.acmp (g := (mkF m 166 #[.val (.int p1), .val (.int p2), .val (.int p3), .val (.int p4), .val (.ref b1), .val (.ref t3), .val (.ref t4), .val (.int v26_5), .val .null, .val .null, .val (.int (1 : Int32))] [(.ref t4), (.ref t4), (.int (1 : Int32))])) X227 hx rfl rfl rfl (pc0 := 166) (pc' := 169) (same := true) rfl (hb hby at_166) rfl (decide_eq_true rfl) (by decide) (by decide) k) ?_
            refine Go.on (B := T227.setTop (mkF m 170 #[.val (.int p1), .val (.int p2), .val (.int p3), .val (.int p4), .val (.ref b1), .val (.ref t3), .val (.ref t4), .val (.int v26_5), .val .null, .val .null, .val (.int (1 : Int32))] [(.int (1 : Int32)), (.int (1 : Int32))])) (fun t k => XS.iconst X227.here hx rfl (hb hby at_169) k) ?_
            refine Go.on (B := T227.setTop (mkF m 174 #[.val (.int p1), .val (.int p2), .val (.int p3), .val (.int p4), .val (.ref b1), .val (.ref t3), .val (.ref t4), .val (.int v26_5), .val .null, .val .null, .val (.int (1 : Int32))] [(.int (1 : Int32)), (.int (1 : Int32))])) (fun t k => XS.goto X227.here hx rfl (pc0 := 170) (pc' := 174) rfl (hb hby at_170) (by decide) (by decide) k) ?_
            refine Go.on (B := T227.setTop (mkF m 175 #[.val (.int p1), .val (.int p2), .val (.int p3), .val (.int p4), .val (.ref b1), .val (.ref t3), .val (.ref t4), .val (.int v26_5), .val .null, .val .null, .val (.int (1 : Int32))] [(.int ((1 : Int32) &&& (1 : Int32)))])) (fun t k => XS.iand X227.here hx rfl (hb hby at_174) rfl k) ?_
            rw [show ((1 : Int32) &&& (1 : Int32)) = (1 : Int32) from by decide]
            refine Go.on (B := T227.setTop (mkF m 177 #[.val (.int p1), .val (.int p2), .val (.int p3), .val (.int p4), .val (.ref b1), .val (.ref t3), .val (.ref t4), .val (.int v26_5), .val .null, .val .null, .val (.int (1 : Int32))] [])) (fun t k => XS.istore X227.here hx rfl (hb hby at_175) rfl (l' := #[.val (.int p1), .val (.int p2), .val (.int p3), .val (.int p4), .val (.ref b1), .val (.ref t3), .val (.ref t4), .val (.int v26_5), .val .null, .val .null, .val (.int (1 : Int32))]) rfl k) ?_
            refine Go.on (B := T227.setTop (mkF m 179 #[.val (.int p1), .val (.int p2), .val (.int p3), .val (.int p4), .val (.ref b1), .val (.ref t3), .val (.ref t4), .val (.int v26_5), .val .null, .val .null, .val (.int (1 : Int32))] [(.int (1 : Int32))])) (fun t k => XS.iload X227.here hx rfl (hb hby at_177) rfl k) ?_
            refine Go.on (B := T227.setTop (mkF m 181 #[.val (.int p1), .val (.int p2), .val (.int p3), .val (.int p4), .val (.ref b1), .val (.ref t3), .val (.ref t4), .val (.int v26_5), .val .null, .val .null, .val (.int (1 : Int32))] [(.ref b1), (.int (1 : Int32))])) (fun t k => XS.aload X227.here hx rfl (hb hby at_179) rfl rfl k) ?_
            refine Go.on (B := T227.setTop (mkF m 183 #[.val (.int p1), .val (.int p2), .val (.int p3), .val (.int p4), .val (.ref b1), .val (.ref t3), .val (.ref t4), .val (.int v26_5), .val .null, .val .null, .val (.int (1 : Int32))] [(.ref t3), (.ref b1), (.int (1 : Int32))])) (fun t k => XS.aload X227.here hx rfl (hb hby at_181) rfl rfl k) ?_
            obtain ⟨cq230, kq230, q230a, q230b, q230c⟩ := isOf hZ rfl f407
            obtain ⟨_, _, ⟨T230, L230, k230, n230⟩, -, X230, ⟨Lc230, hQ230, l230, y230, z230⟩, st230⟩ := X227.virtualBack hx (y := (⟨"com/example/tailrace/tailrace/cli/Count", "getResult", "(Lcom/example/tailrace/tailrace/cli/Count$Tally;)Ljava/lang/Long;"⟩ : MethodName)) (z := (⟨"com/example/tailrace/tailrace/cli/Count", "getResult", "(Lcom/example/tailrace/tailrace/cli/Count$Tally;)Ljava/lang/Long;"⟩ : MethodName)) hown (mvT hZ (hw _ (List.mem_of_getElem? (i := 35) rfl))) (mvT hZ (hw _ (List.mem_of_getElem? (i := 36) rfl))) (notFace_of_selects (args := #[]) (mvT hZ (hw _ (List.mem_of_getElem? (i := 38) rfl)))) (mvT hZ (hw _ (List.mem_of_getElem? (i := 38) rfl))) (mvT hZ (hw _ (List.mem_of_getElem? (i := 37) rfl))) (by decide) (backOf (W := 1) (rgr l Z a0 hw [] b1 t3 (2 : Int64) ca cc T227.heap n0 Zs411 f410 O_406 S_cache B_cache (by decide) (by decide)) hZ (hw _ (List.mem_of_getElem? (i := 39) rfl)) (hw _ (List.mem_of_getElem? (i := 2) rfl)) (by decide) (by decide)) q230a q230c (g := (mkF m 183 #[.val (.int p1), .val (.int p2), .val (.int p3), .val (.int p4), .val (.ref b1), .val (.ref t3), .val (.ref t4), .val (.int v26_5), .val .null, .val .null, .val (.int (1 : Int32))] [(.ref t3), (.ref b1), (.int (1 : Int32))])) rfl (by rw [hml]; rfl) (Steps.refl _) (argsL := [(.ref t3)]) (rest := [(.int (1 : Int32))]) (lenOf pd_6 rfl) rfl (by show 2 * 0 + _ ≤ _; exact Nat.le_of_eq rfl) (hb hby at_183) (fun _ _ => ⟨rfl, rfl, (by decide : 3 + 0 ≤ _), (by decide : 2 + 0 ≤ _)⟩)
            dsimp only [Pt.U, Pt.locs, Pt.cells, Pt.slots] at X230 l230 y230 z230 st230 hQ230
            subst l230 y230 z230
            obtain ⟨⟨x230, rfl, G230a, G230b⟩, N230q, K230q⟩ := hQ230
            have N230 := Fr.app N227 N230q
            have O_412 := O_406.keep K230q all0
            have f413 := f407.keep K230q
            have f414 := f408.keep K230q
            have f415 := G227a.keep K230q
            have f416 := f410.keep K230q nin0
            have f417 := G227b.keep K230q nin0
            have Zs418 := Nat.le_trans Zs411 K230q.1
            refine Go.on (B := T230.setTop (mkF m 186 #[.val (.int p1), .val (.int p2), .val (.int p3), .val (.int p4), .val (.ref b1), .val (.ref t3), .val (.ref t4), .val (.int v26_5), .val .null, .val .null, .val (.int (1 : Int32))] [(.ref x230), (.int (1 : Int32))])) (fun t k => st230.trans k) ?_
            obtain ⟨cq231, kq231, q231a, q231b, q231c⟩ := isOf hZ rfl G230a
            obtain ⟨_, _, ⟨T231, L231, k231, n231⟩, -, X231, ⟨Lc231, hQ231, l231, y231, z231⟩, st231⟩ := X230.virtualBack hx (y := (⟨"java/lang/Long", "longValue", "()J"⟩ : MethodName)) (z := (⟨"java/lang/Long", "longValue", "()J"⟩ : MethodName)) hown (mvT hZ (hw _ (List.mem_of_getElem? (i := 48) rfl))) (mvT hZ (hw _ (List.mem_of_getElem? (i := 49) rfl))) (notFace_of_selects (args := #[]) (mvT hZ (hw _ (List.mem_of_getElem? (i := 51) rfl)))) (mvT hZ (hw _ (List.mem_of_getElem? (i := 51) rfl))) (mvT hZ (hw _ (List.mem_of_getElem? (i := 50) rfl))) (by decide) (backOf (W := 1) (rval l Z a0 hw [] x230 (2 : Int64) T230.heap n0 Zs418 G230b) hZ (hw _ (List.mem_of_getElem? (i := 52) rfl)) (hw _ (List.mem_of_getElem? (i := 42) rfl)) (by decide) (by decide)) q231a q231c (g := (mkF m 186 #[.val (.int p1), .val (.int p2), .val (.int p3), .val (.int p4), .val (.ref b1), .val (.ref t3), .val (.ref t4), .val (.int v26_5), .val .null, .val .null, .val (.int (1 : Int32))] [(.ref x230), (.int (1 : Int32))])) rfl (by rw [hml]; rfl) (Steps.refl _) (argsL := []) (rest := [(.int (1 : Int32))]) (lenOf pd_7 rfl) rfl (by show 2 * 0 + _ ≤ _; exact Nat.le_of_eq rfl) (hb hby at_186) (fun _ _ => ⟨rfl, rfl, (by decide : 3 + 0 ≤ _), (by decide : 2 + 0 ≤ _)⟩)
            dsimp only [Pt.U, Pt.locs, Pt.cells, Pt.slots] at X231 l231 y231 z231 st231 hQ231
            subst l231 y231 z231
            obtain ⟨rfl, N231q, e231q⟩ := hQ231
            have N231 := Fr.app N230 N231q
            refine Go.on (B := T231.setTop (mkF m 189 #[.val (.int p1), .val (.int p2), .val (.int p3), .val (.int p4), .val (.ref b1), .val (.ref t3), .val (.ref t4), .val (.int v26_5), .val .null, .val .null, .val (.int (1 : Int32))] [(.long (2 : Int64)), (.int (1 : Int32))])) (fun t k => st231.trans k) ?_
            refine Go.on (B := T231.setTop (mkF m 191 #[.val (.int p1), .val (.int p2), .val (.int p3), .val (.int p4), .val (.ref b1), .val (.ref t3), .val (.ref t4), .val (.int v26_5), .val .null, .val .null, .val (.int (1 : Int32))] [(.int v26_5), (.long (2 : Int64)), (.int (1 : Int32))])) (fun t k => XS.iload X231.here hx rfl (hb hby at_189) rfl k) ?_
            refine Go.on (B := T231.setTop (mkF m 192 #[.val (.int p1), .val (.int p2), .val (.int p3), .val (.int p4), .val (.ref b1), .val (.ref t3), .val (.ref t4), .val (.int v26_5), .val .null, .val .null, .val (.int (1 : Int32))] [(.long (v26_5.toInt64)), (.long (2 : Int64)), (.int (1 : Int32))])) (fun t k => XS.i2l X231.here hx rfl (hb hby at_191) rfl k) ?_
            refine Go.on (B := T231.setTop (mkF m 193 #[.val (.int p1), .val (.int p2), .val (.int p3), .val (.int p4), .val (.ref b1), .val (.ref t3), .val (.ref t4), .val (.int v26_5), .val .null, .val .null, .val (.int (1 : Int32))] [(.int (lcmpW (2 : Int64) (v26_5.toInt64))), (.int (1 : Int32))])) (fun t k => XS.lcmp X231.here hx rfl (hb hby at_192) rfl k) ?_
            have hc193_232 : (2 : Int64) = (v26_5.toInt64) := by
              have q := own_n3 _ _ hv26_5
              have u0 := hc66_193
              rw [Int32.lt_iff_toInt_lt, show (1 : Int32).toInt = 1 from by decide] at u0
              have u1 := hc96_210
              rw [Int32.lt_iff_toInt_lt, show (2 : Int32).toInt = 2 from by decide] at u1
              have u2 := hc126_226
              rw [Int32.lt_iff_toInt_lt, show (3 : Int32).toInt = 3 from by decide] at u2
              exact own_is 2 (by omega) (by decide)
            refine Go.on (B := T231.setTop (mkF m 196 #[.val (.int p1), .val (.int p2), .val (.int p3), .val (.int p4), .val (.ref b1), .val (.ref t3), .val (.ref t4), .val (.int v26_5), .val .null, .val .null, .val (.int (1 : Int32))] [(.int (1 : Int32))])) (fun t k => XS.ifNo X231.here hx rfl (hb hby at_193) rfl ((if0 _ _).trans (teq ((lw_eq _ _).mpr hc193_232)).2) k) ?_
            refine Go.on (B := T231.setTop (mkF m 197 #[.val (.int p1), .val (.int p2), .val (.int p3), .val (.int p4), .val (.ref b1), .val (.ref t3), .val (.ref t4), .val (.int v26_5), .val .null, .val .null, .val (.int (1 : Int32))] [(.int (1 : Int32)), (.int (1 : Int32))])) (fun t k => XS.iconst X231.here hx rfl (hb hby at_196) k) ?_
            refine Go.on (B := T231.setTop (mkF m 201 #[.val (.int p1), .val (.int p2), .val (.int p3), .val (.int p4), .val (.ref b1), .val (.ref t3), .val (.ref t4), .val (.int v26_5), .val .null, .val .null, .val (.int (1 : Int32))] [(.int (1 : Int32)), (.int (1 : Int32))])) (fun t k => XS.goto X231.here hx rfl (pc0 := 197) (pc' := 201) rfl (hb hby at_197) (by decide) (by decide) k) ?_
            refine Go.on (B := T231.setTop (mkF m 202 #[.val (.int p1), .val (.int p2), .val (.int p3), .val (.int p4), .val (.ref b1), .val (.ref t3), .val (.ref t4), .val (.int v26_5), .val .null, .val .null, .val (.int (1 : Int32))] [(.int ((1 : Int32) &&& (1 : Int32)))])) (fun t k => XS.iand X231.here hx rfl (hb hby at_201) rfl k) ?_
            rw [show ((1 : Int32) &&& (1 : Int32)) = (1 : Int32) from by decide]
            refine Go.on (B := T231.setTop (mkF m 204 #[.val (.int p1), .val (.int p2), .val (.int p3), .val (.int p4), .val (.ref b1), .val (.ref t3), .val (.ref t4), .val (.int v26_5), .val .null, .val .null, .val (.int (1 : Int32))] [])) (fun t k => XS.istore X231.here hx rfl (hb hby at_202) rfl (l' := #[.val (.int p1), .val (.int p2), .val (.int p3), .val (.int p4), .val (.ref b1), .val (.ref t3), .val (.ref t4), .val (.int v26_5), .val .null, .val .null, .val (.int (1 : Int32))]) rfl k) ?_
            refine Go.on (B := T231.setTop (mkF m 206 #[.val (.int p1), .val (.int p2), .val (.int p3), .val (.int p4), .val (.ref b1), .val (.ref t3), .val (.ref t4), .val (.int v26_5), .val .null, .val .null, .val (.int (1 : Int32))] [(.int (1 : Int32))])) (fun t k => XS.iload X231.here hx rfl (hb hby at_204) rfl k) ?_
            refine Go.on (B := T231.setTop (mkF m 208 #[.val (.int p1), .val (.int p2), .val (.int p3), .val (.int p4), .val (.ref b1), .val (.ref t3), .val (.ref t4), .val (.int v26_5), .val .null, .val .null, .val (.int (1 : Int32))] [(.ref b1), (.int (1 : Int32))])) (fun t k => XS.aload X231.here hx rfl (hb hby at_206) rfl rfl k) ?_
            refine Go.on (B := T231.setTop (mkF m 210 #[.val (.int p1), .val (.int p2), .val (.int p3), .val (.int p4), .val (.ref b1), .val (.ref t3), .val (.ref t4), .val (.int v26_5), .val .null, .val .null, .val (.int (1 : Int32))] [(.ref t4), (.ref b1), (.int (1 : Int32))])) (fun t k => XS.aload X231.here hx rfl (hb hby at_208) rfl rfl k) ?_
            obtain ⟨cq234, kq234, q234a, q234b, q234c⟩ := isOf hZ e231q f413
            obtain ⟨_, _, ⟨T234, L234, k234, n234⟩, -, X234, ⟨Lc234, hQ234, l234, y234, z234⟩, st234⟩ := X231.virtualBack hx (y := (⟨"com/example/tailrace/tailrace/cli/Count", "getResult", "(Lcom/example/tailrace/tailrace/cli/Count$Tally;)Ljava/lang/Long;"⟩ : MethodName)) (z := (⟨"com/example/tailrace/tailrace/cli/Count", "getResult", "(Lcom/example/tailrace/tailrace/cli/Count$Tally;)Ljava/lang/Long;"⟩ : MethodName)) hown (mvT hZ (hw _ (List.mem_of_getElem? (i := 35) rfl))) (mvT hZ (hw _ (List.mem_of_getElem? (i := 36) rfl))) (notFace_of_selects (args := #[]) (mvT hZ (hw _ (List.mem_of_getElem? (i := 38) rfl)))) (mvT hZ (hw _ (List.mem_of_getElem? (i := 38) rfl))) (mvT hZ (hw _ (List.mem_of_getElem? (i := 37) rfl))) (by decide) (backOf (W := 1) (rgr l Z a0 hw [] b1 t4 (1 : Int64) ca cc T230.heap n0 Zs418 f417 O_412 S_cache B_cache (by decide) (by decide)) hZ (hw _ (List.mem_of_getElem? (i := 39) rfl)) (hw _ (List.mem_of_getElem? (i := 2) rfl)) (by decide) (by decide)) q234a q234c (g := (mkF m 210 #[.val (.int p1), .val (.int p2), .val (.int p3), .val (.int p4), .val (.ref b1), .val (.ref t3), .val (.ref t4), .val (.int v26_5), .val .null, .val .null, .val (.int (1 : Int32))] [(.ref t4), (.ref b1), (.int (1 : Int32))])) rfl (by rw [hml]; rfl) (Steps.refl _) (argsL := [(.ref t4)]) (rest := [(.int (1 : Int32))]) (lenOf pd_6 rfl) rfl (by show 2 * 0 + _ ≤ _; exact Nat.le_of_eq rfl) (hb hby at_210) (fun _ _ => ⟨rfl, e231q, (by decide : 3 + 0 ≤ _), (by decide : 2 + 0 ≤ _)⟩)
            dsimp only [Pt.U, Pt.locs, Pt.cells, Pt.slots] at X234 l234 y234 z234 st234 hQ234
            subst l234 y234 z234
            obtain ⟨⟨x234, rfl, G234a, G234b⟩, N234q, K234q⟩ := hQ234
            have N234 := Fr.app N231 N234q
            have O_419 := O_412.keep K234q all0
            have f420 := f413.keep K234q
            have f421 := f414.keep K234q
            have f422 := f415.keep K234q
            have f423 := f416.keep K234q nin0
            have f424 := f417.keep K234q nin0
            have f425 := G230a.keep K234q
            have f426 := G230b.keep K234q nin0
            have Zs427 := Nat.le_trans Zs418 K234q.1
            refine Go.on (B := T234.setTop (mkF m 213 #[.val (.int p1), .val (.int p2), .val (.int p3), .val (.int p4), .val (.ref b1), .val (.ref t3), .val (.ref t4), .val (.int v26_5), .val .null, .val .null, .val (.int (1 : Int32))] [(.ref x234), (.int (1 : Int32))])) (fun t k => st234.trans k) ?_
            obtain ⟨cq235, kq235, q235a, q235b, q235c⟩ := isOf hZ rfl G234a
            obtain ⟨_, _, ⟨T235, L235, k235, n235⟩, -, X235, ⟨Lc235, hQ235, l235, y235, z235⟩, st235⟩ := X234.virtualBack hx (y := (⟨"java/lang/Long", "longValue", "()J"⟩ : MethodName)) (z := (⟨"java/lang/Long", "longValue", "()J"⟩ : MethodName)) hown (mvT hZ (hw _ (List.mem_of_getElem? (i := 48) rfl))) (mvT hZ (hw _ (List.mem_of_getElem? (i := 49) rfl))) (notFace_of_selects (args := #[]) (mvT hZ (hw _ (List.mem_of_getElem? (i := 51) rfl)))) (mvT hZ (hw _ (List.mem_of_getElem? (i := 51) rfl))) (mvT hZ (hw _ (List.mem_of_getElem? (i := 50) rfl))) (by decide) (backOf (W := 1) (rval l Z a0 hw [] x234 (1 : Int64) T234.heap n0 Zs427 G234b) hZ (hw _ (List.mem_of_getElem? (i := 52) rfl)) (hw _ (List.mem_of_getElem? (i := 42) rfl)) (by decide) (by decide)) q235a q235c (g := (mkF m 213 #[.val (.int p1), .val (.int p2), .val (.int p3), .val (.int p4), .val (.ref b1), .val (.ref t3), .val (.ref t4), .val (.int v26_5), .val .null, .val .null, .val (.int (1 : Int32))] [(.ref x234), (.int (1 : Int32))])) rfl (by rw [hml]; rfl) (Steps.refl _) (argsL := []) (rest := [(.int (1 : Int32))]) (lenOf pd_7 rfl) rfl (by show 2 * 0 + _ ≤ _; exact Nat.le_of_eq rfl) (hb hby at_213) (fun _ _ => ⟨rfl, rfl, (by decide : 3 + 0 ≤ _), (by decide : 2 + 0 ≤ _)⟩)
            dsimp only [Pt.U, Pt.locs, Pt.cells, Pt.slots] at X235 l235 y235 z235 st235 hQ235
            subst l235 y235 z235
            obtain ⟨rfl, N235q, e235q⟩ := hQ235
            have N235 := Fr.app N234 N235q
            refine Go.on (B := T235.setTop (mkF m 216 #[.val (.int p1), .val (.int p2), .val (.int p3), .val (.int p4), .val (.ref b1), .val (.ref t3), .val (.ref t4), .val (.int v26_5), .val .null, .val .null, .val (.int (1 : Int32))] [(.long (1 : Int64)), (.int (1 : Int32))])) (fun t k => st235.trans k) ?_
            refine Go.on (B := T235.setTop (mkF m 217 #[.val (.int p1), .val (.int p2), .val (.int p3), .val (.int p4), .val (.ref b1), .val (.ref t3), .val (.ref t4), .val (.int v26_5), .val .null, .val .null, .val (.int (1 : Int32))] [(.long (1 : Int64)), (.long (1 : Int64)), (.int (1 : Int32))])) (fun t k => XS.lconst X235.here hx rfl (hb hby at_216) k) ?_
            refine Go.on (B := T235.setTop (mkF m 218 #[.val (.int p1), .val (.int p2), .val (.int p3), .val (.int p4), .val (.ref b1), .val (.ref t3), .val (.ref t4), .val (.int v26_5), .val .null, .val .null, .val (.int (1 : Int32))] [(.int (lcmpW (1 : Int64) (1 : Int64))), (.int (1 : Int32))])) (fun t k => XS.lcmp X235.here hx rfl (hb hby at_217) rfl k) ?_
            have hc218_236 : (1 : Int64) = (1 : Int64) := by decide
            refine Go.on (B := T235.setTop (mkF m 221 #[.val (.int p1), .val (.int p2), .val (.int p3), .val (.int p4), .val (.ref b1), .val (.ref t3), .val (.ref t4), .val (.int v26_5), .val .null, .val .null, .val (.int (1 : Int32))] [(.int (1 : Int32))])) (fun t k => XS.ifNo X235.here hx rfl (hb hby at_218) rfl ((if0 _ _).trans (teq ((lw_eq _ _).mpr hc218_236)).2) k) ?_
            refine Go.on (B := T235.setTop (mkF m 222 #[.val (.int p1), .val (.int p2), .val (.int p3), .val (.int p4), .val (.ref b1), .val (.ref t3), .val (.ref t4), .val (.int v26_5), .val .null, .val .null, .val (.int (1 : Int32))] [(.int (1 : Int32)), (.int (1 : Int32))])) (fun t k => XS.iconst X235.here hx rfl (hb hby at_221) k) ?_
            refine Go.on (B := T235.setTop (mkF m 226 #[.val (.int p1), .val (.int p2), .val (.int p3), .val (.int p4), .val (.ref b1), .val (.ref t3), .val (.ref t4), .val (.int v26_5), .val .null, .val .null, .val (.int (1 : Int32))] [(.int (1 : Int32)), (.int (1 : Int32))])) (fun t k => XS.goto X235.here hx rfl (pc0 := 222) (pc' := 226) rfl (hb hby at_222) (by decide) (by decide) k) ?_
            refine Go.on (B := T235.setTop (mkF m 227 #[.val (.int p1), .val (.int p2), .val (.int p3), .val (.int p4), .val (.ref b1), .val (.ref t3), .val (.ref t4), .val (.int v26_5), .val .null, .val .null, .val (.int (1 : Int32))] [(.int ((1 : Int32) &&& (1 : Int32)))])) (fun t k => XS.iand X235.here hx rfl (hb hby at_226) rfl k) ?_
            rw [show ((1 : Int32) &&& (1 : Int32)) = (1 : Int32) from by decide]
            refine Go.on (B := T235.setTop (mkF m 229 #[.val (.int p1), .val (.int p2), .val (.int p3), .val (.int p4), .val (.ref b1), .val (.ref t3), .val (.ref t4), .val (.int v26_5), .val .null, .val .null, .val (.int (1 : Int32))] [])) (fun t k => XS.istore X235.here hx rfl (hb hby at_227) rfl (l' := #[.val (.int p1), .val (.int p2), .val (.int p3), .val (.int p4), .val (.ref b1), .val (.ref t3), .val (.ref t4), .val (.int v26_5), .val .null, .val .null, .val (.int (1 : Int32))]) rfl k) ?_
            refine Go.on (B := T235.setTop (mkF m 231 #[.val (.int p1), .val (.int p2), .val (.int p3), .val (.int p4), .val (.ref b1), .val (.ref t3), .val (.ref t4), .val (.int v26_5), .val .null, .val .null, .val (.int (1 : Int32))] [(.int (1 : Int32))])) (fun t k => XS.iload X235.here hx rfl (hb hby at_229) rfl k) ?_
            obtain ⟨fs, hr, hrun, hended, hW, hsame⟩ := X235.leave (v := some (.int (1 : Int32))) (fun h => by rw [Bd.returns] at h; cases h)
            refine ⟨_, _, ?_, hrun, hended, _, _, rfl, ?_, ⟨_, rfl⟩, hW, hsame.mono (by decide) (by decide)⟩
            · exact retN X235 hx (t := .boolean) Bd.returns (by simp) (hb hby at_231) hr
            · show Q_rm0 Z p1 p2 p3 p4 ca cc ica icc h0 n0 _ T235.heap _
              rw [e235q]
              exact ⟨rfl, N235⟩
          · refine Go.on (B := T223.setTop (mkF m 129 #[.val (.int p1), .val (.int p2), .val (.int p3), .val (.int p4), .val (.ref b1), .val (.ref t3), .val (.ref t4), .val (.int v26_5), .val .null, .val .null, .val (.int (1 : Int32))] [])) (fun t k => XS.icmpNo X223.here hx rfl (hb hby at_126) rfl (flt hc126_226).1 k) ?_
            refine Go.on (B := T223.setTop (mkF m 131 #[.val (.int p1), .val (.int p2), .val (.int p3), .val (.int p4), .val (.ref b1), .val (.ref t3), .val (.ref t4), .val (.int v26_5), .val .null, .val .null, .val (.int (1 : Int32))] [(.int (1 : Int32))])) (fun t k => XS.iload X223.here hx rfl (hb hby at_129) rfl k) ?_
            refine Go.on (B := T223.setTop (mkF m 133 #[.val (.int p1), .val (.int p2), .val (.int p3), .val (.int p4), .val (.ref b1), .val (.ref t3), .val (.ref t4), .val (.int v26_5), .val .null, .val .null, .val (.int (1 : Int32))] [(.ref b1), (.int (1 : Int32))])) (fun t k => XS.aload X223.here hx rfl (hb hby at_131) rfl rfl k) ?_
            refine Go.on (B := T223.setTop (mkF m 135 #[.val (.int p1), .val (.int p2), .val (.int p3), .val (.int p4), .val (.ref b1), .val (.ref t3), .val (.ref t4), .val (.int v26_5), .val .null, .val .null, .val (.int (1 : Int32))] [.null, (.ref b1), (.int (1 : Int32))])) (fun t k => XS.aload X223.here hx rfl (hb hby at_133) rfl rfl k) ?_
            refine Go.on (B := T223.setTop (mkF m 137 #[.val (.int p1), .val (.int p2), .val (.int p3), .val (.int p4), .val (.ref b1), .val (.ref t3), .val (.ref t4), .val (.int v26_5), .val .null, .val .null, .val (.int (1 : Int32))] [(.ref t3), .null, (.ref b1), (.int (1 : Int32))])) (fun t k => XS.aload X223.here hx rfl (hb hby at_135) rfl rfl k) ?_
            obtain ⟨cq238, kq238, q238a, q238b, q238c⟩ := isOf hZ rfl f401
            obtain ⟨_, _, ⟨T238, L238, k238, n238⟩, -, X238, ⟨Lc238, hQ238, l238, y238, z238⟩, st238⟩ := X223.virtualBack hx (y := (⟨"com/example/tailrace/tailrace/cli/Count", "add", "(Ljava/lang/Object;Lcom/example/tailrace/tailrace/cli/Count$Tally;)Lcom/example/tailrace/tailrace/cli/Count$Tally;"⟩ : MethodName)) (z := (⟨"com/example/tailrace/tailrace/cli/Count", "add", "(Ljava/lang/Object;Lcom/example/tailrace/tailrace/cli/Count$Tally;)Lcom/example/tailrace/tailrace/cli/Count$Tally;"⟩ : MethodName)) hown (mvT hZ (hw _ (List.mem_of_getElem? (i := 28) rfl))) (mvT hZ (hw _ (List.mem_of_getElem? (i := 29) rfl))) (notFace_of_selects (args := #[]) (mvT hZ (hw _ (List.mem_of_getElem? (i := 31) rfl)))) (mvT hZ (hw _ (List.mem_of_getElem? (i := 31) rfl))) (mvT hZ (hw _ (List.mem_of_getElem? (i := 30) rfl))) (by decide) (backOf (W := 1) (radd0 l Z a0 hw [] b1 t3 (2 : Int64) T223.heap n0 Zs405 G223a G223b ge_t3) hZ (hw _ (List.mem_of_getElem? (i := 32) rfl)) (hw _ (List.mem_of_getElem? (i := 2) rfl)) (by decide) (by decide)) q238a q238c (g := (mkF m 137 #[.val (.int p1), .val (.int p2), .val (.int p3), .val (.int p4), .val (.ref b1), .val (.ref t3), .val (.ref t4), .val (.int v26_5), .val .null, .val .null, .val (.int (1 : Int32))] [(.ref t3), .null, (.ref b1), (.int (1 : Int32))])) rfl (by rw [hml]; rfl) (Steps.refl _) (argsL := [.null, (.ref t3)]) (rest := [(.int (1 : Int32))]) (lenOf pd_5 rfl) rfl (by show 2 * 0 + _ ≤ _; exact Nat.le_of_eq rfl) (hb hby at_137) (fun _ _ => ⟨rfl, rfl, (by decide : 3 + 0 ≤ _), (by decide : 2 + 0 ≤ _)⟩)
            dsimp only [Pt.U, Pt.locs, Pt.cells, Pt.slots] at X238 l238 y238 z238 st238 hQ238
            subst l238 y238 z238
            obtain ⟨rfl, N238q, K238q, G238a, G238b⟩ := hQ238
            have N238 := Fr.app N223 N238q
            have O_428 := O_400.keep K238q (allS ge_t3 all0)
            have f429 := f401.keep K238q
            have f430 := G223a.keep K238q
            have f431 := f403.keep K238q
            have f432 := f404.keep K238q (ninS (Ne.symm ne_t3_t4) nin0)
            have Zs433 := Nat.le_trans Zs405 K238q.1
            rw [show ((2 : Int64) + (1 : Int64)) = (3 : Int64) from by decide] at G238b
            refine Go.on (B := T238.setTop (mkF m 140 #[.val (.int p1), .val (.int p2), .val (.int p3), .val (.int p4), .val (.ref b1), .val (.ref t3), .val (.ref t4), .val (.int v26_5), .val .null, .val .null, .val (.int (1 : Int32))] [(.ref t3), (.int (1 : Int32))])) (fun t k => st238.trans k) ?_
            refine Go.on (B := T238.setTop (mkF m 142 #[.val (.int p1), .val (.int p2), .val (.int p3), .val (.int p4), .val (.ref b1), .val (.ref t3), .val (.ref t4), .val (.int v26_5), .val .null, .val .null, .val (.int (1 : Int32))] [(.ref t3), (.ref t3), (.int (1 : Int32))])) (fun t k => XS.aload X238.here hx rfl (hb hby at_140) rfl rfl k) ?_
            refine Go.on (B := T238.setTop (mkF m 145 #[.val (.int p1), .val (.int p2), .val (.int p3), .val (.int p4), .val (.ref b1), .val (.ref t3), .val (.ref t4), .val (.int v26_5), .val .null, .val .null, .val (.int (1 : Int32))] [(.int (1 : Int32))])) (fun t k => Jvm.RoadKit.acmp (g := (mkF m 142 #[.val (.int p1), .val (.int p2), .val (.int p3), .val (.int p4), .val (.ref b1), .val (.ref t3), .val (.ref t4), .val (.int v26_5), .val .null, .val .null, .val (.int (1 : Int32))] [(.ref t3), (.ref t3), (.int (1 : Int32))])) X238 hx rfl rfl rfl (pc0 := 142) (pc' := 145) (same := true) rfl (hb hby at_142) rfl (decide_eq_true rfl) (by decide) (by decide) k) ?_
            refine Go.on (B := T238.setTop (mkF m 146 #[.val (.int p1), .val (.int p2), .val (.int p3), .val (.int p4), .val (.ref b1), .val (.ref t3), .val (.ref t4), .val (.int v26_5), .val .null, .val .null, .val (.int (1 : Int32))] [(.int (1 : Int32)), (.int (1 : Int32))])) (fun t k => XS.iconst X238.here hx rfl (hb hby at_145) k) ?_
            refine Go.on (B := T238.setTop (mkF m 150 #[.val (.int p1), .val (.int p2), .val (.int p3), .val (.int p4), .val (.ref b1), .val (.ref t3), .val (.ref t4), .val (.int v26_5), .val .null, .val .null, .val (.int (1 : Int32))] [(.int (1 : Int32)), (.int (1 : Int32))])) (fun t k => XS.goto X238.here hx rfl (pc0 := 146) (pc' := 150) rfl (hb hby at_146) (by decide) (by decide) k) ?_
            refine Go.on (B := T238.setTop (mkF m 151 #[.val (.int p1), .val (.int p2), .val (.int p3), .val (.int p4), .val (.ref b1), .val (.ref t3), .val (.ref t4), .val (.int v26_5), .val .null, .val .null, .val (.int (1 : Int32))] [(.int ((1 : Int32) &&& (1 : Int32)))])) (fun t k => XS.iand X238.here hx rfl (hb hby at_150) rfl k) ?_
            rw [show ((1 : Int32) &&& (1 : Int32)) = (1 : Int32) from by decide]
            refine Go.on (B := T238.setTop (mkF m 153 #[.val (.int p1), .val (.int p2), .val (.int p3), .val (.int p4), .val (.ref b1), .val (.ref t3), .val (.ref t4), .val (.int v26_5), .val .null, .val .null, .val (.int (1 : Int32))] [])) (fun t k => XS.istore X238.here hx rfl (hb hby at_151) rfl (l' := #[.val (.int p1), .val (.int p2), .val (.int p3), .val (.int p4), .val (.ref b1), .val (.ref t3), .val (.ref t4), .val (.int v26_5), .val .null, .val .null, .val (.int (1 : Int32))]) rfl k) ?_
            refine Go.on (B := T238.setTop (mkF m 155 #[.val (.int p1), .val (.int p2), .val (.int p3), .val (.int p4), .val (.ref b1), .val (.ref t3), .val (.ref t4), .val (.int v26_5), .val .null, .val .null, .val (.int (1 : Int32))] [(.int (1 : Int32))])) (fun t k => XS.iload X238.here hx rfl (hb hby at_153) rfl k) ?_
            refine Go.on (B := T238.setTop (mkF m 157 #[.val (.int p1), .val (.int p2), .val (.int p3), .val (.int p4), .val (.ref b1), .val (.ref t3), .val (.ref t4), .val (.int v26_5), .val .null, .val .null, .val (.int (1 : Int32))] [(.ref b1), (.int (1 : Int32))])) (fun t k => XS.aload X238.here hx rfl (hb hby at_155) rfl rfl k) ?_
            refine Go.on (B := T238.setTop (mkF m 159 #[.val (.int p1), .val (.int p2), .val (.int p3), .val (.int p4), .val (.ref b1), .val (.ref t3), .val (.ref t4), .val (.int v26_5), .val .null, .val .null, .val (.int (1 : Int32))] [.null, (.ref b1), (.int (1 : Int32))])) (fun t k => XS.aload X238.here hx rfl (hb hby at_157) rfl rfl k) ?_
            refine Go.on (B := T238.setTop (mkF m 161 #[.val (.int p1), .val (.int p2), .val (.int p3), .val (.int p4), .val (.ref b1), .val (.ref t3), .val (.ref t4), .val (.int v26_5), .val .null, .val .null, .val (.int (1 : Int32))] [(.ref t4), .null, (.ref b1), (.int (1 : Int32))])) (fun t k => XS.aload X238.here hx rfl (hb hby at_159) rfl rfl k) ?_
            obtain ⟨cq241, kq241, q241a, q241b, q241c⟩ := isOf hZ rfl f429
            obtain ⟨_, _, ⟨T241, L241, k241, n241⟩, -, X241, ⟨Lc241, hQ241, l241, y241, z241⟩, st241⟩ := X238.virtualBack hx (y := (⟨"com/example/tailrace/tailrace/cli/Count", "add", "(Ljava/lang/Object;Lcom/example/tailrace/tailrace/cli/Count$Tally;)Lcom/example/tailrace/tailrace/cli/Count$Tally;"⟩ : MethodName)) (z := (⟨"com/example/tailrace/tailrace/cli/Count", "add", "(Ljava/lang/Object;Lcom/example/tailrace/tailrace/cli/Count$Tally;)Lcom/example/tailrace/tailrace/cli/Count$Tally;"⟩ : MethodName)) hown (mvT hZ (hw _ (List.mem_of_getElem? (i := 28) rfl))) (mvT hZ (hw _ (List.mem_of_getElem? (i := 29) rfl))) (notFace_of_selects (args := #[]) (mvT hZ (hw _ (List.mem_of_getElem? (i := 31) rfl)))) (mvT hZ (hw _ (List.mem_of_getElem? (i := 31) rfl))) (mvT hZ (hw _ (List.mem_of_getElem? (i := 30) rfl))) (by decide) (backOf (W := 1) (radd0 l Z a0 hw [] b1 t4 (0 : Int64) T238.heap n0 Zs433 f431 f432 ge_t4) hZ (hw _ (List.mem_of_getElem? (i := 32) rfl)) (hw _ (List.mem_of_getElem? (i := 2) rfl)) (by decide) (by decide)) q241a q241c (g := (mkF m 161 #[.val (.int p1), .val (.int p2), .val (.int p3), .val (.int p4), .val (.ref b1), .val (.ref t3), .val (.ref t4), .val (.int v26_5), .val .null, .val .null, .val (.int (1 : Int32))] [(.ref t4), .null, (.ref b1), (.int (1 : Int32))])) rfl (by rw [hml]; rfl) (Steps.refl _) (argsL := [.null, (.ref t4)]) (rest := [(.int (1 : Int32))]) (lenOf pd_5 rfl) rfl (by show 2 * 0 + _ ≤ _; exact Nat.le_of_eq rfl) (hb hby at_161) (fun _ _ => ⟨rfl, rfl, (by decide : 3 + 0 ≤ _), (by decide : 2 + 0 ≤ _)⟩)
            dsimp only [Pt.U, Pt.locs, Pt.cells, Pt.slots] at X241 l241 y241 z241 st241 hQ241
            subst l241 y241 z241
            obtain ⟨rfl, N241q, K241q, G241a, G241b⟩ := hQ241
            have N241 := Fr.app N238 N241q
            have O_434 := O_428.keep K241q (allS ge_t4 all0)
            have f435 := f429.keep K241q
            have f436 := G238a.keep K241q
            have f437 := f431.keep K241q
            have f438 := G238b.keep K241q (ninS ne_t3_t4 nin0)
            have Zs439 := Nat.le_trans Zs433 K241q.1
            rw [show ((0 : Int64) + (1 : Int64)) = (1 : Int64) from by decide] at G241b
            refine Go.on (B := T241.setTop (mkF m 164 #[.val (.int p1), .val (.int p2), .val (.int p3), .val (.int p4), .val (.ref b1), .val (.ref t3), .val (.ref t4), .val (.int v26_5), .val .null, .val .null, .val (.int (1 : Int32))] [(.ref t4), (.int (1 : Int32))])) (fun t k => st241.trans k) ?_
            refine Go.on (B := T241.setTop (mkF m 166 #[.val (.int p1), .val (.int p2), .val (.int p3), .val (.int p4), .val (.ref b1), .val (.ref t3), .val (.ref t4), .val (.int v26_5), .val .null, .val .null, .val (.int (1 : Int32))] [(.ref t4), (.ref t4), (.int (1 : Int32))])) (fun t k => XS.aload X241.here hx rfl (hb hby at_164) rfl rfl k) ?_
            refine Go.on (B := T241.setTop (mkF m 169 #[.val (.int p1), .val (.int p2), .val (.int p3), .val (.int p4), .val (.ref b1), .val (.ref t3), .val (.ref t4), .val (.int v26_5), .val .null, .val .null, .val (.int (1 : Int32))] [(.int (1 : Int32))])) (fun t k => Jvm.RoadKit.acmp (g := (mkF m 166 #[.val (.int p1), .val (.int p2), .val (.int p3), .val (.int p4), .val (.ref b1), .val (.ref t3), .val (.ref t4), .val (.int v26_5), .val .null, .val .null, .val (.int (1 : Int32))] [(.ref t4), (.ref t4), (.int (1 : Int32))])) X241 hx rfl rfl rfl (pc0 := 166) (pc' := 169) (same := true) rfl (hb hby at_166) rfl (decide_eq_true rfl) (by decide) (by decide) k) ?_
            refine Go.on (B := T241.setTop (mkF m 170 #[.val (.int p1), .val (.int p2), .val (.int p3), .val (.int p4), .val (.ref b1), .val (.ref t3), .val (.ref t4), .val (.int v26_5), .val .null, .val .null, .val (.int (1 : Int32))] [(.int (1 : Int32)), (.int (1 : Int32))])) (fun t k => XS.iconst X241.here hx rfl (hb hby at_169) k) ?_
            refine Go.on (B := T241.setTop (mkF m 174 #[.val (.int p1), .val (.int p2), .val (.int p3), .val (.int p4), .val (.ref b1), .val (.ref t3), .val (.ref t4), .val (.int v26_5), .val .null, .val .null, .val (.int (1 : Int32))] [(.int (1 : Int32)), (.int (1 : Int32))])) (fun t k => XS.goto X241.here hx rfl (pc0 := 170) (pc' := 174) rfl (hb hby at_170) (by decide) (by decide) k) ?_
            refine Go.on (B := T241.setTop (mkF m 175 #[.val (.int p1), .val (.int p2), .val (.int p3), .val (.int p4), .val (.ref b1), .val (.ref t3), .val (.ref t4), .val (.int v26_5), .val .null, .val .null, .val (.int (1 : Int32))] [(.int ((1 : Int32) &&& (1 : Int32)))])) (fun t k => XS.iand X241.here hx rfl (hb hby at_174) rfl k) ?_
            rw [show ((1 : Int32) &&& (1 : Int32)) = (1 : Int32) from by decide]
            refine Go.on (B := T241.setTop (mkF m 177 #[.val (.int p1), .val (.int p2), .val (.int p3), .val (.int p4), .val (.ref b1), .val (.ref t3), .val (.ref t4), .val (.int v26_5), .val .null, .val .null, .val (.int (1 : Int32))] [])) (fun t k => XS.istore X241.here hx rfl (hb hby at_175) rfl (l' := #[.val (.int p1), .val (.int p2), .val (.int p3), .val (.int p4), .val (.ref b1), .val (.ref t3), .val (.ref t4), .val (.int v26_5), .val .null, .val .null, .val (.int (1 : Int32))]) rfl k) ?_
            refine Go.on (B := T241.setTop (mkF m 179 #[.val (.int p1), .val (.int p2), .val (.int p3), .val (.int p4), .val (.ref b1), .val (.ref t3), .val (.ref t4), .val (.int v26_5), .val .null, .val .null, .val (.int (1 : Int32))] [(.int (1 : Int32))])) (fun t k => XS.iload X241.here hx rfl (hb hby at_177) rfl k) ?_
            refine Go.on (B := T241.setTop (mkF m 181 #[.val (.int p1), .val (.int p2), .val (.int p3), .val (.int p4), .val (.ref b1), .val (.ref t3), .val (.ref t4), .val (.int v26_5), .val .null, .val .null, .val (.int (1 : Int32))] [(.ref b1), (.int (1 : Int32))])) (fun t k => XS.aload X241.here hx rfl (hb hby at_179) rfl rfl k) ?_
            refine Go.on (B := T241.setTop (mkF m 183 #[.val (.int p1), .val (.int p2), .val (.int p3), .val (.int p4), .val (.ref b1), .val (.ref t3), .val (.ref t4), .val (.int v26_5), .val .null, .val .null, .val (.int (1 : Int32))] [(.ref t3), (.ref b1), (.int (1 : Int32))])) (fun t k => XS.aload X241.here hx rfl (hb hby at_181) rfl rfl k) ?_
            obtain ⟨cq244, kq244, q244a, q244b, q244c⟩ := isOf hZ rfl f435
            obtain ⟨_, _, ⟨T244, L244, k244, n244⟩, -, X244, ⟨Lc244, hQ244, l244, y244, z244⟩, st244⟩ := X241.virtualBack hx (y := (⟨"com/example/tailrace/tailrace/cli/Count", "getResult", "(Lcom/example/tailrace/tailrace/cli/Count$Tally;)Ljava/lang/Long;"⟩ : MethodName)) (z := (⟨"com/example/tailrace/tailrace/cli/Count", "getResult", "(Lcom/example/tailrace/tailrace/cli/Count$Tally;)Ljava/lang/Long;"⟩ : MethodName)) hown (mvT hZ (hw _ (List.mem_of_getElem? (i := 35) rfl))) (mvT hZ (hw _ (List.mem_of_getElem? (i := 36) rfl))) (notFace_of_selects (args := #[]) (mvT hZ (hw _ (List.mem_of_getElem? (i := 38) rfl)))) (mvT hZ (hw _ (List.mem_of_getElem? (i := 38) rfl))) (mvT hZ (hw _ (List.mem_of_getElem? (i := 37) rfl))) (by decide) (backOf (W := 1) (rgr l Z a0 hw [] b1 t3 (3 : Int64) ca cc T241.heap n0 Zs439 f438 O_434 S_cache B_cache (by decide) (by decide)) hZ (hw _ (List.mem_of_getElem? (i := 39) rfl)) (hw _ (List.mem_of_getElem? (i := 2) rfl)) (by decide) (by decide)) q244a q244c (g := (mkF m 183 #[.val (.int p1), .val (.int p2), .val (.int p3), .val (.int p4), .val (.ref b1), .val (.ref t3), .val (.ref t4), .val (.int v26_5), .val .null, .val .null, .val (.int (1 : Int32))] [(.ref t3), (.ref b1), (.int (1 : Int32))])) rfl (by rw [hml]; rfl) (Steps.refl _) (argsL := [(.ref t3)]) (rest := [(.int (1 : Int32))]) (lenOf pd_6 rfl) rfl (by show 2 * 0 + _ ≤ _; exact Nat.le_of_eq rfl) (hb hby at_183) (fun _ _ => ⟨rfl, rfl, (by decide : 3 + 0 ≤ _), (by decide : 2 + 0 ≤ _)⟩)
            dsimp only [Pt.U, Pt.locs, Pt.cells, Pt.slots] at X244 l244 y244 z244 st244 hQ244
            subst l244 y244 z244
            obtain ⟨⟨x244, rfl, G244a, G244b⟩, N244q, K244q⟩ := hQ244
            have N244 := Fr.app N241 N244q
            have O_440 := O_434.keep K244q all0
            have f441 := f435.keep K244q
            have f442 := f436.keep K244q
            have f443 := G241a.keep K244q
            have f444 := f438.keep K244q nin0
            have f445 := G241b.keep K244q nin0
            have Zs446 := Nat.le_trans Zs439 K244q.1
            refine Go.on (B := T244.setTop (mkF m 186 #[.val (.int p1), .val (.int p2), .val (.int p3), .val (.int p4), .val (.ref b1), .val (.ref t3), .val (.ref t4), .val (.int v26_5), .val .null, .val .null, .val (.int (1 : Int32))] [(.ref x244), (.int (1 : Int32))])) (fun t k => st244.trans k) ?_
            obtain ⟨cq245, kq245, q245a, q245b, q245c⟩ := isOf hZ rfl G244a
            obtain ⟨_, _, ⟨T245, L245, k245, n245⟩, -, X245, ⟨Lc245, hQ245, l245, y245, z245⟩, st245⟩ := X244.virtualBack hx (y := (⟨"java/lang/Long", "longValue", "()J"⟩ : MethodName)) (z := (⟨"java/lang/Long", "longValue", "()J"⟩ : MethodName)) hown (mvT hZ (hw _ (List.mem_of_getElem? (i := 48) rfl))) (mvT hZ (hw _ (List.mem_of_getElem? (i := 49) rfl))) (notFace_of_selects (args := #[]) (mvT hZ (hw _ (List.mem_of_getElem? (i := 51) rfl)))) (mvT hZ (hw _ (List.mem_of_getElem? (i := 51) rfl))) (mvT hZ (hw _ (List.mem_of_getElem? (i := 50) rfl))) (by decide) (backOf (W := 1) (rval l Z a0 hw [] x244 (3 : Int64) T244.heap n0 Zs446 G244b) hZ (hw _ (List.mem_of_getElem? (i := 52) rfl)) (hw _ (List.mem_of_getElem? (i := 42) rfl)) (by decide) (by decide)) q245a q245c (g := (mkF m 186 #[.val (.int p1), .val (.int p2), .val (.int p3), .val (.int p4), .val (.ref b1), .val (.ref t3), .val (.ref t4), .val (.int v26_5), .val .null, .val .null, .val (.int (1 : Int32))] [(.ref x244), (.int (1 : Int32))])) rfl (by rw [hml]; rfl) (Steps.refl _) (argsL := []) (rest := [(.int (1 : Int32))]) (lenOf pd_7 rfl) rfl (by show 2 * 0 + _ ≤ _; exact Nat.le_of_eq rfl) (hb hby at_186) (fun _ _ => ⟨rfl, rfl, (by decide : 3 + 0 ≤ _), (by decide : 2 + 0 ≤ _)⟩)
            dsimp only [Pt.U, Pt.locs, Pt.cells, Pt.slots] at X245 l245 y245 z245 st245 hQ245
            subst l245 y245 z245
            obtain ⟨rfl, N245q, e245q⟩ := hQ245
            have N245 := Fr.app N244 N245q
            refine Go.on (B := T245.setTop (mkF m 189 #[.val (.int p1), .val (.int p2), .val (.int p3), .val (.int p4), .val (.ref b1), .val (.ref t3), .val (.ref t4), .val (.int v26_5), .val .null, .val .null, .val (.int (1 : Int32))] [(.long (3 : Int64)), (.int (1 : Int32))])) (fun t k => st245.trans k) ?_
            refine Go.on (B := T245.setTop (mkF m 191 #[.val (.int p1), .val (.int p2), .val (.int p3), .val (.int p4), .val (.ref b1), .val (.ref t3), .val (.ref t4), .val (.int v26_5), .val .null, .val .null, .val (.int (1 : Int32))] [(.int v26_5), (.long (3 : Int64)), (.int (1 : Int32))])) (fun t k => XS.iload X245.here hx rfl (hb hby at_189) rfl k) ?_
            refine Go.on (B := T245.setTop (mkF m 192 #[.val (.int p1), .val (.int p2), .val (.int p3), .val (.int p4), .val (.ref b1), .val (.ref t3), .val (.ref t4), .val (.int v26_5), .val .null, .val .null, .val (.int (1 : Int32))] [(.long (v26_5.toInt64)), (.long (3 : Int64)), (.int (1 : Int32))])) (fun t k => XS.i2l X245.here hx rfl (hb hby at_191) rfl k) ?_
            refine Go.on (B := T245.setTop (mkF m 193 #[.val (.int p1), .val (.int p2), .val (.int p3), .val (.int p4), .val (.ref b1), .val (.ref t3), .val (.ref t4), .val (.int v26_5), .val .null, .val .null, .val (.int (1 : Int32))] [(.int (lcmpW (3 : Int64) (v26_5.toInt64))), (.int (1 : Int32))])) (fun t k => XS.lcmp X245.here hx rfl (hb hby at_192) rfl k) ?_
            have hc193_246 : (3 : Int64) = (v26_5.toInt64) := by
              have q := own_n3 _ _ hv26_5
              have u0 := hc66_193
              rw [Int32.lt_iff_toInt_lt, show (1 : Int32).toInt = 1 from by decide] at u0
              have u1 := hc96_210
              rw [Int32.lt_iff_toInt_lt, show (2 : Int32).toInt = 2 from by decide] at u1
              have u2 := hc126_226
              rw [Int32.lt_iff_toInt_lt, show (3 : Int32).toInt = 3 from by decide] at u2
              exact own_is 3 (by omega) (by decide)
            refine Go.on (B := T245.setTop (mkF m 196 #[.val (.int p1), .val (.int p2), .val (.int p3), .val (.int p4), .val (.ref b1), .val (.ref t3), .val (.ref t4), .val (.int v26_5), .val .null, .val .null, .val (.int (1 : Int32))] [(.int (1 : Int32))])) (fun t k => XS.ifNo X245.here hx rfl (hb hby at_193) rfl ((if0 _ _).trans (teq ((lw_eq _ _).mpr hc193_246)).2) k) ?_
            refine Go.on (B := T245.setTop (mkF m 197 #[.val (.int p1), .val (.int p2), .val (.int p3), .val (.int p4), .val (.ref b1), .val (.ref t3), .val (.ref t4), .val (.int v26_5), .val .null, .val .null, .val (.int (1 : Int32))] [(.int (1 : Int32)), (.int (1 : Int32))])) (fun t k => XS.iconst X245.here hx rfl (hb hby at_196) k) ?_
            refine Go.on (B := T245.setTop (mkF m 201 #[.val (.int p1), .val (.int p2), .val (.int p3), .val (.int p4), .val (.ref b1), .val (.ref t3), .val (.ref t4), .val (.int v26_5), .val .null, .val .null, .val (.int (1 : Int32))] [(.int (1 : Int32)), (.int (1 : Int32))])) (fun t k => XS.goto X245.here hx rfl (pc0 := 197) (pc' := 201) rfl (hb hby at_197) (by decide) (by decide) k) ?_
            refine Go.on (B := T245.setTop (mkF m 202 #[.val (.int p1), .val (.int p2), .val (.int p3), .val (.int p4), .val (.ref b1), .val (.ref t3), .val (.ref t4), .val (.int v26_5), .val .null, .val .null, .val (.int (1 : Int32))] [(.int ((1 : Int32) &&& (1 : Int32)))])) (fun t k => XS.iand X245.here hx rfl (hb hby at_201) rfl k) ?_
            rw [show ((1 : Int32) &&& (1 : Int32)) = (1 : Int32) from by decide]
            refine Go.on (B := T245.setTop (mkF m 204 #[.val (.int p1), .val (.int p2), .val (.int p3), .val (.int p4), .val (.ref b1), .val (.ref t3), .val (.ref t4), .val (.int v26_5), .val .null, .val .null, .val (.int (1 : Int32))] [])) (fun t k => XS.istore X245.here hx rfl (hb hby at_202) rfl (l' := #[.val (.int p1), .val (.int p2), .val (.int p3), .val (.int p4), .val (.ref b1), .val (.ref t3), .val (.ref t4), .val (.int v26_5), .val .null, .val .null, .val (.int (1 : Int32))]) rfl k) ?_
            refine Go.on (B := T245.setTop (mkF m 206 #[.val (.int p1), .val (.int p2), .val (.int p3), .val (.int p4), .val (.ref b1), .val (.ref t3), .val (.ref t4), .val (.int v26_5), .val .null, .val .null, .val (.int (1 : Int32))] [(.int (1 : Int32))])) (fun t k => XS.iload X245.here hx rfl (hb hby at_204) rfl k) ?_
            refine Go.on (B := T245.setTop (mkF m 208 #[.val (.int p1), .val (.int p2), .val (.int p3), .val (.int p4), .val (.ref b1), .val (.ref t3), .val (.ref t4), .val (.int v26_5), .val .null, .val .null, .val (.int (1 : Int32))] [(.ref b1), (.int (1 : Int32))])) (fun t k => XS.aload X245.here hx rfl (hb hby at_206) rfl rfl k) ?_
            refine Go.on (B := T245.setTop (mkF m 210 #[.val (.int p1), .val (.int p2), .val (.int p3), .val (.int p4), .val (.ref b1), .val (.ref t3), .val (.ref t4), .val (.int v26_5), .val .null, .val .null, .val (.int (1 : Int32))] [(.ref t4), (.ref b1), (.int (1 : Int32))])) (fun t k => XS.aload X245.here hx rfl (hb hby at_208) rfl rfl k) ?_
            obtain ⟨cq248, kq248, q248a, q248b, q248c⟩ := isOf hZ e245q f441
            obtain ⟨_, _, ⟨T248, L248, k248, n248⟩, -, X248, ⟨Lc248, hQ248, l248, y248, z248⟩, st248⟩ := X245.virtualBack hx (y := (⟨"com/example/tailrace/tailrace/cli/Count", "getResult", "(Lcom/example/tailrace/tailrace/cli/Count$Tally;)Ljava/lang/Long;"⟩ : MethodName)) (z := (⟨"com/example/tailrace/tailrace/cli/Count", "getResult", "(Lcom/example/tailrace/tailrace/cli/Count$Tally;)Ljava/lang/Long;"⟩ : MethodName)) hown (mvT hZ (hw _ (List.mem_of_getElem? (i := 35) rfl))) (mvT hZ (hw _ (List.mem_of_getElem? (i := 36) rfl))) (notFace_of_selects (args := #[]) (mvT hZ (hw _ (List.mem_of_getElem? (i := 38) rfl)))) (mvT hZ (hw _ (List.mem_of_getElem? (i := 38) rfl))) (mvT hZ (hw _ (List.mem_of_getElem? (i := 37) rfl))) (by decide) (backOf (W := 1) (rgr l Z a0 hw [] b1 t4 (1 : Int64) ca cc T244.heap n0 Zs446 f445 O_440 S_cache B_cache (by decide) (by decide)) hZ (hw _ (List.mem_of_getElem? (i := 39) rfl)) (hw _ (List.mem_of_getElem? (i := 2) rfl)) (by decide) (by decide)) q248a q248c (g := (mkF m 210 #[.val (.int p1), .val (.int p2), .val (.int p3), .val (.int p4), .val (.ref b1), .val (.ref t3), .val (.ref t4), .val (.int v26_5), .val .null, .val .null, .val (.int (1 : Int32))] [(.ref t4), (.ref b1), (.int (1 : Int32))])) rfl (by rw [hml]; rfl) (Steps.refl _) (argsL := [(.ref t4)]) (rest := [(.int (1 : Int32))]) (lenOf pd_6 rfl) rfl (by show 2 * 0 + _ ≤ _; exact Nat.le_of_eq rfl) (hb hby at_210) (fun _ _ => ⟨rfl, e245q, (by decide : 3 + 0 ≤ _), (by decide : 2 + 0 ≤ _)⟩)
            dsimp only [Pt.U, Pt.locs, Pt.cells, Pt.slots] at X248 l248 y248 z248 st248 hQ248
            subst l248 y248 z248
            obtain ⟨⟨x248, rfl, G248a, G248b⟩, N248q, K248q⟩ := hQ248
            have N248 := Fr.app N245 N248q
            have O_447 := O_440.keep K248q all0
            have f448 := f441.keep K248q
            have f449 := f442.keep K248q
            have f450 := f443.keep K248q
            have f451 := f444.keep K248q nin0
            have f452 := f445.keep K248q nin0
            have f453 := G244a.keep K248q
            have f454 := G244b.keep K248q nin0
            have Zs455 := Nat.le_trans Zs446 K248q.1
            refine Go.on (B := T248.setTop (mkF m 213 #[.val (.int p1), .val (.int p2), .val (.int p3), .val (.int p4), .val (.ref b1), .val (.ref t3), .val (.ref t4), .val (.int v26_5), .val .null, .val .null, .val (.int (1 : Int32))] [(.ref x248), (.int (1 : Int32))])) (fun t k => st248.trans k) ?_
            obtain ⟨cq249, kq249, q249a, q249b, q249c⟩ := isOf hZ rfl G248a
            obtain ⟨_, _, ⟨T249, L249, k249, n249⟩, -, X249, ⟨Lc249, hQ249, l249, y249, z249⟩, st249⟩ := X248.virtualBack hx (y := (⟨"java/lang/Long", "longValue", "()J"⟩ : MethodName)) (z := (⟨"java/lang/Long", "longValue", "()J"⟩ : MethodName)) hown (mvT hZ (hw _ (List.mem_of_getElem? (i := 48) rfl))) (mvT hZ (hw _ (List.mem_of_getElem? (i := 49) rfl))) (notFace_of_selects (args := #[]) (mvT hZ (hw _ (List.mem_of_getElem? (i := 51) rfl)))) (mvT hZ (hw _ (List.mem_of_getElem? (i := 51) rfl))) (mvT hZ (hw _ (List.mem_of_getElem? (i := 50) rfl))) (by decide) (backOf (W := 1) (rval l Z a0 hw [] x248 (1 : Int64) T248.heap n0 Zs455 G248b) hZ (hw _ (List.mem_of_getElem? (i := 52) rfl)) (hw _ (List.mem_of_getElem? (i := 42) rfl)) (by decide) (by decide)) q249a q249c (g := (mkF m 213 #[.val (.int p1), .val (.int p2), .val (.int p3), .val (.int p4), .val (.ref b1), .val (.ref t3), .val (.ref t4), .val (.int v26_5), .val .null, .val .null, .val (.int (1 : Int32))] [(.ref x248), (.int (1 : Int32))])) rfl (by rw [hml]; rfl) (Steps.refl _) (argsL := []) (rest := [(.int (1 : Int32))]) (lenOf pd_7 rfl) rfl (by show 2 * 0 + _ ≤ _; exact Nat.le_of_eq rfl) (hb hby at_213) (fun _ _ => ⟨rfl, rfl, (by decide : 3 + 0 ≤ _), (by decide : 2 + 0 ≤ _)⟩)
            dsimp only [Pt.U, Pt.locs, Pt.cells, Pt.slots] at X249 l249 y249 z249 st249 hQ249
            subst l249 y249 z249
            obtain ⟨rfl, N249q, e249q⟩ := hQ249
            have N249 := Fr.app N248 N249q
            refine Go.on (B := T249.setTop (mkF m 216 #[.val (.int p1), .val (.int p2), .val (.int p3), .val (.int p4), .val (.ref b1), .val (.ref t3), .val (.ref t4), .val (.int v26_5), .val .null, .val .null, .val (.int (1 : Int32))] [(.long (1 : Int64)), (.int (1 : Int32))])) (fun t k => st249.trans k) ?_
            refine Go.on (B := T249.setTop (mkF m 217 #[.val (.int p1), .val (.int p2), .val (.int p3), .val (.int p4), .val (.ref b1), .val (.ref t3), .val (.ref t4), .val (.int v26_5), .val .null, .val .null, .val (.int (1 : Int32))] [(.long (1 : Int64)), (.long (1 : Int64)), (.int (1 : Int32))])) (fun t k => XS.lconst X249.here hx rfl (hb hby at_216) k) ?_
            refine Go.on (B := T249.setTop (mkF m 218 #[.val (.int p1), .val (.int p2), .val (.int p3), .val (.int p4), .val (.ref b1), .val (.ref t3), .val (.ref t4), .val (.int v26_5), .val .null, .val .null, .val (.int (1 : Int32))] [(.int (lcmpW (1 : Int64) (1 : Int64))), (.int (1 : Int32))])) (fun t k => XS.lcmp X249.here hx rfl (hb hby at_217) rfl k) ?_
            have hc218_250 : (1 : Int64) = (1 : Int64) := by decide
            refine Go.on (B := T249.setTop (mkF m 221 #[.val (.int p1), .val (.int p2), .val (.int p3), .val (.int p4), .val (.ref b1), .val (.ref t3), .val (.ref t4), .val (.int v26_5), .val .null, .val .null, .val (.int (1 : Int32))] [(.int (1 : Int32))])) (fun t k => XS.ifNo X249.here hx rfl (hb hby at_218) rfl ((if0 _ _).trans (teq ((lw_eq _ _).mpr hc218_250)).2) k) ?_
            refine Go.on (B := T249.setTop (mkF m 222 #[.val (.int p1), .val (.int p2), .val (.int p3), .val (.int p4), .val (.ref b1), .val (.ref t3), .val (.ref t4), .val (.int v26_5), .val .null, .val .null, .val (.int (1 : Int32))] [(.int (1 : Int32)), (.int (1 : Int32))])) (fun t k => XS.iconst X249.here hx rfl (hb hby at_221) k) ?_
            refine Go.on (B := T249.setTop (mkF m 226 #[.val (.int p1), .val (.int p2), .val (.int p3), .val (.int p4), .val (.ref b1), .val (.ref t3), .val (.ref t4), .val (.int v26_5), .val .null, .val .null, .val (.int (1 : Int32))] [(.int (1 : Int32)), (.int (1 : Int32))])) (fun t k => XS.goto X249.here hx rfl (pc0 := 222) (pc' := 226) rfl (hb hby at_222) (by decide) (by decide) k) ?_
            refine Go.on (B := T249.setTop (mkF m 227 #[.val (.int p1), .val (.int p2), .val (.int p3), .val (.int p4), .val (.ref b1), .val (.ref t3), .val (.ref t4), .val (.int v26_5), .val .null, .val .null, .val (.int (1 : Int32))] [(.int ((1 : Int32) &&& (1 : Int32)))])) (fun t k => XS.iand X249.here hx rfl (hb hby at_226) rfl k) ?_
            rw [show ((1 : Int32) &&& (1 : Int32)) = (1 : Int32) from by decide]
            refine Go.on (B := T249.setTop (mkF m 229 #[.val (.int p1), .val (.int p2), .val (.int p3), .val (.int p4), .val (.ref b1), .val (.ref t3), .val (.ref t4), .val (.int v26_5), .val .null, .val .null, .val (.int (1 : Int32))] [])) (fun t k => XS.istore X249.here hx rfl (hb hby at_227) rfl (l' := #[.val (.int p1), .val (.int p2), .val (.int p3), .val (.int p4), .val (.ref b1), .val (.ref t3), .val (.ref t4), .val (.int v26_5), .val .null, .val .null, .val (.int (1 : Int32))]) rfl k) ?_
            refine Go.on (B := T249.setTop (mkF m 231 #[.val (.int p1), .val (.int p2), .val (.int p3), .val (.int p4), .val (.ref b1), .val (.ref t3), .val (.ref t4), .val (.int v26_5), .val .null, .val .null, .val (.int (1 : Int32))] [(.int (1 : Int32))])) (fun t k => XS.iload X249.here hx rfl (hb hby at_229) rfl k) ?_
            obtain ⟨fs, hr, hrun, hended, hW, hsame⟩ := X249.leave (v := some (.int (1 : Int32))) (fun h => by rw [Bd.returns] at h; cases h)
            refine ⟨_, _, ?_, hrun, hended, _, _, rfl, ?_, ⟨_, rfl⟩, hW, hsame.mono (by decide) (by decide)⟩
            · exact retN X249 hx (t := .boolean) Bd.returns (by simp) (hb hby at_231) hr
            · show Q_rm0 Z p1 p2 p3 p4 ca cc ica icc h0 n0 _ T249.heap _
              rw [e249q]
              exact ⟨rfl, N249⟩
theorem own_idx128 {s : State} {args : Array Value} {j : Int32} (nn : ¬ j < 0) : (Term.sub (.index 0) (.int (128 : Int32))).eval args s none [j.toNatClampNeg] s = some (.int (j - (128 : Int32))) := by
  have q := idx_at (args := args) (s := s) (first := s) (o := none) nn
  simp [Term.eval] at q ⊢
  rw [q]
theorem own_box {s : State} {args : Array Value} {ca : Addr} {cc : Cell} (e : (Term.static "java/lang/Long$LongCache" "cache" "[Ljava/lang/Long;").eval args s none [] s = some (.ref ca)) (A : Arr s s.heap ca cc (.object "java/lang/Long")) (h1 : (Jvm.Cond.eq (Term.length (Term.static "java/lang/Long$LongCache" "cache" "[Ljava/lang/Long;")) (Term.int (256 : Int32))).value args s none s [] = some true)
    (h2 : (Jvm.Cond.all (Term.static "java/lang/Long$LongCache" "cache" "[Ljava/lang/Long;") (.and (.exactly (.elem (Term.static "java/lang/Long$LongCache" "cache" "[Ljava/lang/Long;") (.index 0)) "java/lang/Long") (.eq (.field (.elem (Term.static "java/lang/Long$LongCache" "cache" "[Ljava/lang/Long;") (.index 0)) "java/lang/Long" "value" "J") (.op1 .i2l (.sub (.index 0) (.int (128 : Int32))))))).value args s none s [] = some true) : Bxs s ca cc "java/lang/Long" "J" (256 : Int32) (fun j => .long (j - (128 : Int32)).toInt64) := by
  have l1 := eqv_i (Term.int_eval (256 : Int32)) h1
  have l2 := SBG.length_lt e (A.fin (Vm.Alike.refl _)) l1
  obtain ⟨x, c', e1, e2, e3⟩ := Term.length_spec l1
  cases e.symm.trans e1
  cases (A.fin (Vm.Alike.refl _)).symm.trans e2
  refine Bxs.start (fun idx => e) A l2 (Value.int.inj e3).symm (by decide) h2 (fun X j nn h => ?_)
  exact eqv_l (i2l_at (own_idx128 nn)) h
theorem own_boxI {s : State} {args : Array Value} {ca : Addr} {cc : Cell} (e : (Term.static "java/lang/Integer$IntegerCache" "cache" "[Ljava/lang/Integer;").eval args s none [] s = some (.ref ca)) (A : Arr s s.heap ca cc (.object "java/lang/Integer")) (h1 : (Jvm.Cond.eq (Term.length (Term.static "java/lang/Integer$IntegerCache" "cache" "[Ljava/lang/Integer;")) (Term.int (256 : Int32))).value args s none s [] = some true)
    (h2 : (Jvm.Cond.all (Term.static "java/lang/Integer$IntegerCache" "cache" "[Ljava/lang/Integer;") (.and (.exactly (.elem (Term.static "java/lang/Integer$IntegerCache" "cache" "[Ljava/lang/Integer;") (.index 0)) "java/lang/Integer") (.eq (.field (.elem (Term.static "java/lang/Integer$IntegerCache" "cache" "[Ljava/lang/Integer;") (.index 0)) "java/lang/Integer" "value" "I") (.sub (.index 0) (.int (128 : Int32)))))).value args s none s [] = some true) : Bxs s ca cc "java/lang/Integer" "I" (256 : Int32) (fun j => .int (j - (128 : Int32))) := by
  have l1 := eqv_i (Term.int_eval (256 : Int32)) h1
  have l2 := SBG.length_lt e (A.fin (Vm.Alike.refl _)) l1
  obtain ⟨x, c', e1, e2, e3⟩ := Term.length_spec l1
  cases e.symm.trans e1
  cases (A.fin (Vm.Alike.refl _)).symm.trans e2
  refine Bxs.start (fun idx => e) A l2 (Value.int.inj e3).symm (by decide) h2 (fun X j nn h => ?_)
  exact eqv_i (own_idx128 nn) h
set_option maxRecDepth 65536 in
set_option maxHeartbeats 40000000 in
theorem comes_1 {Post : Tables → Env → Array Value → State → Outcome → State → Prop} (hpost : ∀ tb e args s v u, (limb_1_1.after args s (.returned v) u = true ∧ limb_1_2.after args s (.returned v) u = true ∧ True) → FrameEnd s (.returned v) u (Jvm.fieldLocs frame_1_writes args s ++ Jvm.arrayLocs frame_1_arrays args s ++ Jvm.staticLocs frame_1_statics s) 24 128 → Post tb e args s (.returned v) u) :
    ArmFor flags0 classFile x code maxLocals ret World_1 tables_1 room_1 Calls_1 rest_1 Pre_1 Post := by
  intro l hfl _ _ p e ha hc hk s m args below hf hA hF happ hP
  obtain ⟨hcalls, hrest, hpre⟩ := hP
  obtain ⟨-, -, -, hnamed, -, -, -, hat⟩ := (Spec.applies_iff hf).mp happ
  obtain ⟨hg, hn⟩ := and_e (Cond.before_iff.mp (show (Jvm.Cond.and given_1 narrow_1).before args s = true from hpre))
  obtain ⟨gc, gr0⟩ := and_e hg
  obtain ⟨ga0, gr1⟩ := and_e gr0
  obtain ⟨ga1, gr2⟩ := and_e gr1
  obtain ⟨ga2, gr3⟩ := and_e gr2
  obtain ⟨w0, w1, w2, w3, rfl⟩ : ∃ w0 w1 w2 w3 : Value, args = #[w0, w1, w2, w3] := by
    have hs : args.size = 4 := by simpa [Cond.value, given_1] using gc
    obtain ⟨L⟩ := args
    match L, hs with
    | [w0, w1, w2, w3], _ => exact ⟨w0, w1, w2, w3, rfl⟩
  have hw := fun d (hd : d ∈ tables_1) => atoms_spec (ws := Jvm.Cond.code x code maxLocals ret :: tables_1) hat d (List.mem_cons_of_mem _ hd)
  have hfit : Fit s := fun {y c} hc i hi => by
    obtain ⟨ha, rfl⟩ := Array.getElem?_eq_some_iff.mp hc
    have q := List.all_eq_true.mp ((Array.all_eq_true_iff_forall_mem.mp hF) _ (Array.getElem_mem ha)) i (List.mem_range.mpr hi)
    simpa [Array.getElem?_eq_getElem hi] using q
  obtain ⟨hsets, hown0⟩ := atoms_of _ (rest_1_c_eq ▸ (show rest_1_c.before _ s = true from hrest))
  have hr0 := Cond.before_iff.mp hown0
  obtain ⟨i0, ei0⟩ := is_v ga0
  obtain rfl : w0 = (.int i0) := Option.some.inj ei0
  obtain ⟨i1, ei1⟩ := is_v ga1
  obtain rfl : w1 = (.int i1) := Option.some.inj ei1
  obtain ⟨i2, ei2⟩ := is_v ga2
  obtain rfl : w2 = (.int i2) := Option.some.inj ei2
  obtain ⟨i3, ei3⟩ := is_v gr3
  obtain rfl : w3 = (.int i3) := Option.some.inj ei3
  obtain ⟨ca, eca⟩ := arr_v (Cond.before_iff.mp (hsets _ (List.mem_of_getElem? (i := 10) rfl)))
  have S_cache : Sta s s.heap "java/lang/Long$LongCache" "cache" "[Ljava/lang/Long;" (.ref ca) := Sta.start eca (Or.inl (hsets _ (List.mem_of_getElem? (i := 9) rfl)))
  obtain ⟨cc, Acc⟩ := Arr.start eca (Cond.before_iff.mp (hsets _ (List.mem_of_getElem? (i := 10) rfl)))
  have B_cache := own_box eca Acc (Cond.before_iff.mp (hsets _ (List.mem_of_getElem? (i := 12) rfl))) (Cond.before_iff.mp (hsets _ (List.mem_of_getElem? (i := 13) rfl)))
  obtain ⟨ica, eic⟩ := arr_v (Cond.before_iff.mp (hsets _ (List.mem_of_getElem? (i := 4) rfl)))
  have S_icache : Sta s s.heap "java/lang/Integer$IntegerCache" "cache" "[Ljava/lang/Integer;" (.ref ica) := Sta.start eic (Or.inr ⟨(hw _ (List.mem_of_getElem? (i := 26) rfl)), (hsets _ (List.mem_of_getElem? (i := 2) rfl))⟩)
  obtain ⟨icc, Aic⟩ := Arr.start eic (Cond.before_iff.mp (hsets _ (List.mem_of_getElem? (i := 4) rfl)))
  have B_icache := own_boxI eic Aic (Cond.before_iff.mp (hsets _ (List.mem_of_getElem? (i := 6) rfl))) (Cond.before_iff.mp (hsets _ (List.mem_of_getElem? (i := 7) rfl)))
  have S_high : Sta s s.heap "java/lang/Integer$IntegerCache" "high" "I" (.int (127 : Int32)) := Sta.start (eqv_i (Term.int_eval (127 : Int32)) (Cond.before_iff.mp (hsets _ (List.mem_of_getElem? (i := 3) rfl)))) (Or.inl (hsets _ (List.mem_of_getElem? (i := 1) rfl)))
  obtain ⟨n, o, h1, h2, h3, _, L, rfl, ⟨rfl, N⟩, hq⟩ := rm0 l s _ hw tables_1 i0 i1 i2 i3 ca cc ica icc s.heap s.heap.size (Nat.le_refl _) (Old.start s) S_cache B_cache S_high S_icache B_icache p e ha hc hk s m _ below hf ((Spec.applies_iff_loose hf).mp happ).1 ⟨rfl, State.Warmed39.refl s, rfl⟩ trivial
  refine ⟨n, _, h1, h2, h3, hpost _ _ _ _ _ _ ⟨Cond.after_iff.mpr rfl, Cond.after_iff.mpr (eq_i res_at (Term.int_eval (1)) rfl), trivial⟩ ⟨hq.1, hq.2.1, (hq.2.2.sift fun y hy => Or.inr (N y hy)).mono (by decide) (by decide)⟩⟩
theorem main_1_1 : Claimed_1_1 := comes_1 fun _ _ _ _ _ _ h hF => ⟨h.1, hF⟩
theorem main_1_2 : Claimed_1_2 := comes_1 fun _ _ _ _ _ _ h hF => ⟨h.2.1, hF⟩
end Jvm.Pilot.@@N@@
namespace Jvm.Pilot.@@N@@
open Jvm Jvm.ClassFile Sem Op Lib Jvm.Free Jvm.Stand Jvm.Pilot.@@N@@.Jvm.D
/-! MADE BY PROGRAM (witnessworld.py) out of the Statement's table words and the real class files: 21 classes; the members and pool entries that the words name. The judged class is class 1, her method 1. -/
namespace start1
open Jvm.ClassFile
def u (s : String) : CpInfo := .utf8 (stringToUtf16 s)
/-- a pool by its gaps: so many unusable entries, then the entry; so many at the end -/
def gap : Nat → List CpInfo → List CpInfo
  | 0, r => r
  | n + 1, r => .unusable :: gap n r
def poolList (es : List (Nat × CpInfo)) (last : Nat) : List CpInfo := es.foldr (fun e r => gap e.1 (e.2 :: r)) (gap last [])
def pool (es : List (Nat × CpInfo)) (last : Nat) : Array CpInfo := ⟨poolList es last⟩
def fileOf (pool : Array CpInfo) (this : Nat) (attrs : Array Attribute := #[]) (ms : Array MethodInfo := #[]) (fl : Nat := 33) (sup : Nat := 0) (ifs : Array Nat := #[]) (fds : Array FieldInfo := #[]) : ClassFile where
  minorVersion := 0
  majorVersion := 65
  constantPool := pool
  accessFlags := fl
  thisClass := this
  superClass := sup
  interfaces := ifs
  fields := fds
  methods := ms
  attributes := attrs
def plain (name : String) (sup : Option ClassId) : Class where
  name := name
  kind := .ordinary
  loader := none
  accessFlags := 33
  super := sup
  interfaces := #[]
  cf := none
  fields := #[]
  methods := #[]
  instanceTypes := #[]
  staticTypes := #[]
  resolved := #[]
  callSites := []
  init := .initialized
  statics := none
  mirror := none

def pool0 : Array CpInfo := pool [(5, u "<init>"), (0, u "()V"), (1, .class_ 10), (1, u "java/lang/Object")] 113

def k0c0 : Code := { maxStack := 0, maxLocals := 1, code := object_method_1_code, exceptionTable := #[], attributes := #[] }
def k0m0 : Method := { name := "<init>", desc := "()V", sig := { parameters := [], returnType := none }, accessFlags := 1, code := some k0c0 }
/-- java/lang/Object -/
def k0 : Class := { plain "java/lang/Object" none with
  accessFlags := 33
  interfaces := #[]
  cf := some (fileOf pool0 8 #[] #[{ accessFlags := 1, nameIndex := 5, descriptorIndex := 6, attributes := #[] }] 33 0 #[] #[])
  fields := #[]
  methods := #[k0m0]
  instanceTypes := #[]
  staticTypes := #[]
  resolved := Array.replicate 124 none
  statics := none }

def pool1 : Array CpInfo := pool [(2, .class_ 4), (0, .nameAndType 5 6), (0, u "java/lang/Object"), (0, u "<init>"), (0, u "()V"), (0, .class_ 8), (0, u "com/example/tailrace/tailrace/cli/Count"), (0, .methodref 7 3), (0, .methodref 7 11), (0, .nameAndType 12 13), (0, u "createAccumulator"), (0, u "()Lcom/example/tailrace/tailrace/cli/Count$Tally;"), (0, .methodref 15 16), (0, .class_ 17), (0, .nameAndType 18 19), (0, u "java/lang/Integer"), (0, u "valueOf"), (0, u "(I)Ljava/lang/Integer;"), (0, .methodref 7 21), (0, .nameAndType 22 23), (0, u "add"), (0, u "(Ljava/lang/Object;Lcom/example/tailrace/tailrace/cli/Count$Tally;)Lcom/example/tailrace/tailrace/cli/Count$Tally;"), (0, .methodref 7 25), (0, .nameAndType 26 27), (0, u "getResult"), (0, u "(Lcom/example/tailrace/tailrace/cli/Count$Tally;)Ljava/lang/Long;"), (0, .methodref 29 30), (0, .class_ 31), (0, .nameAndType 32 33), (0, u "java/lang/Long"), (0, u "longValue"), (0, u "()J"), (0, .class_ 35), (0, u "com/example/tailrace/tailrace/cli/CountAddPinLaw"), (2, u "law"), (0, u "(IIII)Z")] 7

def k1m0 : Method := { name := "<init>", desc := "()V", sig := { parameters := [], returnType := none }, accessFlags := 1, code := none }
def k1c1 : Code := { maxStack := 5, maxLocals := 11, code := code, exceptionTable := #[], attributes := #[] }
def k1m1 : Method := { name := "law", desc := "(IIII)Z", sig := { parameters := [.int, .int, .int, .int], returnType := some .boolean }, accessFlags := 9, code := some k1c1 }
/-- com/example/tailrace/tailrace/cli/CountAddPinLaw -/
def k1 : Class := { plain "com/example/tailrace/tailrace/cli/CountAddPinLaw" (some 0) with
  accessFlags := 49
  interfaces := #[]
  cf := some (fileOf pool1 34 #[] #[{ accessFlags := 1, nameIndex := 5, descriptorIndex := 6, attributes := #[] }, { accessFlags := 9, nameIndex := 38, descriptorIndex := 39, attributes := #[] }] 49 2 #[] #[])
  fields := #[]
  methods := #[k1m0, k1m1]
  instanceTypes := #[]
  staticTypes := #[]
  resolved := Array.replicate 47 none
  statics := none }

def pool2 : Array CpInfo := pool [(1, .class_ 2), (0, u "com/example/tailrace/tailrace/api/AggregateFunction"), (0, .class_ 4), (0, u "java/lang/Object")] 16

/-- com/example/tailrace/tailrace/api/AggregateFunction -/
def k2 : Class := { plain "com/example/tailrace/tailrace/api/AggregateFunction" (some 0) with
  accessFlags := 1537
  interfaces := #[]
  cf := some (fileOf pool2 1 #[] #[] 1537 3 #[] #[])
  fields := #[]
  methods := #[]
  instanceTypes := #[]
  staticTypes := #[]
  resolved := Array.replicate 21 none
  statics := none }

def pool3 : Array CpInfo := pool [(1, .methodref 2 3), (0, .class_ 4), (0, .nameAndType 5 6), (0, u "java/lang/Object"), (0, u "<init>"), (0, u "()V"), (0, .class_ 8), (0, u "com/example/tailrace/tailrace/cli/Count$Tally"), (0, .methodref 7 3), (0, .fieldref 7 11), (0, .nameAndType 12 13), (0, u "count"), (0, u "J"), (0, .methodref 15 16), (0, .class_ 17), (0, .nameAndType 18 19), (0, u "java/lang/Long"), (0, u "valueOf"), (0, u "(J)Ljava/lang/Long;"), (1, .class_ 23), (1, u "com/example/tailrace/tailrace/cli/Count"), (0, u "getResult"), (0, u "(Lcom/example/tailrace/tailrace/cli/Count$Tally;)Ljava/lang/Long;"), (2, u "add"), (0, u "(Ljava/lang/Object;Lcom/example/tailrace/tailrace/cli/Count$Tally;)Lcom/example/tailrace/tailrace/cli/Count$Tally;"), (2, u "createAccumulator"), (0, u "()Lcom/example/tailrace/tailrace/cli/Count$Tally;"), (0, .class_ 35), (0, u "com/example/tailrace/tailrace/api/AggregateFunction")] 17

def k3c0 : Code := { maxStack := 1, maxLocals := 1, code := prog_47_method_1_code, exceptionTable := #[], attributes := #[] }
def k3m0 : Method := { name := "<init>", desc := "()V", sig := { parameters := [], returnType := none }, accessFlags := 0, code := some k3c0 }
def k3c1 : Code := { maxStack := 2, maxLocals := 1, code := prog_47_method_2_code, exceptionTable := #[], attributes := #[] }
def k3m1 : Method := { name := "createAccumulator", desc := "()Lcom/example/tailrace/tailrace/cli/Count$Tally;", sig := { parameters := [], returnType := some (.object "com/example/tailrace/tailrace/cli/Count$Tally") }, accessFlags := 1, code := some k3c1 }
def k3c2 : Code := { maxStack := 5, maxLocals := 3, code := prog_47_method_3_code, exceptionTable := #[], attributes := #[] }
def k3m2 : Method := { name := "add", desc := "(Ljava/lang/Object;Lcom/example/tailrace/tailrace/cli/Count$Tally;)Lcom/example/tailrace/tailrace/cli/Count$Tally;", sig := { parameters := [(.object "java/lang/Object"), (.object "com/example/tailrace/tailrace/cli/Count$Tally")], returnType := some (.object "com/example/tailrace/tailrace/cli/Count$Tally") }, accessFlags := 1, code := some k3c2 }
def k3c3 : Code := { maxStack := 2, maxLocals := 2, code := prog_47_method_4_code, exceptionTable := #[], attributes := #[] }
def k3m3 : Method := { name := "getResult", desc := "(Lcom/example/tailrace/tailrace/cli/Count$Tally;)Ljava/lang/Long;", sig := { parameters := [(.object "com/example/tailrace/tailrace/cli/Count$Tally")], returnType := some (.object "java/lang/Long") }, accessFlags := 1, code := some k3c3 }
/-- com/example/tailrace/tailrace/cli/Count -/
def k3 : Class := { plain "com/example/tailrace/tailrace/cli/Count" (some 0) with
  accessFlags := 48
  interfaces := #[2]
  cf := some (fileOf pool3 21 #[.nestMembers #[7]] #[{ accessFlags := 0, nameIndex := 5, descriptorIndex := 6, attributes := #[] }, { accessFlags := 1, nameIndex := 32, descriptorIndex := 33, attributes := #[] }, { accessFlags := 1, nameIndex := 28, descriptorIndex := 29, attributes := #[] }, { accessFlags := 1, nameIndex := 24, descriptorIndex := 25, attributes := #[] }] 48 2 #[34] #[])
  fields := #[]
  methods := #[k3m0, k3m1, k3m2, k3m3]
  instanceTypes := #[]
  staticTypes := #[]
  resolved := (Array.replicate 53 none).setIfInBounds 10 (some (.field 5 1))
  statics := none }

def pool4 : Array CpInfo := pool [(1, .class_ 2), (0, u "java/io/Serializable"), (0, .class_ 4), (0, u "java/lang/Object")] 2

/-- java/io/Serializable -/
def k4 : Class := { plain "java/io/Serializable" (some 0) with
  accessFlags := 1537
  interfaces := #[]
  cf := some (fileOf pool4 1 #[] #[] 1537 3 #[] #[])
  fields := #[]
  methods := #[]
  instanceTypes := #[]
  staticTypes := #[]
  resolved := Array.replicate 7 none
  statics := none }

def pool5 : Array CpInfo := pool [(1, .methodref 2 3), (0, .class_ 4), (0, .nameAndType 5 6), (0, u "java/lang/Object"), (0, u "<init>"), (0, u "()V"), (0, .class_ 8), (0, u "com/example/tailrace/tailrace/cli/Count$Tally"), (0, .class_ 10), (0, u "java/io/Serializable"), (0, u "serialVersionUID"), (0, u "J"), (3, u "count"), (5, .class_ 23), (0, u "com/example/tailrace/tailrace/cli/Count")] 2

def k5c0 : Code := { maxStack := 1, maxLocals := 1, code := prog_48_method_1_code, exceptionTable := #[], attributes := #[] }
def k5m0 : Method := { name := "<init>", desc := "()V", sig := { parameters := [], returnType := none }, accessFlags := 0, code := some k5c0 }
/-- com/example/tailrace/tailrace/cli/Count$Tally -/
def k5 : Class := { plain "com/example/tailrace/tailrace/cli/Count$Tally" (some 0) with
  accessFlags := 48
  interfaces := #[4]
  cf := some (fileOf pool5 7 #[.nestHost 22] #[{ accessFlags := 0, nameIndex := 5, descriptorIndex := 6, attributes := #[] }] 48 2 #[9] #[{ accessFlags := 26, nameIndex := 11, descriptorIndex := 12, attributes := #[] }, { accessFlags := 2, nameIndex := 16, descriptorIndex := 12, attributes := #[] }])
  fields := #[{ name := "serialVersionUID", type := .long, accessFlags := 26, slot := 0, constantValue := 0 }, { name := "count", type := .long, accessFlags := 2, slot := 0, constantValue := 0 }]
  methods := #[k5m0]
  instanceTypes := #[.long]
  staticTypes := #[.long]
  resolved := Array.replicate 26 none
  statics := none }

def pool6 : Array CpInfo := pool [(1, .methodref 2 3), (0, .class_ 4), (0, .nameAndType 5 6), (0, u "java/lang/Object"), (0, u "<init>"), (0, u "()V"), (1, .class_ 10), (1, u "java/lang/Number"), (2, .class_ 14), (0, u "java/io/Serializable"), (0, u "serialVersionUID"), (0, u "J")] 20

def k6c0 : Code := { maxStack := 1, maxLocals := 1, code := jdk_18_method_1_code, exceptionTable := #[], attributes := #[] }
def k6m0 : Method := { name := "<init>", desc := "()V", sig := { parameters := [], returnType := none }, accessFlags := 1, code := some k6c0 }
/-- java/lang/Number -/
def k6 : Class := { plain "java/lang/Number" (some 0) with
  accessFlags := 1057
  interfaces := #[4]
  cf := some (fileOf pool6 8 #[] #[{ accessFlags := 1, nameIndex := 5, descriptorIndex := 6, attributes := #[] }] 1057 2 #[13] #[{ accessFlags := 26, nameIndex := 15, descriptorIndex := 16, attributes := #[] }])
  fields := #[{ name := "serialVersionUID", type := .long, accessFlags := 26, slot := 0, constantValue := 0 }]
  methods := #[k6m0]
  instanceTypes := #[]
  staticTypes := #[.long]
  resolved := Array.replicate 37 none
  statics := none }

def pool7 : Array CpInfo := pool [(1, .class_ 2), (0, u "java/lang/Comparable"), (0, .class_ 4), (0, u "java/lang/Object")] 7

/-- java/lang/Comparable -/
def k7 : Class := { plain "java/lang/Comparable" (some 0) with
  accessFlags := 1537
  interfaces := #[]
  cf := some (fileOf pool7 1 #[] #[] 1537 3 #[] #[])
  fields := #[]
  methods := #[]
  instanceTypes := #[]
  staticTypes := #[]
  resolved := Array.replicate 12 none
  statics := none }

def pool8 : Array CpInfo := pool [(1, .class_ 2), (0, u "java/lang/constant/Constable"), (0, .class_ 4), (0, u "java/lang/Object")] 6

/-- java/lang/constant/Constable -/
def k8 : Class := { plain "java/lang/constant/Constable" (some 0) with
  accessFlags := 1537
  interfaces := #[]
  cf := some (fileOf pool8 1 #[] #[] 1537 3 #[] #[])
  fields := #[]
  methods := #[]
  instanceTypes := #[]
  staticTypes := #[]
  resolved := Array.replicate 11 none
  statics := none }

def pool9 : Array CpInfo := pool [(1, .class_ 2), (0, u "java/lang/constant/ConstantDesc"), (0, .class_ 4), (0, u "java/lang/Object")] 32

/-- java/lang/constant/ConstantDesc -/
def k9 : Class := { plain "java/lang/constant/ConstantDesc" (some 0) with
  accessFlags := 1537
  interfaces := #[]
  cf := some (fileOf pool9 1 #[] #[] 1537 3 #[] #[])
  fields := #[]
  methods := #[]
  instanceTypes := #[]
  staticTypes := #[]
  resolved := Array.replicate 37 none
  statics := none }

def pool10 : Array CpInfo := pool [(1, .class_ 2), (0, u "java/lang/Integer"), (16, u "digits"), (0, u "[C"), (46, u "<init>"), (17, u "DigitOnes"), (0, u "[B"), (2, u "DigitTens"), (10, .nameAndType 67 101), (0, u "()V"), (85, u "valueOf"), (0, u "(I)Ljava/lang/Integer;"), (0, .class_ 190), (0, u "java/lang/Integer$IntegerCache"), (0, .fieldref 189 192), (0, .nameAndType 193 194), (0, u "high"), (0, u "I"), (0, .fieldref 189 196), (0, .nameAndType 197 198), (0, u "cache"), (0, u "[Ljava/lang/Integer;"), (0, .methodref 1 200), (0, .nameAndType 67 201), (0, u "(I)V"), (0, .methodref 203 100), (0, .class_ 204), (0, u "java/lang/Number"), (0, .fieldref 1 206), (0, .nameAndType 207 194), (0, u "value"), (94, u "TYPE"), (0, u "Ljava/lang/Class;"), (0, .class_ 305), (0, u "java/lang/Comparable"), (0, .class_ 307), (0, u "java/lang/constant/Constable"), (0, .class_ 309), (0, u "java/lang/constant/ConstantDesc"), (0, u "MIN_VALUE"), (1, u "MAX_VALUE"), (3, u "SIZE"), (1, u "BYTES"), (1, u "serialVersionUID"), (0, u "J")] 131

def k10c0 : Code := { maxStack := 3, maxLocals := 1, code := jdk_33_method_22_code, exceptionTable := #[], attributes := #[] }
def k10m0 : Method := { name := "valueOf", desc := "(I)Ljava/lang/Integer;", sig := { parameters := [.int], returnType := some (.object "java/lang/Integer") }, accessFlags := 9, code := some k10c0 }
def k10c1 : Code := { maxStack := 2, maxLocals := 2, code := jdk_33_method_23_code, exceptionTable := #[], attributes := #[] }
def k10m1 : Method := { name := "<init>", desc := "(I)V", sig := { parameters := [.int], returnType := none }, accessFlags := 1, code := some k10c1 }
/-- java/lang/Integer -/
def k10 : Class := { plain "java/lang/Integer" (some 6) with
  accessFlags := 49
  interfaces := #[7, 8, 9]
  cf := some (fileOf pool10 1 #[.nestMembers #[189]] #[{ accessFlags := 9, nameIndex := 187, descriptorIndex := 188, attributes := #[] }, { accessFlags := 1, nameIndex := 67, descriptorIndex := 201, attributes := #[] }] 49 203 #[304, 306, 308] #[{ accessFlags := 25, nameIndex := 310, descriptorIndex := 194, attributes := #[] }, { accessFlags := 25, nameIndex := 312, descriptorIndex := 194, attributes := #[] }, { accessFlags := 25, nameIndex := 302, descriptorIndex := 303, attributes := #[] }, { accessFlags := 24, nameIndex := 19, descriptorIndex := 20, attributes := #[] }, { accessFlags := 24, nameIndex := 89, descriptorIndex := 86, attributes := #[] }, { accessFlags := 24, nameIndex := 85, descriptorIndex := 86, attributes := #[] }, { accessFlags := 18, nameIndex := 207, descriptorIndex := 194, attributes := #[] }, { accessFlags := 25, nameIndex := 316, descriptorIndex := 194, attributes := #[] }, { accessFlags := 25, nameIndex := 318, descriptorIndex := 194, attributes := #[] }, { accessFlags := 26, nameIndex := 320, descriptorIndex := 321, attributes := #[] }])
  fields := #[{ name := "MIN_VALUE", type := .int, accessFlags := 25, slot := 0, constantValue := 0 }, { name := "MAX_VALUE", type := .int, accessFlags := 25, slot := 1, constantValue := 0 }, { name := "TYPE", type := (.object "java/lang/Class"), accessFlags := 25, slot := 2, constantValue := 0 }, { name := "digits", type := (.array .char), accessFlags := 24, slot := 3, constantValue := 0 }, { name := "DigitTens", type := (.array .byte), accessFlags := 24, slot := 4, constantValue := 0 }, { name := "DigitOnes", type := (.array .byte), accessFlags := 24, slot := 5, constantValue := 0 }, { name := "value", type := .int, accessFlags := 18, slot := 0, constantValue := 0 }, { name := "SIZE", type := .int, accessFlags := 25, slot := 6, constantValue := 0 }, { name := "BYTES", type := .int, accessFlags := 25, slot := 7, constantValue := 0 }, { name := "serialVersionUID", type := .long, accessFlags := 26, slot := 8, constantValue := 0 }]
  methods := #[k10m0, k10m1]
  instanceTypes := #[.int]
  staticTypes := #[.int, .int, (.object "java/lang/Class"), (.array .char), (.array .byte), (.array .byte), .int, .int, .long]
  resolved := Array.replicate 453 none
  statics := none }

def pool11 : Array CpInfo := pool [(2, .class_ 4), (1, u "java/lang/Object"), (0, u "<init>"), (0, u "()V"), (0, .class_ 8), (0, u "java/lang/Integer"), (7, .class_ 18), (1, u "java/lang/Integer$IntegerCache"), (0, u "$assertionsDisabled"), (0, u "Z"), (26, u "high"), (0, u "I"), (8, u "archivedCache"), (0, u "[Ljava/lang/Integer;"), (12, u "cache"), (0, u "low")] 27

def k11m0 : Method := { name := "<init>", desc := "()V", sig := { parameters := [], returnType := none }, accessFlags := 2, code := none }
/-- java/lang/Integer$IntegerCache -/
def k11 : Class := { plain "java/lang/Integer$IntegerCache" (some 0) with
  accessFlags := 48
  interfaces := #[]
  cf := some (fileOf pool11 16 #[.nestHost 7] #[{ accessFlags := 2, nameIndex := 5, descriptorIndex := 6, attributes := #[] }] 48 2 #[] #[{ accessFlags := 24, nameIndex := 72, descriptorIndex := 48, attributes := #[] }, { accessFlags := 24, nameIndex := 47, descriptorIndex := 48, attributes := #[] }, { accessFlags := 24, nameIndex := 71, descriptorIndex := 58, attributes := #[] }, { accessFlags := 8, nameIndex := 57, descriptorIndex := 58, attributes := #[] }, { accessFlags := 4120, nameIndex := 19, descriptorIndex := 20, attributes := #[] }])
  fields := #[{ name := "low", type := .int, accessFlags := 24, slot := 0, constantValue := 0 }, { name := "high", type := .int, accessFlags := 24, slot := 1, constantValue := 0 }, { name := "cache", type := (.array (.object "java/lang/Integer")), accessFlags := 24, slot := 2, constantValue := 0 }, { name := "archivedCache", type := (.array (.object "java/lang/Integer")), accessFlags := 8, slot := 3, constantValue := 0 }, { name := "$assertionsDisabled", type := .boolean, accessFlags := 4120, slot := 4, constantValue := 0 }]
  methods := #[k11m0]
  instanceTypes := #[]
  staticTypes := #[.int, .int, (.array (.object "java/lang/Integer")), (.array (.object "java/lang/Integer")), .boolean]
  resolved := Array.replicate 100 none
  statics := some 0 }

def pool12 : Array CpInfo := pool [(1, .class_ 2), (0, u "java/lang/Long"), (82, u "valueOf"), (143, u "(J)Ljava/lang/Long;"), (0, .long 18446744073709551488), (1, .long 127), (1, .fieldref 235 236), (0, .class_ 237), (0, .nameAndType 238 239), (0, u "java/lang/Long$LongCache"), (0, u "cache"), (0, u "[Ljava/lang/Long;"), (31, .class_ 272), (0, u "java/lang/Number"), (0, .fieldref 1 274), (0, .nameAndType 275 276), (0, u "value"), (0, u "J"), (5, u "longValue"), (0, u "()J"), (77, u "TYPE"), (0, u "Ljava/lang/Class;"), (0, .class_ 364), (0, u "java/lang/Comparable"), (0, .class_ 366), (0, u "java/lang/constant/Constable"), (0, .class_ 368), (0, u "java/lang/constant/ConstantDesc"), (0, u "MIN_VALUE"), (1, u "MAX_VALUE"), (4, u "SIZE"), (0, u "I"), (1, u "BYTES"), (1, u "serialVersionUID")] 142

def k12c0 : Code := { maxStack := 4, maxLocals := 3, code := jdk_35_method_24_code, exceptionTable := #[], attributes := #[] }
def k12m0 : Method := { name := "valueOf", desc := "(J)Ljava/lang/Long;", sig := { parameters := [.long], returnType := some (.object "java/lang/Long") }, accessFlags := 9, code := some k12c0 }
def k12c1 : Code := { maxStack := 2, maxLocals := 1, code := jdk_35_method_31_code, exceptionTable := #[], attributes := #[] }
def k12m1 : Method := { name := "longValue", desc := "()J", sig := { parameters := [], returnType := some .long }, accessFlags := 1, code := some k12c1 }
/-- java/lang/Long -/
def k12 : Class := { plain "java/lang/Long" (some 6) with
  accessFlags := 49
  interfaces := #[7, 8, 9]
  cf := some (fileOf pool12 1 #[.nestMembers #[235]] #[{ accessFlags := 9, nameIndex := 85, descriptorIndex := 229, attributes := #[] }, { accessFlags := 1, nameIndex := 282, descriptorIndex := 283, attributes := #[] }] 49 271 #[363, 365, 367] #[{ accessFlags := 25, nameIndex := 369, descriptorIndex := 276, attributes := #[] }, { accessFlags := 25, nameIndex := 371, descriptorIndex := 276, attributes := #[] }, { accessFlags := 25, nameIndex := 361, descriptorIndex := 362, attributes := #[] }, { accessFlags := 18, nameIndex := 275, descriptorIndex := 276, attributes := #[] }, { accessFlags := 25, nameIndex := 376, descriptorIndex := 377, attributes := #[] }, { accessFlags := 25, nameIndex := 379, descriptorIndex := 377, attributes := #[] }, { accessFlags := 26, nameIndex := 381, descriptorIndex := 276, attributes := #[] }])
  fields := #[{ name := "MIN_VALUE", type := .long, accessFlags := 25, slot := 0, constantValue := 0 }, { name := "MAX_VALUE", type := .long, accessFlags := 25, slot := 1, constantValue := 0 }, { name := "TYPE", type := (.object "java/lang/Class"), accessFlags := 25, slot := 2, constantValue := 0 }, { name := "value", type := .long, accessFlags := 18, slot := 0, constantValue := 0 }, { name := "SIZE", type := .int, accessFlags := 25, slot := 3, constantValue := 0 }, { name := "BYTES", type := .int, accessFlags := 25, slot := 4, constantValue := 0 }, { name := "serialVersionUID", type := .long, accessFlags := 26, slot := 5, constantValue := 0 }]
  methods := #[k12m0, k12m1]
  instanceTypes := #[.long]
  staticTypes := #[.long, .long, (.object "java/lang/Class"), .int, .int, .long]
  resolved := Array.replicate 524 none
  statics := none }

def pool13 : Array CpInfo := pool [(2, .class_ 4), (1, u "java/lang/Object"), (0, u "<init>"), (0, u "()V"), (0, .class_ 8), (0, u "java/lang/Long"), (7, .class_ 18), (1, u "java/lang/Long$LongCache"), (0, u "$assertionsDisabled"), (0, u "Z"), (8, u "archivedCache"), (0, u "[Ljava/lang/Long;"), (7, u "cache")] 24

def k13m0 : Method := { name := "<init>", desc := "()V", sig := { parameters := [], returnType := none }, accessFlags := 2, code := none }
/-- java/lang/Long$LongCache -/
def k13 : Class := { plain "java/lang/Long$LongCache" (some 0) with
  accessFlags := 48
  interfaces := #[]
  cf := some (fileOf pool13 16 #[.nestHost 7] #[{ accessFlags := 2, nameIndex := 5, descriptorIndex := 6, attributes := #[] }] 48 2 #[] #[{ accessFlags := 24, nameIndex := 38, descriptorIndex := 30, attributes := #[] }, { accessFlags := 8, nameIndex := 29, descriptorIndex := 30, attributes := #[] }, { accessFlags := 4120, nameIndex := 19, descriptorIndex := 20, attributes := #[] }])
  fields := #[{ name := "cache", type := (.array (.object "java/lang/Long")), accessFlags := 24, slot := 0, constantValue := 0 }, { name := "archivedCache", type := (.array (.object "java/lang/Long")), accessFlags := 8, slot := 1, constantValue := 0 }, { name := "$assertionsDisabled", type := .boolean, accessFlags := 4120, slot := 2, constantValue := 0 }]
  methods := #[k13m0]
  instanceTypes := #[]
  staticTypes := #[(.array (.object "java/lang/Long")), (.array (.object "java/lang/Long")), .boolean]
  resolved := Array.replicate 63 none
  statics := some 1 }

def pool14 : Array CpInfo := pool [(1, u "java/lang/Cloneable"), (0, .class_ 1), (0, u "java/lang/Object"), (0, .class_ 3)] 3

/-- java/lang/Cloneable -/
def k14 : Class := { plain "java/lang/Cloneable" (some 0) with
  accessFlags := 1537
  interfaces := #[]
  cf := some (fileOf pool14 2 #[] #[] 1537 4 #[] #[])
  fields := #[]
  methods := #[]
  instanceTypes := #[]
  staticTypes := #[]
  resolved := Array.replicate 8 none
  statics := none }

/-- the primitive byte -/
def k15 : Class := { plain "byte" none with kind := .primitive 'B', accessFlags := 0x411 }
/-- [B -/
def k16 : Class := { plain "[B" (some 0) with kind := .array 15 .byte, interfaces := #[14, 4], accessFlags := 1041 }

/-- the primitive int -/
def k17 : Class := { plain "int" none with kind := .primitive 'I', accessFlags := 0x411 }
/-- [I -/
def k18 : Class := { plain "[I" (some 0) with kind := .array 17 .int, interfaces := #[14, 4], accessFlags := 1041 }

/-- [Ljava/lang/Integer; -/
def k19 : Class := { plain "[Ljava/lang/Integer;" (some 0) with kind := .array 10 (.object "java/lang/Integer"), interfaces := #[14, 4], accessFlags := 1041 }

/-- [Ljava/lang/Long; -/
def k20 : Class := { plain "[Ljava/lang/Long;" (some 0) with kind := .array 12 (.object "java/lang/Long"), interfaces := #[14, 4], accessFlags := 1041 }

def heap : Heap := #[{ cls := 11, slots := #[.int 0, .int 127, .ref 3, .null, .int 0], vm := .statics 11 },
  { cls := 13, slots := #[.ref 2, .null, .int 0], vm := .statics 13 },
  { cls := 20, slots := #[.ref 4, .ref 5, .ref 6, .ref 7, .ref 8, .ref 9, .ref 10, .ref 11, .ref 12, .ref 13, .ref 14, .ref 15, .ref 16, .ref 17, .ref 18, .ref 19, .ref 20, .ref 21, .ref 22, .ref 23, .ref 24, .ref 25, .ref 26, .ref 27, .ref 28, .ref 29, .ref 30, .ref 31, .ref 32, .ref 33, .ref 34, .ref 35, .ref 36, .ref 37, .ref 38, .ref 39, .ref 40, .ref 41, .ref 42, .ref 43, .ref 44, .ref 45, .ref 46, .ref 47, .ref 48, .ref 49, .ref 50, .ref 51, .ref 52, .ref 53, .ref 54, .ref 55, .ref 56, .ref 57, .ref 58, .ref 59, .ref 60, .ref 61, .ref 62, .ref 63, .ref 64, .ref 65, .ref 66, .ref 67, .ref 68, .ref 69, .ref 70, .ref 71, .ref 72, .ref 73, .ref 74, .ref 75, .ref 76, .ref 77, .ref 78, .ref 79, .ref 80, .ref 81, .ref 82, .ref 83, .ref 84, .ref 85, .ref 86, .ref 87, .ref 88, .ref 89, .ref 90, .ref 91, .ref 92, .ref 93, .ref 94, .ref 95, .ref 96, .ref 97, .ref 98, .ref 99, .ref 100, .ref 101, .ref 102, .ref 103, .ref 104, .ref 105, .ref 106, .ref 107, .ref 108, .ref 109, .ref 110, .ref 111, .ref 112, .ref 113, .ref 114, .ref 115, .ref 116, .ref 117, .ref 118, .ref 119, .ref 120, .ref 121, .ref 122, .ref 123, .ref 124, .ref 125, .ref 126, .ref 127, .ref 128, .ref 129, .ref 130, .ref 131, .ref 132, .ref 133, .ref 134, .ref 135, .ref 136, .ref 137, .ref 138, .ref 139, .ref 140, .ref 141, .ref 142, .ref 143, .ref 144, .ref 145, .ref 146, .ref 147, .ref 148, .ref 149, .ref 150, .ref 151, .ref 152, .ref 153, .ref 154, .ref 155, .ref 156, .ref 157, .ref 158, .ref 159, .ref 160, .ref 161, .ref 162, .ref 163, .ref 164, .ref 165, .ref 166, .ref 167, .ref 168, .ref 169, .ref 170, .ref 171, .ref 172, .ref 173, .ref 174, .ref 175, .ref 176, .ref 177, .ref 178, .ref 179, .ref 180, .ref 181, .ref 182, .ref 183, .ref 184, .ref 185, .ref 186, .ref 187, .ref 188, .ref 189, .ref 190, .ref 191, .ref 192, .ref 193, .ref 194, .ref 195, .ref 196, .ref 197, .ref 198, .ref 199, .ref 200, .ref 201, .ref 202, .ref 203, .ref 204, .ref 205, .ref 206, .ref 207, .ref 208, .ref 209, .ref 210, .ref 211, .ref 212, .ref 213, .ref 214, .ref 215, .ref 216, .ref 217, .ref 218, .ref 219, .ref 220, .ref 221, .ref 222, .ref 223, .ref 224, .ref 225, .ref 226, .ref 227, .ref 228, .ref 229, .ref 230, .ref 231, .ref 232, .ref 233, .ref 234, .ref 235, .ref 236, .ref 237, .ref 238, .ref 239, .ref 240, .ref 241, .ref 242, .ref 243, .ref 244, .ref 245, .ref 246, .ref 247, .ref 248, .ref 249, .ref 250, .ref 251, .ref 252, .ref 253, .ref 254, .ref 255, .ref 256, .ref 257, .ref 258, .ref 259], vm := .none },
  { cls := 19, slots := #[.ref 260, .ref 261, .ref 262, .ref 263, .ref 264, .ref 265, .ref 266, .ref 267, .ref 268, .ref 269, .ref 270, .ref 271, .ref 272, .ref 273, .ref 274, .ref 275, .ref 276, .ref 277, .ref 278, .ref 279, .ref 280, .ref 281, .ref 282, .ref 283, .ref 284, .ref 285, .ref 286, .ref 287, .ref 288, .ref 289, .ref 290, .ref 291, .ref 292, .ref 293, .ref 294, .ref 295, .ref 296, .ref 297, .ref 298, .ref 299, .ref 300, .ref 301, .ref 302, .ref 303, .ref 304, .ref 305, .ref 306, .ref 307, .ref 308, .ref 309, .ref 310, .ref 311, .ref 312, .ref 313, .ref 314, .ref 315, .ref 316, .ref 317, .ref 318, .ref 319, .ref 320, .ref 321, .ref 322, .ref 323, .ref 324, .ref 325, .ref 326, .ref 327, .ref 328, .ref 329, .ref 330, .ref 331, .ref 332, .ref 333, .ref 334, .ref 335, .ref 336, .ref 337, .ref 338, .ref 339, .ref 340, .ref 341, .ref 342, .ref 343, .ref 344, .ref 345, .ref 346, .ref 347, .ref 348, .ref 349, .ref 350, .ref 351, .ref 352, .ref 353, .ref 354, .ref 355, .ref 356, .ref 357, .ref 358, .ref 359, .ref 360, .ref 361, .ref 362, .ref 363, .ref 364, .ref 365, .ref 366, .ref 367, .ref 368, .ref 369, .ref 370, .ref 371, .ref 372, .ref 373, .ref 374, .ref 375, .ref 376, .ref 377, .ref 378, .ref 379, .ref 380, .ref 381, .ref 382, .ref 383, .ref 384, .ref 385, .ref 386, .ref 387, .ref 388, .ref 389, .ref 390, .ref 391, .ref 392, .ref 393, .ref 394, .ref 395, .ref 396, .ref 397, .ref 398, .ref 399, .ref 400, .ref 401, .ref 402, .ref 403, .ref 404, .ref 405, .ref 406, .ref 407, .ref 408, .ref 409, .ref 410, .ref 411, .ref 412, .ref 413, .ref 414, .ref 415, .ref 416, .ref 417, .ref 418, .ref 419, .ref 420, .ref 421, .ref 422, .ref 423, .ref 424, .ref 425, .ref 426, .ref 427, .ref 428, .ref 429, .ref 430, .ref 431, .ref 432, .ref 433, .ref 434, .ref 435, .ref 436, .ref 437, .ref 438, .ref 439, .ref 440, .ref 441, .ref 442, .ref 443, .ref 444, .ref 445, .ref 446, .ref 447, .ref 448, .ref 449, .ref 450, .ref 451, .ref 452, .ref 453, .ref 454, .ref 455, .ref 456, .ref 457, .ref 458, .ref 459, .ref 460, .ref 461, .ref 462, .ref 463, .ref 464, .ref 465, .ref 466, .ref 467, .ref 468, .ref 469, .ref 470, .ref 471, .ref 472, .ref 473, .ref 474, .ref 475, .ref 476, .ref 477, .ref 478, .ref 479, .ref 480, .ref 481, .ref 482, .ref 483, .ref 484, .ref 485, .ref 486, .ref 487, .ref 488, .ref 489, .ref 490, .ref 491, .ref 492, .ref 493, .ref 494, .ref 495, .ref 496, .ref 497, .ref 498, .ref 499, .ref 500, .ref 501, .ref 502, .ref 503, .ref 504, .ref 505, .ref 506, .ref 507, .ref 508, .ref 509, .ref 510, .ref 511, .ref 512, .ref 513, .ref 514, .ref 515], vm := .none },
  { cls := 12, slots := #[.long (-128)], vm := .none },
  { cls := 12, slots := #[.long (-127)], vm := .none },
  { cls := 12, slots := #[.long (-126)], vm := .none },
  { cls := 12, slots := #[.long (-125)], vm := .none },
  { cls := 12, slots := #[.long (-124)], vm := .none },
  { cls := 12, slots := #[.long (-123)], vm := .none },
  { cls := 12, slots := #[.long (-122)], vm := .none },
  { cls := 12, slots := #[.long (-121)], vm := .none },
  { cls := 12, slots := #[.long (-120)], vm := .none },
  { cls := 12, slots := #[.long (-119)], vm := .none },
  { cls := 12, slots := #[.long (-118)], vm := .none },
  { cls := 12, slots := #[.long (-117)], vm := .none },
  { cls := 12, slots := #[.long (-116)], vm := .none },
  { cls := 12, slots := #[.long (-115)], vm := .none },
  { cls := 12, slots := #[.long (-114)], vm := .none },
  { cls := 12, slots := #[.long (-113)], vm := .none },
  { cls := 12, slots := #[.long (-112)], vm := .none },
  { cls := 12, slots := #[.long (-111)], vm := .none },
  { cls := 12, slots := #[.long (-110)], vm := .none },
  { cls := 12, slots := #[.long (-109)], vm := .none },
  { cls := 12, slots := #[.long (-108)], vm := .none },
  { cls := 12, slots := #[.long (-107)], vm := .none },
  { cls := 12, slots := #[.long (-106)], vm := .none },
  { cls := 12, slots := #[.long (-105)], vm := .none },
  { cls := 12, slots := #[.long (-104)], vm := .none },
  { cls := 12, slots := #[.long (-103)], vm := .none },
  { cls := 12, slots := #[.long (-102)], vm := .none },
  { cls := 12, slots := #[.long (-101)], vm := .none },
  { cls := 12, slots := #[.long (-100)], vm := .none },
  { cls := 12, slots := #[.long (-99)], vm := .none },
  { cls := 12, slots := #[.long (-98)], vm := .none },
  { cls := 12, slots := #[.long (-97)], vm := .none },
  { cls := 12, slots := #[.long (-96)], vm := .none },
  { cls := 12, slots := #[.long (-95)], vm := .none },
  { cls := 12, slots := #[.long (-94)], vm := .none },
  { cls := 12, slots := #[.long (-93)], vm := .none },
  { cls := 12, slots := #[.long (-92)], vm := .none },
  { cls := 12, slots := #[.long (-91)], vm := .none },
  { cls := 12, slots := #[.long (-90)], vm := .none },
  { cls := 12, slots := #[.long (-89)], vm := .none },
  { cls := 12, slots := #[.long (-88)], vm := .none },
  { cls := 12, slots := #[.long (-87)], vm := .none },
  { cls := 12, slots := #[.long (-86)], vm := .none },
  { cls := 12, slots := #[.long (-85)], vm := .none },
  { cls := 12, slots := #[.long (-84)], vm := .none },
  { cls := 12, slots := #[.long (-83)], vm := .none },
  { cls := 12, slots := #[.long (-82)], vm := .none },
  { cls := 12, slots := #[.long (-81)], vm := .none },
  { cls := 12, slots := #[.long (-80)], vm := .none },
  { cls := 12, slots := #[.long (-79)], vm := .none },
  { cls := 12, slots := #[.long (-78)], vm := .none },
  { cls := 12, slots := #[.long (-77)], vm := .none },
  { cls := 12, slots := #[.long (-76)], vm := .none },
  { cls := 12, slots := #[.long (-75)], vm := .none },
  { cls := 12, slots := #[.long (-74)], vm := .none },
  { cls := 12, slots := #[.long (-73)], vm := .none },
  { cls := 12, slots := #[.long (-72)], vm := .none },
  { cls := 12, slots := #[.long (-71)], vm := .none },
  { cls := 12, slots := #[.long (-70)], vm := .none },
  { cls := 12, slots := #[.long (-69)], vm := .none },
  { cls := 12, slots := #[.long (-68)], vm := .none },
  { cls := 12, slots := #[.long (-67)], vm := .none },
  { cls := 12, slots := #[.long (-66)], vm := .none },
  { cls := 12, slots := #[.long (-65)], vm := .none },
  { cls := 12, slots := #[.long (-64)], vm := .none },
  { cls := 12, slots := #[.long (-63)], vm := .none },
  { cls := 12, slots := #[.long (-62)], vm := .none },
  { cls := 12, slots := #[.long (-61)], vm := .none },
  { cls := 12, slots := #[.long (-60)], vm := .none },
  { cls := 12, slots := #[.long (-59)], vm := .none },
  { cls := 12, slots := #[.long (-58)], vm := .none },
  { cls := 12, slots := #[.long (-57)], vm := .none },
  { cls := 12, slots := #[.long (-56)], vm := .none },
  { cls := 12, slots := #[.long (-55)], vm := .none },
  { cls := 12, slots := #[.long (-54)], vm := .none },
  { cls := 12, slots := #[.long (-53)], vm := .none },
  { cls := 12, slots := #[.long (-52)], vm := .none },
  { cls := 12, slots := #[.long (-51)], vm := .none },
  { cls := 12, slots := #[.long (-50)], vm := .none },
  { cls := 12, slots := #[.long (-49)], vm := .none },
  { cls := 12, slots := #[.long (-48)], vm := .none },
  { cls := 12, slots := #[.long (-47)], vm := .none },
  { cls := 12, slots := #[.long (-46)], vm := .none },
  { cls := 12, slots := #[.long (-45)], vm := .none },
  { cls := 12, slots := #[.long (-44)], vm := .none },
  { cls := 12, slots := #[.long (-43)], vm := .none },
  { cls := 12, slots := #[.long (-42)], vm := .none },
  { cls := 12, slots := #[.long (-41)], vm := .none },
  { cls := 12, slots := #[.long (-40)], vm := .none },
  { cls := 12, slots := #[.long (-39)], vm := .none },
  { cls := 12, slots := #[.long (-38)], vm := .none },
  { cls := 12, slots := #[.long (-37)], vm := .none },
  { cls := 12, slots := #[.long (-36)], vm := .none },
  { cls := 12, slots := #[.long (-35)], vm := .none },
  { cls := 12, slots := #[.long (-34)], vm := .none },
  { cls := 12, slots := #[.long (-33)], vm := .none },
  { cls := 12, slots := #[.long (-32)], vm := .none },
  { cls := 12, slots := #[.long (-31)], vm := .none },
  { cls := 12, slots := #[.long (-30)], vm := .none },
  { cls := 12, slots := #[.long (-29)], vm := .none },
  { cls := 12, slots := #[.long (-28)], vm := .none },
  { cls := 12, slots := #[.long (-27)], vm := .none },
  { cls := 12, slots := #[.long (-26)], vm := .none },
  { cls := 12, slots := #[.long (-25)], vm := .none },
  { cls := 12, slots := #[.long (-24)], vm := .none },
  { cls := 12, slots := #[.long (-23)], vm := .none },
  { cls := 12, slots := #[.long (-22)], vm := .none },
  { cls := 12, slots := #[.long (-21)], vm := .none },
  { cls := 12, slots := #[.long (-20)], vm := .none },
  { cls := 12, slots := #[.long (-19)], vm := .none },
  { cls := 12, slots := #[.long (-18)], vm := .none },
  { cls := 12, slots := #[.long (-17)], vm := .none },
  { cls := 12, slots := #[.long (-16)], vm := .none },
  { cls := 12, slots := #[.long (-15)], vm := .none },
  { cls := 12, slots := #[.long (-14)], vm := .none },
  { cls := 12, slots := #[.long (-13)], vm := .none },
  { cls := 12, slots := #[.long (-12)], vm := .none },
  { cls := 12, slots := #[.long (-11)], vm := .none },
  { cls := 12, slots := #[.long (-10)], vm := .none },
  { cls := 12, slots := #[.long (-9)], vm := .none },
  { cls := 12, slots := #[.long (-8)], vm := .none },
  { cls := 12, slots := #[.long (-7)], vm := .none },
  { cls := 12, slots := #[.long (-6)], vm := .none },
  { cls := 12, slots := #[.long (-5)], vm := .none },
  { cls := 12, slots := #[.long (-4)], vm := .none },
  { cls := 12, slots := #[.long (-3)], vm := .none },
  { cls := 12, slots := #[.long (-2)], vm := .none },
  { cls := 12, slots := #[.long (-1)], vm := .none },
  { cls := 12, slots := #[.long 0], vm := .none },
  { cls := 12, slots := #[.long 1], vm := .none },
  { cls := 12, slots := #[.long 2], vm := .none },
  { cls := 12, slots := #[.long 3], vm := .none },
  { cls := 12, slots := #[.long 4], vm := .none },
  { cls := 12, slots := #[.long 5], vm := .none },
  { cls := 12, slots := #[.long 6], vm := .none },
  { cls := 12, slots := #[.long 7], vm := .none },
  { cls := 12, slots := #[.long 8], vm := .none },
  { cls := 12, slots := #[.long 9], vm := .none },
  { cls := 12, slots := #[.long 10], vm := .none },
  { cls := 12, slots := #[.long 11], vm := .none },
  { cls := 12, slots := #[.long 12], vm := .none },
  { cls := 12, slots := #[.long 13], vm := .none },
  { cls := 12, slots := #[.long 14], vm := .none },
  { cls := 12, slots := #[.long 15], vm := .none },
  { cls := 12, slots := #[.long 16], vm := .none },
  { cls := 12, slots := #[.long 17], vm := .none },
  { cls := 12, slots := #[.long 18], vm := .none },
  { cls := 12, slots := #[.long 19], vm := .none },
  { cls := 12, slots := #[.long 20], vm := .none },
  { cls := 12, slots := #[.long 21], vm := .none },
  { cls := 12, slots := #[.long 22], vm := .none },
  { cls := 12, slots := #[.long 23], vm := .none },
  { cls := 12, slots := #[.long 24], vm := .none },
  { cls := 12, slots := #[.long 25], vm := .none },
  { cls := 12, slots := #[.long 26], vm := .none },
  { cls := 12, slots := #[.long 27], vm := .none },
  { cls := 12, slots := #[.long 28], vm := .none },
  { cls := 12, slots := #[.long 29], vm := .none },
  { cls := 12, slots := #[.long 30], vm := .none },
  { cls := 12, slots := #[.long 31], vm := .none },
  { cls := 12, slots := #[.long 32], vm := .none },
  { cls := 12, slots := #[.long 33], vm := .none },
  { cls := 12, slots := #[.long 34], vm := .none },
  { cls := 12, slots := #[.long 35], vm := .none },
  { cls := 12, slots := #[.long 36], vm := .none },
  { cls := 12, slots := #[.long 37], vm := .none },
  { cls := 12, slots := #[.long 38], vm := .none },
  { cls := 12, slots := #[.long 39], vm := .none },
  { cls := 12, slots := #[.long 40], vm := .none },
  { cls := 12, slots := #[.long 41], vm := .none },
  { cls := 12, slots := #[.long 42], vm := .none },
  { cls := 12, slots := #[.long 43], vm := .none },
  { cls := 12, slots := #[.long 44], vm := .none },
  { cls := 12, slots := #[.long 45], vm := .none },
  { cls := 12, slots := #[.long 46], vm := .none },
  { cls := 12, slots := #[.long 47], vm := .none },
  { cls := 12, slots := #[.long 48], vm := .none },
  { cls := 12, slots := #[.long 49], vm := .none },
  { cls := 12, slots := #[.long 50], vm := .none },
  { cls := 12, slots := #[.long 51], vm := .none },
  { cls := 12, slots := #[.long 52], vm := .none },
  { cls := 12, slots := #[.long 53], vm := .none },
  { cls := 12, slots := #[.long 54], vm := .none },
  { cls := 12, slots := #[.long 55], vm := .none },
  { cls := 12, slots := #[.long 56], vm := .none },
  { cls := 12, slots := #[.long 57], vm := .none },
  { cls := 12, slots := #[.long 58], vm := .none },
  { cls := 12, slots := #[.long 59], vm := .none },
  { cls := 12, slots := #[.long 60], vm := .none },
  { cls := 12, slots := #[.long 61], vm := .none },
  { cls := 12, slots := #[.long 62], vm := .none },
  { cls := 12, slots := #[.long 63], vm := .none },
  { cls := 12, slots := #[.long 64], vm := .none },
  { cls := 12, slots := #[.long 65], vm := .none },
  { cls := 12, slots := #[.long 66], vm := .none },
  { cls := 12, slots := #[.long 67], vm := .none },
  { cls := 12, slots := #[.long 68], vm := .none },
  { cls := 12, slots := #[.long 69], vm := .none },
  { cls := 12, slots := #[.long 70], vm := .none },
  { cls := 12, slots := #[.long 71], vm := .none },
  { cls := 12, slots := #[.long 72], vm := .none },
  { cls := 12, slots := #[.long 73], vm := .none },
  { cls := 12, slots := #[.long 74], vm := .none },
  { cls := 12, slots := #[.long 75], vm := .none },
  { cls := 12, slots := #[.long 76], vm := .none },
  { cls := 12, slots := #[.long 77], vm := .none },
  { cls := 12, slots := #[.long 78], vm := .none },
  { cls := 12, slots := #[.long 79], vm := .none },
  { cls := 12, slots := #[.long 80], vm := .none },
  { cls := 12, slots := #[.long 81], vm := .none },
  { cls := 12, slots := #[.long 82], vm := .none },
  { cls := 12, slots := #[.long 83], vm := .none },
  { cls := 12, slots := #[.long 84], vm := .none },
  { cls := 12, slots := #[.long 85], vm := .none },
  { cls := 12, slots := #[.long 86], vm := .none },
  { cls := 12, slots := #[.long 87], vm := .none },
  { cls := 12, slots := #[.long 88], vm := .none },
  { cls := 12, slots := #[.long 89], vm := .none },
  { cls := 12, slots := #[.long 90], vm := .none },
  { cls := 12, slots := #[.long 91], vm := .none },
  { cls := 12, slots := #[.long 92], vm := .none },
  { cls := 12, slots := #[.long 93], vm := .none },
  { cls := 12, slots := #[.long 94], vm := .none },
  { cls := 12, slots := #[.long 95], vm := .none },
  { cls := 12, slots := #[.long 96], vm := .none },
  { cls := 12, slots := #[.long 97], vm := .none },
  { cls := 12, slots := #[.long 98], vm := .none },
  { cls := 12, slots := #[.long 99], vm := .none },
  { cls := 12, slots := #[.long 100], vm := .none },
  { cls := 12, slots := #[.long 101], vm := .none },
  { cls := 12, slots := #[.long 102], vm := .none },
  { cls := 12, slots := #[.long 103], vm := .none },
  { cls := 12, slots := #[.long 104], vm := .none },
  { cls := 12, slots := #[.long 105], vm := .none },
  { cls := 12, slots := #[.long 106], vm := .none },
  { cls := 12, slots := #[.long 107], vm := .none },
  { cls := 12, slots := #[.long 108], vm := .none },
  { cls := 12, slots := #[.long 109], vm := .none },
  { cls := 12, slots := #[.long 110], vm := .none },
  { cls := 12, slots := #[.long 111], vm := .none },
  { cls := 12, slots := #[.long 112], vm := .none },
  { cls := 12, slots := #[.long 113], vm := .none },
  { cls := 12, slots := #[.long 114], vm := .none },
  { cls := 12, slots := #[.long 115], vm := .none },
  { cls := 12, slots := #[.long 116], vm := .none },
  { cls := 12, slots := #[.long 117], vm := .none },
  { cls := 12, slots := #[.long 118], vm := .none },
  { cls := 12, slots := #[.long 119], vm := .none },
  { cls := 12, slots := #[.long 120], vm := .none },
  { cls := 12, slots := #[.long 121], vm := .none },
  { cls := 12, slots := #[.long 122], vm := .none },
  { cls := 12, slots := #[.long 123], vm := .none },
  { cls := 12, slots := #[.long 124], vm := .none },
  { cls := 12, slots := #[.long 125], vm := .none },
  { cls := 12, slots := #[.long 126], vm := .none },
  { cls := 12, slots := #[.long 127], vm := .none },
  { cls := 10, slots := #[.int (-128)], vm := .none },
  { cls := 10, slots := #[.int (-127)], vm := .none },
  { cls := 10, slots := #[.int (-126)], vm := .none },
  { cls := 10, slots := #[.int (-125)], vm := .none },
  { cls := 10, slots := #[.int (-124)], vm := .none },
  { cls := 10, slots := #[.int (-123)], vm := .none },
  { cls := 10, slots := #[.int (-122)], vm := .none },
  { cls := 10, slots := #[.int (-121)], vm := .none },
  { cls := 10, slots := #[.int (-120)], vm := .none },
  { cls := 10, slots := #[.int (-119)], vm := .none },
  { cls := 10, slots := #[.int (-118)], vm := .none },
  { cls := 10, slots := #[.int (-117)], vm := .none },
  { cls := 10, slots := #[.int (-116)], vm := .none },
  { cls := 10, slots := #[.int (-115)], vm := .none },
  { cls := 10, slots := #[.int (-114)], vm := .none },
  { cls := 10, slots := #[.int (-113)], vm := .none },
  { cls := 10, slots := #[.int (-112)], vm := .none },
  { cls := 10, slots := #[.int (-111)], vm := .none },
  { cls := 10, slots := #[.int (-110)], vm := .none },
  { cls := 10, slots := #[.int (-109)], vm := .none },
  { cls := 10, slots := #[.int (-108)], vm := .none },
  { cls := 10, slots := #[.int (-107)], vm := .none },
  { cls := 10, slots := #[.int (-106)], vm := .none },
  { cls := 10, slots := #[.int (-105)], vm := .none },
  { cls := 10, slots := #[.int (-104)], vm := .none },
  { cls := 10, slots := #[.int (-103)], vm := .none },
  { cls := 10, slots := #[.int (-102)], vm := .none },
  { cls := 10, slots := #[.int (-101)], vm := .none },
  { cls := 10, slots := #[.int (-100)], vm := .none },
  { cls := 10, slots := #[.int (-99)], vm := .none },
  { cls := 10, slots := #[.int (-98)], vm := .none },
  { cls := 10, slots := #[.int (-97)], vm := .none },
  { cls := 10, slots := #[.int (-96)], vm := .none },
  { cls := 10, slots := #[.int (-95)], vm := .none },
  { cls := 10, slots := #[.int (-94)], vm := .none },
  { cls := 10, slots := #[.int (-93)], vm := .none },
  { cls := 10, slots := #[.int (-92)], vm := .none },
  { cls := 10, slots := #[.int (-91)], vm := .none },
  { cls := 10, slots := #[.int (-90)], vm := .none },
  { cls := 10, slots := #[.int (-89)], vm := .none },
  { cls := 10, slots := #[.int (-88)], vm := .none },
  { cls := 10, slots := #[.int (-87)], vm := .none },
  { cls := 10, slots := #[.int (-86)], vm := .none },
  { cls := 10, slots := #[.int (-85)], vm := .none },
  { cls := 10, slots := #[.int (-84)], vm := .none },
  { cls := 10, slots := #[.int (-83)], vm := .none },
  { cls := 10, slots := #[.int (-82)], vm := .none },
  { cls := 10, slots := #[.int (-81)], vm := .none },
  { cls := 10, slots := #[.int (-80)], vm := .none },
  { cls := 10, slots := #[.int (-79)], vm := .none },
  { cls := 10, slots := #[.int (-78)], vm := .none },
  { cls := 10, slots := #[.int (-77)], vm := .none },
  { cls := 10, slots := #[.int (-76)], vm := .none },
  { cls := 10, slots := #[.int (-75)], vm := .none },
  { cls := 10, slots := #[.int (-74)], vm := .none },
  { cls := 10, slots := #[.int (-73)], vm := .none },
  { cls := 10, slots := #[.int (-72)], vm := .none },
  { cls := 10, slots := #[.int (-71)], vm := .none },
  { cls := 10, slots := #[.int (-70)], vm := .none },
  { cls := 10, slots := #[.int (-69)], vm := .none },
  { cls := 10, slots := #[.int (-68)], vm := .none },
  { cls := 10, slots := #[.int (-67)], vm := .none },
  { cls := 10, slots := #[.int (-66)], vm := .none },
  { cls := 10, slots := #[.int (-65)], vm := .none },
  { cls := 10, slots := #[.int (-64)], vm := .none },
  { cls := 10, slots := #[.int (-63)], vm := .none },
  { cls := 10, slots := #[.int (-62)], vm := .none },
  { cls := 10, slots := #[.int (-61)], vm := .none },
  { cls := 10, slots := #[.int (-60)], vm := .none },
  { cls := 10, slots := #[.int (-59)], vm := .none },
  { cls := 10, slots := #[.int (-58)], vm := .none },
  { cls := 10, slots := #[.int (-57)], vm := .none },
  { cls := 10, slots := #[.int (-56)], vm := .none },
  { cls := 10, slots := #[.int (-55)], vm := .none },
  { cls := 10, slots := #[.int (-54)], vm := .none },
  { cls := 10, slots := #[.int (-53)], vm := .none },
  { cls := 10, slots := #[.int (-52)], vm := .none },
  { cls := 10, slots := #[.int (-51)], vm := .none },
  { cls := 10, slots := #[.int (-50)], vm := .none },
  { cls := 10, slots := #[.int (-49)], vm := .none },
  { cls := 10, slots := #[.int (-48)], vm := .none },
  { cls := 10, slots := #[.int (-47)], vm := .none },
  { cls := 10, slots := #[.int (-46)], vm := .none },
  { cls := 10, slots := #[.int (-45)], vm := .none },
  { cls := 10, slots := #[.int (-44)], vm := .none },
  { cls := 10, slots := #[.int (-43)], vm := .none },
  { cls := 10, slots := #[.int (-42)], vm := .none },
  { cls := 10, slots := #[.int (-41)], vm := .none },
  { cls := 10, slots := #[.int (-40)], vm := .none },
  { cls := 10, slots := #[.int (-39)], vm := .none },
  { cls := 10, slots := #[.int (-38)], vm := .none },
  { cls := 10, slots := #[.int (-37)], vm := .none },
  { cls := 10, slots := #[.int (-36)], vm := .none },
  { cls := 10, slots := #[.int (-35)], vm := .none },
  { cls := 10, slots := #[.int (-34)], vm := .none },
  { cls := 10, slots := #[.int (-33)], vm := .none },
  { cls := 10, slots := #[.int (-32)], vm := .none },
  { cls := 10, slots := #[.int (-31)], vm := .none },
  { cls := 10, slots := #[.int (-30)], vm := .none },
  { cls := 10, slots := #[.int (-29)], vm := .none },
  { cls := 10, slots := #[.int (-28)], vm := .none },
  { cls := 10, slots := #[.int (-27)], vm := .none },
  { cls := 10, slots := #[.int (-26)], vm := .none },
  { cls := 10, slots := #[.int (-25)], vm := .none },
  { cls := 10, slots := #[.int (-24)], vm := .none },
  { cls := 10, slots := #[.int (-23)], vm := .none },
  { cls := 10, slots := #[.int (-22)], vm := .none },
  { cls := 10, slots := #[.int (-21)], vm := .none },
  { cls := 10, slots := #[.int (-20)], vm := .none },
  { cls := 10, slots := #[.int (-19)], vm := .none },
  { cls := 10, slots := #[.int (-18)], vm := .none },
  { cls := 10, slots := #[.int (-17)], vm := .none },
  { cls := 10, slots := #[.int (-16)], vm := .none },
  { cls := 10, slots := #[.int (-15)], vm := .none },
  { cls := 10, slots := #[.int (-14)], vm := .none },
  { cls := 10, slots := #[.int (-13)], vm := .none },
  { cls := 10, slots := #[.int (-12)], vm := .none },
  { cls := 10, slots := #[.int (-11)], vm := .none },
  { cls := 10, slots := #[.int (-10)], vm := .none },
  { cls := 10, slots := #[.int (-9)], vm := .none },
  { cls := 10, slots := #[.int (-8)], vm := .none },
  { cls := 10, slots := #[.int (-7)], vm := .none },
  { cls := 10, slots := #[.int (-6)], vm := .none },
  { cls := 10, slots := #[.int (-5)], vm := .none },
  { cls := 10, slots := #[.int (-4)], vm := .none },
  { cls := 10, slots := #[.int (-3)], vm := .none },
  { cls := 10, slots := #[.int (-2)], vm := .none },
  { cls := 10, slots := #[.int (-1)], vm := .none },
  { cls := 10, slots := #[.int 0], vm := .none },
  { cls := 10, slots := #[.int 1], vm := .none },
  { cls := 10, slots := #[.int 2], vm := .none },
  { cls := 10, slots := #[.int 3], vm := .none },
  { cls := 10, slots := #[.int 4], vm := .none },
  { cls := 10, slots := #[.int 5], vm := .none },
  { cls := 10, slots := #[.int 6], vm := .none },
  { cls := 10, slots := #[.int 7], vm := .none },
  { cls := 10, slots := #[.int 8], vm := .none },
  { cls := 10, slots := #[.int 9], vm := .none },
  { cls := 10, slots := #[.int 10], vm := .none },
  { cls := 10, slots := #[.int 11], vm := .none },
  { cls := 10, slots := #[.int 12], vm := .none },
  { cls := 10, slots := #[.int 13], vm := .none },
  { cls := 10, slots := #[.int 14], vm := .none },
  { cls := 10, slots := #[.int 15], vm := .none },
  { cls := 10, slots := #[.int 16], vm := .none },
  { cls := 10, slots := #[.int 17], vm := .none },
  { cls := 10, slots := #[.int 18], vm := .none },
  { cls := 10, slots := #[.int 19], vm := .none },
  { cls := 10, slots := #[.int 20], vm := .none },
  { cls := 10, slots := #[.int 21], vm := .none },
  { cls := 10, slots := #[.int 22], vm := .none },
  { cls := 10, slots := #[.int 23], vm := .none },
  { cls := 10, slots := #[.int 24], vm := .none },
  { cls := 10, slots := #[.int 25], vm := .none },
  { cls := 10, slots := #[.int 26], vm := .none },
  { cls := 10, slots := #[.int 27], vm := .none },
  { cls := 10, slots := #[.int 28], vm := .none },
  { cls := 10, slots := #[.int 29], vm := .none },
  { cls := 10, slots := #[.int 30], vm := .none },
  { cls := 10, slots := #[.int 31], vm := .none },
  { cls := 10, slots := #[.int 32], vm := .none },
  { cls := 10, slots := #[.int 33], vm := .none },
  { cls := 10, slots := #[.int 34], vm := .none },
  { cls := 10, slots := #[.int 35], vm := .none },
  { cls := 10, slots := #[.int 36], vm := .none },
  { cls := 10, slots := #[.int 37], vm := .none },
  { cls := 10, slots := #[.int 38], vm := .none },
  { cls := 10, slots := #[.int 39], vm := .none },
  { cls := 10, slots := #[.int 40], vm := .none },
  { cls := 10, slots := #[.int 41], vm := .none },
  { cls := 10, slots := #[.int 42], vm := .none },
  { cls := 10, slots := #[.int 43], vm := .none },
  { cls := 10, slots := #[.int 44], vm := .none },
  { cls := 10, slots := #[.int 45], vm := .none },
  { cls := 10, slots := #[.int 46], vm := .none },
  { cls := 10, slots := #[.int 47], vm := .none },
  { cls := 10, slots := #[.int 48], vm := .none },
  { cls := 10, slots := #[.int 49], vm := .none },
  { cls := 10, slots := #[.int 50], vm := .none },
  { cls := 10, slots := #[.int 51], vm := .none },
  { cls := 10, slots := #[.int 52], vm := .none },
  { cls := 10, slots := #[.int 53], vm := .none },
  { cls := 10, slots := #[.int 54], vm := .none },
  { cls := 10, slots := #[.int 55], vm := .none },
  { cls := 10, slots := #[.int 56], vm := .none },
  { cls := 10, slots := #[.int 57], vm := .none },
  { cls := 10, slots := #[.int 58], vm := .none },
  { cls := 10, slots := #[.int 59], vm := .none },
  { cls := 10, slots := #[.int 60], vm := .none },
  { cls := 10, slots := #[.int 61], vm := .none },
  { cls := 10, slots := #[.int 62], vm := .none },
  { cls := 10, slots := #[.int 63], vm := .none },
  { cls := 10, slots := #[.int 64], vm := .none },
  { cls := 10, slots := #[.int 65], vm := .none },
  { cls := 10, slots := #[.int 66], vm := .none },
  { cls := 10, slots := #[.int 67], vm := .none },
  { cls := 10, slots := #[.int 68], vm := .none },
  { cls := 10, slots := #[.int 69], vm := .none },
  { cls := 10, slots := #[.int 70], vm := .none },
  { cls := 10, slots := #[.int 71], vm := .none },
  { cls := 10, slots := #[.int 72], vm := .none },
  { cls := 10, slots := #[.int 73], vm := .none },
  { cls := 10, slots := #[.int 74], vm := .none },
  { cls := 10, slots := #[.int 75], vm := .none },
  { cls := 10, slots := #[.int 76], vm := .none },
  { cls := 10, slots := #[.int 77], vm := .none },
  { cls := 10, slots := #[.int 78], vm := .none },
  { cls := 10, slots := #[.int 79], vm := .none },
  { cls := 10, slots := #[.int 80], vm := .none },
  { cls := 10, slots := #[.int 81], vm := .none },
  { cls := 10, slots := #[.int 82], vm := .none },
  { cls := 10, slots := #[.int 83], vm := .none },
  { cls := 10, slots := #[.int 84], vm := .none },
  { cls := 10, slots := #[.int 85], vm := .none },
  { cls := 10, slots := #[.int 86], vm := .none },
  { cls := 10, slots := #[.int 87], vm := .none },
  { cls := 10, slots := #[.int 88], vm := .none },
  { cls := 10, slots := #[.int 89], vm := .none },
  { cls := 10, slots := #[.int 90], vm := .none },
  { cls := 10, slots := #[.int 91], vm := .none },
  { cls := 10, slots := #[.int 92], vm := .none },
  { cls := 10, slots := #[.int 93], vm := .none },
  { cls := 10, slots := #[.int 94], vm := .none },
  { cls := 10, slots := #[.int 95], vm := .none },
  { cls := 10, slots := #[.int 96], vm := .none },
  { cls := 10, slots := #[.int 97], vm := .none },
  { cls := 10, slots := #[.int 98], vm := .none },
  { cls := 10, slots := #[.int 99], vm := .none },
  { cls := 10, slots := #[.int 100], vm := .none },
  { cls := 10, slots := #[.int 101], vm := .none },
  { cls := 10, slots := #[.int 102], vm := .none },
  { cls := 10, slots := #[.int 103], vm := .none },
  { cls := 10, slots := #[.int 104], vm := .none },
  { cls := 10, slots := #[.int 105], vm := .none },
  { cls := 10, slots := #[.int 106], vm := .none },
  { cls := 10, slots := #[.int 107], vm := .none },
  { cls := 10, slots := #[.int 108], vm := .none },
  { cls := 10, slots := #[.int 109], vm := .none },
  { cls := 10, slots := #[.int 110], vm := .none },
  { cls := 10, slots := #[.int 111], vm := .none },
  { cls := 10, slots := #[.int 112], vm := .none },
  { cls := 10, slots := #[.int 113], vm := .none },
  { cls := 10, slots := #[.int 114], vm := .none },
  { cls := 10, slots := #[.int 115], vm := .none },
  { cls := 10, slots := #[.int 116], vm := .none },
  { cls := 10, slots := #[.int 117], vm := .none },
  { cls := 10, slots := #[.int 118], vm := .none },
  { cls := 10, slots := #[.int 119], vm := .none },
  { cls := 10, slots := #[.int 120], vm := .none },
  { cls := 10, slots := #[.int 121], vm := .none },
  { cls := 10, slots := #[.int 122], vm := .none },
  { cls := 10, slots := #[.int 123], vm := .none },
  { cls := 10, slots := #[.int 124], vm := .none },
  { cls := 10, slots := #[.int 125], vm := .none },
  { cls := 10, slots := #[.int 126], vm := .none },
  { cls := 10, slots := #[.int 127], vm := .none }]
def classes : Array Class := #[k0, k1, k2, k3, k4, k5, k6, k7, k8, k9, k10, k11, k12, k13, k14, k15, k16, k17, k18, k19, k20]
def interned : List (Array UInt16 × Addr) := []
def slotsUsed : Nat := 1032
def theMethod : MethodId := ⟨1, 1⟩
def args0 : Array Value := #[.int 5, .int 4, .int 3, .int 1]
def aboutOver (below : List Frame) : State where
  vm := { classes := classes, interned := interned.toArray }
  heap := heap
  slotsUsed := slotsUsed
  threads := #[{ frames := .invoking theMethod args0 :: below }]
def below0 : List Frame := [.native { method := ⟨0, 0⟩, args := #[] }]
def about1 : State := aboutOver below0
def p0 : Program := .bare "" "" ""
def e0 : Env := launch0.env 0 0 0
theorem w_frames : about1.frames = Frame.invoking theMethod args0 :: below0 := rfl
set_option maxRecDepth 65536 in
theorem w_args : argsFit about1.vm theMethod args0 = true := by decide +kernel
set_option maxRecDepth 65536 in
theorem w_heap : heapFits about1 = true := by decide +kernel
set_option maxRecDepth 65536 in
theorem w_runnable : about1.curStatus? = some .runnable := by decide +kernel
set_option maxRecDepth 65536 in
theorem w_alone : about1.alone = true := by decide +kernel
set_option maxRecDepth 65536 in
theorem w_named : about1.methodNamed? x = some theMethod := by decide +kernel
set_option maxRecDepth 65536 in
theorem w_hears : about1.hears theMethod below0 = true := by decide +kernel
set_option maxRecDepth 65536 in
theorem w_ripe : about1.ripe theMethod args0 below0 = true := by decide +kernel
theorem w_running : about1.status = .running := rfl
set_option maxRecDepth 65536 in
theorem w_room : about1.hasRoom e0.platform room_1 = true :=
  launch0.hasRoom_least _ room_1 (by decide +kernel) (by decide +kernel) (by decide +kernel) (by decide +kernel) (by decide +kernel) (by decide +kernel)
theorem allAtoms_all (ts : List Jvm.Cond) (a : Array Jvm.Value) (st : Jvm.State) : (allAtoms ts).before a st = ts.all (fun c => c.before a st) := by
  induction ts with
  | nil => rfl
  | cons c t ih =>
    show (Jvm.Cond.and c (allAtoms t)).before a st = _
    rw [Jvm.Cond.before_and, ih, List.all_cons]
def words1 : List Jvm.Cond := Jvm.Cond.code x code maxLocals ret :: tables_1
/-- a 'code' word, met by the world's own term for the bytes: nothing is compared byte by byte -/
theorem code_word {y : MethodName} {bytes : ByteArray} {mx : Nat} {rt : Option FieldType} {a : Array Value} {s : State} {m : MethodId} {meth : Method} {c : Code} (h1 : s.methodNamed? y = some m) (h2 : s.vm.method? m = some meth) (h3 : meth.code = some c) (h4 : c.code = bytes)
    (h5 : (c.maxLocals == mx && c.exceptionTable.isEmpty && decide (c.maxStack ≤ mostOperands) && decide (meth.sig.returnType = rt) && !meth.locks && decide (parseMethodDescriptor y.desc = some meth.sig)) = true) : (Jvm.Cond.code y bytes mx rt).before a s = true := by
  simp only [Bool.and_eq_true, beq_iff_eq, Bool.not_eq_true', decide_eq_true_eq] at h5
  obtain ⟨⟨⟨⟨⟨g1, g2⟩, g3⟩, g4⟩, g5⟩, g6⟩ := h5
  simp [Cond.before, Cond.holds, Cond.value, h1, h2, h3, h4, g1, g2, g3, g4, g5, g6]
def isCode : Jvm.Cond → Bool
  | .code _ _ _ _ => true
  | _ => false
theorem all_split {L : List Jvm.Cond} {P : Jvm.Cond → Bool} (h1 : L.all (fun c => isCode c || P c) = true) (h2 : ∀ c ∈ L.filter isCode, P c = true) : L.all P = true := by
  refine List.all_eq_true.mpr fun c hc => ?_
  have h := List.all_eq_true.mp h1 c hc
  rcases Bool.eq_false_or_eq_true (isCode c) with hi | hi
  · exact h2 c (List.mem_filter.mpr ⟨hc, hi⟩)
  · simpa [hi] using h
set_option maxRecDepth 65536 in
theorem w_c0 : (Jvm.Cond.code x code maxLocals ret).before args0 about1 = true := code_word (m := ⟨1, 1⟩) (meth := k1m1) (c := k1c1) (by decide +kernel) rfl rfl rfl (by decide +kernel)
set_option maxRecDepth 65536 in
theorem w_c1 : (Jvm.Cond.code ({ cls := "com/example/tailrace/tailrace/cli/Count", name := "<init>", desc := "()V" } : Jvm.MethodName) prog_47_method_1_code (1 : Nat) (Option.none : Option Jvm.ClassFile.FieldType)).before args0 about1 = true := code_word (m := ⟨3, 0⟩) (meth := k3m0) (c := k3c0) (by decide +kernel) rfl rfl rfl (by decide +kernel)
set_option maxRecDepth 65536 in
theorem w_c2 : (Jvm.Cond.code ({ cls := "java/lang/Object", name := "<init>", desc := "()V" } : Jvm.MethodName) object_method_1_code (1 : Nat) (Option.none : Option Jvm.ClassFile.FieldType)).before args0 about1 = true := code_word (m := ⟨0, 0⟩) (meth := k0m0) (c := k0c0) (by decide +kernel) rfl rfl rfl (by decide +kernel)
set_option maxRecDepth 65536 in
theorem w_c3 : (Jvm.Cond.code ({ cls := "com/example/tailrace/tailrace/cli/Count", name := "createAccumulator", desc := "()Lcom/example/tailrace/tailrace/cli/Count$Tally;" } : Jvm.MethodName) prog_47_method_2_code (1 : Nat) (Option.some (Jvm.ClassFile.FieldType.object "com/example/tailrace/tailrace/cli/Count$Tally"))).before args0 about1 = true := code_word (m := ⟨3, 1⟩) (meth := k3m1) (c := k3c1) (by decide +kernel) rfl rfl rfl (by decide +kernel)
set_option maxRecDepth 65536 in
theorem w_c4 : (Jvm.Cond.code ({ cls := "com/example/tailrace/tailrace/cli/Count$Tally", name := "<init>", desc := "()V" } : Jvm.MethodName) prog_48_method_1_code (1 : Nat) (Option.none : Option Jvm.ClassFile.FieldType)).before args0 about1 = true := code_word (m := ⟨5, 0⟩) (meth := k5m0) (c := k5c0) (by decide +kernel) rfl rfl rfl (by decide +kernel)
set_option maxRecDepth 65536 in
theorem w_c5 : (Jvm.Cond.code ({ cls := "java/lang/Integer", name := "valueOf", desc := "(I)Ljava/lang/Integer;" } : Jvm.MethodName) jdk_33_method_22_code (1 : Nat) (Option.some (Jvm.ClassFile.FieldType.object "java/lang/Integer"))).before args0 about1 = true := code_word (m := ⟨10, 0⟩) (meth := k10m0) (c := k10c0) (by decide +kernel) rfl rfl rfl (by decide +kernel)
set_option maxRecDepth 65536 in
theorem w_c6 : (Jvm.Cond.code ({ cls := "com/example/tailrace/tailrace/cli/Count", name := "add", desc := "(Ljava/lang/Object;Lcom/example/tailrace/tailrace/cli/Count$Tally;)Lcom/example/tailrace/tailrace/cli/Count$Tally;" } : Jvm.MethodName) prog_47_method_3_code (3 : Nat) (Option.some (Jvm.ClassFile.FieldType.object "com/example/tailrace/tailrace/cli/Count$Tally"))).before args0 about1 = true := code_word (m := ⟨3, 2⟩) (meth := k3m2) (c := k3c2) (by decide +kernel) rfl rfl rfl (by decide +kernel)
set_option maxRecDepth 65536 in
theorem w_c7 : (Jvm.Cond.code ({ cls := "com/example/tailrace/tailrace/cli/Count", name := "getResult", desc := "(Lcom/example/tailrace/tailrace/cli/Count$Tally;)Ljava/lang/Long;" } : Jvm.MethodName) prog_47_method_4_code (2 : Nat) (Option.some (Jvm.ClassFile.FieldType.object "java/lang/Long"))).before args0 about1 = true := code_word (m := ⟨3, 3⟩) (meth := k3m3) (c := k3c3) (by decide +kernel) rfl rfl rfl (by decide +kernel)
set_option maxRecDepth 65536 in
theorem w_c8 : (Jvm.Cond.code ({ cls := "java/lang/Long", name := "valueOf", desc := "(J)Ljava/lang/Long;" } : Jvm.MethodName) jdk_35_method_24_code (3 : Nat) (Option.some (Jvm.ClassFile.FieldType.object "java/lang/Long"))).before args0 about1 = true := code_word (m := ⟨12, 0⟩) (meth := k12m0) (c := k12c0) (by decide +kernel) rfl rfl rfl (by decide +kernel)
set_option maxRecDepth 65536 in
theorem w_c9 : (Jvm.Cond.code ({ cls := "java/lang/Long", name := "longValue", desc := "()J" } : Jvm.MethodName) jdk_35_method_31_code (1 : Nat) (Option.some Jvm.ClassFile.FieldType.long)).before args0 about1 = true := code_word (m := ⟨12, 1⟩) (meth := k12m1) (c := k12c1) (by decide +kernel) rfl rfl rfl (by decide +kernel)
set_option maxRecDepth 65536 in
theorem w_c10 : (Jvm.Cond.code ({ cls := "java/lang/Integer", name := "<init>", desc := "(I)V" } : Jvm.MethodName) jdk_33_method_23_code (2 : Nat) (Option.none : Option Jvm.ClassFile.FieldType)).before args0 about1 = true := code_word (m := ⟨10, 1⟩) (meth := k10m1) (c := k10c1) (by decide +kernel) rfl rfl rfl (by decide +kernel)
set_option maxRecDepth 65536 in
theorem w_c11 : (Jvm.Cond.code ({ cls := "java/lang/Number", name := "<init>", desc := "()V" } : Jvm.MethodName) jdk_18_method_1_code (1 : Nat) (Option.none : Option Jvm.ClassFile.FieldType)).before args0 about1 = true := code_word (m := ⟨6, 0⟩) (meth := k6m0) (c := k6c0) (by decide +kernel) rfl rfl rfl (by decide +kernel)
def codes1 : List Jvm.Cond := [Jvm.Cond.code x code maxLocals ret, Jvm.Cond.code ({ cls := "com/example/tailrace/tailrace/cli/Count", name := "<init>", desc := "()V" } : Jvm.MethodName) prog_47_method_1_code (1 : Nat) (Option.none : Option Jvm.ClassFile.FieldType), Jvm.Cond.code ({ cls := "java/lang/Object", name := "<init>", desc := "()V" } : Jvm.MethodName) object_method_1_code (1 : Nat) (Option.none : Option Jvm.ClassFile.FieldType), Jvm.Cond.code ({ cls := "com/example/tailrace/tailrace/cli/Count", name := "createAccumulator", desc := "()Lcom/example/tailrace/tailrace/cli/Count$Tally;" } : Jvm.MethodName) prog_47_method_2_code (1 : Nat) (Option.some (Jvm.ClassFile.FieldType.object "com/example/tailrace/tailrace/cli/Count$Tally")), Jvm.Cond.code ({ cls := "com/example/tailrace/tailrace/cli/Count$Tally", name := "<init>", desc := "()V" } : Jvm.MethodName) prog_48_method_1_code (1 : Nat) (Option.none : Option Jvm.ClassFile.FieldType), Jvm.Cond.code ({ cls := "java/lang/Integer", name := "valueOf", desc := "(I)Ljava/lang/Integer;" } : Jvm.MethodName) jdk_33_method_22_code (1 : Nat) (Option.some (Jvm.ClassFile.FieldType.object "java/lang/Integer")), Jvm.Cond.code ({ cls := "com/example/tailrace/tailrace/cli/Count", name := "add", desc := "(Ljava/lang/Object;Lcom/example/tailrace/tailrace/cli/Count$Tally;)Lcom/example/tailrace/tailrace/cli/Count$Tally;" } : Jvm.MethodName) prog_47_method_3_code (3 : Nat) (Option.some (Jvm.ClassFile.FieldType.object "com/example/tailrace/tailrace/cli/Count$Tally")), Jvm.Cond.code ({ cls := "com/example/tailrace/tailrace/cli/Count", name := "getResult", desc := "(Lcom/example/tailrace/tailrace/cli/Count$Tally;)Ljava/lang/Long;" } : Jvm.MethodName) prog_47_method_4_code (2 : Nat) (Option.some (Jvm.ClassFile.FieldType.object "java/lang/Long")), Jvm.Cond.code ({ cls := "java/lang/Long", name := "valueOf", desc := "(J)Ljava/lang/Long;" } : Jvm.MethodName) jdk_35_method_24_code (3 : Nat) (Option.some (Jvm.ClassFile.FieldType.object "java/lang/Long")), Jvm.Cond.code ({ cls := "java/lang/Long", name := "longValue", desc := "()J" } : Jvm.MethodName) jdk_35_method_31_code (1 : Nat) (Option.some Jvm.ClassFile.FieldType.long), Jvm.Cond.code ({ cls := "java/lang/Integer", name := "<init>", desc := "(I)V" } : Jvm.MethodName) jdk_33_method_23_code (2 : Nat) (Option.none : Option Jvm.ClassFile.FieldType), Jvm.Cond.code ({ cls := "java/lang/Number", name := "<init>", desc := "()V" } : Jvm.MethodName) jdk_18_method_1_code (1 : Nat) (Option.none : Option Jvm.ClassFile.FieldType)]
set_option maxRecDepth 65536 in
theorem codes_eq : words1.filter isCode = codes1 := rfl
theorem w_codes : ∀ c ∈ words1.filter isCode, c.before args0 about1 = true := by
  rw [codes_eq]
  intro c hc
  simp only [codes1, List.mem_cons, List.not_mem_nil, or_false] at hc
  rcases hc with rfl | rfl | rfl | rfl | rfl | rfl | rfl | rfl | rfl | rfl | rfl | rfl
  · exact w_c0
  · exact w_c1
  · exact w_c2
  · exact w_c3
  · exact w_c4
  · exact w_c5
  · exact w_c6
  · exact w_c7
  · exact w_c8
  · exact w_c9
  · exact w_c10
  · exact w_c11
set_option maxRecDepth 65536 in
theorem w_t1 : (words1.take 24).all (fun c => isCode c || c.before args0 about1) = true := by decide +kernel
set_option maxRecDepth 65536 in
theorem w_t2 : ((words1.drop 24).take 24).all (fun c => isCode c || c.before args0 about1) = true := by decide +kernel
set_option maxRecDepth 65536 in
theorem w_t3 : ((words1.drop 24).drop 24).all (fun c => isCode c || c.before args0 about1) = true := by decide +kernel
theorem w_tables : (allAtoms (Jvm.Cond.code x code maxLocals ret :: tables_1)).before args0 about1 = true := by
  rw [allAtoms_all]
  show words1.all (fun c => c.before args0 about1) = true
  refine all_split ?_ w_codes
  rw [← List.take_append_drop 24 words1, List.all_append, w_t1, ← List.take_append_drop 24 (words1.drop 24), List.all_append, w_t2, w_t3]
  rfl
set_option maxRecDepth 65536 in
theorem w_rest : rest_1_c.before args0 about1 = true := by decide +kernel
set_option maxRecDepth 65536 in
theorem w_case : (Jvm.Cond.and given_1 narrow_1).before args0 about1 = true := by decide +kernel
theorem w_applies : (headSpec (Jvm.Cond.code x code maxLocals ret :: tables_1) room_1).applies x e0.platform about1 = true :=
  (Spec.applies_iff w_frames).mpr ⟨w_running, w_runnable, w_alone, w_named, w_hears, w_ripe, w_room, w_tables⟩
theorem atStart : AtStart classFile x code maxLocals ret World_1 tables_1 room_1 Calls_1 rest_1 Pre_1 launch0 p0 e0 about1 theMethod args0 below0 :=
  ⟨lists_1, trivial, launch0.admits_env _ _ _, launch0.least_env, fairChoices_fair.cas, fairChoices_fair.clock, w_frames, w_args, w_heap, w_applies, trivial, w_rest, w_case⟩
end start1
theorem witness_1 : WitnessClaimed_1 := ⟨start1.p0, start1.e0, start1.about1, start1.theMethod, start1.args0, start1.below0, start1.atStart⟩
end Jvm.Pilot.@@N@@
