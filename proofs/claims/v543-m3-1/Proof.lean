import JvmDerived
import JvmDerived.Pilot.@@N@@Statement
import JvmDerived.Pilot.@@N@@Code
set_option linter.unusedVariables false
set_option linter.unusedSimpArgs false
namespace Jvm.RoadKit
open Sem ClassFile Op Lib Jvm.Stand Jvm.Free Jvm.LawKit
section New
variable {p : Program} {l : Launch} {e : Env} {R : Room} {s : State} {m : MethodId} {args : Array Value} {below : List Frame} {meth : Method} {c : Code} {T : State} {locs : List Loc} {cells slots : Nat}
theorem retI (X : Stand p l e R s m args below meth c T locs cells slots) (hx : p.tables.exec = Jvm.exec) {pc : Nat} {Ls : Array Slot} {z : Int32} {rest : List Value} (hret : meth.sig.returnType = some .int) (hd : decode c.code pc = .ok (.ireturn, 1)) {fs : List Frame}
    (hl : ∀ (f : JFrame) (acts : List Action), f.method = m → f.locked = none → f.entered = [] → (doReturn e (T.setTop f) acts (some (.int z))).1 = T.setFrames fs) : Steps p.tables e below (T.setTop (mkF m pc Ls (.int z :: rest))) (T.setFrames fs) := by
  have hm' : T.vm.method? m = some meth := X.method'
  have hn : narrow .int (.int z) = .int z := rfl
  show Steps p.tables e below (T.setTop { method := m, pc := pc, locals := Ls, stack := _ :: rest, locked := none }) _
  jvm_step X.here [X.here.top, hx, hd, hm', hret, hn]
  first | (intro acts; rw [hl _ acts rfl rfl rfl]) | rw [hl _ _ rfl rfl rfl]
  exact Steps.refl _
end New
section Wide
open Bundle Jvm.Free.SB Jvm.Free.SBG
variable {p : Program} {l : Launch} {e : Env} {R : Room} {s : State} {m : MethodId} {args : Array Value} {below : List Frame} {meth : Method} {c : Code} {T : State} {locs : List Loc} {cells slots : Nat} {Z : State} {a0 : Array Value} {h : Heap} {own text : String} {index : Nat}
/-- ldc_w of a String constant, cold, and what the String holds (the library says it of ldc alone) -/
theorem own_ldcw (X : Stand p l e R s m args below meth c T locs cells slots) (hold : ∀ (b : Addr) (cl : Cell), s.heap[b]? = some cl → T.heap[b]? = some cl) (hexec : p.tables.exec = Jvm.exec) (hown : s.vm.findClass own = some m.cls)
    (hlink : (Cond.stringLink own index text).before args s = true) (hS : ∀ a ∈ Bundle.stringAtoms, a.before args s = true) (hheld : ConstHeldL s own index) (hlat : ∀ units : Array UInt16, utf16ToString? units = some text → units.all (· < 256) = true)
    {g : JFrame} (hg : g.method = m) (hdg : decode c.code g.pc = .ok (.ldc_w index, 3)) {n : Nat} (hn : 4 * text.toList.length ≤ n) (hbig : n ≤ 536870912) (hRc : cells + 2 ≤ R.cells) (hRs : slots + (n + 4) ≤ R.slots) :
    ∃ (a : Addr) (U : State), Stand p l e R (s.setVm U.vm) m args below meth c U locs (cells + 2) (slots + (n + 4)) ∧ s.Since U.vm U.heap.size ∧ (∀ b, b < T.heap.size → U.heap[b]? = T.heap[b]?) ∧ T.heap.size ≤ U.heap.size ∧
      (∃ units : Array UInt16, utf16ToString? units = some text ∧ SlIn s.heap.size T.heap.size U a units) ∧
      ∀ target, Steps p.tables e below (U.setTop { g with pc := g.pc + 3, stack := .ref a :: g.stack }) target → Steps p.tables e below (T.setTop g) target := by
  subst hg
  obtain ⟨k, cf, i, units, hk, hcf, hc, hu, hnm, hdec, hres⟩ := Cond.stringLink_spec hown hlink
  obtain ⟨k', hk', he⟩ := X.warmed.alike.2.2 _ _ hk
  have hcf' : k'.cf = some cf := by rw [he]; exact hcf
  have q2 : k.cf.bind (namesOf? ·.constantPool index) = some (.string text) := by rw [hcf]; exact hnm
  have q3 : k.cf.bind (·.constantPool[index]?) = some (.string i) := by rw [hcf]; exact hc
  have q4 : k.cf.bind (·.constantPool.utf8? i) = some units := by rw [hcf]; simp [ConstantPool.utf8?, hu]
  -- the entry now: open, as it was, or booked to a String whose bytes are known
  have hnow : (k'.resolved[index]? = some none ∧ k.resolved[index]? = some none) ∨ ∃ a, k'.resolved[index]? = some (some (.string a)) ∧ SlOf s a units := by
    obtain ⟨k2, hk2, -, -, hent, -⟩ := X.warmed.wide.2.2.2 _ k hk
    obtain rfl : k2 = k' := Option.some.inj (hk2.symm.trans hk')
    rcases hent index with e0 | ⟨hop, r, e1, hr | ⟨a, t, j, us, rfl, -, r3, r4, r5⟩⟩
    · rcases hres with h0 | ⟨a, h0⟩
      · exact Or.inl ⟨e0.trans h0, h0⟩
      · exact Or.inr ⟨a, e0.trans h0, hheld _ k cf i units a hown hk hcf hc hu (Or.inl h0)⟩
    · exfalso; cases r <;> simp [State.rightAt, hk, hcf, hnm] at hr
    · obtain rfl : j = i := by have := r3.symm.trans q3; simpa using this
      obtain rfl : us = units := Option.some.inj (r4.symm.trans q4)
      exact Or.inr ⟨a, e1, hheld _ k cf j us a hown hk hcf hc hu (Or.inr ⟨hop, by rw [← X.warmed.interned_eq]; exact r5⟩)⟩
  rcases hnow with ⟨hop', hop⟩ | ⟨a, hr, hsl⟩
  · cases hf : T.vm.interned.find? (fun q => q.1 == units) with
    | some pr =>
      obtain ⟨u', a⟩ := pr
      obtain rfl : u' = units := by have := Array.find?_some hf; simpa using this
      have hW : s.Warmed39 (T.vm.noted g.method.cls index (.string a)) := X.warmed.wide.notedString hk (Or.inl hop) q2 q3 q4 hf
      have hsl := hheld _ k cf i u' a hown hk hcf hc hu (Or.inr ⟨hop, by rw [← X.warmed.interned_eq]; exact hf⟩)
      refine ⟨a, T.setVm (T.vm.noted g.method.cls index (.string a)), (X.mono (by omega) (by omega)).retabled hW, ⟨hW, State.Booked.step (T₂ := T.setVm (T.vm.noted g.method.cls index (.string a))) (X.warmed.no_new_pair _) X.same.2.1 ⟨Nat.le_refl _, Or.inl rfl⟩⟩, fun _ _ => rfl, Nat.le_refl _, ⟨u', hdec, hsl.movedIn T.heap.size hW.alike hold⟩, fun target hrest => ?_⟩
      jvm_step X.here [hexec, hdg, ldc_w.wp_string_found (e := e) (s := T) (f := g) X.here.top hk' hcf' hc hu hop' hf]
      exact hrest
    | none =>
      obtain ⟨Zs, LZ, hn4, hfv, hfc⟩ := StringT.of_atoms (args := args) hS
      obtain ⟨kS, kB, LT, hty⟩ := LZ.warmer X.warmed.alike
      have hfs : T.fitsSlot = s.fitsSlot := (show T.fitsSlot = (s.setVm T.vm).fitsSlot from rfl).trans (State.fitsSlot_setVm X.warmed.alike)
      have hby : (stringBytes units).size ≤ n := Nat.le_trans (text_bytes_le hdec) hn
      obtain ⟨vm1, hvm1⟩ : ∃ v : Vm, v = { T.vm with interned := T.vm.interned.push (units, T.heap.size + 1) } := ⟨_, rfl⟩
      obtain ⟨vm2, hvm2⟩ : ∃ v : Vm, v = vm1.noted g.method.cls index (.string (T.heap.size + 1)) := ⟨_, rfl⟩
      have hf1 : vm1.interned.find? (fun q => q.1 == units) = some (units, T.heap.size + 1) := by
        rw [hvm1]; show (T.vm.interned.push (units, T.heap.size + 1)).find? _ = _
        rw [Array.find?_push, hf]; simp
      have hW : s.Warmed39 vm2 := by
        rw [hvm2]; refine State.Warmed39.notedString (vm₁ := vm1) ?_ hk (Or.inl hop) q2 q3 q4 hf1
        rw [hvm1]; exact X.warmed.wide.interns units (T.heap.size + 1)
      obtain ⟨N, hN⟩ : ∃ N : State, N = withString T Zs.cB Zs.cS kS Zs.fv Zs.fc units := ⟨_, rfl⟩
      have hNh : N.heap = (T.heap.push (bytesOf Zs.cB units)).push (stringAt Zs.cS kS Zs.fv Zs.fc units T.heap.size) := by rw [hN, withString_eq]; rfl
      have X2 := (X.pushed (bytesOf Zs.cB units)).pushed (stringAt Zs.cS kS Zs.fv Zs.fc units T.heap.size)
      rw [← withString_eq, ← hN] at X2
      have hsz : N.heap.size = T.heap.size + 2 := by rw [hNh]; simp [Array.size_push]
      have hkeep : ∀ b, b < T.heap.size → (N.setVm vm2).heap[b]? = T.heap[b]? := fun b hb => by
        show N.heap[b]? = _
        rw [hNh, Array.getElem?_push, if_neg (by rw [Array.size_push]; omega), Array.getElem?_push, if_neg (by omega)]
      have hcb : (N.setVm vm2).heap[T.heap.size]? = some (bytesOf Zs.cB units) := by
        show N.heap[T.heap.size]? = _
        rw [hNh, Array.getElem?_push, if_neg (by rw [Array.size_push]; omega), Array.getElem?_push, if_pos rfl]
      have hcs : (N.setVm vm2).heap[T.heap.size + 1]? = some (stringAt Zs.cS kS Zs.fv Zs.fc units T.heap.size) := by
        show N.heap[T.heap.size + 1]? = _
        rw [hNh, Array.getElem?_push, if_pos (by rw [Array.size_push])]
      have hone : T.Interned1 (N.setVm vm2) := ⟨by show T.heap.size ≤ N.heap.size; omega, Or.inr ⟨units, T.heap.size + 1, by rw [hvm2, hvm1]; rfl, by omega, by show T.heap.size + 1 < N.heap.size; omega⟩⟩
      have b1 : (bytesOf Zs.cB units).slots.size = (stringBytes units).size := by rw [(Cell.writeAll_facts _ _).2.2]; simp [bytes0]
      have b2 : (stringAt Zs.cS kS Zs.fv Zs.fc units T.heap.size).slots.size = 4 := by simp [string0, Cell.setSlot, hty, hn4]
      refine ⟨T.heap.size + 1, N.setVm vm2, (X2.mono (by omega) (by rw [b1, b2]; omega)).retabled hW, ⟨hW, State.Booked.step (X.warmed.no_new_pair _) X.same.2.1 hone⟩, hkeep, by show T.heap.size ≤ N.heap.size; omega,
        ⟨units, hdec, made_sl hS LZ hn4 hty hW.alike hcb hcs (hlat units hdec) (by omega) s.heap.size⟩, fun target hrest => ?_⟩
      refine Steps.instr (c := _) (by simpa using X.here) ?_
      simp [jvm, wpRun, exec, X.here.top, hexec, hdg]
      refine ldc_w.wp_string_new (e := e) (s := T) (f := g) X.here.top hk' hcf' hc hu hop' hf LT.found LT.cls LT.initialized LT.ordinary LT.foundB LT.clsB LT.kindB LT.value LT.coder ?_ ?_ (X.cellsAbove hRc) ?_
        (stringBytes_fit LT.clsB LT.kindB units) LT.valueSlot LT.coderSlot (by rw [hfs]; exact hfv _) (by rw [hfs]; exact hfc _) (fun d' acts' => ?_)
      · rw [Launch.admits_arrayLengthLimit X.admits]; omega
      · rw [Launch.admits_maxHeapBytes X.admits]; simp only [componentBytes]; omega
      · have := X.slotsAbove hRs
        show T.slotsUsed + (stringBytes units).size + kS.instanceTypes.size ≤ _
        rw [hty, hn4]; omega
      · intro acts''
        rw [← hvm1, ← hvm2, ← hN]
        have t1 : N.topJava?.isSome := by rw [hN]; simpa [withString] using X.here.top
        have t2 : (N.setVm vm2).topJava?.isSome := by simpa using t1
        simp [jvm, afterInstr, t1, t2]
        rw [State.modifyTopJava_setTop]
        exact hrest
  · refine ⟨a, T, (X.mono (by omega) (by omega)).retabled X.warmed.wide, X.warmed.since _, fun _ _ => rfl, Nat.le_refl _, ⟨units, hdec, hsl.movedIn T.heap.size X.warmed.alike hold⟩, fun target hrest => ?_⟩
    jvm_step X.here [hexec, hdg, ldc_w.wp_string (e := e) (s := T) (f := g) X.here.top hk' hcf' hc hr]
    exact hrest
/-- an empty String of the table, read at the case's start's classes -/
theorem own_read {W : State} {lo hi : Nat} {a : Addr} {units : Array UInt16} (hW : Z.Warmed39 W.vm) (hin : SlIn lo hi W a units) (h0 : units.size = 0) (hlat : units.all (· < 256) = true) :
    ∃ (b : Addr) (k : ClassId), Exa Z W.heap a "java/lang/String" ∧ Fld Z W.heap a "java/lang/String" "coder" "B" (.int 0) ∧ Fld Z W.heap a "java/lang/String" "value" "[B" (.ref b) ∧ Arv Z W.heap b k .byte (0 : Int32) [] (.int 0) := by
  have hal : Z.vm.Alike W.vm := hW.alike
  obtain ⟨q, cS, rfl, ⟨⟨s1, s2, s3, ⟨cv, kv, iv, s4, s4'⟩, ⟨cc, kc, ic, s5, s5'⟩, s6, s7, s8, s9, s10, s11, s12, s13, s14, s15, s16⟩, hfS, hcS⟩, ⟨kS, k1, k2, k3⟩, hB, hbyt, -⟩ := hin
  obtain ⟨kv', z4⟩ := ff_back hal s4
  obtain ⟨kc', z5⟩ := ff_back hal s5
  have hfZ : Z.vm.findClass "java/lang/String" = some q.sC.cls := by rw [← hal.findClass, hcS]; exact hfS
  obtain ⟨kz, hkz, -⟩ := Vm.findClass_spec hfZ
  obtain ⟨kz', hkz', ekz⟩ := hal.2.2 _ _ hkz
  have ekS : kz' = kS := Option.some.inj (hkz'.symm.trans (hcS ▸ k1))
  have hBZ : Z.vm.findClass "[B" = some q.SA.cls := by rw [← hal.findClass]; exact hB
  obtain ⟨kb, hkb, -⟩ := Vm.findClass_spec hBZ
  obtain ⟨kb', hkb', ekb⟩ := hal.2.2 _ _ hkb
  obtain ⟨hst, k9, hk9, comp, hkind⟩ := s11
  have ek9 : k9 = kb' := Option.some.inj (hk9.symm.trans hkb')
  have hsz : q.SA.slots.size = 0 := by rw [hbyt, SBG.stringBytes_lat hlat, Array.size_map]; exact h0
  exact ⟨q.sd, q.SA.cls, ⟨q.sC, kz, s1, hfZ, hkz, s3, fun ho => by rw [k3, ← ekS, ekz]⟩, ⟨q.sC, cc, kc', ic, q.fSC, s1, z5, s7, s2, s3, by rw [← hal.assignable]; exact s5', s9⟩, ⟨q.sC, cv, kv', iv, q.fSV, s1, z4, s6, s2, s3, by rw [← hal.assignable]; exact s4', s8⟩,
    ⟨q.SA, ⟨s10, ⟨hst, kb, hkb, comp, by rw [ek9, ekb] at hkind; exact hkind⟩, s12⟩, rfl, by rw [hsz]; rfl, by decide, fun j hj => by omega, fun j hj => by omega⟩⟩
end Wide
section Wide2
open Bundle Jvm.Free.SB Jvm.Free.SBG
variable {p : Program} {l : Launch} {e : Env} {R : Room} {s : State} {m : MethodId} {args : Array Value} {below : List Frame} {meth : Method} {c : Code} {T : State} {locs : List Loc} {cells slots : Nat} {Z : State} {a0 : Array Value} {h : Heap} {own : String} {index : Nat}
theorem own_emptyL : ∀ units : Array UInt16, utf16ToString? units = some "" → units.all (· < 256) = true := fun units hu => Jvm.ClassFile.lat_of_text hu (fun c hc => by simp at hc)
/-- ldc_w of "" as a walk's first load -/
theorem own_ldcwE (X : Stand p l e R s m args below meth c T locs cells slots) (hx : p.tables.exec = Jvm.exec) (hZ : Z.Warmed39 s.vm) (hown : s.vm.findClass own = some m.cls) (w : (Cond.stringLink own index "").before a0 Z = true) (wS : ∀ a ∈ Bundle.stringAtoms, a.before a0 Z = true)
    (eT : T.heap = h) (N : Fr s.heap.size locs) (hE : Ext Z.heap s.heap) (I : IB Z s.vm []) (hh : Jvm.Lit.constHeld Z own index) (hcw : Jvm.Lit.compactW.before a0 Z = true)
    {g : JFrame} (hg : g.method = m) (hd : decode c.code g.pc = .ok (.ldc_w index, 3)) (hc : cells + 2 ≤ R.cells) (hl : slots + 4 ≤ R.slots) :
    ∃ (a : Addr) (T' : State) (h' : Heap) (b : Addr) (k : ClassId), Stand p l e R (s.setVm T'.vm) m args below meth c T' locs (cells + 2) (slots + 4) ∧ T'.heap = h' ∧ Ext h h' ∧ s.Since T'.vm h'.size ∧ Z.Warmed39 (s.setVm T'.vm).vm ∧ (s.setVm T'.vm).vm.findClass own = some m.cls ∧
      Exa Z h' a "java/lang/String" ∧ Fld Z h' a "java/lang/String" "coder" "B" (.int 0) ∧ Fld Z h' a "java/lang/String" "value" "[B" (.ref b) ∧ Arv Z h' b k .byte (0 : Int32) [] (.int 0) ∧
      ∀ target, Steps p.tables e below (T'.setTop { g with pc := g.pc + 3, stack := .ref a :: g.stack }) target → Steps p.tables e below (T.setTop g) target := by
  have wi : (Cond.instantiable "java/lang/String" 4).before a0 Z = true := wS _ (by simp [Bundle.stringAtoms, Bundle.sN])
  have wa : (Cond.arrayClass .byte).before a0 Z = true := wS _ (by simp [Bundle.stringAtoms])
  have hH : ConstHeldL s own index := heldCarry (s := s) (vm0 := s.vm) hZ w I (by simp) hE.2 (heldStart hh w (fun c hc => by simp at hc) hcw wa wi)
  obtain ⟨a, T', X', hS', hb, hsz, ⟨units, htext, hin⟩, st⟩ := own_ldcw X (oldF X N) hx hown (mvS hZ w) (fun d hd => by
    have q := wS d hd
    simp only [Bundle.stringAtoms, List.mem_cons, List.not_mem_nil, or_false] at hd
    rcases hd with rfl | rfl | rfl | rfl | rfl | rfl | rfl
    · exact mv hZ q
    · exact mv hZ q
    · exact mvA hZ q
    · exact mv hZ q
    · exact mv hZ q
    · exact mv hZ q
    · exact mv hZ q) hH own_emptyL hg hd (n := 0) (by simp) (by decide) hc hl
  subst eT
  have hW : Z.Warmed39 T'.vm := State.Warmed39.trans hZ hS'.1
  have h0 : units.size = 0 := by
    have q := Jvm.ClassFile.units_of_text htext (fun c hc => by simp at hc)
    have q2 := congrArg List.length q
    simpa using q2
  obtain ⟨b, k, r1, r2, r3, r4⟩ := own_read hW hin h0 (own_emptyL _ htext)
  exact ⟨a, T', _, b, k, X', rfl, ext_of hb, hS', hW, by rw [show (s.setVm T'.vm).vm = T'.vm from rfl, hS'.1.alike.findClass]; exact hown, r1, r2, r3, r4, st⟩
/-- ldc of "" as a walk's first load: the library's law in that shape -/
theorem own_ldcE (X : Stand p l e R s m args below meth c T locs cells slots) (hx : p.tables.exec = Jvm.exec) (hZ : Z.Warmed39 s.vm) (hown : s.vm.findClass own = some m.cls) (w : (Cond.stringLink own index "").before a0 Z = true) (wS : ∀ a ∈ Bundle.stringAtoms, a.before a0 Z = true)
    (eT : T.heap = h) (N : Fr s.heap.size locs) (hE : Ext Z.heap s.heap) (hsz : s.heap.size ≤ h.size) (I : IB Z s.vm []) (hh : Jvm.Lit.constHeld Z own index) (hcw : Jvm.Lit.compactW.before a0 Z = true)
    {g : JFrame} (hg : g.method = m) (hd : decode c.code g.pc = .ok (.ldc index, 2)) (hc : cells + 2 ≤ R.cells) (hl : slots + 4 ≤ R.slots) :
    ∃ (a : Addr) (T' : State) (h' : Heap) (b : Addr) (k : ClassId) (k1 : Nat), Stand p l e R (s.setVm T'.vm) m args below meth c T' locs (cells + 2) (slots + 4) ∧ T'.heap = h' ∧ Ext h h' ∧ s.Since T'.vm k1 ∧ k1 ≤ h'.size ∧ Z.Warmed39 (s.setVm T'.vm).vm ∧ (s.setVm T'.vm).vm.findClass own = some m.cls ∧
      Exa Z h' a "java/lang/String" ∧ Fld Z h' a "java/lang/String" "coder" "B" (.int 0) ∧ Fld Z h' a "java/lang/String" "value" "[B" (.ref b) ∧ Arv Z h' b k .byte (0 : Int32) [] (.int 0) ∧ Lit (s.setVm T'.vm) own index a ∧
      ∀ target, Steps p.tables e below (T'.setTop { g with pc := g.pc + 2, stack := .ref a :: g.stack }) target → Steps p.tables e below (T.setTop g) target := by
  obtain ⟨a, T', h', k1, b, k, r1, r2, r3, r4, r5, r6, r7, r8, r9, r10, r11, -, -, -, r12, r13⟩ := ldcSVL (vm0 := s.vm) (Ts := []) (text := "") (vs := []) (z := (0 : Int32)) X hx hZ hown w wS eT ((State.WarmedH.refl s).since s.heap.size) hsz N hE.2 I (by simp) hh hcw ⟨fun c hc => by simp at hc, rfl⟩ (by decide) rfl hg hd (n := 0) (by simp) (by decide) hc hl
  exact ⟨a, T', h', b, k, k1, r1, r2, r3, r4, r5, r6, r7, r8, r9, r10, r11, r12, r13⟩
theorem own_reb {vm1 : Vm} {n : Nat} {c0 : ClassId} (hZ : Z.Warmed39 s.vm) (hown : s.vm.findClass own = some c0) (h2 : s.Since vm1 n) : Z.Warmed39 (s.setVm vm1).vm ∧ (s.setVm vm1).vm.findClass own = some c0 :=
  ⟨State.Warmed39.trans hZ h2.1, (h2.1.alike.findClass _ _).trans hown⟩
/-- the library's backOfS, for a callee that asks that nothing has been interned since the case's start -/
theorem own_back {y : MethodName} {bytes : ByteArray} {maxL : Nat} {ret : Option FieldType} {rm : Room} {len W : Nat} {as' : Array Value} {Q : Option Value → Heap → List Loc → Prop}
    (hM : MetFree l y (head1 [Cond.code y bytes maxL ret] rm) (fun a U => a = as' ∧ Z.Warmed39 U.vm ∧ U.heap = h ∧ IB Z U.vm []) (fun _ _ _ _ _ => True) (fun _ U o U' => ∃ v L, o = .returned v ∧ Q v U'.heap L ∧ ReturnedEndW U o U' L rm.cells rm.slots))
    (hZ : Z.Warmed39 s.vm) (hI : IB Z s.vm []) (wc : (Cond.code y bytes maxL ret).before a0 Z = true) (wz : (Cond.initialized y.cls).before a0 Z = true) (hf : rm.frames + 1 ≤ R.frames) (hl : W + (maxL + 11) + rm.locals ≤ R.locals) :
    BackS l R p e below s args y len W (fun A a => a = as' ∧ A.U.heap = h ∧ A.cells + rm.cells ≤ R.cells ∧ A.slots + rm.slots ≤ R.slots)
      (fun A _ v B => ∃ L, Q v B.U.heap L ∧ B.locs = A.locs ++ L ∧ B.cells = A.cells + rm.cells ∧ B.slots = A.slots + rm.slots) :=
  BackS.of_freeW (bytes := bytes) (maxL := maxL) (ret := ret) (E := fun _ _ o t L k n => k = rm.cells ∧ n = rm.slots ∧ ∃ v, o = .returned v ∧ Q v t.heap L) hM hf hl
    (fun m meth c A a Y hp => have hU : Z.Warmed39 A.U.vm := wtrans hZ Y.warmed
      ⟨by show (Cond.and _ .tt).before a A.U = true; rw [Cond.before_and, mv hU wc]; rfl, mv hU wc, mv hU wz, hp.2.2.1, hp.2.2.2⟩)
    (fun m meth c A a g mk Y hp => ⟨hp.1, wtrans hZ Y.warmed, hp.2.1, by
      show IB Z A.U.vm []
      unfold IB at hI ⊢
      rw [Y.warmed.interned_eq]; exact hI⟩) (fun _ _ _ _ _ _ _ _ _ => trivial)
    (fun _ _ _ _ ⟨v, L, h1, h2, h3⟩ => ⟨L, _, _, h3, rfl, rfl, v, h1, h2⟩)
    (fun m meth c A a g mk v t L k n Y hp _ _ ⟨e1, e2, v', e3, e4⟩ => by cases e3; subst e1 e2; exact ⟨L, e4, rfl, rfl, rfl⟩)
/-- a contract that interns nothing, as one that may -/
theorem own_wide {y : MethodName} {S : Spec} {as' : Array Value} {Q Q' : Option Value → Heap → List Loc → Prop} {k n : Nat} (hM : MetFree l y S (fun a U => a = as' ∧ Z.Warmed39 U.vm ∧ U.heap = h) (fun _ _ _ _ _ => True) (fun _ U o U' => ∃ v L, o = .returned v ∧ Q v U'.heap L ∧ FrameEnd U o U' L k n)) (hQ : ∀ v h L, Q v h L → Q' v h L) :
    MetFree l y S (fun a U => a = as' ∧ Z.Warmed39 U.vm ∧ U.heap = h ∧ IB Z U.vm []) (fun _ _ _ _ _ => True) (fun _ U o U' => ∃ v L, o = .returned v ∧ Q' v U'.heap L ∧ ReturnedEndW U o U' L k n) :=
  MetFree.mono hM (fun _ _ q => ⟨q.1, q.2.1, q.2.2.1⟩) (fun _ _ _ _ _ q => q) (fun _ _ _ _ _ q => by
    obtain ⟨v, L, h1, h2, h3⟩ := q
    exact ⟨v, L, h1, hQ _ _ _ h2, ReturnedEndW.of_narrow h3.1 h3.2.1 h3.2.2⟩)
end Wide2
/-- the run comes, from the state U, to an end at which Q holds -/
def Go (tb : Tables) (e : Env) (below : List Frame) (Q : Outcome → State → Prop) (U : State) : Prop := ∃ s₂ o, Steps tb e below U s₂ ∧ s₂.status = .running ∧ Ended s₂ below o ∧ Q o s₂
theorem Go.on {tb : Tables} {e : Env} {below : List Frame} {Q : Outcome → State → Prop} {A B : State} (h : ∀ t, Steps tb e below B t → Steps tb e below A t) (k : Go tb e below Q B) : Go tb e below Q A := by
  obtain ⟨s₂, o, h1, h2⟩ := k
  exact ⟨s₂, o, h _ h1, h2⟩
section Fin
variable {p : Program} {l : Launch} {e : Env} {R : Room} {s : State} {m : MethodId} {args : Array Value} {below : List Frame} {meth : Method} {c : Code} {T : State} {locs : List Loc} {cells slots : Nat}
theorem own_nv {o : Option FieldType} {t : FieldType} {v : Option Value} (h : o = some t) : o = none → v = none := fun q => by
  rw [h] at q; cases q
theorem Go.fin (X : Stand p l e R s m args below meth c T locs cells slots) {v : Option Value} (hv : meth.sig.returnType = none → v = none) (hl : meth.locks = false) {A : State}
    (step : ∀ fs, (∀ (f : JFrame) (acts : List Action), f.method = m → f.locked = none → f.entered = [] → (doReturn e (T.setTop f) acts v).1 = T.setFrames fs) → Steps p.tables e below A (T.setFrames fs))
    {h : Heap} (eT : T.heap = h) {Q : Option Value → Heap → List Loc → Prop} (hq : Q v h locs) {kc ks : Nat} (hc : cells ≤ kc) (hs : slots ≤ ks) :
    Go p.tables e below (fun o U' => ∃ v L, o = .returned v ∧ Q v U'.heap L ∧ FrameEnd s o U' L kc ks) A := by
  obtain ⟨fs, hr, hrun, hended, hW, hsame⟩ := X.leave (v := v) hv hl
  subst eT
  exact ⟨_, _, step fs hr, hrun, hended, _, _, rfl, hq, ⟨_, rfl⟩, hW, hsame.mono hc hs⟩
theorem Go.finN (X : Stand p l e R s m args below meth c T locs cells slots) {v : Option Value} (hv : meth.sig.returnType = none → v = none) (hl : meth.locks = false) {A : State}
    (step : ∀ fs, (∀ (f : JFrame) (acts : List Action), f.method = m → f.locked = none → f.entered = [] → (doReturn e (T.setTop f) acts v).1 = T.setFrames fs) → Steps p.tables e below A (T.setFrames fs))
    {h : Heap} (eT : T.heap = h) {Q : Option Value → Heap → List Loc → Prop} (hq : Q v h locs) {kc ks : Nat} (hc : cells ≤ kc) (hs : slots ≤ ks) :
    Go p.tables e below (fun o U' => ∃ v L, o = .returned v ∧ Q v U'.heap L ∧ ReturnedEndW s o U' L kc ks) A := by
  obtain ⟨fs, hr, hrun, hended, hW, hsame⟩ := X.leave (v := v) hv hl
  subst eT
  exact ⟨_, _, step fs hr, hrun, hended, _, _, rfl, hq, ReturnedEndW.of_narrow ⟨_, rfl⟩ hW (hsame.mono hc hs)⟩
theorem Go.finW {vm1 : Vm} (X : Stand p l e R (s.setVm vm1) m args below meth c T locs cells slots) {n : Nat} (hS : s.Since vm1 n) (hn : n ≤ T.heap.size) {v : Option Value} (hv : meth.sig.returnType = none → v = none) (hl : meth.locks = false) {A : State}
    (step : ∀ fs, (∀ (f : JFrame) (acts : List Action), f.method = m → f.locked = none → f.entered = [] → (doReturn e (T.setTop f) acts v).1 = T.setFrames fs) → Steps p.tables e below A (T.setFrames fs))
    {h : Heap} (eT : T.heap = h) {Q : Option Value → Heap → List Loc → Prop} (hq : Q v h locs) {kc ks : Nat} (hc : cells ≤ kc) (hs : slots ≤ ks) :
    Go p.tables e below (fun o U' => ∃ v L, o = .returned v ∧ Q v U'.heap L ∧ ReturnedEndW s o U' L kc ks) A := by
  obtain ⟨fs, hr, hrun, hended, hRW⟩ := X.leaveW hS hn (v := v) hv hl
  subst eT
  exact ⟨_, _, step fs hr, hrun, hended, _, _, rfl, hq, hRW.1, hRW.2.1, hRW.2.2.1, hRW.2.2.2.mono hc hs⟩
end Fin
end Jvm.RoadKit
namespace Jvm.Pilot.@@N@@
open Jvm Jvm.ClassFile Sem Op Lib Jvm.Free Jvm.Stand Jvm.LawKit Jvm.RoadKit Bundle Jvm.Pilot.@@N@@.Jvm.D
theorem gw {a0 : Array Value} {Z : State} (hw : ∀ d ∈ tables_1, d.before a0 Z = true) (k : Nat) {d : Jvm.Cond} (h : tables_1[k]? = some d) : d.before a0 Z = true := hw _ (List.mem_of_getElem? h)
abbrev rK (f c s l : Nat) : Room := { frames := f, cells := c, slots := s, locals := l }
theorem mg {a0 args : Array Value} {Z s : State} (hZ : Z.Warmed39 s.vm) (hw : ∀ d ∈ tables_1, d.before a0 Z = true) (k : Nat) {d : Jvm.Cond} (h : tables_1[k]? = some d) (hd : (d.onTables && d.keepsFace) = true := by first | rfl | simp [Cond.onTables, Cond.keepsFace, Cond.keeps, Cond.steady]) : d.before args s = true := mvT hZ (gw hw k h) hd
abbrev vI (x : Int32) : Slot := .val (.int x)
abbrev vR (x : Addr) : Slot := .val (.ref x)
theorem own_w {a b : Nat} (h : a = b) : a ≤ b := Nat.le_of_eq h
set_option maxRecDepth 65536
set_option maxHeartbeats 40000000
abbrev BC0 : ByteArray := jdk_29_method_69_code
abbrev BC1 : ByteArray := jdk_30_method_1_code
abbrev BC2 : ByteArray := jdk_41_method_11_code
abbrev BC3 : ByteArray := jdk_41_method_12_code
abbrev BC4 : ByteArray := jdk_41_method_13_code
abbrev BC5 : ByteArray := jdk_42_method_149_code
abbrev BC6 : ByteArray := jdk_42_method_151_code
abbrev BC7 : ByteArray := jdk_42_method_152_code
abbrev BC8 : ByteArray := jdk_42_method_154_code
abbrev BC9 : ByteArray := jdk_42_method_155_code
abbrev BC10 : ByteArray := jdk_42_method_157_code
abbrev BC11 : ByteArray := jdk_42_method_158_code
abbrev BC12 : ByteArray := jdk_42_method_3_code
abbrev BC13 : ByteArray := jdk_42_method_54_code
abbrev BC14 : ByteArray := jdk_42_method_56_code
abbrev BC15 : ByteArray := jdk_42_method_91_code
abbrev BC16 : ByteArray := jdk_42_method_92_code
abbrev BC17 : ByteArray := jdk_43_method_2_code
abbrev BC18 : ByteArray := jdk_43_method_47_code
abbrev BC19 : ByteArray := jdk_52_method_14_code
abbrev BC20 : ByteArray := jdk_52_method_15_code
abbrev BC21 : ByteArray := jdk_52_method_16_code
abbrev BC22 : ByteArray := jdk_52_method_17_code
abbrev BC23 : ByteArray := jdk_52_method_21_code
abbrev BC24 : ByteArray := jdk_52_method_22_code
abbrev BC25 : ByteArray := jdk_52_method_2_code
abbrev BC26 : ByteArray := jdk_52_method_3_code
abbrev BC27 : ByteArray := jdk_52_method_4_code
abbrev BC28 : ByteArray := jdk_52_method_5_code
abbrev BC29 : ByteArray := jdk_52_method_69_code
abbrev BC30 : ByteArray := jdk_52_method_6_code
abbrev BC31 : ByteArray := jdk_52_method_83_code
abbrev BC32 : ByteArray := jdk_52_method_91_code
abbrev BC33 : ByteArray := jdk_52_method_94_code
abbrev BC34 : ByteArray := jdk_65_method_131_code
abbrev BC35 : ByteArray := jdk_65_method_132_code
abbrev BC36 : ByteArray := jdk_65_method_133_code
abbrev BC37 : ByteArray := method_3_code
abbrev BC38 : ByteArray := method_4_code
abbrev BC39 : ByteArray := prog_40_method_1_code
abbrev BC40 : ByteArray := prog_40_method_2_code
abbrev MN0 : MethodName := ⟨"jdk/internal/util/Preconditions", "checkIndex", "(IILjava/util/function/BiFunction;)I"⟩
abbrev MN1 : MethodName := ⟨"java/lang/String", "checkIndex", "(II)V"⟩
abbrev MN2 : MethodName := ⟨"java/lang/StringLatin1", "charAt", "([BI)C"⟩
abbrev MN3 : MethodName := ⟨"java/lang/StringUTF16", "length", "([B)I"⟩
abbrev MN4 : MethodName := ⟨"java/lang/StringUTF16", "checkIndex", "(I[B)V"⟩
abbrev MN5 : MethodName := ⟨"java/lang/StringUTF16", "getChar", "([BI)C"⟩
abbrev MN6 : MethodName := ⟨"java/lang/StringUTF16", "charAt", "([BI)C"⟩
abbrev MN7 : MethodName := ⟨"java/lang/String", "isLatin1", "()Z"⟩
abbrev MN8 : MethodName := ⟨"java/lang/String", "charAt", "(I)C"⟩
abbrev MN9 : MethodName := ⟨"java/lang/String", "coder", "()B"⟩
abbrev MN10 : MethodName := ⟨"java/lang/String", "length", "()I"⟩
abbrev MN11 : MethodName := ⟨"jdk/internal/util/Preconditions", "checkFromToIndex", "(IIILjava/util/function/BiFunction;)I"⟩
abbrev MN12 : MethodName := ⟨"java/lang/String", "checkBoundsBeginEnd", "(III)V"⟩
abbrev MN13 : MethodName := ⟨"jdk/internal/util/Preconditions", "checkFromIndexSize", "(IIILjava/util/function/BiFunction;)I"⟩
abbrev MN14 : MethodName := ⟨"java/lang/String", "checkBoundsOffCount", "(III)I"⟩
abbrev MN15 : MethodName := ⟨"java/lang/StringUTF16", "checkBoundsOffCount", "(II[B)V"⟩
abbrev MN16 : MethodName := ⟨"java/util/Arrays", "checkLength", "(II)V"⟩
abbrev MN17 : MethodName := ⟨"java/lang/Math", "min", "(II)I"⟩
abbrev MN18 : MethodName := ⟨"java/lang/StringUTF16", "newBytesLength", "(I)I"⟩
abbrev MN19 : MethodName := ⟨"java/util/Arrays", "copyOfRangeByte", "([BII)[B"⟩
abbrev MN20 : MethodName := ⟨"java/util/Arrays", "copyOfRange", "([BII)[B"⟩
abbrev MN21 : MethodName := ⟨"java/lang/String", "<init>", "([BB)V"⟩
abbrev MN22 : MethodName := ⟨"java/lang/StringLatin1", "newString", "([BII)Ljava/lang/String;"⟩
abbrev MN23 : MethodName := ⟨"java/lang/StringUTF16", "newString", "([BII)Ljava/lang/String;"⟩
abbrev MN24 : MethodName := ⟨"java/lang/StringUTF16", "putChar", "([BII)V"⟩
abbrev MN25 : MethodName := ⟨"java/lang/StringUTF16", "coderFromArrayLen", "([BI)B"⟩
abbrev MN26 : MethodName := ⟨"java/lang/StringUTF16", "newBytesFor", "(I)[B"⟩
abbrev MN27 : MethodName := ⟨"java/lang/StringUTF16", "toBytes", "([CII)[B"⟩
abbrev MN28 : MethodName := ⟨"java/lang/StringUTF16", "compress", "([CI[BII)I"⟩
abbrev MN29 : MethodName := ⟨"java/lang/StringUTF16", "compress", "([CII)[B"⟩
abbrev MN30 : MethodName := ⟨"java/lang/String", "<init>", "([CIILjava/lang/Void;)V"⟩
abbrev MN31 : MethodName := ⟨"java/lang/String", "<init>", "([C)V"⟩
abbrev MN32 : MethodName := ⟨"java/lang/StringUTF16", "compress", "([BI[BII)I"⟩
abbrev MN33 : MethodName := ⟨"java/lang/StringUTF16", "compress", "([BII)[B"⟩
abbrev MN34 : MethodName := ⟨"com/example/docs_into_rows/docsintorows/PrologDoctypePinLaw", "make", "(I[C)Ljava/lang/String;"⟩
abbrev MN35 : MethodName := ⟨"java/lang/String", "substring", "(II)Ljava/lang/String;"⟩
abbrev MN36 : MethodName := ⟨"java/lang/String", "substring", "(I)Ljava/lang/String;"⟩
abbrev MN37 : MethodName := ⟨"com/example/docs_into_rows/docsintorows/MarkupReader$Prolog", "doctype", "()Ljava/lang/String;"⟩
abbrev MN38 : MethodName := ⟨"java/lang/Record", "<init>", "()V"⟩
abbrev MN39 : MethodName := ⟨"com/example/docs_into_rows/docsintorows/MarkupReader$Prolog", "<init>", "(Ljava/lang/String;I)V"⟩
abbrev MN40 : MethodName := ⟨"com/example/docs_into_rows/docsintorows/PrologDoctypePinLaw", "same", "(Ljava/lang/String;[CIII)Z"⟩
def own_S_cs (Z : State) (G1 : Int32) : Prop := Sta Z Z.heap "java/lang/String" "COMPACT_STRINGS" "Z" (.int G1)
def own_S_ad (Z : State) : Prop := Sta Z Z.heap "java/lang/StringUTF16" "$assertionsDisabled" "Z" (.int 1)
def own_S_hi (Z : State) : Prop := Sta Z Z.heap "java/lang/StringUTF16" "HI_BYTE_SHIFT" "I" (.int 0)
def own_S_lo (Z : State) : Prop := Sta Z Z.heap "java/lang/StringUTF16" "LO_BYTE_SHIFT" "I" (.int 8)
def own_S_fm (Z : State) (G3 : Value) : Prop := Sta Z Z.heap "jdk/internal/util/Preconditions" "SIOOBE_FORMATTER" "Ljava/util/function/BiFunction;" G3
abbrev own_l (c : Int32) : Int32 := c.toInt8.toInt32.toInt8.toInt32
abbrev own_u0 (c : Int32) : Int32 := (c >>> ((0 : Int32) &&& 31)).toInt8.toInt32.toInt8.toInt32
abbrev own_u1 (c : Int32) : Int32 := (c >>> ((8 : Int32) &&& 31)).toInt8.toInt32.toInt8.toInt32
theorem own_narc (r : Int32) (h : 0 ≤ r.toInt ∧ r.toInt ≤ 65535) : nar .char r = r := by
  have k := c_i2c r
  apply Int32.toInt_inj.mp
  show r.toUInt32.toUInt16.toUInt32.toInt32.toInt = r.toInt
  omega
theorem own_ch (x : Int32) : 0 ≤ (nar .char x).toInt ∧ (nar .char x).toInt ≤ 65535 := by
  have k := c_i2c x
  show 0 ≤ x.toUInt32.toUInt16.toUInt32.toInt32.toInt ∧ x.toUInt32.toUInt16.toUInt32.toInt32.toInt ≤ 65535
  omega
theorem own_m255 : (255 : Int32).toInt = 255 := by decide
theorem own_lat (c : Int32) (h : 0 ≤ c.toInt ∧ c.toInt ≤ 255) : (nar .char (((own_l c) &&& (255 : Int32)).toUInt32.toUInt16.toUInt32.toInt32)) = c := by
  have k1 := c_i2b c
  have k2 := c_i2b c.toInt8.toInt32
  have k3 := c_mask c.toInt8.toInt32.toInt8.toInt32 255 8 (by decide) (by decide)
  have k4 := c_i2c (c.toInt8.toInt32.toInt8.toInt32 &&& (255 : Int32))
  have k5 := c_i2c ((c.toInt8.toInt32.toInt8.toInt32 &&& (255 : Int32)).toUInt32.toUInt16.toUInt32.toInt32)
  have e8 : ((2 ^ 8 : Nat) : Int) = 256 := by decide
  rw [e8] at k3
  apply Int32.toInt_inj.mp
  show ((c.toInt8.toInt32.toInt8.toInt32 &&& (255 : Int32)).toUInt32.toUInt16.toUInt32.toInt32).toUInt32.toUInt16.toUInt32.toInt32.toInt = c.toInt
  omega
theorem own_utf (c : Int32) (h : 0 ≤ c.toInt ∧ c.toInt ≤ 65535) : (nar .char (((((own_u0 c) &&& (255 : Int32)) <<< ((0 : Int32) &&& 31)) ||| (((own_u1 c) &&& (255 : Int32)) <<< ((8 : Int32) &&& 31))).toUInt32.toUInt16.toUInt32.toInt32)) = c := by
  unfold own_u0 own_u1
  have s0 := c_ishr c 0 0 (by decide)
  have s8 := c_ishr c 8 8 (by decide)
  have e0 : ((2 ^ 0 : Nat) : Int) = 1 := by decide
  have e8 : ((2 ^ 8 : Nat) : Int) = 256 := by decide
  rw [e0] at s0
  rw [e8] at s8
  have a1 := c_i2b (c >>> ((0 : Int32) &&& 31))
  have a2 := c_i2b (c >>> ((0 : Int32) &&& 31)).toInt8.toInt32
  have b1 := c_i2b (c >>> ((8 : Int32) &&& 31))
  have b2 := c_i2b (c >>> ((8 : Int32) &&& 31)).toInt8.toInt32
  generalize (c >>> ((0 : Int32) &&& 31)).toInt8.toInt32.toInt8.toInt32 = x at *
  generalize (c >>> ((8 : Int32) &&& 31)).toInt8.toInt32.toInt8.toInt32 = y at *
  have a3 := c_mask x 255 8 (by decide) (by decide)
  have b3 := c_mask y 255 8 (by decide) (by decide)
  rw [e8] at a3 b3
  have a4 := c_ishl (x &&& (255 : Int32)) 0 0 (by decide)
  have b4 := c_ishl (y &&& (255 : Int32)) 8 8 (by decide)
  rw [e0] at a4
  rw [e8] at b4
  have ra := rng32 ((x &&& (255 : Int32)) <<< ((0 : Int32) &&& 31))
  have rb := rng32 ((y &&& (255 : Int32)) <<< ((8 : Int32) &&& 31))
  have o := c_or' ((x &&& (255 : Int32)) <<< ((0 : Int32) &&& 31)) ((y &&& (255 : Int32)) <<< ((8 : Int32) &&& 31)) 8 (by decide) 256 (by decide) (by omega) (by omega) (by omega)
  generalize ((x &&& (255 : Int32)) <<< ((0 : Int32) &&& 31)) ||| ((y &&& (255 : Int32)) <<< ((8 : Int32) &&& 31)) = w at *
  have rw' := rng32 w
  have k4 := c_i2c w
  have k5 := c_i2c (w.toUInt32.toUInt16.toUInt32.toInt32)
  apply Int32.toInt_inj.mp
  show (w.toUInt32.toUInt16.toUInt32.toInt32).toUInt32.toUInt16.toUInt32.toInt32.toInt = c.toInt
  omega
theorem own_wS {a0 : Array Value} {Z : State} (hw : ∀ d ∈ tables_1, d.before a0 Z = true) : ∀ a ∈ Bundle.stringAtoms, a.before a0 Z = true := fun a ha => by
  simp only [Bundle.stringAtoms, Bundle.sN, List.mem_cons, List.not_mem_nil, or_false] at ha
  rcases ha with rfl | rfl | rfl | rfl | rfl | rfl | rfl
  all_goals first | exact gw hw 7 rfl | exact gw hw 8 rfl | exact gw hw 20 rfl | exact gw hw 21 rfl | exact gw hw 22 rfl | exact gw hw 23 rfl | exact gw hw 24 rfl
def own_H (Z : State) (a0 : Array Value) : Prop := Jvm.Lit.compactW.before a0 Z = true ∧ Jvm.Lit.constHeld Z "java/lang/String" 7 ∧ Jvm.Lit.constHeld Z "java/lang/StringLatin1" 151 ∧ Jvm.Lit.constHeld Z "java/lang/StringUTF16" 295
def own_lv (cs : List Int32) : List Value := cs.map fun c => .int (own_l c)
def own_uv : List Int32 → List Value
  | [] => []
  | c :: cs => .int (own_u0 c) :: .int (own_u1 c) :: own_uv cs
def own_A (Z : State) (h : Heap) (a b : Addr) (kb : ClassId) (cs : List Int32) : Prop :=
  (Fld Z h a "java/lang/String" "coder" "B" (.int 0) ∧ Arv Z h b kb .byte (Int32.ofNat cs.length) (own_lv cs) (.int 0) ∧ ∀ c ∈ cs, ¬ ((255 : Int32) < c)) ∨
  (Fld Z h a "java/lang/String" "coder" "B" (.int 1) ∧ Arv Z h b kb .byte (Int32.ofNat (2 * cs.length)) (own_uv cs) (.int 0))
theorem own_A.ext {Z : State} {h h' : Heap} {a b : Addr} {kb : ClassId} {cs : List Int32} (A : own_A Z h a b kb cs) (E : Ext h h') : own_A Z h' a b kb cs := by
  rcases A with ⟨F, V, l⟩ | ⟨F, V⟩
  · exact Or.inl ⟨F.ext E, V.ext E, l⟩
  · exact Or.inr ⟨F.ext E, V.ext E⟩
theorem own_A.keep {Z : State} {h h' : Heap} {a b : Addr} {kb : ClassId} {cs : List Int32} {ws : List Addr} (A : own_A Z h a b kb cs) (K : Keep h h' ws) (qa : a ∉ ws) (qb : b ∉ ws) : own_A Z h' a b kb cs := by
  rcases A with ⟨F, V, l⟩ | ⟨F, V⟩
  · exact Or.inl ⟨F.keep K qa, V.keep K qb, l⟩
  · exact Or.inr ⟨F.keep K qa, V.keep K qb⟩
theorem own_A.lt {Z : State} {h : Heap} {a b : Addr} {kb : ClassId} {cs : List Int32} (A : own_A Z h a b kb cs) : b < h.size := by
  rcases A with ⟨F, V, l⟩ | ⟨F, V⟩
  · exact V.lt
  · exact V.lt
theorem own_all0 : ∀ c ∈ ([] : List Int32), ¬ ((255 : Int32) < c) := fun c q => by cases q
theorem own_allC {a : Int32} {l : List Int32} (q : ¬ ((255 : Int32) < a)) (t : ∀ c ∈ l, ¬ ((255 : Int32) < c)) : ∀ c ∈ a :: l, ¬ ((255 : Int32) < c) := fun c m => by
  rcases List.mem_cons.mp m with rfl | m
  · exact q
  · exact t c m
def own_R (z1 p1 kk : Int32) (vs us : List Value) : Prop := ¬ p1 = (0 : Int32) ∧ ¬ z1 < p1 ∧ (z1 - p1) = kk ∧ ¬ p1 < 0 ∧ p1.toNatClampNeg + kk.toNatClampNeg ≤ z1.toNatClampNeg ∧ us = (List.range kk.toNatClampNeg).map fun i => vs.getD (p1.toNatClampNeg + i) (.int 0)
def own_B (z2 p2 k : Int32) : Prop := ¬ ((z2 ||| p2) ||| k) < (0 : Int32) ∧ ¬ (z2 - p2) < k
def own_G (vs : List Value) (z1 i c : Int32) : Prop := (¬ (i <<< ((1 : Int32) &&& 31)) < 0 ∧ (i <<< ((1 : Int32) &&& 31)) < z1) ∧ vs.getD ((i <<< ((1 : Int32) &&& 31))).toNatClampNeg (.int 0) = .int (own_u0 c) ∧ (¬ ((i <<< ((1 : Int32) &&& 31)) + (1 : Int32)) < 0 ∧ ((i <<< ((1 : Int32) &&& 31)) + (1 : Int32)) < z1) ∧ vs.getD (((i <<< ((1 : Int32) &&& 31)) + (1 : Int32))).toNatClampNeg (.int 0) = .int (own_u1 c)
theorem own_le255 (c : Int32) (h : 0 ≤ c.toInt ∧ c.toInt ≤ 65535) (q : ¬ ((255 : Int32) < c)) : 0 ≤ c.toInt ∧ c.toInt ≤ 255 := by
  rw [Int32.lt_iff_toInt_lt, own_m255] at q
  omega
theorem d22_0 : decode BC2 0 = .ok (.iload_n 0, 1) := by decide +kernel
theorem d22_1 : decode BC2 1 = .ok (.ifCond .lt 8, 3) := by decide +kernel
theorem d22_4 : decode BC2 4 = .ok (.iload_n 0, 1) := by decide +kernel
theorem d22_5 : decode BC2 5 = .ok (.iload_n 1, 1) := by decide +kernel
theorem d22_6 : decode BC2 6 = .ok (.if_icmp .lt 10, 3) := by decide +kernel
theorem d22_16 : decode BC2 16 = .ok (.iload_n 0, 1) := by decide +kernel
theorem d22_17 : decode BC2 17 = .ok (.ireturn, 1) := by decide +kernel
theorem pn_2 : plainName "jdk/internal/util/Preconditions" = true := by first | (simp [plainName, overriddenIn]; done) | decide +kernel
theorem ef_rpi0 (m : MethodId) (p1 : Int32) (p2 : Int32) : entryFrame m #[(.int p1), (.int p2), .null] 3 = mkF m 0 #[vI p1, vI p2, .val .null] [] := rfl
def Q_rpi0 (Z : State) (p1 : Int32) (p2 : Int32) (h0 : Heap) (n0 : Nat) (v : Option Value) (h : Heap) (L : List Loc) : Prop := v = some (.int p1) ∧ Fr n0 L ∧ h = h0
theorem rpi0 (l : Launch) (Z : State) (a0 : Array Value) (hw : ∀ d ∈ tables_1, d.before a0 Z = true) (ws : List Jvm.Cond) (p1 : Int32) (p2 : Int32) (h0 : Heap) (n0 : Nat) (Z0 : n0 ≤ h0.size) (hi : ¬ p1 < (0 : Int32) ∧ p1 < p2) :
    MetFree l MN0 (head1 (Jvm.Cond.code MN0 jdk_41_method_11_code 3 (some .int) :: ws) (rK 0 0 0 0)) (fun a U => a = #[(.int p1), (.int p2), .null] ∧ Z.Warmed39 U.vm ∧ U.heap = h0) (fun _ _ _ _ _ => True) (fun _ U o U' => ∃ v L, o = .returned v ∧ Q_rpi0 Z p1 p2 h0 n0 v U'.heap L ∧ FrameEnd U o U' L (rK 0 0 0 0).cells (rK 0 0 0 0).slots) := by
  refine MetFree.of_bodySF (plainFor_of_name pn_2) hisR ?_
  intro p e s m args below meth c sB Bd hml0 hP hK
  obtain ⟨rfl, hZ, hh⟩ := hP
  have hx := Bd.exec
  have hby := Bd.bytes
  have X0 : Stand p l e (rK 0 0 0 0) s m #[(.int p1), (.int p2), .null] below meth c sB [] 0 0 := Stand.of_body Bd
  have e0 : sB.heap = h0 := by rw [← hh, Bd.state]; rfl
  have N0 := Fr.nil n0
  change Go p.tables e below _ _
  refine Go.on (B := sB.setTop (mkF m 0 #[vI p1, vI p2, .val .null] [])) (fun t k => castTop (ef_rpi0 m p1 p2) k) ?_
  have hc1_1 : ¬ (p1 < (0 : Int32)) := hi.1
  have hc6_2 : p1 < p2 := hi.2
  refine Go.on (B := sB.setTop (mkF m 17 #[vI p1, vI p2, .val .null] [(.int p1)])) (fun t k => XS.iloadN X0.here hx rfl (hb hby d22_0) rfl (XS.ifNo X0.here hx rfl (hb hby d22_1) rfl ((if0 _ _).trans (flt hc1_1).1) (XS.iloadN X0.here hx rfl (hb hby d22_4) rfl (XS.iloadN X0.here hx rfl (hb hby d22_5) rfl (XS.icmpYes X0.here hx rfl (pc0 := 6) (pc' := 16) rfl (hb hby d22_6) rfl (tlt hc6_2).1 (by decide) (by decide) (XS.iloadN X0.here hx rfl (hb hby d22_16) rfl k)))))) ?_
  refine Go.fin X0 (v := some (.int p1)) (own_nv Bd.returns) Bd.notSynchronized ?_ e0 ⟨rfl, N0, rfl⟩ (by decide) (by decide)
  exact fun _ hr => retI X0 hx Bd.returns (hb hby d22_17) hr
theorem ef_rpi1 (m : MethodId) (p1 : Int32) (p2 : Int32) (a3 : Addr) : entryFrame m #[(.int p1), (.int p2), (.ref a3)] 3 = mkF m 0 #[vI p1, vI p2, vR a3] [] := rfl
def Q_rpi1 (Z : State) (p1 : Int32) (p2 : Int32) (a3 : Addr) (h0 : Heap) (n0 : Nat) (v : Option Value) (h : Heap) (L : List Loc) : Prop := v = some (.int p1) ∧ Fr n0 L ∧ h = h0
theorem rpi1 (l : Launch) (Z : State) (a0 : Array Value) (hw : ∀ d ∈ tables_1, d.before a0 Z = true) (ws : List Jvm.Cond) (p1 : Int32) (p2 : Int32) (a3 : Addr) (h0 : Heap) (n0 : Nat) (Z0 : n0 ≤ h0.size) (hi : ¬ p1 < (0 : Int32) ∧ p1 < p2) :
    MetFree l MN0 (head1 (Jvm.Cond.code MN0 jdk_41_method_11_code 3 (some .int) :: ws) (rK 0 0 0 0)) (fun a U => a = #[(.int p1), (.int p2), (.ref a3)] ∧ Z.Warmed39 U.vm ∧ U.heap = h0) (fun _ _ _ _ _ => True) (fun _ U o U' => ∃ v L, o = .returned v ∧ Q_rpi1 Z p1 p2 a3 h0 n0 v U'.heap L ∧ FrameEnd U o U' L (rK 0 0 0 0).cells (rK 0 0 0 0).slots) := by
  refine MetFree.of_bodySF (plainFor_of_name pn_2) hisR ?_
  intro p e s m args below meth c sB Bd hml0 hP hK
  obtain ⟨rfl, hZ, hh⟩ := hP
  have hx := Bd.exec
  have hby := Bd.bytes
  have X0 : Stand p l e (rK 0 0 0 0) s m #[(.int p1), (.int p2), (.ref a3)] below meth c sB [] 0 0 := Stand.of_body Bd
  have e0 : sB.heap = h0 := by rw [← hh, Bd.state]; rfl
  have N0 := Fr.nil n0
  change Go p.tables e below _ _
  refine Go.on (B := sB.setTop (mkF m 0 #[vI p1, vI p2, vR a3] [])) (fun t k => castTop (ef_rpi1 m p1 p2 a3) k) ?_
  have hc1_1 : ¬ (p1 < (0 : Int32)) := hi.1
  have hc6_2 : p1 < p2 := hi.2
  refine Go.on (B := sB.setTop (mkF m 17 #[vI p1, vI p2, vR a3] [(.int p1)])) (fun t k => XS.iloadN X0.here hx rfl (hb hby d22_0) rfl (XS.ifNo X0.here hx rfl (hb hby d22_1) rfl ((if0 _ _).trans (flt hc1_1).1) (XS.iloadN X0.here hx rfl (hb hby d22_4) rfl (XS.iloadN X0.here hx rfl (hb hby d22_5) rfl (XS.icmpYes X0.here hx rfl (pc0 := 6) (pc' := 16) rfl (hb hby d22_6) rfl (tlt hc6_2).1 (by decide) (by decide) (XS.iloadN X0.here hx rfl (hb hby d22_16) rfl k)))))) ?_
  refine Go.fin X0 (v := some (.int p1)) (own_nv Bd.returns) Bd.notSynchronized ?_ e0 ⟨rfl, N0, rfl⟩ (by decide) (by decide)
  exact fun _ hr => retI X0 hx Bd.returns (hb hby d22_17) hr
theorem d21_0 : decode BC9 0 = .ok (.iload_n 0, 1) := by decide +kernel
theorem d21_1 : decode BC9 1 = .ok (.iload_n 1, 1) := by decide +kernel
theorem d21_2 : decode BC9 2 = .ok (.getstatic 1053, 3) := by decide +kernel
theorem d21_5 : decode BC9 5 = .ok (.invokestatic 1059, 3) := by decide +kernel
theorem d21_8 : decode BC9 8 = .ok (.pop, 1) := by decide +kernel
theorem d21_9 : decode BC9 9 = .ok (.return_, 1) := by decide +kernel
theorem pd_0 : parseMethodDescriptor "(IILjava/util/function/BiFunction;)I" = some ⟨[.int, .int, (.object "java/util/function/BiFunction")], some .int⟩ := by decide +kernel
theorem pn_5 : plainName "java/lang/String" = true := by first | (simp [plainName, overriddenIn]; done) | decide +kernel
theorem ef_rci (m : MethodId) (p1 : Int32) (p2 : Int32) : entryFrame m #[(.int p1), (.int p2)] 2 = mkF m 0 #[vI p1, vI p2] [] := rfl
def Q_rci (Z : State) (p1 : Int32) (p2 : Int32) (G3 : Value) (h0 : Heap) (n0 : Nat) (v : Option Value) (h : Heap) (L : List Loc) : Prop := v = none ∧ Fr n0 L ∧ h = h0
theorem rci (l : Launch) (Z : State) (a0 : Array Value) (hw : ∀ d ∈ tables_1, d.before a0 Z = true) (ws : List Jvm.Cond) (p1 : Int32) (p2 : Int32) (G3 : Value) (h0 : Heap) (n0 : Nat) (Z0 : n0 ≤ h0.size) (hi : ¬ p1 < (0 : Int32) ∧ p1 < p2) (O0 : Old Z n0 h0) (S_fm : own_S_fm Z G3) (rG3 : G3.isRef = true) :
    MetFree l MN1 (head1 (Jvm.Cond.code MN1 jdk_42_method_155_code 2 none :: ws) (rK 1 0 0 14)) (fun a U => a = #[(.int p1), (.int p2)] ∧ Z.Warmed39 U.vm ∧ U.heap = h0) (fun _ _ _ _ _ => True) (fun _ U o U' => ∃ v L, o = .returned v ∧ Q_rci Z p1 p2 G3 h0 n0 v U'.heap L ∧ FrameEnd U o U' L (rK 1 0 0 14).cells (rK 1 0 0 14).slots) := by
  refine MetFree.of_bodySF (plainFor_of_name pn_5) hisR ?_
  intro p e s m args below meth c sB Bd hml0 hP hK
  obtain ⟨rfl, hZ, hh⟩ := hP
  have hx := Bd.exec
  have hby := Bd.bytes
  have hml : c.maxLocals = 2 := hml0
  have hown : s.vm.findClass "java/lang/String" = some m.cls := findClass_of_methodNamed Bd.named
  have X0 : Stand p l e (rK 1 0 0 14) s m #[(.int p1), (.int p2)] below meth c sB [] 0 0 := Stand.of_body Bd
  have e0 : sB.heap = h0 := by rw [← hh, Bd.state]; rfl
  have N0 := Fr.nil n0
  change Go p.tables e below _ _
  refine Go.on (B := sB.setTop (mkF m 0 #[vI p1, vI p2] [])) (fun t k => castTop (ef_rci m p1 p2) k) ?_
  rcases ref_cases rG3 with rfl | ⟨g3, rfl⟩
  · obtain ⟨T1, X1, e1, st1⟩ := getS2 X0 hx hZ hown (host := "") (Or.inl (gw hw 72 rfl)) Via.refl e0 (S_fm.ext O0.2) (g := (mkF m 2 #[vI p1, vI p2] [(.int p2), (.int p1)])) rfl (hb hby d21_2)
    obtain ⟨_, _, ⟨T2, L2, k2, n2⟩, -, X2, ⟨Lc2, hQ2, lq2, yq2, zq2⟩, st2⟩ := Jvm.LawKit.callS X1 hx (y := MN0) hown (mg hZ hw 108 rfl) (mg hZ hw 109 rfl) (mg hZ hw 73 rfl) (mg hZ hw 110 rfl) (by decide) (backOf (W := 0) (rpi0 l Z a0 hw [] p1 p2 h0 n0 Z0 hi) hZ (gw hw 110 rfl) (gw hw 73 rfl) (by decide) (by decide)) (g := (mkF m 5 #[vI p1, vI p2] [.null, (.int p2), (.int p1)])) rfl (by rw [hml]; rfl) (argsL := [(.int p1), (.int p2), .null]) (rest := []) (lenOf pd_0 rfl) rfl (own_w rfl) (hb hby d21_5) (fun _ _ => ⟨rfl, e1, (by decide : 0 + 0 ≤ _), (by decide : 0 + 0 ≤ _)⟩)
    dsimp only [Pt.U, Pt.locs, Pt.cells, Pt.slots] at X2 lq2 yq2 zq2 st2 hQ2
    subst lq2 yq2 zq2
    obtain ⟨rfl, N2q, e2q⟩ := hQ2
    have N2 := Fr.app N0 N2q
    refine Go.on (B := T2.setTop (mkF m 9 #[vI p1, vI p2] [])) (fun t k => XS.iloadN X0.here hx rfl (hb hby d21_0) rfl (XS.iloadN X0.here hx rfl (hb hby d21_1) rfl (st1 _ (st2 _ (XS.pop X2.here hx rfl (hb hby d21_8) rfl rfl k))))) ?_
    refine Go.fin X2 (v := none) (fun _ => rfl) Bd.notSynchronized ?_ e2q ⟨rfl, N2, rfl⟩ (by decide) (by decide)
    exact fun _ hr => X2.returnOut hx Bd.returns (hb hby d21_9) hr
  · obtain ⟨T3, X3, e3, st3⟩ := getS2 X0 hx hZ hown (host := "") (Or.inl (gw hw 72 rfl)) Via.refl e0 (S_fm.ext O0.2) (g := (mkF m 2 #[vI p1, vI p2] [(.int p2), (.int p1)])) rfl (hb hby d21_2)
    obtain ⟨_, _, ⟨T4, L4, k4, n4⟩, -, X4, ⟨Lc4, hQ4, lq4, yq4, zq4⟩, st4⟩ := Jvm.LawKit.callS X3 hx (y := MN0) hown (mg hZ hw 108 rfl) (mg hZ hw 109 rfl) (mg hZ hw 73 rfl) (mg hZ hw 110 rfl) (by decide) (backOf (W := 0) (rpi1 l Z a0 hw [] p1 p2 g3 h0 n0 Z0 hi) hZ (gw hw 110 rfl) (gw hw 73 rfl) (by decide) (by decide)) (g := (mkF m 5 #[vI p1, vI p2] [(.ref g3), (.int p2), (.int p1)])) rfl (by rw [hml]; rfl) (argsL := [(.int p1), (.int p2), (.ref g3)]) (rest := []) (lenOf pd_0 rfl) rfl (own_w rfl) (hb hby d21_5) (fun _ _ => ⟨rfl, e3, (by decide : 0 + 0 ≤ _), (by decide : 0 + 0 ≤ _)⟩)
    dsimp only [Pt.U, Pt.locs, Pt.cells, Pt.slots] at X4 lq4 yq4 zq4 st4 hQ4
    subst lq4 yq4 zq4
    obtain ⟨rfl, N4q, e4q⟩ := hQ4
    have N4 := Fr.app N0 N4q
    refine Go.on (B := T4.setTop (mkF m 9 #[vI p1, vI p2] [])) (fun t k => XS.iloadN X0.here hx rfl (hb hby d21_0) rfl (XS.iloadN X0.here hx rfl (hb hby d21_1) rfl (st3 _ (st4 _ (XS.pop X4.here hx rfl (hb hby d21_8) rfl rfl k))))) ?_
    refine Go.fin X4 (v := none) (fun _ => rfl) Bd.notSynchronized ?_ e4q ⟨rfl, N4, rfl⟩ (by decide) (by decide)
    exact fun _ hr => X4.returnOut hx Bd.returns (hb hby d21_9) hr
theorem d20_0 : decode BC17 0 = .ok (.iload_n 1, 1) := by decide +kernel
theorem d20_1 : decode BC17 1 = .ok (.aload_n 0, 1) := by decide +kernel
theorem d20_2 : decode BC17 2 = .ok (.arraylength, 1) := by decide +kernel
theorem d20_3 : decode BC17 3 = .ok (.invokestatic 9, 3) := by decide +kernel
theorem d20_6 : decode BC17 6 = .ok (.aload_n 0, 1) := by decide +kernel
theorem d20_7 : decode BC17 7 = .ok (.iload_n 1, 1) := by decide +kernel
theorem d20_8 : decode BC17 8 = .ok (.baload, 1) := by decide +kernel
theorem d20_9 : decode BC17 9 = .ok (.sipush 255, 3) := by decide +kernel
theorem d20_12 : decode BC17 12 = .ok (.iand, 1) := by decide +kernel
theorem d20_13 : decode BC17 13 = .ok (.i2c, 1) := by decide +kernel
theorem d20_14 : decode BC17 14 = .ok (.ireturn, 1) := by decide +kernel
theorem pd_1 : parseMethodDescriptor "(II)V" = some ⟨[.int, .int], none⟩ := by decide +kernel
theorem pn_8 : plainName "java/lang/StringLatin1" = true := by first | (simp [plainName, overriddenIn]; done) | decide +kernel
theorem ef_rl1 (m : MethodId) (a1 : Addr) (p2 : Int32) : entryFrame m #[(.ref a1), (.int p2)] 2 = mkF m 0 #[vR a1, vI p2] [] := rfl
def Q_rl1 (Z : State) (a1 : Addr) (p2 : Int32) (k1 : ClassId) (z1 : Int32) (vs : List Value) (x r : Int32) (G3 : Value) (h0 : Heap) (n0 : Nat) (v : Option Value) (h : Heap) (L : List Loc) : Prop := v = some (.int r) ∧ Fr n0 L ∧ h = h0
theorem rl1 (l : Launch) (Z : State) (a0 : Array Value) (hw : ∀ d ∈ tables_1, d.before a0 Z = true) (ws : List Jvm.Cond) (a1 : Addr) (p2 : Int32) (k1 : ClassId) (z1 : Int32) (vs : List Value) (x r : Int32) (G3 : Value) (h0 : Heap) (n0 : Nat) (Z0 : n0 ≤ h0.size) (V1 : Arv Z h0 a1 k1 .byte z1 vs (.int 0)) (hi : ¬ p2 < (0 : Int32) ∧ p2 < z1) (hv : vs.getD p2.toNatClampNeg (.int 0) = .int x) (hrr : (nar .char ((x &&& (255 : Int32)).toUInt32.toUInt16.toUInt32.toInt32)) = r) (O0 : Old Z n0 h0) (S_fm : own_S_fm Z G3) (rG3 : G3.isRef = true) :
    MetFree l MN2 (head1 (Jvm.Cond.code MN2 jdk_43_method_2_code 2 (some .char) :: ws) (rK 2 0 0 30)) (fun a U => a = #[(.ref a1), (.int p2)] ∧ Z.Warmed39 U.vm ∧ U.heap = h0) (fun _ _ _ _ _ => True) (fun _ U o U' => ∃ v L, o = .returned v ∧ Q_rl1 Z a1 p2 k1 z1 vs x r G3 h0 n0 v U'.heap L ∧ FrameEnd U o U' L (rK 2 0 0 30).cells (rK 2 0 0 30).slots) := by
  refine MetFree.of_bodySF (plainFor_of_name pn_8) hisR ?_
  intro p e s m args below meth c sB Bd hml0 hP hK
  obtain ⟨rfl, hZ, hh⟩ := hP
  have hx := Bd.exec
  have hby := Bd.bytes
  have hml : c.maxLocals = 2 := hml0
  have hown : s.vm.findClass "java/lang/StringLatin1" = some m.cls := findClass_of_methodNamed Bd.named
  have X0 : Stand p l e (rK 2 0 0 30) s m #[(.ref a1), (.int p2)] below meth c sB [] 0 0 := Stand.of_body Bd
  have e0 : sB.heap = h0 := by rw [← hh, Bd.state]; rfl
  have N0 := Fr.nil n0
  change Go p.tables e below _ _
  refine Go.on (B := sB.setTop (mkF m 0 #[vR a1, vI p2] [])) (fun t k => castTop (ef_rl1 m a1 p2) k) ?_
  obtain ⟨cl1, Ar1, -, Sz1, Ng1, -, -⟩ := id V1
  obtain ⟨_, _, ⟨T2, L2, k2, n2⟩, -, X2, ⟨Lc2, hQ2, lq2, yq2, zq2⟩, st2⟩ := Jvm.LawKit.callS X0 hx (y := MN1) hown (mg hZ hw 105 rfl) (mg hZ hw 106 rfl) (mg hZ hw 8 rfl) (mg hZ hw 107 rfl) (by decide) (backOf (W := 0) (rci l Z a0 hw [] p2 z1 G3 h0 n0 Z0 hi O0 S_fm rG3) hZ (gw hw 107 rfl) (gw hw 8 rfl) (by decide) (by decide)) (g := (mkF m 3 #[vR a1, vI p2] [(.int z1), (.int p2)])) rfl (by rw [hml]; rfl) (argsL := [(.int p2), (.int z1)]) (rest := []) (lenOf pd_1 rfl) rfl (own_w rfl) (hb hby d20_3) (fun _ _ => ⟨rfl, e0, (by decide : 0 + 0 ≤ _), (by decide : 0 + 0 ≤ _)⟩)
  dsimp only [Pt.U, Pt.locs, Pt.cells, Pt.slots] at X2 lq2 yq2 zq2 st2 hQ2
  subst lq2 yq2 zq2
  obtain ⟨rfl, N2q, e2q⟩ := hQ2
  have N2 := Fr.app N0 N2q
  refine Go.on (B := T2.setTop (mkF m 8 #[vR a1, vI p2] [(.int p2), (.ref a1)])) (fun t k => XS.iloadN X0.here hx rfl (hb hby d20_0) rfl (XS.aloadN X0.here hx rfl (hb hby d20_1) rfl rfl (X0.arraylength hx (by rw [e0]; exact Ar1.1) (State.isArrayOf_alike hZ.alike Ar1.2.1) (g := (mkF m 2 #[vR a1, vI p2] [(.ref a1), (.int p2)])) rfl rfl (hb hby d20_2) _ (by rw [len_of Sz1 Ng1]; exact (st2 _ (XS.aloadN X2.here hx rfl (hb hby d20_6) rfl rfl (XS.iloadN X2.here hx rfl (hb hby d20_7) rfl k))))))) ?_
  obtain ⟨cl3, Ar3, qq3, Sz3, Ng3, Hh3, Gg3⟩ := id V1
  have hin3 : ¬ (p2 < 0 ∨ cl3.slots.size ≤ (p2).toNatClampNeg) := inb_of Sz3 hi
  have hat3 : cl3.slots[(p2).toNatClampNeg]? = some (.int x) := Hh3.at hin3 hv
  refine Go.on (B := T2.setTop (mkF m 14 #[vR a1, vI p2] [(.int ((x &&& (255 : Int32)).toUInt32.toUInt16.toUInt32.toInt32))])) (fun t k => X2.baloadBytes hx (j := p2) (v := (.int x)) (by rw [e2q]; exact Ar3.1) (State.isArrayOf_alike hZ.alike Ar3.2.1) Ar3.2.2 hin3 hat3 (g := (mkF m 8 #[vR a1, vI p2] [(.int p2), (.ref a1)])) rfl rfl (hb hby d20_8) _ (XS.sipush X2.here hx rfl (hb hby d20_9) (XS.iand X2.here hx rfl (hb hby d20_12) rfl (XS.i2c X2.here hx rfl (hb hby d20_13) rfl k)))) ?_
  refine Go.fin X2 (v := some (.int (nar .char ((x &&& (255 : Int32)).toUInt32.toUInt16.toUInt32.toInt32)))) (own_nv Bd.returns) Bd.notSynchronized ?_ e2q ⟨congrArg (fun z => some (Value.int z)) hrr, N2, rfl⟩ (by decide) (by decide)
  exact fun _ hr => retN X2 hx (t := .char) Bd.returns (by simp) (hb hby d20_14) hr
theorem d32_0 : decode BC30 0 = .ok (.aload_n 0, 1) := by decide +kernel
theorem d32_1 : decode BC30 1 = .ok (.arraylength, 1) := by decide +kernel
theorem d32_2 : decode BC30 2 = .ok (.iconst 1, 1) := by decide +kernel
theorem d32_3 : decode BC30 3 = .ok (.ishr, 1) := by decide +kernel
theorem d32_4 : decode BC30 4 = .ok (.ireturn, 1) := by decide +kernel
theorem pn_10 : plainName "java/lang/StringUTF16" = true := by first | (simp [plainName, overriddenIn]; done) | decide +kernel
theorem ef_rul (m : MethodId) (a1 : Addr) : entryFrame m #[(.ref a1)] 1 = mkF m 0 #[vR a1] [] := rfl
def Q_rul (Z : State) (a1 : Addr) (k1 : ClassId) (z1 : Int32) (vs : List Value) (r : Int32) (h0 : Heap) (n0 : Nat) (v : Option Value) (h : Heap) (L : List Loc) : Prop := v = some (.int r) ∧ Fr n0 L ∧ h = h0
theorem rul (l : Launch) (Z : State) (a0 : Array Value) (hw : ∀ d ∈ tables_1, d.before a0 Z = true) (ws : List Jvm.Cond) (a1 : Addr) (k1 : ClassId) (z1 : Int32) (vs : List Value) (r : Int32) (h0 : Heap) (n0 : Nat) (Z0 : n0 ≤ h0.size) (V1 : Arv Z h0 a1 k1 .byte z1 vs (.int 0)) (hrr : (z1 >>> ((1 : Int32) &&& 31)) = r) :
    MetFree l MN3 (head1 (Jvm.Cond.code MN3 jdk_52_method_6_code 1 (some .int) :: ws) (rK 0 0 0 0)) (fun a U => a = #[(.ref a1)] ∧ Z.Warmed39 U.vm ∧ U.heap = h0) (fun _ _ _ _ _ => True) (fun _ U o U' => ∃ v L, o = .returned v ∧ Q_rul Z a1 k1 z1 vs r h0 n0 v U'.heap L ∧ FrameEnd U o U' L (rK 0 0 0 0).cells (rK 0 0 0 0).slots) := by
  refine MetFree.of_bodySF (plainFor_of_name pn_10) hisR ?_
  intro p e s m args below meth c sB Bd hml0 hP hK
  obtain ⟨rfl, hZ, hh⟩ := hP
  have hx := Bd.exec
  have hby := Bd.bytes
  have X0 : Stand p l e (rK 0 0 0 0) s m #[(.ref a1)] below meth c sB [] 0 0 := Stand.of_body Bd
  have e0 : sB.heap = h0 := by rw [← hh, Bd.state]; rfl
  have N0 := Fr.nil n0
  change Go p.tables e below _ _
  refine Go.on (B := sB.setTop (mkF m 0 #[vR a1] [])) (fun t k => castTop (ef_rul m a1) k) ?_
  obtain ⟨cl1, Ar1, -, Sz1, Ng1, -, -⟩ := id V1
  refine Go.on (B := sB.setTop (mkF m 4 #[vR a1] [(.int (z1 >>> ((1 : Int32) &&& 31)))])) (fun t k => XS.aloadN X0.here hx rfl (hb hby d32_0) rfl rfl (X0.arraylength hx (by rw [e0]; exact Ar1.1) (State.isArrayOf_alike hZ.alike Ar1.2.1) (g := (mkF m 1 #[vR a1] [(.ref a1)])) rfl rfl (hb hby d32_1) _ (by rw [len_of Sz1 Ng1]; exact (XS.iconst X0.here hx rfl (hb hby d32_2) (XS.ishr X0.here hx rfl (hb hby d32_3) rfl k))))) ?_
  refine Go.fin X0 (v := some (.int (z1 >>> ((1 : Int32) &&& 31)))) (own_nv Bd.returns) Bd.notSynchronized ?_ e0 ⟨congrArg (fun z => some (Value.int z)) hrr, N0, rfl⟩ (by decide) (by decide)
  exact fun _ hr => retI X0 hx Bd.returns (hb hby d32_4) hr
theorem d31_0 : decode BC32 0 = .ok (.iload_n 0, 1) := by decide +kernel
theorem d31_1 : decode BC32 1 = .ok (.aload_n 1, 1) := by decide +kernel
theorem d31_2 : decode BC32 2 = .ok (.invokestatic 48, 3) := by decide +kernel
theorem d31_5 : decode BC32 5 = .ok (.invokestatic 414, 3) := by decide +kernel
theorem d31_8 : decode BC32 8 = .ok (.return_, 1) := by decide +kernel
theorem pd_2 : parseMethodDescriptor "([B)I" = some ⟨[(.array .byte)], some .int⟩ := by decide +kernel
theorem ef_ruc (m : MethodId) (p1 : Int32) (a2 : Addr) : entryFrame m #[(.int p1), (.ref a2)] 2 = mkF m 0 #[vI p1, vR a2] [] := rfl
def Q_ruc (Z : State) (p1 : Int32) (a2 : Addr) (k1 : ClassId) (z1 : Int32) (vs : List Value) (z2 : Int32) (G3 : Value) (h0 : Heap) (n0 : Nat) (v : Option Value) (h : Heap) (L : List Loc) : Prop := v = none ∧ Fr n0 L ∧ h = h0
theorem ruc (l : Launch) (Z : State) (a0 : Array Value) (hw : ∀ d ∈ tables_1, d.before a0 Z = true) (ws : List Jvm.Cond) (p1 : Int32) (a2 : Addr) (k1 : ClassId) (z1 : Int32) (vs : List Value) (z2 : Int32) (G3 : Value) (h0 : Heap) (n0 : Nat) (Z0 : n0 ≤ h0.size) (V2 : Arv Z h0 a2 k1 .byte z1 vs (.int 0)) (hz2 : (z1 >>> ((1 : Int32) &&& 31)) = z2) (hi : ¬ p1 < (0 : Int32) ∧ p1 < z2) (O0 : Old Z n0 h0) (S_fm : own_S_fm Z G3) (rG3 : G3.isRef = true) :
    MetFree l MN4 (head1 (Jvm.Cond.code MN4 jdk_52_method_91_code 2 none :: ws) (rK 2 0 0 30)) (fun a U => a = #[(.int p1), (.ref a2)] ∧ Z.Warmed39 U.vm ∧ U.heap = h0) (fun _ _ _ _ _ => True) (fun _ U o U' => ∃ v L, o = .returned v ∧ Q_ruc Z p1 a2 k1 z1 vs z2 G3 h0 n0 v U'.heap L ∧ FrameEnd U o U' L (rK 2 0 0 30).cells (rK 2 0 0 30).slots) := by
  refine MetFree.of_bodySF (plainFor_of_name pn_10) hisR ?_
  intro p e s m args below meth c sB Bd hml0 hP hK
  obtain ⟨rfl, hZ, hh⟩ := hP
  have hx := Bd.exec
  have hby := Bd.bytes
  have hml : c.maxLocals = 2 := hml0
  have hown : s.vm.findClass "java/lang/StringUTF16" = some m.cls := findClass_of_methodNamed Bd.named
  have X0 : Stand p l e (rK 2 0 0 30) s m #[(.int p1), (.ref a2)] below meth c sB [] 0 0 := Stand.of_body Bd
  have e0 : sB.heap = h0 := by rw [← hh, Bd.state]; rfl
  have N0 := Fr.nil n0
  change Go p.tables e below _ _
  refine Go.on (B := sB.setTop (mkF m 0 #[vI p1, vR a2] [])) (fun t k => castTop (ef_ruc m p1 a2) k) ?_
  obtain ⟨_, _, ⟨T1, L1, k1, n1⟩, -, X1, ⟨Lc1, hQ1, lq1, yq1, zq1⟩, st1⟩ := Jvm.LawKit.callS X0 hx (y := MN3) hown (mg hZ hw 144 rfl) (mg hZ hw 145 rfl) (mg hZ hw 83 rfl) (mg hZ hw 146 rfl) (by decide) (backOf (W := 1) (rul l Z a0 hw [] a2 k1 z1 vs z2 h0 n0 Z0 V2 hz2) hZ (gw hw 146 rfl) (gw hw 83 rfl) (by decide) (by decide)) (g := (mkF m 2 #[vI p1, vR a2] [(.ref a2), (.int p1)])) rfl (by rw [hml]; rfl) (argsL := [(.ref a2)]) (rest := [(.int p1)]) (lenOf pd_2 rfl) rfl (own_w rfl) (hb hby d31_2) (fun _ _ => ⟨rfl, e0, (by decide : 0 + 0 ≤ _), (by decide : 0 + 0 ≤ _)⟩)
  dsimp only [Pt.U, Pt.locs, Pt.cells, Pt.slots] at X1 lq1 yq1 zq1 st1 hQ1
  subst lq1 yq1 zq1
  obtain ⟨rfl, N1q, e1q⟩ := hQ1
  have N1 := Fr.app N0 N1q
  obtain ⟨_, _, ⟨T2, L2, k2, n2⟩, -, X2, ⟨Lc2, hQ2, lq2, yq2, zq2⟩, st2⟩ := Jvm.LawKit.callS X1 hx (y := MN1) hown (mg hZ hw 147 rfl) (mg hZ hw 106 rfl) (mg hZ hw 8 rfl) (mg hZ hw 107 rfl) (by decide) (backOf (W := 0) (rci l Z a0 hw [] p1 z2 G3 h0 n0 Z0 hi O0 S_fm rG3) hZ (gw hw 107 rfl) (gw hw 8 rfl) (by decide) (by decide)) (g := (mkF m 5 #[vI p1, vR a2] [(.int z2), (.int p1)])) rfl (by rw [hml]; rfl) (argsL := [(.int p1), (.int z2)]) (rest := []) (lenOf pd_1 rfl) rfl (own_w rfl) (hb hby d31_5) (fun _ _ => ⟨rfl, e1q, (by decide : 0 + 0 ≤ _), (by decide : 0 + 0 ≤ _)⟩)
  dsimp only [Pt.U, Pt.locs, Pt.cells, Pt.slots] at X2 lq2 yq2 zq2 st2 hQ2
  subst lq2 yq2 zq2
  obtain ⟨rfl, N2q, e2q⟩ := hQ2
  have N2 := Fr.app N1 N2q
  refine Go.on (B := T2.setTop (mkF m 8 #[vI p1, vR a2] [])) (fun t k => XS.iloadN X0.here hx rfl (hb hby d31_0) rfl (XS.aloadN X0.here hx rfl (hb hby d31_1) rfl rfl (st1 _ (st2 _ k)))) ?_
  refine Go.fin X2 (v := none) (fun _ => rfl) Bd.notSynchronized ?_ e2q ⟨rfl, N2, rfl⟩ (by decide) (by decide)
  exact fun _ hr => X2.returnOut hx Bd.returns (hb hby d31_8) hr
theorem d28_0 : decode BC28 0 = .ok (.getstatic 44, 3) := by decide +kernel
theorem d28_3 : decode BC28 3 = .ok (.ifCond .ne 25, 3) := by decide +kernel
theorem d28_28 : decode BC28 28 = .ok (.iload_n 1, 1) := by decide +kernel
theorem d28_29 : decode BC28 29 = .ok (.iconst 1, 1) := by decide +kernel
theorem d28_30 : decode BC28 30 = .ok (.ishl, 1) := by decide +kernel
theorem d28_31 : decode BC28 31 = .ok (.istore_n 1, 1) := by decide +kernel
theorem d28_32 : decode BC28 32 = .ok (.aload_n 0, 1) := by decide +kernel
theorem d28_33 : decode BC28 33 = .ok (.iload_n 1, 1) := by decide +kernel
theorem d28_34 : decode BC28 34 = .ok (.iinc 1 1, 3) := by decide +kernel
theorem d28_37 : decode BC28 37 = .ok (.baload, 1) := by decide +kernel
theorem d28_38 : decode BC28 38 = .ok (.sipush 255, 3) := by decide +kernel
theorem d28_41 : decode BC28 41 = .ok (.iand, 1) := by decide +kernel
theorem d28_42 : decode BC28 42 = .ok (.getstatic 59, 3) := by decide +kernel
theorem d28_45 : decode BC28 45 = .ok (.ishl, 1) := by decide +kernel
theorem d28_46 : decode BC28 46 = .ok (.aload_n 0, 1) := by decide +kernel
theorem d28_47 : decode BC28 47 = .ok (.iload_n 1, 1) := by decide +kernel
theorem d28_48 : decode BC28 48 = .ok (.baload, 1) := by decide +kernel
theorem d28_49 : decode BC28 49 = .ok (.sipush 255, 3) := by decide +kernel
theorem d28_52 : decode BC28 52 = .ok (.iand, 1) := by decide +kernel
theorem d28_53 : decode BC28 53 = .ok (.getstatic 63, 3) := by decide +kernel
theorem d28_56 : decode BC28 56 = .ok (.ishl, 1) := by decide +kernel
theorem d28_57 : decode BC28 57 = .ok (.ior, 1) := by decide +kernel
theorem d28_58 : decode BC28 58 = .ok (.i2c, 1) := by decide +kernel
theorem d28_59 : decode BC28 59 = .ok (.ireturn, 1) := by decide +kernel
def Q_rgc (Z : State) (a1 : Addr) (p2 : Int32) (k1 : ClassId) (z1 : Int32) (vs : List Value) (x0 x1 r : Int32) (h0 : Heap) (n0 : Nat) (v : Option Value) (h : Heap) (L : List Loc) : Prop := v = some (.int r) ∧ Fr n0 L ∧ h = h0
theorem rgc (l : Launch) (Z : State) (a0 : Array Value) (hw : ∀ d ∈ tables_1, d.before a0 Z = true) (ws : List Jvm.Cond) (a1 : Addr) (p2 : Int32) (k1 : ClassId) (z1 : Int32) (vs : List Value) (x0 x1 r : Int32) (h0 : Heap) (n0 : Nat) (Z0 : n0 ≤ h0.size) (V1 : Arv Z h0 a1 k1 .byte z1 vs (.int 0)) (h0i : ¬ (p2 <<< ((1 : Int32) &&& 31)) < 0 ∧ (p2 <<< ((1 : Int32) &&& 31)) < z1) (h0v : vs.getD ((p2 <<< ((1 : Int32) &&& 31))).toNatClampNeg (.int 0) = .int x0) (h1i : ¬ ((p2 <<< ((1 : Int32) &&& 31)) + (1 : Int32)) < 0 ∧ ((p2 <<< ((1 : Int32) &&& 31)) + (1 : Int32)) < z1) (h1v : vs.getD (((p2 <<< ((1 : Int32) &&& 31)) + (1 : Int32))).toNatClampNeg (.int 0) = .int x1) (hrr : (nar .char ((((x0 &&& (255 : Int32)) <<< ((0 : Int32) &&& 31)) ||| ((x1 &&& (255 : Int32)) <<< ((8 : Int32) &&& 31))).toUInt32.toUInt16.toUInt32.toInt32)) = r) (O0 : Old Z n0 h0) (S_ad : own_S_ad Z) (S_hi : own_S_hi Z) (S_lo : own_S_lo Z) :
    MetFree l MN5 (head1 (Jvm.Cond.code MN5 jdk_52_method_5_code 2 (some .char) :: ws) (rK 0 0 0 0)) (fun a U => a = #[(.ref a1), (.int p2)] ∧ Z.Warmed39 U.vm ∧ U.heap = h0) (fun _ _ _ _ _ => True) (fun _ U o U' => ∃ v L, o = .returned v ∧ Q_rgc Z a1 p2 k1 z1 vs x0 x1 r h0 n0 v U'.heap L ∧ FrameEnd U o U' L (rK 0 0 0 0).cells (rK 0 0 0 0).slots) := by
  refine MetFree.of_bodySF (plainFor_of_name pn_10) hisR ?_
  intro p e s m args below meth c sB Bd hml0 hP hK
  obtain ⟨rfl, hZ, hh⟩ := hP
  have hx := Bd.exec
  have hby := Bd.bytes
  have hown : s.vm.findClass "java/lang/StringUTF16" = some m.cls := findClass_of_methodNamed Bd.named
  have X0 : Stand p l e (rK 0 0 0 0) s m #[(.ref a1), (.int p2)] below meth c sB [] 0 0 := Stand.of_body Bd
  have e0 : sB.heap = h0 := by rw [← hh, Bd.state]; rfl
  have N0 := Fr.nil n0
  change Go p.tables e below _ _
  refine Go.on (B := sB.setTop (mkF m 0 #[vR a1, vI p2] [])) (fun t k => castTop (ef_rl1 m a1 p2) k) ?_
  obtain ⟨T1, X1, e1, st1⟩ := getS2 X0 hx hZ hown (host := "") (Or.inl (gw hw 128 rfl)) Via.refl e0 (S_ad.ext O0.2) (g := (mkF m 0 #[vR a1, vI p2] [])) rfl (hb hby d28_0)
  have hc3_2 : ¬ ((1 : Int32) = (0 : Int32)) := by decide
  refine Go.on (B := T1.setTop (mkF m 32 #[vR a1, vI (p2 <<< ((1 : Int32) &&& 31))] [])) (fun t k => st1 _ (XS.ifYes X1.here hx rfl (pc0 := 3) (pc' := 28) rfl (hb hby d28_3) rfl ((if0 _ _).trans (feq hc3_2).2) (by decide) (by decide) (XS.iloadN X1.here hx rfl (hb hby d28_28) rfl (XS.iconst X1.here hx rfl (hb hby d28_29) (XS.ishl X1.here hx rfl (hb hby d28_30) rfl (XS.istoreN X1.here hx rfl (hb hby d28_31) rfl (l' := #[vR a1, vI (p2 <<< ((1 : Int32) &&& 31))]) rfl k)))))) ?_
  obtain ⟨cl4, Ar4, qq4, Sz4, Ng4, Hh4, Gg4⟩ := id V1
  have hin4 : ¬ ((p2 <<< ((1 : Int32) &&& 31)) < 0 ∨ cl4.slots.size ≤ ((p2 <<< ((1 : Int32) &&& 31))).toNatClampNeg) := inb_of Sz4 h0i
  have hat4 : cl4.slots[((p2 <<< ((1 : Int32) &&& 31))).toNatClampNeg]? = some (.int x0) := Hh4.at hin4 h0v
  refine Go.on (B := T1.setTop (mkF m 42 #[vR a1, vI ((p2 <<< ((1 : Int32) &&& 31)) + (1 : Int32))] [(.int (x0 &&& (255 : Int32)))])) (fun t k => XS.aloadN X1.here hx rfl (hb hby d28_32) rfl rfl (XS.iloadN X1.here hx rfl (hb hby d28_33) rfl (XS.iinc X1.here hx rfl (hb hby d28_34) rfl (l' := #[vR a1, vI ((p2 <<< ((1 : Int32) &&& 31)) + (1 : Int32))]) rfl (X1.baloadBytes hx (j := (p2 <<< ((1 : Int32) &&& 31))) (v := (.int x0)) (by rw [e1]; exact Ar4.1) (State.isArrayOf_alike hZ.alike Ar4.2.1) Ar4.2.2 hin4 hat4 (g := (mkF m 37 #[vR a1, vI ((p2 <<< ((1 : Int32) &&& 31)) + (1 : Int32))] [(.int (p2 <<< ((1 : Int32) &&& 31))), (.ref a1)])) rfl rfl (hb hby d28_37) _ (XS.sipush X1.here hx rfl (hb hby d28_38) (XS.iand X1.here hx rfl (hb hby d28_41) rfl k)))))) ?_
  obtain ⟨T5, X5, e5, st5⟩ := getS2 X1 hx hZ hown (host := "") (Or.inl (gw hw 129 rfl)) Via.refl e1 (S_hi.ext O0.2) (g := (mkF m 42 #[vR a1, vI ((p2 <<< ((1 : Int32) &&& 31)) + (1 : Int32))] [(.int (x0 &&& (255 : Int32)))])) rfl (hb hby d28_42)
  obtain ⟨cl6, Ar6, qq6, Sz6, Ng6, Hh6, Gg6⟩ := id V1
  have hin6 : ¬ (((p2 <<< ((1 : Int32) &&& 31)) + (1 : Int32)) < 0 ∨ cl6.slots.size ≤ (((p2 <<< ((1 : Int32) &&& 31)) + (1 : Int32))).toNatClampNeg) := inb_of Sz6 h1i
  have hat6 : cl6.slots[(((p2 <<< ((1 : Int32) &&& 31)) + (1 : Int32))).toNatClampNeg]? = some (.int x1) := Hh6.at hin6 h1v
  refine Go.on (B := T5.setTop (mkF m 52 #[vR a1, vI ((p2 <<< ((1 : Int32) &&& 31)) + (1 : Int32))] [(.int 255), (.int x1), (.int ((x0 &&& (255 : Int32)) <<< ((0 : Int32) &&& 31)))])) (fun t k => st5 _ (XS.ishl X5.here hx rfl (hb hby d28_45) rfl (XS.aloadN X5.here hx rfl (hb hby d28_46) rfl rfl (XS.iloadN X5.here hx rfl (hb hby d28_47) rfl (X5.baloadBytes hx (j := ((p2 <<< ((1 : Int32) &&& 31)) + (1 : Int32))) (v := (.int x1)) (by rw [e5]; exact Ar6.1) (State.isArrayOf_alike hZ.alike Ar6.2.1) Ar6.2.2 hin6 hat6 (g := (mkF m 48 #[vR a1, vI ((p2 <<< ((1 : Int32) &&& 31)) + (1 : Int32))] [(.int ((p2 <<< ((1 : Int32) &&& 31)) + (1 : Int32))), (.ref a1), (.int ((x0 &&& (255 : Int32)) <<< ((0 : Int32) &&& 31)))])) rfl rfl (hb hby d28_48) _ (XS.sipush X5.here hx rfl (hb hby d28_49) k)))))) ?_
  obtain ⟨T7, X7, e7, st7⟩ := getS2 X5 hx hZ hown (host := "") (Or.inl (gw hw 130 rfl)) Via.refl e5 (S_lo.ext O0.2) (g := (mkF m 53 #[vR a1, vI ((p2 <<< ((1 : Int32) &&& 31)) + (1 : Int32))] [(.int (x1 &&& (255 : Int32))), (.int ((x0 &&& (255 : Int32)) <<< ((0 : Int32) &&& 31)))])) rfl (hb hby d28_53)
  refine Go.on (B := T7.setTop (mkF m 59 #[vR a1, vI ((p2 <<< ((1 : Int32) &&& 31)) + (1 : Int32))] [(.int ((((x0 &&& (255 : Int32)) <<< ((0 : Int32) &&& 31)) ||| ((x1 &&& (255 : Int32)) <<< ((8 : Int32) &&& 31))).toUInt32.toUInt16.toUInt32.toInt32))])) (fun t k => XS.iand X5.here hx rfl (hb hby d28_52) rfl (st7 _ (XS.ishl X7.here hx rfl (hb hby d28_56) rfl (XS.ior X7.here hx rfl (hb hby d28_57) rfl (XS.i2c X7.here hx rfl (hb hby d28_58) rfl k))))) ?_
  refine Go.fin X7 (v := some (.int (nar .char ((((x0 &&& (255 : Int32)) <<< ((0 : Int32) &&& 31)) ||| ((x1 &&& (255 : Int32)) <<< ((8 : Int32) &&& 31))).toUInt32.toUInt16.toUInt32.toInt32)))) (own_nv Bd.returns) Bd.notSynchronized ?_ e7 ⟨congrArg (fun z => some (Value.int z)) hrr, N0, rfl⟩ (by decide) (by decide)
  exact fun _ hr => retN X7 hx (t := .char) Bd.returns (by simp) (hb hby d28_59) hr
theorem d30_0 : decode BC31 0 = .ok (.iload_n 1, 1) := by decide +kernel
theorem d30_1 : decode BC31 1 = .ok (.aload_n 0, 1) := by decide +kernel
theorem d30_2 : decode BC31 2 = .ok (.invokestatic 67, 3) := by decide +kernel
theorem d30_5 : decode BC31 5 = .ok (.aload_n 0, 1) := by decide +kernel
theorem d30_6 : decode BC31 6 = .ok (.iload_n 1, 1) := by decide +kernel
theorem d30_7 : decode BC31 7 = .ok (.invokestatic 71, 3) := by decide +kernel
theorem d30_10 : decode BC31 10 = .ok (.ireturn, 1) := by decide +kernel
theorem pd_3 : parseMethodDescriptor "(I[B)V" = some ⟨[.int, (.array .byte)], none⟩ := by decide +kernel
theorem pd_4 : parseMethodDescriptor "([BI)C" = some ⟨[(.array .byte), .int], some .char⟩ := by decide +kernel
def Q_rua (Z : State) (a1 : Addr) (p2 : Int32) (k1 : ClassId) (z1 : Int32) (vs : List Value) (z2 x0 x1 r : Int32) (G3 : Value) (h0 : Heap) (n0 : Nat) (v : Option Value) (h : Heap) (L : List Loc) : Prop := v = some (.int (nar .char r)) ∧ Fr n0 L ∧ h = h0
theorem rua (l : Launch) (Z : State) (a0 : Array Value) (hw : ∀ d ∈ tables_1, d.before a0 Z = true) (ws : List Jvm.Cond) (a1 : Addr) (p2 : Int32) (k1 : ClassId) (z1 : Int32) (vs : List Value) (z2 x0 x1 r : Int32) (G3 : Value) (h0 : Heap) (n0 : Nat) (Z0 : n0 ≤ h0.size) (V1 : Arv Z h0 a1 k1 .byte z1 vs (.int 0)) (hz2 : (z1 >>> ((1 : Int32) &&& 31)) = z2) (hi : ¬ p2 < (0 : Int32) ∧ p2 < z2) (h0i : ¬ (p2 <<< ((1 : Int32) &&& 31)) < 0 ∧ (p2 <<< ((1 : Int32) &&& 31)) < z1) (h0v : vs.getD ((p2 <<< ((1 : Int32) &&& 31))).toNatClampNeg (.int 0) = .int x0) (h1i : ¬ ((p2 <<< ((1 : Int32) &&& 31)) + (1 : Int32)) < 0 ∧ ((p2 <<< ((1 : Int32) &&& 31)) + (1 : Int32)) < z1) (h1v : vs.getD (((p2 <<< ((1 : Int32) &&& 31)) + (1 : Int32))).toNatClampNeg (.int 0) = .int x1) (hrr : (nar .char ((((x0 &&& (255 : Int32)) <<< ((0 : Int32) &&& 31)) ||| ((x1 &&& (255 : Int32)) <<< ((8 : Int32) &&& 31))).toUInt32.toUInt16.toUInt32.toInt32)) = r) (O0 : Old Z n0 h0) (S_fm : own_S_fm Z G3) (S_ad : own_S_ad Z) (S_hi : own_S_hi Z) (S_lo : own_S_lo Z) (rG3 : G3.isRef = true) :
    MetFree l MN6 (head1 (Jvm.Cond.code MN6 jdk_52_method_83_code 2 (some .char) :: ws) (rK 3 0 0 46)) (fun a U => a = #[(.ref a1), (.int p2)] ∧ Z.Warmed39 U.vm ∧ U.heap = h0) (fun _ _ _ _ _ => True) (fun _ U o U' => ∃ v L, o = .returned v ∧ Q_rua Z a1 p2 k1 z1 vs z2 x0 x1 r G3 h0 n0 v U'.heap L ∧ FrameEnd U o U' L (rK 3 0 0 46).cells (rK 3 0 0 46).slots) := by
  refine MetFree.of_bodySF (plainFor_of_name pn_10) hisR ?_
  intro p e s m args below meth c sB Bd hml0 hP hK
  obtain ⟨rfl, hZ, hh⟩ := hP
  have hx := Bd.exec
  have hby := Bd.bytes
  have hml : c.maxLocals = 2 := hml0
  have hown : s.vm.findClass "java/lang/StringUTF16" = some m.cls := findClass_of_methodNamed Bd.named
  have X0 : Stand p l e (rK 3 0 0 46) s m #[(.ref a1), (.int p2)] below meth c sB [] 0 0 := Stand.of_body Bd
  have e0 : sB.heap = h0 := by rw [← hh, Bd.state]; rfl
  have N0 := Fr.nil n0
  change Go p.tables e below _ _
  refine Go.on (B := sB.setTop (mkF m 0 #[vR a1, vI p2] [])) (fun t k => castTop (ef_rl1 m a1 p2) k) ?_
  obtain ⟨_, _, ⟨T1, L1, k1, n1⟩, -, X1, ⟨Lc1, hQ1, lq1, yq1, zq1⟩, st1⟩ := Jvm.LawKit.callS X0 hx (y := MN4) hown (mg hZ hw 141 rfl) (mg hZ hw 142 rfl) (mg hZ hw 83 rfl) (mg hZ hw 143 rfl) (by decide) (backOf (W := 0) (ruc l Z a0 hw [] p2 a1 k1 z1 vs z2 G3 h0 n0 Z0 V1 hz2 hi O0 S_fm rG3) hZ (gw hw 143 rfl) (gw hw 83 rfl) (by decide) (by decide)) (g := (mkF m 2 #[vR a1, vI p2] [(.ref a1), (.int p2)])) rfl (by rw [hml]; rfl) (argsL := [(.int p2), (.ref a1)]) (rest := []) (lenOf pd_3 rfl) rfl (own_w rfl) (hb hby d30_2) (fun _ _ => ⟨rfl, e0, (by decide : 0 + 0 ≤ _), (by decide : 0 + 0 ≤ _)⟩)
  dsimp only [Pt.U, Pt.locs, Pt.cells, Pt.slots] at X1 lq1 yq1 zq1 st1 hQ1
  subst lq1 yq1 zq1
  obtain ⟨rfl, N1q, e1q⟩ := hQ1
  have N1 := Fr.app N0 N1q
  obtain ⟨_, _, ⟨T2, L2, k2, n2⟩, -, X2, ⟨Lc2, hQ2, lq2, yq2, zq2⟩, st2⟩ := Jvm.LawKit.callS X1 hx (y := MN5) hown (mg hZ hw 131 rfl) (mg hZ hw 132 rfl) (mg hZ hw 83 rfl) (mg hZ hw 133 rfl) (by decide) (backOf (W := 0) (rgc l Z a0 hw [] a1 p2 k1 z1 vs x0 x1 r h0 n0 Z0 V1 h0i h0v h1i h1v hrr O0 S_ad S_hi S_lo) hZ (gw hw 133 rfl) (gw hw 83 rfl) (by decide) (by decide)) (g := (mkF m 7 #[vR a1, vI p2] [(.int p2), (.ref a1)])) rfl (by rw [hml]; rfl) (argsL := [(.ref a1), (.int p2)]) (rest := []) (lenOf pd_4 rfl) rfl (own_w rfl) (hb hby d30_7) (fun _ _ => ⟨rfl, e1q, (by decide : 0 + 0 ≤ _), (by decide : 0 + 0 ≤ _)⟩)
  dsimp only [Pt.U, Pt.locs, Pt.cells, Pt.slots] at X2 lq2 yq2 zq2 st2 hQ2
  subst lq2 yq2 zq2
  obtain ⟨rfl, N2q, e2q⟩ := hQ2
  have N2 := Fr.app N1 N2q
  refine Go.on (B := T2.setTop (mkF m 10 #[vR a1, vI p2] [(.int r)])) (fun t k => XS.iloadN X0.here hx rfl (hb hby d30_0) rfl (XS.aloadN X0.here hx rfl (hb hby d30_1) rfl rfl (st1 _ (XS.aloadN X1.here hx rfl (hb hby d30_5) rfl rfl (XS.iloadN X1.here hx rfl (hb hby d30_6) rfl (st2 _ k)))))) ?_
  refine Go.fin X2 (v := some (.int (nar .char r))) (own_nv Bd.returns) Bd.notSynchronized ?_ e2q ⟨rfl, N2, rfl⟩ (by decide) (by decide)
  exact fun _ hr => retN X2 hx (t := .char) Bd.returns (by simp) (hb hby d30_10) hr
theorem d19_0 : decode BC8 0 = .ok (.getstatic 38, 3) := by decide +kernel
theorem d19_3 : decode BC8 3 = .ok (.ifCond .eq 14, 3) := by decide +kernel
theorem d19_6 : decode BC8 6 = .ok (.aload_n 0, 1) := by decide +kernel
theorem d19_7 : decode BC8 7 = .ok (.getfield 15, 3) := by decide +kernel
theorem d19_10 : decode BC8 10 = .ok (.ifCond .ne 7, 3) := by decide +kernel
theorem d19_13 : decode BC8 13 = .ok (.iconst 1, 1) := by decide +kernel
theorem d19_14 : decode BC8 14 = .ok (.goto 4, 3) := by decide +kernel
theorem d19_17 : decode BC8 17 = .ok (.iconst 0, 1) := by decide +kernel
theorem d19_18 : decode BC8 18 = .ok (.ireturn, 1) := by decide +kernel
def Q_ril0 (Z : State) (a1 : Addr) (G1 : Int32) (h0 : Heap) (n0 : Nat) (v : Option Value) (h : Heap) (L : List Loc) : Prop := v = some (.int 1) ∧ Fr n0 L ∧ h = h0
theorem ril0 (l : Launch) (Z : State) (a0 : Array Value) (hw : ∀ d ∈ tables_1, d.before a0 Z = true) (ws : List Jvm.Cond) (a1 : Addr) (G1 : Int32) (h0 : Heap) (n0 : Nat) (Z0 : n0 ≤ h0.size) (F_cd : Fld Z h0 a1 "java/lang/String" "coder" "B" (.int 0)) (O0 : Old Z n0 h0) (S_cs : own_S_cs Z G1) (P5 : ¬ (G1 = (0 : Int32))) :
    MetFree l MN7 (head1 (Jvm.Cond.code MN7 jdk_42_method_154_code 1 (some .boolean) :: ws) (rK 0 0 0 0)) (fun a U => a = #[(.ref a1)] ∧ Z.Warmed39 U.vm ∧ U.heap = h0) (fun _ _ _ _ _ => True) (fun _ U o U' => ∃ v L, o = .returned v ∧ Q_ril0 Z a1 G1 h0 n0 v U'.heap L ∧ FrameEnd U o U' L (rK 0 0 0 0).cells (rK 0 0 0 0).slots) := by
  refine MetFree.of_bodySF (plainFor_of_name pn_5) hisR ?_
  intro p e s m args below meth c sB Bd hml0 hP hK
  obtain ⟨rfl, hZ, hh⟩ := hP
  have hx := Bd.exec
  have hby := Bd.bytes
  have hown : s.vm.findClass "java/lang/String" = some m.cls := findClass_of_methodNamed Bd.named
  have X0 : Stand p l e (rK 0 0 0 0) s m #[(.ref a1)] below meth c sB [] 0 0 := Stand.of_body Bd
  have e0 : sB.heap = h0 := by rw [← hh, Bd.state]; rfl
  have N0 := Fr.nil n0
  change Go p.tables e below _ _
  refine Go.on (B := sB.setTop (mkF m 0 #[vR a1] [])) (fun t k => castTop (ef_rul m a1) k) ?_
  obtain ⟨T1, X1, e1, st1⟩ := getS2 X0 hx hZ hown (host := "") (Or.inl (gw hw 63 rfl)) Via.refl e0 (S_cs.ext O0.2) (g := (mkF m 0 #[vR a1] [])) rfl (hb hby d19_0)
  have hc3_2 : ¬ (G1 = (0 : Int32)) := P5
  obtain ⟨T3, X3, e3, st3⟩ := getF X1 hx hZ hown (host := "") (Or.inl (gw hw 26 rfl)) Via.refl e1 F_cd (g := (mkF m 7 #[vR a1] [(.ref a1)])) rfl rfl (hb hby d19_7)
  have hc10_4 : (0 : Int32) = (0 : Int32) := by decide
  refine Go.on (B := T3.setTop (mkF m 14 #[vR a1] [(.int 1)])) (fun t k => st1 _ (XS.ifNo X1.here hx rfl (hb hby d19_3) rfl ((if0 _ _).trans (feq hc3_2).1) (XS.aloadN X1.here hx rfl (hb hby d19_6) rfl rfl (st3 _ (XS.ifNo X3.here hx rfl (hb hby d19_10) rfl ((if0 _ _).trans (teq hc10_4).2) (XS.iconst X3.here hx rfl (hb hby d19_13) k)))))) ?_
  refine Go.on (B := T3.setTop (mkF m 18 #[vR a1] [(.int 1)])) (fun t k => XS.goto X3.here hx rfl (pc0 := 14) (pc' := 18) rfl (hb hby d19_14) (by decide) (by decide) k) ?_
  refine Go.fin X3 (v := some (.int 1)) (own_nv Bd.returns) Bd.notSynchronized ?_ e3 ⟨rfl, N0, rfl⟩ (by decide) (by decide)
  exact fun _ hr => retN X3 hx (t := .boolean) Bd.returns (by simp) (hb hby d19_18) hr
def Q_ril1 (Z : State) (a1 : Addr) (G1 : Int32) (h0 : Heap) (n0 : Nat) (v : Option Value) (h : Heap) (L : List Loc) : Prop := v = some (.int 0) ∧ Fr n0 L ∧ h = h0
theorem ril1 (l : Launch) (Z : State) (a0 : Array Value) (hw : ∀ d ∈ tables_1, d.before a0 Z = true) (ws : List Jvm.Cond) (a1 : Addr) (G1 : Int32) (h0 : Heap) (n0 : Nat) (Z0 : n0 ≤ h0.size) (F_cd : Fld Z h0 a1 "java/lang/String" "coder" "B" (.int 1)) (O0 : Old Z n0 h0) (S_cs : own_S_cs Z G1) (P5 : ¬ (G1 = (0 : Int32))) :
    MetFree l MN7 (head1 (Jvm.Cond.code MN7 jdk_42_method_154_code 1 (some .boolean) :: ws) (rK 0 0 0 0)) (fun a U => a = #[(.ref a1)] ∧ Z.Warmed39 U.vm ∧ U.heap = h0) (fun _ _ _ _ _ => True) (fun _ U o U' => ∃ v L, o = .returned v ∧ Q_ril1 Z a1 G1 h0 n0 v U'.heap L ∧ FrameEnd U o U' L (rK 0 0 0 0).cells (rK 0 0 0 0).slots) := by
  refine MetFree.of_bodySF (plainFor_of_name pn_5) hisR ?_
  intro p e s m args below meth c sB Bd hml0 hP hK
  obtain ⟨rfl, hZ, hh⟩ := hP
  have hx := Bd.exec
  have hby := Bd.bytes
  have hown : s.vm.findClass "java/lang/String" = some m.cls := findClass_of_methodNamed Bd.named
  have X0 : Stand p l e (rK 0 0 0 0) s m #[(.ref a1)] below meth c sB [] 0 0 := Stand.of_body Bd
  have e0 : sB.heap = h0 := by rw [← hh, Bd.state]; rfl
  have N0 := Fr.nil n0
  change Go p.tables e below _ _
  refine Go.on (B := sB.setTop (mkF m 0 #[vR a1] [])) (fun t k => castTop (ef_rul m a1) k) ?_
  obtain ⟨T1, X1, e1, st1⟩ := getS2 X0 hx hZ hown (host := "") (Or.inl (gw hw 63 rfl)) Via.refl e0 (S_cs.ext O0.2) (g := (mkF m 0 #[vR a1] [])) rfl (hb hby d19_0)
  have hc3_2 : ¬ (G1 = (0 : Int32)) := P5
  obtain ⟨T3, X3, e3, st3⟩ := getF X1 hx hZ hown (host := "") (Or.inl (gw hw 26 rfl)) Via.refl e1 F_cd (g := (mkF m 7 #[vR a1] [(.ref a1)])) rfl rfl (hb hby d19_7)
  have hc10_4 : ¬ ((1 : Int32) = (0 : Int32)) := by decide
  refine Go.on (B := T3.setTop (mkF m 18 #[vR a1] [(.int 0)])) (fun t k => st1 _ (XS.ifNo X1.here hx rfl (hb hby d19_3) rfl ((if0 _ _).trans (feq hc3_2).1) (XS.aloadN X1.here hx rfl (hb hby d19_6) rfl rfl (st3 _ (XS.ifYes X3.here hx rfl (pc0 := 10) (pc' := 17) rfl (hb hby d19_10) rfl ((if0 _ _).trans (feq hc10_4).2) (by decide) (by decide) (XS.iconst X3.here hx rfl (hb hby d19_17) k)))))) ?_
  refine Go.fin X3 (v := some (.int 0)) (own_nv Bd.returns) Bd.notSynchronized ?_ e3 ⟨rfl, N0, rfl⟩ (by decide) (by decide)
  exact fun _ hr => retN X3 hx (t := .boolean) Bd.returns (by simp) (hb hby d19_18) hr
theorem d18_0 : decode BC14 0 = .ok (.aload_n 0, 1) := by decide +kernel
theorem d18_1 : decode BC14 1 = .ok (.invokevirtual 492, 3) := by decide +kernel
theorem d18_4 : decode BC14 4 = .ok (.ifCond .eq 12, 3) := by decide +kernel
theorem d18_7 : decode BC14 7 = .ok (.aload_n 0, 1) := by decide +kernel
theorem d18_8 : decode BC14 8 = .ok (.getfield 9, 3) := by decide +kernel
theorem d18_11 : decode BC14 11 = .ok (.iload_n 1, 1) := by decide +kernel
theorem d18_12 : decode BC14 12 = .ok (.invokestatic 495, 3) := by decide +kernel
theorem d18_15 : decode BC14 15 = .ok (.ireturn, 1) := by decide +kernel
theorem d18_16 : decode BC14 16 = .ok (.aload_n 0, 1) := by decide +kernel
theorem d18_17 : decode BC14 17 = .ok (.getfield 9, 3) := by decide +kernel
theorem d18_20 : decode BC14 20 = .ok (.iload_n 1, 1) := by decide +kernel
theorem d18_21 : decode BC14 21 = .ok (.invokestatic 498, 3) := by decide +kernel
theorem d18_24 : decode BC14 24 = .ok (.ireturn, 1) := by decide +kernel
theorem pd_5 : parseMethodDescriptor "()Z" = some ⟨[], some .boolean⟩ := by decide +kernel
def Q_rchL (Z : State) (a1 : Addr) (p2 : Int32) (a3 : Addr) (k1 : ClassId) (z1 : Int32) (vs : List Value) (x r G1 : Int32) (G3 : Value) (h0 : Heap) (n0 : Nat) (v : Option Value) (h : Heap) (L : List Loc) : Prop := v = some (.int r) ∧ Fr n0 L ∧ h = h0
theorem rchL (l : Launch) (Z : State) (a0 : Array Value) (hw : ∀ d ∈ tables_1, d.before a0 Z = true) (ws : List Jvm.Cond) (a1 : Addr) (p2 : Int32) (a3 : Addr) (k1 : ClassId) (z1 : Int32) (vs : List Value) (x r G1 : Int32) (G3 : Value) (h0 : Heap) (n0 : Nat) (Z0 : n0 ≤ h0.size) (E1 : Exa Z h0 a1 "java/lang/String") (F_cd : Fld Z h0 a1 "java/lang/String" "coder" "B" (.int 0)) (F_vl : Fld Z h0 a1 "java/lang/String" "value" "[B" (.ref a3)) (V3 : Arv Z h0 a3 k1 .byte z1 vs (.int 0)) (hi : ¬ p2 < (0 : Int32) ∧ p2 < z1) (hv : vs.getD p2.toNatClampNeg (.int 0) = .int x) (hrr : (nar .char ((x &&& (255 : Int32)).toUInt32.toUInt16.toUInt32.toInt32)) = r) (hnr : nar .char r = r) (O0 : Old Z n0 h0) (S_cs : own_S_cs Z G1) (S_fm : own_S_fm Z G3) (P5 : ¬ (G1 = (0 : Int32))) (rG3 : G3.isRef = true) :
    MetFree l MN8 (head1 (Jvm.Cond.code MN8 jdk_42_method_56_code 2 (some .char) :: ws) (rK 3 0 0 46)) (fun a U => a = #[(.ref a1), (.int p2)] ∧ Z.Warmed39 U.vm ∧ U.heap = h0) (fun _ _ _ _ _ => True) (fun _ U o U' => ∃ v L, o = .returned v ∧ Q_rchL Z a1 p2 a3 k1 z1 vs x r G1 G3 h0 n0 v U'.heap L ∧ FrameEnd U o U' L (rK 3 0 0 46).cells (rK 3 0 0 46).slots) := by
  refine MetFree.of_bodySF (plainFor_of_name pn_5) hisR ?_
  intro p e s m args below meth c sB Bd hml0 hP hK
  obtain ⟨rfl, hZ, hh⟩ := hP
  have hx := Bd.exec
  have hby := Bd.bytes
  have hml : c.maxLocals = 2 := hml0
  have hown : s.vm.findClass "java/lang/String" = some m.cls := findClass_of_methodNamed Bd.named
  have X0 : Stand p l e (rK 3 0 0 46) s m #[(.ref a1), (.int p2)] below meth c sB [] 0 0 := Stand.of_body Bd
  have e0 : sB.heap = h0 := by rw [← hh, Bd.state]; rfl
  have N0 := Fr.nil n0
  change Go p.tables e below _ _
  refine Go.on (B := sB.setTop (mkF m 0 #[vR a1, vI p2] [])) (fun t k => castTop (ef_rl1 m a1 p2) k) ?_
  obtain ⟨cq1, kq1, q1a, q1b, q1c⟩ := isOf hZ e0 E1
  obtain ⟨_, _, ⟨T1, L1, k1, n1⟩, -, X1, ⟨Lc1, hQ1, lq1, yq1, zq1⟩, st1⟩ := X0.virtualBack hx (y := MN7) (z := MN7) hown (mg hZ hw 96 rfl) (mg hZ hw 97 rfl) (notFace_of_selects (args := #[]) (mg hZ hw 99 rfl)) (mg hZ hw 99 rfl) (mg hZ hw 98 rfl) (by decide) (backOf (W := 0) (ril0 l Z a0 hw [] a1 G1 h0 n0 Z0 F_cd O0 S_cs P5) hZ (gw hw 100 rfl) (gw hw 8 rfl) (by decide) (by decide)) q1a q1c (g := (mkF m 1 #[vR a1, vI p2] [(.ref a1)])) rfl (by rw [hml]; rfl) (Steps.refl _) (argsL := []) (rest := []) (lenOf pd_5 rfl) rfl (own_w rfl) (hb hby d18_1) (fun _ _ => ⟨rfl, e0, (by decide : 0 + 0 ≤ _), (by decide : 0 + 0 ≤ _)⟩)
  dsimp only [Pt.U, Pt.locs, Pt.cells, Pt.slots] at X1 lq1 yq1 zq1 st1 hQ1
  subst lq1 yq1 zq1
  obtain ⟨rfl, N1q, e1q⟩ := hQ1
  have N1 := Fr.app N0 N1q
  have hc4_2 : ¬ ((1 : Int32) = (0 : Int32)) := by decide
  obtain ⟨T3, X3, e3, st3⟩ := getF X1 hx hZ hown (host := "") (Or.inl (gw hw 25 rfl)) Via.refl e1q F_vl (g := (mkF m 8 #[vR a1, vI p2] [(.ref a1)])) rfl rfl (hb hby d18_8)
  refine Go.on (B := T3.setTop (mkF m 12 #[vR a1, vI p2] [(.int p2), (.ref a3)])) (fun t k => XS.aloadN X0.here hx rfl (hb hby d18_0) rfl rfl (st1.trans (XS.ifNo X1.here hx rfl (hb hby d18_4) rfl ((if0 _ _).trans (feq hc4_2).1) (XS.aloadN X1.here hx rfl (hb hby d18_7) rfl rfl (st3 _ (XS.iloadN X3.here hx rfl (hb hby d18_11) rfl k)))))) ?_
  obtain ⟨_, _, ⟨T4, L4, k4, n4⟩, -, X4, ⟨Lc4, hQ4, lq4, yq4, zq4⟩, st4⟩ := Jvm.LawKit.callS X3 hx (y := MN2) hown (mg hZ hw 101 rfl) (mg hZ hw 102 rfl) (mg hZ hw 103 rfl) (mg hZ hw 104 rfl) (by decide) (backOf (W := 0) (rl1 l Z a0 hw [] a3 p2 k1 z1 vs x r G3 h0 n0 Z0 V3 hi hv hrr O0 S_fm rG3) hZ (gw hw 104 rfl) (gw hw 103 rfl) (by decide) (by decide)) (g := (mkF m 12 #[vR a1, vI p2] [(.int p2), (.ref a3)])) rfl (by rw [hml]; rfl) (argsL := [(.ref a3), (.int p2)]) (rest := []) (lenOf pd_4 rfl) rfl (own_w rfl) (hb hby d18_12) (fun _ _ => ⟨rfl, e3, (by decide : 0 + 0 ≤ _), (by decide : 0 + 0 ≤ _)⟩)
  dsimp only [Pt.U, Pt.locs, Pt.cells, Pt.slots] at X4 lq4 yq4 zq4 st4 hQ4
  subst lq4 yq4 zq4
  obtain ⟨rfl, N4q, e4q⟩ := hQ4
  have N4 := Fr.app N1 N4q
  refine Go.on (B := T4.setTop (mkF m 15 #[vR a1, vI p2] [(.int r)])) (fun t k => st4 _ k) ?_
  refine Go.fin X4 (v := some (.int (nar .char r))) (own_nv Bd.returns) Bd.notSynchronized ?_ e4q ⟨congrArg (fun z => some (Value.int z)) hnr, N4, rfl⟩ (by decide) (by decide)
  exact fun _ hr => retN X4 hx (t := .char) Bd.returns (by simp) (hb hby d18_15) hr

def Q_rchU (Z : State) (a1 : Addr) (p2 : Int32) (a3 : Addr) (k1 : ClassId) (z1 : Int32) (vs : List Value) (z2 x0 x1 r G1 : Int32) (G3 : Value) (h0 : Heap) (n0 : Nat) (v : Option Value) (h : Heap) (L : List Loc) : Prop := v = some (.int r) ∧ Fr n0 L ∧ h = h0
theorem rchU (l : Launch) (Z : State) (a0 : Array Value) (hw : ∀ d ∈ tables_1, d.before a0 Z = true) (ws : List Jvm.Cond) (a1 : Addr) (p2 : Int32) (a3 : Addr) (k1 : ClassId) (z1 : Int32) (vs : List Value) (z2 x0 x1 r G1 : Int32) (G3 : Value) (h0 : Heap) (n0 : Nat) (Z0 : n0 ≤ h0.size) (E1 : Exa Z h0 a1 "java/lang/String") (F_cd : Fld Z h0 a1 "java/lang/String" "coder" "B" (.int 1)) (F_vl : Fld Z h0 a1 "java/lang/String" "value" "[B" (.ref a3)) (V3 : Arv Z h0 a3 k1 .byte z1 vs (.int 0)) (hz2 : (z1 >>> ((1 : Int32) &&& 31)) = z2) (hi : ¬ p2 < (0 : Int32) ∧ p2 < z2) (h0i : ¬ (p2 <<< ((1 : Int32) &&& 31)) < 0 ∧ (p2 <<< ((1 : Int32) &&& 31)) < z1) (h0v : vs.getD ((p2 <<< ((1 : Int32) &&& 31))).toNatClampNeg (.int 0) = .int x0) (h1i : ¬ ((p2 <<< ((1 : Int32) &&& 31)) + (1 : Int32)) < 0 ∧ ((p2 <<< ((1 : Int32) &&& 31)) + (1 : Int32)) < z1) (h1v : vs.getD (((p2 <<< ((1 : Int32) &&& 31)) + (1 : Int32))).toNatClampNeg (.int 0) = .int x1) (hrr : (nar .char ((((x0 &&& (255 : Int32)) <<< ((0 : Int32) &&& 31)) ||| ((x1 &&& (255 : Int32)) <<< ((8 : Int32) &&& 31))).toUInt32.toUInt16.toUInt32.toInt32)) = r) (hnr : nar .char r = r) (O0 : Old Z n0 h0) (S_cs : own_S_cs Z G1) (S_fm : own_S_fm Z G3) (S_ad : own_S_ad Z) (S_hi : own_S_hi Z) (S_lo : own_S_lo Z) (P5 : ¬ (G1 = (0 : Int32))) (rG3 : G3.isRef = true) :
    MetFree l MN8 (head1 (Jvm.Cond.code MN8 jdk_42_method_56_code 2 (some .char) :: ws) (rK 4 0 0 62)) (fun a U => a = #[(.ref a1), (.int p2)] ∧ Z.Warmed39 U.vm ∧ U.heap = h0) (fun _ _ _ _ _ => True) (fun _ U o U' => ∃ v L, o = .returned v ∧ Q_rchU Z a1 p2 a3 k1 z1 vs z2 x0 x1 r G1 G3 h0 n0 v U'.heap L ∧ FrameEnd U o U' L (rK 4 0 0 62).cells (rK 4 0 0 62).slots) := by
  refine MetFree.of_bodySF (plainFor_of_name pn_5) hisR ?_
  intro p e s m args below meth c sB Bd hml0 hP hK
  obtain ⟨rfl, hZ, hh⟩ := hP
  have hx := Bd.exec
  have hby := Bd.bytes
  have hml : c.maxLocals = 2 := hml0
  have hown : s.vm.findClass "java/lang/String" = some m.cls := findClass_of_methodNamed Bd.named
  have X0 : Stand p l e (rK 4 0 0 62) s m #[(.ref a1), (.int p2)] below meth c sB [] 0 0 := Stand.of_body Bd
  have e0 : sB.heap = h0 := by rw [← hh, Bd.state]; rfl
  have N0 := Fr.nil n0
  change Go p.tables e below _ _
  refine Go.on (B := sB.setTop (mkF m 0 #[vR a1, vI p2] [])) (fun t k => castTop (ef_rl1 m a1 p2) k) ?_
  obtain ⟨cq1, kq1, q1a, q1b, q1c⟩ := isOf hZ e0 E1
  obtain ⟨_, _, ⟨T1, L1, k1, n1⟩, -, X1, ⟨Lc1, hQ1, lq1, yq1, zq1⟩, st1⟩ := X0.virtualBack hx (y := MN7) (z := MN7) hown (mg hZ hw 96 rfl) (mg hZ hw 97 rfl) (notFace_of_selects (args := #[]) (mg hZ hw 99 rfl)) (mg hZ hw 99 rfl) (mg hZ hw 98 rfl) (by decide) (backOf (W := 0) (ril1 l Z a0 hw [] a1 G1 h0 n0 Z0 F_cd O0 S_cs P5) hZ (gw hw 100 rfl) (gw hw 8 rfl) (by decide) (by decide)) q1a q1c (g := (mkF m 1 #[vR a1, vI p2] [(.ref a1)])) rfl (by rw [hml]; rfl) (Steps.refl _) (argsL := []) (rest := []) (lenOf pd_5 rfl) rfl (own_w rfl) (hb hby d18_1) (fun _ _ => ⟨rfl, e0, (by decide : 0 + 0 ≤ _), (by decide : 0 + 0 ≤ _)⟩)
  dsimp only [Pt.U, Pt.locs, Pt.cells, Pt.slots] at X1 lq1 yq1 zq1 st1 hQ1
  subst lq1 yq1 zq1
  obtain ⟨rfl, N1q, e1q⟩ := hQ1
  have N1 := Fr.app N0 N1q
  have hc4_2 : (0 : Int32) = (0 : Int32) := by decide
  obtain ⟨T3, X3, e3, st3⟩ := getF X1 hx hZ hown (host := "") (Or.inl (gw hw 25 rfl)) Via.refl e1q F_vl (g := (mkF m 17 #[vR a1, vI p2] [(.ref a1)])) rfl rfl (hb hby d18_17)
  refine Go.on (B := T3.setTop (mkF m 21 #[vR a1, vI p2] [(.int p2), (.ref a3)])) (fun t k => XS.aloadN X0.here hx rfl (hb hby d18_0) rfl rfl (st1.trans (XS.ifYes X1.here hx rfl (pc0 := 4) (pc' := 16) rfl (hb hby d18_4) rfl ((if0 _ _).trans (teq hc4_2).1) (by decide) (by decide) (XS.aloadN X1.here hx rfl (hb hby d18_16) rfl rfl (st3 _ (XS.iloadN X3.here hx rfl (hb hby d18_20) rfl k)))))) ?_
  obtain ⟨_, _, ⟨T4, L4, k4, n4⟩, -, X4, ⟨Lc4, hQ4, lq4, yq4, zq4⟩, st4⟩ := Jvm.LawKit.callS X3 hx (y := MN6) hown (mg hZ hw 138 rfl) (mg hZ hw 139 rfl) (mg hZ hw 83 rfl) (mg hZ hw 140 rfl) (by decide) (backOf (W := 0) (rua l Z a0 hw [] a3 p2 k1 z1 vs z2 x0 x1 r G3 h0 n0 Z0 V3 hz2 hi h0i h0v h1i h1v hrr O0 S_fm S_ad S_hi S_lo rG3) hZ (gw hw 140 rfl) (gw hw 83 rfl) (by decide) (by decide)) (g := (mkF m 21 #[vR a1, vI p2] [(.int p2), (.ref a3)])) rfl (by rw [hml]; rfl) (argsL := [(.ref a3), (.int p2)]) (rest := []) (lenOf pd_4 rfl) rfl (own_w rfl) (hb hby d18_21) (fun _ _ => ⟨rfl, e3, (by decide : 0 + 0 ≤ _), (by decide : 0 + 0 ≤ _)⟩)
  dsimp only [Pt.U, Pt.locs, Pt.cells, Pt.slots] at X4 lq4 yq4 zq4 st4 hQ4
  subst lq4 yq4 zq4
  obtain ⟨rfl, N4q, e4q⟩ := hQ4
  have N4 := Fr.app N1 N4q
  refine Go.on (B := T4.setTop (mkF m 24 #[vR a1, vI p2] [(.int (nar .char r))])) (fun t k => st4 _ k) ?_
  refine Go.fin X4 (v := some (.int (nar .char (nar .char r)))) (own_nv Bd.returns) Bd.notSynchronized ?_ e4q ⟨(by rw [hnr, hnr]), N4, rfl⟩ (by decide) (by decide)
  exact fun _ hr => retN X4 hx (t := .char) Bd.returns (by simp) (hb hby d18_24) hr

theorem d10_0 : decode BC7 0 = .ok (.getstatic 38, 3) := by decide +kernel
theorem d10_3 : decode BC7 3 = .ok (.ifCond .eq 10, 3) := by decide +kernel
theorem d10_6 : decode BC7 6 = .ok (.aload_n 0, 1) := by decide +kernel
theorem d10_7 : decode BC7 7 = .ok (.getfield 15, 3) := by decide +kernel
theorem d10_10 : decode BC7 10 = .ok (.goto 4, 3) := by decide +kernel
theorem d10_14 : decode BC7 14 = .ok (.ireturn, 1) := by decide +kernel
def Q_rco0 (Z : State) (a1 : Addr) (G1 : Int32) (h0 : Heap) (n0 : Nat) (v : Option Value) (h : Heap) (L : List Loc) : Prop := v = some (.int 0) ∧ Fr n0 L ∧ h = h0
theorem rco0 (l : Launch) (Z : State) (a0 : Array Value) (hw : ∀ d ∈ tables_1, d.before a0 Z = true) (ws : List Jvm.Cond) (a1 : Addr) (G1 : Int32) (h0 : Heap) (n0 : Nat) (Z0 : n0 ≤ h0.size) (F_cd : Fld Z h0 a1 "java/lang/String" "coder" "B" (.int 0)) (O0 : Old Z n0 h0) (S_cs : own_S_cs Z G1) (P5 : ¬ (G1 = (0 : Int32))) :
    MetFree l MN9 (head1 (Jvm.Cond.code MN9 jdk_42_method_152_code 1 (some .byte) :: ws) (rK 0 0 0 0)) (fun a U => a = #[(.ref a1)] ∧ Z.Warmed39 U.vm ∧ U.heap = h0) (fun _ _ _ _ _ => True) (fun _ U o U' => ∃ v L, o = .returned v ∧ Q_rco0 Z a1 G1 h0 n0 v U'.heap L ∧ FrameEnd U o U' L (rK 0 0 0 0).cells (rK 0 0 0 0).slots) := by
  refine MetFree.of_bodySF (plainFor_of_name pn_5) hisR ?_
  intro p e s m args below meth c sB Bd hml0 hP hK
  obtain ⟨rfl, hZ, hh⟩ := hP
  have hx := Bd.exec
  have hby := Bd.bytes
  have hown : s.vm.findClass "java/lang/String" = some m.cls := findClass_of_methodNamed Bd.named
  have X0 : Stand p l e (rK 0 0 0 0) s m #[(.ref a1)] below meth c sB [] 0 0 := Stand.of_body Bd
  have e0 : sB.heap = h0 := by rw [← hh, Bd.state]; rfl
  have N0 := Fr.nil n0
  change Go p.tables e below _ _
  refine Go.on (B := sB.setTop (mkF m 0 #[vR a1] [])) (fun t k => castTop (ef_rul m a1) k) ?_
  obtain ⟨T1, X1, e1, st1⟩ := getS2 X0 hx hZ hown (host := "") (Or.inl (gw hw 63 rfl)) Via.refl e0 (S_cs.ext O0.2) (g := (mkF m 0 #[vR a1] [])) rfl (hb hby d10_0)
  have hc3_2 : ¬ (G1 = (0 : Int32)) := P5
  obtain ⟨T3, X3, e3, st3⟩ := getF X1 hx hZ hown (host := "") (Or.inl (gw hw 26 rfl)) Via.refl e1 F_cd (g := (mkF m 7 #[vR a1] [(.ref a1)])) rfl rfl (hb hby d10_7)
  refine Go.on (B := T3.setTop (mkF m 14 #[vR a1] [(.int 0)])) (fun t k => st1 _ (XS.ifNo X1.here hx rfl (hb hby d10_3) rfl ((if0 _ _).trans (feq hc3_2).1) (XS.aloadN X1.here hx rfl (hb hby d10_6) rfl rfl (st3 _ (XS.goto X3.here hx rfl (pc0 := 10) (pc' := 14) rfl (hb hby d10_10) (by decide) (by decide) k))))) ?_
  refine Go.fin X3 (v := some (.int 0)) (own_nv Bd.returns) Bd.notSynchronized ?_ e3 ⟨rfl, N0, rfl⟩ (by decide) (by decide)
  exact fun _ hr => retN X3 hx (t := .byte) Bd.returns (by simp) (hb hby d10_14) hr
def Q_rco1 (Z : State) (a1 : Addr) (G1 : Int32) (h0 : Heap) (n0 : Nat) (v : Option Value) (h : Heap) (L : List Loc) : Prop := v = some (.int 1) ∧ Fr n0 L ∧ h = h0
theorem rco1 (l : Launch) (Z : State) (a0 : Array Value) (hw : ∀ d ∈ tables_1, d.before a0 Z = true) (ws : List Jvm.Cond) (a1 : Addr) (G1 : Int32) (h0 : Heap) (n0 : Nat) (Z0 : n0 ≤ h0.size) (F_cd : Fld Z h0 a1 "java/lang/String" "coder" "B" (.int 1)) (O0 : Old Z n0 h0) (S_cs : own_S_cs Z G1) (P5 : ¬ (G1 = (0 : Int32))) :
    MetFree l MN9 (head1 (Jvm.Cond.code MN9 jdk_42_method_152_code 1 (some .byte) :: ws) (rK 0 0 0 0)) (fun a U => a = #[(.ref a1)] ∧ Z.Warmed39 U.vm ∧ U.heap = h0) (fun _ _ _ _ _ => True) (fun _ U o U' => ∃ v L, o = .returned v ∧ Q_rco1 Z a1 G1 h0 n0 v U'.heap L ∧ FrameEnd U o U' L (rK 0 0 0 0).cells (rK 0 0 0 0).slots) := by
  refine MetFree.of_bodySF (plainFor_of_name pn_5) hisR ?_
  intro p e s m args below meth c sB Bd hml0 hP hK
  obtain ⟨rfl, hZ, hh⟩ := hP
  have hx := Bd.exec
  have hby := Bd.bytes
  have hown : s.vm.findClass "java/lang/String" = some m.cls := findClass_of_methodNamed Bd.named
  have X0 : Stand p l e (rK 0 0 0 0) s m #[(.ref a1)] below meth c sB [] 0 0 := Stand.of_body Bd
  have e0 : sB.heap = h0 := by rw [← hh, Bd.state]; rfl
  have N0 := Fr.nil n0
  change Go p.tables e below _ _
  refine Go.on (B := sB.setTop (mkF m 0 #[vR a1] [])) (fun t k => castTop (ef_rul m a1) k) ?_
  obtain ⟨T1, X1, e1, st1⟩ := getS2 X0 hx hZ hown (host := "") (Or.inl (gw hw 63 rfl)) Via.refl e0 (S_cs.ext O0.2) (g := (mkF m 0 #[vR a1] [])) rfl (hb hby d10_0)
  have hc3_2 : ¬ (G1 = (0 : Int32)) := P5
  obtain ⟨T3, X3, e3, st3⟩ := getF X1 hx hZ hown (host := "") (Or.inl (gw hw 26 rfl)) Via.refl e1 F_cd (g := (mkF m 7 #[vR a1] [(.ref a1)])) rfl rfl (hb hby d10_7)
  refine Go.on (B := T3.setTop (mkF m 14 #[vR a1] [(.int 1)])) (fun t k => st1 _ (XS.ifNo X1.here hx rfl (hb hby d10_3) rfl ((if0 _ _).trans (feq hc3_2).1) (XS.aloadN X1.here hx rfl (hb hby d10_6) rfl rfl (st3 _ (XS.goto X3.here hx rfl (pc0 := 10) (pc' := 14) rfl (hb hby d10_10) (by decide) (by decide) k))))) ?_
  refine Go.fin X3 (v := some (.int 1)) (own_nv Bd.returns) Bd.notSynchronized ?_ e3 ⟨rfl, N0, rfl⟩ (by decide) (by decide)
  exact fun _ hr => retN X3 hx (t := .byte) Bd.returns (by simp) (hb hby d10_14) hr
theorem d9_0 : decode BC13 0 = .ok (.aload_n 0, 1) := by decide +kernel
theorem d9_1 : decode BC13 1 = .ok (.getfield 9, 3) := by decide +kernel
theorem d9_4 : decode BC13 4 = .ok (.arraylength, 1) := by decide +kernel
theorem d9_5 : decode BC13 5 = .ok (.aload_n 0, 1) := by decide +kernel
theorem d9_6 : decode BC13 6 = .ok (.invokevirtual 335, 3) := by decide +kernel
theorem d9_9 : decode BC13 9 = .ok (.ishr, 1) := by decide +kernel
theorem d9_10 : decode BC13 10 = .ok (.ireturn, 1) := by decide +kernel
theorem pd_6 : parseMethodDescriptor "()B" = some ⟨[], some .byte⟩ := by decide +kernel
def Q_rlen (Z : State) (a1 : Addr) (a4 : Addr) (k4 : ClassId) (cs : List Int32) (r G1 : Int32) (h0 : Heap) (n0 : Nat) (v : Option Value) (h : Heap) (L : List Loc) : Prop := v = some (.int r) ∧ Fr n0 L ∧ h = h0
theorem rlen (l : Launch) (Z : State) (a0 : Array Value) (hw : ∀ d ∈ tables_1, d.before a0 Z = true) (ws : List Jvm.Cond) (a1 : Addr) (a4 : Addr) (k4 : ClassId) (cs : List Int32) (r G1 : Int32) (h0 : Heap) (n0 : Nat) (Z0 : n0 ≤ h0.size) (E1 : Exa Z h0 a1 "java/lang/String") (F_vl : Fld Z h0 a1 "java/lang/String" "value" "[B" (.ref a4)) (A0 : own_A Z h0 a1 a4 k4 cs) (hrL : ((Int32.ofNat cs.length) >>> ((0 : Int32) &&& 31)) = r) (hrU : ((Int32.ofNat (2 * cs.length)) >>> ((1 : Int32) &&& 31)) = r) (O0 : Old Z n0 h0) (S_cs : own_S_cs Z G1) (P5 : ¬ (G1 = (0 : Int32))) :
    MetFree l MN10 (head1 (Jvm.Cond.code MN10 jdk_42_method_54_code 1 (some .int) :: ws) (rK 1 0 0 13)) (fun a U => a = #[(.ref a1)] ∧ Z.Warmed39 U.vm ∧ U.heap = h0) (fun _ _ _ _ _ => True) (fun _ U o U' => ∃ v L, o = .returned v ∧ Q_rlen Z a1 a4 k4 cs r G1 h0 n0 v U'.heap L ∧ FrameEnd U o U' L (rK 1 0 0 13).cells (rK 1 0 0 13).slots) := by
  refine MetFree.of_bodySF (plainFor_of_name pn_5) hisR ?_
  intro p e s m args below meth c sB Bd hml0 hP hK
  obtain ⟨rfl, hZ, hh⟩ := hP
  have hx := Bd.exec
  have hby := Bd.bytes
  have hml : c.maxLocals = 1 := hml0
  have hown : s.vm.findClass "java/lang/String" = some m.cls := findClass_of_methodNamed Bd.named
  have X0 : Stand p l e (rK 1 0 0 13) s m #[(.ref a1)] below meth c sB [] 0 0 := Stand.of_body Bd
  have e0 : sB.heap = h0 := by rw [← hh, Bd.state]; rfl
  have N0 := Fr.nil n0
  change Go p.tables e below _ _
  refine Go.on (B := sB.setTop (mkF m 0 #[vR a1] [])) (fun t k => castTop (ef_rul m a1) k) ?_
  rcases A0 with ⟨F_cd, V4, hl⟩ | ⟨F_cd, V4⟩
  · obtain ⟨T1, X1, e1, st1⟩ := getF X0 hx hZ hown (host := "") (Or.inl (gw hw 25 rfl)) Via.refl e0 F_vl (g := (mkF m 1 #[vR a1] [(.ref a1)])) rfl rfl (hb hby d9_1)
    obtain ⟨cl2, Ar2, -, Sz2, Ng2, -, -⟩ := id V4
    obtain ⟨cq3, kq3, q3a, q3b, q3c⟩ := isOf hZ e1 E1
    obtain ⟨_, _, ⟨T3, L3, k3, n3⟩, -, X3, ⟨Lc3, hQ3, lq3, yq3, zq3⟩, st3⟩ := X1.virtualBack hx (y := MN9) (z := MN9) hown (mg hZ hw 58 rfl) (mg hZ hw 59 rfl) (notFace_of_selects (args := #[]) (mg hZ hw 61 rfl)) (mg hZ hw 61 rfl) (mg hZ hw 60 rfl) (by decide) (backOf (W := 1) (rco0 l Z a0 hw [] a1 G1 h0 n0 Z0 F_cd O0 S_cs P5) hZ (gw hw 62 rfl) (gw hw 8 rfl) (by decide) (by decide)) q3a q3c (g := (mkF m 6 #[vR a1] [(.ref a1), (.int (Int32.ofNat cs.length))])) rfl (by rw [hml]; rfl) (Steps.refl _) (argsL := []) (rest := [(.int (Int32.ofNat cs.length))]) (lenOf pd_6 rfl) rfl (own_w rfl) (hb hby d9_6) (fun _ _ => ⟨rfl, e1, (by decide : 0 + 0 ≤ _), (by decide : 0 + 0 ≤ _)⟩)
    dsimp only [Pt.U, Pt.locs, Pt.cells, Pt.slots] at X3 lq3 yq3 zq3 st3 hQ3
    subst lq3 yq3 zq3
    obtain ⟨rfl, N3q, e3q⟩ := hQ3
    have N3 := Fr.app N0 N3q
    refine Go.on (B := T3.setTop (mkF m 10 #[vR a1] [(.int ((Int32.ofNat cs.length) >>> ((0 : Int32) &&& 31)))])) (fun t k => XS.aloadN X0.here hx rfl (hb hby d9_0) rfl rfl (st1 _ (X1.arraylength hx (by rw [e1]; exact Ar2.1) (State.isArrayOf_alike hZ.alike Ar2.2.1) (g := (mkF m 4 #[vR a1] [(.ref a4)])) rfl rfl (hb hby d9_4) _ (by rw [len_of Sz2 Ng2]; exact (XS.aloadN X1.here hx rfl (hb hby d9_5) rfl rfl (st3.trans (XS.ishr X3.here hx rfl (hb hby d9_9) rfl k))))))) ?_
    refine Go.fin X3 (v := some (.int ((Int32.ofNat cs.length) >>> ((0 : Int32) &&& 31)))) (own_nv Bd.returns) Bd.notSynchronized ?_ e3q ⟨congrArg (fun z => some (Value.int z)) hrL, N3, rfl⟩ (by decide) (by decide)
    exact fun _ hr => retI X3 hx Bd.returns (hb hby d9_10) hr
  · obtain ⟨T4, X4, e4, st4⟩ := getF X0 hx hZ hown (host := "") (Or.inl (gw hw 25 rfl)) Via.refl e0 F_vl (g := (mkF m 1 #[vR a1] [(.ref a1)])) rfl rfl (hb hby d9_1)
    obtain ⟨cl5, Ar5, -, Sz5, Ng5, -, -⟩ := id V4
    obtain ⟨cq6, kq6, q6a, q6b, q6c⟩ := isOf hZ e4 E1
    obtain ⟨_, _, ⟨T6, L6, k6, n6⟩, -, X6, ⟨Lc6, hQ6, lq6, yq6, zq6⟩, st6⟩ := X4.virtualBack hx (y := MN9) (z := MN9) hown (mg hZ hw 58 rfl) (mg hZ hw 59 rfl) (notFace_of_selects (args := #[]) (mg hZ hw 61 rfl)) (mg hZ hw 61 rfl) (mg hZ hw 60 rfl) (by decide) (backOf (W := 1) (rco1 l Z a0 hw [] a1 G1 h0 n0 Z0 F_cd O0 S_cs P5) hZ (gw hw 62 rfl) (gw hw 8 rfl) (by decide) (by decide)) q6a q6c (g := (mkF m 6 #[vR a1] [(.ref a1), (.int (Int32.ofNat (2 * cs.length)))])) rfl (by rw [hml]; rfl) (Steps.refl _) (argsL := []) (rest := [(.int (Int32.ofNat (2 * cs.length)))]) (lenOf pd_6 rfl) rfl (own_w rfl) (hb hby d9_6) (fun _ _ => ⟨rfl, e4, (by decide : 0 + 0 ≤ _), (by decide : 0 + 0 ≤ _)⟩)
    dsimp only [Pt.U, Pt.locs, Pt.cells, Pt.slots] at X6 lq6 yq6 zq6 st6 hQ6
    subst lq6 yq6 zq6
    obtain ⟨rfl, N6q, e6q⟩ := hQ6
    have N6 := Fr.app N0 N6q
    refine Go.on (B := T6.setTop (mkF m 10 #[vR a1] [(.int ((Int32.ofNat (2 * cs.length)) >>> ((1 : Int32) &&& 31)))])) (fun t k => XS.aloadN X0.here hx rfl (hb hby d9_0) rfl rfl (st4 _ (X4.arraylength hx (by rw [e4]; exact Ar5.1) (State.isArrayOf_alike hZ.alike Ar5.2.1) (g := (mkF m 4 #[vR a1] [(.ref a4)])) rfl rfl (hb hby d9_4) _ (by rw [len_of Sz5 Ng5]; exact (XS.aloadN X4.here hx rfl (hb hby d9_5) rfl rfl (st6.trans (XS.ishr X6.here hx rfl (hb hby d9_9) rfl k))))))) ?_
    refine Go.fin X6 (v := some (.int ((Int32.ofNat (2 * cs.length)) >>> ((1 : Int32) &&& 31)))) (own_nv Bd.returns) Bd.notSynchronized ?_ e6q ⟨congrArg (fun z => some (Value.int z)) hrU, N6, rfl⟩ (by decide) (by decide)
    exact fun _ hr => retI X6 hx Bd.returns (hb hby d9_10) hr
theorem d13_0 : decode BC3 0 = .ok (.iload_n 0, 1) := by decide +kernel
theorem d13_1 : decode BC3 1 = .ok (.ifCond .lt 13, 3) := by decide +kernel
theorem d13_4 : decode BC3 4 = .ok (.iload_n 0, 1) := by decide +kernel
theorem d13_5 : decode BC3 5 = .ok (.iload_n 1, 1) := by decide +kernel
theorem d13_6 : decode BC3 6 = .ok (.if_icmp .gt 8, 3) := by decide +kernel
theorem d13_9 : decode BC3 9 = .ok (.iload_n 1, 1) := by decide +kernel
theorem d13_10 : decode BC3 10 = .ok (.iload_n 2, 1) := by decide +kernel
theorem d13_11 : decode BC3 11 = .ok (.if_icmp .le 11, 3) := by decide +kernel
theorem d13_22 : decode BC3 22 = .ok (.iload_n 0, 1) := by decide +kernel
theorem d13_23 : decode BC3 23 = .ok (.ireturn, 1) := by decide +kernel
theorem ef_rft0 (m : MethodId) (p1 : Int32) (p2 : Int32) (p3 : Int32) : entryFrame m #[(.int p1), (.int p2), (.int p3), .null] 4 = mkF m 0 #[vI p1, vI p2, vI p3, .val .null] [] := rfl
def Q_rft0 (Z : State) (p1 : Int32) (p2 : Int32) (p3 : Int32) (h0 : Heap) (n0 : Nat) (v : Option Value) (h : Heap) (L : List Loc) : Prop := v = some (.int p1) ∧ Fr n0 L ∧ h = h0
theorem rft0 (l : Launch) (Z : State) (a0 : Array Value) (hw : ∀ d ∈ tables_1, d.before a0 Z = true) (ws : List Jvm.Cond) (p1 : Int32) (p2 : Int32) (p3 : Int32) (h0 : Heap) (n0 : Nat) (Z0 : n0 ≤ h0.size) (hi : ¬ p1 < (0 : Int32) ∧ ¬ p2 < p1 ∧ ¬ p3 < p2) :
    MetFree l MN11 (head1 (Jvm.Cond.code MN11 jdk_41_method_12_code 4 (some .int) :: ws) (rK 0 0 0 0)) (fun a U => a = #[(.int p1), (.int p2), (.int p3), .null] ∧ Z.Warmed39 U.vm ∧ U.heap = h0) (fun _ _ _ _ _ => True) (fun _ U o U' => ∃ v L, o = .returned v ∧ Q_rft0 Z p1 p2 p3 h0 n0 v U'.heap L ∧ FrameEnd U o U' L (rK 0 0 0 0).cells (rK 0 0 0 0).slots) := by
  refine MetFree.of_bodySF (plainFor_of_name pn_2) hisR ?_
  intro p e s m args below meth c sB Bd hml0 hP hK
  obtain ⟨rfl, hZ, hh⟩ := hP
  have hx := Bd.exec
  have hby := Bd.bytes
  have X0 : Stand p l e (rK 0 0 0 0) s m #[(.int p1), (.int p2), (.int p3), .null] below meth c sB [] 0 0 := Stand.of_body Bd
  have e0 : sB.heap = h0 := by rw [← hh, Bd.state]; rfl
  have N0 := Fr.nil n0
  change Go p.tables e below _ _
  refine Go.on (B := sB.setTop (mkF m 0 #[vI p1, vI p2, vI p3, .val .null] [])) (fun t k => castTop (ef_rft0 m p1 p2 p3) k) ?_
  have hc1_1 : ¬ (p1 < (0 : Int32)) := hi.1
  have hc6_2 : ¬ (p2 < p1) := hi.2.1
  refine Go.on (B := sB.setTop (mkF m 10 #[vI p1, vI p2, vI p3, .val .null] [(.int p2)])) (fun t k => XS.iloadN X0.here hx rfl (hb hby d13_0) rfl (XS.ifNo X0.here hx rfl (hb hby d13_1) rfl ((if0 _ _).trans (flt hc1_1).1) (XS.iloadN X0.here hx rfl (hb hby d13_4) rfl (XS.iloadN X0.here hx rfl (hb hby d13_5) rfl (XS.icmpNo X0.here hx rfl (hb hby d13_6) rfl (flt hc6_2).2.2.1 (XS.iloadN X0.here hx rfl (hb hby d13_9) rfl k)))))) ?_
  have hc11_3 : ¬ (p3 < p2) := hi.2.2
  refine Go.on (B := sB.setTop (mkF m 23 #[vI p1, vI p2, vI p3, .val .null] [(.int p1)])) (fun t k => XS.iloadN X0.here hx rfl (hb hby d13_10) rfl (XS.icmpYes X0.here hx rfl (pc0 := 11) (pc' := 22) rfl (hb hby d13_11) rfl (flt hc11_3).2.2.2 (by decide) (by decide) (XS.iloadN X0.here hx rfl (hb hby d13_22) rfl k))) ?_
  refine Go.fin X0 (v := some (.int p1)) (own_nv Bd.returns) Bd.notSynchronized ?_ e0 ⟨rfl, N0, rfl⟩ (by decide) (by decide)
  exact fun _ hr => retI X0 hx Bd.returns (hb hby d13_23) hr
theorem ef_rft1 (m : MethodId) (p1 : Int32) (p2 : Int32) (p3 : Int32) (a4 : Addr) : entryFrame m #[(.int p1), (.int p2), (.int p3), (.ref a4)] 4 = mkF m 0 #[vI p1, vI p2, vI p3, vR a4] [] := rfl
def Q_rft1 (Z : State) (p1 : Int32) (p2 : Int32) (p3 : Int32) (a4 : Addr) (h0 : Heap) (n0 : Nat) (v : Option Value) (h : Heap) (L : List Loc) : Prop := v = some (.int p1) ∧ Fr n0 L ∧ h = h0
theorem rft1 (l : Launch) (Z : State) (a0 : Array Value) (hw : ∀ d ∈ tables_1, d.before a0 Z = true) (ws : List Jvm.Cond) (p1 : Int32) (p2 : Int32) (p3 : Int32) (a4 : Addr) (h0 : Heap) (n0 : Nat) (Z0 : n0 ≤ h0.size) (hi : ¬ p1 < (0 : Int32) ∧ ¬ p2 < p1 ∧ ¬ p3 < p2) :
    MetFree l MN11 (head1 (Jvm.Cond.code MN11 jdk_41_method_12_code 4 (some .int) :: ws) (rK 0 0 0 0)) (fun a U => a = #[(.int p1), (.int p2), (.int p3), (.ref a4)] ∧ Z.Warmed39 U.vm ∧ U.heap = h0) (fun _ _ _ _ _ => True) (fun _ U o U' => ∃ v L, o = .returned v ∧ Q_rft1 Z p1 p2 p3 a4 h0 n0 v U'.heap L ∧ FrameEnd U o U' L (rK 0 0 0 0).cells (rK 0 0 0 0).slots) := by
  refine MetFree.of_bodySF (plainFor_of_name pn_2) hisR ?_
  intro p e s m args below meth c sB Bd hml0 hP hK
  obtain ⟨rfl, hZ, hh⟩ := hP
  have hx := Bd.exec
  have hby := Bd.bytes
  have X0 : Stand p l e (rK 0 0 0 0) s m #[(.int p1), (.int p2), (.int p3), (.ref a4)] below meth c sB [] 0 0 := Stand.of_body Bd
  have e0 : sB.heap = h0 := by rw [← hh, Bd.state]; rfl
  have N0 := Fr.nil n0
  change Go p.tables e below _ _
  refine Go.on (B := sB.setTop (mkF m 0 #[vI p1, vI p2, vI p3, vR a4] [])) (fun t k => castTop (ef_rft1 m p1 p2 p3 a4) k) ?_
  have hc1_1 : ¬ (p1 < (0 : Int32)) := hi.1
  have hc6_2 : ¬ (p2 < p1) := hi.2.1
  refine Go.on (B := sB.setTop (mkF m 10 #[vI p1, vI p2, vI p3, vR a4] [(.int p2)])) (fun t k => XS.iloadN X0.here hx rfl (hb hby d13_0) rfl (XS.ifNo X0.here hx rfl (hb hby d13_1) rfl ((if0 _ _).trans (flt hc1_1).1) (XS.iloadN X0.here hx rfl (hb hby d13_4) rfl (XS.iloadN X0.here hx rfl (hb hby d13_5) rfl (XS.icmpNo X0.here hx rfl (hb hby d13_6) rfl (flt hc6_2).2.2.1 (XS.iloadN X0.here hx rfl (hb hby d13_9) rfl k)))))) ?_
  have hc11_3 : ¬ (p3 < p2) := hi.2.2
  refine Go.on (B := sB.setTop (mkF m 23 #[vI p1, vI p2, vI p3, vR a4] [(.int p1)])) (fun t k => XS.iloadN X0.here hx rfl (hb hby d13_10) rfl (XS.icmpYes X0.here hx rfl (pc0 := 11) (pc' := 22) rfl (hb hby d13_11) rfl (flt hc11_3).2.2.2 (by decide) (by decide) (XS.iloadN X0.here hx rfl (hb hby d13_22) rfl k))) ?_
  refine Go.fin X0 (v := some (.int p1)) (own_nv Bd.returns) Bd.notSynchronized ?_ e0 ⟨rfl, N0, rfl⟩ (by decide) (by decide)
  exact fun _ hr => retI X0 hx Bd.returns (hb hby d13_23) hr
theorem d12_0 : decode BC11 0 = .ok (.iload_n 0, 1) := by decide +kernel
theorem d12_1 : decode BC11 1 = .ok (.iload_n 1, 1) := by decide +kernel
theorem d12_2 : decode BC11 2 = .ok (.iload_n 2, 1) := by decide +kernel
theorem d12_3 : decode BC11 3 = .ok (.getstatic 1053, 3) := by decide +kernel
theorem d12_6 : decode BC11 6 = .ok (.invokestatic 1062, 3) := by decide +kernel
theorem d12_9 : decode BC11 9 = .ok (.pop, 1) := by decide +kernel
theorem d12_10 : decode BC11 10 = .ok (.return_, 1) := by decide +kernel
theorem pd_7 : parseMethodDescriptor "(IIILjava/util/function/BiFunction;)I" = some ⟨[.int, .int, .int, (.object "java/util/function/BiFunction")], some .int⟩ := by decide +kernel
theorem ef_rbb (m : MethodId) (p1 : Int32) (p2 : Int32) (p3 : Int32) : entryFrame m #[(.int p1), (.int p2), (.int p3)] 3 = mkF m 0 #[vI p1, vI p2, vI p3] [] := rfl
def Q_rbb (Z : State) (p1 : Int32) (p2 : Int32) (p3 : Int32) (G3 : Value) (h0 : Heap) (n0 : Nat) (v : Option Value) (h : Heap) (L : List Loc) : Prop := v = none ∧ Fr n0 L ∧ h = h0
theorem rbb (l : Launch) (Z : State) (a0 : Array Value) (hw : ∀ d ∈ tables_1, d.before a0 Z = true) (ws : List Jvm.Cond) (p1 : Int32) (p2 : Int32) (p3 : Int32) (G3 : Value) (h0 : Heap) (n0 : Nat) (Z0 : n0 ≤ h0.size) (hi : ¬ p1 < (0 : Int32) ∧ ¬ p2 < p1 ∧ ¬ p3 < p2) (O0 : Old Z n0 h0) (S_fm : own_S_fm Z G3) (rG3 : G3.isRef = true) :
    MetFree l MN12 (head1 (Jvm.Cond.code MN12 jdk_42_method_158_code 3 none :: ws) (rK 1 0 0 15)) (fun a U => a = #[(.int p1), (.int p2), (.int p3)] ∧ Z.Warmed39 U.vm ∧ U.heap = h0) (fun _ _ _ _ _ => True) (fun _ U o U' => ∃ v L, o = .returned v ∧ Q_rbb Z p1 p2 p3 G3 h0 n0 v U'.heap L ∧ FrameEnd U o U' L (rK 1 0 0 15).cells (rK 1 0 0 15).slots) := by
  refine MetFree.of_bodySF (plainFor_of_name pn_5) hisR ?_
  intro p e s m args below meth c sB Bd hml0 hP hK
  obtain ⟨rfl, hZ, hh⟩ := hP
  have hx := Bd.exec
  have hby := Bd.bytes
  have hml : c.maxLocals = 3 := hml0
  have hown : s.vm.findClass "java/lang/String" = some m.cls := findClass_of_methodNamed Bd.named
  have X0 : Stand p l e (rK 1 0 0 15) s m #[(.int p1), (.int p2), (.int p3)] below meth c sB [] 0 0 := Stand.of_body Bd
  have e0 : sB.heap = h0 := by rw [← hh, Bd.state]; rfl
  have N0 := Fr.nil n0
  change Go p.tables e below _ _
  refine Go.on (B := sB.setTop (mkF m 0 #[vI p1, vI p2, vI p3] [])) (fun t k => castTop (ef_rbb m p1 p2 p3) k) ?_
  rcases ref_cases rG3 with rfl | ⟨g3, rfl⟩
  · obtain ⟨T1, X1, e1, st1⟩ := getS2 X0 hx hZ hown (host := "") (Or.inl (gw hw 72 rfl)) Via.refl e0 (S_fm.ext O0.2) (g := (mkF m 3 #[vI p1, vI p2, vI p3] [(.int p3), (.int p2), (.int p1)])) rfl (hb hby d12_3)
    obtain ⟨_, _, ⟨T2, L2, k2, n2⟩, -, X2, ⟨Lc2, hQ2, lq2, yq2, zq2⟩, st2⟩ := Jvm.LawKit.callS X1 hx (y := MN11) hown (mg hZ hw 74 rfl) (mg hZ hw 75 rfl) (mg hZ hw 73 rfl) (mg hZ hw 76 rfl) (by decide) (backOf (W := 0) (rft0 l Z a0 hw [] p1 p2 p3 h0 n0 Z0 hi) hZ (gw hw 76 rfl) (gw hw 73 rfl) (by decide) (by decide)) (g := (mkF m 6 #[vI p1, vI p2, vI p3] [.null, (.int p3), (.int p2), (.int p1)])) rfl (by rw [hml]; rfl) (argsL := [(.int p1), (.int p2), (.int p3), .null]) (rest := []) (lenOf pd_7 rfl) rfl (own_w rfl) (hb hby d12_6) (fun _ _ => ⟨rfl, e1, (by decide : 0 + 0 ≤ _), (by decide : 0 + 0 ≤ _)⟩)
    dsimp only [Pt.U, Pt.locs, Pt.cells, Pt.slots] at X2 lq2 yq2 zq2 st2 hQ2
    subst lq2 yq2 zq2
    obtain ⟨rfl, N2q, e2q⟩ := hQ2
    have N2 := Fr.app N0 N2q
    refine Go.on (B := T2.setTop (mkF m 10 #[vI p1, vI p2, vI p3] [])) (fun t k => XS.iloadN X0.here hx rfl (hb hby d12_0) rfl (XS.iloadN X0.here hx rfl (hb hby d12_1) rfl (XS.iloadN X0.here hx rfl (hb hby d12_2) rfl (st1 _ (st2 _ (XS.pop X2.here hx rfl (hb hby d12_9) rfl rfl k)))))) ?_
    refine Go.fin X2 (v := none) (fun _ => rfl) Bd.notSynchronized ?_ e2q ⟨rfl, N2, rfl⟩ (by decide) (by decide)
    exact fun _ hr => X2.returnOut hx Bd.returns (hb hby d12_10) hr
  · obtain ⟨T3, X3, e3, st3⟩ := getS2 X0 hx hZ hown (host := "") (Or.inl (gw hw 72 rfl)) Via.refl e0 (S_fm.ext O0.2) (g := (mkF m 3 #[vI p1, vI p2, vI p3] [(.int p3), (.int p2), (.int p1)])) rfl (hb hby d12_3)
    obtain ⟨_, _, ⟨T4, L4, k4, n4⟩, -, X4, ⟨Lc4, hQ4, lq4, yq4, zq4⟩, st4⟩ := Jvm.LawKit.callS X3 hx (y := MN11) hown (mg hZ hw 74 rfl) (mg hZ hw 75 rfl) (mg hZ hw 73 rfl) (mg hZ hw 76 rfl) (by decide) (backOf (W := 0) (rft1 l Z a0 hw [] p1 p2 p3 g3 h0 n0 Z0 hi) hZ (gw hw 76 rfl) (gw hw 73 rfl) (by decide) (by decide)) (g := (mkF m 6 #[vI p1, vI p2, vI p3] [(.ref g3), (.int p3), (.int p2), (.int p1)])) rfl (by rw [hml]; rfl) (argsL := [(.int p1), (.int p2), (.int p3), (.ref g3)]) (rest := []) (lenOf pd_7 rfl) rfl (own_w rfl) (hb hby d12_6) (fun _ _ => ⟨rfl, e3, (by decide : 0 + 0 ≤ _), (by decide : 0 + 0 ≤ _)⟩)
    dsimp only [Pt.U, Pt.locs, Pt.cells, Pt.slots] at X4 lq4 yq4 zq4 st4 hQ4
    subst lq4 yq4 zq4
    obtain ⟨rfl, N4q, e4q⟩ := hQ4
    have N4 := Fr.app N0 N4q
    refine Go.on (B := T4.setTop (mkF m 10 #[vI p1, vI p2, vI p3] [])) (fun t k => XS.iloadN X0.here hx rfl (hb hby d12_0) rfl (XS.iloadN X0.here hx rfl (hb hby d12_1) rfl (XS.iloadN X0.here hx rfl (hb hby d12_2) rfl (st3 _ (st4 _ (XS.pop X4.here hx rfl (hb hby d12_9) rfl rfl k)))))) ?_
    refine Go.fin X4 (v := none) (fun _ => rfl) Bd.notSynchronized ?_ e4q ⟨rfl, N4, rfl⟩ (by decide) (by decide)
    exact fun _ hr => X4.returnOut hx Bd.returns (hb hby d12_10) hr
theorem d37_0 : decode BC4 0 = .ok (.iload_n 2, 1) := by decide +kernel
theorem d37_1 : decode BC4 1 = .ok (.iload_n 0, 1) := by decide +kernel
theorem d37_2 : decode BC4 2 = .ok (.ior, 1) := by decide +kernel
theorem d37_3 : decode BC4 3 = .ok (.iload_n 1, 1) := by decide +kernel
theorem d37_4 : decode BC4 4 = .ok (.ior, 1) := by decide +kernel
theorem d37_5 : decode BC4 5 = .ok (.ifCond .lt 10, 3) := by decide +kernel
theorem d37_8 : decode BC4 8 = .ok (.iload_n 1, 1) := by decide +kernel
theorem d37_9 : decode BC4 9 = .ok (.iload_n 2, 1) := by decide +kernel
theorem d37_10 : decode BC4 10 = .ok (.iload_n 0, 1) := by decide +kernel
theorem d37_11 : decode BC4 11 = .ok (.isub, 1) := by decide +kernel
theorem d37_12 : decode BC4 12 = .ok (.if_icmp .le 11, 3) := by decide +kernel
theorem d37_23 : decode BC4 23 = .ok (.iload_n 0, 1) := by decide +kernel
theorem d37_24 : decode BC4 24 = .ok (.ireturn, 1) := by decide +kernel
def Q_rfs0 (Z : State) (p1 : Int32) (p2 : Int32) (p3 : Int32) (h0 : Heap) (n0 : Nat) (v : Option Value) (h : Heap) (L : List Loc) : Prop := v = some (.int p1) ∧ Fr n0 L ∧ h = h0
theorem rfs0 (l : Launch) (Z : State) (a0 : Array Value) (hw : ∀ d ∈ tables_1, d.before a0 Z = true) (ws : List Jvm.Cond) (p1 : Int32) (p2 : Int32) (p3 : Int32) (h0 : Heap) (n0 : Nat) (Z0 : n0 ≤ h0.size) (hi : own_B p3 p1 p2) :
    MetFree l MN13 (head1 (Jvm.Cond.code MN13 jdk_41_method_13_code 4 (some .int) :: ws) (rK 0 0 0 0)) (fun a U => a = #[(.int p1), (.int p2), (.int p3), .null] ∧ Z.Warmed39 U.vm ∧ U.heap = h0) (fun _ _ _ _ _ => True) (fun _ U o U' => ∃ v L, o = .returned v ∧ Q_rfs0 Z p1 p2 p3 h0 n0 v U'.heap L ∧ FrameEnd U o U' L (rK 0 0 0 0).cells (rK 0 0 0 0).slots) := by
  refine MetFree.of_bodySF (plainFor_of_name pn_2) hisR ?_
  intro p e s m args below meth c sB Bd hml0 hP hK
  obtain ⟨rfl, hZ, hh⟩ := hP
  have hx := Bd.exec
  have hby := Bd.bytes
  have X0 : Stand p l e (rK 0 0 0 0) s m #[(.int p1), (.int p2), (.int p3), .null] below meth c sB [] 0 0 := Stand.of_body Bd
  have e0 : sB.heap = h0 := by rw [← hh, Bd.state]; rfl
  have N0 := Fr.nil n0
  change Go p.tables e below _ _
  refine Go.on (B := sB.setTop (mkF m 0 #[vI p1, vI p2, vI p3, .val .null] [])) (fun t k => castTop (ef_rft0 m p1 p2 p3) k) ?_
  have hc5_1 : ¬ (((p3 ||| p1) ||| p2) < (0 : Int32)) := hi.1
  refine Go.on (B := sB.setTop (mkF m 8 #[vI p1, vI p2, vI p3, .val .null] [])) (fun t k => XS.iloadN X0.here hx rfl (hb hby d37_0) rfl (XS.iloadN X0.here hx rfl (hb hby d37_1) rfl (XS.ior X0.here hx rfl (hb hby d37_2) rfl (XS.iloadN X0.here hx rfl (hb hby d37_3) rfl (XS.ior X0.here hx rfl (hb hby d37_4) rfl (XS.ifNo X0.here hx rfl (hb hby d37_5) rfl ((if0 _ _).trans (flt hc5_1).1) k)))))) ?_
  have hc12_2 : ¬ ((p3 - p1) < p2) := hi.2
  refine Go.on (B := sB.setTop (mkF m 24 #[vI p1, vI p2, vI p3, .val .null] [(.int p1)])) (fun t k => XS.iloadN X0.here hx rfl (hb hby d37_8) rfl (XS.iloadN X0.here hx rfl (hb hby d37_9) rfl (XS.iloadN X0.here hx rfl (hb hby d37_10) rfl (XS.isub X0.here hx rfl (hb hby d37_11) rfl (XS.icmpYes X0.here hx rfl (pc0 := 12) (pc' := 23) rfl (hb hby d37_12) rfl (flt hc12_2).2.2.2 (by decide) (by decide) (XS.iloadN X0.here hx rfl (hb hby d37_23) rfl k)))))) ?_
  refine Go.fin X0 (v := some (.int p1)) (own_nv Bd.returns) Bd.notSynchronized ?_ e0 ⟨rfl, N0, rfl⟩ (by decide) (by decide)
  exact fun _ hr => retI X0 hx Bd.returns (hb hby d37_24) hr
def Q_rfs1 (Z : State) (p1 : Int32) (p2 : Int32) (p3 : Int32) (a4 : Addr) (h0 : Heap) (n0 : Nat) (v : Option Value) (h : Heap) (L : List Loc) : Prop := v = some (.int p1) ∧ Fr n0 L ∧ h = h0
theorem rfs1 (l : Launch) (Z : State) (a0 : Array Value) (hw : ∀ d ∈ tables_1, d.before a0 Z = true) (ws : List Jvm.Cond) (p1 : Int32) (p2 : Int32) (p3 : Int32) (a4 : Addr) (h0 : Heap) (n0 : Nat) (Z0 : n0 ≤ h0.size) (hi : own_B p3 p1 p2) :
    MetFree l MN13 (head1 (Jvm.Cond.code MN13 jdk_41_method_13_code 4 (some .int) :: ws) (rK 0 0 0 0)) (fun a U => a = #[(.int p1), (.int p2), (.int p3), (.ref a4)] ∧ Z.Warmed39 U.vm ∧ U.heap = h0) (fun _ _ _ _ _ => True) (fun _ U o U' => ∃ v L, o = .returned v ∧ Q_rfs1 Z p1 p2 p3 a4 h0 n0 v U'.heap L ∧ FrameEnd U o U' L (rK 0 0 0 0).cells (rK 0 0 0 0).slots) := by
  refine MetFree.of_bodySF (plainFor_of_name pn_2) hisR ?_
  intro p e s m args below meth c sB Bd hml0 hP hK
  obtain ⟨rfl, hZ, hh⟩ := hP
  have hx := Bd.exec
  have hby := Bd.bytes
  have X0 : Stand p l e (rK 0 0 0 0) s m #[(.int p1), (.int p2), (.int p3), (.ref a4)] below meth c sB [] 0 0 := Stand.of_body Bd
  have e0 : sB.heap = h0 := by rw [← hh, Bd.state]; rfl
  have N0 := Fr.nil n0
  change Go p.tables e below _ _
  refine Go.on (B := sB.setTop (mkF m 0 #[vI p1, vI p2, vI p3, vR a4] [])) (fun t k => castTop (ef_rft1 m p1 p2 p3 a4) k) ?_
  have hc5_1 : ¬ (((p3 ||| p1) ||| p2) < (0 : Int32)) := hi.1
  refine Go.on (B := sB.setTop (mkF m 8 #[vI p1, vI p2, vI p3, vR a4] [])) (fun t k => XS.iloadN X0.here hx rfl (hb hby d37_0) rfl (XS.iloadN X0.here hx rfl (hb hby d37_1) rfl (XS.ior X0.here hx rfl (hb hby d37_2) rfl (XS.iloadN X0.here hx rfl (hb hby d37_3) rfl (XS.ior X0.here hx rfl (hb hby d37_4) rfl (XS.ifNo X0.here hx rfl (hb hby d37_5) rfl ((if0 _ _).trans (flt hc5_1).1) k)))))) ?_
  have hc12_2 : ¬ ((p3 - p1) < p2) := hi.2
  refine Go.on (B := sB.setTop (mkF m 24 #[vI p1, vI p2, vI p3, vR a4] [(.int p1)])) (fun t k => XS.iloadN X0.here hx rfl (hb hby d37_8) rfl (XS.iloadN X0.here hx rfl (hb hby d37_9) rfl (XS.iloadN X0.here hx rfl (hb hby d37_10) rfl (XS.isub X0.here hx rfl (hb hby d37_11) rfl (XS.icmpYes X0.here hx rfl (pc0 := 12) (pc' := 23) rfl (hb hby d37_12) rfl (flt hc12_2).2.2.2 (by decide) (by decide) (XS.iloadN X0.here hx rfl (hb hby d37_23) rfl k)))))) ?_
  refine Go.fin X0 (v := some (.int p1)) (own_nv Bd.returns) Bd.notSynchronized ?_ e0 ⟨rfl, N0, rfl⟩ (by decide) (by decide)
  exact fun _ hr => retI X0 hx Bd.returns (hb hby d37_24) hr
theorem d36_0 : decode BC10 0 = .ok (.iload_n 0, 1) := by decide +kernel
theorem d36_1 : decode BC10 1 = .ok (.iload_n 1, 1) := by decide +kernel
theorem d36_2 : decode BC10 2 = .ok (.iload_n 2, 1) := by decide +kernel
theorem d36_3 : decode BC10 3 = .ok (.getstatic 1053, 3) := by decide +kernel
theorem d36_6 : decode BC10 6 = .ok (.invokestatic 1065, 3) := by decide +kernel
theorem d36_9 : decode BC10 9 = .ok (.ireturn, 1) := by decide +kernel
def Q_rbo (Z : State) (p1 : Int32) (p2 : Int32) (p3 : Int32) (G3 : Value) (h0 : Heap) (n0 : Nat) (v : Option Value) (h : Heap) (L : List Loc) : Prop := v = some (.int p1) ∧ Fr n0 L ∧ h = h0
theorem rbo (l : Launch) (Z : State) (a0 : Array Value) (hw : ∀ d ∈ tables_1, d.before a0 Z = true) (ws : List Jvm.Cond) (p1 : Int32) (p2 : Int32) (p3 : Int32) (G3 : Value) (h0 : Heap) (n0 : Nat) (Z0 : n0 ≤ h0.size) (hi : own_B p3 p1 p2) (O0 : Old Z n0 h0) (S_fm : own_S_fm Z G3) (rG3 : G3.isRef = true) :
    MetFree l MN14 (head1 (Jvm.Cond.code MN14 jdk_42_method_157_code 3 (some .int) :: ws) (rK 1 0 0 15)) (fun a U => a = #[(.int p1), (.int p2), (.int p3)] ∧ Z.Warmed39 U.vm ∧ U.heap = h0) (fun _ _ _ _ _ => True) (fun _ U o U' => ∃ v L, o = .returned v ∧ Q_rbo Z p1 p2 p3 G3 h0 n0 v U'.heap L ∧ FrameEnd U o U' L (rK 1 0 0 15).cells (rK 1 0 0 15).slots) := by
  refine MetFree.of_bodySF (plainFor_of_name pn_5) hisR ?_
  intro p e s m args below meth c sB Bd hml0 hP hK
  obtain ⟨rfl, hZ, hh⟩ := hP
  have hx := Bd.exec
  have hby := Bd.bytes
  have hml : c.maxLocals = 3 := hml0
  have hown : s.vm.findClass "java/lang/String" = some m.cls := findClass_of_methodNamed Bd.named
  have X0 : Stand p l e (rK 1 0 0 15) s m #[(.int p1), (.int p2), (.int p3)] below meth c sB [] 0 0 := Stand.of_body Bd
  have e0 : sB.heap = h0 := by rw [← hh, Bd.state]; rfl
  have N0 := Fr.nil n0
  change Go p.tables e below _ _
  refine Go.on (B := sB.setTop (mkF m 0 #[vI p1, vI p2, vI p3] [])) (fun t k => castTop (ef_rbb m p1 p2 p3) k) ?_
  rcases ref_cases rG3 with rfl | ⟨g3, rfl⟩
  · obtain ⟨T1, X1, e1, st1⟩ := getS2 X0 hx hZ hown (host := "") (Or.inl (gw hw 72 rfl)) Via.refl e0 (S_fm.ext O0.2) (g := (mkF m 3 #[vI p1, vI p2, vI p3] [(.int p3), (.int p2), (.int p1)])) rfl (hb hby d36_3)
    obtain ⟨_, _, ⟨T2, L2, k2, n2⟩, -, X2, ⟨Lc2, hQ2, lq2, yq2, zq2⟩, st2⟩ := Jvm.LawKit.callS X1 hx (y := MN13) hown (mg hZ hw 161 rfl) (mg hZ hw 162 rfl) (mg hZ hw 73 rfl) (mg hZ hw 163 rfl) (by decide) (backOf (W := 0) (rfs0 l Z a0 hw [] p1 p2 p3 h0 n0 Z0 hi) hZ (gw hw 163 rfl) (gw hw 73 rfl) (by decide) (by decide)) (g := (mkF m 6 #[vI p1, vI p2, vI p3] [.null, (.int p3), (.int p2), (.int p1)])) rfl (by rw [hml]; rfl) (argsL := [(.int p1), (.int p2), (.int p3), .null]) (rest := []) (lenOf pd_7 rfl) rfl (own_w rfl) (hb hby d36_6) (fun _ _ => ⟨rfl, e1, (by decide : 0 + 0 ≤ _), (by decide : 0 + 0 ≤ _)⟩)
    dsimp only [Pt.U, Pt.locs, Pt.cells, Pt.slots] at X2 lq2 yq2 zq2 st2 hQ2
    subst lq2 yq2 zq2
    obtain ⟨rfl, N2q, e2q⟩ := hQ2
    have N2 := Fr.app N0 N2q
    refine Go.on (B := T2.setTop (mkF m 9 #[vI p1, vI p2, vI p3] [(.int p1)])) (fun t k => XS.iloadN X0.here hx rfl (hb hby d36_0) rfl (XS.iloadN X0.here hx rfl (hb hby d36_1) rfl (XS.iloadN X0.here hx rfl (hb hby d36_2) rfl (st1 _ (st2 _ k))))) ?_
    refine Go.fin X2 (v := some (.int p1)) (own_nv Bd.returns) Bd.notSynchronized ?_ e2q ⟨rfl, N2, rfl⟩ (by decide) (by decide)
    exact fun _ hr => retI X2 hx Bd.returns (hb hby d36_9) hr
  · obtain ⟨T3, X3, e3, st3⟩ := getS2 X0 hx hZ hown (host := "") (Or.inl (gw hw 72 rfl)) Via.refl e0 (S_fm.ext O0.2) (g := (mkF m 3 #[vI p1, vI p2, vI p3] [(.int p3), (.int p2), (.int p1)])) rfl (hb hby d36_3)
    obtain ⟨_, _, ⟨T4, L4, k4, n4⟩, -, X4, ⟨Lc4, hQ4, lq4, yq4, zq4⟩, st4⟩ := Jvm.LawKit.callS X3 hx (y := MN13) hown (mg hZ hw 161 rfl) (mg hZ hw 162 rfl) (mg hZ hw 73 rfl) (mg hZ hw 163 rfl) (by decide) (backOf (W := 0) (rfs1 l Z a0 hw [] p1 p2 p3 g3 h0 n0 Z0 hi) hZ (gw hw 163 rfl) (gw hw 73 rfl) (by decide) (by decide)) (g := (mkF m 6 #[vI p1, vI p2, vI p3] [(.ref g3), (.int p3), (.int p2), (.int p1)])) rfl (by rw [hml]; rfl) (argsL := [(.int p1), (.int p2), (.int p3), (.ref g3)]) (rest := []) (lenOf pd_7 rfl) rfl (own_w rfl) (hb hby d36_6) (fun _ _ => ⟨rfl, e3, (by decide : 0 + 0 ≤ _), (by decide : 0 + 0 ≤ _)⟩)
    dsimp only [Pt.U, Pt.locs, Pt.cells, Pt.slots] at X4 lq4 yq4 zq4 st4 hQ4
    subst lq4 yq4 zq4
    obtain ⟨rfl, N4q, e4q⟩ := hQ4
    have N4 := Fr.app N0 N4q
    refine Go.on (B := T4.setTop (mkF m 9 #[vI p1, vI p2, vI p3] [(.int p1)])) (fun t k => XS.iloadN X0.here hx rfl (hb hby d36_0) rfl (XS.iloadN X0.here hx rfl (hb hby d36_1) rfl (XS.iloadN X0.here hx rfl (hb hby d36_2) rfl (st3 _ (st4 _ k))))) ?_
    refine Go.fin X4 (v := some (.int p1)) (own_nv Bd.returns) Bd.notSynchronized ?_ e4q ⟨rfl, N4, rfl⟩ (by decide) (by decide)
    exact fun _ hr => retI X4 hx Bd.returns (hb hby d36_9) hr
theorem d35_0 : decode BC33 0 = .ok (.iload_n 0, 1) := by decide +kernel
theorem d35_1 : decode BC33 1 = .ok (.iload_n 1, 1) := by decide +kernel
theorem d35_2 : decode BC33 2 = .ok (.aload_n 2, 1) := by decide +kernel
theorem d35_3 : decode BC33 3 = .ok (.invokestatic 48, 3) := by decide +kernel
theorem d35_6 : decode BC33 6 = .ok (.invokestatic 419, 3) := by decide +kernel
theorem d35_9 : decode BC33 9 = .ok (.pop, 1) := by decide +kernel
theorem d35_10 : decode BC33 10 = .ok (.return_, 1) := by decide +kernel
theorem pd_8 : parseMethodDescriptor "(III)I" = some ⟨[.int, .int, .int], some .int⟩ := by decide +kernel
def Q_rbu (Z : State) (p1 : Int32) (p2 : Int32) (a3 : Addr) (k1 : ClassId) (z1 : Int32) (vs : List Value) (z2 : Int32) (G3 : Value) (h0 : Heap) (n0 : Nat) (v : Option Value) (h : Heap) (L : List Loc) : Prop := v = none ∧ Fr n0 L ∧ h = h0
theorem rbu (l : Launch) (Z : State) (a0 : Array Value) (hw : ∀ d ∈ tables_1, d.before a0 Z = true) (ws : List Jvm.Cond) (p1 : Int32) (p2 : Int32) (a3 : Addr) (k1 : ClassId) (z1 : Int32) (vs : List Value) (z2 : Int32) (G3 : Value) (h0 : Heap) (n0 : Nat) (Z0 : n0 ≤ h0.size) (V3 : Arv Z h0 a3 k1 .byte z1 vs (.int 0)) (hz2 : (z1 >>> ((1 : Int32) &&& 31)) = z2) (hi : own_B z2 p1 p2) (O0 : Old Z n0 h0) (S_fm : own_S_fm Z G3) (rG3 : G3.isRef = true) :
    MetFree l MN15 (head1 (Jvm.Cond.code MN15 jdk_52_method_94_code 3 none :: ws) (rK 2 0 0 31)) (fun a U => a = #[(.int p1), (.int p2), (.ref a3)] ∧ Z.Warmed39 U.vm ∧ U.heap = h0) (fun _ _ _ _ _ => True) (fun _ U o U' => ∃ v L, o = .returned v ∧ Q_rbu Z p1 p2 a3 k1 z1 vs z2 G3 h0 n0 v U'.heap L ∧ FrameEnd U o U' L (rK 2 0 0 31).cells (rK 2 0 0 31).slots) := by
  refine MetFree.of_bodySF (plainFor_of_name pn_10) hisR ?_
  intro p e s m args below meth c sB Bd hml0 hP hK
  obtain ⟨rfl, hZ, hh⟩ := hP
  have hx := Bd.exec
  have hby := Bd.bytes
  have hml : c.maxLocals = 3 := hml0
  have hown : s.vm.findClass "java/lang/StringUTF16" = some m.cls := findClass_of_methodNamed Bd.named
  have X0 : Stand p l e (rK 2 0 0 31) s m #[(.int p1), (.int p2), (.ref a3)] below meth c sB [] 0 0 := Stand.of_body Bd
  have e0 : sB.heap = h0 := by rw [← hh, Bd.state]; rfl
  have N0 := Fr.nil n0
  change Go p.tables e below _ _
  refine Go.on (B := sB.setTop (mkF m 0 #[vI p1, vI p2, vR a3] [])) (fun t k => castTop (ef_rpi1 m p1 p2 a3) k) ?_
  obtain ⟨_, _, ⟨T1, L1, k1, n1⟩, -, X1, ⟨Lc1, hQ1, lq1, yq1, zq1⟩, st1⟩ := Jvm.LawKit.callS X0 hx (y := MN3) hown (mg hZ hw 144 rfl) (mg hZ hw 145 rfl) (mg hZ hw 83 rfl) (mg hZ hw 146 rfl) (by decide) (backOf (W := 2) (rul l Z a0 hw [] a3 k1 z1 vs z2 h0 n0 Z0 V3 hz2) hZ (gw hw 146 rfl) (gw hw 83 rfl) (by decide) (by decide)) (g := (mkF m 3 #[vI p1, vI p2, vR a3] [(.ref a3), (.int p2), (.int p1)])) rfl (by rw [hml]; rfl) (argsL := [(.ref a3)]) (rest := [(.int p2), (.int p1)]) (lenOf pd_2 rfl) rfl (own_w rfl) (hb hby d35_3) (fun _ _ => ⟨rfl, e0, (by decide : 0 + 0 ≤ _), (by decide : 0 + 0 ≤ _)⟩)
  dsimp only [Pt.U, Pt.locs, Pt.cells, Pt.slots] at X1 lq1 yq1 zq1 st1 hQ1
  subst lq1 yq1 zq1
  obtain ⟨rfl, N1q, e1q⟩ := hQ1
  have N1 := Fr.app N0 N1q
  obtain ⟨_, _, ⟨T2, L2, k2, n2⟩, -, X2, ⟨Lc2, hQ2, lq2, yq2, zq2⟩, st2⟩ := Jvm.LawKit.callS X1 hx (y := MN14) hown (mg hZ hw 158 rfl) (mg hZ hw 159 rfl) (mg hZ hw 8 rfl) (mg hZ hw 160 rfl) (by decide) (backOf (W := 0) (rbo l Z a0 hw [] p1 p2 z2 G3 h0 n0 Z0 hi O0 S_fm rG3) hZ (gw hw 160 rfl) (gw hw 8 rfl) (by decide) (by decide)) (g := (mkF m 6 #[vI p1, vI p2, vR a3] [(.int z2), (.int p2), (.int p1)])) rfl (by rw [hml]; rfl) (argsL := [(.int p1), (.int p2), (.int z2)]) (rest := []) (lenOf pd_8 rfl) rfl (own_w rfl) (hb hby d35_6) (fun _ _ => ⟨rfl, e1q, (by decide : 0 + 0 ≤ _), (by decide : 0 + 0 ≤ _)⟩)
  dsimp only [Pt.U, Pt.locs, Pt.cells, Pt.slots] at X2 lq2 yq2 zq2 st2 hQ2
  subst lq2 yq2 zq2
  obtain ⟨rfl, N2q, e2q⟩ := hQ2
  have N2 := Fr.app N1 N2q
  refine Go.on (B := T2.setTop (mkF m 10 #[vI p1, vI p2, vR a3] [])) (fun t k => XS.iloadN X0.here hx rfl (hb hby d35_0) rfl (XS.iloadN X0.here hx rfl (hb hby d35_1) rfl (XS.aloadN X0.here hx rfl (hb hby d35_2) rfl rfl (st1 _ (st2 _ (XS.pop X2.here hx rfl (hb hby d35_9) rfl rfl k)))))) ?_
  refine Go.fin X2 (v := none) (fun _ => rfl) Bd.notSynchronized ?_ e2q ⟨rfl, N2, rfl⟩ (by decide) (by decide)
  exact fun _ hr => X2.returnOut hx Bd.returns (hb hby d35_10) hr
theorem d40_0 : decode BC34 0 = .ok (.iload_n 1, 1) := by decide +kernel
theorem d40_1 : decode BC34 1 = .ok (.iload_n 0, 1) := by decide +kernel
theorem d40_2 : decode BC34 2 = .ok (.if_icmp .ge 35, 3) := by decide +kernel
theorem d40_37 : decode BC34 37 = .ok (.return_, 1) := by decide +kernel
theorem pn_31 : plainName "java/util/Arrays" = true := by first | (simp [plainName, overriddenIn]; done) | decide +kernel
def Q_rck (Z : State) (p1 : Int32) (p2 : Int32) (h0 : Heap) (n0 : Nat) (v : Option Value) (h : Heap) (L : List Loc) : Prop := v = none ∧ Fr n0 L ∧ h = h0
theorem rck (l : Launch) (Z : State) (a0 : Array Value) (hw : ∀ d ∈ tables_1, d.before a0 Z = true) (ws : List Jvm.Cond) (p1 : Int32) (p2 : Int32) (h0 : Heap) (n0 : Nat) (Z0 : n0 ≤ h0.size) (hi : ¬ p2 < p1) :
    MetFree l MN16 (head1 (Jvm.Cond.code MN16 jdk_65_method_131_code 2 none :: ws) (rK 0 0 0 0)) (fun a U => a = #[(.int p1), (.int p2)] ∧ Z.Warmed39 U.vm ∧ U.heap = h0) (fun _ _ _ _ _ => True) (fun _ U o U' => ∃ v L, o = .returned v ∧ Q_rck Z p1 p2 h0 n0 v U'.heap L ∧ FrameEnd U o U' L (rK 0 0 0 0).cells (rK 0 0 0 0).slots) := by
  refine MetFree.of_bodySF (plainFor_of_name pn_31) hisR ?_
  intro p e s m args below meth c sB Bd hml0 hP hK
  obtain ⟨rfl, hZ, hh⟩ := hP
  have hx := Bd.exec
  have hby := Bd.bytes
  have X0 : Stand p l e (rK 0 0 0 0) s m #[(.int p1), (.int p2)] below meth c sB [] 0 0 := Stand.of_body Bd
  have e0 : sB.heap = h0 := by rw [← hh, Bd.state]; rfl
  have N0 := Fr.nil n0
  change Go p.tables e below _ _
  refine Go.on (B := sB.setTop (mkF m 0 #[vI p1, vI p2] [])) (fun t k => castTop (ef_rci m p1 p2) k) ?_
  have hc2_1 : ¬ (p2 < p1) := hi
  refine Go.on (B := sB.setTop (mkF m 37 #[vI p1, vI p2] [])) (fun t k => XS.iloadN X0.here hx rfl (hb hby d40_0) rfl (XS.iloadN X0.here hx rfl (hb hby d40_1) rfl (XS.icmpYes X0.here hx rfl (pc0 := 2) (pc' := 37) rfl (hb hby d40_2) rfl (flt hc2_1).2.1 (by decide) (by decide) k))) ?_
  refine Go.fin X0 (v := none) (fun _ => rfl) Bd.notSynchronized ?_ e0 ⟨rfl, N0, rfl⟩ (by decide) (by decide)
  exact fun _ hr => X0.returnOut hx Bd.returns (hb hby d40_37) hr
theorem d41_0 : decode BC0 0 = .ok (.iload_n 0, 1) := by decide +kernel
theorem d41_1 : decode BC0 1 = .ok (.iload_n 1, 1) := by decide +kernel
theorem d41_2 : decode BC0 2 = .ok (.if_icmp .gt 7, 3) := by decide +kernel
theorem d41_5 : decode BC0 5 = .ok (.iload_n 0, 1) := by decide +kernel
theorem d41_6 : decode BC0 6 = .ok (.goto 4, 3) := by decide +kernel
theorem d41_10 : decode BC0 10 = .ok (.ireturn, 1) := by decide +kernel
def Q_rmn (Z : State) (p1 : Int32) (p2 : Int32) (h0 : Heap) (n0 : Nat) (v : Option Value) (h : Heap) (L : List Loc) : Prop := v = some (.int p1) ∧ Fr n0 L ∧ h = h0
theorem rmn (l : Launch) (Z : State) (a0 : Array Value) (hw : ∀ d ∈ tables_1, d.before a0 Z = true) (ws : List Jvm.Cond) (p1 : Int32) (p2 : Int32) (h0 : Heap) (n0 : Nat) (Z0 : n0 ≤ h0.size) (hi : ¬ p2 < p1) :
    MetFree l MN17 (head1 (Jvm.Cond.code MN17 jdk_29_method_69_code 2 (some .int) :: ws) (rK 0 0 0 0)) (fun a U => a = #[(.int p1), (.int p2)] ∧ Z.Warmed39 U.vm ∧ U.heap = h0) (fun _ _ _ _ _ => True) (fun _ U o U' => ∃ v L, o = .returned v ∧ Q_rmn Z p1 p2 h0 n0 v U'.heap L ∧ FrameEnd U o U' L (rK 0 0 0 0).cells (rK 0 0 0 0).slots) := by
  refine MetFree.of_bodySF (Jvm.Free.JP.mathPlain rfl (by decide +kernel)) hisR ?_
  intro p e s m args below meth c sB Bd hml0 hP hK
  obtain ⟨rfl, hZ, hh⟩ := hP
  have hx := Bd.exec
  have hby := Bd.bytes
  have X0 : Stand p l e (rK 0 0 0 0) s m #[(.int p1), (.int p2)] below meth c sB [] 0 0 := Stand.of_body Bd
  have e0 : sB.heap = h0 := by rw [← hh, Bd.state]; rfl
  have N0 := Fr.nil n0
  change Go p.tables e below _ _
  refine Go.on (B := sB.setTop (mkF m 0 #[vI p1, vI p2] [])) (fun t k => castTop (ef_rci m p1 p2) k) ?_
  have hc2_1 : ¬ (p2 < p1) := hi
  refine Go.on (B := sB.setTop (mkF m 10 #[vI p1, vI p2] [(.int p1)])) (fun t k => XS.iloadN X0.here hx rfl (hb hby d41_0) rfl (XS.iloadN X0.here hx rfl (hb hby d41_1) rfl (XS.icmpNo X0.here hx rfl (hb hby d41_2) rfl (flt hc2_1).2.2.1 (XS.iloadN X0.here hx rfl (hb hby d41_5) rfl (XS.goto X0.here hx rfl (pc0 := 6) (pc' := 10) rfl (hb hby d41_6) (by decide) (by decide) k))))) ?_
  refine Go.fin X0 (v := some (.int p1)) (own_nv Bd.returns) Bd.notSynchronized ?_ e0 ⟨rfl, N0, rfl⟩ (by decide) (by decide)
  exact fun _ hr => retI X0 hx Bd.returns (hb hby d41_10) hr
theorem d26_0 : decode BC26 0 = .ok (.iload_n 0, 1) := by decide +kernel
theorem d26_1 : decode BC26 1 = .ok (.ifCond .ge 11, 3) := by decide +kernel
theorem d26_12 : decode BC26 12 = .ok (.iload_n 0, 1) := by decide +kernel
theorem d26_13 : decode BC26 13 = .ok (.ldc 20, 2) := by decide +kernel
theorem d26_15 : decode BC26 15 = .ok (.if_icmp .lt 40, 3) := by decide +kernel
theorem d26_55 : decode BC26 55 = .ok (.iload_n 0, 1) := by decide +kernel
theorem d26_56 : decode BC26 56 = .ok (.iconst 1, 1) := by decide +kernel
theorem d26_57 : decode BC26 57 = .ok (.ishl, 1) := by decide +kernel
theorem d26_58 : decode BC26 58 = .ok (.ireturn, 1) := by decide +kernel
theorem ef_rnlg (m : MethodId) (p1 : Int32) : entryFrame m #[(.int p1)] 1 = mkF m 0 #[vI p1] [] := rfl
def Q_rnlg (Z : State) (p1 : Int32) (r : Int32) (h0 : Heap) (n0 : Nat) (v : Option Value) (h : Heap) (L : List Loc) : Prop := v = some (.int r) ∧ Fr n0 L ∧ h = h0
theorem rnlg (l : Launch) (Z : State) (a0 : Array Value) (hw : ∀ d ∈ tables_1, d.before a0 Z = true) (ws : List Jvm.Cond) (p1 : Int32) (r : Int32) (h0 : Heap) (n0 : Nat) (Z0 : n0 ≤ h0.size) (hi : ¬ p1 < (0 : Int32) ∧ p1 < (1073741823 : Int32) ∧ (p1 <<< ((1 : Int32) &&& 31)) = r) :
    MetFree l MN18 (head1 (Jvm.Cond.code MN18 jdk_52_method_3_code 1 (some .int) :: ws) (rK 0 0 0 0)) (fun a U => a = #[(.int p1)] ∧ Z.Warmed39 U.vm ∧ U.heap = h0) (fun _ _ _ _ _ => True) (fun _ U o U' => ∃ v L, o = .returned v ∧ Q_rnlg Z p1 r h0 n0 v U'.heap L ∧ FrameEnd U o U' L (rK 0 0 0 0).cells (rK 0 0 0 0).slots) := by
  refine MetFree.of_bodySF (plainFor_of_name pn_10) hisR ?_
  intro p e s m args below meth c sB Bd hml0 hP hK
  obtain ⟨rfl, hZ, hh⟩ := hP
  have hx := Bd.exec
  have hby := Bd.bytes
  have hown : s.vm.findClass "java/lang/StringUTF16" = some m.cls := findClass_of_methodNamed Bd.named
  have X0 : Stand p l e (rK 0 0 0 0) s m #[(.int p1)] below meth c sB [] 0 0 := Stand.of_body Bd
  have e0 : sB.heap = h0 := by rw [← hh, Bd.state]; rfl
  have N0 := Fr.nil n0
  change Go p.tables e below _ _
  refine Go.on (B := sB.setTop (mkF m 0 #[vI p1] [])) (fun t k => castTop (ef_rnlg m p1) k) ?_
  have hc1_1 : ¬ (p1 < (0 : Int32)) := hi.1
  have hc15_2 : p1 < (1073741823 : Int32) := hi.2.1
  refine Go.on (B := sB.setTop (mkF m 56 #[vI p1] [(.int p1)])) (fun t k => XS.iloadN X0.here hx rfl (hb hby d26_0) rfl (XS.ifYes X0.here hx rfl (pc0 := 1) (pc' := 12) rfl (hb hby d26_1) rfl ((if0 _ _).trans (flt hc1_1).2.1) (by decide) (by decide) (XS.iloadN X0.here hx rfl (hb hby d26_12) rfl (X0.ldcInt hx hown (mg hZ hw 124 rfl) (g := (mkF m 13 #[vI p1] [(.int p1)])) rfl (hb hby d26_13) _ (XS.icmpYes X0.here hx rfl (pc0 := 15) (pc' := 55) rfl (hb hby d26_15) rfl (tlt hc15_2).1 (by decide) (by decide) (XS.iloadN X0.here hx rfl (hb hby d26_55) rfl k)))))) ?_
  refine Go.on (B := sB.setTop (mkF m 58 #[vI p1] [(.int (p1 <<< ((1 : Int32) &&& 31)))])) (fun t k => XS.iconst X0.here hx rfl (hb hby d26_56) (XS.ishl X0.here hx rfl (hb hby d26_57) rfl k)) ?_
  refine Go.fin X0 (v := some (.int (p1 <<< ((1 : Int32) &&& 31)))) (own_nv Bd.returns) Bd.notSynchronized ?_ e0 ⟨congrArg (fun z => some (Value.int z)) hi.2.2, N0, rfl⟩ (by decide) (by decide)
  exact fun _ hr => retI X0 hx Bd.returns (hb hby d26_58) hr
theorem d39_0 : decode BC36 0 = .ok (.iload_n 1, 1) := by decide +kernel
theorem d39_1 : decode BC36 1 = .ok (.iload_n 2, 1) := by decide +kernel
theorem d39_2 : decode BC36 2 = .ok (.invokestatic 343, 3) := by decide +kernel
theorem d39_5 : decode BC36 5 = .ok (.iload_n 2, 1) := by decide +kernel
theorem d39_6 : decode BC36 6 = .ok (.iload_n 1, 1) := by decide +kernel
theorem d39_7 : decode BC36 7 = .ok (.isub, 1) := by decide +kernel
theorem d39_8 : decode BC36 8 = .ok (.istore_n 3, 1) := by decide +kernel
theorem d39_9 : decode BC36 9 = .ok (.iload_n 3, 1) := by decide +kernel
theorem d39_10 : decode BC36 10 = .ok (.newarray .byte, 2) := by decide +kernel
theorem d39_12 : decode BC36 12 = .ok (.astore 4, 2) := by decide +kernel
theorem d39_14 : decode BC36 14 = .ok (.aload_n 0, 1) := by decide +kernel
theorem d39_15 : decode BC36 15 = .ok (.iload_n 1, 1) := by decide +kernel
theorem d39_16 : decode BC36 16 = .ok (.aload 4, 2) := by decide +kernel
theorem d39_18 : decode BC36 18 = .ok (.iconst 0, 1) := by decide +kernel
theorem d39_19 : decode BC36 19 = .ok (.aload_n 0, 1) := by decide +kernel
theorem d39_20 : decode BC36 20 = .ok (.arraylength, 1) := by decide +kernel
theorem d39_21 : decode BC36 21 = .ok (.iload_n 1, 1) := by decide +kernel
theorem d39_22 : decode BC36 22 = .ok (.isub, 1) := by decide +kernel
theorem d39_23 : decode BC36 23 = .ok (.iload_n 3, 1) := by decide +kernel
theorem d39_24 : decode BC36 24 = .ok (.invokestatic 304, 3) := by decide +kernel
theorem d39_27 : decode BC36 27 = .ok (.invokestatic 150, 3) := by decide +kernel
theorem d39_30 : decode BC36 30 = .ok (.aload 4, 2) := by decide +kernel
theorem d39_32 : decode BC36 32 = .ok (.areturn, 1) := by decide +kernel
theorem pd_9 : parseMethodDescriptor "(II)I" = some ⟨[.int, .int], some .int⟩ := by decide +kernel
theorem ef_rrb1 (m : MethodId) (a1 : Addr) (p2 : Int32) (z1 : Int32) : entryFrame m #[(.ref a1), (.int p2), (.int z1)] 5 = mkF m 0 #[vR a1, vI p2, vI z1, .unset, .unset] [] := rfl
def Q_rrb1 (Z : State) (a1 : Addr) (p2 : Int32) (z1 : Int32) (k1 : ClassId) (vs : List Value) (us : List Value) (h0 : Heap) (n0 : Nat) (v : Option Value) (h : Heap) (L : List Loc) : Prop := (∃ (b : Addr) (kb : ClassId), v = some (.ref b) ∧ h0.size ≤ b ∧ Arv Z h b kb .byte (1 : Int32) us (.int 0)) ∧ Fr n0 L ∧ Keep h0 h []
theorem rrb1 (l : Launch) (Z : State) (a0 : Array Value) (hw : ∀ d ∈ tables_1, d.before a0 Z = true) (ws : List Jvm.Cond) (a1 : Addr) (p2 : Int32) (z1 : Int32) (k1 : ClassId) (vs : List Value) (us : List Value) (h0 : Heap) (n0 : Nat) (Z0 : n0 ≤ h0.size) (V1 : Arv Z h0 a1 k1 .byte z1 vs (.int 0)) (hr : own_R z1 p2 (1 : Int32) vs us) :
    MetFree l MN19 (head1 (Jvm.Cond.code MN19 jdk_65_method_133_code 5 (some (.array .byte)) :: ws) (rK 1 1 1 50)) (fun a U => a = #[(.ref a1), (.int p2), (.int z1)] ∧ Z.Warmed39 U.vm ∧ U.heap = h0) (fun _ _ _ _ _ => True) (fun _ U o U' => ∃ v L, o = .returned v ∧ Q_rrb1 Z a1 p2 z1 k1 vs us h0 n0 v U'.heap L ∧ FrameEnd U o U' L (rK 1 1 1 50).cells (rK 1 1 1 50).slots) := by
  refine MetFree.of_bodySF (plainFor_of_name pn_31) hisR ?_
  intro p e s m args below meth c sB Bd hml0 hP hK
  obtain ⟨rfl, hZ, hh⟩ := hP
  have hx := Bd.exec
  have hby := Bd.bytes
  have hml : c.maxLocals = 5 := hml0
  have hown : s.vm.findClass "java/util/Arrays" = some m.cls := findClass_of_methodNamed Bd.named
  have X0 : Stand p l e (rK 1 1 1 50) s m #[(.ref a1), (.int p2), (.int z1)] below meth c sB [] 0 0 := Stand.of_body Bd
  have e0 : sB.heap = h0 := by rw [← hh, Bd.state]; rfl
  have N0 := Fr.nil n0
  change Go p.tables e below _ _
  have K0 := Keep.refl h0 []
  refine Go.on (B := sB.setTop (mkF m 0 #[vR a1, vI p2, vI z1, .unset, .unset] [])) (fun t k => castTop (ef_rrb1 m a1 p2 z1) k) ?_
  obtain ⟨_, _, ⟨T1, L1, k1, n1⟩, -, X1, ⟨Lc1, hQ1, lq1, yq1, zq1⟩, st1⟩ := Jvm.LawKit.callS X0 hx (y := MN16) hown (mg hZ hw 171 rfl) (mg hZ hw 172 rfl) (mg hZ hw 166 rfl) (mg hZ hw 173 rfl) (by decide) (backOf (W := 0) (rck l Z a0 hw [] p2 z1 h0 n0 Z0 hr.2.1) hZ (gw hw 173 rfl) (gw hw 166 rfl) (by decide) (by decide)) (g := (mkF m 2 #[vR a1, vI p2, vI z1, .unset, .unset] [(.int z1), (.int p2)])) rfl (by rw [hml]; rfl) (argsL := [(.int p2), (.int z1)]) (rest := []) (lenOf pd_1 rfl) rfl (own_w rfl) (hb hby d39_2) (fun _ _ => ⟨rfl, e0, (by decide : 0 + 0 ≤ _), (by decide : 0 + 0 ≤ _)⟩)
  dsimp only [Pt.U, Pt.locs, Pt.cells, Pt.slots] at X1 lq1 yq1 zq1 st1 hQ1
  subst lq1 yq1 zq1
  obtain ⟨rfl, N1q, e1q⟩ := hQ1
  have N1 := Fr.app N0 N1q
  refine Go.on (B := T1.setTop (mkF m 8 #[vR a1, vI p2, vI z1, .unset, .unset] [(.int (z1 - p2))])) (fun t k => XS.iloadN X0.here hx rfl (hb hby d39_0) rfl (XS.iloadN X0.here hx rfl (hb hby d39_1) rfl (st1 _ (XS.iloadN X1.here hx rfl (hb hby d39_5) rfl (XS.iloadN X1.here hx rfl (hb hby d39_6) rfl (XS.isub X1.here hx rfl (hb hby d39_7) rfl k)))))) ?_
  rw [hr.2.2.1]
  obtain ⟨T3, h3, kq3, X3, e3, Xe3, A3, st3⟩ := newP X1 hx hZ (gw hw 20 rfl) e1q (g := (mkF m 10 #[vR a1, vI p2, vI z1, vI 1, .unset] [(.int 1)])) rfl (hb hby d39_10) rfl (by decide) (cap := 1) (by decide) (by decide) (by decide) (by decide)
  obtain ⟨b3, gq3⟩ : ∃ z, z = h0.size := ⟨_, rfl⟩
  rw [← gq3] at A3 st3
  have ge_b3 : n0 ≤ b3 := Nat.le_trans Z0 (Nat.le_of_eq gq3.symm)
  have sz_b3 : h0.size ≤ b3 := Nat.le_trans K0.1 (Nat.le_of_eq gq3.symm)
  have f1 := V1.ext Xe3
  have Zs2 := Nat.le_trans Z0 Xe3.1
  have K3 := K0.ext Xe3
  have V3 : Arv Z h3 b3 kq3 .byte (1 : Int32) [(.int 0)] (.int 0) := (Arv.new A3 (by decide)).pad (pad_rep [] (.int 0) 1)
  refine Go.on (B := T3.setTop (mkF m 16 #[vR a1, vI p2, vI z1, vI 1, vR b3] [(.int p2), (.ref a1)])) (fun t k => XS.istoreN X1.here hx rfl (hb hby d39_8) rfl (l' := #[vR a1, vI p2, vI z1, vI 1, .unset]) rfl (XS.iloadN X1.here hx rfl (hb hby d39_9) rfl (st3 _ (XS.astore X3.here hx rfl (hb hby d39_12) rfl rfl (l' := #[vR a1, vI p2, vI z1, vI 1, vR b3]) rfl (XS.aloadN X3.here hx rfl (hb hby d39_14) rfl rfl (XS.iloadN X3.here hx rfl (hb hby d39_15) rfl k)))))) ?_
  obtain ⟨cl4, Ar4, -, Sz4, Ng4, -, -⟩ := id f1
  refine Go.on (B := T3.setTop (mkF m 23 #[vR a1, vI p2, vI z1, vI 1, vR b3] [(.int (z1 - p2)), (.int 0), (.ref b3), (.int p2), (.ref a1)])) (fun t k => XS.aload X3.here hx rfl (hb hby d39_16) rfl rfl (XS.iconst X3.here hx rfl (hb hby d39_18) (XS.aloadN X3.here hx rfl (hb hby d39_19) rfl rfl (X3.arraylength hx (by rw [e3]; exact Ar4.1) (State.isArrayOf_alike hZ.alike Ar4.2.1) (g := (mkF m 20 #[vR a1, vI p2, vI z1, vI 1, vR b3] [(.ref a1), (.int 0), (.ref b3), (.int p2), (.ref a1)])) rfl rfl (hb hby d39_20) _ (by rw [len_of Sz4 Ng4]; exact (XS.iloadN X3.here hx rfl (hb hby d39_21) rfl (XS.isub X3.here hx rfl (hb hby d39_22) rfl k))))))) ?_
  rw [hr.2.2.1]
  obtain ⟨_, _, ⟨T5, L5, k5, n5⟩, -, X5, ⟨Lc5, hQ5, lq5, yq5, zq5⟩, st5⟩ := Jvm.LawKit.callS X3 hx (y := MN17) hown (mg hZ hw 174 rfl) (mg hZ hw 175 rfl) (mg hZ hw 176 rfl) (mg hZ hw 177 rfl) (by decide) (backOf (W := 4) (rmn l Z a0 hw [] (1 : Int32) (1 : Int32) h3 n0 Zs2 (by decide)) hZ (gw hw 177 rfl) (gw hw 176 rfl) (by decide) (by decide)) (g := (mkF m 24 #[vR a1, vI p2, vI z1, vI 1, vR b3] [(.int 1), (.int 1), (.int 0), (.ref b3), (.int p2), (.ref a1)])) rfl (by rw [hml]; rfl) (argsL := [(.int 1), (.int 1)]) (rest := [(.int 0), (.ref b3), (.int p2), (.ref a1)]) (lenOf pd_9 rfl) rfl (own_w rfl) (hb hby d39_24) (fun _ _ => ⟨rfl, e3, (by decide : 1 + 0 ≤ _), (by decide : 1 + 0 ≤ _)⟩)
  dsimp only [Pt.U, Pt.locs, Pt.cells, Pt.slots] at X5 lq5 yq5 zq5 st5 hQ5
  subst lq5 yq5 zq5
  obtain ⟨rfl, N5q, e5q⟩ := hQ5
  have N5 := Fr.app N1 N5q
  obtain ⟨T6, h6, L6, X6, e6, N6, K6q, V6q, st6⟩ := cpA X5 hx hZ hown (gw hw 178 rfl) (gw hw 181 rfl) (gw hw 179 rfl) (gw hw 180 rfl) e5q f1 V3 (Or.inl ⟨rfl, rfl⟩) hr.2.2.2.1 (by decide) (by decide) hr.2.2.2.2.1 (by decide) hr.2.2.2.2.2 (by decide) N5 ge_b3 (g := (mkF m 27 #[vR a1, vI p2, vI z1, vI 1, vR b3] [(.int 1), (.int 0), (.ref b3), (.int p2), (.ref a1)])) rfl (by rw [hml]; rfl) rfl (hb hby d39_27) (by decide) (W := 0) (own_w rfl) (by decide)
  have V6 : Arv Z h6 b3 kq3 .byte (1 : Int32) us (.int 0) := Eq.mp (congrArg (fun q => Arv Z h6 b3 kq3 .byte (1 : Int32) q (.int 0)) (List.append_nil us)) V6q
  have K6 := K3.trans K6q (allS (Or.inr sz_b3) all0)
  refine Go.on (B := T6.setTop (mkF m 32 #[vR a1, vI p2, vI z1, vI 1, vR b3] [(.ref b3)])) (fun t k => XS.iloadN X3.here hx rfl (hb hby d39_23) rfl (st5 _ (st6 _ (XS.aload X6.here hx rfl (hb hby d39_30) rfl rfl k)))) ?_
  refine Go.fin X6 (v := some (.ref b3)) (own_nv Bd.returns) Bd.notSynchronized ?_ e6 ⟨⟨_, _, rfl, sz_b3, V6⟩, N6, K6⟩ (by decide) (by decide)
  exact fun _ hr => retOut X6 hx Bd.returns rfl (Or.inr (Or.inr (Or.inr (Or.inr ⟨rfl, rfl, rfl⟩)))) (hb hby d39_32) hr
theorem d38_0 : decode BC35 0 = .ok (.iload_n 1, 1) := by decide +kernel
theorem d38_1 : decode BC35 1 = .ok (.ifCond .ne 9, 3) := by decide +kernel
theorem d38_10 : decode BC35 10 = .ok (.aload_n 0, 1) := by decide +kernel
theorem d38_11 : decode BC35 11 = .ok (.iload_n 1, 1) := by decide +kernel
theorem d38_12 : decode BC35 12 = .ok (.iload_n 2, 1) := by decide +kernel
theorem d38_13 : decode BC35 13 = .ok (.invokestatic 339, 3) := by decide +kernel
theorem d38_16 : decode BC35 16 = .ok (.areturn, 1) := by decide +kernel
theorem pd_10 : parseMethodDescriptor "([BII)[B" = some ⟨[(.array .byte), .int, .int], some (.array .byte)⟩ := by decide +kernel
theorem ef_rcr1 (m : MethodId) (a1 : Addr) (p2 : Int32) (z1 : Int32) : entryFrame m #[(.ref a1), (.int p2), (.int z1)] 3 = mkF m 0 #[vR a1, vI p2, vI z1] [] := rfl
def Q_rcr1 (Z : State) (a1 : Addr) (p2 : Int32) (z1 : Int32) (k1 : ClassId) (vs : List Value) (us : List Value) (h0 : Heap) (n0 : Nat) (v : Option Value) (h : Heap) (L : List Loc) : Prop := (∃ (b : Addr) (kb : ClassId), v = some (.ref b) ∧ h0.size ≤ b ∧ Arv Z h b kb .byte (1 : Int32) us (.int 0)) ∧ Fr n0 L ∧ Keep h0 h []
theorem rcr1 (l : Launch) (Z : State) (a0 : Array Value) (hw : ∀ d ∈ tables_1, d.before a0 Z = true) (ws : List Jvm.Cond) (a1 : Addr) (p2 : Int32) (z1 : Int32) (k1 : ClassId) (vs : List Value) (us : List Value) (h0 : Heap) (n0 : Nat) (Z0 : n0 ≤ h0.size) (V1 : Arv Z h0 a1 k1 .byte z1 vs (.int 0)) (hr : own_R z1 p2 (1 : Int32) vs us) :
    MetFree l MN20 (head1 (Jvm.Cond.code MN20 jdk_65_method_132_code 3 (some (.array .byte)) :: ws) (rK 2 1 1 80)) (fun a U => a = #[(.ref a1), (.int p2), (.int z1)] ∧ Z.Warmed39 U.vm ∧ U.heap = h0) (fun _ _ _ _ _ => True) (fun _ U o U' => ∃ v L, o = .returned v ∧ Q_rcr1 Z a1 p2 z1 k1 vs us h0 n0 v U'.heap L ∧ FrameEnd U o U' L (rK 2 1 1 80).cells (rK 2 1 1 80).slots) := by
  refine MetFree.of_bodySF (plainFor_of_name pn_31) hisR ?_
  intro p e s m args below meth c sB Bd hml0 hP hK
  obtain ⟨rfl, hZ, hh⟩ := hP
  have hx := Bd.exec
  have hby := Bd.bytes
  have hml : c.maxLocals = 3 := hml0
  have hown : s.vm.findClass "java/util/Arrays" = some m.cls := findClass_of_methodNamed Bd.named
  have X0 : Stand p l e (rK 2 1 1 80) s m #[(.ref a1), (.int p2), (.int z1)] below meth c sB [] 0 0 := Stand.of_body Bd
  have e0 : sB.heap = h0 := by rw [← hh, Bd.state]; rfl
  have N0 := Fr.nil n0
  change Go p.tables e below _ _
  have K0 := Keep.refl h0 []
  refine Go.on (B := sB.setTop (mkF m 0 #[vR a1, vI p2, vI z1] [])) (fun t k => castTop (ef_rcr1 m a1 p2 z1) k) ?_
  have hc1_1 : ¬ (p2 = (0 : Int32)) := hr.1
  obtain ⟨_, _, ⟨T2, L2, k2, n2⟩, -, X2, ⟨Lc2, hQ2, lq2, yq2, zq2⟩, st2⟩ := Jvm.LawKit.callS X0 hx (y := MN19) hown (mg hZ hw 168 rfl) (mg hZ hw 169 rfl) (mg hZ hw 166 rfl) (mg hZ hw 170 rfl) (by decide) (backOf (W := 0) (rrb1 l Z a0 hw [] a1 p2 z1 k1 vs us h0 n0 Z0 V1 hr) hZ (gw hw 170 rfl) (gw hw 166 rfl) (by decide) (by decide)) (g := (mkF m 13 #[vR a1, vI p2, vI z1] [(.int z1), (.int p2), (.ref a1)])) rfl (by rw [hml]; rfl) (argsL := [(.ref a1), (.int p2), (.int z1)]) (rest := []) (lenOf pd_10 rfl) rfl (own_w rfl) (hb hby d38_13) (fun _ _ => ⟨rfl, e0, (by decide : 0 + 1 ≤ _), (by decide : 0 + 1 ≤ _)⟩)
  dsimp only [Pt.U, Pt.locs, Pt.cells, Pt.slots] at X2 lq2 yq2 zq2 st2 hQ2
  subst lq2 yq2 zq2
  obtain ⟨⟨y2, ky2, rfl, sx2, Vy2⟩, N2q, K2q⟩ := hQ2
  have N2 := Fr.app N0 N2q
  have sz_y2 : h0.size ≤ y2 := Nat.le_trans K0.1 sx2
  have K3 := K0.trans K2q all0
  refine Go.on (B := T2.setTop (mkF m 16 #[vR a1, vI p2, vI z1] [(.ref y2)])) (fun t k => XS.iloadN X0.here hx rfl (hb hby d38_0) rfl (XS.ifYes X0.here hx rfl (pc0 := 1) (pc' := 10) rfl (hb hby d38_1) rfl ((if0 _ _).trans (feq hc1_1).2) (by decide) (by decide) (XS.aloadN X0.here hx rfl (hb hby d38_10) rfl rfl (XS.iloadN X0.here hx rfl (hb hby d38_11) rfl (XS.iloadN X0.here hx rfl (hb hby d38_12) rfl (st2 _ k)))))) ?_
  refine Go.fin X2 (v := some (.ref y2)) (own_nv Bd.returns) Bd.notSynchronized ?_ rfl ⟨⟨_, _, rfl, sz_y2, Vy2⟩, N2, K3⟩ (by decide) (by decide)
  exact fun _ hr => retOut X2 hx Bd.returns rfl (Or.inr (Or.inr (Or.inr (Or.inr ⟨rfl, rfl, rfl⟩)))) (hb hby d38_16) hr
def Q_rrb2 (Z : State) (a1 : Addr) (p2 : Int32) (z1 : Int32) (k1 : ClassId) (vs : List Value) (us : List Value) (h0 : Heap) (n0 : Nat) (v : Option Value) (h : Heap) (L : List Loc) : Prop := (∃ (b : Addr) (kb : ClassId), v = some (.ref b) ∧ h0.size ≤ b ∧ Arv Z h b kb .byte (2 : Int32) us (.int 0)) ∧ Fr n0 L ∧ Keep h0 h []
theorem rrb2 (l : Launch) (Z : State) (a0 : Array Value) (hw : ∀ d ∈ tables_1, d.before a0 Z = true) (ws : List Jvm.Cond) (a1 : Addr) (p2 : Int32) (z1 : Int32) (k1 : ClassId) (vs : List Value) (us : List Value) (h0 : Heap) (n0 : Nat) (Z0 : n0 ≤ h0.size) (V1 : Arv Z h0 a1 k1 .byte z1 vs (.int 0)) (hr : own_R z1 p2 (2 : Int32) vs us) :
    MetFree l MN19 (head1 (Jvm.Cond.code MN19 jdk_65_method_133_code 5 (some (.array .byte)) :: ws) (rK 1 1 2 50)) (fun a U => a = #[(.ref a1), (.int p2), (.int z1)] ∧ Z.Warmed39 U.vm ∧ U.heap = h0) (fun _ _ _ _ _ => True) (fun _ U o U' => ∃ v L, o = .returned v ∧ Q_rrb2 Z a1 p2 z1 k1 vs us h0 n0 v U'.heap L ∧ FrameEnd U o U' L (rK 1 1 2 50).cells (rK 1 1 2 50).slots) := by
  refine MetFree.of_bodySF (plainFor_of_name pn_31) hisR ?_
  intro p e s m args below meth c sB Bd hml0 hP hK
  obtain ⟨rfl, hZ, hh⟩ := hP
  have hx := Bd.exec
  have hby := Bd.bytes
  have hml : c.maxLocals = 5 := hml0
  have hown : s.vm.findClass "java/util/Arrays" = some m.cls := findClass_of_methodNamed Bd.named
  have X0 : Stand p l e (rK 1 1 2 50) s m #[(.ref a1), (.int p2), (.int z1)] below meth c sB [] 0 0 := Stand.of_body Bd
  have e0 : sB.heap = h0 := by rw [← hh, Bd.state]; rfl
  have N0 := Fr.nil n0
  change Go p.tables e below _ _
  have K0 := Keep.refl h0 []
  refine Go.on (B := sB.setTop (mkF m 0 #[vR a1, vI p2, vI z1, .unset, .unset] [])) (fun t k => castTop (ef_rrb1 m a1 p2 z1) k) ?_
  obtain ⟨_, _, ⟨T1, L1, k1, n1⟩, -, X1, ⟨Lc1, hQ1, lq1, yq1, zq1⟩, st1⟩ := Jvm.LawKit.callS X0 hx (y := MN16) hown (mg hZ hw 171 rfl) (mg hZ hw 172 rfl) (mg hZ hw 166 rfl) (mg hZ hw 173 rfl) (by decide) (backOf (W := 0) (rck l Z a0 hw [] p2 z1 h0 n0 Z0 hr.2.1) hZ (gw hw 173 rfl) (gw hw 166 rfl) (by decide) (by decide)) (g := (mkF m 2 #[vR a1, vI p2, vI z1, .unset, .unset] [(.int z1), (.int p2)])) rfl (by rw [hml]; rfl) (argsL := [(.int p2), (.int z1)]) (rest := []) (lenOf pd_1 rfl) rfl (own_w rfl) (hb hby d39_2) (fun _ _ => ⟨rfl, e0, (by decide : 0 + 0 ≤ _), (by decide : 0 + 0 ≤ _)⟩)
  dsimp only [Pt.U, Pt.locs, Pt.cells, Pt.slots] at X1 lq1 yq1 zq1 st1 hQ1
  subst lq1 yq1 zq1
  obtain ⟨rfl, N1q, e1q⟩ := hQ1
  have N1 := Fr.app N0 N1q
  refine Go.on (B := T1.setTop (mkF m 8 #[vR a1, vI p2, vI z1, .unset, .unset] [(.int (z1 - p2))])) (fun t k => XS.iloadN X0.here hx rfl (hb hby d39_0) rfl (XS.iloadN X0.here hx rfl (hb hby d39_1) rfl (st1 _ (XS.iloadN X1.here hx rfl (hb hby d39_5) rfl (XS.iloadN X1.here hx rfl (hb hby d39_6) rfl (XS.isub X1.here hx rfl (hb hby d39_7) rfl k)))))) ?_
  rw [hr.2.2.1]
  obtain ⟨T3, h3, kq3, X3, e3, Xe3, A3, st3⟩ := newP X1 hx hZ (gw hw 20 rfl) e1q (g := (mkF m 10 #[vR a1, vI p2, vI z1, vI 2, .unset] [(.int 2)])) rfl (hb hby d39_10) rfl (by decide) (cap := 2) (by decide) (by decide) (by decide) (by decide)
  obtain ⟨b3, gq3⟩ : ∃ z, z = h0.size := ⟨_, rfl⟩
  rw [← gq3] at A3 st3
  have ge_b3 : n0 ≤ b3 := Nat.le_trans Z0 (Nat.le_of_eq gq3.symm)
  have sz_b3 : h0.size ≤ b3 := Nat.le_trans K0.1 (Nat.le_of_eq gq3.symm)
  have f1 := V1.ext Xe3
  have Zs2 := Nat.le_trans Z0 Xe3.1
  have K3 := K0.ext Xe3
  have V3 : Arv Z h3 b3 kq3 .byte (2 : Int32) [(.int 0), (.int 0)] (.int 0) := (Arv.new A3 (by decide)).pad (pad_rep [] (.int 0) 2)
  refine Go.on (B := T3.setTop (mkF m 16 #[vR a1, vI p2, vI z1, vI 2, vR b3] [(.int p2), (.ref a1)])) (fun t k => XS.istoreN X1.here hx rfl (hb hby d39_8) rfl (l' := #[vR a1, vI p2, vI z1, vI 2, .unset]) rfl (XS.iloadN X1.here hx rfl (hb hby d39_9) rfl (st3 _ (XS.astore X3.here hx rfl (hb hby d39_12) rfl rfl (l' := #[vR a1, vI p2, vI z1, vI 2, vR b3]) rfl (XS.aloadN X3.here hx rfl (hb hby d39_14) rfl rfl (XS.iloadN X3.here hx rfl (hb hby d39_15) rfl k)))))) ?_
  obtain ⟨cl4, Ar4, -, Sz4, Ng4, -, -⟩ := id f1
  refine Go.on (B := T3.setTop (mkF m 23 #[vR a1, vI p2, vI z1, vI 2, vR b3] [(.int (z1 - p2)), (.int 0), (.ref b3), (.int p2), (.ref a1)])) (fun t k => XS.aload X3.here hx rfl (hb hby d39_16) rfl rfl (XS.iconst X3.here hx rfl (hb hby d39_18) (XS.aloadN X3.here hx rfl (hb hby d39_19) rfl rfl (X3.arraylength hx (by rw [e3]; exact Ar4.1) (State.isArrayOf_alike hZ.alike Ar4.2.1) (g := (mkF m 20 #[vR a1, vI p2, vI z1, vI 2, vR b3] [(.ref a1), (.int 0), (.ref b3), (.int p2), (.ref a1)])) rfl rfl (hb hby d39_20) _ (by rw [len_of Sz4 Ng4]; exact (XS.iloadN X3.here hx rfl (hb hby d39_21) rfl (XS.isub X3.here hx rfl (hb hby d39_22) rfl k))))))) ?_
  rw [hr.2.2.1]
  obtain ⟨_, _, ⟨T5, L5, k5, n5⟩, -, X5, ⟨Lc5, hQ5, lq5, yq5, zq5⟩, st5⟩ := Jvm.LawKit.callS X3 hx (y := MN17) hown (mg hZ hw 174 rfl) (mg hZ hw 175 rfl) (mg hZ hw 176 rfl) (mg hZ hw 177 rfl) (by decide) (backOf (W := 4) (rmn l Z a0 hw [] (2 : Int32) (2 : Int32) h3 n0 Zs2 (by decide)) hZ (gw hw 177 rfl) (gw hw 176 rfl) (by decide) (by decide)) (g := (mkF m 24 #[vR a1, vI p2, vI z1, vI 2, vR b3] [(.int 2), (.int 2), (.int 0), (.ref b3), (.int p2), (.ref a1)])) rfl (by rw [hml]; rfl) (argsL := [(.int 2), (.int 2)]) (rest := [(.int 0), (.ref b3), (.int p2), (.ref a1)]) (lenOf pd_9 rfl) rfl (own_w rfl) (hb hby d39_24) (fun _ _ => ⟨rfl, e3, (by decide : 1 + 0 ≤ _), (by decide : 2 + 0 ≤ _)⟩)
  dsimp only [Pt.U, Pt.locs, Pt.cells, Pt.slots] at X5 lq5 yq5 zq5 st5 hQ5
  subst lq5 yq5 zq5
  obtain ⟨rfl, N5q, e5q⟩ := hQ5
  have N5 := Fr.app N1 N5q
  obtain ⟨T6, h6, L6, X6, e6, N6, K6q, V6q, st6⟩ := cpA X5 hx hZ hown (gw hw 178 rfl) (gw hw 181 rfl) (gw hw 179 rfl) (gw hw 180 rfl) e5q f1 V3 (Or.inl ⟨rfl, rfl⟩) hr.2.2.2.1 (by decide) (by decide) hr.2.2.2.2.1 (by decide) hr.2.2.2.2.2 (by decide) N5 ge_b3 (g := (mkF m 27 #[vR a1, vI p2, vI z1, vI 2, vR b3] [(.int 2), (.int 0), (.ref b3), (.int p2), (.ref a1)])) rfl (by rw [hml]; rfl) rfl (hb hby d39_27) (by decide) (W := 0) (own_w rfl) (by decide)
  have V6 : Arv Z h6 b3 kq3 .byte (2 : Int32) us (.int 0) := Eq.mp (congrArg (fun q => Arv Z h6 b3 kq3 .byte (2 : Int32) q (.int 0)) (List.append_nil us)) V6q
  have K6 := K3.trans K6q (allS (Or.inr sz_b3) all0)
  refine Go.on (B := T6.setTop (mkF m 32 #[vR a1, vI p2, vI z1, vI 2, vR b3] [(.ref b3)])) (fun t k => XS.iloadN X3.here hx rfl (hb hby d39_23) rfl (st5 _ (st6 _ (XS.aload X6.here hx rfl (hb hby d39_30) rfl rfl k)))) ?_
  refine Go.fin X6 (v := some (.ref b3)) (own_nv Bd.returns) Bd.notSynchronized ?_ e6 ⟨⟨_, _, rfl, sz_b3, V6⟩, N6, K6⟩ (by decide) (by decide)
  exact fun _ hr => retOut X6 hx Bd.returns rfl (Or.inr (Or.inr (Or.inr (Or.inr ⟨rfl, rfl, rfl⟩)))) (hb hby d39_32) hr
def Q_rcr2 (Z : State) (a1 : Addr) (p2 : Int32) (z1 : Int32) (k1 : ClassId) (vs : List Value) (us : List Value) (h0 : Heap) (n0 : Nat) (v : Option Value) (h : Heap) (L : List Loc) : Prop := (∃ (b : Addr) (kb : ClassId), v = some (.ref b) ∧ h0.size ≤ b ∧ Arv Z h b kb .byte (2 : Int32) us (.int 0)) ∧ Fr n0 L ∧ Keep h0 h []
theorem rcr2 (l : Launch) (Z : State) (a0 : Array Value) (hw : ∀ d ∈ tables_1, d.before a0 Z = true) (ws : List Jvm.Cond) (a1 : Addr) (p2 : Int32) (z1 : Int32) (k1 : ClassId) (vs : List Value) (us : List Value) (h0 : Heap) (n0 : Nat) (Z0 : n0 ≤ h0.size) (V1 : Arv Z h0 a1 k1 .byte z1 vs (.int 0)) (hr : own_R z1 p2 (2 : Int32) vs us) :
    MetFree l MN20 (head1 (Jvm.Cond.code MN20 jdk_65_method_132_code 3 (some (.array .byte)) :: ws) (rK 2 1 2 80)) (fun a U => a = #[(.ref a1), (.int p2), (.int z1)] ∧ Z.Warmed39 U.vm ∧ U.heap = h0) (fun _ _ _ _ _ => True) (fun _ U o U' => ∃ v L, o = .returned v ∧ Q_rcr2 Z a1 p2 z1 k1 vs us h0 n0 v U'.heap L ∧ FrameEnd U o U' L (rK 2 1 2 80).cells (rK 2 1 2 80).slots) := by
  refine MetFree.of_bodySF (plainFor_of_name pn_31) hisR ?_
  intro p e s m args below meth c sB Bd hml0 hP hK
  obtain ⟨rfl, hZ, hh⟩ := hP
  have hx := Bd.exec
  have hby := Bd.bytes
  have hml : c.maxLocals = 3 := hml0
  have hown : s.vm.findClass "java/util/Arrays" = some m.cls := findClass_of_methodNamed Bd.named
  have X0 : Stand p l e (rK 2 1 2 80) s m #[(.ref a1), (.int p2), (.int z1)] below meth c sB [] 0 0 := Stand.of_body Bd
  have e0 : sB.heap = h0 := by rw [← hh, Bd.state]; rfl
  have N0 := Fr.nil n0
  change Go p.tables e below _ _
  have K0 := Keep.refl h0 []
  refine Go.on (B := sB.setTop (mkF m 0 #[vR a1, vI p2, vI z1] [])) (fun t k => castTop (ef_rcr1 m a1 p2 z1) k) ?_
  have hc1_1 : ¬ (p2 = (0 : Int32)) := hr.1
  obtain ⟨_, _, ⟨T2, L2, k2, n2⟩, -, X2, ⟨Lc2, hQ2, lq2, yq2, zq2⟩, st2⟩ := Jvm.LawKit.callS X0 hx (y := MN19) hown (mg hZ hw 168 rfl) (mg hZ hw 169 rfl) (mg hZ hw 166 rfl) (mg hZ hw 170 rfl) (by decide) (backOf (W := 0) (rrb2 l Z a0 hw [] a1 p2 z1 k1 vs us h0 n0 Z0 V1 hr) hZ (gw hw 170 rfl) (gw hw 166 rfl) (by decide) (by decide)) (g := (mkF m 13 #[vR a1, vI p2, vI z1] [(.int z1), (.int p2), (.ref a1)])) rfl (by rw [hml]; rfl) (argsL := [(.ref a1), (.int p2), (.int z1)]) (rest := []) (lenOf pd_10 rfl) rfl (own_w rfl) (hb hby d38_13) (fun _ _ => ⟨rfl, e0, (by decide : 0 + 1 ≤ _), (by decide : 0 + 2 ≤ _)⟩)
  dsimp only [Pt.U, Pt.locs, Pt.cells, Pt.slots] at X2 lq2 yq2 zq2 st2 hQ2
  subst lq2 yq2 zq2
  obtain ⟨⟨y2, ky2, rfl, sx2, Vy2⟩, N2q, K2q⟩ := hQ2
  have N2 := Fr.app N0 N2q
  have sz_y2 : h0.size ≤ y2 := Nat.le_trans K0.1 sx2
  have K3 := K0.trans K2q all0
  refine Go.on (B := T2.setTop (mkF m 16 #[vR a1, vI p2, vI z1] [(.ref y2)])) (fun t k => XS.iloadN X0.here hx rfl (hb hby d38_0) rfl (XS.ifYes X0.here hx rfl (pc0 := 1) (pc' := 10) rfl (hb hby d38_1) rfl ((if0 _ _).trans (feq hc1_1).2) (by decide) (by decide) (XS.aloadN X0.here hx rfl (hb hby d38_10) rfl rfl (XS.iloadN X0.here hx rfl (hb hby d38_11) rfl (XS.iloadN X0.here hx rfl (hb hby d38_12) rfl (st2 _ k)))))) ?_
  refine Go.fin X2 (v := some (.ref y2)) (own_nv Bd.returns) Bd.notSynchronized ?_ rfl ⟨⟨_, _, rfl, sz_y2, Vy2⟩, N2, K3⟩ (by decide) (by decide)
  exact fun _ hr => retOut X2 hx Bd.returns rfl (Or.inr (Or.inr (Or.inr (Or.inr ⟨rfl, rfl, rfl⟩)))) (hb hby d38_16) hr
def Q_rrb3 (Z : State) (a1 : Addr) (p2 : Int32) (z1 : Int32) (k1 : ClassId) (vs : List Value) (us : List Value) (h0 : Heap) (n0 : Nat) (v : Option Value) (h : Heap) (L : List Loc) : Prop := (∃ (b : Addr) (kb : ClassId), v = some (.ref b) ∧ h0.size ≤ b ∧ Arv Z h b kb .byte (3 : Int32) us (.int 0)) ∧ Fr n0 L ∧ Keep h0 h []
theorem rrb3 (l : Launch) (Z : State) (a0 : Array Value) (hw : ∀ d ∈ tables_1, d.before a0 Z = true) (ws : List Jvm.Cond) (a1 : Addr) (p2 : Int32) (z1 : Int32) (k1 : ClassId) (vs : List Value) (us : List Value) (h0 : Heap) (n0 : Nat) (Z0 : n0 ≤ h0.size) (V1 : Arv Z h0 a1 k1 .byte z1 vs (.int 0)) (hr : own_R z1 p2 (3 : Int32) vs us) :
    MetFree l MN19 (head1 (Jvm.Cond.code MN19 jdk_65_method_133_code 5 (some (.array .byte)) :: ws) (rK 1 1 3 50)) (fun a U => a = #[(.ref a1), (.int p2), (.int z1)] ∧ Z.Warmed39 U.vm ∧ U.heap = h0) (fun _ _ _ _ _ => True) (fun _ U o U' => ∃ v L, o = .returned v ∧ Q_rrb3 Z a1 p2 z1 k1 vs us h0 n0 v U'.heap L ∧ FrameEnd U o U' L (rK 1 1 3 50).cells (rK 1 1 3 50).slots) := by
  refine MetFree.of_bodySF (plainFor_of_name pn_31) hisR ?_
  intro p e s m args below meth c sB Bd hml0 hP hK
  obtain ⟨rfl, hZ, hh⟩ := hP
  have hx := Bd.exec
  have hby := Bd.bytes
  have hml : c.maxLocals = 5 := hml0
  have hown : s.vm.findClass "java/util/Arrays" = some m.cls := findClass_of_methodNamed Bd.named
  have X0 : Stand p l e (rK 1 1 3 50) s m #[(.ref a1), (.int p2), (.int z1)] below meth c sB [] 0 0 := Stand.of_body Bd
  have e0 : sB.heap = h0 := by rw [← hh, Bd.state]; rfl
  have N0 := Fr.nil n0
  change Go p.tables e below _ _
  have K0 := Keep.refl h0 []
  refine Go.on (B := sB.setTop (mkF m 0 #[vR a1, vI p2, vI z1, .unset, .unset] [])) (fun t k => castTop (ef_rrb1 m a1 p2 z1) k) ?_
  obtain ⟨_, _, ⟨T1, L1, k1, n1⟩, -, X1, ⟨Lc1, hQ1, lq1, yq1, zq1⟩, st1⟩ := Jvm.LawKit.callS X0 hx (y := MN16) hown (mg hZ hw 171 rfl) (mg hZ hw 172 rfl) (mg hZ hw 166 rfl) (mg hZ hw 173 rfl) (by decide) (backOf (W := 0) (rck l Z a0 hw [] p2 z1 h0 n0 Z0 hr.2.1) hZ (gw hw 173 rfl) (gw hw 166 rfl) (by decide) (by decide)) (g := (mkF m 2 #[vR a1, vI p2, vI z1, .unset, .unset] [(.int z1), (.int p2)])) rfl (by rw [hml]; rfl) (argsL := [(.int p2), (.int z1)]) (rest := []) (lenOf pd_1 rfl) rfl (own_w rfl) (hb hby d39_2) (fun _ _ => ⟨rfl, e0, (by decide : 0 + 0 ≤ _), (by decide : 0 + 0 ≤ _)⟩)
  dsimp only [Pt.U, Pt.locs, Pt.cells, Pt.slots] at X1 lq1 yq1 zq1 st1 hQ1
  subst lq1 yq1 zq1
  obtain ⟨rfl, N1q, e1q⟩ := hQ1
  have N1 := Fr.app N0 N1q
  refine Go.on (B := T1.setTop (mkF m 8 #[vR a1, vI p2, vI z1, .unset, .unset] [(.int (z1 - p2))])) (fun t k => XS.iloadN X0.here hx rfl (hb hby d39_0) rfl (XS.iloadN X0.here hx rfl (hb hby d39_1) rfl (st1 _ (XS.iloadN X1.here hx rfl (hb hby d39_5) rfl (XS.iloadN X1.here hx rfl (hb hby d39_6) rfl (XS.isub X1.here hx rfl (hb hby d39_7) rfl k)))))) ?_
  rw [hr.2.2.1]
  obtain ⟨T3, h3, kq3, X3, e3, Xe3, A3, st3⟩ := newP X1 hx hZ (gw hw 20 rfl) e1q (g := (mkF m 10 #[vR a1, vI p2, vI z1, vI 3, .unset] [(.int 3)])) rfl (hb hby d39_10) rfl (by decide) (cap := 3) (by decide) (by decide) (by decide) (by decide)
  obtain ⟨b3, gq3⟩ : ∃ z, z = h0.size := ⟨_, rfl⟩
  rw [← gq3] at A3 st3
  have ge_b3 : n0 ≤ b3 := Nat.le_trans Z0 (Nat.le_of_eq gq3.symm)
  have sz_b3 : h0.size ≤ b3 := Nat.le_trans K0.1 (Nat.le_of_eq gq3.symm)
  have f1 := V1.ext Xe3
  have Zs2 := Nat.le_trans Z0 Xe3.1
  have K3 := K0.ext Xe3
  have V3 : Arv Z h3 b3 kq3 .byte (3 : Int32) [(.int 0), (.int 0), (.int 0)] (.int 0) := (Arv.new A3 (by decide)).pad (pad_rep [] (.int 0) 3)
  refine Go.on (B := T3.setTop (mkF m 16 #[vR a1, vI p2, vI z1, vI 3, vR b3] [(.int p2), (.ref a1)])) (fun t k => XS.istoreN X1.here hx rfl (hb hby d39_8) rfl (l' := #[vR a1, vI p2, vI z1, vI 3, .unset]) rfl (XS.iloadN X1.here hx rfl (hb hby d39_9) rfl (st3 _ (XS.astore X3.here hx rfl (hb hby d39_12) rfl rfl (l' := #[vR a1, vI p2, vI z1, vI 3, vR b3]) rfl (XS.aloadN X3.here hx rfl (hb hby d39_14) rfl rfl (XS.iloadN X3.here hx rfl (hb hby d39_15) rfl k)))))) ?_
  obtain ⟨cl4, Ar4, -, Sz4, Ng4, -, -⟩ := id f1
  refine Go.on (B := T3.setTop (mkF m 23 #[vR a1, vI p2, vI z1, vI 3, vR b3] [(.int (z1 - p2)), (.int 0), (.ref b3), (.int p2), (.ref a1)])) (fun t k => XS.aload X3.here hx rfl (hb hby d39_16) rfl rfl (XS.iconst X3.here hx rfl (hb hby d39_18) (XS.aloadN X3.here hx rfl (hb hby d39_19) rfl rfl (X3.arraylength hx (by rw [e3]; exact Ar4.1) (State.isArrayOf_alike hZ.alike Ar4.2.1) (g := (mkF m 20 #[vR a1, vI p2, vI z1, vI 3, vR b3] [(.ref a1), (.int 0), (.ref b3), (.int p2), (.ref a1)])) rfl rfl (hb hby d39_20) _ (by rw [len_of Sz4 Ng4]; exact (XS.iloadN X3.here hx rfl (hb hby d39_21) rfl (XS.isub X3.here hx rfl (hb hby d39_22) rfl k))))))) ?_
  rw [hr.2.2.1]
  obtain ⟨_, _, ⟨T5, L5, k5, n5⟩, -, X5, ⟨Lc5, hQ5, lq5, yq5, zq5⟩, st5⟩ := Jvm.LawKit.callS X3 hx (y := MN17) hown (mg hZ hw 174 rfl) (mg hZ hw 175 rfl) (mg hZ hw 176 rfl) (mg hZ hw 177 rfl) (by decide) (backOf (W := 4) (rmn l Z a0 hw [] (3 : Int32) (3 : Int32) h3 n0 Zs2 (by decide)) hZ (gw hw 177 rfl) (gw hw 176 rfl) (by decide) (by decide)) (g := (mkF m 24 #[vR a1, vI p2, vI z1, vI 3, vR b3] [(.int 3), (.int 3), (.int 0), (.ref b3), (.int p2), (.ref a1)])) rfl (by rw [hml]; rfl) (argsL := [(.int 3), (.int 3)]) (rest := [(.int 0), (.ref b3), (.int p2), (.ref a1)]) (lenOf pd_9 rfl) rfl (own_w rfl) (hb hby d39_24) (fun _ _ => ⟨rfl, e3, (by decide : 1 + 0 ≤ _), (by decide : 3 + 0 ≤ _)⟩)
  dsimp only [Pt.U, Pt.locs, Pt.cells, Pt.slots] at X5 lq5 yq5 zq5 st5 hQ5
  subst lq5 yq5 zq5
  obtain ⟨rfl, N5q, e5q⟩ := hQ5
  have N5 := Fr.app N1 N5q
  obtain ⟨T6, h6, L6, X6, e6, N6, K6q, V6q, st6⟩ := cpA X5 hx hZ hown (gw hw 178 rfl) (gw hw 181 rfl) (gw hw 179 rfl) (gw hw 180 rfl) e5q f1 V3 (Or.inl ⟨rfl, rfl⟩) hr.2.2.2.1 (by decide) (by decide) hr.2.2.2.2.1 (by decide) hr.2.2.2.2.2 (by decide) N5 ge_b3 (g := (mkF m 27 #[vR a1, vI p2, vI z1, vI 3, vR b3] [(.int 3), (.int 0), (.ref b3), (.int p2), (.ref a1)])) rfl (by rw [hml]; rfl) rfl (hb hby d39_27) (by decide) (W := 0) (own_w rfl) (by decide)
  have V6 : Arv Z h6 b3 kq3 .byte (3 : Int32) us (.int 0) := Eq.mp (congrArg (fun q => Arv Z h6 b3 kq3 .byte (3 : Int32) q (.int 0)) (List.append_nil us)) V6q
  have K6 := K3.trans K6q (allS (Or.inr sz_b3) all0)
  refine Go.on (B := T6.setTop (mkF m 32 #[vR a1, vI p2, vI z1, vI 3, vR b3] [(.ref b3)])) (fun t k => XS.iloadN X3.here hx rfl (hb hby d39_23) rfl (st5 _ (st6 _ (XS.aload X6.here hx rfl (hb hby d39_30) rfl rfl k)))) ?_
  refine Go.fin X6 (v := some (.ref b3)) (own_nv Bd.returns) Bd.notSynchronized ?_ e6 ⟨⟨_, _, rfl, sz_b3, V6⟩, N6, K6⟩ (by decide) (by decide)
  exact fun _ hr => retOut X6 hx Bd.returns rfl (Or.inr (Or.inr (Or.inr (Or.inr ⟨rfl, rfl, rfl⟩)))) (hb hby d39_32) hr
def Q_rcr3 (Z : State) (a1 : Addr) (p2 : Int32) (z1 : Int32) (k1 : ClassId) (vs : List Value) (us : List Value) (h0 : Heap) (n0 : Nat) (v : Option Value) (h : Heap) (L : List Loc) : Prop := (∃ (b : Addr) (kb : ClassId), v = some (.ref b) ∧ h0.size ≤ b ∧ Arv Z h b kb .byte (3 : Int32) us (.int 0)) ∧ Fr n0 L ∧ Keep h0 h []
theorem rcr3 (l : Launch) (Z : State) (a0 : Array Value) (hw : ∀ d ∈ tables_1, d.before a0 Z = true) (ws : List Jvm.Cond) (a1 : Addr) (p2 : Int32) (z1 : Int32) (k1 : ClassId) (vs : List Value) (us : List Value) (h0 : Heap) (n0 : Nat) (Z0 : n0 ≤ h0.size) (V1 : Arv Z h0 a1 k1 .byte z1 vs (.int 0)) (hr : own_R z1 p2 (3 : Int32) vs us) :
    MetFree l MN20 (head1 (Jvm.Cond.code MN20 jdk_65_method_132_code 3 (some (.array .byte)) :: ws) (rK 2 1 3 80)) (fun a U => a = #[(.ref a1), (.int p2), (.int z1)] ∧ Z.Warmed39 U.vm ∧ U.heap = h0) (fun _ _ _ _ _ => True) (fun _ U o U' => ∃ v L, o = .returned v ∧ Q_rcr3 Z a1 p2 z1 k1 vs us h0 n0 v U'.heap L ∧ FrameEnd U o U' L (rK 2 1 3 80).cells (rK 2 1 3 80).slots) := by
  refine MetFree.of_bodySF (plainFor_of_name pn_31) hisR ?_
  intro p e s m args below meth c sB Bd hml0 hP hK
  obtain ⟨rfl, hZ, hh⟩ := hP
  have hx := Bd.exec
  have hby := Bd.bytes
  have hml : c.maxLocals = 3 := hml0
  have hown : s.vm.findClass "java/util/Arrays" = some m.cls := findClass_of_methodNamed Bd.named
  have X0 : Stand p l e (rK 2 1 3 80) s m #[(.ref a1), (.int p2), (.int z1)] below meth c sB [] 0 0 := Stand.of_body Bd
  have e0 : sB.heap = h0 := by rw [← hh, Bd.state]; rfl
  have N0 := Fr.nil n0
  change Go p.tables e below _ _
  have K0 := Keep.refl h0 []
  refine Go.on (B := sB.setTop (mkF m 0 #[vR a1, vI p2, vI z1] [])) (fun t k => castTop (ef_rcr1 m a1 p2 z1) k) ?_
  have hc1_1 : ¬ (p2 = (0 : Int32)) := hr.1
  obtain ⟨_, _, ⟨T2, L2, k2, n2⟩, -, X2, ⟨Lc2, hQ2, lq2, yq2, zq2⟩, st2⟩ := Jvm.LawKit.callS X0 hx (y := MN19) hown (mg hZ hw 168 rfl) (mg hZ hw 169 rfl) (mg hZ hw 166 rfl) (mg hZ hw 170 rfl) (by decide) (backOf (W := 0) (rrb3 l Z a0 hw [] a1 p2 z1 k1 vs us h0 n0 Z0 V1 hr) hZ (gw hw 170 rfl) (gw hw 166 rfl) (by decide) (by decide)) (g := (mkF m 13 #[vR a1, vI p2, vI z1] [(.int z1), (.int p2), (.ref a1)])) rfl (by rw [hml]; rfl) (argsL := [(.ref a1), (.int p2), (.int z1)]) (rest := []) (lenOf pd_10 rfl) rfl (own_w rfl) (hb hby d38_13) (fun _ _ => ⟨rfl, e0, (by decide : 0 + 1 ≤ _), (by decide : 0 + 3 ≤ _)⟩)
  dsimp only [Pt.U, Pt.locs, Pt.cells, Pt.slots] at X2 lq2 yq2 zq2 st2 hQ2
  subst lq2 yq2 zq2
  obtain ⟨⟨y2, ky2, rfl, sx2, Vy2⟩, N2q, K2q⟩ := hQ2
  have N2 := Fr.app N0 N2q
  have sz_y2 : h0.size ≤ y2 := Nat.le_trans K0.1 sx2
  have K3 := K0.trans K2q all0
  refine Go.on (B := T2.setTop (mkF m 16 #[vR a1, vI p2, vI z1] [(.ref y2)])) (fun t k => XS.iloadN X0.here hx rfl (hb hby d38_0) rfl (XS.ifYes X0.here hx rfl (pc0 := 1) (pc' := 10) rfl (hb hby d38_1) rfl ((if0 _ _).trans (feq hc1_1).2) (by decide) (by decide) (XS.aloadN X0.here hx rfl (hb hby d38_10) rfl rfl (XS.iloadN X0.here hx rfl (hb hby d38_11) rfl (XS.iloadN X0.here hx rfl (hb hby d38_12) rfl (st2 _ k)))))) ?_
  refine Go.fin X2 (v := some (.ref y2)) (own_nv Bd.returns) Bd.notSynchronized ?_ rfl ⟨⟨_, _, rfl, sz_y2, Vy2⟩, N2, K3⟩ (by decide) (by decide)
  exact fun _ hr => retOut X2 hx Bd.returns rfl (Or.inr (Or.inr (Or.inr (Or.inr ⟨rfl, rfl, rfl⟩)))) (hb hby d38_16) hr
def Q_rrb4 (Z : State) (a1 : Addr) (p2 : Int32) (z1 : Int32) (k1 : ClassId) (vs : List Value) (us : List Value) (h0 : Heap) (n0 : Nat) (v : Option Value) (h : Heap) (L : List Loc) : Prop := (∃ (b : Addr) (kb : ClassId), v = some (.ref b) ∧ h0.size ≤ b ∧ Arv Z h b kb .byte (4 : Int32) us (.int 0)) ∧ Fr n0 L ∧ Keep h0 h []
theorem rrb4 (l : Launch) (Z : State) (a0 : Array Value) (hw : ∀ d ∈ tables_1, d.before a0 Z = true) (ws : List Jvm.Cond) (a1 : Addr) (p2 : Int32) (z1 : Int32) (k1 : ClassId) (vs : List Value) (us : List Value) (h0 : Heap) (n0 : Nat) (Z0 : n0 ≤ h0.size) (V1 : Arv Z h0 a1 k1 .byte z1 vs (.int 0)) (hr : own_R z1 p2 (4 : Int32) vs us) :
    MetFree l MN19 (head1 (Jvm.Cond.code MN19 jdk_65_method_133_code 5 (some (.array .byte)) :: ws) (rK 1 1 4 50)) (fun a U => a = #[(.ref a1), (.int p2), (.int z1)] ∧ Z.Warmed39 U.vm ∧ U.heap = h0) (fun _ _ _ _ _ => True) (fun _ U o U' => ∃ v L, o = .returned v ∧ Q_rrb4 Z a1 p2 z1 k1 vs us h0 n0 v U'.heap L ∧ FrameEnd U o U' L (rK 1 1 4 50).cells (rK 1 1 4 50).slots) := by
  refine MetFree.of_bodySF (plainFor_of_name pn_31) hisR ?_
  intro p e s m args below meth c sB Bd hml0 hP hK
  obtain ⟨rfl, hZ, hh⟩ := hP
  have hx := Bd.exec
  have hby := Bd.bytes
  have hml : c.maxLocals = 5 := hml0
  have hown : s.vm.findClass "java/util/Arrays" = some m.cls := findClass_of_methodNamed Bd.named
  have X0 : Stand p l e (rK 1 1 4 50) s m #[(.ref a1), (.int p2), (.int z1)] below meth c sB [] 0 0 := Stand.of_body Bd
  have e0 : sB.heap = h0 := by rw [← hh, Bd.state]; rfl
  have N0 := Fr.nil n0
  change Go p.tables e below _ _
  have K0 := Keep.refl h0 []
  refine Go.on (B := sB.setTop (mkF m 0 #[vR a1, vI p2, vI z1, .unset, .unset] [])) (fun t k => castTop (ef_rrb1 m a1 p2 z1) k) ?_
  obtain ⟨_, _, ⟨T1, L1, k1, n1⟩, -, X1, ⟨Lc1, hQ1, lq1, yq1, zq1⟩, st1⟩ := Jvm.LawKit.callS X0 hx (y := MN16) hown (mg hZ hw 171 rfl) (mg hZ hw 172 rfl) (mg hZ hw 166 rfl) (mg hZ hw 173 rfl) (by decide) (backOf (W := 0) (rck l Z a0 hw [] p2 z1 h0 n0 Z0 hr.2.1) hZ (gw hw 173 rfl) (gw hw 166 rfl) (by decide) (by decide)) (g := (mkF m 2 #[vR a1, vI p2, vI z1, .unset, .unset] [(.int z1), (.int p2)])) rfl (by rw [hml]; rfl) (argsL := [(.int p2), (.int z1)]) (rest := []) (lenOf pd_1 rfl) rfl (own_w rfl) (hb hby d39_2) (fun _ _ => ⟨rfl, e0, (by decide : 0 + 0 ≤ _), (by decide : 0 + 0 ≤ _)⟩)
  dsimp only [Pt.U, Pt.locs, Pt.cells, Pt.slots] at X1 lq1 yq1 zq1 st1 hQ1
  subst lq1 yq1 zq1
  obtain ⟨rfl, N1q, e1q⟩ := hQ1
  have N1 := Fr.app N0 N1q
  refine Go.on (B := T1.setTop (mkF m 8 #[vR a1, vI p2, vI z1, .unset, .unset] [(.int (z1 - p2))])) (fun t k => XS.iloadN X0.here hx rfl (hb hby d39_0) rfl (XS.iloadN X0.here hx rfl (hb hby d39_1) rfl (st1 _ (XS.iloadN X1.here hx rfl (hb hby d39_5) rfl (XS.iloadN X1.here hx rfl (hb hby d39_6) rfl (XS.isub X1.here hx rfl (hb hby d39_7) rfl k)))))) ?_
  rw [hr.2.2.1]
  obtain ⟨T3, h3, kq3, X3, e3, Xe3, A3, st3⟩ := newP X1 hx hZ (gw hw 20 rfl) e1q (g := (mkF m 10 #[vR a1, vI p2, vI z1, vI 4, .unset] [(.int 4)])) rfl (hb hby d39_10) rfl (by decide) (cap := 4) (by decide) (by decide) (by decide) (by decide)
  obtain ⟨b3, gq3⟩ : ∃ z, z = h0.size := ⟨_, rfl⟩
  rw [← gq3] at A3 st3
  have ge_b3 : n0 ≤ b3 := Nat.le_trans Z0 (Nat.le_of_eq gq3.symm)
  have sz_b3 : h0.size ≤ b3 := Nat.le_trans K0.1 (Nat.le_of_eq gq3.symm)
  have f1 := V1.ext Xe3
  have Zs2 := Nat.le_trans Z0 Xe3.1
  have K3 := K0.ext Xe3
  have V3 : Arv Z h3 b3 kq3 .byte (4 : Int32) [(.int 0), (.int 0), (.int 0), (.int 0)] (.int 0) := (Arv.new A3 (by decide)).pad (pad_rep [] (.int 0) 4)
  refine Go.on (B := T3.setTop (mkF m 16 #[vR a1, vI p2, vI z1, vI 4, vR b3] [(.int p2), (.ref a1)])) (fun t k => XS.istoreN X1.here hx rfl (hb hby d39_8) rfl (l' := #[vR a1, vI p2, vI z1, vI 4, .unset]) rfl (XS.iloadN X1.here hx rfl (hb hby d39_9) rfl (st3 _ (XS.astore X3.here hx rfl (hb hby d39_12) rfl rfl (l' := #[vR a1, vI p2, vI z1, vI 4, vR b3]) rfl (XS.aloadN X3.here hx rfl (hb hby d39_14) rfl rfl (XS.iloadN X3.here hx rfl (hb hby d39_15) rfl k)))))) ?_
  obtain ⟨cl4, Ar4, -, Sz4, Ng4, -, -⟩ := id f1
  refine Go.on (B := T3.setTop (mkF m 23 #[vR a1, vI p2, vI z1, vI 4, vR b3] [(.int (z1 - p2)), (.int 0), (.ref b3), (.int p2), (.ref a1)])) (fun t k => XS.aload X3.here hx rfl (hb hby d39_16) rfl rfl (XS.iconst X3.here hx rfl (hb hby d39_18) (XS.aloadN X3.here hx rfl (hb hby d39_19) rfl rfl (X3.arraylength hx (by rw [e3]; exact Ar4.1) (State.isArrayOf_alike hZ.alike Ar4.2.1) (g := (mkF m 20 #[vR a1, vI p2, vI z1, vI 4, vR b3] [(.ref a1), (.int 0), (.ref b3), (.int p2), (.ref a1)])) rfl rfl (hb hby d39_20) _ (by rw [len_of Sz4 Ng4]; exact (XS.iloadN X3.here hx rfl (hb hby d39_21) rfl (XS.isub X3.here hx rfl (hb hby d39_22) rfl k))))))) ?_
  rw [hr.2.2.1]
  obtain ⟨_, _, ⟨T5, L5, k5, n5⟩, -, X5, ⟨Lc5, hQ5, lq5, yq5, zq5⟩, st5⟩ := Jvm.LawKit.callS X3 hx (y := MN17) hown (mg hZ hw 174 rfl) (mg hZ hw 175 rfl) (mg hZ hw 176 rfl) (mg hZ hw 177 rfl) (by decide) (backOf (W := 4) (rmn l Z a0 hw [] (4 : Int32) (4 : Int32) h3 n0 Zs2 (by decide)) hZ (gw hw 177 rfl) (gw hw 176 rfl) (by decide) (by decide)) (g := (mkF m 24 #[vR a1, vI p2, vI z1, vI 4, vR b3] [(.int 4), (.int 4), (.int 0), (.ref b3), (.int p2), (.ref a1)])) rfl (by rw [hml]; rfl) (argsL := [(.int 4), (.int 4)]) (rest := [(.int 0), (.ref b3), (.int p2), (.ref a1)]) (lenOf pd_9 rfl) rfl (own_w rfl) (hb hby d39_24) (fun _ _ => ⟨rfl, e3, (by decide : 1 + 0 ≤ _), (by decide : 4 + 0 ≤ _)⟩)
  dsimp only [Pt.U, Pt.locs, Pt.cells, Pt.slots] at X5 lq5 yq5 zq5 st5 hQ5
  subst lq5 yq5 zq5
  obtain ⟨rfl, N5q, e5q⟩ := hQ5
  have N5 := Fr.app N1 N5q
  obtain ⟨T6, h6, L6, X6, e6, N6, K6q, V6q, st6⟩ := cpA X5 hx hZ hown (gw hw 178 rfl) (gw hw 181 rfl) (gw hw 179 rfl) (gw hw 180 rfl) e5q f1 V3 (Or.inl ⟨rfl, rfl⟩) hr.2.2.2.1 (by decide) (by decide) hr.2.2.2.2.1 (by decide) hr.2.2.2.2.2 (by decide) N5 ge_b3 (g := (mkF m 27 #[vR a1, vI p2, vI z1, vI 4, vR b3] [(.int 4), (.int 0), (.ref b3), (.int p2), (.ref a1)])) rfl (by rw [hml]; rfl) rfl (hb hby d39_27) (by decide) (W := 0) (own_w rfl) (by decide)
  have V6 : Arv Z h6 b3 kq3 .byte (4 : Int32) us (.int 0) := Eq.mp (congrArg (fun q => Arv Z h6 b3 kq3 .byte (4 : Int32) q (.int 0)) (List.append_nil us)) V6q
  have K6 := K3.trans K6q (allS (Or.inr sz_b3) all0)
  refine Go.on (B := T6.setTop (mkF m 32 #[vR a1, vI p2, vI z1, vI 4, vR b3] [(.ref b3)])) (fun t k => XS.iloadN X3.here hx rfl (hb hby d39_23) rfl (st5 _ (st6 _ (XS.aload X6.here hx rfl (hb hby d39_30) rfl rfl k)))) ?_
  refine Go.fin X6 (v := some (.ref b3)) (own_nv Bd.returns) Bd.notSynchronized ?_ e6 ⟨⟨_, _, rfl, sz_b3, V6⟩, N6, K6⟩ (by decide) (by decide)
  exact fun _ hr => retOut X6 hx Bd.returns rfl (Or.inr (Or.inr (Or.inr (Or.inr ⟨rfl, rfl, rfl⟩)))) (hb hby d39_32) hr
def Q_rcr4 (Z : State) (a1 : Addr) (p2 : Int32) (z1 : Int32) (k1 : ClassId) (vs : List Value) (us : List Value) (h0 : Heap) (n0 : Nat) (v : Option Value) (h : Heap) (L : List Loc) : Prop := (∃ (b : Addr) (kb : ClassId), v = some (.ref b) ∧ h0.size ≤ b ∧ Arv Z h b kb .byte (4 : Int32) us (.int 0)) ∧ Fr n0 L ∧ Keep h0 h []
theorem rcr4 (l : Launch) (Z : State) (a0 : Array Value) (hw : ∀ d ∈ tables_1, d.before a0 Z = true) (ws : List Jvm.Cond) (a1 : Addr) (p2 : Int32) (z1 : Int32) (k1 : ClassId) (vs : List Value) (us : List Value) (h0 : Heap) (n0 : Nat) (Z0 : n0 ≤ h0.size) (V1 : Arv Z h0 a1 k1 .byte z1 vs (.int 0)) (hr : own_R z1 p2 (4 : Int32) vs us) :
    MetFree l MN20 (head1 (Jvm.Cond.code MN20 jdk_65_method_132_code 3 (some (.array .byte)) :: ws) (rK 2 1 4 80)) (fun a U => a = #[(.ref a1), (.int p2), (.int z1)] ∧ Z.Warmed39 U.vm ∧ U.heap = h0) (fun _ _ _ _ _ => True) (fun _ U o U' => ∃ v L, o = .returned v ∧ Q_rcr4 Z a1 p2 z1 k1 vs us h0 n0 v U'.heap L ∧ FrameEnd U o U' L (rK 2 1 4 80).cells (rK 2 1 4 80).slots) := by
  refine MetFree.of_bodySF (plainFor_of_name pn_31) hisR ?_
  intro p e s m args below meth c sB Bd hml0 hP hK
  obtain ⟨rfl, hZ, hh⟩ := hP
  have hx := Bd.exec
  have hby := Bd.bytes
  have hml : c.maxLocals = 3 := hml0
  have hown : s.vm.findClass "java/util/Arrays" = some m.cls := findClass_of_methodNamed Bd.named
  have X0 : Stand p l e (rK 2 1 4 80) s m #[(.ref a1), (.int p2), (.int z1)] below meth c sB [] 0 0 := Stand.of_body Bd
  have e0 : sB.heap = h0 := by rw [← hh, Bd.state]; rfl
  have N0 := Fr.nil n0
  change Go p.tables e below _ _
  have K0 := Keep.refl h0 []
  refine Go.on (B := sB.setTop (mkF m 0 #[vR a1, vI p2, vI z1] [])) (fun t k => castTop (ef_rcr1 m a1 p2 z1) k) ?_
  have hc1_1 : ¬ (p2 = (0 : Int32)) := hr.1
  obtain ⟨_, _, ⟨T2, L2, k2, n2⟩, -, X2, ⟨Lc2, hQ2, lq2, yq2, zq2⟩, st2⟩ := Jvm.LawKit.callS X0 hx (y := MN19) hown (mg hZ hw 168 rfl) (mg hZ hw 169 rfl) (mg hZ hw 166 rfl) (mg hZ hw 170 rfl) (by decide) (backOf (W := 0) (rrb4 l Z a0 hw [] a1 p2 z1 k1 vs us h0 n0 Z0 V1 hr) hZ (gw hw 170 rfl) (gw hw 166 rfl) (by decide) (by decide)) (g := (mkF m 13 #[vR a1, vI p2, vI z1] [(.int z1), (.int p2), (.ref a1)])) rfl (by rw [hml]; rfl) (argsL := [(.ref a1), (.int p2), (.int z1)]) (rest := []) (lenOf pd_10 rfl) rfl (own_w rfl) (hb hby d38_13) (fun _ _ => ⟨rfl, e0, (by decide : 0 + 1 ≤ _), (by decide : 0 + 4 ≤ _)⟩)
  dsimp only [Pt.U, Pt.locs, Pt.cells, Pt.slots] at X2 lq2 yq2 zq2 st2 hQ2
  subst lq2 yq2 zq2
  obtain ⟨⟨y2, ky2, rfl, sx2, Vy2⟩, N2q, K2q⟩ := hQ2
  have N2 := Fr.app N0 N2q
  have sz_y2 : h0.size ≤ y2 := Nat.le_trans K0.1 sx2
  have K3 := K0.trans K2q all0
  refine Go.on (B := T2.setTop (mkF m 16 #[vR a1, vI p2, vI z1] [(.ref y2)])) (fun t k => XS.iloadN X0.here hx rfl (hb hby d38_0) rfl (XS.ifYes X0.here hx rfl (pc0 := 1) (pc' := 10) rfl (hb hby d38_1) rfl ((if0 _ _).trans (feq hc1_1).2) (by decide) (by decide) (XS.aloadN X0.here hx rfl (hb hby d38_10) rfl rfl (XS.iloadN X0.here hx rfl (hb hby d38_11) rfl (XS.iloadN X0.here hx rfl (hb hby d38_12) rfl (st2 _ k)))))) ?_
  refine Go.fin X2 (v := some (.ref y2)) (own_nv Bd.returns) Bd.notSynchronized ?_ rfl ⟨⟨_, _, rfl, sz_y2, Vy2⟩, N2, K3⟩ (by decide) (by decide)
  exact fun _ hr => retOut X2 hx Bd.returns rfl (Or.inr (Or.inr (Or.inr (Or.inr ⟨rfl, rfl, rfl⟩)))) (hb hby d38_16) hr
def Q_rrb6 (Z : State) (a1 : Addr) (p2 : Int32) (z1 : Int32) (k1 : ClassId) (vs : List Value) (us : List Value) (h0 : Heap) (n0 : Nat) (v : Option Value) (h : Heap) (L : List Loc) : Prop := (∃ (b : Addr) (kb : ClassId), v = some (.ref b) ∧ h0.size ≤ b ∧ Arv Z h b kb .byte (6 : Int32) us (.int 0)) ∧ Fr n0 L ∧ Keep h0 h []
theorem rrb6 (l : Launch) (Z : State) (a0 : Array Value) (hw : ∀ d ∈ tables_1, d.before a0 Z = true) (ws : List Jvm.Cond) (a1 : Addr) (p2 : Int32) (z1 : Int32) (k1 : ClassId) (vs : List Value) (us : List Value) (h0 : Heap) (n0 : Nat) (Z0 : n0 ≤ h0.size) (V1 : Arv Z h0 a1 k1 .byte z1 vs (.int 0)) (hr : own_R z1 p2 (6 : Int32) vs us) :
    MetFree l MN19 (head1 (Jvm.Cond.code MN19 jdk_65_method_133_code 5 (some (.array .byte)) :: ws) (rK 1 1 6 50)) (fun a U => a = #[(.ref a1), (.int p2), (.int z1)] ∧ Z.Warmed39 U.vm ∧ U.heap = h0) (fun _ _ _ _ _ => True) (fun _ U o U' => ∃ v L, o = .returned v ∧ Q_rrb6 Z a1 p2 z1 k1 vs us h0 n0 v U'.heap L ∧ FrameEnd U o U' L (rK 1 1 6 50).cells (rK 1 1 6 50).slots) := by
  refine MetFree.of_bodySF (plainFor_of_name pn_31) hisR ?_
  intro p e s m args below meth c sB Bd hml0 hP hK
  obtain ⟨rfl, hZ, hh⟩ := hP
  have hx := Bd.exec
  have hby := Bd.bytes
  have hml : c.maxLocals = 5 := hml0
  have hown : s.vm.findClass "java/util/Arrays" = some m.cls := findClass_of_methodNamed Bd.named
  have X0 : Stand p l e (rK 1 1 6 50) s m #[(.ref a1), (.int p2), (.int z1)] below meth c sB [] 0 0 := Stand.of_body Bd
  have e0 : sB.heap = h0 := by rw [← hh, Bd.state]; rfl
  have N0 := Fr.nil n0
  change Go p.tables e below _ _
  have K0 := Keep.refl h0 []
  refine Go.on (B := sB.setTop (mkF m 0 #[vR a1, vI p2, vI z1, .unset, .unset] [])) (fun t k => castTop (ef_rrb1 m a1 p2 z1) k) ?_
  obtain ⟨_, _, ⟨T1, L1, k1, n1⟩, -, X1, ⟨Lc1, hQ1, lq1, yq1, zq1⟩, st1⟩ := Jvm.LawKit.callS X0 hx (y := MN16) hown (mg hZ hw 171 rfl) (mg hZ hw 172 rfl) (mg hZ hw 166 rfl) (mg hZ hw 173 rfl) (by decide) (backOf (W := 0) (rck l Z a0 hw [] p2 z1 h0 n0 Z0 hr.2.1) hZ (gw hw 173 rfl) (gw hw 166 rfl) (by decide) (by decide)) (g := (mkF m 2 #[vR a1, vI p2, vI z1, .unset, .unset] [(.int z1), (.int p2)])) rfl (by rw [hml]; rfl) (argsL := [(.int p2), (.int z1)]) (rest := []) (lenOf pd_1 rfl) rfl (own_w rfl) (hb hby d39_2) (fun _ _ => ⟨rfl, e0, (by decide : 0 + 0 ≤ _), (by decide : 0 + 0 ≤ _)⟩)
  dsimp only [Pt.U, Pt.locs, Pt.cells, Pt.slots] at X1 lq1 yq1 zq1 st1 hQ1
  subst lq1 yq1 zq1
  obtain ⟨rfl, N1q, e1q⟩ := hQ1
  have N1 := Fr.app N0 N1q
  refine Go.on (B := T1.setTop (mkF m 8 #[vR a1, vI p2, vI z1, .unset, .unset] [(.int (z1 - p2))])) (fun t k => XS.iloadN X0.here hx rfl (hb hby d39_0) rfl (XS.iloadN X0.here hx rfl (hb hby d39_1) rfl (st1 _ (XS.iloadN X1.here hx rfl (hb hby d39_5) rfl (XS.iloadN X1.here hx rfl (hb hby d39_6) rfl (XS.isub X1.here hx rfl (hb hby d39_7) rfl k)))))) ?_
  rw [hr.2.2.1]
  obtain ⟨T3, h3, kq3, X3, e3, Xe3, A3, st3⟩ := newP X1 hx hZ (gw hw 20 rfl) e1q (g := (mkF m 10 #[vR a1, vI p2, vI z1, vI 6, .unset] [(.int 6)])) rfl (hb hby d39_10) rfl (by decide) (cap := 6) (by decide) (by decide) (by decide) (by decide)
  obtain ⟨b3, gq3⟩ : ∃ z, z = h0.size := ⟨_, rfl⟩
  rw [← gq3] at A3 st3
  have ge_b3 : n0 ≤ b3 := Nat.le_trans Z0 (Nat.le_of_eq gq3.symm)
  have sz_b3 : h0.size ≤ b3 := Nat.le_trans K0.1 (Nat.le_of_eq gq3.symm)
  have f1 := V1.ext Xe3
  have Zs2 := Nat.le_trans Z0 Xe3.1
  have K3 := K0.ext Xe3
  have V3 : Arv Z h3 b3 kq3 .byte (6 : Int32) [(.int 0), (.int 0), (.int 0), (.int 0), (.int 0), (.int 0)] (.int 0) := (Arv.new A3 (by decide)).pad (pad_rep [] (.int 0) 6)
  refine Go.on (B := T3.setTop (mkF m 16 #[vR a1, vI p2, vI z1, vI 6, vR b3] [(.int p2), (.ref a1)])) (fun t k => XS.istoreN X1.here hx rfl (hb hby d39_8) rfl (l' := #[vR a1, vI p2, vI z1, vI 6, .unset]) rfl (XS.iloadN X1.here hx rfl (hb hby d39_9) rfl (st3 _ (XS.astore X3.here hx rfl (hb hby d39_12) rfl rfl (l' := #[vR a1, vI p2, vI z1, vI 6, vR b3]) rfl (XS.aloadN X3.here hx rfl (hb hby d39_14) rfl rfl (XS.iloadN X3.here hx rfl (hb hby d39_15) rfl k)))))) ?_
  obtain ⟨cl4, Ar4, -, Sz4, Ng4, -, -⟩ := id f1
  refine Go.on (B := T3.setTop (mkF m 23 #[vR a1, vI p2, vI z1, vI 6, vR b3] [(.int (z1 - p2)), (.int 0), (.ref b3), (.int p2), (.ref a1)])) (fun t k => XS.aload X3.here hx rfl (hb hby d39_16) rfl rfl (XS.iconst X3.here hx rfl (hb hby d39_18) (XS.aloadN X3.here hx rfl (hb hby d39_19) rfl rfl (X3.arraylength hx (by rw [e3]; exact Ar4.1) (State.isArrayOf_alike hZ.alike Ar4.2.1) (g := (mkF m 20 #[vR a1, vI p2, vI z1, vI 6, vR b3] [(.ref a1), (.int 0), (.ref b3), (.int p2), (.ref a1)])) rfl rfl (hb hby d39_20) _ (by rw [len_of Sz4 Ng4]; exact (XS.iloadN X3.here hx rfl (hb hby d39_21) rfl (XS.isub X3.here hx rfl (hb hby d39_22) rfl k))))))) ?_
  rw [hr.2.2.1]
  obtain ⟨_, _, ⟨T5, L5, k5, n5⟩, -, X5, ⟨Lc5, hQ5, lq5, yq5, zq5⟩, st5⟩ := Jvm.LawKit.callS X3 hx (y := MN17) hown (mg hZ hw 174 rfl) (mg hZ hw 175 rfl) (mg hZ hw 176 rfl) (mg hZ hw 177 rfl) (by decide) (backOf (W := 4) (rmn l Z a0 hw [] (6 : Int32) (6 : Int32) h3 n0 Zs2 (by decide)) hZ (gw hw 177 rfl) (gw hw 176 rfl) (by decide) (by decide)) (g := (mkF m 24 #[vR a1, vI p2, vI z1, vI 6, vR b3] [(.int 6), (.int 6), (.int 0), (.ref b3), (.int p2), (.ref a1)])) rfl (by rw [hml]; rfl) (argsL := [(.int 6), (.int 6)]) (rest := [(.int 0), (.ref b3), (.int p2), (.ref a1)]) (lenOf pd_9 rfl) rfl (own_w rfl) (hb hby d39_24) (fun _ _ => ⟨rfl, e3, (by decide : 1 + 0 ≤ _), (by decide : 6 + 0 ≤ _)⟩)
  dsimp only [Pt.U, Pt.locs, Pt.cells, Pt.slots] at X5 lq5 yq5 zq5 st5 hQ5
  subst lq5 yq5 zq5
  obtain ⟨rfl, N5q, e5q⟩ := hQ5
  have N5 := Fr.app N1 N5q
  obtain ⟨T6, h6, L6, X6, e6, N6, K6q, V6q, st6⟩ := cpA X5 hx hZ hown (gw hw 178 rfl) (gw hw 181 rfl) (gw hw 179 rfl) (gw hw 180 rfl) e5q f1 V3 (Or.inl ⟨rfl, rfl⟩) hr.2.2.2.1 (by decide) (by decide) hr.2.2.2.2.1 (by decide) hr.2.2.2.2.2 (by decide) N5 ge_b3 (g := (mkF m 27 #[vR a1, vI p2, vI z1, vI 6, vR b3] [(.int 6), (.int 0), (.ref b3), (.int p2), (.ref a1)])) rfl (by rw [hml]; rfl) rfl (hb hby d39_27) (by decide) (W := 0) (own_w rfl) (by decide)
  have V6 : Arv Z h6 b3 kq3 .byte (6 : Int32) us (.int 0) := Eq.mp (congrArg (fun q => Arv Z h6 b3 kq3 .byte (6 : Int32) q (.int 0)) (List.append_nil us)) V6q
  have K6 := K3.trans K6q (allS (Or.inr sz_b3) all0)
  refine Go.on (B := T6.setTop (mkF m 32 #[vR a1, vI p2, vI z1, vI 6, vR b3] [(.ref b3)])) (fun t k => XS.iloadN X3.here hx rfl (hb hby d39_23) rfl (st5 _ (st6 _ (XS.aload X6.here hx rfl (hb hby d39_30) rfl rfl k)))) ?_
  refine Go.fin X6 (v := some (.ref b3)) (own_nv Bd.returns) Bd.notSynchronized ?_ e6 ⟨⟨_, _, rfl, sz_b3, V6⟩, N6, K6⟩ (by decide) (by decide)
  exact fun _ hr => retOut X6 hx Bd.returns rfl (Or.inr (Or.inr (Or.inr (Or.inr ⟨rfl, rfl, rfl⟩)))) (hb hby d39_32) hr
def Q_rcr6 (Z : State) (a1 : Addr) (p2 : Int32) (z1 : Int32) (k1 : ClassId) (vs : List Value) (us : List Value) (h0 : Heap) (n0 : Nat) (v : Option Value) (h : Heap) (L : List Loc) : Prop := (∃ (b : Addr) (kb : ClassId), v = some (.ref b) ∧ h0.size ≤ b ∧ Arv Z h b kb .byte (6 : Int32) us (.int 0)) ∧ Fr n0 L ∧ Keep h0 h []
theorem rcr6 (l : Launch) (Z : State) (a0 : Array Value) (hw : ∀ d ∈ tables_1, d.before a0 Z = true) (ws : List Jvm.Cond) (a1 : Addr) (p2 : Int32) (z1 : Int32) (k1 : ClassId) (vs : List Value) (us : List Value) (h0 : Heap) (n0 : Nat) (Z0 : n0 ≤ h0.size) (V1 : Arv Z h0 a1 k1 .byte z1 vs (.int 0)) (hr : own_R z1 p2 (6 : Int32) vs us) :
    MetFree l MN20 (head1 (Jvm.Cond.code MN20 jdk_65_method_132_code 3 (some (.array .byte)) :: ws) (rK 2 1 6 80)) (fun a U => a = #[(.ref a1), (.int p2), (.int z1)] ∧ Z.Warmed39 U.vm ∧ U.heap = h0) (fun _ _ _ _ _ => True) (fun _ U o U' => ∃ v L, o = .returned v ∧ Q_rcr6 Z a1 p2 z1 k1 vs us h0 n0 v U'.heap L ∧ FrameEnd U o U' L (rK 2 1 6 80).cells (rK 2 1 6 80).slots) := by
  refine MetFree.of_bodySF (plainFor_of_name pn_31) hisR ?_
  intro p e s m args below meth c sB Bd hml0 hP hK
  obtain ⟨rfl, hZ, hh⟩ := hP
  have hx := Bd.exec
  have hby := Bd.bytes
  have hml : c.maxLocals = 3 := hml0
  have hown : s.vm.findClass "java/util/Arrays" = some m.cls := findClass_of_methodNamed Bd.named
  have X0 : Stand p l e (rK 2 1 6 80) s m #[(.ref a1), (.int p2), (.int z1)] below meth c sB [] 0 0 := Stand.of_body Bd
  have e0 : sB.heap = h0 := by rw [← hh, Bd.state]; rfl
  have N0 := Fr.nil n0
  change Go p.tables e below _ _
  have K0 := Keep.refl h0 []
  refine Go.on (B := sB.setTop (mkF m 0 #[vR a1, vI p2, vI z1] [])) (fun t k => castTop (ef_rcr1 m a1 p2 z1) k) ?_
  have hc1_1 : ¬ (p2 = (0 : Int32)) := hr.1
  obtain ⟨_, _, ⟨T2, L2, k2, n2⟩, -, X2, ⟨Lc2, hQ2, lq2, yq2, zq2⟩, st2⟩ := Jvm.LawKit.callS X0 hx (y := MN19) hown (mg hZ hw 168 rfl) (mg hZ hw 169 rfl) (mg hZ hw 166 rfl) (mg hZ hw 170 rfl) (by decide) (backOf (W := 0) (rrb6 l Z a0 hw [] a1 p2 z1 k1 vs us h0 n0 Z0 V1 hr) hZ (gw hw 170 rfl) (gw hw 166 rfl) (by decide) (by decide)) (g := (mkF m 13 #[vR a1, vI p2, vI z1] [(.int z1), (.int p2), (.ref a1)])) rfl (by rw [hml]; rfl) (argsL := [(.ref a1), (.int p2), (.int z1)]) (rest := []) (lenOf pd_10 rfl) rfl (own_w rfl) (hb hby d38_13) (fun _ _ => ⟨rfl, e0, (by decide : 0 + 1 ≤ _), (by decide : 0 + 6 ≤ _)⟩)
  dsimp only [Pt.U, Pt.locs, Pt.cells, Pt.slots] at X2 lq2 yq2 zq2 st2 hQ2
  subst lq2 yq2 zq2
  obtain ⟨⟨y2, ky2, rfl, sx2, Vy2⟩, N2q, K2q⟩ := hQ2
  have N2 := Fr.app N0 N2q
  have sz_y2 : h0.size ≤ y2 := Nat.le_trans K0.1 sx2
  have K3 := K0.trans K2q all0
  refine Go.on (B := T2.setTop (mkF m 16 #[vR a1, vI p2, vI z1] [(.ref y2)])) (fun t k => XS.iloadN X0.here hx rfl (hb hby d38_0) rfl (XS.ifYes X0.here hx rfl (pc0 := 1) (pc' := 10) rfl (hb hby d38_1) rfl ((if0 _ _).trans (feq hc1_1).2) (by decide) (by decide) (XS.aloadN X0.here hx rfl (hb hby d38_10) rfl rfl (XS.iloadN X0.here hx rfl (hb hby d38_11) rfl (XS.iloadN X0.here hx rfl (hb hby d38_12) rfl (st2 _ k)))))) ?_
  refine Go.fin X2 (v := some (.ref y2)) (own_nv Bd.returns) Bd.notSynchronized ?_ rfl ⟨⟨_, _, rfl, sz_y2, Vy2⟩, N2, K3⟩ (by decide) (by decide)
  exact fun _ hr => retOut X2 hx Bd.returns rfl (Or.inr (Or.inr (Or.inr (Or.inr ⟨rfl, rfl, rfl⟩)))) (hb hby d38_16) hr
theorem d42_0 : decode BC6 0 = .ok (.aload_n 0, 1) := by decide +kernel
theorem d42_1 : decode BC6 1 = .ok (.invokespecial 1, 3) := by decide +kernel
theorem d42_4 : decode BC6 4 = .ok (.aload_n 0, 1) := by decide +kernel
theorem d42_5 : decode BC6 5 = .ok (.aload_n 1, 1) := by decide +kernel
theorem d42_6 : decode BC6 6 = .ok (.putfield 9, 3) := by decide +kernel
theorem d42_9 : decode BC6 9 = .ok (.aload_n 0, 1) := by decide +kernel
theorem d42_10 : decode BC6 10 = .ok (.iload_n 2, 1) := by decide +kernel
theorem d42_11 : decode BC6 11 = .ok (.putfield 15, 3) := by decide +kernel
theorem d42_14 : decode BC6 14 = .ok (.return_, 1) := by decide +kernel
theorem ef_rsb0 (m : MethodId) (a1 : Addr) (a2 : Addr) : entryFrame m #[(.ref a1), (.ref a2), (.int 0)] 3 = mkF m 0 #[vR a1, vR a2, vI 0] [] := rfl
def Q_rsb0 (Z : State) (a1 : Addr) (a2 : Addr) (h0 : Heap) (n0 : Nat) (v : Option Value) (h : Heap) (L : List Loc) : Prop := v = none ∧ Fr n0 L ∧ Keep h0 h [a1] ∧ Exa Z h a1 "java/lang/String" ∧ Fld Z h a1 "java/lang/String" "value" "[B" (.ref a2) ∧ Fld Z h a1 "java/lang/String" "coder" "B" (.int 0)
theorem rsb0 (l : Launch) (Z : State) (a0 : Array Value) (hw : ∀ d ∈ tables_1, d.before a0 Z = true) (ws : List Jvm.Cond) (a1 : Addr) (a2 : Addr) (h0 : Heap) (n0 : Nat) (Z0 : n0 ≤ h0.size) (E1 : Exa Z h0 a1 "java/lang/String") (F_vl : Fld Z h0 a1 "java/lang/String" "value" "[B" .null) (F_cd : Fld Z h0 a1 "java/lang/String" "coder" "B" (.int 0)) (g1 : n0 ≤ a1) :
    MetFree l MN21 (head1 (Jvm.Cond.code MN21 jdk_42_method_151_code 3 none :: ws) (rK 1 0 0 20)) (fun a U => a = #[(.ref a1), (.ref a2), (.int 0)] ∧ Z.Warmed39 U.vm ∧ U.heap = h0) (fun _ _ _ _ _ => True) (fun _ U o U' => ∃ v L, o = .returned v ∧ Q_rsb0 Z a1 a2 h0 n0 v U'.heap L ∧ FrameEnd U o U' L (rK 1 0 0 20).cells (rK 1 0 0 20).slots) := by
  refine MetFree.of_bodySF (plainFor_of_name pn_5) hisR ?_
  intro p e s m args below meth c sB Bd hml0 hP hK
  obtain ⟨rfl, hZ, hh⟩ := hP
  have hx := Bd.exec
  have hby := Bd.bytes
  have hml : c.maxLocals = 3 := hml0
  have hown : s.vm.findClass "java/lang/String" = some m.cls := findClass_of_methodNamed Bd.named
  have hnm := (name_of_methodNamed Bd.named Bd.method).1
  have X0 : Stand p l e (rK 1 0 0 20) s m #[(.ref a1), (.ref a2), (.int 0)] below meth c sB [] 0 0 := Stand.of_body Bd
  have e0 : sB.heap = h0 := by rw [← hh, Bd.state]; rfl
  have N0 := Fr.nil n0
  change Go p.tables e below _ _
  have K0 := Keep.refl h0 [a1]
  refine Go.on (B := sB.setTop (mkF m 0 #[vR a1, vR a2, vI 0] [])) (fun t k => castTop (ef_rsb0 m a1 a2) k) ?_
  obtain ⟨T1, X1, e1, st1⟩ := initO X0 hx hZ hown (gw hw 16 rfl) (gw hw 17 rfl) (gw hw 18 rfl) e0 (g := (mkF m 1 #[vR a1, vR a2, vI 0] [(.ref a1)])) rfl (by rw [hml]; rfl) rfl (hb hby d42_1) (by decide) (W := 0) (own_w rfl) (by decide)
  obtain ⟨T2, h2, X2, e2, W2, st2⟩ := putF X1 hx hZ hown (host := "") (Or.inl (gw hw 25 rfl)) Via.refl e1 F_vl E1 (Or.inr ⟨(gw hw 21 rfl), rfl, hnm⟩) (gw hw 7 rfl) (ty := (.array .byte)) (by decide) rfl rfl (g := (mkF m 6 #[vR a1, vR a2, vI 0] [(.ref a2), (.ref a1)])) rfl rfl (hb hby d42_6)
  have N2 := Fr.snoc X2 N0 g1
  have Fw2 := F_vl.same W2
  have f1 := E1.wr W2
  have f2 := F_cd.other W2 (Or.inr (slot_ne (Or.inr (gw hw 22 rfl)) (Or.inr (gw hw 21 rfl)) (by decide) (t := .byte) (t' := (.array .byte)) (by decide) (by decide)))
  have K4 := K0.wr W2 (Or.inl (List.mem_of_getElem? (i := 0) rfl))
  refine Go.on (B := T2.setTop (mkF m 10 #[vR a1, vR a2, vI 0] [(.ref a1)])) (fun t k => XS.aloadN X0.here hx rfl (hb hby d42_0) rfl rfl (st1 _ (XS.aloadN X1.here hx rfl (hb hby d42_4) rfl rfl (XS.aloadN X1.here hx rfl (hb hby d42_5) rfl rfl (st2 _ (XS.aloadN X2.here hx rfl (hb hby d42_9) rfl rfl k)))))) ?_
  obtain ⟨T3, h3, X3, e3, W3, st3⟩ := putFN X2 hx hZ hown (gw hw 26 rfl) Via.refl e2 f2 f1 (Or.inr ⟨(gw hw 22 rfl), rfl, hnm⟩) (gw hw 7 rfl) (ty := .byte) (v' := (.int 0)) (by decide) rfl (by decide) (g := (mkF m 11 #[vR a1, vR a2, vI 0] [(.int 0), (.ref a1)])) rfl rfl (hb hby d42_11)
  have N3 := Fr.snoc X3 N2 g1
  have Fw3 := f2.same W3
  have f5 := f1.wr W3
  have f6 := Fw2.other W3 (Or.inr (slot_ne (Or.inr (gw hw 21 rfl)) (Or.inr (gw hw 22 rfl)) (by decide) (t := (.array .byte)) (t' := .byte) (by decide) (by decide)))
  have K8 := K4.wr W3 (Or.inl (List.mem_of_getElem? (i := 0) rfl))
  refine Go.on (B := T3.setTop (mkF m 14 #[vR a1, vR a2, vI 0] [])) (fun t k => XS.iloadN X2.here hx rfl (hb hby d42_10) rfl (st3 _ k)) ?_
  refine Go.fin X3 (v := none) (fun _ => rfl) Bd.notSynchronized ?_ e3 ⟨rfl, N3, K8, f5, f6, Fw3⟩ (by decide) (by decide)
  exact fun _ hr => X3.returnOut hx Bd.returns (hb hby d42_14) hr
theorem ef_rsb1 (m : MethodId) (a1 : Addr) (a2 : Addr) : entryFrame m #[(.ref a1), (.ref a2), (.int 1)] 3 = mkF m 0 #[vR a1, vR a2, vI 1] [] := rfl
def Q_rsb1 (Z : State) (a1 : Addr) (a2 : Addr) (h0 : Heap) (n0 : Nat) (v : Option Value) (h : Heap) (L : List Loc) : Prop := v = none ∧ Fr n0 L ∧ Keep h0 h [a1] ∧ Exa Z h a1 "java/lang/String" ∧ Fld Z h a1 "java/lang/String" "value" "[B" (.ref a2) ∧ Fld Z h a1 "java/lang/String" "coder" "B" (.int 1)
theorem rsb1 (l : Launch) (Z : State) (a0 : Array Value) (hw : ∀ d ∈ tables_1, d.before a0 Z = true) (ws : List Jvm.Cond) (a1 : Addr) (a2 : Addr) (h0 : Heap) (n0 : Nat) (Z0 : n0 ≤ h0.size) (E1 : Exa Z h0 a1 "java/lang/String") (F_vl : Fld Z h0 a1 "java/lang/String" "value" "[B" .null) (F_cd : Fld Z h0 a1 "java/lang/String" "coder" "B" (.int 0)) (g1 : n0 ≤ a1) :
    MetFree l MN21 (head1 (Jvm.Cond.code MN21 jdk_42_method_151_code 3 none :: ws) (rK 1 0 0 20)) (fun a U => a = #[(.ref a1), (.ref a2), (.int 1)] ∧ Z.Warmed39 U.vm ∧ U.heap = h0) (fun _ _ _ _ _ => True) (fun _ U o U' => ∃ v L, o = .returned v ∧ Q_rsb1 Z a1 a2 h0 n0 v U'.heap L ∧ FrameEnd U o U' L (rK 1 0 0 20).cells (rK 1 0 0 20).slots) := by
  refine MetFree.of_bodySF (plainFor_of_name pn_5) hisR ?_
  intro p e s m args below meth c sB Bd hml0 hP hK
  obtain ⟨rfl, hZ, hh⟩ := hP
  have hx := Bd.exec
  have hby := Bd.bytes
  have hml : c.maxLocals = 3 := hml0
  have hown : s.vm.findClass "java/lang/String" = some m.cls := findClass_of_methodNamed Bd.named
  have hnm := (name_of_methodNamed Bd.named Bd.method).1
  have X0 : Stand p l e (rK 1 0 0 20) s m #[(.ref a1), (.ref a2), (.int 1)] below meth c sB [] 0 0 := Stand.of_body Bd
  have e0 : sB.heap = h0 := by rw [← hh, Bd.state]; rfl
  have N0 := Fr.nil n0
  change Go p.tables e below _ _
  have K0 := Keep.refl h0 [a1]
  refine Go.on (B := sB.setTop (mkF m 0 #[vR a1, vR a2, vI 1] [])) (fun t k => castTop (ef_rsb1 m a1 a2) k) ?_
  obtain ⟨T1, X1, e1, st1⟩ := initO X0 hx hZ hown (gw hw 16 rfl) (gw hw 17 rfl) (gw hw 18 rfl) e0 (g := (mkF m 1 #[vR a1, vR a2, vI 1] [(.ref a1)])) rfl (by rw [hml]; rfl) rfl (hb hby d42_1) (by decide) (W := 0) (own_w rfl) (by decide)
  obtain ⟨T2, h2, X2, e2, W2, st2⟩ := putF X1 hx hZ hown (host := "") (Or.inl (gw hw 25 rfl)) Via.refl e1 F_vl E1 (Or.inr ⟨(gw hw 21 rfl), rfl, hnm⟩) (gw hw 7 rfl) (ty := (.array .byte)) (by decide) rfl rfl (g := (mkF m 6 #[vR a1, vR a2, vI 1] [(.ref a2), (.ref a1)])) rfl rfl (hb hby d42_6)
  have N2 := Fr.snoc X2 N0 g1
  have Fw2 := F_vl.same W2
  have f1 := E1.wr W2
  have f2 := F_cd.other W2 (Or.inr (slot_ne (Or.inr (gw hw 22 rfl)) (Or.inr (gw hw 21 rfl)) (by decide) (t := .byte) (t' := (.array .byte)) (by decide) (by decide)))
  have K4 := K0.wr W2 (Or.inl (List.mem_of_getElem? (i := 0) rfl))
  refine Go.on (B := T2.setTop (mkF m 10 #[vR a1, vR a2, vI 1] [(.ref a1)])) (fun t k => XS.aloadN X0.here hx rfl (hb hby d42_0) rfl rfl (st1 _ (XS.aloadN X1.here hx rfl (hb hby d42_4) rfl rfl (XS.aloadN X1.here hx rfl (hb hby d42_5) rfl rfl (st2 _ (XS.aloadN X2.here hx rfl (hb hby d42_9) rfl rfl k)))))) ?_
  obtain ⟨T3, h3, X3, e3, W3, st3⟩ := putFN X2 hx hZ hown (gw hw 26 rfl) Via.refl e2 f2 f1 (Or.inr ⟨(gw hw 22 rfl), rfl, hnm⟩) (gw hw 7 rfl) (ty := .byte) (v' := (.int 1)) (by decide) rfl (by decide) (g := (mkF m 11 #[vR a1, vR a2, vI 1] [(.int 1), (.ref a1)])) rfl rfl (hb hby d42_11)
  have N3 := Fr.snoc X3 N2 g1
  have Fw3 := f2.same W3
  have f5 := f1.wr W3
  have f6 := Fw2.other W3 (Or.inr (slot_ne (Or.inr (gw hw 21 rfl)) (Or.inr (gw hw 22 rfl)) (by decide) (t := (.array .byte)) (t' := .byte) (by decide) (by decide)))
  have K8 := K4.wr W3 (Or.inl (List.mem_of_getElem? (i := 0) rfl))
  refine Go.on (B := T3.setTop (mkF m 14 #[vR a1, vR a2, vI 1] [])) (fun t k => XS.iloadN X2.here hx rfl (hb hby d42_10) rfl (st3 _ k)) ?_
  refine Go.fin X3 (v := none) (fun _ => rfl) Bd.notSynchronized ?_ e3 ⟨rfl, N3, K8, f5, f6, Fw3⟩ (by decide) (by decide)
  exact fun _ hr => X3.returnOut hx Bd.returns (hb hby d42_14) hr
theorem d23_0 : decode BC18 0 = .ok (.iload_n 2, 1) := by decide +kernel
theorem d23_1 : decode BC18 1 = .ok (.ifCond .ne 6, 3) := by decide +kernel
theorem d23_4 : decode BC18 4 = .ok (.ldc 151, 2) := by decide +kernel
theorem d23_6 : decode BC18 6 = .ok (.areturn, 1) := by decide +kernel
theorem d23_7 : decode BC18 7 = .ok (.new 1, 3) := by decide +kernel
theorem d23_10 : decode BC18 10 = .ok (.dup, 1) := by decide +kernel
theorem d23_11 : decode BC18 11 = .ok (.aload_n 0, 1) := by decide +kernel
theorem d23_12 : decode BC18 12 = .ok (.iload_n 1, 1) := by decide +kernel
theorem d23_13 : decode BC18 13 = .ok (.iload_n 1, 1) := by decide +kernel
theorem d23_14 : decode BC18 14 = .ok (.iload_n 2, 1) := by decide +kernel
theorem d23_15 : decode BC18 15 = .ok (.iadd, 1) := by decide +kernel
theorem d23_16 : decode BC18 16 = .ok (.invokestatic 232, 3) := by decide +kernel
theorem d23_19 : decode BC18 19 = .ok (.iconst 0, 1) := by decide +kernel
theorem d23_20 : decode BC18 20 = .ok (.invokespecial 112, 3) := by decide +kernel
theorem d23_23 : decode BC18 23 = .ok (.areturn, 1) := by decide +kernel
theorem pd_11 : parseMethodDescriptor "([BB)V" = some ⟨[(.array .byte), .byte], none⟩ := by decide +kernel
theorem ef_rnsL1 (m : MethodId) (a1 : Addr) (p2 : Int32) : entryFrame m #[(.ref a1), (.int p2), (.int 1)] 3 = mkF m 0 #[vR a1, vI p2, vI 1] [] := rfl
def Q_rnsL1 (Z : State) (a1 : Addr) (p2 : Int32) (k1 : ClassId) (z1 : Int32) (vs : List Value) (c0 : Int32) (h0 : Heap) (n0 : Nat) (v : Option Value) (h : Heap) (L : List Loc) : Prop := (∃ (d b : Addr) (kb : ClassId), v = some (.ref d) ∧ Exa Z h d "java/lang/String" ∧ Fld Z h d "java/lang/String" "value" "[B" (.ref b) ∧ own_A Z h d b kb [c0]) ∧ Fr n0 L ∧ Keep h0 h []
theorem rnsL1 (l : Launch) (Z : State) (a0 : Array Value) (hw : ∀ d ∈ tables_1, d.before a0 Z = true) (ws : List Jvm.Cond) (a1 : Addr) (p2 : Int32) (k1 : ClassId) (z1 : Int32) (vs : List Value) (c0 : Int32) (h0 : Heap) (n0 : Nat) (Z0 : n0 ≤ h0.size) (V1 : Arv Z h0 a1 k1 .byte z1 vs (.int 0)) (hadd : (p2 + (1 : Int32)) = z1) (hr : own_R z1 p2 (1 : Int32) vs [(.int (own_l c0))]) (hx0 : ¬ ((255 : Int32) < c0)) :
    MetFree l MN22 (head1 (Jvm.Cond.code MN22 jdk_43_method_47_code 3 (some (.object "java/lang/String")) :: ws) (rK 3 2 5 110)) (fun a U => a = #[(.ref a1), (.int p2), (.int 1)] ∧ Z.Warmed39 U.vm ∧ U.heap = h0) (fun _ _ _ _ _ => True) (fun _ U o U' => ∃ v L, o = .returned v ∧ Q_rnsL1 Z a1 p2 k1 z1 vs c0 h0 n0 v U'.heap L ∧ FrameEnd U o U' L (rK 3 2 5 110).cells (rK 3 2 5 110).slots) := by
  refine MetFree.of_bodySF (plainFor_of_name pn_8) hisR ?_
  intro p e s m args below meth c sB Bd hml0 hP hK
  obtain ⟨rfl, hZ, hh⟩ := hP
  have hx := Bd.exec
  have hby := Bd.bytes
  have hml : c.maxLocals = 3 := hml0
  have hown : s.vm.findClass "java/lang/StringLatin1" = some m.cls := findClass_of_methodNamed Bd.named
  have X0 : Stand p l e (rK 3 2 5 110) s m #[(.ref a1), (.int p2), (.int 1)] below meth c sB [] 0 0 := Stand.of_body Bd
  have e0 : sB.heap = h0 := by rw [← hh, Bd.state]; rfl
  have N0 := Fr.nil n0
  change Go p.tables e below _ _
  have K0 := Keep.refl h0 []
  refine Go.on (B := sB.setTop (mkF m 0 #[vR a1, vI p2, vI 1] [])) (fun t k => castTop (ef_rnsL1 m a1 p2) k) ?_
  have hc1_1 : ¬ ((1 : Int32) = (0 : Int32)) := by decide
  obtain ⟨T2, h2, X2, e2, Xe2, A2, D2, Ue2, st2⟩ := newO X0 hx hZ hown (gw hw 187 rfl) (gw hw 7 rfl) (gw hw 8 rfl) e0 (g := (mkF m 7 #[vR a1, vI p2, vI 1] [])) rfl (hb hby d23_7) (by decide) (by decide)
  obtain ⟨b2, gq2⟩ : ∃ z, z = h0.size := ⟨_, rfl⟩
  rw [← gq2] at A2 D2 Ue2 st2
  have ge_b2 : n0 ≤ b2 := Nat.le_trans Z0 (Nat.le_of_eq gq2.symm)
  have sz_b2 : h0.size ≤ b2 := Nat.le_trans K0.1 (Nat.le_of_eq gq2.symm)
  have f1 := V1.ext Xe2
  have Zs2 := Nat.le_trans Z0 Xe2.1
  have K3 := K0.ext Xe2
  have F2_value : Fld Z h2 b2 "java/lang/String" "value" "[B" .null := D2 (Or.inr (gw hw 21 rfl)) (ty := (.array .byte)) (by decide)
  have F2_coder : Fld Z h2 b2 "java/lang/String" "coder" "B" (.int 0) := D2 (Or.inr (gw hw 22 rfl)) (ty := .byte) (by decide)
  refine Go.on (B := T2.setTop (mkF m 13 #[vR a1, vI p2, vI 1] [(.int p2), (.ref a1), (.ref b2), (.ref b2)])) (fun t k => XS.iloadN X0.here hx rfl (hb hby d23_0) rfl (XS.ifYes X0.here hx rfl (pc0 := 1) (pc' := 7) rfl (hb hby d23_1) rfl ((if0 _ _).trans (feq hc1_1).2) (by decide) (by decide) (st2 _ (XS.dup X2.here hx rfl (hb hby d23_10) rfl rfl (XS.aloadN X2.here hx rfl (hb hby d23_11) rfl rfl (XS.iloadN X2.here hx rfl (hb hby d23_12) rfl k)))))) ?_
  refine Go.on (B := T2.setTop (mkF m 16 #[vR a1, vI p2, vI 1] [(.int (p2 + (1 : Int32))), (.int p2), (.ref a1), (.ref b2), (.ref b2)])) (fun t k => XS.iloadN X2.here hx rfl (hb hby d23_13) rfl (XS.iloadN X2.here hx rfl (hb hby d23_14) rfl (XS.iadd X2.here hx rfl (hb hby d23_15) rfl k))) ?_
  rw [hadd]
  obtain ⟨_, _, ⟨T3, L3, k3, n3⟩, -, X3, ⟨Lc3, hQ3, lq3, yq3, zq3⟩, st3⟩ := Jvm.LawKit.callS X2 hx (y := MN20) hown (mg hZ hw 188 rfl) (mg hZ hw 165 rfl) (mg hZ hw 166 rfl) (mg hZ hw 167 rfl) (by decide) (backOf (W := 2) (rcr1 l Z a0 hw [] a1 p2 z1 k1 vs [(.int (own_l c0))] h2 n0 Zs2 f1 hr) hZ (gw hw 167 rfl) (gw hw 166 rfl) (by decide) (by decide)) (g := (mkF m 16 #[vR a1, vI p2, vI 1] [(.int z1), (.int p2), (.ref a1), (.ref b2), (.ref b2)])) rfl (by rw [hml]; rfl) (argsL := [(.ref a1), (.int p2), (.int z1)]) (rest := [(.ref b2), (.ref b2)]) (lenOf pd_10 rfl) rfl (own_w rfl) (hb hby d23_16) (fun _ _ => ⟨rfl, e2, (by decide : 1 + 1 ≤ _), (by decide : 4 + 1 ≤ _)⟩)
  dsimp only [Pt.U, Pt.locs, Pt.cells, Pt.slots] at X3 lq3 yq3 zq3 st3 hQ3
  subst lq3 yq3 zq3
  obtain ⟨⟨y3, ky3, rfl, sx3, Vy3⟩, N3q, K3q⟩ := hQ3
  have N3 := Fr.app N0 N3q
  have ne_b2_y3 : b2 ≠ y3 := Nat.ne_of_lt (Nat.lt_of_lt_of_le A2.lt sx3)
  have f5 := A2.keep K3q
  have f6 := F2_value.keep K3q nin0
  have f7 := F2_coder.keep K3q nin0
  have Zs8 := Nat.le_trans Zs2 K3q.1
  have K9 := K3.trans K3q all0
  obtain ⟨_, _, ⟨T4, L4, k4, n4⟩, -, X4, ⟨Lc4, hQ4, lq4, yq4, zq4⟩, st4⟩ := X3.specialBack hx (y := MN21) rfl hown (mg hZ hw 189 rfl) (mg hZ hw 185 rfl) (mg hZ hw 186 rfl) (by decide) (backOf (W := 1) (rsb0 l Z a0 hw [] b2 y3 T3.heap n0 Zs8 f5 f6 f7 ge_b2) hZ (gw hw 186 rfl) (gw hw 8 rfl) (by decide) (by decide)) (g := (mkF m 20 #[vR a1, vI p2, vI 1] [(.int 0), (.ref y3), (.ref b2), (.ref b2)])) rfl (by rw [hml]; rfl) (Steps.refl _) (a := b2) (argsL := [(.ref y3), (.int 0)]) (rest := [(.ref b2)]) (lenOf pd_11 rfl) rfl (own_w rfl) (hb hby d23_20) (fun _ _ => ⟨rfl, rfl, (by decide : 2 + 0 ≤ _), (by decide : 5 + 0 ≤ _)⟩)
  dsimp only [Pt.U, Pt.locs, Pt.cells, Pt.slots] at X4 lq4 yq4 zq4 st4 hQ4
  subst lq4 yq4 zq4
  obtain ⟨rfl, N4q, K4q, G4_0, G4_1, G4_2⟩ := hQ4
  have N4 := Fr.app N3 N4q
  have f12 := Vy3.keep K4q (ninS (Ne.symm ne_b2_y3) nin0)
  have K14 := K9.trans K4q (allS (Or.inr sz_b2) all0)
  refine Go.on (B := T4.setTop (mkF m 23 #[vR a1, vI p2, vI 1] [(.ref b2)])) (fun t k => st3 _ (XS.iconst X3.here hx rfl (hb hby d23_19) (st4.trans k))) ?_
  refine Go.fin X4 (v := some (.ref b2)) (own_nv Bd.returns) Bd.notSynchronized ?_ rfl ⟨⟨_, _, _, rfl, G4_0, G4_1, Or.inl ⟨G4_2, f12, (own_allC hx0 own_all0)⟩⟩, N4, K14⟩ (by decide) (by decide)
  exact fun _ hr => retOut X4 hx Bd.returns rfl (Or.inr (Or.inr (Or.inr (Or.inr ⟨rfl, rfl, rfl⟩)))) (hb hby d23_23) hr
theorem ef_rnsL2 (m : MethodId) (a1 : Addr) (p2 : Int32) : entryFrame m #[(.ref a1), (.int p2), (.int 2)] 3 = mkF m 0 #[vR a1, vI p2, vI 2] [] := rfl
def Q_rnsL2 (Z : State) (a1 : Addr) (p2 : Int32) (k1 : ClassId) (z1 : Int32) (vs : List Value) (c0 c1 : Int32) (h0 : Heap) (n0 : Nat) (v : Option Value) (h : Heap) (L : List Loc) : Prop := (∃ (d b : Addr) (kb : ClassId), v = some (.ref d) ∧ Exa Z h d "java/lang/String" ∧ Fld Z h d "java/lang/String" "value" "[B" (.ref b) ∧ own_A Z h d b kb [c0, c1]) ∧ Fr n0 L ∧ Keep h0 h []
theorem rnsL2 (l : Launch) (Z : State) (a0 : Array Value) (hw : ∀ d ∈ tables_1, d.before a0 Z = true) (ws : List Jvm.Cond) (a1 : Addr) (p2 : Int32) (k1 : ClassId) (z1 : Int32) (vs : List Value) (c0 c1 : Int32) (h0 : Heap) (n0 : Nat) (Z0 : n0 ≤ h0.size) (V1 : Arv Z h0 a1 k1 .byte z1 vs (.int 0)) (hadd : (p2 + (2 : Int32)) = z1) (hr : own_R z1 p2 (2 : Int32) vs [(.int (own_l c0)), (.int (own_l c1))]) (hx0 : ¬ ((255 : Int32) < c0)) (hx1 : ¬ ((255 : Int32) < c1)) :
    MetFree l MN22 (head1 (Jvm.Cond.code MN22 jdk_43_method_47_code 3 (some (.object "java/lang/String")) :: ws) (rK 3 2 6 110)) (fun a U => a = #[(.ref a1), (.int p2), (.int 2)] ∧ Z.Warmed39 U.vm ∧ U.heap = h0) (fun _ _ _ _ _ => True) (fun _ U o U' => ∃ v L, o = .returned v ∧ Q_rnsL2 Z a1 p2 k1 z1 vs c0 c1 h0 n0 v U'.heap L ∧ FrameEnd U o U' L (rK 3 2 6 110).cells (rK 3 2 6 110).slots) := by
  refine MetFree.of_bodySF (plainFor_of_name pn_8) hisR ?_
  intro p e s m args below meth c sB Bd hml0 hP hK
  obtain ⟨rfl, hZ, hh⟩ := hP
  have hx := Bd.exec
  have hby := Bd.bytes
  have hml : c.maxLocals = 3 := hml0
  have hown : s.vm.findClass "java/lang/StringLatin1" = some m.cls := findClass_of_methodNamed Bd.named
  have X0 : Stand p l e (rK 3 2 6 110) s m #[(.ref a1), (.int p2), (.int 2)] below meth c sB [] 0 0 := Stand.of_body Bd
  have e0 : sB.heap = h0 := by rw [← hh, Bd.state]; rfl
  have N0 := Fr.nil n0
  change Go p.tables e below _ _
  have K0 := Keep.refl h0 []
  refine Go.on (B := sB.setTop (mkF m 0 #[vR a1, vI p2, vI 2] [])) (fun t k => castTop (ef_rnsL2 m a1 p2) k) ?_
  have hc1_1 : ¬ ((2 : Int32) = (0 : Int32)) := by decide
  obtain ⟨T2, h2, X2, e2, Xe2, A2, D2, Ue2, st2⟩ := newO X0 hx hZ hown (gw hw 187 rfl) (gw hw 7 rfl) (gw hw 8 rfl) e0 (g := (mkF m 7 #[vR a1, vI p2, vI 2] [])) rfl (hb hby d23_7) (by decide) (by decide)
  obtain ⟨b2, gq2⟩ : ∃ z, z = h0.size := ⟨_, rfl⟩
  rw [← gq2] at A2 D2 Ue2 st2
  have ge_b2 : n0 ≤ b2 := Nat.le_trans Z0 (Nat.le_of_eq gq2.symm)
  have sz_b2 : h0.size ≤ b2 := Nat.le_trans K0.1 (Nat.le_of_eq gq2.symm)
  have f1 := V1.ext Xe2
  have Zs2 := Nat.le_trans Z0 Xe2.1
  have K3 := K0.ext Xe2
  have F2_value : Fld Z h2 b2 "java/lang/String" "value" "[B" .null := D2 (Or.inr (gw hw 21 rfl)) (ty := (.array .byte)) (by decide)
  have F2_coder : Fld Z h2 b2 "java/lang/String" "coder" "B" (.int 0) := D2 (Or.inr (gw hw 22 rfl)) (ty := .byte) (by decide)
  refine Go.on (B := T2.setTop (mkF m 13 #[vR a1, vI p2, vI 2] [(.int p2), (.ref a1), (.ref b2), (.ref b2)])) (fun t k => XS.iloadN X0.here hx rfl (hb hby d23_0) rfl (XS.ifYes X0.here hx rfl (pc0 := 1) (pc' := 7) rfl (hb hby d23_1) rfl ((if0 _ _).trans (feq hc1_1).2) (by decide) (by decide) (st2 _ (XS.dup X2.here hx rfl (hb hby d23_10) rfl rfl (XS.aloadN X2.here hx rfl (hb hby d23_11) rfl rfl (XS.iloadN X2.here hx rfl (hb hby d23_12) rfl k)))))) ?_
  refine Go.on (B := T2.setTop (mkF m 16 #[vR a1, vI p2, vI 2] [(.int (p2 + (2 : Int32))), (.int p2), (.ref a1), (.ref b2), (.ref b2)])) (fun t k => XS.iloadN X2.here hx rfl (hb hby d23_13) rfl (XS.iloadN X2.here hx rfl (hb hby d23_14) rfl (XS.iadd X2.here hx rfl (hb hby d23_15) rfl k))) ?_
  rw [hadd]
  obtain ⟨_, _, ⟨T3, L3, k3, n3⟩, -, X3, ⟨Lc3, hQ3, lq3, yq3, zq3⟩, st3⟩ := Jvm.LawKit.callS X2 hx (y := MN20) hown (mg hZ hw 188 rfl) (mg hZ hw 165 rfl) (mg hZ hw 166 rfl) (mg hZ hw 167 rfl) (by decide) (backOf (W := 2) (rcr2 l Z a0 hw [] a1 p2 z1 k1 vs [(.int (own_l c0)), (.int (own_l c1))] h2 n0 Zs2 f1 hr) hZ (gw hw 167 rfl) (gw hw 166 rfl) (by decide) (by decide)) (g := (mkF m 16 #[vR a1, vI p2, vI 2] [(.int z1), (.int p2), (.ref a1), (.ref b2), (.ref b2)])) rfl (by rw [hml]; rfl) (argsL := [(.ref a1), (.int p2), (.int z1)]) (rest := [(.ref b2), (.ref b2)]) (lenOf pd_10 rfl) rfl (own_w rfl) (hb hby d23_16) (fun _ _ => ⟨rfl, e2, (by decide : 1 + 1 ≤ _), (by decide : 4 + 2 ≤ _)⟩)
  dsimp only [Pt.U, Pt.locs, Pt.cells, Pt.slots] at X3 lq3 yq3 zq3 st3 hQ3
  subst lq3 yq3 zq3
  obtain ⟨⟨y3, ky3, rfl, sx3, Vy3⟩, N3q, K3q⟩ := hQ3
  have N3 := Fr.app N0 N3q
  have ne_b2_y3 : b2 ≠ y3 := Nat.ne_of_lt (Nat.lt_of_lt_of_le A2.lt sx3)
  have f5 := A2.keep K3q
  have f6 := F2_value.keep K3q nin0
  have f7 := F2_coder.keep K3q nin0
  have Zs8 := Nat.le_trans Zs2 K3q.1
  have K9 := K3.trans K3q all0
  obtain ⟨_, _, ⟨T4, L4, k4, n4⟩, -, X4, ⟨Lc4, hQ4, lq4, yq4, zq4⟩, st4⟩ := X3.specialBack hx (y := MN21) rfl hown (mg hZ hw 189 rfl) (mg hZ hw 185 rfl) (mg hZ hw 186 rfl) (by decide) (backOf (W := 1) (rsb0 l Z a0 hw [] b2 y3 T3.heap n0 Zs8 f5 f6 f7 ge_b2) hZ (gw hw 186 rfl) (gw hw 8 rfl) (by decide) (by decide)) (g := (mkF m 20 #[vR a1, vI p2, vI 2] [(.int 0), (.ref y3), (.ref b2), (.ref b2)])) rfl (by rw [hml]; rfl) (Steps.refl _) (a := b2) (argsL := [(.ref y3), (.int 0)]) (rest := [(.ref b2)]) (lenOf pd_11 rfl) rfl (own_w rfl) (hb hby d23_20) (fun _ _ => ⟨rfl, rfl, (by decide : 2 + 0 ≤ _), (by decide : 6 + 0 ≤ _)⟩)
  dsimp only [Pt.U, Pt.locs, Pt.cells, Pt.slots] at X4 lq4 yq4 zq4 st4 hQ4
  subst lq4 yq4 zq4
  obtain ⟨rfl, N4q, K4q, G4_0, G4_1, G4_2⟩ := hQ4
  have N4 := Fr.app N3 N4q
  have f12 := Vy3.keep K4q (ninS (Ne.symm ne_b2_y3) nin0)
  have K14 := K9.trans K4q (allS (Or.inr sz_b2) all0)
  refine Go.on (B := T4.setTop (mkF m 23 #[vR a1, vI p2, vI 2] [(.ref b2)])) (fun t k => st3 _ (XS.iconst X3.here hx rfl (hb hby d23_19) (st4.trans k))) ?_
  refine Go.fin X4 (v := some (.ref b2)) (own_nv Bd.returns) Bd.notSynchronized ?_ rfl ⟨⟨_, _, _, rfl, G4_0, G4_1, Or.inl ⟨G4_2, f12, (own_allC hx0 (own_allC hx1 own_all0))⟩⟩, N4, K14⟩ (by decide) (by decide)
  exact fun _ hr => retOut X4 hx Bd.returns rfl (Or.inr (Or.inr (Or.inr (Or.inr ⟨rfl, rfl, rfl⟩)))) (hb hby d23_23) hr
theorem ef_rnsL3 (m : MethodId) (a1 : Addr) (p2 : Int32) : entryFrame m #[(.ref a1), (.int p2), (.int 3)] 3 = mkF m 0 #[vR a1, vI p2, vI 3] [] := rfl
def Q_rnsL3 (Z : State) (a1 : Addr) (p2 : Int32) (k1 : ClassId) (z1 : Int32) (vs : List Value) (c0 c1 c2 : Int32) (h0 : Heap) (n0 : Nat) (v : Option Value) (h : Heap) (L : List Loc) : Prop := (∃ (d b : Addr) (kb : ClassId), v = some (.ref d) ∧ Exa Z h d "java/lang/String" ∧ Fld Z h d "java/lang/String" "value" "[B" (.ref b) ∧ own_A Z h d b kb [c0, c1, c2]) ∧ Fr n0 L ∧ Keep h0 h []
theorem rnsL3 (l : Launch) (Z : State) (a0 : Array Value) (hw : ∀ d ∈ tables_1, d.before a0 Z = true) (ws : List Jvm.Cond) (a1 : Addr) (p2 : Int32) (k1 : ClassId) (z1 : Int32) (vs : List Value) (c0 c1 c2 : Int32) (h0 : Heap) (n0 : Nat) (Z0 : n0 ≤ h0.size) (V1 : Arv Z h0 a1 k1 .byte z1 vs (.int 0)) (hadd : (p2 + (3 : Int32)) = z1) (hr : own_R z1 p2 (3 : Int32) vs [(.int (own_l c0)), (.int (own_l c1)), (.int (own_l c2))]) (hx0 : ¬ ((255 : Int32) < c0)) (hx1 : ¬ ((255 : Int32) < c1)) (hx2 : ¬ ((255 : Int32) < c2)) :
    MetFree l MN22 (head1 (Jvm.Cond.code MN22 jdk_43_method_47_code 3 (some (.object "java/lang/String")) :: ws) (rK 3 2 7 110)) (fun a U => a = #[(.ref a1), (.int p2), (.int 3)] ∧ Z.Warmed39 U.vm ∧ U.heap = h0) (fun _ _ _ _ _ => True) (fun _ U o U' => ∃ v L, o = .returned v ∧ Q_rnsL3 Z a1 p2 k1 z1 vs c0 c1 c2 h0 n0 v U'.heap L ∧ FrameEnd U o U' L (rK 3 2 7 110).cells (rK 3 2 7 110).slots) := by
  refine MetFree.of_bodySF (plainFor_of_name pn_8) hisR ?_
  intro p e s m args below meth c sB Bd hml0 hP hK
  obtain ⟨rfl, hZ, hh⟩ := hP
  have hx := Bd.exec
  have hby := Bd.bytes
  have hml : c.maxLocals = 3 := hml0
  have hown : s.vm.findClass "java/lang/StringLatin1" = some m.cls := findClass_of_methodNamed Bd.named
  have X0 : Stand p l e (rK 3 2 7 110) s m #[(.ref a1), (.int p2), (.int 3)] below meth c sB [] 0 0 := Stand.of_body Bd
  have e0 : sB.heap = h0 := by rw [← hh, Bd.state]; rfl
  have N0 := Fr.nil n0
  change Go p.tables e below _ _
  have K0 := Keep.refl h0 []
  refine Go.on (B := sB.setTop (mkF m 0 #[vR a1, vI p2, vI 3] [])) (fun t k => castTop (ef_rnsL3 m a1 p2) k) ?_
  have hc1_1 : ¬ ((3 : Int32) = (0 : Int32)) := by decide
  obtain ⟨T2, h2, X2, e2, Xe2, A2, D2, Ue2, st2⟩ := newO X0 hx hZ hown (gw hw 187 rfl) (gw hw 7 rfl) (gw hw 8 rfl) e0 (g := (mkF m 7 #[vR a1, vI p2, vI 3] [])) rfl (hb hby d23_7) (by decide) (by decide)
  obtain ⟨b2, gq2⟩ : ∃ z, z = h0.size := ⟨_, rfl⟩
  rw [← gq2] at A2 D2 Ue2 st2
  have ge_b2 : n0 ≤ b2 := Nat.le_trans Z0 (Nat.le_of_eq gq2.symm)
  have sz_b2 : h0.size ≤ b2 := Nat.le_trans K0.1 (Nat.le_of_eq gq2.symm)
  have f1 := V1.ext Xe2
  have Zs2 := Nat.le_trans Z0 Xe2.1
  have K3 := K0.ext Xe2
  have F2_value : Fld Z h2 b2 "java/lang/String" "value" "[B" .null := D2 (Or.inr (gw hw 21 rfl)) (ty := (.array .byte)) (by decide)
  have F2_coder : Fld Z h2 b2 "java/lang/String" "coder" "B" (.int 0) := D2 (Or.inr (gw hw 22 rfl)) (ty := .byte) (by decide)
  refine Go.on (B := T2.setTop (mkF m 13 #[vR a1, vI p2, vI 3] [(.int p2), (.ref a1), (.ref b2), (.ref b2)])) (fun t k => XS.iloadN X0.here hx rfl (hb hby d23_0) rfl (XS.ifYes X0.here hx rfl (pc0 := 1) (pc' := 7) rfl (hb hby d23_1) rfl ((if0 _ _).trans (feq hc1_1).2) (by decide) (by decide) (st2 _ (XS.dup X2.here hx rfl (hb hby d23_10) rfl rfl (XS.aloadN X2.here hx rfl (hb hby d23_11) rfl rfl (XS.iloadN X2.here hx rfl (hb hby d23_12) rfl k)))))) ?_
  refine Go.on (B := T2.setTop (mkF m 16 #[vR a1, vI p2, vI 3] [(.int (p2 + (3 : Int32))), (.int p2), (.ref a1), (.ref b2), (.ref b2)])) (fun t k => XS.iloadN X2.here hx rfl (hb hby d23_13) rfl (XS.iloadN X2.here hx rfl (hb hby d23_14) rfl (XS.iadd X2.here hx rfl (hb hby d23_15) rfl k))) ?_
  rw [hadd]
  obtain ⟨_, _, ⟨T3, L3, k3, n3⟩, -, X3, ⟨Lc3, hQ3, lq3, yq3, zq3⟩, st3⟩ := Jvm.LawKit.callS X2 hx (y := MN20) hown (mg hZ hw 188 rfl) (mg hZ hw 165 rfl) (mg hZ hw 166 rfl) (mg hZ hw 167 rfl) (by decide) (backOf (W := 2) (rcr3 l Z a0 hw [] a1 p2 z1 k1 vs [(.int (own_l c0)), (.int (own_l c1)), (.int (own_l c2))] h2 n0 Zs2 f1 hr) hZ (gw hw 167 rfl) (gw hw 166 rfl) (by decide) (by decide)) (g := (mkF m 16 #[vR a1, vI p2, vI 3] [(.int z1), (.int p2), (.ref a1), (.ref b2), (.ref b2)])) rfl (by rw [hml]; rfl) (argsL := [(.ref a1), (.int p2), (.int z1)]) (rest := [(.ref b2), (.ref b2)]) (lenOf pd_10 rfl) rfl (own_w rfl) (hb hby d23_16) (fun _ _ => ⟨rfl, e2, (by decide : 1 + 1 ≤ _), (by decide : 4 + 3 ≤ _)⟩)
  dsimp only [Pt.U, Pt.locs, Pt.cells, Pt.slots] at X3 lq3 yq3 zq3 st3 hQ3
  subst lq3 yq3 zq3
  obtain ⟨⟨y3, ky3, rfl, sx3, Vy3⟩, N3q, K3q⟩ := hQ3
  have N3 := Fr.app N0 N3q
  have ne_b2_y3 : b2 ≠ y3 := Nat.ne_of_lt (Nat.lt_of_lt_of_le A2.lt sx3)
  have f5 := A2.keep K3q
  have f6 := F2_value.keep K3q nin0
  have f7 := F2_coder.keep K3q nin0
  have Zs8 := Nat.le_trans Zs2 K3q.1
  have K9 := K3.trans K3q all0
  obtain ⟨_, _, ⟨T4, L4, k4, n4⟩, -, X4, ⟨Lc4, hQ4, lq4, yq4, zq4⟩, st4⟩ := X3.specialBack hx (y := MN21) rfl hown (mg hZ hw 189 rfl) (mg hZ hw 185 rfl) (mg hZ hw 186 rfl) (by decide) (backOf (W := 1) (rsb0 l Z a0 hw [] b2 y3 T3.heap n0 Zs8 f5 f6 f7 ge_b2) hZ (gw hw 186 rfl) (gw hw 8 rfl) (by decide) (by decide)) (g := (mkF m 20 #[vR a1, vI p2, vI 3] [(.int 0), (.ref y3), (.ref b2), (.ref b2)])) rfl (by rw [hml]; rfl) (Steps.refl _) (a := b2) (argsL := [(.ref y3), (.int 0)]) (rest := [(.ref b2)]) (lenOf pd_11 rfl) rfl (own_w rfl) (hb hby d23_20) (fun _ _ => ⟨rfl, rfl, (by decide : 2 + 0 ≤ _), (by decide : 7 + 0 ≤ _)⟩)
  dsimp only [Pt.U, Pt.locs, Pt.cells, Pt.slots] at X4 lq4 yq4 zq4 st4 hQ4
  subst lq4 yq4 zq4
  obtain ⟨rfl, N4q, K4q, G4_0, G4_1, G4_2⟩ := hQ4
  have N4 := Fr.app N3 N4q
  have f12 := Vy3.keep K4q (ninS (Ne.symm ne_b2_y3) nin0)
  have K14 := K9.trans K4q (allS (Or.inr sz_b2) all0)
  refine Go.on (B := T4.setTop (mkF m 23 #[vR a1, vI p2, vI 3] [(.ref b2)])) (fun t k => st3 _ (XS.iconst X3.here hx rfl (hb hby d23_19) (st4.trans k))) ?_
  refine Go.fin X4 (v := some (.ref b2)) (own_nv Bd.returns) Bd.notSynchronized ?_ rfl ⟨⟨_, _, _, rfl, G4_0, G4_1, Or.inl ⟨G4_2, f12, (own_allC hx0 (own_allC hx1 (own_allC hx2 own_all0)))⟩⟩, N4, K14⟩ (by decide) (by decide)
  exact fun _ hr => retOut X4 hx Bd.returns rfl (Or.inr (Or.inr (Or.inr (Or.inr ⟨rfl, rfl, rfl⟩)))) (hb hby d23_23) hr
theorem ef_rnsL0 (m : MethodId) (a1 : Addr) (p2 : Int32) : entryFrame m #[(.ref a1), (.int p2), (.int 0)] 3 = mkF m 0 #[vR a1, vI p2, vI 0] [] := rfl
def Q_rnsL0 (Z : State) (a1 : Addr) (p2 : Int32) (h0 : Heap) (n0 : Nat) (v : Option Value) (h : Heap) (L : List Loc) : Prop := (∃ (d b : Addr) (kb : ClassId), v = some (.ref d) ∧ Exa Z h d "java/lang/String" ∧ Fld Z h d "java/lang/String" "value" "[B" (.ref b) ∧ own_A Z h d b kb []) ∧ Fr n0 L ∧ Keep h0 h []
theorem rnsL0 (l : Launch) (Z : State) (a0 : Array Value) (hw : ∀ d ∈ tables_1, d.before a0 Z = true) (ws : List Jvm.Cond) (a1 : Addr) (p2 : Int32) (h0 : Heap) (n0 : Nat) (Z0 : n0 ≤ h0.size) (O0 : Old Z n0 h0) (HH : own_H Z a0) :
    MetFree l MN22 (head1 (Jvm.Cond.code MN22 jdk_43_method_47_code 3 (some (.object "java/lang/String")) :: ws) (rK 0 2 4 0)) (fun a U => a = #[(.ref a1), (.int p2), (.int 0)] ∧ Z.Warmed39 U.vm ∧ U.heap = h0 ∧ IB Z U.vm []) (fun _ _ _ _ _ => True) (fun _ U o U' => ∃ v L, o = .returned v ∧ Q_rnsL0 Z a1 p2 h0 n0 v U'.heap L ∧ ReturnedEndW U o U' L (rK 0 2 4 0).cells (rK 0 2 4 0).slots) := by
  refine MetFree.of_bodySF (plainFor_of_name pn_8) hisR ?_
  intro p e s m args below meth c sB Bd hml0 hP hK
  obtain ⟨rfl, hZ, hh, hI⟩ := hP
  have hx := Bd.exec
  have hby := Bd.bytes
  have hown : s.vm.findClass "java/lang/StringLatin1" = some m.cls := findClass_of_methodNamed Bd.named
  have X0 : Stand p l e (rK 0 2 4 0) s m #[(.ref a1), (.int p2), (.int 0)] below meth c sB [] 0 0 := Stand.of_body Bd
  have e0 : sB.heap = h0 := by rw [← hh, Bd.state]; rfl
  have N0 := Fr.nil n0
  change Go p.tables e below _ _
  have K0 := Keep.refl h0 []
  refine Go.on (B := sB.setTop (mkF m 0 #[vR a1, vI p2, vI 0] [])) (fun t k => castTop (ef_rnsL0 m a1 p2) k) ?_
  have hc1_1 : (0 : Int32) = (0 : Int32) := by decide
  refine Go.on (B := sB.setTop (mkF m 4 #[vR a1, vI p2, vI 0] [])) (fun t k => XS.iloadN X0.here hx rfl (hb hby d23_0) rfl (XS.ifNo X0.here hx rfl (hb hby d23_1) rfl ((if0 _ _).trans (teq hc1_1).2) k)) ?_
  obtain ⟨b2, T2, h2, d2, k2, K12, X2, e2, Xe2, hS2, Y2, hZ, hown, A2, F2c, F2v, V2, Lt2, st2⟩ := own_ldcE X0 hx hZ hown (gw hw 114 rfl) (own_wS hw) e0 (Fr.nil _) (by rw [hh]; exact O0.2) (by rw [hh]; exact Nat.le_refl _) hI HH.2.2.1 HH.1 (g := (mkF m 4 #[vR a1, vI p2, vI 0] [])) rfl (hb hby d23_4) (by decide) (by decide)
  have K3 := K0.ext Xe2
  refine Go.on (B := T2.setTop (mkF m 6 #[vR a1, vI p2, vI 0] [(.ref b2)])) (fun t k => st2 _ k) ?_
  refine Go.finW X2 hS2 (by rw [e2]; exact Y2) (v := some (.ref b2)) (own_nv Bd.returns) Bd.notSynchronized ?_ e2 ⟨⟨_, _, _, rfl, A2, F2v, Or.inl ⟨F2c, V2, own_all0⟩⟩, N0, K3⟩ (by decide) (by decide)
  exact fun _ hr => retOut X2 hx Bd.returns rfl (Or.inr (Or.inr (Or.inr (Or.inr ⟨rfl, rfl, rfl⟩)))) (hb hby d23_6) hr
theorem d29_0 : decode BC29 0 = .ok (.iload_n 2, 1) := by decide +kernel
theorem d29_1 : decode BC29 1 = .ok (.ifCond .ne 7, 3) := by decide +kernel
theorem d29_4 : decode BC29 4 = .ok (.ldc_w 295, 3) := by decide +kernel
theorem d29_7 : decode BC29 7 = .ok (.areturn, 1) := by decide +kernel
theorem d29_8 : decode BC29 8 = .ok (.getstatic 251, 3) := by decide +kernel
theorem d29_11 : decode BC29 11 = .ok (.ifCond .eq 28, 3) := by decide +kernel
theorem d29_14 : decode BC29 14 = .ok (.aload_n 0, 1) := by decide +kernel
theorem d29_15 : decode BC29 15 = .ok (.iload_n 1, 1) := by decide +kernel
theorem d29_16 : decode BC29 16 = .ok (.iload_n 2, 1) := by decide +kernel
theorem d29_17 : decode BC29 17 = .ok (.invokestatic 257, 3) := by decide +kernel
theorem d29_20 : decode BC29 20 = .ok (.astore_n 3, 1) := by decide +kernel
theorem d29_21 : decode BC29 21 = .ok (.aload_n 3, 1) := by decide +kernel
theorem d29_22 : decode BC29 22 = .ok (.iload_n 2, 1) := by decide +kernel
theorem d29_23 : decode BC29 23 = .ok (.invokestatic 259, 3) := by decide +kernel
theorem d29_26 : decode BC29 26 = .ok (.istore 4, 2) := by decide +kernel
theorem d29_28 : decode BC29 28 = .ok (.new 3, 3) := by decide +kernel
theorem d29_31 : decode BC29 31 = .ok (.dup, 1) := by decide +kernel
theorem d29_32 : decode BC29 32 = .ok (.aload_n 3, 1) := by decide +kernel
theorem d29_33 : decode BC29 33 = .ok (.iload 4, 2) := by decide +kernel
theorem d29_35 : decode BC29 35 = .ok (.invokespecial 263, 3) := by decide +kernel
theorem d29_38 : decode BC29 38 = .ok (.areturn, 1) := by decide +kernel
theorem ef_rnsU0 (m : MethodId) (a1 : Addr) (p2 : Int32) : entryFrame m #[(.ref a1), (.int p2), (.int 0)] 5 = mkF m 0 #[vR a1, vI p2, vI 0, .unset, .unset] [] := rfl
def Q_rnsU0 (Z : State) (a1 : Addr) (p2 : Int32) (h0 : Heap) (n0 : Nat) (v : Option Value) (h : Heap) (L : List Loc) : Prop := (∃ (d b : Addr) (kb : ClassId), v = some (.ref d) ∧ Exa Z h d "java/lang/String" ∧ Fld Z h d "java/lang/String" "value" "[B" (.ref b) ∧ own_A Z h d b kb []) ∧ Fr n0 L ∧ Keep h0 h []
theorem rnsU0 (l : Launch) (Z : State) (a0 : Array Value) (hw : ∀ d ∈ tables_1, d.before a0 Z = true) (ws : List Jvm.Cond) (a1 : Addr) (p2 : Int32) (h0 : Heap) (n0 : Nat) (Z0 : n0 ≤ h0.size) (O0 : Old Z n0 h0) (HH : own_H Z a0) :
    MetFree l MN23 (head1 (Jvm.Cond.code MN23 jdk_52_method_69_code 5 (some (.object "java/lang/String")) :: ws) (rK 0 2 4 0)) (fun a U => a = #[(.ref a1), (.int p2), (.int 0)] ∧ Z.Warmed39 U.vm ∧ U.heap = h0 ∧ IB Z U.vm []) (fun _ _ _ _ _ => True) (fun _ U o U' => ∃ v L, o = .returned v ∧ Q_rnsU0 Z a1 p2 h0 n0 v U'.heap L ∧ ReturnedEndW U o U' L (rK 0 2 4 0).cells (rK 0 2 4 0).slots) := by
  refine MetFree.of_bodySF (plainFor_of_name pn_10) hisR ?_
  intro p e s m args below meth c sB Bd hml0 hP hK
  obtain ⟨rfl, hZ, hh, hI⟩ := hP
  have hx := Bd.exec
  have hby := Bd.bytes
  have hown : s.vm.findClass "java/lang/StringUTF16" = some m.cls := findClass_of_methodNamed Bd.named
  have X0 : Stand p l e (rK 0 2 4 0) s m #[(.ref a1), (.int p2), (.int 0)] below meth c sB [] 0 0 := Stand.of_body Bd
  have e0 : sB.heap = h0 := by rw [← hh, Bd.state]; rfl
  have N0 := Fr.nil n0
  change Go p.tables e below _ _
  have K0 := Keep.refl h0 []
  refine Go.on (B := sB.setTop (mkF m 0 #[vR a1, vI p2, vI 0, .unset, .unset] [])) (fun t k => castTop (ef_rnsU0 m a1 p2) k) ?_
  have hc1_1 : (0 : Int32) = (0 : Int32) := by decide
  refine Go.on (B := sB.setTop (mkF m 4 #[vR a1, vI p2, vI 0, .unset, .unset] [])) (fun t k => XS.iloadN X0.here hx rfl (hb hby d29_0) rfl (XS.ifNo X0.here hx rfl (hb hby d29_1) rfl ((if0 _ _).trans (teq hc1_1).2) k)) ?_
  obtain ⟨b2, T2, h2, d2, k2, X2, e2, Xe2, hS2, hZ, hown, A2, F2c, F2v, V2, st2⟩ := own_ldcwE X0 hx hZ hown (gw hw 137 rfl) (own_wS hw) e0 (Fr.nil _) (by rw [hh]; exact O0.2) hI HH.2.2.2 HH.1 (g := (mkF m 4 #[vR a1, vI p2, vI 0, .unset, .unset] [])) rfl (hb hby d29_4) (by decide) (by decide)
  have Y2 := Nat.le_refl h2.size
  have K3 := K0.ext Xe2
  refine Go.on (B := T2.setTop (mkF m 7 #[vR a1, vI p2, vI 0, .unset, .unset] [(.ref b2)])) (fun t k => st2 _ k) ?_
  refine Go.finW X2 hS2 (by rw [e2]; exact Y2) (v := some (.ref b2)) (own_nv Bd.returns) Bd.notSynchronized ?_ e2 ⟨⟨_, _, _, rfl, A2, F2v, Or.inl ⟨F2c, V2, own_all0⟩⟩, N0, K3⟩ (by decide) (by decide)
  exact fun _ hr => retOut X2 hx Bd.returns rfl (Or.inr (Or.inr (Or.inr (Or.inr ⟨rfl, rfl, rfl⟩)))) (hb hby d29_7) hr
def own_J (vs : List Value) (z1 p2 : Int32) (j0 j1 : Nat) : Prop := (¬ (p2 <<< ((1 : Int32) &&& 31)) < 0 ∧ (p2 <<< ((1 : Int32) &&& 31)) < z1) ∧ ((p2 <<< ((1 : Int32) &&& 31))).toNatClampNeg = j0 ∧ j0 < vs.length ∧ (¬ ((p2 <<< ((1 : Int32) &&& 31)) + (1 : Int32)) < 0 ∧ ((p2 <<< ((1 : Int32) &&& 31)) + (1 : Int32)) < z1) ∧ (((p2 <<< ((1 : Int32) &&& 31)) + (1 : Int32))).toNatClampNeg = j1 ∧ j1 < vs.length
theorem d27_0 : decode BC27 0 = .ok (.getstatic 44, 3) := by decide +kernel
theorem d27_3 : decode BC27 3 = .ok (.ifCond .ne 25, 3) := by decide +kernel
theorem d27_28 : decode BC27 28 = .ok (.iload_n 1, 1) := by decide +kernel
theorem d27_29 : decode BC27 29 = .ok (.iconst 1, 1) := by decide +kernel
theorem d27_30 : decode BC27 30 = .ok (.ishl, 1) := by decide +kernel
theorem d27_31 : decode BC27 31 = .ok (.istore_n 1, 1) := by decide +kernel
theorem d27_32 : decode BC27 32 = .ok (.aload_n 0, 1) := by decide +kernel
theorem d27_33 : decode BC27 33 = .ok (.iload_n 1, 1) := by decide +kernel
theorem d27_34 : decode BC27 34 = .ok (.iinc 1 1, 3) := by decide +kernel
theorem d27_37 : decode BC27 37 = .ok (.iload_n 2, 1) := by decide +kernel
theorem d27_38 : decode BC27 38 = .ok (.getstatic 59, 3) := by decide +kernel
theorem d27_41 : decode BC27 41 = .ok (.ishr, 1) := by decide +kernel
theorem d27_42 : decode BC27 42 = .ok (.i2b, 1) := by decide +kernel
theorem d27_43 : decode BC27 43 = .ok (.bastore, 1) := by decide +kernel
theorem d27_44 : decode BC27 44 = .ok (.aload_n 0, 1) := by decide +kernel
theorem d27_45 : decode BC27 45 = .ok (.iload_n 1, 1) := by decide +kernel
theorem d27_46 : decode BC27 46 = .ok (.iload_n 2, 1) := by decide +kernel
theorem d27_47 : decode BC27 47 = .ok (.getstatic 63, 3) := by decide +kernel
theorem d27_50 : decode BC27 50 = .ok (.ishr, 1) := by decide +kernel
theorem d27_51 : decode BC27 51 = .ok (.i2b, 1) := by decide +kernel
theorem d27_52 : decode BC27 52 = .ok (.bastore, 1) := by decide +kernel
theorem d27_53 : decode BC27 53 = .ok (.return_, 1) := by decide +kernel
theorem ef_rpcg (m : MethodId) (a1 : Addr) (p2 : Int32) (p3 : Int32) : entryFrame m #[(.ref a1), (.int p2), (.int p3)] 3 = mkF m 0 #[vR a1, vI p2, vI p3] [] := rfl
def Q_rpcg (Z : State) (a1 : Addr) (p2 : Int32) (p3 : Int32) (k1 : ClassId) (z1 : Int32) (vs : List Value) (j0 j1 : Nat) (h0 : Heap) (n0 : Nat) (v : Option Value) (h : Heap) (L : List Loc) : Prop := v = none ∧ Fr n0 L ∧ Keep h0 h [a1] ∧ Arv Z h a1 k1 .byte z1 ((vs.set j0 (.int (own_u0 p3))).set j1 (.int (own_u1 p3))) (.int 0)
theorem rpcg (l : Launch) (Z : State) (a0 : Array Value) (hw : ∀ d ∈ tables_1, d.before a0 Z = true) (ws : List Jvm.Cond) (a1 : Addr) (p2 : Int32) (p3 : Int32) (k1 : ClassId) (z1 : Int32) (vs : List Value) (j0 j1 : Nat) (h0 : Heap) (n0 : Nat) (Z0 : n0 ≤ h0.size) (V1 : Arv Z h0 a1 k1 .byte z1 vs (.int 0)) (g1 : n0 ≤ a1) (hj : own_J vs z1 p2 j0 j1) (O0 : Old Z n0 h0) (S_ad : own_S_ad Z) (S_hi : own_S_hi Z) (S_lo : own_S_lo Z) :
    MetFree l MN24 (head1 (Jvm.Cond.code MN24 jdk_52_method_4_code 3 none :: ws) (rK 0 0 0 0)) (fun a U => a = #[(.ref a1), (.int p2), (.int p3)] ∧ Z.Warmed39 U.vm ∧ U.heap = h0) (fun _ _ _ _ _ => True) (fun _ U o U' => ∃ v L, o = .returned v ∧ Q_rpcg Z a1 p2 p3 k1 z1 vs j0 j1 h0 n0 v U'.heap L ∧ FrameEnd U o U' L (rK 0 0 0 0).cells (rK 0 0 0 0).slots) := by
  refine MetFree.of_bodySF (plainFor_of_name pn_10) hisR ?_
  intro p e s m args below meth c sB Bd hml0 hP hK
  obtain ⟨rfl, hZ, hh⟩ := hP
  have hx := Bd.exec
  have hby := Bd.bytes
  have hown : s.vm.findClass "java/lang/StringUTF16" = some m.cls := findClass_of_methodNamed Bd.named
  have X0 : Stand p l e (rK 0 0 0 0) s m #[(.ref a1), (.int p2), (.int p3)] below meth c sB [] 0 0 := Stand.of_body Bd
  have e0 : sB.heap = h0 := by rw [← hh, Bd.state]; rfl
  have N0 := Fr.nil n0
  change Go p.tables e below _ _
  have K0 := Keep.refl h0 [a1]
  refine Go.on (B := sB.setTop (mkF m 0 #[vR a1, vI p2, vI p3] [])) (fun t k => castTop (ef_rpcg m a1 p2 p3) k) ?_
  obtain ⟨T1, X1, e1, st1⟩ := getS2 X0 hx hZ hown (host := "") (Or.inl (gw hw 128 rfl)) Via.refl e0 (S_ad.ext O0.2) (g := (mkF m 0 #[vR a1, vI p2, vI p3] [])) rfl (hb hby d27_0)
  have hc3_2 : ¬ ((1 : Int32) = (0 : Int32)) := by decide
  refine Go.on (B := T1.setTop (mkF m 32 #[vR a1, vI (p2 <<< ((1 : Int32) &&& 31)), vI p3] [])) (fun t k => st1 _ (XS.ifYes X1.here hx rfl (pc0 := 3) (pc' := 28) rfl (hb hby d27_3) rfl ((if0 _ _).trans (feq hc3_2).2) (by decide) (by decide) (XS.iloadN X1.here hx rfl (hb hby d27_28) rfl (XS.iconst X1.here hx rfl (hb hby d27_29) (XS.ishl X1.here hx rfl (hb hby d27_30) rfl (XS.istoreN X1.here hx rfl (hb hby d27_31) rfl (l' := #[vR a1, vI (p2 <<< ((1 : Int32) &&& 31)), vI p3]) rfl k)))))) ?_
  obtain ⟨T4, X4, e4, st4⟩ := getS2 X1 hx hZ hown (host := "") (Or.inl (gw hw 129 rfl)) Via.refl e1 (S_hi.ext O0.2) (g := (mkF m 38 #[vR a1, vI ((p2 <<< ((1 : Int32) &&& 31)) + (1 : Int32)), vI p3] [(.int p3), (.int (p2 <<< ((1 : Int32) &&& 31))), (.ref a1)])) rfl (hb hby d27_38)
  refine Go.on (B := T4.setTop (mkF m 42 #[vR a1, vI ((p2 <<< ((1 : Int32) &&& 31)) + (1 : Int32)), vI p3] [(.int (p3 >>> ((0 : Int32) &&& 31))), (.int (p2 <<< ((1 : Int32) &&& 31))), (.ref a1)])) (fun t k => XS.aloadN X1.here hx rfl (hb hby d27_32) rfl rfl (XS.iloadN X1.here hx rfl (hb hby d27_33) rfl (XS.iinc X1.here hx rfl (hb hby d27_34) rfl (l' := #[vR a1, vI ((p2 <<< ((1 : Int32) &&& 31)) + (1 : Int32)), vI p3]) rfl (XS.iloadN X1.here hx rfl (hb hby d27_37) rfl (st4 _ (XS.ishr X4.here hx rfl (hb hby d27_41) rfl k)))))) ?_
  obtain ⟨cl5, Ar5, qq5, Sz5, Ng5, Hh5, Gg5⟩ := id V1
  have hin5 : ¬ ((p2 <<< ((1 : Int32) &&& 31)) < 0 ∨ cl5.slots.size ≤ ((p2 <<< ((1 : Int32) &&& 31))).toNatClampNeg) := inb_of Sz5 hj.1
  obtain ⟨T5, h5, X5, e5, W5, st5⟩ := stB X4 hx hZ e4 Ar5 (j := (p2 <<< ((1 : Int32) &&& 31))) hin5 (g := (mkF m 43 #[vR a1, vI ((p2 <<< ((1 : Int32) &&& 31)) + (1 : Int32)), vI p3] [(.int ((p3 >>> ((0 : Int32) &&& 31)).toInt8.toInt32)), (.int (p2 <<< ((1 : Int32) &&& 31))), (.ref a1)])) rfl rfl (hb hby d27_43)
  have V5 : Arv Z h5 a1 k1 .byte z1 (vs.set j0 (.int (((p3 >>> ((0 : Int32) &&& 31)).toInt8.toInt32).toInt8.toInt32))) (.int 0) := Arv.set Ar5 qq5 Sz5 Ng5 Hh5 Gg5 (fits_nar_byte _) W5 j0 hj.2.1 hj.2.2.1
  have N5 := Fr.snoc X5 N0 g1
  have O_1 := O0.wr W5 g1
  have K3 := K0.wr W5 (Or.inl (List.mem_of_getElem? (i := 0) rfl))
  obtain ⟨T6, X6, e6, st6⟩ := getS2 X5 hx hZ hown (host := "") (Or.inl (gw hw 130 rfl)) Via.refl e5 (S_lo.ext O_1.2) (g := (mkF m 47 #[vR a1, vI ((p2 <<< ((1 : Int32) &&& 31)) + (1 : Int32)), vI p3] [(.int p3), (.int ((p2 <<< ((1 : Int32) &&& 31)) + (1 : Int32))), (.ref a1)])) rfl (hb hby d27_47)
  refine Go.on (B := T6.setTop (mkF m 50 #[vR a1, vI ((p2 <<< ((1 : Int32) &&& 31)) + (1 : Int32)), vI p3] [(.int 8), (.int p3), (.int ((p2 <<< ((1 : Int32) &&& 31)) + (1 : Int32))), (.ref a1)])) (fun t k => XS.i2b X4.here hx rfl (hb hby d27_42) rfl (st5 _ (XS.aloadN X5.here hx rfl (hb hby d27_44) rfl rfl (XS.iloadN X5.here hx rfl (hb hby d27_45) rfl (XS.iloadN X5.here hx rfl (hb hby d27_46) rfl (st6 _ k)))))) ?_
  obtain ⟨cl7, Ar7, qq7, Sz7, Ng7, Hh7, Gg7⟩ := id V5
  have hin7 : ¬ (((p2 <<< ((1 : Int32) &&& 31)) + (1 : Int32)) < 0 ∨ cl7.slots.size ≤ (((p2 <<< ((1 : Int32) &&& 31)) + (1 : Int32))).toNatClampNeg) := inb_of Sz7 hj.2.2.2.1
  obtain ⟨T7, h7, X7, e7, W7, st7⟩ := stB X6 hx hZ e6 Ar7 (j := ((p2 <<< ((1 : Int32) &&& 31)) + (1 : Int32))) hin7 (g := (mkF m 52 #[vR a1, vI ((p2 <<< ((1 : Int32) &&& 31)) + (1 : Int32)), vI p3] [(.int ((p3 >>> ((8 : Int32) &&& 31)).toInt8.toInt32)), (.int ((p2 <<< ((1 : Int32) &&& 31)) + (1 : Int32))), (.ref a1)])) rfl rfl (hb hby d27_52)
  have V7 : Arv Z h7 a1 k1 .byte z1 ((vs.set j0 (.int (((p3 >>> ((0 : Int32) &&& 31)).toInt8.toInt32).toInt8.toInt32))).set j1 (.int (((p3 >>> ((8 : Int32) &&& 31)).toInt8.toInt32).toInt8.toInt32))) (.int 0) := Arv.set Ar7 qq7 Sz7 Ng7 Hh7 Gg7 (fits_nar_byte _) W7 j1 hj.2.2.2.2.1 (by rw [List.length_set]; exact hj.2.2.2.2.2)
  have N7 := Fr.snoc X7 N5 g1
  have K6 := K3.wr W7 (Or.inl (List.mem_of_getElem? (i := 0) rfl))
  refine Go.on (B := T7.setTop (mkF m 53 #[vR a1, vI ((p2 <<< ((1 : Int32) &&& 31)) + (1 : Int32)), vI p3] [])) (fun t k => XS.ishr X6.here hx rfl (hb hby d27_50) rfl (XS.i2b X6.here hx rfl (hb hby d27_51) rfl (st7 _ k))) ?_
  refine Go.fin X7 (v := none) (fun _ => rfl) Bd.notSynchronized ?_ e7 ⟨rfl, N7, K6, V7⟩ (by decide) (by decide)
  exact fun _ hr => X7.returnOut hx Bd.returns (hb hby d27_53) hr
theorem d17_0 : decode BC20 0 = .ok (.iload_n 1, 1) := by decide +kernel
theorem d17_1 : decode BC20 1 = .ok (.aload_n 0, 1) := by decide +kernel
theorem d17_2 : decode BC20 2 = .ok (.arraylength, 1) := by decide +kernel
theorem d17_3 : decode BC20 3 = .ok (.isub, 1) := by decide +kernel
theorem d17_4 : decode BC20 4 = .ok (.bipush 31, 2) := by decide +kernel
theorem d17_6 : decode BC20 6 = .ok (.iushr, 1) := by decide +kernel
theorem d17_7 : decode BC20 7 = .ok (.i2b, 1) := by decide +kernel
theorem d17_8 : decode BC20 8 = .ok (.ireturn, 1) := by decide +kernel
def Q_rcdg (Z : State) (a1 : Addr) (p2 : Int32) (k1 : ClassId) (z1 : Int32) (vs : List Value) (r : Int32) (h0 : Heap) (n0 : Nat) (v : Option Value) (h : Heap) (L : List Loc) : Prop := v = some (.int r) ∧ Fr n0 L ∧ h = h0
theorem rcdg (l : Launch) (Z : State) (a0 : Array Value) (hw : ∀ d ∈ tables_1, d.before a0 Z = true) (ws : List Jvm.Cond) (a1 : Addr) (p2 : Int32) (k1 : ClassId) (z1 : Int32) (vs : List Value) (r : Int32) (h0 : Heap) (n0 : Nat) (Z0 : n0 ≤ h0.size) (V1 : Arv Z h0 a1 k1 .byte z1 vs (.int 0)) (hrr : nar .byte ((((p2 - z1).toUInt32 >>> ((31 : Int32) &&& 31).toUInt32).toInt32).toInt8.toInt32) = r) :
    MetFree l MN25 (head1 (Jvm.Cond.code MN25 jdk_52_method_15_code 2 (some .byte) :: ws) (rK 0 0 0 0)) (fun a U => a = #[(.ref a1), (.int p2)] ∧ Z.Warmed39 U.vm ∧ U.heap = h0) (fun _ _ _ _ _ => True) (fun _ U o U' => ∃ v L, o = .returned v ∧ Q_rcdg Z a1 p2 k1 z1 vs r h0 n0 v U'.heap L ∧ FrameEnd U o U' L (rK 0 0 0 0).cells (rK 0 0 0 0).slots) := by
  refine MetFree.of_bodySF (plainFor_of_name pn_10) hisR ?_
  intro p e s m args below meth c sB Bd hml0 hP hK
  obtain ⟨rfl, hZ, hh⟩ := hP
  have hx := Bd.exec
  have hby := Bd.bytes
  have X0 : Stand p l e (rK 0 0 0 0) s m #[(.ref a1), (.int p2)] below meth c sB [] 0 0 := Stand.of_body Bd
  have e0 : sB.heap = h0 := by rw [← hh, Bd.state]; rfl
  have N0 := Fr.nil n0
  change Go p.tables e below _ _
  refine Go.on (B := sB.setTop (mkF m 0 #[vR a1, vI p2] [])) (fun t k => castTop (ef_rl1 m a1 p2) k) ?_
  obtain ⟨cl1, Ar1, -, Sz1, Ng1, -, -⟩ := id V1
  refine Go.on (B := sB.setTop (mkF m 7 #[vR a1, vI p2] [(.int (((p2 - z1).toUInt32 >>> ((31 : Int32) &&& 31).toUInt32).toInt32))])) (fun t k => XS.iloadN X0.here hx rfl (hb hby d17_0) rfl (XS.aloadN X0.here hx rfl (hb hby d17_1) rfl rfl (X0.arraylength hx (by rw [e0]; exact Ar1.1) (State.isArrayOf_alike hZ.alike Ar1.2.1) (g := (mkF m 2 #[vR a1, vI p2] [(.ref a1), (.int p2)])) rfl rfl (hb hby d17_2) _ (by rw [len_of Sz1 Ng1]; exact (XS.isub X0.here hx rfl (hb hby d17_3) rfl (XS.bipush X0.here hx rfl (hb hby d17_4) (XS.iushr X0.here hx rfl (hb hby d17_6) rfl k))))))) ?_
  refine Go.on (B := sB.setTop (mkF m 8 #[vR a1, vI p2] [(.int ((((p2 - z1).toUInt32 >>> ((31 : Int32) &&& 31).toUInt32).toInt32).toInt8.toInt32))])) (fun t k => XS.i2b X0.here hx rfl (hb hby d17_7) rfl k) ?_
  refine Go.fin X0 (v := some (.int (nar .byte ((((p2 - z1).toUInt32 >>> ((31 : Int32) &&& 31).toUInt32).toInt32).toInt8.toInt32)))) (own_nv Bd.returns) Bd.notSynchronized ?_ e0 ⟨congrArg (fun z => some (Value.int z)) hrr, N0, rfl⟩ (by decide) (by decide)
  exact fun _ hr => retN X0 hx (t := .byte) Bd.returns (by simp) (hb hby d17_8) hr
theorem d25_0 : decode BC25 0 = .ok (.iload_n 0, 1) := by decide +kernel
theorem d25_1 : decode BC25 1 = .ok (.invokestatic 11, 3) := by decide +kernel
theorem d25_4 : decode BC25 4 = .ok (.newarray .byte, 2) := by decide +kernel
theorem d25_6 : decode BC25 6 = .ok (.areturn, 1) := by decide +kernel
theorem pd_12 : parseMethodDescriptor "(I)I" = some ⟨[.int], some .int⟩ := by decide +kernel
theorem ef_rnf_1 (m : MethodId)  : entryFrame m #[(.int 1)] 1 = mkF m 0 #[vI 1] [] := rfl
def Q_rnf_1 (Z : State)  (h0 : Heap) (n0 : Nat) (v : Option Value) (h : Heap) (L : List Loc) : Prop := (∃ (b : Addr) (kb : ClassId), v = some (.ref b) ∧ h0.size ≤ b ∧ Arv Z h b kb .byte (2 : Int32) [(.int 0), (.int 0)] (.int 0)) ∧ Fr n0 L ∧ Keep h0 h []
theorem rnf_1 (l : Launch) (Z : State) (a0 : Array Value) (hw : ∀ d ∈ tables_1, d.before a0 Z = true) (ws : List Jvm.Cond)  (h0 : Heap) (n0 : Nat) (Z0 : n0 ≤ h0.size)  :
    MetFree l MN26 (head1 (Jvm.Cond.code MN26 jdk_52_method_2_code 1 (some (.array .byte)) :: ws) (rK 1 1 2 12)) (fun a U => a = #[(.int 1)] ∧ Z.Warmed39 U.vm ∧ U.heap = h0) (fun _ _ _ _ _ => True) (fun _ U o U' => ∃ v L, o = .returned v ∧ Q_rnf_1 Z  h0 n0 v U'.heap L ∧ FrameEnd U o U' L (rK 1 1 2 12).cells (rK 1 1 2 12).slots) := by
  refine MetFree.of_bodySF (plainFor_of_name pn_10) hisR ?_
  intro p e s m args below meth c sB Bd hml0 hP hK
  obtain ⟨rfl, hZ, hh⟩ := hP
  have hx := Bd.exec
  have hby := Bd.bytes
  have hml : c.maxLocals = 1 := hml0
  have hown : s.vm.findClass "java/lang/StringUTF16" = some m.cls := findClass_of_methodNamed Bd.named
  have X0 : Stand p l e (rK 1 1 2 12) s m #[(.int 1)] below meth c sB [] 0 0 := Stand.of_body Bd
  have e0 : sB.heap = h0 := by rw [← hh, Bd.state]; rfl
  have N0 := Fr.nil n0
  change Go p.tables e below _ _
  have K0 := Keep.refl h0 []
  refine Go.on (B := sB.setTop (mkF m 0 #[vI 1] [])) (fun t k => castTop (ef_rnf_1 m ) k) ?_
  obtain ⟨_, _, ⟨T1, L1, k1, n1⟩, -, X1, ⟨Lc1, hQ1, lq1, yq1, zq1⟩, st1⟩ := Jvm.LawKit.callS X0 hx (y := MN18) hown (mg hZ hw 121 rfl) (mg hZ hw 122 rfl) (mg hZ hw 83 rfl) (mg hZ hw 123 rfl) (by decide) (backOf (W := 0) (rnlg l Z a0 hw [] (1 : Int32) (2 : Int32) h0 n0 Z0 ⟨by decide, by decide, by decide⟩) hZ (gw hw 123 rfl) (gw hw 83 rfl) (by decide) (by decide)) (g := (mkF m 1 #[vI 1] [(.int 1)])) rfl (by rw [hml]; rfl) (argsL := [(.int 1)]) (rest := []) (lenOf pd_12 rfl) rfl (own_w rfl) (hb hby d25_1) (fun _ _ => ⟨rfl, e0, (by decide : 0 + 0 ≤ _), (by decide : 0 + 0 ≤ _)⟩)
  dsimp only [Pt.U, Pt.locs, Pt.cells, Pt.slots] at X1 lq1 yq1 zq1 st1 hQ1
  subst lq1 yq1 zq1
  obtain ⟨rfl, N1q, e1q⟩ := hQ1
  have N1 := Fr.app N0 N1q
  obtain ⟨T2, h2, kq2, X2, e2, Xe2, A2, st2⟩ := newP X1 hx hZ (gw hw 20 rfl) e1q (g := (mkF m 4 #[vI 1] [(.int 2)])) rfl (hb hby d25_4) rfl (by decide) (cap := 2) (by decide) (by decide) (by decide) (by decide)
  obtain ⟨b2, gq2⟩ : ∃ z, z = h0.size := ⟨_, rfl⟩
  rw [← gq2] at A2 st2
  have sz_b2 : h0.size ≤ b2 := Nat.le_trans K0.1 (Nat.le_of_eq gq2.symm)
  have K2 := K0.ext Xe2
  have V2 : Arv Z h2 b2 kq2 .byte (2 : Int32) [(.int 0), (.int 0)] (.int 0) := (Arv.new A2 (by decide)).pad (pad_rep [] (.int 0) 2)
  refine Go.on (B := T2.setTop (mkF m 6 #[vI 1] [(.ref b2)])) (fun t k => XS.iloadN X0.here hx rfl (hb hby d25_0) rfl (st1 _ (st2 _ k))) ?_
  refine Go.fin X2 (v := some (.ref b2)) (own_nv Bd.returns) Bd.notSynchronized ?_ e2 ⟨⟨_, _, rfl, sz_b2, V2⟩, N1, K2⟩ (by decide) (by decide)
  exact fun _ hr => retOut X2 hx Bd.returns rfl (Or.inr (Or.inr (Or.inr (Or.inr ⟨rfl, rfl, rfl⟩)))) (hb hby d25_6) hr
theorem d24_0 : decode BC19 0 = .ok (.iload_n 2, 1) := by decide +kernel
theorem d24_1 : decode BC19 1 = .ok (.invokestatic 107, 3) := by decide +kernel
theorem d24_4 : decode BC19 4 = .ok (.astore_n 3, 1) := by decide +kernel
theorem d24_5 : decode BC19 5 = .ok (.iconst 0, 1) := by decide +kernel
theorem d24_6 : decode BC19 6 = .ok (.istore 4, 2) := by decide +kernel
theorem d24_8 : decode BC19 8 = .ok (.iload 4, 2) := by decide +kernel
theorem d24_10 : decode BC19 10 = .ok (.iload_n 2, 1) := by decide +kernel
theorem d24_11 : decode BC19 11 = .ok (.if_icmp .ge 21, 3) := by decide +kernel
theorem d24_14 : decode BC19 14 = .ok (.aload_n 3, 1) := by decide +kernel
theorem d24_15 : decode BC19 15 = .ok (.iload 4, 2) := by decide +kernel
theorem d24_17 : decode BC19 17 = .ok (.aload_n 0, 1) := by decide +kernel
theorem d24_18 : decode BC19 18 = .ok (.iload_n 1, 1) := by decide +kernel
theorem d24_19 : decode BC19 19 = .ok (.caload, 1) := by decide +kernel
theorem d24_20 : decode BC19 20 = .ok (.invokestatic 111, 3) := by decide +kernel
theorem d24_23 : decode BC19 23 = .ok (.iinc 1 1, 3) := by decide +kernel
theorem d24_26 : decode BC19 26 = .ok (.iinc 4 1, 3) := by decide +kernel
theorem d24_29 : decode BC19 29 = .ok (.goto (-21), 3) := by decide +kernel
theorem d24_32 : decode BC19 32 = .ok (.aload_n 3, 1) := by decide +kernel
theorem d24_33 : decode BC19 33 = .ok (.areturn, 1) := by decide +kernel
theorem pd_13 : parseMethodDescriptor "(I)[B" = some ⟨[.int], some (.array .byte)⟩ := by decide +kernel
theorem pd_14 : parseMethodDescriptor "([BII)V" = some ⟨[(.array .byte), .int, .int], none⟩ := by decide +kernel
theorem ef_rtb_1 (m : MethodId) (a1 : Addr) : entryFrame m #[(.ref a1), (.int 0), (.int 1)] 5 = mkF m 0 #[vR a1, vI 0, vI 1, .unset, .unset] [] := rfl
def Q_rtb_1 (Z : State) (a1 : Addr) (kc : ClassId) (c0 : Int32) (h0 : Heap) (n0 : Nat) (v : Option Value) (h : Heap) (L : List Loc) : Prop := (∃ (b : Addr) (kb : ClassId), v = some (.ref b) ∧ h0.size ≤ b ∧ Arv Z h b kb .byte (2 : Int32) [(.int (own_u0 c0)), (.int (own_u1 c0))] (.int 0)) ∧ Fr n0 L ∧ Keep h0 h []
theorem rtb_1 (l : Launch) (Z : State) (a0 : Array Value) (hw : ∀ d ∈ tables_1, d.before a0 Z = true) (ws : List Jvm.Cond) (a1 : Addr) (kc : ClassId) (c0 : Int32) (h0 : Heap) (n0 : Nat) (Z0 : n0 ≤ h0.size) (V1 : Arv Z h0 a1 kc .char (1 : Int32) [(.int c0)] (.int 0)) (O0 : Old Z n0 h0) (S_ad : own_S_ad Z) (S_hi : own_S_hi Z) (S_lo : own_S_lo Z) :
    MetFree l MN27 (head1 (Jvm.Cond.code MN27 jdk_52_method_14_code 5 (some (.array .byte)) :: ws) (rK 2 1 2 30)) (fun a U => a = #[(.ref a1), (.int 0), (.int 1)] ∧ Z.Warmed39 U.vm ∧ U.heap = h0) (fun _ _ _ _ _ => True) (fun _ U o U' => ∃ v L, o = .returned v ∧ Q_rtb_1 Z a1 kc c0 h0 n0 v U'.heap L ∧ FrameEnd U o U' L (rK 2 1 2 30).cells (rK 2 1 2 30).slots) := by
  refine MetFree.of_bodySF (plainFor_of_name pn_10) hisR ?_
  intro p e s m args below meth c sB Bd hml0 hP hK
  obtain ⟨rfl, hZ, hh⟩ := hP
  have hx := Bd.exec
  have hby := Bd.bytes
  have hml : c.maxLocals = 5 := hml0
  have hown : s.vm.findClass "java/lang/StringUTF16" = some m.cls := findClass_of_methodNamed Bd.named
  have X0 : Stand p l e (rK 2 1 2 30) s m #[(.ref a1), (.int 0), (.int 1)] below meth c sB [] 0 0 := Stand.of_body Bd
  have e0 : sB.heap = h0 := by rw [← hh, Bd.state]; rfl
  have N0 := Fr.nil n0
  change Go p.tables e below _ _
  have K0 := Keep.refl h0 []
  refine Go.on (B := sB.setTop (mkF m 0 #[vR a1, vI 0, vI 1, .unset, .unset] [])) (fun t k => castTop (ef_rtb_1 m a1) k) ?_
  obtain ⟨_, _, ⟨T1, L1, k1, n1⟩, -, X1, ⟨Lc1, hQ1, lq1, yq1, zq1⟩, st1⟩ := Jvm.LawKit.callS X0 hx (y := MN26) hown (mg hZ hw 118 rfl) (mg hZ hw 119 rfl) (mg hZ hw 83 rfl) (mg hZ hw 120 rfl) (by decide) (backOf (W := 0) (rnf_1 l Z a0 hw []  h0 n0 Z0) hZ (gw hw 120 rfl) (gw hw 83 rfl) (by decide) (by decide)) (g := (mkF m 1 #[vR a1, vI 0, vI 1, .unset, .unset] [(.int 1)])) rfl (by rw [hml]; rfl) (argsL := [(.int 1)]) (rest := []) (lenOf pd_13 rfl) rfl (own_w rfl) (hb hby d24_1) (fun _ _ => ⟨rfl, e0, (by decide : 0 + 1 ≤ _), (by decide : 0 + 2 ≤ _)⟩)
  dsimp only [Pt.U, Pt.locs, Pt.cells, Pt.slots] at X1 lq1 yq1 zq1 st1 hQ1
  subst lq1 yq1 zq1
  obtain ⟨⟨y1, ky1, rfl, sx1, Vy1⟩, N1q, K1q⟩ := hQ1
  have N1 := Fr.app N0 N1q
  have ge_y1 : n0 ≤ y1 := Nat.le_trans Z0 sx1
  have sz_y1 : h0.size ≤ y1 := Nat.le_trans K0.1 sx1
  have f1 := V1.keep K1q nin0
  have O_2 := O0.keep K1q all0
  have Zs3 := Nat.le_trans Z0 K1q.1
  have K4 := K0.trans K1q all0
  refine Go.on (B := T1.setTop (mkF m 10 #[vR a1, vI 0, vI 1, vR y1, vI 0] [(.int 0)])) (fun t k => XS.iloadN X0.here hx rfl (hb hby d24_0) rfl (st1 _ (XS.astoreN X1.here hx rfl (hb hby d24_4) rfl rfl (l' := #[vR a1, vI 0, vI 1, vR y1, .unset]) rfl (XS.iconst X1.here hx rfl (hb hby d24_5) (XS.istore X1.here hx rfl (hb hby d24_6) rfl (l' := #[vR a1, vI 0, vI 1, vR y1, vI 0]) rfl (XS.iload X1.here hx rfl (hb hby d24_8) rfl k)))))) ?_
  have hc11_3 : (0 : Int32) < (1 : Int32) := by decide
  refine Go.on (B := T1.setTop (mkF m 19 #[vR a1, vI 0, vI 1, vR y1, vI 0] [(.int 0), (.ref a1), (.int 0), (.ref y1)])) (fun t k => XS.iloadN X1.here hx rfl (hb hby d24_10) rfl (XS.icmpNo X1.here hx rfl (hb hby d24_11) rfl (tlt hc11_3).2.1 (XS.aloadN X1.here hx rfl (hb hby d24_14) rfl rfl (XS.iload X1.here hx rfl (hb hby d24_15) rfl (XS.aloadN X1.here hx rfl (hb hby d24_17) rfl rfl (XS.iloadN X1.here hx rfl (hb hby d24_18) rfl k)))))) ?_
  obtain ⟨cl4, Ar4, qq4, Sz4, Ng4, Hh4, Gg4⟩ := id f1
  have hin4 : ¬ ((0 : Int32) < 0 ∨ cl4.slots.size ≤ ((0 : Int32)).toNatClampNeg) := inb_of Sz4 ⟨by decide, by decide⟩
  have hat4 : cl4.slots[((0 : Int32)).toNatClampNeg]? = some (.int c0) := Hh4.at hin4 rfl
  obtain ⟨_, _, ⟨T5, L5, k5, n5⟩, -, X5, ⟨Lc5, hQ5, lq5, yq5, zq5⟩, st5⟩ := Jvm.LawKit.callS X1 hx (y := MN24) hown (mg hZ hw 125 rfl) (mg hZ hw 126 rfl) (mg hZ hw 83 rfl) (mg hZ hw 127 rfl) (by decide) (backOf (W := 0) (rpcg l Z a0 hw [] y1 (0 : Int32) c0 ky1 (2 : Int32) [(.int 0), (.int 0)] 0 1 T1.heap n0 Zs3 Vy1 ge_y1 ⟨⟨by decide, by decide⟩, rfl, Nat.le_of_ble_eq_true rfl, ⟨by decide, by decide⟩, rfl, Nat.le_of_ble_eq_true rfl⟩ O_2 S_ad S_hi S_lo) hZ (gw hw 127 rfl) (gw hw 83 rfl) (by decide) (by decide)) (g := (mkF m 20 #[vR a1, vI 0, vI 1, vR y1, vI 0] [(.int c0), (.int 0), (.ref y1)])) rfl (by rw [hml]; rfl) (argsL := [(.ref y1), (.int 0), (.int c0)]) (rest := []) (lenOf pd_14 rfl) rfl (own_w rfl) (hb hby d24_20) (fun _ _ => ⟨rfl, rfl, (by decide : 1 + 0 ≤ _), (by decide : 2 + 0 ≤ _)⟩)
  dsimp only [Pt.U, Pt.locs, Pt.cells, Pt.slots] at X5 lq5 yq5 zq5 st5 hQ5
  subst lq5 yq5 zq5
  obtain ⟨rfl, N5q, K5q, G5_0⟩ := hQ5
  have N5 := Fr.app N1 N5q
  have K8 := K4.trans K5q (allS (Or.inr sz_y1) all0)
  have Vp5 : Arv Z T5.heap y1 ky1 .byte (2 : Int32) [(.int (own_u0 c0)), (.int (own_u1 c0))] (.int 0) := G5_0
  refine Go.on (B := T5.setTop (mkF m 26 #[vR a1, vI ((0 : Int32) + (1 : Int32)), vI 1, vR y1, vI 0] [])) (fun t k => X1.caload hx (j := (0 : Int32)) (v := (.int c0)) Ar4.1 (State.isArrayOf_alike hZ.alike Ar4.2.1) Ar4.2.2 hin4 hat4 (g := (mkF m 19 #[vR a1, vI 0, vI 1, vR y1, vI 0] [(.int 0), (.ref a1), (.int 0), (.ref y1)])) rfl rfl (hb hby d24_19) _ (st5 _ (XS.iinc X5.here hx rfl (hb hby d24_23) rfl (l' := #[vR a1, vI ((0 : Int32) + (1 : Int32)), vI 1, vR y1, vI 0]) rfl k))) ?_
  rw [show ((0 : Int32) + (1 : Int32)) = (1 : Int32) from by decide]
  refine Go.on (B := T5.setTop (mkF m 29 #[vR a1, vI 1, vI 1, vR y1, vI ((0 : Int32) + (1 : Int32))] [])) (fun t k => XS.iinc X5.here hx rfl (hb hby d24_26) rfl (l' := #[vR a1, vI 1, vI 1, vR y1, vI ((0 : Int32) + (1 : Int32))]) rfl k) ?_
  rw [show ((0 : Int32) + (1 : Int32)) = (1 : Int32) from by decide]
  have hc11_6 : ¬ ((1 : Int32) < (1 : Int32)) := by decide
  refine Go.on (B := T5.setTop (mkF m 33 #[vR a1, vI 1, vI 1, vR y1, vI 1] [(.ref y1)])) (fun t k => XS.goto X5.here hx rfl (pc0 := 29) (pc' := 8) rfl (hb hby d24_29) (by decide) (by decide) (XS.iload X5.here hx rfl (hb hby d24_8) rfl (XS.iloadN X5.here hx rfl (hb hby d24_10) rfl (XS.icmpYes X5.here hx rfl (pc0 := 11) (pc' := 32) rfl (hb hby d24_11) rfl (flt hc11_6).2.1 (by decide) (by decide) (XS.aloadN X5.here hx rfl (hb hby d24_32) rfl rfl k))))) ?_
  refine Go.fin X5 (v := some (.ref y1)) (own_nv Bd.returns) Bd.notSynchronized ?_ rfl ⟨⟨_, _, rfl, sz_y1, Vp5⟩, N5, K8⟩ (by decide) (by decide)
  exact fun _ hr => retOut X5 hx Bd.returns rfl (Or.inr (Or.inr (Or.inr (Or.inr ⟨rfl, rfl, rfl⟩)))) (hb hby d24_33) hr
theorem d16_0 : decode BC23 0 = .ok (.iconst 0, 1) := by decide +kernel
theorem d16_1 : decode BC23 1 = .ok (.istore 5, 2) := by decide +kernel
theorem d16_3 : decode BC23 3 = .ok (.iload 5, 2) := by decide +kernel
theorem d16_5 : decode BC23 5 = .ok (.iload 4, 2) := by decide +kernel
theorem d16_7 : decode BC23 7 = .ok (.if_icmp .ge 37, 3) := by decide +kernel
theorem d16_10 : decode BC23 10 = .ok (.aload_n 0, 1) := by decide +kernel
theorem d16_11 : decode BC23 11 = .ok (.iload_n 1, 1) := by decide +kernel
theorem d16_12 : decode BC23 12 = .ok (.caload, 1) := by decide +kernel
theorem d16_13 : decode BC23 13 = .ok (.istore 6, 2) := by decide +kernel
theorem d16_15 : decode BC23 15 = .ok (.iload 6, 2) := by decide +kernel
theorem d16_17 : decode BC23 17 = .ok (.sipush 255, 3) := by decide +kernel
theorem d16_20 : decode BC23 20 = .ok (.if_icmp .le 6, 3) := by decide +kernel
theorem d16_23 : decode BC23 23 = .ok (.iload 5, 2) := by decide +kernel
theorem d16_25 : decode BC23 25 = .ok (.ireturn, 1) := by decide +kernel
theorem d16_26 : decode BC23 26 = .ok (.aload_n 2, 1) := by decide +kernel
theorem d16_27 : decode BC23 27 = .ok (.iload_n 3, 1) := by decide +kernel
theorem d16_28 : decode BC23 28 = .ok (.iload 6, 2) := by decide +kernel
theorem d16_30 : decode BC23 30 = .ok (.i2b, 1) := by decide +kernel
theorem d16_31 : decode BC23 31 = .ok (.bastore, 1) := by decide +kernel
theorem d16_32 : decode BC23 32 = .ok (.iinc 1 1, 3) := by decide +kernel
theorem d16_35 : decode BC23 35 = .ok (.iinc 3 1, 3) := by decide +kernel
theorem d16_38 : decode BC23 38 = .ok (.iinc 5 1, 3) := by decide +kernel
theorem d16_41 : decode BC23 41 = .ok (.goto (-38), 3) := by decide +kernel
theorem d16_44 : decode BC23 44 = .ok (.iload 4, 2) := by decide +kernel
theorem d16_46 : decode BC23 46 = .ok (.ireturn, 1) := by decide +kernel
theorem ef_rc5_1 (m : MethodId) (a1 : Addr) (a3 : Addr) : entryFrame m #[(.ref a1), (.int 0), (.ref a3), (.int 0), (.int 1)] 7 = mkF m 0 #[vR a1, vI 0, vR a3, vI 0, vI 1, .unset, .unset] [] := rfl
def Q_rc5_1 (Z : State) (a1 : Addr) (a3 : Addr) (kc k3 : ClassId) (c0 : Int32) (h0 : Heap) (n0 : Nat) (v : Option Value) (h : Heap) (L : List Loc) : Prop := ((v = some (.int 1) ∧ Arv Z h a3 k3 .byte (1 : Int32) [(.int (own_l c0))] (.int 0) ∧ ¬ ((255 : Int32) < c0)) ∨ (v = some (.int 0) ∧ (255 : Int32) < c0)) ∧ Fr n0 L ∧ Keep h0 h [a3]
theorem rc5_1 (l : Launch) (Z : State) (a0 : Array Value) (hw : ∀ d ∈ tables_1, d.before a0 Z = true) (ws : List Jvm.Cond) (a1 : Addr) (a3 : Addr) (kc k3 : ClassId) (c0 : Int32) (h0 : Heap) (n0 : Nat) (Z0 : n0 ≤ h0.size) (V1 : Arv Z h0 a1 kc .char (1 : Int32) [(.int c0)] (.int 0)) (V3 : Arv Z h0 a3 k3 .byte (1 : Int32) [(.int 0)] (.int 0)) (hne : a1 ≠ a3) (g3 : n0 ≤ a3) :
    MetFree l MN28 (head1 (Jvm.Cond.code MN28 jdk_52_method_21_code 7 (some .int) :: ws) (rK 0 0 0 0)) (fun a U => a = #[(.ref a1), (.int 0), (.ref a3), (.int 0), (.int 1)] ∧ Z.Warmed39 U.vm ∧ U.heap = h0) (fun _ _ _ _ _ => True) (fun _ U o U' => ∃ v L, o = .returned v ∧ Q_rc5_1 Z a1 a3 kc k3 c0 h0 n0 v U'.heap L ∧ FrameEnd U o U' L (rK 0 0 0 0).cells (rK 0 0 0 0).slots) := by
  refine MetFree.of_bodySF (plainFor_of_name pn_10) hisR ?_
  intro p e s m args below meth c sB Bd hml0 hP hK
  obtain ⟨rfl, hZ, hh⟩ := hP
  have hx := Bd.exec
  have hby := Bd.bytes
  have X0 : Stand p l e (rK 0 0 0 0) s m #[(.ref a1), (.int 0), (.ref a3), (.int 0), (.int 1)] below meth c sB [] 0 0 := Stand.of_body Bd
  have e0 : sB.heap = h0 := by rw [← hh, Bd.state]; rfl
  have N0 := Fr.nil n0
  change Go p.tables e below _ _
  have K0 := Keep.refl h0 [a3]
  refine Go.on (B := sB.setTop (mkF m 0 #[vR a1, vI 0, vR a3, vI 0, vI 1, .unset, .unset] [])) (fun t k => castTop (ef_rc5_1 m a1 a3) k) ?_
  have hc7_2 : (0 : Int32) < (1 : Int32) := by decide
  refine Go.on (B := sB.setTop (mkF m 11 #[vR a1, vI 0, vR a3, vI 0, vI 1, vI 0, .unset] [(.ref a1)])) (fun t k => XS.iconst X0.here hx rfl (hb hby d16_0) (XS.istore X0.here hx rfl (hb hby d16_1) rfl (l' := #[vR a1, vI 0, vR a3, vI 0, vI 1, vI 0, .unset]) rfl (XS.iload X0.here hx rfl (hb hby d16_3) rfl (XS.iload X0.here hx rfl (hb hby d16_5) rfl (XS.icmpNo X0.here hx rfl (hb hby d16_7) rfl (tlt hc7_2).2.1 (XS.aloadN X0.here hx rfl (hb hby d16_10) rfl rfl k)))))) ?_
  obtain ⟨cl3, Ar3, qq3, Sz3, Ng3, Hh3, Gg3⟩ := id V1
  have hin3 : ¬ ((0 : Int32) < 0 ∨ cl3.slots.size ≤ ((0 : Int32)).toNatClampNeg) := inb_of Sz3 ⟨by decide, by decide⟩
  have hat3 : cl3.slots[((0 : Int32)).toNatClampNeg]? = some (.int c0) := Hh3.at hin3 rfl
  refine Go.on (B := sB.setTop (mkF m 20 #[vR a1, vI 0, vR a3, vI 0, vI 1, vI 0, vI c0] [(.int 255), (.int c0)])) (fun t k => XS.iloadN X0.here hx rfl (hb hby d16_11) rfl (X0.caload hx (j := (0 : Int32)) (v := (.int c0)) (by rw [e0]; exact Ar3.1) (State.isArrayOf_alike hZ.alike Ar3.2.1) Ar3.2.2 hin3 hat3 (g := (mkF m 12 #[vR a1, vI 0, vR a3, vI 0, vI 1, vI 0, .unset] [(.int 0), (.ref a1)])) rfl rfl (hb hby d16_12) _ (XS.istore X0.here hx rfl (hb hby d16_13) rfl (l' := #[vR a1, vI 0, vR a3, vI 0, vI 1, vI 0, vI c0]) rfl (XS.iload X0.here hx rfl (hb hby d16_15) rfl (XS.sipush X0.here hx rfl (hb hby d16_17) k))))) ?_
  by_cases hc20_5 : (255 : Int32) < c0
  · refine Go.on (B := sB.setTop (mkF m 25 #[vR a1, vI 0, vR a3, vI 0, vI 1, vI 0, vI c0] [(.int 0)])) (fun t k => XS.icmpNo X0.here hx rfl (hb hby d16_20) rfl (tlt hc20_5).2.2.2 (XS.iload X0.here hx rfl (hb hby d16_23) rfl k)) ?_
    refine Go.fin X0 (v := some (.int 0)) (own_nv Bd.returns) Bd.notSynchronized ?_ e0 ⟨(Or.inr ⟨rfl, hc20_5⟩), N0, K0⟩ (by decide) (by decide)
    exact fun _ hr => retI X0 hx Bd.returns (hb hby d16_25) hr
  · obtain ⟨cl6, Ar6, qq6, Sz6, Ng6, Hh6, Gg6⟩ := id V3
    have hin6 : ¬ ((0 : Int32) < 0 ∨ cl6.slots.size ≤ ((0 : Int32)).toNatClampNeg) := inb_of Sz6 ⟨by decide, by decide⟩
    obtain ⟨T6, h6, X6, e6, W6, st6⟩ := stB X0 hx hZ e0 Ar6 (j := (0 : Int32)) hin6 (g := (mkF m 31 #[vR a1, vI 0, vR a3, vI 0, vI 1, vI 0, vI c0] [(.int (c0.toInt8.toInt32)), (.int 0), (.ref a3)])) rfl rfl (hb hby d16_31)
    have V6 : Arv Z h6 a3 k3 .byte (1 : Int32) [(.int ((c0.toInt8.toInt32).toInt8.toInt32))] (.int 0) := Arv.set Ar6 qq6 Sz6 Ng6 Hh6 Gg6 (fits_nar_byte _) W6 0 rfl (Nat.le_of_ble_eq_true rfl)
    have N6 := Fr.snoc X6 N0 g3
    have K3 := K0.wr W6 (Or.inl (List.mem_of_getElem? (i := 0) rfl))
    refine Go.on (B := T6.setTop (mkF m 32 #[vR a1, vI 0, vR a3, vI 0, vI 1, vI 0, vI c0] [])) (fun t k => XS.icmpYes X0.here hx rfl (pc0 := 20) (pc' := 26) rfl (hb hby d16_20) rfl (flt hc20_5).2.2.2 (by decide) (by decide) (XS.aloadN X0.here hx rfl (hb hby d16_26) rfl rfl (XS.iloadN X0.here hx rfl (hb hby d16_27) rfl (XS.iload X0.here hx rfl (hb hby d16_28) rfl (XS.i2b X0.here hx rfl (hb hby d16_30) rfl (st6 _ k)))))) ?_
    refine Go.on (B := T6.setTop (mkF m 35 #[vR a1, vI ((0 : Int32) + (1 : Int32)), vR a3, vI 0, vI 1, vI 0, vI c0] [])) (fun t k => XS.iinc X6.here hx rfl (hb hby d16_32) rfl (l' := #[vR a1, vI ((0 : Int32) + (1 : Int32)), vR a3, vI 0, vI 1, vI 0, vI c0]) rfl k) ?_
    rw [show ((0 : Int32) + (1 : Int32)) = (1 : Int32) from by decide]
    refine Go.on (B := T6.setTop (mkF m 38 #[vR a1, vI 1, vR a3, vI ((0 : Int32) + (1 : Int32)), vI 1, vI 0, vI c0] [])) (fun t k => XS.iinc X6.here hx rfl (hb hby d16_35) rfl (l' := #[vR a1, vI 1, vR a3, vI ((0 : Int32) + (1 : Int32)), vI 1, vI 0, vI c0]) rfl k) ?_
    rw [show ((0 : Int32) + (1 : Int32)) = (1 : Int32) from by decide]
    refine Go.on (B := T6.setTop (mkF m 41 #[vR a1, vI 1, vR a3, vI 1, vI 1, vI ((0 : Int32) + (1 : Int32)), vI c0] [])) (fun t k => XS.iinc X6.here hx rfl (hb hby d16_38) rfl (l' := #[vR a1, vI 1, vR a3, vI 1, vI 1, vI ((0 : Int32) + (1 : Int32)), vI c0]) rfl k) ?_
    rw [show ((0 : Int32) + (1 : Int32)) = (1 : Int32) from by decide]
    have hc7_7 : ¬ ((1 : Int32) < (1 : Int32)) := by decide
    refine Go.on (B := T6.setTop (mkF m 46 #[vR a1, vI 1, vR a3, vI 1, vI 1, vI 1, vI c0] [(.int 1)])) (fun t k => XS.goto X6.here hx rfl (pc0 := 41) (pc' := 3) rfl (hb hby d16_41) (by decide) (by decide) (XS.iload X6.here hx rfl (hb hby d16_3) rfl (XS.iload X6.here hx rfl (hb hby d16_5) rfl (XS.icmpYes X6.here hx rfl (pc0 := 7) (pc' := 44) rfl (hb hby d16_7) rfl (flt hc7_7).2.1 (by decide) (by decide) (XS.iload X6.here hx rfl (hb hby d16_44) rfl k))))) ?_
    refine Go.fin X6 (v := some (.int 1)) (own_nv Bd.returns) Bd.notSynchronized ?_ e6 ⟨Or.inl ⟨rfl, V6, hc20_5⟩, N6, K3⟩ (by decide) (by decide)
    exact fun _ hr => retI X6 hx Bd.returns (hb hby d16_46) hr
theorem d15_0 : decode BC21 0 = .ok (.iload_n 2, 1) := by decide +kernel
theorem d15_1 : decode BC21 1 = .ok (.newarray .byte, 2) := by decide +kernel
theorem d15_3 : decode BC21 3 = .ok (.astore_n 3, 1) := by decide +kernel
theorem d15_4 : decode BC21 4 = .ok (.aload_n 0, 1) := by decide +kernel
theorem d15_5 : decode BC21 5 = .ok (.iload_n 1, 1) := by decide +kernel
theorem d15_6 : decode BC21 6 = .ok (.aload_n 3, 1) := by decide +kernel
theorem d15_7 : decode BC21 7 = .ok (.iconst 0, 1) := by decide +kernel
theorem d15_8 : decode BC21 8 = .ok (.iload_n 2, 1) := by decide +kernel
theorem d15_9 : decode BC21 9 = .ok (.invokestatic 115, 3) := by decide +kernel
theorem d15_12 : decode BC21 12 = .ok (.istore 4, 2) := by decide +kernel
theorem d15_14 : decode BC21 14 = .ok (.iload 4, 2) := by decide +kernel
theorem d15_16 : decode BC21 16 = .ok (.iload_n 2, 1) := by decide +kernel
theorem d15_17 : decode BC21 17 = .ok (.if_icmp .eq 40, 3) := by decide +kernel
theorem d15_20 : decode BC21 20 = .ok (.aload_n 0, 1) := by decide +kernel
theorem d15_21 : decode BC21 21 = .ok (.iload_n 1, 1) := by decide +kernel
theorem d15_22 : decode BC21 22 = .ok (.iload_n 2, 1) := by decide +kernel
theorem d15_23 : decode BC21 23 = .ok (.invokestatic 119, 3) := by decide +kernel
theorem d15_26 : decode BC21 26 = .ok (.astore 5, 2) := by decide +kernel
theorem d15_28 : decode BC21 28 = .ok (.aload 5, 2) := by decide +kernel
theorem d15_30 : decode BC21 30 = .ok (.iload 4, 2) := by decide +kernel
theorem d15_32 : decode BC21 32 = .ok (.invokestatic 71, 3) := by decide +kernel
theorem d15_35 : decode BC21 35 = .ok (.sipush 255, 3) := by decide +kernel
theorem d15_38 : decode BC21 38 = .ok (.if_icmp .gt 16, 3) := by decide +kernel
theorem d15_54 : decode BC21 54 = .ok (.aload 5, 2) := by decide +kernel
theorem d15_56 : decode BC21 56 = .ok (.areturn, 1) := by decide +kernel
theorem d15_57 : decode BC21 57 = .ok (.aload_n 3, 1) := by decide +kernel
theorem d15_58 : decode BC21 58 = .ok (.areturn, 1) := by decide +kernel
theorem pd_15 : parseMethodDescriptor "([CI[BII)I" = some ⟨[(.array .char), .int, (.array .byte), .int, .int], some .int⟩ := by decide +kernel
theorem pd_16 : parseMethodDescriptor "([CII)[B" = some ⟨[(.array .char), .int, .int], some (.array .byte)⟩ := by decide +kernel
theorem ef_rc3_1 (m : MethodId) (a1 : Addr) : entryFrame m #[(.ref a1), (.int 0), (.int 1)] 6 = mkF m 0 #[vR a1, vI 0, vI 1, .unset, .unset, .unset] [] := rfl
def Q_rc3_1 (Z : State) (a1 : Addr) (kc : ClassId) (c0 : Int32) (h0 : Heap) (n0 : Nat) (v : Option Value) (h : Heap) (L : List Loc) : Prop := (∃ (b : Addr) (kb : ClassId), v = some (.ref b) ∧ h0.size ≤ b ∧ ((Arv Z h b kb .byte (1 : Int32) [(.int (own_l c0))] (.int 0) ∧ ¬ ((255 : Int32) < c0)) ∨ (Arv Z h b kb .byte (2 : Int32) [(.int (own_u0 c0)), (.int (own_u1 c0))] (.int 0)))) ∧ Fr n0 L ∧ Keep h0 h []
theorem rc3_1 (l : Launch) (Z : State) (a0 : Array Value) (hw : ∀ d ∈ tables_1, d.before a0 Z = true) (ws : List Jvm.Cond) (a1 : Addr) (kc : ClassId) (c0 : Int32) (h0 : Heap) (n0 : Nat) (Z0 : n0 ≤ h0.size) (V1 : Arv Z h0 a1 kc .char (1 : Int32) [(.int c0)] (.int 0)) (hc0 : 0 ≤ c0.toInt ∧ c0.toInt ≤ 65535) (O0 : Old Z n0 h0) (S_ad : own_S_ad Z) (S_hi : own_S_hi Z) (S_lo : own_S_lo Z) :
    MetFree l MN29 (head1 (Jvm.Cond.code MN29 jdk_52_method_16_code 6 (some (.array .byte)) :: ws) (rK 3 2 3 60)) (fun a U => a = #[(.ref a1), (.int 0), (.int 1)] ∧ Z.Warmed39 U.vm ∧ U.heap = h0) (fun _ _ _ _ _ => True) (fun _ U o U' => ∃ v L, o = .returned v ∧ Q_rc3_1 Z a1 kc c0 h0 n0 v U'.heap L ∧ FrameEnd U o U' L (rK 3 2 3 60).cells (rK 3 2 3 60).slots) := by
  refine MetFree.of_bodySF (plainFor_of_name pn_10) hisR ?_
  intro p e s m args below meth c sB Bd hml0 hP hK
  obtain ⟨rfl, hZ, hh⟩ := hP
  have hx := Bd.exec
  have hby := Bd.bytes
  have hml : c.maxLocals = 6 := hml0
  have hown : s.vm.findClass "java/lang/StringUTF16" = some m.cls := findClass_of_methodNamed Bd.named
  have X0 : Stand p l e (rK 3 2 3 60) s m #[(.ref a1), (.int 0), (.int 1)] below meth c sB [] 0 0 := Stand.of_body Bd
  have e0 : sB.heap = h0 := by rw [← hh, Bd.state]; rfl
  have N0 := Fr.nil n0
  change Go p.tables e below _ _
  have K0 := Keep.refl h0 []
  refine Go.on (B := sB.setTop (mkF m 0 #[vR a1, vI 0, vI 1, .unset, .unset, .unset] [])) (fun t k => castTop (ef_rc3_1 m a1) k) ?_
  obtain ⟨T1, h1, kq1, X1, e1, Xe1, A1, st1⟩ := newP X0 hx hZ (gw hw 20 rfl) e0 (g := (mkF m 1 #[vR a1, vI 0, vI 1, .unset, .unset, .unset] [(.int 1)])) rfl (hb hby d15_1) rfl (by decide) (cap := 1) (by decide) (by decide) (by decide) (by decide)
  obtain ⟨b1, gq1⟩ : ∃ z, z = h0.size := ⟨_, rfl⟩
  rw [← gq1] at A1 st1
  have ge_b1 : n0 ≤ b1 := Nat.le_trans Z0 (Nat.le_of_eq gq1.symm)
  have sz_b1 : h0.size ≤ b1 := Nat.le_trans K0.1 (Nat.le_of_eq gq1.symm)
  have ne_a1_b1 : a1 ≠ b1 := Nat.ne_of_lt (Nat.lt_of_lt_of_le V1.lt (Nat.le_of_eq gq1.symm))
  have f1 := V1.ext Xe1
  have O_2 := O0.ext Xe1
  have Zs3 := Nat.le_trans Z0 Xe1.1
  have K4 := K0.ext Xe1
  have V1 : Arv Z h1 b1 kq1 .byte (1 : Int32) [(.int 0)] (.int 0) := (Arv.new A1 (by decide)).pad (pad_rep [] (.int 0) 1)
  refine Go.on (B := T1.setTop (mkF m 7 #[vR a1, vI 0, vI 1, vR b1, .unset, .unset] [(.ref b1), (.int 0), (.ref a1)])) (fun t k => XS.iloadN X0.here hx rfl (hb hby d15_0) rfl (st1 _ (XS.astoreN X1.here hx rfl (hb hby d15_3) rfl rfl (l' := #[vR a1, vI 0, vI 1, vR b1, .unset, .unset]) rfl (XS.aloadN X1.here hx rfl (hb hby d15_4) rfl rfl (XS.iloadN X1.here hx rfl (hb hby d15_5) rfl (XS.aloadN X1.here hx rfl (hb hby d15_6) rfl rfl k)))))) ?_
  obtain ⟨_, _, ⟨T2, L2, k2, n2⟩, -, X2, ⟨Lc2, hQ2, lq2, yq2, zq2⟩, st2⟩ := Jvm.LawKit.callS X1 hx (y := MN28) hown (mg hZ hw 85 rfl) (mg hZ hw 86 rfl) (mg hZ hw 83 rfl) (mg hZ hw 87 rfl) (by decide) (backOf (W := 0) (rc5_1 l Z a0 hw [] a1 b1 kc kq1 c0 h1 n0 Zs3 f1 V1 ne_a1_b1 ge_b1) hZ (gw hw 87 rfl) (gw hw 83 rfl) (by decide) (by decide)) (g := (mkF m 9 #[vR a1, vI 0, vI 1, vR b1, .unset, .unset] [(.int 1), (.int 0), (.ref b1), (.int 0), (.ref a1)])) rfl (by rw [hml]; rfl) (argsL := [(.ref a1), (.int 0), (.ref b1), (.int 0), (.int 1)]) (rest := []) (lenOf pd_15 rfl) rfl (own_w rfl) (hb hby d15_9) (fun _ _ => ⟨rfl, e1, (by decide : 1 + 0 ≤ _), (by decide : 1 + 0 ≤ _)⟩)
  dsimp only [Pt.U, Pt.locs, Pt.cells, Pt.slots] at X2 lq2 yq2 zq2 st2 hQ2
  subst lq2 yq2 zq2
  refine Go.on (B := T1.setTop (mkF m 9 #[vR a1, vI 0, vI 1, vR b1, .unset, .unset] [(.int 1), (.int 0), (.ref b1), (.int 0), (.ref a1)])) (fun t k => XS.iconst X1.here hx rfl (hb hby d15_7) (XS.iloadN X1.here hx rfl (hb hby d15_8) rfl k)) ?_
  rcases hQ2 with ⟨⟨rfl, V52, hx2_c0⟩ | ⟨rfl, hx2_c0⟩, N2q, K2q⟩
  · have N2 := Fr.app N0 N2q
    have K8 := K4.trans K2q (allS (Or.inr sz_b1) all0)
    have hc17_4 : (1 : Int32) = (1 : Int32) := by decide
    refine Go.on (B := T2.setTop (mkF m 58 #[vR a1, vI 0, vI 1, vR b1, vI 1, .unset] [(.ref b1)])) (fun t k => st2 _ (XS.istore X2.here hx rfl (hb hby d15_12) rfl (l' := #[vR a1, vI 0, vI 1, vR b1, vI 1, .unset]) rfl (XS.iload X2.here hx rfl (hb hby d15_14) rfl (XS.iloadN X2.here hx rfl (hb hby d15_16) rfl (XS.icmpYes X2.here hx rfl (pc0 := 17) (pc' := 57) rfl (hb hby d15_17) rfl (teq hc17_4).1 (by decide) (by decide) (XS.aloadN X2.here hx rfl (hb hby d15_57) rfl rfl k)))))) ?_
    refine Go.fin X2 (v := some (.ref b1)) (own_nv Bd.returns) Bd.notSynchronized ?_ rfl ⟨⟨_, _, rfl, sz_b1, Or.inl ⟨V52, hx2_c0⟩⟩, N2, K8⟩ (by decide) (by decide)
    exact fun _ hr => retOut X2 hx Bd.returns rfl (Or.inr (Or.inr (Or.inr (Or.inr ⟨rfl, rfl, rfl⟩)))) (hb hby d15_58) hr
  · have N2 := Fr.app N0 N2q
    have f9 := f1.keep K2q (ninS ne_a1_b1 nin0)
    have O_10 := O_2.keep K2q (allS ge_b1 all0)
    have Zs11 := Nat.le_trans Zs3 K2q.1
    have K12 := K4.trans K2q (allS (Or.inr sz_b1) all0)
    have hc17_6 : ¬ ((0 : Int32) = (1 : Int32)) := by decide
    refine Go.on (B := T2.setTop (mkF m 21 #[vR a1, vI 0, vI 1, vR b1, vI 0, .unset] [(.ref a1)])) (fun t k => st2 _ (XS.istore X2.here hx rfl (hb hby d15_12) rfl (l' := #[vR a1, vI 0, vI 1, vR b1, vI 0, .unset]) rfl (XS.iload X2.here hx rfl (hb hby d15_14) rfl (XS.iloadN X2.here hx rfl (hb hby d15_16) rfl (XS.icmpNo X2.here hx rfl (hb hby d15_17) rfl (feq hc17_6).1 (XS.aloadN X2.here hx rfl (hb hby d15_20) rfl rfl k)))))) ?_
    obtain ⟨_, _, ⟨T7, L7, k7, n7⟩, -, X7, ⟨Lc7, hQ7, lq7, yq7, zq7⟩, st7⟩ := Jvm.LawKit.callS X2 hx (y := MN27) hown (mg hZ hw 115 rfl) (mg hZ hw 116 rfl) (mg hZ hw 83 rfl) (mg hZ hw 117 rfl) (by decide) (backOf (W := 0) (rtb_1 l Z a0 hw [] a1 kc c0 T2.heap n0 Zs11 f9 O_10 S_ad S_hi S_lo) hZ (gw hw 117 rfl) (gw hw 83 rfl) (by decide) (by decide)) (g := (mkF m 23 #[vR a1, vI 0, vI 1, vR b1, vI 0, .unset] [(.int 1), (.int 0), (.ref a1)])) rfl (by rw [hml]; rfl) (argsL := [(.ref a1), (.int 0), (.int 1)]) (rest := []) (lenOf pd_16 rfl) rfl (own_w rfl) (hb hby d15_23) (fun _ _ => ⟨rfl, rfl, (by decide : 1 + 1 ≤ _), (by decide : 1 + 2 ≤ _)⟩)
    dsimp only [Pt.U, Pt.locs, Pt.cells, Pt.slots] at X7 lq7 yq7 zq7 st7 hQ7
    subst lq7 yq7 zq7
    obtain ⟨⟨y7, ky7, rfl, sx7, Vy7⟩, N7q, K7q⟩ := hQ7
    have N7 := Fr.app N2 N7q
    have sz_y7 : h0.size ≤ y7 := Nat.le_trans K12.1 sx7
    have O_14 := O_10.keep K7q all0
    have Zs15 := Nat.le_trans Zs11 K7q.1
    have K16 := K12.trans K7q all0
    refine Go.on (B := T7.setTop (mkF m 32 #[vR a1, vI 0, vI 1, vR b1, vI 0, vR y7] [(.int 0), (.ref y7)])) (fun t k => XS.iloadN X2.here hx rfl (hb hby d15_21) rfl (XS.iloadN X2.here hx rfl (hb hby d15_22) rfl (st7 _ (XS.astore X7.here hx rfl (hb hby d15_26) rfl rfl (l' := #[vR a1, vI 0, vI 1, vR b1, vI 0, vR y7]) rfl (XS.aload X7.here hx rfl (hb hby d15_28) rfl rfl (XS.iload X7.here hx rfl (hb hby d15_30) rfl k)))))) ?_
    obtain ⟨_, _, ⟨T8, L8, k8, n8⟩, -, X8, ⟨Lc8, hQ8, lq8, yq8, zq8⟩, st8⟩ := Jvm.LawKit.callS X7 hx (y := MN5) hown (mg hZ hw 131 rfl) (mg hZ hw 132 rfl) (mg hZ hw 83 rfl) (mg hZ hw 133 rfl) (by decide) (backOf (W := 0) (rgc l Z a0 hw [] y7 (0 : Int32) ky7 (2 : Int32) [(.int (own_u0 c0)), (.int (own_u1 c0))] (own_u0 c0) (own_u1 c0) c0 T7.heap n0 Zs15 Vy7 ⟨by decide, by decide⟩ rfl ⟨by decide, by decide⟩ rfl (own_utf c0 hc0) O_14 S_ad S_hi S_lo) hZ (gw hw 133 rfl) (gw hw 83 rfl) (by decide) (by decide)) (g := (mkF m 32 #[vR a1, vI 0, vI 1, vR b1, vI 0, vR y7] [(.int 0), (.ref y7)])) rfl (by rw [hml]; rfl) (argsL := [(.ref y7), (.int 0)]) (rest := []) (lenOf pd_4 rfl) rfl (own_w rfl) (hb hby d15_32) (fun _ _ => ⟨rfl, rfl, (by decide : 2 + 0 ≤ _), (by decide : 3 + 0 ≤ _)⟩)
    dsimp only [Pt.U, Pt.locs, Pt.cells, Pt.slots] at X8 lq8 yq8 zq8 st8 hQ8
    subst lq8 yq8 zq8
    obtain ⟨rfl, N8q, e8q⟩ := hQ8
    have N8 := Fr.app N7 N8q
    have hc38_9 : (255 : Int32) < c0 := hx2_c0
    refine Go.on (B := T8.setTop (mkF m 56 #[vR a1, vI 0, vI 1, vR b1, vI 0, vR y7] [(.ref y7)])) (fun t k => st8 _ (XS.sipush X8.here hx rfl (hb hby d15_35) (XS.icmpYes X8.here hx rfl (pc0 := 38) (pc' := 54) rfl (hb hby d15_38) rfl (tlt hc38_9).2.2.1 (by decide) (by decide) (XS.aload X8.here hx rfl (hb hby d15_54) rfl rfl k)))) ?_
    refine Go.fin X8 (v := some (.ref y7)) (own_nv Bd.returns) Bd.notSynchronized ?_ e8q ⟨⟨_, _, rfl, sz_y7, Or.inr Vy7⟩, N8, K16⟩ (by decide) (by decide)
    exact fun _ hr => retOut X8 hx Bd.returns rfl (Or.inr (Or.inr (Or.inr (Or.inr ⟨rfl, rfl, rfl⟩)))) (hb hby d15_56) hr
theorem d3_0 : decode BC5 0 = .ok (.aload_n 0, 1) := by decide +kernel
theorem d3_1 : decode BC5 1 = .ok (.invokespecial 1, 3) := by decide +kernel
theorem d3_4 : decode BC5 4 = .ok (.iload_n 3, 1) := by decide +kernel
theorem d3_5 : decode BC5 5 = .ok (.ifCond .ne 22, 3) := by decide +kernel
theorem d3_8 : decode BC5 8 = .ok (.aload_n 0, 1) := by decide +kernel
theorem d3_9 : decode BC5 9 = .ok (.ldc 7, 2) := by decide +kernel
theorem d3_11 : decode BC5 11 = .ok (.getfield 9, 3) := by decide +kernel
theorem d3_14 : decode BC5 14 = .ok (.putfield 9, 3) := by decide +kernel
theorem d3_17 : decode BC5 17 = .ok (.aload_n 0, 1) := by decide +kernel
theorem d3_18 : decode BC5 18 = .ok (.ldc 7, 2) := by decide +kernel
theorem d3_20 : decode BC5 20 = .ok (.getfield 15, 3) := by decide +kernel
theorem d3_23 : decode BC5 23 = .ok (.putfield 15, 3) := by decide +kernel
theorem d3_26 : decode BC5 26 = .ok (.return_, 1) := by decide +kernel
theorem d3_27 : decode BC5 27 = .ok (.getstatic 38, 3) := by decide +kernel
theorem d3_30 : decode BC5 30 = .ok (.ifCond .eq 28, 3) := by decide +kernel
theorem d3_33 : decode BC5 33 = .ok (.aload_n 1, 1) := by decide +kernel
theorem d3_34 : decode BC5 34 = .ok (.iload_n 2, 1) := by decide +kernel
theorem d3_35 : decode BC5 35 = .ok (.iload_n 3, 1) := by decide +kernel
theorem d3_36 : decode BC5 36 = .ok (.invokestatic 177, 3) := by decide +kernel
theorem d3_39 : decode BC5 39 = .ok (.astore 5, 2) := by decide +kernel
theorem d3_41 : decode BC5 41 = .ok (.aload_n 0, 1) := by decide +kernel
theorem d3_42 : decode BC5 42 = .ok (.aload 5, 2) := by decide +kernel
theorem d3_44 : decode BC5 44 = .ok (.iload_n 3, 1) := by decide +kernel
theorem d3_45 : decode BC5 45 = .ok (.invokestatic 47, 3) := by decide +kernel
theorem d3_48 : decode BC5 48 = .ok (.putfield 15, 3) := by decide +kernel
theorem d3_51 : decode BC5 51 = .ok (.aload_n 0, 1) := by decide +kernel
theorem d3_52 : decode BC5 52 = .ok (.aload 5, 2) := by decide +kernel
theorem d3_54 : decode BC5 54 = .ok (.putfield 9, 3) := by decide +kernel
theorem d3_57 : decode BC5 57 = .ok (.return_, 1) := by decide +kernel
theorem pd_17 : parseMethodDescriptor "([BI)B" = some ⟨[(.array .byte), .int], some .byte⟩ := by decide +kernel
theorem ef_ri4_1 (m : MethodId) (a1 : Addr) (a2 : Addr) : entryFrame m #[(.ref a1), (.ref a2), (.int 0), (.int 1), .null] 6 = mkF m 0 #[vR a1, vR a2, vI 0, vI 1, .val .null, .unset] [] := rfl
def Q_ri4_1 (Z : State) (a1 : Addr) (a2 : Addr) (kc : ClassId) (c0 : Int32) (G1 : Int32) (h0 : Heap) (n0 : Nat) (v : Option Value) (h : Heap) (L : List Loc) : Prop := v = none ∧ Fr n0 L ∧ Keep h0 h [a1] ∧ Exa Z h a1 "java/lang/String" ∧ ∃ (b : Addr) (kb : ClassId), h0.size ≤ b ∧ Fld Z h a1 "java/lang/String" "value" "[B" (.ref b) ∧ ((Fld Z h a1 "java/lang/String" "coder" "B" (.int 0) ∧ Arv Z h b kb .byte (1 : Int32) [(.int (own_l c0))] (.int 0) ∧ ¬ ((255 : Int32) < c0)) ∨ (Fld Z h a1 "java/lang/String" "coder" "B" (.int 1) ∧ Arv Z h b kb .byte (2 : Int32) [(.int (own_u0 c0)), (.int (own_u1 c0))] (.int 0)))
theorem ri4_1 (l : Launch) (Z : State) (a0 : Array Value) (hw : ∀ d ∈ tables_1, d.before a0 Z = true) (ws : List Jvm.Cond) (a1 : Addr) (a2 : Addr) (kc : ClassId) (c0 : Int32) (G1 : Int32) (h0 : Heap) (n0 : Nat) (Z0 : n0 ≤ h0.size) (E1 : Exa Z h0 a1 "java/lang/String") (F_vl : Fld Z h0 a1 "java/lang/String" "value" "[B" .null) (F_cd : Fld Z h0 a1 "java/lang/String" "coder" "B" (.int 0)) (g1 : n0 ≤ a1) (V2 : Arv Z h0 a2 kc .char (1 : Int32) [(.int c0)] (.int 0)) (hne : a2 ≠ a1) (hc0 : 0 ≤ c0.toInt ∧ c0.toInt ≤ 65535) (O0 : Old Z n0 h0) (S_cs : own_S_cs Z G1) (S_ad : own_S_ad Z) (S_hi : own_S_hi Z) (S_lo : own_S_lo Z) (P5 : ¬ (G1 = (0 : Int32))) :
    MetFree l MN30 (head1 (Jvm.Cond.code MN30 jdk_42_method_149_code 6 none :: ws) (rK 4 2 3 90)) (fun a U => a = #[(.ref a1), (.ref a2), (.int 0), (.int 1), .null] ∧ Z.Warmed39 U.vm ∧ U.heap = h0) (fun _ _ _ _ _ => True) (fun _ U o U' => ∃ v L, o = .returned v ∧ Q_ri4_1 Z a1 a2 kc c0 G1 h0 n0 v U'.heap L ∧ FrameEnd U o U' L (rK 4 2 3 90).cells (rK 4 2 3 90).slots) := by
  refine MetFree.of_bodySF (plainFor_of_name pn_5) hisR ?_
  intro p e s m args below meth c sB Bd hml0 hP hK
  obtain ⟨rfl, hZ, hh⟩ := hP
  have hx := Bd.exec
  have hby := Bd.bytes
  have hml : c.maxLocals = 6 := hml0
  have hown : s.vm.findClass "java/lang/String" = some m.cls := findClass_of_methodNamed Bd.named
  have hnm := (name_of_methodNamed Bd.named Bd.method).1
  have X0 : Stand p l e (rK 4 2 3 90) s m #[(.ref a1), (.ref a2), (.int 0), (.int 1), .null] below meth c sB [] 0 0 := Stand.of_body Bd
  have e0 : sB.heap = h0 := by rw [← hh, Bd.state]; rfl
  have N0 := Fr.nil n0
  change Go p.tables e below _ _
  have K0 := Keep.refl h0 [a1]
  refine Go.on (B := sB.setTop (mkF m 0 #[vR a1, vR a2, vI 0, vI 1, .val .null, .unset] [])) (fun t k => castTop (ef_ri4_1 m a1 a2) k) ?_
  obtain ⟨T1, X1, e1, st1⟩ := initO X0 hx hZ hown (gw hw 16 rfl) (gw hw 17 rfl) (gw hw 18 rfl) e0 (g := (mkF m 1 #[vR a1, vR a2, vI 0, vI 1, .val .null, .unset] [(.ref a1)])) rfl (by rw [hml]; rfl) rfl (hb hby d3_1) (by decide) (W := 0) (own_w rfl) (by decide)
  have hc5_2 : ¬ ((1 : Int32) = (0 : Int32)) := by decide
  obtain ⟨T3, X3, e3, st3⟩ := getS2 X1 hx hZ hown (host := "") (Or.inl (gw hw 63 rfl)) Via.refl e1 (S_cs.ext O0.2) (g := (mkF m 27 #[vR a1, vR a2, vI 0, vI 1, .val .null, .unset] [])) rfl (hb hby d3_27)
  have hc30_4 : ¬ (G1 = (0 : Int32)) := P5
  refine Go.on (B := T3.setTop (mkF m 33 #[vR a1, vR a2, vI 0, vI 1, .val .null, .unset] [])) (fun t k => XS.aloadN X0.here hx rfl (hb hby d3_0) rfl rfl (st1 _ (XS.iloadN X1.here hx rfl (hb hby d3_4) rfl (XS.ifYes X1.here hx rfl (pc0 := 5) (pc' := 27) rfl (hb hby d3_5) rfl ((if0 _ _).trans (feq hc5_2).2) (by decide) (by decide) (st3 _ (XS.ifNo X3.here hx rfl (hb hby d3_30) rfl ((if0 _ _).trans (feq hc30_4).1) k)))))) ?_
  obtain ⟨_, _, ⟨T5, L5, k5, n5⟩, -, X5, ⟨Lc5, hQ5, lq5, yq5, zq5⟩, st5⟩ := Jvm.LawKit.callS X3 hx (y := MN29) hown (mg hZ hw 81 rfl) (mg hZ hw 82 rfl) (mg hZ hw 83 rfl) (mg hZ hw 84 rfl) (by decide) (backOf (W := 0) (rc3_1 l Z a0 hw [] a2 kc c0 h0 n0 Z0 V2 hc0 O0 S_ad S_hi S_lo) hZ (gw hw 84 rfl) (gw hw 83 rfl) (by decide) (by decide)) (g := (mkF m 36 #[vR a1, vR a2, vI 0, vI 1, .val .null, .unset] [(.int 1), (.int 0), (.ref a2)])) rfl (by rw [hml]; rfl) (argsL := [(.ref a2), (.int 0), (.int 1)]) (rest := []) (lenOf pd_16 rfl) rfl (own_w rfl) (hb hby d3_36) (fun _ _ => ⟨rfl, e3, (by decide : 0 + 2 ≤ _), (by decide : 0 + 3 ≤ _)⟩)
  dsimp only [Pt.U, Pt.locs, Pt.cells, Pt.slots] at X5 lq5 yq5 zq5 st5 hQ5
  subst lq5 yq5 zq5
  refine Go.on (B := T3.setTop (mkF m 36 #[vR a1, vR a2, vI 0, vI 1, .val .null, .unset] [(.int 1), (.int 0), (.ref a2)])) (fun t k => XS.aloadN X3.here hx rfl (hb hby d3_33) rfl rfl (XS.iloadN X3.here hx rfl (hb hby d3_34) rfl (XS.iloadN X3.here hx rfl (hb hby d3_35) rfl k))) ?_
  rcases hQ5 with ⟨⟨y5, ky5, rfl, sx5, ⟨Vy5, hx5_c0⟩ | Vy5⟩, N5q, K5q⟩
  · have N5 := Fr.app N0 N5q
    have ne_a1_y5 : a1 ≠ y5 := Nat.ne_of_lt (Nat.lt_of_lt_of_le E1.lt sx5)
    have sz_y5 : h0.size ≤ y5 := Nat.le_trans K0.1 sx5
    have f1 := E1.keep K5q
    have f2 := F_vl.keep K5q nin0
    have f3 := F_cd.keep K5q nin0
    have Zs6 := Nat.le_trans Z0 K5q.1
    have K7 := K0.trans K5q all0
    obtain ⟨_, _, ⟨T6, L6, k6, n6⟩, -, X6, ⟨Lc6, hQ6, lq6, yq6, zq6⟩, st6⟩ := Jvm.LawKit.callS X5 hx (y := MN25) hown (mg hZ hw 88 rfl) (mg hZ hw 89 rfl) (mg hZ hw 83 rfl) (mg hZ hw 90 rfl) (by decide) (backOf (W := 1) (rcdg l Z a0 hw [] y5 (1 : Int32) ky5 (1 : Int32) [(.int (own_l c0))] (0 : Int32) T5.heap n0 Zs6 Vy5 (by decide)) hZ (gw hw 90 rfl) (gw hw 83 rfl) (by decide) (by decide)) (g := (mkF m 45 #[vR a1, vR a2, vI 0, vI 1, .val .null, vR y5] [(.int 1), (.ref y5), (.ref a1)])) rfl (by rw [hml]; rfl) (argsL := [(.ref y5), (.int 1)]) (rest := [(.ref a1)]) (lenOf pd_17 rfl) rfl (own_w rfl) (hb hby d3_45) (fun _ _ => ⟨rfl, rfl, (by decide : 2 + 0 ≤ _), (by decide : 3 + 0 ≤ _)⟩)
    dsimp only [Pt.U, Pt.locs, Pt.cells, Pt.slots] at X6 lq6 yq6 zq6 st6 hQ6
    subst lq6 yq6 zq6
    obtain ⟨rfl, N6q, e6q⟩ := hQ6
    have N6 := Fr.app N5 N6q
    refine Go.on (B := T6.setTop (mkF m 48 #[vR a1, vR a2, vI 0, vI 1, .val .null, vR y5] [(.int 0), (.ref a1)])) (fun t k => st5 _ (XS.astore X5.here hx rfl (hb hby d3_39) rfl rfl (l' := #[vR a1, vR a2, vI 0, vI 1, .val .null, vR y5]) rfl (XS.aloadN X5.here hx rfl (hb hby d3_41) rfl rfl (XS.aload X5.here hx rfl (hb hby d3_42) rfl rfl (XS.iloadN X5.here hx rfl (hb hby d3_44) rfl (st6 _ k)))))) ?_
    obtain ⟨T7, h7, X7, e7, W7, st7⟩ := putFN X6 hx hZ hown (gw hw 26 rfl) Via.refl e6q f3 f1 (Or.inr ⟨(gw hw 22 rfl), rfl, hnm⟩) (gw hw 7 rfl) (ty := .byte) (v' := (.int 0)) (by decide) rfl (by decide) (g := (mkF m 48 #[vR a1, vR a2, vI 0, vI 1, .val .null, vR y5] [(.int 0), (.ref a1)])) rfl rfl (hb hby d3_48)
    have N7 := Fr.snoc X7 N6 g1
    have Fw7 := f3.same W7
    have f8 := f1.wr W7
    have f9 := f2.other W7 (Or.inr (slot_ne (Or.inr (gw hw 21 rfl)) (Or.inr (gw hw 22 rfl)) (by decide) (t := (.array .byte)) (t' := .byte) (by decide) (by decide)))
    have f12 := Vy5.other W7 (Ne.symm ne_a1_y5)
    have K14 := K7.wr W7 (Or.inl (List.mem_of_getElem? (i := 0) rfl))
    obtain ⟨T8, h8, X8, e8, W8, st8⟩ := putF X7 hx hZ hown (host := "") (Or.inl (gw hw 25 rfl)) Via.refl e7 f9 f8 (Or.inr ⟨(gw hw 21 rfl), rfl, hnm⟩) (gw hw 7 rfl) (ty := (.array .byte)) (by decide) rfl rfl (g := (mkF m 54 #[vR a1, vR a2, vI 0, vI 1, .val .null, vR y5] [(.ref y5), (.ref a1)])) rfl rfl (hb hby d3_54)
    have N8 := Fr.snoc X8 N7 g1
    have Fw8 := f9.same W8
    have f15 := f8.wr W8
    have f16 := Fw7.other W8 (Or.inr (slot_ne (Or.inr (gw hw 22 rfl)) (Or.inr (gw hw 21 rfl)) (by decide) (t := .byte) (t' := (.array .byte)) (by decide) (by decide)))
    have f19 := f12.other W8 (Ne.symm ne_a1_y5)
    have K21 := K14.wr W8 (Or.inl (List.mem_of_getElem? (i := 0) rfl))
    refine Go.on (B := T8.setTop (mkF m 57 #[vR a1, vR a2, vI 0, vI 1, .val .null, vR y5] [])) (fun t k => st7 _ (XS.aloadN X7.here hx rfl (hb hby d3_51) rfl rfl (XS.aload X7.here hx rfl (hb hby d3_52) rfl rfl (st8 _ k)))) ?_
    refine Go.fin X8 (v := none) (fun _ => rfl) Bd.notSynchronized ?_ e8 ⟨rfl, N8, K21, f15, _, _, sz_y5, Fw8, Or.inl ⟨f16, f19, hx5_c0⟩⟩ (by decide) (by decide)
    exact fun _ hr => X8.returnOut hx Bd.returns (hb hby d3_57) hr
  · have N5 := Fr.app N0 N5q
    have ne_a1_y5 : a1 ≠ y5 := Nat.ne_of_lt (Nat.lt_of_lt_of_le E1.lt sx5)
    have sz_y5 : h0.size ≤ y5 := Nat.le_trans K0.1 sx5
    have f22 := E1.keep K5q
    have f23 := F_vl.keep K5q nin0
    have f24 := F_cd.keep K5q nin0
    have Zs27 := Nat.le_trans Z0 K5q.1
    have K28 := K0.trans K5q all0
    obtain ⟨_, _, ⟨T9, L9, k9, n9⟩, -, X9, ⟨Lc9, hQ9, lq9, yq9, zq9⟩, st9⟩ := Jvm.LawKit.callS X5 hx (y := MN25) hown (mg hZ hw 88 rfl) (mg hZ hw 89 rfl) (mg hZ hw 83 rfl) (mg hZ hw 90 rfl) (by decide) (backOf (W := 1) (rcdg l Z a0 hw [] y5 (1 : Int32) ky5 (2 : Int32) [(.int (own_u0 c0)), (.int (own_u1 c0))] (1 : Int32) T5.heap n0 Zs27 Vy5 (by decide)) hZ (gw hw 90 rfl) (gw hw 83 rfl) (by decide) (by decide)) (g := (mkF m 45 #[vR a1, vR a2, vI 0, vI 1, .val .null, vR y5] [(.int 1), (.ref y5), (.ref a1)])) rfl (by rw [hml]; rfl) (argsL := [(.ref y5), (.int 1)]) (rest := [(.ref a1)]) (lenOf pd_17 rfl) rfl (own_w rfl) (hb hby d3_45) (fun _ _ => ⟨rfl, rfl, (by decide : 2 + 0 ≤ _), (by decide : 3 + 0 ≤ _)⟩)
    dsimp only [Pt.U, Pt.locs, Pt.cells, Pt.slots] at X9 lq9 yq9 zq9 st9 hQ9
    subst lq9 yq9 zq9
    obtain ⟨rfl, N9q, e9q⟩ := hQ9
    have N9 := Fr.app N5 N9q
    refine Go.on (B := T9.setTop (mkF m 48 #[vR a1, vR a2, vI 0, vI 1, .val .null, vR y5] [(.int 1), (.ref a1)])) (fun t k => st5 _ (XS.astore X5.here hx rfl (hb hby d3_39) rfl rfl (l' := #[vR a1, vR a2, vI 0, vI 1, .val .null, vR y5]) rfl (XS.aloadN X5.here hx rfl (hb hby d3_41) rfl rfl (XS.aload X5.here hx rfl (hb hby d3_42) rfl rfl (XS.iloadN X5.here hx rfl (hb hby d3_44) rfl (st9 _ k)))))) ?_
    obtain ⟨T10, h10, X10, e10, W10, st10⟩ := putFN X9 hx hZ hown (gw hw 26 rfl) Via.refl e9q f24 f22 (Or.inr ⟨(gw hw 22 rfl), rfl, hnm⟩) (gw hw 7 rfl) (ty := .byte) (v' := (.int 1)) (by decide) rfl (by decide) (g := (mkF m 48 #[vR a1, vR a2, vI 0, vI 1, .val .null, vR y5] [(.int 1), (.ref a1)])) rfl rfl (hb hby d3_48)
    have N10 := Fr.snoc X10 N9 g1
    have Fw10 := f24.same W10
    have f29 := f22.wr W10
    have f30 := f23.other W10 (Or.inr (slot_ne (Or.inr (gw hw 21 rfl)) (Or.inr (gw hw 22 rfl)) (by decide) (t := (.array .byte)) (t' := .byte) (by decide) (by decide)))
    have f33 := Vy5.other W10 (Ne.symm ne_a1_y5)
    have K35 := K28.wr W10 (Or.inl (List.mem_of_getElem? (i := 0) rfl))
    obtain ⟨T11, h11, X11, e11, W11, st11⟩ := putF X10 hx hZ hown (host := "") (Or.inl (gw hw 25 rfl)) Via.refl e10 f30 f29 (Or.inr ⟨(gw hw 21 rfl), rfl, hnm⟩) (gw hw 7 rfl) (ty := (.array .byte)) (by decide) rfl rfl (g := (mkF m 54 #[vR a1, vR a2, vI 0, vI 1, .val .null, vR y5] [(.ref y5), (.ref a1)])) rfl rfl (hb hby d3_54)
    have N11 := Fr.snoc X11 N10 g1
    have Fw11 := f30.same W11
    have f36 := f29.wr W11
    have f37 := Fw10.other W11 (Or.inr (slot_ne (Or.inr (gw hw 22 rfl)) (Or.inr (gw hw 21 rfl)) (by decide) (t := .byte) (t' := (.array .byte)) (by decide) (by decide)))
    have f40 := f33.other W11 (Ne.symm ne_a1_y5)
    have K42 := K35.wr W11 (Or.inl (List.mem_of_getElem? (i := 0) rfl))
    refine Go.on (B := T11.setTop (mkF m 57 #[vR a1, vR a2, vI 0, vI 1, .val .null, vR y5] [])) (fun t k => st10 _ (XS.aloadN X10.here hx rfl (hb hby d3_51) rfl rfl (XS.aload X10.here hx rfl (hb hby d3_52) rfl rfl (st11 _ k)))) ?_
    refine Go.fin X11 (v := none) (fun _ => rfl) Bd.notSynchronized ?_ e11 ⟨rfl, N11, K42, f36, _, _, sz_y5, Fw11, Or.inr ⟨f37, f40⟩⟩ (by decide) (by decide)
    exact fun _ hr => X11.returnOut hx Bd.returns (hb hby d3_57) hr
theorem d2_0 : decode BC12 0 = .ok (.aload_n 0, 1) := by decide +kernel
theorem d2_1 : decode BC12 1 = .ok (.aload_n 1, 1) := by decide +kernel
theorem d2_2 : decode BC12 2 = .ok (.iconst 0, 1) := by decide +kernel
theorem d2_3 : decode BC12 3 = .ok (.aload_n 1, 1) := by decide +kernel
theorem d2_4 : decode BC12 4 = .ok (.arraylength, 1) := by decide +kernel
theorem d2_5 : decode BC12 5 = .ok (.aconst_null, 1) := by decide +kernel
theorem d2_6 : decode BC12 6 = .ok (.invokespecial 27, 3) := by decide +kernel
theorem d2_9 : decode BC12 9 = .ok (.return_, 1) := by decide +kernel
theorem pd_18 : parseMethodDescriptor "([CIILjava/lang/Void;)V" = some ⟨[(.array .char), .int, .int, (.object "java/lang/Void")], none⟩ := by decide +kernel
theorem ef_ri1_1 (m : MethodId) (a1 : Addr) (a2 : Addr) : entryFrame m #[(.ref a1), (.ref a2)] 2 = mkF m 0 #[vR a1, vR a2] [] := rfl
def Q_ri1_1 (Z : State) (a1 : Addr) (a2 : Addr) (kc : ClassId) (c0 : Int32) (G1 : Int32) (h0 : Heap) (n0 : Nat) (v : Option Value) (h : Heap) (L : List Loc) : Prop := v = none ∧ Fr n0 L ∧ Keep h0 h [a1] ∧ Exa Z h a1 "java/lang/String" ∧ ∃ (b : Addr) (kb : ClassId), h0.size ≤ b ∧ Fld Z h a1 "java/lang/String" "value" "[B" (.ref b) ∧ ((Fld Z h a1 "java/lang/String" "coder" "B" (.int 0) ∧ Arv Z h b kb .byte (1 : Int32) [(.int (own_l c0))] (.int 0) ∧ ¬ ((255 : Int32) < c0)) ∨ (Fld Z h a1 "java/lang/String" "coder" "B" (.int 1) ∧ Arv Z h b kb .byte (2 : Int32) [(.int (own_u0 c0)), (.int (own_u1 c0))] (.int 0)))
theorem ri1_1 (l : Launch) (Z : State) (a0 : Array Value) (hw : ∀ d ∈ tables_1, d.before a0 Z = true) (ws : List Jvm.Cond) (a1 : Addr) (a2 : Addr) (kc : ClassId) (c0 : Int32) (G1 : Int32) (h0 : Heap) (n0 : Nat) (Z0 : n0 ≤ h0.size) (E1 : Exa Z h0 a1 "java/lang/String") (F_vl : Fld Z h0 a1 "java/lang/String" "value" "[B" .null) (F_cd : Fld Z h0 a1 "java/lang/String" "coder" "B" (.int 0)) (g1 : n0 ≤ a1) (V2 : Arv Z h0 a2 kc .char (1 : Int32) [(.int c0)] (.int 0)) (hne : a2 ≠ a1) (hc0 : 0 ≤ c0.toInt ∧ c0.toInt ≤ 65535) (O0 : Old Z n0 h0) (S_cs : own_S_cs Z G1) (S_ad : own_S_ad Z) (S_hi : own_S_hi Z) (S_lo : own_S_lo Z) (P5 : ¬ (G1 = (0 : Int32))) :
    MetFree l MN31 (head1 (Jvm.Cond.code MN31 jdk_42_method_3_code 2 none :: ws) (rK 5 2 3 120)) (fun a U => a = #[(.ref a1), (.ref a2)] ∧ Z.Warmed39 U.vm ∧ U.heap = h0) (fun _ _ _ _ _ => True) (fun _ U o U' => ∃ v L, o = .returned v ∧ Q_ri1_1 Z a1 a2 kc c0 G1 h0 n0 v U'.heap L ∧ FrameEnd U o U' L (rK 5 2 3 120).cells (rK 5 2 3 120).slots) := by
  refine MetFree.of_bodySF (plainFor_of_name pn_5) hisR ?_
  intro p e s m args below meth c sB Bd hml0 hP hK
  obtain ⟨rfl, hZ, hh⟩ := hP
  have hx := Bd.exec
  have hby := Bd.bytes
  have hml : c.maxLocals = 2 := hml0
  have hown : s.vm.findClass "java/lang/String" = some m.cls := findClass_of_methodNamed Bd.named
  have X0 : Stand p l e (rK 5 2 3 120) s m #[(.ref a1), (.ref a2)] below meth c sB [] 0 0 := Stand.of_body Bd
  have e0 : sB.heap = h0 := by rw [← hh, Bd.state]; rfl
  have N0 := Fr.nil n0
  change Go p.tables e below _ _
  have K0 := Keep.refl h0 [a1]
  refine Go.on (B := sB.setTop (mkF m 0 #[vR a1, vR a2] [])) (fun t k => castTop (ef_ri1_1 m a1 a2) k) ?_
  obtain ⟨cl1, Ar1, -, Sz1, Ng1, -, -⟩ := id V2
  refine Go.on (B := sB.setTop (mkF m 6 #[vR a1, vR a2] [.null, (.int 1), (.int 0), (.ref a2), (.ref a1)])) (fun t k => XS.aloadN X0.here hx rfl (hb hby d2_0) rfl rfl (XS.aloadN X0.here hx rfl (hb hby d2_1) rfl rfl (XS.iconst X0.here hx rfl (hb hby d2_2) (XS.aloadN X0.here hx rfl (hb hby d2_3) rfl rfl (X0.arraylength hx (by rw [e0]; exact Ar1.1) (State.isArrayOf_alike hZ.alike Ar1.2.1) (g := (mkF m 4 #[vR a1, vR a2] [(.ref a2), (.int 0), (.ref a2), (.ref a1)])) rfl rfl (hb hby d2_4) _ (by rw [len_of Sz1 Ng1]; exact (XS.aconstNull X0.here hx rfl (hb hby d2_5) k))))))) ?_
  obtain ⟨_, _, ⟨T2, L2, k2, n2⟩, -, X2, ⟨Lc2, hQ2, lq2, yq2, zq2⟩, st2⟩ := X0.specialBack hx (y := MN30) rfl hown (mg hZ hw 12 rfl) (mg hZ hw 13 rfl) (mg hZ hw 15 rfl) (by decide) (backOf (W := 0) (ri4_1 l Z a0 hw [] a1 a2 kc c0 G1 h0 n0 Z0 E1 F_vl F_cd g1 V2 hne hc0 O0 S_cs S_ad S_hi S_lo P5) hZ (gw hw 15 rfl) (gw hw 8 rfl) (by decide) (by decide)) (g := (mkF m 6 #[vR a1, vR a2] [.null, (.int 1), (.int 0), (.ref a2), (.ref a1)])) rfl (by rw [hml]; rfl) (Steps.refl _) (a := a1) (argsL := [(.ref a2), (.int 0), (.int 1), .null]) (rest := []) (lenOf pd_18 rfl) rfl (own_w rfl) (hb hby d2_6) (fun _ _ => ⟨rfl, e0, (by decide : 0 + 2 ≤ _), (by decide : 0 + 3 ≤ _)⟩)
  dsimp only [Pt.U, Pt.locs, Pt.cells, Pt.slots] at X2 lq2 yq2 zq2 st2 hQ2
  subst lq2 yq2 zq2
  rcases hQ2 with ⟨rfl, N2q, K2q, E2q, y2, ky2, sx2, Fv2, ⟨Fc2, Vy2, hx2_0⟩ | ⟨Fc2, Vy2⟩⟩
  · have N2 := Fr.app N0 N2q
    have sz_y2 : h0.size ≤ y2 := Nat.le_trans K0.1 sx2
    have K5 := K0.trans K2q (allS (Or.inl (List.mem_of_getElem? (i := 0) rfl)) all0)
    refine Go.on (B := T2.setTop (mkF m 9 #[vR a1, vR a2] [])) (fun t k => st2.trans k) ?_
    refine Go.fin X2 (v := none) (fun _ => rfl) Bd.notSynchronized ?_ rfl ⟨rfl, N2, K5, E2q, _, _, sz_y2, Fv2, Or.inl ⟨Fc2, Vy2, hx2_0⟩⟩ (by decide) (by decide)
    exact fun _ hr => X2.returnOut hx Bd.returns (hb hby d2_9) hr
  · have N2 := Fr.app N0 N2q
    have sz_y2 : h0.size ≤ y2 := Nat.le_trans K0.1 sx2
    have K10 := K0.trans K2q (allS (Or.inl (List.mem_of_getElem? (i := 0) rfl)) all0)
    refine Go.on (B := T2.setTop (mkF m 9 #[vR a1, vR a2] [])) (fun t k => st2.trans k) ?_
    refine Go.fin X2 (v := none) (fun _ => rfl) Bd.notSynchronized ?_ rfl ⟨rfl, N2, K10, E2q, _, _, sz_y2, Fv2, Or.inr ⟨Fc2, Vy2⟩⟩ (by decide) (by decide)
    exact fun _ hr => X2.returnOut hx Bd.returns (hb hby d2_9) hr
theorem ef_rnf_2 (m : MethodId)  : entryFrame m #[(.int 2)] 1 = mkF m 0 #[vI 2] [] := rfl
def Q_rnf_2 (Z : State)  (h0 : Heap) (n0 : Nat) (v : Option Value) (h : Heap) (L : List Loc) : Prop := (∃ (b : Addr) (kb : ClassId), v = some (.ref b) ∧ h0.size ≤ b ∧ Arv Z h b kb .byte (4 : Int32) [(.int 0), (.int 0), (.int 0), (.int 0)] (.int 0)) ∧ Fr n0 L ∧ Keep h0 h []
theorem rnf_2 (l : Launch) (Z : State) (a0 : Array Value) (hw : ∀ d ∈ tables_1, d.before a0 Z = true) (ws : List Jvm.Cond)  (h0 : Heap) (n0 : Nat) (Z0 : n0 ≤ h0.size)  :
    MetFree l MN26 (head1 (Jvm.Cond.code MN26 jdk_52_method_2_code 1 (some (.array .byte)) :: ws) (rK 1 1 4 12)) (fun a U => a = #[(.int 2)] ∧ Z.Warmed39 U.vm ∧ U.heap = h0) (fun _ _ _ _ _ => True) (fun _ U o U' => ∃ v L, o = .returned v ∧ Q_rnf_2 Z  h0 n0 v U'.heap L ∧ FrameEnd U o U' L (rK 1 1 4 12).cells (rK 1 1 4 12).slots) := by
  refine MetFree.of_bodySF (plainFor_of_name pn_10) hisR ?_
  intro p e s m args below meth c sB Bd hml0 hP hK
  obtain ⟨rfl, hZ, hh⟩ := hP
  have hx := Bd.exec
  have hby := Bd.bytes
  have hml : c.maxLocals = 1 := hml0
  have hown : s.vm.findClass "java/lang/StringUTF16" = some m.cls := findClass_of_methodNamed Bd.named
  have X0 : Stand p l e (rK 1 1 4 12) s m #[(.int 2)] below meth c sB [] 0 0 := Stand.of_body Bd
  have e0 : sB.heap = h0 := by rw [← hh, Bd.state]; rfl
  have N0 := Fr.nil n0
  change Go p.tables e below _ _
  have K0 := Keep.refl h0 []
  refine Go.on (B := sB.setTop (mkF m 0 #[vI 2] [])) (fun t k => castTop (ef_rnf_2 m ) k) ?_
  obtain ⟨_, _, ⟨T1, L1, k1, n1⟩, -, X1, ⟨Lc1, hQ1, lq1, yq1, zq1⟩, st1⟩ := Jvm.LawKit.callS X0 hx (y := MN18) hown (mg hZ hw 121 rfl) (mg hZ hw 122 rfl) (mg hZ hw 83 rfl) (mg hZ hw 123 rfl) (by decide) (backOf (W := 0) (rnlg l Z a0 hw [] (2 : Int32) (4 : Int32) h0 n0 Z0 ⟨by decide, by decide, by decide⟩) hZ (gw hw 123 rfl) (gw hw 83 rfl) (by decide) (by decide)) (g := (mkF m 1 #[vI 2] [(.int 2)])) rfl (by rw [hml]; rfl) (argsL := [(.int 2)]) (rest := []) (lenOf pd_12 rfl) rfl (own_w rfl) (hb hby d25_1) (fun _ _ => ⟨rfl, e0, (by decide : 0 + 0 ≤ _), (by decide : 0 + 0 ≤ _)⟩)
  dsimp only [Pt.U, Pt.locs, Pt.cells, Pt.slots] at X1 lq1 yq1 zq1 st1 hQ1
  subst lq1 yq1 zq1
  obtain ⟨rfl, N1q, e1q⟩ := hQ1
  have N1 := Fr.app N0 N1q
  obtain ⟨T2, h2, kq2, X2, e2, Xe2, A2, st2⟩ := newP X1 hx hZ (gw hw 20 rfl) e1q (g := (mkF m 4 #[vI 2] [(.int 4)])) rfl (hb hby d25_4) rfl (by decide) (cap := 4) (by decide) (by decide) (by decide) (by decide)
  obtain ⟨b2, gq2⟩ : ∃ z, z = h0.size := ⟨_, rfl⟩
  rw [← gq2] at A2 st2
  have sz_b2 : h0.size ≤ b2 := Nat.le_trans K0.1 (Nat.le_of_eq gq2.symm)
  have K2 := K0.ext Xe2
  have V2 : Arv Z h2 b2 kq2 .byte (4 : Int32) [(.int 0), (.int 0), (.int 0), (.int 0)] (.int 0) := (Arv.new A2 (by decide)).pad (pad_rep [] (.int 0) 4)
  refine Go.on (B := T2.setTop (mkF m 6 #[vI 2] [(.ref b2)])) (fun t k => XS.iloadN X0.here hx rfl (hb hby d25_0) rfl (st1 _ (st2 _ k))) ?_
  refine Go.fin X2 (v := some (.ref b2)) (own_nv Bd.returns) Bd.notSynchronized ?_ e2 ⟨⟨_, _, rfl, sz_b2, V2⟩, N1, K2⟩ (by decide) (by decide)
  exact fun _ hr => retOut X2 hx Bd.returns rfl (Or.inr (Or.inr (Or.inr (Or.inr ⟨rfl, rfl, rfl⟩)))) (hb hby d25_6) hr
theorem ef_rtb_2 (m : MethodId) (a1 : Addr) : entryFrame m #[(.ref a1), (.int 0), (.int 2)] 5 = mkF m 0 #[vR a1, vI 0, vI 2, .unset, .unset] [] := rfl
def Q_rtb_2 (Z : State) (a1 : Addr) (kc : ClassId) (c0 c1 : Int32) (h0 : Heap) (n0 : Nat) (v : Option Value) (h : Heap) (L : List Loc) : Prop := (∃ (b : Addr) (kb : ClassId), v = some (.ref b) ∧ h0.size ≤ b ∧ Arv Z h b kb .byte (4 : Int32) [(.int (own_u0 c0)), (.int (own_u1 c0)), (.int (own_u0 c1)), (.int (own_u1 c1))] (.int 0)) ∧ Fr n0 L ∧ Keep h0 h []
theorem rtb_2 (l : Launch) (Z : State) (a0 : Array Value) (hw : ∀ d ∈ tables_1, d.before a0 Z = true) (ws : List Jvm.Cond) (a1 : Addr) (kc : ClassId) (c0 c1 : Int32) (h0 : Heap) (n0 : Nat) (Z0 : n0 ≤ h0.size) (V1 : Arv Z h0 a1 kc .char (2 : Int32) [(.int c0), (.int c1)] (.int 0)) (O0 : Old Z n0 h0) (S_ad : own_S_ad Z) (S_hi : own_S_hi Z) (S_lo : own_S_lo Z) :
    MetFree l MN27 (head1 (Jvm.Cond.code MN27 jdk_52_method_14_code 5 (some (.array .byte)) :: ws) (rK 2 1 4 30)) (fun a U => a = #[(.ref a1), (.int 0), (.int 2)] ∧ Z.Warmed39 U.vm ∧ U.heap = h0) (fun _ _ _ _ _ => True) (fun _ U o U' => ∃ v L, o = .returned v ∧ Q_rtb_2 Z a1 kc c0 c1 h0 n0 v U'.heap L ∧ FrameEnd U o U' L (rK 2 1 4 30).cells (rK 2 1 4 30).slots) := by
  refine MetFree.of_bodySF (plainFor_of_name pn_10) hisR ?_
  intro p e s m args below meth c sB Bd hml0 hP hK
  obtain ⟨rfl, hZ, hh⟩ := hP
  have hx := Bd.exec
  have hby := Bd.bytes
  have hml : c.maxLocals = 5 := hml0
  have hown : s.vm.findClass "java/lang/StringUTF16" = some m.cls := findClass_of_methodNamed Bd.named
  have X0 : Stand p l e (rK 2 1 4 30) s m #[(.ref a1), (.int 0), (.int 2)] below meth c sB [] 0 0 := Stand.of_body Bd
  have e0 : sB.heap = h0 := by rw [← hh, Bd.state]; rfl
  have N0 := Fr.nil n0
  change Go p.tables e below _ _
  have K0 := Keep.refl h0 []
  refine Go.on (B := sB.setTop (mkF m 0 #[vR a1, vI 0, vI 2, .unset, .unset] [])) (fun t k => castTop (ef_rtb_2 m a1) k) ?_
  obtain ⟨_, _, ⟨T1, L1, k1, n1⟩, -, X1, ⟨Lc1, hQ1, lq1, yq1, zq1⟩, st1⟩ := Jvm.LawKit.callS X0 hx (y := MN26) hown (mg hZ hw 118 rfl) (mg hZ hw 119 rfl) (mg hZ hw 83 rfl) (mg hZ hw 120 rfl) (by decide) (backOf (W := 0) (rnf_2 l Z a0 hw []  h0 n0 Z0) hZ (gw hw 120 rfl) (gw hw 83 rfl) (by decide) (by decide)) (g := (mkF m 1 #[vR a1, vI 0, vI 2, .unset, .unset] [(.int 2)])) rfl (by rw [hml]; rfl) (argsL := [(.int 2)]) (rest := []) (lenOf pd_13 rfl) rfl (own_w rfl) (hb hby d24_1) (fun _ _ => ⟨rfl, e0, (by decide : 0 + 1 ≤ _), (by decide : 0 + 4 ≤ _)⟩)
  dsimp only [Pt.U, Pt.locs, Pt.cells, Pt.slots] at X1 lq1 yq1 zq1 st1 hQ1
  subst lq1 yq1 zq1
  obtain ⟨⟨y1, ky1, rfl, sx1, Vy1⟩, N1q, K1q⟩ := hQ1
  have N1 := Fr.app N0 N1q
  have ne_a1_y1 : a1 ≠ y1 := Nat.ne_of_lt (Nat.lt_of_lt_of_le V1.lt sx1)
  have ge_y1 : n0 ≤ y1 := Nat.le_trans Z0 sx1
  have sz_y1 : h0.size ≤ y1 := Nat.le_trans K0.1 sx1
  have f1 := V1.keep K1q nin0
  have O_2 := O0.keep K1q all0
  have Zs3 := Nat.le_trans Z0 K1q.1
  have K4 := K0.trans K1q all0
  refine Go.on (B := T1.setTop (mkF m 10 #[vR a1, vI 0, vI 2, vR y1, vI 0] [(.int 0)])) (fun t k => XS.iloadN X0.here hx rfl (hb hby d24_0) rfl (st1 _ (XS.astoreN X1.here hx rfl (hb hby d24_4) rfl rfl (l' := #[vR a1, vI 0, vI 2, vR y1, .unset]) rfl (XS.iconst X1.here hx rfl (hb hby d24_5) (XS.istore X1.here hx rfl (hb hby d24_6) rfl (l' := #[vR a1, vI 0, vI 2, vR y1, vI 0]) rfl (XS.iload X1.here hx rfl (hb hby d24_8) rfl k)))))) ?_
  have hc11_3 : (0 : Int32) < (2 : Int32) := by decide
  refine Go.on (B := T1.setTop (mkF m 19 #[vR a1, vI 0, vI 2, vR y1, vI 0] [(.int 0), (.ref a1), (.int 0), (.ref y1)])) (fun t k => XS.iloadN X1.here hx rfl (hb hby d24_10) rfl (XS.icmpNo X1.here hx rfl (hb hby d24_11) rfl (tlt hc11_3).2.1 (XS.aloadN X1.here hx rfl (hb hby d24_14) rfl rfl (XS.iload X1.here hx rfl (hb hby d24_15) rfl (XS.aloadN X1.here hx rfl (hb hby d24_17) rfl rfl (XS.iloadN X1.here hx rfl (hb hby d24_18) rfl k)))))) ?_
  obtain ⟨cl4, Ar4, qq4, Sz4, Ng4, Hh4, Gg4⟩ := id f1
  have hin4 : ¬ ((0 : Int32) < 0 ∨ cl4.slots.size ≤ ((0 : Int32)).toNatClampNeg) := inb_of Sz4 ⟨by decide, by decide⟩
  have hat4 : cl4.slots[((0 : Int32)).toNatClampNeg]? = some (.int c0) := Hh4.at hin4 rfl
  obtain ⟨_, _, ⟨T5, L5, k5, n5⟩, -, X5, ⟨Lc5, hQ5, lq5, yq5, zq5⟩, st5⟩ := Jvm.LawKit.callS X1 hx (y := MN24) hown (mg hZ hw 125 rfl) (mg hZ hw 126 rfl) (mg hZ hw 83 rfl) (mg hZ hw 127 rfl) (by decide) (backOf (W := 0) (rpcg l Z a0 hw [] y1 (0 : Int32) c0 ky1 (4 : Int32) [(.int 0), (.int 0), (.int 0), (.int 0)] 0 1 T1.heap n0 Zs3 Vy1 ge_y1 ⟨⟨by decide, by decide⟩, rfl, Nat.le_of_ble_eq_true rfl, ⟨by decide, by decide⟩, rfl, Nat.le_of_ble_eq_true rfl⟩ O_2 S_ad S_hi S_lo) hZ (gw hw 127 rfl) (gw hw 83 rfl) (by decide) (by decide)) (g := (mkF m 20 #[vR a1, vI 0, vI 2, vR y1, vI 0] [(.int c0), (.int 0), (.ref y1)])) rfl (by rw [hml]; rfl) (argsL := [(.ref y1), (.int 0), (.int c0)]) (rest := []) (lenOf pd_14 rfl) rfl (own_w rfl) (hb hby d24_20) (fun _ _ => ⟨rfl, rfl, (by decide : 1 + 0 ≤ _), (by decide : 4 + 0 ≤ _)⟩)
  dsimp only [Pt.U, Pt.locs, Pt.cells, Pt.slots] at X5 lq5 yq5 zq5 st5 hQ5
  subst lq5 yq5 zq5
  obtain ⟨rfl, N5q, K5q, G5_0⟩ := hQ5
  have N5 := Fr.app N1 N5q
  have f5 := f1.keep K5q (ninS ne_a1_y1 nin0)
  have O_6 := O_2.keep K5q (allS ge_y1 all0)
  have Zs7 := Nat.le_trans Zs3 K5q.1
  have K8 := K4.trans K5q (allS (Or.inr sz_y1) all0)
  have Vp5 : Arv Z T5.heap y1 ky1 .byte (4 : Int32) [(.int (own_u0 c0)), (.int (own_u1 c0)), (.int 0), (.int 0)] (.int 0) := G5_0
  refine Go.on (B := T5.setTop (mkF m 26 #[vR a1, vI ((0 : Int32) + (1 : Int32)), vI 2, vR y1, vI 0] [])) (fun t k => X1.caload hx (j := (0 : Int32)) (v := (.int c0)) Ar4.1 (State.isArrayOf_alike hZ.alike Ar4.2.1) Ar4.2.2 hin4 hat4 (g := (mkF m 19 #[vR a1, vI 0, vI 2, vR y1, vI 0] [(.int 0), (.ref a1), (.int 0), (.ref y1)])) rfl rfl (hb hby d24_19) _ (st5 _ (XS.iinc X5.here hx rfl (hb hby d24_23) rfl (l' := #[vR a1, vI ((0 : Int32) + (1 : Int32)), vI 2, vR y1, vI 0]) rfl k))) ?_
  rw [show ((0 : Int32) + (1 : Int32)) = (1 : Int32) from by decide]
  refine Go.on (B := T5.setTop (mkF m 29 #[vR a1, vI 1, vI 2, vR y1, vI ((0 : Int32) + (1 : Int32))] [])) (fun t k => XS.iinc X5.here hx rfl (hb hby d24_26) rfl (l' := #[vR a1, vI 1, vI 2, vR y1, vI ((0 : Int32) + (1 : Int32))]) rfl k) ?_
  rw [show ((0 : Int32) + (1 : Int32)) = (1 : Int32) from by decide]
  have hc11_6 : (1 : Int32) < (2 : Int32) := by decide
  refine Go.on (B := T5.setTop (mkF m 17 #[vR a1, vI 1, vI 2, vR y1, vI 1] [(.int 1), (.ref y1)])) (fun t k => XS.goto X5.here hx rfl (pc0 := 29) (pc' := 8) rfl (hb hby d24_29) (by decide) (by decide) (XS.iload X5.here hx rfl (hb hby d24_8) rfl (XS.iloadN X5.here hx rfl (hb hby d24_10) rfl (XS.icmpNo X5.here hx rfl (hb hby d24_11) rfl (tlt hc11_6).2.1 (XS.aloadN X5.here hx rfl (hb hby d24_14) rfl rfl (XS.iload X5.here hx rfl (hb hby d24_15) rfl k)))))) ?_
  obtain ⟨cl7, Ar7, qq7, Sz7, Ng7, Hh7, Gg7⟩ := id f5
  have hin7 : ¬ ((1 : Int32) < 0 ∨ cl7.slots.size ≤ ((1 : Int32)).toNatClampNeg) := inb_of Sz7 ⟨by decide, by decide⟩
  have hat7 : cl7.slots[((1 : Int32)).toNatClampNeg]? = some (.int c1) := Hh7.at hin7 rfl
  obtain ⟨_, _, ⟨T8, L8, k8, n8⟩, -, X8, ⟨Lc8, hQ8, lq8, yq8, zq8⟩, st8⟩ := Jvm.LawKit.callS X5 hx (y := MN24) hown (mg hZ hw 125 rfl) (mg hZ hw 126 rfl) (mg hZ hw 83 rfl) (mg hZ hw 127 rfl) (by decide) (backOf (W := 0) (rpcg l Z a0 hw [] y1 (1 : Int32) c1 ky1 (4 : Int32) [(.int (own_u0 c0)), (.int (own_u1 c0)), (.int 0), (.int 0)] 2 3 T5.heap n0 Zs7 Vp5 ge_y1 ⟨⟨by decide, by decide⟩, rfl, Nat.le_of_ble_eq_true rfl, ⟨by decide, by decide⟩, rfl, Nat.le_of_ble_eq_true rfl⟩ O_6 S_ad S_hi S_lo) hZ (gw hw 127 rfl) (gw hw 83 rfl) (by decide) (by decide)) (g := (mkF m 20 #[vR a1, vI 1, vI 2, vR y1, vI 1] [(.int c1), (.int 1), (.ref y1)])) rfl (by rw [hml]; rfl) (argsL := [(.ref y1), (.int 1), (.int c1)]) (rest := []) (lenOf pd_14 rfl) rfl (own_w rfl) (hb hby d24_20) (fun _ _ => ⟨rfl, rfl, (by decide : 1 + 0 ≤ _), (by decide : 4 + 0 ≤ _)⟩)
  dsimp only [Pt.U, Pt.locs, Pt.cells, Pt.slots] at X8 lq8 yq8 zq8 st8 hQ8
  subst lq8 yq8 zq8
  obtain ⟨rfl, N8q, K8q, G8_0⟩ := hQ8
  have N8 := Fr.app N5 N8q
  have K12 := K8.trans K8q (allS (Or.inr sz_y1) all0)
  have Vp8 : Arv Z T8.heap y1 ky1 .byte (4 : Int32) [(.int (own_u0 c0)), (.int (own_u1 c0)), (.int (own_u0 c1)), (.int (own_u1 c1))] (.int 0) := G8_0
  refine Go.on (B := T8.setTop (mkF m 26 #[vR a1, vI ((1 : Int32) + (1 : Int32)), vI 2, vR y1, vI 1] [])) (fun t k => XS.aloadN X5.here hx rfl (hb hby d24_17) rfl rfl (XS.iloadN X5.here hx rfl (hb hby d24_18) rfl (X5.caload hx (j := (1 : Int32)) (v := (.int c1)) Ar7.1 (State.isArrayOf_alike hZ.alike Ar7.2.1) Ar7.2.2 hin7 hat7 (g := (mkF m 19 #[vR a1, vI 1, vI 2, vR y1, vI 1] [(.int 1), (.ref a1), (.int 1), (.ref y1)])) rfl rfl (hb hby d24_19) _ (st8 _ (XS.iinc X8.here hx rfl (hb hby d24_23) rfl (l' := #[vR a1, vI ((1 : Int32) + (1 : Int32)), vI 2, vR y1, vI 1]) rfl k))))) ?_
  rw [show ((1 : Int32) + (1 : Int32)) = (2 : Int32) from by decide]
  refine Go.on (B := T8.setTop (mkF m 29 #[vR a1, vI 2, vI 2, vR y1, vI ((1 : Int32) + (1 : Int32))] [])) (fun t k => XS.iinc X8.here hx rfl (hb hby d24_26) rfl (l' := #[vR a1, vI 2, vI 2, vR y1, vI ((1 : Int32) + (1 : Int32))]) rfl k) ?_
  rw [show ((1 : Int32) + (1 : Int32)) = (2 : Int32) from by decide]
  have hc11_9 : ¬ ((2 : Int32) < (2 : Int32)) := by decide
  refine Go.on (B := T8.setTop (mkF m 33 #[vR a1, vI 2, vI 2, vR y1, vI 2] [(.ref y1)])) (fun t k => XS.goto X8.here hx rfl (pc0 := 29) (pc' := 8) rfl (hb hby d24_29) (by decide) (by decide) (XS.iload X8.here hx rfl (hb hby d24_8) rfl (XS.iloadN X8.here hx rfl (hb hby d24_10) rfl (XS.icmpYes X8.here hx rfl (pc0 := 11) (pc' := 32) rfl (hb hby d24_11) rfl (flt hc11_9).2.1 (by decide) (by decide) (XS.aloadN X8.here hx rfl (hb hby d24_32) rfl rfl k))))) ?_
  refine Go.fin X8 (v := some (.ref y1)) (own_nv Bd.returns) Bd.notSynchronized ?_ rfl ⟨⟨_, _, rfl, sz_y1, Vp8⟩, N8, K12⟩ (by decide) (by decide)
  exact fun _ hr => retOut X8 hx Bd.returns rfl (Or.inr (Or.inr (Or.inr (Or.inr ⟨rfl, rfl, rfl⟩)))) (hb hby d24_33) hr
theorem ef_rc5_2 (m : MethodId) (a1 : Addr) (a3 : Addr) : entryFrame m #[(.ref a1), (.int 0), (.ref a3), (.int 0), (.int 2)] 7 = mkF m 0 #[vR a1, vI 0, vR a3, vI 0, vI 2, .unset, .unset] [] := rfl
def Q_rc5_2 (Z : State) (a1 : Addr) (a3 : Addr) (kc k3 : ClassId) (c0 c1 : Int32) (h0 : Heap) (n0 : Nat) (v : Option Value) (h : Heap) (L : List Loc) : Prop := ((v = some (.int 2) ∧ Arv Z h a3 k3 .byte (2 : Int32) [(.int (own_l c0)), (.int (own_l c1))] (.int 0) ∧ ¬ ((255 : Int32) < c0) ∧ ¬ ((255 : Int32) < c1)) ∨ (v = some (.int 0) ∧ (255 : Int32) < c0) ∨ (v = some (.int 1) ∧ (255 : Int32) < c1)) ∧ Fr n0 L ∧ Keep h0 h [a3]
theorem rc5_2 (l : Launch) (Z : State) (a0 : Array Value) (hw : ∀ d ∈ tables_1, d.before a0 Z = true) (ws : List Jvm.Cond) (a1 : Addr) (a3 : Addr) (kc k3 : ClassId) (c0 c1 : Int32) (h0 : Heap) (n0 : Nat) (Z0 : n0 ≤ h0.size) (V1 : Arv Z h0 a1 kc .char (2 : Int32) [(.int c0), (.int c1)] (.int 0)) (V3 : Arv Z h0 a3 k3 .byte (2 : Int32) [(.int 0), (.int 0)] (.int 0)) (hne : a1 ≠ a3) (g3 : n0 ≤ a3) :
    MetFree l MN28 (head1 (Jvm.Cond.code MN28 jdk_52_method_21_code 7 (some .int) :: ws) (rK 0 0 0 0)) (fun a U => a = #[(.ref a1), (.int 0), (.ref a3), (.int 0), (.int 2)] ∧ Z.Warmed39 U.vm ∧ U.heap = h0) (fun _ _ _ _ _ => True) (fun _ U o U' => ∃ v L, o = .returned v ∧ Q_rc5_2 Z a1 a3 kc k3 c0 c1 h0 n0 v U'.heap L ∧ FrameEnd U o U' L (rK 0 0 0 0).cells (rK 0 0 0 0).slots) := by
  refine MetFree.of_bodySF (plainFor_of_name pn_10) hisR ?_
  intro p e s m args below meth c sB Bd hml0 hP hK
  obtain ⟨rfl, hZ, hh⟩ := hP
  have hx := Bd.exec
  have hby := Bd.bytes
  have X0 : Stand p l e (rK 0 0 0 0) s m #[(.ref a1), (.int 0), (.ref a3), (.int 0), (.int 2)] below meth c sB [] 0 0 := Stand.of_body Bd
  have e0 : sB.heap = h0 := by rw [← hh, Bd.state]; rfl
  have N0 := Fr.nil n0
  change Go p.tables e below _ _
  have K0 := Keep.refl h0 [a3]
  refine Go.on (B := sB.setTop (mkF m 0 #[vR a1, vI 0, vR a3, vI 0, vI 2, .unset, .unset] [])) (fun t k => castTop (ef_rc5_2 m a1 a3) k) ?_
  have hc7_2 : (0 : Int32) < (2 : Int32) := by decide
  refine Go.on (B := sB.setTop (mkF m 11 #[vR a1, vI 0, vR a3, vI 0, vI 2, vI 0, .unset] [(.ref a1)])) (fun t k => XS.iconst X0.here hx rfl (hb hby d16_0) (XS.istore X0.here hx rfl (hb hby d16_1) rfl (l' := #[vR a1, vI 0, vR a3, vI 0, vI 2, vI 0, .unset]) rfl (XS.iload X0.here hx rfl (hb hby d16_3) rfl (XS.iload X0.here hx rfl (hb hby d16_5) rfl (XS.icmpNo X0.here hx rfl (hb hby d16_7) rfl (tlt hc7_2).2.1 (XS.aloadN X0.here hx rfl (hb hby d16_10) rfl rfl k)))))) ?_
  obtain ⟨cl3, Ar3, qq3, Sz3, Ng3, Hh3, Gg3⟩ := id V1
  have hin3 : ¬ ((0 : Int32) < 0 ∨ cl3.slots.size ≤ ((0 : Int32)).toNatClampNeg) := inb_of Sz3 ⟨by decide, by decide⟩
  have hat3 : cl3.slots[((0 : Int32)).toNatClampNeg]? = some (.int c0) := Hh3.at hin3 rfl
  refine Go.on (B := sB.setTop (mkF m 20 #[vR a1, vI 0, vR a3, vI 0, vI 2, vI 0, vI c0] [(.int 255), (.int c0)])) (fun t k => XS.iloadN X0.here hx rfl (hb hby d16_11) rfl (X0.caload hx (j := (0 : Int32)) (v := (.int c0)) (by rw [e0]; exact Ar3.1) (State.isArrayOf_alike hZ.alike Ar3.2.1) Ar3.2.2 hin3 hat3 (g := (mkF m 12 #[vR a1, vI 0, vR a3, vI 0, vI 2, vI 0, .unset] [(.int 0), (.ref a1)])) rfl rfl (hb hby d16_12) _ (XS.istore X0.here hx rfl (hb hby d16_13) rfl (l' := #[vR a1, vI 0, vR a3, vI 0, vI 2, vI 0, vI c0]) rfl (XS.iload X0.here hx rfl (hb hby d16_15) rfl (XS.sipush X0.here hx rfl (hb hby d16_17) k))))) ?_
  by_cases hc20_5 : (255 : Int32) < c0
  · refine Go.on (B := sB.setTop (mkF m 25 #[vR a1, vI 0, vR a3, vI 0, vI 2, vI 0, vI c0] [(.int 0)])) (fun t k => XS.icmpNo X0.here hx rfl (hb hby d16_20) rfl (tlt hc20_5).2.2.2 (XS.iload X0.here hx rfl (hb hby d16_23) rfl k)) ?_
    refine Go.fin X0 (v := some (.int 0)) (own_nv Bd.returns) Bd.notSynchronized ?_ e0 ⟨(Or.inr (Or.inl ⟨rfl, hc20_5⟩)), N0, K0⟩ (by decide) (by decide)
    exact fun _ hr => retI X0 hx Bd.returns (hb hby d16_25) hr
  · obtain ⟨cl6, Ar6, qq6, Sz6, Ng6, Hh6, Gg6⟩ := id V3
    have hin6 : ¬ ((0 : Int32) < 0 ∨ cl6.slots.size ≤ ((0 : Int32)).toNatClampNeg) := inb_of Sz6 ⟨by decide, by decide⟩
    obtain ⟨T6, h6, X6, e6, W6, st6⟩ := stB X0 hx hZ e0 Ar6 (j := (0 : Int32)) hin6 (g := (mkF m 31 #[vR a1, vI 0, vR a3, vI 0, vI 2, vI 0, vI c0] [(.int (c0.toInt8.toInt32)), (.int 0), (.ref a3)])) rfl rfl (hb hby d16_31)
    have V6 : Arv Z h6 a3 k3 .byte (2 : Int32) [(.int ((c0.toInt8.toInt32).toInt8.toInt32)), (.int 0)] (.int 0) := Arv.set Ar6 qq6 Sz6 Ng6 Hh6 Gg6 (fits_nar_byte _) W6 0 rfl (Nat.le_of_ble_eq_true rfl)
    have N6 := Fr.snoc X6 N0 g3
    have f1 := V1.other W6 hne
    have K3 := K0.wr W6 (Or.inl (List.mem_of_getElem? (i := 0) rfl))
    refine Go.on (B := T6.setTop (mkF m 32 #[vR a1, vI 0, vR a3, vI 0, vI 2, vI 0, vI c0] [])) (fun t k => XS.icmpYes X0.here hx rfl (pc0 := 20) (pc' := 26) rfl (hb hby d16_20) rfl (flt hc20_5).2.2.2 (by decide) (by decide) (XS.aloadN X0.here hx rfl (hb hby d16_26) rfl rfl (XS.iloadN X0.here hx rfl (hb hby d16_27) rfl (XS.iload X0.here hx rfl (hb hby d16_28) rfl (XS.i2b X0.here hx rfl (hb hby d16_30) rfl (st6 _ k)))))) ?_
    refine Go.on (B := T6.setTop (mkF m 35 #[vR a1, vI ((0 : Int32) + (1 : Int32)), vR a3, vI 0, vI 2, vI 0, vI c0] [])) (fun t k => XS.iinc X6.here hx rfl (hb hby d16_32) rfl (l' := #[vR a1, vI ((0 : Int32) + (1 : Int32)), vR a3, vI 0, vI 2, vI 0, vI c0]) rfl k) ?_
    rw [show ((0 : Int32) + (1 : Int32)) = (1 : Int32) from by decide]
    refine Go.on (B := T6.setTop (mkF m 38 #[vR a1, vI 1, vR a3, vI ((0 : Int32) + (1 : Int32)), vI 2, vI 0, vI c0] [])) (fun t k => XS.iinc X6.here hx rfl (hb hby d16_35) rfl (l' := #[vR a1, vI 1, vR a3, vI ((0 : Int32) + (1 : Int32)), vI 2, vI 0, vI c0]) rfl k) ?_
    rw [show ((0 : Int32) + (1 : Int32)) = (1 : Int32) from by decide]
    refine Go.on (B := T6.setTop (mkF m 41 #[vR a1, vI 1, vR a3, vI 1, vI 2, vI ((0 : Int32) + (1 : Int32)), vI c0] [])) (fun t k => XS.iinc X6.here hx rfl (hb hby d16_38) rfl (l' := #[vR a1, vI 1, vR a3, vI 1, vI 2, vI ((0 : Int32) + (1 : Int32)), vI c0]) rfl k) ?_
    rw [show ((0 : Int32) + (1 : Int32)) = (1 : Int32) from by decide]
    have hc7_7 : (1 : Int32) < (2 : Int32) := by decide
    refine Go.on (B := T6.setTop (mkF m 12 #[vR a1, vI 1, vR a3, vI 1, vI 2, vI 1, vI c0] [(.int 1), (.ref a1)])) (fun t k => XS.goto X6.here hx rfl (pc0 := 41) (pc' := 3) rfl (hb hby d16_41) (by decide) (by decide) (XS.iload X6.here hx rfl (hb hby d16_3) rfl (XS.iload X6.here hx rfl (hb hby d16_5) rfl (XS.icmpNo X6.here hx rfl (hb hby d16_7) rfl (tlt hc7_7).2.1 (XS.aloadN X6.here hx rfl (hb hby d16_10) rfl rfl (XS.iloadN X6.here hx rfl (hb hby d16_11) rfl k)))))) ?_
    obtain ⟨cl8, Ar8, qq8, Sz8, Ng8, Hh8, Gg8⟩ := id f1
    have hin8 : ¬ ((1 : Int32) < 0 ∨ cl8.slots.size ≤ ((1 : Int32)).toNatClampNeg) := inb_of Sz8 ⟨by decide, by decide⟩
    have hat8 : cl8.slots[((1 : Int32)).toNatClampNeg]? = some (.int c1) := Hh8.at hin8 rfl
    refine Go.on (B := T6.setTop (mkF m 20 #[vR a1, vI 1, vR a3, vI 1, vI 2, vI 1, vI c1] [(.int 255), (.int c1)])) (fun t k => X6.caload hx (j := (1 : Int32)) (v := (.int c1)) (by rw [e6]; exact Ar8.1) (State.isArrayOf_alike hZ.alike Ar8.2.1) Ar8.2.2 hin8 hat8 (g := (mkF m 12 #[vR a1, vI 1, vR a3, vI 1, vI 2, vI 1, vI c0] [(.int 1), (.ref a1)])) rfl rfl (hb hby d16_12) _ (XS.istore X6.here hx rfl (hb hby d16_13) rfl (l' := #[vR a1, vI 1, vR a3, vI 1, vI 2, vI 1, vI c1]) rfl (XS.iload X6.here hx rfl (hb hby d16_15) rfl (XS.sipush X6.here hx rfl (hb hby d16_17) k)))) ?_
    by_cases hc20_10 : (255 : Int32) < c1
    · refine Go.on (B := T6.setTop (mkF m 25 #[vR a1, vI 1, vR a3, vI 1, vI 2, vI 1, vI c1] [(.int 1)])) (fun t k => XS.icmpNo X6.here hx rfl (hb hby d16_20) rfl (tlt hc20_10).2.2.2 (XS.iload X6.here hx rfl (hb hby d16_23) rfl k)) ?_
      refine Go.fin X6 (v := some (.int 1)) (own_nv Bd.returns) Bd.notSynchronized ?_ e6 ⟨(Or.inr (Or.inr ⟨rfl, hc20_10⟩)), N6, K3⟩ (by decide) (by decide)
      exact fun _ hr => retI X6 hx Bd.returns (hb hby d16_25) hr
    · obtain ⟨cl11, Ar11, qq11, Sz11, Ng11, Hh11, Gg11⟩ := id V6
      have hin11 : ¬ ((1 : Int32) < 0 ∨ cl11.slots.size ≤ ((1 : Int32)).toNatClampNeg) := inb_of Sz11 ⟨by decide, by decide⟩
      obtain ⟨T11, h11, X11, e11, W11, st11⟩ := stB X6 hx hZ e6 Ar11 (j := (1 : Int32)) hin11 (g := (mkF m 31 #[vR a1, vI 1, vR a3, vI 1, vI 2, vI 1, vI c1] [(.int (c1.toInt8.toInt32)), (.int 1), (.ref a3)])) rfl rfl (hb hby d16_31)
      have V11 : Arv Z h11 a3 k3 .byte (2 : Int32) [(.int ((c0.toInt8.toInt32).toInt8.toInt32)), (.int ((c1.toInt8.toInt32).toInt8.toInt32))] (.int 0) := Arv.set Ar11 qq11 Sz11 Ng11 Hh11 Gg11 (fits_nar_byte _) W11 1 rfl (Nat.le_of_ble_eq_true rfl)
      have N11 := Fr.snoc X11 N6 g3
      have K6 := K3.wr W11 (Or.inl (List.mem_of_getElem? (i := 0) rfl))
      refine Go.on (B := T11.setTop (mkF m 32 #[vR a1, vI 1, vR a3, vI 1, vI 2, vI 1, vI c1] [])) (fun t k => XS.icmpYes X6.here hx rfl (pc0 := 20) (pc' := 26) rfl (hb hby d16_20) rfl (flt hc20_10).2.2.2 (by decide) (by decide) (XS.aloadN X6.here hx rfl (hb hby d16_26) rfl rfl (XS.iloadN X6.here hx rfl (hb hby d16_27) rfl (XS.iload X6.here hx rfl (hb hby d16_28) rfl (XS.i2b X6.here hx rfl (hb hby d16_30) rfl (st11 _ k)))))) ?_
      refine Go.on (B := T11.setTop (mkF m 35 #[vR a1, vI ((1 : Int32) + (1 : Int32)), vR a3, vI 1, vI 2, vI 1, vI c1] [])) (fun t k => XS.iinc X11.here hx rfl (hb hby d16_32) rfl (l' := #[vR a1, vI ((1 : Int32) + (1 : Int32)), vR a3, vI 1, vI 2, vI 1, vI c1]) rfl k) ?_
      rw [show ((1 : Int32) + (1 : Int32)) = (2 : Int32) from by decide]
      refine Go.on (B := T11.setTop (mkF m 38 #[vR a1, vI 2, vR a3, vI ((1 : Int32) + (1 : Int32)), vI 2, vI 1, vI c1] [])) (fun t k => XS.iinc X11.here hx rfl (hb hby d16_35) rfl (l' := #[vR a1, vI 2, vR a3, vI ((1 : Int32) + (1 : Int32)), vI 2, vI 1, vI c1]) rfl k) ?_
      rw [show ((1 : Int32) + (1 : Int32)) = (2 : Int32) from by decide]
      refine Go.on (B := T11.setTop (mkF m 41 #[vR a1, vI 2, vR a3, vI 2, vI 2, vI ((1 : Int32) + (1 : Int32)), vI c1] [])) (fun t k => XS.iinc X11.here hx rfl (hb hby d16_38) rfl (l' := #[vR a1, vI 2, vR a3, vI 2, vI 2, vI ((1 : Int32) + (1 : Int32)), vI c1]) rfl k) ?_
      rw [show ((1 : Int32) + (1 : Int32)) = (2 : Int32) from by decide]
      have hc7_12 : ¬ ((2 : Int32) < (2 : Int32)) := by decide
      refine Go.on (B := T11.setTop (mkF m 46 #[vR a1, vI 2, vR a3, vI 2, vI 2, vI 2, vI c1] [(.int 2)])) (fun t k => XS.goto X11.here hx rfl (pc0 := 41) (pc' := 3) rfl (hb hby d16_41) (by decide) (by decide) (XS.iload X11.here hx rfl (hb hby d16_3) rfl (XS.iload X11.here hx rfl (hb hby d16_5) rfl (XS.icmpYes X11.here hx rfl (pc0 := 7) (pc' := 44) rfl (hb hby d16_7) rfl (flt hc7_12).2.1 (by decide) (by decide) (XS.iload X11.here hx rfl (hb hby d16_44) rfl k))))) ?_
      refine Go.fin X11 (v := some (.int 2)) (own_nv Bd.returns) Bd.notSynchronized ?_ e11 ⟨Or.inl ⟨rfl, V11, hc20_5, hc20_10⟩, N11, K6⟩ (by decide) (by decide)
      exact fun _ hr => retI X11 hx Bd.returns (hb hby d16_46) hr
theorem ef_rc3_2 (m : MethodId) (a1 : Addr) : entryFrame m #[(.ref a1), (.int 0), (.int 2)] 6 = mkF m 0 #[vR a1, vI 0, vI 2, .unset, .unset, .unset] [] := rfl
def Q_rc3_2 (Z : State) (a1 : Addr) (kc : ClassId) (c0 c1 : Int32) (h0 : Heap) (n0 : Nat) (v : Option Value) (h : Heap) (L : List Loc) : Prop := (∃ (b : Addr) (kb : ClassId), v = some (.ref b) ∧ h0.size ≤ b ∧ ((Arv Z h b kb .byte (2 : Int32) [(.int (own_l c0)), (.int (own_l c1))] (.int 0) ∧ ¬ ((255 : Int32) < c0) ∧ ¬ ((255 : Int32) < c1)) ∨ (Arv Z h b kb .byte (4 : Int32) [(.int (own_u0 c0)), (.int (own_u1 c0)), (.int (own_u0 c1)), (.int (own_u1 c1))] (.int 0)))) ∧ Fr n0 L ∧ Keep h0 h []
theorem rc3_2 (l : Launch) (Z : State) (a0 : Array Value) (hw : ∀ d ∈ tables_1, d.before a0 Z = true) (ws : List Jvm.Cond) (a1 : Addr) (kc : ClassId) (c0 c1 : Int32) (h0 : Heap) (n0 : Nat) (Z0 : n0 ≤ h0.size) (V1 : Arv Z h0 a1 kc .char (2 : Int32) [(.int c0), (.int c1)] (.int 0)) (hc0 : 0 ≤ c0.toInt ∧ c0.toInt ≤ 65535) (hc1 : 0 ≤ c1.toInt ∧ c1.toInt ≤ 65535) (O0 : Old Z n0 h0) (S_ad : own_S_ad Z) (S_hi : own_S_hi Z) (S_lo : own_S_lo Z) :
    MetFree l MN29 (head1 (Jvm.Cond.code MN29 jdk_52_method_16_code 6 (some (.array .byte)) :: ws) (rK 3 2 6 60)) (fun a U => a = #[(.ref a1), (.int 0), (.int 2)] ∧ Z.Warmed39 U.vm ∧ U.heap = h0) (fun _ _ _ _ _ => True) (fun _ U o U' => ∃ v L, o = .returned v ∧ Q_rc3_2 Z a1 kc c0 c1 h0 n0 v U'.heap L ∧ FrameEnd U o U' L (rK 3 2 6 60).cells (rK 3 2 6 60).slots) := by
  refine MetFree.of_bodySF (plainFor_of_name pn_10) hisR ?_
  intro p e s m args below meth c sB Bd hml0 hP hK
  obtain ⟨rfl, hZ, hh⟩ := hP
  have hx := Bd.exec
  have hby := Bd.bytes
  have hml : c.maxLocals = 6 := hml0
  have hown : s.vm.findClass "java/lang/StringUTF16" = some m.cls := findClass_of_methodNamed Bd.named
  have X0 : Stand p l e (rK 3 2 6 60) s m #[(.ref a1), (.int 0), (.int 2)] below meth c sB [] 0 0 := Stand.of_body Bd
  have e0 : sB.heap = h0 := by rw [← hh, Bd.state]; rfl
  have N0 := Fr.nil n0
  change Go p.tables e below _ _
  have K0 := Keep.refl h0 []
  refine Go.on (B := sB.setTop (mkF m 0 #[vR a1, vI 0, vI 2, .unset, .unset, .unset] [])) (fun t k => castTop (ef_rc3_2 m a1) k) ?_
  obtain ⟨T1, h1, kq1, X1, e1, Xe1, A1, st1⟩ := newP X0 hx hZ (gw hw 20 rfl) e0 (g := (mkF m 1 #[vR a1, vI 0, vI 2, .unset, .unset, .unset] [(.int 2)])) rfl (hb hby d15_1) rfl (by decide) (cap := 2) (by decide) (by decide) (by decide) (by decide)
  obtain ⟨b1, gq1⟩ : ∃ z, z = h0.size := ⟨_, rfl⟩
  rw [← gq1] at A1 st1
  have ge_b1 : n0 ≤ b1 := Nat.le_trans Z0 (Nat.le_of_eq gq1.symm)
  have sz_b1 : h0.size ≤ b1 := Nat.le_trans K0.1 (Nat.le_of_eq gq1.symm)
  have ne_a1_b1 : a1 ≠ b1 := Nat.ne_of_lt (Nat.lt_of_lt_of_le V1.lt (Nat.le_of_eq gq1.symm))
  have f1 := V1.ext Xe1
  have O_2 := O0.ext Xe1
  have Zs3 := Nat.le_trans Z0 Xe1.1
  have K4 := K0.ext Xe1
  have V1 : Arv Z h1 b1 kq1 .byte (2 : Int32) [(.int 0), (.int 0)] (.int 0) := (Arv.new A1 (by decide)).pad (pad_rep [] (.int 0) 2)
  refine Go.on (B := T1.setTop (mkF m 7 #[vR a1, vI 0, vI 2, vR b1, .unset, .unset] [(.ref b1), (.int 0), (.ref a1)])) (fun t k => XS.iloadN X0.here hx rfl (hb hby d15_0) rfl (st1 _ (XS.astoreN X1.here hx rfl (hb hby d15_3) rfl rfl (l' := #[vR a1, vI 0, vI 2, vR b1, .unset, .unset]) rfl (XS.aloadN X1.here hx rfl (hb hby d15_4) rfl rfl (XS.iloadN X1.here hx rfl (hb hby d15_5) rfl (XS.aloadN X1.here hx rfl (hb hby d15_6) rfl rfl k)))))) ?_
  obtain ⟨_, _, ⟨T2, L2, k2, n2⟩, -, X2, ⟨Lc2, hQ2, lq2, yq2, zq2⟩, st2⟩ := Jvm.LawKit.callS X1 hx (y := MN28) hown (mg hZ hw 85 rfl) (mg hZ hw 86 rfl) (mg hZ hw 83 rfl) (mg hZ hw 87 rfl) (by decide) (backOf (W := 0) (rc5_2 l Z a0 hw [] a1 b1 kc kq1 c0 c1 h1 n0 Zs3 f1 V1 ne_a1_b1 ge_b1) hZ (gw hw 87 rfl) (gw hw 83 rfl) (by decide) (by decide)) (g := (mkF m 9 #[vR a1, vI 0, vI 2, vR b1, .unset, .unset] [(.int 2), (.int 0), (.ref b1), (.int 0), (.ref a1)])) rfl (by rw [hml]; rfl) (argsL := [(.ref a1), (.int 0), (.ref b1), (.int 0), (.int 2)]) (rest := []) (lenOf pd_15 rfl) rfl (own_w rfl) (hb hby d15_9) (fun _ _ => ⟨rfl, e1, (by decide : 1 + 0 ≤ _), (by decide : 2 + 0 ≤ _)⟩)
  dsimp only [Pt.U, Pt.locs, Pt.cells, Pt.slots] at X2 lq2 yq2 zq2 st2 hQ2
  subst lq2 yq2 zq2
  refine Go.on (B := T1.setTop (mkF m 9 #[vR a1, vI 0, vI 2, vR b1, .unset, .unset] [(.int 2), (.int 0), (.ref b1), (.int 0), (.ref a1)])) (fun t k => XS.iconst X1.here hx rfl (hb hby d15_7) (XS.iloadN X1.here hx rfl (hb hby d15_8) rfl k)) ?_
  rcases hQ2 with ⟨⟨rfl, V52, hx2_c0, hx2_c1⟩ | ⟨rfl, hx2_c0⟩ | ⟨rfl, hx2_c1⟩, N2q, K2q⟩
  · have N2 := Fr.app N0 N2q
    have K8 := K4.trans K2q (allS (Or.inr sz_b1) all0)
    have hc17_4 : (2 : Int32) = (2 : Int32) := by decide
    refine Go.on (B := T2.setTop (mkF m 58 #[vR a1, vI 0, vI 2, vR b1, vI 2, .unset] [(.ref b1)])) (fun t k => st2 _ (XS.istore X2.here hx rfl (hb hby d15_12) rfl (l' := #[vR a1, vI 0, vI 2, vR b1, vI 2, .unset]) rfl (XS.iload X2.here hx rfl (hb hby d15_14) rfl (XS.iloadN X2.here hx rfl (hb hby d15_16) rfl (XS.icmpYes X2.here hx rfl (pc0 := 17) (pc' := 57) rfl (hb hby d15_17) rfl (teq hc17_4).1 (by decide) (by decide) (XS.aloadN X2.here hx rfl (hb hby d15_57) rfl rfl k)))))) ?_
    refine Go.fin X2 (v := some (.ref b1)) (own_nv Bd.returns) Bd.notSynchronized ?_ rfl ⟨⟨_, _, rfl, sz_b1, Or.inl ⟨V52, hx2_c0, hx2_c1⟩⟩, N2, K8⟩ (by decide) (by decide)
    exact fun _ hr => retOut X2 hx Bd.returns rfl (Or.inr (Or.inr (Or.inr (Or.inr ⟨rfl, rfl, rfl⟩)))) (hb hby d15_58) hr
  · have N2 := Fr.app N0 N2q
    have f9 := f1.keep K2q (ninS ne_a1_b1 nin0)
    have O_10 := O_2.keep K2q (allS ge_b1 all0)
    have Zs11 := Nat.le_trans Zs3 K2q.1
    have K12 := K4.trans K2q (allS (Or.inr sz_b1) all0)
    have hc17_6 : ¬ ((0 : Int32) = (2 : Int32)) := by decide
    refine Go.on (B := T2.setTop (mkF m 21 #[vR a1, vI 0, vI 2, vR b1, vI 0, .unset] [(.ref a1)])) (fun t k => st2 _ (XS.istore X2.here hx rfl (hb hby d15_12) rfl (l' := #[vR a1, vI 0, vI 2, vR b1, vI 0, .unset]) rfl (XS.iload X2.here hx rfl (hb hby d15_14) rfl (XS.iloadN X2.here hx rfl (hb hby d15_16) rfl (XS.icmpNo X2.here hx rfl (hb hby d15_17) rfl (feq hc17_6).1 (XS.aloadN X2.here hx rfl (hb hby d15_20) rfl rfl k)))))) ?_
    obtain ⟨_, _, ⟨T7, L7, k7, n7⟩, -, X7, ⟨Lc7, hQ7, lq7, yq7, zq7⟩, st7⟩ := Jvm.LawKit.callS X2 hx (y := MN27) hown (mg hZ hw 115 rfl) (mg hZ hw 116 rfl) (mg hZ hw 83 rfl) (mg hZ hw 117 rfl) (by decide) (backOf (W := 0) (rtb_2 l Z a0 hw [] a1 kc c0 c1 T2.heap n0 Zs11 f9 O_10 S_ad S_hi S_lo) hZ (gw hw 117 rfl) (gw hw 83 rfl) (by decide) (by decide)) (g := (mkF m 23 #[vR a1, vI 0, vI 2, vR b1, vI 0, .unset] [(.int 2), (.int 0), (.ref a1)])) rfl (by rw [hml]; rfl) (argsL := [(.ref a1), (.int 0), (.int 2)]) (rest := []) (lenOf pd_16 rfl) rfl (own_w rfl) (hb hby d15_23) (fun _ _ => ⟨rfl, rfl, (by decide : 1 + 1 ≤ _), (by decide : 2 + 4 ≤ _)⟩)
    dsimp only [Pt.U, Pt.locs, Pt.cells, Pt.slots] at X7 lq7 yq7 zq7 st7 hQ7
    subst lq7 yq7 zq7
    obtain ⟨⟨y7, ky7, rfl, sx7, Vy7⟩, N7q, K7q⟩ := hQ7
    have N7 := Fr.app N2 N7q
    have sz_y7 : h0.size ≤ y7 := Nat.le_trans K12.1 sx7
    have O_14 := O_10.keep K7q all0
    have Zs15 := Nat.le_trans Zs11 K7q.1
    have K16 := K12.trans K7q all0
    refine Go.on (B := T7.setTop (mkF m 32 #[vR a1, vI 0, vI 2, vR b1, vI 0, vR y7] [(.int 0), (.ref y7)])) (fun t k => XS.iloadN X2.here hx rfl (hb hby d15_21) rfl (XS.iloadN X2.here hx rfl (hb hby d15_22) rfl (st7 _ (XS.astore X7.here hx rfl (hb hby d15_26) rfl rfl (l' := #[vR a1, vI 0, vI 2, vR b1, vI 0, vR y7]) rfl (XS.aload X7.here hx rfl (hb hby d15_28) rfl rfl (XS.iload X7.here hx rfl (hb hby d15_30) rfl k)))))) ?_
    obtain ⟨_, _, ⟨T8, L8, k8, n8⟩, -, X8, ⟨Lc8, hQ8, lq8, yq8, zq8⟩, st8⟩ := Jvm.LawKit.callS X7 hx (y := MN5) hown (mg hZ hw 131 rfl) (mg hZ hw 132 rfl) (mg hZ hw 83 rfl) (mg hZ hw 133 rfl) (by decide) (backOf (W := 0) (rgc l Z a0 hw [] y7 (0 : Int32) ky7 (4 : Int32) [(.int (own_u0 c0)), (.int (own_u1 c0)), (.int (own_u0 c1)), (.int (own_u1 c1))] (own_u0 c0) (own_u1 c0) c0 T7.heap n0 Zs15 Vy7 ⟨by decide, by decide⟩ rfl ⟨by decide, by decide⟩ rfl (own_utf c0 hc0) O_14 S_ad S_hi S_lo) hZ (gw hw 133 rfl) (gw hw 83 rfl) (by decide) (by decide)) (g := (mkF m 32 #[vR a1, vI 0, vI 2, vR b1, vI 0, vR y7] [(.int 0), (.ref y7)])) rfl (by rw [hml]; rfl) (argsL := [(.ref y7), (.int 0)]) (rest := []) (lenOf pd_4 rfl) rfl (own_w rfl) (hb hby d15_32) (fun _ _ => ⟨rfl, rfl, (by decide : 2 + 0 ≤ _), (by decide : 6 + 0 ≤ _)⟩)
    dsimp only [Pt.U, Pt.locs, Pt.cells, Pt.slots] at X8 lq8 yq8 zq8 st8 hQ8
    subst lq8 yq8 zq8
    obtain ⟨rfl, N8q, e8q⟩ := hQ8
    have N8 := Fr.app N7 N8q
    have hc38_9 : (255 : Int32) < c0 := hx2_c0
    refine Go.on (B := T8.setTop (mkF m 56 #[vR a1, vI 0, vI 2, vR b1, vI 0, vR y7] [(.ref y7)])) (fun t k => st8 _ (XS.sipush X8.here hx rfl (hb hby d15_35) (XS.icmpYes X8.here hx rfl (pc0 := 38) (pc' := 54) rfl (hb hby d15_38) rfl (tlt hc38_9).2.2.1 (by decide) (by decide) (XS.aload X8.here hx rfl (hb hby d15_54) rfl rfl k)))) ?_
    refine Go.fin X8 (v := some (.ref y7)) (own_nv Bd.returns) Bd.notSynchronized ?_ e8q ⟨⟨_, _, rfl, sz_y7, Or.inr Vy7⟩, N8, K16⟩ (by decide) (by decide)
    exact fun _ hr => retOut X8 hx Bd.returns rfl (Or.inr (Or.inr (Or.inr (Or.inr ⟨rfl, rfl, rfl⟩)))) (hb hby d15_56) hr
  · have N2 := Fr.app N0 N2q
    have f17 := f1.keep K2q (ninS ne_a1_b1 nin0)
    have O_18 := O_2.keep K2q (allS ge_b1 all0)
    have Zs19 := Nat.le_trans Zs3 K2q.1
    have K20 := K4.trans K2q (allS (Or.inr sz_b1) all0)
    have hc17_11 : ¬ ((1 : Int32) = (2 : Int32)) := by decide
    refine Go.on (B := T2.setTop (mkF m 21 #[vR a1, vI 0, vI 2, vR b1, vI 1, .unset] [(.ref a1)])) (fun t k => st2 _ (XS.istore X2.here hx rfl (hb hby d15_12) rfl (l' := #[vR a1, vI 0, vI 2, vR b1, vI 1, .unset]) rfl (XS.iload X2.here hx rfl (hb hby d15_14) rfl (XS.iloadN X2.here hx rfl (hb hby d15_16) rfl (XS.icmpNo X2.here hx rfl (hb hby d15_17) rfl (feq hc17_11).1 (XS.aloadN X2.here hx rfl (hb hby d15_20) rfl rfl k)))))) ?_
    obtain ⟨_, _, ⟨T12, L12, k12, n12⟩, -, X12, ⟨Lc12, hQ12, lq12, yq12, zq12⟩, st12⟩ := Jvm.LawKit.callS X2 hx (y := MN27) hown (mg hZ hw 115 rfl) (mg hZ hw 116 rfl) (mg hZ hw 83 rfl) (mg hZ hw 117 rfl) (by decide) (backOf (W := 0) (rtb_2 l Z a0 hw [] a1 kc c0 c1 T2.heap n0 Zs19 f17 O_18 S_ad S_hi S_lo) hZ (gw hw 117 rfl) (gw hw 83 rfl) (by decide) (by decide)) (g := (mkF m 23 #[vR a1, vI 0, vI 2, vR b1, vI 1, .unset] [(.int 2), (.int 0), (.ref a1)])) rfl (by rw [hml]; rfl) (argsL := [(.ref a1), (.int 0), (.int 2)]) (rest := []) (lenOf pd_16 rfl) rfl (own_w rfl) (hb hby d15_23) (fun _ _ => ⟨rfl, rfl, (by decide : 1 + 1 ≤ _), (by decide : 2 + 4 ≤ _)⟩)
    dsimp only [Pt.U, Pt.locs, Pt.cells, Pt.slots] at X12 lq12 yq12 zq12 st12 hQ12
    subst lq12 yq12 zq12
    obtain ⟨⟨y12, ky12, rfl, sx12, Vy12⟩, N12q, K12q⟩ := hQ12
    have N12 := Fr.app N2 N12q
    have sz_y12 : h0.size ≤ y12 := Nat.le_trans K20.1 sx12
    have O_22 := O_18.keep K12q all0
    have Zs23 := Nat.le_trans Zs19 K12q.1
    have K24 := K20.trans K12q all0
    refine Go.on (B := T12.setTop (mkF m 32 #[vR a1, vI 0, vI 2, vR b1, vI 1, vR y12] [(.int 1), (.ref y12)])) (fun t k => XS.iloadN X2.here hx rfl (hb hby d15_21) rfl (XS.iloadN X2.here hx rfl (hb hby d15_22) rfl (st12 _ (XS.astore X12.here hx rfl (hb hby d15_26) rfl rfl (l' := #[vR a1, vI 0, vI 2, vR b1, vI 1, vR y12]) rfl (XS.aload X12.here hx rfl (hb hby d15_28) rfl rfl (XS.iload X12.here hx rfl (hb hby d15_30) rfl k)))))) ?_
    obtain ⟨_, _, ⟨T13, L13, k13, n13⟩, -, X13, ⟨Lc13, hQ13, lq13, yq13, zq13⟩, st13⟩ := Jvm.LawKit.callS X12 hx (y := MN5) hown (mg hZ hw 131 rfl) (mg hZ hw 132 rfl) (mg hZ hw 83 rfl) (mg hZ hw 133 rfl) (by decide) (backOf (W := 0) (rgc l Z a0 hw [] y12 (1 : Int32) ky12 (4 : Int32) [(.int (own_u0 c0)), (.int (own_u1 c0)), (.int (own_u0 c1)), (.int (own_u1 c1))] (own_u0 c1) (own_u1 c1) c1 T12.heap n0 Zs23 Vy12 ⟨by decide, by decide⟩ rfl ⟨by decide, by decide⟩ rfl (own_utf c1 hc1) O_22 S_ad S_hi S_lo) hZ (gw hw 133 rfl) (gw hw 83 rfl) (by decide) (by decide)) (g := (mkF m 32 #[vR a1, vI 0, vI 2, vR b1, vI 1, vR y12] [(.int 1), (.ref y12)])) rfl (by rw [hml]; rfl) (argsL := [(.ref y12), (.int 1)]) (rest := []) (lenOf pd_4 rfl) rfl (own_w rfl) (hb hby d15_32) (fun _ _ => ⟨rfl, rfl, (by decide : 2 + 0 ≤ _), (by decide : 6 + 0 ≤ _)⟩)
    dsimp only [Pt.U, Pt.locs, Pt.cells, Pt.slots] at X13 lq13 yq13 zq13 st13 hQ13
    subst lq13 yq13 zq13
    obtain ⟨rfl, N13q, e13q⟩ := hQ13
    have N13 := Fr.app N12 N13q
    have hc38_14 : (255 : Int32) < c1 := hx2_c1
    refine Go.on (B := T13.setTop (mkF m 56 #[vR a1, vI 0, vI 2, vR b1, vI 1, vR y12] [(.ref y12)])) (fun t k => st13 _ (XS.sipush X13.here hx rfl (hb hby d15_35) (XS.icmpYes X13.here hx rfl (pc0 := 38) (pc' := 54) rfl (hb hby d15_38) rfl (tlt hc38_14).2.2.1 (by decide) (by decide) (XS.aload X13.here hx rfl (hb hby d15_54) rfl rfl k)))) ?_
    refine Go.fin X13 (v := some (.ref y12)) (own_nv Bd.returns) Bd.notSynchronized ?_ e13q ⟨⟨_, _, rfl, sz_y12, Or.inr Vy12⟩, N13, K24⟩ (by decide) (by decide)
    exact fun _ hr => retOut X13 hx Bd.returns rfl (Or.inr (Or.inr (Or.inr (Or.inr ⟨rfl, rfl, rfl⟩)))) (hb hby d15_56) hr
theorem ef_ri4_2 (m : MethodId) (a1 : Addr) (a2 : Addr) : entryFrame m #[(.ref a1), (.ref a2), (.int 0), (.int 2), .null] 6 = mkF m 0 #[vR a1, vR a2, vI 0, vI 2, .val .null, .unset] [] := rfl
def Q_ri4_2 (Z : State) (a1 : Addr) (a2 : Addr) (kc : ClassId) (c0 c1 : Int32) (G1 : Int32) (h0 : Heap) (n0 : Nat) (v : Option Value) (h : Heap) (L : List Loc) : Prop := v = none ∧ Fr n0 L ∧ Keep h0 h [a1] ∧ Exa Z h a1 "java/lang/String" ∧ ∃ (b : Addr) (kb : ClassId), h0.size ≤ b ∧ Fld Z h a1 "java/lang/String" "value" "[B" (.ref b) ∧ ((Fld Z h a1 "java/lang/String" "coder" "B" (.int 0) ∧ Arv Z h b kb .byte (2 : Int32) [(.int (own_l c0)), (.int (own_l c1))] (.int 0) ∧ ¬ ((255 : Int32) < c0) ∧ ¬ ((255 : Int32) < c1)) ∨ (Fld Z h a1 "java/lang/String" "coder" "B" (.int 1) ∧ Arv Z h b kb .byte (4 : Int32) [(.int (own_u0 c0)), (.int (own_u1 c0)), (.int (own_u0 c1)), (.int (own_u1 c1))] (.int 0)))
theorem ri4_2 (l : Launch) (Z : State) (a0 : Array Value) (hw : ∀ d ∈ tables_1, d.before a0 Z = true) (ws : List Jvm.Cond) (a1 : Addr) (a2 : Addr) (kc : ClassId) (c0 c1 : Int32) (G1 : Int32) (h0 : Heap) (n0 : Nat) (Z0 : n0 ≤ h0.size) (E1 : Exa Z h0 a1 "java/lang/String") (F_vl : Fld Z h0 a1 "java/lang/String" "value" "[B" .null) (F_cd : Fld Z h0 a1 "java/lang/String" "coder" "B" (.int 0)) (g1 : n0 ≤ a1) (V2 : Arv Z h0 a2 kc .char (2 : Int32) [(.int c0), (.int c1)] (.int 0)) (hne : a2 ≠ a1) (hc0 : 0 ≤ c0.toInt ∧ c0.toInt ≤ 65535) (hc1 : 0 ≤ c1.toInt ∧ c1.toInt ≤ 65535) (O0 : Old Z n0 h0) (S_cs : own_S_cs Z G1) (S_ad : own_S_ad Z) (S_hi : own_S_hi Z) (S_lo : own_S_lo Z) (P5 : ¬ (G1 = (0 : Int32))) :
    MetFree l MN30 (head1 (Jvm.Cond.code MN30 jdk_42_method_149_code 6 none :: ws) (rK 4 2 6 90)) (fun a U => a = #[(.ref a1), (.ref a2), (.int 0), (.int 2), .null] ∧ Z.Warmed39 U.vm ∧ U.heap = h0) (fun _ _ _ _ _ => True) (fun _ U o U' => ∃ v L, o = .returned v ∧ Q_ri4_2 Z a1 a2 kc c0 c1 G1 h0 n0 v U'.heap L ∧ FrameEnd U o U' L (rK 4 2 6 90).cells (rK 4 2 6 90).slots) := by
  refine MetFree.of_bodySF (plainFor_of_name pn_5) hisR ?_
  intro p e s m args below meth c sB Bd hml0 hP hK
  obtain ⟨rfl, hZ, hh⟩ := hP
  have hx := Bd.exec
  have hby := Bd.bytes
  have hml : c.maxLocals = 6 := hml0
  have hown : s.vm.findClass "java/lang/String" = some m.cls := findClass_of_methodNamed Bd.named
  have hnm := (name_of_methodNamed Bd.named Bd.method).1
  have X0 : Stand p l e (rK 4 2 6 90) s m #[(.ref a1), (.ref a2), (.int 0), (.int 2), .null] below meth c sB [] 0 0 := Stand.of_body Bd
  have e0 : sB.heap = h0 := by rw [← hh, Bd.state]; rfl
  have N0 := Fr.nil n0
  change Go p.tables e below _ _
  have K0 := Keep.refl h0 [a1]
  refine Go.on (B := sB.setTop (mkF m 0 #[vR a1, vR a2, vI 0, vI 2, .val .null, .unset] [])) (fun t k => castTop (ef_ri4_2 m a1 a2) k) ?_
  obtain ⟨T1, X1, e1, st1⟩ := initO X0 hx hZ hown (gw hw 16 rfl) (gw hw 17 rfl) (gw hw 18 rfl) e0 (g := (mkF m 1 #[vR a1, vR a2, vI 0, vI 2, .val .null, .unset] [(.ref a1)])) rfl (by rw [hml]; rfl) rfl (hb hby d3_1) (by decide) (W := 0) (own_w rfl) (by decide)
  have hc5_2 : ¬ ((2 : Int32) = (0 : Int32)) := by decide
  obtain ⟨T3, X3, e3, st3⟩ := getS2 X1 hx hZ hown (host := "") (Or.inl (gw hw 63 rfl)) Via.refl e1 (S_cs.ext O0.2) (g := (mkF m 27 #[vR a1, vR a2, vI 0, vI 2, .val .null, .unset] [])) rfl (hb hby d3_27)
  have hc30_4 : ¬ (G1 = (0 : Int32)) := P5
  refine Go.on (B := T3.setTop (mkF m 33 #[vR a1, vR a2, vI 0, vI 2, .val .null, .unset] [])) (fun t k => XS.aloadN X0.here hx rfl (hb hby d3_0) rfl rfl (st1 _ (XS.iloadN X1.here hx rfl (hb hby d3_4) rfl (XS.ifYes X1.here hx rfl (pc0 := 5) (pc' := 27) rfl (hb hby d3_5) rfl ((if0 _ _).trans (feq hc5_2).2) (by decide) (by decide) (st3 _ (XS.ifNo X3.here hx rfl (hb hby d3_30) rfl ((if0 _ _).trans (feq hc30_4).1) k)))))) ?_
  obtain ⟨_, _, ⟨T5, L5, k5, n5⟩, -, X5, ⟨Lc5, hQ5, lq5, yq5, zq5⟩, st5⟩ := Jvm.LawKit.callS X3 hx (y := MN29) hown (mg hZ hw 81 rfl) (mg hZ hw 82 rfl) (mg hZ hw 83 rfl) (mg hZ hw 84 rfl) (by decide) (backOf (W := 0) (rc3_2 l Z a0 hw [] a2 kc c0 c1 h0 n0 Z0 V2 hc0 hc1 O0 S_ad S_hi S_lo) hZ (gw hw 84 rfl) (gw hw 83 rfl) (by decide) (by decide)) (g := (mkF m 36 #[vR a1, vR a2, vI 0, vI 2, .val .null, .unset] [(.int 2), (.int 0), (.ref a2)])) rfl (by rw [hml]; rfl) (argsL := [(.ref a2), (.int 0), (.int 2)]) (rest := []) (lenOf pd_16 rfl) rfl (own_w rfl) (hb hby d3_36) (fun _ _ => ⟨rfl, e3, (by decide : 0 + 2 ≤ _), (by decide : 0 + 6 ≤ _)⟩)
  dsimp only [Pt.U, Pt.locs, Pt.cells, Pt.slots] at X5 lq5 yq5 zq5 st5 hQ5
  subst lq5 yq5 zq5
  refine Go.on (B := T3.setTop (mkF m 36 #[vR a1, vR a2, vI 0, vI 2, .val .null, .unset] [(.int 2), (.int 0), (.ref a2)])) (fun t k => XS.aloadN X3.here hx rfl (hb hby d3_33) rfl rfl (XS.iloadN X3.here hx rfl (hb hby d3_34) rfl (XS.iloadN X3.here hx rfl (hb hby d3_35) rfl k))) ?_
  rcases hQ5 with ⟨⟨y5, ky5, rfl, sx5, ⟨Vy5, hx5_c0, hx5_c1⟩ | Vy5⟩, N5q, K5q⟩
  · have N5 := Fr.app N0 N5q
    have ne_a1_y5 : a1 ≠ y5 := Nat.ne_of_lt (Nat.lt_of_lt_of_le E1.lt sx5)
    have sz_y5 : h0.size ≤ y5 := Nat.le_trans K0.1 sx5
    have f1 := E1.keep K5q
    have f2 := F_vl.keep K5q nin0
    have f3 := F_cd.keep K5q nin0
    have Zs6 := Nat.le_trans Z0 K5q.1
    have K7 := K0.trans K5q all0
    obtain ⟨_, _, ⟨T6, L6, k6, n6⟩, -, X6, ⟨Lc6, hQ6, lq6, yq6, zq6⟩, st6⟩ := Jvm.LawKit.callS X5 hx (y := MN25) hown (mg hZ hw 88 rfl) (mg hZ hw 89 rfl) (mg hZ hw 83 rfl) (mg hZ hw 90 rfl) (by decide) (backOf (W := 1) (rcdg l Z a0 hw [] y5 (2 : Int32) ky5 (2 : Int32) [(.int (own_l c0)), (.int (own_l c1))] (0 : Int32) T5.heap n0 Zs6 Vy5 (by decide)) hZ (gw hw 90 rfl) (gw hw 83 rfl) (by decide) (by decide)) (g := (mkF m 45 #[vR a1, vR a2, vI 0, vI 2, .val .null, vR y5] [(.int 2), (.ref y5), (.ref a1)])) rfl (by rw [hml]; rfl) (argsL := [(.ref y5), (.int 2)]) (rest := [(.ref a1)]) (lenOf pd_17 rfl) rfl (own_w rfl) (hb hby d3_45) (fun _ _ => ⟨rfl, rfl, (by decide : 2 + 0 ≤ _), (by decide : 6 + 0 ≤ _)⟩)
    dsimp only [Pt.U, Pt.locs, Pt.cells, Pt.slots] at X6 lq6 yq6 zq6 st6 hQ6
    subst lq6 yq6 zq6
    obtain ⟨rfl, N6q, e6q⟩ := hQ6
    have N6 := Fr.app N5 N6q
    refine Go.on (B := T6.setTop (mkF m 48 #[vR a1, vR a2, vI 0, vI 2, .val .null, vR y5] [(.int 0), (.ref a1)])) (fun t k => st5 _ (XS.astore X5.here hx rfl (hb hby d3_39) rfl rfl (l' := #[vR a1, vR a2, vI 0, vI 2, .val .null, vR y5]) rfl (XS.aloadN X5.here hx rfl (hb hby d3_41) rfl rfl (XS.aload X5.here hx rfl (hb hby d3_42) rfl rfl (XS.iloadN X5.here hx rfl (hb hby d3_44) rfl (st6 _ k)))))) ?_
    obtain ⟨T7, h7, X7, e7, W7, st7⟩ := putFN X6 hx hZ hown (gw hw 26 rfl) Via.refl e6q f3 f1 (Or.inr ⟨(gw hw 22 rfl), rfl, hnm⟩) (gw hw 7 rfl) (ty := .byte) (v' := (.int 0)) (by decide) rfl (by decide) (g := (mkF m 48 #[vR a1, vR a2, vI 0, vI 2, .val .null, vR y5] [(.int 0), (.ref a1)])) rfl rfl (hb hby d3_48)
    have N7 := Fr.snoc X7 N6 g1
    have Fw7 := f3.same W7
    have f8 := f1.wr W7
    have f9 := f2.other W7 (Or.inr (slot_ne (Or.inr (gw hw 21 rfl)) (Or.inr (gw hw 22 rfl)) (by decide) (t := (.array .byte)) (t' := .byte) (by decide) (by decide)))
    have f12 := Vy5.other W7 (Ne.symm ne_a1_y5)
    have K14 := K7.wr W7 (Or.inl (List.mem_of_getElem? (i := 0) rfl))
    obtain ⟨T8, h8, X8, e8, W8, st8⟩ := putF X7 hx hZ hown (host := "") (Or.inl (gw hw 25 rfl)) Via.refl e7 f9 f8 (Or.inr ⟨(gw hw 21 rfl), rfl, hnm⟩) (gw hw 7 rfl) (ty := (.array .byte)) (by decide) rfl rfl (g := (mkF m 54 #[vR a1, vR a2, vI 0, vI 2, .val .null, vR y5] [(.ref y5), (.ref a1)])) rfl rfl (hb hby d3_54)
    have N8 := Fr.snoc X8 N7 g1
    have Fw8 := f9.same W8
    have f15 := f8.wr W8
    have f16 := Fw7.other W8 (Or.inr (slot_ne (Or.inr (gw hw 22 rfl)) (Or.inr (gw hw 21 rfl)) (by decide) (t := .byte) (t' := (.array .byte)) (by decide) (by decide)))
    have f19 := f12.other W8 (Ne.symm ne_a1_y5)
    have K21 := K14.wr W8 (Or.inl (List.mem_of_getElem? (i := 0) rfl))
    refine Go.on (B := T8.setTop (mkF m 57 #[vR a1, vR a2, vI 0, vI 2, .val .null, vR y5] [])) (fun t k => st7 _ (XS.aloadN X7.here hx rfl (hb hby d3_51) rfl rfl (XS.aload X7.here hx rfl (hb hby d3_52) rfl rfl (st8 _ k)))) ?_
    refine Go.fin X8 (v := none) (fun _ => rfl) Bd.notSynchronized ?_ e8 ⟨rfl, N8, K21, f15, _, _, sz_y5, Fw8, Or.inl ⟨f16, f19, hx5_c0, hx5_c1⟩⟩ (by decide) (by decide)
    exact fun _ hr => X8.returnOut hx Bd.returns (hb hby d3_57) hr
  · have N5 := Fr.app N0 N5q
    have ne_a1_y5 : a1 ≠ y5 := Nat.ne_of_lt (Nat.lt_of_lt_of_le E1.lt sx5)
    have sz_y5 : h0.size ≤ y5 := Nat.le_trans K0.1 sx5
    have f22 := E1.keep K5q
    have f23 := F_vl.keep K5q nin0
    have f24 := F_cd.keep K5q nin0
    have Zs27 := Nat.le_trans Z0 K5q.1
    have K28 := K0.trans K5q all0
    obtain ⟨_, _, ⟨T9, L9, k9, n9⟩, -, X9, ⟨Lc9, hQ9, lq9, yq9, zq9⟩, st9⟩ := Jvm.LawKit.callS X5 hx (y := MN25) hown (mg hZ hw 88 rfl) (mg hZ hw 89 rfl) (mg hZ hw 83 rfl) (mg hZ hw 90 rfl) (by decide) (backOf (W := 1) (rcdg l Z a0 hw [] y5 (2 : Int32) ky5 (4 : Int32) [(.int (own_u0 c0)), (.int (own_u1 c0)), (.int (own_u0 c1)), (.int (own_u1 c1))] (1 : Int32) T5.heap n0 Zs27 Vy5 (by decide)) hZ (gw hw 90 rfl) (gw hw 83 rfl) (by decide) (by decide)) (g := (mkF m 45 #[vR a1, vR a2, vI 0, vI 2, .val .null, vR y5] [(.int 2), (.ref y5), (.ref a1)])) rfl (by rw [hml]; rfl) (argsL := [(.ref y5), (.int 2)]) (rest := [(.ref a1)]) (lenOf pd_17 rfl) rfl (own_w rfl) (hb hby d3_45) (fun _ _ => ⟨rfl, rfl, (by decide : 2 + 0 ≤ _), (by decide : 6 + 0 ≤ _)⟩)
    dsimp only [Pt.U, Pt.locs, Pt.cells, Pt.slots] at X9 lq9 yq9 zq9 st9 hQ9
    subst lq9 yq9 zq9
    obtain ⟨rfl, N9q, e9q⟩ := hQ9
    have N9 := Fr.app N5 N9q
    refine Go.on (B := T9.setTop (mkF m 48 #[vR a1, vR a2, vI 0, vI 2, .val .null, vR y5] [(.int 1), (.ref a1)])) (fun t k => st5 _ (XS.astore X5.here hx rfl (hb hby d3_39) rfl rfl (l' := #[vR a1, vR a2, vI 0, vI 2, .val .null, vR y5]) rfl (XS.aloadN X5.here hx rfl (hb hby d3_41) rfl rfl (XS.aload X5.here hx rfl (hb hby d3_42) rfl rfl (XS.iloadN X5.here hx rfl (hb hby d3_44) rfl (st9 _ k)))))) ?_
    obtain ⟨T10, h10, X10, e10, W10, st10⟩ := putFN X9 hx hZ hown (gw hw 26 rfl) Via.refl e9q f24 f22 (Or.inr ⟨(gw hw 22 rfl), rfl, hnm⟩) (gw hw 7 rfl) (ty := .byte) (v' := (.int 1)) (by decide) rfl (by decide) (g := (mkF m 48 #[vR a1, vR a2, vI 0, vI 2, .val .null, vR y5] [(.int 1), (.ref a1)])) rfl rfl (hb hby d3_48)
    have N10 := Fr.snoc X10 N9 g1
    have Fw10 := f24.same W10
    have f29 := f22.wr W10
    have f30 := f23.other W10 (Or.inr (slot_ne (Or.inr (gw hw 21 rfl)) (Or.inr (gw hw 22 rfl)) (by decide) (t := (.array .byte)) (t' := .byte) (by decide) (by decide)))
    have f33 := Vy5.other W10 (Ne.symm ne_a1_y5)
    have K35 := K28.wr W10 (Or.inl (List.mem_of_getElem? (i := 0) rfl))
    obtain ⟨T11, h11, X11, e11, W11, st11⟩ := putF X10 hx hZ hown (host := "") (Or.inl (gw hw 25 rfl)) Via.refl e10 f30 f29 (Or.inr ⟨(gw hw 21 rfl), rfl, hnm⟩) (gw hw 7 rfl) (ty := (.array .byte)) (by decide) rfl rfl (g := (mkF m 54 #[vR a1, vR a2, vI 0, vI 2, .val .null, vR y5] [(.ref y5), (.ref a1)])) rfl rfl (hb hby d3_54)
    have N11 := Fr.snoc X11 N10 g1
    have Fw11 := f30.same W11
    have f36 := f29.wr W11
    have f37 := Fw10.other W11 (Or.inr (slot_ne (Or.inr (gw hw 22 rfl)) (Or.inr (gw hw 21 rfl)) (by decide) (t := .byte) (t' := (.array .byte)) (by decide) (by decide)))
    have f40 := f33.other W11 (Ne.symm ne_a1_y5)
    have K42 := K35.wr W11 (Or.inl (List.mem_of_getElem? (i := 0) rfl))
    refine Go.on (B := T11.setTop (mkF m 57 #[vR a1, vR a2, vI 0, vI 2, .val .null, vR y5] [])) (fun t k => st10 _ (XS.aloadN X10.here hx rfl (hb hby d3_51) rfl rfl (XS.aload X10.here hx rfl (hb hby d3_52) rfl rfl (st11 _ k)))) ?_
    refine Go.fin X11 (v := none) (fun _ => rfl) Bd.notSynchronized ?_ e11 ⟨rfl, N11, K42, f36, _, _, sz_y5, Fw11, Or.inr ⟨f37, f40⟩⟩ (by decide) (by decide)
    exact fun _ hr => X11.returnOut hx Bd.returns (hb hby d3_57) hr
def Q_ri1_2 (Z : State) (a1 : Addr) (a2 : Addr) (kc : ClassId) (c0 c1 : Int32) (G1 : Int32) (h0 : Heap) (n0 : Nat) (v : Option Value) (h : Heap) (L : List Loc) : Prop := v = none ∧ Fr n0 L ∧ Keep h0 h [a1] ∧ Exa Z h a1 "java/lang/String" ∧ ∃ (b : Addr) (kb : ClassId), h0.size ≤ b ∧ Fld Z h a1 "java/lang/String" "value" "[B" (.ref b) ∧ ((Fld Z h a1 "java/lang/String" "coder" "B" (.int 0) ∧ Arv Z h b kb .byte (2 : Int32) [(.int (own_l c0)), (.int (own_l c1))] (.int 0) ∧ ¬ ((255 : Int32) < c0) ∧ ¬ ((255 : Int32) < c1)) ∨ (Fld Z h a1 "java/lang/String" "coder" "B" (.int 1) ∧ Arv Z h b kb .byte (4 : Int32) [(.int (own_u0 c0)), (.int (own_u1 c0)), (.int (own_u0 c1)), (.int (own_u1 c1))] (.int 0)))
theorem ri1_2 (l : Launch) (Z : State) (a0 : Array Value) (hw : ∀ d ∈ tables_1, d.before a0 Z = true) (ws : List Jvm.Cond) (a1 : Addr) (a2 : Addr) (kc : ClassId) (c0 c1 : Int32) (G1 : Int32) (h0 : Heap) (n0 : Nat) (Z0 : n0 ≤ h0.size) (E1 : Exa Z h0 a1 "java/lang/String") (F_vl : Fld Z h0 a1 "java/lang/String" "value" "[B" .null) (F_cd : Fld Z h0 a1 "java/lang/String" "coder" "B" (.int 0)) (g1 : n0 ≤ a1) (V2 : Arv Z h0 a2 kc .char (2 : Int32) [(.int c0), (.int c1)] (.int 0)) (hne : a2 ≠ a1) (hc0 : 0 ≤ c0.toInt ∧ c0.toInt ≤ 65535) (hc1 : 0 ≤ c1.toInt ∧ c1.toInt ≤ 65535) (O0 : Old Z n0 h0) (S_cs : own_S_cs Z G1) (S_ad : own_S_ad Z) (S_hi : own_S_hi Z) (S_lo : own_S_lo Z) (P5 : ¬ (G1 = (0 : Int32))) :
    MetFree l MN31 (head1 (Jvm.Cond.code MN31 jdk_42_method_3_code 2 none :: ws) (rK 5 2 6 120)) (fun a U => a = #[(.ref a1), (.ref a2)] ∧ Z.Warmed39 U.vm ∧ U.heap = h0) (fun _ _ _ _ _ => True) (fun _ U o U' => ∃ v L, o = .returned v ∧ Q_ri1_2 Z a1 a2 kc c0 c1 G1 h0 n0 v U'.heap L ∧ FrameEnd U o U' L (rK 5 2 6 120).cells (rK 5 2 6 120).slots) := by
  refine MetFree.of_bodySF (plainFor_of_name pn_5) hisR ?_
  intro p e s m args below meth c sB Bd hml0 hP hK
  obtain ⟨rfl, hZ, hh⟩ := hP
  have hx := Bd.exec
  have hby := Bd.bytes
  have hml : c.maxLocals = 2 := hml0
  have hown : s.vm.findClass "java/lang/String" = some m.cls := findClass_of_methodNamed Bd.named
  have X0 : Stand p l e (rK 5 2 6 120) s m #[(.ref a1), (.ref a2)] below meth c sB [] 0 0 := Stand.of_body Bd
  have e0 : sB.heap = h0 := by rw [← hh, Bd.state]; rfl
  have N0 := Fr.nil n0
  change Go p.tables e below _ _
  have K0 := Keep.refl h0 [a1]
  refine Go.on (B := sB.setTop (mkF m 0 #[vR a1, vR a2] [])) (fun t k => castTop (ef_ri1_1 m a1 a2) k) ?_
  obtain ⟨cl1, Ar1, -, Sz1, Ng1, -, -⟩ := id V2
  refine Go.on (B := sB.setTop (mkF m 6 #[vR a1, vR a2] [.null, (.int 2), (.int 0), (.ref a2), (.ref a1)])) (fun t k => XS.aloadN X0.here hx rfl (hb hby d2_0) rfl rfl (XS.aloadN X0.here hx rfl (hb hby d2_1) rfl rfl (XS.iconst X0.here hx rfl (hb hby d2_2) (XS.aloadN X0.here hx rfl (hb hby d2_3) rfl rfl (X0.arraylength hx (by rw [e0]; exact Ar1.1) (State.isArrayOf_alike hZ.alike Ar1.2.1) (g := (mkF m 4 #[vR a1, vR a2] [(.ref a2), (.int 0), (.ref a2), (.ref a1)])) rfl rfl (hb hby d2_4) _ (by rw [len_of Sz1 Ng1]; exact (XS.aconstNull X0.here hx rfl (hb hby d2_5) k))))))) ?_
  obtain ⟨_, _, ⟨T2, L2, k2, n2⟩, -, X2, ⟨Lc2, hQ2, lq2, yq2, zq2⟩, st2⟩ := X0.specialBack hx (y := MN30) rfl hown (mg hZ hw 12 rfl) (mg hZ hw 13 rfl) (mg hZ hw 15 rfl) (by decide) (backOf (W := 0) (ri4_2 l Z a0 hw [] a1 a2 kc c0 c1 G1 h0 n0 Z0 E1 F_vl F_cd g1 V2 hne hc0 hc1 O0 S_cs S_ad S_hi S_lo P5) hZ (gw hw 15 rfl) (gw hw 8 rfl) (by decide) (by decide)) (g := (mkF m 6 #[vR a1, vR a2] [.null, (.int 2), (.int 0), (.ref a2), (.ref a1)])) rfl (by rw [hml]; rfl) (Steps.refl _) (a := a1) (argsL := [(.ref a2), (.int 0), (.int 2), .null]) (rest := []) (lenOf pd_18 rfl) rfl (own_w rfl) (hb hby d2_6) (fun _ _ => ⟨rfl, e0, (by decide : 0 + 2 ≤ _), (by decide : 0 + 6 ≤ _)⟩)
  dsimp only [Pt.U, Pt.locs, Pt.cells, Pt.slots] at X2 lq2 yq2 zq2 st2 hQ2
  subst lq2 yq2 zq2
  rcases hQ2 with ⟨rfl, N2q, K2q, E2q, y2, ky2, sx2, Fv2, ⟨Fc2, Vy2, hx2_0, hx2_1⟩ | ⟨Fc2, Vy2⟩⟩
  · have N2 := Fr.app N0 N2q
    have sz_y2 : h0.size ≤ y2 := Nat.le_trans K0.1 sx2
    have K5 := K0.trans K2q (allS (Or.inl (List.mem_of_getElem? (i := 0) rfl)) all0)
    refine Go.on (B := T2.setTop (mkF m 9 #[vR a1, vR a2] [])) (fun t k => st2.trans k) ?_
    refine Go.fin X2 (v := none) (fun _ => rfl) Bd.notSynchronized ?_ rfl ⟨rfl, N2, K5, E2q, _, _, sz_y2, Fv2, Or.inl ⟨Fc2, Vy2, hx2_0, hx2_1⟩⟩ (by decide) (by decide)
    exact fun _ hr => X2.returnOut hx Bd.returns (hb hby d2_9) hr
  · have N2 := Fr.app N0 N2q
    have sz_y2 : h0.size ≤ y2 := Nat.le_trans K0.1 sx2
    have K10 := K0.trans K2q (allS (Or.inl (List.mem_of_getElem? (i := 0) rfl)) all0)
    refine Go.on (B := T2.setTop (mkF m 9 #[vR a1, vR a2] [])) (fun t k => st2.trans k) ?_
    refine Go.fin X2 (v := none) (fun _ => rfl) Bd.notSynchronized ?_ rfl ⟨rfl, N2, K10, E2q, _, _, sz_y2, Fv2, Or.inr ⟨Fc2, Vy2⟩⟩ (by decide) (by decide)
    exact fun _ hr => X2.returnOut hx Bd.returns (hb hby d2_9) hr
theorem ef_rnf_3 (m : MethodId)  : entryFrame m #[(.int 3)] 1 = mkF m 0 #[vI 3] [] := rfl
def Q_rnf_3 (Z : State)  (h0 : Heap) (n0 : Nat) (v : Option Value) (h : Heap) (L : List Loc) : Prop := (∃ (b : Addr) (kb : ClassId), v = some (.ref b) ∧ h0.size ≤ b ∧ Arv Z h b kb .byte (6 : Int32) [(.int 0), (.int 0), (.int 0), (.int 0), (.int 0), (.int 0)] (.int 0)) ∧ Fr n0 L ∧ Keep h0 h []
theorem rnf_3 (l : Launch) (Z : State) (a0 : Array Value) (hw : ∀ d ∈ tables_1, d.before a0 Z = true) (ws : List Jvm.Cond)  (h0 : Heap) (n0 : Nat) (Z0 : n0 ≤ h0.size)  :
    MetFree l MN26 (head1 (Jvm.Cond.code MN26 jdk_52_method_2_code 1 (some (.array .byte)) :: ws) (rK 1 1 6 12)) (fun a U => a = #[(.int 3)] ∧ Z.Warmed39 U.vm ∧ U.heap = h0) (fun _ _ _ _ _ => True) (fun _ U o U' => ∃ v L, o = .returned v ∧ Q_rnf_3 Z  h0 n0 v U'.heap L ∧ FrameEnd U o U' L (rK 1 1 6 12).cells (rK 1 1 6 12).slots) := by
  refine MetFree.of_bodySF (plainFor_of_name pn_10) hisR ?_
  intro p e s m args below meth c sB Bd hml0 hP hK
  obtain ⟨rfl, hZ, hh⟩ := hP
  have hx := Bd.exec
  have hby := Bd.bytes
  have hml : c.maxLocals = 1 := hml0
  have hown : s.vm.findClass "java/lang/StringUTF16" = some m.cls := findClass_of_methodNamed Bd.named
  have X0 : Stand p l e (rK 1 1 6 12) s m #[(.int 3)] below meth c sB [] 0 0 := Stand.of_body Bd
  have e0 : sB.heap = h0 := by rw [← hh, Bd.state]; rfl
  have N0 := Fr.nil n0
  change Go p.tables e below _ _
  have K0 := Keep.refl h0 []
  refine Go.on (B := sB.setTop (mkF m 0 #[vI 3] [])) (fun t k => castTop (ef_rnf_3 m ) k) ?_
  obtain ⟨_, _, ⟨T1, L1, k1, n1⟩, -, X1, ⟨Lc1, hQ1, lq1, yq1, zq1⟩, st1⟩ := Jvm.LawKit.callS X0 hx (y := MN18) hown (mg hZ hw 121 rfl) (mg hZ hw 122 rfl) (mg hZ hw 83 rfl) (mg hZ hw 123 rfl) (by decide) (backOf (W := 0) (rnlg l Z a0 hw [] (3 : Int32) (6 : Int32) h0 n0 Z0 ⟨by decide, by decide, by decide⟩) hZ (gw hw 123 rfl) (gw hw 83 rfl) (by decide) (by decide)) (g := (mkF m 1 #[vI 3] [(.int 3)])) rfl (by rw [hml]; rfl) (argsL := [(.int 3)]) (rest := []) (lenOf pd_12 rfl) rfl (own_w rfl) (hb hby d25_1) (fun _ _ => ⟨rfl, e0, (by decide : 0 + 0 ≤ _), (by decide : 0 + 0 ≤ _)⟩)
  dsimp only [Pt.U, Pt.locs, Pt.cells, Pt.slots] at X1 lq1 yq1 zq1 st1 hQ1
  subst lq1 yq1 zq1
  obtain ⟨rfl, N1q, e1q⟩ := hQ1
  have N1 := Fr.app N0 N1q
  obtain ⟨T2, h2, kq2, X2, e2, Xe2, A2, st2⟩ := newP X1 hx hZ (gw hw 20 rfl) e1q (g := (mkF m 4 #[vI 3] [(.int 6)])) rfl (hb hby d25_4) rfl (by decide) (cap := 6) (by decide) (by decide) (by decide) (by decide)
  obtain ⟨b2, gq2⟩ : ∃ z, z = h0.size := ⟨_, rfl⟩
  rw [← gq2] at A2 st2
  have sz_b2 : h0.size ≤ b2 := Nat.le_trans K0.1 (Nat.le_of_eq gq2.symm)
  have K2 := K0.ext Xe2
  have V2 : Arv Z h2 b2 kq2 .byte (6 : Int32) [(.int 0), (.int 0), (.int 0), (.int 0), (.int 0), (.int 0)] (.int 0) := (Arv.new A2 (by decide)).pad (pad_rep [] (.int 0) 6)
  refine Go.on (B := T2.setTop (mkF m 6 #[vI 3] [(.ref b2)])) (fun t k => XS.iloadN X0.here hx rfl (hb hby d25_0) rfl (st1 _ (st2 _ k))) ?_
  refine Go.fin X2 (v := some (.ref b2)) (own_nv Bd.returns) Bd.notSynchronized ?_ e2 ⟨⟨_, _, rfl, sz_b2, V2⟩, N1, K2⟩ (by decide) (by decide)
  exact fun _ hr => retOut X2 hx Bd.returns rfl (Or.inr (Or.inr (Or.inr (Or.inr ⟨rfl, rfl, rfl⟩)))) (hb hby d25_6) hr
theorem ef_rtb_3 (m : MethodId) (a1 : Addr) : entryFrame m #[(.ref a1), (.int 0), (.int 3)] 5 = mkF m 0 #[vR a1, vI 0, vI 3, .unset, .unset] [] := rfl
def Q_rtb_3 (Z : State) (a1 : Addr) (kc : ClassId) (c0 c1 c2 : Int32) (h0 : Heap) (n0 : Nat) (v : Option Value) (h : Heap) (L : List Loc) : Prop := (∃ (b : Addr) (kb : ClassId), v = some (.ref b) ∧ h0.size ≤ b ∧ Arv Z h b kb .byte (6 : Int32) [(.int (own_u0 c0)), (.int (own_u1 c0)), (.int (own_u0 c1)), (.int (own_u1 c1)), (.int (own_u0 c2)), (.int (own_u1 c2))] (.int 0)) ∧ Fr n0 L ∧ Keep h0 h []
theorem rtb_3 (l : Launch) (Z : State) (a0 : Array Value) (hw : ∀ d ∈ tables_1, d.before a0 Z = true) (ws : List Jvm.Cond) (a1 : Addr) (kc : ClassId) (c0 c1 c2 : Int32) (h0 : Heap) (n0 : Nat) (Z0 : n0 ≤ h0.size) (V1 : Arv Z h0 a1 kc .char (3 : Int32) [(.int c0), (.int c1), (.int c2)] (.int 0)) (O0 : Old Z n0 h0) (S_ad : own_S_ad Z) (S_hi : own_S_hi Z) (S_lo : own_S_lo Z) :
    MetFree l MN27 (head1 (Jvm.Cond.code MN27 jdk_52_method_14_code 5 (some (.array .byte)) :: ws) (rK 2 1 6 30)) (fun a U => a = #[(.ref a1), (.int 0), (.int 3)] ∧ Z.Warmed39 U.vm ∧ U.heap = h0) (fun _ _ _ _ _ => True) (fun _ U o U' => ∃ v L, o = .returned v ∧ Q_rtb_3 Z a1 kc c0 c1 c2 h0 n0 v U'.heap L ∧ FrameEnd U o U' L (rK 2 1 6 30).cells (rK 2 1 6 30).slots) := by
  refine MetFree.of_bodySF (plainFor_of_name pn_10) hisR ?_
  intro p e s m args below meth c sB Bd hml0 hP hK
  obtain ⟨rfl, hZ, hh⟩ := hP
  have hx := Bd.exec
  have hby := Bd.bytes
  have hml : c.maxLocals = 5 := hml0
  have hown : s.vm.findClass "java/lang/StringUTF16" = some m.cls := findClass_of_methodNamed Bd.named
  have X0 : Stand p l e (rK 2 1 6 30) s m #[(.ref a1), (.int 0), (.int 3)] below meth c sB [] 0 0 := Stand.of_body Bd
  have e0 : sB.heap = h0 := by rw [← hh, Bd.state]; rfl
  have N0 := Fr.nil n0
  change Go p.tables e below _ _
  have K0 := Keep.refl h0 []
  refine Go.on (B := sB.setTop (mkF m 0 #[vR a1, vI 0, vI 3, .unset, .unset] [])) (fun t k => castTop (ef_rtb_3 m a1) k) ?_
  obtain ⟨_, _, ⟨T1, L1, k1, n1⟩, -, X1, ⟨Lc1, hQ1, lq1, yq1, zq1⟩, st1⟩ := Jvm.LawKit.callS X0 hx (y := MN26) hown (mg hZ hw 118 rfl) (mg hZ hw 119 rfl) (mg hZ hw 83 rfl) (mg hZ hw 120 rfl) (by decide) (backOf (W := 0) (rnf_3 l Z a0 hw []  h0 n0 Z0) hZ (gw hw 120 rfl) (gw hw 83 rfl) (by decide) (by decide)) (g := (mkF m 1 #[vR a1, vI 0, vI 3, .unset, .unset] [(.int 3)])) rfl (by rw [hml]; rfl) (argsL := [(.int 3)]) (rest := []) (lenOf pd_13 rfl) rfl (own_w rfl) (hb hby d24_1) (fun _ _ => ⟨rfl, e0, (by decide : 0 + 1 ≤ _), (by decide : 0 + 6 ≤ _)⟩)
  dsimp only [Pt.U, Pt.locs, Pt.cells, Pt.slots] at X1 lq1 yq1 zq1 st1 hQ1
  subst lq1 yq1 zq1
  obtain ⟨⟨y1, ky1, rfl, sx1, Vy1⟩, N1q, K1q⟩ := hQ1
  have N1 := Fr.app N0 N1q
  have ne_a1_y1 : a1 ≠ y1 := Nat.ne_of_lt (Nat.lt_of_lt_of_le V1.lt sx1)
  have ge_y1 : n0 ≤ y1 := Nat.le_trans Z0 sx1
  have sz_y1 : h0.size ≤ y1 := Nat.le_trans K0.1 sx1
  have f1 := V1.keep K1q nin0
  have O_2 := O0.keep K1q all0
  have Zs3 := Nat.le_trans Z0 K1q.1
  have K4 := K0.trans K1q all0
  refine Go.on (B := T1.setTop (mkF m 10 #[vR a1, vI 0, vI 3, vR y1, vI 0] [(.int 0)])) (fun t k => XS.iloadN X0.here hx rfl (hb hby d24_0) rfl (st1 _ (XS.astoreN X1.here hx rfl (hb hby d24_4) rfl rfl (l' := #[vR a1, vI 0, vI 3, vR y1, .unset]) rfl (XS.iconst X1.here hx rfl (hb hby d24_5) (XS.istore X1.here hx rfl (hb hby d24_6) rfl (l' := #[vR a1, vI 0, vI 3, vR y1, vI 0]) rfl (XS.iload X1.here hx rfl (hb hby d24_8) rfl k)))))) ?_
  have hc11_3 : (0 : Int32) < (3 : Int32) := by decide
  refine Go.on (B := T1.setTop (mkF m 19 #[vR a1, vI 0, vI 3, vR y1, vI 0] [(.int 0), (.ref a1), (.int 0), (.ref y1)])) (fun t k => XS.iloadN X1.here hx rfl (hb hby d24_10) rfl (XS.icmpNo X1.here hx rfl (hb hby d24_11) rfl (tlt hc11_3).2.1 (XS.aloadN X1.here hx rfl (hb hby d24_14) rfl rfl (XS.iload X1.here hx rfl (hb hby d24_15) rfl (XS.aloadN X1.here hx rfl (hb hby d24_17) rfl rfl (XS.iloadN X1.here hx rfl (hb hby d24_18) rfl k)))))) ?_
  obtain ⟨cl4, Ar4, qq4, Sz4, Ng4, Hh4, Gg4⟩ := id f1
  have hin4 : ¬ ((0 : Int32) < 0 ∨ cl4.slots.size ≤ ((0 : Int32)).toNatClampNeg) := inb_of Sz4 ⟨by decide, by decide⟩
  have hat4 : cl4.slots[((0 : Int32)).toNatClampNeg]? = some (.int c0) := Hh4.at hin4 rfl
  obtain ⟨_, _, ⟨T5, L5, k5, n5⟩, -, X5, ⟨Lc5, hQ5, lq5, yq5, zq5⟩, st5⟩ := Jvm.LawKit.callS X1 hx (y := MN24) hown (mg hZ hw 125 rfl) (mg hZ hw 126 rfl) (mg hZ hw 83 rfl) (mg hZ hw 127 rfl) (by decide) (backOf (W := 0) (rpcg l Z a0 hw [] y1 (0 : Int32) c0 ky1 (6 : Int32) [(.int 0), (.int 0), (.int 0), (.int 0), (.int 0), (.int 0)] 0 1 T1.heap n0 Zs3 Vy1 ge_y1 ⟨⟨by decide, by decide⟩, rfl, Nat.le_of_ble_eq_true rfl, ⟨by decide, by decide⟩, rfl, Nat.le_of_ble_eq_true rfl⟩ O_2 S_ad S_hi S_lo) hZ (gw hw 127 rfl) (gw hw 83 rfl) (by decide) (by decide)) (g := (mkF m 20 #[vR a1, vI 0, vI 3, vR y1, vI 0] [(.int c0), (.int 0), (.ref y1)])) rfl (by rw [hml]; rfl) (argsL := [(.ref y1), (.int 0), (.int c0)]) (rest := []) (lenOf pd_14 rfl) rfl (own_w rfl) (hb hby d24_20) (fun _ _ => ⟨rfl, rfl, (by decide : 1 + 0 ≤ _), (by decide : 6 + 0 ≤ _)⟩)
  dsimp only [Pt.U, Pt.locs, Pt.cells, Pt.slots] at X5 lq5 yq5 zq5 st5 hQ5
  subst lq5 yq5 zq5
  obtain ⟨rfl, N5q, K5q, G5_0⟩ := hQ5
  have N5 := Fr.app N1 N5q
  have f5 := f1.keep K5q (ninS ne_a1_y1 nin0)
  have O_6 := O_2.keep K5q (allS ge_y1 all0)
  have Zs7 := Nat.le_trans Zs3 K5q.1
  have K8 := K4.trans K5q (allS (Or.inr sz_y1) all0)
  have Vp5 : Arv Z T5.heap y1 ky1 .byte (6 : Int32) [(.int (own_u0 c0)), (.int (own_u1 c0)), (.int 0), (.int 0), (.int 0), (.int 0)] (.int 0) := G5_0
  refine Go.on (B := T5.setTop (mkF m 26 #[vR a1, vI ((0 : Int32) + (1 : Int32)), vI 3, vR y1, vI 0] [])) (fun t k => X1.caload hx (j := (0 : Int32)) (v := (.int c0)) Ar4.1 (State.isArrayOf_alike hZ.alike Ar4.2.1) Ar4.2.2 hin4 hat4 (g := (mkF m 19 #[vR a1, vI 0, vI 3, vR y1, vI 0] [(.int 0), (.ref a1), (.int 0), (.ref y1)])) rfl rfl (hb hby d24_19) _ (st5 _ (XS.iinc X5.here hx rfl (hb hby d24_23) rfl (l' := #[vR a1, vI ((0 : Int32) + (1 : Int32)), vI 3, vR y1, vI 0]) rfl k))) ?_
  rw [show ((0 : Int32) + (1 : Int32)) = (1 : Int32) from by decide]
  refine Go.on (B := T5.setTop (mkF m 29 #[vR a1, vI 1, vI 3, vR y1, vI ((0 : Int32) + (1 : Int32))] [])) (fun t k => XS.iinc X5.here hx rfl (hb hby d24_26) rfl (l' := #[vR a1, vI 1, vI 3, vR y1, vI ((0 : Int32) + (1 : Int32))]) rfl k) ?_
  rw [show ((0 : Int32) + (1 : Int32)) = (1 : Int32) from by decide]
  have hc11_6 : (1 : Int32) < (3 : Int32) := by decide
  refine Go.on (B := T5.setTop (mkF m 17 #[vR a1, vI 1, vI 3, vR y1, vI 1] [(.int 1), (.ref y1)])) (fun t k => XS.goto X5.here hx rfl (pc0 := 29) (pc' := 8) rfl (hb hby d24_29) (by decide) (by decide) (XS.iload X5.here hx rfl (hb hby d24_8) rfl (XS.iloadN X5.here hx rfl (hb hby d24_10) rfl (XS.icmpNo X5.here hx rfl (hb hby d24_11) rfl (tlt hc11_6).2.1 (XS.aloadN X5.here hx rfl (hb hby d24_14) rfl rfl (XS.iload X5.here hx rfl (hb hby d24_15) rfl k)))))) ?_
  obtain ⟨cl7, Ar7, qq7, Sz7, Ng7, Hh7, Gg7⟩ := id f5
  have hin7 : ¬ ((1 : Int32) < 0 ∨ cl7.slots.size ≤ ((1 : Int32)).toNatClampNeg) := inb_of Sz7 ⟨by decide, by decide⟩
  have hat7 : cl7.slots[((1 : Int32)).toNatClampNeg]? = some (.int c1) := Hh7.at hin7 rfl
  obtain ⟨_, _, ⟨T8, L8, k8, n8⟩, -, X8, ⟨Lc8, hQ8, lq8, yq8, zq8⟩, st8⟩ := Jvm.LawKit.callS X5 hx (y := MN24) hown (mg hZ hw 125 rfl) (mg hZ hw 126 rfl) (mg hZ hw 83 rfl) (mg hZ hw 127 rfl) (by decide) (backOf (W := 0) (rpcg l Z a0 hw [] y1 (1 : Int32) c1 ky1 (6 : Int32) [(.int (own_u0 c0)), (.int (own_u1 c0)), (.int 0), (.int 0), (.int 0), (.int 0)] 2 3 T5.heap n0 Zs7 Vp5 ge_y1 ⟨⟨by decide, by decide⟩, rfl, Nat.le_of_ble_eq_true rfl, ⟨by decide, by decide⟩, rfl, Nat.le_of_ble_eq_true rfl⟩ O_6 S_ad S_hi S_lo) hZ (gw hw 127 rfl) (gw hw 83 rfl) (by decide) (by decide)) (g := (mkF m 20 #[vR a1, vI 1, vI 3, vR y1, vI 1] [(.int c1), (.int 1), (.ref y1)])) rfl (by rw [hml]; rfl) (argsL := [(.ref y1), (.int 1), (.int c1)]) (rest := []) (lenOf pd_14 rfl) rfl (own_w rfl) (hb hby d24_20) (fun _ _ => ⟨rfl, rfl, (by decide : 1 + 0 ≤ _), (by decide : 6 + 0 ≤ _)⟩)
  dsimp only [Pt.U, Pt.locs, Pt.cells, Pt.slots] at X8 lq8 yq8 zq8 st8 hQ8
  subst lq8 yq8 zq8
  obtain ⟨rfl, N8q, K8q, G8_0⟩ := hQ8
  have N8 := Fr.app N5 N8q
  have f9 := f5.keep K8q (ninS ne_a1_y1 nin0)
  have O_10 := O_6.keep K8q (allS ge_y1 all0)
  have Zs11 := Nat.le_trans Zs7 K8q.1
  have K12 := K8.trans K8q (allS (Or.inr sz_y1) all0)
  have Vp8 : Arv Z T8.heap y1 ky1 .byte (6 : Int32) [(.int (own_u0 c0)), (.int (own_u1 c0)), (.int (own_u0 c1)), (.int (own_u1 c1)), (.int 0), (.int 0)] (.int 0) := G8_0
  refine Go.on (B := T8.setTop (mkF m 26 #[vR a1, vI ((1 : Int32) + (1 : Int32)), vI 3, vR y1, vI 1] [])) (fun t k => XS.aloadN X5.here hx rfl (hb hby d24_17) rfl rfl (XS.iloadN X5.here hx rfl (hb hby d24_18) rfl (X5.caload hx (j := (1 : Int32)) (v := (.int c1)) Ar7.1 (State.isArrayOf_alike hZ.alike Ar7.2.1) Ar7.2.2 hin7 hat7 (g := (mkF m 19 #[vR a1, vI 1, vI 3, vR y1, vI 1] [(.int 1), (.ref a1), (.int 1), (.ref y1)])) rfl rfl (hb hby d24_19) _ (st8 _ (XS.iinc X8.here hx rfl (hb hby d24_23) rfl (l' := #[vR a1, vI ((1 : Int32) + (1 : Int32)), vI 3, vR y1, vI 1]) rfl k))))) ?_
  rw [show ((1 : Int32) + (1 : Int32)) = (2 : Int32) from by decide]
  refine Go.on (B := T8.setTop (mkF m 29 #[vR a1, vI 2, vI 3, vR y1, vI ((1 : Int32) + (1 : Int32))] [])) (fun t k => XS.iinc X8.here hx rfl (hb hby d24_26) rfl (l' := #[vR a1, vI 2, vI 3, vR y1, vI ((1 : Int32) + (1 : Int32))]) rfl k) ?_
  rw [show ((1 : Int32) + (1 : Int32)) = (2 : Int32) from by decide]
  have hc11_9 : (2 : Int32) < (3 : Int32) := by decide
  refine Go.on (B := T8.setTop (mkF m 17 #[vR a1, vI 2, vI 3, vR y1, vI 2] [(.int 2), (.ref y1)])) (fun t k => XS.goto X8.here hx rfl (pc0 := 29) (pc' := 8) rfl (hb hby d24_29) (by decide) (by decide) (XS.iload X8.here hx rfl (hb hby d24_8) rfl (XS.iloadN X8.here hx rfl (hb hby d24_10) rfl (XS.icmpNo X8.here hx rfl (hb hby d24_11) rfl (tlt hc11_9).2.1 (XS.aloadN X8.here hx rfl (hb hby d24_14) rfl rfl (XS.iload X8.here hx rfl (hb hby d24_15) rfl k)))))) ?_
  obtain ⟨cl10, Ar10, qq10, Sz10, Ng10, Hh10, Gg10⟩ := id f9
  have hin10 : ¬ ((2 : Int32) < 0 ∨ cl10.slots.size ≤ ((2 : Int32)).toNatClampNeg) := inb_of Sz10 ⟨by decide, by decide⟩
  have hat10 : cl10.slots[((2 : Int32)).toNatClampNeg]? = some (.int c2) := Hh10.at hin10 rfl
  obtain ⟨_, _, ⟨T11, L11, k11, n11⟩, -, X11, ⟨Lc11, hQ11, lq11, yq11, zq11⟩, st11⟩ := Jvm.LawKit.callS X8 hx (y := MN24) hown (mg hZ hw 125 rfl) (mg hZ hw 126 rfl) (mg hZ hw 83 rfl) (mg hZ hw 127 rfl) (by decide) (backOf (W := 0) (rpcg l Z a0 hw [] y1 (2 : Int32) c2 ky1 (6 : Int32) [(.int (own_u0 c0)), (.int (own_u1 c0)), (.int (own_u0 c1)), (.int (own_u1 c1)), (.int 0), (.int 0)] 4 5 T8.heap n0 Zs11 Vp8 ge_y1 ⟨⟨by decide, by decide⟩, rfl, Nat.le_of_ble_eq_true rfl, ⟨by decide, by decide⟩, rfl, Nat.le_of_ble_eq_true rfl⟩ O_10 S_ad S_hi S_lo) hZ (gw hw 127 rfl) (gw hw 83 rfl) (by decide) (by decide)) (g := (mkF m 20 #[vR a1, vI 2, vI 3, vR y1, vI 2] [(.int c2), (.int 2), (.ref y1)])) rfl (by rw [hml]; rfl) (argsL := [(.ref y1), (.int 2), (.int c2)]) (rest := []) (lenOf pd_14 rfl) rfl (own_w rfl) (hb hby d24_20) (fun _ _ => ⟨rfl, rfl, (by decide : 1 + 0 ≤ _), (by decide : 6 + 0 ≤ _)⟩)
  dsimp only [Pt.U, Pt.locs, Pt.cells, Pt.slots] at X11 lq11 yq11 zq11 st11 hQ11
  subst lq11 yq11 zq11
  obtain ⟨rfl, N11q, K11q, G11_0⟩ := hQ11
  have N11 := Fr.app N8 N11q
  have K16 := K12.trans K11q (allS (Or.inr sz_y1) all0)
  have Vp11 : Arv Z T11.heap y1 ky1 .byte (6 : Int32) [(.int (own_u0 c0)), (.int (own_u1 c0)), (.int (own_u0 c1)), (.int (own_u1 c1)), (.int (own_u0 c2)), (.int (own_u1 c2))] (.int 0) := G11_0
  refine Go.on (B := T11.setTop (mkF m 26 #[vR a1, vI ((2 : Int32) + (1 : Int32)), vI 3, vR y1, vI 2] [])) (fun t k => XS.aloadN X8.here hx rfl (hb hby d24_17) rfl rfl (XS.iloadN X8.here hx rfl (hb hby d24_18) rfl (X8.caload hx (j := (2 : Int32)) (v := (.int c2)) Ar10.1 (State.isArrayOf_alike hZ.alike Ar10.2.1) Ar10.2.2 hin10 hat10 (g := (mkF m 19 #[vR a1, vI 2, vI 3, vR y1, vI 2] [(.int 2), (.ref a1), (.int 2), (.ref y1)])) rfl rfl (hb hby d24_19) _ (st11 _ (XS.iinc X11.here hx rfl (hb hby d24_23) rfl (l' := #[vR a1, vI ((2 : Int32) + (1 : Int32)), vI 3, vR y1, vI 2]) rfl k))))) ?_
  rw [show ((2 : Int32) + (1 : Int32)) = (3 : Int32) from by decide]
  refine Go.on (B := T11.setTop (mkF m 29 #[vR a1, vI 3, vI 3, vR y1, vI ((2 : Int32) + (1 : Int32))] [])) (fun t k => XS.iinc X11.here hx rfl (hb hby d24_26) rfl (l' := #[vR a1, vI 3, vI 3, vR y1, vI ((2 : Int32) + (1 : Int32))]) rfl k) ?_
  rw [show ((2 : Int32) + (1 : Int32)) = (3 : Int32) from by decide]
  have hc11_12 : ¬ ((3 : Int32) < (3 : Int32)) := by decide
  refine Go.on (B := T11.setTop (mkF m 33 #[vR a1, vI 3, vI 3, vR y1, vI 3] [(.ref y1)])) (fun t k => XS.goto X11.here hx rfl (pc0 := 29) (pc' := 8) rfl (hb hby d24_29) (by decide) (by decide) (XS.iload X11.here hx rfl (hb hby d24_8) rfl (XS.iloadN X11.here hx rfl (hb hby d24_10) rfl (XS.icmpYes X11.here hx rfl (pc0 := 11) (pc' := 32) rfl (hb hby d24_11) rfl (flt hc11_12).2.1 (by decide) (by decide) (XS.aloadN X11.here hx rfl (hb hby d24_32) rfl rfl k))))) ?_
  refine Go.fin X11 (v := some (.ref y1)) (own_nv Bd.returns) Bd.notSynchronized ?_ rfl ⟨⟨_, _, rfl, sz_y1, Vp11⟩, N11, K16⟩ (by decide) (by decide)
  exact fun _ hr => retOut X11 hx Bd.returns rfl (Or.inr (Or.inr (Or.inr (Or.inr ⟨rfl, rfl, rfl⟩)))) (hb hby d24_33) hr
theorem ef_rc5_3 (m : MethodId) (a1 : Addr) (a3 : Addr) : entryFrame m #[(.ref a1), (.int 0), (.ref a3), (.int 0), (.int 3)] 7 = mkF m 0 #[vR a1, vI 0, vR a3, vI 0, vI 3, .unset, .unset] [] := rfl
def Q_rc5_3 (Z : State) (a1 : Addr) (a3 : Addr) (kc k3 : ClassId) (c0 c1 c2 : Int32) (h0 : Heap) (n0 : Nat) (v : Option Value) (h : Heap) (L : List Loc) : Prop := ((v = some (.int 3) ∧ Arv Z h a3 k3 .byte (3 : Int32) [(.int (own_l c0)), (.int (own_l c1)), (.int (own_l c2))] (.int 0) ∧ ¬ ((255 : Int32) < c0) ∧ ¬ ((255 : Int32) < c1) ∧ ¬ ((255 : Int32) < c2)) ∨ (v = some (.int 0) ∧ (255 : Int32) < c0) ∨ (v = some (.int 1) ∧ (255 : Int32) < c1) ∨ (v = some (.int 2) ∧ (255 : Int32) < c2)) ∧ Fr n0 L ∧ Keep h0 h [a3]
theorem rc5_3 (l : Launch) (Z : State) (a0 : Array Value) (hw : ∀ d ∈ tables_1, d.before a0 Z = true) (ws : List Jvm.Cond) (a1 : Addr) (a3 : Addr) (kc k3 : ClassId) (c0 c1 c2 : Int32) (h0 : Heap) (n0 : Nat) (Z0 : n0 ≤ h0.size) (V1 : Arv Z h0 a1 kc .char (3 : Int32) [(.int c0), (.int c1), (.int c2)] (.int 0)) (V3 : Arv Z h0 a3 k3 .byte (3 : Int32) [(.int 0), (.int 0), (.int 0)] (.int 0)) (hne : a1 ≠ a3) (g3 : n0 ≤ a3) :
    MetFree l MN28 (head1 (Jvm.Cond.code MN28 jdk_52_method_21_code 7 (some .int) :: ws) (rK 0 0 0 0)) (fun a U => a = #[(.ref a1), (.int 0), (.ref a3), (.int 0), (.int 3)] ∧ Z.Warmed39 U.vm ∧ U.heap = h0) (fun _ _ _ _ _ => True) (fun _ U o U' => ∃ v L, o = .returned v ∧ Q_rc5_3 Z a1 a3 kc k3 c0 c1 c2 h0 n0 v U'.heap L ∧ FrameEnd U o U' L (rK 0 0 0 0).cells (rK 0 0 0 0).slots) := by
  refine MetFree.of_bodySF (plainFor_of_name pn_10) hisR ?_
  intro p e s m args below meth c sB Bd hml0 hP hK
  obtain ⟨rfl, hZ, hh⟩ := hP
  have hx := Bd.exec
  have hby := Bd.bytes
  have X0 : Stand p l e (rK 0 0 0 0) s m #[(.ref a1), (.int 0), (.ref a3), (.int 0), (.int 3)] below meth c sB [] 0 0 := Stand.of_body Bd
  have e0 : sB.heap = h0 := by rw [← hh, Bd.state]; rfl
  have N0 := Fr.nil n0
  change Go p.tables e below _ _
  have K0 := Keep.refl h0 [a3]
  refine Go.on (B := sB.setTop (mkF m 0 #[vR a1, vI 0, vR a3, vI 0, vI 3, .unset, .unset] [])) (fun t k => castTop (ef_rc5_3 m a1 a3) k) ?_
  have hc7_2 : (0 : Int32) < (3 : Int32) := by decide
  refine Go.on (B := sB.setTop (mkF m 11 #[vR a1, vI 0, vR a3, vI 0, vI 3, vI 0, .unset] [(.ref a1)])) (fun t k => XS.iconst X0.here hx rfl (hb hby d16_0) (XS.istore X0.here hx rfl (hb hby d16_1) rfl (l' := #[vR a1, vI 0, vR a3, vI 0, vI 3, vI 0, .unset]) rfl (XS.iload X0.here hx rfl (hb hby d16_3) rfl (XS.iload X0.here hx rfl (hb hby d16_5) rfl (XS.icmpNo X0.here hx rfl (hb hby d16_7) rfl (tlt hc7_2).2.1 (XS.aloadN X0.here hx rfl (hb hby d16_10) rfl rfl k)))))) ?_
  obtain ⟨cl3, Ar3, qq3, Sz3, Ng3, Hh3, Gg3⟩ := id V1
  have hin3 : ¬ ((0 : Int32) < 0 ∨ cl3.slots.size ≤ ((0 : Int32)).toNatClampNeg) := inb_of Sz3 ⟨by decide, by decide⟩
  have hat3 : cl3.slots[((0 : Int32)).toNatClampNeg]? = some (.int c0) := Hh3.at hin3 rfl
  refine Go.on (B := sB.setTop (mkF m 20 #[vR a1, vI 0, vR a3, vI 0, vI 3, vI 0, vI c0] [(.int 255), (.int c0)])) (fun t k => XS.iloadN X0.here hx rfl (hb hby d16_11) rfl (X0.caload hx (j := (0 : Int32)) (v := (.int c0)) (by rw [e0]; exact Ar3.1) (State.isArrayOf_alike hZ.alike Ar3.2.1) Ar3.2.2 hin3 hat3 (g := (mkF m 12 #[vR a1, vI 0, vR a3, vI 0, vI 3, vI 0, .unset] [(.int 0), (.ref a1)])) rfl rfl (hb hby d16_12) _ (XS.istore X0.here hx rfl (hb hby d16_13) rfl (l' := #[vR a1, vI 0, vR a3, vI 0, vI 3, vI 0, vI c0]) rfl (XS.iload X0.here hx rfl (hb hby d16_15) rfl (XS.sipush X0.here hx rfl (hb hby d16_17) k))))) ?_
  by_cases hc20_5 : (255 : Int32) < c0
  · refine Go.on (B := sB.setTop (mkF m 25 #[vR a1, vI 0, vR a3, vI 0, vI 3, vI 0, vI c0] [(.int 0)])) (fun t k => XS.icmpNo X0.here hx rfl (hb hby d16_20) rfl (tlt hc20_5).2.2.2 (XS.iload X0.here hx rfl (hb hby d16_23) rfl k)) ?_
    refine Go.fin X0 (v := some (.int 0)) (own_nv Bd.returns) Bd.notSynchronized ?_ e0 ⟨(Or.inr (Or.inl ⟨rfl, hc20_5⟩)), N0, K0⟩ (by decide) (by decide)
    exact fun _ hr => retI X0 hx Bd.returns (hb hby d16_25) hr
  · obtain ⟨cl6, Ar6, qq6, Sz6, Ng6, Hh6, Gg6⟩ := id V3
    have hin6 : ¬ ((0 : Int32) < 0 ∨ cl6.slots.size ≤ ((0 : Int32)).toNatClampNeg) := inb_of Sz6 ⟨by decide, by decide⟩
    obtain ⟨T6, h6, X6, e6, W6, st6⟩ := stB X0 hx hZ e0 Ar6 (j := (0 : Int32)) hin6 (g := (mkF m 31 #[vR a1, vI 0, vR a3, vI 0, vI 3, vI 0, vI c0] [(.int (c0.toInt8.toInt32)), (.int 0), (.ref a3)])) rfl rfl (hb hby d16_31)
    have V6 : Arv Z h6 a3 k3 .byte (3 : Int32) [(.int ((c0.toInt8.toInt32).toInt8.toInt32)), (.int 0), (.int 0)] (.int 0) := Arv.set Ar6 qq6 Sz6 Ng6 Hh6 Gg6 (fits_nar_byte _) W6 0 rfl (Nat.le_of_ble_eq_true rfl)
    have N6 := Fr.snoc X6 N0 g3
    have f1 := V1.other W6 hne
    have K3 := K0.wr W6 (Or.inl (List.mem_of_getElem? (i := 0) rfl))
    refine Go.on (B := T6.setTop (mkF m 32 #[vR a1, vI 0, vR a3, vI 0, vI 3, vI 0, vI c0] [])) (fun t k => XS.icmpYes X0.here hx rfl (pc0 := 20) (pc' := 26) rfl (hb hby d16_20) rfl (flt hc20_5).2.2.2 (by decide) (by decide) (XS.aloadN X0.here hx rfl (hb hby d16_26) rfl rfl (XS.iloadN X0.here hx rfl (hb hby d16_27) rfl (XS.iload X0.here hx rfl (hb hby d16_28) rfl (XS.i2b X0.here hx rfl (hb hby d16_30) rfl (st6 _ k)))))) ?_
    refine Go.on (B := T6.setTop (mkF m 35 #[vR a1, vI ((0 : Int32) + (1 : Int32)), vR a3, vI 0, vI 3, vI 0, vI c0] [])) (fun t k => XS.iinc X6.here hx rfl (hb hby d16_32) rfl (l' := #[vR a1, vI ((0 : Int32) + (1 : Int32)), vR a3, vI 0, vI 3, vI 0, vI c0]) rfl k) ?_
    rw [show ((0 : Int32) + (1 : Int32)) = (1 : Int32) from by decide]
    refine Go.on (B := T6.setTop (mkF m 38 #[vR a1, vI 1, vR a3, vI ((0 : Int32) + (1 : Int32)), vI 3, vI 0, vI c0] [])) (fun t k => XS.iinc X6.here hx rfl (hb hby d16_35) rfl (l' := #[vR a1, vI 1, vR a3, vI ((0 : Int32) + (1 : Int32)), vI 3, vI 0, vI c0]) rfl k) ?_
    rw [show ((0 : Int32) + (1 : Int32)) = (1 : Int32) from by decide]
    refine Go.on (B := T6.setTop (mkF m 41 #[vR a1, vI 1, vR a3, vI 1, vI 3, vI ((0 : Int32) + (1 : Int32)), vI c0] [])) (fun t k => XS.iinc X6.here hx rfl (hb hby d16_38) rfl (l' := #[vR a1, vI 1, vR a3, vI 1, vI 3, vI ((0 : Int32) + (1 : Int32)), vI c0]) rfl k) ?_
    rw [show ((0 : Int32) + (1 : Int32)) = (1 : Int32) from by decide]
    have hc7_7 : (1 : Int32) < (3 : Int32) := by decide
    refine Go.on (B := T6.setTop (mkF m 12 #[vR a1, vI 1, vR a3, vI 1, vI 3, vI 1, vI c0] [(.int 1), (.ref a1)])) (fun t k => XS.goto X6.here hx rfl (pc0 := 41) (pc' := 3) rfl (hb hby d16_41) (by decide) (by decide) (XS.iload X6.here hx rfl (hb hby d16_3) rfl (XS.iload X6.here hx rfl (hb hby d16_5) rfl (XS.icmpNo X6.here hx rfl (hb hby d16_7) rfl (tlt hc7_7).2.1 (XS.aloadN X6.here hx rfl (hb hby d16_10) rfl rfl (XS.iloadN X6.here hx rfl (hb hby d16_11) rfl k)))))) ?_
    obtain ⟨cl8, Ar8, qq8, Sz8, Ng8, Hh8, Gg8⟩ := id f1
    have hin8 : ¬ ((1 : Int32) < 0 ∨ cl8.slots.size ≤ ((1 : Int32)).toNatClampNeg) := inb_of Sz8 ⟨by decide, by decide⟩
    have hat8 : cl8.slots[((1 : Int32)).toNatClampNeg]? = some (.int c1) := Hh8.at hin8 rfl
    refine Go.on (B := T6.setTop (mkF m 20 #[vR a1, vI 1, vR a3, vI 1, vI 3, vI 1, vI c1] [(.int 255), (.int c1)])) (fun t k => X6.caload hx (j := (1 : Int32)) (v := (.int c1)) (by rw [e6]; exact Ar8.1) (State.isArrayOf_alike hZ.alike Ar8.2.1) Ar8.2.2 hin8 hat8 (g := (mkF m 12 #[vR a1, vI 1, vR a3, vI 1, vI 3, vI 1, vI c0] [(.int 1), (.ref a1)])) rfl rfl (hb hby d16_12) _ (XS.istore X6.here hx rfl (hb hby d16_13) rfl (l' := #[vR a1, vI 1, vR a3, vI 1, vI 3, vI 1, vI c1]) rfl (XS.iload X6.here hx rfl (hb hby d16_15) rfl (XS.sipush X6.here hx rfl (hb hby d16_17) k)))) ?_
    by_cases hc20_10 : (255 : Int32) < c1
    · refine Go.on (B := T6.setTop (mkF m 25 #[vR a1, vI 1, vR a3, vI 1, vI 3, vI 1, vI c1] [(.int 1)])) (fun t k => XS.icmpNo X6.here hx rfl (hb hby d16_20) rfl (tlt hc20_10).2.2.2 (XS.iload X6.here hx rfl (hb hby d16_23) rfl k)) ?_
      refine Go.fin X6 (v := some (.int 1)) (own_nv Bd.returns) Bd.notSynchronized ?_ e6 ⟨(Or.inr (Or.inr (Or.inl ⟨rfl, hc20_10⟩))), N6, K3⟩ (by decide) (by decide)
      exact fun _ hr => retI X6 hx Bd.returns (hb hby d16_25) hr
    · obtain ⟨cl11, Ar11, qq11, Sz11, Ng11, Hh11, Gg11⟩ := id V6
      have hin11 : ¬ ((1 : Int32) < 0 ∨ cl11.slots.size ≤ ((1 : Int32)).toNatClampNeg) := inb_of Sz11 ⟨by decide, by decide⟩
      obtain ⟨T11, h11, X11, e11, W11, st11⟩ := stB X6 hx hZ e6 Ar11 (j := (1 : Int32)) hin11 (g := (mkF m 31 #[vR a1, vI 1, vR a3, vI 1, vI 3, vI 1, vI c1] [(.int (c1.toInt8.toInt32)), (.int 1), (.ref a3)])) rfl rfl (hb hby d16_31)
      have V11 : Arv Z h11 a3 k3 .byte (3 : Int32) [(.int ((c0.toInt8.toInt32).toInt8.toInt32)), (.int ((c1.toInt8.toInt32).toInt8.toInt32)), (.int 0)] (.int 0) := Arv.set Ar11 qq11 Sz11 Ng11 Hh11 Gg11 (fits_nar_byte _) W11 1 rfl (Nat.le_of_ble_eq_true rfl)
      have N11 := Fr.snoc X11 N6 g3
      have f4 := f1.other W11 hne
      have K6 := K3.wr W11 (Or.inl (List.mem_of_getElem? (i := 0) rfl))
      refine Go.on (B := T11.setTop (mkF m 32 #[vR a1, vI 1, vR a3, vI 1, vI 3, vI 1, vI c1] [])) (fun t k => XS.icmpYes X6.here hx rfl (pc0 := 20) (pc' := 26) rfl (hb hby d16_20) rfl (flt hc20_10).2.2.2 (by decide) (by decide) (XS.aloadN X6.here hx rfl (hb hby d16_26) rfl rfl (XS.iloadN X6.here hx rfl (hb hby d16_27) rfl (XS.iload X6.here hx rfl (hb hby d16_28) rfl (XS.i2b X6.here hx rfl (hb hby d16_30) rfl (st11 _ k)))))) ?_
      refine Go.on (B := T11.setTop (mkF m 35 #[vR a1, vI ((1 : Int32) + (1 : Int32)), vR a3, vI 1, vI 3, vI 1, vI c1] [])) (fun t k => XS.iinc X11.here hx rfl (hb hby d16_32) rfl (l' := #[vR a1, vI ((1 : Int32) + (1 : Int32)), vR a3, vI 1, vI 3, vI 1, vI c1]) rfl k) ?_
      rw [show ((1 : Int32) + (1 : Int32)) = (2 : Int32) from by decide]
      refine Go.on (B := T11.setTop (mkF m 38 #[vR a1, vI 2, vR a3, vI ((1 : Int32) + (1 : Int32)), vI 3, vI 1, vI c1] [])) (fun t k => XS.iinc X11.here hx rfl (hb hby d16_35) rfl (l' := #[vR a1, vI 2, vR a3, vI ((1 : Int32) + (1 : Int32)), vI 3, vI 1, vI c1]) rfl k) ?_
      rw [show ((1 : Int32) + (1 : Int32)) = (2 : Int32) from by decide]
      refine Go.on (B := T11.setTop (mkF m 41 #[vR a1, vI 2, vR a3, vI 2, vI 3, vI ((1 : Int32) + (1 : Int32)), vI c1] [])) (fun t k => XS.iinc X11.here hx rfl (hb hby d16_38) rfl (l' := #[vR a1, vI 2, vR a3, vI 2, vI 3, vI ((1 : Int32) + (1 : Int32)), vI c1]) rfl k) ?_
      rw [show ((1 : Int32) + (1 : Int32)) = (2 : Int32) from by decide]
      have hc7_12 : (2 : Int32) < (3 : Int32) := by decide
      refine Go.on (B := T11.setTop (mkF m 12 #[vR a1, vI 2, vR a3, vI 2, vI 3, vI 2, vI c1] [(.int 2), (.ref a1)])) (fun t k => XS.goto X11.here hx rfl (pc0 := 41) (pc' := 3) rfl (hb hby d16_41) (by decide) (by decide) (XS.iload X11.here hx rfl (hb hby d16_3) rfl (XS.iload X11.here hx rfl (hb hby d16_5) rfl (XS.icmpNo X11.here hx rfl (hb hby d16_7) rfl (tlt hc7_12).2.1 (XS.aloadN X11.here hx rfl (hb hby d16_10) rfl rfl (XS.iloadN X11.here hx rfl (hb hby d16_11) rfl k)))))) ?_
      obtain ⟨cl13, Ar13, qq13, Sz13, Ng13, Hh13, Gg13⟩ := id f4
      have hin13 : ¬ ((2 : Int32) < 0 ∨ cl13.slots.size ≤ ((2 : Int32)).toNatClampNeg) := inb_of Sz13 ⟨by decide, by decide⟩
      have hat13 : cl13.slots[((2 : Int32)).toNatClampNeg]? = some (.int c2) := Hh13.at hin13 rfl
      refine Go.on (B := T11.setTop (mkF m 20 #[vR a1, vI 2, vR a3, vI 2, vI 3, vI 2, vI c2] [(.int 255), (.int c2)])) (fun t k => X11.caload hx (j := (2 : Int32)) (v := (.int c2)) (by rw [e11]; exact Ar13.1) (State.isArrayOf_alike hZ.alike Ar13.2.1) Ar13.2.2 hin13 hat13 (g := (mkF m 12 #[vR a1, vI 2, vR a3, vI 2, vI 3, vI 2, vI c1] [(.int 2), (.ref a1)])) rfl rfl (hb hby d16_12) _ (XS.istore X11.here hx rfl (hb hby d16_13) rfl (l' := #[vR a1, vI 2, vR a3, vI 2, vI 3, vI 2, vI c2]) rfl (XS.iload X11.here hx rfl (hb hby d16_15) rfl (XS.sipush X11.here hx rfl (hb hby d16_17) k)))) ?_
      by_cases hc20_15 : (255 : Int32) < c2
      · refine Go.on (B := T11.setTop (mkF m 25 #[vR a1, vI 2, vR a3, vI 2, vI 3, vI 2, vI c2] [(.int 2)])) (fun t k => XS.icmpNo X11.here hx rfl (hb hby d16_20) rfl (tlt hc20_15).2.2.2 (XS.iload X11.here hx rfl (hb hby d16_23) rfl k)) ?_
        refine Go.fin X11 (v := some (.int 2)) (own_nv Bd.returns) Bd.notSynchronized ?_ e11 ⟨(Or.inr (Or.inr (Or.inr ⟨rfl, hc20_15⟩))), N11, K6⟩ (by decide) (by decide)
        exact fun _ hr => retI X11 hx Bd.returns (hb hby d16_25) hr
      · obtain ⟨cl16, Ar16, qq16, Sz16, Ng16, Hh16, Gg16⟩ := id V11
        have hin16 : ¬ ((2 : Int32) < 0 ∨ cl16.slots.size ≤ ((2 : Int32)).toNatClampNeg) := inb_of Sz16 ⟨by decide, by decide⟩
        obtain ⟨T16, h16, X16, e16, W16, st16⟩ := stB X11 hx hZ e11 Ar16 (j := (2 : Int32)) hin16 (g := (mkF m 31 #[vR a1, vI 2, vR a3, vI 2, vI 3, vI 2, vI c2] [(.int (c2.toInt8.toInt32)), (.int 2), (.ref a3)])) rfl rfl (hb hby d16_31)
        have V16 : Arv Z h16 a3 k3 .byte (3 : Int32) [(.int ((c0.toInt8.toInt32).toInt8.toInt32)), (.int ((c1.toInt8.toInt32).toInt8.toInt32)), (.int ((c2.toInt8.toInt32).toInt8.toInt32))] (.int 0) := Arv.set Ar16 qq16 Sz16 Ng16 Hh16 Gg16 (fits_nar_byte _) W16 2 rfl (Nat.le_of_ble_eq_true rfl)
        have N16 := Fr.snoc X16 N11 g3
        have K9 := K6.wr W16 (Or.inl (List.mem_of_getElem? (i := 0) rfl))
        refine Go.on (B := T16.setTop (mkF m 32 #[vR a1, vI 2, vR a3, vI 2, vI 3, vI 2, vI c2] [])) (fun t k => XS.icmpYes X11.here hx rfl (pc0 := 20) (pc' := 26) rfl (hb hby d16_20) rfl (flt hc20_15).2.2.2 (by decide) (by decide) (XS.aloadN X11.here hx rfl (hb hby d16_26) rfl rfl (XS.iloadN X11.here hx rfl (hb hby d16_27) rfl (XS.iload X11.here hx rfl (hb hby d16_28) rfl (XS.i2b X11.here hx rfl (hb hby d16_30) rfl (st16 _ k)))))) ?_
        refine Go.on (B := T16.setTop (mkF m 35 #[vR a1, vI ((2 : Int32) + (1 : Int32)), vR a3, vI 2, vI 3, vI 2, vI c2] [])) (fun t k => XS.iinc X16.here hx rfl (hb hby d16_32) rfl (l' := #[vR a1, vI ((2 : Int32) + (1 : Int32)), vR a3, vI 2, vI 3, vI 2, vI c2]) rfl k) ?_
        rw [show ((2 : Int32) + (1 : Int32)) = (3 : Int32) from by decide]
        refine Go.on (B := T16.setTop (mkF m 38 #[vR a1, vI 3, vR a3, vI ((2 : Int32) + (1 : Int32)), vI 3, vI 2, vI c2] [])) (fun t k => XS.iinc X16.here hx rfl (hb hby d16_35) rfl (l' := #[vR a1, vI 3, vR a3, vI ((2 : Int32) + (1 : Int32)), vI 3, vI 2, vI c2]) rfl k) ?_
        rw [show ((2 : Int32) + (1 : Int32)) = (3 : Int32) from by decide]
        refine Go.on (B := T16.setTop (mkF m 41 #[vR a1, vI 3, vR a3, vI 3, vI 3, vI ((2 : Int32) + (1 : Int32)), vI c2] [])) (fun t k => XS.iinc X16.here hx rfl (hb hby d16_38) rfl (l' := #[vR a1, vI 3, vR a3, vI 3, vI 3, vI ((2 : Int32) + (1 : Int32)), vI c2]) rfl k) ?_
        rw [show ((2 : Int32) + (1 : Int32)) = (3 : Int32) from by decide]
        have hc7_17 : ¬ ((3 : Int32) < (3 : Int32)) := by decide
        refine Go.on (B := T16.setTop (mkF m 46 #[vR a1, vI 3, vR a3, vI 3, vI 3, vI 3, vI c2] [(.int 3)])) (fun t k => XS.goto X16.here hx rfl (pc0 := 41) (pc' := 3) rfl (hb hby d16_41) (by decide) (by decide) (XS.iload X16.here hx rfl (hb hby d16_3) rfl (XS.iload X16.here hx rfl (hb hby d16_5) rfl (XS.icmpYes X16.here hx rfl (pc0 := 7) (pc' := 44) rfl (hb hby d16_7) rfl (flt hc7_17).2.1 (by decide) (by decide) (XS.iload X16.here hx rfl (hb hby d16_44) rfl k))))) ?_
        refine Go.fin X16 (v := some (.int 3)) (own_nv Bd.returns) Bd.notSynchronized ?_ e16 ⟨Or.inl ⟨rfl, V16, hc20_5, hc20_10, hc20_15⟩, N16, K9⟩ (by decide) (by decide)
        exact fun _ hr => retI X16 hx Bd.returns (hb hby d16_46) hr
theorem ef_rc3_3 (m : MethodId) (a1 : Addr) : entryFrame m #[(.ref a1), (.int 0), (.int 3)] 6 = mkF m 0 #[vR a1, vI 0, vI 3, .unset, .unset, .unset] [] := rfl
def Q_rc3_3 (Z : State) (a1 : Addr) (kc : ClassId) (c0 c1 c2 : Int32) (h0 : Heap) (n0 : Nat) (v : Option Value) (h : Heap) (L : List Loc) : Prop := (∃ (b : Addr) (kb : ClassId), v = some (.ref b) ∧ h0.size ≤ b ∧ ((Arv Z h b kb .byte (3 : Int32) [(.int (own_l c0)), (.int (own_l c1)), (.int (own_l c2))] (.int 0) ∧ ¬ ((255 : Int32) < c0) ∧ ¬ ((255 : Int32) < c1) ∧ ¬ ((255 : Int32) < c2)) ∨ (Arv Z h b kb .byte (6 : Int32) [(.int (own_u0 c0)), (.int (own_u1 c0)), (.int (own_u0 c1)), (.int (own_u1 c1)), (.int (own_u0 c2)), (.int (own_u1 c2))] (.int 0)))) ∧ Fr n0 L ∧ Keep h0 h []
theorem rc3_3 (l : Launch) (Z : State) (a0 : Array Value) (hw : ∀ d ∈ tables_1, d.before a0 Z = true) (ws : List Jvm.Cond) (a1 : Addr) (kc : ClassId) (c0 c1 c2 : Int32) (h0 : Heap) (n0 : Nat) (Z0 : n0 ≤ h0.size) (V1 : Arv Z h0 a1 kc .char (3 : Int32) [(.int c0), (.int c1), (.int c2)] (.int 0)) (hc0 : 0 ≤ c0.toInt ∧ c0.toInt ≤ 65535) (hc1 : 0 ≤ c1.toInt ∧ c1.toInt ≤ 65535) (hc2 : 0 ≤ c2.toInt ∧ c2.toInt ≤ 65535) (O0 : Old Z n0 h0) (S_ad : own_S_ad Z) (S_hi : own_S_hi Z) (S_lo : own_S_lo Z) :
    MetFree l MN29 (head1 (Jvm.Cond.code MN29 jdk_52_method_16_code 6 (some (.array .byte)) :: ws) (rK 3 2 9 60)) (fun a U => a = #[(.ref a1), (.int 0), (.int 3)] ∧ Z.Warmed39 U.vm ∧ U.heap = h0) (fun _ _ _ _ _ => True) (fun _ U o U' => ∃ v L, o = .returned v ∧ Q_rc3_3 Z a1 kc c0 c1 c2 h0 n0 v U'.heap L ∧ FrameEnd U o U' L (rK 3 2 9 60).cells (rK 3 2 9 60).slots) := by
  refine MetFree.of_bodySF (plainFor_of_name pn_10) hisR ?_
  intro p e s m args below meth c sB Bd hml0 hP hK
  obtain ⟨rfl, hZ, hh⟩ := hP
  have hx := Bd.exec
  have hby := Bd.bytes
  have hml : c.maxLocals = 6 := hml0
  have hown : s.vm.findClass "java/lang/StringUTF16" = some m.cls := findClass_of_methodNamed Bd.named
  have X0 : Stand p l e (rK 3 2 9 60) s m #[(.ref a1), (.int 0), (.int 3)] below meth c sB [] 0 0 := Stand.of_body Bd
  have e0 : sB.heap = h0 := by rw [← hh, Bd.state]; rfl
  have N0 := Fr.nil n0
  change Go p.tables e below _ _
  have K0 := Keep.refl h0 []
  refine Go.on (B := sB.setTop (mkF m 0 #[vR a1, vI 0, vI 3, .unset, .unset, .unset] [])) (fun t k => castTop (ef_rc3_3 m a1) k) ?_
  obtain ⟨T1, h1, kq1, X1, e1, Xe1, A1, st1⟩ := newP X0 hx hZ (gw hw 20 rfl) e0 (g := (mkF m 1 #[vR a1, vI 0, vI 3, .unset, .unset, .unset] [(.int 3)])) rfl (hb hby d15_1) rfl (by decide) (cap := 3) (by decide) (by decide) (by decide) (by decide)
  obtain ⟨b1, gq1⟩ : ∃ z, z = h0.size := ⟨_, rfl⟩
  rw [← gq1] at A1 st1
  have ge_b1 : n0 ≤ b1 := Nat.le_trans Z0 (Nat.le_of_eq gq1.symm)
  have sz_b1 : h0.size ≤ b1 := Nat.le_trans K0.1 (Nat.le_of_eq gq1.symm)
  have ne_a1_b1 : a1 ≠ b1 := Nat.ne_of_lt (Nat.lt_of_lt_of_le V1.lt (Nat.le_of_eq gq1.symm))
  have f1 := V1.ext Xe1
  have O_2 := O0.ext Xe1
  have Zs3 := Nat.le_trans Z0 Xe1.1
  have K4 := K0.ext Xe1
  have V1 : Arv Z h1 b1 kq1 .byte (3 : Int32) [(.int 0), (.int 0), (.int 0)] (.int 0) := (Arv.new A1 (by decide)).pad (pad_rep [] (.int 0) 3)
  refine Go.on (B := T1.setTop (mkF m 7 #[vR a1, vI 0, vI 3, vR b1, .unset, .unset] [(.ref b1), (.int 0), (.ref a1)])) (fun t k => XS.iloadN X0.here hx rfl (hb hby d15_0) rfl (st1 _ (XS.astoreN X1.here hx rfl (hb hby d15_3) rfl rfl (l' := #[vR a1, vI 0, vI 3, vR b1, .unset, .unset]) rfl (XS.aloadN X1.here hx rfl (hb hby d15_4) rfl rfl (XS.iloadN X1.here hx rfl (hb hby d15_5) rfl (XS.aloadN X1.here hx rfl (hb hby d15_6) rfl rfl k)))))) ?_
  obtain ⟨_, _, ⟨T2, L2, k2, n2⟩, -, X2, ⟨Lc2, hQ2, lq2, yq2, zq2⟩, st2⟩ := Jvm.LawKit.callS X1 hx (y := MN28) hown (mg hZ hw 85 rfl) (mg hZ hw 86 rfl) (mg hZ hw 83 rfl) (mg hZ hw 87 rfl) (by decide) (backOf (W := 0) (rc5_3 l Z a0 hw [] a1 b1 kc kq1 c0 c1 c2 h1 n0 Zs3 f1 V1 ne_a1_b1 ge_b1) hZ (gw hw 87 rfl) (gw hw 83 rfl) (by decide) (by decide)) (g := (mkF m 9 #[vR a1, vI 0, vI 3, vR b1, .unset, .unset] [(.int 3), (.int 0), (.ref b1), (.int 0), (.ref a1)])) rfl (by rw [hml]; rfl) (argsL := [(.ref a1), (.int 0), (.ref b1), (.int 0), (.int 3)]) (rest := []) (lenOf pd_15 rfl) rfl (own_w rfl) (hb hby d15_9) (fun _ _ => ⟨rfl, e1, (by decide : 1 + 0 ≤ _), (by decide : 3 + 0 ≤ _)⟩)
  dsimp only [Pt.U, Pt.locs, Pt.cells, Pt.slots] at X2 lq2 yq2 zq2 st2 hQ2
  subst lq2 yq2 zq2
  refine Go.on (B := T1.setTop (mkF m 9 #[vR a1, vI 0, vI 3, vR b1, .unset, .unset] [(.int 3), (.int 0), (.ref b1), (.int 0), (.ref a1)])) (fun t k => XS.iconst X1.here hx rfl (hb hby d15_7) (XS.iloadN X1.here hx rfl (hb hby d15_8) rfl k)) ?_
  rcases hQ2 with ⟨⟨rfl, V52, hx2_c0, hx2_c1, hx2_c2⟩ | ⟨rfl, hx2_c0⟩ | ⟨rfl, hx2_c1⟩ | ⟨rfl, hx2_c2⟩, N2q, K2q⟩
  · have N2 := Fr.app N0 N2q
    have K8 := K4.trans K2q (allS (Or.inr sz_b1) all0)
    have hc17_4 : (3 : Int32) = (3 : Int32) := by decide
    refine Go.on (B := T2.setTop (mkF m 58 #[vR a1, vI 0, vI 3, vR b1, vI 3, .unset] [(.ref b1)])) (fun t k => st2 _ (XS.istore X2.here hx rfl (hb hby d15_12) rfl (l' := #[vR a1, vI 0, vI 3, vR b1, vI 3, .unset]) rfl (XS.iload X2.here hx rfl (hb hby d15_14) rfl (XS.iloadN X2.here hx rfl (hb hby d15_16) rfl (XS.icmpYes X2.here hx rfl (pc0 := 17) (pc' := 57) rfl (hb hby d15_17) rfl (teq hc17_4).1 (by decide) (by decide) (XS.aloadN X2.here hx rfl (hb hby d15_57) rfl rfl k)))))) ?_
    refine Go.fin X2 (v := some (.ref b1)) (own_nv Bd.returns) Bd.notSynchronized ?_ rfl ⟨⟨_, _, rfl, sz_b1, Or.inl ⟨V52, hx2_c0, hx2_c1, hx2_c2⟩⟩, N2, K8⟩ (by decide) (by decide)
    exact fun _ hr => retOut X2 hx Bd.returns rfl (Or.inr (Or.inr (Or.inr (Or.inr ⟨rfl, rfl, rfl⟩)))) (hb hby d15_58) hr
  · have N2 := Fr.app N0 N2q
    have f9 := f1.keep K2q (ninS ne_a1_b1 nin0)
    have O_10 := O_2.keep K2q (allS ge_b1 all0)
    have Zs11 := Nat.le_trans Zs3 K2q.1
    have K12 := K4.trans K2q (allS (Or.inr sz_b1) all0)
    have hc17_6 : ¬ ((0 : Int32) = (3 : Int32)) := by decide
    refine Go.on (B := T2.setTop (mkF m 21 #[vR a1, vI 0, vI 3, vR b1, vI 0, .unset] [(.ref a1)])) (fun t k => st2 _ (XS.istore X2.here hx rfl (hb hby d15_12) rfl (l' := #[vR a1, vI 0, vI 3, vR b1, vI 0, .unset]) rfl (XS.iload X2.here hx rfl (hb hby d15_14) rfl (XS.iloadN X2.here hx rfl (hb hby d15_16) rfl (XS.icmpNo X2.here hx rfl (hb hby d15_17) rfl (feq hc17_6).1 (XS.aloadN X2.here hx rfl (hb hby d15_20) rfl rfl k)))))) ?_
    obtain ⟨_, _, ⟨T7, L7, k7, n7⟩, -, X7, ⟨Lc7, hQ7, lq7, yq7, zq7⟩, st7⟩ := Jvm.LawKit.callS X2 hx (y := MN27) hown (mg hZ hw 115 rfl) (mg hZ hw 116 rfl) (mg hZ hw 83 rfl) (mg hZ hw 117 rfl) (by decide) (backOf (W := 0) (rtb_3 l Z a0 hw [] a1 kc c0 c1 c2 T2.heap n0 Zs11 f9 O_10 S_ad S_hi S_lo) hZ (gw hw 117 rfl) (gw hw 83 rfl) (by decide) (by decide)) (g := (mkF m 23 #[vR a1, vI 0, vI 3, vR b1, vI 0, .unset] [(.int 3), (.int 0), (.ref a1)])) rfl (by rw [hml]; rfl) (argsL := [(.ref a1), (.int 0), (.int 3)]) (rest := []) (lenOf pd_16 rfl) rfl (own_w rfl) (hb hby d15_23) (fun _ _ => ⟨rfl, rfl, (by decide : 1 + 1 ≤ _), (by decide : 3 + 6 ≤ _)⟩)
    dsimp only [Pt.U, Pt.locs, Pt.cells, Pt.slots] at X7 lq7 yq7 zq7 st7 hQ7
    subst lq7 yq7 zq7
    obtain ⟨⟨y7, ky7, rfl, sx7, Vy7⟩, N7q, K7q⟩ := hQ7
    have N7 := Fr.app N2 N7q
    have sz_y7 : h0.size ≤ y7 := Nat.le_trans K12.1 sx7
    have O_14 := O_10.keep K7q all0
    have Zs15 := Nat.le_trans Zs11 K7q.1
    have K16 := K12.trans K7q all0
    refine Go.on (B := T7.setTop (mkF m 32 #[vR a1, vI 0, vI 3, vR b1, vI 0, vR y7] [(.int 0), (.ref y7)])) (fun t k => XS.iloadN X2.here hx rfl (hb hby d15_21) rfl (XS.iloadN X2.here hx rfl (hb hby d15_22) rfl (st7 _ (XS.astore X7.here hx rfl (hb hby d15_26) rfl rfl (l' := #[vR a1, vI 0, vI 3, vR b1, vI 0, vR y7]) rfl (XS.aload X7.here hx rfl (hb hby d15_28) rfl rfl (XS.iload X7.here hx rfl (hb hby d15_30) rfl k)))))) ?_
    obtain ⟨_, _, ⟨T8, L8, k8, n8⟩, -, X8, ⟨Lc8, hQ8, lq8, yq8, zq8⟩, st8⟩ := Jvm.LawKit.callS X7 hx (y := MN5) hown (mg hZ hw 131 rfl) (mg hZ hw 132 rfl) (mg hZ hw 83 rfl) (mg hZ hw 133 rfl) (by decide) (backOf (W := 0) (rgc l Z a0 hw [] y7 (0 : Int32) ky7 (6 : Int32) [(.int (own_u0 c0)), (.int (own_u1 c0)), (.int (own_u0 c1)), (.int (own_u1 c1)), (.int (own_u0 c2)), (.int (own_u1 c2))] (own_u0 c0) (own_u1 c0) c0 T7.heap n0 Zs15 Vy7 ⟨by decide, by decide⟩ rfl ⟨by decide, by decide⟩ rfl (own_utf c0 hc0) O_14 S_ad S_hi S_lo) hZ (gw hw 133 rfl) (gw hw 83 rfl) (by decide) (by decide)) (g := (mkF m 32 #[vR a1, vI 0, vI 3, vR b1, vI 0, vR y7] [(.int 0), (.ref y7)])) rfl (by rw [hml]; rfl) (argsL := [(.ref y7), (.int 0)]) (rest := []) (lenOf pd_4 rfl) rfl (own_w rfl) (hb hby d15_32) (fun _ _ => ⟨rfl, rfl, (by decide : 2 + 0 ≤ _), (by decide : 9 + 0 ≤ _)⟩)
    dsimp only [Pt.U, Pt.locs, Pt.cells, Pt.slots] at X8 lq8 yq8 zq8 st8 hQ8
    subst lq8 yq8 zq8
    obtain ⟨rfl, N8q, e8q⟩ := hQ8
    have N8 := Fr.app N7 N8q
    have hc38_9 : (255 : Int32) < c0 := hx2_c0
    refine Go.on (B := T8.setTop (mkF m 56 #[vR a1, vI 0, vI 3, vR b1, vI 0, vR y7] [(.ref y7)])) (fun t k => st8 _ (XS.sipush X8.here hx rfl (hb hby d15_35) (XS.icmpYes X8.here hx rfl (pc0 := 38) (pc' := 54) rfl (hb hby d15_38) rfl (tlt hc38_9).2.2.1 (by decide) (by decide) (XS.aload X8.here hx rfl (hb hby d15_54) rfl rfl k)))) ?_
    refine Go.fin X8 (v := some (.ref y7)) (own_nv Bd.returns) Bd.notSynchronized ?_ e8q ⟨⟨_, _, rfl, sz_y7, Or.inr Vy7⟩, N8, K16⟩ (by decide) (by decide)
    exact fun _ hr => retOut X8 hx Bd.returns rfl (Or.inr (Or.inr (Or.inr (Or.inr ⟨rfl, rfl, rfl⟩)))) (hb hby d15_56) hr
  · have N2 := Fr.app N0 N2q
    have f17 := f1.keep K2q (ninS ne_a1_b1 nin0)
    have O_18 := O_2.keep K2q (allS ge_b1 all0)
    have Zs19 := Nat.le_trans Zs3 K2q.1
    have K20 := K4.trans K2q (allS (Or.inr sz_b1) all0)
    have hc17_11 : ¬ ((1 : Int32) = (3 : Int32)) := by decide
    refine Go.on (B := T2.setTop (mkF m 21 #[vR a1, vI 0, vI 3, vR b1, vI 1, .unset] [(.ref a1)])) (fun t k => st2 _ (XS.istore X2.here hx rfl (hb hby d15_12) rfl (l' := #[vR a1, vI 0, vI 3, vR b1, vI 1, .unset]) rfl (XS.iload X2.here hx rfl (hb hby d15_14) rfl (XS.iloadN X2.here hx rfl (hb hby d15_16) rfl (XS.icmpNo X2.here hx rfl (hb hby d15_17) rfl (feq hc17_11).1 (XS.aloadN X2.here hx rfl (hb hby d15_20) rfl rfl k)))))) ?_
    obtain ⟨_, _, ⟨T12, L12, k12, n12⟩, -, X12, ⟨Lc12, hQ12, lq12, yq12, zq12⟩, st12⟩ := Jvm.LawKit.callS X2 hx (y := MN27) hown (mg hZ hw 115 rfl) (mg hZ hw 116 rfl) (mg hZ hw 83 rfl) (mg hZ hw 117 rfl) (by decide) (backOf (W := 0) (rtb_3 l Z a0 hw [] a1 kc c0 c1 c2 T2.heap n0 Zs19 f17 O_18 S_ad S_hi S_lo) hZ (gw hw 117 rfl) (gw hw 83 rfl) (by decide) (by decide)) (g := (mkF m 23 #[vR a1, vI 0, vI 3, vR b1, vI 1, .unset] [(.int 3), (.int 0), (.ref a1)])) rfl (by rw [hml]; rfl) (argsL := [(.ref a1), (.int 0), (.int 3)]) (rest := []) (lenOf pd_16 rfl) rfl (own_w rfl) (hb hby d15_23) (fun _ _ => ⟨rfl, rfl, (by decide : 1 + 1 ≤ _), (by decide : 3 + 6 ≤ _)⟩)
    dsimp only [Pt.U, Pt.locs, Pt.cells, Pt.slots] at X12 lq12 yq12 zq12 st12 hQ12
    subst lq12 yq12 zq12
    obtain ⟨⟨y12, ky12, rfl, sx12, Vy12⟩, N12q, K12q⟩ := hQ12
    have N12 := Fr.app N2 N12q
    have sz_y12 : h0.size ≤ y12 := Nat.le_trans K20.1 sx12
    have O_22 := O_18.keep K12q all0
    have Zs23 := Nat.le_trans Zs19 K12q.1
    have K24 := K20.trans K12q all0
    refine Go.on (B := T12.setTop (mkF m 32 #[vR a1, vI 0, vI 3, vR b1, vI 1, vR y12] [(.int 1), (.ref y12)])) (fun t k => XS.iloadN X2.here hx rfl (hb hby d15_21) rfl (XS.iloadN X2.here hx rfl (hb hby d15_22) rfl (st12 _ (XS.astore X12.here hx rfl (hb hby d15_26) rfl rfl (l' := #[vR a1, vI 0, vI 3, vR b1, vI 1, vR y12]) rfl (XS.aload X12.here hx rfl (hb hby d15_28) rfl rfl (XS.iload X12.here hx rfl (hb hby d15_30) rfl k)))))) ?_
    obtain ⟨_, _, ⟨T13, L13, k13, n13⟩, -, X13, ⟨Lc13, hQ13, lq13, yq13, zq13⟩, st13⟩ := Jvm.LawKit.callS X12 hx (y := MN5) hown (mg hZ hw 131 rfl) (mg hZ hw 132 rfl) (mg hZ hw 83 rfl) (mg hZ hw 133 rfl) (by decide) (backOf (W := 0) (rgc l Z a0 hw [] y12 (1 : Int32) ky12 (6 : Int32) [(.int (own_u0 c0)), (.int (own_u1 c0)), (.int (own_u0 c1)), (.int (own_u1 c1)), (.int (own_u0 c2)), (.int (own_u1 c2))] (own_u0 c1) (own_u1 c1) c1 T12.heap n0 Zs23 Vy12 ⟨by decide, by decide⟩ rfl ⟨by decide, by decide⟩ rfl (own_utf c1 hc1) O_22 S_ad S_hi S_lo) hZ (gw hw 133 rfl) (gw hw 83 rfl) (by decide) (by decide)) (g := (mkF m 32 #[vR a1, vI 0, vI 3, vR b1, vI 1, vR y12] [(.int 1), (.ref y12)])) rfl (by rw [hml]; rfl) (argsL := [(.ref y12), (.int 1)]) (rest := []) (lenOf pd_4 rfl) rfl (own_w rfl) (hb hby d15_32) (fun _ _ => ⟨rfl, rfl, (by decide : 2 + 0 ≤ _), (by decide : 9 + 0 ≤ _)⟩)
    dsimp only [Pt.U, Pt.locs, Pt.cells, Pt.slots] at X13 lq13 yq13 zq13 st13 hQ13
    subst lq13 yq13 zq13
    obtain ⟨rfl, N13q, e13q⟩ := hQ13
    have N13 := Fr.app N12 N13q
    have hc38_14 : (255 : Int32) < c1 := hx2_c1
    refine Go.on (B := T13.setTop (mkF m 56 #[vR a1, vI 0, vI 3, vR b1, vI 1, vR y12] [(.ref y12)])) (fun t k => st13 _ (XS.sipush X13.here hx rfl (hb hby d15_35) (XS.icmpYes X13.here hx rfl (pc0 := 38) (pc' := 54) rfl (hb hby d15_38) rfl (tlt hc38_14).2.2.1 (by decide) (by decide) (XS.aload X13.here hx rfl (hb hby d15_54) rfl rfl k)))) ?_
    refine Go.fin X13 (v := some (.ref y12)) (own_nv Bd.returns) Bd.notSynchronized ?_ e13q ⟨⟨_, _, rfl, sz_y12, Or.inr Vy12⟩, N13, K24⟩ (by decide) (by decide)
    exact fun _ hr => retOut X13 hx Bd.returns rfl (Or.inr (Or.inr (Or.inr (Or.inr ⟨rfl, rfl, rfl⟩)))) (hb hby d15_56) hr
  · have N2 := Fr.app N0 N2q
    have f25 := f1.keep K2q (ninS ne_a1_b1 nin0)
    have O_26 := O_2.keep K2q (allS ge_b1 all0)
    have Zs27 := Nat.le_trans Zs3 K2q.1
    have K28 := K4.trans K2q (allS (Or.inr sz_b1) all0)
    have hc17_16 : ¬ ((2 : Int32) = (3 : Int32)) := by decide
    refine Go.on (B := T2.setTop (mkF m 21 #[vR a1, vI 0, vI 3, vR b1, vI 2, .unset] [(.ref a1)])) (fun t k => st2 _ (XS.istore X2.here hx rfl (hb hby d15_12) rfl (l' := #[vR a1, vI 0, vI 3, vR b1, vI 2, .unset]) rfl (XS.iload X2.here hx rfl (hb hby d15_14) rfl (XS.iloadN X2.here hx rfl (hb hby d15_16) rfl (XS.icmpNo X2.here hx rfl (hb hby d15_17) rfl (feq hc17_16).1 (XS.aloadN X2.here hx rfl (hb hby d15_20) rfl rfl k)))))) ?_
    obtain ⟨_, _, ⟨T17, L17, k17, n17⟩, -, X17, ⟨Lc17, hQ17, lq17, yq17, zq17⟩, st17⟩ := Jvm.LawKit.callS X2 hx (y := MN27) hown (mg hZ hw 115 rfl) (mg hZ hw 116 rfl) (mg hZ hw 83 rfl) (mg hZ hw 117 rfl) (by decide) (backOf (W := 0) (rtb_3 l Z a0 hw [] a1 kc c0 c1 c2 T2.heap n0 Zs27 f25 O_26 S_ad S_hi S_lo) hZ (gw hw 117 rfl) (gw hw 83 rfl) (by decide) (by decide)) (g := (mkF m 23 #[vR a1, vI 0, vI 3, vR b1, vI 2, .unset] [(.int 3), (.int 0), (.ref a1)])) rfl (by rw [hml]; rfl) (argsL := [(.ref a1), (.int 0), (.int 3)]) (rest := []) (lenOf pd_16 rfl) rfl (own_w rfl) (hb hby d15_23) (fun _ _ => ⟨rfl, rfl, (by decide : 1 + 1 ≤ _), (by decide : 3 + 6 ≤ _)⟩)
    dsimp only [Pt.U, Pt.locs, Pt.cells, Pt.slots] at X17 lq17 yq17 zq17 st17 hQ17
    subst lq17 yq17 zq17
    obtain ⟨⟨y17, ky17, rfl, sx17, Vy17⟩, N17q, K17q⟩ := hQ17
    have N17 := Fr.app N2 N17q
    have sz_y17 : h0.size ≤ y17 := Nat.le_trans K28.1 sx17
    have O_30 := O_26.keep K17q all0
    have Zs31 := Nat.le_trans Zs27 K17q.1
    have K32 := K28.trans K17q all0
    refine Go.on (B := T17.setTop (mkF m 32 #[vR a1, vI 0, vI 3, vR b1, vI 2, vR y17] [(.int 2), (.ref y17)])) (fun t k => XS.iloadN X2.here hx rfl (hb hby d15_21) rfl (XS.iloadN X2.here hx rfl (hb hby d15_22) rfl (st17 _ (XS.astore X17.here hx rfl (hb hby d15_26) rfl rfl (l' := #[vR a1, vI 0, vI 3, vR b1, vI 2, vR y17]) rfl (XS.aload X17.here hx rfl (hb hby d15_28) rfl rfl (XS.iload X17.here hx rfl (hb hby d15_30) rfl k)))))) ?_
    obtain ⟨_, _, ⟨T18, L18, k18, n18⟩, -, X18, ⟨Lc18, hQ18, lq18, yq18, zq18⟩, st18⟩ := Jvm.LawKit.callS X17 hx (y := MN5) hown (mg hZ hw 131 rfl) (mg hZ hw 132 rfl) (mg hZ hw 83 rfl) (mg hZ hw 133 rfl) (by decide) (backOf (W := 0) (rgc l Z a0 hw [] y17 (2 : Int32) ky17 (6 : Int32) [(.int (own_u0 c0)), (.int (own_u1 c0)), (.int (own_u0 c1)), (.int (own_u1 c1)), (.int (own_u0 c2)), (.int (own_u1 c2))] (own_u0 c2) (own_u1 c2) c2 T17.heap n0 Zs31 Vy17 ⟨by decide, by decide⟩ rfl ⟨by decide, by decide⟩ rfl (own_utf c2 hc2) O_30 S_ad S_hi S_lo) hZ (gw hw 133 rfl) (gw hw 83 rfl) (by decide) (by decide)) (g := (mkF m 32 #[vR a1, vI 0, vI 3, vR b1, vI 2, vR y17] [(.int 2), (.ref y17)])) rfl (by rw [hml]; rfl) (argsL := [(.ref y17), (.int 2)]) (rest := []) (lenOf pd_4 rfl) rfl (own_w rfl) (hb hby d15_32) (fun _ _ => ⟨rfl, rfl, (by decide : 2 + 0 ≤ _), (by decide : 9 + 0 ≤ _)⟩)
    dsimp only [Pt.U, Pt.locs, Pt.cells, Pt.slots] at X18 lq18 yq18 zq18 st18 hQ18
    subst lq18 yq18 zq18
    obtain ⟨rfl, N18q, e18q⟩ := hQ18
    have N18 := Fr.app N17 N18q
    have hc38_19 : (255 : Int32) < c2 := hx2_c2
    refine Go.on (B := T18.setTop (mkF m 56 #[vR a1, vI 0, vI 3, vR b1, vI 2, vR y17] [(.ref y17)])) (fun t k => st18 _ (XS.sipush X18.here hx rfl (hb hby d15_35) (XS.icmpYes X18.here hx rfl (pc0 := 38) (pc' := 54) rfl (hb hby d15_38) rfl (tlt hc38_19).2.2.1 (by decide) (by decide) (XS.aload X18.here hx rfl (hb hby d15_54) rfl rfl k)))) ?_
    refine Go.fin X18 (v := some (.ref y17)) (own_nv Bd.returns) Bd.notSynchronized ?_ e18q ⟨⟨_, _, rfl, sz_y17, Or.inr Vy17⟩, N18, K32⟩ (by decide) (by decide)
    exact fun _ hr => retOut X18 hx Bd.returns rfl (Or.inr (Or.inr (Or.inr (Or.inr ⟨rfl, rfl, rfl⟩)))) (hb hby d15_56) hr
theorem ef_ri4_3 (m : MethodId) (a1 : Addr) (a2 : Addr) : entryFrame m #[(.ref a1), (.ref a2), (.int 0), (.int 3), .null] 6 = mkF m 0 #[vR a1, vR a2, vI 0, vI 3, .val .null, .unset] [] := rfl
def Q_ri4_3 (Z : State) (a1 : Addr) (a2 : Addr) (kc : ClassId) (c0 c1 c2 : Int32) (G1 : Int32) (h0 : Heap) (n0 : Nat) (v : Option Value) (h : Heap) (L : List Loc) : Prop := v = none ∧ Fr n0 L ∧ Keep h0 h [a1] ∧ Exa Z h a1 "java/lang/String" ∧ ∃ (b : Addr) (kb : ClassId), h0.size ≤ b ∧ Fld Z h a1 "java/lang/String" "value" "[B" (.ref b) ∧ ((Fld Z h a1 "java/lang/String" "coder" "B" (.int 0) ∧ Arv Z h b kb .byte (3 : Int32) [(.int (own_l c0)), (.int (own_l c1)), (.int (own_l c2))] (.int 0) ∧ ¬ ((255 : Int32) < c0) ∧ ¬ ((255 : Int32) < c1) ∧ ¬ ((255 : Int32) < c2)) ∨ (Fld Z h a1 "java/lang/String" "coder" "B" (.int 1) ∧ Arv Z h b kb .byte (6 : Int32) [(.int (own_u0 c0)), (.int (own_u1 c0)), (.int (own_u0 c1)), (.int (own_u1 c1)), (.int (own_u0 c2)), (.int (own_u1 c2))] (.int 0)))
theorem ri4_3 (l : Launch) (Z : State) (a0 : Array Value) (hw : ∀ d ∈ tables_1, d.before a0 Z = true) (ws : List Jvm.Cond) (a1 : Addr) (a2 : Addr) (kc : ClassId) (c0 c1 c2 : Int32) (G1 : Int32) (h0 : Heap) (n0 : Nat) (Z0 : n0 ≤ h0.size) (E1 : Exa Z h0 a1 "java/lang/String") (F_vl : Fld Z h0 a1 "java/lang/String" "value" "[B" .null) (F_cd : Fld Z h0 a1 "java/lang/String" "coder" "B" (.int 0)) (g1 : n0 ≤ a1) (V2 : Arv Z h0 a2 kc .char (3 : Int32) [(.int c0), (.int c1), (.int c2)] (.int 0)) (hne : a2 ≠ a1) (hc0 : 0 ≤ c0.toInt ∧ c0.toInt ≤ 65535) (hc1 : 0 ≤ c1.toInt ∧ c1.toInt ≤ 65535) (hc2 : 0 ≤ c2.toInt ∧ c2.toInt ≤ 65535) (O0 : Old Z n0 h0) (S_cs : own_S_cs Z G1) (S_ad : own_S_ad Z) (S_hi : own_S_hi Z) (S_lo : own_S_lo Z) (P5 : ¬ (G1 = (0 : Int32))) :
    MetFree l MN30 (head1 (Jvm.Cond.code MN30 jdk_42_method_149_code 6 none :: ws) (rK 4 2 9 90)) (fun a U => a = #[(.ref a1), (.ref a2), (.int 0), (.int 3), .null] ∧ Z.Warmed39 U.vm ∧ U.heap = h0) (fun _ _ _ _ _ => True) (fun _ U o U' => ∃ v L, o = .returned v ∧ Q_ri4_3 Z a1 a2 kc c0 c1 c2 G1 h0 n0 v U'.heap L ∧ FrameEnd U o U' L (rK 4 2 9 90).cells (rK 4 2 9 90).slots) := by
  refine MetFree.of_bodySF (plainFor_of_name pn_5) hisR ?_
  intro p e s m args below meth c sB Bd hml0 hP hK
  obtain ⟨rfl, hZ, hh⟩ := hP
  have hx := Bd.exec
  have hby := Bd.bytes
  have hml : c.maxLocals = 6 := hml0
  have hown : s.vm.findClass "java/lang/String" = some m.cls := findClass_of_methodNamed Bd.named
  have hnm := (name_of_methodNamed Bd.named Bd.method).1
  have X0 : Stand p l e (rK 4 2 9 90) s m #[(.ref a1), (.ref a2), (.int 0), (.int 3), .null] below meth c sB [] 0 0 := Stand.of_body Bd
  have e0 : sB.heap = h0 := by rw [← hh, Bd.state]; rfl
  have N0 := Fr.nil n0
  change Go p.tables e below _ _
  have K0 := Keep.refl h0 [a1]
  refine Go.on (B := sB.setTop (mkF m 0 #[vR a1, vR a2, vI 0, vI 3, .val .null, .unset] [])) (fun t k => castTop (ef_ri4_3 m a1 a2) k) ?_
  obtain ⟨T1, X1, e1, st1⟩ := initO X0 hx hZ hown (gw hw 16 rfl) (gw hw 17 rfl) (gw hw 18 rfl) e0 (g := (mkF m 1 #[vR a1, vR a2, vI 0, vI 3, .val .null, .unset] [(.ref a1)])) rfl (by rw [hml]; rfl) rfl (hb hby d3_1) (by decide) (W := 0) (own_w rfl) (by decide)
  have hc5_2 : ¬ ((3 : Int32) = (0 : Int32)) := by decide
  obtain ⟨T3, X3, e3, st3⟩ := getS2 X1 hx hZ hown (host := "") (Or.inl (gw hw 63 rfl)) Via.refl e1 (S_cs.ext O0.2) (g := (mkF m 27 #[vR a1, vR a2, vI 0, vI 3, .val .null, .unset] [])) rfl (hb hby d3_27)
  have hc30_4 : ¬ (G1 = (0 : Int32)) := P5
  refine Go.on (B := T3.setTop (mkF m 33 #[vR a1, vR a2, vI 0, vI 3, .val .null, .unset] [])) (fun t k => XS.aloadN X0.here hx rfl (hb hby d3_0) rfl rfl (st1 _ (XS.iloadN X1.here hx rfl (hb hby d3_4) rfl (XS.ifYes X1.here hx rfl (pc0 := 5) (pc' := 27) rfl (hb hby d3_5) rfl ((if0 _ _).trans (feq hc5_2).2) (by decide) (by decide) (st3 _ (XS.ifNo X3.here hx rfl (hb hby d3_30) rfl ((if0 _ _).trans (feq hc30_4).1) k)))))) ?_
  obtain ⟨_, _, ⟨T5, L5, k5, n5⟩, -, X5, ⟨Lc5, hQ5, lq5, yq5, zq5⟩, st5⟩ := Jvm.LawKit.callS X3 hx (y := MN29) hown (mg hZ hw 81 rfl) (mg hZ hw 82 rfl) (mg hZ hw 83 rfl) (mg hZ hw 84 rfl) (by decide) (backOf (W := 0) (rc3_3 l Z a0 hw [] a2 kc c0 c1 c2 h0 n0 Z0 V2 hc0 hc1 hc2 O0 S_ad S_hi S_lo) hZ (gw hw 84 rfl) (gw hw 83 rfl) (by decide) (by decide)) (g := (mkF m 36 #[vR a1, vR a2, vI 0, vI 3, .val .null, .unset] [(.int 3), (.int 0), (.ref a2)])) rfl (by rw [hml]; rfl) (argsL := [(.ref a2), (.int 0), (.int 3)]) (rest := []) (lenOf pd_16 rfl) rfl (own_w rfl) (hb hby d3_36) (fun _ _ => ⟨rfl, e3, (by decide : 0 + 2 ≤ _), (by decide : 0 + 9 ≤ _)⟩)
  dsimp only [Pt.U, Pt.locs, Pt.cells, Pt.slots] at X5 lq5 yq5 zq5 st5 hQ5
  subst lq5 yq5 zq5
  refine Go.on (B := T3.setTop (mkF m 36 #[vR a1, vR a2, vI 0, vI 3, .val .null, .unset] [(.int 3), (.int 0), (.ref a2)])) (fun t k => XS.aloadN X3.here hx rfl (hb hby d3_33) rfl rfl (XS.iloadN X3.here hx rfl (hb hby d3_34) rfl (XS.iloadN X3.here hx rfl (hb hby d3_35) rfl k))) ?_
  rcases hQ5 with ⟨⟨y5, ky5, rfl, sx5, ⟨Vy5, hx5_c0, hx5_c1, hx5_c2⟩ | Vy5⟩, N5q, K5q⟩
  · have N5 := Fr.app N0 N5q
    have ne_a1_y5 : a1 ≠ y5 := Nat.ne_of_lt (Nat.lt_of_lt_of_le E1.lt sx5)
    have sz_y5 : h0.size ≤ y5 := Nat.le_trans K0.1 sx5
    have f1 := E1.keep K5q
    have f2 := F_vl.keep K5q nin0
    have f3 := F_cd.keep K5q nin0
    have Zs6 := Nat.le_trans Z0 K5q.1
    have K7 := K0.trans K5q all0
    obtain ⟨_, _, ⟨T6, L6, k6, n6⟩, -, X6, ⟨Lc6, hQ6, lq6, yq6, zq6⟩, st6⟩ := Jvm.LawKit.callS X5 hx (y := MN25) hown (mg hZ hw 88 rfl) (mg hZ hw 89 rfl) (mg hZ hw 83 rfl) (mg hZ hw 90 rfl) (by decide) (backOf (W := 1) (rcdg l Z a0 hw [] y5 (3 : Int32) ky5 (3 : Int32) [(.int (own_l c0)), (.int (own_l c1)), (.int (own_l c2))] (0 : Int32) T5.heap n0 Zs6 Vy5 (by decide)) hZ (gw hw 90 rfl) (gw hw 83 rfl) (by decide) (by decide)) (g := (mkF m 45 #[vR a1, vR a2, vI 0, vI 3, .val .null, vR y5] [(.int 3), (.ref y5), (.ref a1)])) rfl (by rw [hml]; rfl) (argsL := [(.ref y5), (.int 3)]) (rest := [(.ref a1)]) (lenOf pd_17 rfl) rfl (own_w rfl) (hb hby d3_45) (fun _ _ => ⟨rfl, rfl, (by decide : 2 + 0 ≤ _), (by decide : 9 + 0 ≤ _)⟩)
    dsimp only [Pt.U, Pt.locs, Pt.cells, Pt.slots] at X6 lq6 yq6 zq6 st6 hQ6
    subst lq6 yq6 zq6
    obtain ⟨rfl, N6q, e6q⟩ := hQ6
    have N6 := Fr.app N5 N6q
    refine Go.on (B := T6.setTop (mkF m 48 #[vR a1, vR a2, vI 0, vI 3, .val .null, vR y5] [(.int 0), (.ref a1)])) (fun t k => st5 _ (XS.astore X5.here hx rfl (hb hby d3_39) rfl rfl (l' := #[vR a1, vR a2, vI 0, vI 3, .val .null, vR y5]) rfl (XS.aloadN X5.here hx rfl (hb hby d3_41) rfl rfl (XS.aload X5.here hx rfl (hb hby d3_42) rfl rfl (XS.iloadN X5.here hx rfl (hb hby d3_44) rfl (st6 _ k)))))) ?_
    obtain ⟨T7, h7, X7, e7, W7, st7⟩ := putFN X6 hx hZ hown (gw hw 26 rfl) Via.refl e6q f3 f1 (Or.inr ⟨(gw hw 22 rfl), rfl, hnm⟩) (gw hw 7 rfl) (ty := .byte) (v' := (.int 0)) (by decide) rfl (by decide) (g := (mkF m 48 #[vR a1, vR a2, vI 0, vI 3, .val .null, vR y5] [(.int 0), (.ref a1)])) rfl rfl (hb hby d3_48)
    have N7 := Fr.snoc X7 N6 g1
    have Fw7 := f3.same W7
    have f8 := f1.wr W7
    have f9 := f2.other W7 (Or.inr (slot_ne (Or.inr (gw hw 21 rfl)) (Or.inr (gw hw 22 rfl)) (by decide) (t := (.array .byte)) (t' := .byte) (by decide) (by decide)))
    have f12 := Vy5.other W7 (Ne.symm ne_a1_y5)
    have K14 := K7.wr W7 (Or.inl (List.mem_of_getElem? (i := 0) rfl))
    obtain ⟨T8, h8, X8, e8, W8, st8⟩ := putF X7 hx hZ hown (host := "") (Or.inl (gw hw 25 rfl)) Via.refl e7 f9 f8 (Or.inr ⟨(gw hw 21 rfl), rfl, hnm⟩) (gw hw 7 rfl) (ty := (.array .byte)) (by decide) rfl rfl (g := (mkF m 54 #[vR a1, vR a2, vI 0, vI 3, .val .null, vR y5] [(.ref y5), (.ref a1)])) rfl rfl (hb hby d3_54)
    have N8 := Fr.snoc X8 N7 g1
    have Fw8 := f9.same W8
    have f15 := f8.wr W8
    have f16 := Fw7.other W8 (Or.inr (slot_ne (Or.inr (gw hw 22 rfl)) (Or.inr (gw hw 21 rfl)) (by decide) (t := .byte) (t' := (.array .byte)) (by decide) (by decide)))
    have f19 := f12.other W8 (Ne.symm ne_a1_y5)
    have K21 := K14.wr W8 (Or.inl (List.mem_of_getElem? (i := 0) rfl))
    refine Go.on (B := T8.setTop (mkF m 57 #[vR a1, vR a2, vI 0, vI 3, .val .null, vR y5] [])) (fun t k => st7 _ (XS.aloadN X7.here hx rfl (hb hby d3_51) rfl rfl (XS.aload X7.here hx rfl (hb hby d3_52) rfl rfl (st8 _ k)))) ?_
    refine Go.fin X8 (v := none) (fun _ => rfl) Bd.notSynchronized ?_ e8 ⟨rfl, N8, K21, f15, _, _, sz_y5, Fw8, Or.inl ⟨f16, f19, hx5_c0, hx5_c1, hx5_c2⟩⟩ (by decide) (by decide)
    exact fun _ hr => X8.returnOut hx Bd.returns (hb hby d3_57) hr
  · have N5 := Fr.app N0 N5q
    have ne_a1_y5 : a1 ≠ y5 := Nat.ne_of_lt (Nat.lt_of_lt_of_le E1.lt sx5)
    have sz_y5 : h0.size ≤ y5 := Nat.le_trans K0.1 sx5
    have f22 := E1.keep K5q
    have f23 := F_vl.keep K5q nin0
    have f24 := F_cd.keep K5q nin0
    have Zs27 := Nat.le_trans Z0 K5q.1
    have K28 := K0.trans K5q all0
    obtain ⟨_, _, ⟨T9, L9, k9, n9⟩, -, X9, ⟨Lc9, hQ9, lq9, yq9, zq9⟩, st9⟩ := Jvm.LawKit.callS X5 hx (y := MN25) hown (mg hZ hw 88 rfl) (mg hZ hw 89 rfl) (mg hZ hw 83 rfl) (mg hZ hw 90 rfl) (by decide) (backOf (W := 1) (rcdg l Z a0 hw [] y5 (3 : Int32) ky5 (6 : Int32) [(.int (own_u0 c0)), (.int (own_u1 c0)), (.int (own_u0 c1)), (.int (own_u1 c1)), (.int (own_u0 c2)), (.int (own_u1 c2))] (1 : Int32) T5.heap n0 Zs27 Vy5 (by decide)) hZ (gw hw 90 rfl) (gw hw 83 rfl) (by decide) (by decide)) (g := (mkF m 45 #[vR a1, vR a2, vI 0, vI 3, .val .null, vR y5] [(.int 3), (.ref y5), (.ref a1)])) rfl (by rw [hml]; rfl) (argsL := [(.ref y5), (.int 3)]) (rest := [(.ref a1)]) (lenOf pd_17 rfl) rfl (own_w rfl) (hb hby d3_45) (fun _ _ => ⟨rfl, rfl, (by decide : 2 + 0 ≤ _), (by decide : 9 + 0 ≤ _)⟩)
    dsimp only [Pt.U, Pt.locs, Pt.cells, Pt.slots] at X9 lq9 yq9 zq9 st9 hQ9
    subst lq9 yq9 zq9
    obtain ⟨rfl, N9q, e9q⟩ := hQ9
    have N9 := Fr.app N5 N9q
    refine Go.on (B := T9.setTop (mkF m 48 #[vR a1, vR a2, vI 0, vI 3, .val .null, vR y5] [(.int 1), (.ref a1)])) (fun t k => st5 _ (XS.astore X5.here hx rfl (hb hby d3_39) rfl rfl (l' := #[vR a1, vR a2, vI 0, vI 3, .val .null, vR y5]) rfl (XS.aloadN X5.here hx rfl (hb hby d3_41) rfl rfl (XS.aload X5.here hx rfl (hb hby d3_42) rfl rfl (XS.iloadN X5.here hx rfl (hb hby d3_44) rfl (st9 _ k)))))) ?_
    obtain ⟨T10, h10, X10, e10, W10, st10⟩ := putFN X9 hx hZ hown (gw hw 26 rfl) Via.refl e9q f24 f22 (Or.inr ⟨(gw hw 22 rfl), rfl, hnm⟩) (gw hw 7 rfl) (ty := .byte) (v' := (.int 1)) (by decide) rfl (by decide) (g := (mkF m 48 #[vR a1, vR a2, vI 0, vI 3, .val .null, vR y5] [(.int 1), (.ref a1)])) rfl rfl (hb hby d3_48)
    have N10 := Fr.snoc X10 N9 g1
    have Fw10 := f24.same W10
    have f29 := f22.wr W10
    have f30 := f23.other W10 (Or.inr (slot_ne (Or.inr (gw hw 21 rfl)) (Or.inr (gw hw 22 rfl)) (by decide) (t := (.array .byte)) (t' := .byte) (by decide) (by decide)))
    have f33 := Vy5.other W10 (Ne.symm ne_a1_y5)
    have K35 := K28.wr W10 (Or.inl (List.mem_of_getElem? (i := 0) rfl))
    obtain ⟨T11, h11, X11, e11, W11, st11⟩ := putF X10 hx hZ hown (host := "") (Or.inl (gw hw 25 rfl)) Via.refl e10 f30 f29 (Or.inr ⟨(gw hw 21 rfl), rfl, hnm⟩) (gw hw 7 rfl) (ty := (.array .byte)) (by decide) rfl rfl (g := (mkF m 54 #[vR a1, vR a2, vI 0, vI 3, .val .null, vR y5] [(.ref y5), (.ref a1)])) rfl rfl (hb hby d3_54)
    have N11 := Fr.snoc X11 N10 g1
    have Fw11 := f30.same W11
    have f36 := f29.wr W11
    have f37 := Fw10.other W11 (Or.inr (slot_ne (Or.inr (gw hw 22 rfl)) (Or.inr (gw hw 21 rfl)) (by decide) (t := .byte) (t' := (.array .byte)) (by decide) (by decide)))
    have f40 := f33.other W11 (Ne.symm ne_a1_y5)
    have K42 := K35.wr W11 (Or.inl (List.mem_of_getElem? (i := 0) rfl))
    refine Go.on (B := T11.setTop (mkF m 57 #[vR a1, vR a2, vI 0, vI 3, .val .null, vR y5] [])) (fun t k => st10 _ (XS.aloadN X10.here hx rfl (hb hby d3_51) rfl rfl (XS.aload X10.here hx rfl (hb hby d3_52) rfl rfl (st11 _ k)))) ?_
    refine Go.fin X11 (v := none) (fun _ => rfl) Bd.notSynchronized ?_ e11 ⟨rfl, N11, K42, f36, _, _, sz_y5, Fw11, Or.inr ⟨f37, f40⟩⟩ (by decide) (by decide)
    exact fun _ hr => X11.returnOut hx Bd.returns (hb hby d3_57) hr
def Q_ri1_3 (Z : State) (a1 : Addr) (a2 : Addr) (kc : ClassId) (c0 c1 c2 : Int32) (G1 : Int32) (h0 : Heap) (n0 : Nat) (v : Option Value) (h : Heap) (L : List Loc) : Prop := v = none ∧ Fr n0 L ∧ Keep h0 h [a1] ∧ Exa Z h a1 "java/lang/String" ∧ ∃ (b : Addr) (kb : ClassId), h0.size ≤ b ∧ Fld Z h a1 "java/lang/String" "value" "[B" (.ref b) ∧ ((Fld Z h a1 "java/lang/String" "coder" "B" (.int 0) ∧ Arv Z h b kb .byte (3 : Int32) [(.int (own_l c0)), (.int (own_l c1)), (.int (own_l c2))] (.int 0) ∧ ¬ ((255 : Int32) < c0) ∧ ¬ ((255 : Int32) < c1) ∧ ¬ ((255 : Int32) < c2)) ∨ (Fld Z h a1 "java/lang/String" "coder" "B" (.int 1) ∧ Arv Z h b kb .byte (6 : Int32) [(.int (own_u0 c0)), (.int (own_u1 c0)), (.int (own_u0 c1)), (.int (own_u1 c1)), (.int (own_u0 c2)), (.int (own_u1 c2))] (.int 0)))
theorem ri1_3 (l : Launch) (Z : State) (a0 : Array Value) (hw : ∀ d ∈ tables_1, d.before a0 Z = true) (ws : List Jvm.Cond) (a1 : Addr) (a2 : Addr) (kc : ClassId) (c0 c1 c2 : Int32) (G1 : Int32) (h0 : Heap) (n0 : Nat) (Z0 : n0 ≤ h0.size) (E1 : Exa Z h0 a1 "java/lang/String") (F_vl : Fld Z h0 a1 "java/lang/String" "value" "[B" .null) (F_cd : Fld Z h0 a1 "java/lang/String" "coder" "B" (.int 0)) (g1 : n0 ≤ a1) (V2 : Arv Z h0 a2 kc .char (3 : Int32) [(.int c0), (.int c1), (.int c2)] (.int 0)) (hne : a2 ≠ a1) (hc0 : 0 ≤ c0.toInt ∧ c0.toInt ≤ 65535) (hc1 : 0 ≤ c1.toInt ∧ c1.toInt ≤ 65535) (hc2 : 0 ≤ c2.toInt ∧ c2.toInt ≤ 65535) (O0 : Old Z n0 h0) (S_cs : own_S_cs Z G1) (S_ad : own_S_ad Z) (S_hi : own_S_hi Z) (S_lo : own_S_lo Z) (P5 : ¬ (G1 = (0 : Int32))) :
    MetFree l MN31 (head1 (Jvm.Cond.code MN31 jdk_42_method_3_code 2 none :: ws) (rK 5 2 9 120)) (fun a U => a = #[(.ref a1), (.ref a2)] ∧ Z.Warmed39 U.vm ∧ U.heap = h0) (fun _ _ _ _ _ => True) (fun _ U o U' => ∃ v L, o = .returned v ∧ Q_ri1_3 Z a1 a2 kc c0 c1 c2 G1 h0 n0 v U'.heap L ∧ FrameEnd U o U' L (rK 5 2 9 120).cells (rK 5 2 9 120).slots) := by
  refine MetFree.of_bodySF (plainFor_of_name pn_5) hisR ?_
  intro p e s m args below meth c sB Bd hml0 hP hK
  obtain ⟨rfl, hZ, hh⟩ := hP
  have hx := Bd.exec
  have hby := Bd.bytes
  have hml : c.maxLocals = 2 := hml0
  have hown : s.vm.findClass "java/lang/String" = some m.cls := findClass_of_methodNamed Bd.named
  have X0 : Stand p l e (rK 5 2 9 120) s m #[(.ref a1), (.ref a2)] below meth c sB [] 0 0 := Stand.of_body Bd
  have e0 : sB.heap = h0 := by rw [← hh, Bd.state]; rfl
  have N0 := Fr.nil n0
  change Go p.tables e below _ _
  have K0 := Keep.refl h0 [a1]
  refine Go.on (B := sB.setTop (mkF m 0 #[vR a1, vR a2] [])) (fun t k => castTop (ef_ri1_1 m a1 a2) k) ?_
  obtain ⟨cl1, Ar1, -, Sz1, Ng1, -, -⟩ := id V2
  refine Go.on (B := sB.setTop (mkF m 6 #[vR a1, vR a2] [.null, (.int 3), (.int 0), (.ref a2), (.ref a1)])) (fun t k => XS.aloadN X0.here hx rfl (hb hby d2_0) rfl rfl (XS.aloadN X0.here hx rfl (hb hby d2_1) rfl rfl (XS.iconst X0.here hx rfl (hb hby d2_2) (XS.aloadN X0.here hx rfl (hb hby d2_3) rfl rfl (X0.arraylength hx (by rw [e0]; exact Ar1.1) (State.isArrayOf_alike hZ.alike Ar1.2.1) (g := (mkF m 4 #[vR a1, vR a2] [(.ref a2), (.int 0), (.ref a2), (.ref a1)])) rfl rfl (hb hby d2_4) _ (by rw [len_of Sz1 Ng1]; exact (XS.aconstNull X0.here hx rfl (hb hby d2_5) k))))))) ?_
  obtain ⟨_, _, ⟨T2, L2, k2, n2⟩, -, X2, ⟨Lc2, hQ2, lq2, yq2, zq2⟩, st2⟩ := X0.specialBack hx (y := MN30) rfl hown (mg hZ hw 12 rfl) (mg hZ hw 13 rfl) (mg hZ hw 15 rfl) (by decide) (backOf (W := 0) (ri4_3 l Z a0 hw [] a1 a2 kc c0 c1 c2 G1 h0 n0 Z0 E1 F_vl F_cd g1 V2 hne hc0 hc1 hc2 O0 S_cs S_ad S_hi S_lo P5) hZ (gw hw 15 rfl) (gw hw 8 rfl) (by decide) (by decide)) (g := (mkF m 6 #[vR a1, vR a2] [.null, (.int 3), (.int 0), (.ref a2), (.ref a1)])) rfl (by rw [hml]; rfl) (Steps.refl _) (a := a1) (argsL := [(.ref a2), (.int 0), (.int 3), .null]) (rest := []) (lenOf pd_18 rfl) rfl (own_w rfl) (hb hby d2_6) (fun _ _ => ⟨rfl, e0, (by decide : 0 + 2 ≤ _), (by decide : 0 + 9 ≤ _)⟩)
  dsimp only [Pt.U, Pt.locs, Pt.cells, Pt.slots] at X2 lq2 yq2 zq2 st2 hQ2
  subst lq2 yq2 zq2
  rcases hQ2 with ⟨rfl, N2q, K2q, E2q, y2, ky2, sx2, Fv2, ⟨Fc2, Vy2, hx2_0, hx2_1, hx2_2⟩ | ⟨Fc2, Vy2⟩⟩
  · have N2 := Fr.app N0 N2q
    have sz_y2 : h0.size ≤ y2 := Nat.le_trans K0.1 sx2
    have K5 := K0.trans K2q (allS (Or.inl (List.mem_of_getElem? (i := 0) rfl)) all0)
    refine Go.on (B := T2.setTop (mkF m 9 #[vR a1, vR a2] [])) (fun t k => st2.trans k) ?_
    refine Go.fin X2 (v := none) (fun _ => rfl) Bd.notSynchronized ?_ rfl ⟨rfl, N2, K5, E2q, _, _, sz_y2, Fv2, Or.inl ⟨Fc2, Vy2, hx2_0, hx2_1, hx2_2⟩⟩ (by decide) (by decide)
    exact fun _ hr => X2.returnOut hx Bd.returns (hb hby d2_9) hr
  · have N2 := Fr.app N0 N2q
    have sz_y2 : h0.size ≤ y2 := Nat.le_trans K0.1 sx2
    have K10 := K0.trans K2q (allS (Or.inl (List.mem_of_getElem? (i := 0) rfl)) all0)
    refine Go.on (B := T2.setTop (mkF m 9 #[vR a1, vR a2] [])) (fun t k => st2.trans k) ?_
    refine Go.fin X2 (v := none) (fun _ => rfl) Bd.notSynchronized ?_ rfl ⟨rfl, N2, K10, E2q, _, _, sz_y2, Fv2, Or.inr ⟨Fc2, Vy2⟩⟩ (by decide) (by decide)
    exact fun _ hr => X2.returnOut hx Bd.returns (hb hby d2_9) hr
theorem ef_rnf_4 (m : MethodId)  : entryFrame m #[(.int 4)] 1 = mkF m 0 #[vI 4] [] := rfl
def Q_rnf_4 (Z : State)  (h0 : Heap) (n0 : Nat) (v : Option Value) (h : Heap) (L : List Loc) : Prop := (∃ (b : Addr) (kb : ClassId), v = some (.ref b) ∧ h0.size ≤ b ∧ Arv Z h b kb .byte (8 : Int32) [(.int 0), (.int 0), (.int 0), (.int 0), (.int 0), (.int 0), (.int 0), (.int 0)] (.int 0)) ∧ Fr n0 L ∧ Keep h0 h []
theorem rnf_4 (l : Launch) (Z : State) (a0 : Array Value) (hw : ∀ d ∈ tables_1, d.before a0 Z = true) (ws : List Jvm.Cond)  (h0 : Heap) (n0 : Nat) (Z0 : n0 ≤ h0.size)  :
    MetFree l MN26 (head1 (Jvm.Cond.code MN26 jdk_52_method_2_code 1 (some (.array .byte)) :: ws) (rK 1 1 8 12)) (fun a U => a = #[(.int 4)] ∧ Z.Warmed39 U.vm ∧ U.heap = h0) (fun _ _ _ _ _ => True) (fun _ U o U' => ∃ v L, o = .returned v ∧ Q_rnf_4 Z  h0 n0 v U'.heap L ∧ FrameEnd U o U' L (rK 1 1 8 12).cells (rK 1 1 8 12).slots) := by
  refine MetFree.of_bodySF (plainFor_of_name pn_10) hisR ?_
  intro p e s m args below meth c sB Bd hml0 hP hK
  obtain ⟨rfl, hZ, hh⟩ := hP
  have hx := Bd.exec
  have hby := Bd.bytes
  have hml : c.maxLocals = 1 := hml0
  have hown : s.vm.findClass "java/lang/StringUTF16" = some m.cls := findClass_of_methodNamed Bd.named
  have X0 : Stand p l e (rK 1 1 8 12) s m #[(.int 4)] below meth c sB [] 0 0 := Stand.of_body Bd
  have e0 : sB.heap = h0 := by rw [← hh, Bd.state]; rfl
  have N0 := Fr.nil n0
  change Go p.tables e below _ _
  have K0 := Keep.refl h0 []
  refine Go.on (B := sB.setTop (mkF m 0 #[vI 4] [])) (fun t k => castTop (ef_rnf_4 m ) k) ?_
  obtain ⟨_, _, ⟨T1, L1, k1, n1⟩, -, X1, ⟨Lc1, hQ1, lq1, yq1, zq1⟩, st1⟩ := Jvm.LawKit.callS X0 hx (y := MN18) hown (mg hZ hw 121 rfl) (mg hZ hw 122 rfl) (mg hZ hw 83 rfl) (mg hZ hw 123 rfl) (by decide) (backOf (W := 0) (rnlg l Z a0 hw [] (4 : Int32) (8 : Int32) h0 n0 Z0 ⟨by decide, by decide, by decide⟩) hZ (gw hw 123 rfl) (gw hw 83 rfl) (by decide) (by decide)) (g := (mkF m 1 #[vI 4] [(.int 4)])) rfl (by rw [hml]; rfl) (argsL := [(.int 4)]) (rest := []) (lenOf pd_12 rfl) rfl (own_w rfl) (hb hby d25_1) (fun _ _ => ⟨rfl, e0, (by decide : 0 + 0 ≤ _), (by decide : 0 + 0 ≤ _)⟩)
  dsimp only [Pt.U, Pt.locs, Pt.cells, Pt.slots] at X1 lq1 yq1 zq1 st1 hQ1
  subst lq1 yq1 zq1
  obtain ⟨rfl, N1q, e1q⟩ := hQ1
  have N1 := Fr.app N0 N1q
  obtain ⟨T2, h2, kq2, X2, e2, Xe2, A2, st2⟩ := newP X1 hx hZ (gw hw 20 rfl) e1q (g := (mkF m 4 #[vI 4] [(.int 8)])) rfl (hb hby d25_4) rfl (by decide) (cap := 8) (by decide) (by decide) (by decide) (by decide)
  obtain ⟨b2, gq2⟩ : ∃ z, z = h0.size := ⟨_, rfl⟩
  rw [← gq2] at A2 st2
  have sz_b2 : h0.size ≤ b2 := Nat.le_trans K0.1 (Nat.le_of_eq gq2.symm)
  have K2 := K0.ext Xe2
  have V2 : Arv Z h2 b2 kq2 .byte (8 : Int32) [(.int 0), (.int 0), (.int 0), (.int 0), (.int 0), (.int 0), (.int 0), (.int 0)] (.int 0) := (Arv.new A2 (by decide)).pad (pad_rep [] (.int 0) 8)
  refine Go.on (B := T2.setTop (mkF m 6 #[vI 4] [(.ref b2)])) (fun t k => XS.iloadN X0.here hx rfl (hb hby d25_0) rfl (st1 _ (st2 _ k))) ?_
  refine Go.fin X2 (v := some (.ref b2)) (own_nv Bd.returns) Bd.notSynchronized ?_ e2 ⟨⟨_, _, rfl, sz_b2, V2⟩, N1, K2⟩ (by decide) (by decide)
  exact fun _ hr => retOut X2 hx Bd.returns rfl (Or.inr (Or.inr (Or.inr (Or.inr ⟨rfl, rfl, rfl⟩)))) (hb hby d25_6) hr
theorem ef_rtb_4 (m : MethodId) (a1 : Addr) : entryFrame m #[(.ref a1), (.int 0), (.int 4)] 5 = mkF m 0 #[vR a1, vI 0, vI 4, .unset, .unset] [] := rfl
def Q_rtb_4 (Z : State) (a1 : Addr) (kc : ClassId) (c0 c1 c2 c3 : Int32) (h0 : Heap) (n0 : Nat) (v : Option Value) (h : Heap) (L : List Loc) : Prop := (∃ (b : Addr) (kb : ClassId), v = some (.ref b) ∧ h0.size ≤ b ∧ Arv Z h b kb .byte (8 : Int32) [(.int (own_u0 c0)), (.int (own_u1 c0)), (.int (own_u0 c1)), (.int (own_u1 c1)), (.int (own_u0 c2)), (.int (own_u1 c2)), (.int (own_u0 c3)), (.int (own_u1 c3))] (.int 0)) ∧ Fr n0 L ∧ Keep h0 h []
theorem rtb_4 (l : Launch) (Z : State) (a0 : Array Value) (hw : ∀ d ∈ tables_1, d.before a0 Z = true) (ws : List Jvm.Cond) (a1 : Addr) (kc : ClassId) (c0 c1 c2 c3 : Int32) (h0 : Heap) (n0 : Nat) (Z0 : n0 ≤ h0.size) (V1 : Arv Z h0 a1 kc .char (4 : Int32) [(.int c0), (.int c1), (.int c2), (.int c3)] (.int 0)) (O0 : Old Z n0 h0) (S_ad : own_S_ad Z) (S_hi : own_S_hi Z) (S_lo : own_S_lo Z) :
    MetFree l MN27 (head1 (Jvm.Cond.code MN27 jdk_52_method_14_code 5 (some (.array .byte)) :: ws) (rK 2 1 8 30)) (fun a U => a = #[(.ref a1), (.int 0), (.int 4)] ∧ Z.Warmed39 U.vm ∧ U.heap = h0) (fun _ _ _ _ _ => True) (fun _ U o U' => ∃ v L, o = .returned v ∧ Q_rtb_4 Z a1 kc c0 c1 c2 c3 h0 n0 v U'.heap L ∧ FrameEnd U o U' L (rK 2 1 8 30).cells (rK 2 1 8 30).slots) := by
  refine MetFree.of_bodySF (plainFor_of_name pn_10) hisR ?_
  intro p e s m args below meth c sB Bd hml0 hP hK
  obtain ⟨rfl, hZ, hh⟩ := hP
  have hx := Bd.exec
  have hby := Bd.bytes
  have hml : c.maxLocals = 5 := hml0
  have hown : s.vm.findClass "java/lang/StringUTF16" = some m.cls := findClass_of_methodNamed Bd.named
  have X0 : Stand p l e (rK 2 1 8 30) s m #[(.ref a1), (.int 0), (.int 4)] below meth c sB [] 0 0 := Stand.of_body Bd
  have e0 : sB.heap = h0 := by rw [← hh, Bd.state]; rfl
  have N0 := Fr.nil n0
  change Go p.tables e below _ _
  have K0 := Keep.refl h0 []
  refine Go.on (B := sB.setTop (mkF m 0 #[vR a1, vI 0, vI 4, .unset, .unset] [])) (fun t k => castTop (ef_rtb_4 m a1) k) ?_
  obtain ⟨_, _, ⟨T1, L1, k1, n1⟩, -, X1, ⟨Lc1, hQ1, lq1, yq1, zq1⟩, st1⟩ := Jvm.LawKit.callS X0 hx (y := MN26) hown (mg hZ hw 118 rfl) (mg hZ hw 119 rfl) (mg hZ hw 83 rfl) (mg hZ hw 120 rfl) (by decide) (backOf (W := 0) (rnf_4 l Z a0 hw []  h0 n0 Z0) hZ (gw hw 120 rfl) (gw hw 83 rfl) (by decide) (by decide)) (g := (mkF m 1 #[vR a1, vI 0, vI 4, .unset, .unset] [(.int 4)])) rfl (by rw [hml]; rfl) (argsL := [(.int 4)]) (rest := []) (lenOf pd_13 rfl) rfl (own_w rfl) (hb hby d24_1) (fun _ _ => ⟨rfl, e0, (by decide : 0 + 1 ≤ _), (by decide : 0 + 8 ≤ _)⟩)
  dsimp only [Pt.U, Pt.locs, Pt.cells, Pt.slots] at X1 lq1 yq1 zq1 st1 hQ1
  subst lq1 yq1 zq1
  obtain ⟨⟨y1, ky1, rfl, sx1, Vy1⟩, N1q, K1q⟩ := hQ1
  have N1 := Fr.app N0 N1q
  have ne_a1_y1 : a1 ≠ y1 := Nat.ne_of_lt (Nat.lt_of_lt_of_le V1.lt sx1)
  have ge_y1 : n0 ≤ y1 := Nat.le_trans Z0 sx1
  have sz_y1 : h0.size ≤ y1 := Nat.le_trans K0.1 sx1
  have f1 := V1.keep K1q nin0
  have O_2 := O0.keep K1q all0
  have Zs3 := Nat.le_trans Z0 K1q.1
  have K4 := K0.trans K1q all0
  refine Go.on (B := T1.setTop (mkF m 10 #[vR a1, vI 0, vI 4, vR y1, vI 0] [(.int 0)])) (fun t k => XS.iloadN X0.here hx rfl (hb hby d24_0) rfl (st1 _ (XS.astoreN X1.here hx rfl (hb hby d24_4) rfl rfl (l' := #[vR a1, vI 0, vI 4, vR y1, .unset]) rfl (XS.iconst X1.here hx rfl (hb hby d24_5) (XS.istore X1.here hx rfl (hb hby d24_6) rfl (l' := #[vR a1, vI 0, vI 4, vR y1, vI 0]) rfl (XS.iload X1.here hx rfl (hb hby d24_8) rfl k)))))) ?_
  have hc11_3 : (0 : Int32) < (4 : Int32) := by decide
  refine Go.on (B := T1.setTop (mkF m 19 #[vR a1, vI 0, vI 4, vR y1, vI 0] [(.int 0), (.ref a1), (.int 0), (.ref y1)])) (fun t k => XS.iloadN X1.here hx rfl (hb hby d24_10) rfl (XS.icmpNo X1.here hx rfl (hb hby d24_11) rfl (tlt hc11_3).2.1 (XS.aloadN X1.here hx rfl (hb hby d24_14) rfl rfl (XS.iload X1.here hx rfl (hb hby d24_15) rfl (XS.aloadN X1.here hx rfl (hb hby d24_17) rfl rfl (XS.iloadN X1.here hx rfl (hb hby d24_18) rfl k)))))) ?_
  obtain ⟨cl4, Ar4, qq4, Sz4, Ng4, Hh4, Gg4⟩ := id f1
  have hin4 : ¬ ((0 : Int32) < 0 ∨ cl4.slots.size ≤ ((0 : Int32)).toNatClampNeg) := inb_of Sz4 ⟨by decide, by decide⟩
  have hat4 : cl4.slots[((0 : Int32)).toNatClampNeg]? = some (.int c0) := Hh4.at hin4 rfl
  obtain ⟨_, _, ⟨T5, L5, k5, n5⟩, -, X5, ⟨Lc5, hQ5, lq5, yq5, zq5⟩, st5⟩ := Jvm.LawKit.callS X1 hx (y := MN24) hown (mg hZ hw 125 rfl) (mg hZ hw 126 rfl) (mg hZ hw 83 rfl) (mg hZ hw 127 rfl) (by decide) (backOf (W := 0) (rpcg l Z a0 hw [] y1 (0 : Int32) c0 ky1 (8 : Int32) [(.int 0), (.int 0), (.int 0), (.int 0), (.int 0), (.int 0), (.int 0), (.int 0)] 0 1 T1.heap n0 Zs3 Vy1 ge_y1 ⟨⟨by decide, by decide⟩, rfl, Nat.le_of_ble_eq_true rfl, ⟨by decide, by decide⟩, rfl, Nat.le_of_ble_eq_true rfl⟩ O_2 S_ad S_hi S_lo) hZ (gw hw 127 rfl) (gw hw 83 rfl) (by decide) (by decide)) (g := (mkF m 20 #[vR a1, vI 0, vI 4, vR y1, vI 0] [(.int c0), (.int 0), (.ref y1)])) rfl (by rw [hml]; rfl) (argsL := [(.ref y1), (.int 0), (.int c0)]) (rest := []) (lenOf pd_14 rfl) rfl (own_w rfl) (hb hby d24_20) (fun _ _ => ⟨rfl, rfl, (by decide : 1 + 0 ≤ _), (by decide : 8 + 0 ≤ _)⟩)
  dsimp only [Pt.U, Pt.locs, Pt.cells, Pt.slots] at X5 lq5 yq5 zq5 st5 hQ5
  subst lq5 yq5 zq5
  obtain ⟨rfl, N5q, K5q, G5_0⟩ := hQ5
  have N5 := Fr.app N1 N5q
  have f5 := f1.keep K5q (ninS ne_a1_y1 nin0)
  have O_6 := O_2.keep K5q (allS ge_y1 all0)
  have Zs7 := Nat.le_trans Zs3 K5q.1
  have K8 := K4.trans K5q (allS (Or.inr sz_y1) all0)
  have Vp5 : Arv Z T5.heap y1 ky1 .byte (8 : Int32) [(.int (own_u0 c0)), (.int (own_u1 c0)), (.int 0), (.int 0), (.int 0), (.int 0), (.int 0), (.int 0)] (.int 0) := G5_0
  refine Go.on (B := T5.setTop (mkF m 26 #[vR a1, vI ((0 : Int32) + (1 : Int32)), vI 4, vR y1, vI 0] [])) (fun t k => X1.caload hx (j := (0 : Int32)) (v := (.int c0)) Ar4.1 (State.isArrayOf_alike hZ.alike Ar4.2.1) Ar4.2.2 hin4 hat4 (g := (mkF m 19 #[vR a1, vI 0, vI 4, vR y1, vI 0] [(.int 0), (.ref a1), (.int 0), (.ref y1)])) rfl rfl (hb hby d24_19) _ (st5 _ (XS.iinc X5.here hx rfl (hb hby d24_23) rfl (l' := #[vR a1, vI ((0 : Int32) + (1 : Int32)), vI 4, vR y1, vI 0]) rfl k))) ?_
  rw [show ((0 : Int32) + (1 : Int32)) = (1 : Int32) from by decide]
  refine Go.on (B := T5.setTop (mkF m 29 #[vR a1, vI 1, vI 4, vR y1, vI ((0 : Int32) + (1 : Int32))] [])) (fun t k => XS.iinc X5.here hx rfl (hb hby d24_26) rfl (l' := #[vR a1, vI 1, vI 4, vR y1, vI ((0 : Int32) + (1 : Int32))]) rfl k) ?_
  rw [show ((0 : Int32) + (1 : Int32)) = (1 : Int32) from by decide]
  have hc11_6 : (1 : Int32) < (4 : Int32) := by decide
  refine Go.on (B := T5.setTop (mkF m 17 #[vR a1, vI 1, vI 4, vR y1, vI 1] [(.int 1), (.ref y1)])) (fun t k => XS.goto X5.here hx rfl (pc0 := 29) (pc' := 8) rfl (hb hby d24_29) (by decide) (by decide) (XS.iload X5.here hx rfl (hb hby d24_8) rfl (XS.iloadN X5.here hx rfl (hb hby d24_10) rfl (XS.icmpNo X5.here hx rfl (hb hby d24_11) rfl (tlt hc11_6).2.1 (XS.aloadN X5.here hx rfl (hb hby d24_14) rfl rfl (XS.iload X5.here hx rfl (hb hby d24_15) rfl k)))))) ?_
  obtain ⟨cl7, Ar7, qq7, Sz7, Ng7, Hh7, Gg7⟩ := id f5
  have hin7 : ¬ ((1 : Int32) < 0 ∨ cl7.slots.size ≤ ((1 : Int32)).toNatClampNeg) := inb_of Sz7 ⟨by decide, by decide⟩
  have hat7 : cl7.slots[((1 : Int32)).toNatClampNeg]? = some (.int c1) := Hh7.at hin7 rfl
  obtain ⟨_, _, ⟨T8, L8, k8, n8⟩, -, X8, ⟨Lc8, hQ8, lq8, yq8, zq8⟩, st8⟩ := Jvm.LawKit.callS X5 hx (y := MN24) hown (mg hZ hw 125 rfl) (mg hZ hw 126 rfl) (mg hZ hw 83 rfl) (mg hZ hw 127 rfl) (by decide) (backOf (W := 0) (rpcg l Z a0 hw [] y1 (1 : Int32) c1 ky1 (8 : Int32) [(.int (own_u0 c0)), (.int (own_u1 c0)), (.int 0), (.int 0), (.int 0), (.int 0), (.int 0), (.int 0)] 2 3 T5.heap n0 Zs7 Vp5 ge_y1 ⟨⟨by decide, by decide⟩, rfl, Nat.le_of_ble_eq_true rfl, ⟨by decide, by decide⟩, rfl, Nat.le_of_ble_eq_true rfl⟩ O_6 S_ad S_hi S_lo) hZ (gw hw 127 rfl) (gw hw 83 rfl) (by decide) (by decide)) (g := (mkF m 20 #[vR a1, vI 1, vI 4, vR y1, vI 1] [(.int c1), (.int 1), (.ref y1)])) rfl (by rw [hml]; rfl) (argsL := [(.ref y1), (.int 1), (.int c1)]) (rest := []) (lenOf pd_14 rfl) rfl (own_w rfl) (hb hby d24_20) (fun _ _ => ⟨rfl, rfl, (by decide : 1 + 0 ≤ _), (by decide : 8 + 0 ≤ _)⟩)
  dsimp only [Pt.U, Pt.locs, Pt.cells, Pt.slots] at X8 lq8 yq8 zq8 st8 hQ8
  subst lq8 yq8 zq8
  obtain ⟨rfl, N8q, K8q, G8_0⟩ := hQ8
  have N8 := Fr.app N5 N8q
  have f9 := f5.keep K8q (ninS ne_a1_y1 nin0)
  have O_10 := O_6.keep K8q (allS ge_y1 all0)
  have Zs11 := Nat.le_trans Zs7 K8q.1
  have K12 := K8.trans K8q (allS (Or.inr sz_y1) all0)
  have Vp8 : Arv Z T8.heap y1 ky1 .byte (8 : Int32) [(.int (own_u0 c0)), (.int (own_u1 c0)), (.int (own_u0 c1)), (.int (own_u1 c1)), (.int 0), (.int 0), (.int 0), (.int 0)] (.int 0) := G8_0
  refine Go.on (B := T8.setTop (mkF m 26 #[vR a1, vI ((1 : Int32) + (1 : Int32)), vI 4, vR y1, vI 1] [])) (fun t k => XS.aloadN X5.here hx rfl (hb hby d24_17) rfl rfl (XS.iloadN X5.here hx rfl (hb hby d24_18) rfl (X5.caload hx (j := (1 : Int32)) (v := (.int c1)) Ar7.1 (State.isArrayOf_alike hZ.alike Ar7.2.1) Ar7.2.2 hin7 hat7 (g := (mkF m 19 #[vR a1, vI 1, vI 4, vR y1, vI 1] [(.int 1), (.ref a1), (.int 1), (.ref y1)])) rfl rfl (hb hby d24_19) _ (st8 _ (XS.iinc X8.here hx rfl (hb hby d24_23) rfl (l' := #[vR a1, vI ((1 : Int32) + (1 : Int32)), vI 4, vR y1, vI 1]) rfl k))))) ?_
  rw [show ((1 : Int32) + (1 : Int32)) = (2 : Int32) from by decide]
  refine Go.on (B := T8.setTop (mkF m 29 #[vR a1, vI 2, vI 4, vR y1, vI ((1 : Int32) + (1 : Int32))] [])) (fun t k => XS.iinc X8.here hx rfl (hb hby d24_26) rfl (l' := #[vR a1, vI 2, vI 4, vR y1, vI ((1 : Int32) + (1 : Int32))]) rfl k) ?_
  rw [show ((1 : Int32) + (1 : Int32)) = (2 : Int32) from by decide]
  have hc11_9 : (2 : Int32) < (4 : Int32) := by decide
  refine Go.on (B := T8.setTop (mkF m 17 #[vR a1, vI 2, vI 4, vR y1, vI 2] [(.int 2), (.ref y1)])) (fun t k => XS.goto X8.here hx rfl (pc0 := 29) (pc' := 8) rfl (hb hby d24_29) (by decide) (by decide) (XS.iload X8.here hx rfl (hb hby d24_8) rfl (XS.iloadN X8.here hx rfl (hb hby d24_10) rfl (XS.icmpNo X8.here hx rfl (hb hby d24_11) rfl (tlt hc11_9).2.1 (XS.aloadN X8.here hx rfl (hb hby d24_14) rfl rfl (XS.iload X8.here hx rfl (hb hby d24_15) rfl k)))))) ?_
  obtain ⟨cl10, Ar10, qq10, Sz10, Ng10, Hh10, Gg10⟩ := id f9
  have hin10 : ¬ ((2 : Int32) < 0 ∨ cl10.slots.size ≤ ((2 : Int32)).toNatClampNeg) := inb_of Sz10 ⟨by decide, by decide⟩
  have hat10 : cl10.slots[((2 : Int32)).toNatClampNeg]? = some (.int c2) := Hh10.at hin10 rfl
  obtain ⟨_, _, ⟨T11, L11, k11, n11⟩, -, X11, ⟨Lc11, hQ11, lq11, yq11, zq11⟩, st11⟩ := Jvm.LawKit.callS X8 hx (y := MN24) hown (mg hZ hw 125 rfl) (mg hZ hw 126 rfl) (mg hZ hw 83 rfl) (mg hZ hw 127 rfl) (by decide) (backOf (W := 0) (rpcg l Z a0 hw [] y1 (2 : Int32) c2 ky1 (8 : Int32) [(.int (own_u0 c0)), (.int (own_u1 c0)), (.int (own_u0 c1)), (.int (own_u1 c1)), (.int 0), (.int 0), (.int 0), (.int 0)] 4 5 T8.heap n0 Zs11 Vp8 ge_y1 ⟨⟨by decide, by decide⟩, rfl, Nat.le_of_ble_eq_true rfl, ⟨by decide, by decide⟩, rfl, Nat.le_of_ble_eq_true rfl⟩ O_10 S_ad S_hi S_lo) hZ (gw hw 127 rfl) (gw hw 83 rfl) (by decide) (by decide)) (g := (mkF m 20 #[vR a1, vI 2, vI 4, vR y1, vI 2] [(.int c2), (.int 2), (.ref y1)])) rfl (by rw [hml]; rfl) (argsL := [(.ref y1), (.int 2), (.int c2)]) (rest := []) (lenOf pd_14 rfl) rfl (own_w rfl) (hb hby d24_20) (fun _ _ => ⟨rfl, rfl, (by decide : 1 + 0 ≤ _), (by decide : 8 + 0 ≤ _)⟩)
  dsimp only [Pt.U, Pt.locs, Pt.cells, Pt.slots] at X11 lq11 yq11 zq11 st11 hQ11
  subst lq11 yq11 zq11
  obtain ⟨rfl, N11q, K11q, G11_0⟩ := hQ11
  have N11 := Fr.app N8 N11q
  have f13 := f9.keep K11q (ninS ne_a1_y1 nin0)
  have O_14 := O_10.keep K11q (allS ge_y1 all0)
  have Zs15 := Nat.le_trans Zs11 K11q.1
  have K16 := K12.trans K11q (allS (Or.inr sz_y1) all0)
  have Vp11 : Arv Z T11.heap y1 ky1 .byte (8 : Int32) [(.int (own_u0 c0)), (.int (own_u1 c0)), (.int (own_u0 c1)), (.int (own_u1 c1)), (.int (own_u0 c2)), (.int (own_u1 c2)), (.int 0), (.int 0)] (.int 0) := G11_0
  refine Go.on (B := T11.setTop (mkF m 26 #[vR a1, vI ((2 : Int32) + (1 : Int32)), vI 4, vR y1, vI 2] [])) (fun t k => XS.aloadN X8.here hx rfl (hb hby d24_17) rfl rfl (XS.iloadN X8.here hx rfl (hb hby d24_18) rfl (X8.caload hx (j := (2 : Int32)) (v := (.int c2)) Ar10.1 (State.isArrayOf_alike hZ.alike Ar10.2.1) Ar10.2.2 hin10 hat10 (g := (mkF m 19 #[vR a1, vI 2, vI 4, vR y1, vI 2] [(.int 2), (.ref a1), (.int 2), (.ref y1)])) rfl rfl (hb hby d24_19) _ (st11 _ (XS.iinc X11.here hx rfl (hb hby d24_23) rfl (l' := #[vR a1, vI ((2 : Int32) + (1 : Int32)), vI 4, vR y1, vI 2]) rfl k))))) ?_
  rw [show ((2 : Int32) + (1 : Int32)) = (3 : Int32) from by decide]
  refine Go.on (B := T11.setTop (mkF m 29 #[vR a1, vI 3, vI 4, vR y1, vI ((2 : Int32) + (1 : Int32))] [])) (fun t k => XS.iinc X11.here hx rfl (hb hby d24_26) rfl (l' := #[vR a1, vI 3, vI 4, vR y1, vI ((2 : Int32) + (1 : Int32))]) rfl k) ?_
  rw [show ((2 : Int32) + (1 : Int32)) = (3 : Int32) from by decide]
  have hc11_12 : (3 : Int32) < (4 : Int32) := by decide
  refine Go.on (B := T11.setTop (mkF m 17 #[vR a1, vI 3, vI 4, vR y1, vI 3] [(.int 3), (.ref y1)])) (fun t k => XS.goto X11.here hx rfl (pc0 := 29) (pc' := 8) rfl (hb hby d24_29) (by decide) (by decide) (XS.iload X11.here hx rfl (hb hby d24_8) rfl (XS.iloadN X11.here hx rfl (hb hby d24_10) rfl (XS.icmpNo X11.here hx rfl (hb hby d24_11) rfl (tlt hc11_12).2.1 (XS.aloadN X11.here hx rfl (hb hby d24_14) rfl rfl (XS.iload X11.here hx rfl (hb hby d24_15) rfl k)))))) ?_
  obtain ⟨cl13, Ar13, qq13, Sz13, Ng13, Hh13, Gg13⟩ := id f13
  have hin13 : ¬ ((3 : Int32) < 0 ∨ cl13.slots.size ≤ ((3 : Int32)).toNatClampNeg) := inb_of Sz13 ⟨by decide, by decide⟩
  have hat13 : cl13.slots[((3 : Int32)).toNatClampNeg]? = some (.int c3) := Hh13.at hin13 rfl
  obtain ⟨_, _, ⟨T14, L14, k14, n14⟩, -, X14, ⟨Lc14, hQ14, lq14, yq14, zq14⟩, st14⟩ := Jvm.LawKit.callS X11 hx (y := MN24) hown (mg hZ hw 125 rfl) (mg hZ hw 126 rfl) (mg hZ hw 83 rfl) (mg hZ hw 127 rfl) (by decide) (backOf (W := 0) (rpcg l Z a0 hw [] y1 (3 : Int32) c3 ky1 (8 : Int32) [(.int (own_u0 c0)), (.int (own_u1 c0)), (.int (own_u0 c1)), (.int (own_u1 c1)), (.int (own_u0 c2)), (.int (own_u1 c2)), (.int 0), (.int 0)] 6 7 T11.heap n0 Zs15 Vp11 ge_y1 ⟨⟨by decide, by decide⟩, rfl, Nat.le_of_ble_eq_true rfl, ⟨by decide, by decide⟩, rfl, Nat.le_of_ble_eq_true rfl⟩ O_14 S_ad S_hi S_lo) hZ (gw hw 127 rfl) (gw hw 83 rfl) (by decide) (by decide)) (g := (mkF m 20 #[vR a1, vI 3, vI 4, vR y1, vI 3] [(.int c3), (.int 3), (.ref y1)])) rfl (by rw [hml]; rfl) (argsL := [(.ref y1), (.int 3), (.int c3)]) (rest := []) (lenOf pd_14 rfl) rfl (own_w rfl) (hb hby d24_20) (fun _ _ => ⟨rfl, rfl, (by decide : 1 + 0 ≤ _), (by decide : 8 + 0 ≤ _)⟩)
  dsimp only [Pt.U, Pt.locs, Pt.cells, Pt.slots] at X14 lq14 yq14 zq14 st14 hQ14
  subst lq14 yq14 zq14
  obtain ⟨rfl, N14q, K14q, G14_0⟩ := hQ14
  have N14 := Fr.app N11 N14q
  have K20 := K16.trans K14q (allS (Or.inr sz_y1) all0)
  have Vp14 : Arv Z T14.heap y1 ky1 .byte (8 : Int32) [(.int (own_u0 c0)), (.int (own_u1 c0)), (.int (own_u0 c1)), (.int (own_u1 c1)), (.int (own_u0 c2)), (.int (own_u1 c2)), (.int (own_u0 c3)), (.int (own_u1 c3))] (.int 0) := G14_0
  refine Go.on (B := T14.setTop (mkF m 26 #[vR a1, vI ((3 : Int32) + (1 : Int32)), vI 4, vR y1, vI 3] [])) (fun t k => XS.aloadN X11.here hx rfl (hb hby d24_17) rfl rfl (XS.iloadN X11.here hx rfl (hb hby d24_18) rfl (X11.caload hx (j := (3 : Int32)) (v := (.int c3)) Ar13.1 (State.isArrayOf_alike hZ.alike Ar13.2.1) Ar13.2.2 hin13 hat13 (g := (mkF m 19 #[vR a1, vI 3, vI 4, vR y1, vI 3] [(.int 3), (.ref a1), (.int 3), (.ref y1)])) rfl rfl (hb hby d24_19) _ (st14 _ (XS.iinc X14.here hx rfl (hb hby d24_23) rfl (l' := #[vR a1, vI ((3 : Int32) + (1 : Int32)), vI 4, vR y1, vI 3]) rfl k))))) ?_
  rw [show ((3 : Int32) + (1 : Int32)) = (4 : Int32) from by decide]
  refine Go.on (B := T14.setTop (mkF m 29 #[vR a1, vI 4, vI 4, vR y1, vI ((3 : Int32) + (1 : Int32))] [])) (fun t k => XS.iinc X14.here hx rfl (hb hby d24_26) rfl (l' := #[vR a1, vI 4, vI 4, vR y1, vI ((3 : Int32) + (1 : Int32))]) rfl k) ?_
  rw [show ((3 : Int32) + (1 : Int32)) = (4 : Int32) from by decide]
  have hc11_15 : ¬ ((4 : Int32) < (4 : Int32)) := by decide
  refine Go.on (B := T14.setTop (mkF m 33 #[vR a1, vI 4, vI 4, vR y1, vI 4] [(.ref y1)])) (fun t k => XS.goto X14.here hx rfl (pc0 := 29) (pc' := 8) rfl (hb hby d24_29) (by decide) (by decide) (XS.iload X14.here hx rfl (hb hby d24_8) rfl (XS.iloadN X14.here hx rfl (hb hby d24_10) rfl (XS.icmpYes X14.here hx rfl (pc0 := 11) (pc' := 32) rfl (hb hby d24_11) rfl (flt hc11_15).2.1 (by decide) (by decide) (XS.aloadN X14.here hx rfl (hb hby d24_32) rfl rfl k))))) ?_
  refine Go.fin X14 (v := some (.ref y1)) (own_nv Bd.returns) Bd.notSynchronized ?_ rfl ⟨⟨_, _, rfl, sz_y1, Vp14⟩, N14, K20⟩ (by decide) (by decide)
  exact fun _ hr => retOut X14 hx Bd.returns rfl (Or.inr (Or.inr (Or.inr (Or.inr ⟨rfl, rfl, rfl⟩)))) (hb hby d24_33) hr
theorem ef_rc5_4 (m : MethodId) (a1 : Addr) (a3 : Addr) : entryFrame m #[(.ref a1), (.int 0), (.ref a3), (.int 0), (.int 4)] 7 = mkF m 0 #[vR a1, vI 0, vR a3, vI 0, vI 4, .unset, .unset] [] := rfl
def Q_rc5_4 (Z : State) (a1 : Addr) (a3 : Addr) (kc k3 : ClassId) (c0 c1 c2 c3 : Int32) (h0 : Heap) (n0 : Nat) (v : Option Value) (h : Heap) (L : List Loc) : Prop := ((v = some (.int 4) ∧ Arv Z h a3 k3 .byte (4 : Int32) [(.int (own_l c0)), (.int (own_l c1)), (.int (own_l c2)), (.int (own_l c3))] (.int 0) ∧ ¬ ((255 : Int32) < c0) ∧ ¬ ((255 : Int32) < c1) ∧ ¬ ((255 : Int32) < c2) ∧ ¬ ((255 : Int32) < c3)) ∨ (v = some (.int 0) ∧ (255 : Int32) < c0) ∨ (v = some (.int 1) ∧ (255 : Int32) < c1) ∨ (v = some (.int 2) ∧ (255 : Int32) < c2) ∨ (v = some (.int 3) ∧ (255 : Int32) < c3)) ∧ Fr n0 L ∧ Keep h0 h [a3]
theorem rc5_4 (l : Launch) (Z : State) (a0 : Array Value) (hw : ∀ d ∈ tables_1, d.before a0 Z = true) (ws : List Jvm.Cond) (a1 : Addr) (a3 : Addr) (kc k3 : ClassId) (c0 c1 c2 c3 : Int32) (h0 : Heap) (n0 : Nat) (Z0 : n0 ≤ h0.size) (V1 : Arv Z h0 a1 kc .char (4 : Int32) [(.int c0), (.int c1), (.int c2), (.int c3)] (.int 0)) (V3 : Arv Z h0 a3 k3 .byte (4 : Int32) [(.int 0), (.int 0), (.int 0), (.int 0)] (.int 0)) (hne : a1 ≠ a3) (g3 : n0 ≤ a3) :
    MetFree l MN28 (head1 (Jvm.Cond.code MN28 jdk_52_method_21_code 7 (some .int) :: ws) (rK 0 0 0 0)) (fun a U => a = #[(.ref a1), (.int 0), (.ref a3), (.int 0), (.int 4)] ∧ Z.Warmed39 U.vm ∧ U.heap = h0) (fun _ _ _ _ _ => True) (fun _ U o U' => ∃ v L, o = .returned v ∧ Q_rc5_4 Z a1 a3 kc k3 c0 c1 c2 c3 h0 n0 v U'.heap L ∧ FrameEnd U o U' L (rK 0 0 0 0).cells (rK 0 0 0 0).slots) := by
  refine MetFree.of_bodySF (plainFor_of_name pn_10) hisR ?_
  intro p e s m args below meth c sB Bd hml0 hP hK
  obtain ⟨rfl, hZ, hh⟩ := hP
  have hx := Bd.exec
  have hby := Bd.bytes
  have X0 : Stand p l e (rK 0 0 0 0) s m #[(.ref a1), (.int 0), (.ref a3), (.int 0), (.int 4)] below meth c sB [] 0 0 := Stand.of_body Bd
  have e0 : sB.heap = h0 := by rw [← hh, Bd.state]; rfl
  have N0 := Fr.nil n0
  change Go p.tables e below _ _
  have K0 := Keep.refl h0 [a3]
  refine Go.on (B := sB.setTop (mkF m 0 #[vR a1, vI 0, vR a3, vI 0, vI 4, .unset, .unset] [])) (fun t k => castTop (ef_rc5_4 m a1 a3) k) ?_
  have hc7_2 : (0 : Int32) < (4 : Int32) := by decide
  refine Go.on (B := sB.setTop (mkF m 11 #[vR a1, vI 0, vR a3, vI 0, vI 4, vI 0, .unset] [(.ref a1)])) (fun t k => XS.iconst X0.here hx rfl (hb hby d16_0) (XS.istore X0.here hx rfl (hb hby d16_1) rfl (l' := #[vR a1, vI 0, vR a3, vI 0, vI 4, vI 0, .unset]) rfl (XS.iload X0.here hx rfl (hb hby d16_3) rfl (XS.iload X0.here hx rfl (hb hby d16_5) rfl (XS.icmpNo X0.here hx rfl (hb hby d16_7) rfl (tlt hc7_2).2.1 (XS.aloadN X0.here hx rfl (hb hby d16_10) rfl rfl k)))))) ?_
  obtain ⟨cl3, Ar3, qq3, Sz3, Ng3, Hh3, Gg3⟩ := id V1
  have hin3 : ¬ ((0 : Int32) < 0 ∨ cl3.slots.size ≤ ((0 : Int32)).toNatClampNeg) := inb_of Sz3 ⟨by decide, by decide⟩
  have hat3 : cl3.slots[((0 : Int32)).toNatClampNeg]? = some (.int c0) := Hh3.at hin3 rfl
  refine Go.on (B := sB.setTop (mkF m 20 #[vR a1, vI 0, vR a3, vI 0, vI 4, vI 0, vI c0] [(.int 255), (.int c0)])) (fun t k => XS.iloadN X0.here hx rfl (hb hby d16_11) rfl (X0.caload hx (j := (0 : Int32)) (v := (.int c0)) (by rw [e0]; exact Ar3.1) (State.isArrayOf_alike hZ.alike Ar3.2.1) Ar3.2.2 hin3 hat3 (g := (mkF m 12 #[vR a1, vI 0, vR a3, vI 0, vI 4, vI 0, .unset] [(.int 0), (.ref a1)])) rfl rfl (hb hby d16_12) _ (XS.istore X0.here hx rfl (hb hby d16_13) rfl (l' := #[vR a1, vI 0, vR a3, vI 0, vI 4, vI 0, vI c0]) rfl (XS.iload X0.here hx rfl (hb hby d16_15) rfl (XS.sipush X0.here hx rfl (hb hby d16_17) k))))) ?_
  by_cases hc20_5 : (255 : Int32) < c0
  · refine Go.on (B := sB.setTop (mkF m 25 #[vR a1, vI 0, vR a3, vI 0, vI 4, vI 0, vI c0] [(.int 0)])) (fun t k => XS.icmpNo X0.here hx rfl (hb hby d16_20) rfl (tlt hc20_5).2.2.2 (XS.iload X0.here hx rfl (hb hby d16_23) rfl k)) ?_
    refine Go.fin X0 (v := some (.int 0)) (own_nv Bd.returns) Bd.notSynchronized ?_ e0 ⟨(Or.inr (Or.inl ⟨rfl, hc20_5⟩)), N0, K0⟩ (by decide) (by decide)
    exact fun _ hr => retI X0 hx Bd.returns (hb hby d16_25) hr
  · obtain ⟨cl6, Ar6, qq6, Sz6, Ng6, Hh6, Gg6⟩ := id V3
    have hin6 : ¬ ((0 : Int32) < 0 ∨ cl6.slots.size ≤ ((0 : Int32)).toNatClampNeg) := inb_of Sz6 ⟨by decide, by decide⟩
    obtain ⟨T6, h6, X6, e6, W6, st6⟩ := stB X0 hx hZ e0 Ar6 (j := (0 : Int32)) hin6 (g := (mkF m 31 #[vR a1, vI 0, vR a3, vI 0, vI 4, vI 0, vI c0] [(.int (c0.toInt8.toInt32)), (.int 0), (.ref a3)])) rfl rfl (hb hby d16_31)
    have V6 : Arv Z h6 a3 k3 .byte (4 : Int32) [(.int ((c0.toInt8.toInt32).toInt8.toInt32)), (.int 0), (.int 0), (.int 0)] (.int 0) := Arv.set Ar6 qq6 Sz6 Ng6 Hh6 Gg6 (fits_nar_byte _) W6 0 rfl (Nat.le_of_ble_eq_true rfl)
    have N6 := Fr.snoc X6 N0 g3
    have f1 := V1.other W6 hne
    have K3 := K0.wr W6 (Or.inl (List.mem_of_getElem? (i := 0) rfl))
    refine Go.on (B := T6.setTop (mkF m 32 #[vR a1, vI 0, vR a3, vI 0, vI 4, vI 0, vI c0] [])) (fun t k => XS.icmpYes X0.here hx rfl (pc0 := 20) (pc' := 26) rfl (hb hby d16_20) rfl (flt hc20_5).2.2.2 (by decide) (by decide) (XS.aloadN X0.here hx rfl (hb hby d16_26) rfl rfl (XS.iloadN X0.here hx rfl (hb hby d16_27) rfl (XS.iload X0.here hx rfl (hb hby d16_28) rfl (XS.i2b X0.here hx rfl (hb hby d16_30) rfl (st6 _ k)))))) ?_
    refine Go.on (B := T6.setTop (mkF m 35 #[vR a1, vI ((0 : Int32) + (1 : Int32)), vR a3, vI 0, vI 4, vI 0, vI c0] [])) (fun t k => XS.iinc X6.here hx rfl (hb hby d16_32) rfl (l' := #[vR a1, vI ((0 : Int32) + (1 : Int32)), vR a3, vI 0, vI 4, vI 0, vI c0]) rfl k) ?_
    rw [show ((0 : Int32) + (1 : Int32)) = (1 : Int32) from by decide]
    refine Go.on (B := T6.setTop (mkF m 38 #[vR a1, vI 1, vR a3, vI ((0 : Int32) + (1 : Int32)), vI 4, vI 0, vI c0] [])) (fun t k => XS.iinc X6.here hx rfl (hb hby d16_35) rfl (l' := #[vR a1, vI 1, vR a3, vI ((0 : Int32) + (1 : Int32)), vI 4, vI 0, vI c0]) rfl k) ?_
    rw [show ((0 : Int32) + (1 : Int32)) = (1 : Int32) from by decide]
    refine Go.on (B := T6.setTop (mkF m 41 #[vR a1, vI 1, vR a3, vI 1, vI 4, vI ((0 : Int32) + (1 : Int32)), vI c0] [])) (fun t k => XS.iinc X6.here hx rfl (hb hby d16_38) rfl (l' := #[vR a1, vI 1, vR a3, vI 1, vI 4, vI ((0 : Int32) + (1 : Int32)), vI c0]) rfl k) ?_
    rw [show ((0 : Int32) + (1 : Int32)) = (1 : Int32) from by decide]
    have hc7_7 : (1 : Int32) < (4 : Int32) := by decide
    refine Go.on (B := T6.setTop (mkF m 12 #[vR a1, vI 1, vR a3, vI 1, vI 4, vI 1, vI c0] [(.int 1), (.ref a1)])) (fun t k => XS.goto X6.here hx rfl (pc0 := 41) (pc' := 3) rfl (hb hby d16_41) (by decide) (by decide) (XS.iload X6.here hx rfl (hb hby d16_3) rfl (XS.iload X6.here hx rfl (hb hby d16_5) rfl (XS.icmpNo X6.here hx rfl (hb hby d16_7) rfl (tlt hc7_7).2.1 (XS.aloadN X6.here hx rfl (hb hby d16_10) rfl rfl (XS.iloadN X6.here hx rfl (hb hby d16_11) rfl k)))))) ?_
    obtain ⟨cl8, Ar8, qq8, Sz8, Ng8, Hh8, Gg8⟩ := id f1
    have hin8 : ¬ ((1 : Int32) < 0 ∨ cl8.slots.size ≤ ((1 : Int32)).toNatClampNeg) := inb_of Sz8 ⟨by decide, by decide⟩
    have hat8 : cl8.slots[((1 : Int32)).toNatClampNeg]? = some (.int c1) := Hh8.at hin8 rfl
    refine Go.on (B := T6.setTop (mkF m 20 #[vR a1, vI 1, vR a3, vI 1, vI 4, vI 1, vI c1] [(.int 255), (.int c1)])) (fun t k => X6.caload hx (j := (1 : Int32)) (v := (.int c1)) (by rw [e6]; exact Ar8.1) (State.isArrayOf_alike hZ.alike Ar8.2.1) Ar8.2.2 hin8 hat8 (g := (mkF m 12 #[vR a1, vI 1, vR a3, vI 1, vI 4, vI 1, vI c0] [(.int 1), (.ref a1)])) rfl rfl (hb hby d16_12) _ (XS.istore X6.here hx rfl (hb hby d16_13) rfl (l' := #[vR a1, vI 1, vR a3, vI 1, vI 4, vI 1, vI c1]) rfl (XS.iload X6.here hx rfl (hb hby d16_15) rfl (XS.sipush X6.here hx rfl (hb hby d16_17) k)))) ?_
    by_cases hc20_10 : (255 : Int32) < c1
    · refine Go.on (B := T6.setTop (mkF m 25 #[vR a1, vI 1, vR a3, vI 1, vI 4, vI 1, vI c1] [(.int 1)])) (fun t k => XS.icmpNo X6.here hx rfl (hb hby d16_20) rfl (tlt hc20_10).2.2.2 (XS.iload X6.here hx rfl (hb hby d16_23) rfl k)) ?_
      refine Go.fin X6 (v := some (.int 1)) (own_nv Bd.returns) Bd.notSynchronized ?_ e6 ⟨(Or.inr (Or.inr (Or.inl ⟨rfl, hc20_10⟩))), N6, K3⟩ (by decide) (by decide)
      exact fun _ hr => retI X6 hx Bd.returns (hb hby d16_25) hr
    · obtain ⟨cl11, Ar11, qq11, Sz11, Ng11, Hh11, Gg11⟩ := id V6
      have hin11 : ¬ ((1 : Int32) < 0 ∨ cl11.slots.size ≤ ((1 : Int32)).toNatClampNeg) := inb_of Sz11 ⟨by decide, by decide⟩
      obtain ⟨T11, h11, X11, e11, W11, st11⟩ := stB X6 hx hZ e6 Ar11 (j := (1 : Int32)) hin11 (g := (mkF m 31 #[vR a1, vI 1, vR a3, vI 1, vI 4, vI 1, vI c1] [(.int (c1.toInt8.toInt32)), (.int 1), (.ref a3)])) rfl rfl (hb hby d16_31)
      have V11 : Arv Z h11 a3 k3 .byte (4 : Int32) [(.int ((c0.toInt8.toInt32).toInt8.toInt32)), (.int ((c1.toInt8.toInt32).toInt8.toInt32)), (.int 0), (.int 0)] (.int 0) := Arv.set Ar11 qq11 Sz11 Ng11 Hh11 Gg11 (fits_nar_byte _) W11 1 rfl (Nat.le_of_ble_eq_true rfl)
      have N11 := Fr.snoc X11 N6 g3
      have f4 := f1.other W11 hne
      have K6 := K3.wr W11 (Or.inl (List.mem_of_getElem? (i := 0) rfl))
      refine Go.on (B := T11.setTop (mkF m 32 #[vR a1, vI 1, vR a3, vI 1, vI 4, vI 1, vI c1] [])) (fun t k => XS.icmpYes X6.here hx rfl (pc0 := 20) (pc' := 26) rfl (hb hby d16_20) rfl (flt hc20_10).2.2.2 (by decide) (by decide) (XS.aloadN X6.here hx rfl (hb hby d16_26) rfl rfl (XS.iloadN X6.here hx rfl (hb hby d16_27) rfl (XS.iload X6.here hx rfl (hb hby d16_28) rfl (XS.i2b X6.here hx rfl (hb hby d16_30) rfl (st11 _ k)))))) ?_
      refine Go.on (B := T11.setTop (mkF m 35 #[vR a1, vI ((1 : Int32) + (1 : Int32)), vR a3, vI 1, vI 4, vI 1, vI c1] [])) (fun t k => XS.iinc X11.here hx rfl (hb hby d16_32) rfl (l' := #[vR a1, vI ((1 : Int32) + (1 : Int32)), vR a3, vI 1, vI 4, vI 1, vI c1]) rfl k) ?_
      rw [show ((1 : Int32) + (1 : Int32)) = (2 : Int32) from by decide]
      refine Go.on (B := T11.setTop (mkF m 38 #[vR a1, vI 2, vR a3, vI ((1 : Int32) + (1 : Int32)), vI 4, vI 1, vI c1] [])) (fun t k => XS.iinc X11.here hx rfl (hb hby d16_35) rfl (l' := #[vR a1, vI 2, vR a3, vI ((1 : Int32) + (1 : Int32)), vI 4, vI 1, vI c1]) rfl k) ?_
      rw [show ((1 : Int32) + (1 : Int32)) = (2 : Int32) from by decide]
      refine Go.on (B := T11.setTop (mkF m 41 #[vR a1, vI 2, vR a3, vI 2, vI 4, vI ((1 : Int32) + (1 : Int32)), vI c1] [])) (fun t k => XS.iinc X11.here hx rfl (hb hby d16_38) rfl (l' := #[vR a1, vI 2, vR a3, vI 2, vI 4, vI ((1 : Int32) + (1 : Int32)), vI c1]) rfl k) ?_
      rw [show ((1 : Int32) + (1 : Int32)) = (2 : Int32) from by decide]
      have hc7_12 : (2 : Int32) < (4 : Int32) := by decide
      refine Go.on (B := T11.setTop (mkF m 12 #[vR a1, vI 2, vR a3, vI 2, vI 4, vI 2, vI c1] [(.int 2), (.ref a1)])) (fun t k => XS.goto X11.here hx rfl (pc0 := 41) (pc' := 3) rfl (hb hby d16_41) (by decide) (by decide) (XS.iload X11.here hx rfl (hb hby d16_3) rfl (XS.iload X11.here hx rfl (hb hby d16_5) rfl (XS.icmpNo X11.here hx rfl (hb hby d16_7) rfl (tlt hc7_12).2.1 (XS.aloadN X11.here hx rfl (hb hby d16_10) rfl rfl (XS.iloadN X11.here hx rfl (hb hby d16_11) rfl k)))))) ?_
      obtain ⟨cl13, Ar13, qq13, Sz13, Ng13, Hh13, Gg13⟩ := id f4
      have hin13 : ¬ ((2 : Int32) < 0 ∨ cl13.slots.size ≤ ((2 : Int32)).toNatClampNeg) := inb_of Sz13 ⟨by decide, by decide⟩
      have hat13 : cl13.slots[((2 : Int32)).toNatClampNeg]? = some (.int c2) := Hh13.at hin13 rfl
      refine Go.on (B := T11.setTop (mkF m 20 #[vR a1, vI 2, vR a3, vI 2, vI 4, vI 2, vI c2] [(.int 255), (.int c2)])) (fun t k => X11.caload hx (j := (2 : Int32)) (v := (.int c2)) (by rw [e11]; exact Ar13.1) (State.isArrayOf_alike hZ.alike Ar13.2.1) Ar13.2.2 hin13 hat13 (g := (mkF m 12 #[vR a1, vI 2, vR a3, vI 2, vI 4, vI 2, vI c1] [(.int 2), (.ref a1)])) rfl rfl (hb hby d16_12) _ (XS.istore X11.here hx rfl (hb hby d16_13) rfl (l' := #[vR a1, vI 2, vR a3, vI 2, vI 4, vI 2, vI c2]) rfl (XS.iload X11.here hx rfl (hb hby d16_15) rfl (XS.sipush X11.here hx rfl (hb hby d16_17) k)))) ?_
      by_cases hc20_15 : (255 : Int32) < c2
      · refine Go.on (B := T11.setTop (mkF m 25 #[vR a1, vI 2, vR a3, vI 2, vI 4, vI 2, vI c2] [(.int 2)])) (fun t k => XS.icmpNo X11.here hx rfl (hb hby d16_20) rfl (tlt hc20_15).2.2.2 (XS.iload X11.here hx rfl (hb hby d16_23) rfl k)) ?_
        refine Go.fin X11 (v := some (.int 2)) (own_nv Bd.returns) Bd.notSynchronized ?_ e11 ⟨(Or.inr (Or.inr (Or.inr (Or.inl ⟨rfl, hc20_15⟩)))), N11, K6⟩ (by decide) (by decide)
        exact fun _ hr => retI X11 hx Bd.returns (hb hby d16_25) hr
      · obtain ⟨cl16, Ar16, qq16, Sz16, Ng16, Hh16, Gg16⟩ := id V11
        have hin16 : ¬ ((2 : Int32) < 0 ∨ cl16.slots.size ≤ ((2 : Int32)).toNatClampNeg) := inb_of Sz16 ⟨by decide, by decide⟩
        obtain ⟨T16, h16, X16, e16, W16, st16⟩ := stB X11 hx hZ e11 Ar16 (j := (2 : Int32)) hin16 (g := (mkF m 31 #[vR a1, vI 2, vR a3, vI 2, vI 4, vI 2, vI c2] [(.int (c2.toInt8.toInt32)), (.int 2), (.ref a3)])) rfl rfl (hb hby d16_31)
        have V16 : Arv Z h16 a3 k3 .byte (4 : Int32) [(.int ((c0.toInt8.toInt32).toInt8.toInt32)), (.int ((c1.toInt8.toInt32).toInt8.toInt32)), (.int ((c2.toInt8.toInt32).toInt8.toInt32)), (.int 0)] (.int 0) := Arv.set Ar16 qq16 Sz16 Ng16 Hh16 Gg16 (fits_nar_byte _) W16 2 rfl (Nat.le_of_ble_eq_true rfl)
        have N16 := Fr.snoc X16 N11 g3
        have f7 := f4.other W16 hne
        have K9 := K6.wr W16 (Or.inl (List.mem_of_getElem? (i := 0) rfl))
        refine Go.on (B := T16.setTop (mkF m 32 #[vR a1, vI 2, vR a3, vI 2, vI 4, vI 2, vI c2] [])) (fun t k => XS.icmpYes X11.here hx rfl (pc0 := 20) (pc' := 26) rfl (hb hby d16_20) rfl (flt hc20_15).2.2.2 (by decide) (by decide) (XS.aloadN X11.here hx rfl (hb hby d16_26) rfl rfl (XS.iloadN X11.here hx rfl (hb hby d16_27) rfl (XS.iload X11.here hx rfl (hb hby d16_28) rfl (XS.i2b X11.here hx rfl (hb hby d16_30) rfl (st16 _ k)))))) ?_
        refine Go.on (B := T16.setTop (mkF m 35 #[vR a1, vI ((2 : Int32) + (1 : Int32)), vR a3, vI 2, vI 4, vI 2, vI c2] [])) (fun t k => XS.iinc X16.here hx rfl (hb hby d16_32) rfl (l' := #[vR a1, vI ((2 : Int32) + (1 : Int32)), vR a3, vI 2, vI 4, vI 2, vI c2]) rfl k) ?_
        rw [show ((2 : Int32) + (1 : Int32)) = (3 : Int32) from by decide]
        refine Go.on (B := T16.setTop (mkF m 38 #[vR a1, vI 3, vR a3, vI ((2 : Int32) + (1 : Int32)), vI 4, vI 2, vI c2] [])) (fun t k => XS.iinc X16.here hx rfl (hb hby d16_35) rfl (l' := #[vR a1, vI 3, vR a3, vI ((2 : Int32) + (1 : Int32)), vI 4, vI 2, vI c2]) rfl k) ?_
        rw [show ((2 : Int32) + (1 : Int32)) = (3 : Int32) from by decide]
        refine Go.on (B := T16.setTop (mkF m 41 #[vR a1, vI 3, vR a3, vI 3, vI 4, vI ((2 : Int32) + (1 : Int32)), vI c2] [])) (fun t k => XS.iinc X16.here hx rfl (hb hby d16_38) rfl (l' := #[vR a1, vI 3, vR a3, vI 3, vI 4, vI ((2 : Int32) + (1 : Int32)), vI c2]) rfl k) ?_
        rw [show ((2 : Int32) + (1 : Int32)) = (3 : Int32) from by decide]
        have hc7_17 : (3 : Int32) < (4 : Int32) := by decide
        refine Go.on (B := T16.setTop (mkF m 12 #[vR a1, vI 3, vR a3, vI 3, vI 4, vI 3, vI c2] [(.int 3), (.ref a1)])) (fun t k => XS.goto X16.here hx rfl (pc0 := 41) (pc' := 3) rfl (hb hby d16_41) (by decide) (by decide) (XS.iload X16.here hx rfl (hb hby d16_3) rfl (XS.iload X16.here hx rfl (hb hby d16_5) rfl (XS.icmpNo X16.here hx rfl (hb hby d16_7) rfl (tlt hc7_17).2.1 (XS.aloadN X16.here hx rfl (hb hby d16_10) rfl rfl (XS.iloadN X16.here hx rfl (hb hby d16_11) rfl k)))))) ?_
        obtain ⟨cl18, Ar18, qq18, Sz18, Ng18, Hh18, Gg18⟩ := id f7
        have hin18 : ¬ ((3 : Int32) < 0 ∨ cl18.slots.size ≤ ((3 : Int32)).toNatClampNeg) := inb_of Sz18 ⟨by decide, by decide⟩
        have hat18 : cl18.slots[((3 : Int32)).toNatClampNeg]? = some (.int c3) := Hh18.at hin18 rfl
        refine Go.on (B := T16.setTop (mkF m 20 #[vR a1, vI 3, vR a3, vI 3, vI 4, vI 3, vI c3] [(.int 255), (.int c3)])) (fun t k => X16.caload hx (j := (3 : Int32)) (v := (.int c3)) (by rw [e16]; exact Ar18.1) (State.isArrayOf_alike hZ.alike Ar18.2.1) Ar18.2.2 hin18 hat18 (g := (mkF m 12 #[vR a1, vI 3, vR a3, vI 3, vI 4, vI 3, vI c2] [(.int 3), (.ref a1)])) rfl rfl (hb hby d16_12) _ (XS.istore X16.here hx rfl (hb hby d16_13) rfl (l' := #[vR a1, vI 3, vR a3, vI 3, vI 4, vI 3, vI c3]) rfl (XS.iload X16.here hx rfl (hb hby d16_15) rfl (XS.sipush X16.here hx rfl (hb hby d16_17) k)))) ?_
        by_cases hc20_20 : (255 : Int32) < c3
        · refine Go.on (B := T16.setTop (mkF m 25 #[vR a1, vI 3, vR a3, vI 3, vI 4, vI 3, vI c3] [(.int 3)])) (fun t k => XS.icmpNo X16.here hx rfl (hb hby d16_20) rfl (tlt hc20_20).2.2.2 (XS.iload X16.here hx rfl (hb hby d16_23) rfl k)) ?_
          refine Go.fin X16 (v := some (.int 3)) (own_nv Bd.returns) Bd.notSynchronized ?_ e16 ⟨(Or.inr (Or.inr (Or.inr (Or.inr ⟨rfl, hc20_20⟩)))), N16, K9⟩ (by decide) (by decide)
          exact fun _ hr => retI X16 hx Bd.returns (hb hby d16_25) hr
        · obtain ⟨cl21, Ar21, qq21, Sz21, Ng21, Hh21, Gg21⟩ := id V16
          have hin21 : ¬ ((3 : Int32) < 0 ∨ cl21.slots.size ≤ ((3 : Int32)).toNatClampNeg) := inb_of Sz21 ⟨by decide, by decide⟩
          obtain ⟨T21, h21, X21, e21, W21, st21⟩ := stB X16 hx hZ e16 Ar21 (j := (3 : Int32)) hin21 (g := (mkF m 31 #[vR a1, vI 3, vR a3, vI 3, vI 4, vI 3, vI c3] [(.int (c3.toInt8.toInt32)), (.int 3), (.ref a3)])) rfl rfl (hb hby d16_31)
          have V21 : Arv Z h21 a3 k3 .byte (4 : Int32) [(.int ((c0.toInt8.toInt32).toInt8.toInt32)), (.int ((c1.toInt8.toInt32).toInt8.toInt32)), (.int ((c2.toInt8.toInt32).toInt8.toInt32)), (.int ((c3.toInt8.toInt32).toInt8.toInt32))] (.int 0) := Arv.set Ar21 qq21 Sz21 Ng21 Hh21 Gg21 (fits_nar_byte _) W21 3 rfl (Nat.le_of_ble_eq_true rfl)
          have N21 := Fr.snoc X21 N16 g3
          have K12 := K9.wr W21 (Or.inl (List.mem_of_getElem? (i := 0) rfl))
          refine Go.on (B := T21.setTop (mkF m 32 #[vR a1, vI 3, vR a3, vI 3, vI 4, vI 3, vI c3] [])) (fun t k => XS.icmpYes X16.here hx rfl (pc0 := 20) (pc' := 26) rfl (hb hby d16_20) rfl (flt hc20_20).2.2.2 (by decide) (by decide) (XS.aloadN X16.here hx rfl (hb hby d16_26) rfl rfl (XS.iloadN X16.here hx rfl (hb hby d16_27) rfl (XS.iload X16.here hx rfl (hb hby d16_28) rfl (XS.i2b X16.here hx rfl (hb hby d16_30) rfl (st21 _ k)))))) ?_
          refine Go.on (B := T21.setTop (mkF m 35 #[vR a1, vI ((3 : Int32) + (1 : Int32)), vR a3, vI 3, vI 4, vI 3, vI c3] [])) (fun t k => XS.iinc X21.here hx rfl (hb hby d16_32) rfl (l' := #[vR a1, vI ((3 : Int32) + (1 : Int32)), vR a3, vI 3, vI 4, vI 3, vI c3]) rfl k) ?_
          rw [show ((3 : Int32) + (1 : Int32)) = (4 : Int32) from by decide]
          refine Go.on (B := T21.setTop (mkF m 38 #[vR a1, vI 4, vR a3, vI ((3 : Int32) + (1 : Int32)), vI 4, vI 3, vI c3] [])) (fun t k => XS.iinc X21.here hx rfl (hb hby d16_35) rfl (l' := #[vR a1, vI 4, vR a3, vI ((3 : Int32) + (1 : Int32)), vI 4, vI 3, vI c3]) rfl k) ?_
          rw [show ((3 : Int32) + (1 : Int32)) = (4 : Int32) from by decide]
          refine Go.on (B := T21.setTop (mkF m 41 #[vR a1, vI 4, vR a3, vI 4, vI 4, vI ((3 : Int32) + (1 : Int32)), vI c3] [])) (fun t k => XS.iinc X21.here hx rfl (hb hby d16_38) rfl (l' := #[vR a1, vI 4, vR a3, vI 4, vI 4, vI ((3 : Int32) + (1 : Int32)), vI c3]) rfl k) ?_
          rw [show ((3 : Int32) + (1 : Int32)) = (4 : Int32) from by decide]
          have hc7_22 : ¬ ((4 : Int32) < (4 : Int32)) := by decide
          refine Go.on (B := T21.setTop (mkF m 46 #[vR a1, vI 4, vR a3, vI 4, vI 4, vI 4, vI c3] [(.int 4)])) (fun t k => XS.goto X21.here hx rfl (pc0 := 41) (pc' := 3) rfl (hb hby d16_41) (by decide) (by decide) (XS.iload X21.here hx rfl (hb hby d16_3) rfl (XS.iload X21.here hx rfl (hb hby d16_5) rfl (XS.icmpYes X21.here hx rfl (pc0 := 7) (pc' := 44) rfl (hb hby d16_7) rfl (flt hc7_22).2.1 (by decide) (by decide) (XS.iload X21.here hx rfl (hb hby d16_44) rfl k))))) ?_
          refine Go.fin X21 (v := some (.int 4)) (own_nv Bd.returns) Bd.notSynchronized ?_ e21 ⟨Or.inl ⟨rfl, V21, hc20_5, hc20_10, hc20_15, hc20_20⟩, N21, K12⟩ (by decide) (by decide)
          exact fun _ hr => retI X21 hx Bd.returns (hb hby d16_46) hr
theorem ef_rc3_4 (m : MethodId) (a1 : Addr) : entryFrame m #[(.ref a1), (.int 0), (.int 4)] 6 = mkF m 0 #[vR a1, vI 0, vI 4, .unset, .unset, .unset] [] := rfl
def Q_rc3_4 (Z : State) (a1 : Addr) (kc : ClassId) (c0 c1 c2 c3 : Int32) (h0 : Heap) (n0 : Nat) (v : Option Value) (h : Heap) (L : List Loc) : Prop := (∃ (b : Addr) (kb : ClassId), v = some (.ref b) ∧ h0.size ≤ b ∧ ((Arv Z h b kb .byte (4 : Int32) [(.int (own_l c0)), (.int (own_l c1)), (.int (own_l c2)), (.int (own_l c3))] (.int 0) ∧ ¬ ((255 : Int32) < c0) ∧ ¬ ((255 : Int32) < c1) ∧ ¬ ((255 : Int32) < c2) ∧ ¬ ((255 : Int32) < c3)) ∨ (Arv Z h b kb .byte (8 : Int32) [(.int (own_u0 c0)), (.int (own_u1 c0)), (.int (own_u0 c1)), (.int (own_u1 c1)), (.int (own_u0 c2)), (.int (own_u1 c2)), (.int (own_u0 c3)), (.int (own_u1 c3))] (.int 0)))) ∧ Fr n0 L ∧ Keep h0 h []
theorem rc3_4 (l : Launch) (Z : State) (a0 : Array Value) (hw : ∀ d ∈ tables_1, d.before a0 Z = true) (ws : List Jvm.Cond) (a1 : Addr) (kc : ClassId) (c0 c1 c2 c3 : Int32) (h0 : Heap) (n0 : Nat) (Z0 : n0 ≤ h0.size) (V1 : Arv Z h0 a1 kc .char (4 : Int32) [(.int c0), (.int c1), (.int c2), (.int c3)] (.int 0)) (hc0 : 0 ≤ c0.toInt ∧ c0.toInt ≤ 65535) (hc1 : 0 ≤ c1.toInt ∧ c1.toInt ≤ 65535) (hc2 : 0 ≤ c2.toInt ∧ c2.toInt ≤ 65535) (hc3 : 0 ≤ c3.toInt ∧ c3.toInt ≤ 65535) (O0 : Old Z n0 h0) (S_ad : own_S_ad Z) (S_hi : own_S_hi Z) (S_lo : own_S_lo Z) :
    MetFree l MN29 (head1 (Jvm.Cond.code MN29 jdk_52_method_16_code 6 (some (.array .byte)) :: ws) (rK 3 2 12 60)) (fun a U => a = #[(.ref a1), (.int 0), (.int 4)] ∧ Z.Warmed39 U.vm ∧ U.heap = h0) (fun _ _ _ _ _ => True) (fun _ U o U' => ∃ v L, o = .returned v ∧ Q_rc3_4 Z a1 kc c0 c1 c2 c3 h0 n0 v U'.heap L ∧ FrameEnd U o U' L (rK 3 2 12 60).cells (rK 3 2 12 60).slots) := by
  refine MetFree.of_bodySF (plainFor_of_name pn_10) hisR ?_
  intro p e s m args below meth c sB Bd hml0 hP hK
  obtain ⟨rfl, hZ, hh⟩ := hP
  have hx := Bd.exec
  have hby := Bd.bytes
  have hml : c.maxLocals = 6 := hml0
  have hown : s.vm.findClass "java/lang/StringUTF16" = some m.cls := findClass_of_methodNamed Bd.named
  have X0 : Stand p l e (rK 3 2 12 60) s m #[(.ref a1), (.int 0), (.int 4)] below meth c sB [] 0 0 := Stand.of_body Bd
  have e0 : sB.heap = h0 := by rw [← hh, Bd.state]; rfl
  have N0 := Fr.nil n0
  change Go p.tables e below _ _
  have K0 := Keep.refl h0 []
  refine Go.on (B := sB.setTop (mkF m 0 #[vR a1, vI 0, vI 4, .unset, .unset, .unset] [])) (fun t k => castTop (ef_rc3_4 m a1) k) ?_
  obtain ⟨T1, h1, kq1, X1, e1, Xe1, A1, st1⟩ := newP X0 hx hZ (gw hw 20 rfl) e0 (g := (mkF m 1 #[vR a1, vI 0, vI 4, .unset, .unset, .unset] [(.int 4)])) rfl (hb hby d15_1) rfl (by decide) (cap := 4) (by decide) (by decide) (by decide) (by decide)
  obtain ⟨b1, gq1⟩ : ∃ z, z = h0.size := ⟨_, rfl⟩
  rw [← gq1] at A1 st1
  have ge_b1 : n0 ≤ b1 := Nat.le_trans Z0 (Nat.le_of_eq gq1.symm)
  have sz_b1 : h0.size ≤ b1 := Nat.le_trans K0.1 (Nat.le_of_eq gq1.symm)
  have ne_a1_b1 : a1 ≠ b1 := Nat.ne_of_lt (Nat.lt_of_lt_of_le V1.lt (Nat.le_of_eq gq1.symm))
  have f1 := V1.ext Xe1
  have O_2 := O0.ext Xe1
  have Zs3 := Nat.le_trans Z0 Xe1.1
  have K4 := K0.ext Xe1
  have V1 : Arv Z h1 b1 kq1 .byte (4 : Int32) [(.int 0), (.int 0), (.int 0), (.int 0)] (.int 0) := (Arv.new A1 (by decide)).pad (pad_rep [] (.int 0) 4)
  refine Go.on (B := T1.setTop (mkF m 7 #[vR a1, vI 0, vI 4, vR b1, .unset, .unset] [(.ref b1), (.int 0), (.ref a1)])) (fun t k => XS.iloadN X0.here hx rfl (hb hby d15_0) rfl (st1 _ (XS.astoreN X1.here hx rfl (hb hby d15_3) rfl rfl (l' := #[vR a1, vI 0, vI 4, vR b1, .unset, .unset]) rfl (XS.aloadN X1.here hx rfl (hb hby d15_4) rfl rfl (XS.iloadN X1.here hx rfl (hb hby d15_5) rfl (XS.aloadN X1.here hx rfl (hb hby d15_6) rfl rfl k)))))) ?_
  obtain ⟨_, _, ⟨T2, L2, k2, n2⟩, -, X2, ⟨Lc2, hQ2, lq2, yq2, zq2⟩, st2⟩ := Jvm.LawKit.callS X1 hx (y := MN28) hown (mg hZ hw 85 rfl) (mg hZ hw 86 rfl) (mg hZ hw 83 rfl) (mg hZ hw 87 rfl) (by decide) (backOf (W := 0) (rc5_4 l Z a0 hw [] a1 b1 kc kq1 c0 c1 c2 c3 h1 n0 Zs3 f1 V1 ne_a1_b1 ge_b1) hZ (gw hw 87 rfl) (gw hw 83 rfl) (by decide) (by decide)) (g := (mkF m 9 #[vR a1, vI 0, vI 4, vR b1, .unset, .unset] [(.int 4), (.int 0), (.ref b1), (.int 0), (.ref a1)])) rfl (by rw [hml]; rfl) (argsL := [(.ref a1), (.int 0), (.ref b1), (.int 0), (.int 4)]) (rest := []) (lenOf pd_15 rfl) rfl (own_w rfl) (hb hby d15_9) (fun _ _ => ⟨rfl, e1, (by decide : 1 + 0 ≤ _), (by decide : 4 + 0 ≤ _)⟩)
  dsimp only [Pt.U, Pt.locs, Pt.cells, Pt.slots] at X2 lq2 yq2 zq2 st2 hQ2
  subst lq2 yq2 zq2
  refine Go.on (B := T1.setTop (mkF m 9 #[vR a1, vI 0, vI 4, vR b1, .unset, .unset] [(.int 4), (.int 0), (.ref b1), (.int 0), (.ref a1)])) (fun t k => XS.iconst X1.here hx rfl (hb hby d15_7) (XS.iloadN X1.here hx rfl (hb hby d15_8) rfl k)) ?_
  rcases hQ2 with ⟨⟨rfl, V52, hx2_c0, hx2_c1, hx2_c2, hx2_c3⟩ | ⟨rfl, hx2_c0⟩ | ⟨rfl, hx2_c1⟩ | ⟨rfl, hx2_c2⟩ | ⟨rfl, hx2_c3⟩, N2q, K2q⟩
  · have N2 := Fr.app N0 N2q
    have K8 := K4.trans K2q (allS (Or.inr sz_b1) all0)
    have hc17_4 : (4 : Int32) = (4 : Int32) := by decide
    refine Go.on (B := T2.setTop (mkF m 58 #[vR a1, vI 0, vI 4, vR b1, vI 4, .unset] [(.ref b1)])) (fun t k => st2 _ (XS.istore X2.here hx rfl (hb hby d15_12) rfl (l' := #[vR a1, vI 0, vI 4, vR b1, vI 4, .unset]) rfl (XS.iload X2.here hx rfl (hb hby d15_14) rfl (XS.iloadN X2.here hx rfl (hb hby d15_16) rfl (XS.icmpYes X2.here hx rfl (pc0 := 17) (pc' := 57) rfl (hb hby d15_17) rfl (teq hc17_4).1 (by decide) (by decide) (XS.aloadN X2.here hx rfl (hb hby d15_57) rfl rfl k)))))) ?_
    refine Go.fin X2 (v := some (.ref b1)) (own_nv Bd.returns) Bd.notSynchronized ?_ rfl ⟨⟨_, _, rfl, sz_b1, Or.inl ⟨V52, hx2_c0, hx2_c1, hx2_c2, hx2_c3⟩⟩, N2, K8⟩ (by decide) (by decide)
    exact fun _ hr => retOut X2 hx Bd.returns rfl (Or.inr (Or.inr (Or.inr (Or.inr ⟨rfl, rfl, rfl⟩)))) (hb hby d15_58) hr
  · have N2 := Fr.app N0 N2q
    have f9 := f1.keep K2q (ninS ne_a1_b1 nin0)
    have O_10 := O_2.keep K2q (allS ge_b1 all0)
    have Zs11 := Nat.le_trans Zs3 K2q.1
    have K12 := K4.trans K2q (allS (Or.inr sz_b1) all0)
    have hc17_6 : ¬ ((0 : Int32) = (4 : Int32)) := by decide
    refine Go.on (B := T2.setTop (mkF m 21 #[vR a1, vI 0, vI 4, vR b1, vI 0, .unset] [(.ref a1)])) (fun t k => st2 _ (XS.istore X2.here hx rfl (hb hby d15_12) rfl (l' := #[vR a1, vI 0, vI 4, vR b1, vI 0, .unset]) rfl (XS.iload X2.here hx rfl (hb hby d15_14) rfl (XS.iloadN X2.here hx rfl (hb hby d15_16) rfl (XS.icmpNo X2.here hx rfl (hb hby d15_17) rfl (feq hc17_6).1 (XS.aloadN X2.here hx rfl (hb hby d15_20) rfl rfl k)))))) ?_
    obtain ⟨_, _, ⟨T7, L7, k7, n7⟩, -, X7, ⟨Lc7, hQ7, lq7, yq7, zq7⟩, st7⟩ := Jvm.LawKit.callS X2 hx (y := MN27) hown (mg hZ hw 115 rfl) (mg hZ hw 116 rfl) (mg hZ hw 83 rfl) (mg hZ hw 117 rfl) (by decide) (backOf (W := 0) (rtb_4 l Z a0 hw [] a1 kc c0 c1 c2 c3 T2.heap n0 Zs11 f9 O_10 S_ad S_hi S_lo) hZ (gw hw 117 rfl) (gw hw 83 rfl) (by decide) (by decide)) (g := (mkF m 23 #[vR a1, vI 0, vI 4, vR b1, vI 0, .unset] [(.int 4), (.int 0), (.ref a1)])) rfl (by rw [hml]; rfl) (argsL := [(.ref a1), (.int 0), (.int 4)]) (rest := []) (lenOf pd_16 rfl) rfl (own_w rfl) (hb hby d15_23) (fun _ _ => ⟨rfl, rfl, (by decide : 1 + 1 ≤ _), (by decide : 4 + 8 ≤ _)⟩)
    dsimp only [Pt.U, Pt.locs, Pt.cells, Pt.slots] at X7 lq7 yq7 zq7 st7 hQ7
    subst lq7 yq7 zq7
    obtain ⟨⟨y7, ky7, rfl, sx7, Vy7⟩, N7q, K7q⟩ := hQ7
    have N7 := Fr.app N2 N7q
    have sz_y7 : h0.size ≤ y7 := Nat.le_trans K12.1 sx7
    have O_14 := O_10.keep K7q all0
    have Zs15 := Nat.le_trans Zs11 K7q.1
    have K16 := K12.trans K7q all0
    refine Go.on (B := T7.setTop (mkF m 32 #[vR a1, vI 0, vI 4, vR b1, vI 0, vR y7] [(.int 0), (.ref y7)])) (fun t k => XS.iloadN X2.here hx rfl (hb hby d15_21) rfl (XS.iloadN X2.here hx rfl (hb hby d15_22) rfl (st7 _ (XS.astore X7.here hx rfl (hb hby d15_26) rfl rfl (l' := #[vR a1, vI 0, vI 4, vR b1, vI 0, vR y7]) rfl (XS.aload X7.here hx rfl (hb hby d15_28) rfl rfl (XS.iload X7.here hx rfl (hb hby d15_30) rfl k)))))) ?_
    obtain ⟨_, _, ⟨T8, L8, k8, n8⟩, -, X8, ⟨Lc8, hQ8, lq8, yq8, zq8⟩, st8⟩ := Jvm.LawKit.callS X7 hx (y := MN5) hown (mg hZ hw 131 rfl) (mg hZ hw 132 rfl) (mg hZ hw 83 rfl) (mg hZ hw 133 rfl) (by decide) (backOf (W := 0) (rgc l Z a0 hw [] y7 (0 : Int32) ky7 (8 : Int32) [(.int (own_u0 c0)), (.int (own_u1 c0)), (.int (own_u0 c1)), (.int (own_u1 c1)), (.int (own_u0 c2)), (.int (own_u1 c2)), (.int (own_u0 c3)), (.int (own_u1 c3))] (own_u0 c0) (own_u1 c0) c0 T7.heap n0 Zs15 Vy7 ⟨by decide, by decide⟩ rfl ⟨by decide, by decide⟩ rfl (own_utf c0 hc0) O_14 S_ad S_hi S_lo) hZ (gw hw 133 rfl) (gw hw 83 rfl) (by decide) (by decide)) (g := (mkF m 32 #[vR a1, vI 0, vI 4, vR b1, vI 0, vR y7] [(.int 0), (.ref y7)])) rfl (by rw [hml]; rfl) (argsL := [(.ref y7), (.int 0)]) (rest := []) (lenOf pd_4 rfl) rfl (own_w rfl) (hb hby d15_32) (fun _ _ => ⟨rfl, rfl, (by decide : 2 + 0 ≤ _), (by decide : 12 + 0 ≤ _)⟩)
    dsimp only [Pt.U, Pt.locs, Pt.cells, Pt.slots] at X8 lq8 yq8 zq8 st8 hQ8
    subst lq8 yq8 zq8
    obtain ⟨rfl, N8q, e8q⟩ := hQ8
    have N8 := Fr.app N7 N8q
    have hc38_9 : (255 : Int32) < c0 := hx2_c0
    refine Go.on (B := T8.setTop (mkF m 56 #[vR a1, vI 0, vI 4, vR b1, vI 0, vR y7] [(.ref y7)])) (fun t k => st8 _ (XS.sipush X8.here hx rfl (hb hby d15_35) (XS.icmpYes X8.here hx rfl (pc0 := 38) (pc' := 54) rfl (hb hby d15_38) rfl (tlt hc38_9).2.2.1 (by decide) (by decide) (XS.aload X8.here hx rfl (hb hby d15_54) rfl rfl k)))) ?_
    refine Go.fin X8 (v := some (.ref y7)) (own_nv Bd.returns) Bd.notSynchronized ?_ e8q ⟨⟨_, _, rfl, sz_y7, Or.inr Vy7⟩, N8, K16⟩ (by decide) (by decide)
    exact fun _ hr => retOut X8 hx Bd.returns rfl (Or.inr (Or.inr (Or.inr (Or.inr ⟨rfl, rfl, rfl⟩)))) (hb hby d15_56) hr
  · have N2 := Fr.app N0 N2q
    have f17 := f1.keep K2q (ninS ne_a1_b1 nin0)
    have O_18 := O_2.keep K2q (allS ge_b1 all0)
    have Zs19 := Nat.le_trans Zs3 K2q.1
    have K20 := K4.trans K2q (allS (Or.inr sz_b1) all0)
    have hc17_11 : ¬ ((1 : Int32) = (4 : Int32)) := by decide
    refine Go.on (B := T2.setTop (mkF m 21 #[vR a1, vI 0, vI 4, vR b1, vI 1, .unset] [(.ref a1)])) (fun t k => st2 _ (XS.istore X2.here hx rfl (hb hby d15_12) rfl (l' := #[vR a1, vI 0, vI 4, vR b1, vI 1, .unset]) rfl (XS.iload X2.here hx rfl (hb hby d15_14) rfl (XS.iloadN X2.here hx rfl (hb hby d15_16) rfl (XS.icmpNo X2.here hx rfl (hb hby d15_17) rfl (feq hc17_11).1 (XS.aloadN X2.here hx rfl (hb hby d15_20) rfl rfl k)))))) ?_
    obtain ⟨_, _, ⟨T12, L12, k12, n12⟩, -, X12, ⟨Lc12, hQ12, lq12, yq12, zq12⟩, st12⟩ := Jvm.LawKit.callS X2 hx (y := MN27) hown (mg hZ hw 115 rfl) (mg hZ hw 116 rfl) (mg hZ hw 83 rfl) (mg hZ hw 117 rfl) (by decide) (backOf (W := 0) (rtb_4 l Z a0 hw [] a1 kc c0 c1 c2 c3 T2.heap n0 Zs19 f17 O_18 S_ad S_hi S_lo) hZ (gw hw 117 rfl) (gw hw 83 rfl) (by decide) (by decide)) (g := (mkF m 23 #[vR a1, vI 0, vI 4, vR b1, vI 1, .unset] [(.int 4), (.int 0), (.ref a1)])) rfl (by rw [hml]; rfl) (argsL := [(.ref a1), (.int 0), (.int 4)]) (rest := []) (lenOf pd_16 rfl) rfl (own_w rfl) (hb hby d15_23) (fun _ _ => ⟨rfl, rfl, (by decide : 1 + 1 ≤ _), (by decide : 4 + 8 ≤ _)⟩)
    dsimp only [Pt.U, Pt.locs, Pt.cells, Pt.slots] at X12 lq12 yq12 zq12 st12 hQ12
    subst lq12 yq12 zq12
    obtain ⟨⟨y12, ky12, rfl, sx12, Vy12⟩, N12q, K12q⟩ := hQ12
    have N12 := Fr.app N2 N12q
    have sz_y12 : h0.size ≤ y12 := Nat.le_trans K20.1 sx12
    have O_22 := O_18.keep K12q all0
    have Zs23 := Nat.le_trans Zs19 K12q.1
    have K24 := K20.trans K12q all0
    refine Go.on (B := T12.setTop (mkF m 32 #[vR a1, vI 0, vI 4, vR b1, vI 1, vR y12] [(.int 1), (.ref y12)])) (fun t k => XS.iloadN X2.here hx rfl (hb hby d15_21) rfl (XS.iloadN X2.here hx rfl (hb hby d15_22) rfl (st12 _ (XS.astore X12.here hx rfl (hb hby d15_26) rfl rfl (l' := #[vR a1, vI 0, vI 4, vR b1, vI 1, vR y12]) rfl (XS.aload X12.here hx rfl (hb hby d15_28) rfl rfl (XS.iload X12.here hx rfl (hb hby d15_30) rfl k)))))) ?_
    obtain ⟨_, _, ⟨T13, L13, k13, n13⟩, -, X13, ⟨Lc13, hQ13, lq13, yq13, zq13⟩, st13⟩ := Jvm.LawKit.callS X12 hx (y := MN5) hown (mg hZ hw 131 rfl) (mg hZ hw 132 rfl) (mg hZ hw 83 rfl) (mg hZ hw 133 rfl) (by decide) (backOf (W := 0) (rgc l Z a0 hw [] y12 (1 : Int32) ky12 (8 : Int32) [(.int (own_u0 c0)), (.int (own_u1 c0)), (.int (own_u0 c1)), (.int (own_u1 c1)), (.int (own_u0 c2)), (.int (own_u1 c2)), (.int (own_u0 c3)), (.int (own_u1 c3))] (own_u0 c1) (own_u1 c1) c1 T12.heap n0 Zs23 Vy12 ⟨by decide, by decide⟩ rfl ⟨by decide, by decide⟩ rfl (own_utf c1 hc1) O_22 S_ad S_hi S_lo) hZ (gw hw 133 rfl) (gw hw 83 rfl) (by decide) (by decide)) (g := (mkF m 32 #[vR a1, vI 0, vI 4, vR b1, vI 1, vR y12] [(.int 1), (.ref y12)])) rfl (by rw [hml]; rfl) (argsL := [(.ref y12), (.int 1)]) (rest := []) (lenOf pd_4 rfl) rfl (own_w rfl) (hb hby d15_32) (fun _ _ => ⟨rfl, rfl, (by decide : 2 + 0 ≤ _), (by decide : 12 + 0 ≤ _)⟩)
    dsimp only [Pt.U, Pt.locs, Pt.cells, Pt.slots] at X13 lq13 yq13 zq13 st13 hQ13
    subst lq13 yq13 zq13
    obtain ⟨rfl, N13q, e13q⟩ := hQ13
    have N13 := Fr.app N12 N13q
    have hc38_14 : (255 : Int32) < c1 := hx2_c1
    refine Go.on (B := T13.setTop (mkF m 56 #[vR a1, vI 0, vI 4, vR b1, vI 1, vR y12] [(.ref y12)])) (fun t k => st13 _ (XS.sipush X13.here hx rfl (hb hby d15_35) (XS.icmpYes X13.here hx rfl (pc0 := 38) (pc' := 54) rfl (hb hby d15_38) rfl (tlt hc38_14).2.2.1 (by decide) (by decide) (XS.aload X13.here hx rfl (hb hby d15_54) rfl rfl k)))) ?_
    refine Go.fin X13 (v := some (.ref y12)) (own_nv Bd.returns) Bd.notSynchronized ?_ e13q ⟨⟨_, _, rfl, sz_y12, Or.inr Vy12⟩, N13, K24⟩ (by decide) (by decide)
    exact fun _ hr => retOut X13 hx Bd.returns rfl (Or.inr (Or.inr (Or.inr (Or.inr ⟨rfl, rfl, rfl⟩)))) (hb hby d15_56) hr
  · have N2 := Fr.app N0 N2q
    have f25 := f1.keep K2q (ninS ne_a1_b1 nin0)
    have O_26 := O_2.keep K2q (allS ge_b1 all0)
    have Zs27 := Nat.le_trans Zs3 K2q.1
    have K28 := K4.trans K2q (allS (Or.inr sz_b1) all0)
    have hc17_16 : ¬ ((2 : Int32) = (4 : Int32)) := by decide
    refine Go.on (B := T2.setTop (mkF m 21 #[vR a1, vI 0, vI 4, vR b1, vI 2, .unset] [(.ref a1)])) (fun t k => st2 _ (XS.istore X2.here hx rfl (hb hby d15_12) rfl (l' := #[vR a1, vI 0, vI 4, vR b1, vI 2, .unset]) rfl (XS.iload X2.here hx rfl (hb hby d15_14) rfl (XS.iloadN X2.here hx rfl (hb hby d15_16) rfl (XS.icmpNo X2.here hx rfl (hb hby d15_17) rfl (feq hc17_16).1 (XS.aloadN X2.here hx rfl (hb hby d15_20) rfl rfl k)))))) ?_
    obtain ⟨_, _, ⟨T17, L17, k17, n17⟩, -, X17, ⟨Lc17, hQ17, lq17, yq17, zq17⟩, st17⟩ := Jvm.LawKit.callS X2 hx (y := MN27) hown (mg hZ hw 115 rfl) (mg hZ hw 116 rfl) (mg hZ hw 83 rfl) (mg hZ hw 117 rfl) (by decide) (backOf (W := 0) (rtb_4 l Z a0 hw [] a1 kc c0 c1 c2 c3 T2.heap n0 Zs27 f25 O_26 S_ad S_hi S_lo) hZ (gw hw 117 rfl) (gw hw 83 rfl) (by decide) (by decide)) (g := (mkF m 23 #[vR a1, vI 0, vI 4, vR b1, vI 2, .unset] [(.int 4), (.int 0), (.ref a1)])) rfl (by rw [hml]; rfl) (argsL := [(.ref a1), (.int 0), (.int 4)]) (rest := []) (lenOf pd_16 rfl) rfl (own_w rfl) (hb hby d15_23) (fun _ _ => ⟨rfl, rfl, (by decide : 1 + 1 ≤ _), (by decide : 4 + 8 ≤ _)⟩)
    dsimp only [Pt.U, Pt.locs, Pt.cells, Pt.slots] at X17 lq17 yq17 zq17 st17 hQ17
    subst lq17 yq17 zq17
    obtain ⟨⟨y17, ky17, rfl, sx17, Vy17⟩, N17q, K17q⟩ := hQ17
    have N17 := Fr.app N2 N17q
    have sz_y17 : h0.size ≤ y17 := Nat.le_trans K28.1 sx17
    have O_30 := O_26.keep K17q all0
    have Zs31 := Nat.le_trans Zs27 K17q.1
    have K32 := K28.trans K17q all0
    refine Go.on (B := T17.setTop (mkF m 32 #[vR a1, vI 0, vI 4, vR b1, vI 2, vR y17] [(.int 2), (.ref y17)])) (fun t k => XS.iloadN X2.here hx rfl (hb hby d15_21) rfl (XS.iloadN X2.here hx rfl (hb hby d15_22) rfl (st17 _ (XS.astore X17.here hx rfl (hb hby d15_26) rfl rfl (l' := #[vR a1, vI 0, vI 4, vR b1, vI 2, vR y17]) rfl (XS.aload X17.here hx rfl (hb hby d15_28) rfl rfl (XS.iload X17.here hx rfl (hb hby d15_30) rfl k)))))) ?_
    obtain ⟨_, _, ⟨T18, L18, k18, n18⟩, -, X18, ⟨Lc18, hQ18, lq18, yq18, zq18⟩, st18⟩ := Jvm.LawKit.callS X17 hx (y := MN5) hown (mg hZ hw 131 rfl) (mg hZ hw 132 rfl) (mg hZ hw 83 rfl) (mg hZ hw 133 rfl) (by decide) (backOf (W := 0) (rgc l Z a0 hw [] y17 (2 : Int32) ky17 (8 : Int32) [(.int (own_u0 c0)), (.int (own_u1 c0)), (.int (own_u0 c1)), (.int (own_u1 c1)), (.int (own_u0 c2)), (.int (own_u1 c2)), (.int (own_u0 c3)), (.int (own_u1 c3))] (own_u0 c2) (own_u1 c2) c2 T17.heap n0 Zs31 Vy17 ⟨by decide, by decide⟩ rfl ⟨by decide, by decide⟩ rfl (own_utf c2 hc2) O_30 S_ad S_hi S_lo) hZ (gw hw 133 rfl) (gw hw 83 rfl) (by decide) (by decide)) (g := (mkF m 32 #[vR a1, vI 0, vI 4, vR b1, vI 2, vR y17] [(.int 2), (.ref y17)])) rfl (by rw [hml]; rfl) (argsL := [(.ref y17), (.int 2)]) (rest := []) (lenOf pd_4 rfl) rfl (own_w rfl) (hb hby d15_32) (fun _ _ => ⟨rfl, rfl, (by decide : 2 + 0 ≤ _), (by decide : 12 + 0 ≤ _)⟩)
    dsimp only [Pt.U, Pt.locs, Pt.cells, Pt.slots] at X18 lq18 yq18 zq18 st18 hQ18
    subst lq18 yq18 zq18
    obtain ⟨rfl, N18q, e18q⟩ := hQ18
    have N18 := Fr.app N17 N18q
    have hc38_19 : (255 : Int32) < c2 := hx2_c2
    refine Go.on (B := T18.setTop (mkF m 56 #[vR a1, vI 0, vI 4, vR b1, vI 2, vR y17] [(.ref y17)])) (fun t k => st18 _ (XS.sipush X18.here hx rfl (hb hby d15_35) (XS.icmpYes X18.here hx rfl (pc0 := 38) (pc' := 54) rfl (hb hby d15_38) rfl (tlt hc38_19).2.2.1 (by decide) (by decide) (XS.aload X18.here hx rfl (hb hby d15_54) rfl rfl k)))) ?_
    refine Go.fin X18 (v := some (.ref y17)) (own_nv Bd.returns) Bd.notSynchronized ?_ e18q ⟨⟨_, _, rfl, sz_y17, Or.inr Vy17⟩, N18, K32⟩ (by decide) (by decide)
    exact fun _ hr => retOut X18 hx Bd.returns rfl (Or.inr (Or.inr (Or.inr (Or.inr ⟨rfl, rfl, rfl⟩)))) (hb hby d15_56) hr
  · have N2 := Fr.app N0 N2q
    have f33 := f1.keep K2q (ninS ne_a1_b1 nin0)
    have O_34 := O_2.keep K2q (allS ge_b1 all0)
    have Zs35 := Nat.le_trans Zs3 K2q.1
    have K36 := K4.trans K2q (allS (Or.inr sz_b1) all0)
    have hc17_21 : ¬ ((3 : Int32) = (4 : Int32)) := by decide
    refine Go.on (B := T2.setTop (mkF m 21 #[vR a1, vI 0, vI 4, vR b1, vI 3, .unset] [(.ref a1)])) (fun t k => st2 _ (XS.istore X2.here hx rfl (hb hby d15_12) rfl (l' := #[vR a1, vI 0, vI 4, vR b1, vI 3, .unset]) rfl (XS.iload X2.here hx rfl (hb hby d15_14) rfl (XS.iloadN X2.here hx rfl (hb hby d15_16) rfl (XS.icmpNo X2.here hx rfl (hb hby d15_17) rfl (feq hc17_21).1 (XS.aloadN X2.here hx rfl (hb hby d15_20) rfl rfl k)))))) ?_
    obtain ⟨_, _, ⟨T22, L22, k22, n22⟩, -, X22, ⟨Lc22, hQ22, lq22, yq22, zq22⟩, st22⟩ := Jvm.LawKit.callS X2 hx (y := MN27) hown (mg hZ hw 115 rfl) (mg hZ hw 116 rfl) (mg hZ hw 83 rfl) (mg hZ hw 117 rfl) (by decide) (backOf (W := 0) (rtb_4 l Z a0 hw [] a1 kc c0 c1 c2 c3 T2.heap n0 Zs35 f33 O_34 S_ad S_hi S_lo) hZ (gw hw 117 rfl) (gw hw 83 rfl) (by decide) (by decide)) (g := (mkF m 23 #[vR a1, vI 0, vI 4, vR b1, vI 3, .unset] [(.int 4), (.int 0), (.ref a1)])) rfl (by rw [hml]; rfl) (argsL := [(.ref a1), (.int 0), (.int 4)]) (rest := []) (lenOf pd_16 rfl) rfl (own_w rfl) (hb hby d15_23) (fun _ _ => ⟨rfl, rfl, (by decide : 1 + 1 ≤ _), (by decide : 4 + 8 ≤ _)⟩)
    dsimp only [Pt.U, Pt.locs, Pt.cells, Pt.slots] at X22 lq22 yq22 zq22 st22 hQ22
    subst lq22 yq22 zq22
    obtain ⟨⟨y22, ky22, rfl, sx22, Vy22⟩, N22q, K22q⟩ := hQ22
    have N22 := Fr.app N2 N22q
    have sz_y22 : h0.size ≤ y22 := Nat.le_trans K36.1 sx22
    have O_38 := O_34.keep K22q all0
    have Zs39 := Nat.le_trans Zs35 K22q.1
    have K40 := K36.trans K22q all0
    refine Go.on (B := T22.setTop (mkF m 32 #[vR a1, vI 0, vI 4, vR b1, vI 3, vR y22] [(.int 3), (.ref y22)])) (fun t k => XS.iloadN X2.here hx rfl (hb hby d15_21) rfl (XS.iloadN X2.here hx rfl (hb hby d15_22) rfl (st22 _ (XS.astore X22.here hx rfl (hb hby d15_26) rfl rfl (l' := #[vR a1, vI 0, vI 4, vR b1, vI 3, vR y22]) rfl (XS.aload X22.here hx rfl (hb hby d15_28) rfl rfl (XS.iload X22.here hx rfl (hb hby d15_30) rfl k)))))) ?_
    obtain ⟨_, _, ⟨T23, L23, k23, n23⟩, -, X23, ⟨Lc23, hQ23, lq23, yq23, zq23⟩, st23⟩ := Jvm.LawKit.callS X22 hx (y := MN5) hown (mg hZ hw 131 rfl) (mg hZ hw 132 rfl) (mg hZ hw 83 rfl) (mg hZ hw 133 rfl) (by decide) (backOf (W := 0) (rgc l Z a0 hw [] y22 (3 : Int32) ky22 (8 : Int32) [(.int (own_u0 c0)), (.int (own_u1 c0)), (.int (own_u0 c1)), (.int (own_u1 c1)), (.int (own_u0 c2)), (.int (own_u1 c2)), (.int (own_u0 c3)), (.int (own_u1 c3))] (own_u0 c3) (own_u1 c3) c3 T22.heap n0 Zs39 Vy22 ⟨by decide, by decide⟩ rfl ⟨by decide, by decide⟩ rfl (own_utf c3 hc3) O_38 S_ad S_hi S_lo) hZ (gw hw 133 rfl) (gw hw 83 rfl) (by decide) (by decide)) (g := (mkF m 32 #[vR a1, vI 0, vI 4, vR b1, vI 3, vR y22] [(.int 3), (.ref y22)])) rfl (by rw [hml]; rfl) (argsL := [(.ref y22), (.int 3)]) (rest := []) (lenOf pd_4 rfl) rfl (own_w rfl) (hb hby d15_32) (fun _ _ => ⟨rfl, rfl, (by decide : 2 + 0 ≤ _), (by decide : 12 + 0 ≤ _)⟩)
    dsimp only [Pt.U, Pt.locs, Pt.cells, Pt.slots] at X23 lq23 yq23 zq23 st23 hQ23
    subst lq23 yq23 zq23
    obtain ⟨rfl, N23q, e23q⟩ := hQ23
    have N23 := Fr.app N22 N23q
    have hc38_24 : (255 : Int32) < c3 := hx2_c3
    refine Go.on (B := T23.setTop (mkF m 56 #[vR a1, vI 0, vI 4, vR b1, vI 3, vR y22] [(.ref y22)])) (fun t k => st23 _ (XS.sipush X23.here hx rfl (hb hby d15_35) (XS.icmpYes X23.here hx rfl (pc0 := 38) (pc' := 54) rfl (hb hby d15_38) rfl (tlt hc38_24).2.2.1 (by decide) (by decide) (XS.aload X23.here hx rfl (hb hby d15_54) rfl rfl k)))) ?_
    refine Go.fin X23 (v := some (.ref y22)) (own_nv Bd.returns) Bd.notSynchronized ?_ e23q ⟨⟨_, _, rfl, sz_y22, Or.inr Vy22⟩, N23, K40⟩ (by decide) (by decide)
    exact fun _ hr => retOut X23 hx Bd.returns rfl (Or.inr (Or.inr (Or.inr (Or.inr ⟨rfl, rfl, rfl⟩)))) (hb hby d15_56) hr
theorem ef_ri4_4 (m : MethodId) (a1 : Addr) (a2 : Addr) : entryFrame m #[(.ref a1), (.ref a2), (.int 0), (.int 4), .null] 6 = mkF m 0 #[vR a1, vR a2, vI 0, vI 4, .val .null, .unset] [] := rfl
def Q_ri4_4 (Z : State) (a1 : Addr) (a2 : Addr) (kc : ClassId) (c0 c1 c2 c3 : Int32) (G1 : Int32) (h0 : Heap) (n0 : Nat) (v : Option Value) (h : Heap) (L : List Loc) : Prop := v = none ∧ Fr n0 L ∧ Keep h0 h [a1] ∧ Exa Z h a1 "java/lang/String" ∧ ∃ (b : Addr) (kb : ClassId), h0.size ≤ b ∧ Fld Z h a1 "java/lang/String" "value" "[B" (.ref b) ∧ ((Fld Z h a1 "java/lang/String" "coder" "B" (.int 0) ∧ Arv Z h b kb .byte (4 : Int32) [(.int (own_l c0)), (.int (own_l c1)), (.int (own_l c2)), (.int (own_l c3))] (.int 0) ∧ ¬ ((255 : Int32) < c0) ∧ ¬ ((255 : Int32) < c1) ∧ ¬ ((255 : Int32) < c2) ∧ ¬ ((255 : Int32) < c3)) ∨ (Fld Z h a1 "java/lang/String" "coder" "B" (.int 1) ∧ Arv Z h b kb .byte (8 : Int32) [(.int (own_u0 c0)), (.int (own_u1 c0)), (.int (own_u0 c1)), (.int (own_u1 c1)), (.int (own_u0 c2)), (.int (own_u1 c2)), (.int (own_u0 c3)), (.int (own_u1 c3))] (.int 0)))
theorem ri4_4 (l : Launch) (Z : State) (a0 : Array Value) (hw : ∀ d ∈ tables_1, d.before a0 Z = true) (ws : List Jvm.Cond) (a1 : Addr) (a2 : Addr) (kc : ClassId) (c0 c1 c2 c3 : Int32) (G1 : Int32) (h0 : Heap) (n0 : Nat) (Z0 : n0 ≤ h0.size) (E1 : Exa Z h0 a1 "java/lang/String") (F_vl : Fld Z h0 a1 "java/lang/String" "value" "[B" .null) (F_cd : Fld Z h0 a1 "java/lang/String" "coder" "B" (.int 0)) (g1 : n0 ≤ a1) (V2 : Arv Z h0 a2 kc .char (4 : Int32) [(.int c0), (.int c1), (.int c2), (.int c3)] (.int 0)) (hne : a2 ≠ a1) (hc0 : 0 ≤ c0.toInt ∧ c0.toInt ≤ 65535) (hc1 : 0 ≤ c1.toInt ∧ c1.toInt ≤ 65535) (hc2 : 0 ≤ c2.toInt ∧ c2.toInt ≤ 65535) (hc3 : 0 ≤ c3.toInt ∧ c3.toInt ≤ 65535) (O0 : Old Z n0 h0) (S_cs : own_S_cs Z G1) (S_ad : own_S_ad Z) (S_hi : own_S_hi Z) (S_lo : own_S_lo Z) (P5 : ¬ (G1 = (0 : Int32))) :
    MetFree l MN30 (head1 (Jvm.Cond.code MN30 jdk_42_method_149_code 6 none :: ws) (rK 4 2 12 90)) (fun a U => a = #[(.ref a1), (.ref a2), (.int 0), (.int 4), .null] ∧ Z.Warmed39 U.vm ∧ U.heap = h0) (fun _ _ _ _ _ => True) (fun _ U o U' => ∃ v L, o = .returned v ∧ Q_ri4_4 Z a1 a2 kc c0 c1 c2 c3 G1 h0 n0 v U'.heap L ∧ FrameEnd U o U' L (rK 4 2 12 90).cells (rK 4 2 12 90).slots) := by
  refine MetFree.of_bodySF (plainFor_of_name pn_5) hisR ?_
  intro p e s m args below meth c sB Bd hml0 hP hK
  obtain ⟨rfl, hZ, hh⟩ := hP
  have hx := Bd.exec
  have hby := Bd.bytes
  have hml : c.maxLocals = 6 := hml0
  have hown : s.vm.findClass "java/lang/String" = some m.cls := findClass_of_methodNamed Bd.named
  have hnm := (name_of_methodNamed Bd.named Bd.method).1
  have X0 : Stand p l e (rK 4 2 12 90) s m #[(.ref a1), (.ref a2), (.int 0), (.int 4), .null] below meth c sB [] 0 0 := Stand.of_body Bd
  have e0 : sB.heap = h0 := by rw [← hh, Bd.state]; rfl
  have N0 := Fr.nil n0
  change Go p.tables e below _ _
  have K0 := Keep.refl h0 [a1]
  refine Go.on (B := sB.setTop (mkF m 0 #[vR a1, vR a2, vI 0, vI 4, .val .null, .unset] [])) (fun t k => castTop (ef_ri4_4 m a1 a2) k) ?_
  obtain ⟨T1, X1, e1, st1⟩ := initO X0 hx hZ hown (gw hw 16 rfl) (gw hw 17 rfl) (gw hw 18 rfl) e0 (g := (mkF m 1 #[vR a1, vR a2, vI 0, vI 4, .val .null, .unset] [(.ref a1)])) rfl (by rw [hml]; rfl) rfl (hb hby d3_1) (by decide) (W := 0) (own_w rfl) (by decide)
  have hc5_2 : ¬ ((4 : Int32) = (0 : Int32)) := by decide
  obtain ⟨T3, X3, e3, st3⟩ := getS2 X1 hx hZ hown (host := "") (Or.inl (gw hw 63 rfl)) Via.refl e1 (S_cs.ext O0.2) (g := (mkF m 27 #[vR a1, vR a2, vI 0, vI 4, .val .null, .unset] [])) rfl (hb hby d3_27)
  have hc30_4 : ¬ (G1 = (0 : Int32)) := P5
  refine Go.on (B := T3.setTop (mkF m 33 #[vR a1, vR a2, vI 0, vI 4, .val .null, .unset] [])) (fun t k => XS.aloadN X0.here hx rfl (hb hby d3_0) rfl rfl (st1 _ (XS.iloadN X1.here hx rfl (hb hby d3_4) rfl (XS.ifYes X1.here hx rfl (pc0 := 5) (pc' := 27) rfl (hb hby d3_5) rfl ((if0 _ _).trans (feq hc5_2).2) (by decide) (by decide) (st3 _ (XS.ifNo X3.here hx rfl (hb hby d3_30) rfl ((if0 _ _).trans (feq hc30_4).1) k)))))) ?_
  obtain ⟨_, _, ⟨T5, L5, k5, n5⟩, -, X5, ⟨Lc5, hQ5, lq5, yq5, zq5⟩, st5⟩ := Jvm.LawKit.callS X3 hx (y := MN29) hown (mg hZ hw 81 rfl) (mg hZ hw 82 rfl) (mg hZ hw 83 rfl) (mg hZ hw 84 rfl) (by decide) (backOf (W := 0) (rc3_4 l Z a0 hw [] a2 kc c0 c1 c2 c3 h0 n0 Z0 V2 hc0 hc1 hc2 hc3 O0 S_ad S_hi S_lo) hZ (gw hw 84 rfl) (gw hw 83 rfl) (by decide) (by decide)) (g := (mkF m 36 #[vR a1, vR a2, vI 0, vI 4, .val .null, .unset] [(.int 4), (.int 0), (.ref a2)])) rfl (by rw [hml]; rfl) (argsL := [(.ref a2), (.int 0), (.int 4)]) (rest := []) (lenOf pd_16 rfl) rfl (own_w rfl) (hb hby d3_36) (fun _ _ => ⟨rfl, e3, (by decide : 0 + 2 ≤ _), (by decide : 0 + 12 ≤ _)⟩)
  dsimp only [Pt.U, Pt.locs, Pt.cells, Pt.slots] at X5 lq5 yq5 zq5 st5 hQ5
  subst lq5 yq5 zq5
  refine Go.on (B := T3.setTop (mkF m 36 #[vR a1, vR a2, vI 0, vI 4, .val .null, .unset] [(.int 4), (.int 0), (.ref a2)])) (fun t k => XS.aloadN X3.here hx rfl (hb hby d3_33) rfl rfl (XS.iloadN X3.here hx rfl (hb hby d3_34) rfl (XS.iloadN X3.here hx rfl (hb hby d3_35) rfl k))) ?_
  rcases hQ5 with ⟨⟨y5, ky5, rfl, sx5, ⟨Vy5, hx5_c0, hx5_c1, hx5_c2, hx5_c3⟩ | Vy5⟩, N5q, K5q⟩
  · have N5 := Fr.app N0 N5q
    have ne_a1_y5 : a1 ≠ y5 := Nat.ne_of_lt (Nat.lt_of_lt_of_le E1.lt sx5)
    have sz_y5 : h0.size ≤ y5 := Nat.le_trans K0.1 sx5
    have f1 := E1.keep K5q
    have f2 := F_vl.keep K5q nin0
    have f3 := F_cd.keep K5q nin0
    have Zs6 := Nat.le_trans Z0 K5q.1
    have K7 := K0.trans K5q all0
    obtain ⟨_, _, ⟨T6, L6, k6, n6⟩, -, X6, ⟨Lc6, hQ6, lq6, yq6, zq6⟩, st6⟩ := Jvm.LawKit.callS X5 hx (y := MN25) hown (mg hZ hw 88 rfl) (mg hZ hw 89 rfl) (mg hZ hw 83 rfl) (mg hZ hw 90 rfl) (by decide) (backOf (W := 1) (rcdg l Z a0 hw [] y5 (4 : Int32) ky5 (4 : Int32) [(.int (own_l c0)), (.int (own_l c1)), (.int (own_l c2)), (.int (own_l c3))] (0 : Int32) T5.heap n0 Zs6 Vy5 (by decide)) hZ (gw hw 90 rfl) (gw hw 83 rfl) (by decide) (by decide)) (g := (mkF m 45 #[vR a1, vR a2, vI 0, vI 4, .val .null, vR y5] [(.int 4), (.ref y5), (.ref a1)])) rfl (by rw [hml]; rfl) (argsL := [(.ref y5), (.int 4)]) (rest := [(.ref a1)]) (lenOf pd_17 rfl) rfl (own_w rfl) (hb hby d3_45) (fun _ _ => ⟨rfl, rfl, (by decide : 2 + 0 ≤ _), (by decide : 12 + 0 ≤ _)⟩)
    dsimp only [Pt.U, Pt.locs, Pt.cells, Pt.slots] at X6 lq6 yq6 zq6 st6 hQ6
    subst lq6 yq6 zq6
    obtain ⟨rfl, N6q, e6q⟩ := hQ6
    have N6 := Fr.app N5 N6q
    refine Go.on (B := T6.setTop (mkF m 48 #[vR a1, vR a2, vI 0, vI 4, .val .null, vR y5] [(.int 0), (.ref a1)])) (fun t k => st5 _ (XS.astore X5.here hx rfl (hb hby d3_39) rfl rfl (l' := #[vR a1, vR a2, vI 0, vI 4, .val .null, vR y5]) rfl (XS.aloadN X5.here hx rfl (hb hby d3_41) rfl rfl (XS.aload X5.here hx rfl (hb hby d3_42) rfl rfl (XS.iloadN X5.here hx rfl (hb hby d3_44) rfl (st6 _ k)))))) ?_
    obtain ⟨T7, h7, X7, e7, W7, st7⟩ := putFN X6 hx hZ hown (gw hw 26 rfl) Via.refl e6q f3 f1 (Or.inr ⟨(gw hw 22 rfl), rfl, hnm⟩) (gw hw 7 rfl) (ty := .byte) (v' := (.int 0)) (by decide) rfl (by decide) (g := (mkF m 48 #[vR a1, vR a2, vI 0, vI 4, .val .null, vR y5] [(.int 0), (.ref a1)])) rfl rfl (hb hby d3_48)
    have N7 := Fr.snoc X7 N6 g1
    have Fw7 := f3.same W7
    have f8 := f1.wr W7
    have f9 := f2.other W7 (Or.inr (slot_ne (Or.inr (gw hw 21 rfl)) (Or.inr (gw hw 22 rfl)) (by decide) (t := (.array .byte)) (t' := .byte) (by decide) (by decide)))
    have f12 := Vy5.other W7 (Ne.symm ne_a1_y5)
    have K14 := K7.wr W7 (Or.inl (List.mem_of_getElem? (i := 0) rfl))
    obtain ⟨T8, h8, X8, e8, W8, st8⟩ := putF X7 hx hZ hown (host := "") (Or.inl (gw hw 25 rfl)) Via.refl e7 f9 f8 (Or.inr ⟨(gw hw 21 rfl), rfl, hnm⟩) (gw hw 7 rfl) (ty := (.array .byte)) (by decide) rfl rfl (g := (mkF m 54 #[vR a1, vR a2, vI 0, vI 4, .val .null, vR y5] [(.ref y5), (.ref a1)])) rfl rfl (hb hby d3_54)
    have N8 := Fr.snoc X8 N7 g1
    have Fw8 := f9.same W8
    have f15 := f8.wr W8
    have f16 := Fw7.other W8 (Or.inr (slot_ne (Or.inr (gw hw 22 rfl)) (Or.inr (gw hw 21 rfl)) (by decide) (t := .byte) (t' := (.array .byte)) (by decide) (by decide)))
    have f19 := f12.other W8 (Ne.symm ne_a1_y5)
    have K21 := K14.wr W8 (Or.inl (List.mem_of_getElem? (i := 0) rfl))
    refine Go.on (B := T8.setTop (mkF m 57 #[vR a1, vR a2, vI 0, vI 4, .val .null, vR y5] [])) (fun t k => st7 _ (XS.aloadN X7.here hx rfl (hb hby d3_51) rfl rfl (XS.aload X7.here hx rfl (hb hby d3_52) rfl rfl (st8 _ k)))) ?_
    refine Go.fin X8 (v := none) (fun _ => rfl) Bd.notSynchronized ?_ e8 ⟨rfl, N8, K21, f15, _, _, sz_y5, Fw8, Or.inl ⟨f16, f19, hx5_c0, hx5_c1, hx5_c2, hx5_c3⟩⟩ (by decide) (by decide)
    exact fun _ hr => X8.returnOut hx Bd.returns (hb hby d3_57) hr
  · have N5 := Fr.app N0 N5q
    have ne_a1_y5 : a1 ≠ y5 := Nat.ne_of_lt (Nat.lt_of_lt_of_le E1.lt sx5)
    have sz_y5 : h0.size ≤ y5 := Nat.le_trans K0.1 sx5
    have f22 := E1.keep K5q
    have f23 := F_vl.keep K5q nin0
    have f24 := F_cd.keep K5q nin0
    have Zs27 := Nat.le_trans Z0 K5q.1
    have K28 := K0.trans K5q all0
    obtain ⟨_, _, ⟨T9, L9, k9, n9⟩, -, X9, ⟨Lc9, hQ9, lq9, yq9, zq9⟩, st9⟩ := Jvm.LawKit.callS X5 hx (y := MN25) hown (mg hZ hw 88 rfl) (mg hZ hw 89 rfl) (mg hZ hw 83 rfl) (mg hZ hw 90 rfl) (by decide) (backOf (W := 1) (rcdg l Z a0 hw [] y5 (4 : Int32) ky5 (8 : Int32) [(.int (own_u0 c0)), (.int (own_u1 c0)), (.int (own_u0 c1)), (.int (own_u1 c1)), (.int (own_u0 c2)), (.int (own_u1 c2)), (.int (own_u0 c3)), (.int (own_u1 c3))] (1 : Int32) T5.heap n0 Zs27 Vy5 (by decide)) hZ (gw hw 90 rfl) (gw hw 83 rfl) (by decide) (by decide)) (g := (mkF m 45 #[vR a1, vR a2, vI 0, vI 4, .val .null, vR y5] [(.int 4), (.ref y5), (.ref a1)])) rfl (by rw [hml]; rfl) (argsL := [(.ref y5), (.int 4)]) (rest := [(.ref a1)]) (lenOf pd_17 rfl) rfl (own_w rfl) (hb hby d3_45) (fun _ _ => ⟨rfl, rfl, (by decide : 2 + 0 ≤ _), (by decide : 12 + 0 ≤ _)⟩)
    dsimp only [Pt.U, Pt.locs, Pt.cells, Pt.slots] at X9 lq9 yq9 zq9 st9 hQ9
    subst lq9 yq9 zq9
    obtain ⟨rfl, N9q, e9q⟩ := hQ9
    have N9 := Fr.app N5 N9q
    refine Go.on (B := T9.setTop (mkF m 48 #[vR a1, vR a2, vI 0, vI 4, .val .null, vR y5] [(.int 1), (.ref a1)])) (fun t k => st5 _ (XS.astore X5.here hx rfl (hb hby d3_39) rfl rfl (l' := #[vR a1, vR a2, vI 0, vI 4, .val .null, vR y5]) rfl (XS.aloadN X5.here hx rfl (hb hby d3_41) rfl rfl (XS.aload X5.here hx rfl (hb hby d3_42) rfl rfl (XS.iloadN X5.here hx rfl (hb hby d3_44) rfl (st9 _ k)))))) ?_
    obtain ⟨T10, h10, X10, e10, W10, st10⟩ := putFN X9 hx hZ hown (gw hw 26 rfl) Via.refl e9q f24 f22 (Or.inr ⟨(gw hw 22 rfl), rfl, hnm⟩) (gw hw 7 rfl) (ty := .byte) (v' := (.int 1)) (by decide) rfl (by decide) (g := (mkF m 48 #[vR a1, vR a2, vI 0, vI 4, .val .null, vR y5] [(.int 1), (.ref a1)])) rfl rfl (hb hby d3_48)
    have N10 := Fr.snoc X10 N9 g1
    have Fw10 := f24.same W10
    have f29 := f22.wr W10
    have f30 := f23.other W10 (Or.inr (slot_ne (Or.inr (gw hw 21 rfl)) (Or.inr (gw hw 22 rfl)) (by decide) (t := (.array .byte)) (t' := .byte) (by decide) (by decide)))
    have f33 := Vy5.other W10 (Ne.symm ne_a1_y5)
    have K35 := K28.wr W10 (Or.inl (List.mem_of_getElem? (i := 0) rfl))
    obtain ⟨T11, h11, X11, e11, W11, st11⟩ := putF X10 hx hZ hown (host := "") (Or.inl (gw hw 25 rfl)) Via.refl e10 f30 f29 (Or.inr ⟨(gw hw 21 rfl), rfl, hnm⟩) (gw hw 7 rfl) (ty := (.array .byte)) (by decide) rfl rfl (g := (mkF m 54 #[vR a1, vR a2, vI 0, vI 4, .val .null, vR y5] [(.ref y5), (.ref a1)])) rfl rfl (hb hby d3_54)
    have N11 := Fr.snoc X11 N10 g1
    have Fw11 := f30.same W11
    have f36 := f29.wr W11
    have f37 := Fw10.other W11 (Or.inr (slot_ne (Or.inr (gw hw 22 rfl)) (Or.inr (gw hw 21 rfl)) (by decide) (t := .byte) (t' := (.array .byte)) (by decide) (by decide)))
    have f40 := f33.other W11 (Ne.symm ne_a1_y5)
    have K42 := K35.wr W11 (Or.inl (List.mem_of_getElem? (i := 0) rfl))
    refine Go.on (B := T11.setTop (mkF m 57 #[vR a1, vR a2, vI 0, vI 4, .val .null, vR y5] [])) (fun t k => st10 _ (XS.aloadN X10.here hx rfl (hb hby d3_51) rfl rfl (XS.aload X10.here hx rfl (hb hby d3_52) rfl rfl (st11 _ k)))) ?_
    refine Go.fin X11 (v := none) (fun _ => rfl) Bd.notSynchronized ?_ e11 ⟨rfl, N11, K42, f36, _, _, sz_y5, Fw11, Or.inr ⟨f37, f40⟩⟩ (by decide) (by decide)
    exact fun _ hr => X11.returnOut hx Bd.returns (hb hby d3_57) hr
def Q_ri1_4 (Z : State) (a1 : Addr) (a2 : Addr) (kc : ClassId) (c0 c1 c2 c3 : Int32) (G1 : Int32) (h0 : Heap) (n0 : Nat) (v : Option Value) (h : Heap) (L : List Loc) : Prop := v = none ∧ Fr n0 L ∧ Keep h0 h [a1] ∧ Exa Z h a1 "java/lang/String" ∧ ∃ (b : Addr) (kb : ClassId), h0.size ≤ b ∧ Fld Z h a1 "java/lang/String" "value" "[B" (.ref b) ∧ ((Fld Z h a1 "java/lang/String" "coder" "B" (.int 0) ∧ Arv Z h b kb .byte (4 : Int32) [(.int (own_l c0)), (.int (own_l c1)), (.int (own_l c2)), (.int (own_l c3))] (.int 0) ∧ ¬ ((255 : Int32) < c0) ∧ ¬ ((255 : Int32) < c1) ∧ ¬ ((255 : Int32) < c2) ∧ ¬ ((255 : Int32) < c3)) ∨ (Fld Z h a1 "java/lang/String" "coder" "B" (.int 1) ∧ Arv Z h b kb .byte (8 : Int32) [(.int (own_u0 c0)), (.int (own_u1 c0)), (.int (own_u0 c1)), (.int (own_u1 c1)), (.int (own_u0 c2)), (.int (own_u1 c2)), (.int (own_u0 c3)), (.int (own_u1 c3))] (.int 0)))
theorem ri1_4 (l : Launch) (Z : State) (a0 : Array Value) (hw : ∀ d ∈ tables_1, d.before a0 Z = true) (ws : List Jvm.Cond) (a1 : Addr) (a2 : Addr) (kc : ClassId) (c0 c1 c2 c3 : Int32) (G1 : Int32) (h0 : Heap) (n0 : Nat) (Z0 : n0 ≤ h0.size) (E1 : Exa Z h0 a1 "java/lang/String") (F_vl : Fld Z h0 a1 "java/lang/String" "value" "[B" .null) (F_cd : Fld Z h0 a1 "java/lang/String" "coder" "B" (.int 0)) (g1 : n0 ≤ a1) (V2 : Arv Z h0 a2 kc .char (4 : Int32) [(.int c0), (.int c1), (.int c2), (.int c3)] (.int 0)) (hne : a2 ≠ a1) (hc0 : 0 ≤ c0.toInt ∧ c0.toInt ≤ 65535) (hc1 : 0 ≤ c1.toInt ∧ c1.toInt ≤ 65535) (hc2 : 0 ≤ c2.toInt ∧ c2.toInt ≤ 65535) (hc3 : 0 ≤ c3.toInt ∧ c3.toInt ≤ 65535) (O0 : Old Z n0 h0) (S_cs : own_S_cs Z G1) (S_ad : own_S_ad Z) (S_hi : own_S_hi Z) (S_lo : own_S_lo Z) (P5 : ¬ (G1 = (0 : Int32))) :
    MetFree l MN31 (head1 (Jvm.Cond.code MN31 jdk_42_method_3_code 2 none :: ws) (rK 5 2 12 120)) (fun a U => a = #[(.ref a1), (.ref a2)] ∧ Z.Warmed39 U.vm ∧ U.heap = h0) (fun _ _ _ _ _ => True) (fun _ U o U' => ∃ v L, o = .returned v ∧ Q_ri1_4 Z a1 a2 kc c0 c1 c2 c3 G1 h0 n0 v U'.heap L ∧ FrameEnd U o U' L (rK 5 2 12 120).cells (rK 5 2 12 120).slots) := by
  refine MetFree.of_bodySF (plainFor_of_name pn_5) hisR ?_
  intro p e s m args below meth c sB Bd hml0 hP hK
  obtain ⟨rfl, hZ, hh⟩ := hP
  have hx := Bd.exec
  have hby := Bd.bytes
  have hml : c.maxLocals = 2 := hml0
  have hown : s.vm.findClass "java/lang/String" = some m.cls := findClass_of_methodNamed Bd.named
  have X0 : Stand p l e (rK 5 2 12 120) s m #[(.ref a1), (.ref a2)] below meth c sB [] 0 0 := Stand.of_body Bd
  have e0 : sB.heap = h0 := by rw [← hh, Bd.state]; rfl
  have N0 := Fr.nil n0
  change Go p.tables e below _ _
  have K0 := Keep.refl h0 [a1]
  refine Go.on (B := sB.setTop (mkF m 0 #[vR a1, vR a2] [])) (fun t k => castTop (ef_ri1_1 m a1 a2) k) ?_
  obtain ⟨cl1, Ar1, -, Sz1, Ng1, -, -⟩ := id V2
  refine Go.on (B := sB.setTop (mkF m 6 #[vR a1, vR a2] [.null, (.int 4), (.int 0), (.ref a2), (.ref a1)])) (fun t k => XS.aloadN X0.here hx rfl (hb hby d2_0) rfl rfl (XS.aloadN X0.here hx rfl (hb hby d2_1) rfl rfl (XS.iconst X0.here hx rfl (hb hby d2_2) (XS.aloadN X0.here hx rfl (hb hby d2_3) rfl rfl (X0.arraylength hx (by rw [e0]; exact Ar1.1) (State.isArrayOf_alike hZ.alike Ar1.2.1) (g := (mkF m 4 #[vR a1, vR a2] [(.ref a2), (.int 0), (.ref a2), (.ref a1)])) rfl rfl (hb hby d2_4) _ (by rw [len_of Sz1 Ng1]; exact (XS.aconstNull X0.here hx rfl (hb hby d2_5) k))))))) ?_
  obtain ⟨_, _, ⟨T2, L2, k2, n2⟩, -, X2, ⟨Lc2, hQ2, lq2, yq2, zq2⟩, st2⟩ := X0.specialBack hx (y := MN30) rfl hown (mg hZ hw 12 rfl) (mg hZ hw 13 rfl) (mg hZ hw 15 rfl) (by decide) (backOf (W := 0) (ri4_4 l Z a0 hw [] a1 a2 kc c0 c1 c2 c3 G1 h0 n0 Z0 E1 F_vl F_cd g1 V2 hne hc0 hc1 hc2 hc3 O0 S_cs S_ad S_hi S_lo P5) hZ (gw hw 15 rfl) (gw hw 8 rfl) (by decide) (by decide)) (g := (mkF m 6 #[vR a1, vR a2] [.null, (.int 4), (.int 0), (.ref a2), (.ref a1)])) rfl (by rw [hml]; rfl) (Steps.refl _) (a := a1) (argsL := [(.ref a2), (.int 0), (.int 4), .null]) (rest := []) (lenOf pd_18 rfl) rfl (own_w rfl) (hb hby d2_6) (fun _ _ => ⟨rfl, e0, (by decide : 0 + 2 ≤ _), (by decide : 0 + 12 ≤ _)⟩)
  dsimp only [Pt.U, Pt.locs, Pt.cells, Pt.slots] at X2 lq2 yq2 zq2 st2 hQ2
  subst lq2 yq2 zq2
  rcases hQ2 with ⟨rfl, N2q, K2q, E2q, y2, ky2, sx2, Fv2, ⟨Fc2, Vy2, hx2_0, hx2_1, hx2_2, hx2_3⟩ | ⟨Fc2, Vy2⟩⟩
  · have N2 := Fr.app N0 N2q
    have sz_y2 : h0.size ≤ y2 := Nat.le_trans K0.1 sx2
    have K5 := K0.trans K2q (allS (Or.inl (List.mem_of_getElem? (i := 0) rfl)) all0)
    refine Go.on (B := T2.setTop (mkF m 9 #[vR a1, vR a2] [])) (fun t k => st2.trans k) ?_
    refine Go.fin X2 (v := none) (fun _ => rfl) Bd.notSynchronized ?_ rfl ⟨rfl, N2, K5, E2q, _, _, sz_y2, Fv2, Or.inl ⟨Fc2, Vy2, hx2_0, hx2_1, hx2_2, hx2_3⟩⟩ (by decide) (by decide)
    exact fun _ hr => X2.returnOut hx Bd.returns (hb hby d2_9) hr
  · have N2 := Fr.app N0 N2q
    have sz_y2 : h0.size ≤ y2 := Nat.le_trans K0.1 sx2
    have K10 := K0.trans K2q (allS (Or.inl (List.mem_of_getElem? (i := 0) rfl)) all0)
    refine Go.on (B := T2.setTop (mkF m 9 #[vR a1, vR a2] [])) (fun t k => st2.trans k) ?_
    refine Go.fin X2 (v := none) (fun _ => rfl) Bd.notSynchronized ?_ rfl ⟨rfl, N2, K10, E2q, _, _, sz_y2, Fv2, Or.inr ⟨Fc2, Vy2⟩⟩ (by decide) (by decide)
    exact fun _ hr => X2.returnOut hx Bd.returns (hb hby d2_9) hr
theorem d34_0 : decode BC24 0 = .ok (.iload_n 1, 1) := by decide +kernel
theorem d34_1 : decode BC24 1 = .ok (.iload 4, 2) := by decide +kernel
theorem d34_3 : decode BC24 3 = .ok (.aload_n 0, 1) := by decide +kernel
theorem d34_4 : decode BC24 4 = .ok (.invokestatic 173, 3) := by decide +kernel
theorem d34_7 : decode BC24 7 = .ok (.iconst 0, 1) := by decide +kernel
theorem d34_8 : decode BC24 8 = .ok (.istore 5, 2) := by decide +kernel
theorem d34_10 : decode BC24 10 = .ok (.iload 5, 2) := by decide +kernel
theorem d34_12 : decode BC24 12 = .ok (.iload 4, 2) := by decide +kernel
theorem d34_14 : decode BC24 14 = .ok (.if_icmp .ge 39, 3) := by decide +kernel
theorem d34_17 : decode BC24 17 = .ok (.aload_n 0, 1) := by decide +kernel
theorem d34_18 : decode BC24 18 = .ok (.iload_n 1, 1) := by decide +kernel
theorem d34_19 : decode BC24 19 = .ok (.invokestatic 71, 3) := by decide +kernel
theorem d34_22 : decode BC24 22 = .ok (.istore 6, 2) := by decide +kernel
theorem d34_24 : decode BC24 24 = .ok (.iload 6, 2) := by decide +kernel
theorem d34_26 : decode BC24 26 = .ok (.sipush 255, 3) := by decide +kernel
theorem d34_29 : decode BC24 29 = .ok (.if_icmp .le 6, 3) := by decide +kernel
theorem d34_32 : decode BC24 32 = .ok (.iload 5, 2) := by decide +kernel
theorem d34_34 : decode BC24 34 = .ok (.ireturn, 1) := by decide +kernel
theorem d34_35 : decode BC24 35 = .ok (.aload_n 2, 1) := by decide +kernel
theorem d34_36 : decode BC24 36 = .ok (.iload_n 3, 1) := by decide +kernel
theorem d34_37 : decode BC24 37 = .ok (.iload 6, 2) := by decide +kernel
theorem d34_39 : decode BC24 39 = .ok (.i2b, 1) := by decide +kernel
theorem d34_40 : decode BC24 40 = .ok (.bastore, 1) := by decide +kernel
theorem d34_41 : decode BC24 41 = .ok (.iinc 1 1, 3) := by decide +kernel
theorem d34_44 : decode BC24 44 = .ok (.iinc 3 1, 3) := by decide +kernel
theorem d34_47 : decode BC24 47 = .ok (.iinc 5 1, 3) := by decide +kernel
theorem d34_50 : decode BC24 50 = .ok (.goto (-40), 3) := by decide +kernel
theorem d34_53 : decode BC24 53 = .ok (.iload 4, 2) := by decide +kernel
theorem d34_55 : decode BC24 55 = .ok (.ireturn, 1) := by decide +kernel
theorem pd_19 : parseMethodDescriptor "(II[B)V" = some ⟨[.int, .int, (.array .byte)], none⟩ := by decide +kernel
theorem ef_rb5_1 (m : MethodId) (a1 : Addr) (p2 : Int32) (a3 : Addr) : entryFrame m #[(.ref a1), (.int p2), (.ref a3), (.int 0), (.int 1)] 7 = mkF m 0 #[vR a1, vI p2, vR a3, vI 0, vI 1, .unset, .unset] [] := rfl
def Q_rb5_1 (Z : State) (a1 : Addr) (p2 : Int32) (a3 : Addr) (k1 : ClassId) (z1 : Int32) (vs : List Value) (k3 : ClassId) (z2 : Int32) (c0 : Int32) (G3 : Value) (h0 : Heap) (n0 : Nat) (v : Option Value) (h : Heap) (L : List Loc) : Prop := ((v = some (.int 1) ∧ Arv Z h a3 k3 .byte (1 : Int32) [(.int (own_l c0))] (.int 0) ∧ ¬ ((255 : Int32) < c0)) ∨ (v = some (.int 0) ∧ (255 : Int32) < c0)) ∧ Fr n0 L ∧ Keep h0 h [a3]
theorem rb5_1 (l : Launch) (Z : State) (a0 : Array Value) (hw : ∀ d ∈ tables_1, d.before a0 Z = true) (ws : List Jvm.Cond) (a1 : Addr) (p2 : Int32) (a3 : Addr) (k1 : ClassId) (z1 : Int32) (vs : List Value) (k3 : ClassId) (z2 : Int32) (c0 : Int32) (G3 : Value) (h0 : Heap) (n0 : Nat) (Z0 : n0 ≤ h0.size) (V1 : Arv Z h0 a1 k1 .byte z1 vs (.int 0)) (V3 : Arv Z h0 a3 k3 .byte (1 : Int32) [(.int 0)] (.int 0)) (hne : a1 ≠ a3) (ge3 : n0 ≤ a3) (hz2 : (z1 >>> ((1 : Int32) &&& 31)) = z2) (hbo : own_B z2 p2 (1 : Int32)) (g0 : own_G vs z1 p2 c0) (hc0 : 0 ≤ c0.toInt ∧ c0.toInt ≤ 65535) (O0 : Old Z n0 h0) (S_fm : own_S_fm Z G3) (S_ad : own_S_ad Z) (S_hi : own_S_hi Z) (S_lo : own_S_lo Z) (rG3 : G3.isRef = true) :
    MetFree l MN32 (head1 (Jvm.Cond.code MN32 jdk_52_method_22_code 7 (some .int) :: ws) (rK 3 0 0 60)) (fun a U => a = #[(.ref a1), (.int p2), (.ref a3), (.int 0), (.int 1)] ∧ Z.Warmed39 U.vm ∧ U.heap = h0) (fun _ _ _ _ _ => True) (fun _ U o U' => ∃ v L, o = .returned v ∧ Q_rb5_1 Z a1 p2 a3 k1 z1 vs k3 z2 c0 G3 h0 n0 v U'.heap L ∧ FrameEnd U o U' L (rK 3 0 0 60).cells (rK 3 0 0 60).slots) := by
  refine MetFree.of_bodySF (plainFor_of_name pn_10) hisR ?_
  intro p e s m args below meth c sB Bd hml0 hP hK
  obtain ⟨rfl, hZ, hh⟩ := hP
  have hx := Bd.exec
  have hby := Bd.bytes
  have hml : c.maxLocals = 7 := hml0
  have hown : s.vm.findClass "java/lang/StringUTF16" = some m.cls := findClass_of_methodNamed Bd.named
  have X0 : Stand p l e (rK 3 0 0 60) s m #[(.ref a1), (.int p2), (.ref a3), (.int 0), (.int 1)] below meth c sB [] 0 0 := Stand.of_body Bd
  have e0 : sB.heap = h0 := by rw [← hh, Bd.state]; rfl
  have N0 := Fr.nil n0
  change Go p.tables e below _ _
  have K0 := Keep.refl h0 [a3]
  refine Go.on (B := sB.setTop (mkF m 0 #[vR a1, vI p2, vR a3, vI 0, vI 1, .unset, .unset] [])) (fun t k => castTop (ef_rb5_1 m a1 p2 a3) k) ?_
  obtain ⟨_, _, ⟨T1, L1, k1, n1⟩, -, X1, ⟨Lc1, hQ1, lq1, yq1, zq1⟩, st1⟩ := Jvm.LawKit.callS X0 hx (y := MN15) hown (mg hZ hw 155 rfl) (mg hZ hw 156 rfl) (mg hZ hw 83 rfl) (mg hZ hw 157 rfl) (by decide) (backOf (W := 0) (rbu l Z a0 hw [] p2 (1 : Int32) a1 k1 z1 vs z2 G3 h0 n0 Z0 V1 hz2 hbo O0 S_fm rG3) hZ (gw hw 157 rfl) (gw hw 83 rfl) (by decide) (by decide)) (g := (mkF m 4 #[vR a1, vI p2, vR a3, vI 0, vI 1, .unset, .unset] [(.ref a1), (.int 1), (.int p2)])) rfl (by rw [hml]; rfl) (argsL := [(.int p2), (.int 1), (.ref a1)]) (rest := []) (lenOf pd_19 rfl) rfl (own_w rfl) (hb hby d34_4) (fun _ _ => ⟨rfl, e0, (by decide : 0 + 0 ≤ _), (by decide : 0 + 0 ≤ _)⟩)
  dsimp only [Pt.U, Pt.locs, Pt.cells, Pt.slots] at X1 lq1 yq1 zq1 st1 hQ1
  subst lq1 yq1 zq1
  obtain ⟨rfl, N1q, e1q⟩ := hQ1
  have N1 := Fr.app N0 N1q
  refine Go.on (B := T1.setTop (mkF m 10 #[vR a1, vI p2, vR a3, vI 0, vI 1, vI 0, .unset] [])) (fun t k => XS.iloadN X0.here hx rfl (hb hby d34_0) rfl (XS.iload X0.here hx rfl (hb hby d34_1) rfl (XS.aloadN X0.here hx rfl (hb hby d34_3) rfl rfl (st1 _ (XS.iconst X1.here hx rfl (hb hby d34_7) (XS.istore X1.here hx rfl (hb hby d34_8) rfl (l' := #[vR a1, vI p2, vR a3, vI 0, vI 1, vI 0, .unset]) rfl k)))))) ?_
  have hc14_3 : (0 : Int32) < (1 : Int32) := by decide
  refine Go.on (B := T1.setTop (mkF m 19 #[vR a1, vI p2, vR a3, vI 0, vI 1, vI 0, .unset] [(.int p2), (.ref a1)])) (fun t k => XS.iload X1.here hx rfl (hb hby d34_10) rfl (XS.iload X1.here hx rfl (hb hby d34_12) rfl (XS.icmpNo X1.here hx rfl (hb hby d34_14) rfl (tlt hc14_3).2.1 (XS.aloadN X1.here hx rfl (hb hby d34_17) rfl rfl (XS.iloadN X1.here hx rfl (hb hby d34_18) rfl k))))) ?_
  obtain ⟨_, _, ⟨T4, L4, k4, n4⟩, -, X4, ⟨Lc4, hQ4, lq4, yq4, zq4⟩, st4⟩ := Jvm.LawKit.callS X1 hx (y := MN5) hown (mg hZ hw 131 rfl) (mg hZ hw 132 rfl) (mg hZ hw 83 rfl) (mg hZ hw 133 rfl) (by decide) (backOf (W := 0) (rgc l Z a0 hw [] a1 p2 k1 z1 vs (own_u0 c0) (own_u1 c0) c0 h0 n0 Z0 V1 g0.1 g0.2.1 g0.2.2.1 g0.2.2.2 (own_utf c0 hc0) O0 S_ad S_hi S_lo) hZ (gw hw 133 rfl) (gw hw 83 rfl) (by decide) (by decide)) (g := (mkF m 19 #[vR a1, vI p2, vR a3, vI 0, vI 1, vI 0, .unset] [(.int p2), (.ref a1)])) rfl (by rw [hml]; rfl) (argsL := [(.ref a1), (.int p2)]) (rest := []) (lenOf pd_4 rfl) rfl (own_w rfl) (hb hby d34_19) (fun _ _ => ⟨rfl, e1q, (by decide : 0 + 0 ≤ _), (by decide : 0 + 0 ≤ _)⟩)
  dsimp only [Pt.U, Pt.locs, Pt.cells, Pt.slots] at X4 lq4 yq4 zq4 st4 hQ4
  subst lq4 yq4 zq4
  obtain ⟨rfl, N4q, e4q⟩ := hQ4
  have N4 := Fr.app N1 N4q
  refine Go.on (B := T4.setTop (mkF m 29 #[vR a1, vI p2, vR a3, vI 0, vI 1, vI 0, vI c0] [(.int 255), (.int c0)])) (fun t k => st4 _ (XS.istore X4.here hx rfl (hb hby d34_22) rfl (l' := #[vR a1, vI p2, vR a3, vI 0, vI 1, vI 0, vI c0]) rfl (XS.iload X4.here hx rfl (hb hby d34_24) rfl (XS.sipush X4.here hx rfl (hb hby d34_26) k)))) ?_
  by_cases hc29_6 : (255 : Int32) < c0
  · refine Go.on (B := T4.setTop (mkF m 34 #[vR a1, vI p2, vR a3, vI 0, vI 1, vI 0, vI c0] [(.int 0)])) (fun t k => XS.icmpNo X4.here hx rfl (hb hby d34_29) rfl (tlt hc29_6).2.2.2 (XS.iload X4.here hx rfl (hb hby d34_32) rfl k)) ?_
    refine Go.fin X4 (v := some (.int 0)) (own_nv Bd.returns) Bd.notSynchronized ?_ e4q ⟨(Or.inr ⟨rfl, hc29_6⟩), N4, K0⟩ (by decide) (by decide)
    exact fun _ hr => retI X4 hx Bd.returns (hb hby d34_34) hr
  · obtain ⟨cl7, Ar7, qq7, Sz7, Ng7, Hh7, Gg7⟩ := id V3
    have hin7 : ¬ ((0 : Int32) < 0 ∨ cl7.slots.size ≤ ((0 : Int32)).toNatClampNeg) := inb_of Sz7 ⟨by decide, by decide⟩
    obtain ⟨T7, h7, X7, e7, W7, st7⟩ := stB X4 hx hZ e4q Ar7 (j := (0 : Int32)) hin7 (g := (mkF m 40 #[vR a1, vI p2, vR a3, vI 0, vI 1, vI 0, vI c0] [(.int (c0.toInt8.toInt32)), (.int 0), (.ref a3)])) rfl rfl (hb hby d34_40)
    have V7 : Arv Z h7 a3 k3 .byte (1 : Int32) [(.int ((c0.toInt8.toInt32).toInt8.toInt32))] (.int 0) := Arv.set Ar7 qq7 Sz7 Ng7 Hh7 Gg7 (fits_nar_byte _) W7 0 rfl (Nat.le_of_ble_eq_true rfl)
    have N7 := Fr.snoc X7 N4 ge3
    have K4 := K0.wr W7 (Or.inl (List.mem_of_getElem? (i := 0) rfl))
    refine Go.on (B := T7.setTop (mkF m 41 #[vR a1, vI p2, vR a3, vI 0, vI 1, vI 0, vI c0] [])) (fun t k => XS.icmpYes X4.here hx rfl (pc0 := 29) (pc' := 35) rfl (hb hby d34_29) rfl (flt hc29_6).2.2.2 (by decide) (by decide) (XS.aloadN X4.here hx rfl (hb hby d34_35) rfl rfl (XS.iloadN X4.here hx rfl (hb hby d34_36) rfl (XS.iload X4.here hx rfl (hb hby d34_37) rfl (XS.i2b X4.here hx rfl (hb hby d34_39) rfl (st7 _ k)))))) ?_
    refine Go.on (B := T7.setTop (mkF m 47 #[vR a1, vI (p2 + (1 : Int32)), vR a3, vI ((0 : Int32) + (1 : Int32)), vI 1, vI 0, vI c0] [])) (fun t k => XS.iinc X7.here hx rfl (hb hby d34_41) rfl (l' := #[vR a1, vI (p2 + (1 : Int32)), vR a3, vI 0, vI 1, vI 0, vI c0]) rfl (XS.iinc X7.here hx rfl (hb hby d34_44) rfl (l' := #[vR a1, vI (p2 + (1 : Int32)), vR a3, vI ((0 : Int32) + (1 : Int32)), vI 1, vI 0, vI c0]) rfl k)) ?_
    rw [show ((0 : Int32) + (1 : Int32)) = (1 : Int32) from by decide]
    refine Go.on (B := T7.setTop (mkF m 50 #[vR a1, vI (p2 + (1 : Int32)), vR a3, vI 1, vI 1, vI ((0 : Int32) + (1 : Int32)), vI c0] [])) (fun t k => XS.iinc X7.here hx rfl (hb hby d34_47) rfl (l' := #[vR a1, vI (p2 + (1 : Int32)), vR a3, vI 1, vI 1, vI ((0 : Int32) + (1 : Int32)), vI c0]) rfl k) ?_
    rw [show ((0 : Int32) + (1 : Int32)) = (1 : Int32) from by decide]
    have hc14_8 : ¬ ((1 : Int32) < (1 : Int32)) := by decide
    refine Go.on (B := T7.setTop (mkF m 55 #[vR a1, vI (p2 + (1 : Int32)), vR a3, vI 1, vI 1, vI 1, vI c0] [(.int 1)])) (fun t k => XS.goto X7.here hx rfl (pc0 := 50) (pc' := 10) rfl (hb hby d34_50) (by decide) (by decide) (XS.iload X7.here hx rfl (hb hby d34_10) rfl (XS.iload X7.here hx rfl (hb hby d34_12) rfl (XS.icmpYes X7.here hx rfl (pc0 := 14) (pc' := 53) rfl (hb hby d34_14) rfl (flt hc14_8).2.1 (by decide) (by decide) (XS.iload X7.here hx rfl (hb hby d34_53) rfl k))))) ?_
    refine Go.fin X7 (v := some (.int 1)) (own_nv Bd.returns) Bd.notSynchronized ?_ e7 ⟨Or.inl ⟨rfl, V7, hc29_6⟩, N7, K4⟩ (by decide) (by decide)
    exact fun _ hr => retI X7 hx Bd.returns (hb hby d34_55) hr
theorem d33_0 : decode BC22 0 = .ok (.iload_n 2, 1) := by decide +kernel
theorem d33_1 : decode BC22 1 = .ok (.newarray .byte, 2) := by decide +kernel
theorem d33_3 : decode BC22 3 = .ok (.astore_n 3, 1) := by decide +kernel
theorem d33_4 : decode BC22 4 = .ok (.aload_n 0, 1) := by decide +kernel
theorem d33_5 : decode BC22 5 = .ok (.iload_n 1, 1) := by decide +kernel
theorem d33_6 : decode BC22 6 = .ok (.aload_n 3, 1) := by decide +kernel
theorem d33_7 : decode BC22 7 = .ok (.iconst 0, 1) := by decide +kernel
theorem d33_8 : decode BC22 8 = .ok (.iload_n 2, 1) := by decide +kernel
theorem d33_9 : decode BC22 9 = .ok (.invokestatic 123, 3) := by decide +kernel
theorem d33_12 : decode BC22 12 = .ok (.istore 4, 2) := by decide +kernel
theorem d33_14 : decode BC22 14 = .ok (.iload 4, 2) := by decide +kernel
theorem d33_16 : decode BC22 16 = .ok (.iload_n 2, 1) := by decide +kernel
theorem d33_17 : decode BC22 17 = .ok (.if_icmp .eq 47, 3) := by decide +kernel
theorem d33_20 : decode BC22 20 = .ok (.aload_n 0, 1) := by decide +kernel
theorem d33_21 : decode BC22 21 = .ok (.iload_n 1, 1) := by decide +kernel
theorem d33_22 : decode BC22 22 = .ok (.iconst 1, 1) := by decide +kernel
theorem d33_23 : decode BC22 23 = .ok (.ishl, 1) := by decide +kernel
theorem d33_24 : decode BC22 24 = .ok (.iload_n 1, 1) := by decide +kernel
theorem d33_25 : decode BC22 25 = .ok (.iload_n 2, 1) := by decide +kernel
theorem d33_26 : decode BC22 26 = .ok (.iadd, 1) := by decide +kernel
theorem d33_27 : decode BC22 27 = .ok (.invokestatic 11, 3) := by decide +kernel
theorem d33_30 : decode BC22 30 = .ok (.invokestatic 126, 3) := by decide +kernel
theorem d33_33 : decode BC22 33 = .ok (.astore 5, 2) := by decide +kernel
theorem d33_35 : decode BC22 35 = .ok (.aload 5, 2) := by decide +kernel
theorem d33_37 : decode BC22 37 = .ok (.iload 4, 2) := by decide +kernel
theorem d33_39 : decode BC22 39 = .ok (.invokestatic 71, 3) := by decide +kernel
theorem d33_42 : decode BC22 42 = .ok (.sipush 255, 3) := by decide +kernel
theorem d33_45 : decode BC22 45 = .ok (.if_icmp .gt 16, 3) := by decide +kernel
theorem d33_61 : decode BC22 61 = .ok (.aload 5, 2) := by decide +kernel
theorem d33_63 : decode BC22 63 = .ok (.areturn, 1) := by decide +kernel
theorem d33_64 : decode BC22 64 = .ok (.aload_n 3, 1) := by decide +kernel
theorem d33_65 : decode BC22 65 = .ok (.areturn, 1) := by decide +kernel
theorem pd_20 : parseMethodDescriptor "([BI[BII)I" = some ⟨[(.array .byte), .int, (.array .byte), .int, .int], some .int⟩ := by decide +kernel
theorem ef_rb3_1 (m : MethodId) (a1 : Addr) (p2 : Int32) : entryFrame m #[(.ref a1), (.int p2), (.int 1)] 6 = mkF m 0 #[vR a1, vI p2, vI 1, .unset, .unset, .unset] [] := rfl
def Q_rb3_1 (Z : State) (a1 : Addr) (p2 : Int32) (k1 : ClassId) (z1 : Int32) (vs : List Value) (z2 : Int32) (c0 : Int32) (G3 : Value) (h0 : Heap) (n0 : Nat) (v : Option Value) (h : Heap) (L : List Loc) : Prop := (∃ (b : Addr) (kb : ClassId), v = some (.ref b) ∧ h0.size ≤ b ∧ ((Arv Z h b kb .byte (1 : Int32) [(.int (own_l c0))] (.int 0) ∧ ¬ ((255 : Int32) < c0)) ∨ (Arv Z h b kb .byte (2 : Int32) [(.int (own_u0 c0)), (.int (own_u1 c0))] (.int 0)))) ∧ Fr n0 L ∧ Keep h0 h []
theorem rb3_1 (l : Launch) (Z : State) (a0 : Array Value) (hw : ∀ d ∈ tables_1, d.before a0 Z = true) (ws : List Jvm.Cond) (a1 : Addr) (p2 : Int32) (k1 : ClassId) (z1 : Int32) (vs : List Value) (z2 : Int32) (c0 : Int32) (G3 : Value) (h0 : Heap) (n0 : Nat) (Z0 : n0 ≤ h0.size) (V1 : Arv Z h0 a1 k1 .byte z1 vs (.int 0)) (hz2 : (z1 >>> ((1 : Int32) &&& 31)) = z2) (hbo : own_B z2 p2 (1 : Int32)) (g0 : own_G vs z1 p2 c0) (hc0 : 0 ≤ c0.toInt ∧ c0.toInt ≤ 65535) (hnl : ¬ (p2 + (1 : Int32)) < (0 : Int32) ∧ (p2 + (1 : Int32)) < (1073741823 : Int32) ∧ ((p2 + (1 : Int32)) <<< ((1 : Int32) &&& 31)) = z1) (hr : own_R z1 (p2 <<< ((1 : Int32) &&& 31)) (2 : Int32) vs [(.int (own_u0 c0)), (.int (own_u1 c0))]) (O0 : Old Z n0 h0) (S_fm : own_S_fm Z G3) (S_ad : own_S_ad Z) (S_hi : own_S_hi Z) (S_lo : own_S_lo Z) (rG3 : G3.isRef = true) :
    MetFree l MN33 (head1 (Jvm.Cond.code MN33 jdk_52_method_17_code 6 (some (.array .byte)) :: ws) (rK 4 2 3 100)) (fun a U => a = #[(.ref a1), (.int p2), (.int 1)] ∧ Z.Warmed39 U.vm ∧ U.heap = h0) (fun _ _ _ _ _ => True) (fun _ U o U' => ∃ v L, o = .returned v ∧ Q_rb3_1 Z a1 p2 k1 z1 vs z2 c0 G3 h0 n0 v U'.heap L ∧ FrameEnd U o U' L (rK 4 2 3 100).cells (rK 4 2 3 100).slots) := by
  refine MetFree.of_bodySF (plainFor_of_name pn_10) hisR ?_
  intro p e s m args below meth c sB Bd hml0 hP hK
  obtain ⟨rfl, hZ, hh⟩ := hP
  have hx := Bd.exec
  have hby := Bd.bytes
  have hml : c.maxLocals = 6 := hml0
  have hown : s.vm.findClass "java/lang/StringUTF16" = some m.cls := findClass_of_methodNamed Bd.named
  have X0 : Stand p l e (rK 4 2 3 100) s m #[(.ref a1), (.int p2), (.int 1)] below meth c sB [] 0 0 := Stand.of_body Bd
  have e0 : sB.heap = h0 := by rw [← hh, Bd.state]; rfl
  have N0 := Fr.nil n0
  change Go p.tables e below _ _
  have K0 := Keep.refl h0 []
  refine Go.on (B := sB.setTop (mkF m 0 #[vR a1, vI p2, vI 1, .unset, .unset, .unset] [])) (fun t k => castTop (ef_rb3_1 m a1 p2) k) ?_
  obtain ⟨T1, h1, kq1, X1, e1, Xe1, A1, st1⟩ := newP X0 hx hZ (gw hw 20 rfl) e0 (g := (mkF m 1 #[vR a1, vI p2, vI 1, .unset, .unset, .unset] [(.int 1)])) rfl (hb hby d33_1) rfl (by decide) (cap := 1) (by decide) (by decide) (by decide) (by decide)
  obtain ⟨b1, gq1⟩ : ∃ z, z = h0.size := ⟨_, rfl⟩
  rw [← gq1] at A1 st1
  have ge_b1 : n0 ≤ b1 := Nat.le_trans Z0 (Nat.le_of_eq gq1.symm)
  have sz_b1 : h0.size ≤ b1 := Nat.le_trans K0.1 (Nat.le_of_eq gq1.symm)
  have ne_a1_b1 : a1 ≠ b1 := Nat.ne_of_lt (Nat.lt_of_lt_of_le V1.lt (Nat.le_of_eq gq1.symm))
  have f1 := V1.ext Xe1
  have O_2 := O0.ext Xe1
  have Zs3 := Nat.le_trans Z0 Xe1.1
  have K4 := K0.ext Xe1
  have V1 : Arv Z h1 b1 kq1 .byte (1 : Int32) [(.int 0)] (.int 0) := (Arv.new A1 (by decide)).pad (pad_rep [] (.int 0) 1)
  refine Go.on (B := T1.setTop (mkF m 7 #[vR a1, vI p2, vI 1, vR b1, .unset, .unset] [(.ref b1), (.int p2), (.ref a1)])) (fun t k => XS.iloadN X0.here hx rfl (hb hby d33_0) rfl (st1 _ (XS.astoreN X1.here hx rfl (hb hby d33_3) rfl rfl (l' := #[vR a1, vI p2, vI 1, vR b1, .unset, .unset]) rfl (XS.aloadN X1.here hx rfl (hb hby d33_4) rfl rfl (XS.iloadN X1.here hx rfl (hb hby d33_5) rfl (XS.aloadN X1.here hx rfl (hb hby d33_6) rfl rfl k)))))) ?_
  obtain ⟨_, _, ⟨T2, L2, k2, n2⟩, -, X2, ⟨Lc2, hQ2, lq2, yq2, zq2⟩, st2⟩ := Jvm.LawKit.callS X1 hx (y := MN32) hown (mg hZ hw 152 rfl) (mg hZ hw 153 rfl) (mg hZ hw 83 rfl) (mg hZ hw 154 rfl) (by decide) (backOf (W := 0) (rb5_1 l Z a0 hw [] a1 p2 b1 k1 z1 vs kq1 z2 c0 G3 h1 n0 Zs3 f1 V1 ne_a1_b1 ge_b1 hz2 hbo g0 hc0 O_2 S_fm S_ad S_hi S_lo rG3) hZ (gw hw 154 rfl) (gw hw 83 rfl) (by decide) (by decide)) (g := (mkF m 9 #[vR a1, vI p2, vI 1, vR b1, .unset, .unset] [(.int 1), (.int 0), (.ref b1), (.int p2), (.ref a1)])) rfl (by rw [hml]; rfl) (argsL := [(.ref a1), (.int p2), (.ref b1), (.int 0), (.int 1)]) (rest := []) (lenOf pd_20 rfl) rfl (own_w rfl) (hb hby d33_9) (fun _ _ => ⟨rfl, e1, (by decide : 1 + 0 ≤ _), (by decide : 1 + 0 ≤ _)⟩)
  dsimp only [Pt.U, Pt.locs, Pt.cells, Pt.slots] at X2 lq2 yq2 zq2 st2 hQ2
  subst lq2 yq2 zq2
  refine Go.on (B := T1.setTop (mkF m 9 #[vR a1, vI p2, vI 1, vR b1, .unset, .unset] [(.int 1), (.int 0), (.ref b1), (.int p2), (.ref a1)])) (fun t k => XS.iconst X1.here hx rfl (hb hby d33_7) (XS.iloadN X1.here hx rfl (hb hby d33_8) rfl k)) ?_
  rcases hQ2 with ⟨⟨rfl, V52, hx2_c0⟩ | ⟨rfl, hx2_c0⟩, N2q, K2q⟩
  · have N2 := Fr.app N0 N2q
    have K8 := K4.trans K2q (allS (Or.inr sz_b1) all0)
    have hc17_4 : (1 : Int32) = (1 : Int32) := by decide
    refine Go.on (B := T2.setTop (mkF m 65 #[vR a1, vI p2, vI 1, vR b1, vI 1, .unset] [(.ref b1)])) (fun t k => st2 _ (XS.istore X2.here hx rfl (hb hby d33_12) rfl (l' := #[vR a1, vI p2, vI 1, vR b1, vI 1, .unset]) rfl (XS.iload X2.here hx rfl (hb hby d33_14) rfl (XS.iloadN X2.here hx rfl (hb hby d33_16) rfl (XS.icmpYes X2.here hx rfl (pc0 := 17) (pc' := 64) rfl (hb hby d33_17) rfl (teq hc17_4).1 (by decide) (by decide) (XS.aloadN X2.here hx rfl (hb hby d33_64) rfl rfl k)))))) ?_
    refine Go.fin X2 (v := some (.ref b1)) (own_nv Bd.returns) Bd.notSynchronized ?_ rfl ⟨⟨_, _, rfl, sz_b1, Or.inl ⟨V52, hx2_c0⟩⟩, N2, K8⟩ (by decide) (by decide)
    exact fun _ hr => retOut X2 hx Bd.returns rfl (Or.inr (Or.inr (Or.inr (Or.inr ⟨rfl, rfl, rfl⟩)))) (hb hby d33_65) hr
  · have N2 := Fr.app N0 N2q
    have f9 := f1.keep K2q (ninS ne_a1_b1 nin0)
    have O_10 := O_2.keep K2q (allS ge_b1 all0)
    have Zs11 := Nat.le_trans Zs3 K2q.1
    have K12 := K4.trans K2q (allS (Or.inr sz_b1) all0)
    have hc17_6 : ¬ ((0 : Int32) = (1 : Int32)) := by decide
    refine Go.on (B := T2.setTop (mkF m 21 #[vR a1, vI p2, vI 1, vR b1, vI 0, .unset] [(.ref a1)])) (fun t k => st2 _ (XS.istore X2.here hx rfl (hb hby d33_12) rfl (l' := #[vR a1, vI p2, vI 1, vR b1, vI 0, .unset]) rfl (XS.iload X2.here hx rfl (hb hby d33_14) rfl (XS.iloadN X2.here hx rfl (hb hby d33_16) rfl (XS.icmpNo X2.here hx rfl (hb hby d33_17) rfl (feq hc17_6).1 (XS.aloadN X2.here hx rfl (hb hby d33_20) rfl rfl k)))))) ?_
    refine Go.on (B := T2.setTop (mkF m 27 #[vR a1, vI p2, vI 1, vR b1, vI 0, .unset] [(.int (p2 + (1 : Int32))), (.int (p2 <<< ((1 : Int32) &&& 31))), (.ref a1)])) (fun t k => XS.iloadN X2.here hx rfl (hb hby d33_21) rfl (XS.iconst X2.here hx rfl (hb hby d33_22) (XS.ishl X2.here hx rfl (hb hby d33_23) rfl (XS.iloadN X2.here hx rfl (hb hby d33_24) rfl (XS.iloadN X2.here hx rfl (hb hby d33_25) rfl (XS.iadd X2.here hx rfl (hb hby d33_26) rfl k)))))) ?_
    obtain ⟨_, _, ⟨T7, L7, k7, n7⟩, -, X7, ⟨Lc7, hQ7, lq7, yq7, zq7⟩, st7⟩ := Jvm.LawKit.callS X2 hx (y := MN18) hown (mg hZ hw 121 rfl) (mg hZ hw 122 rfl) (mg hZ hw 83 rfl) (mg hZ hw 123 rfl) (by decide) (backOf (W := 2) (rnlg l Z a0 hw [] (p2 + (1 : Int32)) z1 T2.heap n0 Zs11 hnl) hZ (gw hw 123 rfl) (gw hw 83 rfl) (by decide) (by decide)) (g := (mkF m 27 #[vR a1, vI p2, vI 1, vR b1, vI 0, .unset] [(.int (p2 + (1 : Int32))), (.int (p2 <<< ((1 : Int32) &&& 31))), (.ref a1)])) rfl (by rw [hml]; rfl) (argsL := [(.int (p2 + (1 : Int32)))]) (rest := [(.int (p2 <<< ((1 : Int32) &&& 31))), (.ref a1)]) (lenOf pd_12 rfl) rfl (own_w rfl) (hb hby d33_27) (fun _ _ => ⟨rfl, rfl, (by decide : 1 + 0 ≤ _), (by decide : 1 + 0 ≤ _)⟩)
    dsimp only [Pt.U, Pt.locs, Pt.cells, Pt.slots] at X7 lq7 yq7 zq7 st7 hQ7
    subst lq7 yq7 zq7
    obtain ⟨rfl, N7q, e7q⟩ := hQ7
    have N7 := Fr.app N2 N7q
    obtain ⟨_, _, ⟨T8, L8, k8, n8⟩, -, X8, ⟨Lc8, hQ8, lq8, yq8, zq8⟩, st8⟩ := Jvm.LawKit.callS X7 hx (y := MN20) hown (mg hZ hw 164 rfl) (mg hZ hw 165 rfl) (mg hZ hw 166 rfl) (mg hZ hw 167 rfl) (by decide) (backOf (W := 0) (rcr2 l Z a0 hw [] a1 (p2 <<< ((1 : Int32) &&& 31)) z1 k1 vs [(.int (own_u0 c0)), (.int (own_u1 c0))] T2.heap n0 Zs11 f9 hr) hZ (gw hw 167 rfl) (gw hw 166 rfl) (by decide) (by decide)) (g := (mkF m 30 #[vR a1, vI p2, vI 1, vR b1, vI 0, .unset] [(.int z1), (.int (p2 <<< ((1 : Int32) &&& 31))), (.ref a1)])) rfl (by rw [hml]; rfl) (argsL := [(.ref a1), (.int (p2 <<< ((1 : Int32) &&& 31))), (.int z1)]) (rest := []) (lenOf pd_10 rfl) rfl (own_w rfl) (hb hby d33_30) (fun _ _ => ⟨rfl, e7q, (by decide : 1 + 1 ≤ _), (by decide : 1 + 2 ≤ _)⟩)
    dsimp only [Pt.U, Pt.locs, Pt.cells, Pt.slots] at X8 lq8 yq8 zq8 st8 hQ8
    subst lq8 yq8 zq8
    obtain ⟨⟨y8, ky8, rfl, sx8, Vy8⟩, N8q, K8q⟩ := hQ8
    have N8 := Fr.app N7 N8q
    have sz_y8 : h0.size ≤ y8 := Nat.le_trans K12.1 sx8
    have O_14 := O_10.keep K8q all0
    have Zs15 := Nat.le_trans Zs11 K8q.1
    have K16 := K12.trans K8q all0
    refine Go.on (B := T8.setTop (mkF m 39 #[vR a1, vI p2, vI 1, vR b1, vI 0, vR y8] [(.int 0), (.ref y8)])) (fun t k => st7 _ (st8 _ (XS.astore X8.here hx rfl (hb hby d33_33) rfl rfl (l' := #[vR a1, vI p2, vI 1, vR b1, vI 0, vR y8]) rfl (XS.aload X8.here hx rfl (hb hby d33_35) rfl rfl (XS.iload X8.here hx rfl (hb hby d33_37) rfl k))))) ?_
    obtain ⟨_, _, ⟨T9, L9, k9, n9⟩, -, X9, ⟨Lc9, hQ9, lq9, yq9, zq9⟩, st9⟩ := Jvm.LawKit.callS X8 hx (y := MN5) hown (mg hZ hw 131 rfl) (mg hZ hw 132 rfl) (mg hZ hw 83 rfl) (mg hZ hw 133 rfl) (by decide) (backOf (W := 0) (rgc l Z a0 hw [] y8 (0 : Int32) ky8 (2 : Int32) [(.int (own_u0 c0)), (.int (own_u1 c0))] (own_u0 c0) (own_u1 c0) c0 T8.heap n0 Zs15 Vy8 ⟨by decide, by decide⟩ rfl ⟨by decide, by decide⟩ rfl (own_utf c0 hc0) O_14 S_ad S_hi S_lo) hZ (gw hw 133 rfl) (gw hw 83 rfl) (by decide) (by decide)) (g := (mkF m 39 #[vR a1, vI p2, vI 1, vR b1, vI 0, vR y8] [(.int 0), (.ref y8)])) rfl (by rw [hml]; rfl) (argsL := [(.ref y8), (.int 0)]) (rest := []) (lenOf pd_4 rfl) rfl (own_w rfl) (hb hby d33_39) (fun _ _ => ⟨rfl, rfl, (by decide : 2 + 0 ≤ _), (by decide : 3 + 0 ≤ _)⟩)
    dsimp only [Pt.U, Pt.locs, Pt.cells, Pt.slots] at X9 lq9 yq9 zq9 st9 hQ9
    subst lq9 yq9 zq9
    obtain ⟨rfl, N9q, e9q⟩ := hQ9
    have N9 := Fr.app N8 N9q
    have hc45_10 : (255 : Int32) < c0 := hx2_c0
    refine Go.on (B := T9.setTop (mkF m 63 #[vR a1, vI p2, vI 1, vR b1, vI 0, vR y8] [(.ref y8)])) (fun t k => st9 _ (XS.sipush X9.here hx rfl (hb hby d33_42) (XS.icmpYes X9.here hx rfl (pc0 := 45) (pc' := 61) rfl (hb hby d33_45) rfl (tlt hc45_10).2.2.1 (by decide) (by decide) (XS.aload X9.here hx rfl (hb hby d33_61) rfl rfl k)))) ?_
    refine Go.fin X9 (v := some (.ref y8)) (own_nv Bd.returns) Bd.notSynchronized ?_ e9q ⟨⟨_, _, rfl, sz_y8, Or.inr Vy8⟩, N9, K16⟩ (by decide) (by decide)
    exact fun _ hr => retOut X9 hx Bd.returns rfl (Or.inr (Or.inr (Or.inr (Or.inr ⟨rfl, rfl, rfl⟩)))) (hb hby d33_63) hr
theorem ef_rnsU1 (m : MethodId) (a1 : Addr) (p2 : Int32) : entryFrame m #[(.ref a1), (.int p2), (.int 1)] 5 = mkF m 0 #[vR a1, vI p2, vI 1, .unset, .unset] [] := rfl
def Q_rnsU1 (Z : State) (a1 : Addr) (p2 : Int32) (k1 : ClassId) (z1 : Int32) (vs : List Value) (z2 : Int32) (c0 : Int32) (G1 : Int32) (G3 : Value) (h0 : Heap) (n0 : Nat) (v : Option Value) (h : Heap) (L : List Loc) : Prop := (∃ (d b : Addr) (kb : ClassId), v = some (.ref d) ∧ Exa Z h d "java/lang/String" ∧ Fld Z h d "java/lang/String" "value" "[B" (.ref b) ∧ own_A Z h d b kb [c0]) ∧ Fr n0 L ∧ Keep h0 h []
theorem rnsU1 (l : Launch) (Z : State) (a0 : Array Value) (hw : ∀ d ∈ tables_1, d.before a0 Z = true) (ws : List Jvm.Cond) (a1 : Addr) (p2 : Int32) (k1 : ClassId) (z1 : Int32) (vs : List Value) (z2 : Int32) (c0 : Int32) (G1 : Int32) (G3 : Value) (h0 : Heap) (n0 : Nat) (Z0 : n0 ≤ h0.size) (V1 : Arv Z h0 a1 k1 .byte z1 vs (.int 0)) (hz2 : (z1 >>> ((1 : Int32) &&& 31)) = z2) (hbo : own_B z2 p2 (1 : Int32)) (g0 : own_G vs z1 p2 c0) (hc0 : 0 ≤ c0.toInt ∧ c0.toInt ≤ 65535) (hnl : ¬ (p2 + (1 : Int32)) < (0 : Int32) ∧ (p2 + (1 : Int32)) < (1073741823 : Int32) ∧ ((p2 + (1 : Int32)) <<< ((1 : Int32) &&& 31)) = z1) (hr : own_R z1 (p2 <<< ((1 : Int32) &&& 31)) (2 : Int32) vs [(.int (own_u0 c0)), (.int (own_u1 c0))]) (O0 : Old Z n0 h0) (S_cs : own_S_cs Z G1) (S_fm : own_S_fm Z G3) (S_ad : own_S_ad Z) (S_hi : own_S_hi Z) (S_lo : own_S_lo Z) (P5 : ¬ (G1 = (0 : Int32))) (rG3 : G3.isRef = true) :
    MetFree l MN23 (head1 (Jvm.Cond.code MN23 jdk_52_method_69_code 5 (some (.object "java/lang/String")) :: ws) (rK 5 3 7 130)) (fun a U => a = #[(.ref a1), (.int p2), (.int 1)] ∧ Z.Warmed39 U.vm ∧ U.heap = h0) (fun _ _ _ _ _ => True) (fun _ U o U' => ∃ v L, o = .returned v ∧ Q_rnsU1 Z a1 p2 k1 z1 vs z2 c0 G1 G3 h0 n0 v U'.heap L ∧ FrameEnd U o U' L (rK 5 3 7 130).cells (rK 5 3 7 130).slots) := by
  refine MetFree.of_bodySF (plainFor_of_name pn_10) hisR ?_
  intro p e s m args below meth c sB Bd hml0 hP hK
  obtain ⟨rfl, hZ, hh⟩ := hP
  have hx := Bd.exec
  have hby := Bd.bytes
  have hml : c.maxLocals = 5 := hml0
  have hown : s.vm.findClass "java/lang/StringUTF16" = some m.cls := findClass_of_methodNamed Bd.named
  have X0 : Stand p l e (rK 5 3 7 130) s m #[(.ref a1), (.int p2), (.int 1)] below meth c sB [] 0 0 := Stand.of_body Bd
  have e0 : sB.heap = h0 := by rw [← hh, Bd.state]; rfl
  have N0 := Fr.nil n0
  change Go p.tables e below _ _
  have K0 := Keep.refl h0 []
  refine Go.on (B := sB.setTop (mkF m 0 #[vR a1, vI p2, vI 1, .unset, .unset] [])) (fun t k => castTop (ef_rnsU1 m a1 p2) k) ?_
  have hc1_1 : ¬ ((1 : Int32) = (0 : Int32)) := by decide
  obtain ⟨T2, X2, e2, st2⟩ := getS2 X0 hx hZ hown (host := "") (Or.inl (gw hw 148 rfl)) Via.refl e0 (S_cs.ext O0.2) (g := (mkF m 8 #[vR a1, vI p2, vI 1, .unset, .unset] [])) rfl (hb hby d29_8)
  have hc11_3 : ¬ (G1 = (0 : Int32)) := P5
  refine Go.on (B := T2.setTop (mkF m 16 #[vR a1, vI p2, vI 1, .unset, .unset] [(.int p2), (.ref a1)])) (fun t k => XS.iloadN X0.here hx rfl (hb hby d29_0) rfl (XS.ifYes X0.here hx rfl (pc0 := 1) (pc' := 8) rfl (hb hby d29_1) rfl ((if0 _ _).trans (feq hc1_1).2) (by decide) (by decide) (st2 _ (XS.ifNo X2.here hx rfl (hb hby d29_11) rfl ((if0 _ _).trans (feq hc11_3).1) (XS.aloadN X2.here hx rfl (hb hby d29_14) rfl rfl (XS.iloadN X2.here hx rfl (hb hby d29_15) rfl k)))))) ?_
  obtain ⟨_, _, ⟨T4, L4, k4, n4⟩, -, X4, ⟨Lc4, hQ4, lq4, yq4, zq4⟩, st4⟩ := Jvm.LawKit.callS X2 hx (y := MN33) hown (mg hZ hw 149 rfl) (mg hZ hw 150 rfl) (mg hZ hw 83 rfl) (mg hZ hw 151 rfl) (by decide) (backOf (W := 0) (rb3_1 l Z a0 hw [] a1 p2 k1 z1 vs z2 c0 G3 h0 n0 Z0 V1 hz2 hbo g0 hc0 hnl hr O0 S_fm S_ad S_hi S_lo rG3) hZ (gw hw 151 rfl) (gw hw 83 rfl) (by decide) (by decide)) (g := (mkF m 17 #[vR a1, vI p2, vI 1, .unset, .unset] [(.int 1), (.int p2), (.ref a1)])) rfl (by rw [hml]; rfl) (argsL := [(.ref a1), (.int p2), (.int 1)]) (rest := []) (lenOf pd_10 rfl) rfl (own_w rfl) (hb hby d29_17) (fun _ _ => ⟨rfl, e2, (by decide : 0 + 2 ≤ _), (by decide : 0 + 3 ≤ _)⟩)
  dsimp only [Pt.U, Pt.locs, Pt.cells, Pt.slots] at X4 lq4 yq4 zq4 st4 hQ4
  subst lq4 yq4 zq4
  refine Go.on (B := T2.setTop (mkF m 17 #[vR a1, vI p2, vI 1, .unset, .unset] [(.int 1), (.int p2), (.ref a1)])) (fun t k => XS.iloadN X2.here hx rfl (hb hby d29_16) rfl k) ?_
  rcases hQ4 with ⟨⟨y4, ky4, rfl, sx4, ⟨Vy4, hx4_c0⟩ | Vy4⟩, N4q, K4q⟩
  · have N4 := Fr.app N0 N4q
    have Zs3 := Nat.le_trans Z0 K4q.1
    have K4 := K0.trans K4q all0
    obtain ⟨_, _, ⟨T5, L5, k5, n5⟩, -, X5, ⟨Lc5, hQ5, lq5, yq5, zq5⟩, st5⟩ := Jvm.LawKit.callS X4 hx (y := MN25) hown (mg hZ hw 182 rfl) (mg hZ hw 89 rfl) (mg hZ hw 83 rfl) (mg hZ hw 90 rfl) (by decide) (backOf (W := 0) (rcdg l Z a0 hw [] y4 (1 : Int32) ky4 (1 : Int32) [(.int (own_l c0))] (0 : Int32) T4.heap n0 Zs3 Vy4 (by decide)) hZ (gw hw 90 rfl) (gw hw 83 rfl) (by decide) (by decide)) (g := (mkF m 23 #[vR a1, vI p2, vI 1, vR y4, .unset] [(.int 1), (.ref y4)])) rfl (by rw [hml]; rfl) (argsL := [(.ref y4), (.int 1)]) (rest := []) (lenOf pd_17 rfl) rfl (own_w rfl) (hb hby d29_23) (fun _ _ => ⟨rfl, rfl, (by decide : 2 + 0 ≤ _), (by decide : 3 + 0 ≤ _)⟩)
    dsimp only [Pt.U, Pt.locs, Pt.cells, Pt.slots] at X5 lq5 yq5 zq5 st5 hQ5
    subst lq5 yq5 zq5
    obtain ⟨rfl, N5q, e5q⟩ := hQ5
    have N5 := Fr.app N4 N5q
    refine Go.on (B := T5.setTop (mkF m 28 #[vR a1, vI p2, vI 1, vR y4, vI 0] [])) (fun t k => st4 _ (XS.astoreN X4.here hx rfl (hb hby d29_20) rfl rfl (l' := #[vR a1, vI p2, vI 1, vR y4, .unset]) rfl (XS.aloadN X4.here hx rfl (hb hby d29_21) rfl rfl (XS.iloadN X4.here hx rfl (hb hby d29_22) rfl (st5 _ (XS.istore X5.here hx rfl (hb hby d29_26) rfl (l' := #[vR a1, vI p2, vI 1, vR y4, vI 0]) rfl k)))))) ?_
    obtain ⟨T7, h7, X7, e7, Xe7, A7, D7, Ue7, st7⟩ := newO X5 hx hZ hown (gw hw 183 rfl) (gw hw 7 rfl) (gw hw 8 rfl) e5q (g := (mkF m 28 #[vR a1, vI p2, vI 1, vR y4, vI 0] [])) rfl (hb hby d29_28) (by decide) (by decide)
    obtain ⟨b7, gq7⟩ : ∃ z, z = T4.heap.size := ⟨_, rfl⟩
    rw [← gq7] at A7 D7 Ue7 st7
    have ge_b7 : n0 ≤ b7 := Nat.le_trans Zs3 (Nat.le_of_eq gq7.symm)
    have sz_b7 : h0.size ≤ b7 := Nat.le_trans K4.1 (Nat.le_of_eq gq7.symm)
    have ne_y4_b7 : y4 ≠ b7 := Nat.ne_of_lt (Nat.lt_of_lt_of_le Vy4.lt (Nat.le_of_eq gq7.symm))
    have f7 := Vy4.ext Xe7
    have Zs8 := Nat.le_trans Zs3 Xe7.1
    have K9 := K4.ext Xe7
    have F7_value : Fld Z h7 b7 "java/lang/String" "value" "[B" .null := D7 (Or.inr (gw hw 21 rfl)) (ty := (.array .byte)) (by decide)
    have F7_coder : Fld Z h7 b7 "java/lang/String" "coder" "B" (.int 0) := D7 (Or.inr (gw hw 22 rfl)) (ty := .byte) (by decide)
    obtain ⟨_, _, ⟨T8, L8, k8, n8⟩, -, X8, ⟨Lc8, hQ8, lq8, yq8, zq8⟩, st8⟩ := X7.specialBack hx (y := MN21) rfl hown (mg hZ hw 184 rfl) (mg hZ hw 185 rfl) (mg hZ hw 186 rfl) (by decide) (backOf (W := 1) (rsb0 l Z a0 hw [] b7 y4 h7 n0 Zs8 A7 F7_value F7_coder ge_b7) hZ (gw hw 186 rfl) (gw hw 8 rfl) (by decide) (by decide)) (g := (mkF m 35 #[vR a1, vI p2, vI 1, vR y4, vI 0] [(.int 0), (.ref y4), (.ref b7), (.ref b7)])) rfl (by rw [hml]; rfl) (Steps.refl _) (a := b7) (argsL := [(.ref y4), (.int 0)]) (rest := [(.ref b7)]) (lenOf pd_11 rfl) rfl (own_w rfl) (hb hby d29_35) (fun _ _ => ⟨rfl, e7, (by decide : 3 + 0 ≤ _), (by decide : 7 + 0 ≤ _)⟩)
    dsimp only [Pt.U, Pt.locs, Pt.cells, Pt.slots] at X8 lq8 yq8 zq8 st8 hQ8
    subst lq8 yq8 zq8
    obtain ⟨rfl, N8q, K8q, G8_0, G8_1, G8_2⟩ := hQ8
    have N8 := Fr.app N5 N8q
    have f12 := f7.keep K8q (ninS ne_y4_b7 nin0)
    have K15 := K9.trans K8q (allS (Or.inr sz_b7) all0)
    refine Go.on (B := T8.setTop (mkF m 38 #[vR a1, vI p2, vI 1, vR y4, vI 0] [(.ref b7)])) (fun t k => st7 _ (XS.dup X7.here hx rfl (hb hby d29_31) rfl rfl (XS.aloadN X7.here hx rfl (hb hby d29_32) rfl rfl (XS.iload X7.here hx rfl (hb hby d29_33) rfl (st8.trans k))))) ?_
    refine Go.fin X8 (v := some (.ref b7)) (own_nv Bd.returns) Bd.notSynchronized ?_ rfl ⟨⟨_, _, _, rfl, G8_0, G8_1, Or.inl ⟨G8_2, f12, (own_allC hx4_c0 own_all0)⟩⟩, N8, K15⟩ (by decide) (by decide)
    exact fun _ hr => retOut X8 hx Bd.returns rfl (Or.inr (Or.inr (Or.inr (Or.inr ⟨rfl, rfl, rfl⟩)))) (hb hby d29_38) hr
  · have N4 := Fr.app N0 N4q
    have Zs18 := Nat.le_trans Z0 K4q.1
    have K19 := K0.trans K4q all0
    obtain ⟨_, _, ⟨T9, L9, k9, n9⟩, -, X9, ⟨Lc9, hQ9, lq9, yq9, zq9⟩, st9⟩ := Jvm.LawKit.callS X4 hx (y := MN25) hown (mg hZ hw 182 rfl) (mg hZ hw 89 rfl) (mg hZ hw 83 rfl) (mg hZ hw 90 rfl) (by decide) (backOf (W := 0) (rcdg l Z a0 hw [] y4 (1 : Int32) ky4 (2 : Int32) [(.int (own_u0 c0)), (.int (own_u1 c0))] (1 : Int32) T4.heap n0 Zs18 Vy4 (by decide)) hZ (gw hw 90 rfl) (gw hw 83 rfl) (by decide) (by decide)) (g := (mkF m 23 #[vR a1, vI p2, vI 1, vR y4, .unset] [(.int 1), (.ref y4)])) rfl (by rw [hml]; rfl) (argsL := [(.ref y4), (.int 1)]) (rest := []) (lenOf pd_17 rfl) rfl (own_w rfl) (hb hby d29_23) (fun _ _ => ⟨rfl, rfl, (by decide : 2 + 0 ≤ _), (by decide : 3 + 0 ≤ _)⟩)
    dsimp only [Pt.U, Pt.locs, Pt.cells, Pt.slots] at X9 lq9 yq9 zq9 st9 hQ9
    subst lq9 yq9 zq9
    obtain ⟨rfl, N9q, e9q⟩ := hQ9
    have N9 := Fr.app N4 N9q
    refine Go.on (B := T9.setTop (mkF m 28 #[vR a1, vI p2, vI 1, vR y4, vI 1] [])) (fun t k => st4 _ (XS.astoreN X4.here hx rfl (hb hby d29_20) rfl rfl (l' := #[vR a1, vI p2, vI 1, vR y4, .unset]) rfl (XS.aloadN X4.here hx rfl (hb hby d29_21) rfl rfl (XS.iloadN X4.here hx rfl (hb hby d29_22) rfl (st9 _ (XS.istore X9.here hx rfl (hb hby d29_26) rfl (l' := #[vR a1, vI p2, vI 1, vR y4, vI 1]) rfl k)))))) ?_
    obtain ⟨T11, h11, X11, e11, Xe11, A11, D11, Ue11, st11⟩ := newO X9 hx hZ hown (gw hw 183 rfl) (gw hw 7 rfl) (gw hw 8 rfl) e9q (g := (mkF m 28 #[vR a1, vI p2, vI 1, vR y4, vI 1] [])) rfl (hb hby d29_28) (by decide) (by decide)
    obtain ⟨b11, gq11⟩ : ∃ z, z = T4.heap.size := ⟨_, rfl⟩
    rw [← gq11] at A11 D11 Ue11 st11
    have ge_b11 : n0 ≤ b11 := Nat.le_trans Zs18 (Nat.le_of_eq gq11.symm)
    have sz_b11 : h0.size ≤ b11 := Nat.le_trans K19.1 (Nat.le_of_eq gq11.symm)
    have ne_y4_b11 : y4 ≠ b11 := Nat.ne_of_lt (Nat.lt_of_lt_of_le Vy4.lt (Nat.le_of_eq gq11.symm))
    have f22 := Vy4.ext Xe11
    have Zs23 := Nat.le_trans Zs18 Xe11.1
    have K24 := K19.ext Xe11
    have F11_value : Fld Z h11 b11 "java/lang/String" "value" "[B" .null := D11 (Or.inr (gw hw 21 rfl)) (ty := (.array .byte)) (by decide)
    have F11_coder : Fld Z h11 b11 "java/lang/String" "coder" "B" (.int 0) := D11 (Or.inr (gw hw 22 rfl)) (ty := .byte) (by decide)
    obtain ⟨_, _, ⟨T12, L12, k12, n12⟩, -, X12, ⟨Lc12, hQ12, lq12, yq12, zq12⟩, st12⟩ := X11.specialBack hx (y := MN21) rfl hown (mg hZ hw 184 rfl) (mg hZ hw 185 rfl) (mg hZ hw 186 rfl) (by decide) (backOf (W := 1) (rsb1 l Z a0 hw [] b11 y4 h11 n0 Zs23 A11 F11_value F11_coder ge_b11) hZ (gw hw 186 rfl) (gw hw 8 rfl) (by decide) (by decide)) (g := (mkF m 35 #[vR a1, vI p2, vI 1, vR y4, vI 1] [(.int 1), (.ref y4), (.ref b11), (.ref b11)])) rfl (by rw [hml]; rfl) (Steps.refl _) (a := b11) (argsL := [(.ref y4), (.int 1)]) (rest := [(.ref b11)]) (lenOf pd_11 rfl) rfl (own_w rfl) (hb hby d29_35) (fun _ _ => ⟨rfl, e11, (by decide : 3 + 0 ≤ _), (by decide : 7 + 0 ≤ _)⟩)
    dsimp only [Pt.U, Pt.locs, Pt.cells, Pt.slots] at X12 lq12 yq12 zq12 st12 hQ12
    subst lq12 yq12 zq12
    obtain ⟨rfl, N12q, K12q, G12_0, G12_1, G12_2⟩ := hQ12
    have N12 := Fr.app N9 N12q
    have f27 := f22.keep K12q (ninS ne_y4_b11 nin0)
    have K30 := K24.trans K12q (allS (Or.inr sz_b11) all0)
    refine Go.on (B := T12.setTop (mkF m 38 #[vR a1, vI p2, vI 1, vR y4, vI 1] [(.ref b11)])) (fun t k => st11 _ (XS.dup X11.here hx rfl (hb hby d29_31) rfl rfl (XS.aloadN X11.here hx rfl (hb hby d29_32) rfl rfl (XS.iload X11.here hx rfl (hb hby d29_33) rfl (st12.trans k))))) ?_
    refine Go.fin X12 (v := some (.ref b11)) (own_nv Bd.returns) Bd.notSynchronized ?_ rfl ⟨⟨_, _, _, rfl, G12_0, G12_1, Or.inr ⟨G12_2, f27⟩⟩, N12, K30⟩ (by decide) (by decide)
    exact fun _ hr => retOut X12 hx Bd.returns rfl (Or.inr (Or.inr (Or.inr (Or.inr ⟨rfl, rfl, rfl⟩)))) (hb hby d29_38) hr
theorem ef_rb5_2 (m : MethodId) (a1 : Addr) (p2 : Int32) (a3 : Addr) : entryFrame m #[(.ref a1), (.int p2), (.ref a3), (.int 0), (.int 2)] 7 = mkF m 0 #[vR a1, vI p2, vR a3, vI 0, vI 2, .unset, .unset] [] := rfl
def Q_rb5_2 (Z : State) (a1 : Addr) (p2 : Int32) (a3 : Addr) (k1 : ClassId) (z1 : Int32) (vs : List Value) (k3 : ClassId) (z2 : Int32) (c0 c1 : Int32) (G3 : Value) (h0 : Heap) (n0 : Nat) (v : Option Value) (h : Heap) (L : List Loc) : Prop := ((v = some (.int 2) ∧ Arv Z h a3 k3 .byte (2 : Int32) [(.int (own_l c0)), (.int (own_l c1))] (.int 0) ∧ ¬ ((255 : Int32) < c0) ∧ ¬ ((255 : Int32) < c1)) ∨ (v = some (.int 0) ∧ (255 : Int32) < c0) ∨ (v = some (.int 1) ∧ (255 : Int32) < c1)) ∧ Fr n0 L ∧ Keep h0 h [a3]
theorem rb5_2 (l : Launch) (Z : State) (a0 : Array Value) (hw : ∀ d ∈ tables_1, d.before a0 Z = true) (ws : List Jvm.Cond) (a1 : Addr) (p2 : Int32) (a3 : Addr) (k1 : ClassId) (z1 : Int32) (vs : List Value) (k3 : ClassId) (z2 : Int32) (c0 c1 : Int32) (G3 : Value) (h0 : Heap) (n0 : Nat) (Z0 : n0 ≤ h0.size) (V1 : Arv Z h0 a1 k1 .byte z1 vs (.int 0)) (V3 : Arv Z h0 a3 k3 .byte (2 : Int32) [(.int 0), (.int 0)] (.int 0)) (hne : a1 ≠ a3) (ge3 : n0 ≤ a3) (hz2 : (z1 >>> ((1 : Int32) &&& 31)) = z2) (hbo : own_B z2 p2 (2 : Int32)) (g0 : own_G vs z1 p2 c0) (g1 : own_G vs z1 (p2 + (1 : Int32)) c1) (hc0 : 0 ≤ c0.toInt ∧ c0.toInt ≤ 65535) (hc1 : 0 ≤ c1.toInt ∧ c1.toInt ≤ 65535) (O0 : Old Z n0 h0) (S_fm : own_S_fm Z G3) (S_ad : own_S_ad Z) (S_hi : own_S_hi Z) (S_lo : own_S_lo Z) (rG3 : G3.isRef = true) :
    MetFree l MN32 (head1 (Jvm.Cond.code MN32 jdk_52_method_22_code 7 (some .int) :: ws) (rK 3 0 0 60)) (fun a U => a = #[(.ref a1), (.int p2), (.ref a3), (.int 0), (.int 2)] ∧ Z.Warmed39 U.vm ∧ U.heap = h0) (fun _ _ _ _ _ => True) (fun _ U o U' => ∃ v L, o = .returned v ∧ Q_rb5_2 Z a1 p2 a3 k1 z1 vs k3 z2 c0 c1 G3 h0 n0 v U'.heap L ∧ FrameEnd U o U' L (rK 3 0 0 60).cells (rK 3 0 0 60).slots) := by
  refine MetFree.of_bodySF (plainFor_of_name pn_10) hisR ?_
  intro p e s m args below meth c sB Bd hml0 hP hK
  obtain ⟨rfl, hZ, hh⟩ := hP
  have hx := Bd.exec
  have hby := Bd.bytes
  have hml : c.maxLocals = 7 := hml0
  have hown : s.vm.findClass "java/lang/StringUTF16" = some m.cls := findClass_of_methodNamed Bd.named
  have X0 : Stand p l e (rK 3 0 0 60) s m #[(.ref a1), (.int p2), (.ref a3), (.int 0), (.int 2)] below meth c sB [] 0 0 := Stand.of_body Bd
  have e0 : sB.heap = h0 := by rw [← hh, Bd.state]; rfl
  have N0 := Fr.nil n0
  change Go p.tables e below _ _
  have K0 := Keep.refl h0 [a3]
  refine Go.on (B := sB.setTop (mkF m 0 #[vR a1, vI p2, vR a3, vI 0, vI 2, .unset, .unset] [])) (fun t k => castTop (ef_rb5_2 m a1 p2 a3) k) ?_
  obtain ⟨_, _, ⟨T1, L1, k1, n1⟩, -, X1, ⟨Lc1, hQ1, lq1, yq1, zq1⟩, st1⟩ := Jvm.LawKit.callS X0 hx (y := MN15) hown (mg hZ hw 155 rfl) (mg hZ hw 156 rfl) (mg hZ hw 83 rfl) (mg hZ hw 157 rfl) (by decide) (backOf (W := 0) (rbu l Z a0 hw [] p2 (2 : Int32) a1 k1 z1 vs z2 G3 h0 n0 Z0 V1 hz2 hbo O0 S_fm rG3) hZ (gw hw 157 rfl) (gw hw 83 rfl) (by decide) (by decide)) (g := (mkF m 4 #[vR a1, vI p2, vR a3, vI 0, vI 2, .unset, .unset] [(.ref a1), (.int 2), (.int p2)])) rfl (by rw [hml]; rfl) (argsL := [(.int p2), (.int 2), (.ref a1)]) (rest := []) (lenOf pd_19 rfl) rfl (own_w rfl) (hb hby d34_4) (fun _ _ => ⟨rfl, e0, (by decide : 0 + 0 ≤ _), (by decide : 0 + 0 ≤ _)⟩)
  dsimp only [Pt.U, Pt.locs, Pt.cells, Pt.slots] at X1 lq1 yq1 zq1 st1 hQ1
  subst lq1 yq1 zq1
  obtain ⟨rfl, N1q, e1q⟩ := hQ1
  have N1 := Fr.app N0 N1q
  refine Go.on (B := T1.setTop (mkF m 10 #[vR a1, vI p2, vR a3, vI 0, vI 2, vI 0, .unset] [])) (fun t k => XS.iloadN X0.here hx rfl (hb hby d34_0) rfl (XS.iload X0.here hx rfl (hb hby d34_1) rfl (XS.aloadN X0.here hx rfl (hb hby d34_3) rfl rfl (st1 _ (XS.iconst X1.here hx rfl (hb hby d34_7) (XS.istore X1.here hx rfl (hb hby d34_8) rfl (l' := #[vR a1, vI p2, vR a3, vI 0, vI 2, vI 0, .unset]) rfl k)))))) ?_
  have hc14_3 : (0 : Int32) < (2 : Int32) := by decide
  refine Go.on (B := T1.setTop (mkF m 19 #[vR a1, vI p2, vR a3, vI 0, vI 2, vI 0, .unset] [(.int p2), (.ref a1)])) (fun t k => XS.iload X1.here hx rfl (hb hby d34_10) rfl (XS.iload X1.here hx rfl (hb hby d34_12) rfl (XS.icmpNo X1.here hx rfl (hb hby d34_14) rfl (tlt hc14_3).2.1 (XS.aloadN X1.here hx rfl (hb hby d34_17) rfl rfl (XS.iloadN X1.here hx rfl (hb hby d34_18) rfl k))))) ?_
  obtain ⟨_, _, ⟨T4, L4, k4, n4⟩, -, X4, ⟨Lc4, hQ4, lq4, yq4, zq4⟩, st4⟩ := Jvm.LawKit.callS X1 hx (y := MN5) hown (mg hZ hw 131 rfl) (mg hZ hw 132 rfl) (mg hZ hw 83 rfl) (mg hZ hw 133 rfl) (by decide) (backOf (W := 0) (rgc l Z a0 hw [] a1 p2 k1 z1 vs (own_u0 c0) (own_u1 c0) c0 h0 n0 Z0 V1 g0.1 g0.2.1 g0.2.2.1 g0.2.2.2 (own_utf c0 hc0) O0 S_ad S_hi S_lo) hZ (gw hw 133 rfl) (gw hw 83 rfl) (by decide) (by decide)) (g := (mkF m 19 #[vR a1, vI p2, vR a3, vI 0, vI 2, vI 0, .unset] [(.int p2), (.ref a1)])) rfl (by rw [hml]; rfl) (argsL := [(.ref a1), (.int p2)]) (rest := []) (lenOf pd_4 rfl) rfl (own_w rfl) (hb hby d34_19) (fun _ _ => ⟨rfl, e1q, (by decide : 0 + 0 ≤ _), (by decide : 0 + 0 ≤ _)⟩)
  dsimp only [Pt.U, Pt.locs, Pt.cells, Pt.slots] at X4 lq4 yq4 zq4 st4 hQ4
  subst lq4 yq4 zq4
  obtain ⟨rfl, N4q, e4q⟩ := hQ4
  have N4 := Fr.app N1 N4q
  refine Go.on (B := T4.setTop (mkF m 29 #[vR a1, vI p2, vR a3, vI 0, vI 2, vI 0, vI c0] [(.int 255), (.int c0)])) (fun t k => st4 _ (XS.istore X4.here hx rfl (hb hby d34_22) rfl (l' := #[vR a1, vI p2, vR a3, vI 0, vI 2, vI 0, vI c0]) rfl (XS.iload X4.here hx rfl (hb hby d34_24) rfl (XS.sipush X4.here hx rfl (hb hby d34_26) k)))) ?_
  by_cases hc29_6 : (255 : Int32) < c0
  · refine Go.on (B := T4.setTop (mkF m 34 #[vR a1, vI p2, vR a3, vI 0, vI 2, vI 0, vI c0] [(.int 0)])) (fun t k => XS.icmpNo X4.here hx rfl (hb hby d34_29) rfl (tlt hc29_6).2.2.2 (XS.iload X4.here hx rfl (hb hby d34_32) rfl k)) ?_
    refine Go.fin X4 (v := some (.int 0)) (own_nv Bd.returns) Bd.notSynchronized ?_ e4q ⟨(Or.inr (Or.inl ⟨rfl, hc29_6⟩)), N4, K0⟩ (by decide) (by decide)
    exact fun _ hr => retI X4 hx Bd.returns (hb hby d34_34) hr
  · obtain ⟨cl7, Ar7, qq7, Sz7, Ng7, Hh7, Gg7⟩ := id V3
    have hin7 : ¬ ((0 : Int32) < 0 ∨ cl7.slots.size ≤ ((0 : Int32)).toNatClampNeg) := inb_of Sz7 ⟨by decide, by decide⟩
    obtain ⟨T7, h7, X7, e7, W7, st7⟩ := stB X4 hx hZ e4q Ar7 (j := (0 : Int32)) hin7 (g := (mkF m 40 #[vR a1, vI p2, vR a3, vI 0, vI 2, vI 0, vI c0] [(.int (c0.toInt8.toInt32)), (.int 0), (.ref a3)])) rfl rfl (hb hby d34_40)
    have V7 : Arv Z h7 a3 k3 .byte (2 : Int32) [(.int ((c0.toInt8.toInt32).toInt8.toInt32)), (.int 0)] (.int 0) := Arv.set Ar7 qq7 Sz7 Ng7 Hh7 Gg7 (fits_nar_byte _) W7 0 rfl (Nat.le_of_ble_eq_true rfl)
    have N7 := Fr.snoc X7 N4 ge3
    have f1 := V1.other W7 hne
    have O_2 := O0.wr W7 ge3
    have Zs3 := Nat.le_trans Z0 (Keep.of_wr W7).1
    have K4 := K0.wr W7 (Or.inl (List.mem_of_getElem? (i := 0) rfl))
    refine Go.on (B := T7.setTop (mkF m 41 #[vR a1, vI p2, vR a3, vI 0, vI 2, vI 0, vI c0] [])) (fun t k => XS.icmpYes X4.here hx rfl (pc0 := 29) (pc' := 35) rfl (hb hby d34_29) rfl (flt hc29_6).2.2.2 (by decide) (by decide) (XS.aloadN X4.here hx rfl (hb hby d34_35) rfl rfl (XS.iloadN X4.here hx rfl (hb hby d34_36) rfl (XS.iload X4.here hx rfl (hb hby d34_37) rfl (XS.i2b X4.here hx rfl (hb hby d34_39) rfl (st7 _ k)))))) ?_
    refine Go.on (B := T7.setTop (mkF m 47 #[vR a1, vI (p2 + (1 : Int32)), vR a3, vI ((0 : Int32) + (1 : Int32)), vI 2, vI 0, vI c0] [])) (fun t k => XS.iinc X7.here hx rfl (hb hby d34_41) rfl (l' := #[vR a1, vI (p2 + (1 : Int32)), vR a3, vI 0, vI 2, vI 0, vI c0]) rfl (XS.iinc X7.here hx rfl (hb hby d34_44) rfl (l' := #[vR a1, vI (p2 + (1 : Int32)), vR a3, vI ((0 : Int32) + (1 : Int32)), vI 2, vI 0, vI c0]) rfl k)) ?_
    rw [show ((0 : Int32) + (1 : Int32)) = (1 : Int32) from by decide]
    refine Go.on (B := T7.setTop (mkF m 50 #[vR a1, vI (p2 + (1 : Int32)), vR a3, vI 1, vI 2, vI ((0 : Int32) + (1 : Int32)), vI c0] [])) (fun t k => XS.iinc X7.here hx rfl (hb hby d34_47) rfl (l' := #[vR a1, vI (p2 + (1 : Int32)), vR a3, vI 1, vI 2, vI ((0 : Int32) + (1 : Int32)), vI c0]) rfl k) ?_
    rw [show ((0 : Int32) + (1 : Int32)) = (1 : Int32) from by decide]
    have hc14_8 : (1 : Int32) < (2 : Int32) := by decide
    refine Go.on (B := T7.setTop (mkF m 19 #[vR a1, vI (p2 + (1 : Int32)), vR a3, vI 1, vI 2, vI 1, vI c0] [(.int (p2 + (1 : Int32))), (.ref a1)])) (fun t k => XS.goto X7.here hx rfl (pc0 := 50) (pc' := 10) rfl (hb hby d34_50) (by decide) (by decide) (XS.iload X7.here hx rfl (hb hby d34_10) rfl (XS.iload X7.here hx rfl (hb hby d34_12) rfl (XS.icmpNo X7.here hx rfl (hb hby d34_14) rfl (tlt hc14_8).2.1 (XS.aloadN X7.here hx rfl (hb hby d34_17) rfl rfl (XS.iloadN X7.here hx rfl (hb hby d34_18) rfl k)))))) ?_
    obtain ⟨_, _, ⟨T9, L9, k9, n9⟩, -, X9, ⟨Lc9, hQ9, lq9, yq9, zq9⟩, st9⟩ := Jvm.LawKit.callS X7 hx (y := MN5) hown (mg hZ hw 131 rfl) (mg hZ hw 132 rfl) (mg hZ hw 83 rfl) (mg hZ hw 133 rfl) (by decide) (backOf (W := 0) (rgc l Z a0 hw [] a1 (p2 + (1 : Int32)) k1 z1 vs (own_u0 c1) (own_u1 c1) c1 h7 n0 Zs3 f1 g1.1 g1.2.1 g1.2.2.1 g1.2.2.2 (own_utf c1 hc1) O_2 S_ad S_hi S_lo) hZ (gw hw 133 rfl) (gw hw 83 rfl) (by decide) (by decide)) (g := (mkF m 19 #[vR a1, vI (p2 + (1 : Int32)), vR a3, vI 1, vI 2, vI 1, vI c0] [(.int (p2 + (1 : Int32))), (.ref a1)])) rfl (by rw [hml]; rfl) (argsL := [(.ref a1), (.int (p2 + (1 : Int32)))]) (rest := []) (lenOf pd_4 rfl) rfl (own_w rfl) (hb hby d34_19) (fun _ _ => ⟨rfl, e7, (by decide : 0 + 0 ≤ _), (by decide : 0 + 0 ≤ _)⟩)
    dsimp only [Pt.U, Pt.locs, Pt.cells, Pt.slots] at X9 lq9 yq9 zq9 st9 hQ9
    subst lq9 yq9 zq9
    obtain ⟨rfl, N9q, e9q⟩ := hQ9
    have N9 := Fr.app N7 N9q
    refine Go.on (B := T9.setTop (mkF m 29 #[vR a1, vI (p2 + (1 : Int32)), vR a3, vI 1, vI 2, vI 1, vI c1] [(.int 255), (.int c1)])) (fun t k => st9 _ (XS.istore X9.here hx rfl (hb hby d34_22) rfl (l' := #[vR a1, vI (p2 + (1 : Int32)), vR a3, vI 1, vI 2, vI 1, vI c1]) rfl (XS.iload X9.here hx rfl (hb hby d34_24) rfl (XS.sipush X9.here hx rfl (hb hby d34_26) k)))) ?_
    by_cases hc29_11 : (255 : Int32) < c1
    · refine Go.on (B := T9.setTop (mkF m 34 #[vR a1, vI (p2 + (1 : Int32)), vR a3, vI 1, vI 2, vI 1, vI c1] [(.int 1)])) (fun t k => XS.icmpNo X9.here hx rfl (hb hby d34_29) rfl (tlt hc29_11).2.2.2 (XS.iload X9.here hx rfl (hb hby d34_32) rfl k)) ?_
      refine Go.fin X9 (v := some (.int 1)) (own_nv Bd.returns) Bd.notSynchronized ?_ e9q ⟨(Or.inr (Or.inr ⟨rfl, hc29_11⟩)), N9, K4⟩ (by decide) (by decide)
      exact fun _ hr => retI X9 hx Bd.returns (hb hby d34_34) hr
    · obtain ⟨cl12, Ar12, qq12, Sz12, Ng12, Hh12, Gg12⟩ := id V7
      have hin12 : ¬ ((1 : Int32) < 0 ∨ cl12.slots.size ≤ ((1 : Int32)).toNatClampNeg) := inb_of Sz12 ⟨by decide, by decide⟩
      obtain ⟨T12, h12, X12, e12, W12, st12⟩ := stB X9 hx hZ e9q Ar12 (j := (1 : Int32)) hin12 (g := (mkF m 40 #[vR a1, vI (p2 + (1 : Int32)), vR a3, vI 1, vI 2, vI 1, vI c1] [(.int (c1.toInt8.toInt32)), (.int 1), (.ref a3)])) rfl rfl (hb hby d34_40)
      have V12 : Arv Z h12 a3 k3 .byte (2 : Int32) [(.int ((c0.toInt8.toInt32).toInt8.toInt32)), (.int ((c1.toInt8.toInt32).toInt8.toInt32))] (.int 0) := Arv.set Ar12 qq12 Sz12 Ng12 Hh12 Gg12 (fits_nar_byte _) W12 1 rfl (Nat.le_of_ble_eq_true rfl)
      have N12 := Fr.snoc X12 N9 ge3
      have K8 := K4.wr W12 (Or.inl (List.mem_of_getElem? (i := 0) rfl))
      refine Go.on (B := T12.setTop (mkF m 41 #[vR a1, vI (p2 + (1 : Int32)), vR a3, vI 1, vI 2, vI 1, vI c1] [])) (fun t k => XS.icmpYes X9.here hx rfl (pc0 := 29) (pc' := 35) rfl (hb hby d34_29) rfl (flt hc29_11).2.2.2 (by decide) (by decide) (XS.aloadN X9.here hx rfl (hb hby d34_35) rfl rfl (XS.iloadN X9.here hx rfl (hb hby d34_36) rfl (XS.iload X9.here hx rfl (hb hby d34_37) rfl (XS.i2b X9.here hx rfl (hb hby d34_39) rfl (st12 _ k)))))) ?_
      refine Go.on (B := T12.setTop (mkF m 47 #[vR a1, vI ((p2 + (1 : Int32)) + (1 : Int32)), vR a3, vI ((1 : Int32) + (1 : Int32)), vI 2, vI 1, vI c1] [])) (fun t k => XS.iinc X12.here hx rfl (hb hby d34_41) rfl (l' := #[vR a1, vI ((p2 + (1 : Int32)) + (1 : Int32)), vR a3, vI 1, vI 2, vI 1, vI c1]) rfl (XS.iinc X12.here hx rfl (hb hby d34_44) rfl (l' := #[vR a1, vI ((p2 + (1 : Int32)) + (1 : Int32)), vR a3, vI ((1 : Int32) + (1 : Int32)), vI 2, vI 1, vI c1]) rfl k)) ?_
      rw [show ((1 : Int32) + (1 : Int32)) = (2 : Int32) from by decide]
      refine Go.on (B := T12.setTop (mkF m 50 #[vR a1, vI ((p2 + (1 : Int32)) + (1 : Int32)), vR a3, vI 2, vI 2, vI ((1 : Int32) + (1 : Int32)), vI c1] [])) (fun t k => XS.iinc X12.here hx rfl (hb hby d34_47) rfl (l' := #[vR a1, vI ((p2 + (1 : Int32)) + (1 : Int32)), vR a3, vI 2, vI 2, vI ((1 : Int32) + (1 : Int32)), vI c1]) rfl k) ?_
      rw [show ((1 : Int32) + (1 : Int32)) = (2 : Int32) from by decide]
      have hc14_13 : ¬ ((2 : Int32) < (2 : Int32)) := by decide
      refine Go.on (B := T12.setTop (mkF m 55 #[vR a1, vI ((p2 + (1 : Int32)) + (1 : Int32)), vR a3, vI 2, vI 2, vI 2, vI c1] [(.int 2)])) (fun t k => XS.goto X12.here hx rfl (pc0 := 50) (pc' := 10) rfl (hb hby d34_50) (by decide) (by decide) (XS.iload X12.here hx rfl (hb hby d34_10) rfl (XS.iload X12.here hx rfl (hb hby d34_12) rfl (XS.icmpYes X12.here hx rfl (pc0 := 14) (pc' := 53) rfl (hb hby d34_14) rfl (flt hc14_13).2.1 (by decide) (by decide) (XS.iload X12.here hx rfl (hb hby d34_53) rfl k))))) ?_
      refine Go.fin X12 (v := some (.int 2)) (own_nv Bd.returns) Bd.notSynchronized ?_ e12 ⟨Or.inl ⟨rfl, V12, hc29_6, hc29_11⟩, N12, K8⟩ (by decide) (by decide)
      exact fun _ hr => retI X12 hx Bd.returns (hb hby d34_55) hr
theorem ef_rb3_2 (m : MethodId) (a1 : Addr) (p2 : Int32) : entryFrame m #[(.ref a1), (.int p2), (.int 2)] 6 = mkF m 0 #[vR a1, vI p2, vI 2, .unset, .unset, .unset] [] := rfl
def Q_rb3_2 (Z : State) (a1 : Addr) (p2 : Int32) (k1 : ClassId) (z1 : Int32) (vs : List Value) (z2 : Int32) (c0 c1 : Int32) (G3 : Value) (h0 : Heap) (n0 : Nat) (v : Option Value) (h : Heap) (L : List Loc) : Prop := (∃ (b : Addr) (kb : ClassId), v = some (.ref b) ∧ h0.size ≤ b ∧ ((Arv Z h b kb .byte (2 : Int32) [(.int (own_l c0)), (.int (own_l c1))] (.int 0) ∧ ¬ ((255 : Int32) < c0) ∧ ¬ ((255 : Int32) < c1)) ∨ (Arv Z h b kb .byte (4 : Int32) [(.int (own_u0 c0)), (.int (own_u1 c0)), (.int (own_u0 c1)), (.int (own_u1 c1))] (.int 0)))) ∧ Fr n0 L ∧ Keep h0 h []
theorem rb3_2 (l : Launch) (Z : State) (a0 : Array Value) (hw : ∀ d ∈ tables_1, d.before a0 Z = true) (ws : List Jvm.Cond) (a1 : Addr) (p2 : Int32) (k1 : ClassId) (z1 : Int32) (vs : List Value) (z2 : Int32) (c0 c1 : Int32) (G3 : Value) (h0 : Heap) (n0 : Nat) (Z0 : n0 ≤ h0.size) (V1 : Arv Z h0 a1 k1 .byte z1 vs (.int 0)) (hz2 : (z1 >>> ((1 : Int32) &&& 31)) = z2) (hbo : own_B z2 p2 (2 : Int32)) (g0 : own_G vs z1 p2 c0) (g1 : own_G vs z1 (p2 + (1 : Int32)) c1) (hc0 : 0 ≤ c0.toInt ∧ c0.toInt ≤ 65535) (hc1 : 0 ≤ c1.toInt ∧ c1.toInt ≤ 65535) (hnl : ¬ (p2 + (2 : Int32)) < (0 : Int32) ∧ (p2 + (2 : Int32)) < (1073741823 : Int32) ∧ ((p2 + (2 : Int32)) <<< ((1 : Int32) &&& 31)) = z1) (hr : own_R z1 (p2 <<< ((1 : Int32) &&& 31)) (4 : Int32) vs [(.int (own_u0 c0)), (.int (own_u1 c0)), (.int (own_u0 c1)), (.int (own_u1 c1))]) (O0 : Old Z n0 h0) (S_fm : own_S_fm Z G3) (S_ad : own_S_ad Z) (S_hi : own_S_hi Z) (S_lo : own_S_lo Z) (rG3 : G3.isRef = true) :
    MetFree l MN33 (head1 (Jvm.Cond.code MN33 jdk_52_method_17_code 6 (some (.array .byte)) :: ws) (rK 4 2 6 100)) (fun a U => a = #[(.ref a1), (.int p2), (.int 2)] ∧ Z.Warmed39 U.vm ∧ U.heap = h0) (fun _ _ _ _ _ => True) (fun _ U o U' => ∃ v L, o = .returned v ∧ Q_rb3_2 Z a1 p2 k1 z1 vs z2 c0 c1 G3 h0 n0 v U'.heap L ∧ FrameEnd U o U' L (rK 4 2 6 100).cells (rK 4 2 6 100).slots) := by
  refine MetFree.of_bodySF (plainFor_of_name pn_10) hisR ?_
  intro p e s m args below meth c sB Bd hml0 hP hK
  obtain ⟨rfl, hZ, hh⟩ := hP
  have hx := Bd.exec
  have hby := Bd.bytes
  have hml : c.maxLocals = 6 := hml0
  have hown : s.vm.findClass "java/lang/StringUTF16" = some m.cls := findClass_of_methodNamed Bd.named
  have X0 : Stand p l e (rK 4 2 6 100) s m #[(.ref a1), (.int p2), (.int 2)] below meth c sB [] 0 0 := Stand.of_body Bd
  have e0 : sB.heap = h0 := by rw [← hh, Bd.state]; rfl
  have N0 := Fr.nil n0
  change Go p.tables e below _ _
  have K0 := Keep.refl h0 []
  refine Go.on (B := sB.setTop (mkF m 0 #[vR a1, vI p2, vI 2, .unset, .unset, .unset] [])) (fun t k => castTop (ef_rb3_2 m a1 p2) k) ?_
  obtain ⟨T1, h1, kq1, X1, e1, Xe1, A1, st1⟩ := newP X0 hx hZ (gw hw 20 rfl) e0 (g := (mkF m 1 #[vR a1, vI p2, vI 2, .unset, .unset, .unset] [(.int 2)])) rfl (hb hby d33_1) rfl (by decide) (cap := 2) (by decide) (by decide) (by decide) (by decide)
  obtain ⟨b1, gq1⟩ : ∃ z, z = h0.size := ⟨_, rfl⟩
  rw [← gq1] at A1 st1
  have ge_b1 : n0 ≤ b1 := Nat.le_trans Z0 (Nat.le_of_eq gq1.symm)
  have sz_b1 : h0.size ≤ b1 := Nat.le_trans K0.1 (Nat.le_of_eq gq1.symm)
  have ne_a1_b1 : a1 ≠ b1 := Nat.ne_of_lt (Nat.lt_of_lt_of_le V1.lt (Nat.le_of_eq gq1.symm))
  have f1 := V1.ext Xe1
  have O_2 := O0.ext Xe1
  have Zs3 := Nat.le_trans Z0 Xe1.1
  have K4 := K0.ext Xe1
  have V1 : Arv Z h1 b1 kq1 .byte (2 : Int32) [(.int 0), (.int 0)] (.int 0) := (Arv.new A1 (by decide)).pad (pad_rep [] (.int 0) 2)
  refine Go.on (B := T1.setTop (mkF m 7 #[vR a1, vI p2, vI 2, vR b1, .unset, .unset] [(.ref b1), (.int p2), (.ref a1)])) (fun t k => XS.iloadN X0.here hx rfl (hb hby d33_0) rfl (st1 _ (XS.astoreN X1.here hx rfl (hb hby d33_3) rfl rfl (l' := #[vR a1, vI p2, vI 2, vR b1, .unset, .unset]) rfl (XS.aloadN X1.here hx rfl (hb hby d33_4) rfl rfl (XS.iloadN X1.here hx rfl (hb hby d33_5) rfl (XS.aloadN X1.here hx rfl (hb hby d33_6) rfl rfl k)))))) ?_
  obtain ⟨_, _, ⟨T2, L2, k2, n2⟩, -, X2, ⟨Lc2, hQ2, lq2, yq2, zq2⟩, st2⟩ := Jvm.LawKit.callS X1 hx (y := MN32) hown (mg hZ hw 152 rfl) (mg hZ hw 153 rfl) (mg hZ hw 83 rfl) (mg hZ hw 154 rfl) (by decide) (backOf (W := 0) (rb5_2 l Z a0 hw [] a1 p2 b1 k1 z1 vs kq1 z2 c0 c1 G3 h1 n0 Zs3 f1 V1 ne_a1_b1 ge_b1 hz2 hbo g0 g1 hc0 hc1 O_2 S_fm S_ad S_hi S_lo rG3) hZ (gw hw 154 rfl) (gw hw 83 rfl) (by decide) (by decide)) (g := (mkF m 9 #[vR a1, vI p2, vI 2, vR b1, .unset, .unset] [(.int 2), (.int 0), (.ref b1), (.int p2), (.ref a1)])) rfl (by rw [hml]; rfl) (argsL := [(.ref a1), (.int p2), (.ref b1), (.int 0), (.int 2)]) (rest := []) (lenOf pd_20 rfl) rfl (own_w rfl) (hb hby d33_9) (fun _ _ => ⟨rfl, e1, (by decide : 1 + 0 ≤ _), (by decide : 2 + 0 ≤ _)⟩)
  dsimp only [Pt.U, Pt.locs, Pt.cells, Pt.slots] at X2 lq2 yq2 zq2 st2 hQ2
  subst lq2 yq2 zq2
  refine Go.on (B := T1.setTop (mkF m 9 #[vR a1, vI p2, vI 2, vR b1, .unset, .unset] [(.int 2), (.int 0), (.ref b1), (.int p2), (.ref a1)])) (fun t k => XS.iconst X1.here hx rfl (hb hby d33_7) (XS.iloadN X1.here hx rfl (hb hby d33_8) rfl k)) ?_
  rcases hQ2 with ⟨⟨rfl, V52, hx2_c0, hx2_c1⟩ | ⟨rfl, hx2_c0⟩ | ⟨rfl, hx2_c1⟩, N2q, K2q⟩
  · have N2 := Fr.app N0 N2q
    have K8 := K4.trans K2q (allS (Or.inr sz_b1) all0)
    have hc17_4 : (2 : Int32) = (2 : Int32) := by decide
    refine Go.on (B := T2.setTop (mkF m 65 #[vR a1, vI p2, vI 2, vR b1, vI 2, .unset] [(.ref b1)])) (fun t k => st2 _ (XS.istore X2.here hx rfl (hb hby d33_12) rfl (l' := #[vR a1, vI p2, vI 2, vR b1, vI 2, .unset]) rfl (XS.iload X2.here hx rfl (hb hby d33_14) rfl (XS.iloadN X2.here hx rfl (hb hby d33_16) rfl (XS.icmpYes X2.here hx rfl (pc0 := 17) (pc' := 64) rfl (hb hby d33_17) rfl (teq hc17_4).1 (by decide) (by decide) (XS.aloadN X2.here hx rfl (hb hby d33_64) rfl rfl k)))))) ?_
    refine Go.fin X2 (v := some (.ref b1)) (own_nv Bd.returns) Bd.notSynchronized ?_ rfl ⟨⟨_, _, rfl, sz_b1, Or.inl ⟨V52, hx2_c0, hx2_c1⟩⟩, N2, K8⟩ (by decide) (by decide)
    exact fun _ hr => retOut X2 hx Bd.returns rfl (Or.inr (Or.inr (Or.inr (Or.inr ⟨rfl, rfl, rfl⟩)))) (hb hby d33_65) hr
  · have N2 := Fr.app N0 N2q
    have f9 := f1.keep K2q (ninS ne_a1_b1 nin0)
    have O_10 := O_2.keep K2q (allS ge_b1 all0)
    have Zs11 := Nat.le_trans Zs3 K2q.1
    have K12 := K4.trans K2q (allS (Or.inr sz_b1) all0)
    have hc17_6 : ¬ ((0 : Int32) = (2 : Int32)) := by decide
    refine Go.on (B := T2.setTop (mkF m 21 #[vR a1, vI p2, vI 2, vR b1, vI 0, .unset] [(.ref a1)])) (fun t k => st2 _ (XS.istore X2.here hx rfl (hb hby d33_12) rfl (l' := #[vR a1, vI p2, vI 2, vR b1, vI 0, .unset]) rfl (XS.iload X2.here hx rfl (hb hby d33_14) rfl (XS.iloadN X2.here hx rfl (hb hby d33_16) rfl (XS.icmpNo X2.here hx rfl (hb hby d33_17) rfl (feq hc17_6).1 (XS.aloadN X2.here hx rfl (hb hby d33_20) rfl rfl k)))))) ?_
    refine Go.on (B := T2.setTop (mkF m 27 #[vR a1, vI p2, vI 2, vR b1, vI 0, .unset] [(.int (p2 + (2 : Int32))), (.int (p2 <<< ((1 : Int32) &&& 31))), (.ref a1)])) (fun t k => XS.iloadN X2.here hx rfl (hb hby d33_21) rfl (XS.iconst X2.here hx rfl (hb hby d33_22) (XS.ishl X2.here hx rfl (hb hby d33_23) rfl (XS.iloadN X2.here hx rfl (hb hby d33_24) rfl (XS.iloadN X2.here hx rfl (hb hby d33_25) rfl (XS.iadd X2.here hx rfl (hb hby d33_26) rfl k)))))) ?_
    obtain ⟨_, _, ⟨T7, L7, k7, n7⟩, -, X7, ⟨Lc7, hQ7, lq7, yq7, zq7⟩, st7⟩ := Jvm.LawKit.callS X2 hx (y := MN18) hown (mg hZ hw 121 rfl) (mg hZ hw 122 rfl) (mg hZ hw 83 rfl) (mg hZ hw 123 rfl) (by decide) (backOf (W := 2) (rnlg l Z a0 hw [] (p2 + (2 : Int32)) z1 T2.heap n0 Zs11 hnl) hZ (gw hw 123 rfl) (gw hw 83 rfl) (by decide) (by decide)) (g := (mkF m 27 #[vR a1, vI p2, vI 2, vR b1, vI 0, .unset] [(.int (p2 + (2 : Int32))), (.int (p2 <<< ((1 : Int32) &&& 31))), (.ref a1)])) rfl (by rw [hml]; rfl) (argsL := [(.int (p2 + (2 : Int32)))]) (rest := [(.int (p2 <<< ((1 : Int32) &&& 31))), (.ref a1)]) (lenOf pd_12 rfl) rfl (own_w rfl) (hb hby d33_27) (fun _ _ => ⟨rfl, rfl, (by decide : 1 + 0 ≤ _), (by decide : 2 + 0 ≤ _)⟩)
    dsimp only [Pt.U, Pt.locs, Pt.cells, Pt.slots] at X7 lq7 yq7 zq7 st7 hQ7
    subst lq7 yq7 zq7
    obtain ⟨rfl, N7q, e7q⟩ := hQ7
    have N7 := Fr.app N2 N7q
    obtain ⟨_, _, ⟨T8, L8, k8, n8⟩, -, X8, ⟨Lc8, hQ8, lq8, yq8, zq8⟩, st8⟩ := Jvm.LawKit.callS X7 hx (y := MN20) hown (mg hZ hw 164 rfl) (mg hZ hw 165 rfl) (mg hZ hw 166 rfl) (mg hZ hw 167 rfl) (by decide) (backOf (W := 0) (rcr4 l Z a0 hw [] a1 (p2 <<< ((1 : Int32) &&& 31)) z1 k1 vs [(.int (own_u0 c0)), (.int (own_u1 c0)), (.int (own_u0 c1)), (.int (own_u1 c1))] T2.heap n0 Zs11 f9 hr) hZ (gw hw 167 rfl) (gw hw 166 rfl) (by decide) (by decide)) (g := (mkF m 30 #[vR a1, vI p2, vI 2, vR b1, vI 0, .unset] [(.int z1), (.int (p2 <<< ((1 : Int32) &&& 31))), (.ref a1)])) rfl (by rw [hml]; rfl) (argsL := [(.ref a1), (.int (p2 <<< ((1 : Int32) &&& 31))), (.int z1)]) (rest := []) (lenOf pd_10 rfl) rfl (own_w rfl) (hb hby d33_30) (fun _ _ => ⟨rfl, e7q, (by decide : 1 + 1 ≤ _), (by decide : 2 + 4 ≤ _)⟩)
    dsimp only [Pt.U, Pt.locs, Pt.cells, Pt.slots] at X8 lq8 yq8 zq8 st8 hQ8
    subst lq8 yq8 zq8
    obtain ⟨⟨y8, ky8, rfl, sx8, Vy8⟩, N8q, K8q⟩ := hQ8
    have N8 := Fr.app N7 N8q
    have sz_y8 : h0.size ≤ y8 := Nat.le_trans K12.1 sx8
    have O_14 := O_10.keep K8q all0
    have Zs15 := Nat.le_trans Zs11 K8q.1
    have K16 := K12.trans K8q all0
    refine Go.on (B := T8.setTop (mkF m 39 #[vR a1, vI p2, vI 2, vR b1, vI 0, vR y8] [(.int 0), (.ref y8)])) (fun t k => st7 _ (st8 _ (XS.astore X8.here hx rfl (hb hby d33_33) rfl rfl (l' := #[vR a1, vI p2, vI 2, vR b1, vI 0, vR y8]) rfl (XS.aload X8.here hx rfl (hb hby d33_35) rfl rfl (XS.iload X8.here hx rfl (hb hby d33_37) rfl k))))) ?_
    obtain ⟨_, _, ⟨T9, L9, k9, n9⟩, -, X9, ⟨Lc9, hQ9, lq9, yq9, zq9⟩, st9⟩ := Jvm.LawKit.callS X8 hx (y := MN5) hown (mg hZ hw 131 rfl) (mg hZ hw 132 rfl) (mg hZ hw 83 rfl) (mg hZ hw 133 rfl) (by decide) (backOf (W := 0) (rgc l Z a0 hw [] y8 (0 : Int32) ky8 (4 : Int32) [(.int (own_u0 c0)), (.int (own_u1 c0)), (.int (own_u0 c1)), (.int (own_u1 c1))] (own_u0 c0) (own_u1 c0) c0 T8.heap n0 Zs15 Vy8 ⟨by decide, by decide⟩ rfl ⟨by decide, by decide⟩ rfl (own_utf c0 hc0) O_14 S_ad S_hi S_lo) hZ (gw hw 133 rfl) (gw hw 83 rfl) (by decide) (by decide)) (g := (mkF m 39 #[vR a1, vI p2, vI 2, vR b1, vI 0, vR y8] [(.int 0), (.ref y8)])) rfl (by rw [hml]; rfl) (argsL := [(.ref y8), (.int 0)]) (rest := []) (lenOf pd_4 rfl) rfl (own_w rfl) (hb hby d33_39) (fun _ _ => ⟨rfl, rfl, (by decide : 2 + 0 ≤ _), (by decide : 6 + 0 ≤ _)⟩)
    dsimp only [Pt.U, Pt.locs, Pt.cells, Pt.slots] at X9 lq9 yq9 zq9 st9 hQ9
    subst lq9 yq9 zq9
    obtain ⟨rfl, N9q, e9q⟩ := hQ9
    have N9 := Fr.app N8 N9q
    have hc45_10 : (255 : Int32) < c0 := hx2_c0
    refine Go.on (B := T9.setTop (mkF m 63 #[vR a1, vI p2, vI 2, vR b1, vI 0, vR y8] [(.ref y8)])) (fun t k => st9 _ (XS.sipush X9.here hx rfl (hb hby d33_42) (XS.icmpYes X9.here hx rfl (pc0 := 45) (pc' := 61) rfl (hb hby d33_45) rfl (tlt hc45_10).2.2.1 (by decide) (by decide) (XS.aload X9.here hx rfl (hb hby d33_61) rfl rfl k)))) ?_
    refine Go.fin X9 (v := some (.ref y8)) (own_nv Bd.returns) Bd.notSynchronized ?_ e9q ⟨⟨_, _, rfl, sz_y8, Or.inr Vy8⟩, N9, K16⟩ (by decide) (by decide)
    exact fun _ hr => retOut X9 hx Bd.returns rfl (Or.inr (Or.inr (Or.inr (Or.inr ⟨rfl, rfl, rfl⟩)))) (hb hby d33_63) hr
  · have N2 := Fr.app N0 N2q
    have f17 := f1.keep K2q (ninS ne_a1_b1 nin0)
    have O_18 := O_2.keep K2q (allS ge_b1 all0)
    have Zs19 := Nat.le_trans Zs3 K2q.1
    have K20 := K4.trans K2q (allS (Or.inr sz_b1) all0)
    have hc17_12 : ¬ ((1 : Int32) = (2 : Int32)) := by decide
    refine Go.on (B := T2.setTop (mkF m 21 #[vR a1, vI p2, vI 2, vR b1, vI 1, .unset] [(.ref a1)])) (fun t k => st2 _ (XS.istore X2.here hx rfl (hb hby d33_12) rfl (l' := #[vR a1, vI p2, vI 2, vR b1, vI 1, .unset]) rfl (XS.iload X2.here hx rfl (hb hby d33_14) rfl (XS.iloadN X2.here hx rfl (hb hby d33_16) rfl (XS.icmpNo X2.here hx rfl (hb hby d33_17) rfl (feq hc17_12).1 (XS.aloadN X2.here hx rfl (hb hby d33_20) rfl rfl k)))))) ?_
    refine Go.on (B := T2.setTop (mkF m 27 #[vR a1, vI p2, vI 2, vR b1, vI 1, .unset] [(.int (p2 + (2 : Int32))), (.int (p2 <<< ((1 : Int32) &&& 31))), (.ref a1)])) (fun t k => XS.iloadN X2.here hx rfl (hb hby d33_21) rfl (XS.iconst X2.here hx rfl (hb hby d33_22) (XS.ishl X2.here hx rfl (hb hby d33_23) rfl (XS.iloadN X2.here hx rfl (hb hby d33_24) rfl (XS.iloadN X2.here hx rfl (hb hby d33_25) rfl (XS.iadd X2.here hx rfl (hb hby d33_26) rfl k)))))) ?_
    obtain ⟨_, _, ⟨T13, L13, k13, n13⟩, -, X13, ⟨Lc13, hQ13, lq13, yq13, zq13⟩, st13⟩ := Jvm.LawKit.callS X2 hx (y := MN18) hown (mg hZ hw 121 rfl) (mg hZ hw 122 rfl) (mg hZ hw 83 rfl) (mg hZ hw 123 rfl) (by decide) (backOf (W := 2) (rnlg l Z a0 hw [] (p2 + (2 : Int32)) z1 T2.heap n0 Zs19 hnl) hZ (gw hw 123 rfl) (gw hw 83 rfl) (by decide) (by decide)) (g := (mkF m 27 #[vR a1, vI p2, vI 2, vR b1, vI 1, .unset] [(.int (p2 + (2 : Int32))), (.int (p2 <<< ((1 : Int32) &&& 31))), (.ref a1)])) rfl (by rw [hml]; rfl) (argsL := [(.int (p2 + (2 : Int32)))]) (rest := [(.int (p2 <<< ((1 : Int32) &&& 31))), (.ref a1)]) (lenOf pd_12 rfl) rfl (own_w rfl) (hb hby d33_27) (fun _ _ => ⟨rfl, rfl, (by decide : 1 + 0 ≤ _), (by decide : 2 + 0 ≤ _)⟩)
    dsimp only [Pt.U, Pt.locs, Pt.cells, Pt.slots] at X13 lq13 yq13 zq13 st13 hQ13
    subst lq13 yq13 zq13
    obtain ⟨rfl, N13q, e13q⟩ := hQ13
    have N13 := Fr.app N2 N13q
    obtain ⟨_, _, ⟨T14, L14, k14, n14⟩, -, X14, ⟨Lc14, hQ14, lq14, yq14, zq14⟩, st14⟩ := Jvm.LawKit.callS X13 hx (y := MN20) hown (mg hZ hw 164 rfl) (mg hZ hw 165 rfl) (mg hZ hw 166 rfl) (mg hZ hw 167 rfl) (by decide) (backOf (W := 0) (rcr4 l Z a0 hw [] a1 (p2 <<< ((1 : Int32) &&& 31)) z1 k1 vs [(.int (own_u0 c0)), (.int (own_u1 c0)), (.int (own_u0 c1)), (.int (own_u1 c1))] T2.heap n0 Zs19 f17 hr) hZ (gw hw 167 rfl) (gw hw 166 rfl) (by decide) (by decide)) (g := (mkF m 30 #[vR a1, vI p2, vI 2, vR b1, vI 1, .unset] [(.int z1), (.int (p2 <<< ((1 : Int32) &&& 31))), (.ref a1)])) rfl (by rw [hml]; rfl) (argsL := [(.ref a1), (.int (p2 <<< ((1 : Int32) &&& 31))), (.int z1)]) (rest := []) (lenOf pd_10 rfl) rfl (own_w rfl) (hb hby d33_30) (fun _ _ => ⟨rfl, e13q, (by decide : 1 + 1 ≤ _), (by decide : 2 + 4 ≤ _)⟩)
    dsimp only [Pt.U, Pt.locs, Pt.cells, Pt.slots] at X14 lq14 yq14 zq14 st14 hQ14
    subst lq14 yq14 zq14
    obtain ⟨⟨y14, ky14, rfl, sx14, Vy14⟩, N14q, K14q⟩ := hQ14
    have N14 := Fr.app N13 N14q
    have sz_y14 : h0.size ≤ y14 := Nat.le_trans K20.1 sx14
    have O_22 := O_18.keep K14q all0
    have Zs23 := Nat.le_trans Zs19 K14q.1
    have K24 := K20.trans K14q all0
    refine Go.on (B := T14.setTop (mkF m 39 #[vR a1, vI p2, vI 2, vR b1, vI 1, vR y14] [(.int 1), (.ref y14)])) (fun t k => st13 _ (st14 _ (XS.astore X14.here hx rfl (hb hby d33_33) rfl rfl (l' := #[vR a1, vI p2, vI 2, vR b1, vI 1, vR y14]) rfl (XS.aload X14.here hx rfl (hb hby d33_35) rfl rfl (XS.iload X14.here hx rfl (hb hby d33_37) rfl k))))) ?_
    obtain ⟨_, _, ⟨T15, L15, k15, n15⟩, -, X15, ⟨Lc15, hQ15, lq15, yq15, zq15⟩, st15⟩ := Jvm.LawKit.callS X14 hx (y := MN5) hown (mg hZ hw 131 rfl) (mg hZ hw 132 rfl) (mg hZ hw 83 rfl) (mg hZ hw 133 rfl) (by decide) (backOf (W := 0) (rgc l Z a0 hw [] y14 (1 : Int32) ky14 (4 : Int32) [(.int (own_u0 c0)), (.int (own_u1 c0)), (.int (own_u0 c1)), (.int (own_u1 c1))] (own_u0 c1) (own_u1 c1) c1 T14.heap n0 Zs23 Vy14 ⟨by decide, by decide⟩ rfl ⟨by decide, by decide⟩ rfl (own_utf c1 hc1) O_22 S_ad S_hi S_lo) hZ (gw hw 133 rfl) (gw hw 83 rfl) (by decide) (by decide)) (g := (mkF m 39 #[vR a1, vI p2, vI 2, vR b1, vI 1, vR y14] [(.int 1), (.ref y14)])) rfl (by rw [hml]; rfl) (argsL := [(.ref y14), (.int 1)]) (rest := []) (lenOf pd_4 rfl) rfl (own_w rfl) (hb hby d33_39) (fun _ _ => ⟨rfl, rfl, (by decide : 2 + 0 ≤ _), (by decide : 6 + 0 ≤ _)⟩)
    dsimp only [Pt.U, Pt.locs, Pt.cells, Pt.slots] at X15 lq15 yq15 zq15 st15 hQ15
    subst lq15 yq15 zq15
    obtain ⟨rfl, N15q, e15q⟩ := hQ15
    have N15 := Fr.app N14 N15q
    have hc45_16 : (255 : Int32) < c1 := hx2_c1
    refine Go.on (B := T15.setTop (mkF m 63 #[vR a1, vI p2, vI 2, vR b1, vI 1, vR y14] [(.ref y14)])) (fun t k => st15 _ (XS.sipush X15.here hx rfl (hb hby d33_42) (XS.icmpYes X15.here hx rfl (pc0 := 45) (pc' := 61) rfl (hb hby d33_45) rfl (tlt hc45_16).2.2.1 (by decide) (by decide) (XS.aload X15.here hx rfl (hb hby d33_61) rfl rfl k)))) ?_
    refine Go.fin X15 (v := some (.ref y14)) (own_nv Bd.returns) Bd.notSynchronized ?_ e15q ⟨⟨_, _, rfl, sz_y14, Or.inr Vy14⟩, N15, K24⟩ (by decide) (by decide)
    exact fun _ hr => retOut X15 hx Bd.returns rfl (Or.inr (Or.inr (Or.inr (Or.inr ⟨rfl, rfl, rfl⟩)))) (hb hby d33_63) hr
theorem ef_rnsU2 (m : MethodId) (a1 : Addr) (p2 : Int32) : entryFrame m #[(.ref a1), (.int p2), (.int 2)] 5 = mkF m 0 #[vR a1, vI p2, vI 2, .unset, .unset] [] := rfl
def Q_rnsU2 (Z : State) (a1 : Addr) (p2 : Int32) (k1 : ClassId) (z1 : Int32) (vs : List Value) (z2 : Int32) (c0 c1 : Int32) (G1 : Int32) (G3 : Value) (h0 : Heap) (n0 : Nat) (v : Option Value) (h : Heap) (L : List Loc) : Prop := (∃ (d b : Addr) (kb : ClassId), v = some (.ref d) ∧ Exa Z h d "java/lang/String" ∧ Fld Z h d "java/lang/String" "value" "[B" (.ref b) ∧ own_A Z h d b kb [c0, c1]) ∧ Fr n0 L ∧ Keep h0 h []
theorem rnsU2 (l : Launch) (Z : State) (a0 : Array Value) (hw : ∀ d ∈ tables_1, d.before a0 Z = true) (ws : List Jvm.Cond) (a1 : Addr) (p2 : Int32) (k1 : ClassId) (z1 : Int32) (vs : List Value) (z2 : Int32) (c0 c1 : Int32) (G1 : Int32) (G3 : Value) (h0 : Heap) (n0 : Nat) (Z0 : n0 ≤ h0.size) (V1 : Arv Z h0 a1 k1 .byte z1 vs (.int 0)) (hz2 : (z1 >>> ((1 : Int32) &&& 31)) = z2) (hbo : own_B z2 p2 (2 : Int32)) (g0 : own_G vs z1 p2 c0) (g1 : own_G vs z1 (p2 + (1 : Int32)) c1) (hc0 : 0 ≤ c0.toInt ∧ c0.toInt ≤ 65535) (hc1 : 0 ≤ c1.toInt ∧ c1.toInt ≤ 65535) (hnl : ¬ (p2 + (2 : Int32)) < (0 : Int32) ∧ (p2 + (2 : Int32)) < (1073741823 : Int32) ∧ ((p2 + (2 : Int32)) <<< ((1 : Int32) &&& 31)) = z1) (hr : own_R z1 (p2 <<< ((1 : Int32) &&& 31)) (4 : Int32) vs [(.int (own_u0 c0)), (.int (own_u1 c0)), (.int (own_u0 c1)), (.int (own_u1 c1))]) (O0 : Old Z n0 h0) (S_cs : own_S_cs Z G1) (S_fm : own_S_fm Z G3) (S_ad : own_S_ad Z) (S_hi : own_S_hi Z) (S_lo : own_S_lo Z) (P5 : ¬ (G1 = (0 : Int32))) (rG3 : G3.isRef = true) :
    MetFree l MN23 (head1 (Jvm.Cond.code MN23 jdk_52_method_69_code 5 (some (.object "java/lang/String")) :: ws) (rK 5 3 10 130)) (fun a U => a = #[(.ref a1), (.int p2), (.int 2)] ∧ Z.Warmed39 U.vm ∧ U.heap = h0) (fun _ _ _ _ _ => True) (fun _ U o U' => ∃ v L, o = .returned v ∧ Q_rnsU2 Z a1 p2 k1 z1 vs z2 c0 c1 G1 G3 h0 n0 v U'.heap L ∧ FrameEnd U o U' L (rK 5 3 10 130).cells (rK 5 3 10 130).slots) := by
  refine MetFree.of_bodySF (plainFor_of_name pn_10) hisR ?_
  intro p e s m args below meth c sB Bd hml0 hP hK
  obtain ⟨rfl, hZ, hh⟩ := hP
  have hx := Bd.exec
  have hby := Bd.bytes
  have hml : c.maxLocals = 5 := hml0
  have hown : s.vm.findClass "java/lang/StringUTF16" = some m.cls := findClass_of_methodNamed Bd.named
  have X0 : Stand p l e (rK 5 3 10 130) s m #[(.ref a1), (.int p2), (.int 2)] below meth c sB [] 0 0 := Stand.of_body Bd
  have e0 : sB.heap = h0 := by rw [← hh, Bd.state]; rfl
  have N0 := Fr.nil n0
  change Go p.tables e below _ _
  have K0 := Keep.refl h0 []
  refine Go.on (B := sB.setTop (mkF m 0 #[vR a1, vI p2, vI 2, .unset, .unset] [])) (fun t k => castTop (ef_rnsU2 m a1 p2) k) ?_
  have hc1_1 : ¬ ((2 : Int32) = (0 : Int32)) := by decide
  obtain ⟨T2, X2, e2, st2⟩ := getS2 X0 hx hZ hown (host := "") (Or.inl (gw hw 148 rfl)) Via.refl e0 (S_cs.ext O0.2) (g := (mkF m 8 #[vR a1, vI p2, vI 2, .unset, .unset] [])) rfl (hb hby d29_8)
  have hc11_3 : ¬ (G1 = (0 : Int32)) := P5
  refine Go.on (B := T2.setTop (mkF m 16 #[vR a1, vI p2, vI 2, .unset, .unset] [(.int p2), (.ref a1)])) (fun t k => XS.iloadN X0.here hx rfl (hb hby d29_0) rfl (XS.ifYes X0.here hx rfl (pc0 := 1) (pc' := 8) rfl (hb hby d29_1) rfl ((if0 _ _).trans (feq hc1_1).2) (by decide) (by decide) (st2 _ (XS.ifNo X2.here hx rfl (hb hby d29_11) rfl ((if0 _ _).trans (feq hc11_3).1) (XS.aloadN X2.here hx rfl (hb hby d29_14) rfl rfl (XS.iloadN X2.here hx rfl (hb hby d29_15) rfl k)))))) ?_
  obtain ⟨_, _, ⟨T4, L4, k4, n4⟩, -, X4, ⟨Lc4, hQ4, lq4, yq4, zq4⟩, st4⟩ := Jvm.LawKit.callS X2 hx (y := MN33) hown (mg hZ hw 149 rfl) (mg hZ hw 150 rfl) (mg hZ hw 83 rfl) (mg hZ hw 151 rfl) (by decide) (backOf (W := 0) (rb3_2 l Z a0 hw [] a1 p2 k1 z1 vs z2 c0 c1 G3 h0 n0 Z0 V1 hz2 hbo g0 g1 hc0 hc1 hnl hr O0 S_fm S_ad S_hi S_lo rG3) hZ (gw hw 151 rfl) (gw hw 83 rfl) (by decide) (by decide)) (g := (mkF m 17 #[vR a1, vI p2, vI 2, .unset, .unset] [(.int 2), (.int p2), (.ref a1)])) rfl (by rw [hml]; rfl) (argsL := [(.ref a1), (.int p2), (.int 2)]) (rest := []) (lenOf pd_10 rfl) rfl (own_w rfl) (hb hby d29_17) (fun _ _ => ⟨rfl, e2, (by decide : 0 + 2 ≤ _), (by decide : 0 + 6 ≤ _)⟩)
  dsimp only [Pt.U, Pt.locs, Pt.cells, Pt.slots] at X4 lq4 yq4 zq4 st4 hQ4
  subst lq4 yq4 zq4
  refine Go.on (B := T2.setTop (mkF m 17 #[vR a1, vI p2, vI 2, .unset, .unset] [(.int 2), (.int p2), (.ref a1)])) (fun t k => XS.iloadN X2.here hx rfl (hb hby d29_16) rfl k) ?_
  rcases hQ4 with ⟨⟨y4, ky4, rfl, sx4, ⟨Vy4, hx4_c0, hx4_c1⟩ | Vy4⟩, N4q, K4q⟩
  · have N4 := Fr.app N0 N4q
    have Zs3 := Nat.le_trans Z0 K4q.1
    have K4 := K0.trans K4q all0
    obtain ⟨_, _, ⟨T5, L5, k5, n5⟩, -, X5, ⟨Lc5, hQ5, lq5, yq5, zq5⟩, st5⟩ := Jvm.LawKit.callS X4 hx (y := MN25) hown (mg hZ hw 182 rfl) (mg hZ hw 89 rfl) (mg hZ hw 83 rfl) (mg hZ hw 90 rfl) (by decide) (backOf (W := 0) (rcdg l Z a0 hw [] y4 (2 : Int32) ky4 (2 : Int32) [(.int (own_l c0)), (.int (own_l c1))] (0 : Int32) T4.heap n0 Zs3 Vy4 (by decide)) hZ (gw hw 90 rfl) (gw hw 83 rfl) (by decide) (by decide)) (g := (mkF m 23 #[vR a1, vI p2, vI 2, vR y4, .unset] [(.int 2), (.ref y4)])) rfl (by rw [hml]; rfl) (argsL := [(.ref y4), (.int 2)]) (rest := []) (lenOf pd_17 rfl) rfl (own_w rfl) (hb hby d29_23) (fun _ _ => ⟨rfl, rfl, (by decide : 2 + 0 ≤ _), (by decide : 6 + 0 ≤ _)⟩)
    dsimp only [Pt.U, Pt.locs, Pt.cells, Pt.slots] at X5 lq5 yq5 zq5 st5 hQ5
    subst lq5 yq5 zq5
    obtain ⟨rfl, N5q, e5q⟩ := hQ5
    have N5 := Fr.app N4 N5q
    refine Go.on (B := T5.setTop (mkF m 28 #[vR a1, vI p2, vI 2, vR y4, vI 0] [])) (fun t k => st4 _ (XS.astoreN X4.here hx rfl (hb hby d29_20) rfl rfl (l' := #[vR a1, vI p2, vI 2, vR y4, .unset]) rfl (XS.aloadN X4.here hx rfl (hb hby d29_21) rfl rfl (XS.iloadN X4.here hx rfl (hb hby d29_22) rfl (st5 _ (XS.istore X5.here hx rfl (hb hby d29_26) rfl (l' := #[vR a1, vI p2, vI 2, vR y4, vI 0]) rfl k)))))) ?_
    obtain ⟨T7, h7, X7, e7, Xe7, A7, D7, Ue7, st7⟩ := newO X5 hx hZ hown (gw hw 183 rfl) (gw hw 7 rfl) (gw hw 8 rfl) e5q (g := (mkF m 28 #[vR a1, vI p2, vI 2, vR y4, vI 0] [])) rfl (hb hby d29_28) (by decide) (by decide)
    obtain ⟨b7, gq7⟩ : ∃ z, z = T4.heap.size := ⟨_, rfl⟩
    rw [← gq7] at A7 D7 Ue7 st7
    have ge_b7 : n0 ≤ b7 := Nat.le_trans Zs3 (Nat.le_of_eq gq7.symm)
    have sz_b7 : h0.size ≤ b7 := Nat.le_trans K4.1 (Nat.le_of_eq gq7.symm)
    have ne_y4_b7 : y4 ≠ b7 := Nat.ne_of_lt (Nat.lt_of_lt_of_le Vy4.lt (Nat.le_of_eq gq7.symm))
    have f7 := Vy4.ext Xe7
    have Zs8 := Nat.le_trans Zs3 Xe7.1
    have K9 := K4.ext Xe7
    have F7_value : Fld Z h7 b7 "java/lang/String" "value" "[B" .null := D7 (Or.inr (gw hw 21 rfl)) (ty := (.array .byte)) (by decide)
    have F7_coder : Fld Z h7 b7 "java/lang/String" "coder" "B" (.int 0) := D7 (Or.inr (gw hw 22 rfl)) (ty := .byte) (by decide)
    obtain ⟨_, _, ⟨T8, L8, k8, n8⟩, -, X8, ⟨Lc8, hQ8, lq8, yq8, zq8⟩, st8⟩ := X7.specialBack hx (y := MN21) rfl hown (mg hZ hw 184 rfl) (mg hZ hw 185 rfl) (mg hZ hw 186 rfl) (by decide) (backOf (W := 1) (rsb0 l Z a0 hw [] b7 y4 h7 n0 Zs8 A7 F7_value F7_coder ge_b7) hZ (gw hw 186 rfl) (gw hw 8 rfl) (by decide) (by decide)) (g := (mkF m 35 #[vR a1, vI p2, vI 2, vR y4, vI 0] [(.int 0), (.ref y4), (.ref b7), (.ref b7)])) rfl (by rw [hml]; rfl) (Steps.refl _) (a := b7) (argsL := [(.ref y4), (.int 0)]) (rest := [(.ref b7)]) (lenOf pd_11 rfl) rfl (own_w rfl) (hb hby d29_35) (fun _ _ => ⟨rfl, e7, (by decide : 3 + 0 ≤ _), (by decide : 10 + 0 ≤ _)⟩)
    dsimp only [Pt.U, Pt.locs, Pt.cells, Pt.slots] at X8 lq8 yq8 zq8 st8 hQ8
    subst lq8 yq8 zq8
    obtain ⟨rfl, N8q, K8q, G8_0, G8_1, G8_2⟩ := hQ8
    have N8 := Fr.app N5 N8q
    have f12 := f7.keep K8q (ninS ne_y4_b7 nin0)
    have K15 := K9.trans K8q (allS (Or.inr sz_b7) all0)
    refine Go.on (B := T8.setTop (mkF m 38 #[vR a1, vI p2, vI 2, vR y4, vI 0] [(.ref b7)])) (fun t k => st7 _ (XS.dup X7.here hx rfl (hb hby d29_31) rfl rfl (XS.aloadN X7.here hx rfl (hb hby d29_32) rfl rfl (XS.iload X7.here hx rfl (hb hby d29_33) rfl (st8.trans k))))) ?_
    refine Go.fin X8 (v := some (.ref b7)) (own_nv Bd.returns) Bd.notSynchronized ?_ rfl ⟨⟨_, _, _, rfl, G8_0, G8_1, Or.inl ⟨G8_2, f12, (own_allC hx4_c0 (own_allC hx4_c1 own_all0))⟩⟩, N8, K15⟩ (by decide) (by decide)
    exact fun _ hr => retOut X8 hx Bd.returns rfl (Or.inr (Or.inr (Or.inr (Or.inr ⟨rfl, rfl, rfl⟩)))) (hb hby d29_38) hr
  · have N4 := Fr.app N0 N4q
    have Zs18 := Nat.le_trans Z0 K4q.1
    have K19 := K0.trans K4q all0
    obtain ⟨_, _, ⟨T9, L9, k9, n9⟩, -, X9, ⟨Lc9, hQ9, lq9, yq9, zq9⟩, st9⟩ := Jvm.LawKit.callS X4 hx (y := MN25) hown (mg hZ hw 182 rfl) (mg hZ hw 89 rfl) (mg hZ hw 83 rfl) (mg hZ hw 90 rfl) (by decide) (backOf (W := 0) (rcdg l Z a0 hw [] y4 (2 : Int32) ky4 (4 : Int32) [(.int (own_u0 c0)), (.int (own_u1 c0)), (.int (own_u0 c1)), (.int (own_u1 c1))] (1 : Int32) T4.heap n0 Zs18 Vy4 (by decide)) hZ (gw hw 90 rfl) (gw hw 83 rfl) (by decide) (by decide)) (g := (mkF m 23 #[vR a1, vI p2, vI 2, vR y4, .unset] [(.int 2), (.ref y4)])) rfl (by rw [hml]; rfl) (argsL := [(.ref y4), (.int 2)]) (rest := []) (lenOf pd_17 rfl) rfl (own_w rfl) (hb hby d29_23) (fun _ _ => ⟨rfl, rfl, (by decide : 2 + 0 ≤ _), (by decide : 6 + 0 ≤ _)⟩)
    dsimp only [Pt.U, Pt.locs, Pt.cells, Pt.slots] at X9 lq9 yq9 zq9 st9 hQ9
    subst lq9 yq9 zq9
    obtain ⟨rfl, N9q, e9q⟩ := hQ9
    have N9 := Fr.app N4 N9q
    refine Go.on (B := T9.setTop (mkF m 28 #[vR a1, vI p2, vI 2, vR y4, vI 1] [])) (fun t k => st4 _ (XS.astoreN X4.here hx rfl (hb hby d29_20) rfl rfl (l' := #[vR a1, vI p2, vI 2, vR y4, .unset]) rfl (XS.aloadN X4.here hx rfl (hb hby d29_21) rfl rfl (XS.iloadN X4.here hx rfl (hb hby d29_22) rfl (st9 _ (XS.istore X9.here hx rfl (hb hby d29_26) rfl (l' := #[vR a1, vI p2, vI 2, vR y4, vI 1]) rfl k)))))) ?_
    obtain ⟨T11, h11, X11, e11, Xe11, A11, D11, Ue11, st11⟩ := newO X9 hx hZ hown (gw hw 183 rfl) (gw hw 7 rfl) (gw hw 8 rfl) e9q (g := (mkF m 28 #[vR a1, vI p2, vI 2, vR y4, vI 1] [])) rfl (hb hby d29_28) (by decide) (by decide)
    obtain ⟨b11, gq11⟩ : ∃ z, z = T4.heap.size := ⟨_, rfl⟩
    rw [← gq11] at A11 D11 Ue11 st11
    have ge_b11 : n0 ≤ b11 := Nat.le_trans Zs18 (Nat.le_of_eq gq11.symm)
    have sz_b11 : h0.size ≤ b11 := Nat.le_trans K19.1 (Nat.le_of_eq gq11.symm)
    have ne_y4_b11 : y4 ≠ b11 := Nat.ne_of_lt (Nat.lt_of_lt_of_le Vy4.lt (Nat.le_of_eq gq11.symm))
    have f22 := Vy4.ext Xe11
    have Zs23 := Nat.le_trans Zs18 Xe11.1
    have K24 := K19.ext Xe11
    have F11_value : Fld Z h11 b11 "java/lang/String" "value" "[B" .null := D11 (Or.inr (gw hw 21 rfl)) (ty := (.array .byte)) (by decide)
    have F11_coder : Fld Z h11 b11 "java/lang/String" "coder" "B" (.int 0) := D11 (Or.inr (gw hw 22 rfl)) (ty := .byte) (by decide)
    obtain ⟨_, _, ⟨T12, L12, k12, n12⟩, -, X12, ⟨Lc12, hQ12, lq12, yq12, zq12⟩, st12⟩ := X11.specialBack hx (y := MN21) rfl hown (mg hZ hw 184 rfl) (mg hZ hw 185 rfl) (mg hZ hw 186 rfl) (by decide) (backOf (W := 1) (rsb1 l Z a0 hw [] b11 y4 h11 n0 Zs23 A11 F11_value F11_coder ge_b11) hZ (gw hw 186 rfl) (gw hw 8 rfl) (by decide) (by decide)) (g := (mkF m 35 #[vR a1, vI p2, vI 2, vR y4, vI 1] [(.int 1), (.ref y4), (.ref b11), (.ref b11)])) rfl (by rw [hml]; rfl) (Steps.refl _) (a := b11) (argsL := [(.ref y4), (.int 1)]) (rest := [(.ref b11)]) (lenOf pd_11 rfl) rfl (own_w rfl) (hb hby d29_35) (fun _ _ => ⟨rfl, e11, (by decide : 3 + 0 ≤ _), (by decide : 10 + 0 ≤ _)⟩)
    dsimp only [Pt.U, Pt.locs, Pt.cells, Pt.slots] at X12 lq12 yq12 zq12 st12 hQ12
    subst lq12 yq12 zq12
    obtain ⟨rfl, N12q, K12q, G12_0, G12_1, G12_2⟩ := hQ12
    have N12 := Fr.app N9 N12q
    have f27 := f22.keep K12q (ninS ne_y4_b11 nin0)
    have K30 := K24.trans K12q (allS (Or.inr sz_b11) all0)
    refine Go.on (B := T12.setTop (mkF m 38 #[vR a1, vI p2, vI 2, vR y4, vI 1] [(.ref b11)])) (fun t k => st11 _ (XS.dup X11.here hx rfl (hb hby d29_31) rfl rfl (XS.aloadN X11.here hx rfl (hb hby d29_32) rfl rfl (XS.iload X11.here hx rfl (hb hby d29_33) rfl (st12.trans k))))) ?_
    refine Go.fin X12 (v := some (.ref b11)) (own_nv Bd.returns) Bd.notSynchronized ?_ rfl ⟨⟨_, _, _, rfl, G12_0, G12_1, Or.inr ⟨G12_2, f27⟩⟩, N12, K30⟩ (by decide) (by decide)
    exact fun _ hr => retOut X12 hx Bd.returns rfl (Or.inr (Or.inr (Or.inr (Or.inr ⟨rfl, rfl, rfl⟩)))) (hb hby d29_38) hr
theorem ef_rb5_3 (m : MethodId) (a1 : Addr) (p2 : Int32) (a3 : Addr) : entryFrame m #[(.ref a1), (.int p2), (.ref a3), (.int 0), (.int 3)] 7 = mkF m 0 #[vR a1, vI p2, vR a3, vI 0, vI 3, .unset, .unset] [] := rfl
def Q_rb5_3 (Z : State) (a1 : Addr) (p2 : Int32) (a3 : Addr) (k1 : ClassId) (z1 : Int32) (vs : List Value) (k3 : ClassId) (z2 : Int32) (c0 c1 c2 : Int32) (G3 : Value) (h0 : Heap) (n0 : Nat) (v : Option Value) (h : Heap) (L : List Loc) : Prop := ((v = some (.int 3) ∧ Arv Z h a3 k3 .byte (3 : Int32) [(.int (own_l c0)), (.int (own_l c1)), (.int (own_l c2))] (.int 0) ∧ ¬ ((255 : Int32) < c0) ∧ ¬ ((255 : Int32) < c1) ∧ ¬ ((255 : Int32) < c2)) ∨ (v = some (.int 0) ∧ (255 : Int32) < c0) ∨ (v = some (.int 1) ∧ (255 : Int32) < c1) ∨ (v = some (.int 2) ∧ (255 : Int32) < c2)) ∧ Fr n0 L ∧ Keep h0 h [a3]
theorem rb5_3 (l : Launch) (Z : State) (a0 : Array Value) (hw : ∀ d ∈ tables_1, d.before a0 Z = true) (ws : List Jvm.Cond) (a1 : Addr) (p2 : Int32) (a3 : Addr) (k1 : ClassId) (z1 : Int32) (vs : List Value) (k3 : ClassId) (z2 : Int32) (c0 c1 c2 : Int32) (G3 : Value) (h0 : Heap) (n0 : Nat) (Z0 : n0 ≤ h0.size) (V1 : Arv Z h0 a1 k1 .byte z1 vs (.int 0)) (V3 : Arv Z h0 a3 k3 .byte (3 : Int32) [(.int 0), (.int 0), (.int 0)] (.int 0)) (hne : a1 ≠ a3) (ge3 : n0 ≤ a3) (hz2 : (z1 >>> ((1 : Int32) &&& 31)) = z2) (hbo : own_B z2 p2 (3 : Int32)) (g0 : own_G vs z1 p2 c0) (g1 : own_G vs z1 (p2 + (1 : Int32)) c1) (g2 : own_G vs z1 ((p2 + (1 : Int32)) + (1 : Int32)) c2) (hc0 : 0 ≤ c0.toInt ∧ c0.toInt ≤ 65535) (hc1 : 0 ≤ c1.toInt ∧ c1.toInt ≤ 65535) (hc2 : 0 ≤ c2.toInt ∧ c2.toInt ≤ 65535) (O0 : Old Z n0 h0) (S_fm : own_S_fm Z G3) (S_ad : own_S_ad Z) (S_hi : own_S_hi Z) (S_lo : own_S_lo Z) (rG3 : G3.isRef = true) :
    MetFree l MN32 (head1 (Jvm.Cond.code MN32 jdk_52_method_22_code 7 (some .int) :: ws) (rK 3 0 0 60)) (fun a U => a = #[(.ref a1), (.int p2), (.ref a3), (.int 0), (.int 3)] ∧ Z.Warmed39 U.vm ∧ U.heap = h0) (fun _ _ _ _ _ => True) (fun _ U o U' => ∃ v L, o = .returned v ∧ Q_rb5_3 Z a1 p2 a3 k1 z1 vs k3 z2 c0 c1 c2 G3 h0 n0 v U'.heap L ∧ FrameEnd U o U' L (rK 3 0 0 60).cells (rK 3 0 0 60).slots) := by
  refine MetFree.of_bodySF (plainFor_of_name pn_10) hisR ?_
  intro p e s m args below meth c sB Bd hml0 hP hK
  obtain ⟨rfl, hZ, hh⟩ := hP
  have hx := Bd.exec
  have hby := Bd.bytes
  have hml : c.maxLocals = 7 := hml0
  have hown : s.vm.findClass "java/lang/StringUTF16" = some m.cls := findClass_of_methodNamed Bd.named
  have X0 : Stand p l e (rK 3 0 0 60) s m #[(.ref a1), (.int p2), (.ref a3), (.int 0), (.int 3)] below meth c sB [] 0 0 := Stand.of_body Bd
  have e0 : sB.heap = h0 := by rw [← hh, Bd.state]; rfl
  have N0 := Fr.nil n0
  change Go p.tables e below _ _
  have K0 := Keep.refl h0 [a3]
  refine Go.on (B := sB.setTop (mkF m 0 #[vR a1, vI p2, vR a3, vI 0, vI 3, .unset, .unset] [])) (fun t k => castTop (ef_rb5_3 m a1 p2 a3) k) ?_
  obtain ⟨_, _, ⟨T1, L1, k1, n1⟩, -, X1, ⟨Lc1, hQ1, lq1, yq1, zq1⟩, st1⟩ := Jvm.LawKit.callS X0 hx (y := MN15) hown (mg hZ hw 155 rfl) (mg hZ hw 156 rfl) (mg hZ hw 83 rfl) (mg hZ hw 157 rfl) (by decide) (backOf (W := 0) (rbu l Z a0 hw [] p2 (3 : Int32) a1 k1 z1 vs z2 G3 h0 n0 Z0 V1 hz2 hbo O0 S_fm rG3) hZ (gw hw 157 rfl) (gw hw 83 rfl) (by decide) (by decide)) (g := (mkF m 4 #[vR a1, vI p2, vR a3, vI 0, vI 3, .unset, .unset] [(.ref a1), (.int 3), (.int p2)])) rfl (by rw [hml]; rfl) (argsL := [(.int p2), (.int 3), (.ref a1)]) (rest := []) (lenOf pd_19 rfl) rfl (own_w rfl) (hb hby d34_4) (fun _ _ => ⟨rfl, e0, (by decide : 0 + 0 ≤ _), (by decide : 0 + 0 ≤ _)⟩)
  dsimp only [Pt.U, Pt.locs, Pt.cells, Pt.slots] at X1 lq1 yq1 zq1 st1 hQ1
  subst lq1 yq1 zq1
  obtain ⟨rfl, N1q, e1q⟩ := hQ1
  have N1 := Fr.app N0 N1q
  refine Go.on (B := T1.setTop (mkF m 10 #[vR a1, vI p2, vR a3, vI 0, vI 3, vI 0, .unset] [])) (fun t k => XS.iloadN X0.here hx rfl (hb hby d34_0) rfl (XS.iload X0.here hx rfl (hb hby d34_1) rfl (XS.aloadN X0.here hx rfl (hb hby d34_3) rfl rfl (st1 _ (XS.iconst X1.here hx rfl (hb hby d34_7) (XS.istore X1.here hx rfl (hb hby d34_8) rfl (l' := #[vR a1, vI p2, vR a3, vI 0, vI 3, vI 0, .unset]) rfl k)))))) ?_
  have hc14_3 : (0 : Int32) < (3 : Int32) := by decide
  refine Go.on (B := T1.setTop (mkF m 19 #[vR a1, vI p2, vR a3, vI 0, vI 3, vI 0, .unset] [(.int p2), (.ref a1)])) (fun t k => XS.iload X1.here hx rfl (hb hby d34_10) rfl (XS.iload X1.here hx rfl (hb hby d34_12) rfl (XS.icmpNo X1.here hx rfl (hb hby d34_14) rfl (tlt hc14_3).2.1 (XS.aloadN X1.here hx rfl (hb hby d34_17) rfl rfl (XS.iloadN X1.here hx rfl (hb hby d34_18) rfl k))))) ?_
  obtain ⟨_, _, ⟨T4, L4, k4, n4⟩, -, X4, ⟨Lc4, hQ4, lq4, yq4, zq4⟩, st4⟩ := Jvm.LawKit.callS X1 hx (y := MN5) hown (mg hZ hw 131 rfl) (mg hZ hw 132 rfl) (mg hZ hw 83 rfl) (mg hZ hw 133 rfl) (by decide) (backOf (W := 0) (rgc l Z a0 hw [] a1 p2 k1 z1 vs (own_u0 c0) (own_u1 c0) c0 h0 n0 Z0 V1 g0.1 g0.2.1 g0.2.2.1 g0.2.2.2 (own_utf c0 hc0) O0 S_ad S_hi S_lo) hZ (gw hw 133 rfl) (gw hw 83 rfl) (by decide) (by decide)) (g := (mkF m 19 #[vR a1, vI p2, vR a3, vI 0, vI 3, vI 0, .unset] [(.int p2), (.ref a1)])) rfl (by rw [hml]; rfl) (argsL := [(.ref a1), (.int p2)]) (rest := []) (lenOf pd_4 rfl) rfl (own_w rfl) (hb hby d34_19) (fun _ _ => ⟨rfl, e1q, (by decide : 0 + 0 ≤ _), (by decide : 0 + 0 ≤ _)⟩)
  dsimp only [Pt.U, Pt.locs, Pt.cells, Pt.slots] at X4 lq4 yq4 zq4 st4 hQ4
  subst lq4 yq4 zq4
  obtain ⟨rfl, N4q, e4q⟩ := hQ4
  have N4 := Fr.app N1 N4q
  refine Go.on (B := T4.setTop (mkF m 29 #[vR a1, vI p2, vR a3, vI 0, vI 3, vI 0, vI c0] [(.int 255), (.int c0)])) (fun t k => st4 _ (XS.istore X4.here hx rfl (hb hby d34_22) rfl (l' := #[vR a1, vI p2, vR a3, vI 0, vI 3, vI 0, vI c0]) rfl (XS.iload X4.here hx rfl (hb hby d34_24) rfl (XS.sipush X4.here hx rfl (hb hby d34_26) k)))) ?_
  by_cases hc29_6 : (255 : Int32) < c0
  · refine Go.on (B := T4.setTop (mkF m 34 #[vR a1, vI p2, vR a3, vI 0, vI 3, vI 0, vI c0] [(.int 0)])) (fun t k => XS.icmpNo X4.here hx rfl (hb hby d34_29) rfl (tlt hc29_6).2.2.2 (XS.iload X4.here hx rfl (hb hby d34_32) rfl k)) ?_
    refine Go.fin X4 (v := some (.int 0)) (own_nv Bd.returns) Bd.notSynchronized ?_ e4q ⟨(Or.inr (Or.inl ⟨rfl, hc29_6⟩)), N4, K0⟩ (by decide) (by decide)
    exact fun _ hr => retI X4 hx Bd.returns (hb hby d34_34) hr
  · obtain ⟨cl7, Ar7, qq7, Sz7, Ng7, Hh7, Gg7⟩ := id V3
    have hin7 : ¬ ((0 : Int32) < 0 ∨ cl7.slots.size ≤ ((0 : Int32)).toNatClampNeg) := inb_of Sz7 ⟨by decide, by decide⟩
    obtain ⟨T7, h7, X7, e7, W7, st7⟩ := stB X4 hx hZ e4q Ar7 (j := (0 : Int32)) hin7 (g := (mkF m 40 #[vR a1, vI p2, vR a3, vI 0, vI 3, vI 0, vI c0] [(.int (c0.toInt8.toInt32)), (.int 0), (.ref a3)])) rfl rfl (hb hby d34_40)
    have V7 : Arv Z h7 a3 k3 .byte (3 : Int32) [(.int ((c0.toInt8.toInt32).toInt8.toInt32)), (.int 0), (.int 0)] (.int 0) := Arv.set Ar7 qq7 Sz7 Ng7 Hh7 Gg7 (fits_nar_byte _) W7 0 rfl (Nat.le_of_ble_eq_true rfl)
    have N7 := Fr.snoc X7 N4 ge3
    have f1 := V1.other W7 hne
    have O_2 := O0.wr W7 ge3
    have Zs3 := Nat.le_trans Z0 (Keep.of_wr W7).1
    have K4 := K0.wr W7 (Or.inl (List.mem_of_getElem? (i := 0) rfl))
    refine Go.on (B := T7.setTop (mkF m 41 #[vR a1, vI p2, vR a3, vI 0, vI 3, vI 0, vI c0] [])) (fun t k => XS.icmpYes X4.here hx rfl (pc0 := 29) (pc' := 35) rfl (hb hby d34_29) rfl (flt hc29_6).2.2.2 (by decide) (by decide) (XS.aloadN X4.here hx rfl (hb hby d34_35) rfl rfl (XS.iloadN X4.here hx rfl (hb hby d34_36) rfl (XS.iload X4.here hx rfl (hb hby d34_37) rfl (XS.i2b X4.here hx rfl (hb hby d34_39) rfl (st7 _ k)))))) ?_
    refine Go.on (B := T7.setTop (mkF m 47 #[vR a1, vI (p2 + (1 : Int32)), vR a3, vI ((0 : Int32) + (1 : Int32)), vI 3, vI 0, vI c0] [])) (fun t k => XS.iinc X7.here hx rfl (hb hby d34_41) rfl (l' := #[vR a1, vI (p2 + (1 : Int32)), vR a3, vI 0, vI 3, vI 0, vI c0]) rfl (XS.iinc X7.here hx rfl (hb hby d34_44) rfl (l' := #[vR a1, vI (p2 + (1 : Int32)), vR a3, vI ((0 : Int32) + (1 : Int32)), vI 3, vI 0, vI c0]) rfl k)) ?_
    rw [show ((0 : Int32) + (1 : Int32)) = (1 : Int32) from by decide]
    refine Go.on (B := T7.setTop (mkF m 50 #[vR a1, vI (p2 + (1 : Int32)), vR a3, vI 1, vI 3, vI ((0 : Int32) + (1 : Int32)), vI c0] [])) (fun t k => XS.iinc X7.here hx rfl (hb hby d34_47) rfl (l' := #[vR a1, vI (p2 + (1 : Int32)), vR a3, vI 1, vI 3, vI ((0 : Int32) + (1 : Int32)), vI c0]) rfl k) ?_
    rw [show ((0 : Int32) + (1 : Int32)) = (1 : Int32) from by decide]
    have hc14_8 : (1 : Int32) < (3 : Int32) := by decide
    refine Go.on (B := T7.setTop (mkF m 19 #[vR a1, vI (p2 + (1 : Int32)), vR a3, vI 1, vI 3, vI 1, vI c0] [(.int (p2 + (1 : Int32))), (.ref a1)])) (fun t k => XS.goto X7.here hx rfl (pc0 := 50) (pc' := 10) rfl (hb hby d34_50) (by decide) (by decide) (XS.iload X7.here hx rfl (hb hby d34_10) rfl (XS.iload X7.here hx rfl (hb hby d34_12) rfl (XS.icmpNo X7.here hx rfl (hb hby d34_14) rfl (tlt hc14_8).2.1 (XS.aloadN X7.here hx rfl (hb hby d34_17) rfl rfl (XS.iloadN X7.here hx rfl (hb hby d34_18) rfl k)))))) ?_
    obtain ⟨_, _, ⟨T9, L9, k9, n9⟩, -, X9, ⟨Lc9, hQ9, lq9, yq9, zq9⟩, st9⟩ := Jvm.LawKit.callS X7 hx (y := MN5) hown (mg hZ hw 131 rfl) (mg hZ hw 132 rfl) (mg hZ hw 83 rfl) (mg hZ hw 133 rfl) (by decide) (backOf (W := 0) (rgc l Z a0 hw [] a1 (p2 + (1 : Int32)) k1 z1 vs (own_u0 c1) (own_u1 c1) c1 h7 n0 Zs3 f1 g1.1 g1.2.1 g1.2.2.1 g1.2.2.2 (own_utf c1 hc1) O_2 S_ad S_hi S_lo) hZ (gw hw 133 rfl) (gw hw 83 rfl) (by decide) (by decide)) (g := (mkF m 19 #[vR a1, vI (p2 + (1 : Int32)), vR a3, vI 1, vI 3, vI 1, vI c0] [(.int (p2 + (1 : Int32))), (.ref a1)])) rfl (by rw [hml]; rfl) (argsL := [(.ref a1), (.int (p2 + (1 : Int32)))]) (rest := []) (lenOf pd_4 rfl) rfl (own_w rfl) (hb hby d34_19) (fun _ _ => ⟨rfl, e7, (by decide : 0 + 0 ≤ _), (by decide : 0 + 0 ≤ _)⟩)
    dsimp only [Pt.U, Pt.locs, Pt.cells, Pt.slots] at X9 lq9 yq9 zq9 st9 hQ9
    subst lq9 yq9 zq9
    obtain ⟨rfl, N9q, e9q⟩ := hQ9
    have N9 := Fr.app N7 N9q
    refine Go.on (B := T9.setTop (mkF m 29 #[vR a1, vI (p2 + (1 : Int32)), vR a3, vI 1, vI 3, vI 1, vI c1] [(.int 255), (.int c1)])) (fun t k => st9 _ (XS.istore X9.here hx rfl (hb hby d34_22) rfl (l' := #[vR a1, vI (p2 + (1 : Int32)), vR a3, vI 1, vI 3, vI 1, vI c1]) rfl (XS.iload X9.here hx rfl (hb hby d34_24) rfl (XS.sipush X9.here hx rfl (hb hby d34_26) k)))) ?_
    by_cases hc29_11 : (255 : Int32) < c1
    · refine Go.on (B := T9.setTop (mkF m 34 #[vR a1, vI (p2 + (1 : Int32)), vR a3, vI 1, vI 3, vI 1, vI c1] [(.int 1)])) (fun t k => XS.icmpNo X9.here hx rfl (hb hby d34_29) rfl (tlt hc29_11).2.2.2 (XS.iload X9.here hx rfl (hb hby d34_32) rfl k)) ?_
      refine Go.fin X9 (v := some (.int 1)) (own_nv Bd.returns) Bd.notSynchronized ?_ e9q ⟨(Or.inr (Or.inr (Or.inl ⟨rfl, hc29_11⟩))), N9, K4⟩ (by decide) (by decide)
      exact fun _ hr => retI X9 hx Bd.returns (hb hby d34_34) hr
    · obtain ⟨cl12, Ar12, qq12, Sz12, Ng12, Hh12, Gg12⟩ := id V7
      have hin12 : ¬ ((1 : Int32) < 0 ∨ cl12.slots.size ≤ ((1 : Int32)).toNatClampNeg) := inb_of Sz12 ⟨by decide, by decide⟩
      obtain ⟨T12, h12, X12, e12, W12, st12⟩ := stB X9 hx hZ e9q Ar12 (j := (1 : Int32)) hin12 (g := (mkF m 40 #[vR a1, vI (p2 + (1 : Int32)), vR a3, vI 1, vI 3, vI 1, vI c1] [(.int (c1.toInt8.toInt32)), (.int 1), (.ref a3)])) rfl rfl (hb hby d34_40)
      have V12 : Arv Z h12 a3 k3 .byte (3 : Int32) [(.int ((c0.toInt8.toInt32).toInt8.toInt32)), (.int ((c1.toInt8.toInt32).toInt8.toInt32)), (.int 0)] (.int 0) := Arv.set Ar12 qq12 Sz12 Ng12 Hh12 Gg12 (fits_nar_byte _) W12 1 rfl (Nat.le_of_ble_eq_true rfl)
      have N12 := Fr.snoc X12 N9 ge3
      have f5 := f1.other W12 hne
      have O_6 := O_2.wr W12 ge3
      have Zs7 := Nat.le_trans Zs3 (Keep.of_wr W12).1
      have K8 := K4.wr W12 (Or.inl (List.mem_of_getElem? (i := 0) rfl))
      refine Go.on (B := T12.setTop (mkF m 41 #[vR a1, vI (p2 + (1 : Int32)), vR a3, vI 1, vI 3, vI 1, vI c1] [])) (fun t k => XS.icmpYes X9.here hx rfl (pc0 := 29) (pc' := 35) rfl (hb hby d34_29) rfl (flt hc29_11).2.2.2 (by decide) (by decide) (XS.aloadN X9.here hx rfl (hb hby d34_35) rfl rfl (XS.iloadN X9.here hx rfl (hb hby d34_36) rfl (XS.iload X9.here hx rfl (hb hby d34_37) rfl (XS.i2b X9.here hx rfl (hb hby d34_39) rfl (st12 _ k)))))) ?_
      refine Go.on (B := T12.setTop (mkF m 47 #[vR a1, vI ((p2 + (1 : Int32)) + (1 : Int32)), vR a3, vI ((1 : Int32) + (1 : Int32)), vI 3, vI 1, vI c1] [])) (fun t k => XS.iinc X12.here hx rfl (hb hby d34_41) rfl (l' := #[vR a1, vI ((p2 + (1 : Int32)) + (1 : Int32)), vR a3, vI 1, vI 3, vI 1, vI c1]) rfl (XS.iinc X12.here hx rfl (hb hby d34_44) rfl (l' := #[vR a1, vI ((p2 + (1 : Int32)) + (1 : Int32)), vR a3, vI ((1 : Int32) + (1 : Int32)), vI 3, vI 1, vI c1]) rfl k)) ?_
      rw [show ((1 : Int32) + (1 : Int32)) = (2 : Int32) from by decide]
      refine Go.on (B := T12.setTop (mkF m 50 #[vR a1, vI ((p2 + (1 : Int32)) + (1 : Int32)), vR a3, vI 2, vI 3, vI ((1 : Int32) + (1 : Int32)), vI c1] [])) (fun t k => XS.iinc X12.here hx rfl (hb hby d34_47) rfl (l' := #[vR a1, vI ((p2 + (1 : Int32)) + (1 : Int32)), vR a3, vI 2, vI 3, vI ((1 : Int32) + (1 : Int32)), vI c1]) rfl k) ?_
      rw [show ((1 : Int32) + (1 : Int32)) = (2 : Int32) from by decide]
      have hc14_13 : (2 : Int32) < (3 : Int32) := by decide
      refine Go.on (B := T12.setTop (mkF m 19 #[vR a1, vI ((p2 + (1 : Int32)) + (1 : Int32)), vR a3, vI 2, vI 3, vI 2, vI c1] [(.int ((p2 + (1 : Int32)) + (1 : Int32))), (.ref a1)])) (fun t k => XS.goto X12.here hx rfl (pc0 := 50) (pc' := 10) rfl (hb hby d34_50) (by decide) (by decide) (XS.iload X12.here hx rfl (hb hby d34_10) rfl (XS.iload X12.here hx rfl (hb hby d34_12) rfl (XS.icmpNo X12.here hx rfl (hb hby d34_14) rfl (tlt hc14_13).2.1 (XS.aloadN X12.here hx rfl (hb hby d34_17) rfl rfl (XS.iloadN X12.here hx rfl (hb hby d34_18) rfl k)))))) ?_
      obtain ⟨_, _, ⟨T14, L14, k14, n14⟩, -, X14, ⟨Lc14, hQ14, lq14, yq14, zq14⟩, st14⟩ := Jvm.LawKit.callS X12 hx (y := MN5) hown (mg hZ hw 131 rfl) (mg hZ hw 132 rfl) (mg hZ hw 83 rfl) (mg hZ hw 133 rfl) (by decide) (backOf (W := 0) (rgc l Z a0 hw [] a1 ((p2 + (1 : Int32)) + (1 : Int32)) k1 z1 vs (own_u0 c2) (own_u1 c2) c2 h12 n0 Zs7 f5 g2.1 g2.2.1 g2.2.2.1 g2.2.2.2 (own_utf c2 hc2) O_6 S_ad S_hi S_lo) hZ (gw hw 133 rfl) (gw hw 83 rfl) (by decide) (by decide)) (g := (mkF m 19 #[vR a1, vI ((p2 + (1 : Int32)) + (1 : Int32)), vR a3, vI 2, vI 3, vI 2, vI c1] [(.int ((p2 + (1 : Int32)) + (1 : Int32))), (.ref a1)])) rfl (by rw [hml]; rfl) (argsL := [(.ref a1), (.int ((p2 + (1 : Int32)) + (1 : Int32)))]) (rest := []) (lenOf pd_4 rfl) rfl (own_w rfl) (hb hby d34_19) (fun _ _ => ⟨rfl, e12, (by decide : 0 + 0 ≤ _), (by decide : 0 + 0 ≤ _)⟩)
      dsimp only [Pt.U, Pt.locs, Pt.cells, Pt.slots] at X14 lq14 yq14 zq14 st14 hQ14
      subst lq14 yq14 zq14
      obtain ⟨rfl, N14q, e14q⟩ := hQ14
      have N14 := Fr.app N12 N14q
      refine Go.on (B := T14.setTop (mkF m 29 #[vR a1, vI ((p2 + (1 : Int32)) + (1 : Int32)), vR a3, vI 2, vI 3, vI 2, vI c2] [(.int 255), (.int c2)])) (fun t k => st14 _ (XS.istore X14.here hx rfl (hb hby d34_22) rfl (l' := #[vR a1, vI ((p2 + (1 : Int32)) + (1 : Int32)), vR a3, vI 2, vI 3, vI 2, vI c2]) rfl (XS.iload X14.here hx rfl (hb hby d34_24) rfl (XS.sipush X14.here hx rfl (hb hby d34_26) k)))) ?_
      by_cases hc29_16 : (255 : Int32) < c2
      · refine Go.on (B := T14.setTop (mkF m 34 #[vR a1, vI ((p2 + (1 : Int32)) + (1 : Int32)), vR a3, vI 2, vI 3, vI 2, vI c2] [(.int 2)])) (fun t k => XS.icmpNo X14.here hx rfl (hb hby d34_29) rfl (tlt hc29_16).2.2.2 (XS.iload X14.here hx rfl (hb hby d34_32) rfl k)) ?_
        refine Go.fin X14 (v := some (.int 2)) (own_nv Bd.returns) Bd.notSynchronized ?_ e14q ⟨(Or.inr (Or.inr (Or.inr ⟨rfl, hc29_16⟩))), N14, K8⟩ (by decide) (by decide)
        exact fun _ hr => retI X14 hx Bd.returns (hb hby d34_34) hr
      · obtain ⟨cl17, Ar17, qq17, Sz17, Ng17, Hh17, Gg17⟩ := id V12
        have hin17 : ¬ ((2 : Int32) < 0 ∨ cl17.slots.size ≤ ((2 : Int32)).toNatClampNeg) := inb_of Sz17 ⟨by decide, by decide⟩
        obtain ⟨T17, h17, X17, e17, W17, st17⟩ := stB X14 hx hZ e14q Ar17 (j := (2 : Int32)) hin17 (g := (mkF m 40 #[vR a1, vI ((p2 + (1 : Int32)) + (1 : Int32)), vR a3, vI 2, vI 3, vI 2, vI c2] [(.int (c2.toInt8.toInt32)), (.int 2), (.ref a3)])) rfl rfl (hb hby d34_40)
        have V17 : Arv Z h17 a3 k3 .byte (3 : Int32) [(.int ((c0.toInt8.toInt32).toInt8.toInt32)), (.int ((c1.toInt8.toInt32).toInt8.toInt32)), (.int ((c2.toInt8.toInt32).toInt8.toInt32))] (.int 0) := Arv.set Ar17 qq17 Sz17 Ng17 Hh17 Gg17 (fits_nar_byte _) W17 2 rfl (Nat.le_of_ble_eq_true rfl)
        have N17 := Fr.snoc X17 N14 ge3
        have K12 := K8.wr W17 (Or.inl (List.mem_of_getElem? (i := 0) rfl))
        refine Go.on (B := T17.setTop (mkF m 41 #[vR a1, vI ((p2 + (1 : Int32)) + (1 : Int32)), vR a3, vI 2, vI 3, vI 2, vI c2] [])) (fun t k => XS.icmpYes X14.here hx rfl (pc0 := 29) (pc' := 35) rfl (hb hby d34_29) rfl (flt hc29_16).2.2.2 (by decide) (by decide) (XS.aloadN X14.here hx rfl (hb hby d34_35) rfl rfl (XS.iloadN X14.here hx rfl (hb hby d34_36) rfl (XS.iload X14.here hx rfl (hb hby d34_37) rfl (XS.i2b X14.here hx rfl (hb hby d34_39) rfl (st17 _ k)))))) ?_
        refine Go.on (B := T17.setTop (mkF m 47 #[vR a1, vI (((p2 + (1 : Int32)) + (1 : Int32)) + (1 : Int32)), vR a3, vI ((2 : Int32) + (1 : Int32)), vI 3, vI 2, vI c2] [])) (fun t k => XS.iinc X17.here hx rfl (hb hby d34_41) rfl (l' := #[vR a1, vI (((p2 + (1 : Int32)) + (1 : Int32)) + (1 : Int32)), vR a3, vI 2, vI 3, vI 2, vI c2]) rfl (XS.iinc X17.here hx rfl (hb hby d34_44) rfl (l' := #[vR a1, vI (((p2 + (1 : Int32)) + (1 : Int32)) + (1 : Int32)), vR a3, vI ((2 : Int32) + (1 : Int32)), vI 3, vI 2, vI c2]) rfl k)) ?_
        rw [show ((2 : Int32) + (1 : Int32)) = (3 : Int32) from by decide]
        refine Go.on (B := T17.setTop (mkF m 50 #[vR a1, vI (((p2 + (1 : Int32)) + (1 : Int32)) + (1 : Int32)), vR a3, vI 3, vI 3, vI ((2 : Int32) + (1 : Int32)), vI c2] [])) (fun t k => XS.iinc X17.here hx rfl (hb hby d34_47) rfl (l' := #[vR a1, vI (((p2 + (1 : Int32)) + (1 : Int32)) + (1 : Int32)), vR a3, vI 3, vI 3, vI ((2 : Int32) + (1 : Int32)), vI c2]) rfl k) ?_
        rw [show ((2 : Int32) + (1 : Int32)) = (3 : Int32) from by decide]
        have hc14_18 : ¬ ((3 : Int32) < (3 : Int32)) := by decide
        refine Go.on (B := T17.setTop (mkF m 55 #[vR a1, vI (((p2 + (1 : Int32)) + (1 : Int32)) + (1 : Int32)), vR a3, vI 3, vI 3, vI 3, vI c2] [(.int 3)])) (fun t k => XS.goto X17.here hx rfl (pc0 := 50) (pc' := 10) rfl (hb hby d34_50) (by decide) (by decide) (XS.iload X17.here hx rfl (hb hby d34_10) rfl (XS.iload X17.here hx rfl (hb hby d34_12) rfl (XS.icmpYes X17.here hx rfl (pc0 := 14) (pc' := 53) rfl (hb hby d34_14) rfl (flt hc14_18).2.1 (by decide) (by decide) (XS.iload X17.here hx rfl (hb hby d34_53) rfl k))))) ?_
        refine Go.fin X17 (v := some (.int 3)) (own_nv Bd.returns) Bd.notSynchronized ?_ e17 ⟨Or.inl ⟨rfl, V17, hc29_6, hc29_11, hc29_16⟩, N17, K12⟩ (by decide) (by decide)
        exact fun _ hr => retI X17 hx Bd.returns (hb hby d34_55) hr
theorem ef_rb3_3 (m : MethodId) (a1 : Addr) (p2 : Int32) : entryFrame m #[(.ref a1), (.int p2), (.int 3)] 6 = mkF m 0 #[vR a1, vI p2, vI 3, .unset, .unset, .unset] [] := rfl
def Q_rb3_3 (Z : State) (a1 : Addr) (p2 : Int32) (k1 : ClassId) (z1 : Int32) (vs : List Value) (z2 : Int32) (c0 c1 c2 : Int32) (G3 : Value) (h0 : Heap) (n0 : Nat) (v : Option Value) (h : Heap) (L : List Loc) : Prop := (∃ (b : Addr) (kb : ClassId), v = some (.ref b) ∧ h0.size ≤ b ∧ ((Arv Z h b kb .byte (3 : Int32) [(.int (own_l c0)), (.int (own_l c1)), (.int (own_l c2))] (.int 0) ∧ ¬ ((255 : Int32) < c0) ∧ ¬ ((255 : Int32) < c1) ∧ ¬ ((255 : Int32) < c2)) ∨ (Arv Z h b kb .byte (6 : Int32) [(.int (own_u0 c0)), (.int (own_u1 c0)), (.int (own_u0 c1)), (.int (own_u1 c1)), (.int (own_u0 c2)), (.int (own_u1 c2))] (.int 0)))) ∧ Fr n0 L ∧ Keep h0 h []
theorem rb3_3 (l : Launch) (Z : State) (a0 : Array Value) (hw : ∀ d ∈ tables_1, d.before a0 Z = true) (ws : List Jvm.Cond) (a1 : Addr) (p2 : Int32) (k1 : ClassId) (z1 : Int32) (vs : List Value) (z2 : Int32) (c0 c1 c2 : Int32) (G3 : Value) (h0 : Heap) (n0 : Nat) (Z0 : n0 ≤ h0.size) (V1 : Arv Z h0 a1 k1 .byte z1 vs (.int 0)) (hz2 : (z1 >>> ((1 : Int32) &&& 31)) = z2) (hbo : own_B z2 p2 (3 : Int32)) (g0 : own_G vs z1 p2 c0) (g1 : own_G vs z1 (p2 + (1 : Int32)) c1) (g2 : own_G vs z1 ((p2 + (1 : Int32)) + (1 : Int32)) c2) (hc0 : 0 ≤ c0.toInt ∧ c0.toInt ≤ 65535) (hc1 : 0 ≤ c1.toInt ∧ c1.toInt ≤ 65535) (hc2 : 0 ≤ c2.toInt ∧ c2.toInt ≤ 65535) (hnl : ¬ (p2 + (3 : Int32)) < (0 : Int32) ∧ (p2 + (3 : Int32)) < (1073741823 : Int32) ∧ ((p2 + (3 : Int32)) <<< ((1 : Int32) &&& 31)) = z1) (hr : own_R z1 (p2 <<< ((1 : Int32) &&& 31)) (6 : Int32) vs [(.int (own_u0 c0)), (.int (own_u1 c0)), (.int (own_u0 c1)), (.int (own_u1 c1)), (.int (own_u0 c2)), (.int (own_u1 c2))]) (O0 : Old Z n0 h0) (S_fm : own_S_fm Z G3) (S_ad : own_S_ad Z) (S_hi : own_S_hi Z) (S_lo : own_S_lo Z) (rG3 : G3.isRef = true) :
    MetFree l MN33 (head1 (Jvm.Cond.code MN33 jdk_52_method_17_code 6 (some (.array .byte)) :: ws) (rK 4 2 9 100)) (fun a U => a = #[(.ref a1), (.int p2), (.int 3)] ∧ Z.Warmed39 U.vm ∧ U.heap = h0) (fun _ _ _ _ _ => True) (fun _ U o U' => ∃ v L, o = .returned v ∧ Q_rb3_3 Z a1 p2 k1 z1 vs z2 c0 c1 c2 G3 h0 n0 v U'.heap L ∧ FrameEnd U o U' L (rK 4 2 9 100).cells (rK 4 2 9 100).slots) := by
  refine MetFree.of_bodySF (plainFor_of_name pn_10) hisR ?_
  intro p e s m args below meth c sB Bd hml0 hP hK
  obtain ⟨rfl, hZ, hh⟩ := hP
  have hx := Bd.exec
  have hby := Bd.bytes
  have hml : c.maxLocals = 6 := hml0
  have hown : s.vm.findClass "java/lang/StringUTF16" = some m.cls := findClass_of_methodNamed Bd.named
  have X0 : Stand p l e (rK 4 2 9 100) s m #[(.ref a1), (.int p2), (.int 3)] below meth c sB [] 0 0 := Stand.of_body Bd
  have e0 : sB.heap = h0 := by rw [← hh, Bd.state]; rfl
  have N0 := Fr.nil n0
  change Go p.tables e below _ _
  have K0 := Keep.refl h0 []
  refine Go.on (B := sB.setTop (mkF m 0 #[vR a1, vI p2, vI 3, .unset, .unset, .unset] [])) (fun t k => castTop (ef_rb3_3 m a1 p2) k) ?_
  obtain ⟨T1, h1, kq1, X1, e1, Xe1, A1, st1⟩ := newP X0 hx hZ (gw hw 20 rfl) e0 (g := (mkF m 1 #[vR a1, vI p2, vI 3, .unset, .unset, .unset] [(.int 3)])) rfl (hb hby d33_1) rfl (by decide) (cap := 3) (by decide) (by decide) (by decide) (by decide)
  obtain ⟨b1, gq1⟩ : ∃ z, z = h0.size := ⟨_, rfl⟩
  rw [← gq1] at A1 st1
  have ge_b1 : n0 ≤ b1 := Nat.le_trans Z0 (Nat.le_of_eq gq1.symm)
  have sz_b1 : h0.size ≤ b1 := Nat.le_trans K0.1 (Nat.le_of_eq gq1.symm)
  have ne_a1_b1 : a1 ≠ b1 := Nat.ne_of_lt (Nat.lt_of_lt_of_le V1.lt (Nat.le_of_eq gq1.symm))
  have f1 := V1.ext Xe1
  have O_2 := O0.ext Xe1
  have Zs3 := Nat.le_trans Z0 Xe1.1
  have K4 := K0.ext Xe1
  have V1 : Arv Z h1 b1 kq1 .byte (3 : Int32) [(.int 0), (.int 0), (.int 0)] (.int 0) := (Arv.new A1 (by decide)).pad (pad_rep [] (.int 0) 3)
  refine Go.on (B := T1.setTop (mkF m 7 #[vR a1, vI p2, vI 3, vR b1, .unset, .unset] [(.ref b1), (.int p2), (.ref a1)])) (fun t k => XS.iloadN X0.here hx rfl (hb hby d33_0) rfl (st1 _ (XS.astoreN X1.here hx rfl (hb hby d33_3) rfl rfl (l' := #[vR a1, vI p2, vI 3, vR b1, .unset, .unset]) rfl (XS.aloadN X1.here hx rfl (hb hby d33_4) rfl rfl (XS.iloadN X1.here hx rfl (hb hby d33_5) rfl (XS.aloadN X1.here hx rfl (hb hby d33_6) rfl rfl k)))))) ?_
  obtain ⟨_, _, ⟨T2, L2, k2, n2⟩, -, X2, ⟨Lc2, hQ2, lq2, yq2, zq2⟩, st2⟩ := Jvm.LawKit.callS X1 hx (y := MN32) hown (mg hZ hw 152 rfl) (mg hZ hw 153 rfl) (mg hZ hw 83 rfl) (mg hZ hw 154 rfl) (by decide) (backOf (W := 0) (rb5_3 l Z a0 hw [] a1 p2 b1 k1 z1 vs kq1 z2 c0 c1 c2 G3 h1 n0 Zs3 f1 V1 ne_a1_b1 ge_b1 hz2 hbo g0 g1 g2 hc0 hc1 hc2 O_2 S_fm S_ad S_hi S_lo rG3) hZ (gw hw 154 rfl) (gw hw 83 rfl) (by decide) (by decide)) (g := (mkF m 9 #[vR a1, vI p2, vI 3, vR b1, .unset, .unset] [(.int 3), (.int 0), (.ref b1), (.int p2), (.ref a1)])) rfl (by rw [hml]; rfl) (argsL := [(.ref a1), (.int p2), (.ref b1), (.int 0), (.int 3)]) (rest := []) (lenOf pd_20 rfl) rfl (own_w rfl) (hb hby d33_9) (fun _ _ => ⟨rfl, e1, (by decide : 1 + 0 ≤ _), (by decide : 3 + 0 ≤ _)⟩)
  dsimp only [Pt.U, Pt.locs, Pt.cells, Pt.slots] at X2 lq2 yq2 zq2 st2 hQ2
  subst lq2 yq2 zq2
  refine Go.on (B := T1.setTop (mkF m 9 #[vR a1, vI p2, vI 3, vR b1, .unset, .unset] [(.int 3), (.int 0), (.ref b1), (.int p2), (.ref a1)])) (fun t k => XS.iconst X1.here hx rfl (hb hby d33_7) (XS.iloadN X1.here hx rfl (hb hby d33_8) rfl k)) ?_
  rcases hQ2 with ⟨⟨rfl, V52, hx2_c0, hx2_c1, hx2_c2⟩ | ⟨rfl, hx2_c0⟩ | ⟨rfl, hx2_c1⟩ | ⟨rfl, hx2_c2⟩, N2q, K2q⟩
  · have N2 := Fr.app N0 N2q
    have K8 := K4.trans K2q (allS (Or.inr sz_b1) all0)
    have hc17_4 : (3 : Int32) = (3 : Int32) := by decide
    refine Go.on (B := T2.setTop (mkF m 65 #[vR a1, vI p2, vI 3, vR b1, vI 3, .unset] [(.ref b1)])) (fun t k => st2 _ (XS.istore X2.here hx rfl (hb hby d33_12) rfl (l' := #[vR a1, vI p2, vI 3, vR b1, vI 3, .unset]) rfl (XS.iload X2.here hx rfl (hb hby d33_14) rfl (XS.iloadN X2.here hx rfl (hb hby d33_16) rfl (XS.icmpYes X2.here hx rfl (pc0 := 17) (pc' := 64) rfl (hb hby d33_17) rfl (teq hc17_4).1 (by decide) (by decide) (XS.aloadN X2.here hx rfl (hb hby d33_64) rfl rfl k)))))) ?_
    refine Go.fin X2 (v := some (.ref b1)) (own_nv Bd.returns) Bd.notSynchronized ?_ rfl ⟨⟨_, _, rfl, sz_b1, Or.inl ⟨V52, hx2_c0, hx2_c1, hx2_c2⟩⟩, N2, K8⟩ (by decide) (by decide)
    exact fun _ hr => retOut X2 hx Bd.returns rfl (Or.inr (Or.inr (Or.inr (Or.inr ⟨rfl, rfl, rfl⟩)))) (hb hby d33_65) hr
  · have N2 := Fr.app N0 N2q
    have f9 := f1.keep K2q (ninS ne_a1_b1 nin0)
    have O_10 := O_2.keep K2q (allS ge_b1 all0)
    have Zs11 := Nat.le_trans Zs3 K2q.1
    have K12 := K4.trans K2q (allS (Or.inr sz_b1) all0)
    have hc17_6 : ¬ ((0 : Int32) = (3 : Int32)) := by decide
    refine Go.on (B := T2.setTop (mkF m 21 #[vR a1, vI p2, vI 3, vR b1, vI 0, .unset] [(.ref a1)])) (fun t k => st2 _ (XS.istore X2.here hx rfl (hb hby d33_12) rfl (l' := #[vR a1, vI p2, vI 3, vR b1, vI 0, .unset]) rfl (XS.iload X2.here hx rfl (hb hby d33_14) rfl (XS.iloadN X2.here hx rfl (hb hby d33_16) rfl (XS.icmpNo X2.here hx rfl (hb hby d33_17) rfl (feq hc17_6).1 (XS.aloadN X2.here hx rfl (hb hby d33_20) rfl rfl k)))))) ?_
    refine Go.on (B := T2.setTop (mkF m 27 #[vR a1, vI p2, vI 3, vR b1, vI 0, .unset] [(.int (p2 + (3 : Int32))), (.int (p2 <<< ((1 : Int32) &&& 31))), (.ref a1)])) (fun t k => XS.iloadN X2.here hx rfl (hb hby d33_21) rfl (XS.iconst X2.here hx rfl (hb hby d33_22) (XS.ishl X2.here hx rfl (hb hby d33_23) rfl (XS.iloadN X2.here hx rfl (hb hby d33_24) rfl (XS.iloadN X2.here hx rfl (hb hby d33_25) rfl (XS.iadd X2.here hx rfl (hb hby d33_26) rfl k)))))) ?_
    obtain ⟨_, _, ⟨T7, L7, k7, n7⟩, -, X7, ⟨Lc7, hQ7, lq7, yq7, zq7⟩, st7⟩ := Jvm.LawKit.callS X2 hx (y := MN18) hown (mg hZ hw 121 rfl) (mg hZ hw 122 rfl) (mg hZ hw 83 rfl) (mg hZ hw 123 rfl) (by decide) (backOf (W := 2) (rnlg l Z a0 hw [] (p2 + (3 : Int32)) z1 T2.heap n0 Zs11 hnl) hZ (gw hw 123 rfl) (gw hw 83 rfl) (by decide) (by decide)) (g := (mkF m 27 #[vR a1, vI p2, vI 3, vR b1, vI 0, .unset] [(.int (p2 + (3 : Int32))), (.int (p2 <<< ((1 : Int32) &&& 31))), (.ref a1)])) rfl (by rw [hml]; rfl) (argsL := [(.int (p2 + (3 : Int32)))]) (rest := [(.int (p2 <<< ((1 : Int32) &&& 31))), (.ref a1)]) (lenOf pd_12 rfl) rfl (own_w rfl) (hb hby d33_27) (fun _ _ => ⟨rfl, rfl, (by decide : 1 + 0 ≤ _), (by decide : 3 + 0 ≤ _)⟩)
    dsimp only [Pt.U, Pt.locs, Pt.cells, Pt.slots] at X7 lq7 yq7 zq7 st7 hQ7
    subst lq7 yq7 zq7
    obtain ⟨rfl, N7q, e7q⟩ := hQ7
    have N7 := Fr.app N2 N7q
    obtain ⟨_, _, ⟨T8, L8, k8, n8⟩, -, X8, ⟨Lc8, hQ8, lq8, yq8, zq8⟩, st8⟩ := Jvm.LawKit.callS X7 hx (y := MN20) hown (mg hZ hw 164 rfl) (mg hZ hw 165 rfl) (mg hZ hw 166 rfl) (mg hZ hw 167 rfl) (by decide) (backOf (W := 0) (rcr6 l Z a0 hw [] a1 (p2 <<< ((1 : Int32) &&& 31)) z1 k1 vs [(.int (own_u0 c0)), (.int (own_u1 c0)), (.int (own_u0 c1)), (.int (own_u1 c1)), (.int (own_u0 c2)), (.int (own_u1 c2))] T2.heap n0 Zs11 f9 hr) hZ (gw hw 167 rfl) (gw hw 166 rfl) (by decide) (by decide)) (g := (mkF m 30 #[vR a1, vI p2, vI 3, vR b1, vI 0, .unset] [(.int z1), (.int (p2 <<< ((1 : Int32) &&& 31))), (.ref a1)])) rfl (by rw [hml]; rfl) (argsL := [(.ref a1), (.int (p2 <<< ((1 : Int32) &&& 31))), (.int z1)]) (rest := []) (lenOf pd_10 rfl) rfl (own_w rfl) (hb hby d33_30) (fun _ _ => ⟨rfl, e7q, (by decide : 1 + 1 ≤ _), (by decide : 3 + 6 ≤ _)⟩)
    dsimp only [Pt.U, Pt.locs, Pt.cells, Pt.slots] at X8 lq8 yq8 zq8 st8 hQ8
    subst lq8 yq8 zq8
    obtain ⟨⟨y8, ky8, rfl, sx8, Vy8⟩, N8q, K8q⟩ := hQ8
    have N8 := Fr.app N7 N8q
    have sz_y8 : h0.size ≤ y8 := Nat.le_trans K12.1 sx8
    have O_14 := O_10.keep K8q all0
    have Zs15 := Nat.le_trans Zs11 K8q.1
    have K16 := K12.trans K8q all0
    refine Go.on (B := T8.setTop (mkF m 39 #[vR a1, vI p2, vI 3, vR b1, vI 0, vR y8] [(.int 0), (.ref y8)])) (fun t k => st7 _ (st8 _ (XS.astore X8.here hx rfl (hb hby d33_33) rfl rfl (l' := #[vR a1, vI p2, vI 3, vR b1, vI 0, vR y8]) rfl (XS.aload X8.here hx rfl (hb hby d33_35) rfl rfl (XS.iload X8.here hx rfl (hb hby d33_37) rfl k))))) ?_
    obtain ⟨_, _, ⟨T9, L9, k9, n9⟩, -, X9, ⟨Lc9, hQ9, lq9, yq9, zq9⟩, st9⟩ := Jvm.LawKit.callS X8 hx (y := MN5) hown (mg hZ hw 131 rfl) (mg hZ hw 132 rfl) (mg hZ hw 83 rfl) (mg hZ hw 133 rfl) (by decide) (backOf (W := 0) (rgc l Z a0 hw [] y8 (0 : Int32) ky8 (6 : Int32) [(.int (own_u0 c0)), (.int (own_u1 c0)), (.int (own_u0 c1)), (.int (own_u1 c1)), (.int (own_u0 c2)), (.int (own_u1 c2))] (own_u0 c0) (own_u1 c0) c0 T8.heap n0 Zs15 Vy8 ⟨by decide, by decide⟩ rfl ⟨by decide, by decide⟩ rfl (own_utf c0 hc0) O_14 S_ad S_hi S_lo) hZ (gw hw 133 rfl) (gw hw 83 rfl) (by decide) (by decide)) (g := (mkF m 39 #[vR a1, vI p2, vI 3, vR b1, vI 0, vR y8] [(.int 0), (.ref y8)])) rfl (by rw [hml]; rfl) (argsL := [(.ref y8), (.int 0)]) (rest := []) (lenOf pd_4 rfl) rfl (own_w rfl) (hb hby d33_39) (fun _ _ => ⟨rfl, rfl, (by decide : 2 + 0 ≤ _), (by decide : 9 + 0 ≤ _)⟩)
    dsimp only [Pt.U, Pt.locs, Pt.cells, Pt.slots] at X9 lq9 yq9 zq9 st9 hQ9
    subst lq9 yq9 zq9
    obtain ⟨rfl, N9q, e9q⟩ := hQ9
    have N9 := Fr.app N8 N9q
    have hc45_10 : (255 : Int32) < c0 := hx2_c0
    refine Go.on (B := T9.setTop (mkF m 63 #[vR a1, vI p2, vI 3, vR b1, vI 0, vR y8] [(.ref y8)])) (fun t k => st9 _ (XS.sipush X9.here hx rfl (hb hby d33_42) (XS.icmpYes X9.here hx rfl (pc0 := 45) (pc' := 61) rfl (hb hby d33_45) rfl (tlt hc45_10).2.2.1 (by decide) (by decide) (XS.aload X9.here hx rfl (hb hby d33_61) rfl rfl k)))) ?_
    refine Go.fin X9 (v := some (.ref y8)) (own_nv Bd.returns) Bd.notSynchronized ?_ e9q ⟨⟨_, _, rfl, sz_y8, Or.inr Vy8⟩, N9, K16⟩ (by decide) (by decide)
    exact fun _ hr => retOut X9 hx Bd.returns rfl (Or.inr (Or.inr (Or.inr (Or.inr ⟨rfl, rfl, rfl⟩)))) (hb hby d33_63) hr
  · have N2 := Fr.app N0 N2q
    have f17 := f1.keep K2q (ninS ne_a1_b1 nin0)
    have O_18 := O_2.keep K2q (allS ge_b1 all0)
    have Zs19 := Nat.le_trans Zs3 K2q.1
    have K20 := K4.trans K2q (allS (Or.inr sz_b1) all0)
    have hc17_12 : ¬ ((1 : Int32) = (3 : Int32)) := by decide
    refine Go.on (B := T2.setTop (mkF m 21 #[vR a1, vI p2, vI 3, vR b1, vI 1, .unset] [(.ref a1)])) (fun t k => st2 _ (XS.istore X2.here hx rfl (hb hby d33_12) rfl (l' := #[vR a1, vI p2, vI 3, vR b1, vI 1, .unset]) rfl (XS.iload X2.here hx rfl (hb hby d33_14) rfl (XS.iloadN X2.here hx rfl (hb hby d33_16) rfl (XS.icmpNo X2.here hx rfl (hb hby d33_17) rfl (feq hc17_12).1 (XS.aloadN X2.here hx rfl (hb hby d33_20) rfl rfl k)))))) ?_
    refine Go.on (B := T2.setTop (mkF m 27 #[vR a1, vI p2, vI 3, vR b1, vI 1, .unset] [(.int (p2 + (3 : Int32))), (.int (p2 <<< ((1 : Int32) &&& 31))), (.ref a1)])) (fun t k => XS.iloadN X2.here hx rfl (hb hby d33_21) rfl (XS.iconst X2.here hx rfl (hb hby d33_22) (XS.ishl X2.here hx rfl (hb hby d33_23) rfl (XS.iloadN X2.here hx rfl (hb hby d33_24) rfl (XS.iloadN X2.here hx rfl (hb hby d33_25) rfl (XS.iadd X2.here hx rfl (hb hby d33_26) rfl k)))))) ?_
    obtain ⟨_, _, ⟨T13, L13, k13, n13⟩, -, X13, ⟨Lc13, hQ13, lq13, yq13, zq13⟩, st13⟩ := Jvm.LawKit.callS X2 hx (y := MN18) hown (mg hZ hw 121 rfl) (mg hZ hw 122 rfl) (mg hZ hw 83 rfl) (mg hZ hw 123 rfl) (by decide) (backOf (W := 2) (rnlg l Z a0 hw [] (p2 + (3 : Int32)) z1 T2.heap n0 Zs19 hnl) hZ (gw hw 123 rfl) (gw hw 83 rfl) (by decide) (by decide)) (g := (mkF m 27 #[vR a1, vI p2, vI 3, vR b1, vI 1, .unset] [(.int (p2 + (3 : Int32))), (.int (p2 <<< ((1 : Int32) &&& 31))), (.ref a1)])) rfl (by rw [hml]; rfl) (argsL := [(.int (p2 + (3 : Int32)))]) (rest := [(.int (p2 <<< ((1 : Int32) &&& 31))), (.ref a1)]) (lenOf pd_12 rfl) rfl (own_w rfl) (hb hby d33_27) (fun _ _ => ⟨rfl, rfl, (by decide : 1 + 0 ≤ _), (by decide : 3 + 0 ≤ _)⟩)
    dsimp only [Pt.U, Pt.locs, Pt.cells, Pt.slots] at X13 lq13 yq13 zq13 st13 hQ13
    subst lq13 yq13 zq13
    obtain ⟨rfl, N13q, e13q⟩ := hQ13
    have N13 := Fr.app N2 N13q
    obtain ⟨_, _, ⟨T14, L14, k14, n14⟩, -, X14, ⟨Lc14, hQ14, lq14, yq14, zq14⟩, st14⟩ := Jvm.LawKit.callS X13 hx (y := MN20) hown (mg hZ hw 164 rfl) (mg hZ hw 165 rfl) (mg hZ hw 166 rfl) (mg hZ hw 167 rfl) (by decide) (backOf (W := 0) (rcr6 l Z a0 hw [] a1 (p2 <<< ((1 : Int32) &&& 31)) z1 k1 vs [(.int (own_u0 c0)), (.int (own_u1 c0)), (.int (own_u0 c1)), (.int (own_u1 c1)), (.int (own_u0 c2)), (.int (own_u1 c2))] T2.heap n0 Zs19 f17 hr) hZ (gw hw 167 rfl) (gw hw 166 rfl) (by decide) (by decide)) (g := (mkF m 30 #[vR a1, vI p2, vI 3, vR b1, vI 1, .unset] [(.int z1), (.int (p2 <<< ((1 : Int32) &&& 31))), (.ref a1)])) rfl (by rw [hml]; rfl) (argsL := [(.ref a1), (.int (p2 <<< ((1 : Int32) &&& 31))), (.int z1)]) (rest := []) (lenOf pd_10 rfl) rfl (own_w rfl) (hb hby d33_30) (fun _ _ => ⟨rfl, e13q, (by decide : 1 + 1 ≤ _), (by decide : 3 + 6 ≤ _)⟩)
    dsimp only [Pt.U, Pt.locs, Pt.cells, Pt.slots] at X14 lq14 yq14 zq14 st14 hQ14
    subst lq14 yq14 zq14
    obtain ⟨⟨y14, ky14, rfl, sx14, Vy14⟩, N14q, K14q⟩ := hQ14
    have N14 := Fr.app N13 N14q
    have sz_y14 : h0.size ≤ y14 := Nat.le_trans K20.1 sx14
    have O_22 := O_18.keep K14q all0
    have Zs23 := Nat.le_trans Zs19 K14q.1
    have K24 := K20.trans K14q all0
    refine Go.on (B := T14.setTop (mkF m 39 #[vR a1, vI p2, vI 3, vR b1, vI 1, vR y14] [(.int 1), (.ref y14)])) (fun t k => st13 _ (st14 _ (XS.astore X14.here hx rfl (hb hby d33_33) rfl rfl (l' := #[vR a1, vI p2, vI 3, vR b1, vI 1, vR y14]) rfl (XS.aload X14.here hx rfl (hb hby d33_35) rfl rfl (XS.iload X14.here hx rfl (hb hby d33_37) rfl k))))) ?_
    obtain ⟨_, _, ⟨T15, L15, k15, n15⟩, -, X15, ⟨Lc15, hQ15, lq15, yq15, zq15⟩, st15⟩ := Jvm.LawKit.callS X14 hx (y := MN5) hown (mg hZ hw 131 rfl) (mg hZ hw 132 rfl) (mg hZ hw 83 rfl) (mg hZ hw 133 rfl) (by decide) (backOf (W := 0) (rgc l Z a0 hw [] y14 (1 : Int32) ky14 (6 : Int32) [(.int (own_u0 c0)), (.int (own_u1 c0)), (.int (own_u0 c1)), (.int (own_u1 c1)), (.int (own_u0 c2)), (.int (own_u1 c2))] (own_u0 c1) (own_u1 c1) c1 T14.heap n0 Zs23 Vy14 ⟨by decide, by decide⟩ rfl ⟨by decide, by decide⟩ rfl (own_utf c1 hc1) O_22 S_ad S_hi S_lo) hZ (gw hw 133 rfl) (gw hw 83 rfl) (by decide) (by decide)) (g := (mkF m 39 #[vR a1, vI p2, vI 3, vR b1, vI 1, vR y14] [(.int 1), (.ref y14)])) rfl (by rw [hml]; rfl) (argsL := [(.ref y14), (.int 1)]) (rest := []) (lenOf pd_4 rfl) rfl (own_w rfl) (hb hby d33_39) (fun _ _ => ⟨rfl, rfl, (by decide : 2 + 0 ≤ _), (by decide : 9 + 0 ≤ _)⟩)
    dsimp only [Pt.U, Pt.locs, Pt.cells, Pt.slots] at X15 lq15 yq15 zq15 st15 hQ15
    subst lq15 yq15 zq15
    obtain ⟨rfl, N15q, e15q⟩ := hQ15
    have N15 := Fr.app N14 N15q
    have hc45_16 : (255 : Int32) < c1 := hx2_c1
    refine Go.on (B := T15.setTop (mkF m 63 #[vR a1, vI p2, vI 3, vR b1, vI 1, vR y14] [(.ref y14)])) (fun t k => st15 _ (XS.sipush X15.here hx rfl (hb hby d33_42) (XS.icmpYes X15.here hx rfl (pc0 := 45) (pc' := 61) rfl (hb hby d33_45) rfl (tlt hc45_16).2.2.1 (by decide) (by decide) (XS.aload X15.here hx rfl (hb hby d33_61) rfl rfl k)))) ?_
    refine Go.fin X15 (v := some (.ref y14)) (own_nv Bd.returns) Bd.notSynchronized ?_ e15q ⟨⟨_, _, rfl, sz_y14, Or.inr Vy14⟩, N15, K24⟩ (by decide) (by decide)
    exact fun _ hr => retOut X15 hx Bd.returns rfl (Or.inr (Or.inr (Or.inr (Or.inr ⟨rfl, rfl, rfl⟩)))) (hb hby d33_63) hr
  · have N2 := Fr.app N0 N2q
    have f25 := f1.keep K2q (ninS ne_a1_b1 nin0)
    have O_26 := O_2.keep K2q (allS ge_b1 all0)
    have Zs27 := Nat.le_trans Zs3 K2q.1
    have K28 := K4.trans K2q (allS (Or.inr sz_b1) all0)
    have hc17_18 : ¬ ((2 : Int32) = (3 : Int32)) := by decide
    refine Go.on (B := T2.setTop (mkF m 21 #[vR a1, vI p2, vI 3, vR b1, vI 2, .unset] [(.ref a1)])) (fun t k => st2 _ (XS.istore X2.here hx rfl (hb hby d33_12) rfl (l' := #[vR a1, vI p2, vI 3, vR b1, vI 2, .unset]) rfl (XS.iload X2.here hx rfl (hb hby d33_14) rfl (XS.iloadN X2.here hx rfl (hb hby d33_16) rfl (XS.icmpNo X2.here hx rfl (hb hby d33_17) rfl (feq hc17_18).1 (XS.aloadN X2.here hx rfl (hb hby d33_20) rfl rfl k)))))) ?_
    refine Go.on (B := T2.setTop (mkF m 27 #[vR a1, vI p2, vI 3, vR b1, vI 2, .unset] [(.int (p2 + (3 : Int32))), (.int (p2 <<< ((1 : Int32) &&& 31))), (.ref a1)])) (fun t k => XS.iloadN X2.here hx rfl (hb hby d33_21) rfl (XS.iconst X2.here hx rfl (hb hby d33_22) (XS.ishl X2.here hx rfl (hb hby d33_23) rfl (XS.iloadN X2.here hx rfl (hb hby d33_24) rfl (XS.iloadN X2.here hx rfl (hb hby d33_25) rfl (XS.iadd X2.here hx rfl (hb hby d33_26) rfl k)))))) ?_
    obtain ⟨_, _, ⟨T19, L19, k19, n19⟩, -, X19, ⟨Lc19, hQ19, lq19, yq19, zq19⟩, st19⟩ := Jvm.LawKit.callS X2 hx (y := MN18) hown (mg hZ hw 121 rfl) (mg hZ hw 122 rfl) (mg hZ hw 83 rfl) (mg hZ hw 123 rfl) (by decide) (backOf (W := 2) (rnlg l Z a0 hw [] (p2 + (3 : Int32)) z1 T2.heap n0 Zs27 hnl) hZ (gw hw 123 rfl) (gw hw 83 rfl) (by decide) (by decide)) (g := (mkF m 27 #[vR a1, vI p2, vI 3, vR b1, vI 2, .unset] [(.int (p2 + (3 : Int32))), (.int (p2 <<< ((1 : Int32) &&& 31))), (.ref a1)])) rfl (by rw [hml]; rfl) (argsL := [(.int (p2 + (3 : Int32)))]) (rest := [(.int (p2 <<< ((1 : Int32) &&& 31))), (.ref a1)]) (lenOf pd_12 rfl) rfl (own_w rfl) (hb hby d33_27) (fun _ _ => ⟨rfl, rfl, (by decide : 1 + 0 ≤ _), (by decide : 3 + 0 ≤ _)⟩)
    dsimp only [Pt.U, Pt.locs, Pt.cells, Pt.slots] at X19 lq19 yq19 zq19 st19 hQ19
    subst lq19 yq19 zq19
    obtain ⟨rfl, N19q, e19q⟩ := hQ19
    have N19 := Fr.app N2 N19q
    obtain ⟨_, _, ⟨T20, L20, k20, n20⟩, -, X20, ⟨Lc20, hQ20, lq20, yq20, zq20⟩, st20⟩ := Jvm.LawKit.callS X19 hx (y := MN20) hown (mg hZ hw 164 rfl) (mg hZ hw 165 rfl) (mg hZ hw 166 rfl) (mg hZ hw 167 rfl) (by decide) (backOf (W := 0) (rcr6 l Z a0 hw [] a1 (p2 <<< ((1 : Int32) &&& 31)) z1 k1 vs [(.int (own_u0 c0)), (.int (own_u1 c0)), (.int (own_u0 c1)), (.int (own_u1 c1)), (.int (own_u0 c2)), (.int (own_u1 c2))] T2.heap n0 Zs27 f25 hr) hZ (gw hw 167 rfl) (gw hw 166 rfl) (by decide) (by decide)) (g := (mkF m 30 #[vR a1, vI p2, vI 3, vR b1, vI 2, .unset] [(.int z1), (.int (p2 <<< ((1 : Int32) &&& 31))), (.ref a1)])) rfl (by rw [hml]; rfl) (argsL := [(.ref a1), (.int (p2 <<< ((1 : Int32) &&& 31))), (.int z1)]) (rest := []) (lenOf pd_10 rfl) rfl (own_w rfl) (hb hby d33_30) (fun _ _ => ⟨rfl, e19q, (by decide : 1 + 1 ≤ _), (by decide : 3 + 6 ≤ _)⟩)
    dsimp only [Pt.U, Pt.locs, Pt.cells, Pt.slots] at X20 lq20 yq20 zq20 st20 hQ20
    subst lq20 yq20 zq20
    obtain ⟨⟨y20, ky20, rfl, sx20, Vy20⟩, N20q, K20q⟩ := hQ20
    have N20 := Fr.app N19 N20q
    have sz_y20 : h0.size ≤ y20 := Nat.le_trans K28.1 sx20
    have O_30 := O_26.keep K20q all0
    have Zs31 := Nat.le_trans Zs27 K20q.1
    have K32 := K28.trans K20q all0
    refine Go.on (B := T20.setTop (mkF m 39 #[vR a1, vI p2, vI 3, vR b1, vI 2, vR y20] [(.int 2), (.ref y20)])) (fun t k => st19 _ (st20 _ (XS.astore X20.here hx rfl (hb hby d33_33) rfl rfl (l' := #[vR a1, vI p2, vI 3, vR b1, vI 2, vR y20]) rfl (XS.aload X20.here hx rfl (hb hby d33_35) rfl rfl (XS.iload X20.here hx rfl (hb hby d33_37) rfl k))))) ?_
    obtain ⟨_, _, ⟨T21, L21, k21, n21⟩, -, X21, ⟨Lc21, hQ21, lq21, yq21, zq21⟩, st21⟩ := Jvm.LawKit.callS X20 hx (y := MN5) hown (mg hZ hw 131 rfl) (mg hZ hw 132 rfl) (mg hZ hw 83 rfl) (mg hZ hw 133 rfl) (by decide) (backOf (W := 0) (rgc l Z a0 hw [] y20 (2 : Int32) ky20 (6 : Int32) [(.int (own_u0 c0)), (.int (own_u1 c0)), (.int (own_u0 c1)), (.int (own_u1 c1)), (.int (own_u0 c2)), (.int (own_u1 c2))] (own_u0 c2) (own_u1 c2) c2 T20.heap n0 Zs31 Vy20 ⟨by decide, by decide⟩ rfl ⟨by decide, by decide⟩ rfl (own_utf c2 hc2) O_30 S_ad S_hi S_lo) hZ (gw hw 133 rfl) (gw hw 83 rfl) (by decide) (by decide)) (g := (mkF m 39 #[vR a1, vI p2, vI 3, vR b1, vI 2, vR y20] [(.int 2), (.ref y20)])) rfl (by rw [hml]; rfl) (argsL := [(.ref y20), (.int 2)]) (rest := []) (lenOf pd_4 rfl) rfl (own_w rfl) (hb hby d33_39) (fun _ _ => ⟨rfl, rfl, (by decide : 2 + 0 ≤ _), (by decide : 9 + 0 ≤ _)⟩)
    dsimp only [Pt.U, Pt.locs, Pt.cells, Pt.slots] at X21 lq21 yq21 zq21 st21 hQ21
    subst lq21 yq21 zq21
    obtain ⟨rfl, N21q, e21q⟩ := hQ21
    have N21 := Fr.app N20 N21q
    have hc45_22 : (255 : Int32) < c2 := hx2_c2
    refine Go.on (B := T21.setTop (mkF m 63 #[vR a1, vI p2, vI 3, vR b1, vI 2, vR y20] [(.ref y20)])) (fun t k => st21 _ (XS.sipush X21.here hx rfl (hb hby d33_42) (XS.icmpYes X21.here hx rfl (pc0 := 45) (pc' := 61) rfl (hb hby d33_45) rfl (tlt hc45_22).2.2.1 (by decide) (by decide) (XS.aload X21.here hx rfl (hb hby d33_61) rfl rfl k)))) ?_
    refine Go.fin X21 (v := some (.ref y20)) (own_nv Bd.returns) Bd.notSynchronized ?_ e21q ⟨⟨_, _, rfl, sz_y20, Or.inr Vy20⟩, N21, K32⟩ (by decide) (by decide)
    exact fun _ hr => retOut X21 hx Bd.returns rfl (Or.inr (Or.inr (Or.inr (Or.inr ⟨rfl, rfl, rfl⟩)))) (hb hby d33_63) hr
theorem ef_rnsU3 (m : MethodId) (a1 : Addr) (p2 : Int32) : entryFrame m #[(.ref a1), (.int p2), (.int 3)] 5 = mkF m 0 #[vR a1, vI p2, vI 3, .unset, .unset] [] := rfl
def Q_rnsU3 (Z : State) (a1 : Addr) (p2 : Int32) (k1 : ClassId) (z1 : Int32) (vs : List Value) (z2 : Int32) (c0 c1 c2 : Int32) (G1 : Int32) (G3 : Value) (h0 : Heap) (n0 : Nat) (v : Option Value) (h : Heap) (L : List Loc) : Prop := (∃ (d b : Addr) (kb : ClassId), v = some (.ref d) ∧ Exa Z h d "java/lang/String" ∧ Fld Z h d "java/lang/String" "value" "[B" (.ref b) ∧ own_A Z h d b kb [c0, c1, c2]) ∧ Fr n0 L ∧ Keep h0 h []
theorem rnsU3 (l : Launch) (Z : State) (a0 : Array Value) (hw : ∀ d ∈ tables_1, d.before a0 Z = true) (ws : List Jvm.Cond) (a1 : Addr) (p2 : Int32) (k1 : ClassId) (z1 : Int32) (vs : List Value) (z2 : Int32) (c0 c1 c2 : Int32) (G1 : Int32) (G3 : Value) (h0 : Heap) (n0 : Nat) (Z0 : n0 ≤ h0.size) (V1 : Arv Z h0 a1 k1 .byte z1 vs (.int 0)) (hz2 : (z1 >>> ((1 : Int32) &&& 31)) = z2) (hbo : own_B z2 p2 (3 : Int32)) (g0 : own_G vs z1 p2 c0) (g1 : own_G vs z1 (p2 + (1 : Int32)) c1) (g2 : own_G vs z1 ((p2 + (1 : Int32)) + (1 : Int32)) c2) (hc0 : 0 ≤ c0.toInt ∧ c0.toInt ≤ 65535) (hc1 : 0 ≤ c1.toInt ∧ c1.toInt ≤ 65535) (hc2 : 0 ≤ c2.toInt ∧ c2.toInt ≤ 65535) (hnl : ¬ (p2 + (3 : Int32)) < (0 : Int32) ∧ (p2 + (3 : Int32)) < (1073741823 : Int32) ∧ ((p2 + (3 : Int32)) <<< ((1 : Int32) &&& 31)) = z1) (hr : own_R z1 (p2 <<< ((1 : Int32) &&& 31)) (6 : Int32) vs [(.int (own_u0 c0)), (.int (own_u1 c0)), (.int (own_u0 c1)), (.int (own_u1 c1)), (.int (own_u0 c2)), (.int (own_u1 c2))]) (O0 : Old Z n0 h0) (S_cs : own_S_cs Z G1) (S_fm : own_S_fm Z G3) (S_ad : own_S_ad Z) (S_hi : own_S_hi Z) (S_lo : own_S_lo Z) (P5 : ¬ (G1 = (0 : Int32))) (rG3 : G3.isRef = true) :
    MetFree l MN23 (head1 (Jvm.Cond.code MN23 jdk_52_method_69_code 5 (some (.object "java/lang/String")) :: ws) (rK 5 3 13 130)) (fun a U => a = #[(.ref a1), (.int p2), (.int 3)] ∧ Z.Warmed39 U.vm ∧ U.heap = h0) (fun _ _ _ _ _ => True) (fun _ U o U' => ∃ v L, o = .returned v ∧ Q_rnsU3 Z a1 p2 k1 z1 vs z2 c0 c1 c2 G1 G3 h0 n0 v U'.heap L ∧ FrameEnd U o U' L (rK 5 3 13 130).cells (rK 5 3 13 130).slots) := by
  refine MetFree.of_bodySF (plainFor_of_name pn_10) hisR ?_
  intro p e s m args below meth c sB Bd hml0 hP hK
  obtain ⟨rfl, hZ, hh⟩ := hP
  have hx := Bd.exec
  have hby := Bd.bytes
  have hml : c.maxLocals = 5 := hml0
  have hown : s.vm.findClass "java/lang/StringUTF16" = some m.cls := findClass_of_methodNamed Bd.named
  have X0 : Stand p l e (rK 5 3 13 130) s m #[(.ref a1), (.int p2), (.int 3)] below meth c sB [] 0 0 := Stand.of_body Bd
  have e0 : sB.heap = h0 := by rw [← hh, Bd.state]; rfl
  have N0 := Fr.nil n0
  change Go p.tables e below _ _
  have K0 := Keep.refl h0 []
  refine Go.on (B := sB.setTop (mkF m 0 #[vR a1, vI p2, vI 3, .unset, .unset] [])) (fun t k => castTop (ef_rnsU3 m a1 p2) k) ?_
  have hc1_1 : ¬ ((3 : Int32) = (0 : Int32)) := by decide
  obtain ⟨T2, X2, e2, st2⟩ := getS2 X0 hx hZ hown (host := "") (Or.inl (gw hw 148 rfl)) Via.refl e0 (S_cs.ext O0.2) (g := (mkF m 8 #[vR a1, vI p2, vI 3, .unset, .unset] [])) rfl (hb hby d29_8)
  have hc11_3 : ¬ (G1 = (0 : Int32)) := P5
  refine Go.on (B := T2.setTop (mkF m 16 #[vR a1, vI p2, vI 3, .unset, .unset] [(.int p2), (.ref a1)])) (fun t k => XS.iloadN X0.here hx rfl (hb hby d29_0) rfl (XS.ifYes X0.here hx rfl (pc0 := 1) (pc' := 8) rfl (hb hby d29_1) rfl ((if0 _ _).trans (feq hc1_1).2) (by decide) (by decide) (st2 _ (XS.ifNo X2.here hx rfl (hb hby d29_11) rfl ((if0 _ _).trans (feq hc11_3).1) (XS.aloadN X2.here hx rfl (hb hby d29_14) rfl rfl (XS.iloadN X2.here hx rfl (hb hby d29_15) rfl k)))))) ?_
  obtain ⟨_, _, ⟨T4, L4, k4, n4⟩, -, X4, ⟨Lc4, hQ4, lq4, yq4, zq4⟩, st4⟩ := Jvm.LawKit.callS X2 hx (y := MN33) hown (mg hZ hw 149 rfl) (mg hZ hw 150 rfl) (mg hZ hw 83 rfl) (mg hZ hw 151 rfl) (by decide) (backOf (W := 0) (rb3_3 l Z a0 hw [] a1 p2 k1 z1 vs z2 c0 c1 c2 G3 h0 n0 Z0 V1 hz2 hbo g0 g1 g2 hc0 hc1 hc2 hnl hr O0 S_fm S_ad S_hi S_lo rG3) hZ (gw hw 151 rfl) (gw hw 83 rfl) (by decide) (by decide)) (g := (mkF m 17 #[vR a1, vI p2, vI 3, .unset, .unset] [(.int 3), (.int p2), (.ref a1)])) rfl (by rw [hml]; rfl) (argsL := [(.ref a1), (.int p2), (.int 3)]) (rest := []) (lenOf pd_10 rfl) rfl (own_w rfl) (hb hby d29_17) (fun _ _ => ⟨rfl, e2, (by decide : 0 + 2 ≤ _), (by decide : 0 + 9 ≤ _)⟩)
  dsimp only [Pt.U, Pt.locs, Pt.cells, Pt.slots] at X4 lq4 yq4 zq4 st4 hQ4
  subst lq4 yq4 zq4
  refine Go.on (B := T2.setTop (mkF m 17 #[vR a1, vI p2, vI 3, .unset, .unset] [(.int 3), (.int p2), (.ref a1)])) (fun t k => XS.iloadN X2.here hx rfl (hb hby d29_16) rfl k) ?_
  rcases hQ4 with ⟨⟨y4, ky4, rfl, sx4, ⟨Vy4, hx4_c0, hx4_c1, hx4_c2⟩ | Vy4⟩, N4q, K4q⟩
  · have N4 := Fr.app N0 N4q
    have Zs3 := Nat.le_trans Z0 K4q.1
    have K4 := K0.trans K4q all0
    obtain ⟨_, _, ⟨T5, L5, k5, n5⟩, -, X5, ⟨Lc5, hQ5, lq5, yq5, zq5⟩, st5⟩ := Jvm.LawKit.callS X4 hx (y := MN25) hown (mg hZ hw 182 rfl) (mg hZ hw 89 rfl) (mg hZ hw 83 rfl) (mg hZ hw 90 rfl) (by decide) (backOf (W := 0) (rcdg l Z a0 hw [] y4 (3 : Int32) ky4 (3 : Int32) [(.int (own_l c0)), (.int (own_l c1)), (.int (own_l c2))] (0 : Int32) T4.heap n0 Zs3 Vy4 (by decide)) hZ (gw hw 90 rfl) (gw hw 83 rfl) (by decide) (by decide)) (g := (mkF m 23 #[vR a1, vI p2, vI 3, vR y4, .unset] [(.int 3), (.ref y4)])) rfl (by rw [hml]; rfl) (argsL := [(.ref y4), (.int 3)]) (rest := []) (lenOf pd_17 rfl) rfl (own_w rfl) (hb hby d29_23) (fun _ _ => ⟨rfl, rfl, (by decide : 2 + 0 ≤ _), (by decide : 9 + 0 ≤ _)⟩)
    dsimp only [Pt.U, Pt.locs, Pt.cells, Pt.slots] at X5 lq5 yq5 zq5 st5 hQ5
    subst lq5 yq5 zq5
    obtain ⟨rfl, N5q, e5q⟩ := hQ5
    have N5 := Fr.app N4 N5q
    refine Go.on (B := T5.setTop (mkF m 28 #[vR a1, vI p2, vI 3, vR y4, vI 0] [])) (fun t k => st4 _ (XS.astoreN X4.here hx rfl (hb hby d29_20) rfl rfl (l' := #[vR a1, vI p2, vI 3, vR y4, .unset]) rfl (XS.aloadN X4.here hx rfl (hb hby d29_21) rfl rfl (XS.iloadN X4.here hx rfl (hb hby d29_22) rfl (st5 _ (XS.istore X5.here hx rfl (hb hby d29_26) rfl (l' := #[vR a1, vI p2, vI 3, vR y4, vI 0]) rfl k)))))) ?_
    obtain ⟨T7, h7, X7, e7, Xe7, A7, D7, Ue7, st7⟩ := newO X5 hx hZ hown (gw hw 183 rfl) (gw hw 7 rfl) (gw hw 8 rfl) e5q (g := (mkF m 28 #[vR a1, vI p2, vI 3, vR y4, vI 0] [])) rfl (hb hby d29_28) (by decide) (by decide)
    obtain ⟨b7, gq7⟩ : ∃ z, z = T4.heap.size := ⟨_, rfl⟩
    rw [← gq7] at A7 D7 Ue7 st7
    have ge_b7 : n0 ≤ b7 := Nat.le_trans Zs3 (Nat.le_of_eq gq7.symm)
    have sz_b7 : h0.size ≤ b7 := Nat.le_trans K4.1 (Nat.le_of_eq gq7.symm)
    have ne_y4_b7 : y4 ≠ b7 := Nat.ne_of_lt (Nat.lt_of_lt_of_le Vy4.lt (Nat.le_of_eq gq7.symm))
    have f7 := Vy4.ext Xe7
    have Zs8 := Nat.le_trans Zs3 Xe7.1
    have K9 := K4.ext Xe7
    have F7_value : Fld Z h7 b7 "java/lang/String" "value" "[B" .null := D7 (Or.inr (gw hw 21 rfl)) (ty := (.array .byte)) (by decide)
    have F7_coder : Fld Z h7 b7 "java/lang/String" "coder" "B" (.int 0) := D7 (Or.inr (gw hw 22 rfl)) (ty := .byte) (by decide)
    obtain ⟨_, _, ⟨T8, L8, k8, n8⟩, -, X8, ⟨Lc8, hQ8, lq8, yq8, zq8⟩, st8⟩ := X7.specialBack hx (y := MN21) rfl hown (mg hZ hw 184 rfl) (mg hZ hw 185 rfl) (mg hZ hw 186 rfl) (by decide) (backOf (W := 1) (rsb0 l Z a0 hw [] b7 y4 h7 n0 Zs8 A7 F7_value F7_coder ge_b7) hZ (gw hw 186 rfl) (gw hw 8 rfl) (by decide) (by decide)) (g := (mkF m 35 #[vR a1, vI p2, vI 3, vR y4, vI 0] [(.int 0), (.ref y4), (.ref b7), (.ref b7)])) rfl (by rw [hml]; rfl) (Steps.refl _) (a := b7) (argsL := [(.ref y4), (.int 0)]) (rest := [(.ref b7)]) (lenOf pd_11 rfl) rfl (own_w rfl) (hb hby d29_35) (fun _ _ => ⟨rfl, e7, (by decide : 3 + 0 ≤ _), (by decide : 13 + 0 ≤ _)⟩)
    dsimp only [Pt.U, Pt.locs, Pt.cells, Pt.slots] at X8 lq8 yq8 zq8 st8 hQ8
    subst lq8 yq8 zq8
    obtain ⟨rfl, N8q, K8q, G8_0, G8_1, G8_2⟩ := hQ8
    have N8 := Fr.app N5 N8q
    have f12 := f7.keep K8q (ninS ne_y4_b7 nin0)
    have K15 := K9.trans K8q (allS (Or.inr sz_b7) all0)
    refine Go.on (B := T8.setTop (mkF m 38 #[vR a1, vI p2, vI 3, vR y4, vI 0] [(.ref b7)])) (fun t k => st7 _ (XS.dup X7.here hx rfl (hb hby d29_31) rfl rfl (XS.aloadN X7.here hx rfl (hb hby d29_32) rfl rfl (XS.iload X7.here hx rfl (hb hby d29_33) rfl (st8.trans k))))) ?_
    refine Go.fin X8 (v := some (.ref b7)) (own_nv Bd.returns) Bd.notSynchronized ?_ rfl ⟨⟨_, _, _, rfl, G8_0, G8_1, Or.inl ⟨G8_2, f12, (own_allC hx4_c0 (own_allC hx4_c1 (own_allC hx4_c2 own_all0)))⟩⟩, N8, K15⟩ (by decide) (by decide)
    exact fun _ hr => retOut X8 hx Bd.returns rfl (Or.inr (Or.inr (Or.inr (Or.inr ⟨rfl, rfl, rfl⟩)))) (hb hby d29_38) hr
  · have N4 := Fr.app N0 N4q
    have Zs18 := Nat.le_trans Z0 K4q.1
    have K19 := K0.trans K4q all0
    obtain ⟨_, _, ⟨T9, L9, k9, n9⟩, -, X9, ⟨Lc9, hQ9, lq9, yq9, zq9⟩, st9⟩ := Jvm.LawKit.callS X4 hx (y := MN25) hown (mg hZ hw 182 rfl) (mg hZ hw 89 rfl) (mg hZ hw 83 rfl) (mg hZ hw 90 rfl) (by decide) (backOf (W := 0) (rcdg l Z a0 hw [] y4 (3 : Int32) ky4 (6 : Int32) [(.int (own_u0 c0)), (.int (own_u1 c0)), (.int (own_u0 c1)), (.int (own_u1 c1)), (.int (own_u0 c2)), (.int (own_u1 c2))] (1 : Int32) T4.heap n0 Zs18 Vy4 (by decide)) hZ (gw hw 90 rfl) (gw hw 83 rfl) (by decide) (by decide)) (g := (mkF m 23 #[vR a1, vI p2, vI 3, vR y4, .unset] [(.int 3), (.ref y4)])) rfl (by rw [hml]; rfl) (argsL := [(.ref y4), (.int 3)]) (rest := []) (lenOf pd_17 rfl) rfl (own_w rfl) (hb hby d29_23) (fun _ _ => ⟨rfl, rfl, (by decide : 2 + 0 ≤ _), (by decide : 9 + 0 ≤ _)⟩)
    dsimp only [Pt.U, Pt.locs, Pt.cells, Pt.slots] at X9 lq9 yq9 zq9 st9 hQ9
    subst lq9 yq9 zq9
    obtain ⟨rfl, N9q, e9q⟩ := hQ9
    have N9 := Fr.app N4 N9q
    refine Go.on (B := T9.setTop (mkF m 28 #[vR a1, vI p2, vI 3, vR y4, vI 1] [])) (fun t k => st4 _ (XS.astoreN X4.here hx rfl (hb hby d29_20) rfl rfl (l' := #[vR a1, vI p2, vI 3, vR y4, .unset]) rfl (XS.aloadN X4.here hx rfl (hb hby d29_21) rfl rfl (XS.iloadN X4.here hx rfl (hb hby d29_22) rfl (st9 _ (XS.istore X9.here hx rfl (hb hby d29_26) rfl (l' := #[vR a1, vI p2, vI 3, vR y4, vI 1]) rfl k)))))) ?_
    obtain ⟨T11, h11, X11, e11, Xe11, A11, D11, Ue11, st11⟩ := newO X9 hx hZ hown (gw hw 183 rfl) (gw hw 7 rfl) (gw hw 8 rfl) e9q (g := (mkF m 28 #[vR a1, vI p2, vI 3, vR y4, vI 1] [])) rfl (hb hby d29_28) (by decide) (by decide)
    obtain ⟨b11, gq11⟩ : ∃ z, z = T4.heap.size := ⟨_, rfl⟩
    rw [← gq11] at A11 D11 Ue11 st11
    have ge_b11 : n0 ≤ b11 := Nat.le_trans Zs18 (Nat.le_of_eq gq11.symm)
    have sz_b11 : h0.size ≤ b11 := Nat.le_trans K19.1 (Nat.le_of_eq gq11.symm)
    have ne_y4_b11 : y4 ≠ b11 := Nat.ne_of_lt (Nat.lt_of_lt_of_le Vy4.lt (Nat.le_of_eq gq11.symm))
    have f22 := Vy4.ext Xe11
    have Zs23 := Nat.le_trans Zs18 Xe11.1
    have K24 := K19.ext Xe11
    have F11_value : Fld Z h11 b11 "java/lang/String" "value" "[B" .null := D11 (Or.inr (gw hw 21 rfl)) (ty := (.array .byte)) (by decide)
    have F11_coder : Fld Z h11 b11 "java/lang/String" "coder" "B" (.int 0) := D11 (Or.inr (gw hw 22 rfl)) (ty := .byte) (by decide)
    obtain ⟨_, _, ⟨T12, L12, k12, n12⟩, -, X12, ⟨Lc12, hQ12, lq12, yq12, zq12⟩, st12⟩ := X11.specialBack hx (y := MN21) rfl hown (mg hZ hw 184 rfl) (mg hZ hw 185 rfl) (mg hZ hw 186 rfl) (by decide) (backOf (W := 1) (rsb1 l Z a0 hw [] b11 y4 h11 n0 Zs23 A11 F11_value F11_coder ge_b11) hZ (gw hw 186 rfl) (gw hw 8 rfl) (by decide) (by decide)) (g := (mkF m 35 #[vR a1, vI p2, vI 3, vR y4, vI 1] [(.int 1), (.ref y4), (.ref b11), (.ref b11)])) rfl (by rw [hml]; rfl) (Steps.refl _) (a := b11) (argsL := [(.ref y4), (.int 1)]) (rest := [(.ref b11)]) (lenOf pd_11 rfl) rfl (own_w rfl) (hb hby d29_35) (fun _ _ => ⟨rfl, e11, (by decide : 3 + 0 ≤ _), (by decide : 13 + 0 ≤ _)⟩)
    dsimp only [Pt.U, Pt.locs, Pt.cells, Pt.slots] at X12 lq12 yq12 zq12 st12 hQ12
    subst lq12 yq12 zq12
    obtain ⟨rfl, N12q, K12q, G12_0, G12_1, G12_2⟩ := hQ12
    have N12 := Fr.app N9 N12q
    have f27 := f22.keep K12q (ninS ne_y4_b11 nin0)
    have K30 := K24.trans K12q (allS (Or.inr sz_b11) all0)
    refine Go.on (B := T12.setTop (mkF m 38 #[vR a1, vI p2, vI 3, vR y4, vI 1] [(.ref b11)])) (fun t k => st11 _ (XS.dup X11.here hx rfl (hb hby d29_31) rfl rfl (XS.aloadN X11.here hx rfl (hb hby d29_32) rfl rfl (XS.iload X11.here hx rfl (hb hby d29_33) rfl (st12.trans k))))) ?_
    refine Go.fin X12 (v := some (.ref b11)) (own_nv Bd.returns) Bd.notSynchronized ?_ rfl ⟨⟨_, _, _, rfl, G12_0, G12_1, Or.inr ⟨G12_2, f27⟩⟩, N12, K30⟩ (by decide) (by decide)
    exact fun _ hr => retOut X12 hx Bd.returns rfl (Or.inr (Or.inr (Or.inr (Or.inr ⟨rfl, rfl, rfl⟩)))) (hb hby d29_38) hr
def own_take (n c0 c1 c2 c3 : Int32) : List Int32 := ([c0, c1, c2, c3] : List Int32).take n.toNatClampNeg
def own_cs (n s c0 c1 c2 c3 : Int32) : List Int32 := (own_take n c0 c1 c2 c3).drop s.toNatClampNeg
theorem ef_ri4_0 (m : MethodId) (a1 : Addr) (a2 : Addr) : entryFrame m #[(.ref a1), (.ref a2), (.int 0), (.int 0), .null] 6 = mkF m 0 #[vR a1, vR a2, vI 0, vI 0, .val .null, .unset] [] := rfl
def Q_ri4_0 (Z : State) (a1 : Addr) (a2 : Addr) (h0 : Heap) (n0 : Nat) (v : Option Value) (h : Heap) (L : List Loc) : Prop := v = none ∧ Fr n0 L ∧ Keep h0 h [a1] ∧ Exa Z h a1 "java/lang/String" ∧ ∃ (b : Addr) (kb : ClassId), Fld Z h a1 "java/lang/String" "value" "[B" (.ref b) ∧ own_A Z h a1 b kb []
theorem ri4_0 (l : Launch) (Z : State) (a0 : Array Value) (hw : ∀ d ∈ tables_1, d.before a0 Z = true) (ws : List Jvm.Cond) (a1 : Addr) (a2 : Addr) (h0 : Heap) (n0 : Nat) (Z0 : n0 ≤ h0.size) (E1 : Exa Z h0 a1 "java/lang/String") (F_vl : Fld Z h0 a1 "java/lang/String" "value" "[B" .null) (F_cd : Fld Z h0 a1 "java/lang/String" "coder" "B" (.int 0)) (g1 : n0 ≤ a1) (O0 : Old Z n0 h0) (HH : own_H Z a0) :
    MetFree l MN30 (head1 (Jvm.Cond.code MN30 jdk_42_method_149_code 6 none :: ws) (rK 1 2 4 20)) (fun a U => a = #[(.ref a1), (.ref a2), (.int 0), (.int 0), .null] ∧ Z.Warmed39 U.vm ∧ U.heap = h0 ∧ IB Z U.vm []) (fun _ _ _ _ _ => True) (fun _ U o U' => ∃ v L, o = .returned v ∧ Q_ri4_0 Z a1 a2 h0 n0 v U'.heap L ∧ ReturnedEndW U o U' L (rK 1 2 4 20).cells (rK 1 2 4 20).slots) := by
  refine MetFree.of_bodySF (plainFor_of_name pn_5) hisR ?_
  intro p e s m args below meth c sB Bd hml0 hP hK
  obtain ⟨rfl, hZ, hh, hI⟩ := hP
  have hx := Bd.exec
  have hby := Bd.bytes
  have hml : c.maxLocals = 6 := hml0
  have hown : s.vm.findClass "java/lang/String" = some m.cls := findClass_of_methodNamed Bd.named
  have hnm := (name_of_methodNamed Bd.named Bd.method).1
  have X0 : Stand p l e (rK 1 2 4 20) s m #[(.ref a1), (.ref a2), (.int 0), (.int 0), .null] below meth c sB [] 0 0 := Stand.of_body Bd
  have e0 : sB.heap = h0 := by rw [← hh, Bd.state]; rfl
  have N0 := Fr.nil n0
  change Go p.tables e below _ _
  have K0 := Keep.refl h0 [a1]
  refine Go.on (B := sB.setTop (mkF m 0 #[vR a1, vR a2, vI 0, vI 0, .val .null, .unset] [])) (fun t k => castTop (ef_ri4_0 m a1 a2) k) ?_
  obtain ⟨T1, X1, e1, st1⟩ := initO X0 hx hZ hown (gw hw 16 rfl) (gw hw 17 rfl) (gw hw 18 rfl) e0 (g := (mkF m 1 #[vR a1, vR a2, vI 0, vI 0, .val .null, .unset] [(.ref a1)])) rfl (by rw [hml]; rfl) rfl (hb hby d3_1) (by decide) (W := 0) (own_w rfl) (by decide)
  have hc5_2 : (0 : Int32) = (0 : Int32) := by decide
  refine Go.on (B := T1.setTop (mkF m 9 #[vR a1, vR a2, vI 0, vI 0, .val .null, .unset] [(.ref a1)])) (fun t k => XS.aloadN X0.here hx rfl (hb hby d3_0) rfl rfl (st1 _ (XS.iloadN X1.here hx rfl (hb hby d3_4) rfl (XS.ifNo X1.here hx rfl (hb hby d3_5) rfl ((if0 _ _).trans (teq hc5_2).2) (XS.aloadN X1.here hx rfl (hb hby d3_8) rfl rfl k))))) ?_
  obtain ⟨b3, T3, h3, d3, k3, K13, X3, e3, Xe3, hS3, Y3, hZ, hown, A3, F3c, F3v, V3, Lt3, st3⟩ := own_ldcE X1 hx hZ hown (gw hw 19 rfl) (own_wS hw) e1 (Fr.nil _) (by rw [hh]; exact O0.2) (by rw [hh]; exact Nat.le_refl _) hI HH.2.1 HH.1 (g := (mkF m 9 #[vR a1, vR a2, vI 0, vI 0, .val .null, .unset] [(.ref a1)])) rfl (hb hby d3_9) (by decide) (by decide)
  have f1 := E1.ext Xe3
  have f2 := F_vl.ext Xe3
  have f3 := F_cd.ext Xe3
  have K6 := K0.ext Xe3
  refine Go.on (B := T3.setTop (mkF m 11 #[vR a1, vR a2, vI 0, vI 0, .val .null, .unset] [(.ref b3), (.ref a1)])) (fun t k => st3 _ k) ?_
  have ne_b3_a1 : b3 ≠ a1 := Fld.ne F3v f2 (fun q => by cases q)
  have ne_a1_d3 : a1 ≠ d3 := Exa.neArv f1 V3 (gw hw 7 rfl)
  obtain ⟨T4, X4, e4, st4⟩ := getF X3 hx hZ hown (host := "") (Or.inl (gw hw 25 rfl)) Via.refl e3 F3v (g := (mkF m 11 #[vR a1, vR a2, vI 0, vI 0, .val .null, .unset] [(.ref b3), (.ref a1)])) rfl rfl (hb hby d3_11)
  obtain ⟨T5, h5, X5, e5, W5, st5⟩ := putF X4 hx hZ hown (host := "") (Or.inl (gw hw 25 rfl)) Via.refl e4 f2 f1 (Or.inr ⟨(gw hw 21 rfl), rfl, hnm⟩) (gw hw 7 rfl) (ty := (.array .byte)) (by decide) rfl rfl (g := (mkF m 14 #[vR a1, vR a2, vI 0, vI 0, .val .null, .unset] [(.ref d3), (.ref a1)])) rfl rfl (hb hby d3_14)
  have N5 := Fr.snoc X5 N0 g1
  have Fw5 := f2.same W5
  have Yw7 := Nat.le_trans Y3 (Keep.of_wr W5).1
  have f8 := f1.wr W5
  have f9 := f3.other W5 (Or.inr (slot_ne (Or.inr (gw hw 22 rfl)) (Or.inr (gw hw 21 rfl)) (by decide) (t := .byte) (t' := (.array .byte)) (by decide) (by decide)))
  have f12 := F3c.other W5 (Or.inl ne_b3_a1)
  have f14 := V3.other W5 (Ne.symm ne_a1_d3)
  have K16 := K6.wr W5 (Or.inl (List.mem_of_getElem? (i := 0) rfl))
  refine Go.on (B := T5.setTop (mkF m 18 #[vR a1, vR a2, vI 0, vI 0, .val .null, .unset] [(.ref a1)])) (fun t k => st4 _ (st5 _ (XS.aloadN X5.here hx rfl (hb hby d3_17) rfl rfl k))) ?_
  obtain ⟨T7, X7, e7, st7⟩ := getF X5 hx hZ hown (host := "") (Or.inl (gw hw 26 rfl)) Via.refl e5 f12 (g := (mkF m 20 #[vR a1, vR a2, vI 0, vI 0, .val .null, .unset] [(.ref b3), (.ref a1)])) rfl rfl (hb hby d3_20)
  obtain ⟨T8, h8, X8, e8, W8, st8⟩ := putFN X7 hx hZ hown (gw hw 26 rfl) Via.refl e7 f9 f8 (Or.inr ⟨(gw hw 22 rfl), rfl, hnm⟩) (gw hw 7 rfl) (ty := .byte) (v' := (.int 0)) (by decide) rfl (by decide) (g := (mkF m 23 #[vR a1, vR a2, vI 0, vI 0, .val .null, .unset] [(.int 0), (.ref a1)])) rfl rfl (hb hby d3_23)
  have N8 := Fr.snoc X8 N5 g1
  have Fw8 := f9.same W8
  have Yw17 := Nat.le_trans Yw7 (Keep.of_wr W8).1
  have f18 := f8.wr W8
  have f19 := Fw5.other W8 (Or.inr (slot_ne (Or.inr (gw hw 21 rfl)) (Or.inr (gw hw 22 rfl)) (by decide) (t := (.array .byte)) (t' := .byte) (by decide) (by decide)))
  have f24 := f14.other W8 (Ne.symm ne_a1_d3)
  have K26 := K16.wr W8 (Or.inl (List.mem_of_getElem? (i := 0) rfl))
  refine Go.on (B := T8.setTop (mkF m 26 #[vR a1, vR a2, vI 0, vI 0, .val .null, .unset] [])) (fun t k => ldcAgain X5 hx hZ hown (gw hw 19 rfl) Lt3 (g := (mkF m 18 #[vR a1, vR a2, vI 0, vI 0, .val .null, .unset] [(.ref a1)])) rfl (hb hby d3_18) _ (st7 _ (st8 _ k))) ?_
  refine Go.finW X8 hS3 (by rw [e8]; exact Yw17) (v := none) (fun _ => rfl) Bd.notSynchronized ?_ e8 ⟨rfl, N8, K26, f18, _, _, f19, Or.inl ⟨Fw8, f24, own_all0⟩⟩ (by decide) (by decide)
  exact fun _ hr => X8.returnOut hx Bd.returns (hb hby d3_26) hr
def Q_ri1_0 (Z : State) (a1 : Addr) (a2 : Addr) (kc : ClassId) (h0 : Heap) (n0 : Nat) (v : Option Value) (h : Heap) (L : List Loc) : Prop := v = none ∧ Fr n0 L ∧ Keep h0 h [a1] ∧ Exa Z h a1 "java/lang/String" ∧ ∃ (b : Addr) (kb : ClassId), Fld Z h a1 "java/lang/String" "value" "[B" (.ref b) ∧ own_A Z h a1 b kb []
theorem ri1_0 (l : Launch) (Z : State) (a0 : Array Value) (hw : ∀ d ∈ tables_1, d.before a0 Z = true) (ws : List Jvm.Cond) (a1 : Addr) (a2 : Addr) (kc : ClassId) (h0 : Heap) (n0 : Nat) (Z0 : n0 ≤ h0.size) (E1 : Exa Z h0 a1 "java/lang/String") (F_vl : Fld Z h0 a1 "java/lang/String" "value" "[B" .null) (F_cd : Fld Z h0 a1 "java/lang/String" "coder" "B" (.int 0)) (g1 : n0 ≤ a1) (V2 : Arv Z h0 a2 kc .char (0 : Int32) [] (.int 0)) (O0 : Old Z n0 h0) (HH : own_H Z a0) :
    MetFree l MN31 (head1 (Jvm.Cond.code MN31 jdk_42_method_3_code 2 none :: ws) (rK 2 2 4 45)) (fun a U => a = #[(.ref a1), (.ref a2)] ∧ Z.Warmed39 U.vm ∧ U.heap = h0 ∧ IB Z U.vm []) (fun _ _ _ _ _ => True) (fun _ U o U' => ∃ v L, o = .returned v ∧ Q_ri1_0 Z a1 a2 kc h0 n0 v U'.heap L ∧ ReturnedEndW U o U' L (rK 2 2 4 45).cells (rK 2 2 4 45).slots) := by
  refine MetFree.of_bodySF (plainFor_of_name pn_5) hisR ?_
  intro p e s m args below meth c sB Bd hml0 hP hK
  obtain ⟨rfl, hZ, hh, hI⟩ := hP
  have hx := Bd.exec
  have hby := Bd.bytes
  have hml : c.maxLocals = 2 := hml0
  have hown : s.vm.findClass "java/lang/String" = some m.cls := findClass_of_methodNamed Bd.named
  have X0 : Stand p l e (rK 2 2 4 45) s m #[(.ref a1), (.ref a2)] below meth c sB [] 0 0 := Stand.of_body Bd
  have e0 : sB.heap = h0 := by rw [← hh, Bd.state]; rfl
  have N0 := Fr.nil n0
  change Go p.tables e below _ _
  have K0 := Keep.refl h0 [a1]
  refine Go.on (B := sB.setTop (mkF m 0 #[vR a1, vR a2] [])) (fun t k => castTop (ef_ri1_1 m a1 a2) k) ?_
  obtain ⟨cl1, Ar1, -, Sz1, Ng1, -, -⟩ := id V2
  refine Go.on (B := sB.setTop (mkF m 6 #[vR a1, vR a2] [.null, (.int 0), (.int 0), (.ref a2), (.ref a1)])) (fun t k => XS.aloadN X0.here hx rfl (hb hby d2_0) rfl rfl (XS.aloadN X0.here hx rfl (hb hby d2_1) rfl rfl (XS.iconst X0.here hx rfl (hb hby d2_2) (XS.aloadN X0.here hx rfl (hb hby d2_3) rfl rfl (X0.arraylength hx (by rw [e0]; exact Ar1.1) (State.isArrayOf_alike hZ.alike Ar1.2.1) (g := (mkF m 4 #[vR a1, vR a2] [(.ref a2), (.int 0), (.ref a2), (.ref a1)])) rfl rfl (hb hby d2_4) _ (by rw [len_of Sz1 Ng1]; exact (XS.aconstNull X0.here hx rfl (hb hby d2_5) k))))))) ?_
  obtain ⟨_, _, ⟨T2, L2, k2, n2⟩, -, X2, hS2, hg2, ⟨Lc2, hQ2, lq2, yq2, zq2⟩, st2⟩ := X0.specialBackS hx (y := MN30) rfl hown (mg hZ hw 12 rfl) (mg hZ hw 13 rfl) (mg hZ hw 15 rfl) (by decide) (own_back (W := 0) (ri4_0 l Z a0 hw [] a1 a2 h0 n0 Z0 E1 F_vl F_cd g1 O0 HH) hZ hI (gw hw 15 rfl) (gw hw 8 rfl) (by decide) (by decide)) (g := (mkF m 6 #[vR a1, vR a2] [.null, (.int 0), (.int 0), (.ref a2), (.ref a1)])) rfl (by rw [hml]; rfl) (Steps.refl _) (a := a1) (argsL := [(.ref a2), (.int 0), (.int 0), .null]) (rest := []) (lenOf pd_18 rfl) rfl (own_w rfl) (hb hby d2_6) (fun _ _ => ⟨rfl, e0, (by decide : 0 + 2 ≤ _), (by decide : 0 + 4 ≤ _)⟩)
  dsimp only [Pt.U, Pt.locs, Pt.cells, Pt.slots] at X2 lq2 yq2 zq2 st2 hQ2 hS2 hg2
  subst lq2 yq2 zq2
  obtain ⟨hZ, hown⟩ := own_reb hZ hown hS2
  have Y2 := Nat.le_refl T2.heap.size
  obtain ⟨rfl, N2q, K2q, Ex2, y2, ky2, Fx2, Ax2⟩ := hQ2
  have N2 := Fr.app N0 N2q
  have K5 := K0.trans K2q (allS (Or.inl (List.mem_of_getElem? (i := 0) rfl)) all0)
  refine Go.on (B := T2.setTop (mkF m 9 #[vR a1, vR a2] [])) (fun t k => st2.trans k) ?_
  refine Go.finW X2 hS2 Y2 (v := none) (fun _ => rfl) Bd.notSynchronized ?_ rfl ⟨rfl, N2, K5, Ex2, _, _, Fx2, Ax2⟩ (by decide) (by decide)
  exact fun _ hr => X2.returnOut hx Bd.returns (hb hby d2_9) hr
theorem d1_0 : decode BC38 0 = .ok (.iload_n 0, 1) := by decide +kernel
theorem d1_1 : decode BC38 1 = .ok (.ifCond .ne 14, 3) := by decide +kernel
theorem d1_4 : decode BC38 4 = .ok (.new 24, 3) := by decide +kernel
theorem d1_7 : decode BC38 7 = .ok (.dup, 1) := by decide +kernel
theorem d1_8 : decode BC38 8 = .ok (.iconst 0, 1) := by decide +kernel
theorem d1_9 : decode BC38 9 = .ok (.newarray .char, 2) := by decide +kernel
theorem d1_11 : decode BC38 11 = .ok (.invokespecial 37, 3) := by decide +kernel
theorem d1_14 : decode BC38 14 = .ok (.areturn, 1) := by decide +kernel
theorem d1_15 : decode BC38 15 = .ok (.iload_n 0, 1) := by decide +kernel
theorem d1_16 : decode BC38 16 = .ok (.iconst 1, 1) := by decide +kernel
theorem d1_17 : decode BC38 17 = .ok (.if_icmp .ne 20, 3) := by decide +kernel
theorem d1_20 : decode BC38 20 = .ok (.new 24, 3) := by decide +kernel
theorem d1_23 : decode BC38 23 = .ok (.dup, 1) := by decide +kernel
theorem d1_24 : decode BC38 24 = .ok (.iconst 1, 1) := by decide +kernel
theorem d1_25 : decode BC38 25 = .ok (.newarray .char, 2) := by decide +kernel
theorem d1_27 : decode BC38 27 = .ok (.dup, 1) := by decide +kernel
theorem d1_28 : decode BC38 28 = .ok (.iconst 0, 1) := by decide +kernel
theorem d1_29 : decode BC38 29 = .ok (.aload_n 1, 1) := by decide +kernel
theorem d1_30 : decode BC38 30 = .ok (.iconst 0, 1) := by decide +kernel
theorem d1_31 : decode BC38 31 = .ok (.caload, 1) := by decide +kernel
theorem d1_32 : decode BC38 32 = .ok (.castore, 1) := by decide +kernel
theorem d1_33 : decode BC38 33 = .ok (.invokespecial 37, 3) := by decide +kernel
theorem d1_36 : decode BC38 36 = .ok (.areturn, 1) := by decide +kernel
theorem d1_37 : decode BC38 37 = .ok (.iload_n 0, 1) := by decide +kernel
theorem d1_38 : decode BC38 38 = .ok (.iconst 2, 1) := by decide +kernel
theorem d1_39 : decode BC38 39 = .ok (.if_icmp .ne 26, 3) := by decide +kernel
theorem d1_42 : decode BC38 42 = .ok (.new 24, 3) := by decide +kernel
theorem d1_45 : decode BC38 45 = .ok (.dup, 1) := by decide +kernel
theorem d1_46 : decode BC38 46 = .ok (.iconst 2, 1) := by decide +kernel
theorem d1_47 : decode BC38 47 = .ok (.newarray .char, 2) := by decide +kernel
theorem d1_49 : decode BC38 49 = .ok (.dup, 1) := by decide +kernel
theorem d1_50 : decode BC38 50 = .ok (.iconst 0, 1) := by decide +kernel
theorem d1_51 : decode BC38 51 = .ok (.aload_n 1, 1) := by decide +kernel
theorem d1_52 : decode BC38 52 = .ok (.iconst 0, 1) := by decide +kernel
theorem d1_53 : decode BC38 53 = .ok (.caload, 1) := by decide +kernel
theorem d1_54 : decode BC38 54 = .ok (.castore, 1) := by decide +kernel
theorem d1_55 : decode BC38 55 = .ok (.dup, 1) := by decide +kernel
theorem d1_56 : decode BC38 56 = .ok (.iconst 1, 1) := by decide +kernel
theorem d1_57 : decode BC38 57 = .ok (.aload_n 1, 1) := by decide +kernel
theorem d1_58 : decode BC38 58 = .ok (.iconst 1, 1) := by decide +kernel
theorem d1_59 : decode BC38 59 = .ok (.caload, 1) := by decide +kernel
theorem d1_60 : decode BC38 60 = .ok (.castore, 1) := by decide +kernel
theorem d1_61 : decode BC38 61 = .ok (.invokespecial 37, 3) := by decide +kernel
theorem d1_64 : decode BC38 64 = .ok (.areturn, 1) := by decide +kernel
theorem d1_65 : decode BC38 65 = .ok (.iload_n 0, 1) := by decide +kernel
theorem d1_66 : decode BC38 66 = .ok (.iconst 3, 1) := by decide +kernel
theorem d1_67 : decode BC38 67 = .ok (.if_icmp .ne 32, 3) := by decide +kernel
theorem d1_70 : decode BC38 70 = .ok (.new 24, 3) := by decide +kernel
theorem d1_73 : decode BC38 73 = .ok (.dup, 1) := by decide +kernel
theorem d1_74 : decode BC38 74 = .ok (.iconst 3, 1) := by decide +kernel
theorem d1_75 : decode BC38 75 = .ok (.newarray .char, 2) := by decide +kernel
theorem d1_77 : decode BC38 77 = .ok (.dup, 1) := by decide +kernel
theorem d1_78 : decode BC38 78 = .ok (.iconst 0, 1) := by decide +kernel
theorem d1_79 : decode BC38 79 = .ok (.aload_n 1, 1) := by decide +kernel
theorem d1_80 : decode BC38 80 = .ok (.iconst 0, 1) := by decide +kernel
theorem d1_81 : decode BC38 81 = .ok (.caload, 1) := by decide +kernel
theorem d1_82 : decode BC38 82 = .ok (.castore, 1) := by decide +kernel
theorem d1_83 : decode BC38 83 = .ok (.dup, 1) := by decide +kernel
theorem d1_84 : decode BC38 84 = .ok (.iconst 1, 1) := by decide +kernel
theorem d1_85 : decode BC38 85 = .ok (.aload_n 1, 1) := by decide +kernel
theorem d1_86 : decode BC38 86 = .ok (.iconst 1, 1) := by decide +kernel
theorem d1_87 : decode BC38 87 = .ok (.caload, 1) := by decide +kernel
theorem d1_88 : decode BC38 88 = .ok (.castore, 1) := by decide +kernel
theorem d1_89 : decode BC38 89 = .ok (.dup, 1) := by decide +kernel
theorem d1_90 : decode BC38 90 = .ok (.iconst 2, 1) := by decide +kernel
theorem d1_91 : decode BC38 91 = .ok (.aload_n 1, 1) := by decide +kernel
theorem d1_92 : decode BC38 92 = .ok (.iconst 2, 1) := by decide +kernel
theorem d1_93 : decode BC38 93 = .ok (.caload, 1) := by decide +kernel
theorem d1_94 : decode BC38 94 = .ok (.castore, 1) := by decide +kernel
theorem d1_95 : decode BC38 95 = .ok (.invokespecial 37, 3) := by decide +kernel
theorem d1_98 : decode BC38 98 = .ok (.areturn, 1) := by decide +kernel
theorem d1_99 : decode BC38 99 = .ok (.new 24, 3) := by decide +kernel
theorem d1_102 : decode BC38 102 = .ok (.dup, 1) := by decide +kernel
theorem d1_103 : decode BC38 103 = .ok (.iconst 4, 1) := by decide +kernel
theorem d1_104 : decode BC38 104 = .ok (.newarray .char, 2) := by decide +kernel
theorem d1_106 : decode BC38 106 = .ok (.dup, 1) := by decide +kernel
theorem d1_107 : decode BC38 107 = .ok (.iconst 0, 1) := by decide +kernel
theorem d1_108 : decode BC38 108 = .ok (.aload_n 1, 1) := by decide +kernel
theorem d1_109 : decode BC38 109 = .ok (.iconst 0, 1) := by decide +kernel
theorem d1_110 : decode BC38 110 = .ok (.caload, 1) := by decide +kernel
theorem d1_111 : decode BC38 111 = .ok (.castore, 1) := by decide +kernel
theorem d1_112 : decode BC38 112 = .ok (.dup, 1) := by decide +kernel
theorem d1_113 : decode BC38 113 = .ok (.iconst 1, 1) := by decide +kernel
theorem d1_114 : decode BC38 114 = .ok (.aload_n 1, 1) := by decide +kernel
theorem d1_115 : decode BC38 115 = .ok (.iconst 1, 1) := by decide +kernel
theorem d1_116 : decode BC38 116 = .ok (.caload, 1) := by decide +kernel
theorem d1_117 : decode BC38 117 = .ok (.castore, 1) := by decide +kernel
theorem d1_118 : decode BC38 118 = .ok (.dup, 1) := by decide +kernel
theorem d1_119 : decode BC38 119 = .ok (.iconst 2, 1) := by decide +kernel
theorem d1_120 : decode BC38 120 = .ok (.aload_n 1, 1) := by decide +kernel
theorem d1_121 : decode BC38 121 = .ok (.iconst 2, 1) := by decide +kernel
theorem d1_122 : decode BC38 122 = .ok (.caload, 1) := by decide +kernel
theorem d1_123 : decode BC38 123 = .ok (.castore, 1) := by decide +kernel
theorem d1_124 : decode BC38 124 = .ok (.dup, 1) := by decide +kernel
theorem d1_125 : decode BC38 125 = .ok (.iconst 3, 1) := by decide +kernel
theorem d1_126 : decode BC38 126 = .ok (.aload_n 1, 1) := by decide +kernel
theorem d1_127 : decode BC38 127 = .ok (.iconst 3, 1) := by decide +kernel
theorem d1_128 : decode BC38 128 = .ok (.caload, 1) := by decide +kernel
theorem d1_129 : decode BC38 129 = .ok (.castore, 1) := by decide +kernel
theorem d1_130 : decode BC38 130 = .ok (.invokespecial 37, 3) := by decide +kernel
theorem d1_133 : decode BC38 133 = .ok (.areturn, 1) := by decide +kernel
theorem pd_21 : parseMethodDescriptor "([C)V" = some ⟨[(.array .char)], none⟩ := by decide +kernel
theorem pn_63 : plainName "com/example/docs_into_rows/docsintorows/PrologDoctypePinLaw" = true := by first | (simp [plainName, overriddenIn]; done) | decide +kernel
theorem ef_rmk0 (m : MethodId) (a2 : Addr) : entryFrame m #[(.int 0), (.ref a2)] 2 = mkF m 0 #[vI 0, vR a2] [] := rfl
def Q_rmk0 (Z : State) (a2 : Addr) (kc : ClassId) (c0 c1 c2 c3 : Int32) (h0 : Heap) (n0 : Nat) (v : Option Value) (h : Heap) (L : List Loc) : Prop := (∃ (d b : Addr) (kb : ClassId), v = some (.ref d) ∧ Exa Z h d "java/lang/String" ∧ Fld Z h d "java/lang/String" "value" "[B" (.ref b) ∧ own_A Z h d b kb []) ∧ Fr n0 L ∧ Keep h0 h []
theorem rmk0 (l : Launch) (Z : State) (a0 : Array Value) (hw : ∀ d ∈ tables_1, d.before a0 Z = true) (ws : List Jvm.Cond) (a2 : Addr) (kc : ClassId) (c0 c1 c2 c3 : Int32) (h0 : Heap) (n0 : Nat) (Z0 : n0 ≤ h0.size) (V2 : Arv Z h0 a2 kc .char (4 : Int32) [(.int c0), (.int c1), (.int c2), (.int c3)] (.int 0)) (O0 : Old Z n0 h0) (HH : own_H Z a0) :
    MetFree l MN34 (head1 (Jvm.Cond.code MN34 method_4_code 2 (some (.object "java/lang/String")) :: ws) (rK 3 4 10 70)) (fun a U => a = #[(.int 0), (.ref a2)] ∧ Z.Warmed39 U.vm ∧ U.heap = h0 ∧ IB Z U.vm []) (fun _ _ _ _ _ => True) (fun _ U o U' => ∃ v L, o = .returned v ∧ Q_rmk0 Z a2 kc c0 c1 c2 c3 h0 n0 v U'.heap L ∧ ReturnedEndW U o U' L (rK 3 4 10 70).cells (rK 3 4 10 70).slots) := by
  refine MetFree.of_bodySF (plainFor_of_name pn_63) hisR ?_
  intro p e s m args below meth c sB Bd hml0 hP hK
  obtain ⟨rfl, hZ, hh, hI⟩ := hP
  have hx := Bd.exec
  have hby := Bd.bytes
  have hml : c.maxLocals = 2 := hml0
  have hown : s.vm.findClass "com/example/docs_into_rows/docsintorows/PrologDoctypePinLaw" = some m.cls := findClass_of_methodNamed Bd.named
  have X0 : Stand p l e (rK 3 4 10 70) s m #[(.int 0), (.ref a2)] below meth c sB [] 0 0 := Stand.of_body Bd
  have e0 : sB.heap = h0 := by rw [← hh, Bd.state]; rfl
  have N0 := Fr.nil n0
  change Go p.tables e below _ _
  have K0 := Keep.refl h0 []
  refine Go.on (B := sB.setTop (mkF m 0 #[vI 0, vR a2] [])) (fun t k => castTop (ef_rmk0 m a2) k) ?_
  have hc1_1 : (0 : Int32) = (0 : Int32) := by decide
  obtain ⟨T2, h2, X2, e2, Xe2, A2, D2, Ue2, st2⟩ := newO X0 hx hZ hown (gw hw 6 rfl) (gw hw 7 rfl) (gw hw 8 rfl) e0 (g := (mkF m 4 #[vI 0, vR a2] [])) rfl (hb hby d1_4) (by decide) (by decide)
  obtain ⟨b2, gq2⟩ : ∃ z, z = h0.size := ⟨_, rfl⟩
  rw [← gq2] at A2 D2 Ue2 st2
  have ge_b2 : n0 ≤ b2 := Nat.le_trans Z0 (Nat.le_of_eq gq2.symm)
  have sz_b2 : h0.size ≤ b2 := Nat.le_trans K0.1 (Nat.le_of_eq gq2.symm)
  have O_2 := O0.ext Xe2
  have Zs3 := Nat.le_trans Z0 Xe2.1
  have K4 := K0.ext Xe2
  have F2_value : Fld Z h2 b2 "java/lang/String" "value" "[B" .null := D2 (Or.inr (gw hw 21 rfl)) (ty := (.array .byte)) (by decide)
  have F2_coder : Fld Z h2 b2 "java/lang/String" "coder" "B" (.int 0) := D2 (Or.inr (gw hw 22 rfl)) (ty := .byte) (by decide)
  obtain ⟨T3, h3, kq3, X3, e3, Xe3, A3, st3⟩ := newP X2 hx hZ (gw hw 1 rfl) e2 (g := (mkF m 9 #[vI 0, vR a2] [(.int 0), (.ref b2), (.ref b2)])) rfl (hb hby d1_9) rfl (by decide) (cap := 0) (by decide) (by decide) (by decide) (by decide)
  obtain ⟨b3, gq3⟩ : ∃ z, z = h2.size := ⟨_, rfl⟩
  rw [← gq3] at A3 st3
  have O_6 := O_2.ext Xe3
  have f7 := A2.ext Xe3
  have f8 := F2_value.ext Xe3
  have f9 := F2_coder.ext Xe3
  have Zs10 := Nat.le_trans Zs3 Xe3.1
  have K11 := K4.ext Xe3
  have V3 : Arv Z h3 b3 kq3 .char (0 : Int32) [] (.int 0) := Arv.new A3 (by decide)
  refine Go.on (B := T3.setTop (mkF m 11 #[vI 0, vR a2] [(.ref b3), (.ref b2), (.ref b2)])) (fun t k => XS.iloadN X0.here hx rfl (hb hby d1_0) rfl (XS.ifNo X0.here hx rfl (hb hby d1_1) rfl ((if0 _ _).trans (teq hc1_1).2) (st2 _ (XS.dup X2.here hx rfl (hb hby d1_7) rfl rfl (XS.iconst X2.here hx rfl (hb hby d1_8) (st3 _ k)))))) ?_
  obtain ⟨_, _, ⟨T4, L4, k4, n4⟩, -, X4, hS4, hg4, ⟨Lc4, hQ4, lq4, yq4, zq4⟩, st4⟩ := X3.specialBackS hx (y := MN31) rfl hown (mg hZ hw 9 rfl) (mg hZ hw 10 rfl) (mg hZ hw 11 rfl) (by decide) (own_back (W := 1) (ri1_0 l Z a0 hw [] b2 b3 kq3 h3 n0 Zs10 f7 f8 f9 ge_b2 V3 O_6 HH) hZ hI (gw hw 11 rfl) (gw hw 8 rfl) (by decide) (by decide)) (g := (mkF m 11 #[vI 0, vR a2] [(.ref b3), (.ref b2), (.ref b2)])) rfl (by rw [hml]; rfl) (Steps.refl _) (a := b2) (argsL := [(.ref b3)]) (rest := [(.ref b2)]) (lenOf pd_21 rfl) rfl (own_w rfl) (hb hby d1_11) (fun _ _ => ⟨rfl, e3, (by decide : 2 + 2 ≤ _), (by decide : 4 + 4 ≤ _)⟩)
  dsimp only [Pt.U, Pt.locs, Pt.cells, Pt.slots] at X4 lq4 yq4 zq4 st4 hQ4 hS4 hg4
  subst lq4 yq4 zq4
  obtain ⟨hZ, hown⟩ := own_reb hZ hown hS4
  have Y4 := Nat.le_refl T4.heap.size
  obtain ⟨rfl, N4q, K4q, Ex4, y4, ky4, Fx4, Ax4⟩ := hQ4
  have N4 := Fr.app N0 N4q
  have K17 := K11.trans K4q (allS (Or.inr sz_b2) all0)
  refine Go.on (B := T4.setTop (mkF m 14 #[vI 0, vR a2] [(.ref b2)])) (fun t k => st4.trans k) ?_
  refine Go.finW X4 hS4 Y4 (v := some (.ref b2)) (own_nv Bd.returns) Bd.notSynchronized ?_ rfl ⟨⟨_, _, _, rfl, Ex4, Fx4, Ax4⟩, N4, K17⟩ (by decide) (by decide)
  exact fun _ hr => retOut X4 hx Bd.returns rfl (Or.inr (Or.inr (Or.inr (Or.inr ⟨rfl, rfl, rfl⟩)))) (hb hby d1_14) hr
def Q_rmk (Z : State) (p1 : Int32) (a2 : Addr) (kc : ClassId) (c0 c1 c2 c3 : Int32) (G1 : Int32) (h0 : Heap) (n0 : Nat) (v : Option Value) (h : Heap) (L : List Loc) : Prop := (∃ (d b : Addr) (kb : ClassId), v = some (.ref d) ∧ Exa Z h d "java/lang/String" ∧ Fld Z h d "java/lang/String" "value" "[B" (.ref b) ∧ own_A Z h d b kb (own_take p1 c0 c1 c2 c3)) ∧ Fr n0 L ∧ Keep h0 h []
theorem rmk (l : Launch) (Z : State) (a0 : Array Value) (hw : ∀ d ∈ tables_1, d.before a0 Z = true) (ws : List Jvm.Cond) (p1 : Int32) (a2 : Addr) (kc : ClassId) (c0 c1 c2 c3 : Int32) (G1 : Int32) (h0 : Heap) (n0 : Nat) (Z0 : n0 ≤ h0.size) (V2 : Arv Z h0 a2 kc .char (4 : Int32) [(.int c0), (.int c1), (.int c2), (.int c3)] (.int 0)) (hn : p1 = (1 : Int32) ∨ p1 = (2 : Int32) ∨ p1 = (3 : Int32) ∨ p1 = (4 : Int32)) (hc0 : 0 ≤ c0.toInt ∧ c0.toInt ≤ 65535) (hc1 : 0 ≤ c1.toInt ∧ c1.toInt ≤ 65535) (hc2 : 0 ≤ c2.toInt ∧ c2.toInt ≤ 65535) (hc3 : 0 ≤ c3.toInt ∧ c3.toInt ≤ 65535) (O0 : Old Z n0 h0) (S_cs : own_S_cs Z G1) (S_ad : own_S_ad Z) (S_hi : own_S_hi Z) (S_lo : own_S_lo Z) (P5 : ¬ (G1 = (0 : Int32))) :
    MetFree l MN34 (head1 (Jvm.Cond.code MN34 method_4_code 2 (some (.object "java/lang/String")) :: ws) (rK 6 4 20 150)) (fun a U => a = #[(.int p1), (.ref a2)] ∧ Z.Warmed39 U.vm ∧ U.heap = h0) (fun _ _ _ _ _ => True) (fun _ U o U' => ∃ v L, o = .returned v ∧ Q_rmk Z p1 a2 kc c0 c1 c2 c3 G1 h0 n0 v U'.heap L ∧ FrameEnd U o U' L (rK 6 4 20 150).cells (rK 6 4 20 150).slots) := by
  refine MetFree.of_bodySF (plainFor_of_name pn_63) hisR ?_
  intro p e s m args below meth c sB Bd hml0 hP hK
  obtain ⟨rfl, hZ, hh⟩ := hP
  have hx := Bd.exec
  have hby := Bd.bytes
  have hml : c.maxLocals = 2 := hml0
  have hown : s.vm.findClass "com/example/docs_into_rows/docsintorows/PrologDoctypePinLaw" = some m.cls := findClass_of_methodNamed Bd.named
  have X0 : Stand p l e (rK 6 4 20 150) s m #[(.int p1), (.ref a2)] below meth c sB [] 0 0 := Stand.of_body Bd
  have e0 : sB.heap = h0 := by rw [← hh, Bd.state]; rfl
  have N0 := Fr.nil n0
  change Go p.tables e below _ _
  have K0 := Keep.refl h0 []
  refine Go.on (B := sB.setTop (mkF m 0 #[vI p1, vR a2] [])) (fun t k => castTop (ef_ruc m p1 a2) k) ?_
  rcases hn with rfl | rfl | rfl | rfl
  · have hc1_1 : ¬ ((1 : Int32) = (0 : Int32)) := by decide
    have hc17_2 : (1 : Int32) = (1 : Int32) := by decide
    obtain ⟨T3, h3, X3, e3, Xe3, A3, D3, Ue3, st3⟩ := newO X0 hx hZ hown (gw hw 6 rfl) (gw hw 7 rfl) (gw hw 8 rfl) e0 (g := (mkF m 20 #[vI 1, vR a2] [])) rfl (hb hby d1_20) (by decide) (by decide)
    obtain ⟨b3, gq3⟩ : ∃ z, z = h0.size := ⟨_, rfl⟩
    rw [← gq3] at A3 D3 Ue3 st3
    have ge_b3 : n0 ≤ b3 := Nat.le_trans Z0 (Nat.le_of_eq gq3.symm)
    have sz_b3 : h0.size ≤ b3 := Nat.le_trans K0.1 (Nat.le_of_eq gq3.symm)
    have f1 := V2.ext Xe3
    have O_2 := O0.ext Xe3
    have Zs3 := Nat.le_trans Z0 Xe3.1
    have K4 := K0.ext Xe3
    have F3_value : Fld Z h3 b3 "java/lang/String" "value" "[B" .null := D3 (Or.inr (gw hw 21 rfl)) (ty := (.array .byte)) (by decide)
    have F3_coder : Fld Z h3 b3 "java/lang/String" "coder" "B" (.int 0) := D3 (Or.inr (gw hw 22 rfl)) (ty := .byte) (by decide)
    refine Go.on (B := T3.setTop (mkF m 23 #[vI 1, vR a2] [(.ref b3)])) (fun t k => XS.iloadN X0.here hx rfl (hb hby d1_0) rfl (XS.ifYes X0.here hx rfl (pc0 := 1) (pc' := 15) rfl (hb hby d1_1) rfl ((if0 _ _).trans (feq hc1_1).2) (by decide) (by decide) (XS.iloadN X0.here hx rfl (hb hby d1_15) rfl (XS.iconst X0.here hx rfl (hb hby d1_16) (XS.icmpNo X0.here hx rfl (hb hby d1_17) rfl (teq hc17_2).2 (st3 _ k)))))) ?_
    obtain ⟨T4, h4, kq4, X4, e4, Xe4, A4, st4⟩ := newP X3 hx hZ (gw hw 1 rfl) e3 (g := (mkF m 25 #[vI 1, vR a2] [(.int 1), (.ref b3), (.ref b3)])) rfl (hb hby d1_25) rfl (by decide) (cap := 1) (by decide) (by decide) (by decide) (by decide)
    obtain ⟨b4, gq4⟩ : ∃ z, z = h3.size := ⟨_, rfl⟩
    rw [← gq4] at A4 st4
    have ge_b4 : n0 ≤ b4 := Nat.le_trans Zs3 (Nat.le_of_eq gq4.symm)
    have sz_b4 : h0.size ≤ b4 := Nat.le_trans K4.1 (Nat.le_of_eq gq4.symm)
    have ne_b3_b4 : b3 ≠ b4 := Nat.ne_of_lt (Nat.lt_of_lt_of_le A3.lt (Nat.le_of_eq gq4.symm))
    have f5 := f1.ext Xe4
    have O_6 := O_2.ext Xe4
    have f7 := A3.ext Xe4
    have f8 := F3_value.ext Xe4
    have f9 := F3_coder.ext Xe4
    have Zs10 := Nat.le_trans Zs3 Xe4.1
    have K11 := K4.ext Xe4
    have V4 : Arv Z h4 b4 kq4 .char (1 : Int32) [(.int 0)] (.int 0) := (Arv.new A4 (by decide)).pad (pad_rep [] (.int 0) 1)
    refine Go.on (B := T4.setTop (mkF m 30 #[vI 1, vR a2] [(.ref a2), (.int 0), (.ref b4), (.ref b4), (.ref b3), (.ref b3)])) (fun t k => XS.dup X3.here hx rfl (hb hby d1_23) rfl rfl (XS.iconst X3.here hx rfl (hb hby d1_24) (st4 _ (XS.dup X4.here hx rfl (hb hby d1_27) rfl rfl (XS.iconst X4.here hx rfl (hb hby d1_28) (XS.aloadN X4.here hx rfl (hb hby d1_29) rfl rfl k)))))) ?_
    obtain ⟨cl5, Ar5, qq5, Sz5, Ng5, Hh5, Gg5⟩ := id f5
    have hin5 : ¬ ((0 : Int32) < 0 ∨ cl5.slots.size ≤ ((0 : Int32)).toNatClampNeg) := inb_of Sz5 ⟨by decide, by decide⟩
    have hat5 : cl5.slots[((0 : Int32)).toNatClampNeg]? = some (.int c0) := Hh5.at hin5 rfl
    obtain ⟨cl6, Ar6, qq6, Sz6, Ng6, Hh6, Gg6⟩ := id V4
    have hin6 : ¬ ((0 : Int32) < 0 ∨ cl6.slots.size ≤ ((0 : Int32)).toNatClampNeg) := inb_of Sz6 ⟨by decide, by decide⟩
    obtain ⟨T6, h6, X6, e6, W6, st6⟩ := stC X4 hx hZ e4 Ar6 (j := (0 : Int32)) hin6 (g := (mkF m 32 #[vI 1, vR a2] [(.int c0), (.int 0), (.ref b4), (.ref b4), (.ref b3), (.ref b3)])) rfl rfl (hb hby d1_32)
    have V6 : Arv Z h6 b4 kq4 .char (1 : Int32) [(.int (nar .char c0))] (.int 0) := Arv.set Ar6 qq6 Sz6 Ng6 Hh6 Gg6 (fits_nar_char _) W6 0 rfl (Nat.le_of_ble_eq_true rfl)
    have N6 := Fr.snoc X6 N0 ge_b4
    have O_13 := O_6.wr W6 ge_b4
    have f14 := f7.wr W6
    have f15 := f8.other W6 (Or.inl ne_b3_b4)
    have f16 := f9.other W6 (Or.inl ne_b3_b4)
    have Zs17 := Nat.le_trans Zs10 (Keep.of_wr W6).1
    have K18 := K11.wr W6 (Or.inr sz_b4)
    refine Go.on (B := T6.setTop (mkF m 33 #[vI 1, vR a2] [(.ref b4), (.ref b3), (.ref b3)])) (fun t k => XS.iconst X4.here hx rfl (hb hby d1_30) (X4.caload hx (j := (0 : Int32)) (v := (.int c0)) (by rw [e4]; exact Ar5.1) (State.isArrayOf_alike hZ.alike Ar5.2.1) Ar5.2.2 hin5 hat5 (g := (mkF m 31 #[vI 1, vR a2] [(.int 0), (.ref a2), (.int 0), (.ref b4), (.ref b4), (.ref b3), (.ref b3)])) rfl rfl (hb hby d1_31) _ (st6 _ k))) ?_
    rw [own_narc c0 hc0] at V6
    obtain ⟨_, _, ⟨T7, L7, k7, n7⟩, -, X7, ⟨Lc7, hQ7, lq7, yq7, zq7⟩, st7⟩ := X6.specialBack hx (y := MN31) rfl hown (mg hZ hw 9 rfl) (mg hZ hw 10 rfl) (mg hZ hw 11 rfl) (by decide) (backOf (W := 1) (ri1_1 l Z a0 hw [] b3 b4 kq4 c0 G1 h6 n0 Zs17 f14 f15 f16 ge_b3 V6 (Ne.symm ne_b3_b4) hc0 O_13 S_cs S_ad S_hi S_lo P5) hZ (gw hw 11 rfl) (gw hw 8 rfl) (by decide) (by decide)) (g := (mkF m 33 #[vI 1, vR a2] [(.ref b4), (.ref b3), (.ref b3)])) rfl (by rw [hml]; rfl) (Steps.refl _) (a := b3) (argsL := [(.ref b4)]) (rest := [(.ref b3)]) (lenOf pd_21 rfl) rfl (own_w rfl) (hb hby d1_33) (fun _ _ => ⟨rfl, e6, (by decide : 2 + 2 ≤ _), (by decide : 5 + 3 ≤ _)⟩)
    dsimp only [Pt.U, Pt.locs, Pt.cells, Pt.slots] at X7 lq7 yq7 zq7 st7 hQ7
    subst lq7 yq7 zq7
    rcases hQ7 with ⟨rfl, N7q, K7q, E7q, y7, ky7, sx7, Fv7, ⟨Fc7, Vy7, hx7_0⟩ | ⟨Fc7, Vy7⟩⟩
    · have N7 := Fr.app N6 N7q
      have K24 := K18.trans K7q (allS (Or.inr sz_b3) all0)
      refine Go.on (B := T7.setTop (mkF m 36 #[vI 1, vR a2] [(.ref b3)])) (fun t k => st7.trans k) ?_
      refine Go.fin X7 (v := some (.ref b3)) (own_nv Bd.returns) Bd.notSynchronized ?_ rfl ⟨⟨_, _, _, rfl, E7q, Fv7, Or.inl ⟨Fc7, Vy7, (own_allC hx7_0 own_all0)⟩⟩, N7, K24⟩ (by decide) (by decide)
      exact fun _ hr => retOut X7 hx Bd.returns rfl (Or.inr (Or.inr (Or.inr (Or.inr ⟨rfl, rfl, rfl⟩)))) (hb hby d1_36) hr
    · have N7 := Fr.app N6 N7q
      have K30 := K18.trans K7q (allS (Or.inr sz_b3) all0)
      refine Go.on (B := T7.setTop (mkF m 36 #[vI 1, vR a2] [(.ref b3)])) (fun t k => st7.trans k) ?_
      refine Go.fin X7 (v := some (.ref b3)) (own_nv Bd.returns) Bd.notSynchronized ?_ rfl ⟨⟨_, _, _, rfl, E7q, Fv7, Or.inr ⟨Fc7, Vy7⟩⟩, N7, K30⟩ (by decide) (by decide)
      exact fun _ hr => retOut X7 hx Bd.returns rfl (Or.inr (Or.inr (Or.inr (Or.inr ⟨rfl, rfl, rfl⟩)))) (hb hby d1_36) hr
  · have hc1_8 : ¬ ((2 : Int32) = (0 : Int32)) := by decide
    have hc17_9 : ¬ ((2 : Int32) = (1 : Int32)) := by decide
    refine Go.on (B := sB.setTop (mkF m 38 #[vI 2, vR a2] [(.int 2)])) (fun t k => XS.iloadN X0.here hx rfl (hb hby d1_0) rfl (XS.ifYes X0.here hx rfl (pc0 := 1) (pc' := 15) rfl (hb hby d1_1) rfl ((if0 _ _).trans (feq hc1_8).2) (by decide) (by decide) (XS.iloadN X0.here hx rfl (hb hby d1_15) rfl (XS.iconst X0.here hx rfl (hb hby d1_16) (XS.icmpYes X0.here hx rfl (pc0 := 17) (pc' := 37) rfl (hb hby d1_17) rfl (feq hc17_9).2 (by decide) (by decide) (XS.iloadN X0.here hx rfl (hb hby d1_37) rfl k)))))) ?_
    have hc39_10 : (2 : Int32) = (2 : Int32) := by decide
    obtain ⟨T11, h11, X11, e11, Xe11, A11, D11, Ue11, st11⟩ := newO X0 hx hZ hown (gw hw 6 rfl) (gw hw 7 rfl) (gw hw 8 rfl) e0 (g := (mkF m 42 #[vI 2, vR a2] [])) rfl (hb hby d1_42) (by decide) (by decide)
    obtain ⟨b11, gq11⟩ : ∃ z, z = h0.size := ⟨_, rfl⟩
    rw [← gq11] at A11 D11 Ue11 st11
    have ge_b11 : n0 ≤ b11 := Nat.le_trans Z0 (Nat.le_of_eq gq11.symm)
    have sz_b11 : h0.size ≤ b11 := Nat.le_trans K0.1 (Nat.le_of_eq gq11.symm)
    have f31 := V2.ext Xe11
    have O_32 := O0.ext Xe11
    have Zs33 := Nat.le_trans Z0 Xe11.1
    have K34 := K0.ext Xe11
    have F11_value : Fld Z h11 b11 "java/lang/String" "value" "[B" .null := D11 (Or.inr (gw hw 21 rfl)) (ty := (.array .byte)) (by decide)
    have F11_coder : Fld Z h11 b11 "java/lang/String" "coder" "B" (.int 0) := D11 (Or.inr (gw hw 22 rfl)) (ty := .byte) (by decide)
    obtain ⟨T12, h12, kq12, X12, e12, Xe12, A12, st12⟩ := newP X11 hx hZ (gw hw 1 rfl) e11 (g := (mkF m 47 #[vI 2, vR a2] [(.int 2), (.ref b11), (.ref b11)])) rfl (hb hby d1_47) rfl (by decide) (cap := 2) (by decide) (by decide) (by decide) (by decide)
    obtain ⟨b12, gq12⟩ : ∃ z, z = h11.size := ⟨_, rfl⟩
    rw [← gq12] at A12 st12
    have ge_b12 : n0 ≤ b12 := Nat.le_trans Zs33 (Nat.le_of_eq gq12.symm)
    have sz_b12 : h0.size ≤ b12 := Nat.le_trans K34.1 (Nat.le_of_eq gq12.symm)
    have ne_a2_b12 : a2 ≠ b12 := Nat.ne_of_lt (Nat.lt_of_lt_of_le f31.lt (Nat.le_of_eq gq12.symm))
    have ne_b11_b12 : b11 ≠ b12 := Nat.ne_of_lt (Nat.lt_of_lt_of_le A11.lt (Nat.le_of_eq gq12.symm))
    have f35 := f31.ext Xe12
    have O_36 := O_32.ext Xe12
    have f37 := A11.ext Xe12
    have f38 := F11_value.ext Xe12
    have f39 := F11_coder.ext Xe12
    have Zs40 := Nat.le_trans Zs33 Xe12.1
    have K41 := K34.ext Xe12
    have V12 : Arv Z h12 b12 kq12 .char (2 : Int32) [(.int 0), (.int 0)] (.int 0) := (Arv.new A12 (by decide)).pad (pad_rep [] (.int 0) 2)
    refine Go.on (B := T12.setTop (mkF m 49 #[vI 2, vR a2] [(.ref b12), (.ref b11), (.ref b11)])) (fun t k => XS.iconst X0.here hx rfl (hb hby d1_38) (XS.icmpNo X0.here hx rfl (hb hby d1_39) rfl (teq hc39_10).2 (st11 _ (XS.dup X11.here hx rfl (hb hby d1_45) rfl rfl (XS.iconst X11.here hx rfl (hb hby d1_46) (st12 _ k)))))) ?_
    obtain ⟨cl13, Ar13, qq13, Sz13, Ng13, Hh13, Gg13⟩ := id f35
    have hin13 : ¬ ((0 : Int32) < 0 ∨ cl13.slots.size ≤ ((0 : Int32)).toNatClampNeg) := inb_of Sz13 ⟨by decide, by decide⟩
    have hat13 : cl13.slots[((0 : Int32)).toNatClampNeg]? = some (.int c0) := Hh13.at hin13 rfl
    obtain ⟨cl14, Ar14, qq14, Sz14, Ng14, Hh14, Gg14⟩ := id V12
    have hin14 : ¬ ((0 : Int32) < 0 ∨ cl14.slots.size ≤ ((0 : Int32)).toNatClampNeg) := inb_of Sz14 ⟨by decide, by decide⟩
    obtain ⟨T14, h14, X14, e14, W14, st14⟩ := stC X12 hx hZ e12 Ar14 (j := (0 : Int32)) hin14 (g := (mkF m 54 #[vI 2, vR a2] [(.int c0), (.int 0), (.ref b12), (.ref b12), (.ref b11), (.ref b11)])) rfl rfl (hb hby d1_54)
    have V14 : Arv Z h14 b12 kq12 .char (2 : Int32) [(.int (nar .char c0)), (.int 0)] (.int 0) := Arv.set Ar14 qq14 Sz14 Ng14 Hh14 Gg14 (fits_nar_char _) W14 0 rfl (Nat.le_of_ble_eq_true rfl)
    have N14 := Fr.snoc X14 N0 ge_b12
    have f42 := f35.other W14 ne_a2_b12
    have O_43 := O_36.wr W14 ge_b12
    have f44 := f37.wr W14
    have f45 := f38.other W14 (Or.inl ne_b11_b12)
    have f46 := f39.other W14 (Or.inl ne_b11_b12)
    have Zs47 := Nat.le_trans Zs40 (Keep.of_wr W14).1
    have K48 := K41.wr W14 (Or.inr sz_b12)
    refine Go.on (B := T14.setTop (mkF m 55 #[vI 2, vR a2] [(.ref b12), (.ref b11), (.ref b11)])) (fun t k => XS.dup X12.here hx rfl (hb hby d1_49) rfl rfl (XS.iconst X12.here hx rfl (hb hby d1_50) (XS.aloadN X12.here hx rfl (hb hby d1_51) rfl rfl (XS.iconst X12.here hx rfl (hb hby d1_52) (X12.caload hx (j := (0 : Int32)) (v := (.int c0)) (by rw [e12]; exact Ar13.1) (State.isArrayOf_alike hZ.alike Ar13.2.1) Ar13.2.2 hin13 hat13 (g := (mkF m 53 #[vI 2, vR a2] [(.int 0), (.ref a2), (.int 0), (.ref b12), (.ref b12), (.ref b11), (.ref b11)])) rfl rfl (hb hby d1_53) _ (st14 _ k)))))) ?_
    obtain ⟨cl15, Ar15, qq15, Sz15, Ng15, Hh15, Gg15⟩ := id f42
    have hin15 : ¬ ((1 : Int32) < 0 ∨ cl15.slots.size ≤ ((1 : Int32)).toNatClampNeg) := inb_of Sz15 ⟨by decide, by decide⟩
    have hat15 : cl15.slots[((1 : Int32)).toNatClampNeg]? = some (.int c1) := Hh15.at hin15 rfl
    obtain ⟨cl16, Ar16, qq16, Sz16, Ng16, Hh16, Gg16⟩ := id V14
    have hin16 : ¬ ((1 : Int32) < 0 ∨ cl16.slots.size ≤ ((1 : Int32)).toNatClampNeg) := inb_of Sz16 ⟨by decide, by decide⟩
    obtain ⟨T16, h16, X16, e16, W16, st16⟩ := stC X14 hx hZ e14 Ar16 (j := (1 : Int32)) hin16 (g := (mkF m 60 #[vI 2, vR a2] [(.int c1), (.int 1), (.ref b12), (.ref b12), (.ref b11), (.ref b11)])) rfl rfl (hb hby d1_60)
    have V16 : Arv Z h16 b12 kq12 .char (2 : Int32) [(.int (nar .char c0)), (.int (nar .char c1))] (.int 0) := Arv.set Ar16 qq16 Sz16 Ng16 Hh16 Gg16 (fits_nar_char _) W16 1 rfl (Nat.le_of_ble_eq_true rfl)
    have N16 := Fr.snoc X16 N14 ge_b12
    have O_50 := O_43.wr W16 ge_b12
    have f51 := f44.wr W16
    have f52 := f45.other W16 (Or.inl ne_b11_b12)
    have f53 := f46.other W16 (Or.inl ne_b11_b12)
    have Zs54 := Nat.le_trans Zs47 (Keep.of_wr W16).1
    have K55 := K48.wr W16 (Or.inr sz_b12)
    refine Go.on (B := T16.setTop (mkF m 61 #[vI 2, vR a2] [(.ref b12), (.ref b11), (.ref b11)])) (fun t k => XS.dup X14.here hx rfl (hb hby d1_55) rfl rfl (XS.iconst X14.here hx rfl (hb hby d1_56) (XS.aloadN X14.here hx rfl (hb hby d1_57) rfl rfl (XS.iconst X14.here hx rfl (hb hby d1_58) (X14.caload hx (j := (1 : Int32)) (v := (.int c1)) (by rw [e14]; exact Ar15.1) (State.isArrayOf_alike hZ.alike Ar15.2.1) Ar15.2.2 hin15 hat15 (g := (mkF m 59 #[vI 2, vR a2] [(.int 1), (.ref a2), (.int 1), (.ref b12), (.ref b12), (.ref b11), (.ref b11)])) rfl rfl (hb hby d1_59) _ (st16 _ k)))))) ?_
    rw [own_narc c0 hc0, own_narc c1 hc1] at V16
    obtain ⟨_, _, ⟨T17, L17, k17, n17⟩, -, X17, ⟨Lc17, hQ17, lq17, yq17, zq17⟩, st17⟩ := X16.specialBack hx (y := MN31) rfl hown (mg hZ hw 9 rfl) (mg hZ hw 10 rfl) (mg hZ hw 11 rfl) (by decide) (backOf (W := 1) (ri1_2 l Z a0 hw [] b11 b12 kq12 c0 c1 G1 h16 n0 Zs54 f51 f52 f53 ge_b11 V16 (Ne.symm ne_b11_b12) hc0 hc1 O_50 S_cs S_ad S_hi S_lo P5) hZ (gw hw 11 rfl) (gw hw 8 rfl) (by decide) (by decide)) (g := (mkF m 61 #[vI 2, vR a2] [(.ref b12), (.ref b11), (.ref b11)])) rfl (by rw [hml]; rfl) (Steps.refl _) (a := b11) (argsL := [(.ref b12)]) (rest := [(.ref b11)]) (lenOf pd_21 rfl) rfl (own_w rfl) (hb hby d1_61) (fun _ _ => ⟨rfl, e16, (by decide : 2 + 2 ≤ _), (by decide : 6 + 6 ≤ _)⟩)
    dsimp only [Pt.U, Pt.locs, Pt.cells, Pt.slots] at X17 lq17 yq17 zq17 st17 hQ17
    subst lq17 yq17 zq17
    rcases hQ17 with ⟨rfl, N17q, K17q, E17q, y17, ky17, sx17, Fv17, ⟨Fc17, Vy17, hx17_0, hx17_1⟩ | ⟨Fc17, Vy17⟩⟩
    · have N17 := Fr.app N16 N17q
      have K61 := K55.trans K17q (allS (Or.inr sz_b11) all0)
      refine Go.on (B := T17.setTop (mkF m 64 #[vI 2, vR a2] [(.ref b11)])) (fun t k => st17.trans k) ?_
      refine Go.fin X17 (v := some (.ref b11)) (own_nv Bd.returns) Bd.notSynchronized ?_ rfl ⟨⟨_, _, _, rfl, E17q, Fv17, Or.inl ⟨Fc17, Vy17, (own_allC hx17_0 (own_allC hx17_1 own_all0))⟩⟩, N17, K61⟩ (by decide) (by decide)
      exact fun _ hr => retOut X17 hx Bd.returns rfl (Or.inr (Or.inr (Or.inr (Or.inr ⟨rfl, rfl, rfl⟩)))) (hb hby d1_64) hr
    · have N17 := Fr.app N16 N17q
      have K67 := K55.trans K17q (allS (Or.inr sz_b11) all0)
      refine Go.on (B := T17.setTop (mkF m 64 #[vI 2, vR a2] [(.ref b11)])) (fun t k => st17.trans k) ?_
      refine Go.fin X17 (v := some (.ref b11)) (own_nv Bd.returns) Bd.notSynchronized ?_ rfl ⟨⟨_, _, _, rfl, E17q, Fv17, Or.inr ⟨Fc17, Vy17⟩⟩, N17, K67⟩ (by decide) (by decide)
      exact fun _ hr => retOut X17 hx Bd.returns rfl (Or.inr (Or.inr (Or.inr (Or.inr ⟨rfl, rfl, rfl⟩)))) (hb hby d1_64) hr
  · have hc1_18 : ¬ ((3 : Int32) = (0 : Int32)) := by decide
    have hc17_19 : ¬ ((3 : Int32) = (1 : Int32)) := by decide
    refine Go.on (B := sB.setTop (mkF m 38 #[vI 3, vR a2] [(.int 3)])) (fun t k => XS.iloadN X0.here hx rfl (hb hby d1_0) rfl (XS.ifYes X0.here hx rfl (pc0 := 1) (pc' := 15) rfl (hb hby d1_1) rfl ((if0 _ _).trans (feq hc1_18).2) (by decide) (by decide) (XS.iloadN X0.here hx rfl (hb hby d1_15) rfl (XS.iconst X0.here hx rfl (hb hby d1_16) (XS.icmpYes X0.here hx rfl (pc0 := 17) (pc' := 37) rfl (hb hby d1_17) rfl (feq hc17_19).2 (by decide) (by decide) (XS.iloadN X0.here hx rfl (hb hby d1_37) rfl k)))))) ?_
    have hc39_20 : ¬ ((3 : Int32) = (2 : Int32)) := by decide
    have hc67_21 : (3 : Int32) = (3 : Int32) := by decide
    obtain ⟨T22, h22, X22, e22, Xe22, A22, D22, Ue22, st22⟩ := newO X0 hx hZ hown (gw hw 6 rfl) (gw hw 7 rfl) (gw hw 8 rfl) e0 (g := (mkF m 70 #[vI 3, vR a2] [])) rfl (hb hby d1_70) (by decide) (by decide)
    obtain ⟨b22, gq22⟩ : ∃ z, z = h0.size := ⟨_, rfl⟩
    rw [← gq22] at A22 D22 Ue22 st22
    have ge_b22 : n0 ≤ b22 := Nat.le_trans Z0 (Nat.le_of_eq gq22.symm)
    have sz_b22 : h0.size ≤ b22 := Nat.le_trans K0.1 (Nat.le_of_eq gq22.symm)
    have f68 := V2.ext Xe22
    have O_69 := O0.ext Xe22
    have Zs70 := Nat.le_trans Z0 Xe22.1
    have K71 := K0.ext Xe22
    have F22_value : Fld Z h22 b22 "java/lang/String" "value" "[B" .null := D22 (Or.inr (gw hw 21 rfl)) (ty := (.array .byte)) (by decide)
    have F22_coder : Fld Z h22 b22 "java/lang/String" "coder" "B" (.int 0) := D22 (Or.inr (gw hw 22 rfl)) (ty := .byte) (by decide)
    refine Go.on (B := T22.setTop (mkF m 73 #[vI 3, vR a2] [(.ref b22)])) (fun t k => XS.iconst X0.here hx rfl (hb hby d1_38) (XS.icmpYes X0.here hx rfl (pc0 := 39) (pc' := 65) rfl (hb hby d1_39) rfl (feq hc39_20).2 (by decide) (by decide) (XS.iloadN X0.here hx rfl (hb hby d1_65) rfl (XS.iconst X0.here hx rfl (hb hby d1_66) (XS.icmpNo X0.here hx rfl (hb hby d1_67) rfl (teq hc67_21).2 (st22 _ k)))))) ?_
    obtain ⟨T23, h23, kq23, X23, e23, Xe23, A23, st23⟩ := newP X22 hx hZ (gw hw 1 rfl) e22 (g := (mkF m 75 #[vI 3, vR a2] [(.int 3), (.ref b22), (.ref b22)])) rfl (hb hby d1_75) rfl (by decide) (cap := 3) (by decide) (by decide) (by decide) (by decide)
    obtain ⟨b23, gq23⟩ : ∃ z, z = h22.size := ⟨_, rfl⟩
    rw [← gq23] at A23 st23
    have ge_b23 : n0 ≤ b23 := Nat.le_trans Zs70 (Nat.le_of_eq gq23.symm)
    have sz_b23 : h0.size ≤ b23 := Nat.le_trans K71.1 (Nat.le_of_eq gq23.symm)
    have ne_a2_b23 : a2 ≠ b23 := Nat.ne_of_lt (Nat.lt_of_lt_of_le f68.lt (Nat.le_of_eq gq23.symm))
    have ne_b22_b23 : b22 ≠ b23 := Nat.ne_of_lt (Nat.lt_of_lt_of_le A22.lt (Nat.le_of_eq gq23.symm))
    have f72 := f68.ext Xe23
    have O_73 := O_69.ext Xe23
    have f74 := A22.ext Xe23
    have f75 := F22_value.ext Xe23
    have f76 := F22_coder.ext Xe23
    have Zs77 := Nat.le_trans Zs70 Xe23.1
    have K78 := K71.ext Xe23
    have V23 : Arv Z h23 b23 kq23 .char (3 : Int32) [(.int 0), (.int 0), (.int 0)] (.int 0) := (Arv.new A23 (by decide)).pad (pad_rep [] (.int 0) 3)
    refine Go.on (B := T23.setTop (mkF m 80 #[vI 3, vR a2] [(.ref a2), (.int 0), (.ref b23), (.ref b23), (.ref b22), (.ref b22)])) (fun t k => XS.dup X22.here hx rfl (hb hby d1_73) rfl rfl (XS.iconst X22.here hx rfl (hb hby d1_74) (st23 _ (XS.dup X23.here hx rfl (hb hby d1_77) rfl rfl (XS.iconst X23.here hx rfl (hb hby d1_78) (XS.aloadN X23.here hx rfl (hb hby d1_79) rfl rfl k)))))) ?_
    obtain ⟨cl24, Ar24, qq24, Sz24, Ng24, Hh24, Gg24⟩ := id f72
    have hin24 : ¬ ((0 : Int32) < 0 ∨ cl24.slots.size ≤ ((0 : Int32)).toNatClampNeg) := inb_of Sz24 ⟨by decide, by decide⟩
    have hat24 : cl24.slots[((0 : Int32)).toNatClampNeg]? = some (.int c0) := Hh24.at hin24 rfl
    obtain ⟨cl25, Ar25, qq25, Sz25, Ng25, Hh25, Gg25⟩ := id V23
    have hin25 : ¬ ((0 : Int32) < 0 ∨ cl25.slots.size ≤ ((0 : Int32)).toNatClampNeg) := inb_of Sz25 ⟨by decide, by decide⟩
    obtain ⟨T25, h25, X25, e25, W25, st25⟩ := stC X23 hx hZ e23 Ar25 (j := (0 : Int32)) hin25 (g := (mkF m 82 #[vI 3, vR a2] [(.int c0), (.int 0), (.ref b23), (.ref b23), (.ref b22), (.ref b22)])) rfl rfl (hb hby d1_82)
    have V25 : Arv Z h25 b23 kq23 .char (3 : Int32) [(.int (nar .char c0)), (.int 0), (.int 0)] (.int 0) := Arv.set Ar25 qq25 Sz25 Ng25 Hh25 Gg25 (fits_nar_char _) W25 0 rfl (Nat.le_of_ble_eq_true rfl)
    have N25 := Fr.snoc X25 N0 ge_b23
    have f79 := f72.other W25 ne_a2_b23
    have O_80 := O_73.wr W25 ge_b23
    have f81 := f74.wr W25
    have f82 := f75.other W25 (Or.inl ne_b22_b23)
    have f83 := f76.other W25 (Or.inl ne_b22_b23)
    have Zs84 := Nat.le_trans Zs77 (Keep.of_wr W25).1
    have K85 := K78.wr W25 (Or.inr sz_b23)
    refine Go.on (B := T25.setTop (mkF m 86 #[vI 3, vR a2] [(.ref a2), (.int 1), (.ref b23), (.ref b23), (.ref b22), (.ref b22)])) (fun t k => XS.iconst X23.here hx rfl (hb hby d1_80) (X23.caload hx (j := (0 : Int32)) (v := (.int c0)) (by rw [e23]; exact Ar24.1) (State.isArrayOf_alike hZ.alike Ar24.2.1) Ar24.2.2 hin24 hat24 (g := (mkF m 81 #[vI 3, vR a2] [(.int 0), (.ref a2), (.int 0), (.ref b23), (.ref b23), (.ref b22), (.ref b22)])) rfl rfl (hb hby d1_81) _ (st25 _ (XS.dup X25.here hx rfl (hb hby d1_83) rfl rfl (XS.iconst X25.here hx rfl (hb hby d1_84) (XS.aloadN X25.here hx rfl (hb hby d1_85) rfl rfl k)))))) ?_
    obtain ⟨cl26, Ar26, qq26, Sz26, Ng26, Hh26, Gg26⟩ := id f79
    have hin26 : ¬ ((1 : Int32) < 0 ∨ cl26.slots.size ≤ ((1 : Int32)).toNatClampNeg) := inb_of Sz26 ⟨by decide, by decide⟩
    have hat26 : cl26.slots[((1 : Int32)).toNatClampNeg]? = some (.int c1) := Hh26.at hin26 rfl
    obtain ⟨cl27, Ar27, qq27, Sz27, Ng27, Hh27, Gg27⟩ := id V25
    have hin27 : ¬ ((1 : Int32) < 0 ∨ cl27.slots.size ≤ ((1 : Int32)).toNatClampNeg) := inb_of Sz27 ⟨by decide, by decide⟩
    obtain ⟨T27, h27, X27, e27, W27, st27⟩ := stC X25 hx hZ e25 Ar27 (j := (1 : Int32)) hin27 (g := (mkF m 88 #[vI 3, vR a2] [(.int c1), (.int 1), (.ref b23), (.ref b23), (.ref b22), (.ref b22)])) rfl rfl (hb hby d1_88)
    have V27 : Arv Z h27 b23 kq23 .char (3 : Int32) [(.int (nar .char c0)), (.int (nar .char c1)), (.int 0)] (.int 0) := Arv.set Ar27 qq27 Sz27 Ng27 Hh27 Gg27 (fits_nar_char _) W27 1 rfl (Nat.le_of_ble_eq_true rfl)
    have N27 := Fr.snoc X27 N25 ge_b23
    have f86 := f79.other W27 ne_a2_b23
    have O_87 := O_80.wr W27 ge_b23
    have f88 := f81.wr W27
    have f89 := f82.other W27 (Or.inl ne_b22_b23)
    have f90 := f83.other W27 (Or.inl ne_b22_b23)
    have Zs91 := Nat.le_trans Zs84 (Keep.of_wr W27).1
    have K92 := K85.wr W27 (Or.inr sz_b23)
    refine Go.on (B := T27.setTop (mkF m 92 #[vI 3, vR a2] [(.ref a2), (.int 2), (.ref b23), (.ref b23), (.ref b22), (.ref b22)])) (fun t k => XS.iconst X25.here hx rfl (hb hby d1_86) (X25.caload hx (j := (1 : Int32)) (v := (.int c1)) (by rw [e25]; exact Ar26.1) (State.isArrayOf_alike hZ.alike Ar26.2.1) Ar26.2.2 hin26 hat26 (g := (mkF m 87 #[vI 3, vR a2] [(.int 1), (.ref a2), (.int 1), (.ref b23), (.ref b23), (.ref b22), (.ref b22)])) rfl rfl (hb hby d1_87) _ (st27 _ (XS.dup X27.here hx rfl (hb hby d1_89) rfl rfl (XS.iconst X27.here hx rfl (hb hby d1_90) (XS.aloadN X27.here hx rfl (hb hby d1_91) rfl rfl k)))))) ?_
    obtain ⟨cl28, Ar28, qq28, Sz28, Ng28, Hh28, Gg28⟩ := id f86
    have hin28 : ¬ ((2 : Int32) < 0 ∨ cl28.slots.size ≤ ((2 : Int32)).toNatClampNeg) := inb_of Sz28 ⟨by decide, by decide⟩
    have hat28 : cl28.slots[((2 : Int32)).toNatClampNeg]? = some (.int c2) := Hh28.at hin28 rfl
    obtain ⟨cl29, Ar29, qq29, Sz29, Ng29, Hh29, Gg29⟩ := id V27
    have hin29 : ¬ ((2 : Int32) < 0 ∨ cl29.slots.size ≤ ((2 : Int32)).toNatClampNeg) := inb_of Sz29 ⟨by decide, by decide⟩
    obtain ⟨T29, h29, X29, e29, W29, st29⟩ := stC X27 hx hZ e27 Ar29 (j := (2 : Int32)) hin29 (g := (mkF m 94 #[vI 3, vR a2] [(.int c2), (.int 2), (.ref b23), (.ref b23), (.ref b22), (.ref b22)])) rfl rfl (hb hby d1_94)
    have V29 : Arv Z h29 b23 kq23 .char (3 : Int32) [(.int (nar .char c0)), (.int (nar .char c1)), (.int (nar .char c2))] (.int 0) := Arv.set Ar29 qq29 Sz29 Ng29 Hh29 Gg29 (fits_nar_char _) W29 2 rfl (Nat.le_of_ble_eq_true rfl)
    have N29 := Fr.snoc X29 N27 ge_b23
    have O_94 := O_87.wr W29 ge_b23
    have f95 := f88.wr W29
    have f96 := f89.other W29 (Or.inl ne_b22_b23)
    have f97 := f90.other W29 (Or.inl ne_b22_b23)
    have Zs98 := Nat.le_trans Zs91 (Keep.of_wr W29).1
    have K99 := K92.wr W29 (Or.inr sz_b23)
    refine Go.on (B := T29.setTop (mkF m 95 #[vI 3, vR a2] [(.ref b23), (.ref b22), (.ref b22)])) (fun t k => XS.iconst X27.here hx rfl (hb hby d1_92) (X27.caload hx (j := (2 : Int32)) (v := (.int c2)) (by rw [e27]; exact Ar28.1) (State.isArrayOf_alike hZ.alike Ar28.2.1) Ar28.2.2 hin28 hat28 (g := (mkF m 93 #[vI 3, vR a2] [(.int 2), (.ref a2), (.int 2), (.ref b23), (.ref b23), (.ref b22), (.ref b22)])) rfl rfl (hb hby d1_93) _ (st29 _ k))) ?_
    rw [own_narc c0 hc0, own_narc c1 hc1, own_narc c2 hc2] at V29
    obtain ⟨_, _, ⟨T30, L30, k30, n30⟩, -, X30, ⟨Lc30, hQ30, lq30, yq30, zq30⟩, st30⟩ := X29.specialBack hx (y := MN31) rfl hown (mg hZ hw 9 rfl) (mg hZ hw 10 rfl) (mg hZ hw 11 rfl) (by decide) (backOf (W := 1) (ri1_3 l Z a0 hw [] b22 b23 kq23 c0 c1 c2 G1 h29 n0 Zs98 f95 f96 f97 ge_b22 V29 (Ne.symm ne_b22_b23) hc0 hc1 hc2 O_94 S_cs S_ad S_hi S_lo P5) hZ (gw hw 11 rfl) (gw hw 8 rfl) (by decide) (by decide)) (g := (mkF m 95 #[vI 3, vR a2] [(.ref b23), (.ref b22), (.ref b22)])) rfl (by rw [hml]; rfl) (Steps.refl _) (a := b22) (argsL := [(.ref b23)]) (rest := [(.ref b22)]) (lenOf pd_21 rfl) rfl (own_w rfl) (hb hby d1_95) (fun _ _ => ⟨rfl, e29, (by decide : 2 + 2 ≤ _), (by decide : 7 + 9 ≤ _)⟩)
    dsimp only [Pt.U, Pt.locs, Pt.cells, Pt.slots] at X30 lq30 yq30 zq30 st30 hQ30
    subst lq30 yq30 zq30
    rcases hQ30 with ⟨rfl, N30q, K30q, E30q, y30, ky30, sx30, Fv30, ⟨Fc30, Vy30, hx30_0, hx30_1, hx30_2⟩ | ⟨Fc30, Vy30⟩⟩
    · have N30 := Fr.app N29 N30q
      have K105 := K99.trans K30q (allS (Or.inr sz_b22) all0)
      refine Go.on (B := T30.setTop (mkF m 98 #[vI 3, vR a2] [(.ref b22)])) (fun t k => st30.trans k) ?_
      refine Go.fin X30 (v := some (.ref b22)) (own_nv Bd.returns) Bd.notSynchronized ?_ rfl ⟨⟨_, _, _, rfl, E30q, Fv30, Or.inl ⟨Fc30, Vy30, (own_allC hx30_0 (own_allC hx30_1 (own_allC hx30_2 own_all0)))⟩⟩, N30, K105⟩ (by decide) (by decide)
      exact fun _ hr => retOut X30 hx Bd.returns rfl (Or.inr (Or.inr (Or.inr (Or.inr ⟨rfl, rfl, rfl⟩)))) (hb hby d1_98) hr
    · have N30 := Fr.app N29 N30q
      have K111 := K99.trans K30q (allS (Or.inr sz_b22) all0)
      refine Go.on (B := T30.setTop (mkF m 98 #[vI 3, vR a2] [(.ref b22)])) (fun t k => st30.trans k) ?_
      refine Go.fin X30 (v := some (.ref b22)) (own_nv Bd.returns) Bd.notSynchronized ?_ rfl ⟨⟨_, _, _, rfl, E30q, Fv30, Or.inr ⟨Fc30, Vy30⟩⟩, N30, K111⟩ (by decide) (by decide)
      exact fun _ hr => retOut X30 hx Bd.returns rfl (Or.inr (Or.inr (Or.inr (Or.inr ⟨rfl, rfl, rfl⟩)))) (hb hby d1_98) hr
  · have hc1_31 : ¬ ((4 : Int32) = (0 : Int32)) := by decide
    have hc17_32 : ¬ ((4 : Int32) = (1 : Int32)) := by decide
    refine Go.on (B := sB.setTop (mkF m 38 #[vI 4, vR a2] [(.int 4)])) (fun t k => XS.iloadN X0.here hx rfl (hb hby d1_0) rfl (XS.ifYes X0.here hx rfl (pc0 := 1) (pc' := 15) rfl (hb hby d1_1) rfl ((if0 _ _).trans (feq hc1_31).2) (by decide) (by decide) (XS.iloadN X0.here hx rfl (hb hby d1_15) rfl (XS.iconst X0.here hx rfl (hb hby d1_16) (XS.icmpYes X0.here hx rfl (pc0 := 17) (pc' := 37) rfl (hb hby d1_17) rfl (feq hc17_32).2 (by decide) (by decide) (XS.iloadN X0.here hx rfl (hb hby d1_37) rfl k)))))) ?_
    have hc39_33 : ¬ ((4 : Int32) = (2 : Int32)) := by decide
    have hc67_34 : ¬ ((4 : Int32) = (3 : Int32)) := by decide
    obtain ⟨T35, h35, X35, e35, Xe35, A35, D35, Ue35, st35⟩ := newO X0 hx hZ hown (gw hw 6 rfl) (gw hw 7 rfl) (gw hw 8 rfl) e0 (g := (mkF m 99 #[vI 4, vR a2] [])) rfl (hb hby d1_99) (by decide) (by decide)
    obtain ⟨b35, gq35⟩ : ∃ z, z = h0.size := ⟨_, rfl⟩
    rw [← gq35] at A35 D35 Ue35 st35
    have ge_b35 : n0 ≤ b35 := Nat.le_trans Z0 (Nat.le_of_eq gq35.symm)
    have sz_b35 : h0.size ≤ b35 := Nat.le_trans K0.1 (Nat.le_of_eq gq35.symm)
    have f112 := V2.ext Xe35
    have O_113 := O0.ext Xe35
    have Zs114 := Nat.le_trans Z0 Xe35.1
    have K115 := K0.ext Xe35
    have F35_value : Fld Z h35 b35 "java/lang/String" "value" "[B" .null := D35 (Or.inr (gw hw 21 rfl)) (ty := (.array .byte)) (by decide)
    have F35_coder : Fld Z h35 b35 "java/lang/String" "coder" "B" (.int 0) := D35 (Or.inr (gw hw 22 rfl)) (ty := .byte) (by decide)
    refine Go.on (B := T35.setTop (mkF m 102 #[vI 4, vR a2] [(.ref b35)])) (fun t k => XS.iconst X0.here hx rfl (hb hby d1_38) (XS.icmpYes X0.here hx rfl (pc0 := 39) (pc' := 65) rfl (hb hby d1_39) rfl (feq hc39_33).2 (by decide) (by decide) (XS.iloadN X0.here hx rfl (hb hby d1_65) rfl (XS.iconst X0.here hx rfl (hb hby d1_66) (XS.icmpYes X0.here hx rfl (pc0 := 67) (pc' := 99) rfl (hb hby d1_67) rfl (feq hc67_34).2 (by decide) (by decide) (st35 _ k)))))) ?_
    obtain ⟨T36, h36, kq36, X36, e36, Xe36, A36, st36⟩ := newP X35 hx hZ (gw hw 1 rfl) e35 (g := (mkF m 104 #[vI 4, vR a2] [(.int 4), (.ref b35), (.ref b35)])) rfl (hb hby d1_104) rfl (by decide) (cap := 4) (by decide) (by decide) (by decide) (by decide)
    obtain ⟨b36, gq36⟩ : ∃ z, z = h35.size := ⟨_, rfl⟩
    rw [← gq36] at A36 st36
    have ge_b36 : n0 ≤ b36 := Nat.le_trans Zs114 (Nat.le_of_eq gq36.symm)
    have sz_b36 : h0.size ≤ b36 := Nat.le_trans K115.1 (Nat.le_of_eq gq36.symm)
    have ne_a2_b36 : a2 ≠ b36 := Nat.ne_of_lt (Nat.lt_of_lt_of_le f112.lt (Nat.le_of_eq gq36.symm))
    have ne_b35_b36 : b35 ≠ b36 := Nat.ne_of_lt (Nat.lt_of_lt_of_le A35.lt (Nat.le_of_eq gq36.symm))
    have f116 := f112.ext Xe36
    have O_117 := O_113.ext Xe36
    have f118 := A35.ext Xe36
    have f119 := F35_value.ext Xe36
    have f120 := F35_coder.ext Xe36
    have Zs121 := Nat.le_trans Zs114 Xe36.1
    have K122 := K115.ext Xe36
    have V36 : Arv Z h36 b36 kq36 .char (4 : Int32) [(.int 0), (.int 0), (.int 0), (.int 0)] (.int 0) := (Arv.new A36 (by decide)).pad (pad_rep [] (.int 0) 4)
    refine Go.on (B := T36.setTop (mkF m 109 #[vI 4, vR a2] [(.ref a2), (.int 0), (.ref b36), (.ref b36), (.ref b35), (.ref b35)])) (fun t k => XS.dup X35.here hx rfl (hb hby d1_102) rfl rfl (XS.iconst X35.here hx rfl (hb hby d1_103) (st36 _ (XS.dup X36.here hx rfl (hb hby d1_106) rfl rfl (XS.iconst X36.here hx rfl (hb hby d1_107) (XS.aloadN X36.here hx rfl (hb hby d1_108) rfl rfl k)))))) ?_
    obtain ⟨cl37, Ar37, qq37, Sz37, Ng37, Hh37, Gg37⟩ := id f116
    have hin37 : ¬ ((0 : Int32) < 0 ∨ cl37.slots.size ≤ ((0 : Int32)).toNatClampNeg) := inb_of Sz37 ⟨by decide, by decide⟩
    have hat37 : cl37.slots[((0 : Int32)).toNatClampNeg]? = some (.int c0) := Hh37.at hin37 rfl
    obtain ⟨cl38, Ar38, qq38, Sz38, Ng38, Hh38, Gg38⟩ := id V36
    have hin38 : ¬ ((0 : Int32) < 0 ∨ cl38.slots.size ≤ ((0 : Int32)).toNatClampNeg) := inb_of Sz38 ⟨by decide, by decide⟩
    obtain ⟨T38, h38, X38, e38, W38, st38⟩ := stC X36 hx hZ e36 Ar38 (j := (0 : Int32)) hin38 (g := (mkF m 111 #[vI 4, vR a2] [(.int c0), (.int 0), (.ref b36), (.ref b36), (.ref b35), (.ref b35)])) rfl rfl (hb hby d1_111)
    have V38 : Arv Z h38 b36 kq36 .char (4 : Int32) [(.int (nar .char c0)), (.int 0), (.int 0), (.int 0)] (.int 0) := Arv.set Ar38 qq38 Sz38 Ng38 Hh38 Gg38 (fits_nar_char _) W38 0 rfl (Nat.le_of_ble_eq_true rfl)
    have N38 := Fr.snoc X38 N0 ge_b36
    have f123 := f116.other W38 ne_a2_b36
    have O_124 := O_117.wr W38 ge_b36
    have f125 := f118.wr W38
    have f126 := f119.other W38 (Or.inl ne_b35_b36)
    have f127 := f120.other W38 (Or.inl ne_b35_b36)
    have Zs128 := Nat.le_trans Zs121 (Keep.of_wr W38).1
    have K129 := K122.wr W38 (Or.inr sz_b36)
    refine Go.on (B := T38.setTop (mkF m 115 #[vI 4, vR a2] [(.ref a2), (.int 1), (.ref b36), (.ref b36), (.ref b35), (.ref b35)])) (fun t k => XS.iconst X36.here hx rfl (hb hby d1_109) (X36.caload hx (j := (0 : Int32)) (v := (.int c0)) (by rw [e36]; exact Ar37.1) (State.isArrayOf_alike hZ.alike Ar37.2.1) Ar37.2.2 hin37 hat37 (g := (mkF m 110 #[vI 4, vR a2] [(.int 0), (.ref a2), (.int 0), (.ref b36), (.ref b36), (.ref b35), (.ref b35)])) rfl rfl (hb hby d1_110) _ (st38 _ (XS.dup X38.here hx rfl (hb hby d1_112) rfl rfl (XS.iconst X38.here hx rfl (hb hby d1_113) (XS.aloadN X38.here hx rfl (hb hby d1_114) rfl rfl k)))))) ?_
    obtain ⟨cl39, Ar39, qq39, Sz39, Ng39, Hh39, Gg39⟩ := id f123
    have hin39 : ¬ ((1 : Int32) < 0 ∨ cl39.slots.size ≤ ((1 : Int32)).toNatClampNeg) := inb_of Sz39 ⟨by decide, by decide⟩
    have hat39 : cl39.slots[((1 : Int32)).toNatClampNeg]? = some (.int c1) := Hh39.at hin39 rfl
    obtain ⟨cl40, Ar40, qq40, Sz40, Ng40, Hh40, Gg40⟩ := id V38
    have hin40 : ¬ ((1 : Int32) < 0 ∨ cl40.slots.size ≤ ((1 : Int32)).toNatClampNeg) := inb_of Sz40 ⟨by decide, by decide⟩
    obtain ⟨T40, h40, X40, e40, W40, st40⟩ := stC X38 hx hZ e38 Ar40 (j := (1 : Int32)) hin40 (g := (mkF m 117 #[vI 4, vR a2] [(.int c1), (.int 1), (.ref b36), (.ref b36), (.ref b35), (.ref b35)])) rfl rfl (hb hby d1_117)
    have V40 : Arv Z h40 b36 kq36 .char (4 : Int32) [(.int (nar .char c0)), (.int (nar .char c1)), (.int 0), (.int 0)] (.int 0) := Arv.set Ar40 qq40 Sz40 Ng40 Hh40 Gg40 (fits_nar_char _) W40 1 rfl (Nat.le_of_ble_eq_true rfl)
    have N40 := Fr.snoc X40 N38 ge_b36
    have f130 := f123.other W40 ne_a2_b36
    have O_131 := O_124.wr W40 ge_b36
    have f132 := f125.wr W40
    have f133 := f126.other W40 (Or.inl ne_b35_b36)
    have f134 := f127.other W40 (Or.inl ne_b35_b36)
    have Zs135 := Nat.le_trans Zs128 (Keep.of_wr W40).1
    have K136 := K129.wr W40 (Or.inr sz_b36)
    refine Go.on (B := T40.setTop (mkF m 121 #[vI 4, vR a2] [(.ref a2), (.int 2), (.ref b36), (.ref b36), (.ref b35), (.ref b35)])) (fun t k => XS.iconst X38.here hx rfl (hb hby d1_115) (X38.caload hx (j := (1 : Int32)) (v := (.int c1)) (by rw [e38]; exact Ar39.1) (State.isArrayOf_alike hZ.alike Ar39.2.1) Ar39.2.2 hin39 hat39 (g := (mkF m 116 #[vI 4, vR a2] [(.int 1), (.ref a2), (.int 1), (.ref b36), (.ref b36), (.ref b35), (.ref b35)])) rfl rfl (hb hby d1_116) _ (st40 _ (XS.dup X40.here hx rfl (hb hby d1_118) rfl rfl (XS.iconst X40.here hx rfl (hb hby d1_119) (XS.aloadN X40.here hx rfl (hb hby d1_120) rfl rfl k)))))) ?_
    obtain ⟨cl41, Ar41, qq41, Sz41, Ng41, Hh41, Gg41⟩ := id f130
    have hin41 : ¬ ((2 : Int32) < 0 ∨ cl41.slots.size ≤ ((2 : Int32)).toNatClampNeg) := inb_of Sz41 ⟨by decide, by decide⟩
    have hat41 : cl41.slots[((2 : Int32)).toNatClampNeg]? = some (.int c2) := Hh41.at hin41 rfl
    obtain ⟨cl42, Ar42, qq42, Sz42, Ng42, Hh42, Gg42⟩ := id V40
    have hin42 : ¬ ((2 : Int32) < 0 ∨ cl42.slots.size ≤ ((2 : Int32)).toNatClampNeg) := inb_of Sz42 ⟨by decide, by decide⟩
    obtain ⟨T42, h42, X42, e42, W42, st42⟩ := stC X40 hx hZ e40 Ar42 (j := (2 : Int32)) hin42 (g := (mkF m 123 #[vI 4, vR a2] [(.int c2), (.int 2), (.ref b36), (.ref b36), (.ref b35), (.ref b35)])) rfl rfl (hb hby d1_123)
    have V42 : Arv Z h42 b36 kq36 .char (4 : Int32) [(.int (nar .char c0)), (.int (nar .char c1)), (.int (nar .char c2)), (.int 0)] (.int 0) := Arv.set Ar42 qq42 Sz42 Ng42 Hh42 Gg42 (fits_nar_char _) W42 2 rfl (Nat.le_of_ble_eq_true rfl)
    have N42 := Fr.snoc X42 N40 ge_b36
    have f137 := f130.other W42 ne_a2_b36
    have O_138 := O_131.wr W42 ge_b36
    have f139 := f132.wr W42
    have f140 := f133.other W42 (Or.inl ne_b35_b36)
    have f141 := f134.other W42 (Or.inl ne_b35_b36)
    have Zs142 := Nat.le_trans Zs135 (Keep.of_wr W42).1
    have K143 := K136.wr W42 (Or.inr sz_b36)
    refine Go.on (B := T42.setTop (mkF m 127 #[vI 4, vR a2] [(.ref a2), (.int 3), (.ref b36), (.ref b36), (.ref b35), (.ref b35)])) (fun t k => XS.iconst X40.here hx rfl (hb hby d1_121) (X40.caload hx (j := (2 : Int32)) (v := (.int c2)) (by rw [e40]; exact Ar41.1) (State.isArrayOf_alike hZ.alike Ar41.2.1) Ar41.2.2 hin41 hat41 (g := (mkF m 122 #[vI 4, vR a2] [(.int 2), (.ref a2), (.int 2), (.ref b36), (.ref b36), (.ref b35), (.ref b35)])) rfl rfl (hb hby d1_122) _ (st42 _ (XS.dup X42.here hx rfl (hb hby d1_124) rfl rfl (XS.iconst X42.here hx rfl (hb hby d1_125) (XS.aloadN X42.here hx rfl (hb hby d1_126) rfl rfl k)))))) ?_
    obtain ⟨cl43, Ar43, qq43, Sz43, Ng43, Hh43, Gg43⟩ := id f137
    have hin43 : ¬ ((3 : Int32) < 0 ∨ cl43.slots.size ≤ ((3 : Int32)).toNatClampNeg) := inb_of Sz43 ⟨by decide, by decide⟩
    have hat43 : cl43.slots[((3 : Int32)).toNatClampNeg]? = some (.int c3) := Hh43.at hin43 rfl
    obtain ⟨cl44, Ar44, qq44, Sz44, Ng44, Hh44, Gg44⟩ := id V42
    have hin44 : ¬ ((3 : Int32) < 0 ∨ cl44.slots.size ≤ ((3 : Int32)).toNatClampNeg) := inb_of Sz44 ⟨by decide, by decide⟩
    obtain ⟨T44, h44, X44, e44, W44, st44⟩ := stC X42 hx hZ e42 Ar44 (j := (3 : Int32)) hin44 (g := (mkF m 129 #[vI 4, vR a2] [(.int c3), (.int 3), (.ref b36), (.ref b36), (.ref b35), (.ref b35)])) rfl rfl (hb hby d1_129)
    have V44 : Arv Z h44 b36 kq36 .char (4 : Int32) [(.int (nar .char c0)), (.int (nar .char c1)), (.int (nar .char c2)), (.int (nar .char c3))] (.int 0) := Arv.set Ar44 qq44 Sz44 Ng44 Hh44 Gg44 (fits_nar_char _) W44 3 rfl (Nat.le_of_ble_eq_true rfl)
    have N44 := Fr.snoc X44 N42 ge_b36
    have O_145 := O_138.wr W44 ge_b36
    have f146 := f139.wr W44
    have f147 := f140.other W44 (Or.inl ne_b35_b36)
    have f148 := f141.other W44 (Or.inl ne_b35_b36)
    have Zs149 := Nat.le_trans Zs142 (Keep.of_wr W44).1
    have K150 := K143.wr W44 (Or.inr sz_b36)
    refine Go.on (B := T44.setTop (mkF m 130 #[vI 4, vR a2] [(.ref b36), (.ref b35), (.ref b35)])) (fun t k => XS.iconst X42.here hx rfl (hb hby d1_127) (X42.caload hx (j := (3 : Int32)) (v := (.int c3)) (by rw [e42]; exact Ar43.1) (State.isArrayOf_alike hZ.alike Ar43.2.1) Ar43.2.2 hin43 hat43 (g := (mkF m 128 #[vI 4, vR a2] [(.int 3), (.ref a2), (.int 3), (.ref b36), (.ref b36), (.ref b35), (.ref b35)])) rfl rfl (hb hby d1_128) _ (st44 _ k))) ?_
    rw [own_narc c0 hc0, own_narc c1 hc1, own_narc c2 hc2, own_narc c3 hc3] at V44
    obtain ⟨_, _, ⟨T45, L45, k45, n45⟩, -, X45, ⟨Lc45, hQ45, lq45, yq45, zq45⟩, st45⟩ := X44.specialBack hx (y := MN31) rfl hown (mg hZ hw 9 rfl) (mg hZ hw 10 rfl) (mg hZ hw 11 rfl) (by decide) (backOf (W := 1) (ri1_4 l Z a0 hw [] b35 b36 kq36 c0 c1 c2 c3 G1 h44 n0 Zs149 f146 f147 f148 ge_b35 V44 (Ne.symm ne_b35_b36) hc0 hc1 hc2 hc3 O_145 S_cs S_ad S_hi S_lo P5) hZ (gw hw 11 rfl) (gw hw 8 rfl) (by decide) (by decide)) (g := (mkF m 130 #[vI 4, vR a2] [(.ref b36), (.ref b35), (.ref b35)])) rfl (by rw [hml]; rfl) (Steps.refl _) (a := b35) (argsL := [(.ref b36)]) (rest := [(.ref b35)]) (lenOf pd_21 rfl) rfl (own_w rfl) (hb hby d1_130) (fun _ _ => ⟨rfl, e44, (by decide : 2 + 2 ≤ _), (by decide : 8 + 12 ≤ _)⟩)
    dsimp only [Pt.U, Pt.locs, Pt.cells, Pt.slots] at X45 lq45 yq45 zq45 st45 hQ45
    subst lq45 yq45 zq45
    rcases hQ45 with ⟨rfl, N45q, K45q, E45q, y45, ky45, sx45, Fv45, ⟨Fc45, Vy45, hx45_0, hx45_1, hx45_2, hx45_3⟩ | ⟨Fc45, Vy45⟩⟩
    · have N45 := Fr.app N44 N45q
      have K156 := K150.trans K45q (allS (Or.inr sz_b35) all0)
      refine Go.on (B := T45.setTop (mkF m 133 #[vI 4, vR a2] [(.ref b35)])) (fun t k => st45.trans k) ?_
      refine Go.fin X45 (v := some (.ref b35)) (own_nv Bd.returns) Bd.notSynchronized ?_ rfl ⟨⟨_, _, _, rfl, E45q, Fv45, Or.inl ⟨Fc45, Vy45, (own_allC hx45_0 (own_allC hx45_1 (own_allC hx45_2 (own_allC hx45_3 own_all0))))⟩⟩, N45, K156⟩ (by decide) (by decide)
      exact fun _ hr => retOut X45 hx Bd.returns rfl (Or.inr (Or.inr (Or.inr (Or.inr ⟨rfl, rfl, rfl⟩)))) (hb hby d1_133) hr
    · have N45 := Fr.app N44 N45q
      have K162 := K150.trans K45q (allS (Or.inr sz_b35) all0)
      refine Go.on (B := T45.setTop (mkF m 133 #[vI 4, vR a2] [(.ref b35)])) (fun t k => st45.trans k) ?_
      refine Go.fin X45 (v := some (.ref b35)) (own_nv Bd.returns) Bd.notSynchronized ?_ rfl ⟨⟨_, _, _, rfl, E45q, Fv45, Or.inr ⟨Fc45, Vy45⟩⟩, N45, K162⟩ (by decide) (by decide)
      exact fun _ hr => retOut X45 hx Bd.returns rfl (Or.inr (Or.inr (Or.inr (Or.inr ⟨rfl, rfl, rfl⟩)))) (hb hby d1_133) hr
theorem d11_0 : decode BC16 0 = .ok (.aload_n 0, 1) := by decide +kernel
theorem d11_1 : decode BC16 1 = .ok (.invokevirtual 505, 3) := by decide +kernel
theorem d11_4 : decode BC16 4 = .ok (.istore_n 3, 1) := by decide +kernel
theorem d11_5 : decode BC16 5 = .ok (.iload_n 1, 1) := by decide +kernel
theorem d11_6 : decode BC16 6 = .ok (.iload_n 2, 1) := by decide +kernel
theorem d11_7 : decode BC16 7 = .ok (.iload_n 3, 1) := by decide +kernel
theorem d11_8 : decode BC16 8 = .ok (.invokestatic 521, 3) := by decide +kernel
theorem d11_11 : decode BC16 11 = .ok (.iload_n 1, 1) := by decide +kernel
theorem d11_12 : decode BC16 12 = .ok (.ifCond .ne 10, 3) := by decide +kernel
theorem d11_15 : decode BC16 15 = .ok (.iload_n 2, 1) := by decide +kernel
theorem d11_16 : decode BC16 16 = .ok (.iload_n 3, 1) := by decide +kernel
theorem d11_17 : decode BC16 17 = .ok (.if_icmp .ne 5, 3) := by decide +kernel
theorem d11_20 : decode BC16 20 = .ok (.aload_n 0, 1) := by decide +kernel
theorem d11_21 : decode BC16 21 = .ok (.areturn, 1) := by decide +kernel
theorem d11_22 : decode BC16 22 = .ok (.iload_n 2, 1) := by decide +kernel
theorem d11_23 : decode BC16 23 = .ok (.iload_n 1, 1) := by decide +kernel
theorem d11_24 : decode BC16 24 = .ok (.isub, 1) := by decide +kernel
theorem d11_25 : decode BC16 25 = .ok (.istore 4, 2) := by decide +kernel
theorem d11_27 : decode BC16 27 = .ok (.aload_n 0, 1) := by decide +kernel
theorem d11_28 : decode BC16 28 = .ok (.invokevirtual 492, 3) := by decide +kernel
theorem d11_31 : decode BC16 31 = .ok (.ifCond .eq 16, 3) := by decide +kernel
theorem d11_34 : decode BC16 34 = .ok (.aload_n 0, 1) := by decide +kernel
theorem d11_35 : decode BC16 35 = .ok (.getfield 9, 3) := by decide +kernel
theorem d11_38 : decode BC16 38 = .ok (.iload_n 1, 1) := by decide +kernel
theorem d11_39 : decode BC16 39 = .ok (.iload 4, 2) := by decide +kernel
theorem d11_41 : decode BC16 41 = .ok (.invokestatic 685, 3) := by decide +kernel
theorem d11_44 : decode BC16 44 = .ok (.goto 13, 3) := by decide +kernel
theorem d11_47 : decode BC16 47 = .ok (.aload_n 0, 1) := by decide +kernel
theorem d11_48 : decode BC16 48 = .ok (.getfield 9, 3) := by decide +kernel
theorem d11_51 : decode BC16 51 = .ok (.iload_n 1, 1) := by decide +kernel
theorem d11_52 : decode BC16 52 = .ok (.iload 4, 2) := by decide +kernel
theorem d11_54 : decode BC16 54 = .ok (.invokestatic 689, 3) := by decide +kernel
theorem d11_57 : decode BC16 57 = .ok (.areturn, 1) := by decide +kernel
theorem pd_22 : parseMethodDescriptor "()I" = some ⟨[], some .int⟩ := by decide +kernel
theorem pd_23 : parseMethodDescriptor "(III)V" = some ⟨[.int, .int, .int], none⟩ := by decide +kernel
theorem ef_rs2i (m : MethodId) (a1 : Addr) (p3 : Int32) : entryFrame m #[(.ref a1), (.int 0), (.int p3)] 5 = mkF m 0 #[vR a1, vI 0, vI p3, .unset, .unset] [] := rfl
def Q_rs2i (Z : State) (a1 : Addr) (p3 : Int32) (a4 : Addr) (k4 : ClassId) (cs : List Int32) (G1 : Int32) (G3 : Value) (h0 : Heap) (n0 : Nat) (v : Option Value) (h : Heap) (L : List Loc) : Prop := v = some (.ref a1) ∧ Fr n0 L ∧ h = h0
theorem rs2i (l : Launch) (Z : State) (a0 : Array Value) (hw : ∀ d ∈ tables_1, d.before a0 Z = true) (ws : List Jvm.Cond) (a1 : Addr) (p3 : Int32) (a4 : Addr) (k4 : ClassId) (cs : List Int32) (G1 : Int32) (G3 : Value) (h0 : Heap) (n0 : Nat) (Z0 : n0 ≤ h0.size) (E1 : Exa Z h0 a1 "java/lang/String") (F_vl : Fld Z h0 a1 "java/lang/String" "value" "[B" (.ref a4)) (A0 : own_A Z h0 a1 a4 k4 cs) (hrL : ((Int32.ofNat cs.length) >>> ((0 : Int32) &&& 31)) = p3) (hrU : ((Int32.ofNat (2 * cs.length)) >>> ((1 : Int32) &&& 31)) = p3) (hi : ¬ (0 : Int32) < (0 : Int32) ∧ ¬ p3 < (0 : Int32) ∧ ¬ p3 < p3) (O0 : Old Z n0 h0) (S_cs : own_S_cs Z G1) (S_fm : own_S_fm Z G3) (P5 : ¬ (G1 = (0 : Int32))) (rG3 : G3.isRef = true) :
    MetFree l MN35 (head1 (Jvm.Cond.code MN35 jdk_42_method_92_code 5 (some (.object "java/lang/String")) :: ws) (rK 6 3 16 165)) (fun a U => a = #[(.ref a1), (.int 0), (.int p3)] ∧ Z.Warmed39 U.vm ∧ U.heap = h0) (fun _ _ _ _ _ => True) (fun _ U o U' => ∃ v L, o = .returned v ∧ Q_rs2i Z a1 p3 a4 k4 cs G1 G3 h0 n0 v U'.heap L ∧ FrameEnd U o U' L (rK 6 3 16 165).cells (rK 6 3 16 165).slots) := by
  refine MetFree.of_bodySF (plainFor_of_name pn_5) hisR ?_
  intro p e s m args below meth c sB Bd hml0 hP hK
  obtain ⟨rfl, hZ, hh⟩ := hP
  have hx := Bd.exec
  have hby := Bd.bytes
  have hml : c.maxLocals = 5 := hml0
  have hown : s.vm.findClass "java/lang/String" = some m.cls := findClass_of_methodNamed Bd.named
  have X0 : Stand p l e (rK 6 3 16 165) s m #[(.ref a1), (.int 0), (.int p3)] below meth c sB [] 0 0 := Stand.of_body Bd
  have e0 : sB.heap = h0 := by rw [← hh, Bd.state]; rfl
  have N0 := Fr.nil n0
  change Go p.tables e below _ _
  refine Go.on (B := sB.setTop (mkF m 0 #[vR a1, vI 0, vI p3, .unset, .unset] [])) (fun t k => castTop (ef_rs2i m a1 p3) k) ?_
  obtain ⟨cq1, kq1, q1a, q1b, q1c⟩ := isOf hZ e0 E1
  obtain ⟨_, _, ⟨T1, L1, k1, n1⟩, -, X1, ⟨Lc1, hQ1, lq1, yq1, zq1⟩, st1⟩ := X0.virtualBack hx (y := MN10) (z := MN10) hown (mg hZ hw 53 rfl) (mg hZ hw 54 rfl) (notFace_of_selects (args := #[]) (mg hZ hw 56 rfl)) (mg hZ hw 56 rfl) (mg hZ hw 55 rfl) (by decide) (backOf (W := 0) (rlen l Z a0 hw [] a1 a4 k4 cs p3 G1 h0 n0 Z0 E1 F_vl A0 hrL hrU O0 S_cs P5) hZ (gw hw 57 rfl) (gw hw 8 rfl) (by decide) (by decide)) q1a q1c (g := (mkF m 1 #[vR a1, vI 0, vI p3, .unset, .unset] [(.ref a1)])) rfl (by rw [hml]; rfl) (Steps.refl _) (argsL := []) (rest := []) (lenOf pd_22 rfl) rfl (own_w rfl) (hb hby d11_1) (fun _ _ => ⟨rfl, e0, (by decide : 0 + 0 ≤ _), (by decide : 0 + 0 ≤ _)⟩)
  dsimp only [Pt.U, Pt.locs, Pt.cells, Pt.slots] at X1 lq1 yq1 zq1 st1 hQ1
  subst lq1 yq1 zq1
  obtain ⟨rfl, N1q, e1q⟩ := hQ1
  have N1 := Fr.app N0 N1q
  refine Go.on (B := T1.setTop (mkF m 8 #[vR a1, vI 0, vI p3, vI p3, .unset] [(.int p3), (.int p3), (.int 0)])) (fun t k => XS.aloadN X0.here hx rfl (hb hby d11_0) rfl rfl (st1.trans (XS.istoreN X1.here hx rfl (hb hby d11_4) rfl (l' := #[vR a1, vI 0, vI p3, vI p3, .unset]) rfl (XS.iloadN X1.here hx rfl (hb hby d11_5) rfl (XS.iloadN X1.here hx rfl (hb hby d11_6) rfl (XS.iloadN X1.here hx rfl (hb hby d11_7) rfl k)))))) ?_
  obtain ⟨_, _, ⟨T3, L3, k3, n3⟩, -, X3, ⟨Lc3, hQ3, lq3, yq3, zq3⟩, st3⟩ := Jvm.LawKit.callS X1 hx (y := MN12) hown (mg hZ hw 69 rfl) (mg hZ hw 70 rfl) (mg hZ hw 8 rfl) (mg hZ hw 71 rfl) (by decide) (backOf (W := 0) (rbb l Z a0 hw [] (0 : Int32) p3 p3 G3 h0 n0 Z0 hi O0 S_fm rG3) hZ (gw hw 71 rfl) (gw hw 8 rfl) (by decide) (by decide)) (g := (mkF m 8 #[vR a1, vI 0, vI p3, vI p3, .unset] [(.int p3), (.int p3), (.int 0)])) rfl (by rw [hml]; rfl) (argsL := [(.int 0), (.int p3), (.int p3)]) (rest := []) (lenOf pd_23 rfl) rfl (own_w rfl) (hb hby d11_8) (fun _ _ => ⟨rfl, e1q, (by decide : 0 + 0 ≤ _), (by decide : 0 + 0 ≤ _)⟩)
  dsimp only [Pt.U, Pt.locs, Pt.cells, Pt.slots] at X3 lq3 yq3 zq3 st3 hQ3
  subst lq3 yq3 zq3
  obtain ⟨rfl, N3q, e3q⟩ := hQ3
  have N3 := Fr.app N1 N3q
  have hc12_4 : (0 : Int32) = (0 : Int32) := by decide
  have hc17_5 : p3 = p3 := rfl
  refine Go.on (B := T3.setTop (mkF m 20 #[vR a1, vI 0, vI p3, vI p3, .unset] [])) (fun t k => st3 _ (XS.iloadN X3.here hx rfl (hb hby d11_11) rfl (XS.ifNo X3.here hx rfl (hb hby d11_12) rfl ((if0 _ _).trans (teq hc12_4).2) (XS.iloadN X3.here hx rfl (hb hby d11_15) rfl (XS.iloadN X3.here hx rfl (hb hby d11_16) rfl (XS.icmpNo X3.here hx rfl (hb hby d11_17) rfl (teq hc17_5).2 k)))))) ?_
  refine Go.on (B := T3.setTop (mkF m 21 #[vR a1, vI 0, vI p3, vI p3, .unset] [(.ref a1)])) (fun t k => XS.aloadN X3.here hx rfl (hb hby d11_20) rfl rfl k) ?_
  refine Go.fin X3 (v := some (.ref a1)) (own_nv Bd.returns) Bd.notSynchronized ?_ e3q ⟨rfl, N3, rfl⟩ (by decide) (by decide)
  exact fun _ hr => retOut X3 hx Bd.returns rfl (Or.inr (Or.inr (Or.inr (Or.inr ⟨rfl, rfl, rfl⟩)))) (hb hby d11_21) hr
theorem pd_24 : parseMethodDescriptor "([BII)Ljava/lang/String;" = some ⟨[(.array .byte), .int, .int], some (.object "java/lang/String")⟩ := by decide +kernel
theorem ef_rs2_00 (m : MethodId) (a1 : Addr) (p2 : Int32) (p3 : Int32) : entryFrame m #[(.ref a1), (.int p2), (.int p3)] 5 = mkF m 0 #[vR a1, vI p2, vI p3, .unset, .unset] [] := rfl
def Q_rs2_00 (Z : State) (a1 : Addr) (p2 : Int32) (p3 : Int32) (a4 : Addr) (k4 : ClassId) (cs : List Int32)  (G1 : Int32) (G3 : Value) (h0 : Heap) (n0 : Nat) (v : Option Value) (h : Heap) (L : List Loc) : Prop := (∃ (d b : Addr) (kb : ClassId), v = some (.ref d) ∧ Exa Z h d "java/lang/String" ∧ Fld Z h d "java/lang/String" "value" "[B" (.ref b) ∧ own_A Z h d b kb []) ∧ Fr n0 L ∧ Keep h0 h []
theorem rs2_00 (l : Launch) (Z : State) (a0 : Array Value) (hw : ∀ d ∈ tables_1, d.before a0 Z = true) (ws : List Jvm.Cond) (a1 : Addr) (p2 : Int32) (p3 : Int32) (a4 : Addr) (k4 : ClassId) (cs : List Int32)  (G1 : Int32) (G3 : Value) (h0 : Heap) (n0 : Nat) (Z0 : n0 ≤ h0.size) (E1 : Exa Z h0 a1 "java/lang/String") (F_vl : Fld Z h0 a1 "java/lang/String" "value" "[B" (.ref a4)) (F_cd : Fld Z h0 a1 "java/lang/String" "coder" "B" (.int 0)) (V4 : Arv Z h0 a4 k4 .byte (Int32.ofNat cs.length) (own_lv cs) (.int 0)) (hl : ∀ c ∈ cs, ¬ ((255 : Int32) < c)) (hrL : ((Int32.ofNat cs.length) >>> ((0 : Int32) &&& 31)) = p3) (hrU : ((Int32.ofNat (2 * cs.length)) >>> ((1 : Int32) &&& 31)) = p3) (hi : ¬ p2 < (0 : Int32) ∧ ¬ p3 < p2 ∧ ¬ p3 < p3) (hnz : ¬ p2 = (0 : Int32)) (hsk : (p3 - p2) = (0 : Int32)) (O0 : Old Z n0 h0) (S_cs : own_S_cs Z G1) (S_fm : own_S_fm Z G3) (S_ad : own_S_ad Z) (S_hi : own_S_hi Z) (S_lo : own_S_lo Z) (P5 : ¬ (G1 = (0 : Int32))) (rG3 : G3.isRef = true) (HH : own_H Z a0) :
    MetFree l MN35 (head1 (Jvm.Cond.code MN35 jdk_42_method_92_code 5 (some (.object "java/lang/String")) :: ws) (rK 6 3 16 165)) (fun a U => a = #[(.ref a1), (.int p2), (.int p3)] ∧ Z.Warmed39 U.vm ∧ U.heap = h0 ∧ IB Z U.vm []) (fun _ _ _ _ _ => True) (fun _ U o U' => ∃ v L, o = .returned v ∧ Q_rs2_00 Z a1 p2 p3 a4 k4 cs G1 G3 h0 n0 v U'.heap L ∧ ReturnedEndW U o U' L (rK 6 3 16 165).cells (rK 6 3 16 165).slots) := by
  refine MetFree.of_bodySF (plainFor_of_name pn_5) hisR ?_
  intro p e s m args below meth c sB Bd hml0 hP hK
  obtain ⟨rfl, hZ, hh, hI⟩ := hP
  have hx := Bd.exec
  have hby := Bd.bytes
  have hml : c.maxLocals = 5 := hml0
  have hown : s.vm.findClass "java/lang/String" = some m.cls := findClass_of_methodNamed Bd.named
  have X0 : Stand p l e (rK 6 3 16 165) s m #[(.ref a1), (.int p2), (.int p3)] below meth c sB [] 0 0 := Stand.of_body Bd
  have e0 : sB.heap = h0 := by rw [← hh, Bd.state]; rfl
  have N0 := Fr.nil n0
  change Go p.tables e below _ _
  have K0 := Keep.refl h0 []
  refine Go.on (B := sB.setTop (mkF m 0 #[vR a1, vI p2, vI p3, .unset, .unset] [])) (fun t k => castTop (ef_rs2_00 m a1 p2 p3) k) ?_
  obtain ⟨cq1, kq1, q1a, q1b, q1c⟩ := isOf hZ e0 E1
  obtain ⟨_, _, ⟨T1, L1, k1, n1⟩, -, X1, ⟨Lc1, hQ1, lq1, yq1, zq1⟩, st1⟩ := X0.virtualBack hx (y := MN10) (z := MN10) hown (mg hZ hw 53 rfl) (mg hZ hw 54 rfl) (notFace_of_selects (args := #[]) (mg hZ hw 56 rfl)) (mg hZ hw 56 rfl) (mg hZ hw 55 rfl) (by decide) (backOf (W := 0) (rlen l Z a0 hw [] a1 a4 k4 cs p3 G1 h0 n0 Z0 E1 F_vl (Or.inl ⟨F_cd, V4, hl⟩) hrL hrU O0 S_cs P5) hZ (gw hw 57 rfl) (gw hw 8 rfl) (by decide) (by decide)) q1a q1c (g := (mkF m 1 #[vR a1, vI p2, vI p3, .unset, .unset] [(.ref a1)])) rfl (by rw [hml]; rfl) (Steps.refl _) (argsL := []) (rest := []) (lenOf pd_22 rfl) rfl (own_w rfl) (hb hby d11_1) (fun _ _ => ⟨rfl, e0, (by decide : 0 + 0 ≤ _), (by decide : 0 + 0 ≤ _)⟩)
  dsimp only [Pt.U, Pt.locs, Pt.cells, Pt.slots] at X1 lq1 yq1 zq1 st1 hQ1
  subst lq1 yq1 zq1
  obtain ⟨rfl, N1q, e1q⟩ := hQ1
  have N1 := Fr.app N0 N1q
  refine Go.on (B := T1.setTop (mkF m 8 #[vR a1, vI p2, vI p3, vI p3, .unset] [(.int p3), (.int p3), (.int p2)])) (fun t k => XS.aloadN X0.here hx rfl (hb hby d11_0) rfl rfl (st1.trans (XS.istoreN X1.here hx rfl (hb hby d11_4) rfl (l' := #[vR a1, vI p2, vI p3, vI p3, .unset]) rfl (XS.iloadN X1.here hx rfl (hb hby d11_5) rfl (XS.iloadN X1.here hx rfl (hb hby d11_6) rfl (XS.iloadN X1.here hx rfl (hb hby d11_7) rfl k)))))) ?_
  obtain ⟨_, _, ⟨T3, L3, k3, n3⟩, -, X3, ⟨Lc3, hQ3, lq3, yq3, zq3⟩, st3⟩ := Jvm.LawKit.callS X1 hx (y := MN12) hown (mg hZ hw 69 rfl) (mg hZ hw 70 rfl) (mg hZ hw 8 rfl) (mg hZ hw 71 rfl) (by decide) (backOf (W := 0) (rbb l Z a0 hw [] p2 p3 p3 G3 h0 n0 Z0 hi O0 S_fm rG3) hZ (gw hw 71 rfl) (gw hw 8 rfl) (by decide) (by decide)) (g := (mkF m 8 #[vR a1, vI p2, vI p3, vI p3, .unset] [(.int p3), (.int p3), (.int p2)])) rfl (by rw [hml]; rfl) (argsL := [(.int p2), (.int p3), (.int p3)]) (rest := []) (lenOf pd_23 rfl) rfl (own_w rfl) (hb hby d11_8) (fun _ _ => ⟨rfl, e1q, (by decide : 0 + 0 ≤ _), (by decide : 0 + 0 ≤ _)⟩)
  dsimp only [Pt.U, Pt.locs, Pt.cells, Pt.slots] at X3 lq3 yq3 zq3 st3 hQ3
  subst lq3 yq3 zq3
  obtain ⟨rfl, N3q, e3q⟩ := hQ3
  have N3 := Fr.app N1 N3q
  have hc12_4 : ¬ (p2 = (0 : Int32)) := hnz
  refine Go.on (B := T3.setTop (mkF m 25 #[vR a1, vI p2, vI p3, vI p3, .unset] [(.int (p3 - p2))])) (fun t k => st3 _ (XS.iloadN X3.here hx rfl (hb hby d11_11) rfl (XS.ifYes X3.here hx rfl (pc0 := 12) (pc' := 22) rfl (hb hby d11_12) rfl ((if0 _ _).trans (feq hc12_4).2) (by decide) (by decide) (XS.iloadN X3.here hx rfl (hb hby d11_22) rfl (XS.iloadN X3.here hx rfl (hb hby d11_23) rfl (XS.isub X3.here hx rfl (hb hby d11_24) rfl k)))))) ?_
  rw [hsk]
  obtain ⟨cq6, kq6, q6a, q6b, q6c⟩ := isOf hZ e3q E1
  obtain ⟨_, _, ⟨T6, L6, k6, n6⟩, -, X6, ⟨Lc6, hQ6, lq6, yq6, zq6⟩, st6⟩ := X3.virtualBack hx (y := MN7) (z := MN7) hown (mg hZ hw 96 rfl) (mg hZ hw 97 rfl) (notFace_of_selects (args := #[]) (mg hZ hw 99 rfl)) (mg hZ hw 99 rfl) (mg hZ hw 98 rfl) (by decide) (backOf (W := 0) (ril0 l Z a0 hw [] a1 G1 h0 n0 Z0 F_cd O0 S_cs P5) hZ (gw hw 100 rfl) (gw hw 8 rfl) (by decide) (by decide)) q6a q6c (g := (mkF m 28 #[vR a1, vI p2, vI p3, vI p3, vI 0] [(.ref a1)])) rfl (by rw [hml]; rfl) (Steps.refl _) (argsL := []) (rest := []) (lenOf pd_5 rfl) rfl (own_w rfl) (hb hby d11_28) (fun _ _ => ⟨rfl, e3q, (by decide : 0 + 0 ≤ _), (by decide : 0 + 0 ≤ _)⟩)
  dsimp only [Pt.U, Pt.locs, Pt.cells, Pt.slots] at X6 lq6 yq6 zq6 st6 hQ6
  subst lq6 yq6 zq6
  obtain ⟨rfl, N6q, e6q⟩ := hQ6
  have N6 := Fr.app N3 N6q
  have hc31_7 : ¬ ((1 : Int32) = (0 : Int32)) := by decide
  obtain ⟨T8, X8, e8, st8⟩ := getF X6 hx hZ hown (host := "") (Or.inl (gw hw 25 rfl)) Via.refl e6q F_vl (g := (mkF m 35 #[vR a1, vI p2, vI p3, vI p3, vI 0] [(.ref a1)])) rfl rfl (hb hby d11_35)
  refine Go.on (B := T8.setTop (mkF m 38 #[vR a1, vI p2, vI p3, vI p3, vI 0] [(.ref a4)])) (fun t k => XS.istore X3.here hx rfl (hb hby d11_25) rfl (l' := #[vR a1, vI p2, vI p3, vI p3, vI 0]) rfl (XS.aloadN X3.here hx rfl (hb hby d11_27) rfl rfl (st6.trans (XS.ifNo X6.here hx rfl (hb hby d11_31) rfl ((if0 _ _).trans (feq hc31_7).1) (XS.aloadN X6.here hx rfl (hb hby d11_34) rfl rfl (st8 _ k)))))) ?_
  refine Go.on (B := T8.setTop (mkF m 41 #[vR a1, vI p2, vI p3, vI p3, vI 0] [(.int 0), (.int p2), (.ref a4)])) (fun t k => XS.iloadN X8.here hx rfl (hb hby d11_38) rfl (XS.iload X8.here hx rfl (hb hby d11_39) rfl k)) ?_
  obtain ⟨_, _, ⟨T9, L9, k9, n9⟩, -, X9, hS9, hg9, ⟨Lc9, hQ9, lq9, yq9, zq9⟩, st9⟩ := Jvm.RoadKit.callSS X8 hx (y := MN22) hown (mg hZ hw 111 rfl) (mg hZ hw 112 rfl) (mg hZ hw 103 rfl) (mg hZ hw 113 rfl) (by decide) (own_back (W := 0) (rnsL0 l Z a0 hw [] a4 p2 h0 n0 Z0 O0 HH) hZ hI (gw hw 113 rfl) (gw hw 103 rfl) (by decide) (by decide)) (g := (mkF m 41 #[vR a1, vI p2, vI p3, vI p3, vI 0] [(.int 0), (.int p2), (.ref a4)])) rfl (by rw [hml]; rfl) (argsL := [(.ref a4), (.int p2), (.int 0)]) (rest := []) (lenOf pd_24 rfl) rfl (own_w rfl) (hb hby d11_41) (fun _ _ => ⟨rfl, e8, (by decide : 0 + 2 ≤ _), (by decide : 0 + 4 ≤ _)⟩)
  dsimp only [Pt.U, Pt.locs, Pt.cells, Pt.slots] at X9 lq9 yq9 zq9 st9 hQ9 hS9 hg9
  subst lq9 yq9 zq9
  obtain ⟨hZ, hown⟩ := own_reb hZ hown hS9
  have Y9 := Nat.le_refl T9.heap.size
  obtain ⟨⟨x9, y9, ky9, rfl, Ex9, Fx9, Ax9⟩, N9q, K9q⟩ := hQ9
  have N9 := Fr.app N6 N9q
  have K7 := K0.trans K9q all0
  refine Go.on (B := T9.setTop (mkF m 57 #[vR a1, vI p2, vI p3, vI p3, vI 0] [(.ref x9)])) (fun t k => st9.trans (XS.goto X9.here hx rfl (pc0 := 44) (pc' := 57) rfl (hb hby d11_44) (by decide) (by decide) k)) ?_
  refine Go.finW X9 hS9 Y9 (v := some (.ref x9)) (own_nv Bd.returns) Bd.notSynchronized ?_ rfl ⟨⟨_, _, _, rfl, Ex9, Fx9, Ax9⟩, N9, K7⟩ (by decide) (by decide)
  exact fun _ hr => retOut X9 hx Bd.returns rfl (Or.inr (Or.inr (Or.inr (Or.inr ⟨rfl, rfl, rfl⟩)))) (hb hby d11_57) hr
def Q_rs2_01 (Z : State) (a1 : Addr) (p2 : Int32) (p3 : Int32) (a4 : Addr) (k4 : ClassId) (cs : List Int32)  (G1 : Int32) (G3 : Value) (h0 : Heap) (n0 : Nat) (v : Option Value) (h : Heap) (L : List Loc) : Prop := (∃ (d b : Addr) (kb : ClassId), v = some (.ref d) ∧ Exa Z h d "java/lang/String" ∧ Fld Z h d "java/lang/String" "value" "[B" (.ref b) ∧ own_A Z h d b kb []) ∧ Fr n0 L ∧ Keep h0 h []
theorem rs2_01 (l : Launch) (Z : State) (a0 : Array Value) (hw : ∀ d ∈ tables_1, d.before a0 Z = true) (ws : List Jvm.Cond) (a1 : Addr) (p2 : Int32) (p3 : Int32) (a4 : Addr) (k4 : ClassId) (cs : List Int32)  (G1 : Int32) (G3 : Value) (h0 : Heap) (n0 : Nat) (Z0 : n0 ≤ h0.size) (E1 : Exa Z h0 a1 "java/lang/String") (F_vl : Fld Z h0 a1 "java/lang/String" "value" "[B" (.ref a4)) (F_cd : Fld Z h0 a1 "java/lang/String" "coder" "B" (.int 1)) (V4 : Arv Z h0 a4 k4 .byte (Int32.ofNat (2 * cs.length)) (own_uv cs) (.int 0)) (hrL : ((Int32.ofNat cs.length) >>> ((0 : Int32) &&& 31)) = p3) (hrU : ((Int32.ofNat (2 * cs.length)) >>> ((1 : Int32) &&& 31)) = p3) (hi : ¬ p2 < (0 : Int32) ∧ ¬ p3 < p2 ∧ ¬ p3 < p3) (hnz : ¬ p2 = (0 : Int32)) (hsk : (p3 - p2) = (0 : Int32)) (O0 : Old Z n0 h0) (S_cs : own_S_cs Z G1) (S_fm : own_S_fm Z G3) (S_ad : own_S_ad Z) (S_hi : own_S_hi Z) (S_lo : own_S_lo Z) (P5 : ¬ (G1 = (0 : Int32))) (rG3 : G3.isRef = true) (HH : own_H Z a0) :
    MetFree l MN35 (head1 (Jvm.Cond.code MN35 jdk_42_method_92_code 5 (some (.object "java/lang/String")) :: ws) (rK 6 3 16 165)) (fun a U => a = #[(.ref a1), (.int p2), (.int p3)] ∧ Z.Warmed39 U.vm ∧ U.heap = h0 ∧ IB Z U.vm []) (fun _ _ _ _ _ => True) (fun _ U o U' => ∃ v L, o = .returned v ∧ Q_rs2_01 Z a1 p2 p3 a4 k4 cs G1 G3 h0 n0 v U'.heap L ∧ ReturnedEndW U o U' L (rK 6 3 16 165).cells (rK 6 3 16 165).slots) := by
  refine MetFree.of_bodySF (plainFor_of_name pn_5) hisR ?_
  intro p e s m args below meth c sB Bd hml0 hP hK
  obtain ⟨rfl, hZ, hh, hI⟩ := hP
  have hx := Bd.exec
  have hby := Bd.bytes
  have hml : c.maxLocals = 5 := hml0
  have hown : s.vm.findClass "java/lang/String" = some m.cls := findClass_of_methodNamed Bd.named
  have X0 : Stand p l e (rK 6 3 16 165) s m #[(.ref a1), (.int p2), (.int p3)] below meth c sB [] 0 0 := Stand.of_body Bd
  have e0 : sB.heap = h0 := by rw [← hh, Bd.state]; rfl
  have N0 := Fr.nil n0
  change Go p.tables e below _ _
  have K0 := Keep.refl h0 []
  refine Go.on (B := sB.setTop (mkF m 0 #[vR a1, vI p2, vI p3, .unset, .unset] [])) (fun t k => castTop (ef_rs2_00 m a1 p2 p3) k) ?_
  obtain ⟨cq1, kq1, q1a, q1b, q1c⟩ := isOf hZ e0 E1
  obtain ⟨_, _, ⟨T1, L1, k1, n1⟩, -, X1, ⟨Lc1, hQ1, lq1, yq1, zq1⟩, st1⟩ := X0.virtualBack hx (y := MN10) (z := MN10) hown (mg hZ hw 53 rfl) (mg hZ hw 54 rfl) (notFace_of_selects (args := #[]) (mg hZ hw 56 rfl)) (mg hZ hw 56 rfl) (mg hZ hw 55 rfl) (by decide) (backOf (W := 0) (rlen l Z a0 hw [] a1 a4 k4 cs p3 G1 h0 n0 Z0 E1 F_vl (Or.inr ⟨F_cd, V4⟩) hrL hrU O0 S_cs P5) hZ (gw hw 57 rfl) (gw hw 8 rfl) (by decide) (by decide)) q1a q1c (g := (mkF m 1 #[vR a1, vI p2, vI p3, .unset, .unset] [(.ref a1)])) rfl (by rw [hml]; rfl) (Steps.refl _) (argsL := []) (rest := []) (lenOf pd_22 rfl) rfl (own_w rfl) (hb hby d11_1) (fun _ _ => ⟨rfl, e0, (by decide : 0 + 0 ≤ _), (by decide : 0 + 0 ≤ _)⟩)
  dsimp only [Pt.U, Pt.locs, Pt.cells, Pt.slots] at X1 lq1 yq1 zq1 st1 hQ1
  subst lq1 yq1 zq1
  obtain ⟨rfl, N1q, e1q⟩ := hQ1
  have N1 := Fr.app N0 N1q
  refine Go.on (B := T1.setTop (mkF m 8 #[vR a1, vI p2, vI p3, vI p3, .unset] [(.int p3), (.int p3), (.int p2)])) (fun t k => XS.aloadN X0.here hx rfl (hb hby d11_0) rfl rfl (st1.trans (XS.istoreN X1.here hx rfl (hb hby d11_4) rfl (l' := #[vR a1, vI p2, vI p3, vI p3, .unset]) rfl (XS.iloadN X1.here hx rfl (hb hby d11_5) rfl (XS.iloadN X1.here hx rfl (hb hby d11_6) rfl (XS.iloadN X1.here hx rfl (hb hby d11_7) rfl k)))))) ?_
  obtain ⟨_, _, ⟨T3, L3, k3, n3⟩, -, X3, ⟨Lc3, hQ3, lq3, yq3, zq3⟩, st3⟩ := Jvm.LawKit.callS X1 hx (y := MN12) hown (mg hZ hw 69 rfl) (mg hZ hw 70 rfl) (mg hZ hw 8 rfl) (mg hZ hw 71 rfl) (by decide) (backOf (W := 0) (rbb l Z a0 hw [] p2 p3 p3 G3 h0 n0 Z0 hi O0 S_fm rG3) hZ (gw hw 71 rfl) (gw hw 8 rfl) (by decide) (by decide)) (g := (mkF m 8 #[vR a1, vI p2, vI p3, vI p3, .unset] [(.int p3), (.int p3), (.int p2)])) rfl (by rw [hml]; rfl) (argsL := [(.int p2), (.int p3), (.int p3)]) (rest := []) (lenOf pd_23 rfl) rfl (own_w rfl) (hb hby d11_8) (fun _ _ => ⟨rfl, e1q, (by decide : 0 + 0 ≤ _), (by decide : 0 + 0 ≤ _)⟩)
  dsimp only [Pt.U, Pt.locs, Pt.cells, Pt.slots] at X3 lq3 yq3 zq3 st3 hQ3
  subst lq3 yq3 zq3
  obtain ⟨rfl, N3q, e3q⟩ := hQ3
  have N3 := Fr.app N1 N3q
  have hc12_4 : ¬ (p2 = (0 : Int32)) := hnz
  refine Go.on (B := T3.setTop (mkF m 25 #[vR a1, vI p2, vI p3, vI p3, .unset] [(.int (p3 - p2))])) (fun t k => st3 _ (XS.iloadN X3.here hx rfl (hb hby d11_11) rfl (XS.ifYes X3.here hx rfl (pc0 := 12) (pc' := 22) rfl (hb hby d11_12) rfl ((if0 _ _).trans (feq hc12_4).2) (by decide) (by decide) (XS.iloadN X3.here hx rfl (hb hby d11_22) rfl (XS.iloadN X3.here hx rfl (hb hby d11_23) rfl (XS.isub X3.here hx rfl (hb hby d11_24) rfl k)))))) ?_
  rw [hsk]
  obtain ⟨cq6, kq6, q6a, q6b, q6c⟩ := isOf hZ e3q E1
  obtain ⟨_, _, ⟨T6, L6, k6, n6⟩, -, X6, ⟨Lc6, hQ6, lq6, yq6, zq6⟩, st6⟩ := X3.virtualBack hx (y := MN7) (z := MN7) hown (mg hZ hw 96 rfl) (mg hZ hw 97 rfl) (notFace_of_selects (args := #[]) (mg hZ hw 99 rfl)) (mg hZ hw 99 rfl) (mg hZ hw 98 rfl) (by decide) (backOf (W := 0) (ril1 l Z a0 hw [] a1 G1 h0 n0 Z0 F_cd O0 S_cs P5) hZ (gw hw 100 rfl) (gw hw 8 rfl) (by decide) (by decide)) q6a q6c (g := (mkF m 28 #[vR a1, vI p2, vI p3, vI p3, vI 0] [(.ref a1)])) rfl (by rw [hml]; rfl) (Steps.refl _) (argsL := []) (rest := []) (lenOf pd_5 rfl) rfl (own_w rfl) (hb hby d11_28) (fun _ _ => ⟨rfl, e3q, (by decide : 0 + 0 ≤ _), (by decide : 0 + 0 ≤ _)⟩)
  dsimp only [Pt.U, Pt.locs, Pt.cells, Pt.slots] at X6 lq6 yq6 zq6 st6 hQ6
  subst lq6 yq6 zq6
  obtain ⟨rfl, N6q, e6q⟩ := hQ6
  have N6 := Fr.app N3 N6q
  have hc31_7 : (0 : Int32) = (0 : Int32) := by decide
  obtain ⟨T8, X8, e8, st8⟩ := getF X6 hx hZ hown (host := "") (Or.inl (gw hw 25 rfl)) Via.refl e6q F_vl (g := (mkF m 48 #[vR a1, vI p2, vI p3, vI p3, vI 0] [(.ref a1)])) rfl rfl (hb hby d11_48)
  refine Go.on (B := T8.setTop (mkF m 51 #[vR a1, vI p2, vI p3, vI p3, vI 0] [(.ref a4)])) (fun t k => XS.istore X3.here hx rfl (hb hby d11_25) rfl (l' := #[vR a1, vI p2, vI p3, vI p3, vI 0]) rfl (XS.aloadN X3.here hx rfl (hb hby d11_27) rfl rfl (st6.trans (XS.ifYes X6.here hx rfl (pc0 := 31) (pc' := 47) rfl (hb hby d11_31) rfl ((if0 _ _).trans (teq hc31_7).1) (by decide) (by decide) (XS.aloadN X6.here hx rfl (hb hby d11_47) rfl rfl (st8 _ k)))))) ?_
  refine Go.on (B := T8.setTop (mkF m 54 #[vR a1, vI p2, vI p3, vI p3, vI 0] [(.int 0), (.int p2), (.ref a4)])) (fun t k => XS.iloadN X8.here hx rfl (hb hby d11_51) rfl (XS.iload X8.here hx rfl (hb hby d11_52) rfl k)) ?_
  obtain ⟨_, _, ⟨T9, L9, k9, n9⟩, -, X9, hS9, hg9, ⟨Lc9, hQ9, lq9, yq9, zq9⟩, st9⟩ := Jvm.RoadKit.callSS X8 hx (y := MN23) hown (mg hZ hw 134 rfl) (mg hZ hw 135 rfl) (mg hZ hw 83 rfl) (mg hZ hw 136 rfl) (by decide) (own_back (W := 0) (rnsU0 l Z a0 hw [] a4 p2 h0 n0 Z0 O0 HH) hZ hI (gw hw 136 rfl) (gw hw 83 rfl) (by decide) (by decide)) (g := (mkF m 54 #[vR a1, vI p2, vI p3, vI p3, vI 0] [(.int 0), (.int p2), (.ref a4)])) rfl (by rw [hml]; rfl) (argsL := [(.ref a4), (.int p2), (.int 0)]) (rest := []) (lenOf pd_24 rfl) rfl (own_w rfl) (hb hby d11_54) (fun _ _ => ⟨rfl, e8, (by decide : 0 + 2 ≤ _), (by decide : 0 + 4 ≤ _)⟩)
  dsimp only [Pt.U, Pt.locs, Pt.cells, Pt.slots] at X9 lq9 yq9 zq9 st9 hQ9 hS9 hg9
  subst lq9 yq9 zq9
  obtain ⟨hZ, hown⟩ := own_reb hZ hown hS9
  have Y9 := Nat.le_refl T9.heap.size
  obtain ⟨⟨x9, y9, ky9, rfl, Ex9, Fx9, Ax9⟩, N9q, K9q⟩ := hQ9
  have N9 := Fr.app N6 N9q
  have K7 := K0.trans K9q all0
  refine Go.on (B := T9.setTop (mkF m 57 #[vR a1, vI p2, vI p3, vI p3, vI 0] [(.ref x9)])) (fun t k => st9.trans k) ?_
  refine Go.finW X9 hS9 Y9 (v := some (.ref x9)) (own_nv Bd.returns) Bd.notSynchronized ?_ rfl ⟨⟨_, _, _, rfl, Ex9, Fx9, Ax9⟩, N9, K7⟩ (by decide) (by decide)
  exact fun _ hr => retOut X9 hx Bd.returns rfl (Or.inr (Or.inr (Or.inr (Or.inr ⟨rfl, rfl, rfl⟩)))) (hb hby d11_57) hr
def Q_rs2_10 (Z : State) (a1 : Addr) (p2 : Int32) (p3 : Int32) (a4 : Addr) (k4 : ClassId) (cs : List Int32) (c0 : Int32) (G1 : Int32) (G3 : Value) (h0 : Heap) (n0 : Nat) (v : Option Value) (h : Heap) (L : List Loc) : Prop := (∃ (d b : Addr) (kb : ClassId), v = some (.ref d) ∧ Exa Z h d "java/lang/String" ∧ Fld Z h d "java/lang/String" "value" "[B" (.ref b) ∧ own_A Z h d b kb [c0]) ∧ Fr n0 L ∧ Keep h0 h []
theorem rs2_10 (l : Launch) (Z : State) (a0 : Array Value) (hw : ∀ d ∈ tables_1, d.before a0 Z = true) (ws : List Jvm.Cond) (a1 : Addr) (p2 : Int32) (p3 : Int32) (a4 : Addr) (k4 : ClassId) (cs : List Int32) (c0 : Int32) (G1 : Int32) (G3 : Value) (h0 : Heap) (n0 : Nat) (Z0 : n0 ≤ h0.size) (E1 : Exa Z h0 a1 "java/lang/String") (F_vl : Fld Z h0 a1 "java/lang/String" "value" "[B" (.ref a4)) (F_cd : Fld Z h0 a1 "java/lang/String" "coder" "B" (.int 0)) (V4 : Arv Z h0 a4 k4 .byte (Int32.ofNat cs.length) (own_lv cs) (.int 0)) (hl : ∀ c ∈ cs, ¬ ((255 : Int32) < c)) (hrL : ((Int32.ofNat cs.length) >>> ((0 : Int32) &&& 31)) = p3) (hrU : ((Int32.ofNat (2 * cs.length)) >>> ((1 : Int32) &&& 31)) = p3) (hi : ¬ p2 < (0 : Int32) ∧ ¬ p3 < p2 ∧ ¬ p3 < p3) (hnz : ¬ p2 = (0 : Int32)) (hsk : (p3 - p2) = (1 : Int32)) (hadd : (p2 + (1 : Int32)) = (Int32.ofNat cs.length)) (hr : own_R (Int32.ofNat cs.length) p2 (1 : Int32) (own_lv cs) [(.int (own_l c0))]) (hx0 : ¬ ((255 : Int32) < c0)) (O0 : Old Z n0 h0) (S_cs : own_S_cs Z G1) (S_fm : own_S_fm Z G3) (S_ad : own_S_ad Z) (S_hi : own_S_hi Z) (S_lo : own_S_lo Z) (P5 : ¬ (G1 = (0 : Int32))) (rG3 : G3.isRef = true) :
    MetFree l MN35 (head1 (Jvm.Cond.code MN35 jdk_42_method_92_code 5 (some (.object "java/lang/String")) :: ws) (rK 6 3 16 165)) (fun a U => a = #[(.ref a1), (.int p2), (.int p3)] ∧ Z.Warmed39 U.vm ∧ U.heap = h0) (fun _ _ _ _ _ => True) (fun _ U o U' => ∃ v L, o = .returned v ∧ Q_rs2_10 Z a1 p2 p3 a4 k4 cs c0 G1 G3 h0 n0 v U'.heap L ∧ FrameEnd U o U' L (rK 6 3 16 165).cells (rK 6 3 16 165).slots) := by
  refine MetFree.of_bodySF (plainFor_of_name pn_5) hisR ?_
  intro p e s m args below meth c sB Bd hml0 hP hK
  obtain ⟨rfl, hZ, hh⟩ := hP
  have hx := Bd.exec
  have hby := Bd.bytes
  have hml : c.maxLocals = 5 := hml0
  have hown : s.vm.findClass "java/lang/String" = some m.cls := findClass_of_methodNamed Bd.named
  have X0 : Stand p l e (rK 6 3 16 165) s m #[(.ref a1), (.int p2), (.int p3)] below meth c sB [] 0 0 := Stand.of_body Bd
  have e0 : sB.heap = h0 := by rw [← hh, Bd.state]; rfl
  have N0 := Fr.nil n0
  change Go p.tables e below _ _
  have K0 := Keep.refl h0 []
  refine Go.on (B := sB.setTop (mkF m 0 #[vR a1, vI p2, vI p3, .unset, .unset] [])) (fun t k => castTop (ef_rs2_00 m a1 p2 p3) k) ?_
  obtain ⟨cq1, kq1, q1a, q1b, q1c⟩ := isOf hZ e0 E1
  obtain ⟨_, _, ⟨T1, L1, k1, n1⟩, -, X1, ⟨Lc1, hQ1, lq1, yq1, zq1⟩, st1⟩ := X0.virtualBack hx (y := MN10) (z := MN10) hown (mg hZ hw 53 rfl) (mg hZ hw 54 rfl) (notFace_of_selects (args := #[]) (mg hZ hw 56 rfl)) (mg hZ hw 56 rfl) (mg hZ hw 55 rfl) (by decide) (backOf (W := 0) (rlen l Z a0 hw [] a1 a4 k4 cs p3 G1 h0 n0 Z0 E1 F_vl (Or.inl ⟨F_cd, V4, hl⟩) hrL hrU O0 S_cs P5) hZ (gw hw 57 rfl) (gw hw 8 rfl) (by decide) (by decide)) q1a q1c (g := (mkF m 1 #[vR a1, vI p2, vI p3, .unset, .unset] [(.ref a1)])) rfl (by rw [hml]; rfl) (Steps.refl _) (argsL := []) (rest := []) (lenOf pd_22 rfl) rfl (own_w rfl) (hb hby d11_1) (fun _ _ => ⟨rfl, e0, (by decide : 0 + 0 ≤ _), (by decide : 0 + 0 ≤ _)⟩)
  dsimp only [Pt.U, Pt.locs, Pt.cells, Pt.slots] at X1 lq1 yq1 zq1 st1 hQ1
  subst lq1 yq1 zq1
  obtain ⟨rfl, N1q, e1q⟩ := hQ1
  have N1 := Fr.app N0 N1q
  refine Go.on (B := T1.setTop (mkF m 8 #[vR a1, vI p2, vI p3, vI p3, .unset] [(.int p3), (.int p3), (.int p2)])) (fun t k => XS.aloadN X0.here hx rfl (hb hby d11_0) rfl rfl (st1.trans (XS.istoreN X1.here hx rfl (hb hby d11_4) rfl (l' := #[vR a1, vI p2, vI p3, vI p3, .unset]) rfl (XS.iloadN X1.here hx rfl (hb hby d11_5) rfl (XS.iloadN X1.here hx rfl (hb hby d11_6) rfl (XS.iloadN X1.here hx rfl (hb hby d11_7) rfl k)))))) ?_
  obtain ⟨_, _, ⟨T3, L3, k3, n3⟩, -, X3, ⟨Lc3, hQ3, lq3, yq3, zq3⟩, st3⟩ := Jvm.LawKit.callS X1 hx (y := MN12) hown (mg hZ hw 69 rfl) (mg hZ hw 70 rfl) (mg hZ hw 8 rfl) (mg hZ hw 71 rfl) (by decide) (backOf (W := 0) (rbb l Z a0 hw [] p2 p3 p3 G3 h0 n0 Z0 hi O0 S_fm rG3) hZ (gw hw 71 rfl) (gw hw 8 rfl) (by decide) (by decide)) (g := (mkF m 8 #[vR a1, vI p2, vI p3, vI p3, .unset] [(.int p3), (.int p3), (.int p2)])) rfl (by rw [hml]; rfl) (argsL := [(.int p2), (.int p3), (.int p3)]) (rest := []) (lenOf pd_23 rfl) rfl (own_w rfl) (hb hby d11_8) (fun _ _ => ⟨rfl, e1q, (by decide : 0 + 0 ≤ _), (by decide : 0 + 0 ≤ _)⟩)
  dsimp only [Pt.U, Pt.locs, Pt.cells, Pt.slots] at X3 lq3 yq3 zq3 st3 hQ3
  subst lq3 yq3 zq3
  obtain ⟨rfl, N3q, e3q⟩ := hQ3
  have N3 := Fr.app N1 N3q
  have hc12_4 : ¬ (p2 = (0 : Int32)) := hnz
  refine Go.on (B := T3.setTop (mkF m 25 #[vR a1, vI p2, vI p3, vI p3, .unset] [(.int (p3 - p2))])) (fun t k => st3 _ (XS.iloadN X3.here hx rfl (hb hby d11_11) rfl (XS.ifYes X3.here hx rfl (pc0 := 12) (pc' := 22) rfl (hb hby d11_12) rfl ((if0 _ _).trans (feq hc12_4).2) (by decide) (by decide) (XS.iloadN X3.here hx rfl (hb hby d11_22) rfl (XS.iloadN X3.here hx rfl (hb hby d11_23) rfl (XS.isub X3.here hx rfl (hb hby d11_24) rfl k)))))) ?_
  rw [hsk]
  obtain ⟨cq6, kq6, q6a, q6b, q6c⟩ := isOf hZ e3q E1
  obtain ⟨_, _, ⟨T6, L6, k6, n6⟩, -, X6, ⟨Lc6, hQ6, lq6, yq6, zq6⟩, st6⟩ := X3.virtualBack hx (y := MN7) (z := MN7) hown (mg hZ hw 96 rfl) (mg hZ hw 97 rfl) (notFace_of_selects (args := #[]) (mg hZ hw 99 rfl)) (mg hZ hw 99 rfl) (mg hZ hw 98 rfl) (by decide) (backOf (W := 0) (ril0 l Z a0 hw [] a1 G1 h0 n0 Z0 F_cd O0 S_cs P5) hZ (gw hw 100 rfl) (gw hw 8 rfl) (by decide) (by decide)) q6a q6c (g := (mkF m 28 #[vR a1, vI p2, vI p3, vI p3, vI 1] [(.ref a1)])) rfl (by rw [hml]; rfl) (Steps.refl _) (argsL := []) (rest := []) (lenOf pd_5 rfl) rfl (own_w rfl) (hb hby d11_28) (fun _ _ => ⟨rfl, e3q, (by decide : 0 + 0 ≤ _), (by decide : 0 + 0 ≤ _)⟩)
  dsimp only [Pt.U, Pt.locs, Pt.cells, Pt.slots] at X6 lq6 yq6 zq6 st6 hQ6
  subst lq6 yq6 zq6
  obtain ⟨rfl, N6q, e6q⟩ := hQ6
  have N6 := Fr.app N3 N6q
  have hc31_7 : ¬ ((1 : Int32) = (0 : Int32)) := by decide
  obtain ⟨T8, X8, e8, st8⟩ := getF X6 hx hZ hown (host := "") (Or.inl (gw hw 25 rfl)) Via.refl e6q F_vl (g := (mkF m 35 #[vR a1, vI p2, vI p3, vI p3, vI 1] [(.ref a1)])) rfl rfl (hb hby d11_35)
  refine Go.on (B := T8.setTop (mkF m 38 #[vR a1, vI p2, vI p3, vI p3, vI 1] [(.ref a4)])) (fun t k => XS.istore X3.here hx rfl (hb hby d11_25) rfl (l' := #[vR a1, vI p2, vI p3, vI p3, vI 1]) rfl (XS.aloadN X3.here hx rfl (hb hby d11_27) rfl rfl (st6.trans (XS.ifNo X6.here hx rfl (hb hby d11_31) rfl ((if0 _ _).trans (feq hc31_7).1) (XS.aloadN X6.here hx rfl (hb hby d11_34) rfl rfl (st8 _ k)))))) ?_
  obtain ⟨_, _, ⟨T9, L9, k9, n9⟩, -, X9, ⟨Lc9, hQ9, lq9, yq9, zq9⟩, st9⟩ := Jvm.LawKit.callS X8 hx (y := MN22) hown (mg hZ hw 111 rfl) (mg hZ hw 112 rfl) (mg hZ hw 103 rfl) (mg hZ hw 113 rfl) (by decide) (backOf (W := 0) (rnsL1 l Z a0 hw [] a4 p2 k4 (Int32.ofNat cs.length) (own_lv cs) c0 h0 n0 Z0 V4 hadd hr hx0) hZ (gw hw 113 rfl) (gw hw 103 rfl) (by decide) (by decide)) (g := (mkF m 41 #[vR a1, vI p2, vI p3, vI p3, vI 1] [(.int 1), (.int p2), (.ref a4)])) rfl (by rw [hml]; rfl) (argsL := [(.ref a4), (.int p2), (.int 1)]) (rest := []) (lenOf pd_24 rfl) rfl (own_w rfl) (hb hby d11_41) (fun _ _ => ⟨rfl, e8, (by decide : 0 + 2 ≤ _), (by decide : 0 + 5 ≤ _)⟩)
  dsimp only [Pt.U, Pt.locs, Pt.cells, Pt.slots] at X9 lq9 yq9 zq9 st9 hQ9
  subst lq9 yq9 zq9
  obtain ⟨⟨x9, y9, ky9, rfl, Ex9, Fx9, Ax9⟩, N9q, K9q⟩ := hQ9
  have N9 := Fr.app N6 N9q
  have K7 := K0.trans K9q all0
  refine Go.on (B := T9.setTop (mkF m 57 #[vR a1, vI p2, vI p3, vI p3, vI 1] [(.ref x9)])) (fun t k => XS.iloadN X8.here hx rfl (hb hby d11_38) rfl (XS.iload X8.here hx rfl (hb hby d11_39) rfl (st9 _ (XS.goto X9.here hx rfl (pc0 := 44) (pc' := 57) rfl (hb hby d11_44) (by decide) (by decide) k)))) ?_
  refine Go.fin X9 (v := some (.ref x9)) (own_nv Bd.returns) Bd.notSynchronized ?_ rfl ⟨⟨_, _, _, rfl, Ex9, Fx9, Ax9⟩, N9, K7⟩ (by decide) (by decide)
  exact fun _ hr => retOut X9 hx Bd.returns rfl (Or.inr (Or.inr (Or.inr (Or.inr ⟨rfl, rfl, rfl⟩)))) (hb hby d11_57) hr
def Q_rs2_11 (Z : State) (a1 : Addr) (p2 : Int32) (p3 : Int32) (a4 : Addr) (k4 : ClassId) (cs : List Int32) (c0 : Int32) (G1 : Int32) (G3 : Value) (h0 : Heap) (n0 : Nat) (v : Option Value) (h : Heap) (L : List Loc) : Prop := (∃ (d b : Addr) (kb : ClassId), v = some (.ref d) ∧ Exa Z h d "java/lang/String" ∧ Fld Z h d "java/lang/String" "value" "[B" (.ref b) ∧ own_A Z h d b kb [c0]) ∧ Fr n0 L ∧ Keep h0 h []
theorem rs2_11 (l : Launch) (Z : State) (a0 : Array Value) (hw : ∀ d ∈ tables_1, d.before a0 Z = true) (ws : List Jvm.Cond) (a1 : Addr) (p2 : Int32) (p3 : Int32) (a4 : Addr) (k4 : ClassId) (cs : List Int32) (c0 : Int32) (G1 : Int32) (G3 : Value) (h0 : Heap) (n0 : Nat) (Z0 : n0 ≤ h0.size) (E1 : Exa Z h0 a1 "java/lang/String") (F_vl : Fld Z h0 a1 "java/lang/String" "value" "[B" (.ref a4)) (F_cd : Fld Z h0 a1 "java/lang/String" "coder" "B" (.int 1)) (V4 : Arv Z h0 a4 k4 .byte (Int32.ofNat (2 * cs.length)) (own_uv cs) (.int 0)) (hrL : ((Int32.ofNat cs.length) >>> ((0 : Int32) &&& 31)) = p3) (hrU : ((Int32.ofNat (2 * cs.length)) >>> ((1 : Int32) &&& 31)) = p3) (hi : ¬ p2 < (0 : Int32) ∧ ¬ p3 < p2 ∧ ¬ p3 < p3) (hnz : ¬ p2 = (0 : Int32)) (hsk : (p3 - p2) = (1 : Int32)) (hz2 : ((Int32.ofNat (2 * cs.length)) >>> ((1 : Int32) &&& 31)) = p3) (hbo : own_B p3 p2 (1 : Int32)) (g0 : own_G (own_uv cs) (Int32.ofNat (2 * cs.length)) p2 c0) (hc0 : 0 ≤ c0.toInt ∧ c0.toInt ≤ 65535) (hnl : ¬ (p2 + (1 : Int32)) < (0 : Int32) ∧ (p2 + (1 : Int32)) < (1073741823 : Int32) ∧ ((p2 + (1 : Int32)) <<< ((1 : Int32) &&& 31)) = (Int32.ofNat (2 * cs.length))) (hr : own_R (Int32.ofNat (2 * cs.length)) (p2 <<< ((1 : Int32) &&& 31)) (2 : Int32) (own_uv cs) [(.int (own_u0 c0)), (.int (own_u1 c0))]) (O0 : Old Z n0 h0) (S_cs : own_S_cs Z G1) (S_fm : own_S_fm Z G3) (S_ad : own_S_ad Z) (S_hi : own_S_hi Z) (S_lo : own_S_lo Z) (P5 : ¬ (G1 = (0 : Int32))) (rG3 : G3.isRef = true) :
    MetFree l MN35 (head1 (Jvm.Cond.code MN35 jdk_42_method_92_code 5 (some (.object "java/lang/String")) :: ws) (rK 6 3 16 165)) (fun a U => a = #[(.ref a1), (.int p2), (.int p3)] ∧ Z.Warmed39 U.vm ∧ U.heap = h0) (fun _ _ _ _ _ => True) (fun _ U o U' => ∃ v L, o = .returned v ∧ Q_rs2_11 Z a1 p2 p3 a4 k4 cs c0 G1 G3 h0 n0 v U'.heap L ∧ FrameEnd U o U' L (rK 6 3 16 165).cells (rK 6 3 16 165).slots) := by
  refine MetFree.of_bodySF (plainFor_of_name pn_5) hisR ?_
  intro p e s m args below meth c sB Bd hml0 hP hK
  obtain ⟨rfl, hZ, hh⟩ := hP
  have hx := Bd.exec
  have hby := Bd.bytes
  have hml : c.maxLocals = 5 := hml0
  have hown : s.vm.findClass "java/lang/String" = some m.cls := findClass_of_methodNamed Bd.named
  have X0 : Stand p l e (rK 6 3 16 165) s m #[(.ref a1), (.int p2), (.int p3)] below meth c sB [] 0 0 := Stand.of_body Bd
  have e0 : sB.heap = h0 := by rw [← hh, Bd.state]; rfl
  have N0 := Fr.nil n0
  change Go p.tables e below _ _
  have K0 := Keep.refl h0 []
  refine Go.on (B := sB.setTop (mkF m 0 #[vR a1, vI p2, vI p3, .unset, .unset] [])) (fun t k => castTop (ef_rs2_00 m a1 p2 p3) k) ?_
  obtain ⟨cq1, kq1, q1a, q1b, q1c⟩ := isOf hZ e0 E1
  obtain ⟨_, _, ⟨T1, L1, k1, n1⟩, -, X1, ⟨Lc1, hQ1, lq1, yq1, zq1⟩, st1⟩ := X0.virtualBack hx (y := MN10) (z := MN10) hown (mg hZ hw 53 rfl) (mg hZ hw 54 rfl) (notFace_of_selects (args := #[]) (mg hZ hw 56 rfl)) (mg hZ hw 56 rfl) (mg hZ hw 55 rfl) (by decide) (backOf (W := 0) (rlen l Z a0 hw [] a1 a4 k4 cs p3 G1 h0 n0 Z0 E1 F_vl (Or.inr ⟨F_cd, V4⟩) hrL hrU O0 S_cs P5) hZ (gw hw 57 rfl) (gw hw 8 rfl) (by decide) (by decide)) q1a q1c (g := (mkF m 1 #[vR a1, vI p2, vI p3, .unset, .unset] [(.ref a1)])) rfl (by rw [hml]; rfl) (Steps.refl _) (argsL := []) (rest := []) (lenOf pd_22 rfl) rfl (own_w rfl) (hb hby d11_1) (fun _ _ => ⟨rfl, e0, (by decide : 0 + 0 ≤ _), (by decide : 0 + 0 ≤ _)⟩)
  dsimp only [Pt.U, Pt.locs, Pt.cells, Pt.slots] at X1 lq1 yq1 zq1 st1 hQ1
  subst lq1 yq1 zq1
  obtain ⟨rfl, N1q, e1q⟩ := hQ1
  have N1 := Fr.app N0 N1q
  refine Go.on (B := T1.setTop (mkF m 8 #[vR a1, vI p2, vI p3, vI p3, .unset] [(.int p3), (.int p3), (.int p2)])) (fun t k => XS.aloadN X0.here hx rfl (hb hby d11_0) rfl rfl (st1.trans (XS.istoreN X1.here hx rfl (hb hby d11_4) rfl (l' := #[vR a1, vI p2, vI p3, vI p3, .unset]) rfl (XS.iloadN X1.here hx rfl (hb hby d11_5) rfl (XS.iloadN X1.here hx rfl (hb hby d11_6) rfl (XS.iloadN X1.here hx rfl (hb hby d11_7) rfl k)))))) ?_
  obtain ⟨_, _, ⟨T3, L3, k3, n3⟩, -, X3, ⟨Lc3, hQ3, lq3, yq3, zq3⟩, st3⟩ := Jvm.LawKit.callS X1 hx (y := MN12) hown (mg hZ hw 69 rfl) (mg hZ hw 70 rfl) (mg hZ hw 8 rfl) (mg hZ hw 71 rfl) (by decide) (backOf (W := 0) (rbb l Z a0 hw [] p2 p3 p3 G3 h0 n0 Z0 hi O0 S_fm rG3) hZ (gw hw 71 rfl) (gw hw 8 rfl) (by decide) (by decide)) (g := (mkF m 8 #[vR a1, vI p2, vI p3, vI p3, .unset] [(.int p3), (.int p3), (.int p2)])) rfl (by rw [hml]; rfl) (argsL := [(.int p2), (.int p3), (.int p3)]) (rest := []) (lenOf pd_23 rfl) rfl (own_w rfl) (hb hby d11_8) (fun _ _ => ⟨rfl, e1q, (by decide : 0 + 0 ≤ _), (by decide : 0 + 0 ≤ _)⟩)
  dsimp only [Pt.U, Pt.locs, Pt.cells, Pt.slots] at X3 lq3 yq3 zq3 st3 hQ3
  subst lq3 yq3 zq3
  obtain ⟨rfl, N3q, e3q⟩ := hQ3
  have N3 := Fr.app N1 N3q
  have hc12_4 : ¬ (p2 = (0 : Int32)) := hnz
  refine Go.on (B := T3.setTop (mkF m 25 #[vR a1, vI p2, vI p3, vI p3, .unset] [(.int (p3 - p2))])) (fun t k => st3 _ (XS.iloadN X3.here hx rfl (hb hby d11_11) rfl (XS.ifYes X3.here hx rfl (pc0 := 12) (pc' := 22) rfl (hb hby d11_12) rfl ((if0 _ _).trans (feq hc12_4).2) (by decide) (by decide) (XS.iloadN X3.here hx rfl (hb hby d11_22) rfl (XS.iloadN X3.here hx rfl (hb hby d11_23) rfl (XS.isub X3.here hx rfl (hb hby d11_24) rfl k)))))) ?_
  rw [hsk]
  obtain ⟨cq6, kq6, q6a, q6b, q6c⟩ := isOf hZ e3q E1
  obtain ⟨_, _, ⟨T6, L6, k6, n6⟩, -, X6, ⟨Lc6, hQ6, lq6, yq6, zq6⟩, st6⟩ := X3.virtualBack hx (y := MN7) (z := MN7) hown (mg hZ hw 96 rfl) (mg hZ hw 97 rfl) (notFace_of_selects (args := #[]) (mg hZ hw 99 rfl)) (mg hZ hw 99 rfl) (mg hZ hw 98 rfl) (by decide) (backOf (W := 0) (ril1 l Z a0 hw [] a1 G1 h0 n0 Z0 F_cd O0 S_cs P5) hZ (gw hw 100 rfl) (gw hw 8 rfl) (by decide) (by decide)) q6a q6c (g := (mkF m 28 #[vR a1, vI p2, vI p3, vI p3, vI 1] [(.ref a1)])) rfl (by rw [hml]; rfl) (Steps.refl _) (argsL := []) (rest := []) (lenOf pd_5 rfl) rfl (own_w rfl) (hb hby d11_28) (fun _ _ => ⟨rfl, e3q, (by decide : 0 + 0 ≤ _), (by decide : 0 + 0 ≤ _)⟩)
  dsimp only [Pt.U, Pt.locs, Pt.cells, Pt.slots] at X6 lq6 yq6 zq6 st6 hQ6
  subst lq6 yq6 zq6
  obtain ⟨rfl, N6q, e6q⟩ := hQ6
  have N6 := Fr.app N3 N6q
  have hc31_7 : (0 : Int32) = (0 : Int32) := by decide
  obtain ⟨T8, X8, e8, st8⟩ := getF X6 hx hZ hown (host := "") (Or.inl (gw hw 25 rfl)) Via.refl e6q F_vl (g := (mkF m 48 #[vR a1, vI p2, vI p3, vI p3, vI 1] [(.ref a1)])) rfl rfl (hb hby d11_48)
  refine Go.on (B := T8.setTop (mkF m 51 #[vR a1, vI p2, vI p3, vI p3, vI 1] [(.ref a4)])) (fun t k => XS.istore X3.here hx rfl (hb hby d11_25) rfl (l' := #[vR a1, vI p2, vI p3, vI p3, vI 1]) rfl (XS.aloadN X3.here hx rfl (hb hby d11_27) rfl rfl (st6.trans (XS.ifYes X6.here hx rfl (pc0 := 31) (pc' := 47) rfl (hb hby d11_31) rfl ((if0 _ _).trans (teq hc31_7).1) (by decide) (by decide) (XS.aloadN X6.here hx rfl (hb hby d11_47) rfl rfl (st8 _ k)))))) ?_
  obtain ⟨_, _, ⟨T9, L9, k9, n9⟩, -, X9, ⟨Lc9, hQ9, lq9, yq9, zq9⟩, st9⟩ := Jvm.LawKit.callS X8 hx (y := MN23) hown (mg hZ hw 134 rfl) (mg hZ hw 135 rfl) (mg hZ hw 83 rfl) (mg hZ hw 136 rfl) (by decide) (backOf (W := 0) (rnsU1 l Z a0 hw [] a4 p2 k4 (Int32.ofNat (2 * cs.length)) (own_uv cs) p3 c0 G1 G3 h0 n0 Z0 V4 hz2 hbo g0 hc0 hnl hr O0 S_cs S_fm S_ad S_hi S_lo P5 rG3) hZ (gw hw 136 rfl) (gw hw 83 rfl) (by decide) (by decide)) (g := (mkF m 54 #[vR a1, vI p2, vI p3, vI p3, vI 1] [(.int 1), (.int p2), (.ref a4)])) rfl (by rw [hml]; rfl) (argsL := [(.ref a4), (.int p2), (.int 1)]) (rest := []) (lenOf pd_24 rfl) rfl (own_w rfl) (hb hby d11_54) (fun _ _ => ⟨rfl, e8, (by decide : 0 + 3 ≤ _), (by decide : 0 + 7 ≤ _)⟩)
  dsimp only [Pt.U, Pt.locs, Pt.cells, Pt.slots] at X9 lq9 yq9 zq9 st9 hQ9
  subst lq9 yq9 zq9
  obtain ⟨⟨x9, y9, ky9, rfl, Ex9, Fx9, Ax9⟩, N9q, K9q⟩ := hQ9
  have N9 := Fr.app N6 N9q
  have K7 := K0.trans K9q all0
  refine Go.on (B := T9.setTop (mkF m 57 #[vR a1, vI p2, vI p3, vI p3, vI 1] [(.ref x9)])) (fun t k => XS.iloadN X8.here hx rfl (hb hby d11_51) rfl (XS.iload X8.here hx rfl (hb hby d11_52) rfl (st9 _ k))) ?_
  refine Go.fin X9 (v := some (.ref x9)) (own_nv Bd.returns) Bd.notSynchronized ?_ rfl ⟨⟨_, _, _, rfl, Ex9, Fx9, Ax9⟩, N9, K7⟩ (by decide) (by decide)
  exact fun _ hr => retOut X9 hx Bd.returns rfl (Or.inr (Or.inr (Or.inr (Or.inr ⟨rfl, rfl, rfl⟩)))) (hb hby d11_57) hr
def Q_rs2_20 (Z : State) (a1 : Addr) (p2 : Int32) (p3 : Int32) (a4 : Addr) (k4 : ClassId) (cs : List Int32) (c0 c1 : Int32) (G1 : Int32) (G3 : Value) (h0 : Heap) (n0 : Nat) (v : Option Value) (h : Heap) (L : List Loc) : Prop := (∃ (d b : Addr) (kb : ClassId), v = some (.ref d) ∧ Exa Z h d "java/lang/String" ∧ Fld Z h d "java/lang/String" "value" "[B" (.ref b) ∧ own_A Z h d b kb [c0, c1]) ∧ Fr n0 L ∧ Keep h0 h []
theorem rs2_20 (l : Launch) (Z : State) (a0 : Array Value) (hw : ∀ d ∈ tables_1, d.before a0 Z = true) (ws : List Jvm.Cond) (a1 : Addr) (p2 : Int32) (p3 : Int32) (a4 : Addr) (k4 : ClassId) (cs : List Int32) (c0 c1 : Int32) (G1 : Int32) (G3 : Value) (h0 : Heap) (n0 : Nat) (Z0 : n0 ≤ h0.size) (E1 : Exa Z h0 a1 "java/lang/String") (F_vl : Fld Z h0 a1 "java/lang/String" "value" "[B" (.ref a4)) (F_cd : Fld Z h0 a1 "java/lang/String" "coder" "B" (.int 0)) (V4 : Arv Z h0 a4 k4 .byte (Int32.ofNat cs.length) (own_lv cs) (.int 0)) (hl : ∀ c ∈ cs, ¬ ((255 : Int32) < c)) (hrL : ((Int32.ofNat cs.length) >>> ((0 : Int32) &&& 31)) = p3) (hrU : ((Int32.ofNat (2 * cs.length)) >>> ((1 : Int32) &&& 31)) = p3) (hi : ¬ p2 < (0 : Int32) ∧ ¬ p3 < p2 ∧ ¬ p3 < p3) (hnz : ¬ p2 = (0 : Int32)) (hsk : (p3 - p2) = (2 : Int32)) (hadd : (p2 + (2 : Int32)) = (Int32.ofNat cs.length)) (hr : own_R (Int32.ofNat cs.length) p2 (2 : Int32) (own_lv cs) [(.int (own_l c0)), (.int (own_l c1))]) (hx0 : ¬ ((255 : Int32) < c0)) (hx1 : ¬ ((255 : Int32) < c1)) (O0 : Old Z n0 h0) (S_cs : own_S_cs Z G1) (S_fm : own_S_fm Z G3) (S_ad : own_S_ad Z) (S_hi : own_S_hi Z) (S_lo : own_S_lo Z) (P5 : ¬ (G1 = (0 : Int32))) (rG3 : G3.isRef = true) :
    MetFree l MN35 (head1 (Jvm.Cond.code MN35 jdk_42_method_92_code 5 (some (.object "java/lang/String")) :: ws) (rK 6 3 16 165)) (fun a U => a = #[(.ref a1), (.int p2), (.int p3)] ∧ Z.Warmed39 U.vm ∧ U.heap = h0) (fun _ _ _ _ _ => True) (fun _ U o U' => ∃ v L, o = .returned v ∧ Q_rs2_20 Z a1 p2 p3 a4 k4 cs c0 c1 G1 G3 h0 n0 v U'.heap L ∧ FrameEnd U o U' L (rK 6 3 16 165).cells (rK 6 3 16 165).slots) := by
  refine MetFree.of_bodySF (plainFor_of_name pn_5) hisR ?_
  intro p e s m args below meth c sB Bd hml0 hP hK
  obtain ⟨rfl, hZ, hh⟩ := hP
  have hx := Bd.exec
  have hby := Bd.bytes
  have hml : c.maxLocals = 5 := hml0
  have hown : s.vm.findClass "java/lang/String" = some m.cls := findClass_of_methodNamed Bd.named
  have X0 : Stand p l e (rK 6 3 16 165) s m #[(.ref a1), (.int p2), (.int p3)] below meth c sB [] 0 0 := Stand.of_body Bd
  have e0 : sB.heap = h0 := by rw [← hh, Bd.state]; rfl
  have N0 := Fr.nil n0
  change Go p.tables e below _ _
  have K0 := Keep.refl h0 []
  refine Go.on (B := sB.setTop (mkF m 0 #[vR a1, vI p2, vI p3, .unset, .unset] [])) (fun t k => castTop (ef_rs2_00 m a1 p2 p3) k) ?_
  obtain ⟨cq1, kq1, q1a, q1b, q1c⟩ := isOf hZ e0 E1
  obtain ⟨_, _, ⟨T1, L1, k1, n1⟩, -, X1, ⟨Lc1, hQ1, lq1, yq1, zq1⟩, st1⟩ := X0.virtualBack hx (y := MN10) (z := MN10) hown (mg hZ hw 53 rfl) (mg hZ hw 54 rfl) (notFace_of_selects (args := #[]) (mg hZ hw 56 rfl)) (mg hZ hw 56 rfl) (mg hZ hw 55 rfl) (by decide) (backOf (W := 0) (rlen l Z a0 hw [] a1 a4 k4 cs p3 G1 h0 n0 Z0 E1 F_vl (Or.inl ⟨F_cd, V4, hl⟩) hrL hrU O0 S_cs P5) hZ (gw hw 57 rfl) (gw hw 8 rfl) (by decide) (by decide)) q1a q1c (g := (mkF m 1 #[vR a1, vI p2, vI p3, .unset, .unset] [(.ref a1)])) rfl (by rw [hml]; rfl) (Steps.refl _) (argsL := []) (rest := []) (lenOf pd_22 rfl) rfl (own_w rfl) (hb hby d11_1) (fun _ _ => ⟨rfl, e0, (by decide : 0 + 0 ≤ _), (by decide : 0 + 0 ≤ _)⟩)
  dsimp only [Pt.U, Pt.locs, Pt.cells, Pt.slots] at X1 lq1 yq1 zq1 st1 hQ1
  subst lq1 yq1 zq1
  obtain ⟨rfl, N1q, e1q⟩ := hQ1
  have N1 := Fr.app N0 N1q
  refine Go.on (B := T1.setTop (mkF m 8 #[vR a1, vI p2, vI p3, vI p3, .unset] [(.int p3), (.int p3), (.int p2)])) (fun t k => XS.aloadN X0.here hx rfl (hb hby d11_0) rfl rfl (st1.trans (XS.istoreN X1.here hx rfl (hb hby d11_4) rfl (l' := #[vR a1, vI p2, vI p3, vI p3, .unset]) rfl (XS.iloadN X1.here hx rfl (hb hby d11_5) rfl (XS.iloadN X1.here hx rfl (hb hby d11_6) rfl (XS.iloadN X1.here hx rfl (hb hby d11_7) rfl k)))))) ?_
  obtain ⟨_, _, ⟨T3, L3, k3, n3⟩, -, X3, ⟨Lc3, hQ3, lq3, yq3, zq3⟩, st3⟩ := Jvm.LawKit.callS X1 hx (y := MN12) hown (mg hZ hw 69 rfl) (mg hZ hw 70 rfl) (mg hZ hw 8 rfl) (mg hZ hw 71 rfl) (by decide) (backOf (W := 0) (rbb l Z a0 hw [] p2 p3 p3 G3 h0 n0 Z0 hi O0 S_fm rG3) hZ (gw hw 71 rfl) (gw hw 8 rfl) (by decide) (by decide)) (g := (mkF m 8 #[vR a1, vI p2, vI p3, vI p3, .unset] [(.int p3), (.int p3), (.int p2)])) rfl (by rw [hml]; rfl) (argsL := [(.int p2), (.int p3), (.int p3)]) (rest := []) (lenOf pd_23 rfl) rfl (own_w rfl) (hb hby d11_8) (fun _ _ => ⟨rfl, e1q, (by decide : 0 + 0 ≤ _), (by decide : 0 + 0 ≤ _)⟩)
  dsimp only [Pt.U, Pt.locs, Pt.cells, Pt.slots] at X3 lq3 yq3 zq3 st3 hQ3
  subst lq3 yq3 zq3
  obtain ⟨rfl, N3q, e3q⟩ := hQ3
  have N3 := Fr.app N1 N3q
  have hc12_4 : ¬ (p2 = (0 : Int32)) := hnz
  refine Go.on (B := T3.setTop (mkF m 25 #[vR a1, vI p2, vI p3, vI p3, .unset] [(.int (p3 - p2))])) (fun t k => st3 _ (XS.iloadN X3.here hx rfl (hb hby d11_11) rfl (XS.ifYes X3.here hx rfl (pc0 := 12) (pc' := 22) rfl (hb hby d11_12) rfl ((if0 _ _).trans (feq hc12_4).2) (by decide) (by decide) (XS.iloadN X3.here hx rfl (hb hby d11_22) rfl (XS.iloadN X3.here hx rfl (hb hby d11_23) rfl (XS.isub X3.here hx rfl (hb hby d11_24) rfl k)))))) ?_
  rw [hsk]
  obtain ⟨cq6, kq6, q6a, q6b, q6c⟩ := isOf hZ e3q E1
  obtain ⟨_, _, ⟨T6, L6, k6, n6⟩, -, X6, ⟨Lc6, hQ6, lq6, yq6, zq6⟩, st6⟩ := X3.virtualBack hx (y := MN7) (z := MN7) hown (mg hZ hw 96 rfl) (mg hZ hw 97 rfl) (notFace_of_selects (args := #[]) (mg hZ hw 99 rfl)) (mg hZ hw 99 rfl) (mg hZ hw 98 rfl) (by decide) (backOf (W := 0) (ril0 l Z a0 hw [] a1 G1 h0 n0 Z0 F_cd O0 S_cs P5) hZ (gw hw 100 rfl) (gw hw 8 rfl) (by decide) (by decide)) q6a q6c (g := (mkF m 28 #[vR a1, vI p2, vI p3, vI p3, vI 2] [(.ref a1)])) rfl (by rw [hml]; rfl) (Steps.refl _) (argsL := []) (rest := []) (lenOf pd_5 rfl) rfl (own_w rfl) (hb hby d11_28) (fun _ _ => ⟨rfl, e3q, (by decide : 0 + 0 ≤ _), (by decide : 0 + 0 ≤ _)⟩)
  dsimp only [Pt.U, Pt.locs, Pt.cells, Pt.slots] at X6 lq6 yq6 zq6 st6 hQ6
  subst lq6 yq6 zq6
  obtain ⟨rfl, N6q, e6q⟩ := hQ6
  have N6 := Fr.app N3 N6q
  have hc31_7 : ¬ ((1 : Int32) = (0 : Int32)) := by decide
  obtain ⟨T8, X8, e8, st8⟩ := getF X6 hx hZ hown (host := "") (Or.inl (gw hw 25 rfl)) Via.refl e6q F_vl (g := (mkF m 35 #[vR a1, vI p2, vI p3, vI p3, vI 2] [(.ref a1)])) rfl rfl (hb hby d11_35)
  refine Go.on (B := T8.setTop (mkF m 38 #[vR a1, vI p2, vI p3, vI p3, vI 2] [(.ref a4)])) (fun t k => XS.istore X3.here hx rfl (hb hby d11_25) rfl (l' := #[vR a1, vI p2, vI p3, vI p3, vI 2]) rfl (XS.aloadN X3.here hx rfl (hb hby d11_27) rfl rfl (st6.trans (XS.ifNo X6.here hx rfl (hb hby d11_31) rfl ((if0 _ _).trans (feq hc31_7).1) (XS.aloadN X6.here hx rfl (hb hby d11_34) rfl rfl (st8 _ k)))))) ?_
  obtain ⟨_, _, ⟨T9, L9, k9, n9⟩, -, X9, ⟨Lc9, hQ9, lq9, yq9, zq9⟩, st9⟩ := Jvm.LawKit.callS X8 hx (y := MN22) hown (mg hZ hw 111 rfl) (mg hZ hw 112 rfl) (mg hZ hw 103 rfl) (mg hZ hw 113 rfl) (by decide) (backOf (W := 0) (rnsL2 l Z a0 hw [] a4 p2 k4 (Int32.ofNat cs.length) (own_lv cs) c0 c1 h0 n0 Z0 V4 hadd hr hx0 hx1) hZ (gw hw 113 rfl) (gw hw 103 rfl) (by decide) (by decide)) (g := (mkF m 41 #[vR a1, vI p2, vI p3, vI p3, vI 2] [(.int 2), (.int p2), (.ref a4)])) rfl (by rw [hml]; rfl) (argsL := [(.ref a4), (.int p2), (.int 2)]) (rest := []) (lenOf pd_24 rfl) rfl (own_w rfl) (hb hby d11_41) (fun _ _ => ⟨rfl, e8, (by decide : 0 + 2 ≤ _), (by decide : 0 + 6 ≤ _)⟩)
  dsimp only [Pt.U, Pt.locs, Pt.cells, Pt.slots] at X9 lq9 yq9 zq9 st9 hQ9
  subst lq9 yq9 zq9
  obtain ⟨⟨x9, y9, ky9, rfl, Ex9, Fx9, Ax9⟩, N9q, K9q⟩ := hQ9
  have N9 := Fr.app N6 N9q
  have K7 := K0.trans K9q all0
  refine Go.on (B := T9.setTop (mkF m 57 #[vR a1, vI p2, vI p3, vI p3, vI 2] [(.ref x9)])) (fun t k => XS.iloadN X8.here hx rfl (hb hby d11_38) rfl (XS.iload X8.here hx rfl (hb hby d11_39) rfl (st9 _ (XS.goto X9.here hx rfl (pc0 := 44) (pc' := 57) rfl (hb hby d11_44) (by decide) (by decide) k)))) ?_
  refine Go.fin X9 (v := some (.ref x9)) (own_nv Bd.returns) Bd.notSynchronized ?_ rfl ⟨⟨_, _, _, rfl, Ex9, Fx9, Ax9⟩, N9, K7⟩ (by decide) (by decide)
  exact fun _ hr => retOut X9 hx Bd.returns rfl (Or.inr (Or.inr (Or.inr (Or.inr ⟨rfl, rfl, rfl⟩)))) (hb hby d11_57) hr
def Q_rs2_21 (Z : State) (a1 : Addr) (p2 : Int32) (p3 : Int32) (a4 : Addr) (k4 : ClassId) (cs : List Int32) (c0 c1 : Int32) (G1 : Int32) (G3 : Value) (h0 : Heap) (n0 : Nat) (v : Option Value) (h : Heap) (L : List Loc) : Prop := (∃ (d b : Addr) (kb : ClassId), v = some (.ref d) ∧ Exa Z h d "java/lang/String" ∧ Fld Z h d "java/lang/String" "value" "[B" (.ref b) ∧ own_A Z h d b kb [c0, c1]) ∧ Fr n0 L ∧ Keep h0 h []
theorem rs2_21 (l : Launch) (Z : State) (a0 : Array Value) (hw : ∀ d ∈ tables_1, d.before a0 Z = true) (ws : List Jvm.Cond) (a1 : Addr) (p2 : Int32) (p3 : Int32) (a4 : Addr) (k4 : ClassId) (cs : List Int32) (c0 c1 : Int32) (G1 : Int32) (G3 : Value) (h0 : Heap) (n0 : Nat) (Z0 : n0 ≤ h0.size) (E1 : Exa Z h0 a1 "java/lang/String") (F_vl : Fld Z h0 a1 "java/lang/String" "value" "[B" (.ref a4)) (F_cd : Fld Z h0 a1 "java/lang/String" "coder" "B" (.int 1)) (V4 : Arv Z h0 a4 k4 .byte (Int32.ofNat (2 * cs.length)) (own_uv cs) (.int 0)) (hrL : ((Int32.ofNat cs.length) >>> ((0 : Int32) &&& 31)) = p3) (hrU : ((Int32.ofNat (2 * cs.length)) >>> ((1 : Int32) &&& 31)) = p3) (hi : ¬ p2 < (0 : Int32) ∧ ¬ p3 < p2 ∧ ¬ p3 < p3) (hnz : ¬ p2 = (0 : Int32)) (hsk : (p3 - p2) = (2 : Int32)) (hz2 : ((Int32.ofNat (2 * cs.length)) >>> ((1 : Int32) &&& 31)) = p3) (hbo : own_B p3 p2 (2 : Int32)) (g0 : own_G (own_uv cs) (Int32.ofNat (2 * cs.length)) p2 c0) (g1 : own_G (own_uv cs) (Int32.ofNat (2 * cs.length)) (p2 + (1 : Int32)) c1) (hc0 : 0 ≤ c0.toInt ∧ c0.toInt ≤ 65535) (hc1 : 0 ≤ c1.toInt ∧ c1.toInt ≤ 65535) (hnl : ¬ (p2 + (2 : Int32)) < (0 : Int32) ∧ (p2 + (2 : Int32)) < (1073741823 : Int32) ∧ ((p2 + (2 : Int32)) <<< ((1 : Int32) &&& 31)) = (Int32.ofNat (2 * cs.length))) (hr : own_R (Int32.ofNat (2 * cs.length)) (p2 <<< ((1 : Int32) &&& 31)) (4 : Int32) (own_uv cs) [(.int (own_u0 c0)), (.int (own_u1 c0)), (.int (own_u0 c1)), (.int (own_u1 c1))]) (O0 : Old Z n0 h0) (S_cs : own_S_cs Z G1) (S_fm : own_S_fm Z G3) (S_ad : own_S_ad Z) (S_hi : own_S_hi Z) (S_lo : own_S_lo Z) (P5 : ¬ (G1 = (0 : Int32))) (rG3 : G3.isRef = true) :
    MetFree l MN35 (head1 (Jvm.Cond.code MN35 jdk_42_method_92_code 5 (some (.object "java/lang/String")) :: ws) (rK 6 3 16 165)) (fun a U => a = #[(.ref a1), (.int p2), (.int p3)] ∧ Z.Warmed39 U.vm ∧ U.heap = h0) (fun _ _ _ _ _ => True) (fun _ U o U' => ∃ v L, o = .returned v ∧ Q_rs2_21 Z a1 p2 p3 a4 k4 cs c0 c1 G1 G3 h0 n0 v U'.heap L ∧ FrameEnd U o U' L (rK 6 3 16 165).cells (rK 6 3 16 165).slots) := by
  refine MetFree.of_bodySF (plainFor_of_name pn_5) hisR ?_
  intro p e s m args below meth c sB Bd hml0 hP hK
  obtain ⟨rfl, hZ, hh⟩ := hP
  have hx := Bd.exec
  have hby := Bd.bytes
  have hml : c.maxLocals = 5 := hml0
  have hown : s.vm.findClass "java/lang/String" = some m.cls := findClass_of_methodNamed Bd.named
  have X0 : Stand p l e (rK 6 3 16 165) s m #[(.ref a1), (.int p2), (.int p3)] below meth c sB [] 0 0 := Stand.of_body Bd
  have e0 : sB.heap = h0 := by rw [← hh, Bd.state]; rfl
  have N0 := Fr.nil n0
  change Go p.tables e below _ _
  have K0 := Keep.refl h0 []
  refine Go.on (B := sB.setTop (mkF m 0 #[vR a1, vI p2, vI p3, .unset, .unset] [])) (fun t k => castTop (ef_rs2_00 m a1 p2 p3) k) ?_
  obtain ⟨cq1, kq1, q1a, q1b, q1c⟩ := isOf hZ e0 E1
  obtain ⟨_, _, ⟨T1, L1, k1, n1⟩, -, X1, ⟨Lc1, hQ1, lq1, yq1, zq1⟩, st1⟩ := X0.virtualBack hx (y := MN10) (z := MN10) hown (mg hZ hw 53 rfl) (mg hZ hw 54 rfl) (notFace_of_selects (args := #[]) (mg hZ hw 56 rfl)) (mg hZ hw 56 rfl) (mg hZ hw 55 rfl) (by decide) (backOf (W := 0) (rlen l Z a0 hw [] a1 a4 k4 cs p3 G1 h0 n0 Z0 E1 F_vl (Or.inr ⟨F_cd, V4⟩) hrL hrU O0 S_cs P5) hZ (gw hw 57 rfl) (gw hw 8 rfl) (by decide) (by decide)) q1a q1c (g := (mkF m 1 #[vR a1, vI p2, vI p3, .unset, .unset] [(.ref a1)])) rfl (by rw [hml]; rfl) (Steps.refl _) (argsL := []) (rest := []) (lenOf pd_22 rfl) rfl (own_w rfl) (hb hby d11_1) (fun _ _ => ⟨rfl, e0, (by decide : 0 + 0 ≤ _), (by decide : 0 + 0 ≤ _)⟩)
  dsimp only [Pt.U, Pt.locs, Pt.cells, Pt.slots] at X1 lq1 yq1 zq1 st1 hQ1
  subst lq1 yq1 zq1
  obtain ⟨rfl, N1q, e1q⟩ := hQ1
  have N1 := Fr.app N0 N1q
  refine Go.on (B := T1.setTop (mkF m 8 #[vR a1, vI p2, vI p3, vI p3, .unset] [(.int p3), (.int p3), (.int p2)])) (fun t k => XS.aloadN X0.here hx rfl (hb hby d11_0) rfl rfl (st1.trans (XS.istoreN X1.here hx rfl (hb hby d11_4) rfl (l' := #[vR a1, vI p2, vI p3, vI p3, .unset]) rfl (XS.iloadN X1.here hx rfl (hb hby d11_5) rfl (XS.iloadN X1.here hx rfl (hb hby d11_6) rfl (XS.iloadN X1.here hx rfl (hb hby d11_7) rfl k)))))) ?_
  obtain ⟨_, _, ⟨T3, L3, k3, n3⟩, -, X3, ⟨Lc3, hQ3, lq3, yq3, zq3⟩, st3⟩ := Jvm.LawKit.callS X1 hx (y := MN12) hown (mg hZ hw 69 rfl) (mg hZ hw 70 rfl) (mg hZ hw 8 rfl) (mg hZ hw 71 rfl) (by decide) (backOf (W := 0) (rbb l Z a0 hw [] p2 p3 p3 G3 h0 n0 Z0 hi O0 S_fm rG3) hZ (gw hw 71 rfl) (gw hw 8 rfl) (by decide) (by decide)) (g := (mkF m 8 #[vR a1, vI p2, vI p3, vI p3, .unset] [(.int p3), (.int p3), (.int p2)])) rfl (by rw [hml]; rfl) (argsL := [(.int p2), (.int p3), (.int p3)]) (rest := []) (lenOf pd_23 rfl) rfl (own_w rfl) (hb hby d11_8) (fun _ _ => ⟨rfl, e1q, (by decide : 0 + 0 ≤ _), (by decide : 0 + 0 ≤ _)⟩)
  dsimp only [Pt.U, Pt.locs, Pt.cells, Pt.slots] at X3 lq3 yq3 zq3 st3 hQ3
  subst lq3 yq3 zq3
  obtain ⟨rfl, N3q, e3q⟩ := hQ3
  have N3 := Fr.app N1 N3q
  have hc12_4 : ¬ (p2 = (0 : Int32)) := hnz
  refine Go.on (B := T3.setTop (mkF m 25 #[vR a1, vI p2, vI p3, vI p3, .unset] [(.int (p3 - p2))])) (fun t k => st3 _ (XS.iloadN X3.here hx rfl (hb hby d11_11) rfl (XS.ifYes X3.here hx rfl (pc0 := 12) (pc' := 22) rfl (hb hby d11_12) rfl ((if0 _ _).trans (feq hc12_4).2) (by decide) (by decide) (XS.iloadN X3.here hx rfl (hb hby d11_22) rfl (XS.iloadN X3.here hx rfl (hb hby d11_23) rfl (XS.isub X3.here hx rfl (hb hby d11_24) rfl k)))))) ?_
  rw [hsk]
  obtain ⟨cq6, kq6, q6a, q6b, q6c⟩ := isOf hZ e3q E1
  obtain ⟨_, _, ⟨T6, L6, k6, n6⟩, -, X6, ⟨Lc6, hQ6, lq6, yq6, zq6⟩, st6⟩ := X3.virtualBack hx (y := MN7) (z := MN7) hown (mg hZ hw 96 rfl) (mg hZ hw 97 rfl) (notFace_of_selects (args := #[]) (mg hZ hw 99 rfl)) (mg hZ hw 99 rfl) (mg hZ hw 98 rfl) (by decide) (backOf (W := 0) (ril1 l Z a0 hw [] a1 G1 h0 n0 Z0 F_cd O0 S_cs P5) hZ (gw hw 100 rfl) (gw hw 8 rfl) (by decide) (by decide)) q6a q6c (g := (mkF m 28 #[vR a1, vI p2, vI p3, vI p3, vI 2] [(.ref a1)])) rfl (by rw [hml]; rfl) (Steps.refl _) (argsL := []) (rest := []) (lenOf pd_5 rfl) rfl (own_w rfl) (hb hby d11_28) (fun _ _ => ⟨rfl, e3q, (by decide : 0 + 0 ≤ _), (by decide : 0 + 0 ≤ _)⟩)
  dsimp only [Pt.U, Pt.locs, Pt.cells, Pt.slots] at X6 lq6 yq6 zq6 st6 hQ6
  subst lq6 yq6 zq6
  obtain ⟨rfl, N6q, e6q⟩ := hQ6
  have N6 := Fr.app N3 N6q
  have hc31_7 : (0 : Int32) = (0 : Int32) := by decide
  obtain ⟨T8, X8, e8, st8⟩ := getF X6 hx hZ hown (host := "") (Or.inl (gw hw 25 rfl)) Via.refl e6q F_vl (g := (mkF m 48 #[vR a1, vI p2, vI p3, vI p3, vI 2] [(.ref a1)])) rfl rfl (hb hby d11_48)
  refine Go.on (B := T8.setTop (mkF m 51 #[vR a1, vI p2, vI p3, vI p3, vI 2] [(.ref a4)])) (fun t k => XS.istore X3.here hx rfl (hb hby d11_25) rfl (l' := #[vR a1, vI p2, vI p3, vI p3, vI 2]) rfl (XS.aloadN X3.here hx rfl (hb hby d11_27) rfl rfl (st6.trans (XS.ifYes X6.here hx rfl (pc0 := 31) (pc' := 47) rfl (hb hby d11_31) rfl ((if0 _ _).trans (teq hc31_7).1) (by decide) (by decide) (XS.aloadN X6.here hx rfl (hb hby d11_47) rfl rfl (st8 _ k)))))) ?_
  obtain ⟨_, _, ⟨T9, L9, k9, n9⟩, -, X9, ⟨Lc9, hQ9, lq9, yq9, zq9⟩, st9⟩ := Jvm.LawKit.callS X8 hx (y := MN23) hown (mg hZ hw 134 rfl) (mg hZ hw 135 rfl) (mg hZ hw 83 rfl) (mg hZ hw 136 rfl) (by decide) (backOf (W := 0) (rnsU2 l Z a0 hw [] a4 p2 k4 (Int32.ofNat (2 * cs.length)) (own_uv cs) p3 c0 c1 G1 G3 h0 n0 Z0 V4 hz2 hbo g0 g1 hc0 hc1 hnl hr O0 S_cs S_fm S_ad S_hi S_lo P5 rG3) hZ (gw hw 136 rfl) (gw hw 83 rfl) (by decide) (by decide)) (g := (mkF m 54 #[vR a1, vI p2, vI p3, vI p3, vI 2] [(.int 2), (.int p2), (.ref a4)])) rfl (by rw [hml]; rfl) (argsL := [(.ref a4), (.int p2), (.int 2)]) (rest := []) (lenOf pd_24 rfl) rfl (own_w rfl) (hb hby d11_54) (fun _ _ => ⟨rfl, e8, (by decide : 0 + 3 ≤ _), (by decide : 0 + 10 ≤ _)⟩)
  dsimp only [Pt.U, Pt.locs, Pt.cells, Pt.slots] at X9 lq9 yq9 zq9 st9 hQ9
  subst lq9 yq9 zq9
  obtain ⟨⟨x9, y9, ky9, rfl, Ex9, Fx9, Ax9⟩, N9q, K9q⟩ := hQ9
  have N9 := Fr.app N6 N9q
  have K7 := K0.trans K9q all0
  refine Go.on (B := T9.setTop (mkF m 57 #[vR a1, vI p2, vI p3, vI p3, vI 2] [(.ref x9)])) (fun t k => XS.iloadN X8.here hx rfl (hb hby d11_51) rfl (XS.iload X8.here hx rfl (hb hby d11_52) rfl (st9 _ k))) ?_
  refine Go.fin X9 (v := some (.ref x9)) (own_nv Bd.returns) Bd.notSynchronized ?_ rfl ⟨⟨_, _, _, rfl, Ex9, Fx9, Ax9⟩, N9, K7⟩ (by decide) (by decide)
  exact fun _ hr => retOut X9 hx Bd.returns rfl (Or.inr (Or.inr (Or.inr (Or.inr ⟨rfl, rfl, rfl⟩)))) (hb hby d11_57) hr
def Q_rs2_30 (Z : State) (a1 : Addr) (p2 : Int32) (p3 : Int32) (a4 : Addr) (k4 : ClassId) (cs : List Int32) (c0 c1 c2 : Int32) (G1 : Int32) (G3 : Value) (h0 : Heap) (n0 : Nat) (v : Option Value) (h : Heap) (L : List Loc) : Prop := (∃ (d b : Addr) (kb : ClassId), v = some (.ref d) ∧ Exa Z h d "java/lang/String" ∧ Fld Z h d "java/lang/String" "value" "[B" (.ref b) ∧ own_A Z h d b kb [c0, c1, c2]) ∧ Fr n0 L ∧ Keep h0 h []
theorem rs2_30 (l : Launch) (Z : State) (a0 : Array Value) (hw : ∀ d ∈ tables_1, d.before a0 Z = true) (ws : List Jvm.Cond) (a1 : Addr) (p2 : Int32) (p3 : Int32) (a4 : Addr) (k4 : ClassId) (cs : List Int32) (c0 c1 c2 : Int32) (G1 : Int32) (G3 : Value) (h0 : Heap) (n0 : Nat) (Z0 : n0 ≤ h0.size) (E1 : Exa Z h0 a1 "java/lang/String") (F_vl : Fld Z h0 a1 "java/lang/String" "value" "[B" (.ref a4)) (F_cd : Fld Z h0 a1 "java/lang/String" "coder" "B" (.int 0)) (V4 : Arv Z h0 a4 k4 .byte (Int32.ofNat cs.length) (own_lv cs) (.int 0)) (hl : ∀ c ∈ cs, ¬ ((255 : Int32) < c)) (hrL : ((Int32.ofNat cs.length) >>> ((0 : Int32) &&& 31)) = p3) (hrU : ((Int32.ofNat (2 * cs.length)) >>> ((1 : Int32) &&& 31)) = p3) (hi : ¬ p2 < (0 : Int32) ∧ ¬ p3 < p2 ∧ ¬ p3 < p3) (hnz : ¬ p2 = (0 : Int32)) (hsk : (p3 - p2) = (3 : Int32)) (hadd : (p2 + (3 : Int32)) = (Int32.ofNat cs.length)) (hr : own_R (Int32.ofNat cs.length) p2 (3 : Int32) (own_lv cs) [(.int (own_l c0)), (.int (own_l c1)), (.int (own_l c2))]) (hx0 : ¬ ((255 : Int32) < c0)) (hx1 : ¬ ((255 : Int32) < c1)) (hx2 : ¬ ((255 : Int32) < c2)) (O0 : Old Z n0 h0) (S_cs : own_S_cs Z G1) (S_fm : own_S_fm Z G3) (S_ad : own_S_ad Z) (S_hi : own_S_hi Z) (S_lo : own_S_lo Z) (P5 : ¬ (G1 = (0 : Int32))) (rG3 : G3.isRef = true) :
    MetFree l MN35 (head1 (Jvm.Cond.code MN35 jdk_42_method_92_code 5 (some (.object "java/lang/String")) :: ws) (rK 6 3 16 165)) (fun a U => a = #[(.ref a1), (.int p2), (.int p3)] ∧ Z.Warmed39 U.vm ∧ U.heap = h0) (fun _ _ _ _ _ => True) (fun _ U o U' => ∃ v L, o = .returned v ∧ Q_rs2_30 Z a1 p2 p3 a4 k4 cs c0 c1 c2 G1 G3 h0 n0 v U'.heap L ∧ FrameEnd U o U' L (rK 6 3 16 165).cells (rK 6 3 16 165).slots) := by
  refine MetFree.of_bodySF (plainFor_of_name pn_5) hisR ?_
  intro p e s m args below meth c sB Bd hml0 hP hK
  obtain ⟨rfl, hZ, hh⟩ := hP
  have hx := Bd.exec
  have hby := Bd.bytes
  have hml : c.maxLocals = 5 := hml0
  have hown : s.vm.findClass "java/lang/String" = some m.cls := findClass_of_methodNamed Bd.named
  have X0 : Stand p l e (rK 6 3 16 165) s m #[(.ref a1), (.int p2), (.int p3)] below meth c sB [] 0 0 := Stand.of_body Bd
  have e0 : sB.heap = h0 := by rw [← hh, Bd.state]; rfl
  have N0 := Fr.nil n0
  change Go p.tables e below _ _
  have K0 := Keep.refl h0 []
  refine Go.on (B := sB.setTop (mkF m 0 #[vR a1, vI p2, vI p3, .unset, .unset] [])) (fun t k => castTop (ef_rs2_00 m a1 p2 p3) k) ?_
  obtain ⟨cq1, kq1, q1a, q1b, q1c⟩ := isOf hZ e0 E1
  obtain ⟨_, _, ⟨T1, L1, k1, n1⟩, -, X1, ⟨Lc1, hQ1, lq1, yq1, zq1⟩, st1⟩ := X0.virtualBack hx (y := MN10) (z := MN10) hown (mg hZ hw 53 rfl) (mg hZ hw 54 rfl) (notFace_of_selects (args := #[]) (mg hZ hw 56 rfl)) (mg hZ hw 56 rfl) (mg hZ hw 55 rfl) (by decide) (backOf (W := 0) (rlen l Z a0 hw [] a1 a4 k4 cs p3 G1 h0 n0 Z0 E1 F_vl (Or.inl ⟨F_cd, V4, hl⟩) hrL hrU O0 S_cs P5) hZ (gw hw 57 rfl) (gw hw 8 rfl) (by decide) (by decide)) q1a q1c (g := (mkF m 1 #[vR a1, vI p2, vI p3, .unset, .unset] [(.ref a1)])) rfl (by rw [hml]; rfl) (Steps.refl _) (argsL := []) (rest := []) (lenOf pd_22 rfl) rfl (own_w rfl) (hb hby d11_1) (fun _ _ => ⟨rfl, e0, (by decide : 0 + 0 ≤ _), (by decide : 0 + 0 ≤ _)⟩)
  dsimp only [Pt.U, Pt.locs, Pt.cells, Pt.slots] at X1 lq1 yq1 zq1 st1 hQ1
  subst lq1 yq1 zq1
  obtain ⟨rfl, N1q, e1q⟩ := hQ1
  have N1 := Fr.app N0 N1q
  refine Go.on (B := T1.setTop (mkF m 8 #[vR a1, vI p2, vI p3, vI p3, .unset] [(.int p3), (.int p3), (.int p2)])) (fun t k => XS.aloadN X0.here hx rfl (hb hby d11_0) rfl rfl (st1.trans (XS.istoreN X1.here hx rfl (hb hby d11_4) rfl (l' := #[vR a1, vI p2, vI p3, vI p3, .unset]) rfl (XS.iloadN X1.here hx rfl (hb hby d11_5) rfl (XS.iloadN X1.here hx rfl (hb hby d11_6) rfl (XS.iloadN X1.here hx rfl (hb hby d11_7) rfl k)))))) ?_
  obtain ⟨_, _, ⟨T3, L3, k3, n3⟩, -, X3, ⟨Lc3, hQ3, lq3, yq3, zq3⟩, st3⟩ := Jvm.LawKit.callS X1 hx (y := MN12) hown (mg hZ hw 69 rfl) (mg hZ hw 70 rfl) (mg hZ hw 8 rfl) (mg hZ hw 71 rfl) (by decide) (backOf (W := 0) (rbb l Z a0 hw [] p2 p3 p3 G3 h0 n0 Z0 hi O0 S_fm rG3) hZ (gw hw 71 rfl) (gw hw 8 rfl) (by decide) (by decide)) (g := (mkF m 8 #[vR a1, vI p2, vI p3, vI p3, .unset] [(.int p3), (.int p3), (.int p2)])) rfl (by rw [hml]; rfl) (argsL := [(.int p2), (.int p3), (.int p3)]) (rest := []) (lenOf pd_23 rfl) rfl (own_w rfl) (hb hby d11_8) (fun _ _ => ⟨rfl, e1q, (by decide : 0 + 0 ≤ _), (by decide : 0 + 0 ≤ _)⟩)
  dsimp only [Pt.U, Pt.locs, Pt.cells, Pt.slots] at X3 lq3 yq3 zq3 st3 hQ3
  subst lq3 yq3 zq3
  obtain ⟨rfl, N3q, e3q⟩ := hQ3
  have N3 := Fr.app N1 N3q
  have hc12_4 : ¬ (p2 = (0 : Int32)) := hnz
  refine Go.on (B := T3.setTop (mkF m 25 #[vR a1, vI p2, vI p3, vI p3, .unset] [(.int (p3 - p2))])) (fun t k => st3 _ (XS.iloadN X3.here hx rfl (hb hby d11_11) rfl (XS.ifYes X3.here hx rfl (pc0 := 12) (pc' := 22) rfl (hb hby d11_12) rfl ((if0 _ _).trans (feq hc12_4).2) (by decide) (by decide) (XS.iloadN X3.here hx rfl (hb hby d11_22) rfl (XS.iloadN X3.here hx rfl (hb hby d11_23) rfl (XS.isub X3.here hx rfl (hb hby d11_24) rfl k)))))) ?_
  rw [hsk]
  obtain ⟨cq6, kq6, q6a, q6b, q6c⟩ := isOf hZ e3q E1
  obtain ⟨_, _, ⟨T6, L6, k6, n6⟩, -, X6, ⟨Lc6, hQ6, lq6, yq6, zq6⟩, st6⟩ := X3.virtualBack hx (y := MN7) (z := MN7) hown (mg hZ hw 96 rfl) (mg hZ hw 97 rfl) (notFace_of_selects (args := #[]) (mg hZ hw 99 rfl)) (mg hZ hw 99 rfl) (mg hZ hw 98 rfl) (by decide) (backOf (W := 0) (ril0 l Z a0 hw [] a1 G1 h0 n0 Z0 F_cd O0 S_cs P5) hZ (gw hw 100 rfl) (gw hw 8 rfl) (by decide) (by decide)) q6a q6c (g := (mkF m 28 #[vR a1, vI p2, vI p3, vI p3, vI 3] [(.ref a1)])) rfl (by rw [hml]; rfl) (Steps.refl _) (argsL := []) (rest := []) (lenOf pd_5 rfl) rfl (own_w rfl) (hb hby d11_28) (fun _ _ => ⟨rfl, e3q, (by decide : 0 + 0 ≤ _), (by decide : 0 + 0 ≤ _)⟩)
  dsimp only [Pt.U, Pt.locs, Pt.cells, Pt.slots] at X6 lq6 yq6 zq6 st6 hQ6
  subst lq6 yq6 zq6
  obtain ⟨rfl, N6q, e6q⟩ := hQ6
  have N6 := Fr.app N3 N6q
  have hc31_7 : ¬ ((1 : Int32) = (0 : Int32)) := by decide
  obtain ⟨T8, X8, e8, st8⟩ := getF X6 hx hZ hown (host := "") (Or.inl (gw hw 25 rfl)) Via.refl e6q F_vl (g := (mkF m 35 #[vR a1, vI p2, vI p3, vI p3, vI 3] [(.ref a1)])) rfl rfl (hb hby d11_35)
  refine Go.on (B := T8.setTop (mkF m 38 #[vR a1, vI p2, vI p3, vI p3, vI 3] [(.ref a4)])) (fun t k => XS.istore X3.here hx rfl (hb hby d11_25) rfl (l' := #[vR a1, vI p2, vI p3, vI p3, vI 3]) rfl (XS.aloadN X3.here hx rfl (hb hby d11_27) rfl rfl (st6.trans (XS.ifNo X6.here hx rfl (hb hby d11_31) rfl ((if0 _ _).trans (feq hc31_7).1) (XS.aloadN X6.here hx rfl (hb hby d11_34) rfl rfl (st8 _ k)))))) ?_
  obtain ⟨_, _, ⟨T9, L9, k9, n9⟩, -, X9, ⟨Lc9, hQ9, lq9, yq9, zq9⟩, st9⟩ := Jvm.LawKit.callS X8 hx (y := MN22) hown (mg hZ hw 111 rfl) (mg hZ hw 112 rfl) (mg hZ hw 103 rfl) (mg hZ hw 113 rfl) (by decide) (backOf (W := 0) (rnsL3 l Z a0 hw [] a4 p2 k4 (Int32.ofNat cs.length) (own_lv cs) c0 c1 c2 h0 n0 Z0 V4 hadd hr hx0 hx1 hx2) hZ (gw hw 113 rfl) (gw hw 103 rfl) (by decide) (by decide)) (g := (mkF m 41 #[vR a1, vI p2, vI p3, vI p3, vI 3] [(.int 3), (.int p2), (.ref a4)])) rfl (by rw [hml]; rfl) (argsL := [(.ref a4), (.int p2), (.int 3)]) (rest := []) (lenOf pd_24 rfl) rfl (own_w rfl) (hb hby d11_41) (fun _ _ => ⟨rfl, e8, (by decide : 0 + 2 ≤ _), (by decide : 0 + 7 ≤ _)⟩)
  dsimp only [Pt.U, Pt.locs, Pt.cells, Pt.slots] at X9 lq9 yq9 zq9 st9 hQ9
  subst lq9 yq9 zq9
  obtain ⟨⟨x9, y9, ky9, rfl, Ex9, Fx9, Ax9⟩, N9q, K9q⟩ := hQ9
  have N9 := Fr.app N6 N9q
  have K7 := K0.trans K9q all0
  refine Go.on (B := T9.setTop (mkF m 57 #[vR a1, vI p2, vI p3, vI p3, vI 3] [(.ref x9)])) (fun t k => XS.iloadN X8.here hx rfl (hb hby d11_38) rfl (XS.iload X8.here hx rfl (hb hby d11_39) rfl (st9 _ (XS.goto X9.here hx rfl (pc0 := 44) (pc' := 57) rfl (hb hby d11_44) (by decide) (by decide) k)))) ?_
  refine Go.fin X9 (v := some (.ref x9)) (own_nv Bd.returns) Bd.notSynchronized ?_ rfl ⟨⟨_, _, _, rfl, Ex9, Fx9, Ax9⟩, N9, K7⟩ (by decide) (by decide)
  exact fun _ hr => retOut X9 hx Bd.returns rfl (Or.inr (Or.inr (Or.inr (Or.inr ⟨rfl, rfl, rfl⟩)))) (hb hby d11_57) hr
def Q_rs2_31 (Z : State) (a1 : Addr) (p2 : Int32) (p3 : Int32) (a4 : Addr) (k4 : ClassId) (cs : List Int32) (c0 c1 c2 : Int32) (G1 : Int32) (G3 : Value) (h0 : Heap) (n0 : Nat) (v : Option Value) (h : Heap) (L : List Loc) : Prop := (∃ (d b : Addr) (kb : ClassId), v = some (.ref d) ∧ Exa Z h d "java/lang/String" ∧ Fld Z h d "java/lang/String" "value" "[B" (.ref b) ∧ own_A Z h d b kb [c0, c1, c2]) ∧ Fr n0 L ∧ Keep h0 h []
theorem rs2_31 (l : Launch) (Z : State) (a0 : Array Value) (hw : ∀ d ∈ tables_1, d.before a0 Z = true) (ws : List Jvm.Cond) (a1 : Addr) (p2 : Int32) (p3 : Int32) (a4 : Addr) (k4 : ClassId) (cs : List Int32) (c0 c1 c2 : Int32) (G1 : Int32) (G3 : Value) (h0 : Heap) (n0 : Nat) (Z0 : n0 ≤ h0.size) (E1 : Exa Z h0 a1 "java/lang/String") (F_vl : Fld Z h0 a1 "java/lang/String" "value" "[B" (.ref a4)) (F_cd : Fld Z h0 a1 "java/lang/String" "coder" "B" (.int 1)) (V4 : Arv Z h0 a4 k4 .byte (Int32.ofNat (2 * cs.length)) (own_uv cs) (.int 0)) (hrL : ((Int32.ofNat cs.length) >>> ((0 : Int32) &&& 31)) = p3) (hrU : ((Int32.ofNat (2 * cs.length)) >>> ((1 : Int32) &&& 31)) = p3) (hi : ¬ p2 < (0 : Int32) ∧ ¬ p3 < p2 ∧ ¬ p3 < p3) (hnz : ¬ p2 = (0 : Int32)) (hsk : (p3 - p2) = (3 : Int32)) (hz2 : ((Int32.ofNat (2 * cs.length)) >>> ((1 : Int32) &&& 31)) = p3) (hbo : own_B p3 p2 (3 : Int32)) (g0 : own_G (own_uv cs) (Int32.ofNat (2 * cs.length)) p2 c0) (g1 : own_G (own_uv cs) (Int32.ofNat (2 * cs.length)) (p2 + (1 : Int32)) c1) (g2 : own_G (own_uv cs) (Int32.ofNat (2 * cs.length)) ((p2 + (1 : Int32)) + (1 : Int32)) c2) (hc0 : 0 ≤ c0.toInt ∧ c0.toInt ≤ 65535) (hc1 : 0 ≤ c1.toInt ∧ c1.toInt ≤ 65535) (hc2 : 0 ≤ c2.toInt ∧ c2.toInt ≤ 65535) (hnl : ¬ (p2 + (3 : Int32)) < (0 : Int32) ∧ (p2 + (3 : Int32)) < (1073741823 : Int32) ∧ ((p2 + (3 : Int32)) <<< ((1 : Int32) &&& 31)) = (Int32.ofNat (2 * cs.length))) (hr : own_R (Int32.ofNat (2 * cs.length)) (p2 <<< ((1 : Int32) &&& 31)) (6 : Int32) (own_uv cs) [(.int (own_u0 c0)), (.int (own_u1 c0)), (.int (own_u0 c1)), (.int (own_u1 c1)), (.int (own_u0 c2)), (.int (own_u1 c2))]) (O0 : Old Z n0 h0) (S_cs : own_S_cs Z G1) (S_fm : own_S_fm Z G3) (S_ad : own_S_ad Z) (S_hi : own_S_hi Z) (S_lo : own_S_lo Z) (P5 : ¬ (G1 = (0 : Int32))) (rG3 : G3.isRef = true) :
    MetFree l MN35 (head1 (Jvm.Cond.code MN35 jdk_42_method_92_code 5 (some (.object "java/lang/String")) :: ws) (rK 6 3 16 165)) (fun a U => a = #[(.ref a1), (.int p2), (.int p3)] ∧ Z.Warmed39 U.vm ∧ U.heap = h0) (fun _ _ _ _ _ => True) (fun _ U o U' => ∃ v L, o = .returned v ∧ Q_rs2_31 Z a1 p2 p3 a4 k4 cs c0 c1 c2 G1 G3 h0 n0 v U'.heap L ∧ FrameEnd U o U' L (rK 6 3 16 165).cells (rK 6 3 16 165).slots) := by
  refine MetFree.of_bodySF (plainFor_of_name pn_5) hisR ?_
  intro p e s m args below meth c sB Bd hml0 hP hK
  obtain ⟨rfl, hZ, hh⟩ := hP
  have hx := Bd.exec
  have hby := Bd.bytes
  have hml : c.maxLocals = 5 := hml0
  have hown : s.vm.findClass "java/lang/String" = some m.cls := findClass_of_methodNamed Bd.named
  have X0 : Stand p l e (rK 6 3 16 165) s m #[(.ref a1), (.int p2), (.int p3)] below meth c sB [] 0 0 := Stand.of_body Bd
  have e0 : sB.heap = h0 := by rw [← hh, Bd.state]; rfl
  have N0 := Fr.nil n0
  change Go p.tables e below _ _
  have K0 := Keep.refl h0 []
  refine Go.on (B := sB.setTop (mkF m 0 #[vR a1, vI p2, vI p3, .unset, .unset] [])) (fun t k => castTop (ef_rs2_00 m a1 p2 p3) k) ?_
  obtain ⟨cq1, kq1, q1a, q1b, q1c⟩ := isOf hZ e0 E1
  obtain ⟨_, _, ⟨T1, L1, k1, n1⟩, -, X1, ⟨Lc1, hQ1, lq1, yq1, zq1⟩, st1⟩ := X0.virtualBack hx (y := MN10) (z := MN10) hown (mg hZ hw 53 rfl) (mg hZ hw 54 rfl) (notFace_of_selects (args := #[]) (mg hZ hw 56 rfl)) (mg hZ hw 56 rfl) (mg hZ hw 55 rfl) (by decide) (backOf (W := 0) (rlen l Z a0 hw [] a1 a4 k4 cs p3 G1 h0 n0 Z0 E1 F_vl (Or.inr ⟨F_cd, V4⟩) hrL hrU O0 S_cs P5) hZ (gw hw 57 rfl) (gw hw 8 rfl) (by decide) (by decide)) q1a q1c (g := (mkF m 1 #[vR a1, vI p2, vI p3, .unset, .unset] [(.ref a1)])) rfl (by rw [hml]; rfl) (Steps.refl _) (argsL := []) (rest := []) (lenOf pd_22 rfl) rfl (own_w rfl) (hb hby d11_1) (fun _ _ => ⟨rfl, e0, (by decide : 0 + 0 ≤ _), (by decide : 0 + 0 ≤ _)⟩)
  dsimp only [Pt.U, Pt.locs, Pt.cells, Pt.slots] at X1 lq1 yq1 zq1 st1 hQ1
  subst lq1 yq1 zq1
  obtain ⟨rfl, N1q, e1q⟩ := hQ1
  have N1 := Fr.app N0 N1q
  refine Go.on (B := T1.setTop (mkF m 8 #[vR a1, vI p2, vI p3, vI p3, .unset] [(.int p3), (.int p3), (.int p2)])) (fun t k => XS.aloadN X0.here hx rfl (hb hby d11_0) rfl rfl (st1.trans (XS.istoreN X1.here hx rfl (hb hby d11_4) rfl (l' := #[vR a1, vI p2, vI p3, vI p3, .unset]) rfl (XS.iloadN X1.here hx rfl (hb hby d11_5) rfl (XS.iloadN X1.here hx rfl (hb hby d11_6) rfl (XS.iloadN X1.here hx rfl (hb hby d11_7) rfl k)))))) ?_
  obtain ⟨_, _, ⟨T3, L3, k3, n3⟩, -, X3, ⟨Lc3, hQ3, lq3, yq3, zq3⟩, st3⟩ := Jvm.LawKit.callS X1 hx (y := MN12) hown (mg hZ hw 69 rfl) (mg hZ hw 70 rfl) (mg hZ hw 8 rfl) (mg hZ hw 71 rfl) (by decide) (backOf (W := 0) (rbb l Z a0 hw [] p2 p3 p3 G3 h0 n0 Z0 hi O0 S_fm rG3) hZ (gw hw 71 rfl) (gw hw 8 rfl) (by decide) (by decide)) (g := (mkF m 8 #[vR a1, vI p2, vI p3, vI p3, .unset] [(.int p3), (.int p3), (.int p2)])) rfl (by rw [hml]; rfl) (argsL := [(.int p2), (.int p3), (.int p3)]) (rest := []) (lenOf pd_23 rfl) rfl (own_w rfl) (hb hby d11_8) (fun _ _ => ⟨rfl, e1q, (by decide : 0 + 0 ≤ _), (by decide : 0 + 0 ≤ _)⟩)
  dsimp only [Pt.U, Pt.locs, Pt.cells, Pt.slots] at X3 lq3 yq3 zq3 st3 hQ3
  subst lq3 yq3 zq3
  obtain ⟨rfl, N3q, e3q⟩ := hQ3
  have N3 := Fr.app N1 N3q
  have hc12_4 : ¬ (p2 = (0 : Int32)) := hnz
  refine Go.on (B := T3.setTop (mkF m 25 #[vR a1, vI p2, vI p3, vI p3, .unset] [(.int (p3 - p2))])) (fun t k => st3 _ (XS.iloadN X3.here hx rfl (hb hby d11_11) rfl (XS.ifYes X3.here hx rfl (pc0 := 12) (pc' := 22) rfl (hb hby d11_12) rfl ((if0 _ _).trans (feq hc12_4).2) (by decide) (by decide) (XS.iloadN X3.here hx rfl (hb hby d11_22) rfl (XS.iloadN X3.here hx rfl (hb hby d11_23) rfl (XS.isub X3.here hx rfl (hb hby d11_24) rfl k)))))) ?_
  rw [hsk]
  obtain ⟨cq6, kq6, q6a, q6b, q6c⟩ := isOf hZ e3q E1
  obtain ⟨_, _, ⟨T6, L6, k6, n6⟩, -, X6, ⟨Lc6, hQ6, lq6, yq6, zq6⟩, st6⟩ := X3.virtualBack hx (y := MN7) (z := MN7) hown (mg hZ hw 96 rfl) (mg hZ hw 97 rfl) (notFace_of_selects (args := #[]) (mg hZ hw 99 rfl)) (mg hZ hw 99 rfl) (mg hZ hw 98 rfl) (by decide) (backOf (W := 0) (ril1 l Z a0 hw [] a1 G1 h0 n0 Z0 F_cd O0 S_cs P5) hZ (gw hw 100 rfl) (gw hw 8 rfl) (by decide) (by decide)) q6a q6c (g := (mkF m 28 #[vR a1, vI p2, vI p3, vI p3, vI 3] [(.ref a1)])) rfl (by rw [hml]; rfl) (Steps.refl _) (argsL := []) (rest := []) (lenOf pd_5 rfl) rfl (own_w rfl) (hb hby d11_28) (fun _ _ => ⟨rfl, e3q, (by decide : 0 + 0 ≤ _), (by decide : 0 + 0 ≤ _)⟩)
  dsimp only [Pt.U, Pt.locs, Pt.cells, Pt.slots] at X6 lq6 yq6 zq6 st6 hQ6
  subst lq6 yq6 zq6
  obtain ⟨rfl, N6q, e6q⟩ := hQ6
  have N6 := Fr.app N3 N6q
  have hc31_7 : (0 : Int32) = (0 : Int32) := by decide
  obtain ⟨T8, X8, e8, st8⟩ := getF X6 hx hZ hown (host := "") (Or.inl (gw hw 25 rfl)) Via.refl e6q F_vl (g := (mkF m 48 #[vR a1, vI p2, vI p3, vI p3, vI 3] [(.ref a1)])) rfl rfl (hb hby d11_48)
  refine Go.on (B := T8.setTop (mkF m 51 #[vR a1, vI p2, vI p3, vI p3, vI 3] [(.ref a4)])) (fun t k => XS.istore X3.here hx rfl (hb hby d11_25) rfl (l' := #[vR a1, vI p2, vI p3, vI p3, vI 3]) rfl (XS.aloadN X3.here hx rfl (hb hby d11_27) rfl rfl (st6.trans (XS.ifYes X6.here hx rfl (pc0 := 31) (pc' := 47) rfl (hb hby d11_31) rfl ((if0 _ _).trans (teq hc31_7).1) (by decide) (by decide) (XS.aloadN X6.here hx rfl (hb hby d11_47) rfl rfl (st8 _ k)))))) ?_
  obtain ⟨_, _, ⟨T9, L9, k9, n9⟩, -, X9, ⟨Lc9, hQ9, lq9, yq9, zq9⟩, st9⟩ := Jvm.LawKit.callS X8 hx (y := MN23) hown (mg hZ hw 134 rfl) (mg hZ hw 135 rfl) (mg hZ hw 83 rfl) (mg hZ hw 136 rfl) (by decide) (backOf (W := 0) (rnsU3 l Z a0 hw [] a4 p2 k4 (Int32.ofNat (2 * cs.length)) (own_uv cs) p3 c0 c1 c2 G1 G3 h0 n0 Z0 V4 hz2 hbo g0 g1 g2 hc0 hc1 hc2 hnl hr O0 S_cs S_fm S_ad S_hi S_lo P5 rG3) hZ (gw hw 136 rfl) (gw hw 83 rfl) (by decide) (by decide)) (g := (mkF m 54 #[vR a1, vI p2, vI p3, vI p3, vI 3] [(.int 3), (.int p2), (.ref a4)])) rfl (by rw [hml]; rfl) (argsL := [(.ref a4), (.int p2), (.int 3)]) (rest := []) (lenOf pd_24 rfl) rfl (own_w rfl) (hb hby d11_54) (fun _ _ => ⟨rfl, e8, (by decide : 0 + 3 ≤ _), (by decide : 0 + 13 ≤ _)⟩)
  dsimp only [Pt.U, Pt.locs, Pt.cells, Pt.slots] at X9 lq9 yq9 zq9 st9 hQ9
  subst lq9 yq9 zq9
  obtain ⟨⟨x9, y9, ky9, rfl, Ex9, Fx9, Ax9⟩, N9q, K9q⟩ := hQ9
  have N9 := Fr.app N6 N9q
  have K7 := K0.trans K9q all0
  refine Go.on (B := T9.setTop (mkF m 57 #[vR a1, vI p2, vI p3, vI p3, vI 3] [(.ref x9)])) (fun t k => XS.iloadN X8.here hx rfl (hb hby d11_51) rfl (XS.iload X8.here hx rfl (hb hby d11_52) rfl (st9 _ k))) ?_
  refine Go.fin X9 (v := some (.ref x9)) (own_nv Bd.returns) Bd.notSynchronized ?_ rfl ⟨⟨_, _, _, rfl, Ex9, Fx9, Ax9⟩, N9, K7⟩ (by decide) (by decide)
  exact fun _ hr => retOut X9 hx Bd.returns rfl (Or.inr (Or.inr (Or.inr (Or.inr ⟨rfl, rfl, rfl⟩)))) (hb hby d11_57) hr
def own_NS (n s : Int32) : Prop := (n = (1 : Int32) ∧ s = (0 : Int32)) ∨ (n = (1 : Int32) ∧ s = (1 : Int32)) ∨ (n = (2 : Int32) ∧ s = (0 : Int32)) ∨ (n = (2 : Int32) ∧ s = (1 : Int32)) ∨ (n = (2 : Int32) ∧ s = (2 : Int32)) ∨ (n = (3 : Int32) ∧ s = (0 : Int32)) ∨ (n = (3 : Int32) ∧ s = (1 : Int32)) ∨ (n = (3 : Int32) ∧ s = (2 : Int32)) ∨ (n = (3 : Int32) ∧ s = (3 : Int32)) ∨ (n = (4 : Int32) ∧ s = (0 : Int32)) ∨ (n = (4 : Int32) ∧ s = (1 : Int32)) ∨ (n = (4 : Int32) ∧ s = (2 : Int32)) ∨ (n = (4 : Int32) ∧ s = (3 : Int32)) ∨ (n = (4 : Int32) ∧ s = (4 : Int32))
theorem own_lenT {n s : Int32} (h : own_NS n s) (c0 c1 c2 c3 : Int32) : ((Int32.ofNat (own_take n c0 c1 c2 c3).length) >>> ((0 : Int32) &&& 31)) = n ∧ ((Int32.ofNat (2 * (own_take n c0 c1 c2 c3).length)) >>> ((1 : Int32) &&& 31)) = n := by
  rcases h with ⟨rfl, rfl⟩ | ⟨rfl, rfl⟩ | ⟨rfl, rfl⟩ | ⟨rfl, rfl⟩ | ⟨rfl, rfl⟩ | ⟨rfl, rfl⟩ | ⟨rfl, rfl⟩ | ⟨rfl, rfl⟩ | ⟨rfl, rfl⟩ | ⟨rfl, rfl⟩ | ⟨rfl, rfl⟩ | ⟨rfl, rfl⟩ | ⟨rfl, rfl⟩ | ⟨rfl, rfl⟩
  · exact ⟨(show ((Int32.ofNat 1) >>> ((0 : Int32) &&& 31)) = (1 : Int32) from by decide), (show ((Int32.ofNat (2 * 1)) >>> ((1 : Int32) &&& 31)) = (1 : Int32) from by decide)⟩
  · exact ⟨(show ((Int32.ofNat 1) >>> ((0 : Int32) &&& 31)) = (1 : Int32) from by decide), (show ((Int32.ofNat (2 * 1)) >>> ((1 : Int32) &&& 31)) = (1 : Int32) from by decide)⟩
  · exact ⟨(show ((Int32.ofNat 2) >>> ((0 : Int32) &&& 31)) = (2 : Int32) from by decide), (show ((Int32.ofNat (2 * 2)) >>> ((1 : Int32) &&& 31)) = (2 : Int32) from by decide)⟩
  · exact ⟨(show ((Int32.ofNat 2) >>> ((0 : Int32) &&& 31)) = (2 : Int32) from by decide), (show ((Int32.ofNat (2 * 2)) >>> ((1 : Int32) &&& 31)) = (2 : Int32) from by decide)⟩
  · exact ⟨(show ((Int32.ofNat 2) >>> ((0 : Int32) &&& 31)) = (2 : Int32) from by decide), (show ((Int32.ofNat (2 * 2)) >>> ((1 : Int32) &&& 31)) = (2 : Int32) from by decide)⟩
  · exact ⟨(show ((Int32.ofNat 3) >>> ((0 : Int32) &&& 31)) = (3 : Int32) from by decide), (show ((Int32.ofNat (2 * 3)) >>> ((1 : Int32) &&& 31)) = (3 : Int32) from by decide)⟩
  · exact ⟨(show ((Int32.ofNat 3) >>> ((0 : Int32) &&& 31)) = (3 : Int32) from by decide), (show ((Int32.ofNat (2 * 3)) >>> ((1 : Int32) &&& 31)) = (3 : Int32) from by decide)⟩
  · exact ⟨(show ((Int32.ofNat 3) >>> ((0 : Int32) &&& 31)) = (3 : Int32) from by decide), (show ((Int32.ofNat (2 * 3)) >>> ((1 : Int32) &&& 31)) = (3 : Int32) from by decide)⟩
  · exact ⟨(show ((Int32.ofNat 3) >>> ((0 : Int32) &&& 31)) = (3 : Int32) from by decide), (show ((Int32.ofNat (2 * 3)) >>> ((1 : Int32) &&& 31)) = (3 : Int32) from by decide)⟩
  · exact ⟨(show ((Int32.ofNat 4) >>> ((0 : Int32) &&& 31)) = (4 : Int32) from by decide), (show ((Int32.ofNat (2 * 4)) >>> ((1 : Int32) &&& 31)) = (4 : Int32) from by decide)⟩
  · exact ⟨(show ((Int32.ofNat 4) >>> ((0 : Int32) &&& 31)) = (4 : Int32) from by decide), (show ((Int32.ofNat (2 * 4)) >>> ((1 : Int32) &&& 31)) = (4 : Int32) from by decide)⟩
  · exact ⟨(show ((Int32.ofNat 4) >>> ((0 : Int32) &&& 31)) = (4 : Int32) from by decide), (show ((Int32.ofNat (2 * 4)) >>> ((1 : Int32) &&& 31)) = (4 : Int32) from by decide)⟩
  · exact ⟨(show ((Int32.ofNat 4) >>> ((0 : Int32) &&& 31)) = (4 : Int32) from by decide), (show ((Int32.ofNat (2 * 4)) >>> ((1 : Int32) &&& 31)) = (4 : Int32) from by decide)⟩
  · exact ⟨(show ((Int32.ofNat 4) >>> ((0 : Int32) &&& 31)) = (4 : Int32) from by decide), (show ((Int32.ofNat (2 * 4)) >>> ((1 : Int32) &&& 31)) = (4 : Int32) from by decide)⟩
theorem own_lenD {n s : Int32} (h : own_NS n s) (c0 c1 c2 c3 : Int32) : ((Int32.ofNat (own_cs n s c0 c1 c2 c3).length) >>> ((0 : Int32) &&& 31)) = (n - s) ∧ ((Int32.ofNat (2 * (own_cs n s c0 c1 c2 c3).length)) >>> ((1 : Int32) &&& 31)) = (n - s) := by
  rcases h with ⟨rfl, rfl⟩ | ⟨rfl, rfl⟩ | ⟨rfl, rfl⟩ | ⟨rfl, rfl⟩ | ⟨rfl, rfl⟩ | ⟨rfl, rfl⟩ | ⟨rfl, rfl⟩ | ⟨rfl, rfl⟩ | ⟨rfl, rfl⟩ | ⟨rfl, rfl⟩ | ⟨rfl, rfl⟩ | ⟨rfl, rfl⟩ | ⟨rfl, rfl⟩ | ⟨rfl, rfl⟩
  · exact (show _ ∧ _ from ⟨(show ((Int32.ofNat 1) >>> ((0 : Int32) &&& 31)) = (1 : Int32) - (0 : Int32) from by decide), (show ((Int32.ofNat (2 * 1)) >>> ((1 : Int32) &&& 31)) = (1 : Int32) - (0 : Int32) from by decide)⟩)
  · exact (show _ ∧ _ from ⟨(show ((Int32.ofNat 0) >>> ((0 : Int32) &&& 31)) = (1 : Int32) - (1 : Int32) from by decide), (show ((Int32.ofNat (2 * 0)) >>> ((1 : Int32) &&& 31)) = (1 : Int32) - (1 : Int32) from by decide)⟩)
  · exact (show _ ∧ _ from ⟨(show ((Int32.ofNat 2) >>> ((0 : Int32) &&& 31)) = (2 : Int32) - (0 : Int32) from by decide), (show ((Int32.ofNat (2 * 2)) >>> ((1 : Int32) &&& 31)) = (2 : Int32) - (0 : Int32) from by decide)⟩)
  · exact (show _ ∧ _ from ⟨(show ((Int32.ofNat 1) >>> ((0 : Int32) &&& 31)) = (2 : Int32) - (1 : Int32) from by decide), (show ((Int32.ofNat (2 * 1)) >>> ((1 : Int32) &&& 31)) = (2 : Int32) - (1 : Int32) from by decide)⟩)
  · exact (show _ ∧ _ from ⟨(show ((Int32.ofNat 0) >>> ((0 : Int32) &&& 31)) = (2 : Int32) - (2 : Int32) from by decide), (show ((Int32.ofNat (2 * 0)) >>> ((1 : Int32) &&& 31)) = (2 : Int32) - (2 : Int32) from by decide)⟩)
  · exact (show _ ∧ _ from ⟨(show ((Int32.ofNat 3) >>> ((0 : Int32) &&& 31)) = (3 : Int32) - (0 : Int32) from by decide), (show ((Int32.ofNat (2 * 3)) >>> ((1 : Int32) &&& 31)) = (3 : Int32) - (0 : Int32) from by decide)⟩)
  · exact (show _ ∧ _ from ⟨(show ((Int32.ofNat 2) >>> ((0 : Int32) &&& 31)) = (3 : Int32) - (1 : Int32) from by decide), (show ((Int32.ofNat (2 * 2)) >>> ((1 : Int32) &&& 31)) = (3 : Int32) - (1 : Int32) from by decide)⟩)
  · exact (show _ ∧ _ from ⟨(show ((Int32.ofNat 1) >>> ((0 : Int32) &&& 31)) = (3 : Int32) - (2 : Int32) from by decide), (show ((Int32.ofNat (2 * 1)) >>> ((1 : Int32) &&& 31)) = (3 : Int32) - (2 : Int32) from by decide)⟩)
  · exact (show _ ∧ _ from ⟨(show ((Int32.ofNat 0) >>> ((0 : Int32) &&& 31)) = (3 : Int32) - (3 : Int32) from by decide), (show ((Int32.ofNat (2 * 0)) >>> ((1 : Int32) &&& 31)) = (3 : Int32) - (3 : Int32) from by decide)⟩)
  · exact (show _ ∧ _ from ⟨(show ((Int32.ofNat 4) >>> ((0 : Int32) &&& 31)) = (4 : Int32) - (0 : Int32) from by decide), (show ((Int32.ofNat (2 * 4)) >>> ((1 : Int32) &&& 31)) = (4 : Int32) - (0 : Int32) from by decide)⟩)
  · exact (show _ ∧ _ from ⟨(show ((Int32.ofNat 3) >>> ((0 : Int32) &&& 31)) = (4 : Int32) - (1 : Int32) from by decide), (show ((Int32.ofNat (2 * 3)) >>> ((1 : Int32) &&& 31)) = (4 : Int32) - (1 : Int32) from by decide)⟩)
  · exact (show _ ∧ _ from ⟨(show ((Int32.ofNat 2) >>> ((0 : Int32) &&& 31)) = (4 : Int32) - (2 : Int32) from by decide), (show ((Int32.ofNat (2 * 2)) >>> ((1 : Int32) &&& 31)) = (4 : Int32) - (2 : Int32) from by decide)⟩)
  · exact (show _ ∧ _ from ⟨(show ((Int32.ofNat 1) >>> ((0 : Int32) &&& 31)) = (4 : Int32) - (3 : Int32) from by decide), (show ((Int32.ofNat (2 * 1)) >>> ((1 : Int32) &&& 31)) = (4 : Int32) - (3 : Int32) from by decide)⟩)
  · exact (show _ ∧ _ from ⟨(show ((Int32.ofNat 0) >>> ((0 : Int32) &&& 31)) = (4 : Int32) - (4 : Int32) from by decide), (show ((Int32.ofNat (2 * 0)) >>> ((1 : Int32) &&& 31)) = (4 : Int32) - (4 : Int32) from by decide)⟩)
theorem own_m5 (x v : Int32) (h : ((x &&& (2147483647 : Int32)) % (5 : Int32)) = v) : 0 ≤ v.toInt ∧ v.toInt ≤ 4 := by
  have a := (c_and x (2147483647 : Int32) (by decide)).1
  have q := (c_irem (x &&& (2147483647 : Int32)) 5 5 (by decide)).1 a
  rw [h] at q
  omega
theorem own_n1 {n : Int32} (h : 0 ≤ n.toInt ∧ n.toInt ≤ 4) : (n + (1 : Int32)).toInt = n.toInt + 1 := by
  have k := c_iadd n 1
  have r := rng32 (n + 1)
  rw [show (1 : Int32).toInt = 1 from by decide] at k
  omega
theorem own_n1z {n : Int32} (h : 0 ≤ n.toInt ∧ n.toInt ≤ 4) : (n + (1 : Int32)) ≠ 0 := fun q => by
  have k := own_n1 h
  rw [q, show (0 : Int32).toInt = 0 from by decide] at k
  omega
theorem own_ms (x n v : Int32) (hn : 0 ≤ n.toInt ∧ n.toInt ≤ 4) (h : ((x &&& (2147483647 : Int32)) % (n + (1 : Int32))) = v) : 0 ≤ v.toInt ∧ v.toInt ≤ n.toInt := by
  have a := (c_and x (2147483647 : Int32) (by decide)).1
  have k := own_n1 hn
  have q := (c_iremV (x &&& (2147483647 : Int32)) (n + (1 : Int32))).1 a (by omega)
  rw [h] at q
  omega
theorem own_is (x : Int32) (j : Int32) (h : x.toInt = j.toInt) : x = j := Int32.toInt_inj.mp h
theorem own_c5 {n : Int32} (h : 0 ≤ n.toInt ∧ n.toInt ≤ 4) : n = (0 : Int32) ∨ n = (1 : Int32) ∨ n = (2 : Int32) ∨ n = (3 : Int32) ∨ n = (4 : Int32) := by
  rcases (by omega : n.toInt = 0 ∨ n.toInt = 1 ∨ n.toInt = 2 ∨ n.toInt = 3 ∨ n.toInt = 4) with q | q | q | q | q
  · exact Or.inl (own_is n 0 q)
  · exact Or.inr (Or.inl (own_is n 1 q))
  · exact Or.inr (Or.inr (Or.inl (own_is n 2 q)))
  · exact Or.inr (Or.inr (Or.inr (Or.inl (own_is n 3 q))))
  · exact Or.inr (Or.inr (Or.inr (Or.inr (own_is n 4 q))))
theorem own_ns {n s : Int32} (hn : 0 ≤ n.toInt ∧ n.toInt ≤ 4) (hs : 0 ≤ s.toInt ∧ s.toInt ≤ n.toInt) (h0 : ¬ n = (0 : Int32)) : own_NS n s := by
  have hs5 : 0 ≤ s.toInt ∧ s.toInt ≤ 4 := by omega
  rcases own_c5 hn with rfl | rfl | rfl | rfl | rfl
  · exact absurd rfl h0
  all_goals rcases own_c5 hs5 with rfl | rfl | rfl | rfl | rfl
  all_goals first | (simp only [own_NS]; decide) | exact absurd hs.2 (by decide)
theorem own_s0 {s : Int32} (hs : 0 ≤ s.toInt ∧ s.toInt ≤ (0 : Int32).toInt) : s = (0 : Int32) := own_is s 0 (by rw [show (0 : Int32).toInt = 0 from by decide] at hs ⊢; omega)
theorem own_n4 {n : Int32} (hn : 0 ≤ n.toInt ∧ n.toInt ≤ 4) (h0 : ¬ n = (0 : Int32)) : n = (1 : Int32) ∨ n = (2 : Int32) ∨ n = (3 : Int32) ∨ n = (4 : Int32) := (own_c5 hn).resolve_left h0
def own_at (c0 c1 c2 c3 i : Int32) : Int32 := ([c0, c1, c2, c3] : List Int32).getD i.toNatClampNeg 0
def own_P (cs : List Int32) (c0 c1 c2 c3 s i c : Int32) : Prop :=
  c ∈ cs ∧ ((¬ (s + i) < 0 ∧ (s + i) < (4 : Int32)) ∧ ([(.int c0), (.int c1), (.int c2), (.int c3)] : List Value).getD (s + i).toNatClampNeg (.int 0) = .int c) ∧
  ((¬ i < (0 : Int32) ∧ i < (Int32.ofNat cs.length)) ∧ (own_lv cs).getD i.toNatClampNeg (.int 0) = .int (own_l c)) ∧ own_G (own_uv cs) (Int32.ofNat (2 * cs.length)) i c
theorem own_sm0 {n s : Int32} (h : own_NS n s) (c0 c1 c2 c3 : Int32) (q : (0 : Int32) < n - s) : own_P (own_cs n s c0 c1 c2 c3) c0 c1 c2 c3 s (0 : Int32) (own_at c0 c1 c2 c3 (s + (0 : Int32))) := by
  rcases h with ⟨rfl, rfl⟩ | ⟨rfl, rfl⟩ | ⟨rfl, rfl⟩ | ⟨rfl, rfl⟩ | ⟨rfl, rfl⟩ | ⟨rfl, rfl⟩ | ⟨rfl, rfl⟩ | ⟨rfl, rfl⟩ | ⟨rfl, rfl⟩ | ⟨rfl, rfl⟩ | ⟨rfl, rfl⟩ | ⟨rfl, rfl⟩ | ⟨rfl, rfl⟩ | ⟨rfl, rfl⟩
  · exact (show own_P [c0] c0 c1 c2 c3 (0 : Int32) (0 : Int32) c0 from ⟨List.mem_of_getElem? (i := 0) rfl, ⟨⟨by decide, by decide⟩, rfl⟩, ⟨⟨by decide, show ((0 : Int32)) < Int32.ofNat 1 from by decide⟩, rfl⟩, ⟨by decide, show _ < Int32.ofNat 2 from by decide⟩, rfl, ⟨by decide, show _ < Int32.ofNat 2 from by decide⟩, rfl⟩)
  · exact absurd q (by decide)
  · exact (show own_P [c0, c1] c0 c1 c2 c3 (0 : Int32) (0 : Int32) c0 from ⟨List.mem_of_getElem? (i := 0) rfl, ⟨⟨by decide, by decide⟩, rfl⟩, ⟨⟨by decide, show ((0 : Int32)) < Int32.ofNat 2 from by decide⟩, rfl⟩, ⟨by decide, show _ < Int32.ofNat 4 from by decide⟩, rfl, ⟨by decide, show _ < Int32.ofNat 4 from by decide⟩, rfl⟩)
  · exact (show own_P [c1] c0 c1 c2 c3 (1 : Int32) (0 : Int32) c1 from ⟨List.mem_of_getElem? (i := 0) rfl, ⟨⟨by decide, by decide⟩, rfl⟩, ⟨⟨by decide, show ((0 : Int32)) < Int32.ofNat 1 from by decide⟩, rfl⟩, ⟨by decide, show _ < Int32.ofNat 2 from by decide⟩, rfl, ⟨by decide, show _ < Int32.ofNat 2 from by decide⟩, rfl⟩)
  · exact absurd q (by decide)
  · exact (show own_P [c0, c1, c2] c0 c1 c2 c3 (0 : Int32) (0 : Int32) c0 from ⟨List.mem_of_getElem? (i := 0) rfl, ⟨⟨by decide, by decide⟩, rfl⟩, ⟨⟨by decide, show ((0 : Int32)) < Int32.ofNat 3 from by decide⟩, rfl⟩, ⟨by decide, show _ < Int32.ofNat 6 from by decide⟩, rfl, ⟨by decide, show _ < Int32.ofNat 6 from by decide⟩, rfl⟩)
  · exact (show own_P [c1, c2] c0 c1 c2 c3 (1 : Int32) (0 : Int32) c1 from ⟨List.mem_of_getElem? (i := 0) rfl, ⟨⟨by decide, by decide⟩, rfl⟩, ⟨⟨by decide, show ((0 : Int32)) < Int32.ofNat 2 from by decide⟩, rfl⟩, ⟨by decide, show _ < Int32.ofNat 4 from by decide⟩, rfl, ⟨by decide, show _ < Int32.ofNat 4 from by decide⟩, rfl⟩)
  · exact (show own_P [c2] c0 c1 c2 c3 (2 : Int32) (0 : Int32) c2 from ⟨List.mem_of_getElem? (i := 0) rfl, ⟨⟨by decide, by decide⟩, rfl⟩, ⟨⟨by decide, show ((0 : Int32)) < Int32.ofNat 1 from by decide⟩, rfl⟩, ⟨by decide, show _ < Int32.ofNat 2 from by decide⟩, rfl, ⟨by decide, show _ < Int32.ofNat 2 from by decide⟩, rfl⟩)
  · exact absurd q (by decide)
  · exact (show own_P [c0, c1, c2, c3] c0 c1 c2 c3 (0 : Int32) (0 : Int32) c0 from ⟨List.mem_of_getElem? (i := 0) rfl, ⟨⟨by decide, by decide⟩, rfl⟩, ⟨⟨by decide, show ((0 : Int32)) < Int32.ofNat 4 from by decide⟩, rfl⟩, ⟨by decide, show _ < Int32.ofNat 8 from by decide⟩, rfl, ⟨by decide, show _ < Int32.ofNat 8 from by decide⟩, rfl⟩)
  · exact (show own_P [c1, c2, c3] c0 c1 c2 c3 (1 : Int32) (0 : Int32) c1 from ⟨List.mem_of_getElem? (i := 0) rfl, ⟨⟨by decide, by decide⟩, rfl⟩, ⟨⟨by decide, show ((0 : Int32)) < Int32.ofNat 3 from by decide⟩, rfl⟩, ⟨by decide, show _ < Int32.ofNat 6 from by decide⟩, rfl, ⟨by decide, show _ < Int32.ofNat 6 from by decide⟩, rfl⟩)
  · exact (show own_P [c2, c3] c0 c1 c2 c3 (2 : Int32) (0 : Int32) c2 from ⟨List.mem_of_getElem? (i := 0) rfl, ⟨⟨by decide, by decide⟩, rfl⟩, ⟨⟨by decide, show ((0 : Int32)) < Int32.ofNat 2 from by decide⟩, rfl⟩, ⟨by decide, show _ < Int32.ofNat 4 from by decide⟩, rfl, ⟨by decide, show _ < Int32.ofNat 4 from by decide⟩, rfl⟩)
  · exact (show own_P [c3] c0 c1 c2 c3 (3 : Int32) (0 : Int32) c3 from ⟨List.mem_of_getElem? (i := 0) rfl, ⟨⟨by decide, by decide⟩, rfl⟩, ⟨⟨by decide, show ((0 : Int32)) < Int32.ofNat 1 from by decide⟩, rfl⟩, ⟨by decide, show _ < Int32.ofNat 2 from by decide⟩, rfl, ⟨by decide, show _ < Int32.ofNat 2 from by decide⟩, rfl⟩)
  · exact absurd q (by decide)
theorem own_sm1 {n s : Int32} (h : own_NS n s) (c0 c1 c2 c3 : Int32) (q : (1 : Int32) < n - s) : own_P (own_cs n s c0 c1 c2 c3) c0 c1 c2 c3 s (1 : Int32) (own_at c0 c1 c2 c3 (s + (1 : Int32))) := by
  rcases h with ⟨rfl, rfl⟩ | ⟨rfl, rfl⟩ | ⟨rfl, rfl⟩ | ⟨rfl, rfl⟩ | ⟨rfl, rfl⟩ | ⟨rfl, rfl⟩ | ⟨rfl, rfl⟩ | ⟨rfl, rfl⟩ | ⟨rfl, rfl⟩ | ⟨rfl, rfl⟩ | ⟨rfl, rfl⟩ | ⟨rfl, rfl⟩ | ⟨rfl, rfl⟩ | ⟨rfl, rfl⟩
  · exact absurd q (by decide)
  · exact absurd q (by decide)
  · exact (show own_P [c0, c1] c0 c1 c2 c3 (0 : Int32) (1 : Int32) c1 from ⟨List.mem_of_getElem? (i := 1) rfl, ⟨⟨by decide, by decide⟩, rfl⟩, ⟨⟨by decide, show ((1 : Int32)) < Int32.ofNat 2 from by decide⟩, rfl⟩, ⟨by decide, show _ < Int32.ofNat 4 from by decide⟩, rfl, ⟨by decide, show _ < Int32.ofNat 4 from by decide⟩, rfl⟩)
  · exact absurd q (by decide)
  · exact absurd q (by decide)
  · exact (show own_P [c0, c1, c2] c0 c1 c2 c3 (0 : Int32) (1 : Int32) c1 from ⟨List.mem_of_getElem? (i := 1) rfl, ⟨⟨by decide, by decide⟩, rfl⟩, ⟨⟨by decide, show ((1 : Int32)) < Int32.ofNat 3 from by decide⟩, rfl⟩, ⟨by decide, show _ < Int32.ofNat 6 from by decide⟩, rfl, ⟨by decide, show _ < Int32.ofNat 6 from by decide⟩, rfl⟩)
  · exact (show own_P [c1, c2] c0 c1 c2 c3 (1 : Int32) (1 : Int32) c2 from ⟨List.mem_of_getElem? (i := 1) rfl, ⟨⟨by decide, by decide⟩, rfl⟩, ⟨⟨by decide, show ((1 : Int32)) < Int32.ofNat 2 from by decide⟩, rfl⟩, ⟨by decide, show _ < Int32.ofNat 4 from by decide⟩, rfl, ⟨by decide, show _ < Int32.ofNat 4 from by decide⟩, rfl⟩)
  · exact absurd q (by decide)
  · exact absurd q (by decide)
  · exact (show own_P [c0, c1, c2, c3] c0 c1 c2 c3 (0 : Int32) (1 : Int32) c1 from ⟨List.mem_of_getElem? (i := 1) rfl, ⟨⟨by decide, by decide⟩, rfl⟩, ⟨⟨by decide, show ((1 : Int32)) < Int32.ofNat 4 from by decide⟩, rfl⟩, ⟨by decide, show _ < Int32.ofNat 8 from by decide⟩, rfl, ⟨by decide, show _ < Int32.ofNat 8 from by decide⟩, rfl⟩)
  · exact (show own_P [c1, c2, c3] c0 c1 c2 c3 (1 : Int32) (1 : Int32) c2 from ⟨List.mem_of_getElem? (i := 1) rfl, ⟨⟨by decide, by decide⟩, rfl⟩, ⟨⟨by decide, show ((1 : Int32)) < Int32.ofNat 3 from by decide⟩, rfl⟩, ⟨by decide, show _ < Int32.ofNat 6 from by decide⟩, rfl, ⟨by decide, show _ < Int32.ofNat 6 from by decide⟩, rfl⟩)
  · exact (show own_P [c2, c3] c0 c1 c2 c3 (2 : Int32) (1 : Int32) c3 from ⟨List.mem_of_getElem? (i := 1) rfl, ⟨⟨by decide, by decide⟩, rfl⟩, ⟨⟨by decide, show ((1 : Int32)) < Int32.ofNat 2 from by decide⟩, rfl⟩, ⟨by decide, show _ < Int32.ofNat 4 from by decide⟩, rfl, ⟨by decide, show _ < Int32.ofNat 4 from by decide⟩, rfl⟩)
  · exact absurd q (by decide)
  · exact absurd q (by decide)
theorem own_sm2 {n s : Int32} (h : own_NS n s) (c0 c1 c2 c3 : Int32) (q : (2 : Int32) < n - s) : own_P (own_cs n s c0 c1 c2 c3) c0 c1 c2 c3 s (2 : Int32) (own_at c0 c1 c2 c3 (s + (2 : Int32))) := by
  rcases h with ⟨rfl, rfl⟩ | ⟨rfl, rfl⟩ | ⟨rfl, rfl⟩ | ⟨rfl, rfl⟩ | ⟨rfl, rfl⟩ | ⟨rfl, rfl⟩ | ⟨rfl, rfl⟩ | ⟨rfl, rfl⟩ | ⟨rfl, rfl⟩ | ⟨rfl, rfl⟩ | ⟨rfl, rfl⟩ | ⟨rfl, rfl⟩ | ⟨rfl, rfl⟩ | ⟨rfl, rfl⟩
  · exact absurd q (by decide)
  · exact absurd q (by decide)
  · exact absurd q (by decide)
  · exact absurd q (by decide)
  · exact absurd q (by decide)
  · exact (show own_P [c0, c1, c2] c0 c1 c2 c3 (0 : Int32) (2 : Int32) c2 from ⟨List.mem_of_getElem? (i := 2) rfl, ⟨⟨by decide, by decide⟩, rfl⟩, ⟨⟨by decide, show ((2 : Int32)) < Int32.ofNat 3 from by decide⟩, rfl⟩, ⟨by decide, show _ < Int32.ofNat 6 from by decide⟩, rfl, ⟨by decide, show _ < Int32.ofNat 6 from by decide⟩, rfl⟩)
  · exact absurd q (by decide)
  · exact absurd q (by decide)
  · exact absurd q (by decide)
  · exact (show own_P [c0, c1, c2, c3] c0 c1 c2 c3 (0 : Int32) (2 : Int32) c2 from ⟨List.mem_of_getElem? (i := 2) rfl, ⟨⟨by decide, by decide⟩, rfl⟩, ⟨⟨by decide, show ((2 : Int32)) < Int32.ofNat 4 from by decide⟩, rfl⟩, ⟨by decide, show _ < Int32.ofNat 8 from by decide⟩, rfl, ⟨by decide, show _ < Int32.ofNat 8 from by decide⟩, rfl⟩)
  · exact (show own_P [c1, c2, c3] c0 c1 c2 c3 (1 : Int32) (2 : Int32) c3 from ⟨List.mem_of_getElem? (i := 2) rfl, ⟨⟨by decide, by decide⟩, rfl⟩, ⟨⟨by decide, show ((2 : Int32)) < Int32.ofNat 3 from by decide⟩, rfl⟩, ⟨by decide, show _ < Int32.ofNat 6 from by decide⟩, rfl, ⟨by decide, show _ < Int32.ofNat 6 from by decide⟩, rfl⟩)
  · exact absurd q (by decide)
  · exact absurd q (by decide)
  · exact absurd q (by decide)
theorem own_sm3 {n s : Int32} (h : own_NS n s) (c0 c1 c2 c3 : Int32) (q : (3 : Int32) < n - s) : own_P (own_cs n s c0 c1 c2 c3) c0 c1 c2 c3 s (3 : Int32) (own_at c0 c1 c2 c3 (s + (3 : Int32))) := by
  rcases h with ⟨rfl, rfl⟩ | ⟨rfl, rfl⟩ | ⟨rfl, rfl⟩ | ⟨rfl, rfl⟩ | ⟨rfl, rfl⟩ | ⟨rfl, rfl⟩ | ⟨rfl, rfl⟩ | ⟨rfl, rfl⟩ | ⟨rfl, rfl⟩ | ⟨rfl, rfl⟩ | ⟨rfl, rfl⟩ | ⟨rfl, rfl⟩ | ⟨rfl, rfl⟩ | ⟨rfl, rfl⟩
  · exact absurd q (by decide)
  · exact absurd q (by decide)
  · exact absurd q (by decide)
  · exact absurd q (by decide)
  · exact absurd q (by decide)
  · exact absurd q (by decide)
  · exact absurd q (by decide)
  · exact absurd q (by decide)
  · exact absurd q (by decide)
  · exact (show own_P [c0, c1, c2, c3] c0 c1 c2 c3 (0 : Int32) (3 : Int32) c3 from ⟨List.mem_of_getElem? (i := 3) rfl, ⟨⟨by decide, by decide⟩, rfl⟩, ⟨⟨by decide, show ((3 : Int32)) < Int32.ofNat 4 from by decide⟩, rfl⟩, ⟨by decide, show _ < Int32.ofNat 8 from by decide⟩, rfl, ⟨by decide, show _ < Int32.ofNat 8 from by decide⟩, rfl⟩)
  · exact absurd q (by decide)
  · exact absurd q (by decide)
  · exact absurd q (by decide)
  · exact absurd q (by decide)
def Q_rs2W (Z : State) (a1 : Addr) (p2 p3 : Int32) (a4 : Addr) (k4 : ClassId) (c0 c1 c2 c3 : Int32) (G1 : Int32) (G3 : Value) (h0 : Heap) (n0 : Nat) (v : Option Value) (h : Heap) (L : List Loc) : Prop := (∃ (d b : Addr) (kb : ClassId), v = some (.ref d) ∧ Exa Z h d "java/lang/String" ∧ Fld Z h d "java/lang/String" "value" "[B" (.ref b) ∧ own_A Z h d b kb (own_cs p3 p2 c0 c1 c2 c3)) ∧ Fr n0 L ∧ Keep h0 h []
theorem rs2W (l : Launch) (Z : State) (a0 : Array Value) (hw : ∀ d ∈ tables_1, d.before a0 Z = true) (ws : List Jvm.Cond) (a1 : Addr) (p2 p3 : Int32) (a4 : Addr) (k4 : ClassId) (c0 c1 c2 c3 : Int32) (G1 : Int32) (G3 : Value) (h0 : Heap) (n0 : Nat) (Z0 : n0 ≤ h0.size) (E1 : Exa Z h0 a1 "java/lang/String") (F_vl : Fld Z h0 a1 "java/lang/String" "value" "[B" (.ref a4)) (A0 : own_A Z h0 a1 a4 k4 (own_take p3 c0 c1 c2 c3)) (hns : own_NS p3 p2) (hc0 : 0 ≤ c0.toInt ∧ c0.toInt ≤ 65535) (hc1 : 0 ≤ c1.toInt ∧ c1.toInt ≤ 65535) (hc2 : 0 ≤ c2.toInt ∧ c2.toInt ≤ 65535) (hc3 : 0 ≤ c3.toInt ∧ c3.toInt ≤ 65535) (O0 : Old Z n0 h0) (S_cs : own_S_cs Z G1) (S_fm : own_S_fm Z G3) (S_ad : own_S_ad Z) (S_hi : own_S_hi Z) (S_lo : own_S_lo Z) (P5 : ¬ (G1 = (0 : Int32))) (rG3 : G3.isRef = true) (HH : own_H Z a0) :
    MetFree l MN35 (head1 (Jvm.Cond.code MN35 jdk_42_method_92_code 5 (some (.object "java/lang/String")) :: ws) (rK 6 3 16 165)) (fun a U => a = #[(.ref a1), (.int p2), (.int p3)] ∧ Z.Warmed39 U.vm ∧ U.heap = h0 ∧ IB Z U.vm []) (fun _ _ _ _ _ => True) (fun _ U o U' => ∃ v L, o = .returned v ∧ Q_rs2W Z a1 p2 p3 a4 k4 c0 c1 c2 c3 G1 G3 h0 n0 v U'.heap L ∧ ReturnedEndW U o U' L (rK 6 3 16 165).cells (rK 6 3 16 165).slots) := by
  have hq := own_lenT hns c0 c1 c2 c3
  rcases hns with ⟨rfl, rfl⟩ | ⟨rfl, rfl⟩ | ⟨rfl, rfl⟩ | ⟨rfl, rfl⟩ | ⟨rfl, rfl⟩ | ⟨rfl, rfl⟩ | ⟨rfl, rfl⟩ | ⟨rfl, rfl⟩ | ⟨rfl, rfl⟩ | ⟨rfl, rfl⟩ | ⟨rfl, rfl⟩ | ⟨rfl, rfl⟩ | ⟨rfl, rfl⟩ | ⟨rfl, rfl⟩
  · exact own_wide (rs2i l Z a0 hw ws a1 (1 : Int32) a4 k4 _ G1 G3 h0 n0 Z0 E1 F_vl A0 hq.1 hq.2 ⟨by decide, by decide, by decide⟩ O0 S_cs S_fm P5 rG3) (fun v h L q => by
      obtain ⟨rfl, N, rfl⟩ := q
      exact ⟨⟨_, _, _, rfl, E1, F_vl, A0⟩, N, Keep.refl _ _⟩)
  · rcases A0 with ⟨F_cd, V4, hl⟩ | ⟨F_cd, V4⟩
    · exact rs2_00 l Z a0 hw ws a1 (1 : Int32) (1 : Int32) a4 k4 _ G1 G3 h0 n0 Z0 E1 F_vl F_cd V4 hl hq.1 hq.2 ⟨by decide, by decide, by decide⟩ (by decide) (by decide) O0 S_cs S_fm S_ad S_hi S_lo P5 rG3 HH
    · exact rs2_01 l Z a0 hw ws a1 (1 : Int32) (1 : Int32) a4 k4 _ G1 G3 h0 n0 Z0 E1 F_vl F_cd V4 hq.1 hq.2 ⟨by decide, by decide, by decide⟩ (by decide) (by decide) O0 S_cs S_fm S_ad S_hi S_lo P5 rG3 HH
  · exact own_wide (rs2i l Z a0 hw ws a1 (2 : Int32) a4 k4 _ G1 G3 h0 n0 Z0 E1 F_vl A0 hq.1 hq.2 ⟨by decide, by decide, by decide⟩ O0 S_cs S_fm P5 rG3) (fun v h L q => by
      obtain ⟨rfl, N, rfl⟩ := q
      exact ⟨⟨_, _, _, rfl, E1, F_vl, A0⟩, N, Keep.refl _ _⟩)
  · rcases A0 with ⟨F_cd, V4, hl⟩ | ⟨F_cd, V4⟩
    · exact own_wide (rs2_10 l Z a0 hw ws a1 (1 : Int32) (2 : Int32) a4 k4 _ c1 G1 G3 h0 n0 Z0 E1 F_vl F_cd V4 hl hq.1 hq.2 ⟨by decide, by decide, by decide⟩ (by decide) (by decide) (show ((1 : Int32) + (1 : Int32)) = (Int32.ofNat 2) from by decide) (show own_R (Int32.ofNat 2) (1 : Int32) (1 : Int32) (own_lv [c0, c1]) [(.int (own_l c1))] from ⟨by decide, by decide, by decide, by decide, by decide, rfl⟩) (hl _ (List.mem_of_getElem? (i := 1) rfl)) O0 S_cs S_fm S_ad S_hi S_lo P5 rG3) (fun _ _ _ q => q)
    · exact own_wide (rs2_11 l Z a0 hw ws a1 (1 : Int32) (2 : Int32) a4 k4 _ c1 G1 G3 h0 n0 Z0 E1 F_vl F_cd V4 hq.1 hq.2 ⟨by decide, by decide, by decide⟩ (by decide) (by decide) hq.2 ⟨by decide, by decide⟩ (show own_G (own_uv [c0, c1]) (Int32.ofNat 4) (1 : Int32) c1 from ⟨⟨by decide, by decide⟩, rfl, ⟨by decide, by decide⟩, rfl⟩) hc1 ⟨by decide, by decide, (show (((1 : Int32) + (1 : Int32)) <<< ((1 : Int32) &&& 31)) = (Int32.ofNat 4) from by decide)⟩ (show own_R (Int32.ofNat 4) ((1 : Int32) <<< ((1 : Int32) &&& 31)) (2 : Int32) (own_uv [c0, c1]) [(.int (own_u0 c1)), (.int (own_u1 c1))] from ⟨by decide, by decide, by decide, by decide, by decide, rfl⟩) O0 S_cs S_fm S_ad S_hi S_lo P5 rG3) (fun _ _ _ q => q)
  · rcases A0 with ⟨F_cd, V4, hl⟩ | ⟨F_cd, V4⟩
    · exact rs2_00 l Z a0 hw ws a1 (2 : Int32) (2 : Int32) a4 k4 _ G1 G3 h0 n0 Z0 E1 F_vl F_cd V4 hl hq.1 hq.2 ⟨by decide, by decide, by decide⟩ (by decide) (by decide) O0 S_cs S_fm S_ad S_hi S_lo P5 rG3 HH
    · exact rs2_01 l Z a0 hw ws a1 (2 : Int32) (2 : Int32) a4 k4 _ G1 G3 h0 n0 Z0 E1 F_vl F_cd V4 hq.1 hq.2 ⟨by decide, by decide, by decide⟩ (by decide) (by decide) O0 S_cs S_fm S_ad S_hi S_lo P5 rG3 HH
  · exact own_wide (rs2i l Z a0 hw ws a1 (3 : Int32) a4 k4 _ G1 G3 h0 n0 Z0 E1 F_vl A0 hq.1 hq.2 ⟨by decide, by decide, by decide⟩ O0 S_cs S_fm P5 rG3) (fun v h L q => by
      obtain ⟨rfl, N, rfl⟩ := q
      exact ⟨⟨_, _, _, rfl, E1, F_vl, A0⟩, N, Keep.refl _ _⟩)
  · rcases A0 with ⟨F_cd, V4, hl⟩ | ⟨F_cd, V4⟩
    · exact own_wide (rs2_20 l Z a0 hw ws a1 (1 : Int32) (3 : Int32) a4 k4 _ c1 c2 G1 G3 h0 n0 Z0 E1 F_vl F_cd V4 hl hq.1 hq.2 ⟨by decide, by decide, by decide⟩ (by decide) (by decide) (show ((1 : Int32) + (2 : Int32)) = (Int32.ofNat 3) from by decide) (show own_R (Int32.ofNat 3) (1 : Int32) (2 : Int32) (own_lv [c0, c1, c2]) [(.int (own_l c1)), (.int (own_l c2))] from ⟨by decide, by decide, by decide, by decide, by decide, rfl⟩) (hl _ (List.mem_of_getElem? (i := 1) rfl)) (hl _ (List.mem_of_getElem? (i := 2) rfl)) O0 S_cs S_fm S_ad S_hi S_lo P5 rG3) (fun _ _ _ q => q)
    · exact own_wide (rs2_21 l Z a0 hw ws a1 (1 : Int32) (3 : Int32) a4 k4 _ c1 c2 G1 G3 h0 n0 Z0 E1 F_vl F_cd V4 hq.1 hq.2 ⟨by decide, by decide, by decide⟩ (by decide) (by decide) hq.2 ⟨by decide, by decide⟩ (show own_G (own_uv [c0, c1, c2]) (Int32.ofNat 6) (1 : Int32) c1 from ⟨⟨by decide, by decide⟩, rfl, ⟨by decide, by decide⟩, rfl⟩) (show own_G (own_uv [c0, c1, c2]) (Int32.ofNat 6) ((1 : Int32) + (1 : Int32)) c2 from ⟨⟨by decide, by decide⟩, rfl, ⟨by decide, by decide⟩, rfl⟩) hc1 hc2 ⟨by decide, by decide, (show (((1 : Int32) + (2 : Int32)) <<< ((1 : Int32) &&& 31)) = (Int32.ofNat 6) from by decide)⟩ (show own_R (Int32.ofNat 6) ((1 : Int32) <<< ((1 : Int32) &&& 31)) (4 : Int32) (own_uv [c0, c1, c2]) [(.int (own_u0 c1)), (.int (own_u1 c1)), (.int (own_u0 c2)), (.int (own_u1 c2))] from ⟨by decide, by decide, by decide, by decide, by decide, rfl⟩) O0 S_cs S_fm S_ad S_hi S_lo P5 rG3) (fun _ _ _ q => q)
  · rcases A0 with ⟨F_cd, V4, hl⟩ | ⟨F_cd, V4⟩
    · exact own_wide (rs2_10 l Z a0 hw ws a1 (2 : Int32) (3 : Int32) a4 k4 _ c2 G1 G3 h0 n0 Z0 E1 F_vl F_cd V4 hl hq.1 hq.2 ⟨by decide, by decide, by decide⟩ (by decide) (by decide) (show ((2 : Int32) + (1 : Int32)) = (Int32.ofNat 3) from by decide) (show own_R (Int32.ofNat 3) (2 : Int32) (1 : Int32) (own_lv [c0, c1, c2]) [(.int (own_l c2))] from ⟨by decide, by decide, by decide, by decide, by decide, rfl⟩) (hl _ (List.mem_of_getElem? (i := 2) rfl)) O0 S_cs S_fm S_ad S_hi S_lo P5 rG3) (fun _ _ _ q => q)
    · exact own_wide (rs2_11 l Z a0 hw ws a1 (2 : Int32) (3 : Int32) a4 k4 _ c2 G1 G3 h0 n0 Z0 E1 F_vl F_cd V4 hq.1 hq.2 ⟨by decide, by decide, by decide⟩ (by decide) (by decide) hq.2 ⟨by decide, by decide⟩ (show own_G (own_uv [c0, c1, c2]) (Int32.ofNat 6) (2 : Int32) c2 from ⟨⟨by decide, by decide⟩, rfl, ⟨by decide, by decide⟩, rfl⟩) hc2 ⟨by decide, by decide, (show (((2 : Int32) + (1 : Int32)) <<< ((1 : Int32) &&& 31)) = (Int32.ofNat 6) from by decide)⟩ (show own_R (Int32.ofNat 6) ((2 : Int32) <<< ((1 : Int32) &&& 31)) (2 : Int32) (own_uv [c0, c1, c2]) [(.int (own_u0 c2)), (.int (own_u1 c2))] from ⟨by decide, by decide, by decide, by decide, by decide, rfl⟩) O0 S_cs S_fm S_ad S_hi S_lo P5 rG3) (fun _ _ _ q => q)
  · rcases A0 with ⟨F_cd, V4, hl⟩ | ⟨F_cd, V4⟩
    · exact rs2_00 l Z a0 hw ws a1 (3 : Int32) (3 : Int32) a4 k4 _ G1 G3 h0 n0 Z0 E1 F_vl F_cd V4 hl hq.1 hq.2 ⟨by decide, by decide, by decide⟩ (by decide) (by decide) O0 S_cs S_fm S_ad S_hi S_lo P5 rG3 HH
    · exact rs2_01 l Z a0 hw ws a1 (3 : Int32) (3 : Int32) a4 k4 _ G1 G3 h0 n0 Z0 E1 F_vl F_cd V4 hq.1 hq.2 ⟨by decide, by decide, by decide⟩ (by decide) (by decide) O0 S_cs S_fm S_ad S_hi S_lo P5 rG3 HH
  · exact own_wide (rs2i l Z a0 hw ws a1 (4 : Int32) a4 k4 _ G1 G3 h0 n0 Z0 E1 F_vl A0 hq.1 hq.2 ⟨by decide, by decide, by decide⟩ O0 S_cs S_fm P5 rG3) (fun v h L q => by
      obtain ⟨rfl, N, rfl⟩ := q
      exact ⟨⟨_, _, _, rfl, E1, F_vl, A0⟩, N, Keep.refl _ _⟩)
  · rcases A0 with ⟨F_cd, V4, hl⟩ | ⟨F_cd, V4⟩
    · exact own_wide (rs2_30 l Z a0 hw ws a1 (1 : Int32) (4 : Int32) a4 k4 _ c1 c2 c3 G1 G3 h0 n0 Z0 E1 F_vl F_cd V4 hl hq.1 hq.2 ⟨by decide, by decide, by decide⟩ (by decide) (by decide) (show ((1 : Int32) + (3 : Int32)) = (Int32.ofNat 4) from by decide) (show own_R (Int32.ofNat 4) (1 : Int32) (3 : Int32) (own_lv [c0, c1, c2, c3]) [(.int (own_l c1)), (.int (own_l c2)), (.int (own_l c3))] from ⟨by decide, by decide, by decide, by decide, by decide, rfl⟩) (hl _ (List.mem_of_getElem? (i := 1) rfl)) (hl _ (List.mem_of_getElem? (i := 2) rfl)) (hl _ (List.mem_of_getElem? (i := 3) rfl)) O0 S_cs S_fm S_ad S_hi S_lo P5 rG3) (fun _ _ _ q => q)
    · exact own_wide (rs2_31 l Z a0 hw ws a1 (1 : Int32) (4 : Int32) a4 k4 _ c1 c2 c3 G1 G3 h0 n0 Z0 E1 F_vl F_cd V4 hq.1 hq.2 ⟨by decide, by decide, by decide⟩ (by decide) (by decide) hq.2 ⟨by decide, by decide⟩ (show own_G (own_uv [c0, c1, c2, c3]) (Int32.ofNat 8) (1 : Int32) c1 from ⟨⟨by decide, by decide⟩, rfl, ⟨by decide, by decide⟩, rfl⟩) (show own_G (own_uv [c0, c1, c2, c3]) (Int32.ofNat 8) ((1 : Int32) + (1 : Int32)) c2 from ⟨⟨by decide, by decide⟩, rfl, ⟨by decide, by decide⟩, rfl⟩) (show own_G (own_uv [c0, c1, c2, c3]) (Int32.ofNat 8) (((1 : Int32) + (1 : Int32)) + (1 : Int32)) c3 from ⟨⟨by decide, by decide⟩, rfl, ⟨by decide, by decide⟩, rfl⟩) hc1 hc2 hc3 ⟨by decide, by decide, (show (((1 : Int32) + (3 : Int32)) <<< ((1 : Int32) &&& 31)) = (Int32.ofNat 8) from by decide)⟩ (show own_R (Int32.ofNat 8) ((1 : Int32) <<< ((1 : Int32) &&& 31)) (6 : Int32) (own_uv [c0, c1, c2, c3]) [(.int (own_u0 c1)), (.int (own_u1 c1)), (.int (own_u0 c2)), (.int (own_u1 c2)), (.int (own_u0 c3)), (.int (own_u1 c3))] from ⟨by decide, by decide, by decide, by decide, by decide, rfl⟩) O0 S_cs S_fm S_ad S_hi S_lo P5 rG3) (fun _ _ _ q => q)
  · rcases A0 with ⟨F_cd, V4, hl⟩ | ⟨F_cd, V4⟩
    · exact own_wide (rs2_20 l Z a0 hw ws a1 (2 : Int32) (4 : Int32) a4 k4 _ c2 c3 G1 G3 h0 n0 Z0 E1 F_vl F_cd V4 hl hq.1 hq.2 ⟨by decide, by decide, by decide⟩ (by decide) (by decide) (show ((2 : Int32) + (2 : Int32)) = (Int32.ofNat 4) from by decide) (show own_R (Int32.ofNat 4) (2 : Int32) (2 : Int32) (own_lv [c0, c1, c2, c3]) [(.int (own_l c2)), (.int (own_l c3))] from ⟨by decide, by decide, by decide, by decide, by decide, rfl⟩) (hl _ (List.mem_of_getElem? (i := 2) rfl)) (hl _ (List.mem_of_getElem? (i := 3) rfl)) O0 S_cs S_fm S_ad S_hi S_lo P5 rG3) (fun _ _ _ q => q)
    · exact own_wide (rs2_21 l Z a0 hw ws a1 (2 : Int32) (4 : Int32) a4 k4 _ c2 c3 G1 G3 h0 n0 Z0 E1 F_vl F_cd V4 hq.1 hq.2 ⟨by decide, by decide, by decide⟩ (by decide) (by decide) hq.2 ⟨by decide, by decide⟩ (show own_G (own_uv [c0, c1, c2, c3]) (Int32.ofNat 8) (2 : Int32) c2 from ⟨⟨by decide, by decide⟩, rfl, ⟨by decide, by decide⟩, rfl⟩) (show own_G (own_uv [c0, c1, c2, c3]) (Int32.ofNat 8) ((2 : Int32) + (1 : Int32)) c3 from ⟨⟨by decide, by decide⟩, rfl, ⟨by decide, by decide⟩, rfl⟩) hc2 hc3 ⟨by decide, by decide, (show (((2 : Int32) + (2 : Int32)) <<< ((1 : Int32) &&& 31)) = (Int32.ofNat 8) from by decide)⟩ (show own_R (Int32.ofNat 8) ((2 : Int32) <<< ((1 : Int32) &&& 31)) (4 : Int32) (own_uv [c0, c1, c2, c3]) [(.int (own_u0 c2)), (.int (own_u1 c2)), (.int (own_u0 c3)), (.int (own_u1 c3))] from ⟨by decide, by decide, by decide, by decide, by decide, rfl⟩) O0 S_cs S_fm S_ad S_hi S_lo P5 rG3) (fun _ _ _ q => q)
  · rcases A0 with ⟨F_cd, V4, hl⟩ | ⟨F_cd, V4⟩
    · exact own_wide (rs2_10 l Z a0 hw ws a1 (3 : Int32) (4 : Int32) a4 k4 _ c3 G1 G3 h0 n0 Z0 E1 F_vl F_cd V4 hl hq.1 hq.2 ⟨by decide, by decide, by decide⟩ (by decide) (by decide) (show ((3 : Int32) + (1 : Int32)) = (Int32.ofNat 4) from by decide) (show own_R (Int32.ofNat 4) (3 : Int32) (1 : Int32) (own_lv [c0, c1, c2, c3]) [(.int (own_l c3))] from ⟨by decide, by decide, by decide, by decide, by decide, rfl⟩) (hl _ (List.mem_of_getElem? (i := 3) rfl)) O0 S_cs S_fm S_ad S_hi S_lo P5 rG3) (fun _ _ _ q => q)
    · exact own_wide (rs2_11 l Z a0 hw ws a1 (3 : Int32) (4 : Int32) a4 k4 _ c3 G1 G3 h0 n0 Z0 E1 F_vl F_cd V4 hq.1 hq.2 ⟨by decide, by decide, by decide⟩ (by decide) (by decide) hq.2 ⟨by decide, by decide⟩ (show own_G (own_uv [c0, c1, c2, c3]) (Int32.ofNat 8) (3 : Int32) c3 from ⟨⟨by decide, by decide⟩, rfl, ⟨by decide, by decide⟩, rfl⟩) hc3 ⟨by decide, by decide, (show (((3 : Int32) + (1 : Int32)) <<< ((1 : Int32) &&& 31)) = (Int32.ofNat 8) from by decide)⟩ (show own_R (Int32.ofNat 8) ((3 : Int32) <<< ((1 : Int32) &&& 31)) (2 : Int32) (own_uv [c0, c1, c2, c3]) [(.int (own_u0 c3)), (.int (own_u1 c3))] from ⟨by decide, by decide, by decide, by decide, by decide, rfl⟩) O0 S_cs S_fm S_ad S_hi S_lo P5 rG3) (fun _ _ _ q => q)
  · rcases A0 with ⟨F_cd, V4, hl⟩ | ⟨F_cd, V4⟩
    · exact rs2_00 l Z a0 hw ws a1 (4 : Int32) (4 : Int32) a4 k4 _ G1 G3 h0 n0 Z0 E1 F_vl F_cd V4 hl hq.1 hq.2 ⟨by decide, by decide, by decide⟩ (by decide) (by decide) O0 S_cs S_fm S_ad S_hi S_lo P5 rG3 HH
    · exact rs2_01 l Z a0 hw ws a1 (4 : Int32) (4 : Int32) a4 k4 _ G1 G3 h0 n0 Z0 E1 F_vl F_cd V4 hq.1 hq.2 ⟨by decide, by decide, by decide⟩ (by decide) (by decide) O0 S_cs S_fm S_ad S_hi S_lo P5 rG3 HH
theorem d8_0 : decode BC15 0 = .ok (.aload_n 0, 1) := by decide +kernel
theorem d8_1 : decode BC15 1 = .ok (.iload_n 1, 1) := by decide +kernel
theorem d8_2 : decode BC15 2 = .ok (.aload_n 0, 1) := by decide +kernel
theorem d8_3 : decode BC15 3 = .ok (.invokevirtual 505, 3) := by decide +kernel
theorem d8_6 : decode BC15 6 = .ok (.invokevirtual 681, 3) := by decide +kernel
theorem d8_9 : decode BC15 9 = .ok (.areturn, 1) := by decide +kernel
theorem pd_25 : parseMethodDescriptor "(II)Ljava/lang/String;" = some ⟨[.int, .int], some (.object "java/lang/String")⟩ := by decide +kernel
theorem ef_rs1i (m : MethodId) (a1 : Addr) : entryFrame m #[(.ref a1), (.int 0)] 2 = mkF m 0 #[vR a1, vI 0] [] := rfl
def Q_rs1i (Z : State) (a1 : Addr) (p3 : Int32) (a4 : Addr) (k4 : ClassId) (cs : List Int32) (G1 : Int32) (G3 : Value) (h0 : Heap) (n0 : Nat) (v : Option Value) (h : Heap) (L : List Loc) : Prop := v = some (.ref a1) ∧ Fr n0 L ∧ h = h0
theorem rs1i (l : Launch) (Z : State) (a0 : Array Value) (hw : ∀ d ∈ tables_1, d.before a0 Z = true) (ws : List Jvm.Cond) (a1 : Addr) (p3 : Int32) (a4 : Addr) (k4 : ClassId) (cs : List Int32) (G1 : Int32) (G3 : Value) (h0 : Heap) (n0 : Nat) (Z0 : n0 ≤ h0.size) (E1 : Exa Z h0 a1 "java/lang/String") (F_vl : Fld Z h0 a1 "java/lang/String" "value" "[B" (.ref a4)) (A0 : own_A Z h0 a1 a4 k4 cs) (hrL : ((Int32.ofNat cs.length) >>> ((0 : Int32) &&& 31)) = p3) (hrU : ((Int32.ofNat (2 * cs.length)) >>> ((1 : Int32) &&& 31)) = p3) (hi : ¬ (0 : Int32) < (0 : Int32) ∧ ¬ p3 < (0 : Int32) ∧ ¬ p3 < p3) (O0 : Old Z n0 h0) (S_cs : own_S_cs Z G1) (S_fm : own_S_fm Z G3) (P5 : ¬ (G1 = (0 : Int32))) (rG3 : G3.isRef = true) :
    MetFree l MN36 (head1 (Jvm.Cond.code MN36 jdk_42_method_91_code 2 (some (.object "java/lang/String")) :: ws) (rK 7 3 16 195)) (fun a U => a = #[(.ref a1), (.int 0)] ∧ Z.Warmed39 U.vm ∧ U.heap = h0) (fun _ _ _ _ _ => True) (fun _ U o U' => ∃ v L, o = .returned v ∧ Q_rs1i Z a1 p3 a4 k4 cs G1 G3 h0 n0 v U'.heap L ∧ FrameEnd U o U' L (rK 7 3 16 195).cells (rK 7 3 16 195).slots) := by
  refine MetFree.of_bodySF (plainFor_of_name pn_5) hisR ?_
  intro p e s m args below meth c sB Bd hml0 hP hK
  obtain ⟨rfl, hZ, hh⟩ := hP
  have hx := Bd.exec
  have hby := Bd.bytes
  have hml : c.maxLocals = 2 := hml0
  have hown : s.vm.findClass "java/lang/String" = some m.cls := findClass_of_methodNamed Bd.named
  have X0 : Stand p l e (rK 7 3 16 195) s m #[(.ref a1), (.int 0)] below meth c sB [] 0 0 := Stand.of_body Bd
  have e0 : sB.heap = h0 := by rw [← hh, Bd.state]; rfl
  have N0 := Fr.nil n0
  change Go p.tables e below _ _
  refine Go.on (B := sB.setTop (mkF m 0 #[vR a1, vI 0] [])) (fun t k => castTop (ef_rs1i m a1) k) ?_
  obtain ⟨cq1, kq1, q1a, q1b, q1c⟩ := isOf hZ e0 E1
  obtain ⟨_, _, ⟨T1, L1, k1, n1⟩, -, X1, ⟨Lc1, hQ1, lq1, yq1, zq1⟩, st1⟩ := X0.virtualBack hx (y := MN10) (z := MN10) hown (mg hZ hw 53 rfl) (mg hZ hw 54 rfl) (notFace_of_selects (args := #[]) (mg hZ hw 56 rfl)) (mg hZ hw 56 rfl) (mg hZ hw 55 rfl) (by decide) (backOf (W := 2) (rlen l Z a0 hw [] a1 a4 k4 cs p3 G1 h0 n0 Z0 E1 F_vl A0 hrL hrU O0 S_cs P5) hZ (gw hw 57 rfl) (gw hw 8 rfl) (by decide) (by decide)) q1a q1c (g := (mkF m 3 #[vR a1, vI 0] [(.ref a1), (.int 0), (.ref a1)])) rfl (by rw [hml]; rfl) (Steps.refl _) (argsL := []) (rest := [(.int 0), (.ref a1)]) (lenOf pd_22 rfl) rfl (own_w rfl) (hb hby d8_3) (fun _ _ => ⟨rfl, e0, (by decide : 0 + 0 ≤ _), (by decide : 0 + 0 ≤ _)⟩)
  dsimp only [Pt.U, Pt.locs, Pt.cells, Pt.slots] at X1 lq1 yq1 zq1 st1 hQ1
  subst lq1 yq1 zq1
  obtain ⟨rfl, N1q, e1q⟩ := hQ1
  have N1 := Fr.app N0 N1q
  obtain ⟨cq2, kq2, q2a, q2b, q2c⟩ := isOf hZ e1q E1
  obtain ⟨_, _, ⟨T2, L2, k2, n2⟩, -, X2, ⟨Lc2, hQ2, lq2, yq2, zq2⟩, st2⟩ := X1.virtualBack hx (y := MN35) (z := MN35) hown (mg hZ hw 64 rfl) (mg hZ hw 65 rfl) (notFace_of_selects (args := #[]) (mg hZ hw 67 rfl)) (mg hZ hw 67 rfl) (mg hZ hw 66 rfl) (by decide) (backOf (W := 0) (rs2i l Z a0 hw [] a1 p3 a4 k4 cs G1 G3 h0 n0 Z0 E1 F_vl A0 hrL hrU hi O0 S_cs S_fm P5 rG3) hZ (gw hw 68 rfl) (gw hw 8 rfl) (by decide) (by decide)) q2a q2c (g := (mkF m 6 #[vR a1, vI 0] [(.int p3), (.int 0), (.ref a1)])) rfl (by rw [hml]; rfl) (Steps.refl _) (argsL := [(.int 0), (.int p3)]) (rest := []) (lenOf pd_25 rfl) rfl (own_w rfl) (hb hby d8_6) (fun _ _ => ⟨rfl, e1q, (by decide : 0 + 3 ≤ _), (by decide : 0 + 16 ≤ _)⟩)
  dsimp only [Pt.U, Pt.locs, Pt.cells, Pt.slots] at X2 lq2 yq2 zq2 st2 hQ2
  subst lq2 yq2 zq2
  obtain ⟨rfl, N2q, e2q⟩ := hQ2
  have N2 := Fr.app N1 N2q
  refine Go.on (B := T2.setTop (mkF m 9 #[vR a1, vI 0] [(.ref a1)])) (fun t k => XS.aloadN X0.here hx rfl (hb hby d8_0) rfl rfl (XS.iloadN X0.here hx rfl (hb hby d8_1) rfl (XS.aloadN X0.here hx rfl (hb hby d8_2) rfl rfl (st1.trans (st2.trans k))))) ?_
  refine Go.fin X2 (v := some (.ref a1)) (own_nv Bd.returns) Bd.notSynchronized ?_ e2q ⟨rfl, N2, rfl⟩ (by decide) (by decide)
  exact fun _ hr => retOut X2 hx Bd.returns rfl (Or.inr (Or.inr (Or.inr (Or.inr ⟨rfl, rfl, rfl⟩)))) (hb hby d8_9) hr
def Q_rs1W (Z : State) (a1 : Addr) (p2 : Int32) (p3 : Int32) (a4 : Addr) (k4 : ClassId) (c0 c1 c2 c3 : Int32) (G1 : Int32) (G3 : Value) (h0 : Heap) (n0 : Nat) (v : Option Value) (h : Heap) (L : List Loc) : Prop := (∃ (d b : Addr) (kb : ClassId), v = some (.ref d) ∧ Exa Z h d "java/lang/String" ∧ Fld Z h d "java/lang/String" "value" "[B" (.ref b) ∧ own_A Z h d b kb (own_cs p3 p2 c0 c1 c2 c3)) ∧ Fr n0 L ∧ Keep h0 h []
theorem rs1W (l : Launch) (Z : State) (a0 : Array Value) (hw : ∀ d ∈ tables_1, d.before a0 Z = true) (ws : List Jvm.Cond) (a1 : Addr) (p2 : Int32) (p3 : Int32) (a4 : Addr) (k4 : ClassId) (c0 c1 c2 c3 : Int32) (G1 : Int32) (G3 : Value) (h0 : Heap) (n0 : Nat) (Z0 : n0 ≤ h0.size) (E1 : Exa Z h0 a1 "java/lang/String") (F_vl : Fld Z h0 a1 "java/lang/String" "value" "[B" (.ref a4)) (A0 : own_A Z h0 a1 a4 k4 (own_take p3 c0 c1 c2 c3)) (hns : own_NS p3 p2) (hc0 : 0 ≤ c0.toInt ∧ c0.toInt ≤ 65535) (hc1 : 0 ≤ c1.toInt ∧ c1.toInt ≤ 65535) (hc2 : 0 ≤ c2.toInt ∧ c2.toInt ≤ 65535) (hc3 : 0 ≤ c3.toInt ∧ c3.toInt ≤ 65535) (O0 : Old Z n0 h0) (S_cs : own_S_cs Z G1) (S_fm : own_S_fm Z G3) (S_ad : own_S_ad Z) (S_hi : own_S_hi Z) (S_lo : own_S_lo Z) (P5 : ¬ (G1 = (0 : Int32))) (rG3 : G3.isRef = true) (HH : own_H Z a0) :
    MetFree l MN36 (head1 (Jvm.Cond.code MN36 jdk_42_method_91_code 2 (some (.object "java/lang/String")) :: ws) (rK 7 3 16 195)) (fun a U => a = #[(.ref a1), (.int p2)] ∧ Z.Warmed39 U.vm ∧ U.heap = h0 ∧ IB Z U.vm []) (fun _ _ _ _ _ => True) (fun _ U o U' => ∃ v L, o = .returned v ∧ Q_rs1W Z a1 p2 p3 a4 k4 c0 c1 c2 c3 G1 G3 h0 n0 v U'.heap L ∧ ReturnedEndW U o U' L (rK 7 3 16 195).cells (rK 7 3 16 195).slots) := by
  refine MetFree.of_bodySF (plainFor_of_name pn_5) hisR ?_
  intro p e s m args below meth c sB Bd hml0 hP hK
  obtain ⟨rfl, hZ, hh, hI⟩ := hP
  have hx := Bd.exec
  have hby := Bd.bytes
  have hml : c.maxLocals = 2 := hml0
  have hown : s.vm.findClass "java/lang/String" = some m.cls := findClass_of_methodNamed Bd.named
  have X0 : Stand p l e (rK 7 3 16 195) s m #[(.ref a1), (.int p2)] below meth c sB [] 0 0 := Stand.of_body Bd
  have e0 : sB.heap = h0 := by rw [← hh, Bd.state]; rfl
  have N0 := Fr.nil n0
  change Go p.tables e below _ _
  have K0 := Keep.refl h0 []
  have hq := own_lenT hns c0 c1 c2 c3
  refine Go.on (B := sB.setTop (mkF m 0 #[vR a1, vI p2] [])) (fun t k => castTop (ef_rl1 m a1 p2) k) ?_
  obtain ⟨cq1, kq1, q1a, q1b, q1c⟩ := isOf hZ e0 E1
  obtain ⟨_, _, ⟨T1, L1, k1, n1⟩, -, X1, ⟨Lc1, hQ1, lq1, yq1, zq1⟩, st1⟩ := X0.virtualBack hx (y := MN10) (z := MN10) hown (mg hZ hw 53 rfl) (mg hZ hw 54 rfl) (notFace_of_selects (args := #[]) (mg hZ hw 56 rfl)) (mg hZ hw 56 rfl) (mg hZ hw 55 rfl) (by decide) (backOf (W := 2) (rlen l Z a0 hw [] a1 a4 k4 (own_take p3 c0 c1 c2 c3) p3 G1 h0 n0 Z0 E1 F_vl A0 hq.1 hq.2 O0 S_cs P5) hZ (gw hw 57 rfl) (gw hw 8 rfl) (by decide) (by decide)) q1a q1c (g := (mkF m 3 #[vR a1, vI p2] [(.ref a1), (.int p2), (.ref a1)])) rfl (by rw [hml]; rfl) (Steps.refl _) (argsL := []) (rest := [(.int p2), (.ref a1)]) (lenOf pd_22 rfl) rfl (own_w rfl) (hb hby d8_3) (fun _ _ => ⟨rfl, e0, (by decide : 0 + 0 ≤ _), (by decide : 0 + 0 ≤ _)⟩)
  dsimp only [Pt.U, Pt.locs, Pt.cells, Pt.slots] at X1 lq1 yq1 zq1 st1 hQ1
  subst lq1 yq1 zq1
  obtain ⟨rfl, N1q, e1q⟩ := hQ1
  have N1 := Fr.app N0 N1q
  refine Go.on (B := T1.setTop (mkF m 6 #[vR a1, vI p2] [(.int p3), (.int p2), (.ref a1)])) (fun t k => XS.aloadN X0.here hx rfl (hb hby d8_0) rfl rfl (XS.iloadN X0.here hx rfl (hb hby d8_1) rfl (XS.aloadN X0.here hx rfl (hb hby d8_2) rfl rfl (st1.trans k)))) ?_
  obtain ⟨cq2, kq2, q2a, q2b, q2c⟩ := isOf hZ e1q E1
  obtain ⟨_, _, ⟨T2, L2, k2, n2⟩, -, X2, hS2, hg2, ⟨Lc2, hQ2, lq2, yq2, zq2⟩, st2⟩ := X1.virtualBackS hx (y := MN35) (z := MN35) hown (mg hZ hw 64 rfl) (mg hZ hw 65 rfl) (notFace_of_selects (args := #[]) (mg hZ hw 67 rfl)) (mg hZ hw 67 rfl) (mg hZ hw 66 rfl) (by decide) (own_back (W := 0) (rs2W l Z a0 hw [] a1 p2 p3 a4 k4 c0 c1 c2 c3 G1 G3 h0 n0 Z0 E1 F_vl A0 hns hc0 hc1 hc2 hc3 O0 S_cs S_fm S_ad S_hi S_lo P5 rG3 HH) hZ hI (gw hw 68 rfl) (gw hw 8 rfl) (by decide) (by decide)) q2a q2c (g := (mkF m 6 #[vR a1, vI p2] [(.int p3), (.int p2), (.ref a1)])) rfl (by rw [hml]; rfl) (Steps.refl _) (argsL := [(.int p2), (.int p3)]) (rest := []) (lenOf pd_25 rfl) rfl (own_w rfl) (hb hby d8_6) (fun _ _ => ⟨rfl, e1q, (by decide : 0 + 3 ≤ _), (by decide : 0 + 16 ≤ _)⟩)
  dsimp only [Pt.U, Pt.locs, Pt.cells, Pt.slots] at X2 lq2 yq2 zq2 st2 hQ2 hS2 hg2
  subst lq2 yq2 zq2
  obtain ⟨hZ, hown⟩ := own_reb hZ hown hS2
  have Y2 := Nat.le_refl T2.heap.size
  obtain ⟨⟨x2, y2, ky2, rfl, Ex2, Fx2, Ax2⟩, N2q, K2q⟩ := hQ2
  have N2 := Fr.app N1 N2q
  have K6 := K0.trans K2q all0
  refine Go.on (B := T2.setTop (mkF m 9 #[vR a1, vI p2] [(.ref x2)])) (fun t k => st2.trans k) ?_
  refine Go.finW X2 hS2 Y2 (v := some (.ref x2)) (own_nv Bd.returns) Bd.notSynchronized ?_ rfl ⟨⟨_, _, _, rfl, Ex2, Fx2, Ax2⟩, N2, K6⟩ (by decide) (by decide)
  exact fun _ hr => retOut X2 hx Bd.returns rfl (Or.inr (Or.inr (Or.inr (Or.inr ⟨rfl, rfl, rfl⟩)))) (hb hby d8_9) hr
theorem d7_0 : decode BC40 0 = .ok (.aload_n 0, 1) := by decide +kernel
theorem d7_1 : decode BC40 1 = .ok (.getfield 7, 3) := by decide +kernel
theorem d7_4 : decode BC40 4 = .ok (.aload_n 0, 1) := by decide +kernel
theorem d7_5 : decode BC40 5 = .ok (.getfield 13, 3) := by decide +kernel
theorem d7_8 : decode BC40 8 = .ok (.invokevirtual 17, 3) := by decide +kernel
theorem d7_11 : decode BC40 11 = .ok (.areturn, 1) := by decide +kernel
theorem pd_26 : parseMethodDescriptor "(I)Ljava/lang/String;" = some ⟨[.int], some (.object "java/lang/String")⟩ := by decide +kernel
theorem pn_72 : plainName "com/example/docs_into_rows/docsintorows/MarkupReader$Prolog" = true := by first | (simp [plainName, overriddenIn]; done) | decide +kernel
def Q_rdti (Z : State) (a1 : Addr) (a2 : Addr) (p3 : Int32) (a4 : Addr) (k4 : ClassId) (cs : List Int32) (G1 : Int32) (G3 : Value) (h0 : Heap) (n0 : Nat) (v : Option Value) (h : Heap) (L : List Loc) : Prop := v = some (.ref a2) ∧ Fr n0 L ∧ h = h0
theorem rdti (l : Launch) (Z : State) (a0 : Array Value) (hw : ∀ d ∈ tables_1, d.before a0 Z = true) (ws : List Jvm.Cond) (a1 : Addr) (a2 : Addr) (p3 : Int32) (a4 : Addr) (k4 : ClassId) (cs : List Int32) (G1 : Int32) (G3 : Value) (h0 : Heap) (n0 : Nat) (Z0 : n0 ≤ h0.size) (EP : Exa Z h0 a1 "com/example/docs_into_rows/docsintorows/MarkupReader$Prolog") (F_tx : Fld Z h0 a1 "com/example/docs_into_rows/docsintorows/MarkupReader$Prolog" "text" "Ljava/lang/String;" (.ref a2)) (F_ds : Fld Z h0 a1 "com/example/docs_into_rows/docsintorows/MarkupReader$Prolog" "doctypeStart" "I" (.int 0)) (E1 : Exa Z h0 a2 "java/lang/String") (F_vl : Fld Z h0 a2 "java/lang/String" "value" "[B" (.ref a4)) (A0 : own_A Z h0 a2 a4 k4 cs) (hrL : ((Int32.ofNat cs.length) >>> ((0 : Int32) &&& 31)) = p3) (hrU : ((Int32.ofNat (2 * cs.length)) >>> ((1 : Int32) &&& 31)) = p3) (hi : ¬ (0 : Int32) < (0 : Int32) ∧ ¬ p3 < (0 : Int32) ∧ ¬ p3 < p3) (O0 : Old Z n0 h0) (S_cs : own_S_cs Z G1) (S_fm : own_S_fm Z G3) (P5 : ¬ (G1 = (0 : Int32))) (rG3 : G3.isRef = true) :
    MetFree l MN37 (head1 (Jvm.Cond.code MN37 prog_40_method_2_code 1 (some (.object "java/lang/String")) :: ws) (rK 8 3 16 215)) (fun a U => a = #[(.ref a1)] ∧ Z.Warmed39 U.vm ∧ U.heap = h0) (fun _ _ _ _ _ => True) (fun _ U o U' => ∃ v L, o = .returned v ∧ Q_rdti Z a1 a2 p3 a4 k4 cs G1 G3 h0 n0 v U'.heap L ∧ FrameEnd U o U' L (rK 8 3 16 215).cells (rK 8 3 16 215).slots) := by
  refine MetFree.of_bodySF (plainFor_of_name pn_72) hisR ?_
  intro p e s m args below meth c sB Bd hml0 hP hK
  obtain ⟨rfl, hZ, hh⟩ := hP
  have hx := Bd.exec
  have hby := Bd.bytes
  have hml : c.maxLocals = 1 := hml0
  have hown : s.vm.findClass "com/example/docs_into_rows/docsintorows/MarkupReader$Prolog" = some m.cls := findClass_of_methodNamed Bd.named
  have X0 : Stand p l e (rK 8 3 16 215) s m #[(.ref a1)] below meth c sB [] 0 0 := Stand.of_body Bd
  have e0 : sB.heap = h0 := by rw [← hh, Bd.state]; rfl
  have N0 := Fr.nil n0
  change Go p.tables e below _ _
  refine Go.on (B := sB.setTop (mkF m 0 #[vR a1] [])) (fun t k => castTop (ef_rul m a1) k) ?_
  obtain ⟨T1, X1, e1, st1⟩ := getF X0 hx hZ hown (host := "") (Or.inl (gw hw 39 rfl)) Via.refl e0 F_tx (g := (mkF m 1 #[vR a1] [(.ref a1)])) rfl rfl (hb hby d7_1)
  obtain ⟨T2, X2, e2, st2⟩ := getF X1 hx hZ hown (host := "") (Or.inl (gw hw 41 rfl)) Via.refl e1 F_ds (g := (mkF m 5 #[vR a1] [(.ref a1), (.ref a2)])) rfl rfl (hb hby d7_5)
  obtain ⟨cq3, kq3, q3a, q3b, q3c⟩ := isOf hZ e2 E1
  obtain ⟨_, _, ⟨T3, L3, k3, n3⟩, -, X3, ⟨Lc3, hQ3, lq3, yq3, zq3⟩, st3⟩ := X2.virtualBack hx (y := MN36) (z := MN36) hown (mg hZ hw 48 rfl) (mg hZ hw 49 rfl) (notFace_of_selects (args := #[]) (mg hZ hw 51 rfl)) (mg hZ hw 51 rfl) (mg hZ hw 50 rfl) (by decide) (backOf (W := 0) (rs1i l Z a0 hw [] a2 p3 a4 k4 cs G1 G3 h0 n0 Z0 E1 F_vl A0 hrL hrU hi O0 S_cs S_fm P5 rG3) hZ (gw hw 52 rfl) (gw hw 8 rfl) (by decide) (by decide)) q3a q3c (g := (mkF m 8 #[vR a1] [(.int 0), (.ref a2)])) rfl (by rw [hml]; rfl) (Steps.refl _) (argsL := [(.int 0)]) (rest := []) (lenOf pd_26 rfl) rfl (own_w rfl) (hb hby d7_8) (fun _ _ => ⟨rfl, e2, (by decide : 0 + 3 ≤ _), (by decide : 0 + 16 ≤ _)⟩)
  dsimp only [Pt.U, Pt.locs, Pt.cells, Pt.slots] at X3 lq3 yq3 zq3 st3 hQ3
  subst lq3 yq3 zq3
  obtain ⟨rfl, N3q, e3q⟩ := hQ3
  have N3 := Fr.app N0 N3q
  refine Go.on (B := T3.setTop (mkF m 11 #[vR a1] [(.ref a2)])) (fun t k => XS.aloadN X0.here hx rfl (hb hby d7_0) rfl rfl (st1 _ (XS.aloadN X1.here hx rfl (hb hby d7_4) rfl rfl (st2 _ (st3.trans k))))) ?_
  refine Go.fin X3 (v := some (.ref a2)) (own_nv Bd.returns) Bd.notSynchronized ?_ e3q ⟨rfl, N3, rfl⟩ (by decide) (by decide)
  exact fun _ hr => retOut X3 hx Bd.returns rfl (Or.inr (Or.inr (Or.inr (Or.inr ⟨rfl, rfl, rfl⟩)))) (hb hby d7_11) hr
def Q_rdtW (Z : State) (a1 : Addr) (a2 : Addr) (p2 p3 : Int32) (a4 : Addr) (k4 : ClassId) (c0 c1 c2 c3 : Int32) (G1 : Int32) (G3 : Value) (h0 : Heap) (n0 : Nat) (v : Option Value) (h : Heap) (L : List Loc) : Prop := (∃ (d b : Addr) (kb : ClassId), v = some (.ref d) ∧ Exa Z h d "java/lang/String" ∧ Fld Z h d "java/lang/String" "value" "[B" (.ref b) ∧ own_A Z h d b kb (own_cs p3 p2 c0 c1 c2 c3)) ∧ Fr n0 L ∧ Keep h0 h []
theorem rdtW (l : Launch) (Z : State) (a0 : Array Value) (hw : ∀ d ∈ tables_1, d.before a0 Z = true) (ws : List Jvm.Cond) (a1 : Addr) (a2 : Addr) (p2 p3 : Int32) (a4 : Addr) (k4 : ClassId) (c0 c1 c2 c3 : Int32) (G1 : Int32) (G3 : Value) (h0 : Heap) (n0 : Nat) (Z0 : n0 ≤ h0.size) (EP : Exa Z h0 a1 "com/example/docs_into_rows/docsintorows/MarkupReader$Prolog") (F_tx : Fld Z h0 a1 "com/example/docs_into_rows/docsintorows/MarkupReader$Prolog" "text" "Ljava/lang/String;" (.ref a2)) (F_ds : Fld Z h0 a1 "com/example/docs_into_rows/docsintorows/MarkupReader$Prolog" "doctypeStart" "I" (.int p2)) (E1 : Exa Z h0 a2 "java/lang/String") (F_vl : Fld Z h0 a2 "java/lang/String" "value" "[B" (.ref a4)) (A0 : own_A Z h0 a2 a4 k4 (own_take p3 c0 c1 c2 c3)) (hns : own_NS p3 p2) (hc0 : 0 ≤ c0.toInt ∧ c0.toInt ≤ 65535) (hc1 : 0 ≤ c1.toInt ∧ c1.toInt ≤ 65535) (hc2 : 0 ≤ c2.toInt ∧ c2.toInt ≤ 65535) (hc3 : 0 ≤ c3.toInt ∧ c3.toInt ≤ 65535) (O0 : Old Z n0 h0) (S_cs : own_S_cs Z G1) (S_fm : own_S_fm Z G3) (S_ad : own_S_ad Z) (S_hi : own_S_hi Z) (S_lo : own_S_lo Z) (P5 : ¬ (G1 = (0 : Int32))) (rG3 : G3.isRef = true) (HH : own_H Z a0) :
    MetFree l MN37 (head1 (Jvm.Cond.code MN37 prog_40_method_2_code 1 (some (.object "java/lang/String")) :: ws) (rK 8 3 16 215)) (fun a U => a = #[(.ref a1)] ∧ Z.Warmed39 U.vm ∧ U.heap = h0 ∧ IB Z U.vm []) (fun _ _ _ _ _ => True) (fun _ U o U' => ∃ v L, o = .returned v ∧ Q_rdtW Z a1 a2 p2 p3 a4 k4 c0 c1 c2 c3 G1 G3 h0 n0 v U'.heap L ∧ ReturnedEndW U o U' L (rK 8 3 16 215).cells (rK 8 3 16 215).slots) := by
  refine MetFree.of_bodySF (plainFor_of_name pn_72) hisR ?_
  intro p e s m args below meth c sB Bd hml0 hP hK
  obtain ⟨rfl, hZ, hh, hI⟩ := hP
  have hx := Bd.exec
  have hby := Bd.bytes
  have hml : c.maxLocals = 1 := hml0
  have hown : s.vm.findClass "com/example/docs_into_rows/docsintorows/MarkupReader$Prolog" = some m.cls := findClass_of_methodNamed Bd.named
  have X0 : Stand p l e (rK 8 3 16 215) s m #[(.ref a1)] below meth c sB [] 0 0 := Stand.of_body Bd
  have e0 : sB.heap = h0 := by rw [← hh, Bd.state]; rfl
  have N0 := Fr.nil n0
  change Go p.tables e below _ _
  have K0 := Keep.refl h0 []
  refine Go.on (B := sB.setTop (mkF m 0 #[vR a1] [])) (fun t k => castTop (ef_rul m a1) k) ?_
  obtain ⟨T1, X1, e1, st1⟩ := getF X0 hx hZ hown (host := "") (Or.inl (gw hw 39 rfl)) Via.refl e0 F_tx (g := (mkF m 1 #[vR a1] [(.ref a1)])) rfl rfl (hb hby d7_1)
  obtain ⟨T2, X2, e2, st2⟩ := getF X1 hx hZ hown (host := "") (Or.inl (gw hw 41 rfl)) Via.refl e1 F_ds (g := (mkF m 5 #[vR a1] [(.ref a1), (.ref a2)])) rfl rfl (hb hby d7_5)
  refine Go.on (B := T2.setTop (mkF m 8 #[vR a1] [(.int p2), (.ref a2)])) (fun t k => XS.aloadN X0.here hx rfl (hb hby d7_0) rfl rfl (st1 _ (XS.aloadN X1.here hx rfl (hb hby d7_4) rfl rfl (st2 _ k)))) ?_
  obtain ⟨cq3, kq3, q3a, q3b, q3c⟩ := isOf hZ e2 E1
  obtain ⟨_, _, ⟨T3, L3, k3, n3⟩, -, X3, hS3, hg3, ⟨Lc3, hQ3, lq3, yq3, zq3⟩, st3⟩ := X2.virtualBackS hx (y := MN36) (z := MN36) hown (mg hZ hw 48 rfl) (mg hZ hw 49 rfl) (notFace_of_selects (args := #[]) (mg hZ hw 51 rfl)) (mg hZ hw 51 rfl) (mg hZ hw 50 rfl) (by decide) (own_back (W := 0) (rs1W l Z a0 hw [] a2 p2 p3 a4 k4 c0 c1 c2 c3 G1 G3 h0 n0 Z0 E1 F_vl A0 hns hc0 hc1 hc2 hc3 O0 S_cs S_fm S_ad S_hi S_lo P5 rG3 HH) hZ hI (gw hw 52 rfl) (gw hw 8 rfl) (by decide) (by decide)) q3a q3c (g := (mkF m 8 #[vR a1] [(.int p2), (.ref a2)])) rfl (by rw [hml]; rfl) (Steps.refl _) (argsL := [(.int p2)]) (rest := []) (lenOf pd_26 rfl) rfl (own_w rfl) (hb hby d7_8) (fun _ _ => ⟨rfl, e2, (by decide : 0 + 3 ≤ _), (by decide : 0 + 16 ≤ _)⟩)
  dsimp only [Pt.U, Pt.locs, Pt.cells, Pt.slots] at X3 lq3 yq3 zq3 st3 hQ3 hS3 hg3
  subst lq3 yq3 zq3
  obtain ⟨hZ, hown⟩ := own_reb hZ hown hS3
  have Y3 := Nat.le_refl T3.heap.size
  obtain ⟨⟨x3, y3, ky3, rfl, Ex3, Fx3, Ax3⟩, N3q, K3q⟩ := hQ3
  have N3 := Fr.app N0 N3q
  have K9 := K0.trans K3q all0
  refine Go.on (B := T3.setTop (mkF m 11 #[vR a1] [(.ref x3)])) (fun t k => st3.trans k) ?_
  refine Go.finW X3 hS3 Y3 (v := some (.ref x3)) (own_nv Bd.returns) Bd.notSynchronized ?_ rfl ⟨⟨_, _, _, rfl, Ex3, Fx3, Ax3⟩, N3, K9⟩ (by decide) (by decide)
  exact fun _ hr => retOut X3 hx Bd.returns rfl (Or.inr (Or.inr (Or.inr (Or.inr ⟨rfl, rfl, rfl⟩)))) (hb hby d7_11) hr
theorem d6_0 : decode BC1 0 = .ok (.aload_n 0, 1) := by decide +kernel
theorem d6_1 : decode BC1 1 = .ok (.invokespecial 1, 3) := by decide +kernel
theorem d6_4 : decode BC1 4 = .ok (.return_, 1) := by decide +kernel
theorem pn_74 : plainName "java/lang/Record" = true := by first | (simp [plainName, overriddenIn]; done) | decide +kernel
def Q_rrec (Z : State) (a1 : Addr) (h0 : Heap) (n0 : Nat) (v : Option Value) (h : Heap) (L : List Loc) : Prop := v = none ∧ Fr n0 L ∧ h = h0
theorem rrec (l : Launch) (Z : State) (a0 : Array Value) (hw : ∀ d ∈ tables_1, d.before a0 Z = true) (ws : List Jvm.Cond) (a1 : Addr) (h0 : Heap) (n0 : Nat) (Z0 : n0 ≤ h0.size)  :
    MetFree l MN38 (head1 (Jvm.Cond.code MN38 jdk_30_method_1_code 1 none :: ws) (rK 1 0 0 20)) (fun a U => a = #[(.ref a1)] ∧ Z.Warmed39 U.vm ∧ U.heap = h0) (fun _ _ _ _ _ => True) (fun _ U o U' => ∃ v L, o = .returned v ∧ Q_rrec Z a1 h0 n0 v U'.heap L ∧ FrameEnd U o U' L (rK 1 0 0 20).cells (rK 1 0 0 20).slots) := by
  refine MetFree.of_bodySF (plainFor_of_name pn_74) hisR ?_
  intro p e s m args below meth c sB Bd hml0 hP hK
  obtain ⟨rfl, hZ, hh⟩ := hP
  have hx := Bd.exec
  have hby := Bd.bytes
  have hml : c.maxLocals = 1 := hml0
  have hown : s.vm.findClass "java/lang/Record" = some m.cls := findClass_of_methodNamed Bd.named
  have X0 : Stand p l e (rK 1 0 0 20) s m #[(.ref a1)] below meth c sB [] 0 0 := Stand.of_body Bd
  have e0 : sB.heap = h0 := by rw [← hh, Bd.state]; rfl
  have N0 := Fr.nil n0
  change Go p.tables e below _ _
  refine Go.on (B := sB.setTop (mkF m 0 #[vR a1] [])) (fun t k => castTop (ef_rul m a1) k) ?_
  obtain ⟨T1, X1, e1, st1⟩ := initO X0 hx hZ hown (gw hw 38 rfl) (gw hw 17 rfl) (gw hw 18 rfl) e0 (g := (mkF m 1 #[vR a1] [(.ref a1)])) rfl (by rw [hml]; rfl) rfl (hb hby d6_1) (by decide) (W := 0) (own_w rfl) (by decide)
  refine Go.on (B := T1.setTop (mkF m 4 #[vR a1] [])) (fun t k => XS.aloadN X0.here hx rfl (hb hby d6_0) rfl rfl (st1 _ k)) ?_
  refine Go.fin X1 (v := none) (fun _ => rfl) Bd.notSynchronized ?_ e1 ⟨rfl, N0, rfl⟩ (by decide) (by decide)
  exact fun _ hr => X1.returnOut hx Bd.returns (hb hby d6_4) hr
theorem d5_0 : decode BC39 0 = .ok (.aload_n 0, 1) := by decide +kernel
theorem d5_1 : decode BC39 1 = .ok (.invokespecial 1, 3) := by decide +kernel
theorem d5_4 : decode BC39 4 = .ok (.aload_n 0, 1) := by decide +kernel
theorem d5_5 : decode BC39 5 = .ok (.aload_n 1, 1) := by decide +kernel
theorem d5_6 : decode BC39 6 = .ok (.putfield 7, 3) := by decide +kernel
theorem d5_9 : decode BC39 9 = .ok (.aload_n 0, 1) := by decide +kernel
theorem d5_10 : decode BC39 10 = .ok (.iload_n 2, 1) := by decide +kernel
theorem d5_11 : decode BC39 11 = .ok (.putfield 13, 3) := by decide +kernel
theorem d5_14 : decode BC39 14 = .ok (.return_, 1) := by decide +kernel
theorem pd_27 : parseMethodDescriptor "()V" = some ⟨[], none⟩ := by decide +kernel
theorem ef_rpl (m : MethodId) (a1 : Addr) (a2 : Addr) (p3 : Int32) : entryFrame m #[(.ref a1), (.ref a2), (.int p3)] 3 = mkF m 0 #[vR a1, vR a2, vI p3] [] := rfl
def Q_rpl (Z : State) (a1 : Addr) (a2 : Addr) (p3 : Int32) (h0 : Heap) (n0 : Nat) (v : Option Value) (h : Heap) (L : List Loc) : Prop := v = none ∧ Fr n0 L ∧ Keep h0 h [a1] ∧ Exa Z h a1 "com/example/docs_into_rows/docsintorows/MarkupReader$Prolog" ∧ Fld Z h a1 "com/example/docs_into_rows/docsintorows/MarkupReader$Prolog" "text" "Ljava/lang/String;" (.ref a2) ∧ Fld Z h a1 "com/example/docs_into_rows/docsintorows/MarkupReader$Prolog" "doctypeStart" "I" (.int p3)
theorem rpl (l : Launch) (Z : State) (a0 : Array Value) (hw : ∀ d ∈ tables_1, d.before a0 Z = true) (ws : List Jvm.Cond) (a1 : Addr) (a2 : Addr) (p3 : Int32) (h0 : Heap) (n0 : Nat) (Z0 : n0 ≤ h0.size) (EP : Exa Z h0 a1 "com/example/docs_into_rows/docsintorows/MarkupReader$Prolog") (F_tx : Fld Z h0 a1 "com/example/docs_into_rows/docsintorows/MarkupReader$Prolog" "text" "Ljava/lang/String;" .null) (F_ds : Fld Z h0 a1 "com/example/docs_into_rows/docsintorows/MarkupReader$Prolog" "doctypeStart" "I" (.int 0)) (g1 : n0 ≤ a1) :
    MetFree l MN39 (head1 (Jvm.Cond.code MN39 prog_40_method_1_code 3 none :: ws) (rK 2 0 0 45)) (fun a U => a = #[(.ref a1), (.ref a2), (.int p3)] ∧ Z.Warmed39 U.vm ∧ U.heap = h0) (fun _ _ _ _ _ => True) (fun _ U o U' => ∃ v L, o = .returned v ∧ Q_rpl Z a1 a2 p3 h0 n0 v U'.heap L ∧ FrameEnd U o U' L (rK 2 0 0 45).cells (rK 2 0 0 45).slots) := by
  refine MetFree.of_bodySF (plainFor_of_name pn_72) hisR ?_
  intro p e s m args below meth c sB Bd hml0 hP hK
  obtain ⟨rfl, hZ, hh⟩ := hP
  have hx := Bd.exec
  have hby := Bd.bytes
  have hml : c.maxLocals = 3 := hml0
  have hown : s.vm.findClass "com/example/docs_into_rows/docsintorows/MarkupReader$Prolog" = some m.cls := findClass_of_methodNamed Bd.named
  have hnm := (name_of_methodNamed Bd.named Bd.method).1
  have X0 : Stand p l e (rK 2 0 0 45) s m #[(.ref a1), (.ref a2), (.int p3)] below meth c sB [] 0 0 := Stand.of_body Bd
  have e0 : sB.heap = h0 := by rw [← hh, Bd.state]; rfl
  have N0 := Fr.nil n0
  change Go p.tables e below _ _
  have K0 := Keep.refl h0 [a1]
  refine Go.on (B := sB.setTop (mkF m 0 #[vR a1, vR a2, vI p3] [])) (fun t k => castTop (ef_rpl m a1 a2 p3) k) ?_
  obtain ⟨_, _, ⟨T1, L1, k1, n1⟩, -, X1, ⟨Lc1, hQ1, lq1, yq1, zq1⟩, st1⟩ := X0.specialBack hx (y := MN38) rfl hown (mg hZ hw 33 rfl) (mg hZ hw 34 rfl) (mg hZ hw 37 rfl) (by decide) (backOf (W := 0) (rrec l Z a0 hw [] a1 h0 n0 Z0) hZ (gw hw 37 rfl) (gw hw 36 rfl) (by decide) (by decide)) (g := (mkF m 1 #[vR a1, vR a2, vI p3] [(.ref a1)])) rfl (by rw [hml]; rfl) (Steps.refl _) (a := a1) (argsL := []) (rest := []) (lenOf pd_27 rfl) rfl (own_w rfl) (hb hby d5_1) (fun _ _ => ⟨rfl, e0, (by decide : 0 + 0 ≤ _), (by decide : 0 + 0 ≤ _)⟩)
  dsimp only [Pt.U, Pt.locs, Pt.cells, Pt.slots] at X1 lq1 yq1 zq1 st1 hQ1
  subst lq1 yq1 zq1
  obtain ⟨rfl, N1q, e1q⟩ := hQ1
  have N1 := Fr.app N0 N1q
  obtain ⟨T2, h2, X2, e2, W2, st2⟩ := putF X1 hx hZ hown (host := "") (Or.inl (gw hw 39 rfl)) Via.refl e1q F_tx EP (Or.inr ⟨(gw hw 40 rfl), rfl, hnm⟩) (gw hw 28 rfl) (ty := (.object "java/lang/String")) (by decide) rfl rfl (g := (mkF m 6 #[vR a1, vR a2, vI p3] [(.ref a2), (.ref a1)])) rfl rfl (hb hby d5_6)
  have N2 := Fr.snoc X2 N1 g1
  have Fw2 := F_tx.same W2
  have f1 := EP.wr W2
  have f2 := F_ds.other W2 (Or.inr (slot_ne (Or.inr (gw hw 42 rfl)) (Or.inr (gw hw 40 rfl)) (by decide) (t := .int) (t' := (.object "java/lang/String")) (by decide) (by decide)))
  have K4 := K0.wr W2 (Or.inl (List.mem_of_getElem? (i := 0) rfl))
  refine Go.on (B := T2.setTop (mkF m 10 #[vR a1, vR a2, vI p3] [(.ref a1)])) (fun t k => XS.aloadN X0.here hx rfl (hb hby d5_0) rfl rfl (st1.trans (XS.aloadN X1.here hx rfl (hb hby d5_4) rfl rfl (XS.aloadN X1.here hx rfl (hb hby d5_5) rfl rfl (st2 _ (XS.aloadN X2.here hx rfl (hb hby d5_9) rfl rfl k)))))) ?_
  obtain ⟨T3, h3, X3, e3, W3, st3⟩ := putF X2 hx hZ hown (host := "") (Or.inl (gw hw 41 rfl)) Via.refl e2 f2 f1 (Or.inr ⟨(gw hw 42 rfl), rfl, hnm⟩) (gw hw 28 rfl) (ty := .int) (by decide) rfl rfl (g := (mkF m 11 #[vR a1, vR a2, vI p3] [(.int p3), (.ref a1)])) rfl rfl (hb hby d5_11)
  have N3 := Fr.snoc X3 N2 g1
  have Fw3 := f2.same W3
  have f5 := f1.wr W3
  have f6 := Fw2.other W3 (Or.inr (slot_ne (Or.inr (gw hw 40 rfl)) (Or.inr (gw hw 42 rfl)) (by decide) (t := (.object "java/lang/String")) (t' := .int) (by decide) (by decide)))
  have K8 := K4.wr W3 (Or.inl (List.mem_of_getElem? (i := 0) rfl))
  refine Go.on (B := T3.setTop (mkF m 14 #[vR a1, vR a2, vI p3] [])) (fun t k => XS.iloadN X2.here hx rfl (hb hby d5_10) rfl (st3 _ k)) ?_
  refine Go.fin X3 (v := none) (fun _ => rfl) Bd.notSynchronized ?_ e3 ⟨rfl, N3, K8, f5, f6, Fw3⟩ (by decide) (by decide)
  exact fun _ hr => X3.returnOut hx Bd.returns (hb hby d5_14) hr
theorem d14_0 : decode BC37 0 = .ok (.iload_n 3, 1) := by decide +kernel
theorem d14_1 : decode BC37 1 = .ok (.iload 4, 2) := by decide +kernel
theorem d14_3 : decode BC37 3 = .ok (.if_icmp .ge 16, 3) := by decide +kernel
theorem d14_6 : decode BC37 6 = .ok (.aload_n 0, 1) := by decide +kernel
theorem d14_7 : decode BC37 7 = .ok (.iload_n 3, 1) := by decide +kernel
theorem d14_8 : decode BC37 8 = .ok (.invokevirtual 33, 3) := by decide +kernel
theorem d14_11 : decode BC37 11 = .ok (.aload_n 1, 1) := by decide +kernel
theorem d14_12 : decode BC37 12 = .ok (.iload_n 2, 1) := by decide +kernel
theorem d14_13 : decode BC37 13 = .ok (.iload_n 3, 1) := by decide +kernel
theorem d14_14 : decode BC37 14 = .ok (.iadd, 1) := by decide +kernel
theorem d14_15 : decode BC37 15 = .ok (.caload, 1) := by decide +kernel
theorem d14_16 : decode BC37 16 = .ok (.if_icmp .ne 7, 3) := by decide +kernel
theorem d14_19 : decode BC37 19 = .ok (.iconst 1, 1) := by decide +kernel
theorem d14_20 : decode BC37 20 = .ok (.goto 4, 3) := by decide +kernel
theorem d14_24 : decode BC37 24 = .ok (.ireturn, 1) := by decide +kernel
theorem pd_28 : parseMethodDescriptor "(I)C" = some ⟨[.int], some .char⟩ := by decide +kernel
theorem ef_rsm (m : MethodId) (a1 : Addr) (a2 : Addr) (p3 : Int32) (p4 : Int32) (p5 : Int32) : entryFrame m #[(.ref a1), (.ref a2), (.int p3), (.int p4), (.int p5)] 5 = mkF m 0 #[vR a1, vR a2, vI p3, vI p4, vI p5] [] := rfl
def Q_rsm (Z : State) (a1 : Addr) (a2 : Addr) (p3 : Int32) (p4 : Int32) (p5 : Int32) (a4 : Addr) (k4 : ClassId) (cs : List Int32) (kc : ClassId) (c0 c1 c2 c3 cx : Int32) (G1 : Int32) (G3 : Value) (h0 : Heap) (n0 : Nat) (v : Option Value) (h : Heap) (L : List Loc) : Prop := v = some (.int 1) ∧ Fr n0 L ∧ h = h0
theorem rsm (l : Launch) (Z : State) (a0 : Array Value) (hw : ∀ d ∈ tables_1, d.before a0 Z = true) (ws : List Jvm.Cond) (a1 : Addr) (a2 : Addr) (p3 : Int32) (p4 : Int32) (p5 : Int32) (a4 : Addr) (k4 : ClassId) (cs : List Int32) (kc : ClassId) (c0 c1 c2 c3 cx : Int32) (G1 : Int32) (G3 : Value) (h0 : Heap) (n0 : Nat) (Z0 : n0 ≤ h0.size) (E1 : Exa Z h0 a1 "java/lang/String") (F_vl : Fld Z h0 a1 "java/lang/String" "value" "[B" (.ref a4)) (A0 : own_A Z h0 a1 a4 k4 cs) (V2 : Arv Z h0 a2 kc .char (4 : Int32) [(.int c0), (.int c1), (.int c2), (.int c3)] (.int 0)) (hU : ((Int32.ofNat (2 * cs.length)) >>> ((1 : Int32) &&& 31)) = (Int32.ofNat cs.length)) (hcr : 0 ≤ cx.toInt ∧ cx.toInt ≤ 65535) (hP : p4 < p5 → own_P cs c0 c1 c2 c3 p3 p4 cx) (O0 : Old Z n0 h0) (S_cs : own_S_cs Z G1) (S_fm : own_S_fm Z G3) (S_ad : own_S_ad Z) (S_hi : own_S_hi Z) (S_lo : own_S_lo Z) (P5 : ¬ (G1 = (0 : Int32))) (rG3 : G3.isRef = true) :
    MetFree l MN40 (head1 (Jvm.Cond.code MN40 method_3_code 5 (some .boolean) :: ws) (rK 5 0 0 90)) (fun a U => a = #[(.ref a1), (.ref a2), (.int p3), (.int p4), (.int p5)] ∧ Z.Warmed39 U.vm ∧ U.heap = h0) (fun _ _ _ _ _ => True) (fun _ U o U' => ∃ v L, o = .returned v ∧ Q_rsm Z a1 a2 p3 p4 p5 a4 k4 cs kc c0 c1 c2 c3 cx G1 G3 h0 n0 v U'.heap L ∧ FrameEnd U o U' L (rK 5 0 0 90).cells (rK 5 0 0 90).slots) := by
  refine MetFree.of_bodySF (plainFor_of_name pn_63) hisR ?_
  intro p e s m args below meth c sB Bd hml0 hP hK
  obtain ⟨rfl, hZ, hh⟩ := hP
  have hx := Bd.exec
  have hby := Bd.bytes
  have hml : c.maxLocals = 5 := hml0
  have hown : s.vm.findClass "com/example/docs_into_rows/docsintorows/PrologDoctypePinLaw" = some m.cls := findClass_of_methodNamed Bd.named
  have X0 : Stand p l e (rK 5 0 0 90) s m #[(.ref a1), (.ref a2), (.int p3), (.int p4), (.int p5)] below meth c sB [] 0 0 := Stand.of_body Bd
  have e0 : sB.heap = h0 := by rw [← hh, Bd.state]; rfl
  have N0 := Fr.nil n0
  change Go p.tables e below _ _
  refine Go.on (B := sB.setTop (mkF m 0 #[vR a1, vR a2, vI p3, vI p4, vI p5] [])) (fun t k => castTop (ef_rsm m a1 a2 p3 p4 p5) k) ?_
  rcases A0 with ⟨F_cd, V4, hl⟩ | ⟨F_cd, V4⟩
  · refine Go.on (B := sB.setTop (mkF m 3 #[vR a1, vR a2, vI p3, vI p4, vI p5] [(.int p5), (.int p4)])) (fun t k => XS.iloadN X0.here hx rfl (hb hby d14_0) rfl (XS.iload X0.here hx rfl (hb hby d14_1) rfl k)) ?_
    by_cases hc3_1 : p4 < p5
    · refine Go.on (B := sB.setTop (mkF m 6 #[vR a1, vR a2, vI p3, vI p4, vI p5] [])) (fun t k => XS.icmpNo X0.here hx rfl (hb hby d14_3) rfl (tlt hc3_1).2.1 k) ?_
      have hG := hP hc3_1
      obtain ⟨cq2, kq2, q2a, q2b, q2c⟩ := isOf hZ e0 E1
      obtain ⟨_, _, ⟨T2, L2, k2, n2⟩, -, X2, ⟨Lc2, hQ2, lq2, yq2, zq2⟩, st2⟩ := X0.virtualBack hx (y := MN8) (z := MN8) hown (mg hZ hw 91 rfl) (mg hZ hw 92 rfl) (notFace_of_selects (args := #[]) (mg hZ hw 94 rfl)) (mg hZ hw 94 rfl) (mg hZ hw 93 rfl) (by decide) (backOf (W := 0) (rchL l Z a0 hw [] a1 p4 a4 k4 (Int32.ofNat cs.length) (own_lv cs) (own_l cx) cx G1 G3 h0 n0 Z0 E1 F_cd F_vl V4 hG.2.2.1.1 hG.2.2.1.2 (own_lat cx (own_le255 cx hcr (hl cx hG.1))) (own_narc cx hcr) O0 S_cs S_fm P5 rG3) hZ (gw hw 95 rfl) (gw hw 8 rfl) (by decide) (by decide)) q2a q2c (g := (mkF m 8 #[vR a1, vR a2, vI p3, vI p4, vI p5] [(.int p4), (.ref a1)])) rfl (by rw [hml]; rfl) (Steps.refl _) (argsL := [(.int p4)]) (rest := []) (lenOf pd_28 rfl) rfl (own_w rfl) (hb hby d14_8) (fun _ _ => ⟨rfl, e0, (by decide : 0 + 0 ≤ _), (by decide : 0 + 0 ≤ _)⟩)
      dsimp only [Pt.U, Pt.locs, Pt.cells, Pt.slots] at X2 lq2 yq2 zq2 st2 hQ2
      subst lq2 yq2 zq2
      obtain ⟨rfl, N2q, e2q⟩ := hQ2
      have N2 := Fr.app N0 N2q
      refine Go.on (B := T2.setTop (mkF m 14 #[vR a1, vR a2, vI p3, vI p4, vI p5] [(.int p4), (.int p3), (.ref a2), (.int cx)])) (fun t k => XS.aloadN X0.here hx rfl (hb hby d14_6) rfl rfl (XS.iloadN X0.here hx rfl (hb hby d14_7) rfl (st2.trans (XS.aloadN X2.here hx rfl (hb hby d14_11) rfl rfl (XS.iloadN X2.here hx rfl (hb hby d14_12) rfl (XS.iloadN X2.here hx rfl (hb hby d14_13) rfl k)))))) ?_
      obtain ⟨cl3, Ar3, qq3, Sz3, Ng3, Hh3, Gg3⟩ := id V2
      have hin3 : ¬ ((p3 + p4) < 0 ∨ cl3.slots.size ≤ ((p3 + p4)).toNatClampNeg) := inb_of Sz3 hG.2.1.1
      have hat3 : cl3.slots[((p3 + p4)).toNatClampNeg]? = some (.int cx) := Hh3.at hin3 hG.2.1.2
      have hc16_4 : cx = cx := rfl
      refine Go.on (B := T2.setTop (mkF m 24 #[vR a1, vR a2, vI p3, vI p4, vI p5] [(.int 1)])) (fun t k => XS.iadd X2.here hx rfl (hb hby d14_14) rfl (X2.caload hx (j := (p3 + p4)) (v := (.int cx)) (by rw [e2q]; exact Ar3.1) (State.isArrayOf_alike hZ.alike Ar3.2.1) Ar3.2.2 hin3 hat3 (g := (mkF m 15 #[vR a1, vR a2, vI p3, vI p4, vI p5] [(.int (p3 + p4)), (.ref a2), (.int cx)])) rfl rfl (hb hby d14_15) _ (XS.icmpNo X2.here hx rfl (hb hby d14_16) rfl (teq hc16_4).2 (XS.iconst X2.here hx rfl (hb hby d14_19) (XS.goto X2.here hx rfl (pc0 := 20) (pc' := 24) rfl (hb hby d14_20) (by decide) (by decide) k))))) ?_
      refine Go.fin X2 (v := some (.int 1)) (own_nv Bd.returns) Bd.notSynchronized ?_ e2q ⟨rfl, N2, rfl⟩ (by decide) (by decide)
      exact fun _ hr => retN X2 hx (t := .boolean) Bd.returns (by simp) (hb hby d14_24) hr
    · refine Go.on (B := sB.setTop (mkF m 24 #[vR a1, vR a2, vI p3, vI p4, vI p5] [(.int 1)])) (fun t k => XS.icmpYes X0.here hx rfl (pc0 := 3) (pc' := 19) rfl (hb hby d14_3) rfl (flt hc3_1).2.1 (by decide) (by decide) (XS.iconst X0.here hx rfl (hb hby d14_19) (XS.goto X0.here hx rfl (pc0 := 20) (pc' := 24) rfl (hb hby d14_20) (by decide) (by decide) k))) ?_
      refine Go.fin X0 (v := some (.int 1)) (own_nv Bd.returns) Bd.notSynchronized ?_ e0 ⟨rfl, N0, rfl⟩ (by decide) (by decide)
      exact fun _ hr => retN X0 hx (t := .boolean) Bd.returns (by simp) (hb hby d14_24) hr
  · refine Go.on (B := sB.setTop (mkF m 3 #[vR a1, vR a2, vI p3, vI p4, vI p5] [(.int p5), (.int p4)])) (fun t k => XS.iloadN X0.here hx rfl (hb hby d14_0) rfl (XS.iload X0.here hx rfl (hb hby d14_1) rfl k)) ?_
    by_cases hc3_5 : p4 < p5
    · refine Go.on (B := sB.setTop (mkF m 6 #[vR a1, vR a2, vI p3, vI p4, vI p5] [])) (fun t k => XS.icmpNo X0.here hx rfl (hb hby d14_3) rfl (tlt hc3_5).2.1 k) ?_
      have hG := hP hc3_5
      obtain ⟨cq6, kq6, q6a, q6b, q6c⟩ := isOf hZ e0 E1
      obtain ⟨_, _, ⟨T6, L6, k6, n6⟩, -, X6, ⟨Lc6, hQ6, lq6, yq6, zq6⟩, st6⟩ := X0.virtualBack hx (y := MN8) (z := MN8) hown (mg hZ hw 91 rfl) (mg hZ hw 92 rfl) (notFace_of_selects (args := #[]) (mg hZ hw 94 rfl)) (mg hZ hw 94 rfl) (mg hZ hw 93 rfl) (by decide) (backOf (W := 0) (rchU l Z a0 hw [] a1 p4 a4 k4 (Int32.ofNat (2 * cs.length)) (own_uv cs) (Int32.ofNat cs.length) (own_u0 cx) (own_u1 cx) cx G1 G3 h0 n0 Z0 E1 F_cd F_vl V4 hU hG.2.2.1.1 hG.2.2.2.1 hG.2.2.2.2.1 hG.2.2.2.2.2.1 hG.2.2.2.2.2.2 (own_utf cx hcr) (own_narc cx hcr) O0 S_cs S_fm S_ad S_hi S_lo P5 rG3) hZ (gw hw 95 rfl) (gw hw 8 rfl) (by decide) (by decide)) q6a q6c (g := (mkF m 8 #[vR a1, vR a2, vI p3, vI p4, vI p5] [(.int p4), (.ref a1)])) rfl (by rw [hml]; rfl) (Steps.refl _) (argsL := [(.int p4)]) (rest := []) (lenOf pd_28 rfl) rfl (own_w rfl) (hb hby d14_8) (fun _ _ => ⟨rfl, e0, (by decide : 0 + 0 ≤ _), (by decide : 0 + 0 ≤ _)⟩)
      dsimp only [Pt.U, Pt.locs, Pt.cells, Pt.slots] at X6 lq6 yq6 zq6 st6 hQ6
      subst lq6 yq6 zq6
      obtain ⟨rfl, N6q, e6q⟩ := hQ6
      have N6 := Fr.app N0 N6q
      refine Go.on (B := T6.setTop (mkF m 14 #[vR a1, vR a2, vI p3, vI p4, vI p5] [(.int p4), (.int p3), (.ref a2), (.int cx)])) (fun t k => XS.aloadN X0.here hx rfl (hb hby d14_6) rfl rfl (XS.iloadN X0.here hx rfl (hb hby d14_7) rfl (st6.trans (XS.aloadN X6.here hx rfl (hb hby d14_11) rfl rfl (XS.iloadN X6.here hx rfl (hb hby d14_12) rfl (XS.iloadN X6.here hx rfl (hb hby d14_13) rfl k)))))) ?_
      obtain ⟨cl7, Ar7, qq7, Sz7, Ng7, Hh7, Gg7⟩ := id V2
      have hin7 : ¬ ((p3 + p4) < 0 ∨ cl7.slots.size ≤ ((p3 + p4)).toNatClampNeg) := inb_of Sz7 hG.2.1.1
      have hat7 : cl7.slots[((p3 + p4)).toNatClampNeg]? = some (.int cx) := Hh7.at hin7 hG.2.1.2
      have hc16_8 : cx = cx := rfl
      refine Go.on (B := T6.setTop (mkF m 24 #[vR a1, vR a2, vI p3, vI p4, vI p5] [(.int 1)])) (fun t k => XS.iadd X6.here hx rfl (hb hby d14_14) rfl (X6.caload hx (j := (p3 + p4)) (v := (.int cx)) (by rw [e6q]; exact Ar7.1) (State.isArrayOf_alike hZ.alike Ar7.2.1) Ar7.2.2 hin7 hat7 (g := (mkF m 15 #[vR a1, vR a2, vI p3, vI p4, vI p5] [(.int (p3 + p4)), (.ref a2), (.int cx)])) rfl rfl (hb hby d14_15) _ (XS.icmpNo X6.here hx rfl (hb hby d14_16) rfl (teq hc16_8).2 (XS.iconst X6.here hx rfl (hb hby d14_19) (XS.goto X6.here hx rfl (pc0 := 20) (pc' := 24) rfl (hb hby d14_20) (by decide) (by decide) k))))) ?_
      refine Go.fin X6 (v := some (.int 1)) (own_nv Bd.returns) Bd.notSynchronized ?_ e6q ⟨rfl, N6, rfl⟩ (by decide) (by decide)
      exact fun _ hr => retN X6 hx (t := .boolean) Bd.returns (by simp) (hb hby d14_24) hr
    · refine Go.on (B := sB.setTop (mkF m 24 #[vR a1, vR a2, vI p3, vI p4, vI p5] [(.int 1)])) (fun t k => XS.icmpYes X0.here hx rfl (pc0 := 3) (pc' := 19) rfl (hb hby d14_3) rfl (flt hc3_5).2.1 (by decide) (by decide) (XS.iconst X0.here hx rfl (hb hby d14_19) (XS.goto X0.here hx rfl (pc0 := 20) (pc' := 24) rfl (hb hby d14_20) (by decide) (by decide) k))) ?_
      refine Go.fin X0 (v := some (.int 1)) (own_nv Bd.returns) Bd.notSynchronized ?_ e0 ⟨rfl, N0, rfl⟩ (by decide) (by decide)
      exact fun _ hr => retN X0 hx (t := .boolean) Bd.returns (by simp) (hb hby d14_24) hr
theorem own_atr (c0 c1 c2 c3 i : Int32) (h0 : 0 ≤ c0.toInt ∧ c0.toInt ≤ 65535) (h1 : 0 ≤ c1.toInt ∧ c1.toInt ≤ 65535) (h2 : 0 ≤ c2.toInt ∧ c2.toInt ≤ 65535) (h3 : 0 ≤ c3.toInt ∧ c3.toInt ≤ 65535) : 0 ≤ (own_at c0 c1 c2 c3 i).toInt ∧ (own_at c0 c1 c2 c3 i).toInt ≤ 65535 := by
  unfold own_at
  generalize i.toNatClampNeg = k
  match k with
  | 0 => exact h0
  | 1 => exact h1
  | 2 => exact h2
  | 3 => exact h3
  | (k + 4) => exact (show 0 ≤ (0 : Int32).toInt ∧ (0 : Int32).toInt ≤ 65535 from by decide)
theorem own_lenE {n s : Int32} (h : own_NS n s) (c0 c1 c2 c3 : Int32) : ((Int32.ofNat (2 * (own_cs n s c0 c1 c2 c3).length)) >>> ((1 : Int32) &&& 31)) = (Int32.ofNat (own_cs n s c0 c1 c2 c3).length) := by
  rcases h with ⟨rfl, rfl⟩ | ⟨rfl, rfl⟩ | ⟨rfl, rfl⟩ | ⟨rfl, rfl⟩ | ⟨rfl, rfl⟩ | ⟨rfl, rfl⟩ | ⟨rfl, rfl⟩ | ⟨rfl, rfl⟩ | ⟨rfl, rfl⟩ | ⟨rfl, rfl⟩ | ⟨rfl, rfl⟩ | ⟨rfl, rfl⟩ | ⟨rfl, rfl⟩ | ⟨rfl, rfl⟩
  · exact (show ((Int32.ofNat (2 * 1)) >>> ((1 : Int32) &&& 31)) = (Int32.ofNat 1) from by decide)
  · exact (show ((Int32.ofNat (2 * 0)) >>> ((1 : Int32) &&& 31)) = (Int32.ofNat 0) from by decide)
  · exact (show ((Int32.ofNat (2 * 2)) >>> ((1 : Int32) &&& 31)) = (Int32.ofNat 2) from by decide)
  · exact (show ((Int32.ofNat (2 * 1)) >>> ((1 : Int32) &&& 31)) = (Int32.ofNat 1) from by decide)
  · exact (show ((Int32.ofNat (2 * 0)) >>> ((1 : Int32) &&& 31)) = (Int32.ofNat 0) from by decide)
  · exact (show ((Int32.ofNat (2 * 3)) >>> ((1 : Int32) &&& 31)) = (Int32.ofNat 3) from by decide)
  · exact (show ((Int32.ofNat (2 * 2)) >>> ((1 : Int32) &&& 31)) = (Int32.ofNat 2) from by decide)
  · exact (show ((Int32.ofNat (2 * 1)) >>> ((1 : Int32) &&& 31)) = (Int32.ofNat 1) from by decide)
  · exact (show ((Int32.ofNat (2 * 0)) >>> ((1 : Int32) &&& 31)) = (Int32.ofNat 0) from by decide)
  · exact (show ((Int32.ofNat (2 * 4)) >>> ((1 : Int32) &&& 31)) = (Int32.ofNat 4) from by decide)
  · exact (show ((Int32.ofNat (2 * 3)) >>> ((1 : Int32) &&& 31)) = (Int32.ofNat 3) from by decide)
  · exact (show ((Int32.ofNat (2 * 2)) >>> ((1 : Int32) &&& 31)) = (Int32.ofNat 2) from by decide)
  · exact (show ((Int32.ofNat (2 * 1)) >>> ((1 : Int32) &&& 31)) = (Int32.ofNat 1) from by decide)
  · exact (show ((Int32.ofNat (2 * 0)) >>> ((1 : Int32) &&& 31)) = (Int32.ofNat 0) from by decide)
theorem pd_29 : parseMethodDescriptor "(I[C)Ljava/lang/String;" = some ⟨[.int, (.array .char)], some (.object "java/lang/String")⟩ := by decide +kernel
theorem pd_30 : parseMethodDescriptor "(Ljava/lang/String;I)V" = some ⟨[(.object "java/lang/String"), .int], none⟩ := by decide +kernel
theorem pd_31 : parseMethodDescriptor "()Ljava/lang/String;" = some ⟨[], some (.object "java/lang/String")⟩ := by decide +kernel
theorem pd_32 : parseMethodDescriptor "(Ljava/lang/String;[CIII)Z" = some ⟨[(.object "java/lang/String"), (.array .char), .int, .int, .int], some .boolean⟩ := by decide +kernel
theorem ef_rm0 (m : MethodId) (p1 : Int32) (p2 : Int32) (p3 : Int32) (p4 : Int32) (p5 : Int32) (p6 : Int32) : entryFrame m #[(.int p1), (.int p2), (.int p3), (.int p4), (.int p5), (.int p6)] maxLocals = mkF m 0 #[vI p1, vI p2, vI p3, vI p4, vI p5, vI p6, .unset, .unset, .unset, .unset, .unset, .unset] [] := by first | (simp [entryFrame, mkF, argsToLocals, Value.category, maxLocals]; done) | rfl
def Q_rm0 (Z : State) (p1 : Int32) (p2 : Int32) (p3 : Int32) (p4 : Int32) (p5 : Int32) (p6 : Int32) (G1 : Int32) (G3 : Value) (h0 : Heap) (n0 : Nat) (v : Option Value) (h : Heap) (L : List Loc) : Prop := v = some (.int 1) ∧ Fr n0 L
theorem rm0 (l : Launch) (Z : State) (a0 : Array Value) (hw : ∀ d ∈ tables_1, d.before a0 Z = true) (ws : List Jvm.Cond) (p1 : Int32) (p2 : Int32) (p3 : Int32) (p4 : Int32) (p5 : Int32) (p6 : Int32) (G1 : Int32) (G3 : Value) (h0 : Heap) (n0 : Nat) (Z0 : n0 ≤ h0.size)  (O0 : Old Z n0 h0) (S_cs : own_S_cs Z G1) (S_fm : own_S_fm Z G3) (S_ad : own_S_ad Z) (S_hi : own_S_hi Z) (S_lo : own_S_lo Z) (P5 : ¬ (G1 = (0 : Int32))) (rG3 : G3.isRef = true) (HH : own_H Z a0) :
    MetFree l x (head1 (Jvm.Cond.code x code maxLocals ret :: ws) room_1) (fun a U => a = #[(.int p1), (.int p2), (.int p3), (.int p4), (.int p5), (.int p6)] ∧ Z.Warmed39 U.vm ∧ U.heap = h0 ∧ IB Z U.vm []) (fun _ _ _ _ _ => True) (fun _ U o U' => ∃ v L, o = .returned v ∧ Q_rm0 Z p1 p2 p3 p4 p5 p6 G1 G3 h0 n0 v U'.heap L ∧ ReturnedEndW U o U' L room_1.cells room_1.slots) := by
  refine MetFree.of_bodySF (plainFor_of_name pn_63) hisR ?_
  intro p e s m args below meth c sB Bd hml0 hP hK
  obtain ⟨rfl, hZ, hh, hI⟩ := hP
  have hx := Bd.exec
  have hby := Bd.bytes
  have hml : c.maxLocals = 12 := hml0
  have hown : s.vm.findClass "com/example/docs_into_rows/docsintorows/PrologDoctypePinLaw" = some m.cls := findClass_of_methodNamed Bd.named
  have X0 : Stand p l e room_1 s m #[(.int p1), (.int p2), (.int p3), (.int p4), (.int p5), (.int p6)] below meth c sB [] 0 0 := Stand.of_body Bd
  have e0 : sB.heap = h0 := by rw [← hh, Bd.state]; rfl
  have N0 := Fr.nil n0
  change Go p.tables e below _ _
  refine Go.on (B := sB.setTop (mkF m 0 #[vI p1, vI p2, vI p3, vI p4, vI p5, vI p6, .unset, .unset, .unset, .unset, .unset, .unset] [])) (fun t k => castTop (ef_rm0 m p1 p2 p3 p4 p5 p6) k) ?_
  refine Go.on (B := sB.setTop (mkF m 6 #[vI p1, vI p2, vI p3, vI p4, vI p5, vI p6, .unset, .unset, .unset, .unset, .unset, .unset] [(.int ((p1 &&& (2147483647 : Int32)) % (5 : Int32)))])) (fun t k => XS.iloadN X0.here hx rfl (hb hby at_0) rfl (X0.ldcInt hx hown (mg hZ hw 0 rfl) (g := (mkF m 1 #[vI p1, vI p2, vI p3, vI p4, vI p5, vI p6, .unset, .unset, .unset, .unset, .unset, .unset] [(.int p1)])) rfl (hb hby at_1) _ (XS.iand X0.here hx rfl (hb hby at_3) rfl (XS.iconst X0.here hx rfl (hb hby at_4) (iremM X0 hx rfl (hb hby at_5) rfl (by decide) k))))) ?_
  generalize hv6_1 : ((p1 &&& (2147483647 : Int32)) % (5 : Int32)) = v6_1
  refine Go.on (B := sB.setTop (mkF m 8 #[vI p1, vI p2, vI p3, vI p4, vI p5, vI p6, vI v6_1, .unset, .unset, .unset, .unset, .unset] [])) (fun t k => XS.istore X0.here hx rfl (hb hby at_6) rfl (l' := #[vI p1, vI p2, vI p3, vI p4, vI p5, vI p6, vI v6_1, .unset, .unset, .unset, .unset, .unset]) rfl k) ?_
  have hn5 := own_m5 _ _ hv6_1
  refine Go.on (B := sB.setTop (mkF m 16 #[vI p1, vI p2, vI p3, vI p4, vI p5, vI p6, vI v6_1, .unset, .unset, .unset, .unset, .unset] [(.int (v6_1 + (1 : Int32))), (.int (p2 &&& (2147483647 : Int32)))])) (fun t k => XS.iloadN X0.here hx rfl (hb hby at_8) rfl (X0.ldcInt hx hown (mg hZ hw 0 rfl) (g := (mkF m 9 #[vI p1, vI p2, vI p3, vI p4, vI p5, vI p6, vI v6_1, .unset, .unset, .unset, .unset, .unset] [(.int p2)])) rfl (hb hby at_9) _ (XS.iand X0.here hx rfl (hb hby at_11) rfl (XS.iload X0.here hx rfl (hb hby at_12) rfl (XS.iconst X0.here hx rfl (hb hby at_14) (XS.iadd X0.here hx rfl (hb hby at_15) rfl k)))))) ?_
  refine Go.on (B := sB.setTop (mkF m 17 #[vI p1, vI p2, vI p3, vI p4, vI p5, vI p6, vI v6_1, .unset, .unset, .unset, .unset, .unset] [(.int ((p2 &&& (2147483647 : Int32)) % (v6_1 + (1 : Int32))))])) (fun t k => iremM X0 hx rfl (hb hby at_16) rfl (own_n1z hn5) k) ?_
  generalize hv17_2 : ((p2 &&& (2147483647 : Int32)) % (v6_1 + (1 : Int32))) = v17_2
  refine Go.on (B := sB.setTop (mkF m 19 #[vI p1, vI p2, vI p3, vI p4, vI p5, vI p6, vI v6_1, vI v17_2, .unset, .unset, .unset, .unset] [])) (fun t k => XS.istore X0.here hx rfl (hb hby at_17) rfl (l' := #[vI p1, vI p2, vI p3, vI p4, vI p5, vI p6, vI v6_1, vI v17_2, .unset, .unset, .unset, .unset]) rfl k) ?_
  have hs5 := own_ms _ _ _ hn5 hv17_2
  obtain ⟨T3, h3, kq3, X3, e3, Xe3, A3, st3⟩ := newP X0 hx hZ (gw hw 1 rfl) e0 (g := (mkF m 20 #[vI p1, vI p2, vI p3, vI p4, vI p5, vI p6, vI v6_1, vI v17_2, .unset, .unset, .unset, .unset] [(.int 4)])) rfl (hb hby at_20) rfl (by decide) (cap := 4) (by decide) (by decide) (by decide) (by decide)
  obtain ⟨b3, gq3⟩ : ∃ z, z = h0.size := ⟨_, rfl⟩
  rw [← gq3] at A3 st3
  have ge_b3 : n0 ≤ b3 := Nat.le_trans Z0 (Nat.le_of_eq gq3.symm)
  have O_1 := O0.ext Xe3
  have Zs2 := Nat.le_trans Z0 Xe3.1
  have V3 : Arv Z h3 b3 kq3 .char (4 : Int32) [(.int 0), (.int 0), (.int 0), (.int 0)] (.int 0) := (Arv.new A3 (by decide)).pad (pad_rep [] (.int 0) 4)
  refine Go.on (B := T3.setTop (mkF m 28 #[vI p1, vI p2, vI p3, vI p4, vI p5, vI p6, vI v6_1, vI v17_2, vR b3, .unset, .unset, .unset] [(.int p3), (.int 0), (.ref b3)])) (fun t k => XS.iconst X0.here hx rfl (hb hby at_19) (st3 _ (XS.astore X3.here hx rfl (hb hby at_22) rfl rfl (l' := #[vI p1, vI p2, vI p3, vI p4, vI p5, vI p6, vI v6_1, vI v17_2, vR b3, .unset, .unset, .unset]) rfl (XS.aload X3.here hx rfl (hb hby at_24) rfl rfl (XS.iconst X3.here hx rfl (hb hby at_26) (XS.iloadN X3.here hx rfl (hb hby at_27) rfl k)))))) ?_
  obtain ⟨cl4, Ar4, qq4, Sz4, Ng4, Hh4, Gg4⟩ := id V3
  have hin4 : ¬ ((0 : Int32) < 0 ∨ cl4.slots.size ≤ ((0 : Int32)).toNatClampNeg) := inb_of Sz4 ⟨by decide, by decide⟩
  obtain ⟨T4, h4, X4, e4, W4, st4⟩ := stC X3 hx hZ e3 Ar4 (j := (0 : Int32)) hin4 (g := (mkF m 29 #[vI p1, vI p2, vI p3, vI p4, vI p5, vI p6, vI v6_1, vI v17_2, vR b3, .unset, .unset, .unset] [(.int (p3.toUInt32.toUInt16.toUInt32.toInt32)), (.int 0), (.ref b3)])) rfl rfl (hb hby at_29)
  have V4 : Arv Z h4 b3 kq3 .char (4 : Int32) [(.int (nar .char (p3.toUInt32.toUInt16.toUInt32.toInt32))), (.int 0), (.int 0), (.int 0)] (.int 0) := Arv.set Ar4 qq4 Sz4 Ng4 Hh4 Gg4 (fits_nar_char _) W4 0 rfl (Nat.le_of_ble_eq_true rfl)
  have N4 := Fr.snoc X4 N0 ge_b3
  have O_3 := O_1.wr W4 ge_b3
  have Zs4 := Nat.le_trans Zs2 (Keep.of_wr W4).1
  refine Go.on (B := T4.setTop (mkF m 35 #[vI p1, vI p2, vI p3, vI p4, vI p5, vI p6, vI v6_1, vI v17_2, vR b3, .unset, .unset, .unset] [(.int (p4.toUInt32.toUInt16.toUInt32.toInt32)), (.int 1), (.ref b3)])) (fun t k => XS.i2c X3.here hx rfl (hb hby at_28) rfl (st4 _ (XS.aload X4.here hx rfl (hb hby at_30) rfl rfl (XS.iconst X4.here hx rfl (hb hby at_32) (XS.iloadN X4.here hx rfl (hb hby at_33) rfl (XS.i2c X4.here hx rfl (hb hby at_34) rfl k)))))) ?_
  obtain ⟨cl5, Ar5, qq5, Sz5, Ng5, Hh5, Gg5⟩ := id V4
  have hin5 : ¬ ((1 : Int32) < 0 ∨ cl5.slots.size ≤ ((1 : Int32)).toNatClampNeg) := inb_of Sz5 ⟨by decide, by decide⟩
  obtain ⟨T5, h5, X5, e5, W5, st5⟩ := stC X4 hx hZ e4 Ar5 (j := (1 : Int32)) hin5 (g := (mkF m 35 #[vI p1, vI p2, vI p3, vI p4, vI p5, vI p6, vI v6_1, vI v17_2, vR b3, .unset, .unset, .unset] [(.int (p4.toUInt32.toUInt16.toUInt32.toInt32)), (.int 1), (.ref b3)])) rfl rfl (hb hby at_35)
  have V5 : Arv Z h5 b3 kq3 .char (4 : Int32) [(.int (nar .char (p3.toUInt32.toUInt16.toUInt32.toInt32))), (.int (nar .char (p4.toUInt32.toUInt16.toUInt32.toInt32))), (.int 0), (.int 0)] (.int 0) := Arv.set Ar5 qq5 Sz5 Ng5 Hh5 Gg5 (fits_nar_char _) W5 1 rfl (Nat.le_of_ble_eq_true rfl)
  have N5 := Fr.snoc X5 N4 ge_b3
  have O_5 := O_3.wr W5 ge_b3
  have Zs6 := Nat.le_trans Zs4 (Keep.of_wr W5).1
  obtain ⟨cl6, Ar6, qq6, Sz6, Ng6, Hh6, Gg6⟩ := id V5
  have hin6 : ¬ ((2 : Int32) < 0 ∨ cl6.slots.size ≤ ((2 : Int32)).toNatClampNeg) := inb_of Sz6 ⟨by decide, by decide⟩
  obtain ⟨T6, h6, X6, e6, W6, st6⟩ := stC X5 hx hZ e5 Ar6 (j := (2 : Int32)) hin6 (g := (mkF m 42 #[vI p1, vI p2, vI p3, vI p4, vI p5, vI p6, vI v6_1, vI v17_2, vR b3, .unset, .unset, .unset] [(.int (p5.toUInt32.toUInt16.toUInt32.toInt32)), (.int 2), (.ref b3)])) rfl rfl (hb hby at_42)
  have V6 : Arv Z h6 b3 kq3 .char (4 : Int32) [(.int (nar .char (p3.toUInt32.toUInt16.toUInt32.toInt32))), (.int (nar .char (p4.toUInt32.toUInt16.toUInt32.toInt32))), (.int (nar .char (p5.toUInt32.toUInt16.toUInt32.toInt32))), (.int 0)] (.int 0) := Arv.set Ar6 qq6 Sz6 Ng6 Hh6 Gg6 (fits_nar_char _) W6 2 rfl (Nat.le_of_ble_eq_true rfl)
  have N6 := Fr.snoc X6 N5 ge_b3
  have O_7 := O_5.wr W6 ge_b3
  have Zs8 := Nat.le_trans Zs6 (Keep.of_wr W6).1
  refine Go.on (B := T6.setTop (mkF m 43 #[vI p1, vI p2, vI p3, vI p4, vI p5, vI p6, vI v6_1, vI v17_2, vR b3, .unset, .unset, .unset] [])) (fun t k => st5 _ (XS.aload X5.here hx rfl (hb hby at_36) rfl rfl (XS.iconst X5.here hx rfl (hb hby at_38) (XS.iload X5.here hx rfl (hb hby at_39) rfl (XS.i2c X5.here hx rfl (hb hby at_41) rfl (st6 _ k)))))) ?_
  obtain ⟨cl7, Ar7, qq7, Sz7, Ng7, Hh7, Gg7⟩ := id V6
  have hin7 : ¬ ((3 : Int32) < 0 ∨ cl7.slots.size ≤ ((3 : Int32)).toNatClampNeg) := inb_of Sz7 ⟨by decide, by decide⟩
  obtain ⟨T7, h7, X7, e7, W7, st7⟩ := stC X6 hx hZ e6 Ar7 (j := (3 : Int32)) hin7 (g := (mkF m 49 #[vI p1, vI p2, vI p3, vI p4, vI p5, vI p6, vI v6_1, vI v17_2, vR b3, .unset, .unset, .unset] [(.int (p6.toUInt32.toUInt16.toUInt32.toInt32)), (.int 3), (.ref b3)])) rfl rfl (hb hby at_49)
  have V7 : Arv Z h7 b3 kq3 .char (4 : Int32) [(.int (nar .char (p3.toUInt32.toUInt16.toUInt32.toInt32))), (.int (nar .char (p4.toUInt32.toUInt16.toUInt32.toInt32))), (.int (nar .char (p5.toUInt32.toUInt16.toUInt32.toInt32))), (.int (nar .char (p6.toUInt32.toUInt16.toUInt32.toInt32)))] (.int 0) := Arv.set Ar7 qq7 Sz7 Ng7 Hh7 Gg7 (fits_nar_char _) W7 3 rfl (Nat.le_of_ble_eq_true rfl)
  have N7 := Fr.snoc X7 N6 ge_b3
  have O_9 := O_7.wr W7 ge_b3
  have Zs10 := Nat.le_trans Zs8 (Keep.of_wr W7).1
  refine Go.on (B := T7.setTop (mkF m 50 #[vI p1, vI p2, vI p3, vI p4, vI p5, vI p6, vI v6_1, vI v17_2, vR b3, .unset, .unset, .unset] [])) (fun t k => XS.aload X6.here hx rfl (hb hby at_43) rfl rfl (XS.iconst X6.here hx rfl (hb hby at_45) (XS.iload X6.here hx rfl (hb hby at_46) rfl (XS.i2c X6.here hx rfl (hb hby at_48) rfl (st7 _ k))))) ?_
  obtain ⟨c0, hq0⟩ : ∃ z, z = (nar .char (p3.toUInt32.toUInt16.toUInt32.toInt32)) := ⟨_, rfl⟩
  obtain ⟨c1, hq1⟩ : ∃ z, z = (nar .char (p4.toUInt32.toUInt16.toUInt32.toInt32)) := ⟨_, rfl⟩
  obtain ⟨c2, hq2⟩ : ∃ z, z = (nar .char (p5.toUInt32.toUInt16.toUInt32.toInt32)) := ⟨_, rfl⟩
  obtain ⟨c3, hq3⟩ : ∃ z, z = (nar .char (p6.toUInt32.toUInt16.toUInt32.toInt32)) := ⟨_, rfl⟩
  rw [← hq0, ← hq1, ← hq2, ← hq3] at V7
  have hc0 : 0 ≤ c0.toInt ∧ c0.toInt ≤ 65535 := by rw [hq0]; exact own_ch _
  have hc1 : 0 ≤ c1.toInt ∧ c1.toInt ≤ 65535 := by rw [hq1]; exact own_ch _
  have hc2 : 0 ≤ c2.toInt ∧ c2.toInt ≤ 65535 := by rw [hq2]; exact own_ch _
  have hc3 : 0 ≤ c3.toInt ∧ c3.toInt ≤ 65535 := by rw [hq3]; exact own_ch _
  by_cases hn0 : v6_1 = (0 : Int32)
  · subst hn0
    obtain rfl := own_s0 hs5
    refine Go.on (B := T7.setTop (mkF m 54 #[vI p1, vI p2, vI p3, vI p4, vI p5, vI p6, vI 0, vI 0, vR b3, .unset, .unset, .unset] [(.ref b3), (.int 0)])) (fun t k => XS.iload X7.here hx rfl (hb hby at_50) rfl (XS.aload X7.here hx rfl (hb hby at_52) rfl rfl k)) ?_
    obtain ⟨_, _, ⟨T8, L8, k8, n8⟩, -, X8, hS8, hg8, ⟨Lc8, hQ8, lq8, yq8, zq8⟩, st8⟩ := Jvm.RoadKit.callSS X7 hx (y := MN34) hown (mg hZ hw 2 rfl) (mg hZ hw 3 rfl) (mg hZ hw 4 rfl) (mg hZ hw 5 rfl) (by decide) (own_back (W := 0) (rmk0 l Z a0 hw [] b3 kq3 c0 c1 c2 c3 h7 n0 Zs10 V7 O_9 HH) hZ hI (gw hw 5 rfl) (gw hw 4 rfl) (by decide) (by decide)) (g := (mkF m 54 #[vI p1, vI p2, vI p3, vI p4, vI p5, vI p6, vI 0, vI 0, vR b3, .unset, .unset, .unset] [(.ref b3), (.int 0)])) rfl (by rw [hml]; rfl) (argsL := [(.int 0), (.ref b3)]) (rest := []) (lenOf pd_29 rfl) rfl (own_w rfl) (hb hby at_54) (fun _ _ => ⟨rfl, e7, (by decide : 1 + 4 ≤ _), (by decide : 4 + 10 ≤ _)⟩)
    dsimp only [Pt.U, Pt.locs, Pt.cells, Pt.slots] at X8 lq8 yq8 zq8 st8 hQ8 hS8 hg8
    subst lq8 yq8 zq8
    obtain ⟨hZ, hown⟩ := own_reb hZ hown hS8
    have Y8 := Nat.le_refl T8.heap.size
    obtain ⟨⟨x8, y8, ky8, rfl, Ex8, Fx8, Ax8⟩, N8q, K8q⟩ := hQ8
    have N8 := Fr.app N7 N8q
    have O_11 := O_9.keep K8q all0
    have f12 := V7.keep K8q nin0
    have Zs13 := Nat.le_trans Zs10 K8q.1
    obtain ⟨T9, h9, X9, e9, Xe9, A9, D9, Ue9, st9⟩ := newO X8 hx hZ hown (gw hw 27 rfl) (gw hw 28 rfl) (gw hw 29 rfl) rfl (g := (mkF m 59 #[vI p1, vI p2, vI p3, vI p4, vI p5, vI p6, vI 0, vI 0, vR b3, vR x8, .unset, .unset] [])) rfl (hb hby at_59) (by decide) (by decide)
    obtain ⟨b9, gq9⟩ : ∃ z, z = T8.heap.size := ⟨_, rfl⟩
    rw [← gq9] at A9 D9 Ue9 st9
    have ge_b9 : n0 ≤ b9 := Nat.le_trans Zs13 (Nat.le_of_eq gq9.symm)
    have ne_b3_b9 : b3 ≠ b9 := Nat.ne_of_lt (Nat.lt_of_lt_of_le f12.lt (Nat.le_of_eq gq9.symm))
    have ne_x8_b9 : x8 ≠ b9 := Nat.ne_of_lt (Nat.lt_of_lt_of_le Ex8.lt (Nat.le_of_eq gq9.symm))
    have ne_y8_b9 : y8 ≠ b9 := Nat.ne_of_lt (Nat.lt_of_lt_of_le Ax8.lt (Nat.le_of_eq gq9.symm))
    have Yw14 := Nat.le_trans Y8 Xe9.1
    have O_15 := O_11.ext Xe9
    have f16 := f12.ext Xe9
    have f17 := Ex8.ext Xe9
    have f18 := Fx8.ext Xe9
    have A_19 := Ax8.ext Xe9
    have Zs20 := Nat.le_trans Zs13 Xe9.1
    have F9_text : Fld Z h9 b9 "com/example/docs_into_rows/docsintorows/MarkupReader$Prolog" "text" "Ljava/lang/String;" .null := D9 (Or.inr (gw hw 40 rfl)) (ty := (.object "java/lang/String")) (by decide)
    have F9_doctypeStart : Fld Z h9 b9 "com/example/docs_into_rows/docsintorows/MarkupReader$Prolog" "doctypeStart" "I" (.int 0) := D9 (Or.inr (gw hw 42 rfl)) (ty := .int) (by decide)
    refine Go.on (B := T9.setTop (mkF m 67 #[vI p1, vI p2, vI p3, vI p4, vI p5, vI p6, vI 0, vI 0, vR b3, vR x8, .unset, .unset] [(.int 0), (.ref x8), (.ref b9), (.ref b9)])) (fun t k => st8.trans (XS.astore X8.here hx rfl (hb hby at_57) rfl rfl (l' := #[vI p1, vI p2, vI p3, vI p4, vI p5, vI p6, vI 0, vI 0, vR b3, vR x8, .unset, .unset]) rfl (st9 _ (XS.dup X9.here hx rfl (hb hby at_62) rfl rfl (XS.aload X9.here hx rfl (hb hby at_63) rfl rfl (XS.iload X9.here hx rfl (hb hby at_65) rfl k)))))) ?_
    obtain ⟨_, _, ⟨T10, L10, k10, n10⟩, -, X10, ⟨Lc10, hQ10, lq10, yq10, zq10⟩, st10⟩ := X9.specialBack hx (y := MN39) rfl hown (mg hZ hw 30 rfl) (mg hZ hw 31 rfl) (mg hZ hw 32 rfl) (by decide) (backOf (W := 1) (rpl l Z a0 hw [] b9 x8 (0 : Int32) h9 n0 Zs20 A9 F9_text F9_doctypeStart ge_b9) hZ (gw hw 32 rfl) (gw hw 29 rfl) (by decide) (by decide)) (g := (mkF m 67 #[vI p1, vI p2, vI p3, vI p4, vI p5, vI p6, vI 0, vI 0, vR b3, vR x8, .unset, .unset] [(.int 0), (.ref x8), (.ref b9), (.ref b9)])) rfl (by rw [hml]; rfl) (Steps.refl _) (a := b9) (argsL := [(.ref x8), (.int 0)]) (rest := [(.ref b9)]) (lenOf pd_30 rfl) rfl (own_w rfl) (hb hby at_67) (fun _ _ => ⟨rfl, e9, (by decide : 6 + 0 ≤ _), (by decide : 16 + 0 ≤ _)⟩)
    dsimp only [Pt.U, Pt.locs, Pt.cells, Pt.slots] at X10 lq10 yq10 zq10 st10 hQ10
    subst lq10 yq10 zq10
    obtain ⟨rfl, N10q, K10q, G10_0, G10_1, G10_2⟩ := hQ10
    have N10 := Fr.app N8 N10q
    have Yw21 := Nat.le_trans Yw14 K10q.1
    have O_22 := O_15.keep K10q (allS ge_b9 all0)
    have f23 := f16.keep K10q (ninS ne_b3_b9 nin0)
    have f24 := f17.keep K10q
    have f25 := f18.keep K10q (ninS ne_x8_b9 nin0)
    have A_26 := A_19.keep K10q (ninS ne_x8_b9 nin0) (ninS ne_y8_b9 nin0)
    have Zs28 := Nat.le_trans Zs20 K10q.1
    obtain ⟨cq11, kq11, q11a, q11b, q11c⟩ := isOf hZ rfl G10_0
    obtain ⟨_, _, ⟨T11, L11, k11, n11⟩, -, X11, ⟨Lc11, hQ11, lq11, yq11, zq11⟩, st11⟩ := X10.virtualBack hx (y := MN37) (z := MN37) hown (mg hZ hw 43 rfl) (mg hZ hw 44 rfl) (notFace_of_selects (args := #[]) (mg hZ hw 46 rfl)) (mg hZ hw 46 rfl) (mg hZ hw 45 rfl) (by decide) (backOf (W := 0) (rdti l Z a0 hw [] b9 x8 (0 : Int32) y8 ky8 [] G1 G3 T10.heap n0 Zs28 G10_0 G10_1 G10_2 f24 f25 A_26 (by decide) (by decide) ⟨by decide, by decide, by decide⟩ O_22 S_cs S_fm P5 rG3) hZ (gw hw 47 rfl) (gw hw 29 rfl) (by decide) (by decide)) q11a q11c (g := (mkF m 70 #[vI p1, vI p2, vI p3, vI p4, vI p5, vI p6, vI 0, vI 0, vR b3, vR x8, .unset, .unset] [(.ref b9)])) rfl (by rw [hml]; rfl) (Steps.refl _) (argsL := []) (rest := []) (lenOf pd_31 rfl) rfl (own_w rfl) (hb hby at_70) (fun _ _ => ⟨rfl, rfl, (by decide : 6 + 3 ≤ _), (by decide : 16 + 16 ≤ _)⟩)
    dsimp only [Pt.U, Pt.locs, Pt.cells, Pt.slots] at X11 lq11 yq11 zq11 st11 hQ11
    subst lq11 yq11 zq11
    obtain ⟨rfl, N11q, e11q⟩ := hQ11
    have N11 := Fr.app N10 N11q
    refine Go.on (B := T11.setTop (mkF m 80 #[vI p1, vI p2, vI p3, vI p4, vI p5, vI p6, vI 0, vI 0, vR b3, vR x8, vR x8, .unset] [(.int ((0 : Int32) - (0 : Int32)))])) (fun t k => st10.trans (st11.trans (XS.astore X11.here hx rfl (hb hby at_73) rfl rfl (l' := #[vI p1, vI p2, vI p3, vI p4, vI p5, vI p6, vI 0, vI 0, vR b3, vR x8, vR x8, .unset]) rfl (XS.iload X11.here hx rfl (hb hby at_75) rfl (XS.iload X11.here hx rfl (hb hby at_77) rfl (XS.isub X11.here hx rfl (hb hby at_79) rfl k)))))) ?_
    rw [show ((0 : Int32) - (0 : Int32)) = (0 : Int32) from by decide]
    refine Go.on (B := T11.setTop (mkF m 82 #[vI p1, vI p2, vI p3, vI p4, vI p5, vI p6, vI 0, vI 0, vR b3, vR x8, vR x8, vI 0] [])) (fun t k => XS.istore X11.here hx rfl (hb hby at_80) rfl (l' := #[vI p1, vI p2, vI p3, vI p4, vI p5, vI p6, vI 0, vI 0, vR b3, vR x8, vR x8, vI 0]) rfl k) ?_
    obtain ⟨cq13, kq13, q13a, q13b, q13c⟩ := isOf hZ e11q f24
    obtain ⟨_, _, ⟨T13, L13, k13, n13⟩, -, X13, ⟨Lc13, hQ13, lq13, yq13, zq13⟩, st13⟩ := X11.virtualBack hx (y := MN10) (z := MN10) hown (mg hZ hw 77 rfl) (mg hZ hw 54 rfl) (notFace_of_selects (args := #[]) (mg hZ hw 56 rfl)) (mg hZ hw 56 rfl) (mg hZ hw 55 rfl) (by decide) (backOf (W := 0) (rlen l Z a0 hw [] x8 y8 ky8 [] (0 : Int32) G1 T10.heap n0 Zs28 f24 f25 A_26 (by decide) (by decide) O_22 S_cs P5) hZ (gw hw 57 rfl) (gw hw 8 rfl) (by decide) (by decide)) q13a q13c (g := (mkF m 84 #[vI p1, vI p2, vI p3, vI p4, vI p5, vI p6, vI 0, vI 0, vR b3, vR x8, vR x8, vI 0] [(.ref x8)])) rfl (by rw [hml]; rfl) (Steps.refl _) (argsL := []) (rest := []) (lenOf pd_22 rfl) rfl (own_w rfl) (hb hby at_84) (fun _ _ => ⟨rfl, e11q, (by decide : 9 + 0 ≤ _), (by decide : 32 + 0 ≤ _)⟩)
    dsimp only [Pt.U, Pt.locs, Pt.cells, Pt.slots] at X13 lq13 yq13 zq13 st13 hQ13
    subst lq13 yq13 zq13
    obtain ⟨rfl, N13q, e13q⟩ := hQ13
    have N13 := Fr.app N11 N13q
    have hc89_14 : (0 : Int32) = (0 : Int32) := by decide
    refine Go.on (B := T13.setTop (mkF m 98 #[vI p1, vI p2, vI p3, vI p4, vI p5, vI p6, vI 0, vI 0, vR b3, vR x8, vR x8, vI 0] [(.ref b3), (.ref x8)])) (fun t k => XS.aload X11.here hx rfl (hb hby at_82) rfl rfl (st13.trans (XS.iload X13.here hx rfl (hb hby at_87) rfl (XS.icmpYes X13.here hx rfl (pc0 := 89) (pc' := 94) rfl (hb hby at_89) rfl (teq hc89_14).1 (by decide) (by decide) (XS.aload X13.here hx rfl (hb hby at_94) rfl rfl (XS.aload X13.here hx rfl (hb hby at_96) rfl rfl k)))))) ?_
    obtain ⟨_, _, ⟨T15, L15, k15, n15⟩, -, X15, ⟨Lc15, hQ15, lq15, yq15, zq15⟩, st15⟩ := Jvm.LawKit.callS X13 hx (y := MN40) hown (mg hZ hw 78 rfl) (mg hZ hw 79 rfl) (mg hZ hw 4 rfl) (mg hZ hw 80 rfl) (by decide) (backOf (W := 0) (rsm l Z a0 hw [] x8 b3 (0 : Int32) (0 : Int32) (0 : Int32) y8 ky8 [] kq3 c0 c1 c2 c3 (own_at c0 c1 c2 c3 ((0 : Int32) + (0 : Int32))) G1 G3 T10.heap n0 Zs28 f24 f25 A_26 f23 (by decide) (own_atr _ _ _ _ _ hc0 hc1 hc2 hc3) (fun q => absurd q (by decide)) O_22 S_cs S_fm S_ad S_hi S_lo P5 rG3) hZ (gw hw 80 rfl) (gw hw 4 rfl) (by decide) (by decide)) (g := (mkF m 103 #[vI p1, vI p2, vI p3, vI p4, vI p5, vI p6, vI 0, vI 0, vR b3, vR x8, vR x8, vI 0] [(.int 0), (.int 0), (.int 0), (.ref b3), (.ref x8)])) rfl (by rw [hml]; rfl) (argsL := [(.ref x8), (.ref b3), (.int 0), (.int 0), (.int 0)]) (rest := []) (lenOf pd_32 rfl) rfl (own_w rfl) (hb hby at_103) (fun _ _ => ⟨rfl, e13q, (by decide : 9 + 0 ≤ _), (by decide : 32 + 0 ≤ _)⟩)
    dsimp only [Pt.U, Pt.locs, Pt.cells, Pt.slots] at X15 lq15 yq15 zq15 st15 hQ15
    subst lq15 yq15 zq15
    obtain ⟨rfl, N15q, e15q⟩ := hQ15
    have N15 := Fr.app N13 N15q
    have hc106_16 : ¬ ((1 : Int32) = (0 : Int32)) := by decide
    refine Go.on (B := T15.setTop (mkF m 111 #[vI p1, vI p2, vI p3, vI p4, vI p5, vI p6, vI 0, vI 0, vR b3, vR x8, vR x8, vI 0] [(.ref x8)])) (fun t k => XS.iload X13.here hx rfl (hb hby at_98) rfl (XS.iconst X13.here hx rfl (hb hby at_100) (XS.iload X13.here hx rfl (hb hby at_101) rfl (st15 _ (XS.ifNo X15.here hx rfl (hb hby at_106) rfl ((if0 _ _).trans (feq hc106_16).1) (XS.aload X15.here hx rfl (hb hby at_109) rfl rfl k)))))) ?_
    obtain ⟨_, _, ⟨T17, L17, k17, n17⟩, -, X17, ⟨Lc17, hQ17, lq17, yq17, zq17⟩, st17⟩ := Jvm.LawKit.callS X15 hx (y := MN40) hown (mg hZ hw 78 rfl) (mg hZ hw 79 rfl) (mg hZ hw 4 rfl) (mg hZ hw 80 rfl) (by decide) (backOf (W := 0) (rsm l Z a0 hw [] x8 b3 (0 : Int32) (1 : Int32) (0 : Int32) y8 ky8 [] kq3 c0 c1 c2 c3 (own_at c0 c1 c2 c3 ((0 : Int32) + (1 : Int32))) G1 G3 T10.heap n0 Zs28 f24 f25 A_26 f23 (by decide) (own_atr _ _ _ _ _ hc0 hc1 hc2 hc3) (fun q => absurd q (by decide)) O_22 S_cs S_fm S_ad S_hi S_lo P5 rG3) hZ (gw hw 80 rfl) (gw hw 4 rfl) (by decide) (by decide)) (g := (mkF m 118 #[vI p1, vI p2, vI p3, vI p4, vI p5, vI p6, vI 0, vI 0, vR b3, vR x8, vR x8, vI 0] [(.int 0), (.int 1), (.int 0), (.ref b3), (.ref x8)])) rfl (by rw [hml]; rfl) (argsL := [(.ref x8), (.ref b3), (.int 0), (.int 1), (.int 0)]) (rest := []) (lenOf pd_32 rfl) rfl (own_w rfl) (hb hby at_118) (fun _ _ => ⟨rfl, e15q, (by decide : 9 + 0 ≤ _), (by decide : 32 + 0 ≤ _)⟩)
    dsimp only [Pt.U, Pt.locs, Pt.cells, Pt.slots] at X17 lq17 yq17 zq17 st17 hQ17
    subst lq17 yq17 zq17
    obtain ⟨rfl, N17q, e17q⟩ := hQ17
    have N17 := Fr.app N15 N17q
    have hc121_18 : ¬ ((1 : Int32) = (0 : Int32)) := by decide
    refine Go.on (B := T17.setTop (mkF m 124 #[vI p1, vI p2, vI p3, vI p4, vI p5, vI p6, vI 0, vI 0, vR b3, vR x8, vR x8, vI 0] [])) (fun t k => XS.aload X15.here hx rfl (hb hby at_111) rfl rfl (XS.iload X15.here hx rfl (hb hby at_113) rfl (XS.iconst X15.here hx rfl (hb hby at_115) (XS.iload X15.here hx rfl (hb hby at_116) rfl (st17 _ (XS.ifNo X17.here hx rfl (hb hby at_121) rfl ((if0 _ _).trans (feq hc121_18).1) k)))))) ?_
    obtain ⟨_, _, ⟨T19, L19, k19, n19⟩, -, X19, ⟨Lc19, hQ19, lq19, yq19, zq19⟩, st19⟩ := Jvm.LawKit.callS X17 hx (y := MN40) hown (mg hZ hw 78 rfl) (mg hZ hw 79 rfl) (mg hZ hw 4 rfl) (mg hZ hw 80 rfl) (by decide) (backOf (W := 0) (rsm l Z a0 hw [] x8 b3 (0 : Int32) (2 : Int32) (0 : Int32) y8 ky8 [] kq3 c0 c1 c2 c3 (own_at c0 c1 c2 c3 ((0 : Int32) + (2 : Int32))) G1 G3 T10.heap n0 Zs28 f24 f25 A_26 f23 (by decide) (own_atr _ _ _ _ _ hc0 hc1 hc2 hc3) (fun q => absurd q (by decide)) O_22 S_cs S_fm S_ad S_hi S_lo P5 rG3) hZ (gw hw 80 rfl) (gw hw 4 rfl) (by decide) (by decide)) (g := (mkF m 133 #[vI p1, vI p2, vI p3, vI p4, vI p5, vI p6, vI 0, vI 0, vR b3, vR x8, vR x8, vI 0] [(.int 0), (.int 2), (.int 0), (.ref b3), (.ref x8)])) rfl (by rw [hml]; rfl) (argsL := [(.ref x8), (.ref b3), (.int 0), (.int 2), (.int 0)]) (rest := []) (lenOf pd_32 rfl) rfl (own_w rfl) (hb hby at_133) (fun _ _ => ⟨rfl, e17q, (by decide : 9 + 0 ≤ _), (by decide : 32 + 0 ≤ _)⟩)
    dsimp only [Pt.U, Pt.locs, Pt.cells, Pt.slots] at X19 lq19 yq19 zq19 st19 hQ19
    subst lq19 yq19 zq19
    obtain ⟨rfl, N19q, e19q⟩ := hQ19
    have N19 := Fr.app N17 N19q
    refine Go.on (B := T19.setTop (mkF m 136 #[vI p1, vI p2, vI p3, vI p4, vI p5, vI p6, vI 0, vI 0, vR b3, vR x8, vR x8, vI 0] [(.int 1)])) (fun t k => XS.aload X17.here hx rfl (hb hby at_124) rfl rfl (XS.aload X17.here hx rfl (hb hby at_126) rfl rfl (XS.iload X17.here hx rfl (hb hby at_128) rfl (XS.iconst X17.here hx rfl (hb hby at_130) (XS.iload X17.here hx rfl (hb hby at_131) rfl (st19 _ k)))))) ?_
    have hc136_20 : ¬ ((1 : Int32) = (0 : Int32)) := by decide
    refine Go.on (B := T19.setTop (mkF m 148 #[vI p1, vI p2, vI p3, vI p4, vI p5, vI p6, vI 0, vI 0, vR b3, vR x8, vR x8, vI 0] [(.int 0), (.int 3), (.int 0), (.ref b3), (.ref x8)])) (fun t k => XS.ifNo X19.here hx rfl (hb hby at_136) rfl ((if0 _ _).trans (feq hc136_20).1) (XS.aload X19.here hx rfl (hb hby at_139) rfl rfl (XS.aload X19.here hx rfl (hb hby at_141) rfl rfl (XS.iload X19.here hx rfl (hb hby at_143) rfl (XS.iconst X19.here hx rfl (hb hby at_145) (XS.iload X19.here hx rfl (hb hby at_146) rfl k)))))) ?_
    obtain ⟨_, _, ⟨T21, L21, k21, n21⟩, -, X21, ⟨Lc21, hQ21, lq21, yq21, zq21⟩, st21⟩ := Jvm.LawKit.callS X19 hx (y := MN40) hown (mg hZ hw 78 rfl) (mg hZ hw 79 rfl) (mg hZ hw 4 rfl) (mg hZ hw 80 rfl) (by decide) (backOf (W := 0) (rsm l Z a0 hw [] x8 b3 (0 : Int32) (3 : Int32) (0 : Int32) y8 ky8 [] kq3 c0 c1 c2 c3 (own_at c0 c1 c2 c3 ((0 : Int32) + (3 : Int32))) G1 G3 T10.heap n0 Zs28 f24 f25 A_26 f23 (by decide) (own_atr _ _ _ _ _ hc0 hc1 hc2 hc3) (fun q => absurd q (by decide)) O_22 S_cs S_fm S_ad S_hi S_lo P5 rG3) hZ (gw hw 80 rfl) (gw hw 4 rfl) (by decide) (by decide)) (g := (mkF m 148 #[vI p1, vI p2, vI p3, vI p4, vI p5, vI p6, vI 0, vI 0, vR b3, vR x8, vR x8, vI 0] [(.int 0), (.int 3), (.int 0), (.ref b3), (.ref x8)])) rfl (by rw [hml]; rfl) (argsL := [(.ref x8), (.ref b3), (.int 0), (.int 3), (.int 0)]) (rest := []) (lenOf pd_32 rfl) rfl (own_w rfl) (hb hby at_148) (fun _ _ => ⟨rfl, e19q, (by decide : 9 + 0 ≤ _), (by decide : 32 + 0 ≤ _)⟩)
    dsimp only [Pt.U, Pt.locs, Pt.cells, Pt.slots] at X21 lq21 yq21 zq21 st21 hQ21
    subst lq21 yq21 zq21
    obtain ⟨rfl, N21q, e21q⟩ := hQ21
    have N21 := Fr.app N19 N21q
    have hc151_22 : ¬ ((1 : Int32) = (0 : Int32)) := by decide
    refine Go.on (B := T21.setTop (mkF m 159 #[vI p1, vI p2, vI p3, vI p4, vI p5, vI p6, vI 0, vI 0, vR b3, vR x8, vR x8, vI 0] [(.int 1)])) (fun t k => st21 _ (XS.ifNo X21.here hx rfl (hb hby at_151) rfl ((if0 _ _).trans (feq hc151_22).1) (XS.iconst X21.here hx rfl (hb hby at_154) (XS.goto X21.here hx rfl (pc0 := 155) (pc' := 159) rfl (hb hby at_155) (by decide) (by decide) k)))) ?_
    refine Go.finW X21 hS8 (by rw [e21q]; exact Yw21) (v := some (.int 1)) (own_nv Bd.returns) Bd.notSynchronized ?_ e21q ⟨rfl, N21⟩ (by decide) (by decide)
    exact fun _ hr => retN X21 hx (t := .boolean) Bd.returns (by simp) (hb hby at_159) hr
  · have hns := own_ns hn5 hs5 hn0
    have hn4 := own_n4 hn5 hn0
    obtain ⟨_, _, ⟨T23, L23, k23, n23⟩, -, X23, ⟨Lc23, hQ23, lq23, yq23, zq23⟩, st23⟩ := Jvm.LawKit.callS X7 hx (y := MN34) hown (mg hZ hw 2 rfl) (mg hZ hw 3 rfl) (mg hZ hw 4 rfl) (mg hZ hw 5 rfl) (by decide) (backOf (W := 0) (rmk l Z a0 hw [] v6_1 b3 kq3 c0 c1 c2 c3 G1 h7 n0 Zs10 V7 hn4 hc0 hc1 hc2 hc3 O_9 S_cs S_ad S_hi S_lo P5) hZ (gw hw 5 rfl) (gw hw 4 rfl) (by decide) (by decide)) (g := (mkF m 54 #[vI p1, vI p2, vI p3, vI p4, vI p5, vI p6, vI v6_1, vI v17_2, vR b3, .unset, .unset, .unset] [(.ref b3), (.int v6_1)])) rfl (by rw [hml]; rfl) (argsL := [(.int v6_1), (.ref b3)]) (rest := []) (lenOf pd_29 rfl) rfl (own_w rfl) (hb hby at_54) (fun _ _ => ⟨rfl, e7, (by decide : 1 + 4 ≤ _), (by decide : 4 + 20 ≤ _)⟩)
    dsimp only [Pt.U, Pt.locs, Pt.cells, Pt.slots] at X23 lq23 yq23 zq23 st23 hQ23
    subst lq23 yq23 zq23
    obtain ⟨⟨x23, y23, ky23, rfl, Ex23, Fx23, Ax23⟩, N23q, K23q⟩ := hQ23
    have N23 := Fr.app N7 N23q
    have O_29 := O_9.keep K23q all0
    have f30 := V7.keep K23q nin0
    have Zs31 := Nat.le_trans Zs10 K23q.1
    obtain ⟨T24, h24, X24, e24, Xe24, A24, D24, Ue24, st24⟩ := newO X23 hx hZ hown (gw hw 27 rfl) (gw hw 28 rfl) (gw hw 29 rfl) rfl (g := (mkF m 59 #[vI p1, vI p2, vI p3, vI p4, vI p5, vI p6, vI v6_1, vI v17_2, vR b3, vR x23, .unset, .unset] [])) rfl (hb hby at_59) (by decide) (by decide)
    obtain ⟨b24, gq24⟩ : ∃ z, z = T23.heap.size := ⟨_, rfl⟩
    rw [← gq24] at A24 D24 Ue24 st24
    have ge_b24 : n0 ≤ b24 := Nat.le_trans Zs31 (Nat.le_of_eq gq24.symm)
    have ne_b3_b24 : b3 ≠ b24 := Nat.ne_of_lt (Nat.lt_of_lt_of_le f30.lt (Nat.le_of_eq gq24.symm))
    have ne_x23_b24 : x23 ≠ b24 := Nat.ne_of_lt (Nat.lt_of_lt_of_le Ex23.lt (Nat.le_of_eq gq24.symm))
    have ne_y23_b24 : y23 ≠ b24 := Nat.ne_of_lt (Nat.lt_of_lt_of_le Ax23.lt (Nat.le_of_eq gq24.symm))
    have O_32 := O_29.ext Xe24
    have f33 := f30.ext Xe24
    have f34 := Ex23.ext Xe24
    have f35 := Fx23.ext Xe24
    have A_36 := Ax23.ext Xe24
    have Zs37 := Nat.le_trans Zs31 Xe24.1
    have F24_text : Fld Z h24 b24 "com/example/docs_into_rows/docsintorows/MarkupReader$Prolog" "text" "Ljava/lang/String;" .null := D24 (Or.inr (gw hw 40 rfl)) (ty := (.object "java/lang/String")) (by decide)
    have F24_doctypeStart : Fld Z h24 b24 "com/example/docs_into_rows/docsintorows/MarkupReader$Prolog" "doctypeStart" "I" (.int 0) := D24 (Or.inr (gw hw 42 rfl)) (ty := .int) (by decide)
    refine Go.on (B := T24.setTop (mkF m 63 #[vI p1, vI p2, vI p3, vI p4, vI p5, vI p6, vI v6_1, vI v17_2, vR b3, vR x23, .unset, .unset] [(.ref b24), (.ref b24)])) (fun t k => XS.iload X7.here hx rfl (hb hby at_50) rfl (XS.aload X7.here hx rfl (hb hby at_52) rfl rfl (st23 _ (XS.astore X23.here hx rfl (hb hby at_57) rfl rfl (l' := #[vI p1, vI p2, vI p3, vI p4, vI p5, vI p6, vI v6_1, vI v17_2, vR b3, vR x23, .unset, .unset]) rfl (st24 _ (XS.dup X24.here hx rfl (hb hby at_62) rfl rfl k)))))) ?_
    obtain ⟨_, _, ⟨T25, L25, k25, n25⟩, -, X25, ⟨Lc25, hQ25, lq25, yq25, zq25⟩, st25⟩ := X24.specialBack hx (y := MN39) rfl hown (mg hZ hw 30 rfl) (mg hZ hw 31 rfl) (mg hZ hw 32 rfl) (by decide) (backOf (W := 1) (rpl l Z a0 hw [] b24 x23 v17_2 h24 n0 Zs37 A24 F24_text F24_doctypeStart ge_b24) hZ (gw hw 32 rfl) (gw hw 29 rfl) (by decide) (by decide)) (g := (mkF m 67 #[vI p1, vI p2, vI p3, vI p4, vI p5, vI p6, vI v6_1, vI v17_2, vR b3, vR x23, .unset, .unset] [(.int v17_2), (.ref x23), (.ref b24), (.ref b24)])) rfl (by rw [hml]; rfl) (Steps.refl _) (a := b24) (argsL := [(.ref x23), (.int v17_2)]) (rest := [(.ref b24)]) (lenOf pd_30 rfl) rfl (own_w rfl) (hb hby at_67) (fun _ _ => ⟨rfl, e24, (by decide : 6 + 0 ≤ _), (by decide : 26 + 0 ≤ _)⟩)
    dsimp only [Pt.U, Pt.locs, Pt.cells, Pt.slots] at X25 lq25 yq25 zq25 st25 hQ25
    subst lq25 yq25 zq25
    obtain ⟨rfl, N25q, K25q, G25_0, G25_1, G25_2⟩ := hQ25
    have N25 := Fr.app N23 N25q
    have O_38 := O_32.keep K25q (allS ge_b24 all0)
    have f39 := f33.keep K25q (ninS ne_b3_b24 nin0)
    have f40 := f34.keep K25q
    have f41 := f35.keep K25q (ninS ne_x23_b24 nin0)
    have A_42 := A_36.keep K25q (ninS ne_x23_b24 nin0) (ninS ne_y23_b24 nin0)
    have Zs44 := Nat.le_trans Zs37 K25q.1
    refine Go.on (B := T25.setTop (mkF m 70 #[vI p1, vI p2, vI p3, vI p4, vI p5, vI p6, vI v6_1, vI v17_2, vR b3, vR x23, .unset, .unset] [(.ref b24)])) (fun t k => XS.aload X24.here hx rfl (hb hby at_63) rfl rfl (XS.iload X24.here hx rfl (hb hby at_65) rfl (st25.trans k))) ?_
    obtain ⟨cq26, kq26, q26a, q26b, q26c⟩ := isOf hZ rfl G25_0
    obtain ⟨_, _, ⟨T26, L26, k26, n26⟩, -, X26, hS26, hg26, ⟨Lc26, hQ26, lq26, yq26, zq26⟩, st26⟩ := X25.virtualBackS hx (y := MN37) (z := MN37) hown (mg hZ hw 43 rfl) (mg hZ hw 44 rfl) (notFace_of_selects (args := #[]) (mg hZ hw 46 rfl)) (mg hZ hw 46 rfl) (mg hZ hw 45 rfl) (by decide) (own_back (W := 0) (rdtW l Z a0 hw [] b24 x23 v17_2 v6_1 y23 ky23 c0 c1 c2 c3 G1 G3 T25.heap n0 Zs44 G25_0 G25_1 G25_2 f40 f41 A_42 hns hc0 hc1 hc2 hc3 O_38 S_cs S_fm S_ad S_hi S_lo P5 rG3 HH) hZ hI (gw hw 47 rfl) (gw hw 29 rfl) (by decide) (by decide)) q26a q26c (g := (mkF m 70 #[vI p1, vI p2, vI p3, vI p4, vI p5, vI p6, vI v6_1, vI v17_2, vR b3, vR x23, .unset, .unset] [(.ref b24)])) rfl (by rw [hml]; rfl) (Steps.refl _) (argsL := []) (rest := []) (lenOf pd_31 rfl) rfl (own_w rfl) (hb hby at_70) (fun _ _ => ⟨rfl, rfl, (by decide : 6 + 3 ≤ _), (by decide : 26 + 16 ≤ _)⟩)
    dsimp only [Pt.U, Pt.locs, Pt.cells, Pt.slots] at X26 lq26 yq26 zq26 st26 hQ26 hS26 hg26
    subst lq26 yq26 zq26
    obtain ⟨hZ, hown⟩ := own_reb hZ hown hS26
    have Y26 := Nat.le_refl T26.heap.size
    obtain ⟨⟨x26, y26, ky26, rfl, Ex26, Fx26, Ax26⟩, N26q, K26q⟩ := hQ26
    have N26 := Fr.app N25 N26q
    have O_45 := O_38.keep K26q all0
    have f46 := f39.keep K26q nin0
    have Zs53 := Nat.le_trans Zs44 K26q.1
    refine Go.on (B := T26.setTop (mkF m 80 #[vI p1, vI p2, vI p3, vI p4, vI p5, vI p6, vI v6_1, vI v17_2, vR b3, vR x23, vR x26, .unset] [(.int (v6_1 - v17_2))])) (fun t k => st26.trans (XS.astore X26.here hx rfl (hb hby at_73) rfl rfl (l' := #[vI p1, vI p2, vI p3, vI p4, vI p5, vI p6, vI v6_1, vI v17_2, vR b3, vR x23, vR x26, .unset]) rfl (XS.iload X26.here hx rfl (hb hby at_75) rfl (XS.iload X26.here hx rfl (hb hby at_77) rfl (XS.isub X26.here hx rfl (hb hby at_79) rfl k))))) ?_
    generalize hv80_27 : (v6_1 - v17_2) = v80_27
    refine Go.on (B := T26.setTop (mkF m 82 #[vI p1, vI p2, vI p3, vI p4, vI p5, vI p6, vI v6_1, vI v17_2, vR b3, vR x23, vR x26, vI v80_27] [])) (fun t k => XS.istore X26.here hx rfl (hb hby at_80) rfl (l' := #[vI p1, vI p2, vI p3, vI p4, vI p5, vI p6, vI v6_1, vI v17_2, vR b3, vR x23, vR x26, vI v80_27]) rfl k) ?_
    have hD := own_lenD hns c0 c1 c2 c3
    rw [hv80_27] at hD
    obtain ⟨cq28, kq28, q28a, q28b, q28c⟩ := isOf hZ rfl Ex26
    obtain ⟨_, _, ⟨T28, L28, k28, n28⟩, -, X28, ⟨Lc28, hQ28, lq28, yq28, zq28⟩, st28⟩ := X26.virtualBack hx (y := MN10) (z := MN10) hown (mg hZ hw 77 rfl) (mg hZ hw 54 rfl) (notFace_of_selects (args := #[]) (mg hZ hw 56 rfl)) (mg hZ hw 56 rfl) (mg hZ hw 55 rfl) (by decide) (backOf (W := 0) (rlen l Z a0 hw [] x26 y26 ky26 (own_cs v6_1 v17_2 c0 c1 c2 c3) v80_27 G1 T26.heap n0 Zs53 Ex26 Fx26 Ax26 hD.1 hD.2 O_45 S_cs P5) hZ (gw hw 57 rfl) (gw hw 8 rfl) (by decide) (by decide)) q28a q28c (g := (mkF m 84 #[vI p1, vI p2, vI p3, vI p4, vI p5, vI p6, vI v6_1, vI v17_2, vR b3, vR x23, vR x26, vI v80_27] [(.ref x26)])) rfl (by rw [hml]; rfl) (Steps.refl _) (argsL := []) (rest := []) (lenOf pd_22 rfl) rfl (own_w rfl) (hb hby at_84) (fun _ _ => ⟨rfl, rfl, (by decide : 9 + 0 ≤ _), (by decide : 42 + 0 ≤ _)⟩)
    dsimp only [Pt.U, Pt.locs, Pt.cells, Pt.slots] at X28 lq28 yq28 zq28 st28 hQ28
    subst lq28 yq28 zq28
    obtain ⟨rfl, N28q, e28q⟩ := hQ28
    have N28 := Fr.app N26 N28q
    have hc89_29 : v80_27 = v80_27 := rfl
    refine Go.on (B := T28.setTop (mkF m 98 #[vI p1, vI p2, vI p3, vI p4, vI p5, vI p6, vI v6_1, vI v17_2, vR b3, vR x23, vR x26, vI v80_27] [(.ref b3), (.ref x26)])) (fun t k => XS.aload X26.here hx rfl (hb hby at_82) rfl rfl (st28.trans (XS.iload X28.here hx rfl (hb hby at_87) rfl (XS.icmpYes X28.here hx rfl (pc0 := 89) (pc' := 94) rfl (hb hby at_89) rfl (teq hc89_29).1 (by decide) (by decide) (XS.aload X28.here hx rfl (hb hby at_94) rfl rfl (XS.aload X28.here hx rfl (hb hby at_96) rfl rfl k)))))) ?_
    obtain ⟨_, _, ⟨T30, L30, k30, n30⟩, -, X30, ⟨Lc30, hQ30, lq30, yq30, zq30⟩, st30⟩ := Jvm.LawKit.callS X28 hx (y := MN40) hown (mg hZ hw 78 rfl) (mg hZ hw 79 rfl) (mg hZ hw 4 rfl) (mg hZ hw 80 rfl) (by decide) (backOf (W := 0) (rsm l Z a0 hw [] x26 b3 v17_2 (0 : Int32) v80_27 y26 ky26 (own_cs v6_1 v17_2 c0 c1 c2 c3) kq3 c0 c1 c2 c3 (own_at c0 c1 c2 c3 (v17_2 + (0 : Int32))) G1 G3 T26.heap n0 Zs53 Ex26 Fx26 Ax26 f46 (own_lenE hns c0 c1 c2 c3) (own_atr _ _ _ _ _ hc0 hc1 hc2 hc3) (fun q => own_sm0 hns c0 c1 c2 c3 (by rw [hv80_27]; exact q)) O_45 S_cs S_fm S_ad S_hi S_lo P5 rG3) hZ (gw hw 80 rfl) (gw hw 4 rfl) (by decide) (by decide)) (g := (mkF m 103 #[vI p1, vI p2, vI p3, vI p4, vI p5, vI p6, vI v6_1, vI v17_2, vR b3, vR x23, vR x26, vI v80_27] [(.int v80_27), (.int 0), (.int v17_2), (.ref b3), (.ref x26)])) rfl (by rw [hml]; rfl) (argsL := [(.ref x26), (.ref b3), (.int v17_2), (.int 0), (.int v80_27)]) (rest := []) (lenOf pd_32 rfl) rfl (own_w rfl) (hb hby at_103) (fun _ _ => ⟨rfl, e28q, (by decide : 9 + 0 ≤ _), (by decide : 42 + 0 ≤ _)⟩)
    dsimp only [Pt.U, Pt.locs, Pt.cells, Pt.slots] at X30 lq30 yq30 zq30 st30 hQ30
    subst lq30 yq30 zq30
    obtain ⟨rfl, N30q, e30q⟩ := hQ30
    have N30 := Fr.app N28 N30q
    have hc106_31 : ¬ ((1 : Int32) = (0 : Int32)) := by decide
    refine Go.on (B := T30.setTop (mkF m 111 #[vI p1, vI p2, vI p3, vI p4, vI p5, vI p6, vI v6_1, vI v17_2, vR b3, vR x23, vR x26, vI v80_27] [(.ref x26)])) (fun t k => XS.iload X28.here hx rfl (hb hby at_98) rfl (XS.iconst X28.here hx rfl (hb hby at_100) (XS.iload X28.here hx rfl (hb hby at_101) rfl (st30 _ (XS.ifNo X30.here hx rfl (hb hby at_106) rfl ((if0 _ _).trans (feq hc106_31).1) (XS.aload X30.here hx rfl (hb hby at_109) rfl rfl k)))))) ?_
    obtain ⟨_, _, ⟨T32, L32, k32, n32⟩, -, X32, ⟨Lc32, hQ32, lq32, yq32, zq32⟩, st32⟩ := Jvm.LawKit.callS X30 hx (y := MN40) hown (mg hZ hw 78 rfl) (mg hZ hw 79 rfl) (mg hZ hw 4 rfl) (mg hZ hw 80 rfl) (by decide) (backOf (W := 0) (rsm l Z a0 hw [] x26 b3 v17_2 (1 : Int32) v80_27 y26 ky26 (own_cs v6_1 v17_2 c0 c1 c2 c3) kq3 c0 c1 c2 c3 (own_at c0 c1 c2 c3 (v17_2 + (1 : Int32))) G1 G3 T26.heap n0 Zs53 Ex26 Fx26 Ax26 f46 (own_lenE hns c0 c1 c2 c3) (own_atr _ _ _ _ _ hc0 hc1 hc2 hc3) (fun q => own_sm1 hns c0 c1 c2 c3 (by rw [hv80_27]; exact q)) O_45 S_cs S_fm S_ad S_hi S_lo P5 rG3) hZ (gw hw 80 rfl) (gw hw 4 rfl) (by decide) (by decide)) (g := (mkF m 118 #[vI p1, vI p2, vI p3, vI p4, vI p5, vI p6, vI v6_1, vI v17_2, vR b3, vR x23, vR x26, vI v80_27] [(.int v80_27), (.int 1), (.int v17_2), (.ref b3), (.ref x26)])) rfl (by rw [hml]; rfl) (argsL := [(.ref x26), (.ref b3), (.int v17_2), (.int 1), (.int v80_27)]) (rest := []) (lenOf pd_32 rfl) rfl (own_w rfl) (hb hby at_118) (fun _ _ => ⟨rfl, e30q, (by decide : 9 + 0 ≤ _), (by decide : 42 + 0 ≤ _)⟩)
    dsimp only [Pt.U, Pt.locs, Pt.cells, Pt.slots] at X32 lq32 yq32 zq32 st32 hQ32
    subst lq32 yq32 zq32
    obtain ⟨rfl, N32q, e32q⟩ := hQ32
    have N32 := Fr.app N30 N32q
    have hc121_33 : ¬ ((1 : Int32) = (0 : Int32)) := by decide
    refine Go.on (B := T32.setTop (mkF m 124 #[vI p1, vI p2, vI p3, vI p4, vI p5, vI p6, vI v6_1, vI v17_2, vR b3, vR x23, vR x26, vI v80_27] [])) (fun t k => XS.aload X30.here hx rfl (hb hby at_111) rfl rfl (XS.iload X30.here hx rfl (hb hby at_113) rfl (XS.iconst X30.here hx rfl (hb hby at_115) (XS.iload X30.here hx rfl (hb hby at_116) rfl (st32 _ (XS.ifNo X32.here hx rfl (hb hby at_121) rfl ((if0 _ _).trans (feq hc121_33).1) k)))))) ?_
    obtain ⟨_, _, ⟨T34, L34, k34, n34⟩, -, X34, ⟨Lc34, hQ34, lq34, yq34, zq34⟩, st34⟩ := Jvm.LawKit.callS X32 hx (y := MN40) hown (mg hZ hw 78 rfl) (mg hZ hw 79 rfl) (mg hZ hw 4 rfl) (mg hZ hw 80 rfl) (by decide) (backOf (W := 0) (rsm l Z a0 hw [] x26 b3 v17_2 (2 : Int32) v80_27 y26 ky26 (own_cs v6_1 v17_2 c0 c1 c2 c3) kq3 c0 c1 c2 c3 (own_at c0 c1 c2 c3 (v17_2 + (2 : Int32))) G1 G3 T26.heap n0 Zs53 Ex26 Fx26 Ax26 f46 (own_lenE hns c0 c1 c2 c3) (own_atr _ _ _ _ _ hc0 hc1 hc2 hc3) (fun q => own_sm2 hns c0 c1 c2 c3 (by rw [hv80_27]; exact q)) O_45 S_cs S_fm S_ad S_hi S_lo P5 rG3) hZ (gw hw 80 rfl) (gw hw 4 rfl) (by decide) (by decide)) (g := (mkF m 133 #[vI p1, vI p2, vI p3, vI p4, vI p5, vI p6, vI v6_1, vI v17_2, vR b3, vR x23, vR x26, vI v80_27] [(.int v80_27), (.int 2), (.int v17_2), (.ref b3), (.ref x26)])) rfl (by rw [hml]; rfl) (argsL := [(.ref x26), (.ref b3), (.int v17_2), (.int 2), (.int v80_27)]) (rest := []) (lenOf pd_32 rfl) rfl (own_w rfl) (hb hby at_133) (fun _ _ => ⟨rfl, e32q, (by decide : 9 + 0 ≤ _), (by decide : 42 + 0 ≤ _)⟩)
    dsimp only [Pt.U, Pt.locs, Pt.cells, Pt.slots] at X34 lq34 yq34 zq34 st34 hQ34
    subst lq34 yq34 zq34
    obtain ⟨rfl, N34q, e34q⟩ := hQ34
    have N34 := Fr.app N32 N34q
    refine Go.on (B := T34.setTop (mkF m 136 #[vI p1, vI p2, vI p3, vI p4, vI p5, vI p6, vI v6_1, vI v17_2, vR b3, vR x23, vR x26, vI v80_27] [(.int 1)])) (fun t k => XS.aload X32.here hx rfl (hb hby at_124) rfl rfl (XS.aload X32.here hx rfl (hb hby at_126) rfl rfl (XS.iload X32.here hx rfl (hb hby at_128) rfl (XS.iconst X32.here hx rfl (hb hby at_130) (XS.iload X32.here hx rfl (hb hby at_131) rfl (st34 _ k)))))) ?_
    have hc136_35 : ¬ ((1 : Int32) = (0 : Int32)) := by decide
    refine Go.on (B := T34.setTop (mkF m 148 #[vI p1, vI p2, vI p3, vI p4, vI p5, vI p6, vI v6_1, vI v17_2, vR b3, vR x23, vR x26, vI v80_27] [(.int v80_27), (.int 3), (.int v17_2), (.ref b3), (.ref x26)])) (fun t k => XS.ifNo X34.here hx rfl (hb hby at_136) rfl ((if0 _ _).trans (feq hc136_35).1) (XS.aload X34.here hx rfl (hb hby at_139) rfl rfl (XS.aload X34.here hx rfl (hb hby at_141) rfl rfl (XS.iload X34.here hx rfl (hb hby at_143) rfl (XS.iconst X34.here hx rfl (hb hby at_145) (XS.iload X34.here hx rfl (hb hby at_146) rfl k)))))) ?_
    obtain ⟨_, _, ⟨T36, L36, k36, n36⟩, -, X36, ⟨Lc36, hQ36, lq36, yq36, zq36⟩, st36⟩ := Jvm.LawKit.callS X34 hx (y := MN40) hown (mg hZ hw 78 rfl) (mg hZ hw 79 rfl) (mg hZ hw 4 rfl) (mg hZ hw 80 rfl) (by decide) (backOf (W := 0) (rsm l Z a0 hw [] x26 b3 v17_2 (3 : Int32) v80_27 y26 ky26 (own_cs v6_1 v17_2 c0 c1 c2 c3) kq3 c0 c1 c2 c3 (own_at c0 c1 c2 c3 (v17_2 + (3 : Int32))) G1 G3 T26.heap n0 Zs53 Ex26 Fx26 Ax26 f46 (own_lenE hns c0 c1 c2 c3) (own_atr _ _ _ _ _ hc0 hc1 hc2 hc3) (fun q => own_sm3 hns c0 c1 c2 c3 (by rw [hv80_27]; exact q)) O_45 S_cs S_fm S_ad S_hi S_lo P5 rG3) hZ (gw hw 80 rfl) (gw hw 4 rfl) (by decide) (by decide)) (g := (mkF m 148 #[vI p1, vI p2, vI p3, vI p4, vI p5, vI p6, vI v6_1, vI v17_2, vR b3, vR x23, vR x26, vI v80_27] [(.int v80_27), (.int 3), (.int v17_2), (.ref b3), (.ref x26)])) rfl (by rw [hml]; rfl) (argsL := [(.ref x26), (.ref b3), (.int v17_2), (.int 3), (.int v80_27)]) (rest := []) (lenOf pd_32 rfl) rfl (own_w rfl) (hb hby at_148) (fun _ _ => ⟨rfl, e34q, (by decide : 9 + 0 ≤ _), (by decide : 42 + 0 ≤ _)⟩)
    dsimp only [Pt.U, Pt.locs, Pt.cells, Pt.slots] at X36 lq36 yq36 zq36 st36 hQ36
    subst lq36 yq36 zq36
    obtain ⟨rfl, N36q, e36q⟩ := hQ36
    have N36 := Fr.app N34 N36q
    have hc151_37 : ¬ ((1 : Int32) = (0 : Int32)) := by decide
    refine Go.on (B := T36.setTop (mkF m 159 #[vI p1, vI p2, vI p3, vI p4, vI p5, vI p6, vI v6_1, vI v17_2, vR b3, vR x23, vR x26, vI v80_27] [(.int 1)])) (fun t k => st36 _ (XS.ifNo X36.here hx rfl (hb hby at_151) rfl ((if0 _ _).trans (feq hc151_37).1) (XS.iconst X36.here hx rfl (hb hby at_154) (XS.goto X36.here hx rfl (pc0 := 155) (pc' := 159) rfl (hb hby at_155) (by decide) (by decide) k)))) ?_
    refine Go.finW X36 hS26 (by rw [e36q]; exact Y26) (v := some (.int 1)) (own_nv Bd.returns) Bd.notSynchronized ?_ e36q ⟨rfl, N36⟩ (by decide) (by decide)
    exact fun _ hr => retN X36 hx (t := .boolean) Bd.returns (by simp) (hb hby at_159) hr
theorem comes_1 {Post : Tables → Env → Array Value → State → Outcome → State → Prop} (hpost : ∀ tb e args s v u, (limb_1_1.after args s (.returned v) u = true ∧ limb_1_2.after args s (.returned v) u = true ∧ True) → Jvm.D.FramedW s (.returned v) u (Jvm.fieldLocs frame_1_writes args s ++ Jvm.arrayLocs frame_1_arrays args s ++ Jvm.staticLocs frame_1_statics s) 32 3264 → Post tb e args s (.returned v) u) :
    ArmFor flags0 classFile x code maxLocals ret World_1 tables_1 room_1 Calls_1 rest_1 Pre_1 Post := by
  intro l hfl _ _ p e ha hc hk s m args below hf hA hF happ hP
  obtain ⟨hcalls, hrest, hpre⟩ := hP
  obtain ⟨-, -, -, hnamed, -, -, -, hat⟩ := (Spec.applies_iff hf).mp happ
  obtain ⟨hg, hn⟩ := and_e (Cond.before_iff.mp (show (Jvm.Cond.and given_1 narrow_1).before args s = true from hpre))
  obtain ⟨gc, gr0⟩ := and_e hg
  obtain ⟨ga0, gr1⟩ := and_e gr0
  obtain ⟨ga1, gr2⟩ := and_e gr1
  obtain ⟨ga2, gr3⟩ := and_e gr2
  obtain ⟨ga3, gr4⟩ := and_e gr3
  obtain ⟨ga4, gr5⟩ := and_e gr4
  obtain ⟨w0, w1, w2, w3, w4, w5, rfl⟩ : ∃ w0 w1 w2 w3 w4 w5 : Value, args = #[w0, w1, w2, w3, w4, w5] := by
    have hs : args.size = 6 := by simpa [Cond.value, given_1] using gc
    obtain ⟨L⟩ := args
    match L, hs with
    | [w0, w1, w2, w3, w4, w5], _ => exact ⟨w0, w1, w2, w3, w4, w5, rfl⟩
  have hw := fun d (hd : d ∈ tables_1) => atoms_spec (ws := Jvm.Cond.code x code maxLocals ret :: tables_1) hat d (List.mem_cons_of_mem _ hd)
  have hfit : Fit s := fun {y c} hc i hi => by
    obtain ⟨ha, rfl⟩ := Array.getElem?_eq_some_iff.mp hc
    have q := List.all_eq_true.mp ((Array.all_eq_true_iff_forall_mem.mp hF) _ (Array.getElem_mem ha)) i (List.mem_range.mpr hi)
    simpa [Array.getElem?_eq_getElem hi] using q
  obtain ⟨hsets, hown0⟩ := atoms_of _ (rest_1_c_eq ▸ (show rest_1_c.before _ s = true from hrest))
  have hr0 := Cond.before_iff.mp hown0
  obtain ⟨i0, ei0⟩ := is_v ga0
  obtain rfl : w0 = (.int i0) := Option.some.inj ei0
  obtain ⟨i1, ei1⟩ := is_v ga1
  obtain rfl : w1 = (.int i1) := Option.some.inj ei1
  obtain ⟨i2, ei2⟩ := is_v ga2
  obtain rfl : w2 = (.int i2) := Option.some.inj ei2
  obtain ⟨i3, ei3⟩ := is_v ga3
  obtain rfl : w3 = (.int i3) := Option.some.inj ei3
  obtain ⟨i4, ei4⟩ := is_v ga4
  obtain rfl : w4 = (.int i4) := Option.some.inj ei4
  obtain ⟨i5, ei5⟩ := is_v gr5
  obtain rfl : w5 = (.int i5) := Option.some.inj ei5
  have n5 := not_v (Cond.before_iff.mp (hsets _ (List.mem_of_getElem? (i := 2) rfl)))
  obtain ⟨G1, e10⟩ := is_v (Cond.before_iff.mp (hsets _ (List.mem_of_getElem? (i := 1) rfl)))
  have S_cs : Sta s s.heap "java/lang/String" "COMPACT_STRINGS" "Z" (.int G1) := Sta.start e10 (Or.inl (hsets _ (List.mem_of_getElem? (i := 0) rfl)))
  have P5 : ¬ (G1 = (0 : Int32)) := gotF (Cond.eq_ints e10 (Term.int_eval (0))) n5
  obtain ⟨G3, e14, rG3⟩ := isR_v (Cond.before_iff.mp (hsets _ (List.mem_of_getElem? (i := 8) rfl)))
  have S_fm : Sta s s.heap "jdk/internal/util/Preconditions" "SIOOBE_FORMATTER" "Ljava/util/function/BiFunction;" G3 := Sta.start e14 (Or.inl (hsets _ (List.mem_of_getElem? (i := 7) rfl)))
  have S_ad : Sta s s.heap "java/lang/StringUTF16" "$assertionsDisabled" "Z" (.int 1) := Sta.start (eqv_i (Term.int_eval (1 : Int32)) (Cond.before_iff.mp (hsets _ (List.mem_of_getElem? (i := 12) rfl)))) (Or.inl (hsets _ (List.mem_of_getElem? (i := 11) rfl)))
  have S_hi : Sta s s.heap "java/lang/StringUTF16" "HI_BYTE_SHIFT" "I" (.int 0) := Sta.start (eqv_i (Term.int_eval (0 : Int32)) (Cond.before_iff.mp (hsets _ (List.mem_of_getElem? (i := 15) rfl)))) (Or.inl (hsets _ (List.mem_of_getElem? (i := 14) rfl)))
  have S_lo : Sta s s.heap "java/lang/StringUTF16" "LO_BYTE_SHIFT" "I" (.int 8) := Sta.start (eqv_i (Term.int_eval (8 : Int32)) (Cond.before_iff.mp (hsets _ (List.mem_of_getElem? (i := 18) rfl)))) (Or.inl (hsets _ (List.mem_of_getElem? (i := 17) rfl)))
  have HH : own_H s _ := ⟨(hsets _ (List.mem_of_getElem? (i := 2) rfl)), hcalls.1 _ (List.mem_of_getElem? (i := 0) rfl), hcalls.1 _ (List.mem_of_getElem? (i := 1) rfl), hcalls.1 _ (List.mem_of_getElem? (i := 2) rfl)⟩
  obtain ⟨n, o, h1, h2, h3, _, L, rfl, ⟨rfl, N⟩, hq⟩ := rm0 l s _ hw tables_1 i0 i1 i2 i3 i4 i5 G1 G3 s.heap s.heap.size (Nat.le_refl _) (Old.start s) S_cs S_fm S_ad S_hi S_lo P5 rG3 HH p e ha hc hk s m _ below hf ((Spec.applies_iff_loose hf).mp happ).1 ⟨rfl, State.Warmed39.refl s, rfl, IB.start⟩ trivial
  refine ⟨n, _, h1, h2, h3, hpost _ _ _ _ _ _ ⟨Cond.after_iff.mpr rfl, Cond.after_iff.mpr (eq_i res_at (Term.int_eval (1)) rfl), trivial⟩ ⟨hq.1, hq.2.1, hq.2.2.1, (hq.2.2.2.sift fun y hy => Or.inr (N y hy)).mono (by decide) (by decide)⟩⟩
theorem main_1_1 : Claimed_1_1 := comes_1 fun _ _ _ _ _ _ h hF => ⟨h.1, hF⟩
theorem main_1_2 : Claimed_1_2 := comes_1 fun _ _ _ _ _ _ h hF => ⟨h.2.1, hF⟩
end Jvm.Pilot.@@N@@
namespace Jvm.Pilot.@@N@@
open Jvm Jvm.ClassFile Sem Op Lib Jvm.Free Jvm.Stand Jvm.Pilot.@@N@@.Jvm.D
/-! MADE BY PROGRAM (witnessworld.py) out of the Statement's table words and the real class files: 24 classes; the members and pool entries that the words name. The judged class is class 1, her method 1. -/
namespace start1
open Jvm.ClassFile
def u (s : String) : CpInfo := .utf8 (stringToUtf16 s)
/-- a pool by its gaps: so many unusable entries, then the entry; so many at the end -/
def gap : Nat → List CpInfo → List CpInfo
  | 0, r => r
  | n + 1, r => .unusable :: gap n r
def poolList (es : List (Nat × CpInfo)) (last : Nat) : List CpInfo := es.foldr (fun e r => gap e.1 (e.2 :: r)) (gap last [])
def pool (es : List (Nat × CpInfo)) (last : Nat) : Array CpInfo := ⟨poolList es last⟩
def fileOf (pool : Array CpInfo) (this : Nat) (attrs : Array Attribute := #[]) (ms : Array MethodInfo := #[]) (fl : Nat := 33) (sup : Nat := 0) (ifs : Array Nat := #[]) (fds : Array FieldInfo := #[]) : ClassFile where
  minorVersion := 0
  majorVersion := 65
  constantPool := pool
  accessFlags := fl
  thisClass := this
  superClass := sup
  interfaces := ifs
  fields := fds
  methods := ms
  attributes := attrs
def plain (name : String) (sup : Option ClassId) : Class where
  name := name
  kind := .ordinary
  loader := none
  accessFlags := 33
  super := sup
  interfaces := #[]
  cf := none
  fields := #[]
  methods := #[]
  instanceTypes := #[]
  staticTypes := #[]
  resolved := #[]
  callSites := []
  init := .initialized
  statics := none
  mirror := none

def pool0 : Array CpInfo := pool [(5, u "<init>"), (0, u "()V"), (1, .class_ 10), (1, u "java/lang/Object")] 113

def k0c0 : Code := { maxStack := 0, maxLocals := 1, code := object_method_1_code, exceptionTable := #[], attributes := #[] }
def k0m0 : Method := { name := "<init>", desc := "()V", sig := { parameters := [], returnType := none }, accessFlags := 1, code := some k0c0 }
/-- java/lang/Object -/
def k0 : Class := { plain "java/lang/Object" none with
  accessFlags := 33
  interfaces := #[]
  cf := some (fileOf pool0 8 #[] #[{ accessFlags := 1, nameIndex := 5, descriptorIndex := 6, attributes := #[] }] 33 0 #[] #[])
  fields := #[]
  methods := #[k0m0]
  instanceTypes := #[]
  staticTypes := #[]
  resolved := Array.replicate 124 none
  statics := none }

def pool1 : Array CpInfo := pool [(2, .class_ 4), (1, u "java/lang/Object"), (0, u "<init>"), (0, u "()V"), (0, .integer 2147483647), (0, .methodref 9 10), (0, .class_ 11), (0, .nameAndType 12 13), (0, u "com/example/docs_into_rows/docsintorows/PrologDoctypePinLaw"), (0, u "make"), (0, u "(I[C)Ljava/lang/String;"), (0, .class_ 15), (0, u "com/example/docs_into_rows/docsintorows/MarkupReader$Prolog"), (0, .methodref 14 17), (0, .nameAndType 5 18), (0, u "(Ljava/lang/String;I)V"), (0, .methodref 14 20), (0, .nameAndType 21 22), (0, u "doctype"), (0, u "()Ljava/lang/String;"), (0, .methodref 24 25), (0, .class_ 26), (0, .nameAndType 27 28), (0, u "java/lang/String"), (0, u "length"), (0, u "()I"), (0, .methodref 9 30), (0, .nameAndType 31 32), (0, u "same"), (0, u "(Ljava/lang/String;[CIII)Z"), (0, .methodref 24 34), (0, .nameAndType 35 36), (0, u "charAt"), (0, u "(I)C"), (0, .methodref 24 38), (0, .nameAndType 5 39), (0, u "([C)V"), (2, u "law"), (0, u "(IIIIII)Z")] 9

def k1m0 : Method := { name := "<init>", desc := "()V", sig := { parameters := [], returnType := none }, accessFlags := 1, code := none }
def k1c1 : Code := { maxStack := 5, maxLocals := 12, code := code, exceptionTable := #[], attributes := #[] }
def k1m1 : Method := { name := "law", desc := "(IIIIII)Z", sig := { parameters := [.int, .int, .int, .int, .int, .int], returnType := some .boolean }, accessFlags := 9, code := some k1c1 }
def k1c2 : Code := { maxStack := 4, maxLocals := 5, code := method_3_code, exceptionTable := #[], attributes := #[] }
def k1m2 : Method := { name := "same", desc := "(Ljava/lang/String;[CIII)Z", sig := { parameters := [(.object "java/lang/String"), (.array .char), .int, .int, .int], returnType := some .boolean }, accessFlags := 10, code := some k1c2 }
def k1c3 : Code := { maxStack := 7, maxLocals := 2, code := method_4_code, exceptionTable := #[], attributes := #[] }
def k1m3 : Method := { name := "make", desc := "(I[C)Ljava/lang/String;", sig := { parameters := [.int, (.array .char)], returnType := some (.object "java/lang/String") }, accessFlags := 10, code := some k1c3 }
/-- com/example/docs_into_rows/docsintorows/PrologDoctypePinLaw -/
def k1 : Class := { plain "com/example/docs_into_rows/docsintorows/PrologDoctypePinLaw" (some 0) with
  accessFlags := 49
  interfaces := #[]
  cf := some (fileOf pool1 9 #[] #[{ accessFlags := 1, nameIndex := 5, descriptorIndex := 6, attributes := #[] }, { accessFlags := 9, nameIndex := 42, descriptorIndex := 43, attributes := #[] }, { accessFlags := 10, nameIndex := 31, descriptorIndex := 32, attributes := #[] }, { accessFlags := 10, nameIndex := 12, descriptorIndex := 13, attributes := #[] }] 49 2 #[] #[])
  fields := #[]
  methods := #[k1m0, k1m1, k1m2, k1m3]
  instanceTypes := #[]
  staticTypes := #[]
  resolved := Array.replicate 53 none
  statics := none }

def pool2 : Array CpInfo := pool [(1, .class_ 2), (0, u "java/io/Serializable"), (0, .class_ 4), (0, u "java/lang/Object")] 2

/-- java/io/Serializable -/
def k2 : Class := { plain "java/io/Serializable" (some 0) with
  accessFlags := 1537
  interfaces := #[]
  cf := some (fileOf pool2 1 #[] #[] 1537 3 #[] #[])
  fields := #[]
  methods := #[]
  instanceTypes := #[]
  staticTypes := #[]
  resolved := Array.replicate 7 none
  statics := none }

def pool3 : Array CpInfo := pool [(1, .class_ 2), (0, u "java/lang/Comparable"), (0, .class_ 4), (0, u "java/lang/Object")] 7

/-- java/lang/Comparable -/
def k3 : Class := { plain "java/lang/Comparable" (some 0) with
  accessFlags := 1537
  interfaces := #[]
  cf := some (fileOf pool3 1 #[] #[] 1537 3 #[] #[])
  fields := #[]
  methods := #[]
  instanceTypes := #[]
  staticTypes := #[]
  resolved := Array.replicate 12 none
  statics := none }

def pool4 : Array CpInfo := pool [(2, .class_ 4), (1, u "java/lang/CharSequence"), (42, .class_ 48), (0, u "java/lang/CharSequence$1CodePointIterator"), (10, .class_ 60), (0, u "java/lang/CharSequence$1CharIterator"), (5, .class_ 67), (0, u "java/lang/Object")] 63

/-- java/lang/CharSequence -/
def k4 : Class := { plain "java/lang/CharSequence" (some 0) with
  accessFlags := 1537
  interfaces := #[]
  cf := some (fileOf pool4 2 #[.nestMembers #[47, 59]] #[] 1537 66 #[] #[])
  fields := #[]
  methods := #[]
  instanceTypes := #[]
  staticTypes := #[]
  resolved := Array.replicate 131 none
  statics := none }

def pool5 : Array CpInfo := pool [(1, .class_ 2), (0, u "java/lang/constant/Constable"), (0, .class_ 4), (0, u "java/lang/Object")] 6

/-- java/lang/constant/Constable -/
def k5 : Class := { plain "java/lang/constant/Constable" (some 0) with
  accessFlags := 1537
  interfaces := #[]
  cf := some (fileOf pool5 1 #[] #[] 1537 3 #[] #[])
  fields := #[]
  methods := #[]
  instanceTypes := #[]
  staticTypes := #[]
  resolved := Array.replicate 11 none
  statics := none }

def pool6 : Array CpInfo := pool [(1, .class_ 2), (0, u "java/lang/constant/ConstantDesc"), (0, .class_ 4), (0, u "java/lang/Object")] 32

/-- java/lang/constant/ConstantDesc -/
def k6 : Class := { plain "java/lang/constant/ConstantDesc" (some 0) with
  accessFlags := 1537
  interfaces := #[]
  cf := some (fileOf pool6 1 #[] #[] 1537 3 #[] #[])
  fields := #[]
  methods := #[]
  instanceTypes := #[]
  staticTypes := #[]
  resolved := Array.replicate 37 none
  statics := none }

def pool7 : Array CpInfo := pool [(1, .methodref 2 3), (0, .class_ 4), (0, .nameAndType 5 6), (0, u "java/lang/Object"), (0, u "<init>"), (0, u "()V"), (0, .string 8), (0, u ""), (0, .fieldref 10 11), (0, .class_ 12), (0, .nameAndType 13 14), (0, u "java/lang/String"), (0, u "value"), (0, u "[B"), (0, .fieldref 10 16), (0, .nameAndType 17 18), (0, u "coder"), (0, u "B"), (2, u "hash"), (0, u "I"), (2, u "hashIsZero"), (0, u "Z"), (0, .methodref 10 28), (0, .nameAndType 5 29), (0, u "([CIILjava/lang/Void;)V"), (6, u "checkBoundsOffCount"), (0, u "(III)I"), (0, .fieldref 10 39), (0, .nameAndType 40 26), (0, u "COMPACT_STRINGS"), (1, .class_ 44), (1, u "java/lang/StringUTF16"), (0, u "compress"), (1, .methodref 42 48), (0, .nameAndType 49 50), (0, u "coderFromArrayLen"), (0, u "([BI)B"), (56, .class_ 109), (1, u "java/lang/StringLatin1"), (32, u "()Z"), (34, .methodref 42 178), (0, .nameAndType 45 179), (0, u "([CII)[B"), (31, u "([BB)V"), (122, u "()I"), (0, .methodref 10 336), (0, .nameAndType 17 337), (0, u "()B"), (25, u "([BI)C"), (27, u "(II)V"), (35, u "(I)C"), (64, .methodref 10 493), (0, .nameAndType 494 142), (0, u "isLatin1"), (0, .methodref 107 496), (0, .nameAndType 497 363), (0, u "charAt"), (0, .methodref 42 496), (2, u "checkIndex"), (3, .methodref 10 506), (0, .nameAndType 507 334), (0, u "length"), (5, u "checkFromToIndex"), (7, .methodref 10 522), (0, .nameAndType 523 524), (0, u "checkBoundsBeginEnd"), (0, u "(III)V"), (50, .class_ 576), (0, u "java/lang/CharSequence"), (22, u "CASE_INSENSITIVE_ORDER"), (0, u "Ljava/util/Comparator;"), (80, .methodref 10 682), (0, .nameAndType 683 684), (0, u "substring"), (0, u "(II)Ljava/lang/String;"), (0, .methodref 107 686), (0, .nameAndType 687 688), (0, u "newString"), (0, u "([BII)Ljava/lang/String;"), (0, .methodref 42 686), (202, u "(I)Ljava/lang/String;"), (117, u "([C)V"), (42, .fieldref 1054 1055), (0, .class_ 1056), (0, .nameAndType 1057 1058), (0, u "jdk/internal/util/Preconditions"), (0, u "SIOOBE_FORMATTER"), (0, u "Ljava/util/function/BiFunction;"), (0, .methodref 1054 1060), (0, .nameAndType 501 1061), (0, u "(IILjava/util/function/BiFunction;)I"), (0, .methodref 1054 1063), (0, .nameAndType 513 1064), (0, u "(IIILjava/util/function/BiFunction;)I"), (0, .methodref 1054 1066), (0, .nameAndType 1067 1064), (0, u "checkFromIndexSize"), (33, u "serialPersistentFields"), (0, u "[Ljava/io/ObjectStreamField;"), (0, .class_ 1104), (0, u "java/lang/String$CaseInsensitiveComparator"), (1, .class_ 1107), (0, u "java/io/Serializable"), (0, .class_ 1109), (0, u "java/lang/Comparable"), (0, .class_ 1111), (0, u "java/lang/constant/Constable"), (0, .class_ 1113), (0, u "java/lang/constant/ConstantDesc"), (2, u "serialVersionUID"), (0, u "J"), (3, u "REPL"), (0, u "C"), (2, u "LATIN1"), (1, u "UTF16")] 323

def k7m0 : Method := { name := "<init>", desc := "()V", sig := { parameters := [], returnType := none }, accessFlags := 1, code := none }
def k7c1 : Code := { maxStack := 5, maxLocals := 2, code := jdk_42_method_3_code, exceptionTable := #[], attributes := #[] }
def k7m1 : Method := { name := "<init>", desc := "([C)V", sig := { parameters := [(.array .char)], returnType := none }, accessFlags := 1, code := some k7c1 }
def k7c2 : Code := { maxStack := 2, maxLocals := 1, code := jdk_42_method_54_code, exceptionTable := #[], attributes := #[] }
def k7m2 : Method := { name := "length", desc := "()I", sig := { parameters := [], returnType := some .int }, accessFlags := 1, code := some k7c2 }
def k7c3 : Code := { maxStack := 2, maxLocals := 2, code := jdk_42_method_56_code, exceptionTable := #[], attributes := #[] }
def k7m3 : Method := { name := "charAt", desc := "(I)C", sig := { parameters := [.int], returnType := some .char }, accessFlags := 1, code := some k7c3 }
def k7c4 : Code := { maxStack := 3, maxLocals := 2, code := jdk_42_method_91_code, exceptionTable := #[], attributes := #[] }
def k7m4 : Method := { name := "substring", desc := "(I)Ljava/lang/String;", sig := { parameters := [.int], returnType := some (.object "java/lang/String") }, accessFlags := 1, code := some k7c4 }
def k7c5 : Code := { maxStack := 3, maxLocals := 5, code := jdk_42_method_92_code, exceptionTable := #[], attributes := #[] }
def k7m5 : Method := { name := "substring", desc := "(II)Ljava/lang/String;", sig := { parameters := [.int, .int], returnType := some (.object "java/lang/String") }, accessFlags := 1, code := some k7c5 }
def k7c6 : Code := { maxStack := 4, maxLocals := 6, code := jdk_42_method_149_code, exceptionTable := #[], attributes := #[] }
def k7m6 : Method := { name := "<init>", desc := "([CIILjava/lang/Void;)V", sig := { parameters := [(.array .char), .int, .int, (.object "java/lang/Void")], returnType := none }, accessFlags := 2, code := some k7c6 }
def k7c7 : Code := { maxStack := 2, maxLocals := 3, code := jdk_42_method_151_code, exceptionTable := #[], attributes := #[] }
def k7m7 : Method := { name := "<init>", desc := "([BB)V", sig := { parameters := [(.array .byte), .byte], returnType := none }, accessFlags := 0, code := some k7c7 }
def k7c8 : Code := { maxStack := 1, maxLocals := 1, code := jdk_42_method_152_code, exceptionTable := #[], attributes := #[] }
def k7m8 : Method := { name := "coder", desc := "()B", sig := { parameters := [], returnType := some .byte }, accessFlags := 0, code := some k7c8 }
def k7c9 : Code := { maxStack := 1, maxLocals := 1, code := jdk_42_method_154_code, exceptionTable := #[], attributes := #[] }
def k7m9 : Method := { name := "isLatin1", desc := "()Z", sig := { parameters := [], returnType := some .boolean }, accessFlags := 0, code := some k7c9 }
def k7c10 : Code := { maxStack := 3, maxLocals := 2, code := jdk_42_method_155_code, exceptionTable := #[], attributes := #[] }
def k7m10 : Method := { name := "checkIndex", desc := "(II)V", sig := { parameters := [.int, .int], returnType := none }, accessFlags := 8, code := some k7c10 }
def k7c11 : Code := { maxStack := 4, maxLocals := 3, code := jdk_42_method_157_code, exceptionTable := #[], attributes := #[] }
def k7m11 : Method := { name := "checkBoundsOffCount", desc := "(III)I", sig := { parameters := [.int, .int, .int], returnType := some .int }, accessFlags := 8, code := some k7c11 }
def k7c12 : Code := { maxStack := 4, maxLocals := 3, code := jdk_42_method_158_code, exceptionTable := #[], attributes := #[] }
def k7m12 : Method := { name := "checkBoundsBeginEnd", desc := "(III)V", sig := { parameters := [.int, .int, .int], returnType := none }, accessFlags := 8, code := some k7c12 }
/-- java/lang/String -/
def k7 : Class := { plain "java/lang/String" (some 0) with
  accessFlags := 49
  interfaces := #[2, 3, 4, 5, 6]
  cf := some (fileOf pool7 10 #[.nestMembers #[1103]] #[{ accessFlags := 1, nameIndex := 5, descriptorIndex := 6, attributes := #[] }, { accessFlags := 1, nameIndex := 5, descriptorIndex := 1010, attributes := #[] }, { accessFlags := 1, nameIndex := 507, descriptorIndex := 334, attributes := #[] }, { accessFlags := 1, nameIndex := 497, descriptorIndex := 427, attributes := #[] }, { accessFlags := 1, nameIndex := 683, descriptorIndex := 892, attributes := #[] }, { accessFlags := 1, nameIndex := 683, descriptorIndex := 684, attributes := #[] }, { accessFlags := 2, nameIndex := 5, descriptorIndex := 29, attributes := #[] }, { accessFlags := 0, nameIndex := 5, descriptorIndex := 211, attributes := #[] }, { accessFlags := 0, nameIndex := 17, descriptorIndex := 337, attributes := #[] }, { accessFlags := 0, nameIndex := 494, descriptorIndex := 142, attributes := #[] }, { accessFlags := 8, nameIndex := 501, descriptorIndex := 391, attributes := #[] }, { accessFlags := 8, nameIndex := 36, descriptorIndex := 37, attributes := #[] }, { accessFlags := 8, nameIndex := 523, descriptorIndex := 524, attributes := #[] }] 49 2 #[1106, 1108, 575, 1110, 1112] #[{ accessFlags := 18, nameIndex := 13, descriptorIndex := 14, attributes := #[] }, { accessFlags := 18, nameIndex := 17, descriptorIndex := 18, attributes := #[] }, { accessFlags := 2, nameIndex := 21, descriptorIndex := 22, attributes := #[] }, { accessFlags := 2, nameIndex := 25, descriptorIndex := 26, attributes := #[] }, { accessFlags := 26, nameIndex := 1116, descriptorIndex := 1117, attributes := #[] }, { accessFlags := 24, nameIndex := 40, descriptorIndex := 26, attributes := #[] }, { accessFlags := 26, nameIndex := 1101, descriptorIndex := 1102, attributes := #[] }, { accessFlags := 26, nameIndex := 1121, descriptorIndex := 1122, attributes := #[] }, { accessFlags := 25, nameIndex := 599, descriptorIndex := 600, attributes := #[] }, { accessFlags := 24, nameIndex := 1125, descriptorIndex := 18, attributes := #[] }, { accessFlags := 24, nameIndex := 1127, descriptorIndex := 18, attributes := #[] }])
  fields := #[{ name := "value", type := (.array .byte), accessFlags := 18, slot := 0, constantValue := 0 }, { name := "coder", type := .byte, accessFlags := 18, slot := 1, constantValue := 0 }, { name := "hash", type := .int, accessFlags := 2, slot := 2, constantValue := 0 }, { name := "hashIsZero", type := .boolean, accessFlags := 2, slot := 3, constantValue := 0 }, { name := "serialVersionUID", type := .long, accessFlags := 26, slot := 0, constantValue := 0 }, { name := "COMPACT_STRINGS", type := .boolean, accessFlags := 24, slot := 1, constantValue := 0 }, { name := "serialPersistentFields", type := (.array (.object "java/io/ObjectStreamField")), accessFlags := 26, slot := 2, constantValue := 0 }, { name := "REPL", type := .char, accessFlags := 26, slot := 3, constantValue := 0 }, { name := "CASE_INSENSITIVE_ORDER", type := (.object "java/util/Comparator"), accessFlags := 25, slot := 4, constantValue := 0 }, { name := "LATIN1", type := .byte, accessFlags := 24, slot := 5, constantValue := 0 }, { name := "UTF16", type := .byte, accessFlags := 24, slot := 6, constantValue := 0 }]
  methods := #[k7m0, k7m1, k7m2, k7m3, k7m4, k7m5, k7m6, k7m7, k7m8, k7m9, k7m10, k7m11, k7m12]
  instanceTypes := #[(.array .byte), .byte, .int, .boolean]
  staticTypes := #[.long, .boolean, (.array (.object "java/io/ObjectStreamField")), .char, (.object "java/util/Comparator"), .byte, .byte]
  resolved := Array.replicate 1451 none
  statics := some 0 }

def pool8 : Array CpInfo := pool [(1, .methodref 2 3), (0, .class_ 4), (0, .nameAndType 5 6), (0, u "java/lang/Object"), (0, u "<init>"), (0, u "()V"), (0, .class_ 8), (0, u "java/lang/Record")] 13

def k8c0 : Code := { maxStack := 1, maxLocals := 1, code := jdk_30_method_1_code, exceptionTable := #[], attributes := #[] }
def k8m0 : Method := { name := "<init>", desc := "()V", sig := { parameters := [], returnType := none }, accessFlags := 4, code := some k8c0 }
/-- java/lang/Record -/
def k8 : Class := { plain "java/lang/Record" (some 0) with
  accessFlags := 1057
  interfaces := #[]
  cf := some (fileOf pool8 7 #[] #[{ accessFlags := 4, nameIndex := 5, descriptorIndex := 6, attributes := #[] }] 1057 2 #[] #[])
  fields := #[]
  methods := #[k8m0]
  instanceTypes := #[]
  staticTypes := #[]
  resolved := Array.replicate 22 none
  statics := none }

def pool9 : Array CpInfo := pool [(1, .methodref 2 3), (0, .class_ 4), (0, .nameAndType 5 6), (0, u "java/lang/Record"), (0, u "<init>"), (0, u "()V"), (0, .fieldref 8 9), (0, .class_ 10), (0, .nameAndType 11 12), (0, u "com/example/docs_into_rows/docsintorows/MarkupReader$Prolog"), (0, u "text"), (0, u "Ljava/lang/String;"), (0, .fieldref 8 14), (0, .nameAndType 15 16), (0, u "doctypeStart"), (0, u "I"), (0, .methodref 18 19), (0, .class_ 20), (0, .nameAndType 21 22), (0, u "java/lang/String"), (0, u "substring"), (0, u "(I)Ljava/lang/String;"), (12, u "(Ljava/lang/String;I)V"), (3, u "doctype"), (0, u "()Ljava/lang/String;"), (5, .class_ 47), (0, u "com/example/docs_into_rows/docsintorows/MarkupReader")] 20

def k9c0 : Code := { maxStack := 2, maxLocals := 3, code := prog_40_method_1_code, exceptionTable := #[], attributes := #[] }
def k9m0 : Method := { name := "<init>", desc := "(Ljava/lang/String;I)V", sig := { parameters := [(.object "java/lang/String"), .int], returnType := none }, accessFlags := 0, code := some k9c0 }
def k9c1 : Code := { maxStack := 2, maxLocals := 1, code := prog_40_method_2_code, exceptionTable := #[], attributes := #[] }
def k9m1 : Method := { name := "doctype", desc := "()Ljava/lang/String;", sig := { parameters := [], returnType := some (.object "java/lang/String") }, accessFlags := 0, code := some k9c1 }
/-- com/example/docs_into_rows/docsintorows/MarkupReader$Prolog -/
def k9 : Class := { plain "com/example/docs_into_rows/docsintorows/MarkupReader$Prolog" (some 8) with
  accessFlags := 48
  interfaces := #[]
  cf := some (fileOf pool9 8 #[.nestHost 46] #[{ accessFlags := 0, nameIndex := 5, descriptorIndex := 35, attributes := #[] }, { accessFlags := 0, nameIndex := 39, descriptorIndex := 40, attributes := #[] }] 48 2 #[] #[{ accessFlags := 18, nameIndex := 11, descriptorIndex := 12, attributes := #[] }, { accessFlags := 18, nameIndex := 15, descriptorIndex := 16, attributes := #[] }])
  fields := #[{ name := "text", type := (.object "java/lang/String"), accessFlags := 18, slot := 0, constantValue := 0 }, { name := "doctypeStart", type := .int, accessFlags := 18, slot := 1, constantValue := 0 }]
  methods := #[k9m0, k9m1]
  instanceTypes := #[(.object "java/lang/String"), .int]
  staticTypes := #[]
  resolved := Array.replicate 68 none
  statics := none }

def pool10 : Array CpInfo := pool [(2, .class_ 4), (1, u "java/lang/Object"), (0, u "<init>"), (0, u "()V"), (17, .class_ 26), (1, u "jdk/internal/util/Preconditions"), (6, u "checkIndex"), (13, u "checkFromToIndex"), (1, u "checkFromIndexSize"), (5, .class_ 56), (0, u "jdk/internal/util/Preconditions$4"), (57, .class_ 115), (0, u "jdk/internal/util/Preconditions$1"), (7, u "SIOOBE_FORMATTER"), (0, u "Ljava/util/function/BiFunction;"), (0, .class_ 126), (0, u "jdk/internal/util/Preconditions$2"), (3, u "AIOOBE_FORMATTER"), (0, .class_ 132), (0, u "jdk/internal/util/Preconditions$3"), (3, u "IOOBE_FORMATTER"), (41, u "(IILjava/util/function/BiFunction;)I"), (4, u "(IIILjava/util/function/BiFunction;)I")] 10

def k10m0 : Method := { name := "<init>", desc := "()V", sig := { parameters := [], returnType := none }, accessFlags := 1, code := none }
def k10c1 : Code := { maxStack := 3, maxLocals := 3, code := jdk_41_method_11_code, exceptionTable := #[], attributes := #[] }
def k10m1 : Method := { name := "checkIndex", desc := "(IILjava/util/function/BiFunction;)I", sig := { parameters := [.int, .int, (.object "java/util/function/BiFunction")], returnType := some .int }, accessFlags := 9, code := some k10c1 }
def k10c2 : Code := { maxStack := 4, maxLocals := 4, code := jdk_41_method_12_code, exceptionTable := #[], attributes := #[] }
def k10m2 : Method := { name := "checkFromToIndex", desc := "(IIILjava/util/function/BiFunction;)I", sig := { parameters := [.int, .int, .int, (.object "java/util/function/BiFunction")], returnType := some .int }, accessFlags := 9, code := some k10c2 }
def k10c3 : Code := { maxStack := 4, maxLocals := 4, code := jdk_41_method_13_code, exceptionTable := #[], attributes := #[] }
def k10m3 : Method := { name := "checkFromIndexSize", desc := "(IIILjava/util/function/BiFunction;)I", sig := { parameters := [.int, .int, .int, (.object "java/util/function/BiFunction")], returnType := some .int }, accessFlags := 9, code := some k10c3 }
/-- jdk/internal/util/Preconditions -/
def k10 : Class := { plain "jdk/internal/util/Preconditions" (some 0) with
  accessFlags := 33
  interfaces := #[]
  cf := some (fileOf pool10 24 #[.nestMembers #[55, 131, 125, 114]] #[{ accessFlags := 1, nameIndex := 5, descriptorIndex := 6, attributes := #[] }, { accessFlags := 9, nameIndex := 33, descriptorIndex := 178, attributes := #[] }, { accessFlags := 9, nameIndex := 47, descriptorIndex := 183, attributes := #[] }, { accessFlags := 9, nameIndex := 49, descriptorIndex := 183, attributes := #[] }] 33 2 #[] #[{ accessFlags := 25, nameIndex := 123, descriptorIndex := 124, attributes := #[] }, { accessFlags := 25, nameIndex := 130, descriptorIndex := 124, attributes := #[] }, { accessFlags := 25, nameIndex := 136, descriptorIndex := 124, attributes := #[] }])
  fields := #[{ name := "SIOOBE_FORMATTER", type := (.object "java/util/function/BiFunction"), accessFlags := 25, slot := 0, constantValue := 0 }, { name := "AIOOBE_FORMATTER", type := (.object "java/util/function/BiFunction"), accessFlags := 25, slot := 1, constantValue := 0 }, { name := "IOOBE_FORMATTER", type := (.object "java/util/function/BiFunction"), accessFlags := 25, slot := 2, constantValue := 0 }]
  methods := #[k10m0, k10m1, k10m2, k10m3]
  instanceTypes := #[]
  staticTypes := #[(.object "java/util/function/BiFunction"), (.object "java/util/function/BiFunction"), (.object "java/util/function/BiFunction")]
  resolved := Array.replicate 194 none
  statics := some 1 }

def pool11 : Array CpInfo := pool [(3, .class_ 4), (0, u "java/lang/String"), (1, .class_ 8), (1, u "java/lang/Object"), (0, u "<init>"), (0, u "()V"), (0, .methodref 12 13), (0, .class_ 14), (0, .nameAndType 15 16), (0, u "java/lang/StringUTF16"), (0, u "newBytesLength"), (0, u "(I)I"), (3, .integer 1073741823), (23, .fieldref 12 45), (0, .nameAndType 46 47), (0, u "$assertionsDisabled"), (0, u "Z"), (0, .methodref 12 49), (0, .nameAndType 50 51), (0, u "length"), (0, u "([B)I"), (7, .fieldref 12 60), (0, .nameAndType 61 62), (0, u "HI_BYTE_SHIFT"), (0, u "I"), (0, .fieldref 12 64), (0, .nameAndType 65 62), (0, u "LO_BYTE_SHIFT"), (1, .methodref 12 68), (0, .nameAndType 69 70), (0, u "checkIndex"), (0, u "(I[B)V"), (0, .methodref 12 72), (0, .nameAndType 73 74), (0, u "getChar"), (0, u "([BI)C"), (24, u "(II[B)V"), (7, .methodref 12 108), (0, .nameAndType 109 110), (0, u "newBytesFor"), (0, u "(I)[B"), (0, .methodref 12 112), (0, .nameAndType 113 114), (0, u "putChar"), (0, u "([BII)V"), (0, .methodref 12 116), (0, .nameAndType 117 118), (0, u "compress"), (0, u "([CI[BII)I"), (0, .methodref 12 120), (0, .nameAndType 121 122), (0, u "toBytes"), (0, u "([CII)[B"), (0, .methodref 12 124), (0, .nameAndType 117 125), (0, u "([BI[BII)I"), (0, .methodref 127 128), (0, .class_ 129), (0, .nameAndType 130 131), (0, u "java/util/Arrays"), (0, u "copyOfRange"), (0, u "([BII)[B"), (41, .methodref 12 174), (0, .nameAndType 175 99), (0, u "checkBoundsOffCount"), (75, .fieldref 3 252), (0, .nameAndType 253 47), (0, u "COMPACT_STRINGS"), (3, .methodref 12 258), (0, .nameAndType 117 131), (0, .methodref 12 260), (0, .nameAndType 261 262), (0, u "coderFromArrayLen"), (0, u "([BI)B"), (0, .methodref 3 264), (0, .nameAndType 9 265), (0, u "([BB)V"), (15, u "(III)I"), (13, .string 296), (0, u ""), (30, u "newString"), (0, u "([BII)Ljava/lang/String;"), (40, .class_ 371), (1, u "java/lang/StringUTF16$LinesSpliterator"), (20, u "charAt"), (21, .methodref 3 415), (0, .nameAndType 69 416), (0, u "(II)V"), (2, .methodref 3 420), (0, .nameAndType 175 281), (9, u "MAX_LENGTH"), (196, .class_ 628), (0, u "java/lang/StringUTF16$CodePointsSpliterator"), (0, .class_ 630), (0, u "java/lang/StringUTF16$CharsSpliterator")] 4

def k11m0 : Method := { name := "<init>", desc := "()V", sig := { parameters := [], returnType := none }, accessFlags := 0, code := none }
def k11c1 : Code := { maxStack := 1, maxLocals := 1, code := jdk_52_method_2_code, exceptionTable := #[], attributes := #[] }
def k11m1 : Method := { name := "newBytesFor", desc := "(I)[B", sig := { parameters := [.int], returnType := some (.array .byte) }, accessFlags := 9, code := some k11c1 }
def k11c2 : Code := { maxStack := 4, maxLocals := 1, code := jdk_52_method_3_code, exceptionTable := #[], attributes := #[] }
def k11m2 : Method := { name := "newBytesLength", desc := "(I)I", sig := { parameters := [.int], returnType := some .int }, accessFlags := 9, code := some k11c2 }
def k11c3 : Code := { maxStack := 4, maxLocals := 3, code := jdk_52_method_4_code, exceptionTable := #[], attributes := #[] }
def k11m3 : Method := { name := "putChar", desc := "([BII)V", sig := { parameters := [(.array .byte), .int, .int], returnType := none }, accessFlags := 8, code := some k11c3 }
def k11c4 : Code := { maxStack := 3, maxLocals := 2, code := jdk_52_method_5_code, exceptionTable := #[], attributes := #[] }
def k11m4 : Method := { name := "getChar", desc := "([BI)C", sig := { parameters := [(.array .byte), .int], returnType := some .char }, accessFlags := 8, code := some k11c4 }
def k11c5 : Code := { maxStack := 2, maxLocals := 1, code := jdk_52_method_6_code, exceptionTable := #[], attributes := #[] }
def k11m5 : Method := { name := "length", desc := "([B)I", sig := { parameters := [(.array .byte)], returnType := some .int }, accessFlags := 9, code := some k11c5 }
def k11c6 : Code := { maxStack := 4, maxLocals := 5, code := jdk_52_method_14_code, exceptionTable := #[], attributes := #[] }
def k11m6 : Method := { name := "toBytes", desc := "([CII)[B", sig := { parameters := [(.array .char), .int, .int], returnType := some (.array .byte) }, accessFlags := 9, code := some k11c6 }
def k11c7 : Code := { maxStack := 2, maxLocals := 2, code := jdk_52_method_15_code, exceptionTable := #[], attributes := #[] }
def k11m7 : Method := { name := "coderFromArrayLen", desc := "([BI)B", sig := { parameters := [(.array .byte), .int], returnType := some .byte }, accessFlags := 8, code := some k11c7 }
def k11c8 : Code := { maxStack := 5, maxLocals := 6, code := jdk_52_method_16_code, exceptionTable := #[], attributes := #[] }
def k11m8 : Method := { name := "compress", desc := "([CII)[B", sig := { parameters := [(.array .char), .int, .int], returnType := some (.array .byte) }, accessFlags := 9, code := some k11c8 }
def k11c9 : Code := { maxStack := 5, maxLocals := 6, code := jdk_52_method_17_code, exceptionTable := #[], attributes := #[] }
def k11m9 : Method := { name := "compress", desc := "([BII)[B", sig := { parameters := [(.array .byte), .int, .int], returnType := some (.array .byte) }, accessFlags := 9, code := some k11c9 }
def k11c10 : Code := { maxStack := 3, maxLocals := 7, code := jdk_52_method_21_code, exceptionTable := #[], attributes := #[] }
def k11m10 : Method := { name := "compress", desc := "([CI[BII)I", sig := { parameters := [(.array .char), .int, (.array .byte), .int, .int], returnType := some .int }, accessFlags := 9, code := some k11c10 }
def k11c11 : Code := { maxStack := 3, maxLocals := 7, code := jdk_52_method_22_code, exceptionTable := #[], attributes := #[] }
def k11m11 : Method := { name := "compress", desc := "([BI[BII)I", sig := { parameters := [(.array .byte), .int, (.array .byte), .int, .int], returnType := some .int }, accessFlags := 9, code := some k11c11 }
def k11c12 : Code := { maxStack := 6, maxLocals := 5, code := jdk_52_method_69_code, exceptionTable := #[], attributes := #[] }
def k11m12 : Method := { name := "newString", desc := "([BII)Ljava/lang/String;", sig := { parameters := [(.array .byte), .int, .int], returnType := some (.object "java/lang/String") }, accessFlags := 9, code := some k11c12 }
def k11c13 : Code := { maxStack := 2, maxLocals := 2, code := jdk_52_method_83_code, exceptionTable := #[], attributes := #[] }
def k11m13 : Method := { name := "charAt", desc := "([BI)C", sig := { parameters := [(.array .byte), .int], returnType := some .char }, accessFlags := 9, code := some k11c13 }
def k11c14 : Code := { maxStack := 2, maxLocals := 2, code := jdk_52_method_91_code, exceptionTable := #[], attributes := #[] }
def k11m14 : Method := { name := "checkIndex", desc := "(I[B)V", sig := { parameters := [.int, (.array .byte)], returnType := none }, accessFlags := 9, code := some k11c14 }
def k11c15 : Code := { maxStack := 3, maxLocals := 3, code := jdk_52_method_94_code, exceptionTable := #[], attributes := #[] }
def k11m15 : Method := { name := "checkBoundsOffCount", desc := "(II[B)V", sig := { parameters := [.int, .int, (.array .byte)], returnType := none }, accessFlags := 9, code := some k11c15 }
/-- java/lang/StringUTF16 -/
def k11 : Class := { plain "java/lang/StringUTF16" (some 0) with
  accessFlags := 48
  interfaces := #[]
  cf := some (fileOf pool11 12 #[.nestMembers #[627, 629, 369]] #[{ accessFlags := 0, nameIndex := 9, descriptorIndex := 10, attributes := #[] }, { accessFlags := 9, nameIndex := 109, descriptorIndex := 110, attributes := #[] }, { accessFlags := 9, nameIndex := 15, descriptorIndex := 16, attributes := #[] }, { accessFlags := 8, nameIndex := 113, descriptorIndex := 114, attributes := #[] }, { accessFlags := 8, nameIndex := 73, descriptorIndex := 74, attributes := #[] }, { accessFlags := 9, nameIndex := 50, descriptorIndex := 51, attributes := #[] }, { accessFlags := 9, nameIndex := 121, descriptorIndex := 122, attributes := #[] }, { accessFlags := 8, nameIndex := 261, descriptorIndex := 262, attributes := #[] }, { accessFlags := 9, nameIndex := 117, descriptorIndex := 122, attributes := #[] }, { accessFlags := 9, nameIndex := 117, descriptorIndex := 131, attributes := #[] }, { accessFlags := 9, nameIndex := 117, descriptorIndex := 118, attributes := #[] }, { accessFlags := 9, nameIndex := 117, descriptorIndex := 125, attributes := #[] }, { accessFlags := 9, nameIndex := 327, descriptorIndex := 328, attributes := #[] }, { accessFlags := 9, nameIndex := 392, descriptorIndex := 74, attributes := #[] }, { accessFlags := 9, nameIndex := 69, descriptorIndex := 70, attributes := #[] }, { accessFlags := 9, nameIndex := 175, descriptorIndex := 99, attributes := #[] }] 48 6 #[] #[{ accessFlags := 26, nameIndex := 61, descriptorIndex := 62, attributes := #[] }, { accessFlags := 26, nameIndex := 65, descriptorIndex := 62, attributes := #[] }, { accessFlags := 24, nameIndex := 430, descriptorIndex := 62, attributes := #[] }, { accessFlags := 4120, nameIndex := 46, descriptorIndex := 47, attributes := #[] }])
  fields := #[{ name := "HI_BYTE_SHIFT", type := .int, accessFlags := 26, slot := 0, constantValue := 0 }, { name := "LO_BYTE_SHIFT", type := .int, accessFlags := 26, slot := 1, constantValue := 0 }, { name := "MAX_LENGTH", type := .int, accessFlags := 24, slot := 2, constantValue := 0 }, { name := "$assertionsDisabled", type := .boolean, accessFlags := 4120, slot := 3, constantValue := 0 }]
  methods := #[k11m0, k11m1, k11m2, k11m3, k11m4, k11m5, k11m6, k11m7, k11m8, k11m9, k11m10, k11m11, k11m12, k11m13, k11m14, k11m15]
  instanceTypes := #[]
  staticTypes := #[.int, .int, .int, .boolean]
  resolved := Array.replicate 635 none
  statics := some 2 }

def pool12 : Array CpInfo := pool [(1, .class_ 2), (0, u "java/lang/String"), (1, .class_ 6), (1, u "java/lang/Object"), (0, u "<init>"), (0, u "()V"), (0, .methodref 1 10), (0, .nameAndType 11 12), (0, u "checkIndex"), (0, u "(II)V"), (1, .class_ 16), (1, u "java/lang/StringLatin1"), (36, u "([BI)C"), (58, .methodref 1 113), (0, .nameAndType 7 114), (0, u "([BB)V"), (6, u "$assertionsDisabled"), (0, u "Z"), (8, .class_ 133), (1, u "java/util/Arrays"), (17, .string 152), (0, u ""), (43, u "newString"), (0, u "([BII)Ljava/lang/String;"), (23, .class_ 223), (1, u "java/lang/StringLatin1$LinesSpliterator"), (8, .methodref 131 233), (0, .nameAndType 234 235), (0, u "copyOfRange"), (0, u "([BII)[B"), (16, u "charAt"), (137, .class_ 391), (0, u "java/lang/StringLatin1$CharsSpliterator")] 3

def k12m0 : Method := { name := "<init>", desc := "()V", sig := { parameters := [], returnType := none }, accessFlags := 0, code := none }
def k12c1 : Code := { maxStack := 2, maxLocals := 2, code := jdk_43_method_2_code, exceptionTable := #[], attributes := #[] }
def k12m1 : Method := { name := "charAt", desc := "([BI)C", sig := { parameters := [(.array .byte), .int], returnType := some .char }, accessFlags := 9, code := some k12c1 }
def k12c2 : Code := { maxStack := 6, maxLocals := 3, code := jdk_43_method_47_code, exceptionTable := #[], attributes := #[] }
def k12m2 : Method := { name := "newString", desc := "([BII)Ljava/lang/String;", sig := { parameters := [(.array .byte), .int, .int], returnType := some (.object "java/lang/String") }, accessFlags := 9, code := some k12c2 }
/-- java/lang/StringLatin1 -/
def k12 : Class := { plain "java/lang/StringLatin1" (some 0) with
  accessFlags := 48
  interfaces := #[]
  cf := some (fileOf pool12 14 #[.nestMembers #[390, 221]] #[{ accessFlags := 0, nameIndex := 7, descriptorIndex := 8, attributes := #[] }, { accessFlags := 9, nameIndex := 252, descriptorIndex := 53, attributes := #[] }, { accessFlags := 9, nameIndex := 196, descriptorIndex := 197, attributes := #[] }] 48 4 #[] #[{ accessFlags := 4120, nameIndex := 121, descriptorIndex := 122, attributes := #[] }])
  fields := #[{ name := "$assertionsDisabled", type := .boolean, accessFlags := 4120, slot := 0, constantValue := 0 }]
  methods := #[k12m0, k12m1, k12m2]
  instanceTypes := #[]
  staticTypes := #[.boolean]
  resolved := Array.replicate 395 none
  statics := none }

def pool13 : Array CpInfo := pool [(2, .class_ 4), (1, u "java/lang/Object"), (0, u "<init>"), (0, u "()V"), (7, .class_ 16), (1, u "java/util/Arrays"), (57, .class_ 76), (1, u "java/util/Arrays$NaturalOrder"), (36, .class_ 115), (1, u "java/util/Arrays$LegacyMergeSort"), (1, u "Z"), (21, u "copyOfRange"), (10, .methodref 151 152), (0, .class_ 153), (0, .nameAndType 154 155), (0, u "java/lang/System"), (0, u "arraycopy"), (0, u "(Ljava/lang/Object;ILjava/lang/Object;II)V"), (148, .methodref 305 306), (0, .class_ 307), (0, .nameAndType 308 309), (0, u "java/lang/Math"), (0, u "min"), (0, u "(II)I"), (29, .methodref 14 340), (0, .nameAndType 341 342), (0, u "copyOfRangeByte"), (0, u "([BII)[B"), (0, .methodref 14 344), (0, .nameAndType 345 346), (0, u "checkLength"), (0, u "(II)V"), (28, .class_ 376), (0, u "java/util/Arrays$ArrayList"), (68, u "$assertionsDisabled"), (269, u "MIN_ARRAY_SORT_GRAN"), (0, u "I"), (2, u "INSERTIONSORT_THRESHOLD"), (255, .class_ 976), (0, u "java/util/Arrays$ArrayItr")] 52

def k13m0 : Method := { name := "<init>", desc := "()V", sig := { parameters := [], returnType := none }, accessFlags := 2, code := none }
def k13c1 : Code := { maxStack := 4, maxLocals := 2, code := jdk_65_method_131_code, exceptionTable := #[], attributes := #[] }
def k13m1 : Method := { name := "checkLength", desc := "(II)V", sig := { parameters := [.int, .int], returnType := none }, accessFlags := 10, code := some k13c1 }
def k13c2 : Code := { maxStack := 3, maxLocals := 3, code := jdk_65_method_132_code, exceptionTable := #[], attributes := #[] }
def k13m2 : Method := { name := "copyOfRange", desc := "([BII)[B", sig := { parameters := [(.array .byte), .int, .int], returnType := some (.array .byte) }, accessFlags := 9, code := some k13c2 }
def k13c3 : Code := { maxStack := 6, maxLocals := 5, code := jdk_65_method_133_code, exceptionTable := #[], attributes := #[] }
def k13m3 : Method := { name := "copyOfRangeByte", desc := "([BII)[B", sig := { parameters := [(.array .byte), .int, .int], returnType := some (.array .byte) }, accessFlags := 10, code := some k13c3 }
/-- java/util/Arrays -/
def k13 : Class := { plain "java/util/Arrays" (some 0) with
  accessFlags := 49
  interfaces := #[]
  cf := some (fileOf pool13 14 #[.nestMembers #[975, 375, 113, 74]] #[{ accessFlags := 2, nameIndex := 5, descriptorIndex := 6, attributes := #[] }, { accessFlags := 10, nameIndex := 345, descriptorIndex := 346, attributes := #[] }, { accessFlags := 9, nameIndex := 139, descriptorIndex := 342, attributes := #[] }, { accessFlags := 10, nameIndex := 341, descriptorIndex := 342, attributes := #[] }] 49 2 #[] #[{ accessFlags := 26, nameIndex := 715, descriptorIndex := 716, attributes := #[] }, { accessFlags := 26, nameIndex := 719, descriptorIndex := 716, attributes := #[] }, { accessFlags := 4120, nameIndex := 445, descriptorIndex := 117, attributes := #[] }])
  fields := #[{ name := "MIN_ARRAY_SORT_GRAN", type := .int, accessFlags := 26, slot := 0, constantValue := 0 }, { name := "INSERTIONSORT_THRESHOLD", type := .int, accessFlags := 26, slot := 1, constantValue := 0 }, { name := "$assertionsDisabled", type := .boolean, accessFlags := 4120, slot := 2, constantValue := 0 }]
  methods := #[k13m0, k13m1, k13m2, k13m3]
  instanceTypes := #[]
  staticTypes := #[.int, .int, .boolean]
  resolved := Array.replicate 1029 none
  statics := none }

def pool14 : Array CpInfo := pool [(1, .class_ 2), (0, u "java/lang/Math"), (1, .class_ 6), (1, u "java/lang/Object"), (0, u "<init>"), (0, u "()V"), (89, .class_ 100), (1, u "java/lang/Math$RandomNumberGeneratorHolder"), (71, u "negativeZeroFloatBits"), (0, u "J"), (2, u "negativeZeroDoubleBits"), (24, u "min"), (43, u "$assertionsDisabled"), (0, u "Z"), (88, u "(II)I"), (2, u "twoToTheDoubleScaleDown"), (0, u "D"), (4, u "twoToTheDoubleScaleUp"), (9, u "E"), (3, u "PI"), (2, u "TAU"), (2, u "DEGREES_TO_RADIANS"), (0, u "RADIANS_TO_DEGREES")] 94

def k14m0 : Method := { name := "<init>", desc := "()V", sig := { parameters := [], returnType := none }, accessFlags := 2, code := none }
def k14c1 : Code := { maxStack := 2, maxLocals := 2, code := jdk_29_method_69_code, exceptionTable := #[], attributes := #[] }
def k14m1 : Method := { name := "min", desc := "(II)I", sig := { parameters := [.int, .int], returnType := some .int }, accessFlags := 9, code := some k14c1 }
/-- java/lang/Math -/
def k14 : Class := { plain "java/lang/Math" (some 0) with
  accessFlags := 49
  interfaces := #[]
  cf := some (fileOf pool14 1 #[.nestMembers #[98]] #[{ accessFlags := 2, nameIndex := 7, descriptorIndex := 8, attributes := #[] }, { accessFlags := 9, nameIndex := 201, descriptorIndex := 335, attributes := #[] }] 49 4 #[] #[{ accessFlags := 25, nameIndex := 354, descriptorIndex := 339, attributes := #[] }, { accessFlags := 25, nameIndex := 358, descriptorIndex := 339, attributes := #[] }, { accessFlags := 25, nameIndex := 361, descriptorIndex := 339, attributes := #[] }, { accessFlags := 26, nameIndex := 364, descriptorIndex := 339, attributes := #[] }, { accessFlags := 26, nameIndex := 365, descriptorIndex := 339, attributes := #[] }, { accessFlags := 26, nameIndex := 172, descriptorIndex := 173, attributes := #[] }, { accessFlags := 26, nameIndex := 176, descriptorIndex := 173, attributes := #[] }, { accessFlags := 8, nameIndex := 344, descriptorIndex := 339, attributes := #[] }, { accessFlags := 8, nameIndex := 338, descriptorIndex := 339, attributes := #[] }, { accessFlags := 4120, nameIndex := 245, descriptorIndex := 246, attributes := #[] }])
  fields := #[{ name := "E", type := .double, accessFlags := 25, slot := 0, constantValue := 0 }, { name := "PI", type := .double, accessFlags := 25, slot := 1, constantValue := 0 }, { name := "TAU", type := .double, accessFlags := 25, slot := 2, constantValue := 0 }, { name := "DEGREES_TO_RADIANS", type := .double, accessFlags := 26, slot := 3, constantValue := 0 }, { name := "RADIANS_TO_DEGREES", type := .double, accessFlags := 26, slot := 4, constantValue := 0 }, { name := "negativeZeroFloatBits", type := .long, accessFlags := 26, slot := 5, constantValue := 0 }, { name := "negativeZeroDoubleBits", type := .long, accessFlags := 26, slot := 6, constantValue := 0 }, { name := "twoToTheDoubleScaleUp", type := .double, accessFlags := 8, slot := 7, constantValue := 0 }, { name := "twoToTheDoubleScaleDown", type := .double, accessFlags := 8, slot := 8, constantValue := 0 }, { name := "$assertionsDisabled", type := .boolean, accessFlags := 4120, slot := 9, constantValue := 0 }]
  methods := #[k14m0, k14m1]
  instanceTypes := #[]
  staticTypes := #[.double, .double, .double, .double, .double, .long, .long, .double, .double, .boolean]
  resolved := Array.replicate 460 none
  statics := none }

def pool15 : Array CpInfo := pool [(2, .class_ 4), (1, u "java/lang/Object"), (0, u "<init>"), (0, u "()V"), (1, .class_ 10), (1, u "java/lang/System"), (0, u "allowSecurityManager"), (0, u "I"), (16, u "cons"), (0, u "Ljava/io/Console;"), (77, .class_ 110), (1, u "java/lang/System$CallersHolder"), (43, u "initialErrStream"), (0, u "Ljava/io/PrintStream;"), (19, u "security"), (0, u "Ljava/lang/SecurityManager;"), (31, .class_ 209), (0, u "java/lang/System$1"), (7, u "props"), (0, u "Ljava/util/Properties;"), (2, u "lineSeparator"), (0, u "Ljava/lang/String;"), (96, .class_ 321), (1, u "java/lang/System$LoggerFinder"), (5, .class_ 328), (0, u "java/lang/System$Logger"), (67, u "err"), (2, u "out"), (91, u "notSupportedJnuEncoding"), (15, u "in"), (17, u "initialIn"), (0, u "Ljava/io/InputStream;"), (35, u "bootLayer"), (0, u "Ljava/lang/ModuleLayer;"), (99, .class_ 664), (0, u "java/lang/System$2"), (9, u "NEVER"), (2, u "MAYBE"), (49, u "arraycopy"), (0, u "(Ljava/lang/Object;ILjava/lang/Object;II)V"), (72, .class_ 802), (0, u "java/lang/System$Logger$Level")] 31

def k15m0 : Method := { name := "<init>", desc := "()V", sig := { parameters := [], returnType := none }, accessFlags := 2, code := none }
def k15m1 : Method := { name := "arraycopy", desc := "(Ljava/lang/Object;ILjava/lang/Object;II)V", sig := { parameters := [(.object "java/lang/Object"), .int, (.object "java/lang/Object"), .int, .int], returnType := none }, accessFlags := 265, code := none }
/-- java/lang/System -/
def k15 : Class := { plain "java/lang/System" (some 0) with
  accessFlags := 49
  interfaces := #[]
  cf := some (fileOf pool15 8 #[.nestMembers #[319, 327, 801, 108, 663, 208]] #[{ accessFlags := 2, nameIndex := 5, descriptorIndex := 6, attributes := #[] }, { accessFlags := 265, nameIndex := 727, descriptorIndex := 728, attributes := #[] }] 49 2 #[] #[{ accessFlags := 25, nameIndex := 507, descriptorIndex := 526, attributes := #[] }, { accessFlags := 25, nameIndex := 399, descriptorIndex := 155, attributes := #[] }, { accessFlags := 25, nameIndex := 396, descriptorIndex := 155, attributes := #[] }, { accessFlags := 10, nameIndex := 525, descriptorIndex := 526, attributes := #[] }, { accessFlags := 26, nameIndex := 674, descriptorIndex := 12, attributes := #[] }, { accessFlags := 26, nameIndex := 677, descriptorIndex := 12, attributes := #[] }, { accessFlags := 10, nameIndex := 11, descriptorIndex := 12, attributes := #[] }, { accessFlags := 74, nameIndex := 175, descriptorIndex := 176, attributes := #[] }, { accessFlags := 10, nameIndex := 491, descriptorIndex := 222, attributes := #[] }, { accessFlags := 74, nameIndex := 29, descriptorIndex := 30, attributes := #[] }, { accessFlags := 74, nameIndex := 154, descriptorIndex := 155, attributes := #[] }, { accessFlags := 10, nameIndex := 217, descriptorIndex := 218, attributes := #[] }, { accessFlags := 10, nameIndex := 221, descriptorIndex := 222, attributes := #[] }, { accessFlags := 8, nameIndex := 562, descriptorIndex := 563, attributes := #[] }])
  fields := #[{ name := "in", type := (.object "java/io/InputStream"), accessFlags := 25, slot := 0, constantValue := 0 }, { name := "out", type := (.object "java/io/PrintStream"), accessFlags := 25, slot := 1, constantValue := 0 }, { name := "err", type := (.object "java/io/PrintStream"), accessFlags := 25, slot := 2, constantValue := 0 }, { name := "initialIn", type := (.object "java/io/InputStream"), accessFlags := 10, slot := 3, constantValue := 0 }, { name := "NEVER", type := .int, accessFlags := 26, slot := 4, constantValue := 0 }, { name := "MAYBE", type := .int, accessFlags := 26, slot := 5, constantValue := 0 }, { name := "allowSecurityManager", type := .int, accessFlags := 10, slot := 6, constantValue := 0 }, { name := "security", type := (.object "java/lang/SecurityManager"), accessFlags := 74, slot := 7, constantValue := 0 }, { name := "notSupportedJnuEncoding", type := (.object "java/lang/String"), accessFlags := 10, slot := 8, constantValue := 0 }, { name := "cons", type := (.object "java/io/Console"), accessFlags := 74, slot := 9, constantValue := 0 }, { name := "initialErrStream", type := (.object "java/io/PrintStream"), accessFlags := 74, slot := 10, constantValue := 0 }, { name := "props", type := (.object "java/util/Properties"), accessFlags := 10, slot := 11, constantValue := 0 }, { name := "lineSeparator", type := (.object "java/lang/String"), accessFlags := 10, slot := 12, constantValue := 0 }, { name := "bootLayer", type := (.object "java/lang/ModuleLayer"), accessFlags := 8, slot := 13, constantValue := 0 }]
  methods := #[k15m0, k15m1]
  instanceTypes := #[]
  staticTypes := #[(.object "java/io/InputStream"), (.object "java/io/PrintStream"), (.object "java/io/PrintStream"), (.object "java/io/InputStream"), .int, .int, .int, (.object "java/lang/SecurityManager"), (.object "java/lang/String"), (.object "java/io/Console"), (.object "java/io/PrintStream"), (.object "java/util/Properties"), (.object "java/lang/String"), (.object "java/lang/ModuleLayer")]
  resolved := Array.replicate 834 none
  statics := none }

def pool16 : Array CpInfo := pool [(9, u "<init>"), (6, .class_ 18), (1, u "java/lang/Object"), (0, u "()V"), (1, .class_ 23), (1, u "jdk/internal/util/ArraysSupport"), (0, u "LOG2_ARRAY_LONG_INDEX_SCALE"), (0, u "I"), (2, u "U"), (0, u "Ljdk/internal/misc/Unsafe;"), (8, u "BIG_ENDIAN"), (0, u "Z"), (8, u "LOG2_BYTE_BIT_SIZE"), (4, u "LOG2_ARRAY_INT_INDEX_SCALE"), (54, u "JLA"), (0, u "Ljdk/internal/access/JavaLangAccess;"), (11, u "LOG2_ARRAY_BOOLEAN_INDEX_SCALE"), (9, u "LOG2_ARRAY_BYTE_INDEX_SCALE"), (5, u "LOG2_ARRAY_CHAR_INDEX_SCALE"), (5, u "LOG2_ARRAY_SHORT_INDEX_SCALE"), (18, u "LOG2_ARRAY_FLOAT_INDEX_SCALE"), (24, u "LOG2_ARRAY_DOUBLE_INDEX_SCALE"), (89, u "T_BOOLEAN"), (2, u "T_CHAR"), (1, u "T_FLOAT"), (1, u "T_DOUBLE"), (1, u "T_BYTE"), (1, u "T_SHORT"), (1, u "T_INT"), (1, u "T_LONG"), (1, u "SOFT_MAX_ARRAY_LENGTH")] 83

def k16m0 : Method := { name := "<init>", desc := "()V", sig := { parameters := [], returnType := none }, accessFlags := 2, code := none }
/-- jdk/internal/util/ArraysSupport -/
def k16 : Class := { plain "jdk/internal/util/ArraysSupport" (some 0) with
  accessFlags := 33
  interfaces := #[]
  cf := some (fileOf pool16 21 #[] #[{ accessFlags := 2, nameIndex := 9, descriptorIndex := 19, attributes := #[] }] 33 16 #[] #[{ accessFlags := 24, nameIndex := 28, descriptorIndex := 29, attributes := #[] }, { accessFlags := 26, nameIndex := 38, descriptorIndex := 39, attributes := #[] }, { accessFlags := 25, nameIndex := 121, descriptorIndex := 25, attributes := #[] }, { accessFlags := 25, nameIndex := 131, descriptorIndex := 25, attributes := #[] }, { accessFlags := 25, nameIndex := 137, descriptorIndex := 25, attributes := #[] }, { accessFlags := 25, nameIndex := 143, descriptorIndex := 25, attributes := #[] }, { accessFlags := 25, nameIndex := 53, descriptorIndex := 25, attributes := #[] }, { accessFlags := 25, nameIndex := 24, descriptorIndex := 25, attributes := #[] }, { accessFlags := 25, nameIndex := 162, descriptorIndex := 25, attributes := #[] }, { accessFlags := 25, nameIndex := 187, descriptorIndex := 25, attributes := #[] }, { accessFlags := 26, nameIndex := 48, descriptorIndex := 25, attributes := #[] }, { accessFlags := 25, nameIndex := 277, descriptorIndex := 25, attributes := #[] }, { accessFlags := 25, nameIndex := 280, descriptorIndex := 25, attributes := #[] }, { accessFlags := 25, nameIndex := 282, descriptorIndex := 25, attributes := #[] }, { accessFlags := 25, nameIndex := 284, descriptorIndex := 25, attributes := #[] }, { accessFlags := 25, nameIndex := 286, descriptorIndex := 25, attributes := #[] }, { accessFlags := 25, nameIndex := 288, descriptorIndex := 25, attributes := #[] }, { accessFlags := 25, nameIndex := 290, descriptorIndex := 25, attributes := #[] }, { accessFlags := 25, nameIndex := 292, descriptorIndex := 25, attributes := #[] }, { accessFlags := 26, nameIndex := 108, descriptorIndex := 109, attributes := #[] }, { accessFlags := 25, nameIndex := 294, descriptorIndex := 25, attributes := #[] }])
  fields := #[{ name := "U", type := (.object "jdk/internal/misc/Unsafe"), accessFlags := 24, slot := 0, constantValue := 0 }, { name := "BIG_ENDIAN", type := .boolean, accessFlags := 26, slot := 1, constantValue := 0 }, { name := "LOG2_ARRAY_BOOLEAN_INDEX_SCALE", type := .int, accessFlags := 25, slot := 2, constantValue := 0 }, { name := "LOG2_ARRAY_BYTE_INDEX_SCALE", type := .int, accessFlags := 25, slot := 3, constantValue := 0 }, { name := "LOG2_ARRAY_CHAR_INDEX_SCALE", type := .int, accessFlags := 25, slot := 4, constantValue := 0 }, { name := "LOG2_ARRAY_SHORT_INDEX_SCALE", type := .int, accessFlags := 25, slot := 5, constantValue := 0 }, { name := "LOG2_ARRAY_INT_INDEX_SCALE", type := .int, accessFlags := 25, slot := 6, constantValue := 0 }, { name := "LOG2_ARRAY_LONG_INDEX_SCALE", type := .int, accessFlags := 25, slot := 7, constantValue := 0 }, { name := "LOG2_ARRAY_FLOAT_INDEX_SCALE", type := .int, accessFlags := 25, slot := 8, constantValue := 0 }, { name := "LOG2_ARRAY_DOUBLE_INDEX_SCALE", type := .int, accessFlags := 25, slot := 9, constantValue := 0 }, { name := "LOG2_BYTE_BIT_SIZE", type := .int, accessFlags := 26, slot := 10, constantValue := 0 }, { name := "T_BOOLEAN", type := .int, accessFlags := 25, slot := 11, constantValue := 0 }, { name := "T_CHAR", type := .int, accessFlags := 25, slot := 12, constantValue := 0 }, { name := "T_FLOAT", type := .int, accessFlags := 25, slot := 13, constantValue := 0 }, { name := "T_DOUBLE", type := .int, accessFlags := 25, slot := 14, constantValue := 0 }, { name := "T_BYTE", type := .int, accessFlags := 25, slot := 15, constantValue := 0 }, { name := "T_SHORT", type := .int, accessFlags := 25, slot := 16, constantValue := 0 }, { name := "T_INT", type := .int, accessFlags := 25, slot := 17, constantValue := 0 }, { name := "T_LONG", type := .int, accessFlags := 25, slot := 18, constantValue := 0 }, { name := "JLA", type := (.object "jdk/internal/access/JavaLangAccess"), accessFlags := 26, slot := 19, constantValue := 0 }, { name := "SOFT_MAX_ARRAY_LENGTH", type := .int, accessFlags := 25, slot := 20, constantValue := 0 }]
  methods := #[k16m0]
  instanceTypes := #[]
  staticTypes := #[(.object "jdk/internal/misc/Unsafe"), .boolean, .int, .int, .int, .int, .int, .int, .int, .int, .int, .int, .int, .int, .int, .int, .int, .int, .int, (.object "jdk/internal/access/JavaLangAccess"), .int]
  resolved := Array.replicate 378 none
  statics := none }

def pool17 : Array CpInfo := pool [(1, u "java/lang/Cloneable"), (0, .class_ 1), (0, u "java/lang/Object"), (0, .class_ 3)] 3

/-- java/lang/Cloneable -/
def k17 : Class := { plain "java/lang/Cloneable" (some 0) with
  accessFlags := 1537
  interfaces := #[]
  cf := some (fileOf pool17 2 #[] #[] 1537 4 #[] #[])
  fields := #[]
  methods := #[]
  instanceTypes := #[]
  staticTypes := #[]
  resolved := Array.replicate 8 none
  statics := none }

/-- the primitive byte -/
def k18 : Class := { plain "byte" none with kind := .primitive 'B', accessFlags := 0x411 }
/-- [B -/
def k19 : Class := { plain "[B" (some 0) with kind := .array 18 .byte, interfaces := #[17, 2], accessFlags := 1041 }

/-- the primitive char -/
def k20 : Class := { plain "char" none with kind := .primitive 'C', accessFlags := 0x411 }
/-- [C -/
def k21 : Class := { plain "[C" (some 0) with kind := .array 20 .char, interfaces := #[17, 2], accessFlags := 1041 }

/-- the primitive int -/
def k22 : Class := { plain "int" none with kind := .primitive 'I', accessFlags := 0x411 }
/-- [I -/
def k23 : Class := { plain "[I" (some 0) with kind := .array 22 .int, interfaces := #[17, 2], accessFlags := 1041 }

def heap : Heap := #[{ cls := 7, slots := #[.long 0, .int 1, .null, .int 0, .null, .int 0, .int 0], vm := .statics 7 },
  { cls := 10, slots := #[.null, .null, .null], vm := .statics 10 },
  { cls := 11, slots := #[.int 0, .int 8, .int 0, .int 1], vm := .statics 11 }]
def classes : Array Class := #[k0, k1, k2, k3, k4, k5, k6, k7, k8, k9, k10, k11, k12, k13, k14, k15, k16, k17, k18, k19, k20, k21, k22, k23]
def interned : List (Array UInt16 × Addr) := []
def slotsUsed : Nat := 14
def theMethod : MethodId := ⟨1, 1⟩
def args0 : Array Value := #[.int 3, .int 1, .int 300, .int 65, .int 66, .int 67]
def aboutOver (below : List Frame) : State where
  vm := { classes := classes, interned := interned.toArray }
  heap := heap
  slotsUsed := slotsUsed
  threads := #[{ frames := .invoking theMethod args0 :: below }]
def below0 : List Frame := [.native { method := ⟨0, 0⟩, args := #[] }]
def about1 : State := aboutOver below0
def p0 : Program := .bare "" "" ""
def e0 : Env := launch0.env 0 0 0
theorem w_frames : about1.frames = Frame.invoking theMethod args0 :: below0 := rfl
set_option maxRecDepth 65536 in
theorem w_args : argsFit about1.vm theMethod args0 = true := by decide +kernel
set_option maxRecDepth 65536 in
theorem w_heap : heapFits about1 = true := by decide +kernel
set_option maxRecDepth 65536 in
theorem w_runnable : about1.curStatus? = some .runnable := by decide +kernel
set_option maxRecDepth 65536 in
theorem w_alone : about1.alone = true := by decide +kernel
set_option maxRecDepth 65536 in
theorem w_named : about1.methodNamed? x = some theMethod := by decide +kernel
set_option maxRecDepth 65536 in
theorem w_hears : about1.hears theMethod below0 = true := by decide +kernel
set_option maxRecDepth 65536 in
theorem w_ripe : about1.ripe theMethod args0 below0 = true := by decide +kernel
theorem w_running : about1.status = .running := rfl
set_option maxRecDepth 65536 in
theorem w_room : about1.hasRoom e0.platform room_1 = true :=
  launch0.hasRoom_least _ room_1 (by decide +kernel) (by decide +kernel) (by decide +kernel) (by decide +kernel) (by decide +kernel) (by decide +kernel)
theorem allAtoms_all (ts : List Jvm.Cond) (a : Array Jvm.Value) (st : Jvm.State) : (allAtoms ts).before a st = ts.all (fun c => c.before a st) := by
  induction ts with
  | nil => rfl
  | cons c t ih =>
    show (Jvm.Cond.and c (allAtoms t)).before a st = _
    rw [Jvm.Cond.before_and, ih, List.all_cons]
def words1 : List Jvm.Cond := Jvm.Cond.code x code maxLocals ret :: tables_1
/-- a 'code' word, met by the world's own term for the bytes: nothing is compared byte by byte -/
theorem code_word {y : MethodName} {bytes : ByteArray} {mx : Nat} {rt : Option FieldType} {a : Array Value} {s : State} {m : MethodId} {meth : Method} {c : Code} (h1 : s.methodNamed? y = some m) (h2 : s.vm.method? m = some meth) (h3 : meth.code = some c) (h4 : c.code = bytes)
    (h5 : (c.maxLocals == mx && c.exceptionTable.isEmpty && decide (c.maxStack ≤ mostOperands) && decide (meth.sig.returnType = rt) && !meth.locks && decide (parseMethodDescriptor y.desc = some meth.sig)) = true) : (Jvm.Cond.code y bytes mx rt).before a s = true := by
  simp only [Bool.and_eq_true, beq_iff_eq, Bool.not_eq_true', decide_eq_true_eq] at h5
  obtain ⟨⟨⟨⟨⟨g1, g2⟩, g3⟩, g4⟩, g5⟩, g6⟩ := h5
  simp [Cond.before, Cond.holds, Cond.value, h1, h2, h3, h4, g1, g2, g3, g4, g5, g6]
def isCode : Jvm.Cond → Bool
  | .code _ _ _ _ => true
  | _ => false
theorem all_split {L : List Jvm.Cond} {P : Jvm.Cond → Bool} (h1 : L.all (fun c => isCode c || P c) = true) (h2 : ∀ c ∈ L.filter isCode, P c = true) : L.all P = true := by
  refine List.all_eq_true.mpr fun c hc => ?_
  have h := List.all_eq_true.mp h1 c hc
  rcases Bool.eq_false_or_eq_true (isCode c) with hi | hi
  · exact h2 c (List.mem_filter.mpr ⟨hc, hi⟩)
  · simpa [hi] using h
set_option maxRecDepth 65536 in
theorem w_c0 : (Jvm.Cond.code x code maxLocals ret).before args0 about1 = true := code_word (m := ⟨1, 1⟩) (meth := k1m1) (c := k1c1) (by decide +kernel) rfl rfl rfl (by decide +kernel)
set_option maxRecDepth 65536 in
theorem w_c1 : (Jvm.Cond.code ({ cls := "com/example/docs_into_rows/docsintorows/PrologDoctypePinLaw", name := "make", desc := "(I[C)Ljava/lang/String;" } : Jvm.MethodName) method_4_code (2 : Nat) (Option.some (Jvm.ClassFile.FieldType.object "java/lang/String"))).before args0 about1 = true := code_word (m := ⟨1, 3⟩) (meth := k1m3) (c := k1c3) (by decide +kernel) rfl rfl rfl (by decide +kernel)
set_option maxRecDepth 65536 in
theorem w_c2 : (Jvm.Cond.code ({ cls := "java/lang/String", name := "<init>", desc := "([C)V" } : Jvm.MethodName) jdk_42_method_3_code (2 : Nat) (Option.none : Option Jvm.ClassFile.FieldType)).before args0 about1 = true := code_word (m := ⟨7, 1⟩) (meth := k7m1) (c := k7c1) (by decide +kernel) rfl rfl rfl (by decide +kernel)
set_option maxRecDepth 65536 in
theorem w_c3 : (Jvm.Cond.code ({ cls := "java/lang/String", name := "<init>", desc := "([CIILjava/lang/Void;)V" } : Jvm.MethodName) jdk_42_method_149_code (6 : Nat) (Option.none : Option Jvm.ClassFile.FieldType)).before args0 about1 = true := code_word (m := ⟨7, 6⟩) (meth := k7m6) (c := k7c6) (by decide +kernel) rfl rfl rfl (by decide +kernel)
set_option maxRecDepth 65536 in
theorem w_c4 : (Jvm.Cond.code ({ cls := "java/lang/Object", name := "<init>", desc := "()V" } : Jvm.MethodName) object_method_1_code (1 : Nat) (Option.none : Option Jvm.ClassFile.FieldType)).before args0 about1 = true := code_word (m := ⟨0, 0⟩) (meth := k0m0) (c := k0c0) (by decide +kernel) rfl rfl rfl (by decide +kernel)
set_option maxRecDepth 65536 in
theorem w_c5 : (Jvm.Cond.code ({ cls := "com/example/docs_into_rows/docsintorows/MarkupReader$Prolog", name := "<init>", desc := "(Ljava/lang/String;I)V" } : Jvm.MethodName) prog_40_method_1_code (3 : Nat) (Option.none : Option Jvm.ClassFile.FieldType)).before args0 about1 = true := code_word (m := ⟨9, 0⟩) (meth := k9m0) (c := k9c0) (by decide +kernel) rfl rfl rfl (by decide +kernel)
set_option maxRecDepth 65536 in
theorem w_c6 : (Jvm.Cond.code ({ cls := "java/lang/Record", name := "<init>", desc := "()V" } : Jvm.MethodName) jdk_30_method_1_code (1 : Nat) (Option.none : Option Jvm.ClassFile.FieldType)).before args0 about1 = true := code_word (m := ⟨8, 0⟩) (meth := k8m0) (c := k8c0) (by decide +kernel) rfl rfl rfl (by decide +kernel)
set_option maxRecDepth 65536 in
theorem w_c7 : (Jvm.Cond.code ({ cls := "com/example/docs_into_rows/docsintorows/MarkupReader$Prolog", name := "doctype", desc := "()Ljava/lang/String;" } : Jvm.MethodName) prog_40_method_2_code (1 : Nat) (Option.some (Jvm.ClassFile.FieldType.object "java/lang/String"))).before args0 about1 = true := code_word (m := ⟨9, 1⟩) (meth := k9m1) (c := k9c1) (by decide +kernel) rfl rfl rfl (by decide +kernel)
set_option maxRecDepth 65536 in
theorem w_c8 : (Jvm.Cond.code ({ cls := "java/lang/String", name := "substring", desc := "(I)Ljava/lang/String;" } : Jvm.MethodName) jdk_42_method_91_code (2 : Nat) (Option.some (Jvm.ClassFile.FieldType.object "java/lang/String"))).before args0 about1 = true := code_word (m := ⟨7, 4⟩) (meth := k7m4) (c := k7c4) (by decide +kernel) rfl rfl rfl (by decide +kernel)
set_option maxRecDepth 65536 in
theorem w_c9 : (Jvm.Cond.code ({ cls := "java/lang/String", name := "length", desc := "()I" } : Jvm.MethodName) jdk_42_method_54_code (1 : Nat) (Option.some Jvm.ClassFile.FieldType.int)).before args0 about1 = true := code_word (m := ⟨7, 2⟩) (meth := k7m2) (c := k7c2) (by decide +kernel) rfl rfl rfl (by decide +kernel)
set_option maxRecDepth 65536 in
theorem w_c10 : (Jvm.Cond.code ({ cls := "java/lang/String", name := "coder", desc := "()B" } : Jvm.MethodName) jdk_42_method_152_code (1 : Nat) (Option.some Jvm.ClassFile.FieldType.byte)).before args0 about1 = true := code_word (m := ⟨7, 8⟩) (meth := k7m8) (c := k7c8) (by decide +kernel) rfl rfl rfl (by decide +kernel)
set_option maxRecDepth 65536 in
theorem w_c11 : (Jvm.Cond.code ({ cls := "java/lang/String", name := "substring", desc := "(II)Ljava/lang/String;" } : Jvm.MethodName) jdk_42_method_92_code (5 : Nat) (Option.some (Jvm.ClassFile.FieldType.object "java/lang/String"))).before args0 about1 = true := code_word (m := ⟨7, 5⟩) (meth := k7m5) (c := k7c5) (by decide +kernel) rfl rfl rfl (by decide +kernel)
set_option maxRecDepth 65536 in
theorem w_c12 : (Jvm.Cond.code ({ cls := "java/lang/String", name := "checkBoundsBeginEnd", desc := "(III)V" } : Jvm.MethodName) jdk_42_method_158_code (3 : Nat) (Option.none : Option Jvm.ClassFile.FieldType)).before args0 about1 = true := code_word (m := ⟨7, 12⟩) (meth := k7m12) (c := k7c12) (by decide +kernel) rfl rfl rfl (by decide +kernel)
set_option maxRecDepth 65536 in
theorem w_c13 : (Jvm.Cond.code ({ cls := "jdk/internal/util/Preconditions", name := "checkFromToIndex", desc := "(IIILjava/util/function/BiFunction;)I" } : Jvm.MethodName) jdk_41_method_12_code (4 : Nat) (Option.some Jvm.ClassFile.FieldType.int)).before args0 about1 = true := code_word (m := ⟨10, 2⟩) (meth := k10m2) (c := k10c2) (by decide +kernel) rfl rfl rfl (by decide +kernel)
set_option maxRecDepth 65536 in
theorem w_c14 : (Jvm.Cond.code ({ cls := "com/example/docs_into_rows/docsintorows/PrologDoctypePinLaw", name := "same", desc := "(Ljava/lang/String;[CIII)Z" } : Jvm.MethodName) method_3_code (5 : Nat) (Option.some Jvm.ClassFile.FieldType.boolean)).before args0 about1 = true := code_word (m := ⟨1, 2⟩) (meth := k1m2) (c := k1c2) (by decide +kernel) rfl rfl rfl (by decide +kernel)
set_option maxRecDepth 65536 in
theorem w_c15 : (Jvm.Cond.code ({ cls := "java/lang/StringUTF16", name := "compress", desc := "([CII)[B" } : Jvm.MethodName) jdk_52_method_16_code (6 : Nat) (Option.some (Jvm.ClassFile.FieldType.array Jvm.ClassFile.FieldType.byte))).before args0 about1 = true := code_word (m := ⟨11, 8⟩) (meth := k11m8) (c := k11c8) (by decide +kernel) rfl rfl rfl (by decide +kernel)
set_option maxRecDepth 65536 in
theorem w_c16 : (Jvm.Cond.code ({ cls := "java/lang/StringUTF16", name := "compress", desc := "([CI[BII)I" } : Jvm.MethodName) jdk_52_method_21_code (7 : Nat) (Option.some Jvm.ClassFile.FieldType.int)).before args0 about1 = true := code_word (m := ⟨11, 10⟩) (meth := k11m10) (c := k11c10) (by decide +kernel) rfl rfl rfl (by decide +kernel)
set_option maxRecDepth 65536 in
theorem w_c17 : (Jvm.Cond.code ({ cls := "java/lang/StringUTF16", name := "coderFromArrayLen", desc := "([BI)B" } : Jvm.MethodName) jdk_52_method_15_code (2 : Nat) (Option.some Jvm.ClassFile.FieldType.byte)).before args0 about1 = true := code_word (m := ⟨11, 7⟩) (meth := k11m7) (c := k11c7) (by decide +kernel) rfl rfl rfl (by decide +kernel)
set_option maxRecDepth 65536 in
theorem w_c18 : (Jvm.Cond.code ({ cls := "java/lang/String", name := "charAt", desc := "(I)C" } : Jvm.MethodName) jdk_42_method_56_code (2 : Nat) (Option.some Jvm.ClassFile.FieldType.char)).before args0 about1 = true := code_word (m := ⟨7, 3⟩) (meth := k7m3) (c := k7c3) (by decide +kernel) rfl rfl rfl (by decide +kernel)
set_option maxRecDepth 65536 in
theorem w_c19 : (Jvm.Cond.code ({ cls := "java/lang/String", name := "isLatin1", desc := "()Z" } : Jvm.MethodName) jdk_42_method_154_code (1 : Nat) (Option.some Jvm.ClassFile.FieldType.boolean)).before args0 about1 = true := code_word (m := ⟨7, 9⟩) (meth := k7m9) (c := k7c9) (by decide +kernel) rfl rfl rfl (by decide +kernel)
set_option maxRecDepth 65536 in
theorem w_c20 : (Jvm.Cond.code ({ cls := "java/lang/StringLatin1", name := "charAt", desc := "([BI)C" } : Jvm.MethodName) jdk_43_method_2_code (2 : Nat) (Option.some Jvm.ClassFile.FieldType.char)).before args0 about1 = true := code_word (m := ⟨12, 1⟩) (meth := k12m1) (c := k12c1) (by decide +kernel) rfl rfl rfl (by decide +kernel)
set_option maxRecDepth 65536 in
theorem w_c21 : (Jvm.Cond.code ({ cls := "java/lang/String", name := "checkIndex", desc := "(II)V" } : Jvm.MethodName) jdk_42_method_155_code (2 : Nat) (Option.none : Option Jvm.ClassFile.FieldType)).before args0 about1 = true := code_word (m := ⟨7, 10⟩) (meth := k7m10) (c := k7c10) (by decide +kernel) rfl rfl rfl (by decide +kernel)
set_option maxRecDepth 65536 in
theorem w_c22 : (Jvm.Cond.code ({ cls := "jdk/internal/util/Preconditions", name := "checkIndex", desc := "(IILjava/util/function/BiFunction;)I" } : Jvm.MethodName) jdk_41_method_11_code (3 : Nat) (Option.some Jvm.ClassFile.FieldType.int)).before args0 about1 = true := code_word (m := ⟨10, 1⟩) (meth := k10m1) (c := k10c1) (by decide +kernel) rfl rfl rfl (by decide +kernel)
set_option maxRecDepth 65536 in
theorem w_c23 : (Jvm.Cond.code ({ cls := "java/lang/StringLatin1", name := "newString", desc := "([BII)Ljava/lang/String;" } : Jvm.MethodName) jdk_43_method_47_code (3 : Nat) (Option.some (Jvm.ClassFile.FieldType.object "java/lang/String"))).before args0 about1 = true := code_word (m := ⟨12, 2⟩) (meth := k12m2) (c := k12c2) (by decide +kernel) rfl rfl rfl (by decide +kernel)
set_option maxRecDepth 65536 in
theorem w_c24 : (Jvm.Cond.code ({ cls := "java/lang/StringUTF16", name := "toBytes", desc := "([CII)[B" } : Jvm.MethodName) jdk_52_method_14_code (5 : Nat) (Option.some (Jvm.ClassFile.FieldType.array Jvm.ClassFile.FieldType.byte))).before args0 about1 = true := code_word (m := ⟨11, 6⟩) (meth := k11m6) (c := k11c6) (by decide +kernel) rfl rfl rfl (by decide +kernel)
set_option maxRecDepth 65536 in
theorem w_c25 : (Jvm.Cond.code ({ cls := "java/lang/StringUTF16", name := "newBytesFor", desc := "(I)[B" } : Jvm.MethodName) jdk_52_method_2_code (1 : Nat) (Option.some (Jvm.ClassFile.FieldType.array Jvm.ClassFile.FieldType.byte))).before args0 about1 = true := code_word (m := ⟨11, 1⟩) (meth := k11m1) (c := k11c1) (by decide +kernel) rfl rfl rfl (by decide +kernel)
set_option maxRecDepth 65536 in
theorem w_c26 : (Jvm.Cond.code ({ cls := "java/lang/StringUTF16", name := "newBytesLength", desc := "(I)I" } : Jvm.MethodName) jdk_52_method_3_code (1 : Nat) (Option.some Jvm.ClassFile.FieldType.int)).before args0 about1 = true := code_word (m := ⟨11, 2⟩) (meth := k11m2) (c := k11c2) (by decide +kernel) rfl rfl rfl (by decide +kernel)
set_option maxRecDepth 65536 in
theorem w_c27 : (Jvm.Cond.code ({ cls := "java/lang/StringUTF16", name := "putChar", desc := "([BII)V" } : Jvm.MethodName) jdk_52_method_4_code (3 : Nat) (Option.none : Option Jvm.ClassFile.FieldType)).before args0 about1 = true := code_word (m := ⟨11, 3⟩) (meth := k11m3) (c := k11c3) (by decide +kernel) rfl rfl rfl (by decide +kernel)
set_option maxRecDepth 65536 in
theorem w_c28 : (Jvm.Cond.code ({ cls := "java/lang/StringUTF16", name := "getChar", desc := "([BI)C" } : Jvm.MethodName) jdk_52_method_5_code (2 : Nat) (Option.some Jvm.ClassFile.FieldType.char)).before args0 about1 = true := code_word (m := ⟨11, 4⟩) (meth := k11m4) (c := k11c4) (by decide +kernel) rfl rfl rfl (by decide +kernel)
set_option maxRecDepth 65536 in
theorem w_c29 : (Jvm.Cond.code ({ cls := "java/lang/StringUTF16", name := "newString", desc := "([BII)Ljava/lang/String;" } : Jvm.MethodName) jdk_52_method_69_code (5 : Nat) (Option.some (Jvm.ClassFile.FieldType.object "java/lang/String"))).before args0 about1 = true := code_word (m := ⟨11, 12⟩) (meth := k11m12) (c := k11c12) (by decide +kernel) rfl rfl rfl (by decide +kernel)
set_option maxRecDepth 65536 in
theorem w_c30 : (Jvm.Cond.code ({ cls := "java/lang/StringUTF16", name := "charAt", desc := "([BI)C" } : Jvm.MethodName) jdk_52_method_83_code (2 : Nat) (Option.some Jvm.ClassFile.FieldType.char)).before args0 about1 = true := code_word (m := ⟨11, 13⟩) (meth := k11m13) (c := k11c13) (by decide +kernel) rfl rfl rfl (by decide +kernel)
set_option maxRecDepth 65536 in
theorem w_c31 : (Jvm.Cond.code ({ cls := "java/lang/StringUTF16", name := "checkIndex", desc := "(I[B)V" } : Jvm.MethodName) jdk_52_method_91_code (2 : Nat) (Option.none : Option Jvm.ClassFile.FieldType)).before args0 about1 = true := code_word (m := ⟨11, 14⟩) (meth := k11m14) (c := k11c14) (by decide +kernel) rfl rfl rfl (by decide +kernel)
set_option maxRecDepth 65536 in
theorem w_c32 : (Jvm.Cond.code ({ cls := "java/lang/StringUTF16", name := "length", desc := "([B)I" } : Jvm.MethodName) jdk_52_method_6_code (1 : Nat) (Option.some Jvm.ClassFile.FieldType.int)).before args0 about1 = true := code_word (m := ⟨11, 5⟩) (meth := k11m5) (c := k11c5) (by decide +kernel) rfl rfl rfl (by decide +kernel)
set_option maxRecDepth 65536 in
theorem w_c33 : (Jvm.Cond.code ({ cls := "java/lang/StringUTF16", name := "compress", desc := "([BII)[B" } : Jvm.MethodName) jdk_52_method_17_code (6 : Nat) (Option.some (Jvm.ClassFile.FieldType.array Jvm.ClassFile.FieldType.byte))).before args0 about1 = true := code_word (m := ⟨11, 9⟩) (meth := k11m9) (c := k11c9) (by decide +kernel) rfl rfl rfl (by decide +kernel)
set_option maxRecDepth 65536 in
theorem w_c34 : (Jvm.Cond.code ({ cls := "java/lang/StringUTF16", name := "compress", desc := "([BI[BII)I" } : Jvm.MethodName) jdk_52_method_22_code (7 : Nat) (Option.some Jvm.ClassFile.FieldType.int)).before args0 about1 = true := code_word (m := ⟨11, 11⟩) (meth := k11m11) (c := k11c11) (by decide +kernel) rfl rfl rfl (by decide +kernel)
set_option maxRecDepth 65536 in
theorem w_c35 : (Jvm.Cond.code ({ cls := "java/lang/StringUTF16", name := "checkBoundsOffCount", desc := "(II[B)V" } : Jvm.MethodName) jdk_52_method_94_code (3 : Nat) (Option.none : Option Jvm.ClassFile.FieldType)).before args0 about1 = true := code_word (m := ⟨11, 15⟩) (meth := k11m15) (c := k11c15) (by decide +kernel) rfl rfl rfl (by decide +kernel)
set_option maxRecDepth 65536 in
theorem w_c36 : (Jvm.Cond.code ({ cls := "java/lang/String", name := "checkBoundsOffCount", desc := "(III)I" } : Jvm.MethodName) jdk_42_method_157_code (3 : Nat) (Option.some Jvm.ClassFile.FieldType.int)).before args0 about1 = true := code_word (m := ⟨7, 11⟩) (meth := k7m11) (c := k7c11) (by decide +kernel) rfl rfl rfl (by decide +kernel)
set_option maxRecDepth 65536 in
theorem w_c37 : (Jvm.Cond.code ({ cls := "jdk/internal/util/Preconditions", name := "checkFromIndexSize", desc := "(IIILjava/util/function/BiFunction;)I" } : Jvm.MethodName) jdk_41_method_13_code (4 : Nat) (Option.some Jvm.ClassFile.FieldType.int)).before args0 about1 = true := code_word (m := ⟨10, 3⟩) (meth := k10m3) (c := k10c3) (by decide +kernel) rfl rfl rfl (by decide +kernel)
set_option maxRecDepth 65536 in
theorem w_c38 : (Jvm.Cond.code ({ cls := "java/util/Arrays", name := "copyOfRange", desc := "([BII)[B" } : Jvm.MethodName) jdk_65_method_132_code (3 : Nat) (Option.some (Jvm.ClassFile.FieldType.array Jvm.ClassFile.FieldType.byte))).before args0 about1 = true := code_word (m := ⟨13, 2⟩) (meth := k13m2) (c := k13c2) (by decide +kernel) rfl rfl rfl (by decide +kernel)
set_option maxRecDepth 65536 in
theorem w_c39 : (Jvm.Cond.code ({ cls := "java/util/Arrays", name := "copyOfRangeByte", desc := "([BII)[B" } : Jvm.MethodName) jdk_65_method_133_code (5 : Nat) (Option.some (Jvm.ClassFile.FieldType.array Jvm.ClassFile.FieldType.byte))).before args0 about1 = true := code_word (m := ⟨13, 3⟩) (meth := k13m3) (c := k13c3) (by decide +kernel) rfl rfl rfl (by decide +kernel)
set_option maxRecDepth 65536 in
theorem w_c40 : (Jvm.Cond.code ({ cls := "java/util/Arrays", name := "checkLength", desc := "(II)V" } : Jvm.MethodName) jdk_65_method_131_code (2 : Nat) (Option.none : Option Jvm.ClassFile.FieldType)).before args0 about1 = true := code_word (m := ⟨13, 1⟩) (meth := k13m1) (c := k13c1) (by decide +kernel) rfl rfl rfl (by decide +kernel)
set_option maxRecDepth 65536 in
theorem w_c41 : (Jvm.Cond.code ({ cls := "java/lang/Math", name := "min", desc := "(II)I" } : Jvm.MethodName) jdk_29_method_69_code (2 : Nat) (Option.some Jvm.ClassFile.FieldType.int)).before args0 about1 = true := code_word (m := ⟨14, 1⟩) (meth := k14m1) (c := k14c1) (by decide +kernel) rfl rfl rfl (by decide +kernel)
set_option maxRecDepth 65536 in
theorem w_c42 : (Jvm.Cond.code ({ cls := "java/lang/String", name := "<init>", desc := "([BB)V" } : Jvm.MethodName) jdk_42_method_151_code (3 : Nat) (Option.none : Option Jvm.ClassFile.FieldType)).before args0 about1 = true := code_word (m := ⟨7, 7⟩) (meth := k7m7) (c := k7c7) (by decide +kernel) rfl rfl rfl (by decide +kernel)
def codes1 : List Jvm.Cond := [Jvm.Cond.code x code maxLocals ret, Jvm.Cond.code ({ cls := "com/example/docs_into_rows/docsintorows/PrologDoctypePinLaw", name := "make", desc := "(I[C)Ljava/lang/String;" } : Jvm.MethodName) method_4_code (2 : Nat) (Option.some (Jvm.ClassFile.FieldType.object "java/lang/String")), Jvm.Cond.code ({ cls := "java/lang/String", name := "<init>", desc := "([C)V" } : Jvm.MethodName) jdk_42_method_3_code (2 : Nat) (Option.none : Option Jvm.ClassFile.FieldType), Jvm.Cond.code ({ cls := "java/lang/String", name := "<init>", desc := "([CIILjava/lang/Void;)V" } : Jvm.MethodName) jdk_42_method_149_code (6 : Nat) (Option.none : Option Jvm.ClassFile.FieldType), Jvm.Cond.code ({ cls := "java/lang/Object", name := "<init>", desc := "()V" } : Jvm.MethodName) object_method_1_code (1 : Nat) (Option.none : Option Jvm.ClassFile.FieldType), Jvm.Cond.code ({ cls := "com/example/docs_into_rows/docsintorows/MarkupReader$Prolog", name := "<init>", desc := "(Ljava/lang/String;I)V" } : Jvm.MethodName) prog_40_method_1_code (3 : Nat) (Option.none : Option Jvm.ClassFile.FieldType), Jvm.Cond.code ({ cls := "java/lang/Record", name := "<init>", desc := "()V" } : Jvm.MethodName) jdk_30_method_1_code (1 : Nat) (Option.none : Option Jvm.ClassFile.FieldType), Jvm.Cond.code ({ cls := "com/example/docs_into_rows/docsintorows/MarkupReader$Prolog", name := "doctype", desc := "()Ljava/lang/String;" } : Jvm.MethodName) prog_40_method_2_code (1 : Nat) (Option.some (Jvm.ClassFile.FieldType.object "java/lang/String")), Jvm.Cond.code ({ cls := "java/lang/String", name := "substring", desc := "(I)Ljava/lang/String;" } : Jvm.MethodName) jdk_42_method_91_code (2 : Nat) (Option.some (Jvm.ClassFile.FieldType.object "java/lang/String")), Jvm.Cond.code ({ cls := "java/lang/String", name := "length", desc := "()I" } : Jvm.MethodName) jdk_42_method_54_code (1 : Nat) (Option.some Jvm.ClassFile.FieldType.int), Jvm.Cond.code ({ cls := "java/lang/String", name := "coder", desc := "()B" } : Jvm.MethodName) jdk_42_method_152_code (1 : Nat) (Option.some Jvm.ClassFile.FieldType.byte), Jvm.Cond.code ({ cls := "java/lang/String", name := "substring", desc := "(II)Ljava/lang/String;" } : Jvm.MethodName) jdk_42_method_92_code (5 : Nat) (Option.some (Jvm.ClassFile.FieldType.object "java/lang/String")), Jvm.Cond.code ({ cls := "java/lang/String", name := "checkBoundsBeginEnd", desc := "(III)V" } : Jvm.MethodName) jdk_42_method_158_code (3 : Nat) (Option.none : Option Jvm.ClassFile.FieldType), Jvm.Cond.code ({ cls := "jdk/internal/util/Preconditions", name := "checkFromToIndex", desc := "(IIILjava/util/function/BiFunction;)I" } : Jvm.MethodName) jdk_41_method_12_code (4 : Nat) (Option.some Jvm.ClassFile.FieldType.int), Jvm.Cond.code ({ cls := "com/example/docs_into_rows/docsintorows/PrologDoctypePinLaw", name := "same", desc := "(Ljava/lang/String;[CIII)Z" } : Jvm.MethodName) method_3_code (5 : Nat) (Option.some Jvm.ClassFile.FieldType.boolean), Jvm.Cond.code ({ cls := "java/lang/StringUTF16", name := "compress", desc := "([CII)[B" } : Jvm.MethodName) jdk_52_method_16_code (6 : Nat) (Option.some (Jvm.ClassFile.FieldType.array Jvm.ClassFile.FieldType.byte)), Jvm.Cond.code ({ cls := "java/lang/StringUTF16", name := "compress", desc := "([CI[BII)I" } : Jvm.MethodName) jdk_52_method_21_code (7 : Nat) (Option.some Jvm.ClassFile.FieldType.int), Jvm.Cond.code ({ cls := "java/lang/StringUTF16", name := "coderFromArrayLen", desc := "([BI)B" } : Jvm.MethodName) jdk_52_method_15_code (2 : Nat) (Option.some Jvm.ClassFile.FieldType.byte), Jvm.Cond.code ({ cls := "java/lang/String", name := "charAt", desc := "(I)C" } : Jvm.MethodName) jdk_42_method_56_code (2 : Nat) (Option.some Jvm.ClassFile.FieldType.char), Jvm.Cond.code ({ cls := "java/lang/String", name := "isLatin1", desc := "()Z" } : Jvm.MethodName) jdk_42_method_154_code (1 : Nat) (Option.some Jvm.ClassFile.FieldType.boolean), Jvm.Cond.code ({ cls := "java/lang/StringLatin1", name := "charAt", desc := "([BI)C" } : Jvm.MethodName) jdk_43_method_2_code (2 : Nat) (Option.some Jvm.ClassFile.FieldType.char), Jvm.Cond.code ({ cls := "java/lang/String", name := "checkIndex", desc := "(II)V" } : Jvm.MethodName) jdk_42_method_155_code (2 : Nat) (Option.none : Option Jvm.ClassFile.FieldType), Jvm.Cond.code ({ cls := "jdk/internal/util/Preconditions", name := "checkIndex", desc := "(IILjava/util/function/BiFunction;)I" } : Jvm.MethodName) jdk_41_method_11_code (3 : Nat) (Option.some Jvm.ClassFile.FieldType.int), Jvm.Cond.code ({ cls := "java/lang/StringLatin1", name := "newString", desc := "([BII)Ljava/lang/String;" } : Jvm.MethodName) jdk_43_method_47_code (3 : Nat) (Option.some (Jvm.ClassFile.FieldType.object "java/lang/String")), Jvm.Cond.code ({ cls := "java/lang/StringUTF16", name := "toBytes", desc := "([CII)[B" } : Jvm.MethodName) jdk_52_method_14_code (5 : Nat) (Option.some (Jvm.ClassFile.FieldType.array Jvm.ClassFile.FieldType.byte)), Jvm.Cond.code ({ cls := "java/lang/StringUTF16", name := "newBytesFor", desc := "(I)[B" } : Jvm.MethodName) jdk_52_method_2_code (1 : Nat) (Option.some (Jvm.ClassFile.FieldType.array Jvm.ClassFile.FieldType.byte)), Jvm.Cond.code ({ cls := "java/lang/StringUTF16", name := "newBytesLength", desc := "(I)I" } : Jvm.MethodName) jdk_52_method_3_code (1 : Nat) (Option.some Jvm.ClassFile.FieldType.int), Jvm.Cond.code ({ cls := "java/lang/StringUTF16", name := "putChar", desc := "([BII)V" } : Jvm.MethodName) jdk_52_method_4_code (3 : Nat) (Option.none : Option Jvm.ClassFile.FieldType), Jvm.Cond.code ({ cls := "java/lang/StringUTF16", name := "getChar", desc := "([BI)C" } : Jvm.MethodName) jdk_52_method_5_code (2 : Nat) (Option.some Jvm.ClassFile.FieldType.char), Jvm.Cond.code ({ cls := "java/lang/StringUTF16", name := "newString", desc := "([BII)Ljava/lang/String;" } : Jvm.MethodName) jdk_52_method_69_code (5 : Nat) (Option.some (Jvm.ClassFile.FieldType.object "java/lang/String")), Jvm.Cond.code ({ cls := "java/lang/StringUTF16", name := "charAt", desc := "([BI)C" } : Jvm.MethodName) jdk_52_method_83_code (2 : Nat) (Option.some Jvm.ClassFile.FieldType.char), Jvm.Cond.code ({ cls := "java/lang/StringUTF16", name := "checkIndex", desc := "(I[B)V" } : Jvm.MethodName) jdk_52_method_91_code (2 : Nat) (Option.none : Option Jvm.ClassFile.FieldType), Jvm.Cond.code ({ cls := "java/lang/StringUTF16", name := "length", desc := "([B)I" } : Jvm.MethodName) jdk_52_method_6_code (1 : Nat) (Option.some Jvm.ClassFile.FieldType.int), Jvm.Cond.code ({ cls := "java/lang/StringUTF16", name := "compress", desc := "([BII)[B" } : Jvm.MethodName) jdk_52_method_17_code (6 : Nat) (Option.some (Jvm.ClassFile.FieldType.array Jvm.ClassFile.FieldType.byte)), Jvm.Cond.code ({ cls := "java/lang/StringUTF16", name := "compress", desc := "([BI[BII)I" } : Jvm.MethodName) jdk_52_method_22_code (7 : Nat) (Option.some Jvm.ClassFile.FieldType.int), Jvm.Cond.code ({ cls := "java/lang/StringUTF16", name := "checkBoundsOffCount", desc := "(II[B)V" } : Jvm.MethodName) jdk_52_method_94_code (3 : Nat) (Option.none : Option Jvm.ClassFile.FieldType), Jvm.Cond.code ({ cls := "java/lang/String", name := "checkBoundsOffCount", desc := "(III)I" } : Jvm.MethodName) jdk_42_method_157_code (3 : Nat) (Option.some Jvm.ClassFile.FieldType.int), Jvm.Cond.code ({ cls := "jdk/internal/util/Preconditions", name := "checkFromIndexSize", desc := "(IIILjava/util/function/BiFunction;)I" } : Jvm.MethodName) jdk_41_method_13_code (4 : Nat) (Option.some Jvm.ClassFile.FieldType.int), Jvm.Cond.code ({ cls := "java/util/Arrays", name := "copyOfRange", desc := "([BII)[B" } : Jvm.MethodName) jdk_65_method_132_code (3 : Nat) (Option.some (Jvm.ClassFile.FieldType.array Jvm.ClassFile.FieldType.byte)), Jvm.Cond.code ({ cls := "java/util/Arrays", name := "copyOfRangeByte", desc := "([BII)[B" } : Jvm.MethodName) jdk_65_method_133_code (5 : Nat) (Option.some (Jvm.ClassFile.FieldType.array Jvm.ClassFile.FieldType.byte)), Jvm.Cond.code ({ cls := "java/util/Arrays", name := "checkLength", desc := "(II)V" } : Jvm.MethodName) jdk_65_method_131_code (2 : Nat) (Option.none : Option Jvm.ClassFile.FieldType), Jvm.Cond.code ({ cls := "java/lang/Math", name := "min", desc := "(II)I" } : Jvm.MethodName) jdk_29_method_69_code (2 : Nat) (Option.some Jvm.ClassFile.FieldType.int), Jvm.Cond.code ({ cls := "java/lang/String", name := "<init>", desc := "([BB)V" } : Jvm.MethodName) jdk_42_method_151_code (3 : Nat) (Option.none : Option Jvm.ClassFile.FieldType)]
set_option maxRecDepth 65536 in
theorem codes_eq : words1.filter isCode = codes1 := rfl
theorem w_codes : ∀ c ∈ words1.filter isCode, c.before args0 about1 = true := by
  rw [codes_eq]
  intro c hc
  simp only [codes1, List.mem_cons, List.not_mem_nil, or_false] at hc
  rcases hc with rfl | rfl | rfl | rfl | rfl | rfl | rfl | rfl | rfl | rfl | rfl | rfl | rfl | rfl | rfl | rfl | rfl | rfl | rfl | rfl | rfl | rfl | rfl | rfl | rfl | rfl | rfl | rfl | rfl | rfl | rfl | rfl | rfl | rfl | rfl | rfl | rfl | rfl | rfl | rfl | rfl | rfl | rfl
  · exact w_c0
  · exact w_c1
  · exact w_c2
  · exact w_c3
  · exact w_c4
  · exact w_c5
  · exact w_c6
  · exact w_c7
  · exact w_c8
  · exact w_c9
  · exact w_c10
  · exact w_c11
  · exact w_c12
  · exact w_c13
  · exact w_c14
  · exact w_c15
  · exact w_c16
  · exact w_c17
  · exact w_c18
  · exact w_c19
  · exact w_c20
  · exact w_c21
  · exact w_c22
  · exact w_c23
  · exact w_c24
  · exact w_c25
  · exact w_c26
  · exact w_c27
  · exact w_c28
  · exact w_c29
  · exact w_c30
  · exact w_c31
  · exact w_c32
  · exact w_c33
  · exact w_c34
  · exact w_c35
  · exact w_c36
  · exact w_c37
  · exact w_c38
  · exact w_c39
  · exact w_c40
  · exact w_c41
  · exact w_c42
set_option maxRecDepth 65536 in
theorem w_t1 : (words1.take 24).all (fun c => isCode c || c.before args0 about1) = true := by decide +kernel
set_option maxRecDepth 65536 in
theorem w_t2 : ((words1.drop 24).take 24).all (fun c => isCode c || c.before args0 about1) = true := by decide +kernel
set_option maxRecDepth 65536 in
theorem w_t3 : (((words1.drop 24).drop 24).take 24).all (fun c => isCode c || c.before args0 about1) = true := by decide +kernel
set_option maxRecDepth 65536 in
theorem w_t4 : ((((words1.drop 24).drop 24).drop 24).take 24).all (fun c => isCode c || c.before args0 about1) = true := by decide +kernel
set_option maxRecDepth 65536 in
theorem w_t5 : (((((words1.drop 24).drop 24).drop 24).drop 24).take 24).all (fun c => isCode c || c.before args0 about1) = true := by decide +kernel
set_option maxRecDepth 65536 in
theorem w_t6 : ((((((words1.drop 24).drop 24).drop 24).drop 24).drop 24).take 24).all (fun c => isCode c || c.before args0 about1) = true := by decide +kernel
set_option maxRecDepth 65536 in
theorem w_t7 : (((((((words1.drop 24).drop 24).drop 24).drop 24).drop 24).drop 24).take 24).all (fun c => isCode c || c.before args0 about1) = true := by decide +kernel
set_option maxRecDepth 65536 in
theorem w_t8 : (((((((words1.drop 24).drop 24).drop 24).drop 24).drop 24).drop 24).drop 24).all (fun c => isCode c || c.before args0 about1) = true := by decide +kernel
theorem w_tables : (allAtoms (Jvm.Cond.code x code maxLocals ret :: tables_1)).before args0 about1 = true := by
  rw [allAtoms_all]
  show words1.all (fun c => c.before args0 about1) = true
  refine all_split ?_ w_codes
  rw [← List.take_append_drop 24 words1, List.all_append, w_t1, ← List.take_append_drop 24 (words1.drop 24), List.all_append, w_t2, ← List.take_append_drop 24 ((words1.drop 24).drop 24), List.all_append, w_t3, ← List.take_append_drop 24 (((words1.drop 24).drop 24).drop 24), List.all_append, w_t4, ← List.take_append_drop 24 ((((words1.drop 24).drop 24).drop 24).drop 24), List.all_append, w_t5, ← List.take_append_drop 24 (((((words1.drop 24).drop 24).drop 24).drop 24).drop 24), List.all_append, w_t6, ← List.take_append_drop 24 ((((((words1.drop 24).drop 24).drop 24).drop 24).drop 24).drop 24), List.all_append, w_t7, w_t8]
  rfl
set_option maxRecDepth 65536 in
theorem w_rest : rest_1_c.before args0 about1 = true := by decide +kernel
set_option maxRecDepth 65536 in
theorem w_case : (Jvm.Cond.and given_1 narrow_1).before args0 about1 = true := by decide +kernel
set_option maxRecDepth 65536 in
theorem w_consts : constsHeld consts_1 about1 := Jvm.Lit.constsHeldB_iff.mp (by decide +kernel)
theorem w_applies : (headSpec (Jvm.Cond.code x code maxLocals ret :: tables_1) room_1).applies x e0.platform about1 = true :=
  (Spec.applies_iff w_frames).mpr ⟨w_running, w_runnable, w_alone, w_named, w_hears, w_ripe, w_room, w_tables⟩
theorem atStart : AtStart classFile x code maxLocals ret World_1 tables_1 room_1 Calls_1 rest_1 Pre_1 launch0 p0 e0 about1 theMethod args0 below0 :=
  ⟨lists_1, trivial, launch0.admits_env _ _ _, launch0.least_env, fairChoices_fair.cas, fairChoices_fair.clock, w_frames, w_args, w_heap, w_applies, ⟨w_consts, trivial⟩, w_rest, w_case⟩
end start1
theorem witness_1 : WitnessClaimed_1 := ⟨start1.p0, start1.e0, start1.about1, start1.theMethod, start1.args0, start1.below0, start1.atStart⟩
end Jvm.Pilot.@@N@@
