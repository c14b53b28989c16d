import JvmDerived
import JvmDerived.Pilot.@@N@@Statement
import JvmDerived.Pilot.@@N@@Code
set_option linter.unusedVariables false
set_option linter.unusedSimpArgs false
namespace Jvm.RoadKit
open Sem ClassFile Op Lib Jvm.Stand Jvm.Free Jvm.LawKit
section New
variable {p : Program} {l : Launch} {e : Env} {R : Room} {s : State} {m : MethodId} {args : Array Value} {below : List Frame} {meth : Method} {c : Code} {T : State} {locs : List Loc} {cells slots : Nat}
theorem retI (X : Stand p l e R s m args below meth c T locs cells slots) (hx : p.tables.exec = Jvm.exec) {pc : Nat} {Ls : Array Slot} {z : Int32} {rest : List Value} (hret : meth.sig.returnType = some .int) (hd : decode c.code pc = .ok (.ireturn, 1)) {fs : List Frame}
    (hl : ∀ (f : JFrame) (acts : List Action), f.method = m → f.locked = none → f.entered = [] → (doReturn e (T.setTop f) acts (some (.int z))).1 = T.setFrames fs) : Steps p.tables e below (T.setTop (mkF m pc Ls (.int z :: rest))) (T.setFrames fs) := by
  have hm' : T.vm.method? m = some meth := X.method'
  have hn : narrow .int (.int z) = .int z := rfl
  show Steps p.tables e below (T.setTop { method := m, pc := pc, locals := Ls, stack := _ :: rest, locked := none }) _
  jvm_step X.here [X.here.top, hx, hd, hm', hret, hn]
  first | (intro acts; rw [hl _ acts rfl rfl rfl]) | rw [hl _ _ rfl rfl rfl]
  exact Steps.refl _
end New
/-- the run comes, from the state U, to an end at which Q holds -/
def Go (tb : Tables) (e : Env) (below : List Frame) (Q : Outcome → State → Prop) (U : State) : Prop := ∃ s₂ o, Steps tb e below U s₂ ∧ s₂.status = .running ∧ Ended s₂ below o ∧ Q o s₂
theorem Go.on {tb : Tables} {e : Env} {below : List Frame} {Q : Outcome → State → Prop} {A B : State} (h : ∀ t, Steps tb e below B t → Steps tb e below A t) (k : Go tb e below Q B) : Go tb e below Q A := by
  obtain ⟨s₂, o, h1, h2⟩ := k
  exact ⟨s₂, o, h _ h1, h2⟩
end Jvm.RoadKit
/- laws to paste: Road.backV (cut by pick.py; bodies as the Statement names them) -/
namespace Jvm.Pilot.@@N@@
namespace StrChars
open Jvm Sem ClassFile Op Lib Jvm.Stand Jvm.Free.XT Jvm.Free.ALB Jvm.Free.JM Jvm.Free
open Jvm.Lib.Cold (StaticIs)
/-- a char array whose places are chars -/
def Ch (a : Addr) (A : Cell) (U : State) : Prop := Arr .char a A U ∧ Typed .char A
theorem Ch.mv {a : Addr} {A : Cell} {U U' : State} (h : Ch a A U) (hal : U.vm.Alike U'.vm) (hh : U'.heap = U.heap) : Ch a A U' := ⟨h.1.mv hal hh, h.2⟩
theorem Ch.keep {a : Addr} {A : Cell} {U U' : State} (h : Ch a A U) (hal : U.vm.Alike U'.vm) (hk : U'.heap[a]? = some A) : Ch a A U' := ⟨h.1.keep hal hk, h.2⟩
/-- what place i of a char[]'s cell holds -/
def cv (A : Cell) (i : Nat) : Int32 := match A.slots[i]? with | some (.int x) => x | _ => 0
theorem Ch.get {a : Addr} {A : Cell} {U : State} (h : Ch a A U) {i : Nat} (hi : i < A.slots.size) : A.slots[i]? = some (.int (cv A i)) := by
  have e := Array.getElem?_eq_getElem hi
  have f := h.2 i _ e
  unfold cv; rw [e]
  generalize A.slots[i] = v at f
  cases v <;> simp [fits] at f ⊢
/-- the byte that i2b leaves of a char -/
def lo8 (x : Int32) : Int32 := x.toInt8.toInt32
theorem fits_lo8 (y : Int32) : fits .byte (.int (lo8 y)) = true := by
  have h1 := y.toInt8.le_toInt
  have h2 := y.toInt8.toInt_lt
  simp only [lo8, fits, Bool.and_eq_true, decide_eq_true_eq, Int32.le_iff_toInt_le, Int8.toInt_toInt32, show (-128 : Int32).toInt = -128 from by decide, show (127 : Int32).toInt = 127 from by decide]
  omega
/-- A' is A but that each place j of lo .. hi - 1 holds f j -/
def Laid (A A' : Cell) (lo hi : Nat) (f : Nat → Value) : Prop := A'.cls = A.cls ∧ A'.vm = A.vm ∧ A'.slots.size = A.slots.size ∧ ∀ i, A'.slots[i]? = if lo ≤ i ∧ i < hi then some (f i) else A.slots[i]?
theorem Laid.zero (A : Cell) (lo : Nat) (f : Nat → Value) : Laid A A lo (lo + 0) f := ⟨rfl, rfl, rfl, fun i => by rw [if_neg (by omega)]⟩
theorem Laid.step {A Ak : Cell} {lo k : Nat} {f : Nat → Value} {v : Value} (h : Laid A Ak lo k f) (hlo : lo ≤ k) (hk : k < Ak.slots.size) (hv : v = f k) : Laid A (Ak.setSlot k v) lo (k + 1) f := by
  refine ⟨h.1, h.2.1, by simpa [Cell.setSlot] using h.2.2.1, fun i => ?_⟩
  by_cases e : k = i
  · subst e; rw [Cell.slots_setSlot_self v hk, if_pos (by omega), hv]
  · rw [Cell.slots_setSlot_ne v e, h.2.2.2 i]
    by_cases q : lo ≤ i ∧ i < k
    · rw [if_pos q, if_pos (by omega)]
    · rw [if_neg q, if_neg (by omega)]
def U16 : String := "java/lang/StringUTF16"
namespace Cmp5
def yN : MethodName := ⟨"java/lang/StringUTF16", "compress", "([CI[BII)I"⟩
abbrev yB : ByteArray := jdk_52_method_21_code
theorem d0 : decode yB 0 = .ok (.iconst 0, 1) := by decide +kernel
theorem d1 : decode yB 1 = .ok (.istore 5, 2) := by decide +kernel
theorem d3 : decode yB 3 = .ok (.iload 5, 2) := by decide +kernel
theorem d5 : decode yB 5 = .ok (.iload 4, 2) := by decide +kernel
theorem d7 : decode yB 7 = .ok (.if_icmp (.ge) 37, 3) := by decide +kernel
theorem d10 : decode yB 10 = .ok (.aload_n 0, 1) := by decide +kernel
theorem d11 : decode yB 11 = .ok (.iload_n 1, 1) := by decide +kernel
theorem d12 : decode yB 12 = .ok (.caload, 1) := by decide +kernel
theorem d13 : decode yB 13 = .ok (.istore 6, 2) := by decide +kernel
theorem d15 : decode yB 15 = .ok (.iload 6, 2) := by decide +kernel
theorem d17 : decode yB 17 = .ok (.sipush 255, 3) := by decide +kernel
theorem d20 : decode yB 20 = .ok (.if_icmp (.le) 6, 3) := by decide +kernel
theorem d26 : decode yB 26 = .ok (.aload_n 2, 1) := by decide +kernel
theorem d27 : decode yB 27 = .ok (.iload_n 3, 1) := by decide +kernel
theorem d28 : decode yB 28 = .ok (.iload 6, 2) := by decide +kernel
theorem d30 : decode yB 30 = .ok (.i2b, 1) := by decide +kernel
theorem d31 : decode yB 31 = .ok (.bastore, 1) := by decide +kernel
theorem d32 : decode yB 32 = .ok (.iinc 1 1, 3) := by decide +kernel
theorem d35 : decode yB 35 = .ok (.iinc 3 1, 3) := by decide +kernel
theorem d38 : decode yB 38 = .ok (.iinc 5 1, 3) := by decide +kernel
theorem d41 : decode yB 41 = .ok (.goto (-38), 3) := by decide +kernel
theorem d44 : decode yB 44 = .ok (.iload 4, 2) := by decide +kernel
theorem d46 : decode yB 46 = .ok (.ireturn, 1) := by decide +kernel
def site : List Cond := []
def tab : Cond := tabOf yN yB 7 (some .int) site
def P (b : Addr) (A : Cell) (d : Addr) (B : Cell) (o q len : Nat) (args : Array Value) (s : State) : Prop := args = #[.ref b, .int (Int32.ofNat o), .ref d, .int (Int32.ofNat q), .int (Int32.ofNat len)] ∧ Ch b A s ∧ Arr .byte d B s ∧ b ≠ d ∧ o + len ≤ A.slots.size ∧ q + len ≤ B.slots.size ∧ ∀ i, i < len → ¬ 255 < cv A (o + i)
def E (b : Addr) (A : Cell) (d : Addr) (B : Cell) (o q len : Nat) (r : Option Value) (s u : State) : Prop := r = some (.int (Int32.ofNat len)) ∧ ∃ B', Put d B' s u ∧ Laid B B' q (q + len) (fun j => Value.int (lo8 (cv A (o + (j - q)))))
/-- no char of the range above 255: len; the places written hold each char's low byte -/
theorem law (l : Launch) (b : Addr) (A : Cell) (d : Addr) (B : Cell) (o q len : Nat) : Law l yN 5 5 0 0 yB 7 (some .int) site (P b A d B o q len) (E b A d B o q len) (copyLocs d q len) 0 0 := by
  refine Law.of_walk (plainFor_of_name (by decide +kernel)) (by decide +kernel) (by decide +kernel) (by decide) (fun _ _ h => by rw [h.1]; rfl) (fun _ U U' hal hh h => ⟨h.1, h.2.1.mv hal hh, h.2.2.1.mv hal hh, h.2.2.2⟩) (fun r U U' V V' h1 hal h2 h => ⟨h.1, h.2.elim fun B' q => ⟨B', q.1.mv h1 h2, q.2⟩⟩) ?_
  intro p e s m args below meth c s₁ X0 hexec hbytes hml hret hlk hnm hown hh0 W hP
  obtain ⟨rfl, hA, hB, hne, l1, l2, hp⟩ := hP
  have c1 : Steps p.tables e below (s₁.setTop (entryFrame m #[.ref b, .int (Int32.ofNat o), .ref d, .int (Int32.ofNat q), .int (Int32.ofNat len)] 7)) (s₁.setTop (mkF m 0 #[.val (.ref b), .val (.int (Int32.ofNat o)), .val (.ref d), .val (.int (Int32.ofNat q)), .val (.int (Int32.ofNat len)), .unset, .unset] [])) := entry rfl
  have hA0 := hA.1.mv X0.warmed.alike hh0
  have hB0 := hB.mv X0.warmed.alike hh0
  have a31 := hA.1.2.2.2
  have c2 : Steps p.tables e below (s₁.setTop (entryFrame m #[.ref b, .int (Int32.ofNat o), .ref d, .int (Int32.ofNat q), .int (Int32.ofNat len)] 7)) (s₁.setTop (mkF m 3 #[.val (.ref b), .val (.int (Int32.ofNat o)), .val (.ref d), .val (.int (Int32.ofNat q)), .val (.int (Int32.ofNat len)), .val (.int 0), .unset] [])) := c1.trans (by
    refine iconstV X0.here hexec rfl 0 (hb hbytes d0) (by decide) ?_
    refine XS.istore X0.here hexec rfl (hb hbytes d1) rfl rfl ?_
    exact Steps.refl _)
  have loop : ∀ (r i : Nat), i + r = len → ∀ (z : Slot), (z = .unset ∨ ∃ w, z = .val w ∧ w.category = 1) → ∀ (Tl : State) (Bk : Cell), Stand p l e { frames := 0, locals := 0, cells := 0, slots := 0 } s m #[.ref b, .int (Int32.ofNat o), .ref d, .int (Int32.ofNat q), .int (Int32.ofNat len)] below meth c Tl ([] ++ copyLocs d q i) 0 0 → Put d Bk s₁ Tl → Laid B Bk q (q + i) (fun j => Value.int (lo8 (cv A (o + (j - q))))) →
      Steps p.tables e below (s₁.setTop (entryFrame m #[.ref b, .int (Int32.ofNat o), .ref d, .int (Int32.ofNat q), .int (Int32.ofNat len)] 7)) (Tl.setTop (mkF m 3 #[.val (.ref b), .val (.int (Int32.ofNat (o + i))), .val (.ref d), .val (.int (Int32.ofNat (q + i))), .val (.int (Int32.ofNat len)), .val (.int (Int32.ofNat i)), z] [])) → ∃ (T' : State) (B' : Cell) (z' : Slot), Stand p l e { frames := 0, locals := 0, cells := 0, slots := 0 } s m #[.ref b, .int (Int32.ofNat o), .ref d, .int (Int32.ofNat q), .int (Int32.ofNat len)] below meth c T' ([] ++ copyLocs d q len) 0 0 ∧ Put d B' s₁ T' ∧ Laid B B' q (q + len) (fun j => Value.int (lo8 (cv A (o + (j - q))))) ∧
      Steps p.tables e below (s₁.setTop (entryFrame m #[.ref b, .int (Int32.ofNat o), .ref d, .int (Int32.ofNat q), .int (Int32.ofNat len)] 7)) (T'.setTop (mkF m 3 #[.val (.ref b), .val (.int (Int32.ofNat (o + len))), .val (.ref d), .val (.int (Int32.ofNat (q + len))), .val (.int (Int32.ofNat len)), .val (.int (Int32.ofNat len)), z'] [])) := by
    intro r
    induction r with
    | zero =>
      intro i hi z hz Tl Bk Xl pl fl cl
      have hil : i = len := by omega
      rw [hil] at Xl fl cl
      exact ⟨Tl, Bk, z, Xl, pl, fl, cl⟩
    | succ r ih =>
      intro i hi z hz Tl Bk Xl pl fl cl
      have all := X0.warmed.alike.symm.trans Xl.warmed.alike
      have hAl := hA0.keep all (pl.other hne hA0.1)
      have hBk := hB0.like all pl.1 fl.1 fl.2.1 fl.2.2.1
      have hlt : q + i < Bk.slots.size := by rw [fl.2.2.1]; omega
      have c3 : Steps p.tables e below (s₁.setTop (entryFrame m #[.ref b, .int (Int32.ofNat o), .ref d, .int (Int32.ofNat q), .int (Int32.ofNat len)] 7)) (Tl.setTop (mkF m 12 #[.val (.ref b), .val (.int (Int32.ofNat (o + i))), .val (.ref d), .val (.int (Int32.ofNat (q + i))), .val (.int (Int32.ofNat len)), .val (.int (Int32.ofNat i)), z] [.int (Int32.ofNat (o + i)), .ref b])) := cl.trans (by
        refine XS.iload Xl.here hexec rfl (hb hbytes d3) rfl ?_
        refine XS.iload Xl.here hexec rfl (hb hbytes d5) rfl ?_
        refine XS.icmpNo Xl.here hexec rfl (hb hbytes d7) rfl (ii_ge_f (lt32 (by omega) (by omega))) ?_
        refine XS.aloadN Xl.here hexec rfl (hb hbytes d10) rfl rfl ?_
        refine XS.iloadN Xl.here hexec rfl (hb hbytes d11) rfl ?_
        exact Steps.refl _)
      have c4 : Steps p.tables e below (s₁.setTop (entryFrame m #[.ref b, .int (Int32.ofNat o), .ref d, .int (Int32.ofNat q), .int (Int32.ofNat len)] 7)) (Tl.setTop (mkF m 13 #[.val (.ref b), .val (.int (Int32.ofNat (o + i))), .val (.ref d), .val (.int (Int32.ofNat (q + i))), .val (.int (Int32.ofNat len)), .val (.int (Int32.ofNat i)), z] [.int (cv A (o + i))])) := c3.trans (by
        refine Xl.aget hexec hAl rfl (hA.get (i := o + i) (by omega)) rfl rfl (hb hbytes d12) ?_
        exact Steps.refl _)
      have c5 : Steps p.tables e below (s₁.setTop (entryFrame m #[.ref b, .int (Int32.ofNat o), .ref d, .int (Int32.ofNat q), .int (Int32.ofNat len)] 7)) (Tl.setTop (mkF m 15 #[.val (.ref b), .val (.int (Int32.ofNat (o + i))), .val (.ref d), .val (.int (Int32.ofNat (q + i))), .val (.int (Int32.ofNat len)), .val (.int (Int32.ofNat i)), .val (.int (cv A (o + i)))] [])) := c4.trans (by
        refine XS.istoreS Xl.here hexec rfl (hb hbytes d13) rfl rfl hz ?_
        exact Steps.refl _)
      have c6 : Steps p.tables e below (s₁.setTop (entryFrame m #[.ref b, .int (Int32.ofNat o), .ref d, .int (Int32.ofNat q), .int (Int32.ofNat len)] 7)) (Tl.setTop (mkF m 31 #[.val (.ref b), .val (.int (Int32.ofNat (o + i))), .val (.ref d), .val (.int (Int32.ofNat (q + i))), .val (.int (Int32.ofNat len)), .val (.int (Int32.ofNat i)), .val (.int (cv A (o + i)))] [.int (lo8 (cv A (o + i))), .int (Int32.ofNat (q + i)), .ref d])) := c5.trans (by
        refine XS.iload Xl.here hexec rfl (hb hbytes d15) rfl ?_
        refine sipushV Xl.here hexec rfl 255 (hb hbytes d17) (by decide) ?_
        refine XS.icmpYes Xl.here hexec rfl (pc0 := 20) rfl (hb hbytes d20) rfl (ii_le_t (hp i (by omega))) (by decide) rfl ?_
        refine XS.aloadN Xl.here hexec rfl (hb hbytes d26) rfl rfl ?_
        refine XS.iloadN Xl.here hexec rfl (hb hbytes d27) rfl ?_
        refine XS.iload Xl.here hexec rfl (hb hbytes d28) rfl ?_
        refine i2b Xl.here hexec rfl (hb hbytes d30) rfl ?_
        exact Steps.refl _)
      obtain ⟨T7, X7, p7, st7⟩ := Xl.aput hexec hBk rfl hlt rfl (fits_lo8 (cv A (o + i))) (g := (mkF m 31 #[.val (.ref b), .val (.int (Int32.ofNat (o + i))), .val (.ref d), .val (.int (Int32.ofNat (q + i))), .val (.int (Int32.ofNat len)), .val (.int (Int32.ofNat i)), .val (.int (cv A (o + i)))] [.int (lo8 (cv A (o + i))), .int (Int32.ofNat (q + i)), .ref d])) rfl (rest := []) rfl (hb hbytes d31)
      have c8 : Steps p.tables e below (s₁.setTop (entryFrame m #[.ref b, .int (Int32.ofNat o), .ref d, .int (Int32.ofNat q), .int (Int32.ofNat len)] 7)) (T7.setTop (mkF m 32 #[.val (.ref b), .val (.int (Int32.ofNat (o + i))), .val (.ref d), .val (.int (Int32.ofNat (q + i))), .val (.int (Int32.ofNat len)), .val (.int (Int32.ofNat i)), .val (.int (cv A (o + i)))] [])) := c6.trans (st7 _ (Steps.refl _))
      have c9 : Steps p.tables e below (s₁.setTop (entryFrame m #[.ref b, .int (Int32.ofNat o), .ref d, .int (Int32.ofNat q), .int (Int32.ofNat len)] 7)) (T7.setTop (mkF m 3 #[.val (.ref b), .val (.int (Int32.ofNat (o + i) + 1)), .val (.ref d), .val (.int (Int32.ofNat (q + i) + 1)), .val (.int (Int32.ofNat len)), .val (.int (Int32.ofNat i + 1)), .val (.int (cv A (o + i)))] [])) := c8.trans (by
        refine iincV X7.here hexec rfl 1 (hb hbytes d32) (by decide) rfl rfl ?_
        refine iincV X7.here hexec rfl 1 (hb hbytes d35) (by decide) rfl rfl ?_
        refine iincV X7.here hexec rfl 1 (hb hbytes d38) (by decide) rfl rfl ?_
        refine XS.goto X7.here hexec rfl (pc0 := 41) rfl (hb hbytes d41) (by decide) rfl ?_
        exact Steps.refl _)
      have c10 : Steps p.tables e below (s₁.setTop (entryFrame m #[.ref b, .int (Int32.ofNat o), .ref d, .int (Int32.ofNat q), .int (Int32.ofNat len)] 7)) (T7.setTop (mkF m 3 #[.val (.ref b), .val (.int (Int32.ofNat (o + (i + 1)))), .val (.ref d), .val (.int (Int32.ofNat (q + (i + 1)))), .val (.int (Int32.ofNat len)), .val (.int (Int32.ofNat (i + 1))), .val (.int (cv A (o + i)))] [])) := by
        have := c9
        rw [succ32, succ32, succ32] at this
        exact this
      exact ih (i + 1) (by omega) _ (Or.inr ⟨_, rfl, rfl⟩) T7 _ (by rw [copyLocs_step, ← List.append_assoc]; exact X7) (pl.trans p7) (fl.step (by omega) hlt (by simp)) c10
  obtain ⟨T9, B9, z9, X9, p9, f9, g9⟩ := loop len 0 (by omega) .unset (Or.inl rfl) s₁ B (by simpa [copyLocs] using X0) ⟨hB0.1, fun _ _ => rfl, rfl⟩ (Laid.zero _ _ _) c2
  have c11 : Steps p.tables e below (s₁.setTop (entryFrame m #[.ref b, .int (Int32.ofNat o), .ref d, .int (Int32.ofNat q), .int (Int32.ofNat len)] 7)) (T9.setTop (mkF m 46 #[.val (.ref b), .val (.int (Int32.ofNat (o + len))), .val (.ref d), .val (.int (Int32.ofNat (q + len))), .val (.int (Int32.ofNat len)), .val (.int (Int32.ofNat len)), z9] [.int (Int32.ofNat len)])) := g9.trans (by
    refine XS.iload X9.here hexec rfl (hb hbytes d3) rfl ?_
    refine XS.iload X9.here hexec rfl (hb hbytes d5) rfl ?_
    refine XS.icmpYes X9.here hexec rfl (pc0 := 7) rfl (hb hbytes d7) rfl (ii_ge_t (nlt32 (by omega) (Nat.le_refl _))) (by decide) rfl ?_
    refine XS.iload X9.here hexec rfl (hb hbytes d44) rfl ?_
    exact Steps.refl _)
  exact ⟨T9, some (.int (Int32.ofNat len)), _, _, _, X9, by simp, rfl, rfl, (fun h => by cases h), ⟨rfl, B9, p9.from hh0, f9⟩, fun fs hl => c11.trans (X9.ireturnOut hexec hret rfl (Or.inl rfl) (hb hbytes d46) hl)⟩
end Cmp5
namespace Cmp3
def yN : MethodName := ⟨"java/lang/StringUTF16", "compress", "([CII)[B"⟩
abbrev yB : ByteArray := jdk_52_method_16_code
theorem d0 : decode yB 0 = .ok (.iload_n 2, 1) := by decide +kernel
theorem d1 : decode yB 1 = .ok (.newarray .byte, 2) := by decide +kernel
theorem d3 : decode yB 3 = .ok (.astore_n 3, 1) := by decide +kernel
theorem d4 : decode yB 4 = .ok (.aload_n 0, 1) := by decide +kernel
theorem d5 : decode yB 5 = .ok (.iload_n 1, 1) := by decide +kernel
theorem d6 : decode yB 6 = .ok (.aload_n 3, 1) := by decide +kernel
theorem d7 : decode yB 7 = .ok (.iconst 0, 1) := by decide +kernel
theorem d8 : decode yB 8 = .ok (.iload_n 2, 1) := by decide +kernel
theorem d9 : decode yB 9 = .ok (.invokestatic 115, 3) := by decide +kernel
theorem d12 : decode yB 12 = .ok (.istore 4, 2) := by decide +kernel
theorem d14 : decode yB 14 = .ok (.iload 4, 2) := by decide +kernel
theorem d16 : decode yB 16 = .ok (.iload_n 2, 1) := by decide +kernel
theorem d17 : decode yB 17 = .ok (.if_icmp (.eq) 40, 3) := by decide +kernel
theorem d57 : decode yB 57 = .ok (.aload_n 3, 1) := by decide +kernel
theorem d58 : decode yB 58 = .ok (.areturn, 1) := by decide +kernel
def site : List Cond := [.arrayClass .byte, Cmp5.tab] ++ staticW U16 115 Cmp5.yN
def tab : Cond := tabOf yN yB 6 (some (.array .byte)) site
def P (b : Addr) (A : Cell) (o len : Nat) (args : Array Value) (s : State) : Prop := args = #[.ref b, .int (Int32.ofNat o), .int (Int32.ofNat len)] ∧ Ch b A s ∧ o + len ≤ A.slots.size ∧ len ≤ 536870912 ∧ ∀ i, i < len → ¬ 255 < cv A (o + i)
def E (b : Addr) (A : Cell) (o len : Nat) (r : Option Value) (s u : State) : Prop := NewArr .byte "[B" len (fun j => .int (lo8 (cv A (o + j)))) r s u ∧ u.heap.size = s.heap.size + 1
/-- no char of the range above 255: a new byte[] of their low bytes -/
theorem law (l : Launch) (b : Addr) (A : Cell) (o len : Nat) : Law l yN 3 3 1 18 yB 6 (some (.array .byte)) site (P b A o len) (E b A o len) [] 1 len := by
  refine Law.of_walk (plainFor_of_name (by decide +kernel)) (by decide +kernel) (by decide +kernel) (by decide) (fun _ _ h => by rw [h.1]; rfl) (fun _ U U' hal hh h => ⟨h.1, h.2.1.mv hal hh, h.2.2⟩) (fun r U U' V V' h1 hal h2 h => ⟨NewArr.mv r U U' V V' h1 hal h2 h.1, by rw [h1, h2]; exact h.2⟩) ?_
  intro p e s m args below meth c s₁ X0 hexec hbytes hml hret hlk hnm hown hh0 W hP
  obtain ⟨rfl, hA, l1, l2, hp⟩ := hP
  have a31 := hA.1.2.2.2
  have c1 : Steps p.tables e below (s₁.setTop (entryFrame m #[.ref b, .int (Int32.ofNat o), .int (Int32.ofNat len)] 6)) (s₁.setTop (mkF m 0 #[.val (.ref b), .val (.int (Int32.ofNat o)), .val (.int (Int32.ofNat len)), .unset, .unset, .unset] [])) := entry rfl
  have c2 : Steps p.tables e below (s₁.setTop (entryFrame m #[.ref b, .int (Int32.ofNat o), .int (Int32.ofNat len)] 6)) (s₁.setTop (mkF m 1 #[.val (.ref b), .val (.int (Int32.ofNat o)), .val (.int (Int32.ofNat len)), .unset, .unset, .unset] [.int (Int32.ofNat len)])) := c1.trans (by
    refine XS.iloadN X0.here hexec rfl (hb hbytes d0) rfl ?_
    exact Steps.refl _)
  obtain ⟨T3, B3, X3, ba3, bs3, bv3, bh3, bf3, st3⟩ := X0.anew hexec (atype := .byte) (wk W (.arrayClass .byte)) rfl (by show len * 1 ≤ _; omega) (by omega) (g := (mkF m 1 #[.val (.ref b), .val (.int (Int32.ofNat o)), .val (.int (Int32.ofNat len)), .unset, .unset, .unset] [.int (Int32.ofNat len)])) rfl (hb hbytes d1) (rest := []) rfl (Nat.le_refl _) (by show 0 + len ≤ len; omega)
  rw [hh0] at ba3 st3
  have kp3 : XT.Kept s T3 := (XT.Kept.of_eq hh0).push bh3
  have hA3 := hA.keep X3.warmed.alike (kp3 _ _ hA.1.1)
  have hne : b ≠ s.heap.size := hA.1.ne
  have c4 : Steps p.tables e below (s₁.setTop (entryFrame m #[.ref b, .int (Int32.ofNat o), .int (Int32.ofNat len)] 6)) (T3.setTop (mkF m 3 #[.val (.ref b), .val (.int (Int32.ofNat o)), .val (.int (Int32.ofNat len)), .unset, .unset, .unset] [.ref s.heap.size])) := c2.trans (st3 _ (Steps.refl _))
  have c5 : Steps p.tables e below (s₁.setTop (entryFrame m #[.ref b, .int (Int32.ofNat o), .int (Int32.ofNat len)] 6)) (T3.setTop (mkF m 9 #[.val (.ref b), .val (.int (Int32.ofNat o)), .val (.int (Int32.ofNat len)), .val (.ref s.heap.size), .unset, .unset] [.int (Int32.ofNat len), .int 0, .ref s.heap.size, .int (Int32.ofNat o), .ref b])) := c4.trans (by
    refine XS.astoreN X3.here hexec rfl (hb hbytes d3) rfl rfl rfl ?_
    refine XS.aloadN X3.here hexec rfl (hb hbytes d4) rfl rfl ?_
    refine XS.iloadN X3.here hexec rfl (hb hbytes d5) rfl ?_
    refine XS.aloadN X3.here hexec rfl (hb hbytes d6) rfl rfl ?_
    refine iconstV X3.here hexec rfl 0 (hb hbytes d7) (by decide) ?_
    refine XS.iloadN X3.here hexec rfl (hb hbytes d8) rfl ?_
    exact Steps.refl _)
  obtain ⟨v6, T6, X6, E6, g6⟩ := X3.callS hexec (Cmp5.law l b A s.heap.size B3 o 0 len) hown (wks W (staticW U16 115 Cmp5.yN)) (wk W Cmp5.tab) (W := 0) (Nat.le_of_ble_eq_true rfl) (Nat.le_of_ble_eq_true rfl) (Nat.le_refl _) (by show 0 + len + 0 ≤ len; omega) (g := (mkF m 9 #[.val (.ref b), .val (.int (Int32.ofNat o)), .val (.int (Int32.ofNat len)), .val (.ref s.heap.size), .unset, .unset] [.int (Int32.ofNat len), .int (Int32.ofNat 0), .ref s.heap.size, .int (Int32.ofNat o), .ref b])) rfl (by rw [hml]; rfl) c5 (argsL := [.ref b, .int (Int32.ofNat o), .ref s.heap.size, .int (Int32.ofNat 0), .int (Int32.ofNat len)]) (rest := []) rfl rfl (by show 2 * 0 + 0 ≤ _; decide) (hb hbytes d9) (⟨rfl, hA3, ba3, hne, l1, by rw [bs3]; simp, hp⟩)
  obtain ⟨rfl, B6, p6, f6⟩ := E6
  have c7 : Steps p.tables e below (s₁.setTop (entryFrame m #[.ref b, .int (Int32.ofNat o), .int (Int32.ofNat len)] 6)) (T6.setTop (mkF m 12 #[.val (.ref b), .val (.int (Int32.ofNat o)), .val (.int (Int32.ofNat len)), .val (.ref s.heap.size), .unset, .unset] [.int (Int32.ofNat len)])) := g6
  have c8 : Steps p.tables e below (s₁.setTop (entryFrame m #[.ref b, .int (Int32.ofNat o), .int (Int32.ofNat len)] 6)) (T6.setTop (mkF m 58 #[.val (.ref b), .val (.int (Int32.ofNat o)), .val (.int (Int32.ofNat len)), .val (.ref s.heap.size), .val (.int (Int32.ofNat len)), .unset] [.ref s.heap.size])) := c7.trans (by
    refine XS.istore X6.here hexec rfl (hb hbytes d12) rfl rfl ?_
    refine XS.iload X6.here hexec rfl (hb hbytes d14) rfl ?_
    refine XS.iloadN X6.here hexec rfl (hb hbytes d16) rfl ?_
    refine XS.icmpYes X6.here hexec rfl (pc0 := 17) rfl (hb hbytes d17) rfl (ii_eq_t rfl) (by decide) rfl ?_
    refine XS.aloadN X6.here hexec rfl (hb hbytes d57) rfl rfl ?_
    exact Steps.refl _)
  have X8 := X6.wide (L' := []) (cells' := 1) (slots' := len) (fun x hx hlt => by
    simp only [List.nil_append, copyLocs, List.mem_map, List.mem_range] at hx
    obtain ⟨i, -, rfl⟩ := hx
    exact absurd hlt (Nat.lt_irrefl _)) (Nat.le_refl _) (by omega)
  exact ⟨T6, some (.ref s.heap.size), _, _, _, X8, rfl, rfl, rfl, (fun h => by cases h), ⟨⟨rfl, B6, ba3.like (X3.warmed.alike.symm.trans X6.warmed.alike) p6.1 f6.1 f6.2.1 f6.2.2.1, f6.2.1.trans bv3, by rw [X6.warmed.alike.findClass, f6.1]; exact bf3, by rw [f6.2.2.1, bs3]; simp, fun j hj => by rw [f6.2.2.2 j, if_pos (by omega)]; rfl, kp3.put p6 (Nat.le_refl _)⟩, by rw [p6.2.2, bh3, hh0]; simp⟩, fun fs hl => c8.trans (X8.areturnOut hexec rfl hret rfl (hb hbytes d58) hl)⟩
end Cmp3
namespace CodL
def yN : MethodName := ⟨"java/lang/StringUTF16", "coderFromArrayLen", "([BI)B"⟩
abbrev yB : ByteArray := jdk_52_method_15_code
theorem d0 : decode yB 0 = .ok (.iload_n 1, 1) := by decide +kernel
theorem d1 : decode yB 1 = .ok (.aload_n 0, 1) := by decide +kernel
theorem d2 : decode yB 2 = .ok (.arraylength, 1) := by decide +kernel
theorem d3 : decode yB 3 = .ok (.isub, 1) := by decide +kernel
theorem d4 : decode yB 4 = .ok (.bipush 31, 2) := by decide +kernel
theorem d6 : decode yB 6 = .ok (.iushr, 1) := by decide +kernel
theorem d7 : decode yB 7 = .ok (.i2b, 1) := by decide +kernel
theorem d8 : decode yB 8 = .ok (.ireturn, 1) := by decide +kernel
def site : List Cond := []
def tab : Cond := tabOf yN yB 2 (some .byte) site
def P (d : Addr) (B : Cell) (args : Array Value) (s : State) : Prop := args = #[.ref d, .int (Int32.ofNat B.slots.size)] ∧ Arr .byte d B s
def E (r : Option Value) (s u : State) : Prop := XT.PureE (some (.int 0)) r s u
/-- an array as long as the number of chars: LATIN1 -/
theorem law (l : Launch) (d : Addr) (B : Cell) : Law l yN 2 2 0 0 yB 2 (some .byte) site (P d B) E [] 0 0 := by
  refine Law.of_walk (plainFor_of_name (by decide +kernel)) (by decide +kernel) (by decide +kernel) (by decide) (fun _ _ h => by rw [h.1]; rfl) (fun _ U U' hal hh h => ⟨h.1, h.2.mv hal hh⟩) (fun r U U' V V' h1 hal h2 h => XT.PureE.mv r U U' V V' h1 hal h2 h) ?_
  intro p e s m args below meth c s₁ X0 hexec hbytes hml hret hlk hnm hown hh0 W hP
  obtain ⟨rfl, hB⟩ := hP
  have hB0 := hB.mv X0.warmed.alike hh0
  have c1 : Steps p.tables e below (s₁.setTop (entryFrame m #[.ref d, .int (Int32.ofNat B.slots.size)] 2)) (s₁.setTop (mkF m 0 #[.val (.ref d), .val (.int (Int32.ofNat B.slots.size))] [])) := entry rfl
  have c2 : Steps p.tables e below (s₁.setTop (entryFrame m #[.ref d, .int (Int32.ofNat B.slots.size)] 2)) (s₁.setTop (mkF m 2 #[.val (.ref d), .val (.int (Int32.ofNat B.slots.size))] [.ref d, .int (Int32.ofNat B.slots.size)])) := c1.trans (by
    refine XS.iloadN X0.here hexec rfl (hb hbytes d0) rfl ?_
    refine XS.aloadN X0.here hexec rfl (hb hbytes d1) rfl rfl ?_
    exact Steps.refl _)
  have c3 : Steps p.tables e below (s₁.setTop (entryFrame m #[.ref d, .int (Int32.ofNat B.slots.size)] 2)) (s₁.setTop (mkF m 8 #[.val (.ref d), .val (.int (Int32.ofNat B.slots.size))] [.int (lo8 (ushr (Int32.ofNat B.slots.size - Int32.ofNat B.slots.size) 31))])) := c2.trans (by
    refine X0.alen hexec hB0 rfl rfl (hb hbytes d2) ?_
    refine XS.isub X0.here hexec rfl (hb hbytes d3) rfl ?_
    refine bipushV X0.here hexec rfl 31 (hb hbytes d4) (by decide) ?_
    refine iushr X0.here hexec rfl (hb hbytes d6) rfl ?_
    refine i2b X0.here hexec rfl (hb hbytes d7) rfl ?_
    exact Steps.refl _)
  have e0 : lo8 (ushr (Int32.ofNat B.slots.size - Int32.ofNat B.slots.size) 31) = 0 := by rw [Int32.sub_self]; decide
  rw [e0] at c3
  exact ⟨s₁, some (.int 0), _, _, _, X0, rfl, rfl, rfl, (fun h => by cases h), ⟨rfl, hh0⟩, fun fs hl => c3.trans (X0.ireturnOut hexec hret rfl (Or.inr (Or.inr (Or.inl rfl))) (hb hbytes d8) hl)⟩
end CodL
/-- the String at a is Latin-1 over a new byte[] (the heap's one new cell): the low bytes of the len chars of A from o on; every cell but a is kept -/
def Got (a : Addr) (D : Cell) (fV fC : Field) (A : Cell) (o len : Nat) (r : Option Value) (s u : State) : Prop := r = none ∧ ∃ D' V : Cell, Blank "java/lang/String" a D' u ∧ Same D D' [fV.slot, fC.slot] ∧ D'.slots[fV.slot]? = some (.ref s.heap.size) ∧ D'.slots[fC.slot]? = some (.int 0) ∧ Arr .byte s.heap.size V u ∧ V.vm = .none ∧ u.vm.findClass "[B" = some V.cls ∧ V.slots.size = len ∧ (∀ j, j < len → V.slots[j]? = some (.int (lo8 (cv A (o + j))))) ∧ (∀ (y : Addr) (c : Cell), y ≠ a → s.heap[y]? = some c → u.heap[y]? = some c) ∧ u.heap.size = s.heap.size + 1
theorem Got.mv {a : Addr} {D A : Cell} {fV fC : Field} {o len : Nat} : ∀ r (U U' V V' : State), U'.heap = U.heap → V.vm.Alike V'.vm → V'.heap = V.heap → Got a D fV fC A o len r U V → Got a D fV fC A o len r U' V' :=
  fun r U U' V V' h1 hal h2 ⟨e0, D', X, a1, a2, a3, a4, a5, a6, a7, a8, a9, a10, a11⟩ => ⟨e0, D', X, a1.mv hal h2, a2, by rw [h1]; exact a3, a4, by rw [h1]; exact a5.mv hal h2, a6, by rw [hal.findClass]; exact a7, a8, a9, by rw [h1, h2]; exact a10, by rw [h1, h2]; exact a11⟩
namespace New4
def yN : MethodName := ⟨"java/lang/String", "<init>", "([CIILjava/lang/Void;)V"⟩
abbrev yB : ByteArray := jdk_42_method_149_code
theorem d0 : decode yB 0 = .ok (.aload_n 0, 1) := by decide +kernel
theorem d1 : decode yB 1 = .ok (.invokespecial 1, 3) := by decide +kernel
theorem d4 : decode yB 4 = .ok (.iload_n 3, 1) := by decide +kernel
theorem d5 : decode yB 5 = .ok (.ifCond (.ne) 22, 3) := by decide +kernel
theorem d27 : decode yB 27 = .ok (.getstatic 38, 3) := by decide +kernel
theorem d30 : decode yB 30 = .ok (.ifCond (.eq) 28, 3) := by decide +kernel
theorem d33 : decode yB 33 = .ok (.aload_n 1, 1) := by decide +kernel
theorem d34 : decode yB 34 = .ok (.iload_n 2, 1) := by decide +kernel
theorem d35 : decode yB 35 = .ok (.iload_n 3, 1) := by decide +kernel
theorem d36 : decode yB 36 = .ok (.invokestatic 177, 3) := by decide +kernel
theorem d39 : decode yB 39 = .ok (.astore 5, 2) := by decide +kernel
theorem d41 : decode yB 41 = .ok (.aload_n 0, 1) := by decide +kernel
theorem d42 : decode yB 42 = .ok (.aload 5, 2) := by decide +kernel
theorem d44 : decode yB 44 = .ok (.iload_n 3, 1) := by decide +kernel
theorem d45 : decode yB 45 = .ok (.invokestatic 47, 3) := by decide +kernel
theorem d48 : decode yB 48 = .ok (.putfield 15, 3) := by decide +kernel
theorem d51 : decode yB 51 = .ok (.aload_n 0, 1) := by decide +kernel
theorem d52 : decode yB 52 = .ok (.aload 5, 2) := by decide +kernel
theorem d54 : decode yB 54 = .ok (.putfield 9, 3) := by decide +kernel
theorem d57 : decode yB 57 = .ok (.return_, 1) := by decide +kernel
def site : List Cond := [.fieldLink "java/lang/String" 38 "java/lang/String" "COMPACT_STRINGS" "Z", Cmp3.tab, CodL.tab, .laysFinal "java/lang/String" "java/lang/String" "value" "[B", .fieldLink "java/lang/String" 9 "java/lang/String" "value" "[B", .laysFinal "java/lang/String" "java/lang/String" "coder" "B", .fieldLink "java/lang/String" 15 "java/lang/String" "coder" "B"] ++ objW "java/lang/String" 1 ++ staticW "java/lang/String" 177 Cmp3.yN ++ staticW "java/lang/String" 47 CodL.yN
def tab : Cond := tabOf yN yB 6 none site
def P (a : Addr) (D : Cell) (fV fC : Field) (b : Addr) (A : Cell) (z : Int32) (o len : Nat) (args : Array Value) (s : State) : Prop := args = #[.ref a, .ref b, .int (Int32.ofNat o), .int (Int32.ofNat len), .null] ∧ Blank "java/lang/String" a D s ∧ Found "java/lang/String" "value" "[B" fV s ∧ Found "java/lang/String" "coder" "B" fC s ∧ Ch b A s ∧ StaticIs s "java/lang/String" "COMPACT_STRINGS" "Z" (.int z) ∧ ¬ z = 0 ∧ 0 < len ∧ o + len ≤ A.slots.size ∧ len ≤ 536870912 ∧ ∀ i, i < len → ¬ 255 < cv A (o + i)
def E (a : Addr) (D : Cell) (fV fC : Field) (A : Cell) (o len : Nat) (r : Option Value) (s u : State) : Prop := Got a D fV fC A o len r s u
/-- len > 0, no char of the range above 255: a Latin-1 String of their low bytes -/
theorem law (l : Launch) (a : Addr) (D : Cell) (fV fC : Field) (b : Addr) (A : Cell) (z : Int32) (o len : Nat) : Law l yN 5 4 2 35 yB 6 none site (P a D fV fC b A z o len) (E a D fV fC A o len) [⟨a, fC.slot⟩, ⟨a, fV.slot⟩] 1 len := by
  refine Law.of_walk (plainFor_of_name (by decide +kernel)) (by decide +kernel) (by decide +kernel) (by decide) (fun _ _ h => by rw [h.1]; rfl) (fun _ U U' hal hh h => ⟨h.1, h.2.1.mv hal hh, h.2.2.1.al hal, h.2.2.2.1.al hal, h.2.2.2.2.1.mv hal hh, h.2.2.2.2.2.1.there hal hh, h.2.2.2.2.2.2⟩) (fun r U U' V V' h1 hal h2 h => Got.mv r U U' V V' h1 hal h2 h) ?_
  intro p e s m args below meth c s₁ X0 hexec hbytes hml hret hlk hnm hown hh0 W hP
  obtain ⟨rfl, hB, f1, f2, hA, s1, hz, l0, l1, l2, hp⟩ := hP
  have a31 := hA.1.2.2.2
  have c1 : Steps p.tables e below (s₁.setTop (entryFrame m #[.ref a, .ref b, .int (Int32.ofNat o), .int (Int32.ofNat len), .null] 6)) (s₁.setTop (mkF m 0 #[.val (.ref a), .val (.ref b), .val (.int (Int32.ofNat o)), .val (.int (Int32.ofNat len)), .val .null, .unset] [])) := entry rfl
  have c2 : Steps p.tables e below (s₁.setTop (entryFrame m #[.ref a, .ref b, .int (Int32.ofNat o), .int (Int32.ofNat len), .null] 6)) (s₁.setTop (mkF m 1 #[.val (.ref a), .val (.ref b), .val (.int (Int32.ofNat o)), .val (.int (Int32.ofNat len)), .val .null, .unset] [.ref a])) := c1.trans (by
    refine XS.aloadN X0.here hexec rfl (hb hbytes d0) rfl rfl ?_
    exact Steps.refl _)
  obtain ⟨T3, X3, q3, st3⟩ := X0.oinit hexec hown (wks W (objW "java/lang/String" 1)) (g := (mkF m 1 #[.val (.ref a), .val (.ref b), .val (.int (Int32.ofNat o)), .val (.int (Int32.ofNat len)), .val .null, .unset] [.ref a])) rfl (by rw [hml]; rfl) (rest := []) rfl (hb hbytes d1) (W := 0) (by show 2 * 0 + 0 ≤ _; decide) (Nat.le_of_ble_eq_true rfl) (Nat.le_of_ble_eq_true rfl)
  have hh3 := q3.trans hh0
  have c4 : Steps p.tables e below (s₁.setTop (entryFrame m #[.ref a, .ref b, .int (Int32.ofNat o), .int (Int32.ofNat len), .null] 6)) (T3.setTop (mkF m 27 #[.val (.ref a), .val (.ref b), .val (.int (Int32.ofNat o)), .val (.int (Int32.ofNat len)), .val .null, .unset] [])) := (c2.trans (st3 _ (Steps.refl _))).trans (by
    refine XS.iloadN X3.here hexec rfl (hb hbytes d4) rfl ?_
    refine XS.ifYes X3.here hexec rfl (pc0 := 5) rfl (hb hbytes d5) rfl (i0_ne_t (nz32 (by omega) l0)) (by decide) rfl ?_
    exact Steps.refl _)
  obtain ⟨T5, X5, q5, st5⟩ := X3.sget hexec hown (wk W (.fieldLink "java/lang/String" 38 "java/lang/String" "COMPACT_STRINGS" "Z")) s1 (fun _ _ h => by rw [hh3]; exact h) (g := (mkF m 27 #[.val (.ref a), .val (.ref b), .val (.int (Int32.ofNat o)), .val (.int (Int32.ofNat len)), .val .null, .unset] [])) rfl (hb hbytes d27)
  have hh5 := q5.trans hh3
  have c6 : Steps p.tables e below (s₁.setTop (entryFrame m #[.ref a, .ref b, .int (Int32.ofNat o), .int (Int32.ofNat len), .null] 6)) (T5.setTop (mkF m 30 #[.val (.ref a), .val (.ref b), .val (.int (Int32.ofNat o)), .val (.int (Int32.ofNat len)), .val .null, .unset] [.int z])) := c4.trans (st5 _ (Steps.refl _))
  have c7 : Steps p.tables e below (s₁.setTop (entryFrame m #[.ref a, .ref b, .int (Int32.ofNat o), .int (Int32.ofNat len), .null] 6)) (T5.setTop (mkF m 36 #[.val (.ref a), .val (.ref b), .val (.int (Int32.ofNat o)), .val (.int (Int32.ofNat len)), .val .null, .unset] [.int (Int32.ofNat len), .int (Int32.ofNat o), .ref b])) := c6.trans (by
    refine XS.ifNo X5.here hexec rfl (hb hbytes d30) rfl (i0_eq_f hz) ?_
    refine XS.aloadN X5.here hexec rfl (hb hbytes d33) rfl rfl ?_
    refine XS.iloadN X5.here hexec rfl (hb hbytes d34) rfl ?_
    refine XS.iloadN X5.here hexec rfl (hb hbytes d35) rfl ?_
    exact Steps.refl _)
  obtain ⟨v8, T8, X8, E8, g8⟩ := X5.callS hexec (Cmp3.law l b A o len) hown (wks W (staticW "java/lang/String" 177 Cmp3.yN)) (wk W Cmp3.tab) (W := 0) (Nat.le_of_ble_eq_true rfl) (Nat.le_of_ble_eq_true rfl) (Nat.le_refl _) (by show 0 + len ≤ len; omega) (g := (mkF m 36 #[.val (.ref a), .val (.ref b), .val (.int (Int32.ofNat o)), .val (.int (Int32.ofNat len)), .val .null, .unset] [.int (Int32.ofNat len), .int (Int32.ofNat o), .ref b])) rfl (by rw [hml]; rfl) c7 (argsL := [.ref b, .int (Int32.ofNat o), .int (Int32.ofNat len)]) (rest := []) rfl rfl (by show 2 * 0 + 0 ≤ _; decide) (hb hbytes d36) (⟨rfl, hA.mv X5.warmed.alike hh5, l1, l2, hp⟩)
  obtain ⟨e8, z8⟩ := E8
  obtain ⟨rfl, N, n1, n2, n3, n4, n5, n6⟩ := NewArr.mv _ T5 s _ _ hh5.symm (Vm.Alike.refl _) rfl e8
  rw [hh5] at z8
  have hB1 := hB.keep X8.warmed.alike (n6 _ _ hB.1)
  have hne : s.heap.size ≠ a := (Nat.ne_of_lt (Array.getElem?_eq_some_iff.mp hB.1).1).symm
  have c9 : Steps p.tables e below (s₁.setTop (entryFrame m #[.ref a, .ref b, .int (Int32.ofNat o), .int (Int32.ofNat len), .null] 6)) (T8.setTop (mkF m 39 #[.val (.ref a), .val (.ref b), .val (.int (Int32.ofNat o)), .val (.int (Int32.ofNat len)), .val .null, .unset] [.ref s.heap.size])) := g8
  have c10 : Steps p.tables e below (s₁.setTop (entryFrame m #[.ref a, .ref b, .int (Int32.ofNat o), .int (Int32.ofNat len), .null] 6)) (T8.setTop (mkF m 45 #[.val (.ref a), .val (.ref b), .val (.int (Int32.ofNat o)), .val (.int (Int32.ofNat len)), .val .null, .val (.ref s.heap.size)] [.int (Int32.ofNat N.slots.size), .ref s.heap.size, .ref a])) := by
    have hc : Steps p.tables e below (s₁.setTop (entryFrame m #[.ref a, .ref b, .int (Int32.ofNat o), .int (Int32.ofNat len), .null] 6)) (T8.setTop (mkF m 45 #[.val (.ref a), .val (.ref b), .val (.int (Int32.ofNat o)), .val (.int (Int32.ofNat len)), .val .null, .val (.ref s.heap.size)] [.int (Int32.ofNat len), .ref s.heap.size, .ref a])) := c9.trans (by
      refine XS.astore X8.here hexec rfl (hb hbytes d39) rfl rfl rfl ?_
      refine XS.aloadN X8.here hexec rfl (hb hbytes d41) rfl rfl ?_
      refine XS.aload X8.here hexec rfl (hb hbytes d42) rfl rfl ?_
      refine XS.iloadN X8.here hexec rfl (hb hbytes d44) rfl ?_
      exact Steps.refl _)
    rw [n4]; exact hc
  obtain ⟨v11, T11, X11, E11, g11⟩ := X8.callS hexec (CodL.law l s.heap.size N) hown (wks W (staticW "java/lang/String" 47 CodL.yN)) (wk W CodL.tab) (W := 1) (Nat.le_of_ble_eq_true rfl) (Nat.le_of_ble_eq_true rfl) (Nat.le_refl _) (by show 0 + len + 0 ≤ len; omega) (g := (mkF m 45 #[.val (.ref a), .val (.ref b), .val (.int (Int32.ofNat o)), .val (.int (Int32.ofNat len)), .val .null, .val (.ref s.heap.size)] [.int (Int32.ofNat N.slots.size), .ref s.heap.size, .ref a])) rfl (by rw [hml]; rfl) c10 (argsL := [.ref s.heap.size, .int (Int32.ofNat N.slots.size)]) (rest := [.ref a]) rfl rfl (by show 2 * 0 + (1 + 0) ≤ _; decide) (hb hbytes d45) (⟨rfl, n1⟩)
  obtain ⟨rfl, q11⟩ := E11
  have hB11 := hB1.mv (X8.warmed.alike.symm.trans X11.warmed.alike) q11
  have c12 : Steps p.tables e below (s₁.setTop (entryFrame m #[.ref a, .ref b, .int (Int32.ofNat o), .int (Int32.ofNat len), .null] 6)) (T11.setTop (mkF m 48 #[.val (.ref a), .val (.ref b), .val (.int (Int32.ofNat o)), .val (.int (Int32.ofNat len)), .val .null, .val (.ref s.heap.size)] [.int 0, .ref a])) := g11
  obtain ⟨T13, X13, p13, bl13, sl13, st13⟩ := X11.finit hexec hown (wk W (.fieldLink "java/lang/String" 15 "java/lang/String" "coder" "B")) (Or.inr ⟨_, (wk W (.laysFinal "java/lang/String" "java/lang/String" "coder" "B"))⟩) (Or.inl ⟨rfl, hnm⟩) f2 (Or.inl rfl) hB11 (t := .byte) (by decide +kernel) rfl (g := (mkF m 48 #[.val (.ref a), .val (.ref b), .val (.int (Int32.ofNat o)), .val (.int (Int32.ofNat len)), .val .null, .val (.ref s.heap.size)] [.int 0, .ref a])) rfl (rest := []) rfl (hb hbytes d48)
  have c14 : Steps p.tables e below (s₁.setTop (entryFrame m #[.ref a, .ref b, .int (Int32.ofNat o), .int (Int32.ofNat len), .null] 6)) (T13.setTop (mkF m 54 #[.val (.ref a), .val (.ref b), .val (.int (Int32.ofNat o)), .val (.int (Int32.ofNat len)), .val .null, .val (.ref s.heap.size)] [.ref s.heap.size, .ref a])) := (c12.trans (st13 _ (Steps.refl _))).trans (by
    refine XS.aloadN X13.here hexec rfl (hb hbytes d51) rfl rfl ?_
    refine XS.aload X13.here hexec rfl (hb hbytes d52) rfl rfl ?_
    exact Steps.refl _)
  obtain ⟨T15, X15, p15, bl15, sl15, st15⟩ := X13.finit hexec hown (wk W (.fieldLink "java/lang/String" 9 "java/lang/String" "value" "[B")) (Or.inr ⟨_, (wk W (.laysFinal "java/lang/String" "java/lang/String" "value" "[B"))⟩) (Or.inl ⟨rfl, hnm⟩) f1 (Or.inl rfl) bl13 (t := (.array .byte)) (by decide +kernel) rfl (g := (mkF m 54 #[.val (.ref a), .val (.ref b), .val (.int (Int32.ofNat o)), .val (.int (Int32.ofNat len)), .val .null, .val (.ref s.heap.size)] [.ref s.heap.size, .ref a])) rfl (rest := []) rfl (hb hbytes d54)
  have c16 : Steps p.tables e below (s₁.setTop (entryFrame m #[.ref a, .ref b, .int (Int32.ofNat o), .int (Int32.ofNat len), .null] 6)) (T15.setTop (mkF m 57 #[.val (.ref a), .val (.ref b), .val (.int (Int32.ofNat o)), .val (.int (Int32.ofNat len)), .val .null, .val (.ref s.heap.size)] [])) := c14.trans (st15 _ (Steps.refl _))
  have ap := apart (Or.inr ⟨_, (wk W (.laysFinal "java/lang/String" "java/lang/String" "value" "[B"))⟩) (Or.inr ⟨_, (wk W (.laysFinal "java/lang/String" "java/lang/String" "coder" "B"))⟩) f1 f2 (t₁ := .array .byte) (t₂ := .byte) (by decide +kernel) (by decide +kernel) (by decide)
  have al := X8.warmed.alike.symm.trans X15.warmed.alike
  have n7 : T11.heap[s.heap.size]? = some N := by rw [q11]; exact n1.1
  exact ⟨T15, none, _, _, _, X15, by simp, rfl, by omega, (fun _ => rfl), ⟨rfl, _, N, bl15, ((Same.refl D _).set _ (by simp)).set _ (by simp), sl15, (Cell.slots_setSlot_ne _ ap).trans sl13, n1.keep al (p15.other hne (p13.other hne n7)), n2, by rw [al.findClass]; exact n3, n4, n5, fun y c h1 h2 => p15.other h1 (p13.other h1 (by rw [q11]; exact n6 y c h2)), by rw [p15.2.2, p13.2.2, q11]; exact z8⟩, fun fs hl => c16.trans (X15.returnOut hexec hret (hb hbytes d57) hl)⟩
end New4
namespace New1
def yN : MethodName := ⟨"java/lang/String", "<init>", "([C)V"⟩
abbrev yB : ByteArray := jdk_42_method_3_code
theorem d0 : decode yB 0 = .ok (.aload_n 0, 1) := by decide +kernel
theorem d1 : decode yB 1 = .ok (.aload_n 1, 1) := by decide +kernel
theorem d2 : decode yB 2 = .ok (.iconst 0, 1) := by decide +kernel
theorem d3 : decode yB 3 = .ok (.aload_n 1, 1) := by decide +kernel
theorem d4 : decode yB 4 = .ok (.arraylength, 1) := by decide +kernel
theorem d5 : decode yB 5 = .ok (.aconst_null, 1) := by decide +kernel
theorem d6 : decode yB 6 = .ok (.invokespecial 27, 3) := by decide +kernel
theorem d9 : decode yB 9 = .ok (.return_, 1) := by decide +kernel
def site : List Cond := [New4.tab] ++ initW "java/lang/String" 27 New4.yN
def tab : Cond := tabOf yN yB 2 none site
def P (a : Addr) (D : Cell) (fV fC : Field) (b : Addr) (A : Cell) (z : Int32) (args : Array Value) (s : State) : Prop := args = #[.ref a, .ref b] ∧ Blank "java/lang/String" a D s ∧ Found "java/lang/String" "value" "[B" fV s ∧ Found "java/lang/String" "coder" "B" fC s ∧ Ch b A s ∧ StaticIs s "java/lang/String" "COMPACT_STRINGS" "Z" (.int z) ∧ ¬ z = 0 ∧ 0 < A.slots.size ∧ A.slots.size ≤ 536870912 ∧ ∀ i, i < A.slots.size → ¬ 255 < cv A i
def E (a : Addr) (D : Cell) (fV fC : Field) (A : Cell) (r : Option Value) (s u : State) : Prop := Got a D fV fC A 0 A.slots.size r s u
/-- new String(chars), not empty, no char above 255: a Latin-1 String of their low bytes -/
theorem law (l : Launch) (a : Addr) (D : Cell) (fV fC : Field) (b : Addr) (A : Cell) (z : Int32) : Law l yN 2 1 3 52 yB 2 none site (P a D fV fC b A z) (E a D fV fC A) [⟨a, fC.slot⟩, ⟨a, fV.slot⟩] 1 A.slots.size := by
  refine Law.of_walk (plainFor_of_name (by decide +kernel)) (by decide +kernel) (by decide +kernel) (by decide) (fun _ _ h => by rw [h.1]; rfl) (fun _ U U' hal hh h => ⟨h.1, h.2.1.mv hal hh, h.2.2.1.al hal, h.2.2.2.1.al hal, h.2.2.2.2.1.mv hal hh, h.2.2.2.2.2.1.there hal hh, h.2.2.2.2.2.2⟩) (fun r U U' V V' h1 hal h2 h => Got.mv r U U' V V' h1 hal h2 h) ?_
  intro p e s m args below meth c s₁ X0 hexec hbytes hml hret hlk hnm hown hh0 W hP
  obtain ⟨rfl, hB, f1, f2, hA, s1, hz, l0, l2, hp⟩ := hP
  have c1 : Steps p.tables e below (s₁.setTop (entryFrame m #[.ref a, .ref b] 2)) (s₁.setTop (mkF m 0 #[.val (.ref a), .val (.ref b)] [])) := entry rfl
  have c2 : Steps p.tables e below (s₁.setTop (entryFrame m #[.ref a, .ref b] 2)) (s₁.setTop (mkF m 6 #[.val (.ref a), .val (.ref b)] [.null, .int (Int32.ofNat A.slots.size), .int 0, .ref b, .ref a])) := c1.trans (by
    refine XS.aloadN X0.here hexec rfl (hb hbytes d0) rfl rfl ?_
    refine XS.aloadN X0.here hexec rfl (hb hbytes d1) rfl rfl ?_
    refine iconstV X0.here hexec rfl 0 (hb hbytes d2) (by decide) ?_
    refine XS.aloadN X0.here hexec rfl (hb hbytes d3) rfl rfl ?_
    refine X0.alen hexec (hA.1.mv X0.warmed.alike hh0) rfl rfl (hb hbytes d4) ?_
    refine XS.aconstNull X0.here hexec rfl (hb hbytes d5) ?_
    exact Steps.refl _)
  obtain ⟨v3, T3, X3, E3, g3⟩ := X0.callN hexec (New4.law l a D fV fC b A z 0 A.slots.size) rfl hown (wks W (initW "java/lang/String" 27 New4.yN)) (W New4.tab (by simp only [site, List.mem_cons, List.mem_append, true_or, or_true])) (W := 0) (Nat.le_of_ble_eq_true rfl) (Nat.le_of_ble_eq_true rfl) (Nat.le_refl _) (by show 0 + A.slots.size ≤ A.slots.size; omega) (g := (mkF m 6 #[.val (.ref a), .val (.ref b)] [.null, .int (Int32.ofNat A.slots.size), .int (Int32.ofNat 0), .ref b, .ref a])) rfl (by rw [hml]; rfl) c2 (argsL := [.ref b, .int (Int32.ofNat 0), .int (Int32.ofNat A.slots.size), .null]) (rest := []) rfl rfl (by show 2 * 0 + 0 ≤ _; decide) (hb hbytes d6) (⟨rfl, hB.mv X0.warmed.alike hh0, f1.al X0.warmed.alike, f2.al X0.warmed.alike, hA.mv X0.warmed.alike hh0, s1.there X0.warmed.alike hh0, hz, l0, by omega, l2, fun i hi => by rw [Nat.zero_add]; exact hp i hi⟩)
  have e0 := Got.mv _ s₁ s _ _ hh0.symm (Vm.Alike.refl _) rfl E3
  obtain rfl := e0.1
  have c4 : Steps p.tables e below (s₁.setTop (entryFrame m #[.ref a, .ref b] 2)) (T3.setTop (mkF m 9 #[.val (.ref a), .val (.ref b)] [])) := g3
  exact ⟨T3, none, _, _, _, X3, by simp, rfl, by omega, (fun _ => rfl), e0, fun fs hl => c4.trans (X3.returnOut hexec hret (hb hbytes d9) hl)⟩
theorem pays {l : Launch} {R : Room} {p : Program} {e : Env} {below : List Frame} {s : State} {sargs : Array Value} {len W : Nat} (a : Addr) (D : Cell) (fV fC : Field) (b : Addr) (A : Cell) (z : Int32) (htab : tab.before sargs s = true) (hfr : 4 ≤ R.frames) (hlo : W + 65 ≤ R.locals) :
    Back l R p e below s sargs yN len W (fun A₁ a₁ => A₁.cells + 1 ≤ R.cells ∧ A₁.slots + A.slots.size ≤ R.slots ∧ P a D fV fC b A z a₁ A₁.U) (fun A₁ _ v₁ B₁ => E a D fV fC A v₁ A₁.U B₁.U ∧ B₁.locs = A₁.locs ++ [⟨a, fC.slot⟩, ⟨a, fV.slot⟩] ∧ B₁.cells = A₁.cells + 1 ∧ B₁.slots = A₁.slots + A.slots.size) :=
  (law l a D fV fC b A z).pays htab hfr (by omega)
end New1
end StrChars
namespace StrChars.Road
open Jvm Sem ClassFile Op Lib Jvm.Stand Jvm.Free Jvm.Free.XT
open Jvm.Lib.Cold (StaticIs)
abbrev ST : String := "java/lang/String"
/-- every table word that New1's law asks, flat -/
abbrev words : List Jvm.Cond := [.code New1.yN New1.yB 2 none, .initialized ST, .methodLink ST 27 New4.yN, .instanceMethod New4.yN,
  .code New4.yN New4.yB 6 none, .fieldLink ST 38 ST "COMPACT_STRINGS" "Z", .laysFinal ST ST "value" "[B", .fieldLink ST 9 ST "value" "[B", .laysFinal ST ST "coder" "B", .fieldLink ST 15 ST "coder" "B",
  .methodLink ST 1 Lib.objectInit, .instanceMethod Lib.objectInit, .code Lib.objectInit ⟨#[0xb1]⟩ 1 none, .methodLink ST 177 Cmp3.yN, .static Cmp3.yN, .methodLink ST 47 CodL.yN, .static CodL.yN,
  .code Cmp3.yN Cmp3.yB 6 (some (.array .byte)), .initialized U16, .arrayClass .byte, .methodLink U16 115 Cmp5.yN, .static Cmp5.yN, .code Cmp5.yN Cmp5.yB 7 (some .int), .code CodL.yN CodL.yB 2 (some .byte)]
theorem tab_of {a : Array Value} {s : State} (h : ∀ w ∈ words, w.before a s = true) : New1.tab.before a s = true := by
  have h5 : Cmp5.tab.before a s = true := unparts (wk h (.code Cmp5.yN Cmp5.yB 7 (some .int))) (wks h (.initialized Cmp5.yN.cls :: Cmp5.site))
  have hc : CodL.tab.before a s = true := unparts (wk h (.code CodL.yN CodL.yB 2 (some .byte))) (wks h (.initialized CodL.yN.cls :: CodL.site))
  have q5 : ∀ w ∈ Cmp5.tab :: words, w.before a s = true := fun w hw => (List.mem_cons.mp hw).elim (fun e => e ▸ h5) (h w)
  have h3 : Cmp3.tab.before a s = true := unparts (wk q5 (.code Cmp3.yN Cmp3.yB 6 (some (.array .byte)))) (wks q5 (.initialized Cmp3.yN.cls :: Cmp3.site))
  have q3 : ∀ w ∈ Cmp3.tab :: CodL.tab :: words, w.before a s = true := fun w hw => (List.mem_cons.mp hw).elim (fun e => e ▸ h3) fun hw => (List.mem_cons.mp hw).elim (fun e => e ▸ hc) (h w)
  have h4 : New4.tab.before a s = true := unparts (wk q3 (.code New4.yN New4.yB 6 none)) (wks q3 (.initialized New4.yN.cls :: New4.site))
  have q4 : ∀ w ∈ New4.tab :: words, w.before a s = true := fun w hw => (List.mem_cons.mp hw).elim (fun e => e ▸ h4) (h w)
  exact unparts (wk q4 (.code New1.yN New1.yB 2 none)) (wks q4 (.initialized New1.yN.cls :: New1.site))
/-- the words ride from the start Z to the walk's own state -/
theorem moved {Z s : State} {a0 args : Array Value} (hZ : Z.Warmed39 s.vm) (hw : ∀ d ∈ words, d.before a0 Z = true) : ∀ d ∈ words, d.before args s = true := fun d hd => by
  have q := hw d hd
  have t : ∀ d ∈ words, d = .arrayClass .byte ∨ (d.onTables && d.keepsFace) = true := by decide +kernel
  rcases t d hd with rfl | t
  · exact RoadKit.mvA hZ q
  · exact RoadKit.mv hZ q t
/-- WHAT COMES BACK, over the tables of the start Z: h the heap at the call, h' behind it -/
def Q (Z : State) (x : Addr) (A : Cell) (h : Heap) (v : Option Value) (h' : Heap) (L : List Loc) : Prop := v = none ∧ (∀ y ∈ L, y.base = x) ∧ RoadKit.Keep h h' [x] ∧ h'.size = h.size + 1 ∧ RoadKit.Exa Z h' x ST ∧ RoadKit.Fld Z h' x ST "value" "[B" (.ref h.size) ∧ RoadKit.Fld Z h' x ST "coder" "B" (.int 0) ∧
  (∃ V : Cell, RoadKit.Arr Z h' h.size V .byte ∧ V.vm = .none ∧ Z.vm.findClass "[B" = some V.cls ∧ V.slots.size = A.slots.size ∧ ∀ j, j < A.slots.size → V.slots[j]? = some (.int (lo8 (cv A j)))) ∧
  ∀ (O n d : String) (w : Value), RoadKit.Fld Z h x O n d w → RoadKit.slotOf Z O n d ≠ RoadKit.slotOf Z ST "value" "[B" → RoadKit.slotOf Z O n d ≠ RoadKit.slotOf Z ST "coder" "B" → RoadKit.Fld Z h' x O n d w
/-- **new String(chars) AT A CALL, IN THE ROAD'S FORM**: for specialBack behind newO: x the fresh String, b the char[] with the cell A -/
theorem back {p : Program} {l : Launch} {e : Env} {R : Room} {s : State} {args : Array Value} {below : List Frame} {len W : Nat} {Z : State} {a0 : Array Value} {h : Heap} (hZ : Z.Warmed39 s.vm) (hw : ∀ d ∈ words, d.before a0 Z = true) {kI : Nat} (wi : (Jvm.Cond.instantiable ST kI).before a0 Z = true)
    {x b : Addr} {A : Cell} {z : Int32} {v0 c0 : Value} (E : RoadKit.Exa Z h x ST) (V : RoadKit.Fld Z h x ST "value" "[B" v0) (C : RoadKit.Fld Z h x ST "coder" "B" c0) (K : RoadKit.Arr Z h b A .char) (hty : Typed .char A) (S : RoadKit.Sta Z h ST "COMPACT_STRINGS" "Z" (.int z)) (hz : ¬ z = 0)
    (l0 : 0 < A.slots.size) (l2 : A.slots.size ≤ 536870912) (hp : ∀ i, i < A.slots.size → ¬ 255 < cv A i) (hfr : 4 ≤ R.frames) (hlo : W + 65 ≤ R.locals) :
    Back l R p e below s args New1.yN len W (fun P a => a = #[.ref x, .ref b] ∧ P.U.heap = h ∧ P.cells + 1 ≤ R.cells ∧ P.slots + A.slots.size ≤ R.slots)
      (fun P _ v B => ∃ L, Q Z x A h v B.U.heap L ∧ B.locs = P.locs ++ L ∧ B.cells = P.cells + 1 ∧ B.slots = P.slots + A.slots.size) := by
  intro m meth c P g ig mk a X hg hsize hdg hW hn hp'
  obtain ⟨rfl, rfl, r1, r2⟩ := hp'
  have al : Z.vm.Alike P.U.vm := hZ.alike.trans X.warmed.alike
  obtain ⟨D, cfV, kV, iV, fV, hD, gV, stV, knV, obV, asV, slV⟩ := id V
  obtain ⟨D', cfC, kC, iC, fC, hD', gC, stC, -, -, asC, slC⟩ := id C
  cases hD.symm.trans hD'
  obtain ⟨D2, kD, e1, e2, e3, e4, e5⟩ := id E
  cases hD.symm.trans e1
  obtain ⟨c2, k2, i1, i2, i3, -⟩ := Cond.instantiable_spec wi
  cases e2.symm.trans i1
  cases e3.symm.trans i2
  obtain ⟨kU, u1, u2⟩ := al.2.2 _ _ e3
  have hB : Blank ST x D P.U := ⟨hD, ⟨knV, fun q hq => by rw [hq] at obV; cases obV⟩, by rw [al.findClass]; exact e2, kU, u1, by rw [u2]; exact i3, by rw [u2]; exact e5 i3⟩
  have F1 : Found ST "value" "[B" fV P.U := ⟨SBG.found_only al ⟨cfV, kV, iV, gV⟩, stV⟩
  have F2 : Found ST "coder" "B" fC P.U := ⟨SBG.found_only al ⟨cfC, kC, iC, gC⟩, stC⟩
  have hA : Ch b A P.U := ⟨⟨K.1, State.isArrayOf_alike al K.2.1, K.2.2, by omega⟩, hty⟩
  have hS : StaticIs P.U ST "COMPACT_STRINGS" "Z" (.int z) := by
    obtain ⟨cfS, iS, kS, fS, st, cS, t1, t2, t3, t4, t5, t6, t7⟩ := S
    exact StaticIs.there (s := { Z with heap := P.U.heap }) ⟨cfS, iS, kS, fS, st, cS, t1, t2, t3, t4, t5, (fun q => by rw [q] at t6; cases t6), t7⟩ al rfl
  obtain ⟨v, B, X', ⟨⟨hv, E', V', q1, q2, q3, q4, q5, q6, q7, q8, q9, q10, q11⟩, hl, hc, hs⟩, st⟩ := New1.pays x D fV fC b A z (tab_of (moved hZ hw)) hfr hlo m meth c P g ig mk _ X hg hsize hdg hW hn ⟨r1, r2, rfl, hB, F1, F2, hA, hS, hz, l0, l2, hp⟩
  have al' : Z.vm.Alike B.U.vm := hZ.alike.trans X'.warmed.alike
  have hsz : E'.slots.size = D.slots.size := by
    obtain ⟨-, -, -, kB, w1, w2, w3⟩ := q1
    obtain ⟨kB', y1, y2⟩ := al'.2.2 _ _ e3
    rw [q2.2.1] at w1
    cases w1.symm.trans y1
    rw [w3, e5 i3, y2]
  refine ⟨v, B, X', ⟨_, ⟨hv, ?_, ⟨by omega, fun y cy hy hn' => q10 y cy (by simpa using hn') hy, fun y cy hy => ?_⟩, q11, ⟨E', _, q1.1, by rw [q2.2.1]; exact e2, by rw [q2.2.1]; exact e3, by rw [q2.1]; exact obV, fun _ => by rw [hsz]; exact e5 i3⟩,
    ⟨E', cfV, kV, iV, fV, q1.1, gV, stV, by rw [q2.1]; exact knV, by rw [q2.1]; exact obV, by rw [q2.2.1]; exact asV, q3⟩, ⟨E', cfC, kC, iC, fC, q1.1, gC, stC, by rw [q2.1]; exact knV, by rw [q2.1]; exact obV, by rw [q2.2.1]; exact asC, q4⟩,
    ⟨V', ⟨q5.1, State.isArrayOf_alike al'.symm q5.2.1, q5.2.2.1⟩, q6, by rw [← al'.findClass]; exact q7, q8, fun j hj => by have := q9 j hj; rwa [Nat.zero_add] at this⟩, fun O n d w F n1 n2 => ?_⟩, hl, hc, hs⟩, st⟩
  · intro y hy
    simp only [List.mem_cons, List.not_mem_nil, or_false] at hy
    rcases hy with rfl | rfl <;> rfl
  · by_cases q : y = x
    · subst q
      cases hD.symm.trans hy
      exact ⟨E', q1.1, q2.2.1, q2.1, hsz⟩
    · exact ⟨cy, q10 y cy q hy, rfl, rfl, rfl⟩
  · obtain ⟨D3, cf, k, i, f, g1, g2, g3, g4, g5, g6, g7⟩ := F
    cases hD.symm.trans g1
    simp only [RoadKit.slotOf, g2, gV, gC, Option.map_some, Option.getD_some] at n1 n2
    exact ⟨E', cf, k, i, f, q1.1, g2, g3, by rw [q2.1]; exact g4, by rw [q2.1]; exact g5, by rw [q2.2.1]; exact g6, by rw [q2.2.2 f.slot (by simp [n1, n2])]; exact g7⟩
end StrChars.Road
namespace StrChars.Road
open Jvm Sem ClassFile Op Lib Jvm.Stand Jvm.Free Jvm.Free.XT
/-- WHAT COMES BACK, the byte[] as a list of values -/
def QA (Z : State) (x : Addr) (zn : Int32) (cs : List Int32) (h : Heap) (v : Option Value) (h' : Heap) (L : List Loc) : Prop := v = none ∧ (∀ y ∈ L, y.base = x) ∧ RoadKit.Keep h h' [x] ∧ h'.size = h.size + 1 ∧ RoadKit.Exa Z h' x ST ∧ RoadKit.Fld Z h' x ST "value" "[B" (.ref h.size) ∧ RoadKit.Fld Z h' x ST "coder" "B" (.int 0) ∧
  (∃ kb, Z.vm.findClass "[B" = some kb ∧ RoadKit.Arv Z h' h.size kb .byte zn (cs.map fun c => .int (lo8 c)) (.int 0)) ∧
  ∀ (O n d : String) (w : Value), RoadKit.Fld Z h x O n d w → RoadKit.slotOf Z O n d ≠ RoadKit.slotOf Z ST "value" "[B" → RoadKit.slotOf Z O n d ≠ RoadKit.slotOf Z ST "coder" "B" → RoadKit.Fld Z h' x O n d w
/-- **new String(chars) AT A CALL, THE ARRAYS AS LISTS**: the char[] at b holds cs, not empty, no char above 255 -/
theorem backArv {p : Program} {l : Launch} {e : Env} {R : Room} {s : State} {args : Array Value} {below : List Frame} {len W : Nat} {Z : State} {a0 : Array Value} {h : Heap} (hZ : Z.Warmed39 s.vm) (hw : ∀ d ∈ words, d.before a0 Z = true) {kI : Nat} (wi : (Jvm.Cond.instantiable ST kI).before a0 Z = true)
    {x b : Addr} {k : ClassId} {zn z : Int32} {cs : List Int32} {dv v0 c0 : Value} (E : RoadKit.Exa Z h x ST) (V : RoadKit.Fld Z h x ST "value" "[B" v0) (C : RoadKit.Fld Z h x ST "coder" "B" c0) (K : RoadKit.Arv Z h b k .char zn (cs.map Value.int) dv) (S : RoadKit.Sta Z h ST "COMPACT_STRINGS" "Z" (.int z)) (hz : ¬ z = 0)
    (hlen : zn.toNatClampNeg = cs.length) (h0 : 0 < cs.length) (hbig : cs.length ≤ 536870912) (hall : ∀ c ∈ cs, ¬ 255 < c) (hfr : 4 ≤ R.frames) (hlo : W + 65 ≤ R.locals) :
    Back l R p e below s args New1.yN len W (fun P a => a = #[.ref x, .ref b] ∧ P.U.heap = h ∧ P.cells + 1 ≤ R.cells ∧ P.slots + cs.length ≤ R.slots)
      (fun P _ v B => ∃ L, QA Z x zn cs h v B.U.heap L ∧ B.locs = P.locs ++ L ∧ B.cells = P.cells + 1 ∧ B.slots = P.slots + cs.length) := by
  obtain ⟨A, K1, K2, K3, K4, K5, K6⟩ := K
  have e : A.slots.size = cs.length := K3.trans hlen
  have hat : ∀ (i : Nat) (hi : i < cs.length), A.slots[i]? = some (.int cs[i]) := fun i hi => by rw [K5 i (by omega)]; simp [List.getD_eq_getElem?_getD, hi]
  have hcv : ∀ (i : Nat) (hi : i < cs.length), cv A i = cs[i] := fun i hi => by unfold cv; rw [hat i hi]
  have hty : Typed .char A := fun i v hv => by
    have hi : i < A.slots.size := (Array.getElem?_eq_some_iff.mp hv).1
    have q := K5 i hi
    rw [hv] at q
    rw [Option.some.inj q]
    exact K6 i hi
  refine Back.mono (back hZ hw wi E V C K1 hty S hz (by omega) (by omega) (fun i hi => by rw [hcv i (by omega)]; exact hall _ (List.getElem_mem _)) hfr hlo) (fun P a hp => ⟨hp.1, hp.2.1, hp.2.2.1, by rw [e]; exact hp.2.2.2⟩) (fun P a v B hp hq => ?_)
  obtain ⟨L, ⟨q1, q2, q3, q4, q5, q6, q7, ⟨V', v1, v2, v3, v4, v5⟩, q9⟩, hl, hc, hs⟩ := hq
  refine ⟨L, ⟨q1, q2, q3, q4, q5, q6, q7, ⟨V'.cls, v3, V', v1, rfl, by rw [v4, e, hlen], K4, fun i hi => ?_, fun i hi => ?_⟩, q9⟩, hl, hc, by rw [hs, e]⟩
  · have hi' : i < cs.length := by omega
    rw [v5 i (by omega), hcv i hi']; simp [List.getD_eq_getElem?_getD, hi']
  · have hi' : i < cs.length := by omega
    simp only [List.getD_eq_getElem?_getD, List.getElem?_map, List.getElem?_eq_getElem hi', Option.map_some, Option.getD_some]
    exact fits_lo8 _
end StrChars.Road
namespace StrChars.Road
open Jvm Sem ClassFile Op Lib Jvm.Stand Jvm.Free Jvm.Free.XT
/-- WHAT COMES BACK, in the writer's own shape -/
def QV (Z : State) (x : Addr) (N : Int32) (bs : List Int32) (h : Heap) (n0 : Nat) (v : Option Value) (h' : Heap) (L : List Loc) : Prop := v = none ∧ RoadKit.Fr n0 L ∧ RoadKit.Keep h h' [x] ∧ RoadKit.Exa Z h' x ST ∧ RoadKit.Fld Z h' x ST "coder" "B" (.int 0) ∧
  ∃ (t : Addr) (kb : ClassId), n0 ≤ t ∧ h.size ≤ t ∧ ¬ t = x ∧ RoadKit.Fld Z h' x ST "value" "[B" (.ref t) ∧ RoadKit.Arv Z h' t kb .byte N (bs.map Value.int) (.int 0)
/-- **new String(chars) AT A CALL, FOR THE WRITER**: a char[] of n known ints, each 0 to 255 -/
theorem backV {p : Program} {l : Launch} {e : Env} {R : Room} {s : State} {args : Array Value} {below : List Frame} {len W : Nat} {Z : State} {a0 : Array Value} {h : Heap} (hZ : Z.Warmed39 s.vm) (hw : ∀ d ∈ words, d.before a0 Z = true) {kI : Nat} (wi : (Jvm.Cond.instantiable ST kI).before a0 Z = true)
    {x b : Addr} {kC : ClassId} {cs bs : List Int32} {d v0 c0 : Value} {z N : Int32} {n n0 : Nat} (hx0 : n0 ≤ x) (hh0 : n0 ≤ h.size) (E : RoadKit.Exa Z h x ST) (V : RoadKit.Fld Z h x ST "value" "[B" v0) (C : RoadKit.Fld Z h x ST "coder" "B" c0) (K : RoadKit.Arv Z h b kC .char N (cs.map Value.int) d) (S : RoadKit.Sta Z h ST "COMPACT_STRINGS" "Z" (.int z)) (hz : ¬ z = 0)
    (hn : cs.length = n) (hN : N = Int32.ofNat n) (l0 : 0 < n) (l2 : n ≤ 4000) (hp : ∀ c ∈ cs, ¬ c < 0 ∧ ¬ (255 : Int32) < c) (hb : bs = cs.map (fun c => c.toInt8.toInt32)) (hfr : 4 ≤ R.frames) (hlo : W + 65 ≤ R.locals) :
    Back l R p e below s args (⟨"java/lang/String", "<init>", "([C)V"⟩ : MethodName) len W (fun P a => a = #[.ref x, .ref b] ∧ P.U.heap = h ∧ P.cells + 1 ≤ R.cells ∧ P.slots + n ≤ R.slots)
      (fun P _ v B => ∃ L, QV Z x N bs h n0 v B.U.heap L ∧ B.locs = P.locs ++ L ∧ B.cells = P.cells + 1 ∧ B.slots = P.slots + n) := by
  subst hn hN hb
  refine Back.mono (backArv hZ hw wi E V C K S hz (n32 (by omega)) l0 (by omega) (fun c hc => (hp c hc).2) hfr hlo) (fun P a hp => hp) (fun P a v B hp hq => ?_)
  obtain ⟨L, ⟨q1, q2, q3, q4, q5, q6, q7, ⟨kb, v1, v2⟩, q9⟩, hl, hc, hs⟩ := hq
  exact ⟨L, ⟨q1, fun y hy => by rw [q2 y hy]; exact hx0, q3, q5, q7, h.size, kb, hh0, Nat.le_refl _, Nat.ne_of_gt E.lt, q6, by rw [List.map_map]; exact v2⟩, hl, hc, hs⟩
end StrChars.Road
end Jvm.Pilot.@@N@@

namespace Jvm.Pilot.@@N@@
open Jvm Jvm.ClassFile Sem Op Lib Jvm.Free Jvm.Stand Jvm.LawKit Jvm.RoadKit Bundle Jvm.Pilot.@@N@@.Jvm.D
theorem own_255 (x : Int32) : ¬ nar .char ((x &&& (255 : Int32)).toUInt32.toUInt16.toUInt32.toInt32) < 0 ∧ ¬ (255 : Int32) < nar .char ((x &&& (255 : Int32)).toUInt32.toUInt16.toUInt32.toInt32) := by
  have k0 := c_and x (255 : Int32) (by decide)
  have m : (255 : Int32).toInt = 255 := by decide
  have z : (0 : Int32).toInt = 0 := by decide
  have k1 := c_i2c (x &&& (255 : Int32))
  have e : (x &&& (255 : Int32)).toUInt32.toUInt16.toUInt32.toInt32 = (x &&& (255 : Int32)) := i2c_mask x
  rw [e]
  have e2 : nar .char (x &&& (255 : Int32)) = (x &&& (255 : Int32)) := i2c_mask x
  rw [e2, Int32.lt_iff_toInt_lt, Int32.lt_iff_toInt_lt, m, z]
  rw [m] at k0
  omega
theorem d10_0 : decode jdk_22_method_1_code 0 = .ok (.aload_n 0, 1) := by decide +kernel
theorem d10_1 : decode jdk_22_method_1_code 1 = .ok (.invokespecial 1, 3) := by decide +kernel
theorem d10_4 : decode jdk_22_method_1_code 4 = .ok (.return_, 1) := by decide +kernel
theorem pn_2 : plainName "java/util/AbstractCollection" = true := by first | (simp [plainName, overriddenIn]; done) | decide +kernel
theorem ef_rabc (m : MethodId) (a1 : Addr) : entryFrame m #[(.ref a1)] 1 = mkF m 0 #[.val (.ref a1)] [] := by first | (simp [entryFrame, mkF, argsToLocals, Value.category]; done) | rfl
def Q_rabc (Z : State) (a1 : Addr) (h0 : Heap) (n0 : Nat) (v : Option Value) (h : Heap) (L : List Loc) : Prop := v = none ∧ Fr n0 L ∧ h = h0
set_option maxRecDepth 65536 in
set_option maxHeartbeats 40000000 in
theorem rabc (l : Launch) (Z : State) (a0 : Array Value) (hw : ∀ d ∈ tables_1, d.before a0 Z = true) (ws : List Jvm.Cond) (a1 : Addr) (h0 : Heap) (n0 : Nat) (Z0 : n0 ≤ h0.size)  :
    MetFree l (⟨"java/util/AbstractCollection", "<init>", "()V"⟩ : MethodName) (head1 (Jvm.Cond.code (⟨"java/util/AbstractCollection", "<init>", "()V"⟩ : MethodName) jdk_22_method_1_code 1 none :: ws) ({ frames := 1, cells := 0, slots := 0, locals := 12 } : Room)) (fun a U => a = #[(.ref a1)] ∧ Z.Warmed39 U.vm ∧ U.heap = h0) (fun _ _ _ _ _ => True) (fun _ U o U' => ∃ v L, o = .returned v ∧ Q_rabc Z a1 h0 n0 v U'.heap L ∧ FrameEnd U o U' L ({ frames := 1, cells := 0, slots := 0, locals := 12 } : Room).cells ({ frames := 1, cells := 0, slots := 0, locals := 12 } : Room).slots) := by
  refine MetFree.of_bodySF (plainFor_of_name pn_2) hisR ?_
  intro p e s m args below meth c s₁ Bd hml0 hP hK
  obtain ⟨rfl, hZ, hh⟩ := hP
  have hx := Bd.exec
  have hby := Bd.bytes
  have hml : c.maxLocals = 1 := hml0
  have hown : s.vm.findClass "java/util/AbstractCollection" = some m.cls := findClass_of_methodNamed Bd.named
  have hnm := (name_of_methodNamed Bd.named Bd.method).1
  have X0 : Stand p l e ({ frames := 1, cells := 0, slots := 0, locals := 12 } : Room) s m #[(.ref a1)] below meth c s₁ [] 0 0 := Stand.of_body Bd
  have e0 : s₁.heap = h0 := by rw [← hh, Bd.state]; rfl
  have N0 := Fr.nil n0
  have pre0 : ∀ t, Steps p.tables e below (s₁.setTop (mkF m 0 #[.val (.ref a1)] [])) t → Steps p.tables e below (s₁.setTop (entryFrame m #[(.ref a1)] 1)) t := fun t k => castTop (ef_rabc m a1) k
  change Go p.tables e below (fun o U' => ∃ v L, o = .returned v ∧ Q_rabc Z a1 h0 n0 v U'.heap L ∧ FrameEnd s o U' L ({ frames := 1, cells := 0, slots := 0, locals := 12 } : Room).cells ({ frames := 1, cells := 0, slots := 0, locals := 12 } : Room).slots) (s₁.setTop (entryFrame m #[(.ref a1)] 1))
  refine Go.on pre0 ?_
  refine Go.on (B := s₁.setTop (mkF m 1 #[.val (.ref a1)] [(.ref a1)])) (fun t k => XS.aloadN X0.here hx rfl (hb hby d10_0) rfl rfl k) ?_
  obtain ⟨T1, X1, e1, st1⟩ := initO X0 hx hZ hown (hw _ (List.mem_of_getElem? (i := 57) rfl)) (hw _ (List.mem_of_getElem? (i := 12) rfl)) (hw _ (List.mem_of_getElem? (i := 13) rfl)) e0 (g := (mkF m 1 #[.val (.ref a1)] [(.ref a1)])) rfl (by rw [hml]; rfl) rfl (hb hby d10_1) (by decide) (W := 0) (by show 2 * 0 + _ ≤ _; exact Nat.le_of_eq rfl) (by decide)
  refine Go.on (B := T1.setTop (mkF m 4 #[.val (.ref a1)] [])) (fun t k => st1 _ k) ?_
  obtain ⟨fs, hr, hrun, hended, hW, hsame⟩ := X1.leave (v := none) (fun _ => rfl)
  refine ⟨_, _, ?_, hrun, hended, _, _, rfl, ?_, ⟨_, rfl⟩, hW, hsame.mono (by decide) (by decide)⟩
  · exact X1.returnOut hx Bd.returns (hb hby d10_4) hr
  · show Q_rabc Z a1 h0 n0 _ T1.heap _
    rw [e1]
    exact ⟨rfl, N0, rfl⟩
theorem d9_0 : decode jdk_39_method_1_code 0 = .ok (.aload_n 0, 1) := by decide +kernel
theorem d9_1 : decode jdk_39_method_1_code 1 = .ok (.invokespecial 1, 3) := by decide +kernel
theorem d9_4 : decode jdk_39_method_1_code 4 = .ok (.aload_n 0, 1) := by decide +kernel
theorem d9_5 : decode jdk_39_method_1_code 5 = .ok (.iconst 0, 1) := by decide +kernel
theorem d9_6 : decode jdk_39_method_1_code 6 = .ok (.putfield 7, 3) := by decide +kernel
theorem d9_9 : decode jdk_39_method_1_code 9 = .ok (.return_, 1) := by decide +kernel
theorem pd_0 : parseMethodDescriptor "()V" = some ⟨[], none⟩ := by decide +kernel
theorem pn_5 : plainName "java/util/AbstractList" = true := by first | (simp [plainName, overriddenIn]; done) | decide +kernel
theorem ef_rabl (m : MethodId) (a1 : Addr) : entryFrame m #[(.ref a1)] 1 = mkF m 0 #[.val (.ref a1)] [] := by first | (simp [entryFrame, mkF, argsToLocals, Value.category]; done) | rfl
def Q_rabl (Z : State) (a1 : Addr) (h0 : Heap) (n0 : Nat) (v : Option Value) (h : Heap) (L : List Loc) : Prop := v = none ∧ Fr n0 L ∧ Keep h0 h [a1] ∧ Exa Z h a1 "java/util/ArrayList" ∧ Fld Z h a1 "java/util/AbstractList" "modCount" "I" (.int (0 : Int32)) ∧ Fld Z h a1 "java/util/ArrayList" "elementData" "[Ljava/lang/Object;" .null
set_option maxRecDepth 65536 in
set_option maxHeartbeats 40000000 in
theorem rabl (l : Launch) (Z : State) (a0 : Array Value) (hw : ∀ d ∈ tables_1, d.before a0 Z = true) (ws : List Jvm.Cond) (a1 : Addr) (h0 : Heap) (n0 : Nat) (Z0 : n0 ≤ h0.size) (E1 : Exa Z h0 a1 "java/util/ArrayList") (F_mc : Fld Z h0 a1 "java/util/AbstractList" "modCount" "I" (.int (0 : Int32))) (F_ed : Fld Z h0 a1 "java/util/ArrayList" "elementData" "[Ljava/lang/Object;" .null) (g1 : n0 ≤ a1) :
    MetFree l (⟨"java/util/AbstractList", "<init>", "()V"⟩ : MethodName) (head1 (Jvm.Cond.code (⟨"java/util/AbstractList", "<init>", "()V"⟩ : MethodName) jdk_39_method_1_code 1 none :: ws) ({ frames := 2, cells := 0, slots := 0, locals := 24 } : Room)) (fun a U => a = #[(.ref a1)] ∧ Z.Warmed39 U.vm ∧ U.heap = h0) (fun _ _ _ _ _ => True) (fun _ U o U' => ∃ v L, o = .returned v ∧ Q_rabl Z a1 h0 n0 v U'.heap L ∧ FrameEnd U o U' L ({ frames := 2, cells := 0, slots := 0, locals := 24 } : Room).cells ({ frames := 2, cells := 0, slots := 0, locals := 24 } : Room).slots) := by
  refine MetFree.of_bodySF (plainFor_of_name pn_5) hisR ?_
  intro p e s m args below meth c s₁ Bd hml0 hP hK
  obtain ⟨rfl, hZ, hh⟩ := hP
  have hx := Bd.exec
  have hby := Bd.bytes
  have hml : c.maxLocals = 1 := hml0
  have hown : s.vm.findClass "java/util/AbstractList" = some m.cls := findClass_of_methodNamed Bd.named
  have hnm := (name_of_methodNamed Bd.named Bd.method).1
  have X0 : Stand p l e ({ frames := 2, cells := 0, slots := 0, locals := 24 } : Room) s m #[(.ref a1)] below meth c s₁ [] 0 0 := Stand.of_body Bd
  have e0 : s₁.heap = h0 := by rw [← hh, Bd.state]; rfl
  have N0 := Fr.nil n0
  have pre0 : ∀ t, Steps p.tables e below (s₁.setTop (mkF m 0 #[.val (.ref a1)] [])) t → Steps p.tables e below (s₁.setTop (entryFrame m #[(.ref a1)] 1)) t := fun t k => castTop (ef_rabl m a1) k
  change Go p.tables e below (fun o U' => ∃ v L, o = .returned v ∧ Q_rabl Z a1 h0 n0 v U'.heap L ∧ FrameEnd s o U' L ({ frames := 2, cells := 0, slots := 0, locals := 24 } : Room).cells ({ frames := 2, cells := 0, slots := 0, locals := 24 } : Room).slots) (s₁.setTop (entryFrame m #[(.ref a1)] 1))
  have K0 := Keep.refl h0 [a1]
  refine Go.on pre0 ?_
  refine Go.on (B := s₁.setTop (mkF m 1 #[.val (.ref a1)] [(.ref a1)])) (fun t k => XS.aloadN X0.here hx rfl (hb hby d9_0) rfl rfl k) ?_
  obtain ⟨_, _, ⟨T1, L1, k1, n1⟩, -, X1, ⟨Lc1, hQ1, l1, y1, z1⟩, st1⟩ := X0.specialBack hx (y := (⟨"java/util/AbstractCollection", "<init>", "()V"⟩ : MethodName)) rfl hown (mvT hZ (hw _ (List.mem_of_getElem? (i := 51) rfl))) (mvT hZ (hw _ (List.mem_of_getElem? (i := 52) rfl))) (mvT hZ (hw _ (List.mem_of_getElem? (i := 56) rfl))) (by decide) (backOf (W := 0) (rabc l Z a0 hw [] a1 h0 n0 Z0) hZ (hw _ (List.mem_of_getElem? (i := 56) rfl)) (hw _ (List.mem_of_getElem? (i := 55) rfl)) (by decide) (by decide)) (g := (mkF m 1 #[.val (.ref a1)] [(.ref a1)])) rfl (by rw [hml]; rfl) (Steps.refl _) (a := a1) (argsL := []) (rest := []) (lenOf pd_0 rfl) rfl (by show 2 * 0 + _ ≤ _; exact Nat.le_of_eq rfl) (hb hby d9_1) (fun _ _ => ⟨rfl, e0, (by decide : 0 + 0 ≤ _), (by decide : 0 + 0 ≤ _)⟩)
  dsimp only [Pt.U, Pt.locs, Pt.cells, Pt.slots] at X1 l1 y1 z1 st1 hQ1
  subst l1 y1 z1
  obtain ⟨rfl, N1q, e1q⟩ := hQ1
  have N1 := Fr.app N0 N1q
  refine Go.on (B := T1.setTop (mkF m 4 #[.val (.ref a1)] [])) (fun t k => st1.trans k) ?_
  refine Go.on (B := T1.setTop (mkF m 5 #[.val (.ref a1)] [(.ref a1)])) (fun t k => XS.aloadN X1.here hx rfl (hb hby d9_4) rfl rfl k) ?_
  refine Go.on (B := T1.setTop (mkF m 6 #[.val (.ref a1)] [(.int (0 : Int32)), (.ref a1)])) (fun t k => XS.iconst X1.here hx rfl (hb hby d9_5) k) ?_
  obtain ⟨T2, h2, X2, e2, W2, st2⟩ := putF X1 hx hZ hown (host := "") (Or.inl (hw _ (List.mem_of_getElem? (i := 58) rfl))) Via.refl e1q F_mc E1 (Or.inl (hw _ (List.mem_of_getElem? (i := 59) rfl))) (hw _ (List.mem_of_getElem? (i := 40) rfl)) (ty := .int) (by decide) rfl rfl (g := (mkF m 6 #[.val (.ref a1)] [(.int (0 : Int32)), (.ref a1)])) rfl rfl (hb hby d9_6)
  have N2 := Fr.snoc X2 N1 g1
  have Fw2 := F_mc.same W2
  have f1 := E1.wr W2
  have f2 := F_ed.other W2 (Or.inr (slot_ne (Or.inl (hw _ (List.mem_of_getElem? (i := 62) rfl))) (Or.inl (hw _ (List.mem_of_getElem? (i := 59) rfl))) (by decide) (t := (.array (.object "java/lang/Object"))) (t' := .int) (by decide) (by decide)))
  have Zs3 := Nat.le_trans Z0 (Keep.of_wr W2).1
  have K4 := K0.wr W2 (Or.inl (List.mem_of_getElem? (i := 0) rfl))
  refine Go.on (B := T2.setTop (mkF m 9 #[.val (.ref a1)] [])) (fun t k => st2 _ k) ?_
  obtain ⟨fs, hr, hrun, hended, hW, hsame⟩ := X2.leave (v := none) (fun _ => rfl)
  refine ⟨_, _, ?_, hrun, hended, _, _, rfl, ?_, ⟨_, rfl⟩, hW, hsame.mono (by decide) (by decide)⟩
  · exact X2.returnOut hx Bd.returns (hb hby d9_9) hr
  · show Q_rabl Z a1 h0 n0 _ T2.heap _
    rw [e2]
    exact ⟨rfl, N2, K4, f1, Fw2, f2⟩
theorem d8_0 : decode jdk_38_method_2_code 0 = .ok (.aload_n 0, 1) := by decide +kernel
theorem d8_1 : decode jdk_38_method_2_code 1 = .ok (.invokespecial 1, 3) := by decide +kernel
theorem d8_4 : decode jdk_38_method_2_code 4 = .ok (.aload_n 0, 1) := by decide +kernel
theorem d8_5 : decode jdk_38_method_2_code 5 = .ok (.getstatic 39, 3) := by decide +kernel
theorem d8_8 : decode jdk_38_method_2_code 8 = .ok (.putfield 9, 3) := by decide +kernel
theorem d8_11 : decode jdk_38_method_2_code 11 = .ok (.return_, 1) := by decide +kernel
theorem pn_7 : plainName "java/util/ArrayList" = true := by first | (simp [plainName, overriddenIn]; done) | decide +kernel
theorem ef_ral (m : MethodId) (a1 : Addr) : entryFrame m #[(.ref a1)] 1 = mkF m 0 #[.val (.ref a1)] [] := by first | (simp [entryFrame, mkF, argsToLocals, Value.category]; done) | rfl
def Q_ral (Z : State) (a1 : Addr) (da : Addr) (h0 : Heap) (n0 : Nat) (v : Option Value) (h : Heap) (L : List Loc) : Prop := v = none ∧ Fr n0 L ∧ Keep h0 h [a1] ∧ Exa Z h a1 "java/util/ArrayList"
set_option maxRecDepth 65536 in
set_option maxHeartbeats 40000000 in
theorem ral (l : Launch) (Z : State) (a0 : Array Value) (hw : ∀ d ∈ tables_1, d.before a0 Z = true) (ws : List Jvm.Cond) (a1 : Addr) (da : Addr) (h0 : Heap) (n0 : Nat) (Z0 : n0 ≤ h0.size) (E1 : Exa Z h0 a1 "java/util/ArrayList") (F_mc : Fld Z h0 a1 "java/util/AbstractList" "modCount" "I" (.int (0 : Int32))) (F_ed : Fld Z h0 a1 "java/util/ArrayList" "elementData" "[Ljava/lang/Object;" .null) (g1 : n0 ≤ a1) (O0 : Old Z n0 h0) (S_de : Sta Z Z.heap "java/util/ArrayList" "DEFAULTCAPACITY_EMPTY_ELEMENTDATA" "[Ljava/lang/Object;" (.ref da)) :
    MetFree l (⟨"java/util/ArrayList", "<init>", "()V"⟩ : MethodName) (head1 (Jvm.Cond.code (⟨"java/util/ArrayList", "<init>", "()V"⟩ : MethodName) jdk_38_method_2_code 1 none :: ws) ({ frames := 3, cells := 0, slots := 0, locals := 36 } : Room)) (fun a U => a = #[(.ref a1)] ∧ Z.Warmed39 U.vm ∧ U.heap = h0) (fun _ _ _ _ _ => True) (fun _ U o U' => ∃ v L, o = .returned v ∧ Q_ral Z a1 da h0 n0 v U'.heap L ∧ FrameEnd U o U' L ({ frames := 3, cells := 0, slots := 0, locals := 36 } : Room).cells ({ frames := 3, cells := 0, slots := 0, locals := 36 } : Room).slots) := by
  refine MetFree.of_bodySF (plainFor_of_name pn_7) hisR ?_
  intro p e s m args below meth c s₁ Bd hml0 hP hK
  obtain ⟨rfl, hZ, hh⟩ := hP
  have hx := Bd.exec
  have hby := Bd.bytes
  have hml : c.maxLocals = 1 := hml0
  have hown : s.vm.findClass "java/util/ArrayList" = some m.cls := findClass_of_methodNamed Bd.named
  have hnm := (name_of_methodNamed Bd.named Bd.method).1
  have X0 : Stand p l e ({ frames := 3, cells := 0, slots := 0, locals := 36 } : Room) s m #[(.ref a1)] below meth c s₁ [] 0 0 := Stand.of_body Bd
  have e0 : s₁.heap = h0 := by rw [← hh, Bd.state]; rfl
  have N0 := Fr.nil n0
  have pre0 : ∀ t, Steps p.tables e below (s₁.setTop (mkF m 0 #[.val (.ref a1)] [])) t → Steps p.tables e below (s₁.setTop (entryFrame m #[(.ref a1)] 1)) t := fun t k => castTop (ef_ral m a1) k
  change Go p.tables e below (fun o U' => ∃ v L, o = .returned v ∧ Q_ral Z a1 da h0 n0 v U'.heap L ∧ FrameEnd s o U' L ({ frames := 3, cells := 0, slots := 0, locals := 36 } : Room).cells ({ frames := 3, cells := 0, slots := 0, locals := 36 } : Room).slots) (s₁.setTop (entryFrame m #[(.ref a1)] 1))
  have K0 := Keep.refl h0 [a1]
  refine Go.on pre0 ?_
  refine Go.on (B := s₁.setTop (mkF m 1 #[.val (.ref a1)] [(.ref a1)])) (fun t k => XS.aloadN X0.here hx rfl (hb hby d8_0) rfl rfl k) ?_
  obtain ⟨_, _, ⟨T1, L1, k1, n1⟩, -, X1, ⟨Lc1, hQ1, l1, y1, z1⟩, st1⟩ := X0.specialBack hx (y := (⟨"java/util/AbstractList", "<init>", "()V"⟩ : MethodName)) rfl hown (mvT hZ (hw _ (List.mem_of_getElem? (i := 45) rfl))) (mvT hZ (hw _ (List.mem_of_getElem? (i := 46) rfl))) (mvT hZ (hw _ (List.mem_of_getElem? (i := 50) rfl))) (by decide) (backOf (W := 0) (rabl l Z a0 hw [] a1 h0 n0 Z0 E1 F_mc F_ed g1) hZ (hw _ (List.mem_of_getElem? (i := 50) rfl)) (hw _ (List.mem_of_getElem? (i := 49) rfl)) (by decide) (by decide)) (g := (mkF m 1 #[.val (.ref a1)] [(.ref a1)])) rfl (by rw [hml]; rfl) (Steps.refl _) (a := a1) (argsL := []) (rest := []) (lenOf pd_0 rfl) rfl (by show 2 * 0 + _ ≤ _; exact Nat.le_of_eq rfl) (hb hby d8_1) (fun _ _ => ⟨rfl, e0, (by decide : 0 + 0 ≤ _), (by decide : 0 + 0 ≤ _)⟩)
  dsimp only [Pt.U, Pt.locs, Pt.cells, Pt.slots] at X1 l1 y1 z1 st1 hQ1
  subst l1 y1 z1
  obtain ⟨rfl, N1q, K1q, G1_0, G1_1, G1_2⟩ := hQ1
  have N1 := Fr.app N0 N1q
  have f1 := E1.keep K1q
  have O_2 := O0.keep K1q (allS g1 all0)
  have Zs3 := Nat.le_trans Z0 K1q.1
  have K4 := K0.trans K1q (allS (Or.inl (List.mem_of_getElem? (i := 0) rfl)) all0)
  refine Go.on (B := T1.setTop (mkF m 4 #[.val (.ref a1)] [])) (fun t k => st1.trans k) ?_
  refine Go.on (B := T1.setTop (mkF m 5 #[.val (.ref a1)] [(.ref a1)])) (fun t k => XS.aloadN X1.here hx rfl (hb hby d8_4) rfl rfl k) ?_
  obtain ⟨T2, X2, e2, st2⟩ := getS2 X1 hx hZ hown (host := "") (Or.inl (hw _ (List.mem_of_getElem? (i := 60) rfl))) Via.refl rfl (S_de.ext O_2.2) (g := (mkF m 5 #[.val (.ref a1)] [(.ref a1)])) rfl (hb hby d8_5)
  refine Go.on (B := T2.setTop (mkF m 8 #[.val (.ref a1)] [(.ref da), (.ref a1)])) (fun t k => st2 _ k) ?_
  obtain ⟨T3, h3, X3, e3, W3, st3⟩ := putF X2 hx hZ hown (host := "") (Or.inl (hw _ (List.mem_of_getElem? (i := 61) rfl))) Via.refl e2 G1_2 G1_0 (Or.inl (hw _ (List.mem_of_getElem? (i := 62) rfl))) (hw _ (List.mem_of_getElem? (i := 40) rfl)) (ty := (.array (.object "java/lang/Object"))) (by decide) rfl rfl (g := (mkF m 8 #[.val (.ref a1)] [(.ref da), (.ref a1)])) rfl rfl (hb hby d8_8)
  have N3 := Fr.snoc X3 N1 g1
  have Fw3 := G1_2.same W3
  have f5 := G1_0.wr W3
  have O_6 := O_2.wr W3 g1
  have f7 := G1_1.other W3 (Or.inr (slot_ne (Or.inl (hw _ (List.mem_of_getElem? (i := 59) rfl))) (Or.inl (hw _ (List.mem_of_getElem? (i := 62) rfl))) (by decide) (t := .int) (t' := (.array (.object "java/lang/Object"))) (by decide) (by decide)))
  have Zs8 := Nat.le_trans Zs3 (Keep.of_wr W3).1
  have K9 := K4.wr W3 (Or.inl (List.mem_of_getElem? (i := 0) rfl))
  refine Go.on (B := T3.setTop (mkF m 11 #[.val (.ref a1)] [])) (fun t k => st3 _ k) ?_
  obtain ⟨fs, hr, hrun, hended, hW, hsame⟩ := X3.leave (v := none) (fun _ => rfl)
  refine ⟨_, _, ?_, hrun, hended, _, _, rfl, ?_, ⟨_, rfl⟩, hW, hsame.mono (by decide) (by decide)⟩
  · exact X3.returnOut hx Bd.returns (hb hby d8_11) hr
  · show Q_ral Z a1 da h0 n0 _ T3.heap _
    rw [e3]
    exact ⟨rfl, N3, K9, f5⟩
theorem d7_0 : decode prog_31_method_1_code 0 = .ok (.aload_n 0, 1) := by decide +kernel
theorem d7_1 : decode prog_31_method_1_code 1 = .ok (.invokespecial 1, 3) := by decide +kernel
theorem d7_4 : decode prog_31_method_1_code 4 = .ok (.aload_n 0, 1) := by decide +kernel
theorem d7_5 : decode prog_31_method_1_code 5 = .ok (.new 7, 3) := by decide +kernel
theorem d7_8 : decode prog_31_method_1_code 8 = .ok (.dup, 1) := by decide +kernel
theorem d7_9 : decode prog_31_method_1_code 9 = .ok (.invokespecial 9, 3) := by decide +kernel
theorem d7_12 : decode prog_31_method_1_code 12 = .ok (.putfield 10, 3) := by decide +kernel
theorem d7_15 : decode prog_31_method_1_code 15 = .ok (.aload_n 0, 1) := by decide +kernel
theorem d7_16 : decode prog_31_method_1_code 16 = .ok (.aload_n 1, 1) := by decide +kernel
theorem d7_17 : decode prog_31_method_1_code 17 = .ok (.putfield 16, 3) := by decide +kernel
theorem d7_20 : decode prog_31_method_1_code 20 = .ok (.return_, 1) := by decide +kernel
theorem pn_9 : plainName "com/example/chronocert/chronocert/cli/CommandLine" = true := by first | (simp [plainName, overriddenIn]; done) | decide +kernel
theorem ef_rcl (m : MethodId) (a1 : Addr) (a2 : Addr) : entryFrame m #[(.ref a1), (.ref a2)] 2 = mkF m 0 #[.val (.ref a1), .val (.ref a2)] [] := by first | (simp [entryFrame, mkF, argsToLocals, Value.category]; done) | rfl
def Q_rcl (Z : State) (a1 : Addr) (a2 : Addr) (da : Addr) (h0 : Heap) (n0 : Nat) (v : Option Value) (h : Heap) (L : List Loc) : Prop := v = none ∧ Fr n0 L ∧ Keep h0 h [a1] ∧ Exa Z h a1 "com/example/chronocert/chronocert/cli/CommandLine" ∧ Fld Z h a1 "com/example/chronocert/chronocert/cli/CommandLine" "args" "[Ljava/lang/String;" (.ref a2) ∧ Fld Z h a1 "com/example/chronocert/chronocert/cli/CommandLine" "next" "I" (.int (0 : Int32))
set_option maxRecDepth 65536 in
set_option maxHeartbeats 40000000 in
theorem rcl (l : Launch) (Z : State) (a0 : Array Value) (hw : ∀ d ∈ tables_1, d.before a0 Z = true) (ws : List Jvm.Cond) (a1 : Addr) (a2 : Addr) (da : Addr) (h0 : Heap) (n0 : Nat) (Z0 : n0 ≤ h0.size) (E1 : Exa Z h0 a1 "com/example/chronocert/chronocert/cli/CommandLine") (F_operands : Fld Z h0 a1 "com/example/chronocert/chronocert/cli/CommandLine" "operands" "Ljava/util/List;" .null) (F_args : Fld Z h0 a1 "com/example/chronocert/chronocert/cli/CommandLine" "args" "[Ljava/lang/String;" .null) (F_next : Fld Z h0 a1 "com/example/chronocert/chronocert/cli/CommandLine" "next" "I" (.int (0 : Int32))) (g1 : n0 ≤ a1) (O0 : Old Z n0 h0) (S_de : Sta Z Z.heap "java/util/ArrayList" "DEFAULTCAPACITY_EMPTY_ELEMENTDATA" "[Ljava/lang/Object;" (.ref da)) :
    MetFree l (⟨"com/example/chronocert/chronocert/cli/CommandLine", "<init>", "([Ljava/lang/String;)V"⟩ : MethodName) (head1 (Jvm.Cond.code (⟨"com/example/chronocert/chronocert/cli/CommandLine", "<init>", "([Ljava/lang/String;)V"⟩ : MethodName) prog_31_method_1_code 2 none :: ws) ({ frames := 4, cells := 1, slots := 3, locals := 50 } : Room)) (fun a U => a = #[(.ref a1), (.ref a2)] ∧ Z.Warmed39 U.vm ∧ U.heap = h0) (fun _ _ _ _ _ => True) (fun _ U o U' => ∃ v L, o = .returned v ∧ Q_rcl Z a1 a2 da h0 n0 v U'.heap L ∧ FrameEnd U o U' L ({ frames := 4, cells := 1, slots := 3, locals := 50 } : Room).cells ({ frames := 4, cells := 1, slots := 3, locals := 50 } : Room).slots) := by
  refine MetFree.of_bodySF (plainFor_of_name pn_9) hisR ?_
  intro p e s m args below meth c s₁ Bd hml0 hP hK
  obtain ⟨rfl, hZ, hh⟩ := hP
  have hx := Bd.exec
  have hby := Bd.bytes
  have hml : c.maxLocals = 2 := hml0
  have hown : s.vm.findClass "com/example/chronocert/chronocert/cli/CommandLine" = some m.cls := findClass_of_methodNamed Bd.named
  have hnm := (name_of_methodNamed Bd.named Bd.method).1
  have X0 : Stand p l e ({ frames := 4, cells := 1, slots := 3, locals := 50 } : Room) s m #[(.ref a1), (.ref a2)] below meth c s₁ [] 0 0 := Stand.of_body Bd
  have e0 : s₁.heap = h0 := by rw [← hh, Bd.state]; rfl
  have N0 := Fr.nil n0
  have pre0 : ∀ t, Steps p.tables e below (s₁.setTop (mkF m 0 #[.val (.ref a1), .val (.ref a2)] [])) t → Steps p.tables e below (s₁.setTop (entryFrame m #[(.ref a1), (.ref a2)] 2)) t := fun t k => castTop (ef_rcl m a1 a2) k
  change Go p.tables e below (fun o U' => ∃ v L, o = .returned v ∧ Q_rcl Z a1 a2 da h0 n0 v U'.heap L ∧ FrameEnd s o U' L ({ frames := 4, cells := 1, slots := 3, locals := 50 } : Room).cells ({ frames := 4, cells := 1, slots := 3, locals := 50 } : Room).slots) (s₁.setTop (entryFrame m #[(.ref a1), (.ref a2)] 2))
  have K0 := Keep.refl h0 [a1]
  refine Go.on pre0 ?_
  refine Go.on (B := s₁.setTop (mkF m 1 #[.val (.ref a1), .val (.ref a2)] [(.ref a1)])) (fun t k => XS.aloadN X0.here hx rfl (hb hby d7_0) rfl rfl k) ?_
  obtain ⟨T1, X1, e1, st1⟩ := initO X0 hx hZ hown (hw _ (List.mem_of_getElem? (i := 38) rfl)) (hw _ (List.mem_of_getElem? (i := 12) rfl)) (hw _ (List.mem_of_getElem? (i := 13) rfl)) e0 (g := (mkF m 1 #[.val (.ref a1), .val (.ref a2)] [(.ref a1)])) rfl (by rw [hml]; rfl) rfl (hb hby d7_1) (by decide) (W := 0) (by show 2 * 0 + _ ≤ _; exact Nat.le_of_eq rfl) (by decide)
  refine Go.on (B := T1.setTop (mkF m 4 #[.val (.ref a1), .val (.ref a2)] [])) (fun t k => st1 _ k) ?_
  refine Go.on (B := T1.setTop (mkF m 5 #[.val (.ref a1), .val (.ref a2)] [(.ref a1)])) (fun t k => XS.aloadN X1.here hx rfl (hb hby d7_4) rfl rfl k) ?_
  obtain ⟨T2, h2, X2, e2, E2, A2, D2, -, st2⟩ := newO X1 hx hZ hown (hw _ (List.mem_of_getElem? (i := 39) rfl)) (hw _ (List.mem_of_getElem? (i := 40) rfl)) (hw _ (List.mem_of_getElem? (i := 41) rfl)) e1 (g := (mkF m 5 #[.val (.ref a1), .val (.ref a2)] [(.ref a1)])) rfl (hb hby d7_5) (by decide) (by decide)
  obtain ⟨b2, g2⟩ : ∃ z, z = h0.size := ⟨_, rfl⟩
  rw [← g2] at A2 D2 st2
  have ge_b2 : n0 ≤ b2 := Nat.le_trans Z0 (Nat.le_of_eq g2.symm)
  have sz_b2 : h0.size ≤ b2 := Nat.le_trans K0.1 (Nat.le_of_eq g2.symm)
  have ne_a1_b2 : a1 ≠ b2 := Nat.ne_of_lt (Nat.lt_of_lt_of_le E1.lt (Nat.le_of_eq g2.symm))
  have f1 := E1.ext E2
  have O_2 := O0.ext E2
  have f3 := F_operands.ext E2
  have f4 := F_args.ext E2
  have f5 := F_next.ext E2
  have Zs6 := Nat.le_trans Z0 E2.1
  have K7 := K0.ext E2
  have F2_modCount : Fld Z h2 b2 "java/util/AbstractList" "modCount" "I" (.int (0 : Int32)) := D2 (Or.inl (hw _ (List.mem_of_getElem? (i := 59) rfl))) (ty := .int) (by decide)
  have F2_elementData : Fld Z h2 b2 "java/util/ArrayList" "elementData" "[Ljava/lang/Object;" .null := D2 (Or.inl (hw _ (List.mem_of_getElem? (i := 62) rfl))) (ty := (.array (.object "java/lang/Object"))) (by decide)
  refine Go.on (B := T2.setTop (mkF m 8 #[.val (.ref a1), .val (.ref a2)] [(.ref b2), (.ref a1)])) (fun t k => st2 _ k) ?_
  refine Go.on (B := T2.setTop (mkF m 9 #[.val (.ref a1), .val (.ref a2)] [(.ref b2), (.ref b2), (.ref a1)])) (fun t k => XS.dup X2.here hx rfl (hb hby d7_8) rfl rfl k) ?_
  obtain ⟨_, _, ⟨T3, L3, k3, n3⟩, -, X3, ⟨Lc3, hQ3, l3, y3, z3⟩, st3⟩ := X2.specialBack hx (y := (⟨"java/util/ArrayList", "<init>", "()V"⟩ : MethodName)) rfl hown (mvT hZ (hw _ (List.mem_of_getElem? (i := 42) rfl))) (mvT hZ (hw _ (List.mem_of_getElem? (i := 43) rfl))) (mvT hZ (hw _ (List.mem_of_getElem? (i := 44) rfl))) (by decide) (backOf (W := 2) (ral l Z a0 hw [] b2 da h2 n0 Zs6 A2 F2_modCount F2_elementData ge_b2 O_2 S_de) hZ (hw _ (List.mem_of_getElem? (i := 44) rfl)) (hw _ (List.mem_of_getElem? (i := 41) rfl)) (by decide) (by decide)) (g := (mkF m 9 #[.val (.ref a1), .val (.ref a2)] [(.ref b2), (.ref b2), (.ref a1)])) rfl (by rw [hml]; rfl) (Steps.refl _) (a := b2) (argsL := []) (rest := [(.ref b2), (.ref a1)]) (lenOf pd_0 rfl) rfl (by show 2 * 0 + _ ≤ _; exact Nat.le_of_eq rfl) (hb hby d7_9) (fun _ _ => ⟨rfl, e2, (by decide : 1 + 0 ≤ _), (by decide : 3 + 0 ≤ _)⟩)
  dsimp only [Pt.U, Pt.locs, Pt.cells, Pt.slots] at X3 l3 y3 z3 st3 hQ3
  subst l3 y3 z3
  obtain ⟨rfl, N3q, K3q, G3_0⟩ := hQ3
  have N3 := Fr.app N0 N3q
  have f8 := f1.keep K3q
  have O_9 := O_2.keep K3q (allS ge_b2 all0)
  have f10 := f3.keep K3q (ninS ne_a1_b2 nin0)
  have f11 := f4.keep K3q (ninS ne_a1_b2 nin0)
  have f12 := f5.keep K3q (ninS ne_a1_b2 nin0)
  have f13 := A2.keep K3q
  have Zs14 := Nat.le_trans Zs6 K3q.1
  have K15 := K7.trans K3q (allS (Or.inr sz_b2) all0)
  refine Go.on (B := T3.setTop (mkF m 12 #[.val (.ref a1), .val (.ref a2)] [(.ref b2), (.ref a1)])) (fun t k => st3.trans k) ?_
  obtain ⟨T4, h4, X4, e4, W4, st4⟩ := putF X3 hx hZ hown (host := "") (Or.inl (hw _ (List.mem_of_getElem? (i := 63) rfl))) Via.refl rfl f10 f8 (Or.inr ⟨(hw _ (List.mem_of_getElem? (i := 64) rfl)), rfl, hnm⟩) (hw _ (List.mem_of_getElem? (i := 33) rfl)) (ty := (.object "java/util/List")) (by decide) rfl rfl (g := (mkF m 12 #[.val (.ref a1), .val (.ref a2)] [(.ref b2), (.ref a1)])) rfl rfl (hb hby d7_12)
  have N4 := Fr.snoc X4 N3 g1
  have Fw4 := f10.same W4
  have f16 := f8.wr W4
  have O_17 := O_9.wr W4 g1
  have f18 := f11.other W4 (Or.inr (slot_ne (Or.inr (hw _ (List.mem_of_getElem? (i := 66) rfl))) (Or.inr (hw _ (List.mem_of_getElem? (i := 64) rfl))) (by decide) (t := (.array (.object "java/lang/String"))) (t' := (.object "java/util/List")) (by decide) (by decide)))
  have f19 := f12.other W4 (Or.inr (slot_ne (Or.inl (hw _ (List.mem_of_getElem? (i := 73) rfl))) (Or.inr (hw _ (List.mem_of_getElem? (i := 64) rfl))) (by decide) (t := .int) (t' := (.object "java/util/List")) (by decide) (by decide)))
  have f20 := G3_0.wr W4
  have Zs21 := Nat.le_trans Zs14 (Keep.of_wr W4).1
  have K22 := K15.wr W4 (Or.inl (List.mem_of_getElem? (i := 0) rfl))
  refine Go.on (B := T4.setTop (mkF m 15 #[.val (.ref a1), .val (.ref a2)] [])) (fun t k => st4 _ k) ?_
  refine Go.on (B := T4.setTop (mkF m 16 #[.val (.ref a1), .val (.ref a2)] [(.ref a1)])) (fun t k => XS.aloadN X4.here hx rfl (hb hby d7_15) rfl rfl k) ?_
  refine Go.on (B := T4.setTop (mkF m 17 #[.val (.ref a1), .val (.ref a2)] [(.ref a2), (.ref a1)])) (fun t k => XS.aloadN X4.here hx rfl (hb hby d7_16) rfl rfl k) ?_
  obtain ⟨T5, h5, X5, e5, W5, st5⟩ := putF X4 hx hZ hown (host := "") (Or.inl (hw _ (List.mem_of_getElem? (i := 65) rfl))) Via.refl e4 f18 f16 (Or.inr ⟨(hw _ (List.mem_of_getElem? (i := 66) rfl)), rfl, hnm⟩) (hw _ (List.mem_of_getElem? (i := 33) rfl)) (ty := (.array (.object "java/lang/String"))) (by decide) rfl rfl (g := (mkF m 17 #[.val (.ref a1), .val (.ref a2)] [(.ref a2), (.ref a1)])) rfl rfl (hb hby d7_17)
  have N5 := Fr.snoc X5 N4 g1
  have Fw5 := f18.same W5
  have f23 := f16.wr W5
  have O_24 := O_17.wr W5 g1
  have f25 := Fw4.other W5 (Or.inr (slot_ne (Or.inr (hw _ (List.mem_of_getElem? (i := 64) rfl))) (Or.inr (hw _ (List.mem_of_getElem? (i := 66) rfl))) (by decide) (t := (.object "java/util/List")) (t' := (.array (.object "java/lang/String"))) (by decide) (by decide)))
  have f26 := f19.other W5 (Or.inr (slot_ne (Or.inl (hw _ (List.mem_of_getElem? (i := 73) rfl))) (Or.inr (hw _ (List.mem_of_getElem? (i := 66) rfl))) (by decide) (t := .int) (t' := (.array (.object "java/lang/String"))) (by decide) (by decide)))
  have f27 := f20.wr W5
  have Zs28 := Nat.le_trans Zs21 (Keep.of_wr W5).1
  have K29 := K22.wr W5 (Or.inl (List.mem_of_getElem? (i := 0) rfl))
  refine Go.on (B := T5.setTop (mkF m 20 #[.val (.ref a1), .val (.ref a2)] [])) (fun t k => st5 _ k) ?_
  obtain ⟨fs, hr, hrun, hended, hW, hsame⟩ := X5.leave (v := none) (fun _ => rfl)
  refine ⟨_, _, ?_, hrun, hended, _, _, rfl, ?_, ⟨_, rfl⟩, hW, hsame.mono (by decide) (by decide)⟩
  · exact X5.returnOut hx Bd.returns (hb hby d7_20) hr
  · show Q_rcl Z a1 a2 da h0 n0 _ T5.heap _
    rw [e5]
    exact ⟨rfl, N5, K29, f23, Fw5, f26⟩
theorem d11_0 : decode prog_31_method_2_code 0 = .ok (.aload_n 0, 1) := by decide +kernel
theorem d11_1 : decode prog_31_method_2_code 1 = .ok (.getfield 20, 3) := by decide +kernel
theorem d11_4 : decode prog_31_method_2_code 4 = .ok (.aload_n 0, 1) := by decide +kernel
theorem d11_5 : decode prog_31_method_2_code 5 = .ok (.getfield 16, 3) := by decide +kernel
theorem d11_8 : decode prog_31_method_2_code 8 = .ok (.arraylength, 1) := by decide +kernel
theorem d11_9 : decode prog_31_method_2_code 9 = .ok (.if_icmp .ge 7, 3) := by decide +kernel
theorem d11_12 : decode prog_31_method_2_code 12 = .ok (.iconst 1, 1) := by decide +kernel
theorem d11_13 : decode prog_31_method_2_code 13 = .ok (.goto 4, 3) := by decide +kernel
theorem d11_16 : decode prog_31_method_2_code 16 = .ok (.iconst 0, 1) := by decide +kernel
theorem d11_17 : decode prog_31_method_2_code 17 = .ok (.ireturn, 1) := by decide +kernel
theorem ef_rhn (m : MethodId) (a1 : Addr) : entryFrame m #[(.ref a1)] 1 = mkF m 0 #[.val (.ref a1)] [] := by first | (simp [entryFrame, mkF, argsToLocals, Value.category]; done) | rfl
def Q_rhn (Z : State) (a1 : Addr) (a2 : Addr) (k2 : ClassId) (z2 : Int32) (vs : List Value) (p3 : Int32) (r : Int32) (h0 : Heap) (n0 : Nat) (v : Option Value) (h : Heap) (L : List Loc) : Prop := v = some (.int r) ∧ Fr n0 L ∧ h = h0
set_option maxRecDepth 65536 in
set_option maxHeartbeats 40000000 in
theorem rhn (l : Launch) (Z : State) (a0 : Array Value) (hw : ∀ d ∈ tables_1, d.before a0 Z = true) (ws : List Jvm.Cond) (a1 : Addr) (a2 : Addr) (k2 : ClassId) (z2 : Int32) (vs : List Value) (p3 : Int32) (r : Int32) (h0 : Heap) (n0 : Nat) (Z0 : n0 ≤ h0.size) (E1 : Exa Z h0 a1 "com/example/chronocert/chronocert/cli/CommandLine") (F_args : Fld Z h0 a1 "com/example/chronocert/chronocert/cli/CommandLine" "args" "[Ljava/lang/String;" (.ref a2)) (F_next : Fld Z h0 a1 "com/example/chronocert/chronocert/cli/CommandLine" "next" "I" (.int p3)) (V2 : Arv Z h0 a2 k2 (.object "java/lang/String") z2 vs .null) (hrr : (if p3 < z2 then (1 : Int32) else (0 : Int32)) = r) :
    MetFree l (⟨"com/example/chronocert/chronocert/cli/CommandLine", "hasNext", "()Z"⟩ : MethodName) (head1 (Jvm.Cond.code (⟨"com/example/chronocert/chronocert/cli/CommandLine", "hasNext", "()Z"⟩ : MethodName) prog_31_method_2_code 1 (some .boolean) :: ws) ({ frames := 0, cells := 0, slots := 0, locals := 0 } : Room)) (fun a U => a = #[(.ref a1)] ∧ Z.Warmed39 U.vm ∧ U.heap = h0) (fun _ _ _ _ _ => True) (fun _ U o U' => ∃ v L, o = .returned v ∧ Q_rhn Z a1 a2 k2 z2 vs p3 r h0 n0 v U'.heap L ∧ FrameEnd U o U' L ({ frames := 0, cells := 0, slots := 0, locals := 0 } : Room).cells ({ frames := 0, cells := 0, slots := 0, locals := 0 } : Room).slots) := by
  refine MetFree.of_bodySF (plainFor_of_name pn_9) hisR ?_
  intro p e s m args below meth c s₁ Bd hml0 hP hK
  obtain ⟨rfl, hZ, hh⟩ := hP
  have hx := Bd.exec
  have hby := Bd.bytes
  have hml : c.maxLocals = 1 := hml0
  have hown : s.vm.findClass "com/example/chronocert/chronocert/cli/CommandLine" = some m.cls := findClass_of_methodNamed Bd.named
  have hnm := (name_of_methodNamed Bd.named Bd.method).1
  have X0 : Stand p l e ({ frames := 0, cells := 0, slots := 0, locals := 0 } : Room) s m #[(.ref a1)] below meth c s₁ [] 0 0 := Stand.of_body Bd
  have e0 : s₁.heap = h0 := by rw [← hh, Bd.state]; rfl
  have N0 := Fr.nil n0
  have pre0 : ∀ t, Steps p.tables e below (s₁.setTop (mkF m 0 #[.val (.ref a1)] [])) t → Steps p.tables e below (s₁.setTop (entryFrame m #[(.ref a1)] 1)) t := fun t k => castTop (ef_rhn m a1) k
  change Go p.tables e below (fun o U' => ∃ v L, o = .returned v ∧ Q_rhn Z a1 a2 k2 z2 vs p3 r h0 n0 v U'.heap L ∧ FrameEnd s o U' L ({ frames := 0, cells := 0, slots := 0, locals := 0 } : Room).cells ({ frames := 0, cells := 0, slots := 0, locals := 0 } : Room).slots) (s₁.setTop (entryFrame m #[(.ref a1)] 1))
  refine Go.on pre0 ?_
  refine Go.on (B := s₁.setTop (mkF m 1 #[.val (.ref a1)] [(.ref a1)])) (fun t k => XS.aloadN X0.here hx rfl (hb hby d11_0) rfl rfl k) ?_
  obtain ⟨T1, X1, e1, st1⟩ := getF X0 hx hZ hown (host := "") (Or.inl (hw _ (List.mem_of_getElem? (i := 72) rfl))) Via.refl e0 F_next (g := (mkF m 1 #[.val (.ref a1)] [(.ref a1)])) rfl rfl (hb hby d11_1)
  refine Go.on (B := T1.setTop (mkF m 4 #[.val (.ref a1)] [(.int p3)])) (fun t k => st1 _ k) ?_
  refine Go.on (B := T1.setTop (mkF m 5 #[.val (.ref a1)] [(.ref a1), (.int p3)])) (fun t k => XS.aloadN X1.here hx rfl (hb hby d11_4) rfl rfl k) ?_
  obtain ⟨T2, X2, e2, st2⟩ := getF X1 hx hZ hown (host := "") (Or.inl (hw _ (List.mem_of_getElem? (i := 65) rfl))) Via.refl e1 F_args (g := (mkF m 5 #[.val (.ref a1)] [(.ref a1), (.int p3)])) rfl rfl (hb hby d11_5)
  refine Go.on (B := T2.setTop (mkF m 8 #[.val (.ref a1)] [(.ref a2), (.int p3)])) (fun t k => st2 _ k) ?_
  obtain ⟨cl3, Ar3, -, Sz3, Ng3, -, -⟩ := id V2
  refine Go.on (B := T2.setTop (mkF m 9 #[.val (.ref a1)] [(.int z2), (.int p3)])) (fun t k => X2.arraylength hx (by rw [e2]; exact Ar3.1) (State.isArrayOf_alike hZ.alike Ar3.2.1) (g := (mkF m 8 #[.val (.ref a1)] [(.ref a2), (.int p3)])) rfl rfl (hb hby d11_8) _ (by rw [len_of Sz3 Ng3]; exact k)) ?_
  by_cases hc9_4 : p3 < z2
  · refine Go.on (B := T2.setTop (mkF m 12 #[.val (.ref a1)] [])) (fun t k => XS.icmpNo X2.here hx rfl (hb hby d11_9) rfl (tlt hc9_4).2.1 k) ?_
    refine Go.on (B := T2.setTop (mkF m 13 #[.val (.ref a1)] [(.int (1 : Int32))])) (fun t k => XS.iconst X2.here hx rfl (hb hby d11_12) k) ?_
    refine Go.on (B := T2.setTop (mkF m 17 #[.val (.ref a1)] [(.int (1 : Int32))])) (fun t k => XS.goto X2.here hx rfl (pc0 := 13) (pc' := 17) rfl (hb hby d11_13) (by decide) (by decide) k) ?_
    obtain ⟨fs, hr, hrun, hended, hW, hsame⟩ := X2.leave (v := some (.int (1 : Int32))) (fun h => by rw [Bd.returns] at h; cases h)
    refine ⟨_, _, ?_, hrun, hended, _, _, rfl, ?_, ⟨_, rfl⟩, hW, hsame.mono (by decide) (by decide)⟩
    · exact retN X2 hx (t := .boolean) Bd.returns (by simp) (hb hby d11_17) hr
    · show Q_rhn Z a1 a2 k2 z2 vs p3 r h0 n0 _ T2.heap _
      rw [e2]
      exact ⟨by rw [← hrr]; simp [hc9_4], N0, rfl⟩
  · refine Go.on (B := T2.setTop (mkF m 16 #[.val (.ref a1)] [])) (fun t k => XS.icmpYes X2.here hx rfl (pc0 := 9) (pc' := 16) rfl (hb hby d11_9) rfl (flt hc9_4).2.1 (by decide) (by decide) k) ?_
    refine Go.on (B := T2.setTop (mkF m 17 #[.val (.ref a1)] [(.int (0 : Int32))])) (fun t k => XS.iconst X2.here hx rfl (hb hby d11_16) k) ?_
    obtain ⟨fs, hr, hrun, hended, hW, hsame⟩ := X2.leave (v := some (.int (0 : Int32))) (fun h => by rw [Bd.returns] at h; cases h)
    refine ⟨_, _, ?_, hrun, hended, _, _, rfl, ?_, ⟨_, rfl⟩, hW, hsame.mono (by decide) (by decide)⟩
    · exact retN X2 hx (t := .boolean) Bd.returns (by simp) (hb hby d11_17) hr
    · show Q_rhn Z a1 a2 k2 z2 vs p3 r h0 n0 _ T2.heap _
      rw [e2]
      exact ⟨by rw [← hrr]; simp [hc9_4], N0, rfl⟩
theorem d12_0 : decode prog_31_method_3_code 0 = .ok (.aload_n 0, 1) := by decide +kernel
theorem d12_1 : decode prog_31_method_3_code 1 = .ok (.getfield 16, 3) := by decide +kernel
theorem d12_4 : decode prog_31_method_3_code 4 = .ok (.aload_n 0, 1) := by decide +kernel
theorem d12_5 : decode prog_31_method_3_code 5 = .ok (.dup, 1) := by decide +kernel
theorem d12_6 : decode prog_31_method_3_code 6 = .ok (.getfield 20, 3) := by decide +kernel
theorem d12_9 : decode prog_31_method_3_code 9 = .ok (.dup_x1, 1) := by decide +kernel
theorem d12_10 : decode prog_31_method_3_code 10 = .ok (.iconst 1, 1) := by decide +kernel
theorem d12_11 : decode prog_31_method_3_code 11 = .ok (.iadd, 1) := by decide +kernel
theorem d12_12 : decode prog_31_method_3_code 12 = .ok (.putfield 20, 3) := by decide +kernel
theorem d12_15 : decode prog_31_method_3_code 15 = .ok (.aaload, 1) := by decide +kernel
theorem d12_16 : decode prog_31_method_3_code 16 = .ok (.areturn, 1) := by decide +kernel
theorem ef_rnx (m : MethodId) (a1 : Addr) : entryFrame m #[(.ref a1)] 1 = mkF m 0 #[.val (.ref a1)] [] := by first | (simp [entryFrame, mkF, argsToLocals, Value.category]; done) | rfl
def Q_rnx (Z : State) (a1 : Addr) (a2 : Addr) (k2 : ClassId) (z2 : Int32) (vs : List Value) (p3 : Int32) (x4 : Addr) (p5 : Int32) (h0 : Heap) (n0 : Nat) (v : Option Value) (h : Heap) (L : List Loc) : Prop := v = some (.ref x4) ∧ Fr n0 L ∧ Keep h0 h [a1] ∧ Exa Z h a1 "com/example/chronocert/chronocert/cli/CommandLine" ∧ Fld Z h a1 "com/example/chronocert/chronocert/cli/CommandLine" "args" "[Ljava/lang/String;" (.ref a2) ∧ Fld Z h a1 "com/example/chronocert/chronocert/cli/CommandLine" "next" "I" (.int p5)
set_option maxRecDepth 65536 in
set_option maxHeartbeats 40000000 in
theorem rnx (l : Launch) (Z : State) (a0 : Array Value) (hw : ∀ d ∈ tables_1, d.before a0 Z = true) (ws : List Jvm.Cond) (a1 : Addr) (a2 : Addr) (k2 : ClassId) (z2 : Int32) (vs : List Value) (p3 : Int32) (x4 : Addr) (p5 : Int32) (h0 : Heap) (n0 : Nat) (Z0 : n0 ≤ h0.size) (E1 : Exa Z h0 a1 "com/example/chronocert/chronocert/cli/CommandLine") (F_args : Fld Z h0 a1 "com/example/chronocert/chronocert/cli/CommandLine" "args" "[Ljava/lang/String;" (.ref a2)) (F_next : Fld Z h0 a1 "com/example/chronocert/chronocert/cli/CommandLine" "next" "I" (.int p3)) (V2 : Arv Z h0 a2 k2 (.object "java/lang/String") z2 vs .null) (hne : a2 ≠ a1) (g1 : n0 ≤ a1) (hi : ¬ p3 < 0 ∧ p3 < z2) (hv : vs.getD p3.toNatClampNeg .null = .ref x4) (hp5 : (p3 + (1 : Int32)) = p5) (hnz : ¬ (p3 = z2)) :
    MetFree l (⟨"com/example/chronocert/chronocert/cli/CommandLine", "next", "()Ljava/lang/String;"⟩ : MethodName) (head1 (Jvm.Cond.code (⟨"com/example/chronocert/chronocert/cli/CommandLine", "next", "()Ljava/lang/String;"⟩ : MethodName) prog_31_method_3_code 1 (some (.object "java/lang/String")) :: ws) ({ frames := 0, cells := 0, slots := 0, locals := 0 } : Room)) (fun a U => a = #[(.ref a1)] ∧ Z.Warmed39 U.vm ∧ U.heap = h0) (fun _ _ _ _ _ => True) (fun _ U o U' => ∃ v L, o = .returned v ∧ Q_rnx Z a1 a2 k2 z2 vs p3 x4 p5 h0 n0 v U'.heap L ∧ FrameEnd U o U' L ({ frames := 0, cells := 0, slots := 0, locals := 0 } : Room).cells ({ frames := 0, cells := 0, slots := 0, locals := 0 } : Room).slots) := by
  refine MetFree.of_bodySF (plainFor_of_name pn_9) hisR ?_
  intro p e s m args below meth c s₁ Bd hml0 hP hK
  obtain ⟨rfl, hZ, hh⟩ := hP
  have hx := Bd.exec
  have hby := Bd.bytes
  have hml : c.maxLocals = 1 := hml0
  have hown : s.vm.findClass "com/example/chronocert/chronocert/cli/CommandLine" = some m.cls := findClass_of_methodNamed Bd.named
  have hnm := (name_of_methodNamed Bd.named Bd.method).1
  have X0 : Stand p l e ({ frames := 0, cells := 0, slots := 0, locals := 0 } : Room) s m #[(.ref a1)] below meth c s₁ [] 0 0 := Stand.of_body Bd
  have e0 : s₁.heap = h0 := by rw [← hh, Bd.state]; rfl
  have N0 := Fr.nil n0
  have pre0 : ∀ t, Steps p.tables e below (s₁.setTop (mkF m 0 #[.val (.ref a1)] [])) t → Steps p.tables e below (s₁.setTop (entryFrame m #[(.ref a1)] 1)) t := fun t k => castTop (ef_rnx m a1) k
  change Go p.tables e below (fun o U' => ∃ v L, o = .returned v ∧ Q_rnx Z a1 a2 k2 z2 vs p3 x4 p5 h0 n0 v U'.heap L ∧ FrameEnd s o U' L ({ frames := 0, cells := 0, slots := 0, locals := 0 } : Room).cells ({ frames := 0, cells := 0, slots := 0, locals := 0 } : Room).slots) (s₁.setTop (entryFrame m #[(.ref a1)] 1))
  have K0 := Keep.refl h0 [a1]
  refine Go.on pre0 ?_
  refine Go.on (B := s₁.setTop (mkF m 1 #[.val (.ref a1)] [(.ref a1)])) (fun t k => XS.aloadN X0.here hx rfl (hb hby d12_0) rfl rfl k) ?_
  obtain ⟨T1, X1, e1, st1⟩ := getF X0 hx hZ hown (host := "") (Or.inl (hw _ (List.mem_of_getElem? (i := 65) rfl))) Via.refl e0 F_args (g := (mkF m 1 #[.val (.ref a1)] [(.ref a1)])) rfl rfl (hb hby d12_1)
  refine Go.on (B := T1.setTop (mkF m 4 #[.val (.ref a1)] [(.ref a2)])) (fun t k => st1 _ k) ?_
  refine Go.on (B := T1.setTop (mkF m 5 #[.val (.ref a1)] [(.ref a1), (.ref a2)])) (fun t k => XS.aloadN X1.here hx rfl (hb hby d12_4) rfl rfl k) ?_
  refine Go.on (B := T1.setTop (mkF m 6 #[.val (.ref a1)] [(.ref a1), (.ref a1), (.ref a2)])) (fun t k => XS.dup X1.here hx rfl (hb hby d12_5) rfl rfl k) ?_
  obtain ⟨T2, X2, e2, st2⟩ := getF X1 hx hZ hown (host := "") (Or.inl (hw _ (List.mem_of_getElem? (i := 72) rfl))) Via.refl e1 F_next (g := (mkF m 6 #[.val (.ref a1)] [(.ref a1), (.ref a1), (.ref a2)])) rfl rfl (hb hby d12_6)
  refine Go.on (B := T2.setTop (mkF m 9 #[.val (.ref a1)] [(.int p3), (.ref a1), (.ref a2)])) (fun t k => st2 _ k) ?_
  refine Go.on (B := T2.setTop (mkF m 10 #[.val (.ref a1)] [(.int p3), (.ref a1), (.int p3), (.ref a2)])) (fun t k => XS.dupX1 X2.here hx rfl (hb hby d12_9) rfl rfl rfl k) ?_
  refine Go.on (B := T2.setTop (mkF m 11 #[.val (.ref a1)] [(.int (1 : Int32)), (.int p3), (.ref a1), (.int p3), (.ref a2)])) (fun t k => XS.iconst X2.here hx rfl (hb hby d12_10) k) ?_
  refine Go.on (B := T2.setTop (mkF m 12 #[.val (.ref a1)] [(.int (p3 + (1 : Int32))), (.ref a1), (.int p3), (.ref a2)])) (fun t k => XS.iadd X2.here hx rfl (hb hby d12_11) rfl k) ?_
  obtain ⟨T3, h3, X3, e3, W3, st3⟩ := putF X2 hx hZ hown (host := "") (Or.inl (hw _ (List.mem_of_getElem? (i := 72) rfl))) Via.refl e2 F_next E1 (Or.inl (hw _ (List.mem_of_getElem? (i := 73) rfl))) (hw _ (List.mem_of_getElem? (i := 33) rfl)) (ty := .int) (by decide) rfl rfl (g := (mkF m 12 #[.val (.ref a1)] [(.int (p3 + (1 : Int32))), (.ref a1), (.int p3), (.ref a2)])) rfl rfl (hb hby d12_12)
  have N3 := Fr.snoc X3 N0 g1
  have Fw3 := F_next.same W3
  have f1 := E1.wr W3
  have f2 := F_args.other W3 (Or.inr (slot_ne (Or.inr (hw _ (List.mem_of_getElem? (i := 66) rfl))) (Or.inl (hw _ (List.mem_of_getElem? (i := 73) rfl))) (by decide) (t := (.array (.object "java/lang/String"))) (t' := .int) (by decide) (by decide)))
  have f3 := V2.other W3 hne
  have Zs4 := Nat.le_trans Z0 (Keep.of_wr W3).1
  have K5 := K0.wr W3 (Or.inl (List.mem_of_getElem? (i := 0) rfl))
  refine Go.on (B := T3.setTop (mkF m 15 #[.val (.ref a1)] [(.int p3), (.ref a2)])) (fun t k => st3 _ k) ?_
  obtain ⟨cl4, Ar4, qq4, Sz4, Ng4, Hh4, Gg4⟩ := id f3
  have hin4 : ¬ (p3 < 0 ∨ cl4.slots.size ≤ (p3).toNatClampNeg) := inb_of Sz4 hi
  have hat4 : cl4.slots[(p3).toNatClampNeg]? = some (.ref x4) := Hh4.at hin4 hv
  refine Go.on (B := T3.setTop (mkF m 16 #[.val (.ref a1)] [(.ref x4)])) (fun t k => X3.aaload hx (j := p3) (v := (.ref x4)) (by rw [e3]; exact Ar4.1) (State.isArrayOf_alike hZ.alike Ar4.2.1) rfl Ar4.2.2 hin4 hat4 (g := (mkF m 15 #[.val (.ref a1)] [(.int p3), (.ref a2)])) rfl rfl (hb hby d12_15) _ k) ?_
  obtain ⟨fs, hr, hrun, hended, hW, hsame⟩ := X3.leave (v := some (.ref x4)) (fun h => by rw [Bd.returns] at h; cases h)
  refine ⟨_, _, ?_, hrun, hended, _, _, rfl, ?_, ⟨_, rfl⟩, hW, hsame.mono (by decide) (by decide)⟩
  · exact retOut X3 hx Bd.returns rfl (Or.inr (Or.inr (Or.inr (Or.inr ⟨rfl, rfl, rfl⟩)))) (hb hby d12_16) hr
  · show Q_rnx Z a1 a2 k2 z2 vs p3 x4 p5 h0 n0 _ T3.heap _
    rw [e3]
    exact ⟨rfl, N3, K5, f1, f2, (hp5 ▸ Fw3)⟩
theorem d13_0 : decode prog_31_method_4_code 0 = .ok (.aload_n 0, 1) := by decide +kernel
theorem d13_1 : decode prog_31_method_4_code 1 = .ok (.getfield 20, 3) := by decide +kernel
theorem d13_4 : decode prog_31_method_4_code 4 = .ok (.aload_n 0, 1) := by decide +kernel
theorem d13_5 : decode prog_31_method_4_code 5 = .ok (.getfield 16, 3) := by decide +kernel
theorem d13_8 : decode prog_31_method_4_code 8 = .ok (.arraylength, 1) := by decide +kernel
theorem d13_9 : decode prog_31_method_4_code 9 = .ok (.if_icmp .ne 27, 3) := by decide +kernel
theorem d13_36 : decode prog_31_method_4_code 36 = .ok (.aload_n 0, 1) := by decide +kernel
theorem d13_37 : decode prog_31_method_4_code 37 = .ok (.getfield 16, 3) := by decide +kernel
theorem d13_40 : decode prog_31_method_4_code 40 = .ok (.aload_n 0, 1) := by decide +kernel
theorem d13_41 : decode prog_31_method_4_code 41 = .ok (.dup, 1) := by decide +kernel
theorem d13_42 : decode prog_31_method_4_code 42 = .ok (.getfield 20, 3) := by decide +kernel
theorem d13_45 : decode prog_31_method_4_code 45 = .ok (.dup_x1, 1) := by decide +kernel
theorem d13_46 : decode prog_31_method_4_code 46 = .ok (.iconst 1, 1) := by decide +kernel
theorem d13_47 : decode prog_31_method_4_code 47 = .ok (.iadd, 1) := by decide +kernel
theorem d13_48 : decode prog_31_method_4_code 48 = .ok (.putfield 20, 3) := by decide +kernel
theorem d13_51 : decode prog_31_method_4_code 51 = .ok (.aaload, 1) := by decide +kernel
theorem d13_52 : decode prog_31_method_4_code 52 = .ok (.areturn, 1) := by decide +kernel
theorem ef_rva (m : MethodId) (a1 : Addr) : entryFrame m #[(.ref a1)] 1 = mkF m 0 #[.val (.ref a1)] [] := by first | (simp [entryFrame, mkF, argsToLocals, Value.category]; done) | rfl
def Q_rva (Z : State) (a1 : Addr) (a2 : Addr) (k2 : ClassId) (z2 : Int32) (vs : List Value) (p3 : Int32) (x4 : Addr) (p5 : Int32) (h0 : Heap) (n0 : Nat) (v : Option Value) (h : Heap) (L : List Loc) : Prop := v = some (.ref x4) ∧ Fr n0 L ∧ Keep h0 h [a1] ∧ Exa Z h a1 "com/example/chronocert/chronocert/cli/CommandLine" ∧ Fld Z h a1 "com/example/chronocert/chronocert/cli/CommandLine" "args" "[Ljava/lang/String;" (.ref a2) ∧ Fld Z h a1 "com/example/chronocert/chronocert/cli/CommandLine" "next" "I" (.int p5)
set_option maxRecDepth 65536 in
set_option maxHeartbeats 40000000 in
theorem rva (l : Launch) (Z : State) (a0 : Array Value) (hw : ∀ d ∈ tables_1, d.before a0 Z = true) (ws : List Jvm.Cond) (a1 : Addr) (a2 : Addr) (k2 : ClassId) (z2 : Int32) (vs : List Value) (p3 : Int32) (x4 : Addr) (p5 : Int32) (h0 : Heap) (n0 : Nat) (Z0 : n0 ≤ h0.size) (E1 : Exa Z h0 a1 "com/example/chronocert/chronocert/cli/CommandLine") (F_args : Fld Z h0 a1 "com/example/chronocert/chronocert/cli/CommandLine" "args" "[Ljava/lang/String;" (.ref a2)) (F_next : Fld Z h0 a1 "com/example/chronocert/chronocert/cli/CommandLine" "next" "I" (.int p3)) (V2 : Arv Z h0 a2 k2 (.object "java/lang/String") z2 vs .null) (hne : a2 ≠ a1) (g1 : n0 ≤ a1) (hi : ¬ p3 < 0 ∧ p3 < z2) (hv : vs.getD p3.toNatClampNeg .null = .ref x4) (hp5 : (p3 + (1 : Int32)) = p5) (hnz : ¬ (p3 = z2)) :
    MetFree l (⟨"com/example/chronocert/chronocert/cli/CommandLine", "value", "()Ljava/lang/String;"⟩ : MethodName) (head1 (Jvm.Cond.code (⟨"com/example/chronocert/chronocert/cli/CommandLine", "value", "()Ljava/lang/String;"⟩ : MethodName) prog_31_method_4_code 1 (some (.object "java/lang/String")) :: ws) ({ frames := 0, cells := 0, slots := 0, locals := 0 } : Room)) (fun a U => a = #[(.ref a1)] ∧ Z.Warmed39 U.vm ∧ U.heap = h0) (fun _ _ _ _ _ => True) (fun _ U o U' => ∃ v L, o = .returned v ∧ Q_rva Z a1 a2 k2 z2 vs p3 x4 p5 h0 n0 v U'.heap L ∧ FrameEnd U o U' L ({ frames := 0, cells := 0, slots := 0, locals := 0 } : Room).cells ({ frames := 0, cells := 0, slots := 0, locals := 0 } : Room).slots) := by
  refine MetFree.of_bodySF (plainFor_of_name pn_9) hisR ?_
  intro p e s m args below meth c s₁ Bd hml0 hP hK
  obtain ⟨rfl, hZ, hh⟩ := hP
  have hx := Bd.exec
  have hby := Bd.bytes
  have hml : c.maxLocals = 1 := hml0
  have hown : s.vm.findClass "com/example/chronocert/chronocert/cli/CommandLine" = some m.cls := findClass_of_methodNamed Bd.named
  have hnm := (name_of_methodNamed Bd.named Bd.method).1
  have X0 : Stand p l e ({ frames := 0, cells := 0, slots := 0, locals := 0 } : Room) s m #[(.ref a1)] below meth c s₁ [] 0 0 := Stand.of_body Bd
  have e0 : s₁.heap = h0 := by rw [← hh, Bd.state]; rfl
  have N0 := Fr.nil n0
  have pre0 : ∀ t, Steps p.tables e below (s₁.setTop (mkF m 0 #[.val (.ref a1)] [])) t → Steps p.tables e below (s₁.setTop (entryFrame m #[(.ref a1)] 1)) t := fun t k => castTop (ef_rva m a1) k
  change Go p.tables e below (fun o U' => ∃ v L, o = .returned v ∧ Q_rva Z a1 a2 k2 z2 vs p3 x4 p5 h0 n0 v U'.heap L ∧ FrameEnd s o U' L ({ frames := 0, cells := 0, slots := 0, locals := 0 } : Room).cells ({ frames := 0, cells := 0, slots := 0, locals := 0 } : Room).slots) (s₁.setTop (entryFrame m #[(.ref a1)] 1))
  have K0 := Keep.refl h0 [a1]
  refine Go.on pre0 ?_
  refine Go.on (B := s₁.setTop (mkF m 1 #[.val (.ref a1)] [(.ref a1)])) (fun t k => XS.aloadN X0.here hx rfl (hb hby d13_0) rfl rfl k) ?_
  obtain ⟨T1, X1, e1, st1⟩ := getF X0 hx hZ hown (host := "") (Or.inl (hw _ (List.mem_of_getElem? (i := 72) rfl))) Via.refl e0 F_next (g := (mkF m 1 #[.val (.ref a1)] [(.ref a1)])) rfl rfl (hb hby d13_1)
  refine Go.on (B := T1.setTop (mkF m 4 #[.val (.ref a1)] [(.int p3)])) (fun t k => st1 _ k) ?_
  refine Go.on (B := T1.setTop (mkF m 5 #[.val (.ref a1)] [(.ref a1), (.int p3)])) (fun t k => XS.aloadN X1.here hx rfl (hb hby d13_4) rfl rfl k) ?_
  obtain ⟨T2, X2, e2, st2⟩ := getF X1 hx hZ hown (host := "") (Or.inl (hw _ (List.mem_of_getElem? (i := 65) rfl))) Via.refl e1 F_args (g := (mkF m 5 #[.val (.ref a1)] [(.ref a1), (.int p3)])) rfl rfl (hb hby d13_5)
  refine Go.on (B := T2.setTop (mkF m 8 #[.val (.ref a1)] [(.ref a2), (.int p3)])) (fun t k => st2 _ k) ?_
  obtain ⟨cl3, Ar3, -, Sz3, Ng3, -, -⟩ := id V2
  refine Go.on (B := T2.setTop (mkF m 9 #[.val (.ref a1)] [(.int z2), (.int p3)])) (fun t k => X2.arraylength hx (by rw [e2]; exact Ar3.1) (State.isArrayOf_alike hZ.alike Ar3.2.1) (g := (mkF m 8 #[.val (.ref a1)] [(.ref a2), (.int p3)])) rfl rfl (hb hby d13_8) _ (by rw [len_of Sz3 Ng3]; exact k)) ?_
  have hc9_4 : ¬ (p3 = z2) := hnz
  refine Go.on (B := T2.setTop (mkF m 36 #[.val (.ref a1)] [])) (fun t k => XS.icmpYes X2.here hx rfl (pc0 := 9) (pc' := 36) rfl (hb hby d13_9) rfl (feq hc9_4).2 (by decide) (by decide) k) ?_
  refine Go.on (B := T2.setTop (mkF m 37 #[.val (.ref a1)] [(.ref a1)])) (fun t k => XS.aloadN X2.here hx rfl (hb hby d13_36) rfl rfl k) ?_
  obtain ⟨T5, X5, e5, st5⟩ := getF X2 hx hZ hown (host := "") (Or.inl (hw _ (List.mem_of_getElem? (i := 65) rfl))) Via.refl e2 F_args (g := (mkF m 37 #[.val (.ref a1)] [(.ref a1)])) rfl rfl (hb hby d13_37)
  refine Go.on (B := T5.setTop (mkF m 40 #[.val (.ref a1)] [(.ref a2)])) (fun t k => st5 _ k) ?_
  refine Go.on (B := T5.setTop (mkF m 41 #[.val (.ref a1)] [(.ref a1), (.ref a2)])) (fun t k => XS.aloadN X5.here hx rfl (hb hby d13_40) rfl rfl k) ?_
  refine Go.on (B := T5.setTop (mkF m 42 #[.val (.ref a1)] [(.ref a1), (.ref a1), (.ref a2)])) (fun t k => XS.dup X5.here hx rfl (hb hby d13_41) rfl rfl k) ?_
  obtain ⟨T6, X6, e6, st6⟩ := getF X5 hx hZ hown (host := "") (Or.inl (hw _ (List.mem_of_getElem? (i := 72) rfl))) Via.refl e5 F_next (g := (mkF m 42 #[.val (.ref a1)] [(.ref a1), (.ref a1), (.ref a2)])) rfl rfl (hb hby d13_42)
  refine Go.on (B := T6.setTop (mkF m 45 #[.val (.ref a1)] [(.int p3), (.ref a1), (.ref a2)])) (fun t k => st6 _ k) ?_
  refine Go.on (B := T6.setTop (mkF m 46 #[.val (.ref a1)] [(.int p3), (.ref a1), (.int p3), (.ref a2)])) (fun t k => XS.dupX1 X6.here hx rfl (hb hby d13_45) rfl rfl rfl k) ?_
  refine Go.on (B := T6.setTop (mkF m 47 #[.val (.ref a1)] [(.int (1 : Int32)), (.int p3), (.ref a1), (.int p3), (.ref a2)])) (fun t k => XS.iconst X6.here hx rfl (hb hby d13_46) k) ?_
  refine Go.on (B := T6.setTop (mkF m 48 #[.val (.ref a1)] [(.int (p3 + (1 : Int32))), (.ref a1), (.int p3), (.ref a2)])) (fun t k => XS.iadd X6.here hx rfl (hb hby d13_47) rfl k) ?_
  obtain ⟨T7, h7, X7, e7, W7, st7⟩ := putF X6 hx hZ hown (host := "") (Or.inl (hw _ (List.mem_of_getElem? (i := 72) rfl))) Via.refl e6 F_next E1 (Or.inl (hw _ (List.mem_of_getElem? (i := 73) rfl))) (hw _ (List.mem_of_getElem? (i := 33) rfl)) (ty := .int) (by decide) rfl rfl (g := (mkF m 48 #[.val (.ref a1)] [(.int (p3 + (1 : Int32))), (.ref a1), (.int p3), (.ref a2)])) rfl rfl (hb hby d13_48)
  have N7 := Fr.snoc X7 N0 g1
  have Fw7 := F_next.same W7
  have f1 := E1.wr W7
  have f2 := F_args.other W7 (Or.inr (slot_ne (Or.inr (hw _ (List.mem_of_getElem? (i := 66) rfl))) (Or.inl (hw _ (List.mem_of_getElem? (i := 73) rfl))) (by decide) (t := (.array (.object "java/lang/String"))) (t' := .int) (by decide) (by decide)))
  have f3 := V2.other W7 hne
  have Zs4 := Nat.le_trans Z0 (Keep.of_wr W7).1
  have K5 := K0.wr W7 (Or.inl (List.mem_of_getElem? (i := 0) rfl))
  refine Go.on (B := T7.setTop (mkF m 51 #[.val (.ref a1)] [(.int p3), (.ref a2)])) (fun t k => st7 _ k) ?_
  obtain ⟨cl8, Ar8, qq8, Sz8, Ng8, Hh8, Gg8⟩ := id f3
  have hin8 : ¬ (p3 < 0 ∨ cl8.slots.size ≤ (p3).toNatClampNeg) := inb_of Sz8 hi
  have hat8 : cl8.slots[(p3).toNatClampNeg]? = some (.ref x4) := Hh8.at hin8 hv
  refine Go.on (B := T7.setTop (mkF m 52 #[.val (.ref a1)] [(.ref x4)])) (fun t k => X7.aaload hx (j := p3) (v := (.ref x4)) (by rw [e7]; exact Ar8.1) (State.isArrayOf_alike hZ.alike Ar8.2.1) rfl Ar8.2.2 hin8 hat8 (g := (mkF m 51 #[.val (.ref a1)] [(.int p3), (.ref a2)])) rfl rfl (hb hby d13_51) _ k) ?_
  obtain ⟨fs, hr, hrun, hended, hW, hsame⟩ := X7.leave (v := some (.ref x4)) (fun h => by rw [Bd.returns] at h; cases h)
  refine ⟨_, _, ?_, hrun, hended, _, _, rfl, ?_, ⟨_, rfl⟩, hW, hsame.mono (by decide) (by decide)⟩
  · exact retOut X7 hx Bd.returns rfl (Or.inr (Or.inr (Or.inr (Or.inr ⟨rfl, rfl, rfl⟩)))) (hb hby d13_52) hr
  · show Q_rva Z a1 a2 k2 z2 vs p3 x4 p5 h0 n0 _ T7.heap _
    rw [e7]
    exact ⟨rfl, N7, K5, f1, f2, (hp5 ▸ Fw7)⟩
theorem own_m (k v : Int32) (h : (((k &&& (2147483647 : Int32)) % (3 : Int32)) + (1 : Int32)) = v) : 1 ≤ v.toInt ∧ v.toInt ≤ 3 := by
  have a := (c_and k (2147483647 : Int32) (by decide)).1
  have q := (c_irem (k &&& (2147483647 : Int32)) 3 3 (by decide)).1 a
  have r := c_iadd ((k &&& (2147483647 : Int32)) % (3 : Int32)) 1
  have m : (1 : Int32).toInt = 1 := by decide
  rw [h, m] at r
  have b := rng32 v
  omega
theorem own_up2 {n : Int32} {a b : Int32} (h : n < a) (q : a < b) : n < b := by
  rw [Int32.lt_iff_toInt_lt] at h q ⊢
  omega
theorem own_one {v : Int32} (h : 1 ≤ v.toInt ∧ v.toInt ≤ 3) (q : v < (2 : Int32)) : v = (1 : Int32) := by
  rw [Int32.lt_iff_toInt_lt] at q
  have m2 : (2 : Int32).toInt = 2 := by decide
  have m1 : (1 : Int32).toInt = 1 := by decide
  exact Int32.toInt_inj.mp (by omega)
theorem own_not1 {v : Int32} (q : ¬ (v < (2 : Int32))) : ¬ (v = (1 : Int32)) := fun e => q (by rw [e]; decide)
theorem pd_1 : parseMethodDescriptor "([C)V" = some ⟨[(.array .char)], none⟩ := by decide +kernel
theorem pd_2 : parseMethodDescriptor "([Ljava/lang/String;)V" = some ⟨[(.array (.object "java/lang/String"))], none⟩ := by decide +kernel
theorem pd_3 : parseMethodDescriptor "()Z" = some ⟨[], some .boolean⟩ := by decide +kernel
theorem pd_4 : parseMethodDescriptor "()Ljava/lang/String;" = some ⟨[], some (.object "java/lang/String")⟩ := by decide +kernel
theorem pn_17 : plainName "com/example/chronocert/chronocert/cli/CommandLineNextPinLaw" = true := by first | (simp [plainName, overriddenIn]; done) | decide +kernel
theorem ef_rm0 (m : MethodId) (p1 : Int32) (p2 : Int32) (p3 : Int32) (p4 : Int32) : entryFrame m #[(.int p1), (.int p2), (.int p3), (.int p4)] maxLocals = mkF m 0 #[.val (.int p1), .val (.int p2), .val (.int p3), .val (.int p4), .unset, .unset, .unset, .unset, .unset, .unset, .unset, .unset, .unset] [] := by first | (simp [entryFrame, mkF, argsToLocals, Value.category, maxLocals]; done) | rfl
def Q_rm0 (Z : State) (p1 : Int32) (p2 : Int32) (p3 : Int32) (p4 : Int32) (G1 : Int32) (da : Addr) (h0 : Heap) (n0 : Nat) (v : Option Value) (h : Heap) (L : List Loc) : Prop := v = some (.int 1) ∧ Fr n0 L
set_option maxRecDepth 65536 in
set_option maxHeartbeats 40000000 in
theorem rm0 (l : Launch) (Z : State) (a0 : Array Value) (hw : ∀ d ∈ tables_1, d.before a0 Z = true) (ws : List Jvm.Cond) (p1 : Int32) (p2 : Int32) (p3 : Int32) (p4 : Int32) (G1 : Int32) (da : Addr) (h0 : Heap) (n0 : Nat) (Z0 : n0 ≤ h0.size) (O0 : Old Z n0 h0) (O2 : Sta Z Z.heap "java/lang/String" "COMPACT_STRINGS" "Z" (.int G1)) (P5 : ¬ (G1 = (0 : Int32))) (S_de : Sta Z Z.heap "java/util/ArrayList" "DEFAULTCAPACITY_EMPTY_ELEMENTDATA" "[Ljava/lang/Object;" (.ref da)) :
    MetFree l x (head1 (Jvm.Cond.code x code maxLocals ret :: ws) room_1) (fun a U => a = #[(.int p1), (.int p2), (.int p3), (.int p4)] ∧ Z.Warmed39 U.vm ∧ U.heap = h0) (fun _ _ _ _ _ => True) (fun _ U o U' => ∃ v L, o = .returned v ∧ Q_rm0 Z p1 p2 p3 p4 G1 da h0 n0 v U'.heap L ∧ FrameEnd U o U' L room_1.cells room_1.slots) := by
  refine MetFree.of_bodySF (plainFor_of_name pn_17) hisR ?_
  intro p e s m args below meth c s₁ Bd hml0 hP hK
  obtain ⟨rfl, hZ, hh⟩ := hP
  have hx := Bd.exec
  have hby := Bd.bytes
  have hml : c.maxLocals = 13 := hml0
  have hown : s.vm.findClass "com/example/chronocert/chronocert/cli/CommandLineNextPinLaw" = some m.cls := findClass_of_methodNamed Bd.named
  have hnm := (name_of_methodNamed Bd.named Bd.method).1
  have X0 : Stand p l e room_1 s m #[(.int p1), (.int p2), (.int p3), (.int p4)] below meth c s₁ [] 0 0 := Stand.of_body Bd
  have e0 : s₁.heap = h0 := by rw [← hh, Bd.state]; rfl
  have N0 := Fr.nil n0
  have pre0 : ∀ t, Steps p.tables e below (s₁.setTop (mkF m 0 #[.val (.int p1), .val (.int p2), .val (.int p3), .val (.int p4), .unset, .unset, .unset, .unset, .unset, .unset, .unset, .unset, .unset] [])) t → Steps p.tables e below (s₁.setTop (entryFrame m #[(.int p1), (.int p2), (.int p3), (.int p4)] maxLocals)) t := fun t k => castTop (ef_rm0 m p1 p2 p3 p4) k
  change Go p.tables e below (fun o U' => ∃ v L, o = .returned v ∧ Q_rm0 Z p1 p2 p3 p4 G1 da h0 n0 v U'.heap L ∧ FrameEnd s o U' L room_1.cells room_1.slots) (s₁.setTop (entryFrame m #[(.int p1), (.int p2), (.int p3), (.int p4)] maxLocals))
  have hws : ∀ d ∈ StrChars.Road.words, d.before a0 Z = true := fun d hd => hw d ((by decide +kernel : ∀ d ∈ StrChars.Road.words, d ∈ tables_1) d hd)
  refine Go.on pre0 ?_
  obtain ⟨T1, h1, X1, e1, E1, A1, D1, -, st1⟩ := newO X0 hx hZ hown (hw _ (List.mem_of_getElem? (i := 0) rfl)) (hw _ (List.mem_of_getElem? (i := 1) rfl)) (hw _ (List.mem_of_getElem? (i := 2) rfl)) e0 (g := (mkF m 0 #[.val (.int p1), .val (.int p2), .val (.int p3), .val (.int p4), .unset, .unset, .unset, .unset, .unset, .unset, .unset, .unset, .unset] [])) rfl (hb hby at_0) (by decide) (by decide)
  obtain ⟨b1, g1⟩ : ∃ z, z = h0.size := ⟨_, rfl⟩
  rw [← g1] at A1 D1 st1
  have ge_b1 : n0 ≤ b1 := Nat.le_trans Z0 (Nat.le_of_eq g1.symm)
  have O_1 := O0.ext E1
  have Zs2 := Nat.le_trans Z0 E1.1
  have F1_coder : Fld Z h1 b1 "java/lang/String" "coder" "B" (.int (0 : Int32)) := D1 (Or.inr (hw _ (List.mem_of_getElem? (i := 27) rfl))) (ty := .byte) (by decide)
  have F1_value : Fld Z h1 b1 "java/lang/String" "value" "[B" .null := D1 (Or.inr (hw _ (List.mem_of_getElem? (i := 29) rfl))) (ty := (.array .byte)) (by decide)
  refine Go.on (B := T1.setTop (mkF m 3 #[.val (.int p1), .val (.int p2), .val (.int p3), .val (.int p4), .unset, .unset, .unset, .unset, .unset, .unset, .unset, .unset, .unset] [(.ref b1)])) (fun t k => st1 _ k) ?_
  refine Go.on (B := T1.setTop (mkF m 4 #[.val (.int p1), .val (.int p2), .val (.int p3), .val (.int p4), .unset, .unset, .unset, .unset, .unset, .unset, .unset, .unset, .unset] [(.ref b1), (.ref b1)])) (fun t k => XS.dup X1.here hx rfl (hb hby at_3) rfl rfl k) ?_
  refine Go.on (B := T1.setTop (mkF m 5 #[.val (.int p1), .val (.int p2), .val (.int p3), .val (.int p4), .unset, .unset, .unset, .unset, .unset, .unset, .unset, .unset, .unset] [(.int (1 : Int32)), (.ref b1), (.ref b1)])) (fun t k => XS.iconst X1.here hx rfl (hb hby at_4) k) ?_
  obtain ⟨T2, h2, k2, X2, e2, E2, A2, st2⟩ := newP X1 hx hZ (hw _ (List.mem_of_getElem? (i := 3) rfl)) e1 (g := (mkF m 5 #[.val (.int p1), .val (.int p2), .val (.int p3), .val (.int p4), .unset, .unset, .unset, .unset, .unset, .unset, .unset, .unset, .unset] [(.int (1 : Int32)), (.ref b1), (.ref b1)])) rfl (hb hby at_5) rfl (by decide) (cap := 1) (by decide) (by decide) (by decide) (by decide)
  obtain ⟨b2, g2⟩ : ∃ z, z = h1.size := ⟨_, rfl⟩
  rw [← g2] at A2 st2
  have ge_b2 : n0 ≤ b2 := Nat.le_trans Zs2 (Nat.le_of_eq g2.symm)
  have ne_b1_b2 : b1 ≠ b2 := Nat.ne_of_lt (Nat.lt_of_lt_of_le A1.lt (Nat.le_of_eq g2.symm))
  have O_3 := O_1.ext E2
  have f4 := A1.ext E2
  have f5 := F1_coder.ext E2
  have f6 := F1_value.ext E2
  have Zs7 := Nat.le_trans Zs2 E2.1
  have V2 : Arv Z h2 b2 k2 .char (1 : Int32) [(.int (0 : Int32))] (.int (0 : Int32)) := (Arv.new A2 (by decide)).pad (pad_rep [] (.int (0 : Int32)) 1)
  refine Go.on (B := T2.setTop (mkF m 7 #[.val (.int p1), .val (.int p2), .val (.int p3), .val (.int p4), .unset, .unset, .unset, .unset, .unset, .unset, .unset, .unset, .unset] [(.ref b2), (.ref b1), (.ref b1)])) (fun t k => st2 _ k) ?_
  refine Go.on (B := T2.setTop (mkF m 8 #[.val (.int p1), .val (.int p2), .val (.int p3), .val (.int p4), .unset, .unset, .unset, .unset, .unset, .unset, .unset, .unset, .unset] [(.ref b2), (.ref b2), (.ref b1), (.ref b1)])) (fun t k => XS.dup X2.here hx rfl (hb hby at_7) rfl rfl k) ?_
  refine Go.on (B := T2.setTop (mkF m 9 #[.val (.int p1), .val (.int p2), .val (.int p3), .val (.int p4), .unset, .unset, .unset, .unset, .unset, .unset, .unset, .unset, .unset] [(.int (0 : Int32)), (.ref b2), (.ref b2), (.ref b1), (.ref b1)])) (fun t k => XS.iconst X2.here hx rfl (hb hby at_8) k) ?_
  refine Go.on (B := T2.setTop (mkF m 10 #[.val (.int p1), .val (.int p2), .val (.int p3), .val (.int p4), .unset, .unset, .unset, .unset, .unset, .unset, .unset, .unset, .unset] [(.int p1), (.int (0 : Int32)), (.ref b2), (.ref b2), (.ref b1), (.ref b1)])) (fun t k => XS.iloadN X2.here hx rfl (hb hby at_9) rfl k) ?_
  refine Go.on (B := T2.setTop (mkF m 13 #[.val (.int p1), .val (.int p2), .val (.int p3), .val (.int p4), .unset, .unset, .unset, .unset, .unset, .unset, .unset, .unset, .unset] [(.int (255 : Int32)), (.int p1), (.int (0 : Int32)), (.ref b2), (.ref b2), (.ref b1), (.ref b1)])) (fun t k => XS.sipush X2.here hx rfl (hb hby at_10) k) ?_
  refine Go.on (B := T2.setTop (mkF m 14 #[.val (.int p1), .val (.int p2), .val (.int p3), .val (.int p4), .unset, .unset, .unset, .unset, .unset, .unset, .unset, .unset, .unset] [(.int (p1 &&& (255 : Int32))), (.int (0 : Int32)), (.ref b2), (.ref b2), (.ref b1), (.ref b1)])) (fun t k => XS.iand X2.here hx rfl (hb hby at_13) rfl k) ?_
  refine Go.on (B := T2.setTop (mkF m 15 #[.val (.int p1), .val (.int p2), .val (.int p3), .val (.int p4), .unset, .unset, .unset, .unset, .unset, .unset, .unset, .unset, .unset] [(.int ((p1 &&& (255 : Int32)).toUInt32.toUInt16.toUInt32.toInt32)), (.int (0 : Int32)), (.ref b2), (.ref b2), (.ref b1), (.ref b1)])) (fun t k => XS.i2c X2.here hx rfl (hb hby at_14) rfl k) ?_
  obtain ⟨cl3, Ar3, qq3, Sz3, Ng3, Hh3, Gg3⟩ := id V2
  have hin3 : ¬ ((0 : Int32) < 0 ∨ cl3.slots.size ≤ ((0 : Int32)).toNatClampNeg) := inb_of Sz3 ⟨by decide, by decide⟩
  obtain ⟨T3, h3, X3, e3, W3, st3⟩ := stC X2 hx hZ e2 Ar3 (j := (0 : Int32)) hin3 (g := (mkF m 15 #[.val (.int p1), .val (.int p2), .val (.int p3), .val (.int p4), .unset, .unset, .unset, .unset, .unset, .unset, .unset, .unset, .unset] [(.int ((p1 &&& (255 : Int32)).toUInt32.toUInt16.toUInt32.toInt32)), (.int (0 : Int32)), (.ref b2), (.ref b2), (.ref b1), (.ref b1)])) rfl rfl (hb hby at_15)
  have V3 : Arv Z h3 b2 k2 .char (1 : Int32) [(.int (nar .char ((p1 &&& (255 : Int32)).toUInt32.toUInt16.toUInt32.toInt32)))] (.int (0 : Int32)) := Arv.set Ar3 qq3 Sz3 Ng3 Hh3 Gg3 (fits_nar_char _) W3 0 rfl (Nat.le_of_ble_eq_true rfl)
  have N3 := Fr.snoc X3 N0 ge_b2
  have O_8 := O_3.wr W3 ge_b2
  have f9 := f4.wr W3
  have f10 := f5.other W3 (Or.inl ne_b1_b2)
  have f11 := f6.other W3 (Or.inl ne_b1_b2)
  have Zs12 := Nat.le_trans Zs7 (Keep.of_wr W3).1
  refine Go.on (B := T3.setTop (mkF m 16 #[.val (.int p1), .val (.int p2), .val (.int p3), .val (.int p4), .unset, .unset, .unset, .unset, .unset, .unset, .unset, .unset, .unset] [(.ref b2), (.ref b1), (.ref b1)])) (fun t k => st3 _ k) ?_
  have hp4 : ∀ c ∈ ([(nar .char ((p1 &&& (255 : Int32)).toUInt32.toUInt16.toUInt32.toInt32))] : List Int32), ¬ c < 0 ∧ ¬ (255 : Int32) < c := by
    intro c hc
    simp only [List.mem_cons, List.not_mem_nil, or_false] at hc
    rcases hc with rfl
    · exact own_255 _
  obtain ⟨_, _, ⟨T4, L4, k4, n4⟩, -, X4, ⟨Lc4, hQ4, l4, y4, z4⟩, st4⟩ := X3.specialBack hx (y := (⟨"java/lang/String", "<init>", "([C)V"⟩ : MethodName)) rfl hown (mvT hZ (hw _ (List.mem_of_getElem? (i := 4) rfl))) (mvT hZ (hw _ (List.mem_of_getElem? (i := 5) rfl))) (mvT hZ (hw _ (List.mem_of_getElem? (i := 6) rfl))) (by decide) (StrChars.Road.backV (W := 1) hZ hws (kI := 4) (hw _ (List.mem_of_getElem? (i := 1) rfl)) (cs := ([(nar .char ((p1 &&& (255 : Int32)).toUInt32.toUInt16.toUInt32.toInt32))] : List Int32)) (bs := (([(nar .char ((p1 &&& (255 : Int32)).toUInt32.toUInt16.toUInt32.toInt32))] : List Int32)).map (fun c => c.toInt8.toInt32)) (n := 1) ge_b1 Zs12 f9 f11 f10 V3 (O2.ext O_8.2) P5 rfl rfl (by decide) (by decide) hp4 rfl (by decide) (by decide)) (g := (mkF m 16 #[.val (.int p1), .val (.int p2), .val (.int p3), .val (.int p4), .unset, .unset, .unset, .unset, .unset, .unset, .unset, .unset, .unset] [(.ref b2), (.ref b1), (.ref b1)])) rfl (by rw [hml]; rfl) (Steps.refl _) (a := b1) (argsL := [(.ref b2)]) (rest := [(.ref b1)]) (lenOf pd_1 rfl) rfl (by show 2 * 0 + _ ≤ _; exact Nat.le_of_eq rfl) (hb hby at_16) (fun _ _ => ⟨rfl, e3, (by decide : 2 + 1 ≤ _), (by decide : 5 + 1 ≤ _)⟩)
  dsimp only [Pt.U, Pt.locs, Pt.cells, Pt.slots] at X4 l4 y4 z4 st4 hQ4
  subst l4 y4 z4
  obtain ⟨rfl, N4q, K4q, -⟩ := hQ4
  have N4 := Fr.app N3 N4q
  have O_13 := O_8.keep K4q (allS ge_b1 all0)
  have f14 := f9.keep K4q
  have f15 := V3.keep K4q (ninS (Ne.symm ne_b1_b2) nin0)
  have Zs16 := Nat.le_trans Zs12 K4q.1
  refine Go.on (B := T4.setTop (mkF m 19 #[.val (.int p1), .val (.int p2), .val (.int p3), .val (.int p4), .unset, .unset, .unset, .unset, .unset, .unset, .unset, .unset, .unset] [(.ref b1)])) (fun t k => st4.trans k) ?_
  refine Go.on (B := T4.setTop (mkF m 21 #[.val (.int p1), .val (.int p2), .val (.int p3), .val (.int p4), .val (.ref b1), .unset, .unset, .unset, .unset, .unset, .unset, .unset, .unset] [])) (fun t k => XS.astore X4.here hx rfl (hb hby at_19) rfl rfl (l' := #[.val (.int p1), .val (.int p2), .val (.int p3), .val (.int p4), .val (.ref b1), .unset, .unset, .unset, .unset, .unset, .unset, .unset, .unset]) rfl k) ?_
  obtain ⟨T5, h5, X5, e5, E5, A5, D5, -, st5⟩ := newO X4 hx hZ hown (hw _ (List.mem_of_getElem? (i := 0) rfl)) (hw _ (List.mem_of_getElem? (i := 1) rfl)) (hw _ (List.mem_of_getElem? (i := 2) rfl)) rfl (g := (mkF m 21 #[.val (.int p1), .val (.int p2), .val (.int p3), .val (.int p4), .val (.ref b1), .unset, .unset, .unset, .unset, .unset, .unset, .unset, .unset] [])) rfl (hb hby at_21) (by decide) (by decide)
  obtain ⟨b5, g5⟩ : ∃ z, z = T4.heap.size := ⟨_, rfl⟩
  rw [← g5] at A5 D5 st5
  have ge_b5 : n0 ≤ b5 := Nat.le_trans Zs16 (Nat.le_of_eq g5.symm)
  have ne_b1_b5 : b1 ≠ b5 := Nat.ne_of_lt (Nat.lt_of_lt_of_le f14.lt (Nat.le_of_eq g5.symm))
  have ne_b2_b5 : b2 ≠ b5 := Nat.ne_of_lt (Nat.lt_of_lt_of_le f15.lt (Nat.le_of_eq g5.symm))
  have O_17 := O_13.ext E5
  have f18 := f14.ext E5
  have f19 := f15.ext E5
  have Zs20 := Nat.le_trans Zs16 E5.1
  have F5_coder : Fld Z h5 b5 "java/lang/String" "coder" "B" (.int (0 : Int32)) := D5 (Or.inr (hw _ (List.mem_of_getElem? (i := 27) rfl))) (ty := .byte) (by decide)
  have F5_value : Fld Z h5 b5 "java/lang/String" "value" "[B" .null := D5 (Or.inr (hw _ (List.mem_of_getElem? (i := 29) rfl))) (ty := (.array .byte)) (by decide)
  refine Go.on (B := T5.setTop (mkF m 24 #[.val (.int p1), .val (.int p2), .val (.int p3), .val (.int p4), .val (.ref b1), .unset, .unset, .unset, .unset, .unset, .unset, .unset, .unset] [(.ref b5)])) (fun t k => st5 _ k) ?_
  refine Go.on (B := T5.setTop (mkF m 25 #[.val (.int p1), .val (.int p2), .val (.int p3), .val (.int p4), .val (.ref b1), .unset, .unset, .unset, .unset, .unset, .unset, .unset, .unset] [(.ref b5), (.ref b5)])) (fun t k => XS.dup X5.here hx rfl (hb hby at_24) rfl rfl k) ?_
  refine Go.on (B := T5.setTop (mkF m 26 #[.val (.int p1), .val (.int p2), .val (.int p3), .val (.int p4), .val (.ref b1), .unset, .unset, .unset, .unset, .unset, .unset, .unset, .unset] [(.int (2 : Int32)), (.ref b5), (.ref b5)])) (fun t k => XS.iconst X5.here hx rfl (hb hby at_25) k) ?_
  obtain ⟨T6, h6, k6, X6, e6, E6, A6, st6⟩ := newP X5 hx hZ (hw _ (List.mem_of_getElem? (i := 3) rfl)) e5 (g := (mkF m 26 #[.val (.int p1), .val (.int p2), .val (.int p3), .val (.int p4), .val (.ref b1), .unset, .unset, .unset, .unset, .unset, .unset, .unset, .unset] [(.int (2 : Int32)), (.ref b5), (.ref b5)])) rfl (hb hby at_26) rfl (by decide) (cap := 2) (by decide) (by decide) (by decide) (by decide)
  obtain ⟨b6, g6⟩ : ∃ z, z = h5.size := ⟨_, rfl⟩
  rw [← g6] at A6 st6
  have ge_b6 : n0 ≤ b6 := Nat.le_trans Zs20 (Nat.le_of_eq g6.symm)
  have ne_b1_b6 : b1 ≠ b6 := Nat.ne_of_lt (Nat.lt_of_lt_of_le f18.lt (Nat.le_of_eq g6.symm))
  have ne_b2_b6 : b2 ≠ b6 := Nat.ne_of_lt (Nat.lt_of_lt_of_le f19.lt (Nat.le_of_eq g6.symm))
  have ne_b5_b6 : b5 ≠ b6 := Nat.ne_of_lt (Nat.lt_of_lt_of_le A5.lt (Nat.le_of_eq g6.symm))
  have O_21 := O_17.ext E6
  have f22 := f18.ext E6
  have f23 := f19.ext E6
  have f24 := A5.ext E6
  have f25 := F5_coder.ext E6
  have f26 := F5_value.ext E6
  have Zs27 := Nat.le_trans Zs20 E6.1
  have V6 : Arv Z h6 b6 k6 .char (2 : Int32) [(.int (0 : Int32)), (.int (0 : Int32))] (.int (0 : Int32)) := (Arv.new A6 (by decide)).pad (pad_rep [] (.int (0 : Int32)) 2)
  refine Go.on (B := T6.setTop (mkF m 28 #[.val (.int p1), .val (.int p2), .val (.int p3), .val (.int p4), .val (.ref b1), .unset, .unset, .unset, .unset, .unset, .unset, .unset, .unset] [(.ref b6), (.ref b5), (.ref b5)])) (fun t k => st6 _ k) ?_
  refine Go.on (B := T6.setTop (mkF m 29 #[.val (.int p1), .val (.int p2), .val (.int p3), .val (.int p4), .val (.ref b1), .unset, .unset, .unset, .unset, .unset, .unset, .unset, .unset] [(.ref b6), (.ref b6), (.ref b5), (.ref b5)])) (fun t k => XS.dup X6.here hx rfl (hb hby at_28) rfl rfl k) ?_
  refine Go.on (B := T6.setTop (mkF m 30 #[.val (.int p1), .val (.int p2), .val (.int p3), .val (.int p4), .val (.ref b1), .unset, .unset, .unset, .unset, .unset, .unset, .unset, .unset] [(.int (0 : Int32)), (.ref b6), (.ref b6), (.ref b5), (.ref b5)])) (fun t k => XS.iconst X6.here hx rfl (hb hby at_29) k) ?_
  refine Go.on (B := T6.setTop (mkF m 31 #[.val (.int p1), .val (.int p2), .val (.int p3), .val (.int p4), .val (.ref b1), .unset, .unset, .unset, .unset, .unset, .unset, .unset, .unset] [(.int p2), (.int (0 : Int32)), (.ref b6), (.ref b6), (.ref b5), (.ref b5)])) (fun t k => XS.iloadN X6.here hx rfl (hb hby at_30) rfl k) ?_
  refine Go.on (B := T6.setTop (mkF m 34 #[.val (.int p1), .val (.int p2), .val (.int p3), .val (.int p4), .val (.ref b1), .unset, .unset, .unset, .unset, .unset, .unset, .unset, .unset] [(.int (255 : Int32)), (.int p2), (.int (0 : Int32)), (.ref b6), (.ref b6), (.ref b5), (.ref b5)])) (fun t k => XS.sipush X6.here hx rfl (hb hby at_31) k) ?_
  refine Go.on (B := T6.setTop (mkF m 35 #[.val (.int p1), .val (.int p2), .val (.int p3), .val (.int p4), .val (.ref b1), .unset, .unset, .unset, .unset, .unset, .unset, .unset, .unset] [(.int (p2 &&& (255 : Int32))), (.int (0 : Int32)), (.ref b6), (.ref b6), (.ref b5), (.ref b5)])) (fun t k => XS.iand X6.here hx rfl (hb hby at_34) rfl k) ?_
  refine Go.on (B := T6.setTop (mkF m 36 #[.val (.int p1), .val (.int p2), .val (.int p3), .val (.int p4), .val (.ref b1), .unset, .unset, .unset, .unset, .unset, .unset, .unset, .unset] [(.int ((p2 &&& (255 : Int32)).toUInt32.toUInt16.toUInt32.toInt32)), (.int (0 : Int32)), (.ref b6), (.ref b6), (.ref b5), (.ref b5)])) (fun t k => XS.i2c X6.here hx rfl (hb hby at_35) rfl k) ?_
  obtain ⟨cl7, Ar7, qq7, Sz7, Ng7, Hh7, Gg7⟩ := id V6
  have hin7 : ¬ ((0 : Int32) < 0 ∨ cl7.slots.size ≤ ((0 : Int32)).toNatClampNeg) := inb_of Sz7 ⟨by decide, by decide⟩
  obtain ⟨T7, h7, X7, e7, W7, st7⟩ := stC X6 hx hZ e6 Ar7 (j := (0 : Int32)) hin7 (g := (mkF m 36 #[.val (.int p1), .val (.int p2), .val (.int p3), .val (.int p4), .val (.ref b1), .unset, .unset, .unset, .unset, .unset, .unset, .unset, .unset] [(.int ((p2 &&& (255 : Int32)).toUInt32.toUInt16.toUInt32.toInt32)), (.int (0 : Int32)), (.ref b6), (.ref b6), (.ref b5), (.ref b5)])) rfl rfl (hb hby at_36)
  have V7 : Arv Z h7 b6 k6 .char (2 : Int32) [(.int (nar .char ((p2 &&& (255 : Int32)).toUInt32.toUInt16.toUInt32.toInt32))), (.int (0 : Int32))] (.int (0 : Int32)) := Arv.set Ar7 qq7 Sz7 Ng7 Hh7 Gg7 (fits_nar_char _) W7 0 rfl (Nat.le_of_ble_eq_true rfl)
  have N7 := Fr.snoc X7 N4 ge_b6
  have O_28 := O_21.wr W7 ge_b6
  have f29 := f22.wr W7
  have f30 := f23.other W7 ne_b2_b6
  have f31 := f24.wr W7
  have f32 := f25.other W7 (Or.inl ne_b5_b6)
  have f33 := f26.other W7 (Or.inl ne_b5_b6)
  have Zs34 := Nat.le_trans Zs27 (Keep.of_wr W7).1
  refine Go.on (B := T7.setTop (mkF m 37 #[.val (.int p1), .val (.int p2), .val (.int p3), .val (.int p4), .val (.ref b1), .unset, .unset, .unset, .unset, .unset, .unset, .unset, .unset] [(.ref b6), (.ref b5), (.ref b5)])) (fun t k => st7 _ k) ?_
  refine Go.on (B := T7.setTop (mkF m 38 #[.val (.int p1), .val (.int p2), .val (.int p3), .val (.int p4), .val (.ref b1), .unset, .unset, .unset, .unset, .unset, .unset, .unset, .unset] [(.ref b6), (.ref b6), (.ref b5), (.ref b5)])) (fun t k => XS.dup X7.here hx rfl (hb hby at_37) rfl rfl k) ?_
  refine Go.on (B := T7.setTop (mkF m 39 #[.val (.int p1), .val (.int p2), .val (.int p3), .val (.int p4), .val (.ref b1), .unset, .unset, .unset, .unset, .unset, .unset, .unset, .unset] [(.int (1 : Int32)), (.ref b6), (.ref b6), (.ref b5), (.ref b5)])) (fun t k => XS.iconst X7.here hx rfl (hb hby at_38) k) ?_
  refine Go.on (B := T7.setTop (mkF m 40 #[.val (.int p1), .val (.int p2), .val (.int p3), .val (.int p4), .val (.ref b1), .unset, .unset, .unset, .unset, .unset, .unset, .unset, .unset] [(.int p2), (.int (1 : Int32)), (.ref b6), (.ref b6), (.ref b5), (.ref b5)])) (fun t k => XS.iloadN X7.here hx rfl (hb hby at_39) rfl k) ?_
  refine Go.on (B := T7.setTop (mkF m 42 #[.val (.int p1), .val (.int p2), .val (.int p3), .val (.int p4), .val (.ref b1), .unset, .unset, .unset, .unset, .unset, .unset, .unset, .unset] [(.int (8 : Int32)), (.int p2), (.int (1 : Int32)), (.ref b6), (.ref b6), (.ref b5), (.ref b5)])) (fun t k => XS.bipush X7.here hx rfl (hb hby at_40) k) ?_
  refine Go.on (B := T7.setTop (mkF m 43 #[.val (.int p1), .val (.int p2), .val (.int p3), .val (.int p4), .val (.ref b1), .unset, .unset, .unset, .unset, .unset, .unset, .unset, .unset] [(.int ((p2.toUInt32 >>> ((8 : Int32) &&& 31).toUInt32).toInt32)), (.int (1 : Int32)), (.ref b6), (.ref b6), (.ref b5), (.ref b5)])) (fun t k => XS.iushr X7.here hx rfl (hb hby at_42) rfl k) ?_
  refine Go.on (B := T7.setTop (mkF m 46 #[.val (.int p1), .val (.int p2), .val (.int p3), .val (.int p4), .val (.ref b1), .unset, .unset, .unset, .unset, .unset, .unset, .unset, .unset] [(.int (255 : Int32)), (.int ((p2.toUInt32 >>> ((8 : Int32) &&& 31).toUInt32).toInt32)), (.int (1 : Int32)), (.ref b6), (.ref b6), (.ref b5), (.ref b5)])) (fun t k => XS.sipush X7.here hx rfl (hb hby at_43) k) ?_
  refine Go.on (B := T7.setTop (mkF m 47 #[.val (.int p1), .val (.int p2), .val (.int p3), .val (.int p4), .val (.ref b1), .unset, .unset, .unset, .unset, .unset, .unset, .unset, .unset] [(.int (((p2.toUInt32 >>> ((8 : Int32) &&& 31).toUInt32).toInt32) &&& (255 : Int32))), (.int (1 : Int32)), (.ref b6), (.ref b6), (.ref b5), (.ref b5)])) (fun t k => XS.iand X7.here hx rfl (hb hby at_46) rfl k) ?_
  refine Go.on (B := T7.setTop (mkF m 48 #[.val (.int p1), .val (.int p2), .val (.int p3), .val (.int p4), .val (.ref b1), .unset, .unset, .unset, .unset, .unset, .unset, .unset, .unset] [(.int ((((p2.toUInt32 >>> ((8 : Int32) &&& 31).toUInt32).toInt32) &&& (255 : Int32)).toUInt32.toUInt16.toUInt32.toInt32)), (.int (1 : Int32)), (.ref b6), (.ref b6), (.ref b5), (.ref b5)])) (fun t k => XS.i2c X7.here hx rfl (hb hby at_47) rfl k) ?_
  obtain ⟨cl8, Ar8, qq8, Sz8, Ng8, Hh8, Gg8⟩ := id V7
  have hin8 : ¬ ((1 : Int32) < 0 ∨ cl8.slots.size ≤ ((1 : Int32)).toNatClampNeg) := inb_of Sz8 ⟨by decide, by decide⟩
  obtain ⟨T8, h8, X8, e8, W8, st8⟩ := stC X7 hx hZ e7 Ar8 (j := (1 : Int32)) hin8 (g := (mkF m 48 #[.val (.int p1), .val (.int p2), .val (.int p3), .val (.int p4), .val (.ref b1), .unset, .unset, .unset, .unset, .unset, .unset, .unset, .unset] [(.int ((((p2.toUInt32 >>> ((8 : Int32) &&& 31).toUInt32).toInt32) &&& (255 : Int32)).toUInt32.toUInt16.toUInt32.toInt32)), (.int (1 : Int32)), (.ref b6), (.ref b6), (.ref b5), (.ref b5)])) rfl rfl (hb hby at_48)
  have V8 : Arv Z h8 b6 k6 .char (2 : Int32) [(.int (nar .char ((p2 &&& (255 : Int32)).toUInt32.toUInt16.toUInt32.toInt32))), (.int (nar .char ((((p2.toUInt32 >>> ((8 : Int32) &&& 31).toUInt32).toInt32) &&& (255 : Int32)).toUInt32.toUInt16.toUInt32.toInt32)))] (.int (0 : Int32)) := Arv.set Ar8 qq8 Sz8 Ng8 Hh8 Gg8 (fits_nar_char _) W8 1 rfl (Nat.le_of_ble_eq_true rfl)
  have N8 := Fr.snoc X8 N7 ge_b6
  have O_35 := O_28.wr W8 ge_b6
  have f36 := f29.wr W8
  have f37 := f30.other W8 ne_b2_b6
  have f38 := f31.wr W8
  have f39 := f32.other W8 (Or.inl ne_b5_b6)
  have f40 := f33.other W8 (Or.inl ne_b5_b6)
  have Zs41 := Nat.le_trans Zs34 (Keep.of_wr W8).1
  refine Go.on (B := T8.setTop (mkF m 49 #[.val (.int p1), .val (.int p2), .val (.int p3), .val (.int p4), .val (.ref b1), .unset, .unset, .unset, .unset, .unset, .unset, .unset, .unset] [(.ref b6), (.ref b5), (.ref b5)])) (fun t k => st8 _ k) ?_
  have hp9 : ∀ c ∈ ([(nar .char ((p2 &&& (255 : Int32)).toUInt32.toUInt16.toUInt32.toInt32)), (nar .char ((((p2.toUInt32 >>> ((8 : Int32) &&& 31).toUInt32).toInt32) &&& (255 : Int32)).toUInt32.toUInt16.toUInt32.toInt32))] : List Int32), ¬ c < 0 ∧ ¬ (255 : Int32) < c := by
    intro c hc
    simp only [List.mem_cons, List.not_mem_nil, or_false] at hc
    rcases hc with rfl | rfl
    · exact own_255 _
    · exact own_255 _
  obtain ⟨_, _, ⟨T9, L9, k9, n9⟩, -, X9, ⟨Lc9, hQ9, l9, y9, z9⟩, st9⟩ := X8.specialBack hx (y := (⟨"java/lang/String", "<init>", "([C)V"⟩ : MethodName)) rfl hown (mvT hZ (hw _ (List.mem_of_getElem? (i := 4) rfl))) (mvT hZ (hw _ (List.mem_of_getElem? (i := 5) rfl))) (mvT hZ (hw _ (List.mem_of_getElem? (i := 6) rfl))) (by decide) (StrChars.Road.backV (W := 1) hZ hws (kI := 4) (hw _ (List.mem_of_getElem? (i := 1) rfl)) (cs := ([(nar .char ((p2 &&& (255 : Int32)).toUInt32.toUInt16.toUInt32.toInt32)), (nar .char ((((p2.toUInt32 >>> ((8 : Int32) &&& 31).toUInt32).toInt32) &&& (255 : Int32)).toUInt32.toUInt16.toUInt32.toInt32))] : List Int32)) (bs := (([(nar .char ((p2 &&& (255 : Int32)).toUInt32.toUInt16.toUInt32.toInt32)), (nar .char ((((p2.toUInt32 >>> ((8 : Int32) &&& 31).toUInt32).toInt32) &&& (255 : Int32)).toUInt32.toUInt16.toUInt32.toInt32))] : List Int32)).map (fun c => c.toInt8.toInt32)) (n := 2) ge_b5 Zs41 f38 f40 f39 V8 (O2.ext O_35.2) P5 rfl rfl (by decide) (by decide) hp9 rfl (by decide) (by decide)) (g := (mkF m 49 #[.val (.int p1), .val (.int p2), .val (.int p3), .val (.int p4), .val (.ref b1), .unset, .unset, .unset, .unset, .unset, .unset, .unset, .unset] [(.ref b6), (.ref b5), (.ref b5)])) rfl (by rw [hml]; rfl) (Steps.refl _) (a := b5) (argsL := [(.ref b6)]) (rest := [(.ref b5)]) (lenOf pd_1 rfl) rfl (by show 2 * 0 + _ ≤ _; exact Nat.le_of_eq rfl) (hb hby at_49) (fun _ _ => ⟨rfl, e8, (by decide : 5 + 1 ≤ _), (by decide : 12 + 2 ≤ _)⟩)
  dsimp only [Pt.U, Pt.locs, Pt.cells, Pt.slots] at X9 l9 y9 z9 st9 hQ9
  subst l9 y9 z9
  obtain ⟨rfl, N9q, K9q, -⟩ := hQ9
  have N9 := Fr.app N8 N9q
  have O_42 := O_35.keep K9q (allS ge_b5 all0)
  have f43 := f36.keep K9q
  have f44 := f37.keep K9q (ninS ne_b2_b5 nin0)
  have f45 := f38.keep K9q
  have f46 := V8.keep K9q (ninS (Ne.symm ne_b5_b6) nin0)
  have Zs47 := Nat.le_trans Zs41 K9q.1
  refine Go.on (B := T9.setTop (mkF m 52 #[.val (.int p1), .val (.int p2), .val (.int p3), .val (.int p4), .val (.ref b1), .unset, .unset, .unset, .unset, .unset, .unset, .unset, .unset] [(.ref b5)])) (fun t k => st9.trans k) ?_
  refine Go.on (B := T9.setTop (mkF m 54 #[.val (.int p1), .val (.int p2), .val (.int p3), .val (.int p4), .val (.ref b1), .val (.ref b5), .unset, .unset, .unset, .unset, .unset, .unset, .unset] [])) (fun t k => XS.astore X9.here hx rfl (hb hby at_52) rfl rfl (l' := #[.val (.int p1), .val (.int p2), .val (.int p3), .val (.int p4), .val (.ref b1), .val (.ref b5), .unset, .unset, .unset, .unset, .unset, .unset, .unset]) rfl k) ?_
  obtain ⟨T10, h10, X10, e10, E10, A10, D10, -, st10⟩ := newO X9 hx hZ hown (hw _ (List.mem_of_getElem? (i := 0) rfl)) (hw _ (List.mem_of_getElem? (i := 1) rfl)) (hw _ (List.mem_of_getElem? (i := 2) rfl)) rfl (g := (mkF m 54 #[.val (.int p1), .val (.int p2), .val (.int p3), .val (.int p4), .val (.ref b1), .val (.ref b5), .unset, .unset, .unset, .unset, .unset, .unset, .unset] [])) rfl (hb hby at_54) (by decide) (by decide)
  obtain ⟨b10, g10⟩ : ∃ z, z = T9.heap.size := ⟨_, rfl⟩
  rw [← g10] at A10 D10 st10
  have ge_b10 : n0 ≤ b10 := Nat.le_trans Zs47 (Nat.le_of_eq g10.symm)
  have ne_b1_b10 : b1 ≠ b10 := Nat.ne_of_lt (Nat.lt_of_lt_of_le f43.lt (Nat.le_of_eq g10.symm))
  have ne_b2_b10 : b2 ≠ b10 := Nat.ne_of_lt (Nat.lt_of_lt_of_le f44.lt (Nat.le_of_eq g10.symm))
  have ne_b5_b10 : b5 ≠ b10 := Nat.ne_of_lt (Nat.lt_of_lt_of_le f45.lt (Nat.le_of_eq g10.symm))
  have ne_b6_b10 : b6 ≠ b10 := Nat.ne_of_lt (Nat.lt_of_lt_of_le f46.lt (Nat.le_of_eq g10.symm))
  have O_48 := O_42.ext E10
  have f49 := f43.ext E10
  have f50 := f44.ext E10
  have f51 := f45.ext E10
  have f52 := f46.ext E10
  have Zs53 := Nat.le_trans Zs47 E10.1
  have F10_coder : Fld Z h10 b10 "java/lang/String" "coder" "B" (.int (0 : Int32)) := D10 (Or.inr (hw _ (List.mem_of_getElem? (i := 27) rfl))) (ty := .byte) (by decide)
  have F10_value : Fld Z h10 b10 "java/lang/String" "value" "[B" .null := D10 (Or.inr (hw _ (List.mem_of_getElem? (i := 29) rfl))) (ty := (.array .byte)) (by decide)
  refine Go.on (B := T10.setTop (mkF m 57 #[.val (.int p1), .val (.int p2), .val (.int p3), .val (.int p4), .val (.ref b1), .val (.ref b5), .unset, .unset, .unset, .unset, .unset, .unset, .unset] [(.ref b10)])) (fun t k => st10 _ k) ?_
  refine Go.on (B := T10.setTop (mkF m 58 #[.val (.int p1), .val (.int p2), .val (.int p3), .val (.int p4), .val (.ref b1), .val (.ref b5), .unset, .unset, .unset, .unset, .unset, .unset, .unset] [(.ref b10), (.ref b10)])) (fun t k => XS.dup X10.here hx rfl (hb hby at_57) rfl rfl k) ?_
  refine Go.on (B := T10.setTop (mkF m 59 #[.val (.int p1), .val (.int p2), .val (.int p3), .val (.int p4), .val (.ref b1), .val (.ref b5), .unset, .unset, .unset, .unset, .unset, .unset, .unset] [(.int (3 : Int32)), (.ref b10), (.ref b10)])) (fun t k => XS.iconst X10.here hx rfl (hb hby at_58) k) ?_
  obtain ⟨T11, h11, k11, X11, e11, E11, A11, st11⟩ := newP X10 hx hZ (hw _ (List.mem_of_getElem? (i := 3) rfl)) e10 (g := (mkF m 59 #[.val (.int p1), .val (.int p2), .val (.int p3), .val (.int p4), .val (.ref b1), .val (.ref b5), .unset, .unset, .unset, .unset, .unset, .unset, .unset] [(.int (3 : Int32)), (.ref b10), (.ref b10)])) rfl (hb hby at_59) rfl (by decide) (cap := 3) (by decide) (by decide) (by decide) (by decide)
  obtain ⟨b11, g11⟩ : ∃ z, z = h10.size := ⟨_, rfl⟩
  rw [← g11] at A11 st11
  have ge_b11 : n0 ≤ b11 := Nat.le_trans Zs53 (Nat.le_of_eq g11.symm)
  have ne_b1_b11 : b1 ≠ b11 := Nat.ne_of_lt (Nat.lt_of_lt_of_le f49.lt (Nat.le_of_eq g11.symm))
  have ne_b2_b11 : b2 ≠ b11 := Nat.ne_of_lt (Nat.lt_of_lt_of_le f50.lt (Nat.le_of_eq g11.symm))
  have ne_b5_b11 : b5 ≠ b11 := Nat.ne_of_lt (Nat.lt_of_lt_of_le f51.lt (Nat.le_of_eq g11.symm))
  have ne_b6_b11 : b6 ≠ b11 := Nat.ne_of_lt (Nat.lt_of_lt_of_le f52.lt (Nat.le_of_eq g11.symm))
  have ne_b10_b11 : b10 ≠ b11 := Nat.ne_of_lt (Nat.lt_of_lt_of_le A10.lt (Nat.le_of_eq g11.symm))
  have O_54 := O_48.ext E11
  have f55 := f49.ext E11
  have f56 := f50.ext E11
  have f57 := f51.ext E11
  have f58 := f52.ext E11
  have f59 := A10.ext E11
  have f60 := F10_coder.ext E11
  have f61 := F10_value.ext E11
  have Zs62 := Nat.le_trans Zs53 E11.1
  have V11 : Arv Z h11 b11 k11 .char (3 : Int32) [(.int (0 : Int32)), (.int (0 : Int32)), (.int (0 : Int32))] (.int (0 : Int32)) := (Arv.new A11 (by decide)).pad (pad_rep [] (.int (0 : Int32)) 3)
  refine Go.on (B := T11.setTop (mkF m 61 #[.val (.int p1), .val (.int p2), .val (.int p3), .val (.int p4), .val (.ref b1), .val (.ref b5), .unset, .unset, .unset, .unset, .unset, .unset, .unset] [(.ref b11), (.ref b10), (.ref b10)])) (fun t k => st11 _ k) ?_
  refine Go.on (B := T11.setTop (mkF m 62 #[.val (.int p1), .val (.int p2), .val (.int p3), .val (.int p4), .val (.ref b1), .val (.ref b5), .unset, .unset, .unset, .unset, .unset, .unset, .unset] [(.ref b11), (.ref b11), (.ref b10), (.ref b10)])) (fun t k => XS.dup X11.here hx rfl (hb hby at_61) rfl rfl k) ?_
  refine Go.on (B := T11.setTop (mkF m 63 #[.val (.int p1), .val (.int p2), .val (.int p3), .val (.int p4), .val (.ref b1), .val (.ref b5), .unset, .unset, .unset, .unset, .unset, .unset, .unset] [(.int (0 : Int32)), (.ref b11), (.ref b11), (.ref b10), (.ref b10)])) (fun t k => XS.iconst X11.here hx rfl (hb hby at_62) k) ?_
  refine Go.on (B := T11.setTop (mkF m 64 #[.val (.int p1), .val (.int p2), .val (.int p3), .val (.int p4), .val (.ref b1), .val (.ref b5), .unset, .unset, .unset, .unset, .unset, .unset, .unset] [(.int p3), (.int (0 : Int32)), (.ref b11), (.ref b11), (.ref b10), (.ref b10)])) (fun t k => XS.iloadN X11.here hx rfl (hb hby at_63) rfl k) ?_
  refine Go.on (B := T11.setTop (mkF m 67 #[.val (.int p1), .val (.int p2), .val (.int p3), .val (.int p4), .val (.ref b1), .val (.ref b5), .unset, .unset, .unset, .unset, .unset, .unset, .unset] [(.int (255 : Int32)), (.int p3), (.int (0 : Int32)), (.ref b11), (.ref b11), (.ref b10), (.ref b10)])) (fun t k => XS.sipush X11.here hx rfl (hb hby at_64) k) ?_
  refine Go.on (B := T11.setTop (mkF m 68 #[.val (.int p1), .val (.int p2), .val (.int p3), .val (.int p4), .val (.ref b1), .val (.ref b5), .unset, .unset, .unset, .unset, .unset, .unset, .unset] [(.int (p3 &&& (255 : Int32))), (.int (0 : Int32)), (.ref b11), (.ref b11), (.ref b10), (.ref b10)])) (fun t k => XS.iand X11.here hx rfl (hb hby at_67) rfl k) ?_
  refine Go.on (B := T11.setTop (mkF m 69 #[.val (.int p1), .val (.int p2), .val (.int p3), .val (.int p4), .val (.ref b1), .val (.ref b5), .unset, .unset, .unset, .unset, .unset, .unset, .unset] [(.int ((p3 &&& (255 : Int32)).toUInt32.toUInt16.toUInt32.toInt32)), (.int (0 : Int32)), (.ref b11), (.ref b11), (.ref b10), (.ref b10)])) (fun t k => XS.i2c X11.here hx rfl (hb hby at_68) rfl k) ?_
  obtain ⟨cl12, Ar12, qq12, Sz12, Ng12, Hh12, Gg12⟩ := id V11
  have hin12 : ¬ ((0 : Int32) < 0 ∨ cl12.slots.size ≤ ((0 : Int32)).toNatClampNeg) := inb_of Sz12 ⟨by decide, by decide⟩
  obtain ⟨T12, h12, X12, e12, W12, st12⟩ := stC X11 hx hZ e11 Ar12 (j := (0 : Int32)) hin12 (g := (mkF m 69 #[.val (.int p1), .val (.int p2), .val (.int p3), .val (.int p4), .val (.ref b1), .val (.ref b5), .unset, .unset, .unset, .unset, .unset, .unset, .unset] [(.int ((p3 &&& (255 : Int32)).toUInt32.toUInt16.toUInt32.toInt32)), (.int (0 : Int32)), (.ref b11), (.ref b11), (.ref b10), (.ref b10)])) rfl rfl (hb hby at_69)
  have V12 : Arv Z h12 b11 k11 .char (3 : Int32) [(.int (nar .char ((p3 &&& (255 : Int32)).toUInt32.toUInt16.toUInt32.toInt32))), (.int (0 : Int32)), (.int (0 : Int32))] (.int (0 : Int32)) := Arv.set Ar12 qq12 Sz12 Ng12 Hh12 Gg12 (fits_nar_char _) W12 0 rfl (Nat.le_of_ble_eq_true rfl)
  have N12 := Fr.snoc X12 N9 ge_b11
  have O_63 := O_54.wr W12 ge_b11
  have f64 := f55.wr W12
  have f65 := f56.other W12 ne_b2_b11
  have f66 := f57.wr W12
  have f67 := f58.other W12 ne_b6_b11
  have f68 := f59.wr W12
  have f69 := f60.other W12 (Or.inl ne_b10_b11)
  have f70 := f61.other W12 (Or.inl ne_b10_b11)
  have Zs71 := Nat.le_trans Zs62 (Keep.of_wr W12).1
  refine Go.on (B := T12.setTop (mkF m 70 #[.val (.int p1), .val (.int p2), .val (.int p3), .val (.int p4), .val (.ref b1), .val (.ref b5), .unset, .unset, .unset, .unset, .unset, .unset, .unset] [(.ref b11), (.ref b10), (.ref b10)])) (fun t k => st12 _ k) ?_
  refine Go.on (B := T12.setTop (mkF m 71 #[.val (.int p1), .val (.int p2), .val (.int p3), .val (.int p4), .val (.ref b1), .val (.ref b5), .unset, .unset, .unset, .unset, .unset, .unset, .unset] [(.ref b11), (.ref b11), (.ref b10), (.ref b10)])) (fun t k => XS.dup X12.here hx rfl (hb hby at_70) rfl rfl k) ?_
  refine Go.on (B := T12.setTop (mkF m 72 #[.val (.int p1), .val (.int p2), .val (.int p3), .val (.int p4), .val (.ref b1), .val (.ref b5), .unset, .unset, .unset, .unset, .unset, .unset, .unset] [(.int (1 : Int32)), (.ref b11), (.ref b11), (.ref b10), (.ref b10)])) (fun t k => XS.iconst X12.here hx rfl (hb hby at_71) k) ?_
  refine Go.on (B := T12.setTop (mkF m 73 #[.val (.int p1), .val (.int p2), .val (.int p3), .val (.int p4), .val (.ref b1), .val (.ref b5), .unset, .unset, .unset, .unset, .unset, .unset, .unset] [(.int p3), (.int (1 : Int32)), (.ref b11), (.ref b11), (.ref b10), (.ref b10)])) (fun t k => XS.iloadN X12.here hx rfl (hb hby at_72) rfl k) ?_
  refine Go.on (B := T12.setTop (mkF m 75 #[.val (.int p1), .val (.int p2), .val (.int p3), .val (.int p4), .val (.ref b1), .val (.ref b5), .unset, .unset, .unset, .unset, .unset, .unset, .unset] [(.int (8 : Int32)), (.int p3), (.int (1 : Int32)), (.ref b11), (.ref b11), (.ref b10), (.ref b10)])) (fun t k => XS.bipush X12.here hx rfl (hb hby at_73) k) ?_
  refine Go.on (B := T12.setTop (mkF m 76 #[.val (.int p1), .val (.int p2), .val (.int p3), .val (.int p4), .val (.ref b1), .val (.ref b5), .unset, .unset, .unset, .unset, .unset, .unset, .unset] [(.int ((p3.toUInt32 >>> ((8 : Int32) &&& 31).toUInt32).toInt32)), (.int (1 : Int32)), (.ref b11), (.ref b11), (.ref b10), (.ref b10)])) (fun t k => XS.iushr X12.here hx rfl (hb hby at_75) rfl k) ?_
  refine Go.on (B := T12.setTop (mkF m 79 #[.val (.int p1), .val (.int p2), .val (.int p3), .val (.int p4), .val (.ref b1), .val (.ref b5), .unset, .unset, .unset, .unset, .unset, .unset, .unset] [(.int (255 : Int32)), (.int ((p3.toUInt32 >>> ((8 : Int32) &&& 31).toUInt32).toInt32)), (.int (1 : Int32)), (.ref b11), (.ref b11), (.ref b10), (.ref b10)])) (fun t k => XS.sipush X12.here hx rfl (hb hby at_76) k) ?_
  refine Go.on (B := T12.setTop (mkF m 80 #[.val (.int p1), .val (.int p2), .val (.int p3), .val (.int p4), .val (.ref b1), .val (.ref b5), .unset, .unset, .unset, .unset, .unset, .unset, .unset] [(.int (((p3.toUInt32 >>> ((8 : Int32) &&& 31).toUInt32).toInt32) &&& (255 : Int32))), (.int (1 : Int32)), (.ref b11), (.ref b11), (.ref b10), (.ref b10)])) (fun t k => XS.iand X12.here hx rfl (hb hby at_79) rfl k) ?_
  refine Go.on (B := T12.setTop (mkF m 81 #[.val (.int p1), .val (.int p2), .val (.int p3), .val (.int p4), .val (.ref b1), .val (.ref b5), .unset, .unset, .unset, .unset, .unset, .unset, .unset] [(.int ((((p3.toUInt32 >>> ((8 : Int32) &&& 31).toUInt32).toInt32) &&& (255 : Int32)).toUInt32.toUInt16.toUInt32.toInt32)), (.int (1 : Int32)), (.ref b11), (.ref b11), (.ref b10), (.ref b10)])) (fun t k => XS.i2c X12.here hx rfl (hb hby at_80) rfl k) ?_
  obtain ⟨cl13, Ar13, qq13, Sz13, Ng13, Hh13, Gg13⟩ := id V12
  have hin13 : ¬ ((1 : Int32) < 0 ∨ cl13.slots.size ≤ ((1 : Int32)).toNatClampNeg) := inb_of Sz13 ⟨by decide, by decide⟩
  obtain ⟨T13, h13, X13, e13, W13, st13⟩ := stC X12 hx hZ e12 Ar13 (j := (1 : Int32)) hin13 (g := (mkF m 81 #[.val (.int p1), .val (.int p2), .val (.int p3), .val (.int p4), .val (.ref b1), .val (.ref b5), .unset, .unset, .unset, .unset, .unset, .unset, .unset] [(.int ((((p3.toUInt32 >>> ((8 : Int32) &&& 31).toUInt32).toInt32) &&& (255 : Int32)).toUInt32.toUInt16.toUInt32.toInt32)), (.int (1 : Int32)), (.ref b11), (.ref b11), (.ref b10), (.ref b10)])) rfl rfl (hb hby at_81)
  have V13 : Arv Z h13 b11 k11 .char (3 : Int32) [(.int (nar .char ((p3 &&& (255 : Int32)).toUInt32.toUInt16.toUInt32.toInt32))), (.int (nar .char ((((p3.toUInt32 >>> ((8 : Int32) &&& 31).toUInt32).toInt32) &&& (255 : Int32)).toUInt32.toUInt16.toUInt32.toInt32))), (.int (0 : Int32))] (.int (0 : Int32)) := Arv.set Ar13 qq13 Sz13 Ng13 Hh13 Gg13 (fits_nar_char _) W13 1 rfl (Nat.le_of_ble_eq_true rfl)
  have N13 := Fr.snoc X13 N12 ge_b11
  have O_72 := O_63.wr W13 ge_b11
  have f73 := f64.wr W13
  have f74 := f65.other W13 ne_b2_b11
  have f75 := f66.wr W13
  have f76 := f67.other W13 ne_b6_b11
  have f77 := f68.wr W13
  have f78 := f69.other W13 (Or.inl ne_b10_b11)
  have f79 := f70.other W13 (Or.inl ne_b10_b11)
  have Zs80 := Nat.le_trans Zs71 (Keep.of_wr W13).1
  refine Go.on (B := T13.setTop (mkF m 82 #[.val (.int p1), .val (.int p2), .val (.int p3), .val (.int p4), .val (.ref b1), .val (.ref b5), .unset, .unset, .unset, .unset, .unset, .unset, .unset] [(.ref b11), (.ref b10), (.ref b10)])) (fun t k => st13 _ k) ?_
  refine Go.on (B := T13.setTop (mkF m 83 #[.val (.int p1), .val (.int p2), .val (.int p3), .val (.int p4), .val (.ref b1), .val (.ref b5), .unset, .unset, .unset, .unset, .unset, .unset, .unset] [(.ref b11), (.ref b11), (.ref b10), (.ref b10)])) (fun t k => XS.dup X13.here hx rfl (hb hby at_82) rfl rfl k) ?_
  refine Go.on (B := T13.setTop (mkF m 84 #[.val (.int p1), .val (.int p2), .val (.int p3), .val (.int p4), .val (.ref b1), .val (.ref b5), .unset, .unset, .unset, .unset, .unset, .unset, .unset] [(.int (2 : Int32)), (.ref b11), (.ref b11), (.ref b10), (.ref b10)])) (fun t k => XS.iconst X13.here hx rfl (hb hby at_83) k) ?_
  refine Go.on (B := T13.setTop (mkF m 85 #[.val (.int p1), .val (.int p2), .val (.int p3), .val (.int p4), .val (.ref b1), .val (.ref b5), .unset, .unset, .unset, .unset, .unset, .unset, .unset] [(.int p3), (.int (2 : Int32)), (.ref b11), (.ref b11), (.ref b10), (.ref b10)])) (fun t k => XS.iloadN X13.here hx rfl (hb hby at_84) rfl k) ?_
  refine Go.on (B := T13.setTop (mkF m 87 #[.val (.int p1), .val (.int p2), .val (.int p3), .val (.int p4), .val (.ref b1), .val (.ref b5), .unset, .unset, .unset, .unset, .unset, .unset, .unset] [(.int (16 : Int32)), (.int p3), (.int (2 : Int32)), (.ref b11), (.ref b11), (.ref b10), (.ref b10)])) (fun t k => XS.bipush X13.here hx rfl (hb hby at_85) k) ?_
  refine Go.on (B := T13.setTop (mkF m 88 #[.val (.int p1), .val (.int p2), .val (.int p3), .val (.int p4), .val (.ref b1), .val (.ref b5), .unset, .unset, .unset, .unset, .unset, .unset, .unset] [(.int ((p3.toUInt32 >>> ((16 : Int32) &&& 31).toUInt32).toInt32)), (.int (2 : Int32)), (.ref b11), (.ref b11), (.ref b10), (.ref b10)])) (fun t k => XS.iushr X13.here hx rfl (hb hby at_87) rfl k) ?_
  refine Go.on (B := T13.setTop (mkF m 91 #[.val (.int p1), .val (.int p2), .val (.int p3), .val (.int p4), .val (.ref b1), .val (.ref b5), .unset, .unset, .unset, .unset, .unset, .unset, .unset] [(.int (255 : Int32)), (.int ((p3.toUInt32 >>> ((16 : Int32) &&& 31).toUInt32).toInt32)), (.int (2 : Int32)), (.ref b11), (.ref b11), (.ref b10), (.ref b10)])) (fun t k => XS.sipush X13.here hx rfl (hb hby at_88) k) ?_
  refine Go.on (B := T13.setTop (mkF m 92 #[.val (.int p1), .val (.int p2), .val (.int p3), .val (.int p4), .val (.ref b1), .val (.ref b5), .unset, .unset, .unset, .unset, .unset, .unset, .unset] [(.int (((p3.toUInt32 >>> ((16 : Int32) &&& 31).toUInt32).toInt32) &&& (255 : Int32))), (.int (2 : Int32)), (.ref b11), (.ref b11), (.ref b10), (.ref b10)])) (fun t k => XS.iand X13.here hx rfl (hb hby at_91) rfl k) ?_
  refine Go.on (B := T13.setTop (mkF m 93 #[.val (.int p1), .val (.int p2), .val (.int p3), .val (.int p4), .val (.ref b1), .val (.ref b5), .unset, .unset, .unset, .unset, .unset, .unset, .unset] [(.int ((((p3.toUInt32 >>> ((16 : Int32) &&& 31).toUInt32).toInt32) &&& (255 : Int32)).toUInt32.toUInt16.toUInt32.toInt32)), (.int (2 : Int32)), (.ref b11), (.ref b11), (.ref b10), (.ref b10)])) (fun t k => XS.i2c X13.here hx rfl (hb hby at_92) rfl k) ?_
  obtain ⟨cl14, Ar14, qq14, Sz14, Ng14, Hh14, Gg14⟩ := id V13
  have hin14 : ¬ ((2 : Int32) < 0 ∨ cl14.slots.size ≤ ((2 : Int32)).toNatClampNeg) := inb_of Sz14 ⟨by decide, by decide⟩
  obtain ⟨T14, h14, X14, e14, W14, st14⟩ := stC X13 hx hZ e13 Ar14 (j := (2 : Int32)) hin14 (g := (mkF m 93 #[.val (.int p1), .val (.int p2), .val (.int p3), .val (.int p4), .val (.ref b1), .val (.ref b5), .unset, .unset, .unset, .unset, .unset, .unset, .unset] [(.int ((((p3.toUInt32 >>> ((16 : Int32) &&& 31).toUInt32).toInt32) &&& (255 : Int32)).toUInt32.toUInt16.toUInt32.toInt32)), (.int (2 : Int32)), (.ref b11), (.ref b11), (.ref b10), (.ref b10)])) rfl rfl (hb hby at_93)
  have V14 : Arv Z h14 b11 k11 .char (3 : Int32) [(.int (nar .char ((p3 &&& (255 : Int32)).toUInt32.toUInt16.toUInt32.toInt32))), (.int (nar .char ((((p3.toUInt32 >>> ((8 : Int32) &&& 31).toUInt32).toInt32) &&& (255 : Int32)).toUInt32.toUInt16.toUInt32.toInt32))), (.int (nar .char ((((p3.toUInt32 >>> ((16 : Int32) &&& 31).toUInt32).toInt32) &&& (255 : Int32)).toUInt32.toUInt16.toUInt32.toInt32)))] (.int (0 : Int32)) := Arv.set Ar14 qq14 Sz14 Ng14 Hh14 Gg14 (fits_nar_char _) W14 2 rfl (Nat.le_of_ble_eq_true rfl)
  have N14 := Fr.snoc X14 N13 ge_b11
  have O_81 := O_72.wr W14 ge_b11
  have f82 := f73.wr W14
  have f83 := f74.other W14 ne_b2_b11
  have f84 := f75.wr W14
  have f85 := f76.other W14 ne_b6_b11
  have f86 := f77.wr W14
  have f87 := f78.other W14 (Or.inl ne_b10_b11)
  have f88 := f79.other W14 (Or.inl ne_b10_b11)
  have Zs89 := Nat.le_trans Zs80 (Keep.of_wr W14).1
  refine Go.on (B := T14.setTop (mkF m 94 #[.val (.int p1), .val (.int p2), .val (.int p3), .val (.int p4), .val (.ref b1), .val (.ref b5), .unset, .unset, .unset, .unset, .unset, .unset, .unset] [(.ref b11), (.ref b10), (.ref b10)])) (fun t k => st14 _ k) ?_
  have hp15 : ∀ c ∈ ([(nar .char ((p3 &&& (255 : Int32)).toUInt32.toUInt16.toUInt32.toInt32)), (nar .char ((((p3.toUInt32 >>> ((8 : Int32) &&& 31).toUInt32).toInt32) &&& (255 : Int32)).toUInt32.toUInt16.toUInt32.toInt32)), (nar .char ((((p3.toUInt32 >>> ((16 : Int32) &&& 31).toUInt32).toInt32) &&& (255 : Int32)).toUInt32.toUInt16.toUInt32.toInt32))] : List Int32), ¬ c < 0 ∧ ¬ (255 : Int32) < c := by
    intro c hc
    simp only [List.mem_cons, List.not_mem_nil, or_false] at hc
    rcases hc with rfl | rfl | rfl
    · exact own_255 _
    · exact own_255 _
    · exact own_255 _
  obtain ⟨_, _, ⟨T15, L15, k15, n15⟩, -, X15, ⟨Lc15, hQ15, l15, y15, z15⟩, st15⟩ := X14.specialBack hx (y := (⟨"java/lang/String", "<init>", "([C)V"⟩ : MethodName)) rfl hown (mvT hZ (hw _ (List.mem_of_getElem? (i := 4) rfl))) (mvT hZ (hw _ (List.mem_of_getElem? (i := 5) rfl))) (mvT hZ (hw _ (List.mem_of_getElem? (i := 6) rfl))) (by decide) (StrChars.Road.backV (W := 1) hZ hws (kI := 4) (hw _ (List.mem_of_getElem? (i := 1) rfl)) (cs := ([(nar .char ((p3 &&& (255 : Int32)).toUInt32.toUInt16.toUInt32.toInt32)), (nar .char ((((p3.toUInt32 >>> ((8 : Int32) &&& 31).toUInt32).toInt32) &&& (255 : Int32)).toUInt32.toUInt16.toUInt32.toInt32)), (nar .char ((((p3.toUInt32 >>> ((16 : Int32) &&& 31).toUInt32).toInt32) &&& (255 : Int32)).toUInt32.toUInt16.toUInt32.toInt32))] : List Int32)) (bs := (([(nar .char ((p3 &&& (255 : Int32)).toUInt32.toUInt16.toUInt32.toInt32)), (nar .char ((((p3.toUInt32 >>> ((8 : Int32) &&& 31).toUInt32).toInt32) &&& (255 : Int32)).toUInt32.toUInt16.toUInt32.toInt32)), (nar .char ((((p3.toUInt32 >>> ((16 : Int32) &&& 31).toUInt32).toInt32) &&& (255 : Int32)).toUInt32.toUInt16.toUInt32.toInt32))] : List Int32)).map (fun c => c.toInt8.toInt32)) (n := 3) ge_b10 Zs89 f86 f88 f87 V14 (O2.ext O_81.2) P5 rfl rfl (by decide) (by decide) hp15 rfl (by decide) (by decide)) (g := (mkF m 94 #[.val (.int p1), .val (.int p2), .val (.int p3), .val (.int p4), .val (.ref b1), .val (.ref b5), .unset, .unset, .unset, .unset, .unset, .unset, .unset] [(.ref b11), (.ref b10), (.ref b10)])) rfl (by rw [hml]; rfl) (Steps.refl _) (a := b10) (argsL := [(.ref b11)]) (rest := [(.ref b10)]) (lenOf pd_1 rfl) rfl (by show 2 * 0 + _ ≤ _; exact Nat.le_of_eq rfl) (hb hby at_94) (fun _ _ => ⟨rfl, e14, (by decide : 8 + 1 ≤ _), (by decide : 21 + 3 ≤ _)⟩)
  dsimp only [Pt.U, Pt.locs, Pt.cells, Pt.slots] at X15 l15 y15 z15 st15 hQ15
  subst l15 y15 z15
  obtain ⟨rfl, N15q, K15q, -⟩ := hQ15
  have N15 := Fr.app N14 N15q
  have O_90 := O_81.keep K15q (allS ge_b10 all0)
  have f91 := f82.keep K15q
  have f92 := f83.keep K15q (ninS ne_b2_b10 nin0)
  have f93 := f84.keep K15q
  have f94 := f85.keep K15q (ninS ne_b6_b10 nin0)
  have f95 := f86.keep K15q
  have f96 := V14.keep K15q (ninS (Ne.symm ne_b10_b11) nin0)
  have Zs97 := Nat.le_trans Zs89 K15q.1
  refine Go.on (B := T15.setTop (mkF m 97 #[.val (.int p1), .val (.int p2), .val (.int p3), .val (.int p4), .val (.ref b1), .val (.ref b5), .unset, .unset, .unset, .unset, .unset, .unset, .unset] [(.ref b10)])) (fun t k => st15.trans k) ?_
  refine Go.on (B := T15.setTop (mkF m 99 #[.val (.int p1), .val (.int p2), .val (.int p3), .val (.int p4), .val (.ref b1), .val (.ref b5), .val (.ref b10), .unset, .unset, .unset, .unset, .unset, .unset] [])) (fun t k => XS.astore X15.here hx rfl (hb hby at_97) rfl rfl (l' := #[.val (.int p1), .val (.int p2), .val (.int p3), .val (.int p4), .val (.ref b1), .val (.ref b5), .val (.ref b10), .unset, .unset, .unset, .unset, .unset, .unset]) rfl k) ?_
  refine Go.on (B := T15.setTop (mkF m 100 #[.val (.int p1), .val (.int p2), .val (.int p3), .val (.int p4), .val (.ref b1), .val (.ref b5), .val (.ref b10), .unset, .unset, .unset, .unset, .unset, .unset] [(.int (3 : Int32))])) (fun t k => XS.iconst X15.here hx rfl (hb hby at_99) k) ?_
  obtain ⟨T16, h16, k16, X16, e16, E16, A16, O16, st16⟩ := newR X15 hx hZ hown (hw _ (List.mem_of_getElem? (i := 0) rfl)) (hw _ (List.mem_of_getElem? (i := 30) rfl)) rfl (g := (mkF m 100 #[.val (.int p1), .val (.int p2), .val (.int p3), .val (.int p4), .val (.ref b1), .val (.ref b5), .val (.ref b10), .unset, .unset, .unset, .unset, .unset, .unset] [(.int (3 : Int32))])) rfl (hb hby at_100) rfl (by decide) (cap := 3) (by decide) (by decide) (by decide) (by decide)
  obtain ⟨b16, g16⟩ : ∃ z, z = T15.heap.size := ⟨_, rfl⟩
  rw [← g16] at A16 st16
  have ge_b16 : n0 ≤ b16 := Nat.le_trans Zs97 (Nat.le_of_eq g16.symm)
  have ne_b1_b16 : b1 ≠ b16 := Nat.ne_of_lt (Nat.lt_of_lt_of_le f91.lt (Nat.le_of_eq g16.symm))
  have ne_b2_b16 : b2 ≠ b16 := Nat.ne_of_lt (Nat.lt_of_lt_of_le f92.lt (Nat.le_of_eq g16.symm))
  have ne_b5_b16 : b5 ≠ b16 := Nat.ne_of_lt (Nat.lt_of_lt_of_le f93.lt (Nat.le_of_eq g16.symm))
  have ne_b6_b16 : b6 ≠ b16 := Nat.ne_of_lt (Nat.lt_of_lt_of_le f94.lt (Nat.le_of_eq g16.symm))
  have ne_b10_b16 : b10 ≠ b16 := Nat.ne_of_lt (Nat.lt_of_lt_of_le f95.lt (Nat.le_of_eq g16.symm))
  have ne_b11_b16 : b11 ≠ b16 := Nat.ne_of_lt (Nat.lt_of_lt_of_le f96.lt (Nat.le_of_eq g16.symm))
  have O_98 := O_90.ext E16
  have f99 := f91.ext E16
  have f100 := f92.ext E16
  have f101 := f93.ext E16
  have f102 := f94.ext E16
  have f103 := f95.ext E16
  have f104 := f96.ext E16
  have Zs105 := Nat.le_trans Zs97 E16.1
  have V16 : Arv Z h16 b16 k16 (.object "java/lang/String") (3 : Int32) [.null, .null, .null] .null := (Arv.new A16 (by decide)).pad (pad_rep [] .null 3)
  refine Go.on (B := T16.setTop (mkF m 103 #[.val (.int p1), .val (.int p2), .val (.int p3), .val (.int p4), .val (.ref b1), .val (.ref b5), .val (.ref b10), .unset, .unset, .unset, .unset, .unset, .unset] [(.ref b16)])) (fun t k => st16 _ k) ?_
  refine Go.on (B := T16.setTop (mkF m 104 #[.val (.int p1), .val (.int p2), .val (.int p3), .val (.int p4), .val (.ref b1), .val (.ref b5), .val (.ref b10), .unset, .unset, .unset, .unset, .unset, .unset] [(.ref b16), (.ref b16)])) (fun t k => XS.dup X16.here hx rfl (hb hby at_103) rfl rfl k) ?_
  refine Go.on (B := T16.setTop (mkF m 105 #[.val (.int p1), .val (.int p2), .val (.int p3), .val (.int p4), .val (.ref b1), .val (.ref b5), .val (.ref b10), .unset, .unset, .unset, .unset, .unset, .unset] [(.int (0 : Int32)), (.ref b16), (.ref b16)])) (fun t k => XS.iconst X16.here hx rfl (hb hby at_104) k) ?_
  refine Go.on (B := T16.setTop (mkF m 107 #[.val (.int p1), .val (.int p2), .val (.int p3), .val (.int p4), .val (.ref b1), .val (.ref b5), .val (.ref b10), .unset, .unset, .unset, .unset, .unset, .unset] [(.ref b1), (.int (0 : Int32)), (.ref b16), (.ref b16)])) (fun t k => XS.aload X16.here hx rfl (hb hby at_105) rfl rfl k) ?_
  obtain ⟨cl17, Ar17, qq17, Sz17, Ng17, Hh17, Gg17⟩ := id V16
  have hin17 : ¬ ((0 : Int32) < 0 ∨ cl17.slots.size ≤ ((0 : Int32)).toNatClampNeg) := inb_of Sz17 ⟨by decide, by decide⟩
  obtain ⟨T17, h17, X17, e17, W17, st17⟩ := stR X16 hx hZ e16 Ar17 (j := (0 : Int32)) hin17 rfl (Sto.ofV Ar17 qq17 O16 (Ins.self f99)) (g := (mkF m 107 #[.val (.int p1), .val (.int p2), .val (.int p3), .val (.int p4), .val (.ref b1), .val (.ref b5), .val (.ref b10), .unset, .unset, .unset, .unset, .unset, .unset] [(.ref b1), (.int (0 : Int32)), (.ref b16), (.ref b16)])) rfl rfl (hb hby at_107)
  have V17 : Arv Z h17 b16 k16 (.object "java/lang/String") (3 : Int32) [(.ref b1), .null, .null] .null := Arv.set Ar17 qq17 Sz17 Ng17 Hh17 Gg17 rfl W17 0 rfl (Nat.le_of_ble_eq_true rfl)
  have N17 := Fr.snoc X17 N15 ge_b16
  have O_106 := O_98.wr W17 ge_b16
  have f107 := f99.wr W17
  have f108 := f100.other W17 ne_b2_b16
  have f109 := f101.wr W17
  have f110 := f102.other W17 ne_b6_b16
  have f111 := f103.wr W17
  have f112 := f104.other W17 ne_b11_b16
  have Zs113 := Nat.le_trans Zs105 (Keep.of_wr W17).1
  refine Go.on (B := T17.setTop (mkF m 108 #[.val (.int p1), .val (.int p2), .val (.int p3), .val (.int p4), .val (.ref b1), .val (.ref b5), .val (.ref b10), .unset, .unset, .unset, .unset, .unset, .unset] [(.ref b16)])) (fun t k => st17 _ k) ?_
  refine Go.on (B := T17.setTop (mkF m 109 #[.val (.int p1), .val (.int p2), .val (.int p3), .val (.int p4), .val (.ref b1), .val (.ref b5), .val (.ref b10), .unset, .unset, .unset, .unset, .unset, .unset] [(.ref b16), (.ref b16)])) (fun t k => XS.dup X17.here hx rfl (hb hby at_108) rfl rfl k) ?_
  refine Go.on (B := T17.setTop (mkF m 110 #[.val (.int p1), .val (.int p2), .val (.int p3), .val (.int p4), .val (.ref b1), .val (.ref b5), .val (.ref b10), .unset, .unset, .unset, .unset, .unset, .unset] [(.int (1 : Int32)), (.ref b16), (.ref b16)])) (fun t k => XS.iconst X17.here hx rfl (hb hby at_109) k) ?_
  refine Go.on (B := T17.setTop (mkF m 112 #[.val (.int p1), .val (.int p2), .val (.int p3), .val (.int p4), .val (.ref b1), .val (.ref b5), .val (.ref b10), .unset, .unset, .unset, .unset, .unset, .unset] [(.ref b5), (.int (1 : Int32)), (.ref b16), (.ref b16)])) (fun t k => XS.aload X17.here hx rfl (hb hby at_110) rfl rfl k) ?_
  obtain ⟨cl18, Ar18, qq18, Sz18, Ng18, Hh18, Gg18⟩ := id V17
  have hin18 : ¬ ((1 : Int32) < 0 ∨ cl18.slots.size ≤ ((1 : Int32)).toNatClampNeg) := inb_of Sz18 ⟨by decide, by decide⟩
  obtain ⟨T18, h18, X18, e18, W18, st18⟩ := stR X17 hx hZ e17 Ar18 (j := (1 : Int32)) hin18 rfl (Sto.ofV Ar18 qq18 O16 (Ins.self f109)) (g := (mkF m 112 #[.val (.int p1), .val (.int p2), .val (.int p3), .val (.int p4), .val (.ref b1), .val (.ref b5), .val (.ref b10), .unset, .unset, .unset, .unset, .unset, .unset] [(.ref b5), (.int (1 : Int32)), (.ref b16), (.ref b16)])) rfl rfl (hb hby at_112)
  have V18 : Arv Z h18 b16 k16 (.object "java/lang/String") (3 : Int32) [(.ref b1), (.ref b5), .null] .null := Arv.set Ar18 qq18 Sz18 Ng18 Hh18 Gg18 rfl W18 1 rfl (Nat.le_of_ble_eq_true rfl)
  have N18 := Fr.snoc X18 N17 ge_b16
  have O_114 := O_106.wr W18 ge_b16
  have f115 := f107.wr W18
  have f116 := f108.other W18 ne_b2_b16
  have f117 := f109.wr W18
  have f118 := f110.other W18 ne_b6_b16
  have f119 := f111.wr W18
  have f120 := f112.other W18 ne_b11_b16
  have Zs121 := Nat.le_trans Zs113 (Keep.of_wr W18).1
  refine Go.on (B := T18.setTop (mkF m 113 #[.val (.int p1), .val (.int p2), .val (.int p3), .val (.int p4), .val (.ref b1), .val (.ref b5), .val (.ref b10), .unset, .unset, .unset, .unset, .unset, .unset] [(.ref b16)])) (fun t k => st18 _ k) ?_
  refine Go.on (B := T18.setTop (mkF m 114 #[.val (.int p1), .val (.int p2), .val (.int p3), .val (.int p4), .val (.ref b1), .val (.ref b5), .val (.ref b10), .unset, .unset, .unset, .unset, .unset, .unset] [(.ref b16), (.ref b16)])) (fun t k => XS.dup X18.here hx rfl (hb hby at_113) rfl rfl k) ?_
  refine Go.on (B := T18.setTop (mkF m 115 #[.val (.int p1), .val (.int p2), .val (.int p3), .val (.int p4), .val (.ref b1), .val (.ref b5), .val (.ref b10), .unset, .unset, .unset, .unset, .unset, .unset] [(.int (2 : Int32)), (.ref b16), (.ref b16)])) (fun t k => XS.iconst X18.here hx rfl (hb hby at_114) k) ?_
  refine Go.on (B := T18.setTop (mkF m 117 #[.val (.int p1), .val (.int p2), .val (.int p3), .val (.int p4), .val (.ref b1), .val (.ref b5), .val (.ref b10), .unset, .unset, .unset, .unset, .unset, .unset] [(.ref b10), (.int (2 : Int32)), (.ref b16), (.ref b16)])) (fun t k => XS.aload X18.here hx rfl (hb hby at_115) rfl rfl k) ?_
  obtain ⟨cl19, Ar19, qq19, Sz19, Ng19, Hh19, Gg19⟩ := id V18
  have hin19 : ¬ ((2 : Int32) < 0 ∨ cl19.slots.size ≤ ((2 : Int32)).toNatClampNeg) := inb_of Sz19 ⟨by decide, by decide⟩
  obtain ⟨T19, h19, X19, e19, W19, st19⟩ := stR X18 hx hZ e18 Ar19 (j := (2 : Int32)) hin19 rfl (Sto.ofV Ar19 qq19 O16 (Ins.self f119)) (g := (mkF m 117 #[.val (.int p1), .val (.int p2), .val (.int p3), .val (.int p4), .val (.ref b1), .val (.ref b5), .val (.ref b10), .unset, .unset, .unset, .unset, .unset, .unset] [(.ref b10), (.int (2 : Int32)), (.ref b16), (.ref b16)])) rfl rfl (hb hby at_117)
  have V19 : Arv Z h19 b16 k16 (.object "java/lang/String") (3 : Int32) [(.ref b1), (.ref b5), (.ref b10)] .null := Arv.set Ar19 qq19 Sz19 Ng19 Hh19 Gg19 rfl W19 2 rfl (Nat.le_of_ble_eq_true rfl)
  have N19 := Fr.snoc X19 N18 ge_b16
  have O_122 := O_114.wr W19 ge_b16
  have f123 := f115.wr W19
  have f124 := f116.other W19 ne_b2_b16
  have f125 := f117.wr W19
  have f126 := f118.other W19 ne_b6_b16
  have f127 := f119.wr W19
  have f128 := f120.other W19 ne_b11_b16
  have Zs129 := Nat.le_trans Zs121 (Keep.of_wr W19).1
  refine Go.on (B := T19.setTop (mkF m 118 #[.val (.int p1), .val (.int p2), .val (.int p3), .val (.int p4), .val (.ref b1), .val (.ref b5), .val (.ref b10), .unset, .unset, .unset, .unset, .unset, .unset] [(.ref b16)])) (fun t k => st19 _ k) ?_
  refine Go.on (B := T19.setTop (mkF m 120 #[.val (.int p1), .val (.int p2), .val (.int p3), .val (.int p4), .val (.ref b1), .val (.ref b5), .val (.ref b10), .val (.ref b16), .unset, .unset, .unset, .unset, .unset] [])) (fun t k => XS.astore X19.here hx rfl (hb hby at_118) rfl rfl (l' := #[.val (.int p1), .val (.int p2), .val (.int p3), .val (.int p4), .val (.ref b1), .val (.ref b5), .val (.ref b10), .val (.ref b16), .unset, .unset, .unset, .unset, .unset]) rfl k) ?_
  refine Go.on (B := T19.setTop (mkF m 121 #[.val (.int p1), .val (.int p2), .val (.int p3), .val (.int p4), .val (.ref b1), .val (.ref b5), .val (.ref b10), .val (.ref b16), .unset, .unset, .unset, .unset, .unset] [(.int p4)])) (fun t k => XS.iloadN X19.here hx rfl (hb hby at_120) rfl k) ?_
  refine Go.on (B := T19.setTop (mkF m 123 #[.val (.int p1), .val (.int p2), .val (.int p3), .val (.int p4), .val (.ref b1), .val (.ref b5), .val (.ref b10), .val (.ref b16), .unset, .unset, .unset, .unset, .unset] [(.int (2147483647 : Int32)), (.int p4)])) (fun t k => X19.ldcInt hx hown (mvT hZ (hw _ (List.mem_of_getElem? (i := 31) rfl))) (g := (mkF m 121 #[.val (.int p1), .val (.int p2), .val (.int p3), .val (.int p4), .val (.ref b1), .val (.ref b5), .val (.ref b10), .val (.ref b16), .unset, .unset, .unset, .unset, .unset] [(.int p4)])) rfl (hb hby at_121) _ k) ?_
  refine Go.on (B := T19.setTop (mkF m 124 #[.val (.int p1), .val (.int p2), .val (.int p3), .val (.int p4), .val (.ref b1), .val (.ref b5), .val (.ref b10), .val (.ref b16), .unset, .unset, .unset, .unset, .unset] [(.int (p4 &&& (2147483647 : Int32)))])) (fun t k => XS.iand X19.here hx rfl (hb hby at_123) rfl k) ?_
  refine Go.on (B := T19.setTop (mkF m 125 #[.val (.int p1), .val (.int p2), .val (.int p3), .val (.int p4), .val (.ref b1), .val (.ref b5), .val (.ref b10), .val (.ref b16), .unset, .unset, .unset, .unset, .unset] [(.int (3 : Int32)), (.int (p4 &&& (2147483647 : Int32)))])) (fun t k => XS.iconst X19.here hx rfl (hb hby at_124) k) ?_
  refine Go.on (B := T19.setTop (mkF m 126 #[.val (.int p1), .val (.int p2), .val (.int p3), .val (.int p4), .val (.ref b1), .val (.ref b5), .val (.ref b10), .val (.ref b16), .unset, .unset, .unset, .unset, .unset] [(.int ((p4 &&& (2147483647 : Int32)) % (3 : Int32)))])) (fun t k => iremM X19 hx rfl (hb hby at_125) rfl (by decide) k) ?_
  refine Go.on (B := T19.setTop (mkF m 127 #[.val (.int p1), .val (.int p2), .val (.int p3), .val (.int p4), .val (.ref b1), .val (.ref b5), .val (.ref b10), .val (.ref b16), .unset, .unset, .unset, .unset, .unset] [(.int (1 : Int32)), (.int ((p4 &&& (2147483647 : Int32)) % (3 : Int32)))])) (fun t k => XS.iconst X19.here hx rfl (hb hby at_126) k) ?_
  refine Go.on (B := T19.setTop (mkF m 128 #[.val (.int p1), .val (.int p2), .val (.int p3), .val (.int p4), .val (.ref b1), .val (.ref b5), .val (.ref b10), .val (.ref b16), .unset, .unset, .unset, .unset, .unset] [(.int (((p4 &&& (2147483647 : Int32)) % (3 : Int32)) + (1 : Int32)))])) (fun t k => XS.iadd X19.here hx rfl (hb hby at_127) rfl k) ?_
  generalize hv128_20 : (((p4 &&& (2147483647 : Int32)) % (3 : Int32)) + (1 : Int32)) = v128_20
  refine Go.on (B := T19.setTop (mkF m 130 #[.val (.int p1), .val (.int p2), .val (.int p3), .val (.int p4), .val (.ref b1), .val (.ref b5), .val (.ref b10), .val (.ref b16), .val (.int v128_20), .unset, .unset, .unset, .unset] [])) (fun t k => XS.istore X19.here hx rfl (hb hby at_128) rfl (l' := #[.val (.int p1), .val (.int p2), .val (.int p3), .val (.int p4), .val (.ref b1), .val (.ref b5), .val (.ref b10), .val (.ref b16), .val (.int v128_20), .unset, .unset, .unset, .unset]) rfl k) ?_
  obtain ⟨T21, h21, X21, e21, E21, A21, D21, -, st21⟩ := newO X19 hx hZ hown (hw _ (List.mem_of_getElem? (i := 32) rfl)) (hw _ (List.mem_of_getElem? (i := 33) rfl)) (hw _ (List.mem_of_getElem? (i := 34) rfl)) e19 (g := (mkF m 130 #[.val (.int p1), .val (.int p2), .val (.int p3), .val (.int p4), .val (.ref b1), .val (.ref b5), .val (.ref b10), .val (.ref b16), .val (.int v128_20), .unset, .unset, .unset, .unset] [])) rfl (hb hby at_130) (by decide) (by decide)
  obtain ⟨b21, g21⟩ : ∃ z, z = h19.size := ⟨_, rfl⟩
  rw [← g21] at A21 D21 st21
  have ge_b21 : n0 ≤ b21 := Nat.le_trans Zs129 (Nat.le_of_eq g21.symm)
  have ne_b1_b21 : b1 ≠ b21 := Nat.ne_of_lt (Nat.lt_of_lt_of_le f123.lt (Nat.le_of_eq g21.symm))
  have ne_b2_b21 : b2 ≠ b21 := Nat.ne_of_lt (Nat.lt_of_lt_of_le f124.lt (Nat.le_of_eq g21.symm))
  have ne_b5_b21 : b5 ≠ b21 := Nat.ne_of_lt (Nat.lt_of_lt_of_le f125.lt (Nat.le_of_eq g21.symm))
  have ne_b6_b21 : b6 ≠ b21 := Nat.ne_of_lt (Nat.lt_of_lt_of_le f126.lt (Nat.le_of_eq g21.symm))
  have ne_b10_b21 : b10 ≠ b21 := Nat.ne_of_lt (Nat.lt_of_lt_of_le f127.lt (Nat.le_of_eq g21.symm))
  have ne_b11_b21 : b11 ≠ b21 := Nat.ne_of_lt (Nat.lt_of_lt_of_le f128.lt (Nat.le_of_eq g21.symm))
  have ne_b16_b21 : b16 ≠ b21 := Nat.ne_of_lt (Nat.lt_of_lt_of_le V19.lt (Nat.le_of_eq g21.symm))
  have O_130 := O_122.ext E21
  have f131 := f123.ext E21
  have f132 := f124.ext E21
  have f133 := f125.ext E21
  have f134 := f126.ext E21
  have f135 := f127.ext E21
  have f136 := f128.ext E21
  have f137 := V19.ext E21
  have Zs138 := Nat.le_trans Zs129 E21.1
  have F21_operands : Fld Z h21 b21 "com/example/chronocert/chronocert/cli/CommandLine" "operands" "Ljava/util/List;" .null := D21 (Or.inr (hw _ (List.mem_of_getElem? (i := 64) rfl))) (ty := (.object "java/util/List")) (by decide)
  have F21_args : Fld Z h21 b21 "com/example/chronocert/chronocert/cli/CommandLine" "args" "[Ljava/lang/String;" .null := D21 (Or.inr (hw _ (List.mem_of_getElem? (i := 66) rfl))) (ty := (.array (.object "java/lang/String"))) (by decide)
  have F21_next : Fld Z h21 b21 "com/example/chronocert/chronocert/cli/CommandLine" "next" "I" (.int (0 : Int32)) := D21 (Or.inl (hw _ (List.mem_of_getElem? (i := 73) rfl))) (ty := .int) (by decide)
  refine Go.on (B := T21.setTop (mkF m 133 #[.val (.int p1), .val (.int p2), .val (.int p3), .val (.int p4), .val (.ref b1), .val (.ref b5), .val (.ref b10), .val (.ref b16), .val (.int v128_20), .unset, .unset, .unset, .unset] [(.ref b21)])) (fun t k => st21 _ k) ?_
  refine Go.on (B := T21.setTop (mkF m 134 #[.val (.int p1), .val (.int p2), .val (.int p3), .val (.int p4), .val (.ref b1), .val (.ref b5), .val (.ref b10), .val (.ref b16), .val (.int v128_20), .unset, .unset, .unset, .unset] [(.ref b21), (.ref b21)])) (fun t k => XS.dup X21.here hx rfl (hb hby at_133) rfl rfl k) ?_
  refine Go.on (B := T21.setTop (mkF m 136 #[.val (.int p1), .val (.int p2), .val (.int p3), .val (.int p4), .val (.ref b1), .val (.ref b5), .val (.ref b10), .val (.ref b16), .val (.int v128_20), .unset, .unset, .unset, .unset] [(.ref b16), (.ref b21), (.ref b21)])) (fun t k => XS.aload X21.here hx rfl (hb hby at_134) rfl rfl k) ?_
  obtain ⟨_, _, ⟨T22, L22, k22, n22⟩, -, X22, ⟨Lc22, hQ22, l22, y22, z22⟩, st22⟩ := X21.specialBack hx (y := (⟨"com/example/chronocert/chronocert/cli/CommandLine", "<init>", "([Ljava/lang/String;)V"⟩ : MethodName)) rfl hown (mvT hZ (hw _ (List.mem_of_getElem? (i := 35) rfl))) (mvT hZ (hw _ (List.mem_of_getElem? (i := 36) rfl))) (mvT hZ (hw _ (List.mem_of_getElem? (i := 37) rfl))) (by decide) (backOf (W := 1) (rcl l Z a0 hw [] b21 b16 da h21 n0 Zs138 A21 F21_operands F21_args F21_next ge_b21 O_130 S_de) hZ (hw _ (List.mem_of_getElem? (i := 37) rfl)) (hw _ (List.mem_of_getElem? (i := 34) rfl)) (by decide) (by decide)) (g := (mkF m 136 #[.val (.int p1), .val (.int p2), .val (.int p3), .val (.int p4), .val (.ref b1), .val (.ref b5), .val (.ref b10), .val (.ref b16), .val (.int v128_20), .unset, .unset, .unset, .unset] [(.ref b16), (.ref b21), (.ref b21)])) rfl (by rw [hml]; rfl) (Steps.refl _) (a := b21) (argsL := [(.ref b16)]) (rest := [(.ref b21)]) (lenOf pd_2 rfl) rfl (by show 2 * 0 + _ ≤ _; exact Nat.le_of_eq rfl) (hb hby at_136) (fun _ _ => ⟨rfl, e21, (by decide : 11 + 1 ≤ _), (by decide : 30 + 3 ≤ _)⟩)
  dsimp only [Pt.U, Pt.locs, Pt.cells, Pt.slots] at X22 l22 y22 z22 st22 hQ22
  subst l22 y22 z22
  obtain ⟨rfl, N22q, K22q, G22_0, G22_1, G22_2⟩ := hQ22
  have N22 := Fr.app N19 N22q
  have O_139 := O_130.keep K22q (allS ge_b21 all0)
  have f140 := f131.keep K22q
  have f141 := f132.keep K22q (ninS ne_b2_b21 nin0)
  have f142 := f133.keep K22q
  have f143 := f134.keep K22q (ninS ne_b6_b21 nin0)
  have f144 := f135.keep K22q
  have f145 := f136.keep K22q (ninS ne_b11_b21 nin0)
  have f146 := f137.keep K22q (ninS ne_b16_b21 nin0)
  have f147 := A21.keep K22q
  have Zs148 := Nat.le_trans Zs138 K22q.1
  refine Go.on (B := T22.setTop (mkF m 139 #[.val (.int p1), .val (.int p2), .val (.int p3), .val (.int p4), .val (.ref b1), .val (.ref b5), .val (.ref b10), .val (.ref b16), .val (.int v128_20), .unset, .unset, .unset, .unset] [(.ref b21)])) (fun t k => st22.trans k) ?_
  refine Go.on (B := T22.setTop (mkF m 141 #[.val (.int p1), .val (.int p2), .val (.int p3), .val (.int p4), .val (.ref b1), .val (.ref b5), .val (.ref b10), .val (.ref b16), .val (.int v128_20), .val (.ref b21), .unset, .unset, .unset] [])) (fun t k => XS.astore X22.here hx rfl (hb hby at_139) rfl rfl (l' := #[.val (.int p1), .val (.int p2), .val (.int p3), .val (.int p4), .val (.ref b1), .val (.ref b5), .val (.ref b10), .val (.ref b16), .val (.int v128_20), .val (.ref b21), .unset, .unset, .unset]) rfl k) ?_
  refine Go.on (B := T22.setTop (mkF m 143 #[.val (.int p1), .val (.int p2), .val (.int p3), .val (.int p4), .val (.ref b1), .val (.ref b5), .val (.ref b10), .val (.ref b16), .val (.int v128_20), .val (.ref b21), .unset, .unset, .unset] [(.ref b21)])) (fun t k => XS.aload X22.here hx rfl (hb hby at_141) rfl rfl k) ?_
  obtain ⟨cq23, kq23, q23a, q23b, q23c⟩ := isOf hZ rfl G22_0
  obtain ⟨_, _, ⟨T23, L23, k23, n23⟩, -, X23, ⟨Lc23, hQ23, l23, y23, z23⟩, st23⟩ := X22.virtualBack hx (y := (⟨"com/example/chronocert/chronocert/cli/CommandLine", "hasNext", "()Z"⟩ : MethodName)) (z := (⟨"com/example/chronocert/chronocert/cli/CommandLine", "hasNext", "()Z"⟩ : MethodName)) hown (mvT hZ (hw _ (List.mem_of_getElem? (i := 67) rfl))) (mvT hZ (hw _ (List.mem_of_getElem? (i := 68) rfl))) (notFace_of_selects (args := #[]) (mvT hZ (hw _ (List.mem_of_getElem? (i := 70) rfl)))) (mvT hZ (hw _ (List.mem_of_getElem? (i := 70) rfl))) (mvT hZ (hw _ (List.mem_of_getElem? (i := 69) rfl))) (by decide) (backOf (W := 0) (rhn l Z a0 hw [] b21 b16 k16 (3 : Int32) [(.ref b1), (.ref b5), (.ref b10)] (0 : Int32) (1 : Int32) T22.heap n0 Zs148 G22_0 G22_1 G22_2 f146 (by decide)) hZ (hw _ (List.mem_of_getElem? (i := 71) rfl)) (hw _ (List.mem_of_getElem? (i := 34) rfl)) (by decide) (by decide)) q23a q23c (g := (mkF m 143 #[.val (.int p1), .val (.int p2), .val (.int p3), .val (.int p4), .val (.ref b1), .val (.ref b5), .val (.ref b10), .val (.ref b16), .val (.int v128_20), .val (.ref b21), .unset, .unset, .unset] [(.ref b21)])) rfl (by rw [hml]; rfl) (Steps.refl _) (argsL := []) (rest := []) (lenOf pd_3 rfl) rfl (by show 2 * 0 + _ ≤ _; exact Nat.le_of_eq rfl) (hb hby at_143) (fun _ _ => ⟨rfl, rfl, (by decide : 12 + 0 ≤ _), (by decide : 33 + 0 ≤ _)⟩)
  dsimp only [Pt.U, Pt.locs, Pt.cells, Pt.slots] at X23 l23 y23 z23 st23 hQ23
  subst l23 y23 z23
  obtain ⟨rfl, N23q, e23q⟩ := hQ23
  have N23 := Fr.app N22 N23q
  refine Go.on (B := T23.setTop (mkF m 146 #[.val (.int p1), .val (.int p2), .val (.int p3), .val (.int p4), .val (.ref b1), .val (.ref b5), .val (.ref b10), .val (.ref b16), .val (.int v128_20), .val (.ref b21), .unset, .unset, .unset] [(.int (1 : Int32))])) (fun t k => st23.trans k) ?_
  refine Go.on (B := T23.setTop (mkF m 148 #[.val (.int p1), .val (.int p2), .val (.int p3), .val (.int p4), .val (.ref b1), .val (.ref b5), .val (.ref b10), .val (.ref b16), .val (.int v128_20), .val (.ref b21), .val (.int (1 : Int32)), .unset, .unset] [])) (fun t k => XS.istore X23.here hx rfl (hb hby at_146) rfl (l' := #[.val (.int p1), .val (.int p2), .val (.int p3), .val (.int p4), .val (.ref b1), .val (.ref b5), .val (.ref b10), .val (.ref b16), .val (.int v128_20), .val (.ref b21), .val (.int (1 : Int32)), .unset, .unset]) rfl k) ?_
  refine Go.on (B := T23.setTop (mkF m 150 #[.val (.int p1), .val (.int p2), .val (.int p3), .val (.int p4), .val (.ref b1), .val (.ref b5), .val (.ref b10), .val (.ref b16), .val (.int v128_20), .val (.ref b21), .val (.int (1 : Int32)), .unset, .unset] [(.ref b21)])) (fun t k => XS.aload X23.here hx rfl (hb hby at_148) rfl rfl k) ?_
  obtain ⟨cq25, kq25, q25a, q25b, q25c⟩ := isOf hZ e23q G22_0
  obtain ⟨_, _, ⟨T25, L25, k25, n25⟩, -, X25, ⟨Lc25, hQ25, l25, y25, z25⟩, st25⟩ := X23.virtualBack hx (y := (⟨"com/example/chronocert/chronocert/cli/CommandLine", "next", "()Ljava/lang/String;"⟩ : MethodName)) (z := (⟨"com/example/chronocert/chronocert/cli/CommandLine", "next", "()Ljava/lang/String;"⟩ : MethodName)) hown (mvT hZ (hw _ (List.mem_of_getElem? (i := 74) rfl))) (mvT hZ (hw _ (List.mem_of_getElem? (i := 75) rfl))) (notFace_of_selects (args := #[]) (mvT hZ (hw _ (List.mem_of_getElem? (i := 77) rfl)))) (mvT hZ (hw _ (List.mem_of_getElem? (i := 77) rfl))) (mvT hZ (hw _ (List.mem_of_getElem? (i := 76) rfl))) (by decide) (backOf (W := 0) (rnx l Z a0 hw [] b21 b16 k16 (3 : Int32) [(.ref b1), (.ref b5), (.ref b10)] (0 : Int32) b1 (1 : Int32) T22.heap n0 Zs148 G22_0 G22_1 G22_2 f146 ne_b16_b21 ge_b21 ⟨by decide, by decide⟩ rfl (by decide) (by decide)) hZ (hw _ (List.mem_of_getElem? (i := 78) rfl)) (hw _ (List.mem_of_getElem? (i := 34) rfl)) (by decide) (by decide)) q25a q25c (g := (mkF m 150 #[.val (.int p1), .val (.int p2), .val (.int p3), .val (.int p4), .val (.ref b1), .val (.ref b5), .val (.ref b10), .val (.ref b16), .val (.int v128_20), .val (.ref b21), .val (.int (1 : Int32)), .unset, .unset] [(.ref b21)])) rfl (by rw [hml]; rfl) (Steps.refl _) (argsL := []) (rest := []) (lenOf pd_4 rfl) rfl (by show 2 * 0 + _ ≤ _; exact Nat.le_of_eq rfl) (hb hby at_150) (fun _ _ => ⟨rfl, e23q, (by decide : 12 + 0 ≤ _), (by decide : 33 + 0 ≤ _)⟩)
  dsimp only [Pt.U, Pt.locs, Pt.cells, Pt.slots] at X25 l25 y25 z25 st25 hQ25
  subst l25 y25 z25
  obtain ⟨rfl, N25q, K25q, G25_0, G25_1, G25_2⟩ := hQ25
  have N25 := Fr.app N23 N25q
  have O_149 := O_139.keep K25q (allS ge_b21 all0)
  have f150 := f140.keep K25q
  have f151 := f141.keep K25q (ninS ne_b2_b21 nin0)
  have f152 := f142.keep K25q
  have f153 := f143.keep K25q (ninS ne_b6_b21 nin0)
  have f154 := f144.keep K25q
  have f155 := f145.keep K25q (ninS ne_b11_b21 nin0)
  have f156 := f146.keep K25q (ninS ne_b16_b21 nin0)
  have f157 := G22_0.keep K25q
  have Zs158 := Nat.le_trans Zs148 K25q.1
  refine Go.on (B := T25.setTop (mkF m 153 #[.val (.int p1), .val (.int p2), .val (.int p3), .val (.int p4), .val (.ref b1), .val (.ref b5), .val (.ref b10), .val (.ref b16), .val (.int v128_20), .val (.ref b21), .val (.int (1 : Int32)), .unset, .unset] [(.ref b1)])) (fun t k => st25.trans k) ?_
  refine Go.on (B := T25.setTop (mkF m 155 #[.val (.int p1), .val (.int p2), .val (.int p3), .val (.int p4), .val (.ref b1), .val (.ref b5), .val (.ref b10), .val (.ref b16), .val (.int v128_20), .val (.ref b21), .val (.int (1 : Int32)), .val (.ref b1), .unset] [])) (fun t k => XS.astore X25.here hx rfl (hb hby at_153) rfl rfl (l' := #[.val (.int p1), .val (.int p2), .val (.int p3), .val (.int p4), .val (.ref b1), .val (.ref b5), .val (.ref b10), .val (.ref b16), .val (.int v128_20), .val (.ref b21), .val (.int (1 : Int32)), .val (.ref b1), .unset]) rfl k) ?_
  refine Go.on (B := T25.setTop (mkF m 157 #[.val (.int p1), .val (.int p2), .val (.int p3), .val (.int p4), .val (.ref b1), .val (.ref b5), .val (.ref b10), .val (.ref b16), .val (.int v128_20), .val (.ref b21), .val (.int (1 : Int32)), .val (.ref b1), .unset] [(.int (1 : Int32))])) (fun t k => XS.iload X25.here hx rfl (hb hby at_155) rfl k) ?_
  have hc157_26 : ¬ ((1 : Int32) = (0 : Int32)) := by decide
  refine Go.on (B := T25.setTop (mkF m 160 #[.val (.int p1), .val (.int p2), .val (.int p3), .val (.int p4), .val (.ref b1), .val (.ref b5), .val (.ref b10), .val (.ref b16), .val (.int v128_20), .val (.ref b21), .val (.int (1 : Int32)), .val (.ref b1), .unset] [])) (fun t k => XS.ifNo X25.here hx rfl (hb hby at_157) rfl ((if0 _ _).trans (feq hc157_26).1) k) ?_
  refine Go.on (B := T25.setTop (mkF m 162 #[.val (.int p1), .val (.int p2), .val (.int p3), .val (.int p4), .val (.ref b1), .val (.ref b5), .val (.ref b10), .val (.ref b16), .val (.int v128_20), .val (.ref b21), .val (.int (1 : Int32)), .val (.ref b1), .unset] [(.ref b1)])) (fun t k => XS.aload X25.here hx rfl (hb hby at_160) rfl rfl k) ?_
  refine Go.on (B := T25.setTop (mkF m 164 #[.val (.int p1), .val (.int p2), .val (.int p3), .val (.int p4), .val (.ref b1), .val (.ref b5), .val (.ref b10), .val (.ref b16), .val (.int v128_20), .val (.ref b21), .val (.int (1 : Int32)), .val (.ref b1), .unset] [(.ref b1), (.ref b1)])) (fun t k => XS.aload X25.here hx rfl (hb hby at_162) rfl rfl k) ?_
  refine Go.on (B := T25.setTop (mkF m 167 #[.val (.int p1), .val (.int p2), .val (.int p3), .val (.int p4), .val (.ref b1), .val (.ref b5), .val (.ref b10), .val (.ref b16), .val (.int v128_20), .val (.ref b21), .val (.int (1 : Int32)), .val (.ref b1), .unset] [])) (fun t k => Jvm.RoadKit.acmp (g := (mkF m 164 #[.val (.int p1), .val (.int p2), .val (.int p3), .val (.int p4), .val (.ref b1), .val (.ref b5), .val (.ref b10), .val (.ref b16), .val (.int v128_20), .val (.ref b21), .val (.int (1 : Int32)), .val (.ref b1), .unset] [(.ref b1), (.ref b1)])) X25 hx rfl rfl rfl (pc0 := 164) (pc' := 167) (same := true) rfl (hb hby at_164) rfl (decide_eq_true rfl) (by decide) (by decide) k) ?_
  refine Go.on (B := T25.setTop (mkF m 168 #[.val (.int p1), .val (.int p2), .val (.int p3), .val (.int p4), .val (.ref b1), .val (.ref b5), .val (.ref b10), .val (.ref b16), .val (.int v128_20), .val (.ref b21), .val (.int (1 : Int32)), .val (.ref b1), .unset] [(.int (1 : Int32))])) (fun t k => XS.iconst X25.here hx rfl (hb hby at_167) k) ?_
  refine Go.on (B := T25.setTop (mkF m 172 #[.val (.int p1), .val (.int p2), .val (.int p3), .val (.int p4), .val (.ref b1), .val (.ref b5), .val (.ref b10), .val (.ref b16), .val (.int v128_20), .val (.ref b21), .val (.int (1 : Int32)), .val (.ref b1), .unset] [(.int (1 : Int32))])) (fun t k => XS.goto X25.here hx rfl (pc0 := 168) (pc' := 172) rfl (hb hby at_168) (by decide) (by decide) k) ?_
  refine Go.on (B := T25.setTop (mkF m 174 #[.val (.int p1), .val (.int p2), .val (.int p3), .val (.int p4), .val (.ref b1), .val (.ref b5), .val (.ref b10), .val (.ref b16), .val (.int v128_20), .val (.ref b21), .val (.int (1 : Int32)), .val (.ref b1), .unset] [])) (fun t k => XS.istore X25.here hx rfl (hb hby at_172) rfl (l' := #[.val (.int p1), .val (.int p2), .val (.int p3), .val (.int p4), .val (.ref b1), .val (.ref b5), .val (.ref b10), .val (.ref b16), .val (.int v128_20), .val (.ref b21), .val (.int (1 : Int32)), .val (.ref b1), .unset]) rfl k) ?_
  refine Go.on (B := T25.setTop (mkF m 176 #[.val (.int p1), .val (.int p2), .val (.int p3), .val (.int p4), .val (.ref b1), .val (.ref b5), .val (.ref b10), .val (.ref b16), .val (.int v128_20), .val (.ref b21), .val (.int (1 : Int32)), .val (.ref b1), .unset] [(.int v128_20)])) (fun t k => XS.iload X25.here hx rfl (hb hby at_174) rfl k) ?_
  refine Go.on (B := T25.setTop (mkF m 177 #[.val (.int p1), .val (.int p2), .val (.int p3), .val (.int p4), .val (.ref b1), .val (.ref b5), .val (.ref b10), .val (.ref b16), .val (.int v128_20), .val (.ref b21), .val (.int (1 : Int32)), .val (.ref b1), .unset] [(.int (2 : Int32)), (.int v128_20)])) (fun t k => XS.iconst X25.here hx rfl (hb hby at_176) k) ?_
  by_cases hc177_29 : v128_20 < (2 : Int32)
  · refine Go.on (B := T25.setTop (mkF m 206 #[.val (.int p1), .val (.int p2), .val (.int p3), .val (.int p4), .val (.ref b1), .val (.ref b5), .val (.ref b10), .val (.ref b16), .val (.int v128_20), .val (.ref b21), .val (.int (1 : Int32)), .val (.ref b1), .unset] [])) (fun t k => XS.icmpYes X25.here hx rfl (pc0 := 177) (pc' := 206) rfl (hb hby at_177) rfl (tlt hc177_29).1 (by decide) (by decide) k) ?_
    refine Go.on (B := T25.setTop (mkF m 208 #[.val (.int p1), .val (.int p2), .val (.int p3), .val (.int p4), .val (.ref b1), .val (.ref b5), .val (.ref b10), .val (.ref b16), .val (.int v128_20), .val (.ref b21), .val (.int (1 : Int32)), .val (.ref b1), .unset] [(.int v128_20)])) (fun t k => XS.iload X25.here hx rfl (hb hby at_206) rfl k) ?_
    refine Go.on (B := T25.setTop (mkF m 209 #[.val (.int p1), .val (.int p2), .val (.int p3), .val (.int p4), .val (.ref b1), .val (.ref b5), .val (.ref b10), .val (.ref b16), .val (.int v128_20), .val (.ref b21), .val (.int (1 : Int32)), .val (.ref b1), .unset] [(.int (3 : Int32)), (.int v128_20)])) (fun t k => XS.iconst X25.here hx rfl (hb hby at_208) k) ?_
    have hc209_30 : v128_20 < (3 : Int32) := own_up2 hc177_29 (by decide)
    refine Go.on (B := T25.setTop (mkF m 238 #[.val (.int p1), .val (.int p2), .val (.int p3), .val (.int p4), .val (.ref b1), .val (.ref b5), .val (.ref b10), .val (.ref b16), .val (.int v128_20), .val (.ref b21), .val (.int (1 : Int32)), .val (.ref b1), .unset] [])) (fun t k => XS.icmpYes X25.here hx rfl (pc0 := 209) (pc' := 238) rfl (hb hby at_209) rfl (tlt hc209_30).1 (by decide) (by decide) k) ?_
    refine Go.on (B := T25.setTop (mkF m 240 #[.val (.int p1), .val (.int p2), .val (.int p3), .val (.int p4), .val (.ref b1), .val (.ref b5), .val (.ref b10), .val (.ref b16), .val (.int v128_20), .val (.ref b21), .val (.int (1 : Int32)), .val (.ref b1), .unset] [(.int (1 : Int32))])) (fun t k => XS.iload X25.here hx rfl (hb hby at_238) rfl k) ?_
    have hc240_31 : ¬ ((1 : Int32) = (0 : Int32)) := by decide
    refine Go.on (B := T25.setTop (mkF m 243 #[.val (.int p1), .val (.int p2), .val (.int p3), .val (.int p4), .val (.ref b1), .val (.ref b5), .val (.ref b10), .val (.ref b16), .val (.int v128_20), .val (.ref b21), .val (.int (1 : Int32)), .val (.ref b1), .unset] [])) (fun t k => XS.ifNo X25.here hx rfl (hb hby at_240) rfl ((if0 _ _).trans (feq hc240_31).1) k) ?_
    refine Go.on (B := T25.setTop (mkF m 245 #[.val (.int p1), .val (.int p2), .val (.int p3), .val (.int p4), .val (.ref b1), .val (.ref b5), .val (.ref b10), .val (.ref b16), .val (.int v128_20), .val (.ref b21), .val (.int (1 : Int32)), .val (.ref b1), .unset] [(.ref b21)])) (fun t k => XS.aload X25.here hx rfl (hb hby at_243) rfl rfl k) ?_
    obtain ⟨cq32, kq32, q32a, q32b, q32c⟩ := isOf hZ rfl G25_0
    obtain ⟨_, _, ⟨T32, L32, k32, n32⟩, -, X32, ⟨Lc32, hQ32, l32, y32, z32⟩, st32⟩ := X25.virtualBack hx (y := (⟨"com/example/chronocert/chronocert/cli/CommandLine", "hasNext", "()Z"⟩ : MethodName)) (z := (⟨"com/example/chronocert/chronocert/cli/CommandLine", "hasNext", "()Z"⟩ : MethodName)) hown (mvT hZ (hw _ (List.mem_of_getElem? (i := 67) rfl))) (mvT hZ (hw _ (List.mem_of_getElem? (i := 68) rfl))) (notFace_of_selects (args := #[]) (mvT hZ (hw _ (List.mem_of_getElem? (i := 70) rfl)))) (mvT hZ (hw _ (List.mem_of_getElem? (i := 70) rfl))) (mvT hZ (hw _ (List.mem_of_getElem? (i := 69) rfl))) (by decide) (backOf (W := 0) (rhn l Z a0 hw [] b21 b16 k16 (3 : Int32) [(.ref b1), (.ref b5), (.ref b10)] (1 : Int32) (1 : Int32) T25.heap n0 Zs158 G25_0 G25_1 G25_2 f156 (by decide)) hZ (hw _ (List.mem_of_getElem? (i := 71) rfl)) (hw _ (List.mem_of_getElem? (i := 34) rfl)) (by decide) (by decide)) q32a q32c (g := (mkF m 245 #[.val (.int p1), .val (.int p2), .val (.int p3), .val (.int p4), .val (.ref b1), .val (.ref b5), .val (.ref b10), .val (.ref b16), .val (.int v128_20), .val (.ref b21), .val (.int (1 : Int32)), .val (.ref b1), .unset] [(.ref b21)])) rfl (by rw [hml]; rfl) (Steps.refl _) (argsL := []) (rest := []) (lenOf pd_3 rfl) rfl (by show 2 * 0 + _ ≤ _; exact Nat.le_of_eq rfl) (hb hby at_245) (fun _ _ => ⟨rfl, rfl, (by decide : 12 + 0 ≤ _), (by decide : 33 + 0 ≤ _)⟩)
    dsimp only [Pt.U, Pt.locs, Pt.cells, Pt.slots] at X32 l32 y32 z32 st32 hQ32
    subst l32 y32 z32
    obtain ⟨rfl, N32q, e32q⟩ := hQ32
    have N32 := Fr.app N25 N32q
    refine Go.on (B := T32.setTop (mkF m 248 #[.val (.int p1), .val (.int p2), .val (.int p3), .val (.int p4), .val (.ref b1), .val (.ref b5), .val (.ref b10), .val (.ref b16), .val (.int v128_20), .val (.ref b21), .val (.int (1 : Int32)), .val (.ref b1), .unset] [(.int (1 : Int32))])) (fun t k => st32.trans k) ?_
    refine Go.on (B := T32.setTop (mkF m 250 #[.val (.int p1), .val (.int p2), .val (.int p3), .val (.int p4), .val (.ref b1), .val (.ref b5), .val (.ref b10), .val (.ref b16), .val (.int v128_20), .val (.ref b21), .val (.int (1 : Int32)), .val (.ref b1), .unset] [(.int v128_20), (.int (1 : Int32))])) (fun t k => XS.iload X32.here hx rfl (hb hby at_248) rfl k) ?_
    refine Go.on (B := T32.setTop (mkF m 251 #[.val (.int p1), .val (.int p2), .val (.int p3), .val (.int p4), .val (.ref b1), .val (.ref b5), .val (.ref b10), .val (.ref b16), .val (.int v128_20), .val (.ref b21), .val (.int (1 : Int32)), .val (.ref b1), .unset] [(.int (3 : Int32)), (.int v128_20), (.int (1 : Int32))])) (fun t k => XS.iconst X32.here hx rfl (hb hby at_250) k) ?_
    have hc251_33 : v128_20 < (3 : Int32) := hc209_30
    refine Go.on (B := T32.setTop (mkF m 254 #[.val (.int p1), .val (.int p2), .val (.int p3), .val (.int p4), .val (.ref b1), .val (.ref b5), .val (.ref b10), .val (.ref b16), .val (.int v128_20), .val (.ref b21), .val (.int (1 : Int32)), .val (.ref b1), .unset] [(.int (1 : Int32))])) (fun t k => XS.icmpNo X32.here hx rfl (hb hby at_251) rfl (tlt hc251_33).2.1 k) ?_
    refine Go.on (B := T32.setTop (mkF m 255 #[.val (.int p1), .val (.int p2), .val (.int p3), .val (.int p4), .val (.ref b1), .val (.ref b5), .val (.ref b10), .val (.ref b16), .val (.int v128_20), .val (.ref b21), .val (.int (1 : Int32)), .val (.ref b1), .unset] [(.int (1 : Int32)), (.int (1 : Int32))])) (fun t k => XS.iconst X32.here hx rfl (hb hby at_254) k) ?_
    refine Go.on (B := T32.setTop (mkF m 259 #[.val (.int p1), .val (.int p2), .val (.int p3), .val (.int p4), .val (.ref b1), .val (.ref b5), .val (.ref b10), .val (.ref b16), .val (.int v128_20), .val (.ref b21), .val (.int (1 : Int32)), .val (.ref b1), .unset] [(.int (1 : Int32)), (.int (1 : Int32))])) (fun t k => XS.goto X32.here hx rfl (pc0 := 255) (pc' := 259) rfl (hb hby at_255) (by decide) (by decide) k) ?_
    have hc259_34 : (1 : Int32) = (1 : Int32) := by decide
    refine Go.on (B := T32.setTop (mkF m 262 #[.val (.int p1), .val (.int p2), .val (.int p3), .val (.int p4), .val (.ref b1), .val (.ref b5), .val (.ref b10), .val (.ref b16), .val (.int v128_20), .val (.ref b21), .val (.int (1 : Int32)), .val (.ref b1), .unset] [])) (fun t k => XS.icmpNo X32.here hx rfl (hb hby at_259) rfl (teq hc259_34).2 k) ?_
    refine Go.on (B := T32.setTop (mkF m 263 #[.val (.int p1), .val (.int p2), .val (.int p3), .val (.int p4), .val (.ref b1), .val (.ref b5), .val (.ref b10), .val (.ref b16), .val (.int v128_20), .val (.ref b21), .val (.int (1 : Int32)), .val (.ref b1), .unset] [(.int (1 : Int32))])) (fun t k => XS.iconst X32.here hx rfl (hb hby at_262) k) ?_
    refine Go.on (B := T32.setTop (mkF m 267 #[.val (.int p1), .val (.int p2), .val (.int p3), .val (.int p4), .val (.ref b1), .val (.ref b5), .val (.ref b10), .val (.ref b16), .val (.int v128_20), .val (.ref b21), .val (.int (1 : Int32)), .val (.ref b1), .unset] [(.int (1 : Int32))])) (fun t k => XS.goto X32.here hx rfl (pc0 := 263) (pc' := 267) rfl (hb hby at_263) (by decide) (by decide) k) ?_
    refine Go.on (B := T32.setTop (mkF m 269 #[.val (.int p1), .val (.int p2), .val (.int p3), .val (.int p4), .val (.ref b1), .val (.ref b5), .val (.ref b10), .val (.ref b16), .val (.int v128_20), .val (.ref b21), .val (.int (1 : Int32)), .val (.ref b1), .unset] [])) (fun t k => XS.istore X32.here hx rfl (hb hby at_267) rfl (l' := #[.val (.int p1), .val (.int p2), .val (.int p3), .val (.int p4), .val (.ref b1), .val (.ref b5), .val (.ref b10), .val (.ref b16), .val (.int v128_20), .val (.ref b21), .val (.int (1 : Int32)), .val (.ref b1), .unset]) rfl k) ?_
    refine Go.on (B := T32.setTop (mkF m 271 #[.val (.int p1), .val (.int p2), .val (.int p3), .val (.int p4), .val (.ref b1), .val (.ref b5), .val (.ref b10), .val (.ref b16), .val (.int v128_20), .val (.ref b21), .val (.int (1 : Int32)), .val (.ref b1), .unset] [(.int v128_20)])) (fun t k => XS.iload X32.here hx rfl (hb hby at_269) rfl k) ?_
    refine Go.on (B := T32.setTop (mkF m 272 #[.val (.int p1), .val (.int p2), .val (.int p3), .val (.int p4), .val (.ref b1), .val (.ref b5), .val (.ref b10), .val (.ref b16), .val (.int v128_20), .val (.ref b21), .val (.int (1 : Int32)), .val (.ref b1), .unset] [(.int (3 : Int32)), (.int v128_20)])) (fun t k => XS.iconst X32.here hx rfl (hb hby at_271) k) ?_
    have hc272_36 : v128_20 < (3 : Int32) := hc251_33
    refine Go.on (B := T32.setTop (mkF m 275 #[.val (.int p1), .val (.int p2), .val (.int p3), .val (.int p4), .val (.ref b1), .val (.ref b5), .val (.ref b10), .val (.ref b16), .val (.int v128_20), .val (.ref b21), .val (.int (1 : Int32)), .val (.ref b1), .unset] [])) (fun t k => XS.icmpNo X32.here hx rfl (hb hby at_272) rfl (tlt hc272_36).2.1 k) ?_
    refine Go.on (B := T32.setTop (mkF m 277 #[.val (.int p1), .val (.int p2), .val (.int p3), .val (.int p4), .val (.ref b1), .val (.ref b5), .val (.ref b10), .val (.ref b16), .val (.int v128_20), .val (.ref b21), .val (.int (1 : Int32)), .val (.ref b1), .unset] [(.ref b21)])) (fun t k => XS.aload X32.here hx rfl (hb hby at_275) rfl rfl k) ?_
    obtain ⟨cq37, kq37, q37a, q37b, q37c⟩ := isOf hZ e32q G25_0
    obtain ⟨_, _, ⟨T37, L37, k37, n37⟩, -, X37, ⟨Lc37, hQ37, l37, y37, z37⟩, st37⟩ := X32.virtualBack hx (y := (⟨"com/example/chronocert/chronocert/cli/CommandLine", "value", "()Ljava/lang/String;"⟩ : MethodName)) (z := (⟨"com/example/chronocert/chronocert/cli/CommandLine", "value", "()Ljava/lang/String;"⟩ : MethodName)) hown (mvT hZ (hw _ (List.mem_of_getElem? (i := 79) rfl))) (mvT hZ (hw _ (List.mem_of_getElem? (i := 80) rfl))) (notFace_of_selects (args := #[]) (mvT hZ (hw _ (List.mem_of_getElem? (i := 82) rfl)))) (mvT hZ (hw _ (List.mem_of_getElem? (i := 82) rfl))) (mvT hZ (hw _ (List.mem_of_getElem? (i := 81) rfl))) (by decide) (backOf (W := 0) (rva l Z a0 hw [] b21 b16 k16 (3 : Int32) [(.ref b1), (.ref b5), (.ref b10)] (1 : Int32) b5 (2 : Int32) T25.heap n0 Zs158 G25_0 G25_1 G25_2 f156 ne_b16_b21 ge_b21 ⟨by decide, by decide⟩ rfl (by decide) (by decide)) hZ (hw _ (List.mem_of_getElem? (i := 83) rfl)) (hw _ (List.mem_of_getElem? (i := 34) rfl)) (by decide) (by decide)) q37a q37c (g := (mkF m 277 #[.val (.int p1), .val (.int p2), .val (.int p3), .val (.int p4), .val (.ref b1), .val (.ref b5), .val (.ref b10), .val (.ref b16), .val (.int v128_20), .val (.ref b21), .val (.int (1 : Int32)), .val (.ref b1), .unset] [(.ref b21)])) rfl (by rw [hml]; rfl) (Steps.refl _) (argsL := []) (rest := []) (lenOf pd_4 rfl) rfl (by show 2 * 0 + _ ≤ _; exact Nat.le_of_eq rfl) (hb hby at_277) (fun _ _ => ⟨rfl, e32q, (by decide : 12 + 0 ≤ _), (by decide : 33 + 0 ≤ _)⟩)
    dsimp only [Pt.U, Pt.locs, Pt.cells, Pt.slots] at X37 l37 y37 z37 st37 hQ37
    subst l37 y37 z37
    obtain ⟨rfl, N37q, K37q, G37_0, G37_1, G37_2⟩ := hQ37
    have N37 := Fr.app N32 N37q
    have O_159 := O_149.keep K37q (allS ge_b21 all0)
    have f160 := f150.keep K37q
    have f161 := f151.keep K37q (ninS ne_b2_b21 nin0)
    have f162 := f152.keep K37q
    have f163 := f153.keep K37q (ninS ne_b6_b21 nin0)
    have f164 := f154.keep K37q
    have f165 := f155.keep K37q (ninS ne_b11_b21 nin0)
    have f166 := f156.keep K37q (ninS ne_b16_b21 nin0)
    have f167 := G25_0.keep K37q
    have Zs168 := Nat.le_trans Zs158 K37q.1
    refine Go.on (B := T37.setTop (mkF m 280 #[.val (.int p1), .val (.int p2), .val (.int p3), .val (.int p4), .val (.ref b1), .val (.ref b5), .val (.ref b10), .val (.ref b16), .val (.int v128_20), .val (.ref b21), .val (.int (1 : Int32)), .val (.ref b1), .unset] [(.ref b5)])) (fun t k => st37.trans k) ?_
    refine Go.on (B := T37.setTop (mkF m 282 #[.val (.int p1), .val (.int p2), .val (.int p3), .val (.int p4), .val (.ref b1), .val (.ref b5), .val (.ref b10), .val (.ref b16), .val (.int v128_20), .val (.ref b21), .val (.int (1 : Int32)), .val (.ref b1), .val (.ref b5)] [])) (fun t k => XS.astore X37.here hx rfl (hb hby at_280) rfl rfl (l' := #[.val (.int p1), .val (.int p2), .val (.int p3), .val (.int p4), .val (.ref b1), .val (.ref b5), .val (.ref b10), .val (.ref b16), .val (.int v128_20), .val (.ref b21), .val (.int (1 : Int32)), .val (.ref b1), .val (.ref b5)]) rfl k) ?_
    refine Go.on (B := T37.setTop (mkF m 284 #[.val (.int p1), .val (.int p2), .val (.int p3), .val (.int p4), .val (.ref b1), .val (.ref b5), .val (.ref b10), .val (.ref b16), .val (.int v128_20), .val (.ref b21), .val (.int (1 : Int32)), .val (.ref b1), .val (.ref b5)] [(.int (1 : Int32))])) (fun t k => XS.iload X37.here hx rfl (hb hby at_282) rfl k) ?_
    have hc284_38 : ¬ ((1 : Int32) = (0 : Int32)) := by decide
    refine Go.on (B := T37.setTop (mkF m 287 #[.val (.int p1), .val (.int p2), .val (.int p3), .val (.int p4), .val (.ref b1), .val (.ref b5), .val (.ref b10), .val (.ref b16), .val (.int v128_20), .val (.ref b21), .val (.int (1 : Int32)), .val (.ref b1), .val (.ref b5)] [])) (fun t k => XS.ifNo X37.here hx rfl (hb hby at_284) rfl ((if0 _ _).trans (feq hc284_38).1) k) ?_
    refine Go.on (B := T37.setTop (mkF m 289 #[.val (.int p1), .val (.int p2), .val (.int p3), .val (.int p4), .val (.ref b1), .val (.ref b5), .val (.ref b10), .val (.ref b16), .val (.int v128_20), .val (.ref b21), .val (.int (1 : Int32)), .val (.ref b1), .val (.ref b5)] [(.ref b5)])) (fun t k => XS.aload X37.here hx rfl (hb hby at_287) rfl rfl k) ?_
    refine Go.on (B := T37.setTop (mkF m 291 #[.val (.int p1), .val (.int p2), .val (.int p3), .val (.int p4), .val (.ref b1), .val (.ref b5), .val (.ref b10), .val (.ref b16), .val (.int v128_20), .val (.ref b21), .val (.int (1 : Int32)), .val (.ref b1), .val (.ref b5)] [(.int v128_20), (.ref b5)])) (fun t k => XS.iload X37.here hx rfl (hb hby at_289) rfl k) ?_
    refine Go.on (B := T37.setTop (mkF m 292 #[.val (.int p1), .val (.int p2), .val (.int p3), .val (.int p4), .val (.ref b1), .val (.ref b5), .val (.ref b10), .val (.ref b16), .val (.int v128_20), .val (.ref b21), .val (.int (1 : Int32)), .val (.ref b1), .val (.ref b5)] [(.int (1 : Int32)), (.int v128_20), (.ref b5)])) (fun t k => XS.iconst X37.here hx rfl (hb hby at_291) k) ?_
    have hc292_39 : v128_20 = (1 : Int32) := own_one (own_m _ _ hv128_20) hc177_29
    refine Go.on (B := T37.setTop (mkF m 295 #[.val (.int p1), .val (.int p2), .val (.int p3), .val (.int p4), .val (.ref b1), .val (.ref b5), .val (.ref b10), .val (.ref b16), .val (.int v128_20), .val (.ref b21), .val (.int (1 : Int32)), .val (.ref b1), .val (.ref b5)] [(.ref b5)])) (fun t k => XS.icmpNo X37.here hx rfl (hb hby at_292) rfl (teq hc292_39).2 k) ?_
    refine Go.on (B := T37.setTop (mkF m 297 #[.val (.int p1), .val (.int p2), .val (.int p3), .val (.int p4), .val (.ref b1), .val (.ref b5), .val (.ref b10), .val (.ref b16), .val (.int v128_20), .val (.ref b21), .val (.int (1 : Int32)), .val (.ref b1), .val (.ref b5)] [(.ref b5), (.ref b5)])) (fun t k => XS.aload X37.here hx rfl (hb hby at_295) rfl rfl k) ?_
    refine Go.on (B := T37.setTop (mkF m 302 #[.val (.int p1), .val (.int p2), .val (.int p3), .val (.int p4), .val (.ref b1), .val (.ref b5), .val (.ref b10), .val (.ref b16), .val (.int v128_20), .val (.ref b21), .val (.int (1 : Int32)), .val (.ref b1), .val (.ref b5)] [(.ref b5), (.ref b5)])) (fun t k => XS.goto X37.here hx rfl (pc0 := 297) (pc' := 302) rfl (hb hby at_297) (by decide) (by decide) k) ?_
    refine Go.on (B := T37.setTop (mkF m 305 #[.val (.int p1), .val (.int p2), .val (.int p3), .val (.int p4), .val (.ref b1), .val (.ref b5), .val (.ref b10), .val (.ref b16), .val (.int v128_20), .val (.ref b21), .val (.int (1 : Int32)), .val (.ref b1), .val (.ref b5)] [])) (fun t k => Jvm.RoadKit.acmp (g := (mkF m 302 #[.val (.int p1), .val (.int p2), .val (.int p3), .val (.int p4), .val (.ref b1), .val (.ref b5), .val (.ref b10), .val (.ref b16), .val (.int v128_20), .val (.ref b21), .val (.int (1 : Int32)), .val (.ref b1), .val (.ref b5)] [(.ref b5), (.ref b5)])) X37 hx rfl rfl rfl (pc0 := 302) (pc' := 305) (same := true) rfl (hb hby at_302) rfl (decide_eq_true rfl) (by decide) (by decide) k) ?_
    refine Go.on (B := T37.setTop (mkF m 306 #[.val (.int p1), .val (.int p2), .val (.int p3), .val (.int p4), .val (.ref b1), .val (.ref b5), .val (.ref b10), .val (.ref b16), .val (.int v128_20), .val (.ref b21), .val (.int (1 : Int32)), .val (.ref b1), .val (.ref b5)] [(.int (1 : Int32))])) (fun t k => XS.iconst X37.here hx rfl (hb hby at_305) k) ?_
    refine Go.on (B := T37.setTop (mkF m 310 #[.val (.int p1), .val (.int p2), .val (.int p3), .val (.int p4), .val (.ref b1), .val (.ref b5), .val (.ref b10), .val (.ref b16), .val (.int v128_20), .val (.ref b21), .val (.int (1 : Int32)), .val (.ref b1), .val (.ref b5)] [(.int (1 : Int32))])) (fun t k => XS.goto X37.here hx rfl (pc0 := 306) (pc' := 310) rfl (hb hby at_306) (by decide) (by decide) k) ?_
    refine Go.on (B := T37.setTop (mkF m 312 #[.val (.int p1), .val (.int p2), .val (.int p3), .val (.int p4), .val (.ref b1), .val (.ref b5), .val (.ref b10), .val (.ref b16), .val (.int v128_20), .val (.ref b21), .val (.int (1 : Int32)), .val (.ref b1), .val (.ref b5)] [])) (fun t k => XS.istore X37.here hx rfl (hb hby at_310) rfl (l' := #[.val (.int p1), .val (.int p2), .val (.int p3), .val (.int p4), .val (.ref b1), .val (.ref b5), .val (.ref b10), .val (.ref b16), .val (.int v128_20), .val (.ref b21), .val (.int (1 : Int32)), .val (.ref b1), .val (.ref b5)]) rfl k) ?_
    refine Go.on (B := T37.setTop (mkF m 314 #[.val (.int p1), .val (.int p2), .val (.int p3), .val (.int p4), .val (.ref b1), .val (.ref b5), .val (.ref b10), .val (.ref b16), .val (.int v128_20), .val (.ref b21), .val (.int (1 : Int32)), .val (.ref b1), .val (.ref b5)] [(.int (1 : Int32))])) (fun t k => XS.iload X37.here hx rfl (hb hby at_312) rfl k) ?_
    have hc314_42 : ¬ ((1 : Int32) = (0 : Int32)) := by decide
    refine Go.on (B := T37.setTop (mkF m 317 #[.val (.int p1), .val (.int p2), .val (.int p3), .val (.int p4), .val (.ref b1), .val (.ref b5), .val (.ref b10), .val (.ref b16), .val (.int v128_20), .val (.ref b21), .val (.int (1 : Int32)), .val (.ref b1), .val (.ref b5)] [])) (fun t k => XS.ifNo X37.here hx rfl (hb hby at_314) rfl ((if0 _ _).trans (feq hc314_42).1) k) ?_
    refine Go.on (B := T37.setTop (mkF m 319 #[.val (.int p1), .val (.int p2), .val (.int p3), .val (.int p4), .val (.ref b1), .val (.ref b5), .val (.ref b10), .val (.ref b16), .val (.int v128_20), .val (.ref b21), .val (.int (1 : Int32)), .val (.ref b1), .val (.ref b5)] [(.ref b21)])) (fun t k => XS.aload X37.here hx rfl (hb hby at_317) rfl rfl k) ?_
    obtain ⟨cq43, kq43, q43a, q43b, q43c⟩ := isOf hZ rfl G37_0
    obtain ⟨_, _, ⟨T43, L43, k43, n43⟩, -, X43, ⟨Lc43, hQ43, l43, y43, z43⟩, st43⟩ := X37.virtualBack hx (y := (⟨"com/example/chronocert/chronocert/cli/CommandLine", "hasNext", "()Z"⟩ : MethodName)) (z := (⟨"com/example/chronocert/chronocert/cli/CommandLine", "hasNext", "()Z"⟩ : MethodName)) hown (mvT hZ (hw _ (List.mem_of_getElem? (i := 67) rfl))) (mvT hZ (hw _ (List.mem_of_getElem? (i := 68) rfl))) (notFace_of_selects (args := #[]) (mvT hZ (hw _ (List.mem_of_getElem? (i := 70) rfl)))) (mvT hZ (hw _ (List.mem_of_getElem? (i := 70) rfl))) (mvT hZ (hw _ (List.mem_of_getElem? (i := 69) rfl))) (by decide) (backOf (W := 0) (rhn l Z a0 hw [] b21 b16 k16 (3 : Int32) [(.ref b1), (.ref b5), (.ref b10)] (2 : Int32) (1 : Int32) T37.heap n0 Zs168 G37_0 G37_1 G37_2 f166 (by decide)) hZ (hw _ (List.mem_of_getElem? (i := 71) rfl)) (hw _ (List.mem_of_getElem? (i := 34) rfl)) (by decide) (by decide)) q43a q43c (g := (mkF m 319 #[.val (.int p1), .val (.int p2), .val (.int p3), .val (.int p4), .val (.ref b1), .val (.ref b5), .val (.ref b10), .val (.ref b16), .val (.int v128_20), .val (.ref b21), .val (.int (1 : Int32)), .val (.ref b1), .val (.ref b5)] [(.ref b21)])) rfl (by rw [hml]; rfl) (Steps.refl _) (argsL := []) (rest := []) (lenOf pd_3 rfl) rfl (by show 2 * 0 + _ ≤ _; exact Nat.le_of_eq rfl) (hb hby at_319) (fun _ _ => ⟨rfl, rfl, (by decide : 12 + 0 ≤ _), (by decide : 33 + 0 ≤ _)⟩)
    dsimp only [Pt.U, Pt.locs, Pt.cells, Pt.slots] at X43 l43 y43 z43 st43 hQ43
    subst l43 y43 z43
    obtain ⟨rfl, N43q, e43q⟩ := hQ43
    have N43 := Fr.app N37 N43q
    refine Go.on (B := T43.setTop (mkF m 322 #[.val (.int p1), .val (.int p2), .val (.int p3), .val (.int p4), .val (.ref b1), .val (.ref b5), .val (.ref b10), .val (.ref b16), .val (.int v128_20), .val (.ref b21), .val (.int (1 : Int32)), .val (.ref b1), .val (.ref b5)] [(.int (1 : Int32))])) (fun t k => st43.trans k) ?_
    refine Go.on (B := T43.setTop (mkF m 324 #[.val (.int p1), .val (.int p2), .val (.int p3), .val (.int p4), .val (.ref b1), .val (.ref b5), .val (.ref b10), .val (.ref b16), .val (.int v128_20), .val (.ref b21), .val (.int (1 : Int32)), .val (.ref b1), .val (.ref b5)] [(.int v128_20), (.int (1 : Int32))])) (fun t k => XS.iload X43.here hx rfl (hb hby at_322) rfl k) ?_
    refine Go.on (B := T43.setTop (mkF m 325 #[.val (.int p1), .val (.int p2), .val (.int p3), .val (.int p4), .val (.ref b1), .val (.ref b5), .val (.ref b10), .val (.ref b16), .val (.int v128_20), .val (.ref b21), .val (.int (1 : Int32)), .val (.ref b1), .val (.ref b5)] [(.int (1 : Int32)), (.int v128_20), (.int (1 : Int32))])) (fun t k => XS.iconst X43.here hx rfl (hb hby at_324) k) ?_
    have hc325_44 : v128_20 = (1 : Int32) := own_one (own_m _ _ hv128_20) hc177_29
    refine Go.on (B := T43.setTop (mkF m 328 #[.val (.int p1), .val (.int p2), .val (.int p3), .val (.int p4), .val (.ref b1), .val (.ref b5), .val (.ref b10), .val (.ref b16), .val (.int v128_20), .val (.ref b21), .val (.int (1 : Int32)), .val (.ref b1), .val (.ref b5)] [(.int (1 : Int32))])) (fun t k => XS.icmpNo X43.here hx rfl (hb hby at_325) rfl (teq hc325_44).2 k) ?_
    refine Go.on (B := T43.setTop (mkF m 329 #[.val (.int p1), .val (.int p2), .val (.int p3), .val (.int p4), .val (.ref b1), .val (.ref b5), .val (.ref b10), .val (.ref b16), .val (.int v128_20), .val (.ref b21), .val (.int (1 : Int32)), .val (.ref b1), .val (.ref b5)] [(.int (1 : Int32)), (.int (1 : Int32))])) (fun t k => XS.iconst X43.here hx rfl (hb hby at_328) k) ?_
    refine Go.on (B := T43.setTop (mkF m 333 #[.val (.int p1), .val (.int p2), .val (.int p3), .val (.int p4), .val (.ref b1), .val (.ref b5), .val (.ref b10), .val (.ref b16), .val (.int v128_20), .val (.ref b21), .val (.int (1 : Int32)), .val (.ref b1), .val (.ref b5)] [(.int (1 : Int32)), (.int (1 : Int32))])) (fun t k => XS.goto X43.here hx rfl (pc0 := 329) (pc' := 333) rfl (hb hby at_329) (by decide) (by decide) k) ?_
    have hc333_45 : (1 : Int32) = (1 : Int32) := by decide
    refine Go.on (B := T43.setTop (mkF m 336 #[.val (.int p1), .val (.int p2), .val (.int p3), .val (.int p4), .val (.ref b1), .val (.ref b5), .val (.ref b10), .val (.ref b16), .val (.int v128_20), .val (.ref b21), .val (.int (1 : Int32)), .val (.ref b1), .val (.ref b5)] [])) (fun t k => XS.icmpNo X43.here hx rfl (hb hby at_333) rfl (teq hc333_45).2 k) ?_
    refine Go.on (B := T43.setTop (mkF m 337 #[.val (.int p1), .val (.int p2), .val (.int p3), .val (.int p4), .val (.ref b1), .val (.ref b5), .val (.ref b10), .val (.ref b16), .val (.int v128_20), .val (.ref b21), .val (.int (1 : Int32)), .val (.ref b1), .val (.ref b5)] [(.int (1 : Int32))])) (fun t k => XS.iconst X43.here hx rfl (hb hby at_336) k) ?_
    refine Go.on (B := T43.setTop (mkF m 341 #[.val (.int p1), .val (.int p2), .val (.int p3), .val (.int p4), .val (.ref b1), .val (.ref b5), .val (.ref b10), .val (.ref b16), .val (.int v128_20), .val (.ref b21), .val (.int (1 : Int32)), .val (.ref b1), .val (.ref b5)] [(.int (1 : Int32))])) (fun t k => XS.goto X43.here hx rfl (pc0 := 337) (pc' := 341) rfl (hb hby at_337) (by decide) (by decide) k) ?_
    refine Go.on (B := T43.setTop (mkF m 343 #[.val (.int p1), .val (.int p2), .val (.int p3), .val (.int p4), .val (.ref b1), .val (.ref b5), .val (.ref b10), .val (.ref b16), .val (.int v128_20), .val (.ref b21), .val (.int (1 : Int32)), .val (.ref b1), .val (.ref b5)] [])) (fun t k => XS.istore X43.here hx rfl (hb hby at_341) rfl (l' := #[.val (.int p1), .val (.int p2), .val (.int p3), .val (.int p4), .val (.ref b1), .val (.ref b5), .val (.ref b10), .val (.ref b16), .val (.int v128_20), .val (.ref b21), .val (.int (1 : Int32)), .val (.ref b1), .val (.ref b5)]) rfl k) ?_
    refine Go.on (B := T43.setTop (mkF m 345 #[.val (.int p1), .val (.int p2), .val (.int p3), .val (.int p4), .val (.ref b1), .val (.ref b5), .val (.ref b10), .val (.ref b16), .val (.int v128_20), .val (.ref b21), .val (.int (1 : Int32)), .val (.ref b1), .val (.ref b5)] [(.int (1 : Int32))])) (fun t k => XS.iload X43.here hx rfl (hb hby at_343) rfl k) ?_
    have hc345_47 : ¬ ((1 : Int32) = (0 : Int32)) := by decide
    refine Go.on (B := T43.setTop (mkF m 348 #[.val (.int p1), .val (.int p2), .val (.int p3), .val (.int p4), .val (.ref b1), .val (.ref b5), .val (.ref b10), .val (.ref b16), .val (.int v128_20), .val (.ref b21), .val (.int (1 : Int32)), .val (.ref b1), .val (.ref b5)] [])) (fun t k => XS.ifNo X43.here hx rfl (hb hby at_345) rfl ((if0 _ _).trans (feq hc345_47).1) k) ?_
    refine Go.on (B := T43.setTop (mkF m 350 #[.val (.int p1), .val (.int p2), .val (.int p3), .val (.int p4), .val (.ref b1), .val (.ref b5), .val (.ref b10), .val (.ref b16), .val (.int v128_20), .val (.ref b21), .val (.int (1 : Int32)), .val (.ref b1), .val (.ref b5)] [(.ref b16)])) (fun t k => XS.aload X43.here hx rfl (hb hby at_348) rfl rfl k) ?_
    refine Go.on (B := T43.setTop (mkF m 351 #[.val (.int p1), .val (.int p2), .val (.int p3), .val (.int p4), .val (.ref b1), .val (.ref b5), .val (.ref b10), .val (.ref b16), .val (.int v128_20), .val (.ref b21), .val (.int (1 : Int32)), .val (.ref b1), .val (.ref b5)] [(.int (0 : Int32)), (.ref b16)])) (fun t k => XS.iconst X43.here hx rfl (hb hby at_350) k) ?_
    obtain ⟨cl48, Ar48, qq48, Sz48, Ng48, Hh48, Gg48⟩ := id f166
    have hin48 : ¬ ((0 : Int32) < 0 ∨ cl48.slots.size ≤ ((0 : Int32)).toNatClampNeg) := inb_of Sz48 ⟨by decide, by decide⟩
    have hat48 : cl48.slots[((0 : Int32)).toNatClampNeg]? = some (.ref b1) := Hh48.at hin48 rfl
    refine Go.on (B := T43.setTop (mkF m 352 #[.val (.int p1), .val (.int p2), .val (.int p3), .val (.int p4), .val (.ref b1), .val (.ref b5), .val (.ref b10), .val (.ref b16), .val (.int v128_20), .val (.ref b21), .val (.int (1 : Int32)), .val (.ref b1), .val (.ref b5)] [(.ref b1)])) (fun t k => X43.aaload hx (j := (0 : Int32)) (v := (.ref b1)) (by rw [e43q]; exact Ar48.1) (State.isArrayOf_alike hZ.alike Ar48.2.1) rfl Ar48.2.2 hin48 hat48 (g := (mkF m 351 #[.val (.int p1), .val (.int p2), .val (.int p3), .val (.int p4), .val (.ref b1), .val (.ref b5), .val (.ref b10), .val (.ref b16), .val (.int v128_20), .val (.ref b21), .val (.int (1 : Int32)), .val (.ref b1), .val (.ref b5)] [(.int (0 : Int32)), (.ref b16)])) rfl rfl (hb hby at_351) _ k) ?_
    refine Go.on (B := T43.setTop (mkF m 354 #[.val (.int p1), .val (.int p2), .val (.int p3), .val (.int p4), .val (.ref b1), .val (.ref b5), .val (.ref b10), .val (.ref b16), .val (.int v128_20), .val (.ref b21), .val (.int (1 : Int32)), .val (.ref b1), .val (.ref b5)] [(.ref b1), (.ref b1)])) (fun t k => XS.aload X43.here hx rfl (hb hby at_352) rfl rfl k) ?_
    refine Go.on (B := T43.setTop (mkF m 357 #[.val (.int p1), .val (.int p2), .val (.int p3), .val (.int p4), .val (.ref b1), .val (.ref b5), .val (.ref b10), .val (.ref b16), .val (.int v128_20), .val (.ref b21), .val (.int (1 : Int32)), .val (.ref b1), .val (.ref b5)] [])) (fun t k => Jvm.RoadKit.acmp (g := (mkF m 354 #[.val (.int p1), .val (.int p2), .val (.int p3), .val (.int p4), .val (.ref b1), .val (.ref b5), .val (.ref b10), .val (.ref b16), .val (.int v128_20), .val (.ref b21), .val (.int (1 : Int32)), .val (.ref b1), .val (.ref b5)] [(.ref b1), (.ref b1)])) X43 hx rfl rfl rfl (pc0 := 354) (pc' := 357) (same := true) rfl (hb hby at_354) rfl (decide_eq_true rfl) (by decide) (by decide) k) ?_
    refine Go.on (B := T43.setTop (mkF m 359 #[.val (.int p1), .val (.int p2), .val (.int p3), .val (.int p4), .val (.ref b1), .val (.ref b5), .val (.ref b10), .val (.ref b16), .val (.int v128_20), .val (.ref b21), .val (.int (1 : Int32)), .val (.ref b1), .val (.ref b5)] [(.ref b16)])) (fun t k => XS.aload X43.here hx rfl (hb hby at_357) rfl rfl k) ?_
    refine Go.on (B := T43.setTop (mkF m 360 #[.val (.int p1), .val (.int p2), .val (.int p3), .val (.int p4), .val (.ref b1), .val (.ref b5), .val (.ref b10), .val (.ref b16), .val (.int v128_20), .val (.ref b21), .val (.int (1 : Int32)), .val (.ref b1), .val (.ref b5)] [(.int (1 : Int32)), (.ref b16)])) (fun t k => XS.iconst X43.here hx rfl (hb hby at_359) k) ?_
    obtain ⟨cl50, Ar50, qq50, Sz50, Ng50, Hh50, Gg50⟩ := id f166
    have hin50 : ¬ ((1 : Int32) < 0 ∨ cl50.slots.size ≤ ((1 : Int32)).toNatClampNeg) := inb_of Sz50 ⟨by decide, by decide⟩
    have hat50 : cl50.slots[((1 : Int32)).toNatClampNeg]? = some (.ref b5) := Hh50.at hin50 rfl
    refine Go.on (B := T43.setTop (mkF m 361 #[.val (.int p1), .val (.int p2), .val (.int p3), .val (.int p4), .val (.ref b1), .val (.ref b5), .val (.ref b10), .val (.ref b16), .val (.int v128_20), .val (.ref b21), .val (.int (1 : Int32)), .val (.ref b1), .val (.ref b5)] [(.ref b5)])) (fun t k => X43.aaload hx (j := (1 : Int32)) (v := (.ref b5)) (by rw [e43q]; exact Ar50.1) (State.isArrayOf_alike hZ.alike Ar50.2.1) rfl Ar50.2.2 hin50 hat50 (g := (mkF m 360 #[.val (.int p1), .val (.int p2), .val (.int p3), .val (.int p4), .val (.ref b1), .val (.ref b5), .val (.ref b10), .val (.ref b16), .val (.int v128_20), .val (.ref b21), .val (.int (1 : Int32)), .val (.ref b1), .val (.ref b5)] [(.int (1 : Int32)), (.ref b16)])) rfl rfl (hb hby at_360) _ k) ?_
    refine Go.on (B := T43.setTop (mkF m 363 #[.val (.int p1), .val (.int p2), .val (.int p3), .val (.int p4), .val (.ref b1), .val (.ref b5), .val (.ref b10), .val (.ref b16), .val (.int v128_20), .val (.ref b21), .val (.int (1 : Int32)), .val (.ref b1), .val (.ref b5)] [(.ref b5), (.ref b5)])) (fun t k => XS.aload X43.here hx rfl (hb hby at_361) rfl rfl k) ?_
    refine Go.on (B := T43.setTop (mkF m 366 #[.val (.int p1), .val (.int p2), .val (.int p3), .val (.int p4), .val (.ref b1), .val (.ref b5), .val (.ref b10), .val (.ref b16), .val (.int v128_20), .val (.ref b21), .val (.int (1 : Int32)), .val (.ref b1), .val (.ref b5)] [])) (fun t k => Jvm.RoadKit.acmp (g := (mkF m 363 #[.val (.int p1), .val (.int p2), .val (.int p3), .val (.int p4), .val (.ref b1), .val (.ref b5), .val (.ref b10), .val (.ref b16), .val (.int v128_20), .val (.ref b21), .val (.int (1 : Int32)), .val (.ref b1), .val (.ref b5)] [(.ref b5), (.ref b5)])) X43 hx rfl rfl rfl (pc0 := 363) (pc' := 366) (same := true) rfl (hb hby at_363) rfl (decide_eq_true rfl) (by decide) (by decide) k) ?_
    refine Go.on (B := T43.setTop (mkF m 368 #[.val (.int p1), .val (.int p2), .val (.int p3), .val (.int p4), .val (.ref b1), .val (.ref b5), .val (.ref b10), .val (.ref b16), .val (.int v128_20), .val (.ref b21), .val (.int (1 : Int32)), .val (.ref b1), .val (.ref b5)] [(.ref b16)])) (fun t k => XS.aload X43.here hx rfl (hb hby at_366) rfl rfl k) ?_
    refine Go.on (B := T43.setTop (mkF m 369 #[.val (.int p1), .val (.int p2), .val (.int p3), .val (.int p4), .val (.ref b1), .val (.ref b5), .val (.ref b10), .val (.ref b16), .val (.int v128_20), .val (.ref b21), .val (.int (1 : Int32)), .val (.ref b1), .val (.ref b5)] [(.int (2 : Int32)), (.ref b16)])) (fun t k => XS.iconst X43.here hx rfl (hb hby at_368) k) ?_
    obtain ⟨cl52, Ar52, qq52, Sz52, Ng52, Hh52, Gg52⟩ := id f166
    have hin52 : ¬ ((2 : Int32) < 0 ∨ cl52.slots.size ≤ ((2 : Int32)).toNatClampNeg) := inb_of Sz52 ⟨by decide, by decide⟩
    have hat52 : cl52.slots[((2 : Int32)).toNatClampNeg]? = some (.ref b10) := Hh52.at hin52 rfl
    refine Go.on (B := T43.setTop (mkF m 370 #[.val (.int p1), .val (.int p2), .val (.int p3), .val (.int p4), .val (.ref b1), .val (.ref b5), .val (.ref b10), .val (.ref b16), .val (.int v128_20), .val (.ref b21), .val (.int (1 : Int32)), .val (.ref b1), .val (.ref b5)] [(.ref b10)])) (fun t k => X43.aaload hx (j := (2 : Int32)) (v := (.ref b10)) (by rw [e43q]; exact Ar52.1) (State.isArrayOf_alike hZ.alike Ar52.2.1) rfl Ar52.2.2 hin52 hat52 (g := (mkF m 369 #[.val (.int p1), .val (.int p2), .val (.int p3), .val (.int p4), .val (.ref b1), .val (.ref b5), .val (.ref b10), .val (.ref b16), .val (.int v128_20), .val (.ref b21), .val (.int (1 : Int32)), .val (.ref b1), .val (.ref b5)] [(.int (2 : Int32)), (.ref b16)])) rfl rfl (hb hby at_369) _ k) ?_
    refine Go.on (B := T43.setTop (mkF m 372 #[.val (.int p1), .val (.int p2), .val (.int p3), .val (.int p4), .val (.ref b1), .val (.ref b5), .val (.ref b10), .val (.ref b16), .val (.int v128_20), .val (.ref b21), .val (.int (1 : Int32)), .val (.ref b1), .val (.ref b5)] [(.ref b10), (.ref b10)])) (fun t k => XS.aload X43.here hx rfl (hb hby at_370) rfl rfl k) ?_
    refine Go.on (B := T43.setTop (mkF m 375 #[.val (.int p1), .val (.int p2), .val (.int p3), .val (.int p4), .val (.ref b1), .val (.ref b5), .val (.ref b10), .val (.ref b16), .val (.int v128_20), .val (.ref b21), .val (.int (1 : Int32)), .val (.ref b1), .val (.ref b5)] [])) (fun t k => Jvm.RoadKit.acmp (g := (mkF m 372 #[.val (.int p1), .val (.int p2), .val (.int p3), .val (.int p4), .val (.ref b1), .val (.ref b5), .val (.ref b10), .val (.ref b16), .val (.int v128_20), .val (.ref b21), .val (.int (1 : Int32)), .val (.ref b1), .val (.ref b5)] [(.ref b10), (.ref b10)])) X43 hx rfl rfl rfl (pc0 := 372) (pc' := 375) (same := true) rfl (hb hby at_372) rfl (decide_eq_true rfl) (by decide) (by decide) k) ?_
    refine Go.on (B := T43.setTop (mkF m 376 #[.val (.int p1), .val (.int p2), .val (.int p3), .val (.int p4), .val (.ref b1), .val (.ref b5), .val (.ref b10), .val (.ref b16), .val (.int v128_20), .val (.ref b21), .val (.int (1 : Int32)), .val (.ref b1), .val (.ref b5)] [(.int (1 : Int32))])) (fun t k => XS.iconst X43.here hx rfl (hb hby at_375) k) ?_
    refine Go.on (B := T43.setTop (mkF m 380 #[.val (.int p1), .val (.int p2), .val (.int p3), .val (.int p4), .val (.ref b1), .val (.ref b5), .val (.ref b10), .val (.ref b16), .val (.int v128_20), .val (.ref b21), .val (.int (1 : Int32)), .val (.ref b1), .val (.ref b5)] [(.int (1 : Int32))])) (fun t k => XS.goto X43.here hx rfl (pc0 := 376) (pc' := 380) rfl (hb hby at_376) (by decide) (by decide) k) ?_
    refine Go.on (B := T43.setTop (mkF m 382 #[.val (.int p1), .val (.int p2), .val (.int p3), .val (.int p4), .val (.ref b1), .val (.ref b5), .val (.ref b10), .val (.ref b16), .val (.int v128_20), .val (.ref b21), .val (.int (1 : Int32)), .val (.ref b1), .val (.ref b5)] [])) (fun t k => XS.istore X43.here hx rfl (hb hby at_380) rfl (l' := #[.val (.int p1), .val (.int p2), .val (.int p3), .val (.int p4), .val (.ref b1), .val (.ref b5), .val (.ref b10), .val (.ref b16), .val (.int v128_20), .val (.ref b21), .val (.int (1 : Int32)), .val (.ref b1), .val (.ref b5)]) rfl k) ?_
    refine Go.on (B := T43.setTop (mkF m 384 #[.val (.int p1), .val (.int p2), .val (.int p3), .val (.int p4), .val (.ref b1), .val (.ref b5), .val (.ref b10), .val (.ref b16), .val (.int v128_20), .val (.ref b21), .val (.int (1 : Int32)), .val (.ref b1), .val (.ref b5)] [(.int (1 : Int32))])) (fun t k => XS.iload X43.here hx rfl (hb hby at_382) rfl k) ?_
    obtain ⟨fs, hr, hrun, hended, hW, hsame⟩ := X43.leave (v := some (.int (1 : Int32))) (fun h => by rw [Bd.returns] at h; cases h)
    refine ⟨_, _, ?_, hrun, hended, _, _, rfl, ?_, ⟨_, rfl⟩, hW, hsame.mono (by decide) (by decide)⟩
    · exact retN X43 hx (t := .boolean) Bd.returns (by simp) (hb hby at_384) hr
    · show Q_rm0 Z p1 p2 p3 p4 G1 da h0 n0 _ T43.heap _
      rw [e43q]
      exact ⟨rfl, N43⟩
  · refine Go.on (B := T25.setTop (mkF m 180 #[.val (.int p1), .val (.int p2), .val (.int p3), .val (.int p4), .val (.ref b1), .val (.ref b5), .val (.ref b10), .val (.ref b16), .val (.int v128_20), .val (.ref b21), .val (.int (1 : Int32)), .val (.ref b1), .unset] [])) (fun t k => XS.icmpNo X25.here hx rfl (hb hby at_177) rfl (flt hc177_29).1 k) ?_
    refine Go.on (B := T25.setTop (mkF m 182 #[.val (.int p1), .val (.int p2), .val (.int p3), .val (.int p4), .val (.ref b1), .val (.ref b5), .val (.ref b10), .val (.ref b16), .val (.int v128_20), .val (.ref b21), .val (.int (1 : Int32)), .val (.ref b1), .unset] [(.ref b21)])) (fun t k => XS.aload X25.here hx rfl (hb hby at_180) rfl rfl k) ?_
    obtain ⟨cq55, kq55, q55a, q55b, q55c⟩ := isOf hZ rfl G25_0
    obtain ⟨_, _, ⟨T55, L55, k55, n55⟩, -, X55, ⟨Lc55, hQ55, l55, y55, z55⟩, st55⟩ := X25.virtualBack hx (y := (⟨"com/example/chronocert/chronocert/cli/CommandLine", "next", "()Ljava/lang/String;"⟩ : MethodName)) (z := (⟨"com/example/chronocert/chronocert/cli/CommandLine", "next", "()Ljava/lang/String;"⟩ : MethodName)) hown (mvT hZ (hw _ (List.mem_of_getElem? (i := 74) rfl))) (mvT hZ (hw _ (List.mem_of_getElem? (i := 75) rfl))) (notFace_of_selects (args := #[]) (mvT hZ (hw _ (List.mem_of_getElem? (i := 77) rfl)))) (mvT hZ (hw _ (List.mem_of_getElem? (i := 77) rfl))) (mvT hZ (hw _ (List.mem_of_getElem? (i := 76) rfl))) (by decide) (backOf (W := 0) (rnx l Z a0 hw [] b21 b16 k16 (3 : Int32) [(.ref b1), (.ref b5), (.ref b10)] (1 : Int32) b5 (2 : Int32) T25.heap n0 Zs158 G25_0 G25_1 G25_2 f156 ne_b16_b21 ge_b21 ⟨by decide, by decide⟩ rfl (by decide) (by decide)) hZ (hw _ (List.mem_of_getElem? (i := 78) rfl)) (hw _ (List.mem_of_getElem? (i := 34) rfl)) (by decide) (by decide)) q55a q55c (g := (mkF m 182 #[.val (.int p1), .val (.int p2), .val (.int p3), .val (.int p4), .val (.ref b1), .val (.ref b5), .val (.ref b10), .val (.ref b16), .val (.int v128_20), .val (.ref b21), .val (.int (1 : Int32)), .val (.ref b1), .unset] [(.ref b21)])) rfl (by rw [hml]; rfl) (Steps.refl _) (argsL := []) (rest := []) (lenOf pd_4 rfl) rfl (by show 2 * 0 + _ ≤ _; exact Nat.le_of_eq rfl) (hb hby at_182) (fun _ _ => ⟨rfl, rfl, (by decide : 12 + 0 ≤ _), (by decide : 33 + 0 ≤ _)⟩)
    dsimp only [Pt.U, Pt.locs, Pt.cells, Pt.slots] at X55 l55 y55 z55 st55 hQ55
    subst l55 y55 z55
    obtain ⟨rfl, N55q, K55q, G55_0, G55_1, G55_2⟩ := hQ55
    have N55 := Fr.app N25 N55q
    have O_169 := O_149.keep K55q (allS ge_b21 all0)
    have f170 := f150.keep K55q
    have f171 := f151.keep K55q (ninS ne_b2_b21 nin0)
    have f172 := f152.keep K55q
    have f173 := f153.keep K55q (ninS ne_b6_b21 nin0)
    have f174 := f154.keep K55q
    have f175 := f155.keep K55q (ninS ne_b11_b21 nin0)
    have f176 := f156.keep K55q (ninS ne_b16_b21 nin0)
    have f177 := G25_0.keep K55q
    have Zs178 := Nat.le_trans Zs158 K55q.1
    refine Go.on (B := T55.setTop (mkF m 185 #[.val (.int p1), .val (.int p2), .val (.int p3), .val (.int p4), .val (.ref b1), .val (.ref b5), .val (.ref b10), .val (.ref b16), .val (.int v128_20), .val (.ref b21), .val (.int (1 : Int32)), .val (.ref b1), .unset] [(.ref b5)])) (fun t k => st55.trans k) ?_
    refine Go.on (B := T55.setTop (mkF m 187 #[.val (.int p1), .val (.int p2), .val (.int p3), .val (.int p4), .val (.ref b1), .val (.ref b5), .val (.ref b10), .val (.ref b16), .val (.int v128_20), .val (.ref b21), .val (.int (1 : Int32)), .val (.ref b1), .val (.ref b5)] [])) (fun t k => XS.astore X55.here hx rfl (hb hby at_185) rfl rfl (l' := #[.val (.int p1), .val (.int p2), .val (.int p3), .val (.int p4), .val (.ref b1), .val (.ref b5), .val (.ref b10), .val (.ref b16), .val (.int v128_20), .val (.ref b21), .val (.int (1 : Int32)), .val (.ref b1), .val (.ref b5)]) rfl k) ?_
    refine Go.on (B := T55.setTop (mkF m 189 #[.val (.int p1), .val (.int p2), .val (.int p3), .val (.int p4), .val (.ref b1), .val (.ref b5), .val (.ref b10), .val (.ref b16), .val (.int v128_20), .val (.ref b21), .val (.int (1 : Int32)), .val (.ref b1), .val (.ref b5)] [(.int (1 : Int32))])) (fun t k => XS.iload X55.here hx rfl (hb hby at_187) rfl k) ?_
    have hc189_56 : ¬ ((1 : Int32) = (0 : Int32)) := by decide
    refine Go.on (B := T55.setTop (mkF m 192 #[.val (.int p1), .val (.int p2), .val (.int p3), .val (.int p4), .val (.ref b1), .val (.ref b5), .val (.ref b10), .val (.ref b16), .val (.int v128_20), .val (.ref b21), .val (.int (1 : Int32)), .val (.ref b1), .val (.ref b5)] [])) (fun t k => XS.ifNo X55.here hx rfl (hb hby at_189) rfl ((if0 _ _).trans (feq hc189_56).1) k) ?_
    refine Go.on (B := T55.setTop (mkF m 194 #[.val (.int p1), .val (.int p2), .val (.int p3), .val (.int p4), .val (.ref b1), .val (.ref b5), .val (.ref b10), .val (.ref b16), .val (.int v128_20), .val (.ref b21), .val (.int (1 : Int32)), .val (.ref b1), .val (.ref b5)] [(.ref b5)])) (fun t k => XS.aload X55.here hx rfl (hb hby at_192) rfl rfl k) ?_
    refine Go.on (B := T55.setTop (mkF m 196 #[.val (.int p1), .val (.int p2), .val (.int p3), .val (.int p4), .val (.ref b1), .val (.ref b5), .val (.ref b10), .val (.ref b16), .val (.int v128_20), .val (.ref b21), .val (.int (1 : Int32)), .val (.ref b1), .val (.ref b5)] [(.ref b5), (.ref b5)])) (fun t k => XS.aload X55.here hx rfl (hb hby at_194) rfl rfl k) ?_
    refine Go.on (B := T55.setTop (mkF m 199 #[.val (.int p1), .val (.int p2), .val (.int p3), .val (.int p4), .val (.ref b1), .val (.ref b5), .val (.ref b10), .val (.ref b16), .val (.int v128_20), .val (.ref b21), .val (.int (1 : Int32)), .val (.ref b1), .val (.ref b5)] [])) (fun t k => Jvm.RoadKit.acmp (g := (mkF m 196 #[.val (.int p1), .val (.int p2), .val (.int p3), .val (.int p4), .val (.ref b1), .val (.ref b5), .val (.ref b10), .val (.ref b16), .val (.int v128_20), .val (.ref b21), .val (.int (1 : Int32)), .val (.ref b1), .val (.ref b5)] [(.ref b5), (.ref b5)])) X55 hx rfl rfl rfl (pc0 := 196) (pc' := 199) (same := true) rfl (hb hby at_196) rfl (decide_eq_true rfl) (by decide) (by decide) k) ?_
    refine Go.on (B := T55.setTop (mkF m 200 #[.val (.int p1), .val (.int p2), .val (.int p3), .val (.int p4), .val (.ref b1), .val (.ref b5), .val (.ref b10), .val (.ref b16), .val (.int v128_20), .val (.ref b21), .val (.int (1 : Int32)), .val (.ref b1), .val (.ref b5)] [(.int (1 : Int32))])) (fun t k => XS.iconst X55.here hx rfl (hb hby at_199) k) ?_
    refine Go.on (B := T55.setTop (mkF m 204 #[.val (.int p1), .val (.int p2), .val (.int p3), .val (.int p4), .val (.ref b1), .val (.ref b5), .val (.ref b10), .val (.ref b16), .val (.int v128_20), .val (.ref b21), .val (.int (1 : Int32)), .val (.ref b1), .val (.ref b5)] [(.int (1 : Int32))])) (fun t k => XS.goto X55.here hx rfl (pc0 := 200) (pc' := 204) rfl (hb hby at_200) (by decide) (by decide) k) ?_
    refine Go.on (B := T55.setTop (mkF m 206 #[.val (.int p1), .val (.int p2), .val (.int p3), .val (.int p4), .val (.ref b1), .val (.ref b5), .val (.ref b10), .val (.ref b16), .val (.int v128_20), .val (.ref b21), .val (.int (1 : Int32)), .val (.ref b1), .val (.ref b5)] [])) (fun t k => XS.istore X55.here hx rfl (hb hby at_204) rfl (l' := #[.val (.int p1), .val (.int p2), .val (.int p3), .val (.int p4), .val (.ref b1), .val (.ref b5), .val (.ref b10), .val (.ref b16), .val (.int v128_20), .val (.ref b21), .val (.int (1 : Int32)), .val (.ref b1), .val (.ref b5)]) rfl k) ?_
    refine Go.on (B := T55.setTop (mkF m 208 #[.val (.int p1), .val (.int p2), .val (.int p3), .val (.int p4), .val (.ref b1), .val (.ref b5), .val (.ref b10), .val (.ref b16), .val (.int v128_20), .val (.ref b21), .val (.int (1 : Int32)), .val (.ref b1), .val (.ref b5)] [(.int v128_20)])) (fun t k => XS.iload X55.here hx rfl (hb hby at_206) rfl k) ?_
    refine Go.on (B := T55.setTop (mkF m 209 #[.val (.int p1), .val (.int p2), .val (.int p3), .val (.int p4), .val (.ref b1), .val (.ref b5), .val (.ref b10), .val (.ref b16), .val (.int v128_20), .val (.ref b21), .val (.int (1 : Int32)), .val (.ref b1), .val (.ref b5)] [(.int (3 : Int32)), (.int v128_20)])) (fun t k => XS.iconst X55.here hx rfl (hb hby at_208) k) ?_
    by_cases hc209_59 : v128_20 < (3 : Int32)
    · refine Go.on (B := T55.setTop (mkF m 238 #[.val (.int p1), .val (.int p2), .val (.int p3), .val (.int p4), .val (.ref b1), .val (.ref b5), .val (.ref b10), .val (.ref b16), .val (.int v128_20), .val (.ref b21), .val (.int (1 : Int32)), .val (.ref b1), .val (.ref b5)] [])) (fun t k => XS.icmpYes X55.here hx rfl (pc0 := 209) (pc' := 238) rfl (hb hby at_209) rfl (tlt hc209_59).1 (by decide) (by decide) k) ?_
      refine Go.on (B := T55.setTop (mkF m 240 #[.val (.int p1), .val (.int p2), .val (.int p3), .val (.int p4), .val (.ref b1), .val (.ref b5), .val (.ref b10), .val (.ref b16), .val (.int v128_20), .val (.ref b21), .val (.int (1 : Int32)), .val (.ref b1), .val (.ref b5)] [(.int (1 : Int32))])) (fun t k => XS.iload X55.here hx rfl (hb hby at_238) rfl k) ?_
      have hc240_60 : ¬ ((1 : Int32) = (0 : Int32)) := by decide
      refine Go.on (B := T55.setTop (mkF m 243 #[.val (.int p1), .val (.int p2), .val (.int p3), .val (.int p4), .val (.ref b1), .val (.ref b5), .val (.ref b10), .val (.ref b16), .val (.int v128_20), .val (.ref b21), .val (.int (1 : Int32)), .val (.ref b1), .val (.ref b5)] [])) (fun t k => XS.ifNo X55.here hx rfl (hb hby at_240) rfl ((if0 _ _).trans (feq hc240_60).1) k) ?_
      refine Go.on (B := T55.setTop (mkF m 245 #[.val (.int p1), .val (.int p2), .val (.int p3), .val (.int p4), .val (.ref b1), .val (.ref b5), .val (.ref b10), .val (.ref b16), .val (.int v128_20), .val (.ref b21), .val (.int (1 : Int32)), .val (.ref b1), .val (.ref b5)] [(.ref b21)])) (fun t k => XS.aload X55.here hx rfl (hb hby at_243) rfl rfl k) ?_
      obtain ⟨cq61, kq61, q61a, q61b, q61c⟩ := isOf hZ rfl G55_0
      obtain ⟨_, _, ⟨T61, L61, k61, n61⟩, -, X61, ⟨Lc61, hQ61, l61, y61, z61⟩, st61⟩ := X55.virtualBack hx (y := (⟨"com/example/chronocert/chronocert/cli/CommandLine", "hasNext", "()Z"⟩ : MethodName)) (z := (⟨"com/example/chronocert/chronocert/cli/CommandLine", "hasNext", "()Z"⟩ : MethodName)) hown (mvT hZ (hw _ (List.mem_of_getElem? (i := 67) rfl))) (mvT hZ (hw _ (List.mem_of_getElem? (i := 68) rfl))) (notFace_of_selects (args := #[]) (mvT hZ (hw _ (List.mem_of_getElem? (i := 70) rfl)))) (mvT hZ (hw _ (List.mem_of_getElem? (i := 70) rfl))) (mvT hZ (hw _ (List.mem_of_getElem? (i := 69) rfl))) (by decide) (backOf (W := 0) (rhn l Z a0 hw [] b21 b16 k16 (3 : Int32) [(.ref b1), (.ref b5), (.ref b10)] (2 : Int32) (1 : Int32) T55.heap n0 Zs178 G55_0 G55_1 G55_2 f176 (by decide)) hZ (hw _ (List.mem_of_getElem? (i := 71) rfl)) (hw _ (List.mem_of_getElem? (i := 34) rfl)) (by decide) (by decide)) q61a q61c (g := (mkF m 245 #[.val (.int p1), .val (.int p2), .val (.int p3), .val (.int p4), .val (.ref b1), .val (.ref b5), .val (.ref b10), .val (.ref b16), .val (.int v128_20), .val (.ref b21), .val (.int (1 : Int32)), .val (.ref b1), .val (.ref b5)] [(.ref b21)])) rfl (by rw [hml]; rfl) (Steps.refl _) (argsL := []) (rest := []) (lenOf pd_3 rfl) rfl (by show 2 * 0 + _ ≤ _; exact Nat.le_of_eq rfl) (hb hby at_245) (fun _ _ => ⟨rfl, rfl, (by decide : 12 + 0 ≤ _), (by decide : 33 + 0 ≤ _)⟩)
      dsimp only [Pt.U, Pt.locs, Pt.cells, Pt.slots] at X61 l61 y61 z61 st61 hQ61
      subst l61 y61 z61
      obtain ⟨rfl, N61q, e61q⟩ := hQ61
      have N61 := Fr.app N55 N61q
      refine Go.on (B := T61.setTop (mkF m 248 #[.val (.int p1), .val (.int p2), .val (.int p3), .val (.int p4), .val (.ref b1), .val (.ref b5), .val (.ref b10), .val (.ref b16), .val (.int v128_20), .val (.ref b21), .val (.int (1 : Int32)), .val (.ref b1), .val (.ref b5)] [(.int (1 : Int32))])) (fun t k => st61.trans k) ?_
      refine Go.on (B := T61.setTop (mkF m 250 #[.val (.int p1), .val (.int p2), .val (.int p3), .val (.int p4), .val (.ref b1), .val (.ref b5), .val (.ref b10), .val (.ref b16), .val (.int v128_20), .val (.ref b21), .val (.int (1 : Int32)), .val (.ref b1), .val (.ref b5)] [(.int v128_20), (.int (1 : Int32))])) (fun t k => XS.iload X61.here hx rfl (hb hby at_248) rfl k) ?_
      refine Go.on (B := T61.setTop (mkF m 251 #[.val (.int p1), .val (.int p2), .val (.int p3), .val (.int p4), .val (.ref b1), .val (.ref b5), .val (.ref b10), .val (.ref b16), .val (.int v128_20), .val (.ref b21), .val (.int (1 : Int32)), .val (.ref b1), .val (.ref b5)] [(.int (3 : Int32)), (.int v128_20), (.int (1 : Int32))])) (fun t k => XS.iconst X61.here hx rfl (hb hby at_250) k) ?_
      have hc251_62 : v128_20 < (3 : Int32) := hc209_59
      refine Go.on (B := T61.setTop (mkF m 254 #[.val (.int p1), .val (.int p2), .val (.int p3), .val (.int p4), .val (.ref b1), .val (.ref b5), .val (.ref b10), .val (.ref b16), .val (.int v128_20), .val (.ref b21), .val (.int (1 : Int32)), .val (.ref b1), .val (.ref b5)] [(.int (1 : Int32))])) (fun t k => XS.icmpNo X61.here hx rfl (hb hby at_251) rfl (tlt hc251_62).2.1 k) ?_
      refine Go.on (B := T61.setTop (mkF m 255 #[.val (.int p1), .val (.int p2), .val (.int p3), .val (.int p4), .val (.ref b1), .val (.ref b5), .val (.ref b10), .val (.ref b16), .val (.int v128_20), .val (.ref b21), .val (.int (1 : Int32)), .val (.ref b1), .val (.ref b5)] [(.int (1 : Int32)), (.int (1 : Int32))])) (fun t k => XS.iconst X61.here hx rfl (hb hby at_254) k) ?_
      refine Go.on (B := T61.setTop (mkF m 259 #[.val (.int p1), .val (.int p2), .val (.int p3), .val (.int p4), .val (.ref b1), .val (.ref b5), .val (.ref b10), .val (.ref b16), .val (.int v128_20), .val (.ref b21), .val (.int (1 : Int32)), .val (.ref b1), .val (.ref b5)] [(.int (1 : Int32)), (.int (1 : Int32))])) (fun t k => XS.goto X61.here hx rfl (pc0 := 255) (pc' := 259) rfl (hb hby at_255) (by decide) (by decide) k) ?_
      have hc259_63 : (1 : Int32) = (1 : Int32) := by decide
      refine Go.on (B := T61.setTop (mkF m 262 #[.val (.int p1), .val (.int p2), .val (.int p3), .val (.int p4), .val (.ref b1), .val (.ref b5), .val (.ref b10), .val (.ref b16), .val (.int v128_20), .val (.ref b21), .val (.int (1 : Int32)), .val (.ref b1), .val (.ref b5)] [])) (fun t k => XS.icmpNo X61.here hx rfl (hb hby at_259) rfl (teq hc259_63).2 k) ?_
      refine Go.on (B := T61.setTop (mkF m 263 #[.val (.int p1), .val (.int p2), .val (.int p3), .val (.int p4), .val (.ref b1), .val (.ref b5), .val (.ref b10), .val (.ref b16), .val (.int v128_20), .val (.ref b21), .val (.int (1 : Int32)), .val (.ref b1), .val (.ref b5)] [(.int (1 : Int32))])) (fun t k => XS.iconst X61.here hx rfl (hb hby at_262) k) ?_
      refine Go.on (B := T61.setTop (mkF m 267 #[.val (.int p1), .val (.int p2), .val (.int p3), .val (.int p4), .val (.ref b1), .val (.ref b5), .val (.ref b10), .val (.ref b16), .val (.int v128_20), .val (.ref b21), .val (.int (1 : Int32)), .val (.ref b1), .val (.ref b5)] [(.int (1 : Int32))])) (fun t k => XS.goto X61.here hx rfl (pc0 := 263) (pc' := 267) rfl (hb hby at_263) (by decide) (by decide) k) ?_
      refine Go.on (B := T61.setTop (mkF m 269 #[.val (.int p1), .val (.int p2), .val (.int p3), .val (.int p4), .val (.ref b1), .val (.ref b5), .val (.ref b10), .val (.ref b16), .val (.int v128_20), .val (.ref b21), .val (.int (1 : Int32)), .val (.ref b1), .val (.ref b5)] [])) (fun t k => XS.istore X61.here hx rfl (hb hby at_267) rfl (l' := #[.val (.int p1), .val (.int p2), .val (.int p3), .val (.int p4), .val (.ref b1), .val (.ref b5), .val (.ref b10), .val (.ref b16), .val (.int v128_20), .val (.ref b21), .val (.int (1 : Int32)), .val (.ref b1), .val (.ref b5)]) rfl k) ?_
      refine Go.on (B := T61.setTop (mkF m 271 #[.val (.int p1), .val (.int p2), .val (.int p3), .val (.int p4), .val (.ref b1), .val (.ref b5), .val (.ref b10), .val (.ref b16), .val (.int v128_20), .val (.ref b21), .val (.int (1 : Int32)), .val (.ref b1), .val (.ref b5)] [(.int v128_20)])) (fun t k => XS.iload X61.here hx rfl (hb hby at_269) rfl k) ?_
      refine Go.on (B := T61.setTop (mkF m 272 #[.val (.int p1), .val (.int p2), .val (.int p3), .val (.int p4), .val (.ref b1), .val (.ref b5), .val (.ref b10), .val (.ref b16), .val (.int v128_20), .val (.ref b21), .val (.int (1 : Int32)), .val (.ref b1), .val (.ref b5)] [(.int (3 : Int32)), (.int v128_20)])) (fun t k => XS.iconst X61.here hx rfl (hb hby at_271) k) ?_
      have hc272_65 : v128_20 < (3 : Int32) := hc251_62
      refine Go.on (B := T61.setTop (mkF m 275 #[.val (.int p1), .val (.int p2), .val (.int p3), .val (.int p4), .val (.ref b1), .val (.ref b5), .val (.ref b10), .val (.ref b16), .val (.int v128_20), .val (.ref b21), .val (.int (1 : Int32)), .val (.ref b1), .val (.ref b5)] [])) (fun t k => XS.icmpNo X61.here hx rfl (hb hby at_272) rfl (tlt hc272_65).2.1 k) ?_
      refine Go.on (B := T61.setTop (mkF m 277 #[.val (.int p1), .val (.int p2), .val (.int p3), .val (.int p4), .val (.ref b1), .val (.ref b5), .val (.ref b10), .val (.ref b16), .val (.int v128_20), .val (.ref b21), .val (.int (1 : Int32)), .val (.ref b1), .val (.ref b5)] [(.ref b21)])) (fun t k => XS.aload X61.here hx rfl (hb hby at_275) rfl rfl k) ?_
      obtain ⟨cq66, kq66, q66a, q66b, q66c⟩ := isOf hZ e61q G55_0
      obtain ⟨_, _, ⟨T66, L66, k66, n66⟩, -, X66, ⟨Lc66, hQ66, l66, y66, z66⟩, st66⟩ := X61.virtualBack hx (y := (⟨"com/example/chronocert/chronocert/cli/CommandLine", "value", "()Ljava/lang/String;"⟩ : MethodName)) (z := (⟨"com/example/chronocert/chronocert/cli/CommandLine", "value", "()Ljava/lang/String;"⟩ : MethodName)) hown (mvT hZ (hw _ (List.mem_of_getElem? (i := 79) rfl))) (mvT hZ (hw _ (List.mem_of_getElem? (i := 80) rfl))) (notFace_of_selects (args := #[]) (mvT hZ (hw _ (List.mem_of_getElem? (i := 82) rfl)))) (mvT hZ (hw _ (List.mem_of_getElem? (i := 82) rfl))) (mvT hZ (hw _ (List.mem_of_getElem? (i := 81) rfl))) (by decide) (backOf (W := 0) (rva l Z a0 hw [] b21 b16 k16 (3 : Int32) [(.ref b1), (.ref b5), (.ref b10)] (2 : Int32) b10 (3 : Int32) T55.heap n0 Zs178 G55_0 G55_1 G55_2 f176 ne_b16_b21 ge_b21 ⟨by decide, by decide⟩ rfl (by decide) (by decide)) hZ (hw _ (List.mem_of_getElem? (i := 83) rfl)) (hw _ (List.mem_of_getElem? (i := 34) rfl)) (by decide) (by decide)) q66a q66c (g := (mkF m 277 #[.val (.int p1), .val (.int p2), .val (.int p3), .val (.int p4), .val (.ref b1), .val (.ref b5), .val (.ref b10), .val (.ref b16), .val (.int v128_20), .val (.ref b21), .val (.int (1 : Int32)), .val (.ref b1), .val (.ref b5)] [(.ref b21)])) rfl (by rw [hml]; rfl) (Steps.refl _) (argsL := []) (rest := []) (lenOf pd_4 rfl) rfl (by show 2 * 0 + _ ≤ _; exact Nat.le_of_eq rfl) (hb hby at_277) (fun _ _ => ⟨rfl, e61q, (by decide : 12 + 0 ≤ _), (by decide : 33 + 0 ≤ _)⟩)
      dsimp only [Pt.U, Pt.locs, Pt.cells, Pt.slots] at X66 l66 y66 z66 st66 hQ66
      subst l66 y66 z66
      obtain ⟨rfl, N66q, K66q, G66_0, G66_1, G66_2⟩ := hQ66
      have N66 := Fr.app N61 N66q
      have O_179 := O_169.keep K66q (allS ge_b21 all0)
      have f180 := f170.keep K66q
      have f181 := f171.keep K66q (ninS ne_b2_b21 nin0)
      have f182 := f172.keep K66q
      have f183 := f173.keep K66q (ninS ne_b6_b21 nin0)
      have f184 := f174.keep K66q
      have f185 := f175.keep K66q (ninS ne_b11_b21 nin0)
      have f186 := f176.keep K66q (ninS ne_b16_b21 nin0)
      have f187 := G55_0.keep K66q
      have Zs188 := Nat.le_trans Zs178 K66q.1
      refine Go.on (B := T66.setTop (mkF m 280 #[.val (.int p1), .val (.int p2), .val (.int p3), .val (.int p4), .val (.ref b1), .val (.ref b5), .val (.ref b10), .val (.ref b16), .val (.int v128_20), .val (.ref b21), .val (.int (1 : Int32)), .val (.ref b1), .val (.ref b5)] [(.ref b10)])) (fun t k => st66.trans k) ?_
      refine Go.on (B := T66.setTop (mkF m 282 #[.val (.int p1), .val (.int p2), .val (.int p3), .val (.int p4), .val (.ref b1), .val (.ref b5), .val (.ref b10), .val (.ref b16), .val (.int v128_20), .val (.ref b21), .val (.int (1 : Int32)), .val (.ref b1), .val (.ref b10)] [])) (fun t k => XS.astore X66.here hx rfl (hb hby at_280) rfl rfl (l' := #[.val (.int p1), .val (.int p2), .val (.int p3), .val (.int p4), .val (.ref b1), .val (.ref b5), .val (.ref b10), .val (.ref b16), .val (.int v128_20), .val (.ref b21), .val (.int (1 : Int32)), .val (.ref b1), .val (.ref b10)]) rfl k) ?_
      refine Go.on (B := T66.setTop (mkF m 284 #[.val (.int p1), .val (.int p2), .val (.int p3), .val (.int p4), .val (.ref b1), .val (.ref b5), .val (.ref b10), .val (.ref b16), .val (.int v128_20), .val (.ref b21), .val (.int (1 : Int32)), .val (.ref b1), .val (.ref b10)] [(.int (1 : Int32))])) (fun t k => XS.iload X66.here hx rfl (hb hby at_282) rfl k) ?_
      have hc284_67 : ¬ ((1 : Int32) = (0 : Int32)) := by decide
      refine Go.on (B := T66.setTop (mkF m 287 #[.val (.int p1), .val (.int p2), .val (.int p3), .val (.int p4), .val (.ref b1), .val (.ref b5), .val (.ref b10), .val (.ref b16), .val (.int v128_20), .val (.ref b21), .val (.int (1 : Int32)), .val (.ref b1), .val (.ref b10)] [])) (fun t k => XS.ifNo X66.here hx rfl (hb hby at_284) rfl ((if0 _ _).trans (feq hc284_67).1) k) ?_
      refine Go.on (B := T66.setTop (mkF m 289 #[.val (.int p1), .val (.int p2), .val (.int p3), .val (.int p4), .val (.ref b1), .val (.ref b5), .val (.ref b10), .val (.ref b16), .val (.int v128_20), .val (.ref b21), .val (.int (1 : Int32)), .val (.ref b1), .val (.ref b10)] [(.ref b10)])) (fun t k => XS.aload X66.here hx rfl (hb hby at_287) rfl rfl k) ?_
      refine Go.on (B := T66.setTop (mkF m 291 #[.val (.int p1), .val (.int p2), .val (.int p3), .val (.int p4), .val (.ref b1), .val (.ref b5), .val (.ref b10), .val (.ref b16), .val (.int v128_20), .val (.ref b21), .val (.int (1 : Int32)), .val (.ref b1), .val (.ref b10)] [(.int v128_20), (.ref b10)])) (fun t k => XS.iload X66.here hx rfl (hb hby at_289) rfl k) ?_
      refine Go.on (B := T66.setTop (mkF m 292 #[.val (.int p1), .val (.int p2), .val (.int p3), .val (.int p4), .val (.ref b1), .val (.ref b5), .val (.ref b10), .val (.ref b16), .val (.int v128_20), .val (.ref b21), .val (.int (1 : Int32)), .val (.ref b1), .val (.ref b10)] [(.int (1 : Int32)), (.int v128_20), (.ref b10)])) (fun t k => XS.iconst X66.here hx rfl (hb hby at_291) k) ?_
      have hc292_68 : ¬ (v128_20 = (1 : Int32)) := own_not1 hc177_29
      refine Go.on (B := T66.setTop (mkF m 300 #[.val (.int p1), .val (.int p2), .val (.int p3), .val (.int p4), .val (.ref b1), .val (.ref b5), .val (.ref b10), .val (.ref b16), .val (.int v128_20), .val (.ref b21), .val (.int (1 : Int32)), .val (.ref b1), .val (.ref b10)] [(.ref b10)])) (fun t k => XS.icmpYes X66.here hx rfl (pc0 := 292) (pc' := 300) rfl (hb hby at_292) rfl (feq hc292_68).2 (by decide) (by decide) k) ?_
      refine Go.on (B := T66.setTop (mkF m 302 #[.val (.int p1), .val (.int p2), .val (.int p3), .val (.int p4), .val (.ref b1), .val (.ref b5), .val (.ref b10), .val (.ref b16), .val (.int v128_20), .val (.ref b21), .val (.int (1 : Int32)), .val (.ref b1), .val (.ref b10)] [(.ref b10), (.ref b10)])) (fun t k => XS.aload X66.here hx rfl (hb hby at_300) rfl rfl k) ?_
      refine Go.on (B := T66.setTop (mkF m 305 #[.val (.int p1), .val (.int p2), .val (.int p3), .val (.int p4), .val (.ref b1), .val (.ref b5), .val (.ref b10), .val (.ref b16), .val (.int v128_20), .val (.ref b21), .val (.int (1 : Int32)), .val (.ref b1), .val (.ref b10)] [])) (fun t k => Jvm.RoadKit.acmp (g := (mkF m 302 #[.val (.int p1), .val (.int p2), .val (.int p3), .val (.int p4), .val (.ref b1), .val (.ref b5), .val (.ref b10), .val (.ref b16), .val (.int v128_20), .val (.ref b21), .val (.int (1 : Int32)), .val (.ref b1), .val (.ref b10)] [(.ref b10), (.ref b10)])) X66 hx rfl rfl rfl (pc0 := 302) (pc' := 305) (same := true) rfl (hb hby at_302) rfl (decide_eq_true rfl) (by decide) (by decide) k) ?_
      refine Go.on (B := T66.setTop (mkF m 306 #[.val (.int p1), .val (.int p2), .val (.int p3), .val (.int p4), .val (.ref b1), .val (.ref b5), .val (.ref b10), .val (.ref b16), .val (.int v128_20), .val (.ref b21), .val (.int (1 : Int32)), .val (.ref b1), .val (.ref b10)] [(.int (1 : Int32))])) (fun t k => XS.iconst X66.here hx rfl (hb hby at_305) k) ?_
      refine Go.on (B := T66.setTop (mkF m 310 #[.val (.int p1), .val (.int p2), .val (.int p3), .val (.int p4), .val (.ref b1), .val (.ref b5), .val (.ref b10), .val (.ref b16), .val (.int v128_20), .val (.ref b21), .val (.int (1 : Int32)), .val (.ref b1), .val (.ref b10)] [(.int (1 : Int32))])) (fun t k => XS.goto X66.here hx rfl (pc0 := 306) (pc' := 310) rfl (hb hby at_306) (by decide) (by decide) k) ?_
      refine Go.on (B := T66.setTop (mkF m 312 #[.val (.int p1), .val (.int p2), .val (.int p3), .val (.int p4), .val (.ref b1), .val (.ref b5), .val (.ref b10), .val (.ref b16), .val (.int v128_20), .val (.ref b21), .val (.int (1 : Int32)), .val (.ref b1), .val (.ref b10)] [])) (fun t k => XS.istore X66.here hx rfl (hb hby at_310) rfl (l' := #[.val (.int p1), .val (.int p2), .val (.int p3), .val (.int p4), .val (.ref b1), .val (.ref b5), .val (.ref b10), .val (.ref b16), .val (.int v128_20), .val (.ref b21), .val (.int (1 : Int32)), .val (.ref b1), .val (.ref b10)]) rfl k) ?_
      refine Go.on (B := T66.setTop (mkF m 314 #[.val (.int p1), .val (.int p2), .val (.int p3), .val (.int p4), .val (.ref b1), .val (.ref b5), .val (.ref b10), .val (.ref b16), .val (.int v128_20), .val (.ref b21), .val (.int (1 : Int32)), .val (.ref b1), .val (.ref b10)] [(.int (1 : Int32))])) (fun t k => XS.iload X66.here hx rfl (hb hby at_312) rfl k) ?_
      have hc314_71 : ¬ ((1 : Int32) = (0 : Int32)) := by decide
      refine Go.on (B := T66.setTop (mkF m 317 #[.val (.int p1), .val (.int p2), .val (.int p3), .val (.int p4), .val (.ref b1), .val (.ref b5), .val (.ref b10), .val (.ref b16), .val (.int v128_20), .val (.ref b21), .val (.int (1 : Int32)), .val (.ref b1), .val (.ref b10)] [])) (fun t k => XS.ifNo X66.here hx rfl (hb hby at_314) rfl ((if0 _ _).trans (feq hc314_71).1) k) ?_
      refine Go.on (B := T66.setTop (mkF m 319 #[.val (.int p1), .val (.int p2), .val (.int p3), .val (.int p4), .val (.ref b1), .val (.ref b5), .val (.ref b10), .val (.ref b16), .val (.int v128_20), .val (.ref b21), .val (.int (1 : Int32)), .val (.ref b1), .val (.ref b10)] [(.ref b21)])) (fun t k => XS.aload X66.here hx rfl (hb hby at_317) rfl rfl k) ?_
      obtain ⟨cq72, kq72, q72a, q72b, q72c⟩ := isOf hZ rfl G66_0
      obtain ⟨_, _, ⟨T72, L72, k72, n72⟩, -, X72, ⟨Lc72, hQ72, l72, y72, z72⟩, st72⟩ := X66.virtualBack hx (y := (⟨"com/example/chronocert/chronocert/cli/CommandLine", "hasNext", "()Z"⟩ : MethodName)) (z := (⟨"com/example/chronocert/chronocert/cli/CommandLine", "hasNext", "()Z"⟩ : MethodName)) hown (mvT hZ (hw _ (List.mem_of_getElem? (i := 67) rfl))) (mvT hZ (hw _ (List.mem_of_getElem? (i := 68) rfl))) (notFace_of_selects (args := #[]) (mvT hZ (hw _ (List.mem_of_getElem? (i := 70) rfl)))) (mvT hZ (hw _ (List.mem_of_getElem? (i := 70) rfl))) (mvT hZ (hw _ (List.mem_of_getElem? (i := 69) rfl))) (by decide) (backOf (W := 0) (rhn l Z a0 hw [] b21 b16 k16 (3 : Int32) [(.ref b1), (.ref b5), (.ref b10)] (3 : Int32) (0 : Int32) T66.heap n0 Zs188 G66_0 G66_1 G66_2 f186 (by decide)) hZ (hw _ (List.mem_of_getElem? (i := 71) rfl)) (hw _ (List.mem_of_getElem? (i := 34) rfl)) (by decide) (by decide)) q72a q72c (g := (mkF m 319 #[.val (.int p1), .val (.int p2), .val (.int p3), .val (.int p4), .val (.ref b1), .val (.ref b5), .val (.ref b10), .val (.ref b16), .val (.int v128_20), .val (.ref b21), .val (.int (1 : Int32)), .val (.ref b1), .val (.ref b10)] [(.ref b21)])) rfl (by rw [hml]; rfl) (Steps.refl _) (argsL := []) (rest := []) (lenOf pd_3 rfl) rfl (by show 2 * 0 + _ ≤ _; exact Nat.le_of_eq rfl) (hb hby at_319) (fun _ _ => ⟨rfl, rfl, (by decide : 12 + 0 ≤ _), (by decide : 33 + 0 ≤ _)⟩)
      dsimp only [Pt.U, Pt.locs, Pt.cells, Pt.slots] at X72 l72 y72 z72 st72 hQ72
      subst l72 y72 z72
      obtain ⟨rfl, N72q, e72q⟩ := hQ72
      have N72 := Fr.app N66 N72q
      refine Go.on (B := T72.setTop (mkF m 322 #[.val (.int p1), .val (.int p2), .val (.int p3), .val (.int p4), .val (.ref b1), .val (.ref b5), .val (.ref b10), .val (.ref b16), .val (.int v128_20), .val (.ref b21), .val (.int (1 : Int32)), .val (.ref b1), .val (.ref b10)] [(.int (0 : Int32))])) (fun t k => st72.trans k) ?_
      refine Go.on (B := T72.setTop (mkF m 324 #[.val (.int p1), .val (.int p2), .val (.int p3), .val (.int p4), .val (.ref b1), .val (.ref b5), .val (.ref b10), .val (.ref b16), .val (.int v128_20), .val (.ref b21), .val (.int (1 : Int32)), .val (.ref b1), .val (.ref b10)] [(.int v128_20), (.int (0 : Int32))])) (fun t k => XS.iload X72.here hx rfl (hb hby at_322) rfl k) ?_
      refine Go.on (B := T72.setTop (mkF m 325 #[.val (.int p1), .val (.int p2), .val (.int p3), .val (.int p4), .val (.ref b1), .val (.ref b5), .val (.ref b10), .val (.ref b16), .val (.int v128_20), .val (.ref b21), .val (.int (1 : Int32)), .val (.ref b1), .val (.ref b10)] [(.int (1 : Int32)), (.int v128_20), (.int (0 : Int32))])) (fun t k => XS.iconst X72.here hx rfl (hb hby at_324) k) ?_
      have hc325_73 : ¬ (v128_20 = (1 : Int32)) := own_not1 hc177_29
      refine Go.on (B := T72.setTop (mkF m 332 #[.val (.int p1), .val (.int p2), .val (.int p3), .val (.int p4), .val (.ref b1), .val (.ref b5), .val (.ref b10), .val (.ref b16), .val (.int v128_20), .val (.ref b21), .val (.int (1 : Int32)), .val (.ref b1), .val (.ref b10)] [(.int (0 : Int32))])) (fun t k => XS.icmpYes X72.here hx rfl (pc0 := 325) (pc' := 332) rfl (hb hby at_325) rfl (feq hc325_73).2 (by decide) (by decide) k) ?_
      refine Go.on (B := T72.setTop (mkF m 333 #[.val (.int p1), .val (.int p2), .val (.int p3), .val (.int p4), .val (.ref b1), .val (.ref b5), .val (.ref b10), .val (.ref b16), .val (.int v128_20), .val (.ref b21), .val (.int (1 : Int32)), .val (.ref b1), .val (.ref b10)] [(.int (0 : Int32)), (.int (0 : Int32))])) (fun t k => XS.iconst X72.here hx rfl (hb hby at_332) k) ?_
      have hc333_74 : (0 : Int32) = (0 : Int32) := by decide
      refine Go.on (B := T72.setTop (mkF m 336 #[.val (.int p1), .val (.int p2), .val (.int p3), .val (.int p4), .val (.ref b1), .val (.ref b5), .val (.ref b10), .val (.ref b16), .val (.int v128_20), .val (.ref b21), .val (.int (1 : Int32)), .val (.ref b1), .val (.ref b10)] [])) (fun t k => XS.icmpNo X72.here hx rfl (hb hby at_333) rfl (teq hc333_74).2 k) ?_
      refine Go.on (B := T72.setTop (mkF m 337 #[.val (.int p1), .val (.int p2), .val (.int p3), .val (.int p4), .val (.ref b1), .val (.ref b5), .val (.ref b10), .val (.ref b16), .val (.int v128_20), .val (.ref b21), .val (.int (1 : Int32)), .val (.ref b1), .val (.ref b10)] [(.int (1 : Int32))])) (fun t k => XS.iconst X72.here hx rfl (hb hby at_336) k) ?_
      refine Go.on (B := T72.setTop (mkF m 341 #[.val (.int p1), .val (.int p2), .val (.int p3), .val (.int p4), .val (.ref b1), .val (.ref b5), .val (.ref b10), .val (.ref b16), .val (.int v128_20), .val (.ref b21), .val (.int (1 : Int32)), .val (.ref b1), .val (.ref b10)] [(.int (1 : Int32))])) (fun t k => XS.goto X72.here hx rfl (pc0 := 337) (pc' := 341) rfl (hb hby at_337) (by decide) (by decide) k) ?_
      refine Go.on (B := T72.setTop (mkF m 343 #[.val (.int p1), .val (.int p2), .val (.int p3), .val (.int p4), .val (.ref b1), .val (.ref b5), .val (.ref b10), .val (.ref b16), .val (.int v128_20), .val (.ref b21), .val (.int (1 : Int32)), .val (.ref b1), .val (.ref b10)] [])) (fun t k => XS.istore X72.here hx rfl (hb hby at_341) rfl (l' := #[.val (.int p1), .val (.int p2), .val (.int p3), .val (.int p4), .val (.ref b1), .val (.ref b5), .val (.ref b10), .val (.ref b16), .val (.int v128_20), .val (.ref b21), .val (.int (1 : Int32)), .val (.ref b1), .val (.ref b10)]) rfl k) ?_
      refine Go.on (B := T72.setTop (mkF m 345 #[.val (.int p1), .val (.int p2), .val (.int p3), .val (.int p4), .val (.ref b1), .val (.ref b5), .val (.ref b10), .val (.ref b16), .val (.int v128_20), .val (.ref b21), .val (.int (1 : Int32)), .val (.ref b1), .val (.ref b10)] [(.int (1 : Int32))])) (fun t k => XS.iload X72.here hx rfl (hb hby at_343) rfl k) ?_
      have hc345_76 : ¬ ((1 : Int32) = (0 : Int32)) := by decide
      refine Go.on (B := T72.setTop (mkF m 348 #[.val (.int p1), .val (.int p2), .val (.int p3), .val (.int p4), .val (.ref b1), .val (.ref b5), .val (.ref b10), .val (.ref b16), .val (.int v128_20), .val (.ref b21), .val (.int (1 : Int32)), .val (.ref b1), .val (.ref b10)] [])) (fun t k => XS.ifNo X72.here hx rfl (hb hby at_345) rfl ((if0 _ _).trans (feq hc345_76).1) k) ?_
      refine Go.on (B := T72.setTop (mkF m 350 #[.val (.int p1), .val (.int p2), .val (.int p3), .val (.int p4), .val (.ref b1), .val (.ref b5), .val (.ref b10), .val (.ref b16), .val (.int v128_20), .val (.ref b21), .val (.int (1 : Int32)), .val (.ref b1), .val (.ref b10)] [(.ref b16)])) (fun t k => XS.aload X72.here hx rfl (hb hby at_348) rfl rfl k) ?_
      refine Go.on (B := T72.setTop (mkF m 351 #[.val (.int p1), .val (.int p2), .val (.int p3), .val (.int p4), .val (.ref b1), .val (.ref b5), .val (.ref b10), .val (.ref b16), .val (.int v128_20), .val (.ref b21), .val (.int (1 : Int32)), .val (.ref b1), .val (.ref b10)] [(.int (0 : Int32)), (.ref b16)])) (fun t k => XS.iconst X72.here hx rfl (hb hby at_350) k) ?_
      obtain ⟨cl77, Ar77, qq77, Sz77, Ng77, Hh77, Gg77⟩ := id f186
      have hin77 : ¬ ((0 : Int32) < 0 ∨ cl77.slots.size ≤ ((0 : Int32)).toNatClampNeg) := inb_of Sz77 ⟨by decide, by decide⟩
      have hat77 : cl77.slots[((0 : Int32)).toNatClampNeg]? = some (.ref b1) := Hh77.at hin77 rfl
      refine Go.on (B := T72.setTop (mkF m 352 #[.val (.int p1), .val (.int p2), .val (.int p3), .val (.int p4), .val (.ref b1), .val (.ref b5), .val (.ref b10), .val (.ref b16), .val (.int v128_20), .val (.ref b21), .val (.int (1 : Int32)), .val (.ref b1), .val (.ref b10)] [(.ref b1)])) (fun t k => X72.aaload hx (j := (0 : Int32)) (v := (.ref b1)) (by rw [e72q]; exact Ar77.1) (State.isArrayOf_alike hZ.alike Ar77.2.1) rfl Ar77.2.2 hin77 hat77 (g := (mkF m 351 #[.val (.int p1), .val (.int p2), .val (.int p3), .val (.int p4), .val (.ref b1), .val (.ref b5), .val (.ref b10), .val (.ref b16), .val (.int v128_20), .val (.ref b21), .val (.int (1 : Int32)), .val (.ref b1), .val (.ref b10)] [(.int (0 : Int32)), (.ref b16)])) rfl rfl (hb hby at_351) _ k) ?_
      refine Go.on (B := T72.setTop (mkF m 354 #[.val (.int p1), .val (.int p2), .val (.int p3), .val (.int p4), .val (.ref b1), .val (.ref b5), .val (.ref b10), .val (.ref b16), .val (.int v128_20), .val (.ref b21), .val (.int (1 : Int32)), .val (.ref b1), .val (.ref b10)] [(.ref b1), (.ref b1)])) (fun t k => XS.aload X72.here hx rfl (hb hby at_352) rfl rfl k) ?_
      refine Go.on (B := T72.setTop (mkF m 357 #[.val (.int p1), .val (.int p2), .val (.int p3), .val (.int p4), .val (.ref b1), .val (.ref b5), .val (.ref b10), .val (.ref b16), .val (.int v128_20), .val (.ref b21), .val (.int (1 : Int32)), .val (.ref b1), .val (.ref b10)] [])) (fun t k => Jvm.RoadKit.acmp (g := (mkF m 354 #[.val (.int p1), .val (.int p2), .val (.int p3), .val (.int p4), .val (.ref b1), .val (.ref b5), .val (.ref b10), .val (.ref b16), .val (.int v128_20), .val (.ref b21), .val (.int (1 : Int32)), .val (.ref b1), .val (.ref b10)] [(.ref b1), (.ref b1)])) X72 hx rfl rfl rfl (pc0 := 354) (pc' := 357) (same := true) rfl (hb hby at_354) rfl (decide_eq_true rfl) (by decide) (by decide) k) ?_
      refine Go.on (B := T72.setTop (mkF m 359 #[.val (.int p1), .val (.int p2), .val (.int p3), .val (.int p4), .val (.ref b1), .val (.ref b5), .val (.ref b10), .val (.ref b16), .val (.int v128_20), .val (.ref b21), .val (.int (1 : Int32)), .val (.ref b1), .val (.ref b10)] [(.ref b16)])) (fun t k => XS.aload X72.here hx rfl (hb hby at_357) rfl rfl k) ?_
      refine Go.on (B := T72.setTop (mkF m 360 #[.val (.int p1), .val (.int p2), .val (.int p3), .val (.int p4), .val (.ref b1), .val (.ref b5), .val (.ref b10), .val (.ref b16), .val (.int v128_20), .val (.ref b21), .val (.int (1 : Int32)), .val (.ref b1), .val (.ref b10)] [(.int (1 : Int32)), (.ref b16)])) (fun t k => XS.iconst X72.here hx rfl (hb hby at_359) k) ?_
      obtain ⟨cl79, Ar79, qq79, Sz79, Ng79, Hh79, Gg79⟩ := id f186
      have hin79 : ¬ ((1 : Int32) < 0 ∨ cl79.slots.size ≤ ((1 : Int32)).toNatClampNeg) := inb_of Sz79 ⟨by decide, by decide⟩
      have hat79 : cl79.slots[((1 : Int32)).toNatClampNeg]? = some (.ref b5) := Hh79.at hin79 rfl
      refine Go.on (B := T72.setTop (mkF m 361 #[.val (.int p1), .val (.int p2), .val (.int p3), .val (.int p4), .val (.ref b1), .val (.ref b5), .val (.ref b10), .val (.ref b16), .val (.int v128_20), .val (.ref b21), .val (.int (1 : Int32)), .val (.ref b1), .val (.ref b10)] [(.ref b5)])) (fun t k => X72.aaload hx (j := (1 : Int32)) (v := (.ref b5)) (by rw [e72q]; exact Ar79.1) (State.isArrayOf_alike hZ.alike Ar79.2.1) rfl Ar79.2.2 hin79 hat79 (g := (mkF m 360 #[.val (.int p1), .val (.int p2), .val (.int p3), .val (.int p4), .val (.ref b1), .val (.ref b5), .val (.ref b10), .val (.ref b16), .val (.int v128_20), .val (.ref b21), .val (.int (1 : Int32)), .val (.ref b1), .val (.ref b10)] [(.int (1 : Int32)), (.ref b16)])) rfl rfl (hb hby at_360) _ k) ?_
      refine Go.on (B := T72.setTop (mkF m 363 #[.val (.int p1), .val (.int p2), .val (.int p3), .val (.int p4), .val (.ref b1), .val (.ref b5), .val (.ref b10), .val (.ref b16), .val (.int v128_20), .val (.ref b21), .val (.int (1 : Int32)), .val (.ref b1), .val (.ref b10)] [(.ref b5), (.ref b5)])) (fun t k => XS.aload X72.here hx rfl (hb hby at_361) rfl rfl k) ?_
      refine Go.on (B := T72.setTop (mkF m 366 #[.val (.int p1), .val (.int p2), .val (.int p3), .val (.int p4), .val (.ref b1), .val (.ref b5), .val (.ref b10), .val (.ref b16), .val (.int v128_20), .val (.ref b21), .val (.int (1 : Int32)), .val (.ref b1), .val (.ref b10)] [])) (fun t k => Jvm.RoadKit.acmp (g := (mkF m 363 #[.val (.int p1), .val (.int p2), .val (.int p3), .val (.int p4), .val (.ref b1), .val (.ref b5), .val (.ref b10), .val (.ref b16), .val (.int v128_20), .val (.ref b21), .val (.int (1 : Int32)), .val (.ref b1), .val (.ref b10)] [(.ref b5), (.ref b5)])) X72 hx rfl rfl rfl (pc0 := 363) (pc' := 366) (same := true) rfl (hb hby at_363) rfl (decide_eq_true rfl) (by decide) (by decide) k) ?_
      refine Go.on (B := T72.setTop (mkF m 368 #[.val (.int p1), .val (.int p2), .val (.int p3), .val (.int p4), .val (.ref b1), .val (.ref b5), .val (.ref b10), .val (.ref b16), .val (.int v128_20), .val (.ref b21), .val (.int (1 : Int32)), .val (.ref b1), .val (.ref b10)] [(.ref b16)])) (fun t k => XS.aload X72.here hx rfl (hb hby at_366) rfl rfl k) ?_
      refine Go.on (B := T72.setTop (mkF m 369 #[.val (.int p1), .val (.int p2), .val (.int p3), .val (.int p4), .val (.ref b1), .val (.ref b5), .val (.ref b10), .val (.ref b16), .val (.int v128_20), .val (.ref b21), .val (.int (1 : Int32)), .val (.ref b1), .val (.ref b10)] [(.int (2 : Int32)), (.ref b16)])) (fun t k => XS.iconst X72.here hx rfl (hb hby at_368) k) ?_
      obtain ⟨cl81, Ar81, qq81, Sz81, Ng81, Hh81, Gg81⟩ := id f186
      have hin81 : ¬ ((2 : Int32) < 0 ∨ cl81.slots.size ≤ ((2 : Int32)).toNatClampNeg) := inb_of Sz81 ⟨by decide, by decide⟩
      have hat81 : cl81.slots[((2 : Int32)).toNatClampNeg]? = some (.ref b10) := Hh81.at hin81 rfl
      refine Go.on (B := T72.setTop (mkF m 370 #[.val (.int p1), .val (.int p2), .val (.int p3), .val (.int p4), .val (.ref b1), .val (.ref b5), .val (.ref b10), .val (.ref b16), .val (.int v128_20), .val (.ref b21), .val (.int (1 : Int32)), .val (.ref b1), .val (.ref b10)] [(.ref b10)])) (fun t k => X72.aaload hx (j := (2 : Int32)) (v := (.ref b10)) (by rw [e72q]; exact Ar81.1) (State.isArrayOf_alike hZ.alike Ar81.2.1) rfl Ar81.2.2 hin81 hat81 (g := (mkF m 369 #[.val (.int p1), .val (.int p2), .val (.int p3), .val (.int p4), .val (.ref b1), .val (.ref b5), .val (.ref b10), .val (.ref b16), .val (.int v128_20), .val (.ref b21), .val (.int (1 : Int32)), .val (.ref b1), .val (.ref b10)] [(.int (2 : Int32)), (.ref b16)])) rfl rfl (hb hby at_369) _ k) ?_
      refine Go.on (B := T72.setTop (mkF m 372 #[.val (.int p1), .val (.int p2), .val (.int p3), .val (.int p4), .val (.ref b1), .val (.ref b5), .val (.ref b10), .val (.ref b16), .val (.int v128_20), .val (.ref b21), .val (.int (1 : Int32)), .val (.ref b1), .val (.ref b10)] [(.ref b10), (.ref b10)])) (fun t k => XS.aload X72.here hx rfl (hb hby at_370) rfl rfl k) ?_
      refine Go.on (B := T72.setTop (mkF m 375 #[.val (.int p1), .val (.int p2), .val (.int p3), .val (.int p4), .val (.ref b1), .val (.ref b5), .val (.ref b10), .val (.ref b16), .val (.int v128_20), .val (.ref b21), .val (.int (1 : Int32)), .val (.ref b1), .val (.ref b10)] [])) (fun t k => Jvm.RoadKit.acmp (g := (mkF m 372 #[.val (.int p1), .val (.int p2), .val (.int p3), .val (.int p4), .val (.ref b1), .val (.ref b5), .val (.ref b10), .val (.ref b16), .val (.int v128_20), .val (.ref b21), .val (.int (1 : Int32)), .val (.ref b1), .val (.ref b10)] [(.ref b10), (.ref b10)])) X72 hx rfl rfl rfl (pc0 := 372) (pc' := 375) (same := true) rfl (hb hby at_372) rfl (decide_eq_true rfl) (by decide) (by decide) k) ?_
      refine Go.on (B := T72.setTop (mkF m 376 #[.val (.int p1), .val (.int p2), .val (.int p3), .val (.int p4), .val (.ref b1), .val (.ref b5), .val (.ref b10), .val (.ref b16), .val (.int v128_20), .val (.ref b21), .val (.int (1 : Int32)), .val (.ref b1), .val (.ref b10)] [(.int (1 : Int32))])) (fun t k => XS.iconst X72.here hx rfl (hb hby at_375) k) ?_
      refine Go.on (B := T72.setTop (mkF m 380 #[.val (.int p1), .val (.int p2), .val (.int p3), .val (.int p4), .val (.ref b1), .val (.ref b5), .val (.ref b10), .val (.ref b16), .val (.int v128_20), .val (.ref b21), .val (.int (1 : Int32)), .val (.ref b1), .val (.ref b10)] [(.int (1 : Int32))])) (fun t k => XS.goto X72.here hx rfl (pc0 := 376) (pc' := 380) rfl (hb hby at_376) (by decide) (by decide) k) ?_
      refine Go.on (B := T72.setTop (mkF m 382 #[.val (.int p1), .val (.int p2), .val (.int p3), .val (.int p4), .val (.ref b1), .val (.ref b5), .val (.ref b10), .val (.ref b16), .val (.int v128_20), .val (.ref b21), .val (.int (1 : Int32)), .val (.ref b1), .val (.ref b10)] [])) (fun t k => XS.istore X72.here hx rfl (hb hby at_380) rfl (l' := #[.val (.int p1), .val (.int p2), .val (.int p3), .val (.int p4), .val (.ref b1), .val (.ref b5), .val (.ref b10), .val (.ref b16), .val (.int v128_20), .val (.ref b21), .val (.int (1 : Int32)), .val (.ref b1), .val (.ref b10)]) rfl k) ?_
      refine Go.on (B := T72.setTop (mkF m 384 #[.val (.int p1), .val (.int p2), .val (.int p3), .val (.int p4), .val (.ref b1), .val (.ref b5), .val (.ref b10), .val (.ref b16), .val (.int v128_20), .val (.ref b21), .val (.int (1 : Int32)), .val (.ref b1), .val (.ref b10)] [(.int (1 : Int32))])) (fun t k => XS.iload X72.here hx rfl (hb hby at_382) rfl k) ?_
      obtain ⟨fs, hr, hrun, hended, hW, hsame⟩ := X72.leave (v := some (.int (1 : Int32))) (fun h => by rw [Bd.returns] at h; cases h)
      refine ⟨_, _, ?_, hrun, hended, _, _, rfl, ?_, ⟨_, rfl⟩, hW, hsame.mono (by decide) (by decide)⟩
      · exact retN X72 hx (t := .boolean) Bd.returns (by simp) (hb hby at_384) hr
      · show Q_rm0 Z p1 p2 p3 p4 G1 da h0 n0 _ T72.heap _
        rw [e72q]
        exact ⟨rfl, N72⟩
    · refine Go.on (B := T55.setTop (mkF m 212 #[.val (.int p1), .val (.int p2), .val (.int p3), .val (.int p4), .val (.ref b1), .val (.ref b5), .val (.ref b10), .val (.ref b16), .val (.int v128_20), .val (.ref b21), .val (.int (1 : Int32)), .val (.ref b1), .val (.ref b5)] [])) (fun t k => XS.icmpNo X55.here hx rfl (hb hby at_209) rfl (flt hc209_59).1 k) ?_
      refine Go.on (B := T55.setTop (mkF m 214 #[.val (.int p1), .val (.int p2), .val (.int p3), .val (.int p4), .val (.ref b1), .val (.ref b5), .val (.ref b10), .val (.ref b16), .val (.int v128_20), .val (.ref b21), .val (.int (1 : Int32)), .val (.ref b1), .val (.ref b5)] [(.ref b21)])) (fun t k => XS.aload X55.here hx rfl (hb hby at_212) rfl rfl k) ?_
      obtain ⟨cq84, kq84, q84a, q84b, q84c⟩ := isOf hZ rfl G55_0
      obtain ⟨_, _, ⟨T84, L84, k84, n84⟩, -, X84, ⟨Lc84, hQ84, l84, y84, z84⟩, st84⟩ := X55.virtualBack hx (y := (⟨"com/example/chronocert/chronocert/cli/CommandLine", "next", "()Ljava/lang/String;"⟩ : MethodName)) (z := (⟨"com/example/chronocert/chronocert/cli/CommandLine", "next", "()Ljava/lang/String;"⟩ : MethodName)) hown (mvT hZ (hw _ (List.mem_of_getElem? (i := 74) rfl))) (mvT hZ (hw _ (List.mem_of_getElem? (i := 75) rfl))) (notFace_of_selects (args := #[]) (mvT hZ (hw _ (List.mem_of_getElem? (i := 77) rfl)))) (mvT hZ (hw _ (List.mem_of_getElem? (i := 77) rfl))) (mvT hZ (hw _ (List.mem_of_getElem? (i := 76) rfl))) (by decide) (backOf (W := 0) (rnx l Z a0 hw [] b21 b16 k16 (3 : Int32) [(.ref b1), (.ref b5), (.ref b10)] (2 : Int32) b10 (3 : Int32) T55.heap n0 Zs178 G55_0 G55_1 G55_2 f176 ne_b16_b21 ge_b21 ⟨by decide, by decide⟩ rfl (by decide) (by decide)) hZ (hw _ (List.mem_of_getElem? (i := 78) rfl)) (hw _ (List.mem_of_getElem? (i := 34) rfl)) (by decide) (by decide)) q84a q84c (g := (mkF m 214 #[.val (.int p1), .val (.int p2), .val (.int p3), .val (.int p4), .val (.ref b1), .val (.ref b5), .val (.ref b10), .val (.ref b16), .val (.int v128_20), .val (.ref b21), .val (.int (1 : Int32)), .val (.ref b1), .val (.ref b5)] [(.ref b21)])) rfl (by rw [hml]; rfl) (Steps.refl _) (argsL := []) (rest := []) (lenOf pd_4 rfl) rfl (by show 2 * 0 + _ ≤ _; exact Nat.le_of_eq rfl) (hb hby at_214) (fun _ _ => ⟨rfl, rfl, (by decide : 12 + 0 ≤ _), (by decide : 33 + 0 ≤ _)⟩)
      dsimp only [Pt.U, Pt.locs, Pt.cells, Pt.slots] at X84 l84 y84 z84 st84 hQ84
      subst l84 y84 z84
      obtain ⟨rfl, N84q, K84q, G84_0, G84_1, G84_2⟩ := hQ84
      have N84 := Fr.app N55 N84q
      have O_189 := O_169.keep K84q (allS ge_b21 all0)
      have f190 := f170.keep K84q
      have f191 := f171.keep K84q (ninS ne_b2_b21 nin0)
      have f192 := f172.keep K84q
      have f193 := f173.keep K84q (ninS ne_b6_b21 nin0)
      have f194 := f174.keep K84q
      have f195 := f175.keep K84q (ninS ne_b11_b21 nin0)
      have f196 := f176.keep K84q (ninS ne_b16_b21 nin0)
      have f197 := G55_0.keep K84q
      have Zs198 := Nat.le_trans Zs178 K84q.1
      refine Go.on (B := T84.setTop (mkF m 217 #[.val (.int p1), .val (.int p2), .val (.int p3), .val (.int p4), .val (.ref b1), .val (.ref b5), .val (.ref b10), .val (.ref b16), .val (.int v128_20), .val (.ref b21), .val (.int (1 : Int32)), .val (.ref b1), .val (.ref b5)] [(.ref b10)])) (fun t k => st84.trans k) ?_
      refine Go.on (B := T84.setTop (mkF m 219 #[.val (.int p1), .val (.int p2), .val (.int p3), .val (.int p4), .val (.ref b1), .val (.ref b5), .val (.ref b10), .val (.ref b16), .val (.int v128_20), .val (.ref b21), .val (.int (1 : Int32)), .val (.ref b1), .val (.ref b10)] [])) (fun t k => XS.astore X84.here hx rfl (hb hby at_217) rfl rfl (l' := #[.val (.int p1), .val (.int p2), .val (.int p3), .val (.int p4), .val (.ref b1), .val (.ref b5), .val (.ref b10), .val (.ref b16), .val (.int v128_20), .val (.ref b21), .val (.int (1 : Int32)), .val (.ref b1), .val (.ref b10)]) rfl k) ?_
      refine Go.on (B := T84.setTop (mkF m 221 #[.val (.int p1), .val (.int p2), .val (.int p3), .val (.int p4), .val (.ref b1), .val (.ref b5), .val (.ref b10), .val (.ref b16), .val (.int v128_20), .val (.ref b21), .val (.int (1 : Int32)), .val (.ref b1), .val (.ref b10)] [(.int (1 : Int32))])) (fun t k => XS.iload X84.here hx rfl (hb hby at_219) rfl k) ?_
      have hc221_85 : ¬ ((1 : Int32) = (0 : Int32)) := by decide
      refine Go.on (B := T84.setTop (mkF m 224 #[.val (.int p1), .val (.int p2), .val (.int p3), .val (.int p4), .val (.ref b1), .val (.ref b5), .val (.ref b10), .val (.ref b16), .val (.int v128_20), .val (.ref b21), .val (.int (1 : Int32)), .val (.ref b1), .val (.ref b10)] [])) (fun t k => XS.ifNo X84.here hx rfl (hb hby at_221) rfl ((if0 _ _).trans (feq hc221_85).1) k) ?_
      refine Go.on (B := T84.setTop (mkF m 226 #[.val (.int p1), .val (.int p2), .val (.int p3), .val (.int p4), .val (.ref b1), .val (.ref b5), .val (.ref b10), .val (.ref b16), .val (.int v128_20), .val (.ref b21), .val (.int (1 : Int32)), .val (.ref b1), .val (.ref b10)] [(.ref b10)])) (fun t k => XS.aload X84.here hx rfl (hb hby at_224) rfl rfl k) ?_
      refine Go.on (B := T84.setTop (mkF m 228 #[.val (.int p1), .val (.int p2), .val (.int p3), .val (.int p4), .val (.ref b1), .val (.ref b5), .val (.ref b10), .val (.ref b16), .val (.int v128_20), .val (.ref b21), .val (.int (1 : Int32)), .val (.ref b1), .val (.ref b10)] [(.ref b10), (.ref b10)])) (fun t k => XS.aload X84.here hx rfl (hb hby at_226) rfl rfl k) ?_
      refine Go.on (B := T84.setTop (mkF m 231 #[.val (.int p1), .val (.int p2), .val (.int p3), .val (.int p4), .val (.ref b1), .val (.ref b5), .val (.ref b10), .val (.ref b16), .val (.int v128_20), .val (.ref b21), .val (.int (1 : Int32)), .val (.ref b1), .val (.ref b10)] [])) (fun t k => Jvm.RoadKit.acmp (g := (mkF m 228 #[.val (.int p1), .val (.int p2), .val (.int p3), .val (.int p4), .val (.ref b1), .val (.ref b5), .val (.ref b10), .val (.ref b16), .val (.int v128_20), .val (.ref b21), .val (.int (1 : Int32)), .val (.ref b1), .val (.ref b10)] [(.ref b10), (.ref b10)])) X84 hx rfl rfl rfl (pc0 := 228) (pc' := 231) (same := true) rfl (hb hby at_228) rfl (decide_eq_true rfl) (by decide) (by decide) k) ?_
      refine Go.on (B := T84.setTop (mkF m 232 #[.val (.int p1), .val (.int p2), .val (.int p3), .val (.int p4), .val (.ref b1), .val (.ref b5), .val (.ref b10), .val (.ref b16), .val (.int v128_20), .val (.ref b21), .val (.int (1 : Int32)), .val (.ref b1), .val (.ref b10)] [(.int (1 : Int32))])) (fun t k => XS.iconst X84.here hx rfl (hb hby at_231) k) ?_
      refine Go.on (B := T84.setTop (mkF m 236 #[.val (.int p1), .val (.int p2), .val (.int p3), .val (.int p4), .val (.ref b1), .val (.ref b5), .val (.ref b10), .val (.ref b16), .val (.int v128_20), .val (.ref b21), .val (.int (1 : Int32)), .val (.ref b1), .val (.ref b10)] [(.int (1 : Int32))])) (fun t k => XS.goto X84.here hx rfl (pc0 := 232) (pc' := 236) rfl (hb hby at_232) (by decide) (by decide) k) ?_
      refine Go.on (B := T84.setTop (mkF m 238 #[.val (.int p1), .val (.int p2), .val (.int p3), .val (.int p4), .val (.ref b1), .val (.ref b5), .val (.ref b10), .val (.ref b16), .val (.int v128_20), .val (.ref b21), .val (.int (1 : Int32)), .val (.ref b1), .val (.ref b10)] [])) (fun t k => XS.istore X84.here hx rfl (hb hby at_236) rfl (l' := #[.val (.int p1), .val (.int p2), .val (.int p3), .val (.int p4), .val (.ref b1), .val (.ref b5), .val (.ref b10), .val (.ref b16), .val (.int v128_20), .val (.ref b21), .val (.int (1 : Int32)), .val (.ref b1), .val (.ref b10)]) rfl k) ?_
      refine Go.on (B := T84.setTop (mkF m 240 #[.val (.int p1), .val (.int p2), .val (.int p3), .val (.int p4), .val (.ref b1), .val (.ref b5), .val (.ref b10), .val (.ref b16), .val (.int v128_20), .val (.ref b21), .val (.int (1 : Int32)), .val (.ref b1), .val (.ref b10)] [(.int (1 : Int32))])) (fun t k => XS.iload X84.here hx rfl (hb hby at_238) rfl k) ?_
      have hc240_88 : ¬ ((1 : Int32) = (0 : Int32)) := by decide
      refine Go.on (B := T84.setTop (mkF m 243 #[.val (.int p1), .val (.int p2), .val (.int p3), .val (.int p4), .val (.ref b1), .val (.ref b5), .val (.ref b10), .val (.ref b16), .val (.int v128_20), .val (.ref b21), .val (.int (1 : Int32)), .val (.ref b1), .val (.ref b10)] [])) (fun t k => XS.ifNo X84.here hx rfl (hb hby at_240) rfl ((if0 _ _).trans (feq hc240_88).1) k) ?_
      refine Go.on (B := T84.setTop (mkF m 245 #[.val (.int p1), .val (.int p2), .val (.int p3), .val (.int p4), .val (.ref b1), .val (.ref b5), .val (.ref b10), .val (.ref b16), .val (.int v128_20), .val (.ref b21), .val (.int (1 : Int32)), .val (.ref b1), .val (.ref b10)] [(.ref b21)])) (fun t k => XS.aload X84.here hx rfl (hb hby at_243) rfl rfl k) ?_
      obtain ⟨cq89, kq89, q89a, q89b, q89c⟩ := isOf hZ rfl G84_0
      obtain ⟨_, _, ⟨T89, L89, k89, n89⟩, -, X89, ⟨Lc89, hQ89, l89, y89, z89⟩, st89⟩ := X84.virtualBack hx (y := (⟨"com/example/chronocert/chronocert/cli/CommandLine", "hasNext", "()Z"⟩ : MethodName)) (z := (⟨"com/example/chronocert/chronocert/cli/CommandLine", "hasNext", "()Z"⟩ : MethodName)) hown (mvT hZ (hw _ (List.mem_of_getElem? (i := 67) rfl))) (mvT hZ (hw _ (List.mem_of_getElem? (i := 68) rfl))) (notFace_of_selects (args := #[]) (mvT hZ (hw _ (List.mem_of_getElem? (i := 70) rfl)))) (mvT hZ (hw _ (List.mem_of_getElem? (i := 70) rfl))) (mvT hZ (hw _ (List.mem_of_getElem? (i := 69) rfl))) (by decide) (backOf (W := 0) (rhn l Z a0 hw [] b21 b16 k16 (3 : Int32) [(.ref b1), (.ref b5), (.ref b10)] (3 : Int32) (0 : Int32) T84.heap n0 Zs198 G84_0 G84_1 G84_2 f196 (by decide)) hZ (hw _ (List.mem_of_getElem? (i := 71) rfl)) (hw _ (List.mem_of_getElem? (i := 34) rfl)) (by decide) (by decide)) q89a q89c (g := (mkF m 245 #[.val (.int p1), .val (.int p2), .val (.int p3), .val (.int p4), .val (.ref b1), .val (.ref b5), .val (.ref b10), .val (.ref b16), .val (.int v128_20), .val (.ref b21), .val (.int (1 : Int32)), .val (.ref b1), .val (.ref b10)] [(.ref b21)])) rfl (by rw [hml]; rfl) (Steps.refl _) (argsL := []) (rest := []) (lenOf pd_3 rfl) rfl (by show 2 * 0 + _ ≤ _; exact Nat.le_of_eq rfl) (hb hby at_245) (fun _ _ => ⟨rfl, rfl, (by decide : 12 + 0 ≤ _), (by decide : 33 + 0 ≤ _)⟩)
      dsimp only [Pt.U, Pt.locs, Pt.cells, Pt.slots] at X89 l89 y89 z89 st89 hQ89
      subst l89 y89 z89
      obtain ⟨rfl, N89q, e89q⟩ := hQ89
      have N89 := Fr.app N84 N89q
      refine Go.on (B := T89.setTop (mkF m 248 #[.val (.int p1), .val (.int p2), .val (.int p3), .val (.int p4), .val (.ref b1), .val (.ref b5), .val (.ref b10), .val (.ref b16), .val (.int v128_20), .val (.ref b21), .val (.int (1 : Int32)), .val (.ref b1), .val (.ref b10)] [(.int (0 : Int32))])) (fun t k => st89.trans k) ?_
      refine Go.on (B := T89.setTop (mkF m 250 #[.val (.int p1), .val (.int p2), .val (.int p3), .val (.int p4), .val (.ref b1), .val (.ref b5), .val (.ref b10), .val (.ref b16), .val (.int v128_20), .val (.ref b21), .val (.int (1 : Int32)), .val (.ref b1), .val (.ref b10)] [(.int v128_20), (.int (0 : Int32))])) (fun t k => XS.iload X89.here hx rfl (hb hby at_248) rfl k) ?_
      refine Go.on (B := T89.setTop (mkF m 251 #[.val (.int p1), .val (.int p2), .val (.int p3), .val (.int p4), .val (.ref b1), .val (.ref b5), .val (.ref b10), .val (.ref b16), .val (.int v128_20), .val (.ref b21), .val (.int (1 : Int32)), .val (.ref b1), .val (.ref b10)] [(.int (3 : Int32)), (.int v128_20), (.int (0 : Int32))])) (fun t k => XS.iconst X89.here hx rfl (hb hby at_250) k) ?_
      have hc251_90 : ¬ (v128_20 < (3 : Int32)) := hc209_59
      refine Go.on (B := T89.setTop (mkF m 258 #[.val (.int p1), .val (.int p2), .val (.int p3), .val (.int p4), .val (.ref b1), .val (.ref b5), .val (.ref b10), .val (.ref b16), .val (.int v128_20), .val (.ref b21), .val (.int (1 : Int32)), .val (.ref b1), .val (.ref b10)] [(.int (0 : Int32))])) (fun t k => XS.icmpYes X89.here hx rfl (pc0 := 251) (pc' := 258) rfl (hb hby at_251) rfl (flt hc251_90).2.1 (by decide) (by decide) k) ?_
      refine Go.on (B := T89.setTop (mkF m 259 #[.val (.int p1), .val (.int p2), .val (.int p3), .val (.int p4), .val (.ref b1), .val (.ref b5), .val (.ref b10), .val (.ref b16), .val (.int v128_20), .val (.ref b21), .val (.int (1 : Int32)), .val (.ref b1), .val (.ref b10)] [(.int (0 : Int32)), (.int (0 : Int32))])) (fun t k => XS.iconst X89.here hx rfl (hb hby at_258) k) ?_
      have hc259_91 : (0 : Int32) = (0 : Int32) := by decide
      refine Go.on (B := T89.setTop (mkF m 262 #[.val (.int p1), .val (.int p2), .val (.int p3), .val (.int p4), .val (.ref b1), .val (.ref b5), .val (.ref b10), .val (.ref b16), .val (.int v128_20), .val (.ref b21), .val (.int (1 : Int32)), .val (.ref b1), .val (.ref b10)] [])) (fun t k => XS.icmpNo X89.here hx rfl (hb hby at_259) rfl (teq hc259_91).2 k) ?_
      refine Go.on (B := T89.setTop (mkF m 263 #[.val (.int p1), .val (.int p2), .val (.int p3), .val (.int p4), .val (.ref b1), .val (.ref b5), .val (.ref b10), .val (.ref b16), .val (.int v128_20), .val (.ref b21), .val (.int (1 : Int32)), .val (.ref b1), .val (.ref b10)] [(.int (1 : Int32))])) (fun t k => XS.iconst X89.here hx rfl (hb hby at_262) k) ?_
      refine Go.on (B := T89.setTop (mkF m 267 #[.val (.int p1), .val (.int p2), .val (.int p3), .val (.int p4), .val (.ref b1), .val (.ref b5), .val (.ref b10), .val (.ref b16), .val (.int v128_20), .val (.ref b21), .val (.int (1 : Int32)), .val (.ref b1), .val (.ref b10)] [(.int (1 : Int32))])) (fun t k => XS.goto X89.here hx rfl (pc0 := 263) (pc' := 267) rfl (hb hby at_263) (by decide) (by decide) k) ?_
      refine Go.on (B := T89.setTop (mkF m 269 #[.val (.int p1), .val (.int p2), .val (.int p3), .val (.int p4), .val (.ref b1), .val (.ref b5), .val (.ref b10), .val (.ref b16), .val (.int v128_20), .val (.ref b21), .val (.int (1 : Int32)), .val (.ref b1), .val (.ref b10)] [])) (fun t k => XS.istore X89.here hx rfl (hb hby at_267) rfl (l' := #[.val (.int p1), .val (.int p2), .val (.int p3), .val (.int p4), .val (.ref b1), .val (.ref b5), .val (.ref b10), .val (.ref b16), .val (.int v128_20), .val (.ref b21), .val (.int (1 : Int32)), .val (.ref b1), .val (.ref b10)]) rfl k) ?_
      refine Go.on (B := T89.setTop (mkF m 271 #[.val (.int p1), .val (.int p2), .val (.int p3), .val (.int p4), .val (.ref b1), .val (.ref b5), .val (.ref b10), .val (.ref b16), .val (.int v128_20), .val (.ref b21), .val (.int (1 : Int32)), .val (.ref b1), .val (.ref b10)] [(.int v128_20)])) (fun t k => XS.iload X89.here hx rfl (hb hby at_269) rfl k) ?_
      refine Go.on (B := T89.setTop (mkF m 272 #[.val (.int p1), .val (.int p2), .val (.int p3), .val (.int p4), .val (.ref b1), .val (.ref b5), .val (.ref b10), .val (.ref b16), .val (.int v128_20), .val (.ref b21), .val (.int (1 : Int32)), .val (.ref b1), .val (.ref b10)] [(.int (3 : Int32)), (.int v128_20)])) (fun t k => XS.iconst X89.here hx rfl (hb hby at_271) k) ?_
      have hc272_93 : ¬ (v128_20 < (3 : Int32)) := hc251_90
      refine Go.on (B := T89.setTop (mkF m 343 #[.val (.int p1), .val (.int p2), .val (.int p3), .val (.int p4), .val (.ref b1), .val (.ref b5), .val (.ref b10), .val (.ref b16), .val (.int v128_20), .val (.ref b21), .val (.int (1 : Int32)), .val (.ref b1), .val (.ref b10)] [])) (fun t k => XS.icmpYes X89.here hx rfl (pc0 := 272) (pc' := 343) rfl (hb hby at_272) rfl (flt hc272_93).2.1 (by decide) (by decide) k) ?_
      refine Go.on (B := T89.setTop (mkF m 345 #[.val (.int p1), .val (.int p2), .val (.int p3), .val (.int p4), .val (.ref b1), .val (.ref b5), .val (.ref b10), .val (.ref b16), .val (.int v128_20), .val (.ref b21), .val (.int (1 : Int32)), .val (.ref b1), .val (.ref b10)] [(.int (1 : Int32))])) (fun t k => XS.iload X89.here hx rfl (hb hby at_343) rfl k) ?_
      have hc345_94 : ¬ ((1 : Int32) = (0 : Int32)) := by decide
      refine Go.on (B := T89.setTop (mkF m 348 #[.val (.int p1), .val (.int p2), .val (.int p3), .val (.int p4), .val (.ref b1), .val (.ref b5), .val (.ref b10), .val (.ref b16), .val (.int v128_20), .val (.ref b21), .val (.int (1 : Int32)), .val (.ref b1), .val (.ref b10)] [])) (fun t k => XS.ifNo X89.here hx rfl (hb hby at_345) rfl ((if0 _ _).trans (feq hc345_94).1) k) ?_
      refine Go.on (B := T89.setTop (mkF m 350 #[.val (.int p1), .val (.int p2), .val (.int p3), .val (.int p4), .val (.ref b1), .val (.ref b5), .val (.ref b10), .val (.ref b16), .val (.int v128_20), .val (.ref b21), .val (.int (1 : Int32)), .val (.ref b1), .val (.ref b10)] [(.ref b16)])) (fun t k => XS.aload X89.here hx rfl (hb hby at_348) rfl rfl k) ?_
      refine Go.on (B := T89.setTop (mkF m 351 #[.val (.int p1), .val (.int p2), .val (.int p3), .val (.int p4), .val (.ref b1), .val (.ref b5), .val (.ref b10), .val (.ref b16), .val (.int v128_20), .val (.ref b21), .val (.int (1 : Int32)), .val (.ref b1), .val (.ref b10)] [(.int (0 : Int32)), (.ref b16)])) (fun t k => XS.iconst X89.here hx rfl (hb hby at_350) k) ?_
      obtain ⟨cl95, Ar95, qq95, Sz95, Ng95, Hh95, Gg95⟩ := id f196
      have hin95 : ¬ ((0 : Int32) < 0 ∨ cl95.slots.size ≤ ((0 : Int32)).toNatClampNeg) := inb_of Sz95 ⟨by decide, by decide⟩
      have hat95 : cl95.slots[((0 : Int32)).toNatClampNeg]? = some (.ref b1) := Hh95.at hin95 rfl
      refine Go.on (B := T89.setTop (mkF m 352 #[.val (.int p1), .val (.int p2), .val (.int p3), .val (.int p4), .val (.ref b1), .val (.ref b5), .val (.ref b10), .val (.ref b16), .val (.int v128_20), .val (.ref b21), .val (.int (1 : Int32)), .val (.ref b1), .val (.ref b10)] [(.ref b1)])) (fun t k => X89.aaload hx (j := (0 : Int32)) (v := (.ref b1)) (by rw [e89q]; exact Ar95.1) (State.isArrayOf_alike hZ.alike Ar95.2.1) rfl Ar95.2.2 hin95 hat95 (g := (mkF m 351 #[.val (.int p1), .val (.int p2), .val (.int p3), .val (.int p4), .val (.ref b1), .val (.ref b5), .val (.ref b10), .val (.ref b16), .val (.int v128_20), .val (.ref b21), .val (.int (1 : Int32)), .val (.ref b1), .val (.ref b10)] [(.int (0 : Int32)), (.ref b16)])) rfl rfl (hb hby at_351) _ k) ?_
      refine Go.on (B := T89.setTop (mkF m 354 #[.val (.int p1), .val (.int p2), .val (.int p3), .val (.int p4), .val (.ref b1), .val (.ref b5), .val (.ref b10), .val (.ref b16), .val (.int v128_20), .val (.ref b21), .val (.int (1 : Int32)), .val (.ref b1), .val (.ref b10)] [(.ref b1), (.ref b1)])) (fun t k => XS.aload X89.here hx rfl (hb hby at_352) rfl rfl k) ?_
      refine Go.on (B := T89.setTop (mkF m 357 #[.val (.int p1), .val (.int p2), .val (.int p3), .val (.int p4), .val (.ref b1), .val (.ref b5), .val (.ref b10), .val (.ref b16), .val (.int v128_20), .val (.ref b21), .val (.int (1 : Int32)), .val (.ref b1), .val (.ref b10)] [])) (fun t k => Jvm.RoadKit.acmp (g := (mkF m 354 #[.val (.int p1), .val (.int p2), .val (.int p3), .val (.int p4), .val (.ref b1), .val (.ref b5), .val (.ref b10), .val (.ref b16), .val (.int v128_20), .val (.ref b21), .val (.int (1 : Int32)), .val (.ref b1), .val (.ref b10)] [(.ref b1), (.ref b1)])) X89 hx rfl rfl rfl (pc0 := 354) (pc' := 357) (same := true) rfl (hb hby at_354) rfl (decide_eq_true rfl) (by decide) (by decide) k) ?_
      refine Go.on (B := T89.setTop (mkF m 359 #[.val (.int p1), .val (.int p2), .val (.int p3), .val (.int p4), .val (.ref b1), .val (.ref b5), .val (.ref b10), .val (.ref b16), .val (.int v128_20), .val (.ref b21), .val (.int (1 : Int32)), .val (.ref b1), .val (.ref b10)] [(.ref b16)])) (fun t k => XS.aload X89.here hx rfl (hb hby at_357) rfl rfl k) ?_
      refine Go.on (B := T89.setTop (mkF m 360 #[.val (.int p1), .val (.int p2), .val (.int p3), .val (.int p4), .val (.ref b1), .val (.ref b5), .val (.ref b10), .val (.ref b16), .val (.int v128_20), .val (.ref b21), .val (.int (1 : Int32)), .val (.ref b1), .val (.ref b10)] [(.int (1 : Int32)), (.ref b16)])) (fun t k => XS.iconst X89.here hx rfl (hb hby at_359) k) ?_
      obtain ⟨cl97, Ar97, qq97, Sz97, Ng97, Hh97, Gg97⟩ := id f196
      have hin97 : ¬ ((1 : Int32) < 0 ∨ cl97.slots.size ≤ ((1 : Int32)).toNatClampNeg) := inb_of Sz97 ⟨by decide, by decide⟩
      have hat97 : cl97.slots[((1 : Int32)).toNatClampNeg]? = some (.ref b5) := Hh97.at hin97 rfl
      refine Go.on (B := T89.setTop (mkF m 361 #[.val (.int p1), .val (.int p2), .val (.int p3), .val (.int p4), .val (.ref b1), .val (.ref b5), .val (.ref b10), .val (.ref b16), .val (.int v128_20), .val (.ref b21), .val (.int (1 : Int32)), .val (.ref b1), .val (.ref b10)] [(.ref b5)])) (fun t k => X89.aaload hx (j := (1 : Int32)) (v := (.ref b5)) (by rw [e89q]; exact Ar97.1) (State.isArrayOf_alike hZ.alike Ar97.2.1) rfl Ar97.2.2 hin97 hat97 (g := (mkF m 360 #[.val (.int p1), .val (.int p2), .val (.int p3), .val (.int p4), .val (.ref b1), .val (.ref b5), .val (.ref b10), .val (.ref b16), .val (.int v128_20), .val (.ref b21), .val (.int (1 : Int32)), .val (.ref b1), .val (.ref b10)] [(.int (1 : Int32)), (.ref b16)])) rfl rfl (hb hby at_360) _ k) ?_
      refine Go.on (B := T89.setTop (mkF m 363 #[.val (.int p1), .val (.int p2), .val (.int p3), .val (.int p4), .val (.ref b1), .val (.ref b5), .val (.ref b10), .val (.ref b16), .val (.int v128_20), .val (.ref b21), .val (.int (1 : Int32)), .val (.ref b1), .val (.ref b10)] [(.ref b5), (.ref b5)])) (fun t k => XS.aload X89.here hx rfl (hb hby at_361) rfl rfl k) ?_
      refine Go.on (B := T89.setTop (mkF m 366 #[.val (.int p1), .val (.int p2), .val (.int p3), .val (.int p4), .val (.ref b1), .val (.ref b5), .val (.ref b10), .val (.ref b16), .val (.int v128_20), .val (.ref b21), .val (.int (1 : Int32)), .val (.ref b1), .val (.ref b10)] [])) (fun t k => Jvm.RoadKit.acmp (g := (mkF m 363 #[.val (.int p1), .val (.int p2), .val (.int p3), .val (.int p4), .val (.ref b1), .val (.ref b5), .val (.ref b10), .val (.ref b16), .val (.int v128_20), .val (.ref b21), .val (.int (1 : Int32)), .val (.ref b1), .val (.ref b10)] [(.ref b5), (.ref b5)])) X89 hx rfl rfl rfl (pc0 := 363) (pc' := 366) (same := true) rfl (hb hby at_363) rfl (decide_eq_true rfl) (by decide) (by decide) k) ?_
      refine Go.on (B := T89.setTop (mkF m 368 #[.val (.int p1), .val (.int p2), .val (.int p3), .val (.int p4), .val (.ref b1), .val (.ref b5), .val (.ref b10), .val (.ref b16), .val (.int v128_20), .val (.ref b21), .val (.int (1 : Int32)), .val (.ref b1), .val (.ref b10)] [(.ref b16)])) (fun t k => XS.aload X89.here hx rfl (hb hby at_366) rfl rfl k) ?_
      refine Go.on (B := T89.setTop (mkF m 369 #[.val (.int p1), .val (.int p2), .val (.int p3), .val (.int p4), .val (.ref b1), .val (.ref b5), .val (.ref b10), .val (.ref b16), .val (.int v128_20), .val (.ref b21), .val (.int (1 : Int32)), .val (.ref b1), .val (.ref b10)] [(.int (2 : Int32)), (.ref b16)])) (fun t k => XS.iconst X89.here hx rfl (hb hby at_368) k) ?_
      obtain ⟨cl99, Ar99, qq99, Sz99, Ng99, Hh99, Gg99⟩ := id f196
      have hin99 : ¬ ((2 : Int32) < 0 ∨ cl99.slots.size ≤ ((2 : Int32)).toNatClampNeg) := inb_of Sz99 ⟨by decide, by decide⟩
      have hat99 : cl99.slots[((2 : Int32)).toNatClampNeg]? = some (.ref b10) := Hh99.at hin99 rfl
      refine Go.on (B := T89.setTop (mkF m 370 #[.val (.int p1), .val (.int p2), .val (.int p3), .val (.int p4), .val (.ref b1), .val (.ref b5), .val (.ref b10), .val (.ref b16), .val (.int v128_20), .val (.ref b21), .val (.int (1 : Int32)), .val (.ref b1), .val (.ref b10)] [(.ref b10)])) (fun t k => X89.aaload hx (j := (2 : Int32)) (v := (.ref b10)) (by rw [e89q]; exact Ar99.1) (State.isArrayOf_alike hZ.alike Ar99.2.1) rfl Ar99.2.2 hin99 hat99 (g := (mkF m 369 #[.val (.int p1), .val (.int p2), .val (.int p3), .val (.int p4), .val (.ref b1), .val (.ref b5), .val (.ref b10), .val (.ref b16), .val (.int v128_20), .val (.ref b21), .val (.int (1 : Int32)), .val (.ref b1), .val (.ref b10)] [(.int (2 : Int32)), (.ref b16)])) rfl rfl (hb hby at_369) _ k) ?_
      refine Go.on (B := T89.setTop (mkF m 372 #[.val (.int p1), .val (.int p2), .val (.int p3), .val (.int p4), .val (.ref b1), .val (.ref b5), .val (.ref b10), .val (.ref b16), .val (.int v128_20), .val (.ref b21), .val (.int (1 : Int32)), .val (.ref b1), .val (.ref b10)] [(.ref b10), (.ref b10)])) (fun t k => XS.aload X89.here hx rfl (hb hby at_370) rfl rfl k) ?_
      refine Go.on (B := T89.setTop (mkF m 375 #[.val (.int p1), .val (.int p2), .val (.int p3), .val (.int p4), .val (.ref b1), .val (.ref b5), .val (.ref b10), .val (.ref b16), .val (.int v128_20), .val (.ref b21), .val (.int (1 : Int32)), .val (.ref b1), .val (.ref b10)] [])) (fun t k => Jvm.RoadKit.acmp (g := (mkF m 372 #[.val (.int p1), .val (.int p2), .val (.int p3), .val (.int p4), .val (.ref b1), .val (.ref b5), .val (.ref b10), .val (.ref b16), .val (.int v128_20), .val (.ref b21), .val (.int (1 : Int32)), .val (.ref b1), .val (.ref b10)] [(.ref b10), (.ref b10)])) X89 hx rfl rfl rfl (pc0 := 372) (pc' := 375) (same := true) rfl (hb hby at_372) rfl (decide_eq_true rfl) (by decide) (by decide) k) ?_
      refine Go.on (B := T89.setTop (mkF m 376 #[.val (.int p1), .val (.int p2), .val (.int p3), .val (.int p4), .val (.ref b1), .val (.ref b5), .val (.ref b10), .val (.ref b16), .val (.int v128_20), .val (.ref b21), .val (.int (1 : Int32)), .val (.ref b1), .val (.ref b10)] [(.int (1 : Int32))])) (fun t k => XS.iconst X89.here hx rfl (hb hby at_375) k) ?_
      refine Go.on (B := T89.setTop (mkF m 380 #[.val (.int p1), .val (.int p2), .val (.int p3), .val (.int p4), .val (.ref b1), .val (.ref b5), .val (.ref b10), .val (.ref b16), .val (.int v128_20), .val (.ref b21), .val (.int (1 : Int32)), .val (.ref b1), .val (.ref b10)] [(.int (1 : Int32))])) (fun t k => XS.goto X89.here hx rfl (pc0 := 376) (pc' := 380) rfl (hb hby at_376) (by decide) (by decide) k) ?_
      refine Go.on (B := T89.setTop (mkF m 382 #[.val (.int p1), .val (.int p2), .val (.int p3), .val (.int p4), .val (.ref b1), .val (.ref b5), .val (.ref b10), .val (.ref b16), .val (.int v128_20), .val (.ref b21), .val (.int (1 : Int32)), .val (.ref b1), .val (.ref b10)] [])) (fun t k => XS.istore X89.here hx rfl (hb hby at_380) rfl (l' := #[.val (.int p1), .val (.int p2), .val (.int p3), .val (.int p4), .val (.ref b1), .val (.ref b5), .val (.ref b10), .val (.ref b16), .val (.int v128_20), .val (.ref b21), .val (.int (1 : Int32)), .val (.ref b1), .val (.ref b10)]) rfl k) ?_
      refine Go.on (B := T89.setTop (mkF m 384 #[.val (.int p1), .val (.int p2), .val (.int p3), .val (.int p4), .val (.ref b1), .val (.ref b5), .val (.ref b10), .val (.ref b16), .val (.int v128_20), .val (.ref b21), .val (.int (1 : Int32)), .val (.ref b1), .val (.ref b10)] [(.int (1 : Int32))])) (fun t k => XS.iload X89.here hx rfl (hb hby at_382) rfl k) ?_
      obtain ⟨fs, hr, hrun, hended, hW, hsame⟩ := X89.leave (v := some (.int (1 : Int32))) (fun h => by rw [Bd.returns] at h; cases h)
      refine ⟨_, _, ?_, hrun, hended, _, _, rfl, ?_, ⟨_, rfl⟩, hW, hsame.mono (by decide) (by decide)⟩
      · exact retN X89 hx (t := .boolean) Bd.returns (by simp) (hb hby at_384) hr
      · show Q_rm0 Z p1 p2 p3 p4 G1 da h0 n0 _ T89.heap _
        rw [e89q]
        exact ⟨rfl, N89⟩
set_option maxRecDepth 65536 in
set_option maxHeartbeats 40000000 in
theorem comes_1 {Post : Tables → Env → Array Value → State → Outcome → State → Prop} (hpost : ∀ tb e args s v u, (limb_1_1.after args s (.returned v) u = true ∧ limb_1_2.after args s (.returned v) u = true ∧ True) → FrameEnd s (.returned v) u (Jvm.fieldLocs frame_1_writes args s ++ Jvm.arrayLocs frame_1_arrays args s ++ Jvm.staticLocs frame_1_statics s) 32 192 → Post tb e args s (.returned v) u) :
    ArmFor flags0 classFile x code maxLocals ret World_1 tables_1 room_1 Calls_1 rest_1 Pre_1 Post := by
  intro l hfl _ _ p e ha hc hk s m args below hf hA hF happ hP
  obtain ⟨hcalls, hrest, hpre⟩ := hP
  obtain ⟨-, -, -, hnamed, -, -, -, hat⟩ := (Spec.applies_iff hf).mp happ
  obtain ⟨hg, hn⟩ := and_e (Cond.before_iff.mp (show (Jvm.Cond.and given_1 narrow_1).before args s = true from hpre))
  obtain ⟨gc, gr0⟩ := and_e hg
  obtain ⟨ga0, gr1⟩ := and_e gr0
  obtain ⟨ga1, gr2⟩ := and_e gr1
  obtain ⟨ga2, gr3⟩ := and_e gr2
  obtain ⟨w0, w1, w2, w3, rfl⟩ : ∃ w0 w1 w2 w3 : Value, args = #[w0, w1, w2, w3] := by
    have hs : args.size = 4 := by simpa [Cond.value, given_1] using gc
    obtain ⟨L⟩ := args
    match L, hs with
    | [w0, w1, w2, w3], _ => exact ⟨w0, w1, w2, w3, rfl⟩
  have hw := fun d (hd : d ∈ tables_1) => atoms_spec (ws := Jvm.Cond.code x code maxLocals ret :: tables_1) hat d (List.mem_cons_of_mem _ hd)
  have hfit : Fit s := fun {y c} hc i hi => by
    obtain ⟨ha, rfl⟩ := Array.getElem?_eq_some_iff.mp hc
    have q := List.all_eq_true.mp ((Array.all_eq_true_iff_forall_mem.mp hF) _ (Array.getElem_mem ha)) i (List.mem_range.mpr hi)
    simpa [Array.getElem?_eq_getElem hi] using q
  obtain ⟨hsets, hown0⟩ := atoms_of _ (rest_1_c_eq ▸ (show rest_1_c.before _ s = true from hrest))
  have hr0 := Cond.before_iff.mp hown0
  obtain ⟨i0, ei0⟩ := is_v ga0
  obtain rfl : w0 = (.int i0) := Option.some.inj ei0
  obtain ⟨i1, ei1⟩ := is_v ga1
  obtain rfl : w1 = (.int i1) := Option.some.inj ei1
  obtain ⟨i2, ei2⟩ := is_v ga2
  obtain rfl : w2 = (.int i2) := Option.some.inj ei2
  obtain ⟨i3, ei3⟩ := is_v gr3
  obtain rfl : w3 = (.int i3) := Option.some.inj ei3
  have n5 := not_v (Cond.before_iff.mp (hsets _ (List.mem_of_getElem? (i := 2) rfl)))
  obtain ⟨G1, e10⟩ := is_v (Cond.before_iff.mp (hsets _ (List.mem_of_getElem? (i := 1) rfl)))
  have O2 : Sta s s.heap "java/lang/String" "COMPACT_STRINGS" "Z" (.int G1) := Sta.start e10 (Or.inl (hsets _ (List.mem_of_getElem? (i := 0) rfl)))
  have P5 : ¬ (G1 = (0 : Int32)) := gotF (Cond.eq_ints e10 (Term.int_eval (0))) n5
  obtain ⟨da, eda⟩ := arr_v (Cond.before_iff.mp (hsets _ (List.mem_of_getElem? (i := 15) rfl)))
  have S_de : Sta s s.heap "java/util/ArrayList" "DEFAULTCAPACITY_EMPTY_ELEMENTDATA" "[Ljava/lang/Object;" (.ref da) := Sta.start eda (Or.inr ⟨(hw _ (List.mem_of_getElem? (i := 41) rfl)), (hsets _ (List.mem_of_getElem? (i := 11) rfl))⟩)
  obtain ⟨n, o, h1, h2, h3, _, L, rfl, ⟨rfl, N⟩, hq⟩ := rm0 l s _ hw tables_1 i0 i1 i2 i3 G1 da s.heap s.heap.size (Nat.le_refl _) (Old.start s) O2 P5 S_de p e ha hc hk s m _ below hf ((Spec.applies_iff_loose hf).mp happ).1 ⟨rfl, State.Warmed39.refl s, rfl⟩ trivial
  refine ⟨n, _, h1, h2, h3, hpost _ _ _ _ _ _ ⟨Cond.after_iff.mpr rfl, Cond.after_iff.mpr (eq_i res_at (Term.int_eval (1)) rfl), trivial⟩ ⟨hq.1, hq.2.1, (hq.2.2.sift fun y hy => Or.inr (N y hy)).mono (by decide) (by decide)⟩⟩
theorem main_1_1 : Claimed_1_1 := comes_1 fun _ _ _ _ _ _ h hF => ⟨h.1, hF⟩
theorem main_1_2 : Claimed_1_2 := comes_1 fun _ _ _ _ _ _ h hF => ⟨h.2.1, hF⟩
end Jvm.Pilot.@@N@@
namespace Jvm.Pilot.@@N@@
open Jvm Jvm.ClassFile Sem Op Lib Jvm.Free Jvm.Stand Jvm.Pilot.@@N@@.Jvm.D
/-! MADE BY PROGRAM (witnessworld.py) out of the Statement's table words and the real class files: 30 classes; the members and pool entries that the words name. The judged class is class 1, her method 1. -/
namespace start1
open Jvm.ClassFile
def u (s : String) : CpInfo := .utf8 (stringToUtf16 s)
/-- a pool by its gaps: so many unusable entries, then the entry; so many at the end -/
def gap : Nat → List CpInfo → List CpInfo
  | 0, r => r
  | n + 1, r => .unusable :: gap n r
def poolList (es : List (Nat × CpInfo)) (last : Nat) : List CpInfo := es.foldr (fun e r => gap e.1 (e.2 :: r)) (gap last [])
def pool (es : List (Nat × CpInfo)) (last : Nat) : Array CpInfo := ⟨poolList es last⟩
def fileOf (pool : Array CpInfo) (this : Nat) (attrs : Array Attribute := #[]) (ms : Array MethodInfo := #[]) (fl : Nat := 33) (sup : Nat := 0) (ifs : Array Nat := #[]) (fds : Array FieldInfo := #[]) : ClassFile where
  minorVersion := 0
  majorVersion := 65
  constantPool := pool
  accessFlags := fl
  thisClass := this
  superClass := sup
  interfaces := ifs
  fields := fds
  methods := ms
  attributes := attrs
def plain (name : String) (sup : Option ClassId) : Class where
  name := name
  kind := .ordinary
  loader := none
  accessFlags := 33
  super := sup
  interfaces := #[]
  cf := none
  fields := #[]
  methods := #[]
  instanceTypes := #[]
  staticTypes := #[]
  resolved := #[]
  callSites := []
  init := .initialized
  statics := none
  mirror := none

def pool0 : Array CpInfo := pool [(5, u "<init>"), (0, u "()V"), (1, .class_ 10), (1, u "java/lang/Object")] 113

def k0c0 : Code := { maxStack := 0, maxLocals := 1, code := object_method_1_code, exceptionTable := #[], attributes := #[] }
def k0m0 : Method := { name := "<init>", desc := "()V", sig := { parameters := [], returnType := none }, accessFlags := 1, code := some k0c0 }
/-- java/lang/Object -/
def k0 : Class := { plain "java/lang/Object" none with
  accessFlags := 33
  interfaces := #[]
  cf := some (fileOf pool0 8 #[] #[{ accessFlags := 1, nameIndex := 5, descriptorIndex := 6, attributes := #[] }] 33 0 #[] #[])
  fields := #[]
  methods := #[k0m0]
  instanceTypes := #[]
  staticTypes := #[]
  resolved := Array.replicate 124 none
  statics := none }

def pool1 : Array CpInfo := pool [(2, .class_ 4), (1, u "java/lang/Object"), (0, u "<init>"), (0, u "()V"), (0, .class_ 8), (0, u "java/lang/String"), (0, .methodref 7 10), (0, .nameAndType 5 11), (0, u "([C)V"), (0, .integer 2147483647), (0, .class_ 14), (0, u "com/example/chronocert/chronocert/cli/CommandLine"), (0, .methodref 13 16), (0, .nameAndType 5 17), (0, u "([Ljava/lang/String;)V"), (0, .methodref 13 19), (0, .nameAndType 20 21), (0, u "hasNext"), (0, u "()Z"), (0, .methodref 13 23), (0, .nameAndType 24 25), (0, u "next"), (0, u "()Ljava/lang/String;"), (0, .methodref 13 27), (0, .nameAndType 28 25), (0, u "value"), (0, .class_ 30), (0, u "com/example/chronocert/chronocert/cli/CommandLineNextPinLaw"), (2, u "law"), (0, u "(IIII)Z")] 8

def k1m0 : Method := { name := "<init>", desc := "()V", sig := { parameters := [], returnType := none }, accessFlags := 1, code := none }
def k1c1 : Code := { maxStack := 7, maxLocals := 13, code := code, exceptionTable := #[], attributes := #[] }
def k1m1 : Method := { name := "law", desc := "(IIII)Z", sig := { parameters := [.int, .int, .int, .int], returnType := some .boolean }, accessFlags := 9, code := some k1c1 }
/-- com/example/chronocert/chronocert/cli/CommandLineNextPinLaw -/
def k1 : Class := { plain "com/example/chronocert/chronocert/cli/CommandLineNextPinLaw" (some 0) with
  accessFlags := 49
  interfaces := #[]
  cf := some (fileOf pool1 29 #[] #[{ accessFlags := 1, nameIndex := 5, descriptorIndex := 6, attributes := #[] }, { accessFlags := 9, nameIndex := 33, descriptorIndex := 34, attributes := #[] }] 49 2 #[] #[])
  fields := #[]
  methods := #[k1m0, k1m1]
  instanceTypes := #[]
  staticTypes := #[]
  resolved := Array.replicate 43 none
  statics := none }

def pool2 : Array CpInfo := pool [(1, .class_ 2), (0, u "java/io/Serializable"), (0, .class_ 4), (0, u "java/lang/Object")] 2

/-- java/io/Serializable -/
def k2 : Class := { plain "java/io/Serializable" (some 0) with
  accessFlags := 1537
  interfaces := #[]
  cf := some (fileOf pool2 1 #[] #[] 1537 3 #[] #[])
  fields := #[]
  methods := #[]
  instanceTypes := #[]
  staticTypes := #[]
  resolved := Array.replicate 7 none
  statics := none }

def pool3 : Array CpInfo := pool [(1, .class_ 2), (0, u "java/lang/Comparable"), (0, .class_ 4), (0, u "java/lang/Object")] 7

/-- java/lang/Comparable -/
def k3 : Class := { plain "java/lang/Comparable" (some 0) with
  accessFlags := 1537
  interfaces := #[]
  cf := some (fileOf pool3 1 #[] #[] 1537 3 #[] #[])
  fields := #[]
  methods := #[]
  instanceTypes := #[]
  staticTypes := #[]
  resolved := Array.replicate 12 none
  statics := none }

def pool4 : Array CpInfo := pool [(2, .class_ 4), (1, u "java/lang/CharSequence"), (42, .class_ 48), (0, u "java/lang/CharSequence$1CodePointIterator"), (10, .class_ 60), (0, u "java/lang/CharSequence$1CharIterator"), (5, .class_ 67), (0, u "java/lang/Object")] 63

/-- java/lang/CharSequence -/
def k4 : Class := { plain "java/lang/CharSequence" (some 0) with
  accessFlags := 1537
  interfaces := #[]
  cf := some (fileOf pool4 2 #[.nestMembers #[47, 59]] #[] 1537 66 #[] #[])
  fields := #[]
  methods := #[]
  instanceTypes := #[]
  staticTypes := #[]
  resolved := Array.replicate 131 none
  statics := none }

def pool5 : Array CpInfo := pool [(1, .class_ 2), (0, u "java/lang/constant/Constable"), (0, .class_ 4), (0, u "java/lang/Object")] 6

/-- java/lang/constant/Constable -/
def k5 : Class := { plain "java/lang/constant/Constable" (some 0) with
  accessFlags := 1537
  interfaces := #[]
  cf := some (fileOf pool5 1 #[] #[] 1537 3 #[] #[])
  fields := #[]
  methods := #[]
  instanceTypes := #[]
  staticTypes := #[]
  resolved := Array.replicate 11 none
  statics := none }

def pool6 : Array CpInfo := pool [(1, .class_ 2), (0, u "java/lang/constant/ConstantDesc"), (0, .class_ 4), (0, u "java/lang/Object")] 32

/-- java/lang/constant/ConstantDesc -/
def k6 : Class := { plain "java/lang/constant/ConstantDesc" (some 0) with
  accessFlags := 1537
  interfaces := #[]
  cf := some (fileOf pool6 1 #[] #[] 1537 3 #[] #[])
  fields := #[]
  methods := #[]
  instanceTypes := #[]
  staticTypes := #[]
  resolved := Array.replicate 37 none
  statics := none }

def pool7 : Array CpInfo := pool [(1, .methodref 2 3), (0, .class_ 4), (0, .nameAndType 5 6), (0, u "java/lang/Object"), (0, u "<init>"), (0, u "()V"), (2, .fieldref 10 11), (0, .class_ 12), (0, .nameAndType 13 14), (0, u "java/lang/String"), (0, u "value"), (0, u "[B"), (0, .fieldref 10 16), (0, .nameAndType 17 18), (0, u "coder"), (0, u "B"), (2, u "hash"), (0, u "I"), (2, u "hashIsZero"), (0, u "Z"), (0, .methodref 10 28), (0, .nameAndType 5 29), (0, u "([CIILjava/lang/Void;)V"), (8, .fieldref 10 39), (0, .nameAndType 40 26), (0, u "COMPACT_STRINGS"), (1, .class_ 44), (1, u "java/lang/StringUTF16"), (0, u "compress"), (1, .methodref 42 48), (0, .nameAndType 49 50), (0, u "coderFromArrayLen"), (0, u "([BI)B"), (126, .methodref 42 178), (0, .nameAndType 45 179), (0, u "([CII)[B"), (395, .class_ 576), (0, u "java/lang/CharSequence"), (22, u "CASE_INSENSITIVE_ORDER"), (0, u "Ljava/util/Comparator;"), (409, u "([C)V"), (90, u "serialPersistentFields"), (0, u "[Ljava/io/ObjectStreamField;"), (0, .class_ 1104), (0, u "java/lang/String$CaseInsensitiveComparator"), (1, .class_ 1107), (0, u "java/io/Serializable"), (0, .class_ 1109), (0, u "java/lang/Comparable"), (0, .class_ 1111), (0, u "java/lang/constant/Constable"), (0, .class_ 1113), (0, u "java/lang/constant/ConstantDesc"), (2, u "serialVersionUID"), (0, u "J"), (3, u "REPL"), (0, u "C"), (2, u "LATIN1"), (1, u "UTF16")] 323

def k7m0 : Method := { name := "<init>", desc := "()V", sig := { parameters := [], returnType := none }, accessFlags := 1, code := none }
def k7c1 : Code := { maxStack := 5, maxLocals := 2, code := jdk_42_method_3_code, exceptionTable := #[], attributes := #[] }
def k7m1 : Method := { name := "<init>", desc := "([C)V", sig := { parameters := [(.array .char)], returnType := none }, accessFlags := 1, code := some k7c1 }
def k7c2 : Code := { maxStack := 4, maxLocals := 6, code := jdk_42_method_149_code, exceptionTable := #[], attributes := #[] }
def k7m2 : Method := { name := "<init>", desc := "([CIILjava/lang/Void;)V", sig := { parameters := [(.array .char), .int, .int, (.object "java/lang/Void")], returnType := none }, accessFlags := 2, code := some k7c2 }
/-- java/lang/String -/
def k7 : Class := { plain "java/lang/String" (some 0) with
  accessFlags := 49
  interfaces := #[2, 3, 4, 5, 6]
  cf := some (fileOf pool7 10 #[.nestMembers #[1103]] #[{ accessFlags := 1, nameIndex := 5, descriptorIndex := 6, attributes := #[] }, { accessFlags := 1, nameIndex := 5, descriptorIndex := 1010, attributes := #[] }, { accessFlags := 2, nameIndex := 5, descriptorIndex := 29, attributes := #[] }] 49 2 #[1106, 1108, 575, 1110, 1112] #[{ accessFlags := 18, nameIndex := 13, descriptorIndex := 14, attributes := #[] }, { accessFlags := 18, nameIndex := 17, descriptorIndex := 18, attributes := #[] }, { accessFlags := 2, nameIndex := 21, descriptorIndex := 22, attributes := #[] }, { accessFlags := 2, nameIndex := 25, descriptorIndex := 26, attributes := #[] }, { accessFlags := 26, nameIndex := 1116, descriptorIndex := 1117, attributes := #[] }, { accessFlags := 24, nameIndex := 40, descriptorIndex := 26, attributes := #[] }, { accessFlags := 26, nameIndex := 1101, descriptorIndex := 1102, attributes := #[] }, { accessFlags := 26, nameIndex := 1121, descriptorIndex := 1122, attributes := #[] }, { accessFlags := 25, nameIndex := 599, descriptorIndex := 600, attributes := #[] }, { accessFlags := 24, nameIndex := 1125, descriptorIndex := 18, attributes := #[] }, { accessFlags := 24, nameIndex := 1127, descriptorIndex := 18, attributes := #[] }])
  fields := #[{ name := "value", type := (.array .byte), accessFlags := 18, slot := 0, constantValue := 0 }, { name := "coder", type := .byte, accessFlags := 18, slot := 1, constantValue := 0 }, { name := "hash", type := .int, accessFlags := 2, slot := 2, constantValue := 0 }, { name := "hashIsZero", type := .boolean, accessFlags := 2, slot := 3, constantValue := 0 }, { name := "serialVersionUID", type := .long, accessFlags := 26, slot := 0, constantValue := 0 }, { name := "COMPACT_STRINGS", type := .boolean, accessFlags := 24, slot := 1, constantValue := 0 }, { name := "serialPersistentFields", type := (.array (.object "java/io/ObjectStreamField")), accessFlags := 26, slot := 2, constantValue := 0 }, { name := "REPL", type := .char, accessFlags := 26, slot := 3, constantValue := 0 }, { name := "CASE_INSENSITIVE_ORDER", type := (.object "java/util/Comparator"), accessFlags := 25, slot := 4, constantValue := 0 }, { name := "LATIN1", type := .byte, accessFlags := 24, slot := 5, constantValue := 0 }, { name := "UTF16", type := .byte, accessFlags := 24, slot := 6, constantValue := 0 }]
  methods := #[k7m0, k7m1, k7m2]
  instanceTypes := #[(.array .byte), .byte, .int, .boolean]
  staticTypes := #[.long, .boolean, (.array (.object "java/io/ObjectStreamField")), .char, (.object "java/util/Comparator"), .byte, .byte]
  resolved := Array.replicate 1451 none
  statics := some 0 }

def pool8 : Array CpInfo := pool [(6, .class_ 8), (1, u "java/lang/Object"), (0, u "<init>"), (0, u "()V"), (1, .class_ 14), (1, u "java/lang/StringUTF16"), (31, u "$assertionsDisabled"), (0, u "Z"), (13, u "HI_BYTE_SHIFT"), (0, u "I"), (2, u "LO_BYTE_SHIFT"), (49, .methodref 12 116), (0, .nameAndType 117 118), (0, u "compress"), (0, u "([CI[BII)I"), (3, u "([CII)[B"), (138, u "coderFromArrayLen"), (0, u "([BI)B"), (106, .class_ 371), (1, u "java/lang/StringUTF16$LinesSpliterator"), (58, u "MAX_LENGTH"), (196, .class_ 628), (0, u "java/lang/StringUTF16$CodePointsSpliterator"), (0, .class_ 630), (0, u "java/lang/StringUTF16$CharsSpliterator")] 4

def k8m0 : Method := { name := "<init>", desc := "()V", sig := { parameters := [], returnType := none }, accessFlags := 0, code := none }
def k8c1 : Code := { maxStack := 2, maxLocals := 2, code := jdk_52_method_15_code, exceptionTable := #[], attributes := #[] }
def k8m1 : Method := { name := "coderFromArrayLen", desc := "([BI)B", sig := { parameters := [(.array .byte), .int], returnType := some .byte }, accessFlags := 8, code := some k8c1 }
def k8c2 : Code := { maxStack := 5, maxLocals := 6, code := jdk_52_method_16_code, exceptionTable := #[], attributes := #[] }
def k8m2 : Method := { name := "compress", desc := "([CII)[B", sig := { parameters := [(.array .char), .int, .int], returnType := some (.array .byte) }, accessFlags := 9, code := some k8c2 }
def k8c3 : Code := { maxStack := 3, maxLocals := 7, code := jdk_52_method_21_code, exceptionTable := #[], attributes := #[] }
def k8m3 : Method := { name := "compress", desc := "([CI[BII)I", sig := { parameters := [(.array .char), .int, (.array .byte), .int, .int], returnType := some .int }, accessFlags := 9, code := some k8c3 }
/-- java/lang/StringUTF16 -/
def k8 : Class := { plain "java/lang/StringUTF16" (some 0) with
  accessFlags := 48
  interfaces := #[]
  cf := some (fileOf pool8 12 #[.nestMembers #[627, 629, 369]] #[{ accessFlags := 0, nameIndex := 9, descriptorIndex := 10, attributes := #[] }, { accessFlags := 8, nameIndex := 261, descriptorIndex := 262, attributes := #[] }, { accessFlags := 9, nameIndex := 117, descriptorIndex := 122, attributes := #[] }, { accessFlags := 9, nameIndex := 117, descriptorIndex := 118, attributes := #[] }] 48 6 #[] #[{ accessFlags := 26, nameIndex := 61, descriptorIndex := 62, attributes := #[] }, { accessFlags := 26, nameIndex := 65, descriptorIndex := 62, attributes := #[] }, { accessFlags := 24, nameIndex := 430, descriptorIndex := 62, attributes := #[] }, { accessFlags := 4120, nameIndex := 46, descriptorIndex := 47, attributes := #[] }])
  fields := #[{ name := "HI_BYTE_SHIFT", type := .int, accessFlags := 26, slot := 0, constantValue := 0 }, { name := "LO_BYTE_SHIFT", type := .int, accessFlags := 26, slot := 1, constantValue := 0 }, { name := "MAX_LENGTH", type := .int, accessFlags := 24, slot := 2, constantValue := 0 }, { name := "$assertionsDisabled", type := .boolean, accessFlags := 4120, slot := 3, constantValue := 0 }]
  methods := #[k8m0, k8m1, k8m2, k8m3]
  instanceTypes := #[]
  staticTypes := #[.int, .int, .int, .boolean]
  resolved := Array.replicate 635 none
  statics := none }

def pool9 : Array CpInfo := pool [(1, .methodref 2 3), (0, .class_ 4), (0, .nameAndType 5 6), (0, u "java/lang/Object"), (0, u "<init>"), (0, u "()V"), (0, .class_ 8), (0, u "java/util/ArrayList"), (0, .methodref 7 3), (0, .fieldref 11 12), (0, .class_ 13), (0, .nameAndType 14 15), (0, u "com/example/chronocert/chronocert/cli/CommandLine"), (0, u "operands"), (0, u "Ljava/util/List;"), (0, .fieldref 11 17), (0, .nameAndType 18 19), (0, u "args"), (0, u "[Ljava/lang/String;"), (0, .fieldref 11 21), (0, .nameAndType 22 23), (0, u "next"), (0, u "I"), (43, u "()Z"), (13, u "([Ljava/lang/String;)V"), (2, u "hasNext"), (1, u "()Ljava/lang/String;"), (0, u "value")] 30

def k9c0 : Code := { maxStack := 3, maxLocals := 2, code := prog_31_method_1_code, exceptionTable := #[], attributes := #[] }
def k9m0 : Method := { name := "<init>", desc := "([Ljava/lang/String;)V", sig := { parameters := [(.array (.object "java/lang/String"))], returnType := none }, accessFlags := 0, code := some k9c0 }
def k9c1 : Code := { maxStack := 2, maxLocals := 1, code := prog_31_method_2_code, exceptionTable := #[], attributes := #[] }
def k9m1 : Method := { name := "hasNext", desc := "()Z", sig := { parameters := [], returnType := some .boolean }, accessFlags := 0, code := some k9c1 }
def k9c2 : Code := { maxStack := 5, maxLocals := 1, code := prog_31_method_3_code, exceptionTable := #[], attributes := #[] }
def k9m2 : Method := { name := "next", desc := "()Ljava/lang/String;", sig := { parameters := [], returnType := some (.object "java/lang/String") }, accessFlags := 0, code := some k9c2 }
def k9c3 : Code := { maxStack := 5, maxLocals := 1, code := prog_31_method_4_code, exceptionTable := #[], attributes := #[] }
def k9m3 : Method := { name := "value", desc := "()Ljava/lang/String;", sig := { parameters := [], returnType := some (.object "java/lang/String") }, accessFlags := 0, code := some k9c3 }
/-- com/example/chronocert/chronocert/cli/CommandLine -/
def k9 : Class := { plain "com/example/chronocert/chronocert/cli/CommandLine" (some 0) with
  accessFlags := 48
  interfaces := #[]
  cf := some (fileOf pool9 11 #[] #[{ accessFlags := 0, nameIndex := 5, descriptorIndex := 81, attributes := #[] }, { accessFlags := 0, nameIndex := 84, descriptorIndex := 67, attributes := #[] }, { accessFlags := 0, nameIndex := 22, descriptorIndex := 86, attributes := #[] }, { accessFlags := 0, nameIndex := 87, descriptorIndex := 86, attributes := #[] }] 48 2 #[] #[{ accessFlags := 18, nameIndex := 18, descriptorIndex := 19, attributes := #[] }, { accessFlags := 18, nameIndex := 14, descriptorIndex := 15, attributes := #[] }, { accessFlags := 2, nameIndex := 22, descriptorIndex := 23, attributes := #[] }])
  fields := #[{ name := "args", type := (.array (.object "java/lang/String")), accessFlags := 18, slot := 0, constantValue := 0 }, { name := "operands", type := (.object "java/util/List"), accessFlags := 18, slot := 1, constantValue := 0 }, { name := "next", type := .int, accessFlags := 2, slot := 2, constantValue := 0 }]
  methods := #[k9m0, k9m1, k9m2, k9m3]
  instanceTypes := #[(.array (.object "java/lang/String")), (.object "java/util/List"), .int]
  staticTypes := #[]
  resolved := Array.replicate 118 none
  statics := none }

def pool10 : Array CpInfo := pool [(8, .class_ 10), (1, u "java/lang/Iterable"), (24, .class_ 36), (0, u "java/lang/Object")] 25

/-- java/lang/Iterable -/
def k10 : Class := { plain "java/lang/Iterable" (some 0) with
  accessFlags := 1537
  interfaces := #[]
  cf := some (fileOf pool10 8 #[] #[] 1537 35 #[] #[])
  fields := #[]
  methods := #[]
  instanceTypes := #[]
  staticTypes := #[]
  resolved := Array.replicate 62 none
  statics := none }

def pool11 : Array CpInfo := pool [(10, .class_ 12), (1, u "java/util/Collection"), (47, .class_ 61), (0, u "java/lang/Object"), (0, .class_ 63), (0, u "java/lang/Iterable")] 51

/-- java/util/Collection -/
def k11 : Class := { plain "java/util/Collection" (some 0) with
  accessFlags := 1537
  interfaces := #[10]
  cf := some (fileOf pool11 10 #[] #[] 1537 60 #[62] #[])
  fields := #[]
  methods := #[]
  instanceTypes := #[]
  staticTypes := #[]
  resolved := Array.replicate 115 none
  statics := none }

def pool12 : Array CpInfo := pool [(1, .methodref 2 3), (0, .class_ 4), (0, .nameAndType 5 6), (0, u "java/lang/Object"), (0, u "<init>"), (0, u "()V"), (1, .class_ 10), (1, u "java/util/AbstractCollection"), (66, .class_ 78), (0, u "java/util/Collection")] 81

def k12c0 : Code := { maxStack := 1, maxLocals := 1, code := jdk_22_method_1_code, exceptionTable := #[], attributes := #[] }
def k12m0 : Method := { name := "<init>", desc := "()V", sig := { parameters := [], returnType := none }, accessFlags := 4, code := some k12c0 }
/-- java/util/AbstractCollection -/
def k12 : Class := { plain "java/util/AbstractCollection" (some 0) with
  accessFlags := 1057
  interfaces := #[11]
  cf := some (fileOf pool12 8 #[] #[{ accessFlags := 4, nameIndex := 5, descriptorIndex := 6, attributes := #[] }] 1057 2 #[77] #[])
  fields := #[]
  methods := #[k12m0]
  instanceTypes := #[]
  staticTypes := #[]
  resolved := Array.replicate 160 none
  statics := none }

def pool13 : Array CpInfo := pool [(8, .class_ 10), (1, u "java/util/SequencedCollection"), (15, .class_ 27), (0, u "java/lang/Object"), (0, .class_ 29), (0, u "java/util/Collection")] 27

/-- java/util/SequencedCollection -/
def k13 : Class := { plain "java/util/SequencedCollection" (some 0) with
  accessFlags := 1537
  interfaces := #[11]
  cf := some (fileOf pool13 8 #[] #[] 1537 26 #[28] #[])
  fields := #[]
  methods := #[]
  instanceTypes := #[]
  staticTypes := #[]
  resolved := Array.replicate 57 none
  statics := none }

def pool14 : Array CpInfo := pool [(8, .class_ 10), (1, u "java/util/List"), (92, .class_ 104), (0, u "java/lang/Object"), (15, .class_ 121), (0, u "java/util/SequencedCollection")] 129

/-- java/util/List -/
def k14 : Class := { plain "java/util/List" (some 0) with
  accessFlags := 1537
  interfaces := #[13]
  cf := some (fileOf pool14 8 #[] #[] 1537 103 #[120] #[])
  fields := #[]
  methods := #[]
  instanceTypes := #[]
  staticTypes := #[]
  resolved := Array.replicate 251 none
  statics := none }

def pool15 : Array CpInfo := pool [(1, .methodref 2 3), (0, .class_ 4), (0, .nameAndType 5 6), (0, u "java/util/AbstractCollection"), (0, u "<init>"), (0, u "()V"), (0, .fieldref 8 9), (0, .class_ 10), (0, .nameAndType 11 12), (0, u "java/util/AbstractList"), (0, u "modCount"), (0, u "I"), (64, .class_ 78), (0, u "java/util/AbstractList$Itr"), (3, .class_ 83), (0, u "java/util/AbstractList$ListItr"), (9, .class_ 94), (0, u "java/util/AbstractList$RandomAccessSubList"), (3, .class_ 99), (0, u "java/util/AbstractList$SubList"), (33, .class_ 134), (0, u "java/util/List"), (73, .class_ 209), (0, u "java/util/AbstractList$SubList$1"), (0, .class_ 211), (0, u "java/util/AbstractList$RandomAccessSpliterator")] 6

def k15c0 : Code := { maxStack := 2, maxLocals := 1, code := jdk_39_method_1_code, exceptionTable := #[], attributes := #[] }
def k15m0 : Method := { name := "<init>", desc := "()V", sig := { parameters := [], returnType := none }, accessFlags := 4, code := some k15c0 }
/-- java/util/AbstractList -/
def k15 : Class := { plain "java/util/AbstractList" (some 12) with
  accessFlags := 1057
  interfaces := #[14]
  cf := some (fileOf pool15 8 #[.nestMembers #[93, 98, 208, 210, 82, 77]] #[{ accessFlags := 4, nameIndex := 5, descriptorIndex := 6, attributes := #[] }] 1057 2 #[133] #[{ accessFlags := 132, nameIndex := 11, descriptorIndex := 12, attributes := #[] }])
  fields := #[{ name := "modCount", type := .int, accessFlags := 132, slot := 0, constantValue := 0 }]
  methods := #[k15m0]
  instanceTypes := #[.int]
  staticTypes := #[]
  resolved := Array.replicate 218 none
  statics := none }

def pool16 : Array CpInfo := pool [(1, .class_ 2), (0, u "java/util/RandomAccess"), (0, .class_ 4), (0, u "java/lang/Object")] 2

/-- java/util/RandomAccess -/
def k16 : Class := { plain "java/util/RandomAccess" (some 0) with
  accessFlags := 1537
  interfaces := #[]
  cf := some (fileOf pool16 1 #[] #[] 1537 3 #[] #[])
  fields := #[]
  methods := #[]
  instanceTypes := #[]
  staticTypes := #[]
  resolved := Array.replicate 7 none
  statics := none }

def pool17 : Array CpInfo := pool [(1, .class_ 2), (0, u "java/lang/Cloneable"), (0, .class_ 4), (0, u "java/lang/Object")] 2

/-- java/lang/Cloneable -/
def k17 : Class := { plain "java/lang/Cloneable" (some 0) with
  accessFlags := 1537
  interfaces := #[]
  cf := some (fileOf pool17 1 #[] #[] 1537 3 #[] #[])
  fields := #[]
  methods := #[]
  instanceTypes := #[]
  staticTypes := #[]
  resolved := Array.replicate 7 none
  statics := none }

def pool18 : Array CpInfo := pool [(1, .methodref 2 3), (0, .class_ 4), (0, .nameAndType 5 6), (0, u "java/util/AbstractList"), (0, u "<init>"), (0, u "()V"), (2, .fieldref 10 11), (0, .class_ 12), (0, .nameAndType 13 14), (0, u "java/util/ArrayList"), (0, u "elementData"), (0, u "[Ljava/lang/Object;"), (2, u "EMPTY_ELEMENTDATA"), (21, .fieldref 10 40), (0, .nameAndType 41 14), (0, u "DEFAULTCAPACITY_EMPTY_ELEMENTDATA"), (8, u "size"), (0, u "I"), (96, .class_ 149), (0, u "java/util/List"), (112, .class_ 263), (0, u "java/util/ArrayList$ListItr"), (3, .class_ 268), (0, u "java/util/ArrayList$Itr"), (7, .class_ 277), (0, u "java/util/ArrayList$SubList"), (12, .class_ 291), (0, u "java/util/ArrayList$ArrayListSpliterator"), (37, .class_ 330), (0, u "java/util/RandomAccess"), (0, .class_ 332), (0, u "java/lang/Cloneable"), (0, .class_ 334), (0, u "java/io/Serializable"), (0, u "serialVersionUID"), (0, u "J"), (3, u "DEFAULT_CAPACITY"), (159, .class_ 501), (0, u "java/util/ArrayList$SubList$2"), (0, .class_ 503), (0, u "java/util/ArrayList$SubList$1")] 5

def k18c0 : Code := { maxStack := 2, maxLocals := 1, code := jdk_38_method_2_code, exceptionTable := #[], attributes := #[] }
def k18m0 : Method := { name := "<init>", desc := "()V", sig := { parameters := [], returnType := none }, accessFlags := 1, code := some k18c0 }
/-- java/util/ArrayList -/
def k18 : Class := { plain "java/util/ArrayList" (some 15) with
  accessFlags := 33
  interfaces := #[14, 16, 17, 2]
  cf := some (fileOf pool18 10 #[.nestMembers #[290, 276, 500, 502, 262, 267]] #[{ accessFlags := 1, nameIndex := 5, descriptorIndex := 6, attributes := #[] }] 33 2 #[148, 329, 331, 333] #[{ accessFlags := 26, nameIndex := 335, descriptorIndex := 336, attributes := #[] }, { accessFlags := 26, nameIndex := 340, descriptorIndex := 51, attributes := #[] }, { accessFlags := 26, nameIndex := 17, descriptorIndex := 14, attributes := #[] }, { accessFlags := 26, nameIndex := 41, descriptorIndex := 14, attributes := #[] }, { accessFlags := 128, nameIndex := 13, descriptorIndex := 14, attributes := #[] }, { accessFlags := 2, nameIndex := 50, descriptorIndex := 51, attributes := #[] }])
  fields := #[{ name := "serialVersionUID", type := .long, accessFlags := 26, slot := 0, constantValue := 0 }, { name := "DEFAULT_CAPACITY", type := .int, accessFlags := 26, slot := 1, constantValue := 0 }, { name := "EMPTY_ELEMENTDATA", type := (.array (.object "java/lang/Object")), accessFlags := 26, slot := 2, constantValue := 0 }, { name := "DEFAULTCAPACITY_EMPTY_ELEMENTDATA", type := (.array (.object "java/lang/Object")), accessFlags := 26, slot := 3, constantValue := 0 }, { name := "elementData", type := (.array (.object "java/lang/Object")), accessFlags := 128, slot := 1, constantValue := 0 }, { name := "size", type := .int, accessFlags := 2, slot := 2, constantValue := 0 }]
  methods := #[k18m0]
  instanceTypes := #[.int, (.array (.object "java/lang/Object")), .int]
  staticTypes := #[.long, .int, (.array (.object "java/lang/Object")), (.array (.object "java/lang/Object"))]
  resolved := Array.replicate 509 none
  statics := some 1 }

def pool19 : Array CpInfo := pool [(4, .class_ 6), (1, u "java/lang/Object"), (0, u "<init>"), (0, u "()V"), (5, .class_ 16), (1, u "java/lang/StringLatin1"), (104, u "$assertionsDisabled"), (0, u "Z"), (98, .class_ 223), (1, u "java/lang/StringLatin1$LinesSpliterator"), (166, .class_ 391), (0, u "java/lang/StringLatin1$CharsSpliterator")] 3

def k19m0 : Method := { name := "<init>", desc := "()V", sig := { parameters := [], returnType := none }, accessFlags := 0, code := none }
/-- java/lang/StringLatin1 -/
def k19 : Class := { plain "java/lang/StringLatin1" (some 0) with
  accessFlags := 48
  interfaces := #[]
  cf := some (fileOf pool19 14 #[.nestMembers #[390, 221]] #[{ accessFlags := 0, nameIndex := 7, descriptorIndex := 8, attributes := #[] }] 48 4 #[] #[{ accessFlags := 4120, nameIndex := 121, descriptorIndex := 122, attributes := #[] }])
  fields := #[{ name := "$assertionsDisabled", type := .boolean, accessFlags := 4120, slot := 0, constantValue := 0 }]
  methods := #[k19m0]
  instanceTypes := #[]
  staticTypes := #[.boolean]
  resolved := Array.replicate 395 none
  statics := none }

def pool20 : Array CpInfo := pool [(2, .class_ 4), (1, u "java/lang/Object"), (0, u "<init>"), (0, u "()V"), (17, .class_ 26), (1, u "jdk/internal/util/Preconditions"), (28, .class_ 56), (0, u "jdk/internal/util/Preconditions$4"), (57, .class_ 115), (0, u "jdk/internal/util/Preconditions$1"), (7, u "SIOOBE_FORMATTER"), (0, u "Ljava/util/function/BiFunction;"), (0, .class_ 126), (0, u "jdk/internal/util/Preconditions$2"), (3, u "AIOOBE_FORMATTER"), (0, .class_ 132), (0, u "jdk/internal/util/Preconditions$3"), (3, u "IOOBE_FORMATTER")] 57

def k20m0 : Method := { name := "<init>", desc := "()V", sig := { parameters := [], returnType := none }, accessFlags := 1, code := none }
/-- jdk/internal/util/Preconditions -/
def k20 : Class := { plain "jdk/internal/util/Preconditions" (some 0) with
  accessFlags := 33
  interfaces := #[]
  cf := some (fileOf pool20 24 #[.nestMembers #[55, 131, 125, 114]] #[{ accessFlags := 1, nameIndex := 5, descriptorIndex := 6, attributes := #[] }] 33 2 #[] #[{ accessFlags := 25, nameIndex := 123, descriptorIndex := 124, attributes := #[] }, { accessFlags := 25, nameIndex := 130, descriptorIndex := 124, attributes := #[] }, { accessFlags := 25, nameIndex := 136, descriptorIndex := 124, attributes := #[] }])
  fields := #[{ name := "SIOOBE_FORMATTER", type := (.object "java/util/function/BiFunction"), accessFlags := 25, slot := 0, constantValue := 0 }, { name := "AIOOBE_FORMATTER", type := (.object "java/util/function/BiFunction"), accessFlags := 25, slot := 1, constantValue := 0 }, { name := "IOOBE_FORMATTER", type := (.object "java/util/function/BiFunction"), accessFlags := 25, slot := 2, constantValue := 0 }]
  methods := #[k20m0]
  instanceTypes := #[]
  staticTypes := #[(.object "java/util/function/BiFunction"), (.object "java/util/function/BiFunction"), (.object "java/util/function/BiFunction")]
  resolved := Array.replicate 194 none
  statics := some 2 }

def pool21 : Array CpInfo := pool [(9, u "<init>"), (6, .class_ 18), (1, u "java/lang/Object"), (0, u "()V"), (1, .class_ 23), (1, u "jdk/internal/util/ArraysSupport"), (0, u "LOG2_ARRAY_LONG_INDEX_SCALE"), (0, u "I"), (2, u "U"), (0, u "Ljdk/internal/misc/Unsafe;"), (8, u "BIG_ENDIAN"), (0, u "Z"), (8, u "LOG2_BYTE_BIT_SIZE"), (4, u "LOG2_ARRAY_INT_INDEX_SCALE"), (54, u "JLA"), (0, u "Ljdk/internal/access/JavaLangAccess;"), (11, u "LOG2_ARRAY_BOOLEAN_INDEX_SCALE"), (9, u "LOG2_ARRAY_BYTE_INDEX_SCALE"), (5, u "LOG2_ARRAY_CHAR_INDEX_SCALE"), (5, u "LOG2_ARRAY_SHORT_INDEX_SCALE"), (18, u "LOG2_ARRAY_FLOAT_INDEX_SCALE"), (24, u "LOG2_ARRAY_DOUBLE_INDEX_SCALE"), (89, u "T_BOOLEAN"), (2, u "T_CHAR"), (1, u "T_FLOAT"), (1, u "T_DOUBLE"), (1, u "T_BYTE"), (1, u "T_SHORT"), (1, u "T_INT"), (1, u "T_LONG"), (1, u "SOFT_MAX_ARRAY_LENGTH")] 83

def k21m0 : Method := { name := "<init>", desc := "()V", sig := { parameters := [], returnType := none }, accessFlags := 2, code := none }
/-- jdk/internal/util/ArraysSupport -/
def k21 : Class := { plain "jdk/internal/util/ArraysSupport" (some 0) with
  accessFlags := 33
  interfaces := #[]
  cf := some (fileOf pool21 21 #[] #[{ accessFlags := 2, nameIndex := 9, descriptorIndex := 19, attributes := #[] }] 33 16 #[] #[{ accessFlags := 24, nameIndex := 28, descriptorIndex := 29, attributes := #[] }, { accessFlags := 26, nameIndex := 38, descriptorIndex := 39, attributes := #[] }, { accessFlags := 25, nameIndex := 121, descriptorIndex := 25, attributes := #[] }, { accessFlags := 25, nameIndex := 131, descriptorIndex := 25, attributes := #[] }, { accessFlags := 25, nameIndex := 137, descriptorIndex := 25, attributes := #[] }, { accessFlags := 25, nameIndex := 143, descriptorIndex := 25, attributes := #[] }, { accessFlags := 25, nameIndex := 53, descriptorIndex := 25, attributes := #[] }, { accessFlags := 25, nameIndex := 24, descriptorIndex := 25, attributes := #[] }, { accessFlags := 25, nameIndex := 162, descriptorIndex := 25, attributes := #[] }, { accessFlags := 25, nameIndex := 187, descriptorIndex := 25, attributes := #[] }, { accessFlags := 26, nameIndex := 48, descriptorIndex := 25, attributes := #[] }, { accessFlags := 25, nameIndex := 277, descriptorIndex := 25, attributes := #[] }, { accessFlags := 25, nameIndex := 280, descriptorIndex := 25, attributes := #[] }, { accessFlags := 25, nameIndex := 282, descriptorIndex := 25, attributes := #[] }, { accessFlags := 25, nameIndex := 284, descriptorIndex := 25, attributes := #[] }, { accessFlags := 25, nameIndex := 286, descriptorIndex := 25, attributes := #[] }, { accessFlags := 25, nameIndex := 288, descriptorIndex := 25, attributes := #[] }, { accessFlags := 25, nameIndex := 290, descriptorIndex := 25, attributes := #[] }, { accessFlags := 25, nameIndex := 292, descriptorIndex := 25, attributes := #[] }, { accessFlags := 26, nameIndex := 108, descriptorIndex := 109, attributes := #[] }, { accessFlags := 25, nameIndex := 294, descriptorIndex := 25, attributes := #[] }])
  fields := #[{ name := "U", type := (.object "jdk/internal/misc/Unsafe"), accessFlags := 24, slot := 0, constantValue := 0 }, { name := "BIG_ENDIAN", type := .boolean, accessFlags := 26, slot := 1, constantValue := 0 }, { name := "LOG2_ARRAY_BOOLEAN_INDEX_SCALE", type := .int, accessFlags := 25, slot := 2, constantValue := 0 }, { name := "LOG2_ARRAY_BYTE_INDEX_SCALE", type := .int, accessFlags := 25, slot := 3, constantValue := 0 }, { name := "LOG2_ARRAY_CHAR_INDEX_SCALE", type := .int, accessFlags := 25, slot := 4, constantValue := 0 }, { name := "LOG2_ARRAY_SHORT_INDEX_SCALE", type := .int, accessFlags := 25, slot := 5, constantValue := 0 }, { name := "LOG2_ARRAY_INT_INDEX_SCALE", type := .int, accessFlags := 25, slot := 6, constantValue := 0 }, { name := "LOG2_ARRAY_LONG_INDEX_SCALE", type := .int, accessFlags := 25, slot := 7, constantValue := 0 }, { name := "LOG2_ARRAY_FLOAT_INDEX_SCALE", type := .int, accessFlags := 25, slot := 8, constantValue := 0 }, { name := "LOG2_ARRAY_DOUBLE_INDEX_SCALE", type := .int, accessFlags := 25, slot := 9, constantValue := 0 }, { name := "LOG2_BYTE_BIT_SIZE", type := .int, accessFlags := 26, slot := 10, constantValue := 0 }, { name := "T_BOOLEAN", type := .int, accessFlags := 25, slot := 11, constantValue := 0 }, { name := "T_CHAR", type := .int, accessFlags := 25, slot := 12, constantValue := 0 }, { name := "T_FLOAT", type := .int, accessFlags := 25, slot := 13, constantValue := 0 }, { name := "T_DOUBLE", type := .int, accessFlags := 25, slot := 14, constantValue := 0 }, { name := "T_BYTE", type := .int, accessFlags := 25, slot := 15, constantValue := 0 }, { name := "T_SHORT", type := .int, accessFlags := 25, slot := 16, constantValue := 0 }, { name := "T_INT", type := .int, accessFlags := 25, slot := 17, constantValue := 0 }, { name := "T_LONG", type := .int, accessFlags := 25, slot := 18, constantValue := 0 }, { name := "JLA", type := (.object "jdk/internal/access/JavaLangAccess"), accessFlags := 26, slot := 19, constantValue := 0 }, { name := "SOFT_MAX_ARRAY_LENGTH", type := .int, accessFlags := 25, slot := 20, constantValue := 0 }]
  methods := #[k21m0]
  instanceTypes := #[]
  staticTypes := #[(.object "jdk/internal/misc/Unsafe"), .boolean, .int, .int, .int, .int, .int, .int, .int, .int, .int, .int, .int, .int, .int, .int, .int, .int, .int, (.object "jdk/internal/access/JavaLangAccess"), .int]
  resolved := Array.replicate 378 none
  statics := none }

/-- the primitive byte -/
def k22 : Class := { plain "byte" none with kind := .primitive 'B', accessFlags := 0x411 }
/-- [B -/
def k23 : Class := { plain "[B" (some 0) with kind := .array 22 .byte, interfaces := #[17, 2], accessFlags := 1041 }

/-- the primitive char -/
def k24 : Class := { plain "char" none with kind := .primitive 'C', accessFlags := 0x411 }
/-- [C -/
def k25 : Class := { plain "[C" (some 0) with kind := .array 24 .char, interfaces := #[17, 2], accessFlags := 1041 }

/-- the primitive int -/
def k26 : Class := { plain "int" none with kind := .primitive 'I', accessFlags := 0x411 }
/-- [I -/
def k27 : Class := { plain "[I" (some 0) with kind := .array 26 .int, interfaces := #[17, 2], accessFlags := 1041 }

/-- [Ljava/lang/Object; -/
def k28 : Class := { plain "[Ljava/lang/Object;" (some 0) with kind := .array 0 (.object "java/lang/Object"), interfaces := #[17, 2], accessFlags := 1041 }

/-- [Ljava/lang/String; -/
def k29 : Class := { plain "[Ljava/lang/String;" (some 0) with kind := .array 7 (.object "java/lang/String"), interfaces := #[17, 2], accessFlags := 1041 }

def heap : Heap := #[{ cls := 7, slots := #[.long 0, .int 1, .null, .int 0, .null, .int 0, .int 0], vm := .statics 7 },
  { cls := 18, slots := #[.long 0, .int 0, .ref 3, .ref 4], vm := .statics 18 },
  { cls := 20, slots := #[.null, .null, .null], vm := .statics 20 },
  { cls := 28, slots := #[], vm := .none },
  { cls := 28, slots := #[], vm := .none }]
def classes : Array Class := #[k0, k1, k2, k3, k4, k5, k6, k7, k8, k9, k10, k11, k12, k13, k14, k15, k16, k17, k18, k19, k20, k21, k22, k23, k24, k25, k26, k27, k28, k29]
def interned : List (Array UInt16 × Addr) := []
def slotsUsed : Nat := 14
def theMethod : MethodId := ⟨1, 1⟩
def args0 : Array Value := #[.int 5, .int 4, .int 3, .int 1]
def aboutOver (below : List Frame) : State where
  vm := { classes := classes, interned := interned.toArray }
  heap := heap
  slotsUsed := slotsUsed
  threads := #[{ frames := .invoking theMethod args0 :: below }]
def below0 : List Frame := [.native { method := ⟨0, 0⟩, args := #[] }]
def about1 : State := aboutOver below0
def p0 : Program := .bare "" "" ""
def e0 : Env := launch0.env 0 0 0
theorem w_frames : about1.frames = Frame.invoking theMethod args0 :: below0 := rfl
set_option maxRecDepth 65536 in
theorem w_args : argsFit about1.vm theMethod args0 = true := by decide +kernel
set_option maxRecDepth 65536 in
theorem w_heap : heapFits about1 = true := by decide +kernel
set_option maxRecDepth 65536 in
theorem w_runnable : about1.curStatus? = some .runnable := by decide +kernel
set_option maxRecDepth 65536 in
theorem w_alone : about1.alone = true := by decide +kernel
set_option maxRecDepth 65536 in
theorem w_named : about1.methodNamed? x = some theMethod := by decide +kernel
set_option maxRecDepth 65536 in
theorem w_hears : about1.hears theMethod below0 = true := by decide +kernel
set_option maxRecDepth 65536 in
theorem w_ripe : about1.ripe theMethod args0 below0 = true := by decide +kernel
theorem w_running : about1.status = .running := rfl
set_option maxRecDepth 65536 in
theorem w_room : about1.hasRoom e0.platform room_1 = true :=
  launch0.hasRoom_least _ room_1 (by decide +kernel) (by decide +kernel) (by decide +kernel) (by decide +kernel) (by decide +kernel) (by decide +kernel)
theorem allAtoms_all (ts : List Jvm.Cond) (a : Array Jvm.Value) (st : Jvm.State) : (allAtoms ts).before a st = ts.all (fun c => c.before a st) := by
  induction ts with
  | nil => rfl
  | cons c t ih =>
    show (Jvm.Cond.and c (allAtoms t)).before a st = _
    rw [Jvm.Cond.before_and, ih, List.all_cons]
def words1 : List Jvm.Cond := Jvm.Cond.code x code maxLocals ret :: tables_1
/-- a 'code' word, met by the world's own term for the bytes: nothing is compared byte by byte -/
theorem code_word {y : MethodName} {bytes : ByteArray} {mx : Nat} {rt : Option FieldType} {a : Array Value} {s : State} {m : MethodId} {meth : Method} {c : Code} (h1 : s.methodNamed? y = some m) (h2 : s.vm.method? m = some meth) (h3 : meth.code = some c) (h4 : c.code = bytes)
    (h5 : (c.maxLocals == mx && c.exceptionTable.isEmpty && decide (c.maxStack ≤ mostOperands) && decide (meth.sig.returnType = rt) && !meth.locks && decide (parseMethodDescriptor y.desc = some meth.sig)) = true) : (Jvm.Cond.code y bytes mx rt).before a s = true := by
  simp only [Bool.and_eq_true, beq_iff_eq, Bool.not_eq_true', decide_eq_true_eq] at h5
  obtain ⟨⟨⟨⟨⟨g1, g2⟩, g3⟩, g4⟩, g5⟩, g6⟩ := h5
  simp [Cond.before, Cond.holds, Cond.value, h1, h2, h3, h4, g1, g2, g3, g4, g5, g6]
def isCode : Jvm.Cond → Bool
  | .code _ _ _ _ => true
  | _ => false
theorem all_split {L : List Jvm.Cond} {P : Jvm.Cond → Bool} (h1 : L.all (fun c => isCode c || P c) = true) (h2 : ∀ c ∈ L.filter isCode, P c = true) : L.all P = true := by
  refine List.all_eq_true.mpr fun c hc => ?_
  have h := List.all_eq_true.mp h1 c hc
  rcases Bool.eq_false_or_eq_true (isCode c) with hi | hi
  · exact h2 c (List.mem_filter.mpr ⟨hc, hi⟩)
  · simpa [hi] using h
set_option maxRecDepth 65536 in
theorem w_c0 : (Jvm.Cond.code x code maxLocals ret).before args0 about1 = true := code_word (m := ⟨1, 1⟩) (meth := k1m1) (c := k1c1) (by decide +kernel) rfl rfl rfl (by decide +kernel)
set_option maxRecDepth 65536 in
theorem w_c1 : (Jvm.Cond.code ({ cls := "java/lang/String", name := "<init>", desc := "([C)V" } : Jvm.MethodName) jdk_42_method_3_code (2 : Nat) (Option.none : Option Jvm.ClassFile.FieldType)).before args0 about1 = true := code_word (m := ⟨7, 1⟩) (meth := k7m1) (c := k7c1) (by decide +kernel) rfl rfl rfl (by decide +kernel)
set_option maxRecDepth 65536 in
theorem w_c2 : (Jvm.Cond.code ({ cls := "java/lang/String", name := "<init>", desc := "([CIILjava/lang/Void;)V" } : Jvm.MethodName) jdk_42_method_149_code (6 : Nat) (Option.none : Option Jvm.ClassFile.FieldType)).before args0 about1 = true := code_word (m := ⟨7, 2⟩) (meth := k7m2) (c := k7c2) (by decide +kernel) rfl rfl rfl (by decide +kernel)
set_option maxRecDepth 65536 in
theorem w_c3 : (Jvm.Cond.code ({ cls := "java/lang/Object", name := "<init>", desc := "()V" } : Jvm.MethodName) object_method_1_code (1 : Nat) (Option.none : Option Jvm.ClassFile.FieldType)).before args0 about1 = true := code_word (m := ⟨0, 0⟩) (meth := k0m0) (c := k0c0) (by decide +kernel) rfl rfl rfl (by decide +kernel)
set_option maxRecDepth 65536 in
theorem w_c4 : (Jvm.Cond.code ({ cls := "java/lang/StringUTF16", name := "compress", desc := "([CII)[B" } : Jvm.MethodName) jdk_52_method_16_code (6 : Nat) (Option.some (Jvm.ClassFile.FieldType.array Jvm.ClassFile.FieldType.byte))).before args0 about1 = true := code_word (m := ⟨8, 2⟩) (meth := k8m2) (c := k8c2) (by decide +kernel) rfl rfl rfl (by decide +kernel)
set_option maxRecDepth 65536 in
theorem w_c5 : (Jvm.Cond.code ({ cls := "java/lang/StringUTF16", name := "compress", desc := "([CI[BII)I" } : Jvm.MethodName) jdk_52_method_21_code (7 : Nat) (Option.some Jvm.ClassFile.FieldType.int)).before args0 about1 = true := code_word (m := ⟨8, 3⟩) (meth := k8m3) (c := k8c3) (by decide +kernel) rfl rfl rfl (by decide +kernel)
set_option maxRecDepth 65536 in
theorem w_c6 : (Jvm.Cond.code ({ cls := "java/lang/StringUTF16", name := "coderFromArrayLen", desc := "([BI)B" } : Jvm.MethodName) jdk_52_method_15_code (2 : Nat) (Option.some Jvm.ClassFile.FieldType.byte)).before args0 about1 = true := code_word (m := ⟨8, 1⟩) (meth := k8m1) (c := k8c1) (by decide +kernel) rfl rfl rfl (by decide +kernel)
set_option maxRecDepth 65536 in
theorem w_c7 : (Jvm.Cond.code ({ cls := "com/example/chronocert/chronocert/cli/CommandLine", name := "<init>", desc := "([Ljava/lang/String;)V" } : Jvm.MethodName) prog_31_method_1_code (2 : Nat) (Option.none : Option Jvm.ClassFile.FieldType)).before args0 about1 = true := code_word (m := ⟨9, 0⟩) (meth := k9m0) (c := k9c0) (by decide +kernel) rfl rfl rfl (by decide +kernel)
set_option maxRecDepth 65536 in
theorem w_c8 : (Jvm.Cond.code ({ cls := "java/util/ArrayList", name := "<init>", desc := "()V" } : Jvm.MethodName) jdk_38_method_2_code (1 : Nat) (Option.none : Option Jvm.ClassFile.FieldType)).before args0 about1 = true := code_word (m := ⟨18, 0⟩) (meth := k18m0) (c := k18c0) (by decide +kernel) rfl rfl rfl (by decide +kernel)
set_option maxRecDepth 65536 in
theorem w_c9 : (Jvm.Cond.code ({ cls := "java/util/AbstractList", name := "<init>", desc := "()V" } : Jvm.MethodName) jdk_39_method_1_code (1 : Nat) (Option.none : Option Jvm.ClassFile.FieldType)).before args0 about1 = true := code_word (m := ⟨15, 0⟩) (meth := k15m0) (c := k15c0) (by decide +kernel) rfl rfl rfl (by decide +kernel)
set_option maxRecDepth 65536 in
theorem w_c10 : (Jvm.Cond.code ({ cls := "java/util/AbstractCollection", name := "<init>", desc := "()V" } : Jvm.MethodName) jdk_22_method_1_code (1 : Nat) (Option.none : Option Jvm.ClassFile.FieldType)).before args0 about1 = true := code_word (m := ⟨12, 0⟩) (meth := k12m0) (c := k12c0) (by decide +kernel) rfl rfl rfl (by decide +kernel)
set_option maxRecDepth 65536 in
theorem w_c11 : (Jvm.Cond.code ({ cls := "com/example/chronocert/chronocert/cli/CommandLine", name := "hasNext", desc := "()Z" } : Jvm.MethodName) prog_31_method_2_code (1 : Nat) (Option.some Jvm.ClassFile.FieldType.boolean)).before args0 about1 = true := code_word (m := ⟨9, 1⟩) (meth := k9m1) (c := k9c1) (by decide +kernel) rfl rfl rfl (by decide +kernel)
set_option maxRecDepth 65536 in
theorem w_c12 : (Jvm.Cond.code ({ cls := "com/example/chronocert/chronocert/cli/CommandLine", name := "next", desc := "()Ljava/lang/String;" } : Jvm.MethodName) prog_31_method_3_code (1 : Nat) (Option.some (Jvm.ClassFile.FieldType.object "java/lang/String"))).before args0 about1 = true := code_word (m := ⟨9, 2⟩) (meth := k9m2) (c := k9c2) (by decide +kernel) rfl rfl rfl (by decide +kernel)
set_option maxRecDepth 65536 in
theorem w_c13 : (Jvm.Cond.code ({ cls := "com/example/chronocert/chronocert/cli/CommandLine", name := "value", desc := "()Ljava/lang/String;" } : Jvm.MethodName) prog_31_method_4_code (1 : Nat) (Option.some (Jvm.ClassFile.FieldType.object "java/lang/String"))).before args0 about1 = true := code_word (m := ⟨9, 3⟩) (meth := k9m3) (c := k9c3) (by decide +kernel) rfl rfl rfl (by decide +kernel)
def codes1 : List Jvm.Cond := [Jvm.Cond.code x code maxLocals ret, Jvm.Cond.code ({ cls := "java/lang/String", name := "<init>", desc := "([C)V" } : Jvm.MethodName) jdk_42_method_3_code (2 : Nat) (Option.none : Option Jvm.ClassFile.FieldType), Jvm.Cond.code ({ cls := "java/lang/String", name := "<init>", desc := "([CIILjava/lang/Void;)V" } : Jvm.MethodName) jdk_42_method_149_code (6 : Nat) (Option.none : Option Jvm.ClassFile.FieldType), Jvm.Cond.code ({ cls := "java/lang/Object", name := "<init>", desc := "()V" } : Jvm.MethodName) object_method_1_code (1 : Nat) (Option.none : Option Jvm.ClassFile.FieldType), Jvm.Cond.code ({ cls := "java/lang/StringUTF16", name := "compress", desc := "([CII)[B" } : Jvm.MethodName) jdk_52_method_16_code (6 : Nat) (Option.some (Jvm.ClassFile.FieldType.array Jvm.ClassFile.FieldType.byte)), Jvm.Cond.code ({ cls := "java/lang/StringUTF16", name := "compress", desc := "([CI[BII)I" } : Jvm.MethodName) jdk_52_method_21_code (7 : Nat) (Option.some Jvm.ClassFile.FieldType.int), Jvm.Cond.code ({ cls := "java/lang/StringUTF16", name := "coderFromArrayLen", desc := "([BI)B" } : Jvm.MethodName) jdk_52_method_15_code (2 : Nat) (Option.some Jvm.ClassFile.FieldType.byte), Jvm.Cond.code ({ cls := "com/example/chronocert/chronocert/cli/CommandLine", name := "<init>", desc := "([Ljava/lang/String;)V" } : Jvm.MethodName) prog_31_method_1_code (2 : Nat) (Option.none : Option Jvm.ClassFile.FieldType), Jvm.Cond.code ({ cls := "java/util/ArrayList", name := "<init>", desc := "()V" } : Jvm.MethodName) jdk_38_method_2_code (1 : Nat) (Option.none : Option Jvm.ClassFile.FieldType), Jvm.Cond.code ({ cls := "java/util/AbstractList", name := "<init>", desc := "()V" } : Jvm.MethodName) jdk_39_method_1_code (1 : Nat) (Option.none : Option Jvm.ClassFile.FieldType), Jvm.Cond.code ({ cls := "java/util/AbstractCollection", name := "<init>", desc := "()V" } : Jvm.MethodName) jdk_22_method_1_code (1 : Nat) (Option.none : Option Jvm.ClassFile.FieldType), Jvm.Cond.code ({ cls := "com/example/chronocert/chronocert/cli/CommandLine", name := "hasNext", desc := "()Z" } : Jvm.MethodName) prog_31_method_2_code (1 : Nat) (Option.some Jvm.ClassFile.FieldType.boolean), Jvm.Cond.code ({ cls := "com/example/chronocert/chronocert/cli/CommandLine", name := "next", desc := "()Ljava/lang/String;" } : Jvm.MethodName) prog_31_method_3_code (1 : Nat) (Option.some (Jvm.ClassFile.FieldType.object "java/lang/String")), Jvm.Cond.code ({ cls := "com/example/chronocert/chronocert/cli/CommandLine", name := "value", desc := "()Ljava/lang/String;" } : Jvm.MethodName) prog_31_method_4_code (1 : Nat) (Option.some (Jvm.ClassFile.FieldType.object "java/lang/String"))]
set_option maxRecDepth 65536 in
theorem codes_eq : words1.filter isCode = codes1 := rfl
theorem w_codes : ∀ c ∈ words1.filter isCode, c.before args0 about1 = true := by
  rw [codes_eq]
  intro c hc
  simp only [codes1, List.mem_cons, List.not_mem_nil, or_false] at hc
  rcases hc with rfl | rfl | rfl | rfl | rfl | rfl | rfl | rfl | rfl | rfl | rfl | rfl | rfl | rfl
  · exact w_c0
  · exact w_c1
  · exact w_c2
  · exact w_c3
  · exact w_c4
  · exact w_c5
  · exact w_c6
  · exact w_c7
  · exact w_c8
  · exact w_c9
  · exact w_c10
  · exact w_c11
  · exact w_c12
  · exact w_c13
set_option maxRecDepth 65536 in
theorem w_t1 : (words1.take 24).all (fun c => isCode c || c.before args0 about1) = true := by decide +kernel
set_option maxRecDepth 65536 in
theorem w_t2 : ((words1.drop 24).take 24).all (fun c => isCode c || c.before args0 about1) = true := by decide +kernel
set_option maxRecDepth 65536 in
theorem w_t3 : (((words1.drop 24).drop 24).take 24).all (fun c => isCode c || c.before args0 about1) = true := by decide +kernel
set_option maxRecDepth 65536 in
theorem w_t4 : (((words1.drop 24).drop 24).drop 24).all (fun c => isCode c || c.before args0 about1) = true := by decide +kernel
theorem w_tables : (allAtoms (Jvm.Cond.code x code maxLocals ret :: tables_1)).before args0 about1 = true := by
  rw [allAtoms_all]
  show words1.all (fun c => c.before args0 about1) = true
  refine all_split ?_ w_codes
  rw [← List.take_append_drop 24 words1, List.all_append, w_t1, ← List.take_append_drop 24 (words1.drop 24), List.all_append, w_t2, ← List.take_append_drop 24 ((words1.drop 24).drop 24), List.all_append, w_t3, w_t4]
  rfl
set_option maxRecDepth 65536 in
theorem w_rest : rest_1_c.before args0 about1 = true := by decide +kernel
set_option maxRecDepth 65536 in
theorem w_case : (Jvm.Cond.and given_1 narrow_1).before args0 about1 = true := by decide +kernel
theorem w_applies : (headSpec (Jvm.Cond.code x code maxLocals ret :: tables_1) room_1).applies x e0.platform about1 = true :=
  (Spec.applies_iff w_frames).mpr ⟨w_running, w_runnable, w_alone, w_named, w_hears, w_ripe, w_room, w_tables⟩
theorem atStart : AtStart classFile x code maxLocals ret World_1 tables_1 room_1 Calls_1 rest_1 Pre_1 launch0 p0 e0 about1 theMethod args0 below0 :=
  ⟨lists_1, trivial, launch0.admits_env _ _ _, launch0.least_env, fairChoices_fair.cas, fairChoices_fair.clock, w_frames, w_args, w_heap, w_applies, trivial, w_rest, w_case⟩
end start1
theorem witness_1 : WitnessClaimed_1 := ⟨start1.p0, start1.e0, start1.about1, start1.theMethod, start1.args0, start1.below0, start1.atStart⟩
end Jvm.Pilot.@@N@@
