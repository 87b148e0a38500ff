import JvmDerived
import JvmDerived.Pilot.@@N@@Statement
import JvmDerived.Pilot.@@N@@Code
set_option linter.unusedVariables false
set_option linter.unusedSimpArgs false
namespace Jvm.RoadKit
open Sem ClassFile Op Lib Jvm.Stand Jvm.Free Jvm.LawKit
section New
variable {p : Program} {l : Launch} {e : Env} {R : Room} {s : State} {m : MethodId} {args : Array Value} {below : List Frame} {meth : Method} {c : Code} {T : State} {locs : List Loc} {cells slots : Nat}
theorem retI (X : Stand p l e R s m args below meth c T locs cells slots) (hx : p.tables.exec = Jvm.exec) {pc : Nat} {Ls : Array Slot} {z : Int32} {rest : List Value} (hret : meth.sig.returnType = some .int) (hd : decode c.code pc = .ok (.ireturn, 1)) {fs : List Frame}
    (hl : ∀ (f : JFrame) (acts : List Action), f.method = m → f.locked = none → f.entered = [] → (doReturn e (T.setTop f) acts (some (.int z))).1 = T.setFrames fs) : Steps p.tables e below (T.setTop (mkF m pc Ls (.int z :: rest))) (T.setFrames fs) := by
  have hm' : T.vm.method? m = some meth := X.method'
  have hn : narrow .int (.int z) = .int z := rfl
  show Steps p.tables e below (T.setTop { method := m, pc := pc, locals := Ls, stack := _ :: rest, locked := none }) _
  jvm_step X.here [X.here.top, hx, hd, hm', hret, hn]
  first | (intro acts; rw [hl _ acts rfl rfl rfl]) | rw [hl _ _ rfl rfl rfl]
  exact Steps.refl _
theorem retD (X : Stand p l e R s m args below meth c T locs cells slots) (hx : p.tables.exec = Jvm.exec) {pc : Nat} {Ls : Array Slot} {z : UInt64} {rest : List Value} (hret : meth.sig.returnType = some .double) (hd : decode c.code pc = .ok (.dreturn, 1)) {fs : List Frame}
    (hl : ∀ (f : JFrame) (acts : List Action), f.method = m → f.locked = none → f.entered = [] → (doReturn e (T.setTop f) acts (some (.double z))).1 = T.setFrames fs) : Steps p.tables e below (T.setTop (mkF m pc Ls (.double z :: rest))) (T.setFrames fs) := by
  have hm' : T.vm.method? m = some meth := X.method'
  have hn : narrow .double (.double z) = .double z := rfl
  show Steps p.tables e below (T.setTop { method := m, pc := pc, locals := Ls, stack := _ :: rest, locked := none }) _
  jvm_step X.here [X.here.top, hx, hd, hm', hret, hn]
  first | (intro acts; rw [hl _ acts rfl rfl rfl]) | rw [hl _ _ rfl rfl rfl]
  exact Steps.refl _
end New
end Jvm.RoadKit
/- laws to paste: Road.backV, Road.eqW, Road.codOf (cut by pick.py; bodies as the Statement names them) -/
namespace Jvm.Pilot.@@N@@
namespace StrChars
open Jvm Sem ClassFile Op Lib Jvm.Stand Jvm.Free.XT Jvm.Free.ALB Jvm.Free.JM Jvm.Free
open Jvm.Lib.Cold (StaticIs)
/-- a char array whose places are chars -/
def Ch (a : Addr) (A : Cell) (U : State) : Prop := Arr .char a A U ∧ Typed .char A
theorem Ch.mv {a : Addr} {A : Cell} {U U' : State} (h : Ch a A U) (hal : U.vm.Alike U'.vm) (hh : U'.heap = U.heap) : Ch a A U' := ⟨h.1.mv hal hh, h.2⟩
theorem Ch.keep {a : Addr} {A : Cell} {U U' : State} (h : Ch a A U) (hal : U.vm.Alike U'.vm) (hk : U'.heap[a]? = some A) : Ch a A U' := ⟨h.1.keep hal hk, h.2⟩
/-- what place i of a char[]'s cell holds -/
def cv (A : Cell) (i : Nat) : Int32 := match A.slots[i]? with | some (.int x) => x | _ => 0
theorem Ch.get {a : Addr} {A : Cell} {U : State} (h : Ch a A U) {i : Nat} (hi : i < A.slots.size) : A.slots[i]? = some (.int (cv A i)) := by
  have e := Array.getElem?_eq_getElem hi
  have f := h.2 i _ e
  unfold cv; rw [e]
  generalize A.slots[i] = v at f
  cases v <;> simp [fits] at f ⊢
/-- the byte that i2b leaves of a char -/
def lo8 (x : Int32) : Int32 := x.toInt8.toInt32
theorem fits_lo8 (y : Int32) : fits .byte (.int (lo8 y)) = true := by
  have h1 := y.toInt8.le_toInt
  have h2 := y.toInt8.toInt_lt
  simp only [lo8, fits, Bool.and_eq_true, decide_eq_true_eq, Int32.le_iff_toInt_le, Int8.toInt_toInt32, show (-128 : Int32).toInt = -128 from by decide, show (127 : Int32).toInt = 127 from by decide]
  omega
/-- A' is A but that each place j of lo .. hi - 1 holds f j -/
def Laid (A A' : Cell) (lo hi : Nat) (f : Nat → Value) : Prop := A'.cls = A.cls ∧ A'.vm = A.vm ∧ A'.slots.size = A.slots.size ∧ ∀ i, A'.slots[i]? = if lo ≤ i ∧ i < hi then some (f i) else A.slots[i]?
theorem Laid.zero (A : Cell) (lo : Nat) (f : Nat → Value) : Laid A A lo (lo + 0) f := ⟨rfl, rfl, rfl, fun i => by rw [if_neg (by omega)]⟩
theorem Laid.step {A Ak : Cell} {lo k : Nat} {f : Nat → Value} {v : Value} (h : Laid A Ak lo k f) (hlo : lo ≤ k) (hk : k < Ak.slots.size) (hv : v = f k) : Laid A (Ak.setSlot k v) lo (k + 1) f := by
  refine ⟨h.1, h.2.1, by simpa [Cell.setSlot] using h.2.2.1, fun i => ?_⟩
  by_cases e : k = i
  · subst e; rw [Cell.slots_setSlot_self v hk, if_pos (by omega), hv]
  · rw [Cell.slots_setSlot_ne v e, h.2.2.2 i]
    by_cases q : lo ≤ i ∧ i < k
    · rw [if_pos q, if_pos (by omega)]
    · rw [if_neg q, if_neg (by omega)]
def U16 : String := "java/lang/StringUTF16"
namespace Cmp5
def yN : MethodName := ⟨"java/lang/StringUTF16", "compress", "([CI[BII)I"⟩
abbrev yB : ByteArray := jdk_52_method_21_code
theorem d0 : decode yB 0 = .ok (.iconst 0, 1) := by decide +kernel
theorem d1 : decode yB 1 = .ok (.istore 5, 2) := by decide +kernel
theorem d3 : decode yB 3 = .ok (.iload 5, 2) := by decide +kernel
theorem d5 : decode yB 5 = .ok (.iload 4, 2) := by decide +kernel
theorem d7 : decode yB 7 = .ok (.if_icmp (.ge) 37, 3) := by decide +kernel
theorem d10 : decode yB 10 = .ok (.aload_n 0, 1) := by decide +kernel
theorem d11 : decode yB 11 = .ok (.iload_n 1, 1) := by decide +kernel
theorem d12 : decode yB 12 = .ok (.caload, 1) := by decide +kernel
theorem d13 : decode yB 13 = .ok (.istore 6, 2) := by decide +kernel
theorem d15 : decode yB 15 = .ok (.iload 6, 2) := by decide +kernel
theorem d17 : decode yB 17 = .ok (.sipush 255, 3) := by decide +kernel
theorem d20 : decode yB 20 = .ok (.if_icmp (.le) 6, 3) := by decide +kernel
theorem d26 : decode yB 26 = .ok (.aload_n 2, 1) := by decide +kernel
theorem d27 : decode yB 27 = .ok (.iload_n 3, 1) := by decide +kernel
theorem d28 : decode yB 28 = .ok (.iload 6, 2) := by decide +kernel
theorem d30 : decode yB 30 = .ok (.i2b, 1) := by decide +kernel
theorem d31 : decode yB 31 = .ok (.bastore, 1) := by decide +kernel
theorem d32 : decode yB 32 = .ok (.iinc 1 1, 3) := by decide +kernel
theorem d35 : decode yB 35 = .ok (.iinc 3 1, 3) := by decide +kernel
theorem d38 : decode yB 38 = .ok (.iinc 5 1, 3) := by decide +kernel
theorem d41 : decode yB 41 = .ok (.goto (-38), 3) := by decide +kernel
theorem d44 : decode yB 44 = .ok (.iload 4, 2) := by decide +kernel
theorem d46 : decode yB 46 = .ok (.ireturn, 1) := by decide +kernel
def site : List Cond := []
def tab : Cond := tabOf yN yB 7 (some .int) site
def P (b : Addr) (A : Cell) (d : Addr) (B : Cell) (o q len : Nat) (args : Array Value) (s : State) : Prop := args = #[.ref b, .int (Int32.ofNat o), .ref d, .int (Int32.ofNat q), .int (Int32.ofNat len)] ∧ Ch b A s ∧ Arr .byte d B s ∧ b ≠ d ∧ o + len ≤ A.slots.size ∧ q + len ≤ B.slots.size ∧ ∀ i, i < len → ¬ 255 < cv A (o + i)
def E (b : Addr) (A : Cell) (d : Addr) (B : Cell) (o q len : Nat) (r : Option Value) (s u : State) : Prop := r = some (.int (Int32.ofNat len)) ∧ ∃ B', Put d B' s u ∧ Laid B B' q (q + len) (fun j => Value.int (lo8 (cv A (o + (j - q)))))
/-- no char of the range above 255: len; the places written hold each char's low byte -/
theorem law (l : Launch) (b : Addr) (A : Cell) (d : Addr) (B : Cell) (o q len : Nat) : Law l yN 5 5 0 0 yB 7 (some .int) site (P b A d B o q len) (E b A d B o q len) (copyLocs d q len) 0 0 := by
  refine Law.of_walk (plainFor_of_name (by decide +kernel)) (by decide +kernel) (by decide +kernel) (by decide) (fun _ _ h => by rw [h.1]; rfl) (fun _ U U' hal hh h => ⟨h.1, h.2.1.mv hal hh, h.2.2.1.mv hal hh, h.2.2.2⟩) (fun r U U' V V' h1 hal h2 h => ⟨h.1, h.2.elim fun B' q => ⟨B', q.1.mv h1 h2, q.2⟩⟩) ?_
  intro p e s m args below meth c s₁ X0 hexec hbytes hml hret hlk hnm hown hh0 W hP
  obtain ⟨rfl, hA, hB, hne, l1, l2, hp⟩ := hP
  have c1 : Steps p.tables e below (s₁.setTop (entryFrame m #[.ref b, .int (Int32.ofNat o), .ref d, .int (Int32.ofNat q), .int (Int32.ofNat len)] 7)) (s₁.setTop (mkF m 0 #[.val (.ref b), .val (.int (Int32.ofNat o)), .val (.ref d), .val (.int (Int32.ofNat q)), .val (.int (Int32.ofNat len)), .unset, .unset] [])) := entry rfl
  have hA0 := hA.1.mv X0.warmed.alike hh0
  have hB0 := hB.mv X0.warmed.alike hh0
  have a31 := hA.1.2.2.2
  have c2 : Steps p.tables e below (s₁.setTop (entryFrame m #[.ref b, .int (Int32.ofNat o), .ref d, .int (Int32.ofNat q), .int (Int32.ofNat len)] 7)) (s₁.setTop (mkF m 3 #[.val (.ref b), .val (.int (Int32.ofNat o)), .val (.ref d), .val (.int (Int32.ofNat q)), .val (.int (Int32.ofNat len)), .val (.int 0), .unset] [])) := c1.trans (by
    refine iconstV X0.here hexec rfl 0 (hb hbytes d0) (by decide) ?_
    refine XS.istore X0.here hexec rfl (hb hbytes d1) rfl rfl ?_
    exact Steps.refl _)
  have loop : ∀ (r i : Nat), i + r = len → ∀ (z : Slot), (z = .unset ∨ ∃ w, z = .val w ∧ w.category = 1) → ∀ (Tl : State) (Bk : Cell), Stand p l e { frames := 0, locals := 0, cells := 0, slots := 0 } s m #[.ref b, .int (Int32.ofNat o), .ref d, .int (Int32.ofNat q), .int (Int32.ofNat len)] below meth c Tl ([] ++ copyLocs d q i) 0 0 → Put d Bk s₁ Tl → Laid B Bk q (q + i) (fun j => Value.int (lo8 (cv A (o + (j - q))))) →
      Steps p.tables e below (s₁.setTop (entryFrame m #[.ref b, .int (Int32.ofNat o), .ref d, .int (Int32.ofNat q), .int (Int32.ofNat len)] 7)) (Tl.setTop (mkF m 3 #[.val (.ref b), .val (.int (Int32.ofNat (o + i))), .val (.ref d), .val (.int (Int32.ofNat (q + i))), .val (.int (Int32.ofNat len)), .val (.int (Int32.ofNat i)), z] [])) → ∃ (T' : State) (B' : Cell) (z' : Slot), Stand p l e { frames := 0, locals := 0, cells := 0, slots := 0 } s m #[.ref b, .int (Int32.ofNat o), .ref d, .int (Int32.ofNat q), .int (Int32.ofNat len)] below meth c T' ([] ++ copyLocs d q len) 0 0 ∧ Put d B' s₁ T' ∧ Laid B B' q (q + len) (fun j => Value.int (lo8 (cv A (o + (j - q))))) ∧
      Steps p.tables e below (s₁.setTop (entryFrame m #[.ref b, .int (Int32.ofNat o), .ref d, .int (Int32.ofNat q), .int (Int32.ofNat len)] 7)) (T'.setTop (mkF m 3 #[.val (.ref b), .val (.int (Int32.ofNat (o + len))), .val (.ref d), .val (.int (Int32.ofNat (q + len))), .val (.int (Int32.ofNat len)), .val (.int (Int32.ofNat len)), z'] [])) := by
    intro r
    induction r with
    | zero =>
      intro i hi z hz Tl Bk Xl pl fl cl
      have hil : i = len := by omega
      rw [hil] at Xl fl cl
      exact ⟨Tl, Bk, z, Xl, pl, fl, cl⟩
    | succ r ih =>
      intro i hi z hz Tl Bk Xl pl fl cl
      have all := X0.warmed.alike.symm.trans Xl.warmed.alike
      have hAl := hA0.keep all (pl.other hne hA0.1)
      have hBk := hB0.like all pl.1 fl.1 fl.2.1 fl.2.2.1
      have hlt : q + i < Bk.slots.size := by rw [fl.2.2.1]; omega
      have c3 : Steps p.tables e below (s₁.setTop (entryFrame m #[.ref b, .int (Int32.ofNat o), .ref d, .int (Int32.ofNat q), .int (Int32.ofNat len)] 7)) (Tl.setTop (mkF m 12 #[.val (.ref b), .val (.int (Int32.ofNat (o + i))), .val (.ref d), .val (.int (Int32.ofNat (q + i))), .val (.int (Int32.ofNat len)), .val (.int (Int32.ofNat i)), z] [.int (Int32.ofNat (o + i)), .ref b])) := cl.trans (by
        refine XS.iload Xl.here hexec rfl (hb hbytes d3) rfl ?_
        refine XS.iload Xl.here hexec rfl (hb hbytes d5) rfl ?_
        refine XS.icmpNo Xl.here hexec rfl (hb hbytes d7) rfl (ii_ge_f (lt32 (by omega) (by omega))) ?_
        refine XS.aloadN Xl.here hexec rfl (hb hbytes d10) rfl rfl ?_
        refine XS.iloadN Xl.here hexec rfl (hb hbytes d11) rfl ?_
        exact Steps.refl _)
      have c4 : Steps p.tables e below (s₁.setTop (entryFrame m #[.ref b, .int (Int32.ofNat o), .ref d, .int (Int32.ofNat q), .int (Int32.ofNat len)] 7)) (Tl.setTop (mkF m 13 #[.val (.ref b), .val (.int (Int32.ofNat (o + i))), .val (.ref d), .val (.int (Int32.ofNat (q + i))), .val (.int (Int32.ofNat len)), .val (.int (Int32.ofNat i)), z] [.int (cv A (o + i))])) := c3.trans (by
        refine Xl.aget hexec hAl rfl (hA.get (i := o + i) (by omega)) rfl rfl (hb hbytes d12) ?_
        exact Steps.refl _)
      have c5 : Steps p.tables e below (s₁.setTop (entryFrame m #[.ref b, .int (Int32.ofNat o), .ref d, .int (Int32.ofNat q), .int (Int32.ofNat len)] 7)) (Tl.setTop (mkF m 15 #[.val (.ref b), .val (.int (Int32.ofNat (o + i))), .val (.ref d), .val (.int (Int32.ofNat (q + i))), .val (.int (Int32.ofNat len)), .val (.int (Int32.ofNat i)), .val (.int (cv A (o + i)))] [])) := c4.trans (by
        refine XS.istoreS Xl.here hexec rfl (hb hbytes d13) rfl rfl hz ?_
        exact Steps.refl _)
      have c6 : Steps p.tables e below (s₁.setTop (entryFrame m #[.ref b, .int (Int32.ofNat o), .ref d, .int (Int32.ofNat q), .int (Int32.ofNat len)] 7)) (Tl.setTop (mkF m 31 #[.val (.ref b), .val (.int (Int32.ofNat (o + i))), .val (.ref d), .val (.int (Int32.ofNat (q + i))), .val (.int (Int32.ofNat len)), .val (.int (Int32.ofNat i)), .val (.int (cv A (o + i)))] [.int (lo8 (cv A (o + i))), .int (Int32.ofNat (q + i)), .ref d])) := c5.trans (by
        refine XS.iload Xl.here hexec rfl (hb hbytes d15) rfl ?_
        refine sipushV Xl.here hexec rfl 255 (hb hbytes d17) (by decide) ?_
        refine XS.icmpYes Xl.here hexec rfl (pc0 := 20) rfl (hb hbytes d20) rfl (ii_le_t (hp i (by omega))) (by decide) rfl ?_
        refine XS.aloadN Xl.here hexec rfl (hb hbytes d26) rfl rfl ?_
        refine XS.iloadN Xl.here hexec rfl (hb hbytes d27) rfl ?_
        refine XS.iload Xl.here hexec rfl (hb hbytes d28) rfl ?_
        refine i2b Xl.here hexec rfl (hb hbytes d30) rfl ?_
        exact Steps.refl _)
      obtain ⟨T7, X7, p7, st7⟩ := Xl.aput hexec hBk rfl hlt rfl (fits_lo8 (cv A (o + i))) (g := (mkF m 31 #[.val (.ref b), .val (.int (Int32.ofNat (o + i))), .val (.ref d), .val (.int (Int32.ofNat (q + i))), .val (.int (Int32.ofNat len)), .val (.int (Int32.ofNat i)), .val (.int (cv A (o + i)))] [.int (lo8 (cv A (o + i))), .int (Int32.ofNat (q + i)), .ref d])) rfl (rest := []) rfl (hb hbytes d31)
      have c8 : Steps p.tables e below (s₁.setTop (entryFrame m #[.ref b, .int (Int32.ofNat o), .ref d, .int (Int32.ofNat q), .int (Int32.ofNat len)] 7)) (T7.setTop (mkF m 32 #[.val (.ref b), .val (.int (Int32.ofNat (o + i))), .val (.ref d), .val (.int (Int32.ofNat (q + i))), .val (.int (Int32.ofNat len)), .val (.int (Int32.ofNat i)), .val (.int (cv A (o + i)))] [])) := c6.trans (st7 _ (Steps.refl _))
      have c9 : Steps p.tables e below (s₁.setTop (entryFrame m #[.ref b, .int (Int32.ofNat o), .ref d, .int (Int32.ofNat q), .int (Int32.ofNat len)] 7)) (T7.setTop (mkF m 3 #[.val (.ref b), .val (.int (Int32.ofNat (o + i) + 1)), .val (.ref d), .val (.int (Int32.ofNat (q + i) + 1)), .val (.int (Int32.ofNat len)), .val (.int (Int32.ofNat i + 1)), .val (.int (cv A (o + i)))] [])) := c8.trans (by
        refine iincV X7.here hexec rfl 1 (hb hbytes d32) (by decide) rfl rfl ?_
        refine iincV X7.here hexec rfl 1 (hb hbytes d35) (by decide) rfl rfl ?_
        refine iincV X7.here hexec rfl 1 (hb hbytes d38) (by decide) rfl rfl ?_
        refine XS.goto X7.here hexec rfl (pc0 := 41) rfl (hb hbytes d41) (by decide) rfl ?_
        exact Steps.refl _)
      have c10 : Steps p.tables e below (s₁.setTop (entryFrame m #[.ref b, .int (Int32.ofNat o), .ref d, .int (Int32.ofNat q), .int (Int32.ofNat len)] 7)) (T7.setTop (mkF m 3 #[.val (.ref b), .val (.int (Int32.ofNat (o + (i + 1)))), .val (.ref d), .val (.int (Int32.ofNat (q + (i + 1)))), .val (.int (Int32.ofNat len)), .val (.int (Int32.ofNat (i + 1))), .val (.int (cv A (o + i)))] [])) := by
        have := c9
        rw [succ32, succ32, succ32] at this
        exact this
      exact ih (i + 1) (by omega) _ (Or.inr ⟨_, rfl, rfl⟩) T7 _ (by rw [copyLocs_step, ← List.append_assoc]; exact X7) (pl.trans p7) (fl.step (by omega) hlt (by simp)) c10
  obtain ⟨T9, B9, z9, X9, p9, f9, g9⟩ := loop len 0 (by omega) .unset (Or.inl rfl) s₁ B (by simpa [copyLocs] using X0) ⟨hB0.1, fun _ _ => rfl, rfl⟩ (Laid.zero _ _ _) c2
  have c11 : Steps p.tables e below (s₁.setTop (entryFrame m #[.ref b, .int (Int32.ofNat o), .ref d, .int (Int32.ofNat q), .int (Int32.ofNat len)] 7)) (T9.setTop (mkF m 46 #[.val (.ref b), .val (.int (Int32.ofNat (o + len))), .val (.ref d), .val (.int (Int32.ofNat (q + len))), .val (.int (Int32.ofNat len)), .val (.int (Int32.ofNat len)), z9] [.int (Int32.ofNat len)])) := g9.trans (by
    refine XS.iload X9.here hexec rfl (hb hbytes d3) rfl ?_
    refine XS.iload X9.here hexec rfl (hb hbytes d5) rfl ?_
    refine XS.icmpYes X9.here hexec rfl (pc0 := 7) rfl (hb hbytes d7) rfl (ii_ge_t (nlt32 (by omega) (Nat.le_refl _))) (by decide) rfl ?_
    refine XS.iload X9.here hexec rfl (hb hbytes d44) rfl ?_
    exact Steps.refl _)
  exact ⟨T9, some (.int (Int32.ofNat len)), _, _, _, X9, by simp, rfl, rfl, (fun h => by cases h), ⟨rfl, B9, p9.from hh0, f9⟩, fun fs hl => c11.trans (X9.ireturnOut hexec hret rfl (Or.inl rfl) (hb hbytes d46) hl)⟩
end Cmp5
namespace Cmp3
def yN : MethodName := ⟨"java/lang/StringUTF16", "compress", "([CII)[B"⟩
abbrev yB : ByteArray := jdk_52_method_16_code
theorem d0 : decode yB 0 = .ok (.iload_n 2, 1) := by decide +kernel
theorem d1 : decode yB 1 = .ok (.newarray .byte, 2) := by decide +kernel
theorem d3 : decode yB 3 = .ok (.astore_n 3, 1) := by decide +kernel
theorem d4 : decode yB 4 = .ok (.aload_n 0, 1) := by decide +kernel
theorem d5 : decode yB 5 = .ok (.iload_n 1, 1) := by decide +kernel
theorem d6 : decode yB 6 = .ok (.aload_n 3, 1) := by decide +kernel
theorem d7 : decode yB 7 = .ok (.iconst 0, 1) := by decide +kernel
theorem d8 : decode yB 8 = .ok (.iload_n 2, 1) := by decide +kernel
theorem d9 : decode yB 9 = .ok (.invokestatic 115, 3) := by decide +kernel
theorem d12 : decode yB 12 = .ok (.istore 4, 2) := by decide +kernel
theorem d14 : decode yB 14 = .ok (.iload 4, 2) := by decide +kernel
theorem d16 : decode yB 16 = .ok (.iload_n 2, 1) := by decide +kernel
theorem d17 : decode yB 17 = .ok (.if_icmp (.eq) 40, 3) := by decide +kernel
theorem d57 : decode yB 57 = .ok (.aload_n 3, 1) := by decide +kernel
theorem d58 : decode yB 58 = .ok (.areturn, 1) := by decide +kernel
def site : List Cond := [.arrayClass .byte, Cmp5.tab] ++ staticW U16 115 Cmp5.yN
def tab : Cond := tabOf yN yB 6 (some (.array .byte)) site
def P (b : Addr) (A : Cell) (o len : Nat) (args : Array Value) (s : State) : Prop := args = #[.ref b, .int (Int32.ofNat o), .int (Int32.ofNat len)] ∧ Ch b A s ∧ o + len ≤ A.slots.size ∧ len ≤ 536870912 ∧ ∀ i, i < len → ¬ 255 < cv A (o + i)
def E (b : Addr) (A : Cell) (o len : Nat) (r : Option Value) (s u : State) : Prop := NewArr .byte "[B" len (fun j => .int (lo8 (cv A (o + j)))) r s u ∧ u.heap.size = s.heap.size + 1
/-- no char of the range above 255: a new byte[] of their low bytes -/
theorem law (l : Launch) (b : Addr) (A : Cell) (o len : Nat) : Law l yN 3 3 1 18 yB 6 (some (.array .byte)) site (P b A o len) (E b A o len) [] 1 len := by
  refine Law.of_walk (plainFor_of_name (by decide +kernel)) (by decide +kernel) (by decide +kernel) (by decide) (fun _ _ h => by rw [h.1]; rfl) (fun _ U U' hal hh h => ⟨h.1, h.2.1.mv hal hh, h.2.2⟩) (fun r U U' V V' h1 hal h2 h => ⟨NewArr.mv r U U' V V' h1 hal h2 h.1, by rw [h1, h2]; exact h.2⟩) ?_
  intro p e s m args below meth c s₁ X0 hexec hbytes hml hret hlk hnm hown hh0 W hP
  obtain ⟨rfl, hA, l1, l2, hp⟩ := hP
  have a31 := hA.1.2.2.2
  have c1 : Steps p.tables e below (s₁.setTop (entryFrame m #[.ref b, .int (Int32.ofNat o), .int (Int32.ofNat len)] 6)) (s₁.setTop (mkF m 0 #[.val (.ref b), .val (.int (Int32.ofNat o)), .val (.int (Int32.ofNat len)), .unset, .unset, .unset] [])) := entry rfl
  have c2 : Steps p.tables e below (s₁.setTop (entryFrame m #[.ref b, .int (Int32.ofNat o), .int (Int32.ofNat len)] 6)) (s₁.setTop (mkF m 1 #[.val (.ref b), .val (.int (Int32.ofNat o)), .val (.int (Int32.ofNat len)), .unset, .unset, .unset] [.int (Int32.ofNat len)])) := c1.trans (by
    refine XS.iloadN X0.here hexec rfl (hb hbytes d0) rfl ?_
    exact Steps.refl _)
  obtain ⟨T3, B3, X3, ba3, bs3, bv3, bh3, bf3, st3⟩ := X0.anew hexec (atype := .byte) (wk W (.arrayClass .byte)) rfl (by show len * 1 ≤ _; omega) (by omega) (g := (mkF m 1 #[.val (.ref b), .val (.int (Int32.ofNat o)), .val (.int (Int32.ofNat len)), .unset, .unset, .unset] [.int (Int32.ofNat len)])) rfl (hb hbytes d1) (rest := []) rfl (Nat.le_refl _) (by show 0 + len ≤ len; omega)
  rw [hh0] at ba3 st3
  have kp3 : XT.Kept s T3 := (XT.Kept.of_eq hh0).push bh3
  have hA3 := hA.keep X3.warmed.alike (kp3 _ _ hA.1.1)
  have hne : b ≠ s.heap.size := hA.1.ne
  have c4 : Steps p.tables e below (s₁.setTop (entryFrame m #[.ref b, .int (Int32.ofNat o), .int (Int32.ofNat len)] 6)) (T3.setTop (mkF m 3 #[.val (.ref b), .val (.int (Int32.ofNat o)), .val (.int (Int32.ofNat len)), .unset, .unset, .unset] [.ref s.heap.size])) := c2.trans (st3 _ (Steps.refl _))
  have c5 : Steps p.tables e below (s₁.setTop (entryFrame m #[.ref b, .int (Int32.ofNat o), .int (Int32.ofNat len)] 6)) (T3.setTop (mkF m 9 #[.val (.ref b), .val (.int (Int32.ofNat o)), .val (.int (Int32.ofNat len)), .val (.ref s.heap.size), .unset, .unset] [.int (Int32.ofNat len), .int 0, .ref s.heap.size, .int (Int32.ofNat o), .ref b])) := c4.trans (by
    refine XS.astoreN X3.here hexec rfl (hb hbytes d3) rfl rfl rfl ?_
    refine XS.aloadN X3.here hexec rfl (hb hbytes d4) rfl rfl ?_
    refine XS.iloadN X3.here hexec rfl (hb hbytes d5) rfl ?_
    refine XS.aloadN X3.here hexec rfl (hb hbytes d6) rfl rfl ?_
    refine iconstV X3.here hexec rfl 0 (hb hbytes d7) (by decide) ?_
    refine XS.iloadN X3.here hexec rfl (hb hbytes d8) rfl ?_
    exact Steps.refl _)
  obtain ⟨v6, T6, X6, E6, g6⟩ := X3.callS hexec (Cmp5.law l b A s.heap.size B3 o 0 len) hown (wks W (staticW U16 115 Cmp5.yN)) (wk W Cmp5.tab) (W := 0) (Nat.le_of_ble_eq_true rfl) (Nat.le_of_ble_eq_true rfl) (Nat.le_refl _) (by show 0 + len + 0 ≤ len; omega) (g := (mkF m 9 #[.val (.ref b), .val (.int (Int32.ofNat o)), .val (.int (Int32.ofNat len)), .val (.ref s.heap.size), .unset, .unset] [.int (Int32.ofNat len), .int (Int32.ofNat 0), .ref s.heap.size, .int (Int32.ofNat o), .ref b])) rfl (by rw [hml]; rfl) c5 (argsL := [.ref b, .int (Int32.ofNat o), .ref s.heap.size, .int (Int32.ofNat 0), .int (Int32.ofNat len)]) (rest := []) rfl rfl (by show 2 * 0 + 0 ≤ _; decide) (hb hbytes d9) (⟨rfl, hA3, ba3, hne, l1, by rw [bs3]; simp, hp⟩)
  obtain ⟨rfl, B6, p6, f6⟩ := E6
  have c7 : Steps p.tables e below (s₁.setTop (entryFrame m #[.ref b, .int (Int32.ofNat o), .int (Int32.ofNat len)] 6)) (T6.setTop (mkF m 12 #[.val (.ref b), .val (.int (Int32.ofNat o)), .val (.int (Int32.ofNat len)), .val (.ref s.heap.size), .unset, .unset] [.int (Int32.ofNat len)])) := g6
  have c8 : Steps p.tables e below (s₁.setTop (entryFrame m #[.ref b, .int (Int32.ofNat o), .int (Int32.ofNat len)] 6)) (T6.setTop (mkF m 58 #[.val (.ref b), .val (.int (Int32.ofNat o)), .val (.int (Int32.ofNat len)), .val (.ref s.heap.size), .val (.int (Int32.ofNat len)), .unset] [.ref s.heap.size])) := c7.trans (by
    refine XS.istore X6.here hexec rfl (hb hbytes d12) rfl rfl ?_
    refine XS.iload X6.here hexec rfl (hb hbytes d14) rfl ?_
    refine XS.iloadN X6.here hexec rfl (hb hbytes d16) rfl ?_
    refine XS.icmpYes X6.here hexec rfl (pc0 := 17) rfl (hb hbytes d17) rfl (ii_eq_t rfl) (by decide) rfl ?_
    refine XS.aloadN X6.here hexec rfl (hb hbytes d57) rfl rfl ?_
    exact Steps.refl _)
  have X8 := X6.wide (L' := []) (cells' := 1) (slots' := len) (fun x hx hlt => by
    simp only [List.nil_append, copyLocs, List.mem_map, List.mem_range] at hx
    obtain ⟨i, -, rfl⟩ := hx
    exact absurd hlt (Nat.lt_irrefl _)) (Nat.le_refl _) (by omega)
  exact ⟨T6, some (.ref s.heap.size), _, _, _, X8, rfl, rfl, rfl, (fun h => by cases h), ⟨⟨rfl, B6, ba3.like (X3.warmed.alike.symm.trans X6.warmed.alike) p6.1 f6.1 f6.2.1 f6.2.2.1, f6.2.1.trans bv3, by rw [X6.warmed.alike.findClass, f6.1]; exact bf3, by rw [f6.2.2.1, bs3]; simp, fun j hj => by rw [f6.2.2.2 j, if_pos (by omega)]; rfl, kp3.put p6 (Nat.le_refl _)⟩, by rw [p6.2.2, bh3, hh0]; simp⟩, fun fs hl => c8.trans (X8.areturnOut hexec rfl hret rfl (hb hbytes d58) hl)⟩
end Cmp3
namespace CodL
def yN : MethodName := ⟨"java/lang/StringUTF16", "coderFromArrayLen", "([BI)B"⟩
abbrev yB : ByteArray := jdk_52_method_15_code
theorem d0 : decode yB 0 = .ok (.iload_n 1, 1) := by decide +kernel
theorem d1 : decode yB 1 = .ok (.aload_n 0, 1) := by decide +kernel
theorem d2 : decode yB 2 = .ok (.arraylength, 1) := by decide +kernel
theorem d3 : decode yB 3 = .ok (.isub, 1) := by decide +kernel
theorem d4 : decode yB 4 = .ok (.bipush 31, 2) := by decide +kernel
theorem d6 : decode yB 6 = .ok (.iushr, 1) := by decide +kernel
theorem d7 : decode yB 7 = .ok (.i2b, 1) := by decide +kernel
theorem d8 : decode yB 8 = .ok (.ireturn, 1) := by decide +kernel
def site : List Cond := []
def tab : Cond := tabOf yN yB 2 (some .byte) site
def P (d : Addr) (B : Cell) (args : Array Value) (s : State) : Prop := args = #[.ref d, .int (Int32.ofNat B.slots.size)] ∧ Arr .byte d B s
def E (r : Option Value) (s u : State) : Prop := XT.PureE (some (.int 0)) r s u
/-- an array as long as the number of chars: LATIN1 -/
theorem law (l : Launch) (d : Addr) (B : Cell) : Law l yN 2 2 0 0 yB 2 (some .byte) site (P d B) E [] 0 0 := by
  refine Law.of_walk (plainFor_of_name (by decide +kernel)) (by decide +kernel) (by decide +kernel) (by decide) (fun _ _ h => by rw [h.1]; rfl) (fun _ U U' hal hh h => ⟨h.1, h.2.mv hal hh⟩) (fun r U U' V V' h1 hal h2 h => XT.PureE.mv r U U' V V' h1 hal h2 h) ?_
  intro p e s m args below meth c s₁ X0 hexec hbytes hml hret hlk hnm hown hh0 W hP
  obtain ⟨rfl, hB⟩ := hP
  have hB0 := hB.mv X0.warmed.alike hh0
  have c1 : Steps p.tables e below (s₁.setTop (entryFrame m #[.ref d, .int (Int32.ofNat B.slots.size)] 2)) (s₁.setTop (mkF m 0 #[.val (.ref d), .val (.int (Int32.ofNat B.slots.size))] [])) := entry rfl
  have c2 : Steps p.tables e below (s₁.setTop (entryFrame m #[.ref d, .int (Int32.ofNat B.slots.size)] 2)) (s₁.setTop (mkF m 2 #[.val (.ref d), .val (.int (Int32.ofNat B.slots.size))] [.ref d, .int (Int32.ofNat B.slots.size)])) := c1.trans (by
    refine XS.iloadN X0.here hexec rfl (hb hbytes d0) rfl ?_
    refine XS.aloadN X0.here hexec rfl (hb hbytes d1) rfl rfl ?_
    exact Steps.refl _)
  have c3 : Steps p.tables e below (s₁.setTop (entryFrame m #[.ref d, .int (Int32.ofNat B.slots.size)] 2)) (s₁.setTop (mkF m 8 #[.val (.ref d), .val (.int (Int32.ofNat B.slots.size))] [.int (lo8 (ushr (Int32.ofNat B.slots.size - Int32.ofNat B.slots.size) 31))])) := c2.trans (by
    refine X0.alen hexec hB0 rfl rfl (hb hbytes d2) ?_
    refine XS.isub X0.here hexec rfl (hb hbytes d3) rfl ?_
    refine bipushV X0.here hexec rfl 31 (hb hbytes d4) (by decide) ?_
    refine iushr X0.here hexec rfl (hb hbytes d6) rfl ?_
    refine i2b X0.here hexec rfl (hb hbytes d7) rfl ?_
    exact Steps.refl _)
  have e0 : lo8 (ushr (Int32.ofNat B.slots.size - Int32.ofNat B.slots.size) 31) = 0 := by rw [Int32.sub_self]; decide
  rw [e0] at c3
  exact ⟨s₁, some (.int 0), _, _, _, X0, rfl, rfl, rfl, (fun h => by cases h), ⟨rfl, hh0⟩, fun fs hl => c3.trans (X0.ireturnOut hexec hret rfl (Or.inr (Or.inr (Or.inl rfl))) (hb hbytes d8) hl)⟩
end CodL
/-- the String at a is Latin-1 over a new byte[] (the heap's one new cell): the low bytes of the len chars of A from o on; every cell but a is kept -/
def Got (a : Addr) (D : Cell) (fV fC : Field) (A : Cell) (o len : Nat) (r : Option Value) (s u : State) : Prop := r = none ∧ ∃ D' V : Cell, Blank "java/lang/String" a D' u ∧ Same D D' [fV.slot, fC.slot] ∧ D'.slots[fV.slot]? = some (.ref s.heap.size) ∧ D'.slots[fC.slot]? = some (.int 0) ∧ Arr .byte s.heap.size V u ∧ V.vm = .none ∧ u.vm.findClass "[B" = some V.cls ∧ V.slots.size = len ∧ (∀ j, j < len → V.slots[j]? = some (.int (lo8 (cv A (o + j))))) ∧ (∀ (y : Addr) (c : Cell), y ≠ a → s.heap[y]? = some c → u.heap[y]? = some c) ∧ u.heap.size = s.heap.size + 1
theorem Got.mv {a : Addr} {D A : Cell} {fV fC : Field} {o len : Nat} : ∀ r (U U' V V' : State), U'.heap = U.heap → V.vm.Alike V'.vm → V'.heap = V.heap → Got a D fV fC A o len r U V → Got a D fV fC A o len r U' V' :=
  fun r U U' V V' h1 hal h2 ⟨e0, D', X, a1, a2, a3, a4, a5, a6, a7, a8, a9, a10, a11⟩ => ⟨e0, D', X, a1.mv hal h2, a2, by rw [h1]; exact a3, a4, by rw [h1]; exact a5.mv hal h2, a6, by rw [hal.findClass]; exact a7, a8, a9, by rw [h1, h2]; exact a10, by rw [h1, h2]; exact a11⟩
namespace New4
def yN : MethodName := ⟨"java/lang/String", "<init>", "([CIILjava/lang/Void;)V"⟩
abbrev yB : ByteArray := jdk_42_method_149_code
theorem d0 : decode yB 0 = .ok (.aload_n 0, 1) := by decide +kernel
theorem d1 : decode yB 1 = .ok (.invokespecial 1, 3) := by decide +kernel
theorem d4 : decode yB 4 = .ok (.iload_n 3, 1) := by decide +kernel
theorem d5 : decode yB 5 = .ok (.ifCond (.ne) 22, 3) := by decide +kernel
theorem d27 : decode yB 27 = .ok (.getstatic 38, 3) := by decide +kernel
theorem d30 : decode yB 30 = .ok (.ifCond (.eq) 28, 3) := by decide +kernel
theorem d33 : decode yB 33 = .ok (.aload_n 1, 1) := by decide +kernel
theorem d34 : decode yB 34 = .ok (.iload_n 2, 1) := by decide +kernel
theorem d35 : decode yB 35 = .ok (.iload_n 3, 1) := by decide +kernel
theorem d36 : decode yB 36 = .ok (.invokestatic 177, 3) := by decide +kernel
theorem d39 : decode yB 39 = .ok (.astore 5, 2) := by decide +kernel
theorem d41 : decode yB 41 = .ok (.aload_n 0, 1) := by decide +kernel
theorem d42 : decode yB 42 = .ok (.aload 5, 2) := by decide +kernel
theorem d44 : decode yB 44 = .ok (.iload_n 3, 1) := by decide +kernel
theorem d45 : decode yB 45 = .ok (.invokestatic 47, 3) := by decide +kernel
theorem d48 : decode yB 48 = .ok (.putfield 15, 3) := by decide +kernel
theorem d51 : decode yB 51 = .ok (.aload_n 0, 1) := by decide +kernel
theorem d52 : decode yB 52 = .ok (.aload 5, 2) := by decide +kernel
theorem d54 : decode yB 54 = .ok (.putfield 9, 3) := by decide +kernel
theorem d57 : decode yB 57 = .ok (.return_, 1) := by decide +kernel
def site : List Cond := [.fieldLink "java/lang/String" 38 "java/lang/String" "COMPACT_STRINGS" "Z", Cmp3.tab, CodL.tab, .laysFinal "java/lang/String" "java/lang/String" "value" "[B", .fieldLink "java/lang/String" 9 "java/lang/String" "value" "[B", .laysFinal "java/lang/String" "java/lang/String" "coder" "B", .fieldLink "java/lang/String" 15 "java/lang/String" "coder" "B"] ++ objW "java/lang/String" 1 ++ staticW "java/lang/String" 177 Cmp3.yN ++ staticW "java/lang/String" 47 CodL.yN
def tab : Cond := tabOf yN yB 6 none site
def P (a : Addr) (D : Cell) (fV fC : Field) (b : Addr) (A : Cell) (z : Int32) (o len : Nat) (args : Array Value) (s : State) : Prop := args = #[.ref a, .ref b, .int (Int32.ofNat o), .int (Int32.ofNat len), .null] ∧ Blank "java/lang/String" a D s ∧ Found "java/lang/String" "value" "[B" fV s ∧ Found "java/lang/String" "coder" "B" fC s ∧ Ch b A s ∧ StaticIs s "java/lang/String" "COMPACT_STRINGS" "Z" (.int z) ∧ ¬ z = 0 ∧ 0 < len ∧ o + len ≤ A.slots.size ∧ len ≤ 536870912 ∧ ∀ i, i < len → ¬ 255 < cv A (o + i)
def E (a : Addr) (D : Cell) (fV fC : Field) (A : Cell) (o len : Nat) (r : Option Value) (s u : State) : Prop := Got a D fV fC A o len r s u
/-- len > 0, no char of the range above 255: a Latin-1 String of their low bytes -/
theorem law (l : Launch) (a : Addr) (D : Cell) (fV fC : Field) (b : Addr) (A : Cell) (z : Int32) (o len : Nat) : Law l yN 5 4 2 35 yB 6 none site (P a D fV fC b A z o len) (E a D fV fC A o len) [⟨a, fC.slot⟩, ⟨a, fV.slot⟩] 1 len := by
  refine Law.of_walk (plainFor_of_name (by decide +kernel)) (by decide +kernel) (by decide +kernel) (by decide) (fun _ _ h => by rw [h.1]; rfl) (fun _ U U' hal hh h => ⟨h.1, h.2.1.mv hal hh, h.2.2.1.al hal, h.2.2.2.1.al hal, h.2.2.2.2.1.mv hal hh, h.2.2.2.2.2.1.there hal hh, h.2.2.2.2.2.2⟩) (fun r U U' V V' h1 hal h2 h => Got.mv r U U' V V' h1 hal h2 h) ?_
  intro p e s m args below meth c s₁ X0 hexec hbytes hml hret hlk hnm hown hh0 W hP
  obtain ⟨rfl, hB, f1, f2, hA, s1, hz, l0, l1, l2, hp⟩ := hP
  have a31 := hA.1.2.2.2
  have c1 : Steps p.tables e below (s₁.setTop (entryFrame m #[.ref a, .ref b, .int (Int32.ofNat o), .int (Int32.ofNat len), .null] 6)) (s₁.setTop (mkF m 0 #[.val (.ref a), .val (.ref b), .val (.int (Int32.ofNat o)), .val (.int (Int32.ofNat len)), .val .null, .unset] [])) := entry rfl
  have c2 : Steps p.tables e below (s₁.setTop (entryFrame m #[.ref a, .ref b, .int (Int32.ofNat o), .int (Int32.ofNat len), .null] 6)) (s₁.setTop (mkF m 1 #[.val (.ref a), .val (.ref b), .val (.int (Int32.ofNat o)), .val (.int (Int32.ofNat len)), .val .null, .unset] [.ref a])) := c1.trans (by
    refine XS.aloadN X0.here hexec rfl (hb hbytes d0) rfl rfl ?_
    exact Steps.refl _)
  obtain ⟨T3, X3, q3, st3⟩ := X0.oinit hexec hown (wks W (objW "java/lang/String" 1)) (g := (mkF m 1 #[.val (.ref a), .val (.ref b), .val (.int (Int32.ofNat o)), .val (.int (Int32.ofNat len)), .val .null, .unset] [.ref a])) rfl (by rw [hml]; rfl) (rest := []) rfl (hb hbytes d1) (W := 0) (by show 2 * 0 + 0 ≤ _; decide) (Nat.le_of_ble_eq_true rfl) (Nat.le_of_ble_eq_true rfl)
  have hh3 := q3.trans hh0
  have c4 : Steps p.tables e below (s₁.setTop (entryFrame m #[.ref a, .ref b, .int (Int32.ofNat o), .int (Int32.ofNat len), .null] 6)) (T3.setTop (mkF m 27 #[.val (.ref a), .val (.ref b), .val (.int (Int32.ofNat o)), .val (.int (Int32.ofNat len)), .val .null, .unset] [])) := (c2.trans (st3 _ (Steps.refl _))).trans (by
    refine XS.iloadN X3.here hexec rfl (hb hbytes d4) rfl ?_
    refine XS.ifYes X3.here hexec rfl (pc0 := 5) rfl (hb hbytes d5) rfl (i0_ne_t (nz32 (by omega) l0)) (by decide) rfl ?_
    exact Steps.refl _)
  obtain ⟨T5, X5, q5, st5⟩ := X3.sget hexec hown (wk W (.fieldLink "java/lang/String" 38 "java/lang/String" "COMPACT_STRINGS" "Z")) s1 (fun _ _ h => by rw [hh3]; exact h) (g := (mkF m 27 #[.val (.ref a), .val (.ref b), .val (.int (Int32.ofNat o)), .val (.int (Int32.ofNat len)), .val .null, .unset] [])) rfl (hb hbytes d27)
  have hh5 := q5.trans hh3
  have c6 : Steps p.tables e below (s₁.setTop (entryFrame m #[.ref a, .ref b, .int (Int32.ofNat o), .int (Int32.ofNat len), .null] 6)) (T5.setTop (mkF m 30 #[.val (.ref a), .val (.ref b), .val (.int (Int32.ofNat o)), .val (.int (Int32.ofNat len)), .val .null, .unset] [.int z])) := c4.trans (st5 _ (Steps.refl _))
  have c7 : Steps p.tables e below (s₁.setTop (entryFrame m #[.ref a, .ref b, .int (Int32.ofNat o), .int (Int32.ofNat len), .null] 6)) (T5.setTop (mkF m 36 #[.val (.ref a), .val (.ref b), .val (.int (Int32.ofNat o)), .val (.int (Int32.ofNat len)), .val .null, .unset] [.int (Int32.ofNat len), .int (Int32.ofNat o), .ref b])) := c6.trans (by
    refine XS.ifNo X5.here hexec rfl (hb hbytes d30) rfl (i0_eq_f hz) ?_
    refine XS.aloadN X5.here hexec rfl (hb hbytes d33) rfl rfl ?_
    refine XS.iloadN X5.here hexec rfl (hb hbytes d34) rfl ?_
    refine XS.iloadN X5.here hexec rfl (hb hbytes d35) rfl ?_
    exact Steps.refl _)
  obtain ⟨v8, T8, X8, E8, g8⟩ := X5.callS hexec (Cmp3.law l b A o len) hown (wks W (staticW "java/lang/String" 177 Cmp3.yN)) (wk W Cmp3.tab) (W := 0) (Nat.le_of_ble_eq_true rfl) (Nat.le_of_ble_eq_true rfl) (Nat.le_refl _) (by show 0 + len ≤ len; omega) (g := (mkF m 36 #[.val (.ref a), .val (.ref b), .val (.int (Int32.ofNat o)), .val (.int (Int32.ofNat len)), .val .null, .unset] [.int (Int32.ofNat len), .int (Int32.ofNat o), .ref b])) rfl (by rw [hml]; rfl) c7 (argsL := [.ref b, .int (Int32.ofNat o), .int (Int32.ofNat len)]) (rest := []) rfl rfl (by show 2 * 0 + 0 ≤ _; decide) (hb hbytes d36) (⟨rfl, hA.mv X5.warmed.alike hh5, l1, l2, hp⟩)
  obtain ⟨e8, z8⟩ := E8
  obtain ⟨rfl, N, n1, n2, n3, n4, n5, n6⟩ := NewArr.mv _ T5 s _ _ hh5.symm (Vm.Alike.refl _) rfl e8
  rw [hh5] at z8
  have hB1 := hB.keep X8.warmed.alike (n6 _ _ hB.1)
  have hne : s.heap.size ≠ a := (Nat.ne_of_lt (Array.getElem?_eq_some_iff.mp hB.1).1).symm
  have c9 : Steps p.tables e below (s₁.setTop (entryFrame m #[.ref a, .ref b, .int (Int32.ofNat o), .int (Int32.ofNat len), .null] 6)) (T8.setTop (mkF m 39 #[.val (.ref a), .val (.ref b), .val (.int (Int32.ofNat o)), .val (.int (Int32.ofNat len)), .val .null, .unset] [.ref s.heap.size])) := g8
  have c10 : Steps p.tables e below (s₁.setTop (entryFrame m #[.ref a, .ref b, .int (Int32.ofNat o), .int (Int32.ofNat len), .null] 6)) (T8.setTop (mkF m 45 #[.val (.ref a), .val (.ref b), .val (.int (Int32.ofNat o)), .val (.int (Int32.ofNat len)), .val .null, .val (.ref s.heap.size)] [.int (Int32.ofNat N.slots.size), .ref s.heap.size, .ref a])) := by
    have hc : Steps p.tables e below (s₁.setTop (entryFrame m #[.ref a, .ref b, .int (Int32.ofNat o), .int (Int32.ofNat len), .null] 6)) (T8.setTop (mkF m 45 #[.val (.ref a), .val (.ref b), .val (.int (Int32.ofNat o)), .val (.int (Int32.ofNat len)), .val .null, .val (.ref s.heap.size)] [.int (Int32.ofNat len), .ref s.heap.size, .ref a])) := c9.trans (by
      refine XS.astore X8.here hexec rfl (hb hbytes d39) rfl rfl rfl ?_
      refine XS.aloadN X8.here hexec rfl (hb hbytes d41) rfl rfl ?_
      refine XS.aload X8.here hexec rfl (hb hbytes d42) rfl rfl ?_
      refine XS.iloadN X8.here hexec rfl (hb hbytes d44) rfl ?_
      exact Steps.refl _)
    rw [n4]; exact hc
  obtain ⟨v11, T11, X11, E11, g11⟩ := X8.callS hexec (CodL.law l s.heap.size N) hown (wks W (staticW "java/lang/String" 47 CodL.yN)) (wk W CodL.tab) (W := 1) (Nat.le_of_ble_eq_true rfl) (Nat.le_of_ble_eq_true rfl) (Nat.le_refl _) (by show 0 + len + 0 ≤ len; omega) (g := (mkF m 45 #[.val (.ref a), .val (.ref b), .val (.int (Int32.ofNat o)), .val (.int (Int32.ofNat len)), .val .null, .val (.ref s.heap.size)] [.int (Int32.ofNat N.slots.size), .ref s.heap.size, .ref a])) rfl (by rw [hml]; rfl) c10 (argsL := [.ref s.heap.size, .int (Int32.ofNat N.slots.size)]) (rest := [.ref a]) rfl rfl (by show 2 * 0 + (1 + 0) ≤ _; decide) (hb hbytes d45) (⟨rfl, n1⟩)
  obtain ⟨rfl, q11⟩ := E11
  have hB11 := hB1.mv (X8.warmed.alike.symm.trans X11.warmed.alike) q11
  have c12 : Steps p.tables e below (s₁.setTop (entryFrame m #[.ref a, .ref b, .int (Int32.ofNat o), .int (Int32.ofNat len), .null] 6)) (T11.setTop (mkF m 48 #[.val (.ref a), .val (.ref b), .val (.int (Int32.ofNat o)), .val (.int (Int32.ofNat len)), .val .null, .val (.ref s.heap.size)] [.int 0, .ref a])) := g11
  obtain ⟨T13, X13, p13, bl13, sl13, st13⟩ := X11.finit hexec hown (wk W (.fieldLink "java/lang/String" 15 "java/lang/String" "coder" "B")) (Or.inr ⟨_, (wk W (.laysFinal "java/lang/String" "java/lang/String" "coder" "B"))⟩) (Or.inl ⟨rfl, hnm⟩) f2 (Or.inl rfl) hB11 (t := .byte) (by decide +kernel) rfl (g := (mkF m 48 #[.val (.ref a), .val (.ref b), .val (.int (Int32.ofNat o)), .val (.int (Int32.ofNat len)), .val .null, .val (.ref s.heap.size)] [.int 0, .ref a])) rfl (rest := []) rfl (hb hbytes d48)
  have c14 : Steps p.tables e below (s₁.setTop (entryFrame m #[.ref a, .ref b, .int (Int32.ofNat o), .int (Int32.ofNat len), .null] 6)) (T13.setTop (mkF m 54 #[.val (.ref a), .val (.ref b), .val (.int (Int32.ofNat o)), .val (.int (Int32.ofNat len)), .val .null, .val (.ref s.heap.size)] [.ref s.heap.size, .ref a])) := (c12.trans (st13 _ (Steps.refl _))).trans (by
    refine XS.aloadN X13.here hexec rfl (hb hbytes d51) rfl rfl ?_
    refine XS.aload X13.here hexec rfl (hb hbytes d52) rfl rfl ?_
    exact Steps.refl _)
  obtain ⟨T15, X15, p15, bl15, sl15, st15⟩ := X13.finit hexec hown (wk W (.fieldLink "java/lang/String" 9 "java/lang/String" "value" "[B")) (Or.inr ⟨_, (wk W (.laysFinal "java/lang/String" "java/lang/String" "value" "[B"))⟩) (Or.inl ⟨rfl, hnm⟩) f1 (Or.inl rfl) bl13 (t := (.array .byte)) (by decide +kernel) rfl (g := (mkF m 54 #[.val (.ref a), .val (.ref b), .val (.int (Int32.ofNat o)), .val (.int (Int32.ofNat len)), .val .null, .val (.ref s.heap.size)] [.ref s.heap.size, .ref a])) rfl (rest := []) rfl (hb hbytes d54)
  have c16 : Steps p.tables e below (s₁.setTop (entryFrame m #[.ref a, .ref b, .int (Int32.ofNat o), .int (Int32.ofNat len), .null] 6)) (T15.setTop (mkF m 57 #[.val (.ref a), .val (.ref b), .val (.int (Int32.ofNat o)), .val (.int (Int32.ofNat len)), .val .null, .val (.ref s.heap.size)] [])) := c14.trans (st15 _ (Steps.refl _))
  have ap := apart (Or.inr ⟨_, (wk W (.laysFinal "java/lang/String" "java/lang/String" "value" "[B"))⟩) (Or.inr ⟨_, (wk W (.laysFinal "java/lang/String" "java/lang/String" "coder" "B"))⟩) f1 f2 (t₁ := .array .byte) (t₂ := .byte) (by decide +kernel) (by decide +kernel) (by decide)
  have al := X8.warmed.alike.symm.trans X15.warmed.alike
  have n7 : T11.heap[s.heap.size]? = some N := by rw [q11]; exact n1.1
  exact ⟨T15, none, _, _, _, X15, by simp, rfl, by omega, (fun _ => rfl), ⟨rfl, _, N, bl15, ((Same.refl D _).set _ (by simp)).set _ (by simp), sl15, (Cell.slots_setSlot_ne _ ap).trans sl13, n1.keep al (p15.other hne (p13.other hne n7)), n2, by rw [al.findClass]; exact n3, n4, n5, fun y c h1 h2 => p15.other h1 (p13.other h1 (by rw [q11]; exact n6 y c h2)), by rw [p15.2.2, p13.2.2, q11]; exact z8⟩, fun fs hl => c16.trans (X15.returnOut hexec hret (hb hbytes d57) hl)⟩
end New4
namespace New1
def yN : MethodName := ⟨"java/lang/String", "<init>", "([C)V"⟩
abbrev yB : ByteArray := jdk_42_method_3_code
theorem d0 : decode yB 0 = .ok (.aload_n 0, 1) := by decide +kernel
theorem d1 : decode yB 1 = .ok (.aload_n 1, 1) := by decide +kernel
theorem d2 : decode yB 2 = .ok (.iconst 0, 1) := by decide +kernel
theorem d3 : decode yB 3 = .ok (.aload_n 1, 1) := by decide +kernel
theorem d4 : decode yB 4 = .ok (.arraylength, 1) := by decide +kernel
theorem d5 : decode yB 5 = .ok (.aconst_null, 1) := by decide +kernel
theorem d6 : decode yB 6 = .ok (.invokespecial 27, 3) := by decide +kernel
theorem d9 : decode yB 9 = .ok (.return_, 1) := by decide +kernel
def site : List Cond := [New4.tab] ++ initW "java/lang/String" 27 New4.yN
def tab : Cond := tabOf yN yB 2 none site
def P (a : Addr) (D : Cell) (fV fC : Field) (b : Addr) (A : Cell) (z : Int32) (args : Array Value) (s : State) : Prop := args = #[.ref a, .ref b] ∧ Blank "java/lang/String" a D s ∧ Found "java/lang/String" "value" "[B" fV s ∧ Found "java/lang/String" "coder" "B" fC s ∧ Ch b A s ∧ StaticIs s "java/lang/String" "COMPACT_STRINGS" "Z" (.int z) ∧ ¬ z = 0 ∧ 0 < A.slots.size ∧ A.slots.size ≤ 536870912 ∧ ∀ i, i < A.slots.size → ¬ 255 < cv A i
def E (a : Addr) (D : Cell) (fV fC : Field) (A : Cell) (r : Option Value) (s u : State) : Prop := Got a D fV fC A 0 A.slots.size r s u
/-- new String(chars), not empty, no char above 255: a Latin-1 String of their low bytes -/
theorem law (l : Launch) (a : Addr) (D : Cell) (fV fC : Field) (b : Addr) (A : Cell) (z : Int32) : Law l yN 2 1 3 52 yB 2 none site (P a D fV fC b A z) (E a D fV fC A) [⟨a, fC.slot⟩, ⟨a, fV.slot⟩] 1 A.slots.size := by
  refine Law.of_walk (plainFor_of_name (by decide +kernel)) (by decide +kernel) (by decide +kernel) (by decide) (fun _ _ h => by rw [h.1]; rfl) (fun _ U U' hal hh h => ⟨h.1, h.2.1.mv hal hh, h.2.2.1.al hal, h.2.2.2.1.al hal, h.2.2.2.2.1.mv hal hh, h.2.2.2.2.2.1.there hal hh, h.2.2.2.2.2.2⟩) (fun r U U' V V' h1 hal h2 h => Got.mv r U U' V V' h1 hal h2 h) ?_
  intro p e s m args below meth c s₁ X0 hexec hbytes hml hret hlk hnm hown hh0 W hP
  obtain ⟨rfl, hB, f1, f2, hA, s1, hz, l0, l2, hp⟩ := hP
  have c1 : Steps p.tables e below (s₁.setTop (entryFrame m #[.ref a, .ref b] 2)) (s₁.setTop (mkF m 0 #[.val (.ref a), .val (.ref b)] [])) := entry rfl
  have c2 : Steps p.tables e below (s₁.setTop (entryFrame m #[.ref a, .ref b] 2)) (s₁.setTop (mkF m 6 #[.val (.ref a), .val (.ref b)] [.null, .int (Int32.ofNat A.slots.size), .int 0, .ref b, .ref a])) := c1.trans (by
    refine XS.aloadN X0.here hexec rfl (hb hbytes d0) rfl rfl ?_
    refine XS.aloadN X0.here hexec rfl (hb hbytes d1) rfl rfl ?_
    refine iconstV X0.here hexec rfl 0 (hb hbytes d2) (by decide) ?_
    refine XS.aloadN X0.here hexec rfl (hb hbytes d3) rfl rfl ?_
    refine X0.alen hexec (hA.1.mv X0.warmed.alike hh0) rfl rfl (hb hbytes d4) ?_
    refine XS.aconstNull X0.here hexec rfl (hb hbytes d5) ?_
    exact Steps.refl _)
  obtain ⟨v3, T3, X3, E3, g3⟩ := X0.callN hexec (New4.law l a D fV fC b A z 0 A.slots.size) rfl hown (wks W (initW "java/lang/String" 27 New4.yN)) (W New4.tab (by simp only [site, List.mem_cons, List.mem_append, true_or, or_true])) (W := 0) (Nat.le_of_ble_eq_true rfl) (Nat.le_of_ble_eq_true rfl) (Nat.le_refl _) (by show 0 + A.slots.size ≤ A.slots.size; omega) (g := (mkF m 6 #[.val (.ref a), .val (.ref b)] [.null, .int (Int32.ofNat A.slots.size), .int (Int32.ofNat 0), .ref b, .ref a])) rfl (by rw [hml]; rfl) c2 (argsL := [.ref b, .int (Int32.ofNat 0), .int (Int32.ofNat A.slots.size), .null]) (rest := []) rfl rfl (by show 2 * 0 + 0 ≤ _; decide) (hb hbytes d6) (⟨rfl, hB.mv X0.warmed.alike hh0, f1.al X0.warmed.alike, f2.al X0.warmed.alike, hA.mv X0.warmed.alike hh0, s1.there X0.warmed.alike hh0, hz, l0, by omega, l2, fun i hi => by rw [Nat.zero_add]; exact hp i hi⟩)
  have e0 := Got.mv _ s₁ s _ _ hh0.symm (Vm.Alike.refl _) rfl E3
  obtain rfl := e0.1
  have c4 : Steps p.tables e below (s₁.setTop (entryFrame m #[.ref a, .ref b] 2)) (T3.setTop (mkF m 9 #[.val (.ref a), .val (.ref b)] [])) := g3
  exact ⟨T3, none, _, _, _, X3, by simp, rfl, by omega, (fun _ => rfl), e0, fun fs hl => c4.trans (X3.returnOut hexec hret (hb hbytes d9) hl)⟩
theorem pays {l : Launch} {R : Room} {p : Program} {e : Env} {below : List Frame} {s : State} {sargs : Array Value} {len W : Nat} (a : Addr) (D : Cell) (fV fC : Field) (b : Addr) (A : Cell) (z : Int32) (htab : tab.before sargs s = true) (hfr : 4 ≤ R.frames) (hlo : W + 65 ≤ R.locals) :
    Back l R p e below s sargs yN len W (fun A₁ a₁ => A₁.cells + 1 ≤ R.cells ∧ A₁.slots + A.slots.size ≤ R.slots ∧ P a D fV fC b A z a₁ A₁.U) (fun A₁ _ v₁ B₁ => E a D fV fC A v₁ A₁.U B₁.U ∧ B₁.locs = A₁.locs ++ [⟨a, fC.slot⟩, ⟨a, fV.slot⟩] ∧ B₁.cells = A₁.cells + 1 ∧ B₁.slots = A₁.slots + A.slots.size) :=
  (law l a D fV fC b A z).pays htab hfr (by omega)
end New1
/-- the byte, read back as charAt reads it, is the char -/
theorem lo8_mask {x : Int32} (h0 : ¬ x < 0) (h1 : ¬ 255 < x) : lo8 x &&& 255 = x := by
  have t : ∀ k : Fin 256, lo8 (Int32.ofNat k.val) &&& 255 = Int32.ofNat k.val := by decide +kernel
  rw [Int32.lt_iff_toInt_lt] at h0 h1
  have e0 : (0 : Int32).toInt = 0 := rfl
  have e1 : (255 : Int32).toInt = 255 := rfl
  obtain ⟨k, hk⟩ : ∃ k : Nat, x.toInt = k := ⟨x.toInt.toNat, by omega⟩
  have hx : x = Int32.ofNat k := Int32.toInt_inj.mp (by rw [hk, Int32.toInt_ofNat_small (by omega)])
  rw [hx]
  exact t ⟨k, by omega⟩
end StrChars
namespace StrChars.Road
open Jvm Sem ClassFile Op Lib Jvm.Stand Jvm.Free Jvm.Free.XT
open Jvm.Lib.Cold (StaticIs)
abbrev ST : String := "java/lang/String"
/-- every table word that New1's law asks, flat -/
abbrev words : List Jvm.Cond := [.code New1.yN New1.yB 2 none, .initialized ST, .methodLink ST 27 New4.yN, .instanceMethod New4.yN,
  .code New4.yN New4.yB 6 none, .fieldLink ST 38 ST "COMPACT_STRINGS" "Z", .laysFinal ST ST "value" "[B", .fieldLink ST 9 ST "value" "[B", .laysFinal ST ST "coder" "B", .fieldLink ST 15 ST "coder" "B",
  .methodLink ST 1 Lib.objectInit, .instanceMethod Lib.objectInit, .code Lib.objectInit ⟨#[0xb1]⟩ 1 none, .methodLink ST 177 Cmp3.yN, .static Cmp3.yN, .methodLink ST 47 CodL.yN, .static CodL.yN,
  .code Cmp3.yN Cmp3.yB 6 (some (.array .byte)), .initialized U16, .arrayClass .byte, .methodLink U16 115 Cmp5.yN, .static Cmp5.yN, .code Cmp5.yN Cmp5.yB 7 (some .int), .code CodL.yN CodL.yB 2 (some .byte)]
theorem tab_of {a : Array Value} {s : State} (h : ∀ w ∈ words, w.before a s = true) : New1.tab.before a s = true := by
  have h5 : Cmp5.tab.before a s = true := unparts (wk h (.code Cmp5.yN Cmp5.yB 7 (some .int))) (wks h (.initialized Cmp5.yN.cls :: Cmp5.site))
  have hc : CodL.tab.before a s = true := unparts (wk h (.code CodL.yN CodL.yB 2 (some .byte))) (wks h (.initialized CodL.yN.cls :: CodL.site))
  have q5 : ∀ w ∈ Cmp5.tab :: words, w.before a s = true := fun w hw => (List.mem_cons.mp hw).elim (fun e => e ▸ h5) (h w)
  have h3 : Cmp3.tab.before a s = true := unparts (wk q5 (.code Cmp3.yN Cmp3.yB 6 (some (.array .byte)))) (wks q5 (.initialized Cmp3.yN.cls :: Cmp3.site))
  have q3 : ∀ w ∈ Cmp3.tab :: CodL.tab :: words, w.before a s = true := fun w hw => (List.mem_cons.mp hw).elim (fun e => e ▸ h3) fun hw => (List.mem_cons.mp hw).elim (fun e => e ▸ hc) (h w)
  have h4 : New4.tab.before a s = true := unparts (wk q3 (.code New4.yN New4.yB 6 none)) (wks q3 (.initialized New4.yN.cls :: New4.site))
  have q4 : ∀ w ∈ New4.tab :: words, w.before a s = true := fun w hw => (List.mem_cons.mp hw).elim (fun e => e ▸ h4) (h w)
  exact unparts (wk q4 (.code New1.yN New1.yB 2 none)) (wks q4 (.initialized New1.yN.cls :: New1.site))
/-- the words ride from the start Z to the walk's own state -/
theorem moved {Z s : State} {a0 args : Array Value} (hZ : Z.Warmed39 s.vm) (hw : ∀ d ∈ words, d.before a0 Z = true) : ∀ d ∈ words, d.before args s = true := fun d hd => by
  have q := hw d hd
  have t : ∀ d ∈ words, d = .arrayClass .byte ∨ (d.onTables && d.keepsFace) = true := by decide +kernel
  rcases t d hd with rfl | t
  · exact RoadKit.mvA hZ q
  · exact RoadKit.mv hZ q t
/-- WHAT COMES BACK, over the tables of the start Z: h the heap at the call, h' behind it -/
def Q (Z : State) (x : Addr) (A : Cell) (h : Heap) (v : Option Value) (h' : Heap) (L : List Loc) : Prop := v = none ∧ (∀ y ∈ L, y.base = x) ∧ RoadKit.Keep h h' [x] ∧ h'.size = h.size + 1 ∧ RoadKit.Exa Z h' x ST ∧ RoadKit.Fld Z h' x ST "value" "[B" (.ref h.size) ∧ RoadKit.Fld Z h' x ST "coder" "B" (.int 0) ∧
  (∃ V : Cell, RoadKit.Arr Z h' h.size V .byte ∧ V.vm = .none ∧ Z.vm.findClass "[B" = some V.cls ∧ V.slots.size = A.slots.size ∧ ∀ j, j < A.slots.size → V.slots[j]? = some (.int (lo8 (cv A j)))) ∧
  ∀ (O n d : String) (w : Value), RoadKit.Fld Z h x O n d w → RoadKit.slotOf Z O n d ≠ RoadKit.slotOf Z ST "value" "[B" → RoadKit.slotOf Z O n d ≠ RoadKit.slotOf Z ST "coder" "B" → RoadKit.Fld Z h' x O n d w
/-- **new String(chars) AT A CALL, IN THE ROAD'S FORM**: for specialBack behind newO: x the fresh String, b the char[] with the cell A -/
theorem back {p : Program} {l : Launch} {e : Env} {R : Room} {s : State} {args : Array Value} {below : List Frame} {len W : Nat} {Z : State} {a0 : Array Value} {h : Heap} (hZ : Z.Warmed39 s.vm) (hw : ∀ d ∈ words, d.before a0 Z = true) {kI : Nat} (wi : (Jvm.Cond.instantiable ST kI).before a0 Z = true)
    {x b : Addr} {A : Cell} {z : Int32} {v0 c0 : Value} (E : RoadKit.Exa Z h x ST) (V : RoadKit.Fld Z h x ST "value" "[B" v0) (C : RoadKit.Fld Z h x ST "coder" "B" c0) (K : RoadKit.Arr Z h b A .char) (hty : Typed .char A) (S : RoadKit.Sta Z h ST "COMPACT_STRINGS" "Z" (.int z)) (hz : ¬ z = 0)
    (l0 : 0 < A.slots.size) (l2 : A.slots.size ≤ 536870912) (hp : ∀ i, i < A.slots.size → ¬ 255 < cv A i) (hfr : 4 ≤ R.frames) (hlo : W + 65 ≤ R.locals) :
    Back l R p e below s args New1.yN len W (fun P a => a = #[.ref x, .ref b] ∧ P.U.heap = h ∧ P.cells + 1 ≤ R.cells ∧ P.slots + A.slots.size ≤ R.slots)
      (fun P _ v B => ∃ L, Q Z x A h v B.U.heap L ∧ B.locs = P.locs ++ L ∧ B.cells = P.cells + 1 ∧ B.slots = P.slots + A.slots.size) := by
  intro m meth c P g ig mk a X hg hsize hdg hW hn hp'
  obtain ⟨rfl, rfl, r1, r2⟩ := hp'
  have al : Z.vm.Alike P.U.vm := hZ.alike.trans X.warmed.alike
  obtain ⟨D, cfV, kV, iV, fV, hD, gV, stV, knV, obV, asV, slV⟩ := id V
  obtain ⟨D', cfC, kC, iC, fC, hD', gC, stC, -, -, asC, slC⟩ := id C
  cases hD.symm.trans hD'
  obtain ⟨D2, kD, e1, e2, e3, e4, e5⟩ := id E
  cases hD.symm.trans e1
  obtain ⟨c2, k2, i1, i2, i3, -⟩ := Cond.instantiable_spec wi
  cases e2.symm.trans i1
  cases e3.symm.trans i2
  obtain ⟨kU, u1, u2⟩ := al.2.2 _ _ e3
  have hB : Blank ST x D P.U := ⟨hD, ⟨knV, fun q hq => by rw [hq] at obV; cases obV⟩, by rw [al.findClass]; exact e2, kU, u1, by rw [u2]; exact i3, by rw [u2]; exact e5 i3⟩
  have F1 : Found ST "value" "[B" fV P.U := ⟨SBG.found_only al ⟨cfV, kV, iV, gV⟩, stV⟩
  have F2 : Found ST "coder" "B" fC P.U := ⟨SBG.found_only al ⟨cfC, kC, iC, gC⟩, stC⟩
  have hA : Ch b A P.U := ⟨⟨K.1, State.isArrayOf_alike al K.2.1, K.2.2, by omega⟩, hty⟩
  have hS : StaticIs P.U ST "COMPACT_STRINGS" "Z" (.int z) := by
    obtain ⟨cfS, iS, kS, fS, st, cS, t1, t2, t3, t4, t5, t6, t7⟩ := S
    exact StaticIs.there (s := { Z with heap := P.U.heap }) ⟨cfS, iS, kS, fS, st, cS, t1, t2, t3, t4, t5, (fun q => by rw [q] at t6; cases t6), t7⟩ al rfl
  obtain ⟨v, B, X', ⟨⟨hv, E', V', q1, q2, q3, q4, q5, q6, q7, q8, q9, q10, q11⟩, hl, hc, hs⟩, st⟩ := New1.pays x D fV fC b A z (tab_of (moved hZ hw)) hfr hlo m meth c P g ig mk _ X hg hsize hdg hW hn ⟨r1, r2, rfl, hB, F1, F2, hA, hS, hz, l0, l2, hp⟩
  have al' : Z.vm.Alike B.U.vm := hZ.alike.trans X'.warmed.alike
  have hsz : E'.slots.size = D.slots.size := by
    obtain ⟨-, -, -, kB, w1, w2, w3⟩ := q1
    obtain ⟨kB', y1, y2⟩ := al'.2.2 _ _ e3
    rw [q2.2.1] at w1
    cases w1.symm.trans y1
    rw [w3, e5 i3, y2]
  refine ⟨v, B, X', ⟨_, ⟨hv, ?_, ⟨by omega, fun y cy hy hn' => q10 y cy (by simpa using hn') hy, fun y cy hy => ?_⟩, q11, ⟨E', _, q1.1, by rw [q2.2.1]; exact e2, by rw [q2.2.1]; exact e3, by rw [q2.1]; exact obV, fun _ => by rw [hsz]; exact e5 i3⟩,
    ⟨E', cfV, kV, iV, fV, q1.1, gV, stV, by rw [q2.1]; exact knV, by rw [q2.1]; exact obV, by rw [q2.2.1]; exact asV, q3⟩, ⟨E', cfC, kC, iC, fC, q1.1, gC, stC, by rw [q2.1]; exact knV, by rw [q2.1]; exact obV, by rw [q2.2.1]; exact asC, q4⟩,
    ⟨V', ⟨q5.1, State.isArrayOf_alike al'.symm q5.2.1, q5.2.2.1⟩, q6, by rw [← al'.findClass]; exact q7, q8, fun j hj => by have := q9 j hj; rwa [Nat.zero_add] at this⟩, fun O n d w F n1 n2 => ?_⟩, hl, hc, hs⟩, st⟩
  · intro y hy
    simp only [List.mem_cons, List.not_mem_nil, or_false] at hy
    rcases hy with rfl | rfl <;> rfl
  · by_cases q : y = x
    · subst q
      cases hD.symm.trans hy
      exact ⟨E', q1.1, q2.2.1, q2.1, hsz⟩
    · exact ⟨cy, q10 y cy q hy, rfl, rfl, rfl⟩
  · obtain ⟨D3, cf, k, i, f, g1, g2, g3, g4, g5, g6, g7⟩ := F
    cases hD.symm.trans g1
    simp only [RoadKit.slotOf, g2, gV, gC, Option.map_some, Option.getD_some] at n1 n2
    exact ⟨E', cf, k, i, f, q1.1, g2, g3, by rw [q2.1]; exact g4, by rw [q2.1]; exact g5, by rw [q2.2.1]; exact g6, by rw [q2.2.2 f.slot (by simp [n1, n2])]; exact g7⟩
end StrChars.Road
namespace StrChars.Road
open Jvm Sem ClassFile Op Lib Jvm.Stand Jvm.Free Jvm.Free.XT
/-- WHAT COMES BACK, the byte[] as a list of values -/
def QA (Z : State) (x : Addr) (zn : Int32) (cs : List Int32) (h : Heap) (v : Option Value) (h' : Heap) (L : List Loc) : Prop := v = none ∧ (∀ y ∈ L, y.base = x) ∧ RoadKit.Keep h h' [x] ∧ h'.size = h.size + 1 ∧ RoadKit.Exa Z h' x ST ∧ RoadKit.Fld Z h' x ST "value" "[B" (.ref h.size) ∧ RoadKit.Fld Z h' x ST "coder" "B" (.int 0) ∧
  (∃ kb, Z.vm.findClass "[B" = some kb ∧ RoadKit.Arv Z h' h.size kb .byte zn (cs.map fun c => .int (lo8 c)) (.int 0)) ∧
  ∀ (O n d : String) (w : Value), RoadKit.Fld Z h x O n d w → RoadKit.slotOf Z O n d ≠ RoadKit.slotOf Z ST "value" "[B" → RoadKit.slotOf Z O n d ≠ RoadKit.slotOf Z ST "coder" "B" → RoadKit.Fld Z h' x O n d w
/-- **new String(chars) AT A CALL, THE ARRAYS AS LISTS**: the char[] at b holds cs, not empty, no char above 255 -/
theorem backArv {p : Program} {l : Launch} {e : Env} {R : Room} {s : State} {args : Array Value} {below : List Frame} {len W : Nat} {Z : State} {a0 : Array Value} {h : Heap} (hZ : Z.Warmed39 s.vm) (hw : ∀ d ∈ words, d.before a0 Z = true) {kI : Nat} (wi : (Jvm.Cond.instantiable ST kI).before a0 Z = true)
    {x b : Addr} {k : ClassId} {zn z : Int32} {cs : List Int32} {dv v0 c0 : Value} (E : RoadKit.Exa Z h x ST) (V : RoadKit.Fld Z h x ST "value" "[B" v0) (C : RoadKit.Fld Z h x ST "coder" "B" c0) (K : RoadKit.Arv Z h b k .char zn (cs.map Value.int) dv) (S : RoadKit.Sta Z h ST "COMPACT_STRINGS" "Z" (.int z)) (hz : ¬ z = 0)
    (hlen : zn.toNatClampNeg = cs.length) (h0 : 0 < cs.length) (hbig : cs.length ≤ 536870912) (hall : ∀ c ∈ cs, ¬ 255 < c) (hfr : 4 ≤ R.frames) (hlo : W + 65 ≤ R.locals) :
    Back l R p e below s args New1.yN len W (fun P a => a = #[.ref x, .ref b] ∧ P.U.heap = h ∧ P.cells + 1 ≤ R.cells ∧ P.slots + cs.length ≤ R.slots)
      (fun P _ v B => ∃ L, QA Z x zn cs h v B.U.heap L ∧ B.locs = P.locs ++ L ∧ B.cells = P.cells + 1 ∧ B.slots = P.slots + cs.length) := by
  obtain ⟨A, K1, K2, K3, K4, K5, K6⟩ := K
  have e : A.slots.size = cs.length := K3.trans hlen
  have hat : ∀ (i : Nat) (hi : i < cs.length), A.slots[i]? = some (.int cs[i]) := fun i hi => by rw [K5 i (by omega)]; simp [List.getD_eq_getElem?_getD, hi]
  have hcv : ∀ (i : Nat) (hi : i < cs.length), cv A i = cs[i] := fun i hi => by unfold cv; rw [hat i hi]
  have hty : Typed .char A := fun i v hv => by
    have hi : i < A.slots.size := (Array.getElem?_eq_some_iff.mp hv).1
    have q := K5 i hi
    rw [hv] at q
    rw [Option.some.inj q]
    exact K6 i hi
  refine Back.mono (back hZ hw wi E V C K1 hty S hz (by omega) (by omega) (fun i hi => by rw [hcv i (by omega)]; exact hall _ (List.getElem_mem _)) hfr hlo) (fun P a hp => ⟨hp.1, hp.2.1, hp.2.2.1, by rw [e]; exact hp.2.2.2⟩) (fun P a v B hp hq => ?_)
  obtain ⟨L, ⟨q1, q2, q3, q4, q5, q6, q7, ⟨V', v1, v2, v3, v4, v5⟩, q9⟩, hl, hc, hs⟩ := hq
  refine ⟨L, ⟨q1, q2, q3, q4, q5, q6, q7, ⟨V'.cls, v3, V', v1, rfl, by rw [v4, e, hlen], K4, fun i hi => ?_, fun i hi => ?_⟩, q9⟩, hl, hc, by rw [hs, e]⟩
  · have hi' : i < cs.length := by omega
    rw [v5 i (by omega), hcv i hi']; simp [List.getD_eq_getElem?_getD, hi']
  · have hi' : i < cs.length := by omega
    simp only [List.getD_eq_getElem?_getD, List.getElem?_map, List.getElem?_eq_getElem hi', Option.map_some, Option.getD_some]
    exact fits_lo8 _
end StrChars.Road
namespace StrChars.Road
open Jvm Sem ClassFile Op Lib Jvm.Stand Jvm.Free Jvm.Free.XT
/-- WHAT COMES BACK, in the writer's own shape -/
def QV (Z : State) (x : Addr) (N : Int32) (bs : List Int32) (h : Heap) (n0 : Nat) (v : Option Value) (h' : Heap) (L : List Loc) : Prop := v = none ∧ RoadKit.Fr n0 L ∧ RoadKit.Keep h h' [x] ∧ RoadKit.Exa Z h' x ST ∧ RoadKit.Fld Z h' x ST "coder" "B" (.int 0) ∧
  ∃ (t : Addr) (kb : ClassId), n0 ≤ t ∧ h.size ≤ t ∧ ¬ t = x ∧ RoadKit.Fld Z h' x ST "value" "[B" (.ref t) ∧ RoadKit.Arv Z h' t kb .byte N (bs.map Value.int) (.int 0)
/-- **new String(chars) AT A CALL, FOR THE WRITER**: a char[] of n known ints, each 0 to 255 -/
theorem backV {p : Program} {l : Launch} {e : Env} {R : Room} {s : State} {args : Array Value} {below : List Frame} {len W : Nat} {Z : State} {a0 : Array Value} {h : Heap} (hZ : Z.Warmed39 s.vm) (hw : ∀ d ∈ words, d.before a0 Z = true) {kI : Nat} (wi : (Jvm.Cond.instantiable ST kI).before a0 Z = true)
    {x b : Addr} {kC : ClassId} {cs bs : List Int32} {d v0 c0 : Value} {z N : Int32} {n n0 : Nat} (hx0 : n0 ≤ x) (hh0 : n0 ≤ h.size) (E : RoadKit.Exa Z h x ST) (V : RoadKit.Fld Z h x ST "value" "[B" v0) (C : RoadKit.Fld Z h x ST "coder" "B" c0) (K : RoadKit.Arv Z h b kC .char N (cs.map Value.int) d) (S : RoadKit.Sta Z h ST "COMPACT_STRINGS" "Z" (.int z)) (hz : ¬ z = 0)
    (hn : cs.length = n) (hN : N = Int32.ofNat n) (l0 : 0 < n) (l2 : n ≤ 4000) (hp : ∀ c ∈ cs, ¬ c < 0 ∧ ¬ (255 : Int32) < c) (hb : bs = cs.map (fun c => c.toInt8.toInt32)) (hfr : 4 ≤ R.frames) (hlo : W + 65 ≤ R.locals) :
    Back l R p e below s args (⟨"java/lang/String", "<init>", "([C)V"⟩ : MethodName) len W (fun P a => a = #[.ref x, .ref b] ∧ P.U.heap = h ∧ P.cells + 1 ≤ R.cells ∧ P.slots + n ≤ R.slots)
      (fun P _ v B => ∃ L, QV Z x N bs h n0 v B.U.heap L ∧ B.locs = P.locs ++ L ∧ B.cells = P.cells + 1 ∧ B.slots = P.slots + n) := by
  subst hn hN hb
  refine Back.mono (backArv hZ hw wi E V C K S hz (n32 (by omega)) l0 (by omega) (fun c hc => (hp c hc).2) hfr hlo) (fun P a hp => hp) (fun P a v B hp hq => ?_)
  obtain ⟨L, ⟨q1, q2, q3, q4, q5, q6, q7, ⟨kb, v1, v2⟩, q9⟩, hl, hc, hs⟩ := hq
  exact ⟨L, ⟨q1, fun y hy => by rw [q2 y hy]; exact hx0, q3, q5, q7, h.size, kb, hh0, Nat.le_refl _, Nat.ne_of_gt E.lt, q6, by rw [List.map_map]; exact v2⟩, hl, hc, hs⟩
end StrChars.Road
namespace StrChars
open Jvm Sem ClassFile Op Lib Jvm.Stand Jvm.Free.XT Jvm.Free.ALB Jvm.Free.JM Jvm.Free
open Jvm.Lib.Cold (StaticIs)
def hi8 (x : Int32) : Int32 := lo8 (x >>> ((8 : Int32) &&& 31))
/-- what StringUTF16.getChar makes of two bytes -/
def pairCh (u v : Int32) : Int32 := (((u &&& 255) <<< ((0 : Int32) &&& 31)) ||| ((v &&& 255) <<< ((8 : Int32) &&& 31))).toUInt32.toUInt16.toUInt32.toInt32
theorem lo8_and (x : Int32) : (lo8 x &&& 255).toBitVec.toNat = x.toBitVec.toNat % 256 := by
  have h : (lo8 x).toBitVec = (x.toBitVec.signExtend 8).signExtend 32 := by rw [lo8, Int8.toBitVec_toInt32, Int32.toBitVec_toInt8]
  rw [Int32.toBitVec_and, BitVec.toNat_and, h]
  have e : ((x.toBitVec.signExtend 8).signExtend 32).toNat % 256 = x.toBitVec.toNat % 256 := by
    rw [BitVec.toNat_signExtend]
    have hlt := x.toBitVec.isLt
    simp only [BitVec.toNat_setWidth, BitVec.toNat_signExtend]
    split <;> split <;> omega
  rw [← e]
  exact Nat.and_two_pow_sub_one_eq_mod _ 8
theorem pair_says {c : Int32} (h0 : ¬ c < 0) (h1 : ¬ 65535 < c) : pairCh (lo8 c) (hi8 c) = c := by
  rw [Int32.lt_iff_toInt_lt] at h0 h1
  have e0 : (0 : Int32).toInt = 0 := rfl
  have e1 : (65535 : Int32).toInt = 65535 := rfl
  have hc : c.toInt = c.toBitVec.toNat := by
    have := c.toBitVec.isLt
    have e : c.toInt = c.toBitVec.toInt := rfl
    rw [e] at h0 h1
    rw [e]
    rw [BitVec.toInt_eq_toNat_cond] at h0 h1 ⊢
    split at h0 <;> split <;> omega
  have hn : c.toBitVec.toNat < 65536 := by omega
  have a1 := lo8_and c
  have a2 : (hi8 c &&& 255).toBitVec.toNat = c.toBitVec.toNat / 256 := by
    rw [hi8, lo8_and]
    have e : ((8 : Int32) &&& 31) = 8 := by decide
    rw [e, Int32.toBitVec_shiftRight]
    have e2 : ((8 : Int32).toBitVec.smod 32) = 8#32 := by decide
    rw [e2, BitVec.sshiftRight_eq', BitVec.toNat_sshiftRight_of_msb_false (by rw [BitVec.msb_eq_false_iff_two_mul_lt]; omega)]
    show c.toBitVec.toNat >>> 8 % 256 = _
    rw [Nat.shiftRight_eq_div_pow]
    omega
  unfold pairCh
  apply Int32.toBitVec_inj.mp
  apply BitVec.eq_of_toNat_eq
  have f0 : ((0 : Int32) &&& 31) = 0 := by decide
  have f8 : ((8 : Int32) &&& 31) = 8 := by decide
  rw [f0, f8]
  have g : (((lo8 c &&& 255) <<< (0 : Int32)) ||| ((hi8 c &&& 255) <<< (8 : Int32))).toBitVec.toNat = c.toBitVec.toNat := by
    rw [Int32.toBitVec_or, Int32.toBitVec_shiftLeft, Int32.toBitVec_shiftLeft]
    have s0 : ((0 : Int32).toBitVec.smod 32) = 0#32 := by decide
    have s8 : ((8 : Int32).toBitVec.smod 32) = 8#32 := by decide
    rw [s0, s8, BitVec.toNat_or]
    simp only [BitVec.shiftLeft_eq', BitVec.toNat_shiftLeft, a1, a2]
    show (c.toBitVec.toNat % 256) <<< 0 % 2 ^ 32 ||| (c.toBitVec.toNat / 256) <<< 8 % 2 ^ 32 = _
    rw [Nat.shiftLeft_zero, Nat.mod_eq_of_lt (show c.toBitVec.toNat % 256 < 2 ^ 32 by omega), Nat.mod_eq_of_lt (show (c.toBitVec.toNat / 256) <<< 8 < 2 ^ 32 by rw [Nat.shiftLeft_eq]; omega), Nat.or_comm, ← Nat.shiftLeft_add_eq_or_of_lt (by omega), Nat.shiftLeft_eq]
    omega
  show BitVec.toNat (((((lo8 c &&& 255) <<< (0 : Int32)) ||| ((hi8 c &&& 255) <<< (8 : Int32))).toBitVec.setWidth 16).setWidth 32) = _
  rw [BitVec.toNat_setWidth, BitVec.toNat_setWidth, g]
  omega
end StrChars
namespace StrChars
open Jvm Sem ClassFile Op Lib Jvm.Stand Jvm.Free.XT Jvm.Free.ALB Jvm.Free.JM Jvm.Free
open Jvm.Lib.Cold (StaticIs)
/-- the array's cell V codes the n chars f 0 .. f (n - 1) by the coder cd, as the JDK does: coder 1 just where some char is above 255 -/
def Cod (cd : Int32) (n : Nat) (f : Nat → Int32) (V : Cell) : Prop := (cd = 0 ∧ V.slots.size = n ∧ ∀ j, j < n → V.slots[j]? = some (.int (lo8 (f j))) ∧ ¬ 255 < f j) ∨ (cd = 1 ∧ V.slots.size = 2 * n ∧ (∀ j, j < n → V.slots[2 * j]? = some (.int (lo8 (f j))) ∧ V.slots[2 * j + 1]? = some (.int (hi8 (f j)))) ∧ ∃ j, j < n ∧ 255 < f j)
/-- **x is a String of the n chars f 0 .. f (n - 1)**, Latin-1 or UTF-16; its array at t has the cell V -/
def Txt (x t : Addr) (V : Cell) (cd : Int32) (n : Nat) (f : Nat → Int32) (U : State) : Prop := Exact "java/lang/String" x U ∧ Has x "java/lang/String" "value" "[B" (.ref t) U ∧ Has x "java/lang/String" "coder" "B" (.int cd) U ∧ XT.Arr .byte t V U ∧ Cod cd n f V ∧ ∀ j, j < n → ¬ f j < 0 ∧ ¬ 65535 < f j
theorem Txt.mv {x t : Addr} {V : Cell} {cd : Int32} {n : Nat} {f : Nat → Int32} {U U' : State} (h : Txt x t V cd n f U) (hal : U.vm.Alike U'.vm) (hh : U'.heap = U.heap) : Txt x t V cd n f U' := ⟨h.1.mv hal hh, h.2.1.mv hal hh, h.2.2.1.mv hal hh, h.2.2.2.1.mv hal hh, h.2.2.2.2⟩
end StrChars
namespace StrChars.Road
open Jvm Sem ClassFile Op Lib Jvm.Stand Jvm.Free Jvm.Free.XT
open Jvm.Lib.Cold (StaticIs)
theorem consq {a : Array Value} {s : State} {c : Jvm.Cond} {L : List Jvm.Cond} (h0 : c.before a s = true) (h : ∀ w ∈ L, w.before a s = true) : ∀ w ∈ c :: L, w.before a s = true := fun w hw => (List.mem_cons.mp hw).elim (fun e => e ▸ h0) (h w)
/-- the bytes of the chars cs, low before high -/
def wideBytes : List Int32 → List Value
  | [] => []
  | c :: cs => .int (lo8 c) :: .int (hi8 c) :: wideBytes cs
theorem wide_lo (d : Value) : ∀ (cs : List Int32) (j : Nat), j < cs.length → (wideBytes cs).getD (2 * j) d = .int (lo8 (cs.getD j 0))
  | [], j, h => absurd h (Nat.not_lt_zero j)
  | c :: cs, 0, _ => rfl
  | c :: cs, j + 1, h => by
    have q := wide_lo d cs j (by simpa using h)
    rw [show 2 * (j + 1) = 2 * j + 1 + 1 from by omega]
    simpa [wideBytes] using q
theorem wide_hi (d : Value) : ∀ (cs : List Int32) (j : Nat), j < cs.length → (wideBytes cs).getD (2 * j + 1) d = .int (hi8 (cs.getD j 0))
  | [], j, h => absurd h (Nat.not_lt_zero j)
  | c :: cs, 0, _ => rfl
  | c :: cs, j + 1, h => by
    have q := wide_hi d cs j (by simpa using h)
    rw [show 2 * (j + 1) + 1 = 2 * j + 1 + 1 + 1 from by omega]
    simpa [wideBytes] using q
theorem low_at (d : Value) (cs : List Int32) (j : Nat) (h : j < cs.length) : (cs.map fun c => Value.int (lo8 c)).getD j d = .int (lo8 (cs.getD j 0)) := by
  simp [List.getD_eq_getElem?_getD, h]
/-- an array of N2 bytes vs codes the chars cs by the coder cd -/
def CodA (cs : List Int32) (cd N2 : Int32) (vs : List Value) : Prop := (cd = 0 ∧ N2 = Int32.ofNat cs.length ∧ vs = (cs.map fun c => Value.int (lo8 c)) ∧ ∀ c ∈ cs, ¬ 255 < c) ∨ (cd = 1 ∧ N2 = Int32.ofNat (2 * cs.length) ∧ vs = wideBytes cs ∧ ∃ c ∈ cs, 255 < c)
theorem CodA.cod {cs : List Int32} {cd N2 : Int32} {vs : List Value} {V : Cell} (h : CodA cs cd N2 vs) (hn : 2 * cs.length < 2 ^ 31) (hs : V.slots.size = N2.toNatClampNeg) (hv : RoadKit.Has V vs (.int 0)) : Cod cd cs.length (fun j => cs.getD j 0) V := by
  rcases h with ⟨rfl, rfl, rfl, h⟩ | ⟨rfl, rfl, rfl, c, hc, hw⟩
  · rw [n32 (by omega)] at hs
    exact Or.inl ⟨rfl, hs, fun j hj => ⟨by rw [hv j (by omega), low_at _ _ _ hj], by
      have e : cs.getD j 0 = cs[j] := by simp [List.getD_eq_getElem?_getD, hj]
      show ¬ 255 < cs.getD j 0
      rw [e]; exact h _ (List.getElem_mem _)⟩⟩
  · rw [n32 (by omega)] at hs
    obtain ⟨j, hj, rfl⟩ := List.getElem_of_mem hc
    exact Or.inr ⟨rfl, hs, fun j hj => ⟨by rw [hv _ (by omega), wide_lo _ _ _ hj], by rw [hv _ (by omega), wide_hi _ _ _ hj]⟩, j, hj, by
      have e : cs.getD j 0 = cs[j] := by simp [List.getD_eq_getElem?_getD, hj]
      show 255 < cs.getD j 0
      rw [e]; exact hw⟩
/-- an object of exactly java/lang/String, its two fields found: as the laws ask it -/
theorem strObj {Z U : State} {a0 : Array Value} {kI : Nat} (wi : (Jvm.Cond.instantiable ST kI).before a0 Z = true) (al : Z.vm.Alike U.vm) {x : Addr} {v0 c0 : Value} (E : RoadKit.Exa Z U.heap x ST) (V : RoadKit.Fld Z U.heap x ST "value" "[B" v0) (C : RoadKit.Fld Z U.heap x ST "coder" "B" c0) :
    ∃ (D : Cell) (fV fC : Field), Blank ST x D U ∧ Found ST "value" "[B" fV U ∧ Found ST "coder" "B" fC U ∧ D.slots[fV.slot]? = some v0 ∧ D.slots[fC.slot]? = some c0 ∧ RoadKit.slotOf Z ST "value" "[B" = fV.slot ∧ RoadKit.slotOf Z ST "coder" "B" = fC.slot := by
  obtain ⟨D, cfV, kV, iV, fV, hD, gV, stV, knV, obV, asV, slV⟩ := V
  obtain ⟨D', cfC, kC, iC, fC, hD', gC, stC, -, -, asC, slC⟩ := C
  cases hD.symm.trans hD'
  obtain ⟨D2, kD, e1, e2, e3, e4, e5⟩ := E
  cases hD.symm.trans e1
  obtain ⟨c2, k2, i1, i2, i3, -⟩ := Cond.instantiable_spec wi
  cases e2.symm.trans i1
  cases e3.symm.trans i2
  obtain ⟨kU, u1, u2⟩ := al.2.2 _ _ e3
  exact ⟨D, fV, fC, ⟨hD, ⟨knV, fun q hq => by rw [hq] at obV; cases obV⟩, by rw [al.findClass]; exact e2, kU, u1, by rw [u2]; exact i3, by rw [u2]; exact e5 i3⟩, ⟨SBG.found_only al ⟨cfV, kV, iV, gV⟩, stV⟩, ⟨SBG.found_only al ⟨cfC, kC, iC, gC⟩, stC⟩, slV, slC, by simp [RoadKit.slotOf, gV], by simp [RoadKit.slotOf, gC]⟩
theorem sta_is {Z U : State} (al : Z.vm.Alike U.vm) {C n d : String} {v : Value} (S : RoadKit.Sta Z U.heap C n d v) : StaticIs U C n d v := by
  obtain ⟨cfS, iS, kS, fS, st, cS, t1, t2, t3, t4, t5, t6, t7⟩ := S
  exact StaticIs.there (s := { Z with heap := U.heap }) ⟨cfS, iS, kS, fS, st, cS, t1, t2, t3, t4, t5, (fun q => by rw [q] at t6; cases t6), t7⟩ al rfl
end StrChars.Road
namespace StrChars
open Jvm Sem ClassFile Op Lib Jvm.Stand Jvm.Free.XT Jvm.Free.ALB Jvm.Free.JM Jvm.Free
open Jvm.Lib.Cold (StaticIs)
/-- what place i of a byte[]'s cell holds -/
def yv (A : Cell) (i : Nat) : Int32 := match A.slots[i]? with | some (.int x) => x | _ => 0
theorem yv_get {a : Addr} {A : Cell} {U : State} (h : XT.Arr .byte a A U) (ht : Typed .byte A) {i : Nat} (hi : i < A.slots.size) : A.slots[i]? = some (.int (yv A i)) := by
  have e := Array.getElem?_eq_getElem hi
  have f := ht i _ e
  unfold yv; rw [e]
  generalize A.slots[i] = v at f
  cases v <;> simp [fits] at f ⊢
/-- the two arrays are equal, place for place -/
def EqC (A B : Cell) : Prop := A.slots.size = B.slots.size ∧ ∀ i, i < A.slots.size → yv A i = yv B i
/-- a boolean that says whether p -/
def Says01 (q : Prop) (r : Option Value) (s u : State) : Prop := ∃ v : Int32, r = some (.int v) ∧ u.heap = s.heap ∧ ((v = 1 ∧ q) ∨ (v = 0 ∧ ¬ q))
theorem Says01.mv {q : Prop} : ∀ r (U U' V V' : State), U'.heap = U.heap → V.vm.Alike V'.vm → V'.heap = V.heap → Says01 q r U V → Says01 q r U' V' :=
  fun r U U' V V' h1 _ h2 ⟨v, a, b, c⟩ => ⟨v, a, by rw [h1, h2]; exact b, c⟩
namespace LEq
def yN : MethodName := ⟨"java/lang/StringLatin1", "equals", "([B[B)Z"⟩
abbrev yB : ByteArray := jdk_43_method_13_code
theorem d0 : decode yB 0 = .ok (.aload_n 0, 1) := by decide +kernel
theorem d1 : decode yB 1 = .ok (.arraylength, 1) := by decide +kernel
theorem d2 : decode yB 2 = .ok (.aload_n 1, 1) := by decide +kernel
theorem d3 : decode yB 3 = .ok (.arraylength, 1) := by decide +kernel
theorem d4 : decode yB 4 = .ok (.if_icmp (.ne) 30, 3) := by decide +kernel
theorem d7 : decode yB 7 = .ok (.iconst 0, 1) := by decide +kernel
theorem d8 : decode yB 8 = .ok (.istore_n 2, 1) := by decide +kernel
theorem d9 : decode yB 9 = .ok (.iload_n 2, 1) := by decide +kernel
theorem d10 : decode yB 10 = .ok (.aload_n 0, 1) := by decide +kernel
theorem d11 : decode yB 11 = .ok (.arraylength, 1) := by decide +kernel
theorem d12 : decode yB 12 = .ok (.if_icmp (.ge) 20, 3) := by decide +kernel
theorem d15 : decode yB 15 = .ok (.aload_n 0, 1) := by decide +kernel
theorem d16 : decode yB 16 = .ok (.iload_n 2, 1) := by decide +kernel
theorem d17 : decode yB 17 = .ok (.baload, 1) := by decide +kernel
theorem d18 : decode yB 18 = .ok (.aload_n 1, 1) := by decide +kernel
theorem d19 : decode yB 19 = .ok (.iload_n 2, 1) := by decide +kernel
theorem d20 : decode yB 20 = .ok (.baload, 1) := by decide +kernel
theorem d21 : decode yB 21 = .ok (.if_icmp (.eq) 5, 3) := by decide +kernel
theorem d24 : decode yB 24 = .ok (.iconst 0, 1) := by decide +kernel
theorem d25 : decode yB 25 = .ok (.ireturn, 1) := by decide +kernel
theorem d26 : decode yB 26 = .ok (.iinc 2 1, 3) := by decide +kernel
theorem d29 : decode yB 29 = .ok (.goto (-20), 3) := by decide +kernel
theorem d32 : decode yB 32 = .ok (.iconst 1, 1) := by decide +kernel
theorem d33 : decode yB 33 = .ok (.ireturn, 1) := by decide +kernel
theorem d34 : decode yB 34 = .ok (.iconst 0, 1) := by decide +kernel
theorem d35 : decode yB 35 = .ok (.ireturn, 1) := by decide +kernel
def site : List Cond := []
def tab : Cond := tabOf yN yB 3 (some .boolean) site
def P (a : Addr) (A : Cell) (b : Addr) (B : Cell) (args : Array Value) (s : State) : Prop := args = #[.ref a, .ref b] ∧ XT.Arr .byte a A s ∧ Typed .byte A ∧ XT.Arr .byte b B s ∧ Typed .byte B
/-- whether two byte[] are equal, place for place -/
theorem law (l : Launch) (a : Addr) (A : Cell) (b : Addr) (B : Cell) : Law l yN 2 2 0 0 yB 3 (some .boolean) site (P a A b B) (Says01 (EqC A B)) [] 0 0 := by
  refine Law.of_walk (plainFor_of_name (by decide +kernel)) (by decide +kernel) (by decide +kernel) (by decide) (fun _ _ h => by rw [h.1]; rfl) (fun _ U U' hal hh h => ⟨h.1, h.2.1.mv hal hh, h.2.2.1, h.2.2.2.1.mv hal hh, h.2.2.2.2⟩) (fun r U U' V V' h1 hal h2 h => Says01.mv r U U' V V' h1 hal h2 h) ?_
  intro p e s m args below meth c s₁ X0 hexec hbytes hml hret hlk hnm hown hh0 W hP
  obtain ⟨rfl, hA, tA, hB, tB⟩ := hP
  have a31 := hA.2.2.2
  have b31 := hB.2.2.2
  have hA0 := hA.mv X0.warmed.alike hh0
  have hB0 := hB.mv X0.warmed.alike hh0
  have c1 : Steps p.tables e below (s₁.setTop (entryFrame m #[.ref a, .ref b] 3)) (s₁.setTop (mkF m 0 #[.val (.ref a), .val (.ref b), .unset] [])) := entry rfl
  have c2 : Steps p.tables e below (s₁.setTop (entryFrame m #[.ref a, .ref b] 3)) (s₁.setTop (mkF m 4 #[.val (.ref a), .val (.ref b), .unset] [.int (Int32.ofNat B.slots.size), .int (Int32.ofNat A.slots.size)])) := c1.trans (by
    refine XS.aloadN X0.here hexec rfl (hb hbytes d0) rfl rfl ?_
    refine X0.alen hexec hA0 rfl rfl (hb hbytes d1) ?_
    refine XS.aloadN X0.here hexec rfl (hb hbytes d2) rfl rfl ?_
    refine X0.alen hexec hB0 rfl rfl (hb hbytes d3) ?_
    exact Steps.refl _)
  by_cases hs : A.slots.size = B.slots.size
  · have c3 : Steps p.tables e below (s₁.setTop (entryFrame m #[.ref a, .ref b] 3)) (s₁.setTop (mkF m 9 #[.val (.ref a), .val (.ref b), .val (.int 0)] [])) := c2.trans (by
      refine XS.icmpNo X0.here hexec rfl (hb hbytes d4) rfl (ii_ne_f (by rw [hs])) ?_
      refine iconstV X0.here hexec rfl 0 (hb hbytes d7) (by decide) ?_
      refine XS.istoreN X0.here hexec rfl (hb hbytes d8) rfl rfl ?_
      exact Steps.refl _)
    have loop : ∀ (r i : Nat), i + r = A.slots.size → (∀ j, j < i → yv A j = yv B j) → Steps p.tables e below (s₁.setTop (entryFrame m #[.ref a, .ref b] 3)) (s₁.setTop (mkF m 9 #[.val (.ref a), .val (.ref b), .val (.int (Int32.ofNat i))] [])) → ∃ (pc : Nat) (Ls : Array Slot) (v : Int32), (pc = 25 ∨ pc = 33) ∧ ((v = 1 ∧ EqC A B) ∨ (v = 0 ∧ ¬ EqC A B)) ∧ Steps p.tables e below (s₁.setTop (entryFrame m #[.ref a, .ref b] 3)) (s₁.setTop (mkF m pc Ls [.int v])) := by
      intro r
      induction r with
      | zero =>
        intro i hi he cl
        exact ⟨33, _, 1, Or.inr rfl, Or.inl ⟨rfl, hs, fun j hj => he j (by omega)⟩, cl.trans (by
          refine XS.iloadN X0.here hexec rfl (hb hbytes d9) rfl ?_
          refine XS.aloadN X0.here hexec rfl (hb hbytes d10) rfl rfl ?_
          refine X0.alen hexec hA0 rfl rfl (hb hbytes d11) ?_
          refine XS.icmpYes X0.here hexec rfl (pc0 := 12) rfl (hb hbytes d12) rfl (ii_ge_t (nlt32 (by omega) (by omega))) (by decide) rfl ?_
          refine iconstV X0.here hexec rfl 1 (hb hbytes d32) (by decide) ?_
          exact Steps.refl _)⟩
      | succ r ih =>
        intro i hi he cl
        have c4 : Steps p.tables e below (s₁.setTop (entryFrame m #[.ref a, .ref b] 3)) (s₁.setTop (mkF m 21 #[.val (.ref a), .val (.ref b), .val (.int (Int32.ofNat i))] [.int (yv B i), .int (yv A i)])) := cl.trans (by
          refine XS.iloadN X0.here hexec rfl (hb hbytes d9) rfl ?_
          refine XS.aloadN X0.here hexec rfl (hb hbytes d10) rfl rfl ?_
          refine X0.alen hexec hA0 rfl rfl (hb hbytes d11) ?_
          refine XS.icmpNo X0.here hexec rfl (hb hbytes d12) rfl (ii_ge_f (lt32 (by omega) (by omega))) ?_
          refine XS.aloadN X0.here hexec rfl (hb hbytes d15) rfl rfl ?_
          refine XS.iloadN X0.here hexec rfl (hb hbytes d16) rfl ?_
          refine X0.aget hexec hA0 rfl (yv_get hA tA (i := i) (by omega)) rfl rfl (hb hbytes d17) ?_
          refine XS.aloadN X0.here hexec rfl (hb hbytes d18) rfl rfl ?_
          refine XS.iloadN X0.here hexec rfl (hb hbytes d19) rfl ?_
          refine X0.aget hexec hB0 rfl (yv_get hB tB (i := i) (by omega)) rfl rfl (hb hbytes d20) ?_
          exact Steps.refl _)
        by_cases hv : yv A i = yv B i
        · have c5 : Steps p.tables e below (s₁.setTop (entryFrame m #[.ref a, .ref b] 3)) (s₁.setTop (mkF m 9 #[.val (.ref a), .val (.ref b), .val (.int (Int32.ofNat i + 1))] [])) := c4.trans (by
            refine XS.icmpYes X0.here hexec rfl (pc0 := 21) rfl (hb hbytes d21) rfl (ii_eq_t hv) (by decide) rfl ?_
            refine iincV X0.here hexec rfl 1 (hb hbytes d26) (by decide) rfl rfl ?_
            refine XS.goto X0.here hexec rfl (pc0 := 29) rfl (hb hbytes d29) (by decide) rfl ?_
            exact Steps.refl _)
          rw [succ32] at c5
          exact ih (i + 1) (by omega) (fun j hj => by
            by_cases e : j = i
            · rw [e]; exact hv
            · exact he j (by omega)) c5
        · exact ⟨25, _, 0, Or.inl rfl, Or.inr ⟨rfl, fun q => hv (q.2 i (by omega))⟩, c4.trans (by
            refine XS.icmpNo X0.here hexec rfl (hb hbytes d21) rfl (ii_eq_f hv) ?_
            refine iconstV X0.here hexec rfl 0 (hb hbytes d24) (by decide) ?_
            exact Steps.refl _)⟩
    obtain ⟨pc, Ls, v, hpc, hv, cz⟩ := loop A.slots.size 0 (by omega) (fun j hj => absurd hj (Nat.not_lt_zero j)) c3
    have nv : narrow .boolean (.int v) = .int v := by rcases hv with ⟨rfl, -⟩ | ⟨rfl, -⟩ <;> rfl
    rcases hpc with rfl | rfl
    · exact ⟨s₁, some (.int v), _, _, _, X0, rfl, rfl, rfl, (fun h => by cases h), ⟨v, rfl, hh0, hv⟩, fun fs hl => cz.trans (X0.ireturnOut hexec hret nv (Or.inr (Or.inl rfl)) (hb hbytes d25) hl)⟩
    · exact ⟨s₁, some (.int v), _, _, _, X0, rfl, rfl, rfl, (fun h => by cases h), ⟨v, rfl, hh0, hv⟩, fun fs hl => cz.trans (X0.ireturnOut hexec hret nv (Or.inr (Or.inl rfl)) (hb hbytes d33) hl)⟩
  · have c3 : Steps p.tables e below (s₁.setTop (entryFrame m #[.ref a, .ref b] 3)) (s₁.setTop (mkF m 35 #[.val (.ref a), .val (.ref b), .unset] [.int 0])) := c2.trans (by
      refine XS.icmpYes X0.here hexec rfl (pc0 := 4) rfl (hb hbytes d4) rfl (ii_ne_t (ne32 a31 b31 hs)) (by decide) rfl ?_
      refine iconstV X0.here hexec rfl 0 (hb hbytes d34) (by decide) ?_
      exact Steps.refl _)
    exact ⟨s₁, some (.int 0), _, _, _, X0, rfl, rfl, rfl, (fun h => by cases h), ⟨0, rfl, hh0, Or.inr ⟨rfl, fun q => hs q.1⟩⟩, fun fs hl => c3.trans (X0.ireturnOut hexec hret rfl (Or.inr (Or.inl rfl)) (hb hbytes d35) hl)⟩
end LEq
theorem Cod.ty {cd : Int32} {n : Nat} {f : Nat → Int32} {V : Cell} (h : Cod cd n f V) : Typed .byte V := fun i v hv => by
  have hi : i < V.slots.size := (Array.getElem?_eq_some_iff.mp hv).1
  rcases h with ⟨-, k1, k2⟩ | ⟨-, k1, k2, -⟩
  · rw [(k2 i (by omega)).1] at hv; cases hv; exact fits_lo8 _
  · rcases Nat.mod_two_eq_zero_or_one i with e | e
    · obtain ⟨j, rfl⟩ : ∃ j, i = 2 * j := ⟨i / 2, by omega⟩
      rw [(k2 j (by omega)).1] at hv; cases hv; exact fits_lo8 _
    · obtain ⟨j, rfl⟩ : ∃ j, i = 2 * j + 1 := ⟨i / 2, by omega⟩
      rw [(k2 j (by omega)).2] at hv; cases hv; exact fits_lo8 _
/-- the same text -/
def SameT (n : Nat) (f : Nat → Int32) (k : Nat) (g : Nat → Int32) : Prop := n = k ∧ ∀ j, j < n → f j = g j
theorem lo8_inj {x y : Int32} (h0 : ¬ x < 0) (h1 : ¬ 255 < x) (k0 : ¬ y < 0) (k1 : ¬ 255 < y) (h : lo8 x = lo8 y) : x = y := by
  rw [← lo8_mask h0 h1, ← lo8_mask k0 k1, h]
/-- arrays coded by one coder are equal just where the texts are -/
theorem Cod.eqv {cd : Int32} {n k : Nat} {f g : Nat → Int32} {V V' : Cell} (h : Cod cd n f V) (h' : Cod cd k g V') (hf : ∀ j, j < n → ¬ f j < 0 ∧ ¬ 65535 < f j) (hg : ∀ j, j < k → ¬ g j < 0 ∧ ¬ 65535 < g j) : EqC V V' ↔ SameT n f k g := by
  have yvv : ∀ {W : Cell} {i : Nat} {x : Int32}, W.slots[i]? = some (.int x) → yv W i = x := fun q => by unfold yv; rw [q]
  rcases h with ⟨rfl, k1, k2⟩ | ⟨rfl, k1, k2, -⟩
  · rcases h' with ⟨-, m1, m2⟩ | ⟨e, -⟩
    · constructor
      · rintro ⟨e1, e2⟩
        refine ⟨by omega, fun j hj => ?_⟩
        have q := e2 j (by omega)
        rw [yvv (k2 j hj).1, yvv (m2 j (by omega)).1] at q
        exact lo8_inj (hf j hj).1 (k2 j hj).2 (hg j (by omega)).1 (m2 j (by omega)).2 q
      · rintro ⟨rfl, e2⟩
        refine ⟨by omega, fun j hj => ?_⟩
        rw [yvv (k2 j (by omega)).1, yvv (m2 j (by omega)).1, e2 j (by omega)]
    · exact absurd e (by decide)
  · rcases h' with ⟨e, -⟩ | ⟨-, m1, m2, -⟩
    · exact absurd e (by decide)
    · constructor
      · rintro ⟨e1, e2⟩
        refine ⟨by omega, fun j hj => ?_⟩
        have q1 := e2 (2 * j) (by omega)
        have q2 := e2 (2 * j + 1) (by omega)
        rw [yvv (k2 j hj).1, yvv (m2 j (by omega)).1] at q1
        rw [yvv (k2 j hj).2, yvv (m2 j (by omega)).2] at q2
        rw [← pair_says (hf j hj).1 (hf j hj).2, ← pair_says (hg j (by omega)).1 (hg j (by omega)).2, q1, q2]
      · rintro ⟨rfl, e2⟩
        refine ⟨by omega, fun i hi => ?_⟩
        rcases Nat.mod_two_eq_zero_or_one i with e | e
        · obtain ⟨j, rfl⟩ : ∃ j, i = 2 * j := ⟨i / 2, by omega⟩
          rw [yvv (k2 j (by omega)).1, yvv (m2 j (by omega)).1, e2 j (by omega)]
        · obtain ⟨j, rfl⟩ : ∃ j, i = 2 * j + 1 := ⟨i / 2, by omega⟩
          rw [yvv (k2 j (by omega)).2, yvv (m2 j (by omega)).2, e2 j (by omega)]
/-- two codings differ: so do the texts -/
theorem Cod.dif {cd cd' : Int32} {n k : Nat} {f g : Nat → Int32} {V V' : Cell} (h : Cod cd n f V) (h' : Cod cd' k g V') (hne : ¬ cd = cd') : ¬ SameT n f k g := by
  rintro ⟨rfl, e⟩
  rcases h with ⟨rfl, -, k2⟩ | ⟨rfl, -, -, j, hj, hw⟩
  · rcases h' with ⟨rfl, -⟩ | ⟨-, -, -, j, hj, hw⟩
    · exact hne rfl
    · exact (k2 j hj).2 (by rw [e j hj]; exact hw)
  · rcases h' with ⟨-, -, m2⟩ | ⟨rfl, -⟩
    · exact (m2 j hj).2 (by rw [← e j hj]; exact hw)
    · exact hne rfl
/-- an object of exactly C is an instance of C -/
theorem cinst {p : Program} {l : Launch} {e : Env} {R : Room} {s : State} {m : MethodId} {args : Array Value} {below : List Frame} {meth : Method} {c : Code} {T : State} {locs : List Loc} {cells slots : Nat} (X : Stand p l e R s m args below meth c T locs cells slots) (hexec : p.tables.exec = Jvm.exec) {own C : String} {index : Nat} (hown : s.vm.findClass own = some m.cls) (hlink : (Cond.classLink own index C).before args s = true) {a : Addr} (hE : Exact C a T)
    {g : JFrame} (hg : g.method = m) {rest : List Value} (hstack : g.stack = .ref a :: rest) (hdg : decode c.code g.pc = .ok (.instanceof index, 3)) :
    ∃ T', Stand p l e R s m args below meth c T' locs cells slots ∧ T'.heap = T.heap ∧ ∀ target, Steps p.tables e below (T'.setTop { g with pc := g.pc + 3, stack := .int 1 :: rest }) target → Steps p.tables e below (T.setTop g) target := by
  obtain ⟨cB, h1, D, h2, h3, h4⟩ := hE
  have h1' : s.vm.findClass C = some cB := by rw [← X.warmed.alike.findClass]; exact h1
  obtain ⟨vm', X', st⟩ := X.instanceofYes hexec hown hlink h2 h4 h1' (by rw [h3]; exact Jvm.Free.SB.assignable_self _ _) hg hstack hdg
  exact ⟨_, X', rfl, st⟩
theorem cself {p : Program} {l : Launch} {e : Env} {R : Room} {s : State} {m : MethodId} {args : Array Value} {below : List Frame} {meth : Method} {c : Code} {T : State} {locs : List Loc} {cells slots : Nat} (X : Stand p l e R s m args below meth c T locs cells slots) (hexec : p.tables.exec = Jvm.exec) {own C : String} {index : Nat} (hown : s.vm.findClass own = some m.cls) (hlink : (Cond.classLink own index C).before args s = true) {a : Addr} (hE : Exact C a T)
    {g : JFrame} (hg : g.method = m) {rest : List Value} (hstack : g.stack = .ref a :: rest) (hdg : decode c.code g.pc = .ok (.checkcast index, 3)) :
    ∃ T', Stand p l e R s m args below meth c T' locs cells slots ∧ T'.heap = T.heap ∧ ∀ target, Steps p.tables e below (T'.setTop { g with pc := g.pc + 3, stack := .ref a :: rest }) target → Steps p.tables e below (T.setTop g) target := by
  obtain ⟨cB, h1, D, h2, h3, h4⟩ := hE
  have h1' : s.vm.findClass C = some cB := by rw [← X.warmed.alike.findClass]; exact h1
  obtain ⟨vm', X', st⟩ := X.checkcastYes hexec hown hlink h2 h4 h1' (by rw [h3]; exact Jvm.Free.SB.assignable_self _ _) hg hstack hdg
  exact ⟨_, X', rfl, fun t h => st t (by rw [← hstack] at h; exact h)⟩
namespace SEq
def yN : MethodName := ⟨"java/lang/String", "equals", "(Ljava/lang/Object;)Z"⟩
abbrev yB : ByteArray := jdk_42_method_66_code
theorem d0 : decode yB 0 = .ok (.aload_n 0, 1) := by decide +kernel
theorem d1 : decode yB 1 = .ok (.aload_n 1, 1) := by decide +kernel
theorem d2 : decode yB 2 = .ok (.if_acmp (.ne) 5, 3) := by decide +kernel
theorem d5 : decode yB 5 = .ok (.iconst 1, 1) := by decide +kernel
theorem d6 : decode yB 6 = .ok (.ireturn, 1) := by decide +kernel
theorem d7 : decode yB 7 = .ok (.aload_n 1, 1) := by decide +kernel
theorem d8 : decode yB 8 = .ok (.instanceof 10, 3) := by decide +kernel
theorem d11 : decode yB 11 = .ok (.ifCond (.eq) 43, 3) := by decide +kernel
theorem d14 : decode yB 14 = .ok (.aload_n 1, 1) := by decide +kernel
theorem d15 : decode yB 15 = .ok (.checkcast 10, 3) := by decide +kernel
theorem d18 : decode yB 18 = .ok (.astore_n 2, 1) := by decide +kernel
theorem d19 : decode yB 19 = .ok (.getstatic 38, 3) := by decide +kernel
theorem d22 : decode yB 22 = .ok (.ifCond (.eq) 14, 3) := by decide +kernel
theorem d25 : decode yB 25 = .ok (.aload_n 0, 1) := by decide +kernel
theorem d26 : decode yB 26 = .ok (.getfield 15, 3) := by decide +kernel
theorem d29 : decode yB 29 = .ok (.aload_n 2, 1) := by decide +kernel
theorem d30 : decode yB 30 = .ok (.getfield 15, 3) := by decide +kernel
theorem d33 : decode yB 33 = .ok (.if_icmp (.ne) 21, 3) := by decide +kernel
theorem d36 : decode yB 36 = .ok (.aload_n 0, 1) := by decide +kernel
theorem d37 : decode yB 37 = .ok (.getfield 9, 3) := by decide +kernel
theorem d40 : decode yB 40 = .ok (.aload_n 2, 1) := by decide +kernel
theorem d41 : decode yB 41 = .ok (.getfield 9, 3) := by decide +kernel
theorem d44 : decode yB 44 = .ok (.invokestatic 541, 3) := by decide +kernel
theorem d47 : decode yB 47 = .ok (.ifCond (.eq) 7, 3) := by decide +kernel
theorem d50 : decode yB 50 = .ok (.iconst 1, 1) := by decide +kernel
theorem d51 : decode yB 51 = .ok (.goto 4, 3) := by decide +kernel
theorem d54 : decode yB 54 = .ok (.iconst 0, 1) := by decide +kernel
theorem d55 : decode yB 55 = .ok (.ireturn, 1) := by decide +kernel
def site : List Cond := [.classLink "java/lang/String" 10 "java/lang/String", .fieldLink "java/lang/String" 38 "java/lang/String" "COMPACT_STRINGS" "Z", .fieldLink "java/lang/String" 15 "java/lang/String" "coder" "B", .fieldLink "java/lang/String" 9 "java/lang/String" "value" "[B", LEq.tab] ++ staticW "java/lang/String" 541 LEq.yN
def tab : Cond := tabOf yN yB 3 (some .boolean) site
def P (x t : Addr) (V : Cell) (cd : Int32) (n : Nat) (f : Nat → Int32) (y t' : Addr) (V' : Cell) (cd' : Int32) (k : Nat) (g : Nat → Int32) (z : Int32) (args : Array Value) (s : State) : Prop := args = #[.ref x, .ref y] ∧ Txt x t V cd n f s ∧ Txt y t' V' cd' k g s ∧ StaticIs s "java/lang/String" "COMPACT_STRINGS" "Z" (.int z) ∧ ¬ z = 0
/-- equals(Object) of two Strings: whether the texts are the same -/
theorem law (l : Launch) (x t : Addr) (V : Cell) (cd : Int32) (n : Nat) (f : Nat → Int32) (y t' : Addr) (V' : Cell) (cd' : Int32) (k : Nat) (g : Nat → Int32) (z : Int32) : Law l yN 2 1 1 14 yB 3 (some .boolean) site (P x t V cd n f y t' V' cd' k g z) (Says01 (SameT n f k g)) [] 0 0 := by
  refine Law.of_walk (plainFor_of_name (by decide +kernel)) (by decide +kernel) (by decide +kernel) (by decide) (fun _ _ h => by rw [h.1]; rfl) (fun _ U U' hal hh h => ⟨h.1, h.2.1.mv hal hh, h.2.2.1.mv hal hh, h.2.2.2.1.there hal hh, h.2.2.2.2⟩) (fun r U U' V V' h1 hal h2 h => Says01.mv r U U' V V' h1 hal h2 h) ?_
  intro p e s m args below meth c s₁ X0 hexec hbytes hml hret hlk hnm hown hh0 W hP
  obtain ⟨rfl, hx, hy, s1, hz⟩ := hP
  have c1 : Steps p.tables e below (s₁.setTop (entryFrame m #[.ref x, .ref y] 3)) (s₁.setTop (mkF m 2 #[.val (.ref x), .val (.ref y), .unset] [.ref y, .ref x])) := Steps.trans (entry rfl) (by
    show Steps p.tables e below (s₁.setTop (mkF m 0 #[.val (.ref x), .val (.ref y), .unset] [])) _
    refine XS.aloadN X0.here hexec rfl (hb hbytes d0) rfl rfl ?_
    refine XS.aloadN X0.here hexec rfl (hb hbytes d1) rfl rfl ?_
    exact Steps.refl _)
  by_cases hxy : x = y
  · have c2 : Steps p.tables e below (s₁.setTop (entryFrame m #[.ref x, .ref y] 3)) (s₁.setTop (mkF m 6 #[.val (.ref x), .val (.ref y), .unset] [.int 1])) := c1.trans (by
      refine acmpNo X0.here hexec rfl (hb hbytes d2) rfl rfl rfl (by simp [acmp, hxy]) ?_
      refine iconstV X0.here hexec rfl 1 (hb hbytes d5) (by decide) ?_
      exact Steps.refl _)
    subst hxy
    have ec : cd = cd' := by
      obtain ⟨D, fd, a1, a2, a3⟩ := hx.2.2.1
      obtain ⟨D', fd', b1, b2, b3⟩ := hy.2.2.1
      cases a1.symm.trans b1
      obtain ⟨q1, q2, q3, q4⟩ := a2.1
      obtain ⟨r1, r2, r3, r4⟩ := b2.1
      cases q4.symm.trans r4
      cases a3.symm.trans b3; rfl
    have et : t = t' := by
      obtain ⟨D, fd, a1, a2, a3⟩ := hx.2.1
      obtain ⟨D', fd', b1, b2, b3⟩ := hy.2.1
      cases a1.symm.trans b1
      obtain ⟨q1, q2, q3, q4⟩ := a2.1
      obtain ⟨r1, r2, r3, r4⟩ := b2.1
      cases q4.symm.trans r4
      cases a3.symm.trans b3; rfl
    subst ec et
    have ev : V = V' := by cases hx.2.2.2.1.1.symm.trans hy.2.2.2.1.1; rfl
    subst ev
    have hs : SameT n f k g := (Cod.eqv hx.2.2.2.2.1 hy.2.2.2.2.1 hx.2.2.2.2.2 hy.2.2.2.2.2).mp ⟨rfl, fun _ _ => rfl⟩
    exact ⟨s₁, some (.int 1), _, _, _, X0, rfl, rfl, rfl, (fun h => by cases h), ⟨1, rfl, hh0, Or.inl ⟨rfl, hs⟩⟩, fun fs hl => c2.trans (X0.ireturnOut hexec hret rfl (Or.inr (Or.inl rfl)) (hb hbytes d6) hl)⟩
  · have c2 : Steps p.tables e below (s₁.setTop (entryFrame m #[.ref x, .ref y] 3)) (s₁.setTop (mkF m 8 #[.val (.ref x), .val (.ref y), .unset] [.ref y])) := c1.trans (by
      refine acmpYes X0.here hexec rfl (pc0 := 2) rfl (hb hbytes d2) rfl rfl rfl (by simp [acmp, hxy]) (by decide) rfl ?_
      refine XS.aloadN X0.here hexec rfl (hb hbytes d7) rfl rfl ?_
      exact Steps.refl _)
    obtain ⟨T3, X3, q3, st3⟩ := cinst X0 hexec hown (wk W (.classLink "java/lang/String" 10 "java/lang/String")) (hy.mv X0.warmed.alike hh0).1 (g := (mkF m 8 #[.val (.ref x), .val (.ref y), .unset] [.ref y])) rfl (rest := []) rfl (hb hbytes d8)
    have hh3 := q3.trans hh0
    have c4 : Steps p.tables e below (s₁.setTop (entryFrame m #[.ref x, .ref y] 3)) (T3.setTop (mkF m 15 #[.val (.ref x), .val (.ref y), .unset] [.ref y])) := (c2.trans (st3 _ (Steps.refl _))).trans (by
      refine XS.ifNo X3.here hexec rfl (hb hbytes d11) rfl (i0_eq_f (by decide)) ?_
      refine XS.aloadN X3.here hexec rfl (hb hbytes d14) rfl rfl ?_
      exact Steps.refl _)
    obtain ⟨T5, X5, q5, st5⟩ := cself X3 hexec hown (wk W (.classLink "java/lang/String" 10 "java/lang/String")) (hy.mv X3.warmed.alike hh3).1 (g := (mkF m 15 #[.val (.ref x), .val (.ref y), .unset] [.ref y])) rfl (rest := []) rfl (hb hbytes d15)
    have hh5 := q5.trans hh3
    have c6 : Steps p.tables e below (s₁.setTop (entryFrame m #[.ref x, .ref y] 3)) (T5.setTop (mkF m 19 #[.val (.ref x), .val (.ref y), .val (.ref y)] [])) := (c4.trans (st5 _ (Steps.refl _))).trans (by
      refine XS.astoreN X5.here hexec rfl (hb hbytes d18) rfl rfl rfl ?_
      exact Steps.refl _)
    obtain ⟨T7, X7, q7, st7⟩ := X5.sget hexec hown (wk W (.fieldLink "java/lang/String" 38 "java/lang/String" "COMPACT_STRINGS" "Z")) s1 (fun _ _ h => by rw [hh5]; exact h) (g := (mkF m 19 #[.val (.ref x), .val (.ref y), .val (.ref y)] [])) rfl (hb hbytes d19)
    have hh7 := q7.trans hh5
    have c8 : Steps p.tables e below (s₁.setTop (entryFrame m #[.ref x, .ref y] 3)) (T7.setTop (mkF m 26 #[.val (.ref x), .val (.ref y), .val (.ref y)] [.ref x])) := (c6.trans (st7 _ (Steps.refl _))).trans (by
      refine XS.ifNo X7.here hexec rfl (hb hbytes d22) rfl (i0_eq_f hz) ?_
      refine XS.aloadN X7.here hexec rfl (hb hbytes d25) rfl rfl ?_
      exact Steps.refl _)
    obtain ⟨T9, X9, q9, st9⟩ := X7.hget hexec hown (wk W (.fieldLink "java/lang/String" 15 "java/lang/String" "coder" "B")) (hx.mv X7.warmed.alike hh7).2.2.1 (g := (mkF m 26 #[.val (.ref x), .val (.ref y), .val (.ref y)] [.ref x])) rfl (rest := []) rfl (hb hbytes d26)
    have hh9 := q9.trans hh7
    have c10 : Steps p.tables e below (s₁.setTop (entryFrame m #[.ref x, .ref y] 3)) (T9.setTop (mkF m 30 #[.val (.ref x), .val (.ref y), .val (.ref y)] [.ref y, .int cd])) := (c8.trans (st9 _ (Steps.refl _))).trans (by
      refine XS.aloadN X9.here hexec rfl (hb hbytes d29) rfl rfl ?_
      exact Steps.refl _)
    obtain ⟨T11, X11, q11, st11⟩ := X9.hget hexec hown (wk W (.fieldLink "java/lang/String" 15 "java/lang/String" "coder" "B")) (hy.mv X9.warmed.alike hh9).2.2.1 (g := (mkF m 30 #[.val (.ref x), .val (.ref y), .val (.ref y)] [.ref y, .int cd])) rfl (rest := [.int cd]) rfl (hb hbytes d30)
    have hh11 := q11.trans hh9
    have c12 : Steps p.tables e below (s₁.setTop (entryFrame m #[.ref x, .ref y] 3)) (T11.setTop (mkF m 33 #[.val (.ref x), .val (.ref y), .val (.ref y)] [.int cd', .int cd])) := c10.trans (st11 _ (Steps.refl _))
    by_cases hcd : cd = cd'
    · subst hcd
      have c13 : Steps p.tables e below (s₁.setTop (entryFrame m #[.ref x, .ref y] 3)) (T11.setTop (mkF m 37 #[.val (.ref x), .val (.ref y), .val (.ref y)] [.ref x])) := c12.trans (by
        refine XS.icmpNo X11.here hexec rfl (hb hbytes d33) rfl (ii_ne_f rfl) ?_
        refine XS.aloadN X11.here hexec rfl (hb hbytes d36) rfl rfl ?_
        exact Steps.refl _)
      obtain ⟨T14, X14, q14, st14⟩ := X11.hget hexec hown (wk W (.fieldLink "java/lang/String" 9 "java/lang/String" "value" "[B")) (hx.mv X11.warmed.alike hh11).2.1 (g := (mkF m 37 #[.val (.ref x), .val (.ref y), .val (.ref y)] [.ref x])) rfl (rest := []) rfl (hb hbytes d37)
      have hh14 := q14.trans hh11
      have c15 : Steps p.tables e below (s₁.setTop (entryFrame m #[.ref x, .ref y] 3)) (T14.setTop (mkF m 41 #[.val (.ref x), .val (.ref y), .val (.ref y)] [.ref y, .ref t])) := (c13.trans (st14 _ (Steps.refl _))).trans (by
        refine XS.aloadN X14.here hexec rfl (hb hbytes d40) rfl rfl ?_
        exact Steps.refl _)
      obtain ⟨T16, X16, q16, st16⟩ := X14.hget hexec hown (wk W (.fieldLink "java/lang/String" 9 "java/lang/String" "value" "[B")) (hy.mv X14.warmed.alike hh14).2.1 (g := (mkF m 41 #[.val (.ref x), .val (.ref y), .val (.ref y)] [.ref y, .ref t])) rfl (rest := [.ref t]) rfl (hb hbytes d41)
      have hh16 := q16.trans hh14
      have c17 : Steps p.tables e below (s₁.setTop (entryFrame m #[.ref x, .ref y] 3)) (T16.setTop (mkF m 44 #[.val (.ref x), .val (.ref y), .val (.ref y)] [.ref t', .ref t])) := c15.trans (st16 _ (Steps.refl _))
      obtain ⟨v18, T18, X18, E18, g18⟩ := X16.callS hexec (LEq.law l t V t' V') hown (wks W (staticW "java/lang/String" 541 LEq.yN)) (wk W LEq.tab) (W := 0) (Nat.le_of_ble_eq_true rfl) (Nat.le_of_ble_eq_true rfl) (Nat.le_refl _) (Nat.le_refl _) (g := (mkF m 44 #[.val (.ref x), .val (.ref y), .val (.ref y)] [.ref t', .ref t])) rfl (by rw [hml]; rfl) c17 (argsL := [.ref t, .ref t']) (rest := []) rfl rfl (by show 2 * 0 + 0 ≤ _; decide) (hb hbytes d44) (⟨rfl, hx.2.2.2.1.mv X16.warmed.alike hh16, hx.2.2.2.2.1.ty, hy.2.2.2.1.mv X16.warmed.alike hh16, hy.2.2.2.2.1.ty⟩)
      obtain ⟨v, rfl, q18, hv⟩ := E18
      have iff := Cod.eqv hx.2.2.2.2.1 hy.2.2.2.2.1 hx.2.2.2.2.2 hy.2.2.2.2.2
      rcases hv with ⟨rfl, he⟩ | ⟨rfl, he⟩
      · have c19 : Steps p.tables e below (s₁.setTop (entryFrame m #[.ref x, .ref y] 3)) (T18.setTop (mkF m 55 #[.val (.ref x), .val (.ref y), .val (.ref y)] [.int 1])) := Steps.trans g18 (by
          refine XS.ifNo X18.here hexec rfl (hb hbytes d47) rfl (i0_eq_f (by decide)) ?_
          refine iconstV X18.here hexec rfl 1 (hb hbytes d50) (by decide) ?_
          refine XS.goto X18.here hexec rfl (pc0 := 51) rfl (hb hbytes d51) (by decide) rfl ?_
          exact Steps.refl _)
        exact ⟨T18, some (.int 1), _, _, _, X18, rfl, rfl, rfl, (fun h => by cases h), ⟨1, rfl, q18.trans hh16, Or.inl ⟨rfl, iff.mp he⟩⟩, fun fs hl => c19.trans (X18.ireturnOut hexec hret rfl (Or.inr (Or.inl rfl)) (hb hbytes d55) hl)⟩
      · have c19 : Steps p.tables e below (s₁.setTop (entryFrame m #[.ref x, .ref y] 3)) (T18.setTop (mkF m 55 #[.val (.ref x), .val (.ref y), .val (.ref y)] [.int 0])) := Steps.trans g18 (by
          refine XS.ifYes X18.here hexec rfl (pc0 := 47) rfl (hb hbytes d47) rfl (i0_eq_t rfl) (by decide) rfl ?_
          refine iconstV X18.here hexec rfl 0 (hb hbytes d54) (by decide) ?_
          exact Steps.refl _)
        exact ⟨T18, some (.int 0), _, _, _, X18, rfl, rfl, rfl, (fun h => by cases h), ⟨0, rfl, q18.trans hh16, Or.inr ⟨rfl, fun q => he (iff.mpr q)⟩⟩, fun fs hl => c19.trans (X18.ireturnOut hexec hret rfl (Or.inr (Or.inl rfl)) (hb hbytes d55) hl)⟩
    · have c13 : Steps p.tables e below (s₁.setTop (entryFrame m #[.ref x, .ref y] 3)) (T11.setTop (mkF m 55 #[.val (.ref x), .val (.ref y), .val (.ref y)] [.int 0])) := c12.trans (by
        refine XS.icmpYes X11.here hexec rfl (pc0 := 33) rfl (hb hbytes d33) rfl (ii_ne_t hcd) (by decide) rfl ?_
        refine iconstV X11.here hexec rfl 0 (hb hbytes d54) (by decide) ?_
        exact Steps.refl _)
      exact ⟨T11, some (.int 0), _, _, _, X11, rfl, rfl, rfl, (fun h => by cases h), ⟨0, rfl, hh11, Or.inr ⟨rfl, Cod.dif hx.2.2.2.2.1 hy.2.2.2.2.1 hcd⟩⟩, fun fs hl => c13.trans (X11.ireturnOut hexec hret rfl (Or.inr (Or.inl rfl)) (hb hbytes d55) hl)⟩
theorem pays {l : Launch} {R : Room} {p : Program} {e : Env} {below : List Frame} {s : State} {sargs : Array Value} {len W : Nat} (x t : Addr) (V : Cell) (cd : Int32) (n : Nat) (f : Nat → Int32) (y t' : Addr) (V' : Cell) (cd' : Int32) (k : Nat) (g : Nat → Int32) (z : Int32) (htab : tab.before sargs s = true) (hfr : 2 ≤ R.frames) (hlo : W + 28 ≤ R.locals) :
    Back l R p e below s sargs yN len W (fun A₁ a₁ => A₁.cells + 0 ≤ R.cells ∧ A₁.slots + 0 ≤ R.slots ∧ P x t V cd n f y t' V' cd' k g z a₁ A₁.U) (fun A₁ _ v₁ B₁ => Says01 (SameT n f k g) v₁ A₁.U B₁.U ∧ B₁.locs = A₁.locs ++ [] ∧ B₁.cells = A₁.cells + 0 ∧ B₁.slots = A₁.slots + 0) :=
  (law l x t V cd n f y t' V' cd' k g z).pays htab hfr (by omega)
end SEq
end StrChars
namespace StrChars.Road
open Jvm Sem ClassFile Op Lib Jvm.Stand Jvm.Free Jvm.Free.XT
open Jvm.Lib.Cold (StaticIs)
/-- the words of String.equals(Object) -/
abbrev wordsEq : List Jvm.Cond := [.code SEq.yN SEq.yB 3 (some .boolean), .initialized ST, .classLink ST 10 ST, .fieldLink ST 38 ST "COMPACT_STRINGS" "Z", .fieldLink ST 15 ST "coder" "B", .fieldLink ST 9 ST "value" "[B", .methodLink ST 541 LEq.yN, .static LEq.yN, .code LEq.yN LEq.yB 3 (some .boolean), .initialized "java/lang/StringLatin1"]
theorem tabEq_of {a : Array Value} {s : State} (h : ∀ w ∈ wordsEq, w.before a s = true) : SEq.tab.before a s = true := by
  have hl : LEq.tab.before a s = true := unparts (wk h (.code LEq.yN LEq.yB 3 (some .boolean))) (wks h (.initialized LEq.yN.cls :: LEq.site))
  have q := consq hl h
  exact unparts (wk q (.code SEq.yN SEq.yB 3 (some .boolean))) (wks q (.initialized SEq.yN.cls :: SEq.site))
theorem movedEq {Z s : State} {a0 args : Array Value} (hZ : Z.Warmed39 s.vm) (hw : ∀ d ∈ wordsEq, d.before a0 Z = true) : ∀ d ∈ wordsEq, d.before args s = true := fun d hd => by
  have t : ∀ d ∈ wordsEq, (d.onTables && d.keepsFace) = true := by decide +kernel
  exact RoadKit.mv hZ (hw d hd) (t d hd)
/-- the road's facts of a String, as the laws ask it -/
theorem txt_of {Z U : State} {a0 : Array Value} {kI : Nat} (wi : (Jvm.Cond.instantiable ST kI).before a0 Z = true) (al : Z.vm.Alike U.vm) {x t : Addr} {kb : ClassId} {cs : List Int32} {cd N2 : Int32} {vs : List Value} (E : RoadKit.Exa Z U.heap x ST) (V : RoadKit.Fld Z U.heap x ST "value" "[B" (.ref t)) (C : RoadKit.Fld Z U.heap x ST "coder" "B" (.int cd)) (K : RoadKit.Arv Z U.heap t kb .byte N2 vs (.int 0)) (hc : CodA cs cd N2 vs) (hb : ∀ c ∈ cs, ¬ c < 0 ∧ ¬ (65535 : Int32) < c) (l2 : cs.length ≤ 4000) :
    ∃ A, Txt x t A cd cs.length (fun j => cs.getD j 0) U := by
  obtain ⟨A, K1, K2, K3, K4, K5, K6⟩ := K
  have hcod := hc.cod (by omega) K3 K5
  obtain ⟨D, fV, fC, hB, F1, F2, g1, g2, -, -⟩ := strObj wi al E V C
  exact ⟨A, ⟨_, hB.2.2.1, D, hB.1, rfl, by cases q : D.vm <;> first | rfl | exact absurd q (hB.2.1.2 _)⟩, Has.of hB F1 g1, Has.of hB F2 g2, ⟨K1.1, State.isArrayOf_alike al K1.2.1, K1.2.2, by rcases hcod with ⟨-, q, -⟩ | ⟨-, q, -⟩ <;> omega⟩, hcod, fun j hj => by
    have e : cs.getD j 0 = cs[j] := by simp [List.getD_eq_getElem?_getD, hj]
    show ¬ cs.getD j 0 < 0 ∧ ¬ 65535 < cs.getD j 0
    rw [e]; exact hb _ (List.getElem_mem _)⟩
theorem same_list (cs ds : List Int32) : SameT cs.length (fun j => cs.getD j 0) ds.length (fun j => ds.getD j 0) ↔ cs = ds := by
  constructor
  · rintro ⟨e, q⟩
    refine List.ext_getElem e fun j h1 h2 => ?_
    have := q j h1
    simpa [List.getD_eq_getElem?_getD, h1, h2] using this
  · rintro rfl
    exact ⟨rfl, fun _ _ => rfl⟩
/-- **equals(Object) OF TWO SUCH STRINGS**: 1 just where the chars are the same -/
theorem eqW {p : Program} {l : Launch} {e : Env} {R : Room} {s : State} {args : Array Value} {below : List Frame} {len W : Nat} {Z : State} {a0 : Array Value} {h : Heap} (hZ : Z.Warmed39 s.vm) (hw : ∀ d ∈ wordsEq, d.before a0 Z = true) {kI : Nat} (wi : (Jvm.Cond.instantiable ST kI).before a0 Z = true)
    {x t : Addr} {kb : ClassId} {cs : List Int32} {cd N2 : Int32} {vs : List Value} (E : RoadKit.Exa Z h x ST) (V : RoadKit.Fld Z h x ST "value" "[B" (.ref t)) (C : RoadKit.Fld Z h x ST "coder" "B" (.int cd)) (K : RoadKit.Arv Z h t kb .byte N2 vs (.int 0)) (hc : CodA cs cd N2 vs) (hb : ∀ c ∈ cs, ¬ c < 0 ∧ ¬ (65535 : Int32) < c) (l2 : cs.length ≤ 4000)
    {y t' : Addr} {kb' : ClassId} {ds : List Int32} {cd' N2' : Int32} {vs' : List Value} (E' : RoadKit.Exa Z h y ST) (V' : RoadKit.Fld Z h y ST "value" "[B" (.ref t')) (C' : RoadKit.Fld Z h y ST "coder" "B" (.int cd')) (K' : RoadKit.Arv Z h t' kb' .byte N2' vs' (.int 0)) (hc' : CodA ds cd' N2' vs') (hb' : ∀ c ∈ ds, ¬ c < 0 ∧ ¬ (65535 : Int32) < c) (l2' : ds.length ≤ 4000)
    {z : Int32} (S : RoadKit.Sta Z h ST "COMPACT_STRINGS" "Z" (.int z)) (hz : ¬ z = 0) (hfr : 2 ≤ R.frames) (hlo : W + 28 ≤ R.locals) :
    Back l R p e below s args (⟨"java/lang/String", "equals", "(Ljava/lang/Object;)Z"⟩ : MethodName) len W (fun P a => a = #[.ref x, .ref y] ∧ P.U.heap = h ∧ P.cells + 0 ≤ R.cells ∧ P.slots + 0 ≤ R.slots)
      (fun P _ v B => ∃ L, (((v = some (.int 1) ∧ cs = ds) ∨ (v = some (.int 0) ∧ ¬ cs = ds)) ∧ L = [] ∧ B.U.heap = h) ∧ B.locs = P.locs ++ L ∧ B.cells = P.cells + 0 ∧ B.slots = P.slots + 0) := by
  intro m meth c P g ig mk a X hg hsize hdg hW hn hp'
  obtain ⟨rfl, rfl, r1, r2⟩ := hp'
  have al : Z.vm.Alike P.U.vm := hZ.alike.trans X.warmed.alike
  obtain ⟨A, hx⟩ := txt_of wi al E V C K hc hb l2
  obtain ⟨A', hy⟩ := txt_of wi al E' V' C' K' hc' hb' l2'
  obtain ⟨v, B, X', ⟨⟨w, hv, hh, hq⟩, hl, hk, hs⟩, st⟩ := SEq.pays x t A cd cs.length (fun j => cs.getD j 0) y t' A' cd' ds.length (fun j => ds.getD j 0) z (tabEq_of (movedEq hZ hw)) hfr hlo m meth c P g ig mk _ X hg hsize hdg hW hn ⟨r1, r2, rfl, hx, hy, sta_is al S, hz⟩
  refine ⟨v, B, X', ⟨[], ⟨?_, rfl, hh⟩, hl, hk, hs⟩, st⟩
  rcases hq with ⟨rfl, q⟩ | ⟨rfl, q⟩
  · exact Or.inl ⟨hv, (same_list cs ds).mp q⟩
  · exact Or.inr ⟨hv, fun e => q ((same_list cs ds).mpr e)⟩
end StrChars.Road
namespace StrChars.Road
open Jvm Sem ClassFile Op Lib Jvm.Stand Jvm.Free Jvm.Free.XT
open Jvm.Lib.Cold (StaticIs)
/-- what backV says of its String, as the contracts of this text ask it: cs's low bytes, coder 0 -/
theorem codOf {cs : List Int32} {n : Nat} (hn : cs.length = n) (hb : ∀ c ∈ cs, ¬ 255 < c) : CodA cs 0 (Int32.ofNat n) ((cs.map lo8).map Value.int) := Or.inl ⟨rfl, by rw [hn], by simp [List.map_map, Function.comp_def], hb⟩
end StrChars.Road
end Jvm.Pilot.@@N@@
namespace Jvm.Pilot.@@N@@
open Jvm Jvm.ClassFile Sem Op Lib Jvm.Free Jvm.Stand Jvm.LawKit Jvm.RoadKit Bundle Jvm.Pilot.@@N@@.Jvm.D
abbrev own_EL : List (String × Nat) := [("java/lang/String", 7)]
theorem own_hEL (Z : State) (a0 : Array Value) (hw : ∀ d ∈ tables_1, d.before a0 Z = true) : EW Z a0 own_EL := EW.cons (text := "") (hw _ (List.mem_of_getElem? (i := 25) rfl)) (by decide) EW.nil
theorem own_wS (Z : State) (a0 : Array Value) (hw : ∀ d ∈ tables_1, d.before a0 Z = true) : ∀ a ∈ Bundle.stringAtoms, a.before a0 Z = true := fun d hd => hw d ((by decide +kernel : ∀ d ∈ Bundle.stringAtoms, d ∈ tables_1) d hd)
theorem own_safeV {Z : State} {EL : List (String × Nat)} {vm : Vm} {h : Heap} {x : Addr} {k : ClassId} {ty : FieldType} {n : Int32} {vs : List Value} {d : Value} (hal : Z.vm.Alike vm) (A : Arv Z h x k ty n vs d) (ht : ty ≠ .byte) : Safe Z EL vm h x := by
  obtain ⟨c, Ar, -⟩ := A
  exact Safe.arr hal Ar ht
theorem own_no (Z : State) (a0 : Array Value) (hw : ∀ d ∈ tables_1, d.before a0 Z = true) : ∃ c t, Z.vm.findClass "java/lang/String" = some c ∧ Z.vm.findClass "com/example/facetwise/facetwise/RankedResult" = some t ∧ Z.vm.assignable c t = false := by
  have w := hw _ (List.mem_of_getElem? (i := 106) rfl)
  have wo := hw _ (List.mem_of_getElem? (i := 107) rfl)
  have wi := hw _ (List.mem_of_getElem? (i := 1) rfl)
  obtain ⟨t, kt, g0, g2, g5, g7, -, -⟩ := Cond.instantiable_spec wi
  obtain ⟨o, ko, o1, o2, o3, -, -⟩ := Cond.noSuperclass_spec wo
  obtain ⟨c, h0⟩ := found_sup w
  obtain ⟨p, k, kp, h1, h2, h3, h4, h5, -, h7⟩ := Cond.superclass_spec h0 w
  cases o1.symm.trans h1
  have ne := ids_ne h0 g0 (by decide)
  have ne2 := ids_ne o1 g0 (by decide)
  have g7' : kt.isInterface = false := by
    cases hq : kt.isInterface with
    | false => rfl
    | true => rw [hq] at g7; simp at g7
  have n3 : ∀ fuel, Z.vm.isSubclassAux fuel c t = false := by
    intro fuel
    cases fuel with
    | zero => rfl
    | succ f =>
      cases f with
      | zero => simp [Vm.isSubclassAux, ne, h2, h4]
      | succ f => simp [Vm.isSubclassAux, ne, ne2, h2, h4, o2, o3]
  refine ⟨c, t, h0, g0, ?_⟩
  show Z.vm.assignableAux (255 + 1) c t = false
  simp [Vm.assignableAux, ne, h2, g2, h5, g5, g7', Vm.isSubclass, n3]
def own_len (pa : Int32) : Int32 := ((pa &&& (2147483647 : Int32)) % (3 : Int32))
def own_c0 (pa : Int32) : Int32 := nar .char ((((pa.toUInt32 >>> ((2 : Int32) &&& 31).toUInt32).toInt32) &&& (255 : Int32)).toUInt32.toUInt16.toUInt32.toInt32)
def own_c1 (pa : Int32) : Int32 := nar .char ((((pa.toUInt32 >>> ((10 : Int32) &&& 31).toUInt32).toInt32) &&& (255 : Int32)).toUInt32.toUInt16.toUInt32.toInt32)
def own_u (cu : Int32) : UInt64 := if cu = 0 then FP.dconst0 else if cu = 1 then (9223372036854775808 : UInt64) else FP.i2d cu
def own_str (pa : Int32) : List Int32 := if own_len pa = 0 then [] else if own_len pa = 1 then [own_c0 pa] else [own_c0 pa, own_c1 pa]
theorem own_lat (x : Int32) : ¬ nar .char ((x &&& (255 : Int32)).toUInt32.toUInt16.toUInt32.toInt32) < 0 ∧ ¬ (255 : Int32) < nar .char ((x &&& (255 : Int32)).toUInt32.toUInt16.toUInt32.toInt32) := by
  have e : nar .char ((x &&& (255 : Int32)).toUInt32.toUInt16.toUInt32.toInt32) = x &&& 255 := by
    simp only [nar, UInt32.toUInt32_toInt32, UInt16.toUInt16_toUInt32]; exact i2c_mask x
  rw [e]
  have h := c_and x 255 (by decide)
  have h2 : (255 : Int32).toInt = 255 := by decide
  rw [h2] at h
  constructor
  · rw [Int32.lt_iff_toInt_lt]; have : (0 : Int32).toInt = 0 := by decide
    omega
  · rw [Int32.lt_iff_toInt_lt]; omega
theorem own_c0L (pa : Int32) : ¬ own_c0 pa < 0 ∧ ¬ (255 : Int32) < own_c0 pa := own_lat _
theorem own_c1L (pa : Int32) : ¬ own_c1 pa < 0 ∧ ¬ (255 : Int32) < own_c1 pa := own_lat _
theorem own_len3 (pa : Int32) : own_len pa = 0 ∨ own_len pa = 1 ∨ own_len pa = 2 := by
  have h1 := c_and pa 2147483647 (by decide)
  have h2 := (c_irem (pa &&& 2147483647) 3 3 (by decide)).1 h1.1
  have e : ∀ k : Int32, (own_len pa).toInt = k.toInt → own_len pa = k := fun k q => Int32.toInt_inj.mp q
  have h3 : (own_len pa).toInt = (pa &&& 2147483647).toInt % 3 := h2
  have c : (own_len pa).toInt = 0 ∨ (own_len pa).toInt = 1 ∨ (own_len pa).toInt = 2 := by omega
  rcases c with c | c | c
  · exact Or.inl (e 0 (by rw [c]; decide))
  · exact Or.inr (Or.inl (e 1 (by rw [c]; decide)))
  · exact Or.inr (Or.inr (e 2 (by rw [c]; decide)))
theorem own_and7 (x : Int32) : ∃ i : Fin 8, x &&& (7 : Int32) = Int32.ofNat i.1 := by
  have h := c_mask x 7 3 (by decide) (by decide)
  have h2 : 0 ≤ (x &&& (7 : Int32)).toInt ∧ (x &&& (7 : Int32)).toInt < 8 := by rw [h]; omega
  refine ⟨⟨(x &&& (7 : Int32)).toInt.toNat, by omega⟩, ?_⟩
  apply Int32.toInt_inj.mp
  rw [Int32.toInt_ofNat_of_lt (by show (x &&& (7 : Int32)).toInt.toNat < 2 ^ 31; omega)]
  show _ = (((x &&& (7 : Int32)).toInt.toNat : Nat) : Int)
  omega
theorem own_uNN (i : Fin 8) : Jvm.Free.Fl.NoNaN64 (own_u (Int32.ofNat i.1)) := by
  revert i; unfold Jvm.Free.Fl.NoNaN64; decide +kernel
theorem own_uinj (i j : Fin 8) : own_u (Int32.ofNat i.1) = own_u (Int32.ofNat j.1) ↔ Int32.ofNat i.1 = Int32.ofNat j.1 := by
  revert i j; decide +kernel
def own_cmp (x y : UInt64) : Int32 := if cmpValue (FP.dcmp x y) .g < 0 then -1 else if 0 < cmpValue (FP.dcmp x y) .l then 1 else if x.toInt64 = y.toInt64 then 0 else if x.toInt64 < y.toInt64 then -1 else 1
theorem own_cmp0 {x y : UInt64} (hx : Jvm.Free.Fl.NoNaN64 x) : own_cmp x y = 0 ↔ x = y := by
  constructor
  · intro h
    unfold own_cmp at h
    split at h
    · exact absurd h (by decide)
    · split at h
      · exact absurd h (by decide)
      · split at h
        · rename_i q
          have q2 := congrArg Int64.toUInt64 q
          simpa using q2
        · split at h <;> exact absurd h (by decide)
  · rintro rfl
    unfold own_cmp
    rw [dcmpV_self hx, dcmpV_self hx]
    simp
theorem own_narb (x : Int32) : nar .byte (x.toInt8.toInt32) = x.toInt8.toInt32 := by simp [nar]
theorem own_narc0 (pa : Int32) : nar .char (own_c0 pa) = own_c0 pa := by simp only [own_c0, nar, UInt32.toUInt32_toInt32, UInt16.toUInt16_toUInt32]
theorem own_narc1 (pa : Int32) : nar .char (own_c1 pa) = own_c1 pa := by simp only [own_c1, nar, UInt32.toUInt32_toInt32, UInt16.toUInt16_toUInt32]
theorem own_strL (pa : Int32) : ∀ c ∈ own_str pa, ¬ c < 0 ∧ ¬ (255 : Int32) < c := by
  intro c hc
  unfold own_str at hc
  split at hc
  · cases hc
  · split at hc
    · cases List.mem_singleton.mp hc; exact own_c0L pa
    · simp only [List.mem_cons, List.not_mem_nil, or_false] at hc
      rcases hc with rfl | rfl
      · exact own_c0L pa
      · exact own_c1L pa
theorem own_strU (pa : Int32) : ∀ c ∈ own_str pa, ¬ c < 0 ∧ ¬ (65535 : Int32) < c := fun c hc => by
  obtain ⟨h1, h2⟩ := own_strL pa c hc
  refine ⟨h1, fun q => h2 ?_⟩
  rw [Int32.lt_iff_toInt_lt] at q ⊢
  have e1 : (65535 : Int32).toInt = 65535 := by decide
  have e2 : (255 : Int32).toInt = 255 := by decide
  omega
theorem own_strN (pa : Int32) : (own_str pa).length ≤ 4000 := by
  unfold own_str; split
  · decide
  · split <;> simp
theorem own_strC (pa : Int32) : StrChars.Road.CodA (own_str pa) 0 (Int32.ofNat (own_str pa).length) (((own_str pa).map StrChars.lo8).map Value.int) := StrChars.Road.codOf rfl (fun c hc => (own_strL pa c hc).2)
theorem own_strEq (pa pb : Int32) : own_str pa = own_str pb ↔ own_len pa = own_len pb ∧ (own_len pa < 1 ∨ own_c0 pa = own_c0 pb) ∧ (own_len pa < 2 ∨ own_c1 pa = own_c1 pb) := by
  unfold own_str
  have d1 : ¬ (1 : Int32) = 0 := by decide
  have d2 : ¬ (2 : Int32) = 0 := by decide
  have d3 : ¬ (2 : Int32) = 1 := by decide
  have d4 : (0 : Int32) < 1 := by decide
  have d5 : (0 : Int32) < 2 := by decide
  have d6 : ¬ (1 : Int32) < 1 := by decide
  have d7 : (1 : Int32) < 2 := by decide
  have d8 : ¬ (2 : Int32) < 1 := by decide
  have d9 : ¬ (2 : Int32) < 2 := by decide
  have da : ¬ (0 : Int32) = 1 := by decide
  have db : ¬ (0 : Int32) = 2 := by decide
  have dc : ¬ (1 : Int32) = 2 := by decide
  rcases own_len3 pa with h | h | h <;> rcases own_len3 pb with g | g | g <;> rw [h, g] <;> simp [d1, d2, d3, d4, d5, d6, d7, d8, d9, da, db, dc]
theorem own_safeNull {Z : State} {EL : List (String × Nat)} {vm : Vm} {h : Heap} {x : Addr} (hal : Z.vm.Alike vm) (E : Exa Z h x "java/lang/String") (F : Fld Z h x "java/lang/String" "value" "[B" .null) : Safe Z EL vm h x := fun B => by
  obtain ⟨cell, k, e1, e2, e3, -, -⟩ := E
  obtain ⟨cell', cf, kf, i, f, g1, g2, g3, g4, g5, g6, g7⟩ := F
  cases e1.symm.trans g1
  obtain ⟨p, -, u, a, -, q, -, F, rfl | rfl⟩ := B
  · cases (show h[q.sa]? = some q.sC from F.ha).symm.trans e1
    obtain ⟨cS, ⟨⟨-, -, -, ⟨c1, k1, i1, f1, -⟩, -, -, -, v1, -⟩, -⟩, -⟩ := F
    obtain ⟨k3, e3', -⟩ := State.fieldFound?_setVm (s := ({ Z with heap := h } : State)) (vm' := vm) hal (show ({ Z with heap := h } : State).fieldFound? _ _ _ = _ from g2)
    have e4 := (show (Wst Z vm h).fieldFound? _ _ _ = _ from e3').symm.trans f1
    simp only [Option.some.injEq, Prod.mk.injEq] at e4
    rw [← e4.2.2.2, g7] at v1
    cases v1
  · cases (show h[q.sd]? = some q.SA from F.hd).symm.trans e1
    obtain ⟨cS, -, -, f, -⟩ := F
    rw [show (Wst Z vm h).vm.findClass "[B" = Z.vm.findClass "[B" from hal.findClass _ _] at f
    obtain ⟨k1, q1, q2⟩ := Vm.findClass_spec f
    obtain ⟨k2, q3, q4⟩ := Vm.findClass_spec e2
    cases q1.symm.trans q3
    exact absurd (q2.symm.trans q4) (by decide)
theorem own_rawBits {p : Program} {l : Launch} {e : Env} {R : Room} {s : State} {m : MethodId} {args : Array Value} {below : List Frame} {meth : Method} {c : Code} {T : State} {locs : List Loc} {cells slots : Nat} {Z : State} {a0 : Array Value} {h : Heap} (X : Stand p l e R s m args below meth c T locs cells slots) (hx : p.tables.exec = Jvm.exec) (hZ : Z.Warmed39 s.vm) {own : String} {index : Nat} (hown : s.vm.findClass own = some m.cls)
    (w1 : (Cond.methodLink own index (⟨"java/lang/Double", "doubleToRawLongBits", "(D)J"⟩ : MethodName)).before a0 Z = true) (w2 : (Cond.static (⟨"java/lang/Double", "doubleToRawLongBits", "(D)J"⟩ : MethodName)).before a0 Z = true) (w3 : (Cond.initialized "java/lang/Double").before a0 Z = true) (w4 : (Cond.native (⟨"java/lang/Double", "doubleToRawLongBits", "(D)J"⟩ : MethodName)).before a0 Z = true)
    (eT : T.heap = h) {g : JFrame} (hg : g.method = m) (hsize : g.locals.size = c.maxLocals) {x : UInt64} {rest : List Value} (hst : g.stack = .double x :: rest) {W : Nat} (hW : 2 * g.monitorRoom + (rest.map fun v => v.category).sum ≤ W) (hd : decode c.code g.pc = .ok (.invokestatic index, 3)) (hfr : 1 ≤ R.frames) (hlo : W + 15 ≤ R.locals) :
    ∃ T', Stand p l e R s m args below meth c T' locs cells slots ∧ T'.heap = h ∧ ∀ target, Steps p.tables e below (T'.setTop { g with pc := g.pc + 3, stack := .long x.toInt64 :: rest }) target → Steps p.tables e below (T.setTop g) target := by
  have n4 : (Cond.native (⟨"java/lang/Double", "doubleToRawLongBits", "(D)J"⟩ : MethodName)).before args s = true := by
    have q : (Cond.native (⟨"java/lang/Double", "doubleToRawLongBits", "(D)J"⟩ : MethodName)).before a0 (Z.setVm s.vm) = true := (Cond.native_setVm hZ.alike _).trans w4
    exact q
  obtain ⟨mk, methM, hnamed, hmethM, -, -, -, hsigM⟩ := Cond.native_spec n4
  obtain ⟨v, vm1, B, hW1, X', ⟨hB, hv⟩, st⟩ := Stand.staticBack (args := args) X hx hown (mvT hZ w1) (mvT hZ w2) (mvT hZ w3) hnamed hmethM hsigM (by decide) (Jvm.Free.NT.DoubleBits.pays (W := W) n4 (mvT hZ w2) hfr hlo) hg hsize (Steps.refl _) (argsL := [.double x]) (rest := rest) (lenOf (ps := [.double]) (r := some .long) (by decide +kernel) rfl) hst hW hd (fun vm1 _ => ⟨x, rfl⟩)
  have hv' := hv x rfl
  subst hB hv'
  exact ⟨_, X', eT, fun target k => st.trans k⟩
theorem dLEN_0 : decode method_2_code 0 = .ok (.iload_n 0, 1) := by decide +kernel
theorem dLEN_1 : decode method_2_code 1 = .ok (.ldc 7, 2) := by decide +kernel
theorem dLEN_3 : decode method_2_code 3 = .ok (.iand, 1) := by decide +kernel
theorem dLEN_4 : decode method_2_code 4 = .ok (.iconst 3, 1) := by decide +kernel
theorem dLEN_5 : decode method_2_code 5 = .ok (.irem, 1) := by decide +kernel
theorem dLEN_6 : decode method_2_code 6 = .ok (.ireturn, 1) := by decide +kernel
theorem pn_com_example_facetwise_facetwise_RankedResultEqualsPinLaw : plainName "com/example/facetwise/facetwise/RankedResultEqualsPinLaw" = true := by first | (simp [plainName, overriddenIn]; done) | decide +kernel
theorem ef_LEN (m : MethodId) (x0 : Int32) : entryFrame m #[(.int x0)] 1 = mkF m 0 #[.val (.int x0)] [] := by first | (simp [entryFrame, mkF, argsToLocals, Value.category]; done) | rfl
def QLEN (Z : State) (pa : Int32) (h0 : Heap) (n0 : Nat) (v : Option Value) (h : Heap) (L : List Loc) : Prop := v = some (.int (own_len pa)) ∧ Fr n0 L ∧ h = h0
set_option maxRecDepth 65536 in
set_option maxHeartbeats 40000000 in
theorem rmLEN (l : Launch) (Z : State) (a0 : Array Value) (hw : ∀ d ∈ tables_1, d.before a0 Z = true) (ws : List Jvm.Cond) (pa : Int32) (h0 : Heap) (n0 : Nat) (Z0 : n0 ≤ h0.size) :
    MetFree l (⟨"com/example/facetwise/facetwise/RankedResultEqualsPinLaw", "len", "(I)I"⟩ : MethodName) (head1 (Jvm.Cond.code (⟨"com/example/facetwise/facetwise/RankedResultEqualsPinLaw", "len", "(I)I"⟩ : MethodName) method_2_code 1 (some .int) :: ws) ({ frames := 0, cells := 0, slots := 0, locals := 0 } : Room)) (fun a U => a = #[(.int pa)] ∧ Z.Warmed39 U.vm ∧ U.heap = h0) (fun _ _ _ _ _ => True) (fun _ U o U' => ∃ v L, o = .returned v ∧ QLEN Z pa h0 n0 v U'.heap L ∧ FrameEnd U o U' L ({ frames := 0, cells := 0, slots := 0, locals := 0 } : Room).cells ({ frames := 0, cells := 0, slots := 0, locals := 0 } : Room).slots) := by
  refine MetFree.of_bodySF (plainFor_of_name pn_com_example_facetwise_facetwise_RankedResultEqualsPinLaw) hisR ?_
  intro p e s m args below meth c s₁ Bd hml0 hP hK
  obtain ⟨rfl, hZ, hh⟩ := hP
  have hx := Bd.exec
  have hby := Bd.bytes
  have hml : c.maxLocals = 1 := hml0
  have hown : s.vm.findClass "com/example/facetwise/facetwise/RankedResultEqualsPinLaw" = some m.cls := findClass_of_methodNamed Bd.named
  have hnm := (name_of_methodNamed Bd.named Bd.method).1
  have X0 : Stand p l e ({ frames := 0, cells := 0, slots := 0, locals := 0 } : Room) s m #[(.int pa)] below meth c s₁ [] 0 0 := Stand.of_body Bd
  have e0 : s₁.heap = h0 := by rw [← hh, Bd.state]; rfl
  have N0 := Fr.nil n0
  have K0 : Keep h0 h0 [] := Keep.refl h0 []
  have pre0 : ∀ t, Steps p.tables e below (s₁.setTop (mkF m 0 #[.val (.int pa)] [])) t → Steps p.tables e below (s₁.setTop (entryFrame m #[(.int pa)] 1)) t := fun t k => castTop (ef_LEN m pa) k
  obtain ⟨fs, hr, hrun, hended, hW, hsame⟩ := X0.leave (v := some (.int ((pa &&& (2147483647 : Int32)) % (3 : Int32)))) (fun h => by rw [Bd.returns] at h; cases h)
  refine ⟨_, _, ?_, hrun, hended, _, _, rfl, ?_, ⟨_, rfl⟩, hW, hsame.mono (by decide) (by decide)⟩
  · refine pre0 _ ?_
    show Steps _ _ _ (s₁.setTop (mkF m 0 #[.val (.int pa)] [])) _
    refine XS.iloadN X0.here hx rfl (hb hby dLEN_0) rfl ?_
    show Steps _ _ _ (s₁.setTop (mkF m 1 #[.val (.int pa)] [(.int pa)])) _
    refine X0.ldcInt hx hown (mvT hZ (hw _ (List.mem_of_getElem? (i := 10) rfl))) (g := (mkF m 1 #[.val (.int pa)] [(.int pa)])) rfl (hb hby dLEN_1) _ ?_
    refine XS.iand X0.here hx rfl (hb hby dLEN_3) rfl ?_
    refine XS.iconst X0.here hx rfl (hb hby dLEN_4) ?_
    refine iremM X0 hx rfl (hb hby dLEN_5) rfl (by decide) ?_
    show Steps _ _ _ (s₁.setTop (mkF m 6 #[.val (.int pa)] [(.int ((pa &&& (2147483647 : Int32)) % (3 : Int32)))])) _
    exact retI X0 hx Bd.returns (hb hby dLEN_6) hr
  · show QLEN Z pa h0 n0 _ s₁.heap _
    rw [e0]
    exact ⟨rfl, N0, rfl⟩
theorem dC0_0 : decode method_3_code 0 = .ok (.iload_n 0, 1) := by decide +kernel
theorem dC0_1 : decode method_3_code 1 = .ok (.iconst 2, 1) := by decide +kernel
theorem dC0_2 : decode method_3_code 2 = .ok (.iushr, 1) := by decide +kernel
theorem dC0_3 : decode method_3_code 3 = .ok (.sipush 255, 3) := by decide +kernel
theorem dC0_6 : decode method_3_code 6 = .ok (.iand, 1) := by decide +kernel
theorem dC0_7 : decode method_3_code 7 = .ok (.i2c, 1) := by decide +kernel
theorem dC0_8 : decode method_3_code 8 = .ok (.ireturn, 1) := by decide +kernel
theorem ef_C0 (m : MethodId) (x0 : Int32) : entryFrame m #[(.int x0)] 1 = mkF m 0 #[.val (.int x0)] [] := by first | (simp [entryFrame, mkF, argsToLocals, Value.category]; done) | rfl
def QC0 (Z : State) (pa : Int32) (h0 : Heap) (n0 : Nat) (v : Option Value) (h : Heap) (L : List Loc) : Prop := v = some (.int (own_c0 pa)) ∧ Fr n0 L ∧ h = h0
set_option maxRecDepth 65536 in
set_option maxHeartbeats 40000000 in
theorem rmC0 (l : Launch) (Z : State) (a0 : Array Value) (hw : ∀ d ∈ tables_1, d.before a0 Z = true) (ws : List Jvm.Cond) (pa : Int32) (h0 : Heap) (n0 : Nat) (Z0 : n0 ≤ h0.size) :
    MetFree l (⟨"com/example/facetwise/facetwise/RankedResultEqualsPinLaw", "c0", "(I)C"⟩ : MethodName) (head1 (Jvm.Cond.code (⟨"com/example/facetwise/facetwise/RankedResultEqualsPinLaw", "c0", "(I)C"⟩ : MethodName) method_3_code 1 (some .char) :: ws) ({ frames := 0, cells := 0, slots := 0, locals := 0 } : Room)) (fun a U => a = #[(.int pa)] ∧ Z.Warmed39 U.vm ∧ U.heap = h0) (fun _ _ _ _ _ => True) (fun _ U o U' => ∃ v L, o = .returned v ∧ QC0 Z pa h0 n0 v U'.heap L ∧ FrameEnd U o U' L ({ frames := 0, cells := 0, slots := 0, locals := 0 } : Room).cells ({ frames := 0, cells := 0, slots := 0, locals := 0 } : Room).slots) := by
  refine MetFree.of_bodySF (plainFor_of_name pn_com_example_facetwise_facetwise_RankedResultEqualsPinLaw) hisR ?_
  intro p e s m args below meth c s₁ Bd hml0 hP hK
  obtain ⟨rfl, hZ, hh⟩ := hP
  have hx := Bd.exec
  have hby := Bd.bytes
  have hml : c.maxLocals = 1 := hml0
  have hown : s.vm.findClass "com/example/facetwise/facetwise/RankedResultEqualsPinLaw" = some m.cls := findClass_of_methodNamed Bd.named
  have hnm := (name_of_methodNamed Bd.named Bd.method).1
  have X0 : Stand p l e ({ frames := 0, cells := 0, slots := 0, locals := 0 } : Room) s m #[(.int pa)] below meth c s₁ [] 0 0 := Stand.of_body Bd
  have e0 : s₁.heap = h0 := by rw [← hh, Bd.state]; rfl
  have N0 := Fr.nil n0
  have K0 : Keep h0 h0 [] := Keep.refl h0 []
  have pre0 : ∀ t, Steps p.tables e below (s₁.setTop (mkF m 0 #[.val (.int pa)] [])) t → Steps p.tables e below (s₁.setTop (entryFrame m #[(.int pa)] 1)) t := fun t k => castTop (ef_C0 m pa) k
  obtain ⟨fs, hr, hrun, hended, hW, hsame⟩ := X0.leave (v := some (.int (nar .char ((((pa.toUInt32 >>> ((2 : Int32) &&& 31).toUInt32).toInt32) &&& (255 : Int32)).toUInt32.toUInt16.toUInt32.toInt32)))) (fun h => by rw [Bd.returns] at h; cases h)
  refine ⟨_, _, ?_, hrun, hended, _, _, rfl, ?_, ⟨_, rfl⟩, hW, hsame.mono (by decide) (by decide)⟩
  · refine pre0 _ ?_
    show Steps _ _ _ (s₁.setTop (mkF m 0 #[.val (.int pa)] [])) _
    refine XS.iloadN X0.here hx rfl (hb hby dC0_0) rfl ?_
    refine XS.iconst X0.here hx rfl (hb hby dC0_1) ?_
    refine XS.iushr X0.here hx rfl (hb hby dC0_2) rfl ?_
    refine XS.sipush X0.here hx rfl (hb hby dC0_3) ?_
    show Steps _ _ _ (s₁.setTop (mkF m 6 #[.val (.int pa)] [(.int (255 : Int32)), (.int ((pa.toUInt32 >>> ((2 : Int32) &&& 31).toUInt32).toInt32))])) _
    refine XS.iand X0.here hx rfl (hb hby dC0_6) rfl ?_
    refine XS.i2c X0.here hx rfl (hb hby dC0_7) rfl ?_
    show Steps _ _ _ (s₁.setTop (mkF m 8 #[.val (.int pa)] [(.int ((((pa.toUInt32 >>> ((2 : Int32) &&& 31).toUInt32).toInt32) &&& (255 : Int32)).toUInt32.toUInt16.toUInt32.toInt32))])) _
    exact retN X0 hx (t := .char) Bd.returns (by simp) (hb hby dC0_8) hr
  · show QC0 Z pa h0 n0 _ s₁.heap _
    rw [e0]
    exact ⟨rfl, N0, rfl⟩
theorem dC1_0 : decode method_4_code 0 = .ok (.iload_n 0, 1) := by decide +kernel
theorem dC1_1 : decode method_4_code 1 = .ok (.bipush 10, 2) := by decide +kernel
theorem dC1_3 : decode method_4_code 3 = .ok (.iushr, 1) := by decide +kernel
theorem dC1_4 : decode method_4_code 4 = .ok (.sipush 255, 3) := by decide +kernel
theorem dC1_7 : decode method_4_code 7 = .ok (.iand, 1) := by decide +kernel
theorem dC1_8 : decode method_4_code 8 = .ok (.i2c, 1) := by decide +kernel
theorem dC1_9 : decode method_4_code 9 = .ok (.ireturn, 1) := by decide +kernel
theorem ef_C1 (m : MethodId) (x0 : Int32) : entryFrame m #[(.int x0)] 1 = mkF m 0 #[.val (.int x0)] [] := by first | (simp [entryFrame, mkF, argsToLocals, Value.category]; done) | rfl
def QC1 (Z : State) (pa : Int32) (h0 : Heap) (n0 : Nat) (v : Option Value) (h : Heap) (L : List Loc) : Prop := v = some (.int (own_c1 pa)) ∧ Fr n0 L ∧ h = h0
set_option maxRecDepth 65536 in
set_option maxHeartbeats 40000000 in
theorem rmC1 (l : Launch) (Z : State) (a0 : Array Value) (hw : ∀ d ∈ tables_1, d.before a0 Z = true) (ws : List Jvm.Cond) (pa : Int32) (h0 : Heap) (n0 : Nat) (Z0 : n0 ≤ h0.size) :
    MetFree l (⟨"com/example/facetwise/facetwise/RankedResultEqualsPinLaw", "c1", "(I)C"⟩ : MethodName) (head1 (Jvm.Cond.code (⟨"com/example/facetwise/facetwise/RankedResultEqualsPinLaw", "c1", "(I)C"⟩ : MethodName) method_4_code 1 (some .char) :: ws) ({ frames := 0, cells := 0, slots := 0, locals := 0 } : Room)) (fun a U => a = #[(.int pa)] ∧ Z.Warmed39 U.vm ∧ U.heap = h0) (fun _ _ _ _ _ => True) (fun _ U o U' => ∃ v L, o = .returned v ∧ QC1 Z pa h0 n0 v U'.heap L ∧ FrameEnd U o U' L ({ frames := 0, cells := 0, slots := 0, locals := 0 } : Room).cells ({ frames := 0, cells := 0, slots := 0, locals := 0 } : Room).slots) := by
  refine MetFree.of_bodySF (plainFor_of_name pn_com_example_facetwise_facetwise_RankedResultEqualsPinLaw) hisR ?_
  intro p e s m args below meth c s₁ Bd hml0 hP hK
  obtain ⟨rfl, hZ, hh⟩ := hP
  have hx := Bd.exec
  have hby := Bd.bytes
  have hml : c.maxLocals = 1 := hml0
  have hown : s.vm.findClass "com/example/facetwise/facetwise/RankedResultEqualsPinLaw" = some m.cls := findClass_of_methodNamed Bd.named
  have hnm := (name_of_methodNamed Bd.named Bd.method).1
  have X0 : Stand p l e ({ frames := 0, cells := 0, slots := 0, locals := 0 } : Room) s m #[(.int pa)] below meth c s₁ [] 0 0 := Stand.of_body Bd
  have e0 : s₁.heap = h0 := by rw [← hh, Bd.state]; rfl
  have N0 := Fr.nil n0
  have K0 : Keep h0 h0 [] := Keep.refl h0 []
  have pre0 : ∀ t, Steps p.tables e below (s₁.setTop (mkF m 0 #[.val (.int pa)] [])) t → Steps p.tables e below (s₁.setTop (entryFrame m #[(.int pa)] 1)) t := fun t k => castTop (ef_C1 m pa) k
  obtain ⟨fs, hr, hrun, hended, hW, hsame⟩ := X0.leave (v := some (.int (nar .char ((((pa.toUInt32 >>> ((10 : Int32) &&& 31).toUInt32).toInt32) &&& (255 : Int32)).toUInt32.toUInt16.toUInt32.toInt32)))) (fun h => by rw [Bd.returns] at h; cases h)
  refine ⟨_, _, ?_, hrun, hended, _, _, rfl, ?_, ⟨_, rfl⟩, hW, hsame.mono (by decide) (by decide)⟩
  · refine pre0 _ ?_
    show Steps _ _ _ (s₁.setTop (mkF m 0 #[.val (.int pa)] [])) _
    refine XS.iloadN X0.here hx rfl (hb hby dC1_0) rfl ?_
    refine XS.bipush X0.here hx rfl (hb hby dC1_1) ?_
    refine XS.iushr X0.here hx rfl (hb hby dC1_3) rfl ?_
    refine XS.sipush X0.here hx rfl (hb hby dC1_4) ?_
    show Steps _ _ _ (s₁.setTop (mkF m 7 #[.val (.int pa)] [(.int (255 : Int32)), (.int ((pa.toUInt32 >>> ((10 : Int32) &&& 31).toUInt32).toInt32))])) _
    refine XS.iand X0.here hx rfl (hb hby dC1_7) rfl ?_
    refine XS.i2c X0.here hx rfl (hb hby dC1_8) rfl ?_
    show Steps _ _ _ (s₁.setTop (mkF m 9 #[.val (.int pa)] [(.int ((((pa.toUInt32 >>> ((10 : Int32) &&& 31).toUInt32).toInt32) &&& (255 : Int32)).toUInt32.toUInt16.toUInt32.toInt32))])) _
    exact retN X0 hx (t := .char) Bd.returns (by simp) (hb hby dC1_9) hr
  · show QC1 Z pa h0 n0 _ s₁.heap _
    rw [e0]
    exact ⟨rfl, N0, rfl⟩
theorem dUT_0 : decode method_6_code 0 = .ok (.iload_n 0, 1) := by decide +kernel
theorem dUT_1 : decode method_6_code 1 = .ok (.ifCond .ne 5, 3) := by decide +kernel
theorem dUT_4 : decode method_6_code 4 = .ok (.dconst 0, 1) := by decide +kernel
theorem dUT_5 : decode method_6_code 5 = .ok (.dreturn, 1) := by decide +kernel
theorem dUT_6 : decode method_6_code 6 = .ok (.iload_n 0, 1) := by decide +kernel
theorem dUT_7 : decode method_6_code 7 = .ok (.iconst 1, 1) := by decide +kernel
theorem dUT_8 : decode method_6_code 8 = .ok (.if_icmp .ne 7, 3) := by decide +kernel
theorem dUT_11 : decode method_6_code 11 = .ok (.ldc2_w 30, 3) := by decide +kernel
theorem dUT_14 : decode method_6_code 14 = .ok (.dreturn, 1) := by decide +kernel
theorem dUT_15 : decode method_6_code 15 = .ok (.iload_n 0, 1) := by decide +kernel
theorem dUT_16 : decode method_6_code 16 = .ok (.i2d, 1) := by decide +kernel
theorem dUT_17 : decode method_6_code 17 = .ok (.dreturn, 1) := by decide +kernel
theorem ef_UT (m : MethodId) (x0 : Int32) : entryFrame m #[(.int x0)] 1 = mkF m 0 #[.val (.int x0)] [] := by first | (simp [entryFrame, mkF, argsToLocals, Value.category]; done) | rfl
def QUT (Z : State) (cu : Int32) (h0 : Heap) (n0 : Nat) (v : Option Value) (h : Heap) (L : List Loc) : Prop := v = some (.double (own_u cu)) ∧ Fr n0 L ∧ h = h0
set_option maxRecDepth 65536 in
set_option maxHeartbeats 40000000 in
theorem rmUT (l : Launch) (Z : State) (a0 : Array Value) (hw : ∀ d ∈ tables_1, d.before a0 Z = true) (ws : List Jvm.Cond) (cu : Int32) (h0 : Heap) (n0 : Nat) (Z0 : n0 ≤ h0.size) :
    MetFree l (⟨"com/example/facetwise/facetwise/RankedResultEqualsPinLaw", "util", "(I)D"⟩ : MethodName) (head1 (Jvm.Cond.code (⟨"com/example/facetwise/facetwise/RankedResultEqualsPinLaw", "util", "(I)D"⟩ : MethodName) method_6_code 1 (some .double) :: ws) ({ frames := 0, cells := 0, slots := 0, locals := 0 } : Room)) (fun a U => a = #[(.int cu)] ∧ Z.Warmed39 U.vm ∧ U.heap = h0) (fun _ _ _ _ _ => True) (fun _ U o U' => ∃ v L, o = .returned v ∧ QUT Z cu h0 n0 v U'.heap L ∧ FrameEnd U o U' L ({ frames := 0, cells := 0, slots := 0, locals := 0 } : Room).cells ({ frames := 0, cells := 0, slots := 0, locals := 0 } : Room).slots) := by
  refine MetFree.of_bodySF (plainFor_of_name pn_com_example_facetwise_facetwise_RankedResultEqualsPinLaw) hisR ?_
  intro p e s m args below meth c s₁ Bd hml0 hP hK
  obtain ⟨rfl, hZ, hh⟩ := hP
  have hx := Bd.exec
  have hby := Bd.bytes
  have hml : c.maxLocals = 1 := hml0
  have hown : s.vm.findClass "com/example/facetwise/facetwise/RankedResultEqualsPinLaw" = some m.cls := findClass_of_methodNamed Bd.named
  have hnm := (name_of_methodNamed Bd.named Bd.method).1
  have X0 : Stand p l e ({ frames := 0, cells := 0, slots := 0, locals := 0 } : Room) s m #[(.int cu)] below meth c s₁ [] 0 0 := Stand.of_body Bd
  have e0 : s₁.heap = h0 := by rw [← hh, Bd.state]; rfl
  have N0 := Fr.nil n0
  have K0 : Keep h0 h0 [] := Keep.refl h0 []
  have pre0 : ∀ t, Steps p.tables e below (s₁.setTop (mkF m 0 #[.val (.int cu)] [])) t → Steps p.tables e below (s₁.setTop (entryFrame m #[(.int cu)] 1)) t := fun t k => castTop (ef_UT m cu) k
  have R1 : ∀ t, Steps p.tables e below (s₁.setTop (mkF m 1 #[.val (.int cu)] [(.int cu)])) t → Steps p.tables e below (s₁.setTop (entryFrame m #[(.int cu)] 1)) t := by
    intro t kt
    refine pre0 _ ?_
    show Steps _ _ _ (s₁.setTop (mkF m 0 #[.val (.int cu)] [])) _
    refine XS.iloadN X0.here hx rfl (hb hby dUT_0) rfl ?_
    show Steps _ _ _ (s₁.setTop (mkF m 1 #[.val (.int cu)] [(.int cu)])) _
    exact kt
  by_cases h0c : cu = 0
  ·
    obtain ⟨fs, hr, hrun, hended, hW, hsame⟩ := X0.leave (v := some (.double FP.dconst0)) (fun h => by rw [Bd.returns] at h; cases h)
    refine ⟨_, _, ?_, hrun, hended, _, _, rfl, ?_, ⟨_, rfl⟩, hW, hsame.mono (by decide) (by decide)⟩
    · refine R1 _ ?_
      show Steps _ _ _ (s₁.setTop (mkF m 1 #[.val (.int cu)] [(.int cu)])) _
      refine XS.ifNo X0.here hx rfl (hb hby dUT_1) rfl ((if0 _ _).trans (teq h0c).2) ?_
      refine XS.dconst0 X0.here hx rfl (hb hby dUT_4) (v := FP.dconst0) rfl ?_
      show Steps _ _ _ (s₁.setTop (mkF m 5 #[.val (.int cu)] [(.double FP.dconst0)])) _
      exact retD X0 hx Bd.returns (hb hby dUT_5) hr
    · show QUT Z cu h0 n0 _ s₁.heap _
      rw [e0]
      exact ⟨by rw [own_u, if_pos h0c], N0, rfl⟩
  ·
    have R2 : ∀ t, Steps p.tables e below (s₁.setTop (mkF m 8 #[.val (.int cu)] [(.int (1 : Int32)), (.int cu)])) t → Steps p.tables e below (s₁.setTop (entryFrame m #[(.int cu)] 1)) t := by
      intro t kt
      refine R1 _ ?_
      show Steps _ _ _ (s₁.setTop (mkF m 1 #[.val (.int cu)] [(.int cu)])) _
      refine XS.ifYes X0.here hx rfl (pc0 := 1) (pc' := 6) rfl (hb hby dUT_1) rfl ((if0 _ _).trans (feq h0c).2) (by decide) (by decide) ?_
      refine XS.iloadN X0.here hx rfl (hb hby dUT_6) rfl ?_
      refine XS.iconst X0.here hx rfl (hb hby dUT_7) ?_
      show Steps _ _ _ (s₁.setTop (mkF m 8 #[.val (.int cu)] [(.int (1 : Int32)), (.int cu)])) _
      exact kt
    by_cases h1c : cu = 1
    ·
      obtain ⟨fs, hr, hrun, hended, hW, hsame⟩ := X0.leave (v := some (.double (9223372036854775808 : UInt64))) (fun h => by rw [Bd.returns] at h; cases h)
      refine ⟨_, _, ?_, hrun, hended, _, _, rfl, ?_, ⟨_, rfl⟩, hW, hsame.mono (by decide) (by decide)⟩
      · refine R2 _ ?_
        show Steps _ _ _ (s₁.setTop (mkF m 8 #[.val (.int cu)] [(.int (1 : Int32)), (.int cu)])) _
        refine XS.icmpNo X0.here hx rfl (hb hby dUT_8) rfl (teq h1c).2 ?_
        show Steps _ _ _ (s₁.setTop (mkF m 11 #[.val (.int cu)] [])) _
        refine X0.ldc2DoubleC hx hown (mvT hZ (hw _ (List.mem_of_getElem? (i := 92) rfl))) (g := (mkF m 11 #[.val (.int cu)] [])) rfl (hb hby dUT_11) _ ?_
        show Steps _ _ _ (s₁.setTop (mkF m 14 #[.val (.int cu)] [(.double (9223372036854775808 : UInt64))])) _
        exact retD X0 hx Bd.returns (hb hby dUT_14) hr
      · show QUT Z cu h0 n0 _ s₁.heap _
        rw [e0]
        exact ⟨by rw [own_u, if_neg h0c, if_pos h1c], N0, rfl⟩
    ·
      obtain ⟨fs, hr, hrun, hended, hW, hsame⟩ := X0.leave (v := some (.double (FP.i2d cu))) (fun h => by rw [Bd.returns] at h; cases h)
      refine ⟨_, _, ?_, hrun, hended, _, _, rfl, ?_, ⟨_, rfl⟩, hW, hsame.mono (by decide) (by decide)⟩
      · refine R2 _ ?_
        show Steps _ _ _ (s₁.setTop (mkF m 8 #[.val (.int cu)] [(.int (1 : Int32)), (.int cu)])) _
        refine XS.icmpYes X0.here hx rfl (pc0 := 8) (pc' := 15) rfl (hb hby dUT_8) rfl (feq h1c).2 (by decide) (by decide) ?_
        refine XS.iloadN X0.here hx rfl (hb hby dUT_15) rfl ?_
        refine XS.i2dS X0.here hx rfl (hb hby dUT_16) rfl (v := (FP.i2d cu)) rfl ?_
        show Steps _ _ _ (s₁.setTop (mkF m 17 #[.val (.int cu)] [(.double (FP.i2d cu))])) _
        exact retD X0 hx Bd.returns (hb hby dUT_17) hr
      · show QUT Z cu h0 n0 _ s₁.heap _
        rw [e0]
        exact ⟨by rw [own_u, if_neg h0c, if_neg h1c], N0, rfl⟩
theorem dRI_0 : decode prog_14_method_1_code 0 = .ok (.aload_n 0, 1) := by decide +kernel
theorem dRI_1 : decode prog_14_method_1_code 1 = .ok (.invokespecial 1, 3) := by decide +kernel
theorem dRI_4 : decode prog_14_method_1_code 4 = .ok (.aload_n 0, 1) := by decide +kernel
theorem dRI_5 : decode prog_14_method_1_code 5 = .ok (.aload_n 1, 1) := by decide +kernel
theorem dRI_6 : decode prog_14_method_1_code 6 = .ok (.putfield 7, 3) := by decide +kernel
theorem dRI_9 : decode prog_14_method_1_code 9 = .ok (.aload_n 0, 1) := by decide +kernel
theorem dRI_10 : decode prog_14_method_1_code 10 = .ok (.iload_n 2, 1) := by decide +kernel
theorem dRI_11 : decode prog_14_method_1_code 11 = .ok (.putfield 13, 3) := by decide +kernel
theorem dRI_14 : decode prog_14_method_1_code 14 = .ok (.aload_n 0, 1) := by decide +kernel
theorem dRI_15 : decode prog_14_method_1_code 15 = .ok (.dload_n 3, 1) := by decide +kernel
theorem dRI_16 : decode prog_14_method_1_code 16 = .ok (.putfield 17, 3) := by decide +kernel
theorem dRI_19 : decode prog_14_method_1_code 19 = .ok (.return_, 1) := by decide +kernel
theorem pn_com_example_facetwise_facetwise_RankedResult : plainName "com/example/facetwise/facetwise/RankedResult" = true := by first | (simp [plainName, overriddenIn]; done) | decide +kernel
theorem ef_RI (m : MethodId) (x0 : Addr) (x1 : Addr) (x2 : Int32) (x3 : UInt64) : entryFrame m #[(.ref x0), (.ref x1), (.int x2), (.double x3)] 5 = mkF m 0 #[.val (.ref x0), .val (.ref x1), .val (.int x2), .val (.double x3), .second] [] := by first | (simp [entryFrame, mkF, argsToLocals, Value.category]; done) | rfl
def QRI (Z : State) (th : Addr) (sd : Addr) (rk : Int32) (ut : UInt64) (h0 : Heap) (n0 : Nat) (v : Option Value) (h : Heap) (L : List Loc) : Prop := v = none ∧ Fr n0 L ∧ Keep h0 h [th] ∧ Exa Z h th "com/example/facetwise/facetwise/RankedResult" ∧ Fld Z h th "com/example/facetwise/facetwise/RankedResult" "id" "Ljava/lang/String;" (.ref sd) ∧ Fld Z h th "com/example/facetwise/facetwise/RankedResult" "rank" "I" (.int rk) ∧ Fld Z h th "com/example/facetwise/facetwise/RankedResult" "utility" "D" (.double ut)
set_option maxRecDepth 65536 in
set_option maxHeartbeats 40000000 in
theorem rmRI (l : Launch) (Z : State) (a0 : Array Value) (hw : ∀ d ∈ tables_1, d.before a0 Z = true) (ws : List Jvm.Cond) (th : Addr) (sd : Addr) (rk : Int32) (ut : UInt64) (h0 : Heap) (n0 : Nat) (Z0 : n0 ≤ h0.size) (E_th : Exa Z h0 th "com/example/facetwise/facetwise/RankedResult") (F_id : Fld Z h0 th "com/example/facetwise/facetwise/RankedResult" "id" "Ljava/lang/String;" .null) (F_rk : Fld Z h0 th "com/example/facetwise/facetwise/RankedResult" "rank" "I" (.int (0 : Int32))) (F_ut : Fld Z h0 th "com/example/facetwise/facetwise/RankedResult" "utility" "D" (.double FP.dconst0)) (g_th : n0 ≤ th) :
    MetFree l (⟨"com/example/facetwise/facetwise/RankedResult", "<init>", "(Ljava/lang/String;ID)V"⟩ : MethodName) (head1 (Jvm.Cond.code (⟨"com/example/facetwise/facetwise/RankedResult", "<init>", "(Ljava/lang/String;ID)V"⟩ : MethodName) prog_14_method_1_code 5 none :: ws) ({ frames := 1, cells := 0, slots := 0, locals := 12 } : Room)) (fun a U => a = #[(.ref th), (.ref sd), (.int rk), (.double ut)] ∧ Z.Warmed39 U.vm ∧ U.heap = h0) (fun _ _ _ _ _ => True) (fun _ U o U' => ∃ v L, o = .returned v ∧ QRI Z th sd rk ut h0 n0 v U'.heap L ∧ FrameEnd U o U' L ({ frames := 1, cells := 0, slots := 0, locals := 12 } : Room).cells ({ frames := 1, cells := 0, slots := 0, locals := 12 } : Room).slots) := by
  refine MetFree.of_bodySF (plainFor_of_name pn_com_example_facetwise_facetwise_RankedResult) hisR ?_
  intro p e s m args below meth c s₁ Bd hml0 hP hK
  obtain ⟨rfl, hZ, hh⟩ := hP
  have hx := Bd.exec
  have hby := Bd.bytes
  have hml : c.maxLocals = 5 := hml0
  have hown : s.vm.findClass "com/example/facetwise/facetwise/RankedResult" = some m.cls := findClass_of_methodNamed Bd.named
  have hnm := (name_of_methodNamed Bd.named Bd.method).1
  have X0 : Stand p l e ({ frames := 1, cells := 0, slots := 0, locals := 12 } : Room) s m #[(.ref th), (.ref sd), (.int rk), (.double ut)] below meth c s₁ [] 0 0 := Stand.of_body Bd
  have e0 : s₁.heap = h0 := by rw [← hh, Bd.state]; rfl
  have N0 := Fr.nil n0
  have K0 := Keep.refl h0 [th]
  have pre0 : ∀ t, Steps p.tables e below (s₁.setTop (mkF m 0 #[.val (.ref th), .val (.ref sd), .val (.int rk), .val (.double ut), .second] [])) t → Steps p.tables e below (s₁.setTop (entryFrame m #[(.ref th), (.ref sd), (.int rk), (.double ut)] 5)) t := fun t k => castTop (ef_RI m th sd rk ut) k
  obtain ⟨T3, X3, e3, st3⟩ := initO X0 hx hZ hown (hw _ (List.mem_of_getElem? (i := 39) rfl)) (hw _ (List.mem_of_getElem? (i := 23) rfl)) (hw _ (List.mem_of_getElem? (i := 24) rfl)) e0 (g := (mkF m 1 #[.val (.ref th), .val (.ref sd), .val (.int rk), .val (.double ut), .second] [(.ref th)])) rfl (by rw [hml]; rfl) rfl (hb hby dRI_1) (by decide) (W := 0) (by show 2 * 0 + _ ≤ _; exact Nat.le_of_eq rfl) (by decide)
  obtain ⟨T4, h4, X4, e4, W4, st4⟩ := putF X3 hx hZ hown (host := "") (Or.inl (hw _ (List.mem_of_getElem? (i := 40) rfl))) Via.refl e3 F_id E_th (Or.inr ⟨(hw _ (List.mem_of_getElem? (i := 41) rfl)), rfl, hnm⟩) (hw _ (List.mem_of_getElem? (i := 1) rfl)) (ty := (.object "java/lang/String")) (by decide) rfl rfl (g := (mkF m 6 #[.val (.ref th), .val (.ref sd), .val (.int rk), .val (.double ut), .second] [(.ref sd), (.ref th)])) rfl rfl (hb hby dRI_6)
  have Fw4 := F_id.same W4
  have K4 : Keep h0 h4 [th] := K0.wr W4 (Or.inl (List.mem_of_getElem? (i := 0) rfl))
  have N4 := Fr.snoc X4 N0 g_th
  have f5 := E_th.wr W4
  have f6 := F_rk.other W4 (Or.inr (slot_ne (a0 := a0) (C := "com/example/facetwise/facetwise/RankedResult") (Or.inr (hw _ (List.mem_of_getElem? (i := 43) rfl))) (Or.inr (hw _ (List.mem_of_getElem? (i := 41) rfl))) (by decide) (t := .int) (t' := (.object "java/lang/String")) (by decide) (by decide)))
  obtain ⟨T7, h7, X7, e7, W7, st7⟩ := putF X4 hx hZ hown (host := "") (Or.inl (hw _ (List.mem_of_getElem? (i := 42) rfl))) Via.refl e4 f6 f5 (Or.inr ⟨(hw _ (List.mem_of_getElem? (i := 43) rfl)), rfl, hnm⟩) (hw _ (List.mem_of_getElem? (i := 1) rfl)) (ty := .int) (by decide) rfl rfl (g := (mkF m 11 #[.val (.ref th), .val (.ref sd), .val (.int rk), .val (.double ut), .second] [(.int rk), (.ref th)])) rfl rfl (hb hby dRI_11)
  have Fw7 := f6.same W7
  have K7 : Keep h0 h7 [th] := K4.wr W7 (Or.inl (List.mem_of_getElem? (i := 0) rfl))
  have N7 := Fr.snoc X7 N4 g_th
  have f8 := f5.wr W7
  have f9 := F_ut.other W4 (Or.inr (slot_ne (a0 := a0) (C := "com/example/facetwise/facetwise/RankedResult") (Or.inr (hw _ (List.mem_of_getElem? (i := 45) rfl))) (Or.inr (hw _ (List.mem_of_getElem? (i := 41) rfl))) (by decide) (t := .double) (t' := (.object "java/lang/String")) (by decide) (by decide)))
  have f10 := f9.other W7 (Or.inr (slot_ne (a0 := a0) (C := "com/example/facetwise/facetwise/RankedResult") (Or.inr (hw _ (List.mem_of_getElem? (i := 45) rfl))) (Or.inr (hw _ (List.mem_of_getElem? (i := 43) rfl))) (by decide) (t := .double) (t' := .int) (by decide) (by decide)))
  obtain ⟨T11, h11, X11, e11, W11, st11⟩ := putF X7 hx hZ hown (host := "") (Or.inl (hw _ (List.mem_of_getElem? (i := 44) rfl))) Via.refl e7 f10 f8 (Or.inr ⟨(hw _ (List.mem_of_getElem? (i := 45) rfl)), rfl, hnm⟩) (hw _ (List.mem_of_getElem? (i := 1) rfl)) (ty := .double) (by decide) rfl rfl (g := (mkF m 16 #[.val (.ref th), .val (.ref sd), .val (.int rk), .val (.double ut), .second] [(.double ut), (.ref th)])) rfl rfl (hb hby dRI_16)
  have Fw11 := f10.same W11
  have K11 : Keep h0 h11 [th] := K7.wr W11 (Or.inl (List.mem_of_getElem? (i := 0) rfl))
  have N11 := Fr.snoc X11 N7 g_th
  have f12 := f8.wr W11
  have f13 := Fw4.other W7 (Or.inr (slot_ne (a0 := a0) (C := "com/example/facetwise/facetwise/RankedResult") (Or.inr (hw _ (List.mem_of_getElem? (i := 41) rfl))) (Or.inr (hw _ (List.mem_of_getElem? (i := 43) rfl))) (by decide) (t := (.object "java/lang/String")) (t' := .int) (by decide) (by decide)))
  have f14 := f13.other W11 (Or.inr (slot_ne (a0 := a0) (C := "com/example/facetwise/facetwise/RankedResult") (Or.inr (hw _ (List.mem_of_getElem? (i := 41) rfl))) (Or.inr (hw _ (List.mem_of_getElem? (i := 45) rfl))) (by decide) (t := (.object "java/lang/String")) (t' := .double) (by decide) (by decide)))
  have f15 := Fw7.other W11 (Or.inr (slot_ne (a0 := a0) (C := "com/example/facetwise/facetwise/RankedResult") (Or.inr (hw _ (List.mem_of_getElem? (i := 43) rfl))) (Or.inr (hw _ (List.mem_of_getElem? (i := 45) rfl))) (by decide) (t := .int) (t' := .double) (by decide) (by decide)))
  obtain ⟨fs, hr, hrun, hended, hW, hsame⟩ := X11.leave (v := none) (fun _ => rfl)
  refine ⟨_, _, ?_, hrun, hended, _, _, rfl, ?_, ⟨_, rfl⟩, hW, hsame.mono (by decide) (by decide)⟩
  · refine pre0 _ ?_
    show Steps _ _ _ (s₁.setTop (mkF m 0 #[.val (.ref th), .val (.ref sd), .val (.int rk), .val (.double ut), .second] [])) _
    refine XS.aloadN X0.here hx rfl (hb hby dRI_0) rfl rfl ?_
    show Steps _ _ _ (s₁.setTop (mkF m 1 #[.val (.ref th), .val (.ref sd), .val (.int rk), .val (.double ut), .second] [(.ref th)])) _
    refine st3 _ ?_
    refine XS.aloadN X3.here hx rfl (hb hby dRI_4) rfl rfl ?_
    refine XS.aloadN X3.here hx rfl (hb hby dRI_5) rfl rfl ?_
    show Steps _ _ _ (T3.setTop (mkF m 6 #[.val (.ref th), .val (.ref sd), .val (.int rk), .val (.double ut), .second] [(.ref sd), (.ref th)])) _
    refine st4 _ ?_
    refine XS.aloadN X4.here hx rfl (hb hby dRI_9) rfl rfl ?_
    refine XS.iloadN X4.here hx rfl (hb hby dRI_10) rfl ?_
    show Steps _ _ _ (T4.setTop (mkF m 11 #[.val (.ref th), .val (.ref sd), .val (.int rk), .val (.double ut), .second] [(.int rk), (.ref th)])) _
    refine st7 _ ?_
    refine XS.aloadN X7.here hx rfl (hb hby dRI_14) rfl rfl ?_
    refine XS.dloadN X7.here hx rfl (hb hby dRI_15) rfl ?_
    show Steps _ _ _ (T7.setTop (mkF m 16 #[.val (.ref th), .val (.ref sd), .val (.int rk), .val (.double ut), .second] [(.double ut), (.ref th)])) _
    refine st11 _ ?_
    show Steps _ _ _ (T11.setTop (mkF m 19 #[.val (.ref th), .val (.ref sd), .val (.int rk), .val (.double ut), .second] [])) _
    exact X11.returnOut hx Bd.returns (hb hby dRI_19) hr
  · show QRI Z th sd rk ut h0 n0 _ T11.heap _
    rw [e11]
    exact ⟨rfl, N11, K11, f12, f14, f15, Fw11⟩
theorem dNN_0 : decode jdk_117_method_6_code 0 = .ok (.dload_n 0, 1) := by decide +kernel
theorem dNN_1 : decode jdk_117_method_6_code 1 = .ok (.dload_n 0, 1) := by decide +kernel
theorem dNN_2 : decode jdk_117_method_6_code 2 = .ok (.dcmp .l, 1) := by decide +kernel
theorem dNN_3 : decode jdk_117_method_6_code 3 = .ok (.ifCond .eq 7, 3) := by decide +kernel
theorem dNN_10 : decode jdk_117_method_6_code 10 = .ok (.iconst 0, 1) := by decide +kernel
theorem dNN_11 : decode jdk_117_method_6_code 11 = .ok (.ireturn, 1) := by decide +kernel
theorem pn_java_lang_Double : plainName "java/lang/Double" = true := by first | (simp [plainName, overriddenIn]; done) | decide +kernel
theorem ef_NN (m : MethodId) (x0 : UInt64) : entryFrame m #[(.double x0)] 2 = mkF m 0 #[.val (.double x0), .second] [] := by first | (simp [entryFrame, mkF, argsToLocals, Value.category]; done) | rfl
def QNN (Z : State) (xd : UInt64) (h0 : Heap) (n0 : Nat) (v : Option Value) (h : Heap) (L : List Loc) : Prop := v = some (.int (0 : Int32)) ∧ Fr n0 L ∧ h = h0
set_option maxRecDepth 65536 in
set_option maxHeartbeats 40000000 in
theorem rmNN (l : Launch) (Z : State) (a0 : Array Value) (hw : ∀ d ∈ tables_1, d.before a0 Z = true) (ws : List Jvm.Cond) (xd : UInt64) (h0 : Heap) (n0 : Nat) (Z0 : n0 ≤ h0.size) (NNx : Jvm.Free.Fl.NoNaN64 xd) :
    MetFree l (⟨"java/lang/Double", "isNaN", "(D)Z"⟩ : MethodName) (head1 (Jvm.Cond.code (⟨"java/lang/Double", "isNaN", "(D)Z"⟩ : MethodName) jdk_117_method_6_code 2 (some .boolean) :: ws) ({ frames := 0, cells := 0, slots := 0, locals := 0 } : Room)) (fun a U => a = #[(.double xd)] ∧ Z.Warmed39 U.vm ∧ U.heap = h0) (fun _ _ _ _ _ => True) (fun _ U o U' => ∃ v L, o = .returned v ∧ QNN Z xd h0 n0 v U'.heap L ∧ FrameEnd U o U' L ({ frames := 0, cells := 0, slots := 0, locals := 0 } : Room).cells ({ frames := 0, cells := 0, slots := 0, locals := 0 } : Room).slots) := by
  refine MetFree.of_bodySF (plainFor_of_name pn_java_lang_Double) hisR ?_
  intro p e s m args below meth c s₁ Bd hml0 hP hK
  obtain ⟨rfl, hZ, hh⟩ := hP
  have hx := Bd.exec
  have hby := Bd.bytes
  have hml : c.maxLocals = 2 := hml0
  have hown : s.vm.findClass "java/lang/Double" = some m.cls := findClass_of_methodNamed Bd.named
  have hnm := (name_of_methodNamed Bd.named Bd.method).1
  have X0 : Stand p l e ({ frames := 0, cells := 0, slots := 0, locals := 0 } : Room) s m #[(.double xd)] below meth c s₁ [] 0 0 := Stand.of_body Bd
  have e0 : s₁.heap = h0 := by rw [← hh, Bd.state]; rfl
  have N0 := Fr.nil n0
  have K0 : Keep h0 h0 [] := Keep.refl h0 []
  have pre0 : ∀ t, Steps p.tables e below (s₁.setTop (mkF m 0 #[.val (.double xd), .second] [])) t → Steps p.tables e below (s₁.setTop (entryFrame m #[(.double xd)] 2)) t := fun t k => castTop (ef_NN m xd) k
  obtain ⟨fs, hr, hrun, hended, hW, hsame⟩ := X0.leave (v := some (.int (0 : Int32))) (fun h => by rw [Bd.returns] at h; cases h)
  refine ⟨_, _, ?_, hrun, hended, _, _, rfl, ?_, ⟨_, rfl⟩, hW, hsame.mono (by decide) (by decide)⟩
  · refine pre0 _ ?_
    show Steps _ _ _ (s₁.setTop (mkF m 0 #[.val (.double xd), .second] [])) _
    refine XS.dloadN X0.here hx rfl (hb hby dNN_0) rfl ?_
    refine XS.dloadN X0.here hx rfl (hb hby dNN_1) rfl ?_
    refine XS.dcmpS X0.here hx rfl (hb hby dNN_2) rfl (v := (0 : Int32)) (dcmpV_self NNx _) ?_
    refine XS.ifYes X0.here hx rfl (pc0 := 3) (pc' := 10) rfl (hb hby dNN_3) rfl (by decide) (by decide) (by decide) ?_
    show Steps _ _ _ (s₁.setTop (mkF m 10 #[.val (.double xd), .second] [])) _
    refine XS.iconst X0.here hx rfl (hb hby dNN_10) ?_
    show Steps _ _ _ (s₁.setTop (mkF m 11 #[.val (.double xd), .second] [(.int (0 : Int32))])) _
    exact retN X0 hx (t := .boolean) Bd.returns (by simp) (hb hby dNN_11) hr
  · show QNN Z xd h0 n0 _ s₁.heap _
    rw [e0]
    exact ⟨rfl, N0, rfl⟩
theorem dLB_0 : decode jdk_117_method_23_code 0 = .ok (.dload_n 0, 1) := by decide +kernel
theorem dLB_1 : decode jdk_117_method_23_code 1 = .ok (.invokestatic 122, 3) := by decide +kernel
theorem pd_1 : parseMethodDescriptor "(D)Z" = some ⟨[.double], some .boolean⟩ := by decide +kernel
theorem dLB_4 : decode jdk_117_method_23_code 4 = .ok (.ifCond .ne 8, 3) := by decide +kernel
theorem dLB_7 : decode jdk_117_method_23_code 7 = .ok (.dload_n 0, 1) := by decide +kernel
theorem dLB_8 : decode jdk_117_method_23_code 8 = .ok (.invokestatic 134, 3) := by decide +kernel
theorem dLB_11 : decode jdk_117_method_23_code 11 = .ok (.lreturn, 1) := by decide +kernel
theorem ef_LB (m : MethodId) (x0 : UInt64) : entryFrame m #[(.double x0)] 2 = mkF m 0 #[.val (.double x0), .second] [] := by first | (simp [entryFrame, mkF, argsToLocals, Value.category]; done) | rfl
def QLB (Z : State) (xd : UInt64) (h0 : Heap) (n0 : Nat) (v : Option Value) (h : Heap) (L : List Loc) : Prop := v = some (.long (xd.toInt64)) ∧ Fr n0 L ∧ h = h0
set_option maxRecDepth 65536 in
set_option maxHeartbeats 40000000 in
theorem rmLB (l : Launch) (Z : State) (a0 : Array Value) (hw : ∀ d ∈ tables_1, d.before a0 Z = true) (ws : List Jvm.Cond) (xd : UInt64) (h0 : Heap) (n0 : Nat) (Z0 : n0 ≤ h0.size) (NNx : Jvm.Free.Fl.NoNaN64 xd) :
    MetFree l (⟨"java/lang/Double", "doubleToLongBits", "(D)J"⟩ : MethodName) (head1 (Jvm.Cond.code (⟨"java/lang/Double", "doubleToLongBits", "(D)J"⟩ : MethodName) jdk_117_method_23_code 2 (some .long) :: ws) ({ frames := 1, cells := 0, slots := 0, locals := 15 } : Room)) (fun a U => a = #[(.double xd)] ∧ Z.Warmed39 U.vm ∧ U.heap = h0) (fun _ _ _ _ _ => True) (fun _ U o U' => ∃ v L, o = .returned v ∧ QLB Z xd h0 n0 v U'.heap L ∧ FrameEnd U o U' L ({ frames := 1, cells := 0, slots := 0, locals := 15 } : Room).cells ({ frames := 1, cells := 0, slots := 0, locals := 15 } : Room).slots) := by
  refine MetFree.of_bodySF (plainFor_of_name pn_java_lang_Double) hisR ?_
  intro p e s m args below meth c s₁ Bd hml0 hP hK
  obtain ⟨rfl, hZ, hh⟩ := hP
  have hx := Bd.exec
  have hby := Bd.bytes
  have hml : c.maxLocals = 2 := hml0
  have hown : s.vm.findClass "java/lang/Double" = some m.cls := findClass_of_methodNamed Bd.named
  have hnm := (name_of_methodNamed Bd.named Bd.method).1
  have X0 : Stand p l e ({ frames := 1, cells := 0, slots := 0, locals := 15 } : Room) s m #[(.double xd)] below meth c s₁ [] 0 0 := Stand.of_body Bd
  have e0 : s₁.heap = h0 := by rw [← hh, Bd.state]; rfl
  have N0 := Fr.nil n0
  have K0 : Keep h0 h0 [] := Keep.refl h0 []
  have pre0 : ∀ t, Steps p.tables e below (s₁.setTop (mkF m 0 #[.val (.double xd), .second] [])) t → Steps p.tables e below (s₁.setTop (entryFrame m #[(.double xd)] 2)) t := fun t k => castTop (ef_LB m xd) k
  obtain ⟨_, _, ⟨T16, L16, k16, n16⟩, -, X16, ⟨Lc16, hQ16, l16, y16, z16⟩, st16⟩ := Jvm.LawKit.callS X0 hx (y := (⟨"java/lang/Double", "isNaN", "(D)Z"⟩ : MethodName)) hown (mvT hZ (hw _ (List.mem_of_getElem? (i := 71) rfl))) (mvT hZ (hw _ (List.mem_of_getElem? (i := 72) rfl))) (mvT hZ (hw _ (List.mem_of_getElem? (i := 66) rfl))) (mvT hZ (hw _ (List.mem_of_getElem? (i := 73) rfl))) (by decide) (backOf (W := 0) (rmNN l Z a0 hw [] xd h0 n0 (Nat.le_trans Z0 K0.1) NNx) hZ (hw _ (List.mem_of_getElem? (i := 73) rfl)) (hw _ (List.mem_of_getElem? (i := 66) rfl)) (by decide) (by decide)) (g := (mkF m 1 #[.val (.double xd), .second] [(.double xd)])) rfl (by rw [hml]; rfl) (argsL := [(.double xd)]) (rest := []) (lenOf pd_1 rfl) rfl (by show 2 * 0 + _ ≤ _; exact Nat.le_of_eq rfl) (hb hby dLB_1) (fun _ _ => ⟨rfl, e0, (by decide : 0 + 0 ≤ _), (by decide : 0 + 0 ≤ _)⟩)
  dsimp only [Pt.U, Pt.locs, Pt.cells, Pt.slots] at X16 l16 y16 z16 st16 hQ16
  rw [l16, y16, z16] at X16
  obtain ⟨hv16, Nq16, eq16⟩ := hQ16
  rw [hv16] at st16
  have N16 := Fr.app N0 Nq16
  obtain ⟨T17, X17, e17, st17⟩ := own_rawBits X16 hx hZ hown (hw _ (List.mem_of_getElem? (i := 74) rfl)) (hw _ (List.mem_of_getElem? (i := 75) rfl)) (hw _ (List.mem_of_getElem? (i := 66) rfl)) (hw _ (List.mem_of_getElem? (i := 76) rfl)) eq16 (g := (mkF m 8 #[.val (.double xd), .second] [(.double xd)])) rfl (by rw [hml]; rfl) rfl (W := 0) (by show 2 * 0 + _ ≤ _; exact Nat.le_of_eq rfl) (hb hby dLB_8) (by decide) (by decide)
  obtain ⟨fs, hr, hrun, hended, hW, hsame⟩ := X17.leave (v := some (.long (xd.toInt64))) (fun h => by rw [Bd.returns] at h; cases h)
  refine ⟨_, _, ?_, hrun, hended, _, _, rfl, ?_, ⟨_, rfl⟩, hW, hsame.mono (by decide) (by decide)⟩
  · refine pre0 _ ?_
    show Steps _ _ _ (s₁.setTop (mkF m 0 #[.val (.double xd), .second] [])) _
    refine XS.dloadN X0.here hx rfl (hb hby dLB_0) rfl ?_
    show Steps _ _ _ (s₁.setTop (mkF m 1 #[.val (.double xd), .second] [(.double xd)])) _
    refine st16 _ ?_
    show Steps _ _ _ (T16.setTop (mkF m 4 #[.val (.double xd), .second] [(.int (0 : Int32))])) _
    refine XS.ifNo X16.here hx rfl (hb hby dLB_4) rfl (by decide) ?_
    refine XS.dloadN X16.here hx rfl (hb hby dLB_7) rfl ?_
    show Steps _ _ _ (T16.setTop (mkF m 8 #[.val (.double xd), .second] [(.double xd)])) _
    refine st17 _ ?_
    show Steps _ _ _ (T17.setTop (mkF m 11 #[.val (.double xd), .second] [(.long (xd.toInt64))])) _
    jvm_step X17.here [X17.here.top, hx, (hb hby dLB_11), X17.method', Bd.returns, narrow]
    first | (intro acts; rw [hr _ acts rfl rfl rfl]) | rw [hr _ _ rfl rfl rfl]
    exact Steps.refl _
  · show QLB Z xd h0 n0 _ T17.heap _
    rw [e17]
    exact ⟨rfl, N16, rfl⟩
theorem dCM_0 : decode jdk_117_method_27_code 0 = .ok (.dload_n 0, 1) := by decide +kernel
theorem dCM_1 : decode jdk_117_method_27_code 1 = .ok (.dload_n 2, 1) := by decide +kernel
theorem dCM_2 : decode jdk_117_method_27_code 2 = .ok (.dcmp .g, 1) := by decide +kernel
theorem dCM_3 : decode jdk_117_method_27_code 3 = .ok (.ifCond .ge 5, 3) := by decide +kernel
theorem dCM_6 : decode jdk_117_method_27_code 6 = .ok (.iconst (-1), 1) := by decide +kernel
theorem dCM_7 : decode jdk_117_method_27_code 7 = .ok (.ireturn, 1) := by decide +kernel
theorem dCM_8 : decode jdk_117_method_27_code 8 = .ok (.dload_n 0, 1) := by decide +kernel
theorem dCM_9 : decode jdk_117_method_27_code 9 = .ok (.dload_n 2, 1) := by decide +kernel
theorem dCM_10 : decode jdk_117_method_27_code 10 = .ok (.dcmp .l, 1) := by decide +kernel
theorem dCM_11 : decode jdk_117_method_27_code 11 = .ok (.ifCond .le 5, 3) := by decide +kernel
theorem dCM_14 : decode jdk_117_method_27_code 14 = .ok (.iconst 1, 1) := by decide +kernel
theorem dCM_15 : decode jdk_117_method_27_code 15 = .ok (.ireturn, 1) := by decide +kernel
theorem dCM_16 : decode jdk_117_method_27_code 16 = .ok (.dload_n 0, 1) := by decide +kernel
theorem dCM_17 : decode jdk_117_method_27_code 17 = .ok (.invokestatic 46, 3) := by decide +kernel
theorem pd_2 : parseMethodDescriptor "(D)J" = some ⟨[.double], some .long⟩ := by decide +kernel
theorem dCM_20 : decode jdk_117_method_27_code 20 = .ok (.lstore 4, 2) := by decide +kernel
theorem dCM_22 : decode jdk_117_method_27_code 22 = .ok (.dload_n 2, 1) := by decide +kernel
theorem dCM_23 : decode jdk_117_method_27_code 23 = .ok (.invokestatic 46, 3) := by decide +kernel
theorem dCM_26 : decode jdk_117_method_27_code 26 = .ok (.lstore 6, 2) := by decide +kernel
theorem dCM_28 : decode jdk_117_method_27_code 28 = .ok (.lload 4, 2) := by decide +kernel
theorem dCM_30 : decode jdk_117_method_27_code 30 = .ok (.lload 6, 2) := by decide +kernel
theorem dCM_32 : decode jdk_117_method_27_code 32 = .ok (.lcmp, 1) := by decide +kernel
theorem dCM_33 : decode jdk_117_method_27_code 33 = .ok (.ifCond .ne 7, 3) := by decide +kernel
theorem dCM_36 : decode jdk_117_method_27_code 36 = .ok (.iconst 0, 1) := by decide +kernel
theorem dCM_37 : decode jdk_117_method_27_code 37 = .ok (.goto 16, 3) := by decide +kernel
theorem dCM_53 : decode jdk_117_method_27_code 53 = .ok (.ireturn, 1) := by decide +kernel
theorem dCM_40 : decode jdk_117_method_27_code 40 = .ok (.lload 4, 2) := by decide +kernel
theorem dCM_42 : decode jdk_117_method_27_code 42 = .ok (.lload 6, 2) := by decide +kernel
theorem dCM_44 : decode jdk_117_method_27_code 44 = .ok (.lcmp, 1) := by decide +kernel
theorem dCM_45 : decode jdk_117_method_27_code 45 = .ok (.ifCond .ge 7, 3) := by decide +kernel
theorem dCM_48 : decode jdk_117_method_27_code 48 = .ok (.iconst (-1), 1) := by decide +kernel
theorem dCM_49 : decode jdk_117_method_27_code 49 = .ok (.goto 4, 3) := by decide +kernel
theorem dCM_52 : decode jdk_117_method_27_code 52 = .ok (.iconst 1, 1) := by decide +kernel
theorem ef_CM (m : MethodId) (x0 : UInt64) (x1 : UInt64) : entryFrame m #[(.double x0), (.double x1)] 8 = mkF m 0 #[.val (.double x0), .second, .val (.double x1), .second, .unset, .unset, .unset, .unset] [] := by first | (simp [entryFrame, mkF, argsToLocals, Value.category]; done) | rfl
def QCM (Z : State) (xd : UInt64) (yd : UInt64) (h0 : Heap) (n0 : Nat) (v : Option Value) (h : Heap) (L : List Loc) : Prop := v = some (.int (own_cmp xd yd)) ∧ Fr n0 L ∧ h = h0
set_option maxRecDepth 65536 in
set_option maxHeartbeats 40000000 in
theorem rmCM (l : Launch) (Z : State) (a0 : Array Value) (hw : ∀ d ∈ tables_1, d.before a0 Z = true) (ws : List Jvm.Cond) (xd : UInt64) (yd : UInt64) (h0 : Heap) (n0 : Nat) (Z0 : n0 ≤ h0.size) (NNx : Jvm.Free.Fl.NoNaN64 xd) (NNy : Jvm.Free.Fl.NoNaN64 yd) :
    MetFree l (⟨"java/lang/Double", "compare", "(DD)I"⟩ : MethodName) (head1 (Jvm.Cond.code (⟨"java/lang/Double", "compare", "(DD)I"⟩ : MethodName) jdk_117_method_27_code 8 (some .int) :: ws) ({ frames := 2, cells := 0, slots := 0, locals := 28 } : Room)) (fun a U => a = #[(.double xd), (.double yd)] ∧ Z.Warmed39 U.vm ∧ U.heap = h0) (fun _ _ _ _ _ => True) (fun _ U o U' => ∃ v L, o = .returned v ∧ QCM Z xd yd h0 n0 v U'.heap L ∧ FrameEnd U o U' L ({ frames := 2, cells := 0, slots := 0, locals := 28 } : Room).cells ({ frames := 2, cells := 0, slots := 0, locals := 28 } : Room).slots) := by
  refine MetFree.of_bodySF (plainFor_of_name pn_java_lang_Double) hisR ?_
  intro p e s m args below meth c s₁ Bd hml0 hP hK
  obtain ⟨rfl, hZ, hh⟩ := hP
  have hx := Bd.exec
  have hby := Bd.bytes
  have hml : c.maxLocals = 8 := hml0
  have hown : s.vm.findClass "java/lang/Double" = some m.cls := findClass_of_methodNamed Bd.named
  have hnm := (name_of_methodNamed Bd.named Bd.method).1
  have X0 : Stand p l e ({ frames := 2, cells := 0, slots := 0, locals := 28 } : Room) s m #[(.double xd), (.double yd)] below meth c s₁ [] 0 0 := Stand.of_body Bd
  have e0 : s₁.heap = h0 := by rw [← hh, Bd.state]; rfl
  have N0 := Fr.nil n0
  have K0 : Keep h0 h0 [] := Keep.refl h0 []
  have pre0 : ∀ t, Steps p.tables e below (s₁.setTop (mkF m 0 #[.val (.double xd), .second, .val (.double yd), .second, .unset, .unset, .unset, .unset] [])) t → Steps p.tables e below (s₁.setTop (entryFrame m #[(.double xd), (.double yd)] 8)) t := fun t k => castTop (ef_CM m xd yd) k
  have R18 : ∀ t, Steps p.tables e below (s₁.setTop (mkF m 3 #[.val (.double xd), .second, .val (.double yd), .second, .unset, .unset, .unset, .unset] [(.int (cmpValue (FP.dcmp xd yd) .g))])) t → Steps p.tables e below (s₁.setTop (entryFrame m #[(.double xd), (.double yd)] 8)) t := by
    intro t kt
    refine pre0 _ ?_
    show Steps _ _ _ (s₁.setTop (mkF m 0 #[.val (.double xd), .second, .val (.double yd), .second, .unset, .unset, .unset, .unset] [])) _
    refine XS.dloadN X0.here hx rfl (hb hby dCM_0) rfl ?_
    refine XS.dloadN X0.here hx rfl (hb hby dCM_1) rfl ?_
    refine XS.dcmpS X0.here hx rfl (hb hby dCM_2) rfl (v := (cmpValue (FP.dcmp xd yd) .g)) rfl ?_
    show Steps _ _ _ (s₁.setTop (mkF m 3 #[.val (.double xd), .second, .val (.double yd), .second, .unset, .unset, .unset, .unset] [(.int (cmpValue (FP.dcmp xd yd) .g))])) _
    exact kt
  by_cases h1 : cmpValue (FP.dcmp xd yd) .g < 0
  ·
    obtain ⟨fs, hr, hrun, hended, hW, hsame⟩ := X0.leave (v := some (.int (-1 : Int32))) (fun h => by rw [Bd.returns] at h; cases h)
    refine ⟨_, _, ?_, hrun, hended, _, _, rfl, ?_, ⟨_, rfl⟩, hW, hsame.mono (by decide) (by decide)⟩
    · refine R18 _ ?_
      show Steps _ _ _ (s₁.setTop (mkF m 3 #[.val (.double xd), .second, .val (.double yd), .second, .unset, .unset, .unset, .unset] [(.int (cmpValue (FP.dcmp xd yd) .g))])) _
      refine XS.ifNo X0.here hx rfl (hb hby dCM_3) rfl ((if0 _ _).trans (tlt h1).2.1) ?_
      refine XS.iconst X0.here hx rfl (hb hby dCM_6) ?_
      show Steps _ _ _ (s₁.setTop (mkF m 7 #[.val (.double xd), .second, .val (.double yd), .second, .unset, .unset, .unset, .unset] [(.int (-1 : Int32))])) _
      exact retI X0 hx Bd.returns (hb hby dCM_7) hr
    · show QCM Z xd yd h0 n0 _ s₁.heap _
      rw [e0]
      exact ⟨by rw [own_cmp, if_pos h1], N0, rfl⟩
  ·
    have R19 : ∀ t, Steps p.tables e below (s₁.setTop (mkF m 11 #[.val (.double xd), .second, .val (.double yd), .second, .unset, .unset, .unset, .unset] [(.int (cmpValue (FP.dcmp xd yd) .l))])) t → Steps p.tables e below (s₁.setTop (entryFrame m #[(.double xd), (.double yd)] 8)) t := by
      intro t kt
      refine R18 _ ?_
      show Steps _ _ _ (s₁.setTop (mkF m 3 #[.val (.double xd), .second, .val (.double yd), .second, .unset, .unset, .unset, .unset] [(.int (cmpValue (FP.dcmp xd yd) .g))])) _
      refine XS.ifYes X0.here hx rfl (pc0 := 3) (pc' := 8) rfl (hb hby dCM_3) rfl ((if0 _ _).trans (flt h1).2.1) (by decide) (by decide) ?_
      refine XS.dloadN X0.here hx rfl (hb hby dCM_8) rfl ?_
      refine XS.dloadN X0.here hx rfl (hb hby dCM_9) rfl ?_
      refine XS.dcmpS X0.here hx rfl (hb hby dCM_10) rfl (v := (cmpValue (FP.dcmp xd yd) .l)) rfl ?_
      show Steps _ _ _ (s₁.setTop (mkF m 11 #[.val (.double xd), .second, .val (.double yd), .second, .unset, .unset, .unset, .unset] [(.int (cmpValue (FP.dcmp xd yd) .l))])) _
      exact kt
    by_cases h2 : 0 < cmpValue (FP.dcmp xd yd) .l
    ·
      obtain ⟨fs, hr, hrun, hended, hW, hsame⟩ := X0.leave (v := some (.int (1 : Int32))) (fun h => by rw [Bd.returns] at h; cases h)
      refine ⟨_, _, ?_, hrun, hended, _, _, rfl, ?_, ⟨_, rfl⟩, hW, hsame.mono (by decide) (by decide)⟩
      · refine R19 _ ?_
        show Steps _ _ _ (s₁.setTop (mkF m 11 #[.val (.double xd), .second, .val (.double yd), .second, .unset, .unset, .unset, .unset] [(.int (cmpValue (FP.dcmp xd yd) .l))])) _
        refine XS.ifNo X0.here hx rfl (hb hby dCM_11) rfl ((if0 _ _).trans (tlt h2).2.2.2) ?_
        refine XS.iconst X0.here hx rfl (hb hby dCM_14) ?_
        show Steps _ _ _ (s₁.setTop (mkF m 15 #[.val (.double xd), .second, .val (.double yd), .second, .unset, .unset, .unset, .unset] [(.int (1 : Int32))])) _
        exact retI X0 hx Bd.returns (hb hby dCM_15) hr
      · show QCM Z xd yd h0 n0 _ s₁.heap _
        rw [e0]
        exact ⟨by rw [own_cmp, if_neg h1, if_pos h2], N0, rfl⟩
    ·
      obtain ⟨_, _, ⟨T20, L20, k20, n20⟩, -, X20, ⟨Lc20, hQ20, l20, y20, z20⟩, st20⟩ := Jvm.LawKit.callS X0 hx (y := (⟨"java/lang/Double", "doubleToLongBits", "(D)J"⟩ : MethodName)) hown (mvT hZ (hw _ (List.mem_of_getElem? (i := 68) rfl))) (mvT hZ (hw _ (List.mem_of_getElem? (i := 69) rfl))) (mvT hZ (hw _ (List.mem_of_getElem? (i := 66) rfl))) (mvT hZ (hw _ (List.mem_of_getElem? (i := 70) rfl))) (by decide) (backOf (W := 0) (rmLB l Z a0 hw [] xd h0 n0 (Nat.le_trans Z0 K0.1) NNx) hZ (hw _ (List.mem_of_getElem? (i := 70) rfl)) (hw _ (List.mem_of_getElem? (i := 66) rfl)) (by decide) (by decide)) (g := (mkF m 17 #[.val (.double xd), .second, .val (.double yd), .second, .unset, .unset, .unset, .unset] [(.double xd)])) rfl (by rw [hml]; rfl) (argsL := [(.double xd)]) (rest := []) (lenOf pd_2 rfl) rfl (by show 2 * 0 + _ ≤ _; exact Nat.le_of_eq rfl) (hb hby dCM_17) (fun _ _ => ⟨rfl, e0, (by decide : 0 + 0 ≤ _), (by decide : 0 + 0 ≤ _)⟩)
      dsimp only [Pt.U, Pt.locs, Pt.cells, Pt.slots] at X20 l20 y20 z20 st20 hQ20
      rw [l20, y20, z20] at X20
      obtain ⟨hv20, Nq20, eq20⟩ := hQ20
      rw [hv20] at st20
      have N20 := Fr.app N0 Nq20
      obtain ⟨_, _, ⟨T21, L21, k21, n21⟩, -, X21, ⟨Lc21, hQ21, l21, y21, z21⟩, st21⟩ := Jvm.LawKit.callS X20 hx (y := (⟨"java/lang/Double", "doubleToLongBits", "(D)J"⟩ : MethodName)) hown (mvT hZ (hw _ (List.mem_of_getElem? (i := 68) rfl))) (mvT hZ (hw _ (List.mem_of_getElem? (i := 69) rfl))) (mvT hZ (hw _ (List.mem_of_getElem? (i := 66) rfl))) (mvT hZ (hw _ (List.mem_of_getElem? (i := 70) rfl))) (by decide) (backOf (W := 0) (rmLB l Z a0 hw [] yd h0 n0 (Nat.le_trans Z0 K0.1) NNy) hZ (hw _ (List.mem_of_getElem? (i := 70) rfl)) (hw _ (List.mem_of_getElem? (i := 66) rfl)) (by decide) (by decide)) (g := (mkF m 23 #[.val (.double xd), .second, .val (.double yd), .second, .val (.long (xd.toInt64)), .second, .unset, .unset] [(.double yd)])) rfl (by rw [hml]; rfl) (argsL := [(.double yd)]) (rest := []) (lenOf pd_2 rfl) rfl (by show 2 * 0 + _ ≤ _; exact Nat.le_of_eq rfl) (hb hby dCM_23) (fun _ _ => ⟨rfl, eq20, (by decide : 0 + 0 ≤ _), (by decide : 0 + 0 ≤ _)⟩)
      dsimp only [Pt.U, Pt.locs, Pt.cells, Pt.slots] at X21 l21 y21 z21 st21 hQ21
      rw [l21, y21, z21] at X21
      obtain ⟨hv21, Nq21, eq21⟩ := hQ21
      rw [hv21] at st21
      have N21 := Fr.app N20 Nq21
      have R22 : ∀ t, Steps p.tables e below (T21.setTop (mkF m 33 #[.val (.double xd), .second, .val (.double yd), .second, .val (.long (xd.toInt64)), .second, .val (.long (yd.toInt64)), .second] [(.int (lcmpW (xd.toInt64) (yd.toInt64)))])) t → Steps p.tables e below (s₁.setTop (entryFrame m #[(.double xd), (.double yd)] 8)) t := by
        intro t kt
        refine R19 _ ?_
        show Steps _ _ _ (s₁.setTop (mkF m 11 #[.val (.double xd), .second, .val (.double yd), .second, .unset, .unset, .unset, .unset] [(.int (cmpValue (FP.dcmp xd yd) .l))])) _
        refine XS.ifYes X0.here hx rfl (pc0 := 11) (pc' := 16) rfl (hb hby dCM_11) rfl ((if0 _ _).trans (flt h2).2.2.2) (by decide) (by decide) ?_
        refine XS.dloadN X0.here hx rfl (hb hby dCM_16) rfl ?_
        show Steps _ _ _ (s₁.setTop (mkF m 17 #[.val (.double xd), .second, .val (.double yd), .second, .unset, .unset, .unset, .unset] [(.double xd)])) _
        refine st20 _ ?_
        show Steps _ _ _ (T20.setTop (mkF m 20 #[.val (.double xd), .second, .val (.double yd), .second, .unset, .unset, .unset, .unset] [(.long (xd.toInt64))])) _
        refine XS.lstore X20.here hx rfl (hb hby dCM_20) rfl (l' := #[.val (.double xd), .second, .val (.double yd), .second, .val (.long (xd.toInt64)), .second, .unset, .unset]) rfl ?_
        refine XS.dloadN X20.here hx rfl (hb hby dCM_22) rfl ?_
        show Steps _ _ _ (T20.setTop (mkF m 23 #[.val (.double xd), .second, .val (.double yd), .second, .val (.long (xd.toInt64)), .second, .unset, .unset] [(.double yd)])) _
        refine st21 _ ?_
        show Steps _ _ _ (T21.setTop (mkF m 26 #[.val (.double xd), .second, .val (.double yd), .second, .val (.long (xd.toInt64)), .second, .unset, .unset] [(.long (yd.toInt64))])) _
        refine XS.lstore X21.here hx rfl (hb hby dCM_26) rfl (l' := #[.val (.double xd), .second, .val (.double yd), .second, .val (.long (xd.toInt64)), .second, .val (.long (yd.toInt64)), .second]) rfl ?_
        refine XS.lload X21.here hx rfl (hb hby dCM_28) rfl ?_
        refine XS.lload X21.here hx rfl (hb hby dCM_30) rfl ?_
        refine XS.lcmp X21.here hx rfl (hb hby dCM_32) rfl ?_
        show Steps _ _ _ (T21.setTop (mkF m 33 #[.val (.double xd), .second, .val (.double yd), .second, .val (.long (xd.toInt64)), .second, .val (.long (yd.toInt64)), .second] [(.int (lcmpW (xd.toInt64) (yd.toInt64)))])) _
        exact kt
      by_cases h3 : xd.toInt64 = yd.toInt64
      ·
        obtain ⟨fs, hr, hrun, hended, hW, hsame⟩ := X21.leave (v := some (.int (0 : Int32))) (fun h => by rw [Bd.returns] at h; cases h)
        refine ⟨_, _, ?_, hrun, hended, _, _, rfl, ?_, ⟨_, rfl⟩, hW, hsame.mono (by decide) (by decide)⟩
        · refine R22 _ ?_
          show Steps _ _ _ (T21.setTop (mkF m 33 #[.val (.double xd), .second, .val (.double yd), .second, .val (.long (xd.toInt64)), .second, .val (.long (yd.toInt64)), .second] [(.int (lcmpW (xd.toInt64) (yd.toInt64)))])) _
          refine XS.ifNo X21.here hx rfl (hb hby dCM_33) rfl ((if0 _ _).trans (teq ((lw_eq _ _).mpr h3)).2) ?_
          refine XS.iconst X21.here hx rfl (hb hby dCM_36) ?_
          refine XS.goto X21.here hx rfl (pc0 := 37) (pc' := 53) rfl (hb hby dCM_37) (by decide) (by decide) ?_
          show Steps _ _ _ (T21.setTop (mkF m 53 #[.val (.double xd), .second, .val (.double yd), .second, .val (.long (xd.toInt64)), .second, .val (.long (yd.toInt64)), .second] [(.int (0 : Int32))])) _
          exact retI X21 hx Bd.returns (hb hby dCM_53) hr
        · show QCM Z xd yd h0 n0 _ T21.heap _
          rw [eq21]
          exact ⟨by rw [own_cmp, if_neg h1, if_neg h2, if_pos h3], N21, rfl⟩
      ·
        have R23 : ∀ t, Steps p.tables e below (T21.setTop (mkF m 45 #[.val (.double xd), .second, .val (.double yd), .second, .val (.long (xd.toInt64)), .second, .val (.long (yd.toInt64)), .second] [(.int (lcmpW (xd.toInt64) (yd.toInt64)))])) t → Steps p.tables e below (s₁.setTop (entryFrame m #[(.double xd), (.double yd)] 8)) t := by
          intro t kt
          refine R22 _ ?_
          show Steps _ _ _ (T21.setTop (mkF m 33 #[.val (.double xd), .second, .val (.double yd), .second, .val (.long (xd.toInt64)), .second, .val (.long (yd.toInt64)), .second] [(.int (lcmpW (xd.toInt64) (yd.toInt64)))])) _
          refine XS.ifYes X21.here hx rfl (pc0 := 33) (pc' := 40) rfl (hb hby dCM_33) rfl ((if0 _ _).trans (feq (fun q => h3 ((lw_eq _ _).mp q))).2) (by decide) (by decide) ?_
          refine XS.lload X21.here hx rfl (hb hby dCM_40) rfl ?_
          refine XS.lload X21.here hx rfl (hb hby dCM_42) rfl ?_
          refine XS.lcmp X21.here hx rfl (hb hby dCM_44) rfl ?_
          show Steps _ _ _ (T21.setTop (mkF m 45 #[.val (.double xd), .second, .val (.double yd), .second, .val (.long (xd.toInt64)), .second, .val (.long (yd.toInt64)), .second] [(.int (lcmpW (xd.toInt64) (yd.toInt64)))])) _
          exact kt
        by_cases h4 : xd.toInt64 < yd.toInt64
        ·
          obtain ⟨fs, hr, hrun, hended, hW, hsame⟩ := X21.leave (v := some (.int (-1 : Int32))) (fun h => by rw [Bd.returns] at h; cases h)
          refine ⟨_, _, ?_, hrun, hended, _, _, rfl, ?_, ⟨_, rfl⟩, hW, hsame.mono (by decide) (by decide)⟩
          · refine R23 _ ?_
            show Steps _ _ _ (T21.setTop (mkF m 45 #[.val (.double xd), .second, .val (.double yd), .second, .val (.long (xd.toInt64)), .second, .val (.long (yd.toInt64)), .second] [(.int (lcmpW (xd.toInt64) (yd.toInt64)))])) _
            refine XS.ifNo X21.here hx rfl (hb hby dCM_45) rfl ((if0 _ _).trans (tlt ((lw_lt _ _).mpr h4)).2.1) ?_
            refine XS.iconst X21.here hx rfl (hb hby dCM_48) ?_
            refine XS.goto X21.here hx rfl (pc0 := 49) (pc' := 53) rfl (hb hby dCM_49) (by decide) (by decide) ?_
            show Steps _ _ _ (T21.setTop (mkF m 53 #[.val (.double xd), .second, .val (.double yd), .second, .val (.long (xd.toInt64)), .second, .val (.long (yd.toInt64)), .second] [(.int (-1 : Int32))])) _
            exact retI X21 hx Bd.returns (hb hby dCM_53) hr
          · show QCM Z xd yd h0 n0 _ T21.heap _
            rw [eq21]
            exact ⟨by rw [own_cmp, if_neg h1, if_neg h2, if_neg h3, if_pos h4], N21, rfl⟩
        ·
          obtain ⟨fs, hr, hrun, hended, hW, hsame⟩ := X21.leave (v := some (.int (1 : Int32))) (fun h => by rw [Bd.returns] at h; cases h)
          refine ⟨_, _, ?_, hrun, hended, _, _, rfl, ?_, ⟨_, rfl⟩, hW, hsame.mono (by decide) (by decide)⟩
          · refine R23 _ ?_
            show Steps _ _ _ (T21.setTop (mkF m 45 #[.val (.double xd), .second, .val (.double yd), .second, .val (.long (xd.toInt64)), .second, .val (.long (yd.toInt64)), .second] [(.int (lcmpW (xd.toInt64) (yd.toInt64)))])) _
            refine XS.ifYes X21.here hx rfl (pc0 := 45) (pc' := 52) rfl (hb hby dCM_45) rfl ((if0 _ _).trans (flt (fun q => h4 ((lw_lt _ _).mp q))).2.1) (by decide) (by decide) ?_
            refine XS.iconst X21.here hx rfl (hb hby dCM_52) ?_
            show Steps _ _ _ (T21.setTop (mkF m 53 #[.val (.double xd), .second, .val (.double yd), .second, .val (.long (xd.toInt64)), .second, .val (.long (yd.toInt64)), .second] [(.int (1 : Int32))])) _
            exact retI X21 hx Bd.returns (hb hby dCM_53) hr
          · show QCM Z xd yd h0 n0 _ T21.heap _
            rw [eq21]
            exact ⟨by rw [own_cmp, if_neg h1, if_neg h2, if_neg h3, if_neg h4], N21, rfl⟩
theorem dCE_0 : decode jdk_43_method_3_code 0 = .ok (.iload_n 0, 1) := by decide +kernel
theorem dCE_1 : decode jdk_43_method_3_code 1 = .ok (.sipush 255, 3) := by decide +kernel
theorem dCE_4 : decode jdk_43_method_3_code 4 = .ok (.if_icmp .gt 7, 3) := by decide +kernel
theorem dCE_7 : decode jdk_43_method_3_code 7 = .ok (.iconst 1, 1) := by decide +kernel
theorem dCE_8 : decode jdk_43_method_3_code 8 = .ok (.goto 4, 3) := by decide +kernel
theorem dCE_12 : decode jdk_43_method_3_code 12 = .ok (.ireturn, 1) := by decide +kernel
theorem pn_java_lang_StringLatin1 : plainName "java/lang/StringLatin1" = true := by first | (simp [plainName, overriddenIn]; done) | decide +kernel
theorem ef_CE (m : MethodId) (x0 : Int32) : entryFrame m #[(.int x0)] 1 = mkF m 0 #[.val (.int x0)] [] := by first | (simp [entryFrame, mkF, argsToLocals, Value.category]; done) | rfl
def QCE (Z : State) (ch : Int32) (h0 : Heap) (n0 : Nat) (v : Option Value) (h : Heap) (L : List Loc) : Prop := v = some (.int (1 : Int32)) ∧ Fr n0 L ∧ h = h0
set_option maxRecDepth 65536 in
set_option maxHeartbeats 40000000 in
theorem rmCE (l : Launch) (Z : State) (a0 : Array Value) (hw : ∀ d ∈ tables_1, d.before a0 Z = true) (ws : List Jvm.Cond) (ch : Int32) (h0 : Heap) (n0 : Nat) (Z0 : n0 ≤ h0.size) (hl : ¬ (255 : Int32) < ch) :
    MetFree l (⟨"java/lang/StringLatin1", "canEncode", "(C)Z"⟩ : MethodName) (head1 (Jvm.Cond.code (⟨"java/lang/StringLatin1", "canEncode", "(C)Z"⟩ : MethodName) jdk_43_method_3_code 1 (some .boolean) :: ws) ({ frames := 0, cells := 0, slots := 0, locals := 0 } : Room)) (fun a U => a = #[(.int ch)] ∧ Z.Warmed39 U.vm ∧ U.heap = h0) (fun _ _ _ _ _ => True) (fun _ U o U' => ∃ v L, o = .returned v ∧ QCE Z ch h0 n0 v U'.heap L ∧ FrameEnd U o U' L ({ frames := 0, cells := 0, slots := 0, locals := 0 } : Room).cells ({ frames := 0, cells := 0, slots := 0, locals := 0 } : Room).slots) := by
  refine MetFree.of_bodySF (plainFor_of_name pn_java_lang_StringLatin1) hisR ?_
  intro p e s m args below meth c s₁ Bd hml0 hP hK
  obtain ⟨rfl, hZ, hh⟩ := hP
  have hx := Bd.exec
  have hby := Bd.bytes
  have hml : c.maxLocals = 1 := hml0
  have hown : s.vm.findClass "java/lang/StringLatin1" = some m.cls := findClass_of_methodNamed Bd.named
  have hnm := (name_of_methodNamed Bd.named Bd.method).1
  have X0 : Stand p l e ({ frames := 0, cells := 0, slots := 0, locals := 0 } : Room) s m #[(.int ch)] below meth c s₁ [] 0 0 := Stand.of_body Bd
  have e0 : s₁.heap = h0 := by rw [← hh, Bd.state]; rfl
  have N0 := Fr.nil n0
  have K0 : Keep h0 h0 [] := Keep.refl h0 []
  have pre0 : ∀ t, Steps p.tables e below (s₁.setTop (mkF m 0 #[.val (.int ch)] [])) t → Steps p.tables e below (s₁.setTop (entryFrame m #[(.int ch)] 1)) t := fun t k => castTop (ef_CE m ch) k
  obtain ⟨fs, hr, hrun, hended, hW, hsame⟩ := X0.leave (v := some (.int (1 : Int32))) (fun h => by rw [Bd.returns] at h; cases h)
  refine ⟨_, _, ?_, hrun, hended, _, _, rfl, ?_, ⟨_, rfl⟩, hW, hsame.mono (by decide) (by decide)⟩
  · refine pre0 _ ?_
    show Steps _ _ _ (s₁.setTop (mkF m 0 #[.val (.int ch)] [])) _
    refine XS.iloadN X0.here hx rfl (hb hby dCE_0) rfl ?_
    refine XS.sipush X0.here hx rfl (hb hby dCE_1) ?_
    refine XS.icmpNo X0.here hx rfl (hb hby dCE_4) rfl (flt hl).2.2.1 ?_
    refine XS.iconst X0.here hx rfl (hb hby dCE_7) ?_
    show Steps _ _ _ (s₁.setTop (mkF m 8 #[.val (.int ch)] [(.int (1 : Int32))])) _
    refine XS.goto X0.here hx rfl (pc0 := 8) (pc' := 12) rfl (hb hby dCE_8) (by decide) (by decide) ?_
    show Steps _ _ _ (s₁.setTop (mkF m 12 #[.val (.int ch)] [(.int (1 : Int32))])) _
    exact retN X0 hx (t := .boolean) Bd.returns (by simp) (hb hby dCE_12) hr
  · show QCE Z ch h0 n0 _ s₁.heap _
    rw [e0]
    exact ⟨rfl, N0, rfl⟩
theorem dTB_0 : decode jdk_43_method_46_code 0 = .ok (.iconst 1, 1) := by decide +kernel
theorem dTB_1 : decode jdk_43_method_46_code 1 = .ok (.newarray .byte, 2) := by decide +kernel
theorem dTB_3 : decode jdk_43_method_46_code 3 = .ok (.dup, 1) := by decide +kernel
theorem dTB_4 : decode jdk_43_method_46_code 4 = .ok (.iconst 0, 1) := by decide +kernel
theorem dTB_5 : decode jdk_43_method_46_code 5 = .ok (.iload_n 0, 1) := by decide +kernel
theorem dTB_6 : decode jdk_43_method_46_code 6 = .ok (.i2b, 1) := by decide +kernel
theorem dTB_7 : decode jdk_43_method_46_code 7 = .ok (.bastore, 1) := by decide +kernel
theorem dTB_8 : decode jdk_43_method_46_code 8 = .ok (.areturn, 1) := by decide +kernel
theorem ef_TB (m : MethodId) (x0 : Int32) : entryFrame m #[(.int x0)] 1 = mkF m 0 #[.val (.int x0)] [] := by first | (simp [entryFrame, mkF, argsToLocals, Value.category]; done) | rfl
def QTB (Z : State) (ch : Int32) (h0 : Heap) (n0 : Nat) (v : Option Value) (h : Heap) (L : List Loc) : Prop := ∃ (r : Addr) (kr : ClassId), v = some (.ref r) ∧ Fr n0 L ∧ Keep h0 h [] ∧ Arv Z h r kr .byte (1 : Int32) [(.int (ch.toInt8.toInt32))] (.int (0 : Int32)) ∧ h0.size ≤ r ∧ n0 ≤ r
set_option maxRecDepth 65536 in
set_option maxHeartbeats 40000000 in
theorem rmTB (l : Launch) (Z : State) (a0 : Array Value) (hw : ∀ d ∈ tables_1, d.before a0 Z = true) (ws : List Jvm.Cond) (ch : Int32) (h0 : Heap) (n0 : Nat) (Z0 : n0 ≤ h0.size) :
    MetFree l (⟨"java/lang/StringLatin1", "toBytes", "(C)[B"⟩ : MethodName) (head1 (Jvm.Cond.code (⟨"java/lang/StringLatin1", "toBytes", "(C)[B"⟩ : MethodName) jdk_43_method_46_code 1 (some (.array .byte)) :: ws) ({ frames := 0, cells := 1, slots := 1, locals := 0 } : Room)) (fun a U => a = #[(.int ch)] ∧ Z.Warmed39 U.vm ∧ U.heap = h0) (fun _ _ _ _ _ => True) (fun _ U o U' => ∃ v L, o = .returned v ∧ QTB Z ch h0 n0 v U'.heap L ∧ FrameEnd U o U' L ({ frames := 0, cells := 1, slots := 1, locals := 0 } : Room).cells ({ frames := 0, cells := 1, slots := 1, locals := 0 } : Room).slots) := by
  refine MetFree.of_bodySF (plainFor_of_name pn_java_lang_StringLatin1) hisR ?_
  intro p e s m args below meth c s₁ Bd hml0 hP hK
  obtain ⟨rfl, hZ, hh⟩ := hP
  have hx := Bd.exec
  have hby := Bd.bytes
  have hml : c.maxLocals = 1 := hml0
  have hown : s.vm.findClass "java/lang/StringLatin1" = some m.cls := findClass_of_methodNamed Bd.named
  have hnm := (name_of_methodNamed Bd.named Bd.method).1
  have X0 : Stand p l e ({ frames := 0, cells := 1, slots := 1, locals := 0 } : Room) s m #[(.int ch)] below meth c s₁ [] 0 0 := Stand.of_body Bd
  have e0 : s₁.heap = h0 := by rw [← hh, Bd.state]; rfl
  have N0 := Fr.nil n0
  have K0 : Keep h0 h0 [] := Keep.refl h0 []
  have pre0 : ∀ t, Steps p.tables e below (s₁.setTop (mkF m 0 #[.val (.int ch)] [])) t → Steps p.tables e below (s₁.setTop (entryFrame m #[(.int ch)] 1)) t := fun t k => castTop (ef_TB m ch) k
  obtain ⟨T24, h24, k24, X24, e24, E24, A24, st24⟩ := newP X0 hx hZ (hw _ (List.mem_of_getElem? (i := 26) rfl)) e0 (g := (mkF m 1 #[.val (.int ch)] [(.int (1 : Int32))])) rfl (hb hby dTB_1) rfl (by decide) (cap := 1) (by decide) (by decide) (by decide) (by decide)
  obtain ⟨b24, g24⟩ : ∃ z, z = h0.size := ⟨_, rfl⟩
  rw [← g24] at A24 st24
  have g_b24 : n0 ≤ b24 := Nat.le_trans (Nat.le_trans Z0 K0.1) (Nat.le_of_eq g24.symm)
  have sz_b24 : h0.size ≤ b24 := Nat.le_trans K0.1 (Nat.le_of_eq g24.symm)
  have K24 : Keep h0 h24 [] := K0.ext E24
  have V24 : Arv Z h24 b24 k24 .byte (1 : Int32) [(.int (0 : Int32))] (.int (0 : Int32)) := (Arv.new A24 (by decide)).pad (pad_rep [] (.int (0 : Int32)) 1)
  obtain ⟨cl25, Ar25, q25, S25, N25, H25, G25⟩ := id V24
  have hin25 : ¬ ((0 : Int32) < 0 ∨ cl25.slots.size ≤ ((0 : Int32)).toNatClampNeg) := (inb_of S25 ⟨by decide, by decide⟩)
  obtain ⟨T26, h26, X26, e26, W26, st26⟩ := stB X24 hx hZ e24 Ar25 (j := (0 : Int32)) hin25 (g := (mkF m 7 #[.val (.int ch)] [(.int (ch.toInt8.toInt32)), (.int (0 : Int32)), (.ref b24), (.ref b24)])) rfl rfl (hb hby dTB_7)
  have V26 : Arv Z h26 b24 k24 .byte (1 : Int32) [(.int (nar .byte (ch.toInt8.toInt32)))] (.int (0 : Int32)) := Arv.set Ar25 q25 S25 N25 H25 G25 (fits_nar_byte _) W26 0 rfl (Nat.le_of_ble_eq_true rfl)
  have K26 : Keep h0 h26 [] := K24.wr W26 (Or.inr sz_b24)
  have N26F := Fr.snoc X26 N0 g_b24
  have Vx := V26
  rw [own_narb] at Vx
  obtain ⟨fs, hr, hrun, hended, hW, hsame⟩ := X26.leave (v := some (.ref b24)) (fun h => by rw [Bd.returns] at h; cases h)
  refine ⟨_, _, ?_, hrun, hended, _, _, rfl, ?_, ⟨_, rfl⟩, hW, hsame.mono (by decide) (by decide)⟩
  · refine pre0 _ ?_
    show Steps _ _ _ (s₁.setTop (mkF m 0 #[.val (.int ch)] [])) _
    refine XS.iconst X0.here hx rfl (hb hby dTB_0) ?_
    show Steps _ _ _ (s₁.setTop (mkF m 1 #[.val (.int ch)] [(.int (1 : Int32))])) _
    refine st24 _ ?_
    refine XS.dup X24.here hx rfl (hb hby dTB_3) rfl rfl ?_
    refine XS.iconst X24.here hx rfl (hb hby dTB_4) ?_
    refine XS.iloadN X24.here hx rfl (hb hby dTB_5) rfl ?_
    show Steps _ _ _ (T24.setTop (mkF m 6 #[.val (.int ch)] [(.int ch), (.int (0 : Int32)), (.ref b24), (.ref b24)])) _
    refine XS.i2b X24.here hx rfl (hb hby dTB_6) rfl ?_
    show Steps _ _ _ (T24.setTop (mkF m 7 #[.val (.int ch)] [(.int (ch.toInt8.toInt32)), (.int (0 : Int32)), (.ref b24), (.ref b24)])) _
    refine st26 _ ?_
    show Steps _ _ _ (T26.setTop (mkF m 8 #[.val (.int ch)] [(.ref b24)])) _
    jvm_step X26.here [X26.here.top, hx, (hb hby dTB_8), X26.method', Bd.returns, Value.isRef, FieldType.isReference]
    first | (intro acts; rw [hr _ acts rfl rfl rfl]) | rw [hr _ _ rfl rfl rfl]
    exact Steps.refl _
  · show QTB Z ch h0 n0 _ T26.heap _
    rw [e26]
    exact ⟨b24, k24, rfl, N26F, K26, Vx, sz_b24, g_b24⟩
theorem dSB_0 : decode jdk_42_method_151_code 0 = .ok (.aload_n 0, 1) := by decide +kernel
theorem dSB_1 : decode jdk_42_method_151_code 1 = .ok (.invokespecial 1, 3) := by decide +kernel
theorem dSB_4 : decode jdk_42_method_151_code 4 = .ok (.aload_n 0, 1) := by decide +kernel
theorem dSB_5 : decode jdk_42_method_151_code 5 = .ok (.aload_n 1, 1) := by decide +kernel
theorem dSB_6 : decode jdk_42_method_151_code 6 = .ok (.putfield 9, 3) := by decide +kernel
theorem dSB_9 : decode jdk_42_method_151_code 9 = .ok (.aload_n 0, 1) := by decide +kernel
theorem dSB_10 : decode jdk_42_method_151_code 10 = .ok (.iload_n 2, 1) := by decide +kernel
theorem dSB_11 : decode jdk_42_method_151_code 11 = .ok (.putfield 15, 3) := by decide +kernel
theorem dSB_14 : decode jdk_42_method_151_code 14 = .ok (.return_, 1) := by decide +kernel
theorem pn_java_lang_String : plainName "java/lang/String" = true := by first | (simp [plainName, overriddenIn]; done) | decide +kernel
theorem ef_SB (m : MethodId) (x0 : Addr) (x1 : Addr) : entryFrame m #[(.ref x0), (.ref x1), (.int (0 : Int32))] 3 = mkF m 0 #[.val (.ref x0), .val (.ref x1), .val (.int (0 : Int32))] [] := by first | (simp [entryFrame, mkF, argsToLocals, Value.category]; done) | rfl
def QSB (Z : State) (th : Addr) (ba : Addr) (h0 : Heap) (n0 : Nat) (v : Option Value) (h : Heap) (L : List Loc) : Prop := v = none ∧ Fr n0 L ∧ Keep h0 h [th] ∧ Exa Z h th "java/lang/String" ∧ Fld Z h th "java/lang/String" "value" "[B" (.ref ba) ∧ Fld Z h th "java/lang/String" "coder" "B" (.int (0 : Int32))
set_option maxRecDepth 65536 in
set_option maxHeartbeats 40000000 in
theorem rmSB (l : Launch) (Z : State) (a0 : Array Value) (hw : ∀ d ∈ tables_1, d.before a0 Z = true) (ws : List Jvm.Cond) (th : Addr) (ba : Addr) (h0 : Heap) (n0 : Nat) (Z0 : n0 ≤ h0.size) (E_th : Exa Z h0 th "java/lang/String") (F_v : Fld Z h0 th "java/lang/String" "value" "[B" .null) (F_c : Fld Z h0 th "java/lang/String" "coder" "B" (.int (0 : Int32))) (g_th : n0 ≤ th) :
    MetFree l (⟨"java/lang/String", "<init>", "([BB)V"⟩ : MethodName) (head1 (Jvm.Cond.code (⟨"java/lang/String", "<init>", "([BB)V"⟩ : MethodName) jdk_42_method_151_code 3 none :: ws) ({ frames := 1, cells := 0, slots := 0, locals := 12 } : Room)) (fun a U => a = #[(.ref th), (.ref ba), (.int (0 : Int32))] ∧ Z.Warmed39 U.vm ∧ U.heap = h0) (fun _ _ _ _ _ => True) (fun _ U o U' => ∃ v L, o = .returned v ∧ QSB Z th ba h0 n0 v U'.heap L ∧ FrameEnd U o U' L ({ frames := 1, cells := 0, slots := 0, locals := 12 } : Room).cells ({ frames := 1, cells := 0, slots := 0, locals := 12 } : Room).slots) := by
  refine MetFree.of_bodySF (plainFor_of_name pn_java_lang_String) hisR ?_
  intro p e s m args below meth c s₁ Bd hml0 hP hK
  obtain ⟨rfl, hZ, hh⟩ := hP
  have hx := Bd.exec
  have hby := Bd.bytes
  have hml : c.maxLocals = 3 := hml0
  have hown : s.vm.findClass "java/lang/String" = some m.cls := findClass_of_methodNamed Bd.named
  have hnm := (name_of_methodNamed Bd.named Bd.method).1
  have X0 : Stand p l e ({ frames := 1, cells := 0, slots := 0, locals := 12 } : Room) s m #[(.ref th), (.ref ba), (.int (0 : Int32))] below meth c s₁ [] 0 0 := Stand.of_body Bd
  have e0 : s₁.heap = h0 := by rw [← hh, Bd.state]; rfl
  have N0 := Fr.nil n0
  have K0 := Keep.refl h0 [th]
  have pre0 : ∀ t, Steps p.tables e below (s₁.setTop (mkF m 0 #[.val (.ref th), .val (.ref ba), .val (.int (0 : Int32))] [])) t → Steps p.tables e below (s₁.setTop (entryFrame m #[(.ref th), (.ref ba), (.int (0 : Int32))] 3)) t := fun t k => castTop (ef_SB m th ba) k
  obtain ⟨T27, X27, e27, st27⟩ := initO X0 hx hZ hown (hw _ (List.mem_of_getElem? (i := 22) rfl)) (hw _ (List.mem_of_getElem? (i := 23) rfl)) (hw _ (List.mem_of_getElem? (i := 24) rfl)) e0 (g := (mkF m 1 #[.val (.ref th), .val (.ref ba), .val (.int (0 : Int32))] [(.ref th)])) rfl (by rw [hml]; rfl) rfl (hb hby dSB_1) (by decide) (W := 0) (by show 2 * 0 + _ ≤ _; exact Nat.le_of_eq rfl) (by decide)
  obtain ⟨T28, h28, X28, e28, W28, st28⟩ := putF X27 hx hZ hown (host := "") (Or.inl (hw _ (List.mem_of_getElem? (i := 31) rfl))) Via.refl e27 F_v E_th (Or.inr ⟨(hw _ (List.mem_of_getElem? (i := 27) rfl)), rfl, hnm⟩) (hw _ (List.mem_of_getElem? (i := 12) rfl)) (ty := (.array .byte)) (by decide) rfl rfl (g := (mkF m 6 #[.val (.ref th), .val (.ref ba), .val (.int (0 : Int32))] [(.ref ba), (.ref th)])) rfl rfl (hb hby dSB_6)
  have Fw28 := F_v.same W28
  have K28 : Keep h0 h28 [th] := K0.wr W28 (Or.inl (List.mem_of_getElem? (i := 0) rfl))
  have N28 := Fr.snoc X28 N0 g_th
  have f29 := E_th.wr W28
  have f30 := F_c.other W28 (Or.inr (slot_ne (a0 := a0) (C := "java/lang/String") (Or.inr (hw _ (List.mem_of_getElem? (i := 28) rfl))) (Or.inr (hw _ (List.mem_of_getElem? (i := 27) rfl))) (by decide) (t := .byte) (t' := (.array .byte)) (by decide) (by decide)))
  obtain ⟨T31, h31, X31, e31, W31, st31⟩ := putF X28 hx hZ hown (host := "") (Or.inl (hw _ (List.mem_of_getElem? (i := 32) rfl))) Via.refl e28 f30 f29 (Or.inr ⟨(hw _ (List.mem_of_getElem? (i := 28) rfl)), rfl, hnm⟩) (hw _ (List.mem_of_getElem? (i := 12) rfl)) (ty := .byte) (by decide) rfl rfl (g := (mkF m 11 #[.val (.ref th), .val (.ref ba), .val (.int (0 : Int32))] [(.int (0 : Int32)), (.ref th)])) rfl rfl (hb hby dSB_11)
  have Fw31 := f30.same W31
  have K31 : Keep h0 h31 [th] := K28.wr W31 (Or.inl (List.mem_of_getElem? (i := 0) rfl))
  have N31 := Fr.snoc X31 N28 g_th
  have f32 := f29.wr W31
  have f33 := Fw28.other W31 (Or.inr (slot_ne (a0 := a0) (C := "java/lang/String") (Or.inr (hw _ (List.mem_of_getElem? (i := 27) rfl))) (Or.inr (hw _ (List.mem_of_getElem? (i := 28) rfl))) (by decide) (t := (.array .byte)) (t' := .byte) (by decide) (by decide)))
  obtain ⟨fs, hr, hrun, hended, hW, hsame⟩ := X31.leave (v := none) (fun _ => rfl)
  refine ⟨_, _, ?_, hrun, hended, _, _, rfl, ?_, ⟨_, rfl⟩, hW, hsame.mono (by decide) (by decide)⟩
  · refine pre0 _ ?_
    show Steps _ _ _ (s₁.setTop (mkF m 0 #[.val (.ref th), .val (.ref ba), .val (.int (0 : Int32))] [])) _
    refine XS.aloadN X0.here hx rfl (hb hby dSB_0) rfl rfl ?_
    show Steps _ _ _ (s₁.setTop (mkF m 1 #[.val (.ref th), .val (.ref ba), .val (.int (0 : Int32))] [(.ref th)])) _
    refine st27 _ ?_
    refine XS.aloadN X27.here hx rfl (hb hby dSB_4) rfl rfl ?_
    refine XS.aloadN X27.here hx rfl (hb hby dSB_5) rfl rfl ?_
    show Steps _ _ _ (T27.setTop (mkF m 6 #[.val (.ref th), .val (.ref ba), .val (.int (0 : Int32))] [(.ref ba), (.ref th)])) _
    refine st28 _ ?_
    refine XS.aloadN X28.here hx rfl (hb hby dSB_9) rfl rfl ?_
    refine XS.iloadN X28.here hx rfl (hb hby dSB_10) rfl ?_
    show Steps _ _ _ (T28.setTop (mkF m 11 #[.val (.ref th), .val (.ref ba), .val (.int (0 : Int32))] [(.int (0 : Int32)), (.ref th)])) _
    refine st31 _ ?_
    show Steps _ _ _ (T31.setTop (mkF m 14 #[.val (.ref th), .val (.ref ba), .val (.int (0 : Int32))] [])) _
    exact X31.returnOut hx Bd.returns (hb hby dSB_14) hr
  · show QSB Z th ba h0 n0 _ T31.heap _
    rw [e31]
    exact ⟨rfl, N31, K31, f32, f33, Fw31⟩
theorem dVO_0 : decode jdk_42_method_139_code 0 = .ok (.getstatic 38, 3) := by decide +kernel
theorem dVO_3 : decode jdk_42_method_139_code 3 = .ok (.ifCond .eq 23, 3) := by decide +kernel
theorem dVO_6 : decode jdk_42_method_139_code 6 = .ok (.iload_n 0, 1) := by decide +kernel
theorem dVO_7 : decode jdk_42_method_139_code 7 = .ok (.invokestatic 1015, 3) := by decide +kernel
theorem pd_3 : parseMethodDescriptor "(C)Z" = some ⟨[.char], some .boolean⟩ := by decide +kernel
theorem dVO_10 : decode jdk_42_method_139_code 10 = .ok (.ifCond .eq 16, 3) := by decide +kernel
theorem dVO_13 : decode jdk_42_method_139_code 13 = .ok (.new 10, 3) := by decide +kernel
theorem dVO_16 : decode jdk_42_method_139_code 16 = .ok (.dup, 1) := by decide +kernel
theorem dVO_17 : decode jdk_42_method_139_code 17 = .ok (.iload_n 0, 1) := by decide +kernel
theorem dVO_18 : decode jdk_42_method_139_code 18 = .ok (.invokestatic 1018, 3) := by decide +kernel
theorem pd_4 : parseMethodDescriptor "(C)[B" = some ⟨[.char], some (.array .byte)⟩ := by decide +kernel
theorem dVO_21 : decode jdk_42_method_139_code 21 = .ok (.iconst 0, 1) := by decide +kernel
theorem dVO_22 : decode jdk_42_method_139_code 22 = .ok (.invokespecial 209, 3) := by decide +kernel
theorem pd_5 : parseMethodDescriptor "([BB)V" = some ⟨[(.array .byte), .byte], none⟩ := by decide +kernel
theorem dVO_25 : decode jdk_42_method_139_code 25 = .ok (.areturn, 1) := by decide +kernel
theorem ef_VO (m : MethodId) (x0 : Int32) : entryFrame m #[(.int x0)] 1 = mkF m 0 #[.val (.int x0)] [] := by first | (simp [entryFrame, mkF, argsToLocals, Value.category]; done) | rfl
def QVO (Z : State) (ch : Int32) (G1 : Int32) (h0 : Heap) (n0 : Nat) (v : Option Value) (h : Heap) (L : List Loc) : Prop := ∃ (r t : Addr) (kt : ClassId), v = some (.ref r) ∧ Fr n0 L ∧ Keep h0 h [] ∧ Exa Z h r "java/lang/String" ∧ Fld Z h r "java/lang/String" "value" "[B" (.ref t) ∧ Fld Z h r "java/lang/String" "coder" "B" (.int (0 : Int32)) ∧ Arv Z h t kt .byte (1 : Int32) [(.int (ch.toInt8.toInt32))] (.int (0 : Int32)) ∧ h0.size ≤ r ∧ n0 ≤ r
set_option maxRecDepth 65536 in
set_option maxHeartbeats 40000000 in
theorem rmVO (l : Launch) (Z : State) (a0 : Array Value) (hw : ∀ d ∈ tables_1, d.before a0 Z = true) (ws : List Jvm.Cond) (ch : Int32) (G1 : Int32) (h0 : Heap) (n0 : Nat) (Z0 : n0 ≤ h0.size) (O2 : Sta Z Z.heap "java/lang/String" "COMPACT_STRINGS" "Z" (.int G1)) (P5 : ¬ (G1 = (0 : Int32))) (X00 : Old Z n0 h0) (hl : ¬ (255 : Int32) < ch) :
    MetFree l (⟨"java/lang/String", "valueOf", "(C)Ljava/lang/String;"⟩ : MethodName) (head1 (Jvm.Cond.code (⟨"java/lang/String", "valueOf", "(C)Ljava/lang/String;"⟩ : MethodName) jdk_42_method_139_code 1 (some (.object "java/lang/String")) :: ws) ({ frames := 2, cells := 2, slots := 5, locals := 27 } : Room)) (fun a U => a = #[(.int ch)] ∧ Z.Warmed39 U.vm ∧ U.heap = h0) (fun _ _ _ _ _ => True) (fun _ U o U' => ∃ v L, o = .returned v ∧ QVO Z ch G1 h0 n0 v U'.heap L ∧ FrameEnd U o U' L ({ frames := 2, cells := 2, slots := 5, locals := 27 } : Room).cells ({ frames := 2, cells := 2, slots := 5, locals := 27 } : Room).slots) := by
  refine MetFree.of_bodySF (plainFor_of_name pn_java_lang_String) hisR ?_
  intro p e s m args below meth c s₁ Bd hml0 hP hK
  obtain ⟨rfl, hZ, hh⟩ := hP
  have hx := Bd.exec
  have hby := Bd.bytes
  have hml : c.maxLocals = 1 := hml0
  have hown : s.vm.findClass "java/lang/String" = some m.cls := findClass_of_methodNamed Bd.named
  have hnm := (name_of_methodNamed Bd.named Bd.method).1
  have X0 : Stand p l e ({ frames := 2, cells := 2, slots := 5, locals := 27 } : Room) s m #[(.int ch)] below meth c s₁ [] 0 0 := Stand.of_body Bd
  have e0 : s₁.heap = h0 := by rw [← hh, Bd.state]; rfl
  have N0 := Fr.nil n0
  have K0 : Keep h0 h0 [] := Keep.refl h0 []
  have pre0 : ∀ t, Steps p.tables e below (s₁.setTop (mkF m 0 #[.val (.int ch)] [])) t → Steps p.tables e below (s₁.setTop (entryFrame m #[(.int ch)] 1)) t := fun t k => castTop (ef_VO m ch) k
  obtain ⟨T34, X34, e34, st34⟩ := getS2 X0 hx hZ hown (host := "") (Or.inl (hw _ (List.mem_of_getElem? (i := 59) rfl))) Via.refl e0 (O2.ext X00.2) (g := (mkF m 0 #[.val (.int ch)] [])) rfl (hb hby dVO_0)
  obtain ⟨_, _, ⟨T35, L35, k35, n35⟩, -, X35, ⟨Lc35, hQ35, l35, y35, z35⟩, st35⟩ := Jvm.LawKit.callS X34 hx (y := (⟨"java/lang/StringLatin1", "canEncode", "(C)Z"⟩ : MethodName)) hown (mvT hZ (hw _ (List.mem_of_getElem? (i := 83) rfl))) (mvT hZ (hw _ (List.mem_of_getElem? (i := 84) rfl))) (mvT hZ (hw _ (List.mem_of_getElem? (i := 62) rfl))) (mvT hZ (hw _ (List.mem_of_getElem? (i := 85) rfl))) (by decide) (backOf (W := 0) (rmCE l Z a0 hw [] ch h0 n0 (Nat.le_trans Z0 K0.1) hl) hZ (hw _ (List.mem_of_getElem? (i := 85) rfl)) (hw _ (List.mem_of_getElem? (i := 62) rfl)) (by decide) (by decide)) (g := (mkF m 7 #[.val (.int ch)] [(.int ch)])) rfl (by rw [hml]; rfl) (argsL := [(.int ch)]) (rest := []) (lenOf pd_3 rfl) rfl (by show 2 * 0 + _ ≤ _; exact Nat.le_of_eq rfl) (hb hby dVO_7) (fun _ _ => ⟨rfl, e34, (by decide : 0 + 0 ≤ _), (by decide : 0 + 0 ≤ _)⟩)
  dsimp only [Pt.U, Pt.locs, Pt.cells, Pt.slots] at X35 l35 y35 z35 st35 hQ35
  rw [l35, y35, z35] at X35
  obtain ⟨hv35, Nq35, eq35⟩ := hQ35
  rw [hv35] at st35
  have N35 := Fr.app N0 Nq35
  obtain ⟨T36, h36, X36, e36, E36, A36, D36, -, st36⟩ := newO X35 hx hZ hown (hw _ (List.mem_of_getElem? (i := 58) rfl)) (hw _ (List.mem_of_getElem? (i := 12) rfl)) (hw _ (List.mem_of_getElem? (i := 13) rfl)) eq35 (g := (mkF m 13 #[.val (.int ch)] [])) rfl (hb hby dVO_13) (by decide) (by decide)
  obtain ⟨b36, g36⟩ : ∃ z, z = h0.size := ⟨_, rfl⟩
  rw [← g36] at A36 D36 st36
  have g_b36 : n0 ≤ b36 := Nat.le_trans (Nat.le_trans Z0 K0.1) (Nat.le_of_eq g36.symm)
  have sz_b36 : h0.size ≤ b36 := Nat.le_trans K0.1 (Nat.le_of_eq g36.symm)
  have K36 : Keep h0 h36 [] := K0.ext E36
  have F36_value : Fld Z h36 b36 "java/lang/String" "value" "[B" .null := D36 (Or.inr (hw _ (List.mem_of_getElem? (i := 27) rfl))) (ty := (.array .byte)) (by decide)
  have F36_coder : Fld Z h36 b36 "java/lang/String" "coder" "B" (.int (0 : Int32)) := D36 (Or.inr (hw _ (List.mem_of_getElem? (i := 28) rfl))) (ty := .byte) (by decide)
  obtain ⟨_, _, ⟨T37, L37, k37, n37⟩, -, X37, ⟨Lc37, hQ37, l37, y37, z37⟩, st37⟩ := Jvm.LawKit.callS X36 hx (y := (⟨"java/lang/StringLatin1", "toBytes", "(C)[B"⟩ : MethodName)) hown (mvT hZ (hw _ (List.mem_of_getElem? (i := 86) rfl))) (mvT hZ (hw _ (List.mem_of_getElem? (i := 87) rfl))) (mvT hZ (hw _ (List.mem_of_getElem? (i := 62) rfl))) (mvT hZ (hw _ (List.mem_of_getElem? (i := 88) rfl))) (by decide) (backOf (W := 2) (rmTB l Z a0 hw [] ch h36 n0 (Nat.le_trans Z0 K36.1) ) hZ (hw _ (List.mem_of_getElem? (i := 88) rfl)) (hw _ (List.mem_of_getElem? (i := 62) rfl)) (by decide) (by decide)) (g := (mkF m 18 #[.val (.int ch)] [(.int ch), (.ref b36), (.ref b36)])) rfl (by rw [hml]; rfl) (argsL := [(.int ch)]) (rest := [(.ref b36), (.ref b36)]) (lenOf pd_4 rfl) rfl (by show 2 * 0 + _ ≤ _; exact Nat.le_of_eq rfl) (hb hby dVO_18) (fun _ _ => ⟨rfl, e36, (by decide : 1 + 1 ≤ _), (by decide : 4 + 1 ≤ _)⟩)
  dsimp only [Pt.U, Pt.locs, Pt.cells, Pt.slots] at X37 l37 y37 z37 st37 hQ37
  rw [l37, y37, z37] at X37
  obtain ⟨tb, ktb, hv37, Nq37, Kc37, Vtb, szq, g_tb⟩ := hQ37
  rw [hv37] at st37
  have K37 : Keep h0 T37.heap [] := K36.trans Kc37 all0
  have lt_b36_tb : b36 < tb := Nat.lt_of_lt_of_le A36.lt szq
  have sz_tb : h0.size ≤ tb := Nat.le_trans (Nat.le_of_lt_succ (Nat.lt_succ_of_le sz_b36)) (Nat.le_of_lt lt_b36_tb)
  have N37 := Fr.app N35 Nq37
  have f39 := A36.keep Kc37
  have f40 := F36_value.keep Kc37 nin0
  have f41 := F36_coder.keep Kc37 nin0
  obtain ⟨_, _, ⟨T38, L38, k38, n38⟩, -, X38, ⟨Lc38, hQ38, l38, y38, z38⟩, st38⟩ := X37.specialBack hx (y := (⟨"java/lang/String", "<init>", "([BB)V"⟩ : MethodName)) rfl hown (mvT hZ (hw _ (List.mem_of_getElem? (i := 89) rfl))) (mvT hZ (hw _ (List.mem_of_getElem? (i := 90) rfl))) (mvT hZ (hw _ (List.mem_of_getElem? (i := 91) rfl))) (by decide) (backOf (W := 1) (rmSB l Z a0 hw [] b36 tb T37.heap n0 (Nat.le_trans Z0 K37.1) f39 f40 f41 g_b36) hZ (hw _ (List.mem_of_getElem? (i := 91) rfl)) (hw _ (List.mem_of_getElem? (i := 13) rfl)) (by decide) (by decide)) (g := (mkF m 22 #[.val (.int ch)] [(.int (0 : Int32)), (.ref tb), (.ref b36), (.ref b36)])) rfl (by rw [hml]; rfl) (Steps.refl _) (a := b36) (argsL := [(.ref tb), (.int (0 : Int32))]) (rest := [(.ref b36)]) (lenOf pd_5 rfl) rfl (by show 2 * 0 + _ ≤ _; exact Nat.le_of_eq rfl) (hb hby dVO_22) (fun _ _ => ⟨rfl, rfl, (by decide : 2 + 0 ≤ _), (by decide : 5 + 0 ≤ _)⟩)
  dsimp only [Pt.U, Pt.locs, Pt.cells, Pt.slots] at X38 l38 y38 z38 st38 hQ38
  rw [l38, y38, z38] at X38
  obtain ⟨hv38, Nq38, Kc38, Ex38, Fv38, Fc38⟩ := hQ38
  rw [hv38] at st38
  have K38 : Keep h0 T38.heap [] := K37.trans Kc38 (allS (P := fun x => x ∈ [] ∨ h0.size ≤ x) (Or.inr sz_b36) all0)
  have N38 := Fr.app N37 Nq38
  have f42 := Vtb.keep Kc38 (ninS (Nat.ne_of_gt lt_b36_tb) nin0)
  obtain ⟨fs, hr, hrun, hended, hW, hsame⟩ := X38.leave (v := some (.ref b36)) (fun h => by rw [Bd.returns] at h; cases h)
  refine ⟨_, _, ?_, hrun, hended, _, _, rfl, ?_, ⟨_, rfl⟩, hW, hsame.mono (by decide) (by decide)⟩
  · refine pre0 _ ?_
    show Steps _ _ _ (s₁.setTop (mkF m 0 #[.val (.int ch)] [])) _
    refine st34 _ ?_
    refine XS.ifNo X34.here hx rfl (hb hby dVO_3) rfl ((if0 _ _).trans (feq P5).1) ?_
    refine XS.iloadN X34.here hx rfl (hb hby dVO_6) rfl ?_
    show Steps _ _ _ (T34.setTop (mkF m 7 #[.val (.int ch)] [(.int ch)])) _
    refine st35 _ ?_
    show Steps _ _ _ (T35.setTop (mkF m 10 #[.val (.int ch)] [(.int (1 : Int32))])) _
    refine XS.ifNo X35.here hx rfl (hb hby dVO_10) rfl (by decide) ?_
    show Steps _ _ _ (T35.setTop (mkF m 13 #[.val (.int ch)] [])) _
    refine st36 _ ?_
    refine XS.dup X36.here hx rfl (hb hby dVO_16) rfl rfl ?_
    refine XS.iloadN X36.here hx rfl (hb hby dVO_17) rfl ?_
    show Steps _ _ _ (T36.setTop (mkF m 18 #[.val (.int ch)] [(.int ch), (.ref b36), (.ref b36)])) _
    refine st37 _ ?_
    show Steps _ _ _ (T37.setTop (mkF m 21 #[.val (.int ch)] [(.ref tb), (.ref b36), (.ref b36)])) _
    refine XS.iconst X37.here hx rfl (hb hby dVO_21) ?_
    show Steps _ _ _ (T37.setTop (mkF m 22 #[.val (.int ch)] [(.int (0 : Int32)), (.ref tb), (.ref b36), (.ref b36)])) _
    refine st38.trans ?_
    show Steps _ _ _ (T38.setTop (mkF m 25 #[.val (.int ch)] [(.ref b36)])) _
    jvm_step X38.here [X38.here.top, hx, (hb hby dVO_25), X38.method', Bd.returns, Value.isRef, FieldType.isReference]
    first | (intro acts; rw [hr _ acts rfl rfl rfl]) | rw [hr _ _ rfl rfl rfl]
    exact Steps.refl _
  · show QVO Z ch G1 h0 n0 _ T38.heap _
    exact ⟨b36, tb, ktb, rfl, N38, K38, Ex38, Fv38, Fc38, f42, sz_b36, g_b36⟩
theorem dS4_0 : decode jdk_42_method_149_code 0 = .ok (.aload_n 0, 1) := by decide +kernel
theorem dS4_1 : decode jdk_42_method_149_code 1 = .ok (.invokespecial 1, 3) := by decide +kernel
theorem dS4_4 : decode jdk_42_method_149_code 4 = .ok (.iload_n 3, 1) := by decide +kernel
theorem dS4_5 : decode jdk_42_method_149_code 5 = .ok (.ifCond .ne 22, 3) := by decide +kernel
theorem dS4_8 : decode jdk_42_method_149_code 8 = .ok (.aload_n 0, 1) := by decide +kernel
theorem dS4_9 : decode jdk_42_method_149_code 9 = .ok (.ldc 7, 2) := by decide +kernel
theorem dS4_11 : decode jdk_42_method_149_code 11 = .ok (.getfield 9, 3) := by decide +kernel
theorem dS4_14 : decode jdk_42_method_149_code 14 = .ok (.putfield 9, 3) := by decide +kernel
theorem dS4_17 : decode jdk_42_method_149_code 17 = .ok (.aload_n 0, 1) := by decide +kernel
theorem dS4_18 : decode jdk_42_method_149_code 18 = .ok (.ldc 7, 2) := by decide +kernel
theorem dS4_20 : decode jdk_42_method_149_code 20 = .ok (.getfield 15, 3) := by decide +kernel
theorem dS4_23 : decode jdk_42_method_149_code 23 = .ok (.putfield 15, 3) := by decide +kernel
theorem dS4_26 : decode jdk_42_method_149_code 26 = .ok (.return_, 1) := by decide +kernel
theorem ef_S4 (m : MethodId) (x0 : Addr) (x1 : Addr) : entryFrame m #[(.ref x0), (.ref x1), (.int (0 : Int32)), (.int (0 : Int32)), .null] 6 = mkF m 0 #[.val (.ref x0), .val (.ref x1), .val (.int (0 : Int32)), .val (.int (0 : Int32)), .val .null, .unset] [] := by first | (simp [entryFrame, mkF, argsToLocals, Value.category]; done) | rfl
def QS4 (Z : State) (th : Addr) (ca : Addr) (h0 : Heap) (n0 : Nat) (v : Option Value) (h : Heap) (L : List Loc) : Prop := v = none ∧ Fr n0 L ∧ Keep h0 h [th] ∧ Exa Z h th "java/lang/String" ∧ Fld Z h th "java/lang/String" "coder" "B" (.int (0 : Int32)) ∧ ∃ (t : Addr) (kt : ClassId), Fld Z h th "java/lang/String" "value" "[B" (.ref t) ∧ Arv Z h t kt .byte (0 : Int32) [] (.int (0 : Int32))
set_option maxRecDepth 65536 in
set_option maxHeartbeats 40000000 in
theorem rmS4 (l : Launch) (Z : State) (a0 : Array Value) (hw : ∀ d ∈ tables_1, d.before a0 Z = true) (ws : List Jvm.Cond) (th : Addr) (ca : Addr) (h0 : Heap) (n0 : Nat) (Z0 : n0 ≤ h0.size) (E_th : Exa Z h0 th "java/lang/String") (F_v : Fld Z h0 th "java/lang/String" "value" "[B" .null) (F_c : Fld Z h0 th "java/lang/String" "coder" "B" (.int (0 : Int32))) (g_th : n0 ≤ th) :
    MetFree l (⟨"java/lang/String", "<init>", "([CIILjava/lang/Void;)V"⟩ : MethodName) (head1 (Jvm.Cond.code (⟨"java/lang/String", "<init>", "([CIILjava/lang/Void;)V"⟩ : MethodName) jdk_42_method_149_code 6 none :: ws) ({ frames := 1, cells := 4, slots := 8, locals := 12 } : Room)) (fun a U => a = #[(.ref th), (.ref ca), (.int (0 : Int32)), (.int (0 : Int32)), .null] ∧ Z.Warmed39 U.vm ∧ U.heap = h0 ∧ CHv Z own_EL U.vm h0) (fun _ _ _ _ _ => True) (fun _ U o U' => ∃ v L, o = .returned v ∧ QS4 Z th ca h0 n0 v U'.heap L ∧ CHr Z own_EL U.vm U.heap U'.vm U'.heap ∧ ReturnedEndW U o U' L ({ frames := 1, cells := 4, slots := 8, locals := 12 } : Room).cells ({ frames := 1, cells := 4, slots := 8, locals := 12 } : Room).slots) := by
  refine MetFree.of_bodySF (plainFor_of_name pn_java_lang_String) hisR ?_
  intro p e s m args below meth c s₁ Bd hml0 hP hK
  obtain ⟨rfl, hZ, hh, hCH⟩ := hP
  have hx := Bd.exec
  have hby := Bd.bytes
  have hml : c.maxLocals = 6 := hml0
  have hown : s.vm.findClass "java/lang/String" = some m.cls := findClass_of_methodNamed Bd.named
  have hnm := (name_of_methodNamed Bd.named Bd.method).1
  have X0 : Stand p l e ({ frames := 1, cells := 4, slots := 8, locals := 12 } : Room) s m #[(.ref th), (.ref ca), (.int (0 : Int32)), (.int (0 : Int32)), .null] below meth c s₁ [] 0 0 := Stand.of_body Bd
  have e0 : s₁.heap = h0 := by rw [← hh, Bd.state]; rfl
  have N0 := Fr.nil n0
  have CR0 : CHr Z own_EL s.vm h0 s.vm h0 := CHr.refl hCH
  have K0 := Keep.refl h0 [th]
  have pre0 : ∀ t, Steps p.tables e below (s₁.setTop (mkF m 0 #[.val (.ref th), .val (.ref ca), .val (.int (0 : Int32)), .val (.int (0 : Int32)), .val .null, .unset] [])) t → Steps p.tables e below (s₁.setTop (entryFrame m #[(.ref th), (.ref ca), (.int (0 : Int32)), (.int (0 : Int32)), .null] 6)) t := fun t k => castTop (ef_S4 m th ca) k
  have SfTh : Safe Z own_EL s.vm h0 th := own_safeNull hZ.alike E_th F_v
  obtain ⟨T43, X43, e43, st43⟩ := initO X0 hx hZ hown (hw _ (List.mem_of_getElem? (i := 22) rfl)) (hw _ (List.mem_of_getElem? (i := 23) rfl)) (hw _ (List.mem_of_getElem? (i := 24) rfl)) e0 (g := (mkF m 1 #[.val (.ref th), .val (.ref ca), .val (.int (0 : Int32)), .val (.int (0 : Int32)), .val .null, .unset] [(.ref th)])) rfl (by rw [hml]; rfl) rfl (hb hby dS4_1) (by decide) (W := 0) (by show 2 * 0 + _ ≤ _; exact Nat.le_of_eq rfl) (by decide)
  obtain ⟨a44, T44, h44, k144, b44, kc44, X44, e44, E44, hS44, hk44, hZ44, hown44, Ex44, Fc44, Fv44, Va44, la44, lb44, hC44, -, hs44, st44⟩ := ldcCH (s := s) (vm0 := s.vm) X43 hx hZ hown (hw _ (List.mem_of_getElem? (i := 25) rfl)) (own_wS Z a0 hw) e43 ((State.WarmedH.refl s).since 0) (Nat.zero_le _) (own_hEL Z a0 hw) (List.mem_of_getElem? (i := 0) rfl) CR0.1 (vs := []) (z := 0) ⟨by decide, rfl⟩ (by decide) rfl (g := (mkF m 9 #[.val (.ref th), .val (.ref ca), .val (.int (0 : Int32)), .val (.int (0 : Int32)), .val .null, .unset] [(.ref th)])) rfl (hb hby dS4_9) (n := 0) (by decide) (by decide) (by decide) (by decide)
  have CR45 := CR0.trans hC44
  have Sf46 := hC44.safe E_th.lt SfTh
  have K44 : Keep h0 h44 [th] := K0.ext E44
  have ne_th_a44 : th ≠ a44 := (hs44 th Sf46).1
  have ne_th_b44 : th ≠ b44 := (hs44 th Sf46).2
  obtain ⟨T47, X47, e47, st47⟩ := getF X44 hx hZ44 hown44 (host := "") (Or.inl (hw _ (List.mem_of_getElem? (i := 31) rfl))) Via.refl e44 Fv44 (g := (mkF m 11 #[.val (.ref th), .val (.ref ca), .val (.int (0 : Int32)), .val (.int (0 : Int32)), .val .null, .unset] [(.ref a44), (.ref th)])) rfl rfl (hb hby dS4_11)
  have f48 := E_th.ext E44
  have f49 := F_v.ext E44
  obtain ⟨T50, h50, X50, e50, W50, st50⟩ := putF X47 hx hZ44 hown44 (host := "") (Or.inl (hw _ (List.mem_of_getElem? (i := 31) rfl))) Via.refl e47 f49 f48 (Or.inr ⟨(hw _ (List.mem_of_getElem? (i := 27) rfl)), rfl, hnm⟩) (hw _ (List.mem_of_getElem? (i := 12) rfl)) (ty := (.array .byte)) (by decide) rfl rfl (g := (mkF m 14 #[.val (.ref th), .val (.ref ca), .val (.int (0 : Int32)), .val (.int (0 : Int32)), .val .null, .unset] [(.ref b44), (.ref th)])) rfl rfl (hb hby dS4_14)
  have Fw50 := f49.same W50
  have CR51 := CR45.trans (CHr.wr W50 Sf46 CR45.1)
  have Sf52 := Safe.wr W50 Sf46 CR45.1 Sf46
  have K50 : Keep h0 h50 [th] := K44.wr W50 (Or.inl (List.mem_of_getElem? (i := 0) rfl))
  have N50 := Fr.snoc X50 N0 g_th
  obtain ⟨a53, T53, h53, k153, b53, kc53, X53, e53, E53, hS53, hk53, hZ53, hown53, Ex53, Fc53, Fv53, Va53, la53, lb53, hC53, -, hs53, st53⟩ := ldcCH (s := s) (vm0 := T44.vm) X50 hx hZ44 hown44 (hw _ (List.mem_of_getElem? (i := 25) rfl)) (own_wS Z a0 hw) e50 hS44 (Nat.le_trans hk44 (Keep.of_wr W50).1) (own_hEL Z a0 hw) (List.mem_of_getElem? (i := 0) rfl) CR51.1 (vs := []) (z := 0) ⟨by decide, rfl⟩ (by decide) rfl (g := (mkF m 18 #[.val (.ref th), .val (.ref ca), .val (.int (0 : Int32)), .val (.int (0 : Int32)), .val .null, .unset] [(.ref th)])) rfl (hb hby dS4_18) (n := 0) (by decide) (by decide) (by decide) (by decide)
  have f55 := f48.wr W50
  have CR54 := CR51.trans hC53
  have Sf56 := hC53.safe f55.lt Sf52
  have K53 : Keep h0 h53 [th] := K50.ext E53
  have ne_th_a53 : th ≠ a53 := (hs53 th Sf56).1
  have ne_th_b53 : th ≠ b53 := (hs53 th Sf56).2
  obtain ⟨T57, X57, e57, st57⟩ := getF X53 hx hZ53 hown53 (host := "") (Or.inl (hw _ (List.mem_of_getElem? (i := 32) rfl))) Via.refl e53 Fc53 (g := (mkF m 20 #[.val (.ref th), .val (.ref ca), .val (.int (0 : Int32)), .val (.int (0 : Int32)), .val .null, .unset] [(.ref a53), (.ref th)])) rfl rfl (hb hby dS4_20)
  have f58 := f55.ext E53
  have f59 := F_c.ext E44
  have f60 := f59.other W50 (Or.inr (slot_ne (a0 := a0) (C := "java/lang/String") (Or.inr (hw _ (List.mem_of_getElem? (i := 28) rfl))) (Or.inr (hw _ (List.mem_of_getElem? (i := 27) rfl))) (by decide) (t := .byte) (t' := (.array .byte)) (by decide) (by decide)))
  have f61 := f60.ext E53
  obtain ⟨T62, h62, X62, e62, W62, st62⟩ := putF X57 hx hZ53 hown53 (host := "") (Or.inl (hw _ (List.mem_of_getElem? (i := 32) rfl))) Via.refl e57 f61 f58 (Or.inr ⟨(hw _ (List.mem_of_getElem? (i := 28) rfl)), rfl, hnm⟩) (hw _ (List.mem_of_getElem? (i := 12) rfl)) (ty := .byte) (by decide) rfl rfl (g := (mkF m 23 #[.val (.ref th), .val (.ref ca), .val (.int (0 : Int32)), .val (.int (0 : Int32)), .val .null, .unset] [(.int (0 : Int32)), (.ref th)])) rfl rfl (hb hby dS4_23)
  have Fw62 := f61.same W62
  have CR63 := CR54.trans (CHr.wr W62 Sf56 CR54.1)
  have Sf64 := Safe.wr W62 Sf56 CR54.1 Sf56
  have K62 : Keep h0 h62 [th] := K53.wr W62 (Or.inl (List.mem_of_getElem? (i := 0) rfl))
  have N62 := Fr.snoc X62 N50 g_th
  have f65 := f58.wr W62
  have f66 := Fw50.ext E53
  have f67 := f66.other W62 (Or.inr (slot_ne (a0 := a0) (C := "java/lang/String") (Or.inr (hw _ (List.mem_of_getElem? (i := 27) rfl))) (Or.inr (hw _ (List.mem_of_getElem? (i := 28) rfl))) (by decide) (t := (.array .byte)) (t' := .byte) (by decide) (by decide)))
  have f68 := Va44.other W50 (Ne.symm ne_th_b44)
  have f69 := f68.ext E53
  have f70 := f69.other W62 (Ne.symm ne_th_b44)
  obtain ⟨fs, hr, hrun, hended, hWide⟩ := X62.leaveW (s := s) hS53 (by rw [e62]; exact (Nat.le_trans hk53 (Keep.of_wr W62).1)) (v := none) (fun _ => rfl)
  have hCe := CR63.trans (CHv.at (s := s) (vm0 := T53.vm) X62 hZ53 (own_hEL Z a0 hw) CR63.1)
  refine ⟨_, _, ?_, hrun, hended, _, _, rfl, ?_, (by rw [hh]; rw [← e62] at hCe; exact hCe), hWide.1, hWide.2.1, hWide.2.2.1, hWide.2.2.2.mono (by decide) (by decide)⟩
  · refine pre0 _ ?_
    show Steps _ _ _ (s₁.setTop (mkF m 0 #[.val (.ref th), .val (.ref ca), .val (.int (0 : Int32)), .val (.int (0 : Int32)), .val .null, .unset] [])) _
    refine XS.aloadN X0.here hx rfl (hb hby dS4_0) rfl rfl ?_
    show Steps _ _ _ (s₁.setTop (mkF m 1 #[.val (.ref th), .val (.ref ca), .val (.int (0 : Int32)), .val (.int (0 : Int32)), .val .null, .unset] [(.ref th)])) _
    refine st43 _ ?_
    refine XS.iloadN X43.here hx rfl (hb hby dS4_4) rfl ?_
    refine XS.ifNo X43.here hx rfl (hb hby dS4_5) rfl (by decide) ?_
    refine XS.aloadN X43.here hx rfl (hb hby dS4_8) rfl rfl ?_
    show Steps _ _ _ (T43.setTop (mkF m 9 #[.val (.ref th), .val (.ref ca), .val (.int (0 : Int32)), .val (.int (0 : Int32)), .val .null, .unset] [(.ref th)])) _
    refine st44 _ ?_
    show Steps _ _ _ (T44.setTop (mkF m 11 #[.val (.ref th), .val (.ref ca), .val (.int (0 : Int32)), .val (.int (0 : Int32)), .val .null, .unset] [(.ref a44), (.ref th)])) _
    refine st47 _ ?_
    show Steps _ _ _ (T47.setTop (mkF m 14 #[.val (.ref th), .val (.ref ca), .val (.int (0 : Int32)), .val (.int (0 : Int32)), .val .null, .unset] [(.ref b44), (.ref th)])) _
    refine st50 _ ?_
    refine XS.aloadN X50.here hx rfl (hb hby dS4_17) rfl rfl ?_
    show Steps _ _ _ (T50.setTop (mkF m 18 #[.val (.ref th), .val (.ref ca), .val (.int (0 : Int32)), .val (.int (0 : Int32)), .val .null, .unset] [(.ref th)])) _
    refine st53 _ ?_
    show Steps _ _ _ (T53.setTop (mkF m 20 #[.val (.ref th), .val (.ref ca), .val (.int (0 : Int32)), .val (.int (0 : Int32)), .val .null, .unset] [(.ref a53), (.ref th)])) _
    refine st57 _ ?_
    show Steps _ _ _ (T57.setTop (mkF m 23 #[.val (.ref th), .val (.ref ca), .val (.int (0 : Int32)), .val (.int (0 : Int32)), .val .null, .unset] [(.int (0 : Int32)), (.ref th)])) _
    refine st62 _ ?_
    show Steps _ _ _ (T62.setTop (mkF m 26 #[.val (.ref th), .val (.ref ca), .val (.int (0 : Int32)), .val (.int (0 : Int32)), .val .null, .unset] [])) _
    exact X62.returnOut hx Bd.returns (hb hby dS4_26) hr
  · show QS4 Z th ca h0 n0 _ T62.heap _
    rw [e62]
    exact ⟨rfl, N62, K62, f65, Fw62, b44, kc44, f67, f70⟩
theorem dS1_0 : decode jdk_42_method_3_code 0 = .ok (.aload_n 0, 1) := by decide +kernel
theorem dS1_1 : decode jdk_42_method_3_code 1 = .ok (.aload_n 1, 1) := by decide +kernel
theorem dS1_2 : decode jdk_42_method_3_code 2 = .ok (.iconst 0, 1) := by decide +kernel
theorem dS1_3 : decode jdk_42_method_3_code 3 = .ok (.aload_n 1, 1) := by decide +kernel
theorem dS1_4 : decode jdk_42_method_3_code 4 = .ok (.arraylength, 1) := by decide +kernel
theorem dS1_5 : decode jdk_42_method_3_code 5 = .ok (.aconst_null, 1) := by decide +kernel
theorem dS1_6 : decode jdk_42_method_3_code 6 = .ok (.invokespecial 27, 3) := by decide +kernel
theorem pd_6 : parseMethodDescriptor "([CIILjava/lang/Void;)V" = some ⟨[(.array .char), .int, .int, (.object "java/lang/Void")], none⟩ := by decide +kernel
theorem dS1_9 : decode jdk_42_method_3_code 9 = .ok (.return_, 1) := by decide +kernel
theorem ef_S1 (m : MethodId) (x0 : Addr) (x1 : Addr) : entryFrame m #[(.ref x0), (.ref x1)] 2 = mkF m 0 #[.val (.ref x0), .val (.ref x1)] [] := by first | (simp [entryFrame, mkF, argsToLocals, Value.category]; done) | rfl
def QS1 (Z : State) (th : Addr) (ca : Addr) (kca : ClassId) (h0 : Heap) (n0 : Nat) (v : Option Value) (h : Heap) (L : List Loc) : Prop := v = none ∧ Fr n0 L ∧ Keep h0 h [th] ∧ Exa Z h th "java/lang/String" ∧ Fld Z h th "java/lang/String" "coder" "B" (.int (0 : Int32)) ∧ ∃ (t : Addr) (kt : ClassId), Fld Z h th "java/lang/String" "value" "[B" (.ref t) ∧ Arv Z h t kt .byte (0 : Int32) [] (.int (0 : Int32))
set_option maxRecDepth 65536 in
set_option maxHeartbeats 40000000 in
theorem rmS1 (l : Launch) (Z : State) (a0 : Array Value) (hw : ∀ d ∈ tables_1, d.before a0 Z = true) (ws : List Jvm.Cond) (th : Addr) (ca : Addr) (kca : ClassId) (h0 : Heap) (n0 : Nat) (Z0 : n0 ≤ h0.size) (E_th : Exa Z h0 th "java/lang/String") (F_v : Fld Z h0 th "java/lang/String" "value" "[B" .null) (F_c : Fld Z h0 th "java/lang/String" "coder" "B" (.int (0 : Int32))) (g_th : n0 ≤ th) (V_ca : Arv Z h0 ca kca .char (0 : Int32) [] (.int (0 : Int32))) :
    MetFree l (⟨"java/lang/String", "<init>", "([C)V"⟩ : MethodName) (head1 (Jvm.Cond.code (⟨"java/lang/String", "<init>", "([C)V"⟩ : MethodName) jdk_42_method_3_code 2 none :: ws) ({ frames := 2, cells := 4, slots := 8, locals := 29 } : Room)) (fun a U => a = #[(.ref th), (.ref ca)] ∧ Z.Warmed39 U.vm ∧ U.heap = h0 ∧ CHv Z own_EL U.vm h0) (fun _ _ _ _ _ => True) (fun _ U o U' => ∃ v L, o = .returned v ∧ QS1 Z th ca kca h0 n0 v U'.heap L ∧ CHr Z own_EL U.vm U.heap U'.vm U'.heap ∧ ReturnedEndW U o U' L ({ frames := 2, cells := 4, slots := 8, locals := 29 } : Room).cells ({ frames := 2, cells := 4, slots := 8, locals := 29 } : Room).slots) := by
  refine MetFree.of_bodySF (plainFor_of_name pn_java_lang_String) hisR ?_
  intro p e s m args below meth c s₁ Bd hml0 hP hK
  obtain ⟨rfl, hZ, hh, hCH⟩ := hP
  have hx := Bd.exec
  have hby := Bd.bytes
  have hml : c.maxLocals = 2 := hml0
  have hown : s.vm.findClass "java/lang/String" = some m.cls := findClass_of_methodNamed Bd.named
  have hnm := (name_of_methodNamed Bd.named Bd.method).1
  have X0 : Stand p l e ({ frames := 2, cells := 4, slots := 8, locals := 29 } : Room) s m #[(.ref th), (.ref ca)] below meth c s₁ [] 0 0 := Stand.of_body Bd
  have e0 : s₁.heap = h0 := by rw [← hh, Bd.state]; rfl
  have N0 := Fr.nil n0
  have CR0 : CHr Z own_EL s.vm h0 s.vm h0 := CHr.refl hCH
  have K0 := Keep.refl h0 [th]
  have pre0 : ∀ t, Steps p.tables e below (s₁.setTop (mkF m 0 #[.val (.ref th), .val (.ref ca)] [])) t → Steps p.tables e below (s₁.setTop (entryFrame m #[(.ref th), (.ref ca)] 2)) t := fun t k => castTop (ef_S1 m th ca) k
  obtain ⟨cl71, Ar71, -, S71, N71, -, -⟩ := id V_ca
  obtain ⟨_, _, ⟨T72, L72, k72, n72⟩, -, X72, hS72, hG72, ⟨Lc72, hQ72, l72, y72, z72, hC72⟩, st72⟩ := X0.specialBackS hx (y := (⟨"java/lang/String", "<init>", "([CIILjava/lang/Void;)V"⟩ : MethodName)) rfl hown (mvT hZ (hw _ (List.mem_of_getElem? (i := 18) rfl))) (mvT hZ (hw _ (List.mem_of_getElem? (i := 19) rfl))) (mvT hZ (hw _ (List.mem_of_getElem? (i := 21) rfl))) (by decide) (backOfSH (s := s) (vm0 := s.vm) (W := 0) (rmS4 l Z a0 hw [] th ca h0 n0 (Nat.le_trans Z0 K0.1) E_th F_v F_c g_th) hZ (hw _ (List.mem_of_getElem? (i := 21) rfl)) (hw _ (List.mem_of_getElem? (i := 13) rfl)) (by decide) (by decide) (own_hEL Z a0 hw) CR0.1) (g := (mkF m 6 #[.val (.ref th), .val (.ref ca)] [.null, (.int (0 : Int32)), (.int (0 : Int32)), (.ref ca), (.ref th)])) rfl (by rw [hml]; rfl) (Steps.refl _) (a := th) (argsL := [(.ref ca), (.int (0 : Int32)), (.int (0 : Int32)), .null]) (rest := []) (lenOf pd_6 rfl) rfl (by show 2 * 0 + _ ≤ _; exact Nat.le_of_eq rfl) (hb hby dS1_6) (fun _ _ => ⟨rfl, e0, (by decide : 0 + 4 ≤ _), (by decide : 0 + 8 ≤ _)⟩)
  dsimp only [Pt.U, Pt.locs, Pt.cells, Pt.slots] at X72 l72 y72 z72 st72 hQ72 hS72 hG72 hC72
  rw [l72, y72, z72] at X72
  have hS72a : s.Since T72.vm T72.heap.size := hS72
  have hZ72 : Z.Warmed39 (s.setVm T72.vm).vm := State.Warmed39.trans hZ hS72.1
  have hown72 : (s.setVm T72.vm).vm.findClass "java/lang/String" = some m.cls := (hS72.1.alike.findClass _ _).trans hown
  obtain ⟨hv72, Nq72, Kc72, Ex72, Fc72, tt, ktt, Fv72, Vt72⟩ := hQ72
  rw [hv72] at st72
  have K72 : Keep h0 T72.heap [th] := K0.trans Kc72 (allS (P := fun x => x ∈ [th] ∨ h0.size ≤ x) (Or.inl (List.mem_of_getElem? (i := 0) rfl)) all0)
  have CR73 := CR0.trans hC72
  have N72 := Fr.app N0 Nq72
  obtain ⟨fs, hr, hrun, hended, hWide⟩ := X72.leaveW (s := s) hS72a (Nat.le_refl _) (v := none) (fun _ => rfl)
  have hCe := CR73.trans (CHv.at (s := s) (vm0 := T72.vm) X72 hZ72 (own_hEL Z a0 hw) CR73.1)
  refine ⟨_, _, ?_, hrun, hended, _, _, rfl, ?_, (by rw [hh]; exact hCe), hWide.1, hWide.2.1, hWide.2.2.1, hWide.2.2.2.mono (by decide) (by decide)⟩
  · refine pre0 _ ?_
    show Steps _ _ _ (s₁.setTop (mkF m 0 #[.val (.ref th), .val (.ref ca)] [])) _
    refine XS.aloadN X0.here hx rfl (hb hby dS1_0) rfl rfl ?_
    refine XS.aloadN X0.here hx rfl (hb hby dS1_1) rfl rfl ?_
    refine XS.iconst X0.here hx rfl (hb hby dS1_2) ?_
    refine XS.aloadN X0.here hx rfl (hb hby dS1_3) rfl rfl ?_
    show Steps _ _ _ (s₁.setTop (mkF m 4 #[.val (.ref th), .val (.ref ca)] [(.ref ca), (.int (0 : Int32)), (.ref ca), (.ref th)])) _
    refine X0.arraylength hx (by rw [e0]; exact Ar71.1) (State.isArrayOf_alike hZ.alike Ar71.2.1) (g := (mkF m 4 #[.val (.ref th), .val (.ref ca)] [(.ref ca), (.int (0 : Int32)), (.ref ca), (.ref th)])) rfl rfl (hb hby dS1_4) _ ?_
    rw [len_of S71 N71]
    refine XS.aconstNull X0.here hx rfl (hb hby dS1_5) ?_
    show Steps _ _ _ (s₁.setTop (mkF m 6 #[.val (.ref th), .val (.ref ca)] [.null, (.int (0 : Int32)), (.int (0 : Int32)), (.ref ca), (.ref th)])) _
    refine st72.trans ?_
    show Steps _ _ _ (T72.setTop (mkF m 9 #[.val (.ref th), .val (.ref ca)] [])) _
    exact X72.returnOut hx Bd.returns (hb hby dS1_9) hr
  · show QS1 Z th ca kca h0 n0 _ T72.heap _
    exact ⟨rfl, N72, K72, Ex72, Fc72, tt, ktt, Fv72, Vt72⟩
theorem dMK_0 : decode method_5_code 0 = .ok (.iload_n 0, 1) := by decide +kernel
theorem dMK_1 : decode method_5_code 1 = .ok (.invokestatic 8, 3) := by decide +kernel
theorem pd_7 : parseMethodDescriptor "(I)I" = some ⟨[.int], some .int⟩ := by decide +kernel
theorem dMK_4 : decode method_5_code 4 = .ok (.istore_n 1, 1) := by decide +kernel
theorem dMK_5 : decode method_5_code 5 = .ok (.iload_n 1, 1) := by decide +kernel
theorem dMK_6 : decode method_5_code 6 = .ok (.ifCond .ne 14, 3) := by decide +kernel
theorem dMK_9 : decode method_5_code 9 = .ok (.new 14, 3) := by decide +kernel
theorem dMK_12 : decode method_5_code 12 = .ok (.dup, 1) := by decide +kernel
theorem dMK_13 : decode method_5_code 13 = .ok (.iconst 0, 1) := by decide +kernel
theorem dMK_14 : decode method_5_code 14 = .ok (.newarray .char, 2) := by decide +kernel
theorem dMK_16 : decode method_5_code 16 = .ok (.invokespecial 16, 3) := by decide +kernel
theorem pd_8 : parseMethodDescriptor "([C)V" = some ⟨[(.array .char)], none⟩ := by decide +kernel
theorem dMK_19 : decode method_5_code 19 = .ok (.areturn, 1) := by decide +kernel
theorem dMK_20 : decode method_5_code 20 = .ok (.iload_n 1, 1) := by decide +kernel
theorem dMK_21 : decode method_5_code 21 = .ok (.iconst 1, 1) := by decide +kernel
theorem dMK_22 : decode method_5_code 22 = .ok (.if_icmp .ne 11, 3) := by decide +kernel
theorem dMK_25 : decode method_5_code 25 = .ok (.iload_n 0, 1) := by decide +kernel
theorem dMK_26 : decode method_5_code 26 = .ok (.invokestatic 19, 3) := by decide +kernel
theorem pd_9 : parseMethodDescriptor "(I)C" = some ⟨[.int], some .char⟩ := by decide +kernel
theorem dMK_29 : decode method_5_code 29 = .ok (.invokestatic 23, 3) := by decide +kernel
theorem pd_10 : parseMethodDescriptor "(C)Ljava/lang/String;" = some ⟨[.char], some (.object "java/lang/String")⟩ := by decide +kernel
theorem dMK_32 : decode method_5_code 32 = .ok (.areturn, 1) := by decide +kernel
theorem dMK_33 : decode method_5_code 33 = .ok (.iconst 2, 1) := by decide +kernel
theorem dMK_34 : decode method_5_code 34 = .ok (.newarray .char, 2) := by decide +kernel
theorem dMK_36 : decode method_5_code 36 = .ok (.astore_n 2, 1) := by decide +kernel
theorem dMK_37 : decode method_5_code 37 = .ok (.aload_n 2, 1) := by decide +kernel
theorem dMK_38 : decode method_5_code 38 = .ok (.iconst 0, 1) := by decide +kernel
theorem dMK_39 : decode method_5_code 39 = .ok (.iload_n 0, 1) := by decide +kernel
theorem dMK_40 : decode method_5_code 40 = .ok (.invokestatic 19, 3) := by decide +kernel
theorem dMK_43 : decode method_5_code 43 = .ok (.castore, 1) := by decide +kernel
theorem dMK_44 : decode method_5_code 44 = .ok (.aload_n 2, 1) := by decide +kernel
theorem dMK_45 : decode method_5_code 45 = .ok (.iconst 1, 1) := by decide +kernel
theorem dMK_46 : decode method_5_code 46 = .ok (.iload_n 0, 1) := by decide +kernel
theorem dMK_47 : decode method_5_code 47 = .ok (.invokestatic 27, 3) := by decide +kernel
theorem dMK_50 : decode method_5_code 50 = .ok (.castore, 1) := by decide +kernel
theorem dMK_51 : decode method_5_code 51 = .ok (.new 14, 3) := by decide +kernel
theorem dMK_54 : decode method_5_code 54 = .ok (.dup, 1) := by decide +kernel
theorem dMK_55 : decode method_5_code 55 = .ok (.aload_n 2, 1) := by decide +kernel
theorem dMK_56 : decode method_5_code 56 = .ok (.invokespecial 16, 3) := by decide +kernel
theorem dMK_59 : decode method_5_code 59 = .ok (.areturn, 1) := by decide +kernel
theorem ef_MK (m : MethodId) (x0 : Int32) : entryFrame m #[(.int x0)] 3 = mkF m 0 #[.val (.int x0), .unset, .unset] [] := by first | (simp [entryFrame, mkF, argsToLocals, Value.category]; done) | rfl
def QMK (Z : State) (pa : Int32) (G1 : Int32) (h0 : Heap) (n0 : Nat) (v : Option Value) (h : Heap) (L : List Loc) : Prop := ∃ (r t : Addr) (kt : ClassId), v = some (.ref r) ∧ Fr n0 L ∧ Keep h0 h [] ∧ Exa Z h r "java/lang/String" ∧ Fld Z h r "java/lang/String" "value" "[B" (.ref t) ∧ Fld Z h r "java/lang/String" "coder" "B" (.int (0 : Int32)) ∧ Arv Z h t kt .byte (Int32.ofNat (own_str pa).length) (((own_str pa).map StrChars.lo8).map Value.int) (.int (0 : Int32)) ∧ h0.size ≤ r ∧ n0 ≤ r
set_option maxRecDepth 65536 in
set_option maxHeartbeats 40000000 in
theorem rmMK (l : Launch) (Z : State) (a0 : Array Value) (hw : ∀ d ∈ tables_1, d.before a0 Z = true) (ws : List Jvm.Cond) (pa : Int32) (G1 : Int32) (h0 : Heap) (n0 : Nat) (Z0 : n0 ≤ h0.size) (O2 : Sta Z Z.heap "java/lang/String" "COMPACT_STRINGS" "Z" (.int G1)) (P5 : ¬ (G1 = (0 : Int32))) (X00 : Old Z n0 h0) :
    MetFree l (⟨"com/example/facetwise/facetwise/RankedResultEqualsPinLaw", "mk", "(I)Ljava/lang/String;"⟩ : MethodName) (head1 (Jvm.Cond.code (⟨"com/example/facetwise/facetwise/RankedResultEqualsPinLaw", "mk", "(I)Ljava/lang/String;"⟩ : MethodName) method_5_code 3 (some (.object "java/lang/String")) :: ws) ({ frames := 5, cells := 6, slots := 12, locals := 66 } : Room)) (fun a U => a = #[(.int pa)] ∧ Z.Warmed39 U.vm ∧ U.heap = h0 ∧ CHv Z own_EL U.vm h0) (fun _ _ _ _ _ => True) (fun _ U o U' => ∃ v L, o = .returned v ∧ QMK Z pa G1 h0 n0 v U'.heap L ∧ CHr Z own_EL U.vm U.heap U'.vm U'.heap ∧ ReturnedEndW U o U' L ({ frames := 5, cells := 6, slots := 12, locals := 66 } : Room).cells ({ frames := 5, cells := 6, slots := 12, locals := 66 } : Room).slots) := by
  refine MetFree.of_bodySF (plainFor_of_name pn_com_example_facetwise_facetwise_RankedResultEqualsPinLaw) hisR ?_
  intro p e s m args below meth c s₁ Bd hml0 hP hK
  obtain ⟨rfl, hZ, hh, hCH⟩ := hP
  have hx := Bd.exec
  have hby := Bd.bytes
  have hml : c.maxLocals = 3 := hml0
  have hown : s.vm.findClass "com/example/facetwise/facetwise/RankedResultEqualsPinLaw" = some m.cls := findClass_of_methodNamed Bd.named
  have hnm := (name_of_methodNamed Bd.named Bd.method).1
  have X0 : Stand p l e ({ frames := 5, cells := 6, slots := 12, locals := 66 } : Room) s m #[(.int pa)] below meth c s₁ [] 0 0 := Stand.of_body Bd
  have e0 : s₁.heap = h0 := by rw [← hh, Bd.state]; rfl
  have N0 := Fr.nil n0
  have CR0 : CHr Z own_EL s.vm h0 s.vm h0 := CHr.refl hCH
  have K0 : Keep h0 h0 [] := Keep.refl h0 []
  have pre0 : ∀ t, Steps p.tables e below (s₁.setTop (mkF m 0 #[.val (.int pa), .unset, .unset] [])) t → Steps p.tables e below (s₁.setTop (entryFrame m #[(.int pa)] 3)) t := fun t k => castTop (ef_MK m pa) k
  obtain ⟨ln, hln⟩ : ∃ z, own_len pa = z := ⟨_, rfl⟩
  obtain ⟨_, _, ⟨T74, L74, k74, n74⟩, -, X74, ⟨Lc74, hQ74, l74, y74, z74⟩, st74⟩ := Jvm.LawKit.callS X0 hx (y := (⟨"com/example/facetwise/facetwise/RankedResultEqualsPinLaw", "len", "(I)I"⟩ : MethodName)) hown (mvT hZ (hw _ (List.mem_of_getElem? (i := 7) rfl))) (mvT hZ (hw _ (List.mem_of_getElem? (i := 8) rfl))) (mvT hZ (hw _ (List.mem_of_getElem? (i := 5) rfl))) (mvT hZ (hw _ (List.mem_of_getElem? (i := 9) rfl))) (by decide) (backOf (W := 0) (rmLEN l Z a0 hw [] pa h0 n0 (Nat.le_trans Z0 K0.1) ) hZ (hw _ (List.mem_of_getElem? (i := 9) rfl)) (hw _ (List.mem_of_getElem? (i := 5) rfl)) (by decide) (by decide)) (g := (mkF m 1 #[.val (.int pa), .unset, .unset] [(.int pa)])) rfl (by rw [hml]; rfl) (argsL := [(.int pa)]) (rest := []) (lenOf pd_7 rfl) rfl (by show 2 * 0 + _ ≤ _; exact Nat.le_of_eq rfl) (hb hby dMK_1) (fun _ _ => ⟨rfl, e0, (by decide : 0 + 0 ≤ _), (by decide : 0 + 0 ≤ _)⟩)
  dsimp only [Pt.U, Pt.locs, Pt.cells, Pt.slots] at X74 l74 y74 z74 st74 hQ74
  rw [l74, y74, z74] at X74
  obtain ⟨hv74, Nq74, eq74⟩ := hQ74
  rw [hv74] at st74
  have N74 := Fr.app N0 Nq74
  rw [hln] at st74
  have R75 : ∀ t, Steps p.tables e below (T74.setTop (mkF m 6 #[.val (.int pa), .val (.int ln), .unset] [(.int ln)])) t → Steps p.tables e below (s₁.setTop (entryFrame m #[(.int pa)] 3)) t := by
    intro t kt
    refine pre0 _ ?_
    show Steps _ _ _ (s₁.setTop (mkF m 0 #[.val (.int pa), .unset, .unset] [])) _
    refine XS.iloadN X0.here hx rfl (hb hby dMK_0) rfl ?_
    show Steps _ _ _ (s₁.setTop (mkF m 1 #[.val (.int pa), .unset, .unset] [(.int pa)])) _
    refine st74 _ ?_
    show Steps _ _ _ (T74.setTop (mkF m 4 #[.val (.int pa), .unset, .unset] [(.int ln)])) _
    refine XS.istoreN X74.here hx rfl (hb hby dMK_4) rfl (l' := #[.val (.int pa), .val (.int ln), .unset]) rfl ?_
    refine XS.iloadN X74.here hx rfl (hb hby dMK_5) rfl ?_
    show Steps _ _ _ (T74.setTop (mkF m 6 #[.val (.int pa), .val (.int ln), .unset] [(.int ln)])) _
    exact kt
  rcases own_len3 pa with h4 | h4 | h4 <;> (rw [hln] at h4; subst h4)
  ·
    have hstr : own_str pa = [] := by rw [own_str, if_pos hln]
    obtain ⟨T76, h76, X76, e76, E76, A76, D76, -, st76⟩ := newO X74 hx hZ hown (hw _ (List.mem_of_getElem? (i := 11) rfl)) (hw _ (List.mem_of_getElem? (i := 12) rfl)) (hw _ (List.mem_of_getElem? (i := 13) rfl)) eq74 (g := (mkF m 9 #[.val (.int pa), .val (.int (0 : Int32)), .unset] [])) rfl (hb hby dMK_9) (by decide) (by decide)
    obtain ⟨b76, g76⟩ : ∃ z, z = h0.size := ⟨_, rfl⟩
    rw [← g76] at A76 D76 st76
    have g_b76 : n0 ≤ b76 := Nat.le_trans (Nat.le_trans Z0 K0.1) (Nat.le_of_eq g76.symm)
    have sz_b76 : h0.size ≤ b76 := Nat.le_trans K0.1 (Nat.le_of_eq g76.symm)
    have CR77 := CR0.trans (CHr.ext E76 CR0.1)
    have Sf76 : Safe Z own_EL _ h76 b76 := Safe.ext E76 CR0.1 (Safe.new (Nat.le_of_eq g76.symm))
    have K76 : Keep h0 h76 [] := K0.ext E76
    have F76_value : Fld Z h76 b76 "java/lang/String" "value" "[B" .null := D76 (Or.inr (hw _ (List.mem_of_getElem? (i := 27) rfl))) (ty := (.array .byte)) (by decide)
    have F76_coder : Fld Z h76 b76 "java/lang/String" "coder" "B" (.int (0 : Int32)) := D76 (Or.inr (hw _ (List.mem_of_getElem? (i := 28) rfl))) (ty := .byte) (by decide)
    obtain ⟨T78, h78, k78, X78, e78, E78, A78, st78⟩ := newP X76 hx hZ (hw _ (List.mem_of_getElem? (i := 14) rfl)) e76 (g := (mkF m 14 #[.val (.int pa), .val (.int (0 : Int32)), .unset] [(.int (0 : Int32)), (.ref b76), (.ref b76)])) rfl (hb hby dMK_14) rfl (by decide) (cap := 0) (by decide) (by decide) (by decide) (by decide)
    obtain ⟨b78, g78⟩ : ∃ z, z = h76.size := ⟨_, rfl⟩
    rw [← g78] at A78 st78
    have lt_b76_b78 : b76 < b78 := Nat.lt_of_lt_of_le A76.lt (Nat.le_of_eq g78.symm)
    have g_b78 : n0 ≤ b78 := Nat.le_trans (Nat.le_trans Z0 K76.1) (Nat.le_of_eq g78.symm)
    have sz_b78 : h0.size ≤ b78 := Nat.le_trans K76.1 (Nat.le_of_eq g78.symm)
    have CR79 := CR77.trans (CHr.ext E78 CR77.1)
    have Sf80 := Safe.ext E78 CR77.1 Sf76
    have K78 : Keep h0 h78 [] := K76.ext E78
    have V78 : Arv Z h78 b78 k78 .char (0 : Int32) [] (.int (0 : Int32)) := (Arv.new A78 (by decide)).pad (pad_rep [] (.int (0 : Int32)) 0)
    have f82 := A76.ext E78
    have f83 := F76_value.ext E78
    have f84 := F76_coder.ext E78
    obtain ⟨_, _, ⟨T81, L81, k81, n81⟩, -, X81, hS81, hG81, ⟨Lc81, hQ81, l81, y81, z81, hC81⟩, st81⟩ := X78.specialBackS hx (y := (⟨"java/lang/String", "<init>", "([C)V"⟩ : MethodName)) rfl hown (mvT hZ (hw _ (List.mem_of_getElem? (i := 15) rfl))) (mvT hZ (hw _ (List.mem_of_getElem? (i := 16) rfl))) (mvT hZ (hw _ (List.mem_of_getElem? (i := 17) rfl))) (by decide) (backOfSH (s := s) (vm0 := s.vm) (W := 1) (rmS1 l Z a0 hw [] b76 b78 k78 h78 n0 (Nat.le_trans Z0 K78.1) f82 f83 f84 g_b76 V78) hZ (hw _ (List.mem_of_getElem? (i := 17) rfl)) (hw _ (List.mem_of_getElem? (i := 13) rfl)) (by decide) (by decide) (own_hEL Z a0 hw) CR79.1) (g := (mkF m 16 #[.val (.int pa), .val (.int (0 : Int32)), .unset] [(.ref b78), (.ref b76), (.ref b76)])) rfl (by rw [hml]; rfl) (Steps.refl _) (a := b76) (argsL := [(.ref b78)]) (rest := [(.ref b76)]) (lenOf pd_8 rfl) rfl (by show 2 * 0 + _ ≤ _; exact Nat.le_of_eq rfl) (hb hby dMK_16) (fun _ _ => ⟨rfl, e78, (by decide : 2 + 4 ≤ _), (by decide : 4 + 8 ≤ _)⟩)
    dsimp only [Pt.U, Pt.locs, Pt.cells, Pt.slots] at X81 l81 y81 z81 st81 hQ81 hS81 hG81 hC81
    rw [l81, y81, z81] at X81
    have hS81a : s.Since T81.vm T81.heap.size := hS81
    have hZ81 : Z.Warmed39 (s.setVm T81.vm).vm := State.Warmed39.trans hZ hS81.1
    have hown81 : (s.setVm T81.vm).vm.findClass "com/example/facetwise/facetwise/RankedResultEqualsPinLaw" = some m.cls := (hS81.1.alike.findClass _ _).trans hown
    obtain ⟨hv81, Nq81, Kc81, Ex81, Fc81, st, kst, Fv81, Vt81⟩ := hQ81
    rw [hv81] at st81
    have K81 : Keep h0 T81.heap [] := K78.trans Kc81 (allS (P := fun x => x ∈ [] ∨ h0.size ≤ x) (Or.inr sz_b76) all0)
    have CR85 := CR79.trans hC81
    have Sf86 := hC81.safe f82.lt Sf80
    have N81 := Fr.app N74 Nq81
    obtain ⟨fs, hr, hrun, hended, hWide⟩ := X81.leaveW (s := s) hS81a (Nat.le_refl _) (v := some (.ref b76)) (fun h => by rw [Bd.returns] at h; cases h)
    have hCe := CR85.trans (CHv.at (s := s) (vm0 := T81.vm) X81 hZ81 (own_hEL Z a0 hw) CR85.1)
    refine ⟨_, _, ?_, hrun, hended, _, _, rfl, ?_, (by rw [hh]; exact hCe), hWide.1, hWide.2.1, hWide.2.2.1, hWide.2.2.2.mono (by decide) (by decide)⟩
    · refine R75 _ ?_
      show Steps _ _ _ (T74.setTop (mkF m 6 #[.val (.int pa), .val (.int (0 : Int32)), .unset] [(.int (0 : Int32))])) _
      refine XS.ifNo X74.here hx rfl (hb hby dMK_6) rfl (by decide) ?_
      show Steps _ _ _ (T74.setTop (mkF m 9 #[.val (.int pa), .val (.int (0 : Int32)), .unset] [])) _
      refine st76 _ ?_
      refine XS.dup X76.here hx rfl (hb hby dMK_12) rfl rfl ?_
      refine XS.iconst X76.here hx rfl (hb hby dMK_13) ?_
      show Steps _ _ _ (T76.setTop (mkF m 14 #[.val (.int pa), .val (.int (0 : Int32)), .unset] [(.int (0 : Int32)), (.ref b76), (.ref b76)])) _
      refine st78 _ ?_
      show Steps _ _ _ (T78.setTop (mkF m 16 #[.val (.int pa), .val (.int (0 : Int32)), .unset] [(.ref b78), (.ref b76), (.ref b76)])) _
      refine st81.trans ?_
      show Steps _ _ _ (T81.setTop (mkF m 19 #[.val (.int pa), .val (.int (0 : Int32)), .unset] [(.ref b76)])) _
      jvm_step X81.here [X81.here.top, hx, (hb hby dMK_19), X81.method', Bd.returns, Value.isRef, FieldType.isReference]
      first | (intro acts; rw [hr _ acts rfl rfl rfl]) | rw [hr _ _ rfl rfl rfl]
      exact Steps.refl _
    · show QMK Z pa G1 h0 n0 _ T81.heap _
      exact ⟨b76, st, kst, rfl, N81, K81, Ex81, Fv81, Fc81, (by rw [hstr]; exact Vt81), sz_b76, g_b76⟩
  ·
    have hstr : own_str pa = [own_c0 pa] := by rw [own_str, if_neg (by rw [hln]; decide), if_pos hln]
    obtain ⟨_, _, ⟨T87, L87, k87, n87⟩, -, X87, ⟨Lc87, hQ87, l87, y87, z87⟩, st87⟩ := Jvm.LawKit.callS X74 hx (y := (⟨"com/example/facetwise/facetwise/RankedResultEqualsPinLaw", "c0", "(I)C"⟩ : MethodName)) hown (mvT hZ (hw _ (List.mem_of_getElem? (i := 77) rfl))) (mvT hZ (hw _ (List.mem_of_getElem? (i := 78) rfl))) (mvT hZ (hw _ (List.mem_of_getElem? (i := 5) rfl))) (mvT hZ (hw _ (List.mem_of_getElem? (i := 79) rfl))) (by decide) (backOf (W := 0) (rmC0 l Z a0 hw [] pa h0 n0 (Nat.le_trans Z0 K0.1) ) hZ (hw _ (List.mem_of_getElem? (i := 79) rfl)) (hw _ (List.mem_of_getElem? (i := 5) rfl)) (by decide) (by decide)) (g := (mkF m 26 #[.val (.int pa), .val (.int (1 : Int32)), .unset] [(.int pa)])) rfl (by rw [hml]; rfl) (argsL := [(.int pa)]) (rest := []) (lenOf pd_9 rfl) rfl (by show 2 * 0 + _ ≤ _; exact Nat.le_of_eq rfl) (hb hby dMK_26) (fun _ _ => ⟨rfl, eq74, (by decide : 0 + 0 ≤ _), (by decide : 0 + 0 ≤ _)⟩)
    dsimp only [Pt.U, Pt.locs, Pt.cells, Pt.slots] at X87 l87 y87 z87 st87 hQ87
    rw [l87, y87, z87] at X87
    obtain ⟨hv87, Nq87, eq87⟩ := hQ87
    rw [hv87] at st87
    have N87 := Fr.app N74 Nq87
    obtain ⟨_, _, ⟨T88, L88, k88, n88⟩, -, X88, ⟨Lc88, hQ88, l88, y88, z88⟩, st88⟩ := Jvm.LawKit.callS X87 hx (y := (⟨"java/lang/String", "valueOf", "(C)Ljava/lang/String;"⟩ : MethodName)) hown (mvT hZ (hw _ (List.mem_of_getElem? (i := 80) rfl))) (mvT hZ (hw _ (List.mem_of_getElem? (i := 81) rfl))) (mvT hZ (hw _ (List.mem_of_getElem? (i := 13) rfl))) (mvT hZ (hw _ (List.mem_of_getElem? (i := 82) rfl))) (by decide) (backOf (W := 0) (rmVO l Z a0 hw [] (own_c0 pa) G1 h0 n0 (Nat.le_trans Z0 K0.1) O2 P5 X00 (own_c0L pa).2) hZ (hw _ (List.mem_of_getElem? (i := 82) rfl)) (hw _ (List.mem_of_getElem? (i := 13) rfl)) (by decide) (by decide)) (g := (mkF m 29 #[.val (.int pa), .val (.int (1 : Int32)), .unset] [(.int (own_c0 pa))])) rfl (by rw [hml]; rfl) (argsL := [(.int (own_c0 pa))]) (rest := []) (lenOf pd_10 rfl) rfl (by show 2 * 0 + _ ≤ _; exact Nat.le_of_eq rfl) (hb hby dMK_29) (fun _ _ => ⟨rfl, eq87, (by decide : 0 + 2 ≤ _), (by decide : 0 + 5 ≤ _)⟩)
    dsimp only [Pt.U, Pt.locs, Pt.cells, Pt.slots] at X88 l88 y88 z88 st88 hQ88
    rw [l88, y88, z88] at X88
    obtain ⟨sr, st, kst, hv88, Nq88, Kc88, Ex88, Fv88, Fc88, Vt88, szr, g_sr⟩ := hQ88
    rw [hv88] at st88
    have K88 : Keep h0 T88.heap [] := K0.trans Kc88 all0
    have CR89 := CR0.trans (CHr.keep Kc88 all0 CR0.1)
    have sz_sr : h0.size ≤ sr := szr
    have N88 := Fr.app N87 Nq88
    obtain ⟨fs, hr, hrun, hended, hWide⟩ := X88.leaveW (s := s) (vm₁ := s.vm) ((State.WarmedH.refl s).since 0) (Nat.zero_le _) (v := some (.ref sr)) (fun h => by rw [Bd.returns] at h; cases h)
    have hCe := CR89.trans (CHv.at (s := s) (vm0 := s.vm) X88 hZ (own_hEL Z a0 hw) CR89.1)
    refine ⟨_, _, ?_, hrun, hended, _, _, rfl, ?_, (by rw [hh]; exact hCe), hWide.1, hWide.2.1, hWide.2.2.1, hWide.2.2.2.mono (by decide) (by decide)⟩
    · refine R75 _ ?_
      show Steps _ _ _ (T74.setTop (mkF m 6 #[.val (.int pa), .val (.int (1 : Int32)), .unset] [(.int (1 : Int32))])) _
      refine XS.ifYes X74.here hx rfl (pc0 := 6) (pc' := 20) rfl (hb hby dMK_6) rfl (by decide) (by decide) (by decide) ?_
      refine XS.iloadN X74.here hx rfl (hb hby dMK_20) rfl ?_
      refine XS.iconst X74.here hx rfl (hb hby dMK_21) ?_
      refine XS.icmpNo X74.here hx rfl (hb hby dMK_22) rfl (by decide) ?_
      show Steps _ _ _ (T74.setTop (mkF m 25 #[.val (.int pa), .val (.int (1 : Int32)), .unset] [])) _
      refine XS.iloadN X74.here hx rfl (hb hby dMK_25) rfl ?_
      show Steps _ _ _ (T74.setTop (mkF m 26 #[.val (.int pa), .val (.int (1 : Int32)), .unset] [(.int pa)])) _
      refine st87 _ ?_
      show Steps _ _ _ (T87.setTop (mkF m 29 #[.val (.int pa), .val (.int (1 : Int32)), .unset] [(.int (own_c0 pa))])) _
      refine st88 _ ?_
      show Steps _ _ _ (T88.setTop (mkF m 32 #[.val (.int pa), .val (.int (1 : Int32)), .unset] [(.ref sr)])) _
      jvm_step X88.here [X88.here.top, hx, (hb hby dMK_32), X88.method', Bd.returns, Value.isRef, FieldType.isReference]
      first | (intro acts; rw [hr _ acts rfl rfl rfl]) | rw [hr _ _ rfl rfl rfl]
      exact Steps.refl _
    · show QMK Z pa G1 h0 n0 _ T88.heap _
      exact ⟨sr, st, kst, rfl, N88, K88, Ex88, Fv88, Fc88, (by rw [hstr]; exact Vt88), sz_sr, g_sr⟩
  ·
    have hstr : own_str pa = [own_c0 pa, own_c1 pa] := by rw [own_str, if_neg (by rw [hln]; decide), if_neg (by rw [hln]; decide)]
    obtain ⟨T90, h90, k90, X90, e90, E90, A90, st90⟩ := newP X74 hx hZ (hw _ (List.mem_of_getElem? (i := 14) rfl)) eq74 (g := (mkF m 34 #[.val (.int pa), .val (.int (2 : Int32)), .unset] [(.int (2 : Int32))])) rfl (hb hby dMK_34) rfl (by decide) (cap := 2) (by decide) (by decide) (by decide) (by decide)
    obtain ⟨b90, g90⟩ : ∃ z, z = h0.size := ⟨_, rfl⟩
    rw [← g90] at A90 st90
    have g_b90 : n0 ≤ b90 := Nat.le_trans (Nat.le_trans Z0 K0.1) (Nat.le_of_eq g90.symm)
    have sz_b90 : h0.size ≤ b90 := Nat.le_trans K0.1 (Nat.le_of_eq g90.symm)
    have CR91 := CR0.trans (CHr.ext E90 CR0.1)
    have K90 : Keep h0 h90 [] := K0.ext E90
    have V90 : Arv Z h90 b90 k90 .char (2 : Int32) [(.int (0 : Int32)), (.int (0 : Int32))] (.int (0 : Int32)) := (Arv.new A90 (by decide)).pad (pad_rep [] (.int (0 : Int32)) 2)
    obtain ⟨_, _, ⟨T92, L92, k92, n92⟩, -, X92, ⟨Lc92, hQ92, l92, y92, z92⟩, st92⟩ := Jvm.LawKit.callS X90 hx (y := (⟨"com/example/facetwise/facetwise/RankedResultEqualsPinLaw", "c0", "(I)C"⟩ : MethodName)) hown (mvT hZ (hw _ (List.mem_of_getElem? (i := 77) rfl))) (mvT hZ (hw _ (List.mem_of_getElem? (i := 78) rfl))) (mvT hZ (hw _ (List.mem_of_getElem? (i := 5) rfl))) (mvT hZ (hw _ (List.mem_of_getElem? (i := 79) rfl))) (by decide) (backOf (W := 2) (rmC0 l Z a0 hw [] pa h90 n0 (Nat.le_trans Z0 K90.1) ) hZ (hw _ (List.mem_of_getElem? (i := 79) rfl)) (hw _ (List.mem_of_getElem? (i := 5) rfl)) (by decide) (by decide)) (g := (mkF m 40 #[.val (.int pa), .val (.int (2 : Int32)), .val (.ref b90)] [(.int pa), (.int (0 : Int32)), (.ref b90)])) rfl (by rw [hml]; rfl) (argsL := [(.int pa)]) (rest := [(.int (0 : Int32)), (.ref b90)]) (lenOf pd_9 rfl) rfl (by show 2 * 0 + _ ≤ _; exact Nat.le_of_eq rfl) (hb hby dMK_40) (fun _ _ => ⟨rfl, e90, (by decide : 1 + 0 ≤ _), (by decide : 2 + 0 ≤ _)⟩)
    dsimp only [Pt.U, Pt.locs, Pt.cells, Pt.slots] at X92 l92 y92 z92 st92 hQ92
    rw [l92, y92, z92] at X92
    obtain ⟨hv92, Nq92, eq92⟩ := hQ92
    rw [hv92] at st92
    have N92 := Fr.app N74 Nq92
    obtain ⟨cl93, Ar93, q93, S93, N93, H93, G93⟩ := id V90
    have hin93 : ¬ ((0 : Int32) < 0 ∨ cl93.slots.size ≤ ((0 : Int32)).toNatClampNeg) := (inb_of S93 ⟨by decide, by decide⟩)
    obtain ⟨T94, h94, X94, e94, W94, st94⟩ := stC X92 hx hZ eq92 Ar93 (j := (0 : Int32)) hin93 (g := (mkF m 43 #[.val (.int pa), .val (.int (2 : Int32)), .val (.ref b90)] [(.int (own_c0 pa)), (.int (0 : Int32)), (.ref b90)])) rfl rfl (hb hby dMK_43)
    have V94 : Arv Z h94 b90 k90 .char (2 : Int32) [(.int (nar .char (own_c0 pa))), (.int (0 : Int32))] (.int (0 : Int32)) := Arv.set Ar93 q93 S93 N93 H93 G93 (fits_nar_char _) W94 0 rfl (Nat.le_of_ble_eq_true rfl)
    have CR95 := CR91.trans (CHr.wr W94 (own_safeV hZ.alike V90 (by decide)) CR91.1)
    have K94 : Keep h0 h94 [] := K90.wr W94 (Or.inr sz_b90)
    have N94F := Fr.snoc X94 N92 g_b90
    obtain ⟨_, _, ⟨T96, L96, k96, n96⟩, -, X96, ⟨Lc96, hQ96, l96, y96, z96⟩, st96⟩ := Jvm.LawKit.callS X94 hx (y := (⟨"com/example/facetwise/facetwise/RankedResultEqualsPinLaw", "c1", "(I)C"⟩ : MethodName)) hown (mvT hZ (hw _ (List.mem_of_getElem? (i := 93) rfl))) (mvT hZ (hw _ (List.mem_of_getElem? (i := 94) rfl))) (mvT hZ (hw _ (List.mem_of_getElem? (i := 5) rfl))) (mvT hZ (hw _ (List.mem_of_getElem? (i := 95) rfl))) (by decide) (backOf (W := 2) (rmC1 l Z a0 hw [] pa h94 n0 (Nat.le_trans Z0 K94.1) ) hZ (hw _ (List.mem_of_getElem? (i := 95) rfl)) (hw _ (List.mem_of_getElem? (i := 5) rfl)) (by decide) (by decide)) (g := (mkF m 47 #[.val (.int pa), .val (.int (2 : Int32)), .val (.ref b90)] [(.int pa), (.int (1 : Int32)), (.ref b90)])) rfl (by rw [hml]; rfl) (argsL := [(.int pa)]) (rest := [(.int (1 : Int32)), (.ref b90)]) (lenOf pd_9 rfl) rfl (by show 2 * 0 + _ ≤ _; exact Nat.le_of_eq rfl) (hb hby dMK_47) (fun _ _ => ⟨rfl, e94, (by decide : 1 + 0 ≤ _), (by decide : 2 + 0 ≤ _)⟩)
    dsimp only [Pt.U, Pt.locs, Pt.cells, Pt.slots] at X96 l96 y96 z96 st96 hQ96
    rw [l96, y96, z96] at X96
    obtain ⟨hv96, Nq96, eq96⟩ := hQ96
    rw [hv96] at st96
    have N96 := Fr.app N94F Nq96
    obtain ⟨cl97, Ar97, q97, S97, N97, H97, G97⟩ := id V94
    have hin97 : ¬ ((1 : Int32) < 0 ∨ cl97.slots.size ≤ ((1 : Int32)).toNatClampNeg) := (inb_of S97 ⟨by decide, by decide⟩)
    obtain ⟨T98, h98, X98, e98, W98, st98⟩ := stC X96 hx hZ eq96 Ar97 (j := (1 : Int32)) hin97 (g := (mkF m 50 #[.val (.int pa), .val (.int (2 : Int32)), .val (.ref b90)] [(.int (own_c1 pa)), (.int (1 : Int32)), (.ref b90)])) rfl rfl (hb hby dMK_50)
    have V98 : Arv Z h98 b90 k90 .char (2 : Int32) [(.int (nar .char (own_c0 pa))), (.int (nar .char (own_c1 pa)))] (.int (0 : Int32)) := Arv.set Ar97 q97 S97 N97 H97 G97 (fits_nar_char _) W98 1 rfl (Nat.le_of_ble_eq_true rfl)
    have CR99 := CR95.trans (CHr.wr W98 (own_safeV hZ.alike V94 (by decide)) CR95.1)
    have K98 : Keep h0 h98 [] := K94.wr W98 (Or.inr sz_b90)
    have N98F := Fr.snoc X98 N96 g_b90
    obtain ⟨T100, h100, X100, e100, E100, A100, D100, -, st100⟩ := newO X98 hx hZ hown (hw _ (List.mem_of_getElem? (i := 11) rfl)) (hw _ (List.mem_of_getElem? (i := 12) rfl)) (hw _ (List.mem_of_getElem? (i := 13) rfl)) e98 (g := (mkF m 51 #[.val (.int pa), .val (.int (2 : Int32)), .val (.ref b90)] [])) rfl (hb hby dMK_51) (by decide) (by decide)
    obtain ⟨b100, g100⟩ : ∃ z, z = h98.size := ⟨_, rfl⟩
    rw [← g100] at A100 D100 st100
    have lt_b90_b100 : b90 < b100 := Nat.lt_of_lt_of_le V98.lt (Nat.le_of_eq g100.symm)
    have g_b100 : n0 ≤ b100 := Nat.le_trans (Nat.le_trans Z0 K98.1) (Nat.le_of_eq g100.symm)
    have sz_b100 : h0.size ≤ b100 := Nat.le_trans K98.1 (Nat.le_of_eq g100.symm)
    have CR101 := CR99.trans (CHr.ext E100 CR99.1)
    have Sf100 : Safe Z own_EL _ h100 b100 := Safe.ext E100 CR99.1 (Safe.new (Nat.le_of_eq g100.symm))
    have K100 : Keep h0 h100 [] := K98.ext E100
    have F100_value : Fld Z h100 b100 "java/lang/String" "value" "[B" .null := D100 (Or.inr (hw _ (List.mem_of_getElem? (i := 27) rfl))) (ty := (.array .byte)) (by decide)
    have F100_coder : Fld Z h100 b100 "java/lang/String" "coder" "B" (.int (0 : Int32)) := D100 (Or.inr (hw _ (List.mem_of_getElem? (i := 28) rfl))) (ty := .byte) (by decide)
    have hws : ∀ d ∈ StrChars.Road.words, d.before a0 Z = true := fun d hd => hw d ((by decide +kernel : ∀ d ∈ StrChars.Road.words, d ∈ tables_1) d hd)
    have hp2 : ∀ c ∈ ([own_c0 pa, own_c1 pa] : List Int32), ¬ c < 0 ∧ ¬ (255 : Int32) < c := by
      intro c hc
      simp only [List.mem_cons, List.not_mem_nil, or_false] at hc
      rcases hc with rfl | rfl
      · exact own_c0L pa
      · exact own_c1L pa
    have f103 := V98.ext E100
    have Vca := f103
    rw [own_narc0, own_narc1] at Vca
    have f104 := X00.ext E90
    have f105 := f104.wr W94 g_b90
    have f106 := f105.wr W98 g_b90
    have f107 := f106.ext E100
    obtain ⟨_, _, ⟨T102, L102, k102, n102⟩, -, X102, ⟨Lc102, hQ102, l102, y102, z102⟩, st102⟩ := X100.specialBack hx (y := (⟨"java/lang/String", "<init>", "([C)V"⟩ : MethodName)) rfl hown (mvT hZ (hw _ (List.mem_of_getElem? (i := 15) rfl))) (mvT hZ (hw _ (List.mem_of_getElem? (i := 16) rfl))) (mvT hZ (hw _ (List.mem_of_getElem? (i := 17) rfl))) (by decide) (StrChars.Road.backV (W := 1) hZ hws (kI := 4) (hw _ (List.mem_of_getElem? (i := 12) rfl)) (cs := ([own_c0 pa, own_c1 pa] : List Int32)) (bs := (([own_c0 pa, own_c1 pa] : List Int32)).map (fun c => c.toInt8.toInt32)) (n := 2) g_b100 (Nat.le_trans Z0 K100.1) A100 F100_value F100_coder Vca (O2.ext f107.2) P5 rfl rfl (by decide) (by decide) hp2 rfl (by decide) (by decide)) (g := (mkF m 56 #[.val (.int pa), .val (.int (2 : Int32)), .val (.ref b90)] [(.ref b90), (.ref b100), (.ref b100)])) rfl (by rw [hml]; rfl) (Steps.refl _) (a := b100) (argsL := [(.ref b90)]) (rest := [(.ref b100)]) (lenOf pd_8 rfl) rfl (by show 2 * 0 + _ ≤ _; exact Nat.le_of_eq rfl) (hb hby dMK_56) (fun _ _ => ⟨rfl, e100, (by decide : 2 + 1 ≤ _), (by decide : 6 + 2 ≤ _)⟩)
    dsimp only [Pt.U, Pt.locs, Pt.cells, Pt.slots] at X102 l102 y102 z102 st102 hQ102
    rw [l102, y102, z102] at X102
    obtain ⟨hv102, Nq102, Kc102, Ex102, Fc102, st, kst, u644102, v644102, w644102, Fv102, Vt102⟩ := hQ102
    rw [hv102] at st102
    have K102 : Keep h0 T102.heap [] := K100.trans Kc102 (allS (P := fun x => x ∈ [] ∨ h0.size ≤ x) (Or.inr sz_b100) all0)
    have CR108 := CR101.trans (CHr.keep Kc102 (allS Sf100 all0) CR101.1)
    have Sf109 := Safe.keep Kc102 (allS Sf100 all0) CR101.1 Sf100
    have N102 := Fr.app N98F Nq102
    obtain ⟨fs, hr, hrun, hended, hWide⟩ := X102.leaveW (s := s) (vm₁ := s.vm) ((State.WarmedH.refl s).since 0) (Nat.zero_le _) (v := some (.ref b100)) (fun h => by rw [Bd.returns] at h; cases h)
    have hCe := CR108.trans (CHv.at (s := s) (vm0 := s.vm) X102 hZ (own_hEL Z a0 hw) CR108.1)
    refine ⟨_, _, ?_, hrun, hended, _, _, rfl, ?_, (by rw [hh]; exact hCe), hWide.1, hWide.2.1, hWide.2.2.1, hWide.2.2.2.mono (by decide) (by decide)⟩
    · refine R75 _ ?_
      show Steps _ _ _ (T74.setTop (mkF m 6 #[.val (.int pa), .val (.int (2 : Int32)), .unset] [(.int (2 : Int32))])) _
      refine XS.ifYes X74.here hx rfl (pc0 := 6) (pc' := 20) rfl (hb hby dMK_6) rfl (by decide) (by decide) (by decide) ?_
      refine XS.iloadN X74.here hx rfl (hb hby dMK_20) rfl ?_
      refine XS.iconst X74.here hx rfl (hb hby dMK_21) ?_
      refine XS.icmpYes X74.here hx rfl (pc0 := 22) (pc' := 33) rfl (hb hby dMK_22) rfl (by decide) (by decide) (by decide) ?_
      show Steps _ _ _ (T74.setTop (mkF m 33 #[.val (.int pa), .val (.int (2 : Int32)), .unset] [])) _
      refine XS.iconst X74.here hx rfl (hb hby dMK_33) ?_
      show Steps _ _ _ (T74.setTop (mkF m 34 #[.val (.int pa), .val (.int (2 : Int32)), .unset] [(.int (2 : Int32))])) _
      refine st90 _ ?_
      refine XS.astoreN X90.here hx rfl (hb hby dMK_36) rfl rfl (l' := #[.val (.int pa), .val (.int (2 : Int32)), .val (.ref b90)]) rfl ?_
      refine XS.aloadN X90.here hx rfl (hb hby dMK_37) rfl rfl ?_
      refine XS.iconst X90.here hx rfl (hb hby dMK_38) ?_
      show Steps _ _ _ (T90.setTop (mkF m 39 #[.val (.int pa), .val (.int (2 : Int32)), .val (.ref b90)] [(.int (0 : Int32)), (.ref b90)])) _
      refine XS.iloadN X90.here hx rfl (hb hby dMK_39) rfl ?_
      show Steps _ _ _ (T90.setTop (mkF m 40 #[.val (.int pa), .val (.int (2 : Int32)), .val (.ref b90)] [(.int pa), (.int (0 : Int32)), (.ref b90)])) _
      refine st92 _ ?_
      show Steps _ _ _ (T92.setTop (mkF m 43 #[.val (.int pa), .val (.int (2 : Int32)), .val (.ref b90)] [(.int (own_c0 pa)), (.int (0 : Int32)), (.ref b90)])) _
      refine st94 _ ?_
      refine XS.aloadN X94.here hx rfl (hb hby dMK_44) rfl rfl ?_
      refine XS.iconst X94.here hx rfl (hb hby dMK_45) ?_
      refine XS.iloadN X94.here hx rfl (hb hby dMK_46) rfl ?_
      show Steps _ _ _ (T94.setTop (mkF m 47 #[.val (.int pa), .val (.int (2 : Int32)), .val (.ref b90)] [(.int pa), (.int (1 : Int32)), (.ref b90)])) _
      refine st96 _ ?_
      show Steps _ _ _ (T96.setTop (mkF m 50 #[.val (.int pa), .val (.int (2 : Int32)), .val (.ref b90)] [(.int (own_c1 pa)), (.int (1 : Int32)), (.ref b90)])) _
      refine st98 _ ?_
      show Steps _ _ _ (T98.setTop (mkF m 51 #[.val (.int pa), .val (.int (2 : Int32)), .val (.ref b90)] [])) _
      refine st100 _ ?_
      refine XS.dup X100.here hx rfl (hb hby dMK_54) rfl rfl ?_
      refine XS.aloadN X100.here hx rfl (hb hby dMK_55) rfl rfl ?_
      show Steps _ _ _ (T100.setTop (mkF m 56 #[.val (.int pa), .val (.int (2 : Int32)), .val (.ref b90)] [(.ref b90), (.ref b100), (.ref b100)])) _
      refine st102.trans ?_
      show Steps _ _ _ (T102.setTop (mkF m 59 #[.val (.int pa), .val (.int (2 : Int32)), .val (.ref b90)] [(.ref b100)])) _
      jvm_step X102.here [X102.here.top, hx, (hb hby dMK_59), X102.method', Bd.returns, Value.isRef, FieldType.isReference]
      first | (intro acts; rw [hr _ acts rfl rfl rfl]) | rw [hr _ _ rfl rfl rfl]
      exact Steps.refl _
    · show QMK Z pa G1 h0 n0 _ T102.heap _
      exact ⟨b100, st, kst, rfl, N102, K102, Ex102, Fv102, Fc102, (by rw [hstr]; exact Vt102), sz_b100, g_b100⟩
theorem dEQ_0 : decode prog_14_method_5_code 0 = .ok (.aload_n 1, 1) := by decide +kernel
theorem dEQ_1 : decode prog_14_method_5_code 1 = .ok (.instanceof 8, 3) := by decide +kernel
theorem dEQ_4 : decode prog_14_method_5_code 4 = .ok (.ifCond .ne 5, 3) := by decide +kernel
theorem dEQ_7 : decode prog_14_method_5_code 7 = .ok (.iconst 0, 1) := by decide +kernel
theorem dEQ_8 : decode prog_14_method_5_code 8 = .ok (.ireturn, 1) := by decide +kernel
theorem ef_EN (m : MethodId) (x0 : Addr) : entryFrame m #[(.ref x0), .null] 3 = mkF m 0 #[.val (.ref x0), .val .null, .unset] [] := by first | (simp [entryFrame, mkF, argsToLocals, Value.category]; done) | rfl
def QEN (Z : State) (th : Addr) (h0 : Heap) (n0 : Nat) (v : Option Value) (h : Heap) (L : List Loc) : Prop := v = some (.int (0 : Int32)) ∧ Fr n0 L ∧ h = h0
set_option maxRecDepth 65536 in
set_option maxHeartbeats 40000000 in
theorem rmEN (l : Launch) (Z : State) (a0 : Array Value) (hw : ∀ d ∈ tables_1, d.before a0 Z = true) (ws : List Jvm.Cond) (th : Addr) (h0 : Heap) (n0 : Nat) (Z0 : n0 ≤ h0.size) :
    MetFree l (⟨"com/example/facetwise/facetwise/RankedResult", "equals", "(Ljava/lang/Object;)Z"⟩ : MethodName) (head1 (Jvm.Cond.code (⟨"com/example/facetwise/facetwise/RankedResult", "equals", "(Ljava/lang/Object;)Z"⟩ : MethodName) prog_14_method_5_code 3 (some .boolean) :: ws) ({ frames := 0, cells := 0, slots := 0, locals := 0 } : Room)) (fun a U => a = #[(.ref th), .null] ∧ Z.Warmed39 U.vm ∧ U.heap = h0) (fun _ _ _ _ _ => True) (fun _ U o U' => ∃ v L, o = .returned v ∧ QEN Z th h0 n0 v U'.heap L ∧ FrameEnd U o U' L ({ frames := 0, cells := 0, slots := 0, locals := 0 } : Room).cells ({ frames := 0, cells := 0, slots := 0, locals := 0 } : Room).slots) := by
  refine MetFree.of_bodySF (plainFor_of_name pn_com_example_facetwise_facetwise_RankedResult) hisR ?_
  intro p e s m args below meth c s₁ Bd hml0 hP hK
  obtain ⟨rfl, hZ, hh⟩ := hP
  have hx := Bd.exec
  have hby := Bd.bytes
  have hml : c.maxLocals = 3 := hml0
  have hown : s.vm.findClass "com/example/facetwise/facetwise/RankedResult" = some m.cls := findClass_of_methodNamed Bd.named
  have hnm := (name_of_methodNamed Bd.named Bd.method).1
  have X0 : Stand p l e ({ frames := 0, cells := 0, slots := 0, locals := 0 } : Room) s m #[(.ref th), .null] below meth c s₁ [] 0 0 := Stand.of_body Bd
  have e0 : s₁.heap = h0 := by rw [← hh, Bd.state]; rfl
  have N0 := Fr.nil n0
  have K0 : Keep h0 h0 [] := Keep.refl h0 []
  have pre0 : ∀ t, Steps p.tables e below (s₁.setTop (mkF m 0 #[.val (.ref th), .val .null, .unset] [])) t → Steps p.tables e below (s₁.setTop (entryFrame m #[(.ref th), .null] 3)) t := fun t k => castTop (ef_EN m th) k
  obtain ⟨fs, hr, hrun, hended, hW, hsame⟩ := X0.leave (v := some (.int (0 : Int32))) (fun h => by rw [Bd.returns] at h; cases h)
  refine ⟨_, _, ?_, hrun, hended, _, _, rfl, ?_, ⟨_, rfl⟩, hW, hsame.mono (by decide) (by decide)⟩
  · refine pre0 _ ?_
    show Steps _ _ _ (s₁.setTop (mkF m 0 #[.val (.ref th), .val .null, .unset] [])) _
    refine XS.aloadN X0.here hx rfl (hb hby dEQ_0) rfl rfl ?_
    show Steps _ _ _ (s₁.setTop (mkF m 1 #[.val (.ref th), .val .null, .unset] [.null])) _
    refine X0.instanceofNull hx (g := (mkF m 1 #[.val (.ref th), .val .null, .unset] [.null])) rfl rfl (hb hby dEQ_1) _ ?_
    refine XS.ifNo X0.here hx rfl (hb hby dEQ_4) rfl (by decide) ?_
    refine XS.iconst X0.here hx rfl (hb hby dEQ_7) ?_
    show Steps _ _ _ (s₁.setTop (mkF m 8 #[.val (.ref th), .val .null, .unset] [(.int (0 : Int32))])) _
    exact retN X0 hx (t := .boolean) Bd.returns (by simp) (hb hby dEQ_8) hr
  · show QEN Z th h0 n0 _ s₁.heap _
    rw [e0]
    exact ⟨rfl, N0, rfl⟩
theorem ef_ES (m : MethodId) (x0 : Addr) (x1 : Addr) : entryFrame m #[(.ref x0), (.ref x1)] 3 = mkF m 0 #[.val (.ref x0), .val (.ref x1), .unset] [] := by first | (simp [entryFrame, mkF, argsToLocals, Value.category]; done) | rfl
def QES (Z : State) (th : Addr) (ob : Addr) (h0 : Heap) (n0 : Nat) (v : Option Value) (h : Heap) (L : List Loc) : Prop := v = some (.int (0 : Int32)) ∧ Fr n0 L ∧ h = h0
set_option maxRecDepth 65536 in
set_option maxHeartbeats 40000000 in
theorem rmES (l : Launch) (Z : State) (a0 : Array Value) (hw : ∀ d ∈ tables_1, d.before a0 Z = true) (ws : List Jvm.Cond) (th : Addr) (ob : Addr) (h0 : Heap) (n0 : Nat) (Z0 : n0 ≤ h0.size) (E_ob : Exa Z h0 ob "java/lang/String") :
    MetFree l (⟨"com/example/facetwise/facetwise/RankedResult", "equals", "(Ljava/lang/Object;)Z"⟩ : MethodName) (head1 (Jvm.Cond.code (⟨"com/example/facetwise/facetwise/RankedResult", "equals", "(Ljava/lang/Object;)Z"⟩ : MethodName) prog_14_method_5_code 3 (some .boolean) :: ws) ({ frames := 0, cells := 0, slots := 0, locals := 0 } : Room)) (fun a U => a = #[(.ref th), (.ref ob)] ∧ Z.Warmed39 U.vm ∧ U.heap = h0) (fun _ _ _ _ _ => True) (fun _ U o U' => ∃ v L, o = .returned v ∧ QES Z th ob h0 n0 v U'.heap L ∧ FrameEnd U o U' L ({ frames := 0, cells := 0, slots := 0, locals := 0 } : Room).cells ({ frames := 0, cells := 0, slots := 0, locals := 0 } : Room).slots) := by
  refine MetFree.of_bodySF (plainFor_of_name pn_com_example_facetwise_facetwise_RankedResult) hisR ?_
  intro p e s m args below meth c s₁ Bd hml0 hP hK
  obtain ⟨rfl, hZ, hh⟩ := hP
  have hx := Bd.exec
  have hby := Bd.bytes
  have hml : c.maxLocals = 3 := hml0
  have hown : s.vm.findClass "com/example/facetwise/facetwise/RankedResult" = some m.cls := findClass_of_methodNamed Bd.named
  have hnm := (name_of_methodNamed Bd.named Bd.method).1
  have X0 : Stand p l e ({ frames := 0, cells := 0, slots := 0, locals := 0 } : Room) s m #[(.ref th), (.ref ob)] below meth c s₁ [] 0 0 := Stand.of_body Bd
  have e0 : s₁.heap = h0 := by rw [← hh, Bd.state]; rfl
  have N0 := Fr.nil n0
  have K0 : Keep h0 h0 [] := Keep.refl h0 []
  have pre0 : ∀ t, Steps p.tables e below (s₁.setTop (mkF m 0 #[.val (.ref th), .val (.ref ob), .unset] [])) t → Steps p.tables e below (s₁.setTop (entryFrame m #[(.ref th), (.ref ob)] 3)) t := fun t k => castTop (ef_ES m th ob) k
  obtain ⟨T110, X110, e110, st110⟩ := instNo X0 hx hZ hown (hw _ (List.mem_of_getElem? (i := 51) rfl)) e0 E_ob (own_no Z a0 hw) (g := (mkF m 1 #[.val (.ref th), .val (.ref ob), .unset] [(.ref ob)])) rfl rfl (hb hby dEQ_1)
  obtain ⟨fs, hr, hrun, hended, hW, hsame⟩ := X110.leave (v := some (.int (0 : Int32))) (fun h => by rw [Bd.returns] at h; cases h)
  refine ⟨_, _, ?_, hrun, hended, _, _, rfl, ?_, ⟨_, rfl⟩, hW, hsame.mono (by decide) (by decide)⟩
  · refine pre0 _ ?_
    show Steps _ _ _ (s₁.setTop (mkF m 0 #[.val (.ref th), .val (.ref ob), .unset] [])) _
    refine XS.aloadN X0.here hx rfl (hb hby dEQ_0) rfl rfl ?_
    show Steps _ _ _ (s₁.setTop (mkF m 1 #[.val (.ref th), .val (.ref ob), .unset] [(.ref ob)])) _
    refine st110 _ ?_
    refine XS.ifNo X110.here hx rfl (hb hby dEQ_4) rfl (by decide) ?_
    refine XS.iconst X110.here hx rfl (hb hby dEQ_7) ?_
    show Steps _ _ _ (T110.setTop (mkF m 8 #[.val (.ref th), .val (.ref ob), .unset] [(.int (0 : Int32))])) _
    exact retN X110 hx (t := .boolean) Bd.returns (by simp) (hb hby dEQ_8) hr
  · show QES Z th ob h0 n0 _ T110.heap _
    rw [e110]
    exact ⟨rfl, N0, rfl⟩
theorem dEQ_9 : decode prog_14_method_5_code 9 = .ok (.aload_n 1, 1) := by decide +kernel
theorem dEQ_10 : decode prog_14_method_5_code 10 = .ok (.checkcast 8, 3) := by decide +kernel
theorem dEQ_13 : decode prog_14_method_5_code 13 = .ok (.astore_n 2, 1) := by decide +kernel
theorem dEQ_14 : decode prog_14_method_5_code 14 = .ok (.aload_n 0, 1) := by decide +kernel
theorem dEQ_15 : decode prog_14_method_5_code 15 = .ok (.getfield 7, 3) := by decide +kernel
theorem dEQ_18 : decode prog_14_method_5_code 18 = .ok (.aload_n 2, 1) := by decide +kernel
theorem dEQ_19 : decode prog_14_method_5_code 19 = .ok (.getfield 7, 3) := by decide +kernel
theorem dEQ_22 : decode prog_14_method_5_code 22 = .ok (.invokevirtual 21, 3) := by decide +kernel
theorem pd_11 : parseMethodDescriptor "(Ljava/lang/Object;)Z" = some ⟨[(.object "java/lang/Object")], some .boolean⟩ := by decide +kernel
theorem dEQ_25 : decode prog_14_method_5_code 25 = .ok (.ifCond .eq 32, 3) := by decide +kernel
theorem dEQ_28 : decode prog_14_method_5_code 28 = .ok (.aload_n 0, 1) := by decide +kernel
theorem dEQ_29 : decode prog_14_method_5_code 29 = .ok (.getfield 13, 3) := by decide +kernel
theorem dEQ_32 : decode prog_14_method_5_code 32 = .ok (.aload_n 2, 1) := by decide +kernel
theorem dEQ_33 : decode prog_14_method_5_code 33 = .ok (.getfield 13, 3) := by decide +kernel
theorem dEQ_36 : decode prog_14_method_5_code 36 = .ok (.if_icmp .ne 21, 3) := by decide +kernel
theorem dEQ_39 : decode prog_14_method_5_code 39 = .ok (.aload_n 0, 1) := by decide +kernel
theorem dEQ_40 : decode prog_14_method_5_code 40 = .ok (.getfield 17, 3) := by decide +kernel
theorem dEQ_43 : decode prog_14_method_5_code 43 = .ok (.aload_n 2, 1) := by decide +kernel
theorem dEQ_44 : decode prog_14_method_5_code 44 = .ok (.getfield 17, 3) := by decide +kernel
theorem dEQ_47 : decode prog_14_method_5_code 47 = .ok (.invokestatic 27, 3) := by decide +kernel
theorem pd_12 : parseMethodDescriptor "(DD)I" = some ⟨[.double, .double], some .int⟩ := by decide +kernel
theorem dEQ_50 : decode prog_14_method_5_code 50 = .ok (.ifCond .ne 7, 3) := by decide +kernel
theorem dEQ_53 : decode prog_14_method_5_code 53 = .ok (.iconst 1, 1) := by decide +kernel
theorem dEQ_54 : decode prog_14_method_5_code 54 = .ok (.goto 4, 3) := by decide +kernel
theorem dEQ_58 : decode prog_14_method_5_code 58 = .ok (.ireturn, 1) := by decide +kernel
theorem dEQ_57 : decode prog_14_method_5_code 57 = .ok (.iconst 0, 1) := by decide +kernel
theorem ef_EQ (m : MethodId) (x0 : Addr) (x1 : Addr) : entryFrame m #[(.ref x0), (.ref x1)] 3 = mkF m 0 #[.val (.ref x0), .val (.ref x1), .unset] [] := by first | (simp [entryFrame, mkF, argsToLocals, Value.category]; done) | rfl
def QEQ (Z : State) (o1 : Addr) (o2 : Addr) (G1 : Int32) (s1 : Addr) (t1 : Addr) (kt1 : ClassId) (q1 : Int32) (rk1 : Int32) (ut1 : UInt64) (s2 : Addr) (t2 : Addr) (kt2 : ClassId) (q2 : Int32) (rk2 : Int32) (ut2 : UInt64) (h0 : Heap) (n0 : Nat) (v : Option Value) (h : Heap) (L : List Loc) : Prop := v = some (.int (if own_str q1 = own_str q2 ∧ rk1 = rk2 ∧ ut1 = ut2 then (1 : Int32) else 0)) ∧ Fr n0 L ∧ h = h0
set_option maxRecDepth 65536 in
set_option maxHeartbeats 40000000 in
theorem rmEQ (l : Launch) (Z : State) (a0 : Array Value) (hw : ∀ d ∈ tables_1, d.before a0 Z = true) (ws : List Jvm.Cond) (o1 : Addr) (o2 : Addr) (G1 : Int32) (s1 : Addr) (t1 : Addr) (kt1 : ClassId) (q1 : Int32) (rk1 : Int32) (ut1 : UInt64) (s2 : Addr) (t2 : Addr) (kt2 : ClassId) (q2 : Int32) (rk2 : Int32) (ut2 : UInt64) (h0 : Heap) (n0 : Nat) (Z0 : n0 ≤ h0.size) (O2 : Sta Z Z.heap "java/lang/String" "COMPACT_STRINGS" "Z" (.int G1)) (P5 : ¬ (G1 = (0 : Int32))) (X00 : Old Z n0 h0) (E_o1 : Exa Z h0 o1 "com/example/facetwise/facetwise/RankedResult") (F_o1_id : Fld Z h0 o1 "com/example/facetwise/facetwise/RankedResult" "id" "Ljava/lang/String;" (.ref s1)) (F_o1_rk : Fld Z h0 o1 "com/example/facetwise/facetwise/RankedResult" "rank" "I" (.int rk1)) (F_o1_ut : Fld Z h0 o1 "com/example/facetwise/facetwise/RankedResult" "utility" "D" (.double ut1)) (E_s1 : Exa Z h0 s1 "java/lang/String") (F_s1_v : Fld Z h0 s1 "java/lang/String" "value" "[B" (.ref t1)) (F_s1_c : Fld Z h0 s1 "java/lang/String" "coder" "B" (.int (0 : Int32))) (V_t1 : Arv Z h0 t1 kt1 .byte (Int32.ofNat (own_str q1).length) (((own_str q1).map StrChars.lo8).map Value.int) (.int (0 : Int32))) (NN1 : Jvm.Free.Fl.NoNaN64 ut1) (E_o2 : Exa Z h0 o2 "com/example/facetwise/facetwise/RankedResult") (F_o2_id : Fld Z h0 o2 "com/example/facetwise/facetwise/RankedResult" "id" "Ljava/lang/String;" (.ref s2)) (F_o2_rk : Fld Z h0 o2 "com/example/facetwise/facetwise/RankedResult" "rank" "I" (.int rk2)) (F_o2_ut : Fld Z h0 o2 "com/example/facetwise/facetwise/RankedResult" "utility" "D" (.double ut2)) (E_s2 : Exa Z h0 s2 "java/lang/String") (F_s2_v : Fld Z h0 s2 "java/lang/String" "value" "[B" (.ref t2)) (F_s2_c : Fld Z h0 s2 "java/lang/String" "coder" "B" (.int (0 : Int32))) (V_t2 : Arv Z h0 t2 kt2 .byte (Int32.ofNat (own_str q2).length) (((own_str q2).map StrChars.lo8).map Value.int) (.int (0 : Int32))) (NN2 : Jvm.Free.Fl.NoNaN64 ut2) :
    MetFree l (⟨"com/example/facetwise/facetwise/RankedResult", "equals", "(Ljava/lang/Object;)Z"⟩ : MethodName) (head1 (Jvm.Cond.code (⟨"com/example/facetwise/facetwise/RankedResult", "equals", "(Ljava/lang/Object;)Z"⟩ : MethodName) prog_14_method_5_code 3 (some .boolean) :: ws) ({ frames := 3, cells := 0, slots := 0, locals := 47 } : Room)) (fun a U => a = #[(.ref o1), (.ref o2)] ∧ Z.Warmed39 U.vm ∧ U.heap = h0) (fun _ _ _ _ _ => True) (fun _ U o U' => ∃ v L, o = .returned v ∧ QEQ Z o1 o2 G1 s1 t1 kt1 q1 rk1 ut1 s2 t2 kt2 q2 rk2 ut2 h0 n0 v U'.heap L ∧ FrameEnd U o U' L ({ frames := 3, cells := 0, slots := 0, locals := 47 } : Room).cells ({ frames := 3, cells := 0, slots := 0, locals := 47 } : Room).slots) := by
  refine MetFree.of_bodySF (plainFor_of_name pn_com_example_facetwise_facetwise_RankedResult) hisR ?_
  intro p e s m args below meth c s₁ Bd hml0 hP hK
  obtain ⟨rfl, hZ, hh⟩ := hP
  have hx := Bd.exec
  have hby := Bd.bytes
  have hml : c.maxLocals = 3 := hml0
  have hown : s.vm.findClass "com/example/facetwise/facetwise/RankedResult" = some m.cls := findClass_of_methodNamed Bd.named
  have hnm := (name_of_methodNamed Bd.named Bd.method).1
  have X0 : Stand p l e ({ frames := 3, cells := 0, slots := 0, locals := 47 } : Room) s m #[(.ref o1), (.ref o2)] below meth c s₁ [] 0 0 := Stand.of_body Bd
  have e0 : s₁.heap = h0 := by rw [← hh, Bd.state]; rfl
  have N0 := Fr.nil n0
  have K0 : Keep h0 h0 [] := Keep.refl h0 []
  have pre0 : ∀ t, Steps p.tables e below (s₁.setTop (mkF m 0 #[.val (.ref o1), .val (.ref o2), .unset] [])) t → Steps p.tables e below (s₁.setTop (entryFrame m #[(.ref o1), (.ref o2)] 3)) t := fun t k => castTop (ef_EQ m o1 o2) k
  obtain ⟨T111, X111, e111, st111⟩ := instY X0 hx hZ hown (hw _ (List.mem_of_getElem? (i := 51) rfl)) e0 (Ins.self E_o2) (g := (mkF m 1 #[.val (.ref o1), .val (.ref o2), .unset] [(.ref o2)])) rfl rfl (hb hby dEQ_1)
  obtain ⟨T112, X112, e112, st112⟩ := castY X111 hx hZ hown (hw _ (List.mem_of_getElem? (i := 51) rfl)) e111 (Ins.self E_o2) (g := (mkF m 10 #[.val (.ref o1), .val (.ref o2), .unset] [(.ref o2)])) rfl rfl (hb hby dEQ_10)
  obtain ⟨T113, X113, e113, st113⟩ := getF X112 hx hZ hown (host := "") (Or.inl (hw _ (List.mem_of_getElem? (i := 40) rfl))) Via.refl e112 F_o1_id (g := (mkF m 15 #[.val (.ref o1), .val (.ref o2), .val (.ref o2)] [(.ref o1)])) rfl rfl (hb hby dEQ_15)
  obtain ⟨T114, X114, e114, st114⟩ := getF X113 hx hZ hown (host := "") (Or.inl (hw _ (List.mem_of_getElem? (i := 40) rfl))) Via.refl e113 F_o2_id (g := (mkF m 19 #[.val (.ref o1), .val (.ref o2), .val (.ref o2)] [(.ref o2), (.ref s1)])) rfl rfl (hb hby dEQ_19)
  have hwe : ∀ d ∈ StrChars.Road.wordsEq, d.before a0 Z = true := fun d hd => hw d ((by decide +kernel : ∀ d ∈ StrChars.Road.wordsEq, d ∈ tables_1) d hd)
  obtain ⟨cq115, kq115, q115a, q115b, q115c⟩ := isOf hZ e114 E_s1
  obtain ⟨v115, _, ⟨T115, L115, k115, n115⟩, -, X115, ⟨Lc115, hQ115, l115, y115, z115⟩, st115⟩ := X114.virtualBack hx (y := (⟨"java/lang/String", "equals", "(Ljava/lang/Object;)Z"⟩ : MethodName)) (z := (⟨"java/lang/String", "equals", "(Ljava/lang/Object;)Z"⟩ : MethodName)) hown (mvT hZ (hw _ (List.mem_of_getElem? (i := 53) rfl))) (mvT hZ (hw _ (List.mem_of_getElem? (i := 54) rfl))) (notFace_of_selects (args := #[]) (mvT hZ (hw _ (List.mem_of_getElem? (i := 56) rfl)))) (mvT hZ (hw _ (List.mem_of_getElem? (i := 56) rfl))) (mvT hZ (hw _ (List.mem_of_getElem? (i := 55) rfl))) (by decide) (StrChars.Road.eqW (W := 0) hZ hwe (kI := 4) (hw _ (List.mem_of_getElem? (i := 12) rfl)) E_s1 F_s1_v F_s1_c V_t1 (own_strC q1) (own_strU q1) (own_strN q1) E_s2 F_s2_v F_s2_c V_t2 (own_strC q2) (own_strU q2) (own_strN q2) (O2.ext X00.2) P5 (by decide) (by decide)) q115a q115c (g := (mkF m 22 #[.val (.ref o1), .val (.ref o2), .val (.ref o2)] [(.ref s2), (.ref s1)])) rfl (by rw [hml]; rfl) (Steps.refl _) (argsL := [(.ref s2)]) (rest := []) (lenOf pd_11 rfl) rfl (by show 2 * 0 + _ ≤ _; exact Nat.le_of_eq rfl) (hb hby dEQ_22) (fun _ _ => ⟨rfl, e114, (by decide : 0 + 0 ≤ _), (by decide : 0 + 0 ≤ _)⟩)
  dsimp only [Pt.U, Pt.locs, Pt.cells, Pt.slots] at X115 l115 y115 z115 st115 hQ115
  rw [l115, y115, z115] at X115
  obtain ⟨hd115, rfl, eq115⟩ := hQ115
  have Nq115 := Fr.nil n0
  have N115 := Fr.app N0 Nq115
  rcases hd115 with ⟨rfl, hcs⟩ | ⟨rfl, hcs⟩
  ·
    obtain ⟨T116, X116, e116, st116⟩ := getF X115 hx hZ hown (host := "") (Or.inl (hw _ (List.mem_of_getElem? (i := 42) rfl))) Via.refl eq115 F_o1_rk (g := (mkF m 29 #[.val (.ref o1), .val (.ref o2), .val (.ref o2)] [(.ref o1)])) rfl rfl (hb hby dEQ_29)
    obtain ⟨T117, X117, e117, st117⟩ := getF X116 hx hZ hown (host := "") (Or.inl (hw _ (List.mem_of_getElem? (i := 42) rfl))) Via.refl e116 F_o2_rk (g := (mkF m 33 #[.val (.ref o1), .val (.ref o2), .val (.ref o2)] [(.ref o2), (.int rk1)])) rfl rfl (hb hby dEQ_33)
    have R118 : ∀ t, Steps p.tables e below (T117.setTop (mkF m 36 #[.val (.ref o1), .val (.ref o2), .val (.ref o2)] [(.int rk2), (.int rk1)])) t → Steps p.tables e below (s₁.setTop (entryFrame m #[(.ref o1), (.ref o2)] 3)) t := by
      intro t kt
      refine pre0 _ ?_
      show Steps _ _ _ (s₁.setTop (mkF m 0 #[.val (.ref o1), .val (.ref o2), .unset] [])) _
      refine XS.aloadN X0.here hx rfl (hb hby dEQ_0) rfl rfl ?_
      show Steps _ _ _ (s₁.setTop (mkF m 1 #[.val (.ref o1), .val (.ref o2), .unset] [(.ref o2)])) _
      refine st111 _ ?_
      refine XS.ifYes X111.here hx rfl (pc0 := 4) (pc' := 9) rfl (hb hby dEQ_4) rfl (by decide) (by decide) (by decide) ?_
      refine XS.aloadN X111.here hx rfl (hb hby dEQ_9) rfl rfl ?_
      show Steps _ _ _ (T111.setTop (mkF m 10 #[.val (.ref o1), .val (.ref o2), .unset] [(.ref o2)])) _
      refine st112 _ ?_
      refine XS.astoreN X112.here hx rfl (hb hby dEQ_13) rfl rfl (l' := #[.val (.ref o1), .val (.ref o2), .val (.ref o2)]) rfl ?_
      refine XS.aloadN X112.here hx rfl (hb hby dEQ_14) rfl rfl ?_
      show Steps _ _ _ (T112.setTop (mkF m 15 #[.val (.ref o1), .val (.ref o2), .val (.ref o2)] [(.ref o1)])) _
      refine st113 _ ?_
      refine XS.aloadN X113.here hx rfl (hb hby dEQ_18) rfl rfl ?_
      show Steps _ _ _ (T113.setTop (mkF m 19 #[.val (.ref o1), .val (.ref o2), .val (.ref o2)] [(.ref o2), (.ref s1)])) _
      refine st114 _ ?_
      show Steps _ _ _ (T114.setTop (mkF m 22 #[.val (.ref o1), .val (.ref o2), .val (.ref o2)] [(.ref s2), (.ref s1)])) _
      refine st115.trans ?_
      show Steps _ _ _ (T115.setTop (mkF m 25 #[.val (.ref o1), .val (.ref o2), .val (.ref o2)] [(.int (1 : Int32))])) _
      refine XS.ifNo X115.here hx rfl (hb hby dEQ_25) rfl (by decide) ?_
      refine XS.aloadN X115.here hx rfl (hb hby dEQ_28) rfl rfl ?_
      show Steps _ _ _ (T115.setTop (mkF m 29 #[.val (.ref o1), .val (.ref o2), .val (.ref o2)] [(.ref o1)])) _
      refine st116 _ ?_
      refine XS.aloadN X116.here hx rfl (hb hby dEQ_32) rfl rfl ?_
      show Steps _ _ _ (T116.setTop (mkF m 33 #[.val (.ref o1), .val (.ref o2), .val (.ref o2)] [(.ref o2), (.int rk1)])) _
      refine st117 _ ?_
      show Steps _ _ _ (T117.setTop (mkF m 36 #[.val (.ref o1), .val (.ref o2), .val (.ref o2)] [(.int rk2), (.int rk1)])) _
      exact kt
    by_cases hrk : rk1 = rk2
    ·
      obtain ⟨T119, X119, e119, st119⟩ := getF X117 hx hZ hown (host := "") (Or.inl (hw _ (List.mem_of_getElem? (i := 44) rfl))) Via.refl e117 F_o1_ut (g := (mkF m 40 #[.val (.ref o1), .val (.ref o2), .val (.ref o2)] [(.ref o1)])) rfl rfl (hb hby dEQ_40)
      obtain ⟨T120, X120, e120, st120⟩ := getF X119 hx hZ hown (host := "") (Or.inl (hw _ (List.mem_of_getElem? (i := 44) rfl))) Via.refl e119 F_o2_ut (g := (mkF m 44 #[.val (.ref o1), .val (.ref o2), .val (.ref o2)] [(.ref o2), (.double ut1)])) rfl rfl (hb hby dEQ_44)
      obtain ⟨_, _, ⟨T121, L121, k121, n121⟩, -, X121, ⟨Lc121, hQ121, l121, y121, z121⟩, st121⟩ := Jvm.LawKit.callS X120 hx (y := (⟨"java/lang/Double", "compare", "(DD)I"⟩ : MethodName)) hown (mvT hZ (hw _ (List.mem_of_getElem? (i := 64) rfl))) (mvT hZ (hw _ (List.mem_of_getElem? (i := 65) rfl))) (mvT hZ (hw _ (List.mem_of_getElem? (i := 66) rfl))) (mvT hZ (hw _ (List.mem_of_getElem? (i := 67) rfl))) (by decide) (backOf (W := 0) (rmCM l Z a0 hw [] ut1 ut2 h0 n0 (Nat.le_trans Z0 K0.1) NN1 NN2) hZ (hw _ (List.mem_of_getElem? (i := 67) rfl)) (hw _ (List.mem_of_getElem? (i := 66) rfl)) (by decide) (by decide)) (g := (mkF m 47 #[.val (.ref o1), .val (.ref o2), .val (.ref o2)] [(.double ut2), (.double ut1)])) rfl (by rw [hml]; rfl) (argsL := [(.double ut1), (.double ut2)]) (rest := []) (lenOf pd_12 rfl) rfl (by show 2 * 0 + _ ≤ _; exact Nat.le_of_eq rfl) (hb hby dEQ_47) (fun _ _ => ⟨rfl, e120, (by decide : 0 + 0 ≤ _), (by decide : 0 + 0 ≤ _)⟩)
      dsimp only [Pt.U, Pt.locs, Pt.cells, Pt.slots] at X121 l121 y121 z121 st121 hQ121
      rw [l121, y121, z121] at X121
      obtain ⟨hv121, Nq121, eq121⟩ := hQ121
      rw [hv121] at st121
      have N121 := Fr.app N115 Nq121
      have R122 : ∀ t, Steps p.tables e below (T121.setTop (mkF m 50 #[.val (.ref o1), .val (.ref o2), .val (.ref o2)] [(.int (own_cmp ut1 ut2))])) t → Steps p.tables e below (s₁.setTop (entryFrame m #[(.ref o1), (.ref o2)] 3)) t := by
        intro t kt
        refine R118 _ ?_
        show Steps _ _ _ (T117.setTop (mkF m 36 #[.val (.ref o1), .val (.ref o2), .val (.ref o2)] [(.int rk2), (.int rk1)])) _
        refine XS.icmpNo X117.here hx rfl (hb hby dEQ_36) rfl (teq hrk).2 ?_
        refine XS.aloadN X117.here hx rfl (hb hby dEQ_39) rfl rfl ?_
        show Steps _ _ _ (T117.setTop (mkF m 40 #[.val (.ref o1), .val (.ref o2), .val (.ref o2)] [(.ref o1)])) _
        refine st119 _ ?_
        refine XS.aloadN X119.here hx rfl (hb hby dEQ_43) rfl rfl ?_
        show Steps _ _ _ (T119.setTop (mkF m 44 #[.val (.ref o1), .val (.ref o2), .val (.ref o2)] [(.ref o2), (.double ut1)])) _
        refine st120 _ ?_
        show Steps _ _ _ (T120.setTop (mkF m 47 #[.val (.ref o1), .val (.ref o2), .val (.ref o2)] [(.double ut2), (.double ut1)])) _
        refine st121 _ ?_
        show Steps _ _ _ (T121.setTop (mkF m 50 #[.val (.ref o1), .val (.ref o2), .val (.ref o2)] [(.int (own_cmp ut1 ut2))])) _
        exact kt
      by_cases hut : ut1 = ut2
      ·
        obtain ⟨fs, hr, hrun, hended, hW, hsame⟩ := X121.leave (v := some (.int (1 : Int32))) (fun h => by rw [Bd.returns] at h; cases h)
        refine ⟨_, _, ?_, hrun, hended, _, _, rfl, ?_, ⟨_, rfl⟩, hW, hsame.mono (by decide) (by decide)⟩
        · refine R122 _ ?_
          show Steps _ _ _ (T121.setTop (mkF m 50 #[.val (.ref o1), .val (.ref o2), .val (.ref o2)] [(.int (own_cmp ut1 ut2))])) _
          refine XS.ifNo X121.here hx rfl (hb hby dEQ_50) rfl ((if0 _ _).trans (teq ((own_cmp0 NN1).mpr hut)).2) ?_
          refine XS.iconst X121.here hx rfl (hb hby dEQ_53) ?_
          refine XS.goto X121.here hx rfl (pc0 := 54) (pc' := 58) rfl (hb hby dEQ_54) (by decide) (by decide) ?_
          show Steps _ _ _ (T121.setTop (mkF m 58 #[.val (.ref o1), .val (.ref o2), .val (.ref o2)] [(.int (1 : Int32))])) _
          exact retN X121 hx (t := .boolean) Bd.returns (by simp) (hb hby dEQ_58) hr
        · show QEQ Z o1 o2 G1 s1 t1 kt1 q1 rk1 ut1 s2 t2 kt2 q2 rk2 ut2 h0 n0 _ T121.heap _
          rw [eq121]
          exact ⟨by rw [if_pos ⟨hcs, hrk, hut⟩], N121, rfl⟩
      ·
        obtain ⟨fs, hr, hrun, hended, hW, hsame⟩ := X121.leave (v := some (.int (0 : Int32))) (fun h => by rw [Bd.returns] at h; cases h)
        refine ⟨_, _, ?_, hrun, hended, _, _, rfl, ?_, ⟨_, rfl⟩, hW, hsame.mono (by decide) (by decide)⟩
        · refine R122 _ ?_
          show Steps _ _ _ (T121.setTop (mkF m 50 #[.val (.ref o1), .val (.ref o2), .val (.ref o2)] [(.int (own_cmp ut1 ut2))])) _
          refine XS.ifYes X121.here hx rfl (pc0 := 50) (pc' := 57) rfl (hb hby dEQ_50) rfl ((if0 _ _).trans (feq (fun q => hut ((own_cmp0 NN1).mp q))).2) (by decide) (by decide) ?_
          refine XS.iconst X121.here hx rfl (hb hby dEQ_57) ?_
          show Steps _ _ _ (T121.setTop (mkF m 58 #[.val (.ref o1), .val (.ref o2), .val (.ref o2)] [(.int (0 : Int32))])) _
          exact retN X121 hx (t := .boolean) Bd.returns (by simp) (hb hby dEQ_58) hr
        · show QEQ Z o1 o2 G1 s1 t1 kt1 q1 rk1 ut1 s2 t2 kt2 q2 rk2 ut2 h0 n0 _ T121.heap _
          rw [eq121]
          exact ⟨by rw [if_neg (fun q => hut q.2.2)], N121, rfl⟩
    ·
      obtain ⟨fs, hr, hrun, hended, hW, hsame⟩ := X117.leave (v := some (.int (0 : Int32))) (fun h => by rw [Bd.returns] at h; cases h)
      refine ⟨_, _, ?_, hrun, hended, _, _, rfl, ?_, ⟨_, rfl⟩, hW, hsame.mono (by decide) (by decide)⟩
      · refine R118 _ ?_
        show Steps _ _ _ (T117.setTop (mkF m 36 #[.val (.ref o1), .val (.ref o2), .val (.ref o2)] [(.int rk2), (.int rk1)])) _
        refine XS.icmpYes X117.here hx rfl (pc0 := 36) (pc' := 57) rfl (hb hby dEQ_36) rfl (feq hrk).2 (by decide) (by decide) ?_
        refine XS.iconst X117.here hx rfl (hb hby dEQ_57) ?_
        show Steps _ _ _ (T117.setTop (mkF m 58 #[.val (.ref o1), .val (.ref o2), .val (.ref o2)] [(.int (0 : Int32))])) _
        exact retN X117 hx (t := .boolean) Bd.returns (by simp) (hb hby dEQ_58) hr
      · show QEQ Z o1 o2 G1 s1 t1 kt1 q1 rk1 ut1 s2 t2 kt2 q2 rk2 ut2 h0 n0 _ T117.heap _
        rw [e117]
        exact ⟨by rw [if_neg (fun q => hrk q.2.1)], N115, rfl⟩
  ·
    obtain ⟨fs, hr, hrun, hended, hW, hsame⟩ := X115.leave (v := some (.int (0 : Int32))) (fun h => by rw [Bd.returns] at h; cases h)
    refine ⟨_, _, ?_, hrun, hended, _, _, rfl, ?_, ⟨_, rfl⟩, hW, hsame.mono (by decide) (by decide)⟩
    · refine pre0 _ ?_
      show Steps _ _ _ (s₁.setTop (mkF m 0 #[.val (.ref o1), .val (.ref o2), .unset] [])) _
      refine XS.aloadN X0.here hx rfl (hb hby dEQ_0) rfl rfl ?_
      show Steps _ _ _ (s₁.setTop (mkF m 1 #[.val (.ref o1), .val (.ref o2), .unset] [(.ref o2)])) _
      refine st111 _ ?_
      refine XS.ifYes X111.here hx rfl (pc0 := 4) (pc' := 9) rfl (hb hby dEQ_4) rfl (by decide) (by decide) (by decide) ?_
      refine XS.aloadN X111.here hx rfl (hb hby dEQ_9) rfl rfl ?_
      show Steps _ _ _ (T111.setTop (mkF m 10 #[.val (.ref o1), .val (.ref o2), .unset] [(.ref o2)])) _
      refine st112 _ ?_
      refine XS.astoreN X112.here hx rfl (hb hby dEQ_13) rfl rfl (l' := #[.val (.ref o1), .val (.ref o2), .val (.ref o2)]) rfl ?_
      refine XS.aloadN X112.here hx rfl (hb hby dEQ_14) rfl rfl ?_
      show Steps _ _ _ (T112.setTop (mkF m 15 #[.val (.ref o1), .val (.ref o2), .val (.ref o2)] [(.ref o1)])) _
      refine st113 _ ?_
      refine XS.aloadN X113.here hx rfl (hb hby dEQ_18) rfl rfl ?_
      show Steps _ _ _ (T113.setTop (mkF m 19 #[.val (.ref o1), .val (.ref o2), .val (.ref o2)] [(.ref o2), (.ref s1)])) _
      refine st114 _ ?_
      show Steps _ _ _ (T114.setTop (mkF m 22 #[.val (.ref o1), .val (.ref o2), .val (.ref o2)] [(.ref s2), (.ref s1)])) _
      refine st115.trans ?_
      show Steps _ _ _ (T115.setTop (mkF m 25 #[.val (.ref o1), .val (.ref o2), .val (.ref o2)] [(.int (0 : Int32))])) _
      refine XS.ifYes X115.here hx rfl (pc0 := 25) (pc' := 57) rfl (hb hby dEQ_25) rfl (by decide) (by decide) (by decide) ?_
      refine XS.iconst X115.here hx rfl (hb hby dEQ_57) ?_
      show Steps _ _ _ (T115.setTop (mkF m 58 #[.val (.ref o1), .val (.ref o2), .val (.ref o2)] [(.int (0 : Int32))])) _
      exact retN X115 hx (t := .boolean) Bd.returns (by simp) (hb hby dEQ_58) hr
    · show QEQ Z o1 o2 G1 s1 t1 kt1 q1 rk1 ut1 s2 t2 kt2 q2 rk2 ut2 h0 n0 _ T115.heap _
      rw [eq115]
      exact ⟨by rw [if_neg (fun q => hcs q.1)], N115, rfl⟩
theorem own_six (A B C D E : Prop) : ¬ A ∨ (A ∧ B) ∨ (A ∧ ¬ B ∧ ¬ C) ∨ (A ∧ ¬ B ∧ C ∧ D) ∨ (A ∧ ¬ B ∧ C ∧ ¬ D ∧ ¬ E) ∨ (A ∧ ¬ B ∧ C ∧ ¬ D ∧ E) := by
  by_cases A <;> by_cases B <;> by_cases C <;> by_cases D <;> by_cases E <;> simp_all
theorem own_lt12 {x : Int32} (h : x < 1) : x < 2 := by
  rw [Int32.lt_iff_toInt_lt] at h ⊢
  have e1 : (1 : Int32).toInt = 1 := by decide
  have e2 : (2 : Int32).toInt = 2 := by decide
  omega
theorem own_four (A B C : Prop) : ¬ A ∨ (A ∧ ¬ B) ∨ (A ∧ B ∧ ¬ C) ∨ (A ∧ B ∧ C) := by
  by_cases A <;> by_cases B <;> by_cases C <;> simp_all
theorem own_ucu {a b : Int32} {i j : Fin 8} (ha : a = Int32.ofNat i.1) (hb : b = Int32.ofNat j.1) (h : own_u a = own_u b) : a = b := by
  subst ha hb; exact (own_uinj i j).mp h
theorem pd_13 : parseMethodDescriptor "(I)Ljava/lang/String;" = some ⟨[.int], some (.object "java/lang/String")⟩ := by decide +kernel
theorem pd_14 : parseMethodDescriptor "(I)D" = some ⟨[.int], some .double⟩ := by decide +kernel
theorem pd_15 : parseMethodDescriptor "(Ljava/lang/String;ID)V" = some ⟨[(.object "java/lang/String"), .int, .double], none⟩ := by decide +kernel
theorem ef_0 (m : MethodId) (x0 : Int32) (x1 : Int32) (x2 : Int32) (x3 : Int32) (x4 : Int32) (x5 : Int32) : entryFrame m #[(.int x0), (.int x1), (.int x2), (.int x3), (.int x4), (.int x5)] maxLocals = mkF m 0 #[.val (.int x0), .val (.int x1), .val (.int x2), .val (.int x3), .val (.int x4), .val (.int x5), .unset, .unset, .unset, .unset, .unset, .unset, .unset, .unset, .unset, .unset] [] := by first | (simp [entryFrame, mkF, argsToLocals, Value.category, maxLocals]; done) | rfl
def Q0 (Z : State) (pa : Int32) (pb : Int32) (pr1 : Int32) (pr2 : Int32) (pu : Int32) (pm : Int32) (G1 : Int32) (h0 : Heap) (n0 : Nat) (v : Option Value) (h : Heap) (L : List Loc) : Prop := v = some (.int 1) ∧ Fr n0 L
set_option maxRecDepth 65536 in
set_option maxHeartbeats 40000000 in
theorem rm0 (l : Launch) (Z : State) (a0 : Array Value) (hw : ∀ d ∈ tables_1, d.before a0 Z = true) (ws : List Jvm.Cond) (pa : Int32) (pb : Int32) (pr1 : Int32) (pr2 : Int32) (pu : Int32) (pm : Int32) (G1 : Int32) (h0 : Heap) (n0 : Nat) (Z0 : n0 ≤ h0.size) (O2 : Sta Z Z.heap "java/lang/String" "COMPACT_STRINGS" "Z" (.int G1)) (P5 : ¬ (G1 = (0 : Int32))) (X00 : Old Z n0 h0) :
    MetFree l x (head1 (Jvm.Cond.code x code maxLocals ret :: ws) room_1) (fun a U => a = #[(.int pa), (.int pb), (.int pr1), (.int pr2), (.int pu), (.int pm)] ∧ Z.Warmed39 U.vm ∧ U.heap = h0 ∧ CHv Z own_EL U.vm h0) (fun _ _ _ _ _ => True) (fun _ U o U' => ∃ v L, o = .returned v ∧ Q0 Z pa pb pr1 pr2 pu pm G1 h0 n0 v U'.heap L ∧ CHr Z own_EL U.vm U.heap U'.vm U'.heap ∧ ReturnedEndW U o U' L 14 30) := by
  refine MetFree.of_bodySF (plainFor_of_name pn_com_example_facetwise_facetwise_RankedResultEqualsPinLaw) hisR ?_
  intro p e s m args below meth c s₁ Bd hml0 hP hK
  obtain ⟨rfl, hZ, hh, hCH⟩ := hP
  have hx := Bd.exec
  have hby := Bd.bytes
  have hml : c.maxLocals = 16 := hml0
  have hown : s.vm.findClass "com/example/facetwise/facetwise/RankedResultEqualsPinLaw" = some m.cls := findClass_of_methodNamed Bd.named
  have hnm := (name_of_methodNamed Bd.named Bd.method).1
  have X0 : Stand p l e room_1 s m #[(.int pa), (.int pb), (.int pr1), (.int pr2), (.int pu), (.int pm)] below meth c s₁ [] 0 0 := Stand.of_body Bd
  have e0 : s₁.heap = h0 := by rw [← hh, Bd.state]; rfl
  have N0 := Fr.nil n0
  have CR0 : CHr Z own_EL s.vm h0 s.vm h0 := CHr.refl hCH
  have K0 : Keep h0 h0 [] := Keep.refl h0 []
  have pre0 : ∀ t, Steps p.tables e below (s₁.setTop (mkF m 0 #[.val (.int pa), .val (.int pb), .val (.int pr1), .val (.int pr2), .val (.int pu), .val (.int pm), .unset, .unset, .unset, .unset, .unset, .unset, .unset, .unset, .unset, .unset] [])) t → Steps p.tables e below (s₁.setTop (entryFrame m #[(.int pa), (.int pb), (.int pr1), (.int pr2), (.int pu), (.int pm)] maxLocals)) t := fun t k => castTop (ef_0 m pa pb pr1 pr2 pu pm) k
  obtain ⟨i1, hi1⟩ := own_and7 pu
  obtain ⟨cu1, hcu1⟩ : ∃ z, pu &&& (7 : Int32) = z := ⟨_, rfl⟩
  obtain ⟨kd, hkd⟩ : ∃ z, ((pm.toUInt32 >>> ((3 : Int32) &&& 31).toUInt32).toInt32) &&& (3 : Int32) = z := ⟨_, rfl⟩
  have R123 : ∀ t, Steps p.tables e below (s₁.setTop (mkF m 4 #[.val (.int pa), .val (.int pb), .val (.int pr1), .val (.int pr2), .val (.int pu), .val (.int pm), .unset, .unset, .unset, .unset, .unset, .unset, .unset, .unset, .unset, .unset] [(.int (pm &&& (1 : Int32)))])) t → Steps p.tables e below (s₁.setTop (entryFrame m #[(.int pa), (.int pb), (.int pr1), (.int pr2), (.int pu), (.int pm)] maxLocals)) t := by
    intro t kt
    refine pre0 _ ?_
    show Steps _ _ _ (s₁.setTop (mkF m 0 #[.val (.int pa), .val (.int pb), .val (.int pr1), .val (.int pr2), .val (.int pu), .val (.int pm), .unset, .unset, .unset, .unset, .unset, .unset, .unset, .unset, .unset, .unset] [])) _
    refine XS.iload X0.here hx rfl (hb hby at_0) rfl ?_
    refine XS.iconst X0.here hx rfl (hb hby at_2) ?_
    refine XS.iand X0.here hx rfl (hb hby at_3) rfl ?_
    show Steps _ _ _ (s₁.setTop (mkF m 4 #[.val (.int pa), .val (.int pb), .val (.int pr1), .val (.int pr2), .val (.int pu), .val (.int pm), .unset, .unset, .unset, .unset, .unset, .unset, .unset, .unset, .unset, .unset] [(.int (pm &&& (1 : Int32)))])) _
    exact kt
  obtain ⟨bb, hp124, R124⟩ : ∃ (bb : Int32), (True) ∧ ∀ t, Steps p.tables e below (s₁.setTop (mkF m 14 #[.val (.int pa), .val (.int pb), .val (.int pr1), .val (.int pr2), .val (.int pu), .val (.int pm), .val (.int bb), .unset, .unset, .unset, .unset, .unset, .unset, .unset, .unset, .unset] [])) t → Steps p.tables e below (s₁.setTop (entryFrame m #[(.int pa), (.int pb), (.int pr1), (.int pr2), (.int pu), (.int pm)] maxLocals)) t := by
    by_cases hq : pm &&& (1 : Int32) = 0
    · refine ⟨pb, trivial, fun t kt => ?_⟩
      refine R123 _ ?_
      show Steps _ _ _ (s₁.setTop (mkF m 4 #[.val (.int pa), .val (.int pb), .val (.int pr1), .val (.int pr2), .val (.int pu), .val (.int pm), .unset, .unset, .unset, .unset, .unset, .unset, .unset, .unset, .unset, .unset] [(.int (pm &&& (1 : Int32)))])) _
      refine XS.ifYes X0.here hx rfl (pc0 := 4) (pc' := 11) rfl (hb hby at_4) rfl ((if0 _ _).trans (teq hq).1) (by decide) (by decide) ?_
      refine XS.iloadN X0.here hx rfl (hb hby at_11) rfl ?_
      refine XS.istore X0.here hx rfl (hb hby at_12) rfl (l' := #[.val (.int pa), .val (.int pb), .val (.int pr1), .val (.int pr2), .val (.int pu), .val (.int pm), .val (.int pb), .unset, .unset, .unset, .unset, .unset, .unset, .unset, .unset, .unset]) rfl ?_
      exact kt
    · refine ⟨pa, trivial, fun t kt => ?_⟩
      refine R123 _ ?_
      show Steps _ _ _ (s₁.setTop (mkF m 4 #[.val (.int pa), .val (.int pb), .val (.int pr1), .val (.int pr2), .val (.int pu), .val (.int pm), .unset, .unset, .unset, .unset, .unset, .unset, .unset, .unset, .unset, .unset] [(.int (pm &&& (1 : Int32)))])) _
      refine XS.ifNo X0.here hx rfl (hb hby at_4) rfl ((if0 _ _).trans (feq hq).1) ?_
      show Steps _ _ _ (s₁.setTop (mkF m 7 #[.val (.int pa), .val (.int pb), .val (.int pr1), .val (.int pr2), .val (.int pu), .val (.int pm), .unset, .unset, .unset, .unset, .unset, .unset, .unset, .unset, .unset, .unset] [])) _
      refine XS.iloadN X0.here hx rfl (hb hby at_7) rfl ?_
      refine XS.goto X0.here hx rfl (pc0 := 8) (pc' := 12) rfl (hb hby at_8) (by decide) (by decide) ?_
      refine XS.istore X0.here hx rfl (hb hby at_12) rfl (l' := #[.val (.int pa), .val (.int pb), .val (.int pr1), .val (.int pr2), .val (.int pu), .val (.int pm), .val (.int pa), .unset, .unset, .unset, .unset, .unset, .unset, .unset, .unset, .unset]) rfl ?_
      exact kt
  have R125 : ∀ t, Steps p.tables e below (s₁.setTop (mkF m 18 #[.val (.int pa), .val (.int pb), .val (.int pr1), .val (.int pr2), .val (.int pu), .val (.int pm), .val (.int bb), .unset, .unset, .unset, .unset, .unset, .unset, .unset, .unset, .unset] [(.int (pm &&& (2 : Int32)))])) t → Steps p.tables e below (s₁.setTop (entryFrame m #[(.int pa), (.int pb), (.int pr1), (.int pr2), (.int pu), (.int pm)] maxLocals)) t := by
    intro t kt
    refine R124 _ ?_
    show Steps _ _ _ (s₁.setTop (mkF m 14 #[.val (.int pa), .val (.int pb), .val (.int pr1), .val (.int pr2), .val (.int pu), .val (.int pm), .val (.int bb), .unset, .unset, .unset, .unset, .unset, .unset, .unset, .unset, .unset] [])) _
    refine XS.iload X0.here hx rfl (hb hby at_14) rfl ?_
    refine XS.iconst X0.here hx rfl (hb hby at_16) ?_
    refine XS.iand X0.here hx rfl (hb hby at_17) rfl ?_
    show Steps _ _ _ (s₁.setTop (mkF m 18 #[.val (.int pa), .val (.int pb), .val (.int pr1), .val (.int pr2), .val (.int pu), .val (.int pm), .val (.int bb), .unset, .unset, .unset, .unset, .unset, .unset, .unset, .unset, .unset] [(.int (pm &&& (2 : Int32)))])) _
    exact kt
  obtain ⟨rr, hp126, R126⟩ : ∃ (rr : Int32), (True) ∧ ∀ t, Steps p.tables e below (s₁.setTop (mkF m 28 #[.val (.int pa), .val (.int pb), .val (.int pr1), .val (.int pr2), .val (.int pu), .val (.int pm), .val (.int bb), .val (.int rr), .unset, .unset, .unset, .unset, .unset, .unset, .unset, .unset] [])) t → Steps p.tables e below (s₁.setTop (entryFrame m #[(.int pa), (.int pb), (.int pr1), (.int pr2), (.int pu), (.int pm)] maxLocals)) t := by
    by_cases hq : pm &&& (2 : Int32) = 0
    · refine ⟨pr2, trivial, fun t kt => ?_⟩
      refine R125 _ ?_
      show Steps _ _ _ (s₁.setTop (mkF m 18 #[.val (.int pa), .val (.int pb), .val (.int pr1), .val (.int pr2), .val (.int pu), .val (.int pm), .val (.int bb), .unset, .unset, .unset, .unset, .unset, .unset, .unset, .unset, .unset] [(.int (pm &&& (2 : Int32)))])) _
      refine XS.ifYes X0.here hx rfl (pc0 := 18) (pc' := 25) rfl (hb hby at_18) rfl ((if0 _ _).trans (teq hq).1) (by decide) (by decide) ?_
      refine XS.iloadN X0.here hx rfl (hb hby at_25) rfl ?_
      refine XS.istore X0.here hx rfl (hb hby at_26) rfl (l' := #[.val (.int pa), .val (.int pb), .val (.int pr1), .val (.int pr2), .val (.int pu), .val (.int pm), .val (.int bb), .val (.int pr2), .unset, .unset, .unset, .unset, .unset, .unset, .unset, .unset]) rfl ?_
      exact kt
    · refine ⟨pr1, trivial, fun t kt => ?_⟩
      refine R125 _ ?_
      show Steps _ _ _ (s₁.setTop (mkF m 18 #[.val (.int pa), .val (.int pb), .val (.int pr1), .val (.int pr2), .val (.int pu), .val (.int pm), .val (.int bb), .unset, .unset, .unset, .unset, .unset, .unset, .unset, .unset, .unset] [(.int (pm &&& (2 : Int32)))])) _
      refine XS.ifNo X0.here hx rfl (hb hby at_18) rfl ((if0 _ _).trans (feq hq).1) ?_
      show Steps _ _ _ (s₁.setTop (mkF m 21 #[.val (.int pa), .val (.int pb), .val (.int pr1), .val (.int pr2), .val (.int pu), .val (.int pm), .val (.int bb), .unset, .unset, .unset, .unset, .unset, .unset, .unset, .unset, .unset] [])) _
      refine XS.iloadN X0.here hx rfl (hb hby at_21) rfl ?_
      refine XS.goto X0.here hx rfl (pc0 := 22) (pc' := 26) rfl (hb hby at_22) (by decide) (by decide) ?_
      refine XS.istore X0.here hx rfl (hb hby at_26) rfl (l' := #[.val (.int pa), .val (.int pb), .val (.int pr1), .val (.int pr2), .val (.int pu), .val (.int pm), .val (.int bb), .val (.int pr1), .unset, .unset, .unset, .unset, .unset, .unset, .unset, .unset]) rfl ?_
      exact kt
  have R127 : ∀ t, Steps p.tables e below (s₁.setTop (mkF m 39 #[.val (.int pa), .val (.int pb), .val (.int pr1), .val (.int pr2), .val (.int pu), .val (.int pm), .val (.int bb), .val (.int rr), .val (.int cu1), .unset, .unset, .unset, .unset, .unset, .unset, .unset] [(.int (pm &&& (4 : Int32)))])) t → Steps p.tables e below (s₁.setTop (entryFrame m #[(.int pa), (.int pb), (.int pr1), (.int pr2), (.int pu), (.int pm)] maxLocals)) t := by
    intro t kt
    refine R126 _ ?_
    show Steps _ _ _ (s₁.setTop (mkF m 28 #[.val (.int pa), .val (.int pb), .val (.int pr1), .val (.int pr2), .val (.int pu), .val (.int pm), .val (.int bb), .val (.int rr), .unset, .unset, .unset, .unset, .unset, .unset, .unset, .unset] [])) _
    refine XS.iload X0.here hx rfl (hb hby at_28) rfl ?_
    refine XS.bipush X0.here hx rfl (hb hby at_30) ?_
    refine XS.iand X0.here hx rfl (hb hby at_32) rfl ?_
    show Steps _ _ _ (s₁.setTop (mkF m 33 #[.val (.int pa), .val (.int pb), .val (.int pr1), .val (.int pr2), .val (.int pu), .val (.int pm), .val (.int bb), .val (.int rr), .unset, .unset, .unset, .unset, .unset, .unset, .unset, .unset] [(.int (pu &&& (7 : Int32)))])) _
    rw [hcu1]
    refine XS.istore X0.here hx rfl (hb hby at_33) rfl (l' := #[.val (.int pa), .val (.int pb), .val (.int pr1), .val (.int pr2), .val (.int pu), .val (.int pm), .val (.int bb), .val (.int rr), .val (.int cu1), .unset, .unset, .unset, .unset, .unset, .unset, .unset]) rfl ?_
    show Steps _ _ _ (s₁.setTop (mkF m 35 #[.val (.int pa), .val (.int pb), .val (.int pr1), .val (.int pr2), .val (.int pu), .val (.int pm), .val (.int bb), .val (.int rr), .val (.int cu1), .unset, .unset, .unset, .unset, .unset, .unset, .unset] [])) _
    refine XS.iload X0.here hx rfl (hb hby at_35) rfl ?_
    refine XS.iconst X0.here hx rfl (hb hby at_37) ?_
    refine XS.iand X0.here hx rfl (hb hby at_38) rfl ?_
    show Steps _ _ _ (s₁.setTop (mkF m 39 #[.val (.int pa), .val (.int pb), .val (.int pr1), .val (.int pr2), .val (.int pu), .val (.int pm), .val (.int bb), .val (.int rr), .val (.int cu1), .unset, .unset, .unset, .unset, .unset, .unset, .unset] [(.int (pm &&& (4 : Int32)))])) _
    exact kt
  obtain ⟨cu2, hp128, R128⟩ : ∃ (cu2 : Int32), (∃ i : Fin 8, cu2 = Int32.ofNat i.1) ∧ ∀ t, Steps p.tables e below (s₁.setTop (mkF m 56 #[.val (.int pa), .val (.int pb), .val (.int pr1), .val (.int pr2), .val (.int pu), .val (.int pm), .val (.int bb), .val (.int rr), .val (.int cu1), .val (.int cu2), .unset, .unset, .unset, .unset, .unset, .unset] [])) t → Steps p.tables e below (s₁.setTop (entryFrame m #[(.int pa), (.int pb), (.int pr1), (.int pr2), (.int pu), (.int pm)] maxLocals)) t := by
    by_cases hq : pm &&& (4 : Int32) = 0
    · refine ⟨(((pu.toUInt32 >>> ((3 : Int32) &&& 31).toUInt32).toInt32) &&& (7 : Int32)), (own_and7 _), fun t kt => ?_⟩
      refine R127 _ ?_
      show Steps _ _ _ (s₁.setTop (mkF m 39 #[.val (.int pa), .val (.int pb), .val (.int pr1), .val (.int pr2), .val (.int pu), .val (.int pm), .val (.int bb), .val (.int rr), .val (.int cu1), .unset, .unset, .unset, .unset, .unset, .unset, .unset] [(.int (pm &&& (4 : Int32)))])) _
      refine XS.ifYes X0.here hx rfl (pc0 := 39) (pc' := 47) rfl (hb hby at_39) rfl ((if0 _ _).trans (teq hq).1) (by decide) (by decide) ?_
      refine XS.iload X0.here hx rfl (hb hby at_47) rfl ?_
      refine XS.iconst X0.here hx rfl (hb hby at_49) ?_
      refine XS.iushr X0.here hx rfl (hb hby at_50) rfl ?_
      show Steps _ _ _ (s₁.setTop (mkF m 51 #[.val (.int pa), .val (.int pb), .val (.int pr1), .val (.int pr2), .val (.int pu), .val (.int pm), .val (.int bb), .val (.int rr), .val (.int cu1), .unset, .unset, .unset, .unset, .unset, .unset, .unset] [(.int ((pu.toUInt32 >>> ((3 : Int32) &&& 31).toUInt32).toInt32))])) _
      refine XS.bipush X0.here hx rfl (hb hby at_51) ?_
      refine XS.iand X0.here hx rfl (hb hby at_53) rfl ?_
      refine XS.istore X0.here hx rfl (hb hby at_54) rfl (l' := #[.val (.int pa), .val (.int pb), .val (.int pr1), .val (.int pr2), .val (.int pu), .val (.int pm), .val (.int bb), .val (.int rr), .val (.int cu1), .val (.int (((pu.toUInt32 >>> ((3 : Int32) &&& 31).toUInt32).toInt32) &&& (7 : Int32))), .unset, .unset, .unset, .unset, .unset, .unset]) rfl ?_
      exact kt
    · refine ⟨cu1, ⟨i1, by rw [← hcu1]; exact hi1⟩, fun t kt => ?_⟩
      refine R127 _ ?_
      show Steps _ _ _ (s₁.setTop (mkF m 39 #[.val (.int pa), .val (.int pb), .val (.int pr1), .val (.int pr2), .val (.int pu), .val (.int pm), .val (.int bb), .val (.int rr), .val (.int cu1), .unset, .unset, .unset, .unset, .unset, .unset, .unset] [(.int (pm &&& (4 : Int32)))])) _
      refine XS.ifNo X0.here hx rfl (hb hby at_39) rfl ((if0 _ _).trans (feq hq).1) ?_
      show Steps _ _ _ (s₁.setTop (mkF m 42 #[.val (.int pa), .val (.int pb), .val (.int pr1), .val (.int pr2), .val (.int pu), .val (.int pm), .val (.int bb), .val (.int rr), .val (.int cu1), .unset, .unset, .unset, .unset, .unset, .unset, .unset] [])) _
      refine XS.iload X0.here hx rfl (hb hby at_42) rfl ?_
      refine XS.goto X0.here hx rfl (pc0 := 44) (pc' := 54) rfl (hb hby at_44) (by decide) (by decide) ?_
      refine XS.istore X0.here hx rfl (hb hby at_54) rfl (l' := #[.val (.int pa), .val (.int pb), .val (.int pr1), .val (.int pr2), .val (.int pu), .val (.int pm), .val (.int bb), .val (.int rr), .val (.int cu1), .val (.int cu1), .unset, .unset, .unset, .unset, .unset, .unset]) rfl ?_
      exact kt
  obtain ⟨i2, hi2⟩ := hp128
  rw [hcu1] at hi1
  have NNu1 : Jvm.Free.Fl.NoNaN64 (own_u cu1) := hi1 ▸ own_uNN i1
  have NNu2 : Jvm.Free.Fl.NoNaN64 (own_u cu2) := hi2 ▸ own_uNN i2
  obtain ⟨T129, h129, X129, e129, E129, A129, D129, -, st129⟩ := newO X0 hx hZ hown (hw _ (List.mem_of_getElem? (i := 0) rfl)) (hw _ (List.mem_of_getElem? (i := 1) rfl)) (hw _ (List.mem_of_getElem? (i := 2) rfl)) e0 (g := (mkF m 64 #[.val (.int pa), .val (.int pb), .val (.int pr1), .val (.int pr2), .val (.int pu), .val (.int pm), .val (.int bb), .val (.int rr), .val (.int cu1), .val (.int cu2), .val (.int kd), .unset, .unset, .unset, .unset, .unset] [])) rfl (hb hby at_64) (by decide) (by decide)
  obtain ⟨b129, g129⟩ : ∃ z, z = h0.size := ⟨_, rfl⟩
  rw [← g129] at A129 D129 st129
  have g_b129 : n0 ≤ b129 := Nat.le_trans (Nat.le_trans Z0 K0.1) (Nat.le_of_eq g129.symm)
  have sz_b129 : h0.size ≤ b129 := Nat.le_trans K0.1 (Nat.le_of_eq g129.symm)
  have CR130 := CR0.trans (CHr.ext E129 CR0.1)
  have K129 : Keep h0 h129 [] := K0.ext E129
  have F129_id : Fld Z h129 b129 "com/example/facetwise/facetwise/RankedResult" "id" "Ljava/lang/String;" .null := D129 (Or.inr (hw _ (List.mem_of_getElem? (i := 41) rfl))) (ty := (.object "java/lang/String")) (by decide)
  have F129_rank : Fld Z h129 b129 "com/example/facetwise/facetwise/RankedResult" "rank" "I" (.int (0 : Int32)) := D129 (Or.inr (hw _ (List.mem_of_getElem? (i := 43) rfl))) (ty := .int) (by decide)
  have F129_utility : Fld Z h129 b129 "com/example/facetwise/facetwise/RankedResult" "utility" "D" (.double FP.dconst0) := D129 (Or.inr (hw _ (List.mem_of_getElem? (i := 45) rfl))) (ty := .double) (by decide)
  have f133 := X00.ext E129
  obtain ⟨_, _, ⟨T131, L131, k131, n131⟩, -, X131, hS131, hG131, ⟨Lc131, hQ131, l131, y131, z131, hC131⟩, st131⟩ := callSS X129 hx (y := (⟨"com/example/facetwise/facetwise/RankedResultEqualsPinLaw", "mk", "(I)Ljava/lang/String;"⟩ : MethodName)) hown (mvT hZ (hw _ (List.mem_of_getElem? (i := 3) rfl))) (mvT hZ (hw _ (List.mem_of_getElem? (i := 4) rfl))) (mvT hZ (hw _ (List.mem_of_getElem? (i := 5) rfl))) (mvT hZ (hw _ (List.mem_of_getElem? (i := 6) rfl))) (by decide) (backOfSH (s := s) (vm0 := s.vm) (W := 2) (rmMK l Z a0 hw [] pa G1 h129 n0 (Nat.le_trans Z0 K129.1) O2 P5 f133) hZ (hw _ (List.mem_of_getElem? (i := 6) rfl)) (hw _ (List.mem_of_getElem? (i := 5) rfl)) (by decide) (by decide) (own_hEL Z a0 hw) CR130.1) (g := (mkF m 69 #[.val (.int pa), .val (.int pb), .val (.int pr1), .val (.int pr2), .val (.int pu), .val (.int pm), .val (.int bb), .val (.int rr), .val (.int cu1), .val (.int cu2), .val (.int kd), .unset, .unset, .unset, .unset, .unset] [(.int pa), (.ref b129), (.ref b129)])) rfl (by rw [hml]; rfl) (argsL := [(.int pa)]) (rest := [(.ref b129), (.ref b129)]) (lenOf pd_13 rfl) rfl (by show 2 * 0 + _ ≤ _; exact Nat.le_of_eq rfl) (hb hby at_69) (fun _ _ => ⟨rfl, e129, (by decide : 1 + 6 ≤ _), (by decide : 3 + 12 ≤ _)⟩)
  dsimp only [Pt.U, Pt.locs, Pt.cells, Pt.slots] at X131 l131 y131 z131 st131 hQ131 hS131 hG131 hC131
  rw [l131, y131, z131] at X131
  have hS131a : s.Since T131.vm T131.heap.size := hS131
  have hZ131 : Z.Warmed39 (s.setVm T131.vm).vm := State.Warmed39.trans hZ hS131.1
  have hown131 : (s.setVm T131.vm).vm.findClass "com/example/facetwise/facetwise/RankedResultEqualsPinLaw" = some m.cls := (hS131.1.alike.findClass _ _).trans hown
  obtain ⟨r132, t132, kt132, hv131, Nq131, Kc131, Ex131, Fv131, Fc131, Vt131, szr131, g_r132⟩ := hQ131
  rw [hv131] at st131
  have K131 : Keep h0 T131.heap [] := K129.trans Kc131 all0
  have CR134 := CR130.trans hC131
  have f135 := A129.keep Kc131
  have ne_b129_r132 : b129 ≠ r132 := ne_exa f135 Ex131 (by decide)
  have ne_b129_t132 : b129 ≠ t132 := Exa.neArv f135 Vt131 (hw _ (List.mem_of_getElem? (i := 1) rfl))
  have sz_r132 : h0.size ≤ r132 := Nat.le_trans K129.1 szr131
  have N131 := Fr.app N0 Nq131
  obtain ⟨_, _, ⟨T136, L136, k136, n136⟩, -, X136, ⟨Lc136, hQ136, l136, y136, z136⟩, st136⟩ := Jvm.LawKit.callS X131 hx (y := (⟨"com/example/facetwise/facetwise/RankedResultEqualsPinLaw", "util", "(I)D"⟩ : MethodName)) hown131 (mvT hZ131 (hw _ (List.mem_of_getElem? (i := 33) rfl))) (mvT hZ131 (hw _ (List.mem_of_getElem? (i := 34) rfl))) (mvT hZ131 (hw _ (List.mem_of_getElem? (i := 5) rfl))) (mvT hZ131 (hw _ (List.mem_of_getElem? (i := 35) rfl))) (by decide) (backOf (W := 4) (rmUT l Z a0 hw [] cu1 T131.heap n0 (Nat.le_trans Z0 K131.1) ) hZ131 (hw _ (List.mem_of_getElem? (i := 35) rfl)) (hw _ (List.mem_of_getElem? (i := 5) rfl)) (by decide) (by decide)) (g := (mkF m 75 #[.val (.int pa), .val (.int pb), .val (.int pr1), .val (.int pr2), .val (.int pu), .val (.int pm), .val (.int bb), .val (.int rr), .val (.int cu1), .val (.int cu2), .val (.int kd), .unset, .unset, .unset, .unset, .unset] [(.int cu1), (.int pr1), (.ref r132), (.ref b129), (.ref b129)])) rfl (by rw [hml]; rfl) (argsL := [(.int cu1)]) (rest := [(.int pr1), (.ref r132), (.ref b129), (.ref b129)]) (lenOf pd_14 rfl) rfl (by show 2 * 0 + _ ≤ _; exact Nat.le_of_eq rfl) (hb hby at_75) (fun _ _ => ⟨rfl, rfl, (by decide : 7 + 0 ≤ _), (by decide : 15 + 0 ≤ _)⟩)
  dsimp only [Pt.U, Pt.locs, Pt.cells, Pt.slots] at X136 l136 y136 z136 st136 hQ136
  rw [l136, y136, z136] at X136
  obtain ⟨hv136, Nq136, eq136⟩ := hQ136
  rw [hv136] at st136
  have N136 := Fr.app N131 Nq136
  have f138 := F129_id.keep Kc131 nin0
  have f139 := F129_rank.keep Kc131 nin0
  have f140 := F129_utility.keep Kc131 nin0
  obtain ⟨_, _, ⟨T137, L137, k137, n137⟩, -, X137, ⟨Lc137, hQ137, l137, y137, z137⟩, st137⟩ := X136.specialBack hx (y := (⟨"com/example/facetwise/facetwise/RankedResult", "<init>", "(Ljava/lang/String;ID)V"⟩ : MethodName)) rfl hown131 (mvT hZ131 (hw _ (List.mem_of_getElem? (i := 36) rfl))) (mvT hZ131 (hw _ (List.mem_of_getElem? (i := 37) rfl))) (mvT hZ131 (hw _ (List.mem_of_getElem? (i := 38) rfl))) (by decide) (backOf (W := 1) (rmRI l Z a0 hw [] b129 r132 pr1 (own_u cu1) T131.heap n0 (Nat.le_trans Z0 K131.1) f135 f138 f139 f140 g_b129) hZ131 (hw _ (List.mem_of_getElem? (i := 38) rfl)) (hw _ (List.mem_of_getElem? (i := 2) rfl)) (by decide) (by decide)) (g := (mkF m 78 #[.val (.int pa), .val (.int pb), .val (.int pr1), .val (.int pr2), .val (.int pu), .val (.int pm), .val (.int bb), .val (.int rr), .val (.int cu1), .val (.int cu2), .val (.int kd), .unset, .unset, .unset, .unset, .unset] [(.double (own_u cu1)), (.int pr1), (.ref r132), (.ref b129), (.ref b129)])) rfl (by rw [hml]; rfl) (Steps.refl _) (a := b129) (argsL := [(.ref r132), (.int pr1), (.double (own_u cu1))]) (rest := [(.ref b129)]) (lenOf pd_15 rfl) rfl (by show 2 * 0 + _ ≤ _; exact Nat.le_of_eq rfl) (hb hby at_78) (fun _ _ => ⟨rfl, eq136, (by decide : 7 + 0 ≤ _), (by decide : 15 + 0 ≤ _)⟩)
  dsimp only [Pt.U, Pt.locs, Pt.cells, Pt.slots] at X137 l137 y137 z137 st137 hQ137
  rw [l137, y137, z137] at X137
  obtain ⟨hv137, Nq137, Kc137, Ex137, Fi137, Fk137, Fu137⟩ := hQ137
  rw [hv137] at st137
  have K137 : Keep h0 T137.heap [] := K131.trans Kc137 (allS (P := fun x => x ∈ [] ∨ h0.size ≤ x) (Or.inr sz_b129) all0)
  have CR141 := CR134.trans (CHr.keep Kc137 (allS (Safe.exa hZ131.alike f135 (by decide) (by decide)) all0) CR134.1)
  have N137 := Fr.app N136 Nq137
  have R142 : ∀ t, Steps p.tables e below (T137.setTop (mkF m 86 #[.val (.int pa), .val (.int pb), .val (.int pr1), .val (.int pr2), .val (.int pu), .val (.int pm), .val (.int bb), .val (.int rr), .val (.int cu1), .val (.int cu2), .val (.int kd), .val (.ref b129), .unset, .unset, .unset, .unset] [(.int (1 : Int32)), (.int kd)])) t → Steps p.tables e below (s₁.setTop (entryFrame m #[(.int pa), (.int pb), (.int pr1), (.int pr2), (.int pu), (.int pm)] maxLocals)) t := by
    intro t kt
    refine R128 _ ?_
    show Steps _ _ _ (s₁.setTop (mkF m 56 #[.val (.int pa), .val (.int pb), .val (.int pr1), .val (.int pr2), .val (.int pu), .val (.int pm), .val (.int bb), .val (.int rr), .val (.int cu1), .val (.int cu2), .unset, .unset, .unset, .unset, .unset, .unset] [])) _
    refine XS.iload X0.here hx rfl (hb hby at_56) rfl ?_
    refine XS.iconst X0.here hx rfl (hb hby at_58) ?_
    refine XS.iushr X0.here hx rfl (hb hby at_59) rfl ?_
    refine XS.iconst X0.here hx rfl (hb hby at_60) ?_
    show Steps _ _ _ (s₁.setTop (mkF m 61 #[.val (.int pa), .val (.int pb), .val (.int pr1), .val (.int pr2), .val (.int pu), .val (.int pm), .val (.int bb), .val (.int rr), .val (.int cu1), .val (.int cu2), .unset, .unset, .unset, .unset, .unset, .unset] [(.int (3 : Int32)), (.int ((pm.toUInt32 >>> ((3 : Int32) &&& 31).toUInt32).toInt32))])) _
    refine XS.iand X0.here hx rfl (hb hby at_61) rfl ?_
    show Steps _ _ _ (s₁.setTop (mkF m 62 #[.val (.int pa), .val (.int pb), .val (.int pr1), .val (.int pr2), .val (.int pu), .val (.int pm), .val (.int bb), .val (.int rr), .val (.int cu1), .val (.int cu2), .unset, .unset, .unset, .unset, .unset, .unset] [(.int (((pm.toUInt32 >>> ((3 : Int32) &&& 31).toUInt32).toInt32) &&& (3 : Int32)))])) _
    rw [hkd]
    refine XS.istore X0.here hx rfl (hb hby at_62) rfl (l' := #[.val (.int pa), .val (.int pb), .val (.int pr1), .val (.int pr2), .val (.int pu), .val (.int pm), .val (.int bb), .val (.int rr), .val (.int cu1), .val (.int cu2), .val (.int kd), .unset, .unset, .unset, .unset, .unset]) rfl ?_
    show Steps _ _ _ (s₁.setTop (mkF m 64 #[.val (.int pa), .val (.int pb), .val (.int pr1), .val (.int pr2), .val (.int pu), .val (.int pm), .val (.int bb), .val (.int rr), .val (.int cu1), .val (.int cu2), .val (.int kd), .unset, .unset, .unset, .unset, .unset] [])) _
    refine st129 _ ?_
    refine XS.dup X129.here hx rfl (hb hby at_67) rfl rfl ?_
    refine XS.iloadN X129.here hx rfl (hb hby at_68) rfl ?_
    show Steps _ _ _ (T129.setTop (mkF m 69 #[.val (.int pa), .val (.int pb), .val (.int pr1), .val (.int pr2), .val (.int pu), .val (.int pm), .val (.int bb), .val (.int rr), .val (.int cu1), .val (.int cu2), .val (.int kd), .unset, .unset, .unset, .unset, .unset] [(.int pa), (.ref b129), (.ref b129)])) _
    refine st131.trans ?_
    show Steps _ _ _ (T131.setTop (mkF m 72 #[.val (.int pa), .val (.int pb), .val (.int pr1), .val (.int pr2), .val (.int pu), .val (.int pm), .val (.int bb), .val (.int rr), .val (.int cu1), .val (.int cu2), .val (.int kd), .unset, .unset, .unset, .unset, .unset] [(.ref r132), (.ref b129), (.ref b129)])) _
    refine XS.iloadN X131.here hx rfl (hb hby at_72) rfl ?_
    refine XS.iload X131.here hx rfl (hb hby at_73) rfl ?_
    show Steps _ _ _ (T131.setTop (mkF m 75 #[.val (.int pa), .val (.int pb), .val (.int pr1), .val (.int pr2), .val (.int pu), .val (.int pm), .val (.int bb), .val (.int rr), .val (.int cu1), .val (.int cu2), .val (.int kd), .unset, .unset, .unset, .unset, .unset] [(.int cu1), (.int pr1), (.ref r132), (.ref b129), (.ref b129)])) _
    refine st136 _ ?_
    show Steps _ _ _ (T136.setTop (mkF m 78 #[.val (.int pa), .val (.int pb), .val (.int pr1), .val (.int pr2), .val (.int pu), .val (.int pm), .val (.int bb), .val (.int rr), .val (.int cu1), .val (.int cu2), .val (.int kd), .unset, .unset, .unset, .unset, .unset] [(.double (own_u cu1)), (.int pr1), (.ref r132), (.ref b129), (.ref b129)])) _
    refine st137.trans ?_
    show Steps _ _ _ (T137.setTop (mkF m 81 #[.val (.int pa), .val (.int pb), .val (.int pr1), .val (.int pr2), .val (.int pu), .val (.int pm), .val (.int bb), .val (.int rr), .val (.int cu1), .val (.int cu2), .val (.int kd), .unset, .unset, .unset, .unset, .unset] [(.ref b129)])) _
    refine XS.astore X137.here hx rfl (hb hby at_81) rfl rfl (l' := #[.val (.int pa), .val (.int pb), .val (.int pr1), .val (.int pr2), .val (.int pu), .val (.int pm), .val (.int bb), .val (.int rr), .val (.int cu1), .val (.int cu2), .val (.int kd), .val (.ref b129), .unset, .unset, .unset, .unset]) rfl ?_
    refine XS.iload X137.here hx rfl (hb hby at_83) rfl ?_
    refine XS.iconst X137.here hx rfl (hb hby at_85) ?_
    show Steps _ _ _ (T137.setTop (mkF m 86 #[.val (.int pa), .val (.int pb), .val (.int pr1), .val (.int pr2), .val (.int pu), .val (.int pm), .val (.int bb), .val (.int rr), .val (.int cu1), .val (.int cu2), .val (.int kd), .val (.ref b129), .unset, .unset, .unset, .unset] [(.int (1 : Int32)), (.int kd)])) _
    exact kt
  by_cases hk1 : kd = 1
  ·
    obtain ⟨cq143, kq143, q143a, q143b, q143c⟩ := isOf hZ131 rfl Ex137
    obtain ⟨_, _, ⟨T143, L143, k143, n143⟩, -, X143, ⟨Lc143, hQ143, l143, y143, z143⟩, st143⟩ := X137.virtualBack hx (y := (⟨"com/example/facetwise/facetwise/RankedResult", "equals", "(Ljava/lang/Object;)Z"⟩ : MethodName)) (z := (⟨"com/example/facetwise/facetwise/RankedResult", "equals", "(Ljava/lang/Object;)Z"⟩ : MethodName)) hown131 (mvT hZ131 (hw _ (List.mem_of_getElem? (i := 46) rfl))) (mvT hZ131 (hw _ (List.mem_of_getElem? (i := 47) rfl))) (notFace_of_selects (args := #[]) (mvT hZ131 (hw _ (List.mem_of_getElem? (i := 49) rfl)))) (mvT hZ131 (hw _ (List.mem_of_getElem? (i := 49) rfl))) (mvT hZ131 (hw _ (List.mem_of_getElem? (i := 48) rfl))) (by decide) (backOf (W := 0) (rmEN l Z a0 hw [] b129 T137.heap n0 (Nat.le_trans Z0 K137.1) ) hZ131 (hw _ (List.mem_of_getElem? (i := 50) rfl)) (hw _ (List.mem_of_getElem? (i := 2) rfl)) (by decide) (by decide)) q143a q143c (g := (mkF m 92 #[.val (.int pa), .val (.int pb), .val (.int pr1), .val (.int pr2), .val (.int pu), .val (.int pm), .val (.int bb), .val (.int rr), .val (.int cu1), .val (.int cu2), .val (.int kd), .val (.ref b129), .unset, .unset, .unset, .unset] [.null, (.ref b129)])) rfl (by rw [hml]; rfl) (Steps.refl _) (argsL := [.null]) (rest := []) (lenOf pd_11 rfl) rfl (by show 2 * 0 + _ ≤ _; exact Nat.le_of_eq rfl) (hb hby at_92) (fun _ _ => ⟨rfl, rfl, (by decide : 7 + 0 ≤ _), (by decide : 15 + 0 ≤ _)⟩)
    dsimp only [Pt.U, Pt.locs, Pt.cells, Pt.slots] at X143 l143 y143 z143 st143 hQ143
    rw [l143, y143, z143] at X143
    obtain ⟨hv143, Nq143, eq143⟩ := hQ143
    rw [hv143] at st143
    have N143 := Fr.app N137 Nq143
    obtain ⟨fs, hr, hrun, hended, hWide⟩ := X143.leaveW (s := s) hS131a (by rw [eq143]; exact (Nat.le_trans (Nat.le_refl _) Kc137.1)) (v := some (.int (1 : Int32))) (fun h => by rw [Bd.returns] at h; cases h)
    have hCe := CR141.trans (CHv.at (s := s) (vm0 := T131.vm) X143 hZ131 (own_hEL Z a0 hw) CR141.1)
    refine ⟨_, _, ?_, hrun, hended, _, _, rfl, ?_, (by rw [hh]; rw [← eq143] at hCe; exact hCe), hWide.1, hWide.2.1, hWide.2.2.1, hWide.2.2.2.mono (by decide) (by decide)⟩
    · refine R142 _ ?_
      show Steps _ _ _ (T137.setTop (mkF m 86 #[.val (.int pa), .val (.int pb), .val (.int pr1), .val (.int pr2), .val (.int pu), .val (.int pm), .val (.int bb), .val (.int rr), .val (.int cu1), .val (.int cu2), .val (.int kd), .val (.ref b129), .unset, .unset, .unset, .unset] [(.int (1 : Int32)), (.int kd)])) _
      refine XS.icmpNo X137.here hx rfl (hb hby at_86) rfl (teq hk1).2 ?_
      refine XS.aload X137.here hx rfl (hb hby at_89) rfl rfl ?_
      refine XS.aconstNull X137.here hx rfl (hb hby at_91) ?_
      show Steps _ _ _ (T137.setTop (mkF m 92 #[.val (.int pa), .val (.int pb), .val (.int pr1), .val (.int pr2), .val (.int pu), .val (.int pm), .val (.int bb), .val (.int rr), .val (.int cu1), .val (.int cu2), .val (.int kd), .val (.ref b129), .unset, .unset, .unset, .unset] [.null, (.ref b129)])) _
      refine st143.trans ?_
      show Steps _ _ _ (T143.setTop (mkF m 95 #[.val (.int pa), .val (.int pb), .val (.int pr1), .val (.int pr2), .val (.int pu), .val (.int pm), .val (.int bb), .val (.int rr), .val (.int cu1), .val (.int cu2), .val (.int kd), .val (.ref b129), .unset, .unset, .unset, .unset] [(.int (0 : Int32))])) _
      refine XS.ifNo X143.here hx rfl (hb hby at_95) rfl (by decide) ?_
      refine XS.iconst X143.here hx rfl (hb hby at_98) ?_
      refine XS.goto X143.here hx rfl (pc0 := 99) (pc' := 103) rfl (hb hby at_99) (by decide) (by decide) ?_
      show Steps _ _ _ (T143.setTop (mkF m 103 #[.val (.int pa), .val (.int pb), .val (.int pr1), .val (.int pr2), .val (.int pu), .val (.int pm), .val (.int bb), .val (.int rr), .val (.int cu1), .val (.int cu2), .val (.int kd), .val (.ref b129), .unset, .unset, .unset, .unset] [(.int (1 : Int32))])) _
      exact retN X143 hx (t := .boolean) Bd.returns (by simp) (hb hby at_103) hr
    · show Q0 Z pa pb pr1 pr2 pu pm G1 h0 n0 _ T143.heap _
      rw [eq143]
      exact ⟨rfl, N143⟩
  ·
    have R144 : ∀ t, Steps p.tables e below (T137.setTop (mkF m 107 #[.val (.int pa), .val (.int pb), .val (.int pr1), .val (.int pr2), .val (.int pu), .val (.int pm), .val (.int bb), .val (.int rr), .val (.int cu1), .val (.int cu2), .val (.int kd), .val (.ref b129), .unset, .unset, .unset, .unset] [(.int (2 : Int32)), (.int kd)])) t → Steps p.tables e below (s₁.setTop (entryFrame m #[(.int pa), (.int pb), (.int pr1), (.int pr2), (.int pu), (.int pm)] maxLocals)) t := by
      intro t kt
      refine R142 _ ?_
      show Steps _ _ _ (T137.setTop (mkF m 86 #[.val (.int pa), .val (.int pb), .val (.int pr1), .val (.int pr2), .val (.int pu), .val (.int pm), .val (.int bb), .val (.int rr), .val (.int cu1), .val (.int cu2), .val (.int kd), .val (.ref b129), .unset, .unset, .unset, .unset] [(.int (1 : Int32)), (.int kd)])) _
      refine XS.icmpYes X137.here hx rfl (pc0 := 86) (pc' := 104) rfl (hb hby at_86) rfl (feq hk1).2 (by decide) (by decide) ?_
      refine XS.iload X137.here hx rfl (hb hby at_104) rfl ?_
      refine XS.iconst X137.here hx rfl (hb hby at_106) ?_
      show Steps _ _ _ (T137.setTop (mkF m 107 #[.val (.int pa), .val (.int pb), .val (.int pr1), .val (.int pr2), .val (.int pu), .val (.int pm), .val (.int bb), .val (.int rr), .val (.int cu1), .val (.int cu2), .val (.int kd), .val (.ref b129), .unset, .unset, .unset, .unset] [(.int (2 : Int32)), (.int kd)])) _
      exact kt
    by_cases hk2 : kd = 2
    ·
      have f147 := f133.keep Kc131 all0
      have f148 := f147.keep Kc137 (allS g_b129 all0)
      obtain ⟨_, _, ⟨T145, L145, k145, n145⟩, -, X145, hS145, hG145, ⟨Lc145, hQ145, l145, y145, z145, hC145⟩, st145⟩ := callSS X137 hx (y := (⟨"com/example/facetwise/facetwise/RankedResultEqualsPinLaw", "mk", "(I)Ljava/lang/String;"⟩ : MethodName)) hown131 (mvT hZ131 (hw _ (List.mem_of_getElem? (i := 3) rfl))) (mvT hZ131 (hw _ (List.mem_of_getElem? (i := 4) rfl))) (mvT hZ131 (hw _ (List.mem_of_getElem? (i := 5) rfl))) (mvT hZ131 (hw _ (List.mem_of_getElem? (i := 6) rfl))) (by decide) (backOfSH (s := s) (vm0 := T131.vm) (W := 1) (rmMK l Z a0 hw [] pa G1 T137.heap n0 (Nat.le_trans Z0 K137.1) O2 P5 f148) hZ131 (hw _ (List.mem_of_getElem? (i := 6) rfl)) (hw _ (List.mem_of_getElem? (i := 5) rfl)) (by decide) (by decide) (own_hEL Z a0 hw) CR141.1) (g := (mkF m 113 #[.val (.int pa), .val (.int pb), .val (.int pr1), .val (.int pr2), .val (.int pu), .val (.int pm), .val (.int bb), .val (.int rr), .val (.int cu1), .val (.int cu2), .val (.int kd), .val (.ref b129), .unset, .unset, .unset, .unset] [(.int pa), (.ref b129)])) rfl (by rw [hml]; rfl) (argsL := [(.int pa)]) (rest := [(.ref b129)]) (lenOf pd_13 rfl) rfl (by show 2 * 0 + _ ≤ _; exact Nat.le_of_eq rfl) (hb hby at_113) (fun _ _ => ⟨rfl, rfl, (by decide : 7 + 6 ≤ _), (by decide : 15 + 12 ≤ _)⟩)
      dsimp only [Pt.U, Pt.locs, Pt.cells, Pt.slots] at X145 l145 y145 z145 st145 hQ145 hS145 hG145 hC145
      rw [l145, y145, z145] at X145
      have hS145a : s.Since T145.vm T145.heap.size := hS131a.trans hS145 (Nat.le_trans (Nat.le_trans (Nat.le_refl _) Kc137.1) hG145)
      have hZ145 : Z.Warmed39 (s.setVm T145.vm).vm := State.Warmed39.trans hZ131 hS145.1
      have hown145 : (s.setVm T145.vm).vm.findClass "com/example/facetwise/facetwise/RankedResultEqualsPinLaw" = some m.cls := (hS145.1.alike.findClass _ _).trans hown131
      obtain ⟨r146, t146, kt146, hv145, Nq145, Kc145, Ex145, Fv145, Fc145, Vt145, szr145, g_r146⟩ := hQ145
      rw [hv145] at st145
      have K145 : Keep h0 T145.heap [] := K137.trans Kc145 all0
      have CR149 := CR141.trans hC145
      have f150 := Ex137.keep Kc145
      have ne_b129_r146 : b129 ≠ r146 := ne_exa f150 Ex145 (by decide)
      have ne_b129_t146 : b129 ≠ t146 := Exa.neArv f150 Vt145 (hw _ (List.mem_of_getElem? (i := 1) rfl))
      have sz_r146 : h0.size ≤ r146 := Nat.le_trans K137.1 szr145
      have N145 := Fr.app N137 Nq145
      obtain ⟨cq151, kq151, q151a, q151b, q151c⟩ := isOf hZ145 rfl f150
      obtain ⟨_, _, ⟨T151, L151, k151, n151⟩, -, X151, ⟨Lc151, hQ151, l151, y151, z151⟩, st151⟩ := X145.virtualBack hx (y := (⟨"com/example/facetwise/facetwise/RankedResult", "equals", "(Ljava/lang/Object;)Z"⟩ : MethodName)) (z := (⟨"com/example/facetwise/facetwise/RankedResult", "equals", "(Ljava/lang/Object;)Z"⟩ : MethodName)) hown145 (mvT hZ145 (hw _ (List.mem_of_getElem? (i := 46) rfl))) (mvT hZ145 (hw _ (List.mem_of_getElem? (i := 47) rfl))) (notFace_of_selects (args := #[]) (mvT hZ145 (hw _ (List.mem_of_getElem? (i := 49) rfl)))) (mvT hZ145 (hw _ (List.mem_of_getElem? (i := 49) rfl))) (mvT hZ145 (hw _ (List.mem_of_getElem? (i := 48) rfl))) (by decide) (backOf (W := 0) (rmES l Z a0 hw [] b129 r146 T145.heap n0 (Nat.le_trans Z0 K145.1) Ex145) hZ145 (hw _ (List.mem_of_getElem? (i := 50) rfl)) (hw _ (List.mem_of_getElem? (i := 2) rfl)) (by decide) (by decide)) q151a q151c (g := (mkF m 116 #[.val (.int pa), .val (.int pb), .val (.int pr1), .val (.int pr2), .val (.int pu), .val (.int pm), .val (.int bb), .val (.int rr), .val (.int cu1), .val (.int cu2), .val (.int kd), .val (.ref b129), .unset, .unset, .unset, .unset] [(.ref r146), (.ref b129)])) rfl (by rw [hml]; rfl) (Steps.refl _) (argsL := [(.ref r146)]) (rest := []) (lenOf pd_11 rfl) rfl (by show 2 * 0 + _ ≤ _; exact Nat.le_of_eq rfl) (hb hby at_116) (fun _ _ => ⟨rfl, rfl, (by decide : 13 + 0 ≤ _), (by decide : 27 + 0 ≤ _)⟩)
      dsimp only [Pt.U, Pt.locs, Pt.cells, Pt.slots] at X151 l151 y151 z151 st151 hQ151
      rw [l151, y151, z151] at X151
      obtain ⟨hv151, Nq151, eq151⟩ := hQ151
      rw [hv151] at st151
      have N151 := Fr.app N145 Nq151
      obtain ⟨fs, hr, hrun, hended, hWide⟩ := X151.leaveW (s := s) hS145a (by rw [eq151]; exact (Nat.le_refl _)) (v := some (.int (1 : Int32))) (fun h => by rw [Bd.returns] at h; cases h)
      have hCe := CR149.trans (CHv.at (s := s) (vm0 := T145.vm) X151 hZ145 (own_hEL Z a0 hw) CR149.1)
      refine ⟨_, _, ?_, hrun, hended, _, _, rfl, ?_, (by rw [hh]; rw [← eq151] at hCe; exact hCe), hWide.1, hWide.2.1, hWide.2.2.1, hWide.2.2.2.mono (by decide) (by decide)⟩
      · refine R144 _ ?_
        show Steps _ _ _ (T137.setTop (mkF m 107 #[.val (.int pa), .val (.int pb), .val (.int pr1), .val (.int pr2), .val (.int pu), .val (.int pm), .val (.int bb), .val (.int rr), .val (.int cu1), .val (.int cu2), .val (.int kd), .val (.ref b129), .unset, .unset, .unset, .unset] [(.int (2 : Int32)), (.int kd)])) _
        refine XS.icmpNo X137.here hx rfl (hb hby at_107) rfl (teq hk2).2 ?_
        refine XS.aload X137.here hx rfl (hb hby at_110) rfl rfl ?_
        refine XS.iloadN X137.here hx rfl (hb hby at_112) rfl ?_
        show Steps _ _ _ (T137.setTop (mkF m 113 #[.val (.int pa), .val (.int pb), .val (.int pr1), .val (.int pr2), .val (.int pu), .val (.int pm), .val (.int bb), .val (.int rr), .val (.int cu1), .val (.int cu2), .val (.int kd), .val (.ref b129), .unset, .unset, .unset, .unset] [(.int pa), (.ref b129)])) _
        refine st145.trans ?_
        show Steps _ _ _ (T145.setTop (mkF m 116 #[.val (.int pa), .val (.int pb), .val (.int pr1), .val (.int pr2), .val (.int pu), .val (.int pm), .val (.int bb), .val (.int rr), .val (.int cu1), .val (.int cu2), .val (.int kd), .val (.ref b129), .unset, .unset, .unset, .unset] [(.ref r146), (.ref b129)])) _
        refine st151.trans ?_
        show Steps _ _ _ (T151.setTop (mkF m 119 #[.val (.int pa), .val (.int pb), .val (.int pr1), .val (.int pr2), .val (.int pu), .val (.int pm), .val (.int bb), .val (.int rr), .val (.int cu1), .val (.int cu2), .val (.int kd), .val (.ref b129), .unset, .unset, .unset, .unset] [(.int (0 : Int32))])) _
        refine XS.ifNo X151.here hx rfl (hb hby at_119) rfl (by decide) ?_
        refine XS.iconst X151.here hx rfl (hb hby at_122) ?_
        refine XS.goto X151.here hx rfl (pc0 := 123) (pc' := 127) rfl (hb hby at_123) (by decide) (by decide) ?_
        show Steps _ _ _ (T151.setTop (mkF m 127 #[.val (.int pa), .val (.int pb), .val (.int pr1), .val (.int pr2), .val (.int pu), .val (.int pm), .val (.int bb), .val (.int rr), .val (.int cu1), .val (.int cu2), .val (.int kd), .val (.ref b129), .unset, .unset, .unset, .unset] [(.int (1 : Int32))])) _
        exact retN X151 hx (t := .boolean) Bd.returns (by simp) (hb hby at_127) hr
      · show Q0 Z pa pb pr1 pr2 pu pm G1 h0 n0 _ T151.heap _
        rw [eq151]
        exact ⟨rfl, N151⟩
    ·
      have R152 : ∀ t, Steps p.tables e below (T137.setTop (mkF m 131 #[.val (.int pa), .val (.int pb), .val (.int pr1), .val (.int pr2), .val (.int pu), .val (.int pm), .val (.int bb), .val (.int rr), .val (.int cu1), .val (.int cu2), .val (.int kd), .val (.ref b129), .unset, .unset, .unset, .unset] [(.int (3 : Int32)), (.int kd)])) t → Steps p.tables e below (s₁.setTop (entryFrame m #[(.int pa), (.int pb), (.int pr1), (.int pr2), (.int pu), (.int pm)] maxLocals)) t := by
        intro t kt
        refine R144 _ ?_
        show Steps _ _ _ (T137.setTop (mkF m 107 #[.val (.int pa), .val (.int pb), .val (.int pr1), .val (.int pr2), .val (.int pu), .val (.int pm), .val (.int bb), .val (.int rr), .val (.int cu1), .val (.int cu2), .val (.int kd), .val (.ref b129), .unset, .unset, .unset, .unset] [(.int (2 : Int32)), (.int kd)])) _
        refine XS.icmpYes X137.here hx rfl (pc0 := 107) (pc' := 128) rfl (hb hby at_107) rfl (feq hk2).2 (by decide) (by decide) ?_
        refine XS.iload X137.here hx rfl (hb hby at_128) rfl ?_
        refine XS.iconst X137.here hx rfl (hb hby at_130) ?_
        show Steps _ _ _ (T137.setTop (mkF m 131 #[.val (.int pa), .val (.int pb), .val (.int pr1), .val (.int pr2), .val (.int pu), .val (.int pm), .val (.int bb), .val (.int rr), .val (.int cu1), .val (.int cu2), .val (.int kd), .val (.ref b129), .unset, .unset, .unset, .unset] [(.int (3 : Int32)), (.int kd)])) _
        exact kt
      by_cases hk3 : kd = 3
      ·
        have f154 := f133.keep Kc131 all0
        have f155 := f154.keep Kc137 (allS g_b129 all0)
        have f156 := Ex131.keep Kc137
        have f157 := Fv131.keep Kc137 (ninS (Ne.symm ne_b129_r132) nin0)
        have f158 := Fc131.keep Kc137 (ninS (Ne.symm ne_b129_r132) nin0)
        have f159 := Vt131.keep Kc137 (ninS (Ne.symm ne_b129_t132) nin0)
        obtain ⟨cq153, kq153, q153a, q153b, q153c⟩ := isOf hZ131 rfl Ex137
        obtain ⟨_, _, ⟨T153, L153, k153, n153⟩, -, X153, ⟨Lc153, hQ153, l153, y153, z153⟩, st153⟩ := X137.virtualBack hx (y := (⟨"com/example/facetwise/facetwise/RankedResult", "equals", "(Ljava/lang/Object;)Z"⟩ : MethodName)) (z := (⟨"com/example/facetwise/facetwise/RankedResult", "equals", "(Ljava/lang/Object;)Z"⟩ : MethodName)) hown131 (mvT hZ131 (hw _ (List.mem_of_getElem? (i := 46) rfl))) (mvT hZ131 (hw _ (List.mem_of_getElem? (i := 47) rfl))) (notFace_of_selects (args := #[]) (mvT hZ131 (hw _ (List.mem_of_getElem? (i := 49) rfl)))) (mvT hZ131 (hw _ (List.mem_of_getElem? (i := 49) rfl))) (mvT hZ131 (hw _ (List.mem_of_getElem? (i := 48) rfl))) (by decide) (backOf (W := 0) (rmEQ l Z a0 hw [] b129 b129 G1 r132 t132 kt132 pa pr1 (own_u cu1) r132 t132 kt132 pa pr1 (own_u cu1) T137.heap n0 (Nat.le_trans Z0 K137.1) O2 P5 f155 Ex137 Fi137 Fk137 Fu137 f156 f157 f158 f159 NNu1 Ex137 Fi137 Fk137 Fu137 f156 f157 f158 f159 NNu1) hZ131 (hw _ (List.mem_of_getElem? (i := 50) rfl)) (hw _ (List.mem_of_getElem? (i := 2) rfl)) (by decide) (by decide)) q153a q153c (g := (mkF m 138 #[.val (.int pa), .val (.int pb), .val (.int pr1), .val (.int pr2), .val (.int pu), .val (.int pm), .val (.int bb), .val (.int rr), .val (.int cu1), .val (.int cu2), .val (.int kd), .val (.ref b129), .unset, .unset, .unset, .unset] [(.ref b129), (.ref b129)])) rfl (by rw [hml]; rfl) (Steps.refl _) (argsL := [(.ref b129)]) (rest := []) (lenOf pd_11 rfl) rfl (by show 2 * 0 + _ ≤ _; exact Nat.le_of_eq rfl) (hb hby at_138) (fun _ _ => ⟨rfl, rfl, (by decide : 7 + 0 ≤ _), (by decide : 15 + 0 ≤ _)⟩)
        dsimp only [Pt.U, Pt.locs, Pt.cells, Pt.slots] at X153 l153 y153 z153 st153 hQ153
        rw [l153, y153, z153] at X153
        obtain ⟨hv153, Nq153, eq153⟩ := hQ153
        rw [hv153] at st153
        have N153 := Fr.app N137 Nq153
        rw [if_pos ⟨rfl, rfl, rfl⟩] at st153
        obtain ⟨fs, hr, hrun, hended, hWide⟩ := X153.leaveW (s := s) hS131a (by rw [eq153]; exact (Nat.le_trans (Nat.le_refl _) Kc137.1)) (v := some (.int (1 : Int32))) (fun h => by rw [Bd.returns] at h; cases h)
        have hCe := CR141.trans (CHv.at (s := s) (vm0 := T131.vm) X153 hZ131 (own_hEL Z a0 hw) CR141.1)
        refine ⟨_, _, ?_, hrun, hended, _, _, rfl, ?_, (by rw [hh]; rw [← eq153] at hCe; exact hCe), hWide.1, hWide.2.1, hWide.2.2.1, hWide.2.2.2.mono (by decide) (by decide)⟩
        · refine R152 _ ?_
          show Steps _ _ _ (T137.setTop (mkF m 131 #[.val (.int pa), .val (.int pb), .val (.int pr1), .val (.int pr2), .val (.int pu), .val (.int pm), .val (.int bb), .val (.int rr), .val (.int cu1), .val (.int cu2), .val (.int kd), .val (.ref b129), .unset, .unset, .unset, .unset] [(.int (3 : Int32)), (.int kd)])) _
          refine XS.icmpNo X137.here hx rfl (hb hby at_131) rfl (teq hk3).2 ?_
          refine XS.aload X137.here hx rfl (hb hby at_134) rfl rfl ?_
          refine XS.aload X137.here hx rfl (hb hby at_136) rfl rfl ?_
          show Steps _ _ _ (T137.setTop (mkF m 138 #[.val (.int pa), .val (.int pb), .val (.int pr1), .val (.int pr2), .val (.int pu), .val (.int pm), .val (.int bb), .val (.int rr), .val (.int cu1), .val (.int cu2), .val (.int kd), .val (.ref b129), .unset, .unset, .unset, .unset] [(.ref b129), (.ref b129)])) _
          refine st153.trans ?_
          show Steps _ _ _ (T153.setTop (mkF m 141 #[.val (.int pa), .val (.int pb), .val (.int pr1), .val (.int pr2), .val (.int pu), .val (.int pm), .val (.int bb), .val (.int rr), .val (.int cu1), .val (.int cu2), .val (.int kd), .val (.ref b129), .unset, .unset, .unset, .unset] [(.int (1 : Int32))])) _
          exact retN X153 hx (t := .boolean) Bd.returns (by simp) (hb hby at_141) hr
        · show Q0 Z pa pb pr1 pr2 pu pm G1 h0 n0 _ T153.heap _
          rw [eq153]
          exact ⟨rfl, N153⟩
      ·
        obtain ⟨T160, h160, X160, e160, E160, A160, D160, -, st160⟩ := newO X137 hx hZ131 hown131 (hw _ (List.mem_of_getElem? (i := 0) rfl)) (hw _ (List.mem_of_getElem? (i := 1) rfl)) (hw _ (List.mem_of_getElem? (i := 2) rfl)) rfl (g := (mkF m 142 #[.val (.int pa), .val (.int pb), .val (.int pr1), .val (.int pr2), .val (.int pu), .val (.int pm), .val (.int bb), .val (.int rr), .val (.int cu1), .val (.int cu2), .val (.int kd), .val (.ref b129), .unset, .unset, .unset, .unset] [])) rfl (hb hby at_142) (by decide) (by decide)
        obtain ⟨b160, g160⟩ : ∃ z, z = T137.heap.size := ⟨_, rfl⟩
        rw [← g160] at A160 D160 st160
        have lt_b129_b160 : b129 < b160 := Nat.lt_of_lt_of_le Ex137.lt (Nat.le_of_eq g160.symm)
        have f161 := Ex131.keep Kc137
        have lt_r132_b160 : r132 < b160 := Nat.lt_of_lt_of_le f161.lt (Nat.le_of_eq g160.symm)
        have f162 := Vt131.keep Kc137 (ninS (Ne.symm ne_b129_t132) nin0)
        have lt_t132_b160 : t132 < b160 := Nat.lt_of_lt_of_le f162.lt (Nat.le_of_eq g160.symm)
        have g_b160 : n0 ≤ b160 := Nat.le_trans (Nat.le_trans Z0 K137.1) (Nat.le_of_eq g160.symm)
        have sz_b160 : h0.size ≤ b160 := Nat.le_trans K137.1 (Nat.le_of_eq g160.symm)
        have CR163 := CR141.trans (CHr.ext E160 CR141.1)
        have K160 : Keep h0 h160 [] := K137.ext E160
        have F160_id : Fld Z h160 b160 "com/example/facetwise/facetwise/RankedResult" "id" "Ljava/lang/String;" .null := D160 (Or.inr (hw _ (List.mem_of_getElem? (i := 41) rfl))) (ty := (.object "java/lang/String")) (by decide)
        have F160_rank : Fld Z h160 b160 "com/example/facetwise/facetwise/RankedResult" "rank" "I" (.int (0 : Int32)) := D160 (Or.inr (hw _ (List.mem_of_getElem? (i := 43) rfl))) (ty := .int) (by decide)
        have F160_utility : Fld Z h160 b160 "com/example/facetwise/facetwise/RankedResult" "utility" "D" (.double FP.dconst0) := D160 (Or.inr (hw _ (List.mem_of_getElem? (i := 45) rfl))) (ty := .double) (by decide)
        have f166 := f133.keep Kc131 all0
        have f167 := f166.keep Kc137 (allS g_b129 all0)
        have f168 := f167.ext E160
        obtain ⟨_, _, ⟨T164, L164, k164, n164⟩, -, X164, hS164, hG164, ⟨Lc164, hQ164, l164, y164, z164, hC164⟩, st164⟩ := callSS X160 hx (y := (⟨"com/example/facetwise/facetwise/RankedResultEqualsPinLaw", "mk", "(I)Ljava/lang/String;"⟩ : MethodName)) hown131 (mvT hZ131 (hw _ (List.mem_of_getElem? (i := 3) rfl))) (mvT hZ131 (hw _ (List.mem_of_getElem? (i := 4) rfl))) (mvT hZ131 (hw _ (List.mem_of_getElem? (i := 5) rfl))) (mvT hZ131 (hw _ (List.mem_of_getElem? (i := 6) rfl))) (by decide) (backOfSH (s := s) (vm0 := T131.vm) (W := 2) (rmMK l Z a0 hw [] bb G1 h160 n0 (Nat.le_trans Z0 K160.1) O2 P5 f168) hZ131 (hw _ (List.mem_of_getElem? (i := 6) rfl)) (hw _ (List.mem_of_getElem? (i := 5) rfl)) (by decide) (by decide) (own_hEL Z a0 hw) CR163.1) (g := (mkF m 148 #[.val (.int pa), .val (.int pb), .val (.int pr1), .val (.int pr2), .val (.int pu), .val (.int pm), .val (.int bb), .val (.int rr), .val (.int cu1), .val (.int cu2), .val (.int kd), .val (.ref b129), .unset, .unset, .unset, .unset] [(.int bb), (.ref b160), (.ref b160)])) rfl (by rw [hml]; rfl) (argsL := [(.int bb)]) (rest := [(.ref b160), (.ref b160)]) (lenOf pd_13 rfl) rfl (by show 2 * 0 + _ ≤ _; exact Nat.le_of_eq rfl) (hb hby at_148) (fun _ _ => ⟨rfl, e160, (by decide : 8 + 6 ≤ _), (by decide : 18 + 12 ≤ _)⟩)
        dsimp only [Pt.U, Pt.locs, Pt.cells, Pt.slots] at X164 l164 y164 z164 st164 hQ164 hS164 hG164 hC164
        rw [l164, y164, z164] at X164
        have hS164a : s.Since T164.vm T164.heap.size := hS131a.trans hS164 (Nat.le_trans (by rw [e160]; exact (Nat.le_trans (Nat.le_trans (Nat.le_refl _) Kc137.1) E160.1)) hG164)
        have hZ164 : Z.Warmed39 (s.setVm T164.vm).vm := State.Warmed39.trans hZ131 hS164.1
        have hown164 : (s.setVm T164.vm).vm.findClass "com/example/facetwise/facetwise/RankedResultEqualsPinLaw" = some m.cls := (hS164.1.alike.findClass _ _).trans hown131
        obtain ⟨r165, t165, kt165, hv164, Nq164, Kc164, Ex164, Fv164, Fc164, Vt164, szr164, g_r165⟩ := hQ164
        rw [hv164] at st164
        have K164 : Keep h0 T164.heap [] := K160.trans Kc164 all0
        have CR169 := CR163.trans hC164
        have f170 := Ex137.ext E160
        have f171 := f170.keep Kc164
        have ne_b129_r165 : b129 ≠ r165 := ne_exa f171 Ex164 (by decide)
        have ne_b129_t165 : b129 ≠ t165 := Exa.neArv f171 Vt164 (hw _ (List.mem_of_getElem? (i := 1) rfl))
        have f172 := A160.keep Kc164
        have ne_b160_r165 : b160 ≠ r165 := ne_exa f172 Ex164 (by decide)
        have ne_b160_t165 : b160 ≠ t165 := Exa.neArv f172 Vt164 (hw _ (List.mem_of_getElem? (i := 1) rfl))
        have sz_r165 : h0.size ≤ r165 := Nat.le_trans K160.1 szr164
        have N164 := Fr.app N137 Nq164
        obtain ⟨_, _, ⟨T173, L173, k173, n173⟩, -, X173, ⟨Lc173, hQ173, l173, y173, z173⟩, st173⟩ := Jvm.LawKit.callS X164 hx (y := (⟨"com/example/facetwise/facetwise/RankedResultEqualsPinLaw", "util", "(I)D"⟩ : MethodName)) hown164 (mvT hZ164 (hw _ (List.mem_of_getElem? (i := 33) rfl))) (mvT hZ164 (hw _ (List.mem_of_getElem? (i := 34) rfl))) (mvT hZ164 (hw _ (List.mem_of_getElem? (i := 5) rfl))) (mvT hZ164 (hw _ (List.mem_of_getElem? (i := 35) rfl))) (by decide) (backOf (W := 4) (rmUT l Z a0 hw [] cu2 T164.heap n0 (Nat.le_trans Z0 K164.1) ) hZ164 (hw _ (List.mem_of_getElem? (i := 35) rfl)) (hw _ (List.mem_of_getElem? (i := 5) rfl)) (by decide) (by decide)) (g := (mkF m 155 #[.val (.int pa), .val (.int pb), .val (.int pr1), .val (.int pr2), .val (.int pu), .val (.int pm), .val (.int bb), .val (.int rr), .val (.int cu1), .val (.int cu2), .val (.int kd), .val (.ref b129), .unset, .unset, .unset, .unset] [(.int cu2), (.int rr), (.ref r165), (.ref b160), (.ref b160)])) rfl (by rw [hml]; rfl) (argsL := [(.int cu2)]) (rest := [(.int rr), (.ref r165), (.ref b160), (.ref b160)]) (lenOf pd_14 rfl) rfl (by show 2 * 0 + _ ≤ _; exact Nat.le_of_eq rfl) (hb hby at_155) (fun _ _ => ⟨rfl, rfl, (by decide : 14 + 0 ≤ _), (by decide : 30 + 0 ≤ _)⟩)
        dsimp only [Pt.U, Pt.locs, Pt.cells, Pt.slots] at X173 l173 y173 z173 st173 hQ173
        rw [l173, y173, z173] at X173
        obtain ⟨hv173, Nq173, eq173⟩ := hQ173
        rw [hv173] at st173
        have N173 := Fr.app N164 Nq173
        have f175 := F160_id.keep Kc164 nin0
        have f176 := F160_rank.keep Kc164 nin0
        have f177 := F160_utility.keep Kc164 nin0
        obtain ⟨_, _, ⟨T174, L174, k174, n174⟩, -, X174, ⟨Lc174, hQ174, l174, y174, z174⟩, st174⟩ := X173.specialBack hx (y := (⟨"com/example/facetwise/facetwise/RankedResult", "<init>", "(Ljava/lang/String;ID)V"⟩ : MethodName)) rfl hown164 (mvT hZ164 (hw _ (List.mem_of_getElem? (i := 36) rfl))) (mvT hZ164 (hw _ (List.mem_of_getElem? (i := 37) rfl))) (mvT hZ164 (hw _ (List.mem_of_getElem? (i := 38) rfl))) (by decide) (backOf (W := 1) (rmRI l Z a0 hw [] b160 r165 rr (own_u cu2) T164.heap n0 (Nat.le_trans Z0 K164.1) f172 f175 f176 f177 g_b160) hZ164 (hw _ (List.mem_of_getElem? (i := 38) rfl)) (hw _ (List.mem_of_getElem? (i := 2) rfl)) (by decide) (by decide)) (g := (mkF m 158 #[.val (.int pa), .val (.int pb), .val (.int pr1), .val (.int pr2), .val (.int pu), .val (.int pm), .val (.int bb), .val (.int rr), .val (.int cu1), .val (.int cu2), .val (.int kd), .val (.ref b129), .unset, .unset, .unset, .unset] [(.double (own_u cu2)), (.int rr), (.ref r165), (.ref b160), (.ref b160)])) rfl (by rw [hml]; rfl) (Steps.refl _) (a := b160) (argsL := [(.ref r165), (.int rr), (.double (own_u cu2))]) (rest := [(.ref b160)]) (lenOf pd_15 rfl) rfl (by show 2 * 0 + _ ≤ _; exact Nat.le_of_eq rfl) (hb hby at_158) (fun _ _ => ⟨rfl, eq173, (by decide : 14 + 0 ≤ _), (by decide : 30 + 0 ≤ _)⟩)
        dsimp only [Pt.U, Pt.locs, Pt.cells, Pt.slots] at X174 l174 y174 z174 st174 hQ174
        rw [l174, y174, z174] at X174
        obtain ⟨hv174, Nq174, Kc174, Ex174, Fi174, Fk174, Fu174⟩ := hQ174
        rw [hv174] at st174
        have K174 : Keep h0 T174.heap [] := K164.trans Kc174 (allS (P := fun x => x ∈ [] ∨ h0.size ≤ x) (Or.inr sz_b160) all0)
        have CR178 := CR169.trans (CHr.keep Kc174 (allS (Safe.exa hZ164.alike f172 (by decide) (by decide)) all0) CR169.1)
        have N174 := Fr.app N173 Nq174
        obtain ⟨_, _, ⟨T179, L179, k179, n179⟩, -, X179, ⟨Lc179, hQ179, l179, y179, z179⟩, st179⟩ := Jvm.LawKit.callS X174 hx (y := (⟨"com/example/facetwise/facetwise/RankedResultEqualsPinLaw", "len", "(I)I"⟩ : MethodName)) hown164 (mvT hZ164 (hw _ (List.mem_of_getElem? (i := 7) rfl))) (mvT hZ164 (hw _ (List.mem_of_getElem? (i := 8) rfl))) (mvT hZ164 (hw _ (List.mem_of_getElem? (i := 5) rfl))) (mvT hZ164 (hw _ (List.mem_of_getElem? (i := 9) rfl))) (by decide) (backOf (W := 0) (rmLEN l Z a0 hw [] pa T174.heap n0 (Nat.le_trans Z0 K174.1) ) hZ164 (hw _ (List.mem_of_getElem? (i := 9) rfl)) (hw _ (List.mem_of_getElem? (i := 5) rfl)) (by decide) (by decide)) (g := (mkF m 164 #[.val (.int pa), .val (.int pb), .val (.int pr1), .val (.int pr2), .val (.int pu), .val (.int pm), .val (.int bb), .val (.int rr), .val (.int cu1), .val (.int cu2), .val (.int kd), .val (.ref b129), .val (.ref b160), .unset, .unset, .unset] [(.int pa)])) rfl (by rw [hml]; rfl) (argsL := [(.int pa)]) (rest := []) (lenOf pd_7 rfl) rfl (by show 2 * 0 + _ ≤ _; exact Nat.le_of_eq rfl) (hb hby at_164) (fun _ _ => ⟨rfl, rfl, (by decide : 14 + 0 ≤ _), (by decide : 30 + 0 ≤ _)⟩)
        dsimp only [Pt.U, Pt.locs, Pt.cells, Pt.slots] at X179 l179 y179 z179 st179 hQ179
        rw [l179, y179, z179] at X179
        obtain ⟨hv179, Nq179, eq179⟩ := hQ179
        rw [hv179] at st179
        have N179 := Fr.app N174 Nq179
        obtain ⟨_, _, ⟨T180, L180, k180, n180⟩, -, X180, ⟨Lc180, hQ180, l180, y180, z180⟩, st180⟩ := Jvm.LawKit.callS X179 hx (y := (⟨"com/example/facetwise/facetwise/RankedResultEqualsPinLaw", "len", "(I)I"⟩ : MethodName)) hown164 (mvT hZ164 (hw _ (List.mem_of_getElem? (i := 7) rfl))) (mvT hZ164 (hw _ (List.mem_of_getElem? (i := 8) rfl))) (mvT hZ164 (hw _ (List.mem_of_getElem? (i := 5) rfl))) (mvT hZ164 (hw _ (List.mem_of_getElem? (i := 9) rfl))) (by decide) (backOf (W := 1) (rmLEN l Z a0 hw [] bb T174.heap n0 (Nat.le_trans Z0 K174.1) ) hZ164 (hw _ (List.mem_of_getElem? (i := 9) rfl)) (hw _ (List.mem_of_getElem? (i := 5) rfl)) (by decide) (by decide)) (g := (mkF m 173 #[.val (.int pa), .val (.int pb), .val (.int pr1), .val (.int pr2), .val (.int pu), .val (.int pm), .val (.int bb), .val (.int rr), .val (.int cu1), .val (.int cu2), .val (.int kd), .val (.ref b129), .val (.ref b160), .val (.int (own_len pa)), .unset, .unset] [(.int bb), (.int (own_len pa))])) rfl (by rw [hml]; rfl) (argsL := [(.int bb)]) (rest := [(.int (own_len pa))]) (lenOf pd_7 rfl) rfl (by show 2 * 0 + _ ≤ _; exact Nat.le_of_eq rfl) (hb hby at_173) (fun _ _ => ⟨rfl, eq179, (by decide : 14 + 0 ≤ _), (by decide : 30 + 0 ≤ _)⟩)
        dsimp only [Pt.U, Pt.locs, Pt.cells, Pt.slots] at X180 l180 y180 z180 st180 hQ180
        rw [l180, y180, z180] at X180
        obtain ⟨hv180, Nq180, eq180⟩ := hQ180
        rw [hv180] at st180
        have N180 := Fr.app N179 Nq180
        have R181 : ∀ t, Steps p.tables e below (T180.setTop (mkF m 176 #[.val (.int pa), .val (.int pb), .val (.int pr1), .val (.int pr2), .val (.int pu), .val (.int pm), .val (.int bb), .val (.int rr), .val (.int cu1), .val (.int cu2), .val (.int kd), .val (.ref b129), .val (.ref b160), .val (.int (own_len pa)), .unset, .unset] [(.int (own_len bb)), (.int (own_len pa))])) t → Steps p.tables e below (s₁.setTop (entryFrame m #[(.int pa), (.int pb), (.int pr1), (.int pr2), (.int pu), (.int pm)] maxLocals)) t := by
          intro t kt
          refine R152 _ ?_
          show Steps _ _ _ (T137.setTop (mkF m 131 #[.val (.int pa), .val (.int pb), .val (.int pr1), .val (.int pr2), .val (.int pu), .val (.int pm), .val (.int bb), .val (.int rr), .val (.int cu1), .val (.int cu2), .val (.int kd), .val (.ref b129), .unset, .unset, .unset, .unset] [(.int (3 : Int32)), (.int kd)])) _
          refine XS.icmpYes X137.here hx rfl (pc0 := 131) (pc' := 142) rfl (hb hby at_131) rfl (feq hk3).2 (by decide) (by decide) ?_
          show Steps _ _ _ (T137.setTop (mkF m 142 #[.val (.int pa), .val (.int pb), .val (.int pr1), .val (.int pr2), .val (.int pu), .val (.int pm), .val (.int bb), .val (.int rr), .val (.int cu1), .val (.int cu2), .val (.int kd), .val (.ref b129), .unset, .unset, .unset, .unset] [])) _
          refine st160 _ ?_
          refine XS.dup X160.here hx rfl (hb hby at_145) rfl rfl ?_
          refine XS.iload X160.here hx rfl (hb hby at_146) rfl ?_
          show Steps _ _ _ (T160.setTop (mkF m 148 #[.val (.int pa), .val (.int pb), .val (.int pr1), .val (.int pr2), .val (.int pu), .val (.int pm), .val (.int bb), .val (.int rr), .val (.int cu1), .val (.int cu2), .val (.int kd), .val (.ref b129), .unset, .unset, .unset, .unset] [(.int bb), (.ref b160), (.ref b160)])) _
          refine st164.trans ?_
          show Steps _ _ _ (T164.setTop (mkF m 151 #[.val (.int pa), .val (.int pb), .val (.int pr1), .val (.int pr2), .val (.int pu), .val (.int pm), .val (.int bb), .val (.int rr), .val (.int cu1), .val (.int cu2), .val (.int kd), .val (.ref b129), .unset, .unset, .unset, .unset] [(.ref r165), (.ref b160), (.ref b160)])) _
          refine XS.iload X164.here hx rfl (hb hby at_151) rfl ?_
          refine XS.iload X164.here hx rfl (hb hby at_153) rfl ?_
          show Steps _ _ _ (T164.setTop (mkF m 155 #[.val (.int pa), .val (.int pb), .val (.int pr1), .val (.int pr2), .val (.int pu), .val (.int pm), .val (.int bb), .val (.int rr), .val (.int cu1), .val (.int cu2), .val (.int kd), .val (.ref b129), .unset, .unset, .unset, .unset] [(.int cu2), (.int rr), (.ref r165), (.ref b160), (.ref b160)])) _
          refine st173 _ ?_
          show Steps _ _ _ (T173.setTop (mkF m 158 #[.val (.int pa), .val (.int pb), .val (.int pr1), .val (.int pr2), .val (.int pu), .val (.int pm), .val (.int bb), .val (.int rr), .val (.int cu1), .val (.int cu2), .val (.int kd), .val (.ref b129), .unset, .unset, .unset, .unset] [(.double (own_u cu2)), (.int rr), (.ref r165), (.ref b160), (.ref b160)])) _
          refine st174.trans ?_
          show Steps _ _ _ (T174.setTop (mkF m 161 #[.val (.int pa), .val (.int pb), .val (.int pr1), .val (.int pr2), .val (.int pu), .val (.int pm), .val (.int bb), .val (.int rr), .val (.int cu1), .val (.int cu2), .val (.int kd), .val (.ref b129), .unset, .unset, .unset, .unset] [(.ref b160)])) _
          refine XS.astore X174.here hx rfl (hb hby at_161) rfl rfl (l' := #[.val (.int pa), .val (.int pb), .val (.int pr1), .val (.int pr2), .val (.int pu), .val (.int pm), .val (.int bb), .val (.int rr), .val (.int cu1), .val (.int cu2), .val (.int kd), .val (.ref b129), .val (.ref b160), .unset, .unset, .unset]) rfl ?_
          refine XS.iloadN X174.here hx rfl (hb hby at_163) rfl ?_
          show Steps _ _ _ (T174.setTop (mkF m 164 #[.val (.int pa), .val (.int pb), .val (.int pr1), .val (.int pr2), .val (.int pu), .val (.int pm), .val (.int bb), .val (.int rr), .val (.int cu1), .val (.int cu2), .val (.int kd), .val (.ref b129), .val (.ref b160), .unset, .unset, .unset] [(.int pa)])) _
          refine st179 _ ?_
          show Steps _ _ _ (T179.setTop (mkF m 167 #[.val (.int pa), .val (.int pb), .val (.int pr1), .val (.int pr2), .val (.int pu), .val (.int pm), .val (.int bb), .val (.int rr), .val (.int cu1), .val (.int cu2), .val (.int kd), .val (.ref b129), .val (.ref b160), .unset, .unset, .unset] [(.int (own_len pa))])) _
          refine XS.istore X179.here hx rfl (hb hby at_167) rfl (l' := #[.val (.int pa), .val (.int pb), .val (.int pr1), .val (.int pr2), .val (.int pu), .val (.int pm), .val (.int bb), .val (.int rr), .val (.int cu1), .val (.int cu2), .val (.int kd), .val (.ref b129), .val (.ref b160), .val (.int (own_len pa)), .unset, .unset]) rfl ?_
          refine XS.iload X179.here hx rfl (hb hby at_169) rfl ?_
          refine XS.iload X179.here hx rfl (hb hby at_171) rfl ?_
          show Steps _ _ _ (T179.setTop (mkF m 173 #[.val (.int pa), .val (.int pb), .val (.int pr1), .val (.int pr2), .val (.int pu), .val (.int pm), .val (.int bb), .val (.int rr), .val (.int cu1), .val (.int cu2), .val (.int kd), .val (.ref b129), .val (.ref b160), .val (.int (own_len pa)), .unset, .unset] [(.int bb), (.int (own_len pa))])) _
          refine st180 _ ?_
          show Steps _ _ _ (T180.setTop (mkF m 176 #[.val (.int pa), .val (.int pb), .val (.int pr1), .val (.int pr2), .val (.int pu), .val (.int pm), .val (.int bb), .val (.int rr), .val (.int cu1), .val (.int cu2), .val (.int kd), .val (.ref b129), .val (.ref b160), .val (.int (own_len pa)), .unset, .unset] [(.int (own_len bb)), (.int (own_len pa))])) _
          exact kt
        obtain ⟨sm, T182, L182, X182, N182, e182, hp182, R182⟩ : ∃ (sm : Int32) (T182 : State) (L182 : List Loc), Stand p l e room_1 (s.setVm T164.vm) m #[(.int pa), (.int pb), (.int pr1), (.int pr2), (.int pu), (.int pm)] below meth c T182 L182 14 30 ∧ Fr n0 L182 ∧ T182.heap = T174.heap ∧ (sm = if own_str pa = own_str bb then (1 : Int32) else 0) ∧ ∀ t, Steps p.tables e below (T182.setTop (mkF m 222 #[.val (.int pa), .val (.int pb), .val (.int pr1), .val (.int pr2), .val (.int pu), .val (.int pm), .val (.int bb), .val (.int rr), .val (.int cu1), .val (.int cu2), .val (.int kd), .val (.ref b129), .val (.ref b160), .val (.int (own_len pa)), .val (.int sm), .unset] [])) t → Steps p.tables e below (s₁.setTop (entryFrame m #[(.int pa), (.int pb), (.int pr1), (.int pr2), (.int pu), (.int pm)] maxLocals)) t := by
          rcases own_six (own_len pa = own_len bb) (own_len pa < 1) (own_c0 pa = own_c0 bb) (own_len pa < 2) (own_c1 pa = own_c1 bb) with hl | ⟨hl, h1⟩ | ⟨hl, h1, h2⟩ | ⟨hl, h1, h2, h3⟩ | ⟨hl, h1, h2, h3, h4⟩ | ⟨hl, h1, h2, h3, h4⟩
          · refine ⟨(0 : Int32), T180, _, X180, N180, eq180, (by rw [if_neg (fun q => hl ((own_strEq pa bb).mp q).1)]), fun t kt => ?_⟩
            refine R181 _ ?_
            show Steps _ _ _ (T180.setTop (mkF m 176 #[.val (.int pa), .val (.int pb), .val (.int pr1), .val (.int pr2), .val (.int pu), .val (.int pm), .val (.int bb), .val (.int rr), .val (.int cu1), .val (.int cu2), .val (.int kd), .val (.ref b129), .val (.ref b160), .val (.int (own_len pa)), .unset, .unset] [(.int (own_len bb)), (.int (own_len pa))])) _
            refine XS.icmpYes X180.here hx rfl (pc0 := 176) (pc' := 219) rfl (hb hby at_176) rfl (feq hl).2 (by decide) (by decide) ?_
            refine XS.iconst X180.here hx rfl (hb hby at_219) ?_
            refine XS.istore X180.here hx rfl (hb hby at_220) rfl (l' := #[.val (.int pa), .val (.int pb), .val (.int pr1), .val (.int pr2), .val (.int pu), .val (.int pm), .val (.int bb), .val (.int rr), .val (.int cu1), .val (.int cu2), .val (.int kd), .val (.ref b129), .val (.ref b160), .val (.int (own_len pa)), .val (.int (0 : Int32)), .unset]) rfl ?_
            exact kt
          · refine ⟨(1 : Int32), T180, _, X180, N180, eq180, (by rw [if_pos ((own_strEq pa bb).mpr ⟨hl, Or.inl h1, Or.inl (own_lt12 h1)⟩)]), fun t kt => ?_⟩
            refine R181 _ ?_
            show Steps _ _ _ (T180.setTop (mkF m 176 #[.val (.int pa), .val (.int pb), .val (.int pr1), .val (.int pr2), .val (.int pu), .val (.int pm), .val (.int bb), .val (.int rr), .val (.int cu1), .val (.int cu2), .val (.int kd), .val (.ref b129), .val (.ref b160), .val (.int (own_len pa)), .unset, .unset] [(.int (own_len bb)), (.int (own_len pa))])) _
            refine XS.icmpNo X180.here hx rfl (hb hby at_176) rfl (teq hl).2 ?_
            show Steps _ _ _ (T180.setTop (mkF m 179 #[.val (.int pa), .val (.int pb), .val (.int pr1), .val (.int pr2), .val (.int pu), .val (.int pm), .val (.int bb), .val (.int rr), .val (.int cu1), .val (.int cu2), .val (.int kd), .val (.ref b129), .val (.ref b160), .val (.int (own_len pa)), .unset, .unset] [])) _
            refine XS.iload X180.here hx rfl (hb hby at_179) rfl ?_
            refine XS.iconst X180.here hx rfl (hb hby at_181) ?_
            refine XS.icmpYes X180.here hx rfl (pc0 := 182) (pc' := 197) rfl (hb hby at_182) rfl (tlt h1).1 (by decide) (by decide) ?_
            refine XS.iload X180.here hx rfl (hb hby at_197) rfl ?_
            show Steps _ _ _ (T180.setTop (mkF m 199 #[.val (.int pa), .val (.int pb), .val (.int pr1), .val (.int pr2), .val (.int pu), .val (.int pm), .val (.int bb), .val (.int rr), .val (.int cu1), .val (.int cu2), .val (.int kd), .val (.ref b129), .val (.ref b160), .val (.int (own_len pa)), .unset, .unset] [(.int (own_len pa))])) _
            refine XS.iconst X180.here hx rfl (hb hby at_199) ?_
            refine XS.icmpYes X180.here hx rfl (pc0 := 200) (pc' := 215) rfl (hb hby at_200) rfl (tlt (own_lt12 h1)).1 (by decide) (by decide) ?_
            refine XS.iconst X180.here hx rfl (hb hby at_215) ?_
            refine XS.goto X180.here hx rfl (pc0 := 216) (pc' := 220) rfl (hb hby at_216) (by decide) (by decide) ?_
            show Steps _ _ _ (T180.setTop (mkF m 220 #[.val (.int pa), .val (.int pb), .val (.int pr1), .val (.int pr2), .val (.int pu), .val (.int pm), .val (.int bb), .val (.int rr), .val (.int cu1), .val (.int cu2), .val (.int kd), .val (.ref b129), .val (.ref b160), .val (.int (own_len pa)), .unset, .unset] [(.int (1 : Int32))])) _
            refine XS.istore X180.here hx rfl (hb hby at_220) rfl (l' := #[.val (.int pa), .val (.int pb), .val (.int pr1), .val (.int pr2), .val (.int pu), .val (.int pm), .val (.int bb), .val (.int rr), .val (.int cu1), .val (.int cu2), .val (.int kd), .val (.ref b129), .val (.ref b160), .val (.int (own_len pa)), .val (.int (1 : Int32)), .unset]) rfl ?_
            exact kt
          · obtain ⟨_, _, ⟨T183, L183, k183, n183⟩, -, X183, ⟨Lc183, hQ183, l183, y183, z183⟩, st183⟩ := Jvm.LawKit.callS X180 hx (y := (⟨"com/example/facetwise/facetwise/RankedResultEqualsPinLaw", "c0", "(I)C"⟩ : MethodName)) hown164 (mvT hZ164 (hw _ (List.mem_of_getElem? (i := 77) rfl))) (mvT hZ164 (hw _ (List.mem_of_getElem? (i := 78) rfl))) (mvT hZ164 (hw _ (List.mem_of_getElem? (i := 5) rfl))) (mvT hZ164 (hw _ (List.mem_of_getElem? (i := 79) rfl))) (by decide) (backOf (W := 0) (rmC0 l Z a0 hw [] pa T174.heap n0 (Nat.le_trans Z0 K174.1) ) hZ164 (hw _ (List.mem_of_getElem? (i := 79) rfl)) (hw _ (List.mem_of_getElem? (i := 5) rfl)) (by decide) (by decide)) (g := (mkF m 186 #[.val (.int pa), .val (.int pb), .val (.int pr1), .val (.int pr2), .val (.int pu), .val (.int pm), .val (.int bb), .val (.int rr), .val (.int cu1), .val (.int cu2), .val (.int kd), .val (.ref b129), .val (.ref b160), .val (.int (own_len pa)), .unset, .unset] [(.int pa)])) rfl (by rw [hml]; rfl) (argsL := [(.int pa)]) (rest := []) (lenOf pd_9 rfl) rfl (by show 2 * 0 + _ ≤ _; exact Nat.le_of_eq rfl) (hb hby at_186) (fun _ _ => ⟨rfl, eq180, (by decide : 14 + 0 ≤ _), (by decide : 30 + 0 ≤ _)⟩)
            dsimp only [Pt.U, Pt.locs, Pt.cells, Pt.slots] at X183 l183 y183 z183 st183 hQ183
            rw [l183, y183, z183] at X183
            obtain ⟨hv183, Nq183, eq183⟩ := hQ183
            rw [hv183] at st183
            have N183 := Fr.app N180 Nq183
            obtain ⟨_, _, ⟨T184, L184, k184, n184⟩, -, X184, ⟨Lc184, hQ184, l184, y184, z184⟩, st184⟩ := Jvm.LawKit.callS X183 hx (y := (⟨"com/example/facetwise/facetwise/RankedResultEqualsPinLaw", "c0", "(I)C"⟩ : MethodName)) hown164 (mvT hZ164 (hw _ (List.mem_of_getElem? (i := 77) rfl))) (mvT hZ164 (hw _ (List.mem_of_getElem? (i := 78) rfl))) (mvT hZ164 (hw _ (List.mem_of_getElem? (i := 5) rfl))) (mvT hZ164 (hw _ (List.mem_of_getElem? (i := 79) rfl))) (by decide) (backOf (W := 1) (rmC0 l Z a0 hw [] bb T174.heap n0 (Nat.le_trans Z0 K174.1) ) hZ164 (hw _ (List.mem_of_getElem? (i := 79) rfl)) (hw _ (List.mem_of_getElem? (i := 5) rfl)) (by decide) (by decide)) (g := (mkF m 191 #[.val (.int pa), .val (.int pb), .val (.int pr1), .val (.int pr2), .val (.int pu), .val (.int pm), .val (.int bb), .val (.int rr), .val (.int cu1), .val (.int cu2), .val (.int kd), .val (.ref b129), .val (.ref b160), .val (.int (own_len pa)), .unset, .unset] [(.int bb), (.int (own_c0 pa))])) rfl (by rw [hml]; rfl) (argsL := [(.int bb)]) (rest := [(.int (own_c0 pa))]) (lenOf pd_9 rfl) rfl (by show 2 * 0 + _ ≤ _; exact Nat.le_of_eq rfl) (hb hby at_191) (fun _ _ => ⟨rfl, eq183, (by decide : 14 + 0 ≤ _), (by decide : 30 + 0 ≤ _)⟩)
            dsimp only [Pt.U, Pt.locs, Pt.cells, Pt.slots] at X184 l184 y184 z184 st184 hQ184
            rw [l184, y184, z184] at X184
            obtain ⟨hv184, Nq184, eq184⟩ := hQ184
            rw [hv184] at st184
            have N184 := Fr.app N183 Nq184
            refine ⟨(0 : Int32), T184, _, X184, N184, eq184, (by rw [if_neg (fun q => (((own_strEq pa bb).mp q).2.1).elim h1 h2)]), fun t kt => ?_⟩
            refine R181 _ ?_
            show Steps _ _ _ (T180.setTop (mkF m 176 #[.val (.int pa), .val (.int pb), .val (.int pr1), .val (.int pr2), .val (.int pu), .val (.int pm), .val (.int bb), .val (.int rr), .val (.int cu1), .val (.int cu2), .val (.int kd), .val (.ref b129), .val (.ref b160), .val (.int (own_len pa)), .unset, .unset] [(.int (own_len bb)), (.int (own_len pa))])) _
            refine XS.icmpNo X180.here hx rfl (hb hby at_176) rfl (teq hl).2 ?_
            refine XS.iload X180.here hx rfl (hb hby at_179) rfl ?_
            refine XS.iconst X180.here hx rfl (hb hby at_181) ?_
            show Steps _ _ _ (T180.setTop (mkF m 182 #[.val (.int pa), .val (.int pb), .val (.int pr1), .val (.int pr2), .val (.int pu), .val (.int pm), .val (.int bb), .val (.int rr), .val (.int cu1), .val (.int cu2), .val (.int kd), .val (.ref b129), .val (.ref b160), .val (.int (own_len pa)), .unset, .unset] [(.int (1 : Int32)), (.int (own_len pa))])) _
            refine XS.icmpNo X180.here hx rfl (hb hby at_182) rfl (flt h1).1 ?_
            refine XS.iloadN X180.here hx rfl (hb hby at_185) rfl ?_
            show Steps _ _ _ (T180.setTop (mkF m 186 #[.val (.int pa), .val (.int pb), .val (.int pr1), .val (.int pr2), .val (.int pu), .val (.int pm), .val (.int bb), .val (.int rr), .val (.int cu1), .val (.int cu2), .val (.int kd), .val (.ref b129), .val (.ref b160), .val (.int (own_len pa)), .unset, .unset] [(.int pa)])) _
            refine st183 _ ?_
            show Steps _ _ _ (T183.setTop (mkF m 189 #[.val (.int pa), .val (.int pb), .val (.int pr1), .val (.int pr2), .val (.int pu), .val (.int pm), .val (.int bb), .val (.int rr), .val (.int cu1), .val (.int cu2), .val (.int kd), .val (.ref b129), .val (.ref b160), .val (.int (own_len pa)), .unset, .unset] [(.int (own_c0 pa))])) _
            refine XS.iload X183.here hx rfl (hb hby at_189) rfl ?_
            show Steps _ _ _ (T183.setTop (mkF m 191 #[.val (.int pa), .val (.int pb), .val (.int pr1), .val (.int pr2), .val (.int pu), .val (.int pm), .val (.int bb), .val (.int rr), .val (.int cu1), .val (.int cu2), .val (.int kd), .val (.ref b129), .val (.ref b160), .val (.int (own_len pa)), .unset, .unset] [(.int bb), (.int (own_c0 pa))])) _
            refine st184 _ ?_
            show Steps _ _ _ (T184.setTop (mkF m 194 #[.val (.int pa), .val (.int pb), .val (.int pr1), .val (.int pr2), .val (.int pu), .val (.int pm), .val (.int bb), .val (.int rr), .val (.int cu1), .val (.int cu2), .val (.int kd), .val (.ref b129), .val (.ref b160), .val (.int (own_len pa)), .unset, .unset] [(.int (own_c0 bb)), (.int (own_c0 pa))])) _
            refine XS.icmpYes X184.here hx rfl (pc0 := 194) (pc' := 219) rfl (hb hby at_194) rfl (feq h2).2 (by decide) (by decide) ?_
            refine XS.iconst X184.here hx rfl (hb hby at_219) ?_
            refine XS.istore X184.here hx rfl (hb hby at_220) rfl (l' := #[.val (.int pa), .val (.int pb), .val (.int pr1), .val (.int pr2), .val (.int pu), .val (.int pm), .val (.int bb), .val (.int rr), .val (.int cu1), .val (.int cu2), .val (.int kd), .val (.ref b129), .val (.ref b160), .val (.int (own_len pa)), .val (.int (0 : Int32)), .unset]) rfl ?_
            exact kt
          · obtain ⟨_, _, ⟨T185, L185, k185, n185⟩, -, X185, ⟨Lc185, hQ185, l185, y185, z185⟩, st185⟩ := Jvm.LawKit.callS X180 hx (y := (⟨"com/example/facetwise/facetwise/RankedResultEqualsPinLaw", "c0", "(I)C"⟩ : MethodName)) hown164 (mvT hZ164 (hw _ (List.mem_of_getElem? (i := 77) rfl))) (mvT hZ164 (hw _ (List.mem_of_getElem? (i := 78) rfl))) (mvT hZ164 (hw _ (List.mem_of_getElem? (i := 5) rfl))) (mvT hZ164 (hw _ (List.mem_of_getElem? (i := 79) rfl))) (by decide) (backOf (W := 0) (rmC0 l Z a0 hw [] pa T174.heap n0 (Nat.le_trans Z0 K174.1) ) hZ164 (hw _ (List.mem_of_getElem? (i := 79) rfl)) (hw _ (List.mem_of_getElem? (i := 5) rfl)) (by decide) (by decide)) (g := (mkF m 186 #[.val (.int pa), .val (.int pb), .val (.int pr1), .val (.int pr2), .val (.int pu), .val (.int pm), .val (.int bb), .val (.int rr), .val (.int cu1), .val (.int cu2), .val (.int kd), .val (.ref b129), .val (.ref b160), .val (.int (own_len pa)), .unset, .unset] [(.int pa)])) rfl (by rw [hml]; rfl) (argsL := [(.int pa)]) (rest := []) (lenOf pd_9 rfl) rfl (by show 2 * 0 + _ ≤ _; exact Nat.le_of_eq rfl) (hb hby at_186) (fun _ _ => ⟨rfl, eq180, (by decide : 14 + 0 ≤ _), (by decide : 30 + 0 ≤ _)⟩)
            dsimp only [Pt.U, Pt.locs, Pt.cells, Pt.slots] at X185 l185 y185 z185 st185 hQ185
            rw [l185, y185, z185] at X185
            obtain ⟨hv185, Nq185, eq185⟩ := hQ185
            rw [hv185] at st185
            have N185 := Fr.app N180 Nq185
            obtain ⟨_, _, ⟨T186, L186, k186, n186⟩, -, X186, ⟨Lc186, hQ186, l186, y186, z186⟩, st186⟩ := Jvm.LawKit.callS X185 hx (y := (⟨"com/example/facetwise/facetwise/RankedResultEqualsPinLaw", "c0", "(I)C"⟩ : MethodName)) hown164 (mvT hZ164 (hw _ (List.mem_of_getElem? (i := 77) rfl))) (mvT hZ164 (hw _ (List.mem_of_getElem? (i := 78) rfl))) (mvT hZ164 (hw _ (List.mem_of_getElem? (i := 5) rfl))) (mvT hZ164 (hw _ (List.mem_of_getElem? (i := 79) rfl))) (by decide) (backOf (W := 1) (rmC0 l Z a0 hw [] bb T174.heap n0 (Nat.le_trans Z0 K174.1) ) hZ164 (hw _ (List.mem_of_getElem? (i := 79) rfl)) (hw _ (List.mem_of_getElem? (i := 5) rfl)) (by decide) (by decide)) (g := (mkF m 191 #[.val (.int pa), .val (.int pb), .val (.int pr1), .val (.int pr2), .val (.int pu), .val (.int pm), .val (.int bb), .val (.int rr), .val (.int cu1), .val (.int cu2), .val (.int kd), .val (.ref b129), .val (.ref b160), .val (.int (own_len pa)), .unset, .unset] [(.int bb), (.int (own_c0 pa))])) rfl (by rw [hml]; rfl) (argsL := [(.int bb)]) (rest := [(.int (own_c0 pa))]) (lenOf pd_9 rfl) rfl (by show 2 * 0 + _ ≤ _; exact Nat.le_of_eq rfl) (hb hby at_191) (fun _ _ => ⟨rfl, eq185, (by decide : 14 + 0 ≤ _), (by decide : 30 + 0 ≤ _)⟩)
            dsimp only [Pt.U, Pt.locs, Pt.cells, Pt.slots] at X186 l186 y186 z186 st186 hQ186
            rw [l186, y186, z186] at X186
            obtain ⟨hv186, Nq186, eq186⟩ := hQ186
            rw [hv186] at st186
            have N186 := Fr.app N185 Nq186
            refine ⟨(1 : Int32), T186, _, X186, N186, eq186, (by rw [if_pos ((own_strEq pa bb).mpr ⟨hl, Or.inr h2, Or.inl h3⟩)]), fun t kt => ?_⟩
            refine R181 _ ?_
            show Steps _ _ _ (T180.setTop (mkF m 176 #[.val (.int pa), .val (.int pb), .val (.int pr1), .val (.int pr2), .val (.int pu), .val (.int pm), .val (.int bb), .val (.int rr), .val (.int cu1), .val (.int cu2), .val (.int kd), .val (.ref b129), .val (.ref b160), .val (.int (own_len pa)), .unset, .unset] [(.int (own_len bb)), (.int (own_len pa))])) _
            refine XS.icmpNo X180.here hx rfl (hb hby at_176) rfl (teq hl).2 ?_
            show Steps _ _ _ (T180.setTop (mkF m 179 #[.val (.int pa), .val (.int pb), .val (.int pr1), .val (.int pr2), .val (.int pu), .val (.int pm), .val (.int bb), .val (.int rr), .val (.int cu1), .val (.int cu2), .val (.int kd), .val (.ref b129), .val (.ref b160), .val (.int (own_len pa)), .unset, .unset] [])) _
            refine XS.iload X180.here hx rfl (hb hby at_179) rfl ?_
            refine XS.iconst X180.here hx rfl (hb hby at_181) ?_
            refine XS.icmpNo X180.here hx rfl (hb hby at_182) rfl (flt h1).1 ?_
            refine XS.iloadN X180.here hx rfl (hb hby at_185) rfl ?_
            show Steps _ _ _ (T180.setTop (mkF m 186 #[.val (.int pa), .val (.int pb), .val (.int pr1), .val (.int pr2), .val (.int pu), .val (.int pm), .val (.int bb), .val (.int rr), .val (.int cu1), .val (.int cu2), .val (.int kd), .val (.ref b129), .val (.ref b160), .val (.int (own_len pa)), .unset, .unset] [(.int pa)])) _
            refine st185 _ ?_
            show Steps _ _ _ (T185.setTop (mkF m 189 #[.val (.int pa), .val (.int pb), .val (.int pr1), .val (.int pr2), .val (.int pu), .val (.int pm), .val (.int bb), .val (.int rr), .val (.int cu1), .val (.int cu2), .val (.int kd), .val (.ref b129), .val (.ref b160), .val (.int (own_len pa)), .unset, .unset] [(.int (own_c0 pa))])) _
            refine XS.iload X185.here hx rfl (hb hby at_189) rfl ?_
            show Steps _ _ _ (T185.setTop (mkF m 191 #[.val (.int pa), .val (.int pb), .val (.int pr1), .val (.int pr2), .val (.int pu), .val (.int pm), .val (.int bb), .val (.int rr), .val (.int cu1), .val (.int cu2), .val (.int kd), .val (.ref b129), .val (.ref b160), .val (.int (own_len pa)), .unset, .unset] [(.int bb), (.int (own_c0 pa))])) _
            refine st186 _ ?_
            show Steps _ _ _ (T186.setTop (mkF m 194 #[.val (.int pa), .val (.int pb), .val (.int pr1), .val (.int pr2), .val (.int pu), .val (.int pm), .val (.int bb), .val (.int rr), .val (.int cu1), .val (.int cu2), .val (.int kd), .val (.ref b129), .val (.ref b160), .val (.int (own_len pa)), .unset, .unset] [(.int (own_c0 bb)), (.int (own_c0 pa))])) _
            refine XS.icmpNo X186.here hx rfl (hb hby at_194) rfl (teq h2).2 ?_
            refine XS.iload X186.here hx rfl (hb hby at_197) rfl ?_
            refine XS.iconst X186.here hx rfl (hb hby at_199) ?_
            refine XS.icmpYes X186.here hx rfl (pc0 := 200) (pc' := 215) rfl (hb hby at_200) rfl (tlt h3).1 (by decide) (by decide) ?_
            show Steps _ _ _ (T186.setTop (mkF m 215 #[.val (.int pa), .val (.int pb), .val (.int pr1), .val (.int pr2), .val (.int pu), .val (.int pm), .val (.int bb), .val (.int rr), .val (.int cu1), .val (.int cu2), .val (.int kd), .val (.ref b129), .val (.ref b160), .val (.int (own_len pa)), .unset, .unset] [])) _
            refine XS.iconst X186.here hx rfl (hb hby at_215) ?_
            refine XS.goto X186.here hx rfl (pc0 := 216) (pc' := 220) rfl (hb hby at_216) (by decide) (by decide) ?_
            refine XS.istore X186.here hx rfl (hb hby at_220) rfl (l' := #[.val (.int pa), .val (.int pb), .val (.int pr1), .val (.int pr2), .val (.int pu), .val (.int pm), .val (.int bb), .val (.int rr), .val (.int cu1), .val (.int cu2), .val (.int kd), .val (.ref b129), .val (.ref b160), .val (.int (own_len pa)), .val (.int (1 : Int32)), .unset]) rfl ?_
            exact kt
          · obtain ⟨_, _, ⟨T187, L187, k187, n187⟩, -, X187, ⟨Lc187, hQ187, l187, y187, z187⟩, st187⟩ := Jvm.LawKit.callS X180 hx (y := (⟨"com/example/facetwise/facetwise/RankedResultEqualsPinLaw", "c0", "(I)C"⟩ : MethodName)) hown164 (mvT hZ164 (hw _ (List.mem_of_getElem? (i := 77) rfl))) (mvT hZ164 (hw _ (List.mem_of_getElem? (i := 78) rfl))) (mvT hZ164 (hw _ (List.mem_of_getElem? (i := 5) rfl))) (mvT hZ164 (hw _ (List.mem_of_getElem? (i := 79) rfl))) (by decide) (backOf (W := 0) (rmC0 l Z a0 hw [] pa T174.heap n0 (Nat.le_trans Z0 K174.1) ) hZ164 (hw _ (List.mem_of_getElem? (i := 79) rfl)) (hw _ (List.mem_of_getElem? (i := 5) rfl)) (by decide) (by decide)) (g := (mkF m 186 #[.val (.int pa), .val (.int pb), .val (.int pr1), .val (.int pr2), .val (.int pu), .val (.int pm), .val (.int bb), .val (.int rr), .val (.int cu1), .val (.int cu2), .val (.int kd), .val (.ref b129), .val (.ref b160), .val (.int (own_len pa)), .unset, .unset] [(.int pa)])) rfl (by rw [hml]; rfl) (argsL := [(.int pa)]) (rest := []) (lenOf pd_9 rfl) rfl (by show 2 * 0 + _ ≤ _; exact Nat.le_of_eq rfl) (hb hby at_186) (fun _ _ => ⟨rfl, eq180, (by decide : 14 + 0 ≤ _), (by decide : 30 + 0 ≤ _)⟩)
            dsimp only [Pt.U, Pt.locs, Pt.cells, Pt.slots] at X187 l187 y187 z187 st187 hQ187
            rw [l187, y187, z187] at X187
            obtain ⟨hv187, Nq187, eq187⟩ := hQ187
            rw [hv187] at st187
            have N187 := Fr.app N180 Nq187
            obtain ⟨_, _, ⟨T188, L188, k188, n188⟩, -, X188, ⟨Lc188, hQ188, l188, y188, z188⟩, st188⟩ := Jvm.LawKit.callS X187 hx (y := (⟨"com/example/facetwise/facetwise/RankedResultEqualsPinLaw", "c0", "(I)C"⟩ : MethodName)) hown164 (mvT hZ164 (hw _ (List.mem_of_getElem? (i := 77) rfl))) (mvT hZ164 (hw _ (List.mem_of_getElem? (i := 78) rfl))) (mvT hZ164 (hw _ (List.mem_of_getElem? (i := 5) rfl))) (mvT hZ164 (hw _ (List.mem_of_getElem? (i := 79) rfl))) (by decide) (backOf (W := 1) (rmC0 l Z a0 hw [] bb T174.heap n0 (Nat.le_trans Z0 K174.1) ) hZ164 (hw _ (List.mem_of_getElem? (i := 79) rfl)) (hw _ (List.mem_of_getElem? (i := 5) rfl)) (by decide) (by decide)) (g := (mkF m 191 #[.val (.int pa), .val (.int pb), .val (.int pr1), .val (.int pr2), .val (.int pu), .val (.int pm), .val (.int bb), .val (.int rr), .val (.int cu1), .val (.int cu2), .val (.int kd), .val (.ref b129), .val (.ref b160), .val (.int (own_len pa)), .unset, .unset] [(.int bb), (.int (own_c0 pa))])) rfl (by rw [hml]; rfl) (argsL := [(.int bb)]) (rest := [(.int (own_c0 pa))]) (lenOf pd_9 rfl) rfl (by show 2 * 0 + _ ≤ _; exact Nat.le_of_eq rfl) (hb hby at_191) (fun _ _ => ⟨rfl, eq187, (by decide : 14 + 0 ≤ _), (by decide : 30 + 0 ≤ _)⟩)
            dsimp only [Pt.U, Pt.locs, Pt.cells, Pt.slots] at X188 l188 y188 z188 st188 hQ188
            rw [l188, y188, z188] at X188
            obtain ⟨hv188, Nq188, eq188⟩ := hQ188
            rw [hv188] at st188
            have N188 := Fr.app N187 Nq188
            obtain ⟨_, _, ⟨T189, L189, k189, n189⟩, -, X189, ⟨Lc189, hQ189, l189, y189, z189⟩, st189⟩ := Jvm.LawKit.callS X188 hx (y := (⟨"com/example/facetwise/facetwise/RankedResultEqualsPinLaw", "c1", "(I)C"⟩ : MethodName)) hown164 (mvT hZ164 (hw _ (List.mem_of_getElem? (i := 93) rfl))) (mvT hZ164 (hw _ (List.mem_of_getElem? (i := 94) rfl))) (mvT hZ164 (hw _ (List.mem_of_getElem? (i := 5) rfl))) (mvT hZ164 (hw _ (List.mem_of_getElem? (i := 95) rfl))) (by decide) (backOf (W := 0) (rmC1 l Z a0 hw [] pa T174.heap n0 (Nat.le_trans Z0 K174.1) ) hZ164 (hw _ (List.mem_of_getElem? (i := 95) rfl)) (hw _ (List.mem_of_getElem? (i := 5) rfl)) (by decide) (by decide)) (g := (mkF m 204 #[.val (.int pa), .val (.int pb), .val (.int pr1), .val (.int pr2), .val (.int pu), .val (.int pm), .val (.int bb), .val (.int rr), .val (.int cu1), .val (.int cu2), .val (.int kd), .val (.ref b129), .val (.ref b160), .val (.int (own_len pa)), .unset, .unset] [(.int pa)])) rfl (by rw [hml]; rfl) (argsL := [(.int pa)]) (rest := []) (lenOf pd_9 rfl) rfl (by show 2 * 0 + _ ≤ _; exact Nat.le_of_eq rfl) (hb hby at_204) (fun _ _ => ⟨rfl, eq188, (by decide : 14 + 0 ≤ _), (by decide : 30 + 0 ≤ _)⟩)
            dsimp only [Pt.U, Pt.locs, Pt.cells, Pt.slots] at X189 l189 y189 z189 st189 hQ189
            rw [l189, y189, z189] at X189
            obtain ⟨hv189, Nq189, eq189⟩ := hQ189
            rw [hv189] at st189
            have N189 := Fr.app N188 Nq189
            obtain ⟨_, _, ⟨T190, L190, k190, n190⟩, -, X190, ⟨Lc190, hQ190, l190, y190, z190⟩, st190⟩ := Jvm.LawKit.callS X189 hx (y := (⟨"com/example/facetwise/facetwise/RankedResultEqualsPinLaw", "c1", "(I)C"⟩ : MethodName)) hown164 (mvT hZ164 (hw _ (List.mem_of_getElem? (i := 93) rfl))) (mvT hZ164 (hw _ (List.mem_of_getElem? (i := 94) rfl))) (mvT hZ164 (hw _ (List.mem_of_getElem? (i := 5) rfl))) (mvT hZ164 (hw _ (List.mem_of_getElem? (i := 95) rfl))) (by decide) (backOf (W := 1) (rmC1 l Z a0 hw [] bb T174.heap n0 (Nat.le_trans Z0 K174.1) ) hZ164 (hw _ (List.mem_of_getElem? (i := 95) rfl)) (hw _ (List.mem_of_getElem? (i := 5) rfl)) (by decide) (by decide)) (g := (mkF m 209 #[.val (.int pa), .val (.int pb), .val (.int pr1), .val (.int pr2), .val (.int pu), .val (.int pm), .val (.int bb), .val (.int rr), .val (.int cu1), .val (.int cu2), .val (.int kd), .val (.ref b129), .val (.ref b160), .val (.int (own_len pa)), .unset, .unset] [(.int bb), (.int (own_c1 pa))])) rfl (by rw [hml]; rfl) (argsL := [(.int bb)]) (rest := [(.int (own_c1 pa))]) (lenOf pd_9 rfl) rfl (by show 2 * 0 + _ ≤ _; exact Nat.le_of_eq rfl) (hb hby at_209) (fun _ _ => ⟨rfl, eq189, (by decide : 14 + 0 ≤ _), (by decide : 30 + 0 ≤ _)⟩)
            dsimp only [Pt.U, Pt.locs, Pt.cells, Pt.slots] at X190 l190 y190 z190 st190 hQ190
            rw [l190, y190, z190] at X190
            obtain ⟨hv190, Nq190, eq190⟩ := hQ190
            rw [hv190] at st190
            have N190 := Fr.app N189 Nq190
            refine ⟨(0 : Int32), T190, _, X190, N190, eq190, (by rw [if_neg (fun q => (((own_strEq pa bb).mp q).2.2).elim h3 h4)]), fun t kt => ?_⟩
            refine R181 _ ?_
            show Steps _ _ _ (T180.setTop (mkF m 176 #[.val (.int pa), .val (.int pb), .val (.int pr1), .val (.int pr2), .val (.int pu), .val (.int pm), .val (.int bb), .val (.int rr), .val (.int cu1), .val (.int cu2), .val (.int kd), .val (.ref b129), .val (.ref b160), .val (.int (own_len pa)), .unset, .unset] [(.int (own_len bb)), (.int (own_len pa))])) _
            refine XS.icmpNo X180.here hx rfl (hb hby at_176) rfl (teq hl).2 ?_
            show Steps _ _ _ (T180.setTop (mkF m 179 #[.val (.int pa), .val (.int pb), .val (.int pr1), .val (.int pr2), .val (.int pu), .val (.int pm), .val (.int bb), .val (.int rr), .val (.int cu1), .val (.int cu2), .val (.int kd), .val (.ref b129), .val (.ref b160), .val (.int (own_len pa)), .unset, .unset] [])) _
            refine XS.iload X180.here hx rfl (hb hby at_179) rfl ?_
            refine XS.iconst X180.here hx rfl (hb hby at_181) ?_
            refine XS.icmpNo X180.here hx rfl (hb hby at_182) rfl (flt h1).1 ?_
            refine XS.iloadN X180.here hx rfl (hb hby at_185) rfl ?_
            show Steps _ _ _ (T180.setTop (mkF m 186 #[.val (.int pa), .val (.int pb), .val (.int pr1), .val (.int pr2), .val (.int pu), .val (.int pm), .val (.int bb), .val (.int rr), .val (.int cu1), .val (.int cu2), .val (.int kd), .val (.ref b129), .val (.ref b160), .val (.int (own_len pa)), .unset, .unset] [(.int pa)])) _
            refine st187 _ ?_
            show Steps _ _ _ (T187.setTop (mkF m 189 #[.val (.int pa), .val (.int pb), .val (.int pr1), .val (.int pr2), .val (.int pu), .val (.int pm), .val (.int bb), .val (.int rr), .val (.int cu1), .val (.int cu2), .val (.int kd), .val (.ref b129), .val (.ref b160), .val (.int (own_len pa)), .unset, .unset] [(.int (own_c0 pa))])) _
            refine XS.iload X187.here hx rfl (hb hby at_189) rfl ?_
            show Steps _ _ _ (T187.setTop (mkF m 191 #[.val (.int pa), .val (.int pb), .val (.int pr1), .val (.int pr2), .val (.int pu), .val (.int pm), .val (.int bb), .val (.int rr), .val (.int cu1), .val (.int cu2), .val (.int kd), .val (.ref b129), .val (.ref b160), .val (.int (own_len pa)), .unset, .unset] [(.int bb), (.int (own_c0 pa))])) _
            refine st188 _ ?_
            show Steps _ _ _ (T188.setTop (mkF m 194 #[.val (.int pa), .val (.int pb), .val (.int pr1), .val (.int pr2), .val (.int pu), .val (.int pm), .val (.int bb), .val (.int rr), .val (.int cu1), .val (.int cu2), .val (.int kd), .val (.ref b129), .val (.ref b160), .val (.int (own_len pa)), .unset, .unset] [(.int (own_c0 bb)), (.int (own_c0 pa))])) _
            refine XS.icmpNo X188.here hx rfl (hb hby at_194) rfl (teq h2).2 ?_
            refine XS.iload X188.here hx rfl (hb hby at_197) rfl ?_
            refine XS.iconst X188.here hx rfl (hb hby at_199) ?_
            refine XS.icmpNo X188.here hx rfl (hb hby at_200) rfl (flt h3).1 ?_
            show Steps _ _ _ (T188.setTop (mkF m 203 #[.val (.int pa), .val (.int pb), .val (.int pr1), .val (.int pr2), .val (.int pu), .val (.int pm), .val (.int bb), .val (.int rr), .val (.int cu1), .val (.int cu2), .val (.int kd), .val (.ref b129), .val (.ref b160), .val (.int (own_len pa)), .unset, .unset] [])) _
            refine XS.iloadN X188.here hx rfl (hb hby at_203) rfl ?_
            show Steps _ _ _ (T188.setTop (mkF m 204 #[.val (.int pa), .val (.int pb), .val (.int pr1), .val (.int pr2), .val (.int pu), .val (.int pm), .val (.int bb), .val (.int rr), .val (.int cu1), .val (.int cu2), .val (.int kd), .val (.ref b129), .val (.ref b160), .val (.int (own_len pa)), .unset, .unset] [(.int pa)])) _
            refine st189 _ ?_
            show Steps _ _ _ (T189.setTop (mkF m 207 #[.val (.int pa), .val (.int pb), .val (.int pr1), .val (.int pr2), .val (.int pu), .val (.int pm), .val (.int bb), .val (.int rr), .val (.int cu1), .val (.int cu2), .val (.int kd), .val (.ref b129), .val (.ref b160), .val (.int (own_len pa)), .unset, .unset] [(.int (own_c1 pa))])) _
            refine XS.iload X189.here hx rfl (hb hby at_207) rfl ?_
            show Steps _ _ _ (T189.setTop (mkF m 209 #[.val (.int pa), .val (.int pb), .val (.int pr1), .val (.int pr2), .val (.int pu), .val (.int pm), .val (.int bb), .val (.int rr), .val (.int cu1), .val (.int cu2), .val (.int kd), .val (.ref b129), .val (.ref b160), .val (.int (own_len pa)), .unset, .unset] [(.int bb), (.int (own_c1 pa))])) _
            refine st190 _ ?_
            show Steps _ _ _ (T190.setTop (mkF m 212 #[.val (.int pa), .val (.int pb), .val (.int pr1), .val (.int pr2), .val (.int pu), .val (.int pm), .val (.int bb), .val (.int rr), .val (.int cu1), .val (.int cu2), .val (.int kd), .val (.ref b129), .val (.ref b160), .val (.int (own_len pa)), .unset, .unset] [(.int (own_c1 bb)), (.int (own_c1 pa))])) _
            refine XS.icmpYes X190.here hx rfl (pc0 := 212) (pc' := 219) rfl (hb hby at_212) rfl (feq h4).2 (by decide) (by decide) ?_
            refine XS.iconst X190.here hx rfl (hb hby at_219) ?_
            refine XS.istore X190.here hx rfl (hb hby at_220) rfl (l' := #[.val (.int pa), .val (.int pb), .val (.int pr1), .val (.int pr2), .val (.int pu), .val (.int pm), .val (.int bb), .val (.int rr), .val (.int cu1), .val (.int cu2), .val (.int kd), .val (.ref b129), .val (.ref b160), .val (.int (own_len pa)), .val (.int (0 : Int32)), .unset]) rfl ?_
            exact kt
          · obtain ⟨_, _, ⟨T191, L191, k191, n191⟩, -, X191, ⟨Lc191, hQ191, l191, y191, z191⟩, st191⟩ := Jvm.LawKit.callS X180 hx (y := (⟨"com/example/facetwise/facetwise/RankedResultEqualsPinLaw", "c0", "(I)C"⟩ : MethodName)) hown164 (mvT hZ164 (hw _ (List.mem_of_getElem? (i := 77) rfl))) (mvT hZ164 (hw _ (List.mem_of_getElem? (i := 78) rfl))) (mvT hZ164 (hw _ (List.mem_of_getElem? (i := 5) rfl))) (mvT hZ164 (hw _ (List.mem_of_getElem? (i := 79) rfl))) (by decide) (backOf (W := 0) (rmC0 l Z a0 hw [] pa T174.heap n0 (Nat.le_trans Z0 K174.1) ) hZ164 (hw _ (List.mem_of_getElem? (i := 79) rfl)) (hw _ (List.mem_of_getElem? (i := 5) rfl)) (by decide) (by decide)) (g := (mkF m 186 #[.val (.int pa), .val (.int pb), .val (.int pr1), .val (.int pr2), .val (.int pu), .val (.int pm), .val (.int bb), .val (.int rr), .val (.int cu1), .val (.int cu2), .val (.int kd), .val (.ref b129), .val (.ref b160), .val (.int (own_len pa)), .unset, .unset] [(.int pa)])) rfl (by rw [hml]; rfl) (argsL := [(.int pa)]) (rest := []) (lenOf pd_9 rfl) rfl (by show 2 * 0 + _ ≤ _; exact Nat.le_of_eq rfl) (hb hby at_186) (fun _ _ => ⟨rfl, eq180, (by decide : 14 + 0 ≤ _), (by decide : 30 + 0 ≤ _)⟩)
            dsimp only [Pt.U, Pt.locs, Pt.cells, Pt.slots] at X191 l191 y191 z191 st191 hQ191
            rw [l191, y191, z191] at X191
            obtain ⟨hv191, Nq191, eq191⟩ := hQ191
            rw [hv191] at st191
            have N191 := Fr.app N180 Nq191
            obtain ⟨_, _, ⟨T192, L192, k192, n192⟩, -, X192, ⟨Lc192, hQ192, l192, y192, z192⟩, st192⟩ := Jvm.LawKit.callS X191 hx (y := (⟨"com/example/facetwise/facetwise/RankedResultEqualsPinLaw", "c0", "(I)C"⟩ : MethodName)) hown164 (mvT hZ164 (hw _ (List.mem_of_getElem? (i := 77) rfl))) (mvT hZ164 (hw _ (List.mem_of_getElem? (i := 78) rfl))) (mvT hZ164 (hw _ (List.mem_of_getElem? (i := 5) rfl))) (mvT hZ164 (hw _ (List.mem_of_getElem? (i := 79) rfl))) (by decide) (backOf (W := 1) (rmC0 l Z a0 hw [] bb T174.heap n0 (Nat.le_trans Z0 K174.1) ) hZ164 (hw _ (List.mem_of_getElem? (i := 79) rfl)) (hw _ (List.mem_of_getElem? (i := 5) rfl)) (by decide) (by decide)) (g := (mkF m 191 #[.val (.int pa), .val (.int pb), .val (.int pr1), .val (.int pr2), .val (.int pu), .val (.int pm), .val (.int bb), .val (.int rr), .val (.int cu1), .val (.int cu2), .val (.int kd), .val (.ref b129), .val (.ref b160), .val (.int (own_len pa)), .unset, .unset] [(.int bb), (.int (own_c0 pa))])) rfl (by rw [hml]; rfl) (argsL := [(.int bb)]) (rest := [(.int (own_c0 pa))]) (lenOf pd_9 rfl) rfl (by show 2 * 0 + _ ≤ _; exact Nat.le_of_eq rfl) (hb hby at_191) (fun _ _ => ⟨rfl, eq191, (by decide : 14 + 0 ≤ _), (by decide : 30 + 0 ≤ _)⟩)
            dsimp only [Pt.U, Pt.locs, Pt.cells, Pt.slots] at X192 l192 y192 z192 st192 hQ192
            rw [l192, y192, z192] at X192
            obtain ⟨hv192, Nq192, eq192⟩ := hQ192
            rw [hv192] at st192
            have N192 := Fr.app N191 Nq192
            obtain ⟨_, _, ⟨T193, L193, k193, n193⟩, -, X193, ⟨Lc193, hQ193, l193, y193, z193⟩, st193⟩ := Jvm.LawKit.callS X192 hx (y := (⟨"com/example/facetwise/facetwise/RankedResultEqualsPinLaw", "c1", "(I)C"⟩ : MethodName)) hown164 (mvT hZ164 (hw _ (List.mem_of_getElem? (i := 93) rfl))) (mvT hZ164 (hw _ (List.mem_of_getElem? (i := 94) rfl))) (mvT hZ164 (hw _ (List.mem_of_getElem? (i := 5) rfl))) (mvT hZ164 (hw _ (List.mem_of_getElem? (i := 95) rfl))) (by decide) (backOf (W := 0) (rmC1 l Z a0 hw [] pa T174.heap n0 (Nat.le_trans Z0 K174.1) ) hZ164 (hw _ (List.mem_of_getElem? (i := 95) rfl)) (hw _ (List.mem_of_getElem? (i := 5) rfl)) (by decide) (by decide)) (g := (mkF m 204 #[.val (.int pa), .val (.int pb), .val (.int pr1), .val (.int pr2), .val (.int pu), .val (.int pm), .val (.int bb), .val (.int rr), .val (.int cu1), .val (.int cu2), .val (.int kd), .val (.ref b129), .val (.ref b160), .val (.int (own_len pa)), .unset, .unset] [(.int pa)])) rfl (by rw [hml]; rfl) (argsL := [(.int pa)]) (rest := []) (lenOf pd_9 rfl) rfl (by show 2 * 0 + _ ≤ _; exact Nat.le_of_eq rfl) (hb hby at_204) (fun _ _ => ⟨rfl, eq192, (by decide : 14 + 0 ≤ _), (by decide : 30 + 0 ≤ _)⟩)
            dsimp only [Pt.U, Pt.locs, Pt.cells, Pt.slots] at X193 l193 y193 z193 st193 hQ193
            rw [l193, y193, z193] at X193
            obtain ⟨hv193, Nq193, eq193⟩ := hQ193
            rw [hv193] at st193
            have N193 := Fr.app N192 Nq193
            obtain ⟨_, _, ⟨T194, L194, k194, n194⟩, -, X194, ⟨Lc194, hQ194, l194, y194, z194⟩, st194⟩ := Jvm.LawKit.callS X193 hx (y := (⟨"com/example/facetwise/facetwise/RankedResultEqualsPinLaw", "c1", "(I)C"⟩ : MethodName)) hown164 (mvT hZ164 (hw _ (List.mem_of_getElem? (i := 93) rfl))) (mvT hZ164 (hw _ (List.mem_of_getElem? (i := 94) rfl))) (mvT hZ164 (hw _ (List.mem_of_getElem? (i := 5) rfl))) (mvT hZ164 (hw _ (List.mem_of_getElem? (i := 95) rfl))) (by decide) (backOf (W := 1) (rmC1 l Z a0 hw [] bb T174.heap n0 (Nat.le_trans Z0 K174.1) ) hZ164 (hw _ (List.mem_of_getElem? (i := 95) rfl)) (hw _ (List.mem_of_getElem? (i := 5) rfl)) (by decide) (by decide)) (g := (mkF m 209 #[.val (.int pa), .val (.int pb), .val (.int pr1), .val (.int pr2), .val (.int pu), .val (.int pm), .val (.int bb), .val (.int rr), .val (.int cu1), .val (.int cu2), .val (.int kd), .val (.ref b129), .val (.ref b160), .val (.int (own_len pa)), .unset, .unset] [(.int bb), (.int (own_c1 pa))])) rfl (by rw [hml]; rfl) (argsL := [(.int bb)]) (rest := [(.int (own_c1 pa))]) (lenOf pd_9 rfl) rfl (by show 2 * 0 + _ ≤ _; exact Nat.le_of_eq rfl) (hb hby at_209) (fun _ _ => ⟨rfl, eq193, (by decide : 14 + 0 ≤ _), (by decide : 30 + 0 ≤ _)⟩)
            dsimp only [Pt.U, Pt.locs, Pt.cells, Pt.slots] at X194 l194 y194 z194 st194 hQ194
            rw [l194, y194, z194] at X194
            obtain ⟨hv194, Nq194, eq194⟩ := hQ194
            rw [hv194] at st194
            have N194 := Fr.app N193 Nq194
            refine ⟨(1 : Int32), T194, _, X194, N194, eq194, (by rw [if_pos ((own_strEq pa bb).mpr ⟨hl, Or.inr h2, Or.inr h4⟩)]), fun t kt => ?_⟩
            refine R181 _ ?_
            show Steps _ _ _ (T180.setTop (mkF m 176 #[.val (.int pa), .val (.int pb), .val (.int pr1), .val (.int pr2), .val (.int pu), .val (.int pm), .val (.int bb), .val (.int rr), .val (.int cu1), .val (.int cu2), .val (.int kd), .val (.ref b129), .val (.ref b160), .val (.int (own_len pa)), .unset, .unset] [(.int (own_len bb)), (.int (own_len pa))])) _
            refine XS.icmpNo X180.here hx rfl (hb hby at_176) rfl (teq hl).2 ?_
            show Steps _ _ _ (T180.setTop (mkF m 179 #[.val (.int pa), .val (.int pb), .val (.int pr1), .val (.int pr2), .val (.int pu), .val (.int pm), .val (.int bb), .val (.int rr), .val (.int cu1), .val (.int cu2), .val (.int kd), .val (.ref b129), .val (.ref b160), .val (.int (own_len pa)), .unset, .unset] [])) _
            refine XS.iload X180.here hx rfl (hb hby at_179) rfl ?_
            refine XS.iconst X180.here hx rfl (hb hby at_181) ?_
            refine XS.icmpNo X180.here hx rfl (hb hby at_182) rfl (flt h1).1 ?_
            refine XS.iloadN X180.here hx rfl (hb hby at_185) rfl ?_
            show Steps _ _ _ (T180.setTop (mkF m 186 #[.val (.int pa), .val (.int pb), .val (.int pr1), .val (.int pr2), .val (.int pu), .val (.int pm), .val (.int bb), .val (.int rr), .val (.int cu1), .val (.int cu2), .val (.int kd), .val (.ref b129), .val (.ref b160), .val (.int (own_len pa)), .unset, .unset] [(.int pa)])) _
            refine st191 _ ?_
            show Steps _ _ _ (T191.setTop (mkF m 189 #[.val (.int pa), .val (.int pb), .val (.int pr1), .val (.int pr2), .val (.int pu), .val (.int pm), .val (.int bb), .val (.int rr), .val (.int cu1), .val (.int cu2), .val (.int kd), .val (.ref b129), .val (.ref b160), .val (.int (own_len pa)), .unset, .unset] [(.int (own_c0 pa))])) _
            refine XS.iload X191.here hx rfl (hb hby at_189) rfl ?_
            show Steps _ _ _ (T191.setTop (mkF m 191 #[.val (.int pa), .val (.int pb), .val (.int pr1), .val (.int pr2), .val (.int pu), .val (.int pm), .val (.int bb), .val (.int rr), .val (.int cu1), .val (.int cu2), .val (.int kd), .val (.ref b129), .val (.ref b160), .val (.int (own_len pa)), .unset, .unset] [(.int bb), (.int (own_c0 pa))])) _
            refine st192 _ ?_
            show Steps _ _ _ (T192.setTop (mkF m 194 #[.val (.int pa), .val (.int pb), .val (.int pr1), .val (.int pr2), .val (.int pu), .val (.int pm), .val (.int bb), .val (.int rr), .val (.int cu1), .val (.int cu2), .val (.int kd), .val (.ref b129), .val (.ref b160), .val (.int (own_len pa)), .unset, .unset] [(.int (own_c0 bb)), (.int (own_c0 pa))])) _
            refine XS.icmpNo X192.here hx rfl (hb hby at_194) rfl (teq h2).2 ?_
            refine XS.iload X192.here hx rfl (hb hby at_197) rfl ?_
            refine XS.iconst X192.here hx rfl (hb hby at_199) ?_
            refine XS.icmpNo X192.here hx rfl (hb hby at_200) rfl (flt h3).1 ?_
            show Steps _ _ _ (T192.setTop (mkF m 203 #[.val (.int pa), .val (.int pb), .val (.int pr1), .val (.int pr2), .val (.int pu), .val (.int pm), .val (.int bb), .val (.int rr), .val (.int cu1), .val (.int cu2), .val (.int kd), .val (.ref b129), .val (.ref b160), .val (.int (own_len pa)), .unset, .unset] [])) _
            refine XS.iloadN X192.here hx rfl (hb hby at_203) rfl ?_
            show Steps _ _ _ (T192.setTop (mkF m 204 #[.val (.int pa), .val (.int pb), .val (.int pr1), .val (.int pr2), .val (.int pu), .val (.int pm), .val (.int bb), .val (.int rr), .val (.int cu1), .val (.int cu2), .val (.int kd), .val (.ref b129), .val (.ref b160), .val (.int (own_len pa)), .unset, .unset] [(.int pa)])) _
            refine st193 _ ?_
            show Steps _ _ _ (T193.setTop (mkF m 207 #[.val (.int pa), .val (.int pb), .val (.int pr1), .val (.int pr2), .val (.int pu), .val (.int pm), .val (.int bb), .val (.int rr), .val (.int cu1), .val (.int cu2), .val (.int kd), .val (.ref b129), .val (.ref b160), .val (.int (own_len pa)), .unset, .unset] [(.int (own_c1 pa))])) _
            refine XS.iload X193.here hx rfl (hb hby at_207) rfl ?_
            show Steps _ _ _ (T193.setTop (mkF m 209 #[.val (.int pa), .val (.int pb), .val (.int pr1), .val (.int pr2), .val (.int pu), .val (.int pm), .val (.int bb), .val (.int rr), .val (.int cu1), .val (.int cu2), .val (.int kd), .val (.ref b129), .val (.ref b160), .val (.int (own_len pa)), .unset, .unset] [(.int bb), (.int (own_c1 pa))])) _
            refine st194 _ ?_
            show Steps _ _ _ (T194.setTop (mkF m 212 #[.val (.int pa), .val (.int pb), .val (.int pr1), .val (.int pr2), .val (.int pu), .val (.int pm), .val (.int bb), .val (.int rr), .val (.int cu1), .val (.int cu2), .val (.int kd), .val (.ref b129), .val (.ref b160), .val (.int (own_len pa)), .unset, .unset] [(.int (own_c1 bb)), (.int (own_c1 pa))])) _
            refine XS.icmpNo X194.here hx rfl (hb hby at_212) rfl (teq h4).2 ?_
            refine XS.iconst X194.here hx rfl (hb hby at_215) ?_
            refine XS.goto X194.here hx rfl (pc0 := 216) (pc' := 220) rfl (hb hby at_216) (by decide) (by decide) ?_
            refine XS.istore X194.here hx rfl (hb hby at_220) rfl (l' := #[.val (.int pa), .val (.int pb), .val (.int pr1), .val (.int pr2), .val (.int pu), .val (.int pm), .val (.int bb), .val (.int rr), .val (.int cu1), .val (.int cu2), .val (.int kd), .val (.ref b129), .val (.ref b160), .val (.int (own_len pa)), .val (.int (1 : Int32)), .unset]) rfl ?_
            exact kt
        have hsm := hp182
        have R195 : ∀ t, Steps p.tables e below (T182.setTop (mkF m 224 #[.val (.int pa), .val (.int pb), .val (.int pr1), .val (.int pr2), .val (.int pu), .val (.int pm), .val (.int bb), .val (.int rr), .val (.int cu1), .val (.int cu2), .val (.int kd), .val (.ref b129), .val (.ref b160), .val (.int (own_len pa)), .val (.int sm), .unset] [(.int sm)])) t → Steps p.tables e below (s₁.setTop (entryFrame m #[(.int pa), (.int pb), (.int pr1), (.int pr2), (.int pu), (.int pm)] maxLocals)) t := by
          intro t kt
          refine R182 _ ?_
          show Steps _ _ _ (T182.setTop (mkF m 222 #[.val (.int pa), .val (.int pb), .val (.int pr1), .val (.int pr2), .val (.int pu), .val (.int pm), .val (.int bb), .val (.int rr), .val (.int cu1), .val (.int cu2), .val (.int kd), .val (.ref b129), .val (.ref b160), .val (.int (own_len pa)), .val (.int sm), .unset] [])) _
          refine XS.iload X182.here hx rfl (hb hby at_222) rfl ?_
          show Steps _ _ _ (T182.setTop (mkF m 224 #[.val (.int pa), .val (.int pb), .val (.int pr1), .val (.int pr2), .val (.int pu), .val (.int pm), .val (.int bb), .val (.int rr), .val (.int cu1), .val (.int cu2), .val (.int kd), .val (.ref b129), .val (.ref b160), .val (.int (own_len pa)), .val (.int sm), .unset] [(.int sm)])) _
          exact kt
        obtain ⟨ex, hp196, R196⟩ : ∃ (ex : Int32), (ex = if own_str pa = own_str bb ∧ pr1 = rr ∧ own_u cu1 = own_u cu2 then (1 : Int32) else 0) ∧ ∀ t, Steps p.tables e below (T182.setTop (mkF m 247 #[.val (.int pa), .val (.int pb), .val (.int pr1), .val (.int pr2), .val (.int pu), .val (.int pm), .val (.int bb), .val (.int rr), .val (.int cu1), .val (.int cu2), .val (.int kd), .val (.ref b129), .val (.ref b160), .val (.int (own_len pa)), .val (.int sm), .val (.int ex)] [])) t → Steps p.tables e below (s₁.setTop (entryFrame m #[(.int pa), (.int pb), (.int pr1), (.int pr2), (.int pu), (.int pm)] maxLocals)) t := by
          rcases own_four (own_str pa = own_str bb) (pr1 = rr) (cu1 = cu2) with ha | ⟨ha, hb2⟩ | ⟨ha, hb2, hc⟩ | ⟨ha, hb2, hc⟩
          · refine ⟨(0 : Int32), (by rw [if_neg (fun q => ha q.1)]), fun t kt => ?_⟩
            refine R195 _ ?_
            show Steps _ _ _ (T182.setTop (mkF m 224 #[.val (.int pa), .val (.int pb), .val (.int pr1), .val (.int pr2), .val (.int pu), .val (.int pm), .val (.int bb), .val (.int rr), .val (.int cu1), .val (.int cu2), .val (.int kd), .val (.ref b129), .val (.ref b160), .val (.int (own_len pa)), .val (.int sm), .unset] [(.int sm)])) _
            refine XS.ifYes X182.here hx rfl (pc0 := 224) (pc' := 244) rfl (hb hby at_224) rfl ((if0 _ _).trans (teq (hsm.trans (if_neg ha))).1) (by decide) (by decide) ?_
            refine XS.iconst X182.here hx rfl (hb hby at_244) ?_
            refine XS.istore X182.here hx rfl (hb hby at_245) rfl (l' := #[.val (.int pa), .val (.int pb), .val (.int pr1), .val (.int pr2), .val (.int pu), .val (.int pm), .val (.int bb), .val (.int rr), .val (.int cu1), .val (.int cu2), .val (.int kd), .val (.ref b129), .val (.ref b160), .val (.int (own_len pa)), .val (.int sm), .val (.int (0 : Int32))]) rfl ?_
            exact kt
          · refine ⟨(0 : Int32), (by rw [if_neg (fun q => hb2 q.2.1)]), fun t kt => ?_⟩
            refine R195 _ ?_
            show Steps _ _ _ (T182.setTop (mkF m 224 #[.val (.int pa), .val (.int pb), .val (.int pr1), .val (.int pr2), .val (.int pu), .val (.int pm), .val (.int bb), .val (.int rr), .val (.int cu1), .val (.int cu2), .val (.int kd), .val (.ref b129), .val (.ref b160), .val (.int (own_len pa)), .val (.int sm), .unset] [(.int sm)])) _
            refine XS.ifNo X182.here hx rfl (hb hby at_224) rfl ((if0 _ _).trans (feq (fun q => absurd (hsm.symm.trans q) (by rw [if_pos ha]; decide))).1) ?_
            show Steps _ _ _ (T182.setTop (mkF m 227 #[.val (.int pa), .val (.int pb), .val (.int pr1), .val (.int pr2), .val (.int pu), .val (.int pm), .val (.int bb), .val (.int rr), .val (.int cu1), .val (.int cu2), .val (.int kd), .val (.ref b129), .val (.ref b160), .val (.int (own_len pa)), .val (.int sm), .unset] [])) _
            refine XS.iloadN X182.here hx rfl (hb hby at_227) rfl ?_
            refine XS.iload X182.here hx rfl (hb hby at_228) rfl ?_
            refine XS.icmpYes X182.here hx rfl (pc0 := 230) (pc' := 244) rfl (hb hby at_230) rfl (feq hb2).2 (by decide) (by decide) ?_
            refine XS.iconst X182.here hx rfl (hb hby at_244) ?_
            show Steps _ _ _ (T182.setTop (mkF m 245 #[.val (.int pa), .val (.int pb), .val (.int pr1), .val (.int pr2), .val (.int pu), .val (.int pm), .val (.int bb), .val (.int rr), .val (.int cu1), .val (.int cu2), .val (.int kd), .val (.ref b129), .val (.ref b160), .val (.int (own_len pa)), .val (.int sm), .unset] [(.int (0 : Int32))])) _
            refine XS.istore X182.here hx rfl (hb hby at_245) rfl (l' := #[.val (.int pa), .val (.int pb), .val (.int pr1), .val (.int pr2), .val (.int pu), .val (.int pm), .val (.int bb), .val (.int rr), .val (.int cu1), .val (.int cu2), .val (.int kd), .val (.ref b129), .val (.ref b160), .val (.int (own_len pa)), .val (.int sm), .val (.int (0 : Int32))]) rfl ?_
            exact kt
          · refine ⟨(0 : Int32), (by rw [if_neg (fun q => hc (own_ucu hi1 hi2 q.2.2))]), fun t kt => ?_⟩
            refine R195 _ ?_
            show Steps _ _ _ (T182.setTop (mkF m 224 #[.val (.int pa), .val (.int pb), .val (.int pr1), .val (.int pr2), .val (.int pu), .val (.int pm), .val (.int bb), .val (.int rr), .val (.int cu1), .val (.int cu2), .val (.int kd), .val (.ref b129), .val (.ref b160), .val (.int (own_len pa)), .val (.int sm), .unset] [(.int sm)])) _
            refine XS.ifNo X182.here hx rfl (hb hby at_224) rfl ((if0 _ _).trans (feq (fun q => absurd (hsm.symm.trans q) (by rw [if_pos ha]; decide))).1) ?_
            refine XS.iloadN X182.here hx rfl (hb hby at_227) rfl ?_
            refine XS.iload X182.here hx rfl (hb hby at_228) rfl ?_
            show Steps _ _ _ (T182.setTop (mkF m 230 #[.val (.int pa), .val (.int pb), .val (.int pr1), .val (.int pr2), .val (.int pu), .val (.int pm), .val (.int bb), .val (.int rr), .val (.int cu1), .val (.int cu2), .val (.int kd), .val (.ref b129), .val (.ref b160), .val (.int (own_len pa)), .val (.int sm), .unset] [(.int rr), (.int pr1)])) _
            refine XS.icmpNo X182.here hx rfl (hb hby at_230) rfl (teq hb2).2 ?_
            refine XS.iload X182.here hx rfl (hb hby at_233) rfl ?_
            refine XS.iload X182.here hx rfl (hb hby at_235) rfl ?_
            refine XS.icmpYes X182.here hx rfl (pc0 := 237) (pc' := 244) rfl (hb hby at_237) rfl (feq hc).2 (by decide) (by decide) ?_
            show Steps _ _ _ (T182.setTop (mkF m 244 #[.val (.int pa), .val (.int pb), .val (.int pr1), .val (.int pr2), .val (.int pu), .val (.int pm), .val (.int bb), .val (.int rr), .val (.int cu1), .val (.int cu2), .val (.int kd), .val (.ref b129), .val (.ref b160), .val (.int (own_len pa)), .val (.int sm), .unset] [])) _
            refine XS.iconst X182.here hx rfl (hb hby at_244) ?_
            refine XS.istore X182.here hx rfl (hb hby at_245) rfl (l' := #[.val (.int pa), .val (.int pb), .val (.int pr1), .val (.int pr2), .val (.int pu), .val (.int pm), .val (.int bb), .val (.int rr), .val (.int cu1), .val (.int cu2), .val (.int kd), .val (.ref b129), .val (.ref b160), .val (.int (own_len pa)), .val (.int sm), .val (.int (0 : Int32))]) rfl ?_
            exact kt
          · refine ⟨(1 : Int32), (by rw [if_pos ⟨ha, hb2, by rw [hc]⟩]), fun t kt => ?_⟩
            refine R195 _ ?_
            show Steps _ _ _ (T182.setTop (mkF m 224 #[.val (.int pa), .val (.int pb), .val (.int pr1), .val (.int pr2), .val (.int pu), .val (.int pm), .val (.int bb), .val (.int rr), .val (.int cu1), .val (.int cu2), .val (.int kd), .val (.ref b129), .val (.ref b160), .val (.int (own_len pa)), .val (.int sm), .unset] [(.int sm)])) _
            refine XS.ifNo X182.here hx rfl (hb hby at_224) rfl ((if0 _ _).trans (feq (fun q => absurd (hsm.symm.trans q) (by rw [if_pos ha]; decide))).1) ?_
            refine XS.iloadN X182.here hx rfl (hb hby at_227) rfl ?_
            show Steps _ _ _ (T182.setTop (mkF m 228 #[.val (.int pa), .val (.int pb), .val (.int pr1), .val (.int pr2), .val (.int pu), .val (.int pm), .val (.int bb), .val (.int rr), .val (.int cu1), .val (.int cu2), .val (.int kd), .val (.ref b129), .val (.ref b160), .val (.int (own_len pa)), .val (.int sm), .unset] [(.int pr1)])) _
            refine XS.iload X182.here hx rfl (hb hby at_228) rfl ?_
            refine XS.icmpNo X182.here hx rfl (hb hby at_230) rfl (teq hb2).2 ?_
            refine XS.iload X182.here hx rfl (hb hby at_233) rfl ?_
            refine XS.iload X182.here hx rfl (hb hby at_235) rfl ?_
            show Steps _ _ _ (T182.setTop (mkF m 237 #[.val (.int pa), .val (.int pb), .val (.int pr1), .val (.int pr2), .val (.int pu), .val (.int pm), .val (.int bb), .val (.int rr), .val (.int cu1), .val (.int cu2), .val (.int kd), .val (.ref b129), .val (.ref b160), .val (.int (own_len pa)), .val (.int sm), .unset] [(.int cu2), (.int cu1)])) _
            refine XS.icmpNo X182.here hx rfl (hb hby at_237) rfl (teq hc).2 ?_
            refine XS.iconst X182.here hx rfl (hb hby at_240) ?_
            refine XS.goto X182.here hx rfl (pc0 := 241) (pc' := 245) rfl (hb hby at_241) (by decide) (by decide) ?_
            refine XS.istore X182.here hx rfl (hb hby at_245) rfl (l' := #[.val (.int pa), .val (.int pb), .val (.int pr1), .val (.int pr2), .val (.int pu), .val (.int pm), .val (.int bb), .val (.int rr), .val (.int cu1), .val (.int cu2), .val (.int kd), .val (.ref b129), .val (.ref b160), .val (.int (own_len pa)), .val (.int sm), .val (.int (1 : Int32))]) rfl ?_
            exact kt
        have hex1 := hp196
        have hex2 : ex = if own_str bb = own_str pa ∧ rr = pr1 ∧ own_u cu2 = own_u cu1 then (1 : Int32) else 0 := hex1.trans (ite_congr (propext ⟨fun q => ⟨q.1.symm, q.2.1.symm, q.2.2.symm⟩, fun q => ⟨q.1.symm, q.2.1.symm, q.2.2.symm⟩⟩) (fun _ => rfl) (fun _ => rfl))
        have f198 := f168.keep Kc164 all0
        have f199 := f198.keep Kc174 (allS g_b160 all0)
        have f200 := f171.keep Kc174
        have f201 := Fi137.ext E160
        have f202 := f201.keep Kc164 nin0
        have f203 := f202.keep Kc174 (ninS (Nat.ne_of_lt lt_b129_b160) nin0)
        have f204 := Fk137.ext E160
        have f205 := f204.keep Kc164 nin0
        have f206 := f205.keep Kc174 (ninS (Nat.ne_of_lt lt_b129_b160) nin0)
        have f207 := Fu137.ext E160
        have f208 := f207.keep Kc164 nin0
        have f209 := f208.keep Kc174 (ninS (Nat.ne_of_lt lt_b129_b160) nin0)
        have f210 := f161.ext E160
        have f211 := f210.keep Kc164
        have f212 := f211.keep Kc174
        have f213 := Fv131.keep Kc137 (ninS (Ne.symm ne_b129_r132) nin0)
        have f214 := f213.ext E160
        have f215 := f214.keep Kc164 nin0
        have f216 := f215.keep Kc174 (ninS (Nat.ne_of_lt lt_r132_b160) nin0)
        have f217 := Fc131.keep Kc137 (ninS (Ne.symm ne_b129_r132) nin0)
        have f218 := f217.ext E160
        have f219 := f218.keep Kc164 nin0
        have f220 := f219.keep Kc174 (ninS (Nat.ne_of_lt lt_r132_b160) nin0)
        have f221 := f162.ext E160
        have f222 := f221.keep Kc164 nin0
        have f223 := f222.keep Kc174 (ninS (Nat.ne_of_lt lt_t132_b160) nin0)
        have f224 := Ex164.keep Kc174
        have f225 := Fv164.keep Kc174 (ninS (Ne.symm ne_b160_r165) nin0)
        have f226 := Fc164.keep Kc174 (ninS (Ne.symm ne_b160_r165) nin0)
        have f227 := Vt164.keep Kc174 (ninS (Ne.symm ne_b160_t165) nin0)
        obtain ⟨cq197, kq197, q197a, q197b, q197c⟩ := isOf hZ164 e182 f200
        obtain ⟨_, _, ⟨T197, L197, k197, n197⟩, -, X197, ⟨Lc197, hQ197, l197, y197, z197⟩, st197⟩ := X182.virtualBack hx (y := (⟨"com/example/facetwise/facetwise/RankedResult", "equals", "(Ljava/lang/Object;)Z"⟩ : MethodName)) (z := (⟨"com/example/facetwise/facetwise/RankedResult", "equals", "(Ljava/lang/Object;)Z"⟩ : MethodName)) hown164 (mvT hZ164 (hw _ (List.mem_of_getElem? (i := 46) rfl))) (mvT hZ164 (hw _ (List.mem_of_getElem? (i := 47) rfl))) (notFace_of_selects (args := #[]) (mvT hZ164 (hw _ (List.mem_of_getElem? (i := 49) rfl)))) (mvT hZ164 (hw _ (List.mem_of_getElem? (i := 49) rfl))) (mvT hZ164 (hw _ (List.mem_of_getElem? (i := 48) rfl))) (by decide) (backOf (W := 0) (rmEQ l Z a0 hw [] b129 b160 G1 r132 t132 kt132 pa pr1 (own_u cu1) r165 t165 kt165 bb rr (own_u cu2) T174.heap n0 (Nat.le_trans Z0 K174.1) O2 P5 f199 f200 f203 f206 f209 f212 f216 f220 f223 NNu1 Ex174 Fi174 Fk174 Fu174 f224 f225 f226 f227 NNu2) hZ164 (hw _ (List.mem_of_getElem? (i := 50) rfl)) (hw _ (List.mem_of_getElem? (i := 2) rfl)) (by decide) (by decide)) q197a q197c (g := (mkF m 251 #[.val (.int pa), .val (.int pb), .val (.int pr1), .val (.int pr2), .val (.int pu), .val (.int pm), .val (.int bb), .val (.int rr), .val (.int cu1), .val (.int cu2), .val (.int kd), .val (.ref b129), .val (.ref b160), .val (.int (own_len pa)), .val (.int sm), .val (.int ex)] [(.ref b160), (.ref b129)])) rfl (by rw [hml]; rfl) (Steps.refl _) (argsL := [(.ref b160)]) (rest := []) (lenOf pd_11 rfl) rfl (by show 2 * 0 + _ ≤ _; exact Nat.le_of_eq rfl) (hb hby at_251) (fun _ _ => ⟨rfl, e182, (by decide : 14 + 0 ≤ _), (by decide : 30 + 0 ≤ _)⟩)
        dsimp only [Pt.U, Pt.locs, Pt.cells, Pt.slots] at X197 l197 y197 z197 st197 hQ197
        rw [l197, y197, z197] at X197
        obtain ⟨hv197, Nq197, eq197⟩ := hQ197
        rw [hv197] at st197
        have N197 := Fr.app N182 Nq197
        obtain ⟨cq228, kq228, q228a, q228b, q228c⟩ := isOf hZ164 eq197 Ex174
        obtain ⟨_, _, ⟨T228, L228, k228, n228⟩, -, X228, ⟨Lc228, hQ228, l228, y228, z228⟩, st228⟩ := X197.virtualBack hx (y := (⟨"com/example/facetwise/facetwise/RankedResult", "equals", "(Ljava/lang/Object;)Z"⟩ : MethodName)) (z := (⟨"com/example/facetwise/facetwise/RankedResult", "equals", "(Ljava/lang/Object;)Z"⟩ : MethodName)) hown164 (mvT hZ164 (hw _ (List.mem_of_getElem? (i := 46) rfl))) (mvT hZ164 (hw _ (List.mem_of_getElem? (i := 47) rfl))) (notFace_of_selects (args := #[]) (mvT hZ164 (hw _ (List.mem_of_getElem? (i := 49) rfl)))) (mvT hZ164 (hw _ (List.mem_of_getElem? (i := 49) rfl))) (mvT hZ164 (hw _ (List.mem_of_getElem? (i := 48) rfl))) (by decide) (backOf (W := 0) (rmEQ l Z a0 hw [] b160 b129 G1 r165 t165 kt165 bb rr (own_u cu2) r132 t132 kt132 pa pr1 (own_u cu1) T174.heap n0 (Nat.le_trans Z0 K174.1) O2 P5 f199 Ex174 Fi174 Fk174 Fu174 f224 f225 f226 f227 NNu2 f200 f203 f206 f209 f212 f216 f220 f223 NNu1) hZ164 (hw _ (List.mem_of_getElem? (i := 50) rfl)) (hw _ (List.mem_of_getElem? (i := 2) rfl)) (by decide) (by decide)) q228a q228c (g := (mkF m 263 #[.val (.int pa), .val (.int pb), .val (.int pr1), .val (.int pr2), .val (.int pu), .val (.int pm), .val (.int bb), .val (.int rr), .val (.int cu1), .val (.int cu2), .val (.int kd), .val (.ref b129), .val (.ref b160), .val (.int (own_len pa)), .val (.int sm), .val (.int ex)] [(.ref b129), (.ref b160)])) rfl (by rw [hml]; rfl) (Steps.refl _) (argsL := [(.ref b129)]) (rest := []) (lenOf pd_11 rfl) rfl (by show 2 * 0 + _ ≤ _; exact Nat.le_of_eq rfl) (hb hby at_263) (fun _ _ => ⟨rfl, eq197, (by decide : 14 + 0 ≤ _), (by decide : 30 + 0 ≤ _)⟩)
        dsimp only [Pt.U, Pt.locs, Pt.cells, Pt.slots] at X228 l228 y228 z228 st228 hQ228
        rw [l228, y228, z228] at X228
        obtain ⟨hv228, Nq228, eq228⟩ := hQ228
        rw [hv228] at st228
        have N228 := Fr.app N197 Nq228
        obtain ⟨fs, hr, hrun, hended, hWide⟩ := X228.leaveW (s := s) hS164a (by rw [eq228]; exact (Nat.le_trans (Nat.le_refl _) Kc174.1)) (v := some (.int (1 : Int32))) (fun h => by rw [Bd.returns] at h; cases h)
        have hCe := CR178.trans (CHv.at (s := s) (vm0 := T164.vm) X228 hZ164 (own_hEL Z a0 hw) CR178.1)
        refine ⟨_, _, ?_, hrun, hended, _, _, rfl, ?_, (by rw [hh]; rw [← eq228] at hCe; exact hCe), hWide.1, hWide.2.1, hWide.2.2.1, hWide.2.2.2.mono (by decide) (by decide)⟩
        · refine R196 _ ?_
          show Steps _ _ _ (T182.setTop (mkF m 247 #[.val (.int pa), .val (.int pb), .val (.int pr1), .val (.int pr2), .val (.int pu), .val (.int pm), .val (.int bb), .val (.int rr), .val (.int cu1), .val (.int cu2), .val (.int kd), .val (.ref b129), .val (.ref b160), .val (.int (own_len pa)), .val (.int sm), .val (.int ex)] [])) _
          refine XS.aload X182.here hx rfl (hb hby at_247) rfl rfl ?_
          refine XS.aload X182.here hx rfl (hb hby at_249) rfl rfl ?_
          show Steps _ _ _ (T182.setTop (mkF m 251 #[.val (.int pa), .val (.int pb), .val (.int pr1), .val (.int pr2), .val (.int pu), .val (.int pm), .val (.int bb), .val (.int rr), .val (.int cu1), .val (.int cu2), .val (.int kd), .val (.ref b129), .val (.ref b160), .val (.int (own_len pa)), .val (.int sm), .val (.int ex)] [(.ref b160), (.ref b129)])) _
          refine st197.trans ?_
          show Steps _ _ _ (T197.setTop (mkF m 254 #[.val (.int pa), .val (.int pb), .val (.int pr1), .val (.int pr2), .val (.int pu), .val (.int pm), .val (.int bb), .val (.int rr), .val (.int cu1), .val (.int cu2), .val (.int kd), .val (.ref b129), .val (.ref b160), .val (.int (own_len pa)), .val (.int sm), .val (.int ex)] [(.int (if own_str pa = own_str bb ∧ pr1 = rr ∧ (own_u cu1) = (own_u cu2) then (1 : Int32) else 0))])) _
          refine XS.iload X197.here hx rfl (hb hby at_254) rfl ?_
          refine XS.icmpNo X197.here hx rfl (hb hby at_256) rfl (teq hex1.symm).2 ?_
          refine XS.aload X197.here hx rfl (hb hby at_259) rfl rfl ?_
          refine XS.aload X197.here hx rfl (hb hby at_261) rfl rfl ?_
          show Steps _ _ _ (T197.setTop (mkF m 263 #[.val (.int pa), .val (.int pb), .val (.int pr1), .val (.int pr2), .val (.int pu), .val (.int pm), .val (.int bb), .val (.int rr), .val (.int cu1), .val (.int cu2), .val (.int kd), .val (.ref b129), .val (.ref b160), .val (.int (own_len pa)), .val (.int sm), .val (.int ex)] [(.ref b129), (.ref b160)])) _
          refine st228.trans ?_
          show Steps _ _ _ (T228.setTop (mkF m 266 #[.val (.int pa), .val (.int pb), .val (.int pr1), .val (.int pr2), .val (.int pu), .val (.int pm), .val (.int bb), .val (.int rr), .val (.int cu1), .val (.int cu2), .val (.int kd), .val (.ref b129), .val (.ref b160), .val (.int (own_len pa)), .val (.int sm), .val (.int ex)] [(.int (if own_str bb = own_str pa ∧ rr = pr1 ∧ (own_u cu2) = (own_u cu1) then (1 : Int32) else 0))])) _
          refine XS.iload X228.here hx rfl (hb hby at_266) rfl ?_
          refine XS.icmpNo X228.here hx rfl (hb hby at_268) rfl (teq hex2.symm).2 ?_
          refine XS.iconst X228.here hx rfl (hb hby at_271) ?_
          refine XS.goto X228.here hx rfl (pc0 := 272) (pc' := 276) rfl (hb hby at_272) (by decide) (by decide) ?_
          show Steps _ _ _ (T228.setTop (mkF m 276 #[.val (.int pa), .val (.int pb), .val (.int pr1), .val (.int pr2), .val (.int pu), .val (.int pm), .val (.int bb), .val (.int rr), .val (.int cu1), .val (.int cu2), .val (.int kd), .val (.ref b129), .val (.ref b160), .val (.int (own_len pa)), .val (.int sm), .val (.int ex)] [(.int (1 : Int32))])) _
          exact retN X228 hx (t := .boolean) Bd.returns (by simp) (hb hby at_276) hr
        · show Q0 Z pa pb pr1 pr2 pu pm G1 h0 n0 _ T228.heap _
          rw [eq228]
          exact ⟨rfl, N228⟩
set_option maxRecDepth 65536 in
set_option maxHeartbeats 40000000 in
theorem comes_1 {Post : Tables → Env → Array Value → State → Outcome → State → Prop} (hpost : ∀ tb e args s v u, (limb_1_1.after args s (.returned v) u = true ∧ limb_1_2.after args s (.returned v) u = true ∧ True) → ReturnedEndW s (.returned v) u (Jvm.fieldLocs frame_1_writes args s ++ Jvm.arrayLocs frame_1_arrays args s ++ Jvm.staticLocs frame_1_statics s) 32 1152 → Post tb e args s (.returned v) u) :
    ArmFor flags0 classFile x code maxLocals ret World_1 tables_1 room_1 Calls_1 rest_1 Pre_1 Post := by
  intro l hfl _ _ p e ha hc hk s m args below hf hA hF happ hP
  obtain ⟨hcalls, hrest, hpre⟩ := hP
  obtain ⟨-, -, -, hnamed, -, -, -, hat⟩ := (Spec.applies_iff hf).mp happ
  obtain ⟨hg, hn⟩ := and_e (Cond.before_iff.mp (show (Jvm.Cond.and given_1 narrow_1).before args s = true from hpre))
  obtain ⟨h1, h2⟩ := and_e hg
  obtain ⟨i0, h3⟩ := and_e h2
  obtain ⟨i1, h4⟩ := and_e h3
  obtain ⟨i2, h5⟩ := and_e h4
  obtain ⟨i3, h6⟩ := and_e h5
  obtain ⟨i4, i5⟩ := and_e h6
  obtain ⟨w0, w1, w2, w3, w4, w5, rfl⟩ : ∃ w0 w1 w2 w3 w4 w5 : Value, args = #[w0, w1, w2, w3, w4, w5] := by
    have hs : args.size = 6 := by simpa [Cond.value, given_1] using h1
    obtain ⟨L⟩ := args
    match L, hs with
    | [w0, w1, w2, w3, w4, w5], _ => exact ⟨w0, w1, w2, w3, w4, w5, rfl⟩
  have hw := fun d (hd : d ∈ tables_1) => atoms_spec (ws := Jvm.Cond.code x code maxLocals ret :: tables_1) hat d (List.mem_cons_of_mem _ hd)
  obtain ⟨hsets, hown0⟩ := atoms_of _ (rest_1_c_eq ▸ (show rest_1_c.before _ s = true from hrest))
  have n5 := not_v (Cond.before_iff.mp (hsets _ (List.mem_of_getElem? (i := 2) rfl)))
  obtain ⟨j0, e0⟩ := is_v i0
  obtain rfl : w0 = (.int j0) := Option.some.inj e0
  obtain ⟨j1, e1⟩ := is_v i1
  obtain rfl : w1 = (.int j1) := Option.some.inj e1
  obtain ⟨j2, e2⟩ := is_v i2
  obtain rfl : w2 = (.int j2) := Option.some.inj e2
  obtain ⟨j3, e3⟩ := is_v i3
  obtain rfl : w3 = (.int j3) := Option.some.inj e3
  obtain ⟨j4, e4⟩ := is_v i4
  obtain rfl : w4 = (.int j4) := Option.some.inj e4
  obtain ⟨j5, e5⟩ := is_v i5
  obtain rfl : w5 = (.int j5) := Option.some.inj e5
  obtain ⟨G1, eG⟩ := is_v (Cond.before_iff.mp (hsets _ (List.mem_of_getElem? (i := 1) rfl)))
  have O2 : Sta s s.heap "java/lang/String" "COMPACT_STRINGS" "Z" (.int G1) := Sta.start eG (Or.inl (hsets _ (List.mem_of_getElem? (i := 0) rfl)))
  have P5 : ¬ (G1 = (0 : Int32)) := gotF (Cond.eq_ints eG (Term.int_eval (0))) n5
  have hCH : CHv s own_EL s.vm s.heap := CHv.start (own_hEL s _ hw) (fun q hq => hcalls.1 q hq) (hsets _ (List.mem_of_getElem? (i := 2) rfl)) (hw _ (List.mem_of_getElem? (i := 26) rfl)) (hw _ (List.mem_of_getElem? (i := 12) rfl))
  obtain ⟨n, o, h1, h2, h3, _, L, rfl, ⟨rfl, N⟩, -, hq⟩ := rm0 l s _ hw tables_1 j0 j1 j2 j3 j4 j5 G1 s.heap s.heap.size (Nat.le_refl _) O2 P5 (Old.start s) p e ha hc hk s m _ below hf ((Spec.applies_iff_loose hf).mp happ).1 ⟨rfl, State.Warmed39.refl s, rfl, hCH⟩ trivial
  refine ⟨n, _, h1, h2, h3, hpost _ _ _ _ _ _ ⟨Cond.after_iff.mpr rfl, Cond.after_iff.mpr (eq_i res_at (Term.int_eval (1)) rfl), trivial⟩ ⟨hq.1, hq.2.1, hq.2.2.1, (hq.2.2.2.sift fun y hy => Or.inr (N y hy)).mono (by decide) (by decide)⟩⟩
theorem main_1_1 : Claimed_1_1 := comes_1 fun _ _ _ _ _ _ h hF => ⟨h.1, hF⟩
theorem main_1_2 : Claimed_1_2 := comes_1 fun _ _ _ _ _ _ h hF => ⟨h.2.1, hF⟩
end Jvm.Pilot.@@N@@

namespace Jvm.Pilot.@@N@@
open Jvm Jvm.ClassFile Sem Op Lib Jvm.Free Jvm.Stand Jvm.Pilot.@@N@@.Jvm.D
/-! MADE BY PROGRAM (witnessworld.py) out of the Statement's table words and the real class files: 22 classes; the members and pool entries that the words name. The judged class is class 1, her method 6. -/
namespace start1
open Jvm.ClassFile
def u (s : String) : CpInfo := .utf8 (stringToUtf16 s)
/-- a pool by its gaps: so many unusable entries, then the entry; so many at the end -/
def gap : Nat → List CpInfo → List CpInfo
  | 0, r => r
  | n + 1, r => .unusable :: gap n r
def poolList (es : List (Nat × CpInfo)) (last : Nat) : List CpInfo := es.foldr (fun e r => gap e.1 (e.2 :: r)) (gap last [])
def pool (es : List (Nat × CpInfo)) (last : Nat) : Array CpInfo := ⟨poolList es last⟩
def fileOf (pool : Array CpInfo) (this : Nat) (attrs : Array Attribute := #[]) (ms : Array MethodInfo := #[]) (fl : Nat := 33) (sup : Nat := 0) (ifs : Array Nat := #[]) (fds : Array FieldInfo := #[]) : ClassFile where
  minorVersion := 0
  majorVersion := 65
  constantPool := pool
  accessFlags := fl
  thisClass := this
  superClass := sup
  interfaces := ifs
  fields := fds
  methods := ms
  attributes := attrs
def plain (name : String) (sup : Option ClassId) : Class where
  name := name
  kind := .ordinary
  loader := none
  accessFlags := 33
  super := sup
  interfaces := #[]
  cf := none
  fields := #[]
  methods := #[]
  instanceTypes := #[]
  staticTypes := #[]
  resolved := #[]
  callSites := []
  init := .initialized
  statics := none
  mirror := none

def pool0 : Array CpInfo := pool [(5, u "<init>"), (0, u "()V"), (1, .class_ 10), (1, u "java/lang/Object")] 113

def k0c0 : Code := { maxStack := 0, maxLocals := 1, code := object_method_1_code, exceptionTable := #[], attributes := #[] }
def k0m0 : Method := { name := "<init>", desc := "()V", sig := { parameters := [], returnType := none }, accessFlags := 1, code := some k0c0 }
/-- java/lang/Object -/
def k0 : Class := { plain "java/lang/Object" none with
  accessFlags := 33
  interfaces := #[]
  cf := some (fileOf pool0 8 #[] #[{ accessFlags := 1, nameIndex := 5, descriptorIndex := 6, attributes := #[] }] 33 0 #[] #[])
  fields := #[]
  methods := #[k0m0]
  instanceTypes := #[]
  staticTypes := #[]
  resolved := Array.replicate 124 none
  statics := none }

def pool1 : Array CpInfo := pool [(2, .class_ 4), (1, u "java/lang/Object"), (0, u "<init>"), (0, u "()V"), (0, .integer 2147483647), (0, .methodref 9 10), (0, .class_ 11), (0, .nameAndType 12 13), (0, u "com/example/facetwise/facetwise/RankedResultEqualsPinLaw"), (0, u "len"), (0, u "(I)I"), (0, .class_ 15), (0, u "java/lang/String"), (0, .methodref 14 17), (0, .nameAndType 5 18), (0, u "([C)V"), (0, .methodref 9 20), (0, .nameAndType 21 22), (0, u "c0"), (0, u "(I)C"), (0, .methodref 14 24), (0, .nameAndType 25 26), (0, u "valueOf"), (0, u "(C)Ljava/lang/String;"), (0, .methodref 9 28), (0, .nameAndType 29 22), (0, u "c1"), (0, .double 9223372036854775808), (1, .class_ 33), (0, u "com/example/facetwise/facetwise/RankedResult"), (0, .methodref 9 35), (0, .nameAndType 36 37), (0, u "mk"), (0, u "(I)Ljava/lang/String;"), (0, .methodref 9 39), (0, .nameAndType 40 41), (0, u "util"), (0, u "(I)D"), (0, .methodref 32 43), (0, .nameAndType 5 44), (0, u "(Ljava/lang/String;ID)V"), (0, .methodref 32 46), (0, .nameAndType 47 48), (0, u "equals"), (0, u "(Ljava/lang/Object;)Z"), (3, u "law"), (0, u "(IIIIII)Z")] 2

def k1m0 : Method := { name := "<init>", desc := "()V", sig := { parameters := [], returnType := none }, accessFlags := 1, code := none }
def k1c1 : Code := { maxStack := 2, maxLocals := 1, code := method_2_code, exceptionTable := #[], attributes := #[] }
def k1m1 : Method := { name := "len", desc := "(I)I", sig := { parameters := [.int], returnType := some .int }, accessFlags := 10, code := some k1c1 }
def k1c2 : Code := { maxStack := 2, maxLocals := 1, code := method_3_code, exceptionTable := #[], attributes := #[] }
def k1m2 : Method := { name := "c0", desc := "(I)C", sig := { parameters := [.int], returnType := some .char }, accessFlags := 10, code := some k1c2 }
def k1c3 : Code := { maxStack := 2, maxLocals := 1, code := method_4_code, exceptionTable := #[], attributes := #[] }
def k1m3 : Method := { name := "c1", desc := "(I)C", sig := { parameters := [.int], returnType := some .char }, accessFlags := 10, code := some k1c3 }
def k1c4 : Code := { maxStack := 3, maxLocals := 3, code := method_5_code, exceptionTable := #[], attributes := #[] }
def k1m4 : Method := { name := "mk", desc := "(I)Ljava/lang/String;", sig := { parameters := [.int], returnType := some (.object "java/lang/String") }, accessFlags := 10, code := some k1c4 }
def k1c5 : Code := { maxStack := 2, maxLocals := 1, code := method_6_code, exceptionTable := #[], attributes := #[] }
def k1m5 : Method := { name := "util", desc := "(I)D", sig := { parameters := [.int], returnType := some .double }, accessFlags := 10, code := some k1c5 }
def k1c6 : Code := { maxStack := 6, maxLocals := 16, code := code, exceptionTable := #[], attributes := #[] }
def k1m6 : Method := { name := "law", desc := "(IIIIII)Z", sig := { parameters := [.int, .int, .int, .int, .int, .int], returnType := some .boolean }, accessFlags := 9, code := some k1c6 }
/-- com/example/facetwise/facetwise/RankedResultEqualsPinLaw -/
def k1 : Class := { plain "com/example/facetwise/facetwise/RankedResultEqualsPinLaw" (some 0) with
  accessFlags := 49
  interfaces := #[]
  cf := some (fileOf pool1 9 #[] #[{ accessFlags := 1, nameIndex := 5, descriptorIndex := 6, attributes := #[] }, { accessFlags := 10, nameIndex := 12, descriptorIndex := 13, attributes := #[] }, { accessFlags := 10, nameIndex := 21, descriptorIndex := 22, attributes := #[] }, { accessFlags := 10, nameIndex := 29, descriptorIndex := 22, attributes := #[] }, { accessFlags := 10, nameIndex := 36, descriptorIndex := 37, attributes := #[] }, { accessFlags := 10, nameIndex := 40, descriptorIndex := 41, attributes := #[] }, { accessFlags := 9, nameIndex := 52, descriptorIndex := 53, attributes := #[] }] 49 2 #[] #[])
  fields := #[]
  methods := #[k1m0, k1m1, k1m2, k1m3, k1m4, k1m5, k1m6]
  instanceTypes := #[]
  staticTypes := #[]
  resolved := Array.replicate 56 none
  statics := none }

def pool2 : Array CpInfo := pool [(1, .methodref 2 3), (0, .class_ 4), (0, .nameAndType 5 6), (0, u "java/lang/Object"), (0, u "<init>"), (0, u "()V"), (0, .fieldref 8 9), (0, .class_ 10), (0, .nameAndType 11 12), (0, u "com/example/facetwise/facetwise/RankedResult"), (0, u "id"), (0, u "Ljava/lang/String;"), (0, .fieldref 8 14), (0, .nameAndType 15 16), (0, u "rank"), (0, u "I"), (0, .fieldref 8 18), (0, .nameAndType 19 20), (0, u "utility"), (0, u "D"), (0, .methodref 22 23), (0, .class_ 24), (0, .nameAndType 25 26), (0, u "java/lang/String"), (0, u "equals"), (0, u "(Ljava/lang/Object;)Z"), (0, .methodref 28 29), (0, .class_ 30), (0, .nameAndType 31 32), (0, u "java/lang/Double"), (0, u "compare"), (0, u "(DD)I"), (19, u "(Ljava/lang/String;ID)V")] 25

def k2c0 : Code := { maxStack := 3, maxLocals := 5, code := prog_14_method_1_code, exceptionTable := #[], attributes := #[] }
def k2m0 : Method := { name := "<init>", desc := "(Ljava/lang/String;ID)V", sig := { parameters := [(.object "java/lang/String"), .int, .double], returnType := none }, accessFlags := 0, code := some k2c0 }
def k2c1 : Code := { maxStack := 4, maxLocals := 3, code := prog_14_method_5_code, exceptionTable := #[], attributes := #[] }
def k2m1 : Method := { name := "equals", desc := "(Ljava/lang/Object;)Z", sig := { parameters := [(.object "java/lang/Object")], returnType := some .boolean }, accessFlags := 1, code := some k2c1 }
/-- com/example/facetwise/facetwise/RankedResult -/
def k2 : Class := { plain "com/example/facetwise/facetwise/RankedResult" (some 0) with
  accessFlags := 49
  interfaces := #[]
  cf := some (fileOf pool2 8 #[] #[{ accessFlags := 0, nameIndex := 5, descriptorIndex := 52, attributes := #[] }, { accessFlags := 1, nameIndex := 25, descriptorIndex := 26, attributes := #[] }] 49 2 #[] #[{ accessFlags := 18, nameIndex := 11, descriptorIndex := 12, attributes := #[] }, { accessFlags := 18, nameIndex := 15, descriptorIndex := 16, attributes := #[] }, { accessFlags := 18, nameIndex := 19, descriptorIndex := 20, attributes := #[] }])
  fields := #[{ name := "id", type := (.object "java/lang/String"), accessFlags := 18, slot := 0, constantValue := 0 }, { name := "rank", type := .int, accessFlags := 18, slot := 1, constantValue := 0 }, { name := "utility", type := .double, accessFlags := 18, slot := 2, constantValue := 0 }]
  methods := #[k2m0, k2m1]
  instanceTypes := #[(.object "java/lang/String"), .int, .double]
  staticTypes := #[]
  resolved := Array.replicate 78 none
  statics := none }

def pool3 : Array CpInfo := pool [(1, .class_ 2), (0, u "java/io/Serializable"), (0, .class_ 4), (0, u "java/lang/Object")] 2

/-- java/io/Serializable -/
def k3 : Class := { plain "java/io/Serializable" (some 0) with
  accessFlags := 1537
  interfaces := #[]
  cf := some (fileOf pool3 1 #[] #[] 1537 3 #[] #[])
  fields := #[]
  methods := #[]
  instanceTypes := #[]
  staticTypes := #[]
  resolved := Array.replicate 7 none
  statics := none }

def pool4 : Array CpInfo := pool [(1, .class_ 2), (0, u "java/lang/Comparable"), (0, .class_ 4), (0, u "java/lang/Object")] 7

/-- java/lang/Comparable -/
def k4 : Class := { plain "java/lang/Comparable" (some 0) with
  accessFlags := 1537
  interfaces := #[]
  cf := some (fileOf pool4 1 #[] #[] 1537 3 #[] #[])
  fields := #[]
  methods := #[]
  instanceTypes := #[]
  staticTypes := #[]
  resolved := Array.replicate 12 none
  statics := none }

def pool5 : Array CpInfo := pool [(2, .class_ 4), (1, u "java/lang/CharSequence"), (42, .class_ 48), (0, u "java/lang/CharSequence$1CodePointIterator"), (10, .class_ 60), (0, u "java/lang/CharSequence$1CharIterator"), (5, .class_ 67), (0, u "java/lang/Object")] 63

/-- java/lang/CharSequence -/
def k5 : Class := { plain "java/lang/CharSequence" (some 0) with
  accessFlags := 1537
  interfaces := #[]
  cf := some (fileOf pool5 2 #[.nestMembers #[47, 59]] #[] 1537 66 #[] #[])
  fields := #[]
  methods := #[]
  instanceTypes := #[]
  staticTypes := #[]
  resolved := Array.replicate 131 none
  statics := none }

def pool6 : Array CpInfo := pool [(1, .class_ 2), (0, u "java/lang/constant/Constable"), (0, .class_ 4), (0, u "java/lang/Object")] 6

/-- java/lang/constant/Constable -/
def k6 : Class := { plain "java/lang/constant/Constable" (some 0) with
  accessFlags := 1537
  interfaces := #[]
  cf := some (fileOf pool6 1 #[] #[] 1537 3 #[] #[])
  fields := #[]
  methods := #[]
  instanceTypes := #[]
  staticTypes := #[]
  resolved := Array.replicate 11 none
  statics := none }

def pool7 : Array CpInfo := pool [(1, .class_ 2), (0, u "java/lang/constant/ConstantDesc"), (0, .class_ 4), (0, u "java/lang/Object")] 32

/-- java/lang/constant/ConstantDesc -/
def k7 : Class := { plain "java/lang/constant/ConstantDesc" (some 0) with
  accessFlags := 1537
  interfaces := #[]
  cf := some (fileOf pool7 1 #[] #[] 1537 3 #[] #[])
  fields := #[]
  methods := #[]
  instanceTypes := #[]
  staticTypes := #[]
  resolved := Array.replicate 37 none
  statics := none }

def pool8 : Array CpInfo := pool [(1, .methodref 2 3), (0, .class_ 4), (0, .nameAndType 5 6), (0, u "java/lang/Object"), (0, u "<init>"), (0, u "()V"), (0, .string 8), (0, u ""), (0, .fieldref 10 11), (0, .class_ 12), (0, .nameAndType 13 14), (0, u "java/lang/String"), (0, u "value"), (0, u "[B"), (0, .fieldref 10 16), (0, .nameAndType 17 18), (0, u "coder"), (0, u "B"), (2, u "hash"), (0, u "I"), (2, u "hashIsZero"), (0, u "Z"), (0, .methodref 10 28), (0, .nameAndType 5 29), (0, u "([CIILjava/lang/Void;)V"), (8, .fieldref 10 39), (0, .nameAndType 40 26), (0, u "COMPACT_STRINGS"), (1, .class_ 44), (1, u "java/lang/StringUTF16"), (0, u "compress"), (1, .methodref 42 48), (0, .nameAndType 49 50), (0, u "coderFromArrayLen"), (0, u "([BI)B"), (2, u "toBytes"), (53, .class_ 109), (1, u "java/lang/StringLatin1"), (67, .methodref 42 178), (0, .nameAndType 45 179), (0, u "([CII)[B"), (29, .methodref 10 210), (0, .nameAndType 5 211), (0, u "([BB)V"), (157, u "(C)Z"), (171, .methodref 107 542), (0, .nameAndType 543 544), (0, u "equals"), (0, u "([B[B)Z"), (28, u "(Ljava/lang/Object;)Z"), (1, .class_ 576), (0, u "java/lang/CharSequence"), (22, u "CASE_INSENSITIVE_ORDER"), (0, u "Ljava/util/Comparator;"), (181, u "valueOf"), (0, u "(C)Ljava/lang/String;"), (226, u "([C)V"), (4, .methodref 107 1016), (0, .nameAndType 1017 369), (0, u "canEncode"), (0, .methodref 107 1019), (0, .nameAndType 53 1020), (0, u "(C)[B"), (80, u "serialPersistentFields"), (0, u "[Ljava/io/ObjectStreamField;"), (0, .class_ 1104), (0, u "java/lang/String$CaseInsensitiveComparator"), (1, .class_ 1107), (0, u "java/io/Serializable"), (0, .class_ 1109), (0, u "java/lang/Comparable"), (0, .class_ 1111), (0, u "java/lang/constant/Constable"), (0, .class_ 1113), (0, u "java/lang/constant/ConstantDesc"), (2, u "serialVersionUID"), (0, u "J"), (3, u "REPL"), (0, u "C"), (2, u "LATIN1"), (1, u "UTF16")] 323

def k8m0 : Method := { name := "<init>", desc := "()V", sig := { parameters := [], returnType := none }, accessFlags := 1, code := none }
def k8c1 : Code := { maxStack := 5, maxLocals := 2, code := jdk_42_method_3_code, exceptionTable := #[], attributes := #[] }
def k8m1 : Method := { name := "<init>", desc := "([C)V", sig := { parameters := [(.array .char)], returnType := none }, accessFlags := 1, code := some k8c1 }
def k8c2 : Code := { maxStack := 2, maxLocals := 3, code := jdk_42_method_66_code, exceptionTable := #[], attributes := #[] }
def k8m2 : Method := { name := "equals", desc := "(Ljava/lang/Object;)Z", sig := { parameters := [(.object "java/lang/Object")], returnType := some .boolean }, accessFlags := 1, code := some k8c2 }
def k8c3 : Code := { maxStack := 4, maxLocals := 1, code := jdk_42_method_139_code, exceptionTable := #[], attributes := #[] }
def k8m3 : Method := { name := "valueOf", desc := "(C)Ljava/lang/String;", sig := { parameters := [.char], returnType := some (.object "java/lang/String") }, accessFlags := 9, code := some k8c3 }
def k8c4 : Code := { maxStack := 4, maxLocals := 6, code := jdk_42_method_149_code, exceptionTable := #[], attributes := #[] }
def k8m4 : Method := { name := "<init>", desc := "([CIILjava/lang/Void;)V", sig := { parameters := [(.array .char), .int, .int, (.object "java/lang/Void")], returnType := none }, accessFlags := 2, code := some k8c4 }
def k8c5 : Code := { maxStack := 2, maxLocals := 3, code := jdk_42_method_151_code, exceptionTable := #[], attributes := #[] }
def k8m5 : Method := { name := "<init>", desc := "([BB)V", sig := { parameters := [(.array .byte), .byte], returnType := none }, accessFlags := 0, code := some k8c5 }
/-- java/lang/String -/
def k8 : Class := { plain "java/lang/String" (some 0) with
  accessFlags := 49
  interfaces := #[3, 4, 5, 6, 7]
  cf := some (fileOf pool8 10 #[.nestMembers #[1103]] #[{ accessFlags := 1, nameIndex := 5, descriptorIndex := 6, attributes := #[] }, { accessFlags := 1, nameIndex := 5, descriptorIndex := 1010, attributes := #[] }, { accessFlags := 1, nameIndex := 543, descriptorIndex := 573, attributes := #[] }, { accessFlags := 9, nameIndex := 782, descriptorIndex := 783, attributes := #[] }, { accessFlags := 2, nameIndex := 5, descriptorIndex := 29, attributes := #[] }, { accessFlags := 0, nameIndex := 5, descriptorIndex := 211, attributes := #[] }] 49 2 #[1106, 1108, 575, 1110, 1112] #[{ accessFlags := 18, nameIndex := 13, descriptorIndex := 14, attributes := #[] }, { accessFlags := 18, nameIndex := 17, descriptorIndex := 18, attributes := #[] }, { accessFlags := 2, nameIndex := 21, descriptorIndex := 22, attributes := #[] }, { accessFlags := 2, nameIndex := 25, descriptorIndex := 26, attributes := #[] }, { accessFlags := 26, nameIndex := 1116, descriptorIndex := 1117, attributes := #[] }, { accessFlags := 24, nameIndex := 40, descriptorIndex := 26, attributes := #[] }, { accessFlags := 26, nameIndex := 1101, descriptorIndex := 1102, attributes := #[] }, { accessFlags := 26, nameIndex := 1121, descriptorIndex := 1122, attributes := #[] }, { accessFlags := 25, nameIndex := 599, descriptorIndex := 600, attributes := #[] }, { accessFlags := 24, nameIndex := 1125, descriptorIndex := 18, attributes := #[] }, { accessFlags := 24, nameIndex := 1127, descriptorIndex := 18, attributes := #[] }])
  fields := #[{ name := "value", type := (.array .byte), accessFlags := 18, slot := 0, constantValue := 0 }, { name := "coder", type := .byte, accessFlags := 18, slot := 1, constantValue := 0 }, { name := "hash", type := .int, accessFlags := 2, slot := 2, constantValue := 0 }, { name := "hashIsZero", type := .boolean, accessFlags := 2, slot := 3, constantValue := 0 }, { name := "serialVersionUID", type := .long, accessFlags := 26, slot := 0, constantValue := 0 }, { name := "COMPACT_STRINGS", type := .boolean, accessFlags := 24, slot := 1, constantValue := 0 }, { name := "serialPersistentFields", type := (.array (.object "java/io/ObjectStreamField")), accessFlags := 26, slot := 2, constantValue := 0 }, { name := "REPL", type := .char, accessFlags := 26, slot := 3, constantValue := 0 }, { name := "CASE_INSENSITIVE_ORDER", type := (.object "java/util/Comparator"), accessFlags := 25, slot := 4, constantValue := 0 }, { name := "LATIN1", type := .byte, accessFlags := 24, slot := 5, constantValue := 0 }, { name := "UTF16", type := .byte, accessFlags := 24, slot := 6, constantValue := 0 }]
  methods := #[k8m0, k8m1, k8m2, k8m3, k8m4, k8m5]
  instanceTypes := #[(.array .byte), .byte, .int, .boolean]
  staticTypes := #[.long, .boolean, (.array (.object "java/io/ObjectStreamField")), .char, (.object "java/util/Comparator"), .byte, .byte]
  resolved := Array.replicate 1451 none
  statics := some 0 }

def pool9 : Array CpInfo := pool [(4, .class_ 6), (1, u "java/lang/Object"), (0, u "<init>"), (0, u "()V"), (5, .class_ 16), (1, u "java/lang/StringLatin1"), (73, u "canEncode"), (14, u "(C)Z"), (15, u "$assertionsDisabled"), (0, u "Z"), (98, .class_ 223), (1, u "java/lang/StringLatin1$LinesSpliterator"), (57, u "equals"), (0, u "([B[B)Z"), (97, u "toBytes"), (1, u "(C)[B"), (7, .class_ 391), (0, u "java/lang/StringLatin1$CharsSpliterator")] 3

def k9m0 : Method := { name := "<init>", desc := "()V", sig := { parameters := [], returnType := none }, accessFlags := 0, code := none }
def k9c1 : Code := { maxStack := 2, maxLocals := 1, code := jdk_43_method_3_code, exceptionTable := #[], attributes := #[] }
def k9m1 : Method := { name := "canEncode", desc := "(C)Z", sig := { parameters := [.char], returnType := some .boolean }, accessFlags := 9, code := some k9c1 }
def k9c2 : Code := { maxStack := 3, maxLocals := 3, code := jdk_43_method_13_code, exceptionTable := #[], attributes := #[] }
def k9m2 : Method := { name := "equals", desc := "([B[B)Z", sig := { parameters := [(.array .byte), (.array .byte)], returnType := some .boolean }, accessFlags := 9, code := some k9c2 }
def k9c3 : Code := { maxStack := 4, maxLocals := 1, code := jdk_43_method_46_code, exceptionTable := #[], attributes := #[] }
def k9m3 : Method := { name := "toBytes", desc := "(C)[B", sig := { parameters := [.char], returnType := some (.array .byte) }, accessFlags := 9, code := some k9c3 }
/-- java/lang/StringLatin1 -/
def k9 : Class := { plain "java/lang/StringLatin1" (some 0) with
  accessFlags := 48
  interfaces := #[]
  cf := some (fileOf pool9 14 #[.nestMembers #[390, 221]] #[{ accessFlags := 0, nameIndex := 7, descriptorIndex := 8, attributes := #[] }, { accessFlags := 9, nameIndex := 90, descriptorIndex := 105, attributes := #[] }, { accessFlags := 9, nameIndex := 281, descriptorIndex := 282, attributes := #[] }, { accessFlags := 9, nameIndex := 380, descriptorIndex := 382, attributes := #[] }] 48 4 #[] #[{ accessFlags := 4120, nameIndex := 121, descriptorIndex := 122, attributes := #[] }])
  fields := #[{ name := "$assertionsDisabled", type := .boolean, accessFlags := 4120, slot := 0, constantValue := 0 }]
  methods := #[k9m0, k9m1, k9m2, k9m3]
  instanceTypes := #[]
  staticTypes := #[.boolean]
  resolved := Array.replicate 395 none
  statics := none }

def pool10 : Array CpInfo := pool [(2, .class_ 4), (1, u "java/lang/Object"), (0, u "<init>"), (0, u "()V"), (1, .class_ 10), (1, u "java/lang/Number"), (2, .class_ 14), (0, u "java/io/Serializable"), (0, u "serialVersionUID"), (0, u "J")] 20

def k10m0 : Method := { name := "<init>", desc := "()V", sig := { parameters := [], returnType := none }, accessFlags := 1, code := none }
/-- java/lang/Number -/
def k10 : Class := { plain "java/lang/Number" (some 0) with
  accessFlags := 1057
  interfaces := #[3]
  cf := some (fileOf pool10 8 #[] #[{ accessFlags := 1, nameIndex := 5, descriptorIndex := 6, attributes := #[] }] 1057 2 #[13] #[{ accessFlags := 26, nameIndex := 15, descriptorIndex := 16, attributes := #[] }])
  fields := #[{ name := "serialVersionUID", type := .long, accessFlags := 26, slot := 0, constantValue := 0 }]
  methods := #[k10m0]
  instanceTypes := #[]
  staticTypes := #[.long]
  resolved := Array.replicate 37 none
  statics := none }

def pool11 : Array CpInfo := pool [(1, .class_ 2), (0, u "java/lang/Double"), (11, u "(D)Z"), (31, .methodref 1 47), (0, .nameAndType 48 49), (0, u "doubleToLongBits"), (0, u "(D)J"), (64, .class_ 116), (1, u "java/lang/Number"), (3, u "value"), (0, u "D"), (0, .methodref 1 123), (0, .nameAndType 124 14), (0, u "isNaN"), (9, .methodref 1 135), (0, .nameAndType 136 49), (0, u "doubleToRawLongBits"), (4, u "compare"), (0, u "(DD)I"), (30, u "TYPE"), (0, u "Ljava/lang/Class;"), (0, .class_ 176), (0, u "java/lang/Comparable"), (0, .class_ 178), (0, u "java/lang/constant/Constable"), (0, .class_ 180), (0, u "java/lang/constant/ConstantDesc"), (0, u "POSITIVE_INFINITY"), (3, u "NEGATIVE_INFINITY"), (2, u "NaN"), (2, u "MAX_VALUE"), (0, u "MIN_NORMAL"), (0, u "MIN_VALUE"), (2, u "SIZE"), (0, u "I"), (1, u "PRECISION"), (1, u "MAX_EXPONENT"), (1, u "MIN_EXPONENT"), (1, u "BYTES"), (3, u "serialVersionUID"), (0, u "J")] 79

def k11c0 : Code := { maxStack := 4, maxLocals := 2, code := jdk_117_method_6_code, exceptionTable := #[], attributes := #[] }
def k11m0 : Method := { name := "isNaN", desc := "(D)Z", sig := { parameters := [.double], returnType := some .boolean }, accessFlags := 9, code := some k11c0 }
def k11c1 : Code := { maxStack := 2, maxLocals := 2, code := jdk_117_method_23_code, exceptionTable := #[], attributes := #[] }
def k11m1 : Method := { name := "doubleToLongBits", desc := "(D)J", sig := { parameters := [.double], returnType := some .long }, accessFlags := 9, code := some k11c1 }
def k11m2 : Method := { name := "doubleToRawLongBits", desc := "(D)J", sig := { parameters := [.double], returnType := some .long }, accessFlags := 265, code := none }
def k11c3 : Code := { maxStack := 4, maxLocals := 8, code := jdk_117_method_27_code, exceptionTable := #[], attributes := #[] }
def k11m3 : Method := { name := "compare", desc := "(DD)I", sig := { parameters := [.double, .double], returnType := some .int }, accessFlags := 9, code := some k11c3 }
/-- java/lang/Double -/
def k11 : Class := { plain "java/lang/Double" (some 10) with
  accessFlags := 49
  interfaces := #[4, 6, 7]
  cf := some (fileOf pool11 1 #[] #[{ accessFlags := 9, nameIndex := 124, descriptorIndex := 14, attributes := #[] }, { accessFlags := 9, nameIndex := 48, descriptorIndex := 49, attributes := #[] }, { accessFlags := 265, nameIndex := 136, descriptorIndex := 49, attributes := #[] }, { accessFlags := 9, nameIndex := 141, descriptorIndex := 142, attributes := #[] }] 49 114 #[175, 177, 179] #[{ accessFlags := 25, nameIndex := 181, descriptorIndex := 121, attributes := #[] }, { accessFlags := 25, nameIndex := 185, descriptorIndex := 121, attributes := #[] }, { accessFlags := 25, nameIndex := 188, descriptorIndex := 121, attributes := #[] }, { accessFlags := 25, nameIndex := 191, descriptorIndex := 121, attributes := #[] }, { accessFlags := 25, nameIndex := 192, descriptorIndex := 121, attributes := #[] }, { accessFlags := 25, nameIndex := 193, descriptorIndex := 121, attributes := #[] }, { accessFlags := 25, nameIndex := 196, descriptorIndex := 197, attributes := #[] }, { accessFlags := 25, nameIndex := 199, descriptorIndex := 197, attributes := #[] }, { accessFlags := 25, nameIndex := 201, descriptorIndex := 197, attributes := #[] }, { accessFlags := 25, nameIndex := 203, descriptorIndex := 197, attributes := #[] }, { accessFlags := 25, nameIndex := 205, descriptorIndex := 197, attributes := #[] }, { accessFlags := 25, nameIndex := 173, descriptorIndex := 174, attributes := #[] }, { accessFlags := 18, nameIndex := 120, descriptorIndex := 121, attributes := #[] }, { accessFlags := 26, nameIndex := 209, descriptorIndex := 210, attributes := #[] }])
  fields := #[{ name := "POSITIVE_INFINITY", type := .double, accessFlags := 25, slot := 0, constantValue := 0 }, { name := "NEGATIVE_INFINITY", type := .double, accessFlags := 25, slot := 1, constantValue := 0 }, { name := "NaN", type := .double, accessFlags := 25, slot := 2, constantValue := 0 }, { name := "MAX_VALUE", type := .double, accessFlags := 25, slot := 3, constantValue := 0 }, { name := "MIN_NORMAL", type := .double, accessFlags := 25, slot := 4, constantValue := 0 }, { name := "MIN_VALUE", type := .double, accessFlags := 25, slot := 5, constantValue := 0 }, { name := "SIZE", type := .int, accessFlags := 25, slot := 6, constantValue := 0 }, { name := "PRECISION", type := .int, accessFlags := 25, slot := 7, constantValue := 0 }, { name := "MAX_EXPONENT", type := .int, accessFlags := 25, slot := 8, constantValue := 0 }, { name := "MIN_EXPONENT", type := .int, accessFlags := 25, slot := 9, constantValue := 0 }, { name := "BYTES", type := .int, accessFlags := 25, slot := 10, constantValue := 0 }, { name := "TYPE", type := (.object "java/lang/Class"), accessFlags := 25, slot := 11, constantValue := 0 }, { name := "value", type := .double, accessFlags := 18, slot := 0, constantValue := 0 }, { name := "serialVersionUID", type := .long, accessFlags := 26, slot := 12, constantValue := 0 }]
  methods := #[k11m0, k11m1, k11m2, k11m3]
  instanceTypes := #[.double]
  staticTypes := #[.double, .double, .double, .double, .double, .double, .int, .int, .int, .int, .int, (.object "java/lang/Class"), .long]
  resolved := Array.replicate 290 none
  statics := none }

def pool12 : Array CpInfo := pool [(6, .class_ 8), (1, u "java/lang/Object"), (0, u "<init>"), (0, u "()V"), (1, .class_ 14), (1, u "java/lang/StringUTF16"), (31, u "$assertionsDisabled"), (0, u "Z"), (13, u "HI_BYTE_SHIFT"), (0, u "I"), (2, u "LO_BYTE_SHIFT"), (49, .methodref 12 116), (0, .nameAndType 117 118), (0, u "compress"), (0, u "([CI[BII)I"), (3, u "([CII)[B"), (138, u "coderFromArrayLen"), (0, u "([BI)B"), (106, .class_ 371), (1, u "java/lang/StringUTF16$LinesSpliterator"), (58, u "MAX_LENGTH"), (196, .class_ 628), (0, u "java/lang/StringUTF16$CodePointsSpliterator"), (0, .class_ 630), (0, u "java/lang/StringUTF16$CharsSpliterator")] 4

def k12m0 : Method := { name := "<init>", desc := "()V", sig := { parameters := [], returnType := none }, accessFlags := 0, code := none }
def k12c1 : Code := { maxStack := 2, maxLocals := 2, code := jdk_52_method_15_code, exceptionTable := #[], attributes := #[] }
def k12m1 : Method := { name := "coderFromArrayLen", desc := "([BI)B", sig := { parameters := [(.array .byte), .int], returnType := some .byte }, accessFlags := 8, code := some k12c1 }
def k12c2 : Code := { maxStack := 5, maxLocals := 6, code := jdk_52_method_16_code, exceptionTable := #[], attributes := #[] }
def k12m2 : Method := { name := "compress", desc := "([CII)[B", sig := { parameters := [(.array .char), .int, .int], returnType := some (.array .byte) }, accessFlags := 9, code := some k12c2 }
def k12c3 : Code := { maxStack := 3, maxLocals := 7, code := jdk_52_method_21_code, exceptionTable := #[], attributes := #[] }
def k12m3 : Method := { name := "compress", desc := "([CI[BII)I", sig := { parameters := [(.array .char), .int, (.array .byte), .int, .int], returnType := some .int }, accessFlags := 9, code := some k12c3 }
/-- java/lang/StringUTF16 -/
def k12 : Class := { plain "java/lang/StringUTF16" (some 0) with
  accessFlags := 48
  interfaces := #[]
  cf := some (fileOf pool12 12 #[.nestMembers #[627, 629, 369]] #[{ accessFlags := 0, nameIndex := 9, descriptorIndex := 10, attributes := #[] }, { accessFlags := 8, nameIndex := 261, descriptorIndex := 262, attributes := #[] }, { accessFlags := 9, nameIndex := 117, descriptorIndex := 122, attributes := #[] }, { accessFlags := 9, nameIndex := 117, descriptorIndex := 118, attributes := #[] }] 48 6 #[] #[{ accessFlags := 26, nameIndex := 61, descriptorIndex := 62, attributes := #[] }, { accessFlags := 26, nameIndex := 65, descriptorIndex := 62, attributes := #[] }, { accessFlags := 24, nameIndex := 430, descriptorIndex := 62, attributes := #[] }, { accessFlags := 4120, nameIndex := 46, descriptorIndex := 47, attributes := #[] }])
  fields := #[{ name := "HI_BYTE_SHIFT", type := .int, accessFlags := 26, slot := 0, constantValue := 0 }, { name := "LO_BYTE_SHIFT", type := .int, accessFlags := 26, slot := 1, constantValue := 0 }, { name := "MAX_LENGTH", type := .int, accessFlags := 24, slot := 2, constantValue := 0 }, { name := "$assertionsDisabled", type := .boolean, accessFlags := 4120, slot := 3, constantValue := 0 }]
  methods := #[k12m0, k12m1, k12m2, k12m3]
  instanceTypes := #[]
  staticTypes := #[.int, .int, .int, .boolean]
  resolved := Array.replicate 635 none
  statics := none }

def pool13 : Array CpInfo := pool [(2, .class_ 4), (1, u "java/lang/Object"), (0, u "<init>"), (0, u "()V"), (17, .class_ 26), (1, u "jdk/internal/util/Preconditions"), (28, .class_ 56), (0, u "jdk/internal/util/Preconditions$4"), (57, .class_ 115), (0, u "jdk/internal/util/Preconditions$1"), (7, u "SIOOBE_FORMATTER"), (0, u "Ljava/util/function/BiFunction;"), (0, .class_ 126), (0, u "jdk/internal/util/Preconditions$2"), (3, u "AIOOBE_FORMATTER"), (0, .class_ 132), (0, u "jdk/internal/util/Preconditions$3"), (3, u "IOOBE_FORMATTER")] 57

def k13m0 : Method := { name := "<init>", desc := "()V", sig := { parameters := [], returnType := none }, accessFlags := 1, code := none }
/-- jdk/internal/util/Preconditions -/
def k13 : Class := { plain "jdk/internal/util/Preconditions" (some 0) with
  accessFlags := 33
  interfaces := #[]
  cf := some (fileOf pool13 24 #[.nestMembers #[55, 131, 125, 114]] #[{ accessFlags := 1, nameIndex := 5, descriptorIndex := 6, attributes := #[] }] 33 2 #[] #[{ accessFlags := 25, nameIndex := 123, descriptorIndex := 124, attributes := #[] }, { accessFlags := 25, nameIndex := 130, descriptorIndex := 124, attributes := #[] }, { accessFlags := 25, nameIndex := 136, descriptorIndex := 124, attributes := #[] }])
  fields := #[{ name := "SIOOBE_FORMATTER", type := (.object "java/util/function/BiFunction"), accessFlags := 25, slot := 0, constantValue := 0 }, { name := "AIOOBE_FORMATTER", type := (.object "java/util/function/BiFunction"), accessFlags := 25, slot := 1, constantValue := 0 }, { name := "IOOBE_FORMATTER", type := (.object "java/util/function/BiFunction"), accessFlags := 25, slot := 2, constantValue := 0 }]
  methods := #[k13m0]
  instanceTypes := #[]
  staticTypes := #[(.object "java/util/function/BiFunction"), (.object "java/util/function/BiFunction"), (.object "java/util/function/BiFunction")]
  resolved := Array.replicate 194 none
  statics := some 1 }

def pool14 : Array CpInfo := pool [(9, u "<init>"), (6, .class_ 18), (1, u "java/lang/Object"), (0, u "()V"), (1, .class_ 23), (1, u "jdk/internal/util/ArraysSupport"), (0, u "LOG2_ARRAY_LONG_INDEX_SCALE"), (0, u "I"), (2, u "U"), (0, u "Ljdk/internal/misc/Unsafe;"), (8, u "BIG_ENDIAN"), (0, u "Z"), (8, u "LOG2_BYTE_BIT_SIZE"), (4, u "LOG2_ARRAY_INT_INDEX_SCALE"), (54, u "JLA"), (0, u "Ljdk/internal/access/JavaLangAccess;"), (11, u "LOG2_ARRAY_BOOLEAN_INDEX_SCALE"), (9, u "LOG2_ARRAY_BYTE_INDEX_SCALE"), (5, u "LOG2_ARRAY_CHAR_INDEX_SCALE"), (5, u "LOG2_ARRAY_SHORT_INDEX_SCALE"), (18, u "LOG2_ARRAY_FLOAT_INDEX_SCALE"), (24, u "LOG2_ARRAY_DOUBLE_INDEX_SCALE"), (89, u "T_BOOLEAN"), (2, u "T_CHAR"), (1, u "T_FLOAT"), (1, u "T_DOUBLE"), (1, u "T_BYTE"), (1, u "T_SHORT"), (1, u "T_INT"), (1, u "T_LONG"), (1, u "SOFT_MAX_ARRAY_LENGTH")] 83

def k14m0 : Method := { name := "<init>", desc := "()V", sig := { parameters := [], returnType := none }, accessFlags := 2, code := none }
/-- jdk/internal/util/ArraysSupport -/
def k14 : Class := { plain "jdk/internal/util/ArraysSupport" (some 0) with
  accessFlags := 33
  interfaces := #[]
  cf := some (fileOf pool14 21 #[] #[{ accessFlags := 2, nameIndex := 9, descriptorIndex := 19, attributes := #[] }] 33 16 #[] #[{ accessFlags := 24, nameIndex := 28, descriptorIndex := 29, attributes := #[] }, { accessFlags := 26, nameIndex := 38, descriptorIndex := 39, attributes := #[] }, { accessFlags := 25, nameIndex := 121, descriptorIndex := 25, attributes := #[] }, { accessFlags := 25, nameIndex := 131, descriptorIndex := 25, attributes := #[] }, { accessFlags := 25, nameIndex := 137, descriptorIndex := 25, attributes := #[] }, { accessFlags := 25, nameIndex := 143, descriptorIndex := 25, attributes := #[] }, { accessFlags := 25, nameIndex := 53, descriptorIndex := 25, attributes := #[] }, { accessFlags := 25, nameIndex := 24, descriptorIndex := 25, attributes := #[] }, { accessFlags := 25, nameIndex := 162, descriptorIndex := 25, attributes := #[] }, { accessFlags := 25, nameIndex := 187, descriptorIndex := 25, attributes := #[] }, { accessFlags := 26, nameIndex := 48, descriptorIndex := 25, attributes := #[] }, { accessFlags := 25, nameIndex := 277, descriptorIndex := 25, attributes := #[] }, { accessFlags := 25, nameIndex := 280, descriptorIndex := 25, attributes := #[] }, { accessFlags := 25, nameIndex := 282, descriptorIndex := 25, attributes := #[] }, { accessFlags := 25, nameIndex := 284, descriptorIndex := 25, attributes := #[] }, { accessFlags := 25, nameIndex := 286, descriptorIndex := 25, attributes := #[] }, { accessFlags := 25, nameIndex := 288, descriptorIndex := 25, attributes := #[] }, { accessFlags := 25, nameIndex := 290, descriptorIndex := 25, attributes := #[] }, { accessFlags := 25, nameIndex := 292, descriptorIndex := 25, attributes := #[] }, { accessFlags := 26, nameIndex := 108, descriptorIndex := 109, attributes := #[] }, { accessFlags := 25, nameIndex := 294, descriptorIndex := 25, attributes := #[] }])
  fields := #[{ name := "U", type := (.object "jdk/internal/misc/Unsafe"), accessFlags := 24, slot := 0, constantValue := 0 }, { name := "BIG_ENDIAN", type := .boolean, accessFlags := 26, slot := 1, constantValue := 0 }, { name := "LOG2_ARRAY_BOOLEAN_INDEX_SCALE", type := .int, accessFlags := 25, slot := 2, constantValue := 0 }, { name := "LOG2_ARRAY_BYTE_INDEX_SCALE", type := .int, accessFlags := 25, slot := 3, constantValue := 0 }, { name := "LOG2_ARRAY_CHAR_INDEX_SCALE", type := .int, accessFlags := 25, slot := 4, constantValue := 0 }, { name := "LOG2_ARRAY_SHORT_INDEX_SCALE", type := .int, accessFlags := 25, slot := 5, constantValue := 0 }, { name := "LOG2_ARRAY_INT_INDEX_SCALE", type := .int, accessFlags := 25, slot := 6, constantValue := 0 }, { name := "LOG2_ARRAY_LONG_INDEX_SCALE", type := .int, accessFlags := 25, slot := 7, constantValue := 0 }, { name := "LOG2_ARRAY_FLOAT_INDEX_SCALE", type := .int, accessFlags := 25, slot := 8, constantValue := 0 }, { name := "LOG2_ARRAY_DOUBLE_INDEX_SCALE", type := .int, accessFlags := 25, slot := 9, constantValue := 0 }, { name := "LOG2_BYTE_BIT_SIZE", type := .int, accessFlags := 26, slot := 10, constantValue := 0 }, { name := "T_BOOLEAN", type := .int, accessFlags := 25, slot := 11, constantValue := 0 }, { name := "T_CHAR", type := .int, accessFlags := 25, slot := 12, constantValue := 0 }, { name := "T_FLOAT", type := .int, accessFlags := 25, slot := 13, constantValue := 0 }, { name := "T_DOUBLE", type := .int, accessFlags := 25, slot := 14, constantValue := 0 }, { name := "T_BYTE", type := .int, accessFlags := 25, slot := 15, constantValue := 0 }, { name := "T_SHORT", type := .int, accessFlags := 25, slot := 16, constantValue := 0 }, { name := "T_INT", type := .int, accessFlags := 25, slot := 17, constantValue := 0 }, { name := "T_LONG", type := .int, accessFlags := 25, slot := 18, constantValue := 0 }, { name := "JLA", type := (.object "jdk/internal/access/JavaLangAccess"), accessFlags := 26, slot := 19, constantValue := 0 }, { name := "SOFT_MAX_ARRAY_LENGTH", type := .int, accessFlags := 25, slot := 20, constantValue := 0 }]
  methods := #[k14m0]
  instanceTypes := #[]
  staticTypes := #[(.object "jdk/internal/misc/Unsafe"), .boolean, .int, .int, .int, .int, .int, .int, .int, .int, .int, .int, .int, .int, .int, .int, .int, .int, .int, (.object "jdk/internal/access/JavaLangAccess"), .int]
  resolved := Array.replicate 378 none
  statics := none }

def pool15 : Array CpInfo := pool [(1, u "java/lang/Cloneable"), (0, .class_ 1), (0, u "java/lang/Object"), (0, .class_ 3)] 3

/-- java/lang/Cloneable -/
def k15 : Class := { plain "java/lang/Cloneable" (some 0) with
  accessFlags := 1537
  interfaces := #[]
  cf := some (fileOf pool15 2 #[] #[] 1537 4 #[] #[])
  fields := #[]
  methods := #[]
  instanceTypes := #[]
  staticTypes := #[]
  resolved := Array.replicate 8 none
  statics := none }

/-- the primitive byte -/
def k16 : Class := { plain "byte" none with kind := .primitive 'B', accessFlags := 0x411 }
/-- [B -/
def k17 : Class := { plain "[B" (some 0) with kind := .array 16 .byte, interfaces := #[15, 3], accessFlags := 1041 }

/-- the primitive char -/
def k18 : Class := { plain "char" none with kind := .primitive 'C', accessFlags := 0x411 }
/-- [C -/
def k19 : Class := { plain "[C" (some 0) with kind := .array 18 .char, interfaces := #[15, 3], accessFlags := 1041 }

/-- the primitive int -/
def k20 : Class := { plain "int" none with kind := .primitive 'I', accessFlags := 0x411 }
/-- [I -/
def k21 : Class := { plain "[I" (some 0) with kind := .array 20 .int, interfaces := #[15, 3], accessFlags := 1041 }

def heap : Heap := #[{ cls := 8, slots := #[.long 0, .int 1, .null, .int 0, .null, .int 0, .int 0], vm := .statics 8 },
  { cls := 13, slots := #[.null, .null, .null], vm := .statics 13 }]
def classes : Array Class := #[k0, k1, k2, k3, k4, k5, k6, k7, k8, k9, k10, k11, k12, k13, k14, k15, k16, k17, k18, k19, k20, k21]
def interned : List (Array UInt16 × Addr) := []
def slotsUsed : Nat := 10
def theMethod : MethodId := ⟨1, 6⟩
def args0 : Array Value := #[.int 5, .int 6, .int 7, .int 8, .int 9, .int 10]
def aboutOver (below : List Frame) : State where
  vm := { classes := classes, interned := interned.toArray }
  heap := heap
  slotsUsed := slotsUsed
  threads := #[{ frames := .invoking theMethod args0 :: below }]
def below0 : List Frame := [.native { method := ⟨0, 0⟩, args := #[] }]
def about1 : State := aboutOver below0
def p0 : Program := .bare "" "" ""
def e0 : Env := launch0.env 0 0 0
theorem w_frames : about1.frames = Frame.invoking theMethod args0 :: below0 := rfl
set_option maxRecDepth 65536 in
theorem w_args : argsFit about1.vm theMethod args0 = true := by decide +kernel
set_option maxRecDepth 65536 in
theorem w_heap : heapFits about1 = true := by decide +kernel
set_option maxRecDepth 65536 in
theorem w_runnable : about1.curStatus? = some .runnable := by decide +kernel
set_option maxRecDepth 65536 in
theorem w_alone : about1.alone = true := by decide +kernel
set_option maxRecDepth 65536 in
theorem w_named : about1.methodNamed? x = some theMethod := by decide +kernel
set_option maxRecDepth 65536 in
theorem w_hears : about1.hears theMethod below0 = true := by decide +kernel
set_option maxRecDepth 65536 in
theorem w_ripe : about1.ripe theMethod args0 below0 = true := by decide +kernel
theorem w_running : about1.status = .running := rfl
set_option maxRecDepth 65536 in
theorem w_room : about1.hasRoom e0.platform room_1 = true :=
  launch0.hasRoom_least _ room_1 (by decide +kernel) (by decide +kernel) (by decide +kernel) (by decide +kernel) (by decide +kernel) (by decide +kernel)
theorem allAtoms_all (ts : List Jvm.Cond) (a : Array Jvm.Value) (st : Jvm.State) : (allAtoms ts).before a st = ts.all (fun c => c.before a st) := by
  induction ts with
  | nil => rfl
  | cons c t ih =>
    show (Jvm.Cond.and c (allAtoms t)).before a st = _
    rw [Jvm.Cond.before_and, ih, List.all_cons]
def words1 : List Jvm.Cond := Jvm.Cond.code x code maxLocals ret :: tables_1
/-- a 'code' word, met by the world's own term for the bytes: nothing is compared byte by byte -/
theorem code_word {y : MethodName} {bytes : ByteArray} {mx : Nat} {rt : Option FieldType} {a : Array Value} {s : State} {m : MethodId} {meth : Method} {c : Code} (h1 : s.methodNamed? y = some m) (h2 : s.vm.method? m = some meth) (h3 : meth.code = some c) (h4 : c.code = bytes)
    (h5 : (c.maxLocals == mx && c.exceptionTable.isEmpty && decide (c.maxStack ≤ mostOperands) && decide (meth.sig.returnType = rt) && !meth.locks && decide (parseMethodDescriptor y.desc = some meth.sig)) = true) : (Jvm.Cond.code y bytes mx rt).before a s = true := by
  simp only [Bool.and_eq_true, beq_iff_eq, Bool.not_eq_true', decide_eq_true_eq] at h5
  obtain ⟨⟨⟨⟨⟨g1, g2⟩, g3⟩, g4⟩, g5⟩, g6⟩ := h5
  simp [Cond.before, Cond.holds, Cond.value, h1, h2, h3, h4, g1, g2, g3, g4, g5, g6]
def isCode : Jvm.Cond → Bool
  | .code _ _ _ _ => true
  | _ => false
theorem all_split {L : List Jvm.Cond} {P : Jvm.Cond → Bool} (h1 : L.all (fun c => isCode c || P c) = true) (h2 : ∀ c ∈ L.filter isCode, P c = true) : L.all P = true := by
  refine List.all_eq_true.mpr fun c hc => ?_
  have h := List.all_eq_true.mp h1 c hc
  rcases Bool.eq_false_or_eq_true (isCode c) with hi | hi
  · exact h2 c (List.mem_filter.mpr ⟨hc, hi⟩)
  · simpa [hi] using h
set_option maxRecDepth 65536 in
theorem w_c0 : (Jvm.Cond.code x code maxLocals ret).before args0 about1 = true := code_word (m := ⟨1, 6⟩) (meth := k1m6) (c := k1c6) (by decide +kernel) rfl rfl rfl (by decide +kernel)
set_option maxRecDepth 65536 in
theorem w_c1 : (Jvm.Cond.code ({ cls := "com/example/facetwise/facetwise/RankedResultEqualsPinLaw", name := "mk", desc := "(I)Ljava/lang/String;" } : Jvm.MethodName) method_5_code (3 : Nat) (Option.some (Jvm.ClassFile.FieldType.object "java/lang/String"))).before args0 about1 = true := code_word (m := ⟨1, 4⟩) (meth := k1m4) (c := k1c4) (by decide +kernel) rfl rfl rfl (by decide +kernel)
set_option maxRecDepth 65536 in
theorem w_c2 : (Jvm.Cond.code ({ cls := "com/example/facetwise/facetwise/RankedResultEqualsPinLaw", name := "len", desc := "(I)I" } : Jvm.MethodName) method_2_code (1 : Nat) (Option.some Jvm.ClassFile.FieldType.int)).before args0 about1 = true := code_word (m := ⟨1, 1⟩) (meth := k1m1) (c := k1c1) (by decide +kernel) rfl rfl rfl (by decide +kernel)
set_option maxRecDepth 65536 in
theorem w_c3 : (Jvm.Cond.code ({ cls := "java/lang/String", name := "<init>", desc := "([C)V" } : Jvm.MethodName) jdk_42_method_3_code (2 : Nat) (Option.none : Option Jvm.ClassFile.FieldType)).before args0 about1 = true := code_word (m := ⟨8, 1⟩) (meth := k8m1) (c := k8c1) (by decide +kernel) rfl rfl rfl (by decide +kernel)
set_option maxRecDepth 65536 in
theorem w_c4 : (Jvm.Cond.code ({ cls := "java/lang/String", name := "<init>", desc := "([CIILjava/lang/Void;)V" } : Jvm.MethodName) jdk_42_method_149_code (6 : Nat) (Option.none : Option Jvm.ClassFile.FieldType)).before args0 about1 = true := code_word (m := ⟨8, 4⟩) (meth := k8m4) (c := k8c4) (by decide +kernel) rfl rfl rfl (by decide +kernel)
set_option maxRecDepth 65536 in
theorem w_c5 : (Jvm.Cond.code ({ cls := "java/lang/Object", name := "<init>", desc := "()V" } : Jvm.MethodName) object_method_1_code (1 : Nat) (Option.none : Option Jvm.ClassFile.FieldType)).before args0 about1 = true := code_word (m := ⟨0, 0⟩) (meth := k0m0) (c := k0c0) (by decide +kernel) rfl rfl rfl (by decide +kernel)
set_option maxRecDepth 65536 in
theorem w_c6 : (Jvm.Cond.code ({ cls := "com/example/facetwise/facetwise/RankedResultEqualsPinLaw", name := "util", desc := "(I)D" } : Jvm.MethodName) method_6_code (1 : Nat) (Option.some Jvm.ClassFile.FieldType.double)).before args0 about1 = true := code_word (m := ⟨1, 5⟩) (meth := k1m5) (c := k1c5) (by decide +kernel) rfl rfl rfl (by decide +kernel)
set_option maxRecDepth 65536 in
theorem w_c7 : (Jvm.Cond.code ({ cls := "com/example/facetwise/facetwise/RankedResult", name := "<init>", desc := "(Ljava/lang/String;ID)V" } : Jvm.MethodName) prog_14_method_1_code (5 : Nat) (Option.none : Option Jvm.ClassFile.FieldType)).before args0 about1 = true := code_word (m := ⟨2, 0⟩) (meth := k2m0) (c := k2c0) (by decide +kernel) rfl rfl rfl (by decide +kernel)
set_option maxRecDepth 65536 in
theorem w_c8 : (Jvm.Cond.code ({ cls := "com/example/facetwise/facetwise/RankedResult", name := "equals", desc := "(Ljava/lang/Object;)Z" } : Jvm.MethodName) prog_14_method_5_code (3 : Nat) (Option.some Jvm.ClassFile.FieldType.boolean)).before args0 about1 = true := code_word (m := ⟨2, 1⟩) (meth := k2m1) (c := k2c1) (by decide +kernel) rfl rfl rfl (by decide +kernel)
set_option maxRecDepth 65536 in
theorem w_c9 : (Jvm.Cond.code ({ cls := "java/lang/String", name := "equals", desc := "(Ljava/lang/Object;)Z" } : Jvm.MethodName) jdk_42_method_66_code (3 : Nat) (Option.some Jvm.ClassFile.FieldType.boolean)).before args0 about1 = true := code_word (m := ⟨8, 2⟩) (meth := k8m2) (c := k8c2) (by decide +kernel) rfl rfl rfl (by decide +kernel)
set_option maxRecDepth 65536 in
theorem w_c10 : (Jvm.Cond.code ({ cls := "java/lang/StringLatin1", name := "equals", desc := "([B[B)Z" } : Jvm.MethodName) jdk_43_method_13_code (3 : Nat) (Option.some Jvm.ClassFile.FieldType.boolean)).before args0 about1 = true := code_word (m := ⟨9, 2⟩) (meth := k9m2) (c := k9c2) (by decide +kernel) rfl rfl rfl (by decide +kernel)
set_option maxRecDepth 65536 in
theorem w_c11 : (Jvm.Cond.code ({ cls := "java/lang/Double", name := "compare", desc := "(DD)I" } : Jvm.MethodName) jdk_117_method_27_code (8 : Nat) (Option.some Jvm.ClassFile.FieldType.int)).before args0 about1 = true := code_word (m := ⟨11, 3⟩) (meth := k11m3) (c := k11c3) (by decide +kernel) rfl rfl rfl (by decide +kernel)
set_option maxRecDepth 65536 in
theorem w_c12 : (Jvm.Cond.code ({ cls := "java/lang/Double", name := "doubleToLongBits", desc := "(D)J" } : Jvm.MethodName) jdk_117_method_23_code (2 : Nat) (Option.some Jvm.ClassFile.FieldType.long)).before args0 about1 = true := code_word (m := ⟨11, 1⟩) (meth := k11m1) (c := k11c1) (by decide +kernel) rfl rfl rfl (by decide +kernel)
set_option maxRecDepth 65536 in
theorem w_c13 : (Jvm.Cond.code ({ cls := "java/lang/Double", name := "isNaN", desc := "(D)Z" } : Jvm.MethodName) jdk_117_method_6_code (2 : Nat) (Option.some Jvm.ClassFile.FieldType.boolean)).before args0 about1 = true := code_word (m := ⟨11, 0⟩) (meth := k11m0) (c := k11c0) (by decide +kernel) rfl rfl rfl (by decide +kernel)
set_option maxRecDepth 65536 in
theorem w_c14 : (Jvm.Cond.code ({ cls := "com/example/facetwise/facetwise/RankedResultEqualsPinLaw", name := "c0", desc := "(I)C" } : Jvm.MethodName) method_3_code (1 : Nat) (Option.some Jvm.ClassFile.FieldType.char)).before args0 about1 = true := code_word (m := ⟨1, 2⟩) (meth := k1m2) (c := k1c2) (by decide +kernel) rfl rfl rfl (by decide +kernel)
set_option maxRecDepth 65536 in
theorem w_c15 : (Jvm.Cond.code ({ cls := "java/lang/String", name := "valueOf", desc := "(C)Ljava/lang/String;" } : Jvm.MethodName) jdk_42_method_139_code (1 : Nat) (Option.some (Jvm.ClassFile.FieldType.object "java/lang/String"))).before args0 about1 = true := code_word (m := ⟨8, 3⟩) (meth := k8m3) (c := k8c3) (by decide +kernel) rfl rfl rfl (by decide +kernel)
set_option maxRecDepth 65536 in
theorem w_c16 : (Jvm.Cond.code ({ cls := "java/lang/StringLatin1", name := "canEncode", desc := "(C)Z" } : Jvm.MethodName) jdk_43_method_3_code (1 : Nat) (Option.some Jvm.ClassFile.FieldType.boolean)).before args0 about1 = true := code_word (m := ⟨9, 1⟩) (meth := k9m1) (c := k9c1) (by decide +kernel) rfl rfl rfl (by decide +kernel)
set_option maxRecDepth 65536 in
theorem w_c17 : (Jvm.Cond.code ({ cls := "java/lang/StringLatin1", name := "toBytes", desc := "(C)[B" } : Jvm.MethodName) jdk_43_method_46_code (1 : Nat) (Option.some (Jvm.ClassFile.FieldType.array Jvm.ClassFile.FieldType.byte))).before args0 about1 = true := code_word (m := ⟨9, 3⟩) (meth := k9m3) (c := k9c3) (by decide +kernel) rfl rfl rfl (by decide +kernel)
set_option maxRecDepth 65536 in
theorem w_c18 : (Jvm.Cond.code ({ cls := "java/lang/String", name := "<init>", desc := "([BB)V" } : Jvm.MethodName) jdk_42_method_151_code (3 : Nat) (Option.none : Option Jvm.ClassFile.FieldType)).before args0 about1 = true := code_word (m := ⟨8, 5⟩) (meth := k8m5) (c := k8c5) (by decide +kernel) rfl rfl rfl (by decide +kernel)
set_option maxRecDepth 65536 in
theorem w_c19 : (Jvm.Cond.code ({ cls := "com/example/facetwise/facetwise/RankedResultEqualsPinLaw", name := "c1", desc := "(I)C" } : Jvm.MethodName) method_4_code (1 : Nat) (Option.some Jvm.ClassFile.FieldType.char)).before args0 about1 = true := code_word (m := ⟨1, 3⟩) (meth := k1m3) (c := k1c3) (by decide +kernel) rfl rfl rfl (by decide +kernel)
set_option maxRecDepth 65536 in
theorem w_c20 : (Jvm.Cond.code ({ cls := "java/lang/StringUTF16", name := "compress", desc := "([CII)[B" } : Jvm.MethodName) jdk_52_method_16_code (6 : Nat) (Option.some (Jvm.ClassFile.FieldType.array Jvm.ClassFile.FieldType.byte))).before args0 about1 = true := code_word (m := ⟨12, 2⟩) (meth := k12m2) (c := k12c2) (by decide +kernel) rfl rfl rfl (by decide +kernel)
set_option maxRecDepth 65536 in
theorem w_c21 : (Jvm.Cond.code ({ cls := "java/lang/StringUTF16", name := "compress", desc := "([CI[BII)I" } : Jvm.MethodName) jdk_52_method_21_code (7 : Nat) (Option.some Jvm.ClassFile.FieldType.int)).before args0 about1 = true := code_word (m := ⟨12, 3⟩) (meth := k12m3) (c := k12c3) (by decide +kernel) rfl rfl rfl (by decide +kernel)
set_option maxRecDepth 65536 in
theorem w_c22 : (Jvm.Cond.code ({ cls := "java/lang/StringUTF16", name := "coderFromArrayLen", desc := "([BI)B" } : Jvm.MethodName) jdk_52_method_15_code (2 : Nat) (Option.some Jvm.ClassFile.FieldType.byte)).before args0 about1 = true := code_word (m := ⟨12, 1⟩) (meth := k12m1) (c := k12c1) (by decide +kernel) rfl rfl rfl (by decide +kernel)
def codes1 : List Jvm.Cond := [Jvm.Cond.code x code maxLocals ret, Jvm.Cond.code ({ cls := "com/example/facetwise/facetwise/RankedResultEqualsPinLaw", name := "mk", desc := "(I)Ljava/lang/String;" } : Jvm.MethodName) method_5_code (3 : Nat) (Option.some (Jvm.ClassFile.FieldType.object "java/lang/String")), Jvm.Cond.code ({ cls := "com/example/facetwise/facetwise/RankedResultEqualsPinLaw", name := "len", desc := "(I)I" } : Jvm.MethodName) method_2_code (1 : Nat) (Option.some Jvm.ClassFile.FieldType.int), Jvm.Cond.code ({ cls := "java/lang/String", name := "<init>", desc := "([C)V" } : Jvm.MethodName) jdk_42_method_3_code (2 : Nat) (Option.none : Option Jvm.ClassFile.FieldType), Jvm.Cond.code ({ cls := "java/lang/String", name := "<init>", desc := "([CIILjava/lang/Void;)V" } : Jvm.MethodName) jdk_42_method_149_code (6 : Nat) (Option.none : Option Jvm.ClassFile.FieldType), Jvm.Cond.code ({ cls := "java/lang/Object", name := "<init>", desc := "()V" } : Jvm.MethodName) object_method_1_code (1 : Nat) (Option.none : Option Jvm.ClassFile.FieldType), Jvm.Cond.code ({ cls := "com/example/facetwise/facetwise/RankedResultEqualsPinLaw", name := "util", desc := "(I)D" } : Jvm.MethodName) method_6_code (1 : Nat) (Option.some Jvm.ClassFile.FieldType.double), Jvm.Cond.code ({ cls := "com/example/facetwise/facetwise/RankedResult", name := "<init>", desc := "(Ljava/lang/String;ID)V" } : Jvm.MethodName) prog_14_method_1_code (5 : Nat) (Option.none : Option Jvm.ClassFile.FieldType), Jvm.Cond.code ({ cls := "com/example/facetwise/facetwise/RankedResult", name := "equals", desc := "(Ljava/lang/Object;)Z" } : Jvm.MethodName) prog_14_method_5_code (3 : Nat) (Option.some Jvm.ClassFile.FieldType.boolean), Jvm.Cond.code ({ cls := "java/lang/String", name := "equals", desc := "(Ljava/lang/Object;)Z" } : Jvm.MethodName) jdk_42_method_66_code (3 : Nat) (Option.some Jvm.ClassFile.FieldType.boolean), Jvm.Cond.code ({ cls := "java/lang/StringLatin1", name := "equals", desc := "([B[B)Z" } : Jvm.MethodName) jdk_43_method_13_code (3 : Nat) (Option.some Jvm.ClassFile.FieldType.boolean), Jvm.Cond.code ({ cls := "java/lang/Double", name := "compare", desc := "(DD)I" } : Jvm.MethodName) jdk_117_method_27_code (8 : Nat) (Option.some Jvm.ClassFile.FieldType.int), Jvm.Cond.code ({ cls := "java/lang/Double", name := "doubleToLongBits", desc := "(D)J" } : Jvm.MethodName) jdk_117_method_23_code (2 : Nat) (Option.some Jvm.ClassFile.FieldType.long), Jvm.Cond.code ({ cls := "java/lang/Double", name := "isNaN", desc := "(D)Z" } : Jvm.MethodName) jdk_117_method_6_code (2 : Nat) (Option.some Jvm.ClassFile.FieldType.boolean), Jvm.Cond.code ({ cls := "com/example/facetwise/facetwise/RankedResultEqualsPinLaw", name := "c0", desc := "(I)C" } : Jvm.MethodName) method_3_code (1 : Nat) (Option.some Jvm.ClassFile.FieldType.char), Jvm.Cond.code ({ cls := "java/lang/String", name := "valueOf", desc := "(C)Ljava/lang/String;" } : Jvm.MethodName) jdk_42_method_139_code (1 : Nat) (Option.some (Jvm.ClassFile.FieldType.object "java/lang/String")), Jvm.Cond.code ({ cls := "java/lang/StringLatin1", name := "canEncode", desc := "(C)Z" } : Jvm.MethodName) jdk_43_method_3_code (1 : Nat) (Option.some Jvm.ClassFile.FieldType.boolean), Jvm.Cond.code ({ cls := "java/lang/StringLatin1", name := "toBytes", desc := "(C)[B" } : Jvm.MethodName) jdk_43_method_46_code (1 : Nat) (Option.some (Jvm.ClassFile.FieldType.array Jvm.ClassFile.FieldType.byte)), Jvm.Cond.code ({ cls := "java/lang/String", name := "<init>", desc := "([BB)V" } : Jvm.MethodName) jdk_42_method_151_code (3 : Nat) (Option.none : Option Jvm.ClassFile.FieldType), Jvm.Cond.code ({ cls := "com/example/facetwise/facetwise/RankedResultEqualsPinLaw", name := "c1", desc := "(I)C" } : Jvm.MethodName) method_4_code (1 : Nat) (Option.some Jvm.ClassFile.FieldType.char), Jvm.Cond.code ({ cls := "java/lang/StringUTF16", name := "compress", desc := "([CII)[B" } : Jvm.MethodName) jdk_52_method_16_code (6 : Nat) (Option.some (Jvm.ClassFile.FieldType.array Jvm.ClassFile.FieldType.byte)), Jvm.Cond.code ({ cls := "java/lang/StringUTF16", name := "compress", desc := "([CI[BII)I" } : Jvm.MethodName) jdk_52_method_21_code (7 : Nat) (Option.some Jvm.ClassFile.FieldType.int), Jvm.Cond.code ({ cls := "java/lang/StringUTF16", name := "coderFromArrayLen", desc := "([BI)B" } : Jvm.MethodName) jdk_52_method_15_code (2 : Nat) (Option.some Jvm.ClassFile.FieldType.byte)]
set_option maxRecDepth 65536 in
theorem codes_eq : words1.filter isCode = codes1 := rfl
theorem w_codes : ∀ c ∈ words1.filter isCode, c.before args0 about1 = true := by
  rw [codes_eq]
  intro c hc
  simp only [codes1, List.mem_cons, List.not_mem_nil, or_false] at hc
  rcases hc with rfl | rfl | rfl | rfl | rfl | rfl | rfl | rfl | rfl | rfl | rfl | rfl | rfl | rfl | rfl | rfl | rfl | rfl | rfl | rfl | rfl | rfl | rfl
  · exact w_c0
  · exact w_c1
  · exact w_c2
  · exact w_c3
  · exact w_c4
  · exact w_c5
  · exact w_c6
  · exact w_c7
  · exact w_c8
  · exact w_c9
  · exact w_c10
  · exact w_c11
  · exact w_c12
  · exact w_c13
  · exact w_c14
  · exact w_c15
  · exact w_c16
  · exact w_c17
  · exact w_c18
  · exact w_c19
  · exact w_c20
  · exact w_c21
  · exact w_c22
set_option maxRecDepth 65536 in
theorem w_t1 : (words1.take 24).all (fun c => isCode c || c.before args0 about1) = true := by decide +kernel
set_option maxRecDepth 65536 in
theorem w_t2 : ((words1.drop 24).take 24).all (fun c => isCode c || c.before args0 about1) = true := by decide +kernel
set_option maxRecDepth 65536 in
theorem w_t3 : (((words1.drop 24).drop 24).take 24).all (fun c => isCode c || c.before args0 about1) = true := by decide +kernel
set_option maxRecDepth 65536 in
theorem w_t4 : ((((words1.drop 24).drop 24).drop 24).take 24).all (fun c => isCode c || c.before args0 about1) = true := by decide +kernel
set_option maxRecDepth 65536 in
theorem w_t5 : ((((words1.drop 24).drop 24).drop 24).drop 24).all (fun c => isCode c || c.before args0 about1) = true := by decide +kernel
theorem w_tables : (allAtoms (Jvm.Cond.code x code maxLocals ret :: tables_1)).before args0 about1 = true := by
  rw [allAtoms_all]
  show words1.all (fun c => c.before args0 about1) = true
  refine all_split ?_ w_codes
  rw [← List.take_append_drop 24 words1, List.all_append, w_t1, ← List.take_append_drop 24 (words1.drop 24), List.all_append, w_t2, ← List.take_append_drop 24 ((words1.drop 24).drop 24), List.all_append, w_t3, ← List.take_append_drop 24 (((words1.drop 24).drop 24).drop 24), List.all_append, w_t4, w_t5]
  rfl
set_option maxRecDepth 65536 in
theorem w_rest : rest_1_c.before args0 about1 = true := by decide +kernel
set_option maxRecDepth 65536 in
theorem w_case : (Jvm.Cond.and given_1 narrow_1).before args0 about1 = true := by decide +kernel
set_option maxRecDepth 65536 in
theorem w_consts : constsHeld consts_1 about1 := Jvm.Lit.constsHeldB_iff.mp (by decide +kernel)
theorem w_applies : (headSpec (Jvm.Cond.code x code maxLocals ret :: tables_1) room_1).applies x e0.platform about1 = true :=
  (Spec.applies_iff w_frames).mpr ⟨w_running, w_runnable, w_alone, w_named, w_hears, w_ripe, w_room, w_tables⟩
theorem atStart : AtStart classFile x code maxLocals ret World_1 tables_1 room_1 Calls_1 rest_1 Pre_1 launch0 p0 e0 about1 theMethod args0 below0 :=
  ⟨lists_1, trivial, launch0.admits_env _ _ _, launch0.least_env, fairChoices_fair.cas, fairChoices_fair.clock, w_frames, w_args, w_heap, w_applies, ⟨w_consts, trivial⟩, w_rest, w_case⟩
end start1
theorem witness_1 : WitnessClaimed_1 := ⟨start1.p0, start1.e0, start1.about1, start1.theMethod, start1.args0, start1.below0, start1.atStart⟩
end Jvm.Pilot.@@N@@
