import JvmDerived
import JvmDerived.Pilot.@@N@@Statement
import JvmDerived.Pilot.@@N@@Code
set_option linter.unusedVariables false
set_option linter.unusedSimpArgs false
namespace Jvm.RoadKit
open Sem ClassFile Op Lib Jvm.Stand Jvm.Free Jvm.LawKit
section New
variable {p : Program} {l : Launch} {e : Env} {R : Room} {s : State} {m : MethodId} {args : Array Value} {below : List Frame} {meth : Method} {c : Code} {T : State} {locs : List Loc} {cells slots : Nat}
theorem retI (X : Stand p l e R s m args below meth c T locs cells slots) (hx : p.tables.exec = Jvm.exec) {pc : Nat} {Ls : Array Slot} {z : Int32} {rest : List Value} (hret : meth.sig.returnType = some .int) (hd : decode c.code pc = .ok (.ireturn, 1)) {fs : List Frame}
    (hl : ∀ (f : JFrame) (acts : List Action), f.method = m → f.locked = none → f.entered = [] → (doReturn e (T.setTop f) acts (some (.int z))).1 = T.setFrames fs) : Steps p.tables e below (T.setTop (mkF m pc Ls (.int z :: rest))) (T.setFrames fs) := by
  have hm' : T.vm.method? m = some meth := X.method'
  have hn : narrow .int (.int z) = .int z := rfl
  show Steps p.tables e below (T.setTop { method := m, pc := pc, locals := Ls, stack := _ :: rest, locked := none }) _
  jvm_step X.here [X.here.top, hx, hd, hm', hret, hn]
  first | (intro acts; rw [hl _ acts rfl rfl rfl]) | rw [hl _ _ rfl rfl rfl]
  exact Steps.refl _
theorem retD (X : Stand p l e R s m args below meth c T locs cells slots) (hx : p.tables.exec = Jvm.exec) {pc : Nat} {Ls : Array Slot} {z : UInt64} {rest : List Value} (hret : meth.sig.returnType = some .double) (hd : decode c.code pc = .ok (.dreturn, 1)) {fs : List Frame}
    (hl : ∀ (f : JFrame) (acts : List Action), f.method = m → f.locked = none → f.entered = [] → (doReturn e (T.setTop f) acts (some (.double z))).1 = T.setFrames fs) : Steps p.tables e below (T.setTop (mkF m pc Ls (.double z :: rest))) (T.setFrames fs) := by
  have hm' : T.vm.method? m = some meth := X.method'
  have hn : narrow .double (.double z) = .double z := rfl
  show Steps p.tables e below (T.setTop { method := m, pc := pc, locals := Ls, stack := _ :: rest, locked := none }) _
  jvm_step X.here [X.here.top, hx, hd, hm', hret, hn]
  first | (intro acts; rw [hl _ acts rfl rfl rfl]) | rw [hl _ _ rfl rfl rfl]
  exact Steps.refl _
end New
end Jvm.RoadKit
namespace Jvm.Pilot.@@N@@
open Jvm Jvm.ClassFile Sem Op Lib Jvm.Free Jvm.Stand Jvm.LawKit Jvm.RoadKit Bundle Jvm.Pilot.@@N@@.Jvm.D
theorem own_selP {s : State} {args : Array Value} {y z : MethodName} (hz : (Cond.selects z.cls z z).before args s = true) (e : z.cls = y.cls) (hpriv : s.PrivateAt y) (hinst : (Cond.instanceMethod y).before args s = true) (hy : y.cls ≠ "java/lang/invoke/MethodHandle" ∧ y.cls ≠ "java/lang/invoke/VarHandle") : (Cond.selects y.cls y y).before args s = true := by
  obtain ⟨c2, r2, m2, q1, q2, q3, q4, kP, hkP, hkPi⟩ := Cond.selects_spec hz
  exact selects_self_of_private (by rw [← e]; exact findClass_of_methodNamed q3) hkP hkPi hpriv hinst hy
def own_B (K : Int) (x : Int64) : Prop := -K ≤ x.toInt ∧ x.toInt ≤ K
def own_f (p k : Int32) : Int32 := ((p <<< (((22 : Int32) - ((10 : Int32) * k)) &&& 31)) >>> ((22 : Int32) &&& 31))
theorem own_B0 : own_B 0 0 := by unfold own_B; decide
theorem own_B1 : own_B 1 1 := by unfold own_B; decide
theorem own_Bm {K K' : Int} {x : Int64} (h : own_B K x) (hk : K ≤ K') : own_B K' x := by unfold own_B at *; omega
theorem own_d0 : FP.dconst0 = FP.l2d 0 := by decide +kernel
theorem own_d1 : FP.dconst1 = FP.l2d 1 := by decide +kernel
theorem own_mulNN (a b : Int64) : Jvm.Free.Fl.NoNaN64 (FP.dmul (FP.l2d a) (FP.l2d b)) := Jvm.Free.Fl.dmul_out (Jvm.Free.Fl.l2d_fin a) (Jvm.Free.Fl.l2d_fin b)
theorem own_addNZ {m : Int64} : FP.dadd (FP.l2d m) 9223372036854775808 = FP.l2d m := by
  by_cases h : m = 0
  · subst h; decide +kernel
  · exact FP.Core.eq_bits (Jvm.Free.Fl.nz64_core.mp (Jvm.Free.Fl.l2d_nz h)) (FP.Core.dadd_zero_eq (Jvm.Free.Fl.fin64_core.mp (Jvm.Free.Fl.l2d_fin m)) (by exact ⟨true, _, rfl⟩)).1
theorem own_absmul {a b A B : Int} (a1 : -A ≤ a) (a2 : a ≤ A) (b1 : -B ≤ b) (b2 : b ≤ B) : -(A * B) ≤ a * b ∧ a * b ≤ A * B := by
  have hA : 0 ≤ A := by omega
  have hB : 0 ≤ B := by omega
  have h : (a * b).natAbs ≤ A.toNat * B.toNat := by rw [Int.natAbs_mul]; exact Nat.mul_le_mul (by omega) (by omega)
  have h2 : ((A.toNat * B.toNat : Nat) : Int) = A * B := by rw [Int.natCast_mul, Int.toNat_of_nonneg hA, Int.toNat_of_nonneg hB]
  omega
theorem own_fma {m a b : Int64} {K A B : Int} (hm : own_B K m) (ha : own_B A a) (hb : own_B B b) (hA : A < 9007199254740992) (hB : B < 9007199254740992) (h : K + A * B < 9007199254740992) : FP.dadd (FP.l2d m) (FP.dmul (FP.l2d a) (FP.l2d b)) = FP.l2d (m + a * b) ∧ own_B (K + A * B) (m + a * b) := by
  obtain ⟨m1, m2⟩ := hm
  obtain ⟨a1, a2⟩ := ha
  obtain ⟨b1, b2⟩ := hb
  obtain ⟨c1, c2⟩ := own_absmul a1 a2 b1 b2
  have em : (a * b).toInt = a.toInt * b.toInt := FP.Core.int64_mul (by omega) (by omega)
  have es : (m + a * b).toInt = m.toInt + (a * b).toInt := FP.Core.int64_add (by omega) (by omega)
  refine ⟨?_, by rw [own_B, es, em]; omega⟩
  have hbm : B53 m := ⟨by omega, by omega⟩
  have hba : B53 a := ⟨by omega, by omega⟩
  have hbb : B53 b := ⟨by omega, by omega⟩
  have hbp : B53 (a * b) := ⟨by omega, by omega⟩
  by_cases h0 : a = 0 ∨ b = 0
  · have ez : a * b = 0 := by rcases h0 with rfl | rfl <;> simp
    rw [dmul_z hba hbb h0, ez]
    have e0 : m + 0 = m := by simp
    split
    · rw [e0]; exact own_addNZ
    · rw [dadd_w hbm ⟨by decide, by decide⟩]
  · rw [dmul_w hba hbb (fun q => h0 (Or.inl q)) (fun q => h0 (Or.inr q)) (by omega) (by omega), dadd_w hbm hbp]
theorem own_n4 (p : Int32) : p &&& (3 : Int32) = 0 ∨ p &&& (3 : Int32) = 1 ∨ p &&& (3 : Int32) = 2 ∨ p &&& (3 : Int32) = 3 := by
  have h := c_mask p 3 2 (by decide) (by decide)
  have h2 : 0 ≤ (p &&& (3 : Int32)).toInt ∧ (p &&& (3 : Int32)).toInt < 4 := by rw [h]; omega
  have e : ∀ k : Int32, (p &&& (3 : Int32)).toInt = k.toInt → p &&& (3 : Int32) = k := fun k q => Int32.toInt_inj.mp q
  have c : (p &&& (3 : Int32)).toInt = 0 ∨ (p &&& (3 : Int32)).toInt = 1 ∨ (p &&& (3 : Int32)).toInt = 2 ∨ (p &&& (3 : Int32)).toInt = 3 := by omega
  rcases c with c | c | c | c
  · exact Or.inl (e 0 (by rw [c]; decide))
  · exact Or.inr (Or.inl (e 1 (by rw [c]; decide)))
  · exact Or.inr (Or.inr (Or.inl (e 2 (by rw [c]; decide))))
  · exact Or.inr (Or.inr (Or.inr (e 3 (by rw [c]; decide))))
theorem own_fB (p : Int32) {k : Int32} : own_B 512 (own_f p k).toInt64 := by
  have h : (own_f p k).toInt = (p <<< (((22 : Int32) - ((10 : Int32) * k)) &&& 31)).toInt / (2 ^ 22 : Nat) := c_ishr _ 22 22 (by decide)
  have r := rng32 (p <<< (((22 : Int32) - ((10 : Int32) * k)) &&& 31))
  unfold own_B
  rw [Int32.toInt_toInt64, h]
  omega
theorem own_turned {Z : State} {h : Heap} {t : Addr} {k : ClassId} {x0 x1 x2 : Int64} (V : Arv Z h t k .double (3 : Int32) [(.double (FP.l2d (((0 + 1 * x0) + 0 * x1) + 0 * x2))), (.double (FP.l2d (((0 + 0 * x0) + 1 * x1) + 0 * x2))), (.double (FP.l2d (((0 + 0 * x0) + 0 * x1) + 1 * x2)))] (.double (FP.l2d 0))) :
    Arv Z h t k .double (3 : Int32) [(.double (FP.l2d x0)), (.double (FP.l2d x1)), (.double (FP.l2d x2))] (.double (FP.l2d 0)) := by
  have e0 : ((0 + 1 * x0) + 0 * x1) + 0 * x2 = x0 := by simp
  have e1 : ((0 + 0 * x0) + 1 * x1) + 0 * x2 = x1 := by simp
  have e2 : ((0 + 0 * x0) + 0 * x1) + 1 * x2 = x2 := by simp
  rw [e0, e1, e2] at V
  exact V
theorem own_cmpEq {a b : Int64} (h : a = b) (o : CmpOp) : cmpValue (FP.dcmp (FP.l2d a) (FP.l2d b)) o = 0 := by
  subst h; exact dcmpV_self ((Jvm.Free.Fl.l2d_fin _).noNaN) _
theorem dF_0 : decode method_3_code 0 = .ok (.iload_n 0, 1) := by decide +kernel
theorem dF_1 : decode method_3_code 1 = .ok (.bipush 22, 2) := by decide +kernel
theorem dF_3 : decode method_3_code 3 = .ok (.bipush 10, 2) := by decide +kernel
theorem dF_5 : decode method_3_code 5 = .ok (.iload_n 1, 1) := by decide +kernel
theorem dF_6 : decode method_3_code 6 = .ok (.imul, 1) := by decide +kernel
theorem dF_7 : decode method_3_code 7 = .ok (.isub, 1) := by decide +kernel
theorem dF_8 : decode method_3_code 8 = .ok (.ishl, 1) := by decide +kernel
theorem dF_9 : decode method_3_code 9 = .ok (.bipush 22, 2) := by decide +kernel
theorem dF_11 : decode method_3_code 11 = .ok (.ishr, 1) := by decide +kernel
theorem dF_12 : decode method_3_code 12 = .ok (.ireturn, 1) := by decide +kernel
theorem pn_com_example_lineament_lineament_math_OuterProductSumAlongPinLaw : plainName "com/example/lineament/lineament/math/OuterProductSumAlongPinLaw" = true := by first | (simp [plainName, overriddenIn]; done) | decide +kernel
theorem ef_F (m : MethodId) (x0 : Int32) (x1 : Int32) : entryFrame m #[(.int x0), (.int x1)] 2 = mkF m 0 #[.val (.int x0), .val (.int x1)] [] := by first | (simp [entryFrame, mkF, argsToLocals, Value.category]; done) | rfl
def QF (Z : State) (fp : Int32) (fk : Int32) (h0 : Heap) (n0 : Nat) (v : Option Value) (h : Heap) (L : List Loc) : Prop := v = some (.int (own_f fp fk)) ∧ Fr n0 L ∧ h = h0
set_option maxRecDepth 65536 in
set_option maxHeartbeats 40000000 in
theorem rmF (l : Launch) (Z : State) (a0 : Array Value) (hw : ∀ d ∈ tables_1, d.before a0 Z = true) (ws : List Jvm.Cond) (fp : Int32) (fk : Int32) (h0 : Heap) (n0 : Nat) (Z0 : n0 ≤ h0.size) :
    MetFree l (⟨"com/example/lineament/lineament/math/OuterProductSumAlongPinLaw", "f", "(II)I"⟩ : MethodName) (head1 (Jvm.Cond.code (⟨"com/example/lineament/lineament/math/OuterProductSumAlongPinLaw", "f", "(II)I"⟩ : MethodName) method_3_code 2 (some .int) :: ws) ({ frames := 0, cells := 0, slots := 0, locals := 0 } : Room)) (fun a U => a = #[(.int fp), (.int fk)] ∧ Z.Warmed39 U.vm ∧ U.heap = h0) (fun _ _ _ _ _ => True) (fun _ U o U' => ∃ v L, o = .returned v ∧ QF Z fp fk h0 n0 v U'.heap L ∧ FrameEnd U o U' L ({ frames := 0, cells := 0, slots := 0, locals := 0 } : Room).cells ({ frames := 0, cells := 0, slots := 0, locals := 0 } : Room).slots) := by
  refine MetFree.of_bodySF (plainFor_of_name pn_com_example_lineament_lineament_math_OuterProductSumAlongPinLaw) hisR ?_
  intro p e s m args below meth c s₁ Bd hml0 hP hK
  obtain ⟨rfl, hZ, hh⟩ := hP
  have hx := Bd.exec
  have hby := Bd.bytes
  have hml : c.maxLocals = 2 := hml0
  have hown : s.vm.findClass "com/example/lineament/lineament/math/OuterProductSumAlongPinLaw" = some m.cls := findClass_of_methodNamed Bd.named
  have hnm := (name_of_methodNamed Bd.named Bd.method).1
  have X0 : Stand p l e ({ frames := 0, cells := 0, slots := 0, locals := 0 } : Room) s m #[(.int fp), (.int fk)] below meth c s₁ [] 0 0 := Stand.of_body Bd
  have e0 : s₁.heap = h0 := by rw [← hh, Bd.state]; rfl
  have N0 := Fr.nil n0
  have K0 : Keep h0 h0 [] := Keep.refl h0 []
  have pre0 : ∀ t, Steps p.tables e below (s₁.setTop (mkF m 0 #[.val (.int fp), .val (.int fk)] [])) t → Steps p.tables e below (s₁.setTop (entryFrame m #[(.int fp), (.int fk)] 2)) t := fun t k => castTop (ef_F m fp fk) k
  obtain ⟨fs, hr, hrun, hended, hW, hsame⟩ := X0.leave (v := some (.int ((fp <<< (((22 : Int32) - ((10 : Int32) * fk)) &&& 31)) >>> ((22 : Int32) &&& 31)))) (fun h => by rw [Bd.returns] at h; cases h)
  refine ⟨_, _, ?_, hrun, hended, _, _, rfl, ?_, ⟨_, rfl⟩, hW, hsame.mono (by decide) (by decide)⟩
  · refine pre0 _ ?_
    show Steps _ _ _ (s₁.setTop (mkF m 0 #[.val (.int fp), .val (.int fk)] [])) _
    refine XS.iloadN X0.here hx rfl (hb hby dF_0) rfl ?_
    refine XS.bipush X0.here hx rfl (hb hby dF_1) ?_
    refine XS.bipush X0.here hx rfl (hb hby dF_3) ?_
    refine XS.iloadN X0.here hx rfl (hb hby dF_5) rfl ?_
    show Steps _ _ _ (s₁.setTop (mkF m 6 #[.val (.int fp), .val (.int fk)] [(.int fk), (.int (10 : Int32)), (.int (22 : Int32)), (.int fp)])) _
    refine XS.imul X0.here hx rfl (hb hby dF_6) rfl ?_
    refine XS.isub X0.here hx rfl (hb hby dF_7) rfl ?_
    refine XS.ishl X0.here hx rfl (hb hby dF_8) rfl ?_
    refine XS.bipush X0.here hx rfl (hb hby dF_9) ?_
    show Steps _ _ _ (s₁.setTop (mkF m 11 #[.val (.int fp), .val (.int fk)] [(.int (22 : Int32)), (.int (fp <<< (((22 : Int32) - ((10 : Int32) * fk)) &&& 31)))])) _
    refine XS.ishr X0.here hx rfl (hb hby dF_11) rfl ?_
    show Steps _ _ _ (s₁.setTop (mkF m 12 #[.val (.int fp), .val (.int fk)] [(.int ((fp <<< (((22 : Int32) - ((10 : Int32) * fk)) &&& 31)) >>> ((22 : Int32) &&& 31)))])) _
    exact retI X0 hx Bd.returns (hb hby dF_12) hr
  · show QF Z fp fk h0 n0 _ s₁.heap _
    rw [e0]
    exact ⟨rfl, N0, rfl⟩
theorem dRL_0 : decode prog_22_method_11_code 0 = .ok (.aload_n 1, 1) := by decide +kernel
theorem dRL_1 : decode prog_22_method_11_code 1 = .ok (.arraylength, 1) := by decide +kernel
theorem dRL_2 : decode prog_22_method_11_code 2 = .ok (.aload_n 0, 1) := by decide +kernel
theorem dRL_3 : decode prog_22_method_11_code 3 = .ok (.getfield 16, 3) := by decide +kernel
theorem dRL_6 : decode prog_22_method_11_code 6 = .ok (.if_icmp .eq 20, 3) := by decide +kernel
theorem dRL_26 : decode prog_22_method_11_code 26 = .ok (.return_, 1) := by decide +kernel
theorem pn_com_example_lineament_lineament_math_OuterProductSum : plainName "com/example/lineament/lineament/math/OuterProductSum" = true := by first | (simp [plainName, overriddenIn]; done) | decide +kernel
theorem ef_RL (m : MethodId) (x0 : Addr) (x1 : Addr) : entryFrame m #[(.ref x0), (.ref x1)] 2 = mkF m 0 #[.val (.ref x0), .val (.ref x1)] [] := by first | (simp [entryFrame, mkF, argsToLocals, Value.category]; done) | rfl
def QRL (Z : State) (th : Addr) (vb : Addr) (kb : ClassId) (x0 : Int64) (x1 : Int64) (x2 : Int64) (h0 : Heap) (n0 : Nat) (v : Option Value) (h : Heap) (L : List Loc) : Prop := v = none ∧ Fr n0 L ∧ h = h0
set_option maxRecDepth 65536 in
set_option maxHeartbeats 40000000 in
theorem rmRL (l : Launch) (Z : State) (a0 : Array Value) (hw : ∀ d ∈ tables_1, d.before a0 Z = true) (ws : List Jvm.Cond) (th : Addr) (vb : Addr) (kb : ClassId) (x0 : Int64) (x1 : Int64) (x2 : Int64) (h0 : Heap) (n0 : Nat) (Z0 : n0 ≤ h0.size) (F_d : Fld Z h0 th "com/example/lineament/lineament/math/OuterProductSum" "d" "I" (.int (3 : Int32))) (V_b : Arv Z h0 vb kb .double (3 : Int32) [(.double (FP.l2d x0)), (.double (FP.l2d x1)), (.double (FP.l2d x2))] (.double (FP.l2d 0))) :
    MetFree l (⟨"com/example/lineament/lineament/math/OuterProductSum", "requireLength", "([D)V"⟩ : MethodName) (head1 (Jvm.Cond.code (⟨"com/example/lineament/lineament/math/OuterProductSum", "requireLength", "([D)V"⟩ : MethodName) prog_22_method_11_code 2 none :: ws) ({ frames := 0, cells := 0, slots := 0, locals := 0 } : Room)) (fun a U => a = #[(.ref th), (.ref vb)] ∧ Z.Warmed39 U.vm ∧ U.heap = h0) (fun _ _ _ _ _ => True) (fun _ U o U' => ∃ v L, o = .returned v ∧ QRL Z th vb kb x0 x1 x2 h0 n0 v U'.heap L ∧ FrameEnd U o U' L ({ frames := 0, cells := 0, slots := 0, locals := 0 } : Room).cells ({ frames := 0, cells := 0, slots := 0, locals := 0 } : Room).slots) := by
  refine MetFree.of_bodySF (plainFor_of_name pn_com_example_lineament_lineament_math_OuterProductSum) hisR ?_
  intro p e s m args below meth c s₁ Bd hml0 hP hK
  obtain ⟨rfl, hZ, hh⟩ := hP
  have hx := Bd.exec
  have hby := Bd.bytes
  have hml : c.maxLocals = 2 := hml0
  have hown : s.vm.findClass "com/example/lineament/lineament/math/OuterProductSum" = some m.cls := findClass_of_methodNamed Bd.named
  have hnm := (name_of_methodNamed Bd.named Bd.method).1
  have X0 : Stand p l e ({ frames := 0, cells := 0, slots := 0, locals := 0 } : Room) s m #[(.ref th), (.ref vb)] below meth c s₁ [] 0 0 := Stand.of_body Bd
  have e0 : s₁.heap = h0 := by rw [← hh, Bd.state]; rfl
  have N0 := Fr.nil n0
  have K0 : Keep h0 h0 [] := Keep.refl h0 []
  have pre0 : ∀ t, Steps p.tables e below (s₁.setTop (mkF m 0 #[.val (.ref th), .val (.ref vb)] [])) t → Steps p.tables e below (s₁.setTop (entryFrame m #[(.ref th), (.ref vb)] 2)) t := fun t k => castTop (ef_RL m th vb) k
  obtain ⟨cl1, Ar1, -, S1, N1, -, -⟩ := id V_b
  obtain ⟨T2, X2, e2, st2⟩ := getF X0 hx hZ hown (host := "") (Or.inl (hw _ (List.mem_of_getElem? (i := 14) rfl))) Via.refl e0 F_d (g := (mkF m 3 #[.val (.ref th), .val (.ref vb)] [(.ref th), (.int (3 : Int32))])) rfl rfl (hb hby dRL_3)
  obtain ⟨fs, hr, hrun, hended, hW, hsame⟩ := X2.leave (v := none) (fun _ => rfl)
  refine ⟨_, _, ?_, hrun, hended, _, _, rfl, ?_, ⟨_, rfl⟩, hW, hsame.mono (by decide) (by decide)⟩
  · refine pre0 _ ?_
    show Steps _ _ _ (s₁.setTop (mkF m 0 #[.val (.ref th), .val (.ref vb)] [])) _
    refine XS.aloadN X0.here hx rfl (hb hby dRL_0) rfl rfl ?_
    show Steps _ _ _ (s₁.setTop (mkF m 1 #[.val (.ref th), .val (.ref vb)] [(.ref vb)])) _
    refine X0.arraylength hx (by rw [e0]; exact Ar1.1) (State.isArrayOf_alike hZ.alike Ar1.2.1) (g := (mkF m 1 #[.val (.ref th), .val (.ref vb)] [(.ref vb)])) rfl rfl (hb hby dRL_1) _ ?_
    rw [len_of S1 N1]
    refine XS.aloadN X0.here hx rfl (hb hby dRL_2) rfl rfl ?_
    show Steps _ _ _ (s₁.setTop (mkF m 3 #[.val (.ref th), .val (.ref vb)] [(.ref th), (.int (3 : Int32))])) _
    refine st2 _ ?_
    refine XS.icmpYes X2.here hx rfl (pc0 := 6) (pc' := 26) rfl (hb hby dRL_6) rfl (by decide) (by decide) (by decide) ?_
    show Steps _ _ _ (T2.setTop (mkF m 26 #[.val (.ref th), .val (.ref vb)] [])) _
    exact X2.returnOut hx Bd.returns (hb hby dRL_26) hr
  · show QRL Z th vb kb x0 x1 x2 h0 n0 _ T2.heap _
    rw [e2]
    exact ⟨rfl, N0, rfl⟩
theorem dAO_0 : decode prog_22_method_12_code 0 = .ok (.iconst 0, 1) := by decide +kernel
theorem dAO_1 : decode prog_22_method_12_code 1 = .ok (.istore_n 3, 1) := by decide +kernel
theorem dAO_2 : decode prog_22_method_12_code 2 = .ok (.iload_n 3, 1) := by decide +kernel
theorem dAO_3 : decode prog_22_method_12_code 3 = .ok (.aload_n 0, 1) := by decide +kernel
theorem dAO_4 : decode prog_22_method_12_code 4 = .ok (.getfield 16, 3) := by decide +kernel
theorem dAO_7 : decode prog_22_method_12_code 7 = .ok (.if_icmp .ge 49, 3) := by decide +kernel
theorem dAO_10 : decode prog_22_method_12_code 10 = .ok (.iconst 0, 1) := by decide +kernel
theorem dAO_11 : decode prog_22_method_12_code 11 = .ok (.istore 4, 2) := by decide +kernel
theorem dAO_13 : decode prog_22_method_12_code 13 = .ok (.iload 4, 2) := by decide +kernel
theorem dAO_15 : decode prog_22_method_12_code 15 = .ok (.aload_n 0, 1) := by decide +kernel
theorem dAO_16 : decode prog_22_method_12_code 16 = .ok (.getfield 16, 3) := by decide +kernel
theorem dAO_19 : decode prog_22_method_12_code 19 = .ok (.if_icmp .ge 31, 3) := by decide +kernel
theorem dAO_22 : decode prog_22_method_12_code 22 = .ok (.aload_n 1, 1) := by decide +kernel
theorem dAO_23 : decode prog_22_method_12_code 23 = .ok (.iload_n 3, 1) := by decide +kernel
theorem dAO_24 : decode prog_22_method_12_code 24 = .ok (.aload_n 0, 1) := by decide +kernel
theorem dAO_25 : decode prog_22_method_12_code 25 = .ok (.getfield 16, 3) := by decide +kernel
theorem dAO_28 : decode prog_22_method_12_code 28 = .ok (.imul, 1) := by decide +kernel
theorem dAO_29 : decode prog_22_method_12_code 29 = .ok (.iload 4, 2) := by decide +kernel
theorem dAO_31 : decode prog_22_method_12_code 31 = .ok (.iadd, 1) := by decide +kernel
theorem dAO_32 : decode prog_22_method_12_code 32 = .ok (.dup2, 1) := by decide +kernel
theorem dAO_33 : decode prog_22_method_12_code 33 = .ok (.daload, 1) := by decide +kernel
theorem dAO_34 : decode prog_22_method_12_code 34 = .ok (.aload_n 2, 1) := by decide +kernel
theorem dAO_35 : decode prog_22_method_12_code 35 = .ok (.iload_n 3, 1) := by decide +kernel
theorem dAO_36 : decode prog_22_method_12_code 36 = .ok (.daload, 1) := by decide +kernel
theorem dAO_37 : decode prog_22_method_12_code 37 = .ok (.aload_n 2, 1) := by decide +kernel
theorem dAO_38 : decode prog_22_method_12_code 38 = .ok (.iload 4, 2) := by decide +kernel
theorem dAO_40 : decode prog_22_method_12_code 40 = .ok (.daload, 1) := by decide +kernel
theorem dAO_41 : decode prog_22_method_12_code 41 = .ok (.dmul, 1) := by decide +kernel
theorem dAO_42 : decode prog_22_method_12_code 42 = .ok (.dadd, 1) := by decide +kernel
theorem dAO_43 : decode prog_22_method_12_code 43 = .ok (.dastore, 1) := by decide +kernel
theorem dAO_44 : decode prog_22_method_12_code 44 = .ok (.iinc 4 1, 3) := by decide +kernel
theorem dAO_47 : decode prog_22_method_12_code 47 = .ok (.goto (-34), 3) := by decide +kernel
theorem dAO_50 : decode prog_22_method_12_code 50 = .ok (.iinc 3 1, 3) := by decide +kernel
theorem dAO_53 : decode prog_22_method_12_code 53 = .ok (.goto (-51), 3) := by decide +kernel
theorem dAO_56 : decode prog_22_method_12_code 56 = .ok (.return_, 1) := by decide +kernel
theorem ef_AO (m : MethodId) (x0 : Addr) (x1 : Addr) (x2 : Addr) : entryFrame m #[(.ref x0), (.ref x1), (.ref x2)] 5 = mkF m 0 #[.val (.ref x0), .val (.ref x1), .val (.ref x2), .unset, .unset] [] := by first | (simp [entryFrame, mkF, argsToLocals, Value.category]; done) | rfl
def QAO (Z : State) (th : Addr) (vb : Addr) (cc : Addr) (kb : ClassId) (kc : ClassId) (m0 : Int64) (m1 : Int64) (m2 : Int64) (m3 : Int64) (m4 : Int64) (m5 : Int64) (m6 : Int64) (m7 : Int64) (m8 : Int64) (x0 : Int64) (x1 : Int64) (x2 : Int64) (h0 : Heap) (n0 : Nat) (v : Option Value) (h : Heap) (L : List Loc) : Prop := v = none ∧ Fr n0 L ∧ Keep h0 h [vb] ∧ Arv Z h vb kb .double (9 : Int32) [(.double (FP.l2d (m0 + x0 * x0))), (.double (FP.l2d (m1 + x0 * x1))), (.double (FP.l2d (m2 + x0 * x2))), (.double (FP.l2d (m3 + x1 * x0))), (.double (FP.l2d (m4 + x1 * x1))), (.double (FP.l2d (m5 + x1 * x2))), (.double (FP.l2d (m6 + x2 * x0))), (.double (FP.l2d (m7 + x2 * x1))), (.double (FP.l2d (m8 + x2 * x2)))] (.double (FP.l2d 0))
set_option maxRecDepth 65536 in
set_option maxHeartbeats 40000000 in
theorem rmAO (l : Launch) (Z : State) (a0 : Array Value) (hw : ∀ d ∈ tables_1, d.before a0 Z = true) (ws : List Jvm.Cond) (th : Addr) (vb : Addr) (cc : Addr) (kb : ClassId) (kc : ClassId) (m0 : Int64) (m1 : Int64) (m2 : Int64) (m3 : Int64) (m4 : Int64) (m5 : Int64) (m6 : Int64) (m7 : Int64) (m8 : Int64) (x0 : Int64) (x1 : Int64) (x2 : Int64) (h0 : Heap) (n0 : Nat) (Z0 : n0 ≤ h0.size) (F_d : Fld Z h0 th "com/example/lineament/lineament/math/OuterProductSum" "d" "I" (.int (3 : Int32))) (V_b : Arv Z h0 vb kb .double (9 : Int32) [(.double (FP.l2d m0)), (.double (FP.l2d m1)), (.double (FP.l2d m2)), (.double (FP.l2d m3)), (.double (FP.l2d m4)), (.double (FP.l2d m5)), (.double (FP.l2d m6)), (.double (FP.l2d m7)), (.double (FP.l2d m8))] (.double (FP.l2d 0))) (V_c : Arv Z h0 cc kc .double (3 : Int32) [(.double (FP.l2d x0)), (.double (FP.l2d x1)), (.double (FP.l2d x2))] (.double (FP.l2d 0))) (ne_th_vb : th ≠ vb) (ne_vb_cc : vb ≠ cc) (g_vb : n0 ≤ vb) (B_m0 : own_B 16777216 m0) (B_m1 : own_B 16777216 m1) (B_m2 : own_B 16777216 m2) (B_m3 : own_B 16777216 m3) (B_m4 : own_B 16777216 m4) (B_m5 : own_B 16777216 m5) (B_m6 : own_B 16777216 m6) (B_m7 : own_B 16777216 m7) (B_m8 : own_B 16777216 m8) (B_x0 : own_B 512 x0) (B_x1 : own_B 512 x1) (B_x2 : own_B 512 x2) :
    MetFree l (⟨"com/example/lineament/lineament/math/OuterProductSum", "addOuter", "([D[D)V"⟩ : MethodName) (head1 (Jvm.Cond.code (⟨"com/example/lineament/lineament/math/OuterProductSum", "addOuter", "([D[D)V"⟩ : MethodName) prog_22_method_12_code 5 none :: ws) ({ frames := 0, cells := 0, slots := 0, locals := 0 } : Room)) (fun a U => a = #[(.ref th), (.ref vb), (.ref cc)] ∧ Z.Warmed39 U.vm ∧ U.heap = h0) (fun _ _ _ _ _ => True) (fun _ U o U' => ∃ v L, o = .returned v ∧ QAO Z th vb cc kb kc m0 m1 m2 m3 m4 m5 m6 m7 m8 x0 x1 x2 h0 n0 v U'.heap L ∧ FrameEnd U o U' L ({ frames := 0, cells := 0, slots := 0, locals := 0 } : Room).cells ({ frames := 0, cells := 0, slots := 0, locals := 0 } : Room).slots) := by
  refine MetFree.of_bodySF (plainFor_of_name pn_com_example_lineament_lineament_math_OuterProductSum) hisR ?_
  intro p e s m args below meth c s₁ Bd hml0 hP hK
  obtain ⟨rfl, hZ, hh⟩ := hP
  have hx := Bd.exec
  have hby := Bd.bytes
  have hml : c.maxLocals = 5 := hml0
  have hown : s.vm.findClass "com/example/lineament/lineament/math/OuterProductSum" = some m.cls := findClass_of_methodNamed Bd.named
  have hnm := (name_of_methodNamed Bd.named Bd.method).1
  have X0 : Stand p l e ({ frames := 0, cells := 0, slots := 0, locals := 0 } : Room) s m #[(.ref th), (.ref vb), (.ref cc)] below meth c s₁ [] 0 0 := Stand.of_body Bd
  have e0 : s₁.heap = h0 := by rw [← hh, Bd.state]; rfl
  have N0 := Fr.nil n0
  have K0 := Keep.refl h0 [vb]
  have pre0 : ∀ t, Steps p.tables e below (s₁.setTop (mkF m 0 #[.val (.ref th), .val (.ref vb), .val (.ref cc), .unset, .unset] [])) t → Steps p.tables e below (s₁.setTop (entryFrame m #[(.ref th), (.ref vb), (.ref cc)] 5)) t := fun t k => castTop (ef_AO m th vb cc) k
  obtain ⟨T3, X3, e3, st3⟩ := getF X0 hx hZ hown (host := "") (Or.inl (hw _ (List.mem_of_getElem? (i := 14) rfl))) Via.refl e0 F_d (g := (mkF m 4 #[.val (.ref th), .val (.ref vb), .val (.ref cc), .val (.int (0 : Int32)), .unset] [(.ref th), (.int (0 : Int32))])) rfl rfl (hb hby dAO_4)
  obtain ⟨T4, X4, e4, st4⟩ := getF X3 hx hZ hown (host := "") (Or.inl (hw _ (List.mem_of_getElem? (i := 14) rfl))) Via.refl e3 F_d (g := (mkF m 16 #[.val (.ref th), .val (.ref vb), .val (.ref cc), .val (.int (0 : Int32)), .val (.int (0 : Int32))] [(.ref th), (.int (0 : Int32))])) rfl rfl (hb hby dAO_16)
  obtain ⟨T5, X5, e5, st5⟩ := getF X4 hx hZ hown (host := "") (Or.inl (hw _ (List.mem_of_getElem? (i := 14) rfl))) Via.refl e4 F_d (g := (mkF m 25 #[.val (.ref th), .val (.ref vb), .val (.ref cc), .val (.int (0 : Int32)), .val (.int (0 : Int32))] [(.ref th), (.int (0 : Int32)), (.ref vb)])) rfl rfl (hb hby dAO_25)
  obtain ⟨cl6, Ar6, q6, S6, N6, H6, G6⟩ := id V_b
  have hin6 : ¬ ((0 : Int32) < 0 ∨ cl6.slots.size ≤ ((0 : Int32)).toNatClampNeg) := (inb_of S6 ⟨by decide, by decide⟩)
  have hat6 : cl6.slots[((0 : Int32)).toNatClampNeg]? = some (.double (FP.l2d m0)) := (H6.at (inb_of S6 ⟨by decide, by decide⟩) rfl)
  obtain ⟨cl7, Ar7, q7, S7, N7, H7, G7⟩ := id V_c
  have hin7 : ¬ ((0 : Int32) < 0 ∨ cl7.slots.size ≤ ((0 : Int32)).toNatClampNeg) := (inb_of S7 ⟨by decide, by decide⟩)
  have hat7 : cl7.slots[((0 : Int32)).toNatClampNeg]? = some (.double (FP.l2d x0)) := (H7.at (inb_of S7 ⟨by decide, by decide⟩) rfl)
  obtain ⟨cl8, Ar8, q8, S8, N8, H8, G8⟩ := id V_c
  have hin8 : ¬ ((0 : Int32) < 0 ∨ cl8.slots.size ≤ ((0 : Int32)).toNatClampNeg) := (inb_of S8 ⟨by decide, by decide⟩)
  have hat8 : cl8.slots[((0 : Int32)).toNatClampNeg]? = some (.double (FP.l2d x0)) := (H8.at (inb_of S8 ⟨by decide, by decide⟩) rfl)
  have Bq9 := own_fma B_m0 B_x0 B_x0 (by decide) (by decide) (by decide)
  obtain ⟨cl10, Ar10, q10, S10, N10, H10, G10⟩ := id V_b
  have hin10 : ¬ ((0 : Int32) < 0 ∨ cl10.slots.size ≤ ((0 : Int32)).toNatClampNeg) := (inb_of S10 ⟨by decide, by decide⟩)
  obtain ⟨T11, h11, X11, e11, W11, st11⟩ := stD X5 hx hZ e5 Ar10 (j := (0 : Int32)) hin10 (g := (mkF m 43 #[.val (.ref th), .val (.ref vb), .val (.ref cc), .val (.int (0 : Int32)), .val (.int (0 : Int32))] [(.double (FP.l2d (m0 + x0 * x0))), (.int (0 : Int32)), (.ref vb)])) rfl rfl (hb hby dAO_43)
  have V11 : Arv Z h11 vb kb .double (9 : Int32) [(.double (FP.l2d (m0 + x0 * x0))), (.double (FP.l2d m1)), (.double (FP.l2d m2)), (.double (FP.l2d m3)), (.double (FP.l2d m4)), (.double (FP.l2d m5)), (.double (FP.l2d m6)), (.double (FP.l2d m7)), (.double (FP.l2d m8))] (.double (FP.l2d 0)) := Arv.set Ar10 q10 S10 N10 H10 G10 rfl W11 0 rfl (Nat.le_of_ble_eq_true rfl)
  have K11 : Keep h0 h11 [vb] := K0.wr W11 (Or.inl (List.mem_of_getElem? (i := 0) rfl))
  have N11F := Fr.snoc X11 N0 g_vb
  have f12 := F_d.other W11 (Or.inl ne_th_vb)
  obtain ⟨T13, X13, e13, st13⟩ := getF X11 hx hZ hown (host := "") (Or.inl (hw _ (List.mem_of_getElem? (i := 14) rfl))) Via.refl e11 f12 (g := (mkF m 16 #[.val (.ref th), .val (.ref vb), .val (.ref cc), .val (.int (0 : Int32)), .val (.int (1 : Int32))] [(.ref th), (.int (1 : Int32))])) rfl rfl (hb hby dAO_16)
  obtain ⟨T14, X14, e14, st14⟩ := getF X13 hx hZ hown (host := "") (Or.inl (hw _ (List.mem_of_getElem? (i := 14) rfl))) Via.refl e13 f12 (g := (mkF m 25 #[.val (.ref th), .val (.ref vb), .val (.ref cc), .val (.int (0 : Int32)), .val (.int (1 : Int32))] [(.ref th), (.int (0 : Int32)), (.ref vb)])) rfl rfl (hb hby dAO_25)
  obtain ⟨cl15, Ar15, q15, S15, N15, H15, G15⟩ := id V11
  have hin15 : ¬ ((1 : Int32) < 0 ∨ cl15.slots.size ≤ ((1 : Int32)).toNatClampNeg) := (inb_of S15 ⟨by decide, by decide⟩)
  have hat15 : cl15.slots[((1 : Int32)).toNatClampNeg]? = some (.double (FP.l2d m1)) := (H15.at (inb_of S15 ⟨by decide, by decide⟩) rfl)
  have f17 := V_c.other W11 (Ne.symm ne_vb_cc)
  obtain ⟨cl16, Ar16, q16, S16, N16, H16, G16⟩ := id f17
  have hin16 : ¬ ((0 : Int32) < 0 ∨ cl16.slots.size ≤ ((0 : Int32)).toNatClampNeg) := (inb_of S16 ⟨by decide, by decide⟩)
  have hat16 : cl16.slots[((0 : Int32)).toNatClampNeg]? = some (.double (FP.l2d x0)) := (H16.at (inb_of S16 ⟨by decide, by decide⟩) rfl)
  obtain ⟨cl18, Ar18, q18, S18, N18, H18, G18⟩ := id f17
  have hin18 : ¬ ((1 : Int32) < 0 ∨ cl18.slots.size ≤ ((1 : Int32)).toNatClampNeg) := (inb_of S18 ⟨by decide, by decide⟩)
  have hat18 : cl18.slots[((1 : Int32)).toNatClampNeg]? = some (.double (FP.l2d x1)) := (H18.at (inb_of S18 ⟨by decide, by decide⟩) rfl)
  have Bq19 := own_fma B_m1 B_x0 B_x1 (by decide) (by decide) (by decide)
  obtain ⟨cl20, Ar20, q20, S20, N20, H20, G20⟩ := id V11
  have hin20 : ¬ ((1 : Int32) < 0 ∨ cl20.slots.size ≤ ((1 : Int32)).toNatClampNeg) := (inb_of S20 ⟨by decide, by decide⟩)
  obtain ⟨T21, h21, X21, e21, W21, st21⟩ := stD X14 hx hZ e14 Ar20 (j := (1 : Int32)) hin20 (g := (mkF m 43 #[.val (.ref th), .val (.ref vb), .val (.ref cc), .val (.int (0 : Int32)), .val (.int (1 : Int32))] [(.double (FP.l2d (m1 + x0 * x1))), (.int (1 : Int32)), (.ref vb)])) rfl rfl (hb hby dAO_43)
  have V21 : Arv Z h21 vb kb .double (9 : Int32) [(.double (FP.l2d (m0 + x0 * x0))), (.double (FP.l2d (m1 + x0 * x1))), (.double (FP.l2d m2)), (.double (FP.l2d m3)), (.double (FP.l2d m4)), (.double (FP.l2d m5)), (.double (FP.l2d m6)), (.double (FP.l2d m7)), (.double (FP.l2d m8))] (.double (FP.l2d 0)) := Arv.set Ar20 q20 S20 N20 H20 G20 rfl W21 1 rfl (Nat.le_of_ble_eq_true rfl)
  have K21 : Keep h0 h21 [vb] := K11.wr W21 (Or.inl (List.mem_of_getElem? (i := 0) rfl))
  have N21F := Fr.snoc X21 N11F g_vb
  have f22 := f12.other W21 (Or.inl ne_th_vb)
  obtain ⟨T23, X23, e23, st23⟩ := getF X21 hx hZ hown (host := "") (Or.inl (hw _ (List.mem_of_getElem? (i := 14) rfl))) Via.refl e21 f22 (g := (mkF m 16 #[.val (.ref th), .val (.ref vb), .val (.ref cc), .val (.int (0 : Int32)), .val (.int (2 : Int32))] [(.ref th), (.int (2 : Int32))])) rfl rfl (hb hby dAO_16)
  obtain ⟨T24, X24, e24, st24⟩ := getF X23 hx hZ hown (host := "") (Or.inl (hw _ (List.mem_of_getElem? (i := 14) rfl))) Via.refl e23 f22 (g := (mkF m 25 #[.val (.ref th), .val (.ref vb), .val (.ref cc), .val (.int (0 : Int32)), .val (.int (2 : Int32))] [(.ref th), (.int (0 : Int32)), (.ref vb)])) rfl rfl (hb hby dAO_25)
  obtain ⟨cl25, Ar25, q25, S25, N25, H25, G25⟩ := id V21
  have hin25 : ¬ ((2 : Int32) < 0 ∨ cl25.slots.size ≤ ((2 : Int32)).toNatClampNeg) := (inb_of S25 ⟨by decide, by decide⟩)
  have hat25 : cl25.slots[((2 : Int32)).toNatClampNeg]? = some (.double (FP.l2d m2)) := (H25.at (inb_of S25 ⟨by decide, by decide⟩) rfl)
  have f27 := f17.other W21 (Ne.symm ne_vb_cc)
  obtain ⟨cl26, Ar26, q26, S26, N26, H26, G26⟩ := id f27
  have hin26 : ¬ ((0 : Int32) < 0 ∨ cl26.slots.size ≤ ((0 : Int32)).toNatClampNeg) := (inb_of S26 ⟨by decide, by decide⟩)
  have hat26 : cl26.slots[((0 : Int32)).toNatClampNeg]? = some (.double (FP.l2d x0)) := (H26.at (inb_of S26 ⟨by decide, by decide⟩) rfl)
  obtain ⟨cl28, Ar28, q28, S28, N28, H28, G28⟩ := id f27
  have hin28 : ¬ ((2 : Int32) < 0 ∨ cl28.slots.size ≤ ((2 : Int32)).toNatClampNeg) := (inb_of S28 ⟨by decide, by decide⟩)
  have hat28 : cl28.slots[((2 : Int32)).toNatClampNeg]? = some (.double (FP.l2d x2)) := (H28.at (inb_of S28 ⟨by decide, by decide⟩) rfl)
  have Bq29 := own_fma B_m2 B_x0 B_x2 (by decide) (by decide) (by decide)
  obtain ⟨cl30, Ar30, q30, S30, N30, H30, G30⟩ := id V21
  have hin30 : ¬ ((2 : Int32) < 0 ∨ cl30.slots.size ≤ ((2 : Int32)).toNatClampNeg) := (inb_of S30 ⟨by decide, by decide⟩)
  obtain ⟨T31, h31, X31, e31, W31, st31⟩ := stD X24 hx hZ e24 Ar30 (j := (2 : Int32)) hin30 (g := (mkF m 43 #[.val (.ref th), .val (.ref vb), .val (.ref cc), .val (.int (0 : Int32)), .val (.int (2 : Int32))] [(.double (FP.l2d (m2 + x0 * x2))), (.int (2 : Int32)), (.ref vb)])) rfl rfl (hb hby dAO_43)
  have V31 : Arv Z h31 vb kb .double (9 : Int32) [(.double (FP.l2d (m0 + x0 * x0))), (.double (FP.l2d (m1 + x0 * x1))), (.double (FP.l2d (m2 + x0 * x2))), (.double (FP.l2d m3)), (.double (FP.l2d m4)), (.double (FP.l2d m5)), (.double (FP.l2d m6)), (.double (FP.l2d m7)), (.double (FP.l2d m8))] (.double (FP.l2d 0)) := Arv.set Ar30 q30 S30 N30 H30 G30 rfl W31 2 rfl (Nat.le_of_ble_eq_true rfl)
  have K31 : Keep h0 h31 [vb] := K21.wr W31 (Or.inl (List.mem_of_getElem? (i := 0) rfl))
  have N31F := Fr.snoc X31 N21F g_vb
  have f32 := f22.other W31 (Or.inl ne_th_vb)
  obtain ⟨T33, X33, e33, st33⟩ := getF X31 hx hZ hown (host := "") (Or.inl (hw _ (List.mem_of_getElem? (i := 14) rfl))) Via.refl e31 f32 (g := (mkF m 16 #[.val (.ref th), .val (.ref vb), .val (.ref cc), .val (.int (0 : Int32)), .val (.int (3 : Int32))] [(.ref th), (.int (3 : Int32))])) rfl rfl (hb hby dAO_16)
  obtain ⟨T34, X34, e34, st34⟩ := getF X33 hx hZ hown (host := "") (Or.inl (hw _ (List.mem_of_getElem? (i := 14) rfl))) Via.refl e33 f32 (g := (mkF m 4 #[.val (.ref th), .val (.ref vb), .val (.ref cc), .val (.int (1 : Int32)), .val (.int (3 : Int32))] [(.ref th), (.int (1 : Int32))])) rfl rfl (hb hby dAO_4)
  obtain ⟨T35, X35, e35, st35⟩ := getF X34 hx hZ hown (host := "") (Or.inl (hw _ (List.mem_of_getElem? (i := 14) rfl))) Via.refl e34 f32 (g := (mkF m 16 #[.val (.ref th), .val (.ref vb), .val (.ref cc), .val (.int (1 : Int32)), .val (.int (0 : Int32))] [(.ref th), (.int (0 : Int32))])) rfl rfl (hb hby dAO_16)
  obtain ⟨T36, X36, e36, st36⟩ := getF X35 hx hZ hown (host := "") (Or.inl (hw _ (List.mem_of_getElem? (i := 14) rfl))) Via.refl e35 f32 (g := (mkF m 25 #[.val (.ref th), .val (.ref vb), .val (.ref cc), .val (.int (1 : Int32)), .val (.int (0 : Int32))] [(.ref th), (.int (1 : Int32)), (.ref vb)])) rfl rfl (hb hby dAO_25)
  obtain ⟨cl37, Ar37, q37, S37, N37, H37, G37⟩ := id V31
  have hin37 : ¬ ((3 : Int32) < 0 ∨ cl37.slots.size ≤ ((3 : Int32)).toNatClampNeg) := (inb_of S37 ⟨by decide, by decide⟩)
  have hat37 : cl37.slots[((3 : Int32)).toNatClampNeg]? = some (.double (FP.l2d m3)) := (H37.at (inb_of S37 ⟨by decide, by decide⟩) rfl)
  have f39 := f27.other W31 (Ne.symm ne_vb_cc)
  obtain ⟨cl38, Ar38, q38, S38, N38, H38, G38⟩ := id f39
  have hin38 : ¬ ((1 : Int32) < 0 ∨ cl38.slots.size ≤ ((1 : Int32)).toNatClampNeg) := (inb_of S38 ⟨by decide, by decide⟩)
  have hat38 : cl38.slots[((1 : Int32)).toNatClampNeg]? = some (.double (FP.l2d x1)) := (H38.at (inb_of S38 ⟨by decide, by decide⟩) rfl)
  obtain ⟨cl40, Ar40, q40, S40, N40, H40, G40⟩ := id f39
  have hin40 : ¬ ((0 : Int32) < 0 ∨ cl40.slots.size ≤ ((0 : Int32)).toNatClampNeg) := (inb_of S40 ⟨by decide, by decide⟩)
  have hat40 : cl40.slots[((0 : Int32)).toNatClampNeg]? = some (.double (FP.l2d x0)) := (H40.at (inb_of S40 ⟨by decide, by decide⟩) rfl)
  have Bq41 := own_fma B_m3 B_x1 B_x0 (by decide) (by decide) (by decide)
  obtain ⟨cl42, Ar42, q42, S42, N42, H42, G42⟩ := id V31
  have hin42 : ¬ ((3 : Int32) < 0 ∨ cl42.slots.size ≤ ((3 : Int32)).toNatClampNeg) := (inb_of S42 ⟨by decide, by decide⟩)
  obtain ⟨T43, h43, X43, e43, W43, st43⟩ := stD X36 hx hZ e36 Ar42 (j := (3 : Int32)) hin42 (g := (mkF m 43 #[.val (.ref th), .val (.ref vb), .val (.ref cc), .val (.int (1 : Int32)), .val (.int (0 : Int32))] [(.double (FP.l2d (m3 + x1 * x0))), (.int (3 : Int32)), (.ref vb)])) rfl rfl (hb hby dAO_43)
  have V43 : Arv Z h43 vb kb .double (9 : Int32) [(.double (FP.l2d (m0 + x0 * x0))), (.double (FP.l2d (m1 + x0 * x1))), (.double (FP.l2d (m2 + x0 * x2))), (.double (FP.l2d (m3 + x1 * x0))), (.double (FP.l2d m4)), (.double (FP.l2d m5)), (.double (FP.l2d m6)), (.double (FP.l2d m7)), (.double (FP.l2d m8))] (.double (FP.l2d 0)) := Arv.set Ar42 q42 S42 N42 H42 G42 rfl W43 3 rfl (Nat.le_of_ble_eq_true rfl)
  have K43 : Keep h0 h43 [vb] := K31.wr W43 (Or.inl (List.mem_of_getElem? (i := 0) rfl))
  have N43F := Fr.snoc X43 N31F g_vb
  have f44 := f32.other W43 (Or.inl ne_th_vb)
  obtain ⟨T45, X45, e45, st45⟩ := getF X43 hx hZ hown (host := "") (Or.inl (hw _ (List.mem_of_getElem? (i := 14) rfl))) Via.refl e43 f44 (g := (mkF m 16 #[.val (.ref th), .val (.ref vb), .val (.ref cc), .val (.int (1 : Int32)), .val (.int (1 : Int32))] [(.ref th), (.int (1 : Int32))])) rfl rfl (hb hby dAO_16)
  obtain ⟨T46, X46, e46, st46⟩ := getF X45 hx hZ hown (host := "") (Or.inl (hw _ (List.mem_of_getElem? (i := 14) rfl))) Via.refl e45 f44 (g := (mkF m 25 #[.val (.ref th), .val (.ref vb), .val (.ref cc), .val (.int (1 : Int32)), .val (.int (1 : Int32))] [(.ref th), (.int (1 : Int32)), (.ref vb)])) rfl rfl (hb hby dAO_25)
  obtain ⟨cl47, Ar47, q47, S47, N47, H47, G47⟩ := id V43
  have hin47 : ¬ ((4 : Int32) < 0 ∨ cl47.slots.size ≤ ((4 : Int32)).toNatClampNeg) := (inb_of S47 ⟨by decide, by decide⟩)
  have hat47 : cl47.slots[((4 : Int32)).toNatClampNeg]? = some (.double (FP.l2d m4)) := (H47.at (inb_of S47 ⟨by decide, by decide⟩) rfl)
  have f49 := f39.other W43 (Ne.symm ne_vb_cc)
  obtain ⟨cl48, Ar48, q48, S48, N48, H48, G48⟩ := id f49
  have hin48 : ¬ ((1 : Int32) < 0 ∨ cl48.slots.size ≤ ((1 : Int32)).toNatClampNeg) := (inb_of S48 ⟨by decide, by decide⟩)
  have hat48 : cl48.slots[((1 : Int32)).toNatClampNeg]? = some (.double (FP.l2d x1)) := (H48.at (inb_of S48 ⟨by decide, by decide⟩) rfl)
  obtain ⟨cl50, Ar50, q50, S50, N50, H50, G50⟩ := id f49
  have hin50 : ¬ ((1 : Int32) < 0 ∨ cl50.slots.size ≤ ((1 : Int32)).toNatClampNeg) := (inb_of S50 ⟨by decide, by decide⟩)
  have hat50 : cl50.slots[((1 : Int32)).toNatClampNeg]? = some (.double (FP.l2d x1)) := (H50.at (inb_of S50 ⟨by decide, by decide⟩) rfl)
  have Bq51 := own_fma B_m4 B_x1 B_x1 (by decide) (by decide) (by decide)
  obtain ⟨cl52, Ar52, q52, S52, N52, H52, G52⟩ := id V43
  have hin52 : ¬ ((4 : Int32) < 0 ∨ cl52.slots.size ≤ ((4 : Int32)).toNatClampNeg) := (inb_of S52 ⟨by decide, by decide⟩)
  obtain ⟨T53, h53, X53, e53, W53, st53⟩ := stD X46 hx hZ e46 Ar52 (j := (4 : Int32)) hin52 (g := (mkF m 43 #[.val (.ref th), .val (.ref vb), .val (.ref cc), .val (.int (1 : Int32)), .val (.int (1 : Int32))] [(.double (FP.l2d (m4 + x1 * x1))), (.int (4 : Int32)), (.ref vb)])) rfl rfl (hb hby dAO_43)
  have V53 : Arv Z h53 vb kb .double (9 : Int32) [(.double (FP.l2d (m0 + x0 * x0))), (.double (FP.l2d (m1 + x0 * x1))), (.double (FP.l2d (m2 + x0 * x2))), (.double (FP.l2d (m3 + x1 * x0))), (.double (FP.l2d (m4 + x1 * x1))), (.double (FP.l2d m5)), (.double (FP.l2d m6)), (.double (FP.l2d m7)), (.double (FP.l2d m8))] (.double (FP.l2d 0)) := Arv.set Ar52 q52 S52 N52 H52 G52 rfl W53 4 rfl (Nat.le_of_ble_eq_true rfl)
  have K53 : Keep h0 h53 [vb] := K43.wr W53 (Or.inl (List.mem_of_getElem? (i := 0) rfl))
  have N53F := Fr.snoc X53 N43F g_vb
  have f54 := f44.other W53 (Or.inl ne_th_vb)
  obtain ⟨T55, X55, e55, st55⟩ := getF X53 hx hZ hown (host := "") (Or.inl (hw _ (List.mem_of_getElem? (i := 14) rfl))) Via.refl e53 f54 (g := (mkF m 16 #[.val (.ref th), .val (.ref vb), .val (.ref cc), .val (.int (1 : Int32)), .val (.int (2 : Int32))] [(.ref th), (.int (2 : Int32))])) rfl rfl (hb hby dAO_16)
  obtain ⟨T56, X56, e56, st56⟩ := getF X55 hx hZ hown (host := "") (Or.inl (hw _ (List.mem_of_getElem? (i := 14) rfl))) Via.refl e55 f54 (g := (mkF m 25 #[.val (.ref th), .val (.ref vb), .val (.ref cc), .val (.int (1 : Int32)), .val (.int (2 : Int32))] [(.ref th), (.int (1 : Int32)), (.ref vb)])) rfl rfl (hb hby dAO_25)
  obtain ⟨cl57, Ar57, q57, S57, N57, H57, G57⟩ := id V53
  have hin57 : ¬ ((5 : Int32) < 0 ∨ cl57.slots.size ≤ ((5 : Int32)).toNatClampNeg) := (inb_of S57 ⟨by decide, by decide⟩)
  have hat57 : cl57.slots[((5 : Int32)).toNatClampNeg]? = some (.double (FP.l2d m5)) := (H57.at (inb_of S57 ⟨by decide, by decide⟩) rfl)
  have f59 := f49.other W53 (Ne.symm ne_vb_cc)
  obtain ⟨cl58, Ar58, q58, S58, N58, H58, G58⟩ := id f59
  have hin58 : ¬ ((1 : Int32) < 0 ∨ cl58.slots.size ≤ ((1 : Int32)).toNatClampNeg) := (inb_of S58 ⟨by decide, by decide⟩)
  have hat58 : cl58.slots[((1 : Int32)).toNatClampNeg]? = some (.double (FP.l2d x1)) := (H58.at (inb_of S58 ⟨by decide, by decide⟩) rfl)
  obtain ⟨cl60, Ar60, q60, S60, N60, H60, G60⟩ := id f59
  have hin60 : ¬ ((2 : Int32) < 0 ∨ cl60.slots.size ≤ ((2 : Int32)).toNatClampNeg) := (inb_of S60 ⟨by decide, by decide⟩)
  have hat60 : cl60.slots[((2 : Int32)).toNatClampNeg]? = some (.double (FP.l2d x2)) := (H60.at (inb_of S60 ⟨by decide, by decide⟩) rfl)
  have Bq61 := own_fma B_m5 B_x1 B_x2 (by decide) (by decide) (by decide)
  obtain ⟨cl62, Ar62, q62, S62, N62, H62, G62⟩ := id V53
  have hin62 : ¬ ((5 : Int32) < 0 ∨ cl62.slots.size ≤ ((5 : Int32)).toNatClampNeg) := (inb_of S62 ⟨by decide, by decide⟩)
  obtain ⟨T63, h63, X63, e63, W63, st63⟩ := stD X56 hx hZ e56 Ar62 (j := (5 : Int32)) hin62 (g := (mkF m 43 #[.val (.ref th), .val (.ref vb), .val (.ref cc), .val (.int (1 : Int32)), .val (.int (2 : Int32))] [(.double (FP.l2d (m5 + x1 * x2))), (.int (5 : Int32)), (.ref vb)])) rfl rfl (hb hby dAO_43)
  have V63 : Arv Z h63 vb kb .double (9 : Int32) [(.double (FP.l2d (m0 + x0 * x0))), (.double (FP.l2d (m1 + x0 * x1))), (.double (FP.l2d (m2 + x0 * x2))), (.double (FP.l2d (m3 + x1 * x0))), (.double (FP.l2d (m4 + x1 * x1))), (.double (FP.l2d (m5 + x1 * x2))), (.double (FP.l2d m6)), (.double (FP.l2d m7)), (.double (FP.l2d m8))] (.double (FP.l2d 0)) := Arv.set Ar62 q62 S62 N62 H62 G62 rfl W63 5 rfl (Nat.le_of_ble_eq_true rfl)
  have K63 : Keep h0 h63 [vb] := K53.wr W63 (Or.inl (List.mem_of_getElem? (i := 0) rfl))
  have N63F := Fr.snoc X63 N53F g_vb
  have f64 := f54.other W63 (Or.inl ne_th_vb)
  obtain ⟨T65, X65, e65, st65⟩ := getF X63 hx hZ hown (host := "") (Or.inl (hw _ (List.mem_of_getElem? (i := 14) rfl))) Via.refl e63 f64 (g := (mkF m 16 #[.val (.ref th), .val (.ref vb), .val (.ref cc), .val (.int (1 : Int32)), .val (.int (3 : Int32))] [(.ref th), (.int (3 : Int32))])) rfl rfl (hb hby dAO_16)
  obtain ⟨T66, X66, e66, st66⟩ := getF X65 hx hZ hown (host := "") (Or.inl (hw _ (List.mem_of_getElem? (i := 14) rfl))) Via.refl e65 f64 (g := (mkF m 4 #[.val (.ref th), .val (.ref vb), .val (.ref cc), .val (.int (2 : Int32)), .val (.int (3 : Int32))] [(.ref th), (.int (2 : Int32))])) rfl rfl (hb hby dAO_4)
  obtain ⟨T67, X67, e67, st67⟩ := getF X66 hx hZ hown (host := "") (Or.inl (hw _ (List.mem_of_getElem? (i := 14) rfl))) Via.refl e66 f64 (g := (mkF m 16 #[.val (.ref th), .val (.ref vb), .val (.ref cc), .val (.int (2 : Int32)), .val (.int (0 : Int32))] [(.ref th), (.int (0 : Int32))])) rfl rfl (hb hby dAO_16)
  obtain ⟨T68, X68, e68, st68⟩ := getF X67 hx hZ hown (host := "") (Or.inl (hw _ (List.mem_of_getElem? (i := 14) rfl))) Via.refl e67 f64 (g := (mkF m 25 #[.val (.ref th), .val (.ref vb), .val (.ref cc), .val (.int (2 : Int32)), .val (.int (0 : Int32))] [(.ref th), (.int (2 : Int32)), (.ref vb)])) rfl rfl (hb hby dAO_25)
  obtain ⟨cl69, Ar69, q69, S69, N69, H69, G69⟩ := id V63
  have hin69 : ¬ ((6 : Int32) < 0 ∨ cl69.slots.size ≤ ((6 : Int32)).toNatClampNeg) := (inb_of S69 ⟨by decide, by decide⟩)
  have hat69 : cl69.slots[((6 : Int32)).toNatClampNeg]? = some (.double (FP.l2d m6)) := (H69.at (inb_of S69 ⟨by decide, by decide⟩) rfl)
  have f71 := f59.other W63 (Ne.symm ne_vb_cc)
  obtain ⟨cl70, Ar70, q70, S70, N70, H70, G70⟩ := id f71
  have hin70 : ¬ ((2 : Int32) < 0 ∨ cl70.slots.size ≤ ((2 : Int32)).toNatClampNeg) := (inb_of S70 ⟨by decide, by decide⟩)
  have hat70 : cl70.slots[((2 : Int32)).toNatClampNeg]? = some (.double (FP.l2d x2)) := (H70.at (inb_of S70 ⟨by decide, by decide⟩) rfl)
  obtain ⟨cl72, Ar72, q72, S72, N72, H72, G72⟩ := id f71
  have hin72 : ¬ ((0 : Int32) < 0 ∨ cl72.slots.size ≤ ((0 : Int32)).toNatClampNeg) := (inb_of S72 ⟨by decide, by decide⟩)
  have hat72 : cl72.slots[((0 : Int32)).toNatClampNeg]? = some (.double (FP.l2d x0)) := (H72.at (inb_of S72 ⟨by decide, by decide⟩) rfl)
  have Bq73 := own_fma B_m6 B_x2 B_x0 (by decide) (by decide) (by decide)
  obtain ⟨cl74, Ar74, q74, S74, N74, H74, G74⟩ := id V63
  have hin74 : ¬ ((6 : Int32) < 0 ∨ cl74.slots.size ≤ ((6 : Int32)).toNatClampNeg) := (inb_of S74 ⟨by decide, by decide⟩)
  obtain ⟨T75, h75, X75, e75, W75, st75⟩ := stD X68 hx hZ e68 Ar74 (j := (6 : Int32)) hin74 (g := (mkF m 43 #[.val (.ref th), .val (.ref vb), .val (.ref cc), .val (.int (2 : Int32)), .val (.int (0 : Int32))] [(.double (FP.l2d (m6 + x2 * x0))), (.int (6 : Int32)), (.ref vb)])) rfl rfl (hb hby dAO_43)
  have V75 : Arv Z h75 vb kb .double (9 : Int32) [(.double (FP.l2d (m0 + x0 * x0))), (.double (FP.l2d (m1 + x0 * x1))), (.double (FP.l2d (m2 + x0 * x2))), (.double (FP.l2d (m3 + x1 * x0))), (.double (FP.l2d (m4 + x1 * x1))), (.double (FP.l2d (m5 + x1 * x2))), (.double (FP.l2d (m6 + x2 * x0))), (.double (FP.l2d m7)), (.double (FP.l2d m8))] (.double (FP.l2d 0)) := Arv.set Ar74 q74 S74 N74 H74 G74 rfl W75 6 rfl (Nat.le_of_ble_eq_true rfl)
  have K75 : Keep h0 h75 [vb] := K63.wr W75 (Or.inl (List.mem_of_getElem? (i := 0) rfl))
  have N75F := Fr.snoc X75 N63F g_vb
  have f76 := f64.other W75 (Or.inl ne_th_vb)
  obtain ⟨T77, X77, e77, st77⟩ := getF X75 hx hZ hown (host := "") (Or.inl (hw _ (List.mem_of_getElem? (i := 14) rfl))) Via.refl e75 f76 (g := (mkF m 16 #[.val (.ref th), .val (.ref vb), .val (.ref cc), .val (.int (2 : Int32)), .val (.int (1 : Int32))] [(.ref th), (.int (1 : Int32))])) rfl rfl (hb hby dAO_16)
  obtain ⟨T78, X78, e78, st78⟩ := getF X77 hx hZ hown (host := "") (Or.inl (hw _ (List.mem_of_getElem? (i := 14) rfl))) Via.refl e77 f76 (g := (mkF m 25 #[.val (.ref th), .val (.ref vb), .val (.ref cc), .val (.int (2 : Int32)), .val (.int (1 : Int32))] [(.ref th), (.int (2 : Int32)), (.ref vb)])) rfl rfl (hb hby dAO_25)
  obtain ⟨cl79, Ar79, q79, S79, N79, H79, G79⟩ := id V75
  have hin79 : ¬ ((7 : Int32) < 0 ∨ cl79.slots.size ≤ ((7 : Int32)).toNatClampNeg) := (inb_of S79 ⟨by decide, by decide⟩)
  have hat79 : cl79.slots[((7 : Int32)).toNatClampNeg]? = some (.double (FP.l2d m7)) := (H79.at (inb_of S79 ⟨by decide, by decide⟩) rfl)
  have f81 := f71.other W75 (Ne.symm ne_vb_cc)
  obtain ⟨cl80, Ar80, q80, S80, N80, H80, G80⟩ := id f81
  have hin80 : ¬ ((2 : Int32) < 0 ∨ cl80.slots.size ≤ ((2 : Int32)).toNatClampNeg) := (inb_of S80 ⟨by decide, by decide⟩)
  have hat80 : cl80.slots[((2 : Int32)).toNatClampNeg]? = some (.double (FP.l2d x2)) := (H80.at (inb_of S80 ⟨by decide, by decide⟩) rfl)
  obtain ⟨cl82, Ar82, q82, S82, N82, H82, G82⟩ := id f81
  have hin82 : ¬ ((1 : Int32) < 0 ∨ cl82.slots.size ≤ ((1 : Int32)).toNatClampNeg) := (inb_of S82 ⟨by decide, by decide⟩)
  have hat82 : cl82.slots[((1 : Int32)).toNatClampNeg]? = some (.double (FP.l2d x1)) := (H82.at (inb_of S82 ⟨by decide, by decide⟩) rfl)
  have Bq83 := own_fma B_m7 B_x2 B_x1 (by decide) (by decide) (by decide)
  obtain ⟨cl84, Ar84, q84, S84, N84, H84, G84⟩ := id V75
  have hin84 : ¬ ((7 : Int32) < 0 ∨ cl84.slots.size ≤ ((7 : Int32)).toNatClampNeg) := (inb_of S84 ⟨by decide, by decide⟩)
  obtain ⟨T85, h85, X85, e85, W85, st85⟩ := stD X78 hx hZ e78 Ar84 (j := (7 : Int32)) hin84 (g := (mkF m 43 #[.val (.ref th), .val (.ref vb), .val (.ref cc), .val (.int (2 : Int32)), .val (.int (1 : Int32))] [(.double (FP.l2d (m7 + x2 * x1))), (.int (7 : Int32)), (.ref vb)])) rfl rfl (hb hby dAO_43)
  have V85 : Arv Z h85 vb kb .double (9 : Int32) [(.double (FP.l2d (m0 + x0 * x0))), (.double (FP.l2d (m1 + x0 * x1))), (.double (FP.l2d (m2 + x0 * x2))), (.double (FP.l2d (m3 + x1 * x0))), (.double (FP.l2d (m4 + x1 * x1))), (.double (FP.l2d (m5 + x1 * x2))), (.double (FP.l2d (m6 + x2 * x0))), (.double (FP.l2d (m7 + x2 * x1))), (.double (FP.l2d m8))] (.double (FP.l2d 0)) := Arv.set Ar84 q84 S84 N84 H84 G84 rfl W85 7 rfl (Nat.le_of_ble_eq_true rfl)
  have K85 : Keep h0 h85 [vb] := K75.wr W85 (Or.inl (List.mem_of_getElem? (i := 0) rfl))
  have N85F := Fr.snoc X85 N75F g_vb
  have f86 := f76.other W85 (Or.inl ne_th_vb)
  obtain ⟨T87, X87, e87, st87⟩ := getF X85 hx hZ hown (host := "") (Or.inl (hw _ (List.mem_of_getElem? (i := 14) rfl))) Via.refl e85 f86 (g := (mkF m 16 #[.val (.ref th), .val (.ref vb), .val (.ref cc), .val (.int (2 : Int32)), .val (.int (2 : Int32))] [(.ref th), (.int (2 : Int32))])) rfl rfl (hb hby dAO_16)
  obtain ⟨T88, X88, e88, st88⟩ := getF X87 hx hZ hown (host := "") (Or.inl (hw _ (List.mem_of_getElem? (i := 14) rfl))) Via.refl e87 f86 (g := (mkF m 25 #[.val (.ref th), .val (.ref vb), .val (.ref cc), .val (.int (2 : Int32)), .val (.int (2 : Int32))] [(.ref th), (.int (2 : Int32)), (.ref vb)])) rfl rfl (hb hby dAO_25)
  obtain ⟨cl89, Ar89, q89, S89, N89, H89, G89⟩ := id V85
  have hin89 : ¬ ((8 : Int32) < 0 ∨ cl89.slots.size ≤ ((8 : Int32)).toNatClampNeg) := (inb_of S89 ⟨by decide, by decide⟩)
  have hat89 : cl89.slots[((8 : Int32)).toNatClampNeg]? = some (.double (FP.l2d m8)) := (H89.at (inb_of S89 ⟨by decide, by decide⟩) rfl)
  have f91 := f81.other W85 (Ne.symm ne_vb_cc)
  obtain ⟨cl90, Ar90, q90, S90, N90, H90, G90⟩ := id f91
  have hin90 : ¬ ((2 : Int32) < 0 ∨ cl90.slots.size ≤ ((2 : Int32)).toNatClampNeg) := (inb_of S90 ⟨by decide, by decide⟩)
  have hat90 : cl90.slots[((2 : Int32)).toNatClampNeg]? = some (.double (FP.l2d x2)) := (H90.at (inb_of S90 ⟨by decide, by decide⟩) rfl)
  obtain ⟨cl92, Ar92, q92, S92, N92, H92, G92⟩ := id f91
  have hin92 : ¬ ((2 : Int32) < 0 ∨ cl92.slots.size ≤ ((2 : Int32)).toNatClampNeg) := (inb_of S92 ⟨by decide, by decide⟩)
  have hat92 : cl92.slots[((2 : Int32)).toNatClampNeg]? = some (.double (FP.l2d x2)) := (H92.at (inb_of S92 ⟨by decide, by decide⟩) rfl)
  have Bq93 := own_fma B_m8 B_x2 B_x2 (by decide) (by decide) (by decide)
  obtain ⟨cl94, Ar94, q94, S94, N94, H94, G94⟩ := id V85
  have hin94 : ¬ ((8 : Int32) < 0 ∨ cl94.slots.size ≤ ((8 : Int32)).toNatClampNeg) := (inb_of S94 ⟨by decide, by decide⟩)
  obtain ⟨T95, h95, X95, e95, W95, st95⟩ := stD X88 hx hZ e88 Ar94 (j := (8 : Int32)) hin94 (g := (mkF m 43 #[.val (.ref th), .val (.ref vb), .val (.ref cc), .val (.int (2 : Int32)), .val (.int (2 : Int32))] [(.double (FP.l2d (m8 + x2 * x2))), (.int (8 : Int32)), (.ref vb)])) rfl rfl (hb hby dAO_43)
  have V95 : Arv Z h95 vb kb .double (9 : Int32) [(.double (FP.l2d (m0 + x0 * x0))), (.double (FP.l2d (m1 + x0 * x1))), (.double (FP.l2d (m2 + x0 * x2))), (.double (FP.l2d (m3 + x1 * x0))), (.double (FP.l2d (m4 + x1 * x1))), (.double (FP.l2d (m5 + x1 * x2))), (.double (FP.l2d (m6 + x2 * x0))), (.double (FP.l2d (m7 + x2 * x1))), (.double (FP.l2d (m8 + x2 * x2)))] (.double (FP.l2d 0)) := Arv.set Ar94 q94 S94 N94 H94 G94 rfl W95 8 rfl (Nat.le_of_ble_eq_true rfl)
  have K95 : Keep h0 h95 [vb] := K85.wr W95 (Or.inl (List.mem_of_getElem? (i := 0) rfl))
  have N95F := Fr.snoc X95 N85F g_vb
  have f96 := f86.other W95 (Or.inl ne_th_vb)
  obtain ⟨T97, X97, e97, st97⟩ := getF X95 hx hZ hown (host := "") (Or.inl (hw _ (List.mem_of_getElem? (i := 14) rfl))) Via.refl e95 f96 (g := (mkF m 16 #[.val (.ref th), .val (.ref vb), .val (.ref cc), .val (.int (2 : Int32)), .val (.int (3 : Int32))] [(.ref th), (.int (3 : Int32))])) rfl rfl (hb hby dAO_16)
  obtain ⟨T98, X98, e98, st98⟩ := getF X97 hx hZ hown (host := "") (Or.inl (hw _ (List.mem_of_getElem? (i := 14) rfl))) Via.refl e97 f96 (g := (mkF m 4 #[.val (.ref th), .val (.ref vb), .val (.ref cc), .val (.int (3 : Int32)), .val (.int (3 : Int32))] [(.ref th), (.int (3 : Int32))])) rfl rfl (hb hby dAO_4)
  obtain ⟨fs, hr, hrun, hended, hW, hsame⟩ := X98.leave (v := none) (fun _ => rfl)
  refine ⟨_, _, ?_, hrun, hended, _, _, rfl, ?_, ⟨_, rfl⟩, hW, hsame.mono (by decide) (by decide)⟩
  · refine pre0 _ ?_
    show Steps _ _ _ (s₁.setTop (mkF m 0 #[.val (.ref th), .val (.ref vb), .val (.ref cc), .unset, .unset] [])) _
    refine XS.iconst X0.here hx rfl (hb hby dAO_0) ?_
    refine XS.istoreN X0.here hx rfl (hb hby dAO_1) rfl (l' := #[.val (.ref th), .val (.ref vb), .val (.ref cc), .val (.int (0 : Int32)), .unset]) rfl ?_
    refine XS.iloadN X0.here hx rfl (hb hby dAO_2) rfl ?_
    refine XS.aloadN X0.here hx rfl (hb hby dAO_3) rfl rfl ?_
    show Steps _ _ _ (s₁.setTop (mkF m 4 #[.val (.ref th), .val (.ref vb), .val (.ref cc), .val (.int (0 : Int32)), .unset] [(.ref th), (.int (0 : Int32))])) _
    refine st3 _ ?_
    refine XS.icmpNo X3.here hx rfl (hb hby dAO_7) rfl (by decide) ?_
    refine XS.iconst X3.here hx rfl (hb hby dAO_10) ?_
    refine XS.istore X3.here hx rfl (hb hby dAO_11) rfl (l' := #[.val (.ref th), .val (.ref vb), .val (.ref cc), .val (.int (0 : Int32)), .val (.int (0 : Int32))]) rfl ?_
    show Steps _ _ _ (T3.setTop (mkF m 13 #[.val (.ref th), .val (.ref vb), .val (.ref cc), .val (.int (0 : Int32)), .val (.int (0 : Int32))] [])) _
    refine XS.iload X3.here hx rfl (hb hby dAO_13) rfl ?_
    refine XS.aloadN X3.here hx rfl (hb hby dAO_15) rfl rfl ?_
    show Steps _ _ _ (T3.setTop (mkF m 16 #[.val (.ref th), .val (.ref vb), .val (.ref cc), .val (.int (0 : Int32)), .val (.int (0 : Int32))] [(.ref th), (.int (0 : Int32))])) _
    refine st4 _ ?_
    refine XS.icmpNo X4.here hx rfl (hb hby dAO_19) rfl (by decide) ?_
    refine XS.aloadN X4.here hx rfl (hb hby dAO_22) rfl rfl ?_
    refine XS.iloadN X4.here hx rfl (hb hby dAO_23) rfl ?_
    show Steps _ _ _ (T4.setTop (mkF m 24 #[.val (.ref th), .val (.ref vb), .val (.ref cc), .val (.int (0 : Int32)), .val (.int (0 : Int32))] [(.int (0 : Int32)), (.ref vb)])) _
    refine XS.aloadN X4.here hx rfl (hb hby dAO_24) rfl rfl ?_
    show Steps _ _ _ (T4.setTop (mkF m 25 #[.val (.ref th), .val (.ref vb), .val (.ref cc), .val (.int (0 : Int32)), .val (.int (0 : Int32))] [(.ref th), (.int (0 : Int32)), (.ref vb)])) _
    refine st5 _ ?_
    refine XS.imul X5.here hx rfl (hb hby dAO_28) rfl ?_
    refine XS.iload X5.here hx rfl (hb hby dAO_29) rfl ?_
    refine XS.iadd X5.here hx rfl (hb hby dAO_31) rfl ?_
    show Steps _ _ _ (T5.setTop (mkF m 32 #[.val (.ref th), .val (.ref vb), .val (.ref cc), .val (.int (0 : Int32)), .val (.int (0 : Int32))] [(.int (0 : Int32)), (.ref vb)])) _
    jvm_step X5.here [X5.here.top, hx, (hb hby dAO_32), Value.category]
    show Steps _ _ _ (T5.setTop (mkF m 33 #[.val (.ref th), .val (.ref vb), .val (.ref cc), .val (.int (0 : Int32)), .val (.int (0 : Int32))] [(.int (0 : Int32)), (.ref vb), (.int (0 : Int32)), (.ref vb)])) _
    refine X5.daload hx (j := (0 : Int32)) (v := (.double (FP.l2d m0))) (by rw [e5]; exact Ar6.1) (State.isArrayOf_alike hZ.alike Ar6.2.1) Ar6.2.2 hin6 hat6 (g := (mkF m 33 #[.val (.ref th), .val (.ref vb), .val (.ref cc), .val (.int (0 : Int32)), .val (.int (0 : Int32))] [(.int (0 : Int32)), (.ref vb), (.int (0 : Int32)), (.ref vb)])) rfl rfl (hb hby dAO_33) _ ?_
    refine XS.aloadN X5.here hx rfl (hb hby dAO_34) rfl rfl ?_
    refine XS.iloadN X5.here hx rfl (hb hby dAO_35) rfl ?_
    show Steps _ _ _ (T5.setTop (mkF m 36 #[.val (.ref th), .val (.ref vb), .val (.ref cc), .val (.int (0 : Int32)), .val (.int (0 : Int32))] [(.int (0 : Int32)), (.ref cc), (.double (FP.l2d m0)), (.int (0 : Int32)), (.ref vb)])) _
    refine X5.daload hx (j := (0 : Int32)) (v := (.double (FP.l2d x0))) (by rw [e5]; exact Ar7.1) (State.isArrayOf_alike hZ.alike Ar7.2.1) Ar7.2.2 hin7 hat7 (g := (mkF m 36 #[.val (.ref th), .val (.ref vb), .val (.ref cc), .val (.int (0 : Int32)), .val (.int (0 : Int32))] [(.int (0 : Int32)), (.ref cc), (.double (FP.l2d m0)), (.int (0 : Int32)), (.ref vb)])) rfl rfl (hb hby dAO_36) _ ?_
    refine XS.aloadN X5.here hx rfl (hb hby dAO_37) rfl rfl ?_
    refine XS.iload X5.here hx rfl (hb hby dAO_38) rfl ?_
    show Steps _ _ _ (T5.setTop (mkF m 40 #[.val (.ref th), .val (.ref vb), .val (.ref cc), .val (.int (0 : Int32)), .val (.int (0 : Int32))] [(.int (0 : Int32)), (.ref cc), (.double (FP.l2d x0)), (.double (FP.l2d m0)), (.int (0 : Int32)), (.ref vb)])) _
    refine X5.daload hx (j := (0 : Int32)) (v := (.double (FP.l2d x0))) (by rw [e5]; exact Ar8.1) (State.isArrayOf_alike hZ.alike Ar8.2.1) Ar8.2.2 hin8 hat8 (g := (mkF m 40 #[.val (.ref th), .val (.ref vb), .val (.ref cc), .val (.int (0 : Int32)), .val (.int (0 : Int32))] [(.int (0 : Int32)), (.ref cc), (.double (FP.l2d x0)), (.double (FP.l2d m0)), (.int (0 : Int32)), (.ref vb)])) rfl rfl (hb hby dAO_40) _ ?_
    refine XS.dmulS X5.here hx rfl (hb hby dAO_41) rfl (v := (FP.dmul (FP.l2d x0) (FP.l2d x0))) (own_mulNN _ _) rfl ?_
    refine XS.daddS X5.here hx rfl (hb hby dAO_42) rfl (v := (FP.l2d (m0 + x0 * x0))) (nn_w Bq9.1) Bq9.1 ?_
    show Steps _ _ _ (T5.setTop (mkF m 43 #[.val (.ref th), .val (.ref vb), .val (.ref cc), .val (.int (0 : Int32)), .val (.int (0 : Int32))] [(.double (FP.l2d (m0 + x0 * x0))), (.int (0 : Int32)), (.ref vb)])) _
    refine st11 _ ?_
    refine XS.iinc X11.here hx rfl (hb hby dAO_44) rfl (l' := #[.val (.ref th), .val (.ref vb), .val (.ref cc), .val (.int (0 : Int32)), .val (.int (1 : Int32))]) rfl ?_
    refine XS.goto X11.here hx rfl (pc0 := 47) (pc' := 13) rfl (hb hby dAO_47) (by decide) (by decide) ?_
    refine XS.iload X11.here hx rfl (hb hby dAO_13) rfl ?_
    show Steps _ _ _ (T11.setTop (mkF m 15 #[.val (.ref th), .val (.ref vb), .val (.ref cc), .val (.int (0 : Int32)), .val (.int (1 : Int32))] [(.int (1 : Int32))])) _
    refine XS.aloadN X11.here hx rfl (hb hby dAO_15) rfl rfl ?_
    show Steps _ _ _ (T11.setTop (mkF m 16 #[.val (.ref th), .val (.ref vb), .val (.ref cc), .val (.int (0 : Int32)), .val (.int (1 : Int32))] [(.ref th), (.int (1 : Int32))])) _
    refine st13 _ ?_
    refine XS.icmpNo X13.here hx rfl (hb hby dAO_19) rfl (by decide) ?_
    refine XS.aloadN X13.here hx rfl (hb hby dAO_22) rfl rfl ?_
    refine XS.iloadN X13.here hx rfl (hb hby dAO_23) rfl ?_
    show Steps _ _ _ (T13.setTop (mkF m 24 #[.val (.ref th), .val (.ref vb), .val (.ref cc), .val (.int (0 : Int32)), .val (.int (1 : Int32))] [(.int (0 : Int32)), (.ref vb)])) _
    refine XS.aloadN X13.here hx rfl (hb hby dAO_24) rfl rfl ?_
    show Steps _ _ _ (T13.setTop (mkF m 25 #[.val (.ref th), .val (.ref vb), .val (.ref cc), .val (.int (0 : Int32)), .val (.int (1 : Int32))] [(.ref th), (.int (0 : Int32)), (.ref vb)])) _
    refine st14 _ ?_
    refine XS.imul X14.here hx rfl (hb hby dAO_28) rfl ?_
    refine XS.iload X14.here hx rfl (hb hby dAO_29) rfl ?_
    refine XS.iadd X14.here hx rfl (hb hby dAO_31) rfl ?_
    show Steps _ _ _ (T14.setTop (mkF m 32 #[.val (.ref th), .val (.ref vb), .val (.ref cc), .val (.int (0 : Int32)), .val (.int (1 : Int32))] [(.int (1 : Int32)), (.ref vb)])) _
    jvm_step X14.here [X14.here.top, hx, (hb hby dAO_32), Value.category]
    show Steps _ _ _ (T14.setTop (mkF m 33 #[.val (.ref th), .val (.ref vb), .val (.ref cc), .val (.int (0 : Int32)), .val (.int (1 : Int32))] [(.int (1 : Int32)), (.ref vb), (.int (1 : Int32)), (.ref vb)])) _
    refine X14.daload hx (j := (1 : Int32)) (v := (.double (FP.l2d m1))) (by rw [e14]; exact Ar15.1) (State.isArrayOf_alike hZ.alike Ar15.2.1) Ar15.2.2 hin15 hat15 (g := (mkF m 33 #[.val (.ref th), .val (.ref vb), .val (.ref cc), .val (.int (0 : Int32)), .val (.int (1 : Int32))] [(.int (1 : Int32)), (.ref vb), (.int (1 : Int32)), (.ref vb)])) rfl rfl (hb hby dAO_33) _ ?_
    refine XS.aloadN X14.here hx rfl (hb hby dAO_34) rfl rfl ?_
    refine XS.iloadN X14.here hx rfl (hb hby dAO_35) rfl ?_
    show Steps _ _ _ (T14.setTop (mkF m 36 #[.val (.ref th), .val (.ref vb), .val (.ref cc), .val (.int (0 : Int32)), .val (.int (1 : Int32))] [(.int (0 : Int32)), (.ref cc), (.double (FP.l2d m1)), (.int (1 : Int32)), (.ref vb)])) _
    refine X14.daload hx (j := (0 : Int32)) (v := (.double (FP.l2d x0))) (by rw [e14]; exact Ar16.1) (State.isArrayOf_alike hZ.alike Ar16.2.1) Ar16.2.2 hin16 hat16 (g := (mkF m 36 #[.val (.ref th), .val (.ref vb), .val (.ref cc), .val (.int (0 : Int32)), .val (.int (1 : Int32))] [(.int (0 : Int32)), (.ref cc), (.double (FP.l2d m1)), (.int (1 : Int32)), (.ref vb)])) rfl rfl (hb hby dAO_36) _ ?_
    refine XS.aloadN X14.here hx rfl (hb hby dAO_37) rfl rfl ?_
    refine XS.iload X14.here hx rfl (hb hby dAO_38) rfl ?_
    show Steps _ _ _ (T14.setTop (mkF m 40 #[.val (.ref th), .val (.ref vb), .val (.ref cc), .val (.int (0 : Int32)), .val (.int (1 : Int32))] [(.int (1 : Int32)), (.ref cc), (.double (FP.l2d x0)), (.double (FP.l2d m1)), (.int (1 : Int32)), (.ref vb)])) _
    refine X14.daload hx (j := (1 : Int32)) (v := (.double (FP.l2d x1))) (by rw [e14]; exact Ar18.1) (State.isArrayOf_alike hZ.alike Ar18.2.1) Ar18.2.2 hin18 hat18 (g := (mkF m 40 #[.val (.ref th), .val (.ref vb), .val (.ref cc), .val (.int (0 : Int32)), .val (.int (1 : Int32))] [(.int (1 : Int32)), (.ref cc), (.double (FP.l2d x0)), (.double (FP.l2d m1)), (.int (1 : Int32)), (.ref vb)])) rfl rfl (hb hby dAO_40) _ ?_
    refine XS.dmulS X14.here hx rfl (hb hby dAO_41) rfl (v := (FP.dmul (FP.l2d x0) (FP.l2d x1))) (own_mulNN _ _) rfl ?_
    refine XS.daddS X14.here hx rfl (hb hby dAO_42) rfl (v := (FP.l2d (m1 + x0 * x1))) (nn_w Bq19.1) Bq19.1 ?_
    show Steps _ _ _ (T14.setTop (mkF m 43 #[.val (.ref th), .val (.ref vb), .val (.ref cc), .val (.int (0 : Int32)), .val (.int (1 : Int32))] [(.double (FP.l2d (m1 + x0 * x1))), (.int (1 : Int32)), (.ref vb)])) _
    refine st21 _ ?_
    refine XS.iinc X21.here hx rfl (hb hby dAO_44) rfl (l' := #[.val (.ref th), .val (.ref vb), .val (.ref cc), .val (.int (0 : Int32)), .val (.int (2 : Int32))]) rfl ?_
    refine XS.goto X21.here hx rfl (pc0 := 47) (pc' := 13) rfl (hb hby dAO_47) (by decide) (by decide) ?_
    refine XS.iload X21.here hx rfl (hb hby dAO_13) rfl ?_
    show Steps _ _ _ (T21.setTop (mkF m 15 #[.val (.ref th), .val (.ref vb), .val (.ref cc), .val (.int (0 : Int32)), .val (.int (2 : Int32))] [(.int (2 : Int32))])) _
    refine XS.aloadN X21.here hx rfl (hb hby dAO_15) rfl rfl ?_
    show Steps _ _ _ (T21.setTop (mkF m 16 #[.val (.ref th), .val (.ref vb), .val (.ref cc), .val (.int (0 : Int32)), .val (.int (2 : Int32))] [(.ref th), (.int (2 : Int32))])) _
    refine st23 _ ?_
    refine XS.icmpNo X23.here hx rfl (hb hby dAO_19) rfl (by decide) ?_
    refine XS.aloadN X23.here hx rfl (hb hby dAO_22) rfl rfl ?_
    refine XS.iloadN X23.here hx rfl (hb hby dAO_23) rfl ?_
    show Steps _ _ _ (T23.setTop (mkF m 24 #[.val (.ref th), .val (.ref vb), .val (.ref cc), .val (.int (0 : Int32)), .val (.int (2 : Int32))] [(.int (0 : Int32)), (.ref vb)])) _
    refine XS.aloadN X23.here hx rfl (hb hby dAO_24) rfl rfl ?_
    show Steps _ _ _ (T23.setTop (mkF m 25 #[.val (.ref th), .val (.ref vb), .val (.ref cc), .val (.int (0 : Int32)), .val (.int (2 : Int32))] [(.ref th), (.int (0 : Int32)), (.ref vb)])) _
    refine st24 _ ?_
    refine XS.imul X24.here hx rfl (hb hby dAO_28) rfl ?_
    refine XS.iload X24.here hx rfl (hb hby dAO_29) rfl ?_
    refine XS.iadd X24.here hx rfl (hb hby dAO_31) rfl ?_
    show Steps _ _ _ (T24.setTop (mkF m 32 #[.val (.ref th), .val (.ref vb), .val (.ref cc), .val (.int (0 : Int32)), .val (.int (2 : Int32))] [(.int (2 : Int32)), (.ref vb)])) _
    jvm_step X24.here [X24.here.top, hx, (hb hby dAO_32), Value.category]
    show Steps _ _ _ (T24.setTop (mkF m 33 #[.val (.ref th), .val (.ref vb), .val (.ref cc), .val (.int (0 : Int32)), .val (.int (2 : Int32))] [(.int (2 : Int32)), (.ref vb), (.int (2 : Int32)), (.ref vb)])) _
    refine X24.daload hx (j := (2 : Int32)) (v := (.double (FP.l2d m2))) (by rw [e24]; exact Ar25.1) (State.isArrayOf_alike hZ.alike Ar25.2.1) Ar25.2.2 hin25 hat25 (g := (mkF m 33 #[.val (.ref th), .val (.ref vb), .val (.ref cc), .val (.int (0 : Int32)), .val (.int (2 : Int32))] [(.int (2 : Int32)), (.ref vb), (.int (2 : Int32)), (.ref vb)])) rfl rfl (hb hby dAO_33) _ ?_
    refine XS.aloadN X24.here hx rfl (hb hby dAO_34) rfl rfl ?_
    refine XS.iloadN X24.here hx rfl (hb hby dAO_35) rfl ?_
    show Steps _ _ _ (T24.setTop (mkF m 36 #[.val (.ref th), .val (.ref vb), .val (.ref cc), .val (.int (0 : Int32)), .val (.int (2 : Int32))] [(.int (0 : Int32)), (.ref cc), (.double (FP.l2d m2)), (.int (2 : Int32)), (.ref vb)])) _
    refine X24.daload hx (j := (0 : Int32)) (v := (.double (FP.l2d x0))) (by rw [e24]; exact Ar26.1) (State.isArrayOf_alike hZ.alike Ar26.2.1) Ar26.2.2 hin26 hat26 (g := (mkF m 36 #[.val (.ref th), .val (.ref vb), .val (.ref cc), .val (.int (0 : Int32)), .val (.int (2 : Int32))] [(.int (0 : Int32)), (.ref cc), (.double (FP.l2d m2)), (.int (2 : Int32)), (.ref vb)])) rfl rfl (hb hby dAO_36) _ ?_
    refine XS.aloadN X24.here hx rfl (hb hby dAO_37) rfl rfl ?_
    refine XS.iload X24.here hx rfl (hb hby dAO_38) rfl ?_
    show Steps _ _ _ (T24.setTop (mkF m 40 #[.val (.ref th), .val (.ref vb), .val (.ref cc), .val (.int (0 : Int32)), .val (.int (2 : Int32))] [(.int (2 : Int32)), (.ref cc), (.double (FP.l2d x0)), (.double (FP.l2d m2)), (.int (2 : Int32)), (.ref vb)])) _
    refine X24.daload hx (j := (2 : Int32)) (v := (.double (FP.l2d x2))) (by rw [e24]; exact Ar28.1) (State.isArrayOf_alike hZ.alike Ar28.2.1) Ar28.2.2 hin28 hat28 (g := (mkF m 40 #[.val (.ref th), .val (.ref vb), .val (.ref cc), .val (.int (0 : Int32)), .val (.int (2 : Int32))] [(.int (2 : Int32)), (.ref cc), (.double (FP.l2d x0)), (.double (FP.l2d m2)), (.int (2 : Int32)), (.ref vb)])) rfl rfl (hb hby dAO_40) _ ?_
    refine XS.dmulS X24.here hx rfl (hb hby dAO_41) rfl (v := (FP.dmul (FP.l2d x0) (FP.l2d x2))) (own_mulNN _ _) rfl ?_
    refine XS.daddS X24.here hx rfl (hb hby dAO_42) rfl (v := (FP.l2d (m2 + x0 * x2))) (nn_w Bq29.1) Bq29.1 ?_
    show Steps _ _ _ (T24.setTop (mkF m 43 #[.val (.ref th), .val (.ref vb), .val (.ref cc), .val (.int (0 : Int32)), .val (.int (2 : Int32))] [(.double (FP.l2d (m2 + x0 * x2))), (.int (2 : Int32)), (.ref vb)])) _
    refine st31 _ ?_
    refine XS.iinc X31.here hx rfl (hb hby dAO_44) rfl (l' := #[.val (.ref th), .val (.ref vb), .val (.ref cc), .val (.int (0 : Int32)), .val (.int (3 : Int32))]) rfl ?_
    refine XS.goto X31.here hx rfl (pc0 := 47) (pc' := 13) rfl (hb hby dAO_47) (by decide) (by decide) ?_
    refine XS.iload X31.here hx rfl (hb hby dAO_13) rfl ?_
    show Steps _ _ _ (T31.setTop (mkF m 15 #[.val (.ref th), .val (.ref vb), .val (.ref cc), .val (.int (0 : Int32)), .val (.int (3 : Int32))] [(.int (3 : Int32))])) _
    refine XS.aloadN X31.here hx rfl (hb hby dAO_15) rfl rfl ?_
    show Steps _ _ _ (T31.setTop (mkF m 16 #[.val (.ref th), .val (.ref vb), .val (.ref cc), .val (.int (0 : Int32)), .val (.int (3 : Int32))] [(.ref th), (.int (3 : Int32))])) _
    refine st33 _ ?_
    refine XS.icmpYes X33.here hx rfl (pc0 := 19) (pc' := 50) rfl (hb hby dAO_19) rfl (by decide) (by decide) (by decide) ?_
    refine XS.iinc X33.here hx rfl (hb hby dAO_50) rfl (l' := #[.val (.ref th), .val (.ref vb), .val (.ref cc), .val (.int (1 : Int32)), .val (.int (3 : Int32))]) rfl ?_
    refine XS.goto X33.here hx rfl (pc0 := 53) (pc' := 2) rfl (hb hby dAO_53) (by decide) (by decide) ?_
    show Steps _ _ _ (T33.setTop (mkF m 2 #[.val (.ref th), .val (.ref vb), .val (.ref cc), .val (.int (1 : Int32)), .val (.int (3 : Int32))] [])) _
    refine XS.iloadN X33.here hx rfl (hb hby dAO_2) rfl ?_
    refine XS.aloadN X33.here hx rfl (hb hby dAO_3) rfl rfl ?_
    show Steps _ _ _ (T33.setTop (mkF m 4 #[.val (.ref th), .val (.ref vb), .val (.ref cc), .val (.int (1 : Int32)), .val (.int (3 : Int32))] [(.ref th), (.int (1 : Int32))])) _
    refine st34 _ ?_
    refine XS.icmpNo X34.here hx rfl (hb hby dAO_7) rfl (by decide) ?_
    refine XS.iconst X34.here hx rfl (hb hby dAO_10) ?_
    refine XS.istore X34.here hx rfl (hb hby dAO_11) rfl (l' := #[.val (.ref th), .val (.ref vb), .val (.ref cc), .val (.int (1 : Int32)), .val (.int (0 : Int32))]) rfl ?_
    show Steps _ _ _ (T34.setTop (mkF m 13 #[.val (.ref th), .val (.ref vb), .val (.ref cc), .val (.int (1 : Int32)), .val (.int (0 : Int32))] [])) _
    refine XS.iload X34.here hx rfl (hb hby dAO_13) rfl ?_
    refine XS.aloadN X34.here hx rfl (hb hby dAO_15) rfl rfl ?_
    show Steps _ _ _ (T34.setTop (mkF m 16 #[.val (.ref th), .val (.ref vb), .val (.ref cc), .val (.int (1 : Int32)), .val (.int (0 : Int32))] [(.ref th), (.int (0 : Int32))])) _
    refine st35 _ ?_
    refine XS.icmpNo X35.here hx rfl (hb hby dAO_19) rfl (by decide) ?_
    refine XS.aloadN X35.here hx rfl (hb hby dAO_22) rfl rfl ?_
    refine XS.iloadN X35.here hx rfl (hb hby dAO_23) rfl ?_
    show Steps _ _ _ (T35.setTop (mkF m 24 #[.val (.ref th), .val (.ref vb), .val (.ref cc), .val (.int (1 : Int32)), .val (.int (0 : Int32))] [(.int (1 : Int32)), (.ref vb)])) _
    refine XS.aloadN X35.here hx rfl (hb hby dAO_24) rfl rfl ?_
    show Steps _ _ _ (T35.setTop (mkF m 25 #[.val (.ref th), .val (.ref vb), .val (.ref cc), .val (.int (1 : Int32)), .val (.int (0 : Int32))] [(.ref th), (.int (1 : Int32)), (.ref vb)])) _
    refine st36 _ ?_
    refine XS.imul X36.here hx rfl (hb hby dAO_28) rfl ?_
    refine XS.iload X36.here hx rfl (hb hby dAO_29) rfl ?_
    refine XS.iadd X36.here hx rfl (hb hby dAO_31) rfl ?_
    show Steps _ _ _ (T36.setTop (mkF m 32 #[.val (.ref th), .val (.ref vb), .val (.ref cc), .val (.int (1 : Int32)), .val (.int (0 : Int32))] [(.int (3 : Int32)), (.ref vb)])) _
    jvm_step X36.here [X36.here.top, hx, (hb hby dAO_32), Value.category]
    show Steps _ _ _ (T36.setTop (mkF m 33 #[.val (.ref th), .val (.ref vb), .val (.ref cc), .val (.int (1 : Int32)), .val (.int (0 : Int32))] [(.int (3 : Int32)), (.ref vb), (.int (3 : Int32)), (.ref vb)])) _
    refine X36.daload hx (j := (3 : Int32)) (v := (.double (FP.l2d m3))) (by rw [e36]; exact Ar37.1) (State.isArrayOf_alike hZ.alike Ar37.2.1) Ar37.2.2 hin37 hat37 (g := (mkF m 33 #[.val (.ref th), .val (.ref vb), .val (.ref cc), .val (.int (1 : Int32)), .val (.int (0 : Int32))] [(.int (3 : Int32)), (.ref vb), (.int (3 : Int32)), (.ref vb)])) rfl rfl (hb hby dAO_33) _ ?_
    refine XS.aloadN X36.here hx rfl (hb hby dAO_34) rfl rfl ?_
    refine XS.iloadN X36.here hx rfl (hb hby dAO_35) rfl ?_
    show Steps _ _ _ (T36.setTop (mkF m 36 #[.val (.ref th), .val (.ref vb), .val (.ref cc), .val (.int (1 : Int32)), .val (.int (0 : Int32))] [(.int (1 : Int32)), (.ref cc), (.double (FP.l2d m3)), (.int (3 : Int32)), (.ref vb)])) _
    refine X36.daload hx (j := (1 : Int32)) (v := (.double (FP.l2d x1))) (by rw [e36]; exact Ar38.1) (State.isArrayOf_alike hZ.alike Ar38.2.1) Ar38.2.2 hin38 hat38 (g := (mkF m 36 #[.val (.ref th), .val (.ref vb), .val (.ref cc), .val (.int (1 : Int32)), .val (.int (0 : Int32))] [(.int (1 : Int32)), (.ref cc), (.double (FP.l2d m3)), (.int (3 : Int32)), (.ref vb)])) rfl rfl (hb hby dAO_36) _ ?_
    refine XS.aloadN X36.here hx rfl (hb hby dAO_37) rfl rfl ?_
    refine XS.iload X36.here hx rfl (hb hby dAO_38) rfl ?_
    show Steps _ _ _ (T36.setTop (mkF m 40 #[.val (.ref th), .val (.ref vb), .val (.ref cc), .val (.int (1 : Int32)), .val (.int (0 : Int32))] [(.int (0 : Int32)), (.ref cc), (.double (FP.l2d x1)), (.double (FP.l2d m3)), (.int (3 : Int32)), (.ref vb)])) _
    refine X36.daload hx (j := (0 : Int32)) (v := (.double (FP.l2d x0))) (by rw [e36]; exact Ar40.1) (State.isArrayOf_alike hZ.alike Ar40.2.1) Ar40.2.2 hin40 hat40 (g := (mkF m 40 #[.val (.ref th), .val (.ref vb), .val (.ref cc), .val (.int (1 : Int32)), .val (.int (0 : Int32))] [(.int (0 : Int32)), (.ref cc), (.double (FP.l2d x1)), (.double (FP.l2d m3)), (.int (3 : Int32)), (.ref vb)])) rfl rfl (hb hby dAO_40) _ ?_
    refine XS.dmulS X36.here hx rfl (hb hby dAO_41) rfl (v := (FP.dmul (FP.l2d x1) (FP.l2d x0))) (own_mulNN _ _) rfl ?_
    refine XS.daddS X36.here hx rfl (hb hby dAO_42) rfl (v := (FP.l2d (m3 + x1 * x0))) (nn_w Bq41.1) Bq41.1 ?_
    show Steps _ _ _ (T36.setTop (mkF m 43 #[.val (.ref th), .val (.ref vb), .val (.ref cc), .val (.int (1 : Int32)), .val (.int (0 : Int32))] [(.double (FP.l2d (m3 + x1 * x0))), (.int (3 : Int32)), (.ref vb)])) _
    refine st43 _ ?_
    refine XS.iinc X43.here hx rfl (hb hby dAO_44) rfl (l' := #[.val (.ref th), .val (.ref vb), .val (.ref cc), .val (.int (1 : Int32)), .val (.int (1 : Int32))]) rfl ?_
    refine XS.goto X43.here hx rfl (pc0 := 47) (pc' := 13) rfl (hb hby dAO_47) (by decide) (by decide) ?_
    refine XS.iload X43.here hx rfl (hb hby dAO_13) rfl ?_
    show Steps _ _ _ (T43.setTop (mkF m 15 #[.val (.ref th), .val (.ref vb), .val (.ref cc), .val (.int (1 : Int32)), .val (.int (1 : Int32))] [(.int (1 : Int32))])) _
    refine XS.aloadN X43.here hx rfl (hb hby dAO_15) rfl rfl ?_
    show Steps _ _ _ (T43.setTop (mkF m 16 #[.val (.ref th), .val (.ref vb), .val (.ref cc), .val (.int (1 : Int32)), .val (.int (1 : Int32))] [(.ref th), (.int (1 : Int32))])) _
    refine st45 _ ?_
    refine XS.icmpNo X45.here hx rfl (hb hby dAO_19) rfl (by decide) ?_
    refine XS.aloadN X45.here hx rfl (hb hby dAO_22) rfl rfl ?_
    refine XS.iloadN X45.here hx rfl (hb hby dAO_23) rfl ?_
    show Steps _ _ _ (T45.setTop (mkF m 24 #[.val (.ref th), .val (.ref vb), .val (.ref cc), .val (.int (1 : Int32)), .val (.int (1 : Int32))] [(.int (1 : Int32)), (.ref vb)])) _
    refine XS.aloadN X45.here hx rfl (hb hby dAO_24) rfl rfl ?_
    show Steps _ _ _ (T45.setTop (mkF m 25 #[.val (.ref th), .val (.ref vb), .val (.ref cc), .val (.int (1 : Int32)), .val (.int (1 : Int32))] [(.ref th), (.int (1 : Int32)), (.ref vb)])) _
    refine st46 _ ?_
    refine XS.imul X46.here hx rfl (hb hby dAO_28) rfl ?_
    refine XS.iload X46.here hx rfl (hb hby dAO_29) rfl ?_
    refine XS.iadd X46.here hx rfl (hb hby dAO_31) rfl ?_
    show Steps _ _ _ (T46.setTop (mkF m 32 #[.val (.ref th), .val (.ref vb), .val (.ref cc), .val (.int (1 : Int32)), .val (.int (1 : Int32))] [(.int (4 : Int32)), (.ref vb)])) _
    jvm_step X46.here [X46.here.top, hx, (hb hby dAO_32), Value.category]
    show Steps _ _ _ (T46.setTop (mkF m 33 #[.val (.ref th), .val (.ref vb), .val (.ref cc), .val (.int (1 : Int32)), .val (.int (1 : Int32))] [(.int (4 : Int32)), (.ref vb), (.int (4 : Int32)), (.ref vb)])) _
    refine X46.daload hx (j := (4 : Int32)) (v := (.double (FP.l2d m4))) (by rw [e46]; exact Ar47.1) (State.isArrayOf_alike hZ.alike Ar47.2.1) Ar47.2.2 hin47 hat47 (g := (mkF m 33 #[.val (.ref th), .val (.ref vb), .val (.ref cc), .val (.int (1 : Int32)), .val (.int (1 : Int32))] [(.int (4 : Int32)), (.ref vb), (.int (4 : Int32)), (.ref vb)])) rfl rfl (hb hby dAO_33) _ ?_
    refine XS.aloadN X46.here hx rfl (hb hby dAO_34) rfl rfl ?_
    refine XS.iloadN X46.here hx rfl (hb hby dAO_35) rfl ?_
    show Steps _ _ _ (T46.setTop (mkF m 36 #[.val (.ref th), .val (.ref vb), .val (.ref cc), .val (.int (1 : Int32)), .val (.int (1 : Int32))] [(.int (1 : Int32)), (.ref cc), (.double (FP.l2d m4)), (.int (4 : Int32)), (.ref vb)])) _
    refine X46.daload hx (j := (1 : Int32)) (v := (.double (FP.l2d x1))) (by rw [e46]; exact Ar48.1) (State.isArrayOf_alike hZ.alike Ar48.2.1) Ar48.2.2 hin48 hat48 (g := (mkF m 36 #[.val (.ref th), .val (.ref vb), .val (.ref cc), .val (.int (1 : Int32)), .val (.int (1 : Int32))] [(.int (1 : Int32)), (.ref cc), (.double (FP.l2d m4)), (.int (4 : Int32)), (.ref vb)])) rfl rfl (hb hby dAO_36) _ ?_
    refine XS.aloadN X46.here hx rfl (hb hby dAO_37) rfl rfl ?_
    refine XS.iload X46.here hx rfl (hb hby dAO_38) rfl ?_
    show Steps _ _ _ (T46.setTop (mkF m 40 #[.val (.ref th), .val (.ref vb), .val (.ref cc), .val (.int (1 : Int32)), .val (.int (1 : Int32))] [(.int (1 : Int32)), (.ref cc), (.double (FP.l2d x1)), (.double (FP.l2d m4)), (.int (4 : Int32)), (.ref vb)])) _
    refine X46.daload hx (j := (1 : Int32)) (v := (.double (FP.l2d x1))) (by rw [e46]; exact Ar50.1) (State.isArrayOf_alike hZ.alike Ar50.2.1) Ar50.2.2 hin50 hat50 (g := (mkF m 40 #[.val (.ref th), .val (.ref vb), .val (.ref cc), .val (.int (1 : Int32)), .val (.int (1 : Int32))] [(.int (1 : Int32)), (.ref cc), (.double (FP.l2d x1)), (.double (FP.l2d m4)), (.int (4 : Int32)), (.ref vb)])) rfl rfl (hb hby dAO_40) _ ?_
    refine XS.dmulS X46.here hx rfl (hb hby dAO_41) rfl (v := (FP.dmul (FP.l2d x1) (FP.l2d x1))) (own_mulNN _ _) rfl ?_
    refine XS.daddS X46.here hx rfl (hb hby dAO_42) rfl (v := (FP.l2d (m4 + x1 * x1))) (nn_w Bq51.1) Bq51.1 ?_
    show Steps _ _ _ (T46.setTop (mkF m 43 #[.val (.ref th), .val (.ref vb), .val (.ref cc), .val (.int (1 : Int32)), .val (.int (1 : Int32))] [(.double (FP.l2d (m4 + x1 * x1))), (.int (4 : Int32)), (.ref vb)])) _
    refine st53 _ ?_
    refine XS.iinc X53.here hx rfl (hb hby dAO_44) rfl (l' := #[.val (.ref th), .val (.ref vb), .val (.ref cc), .val (.int (1 : Int32)), .val (.int (2 : Int32))]) rfl ?_
    refine XS.goto X53.here hx rfl (pc0 := 47) (pc' := 13) rfl (hb hby dAO_47) (by decide) (by decide) ?_
    refine XS.iload X53.here hx rfl (hb hby dAO_13) rfl ?_
    show Steps _ _ _ (T53.setTop (mkF m 15 #[.val (.ref th), .val (.ref vb), .val (.ref cc), .val (.int (1 : Int32)), .val (.int (2 : Int32))] [(.int (2 : Int32))])) _
    refine XS.aloadN X53.here hx rfl (hb hby dAO_15) rfl rfl ?_
    show Steps _ _ _ (T53.setTop (mkF m 16 #[.val (.ref th), .val (.ref vb), .val (.ref cc), .val (.int (1 : Int32)), .val (.int (2 : Int32))] [(.ref th), (.int (2 : Int32))])) _
    refine st55 _ ?_
    refine XS.icmpNo X55.here hx rfl (hb hby dAO_19) rfl (by decide) ?_
    refine XS.aloadN X55.here hx rfl (hb hby dAO_22) rfl rfl ?_
    refine XS.iloadN X55.here hx rfl (hb hby dAO_23) rfl ?_
    show Steps _ _ _ (T55.setTop (mkF m 24 #[.val (.ref th), .val (.ref vb), .val (.ref cc), .val (.int (1 : Int32)), .val (.int (2 : Int32))] [(.int (1 : Int32)), (.ref vb)])) _
    refine XS.aloadN X55.here hx rfl (hb hby dAO_24) rfl rfl ?_
    show Steps _ _ _ (T55.setTop (mkF m 25 #[.val (.ref th), .val (.ref vb), .val (.ref cc), .val (.int (1 : Int32)), .val (.int (2 : Int32))] [(.ref th), (.int (1 : Int32)), (.ref vb)])) _
    refine st56 _ ?_
    refine XS.imul X56.here hx rfl (hb hby dAO_28) rfl ?_
    refine XS.iload X56.here hx rfl (hb hby dAO_29) rfl ?_
    refine XS.iadd X56.here hx rfl (hb hby dAO_31) rfl ?_
    show Steps _ _ _ (T56.setTop (mkF m 32 #[.val (.ref th), .val (.ref vb), .val (.ref cc), .val (.int (1 : Int32)), .val (.int (2 : Int32))] [(.int (5 : Int32)), (.ref vb)])) _
    jvm_step X56.here [X56.here.top, hx, (hb hby dAO_32), Value.category]
    show Steps _ _ _ (T56.setTop (mkF m 33 #[.val (.ref th), .val (.ref vb), .val (.ref cc), .val (.int (1 : Int32)), .val (.int (2 : Int32))] [(.int (5 : Int32)), (.ref vb), (.int (5 : Int32)), (.ref vb)])) _
    refine X56.daload hx (j := (5 : Int32)) (v := (.double (FP.l2d m5))) (by rw [e56]; exact Ar57.1) (State.isArrayOf_alike hZ.alike Ar57.2.1) Ar57.2.2 hin57 hat57 (g := (mkF m 33 #[.val (.ref th), .val (.ref vb), .val (.ref cc), .val (.int (1 : Int32)), .val (.int (2 : Int32))] [(.int (5 : Int32)), (.ref vb), (.int (5 : Int32)), (.ref vb)])) rfl rfl (hb hby dAO_33) _ ?_
    refine XS.aloadN X56.here hx rfl (hb hby dAO_34) rfl rfl ?_
    refine XS.iloadN X56.here hx rfl (hb hby dAO_35) rfl ?_
    show Steps _ _ _ (T56.setTop (mkF m 36 #[.val (.ref th), .val (.ref vb), .val (.ref cc), .val (.int (1 : Int32)), .val (.int (2 : Int32))] [(.int (1 : Int32)), (.ref cc), (.double (FP.l2d m5)), (.int (5 : Int32)), (.ref vb)])) _
    refine X56.daload hx (j := (1 : Int32)) (v := (.double (FP.l2d x1))) (by rw [e56]; exact Ar58.1) (State.isArrayOf_alike hZ.alike Ar58.2.1) Ar58.2.2 hin58 hat58 (g := (mkF m 36 #[.val (.ref th), .val (.ref vb), .val (.ref cc), .val (.int (1 : Int32)), .val (.int (2 : Int32))] [(.int (1 : Int32)), (.ref cc), (.double (FP.l2d m5)), (.int (5 : Int32)), (.ref vb)])) rfl rfl (hb hby dAO_36) _ ?_
    refine XS.aloadN X56.here hx rfl (hb hby dAO_37) rfl rfl ?_
    refine XS.iload X56.here hx rfl (hb hby dAO_38) rfl ?_
    show Steps _ _ _ (T56.setTop (mkF m 40 #[.val (.ref th), .val (.ref vb), .val (.ref cc), .val (.int (1 : Int32)), .val (.int (2 : Int32))] [(.int (2 : Int32)), (.ref cc), (.double (FP.l2d x1)), (.double (FP.l2d m5)), (.int (5 : Int32)), (.ref vb)])) _
    refine X56.daload hx (j := (2 : Int32)) (v := (.double (FP.l2d x2))) (by rw [e56]; exact Ar60.1) (State.isArrayOf_alike hZ.alike Ar60.2.1) Ar60.2.2 hin60 hat60 (g := (mkF m 40 #[.val (.ref th), .val (.ref vb), .val (.ref cc), .val (.int (1 : Int32)), .val (.int (2 : Int32))] [(.int (2 : Int32)), (.ref cc), (.double (FP.l2d x1)), (.double (FP.l2d m5)), (.int (5 : Int32)), (.ref vb)])) rfl rfl (hb hby dAO_40) _ ?_
    refine XS.dmulS X56.here hx rfl (hb hby dAO_41) rfl (v := (FP.dmul (FP.l2d x1) (FP.l2d x2))) (own_mulNN _ _) rfl ?_
    refine XS.daddS X56.here hx rfl (hb hby dAO_42) rfl (v := (FP.l2d (m5 + x1 * x2))) (nn_w Bq61.1) Bq61.1 ?_
    show Steps _ _ _ (T56.setTop (mkF m 43 #[.val (.ref th), .val (.ref vb), .val (.ref cc), .val (.int (1 : Int32)), .val (.int (2 : Int32))] [(.double (FP.l2d (m5 + x1 * x2))), (.int (5 : Int32)), (.ref vb)])) _
    refine st63 _ ?_
    refine XS.iinc X63.here hx rfl (hb hby dAO_44) rfl (l' := #[.val (.ref th), .val (.ref vb), .val (.ref cc), .val (.int (1 : Int32)), .val (.int (3 : Int32))]) rfl ?_
    refine XS.goto X63.here hx rfl (pc0 := 47) (pc' := 13) rfl (hb hby dAO_47) (by decide) (by decide) ?_
    refine XS.iload X63.here hx rfl (hb hby dAO_13) rfl ?_
    show Steps _ _ _ (T63.setTop (mkF m 15 #[.val (.ref th), .val (.ref vb), .val (.ref cc), .val (.int (1 : Int32)), .val (.int (3 : Int32))] [(.int (3 : Int32))])) _
    refine XS.aloadN X63.here hx rfl (hb hby dAO_15) rfl rfl ?_
    show Steps _ _ _ (T63.setTop (mkF m 16 #[.val (.ref th), .val (.ref vb), .val (.ref cc), .val (.int (1 : Int32)), .val (.int (3 : Int32))] [(.ref th), (.int (3 : Int32))])) _
    refine st65 _ ?_
    refine XS.icmpYes X65.here hx rfl (pc0 := 19) (pc' := 50) rfl (hb hby dAO_19) rfl (by decide) (by decide) (by decide) ?_
    refine XS.iinc X65.here hx rfl (hb hby dAO_50) rfl (l' := #[.val (.ref th), .val (.ref vb), .val (.ref cc), .val (.int (2 : Int32)), .val (.int (3 : Int32))]) rfl ?_
    refine XS.goto X65.here hx rfl (pc0 := 53) (pc' := 2) rfl (hb hby dAO_53) (by decide) (by decide) ?_
    show Steps _ _ _ (T65.setTop (mkF m 2 #[.val (.ref th), .val (.ref vb), .val (.ref cc), .val (.int (2 : Int32)), .val (.int (3 : Int32))] [])) _
    refine XS.iloadN X65.here hx rfl (hb hby dAO_2) rfl ?_
    refine XS.aloadN X65.here hx rfl (hb hby dAO_3) rfl rfl ?_
    show Steps _ _ _ (T65.setTop (mkF m 4 #[.val (.ref th), .val (.ref vb), .val (.ref cc), .val (.int (2 : Int32)), .val (.int (3 : Int32))] [(.ref th), (.int (2 : Int32))])) _
    refine st66 _ ?_
    refine XS.icmpNo X66.here hx rfl (hb hby dAO_7) rfl (by decide) ?_
    refine XS.iconst X66.here hx rfl (hb hby dAO_10) ?_
    refine XS.istore X66.here hx rfl (hb hby dAO_11) rfl (l' := #[.val (.ref th), .val (.ref vb), .val (.ref cc), .val (.int (2 : Int32)), .val (.int (0 : Int32))]) rfl ?_
    show Steps _ _ _ (T66.setTop (mkF m 13 #[.val (.ref th), .val (.ref vb), .val (.ref cc), .val (.int (2 : Int32)), .val (.int (0 : Int32))] [])) _
    refine XS.iload X66.here hx rfl (hb hby dAO_13) rfl ?_
    refine XS.aloadN X66.here hx rfl (hb hby dAO_15) rfl rfl ?_
    show Steps _ _ _ (T66.setTop (mkF m 16 #[.val (.ref th), .val (.ref vb), .val (.ref cc), .val (.int (2 : Int32)), .val (.int (0 : Int32))] [(.ref th), (.int (0 : Int32))])) _
    refine st67 _ ?_
    refine XS.icmpNo X67.here hx rfl (hb hby dAO_19) rfl (by decide) ?_
    refine XS.aloadN X67.here hx rfl (hb hby dAO_22) rfl rfl ?_
    refine XS.iloadN X67.here hx rfl (hb hby dAO_23) rfl ?_
    show Steps _ _ _ (T67.setTop (mkF m 24 #[.val (.ref th), .val (.ref vb), .val (.ref cc), .val (.int (2 : Int32)), .val (.int (0 : Int32))] [(.int (2 : Int32)), (.ref vb)])) _
    refine XS.aloadN X67.here hx rfl (hb hby dAO_24) rfl rfl ?_
    show Steps _ _ _ (T67.setTop (mkF m 25 #[.val (.ref th), .val (.ref vb), .val (.ref cc), .val (.int (2 : Int32)), .val (.int (0 : Int32))] [(.ref th), (.int (2 : Int32)), (.ref vb)])) _
    refine st68 _ ?_
    refine XS.imul X68.here hx rfl (hb hby dAO_28) rfl ?_
    refine XS.iload X68.here hx rfl (hb hby dAO_29) rfl ?_
    refine XS.iadd X68.here hx rfl (hb hby dAO_31) rfl ?_
    show Steps _ _ _ (T68.setTop (mkF m 32 #[.val (.ref th), .val (.ref vb), .val (.ref cc), .val (.int (2 : Int32)), .val (.int (0 : Int32))] [(.int (6 : Int32)), (.ref vb)])) _
    jvm_step X68.here [X68.here.top, hx, (hb hby dAO_32), Value.category]
    show Steps _ _ _ (T68.setTop (mkF m 33 #[.val (.ref th), .val (.ref vb), .val (.ref cc), .val (.int (2 : Int32)), .val (.int (0 : Int32))] [(.int (6 : Int32)), (.ref vb), (.int (6 : Int32)), (.ref vb)])) _
    refine X68.daload hx (j := (6 : Int32)) (v := (.double (FP.l2d m6))) (by rw [e68]; exact Ar69.1) (State.isArrayOf_alike hZ.alike Ar69.2.1) Ar69.2.2 hin69 hat69 (g := (mkF m 33 #[.val (.ref th), .val (.ref vb), .val (.ref cc), .val (.int (2 : Int32)), .val (.int (0 : Int32))] [(.int (6 : Int32)), (.ref vb), (.int (6 : Int32)), (.ref vb)])) rfl rfl (hb hby dAO_33) _ ?_
    refine XS.aloadN X68.here hx rfl (hb hby dAO_34) rfl rfl ?_
    refine XS.iloadN X68.here hx rfl (hb hby dAO_35) rfl ?_
    show Steps _ _ _ (T68.setTop (mkF m 36 #[.val (.ref th), .val (.ref vb), .val (.ref cc), .val (.int (2 : Int32)), .val (.int (0 : Int32))] [(.int (2 : Int32)), (.ref cc), (.double (FP.l2d m6)), (.int (6 : Int32)), (.ref vb)])) _
    refine X68.daload hx (j := (2 : Int32)) (v := (.double (FP.l2d x2))) (by rw [e68]; exact Ar70.1) (State.isArrayOf_alike hZ.alike Ar70.2.1) Ar70.2.2 hin70 hat70 (g := (mkF m 36 #[.val (.ref th), .val (.ref vb), .val (.ref cc), .val (.int (2 : Int32)), .val (.int (0 : Int32))] [(.int (2 : Int32)), (.ref cc), (.double (FP.l2d m6)), (.int (6 : Int32)), (.ref vb)])) rfl rfl (hb hby dAO_36) _ ?_
    refine XS.aloadN X68.here hx rfl (hb hby dAO_37) rfl rfl ?_
    refine XS.iload X68.here hx rfl (hb hby dAO_38) rfl ?_
    show Steps _ _ _ (T68.setTop (mkF m 40 #[.val (.ref th), .val (.ref vb), .val (.ref cc), .val (.int (2 : Int32)), .val (.int (0 : Int32))] [(.int (0 : Int32)), (.ref cc), (.double (FP.l2d x2)), (.double (FP.l2d m6)), (.int (6 : Int32)), (.ref vb)])) _
    refine X68.daload hx (j := (0 : Int32)) (v := (.double (FP.l2d x0))) (by rw [e68]; exact Ar72.1) (State.isArrayOf_alike hZ.alike Ar72.2.1) Ar72.2.2 hin72 hat72 (g := (mkF m 40 #[.val (.ref th), .val (.ref vb), .val (.ref cc), .val (.int (2 : Int32)), .val (.int (0 : Int32))] [(.int (0 : Int32)), (.ref cc), (.double (FP.l2d x2)), (.double (FP.l2d m6)), (.int (6 : Int32)), (.ref vb)])) rfl rfl (hb hby dAO_40) _ ?_
    refine XS.dmulS X68.here hx rfl (hb hby dAO_41) rfl (v := (FP.dmul (FP.l2d x2) (FP.l2d x0))) (own_mulNN _ _) rfl ?_
    refine XS.daddS X68.here hx rfl (hb hby dAO_42) rfl (v := (FP.l2d (m6 + x2 * x0))) (nn_w Bq73.1) Bq73.1 ?_
    show Steps _ _ _ (T68.setTop (mkF m 43 #[.val (.ref th), .val (.ref vb), .val (.ref cc), .val (.int (2 : Int32)), .val (.int (0 : Int32))] [(.double (FP.l2d (m6 + x2 * x0))), (.int (6 : Int32)), (.ref vb)])) _
    refine st75 _ ?_
    refine XS.iinc X75.here hx rfl (hb hby dAO_44) rfl (l' := #[.val (.ref th), .val (.ref vb), .val (.ref cc), .val (.int (2 : Int32)), .val (.int (1 : Int32))]) rfl ?_
    refine XS.goto X75.here hx rfl (pc0 := 47) (pc' := 13) rfl (hb hby dAO_47) (by decide) (by decide) ?_
    refine XS.iload X75.here hx rfl (hb hby dAO_13) rfl ?_
    show Steps _ _ _ (T75.setTop (mkF m 15 #[.val (.ref th), .val (.ref vb), .val (.ref cc), .val (.int (2 : Int32)), .val (.int (1 : Int32))] [(.int (1 : Int32))])) _
    refine XS.aloadN X75.here hx rfl (hb hby dAO_15) rfl rfl ?_
    show Steps _ _ _ (T75.setTop (mkF m 16 #[.val (.ref th), .val (.ref vb), .val (.ref cc), .val (.int (2 : Int32)), .val (.int (1 : Int32))] [(.ref th), (.int (1 : Int32))])) _
    refine st77 _ ?_
    refine XS.icmpNo X77.here hx rfl (hb hby dAO_19) rfl (by decide) ?_
    refine XS.aloadN X77.here hx rfl (hb hby dAO_22) rfl rfl ?_
    refine XS.iloadN X77.here hx rfl (hb hby dAO_23) rfl ?_
    show Steps _ _ _ (T77.setTop (mkF m 24 #[.val (.ref th), .val (.ref vb), .val (.ref cc), .val (.int (2 : Int32)), .val (.int (1 : Int32))] [(.int (2 : Int32)), (.ref vb)])) _
    refine XS.aloadN X77.here hx rfl (hb hby dAO_24) rfl rfl ?_
    show Steps _ _ _ (T77.setTop (mkF m 25 #[.val (.ref th), .val (.ref vb), .val (.ref cc), .val (.int (2 : Int32)), .val (.int (1 : Int32))] [(.ref th), (.int (2 : Int32)), (.ref vb)])) _
    refine st78 _ ?_
    refine XS.imul X78.here hx rfl (hb hby dAO_28) rfl ?_
    refine XS.iload X78.here hx rfl (hb hby dAO_29) rfl ?_
    refine XS.iadd X78.here hx rfl (hb hby dAO_31) rfl ?_
    show Steps _ _ _ (T78.setTop (mkF m 32 #[.val (.ref th), .val (.ref vb), .val (.ref cc), .val (.int (2 : Int32)), .val (.int (1 : Int32))] [(.int (7 : Int32)), (.ref vb)])) _
    jvm_step X78.here [X78.here.top, hx, (hb hby dAO_32), Value.category]
    show Steps _ _ _ (T78.setTop (mkF m 33 #[.val (.ref th), .val (.ref vb), .val (.ref cc), .val (.int (2 : Int32)), .val (.int (1 : Int32))] [(.int (7 : Int32)), (.ref vb), (.int (7 : Int32)), (.ref vb)])) _
    refine X78.daload hx (j := (7 : Int32)) (v := (.double (FP.l2d m7))) (by rw [e78]; exact Ar79.1) (State.isArrayOf_alike hZ.alike Ar79.2.1) Ar79.2.2 hin79 hat79 (g := (mkF m 33 #[.val (.ref th), .val (.ref vb), .val (.ref cc), .val (.int (2 : Int32)), .val (.int (1 : Int32))] [(.int (7 : Int32)), (.ref vb), (.int (7 : Int32)), (.ref vb)])) rfl rfl (hb hby dAO_33) _ ?_
    refine XS.aloadN X78.here hx rfl (hb hby dAO_34) rfl rfl ?_
    refine XS.iloadN X78.here hx rfl (hb hby dAO_35) rfl ?_
    show Steps _ _ _ (T78.setTop (mkF m 36 #[.val (.ref th), .val (.ref vb), .val (.ref cc), .val (.int (2 : Int32)), .val (.int (1 : Int32))] [(.int (2 : Int32)), (.ref cc), (.double (FP.l2d m7)), (.int (7 : Int32)), (.ref vb)])) _
    refine X78.daload hx (j := (2 : Int32)) (v := (.double (FP.l2d x2))) (by rw [e78]; exact Ar80.1) (State.isArrayOf_alike hZ.alike Ar80.2.1) Ar80.2.2 hin80 hat80 (g := (mkF m 36 #[.val (.ref th), .val (.ref vb), .val (.ref cc), .val (.int (2 : Int32)), .val (.int (1 : Int32))] [(.int (2 : Int32)), (.ref cc), (.double (FP.l2d m7)), (.int (7 : Int32)), (.ref vb)])) rfl rfl (hb hby dAO_36) _ ?_
    refine XS.aloadN X78.here hx rfl (hb hby dAO_37) rfl rfl ?_
    refine XS.iload X78.here hx rfl (hb hby dAO_38) rfl ?_
    show Steps _ _ _ (T78.setTop (mkF m 40 #[.val (.ref th), .val (.ref vb), .val (.ref cc), .val (.int (2 : Int32)), .val (.int (1 : Int32))] [(.int (1 : Int32)), (.ref cc), (.double (FP.l2d x2)), (.double (FP.l2d m7)), (.int (7 : Int32)), (.ref vb)])) _
    refine X78.daload hx (j := (1 : Int32)) (v := (.double (FP.l2d x1))) (by rw [e78]; exact Ar82.1) (State.isArrayOf_alike hZ.alike Ar82.2.1) Ar82.2.2 hin82 hat82 (g := (mkF m 40 #[.val (.ref th), .val (.ref vb), .val (.ref cc), .val (.int (2 : Int32)), .val (.int (1 : Int32))] [(.int (1 : Int32)), (.ref cc), (.double (FP.l2d x2)), (.double (FP.l2d m7)), (.int (7 : Int32)), (.ref vb)])) rfl rfl (hb hby dAO_40) _ ?_
    refine XS.dmulS X78.here hx rfl (hb hby dAO_41) rfl (v := (FP.dmul (FP.l2d x2) (FP.l2d x1))) (own_mulNN _ _) rfl ?_
    refine XS.daddS X78.here hx rfl (hb hby dAO_42) rfl (v := (FP.l2d (m7 + x2 * x1))) (nn_w Bq83.1) Bq83.1 ?_
    show Steps _ _ _ (T78.setTop (mkF m 43 #[.val (.ref th), .val (.ref vb), .val (.ref cc), .val (.int (2 : Int32)), .val (.int (1 : Int32))] [(.double (FP.l2d (m7 + x2 * x1))), (.int (7 : Int32)), (.ref vb)])) _
    refine st85 _ ?_
    refine XS.iinc X85.here hx rfl (hb hby dAO_44) rfl (l' := #[.val (.ref th), .val (.ref vb), .val (.ref cc), .val (.int (2 : Int32)), .val (.int (2 : Int32))]) rfl ?_
    refine XS.goto X85.here hx rfl (pc0 := 47) (pc' := 13) rfl (hb hby dAO_47) (by decide) (by decide) ?_
    refine XS.iload X85.here hx rfl (hb hby dAO_13) rfl ?_
    show Steps _ _ _ (T85.setTop (mkF m 15 #[.val (.ref th), .val (.ref vb), .val (.ref cc), .val (.int (2 : Int32)), .val (.int (2 : Int32))] [(.int (2 : Int32))])) _
    refine XS.aloadN X85.here hx rfl (hb hby dAO_15) rfl rfl ?_
    show Steps _ _ _ (T85.setTop (mkF m 16 #[.val (.ref th), .val (.ref vb), .val (.ref cc), .val (.int (2 : Int32)), .val (.int (2 : Int32))] [(.ref th), (.int (2 : Int32))])) _
    refine st87 _ ?_
    refine XS.icmpNo X87.here hx rfl (hb hby dAO_19) rfl (by decide) ?_
    refine XS.aloadN X87.here hx rfl (hb hby dAO_22) rfl rfl ?_
    refine XS.iloadN X87.here hx rfl (hb hby dAO_23) rfl ?_
    show Steps _ _ _ (T87.setTop (mkF m 24 #[.val (.ref th), .val (.ref vb), .val (.ref cc), .val (.int (2 : Int32)), .val (.int (2 : Int32))] [(.int (2 : Int32)), (.ref vb)])) _
    refine XS.aloadN X87.here hx rfl (hb hby dAO_24) rfl rfl ?_
    show Steps _ _ _ (T87.setTop (mkF m 25 #[.val (.ref th), .val (.ref vb), .val (.ref cc), .val (.int (2 : Int32)), .val (.int (2 : Int32))] [(.ref th), (.int (2 : Int32)), (.ref vb)])) _
    refine st88 _ ?_
    refine XS.imul X88.here hx rfl (hb hby dAO_28) rfl ?_
    refine XS.iload X88.here hx rfl (hb hby dAO_29) rfl ?_
    refine XS.iadd X88.here hx rfl (hb hby dAO_31) rfl ?_
    show Steps _ _ _ (T88.setTop (mkF m 32 #[.val (.ref th), .val (.ref vb), .val (.ref cc), .val (.int (2 : Int32)), .val (.int (2 : Int32))] [(.int (8 : Int32)), (.ref vb)])) _
    jvm_step X88.here [X88.here.top, hx, (hb hby dAO_32), Value.category]
    show Steps _ _ _ (T88.setTop (mkF m 33 #[.val (.ref th), .val (.ref vb), .val (.ref cc), .val (.int (2 : Int32)), .val (.int (2 : Int32))] [(.int (8 : Int32)), (.ref vb), (.int (8 : Int32)), (.ref vb)])) _
    refine X88.daload hx (j := (8 : Int32)) (v := (.double (FP.l2d m8))) (by rw [e88]; exact Ar89.1) (State.isArrayOf_alike hZ.alike Ar89.2.1) Ar89.2.2 hin89 hat89 (g := (mkF m 33 #[.val (.ref th), .val (.ref vb), .val (.ref cc), .val (.int (2 : Int32)), .val (.int (2 : Int32))] [(.int (8 : Int32)), (.ref vb), (.int (8 : Int32)), (.ref vb)])) rfl rfl (hb hby dAO_33) _ ?_
    refine XS.aloadN X88.here hx rfl (hb hby dAO_34) rfl rfl ?_
    refine XS.iloadN X88.here hx rfl (hb hby dAO_35) rfl ?_
    show Steps _ _ _ (T88.setTop (mkF m 36 #[.val (.ref th), .val (.ref vb), .val (.ref cc), .val (.int (2 : Int32)), .val (.int (2 : Int32))] [(.int (2 : Int32)), (.ref cc), (.double (FP.l2d m8)), (.int (8 : Int32)), (.ref vb)])) _
    refine X88.daload hx (j := (2 : Int32)) (v := (.double (FP.l2d x2))) (by rw [e88]; exact Ar90.1) (State.isArrayOf_alike hZ.alike Ar90.2.1) Ar90.2.2 hin90 hat90 (g := (mkF m 36 #[.val (.ref th), .val (.ref vb), .val (.ref cc), .val (.int (2 : Int32)), .val (.int (2 : Int32))] [(.int (2 : Int32)), (.ref cc), (.double (FP.l2d m8)), (.int (8 : Int32)), (.ref vb)])) rfl rfl (hb hby dAO_36) _ ?_
    refine XS.aloadN X88.here hx rfl (hb hby dAO_37) rfl rfl ?_
    refine XS.iload X88.here hx rfl (hb hby dAO_38) rfl ?_
    show Steps _ _ _ (T88.setTop (mkF m 40 #[.val (.ref th), .val (.ref vb), .val (.ref cc), .val (.int (2 : Int32)), .val (.int (2 : Int32))] [(.int (2 : Int32)), (.ref cc), (.double (FP.l2d x2)), (.double (FP.l2d m8)), (.int (8 : Int32)), (.ref vb)])) _
    refine X88.daload hx (j := (2 : Int32)) (v := (.double (FP.l2d x2))) (by rw [e88]; exact Ar92.1) (State.isArrayOf_alike hZ.alike Ar92.2.1) Ar92.2.2 hin92 hat92 (g := (mkF m 40 #[.val (.ref th), .val (.ref vb), .val (.ref cc), .val (.int (2 : Int32)), .val (.int (2 : Int32))] [(.int (2 : Int32)), (.ref cc), (.double (FP.l2d x2)), (.double (FP.l2d m8)), (.int (8 : Int32)), (.ref vb)])) rfl rfl (hb hby dAO_40) _ ?_
    refine XS.dmulS X88.here hx rfl (hb hby dAO_41) rfl (v := (FP.dmul (FP.l2d x2) (FP.l2d x2))) (own_mulNN _ _) rfl ?_
    refine XS.daddS X88.here hx rfl (hb hby dAO_42) rfl (v := (FP.l2d (m8 + x2 * x2))) (nn_w Bq93.1) Bq93.1 ?_
    show Steps _ _ _ (T88.setTop (mkF m 43 #[.val (.ref th), .val (.ref vb), .val (.ref cc), .val (.int (2 : Int32)), .val (.int (2 : Int32))] [(.double (FP.l2d (m8 + x2 * x2))), (.int (8 : Int32)), (.ref vb)])) _
    refine st95 _ ?_
    refine XS.iinc X95.here hx rfl (hb hby dAO_44) rfl (l' := #[.val (.ref th), .val (.ref vb), .val (.ref cc), .val (.int (2 : Int32)), .val (.int (3 : Int32))]) rfl ?_
    refine XS.goto X95.here hx rfl (pc0 := 47) (pc' := 13) rfl (hb hby dAO_47) (by decide) (by decide) ?_
    refine XS.iload X95.here hx rfl (hb hby dAO_13) rfl ?_
    show Steps _ _ _ (T95.setTop (mkF m 15 #[.val (.ref th), .val (.ref vb), .val (.ref cc), .val (.int (2 : Int32)), .val (.int (3 : Int32))] [(.int (3 : Int32))])) _
    refine XS.aloadN X95.here hx rfl (hb hby dAO_15) rfl rfl ?_
    show Steps _ _ _ (T95.setTop (mkF m 16 #[.val (.ref th), .val (.ref vb), .val (.ref cc), .val (.int (2 : Int32)), .val (.int (3 : Int32))] [(.ref th), (.int (3 : Int32))])) _
    refine st97 _ ?_
    refine XS.icmpYes X97.here hx rfl (pc0 := 19) (pc' := 50) rfl (hb hby dAO_19) rfl (by decide) (by decide) (by decide) ?_
    refine XS.iinc X97.here hx rfl (hb hby dAO_50) rfl (l' := #[.val (.ref th), .val (.ref vb), .val (.ref cc), .val (.int (3 : Int32)), .val (.int (3 : Int32))]) rfl ?_
    refine XS.goto X97.here hx rfl (pc0 := 53) (pc' := 2) rfl (hb hby dAO_53) (by decide) (by decide) ?_
    show Steps _ _ _ (T97.setTop (mkF m 2 #[.val (.ref th), .val (.ref vb), .val (.ref cc), .val (.int (3 : Int32)), .val (.int (3 : Int32))] [])) _
    refine XS.iloadN X97.here hx rfl (hb hby dAO_2) rfl ?_
    refine XS.aloadN X97.here hx rfl (hb hby dAO_3) rfl rfl ?_
    show Steps _ _ _ (T97.setTop (mkF m 4 #[.val (.ref th), .val (.ref vb), .val (.ref cc), .val (.int (3 : Int32)), .val (.int (3 : Int32))] [(.ref th), (.int (3 : Int32))])) _
    refine st98 _ ?_
    refine XS.icmpYes X98.here hx rfl (pc0 := 7) (pc' := 56) rfl (hb hby dAO_7) rfl (by decide) (by decide) (by decide) ?_
    show Steps _ _ _ (T98.setTop (mkF m 56 #[.val (.ref th), .val (.ref vb), .val (.ref cc), .val (.int (3 : Int32)), .val (.int (3 : Int32))] [])) _
    exact X98.returnOut hx Bd.returns (hb hby dAO_56) hr
  · show QAO Z th vb cc kb kc m0 m1 m2 m3 m4 m5 m6 m7 m8 x0 x1 x2 h0 n0 _ T98.heap _
    rw [e98]
    exact ⟨rfl, N95F, K95, V95⟩
def own_along (m0 m1 m2 m3 m4 m5 m6 m7 m8 x0 x1 x2 : Int64) : Int64 := (((0 + x0 * (((0 + m0 * x0) + m1 * x1) + m2 * x2)) + x1 * (((0 + m3 * x0) + m4 * x1) + m5 * x2)) + x2 * (((0 + m6 * x0) + m7 * x1) + m8 * x2))
theorem dAL_0 : decode prog_22_method_5_code 0 = .ok (.aload_n 0, 1) := by decide +kernel
theorem dAL_1 : decode prog_22_method_5_code 1 = .ok (.aload_n 1, 1) := by decide +kernel
theorem dAL_2 : decode prog_22_method_5_code 2 = .ok (.invokevirtual 32, 3) := by decide +kernel
theorem pd_1 : parseMethodDescriptor "([D)V" = some ⟨[(.array .double)], none⟩ := by decide +kernel
theorem dAL_5 : decode prog_22_method_5_code 5 = .ok (.dconst 0, 1) := by decide +kernel
theorem dAL_6 : decode prog_22_method_5_code 6 = .ok (.dstore_n 2, 1) := by decide +kernel
theorem dAL_7 : decode prog_22_method_5_code 7 = .ok (.iconst 0, 1) := by decide +kernel
theorem dAL_8 : decode prog_22_method_5_code 8 = .ok (.istore 4, 2) := by decide +kernel
theorem dAL_10 : decode prog_22_method_5_code 10 = .ok (.iload 4, 2) := by decide +kernel
theorem dAL_12 : decode prog_22_method_5_code 12 = .ok (.aload_n 0, 1) := by decide +kernel
theorem dAL_13 : decode prog_22_method_5_code 13 = .ok (.getfield 16, 3) := by decide +kernel
theorem dAL_16 : decode prog_22_method_5_code 16 = .ok (.if_icmp .ge 65, 3) := by decide +kernel
theorem dAL_19 : decode prog_22_method_5_code 19 = .ok (.dconst 0, 1) := by decide +kernel
theorem dAL_20 : decode prog_22_method_5_code 20 = .ok (.dstore 5, 2) := by decide +kernel
theorem dAL_22 : decode prog_22_method_5_code 22 = .ok (.iconst 0, 1) := by decide +kernel
theorem dAL_23 : decode prog_22_method_5_code 23 = .ok (.istore 7, 2) := by decide +kernel
theorem dAL_25 : decode prog_22_method_5_code 25 = .ok (.iload 7, 2) := by decide +kernel
theorem dAL_27 : decode prog_22_method_5_code 27 = .ok (.aload_n 0, 1) := by decide +kernel
theorem dAL_28 : decode prog_22_method_5_code 28 = .ok (.getfield 16, 3) := by decide +kernel
theorem dAL_31 : decode prog_22_method_5_code 31 = .ok (.if_icmp .ge 34, 3) := by decide +kernel
theorem dAL_34 : decode prog_22_method_5_code 34 = .ok (.dload 5, 2) := by decide +kernel
theorem dAL_36 : decode prog_22_method_5_code 36 = .ok (.aload_n 0, 1) := by decide +kernel
theorem dAL_37 : decode prog_22_method_5_code 37 = .ok (.getfield 22, 3) := by decide +kernel
theorem dAL_40 : decode prog_22_method_5_code 40 = .ok (.iload 4, 2) := by decide +kernel
theorem dAL_42 : decode prog_22_method_5_code 42 = .ok (.aload_n 0, 1) := by decide +kernel
theorem dAL_43 : decode prog_22_method_5_code 43 = .ok (.getfield 16, 3) := by decide +kernel
theorem dAL_46 : decode prog_22_method_5_code 46 = .ok (.imul, 1) := by decide +kernel
theorem dAL_47 : decode prog_22_method_5_code 47 = .ok (.iload 7, 2) := by decide +kernel
theorem dAL_49 : decode prog_22_method_5_code 49 = .ok (.iadd, 1) := by decide +kernel
theorem dAL_50 : decode prog_22_method_5_code 50 = .ok (.daload, 1) := by decide +kernel
theorem dAL_51 : decode prog_22_method_5_code 51 = .ok (.aload_n 1, 1) := by decide +kernel
theorem dAL_52 : decode prog_22_method_5_code 52 = .ok (.iload 7, 2) := by decide +kernel
theorem dAL_54 : decode prog_22_method_5_code 54 = .ok (.daload, 1) := by decide +kernel
theorem dAL_55 : decode prog_22_method_5_code 55 = .ok (.dmul, 1) := by decide +kernel
theorem dAL_56 : decode prog_22_method_5_code 56 = .ok (.dadd, 1) := by decide +kernel
theorem dAL_57 : decode prog_22_method_5_code 57 = .ok (.dstore 5, 2) := by decide +kernel
theorem dAL_59 : decode prog_22_method_5_code 59 = .ok (.iinc 7 1, 3) := by decide +kernel
theorem dAL_62 : decode prog_22_method_5_code 62 = .ok (.goto (-37), 3) := by decide +kernel
theorem dAL_65 : decode prog_22_method_5_code 65 = .ok (.dload_n 2, 1) := by decide +kernel
theorem dAL_66 : decode prog_22_method_5_code 66 = .ok (.aload_n 1, 1) := by decide +kernel
theorem dAL_67 : decode prog_22_method_5_code 67 = .ok (.iload 4, 2) := by decide +kernel
theorem dAL_69 : decode prog_22_method_5_code 69 = .ok (.daload, 1) := by decide +kernel
theorem dAL_70 : decode prog_22_method_5_code 70 = .ok (.dload 5, 2) := by decide +kernel
theorem dAL_72 : decode prog_22_method_5_code 72 = .ok (.dmul, 1) := by decide +kernel
theorem dAL_73 : decode prog_22_method_5_code 73 = .ok (.dadd, 1) := by decide +kernel
theorem dAL_74 : decode prog_22_method_5_code 74 = .ok (.dstore_n 2, 1) := by decide +kernel
theorem dAL_75 : decode prog_22_method_5_code 75 = .ok (.iinc 4 1, 3) := by decide +kernel
theorem dAL_78 : decode prog_22_method_5_code 78 = .ok (.goto (-68), 3) := by decide +kernel
theorem dAL_81 : decode prog_22_method_5_code 81 = .ok (.dload_n 2, 1) := by decide +kernel
theorem dAL_82 : decode prog_22_method_5_code 82 = .ok (.dreturn, 1) := by decide +kernel
theorem ef_AL (m : MethodId) (x0 : Addr) (x1 : Addr) : entryFrame m #[(.ref x0), (.ref x1)] 8 = mkF m 0 #[.val (.ref x0), .val (.ref x1), .unset, .unset, .unset, .unset, .unset, .unset] [] := by first | (simp [entryFrame, mkF, argsToLocals, Value.category]; done) | rfl
def QAL (Z : State) (th : Addr) (vb : Addr) (sm : Addr) (ks : ClassId) (kb : ClassId) (m0 : Int64) (m1 : Int64) (m2 : Int64) (m3 : Int64) (m4 : Int64) (m5 : Int64) (m6 : Int64) (m7 : Int64) (m8 : Int64) (x0 : Int64) (x1 : Int64) (x2 : Int64) (h0 : Heap) (n0 : Nat) (v : Option Value) (h : Heap) (L : List Loc) : Prop := v = some (.double (FP.l2d (own_along m0 m1 m2 m3 m4 m5 m6 m7 m8 x0 x1 x2))) ∧ Fr n0 L ∧ h = h0 ∧ own_B 39582418599936 (own_along m0 m1 m2 m3 m4 m5 m6 m7 m8 x0 x1 x2)
set_option maxRecDepth 65536 in
set_option maxHeartbeats 40000000 in
theorem rmAL (l : Launch) (Z : State) (a0 : Array Value) (hw : ∀ d ∈ tables_1, d.before a0 Z = true) (ws : List Jvm.Cond) (th : Addr) (vb : Addr) (sm : Addr) (ks : ClassId) (kb : ClassId) (m0 : Int64) (m1 : Int64) (m2 : Int64) (m3 : Int64) (m4 : Int64) (m5 : Int64) (m6 : Int64) (m7 : Int64) (m8 : Int64) (x0 : Int64) (x1 : Int64) (x2 : Int64) (h0 : Heap) (n0 : Nat) (Z0 : n0 ≤ h0.size) (E_a : Exa Z h0 th "com/example/lineament/lineament/math/OuterProductSum") (F_d : Fld Z h0 th "com/example/lineament/lineament/math/OuterProductSum" "d" "I" (.int (3 : Int32))) (F_s : Fld Z h0 th "com/example/lineament/lineament/math/OuterProductSum" "sum" "[D" (.ref sm)) (V_s : Arv Z h0 sm ks .double (9 : Int32) [(.double (FP.l2d m0)), (.double (FP.l2d m1)), (.double (FP.l2d m2)), (.double (FP.l2d m3)), (.double (FP.l2d m4)), (.double (FP.l2d m5)), (.double (FP.l2d m6)), (.double (FP.l2d m7)), (.double (FP.l2d m8))] (.double (FP.l2d 0))) (V_b : Arv Z h0 vb kb .double (3 : Int32) [(.double (FP.l2d x0)), (.double (FP.l2d x1)), (.double (FP.l2d x2))] (.double (FP.l2d 0))) (B_m0 : own_B 16777216 m0) (B_m1 : own_B 16777216 m1) (B_m2 : own_B 16777216 m2) (B_m3 : own_B 16777216 m3) (B_m4 : own_B 16777216 m4) (B_m5 : own_B 16777216 m5) (B_m6 : own_B 16777216 m6) (B_m7 : own_B 16777216 m7) (B_m8 : own_B 16777216 m8) (B_x0 : own_B 512 x0) (B_x1 : own_B 512 x1) (B_x2 : own_B 512 x2) :
    MetFree l (⟨"com/example/lineament/lineament/math/OuterProductSum", "along", "([D)D"⟩ : MethodName) (head1 (Jvm.Cond.code (⟨"com/example/lineament/lineament/math/OuterProductSum", "along", "([D)D"⟩ : MethodName) prog_22_method_5_code 8 (some .double) :: ws) ({ frames := 1, cells := 0, slots := 0, locals := 13 } : Room)) (fun a U => a = #[(.ref th), (.ref vb)] ∧ Z.Warmed39 U.vm ∧ U.heap = h0) (fun _ _ _ _ _ => True) (fun _ U o U' => ∃ v L, o = .returned v ∧ QAL Z th vb sm ks kb m0 m1 m2 m3 m4 m5 m6 m7 m8 x0 x1 x2 h0 n0 v U'.heap L ∧ FrameEnd U o U' L ({ frames := 1, cells := 0, slots := 0, locals := 13 } : Room).cells ({ frames := 1, cells := 0, slots := 0, locals := 13 } : Room).slots) := by
  refine MetFree.of_bodySF (plainFor_of_name pn_com_example_lineament_lineament_math_OuterProductSum) hisR ?_
  intro p e s m args below meth c s₁ Bd hml0 hP hK
  obtain ⟨rfl, hZ, hh⟩ := hP
  have hx := Bd.exec
  have hby := Bd.bytes
  have hml : c.maxLocals = 8 := hml0
  have hown : s.vm.findClass "com/example/lineament/lineament/math/OuterProductSum" = some m.cls := findClass_of_methodNamed Bd.named
  have hnm := (name_of_methodNamed Bd.named Bd.method).1
  have X0 : Stand p l e ({ frames := 1, cells := 0, slots := 0, locals := 13 } : Room) s m #[(.ref th), (.ref vb)] below meth c s₁ [] 0 0 := Stand.of_body Bd
  have e0 : s₁.heap = h0 := by rw [← hh, Bd.state]; rfl
  have N0 := Fr.nil n0
  have K0 : Keep h0 h0 [] := Keep.refl h0 []
  have pre0 : ∀ t, Steps p.tables e below (s₁.setTop (mkF m 0 #[.val (.ref th), .val (.ref vb), .unset, .unset, .unset, .unset, .unset, .unset] [])) t → Steps p.tables e below (s₁.setTop (entryFrame m #[(.ref th), (.ref vb)] 8)) t := fun t k => castTop (ef_AL m th vb) k
  obtain ⟨cq99, q99, q99'⟩ := E_a.cell
  obtain ⟨_, _, ⟨T99, L99, k99, n99⟩, -, X99, ⟨Lc99, hQ99, l99, y99, z99⟩, st99⟩ := X0.privateBack hx (y := (⟨"com/example/lineament/lineament/math/OuterProductSum", "requireLength", "([D)V"⟩ : MethodName)) hown (mvT hZ (hw _ (List.mem_of_getElem? (i := 27) rfl))) (mvT hZ (hw _ (List.mem_of_getElem? (i := 28) rfl))) (own_selP (y := (⟨"com/example/lineament/lineament/math/OuterProductSum", "requireLength", "([D)V"⟩ : MethodName)) (z := (⟨"com/example/lineament/lineament/math/OuterProductSum", "add", "([D)V"⟩ : MethodName)) (mvT hZ (hw _ (List.mem_of_getElem? (i := 25) rfl))) rfl (Cond.privateMethod_at (mvP hZ (hw _ (List.mem_of_getElem? (i := 29) rfl)) (args := #[]))) (mvT hZ (hw _ (List.mem_of_getElem? (i := 28) rfl))) (by decide)) (Cond.privateMethod_at (mvP hZ (hw _ (List.mem_of_getElem? (i := 29) rfl)) (args := #[]))) (mvT hZ (hw _ (List.mem_of_getElem? (i := 30) rfl))) (by decide) (backOf (W := 0) (rmRL l Z a0 hw [] th vb kb x0 x1 x2 h0 n0 (Nat.le_trans Z0 K0.1) F_d V_b) hZ (hw _ (List.mem_of_getElem? (i := 30) rfl)) (hw _ (List.mem_of_getElem? (i := 7) rfl)) (by decide) (by decide)) (g := (mkF m 2 #[.val (.ref th), .val (.ref vb), .unset, .unset, .unset, .unset, .unset, .unset] [(.ref vb), (.ref th)])) rfl (by rw [hml]; rfl) (Steps.refl _) (a := th) (by rw [e0]; exact q99) q99' (argsL := [(.ref vb)]) (rest := []) (lenOf pd_1 rfl) rfl (by show 2 * 0 + _ ≤ _; exact Nat.le_of_eq rfl) (hb hby dAL_2) (fun _ _ => ⟨rfl, e0, (by decide : 0 + 0 ≤ _), (by decide : 0 + 0 ≤ _)⟩)
  dsimp only [Pt.U, Pt.locs, Pt.cells, Pt.slots] at X99 l99 y99 z99 st99 hQ99
  rw [l99, y99, z99] at X99
  obtain ⟨hv99, Nq99, eq99⟩ := hQ99
  rw [hv99] at st99
  have N99 := Fr.app N0 Nq99
  obtain ⟨T100, X100, e100, st100⟩ := getF X99 hx hZ hown (host := "") (Or.inl (hw _ (List.mem_of_getElem? (i := 14) rfl))) Via.refl eq99 F_d (g := (mkF m 13 #[.val (.ref th), .val (.ref vb), .val (.double (FP.l2d 0)), .second, .val (.int (0 : Int32)), .unset, .unset, .unset] [(.ref th), (.int (0 : Int32))])) rfl rfl (hb hby dAL_13)
  obtain ⟨T101, X101, e101, st101⟩ := getF X100 hx hZ hown (host := "") (Or.inl (hw _ (List.mem_of_getElem? (i := 14) rfl))) Via.refl e100 F_d (g := (mkF m 28 #[.val (.ref th), .val (.ref vb), .val (.double (FP.l2d 0)), .second, .val (.int (0 : Int32)), .val (.double (FP.l2d 0)), .second, .val (.int (0 : Int32))] [(.ref th), (.int (0 : Int32))])) rfl rfl (hb hby dAL_28)
  obtain ⟨T102, X102, e102, st102⟩ := getF X101 hx hZ hown (host := "") (Or.inl (hw _ (List.mem_of_getElem? (i := 16) rfl))) Via.refl e101 F_s (g := (mkF m 37 #[.val (.ref th), .val (.ref vb), .val (.double (FP.l2d 0)), .second, .val (.int (0 : Int32)), .val (.double (FP.l2d 0)), .second, .val (.int (0 : Int32))] [(.ref th), (.double (FP.l2d 0))])) rfl rfl (hb hby dAL_37)
  obtain ⟨T103, X103, e103, st103⟩ := getF X102 hx hZ hown (host := "") (Or.inl (hw _ (List.mem_of_getElem? (i := 14) rfl))) Via.refl e102 F_d (g := (mkF m 43 #[.val (.ref th), .val (.ref vb), .val (.double (FP.l2d 0)), .second, .val (.int (0 : Int32)), .val (.double (FP.l2d 0)), .second, .val (.int (0 : Int32))] [(.ref th), (.int (0 : Int32)), (.ref sm), (.double (FP.l2d 0))])) rfl rfl (hb hby dAL_43)
  obtain ⟨cl104, Ar104, q104, S104, N104, H104, G104⟩ := id V_s
  have hin104 : ¬ ((0 : Int32) < 0 ∨ cl104.slots.size ≤ ((0 : Int32)).toNatClampNeg) := (inb_of S104 ⟨by decide, by decide⟩)
  have hat104 : cl104.slots[((0 : Int32)).toNatClampNeg]? = some (.double (FP.l2d m0)) := (H104.at (inb_of S104 ⟨by decide, by decide⟩) rfl)
  obtain ⟨cl105, Ar105, q105, S105, N105, H105, G105⟩ := id V_b
  have hin105 : ¬ ((0 : Int32) < 0 ∨ cl105.slots.size ≤ ((0 : Int32)).toNatClampNeg) := (inb_of S105 ⟨by decide, by decide⟩)
  have hat105 : cl105.slots[((0 : Int32)).toNatClampNeg]? = some (.double (FP.l2d x0)) := (H105.at (inb_of S105 ⟨by decide, by decide⟩) rfl)
  have Bq106 := own_fma own_B0 B_m0 B_x0 (by decide) (by decide) (by decide)
  obtain ⟨T107, X107, e107, st107⟩ := getF X103 hx hZ hown (host := "") (Or.inl (hw _ (List.mem_of_getElem? (i := 14) rfl))) Via.refl e103 F_d (g := (mkF m 28 #[.val (.ref th), .val (.ref vb), .val (.double (FP.l2d 0)), .second, .val (.int (0 : Int32)), .val (.double (FP.l2d (0 + m0 * x0))), .second, .val (.int (1 : Int32))] [(.ref th), (.int (1 : Int32))])) rfl rfl (hb hby dAL_28)
  obtain ⟨T108, X108, e108, st108⟩ := getF X107 hx hZ hown (host := "") (Or.inl (hw _ (List.mem_of_getElem? (i := 16) rfl))) Via.refl e107 F_s (g := (mkF m 37 #[.val (.ref th), .val (.ref vb), .val (.double (FP.l2d 0)), .second, .val (.int (0 : Int32)), .val (.double (FP.l2d (0 + m0 * x0))), .second, .val (.int (1 : Int32))] [(.ref th), (.double (FP.l2d (0 + m0 * x0)))])) rfl rfl (hb hby dAL_37)
  obtain ⟨T109, X109, e109, st109⟩ := getF X108 hx hZ hown (host := "") (Or.inl (hw _ (List.mem_of_getElem? (i := 14) rfl))) Via.refl e108 F_d (g := (mkF m 43 #[.val (.ref th), .val (.ref vb), .val (.double (FP.l2d 0)), .second, .val (.int (0 : Int32)), .val (.double (FP.l2d (0 + m0 * x0))), .second, .val (.int (1 : Int32))] [(.ref th), (.int (0 : Int32)), (.ref sm), (.double (FP.l2d (0 + m0 * x0)))])) rfl rfl (hb hby dAL_43)
  obtain ⟨cl110, Ar110, q110, S110, N110, H110, G110⟩ := id V_s
  have hin110 : ¬ ((1 : Int32) < 0 ∨ cl110.slots.size ≤ ((1 : Int32)).toNatClampNeg) := (inb_of S110 ⟨by decide, by decide⟩)
  have hat110 : cl110.slots[((1 : Int32)).toNatClampNeg]? = some (.double (FP.l2d m1)) := (H110.at (inb_of S110 ⟨by decide, by decide⟩) rfl)
  obtain ⟨cl111, Ar111, q111, S111, N111, H111, G111⟩ := id V_b
  have hin111 : ¬ ((1 : Int32) < 0 ∨ cl111.slots.size ≤ ((1 : Int32)).toNatClampNeg) := (inb_of S111 ⟨by decide, by decide⟩)
  have hat111 : cl111.slots[((1 : Int32)).toNatClampNeg]? = some (.double (FP.l2d x1)) := (H111.at (inb_of S111 ⟨by decide, by decide⟩) rfl)
  have Bq112 := own_fma Bq106.2 B_m1 B_x1 (by decide) (by decide) (by decide)
  obtain ⟨T113, X113, e113, st113⟩ := getF X109 hx hZ hown (host := "") (Or.inl (hw _ (List.mem_of_getElem? (i := 14) rfl))) Via.refl e109 F_d (g := (mkF m 28 #[.val (.ref th), .val (.ref vb), .val (.double (FP.l2d 0)), .second, .val (.int (0 : Int32)), .val (.double (FP.l2d ((0 + m0 * x0) + m1 * x1))), .second, .val (.int (2 : Int32))] [(.ref th), (.int (2 : Int32))])) rfl rfl (hb hby dAL_28)
  obtain ⟨T114, X114, e114, st114⟩ := getF X113 hx hZ hown (host := "") (Or.inl (hw _ (List.mem_of_getElem? (i := 16) rfl))) Via.refl e113 F_s (g := (mkF m 37 #[.val (.ref th), .val (.ref vb), .val (.double (FP.l2d 0)), .second, .val (.int (0 : Int32)), .val (.double (FP.l2d ((0 + m0 * x0) + m1 * x1))), .second, .val (.int (2 : Int32))] [(.ref th), (.double (FP.l2d ((0 + m0 * x0) + m1 * x1)))])) rfl rfl (hb hby dAL_37)
  obtain ⟨T115, X115, e115, st115⟩ := getF X114 hx hZ hown (host := "") (Or.inl (hw _ (List.mem_of_getElem? (i := 14) rfl))) Via.refl e114 F_d (g := (mkF m 43 #[.val (.ref th), .val (.ref vb), .val (.double (FP.l2d 0)), .second, .val (.int (0 : Int32)), .val (.double (FP.l2d ((0 + m0 * x0) + m1 * x1))), .second, .val (.int (2 : Int32))] [(.ref th), (.int (0 : Int32)), (.ref sm), (.double (FP.l2d ((0 + m0 * x0) + m1 * x1)))])) rfl rfl (hb hby dAL_43)
  obtain ⟨cl116, Ar116, q116, S116, N116, H116, G116⟩ := id V_s
  have hin116 : ¬ ((2 : Int32) < 0 ∨ cl116.slots.size ≤ ((2 : Int32)).toNatClampNeg) := (inb_of S116 ⟨by decide, by decide⟩)
  have hat116 : cl116.slots[((2 : Int32)).toNatClampNeg]? = some (.double (FP.l2d m2)) := (H116.at (inb_of S116 ⟨by decide, by decide⟩) rfl)
  obtain ⟨cl117, Ar117, q117, S117, N117, H117, G117⟩ := id V_b
  have hin117 : ¬ ((2 : Int32) < 0 ∨ cl117.slots.size ≤ ((2 : Int32)).toNatClampNeg) := (inb_of S117 ⟨by decide, by decide⟩)
  have hat117 : cl117.slots[((2 : Int32)).toNatClampNeg]? = some (.double (FP.l2d x2)) := (H117.at (inb_of S117 ⟨by decide, by decide⟩) rfl)
  have Bq118 := own_fma Bq112.2 B_m2 B_x2 (by decide) (by decide) (by decide)
  obtain ⟨T119, X119, e119, st119⟩ := getF X115 hx hZ hown (host := "") (Or.inl (hw _ (List.mem_of_getElem? (i := 14) rfl))) Via.refl e115 F_d (g := (mkF m 28 #[.val (.ref th), .val (.ref vb), .val (.double (FP.l2d 0)), .second, .val (.int (0 : Int32)), .val (.double (FP.l2d (((0 + m0 * x0) + m1 * x1) + m2 * x2))), .second, .val (.int (3 : Int32))] [(.ref th), (.int (3 : Int32))])) rfl rfl (hb hby dAL_28)
  obtain ⟨cl120, Ar120, q120, S120, N120, H120, G120⟩ := id V_b
  have hin120 : ¬ ((0 : Int32) < 0 ∨ cl120.slots.size ≤ ((0 : Int32)).toNatClampNeg) := (inb_of S120 ⟨by decide, by decide⟩)
  have hat120 : cl120.slots[((0 : Int32)).toNatClampNeg]? = some (.double (FP.l2d x0)) := (H120.at (inb_of S120 ⟨by decide, by decide⟩) rfl)
  have Bq121 := own_fma own_B0 B_x0 Bq118.2 (by decide) (by decide) (by decide)
  obtain ⟨T122, X122, e122, st122⟩ := getF X119 hx hZ hown (host := "") (Or.inl (hw _ (List.mem_of_getElem? (i := 14) rfl))) Via.refl e119 F_d (g := (mkF m 13 #[.val (.ref th), .val (.ref vb), .val (.double (FP.l2d (0 + x0 * (((0 + m0 * x0) + m1 * x1) + m2 * x2)))), .second, .val (.int (1 : Int32)), .val (.double (FP.l2d (((0 + m0 * x0) + m1 * x1) + m2 * x2))), .second, .val (.int (3 : Int32))] [(.ref th), (.int (1 : Int32))])) rfl rfl (hb hby dAL_13)
  obtain ⟨T123, X123, e123, st123⟩ := getF X122 hx hZ hown (host := "") (Or.inl (hw _ (List.mem_of_getElem? (i := 14) rfl))) Via.refl e122 F_d (g := (mkF m 28 #[.val (.ref th), .val (.ref vb), .val (.double (FP.l2d (0 + x0 * (((0 + m0 * x0) + m1 * x1) + m2 * x2)))), .second, .val (.int (1 : Int32)), .val (.double (FP.l2d 0)), .second, .val (.int (0 : Int32))] [(.ref th), (.int (0 : Int32))])) rfl rfl (hb hby dAL_28)
  obtain ⟨T124, X124, e124, st124⟩ := getF X123 hx hZ hown (host := "") (Or.inl (hw _ (List.mem_of_getElem? (i := 16) rfl))) Via.refl e123 F_s (g := (mkF m 37 #[.val (.ref th), .val (.ref vb), .val (.double (FP.l2d (0 + x0 * (((0 + m0 * x0) + m1 * x1) + m2 * x2)))), .second, .val (.int (1 : Int32)), .val (.double (FP.l2d 0)), .second, .val (.int (0 : Int32))] [(.ref th), (.double (FP.l2d 0))])) rfl rfl (hb hby dAL_37)
  obtain ⟨T125, X125, e125, st125⟩ := getF X124 hx hZ hown (host := "") (Or.inl (hw _ (List.mem_of_getElem? (i := 14) rfl))) Via.refl e124 F_d (g := (mkF m 43 #[.val (.ref th), .val (.ref vb), .val (.double (FP.l2d (0 + x0 * (((0 + m0 * x0) + m1 * x1) + m2 * x2)))), .second, .val (.int (1 : Int32)), .val (.double (FP.l2d 0)), .second, .val (.int (0 : Int32))] [(.ref th), (.int (1 : Int32)), (.ref sm), (.double (FP.l2d 0))])) rfl rfl (hb hby dAL_43)
  obtain ⟨cl126, Ar126, q126, S126, N126, H126, G126⟩ := id V_s
  have hin126 : ¬ ((3 : Int32) < 0 ∨ cl126.slots.size ≤ ((3 : Int32)).toNatClampNeg) := (inb_of S126 ⟨by decide, by decide⟩)
  have hat126 : cl126.slots[((3 : Int32)).toNatClampNeg]? = some (.double (FP.l2d m3)) := (H126.at (inb_of S126 ⟨by decide, by decide⟩) rfl)
  obtain ⟨cl127, Ar127, q127, S127, N127, H127, G127⟩ := id V_b
  have hin127 : ¬ ((0 : Int32) < 0 ∨ cl127.slots.size ≤ ((0 : Int32)).toNatClampNeg) := (inb_of S127 ⟨by decide, by decide⟩)
  have hat127 : cl127.slots[((0 : Int32)).toNatClampNeg]? = some (.double (FP.l2d x0)) := (H127.at (inb_of S127 ⟨by decide, by decide⟩) rfl)
  have Bq128 := own_fma own_B0 B_m3 B_x0 (by decide) (by decide) (by decide)
  obtain ⟨T129, X129, e129, st129⟩ := getF X125 hx hZ hown (host := "") (Or.inl (hw _ (List.mem_of_getElem? (i := 14) rfl))) Via.refl e125 F_d (g := (mkF m 28 #[.val (.ref th), .val (.ref vb), .val (.double (FP.l2d (0 + x0 * (((0 + m0 * x0) + m1 * x1) + m2 * x2)))), .second, .val (.int (1 : Int32)), .val (.double (FP.l2d (0 + m3 * x0))), .second, .val (.int (1 : Int32))] [(.ref th), (.int (1 : Int32))])) rfl rfl (hb hby dAL_28)
  obtain ⟨T130, X130, e130, st130⟩ := getF X129 hx hZ hown (host := "") (Or.inl (hw _ (List.mem_of_getElem? (i := 16) rfl))) Via.refl e129 F_s (g := (mkF m 37 #[.val (.ref th), .val (.ref vb), .val (.double (FP.l2d (0 + x0 * (((0 + m0 * x0) + m1 * x1) + m2 * x2)))), .second, .val (.int (1 : Int32)), .val (.double (FP.l2d (0 + m3 * x0))), .second, .val (.int (1 : Int32))] [(.ref th), (.double (FP.l2d (0 + m3 * x0)))])) rfl rfl (hb hby dAL_37)
  obtain ⟨T131, X131, e131, st131⟩ := getF X130 hx hZ hown (host := "") (Or.inl (hw _ (List.mem_of_getElem? (i := 14) rfl))) Via.refl e130 F_d (g := (mkF m 43 #[.val (.ref th), .val (.ref vb), .val (.double (FP.l2d (0 + x0 * (((0 + m0 * x0) + m1 * x1) + m2 * x2)))), .second, .val (.int (1 : Int32)), .val (.double (FP.l2d (0 + m3 * x0))), .second, .val (.int (1 : Int32))] [(.ref th), (.int (1 : Int32)), (.ref sm), (.double (FP.l2d (0 + m3 * x0)))])) rfl rfl (hb hby dAL_43)
  obtain ⟨cl132, Ar132, q132, S132, N132, H132, G132⟩ := id V_s
  have hin132 : ¬ ((4 : Int32) < 0 ∨ cl132.slots.size ≤ ((4 : Int32)).toNatClampNeg) := (inb_of S132 ⟨by decide, by decide⟩)
  have hat132 : cl132.slots[((4 : Int32)).toNatClampNeg]? = some (.double (FP.l2d m4)) := (H132.at (inb_of S132 ⟨by decide, by decide⟩) rfl)
  obtain ⟨cl133, Ar133, q133, S133, N133, H133, G133⟩ := id V_b
  have hin133 : ¬ ((1 : Int32) < 0 ∨ cl133.slots.size ≤ ((1 : Int32)).toNatClampNeg) := (inb_of S133 ⟨by decide, by decide⟩)
  have hat133 : cl133.slots[((1 : Int32)).toNatClampNeg]? = some (.double (FP.l2d x1)) := (H133.at (inb_of S133 ⟨by decide, by decide⟩) rfl)
  have Bq134 := own_fma Bq128.2 B_m4 B_x1 (by decide) (by decide) (by decide)
  obtain ⟨T135, X135, e135, st135⟩ := getF X131 hx hZ hown (host := "") (Or.inl (hw _ (List.mem_of_getElem? (i := 14) rfl))) Via.refl e131 F_d (g := (mkF m 28 #[.val (.ref th), .val (.ref vb), .val (.double (FP.l2d (0 + x0 * (((0 + m0 * x0) + m1 * x1) + m2 * x2)))), .second, .val (.int (1 : Int32)), .val (.double (FP.l2d ((0 + m3 * x0) + m4 * x1))), .second, .val (.int (2 : Int32))] [(.ref th), (.int (2 : Int32))])) rfl rfl (hb hby dAL_28)
  obtain ⟨T136, X136, e136, st136⟩ := getF X135 hx hZ hown (host := "") (Or.inl (hw _ (List.mem_of_getElem? (i := 16) rfl))) Via.refl e135 F_s (g := (mkF m 37 #[.val (.ref th), .val (.ref vb), .val (.double (FP.l2d (0 + x0 * (((0 + m0 * x0) + m1 * x1) + m2 * x2)))), .second, .val (.int (1 : Int32)), .val (.double (FP.l2d ((0 + m3 * x0) + m4 * x1))), .second, .val (.int (2 : Int32))] [(.ref th), (.double (FP.l2d ((0 + m3 * x0) + m4 * x1)))])) rfl rfl (hb hby dAL_37)
  obtain ⟨T137, X137, e137, st137⟩ := getF X136 hx hZ hown (host := "") (Or.inl (hw _ (List.mem_of_getElem? (i := 14) rfl))) Via.refl e136 F_d (g := (mkF m 43 #[.val (.ref th), .val (.ref vb), .val (.double (FP.l2d (0 + x0 * (((0 + m0 * x0) + m1 * x1) + m2 * x2)))), .second, .val (.int (1 : Int32)), .val (.double (FP.l2d ((0 + m3 * x0) + m4 * x1))), .second, .val (.int (2 : Int32))] [(.ref th), (.int (1 : Int32)), (.ref sm), (.double (FP.l2d ((0 + m3 * x0) + m4 * x1)))])) rfl rfl (hb hby dAL_43)
  obtain ⟨cl138, Ar138, q138, S138, N138, H138, G138⟩ := id V_s
  have hin138 : ¬ ((5 : Int32) < 0 ∨ cl138.slots.size ≤ ((5 : Int32)).toNatClampNeg) := (inb_of S138 ⟨by decide, by decide⟩)
  have hat138 : cl138.slots[((5 : Int32)).toNatClampNeg]? = some (.double (FP.l2d m5)) := (H138.at (inb_of S138 ⟨by decide, by decide⟩) rfl)
  obtain ⟨cl139, Ar139, q139, S139, N139, H139, G139⟩ := id V_b
  have hin139 : ¬ ((2 : Int32) < 0 ∨ cl139.slots.size ≤ ((2 : Int32)).toNatClampNeg) := (inb_of S139 ⟨by decide, by decide⟩)
  have hat139 : cl139.slots[((2 : Int32)).toNatClampNeg]? = some (.double (FP.l2d x2)) := (H139.at (inb_of S139 ⟨by decide, by decide⟩) rfl)
  have Bq140 := own_fma Bq134.2 B_m5 B_x2 (by decide) (by decide) (by decide)
  obtain ⟨T141, X141, e141, st141⟩ := getF X137 hx hZ hown (host := "") (Or.inl (hw _ (List.mem_of_getElem? (i := 14) rfl))) Via.refl e137 F_d (g := (mkF m 28 #[.val (.ref th), .val (.ref vb), .val (.double (FP.l2d (0 + x0 * (((0 + m0 * x0) + m1 * x1) + m2 * x2)))), .second, .val (.int (1 : Int32)), .val (.double (FP.l2d (((0 + m3 * x0) + m4 * x1) + m5 * x2))), .second, .val (.int (3 : Int32))] [(.ref th), (.int (3 : Int32))])) rfl rfl (hb hby dAL_28)
  obtain ⟨cl142, Ar142, q142, S142, N142, H142, G142⟩ := id V_b
  have hin142 : ¬ ((1 : Int32) < 0 ∨ cl142.slots.size ≤ ((1 : Int32)).toNatClampNeg) := (inb_of S142 ⟨by decide, by decide⟩)
  have hat142 : cl142.slots[((1 : Int32)).toNatClampNeg]? = some (.double (FP.l2d x1)) := (H142.at (inb_of S142 ⟨by decide, by decide⟩) rfl)
  have Bq143 := own_fma Bq121.2 B_x1 Bq140.2 (by decide) (by decide) (by decide)
  obtain ⟨T144, X144, e144, st144⟩ := getF X141 hx hZ hown (host := "") (Or.inl (hw _ (List.mem_of_getElem? (i := 14) rfl))) Via.refl e141 F_d (g := (mkF m 13 #[.val (.ref th), .val (.ref vb), .val (.double (FP.l2d ((0 + x0 * (((0 + m0 * x0) + m1 * x1) + m2 * x2)) + x1 * (((0 + m3 * x0) + m4 * x1) + m5 * x2)))), .second, .val (.int (2 : Int32)), .val (.double (FP.l2d (((0 + m3 * x0) + m4 * x1) + m5 * x2))), .second, .val (.int (3 : Int32))] [(.ref th), (.int (2 : Int32))])) rfl rfl (hb hby dAL_13)
  obtain ⟨T145, X145, e145, st145⟩ := getF X144 hx hZ hown (host := "") (Or.inl (hw _ (List.mem_of_getElem? (i := 14) rfl))) Via.refl e144 F_d (g := (mkF m 28 #[.val (.ref th), .val (.ref vb), .val (.double (FP.l2d ((0 + x0 * (((0 + m0 * x0) + m1 * x1) + m2 * x2)) + x1 * (((0 + m3 * x0) + m4 * x1) + m5 * x2)))), .second, .val (.int (2 : Int32)), .val (.double (FP.l2d 0)), .second, .val (.int (0 : Int32))] [(.ref th), (.int (0 : Int32))])) rfl rfl (hb hby dAL_28)
  obtain ⟨T146, X146, e146, st146⟩ := getF X145 hx hZ hown (host := "") (Or.inl (hw _ (List.mem_of_getElem? (i := 16) rfl))) Via.refl e145 F_s (g := (mkF m 37 #[.val (.ref th), .val (.ref vb), .val (.double (FP.l2d ((0 + x0 * (((0 + m0 * x0) + m1 * x1) + m2 * x2)) + x1 * (((0 + m3 * x0) + m4 * x1) + m5 * x2)))), .second, .val (.int (2 : Int32)), .val (.double (FP.l2d 0)), .second, .val (.int (0 : Int32))] [(.ref th), (.double (FP.l2d 0))])) rfl rfl (hb hby dAL_37)
  obtain ⟨T147, X147, e147, st147⟩ := getF X146 hx hZ hown (host := "") (Or.inl (hw _ (List.mem_of_getElem? (i := 14) rfl))) Via.refl e146 F_d (g := (mkF m 43 #[.val (.ref th), .val (.ref vb), .val (.double (FP.l2d ((0 + x0 * (((0 + m0 * x0) + m1 * x1) + m2 * x2)) + x1 * (((0 + m3 * x0) + m4 * x1) + m5 * x2)))), .second, .val (.int (2 : Int32)), .val (.double (FP.l2d 0)), .second, .val (.int (0 : Int32))] [(.ref th), (.int (2 : Int32)), (.ref sm), (.double (FP.l2d 0))])) rfl rfl (hb hby dAL_43)
  obtain ⟨cl148, Ar148, q148, S148, N148, H148, G148⟩ := id V_s
  have hin148 : ¬ ((6 : Int32) < 0 ∨ cl148.slots.size ≤ ((6 : Int32)).toNatClampNeg) := (inb_of S148 ⟨by decide, by decide⟩)
  have hat148 : cl148.slots[((6 : Int32)).toNatClampNeg]? = some (.double (FP.l2d m6)) := (H148.at (inb_of S148 ⟨by decide, by decide⟩) rfl)
  obtain ⟨cl149, Ar149, q149, S149, N149, H149, G149⟩ := id V_b
  have hin149 : ¬ ((0 : Int32) < 0 ∨ cl149.slots.size ≤ ((0 : Int32)).toNatClampNeg) := (inb_of S149 ⟨by decide, by decide⟩)
  have hat149 : cl149.slots[((0 : Int32)).toNatClampNeg]? = some (.double (FP.l2d x0)) := (H149.at (inb_of S149 ⟨by decide, by decide⟩) rfl)
  have Bq150 := own_fma own_B0 B_m6 B_x0 (by decide) (by decide) (by decide)
  obtain ⟨T151, X151, e151, st151⟩ := getF X147 hx hZ hown (host := "") (Or.inl (hw _ (List.mem_of_getElem? (i := 14) rfl))) Via.refl e147 F_d (g := (mkF m 28 #[.val (.ref th), .val (.ref vb), .val (.double (FP.l2d ((0 + x0 * (((0 + m0 * x0) + m1 * x1) + m2 * x2)) + x1 * (((0 + m3 * x0) + m4 * x1) + m5 * x2)))), .second, .val (.int (2 : Int32)), .val (.double (FP.l2d (0 + m6 * x0))), .second, .val (.int (1 : Int32))] [(.ref th), (.int (1 : Int32))])) rfl rfl (hb hby dAL_28)
  obtain ⟨T152, X152, e152, st152⟩ := getF X151 hx hZ hown (host := "") (Or.inl (hw _ (List.mem_of_getElem? (i := 16) rfl))) Via.refl e151 F_s (g := (mkF m 37 #[.val (.ref th), .val (.ref vb), .val (.double (FP.l2d ((0 + x0 * (((0 + m0 * x0) + m1 * x1) + m2 * x2)) + x1 * (((0 + m3 * x0) + m4 * x1) + m5 * x2)))), .second, .val (.int (2 : Int32)), .val (.double (FP.l2d (0 + m6 * x0))), .second, .val (.int (1 : Int32))] [(.ref th), (.double (FP.l2d (0 + m6 * x0)))])) rfl rfl (hb hby dAL_37)
  obtain ⟨T153, X153, e153, st153⟩ := getF X152 hx hZ hown (host := "") (Or.inl (hw _ (List.mem_of_getElem? (i := 14) rfl))) Via.refl e152 F_d (g := (mkF m 43 #[.val (.ref th), .val (.ref vb), .val (.double (FP.l2d ((0 + x0 * (((0 + m0 * x0) + m1 * x1) + m2 * x2)) + x1 * (((0 + m3 * x0) + m4 * x1) + m5 * x2)))), .second, .val (.int (2 : Int32)), .val (.double (FP.l2d (0 + m6 * x0))), .second, .val (.int (1 : Int32))] [(.ref th), (.int (2 : Int32)), (.ref sm), (.double (FP.l2d (0 + m6 * x0)))])) rfl rfl (hb hby dAL_43)
  obtain ⟨cl154, Ar154, q154, S154, N154, H154, G154⟩ := id V_s
  have hin154 : ¬ ((7 : Int32) < 0 ∨ cl154.slots.size ≤ ((7 : Int32)).toNatClampNeg) := (inb_of S154 ⟨by decide, by decide⟩)
  have hat154 : cl154.slots[((7 : Int32)).toNatClampNeg]? = some (.double (FP.l2d m7)) := (H154.at (inb_of S154 ⟨by decide, by decide⟩) rfl)
  obtain ⟨cl155, Ar155, q155, S155, N155, H155, G155⟩ := id V_b
  have hin155 : ¬ ((1 : Int32) < 0 ∨ cl155.slots.size ≤ ((1 : Int32)).toNatClampNeg) := (inb_of S155 ⟨by decide, by decide⟩)
  have hat155 : cl155.slots[((1 : Int32)).toNatClampNeg]? = some (.double (FP.l2d x1)) := (H155.at (inb_of S155 ⟨by decide, by decide⟩) rfl)
  have Bq156 := own_fma Bq150.2 B_m7 B_x1 (by decide) (by decide) (by decide)
  obtain ⟨T157, X157, e157, st157⟩ := getF X153 hx hZ hown (host := "") (Or.inl (hw _ (List.mem_of_getElem? (i := 14) rfl))) Via.refl e153 F_d (g := (mkF m 28 #[.val (.ref th), .val (.ref vb), .val (.double (FP.l2d ((0 + x0 * (((0 + m0 * x0) + m1 * x1) + m2 * x2)) + x1 * (((0 + m3 * x0) + m4 * x1) + m5 * x2)))), .second, .val (.int (2 : Int32)), .val (.double (FP.l2d ((0 + m6 * x0) + m7 * x1))), .second, .val (.int (2 : Int32))] [(.ref th), (.int (2 : Int32))])) rfl rfl (hb hby dAL_28)
  obtain ⟨T158, X158, e158, st158⟩ := getF X157 hx hZ hown (host := "") (Or.inl (hw _ (List.mem_of_getElem? (i := 16) rfl))) Via.refl e157 F_s (g := (mkF m 37 #[.val (.ref th), .val (.ref vb), .val (.double (FP.l2d ((0 + x0 * (((0 + m0 * x0) + m1 * x1) + m2 * x2)) + x1 * (((0 + m3 * x0) + m4 * x1) + m5 * x2)))), .second, .val (.int (2 : Int32)), .val (.double (FP.l2d ((0 + m6 * x0) + m7 * x1))), .second, .val (.int (2 : Int32))] [(.ref th), (.double (FP.l2d ((0 + m6 * x0) + m7 * x1)))])) rfl rfl (hb hby dAL_37)
  obtain ⟨T159, X159, e159, st159⟩ := getF X158 hx hZ hown (host := "") (Or.inl (hw _ (List.mem_of_getElem? (i := 14) rfl))) Via.refl e158 F_d (g := (mkF m 43 #[.val (.ref th), .val (.ref vb), .val (.double (FP.l2d ((0 + x0 * (((0 + m0 * x0) + m1 * x1) + m2 * x2)) + x1 * (((0 + m3 * x0) + m4 * x1) + m5 * x2)))), .second, .val (.int (2 : Int32)), .val (.double (FP.l2d ((0 + m6 * x0) + m7 * x1))), .second, .val (.int (2 : Int32))] [(.ref th), (.int (2 : Int32)), (.ref sm), (.double (FP.l2d ((0 + m6 * x0) + m7 * x1)))])) rfl rfl (hb hby dAL_43)
  obtain ⟨cl160, Ar160, q160, S160, N160, H160, G160⟩ := id V_s
  have hin160 : ¬ ((8 : Int32) < 0 ∨ cl160.slots.size ≤ ((8 : Int32)).toNatClampNeg) := (inb_of S160 ⟨by decide, by decide⟩)
  have hat160 : cl160.slots[((8 : Int32)).toNatClampNeg]? = some (.double (FP.l2d m8)) := (H160.at (inb_of S160 ⟨by decide, by decide⟩) rfl)
  obtain ⟨cl161, Ar161, q161, S161, N161, H161, G161⟩ := id V_b
  have hin161 : ¬ ((2 : Int32) < 0 ∨ cl161.slots.size ≤ ((2 : Int32)).toNatClampNeg) := (inb_of S161 ⟨by decide, by decide⟩)
  have hat161 : cl161.slots[((2 : Int32)).toNatClampNeg]? = some (.double (FP.l2d x2)) := (H161.at (inb_of S161 ⟨by decide, by decide⟩) rfl)
  have Bq162 := own_fma Bq156.2 B_m8 B_x2 (by decide) (by decide) (by decide)
  obtain ⟨T163, X163, e163, st163⟩ := getF X159 hx hZ hown (host := "") (Or.inl (hw _ (List.mem_of_getElem? (i := 14) rfl))) Via.refl e159 F_d (g := (mkF m 28 #[.val (.ref th), .val (.ref vb), .val (.double (FP.l2d ((0 + x0 * (((0 + m0 * x0) + m1 * x1) + m2 * x2)) + x1 * (((0 + m3 * x0) + m4 * x1) + m5 * x2)))), .second, .val (.int (2 : Int32)), .val (.double (FP.l2d (((0 + m6 * x0) + m7 * x1) + m8 * x2))), .second, .val (.int (3 : Int32))] [(.ref th), (.int (3 : Int32))])) rfl rfl (hb hby dAL_28)
  obtain ⟨cl164, Ar164, q164, S164, N164, H164, G164⟩ := id V_b
  have hin164 : ¬ ((2 : Int32) < 0 ∨ cl164.slots.size ≤ ((2 : Int32)).toNatClampNeg) := (inb_of S164 ⟨by decide, by decide⟩)
  have hat164 : cl164.slots[((2 : Int32)).toNatClampNeg]? = some (.double (FP.l2d x2)) := (H164.at (inb_of S164 ⟨by decide, by decide⟩) rfl)
  have Bq165 := own_fma Bq143.2 B_x2 Bq162.2 (by decide) (by decide) (by decide)
  obtain ⟨T166, X166, e166, st166⟩ := getF X163 hx hZ hown (host := "") (Or.inl (hw _ (List.mem_of_getElem? (i := 14) rfl))) Via.refl e163 F_d (g := (mkF m 13 #[.val (.ref th), .val (.ref vb), .val (.double (FP.l2d (((0 + x0 * (((0 + m0 * x0) + m1 * x1) + m2 * x2)) + x1 * (((0 + m3 * x0) + m4 * x1) + m5 * x2)) + x2 * (((0 + m6 * x0) + m7 * x1) + m8 * x2)))), .second, .val (.int (3 : Int32)), .val (.double (FP.l2d (((0 + m6 * x0) + m7 * x1) + m8 * x2))), .second, .val (.int (3 : Int32))] [(.ref th), (.int (3 : Int32))])) rfl rfl (hb hby dAL_13)
  obtain ⟨fs, hr, hrun, hended, hW, hsame⟩ := X166.leave (v := some (.double (FP.l2d (((0 + x0 * (((0 + m0 * x0) + m1 * x1) + m2 * x2)) + x1 * (((0 + m3 * x0) + m4 * x1) + m5 * x2)) + x2 * (((0 + m6 * x0) + m7 * x1) + m8 * x2))))) (fun h => by rw [Bd.returns] at h; cases h)
  refine ⟨_, _, ?_, hrun, hended, _, _, rfl, ?_, ⟨_, rfl⟩, hW, hsame.mono (by decide) (by decide)⟩
  · refine pre0 _ ?_
    show Steps _ _ _ (s₁.setTop (mkF m 0 #[.val (.ref th), .val (.ref vb), .unset, .unset, .unset, .unset, .unset, .unset] [])) _
    refine XS.aloadN X0.here hx rfl (hb hby dAL_0) rfl rfl ?_
    refine XS.aloadN X0.here hx rfl (hb hby dAL_1) rfl rfl ?_
    show Steps _ _ _ (s₁.setTop (mkF m 2 #[.val (.ref th), .val (.ref vb), .unset, .unset, .unset, .unset, .unset, .unset] [(.ref vb), (.ref th)])) _
    refine st99.trans ?_
    show Steps _ _ _ (T99.setTop (mkF m 5 #[.val (.ref th), .val (.ref vb), .unset, .unset, .unset, .unset, .unset, .unset] [])) _
    refine XS.dconst0 X99.here hx rfl (hb hby dAL_5) (v := (FP.l2d 0)) own_d0 ?_
    refine XS.dstoreN X99.here hx rfl (hb hby dAL_6) rfl (l' := #[.val (.ref th), .val (.ref vb), .val (.double (FP.l2d 0)), .second, .unset, .unset, .unset, .unset]) rfl ?_
    refine XS.iconst X99.here hx rfl (hb hby dAL_7) ?_
    refine XS.istore X99.here hx rfl (hb hby dAL_8) rfl (l' := #[.val (.ref th), .val (.ref vb), .val (.double (FP.l2d 0)), .second, .val (.int (0 : Int32)), .unset, .unset, .unset]) rfl ?_
    show Steps _ _ _ (T99.setTop (mkF m 10 #[.val (.ref th), .val (.ref vb), .val (.double (FP.l2d 0)), .second, .val (.int (0 : Int32)), .unset, .unset, .unset] [])) _
    refine XS.iload X99.here hx rfl (hb hby dAL_10) rfl ?_
    refine XS.aloadN X99.here hx rfl (hb hby dAL_12) rfl rfl ?_
    show Steps _ _ _ (T99.setTop (mkF m 13 #[.val (.ref th), .val (.ref vb), .val (.double (FP.l2d 0)), .second, .val (.int (0 : Int32)), .unset, .unset, .unset] [(.ref th), (.int (0 : Int32))])) _
    refine st100 _ ?_
    refine XS.icmpNo X100.here hx rfl (hb hby dAL_16) rfl (by decide) ?_
    refine XS.dconst0 X100.here hx rfl (hb hby dAL_19) (v := (FP.l2d 0)) own_d0 ?_
    refine XS.dstore X100.here hx rfl (hb hby dAL_20) rfl (l' := #[.val (.ref th), .val (.ref vb), .val (.double (FP.l2d 0)), .second, .val (.int (0 : Int32)), .val (.double (FP.l2d 0)), .second, .unset]) rfl ?_
    show Steps _ _ _ (T100.setTop (mkF m 22 #[.val (.ref th), .val (.ref vb), .val (.double (FP.l2d 0)), .second, .val (.int (0 : Int32)), .val (.double (FP.l2d 0)), .second, .unset] [])) _
    refine XS.iconst X100.here hx rfl (hb hby dAL_22) ?_
    refine XS.istore X100.here hx rfl (hb hby dAL_23) rfl (l' := #[.val (.ref th), .val (.ref vb), .val (.double (FP.l2d 0)), .second, .val (.int (0 : Int32)), .val (.double (FP.l2d 0)), .second, .val (.int (0 : Int32))]) rfl ?_
    refine XS.iload X100.here hx rfl (hb hby dAL_25) rfl ?_
    refine XS.aloadN X100.here hx rfl (hb hby dAL_27) rfl rfl ?_
    show Steps _ _ _ (T100.setTop (mkF m 28 #[.val (.ref th), .val (.ref vb), .val (.double (FP.l2d 0)), .second, .val (.int (0 : Int32)), .val (.double (FP.l2d 0)), .second, .val (.int (0 : Int32))] [(.ref th), (.int (0 : Int32))])) _
    refine st101 _ ?_
    refine XS.icmpNo X101.here hx rfl (hb hby dAL_31) rfl (by decide) ?_
    refine XS.dload X101.here hx rfl (hb hby dAL_34) rfl ?_
    refine XS.aloadN X101.here hx rfl (hb hby dAL_36) rfl rfl ?_
    show Steps _ _ _ (T101.setTop (mkF m 37 #[.val (.ref th), .val (.ref vb), .val (.double (FP.l2d 0)), .second, .val (.int (0 : Int32)), .val (.double (FP.l2d 0)), .second, .val (.int (0 : Int32))] [(.ref th), (.double (FP.l2d 0))])) _
    refine st102 _ ?_
    refine XS.iload X102.here hx rfl (hb hby dAL_40) rfl ?_
    refine XS.aloadN X102.here hx rfl (hb hby dAL_42) rfl rfl ?_
    show Steps _ _ _ (T102.setTop (mkF m 43 #[.val (.ref th), .val (.ref vb), .val (.double (FP.l2d 0)), .second, .val (.int (0 : Int32)), .val (.double (FP.l2d 0)), .second, .val (.int (0 : Int32))] [(.ref th), (.int (0 : Int32)), (.ref sm), (.double (FP.l2d 0))])) _
    refine st103 _ ?_
    refine XS.imul X103.here hx rfl (hb hby dAL_46) rfl ?_
    refine XS.iload X103.here hx rfl (hb hby dAL_47) rfl ?_
    refine XS.iadd X103.here hx rfl (hb hby dAL_49) rfl ?_
    show Steps _ _ _ (T103.setTop (mkF m 50 #[.val (.ref th), .val (.ref vb), .val (.double (FP.l2d 0)), .second, .val (.int (0 : Int32)), .val (.double (FP.l2d 0)), .second, .val (.int (0 : Int32))] [(.int (0 : Int32)), (.ref sm), (.double (FP.l2d 0))])) _
    refine X103.daload hx (j := (0 : Int32)) (v := (.double (FP.l2d m0))) (by rw [e103]; exact Ar104.1) (State.isArrayOf_alike hZ.alike Ar104.2.1) Ar104.2.2 hin104 hat104 (g := (mkF m 50 #[.val (.ref th), .val (.ref vb), .val (.double (FP.l2d 0)), .second, .val (.int (0 : Int32)), .val (.double (FP.l2d 0)), .second, .val (.int (0 : Int32))] [(.int (0 : Int32)), (.ref sm), (.double (FP.l2d 0))])) rfl rfl (hb hby dAL_50) _ ?_
    refine XS.aloadN X103.here hx rfl (hb hby dAL_51) rfl rfl ?_
    refine XS.iload X103.here hx rfl (hb hby dAL_52) rfl ?_
    show Steps _ _ _ (T103.setTop (mkF m 54 #[.val (.ref th), .val (.ref vb), .val (.double (FP.l2d 0)), .second, .val (.int (0 : Int32)), .val (.double (FP.l2d 0)), .second, .val (.int (0 : Int32))] [(.int (0 : Int32)), (.ref vb), (.double (FP.l2d m0)), (.double (FP.l2d 0))])) _
    refine X103.daload hx (j := (0 : Int32)) (v := (.double (FP.l2d x0))) (by rw [e103]; exact Ar105.1) (State.isArrayOf_alike hZ.alike Ar105.2.1) Ar105.2.2 hin105 hat105 (g := (mkF m 54 #[.val (.ref th), .val (.ref vb), .val (.double (FP.l2d 0)), .second, .val (.int (0 : Int32)), .val (.double (FP.l2d 0)), .second, .val (.int (0 : Int32))] [(.int (0 : Int32)), (.ref vb), (.double (FP.l2d m0)), (.double (FP.l2d 0))])) rfl rfl (hb hby dAL_54) _ ?_
    refine XS.dmulS X103.here hx rfl (hb hby dAL_55) rfl (v := (FP.dmul (FP.l2d m0) (FP.l2d x0))) (own_mulNN _ _) rfl ?_
    refine XS.daddS X103.here hx rfl (hb hby dAL_56) rfl (v := (FP.l2d (0 + m0 * x0))) (nn_w Bq106.1) Bq106.1 ?_
    refine XS.dstore X103.here hx rfl (hb hby dAL_57) rfl (l' := #[.val (.ref th), .val (.ref vb), .val (.double (FP.l2d 0)), .second, .val (.int (0 : Int32)), .val (.double (FP.l2d (0 + m0 * x0))), .second, .val (.int (0 : Int32))]) rfl ?_
    show Steps _ _ _ (T103.setTop (mkF m 59 #[.val (.ref th), .val (.ref vb), .val (.double (FP.l2d 0)), .second, .val (.int (0 : Int32)), .val (.double (FP.l2d (0 + m0 * x0))), .second, .val (.int (0 : Int32))] [])) _
    refine XS.iinc X103.here hx rfl (hb hby dAL_59) rfl (l' := #[.val (.ref th), .val (.ref vb), .val (.double (FP.l2d 0)), .second, .val (.int (0 : Int32)), .val (.double (FP.l2d (0 + m0 * x0))), .second, .val (.int (1 : Int32))]) rfl ?_
    refine XS.goto X103.here hx rfl (pc0 := 62) (pc' := 25) rfl (hb hby dAL_62) (by decide) (by decide) ?_
    refine XS.iload X103.here hx rfl (hb hby dAL_25) rfl ?_
    refine XS.aloadN X103.here hx rfl (hb hby dAL_27) rfl rfl ?_
    show Steps _ _ _ (T103.setTop (mkF m 28 #[.val (.ref th), .val (.ref vb), .val (.double (FP.l2d 0)), .second, .val (.int (0 : Int32)), .val (.double (FP.l2d (0 + m0 * x0))), .second, .val (.int (1 : Int32))] [(.ref th), (.int (1 : Int32))])) _
    refine st107 _ ?_
    refine XS.icmpNo X107.here hx rfl (hb hby dAL_31) rfl (by decide) ?_
    refine XS.dload X107.here hx rfl (hb hby dAL_34) rfl ?_
    refine XS.aloadN X107.here hx rfl (hb hby dAL_36) rfl rfl ?_
    show Steps _ _ _ (T107.setTop (mkF m 37 #[.val (.ref th), .val (.ref vb), .val (.double (FP.l2d 0)), .second, .val (.int (0 : Int32)), .val (.double (FP.l2d (0 + m0 * x0))), .second, .val (.int (1 : Int32))] [(.ref th), (.double (FP.l2d (0 + m0 * x0)))])) _
    refine st108 _ ?_
    refine XS.iload X108.here hx rfl (hb hby dAL_40) rfl ?_
    refine XS.aloadN X108.here hx rfl (hb hby dAL_42) rfl rfl ?_
    show Steps _ _ _ (T108.setTop (mkF m 43 #[.val (.ref th), .val (.ref vb), .val (.double (FP.l2d 0)), .second, .val (.int (0 : Int32)), .val (.double (FP.l2d (0 + m0 * x0))), .second, .val (.int (1 : Int32))] [(.ref th), (.int (0 : Int32)), (.ref sm), (.double (FP.l2d (0 + m0 * x0)))])) _
    refine st109 _ ?_
    refine XS.imul X109.here hx rfl (hb hby dAL_46) rfl ?_
    refine XS.iload X109.here hx rfl (hb hby dAL_47) rfl ?_
    refine XS.iadd X109.here hx rfl (hb hby dAL_49) rfl ?_
    show Steps _ _ _ (T109.setTop (mkF m 50 #[.val (.ref th), .val (.ref vb), .val (.double (FP.l2d 0)), .second, .val (.int (0 : Int32)), .val (.double (FP.l2d (0 + m0 * x0))), .second, .val (.int (1 : Int32))] [(.int (1 : Int32)), (.ref sm), (.double (FP.l2d (0 + m0 * x0)))])) _
    refine X109.daload hx (j := (1 : Int32)) (v := (.double (FP.l2d m1))) (by rw [e109]; exact Ar110.1) (State.isArrayOf_alike hZ.alike Ar110.2.1) Ar110.2.2 hin110 hat110 (g := (mkF m 50 #[.val (.ref th), .val (.ref vb), .val (.double (FP.l2d 0)), .second, .val (.int (0 : Int32)), .val (.double (FP.l2d (0 + m0 * x0))), .second, .val (.int (1 : Int32))] [(.int (1 : Int32)), (.ref sm), (.double (FP.l2d (0 + m0 * x0)))])) rfl rfl (hb hby dAL_50) _ ?_
    refine XS.aloadN X109.here hx rfl (hb hby dAL_51) rfl rfl ?_
    refine XS.iload X109.here hx rfl (hb hby dAL_52) rfl ?_
    show Steps _ _ _ (T109.setTop (mkF m 54 #[.val (.ref th), .val (.ref vb), .val (.double (FP.l2d 0)), .second, .val (.int (0 : Int32)), .val (.double (FP.l2d (0 + m0 * x0))), .second, .val (.int (1 : Int32))] [(.int (1 : Int32)), (.ref vb), (.double (FP.l2d m1)), (.double (FP.l2d (0 + m0 * x0)))])) _
    refine X109.daload hx (j := (1 : Int32)) (v := (.double (FP.l2d x1))) (by rw [e109]; exact Ar111.1) (State.isArrayOf_alike hZ.alike Ar111.2.1) Ar111.2.2 hin111 hat111 (g := (mkF m 54 #[.val (.ref th), .val (.ref vb), .val (.double (FP.l2d 0)), .second, .val (.int (0 : Int32)), .val (.double (FP.l2d (0 + m0 * x0))), .second, .val (.int (1 : Int32))] [(.int (1 : Int32)), (.ref vb), (.double (FP.l2d m1)), (.double (FP.l2d (0 + m0 * x0)))])) rfl rfl (hb hby dAL_54) _ ?_
    refine XS.dmulS X109.here hx rfl (hb hby dAL_55) rfl (v := (FP.dmul (FP.l2d m1) (FP.l2d x1))) (own_mulNN _ _) rfl ?_
    refine XS.daddS X109.here hx rfl (hb hby dAL_56) rfl (v := (FP.l2d ((0 + m0 * x0) + m1 * x1))) (nn_w Bq112.1) Bq112.1 ?_
    refine XS.dstore X109.here hx rfl (hb hby dAL_57) rfl (l' := #[.val (.ref th), .val (.ref vb), .val (.double (FP.l2d 0)), .second, .val (.int (0 : Int32)), .val (.double (FP.l2d ((0 + m0 * x0) + m1 * x1))), .second, .val (.int (1 : Int32))]) rfl ?_
    show Steps _ _ _ (T109.setTop (mkF m 59 #[.val (.ref th), .val (.ref vb), .val (.double (FP.l2d 0)), .second, .val (.int (0 : Int32)), .val (.double (FP.l2d ((0 + m0 * x0) + m1 * x1))), .second, .val (.int (1 : Int32))] [])) _
    refine XS.iinc X109.here hx rfl (hb hby dAL_59) rfl (l' := #[.val (.ref th), .val (.ref vb), .val (.double (FP.l2d 0)), .second, .val (.int (0 : Int32)), .val (.double (FP.l2d ((0 + m0 * x0) + m1 * x1))), .second, .val (.int (2 : Int32))]) rfl ?_
    refine XS.goto X109.here hx rfl (pc0 := 62) (pc' := 25) rfl (hb hby dAL_62) (by decide) (by decide) ?_
    refine XS.iload X109.here hx rfl (hb hby dAL_25) rfl ?_
    refine XS.aloadN X109.here hx rfl (hb hby dAL_27) rfl rfl ?_
    show Steps _ _ _ (T109.setTop (mkF m 28 #[.val (.ref th), .val (.ref vb), .val (.double (FP.l2d 0)), .second, .val (.int (0 : Int32)), .val (.double (FP.l2d ((0 + m0 * x0) + m1 * x1))), .second, .val (.int (2 : Int32))] [(.ref th), (.int (2 : Int32))])) _
    refine st113 _ ?_
    refine XS.icmpNo X113.here hx rfl (hb hby dAL_31) rfl (by decide) ?_
    refine XS.dload X113.here hx rfl (hb hby dAL_34) rfl ?_
    refine XS.aloadN X113.here hx rfl (hb hby dAL_36) rfl rfl ?_
    show Steps _ _ _ (T113.setTop (mkF m 37 #[.val (.ref th), .val (.ref vb), .val (.double (FP.l2d 0)), .second, .val (.int (0 : Int32)), .val (.double (FP.l2d ((0 + m0 * x0) + m1 * x1))), .second, .val (.int (2 : Int32))] [(.ref th), (.double (FP.l2d ((0 + m0 * x0) + m1 * x1)))])) _
    refine st114 _ ?_
    refine XS.iload X114.here hx rfl (hb hby dAL_40) rfl ?_
    refine XS.aloadN X114.here hx rfl (hb hby dAL_42) rfl rfl ?_
    show Steps _ _ _ (T114.setTop (mkF m 43 #[.val (.ref th), .val (.ref vb), .val (.double (FP.l2d 0)), .second, .val (.int (0 : Int32)), .val (.double (FP.l2d ((0 + m0 * x0) + m1 * x1))), .second, .val (.int (2 : Int32))] [(.ref th), (.int (0 : Int32)), (.ref sm), (.double (FP.l2d ((0 + m0 * x0) + m1 * x1)))])) _
    refine st115 _ ?_
    refine XS.imul X115.here hx rfl (hb hby dAL_46) rfl ?_
    refine XS.iload X115.here hx rfl (hb hby dAL_47) rfl ?_
    refine XS.iadd X115.here hx rfl (hb hby dAL_49) rfl ?_
    show Steps _ _ _ (T115.setTop (mkF m 50 #[.val (.ref th), .val (.ref vb), .val (.double (FP.l2d 0)), .second, .val (.int (0 : Int32)), .val (.double (FP.l2d ((0 + m0 * x0) + m1 * x1))), .second, .val (.int (2 : Int32))] [(.int (2 : Int32)), (.ref sm), (.double (FP.l2d ((0 + m0 * x0) + m1 * x1)))])) _
    refine X115.daload hx (j := (2 : Int32)) (v := (.double (FP.l2d m2))) (by rw [e115]; exact Ar116.1) (State.isArrayOf_alike hZ.alike Ar116.2.1) Ar116.2.2 hin116 hat116 (g := (mkF m 50 #[.val (.ref th), .val (.ref vb), .val (.double (FP.l2d 0)), .second, .val (.int (0 : Int32)), .val (.double (FP.l2d ((0 + m0 * x0) + m1 * x1))), .second, .val (.int (2 : Int32))] [(.int (2 : Int32)), (.ref sm), (.double (FP.l2d ((0 + m0 * x0) + m1 * x1)))])) rfl rfl (hb hby dAL_50) _ ?_
    refine XS.aloadN X115.here hx rfl (hb hby dAL_51) rfl rfl ?_
    refine XS.iload X115.here hx rfl (hb hby dAL_52) rfl ?_
    show Steps _ _ _ (T115.setTop (mkF m 54 #[.val (.ref th), .val (.ref vb), .val (.double (FP.l2d 0)), .second, .val (.int (0 : Int32)), .val (.double (FP.l2d ((0 + m0 * x0) + m1 * x1))), .second, .val (.int (2 : Int32))] [(.int (2 : Int32)), (.ref vb), (.double (FP.l2d m2)), (.double (FP.l2d ((0 + m0 * x0) + m1 * x1)))])) _
    refine X115.daload hx (j := (2 : Int32)) (v := (.double (FP.l2d x2))) (by rw [e115]; exact Ar117.1) (State.isArrayOf_alike hZ.alike Ar117.2.1) Ar117.2.2 hin117 hat117 (g := (mkF m 54 #[.val (.ref th), .val (.ref vb), .val (.double (FP.l2d 0)), .second, .val (.int (0 : Int32)), .val (.double (FP.l2d ((0 + m0 * x0) + m1 * x1))), .second, .val (.int (2 : Int32))] [(.int (2 : Int32)), (.ref vb), (.double (FP.l2d m2)), (.double (FP.l2d ((0 + m0 * x0) + m1 * x1)))])) rfl rfl (hb hby dAL_54) _ ?_
    refine XS.dmulS X115.here hx rfl (hb hby dAL_55) rfl (v := (FP.dmul (FP.l2d m2) (FP.l2d x2))) (own_mulNN _ _) rfl ?_
    refine XS.daddS X115.here hx rfl (hb hby dAL_56) rfl (v := (FP.l2d (((0 + m0 * x0) + m1 * x1) + m2 * x2))) (nn_w Bq118.1) Bq118.1 ?_
    refine XS.dstore X115.here hx rfl (hb hby dAL_57) rfl (l' := #[.val (.ref th), .val (.ref vb), .val (.double (FP.l2d 0)), .second, .val (.int (0 : Int32)), .val (.double (FP.l2d (((0 + m0 * x0) + m1 * x1) + m2 * x2))), .second, .val (.int (2 : Int32))]) rfl ?_
    show Steps _ _ _ (T115.setTop (mkF m 59 #[.val (.ref th), .val (.ref vb), .val (.double (FP.l2d 0)), .second, .val (.int (0 : Int32)), .val (.double (FP.l2d (((0 + m0 * x0) + m1 * x1) + m2 * x2))), .second, .val (.int (2 : Int32))] [])) _
    refine XS.iinc X115.here hx rfl (hb hby dAL_59) rfl (l' := #[.val (.ref th), .val (.ref vb), .val (.double (FP.l2d 0)), .second, .val (.int (0 : Int32)), .val (.double (FP.l2d (((0 + m0 * x0) + m1 * x1) + m2 * x2))), .second, .val (.int (3 : Int32))]) rfl ?_
    refine XS.goto X115.here hx rfl (pc0 := 62) (pc' := 25) rfl (hb hby dAL_62) (by decide) (by decide) ?_
    refine XS.iload X115.here hx rfl (hb hby dAL_25) rfl ?_
    refine XS.aloadN X115.here hx rfl (hb hby dAL_27) rfl rfl ?_
    show Steps _ _ _ (T115.setTop (mkF m 28 #[.val (.ref th), .val (.ref vb), .val (.double (FP.l2d 0)), .second, .val (.int (0 : Int32)), .val (.double (FP.l2d (((0 + m0 * x0) + m1 * x1) + m2 * x2))), .second, .val (.int (3 : Int32))] [(.ref th), (.int (3 : Int32))])) _
    refine st119 _ ?_
    refine XS.icmpYes X119.here hx rfl (pc0 := 31) (pc' := 65) rfl (hb hby dAL_31) rfl (by decide) (by decide) (by decide) ?_
    refine XS.dloadN X119.here hx rfl (hb hby dAL_65) rfl ?_
    refine XS.aloadN X119.here hx rfl (hb hby dAL_66) rfl rfl ?_
    show Steps _ _ _ (T119.setTop (mkF m 67 #[.val (.ref th), .val (.ref vb), .val (.double (FP.l2d 0)), .second, .val (.int (0 : Int32)), .val (.double (FP.l2d (((0 + m0 * x0) + m1 * x1) + m2 * x2))), .second, .val (.int (3 : Int32))] [(.ref vb), (.double (FP.l2d 0))])) _
    refine XS.iload X119.here hx rfl (hb hby dAL_67) rfl ?_
    show Steps _ _ _ (T119.setTop (mkF m 69 #[.val (.ref th), .val (.ref vb), .val (.double (FP.l2d 0)), .second, .val (.int (0 : Int32)), .val (.double (FP.l2d (((0 + m0 * x0) + m1 * x1) + m2 * x2))), .second, .val (.int (3 : Int32))] [(.int (0 : Int32)), (.ref vb), (.double (FP.l2d 0))])) _
    refine X119.daload hx (j := (0 : Int32)) (v := (.double (FP.l2d x0))) (by rw [e119]; exact Ar120.1) (State.isArrayOf_alike hZ.alike Ar120.2.1) Ar120.2.2 hin120 hat120 (g := (mkF m 69 #[.val (.ref th), .val (.ref vb), .val (.double (FP.l2d 0)), .second, .val (.int (0 : Int32)), .val (.double (FP.l2d (((0 + m0 * x0) + m1 * x1) + m2 * x2))), .second, .val (.int (3 : Int32))] [(.int (0 : Int32)), (.ref vb), (.double (FP.l2d 0))])) rfl rfl (hb hby dAL_69) _ ?_
    refine XS.dload X119.here hx rfl (hb hby dAL_70) rfl ?_
    refine XS.dmulS X119.here hx rfl (hb hby dAL_72) rfl (v := (FP.dmul (FP.l2d x0) (FP.l2d (((0 + m0 * x0) + m1 * x1) + m2 * x2)))) (own_mulNN _ _) rfl ?_
    refine XS.daddS X119.here hx rfl (hb hby dAL_73) rfl (v := (FP.l2d (0 + x0 * (((0 + m0 * x0) + m1 * x1) + m2 * x2)))) (nn_w Bq121.1) Bq121.1 ?_
    show Steps _ _ _ (T119.setTop (mkF m 74 #[.val (.ref th), .val (.ref vb), .val (.double (FP.l2d 0)), .second, .val (.int (0 : Int32)), .val (.double (FP.l2d (((0 + m0 * x0) + m1 * x1) + m2 * x2))), .second, .val (.int (3 : Int32))] [(.double (FP.l2d (0 + x0 * (((0 + m0 * x0) + m1 * x1) + m2 * x2))))])) _
    refine XS.dstoreN X119.here hx rfl (hb hby dAL_74) rfl (l' := #[.val (.ref th), .val (.ref vb), .val (.double (FP.l2d (0 + x0 * (((0 + m0 * x0) + m1 * x1) + m2 * x2)))), .second, .val (.int (0 : Int32)), .val (.double (FP.l2d (((0 + m0 * x0) + m1 * x1) + m2 * x2))), .second, .val (.int (3 : Int32))]) rfl ?_
    refine XS.iinc X119.here hx rfl (hb hby dAL_75) rfl (l' := #[.val (.ref th), .val (.ref vb), .val (.double (FP.l2d (0 + x0 * (((0 + m0 * x0) + m1 * x1) + m2 * x2)))), .second, .val (.int (1 : Int32)), .val (.double (FP.l2d (((0 + m0 * x0) + m1 * x1) + m2 * x2))), .second, .val (.int (3 : Int32))]) rfl ?_
    refine XS.goto X119.here hx rfl (pc0 := 78) (pc' := 10) rfl (hb hby dAL_78) (by decide) (by decide) ?_
    refine XS.iload X119.here hx rfl (hb hby dAL_10) rfl ?_
    show Steps _ _ _ (T119.setTop (mkF m 12 #[.val (.ref th), .val (.ref vb), .val (.double (FP.l2d (0 + x0 * (((0 + m0 * x0) + m1 * x1) + m2 * x2)))), .second, .val (.int (1 : Int32)), .val (.double (FP.l2d (((0 + m0 * x0) + m1 * x1) + m2 * x2))), .second, .val (.int (3 : Int32))] [(.int (1 : Int32))])) _
    refine XS.aloadN X119.here hx rfl (hb hby dAL_12) rfl rfl ?_
    show Steps _ _ _ (T119.setTop (mkF m 13 #[.val (.ref th), .val (.ref vb), .val (.double (FP.l2d (0 + x0 * (((0 + m0 * x0) + m1 * x1) + m2 * x2)))), .second, .val (.int (1 : Int32)), .val (.double (FP.l2d (((0 + m0 * x0) + m1 * x1) + m2 * x2))), .second, .val (.int (3 : Int32))] [(.ref th), (.int (1 : Int32))])) _
    refine st122 _ ?_
    refine XS.icmpNo X122.here hx rfl (hb hby dAL_16) rfl (by decide) ?_
    refine XS.dconst0 X122.here hx rfl (hb hby dAL_19) (v := (FP.l2d 0)) own_d0 ?_
    refine XS.dstore X122.here hx rfl (hb hby dAL_20) rfl (l' := #[.val (.ref th), .val (.ref vb), .val (.double (FP.l2d (0 + x0 * (((0 + m0 * x0) + m1 * x1) + m2 * x2)))), .second, .val (.int (1 : Int32)), .val (.double (FP.l2d 0)), .second, .val (.int (3 : Int32))]) rfl ?_
    show Steps _ _ _ (T122.setTop (mkF m 22 #[.val (.ref th), .val (.ref vb), .val (.double (FP.l2d (0 + x0 * (((0 + m0 * x0) + m1 * x1) + m2 * x2)))), .second, .val (.int (1 : Int32)), .val (.double (FP.l2d 0)), .second, .val (.int (3 : Int32))] [])) _
    refine XS.iconst X122.here hx rfl (hb hby dAL_22) ?_
    refine XS.istore X122.here hx rfl (hb hby dAL_23) rfl (l' := #[.val (.ref th), .val (.ref vb), .val (.double (FP.l2d (0 + x0 * (((0 + m0 * x0) + m1 * x1) + m2 * x2)))), .second, .val (.int (1 : Int32)), .val (.double (FP.l2d 0)), .second, .val (.int (0 : Int32))]) rfl ?_
    refine XS.iload X122.here hx rfl (hb hby dAL_25) rfl ?_
    refine XS.aloadN X122.here hx rfl (hb hby dAL_27) rfl rfl ?_
    show Steps _ _ _ (T122.setTop (mkF m 28 #[.val (.ref th), .val (.ref vb), .val (.double (FP.l2d (0 + x0 * (((0 + m0 * x0) + m1 * x1) + m2 * x2)))), .second, .val (.int (1 : Int32)), .val (.double (FP.l2d 0)), .second, .val (.int (0 : Int32))] [(.ref th), (.int (0 : Int32))])) _
    refine st123 _ ?_
    refine XS.icmpNo X123.here hx rfl (hb hby dAL_31) rfl (by decide) ?_
    refine XS.dload X123.here hx rfl (hb hby dAL_34) rfl ?_
    refine XS.aloadN X123.here hx rfl (hb hby dAL_36) rfl rfl ?_
    show Steps _ _ _ (T123.setTop (mkF m 37 #[.val (.ref th), .val (.ref vb), .val (.double (FP.l2d (0 + x0 * (((0 + m0 * x0) + m1 * x1) + m2 * x2)))), .second, .val (.int (1 : Int32)), .val (.double (FP.l2d 0)), .second, .val (.int (0 : Int32))] [(.ref th), (.double (FP.l2d 0))])) _
    refine st124 _ ?_
    refine XS.iload X124.here hx rfl (hb hby dAL_40) rfl ?_
    refine XS.aloadN X124.here hx rfl (hb hby dAL_42) rfl rfl ?_
    show Steps _ _ _ (T124.setTop (mkF m 43 #[.val (.ref th), .val (.ref vb), .val (.double (FP.l2d (0 + x0 * (((0 + m0 * x0) + m1 * x1) + m2 * x2)))), .second, .val (.int (1 : Int32)), .val (.double (FP.l2d 0)), .second, .val (.int (0 : Int32))] [(.ref th), (.int (1 : Int32)), (.ref sm), (.double (FP.l2d 0))])) _
    refine st125 _ ?_
    refine XS.imul X125.here hx rfl (hb hby dAL_46) rfl ?_
    refine XS.iload X125.here hx rfl (hb hby dAL_47) rfl ?_
    refine XS.iadd X125.here hx rfl (hb hby dAL_49) rfl ?_
    show Steps _ _ _ (T125.setTop (mkF m 50 #[.val (.ref th), .val (.ref vb), .val (.double (FP.l2d (0 + x0 * (((0 + m0 * x0) + m1 * x1) + m2 * x2)))), .second, .val (.int (1 : Int32)), .val (.double (FP.l2d 0)), .second, .val (.int (0 : Int32))] [(.int (3 : Int32)), (.ref sm), (.double (FP.l2d 0))])) _
    refine X125.daload hx (j := (3 : Int32)) (v := (.double (FP.l2d m3))) (by rw [e125]; exact Ar126.1) (State.isArrayOf_alike hZ.alike Ar126.2.1) Ar126.2.2 hin126 hat126 (g := (mkF m 50 #[.val (.ref th), .val (.ref vb), .val (.double (FP.l2d (0 + x0 * (((0 + m0 * x0) + m1 * x1) + m2 * x2)))), .second, .val (.int (1 : Int32)), .val (.double (FP.l2d 0)), .second, .val (.int (0 : Int32))] [(.int (3 : Int32)), (.ref sm), (.double (FP.l2d 0))])) rfl rfl (hb hby dAL_50) _ ?_
    refine XS.aloadN X125.here hx rfl (hb hby dAL_51) rfl rfl ?_
    refine XS.iload X125.here hx rfl (hb hby dAL_52) rfl ?_
    show Steps _ _ _ (T125.setTop (mkF m 54 #[.val (.ref th), .val (.ref vb), .val (.double (FP.l2d (0 + x0 * (((0 + m0 * x0) + m1 * x1) + m2 * x2)))), .second, .val (.int (1 : Int32)), .val (.double (FP.l2d 0)), .second, .val (.int (0 : Int32))] [(.int (0 : Int32)), (.ref vb), (.double (FP.l2d m3)), (.double (FP.l2d 0))])) _
    refine X125.daload hx (j := (0 : Int32)) (v := (.double (FP.l2d x0))) (by rw [e125]; exact Ar127.1) (State.isArrayOf_alike hZ.alike Ar127.2.1) Ar127.2.2 hin127 hat127 (g := (mkF m 54 #[.val (.ref th), .val (.ref vb), .val (.double (FP.l2d (0 + x0 * (((0 + m0 * x0) + m1 * x1) + m2 * x2)))), .second, .val (.int (1 : Int32)), .val (.double (FP.l2d 0)), .second, .val (.int (0 : Int32))] [(.int (0 : Int32)), (.ref vb), (.double (FP.l2d m3)), (.double (FP.l2d 0))])) rfl rfl (hb hby dAL_54) _ ?_
    refine XS.dmulS X125.here hx rfl (hb hby dAL_55) rfl (v := (FP.dmul (FP.l2d m3) (FP.l2d x0))) (own_mulNN _ _) rfl ?_
    refine XS.daddS X125.here hx rfl (hb hby dAL_56) rfl (v := (FP.l2d (0 + m3 * x0))) (nn_w Bq128.1) Bq128.1 ?_
    refine XS.dstore X125.here hx rfl (hb hby dAL_57) rfl (l' := #[.val (.ref th), .val (.ref vb), .val (.double (FP.l2d (0 + x0 * (((0 + m0 * x0) + m1 * x1) + m2 * x2)))), .second, .val (.int (1 : Int32)), .val (.double (FP.l2d (0 + m3 * x0))), .second, .val (.int (0 : Int32))]) rfl ?_
    show Steps _ _ _ (T125.setTop (mkF m 59 #[.val (.ref th), .val (.ref vb), .val (.double (FP.l2d (0 + x0 * (((0 + m0 * x0) + m1 * x1) + m2 * x2)))), .second, .val (.int (1 : Int32)), .val (.double (FP.l2d (0 + m3 * x0))), .second, .val (.int (0 : Int32))] [])) _
    refine XS.iinc X125.here hx rfl (hb hby dAL_59) rfl (l' := #[.val (.ref th), .val (.ref vb), .val (.double (FP.l2d (0 + x0 * (((0 + m0 * x0) + m1 * x1) + m2 * x2)))), .second, .val (.int (1 : Int32)), .val (.double (FP.l2d (0 + m3 * x0))), .second, .val (.int (1 : Int32))]) rfl ?_
    refine XS.goto X125.here hx rfl (pc0 := 62) (pc' := 25) rfl (hb hby dAL_62) (by decide) (by decide) ?_
    refine XS.iload X125.here hx rfl (hb hby dAL_25) rfl ?_
    refine XS.aloadN X125.here hx rfl (hb hby dAL_27) rfl rfl ?_
    show Steps _ _ _ (T125.setTop (mkF m 28 #[.val (.ref th), .val (.ref vb), .val (.double (FP.l2d (0 + x0 * (((0 + m0 * x0) + m1 * x1) + m2 * x2)))), .second, .val (.int (1 : Int32)), .val (.double (FP.l2d (0 + m3 * x0))), .second, .val (.int (1 : Int32))] [(.ref th), (.int (1 : Int32))])) _
    refine st129 _ ?_
    refine XS.icmpNo X129.here hx rfl (hb hby dAL_31) rfl (by decide) ?_
    refine XS.dload X129.here hx rfl (hb hby dAL_34) rfl ?_
    refine XS.aloadN X129.here hx rfl (hb hby dAL_36) rfl rfl ?_
    show Steps _ _ _ (T129.setTop (mkF m 37 #[.val (.ref th), .val (.ref vb), .val (.double (FP.l2d (0 + x0 * (((0 + m0 * x0) + m1 * x1) + m2 * x2)))), .second, .val (.int (1 : Int32)), .val (.double (FP.l2d (0 + m3 * x0))), .second, .val (.int (1 : Int32))] [(.ref th), (.double (FP.l2d (0 + m3 * x0)))])) _
    refine st130 _ ?_
    refine XS.iload X130.here hx rfl (hb hby dAL_40) rfl ?_
    refine XS.aloadN X130.here hx rfl (hb hby dAL_42) rfl rfl ?_
    show Steps _ _ _ (T130.setTop (mkF m 43 #[.val (.ref th), .val (.ref vb), .val (.double (FP.l2d (0 + x0 * (((0 + m0 * x0) + m1 * x1) + m2 * x2)))), .second, .val (.int (1 : Int32)), .val (.double (FP.l2d (0 + m3 * x0))), .second, .val (.int (1 : Int32))] [(.ref th), (.int (1 : Int32)), (.ref sm), (.double (FP.l2d (0 + m3 * x0)))])) _
    refine st131 _ ?_
    refine XS.imul X131.here hx rfl (hb hby dAL_46) rfl ?_
    refine XS.iload X131.here hx rfl (hb hby dAL_47) rfl ?_
    refine XS.iadd X131.here hx rfl (hb hby dAL_49) rfl ?_
    show Steps _ _ _ (T131.setTop (mkF m 50 #[.val (.ref th), .val (.ref vb), .val (.double (FP.l2d (0 + x0 * (((0 + m0 * x0) + m1 * x1) + m2 * x2)))), .second, .val (.int (1 : Int32)), .val (.double (FP.l2d (0 + m3 * x0))), .second, .val (.int (1 : Int32))] [(.int (4 : Int32)), (.ref sm), (.double (FP.l2d (0 + m3 * x0)))])) _
    refine X131.daload hx (j := (4 : Int32)) (v := (.double (FP.l2d m4))) (by rw [e131]; exact Ar132.1) (State.isArrayOf_alike hZ.alike Ar132.2.1) Ar132.2.2 hin132 hat132 (g := (mkF m 50 #[.val (.ref th), .val (.ref vb), .val (.double (FP.l2d (0 + x0 * (((0 + m0 * x0) + m1 * x1) + m2 * x2)))), .second, .val (.int (1 : Int32)), .val (.double (FP.l2d (0 + m3 * x0))), .second, .val (.int (1 : Int32))] [(.int (4 : Int32)), (.ref sm), (.double (FP.l2d (0 + m3 * x0)))])) rfl rfl (hb hby dAL_50) _ ?_
    refine XS.aloadN X131.here hx rfl (hb hby dAL_51) rfl rfl ?_
    refine XS.iload X131.here hx rfl (hb hby dAL_52) rfl ?_
    show Steps _ _ _ (T131.setTop (mkF m 54 #[.val (.ref th), .val (.ref vb), .val (.double (FP.l2d (0 + x0 * (((0 + m0 * x0) + m1 * x1) + m2 * x2)))), .second, .val (.int (1 : Int32)), .val (.double (FP.l2d (0 + m3 * x0))), .second, .val (.int (1 : Int32))] [(.int (1 : Int32)), (.ref vb), (.double (FP.l2d m4)), (.double (FP.l2d (0 + m3 * x0)))])) _
    refine X131.daload hx (j := (1 : Int32)) (v := (.double (FP.l2d x1))) (by rw [e131]; exact Ar133.1) (State.isArrayOf_alike hZ.alike Ar133.2.1) Ar133.2.2 hin133 hat133 (g := (mkF m 54 #[.val (.ref th), .val (.ref vb), .val (.double (FP.l2d (0 + x0 * (((0 + m0 * x0) + m1 * x1) + m2 * x2)))), .second, .val (.int (1 : Int32)), .val (.double (FP.l2d (0 + m3 * x0))), .second, .val (.int (1 : Int32))] [(.int (1 : Int32)), (.ref vb), (.double (FP.l2d m4)), (.double (FP.l2d (0 + m3 * x0)))])) rfl rfl (hb hby dAL_54) _ ?_
    refine XS.dmulS X131.here hx rfl (hb hby dAL_55) rfl (v := (FP.dmul (FP.l2d m4) (FP.l2d x1))) (own_mulNN _ _) rfl ?_
    refine XS.daddS X131.here hx rfl (hb hby dAL_56) rfl (v := (FP.l2d ((0 + m3 * x0) + m4 * x1))) (nn_w Bq134.1) Bq134.1 ?_
    refine XS.dstore X131.here hx rfl (hb hby dAL_57) rfl (l' := #[.val (.ref th), .val (.ref vb), .val (.double (FP.l2d (0 + x0 * (((0 + m0 * x0) + m1 * x1) + m2 * x2)))), .second, .val (.int (1 : Int32)), .val (.double (FP.l2d ((0 + m3 * x0) + m4 * x1))), .second, .val (.int (1 : Int32))]) rfl ?_
    show Steps _ _ _ (T131.setTop (mkF m 59 #[.val (.ref th), .val (.ref vb), .val (.double (FP.l2d (0 + x0 * (((0 + m0 * x0) + m1 * x1) + m2 * x2)))), .second, .val (.int (1 : Int32)), .val (.double (FP.l2d ((0 + m3 * x0) + m4 * x1))), .second, .val (.int (1 : Int32))] [])) _
    refine XS.iinc X131.here hx rfl (hb hby dAL_59) rfl (l' := #[.val (.ref th), .val (.ref vb), .val (.double (FP.l2d (0 + x0 * (((0 + m0 * x0) + m1 * x1) + m2 * x2)))), .second, .val (.int (1 : Int32)), .val (.double (FP.l2d ((0 + m3 * x0) + m4 * x1))), .second, .val (.int (2 : Int32))]) rfl ?_
    refine XS.goto X131.here hx rfl (pc0 := 62) (pc' := 25) rfl (hb hby dAL_62) (by decide) (by decide) ?_
    refine XS.iload X131.here hx rfl (hb hby dAL_25) rfl ?_
    refine XS.aloadN X131.here hx rfl (hb hby dAL_27) rfl rfl ?_
    show Steps _ _ _ (T131.setTop (mkF m 28 #[.val (.ref th), .val (.ref vb), .val (.double (FP.l2d (0 + x0 * (((0 + m0 * x0) + m1 * x1) + m2 * x2)))), .second, .val (.int (1 : Int32)), .val (.double (FP.l2d ((0 + m3 * x0) + m4 * x1))), .second, .val (.int (2 : Int32))] [(.ref th), (.int (2 : Int32))])) _
    refine st135 _ ?_
    refine XS.icmpNo X135.here hx rfl (hb hby dAL_31) rfl (by decide) ?_
    refine XS.dload X135.here hx rfl (hb hby dAL_34) rfl ?_
    refine XS.aloadN X135.here hx rfl (hb hby dAL_36) rfl rfl ?_
    show Steps _ _ _ (T135.setTop (mkF m 37 #[.val (.ref th), .val (.ref vb), .val (.double (FP.l2d (0 + x0 * (((0 + m0 * x0) + m1 * x1) + m2 * x2)))), .second, .val (.int (1 : Int32)), .val (.double (FP.l2d ((0 + m3 * x0) + m4 * x1))), .second, .val (.int (2 : Int32))] [(.ref th), (.double (FP.l2d ((0 + m3 * x0) + m4 * x1)))])) _
    refine st136 _ ?_
    refine XS.iload X136.here hx rfl (hb hby dAL_40) rfl ?_
    refine XS.aloadN X136.here hx rfl (hb hby dAL_42) rfl rfl ?_
    show Steps _ _ _ (T136.setTop (mkF m 43 #[.val (.ref th), .val (.ref vb), .val (.double (FP.l2d (0 + x0 * (((0 + m0 * x0) + m1 * x1) + m2 * x2)))), .second, .val (.int (1 : Int32)), .val (.double (FP.l2d ((0 + m3 * x0) + m4 * x1))), .second, .val (.int (2 : Int32))] [(.ref th), (.int (1 : Int32)), (.ref sm), (.double (FP.l2d ((0 + m3 * x0) + m4 * x1)))])) _
    refine st137 _ ?_
    refine XS.imul X137.here hx rfl (hb hby dAL_46) rfl ?_
    refine XS.iload X137.here hx rfl (hb hby dAL_47) rfl ?_
    refine XS.iadd X137.here hx rfl (hb hby dAL_49) rfl ?_
    show Steps _ _ _ (T137.setTop (mkF m 50 #[.val (.ref th), .val (.ref vb), .val (.double (FP.l2d (0 + x0 * (((0 + m0 * x0) + m1 * x1) + m2 * x2)))), .second, .val (.int (1 : Int32)), .val (.double (FP.l2d ((0 + m3 * x0) + m4 * x1))), .second, .val (.int (2 : Int32))] [(.int (5 : Int32)), (.ref sm), (.double (FP.l2d ((0 + m3 * x0) + m4 * x1)))])) _
    refine X137.daload hx (j := (5 : Int32)) (v := (.double (FP.l2d m5))) (by rw [e137]; exact Ar138.1) (State.isArrayOf_alike hZ.alike Ar138.2.1) Ar138.2.2 hin138 hat138 (g := (mkF m 50 #[.val (.ref th), .val (.ref vb), .val (.double (FP.l2d (0 + x0 * (((0 + m0 * x0) + m1 * x1) + m2 * x2)))), .second, .val (.int (1 : Int32)), .val (.double (FP.l2d ((0 + m3 * x0) + m4 * x1))), .second, .val (.int (2 : Int32))] [(.int (5 : Int32)), (.ref sm), (.double (FP.l2d ((0 + m3 * x0) + m4 * x1)))])) rfl rfl (hb hby dAL_50) _ ?_
    refine XS.aloadN X137.here hx rfl (hb hby dAL_51) rfl rfl ?_
    refine XS.iload X137.here hx rfl (hb hby dAL_52) rfl ?_
    show Steps _ _ _ (T137.setTop (mkF m 54 #[.val (.ref th), .val (.ref vb), .val (.double (FP.l2d (0 + x0 * (((0 + m0 * x0) + m1 * x1) + m2 * x2)))), .second, .val (.int (1 : Int32)), .val (.double (FP.l2d ((0 + m3 * x0) + m4 * x1))), .second, .val (.int (2 : Int32))] [(.int (2 : Int32)), (.ref vb), (.double (FP.l2d m5)), (.double (FP.l2d ((0 + m3 * x0) + m4 * x1)))])) _
    refine X137.daload hx (j := (2 : Int32)) (v := (.double (FP.l2d x2))) (by rw [e137]; exact Ar139.1) (State.isArrayOf_alike hZ.alike Ar139.2.1) Ar139.2.2 hin139 hat139 (g := (mkF m 54 #[.val (.ref th), .val (.ref vb), .val (.double (FP.l2d (0 + x0 * (((0 + m0 * x0) + m1 * x1) + m2 * x2)))), .second, .val (.int (1 : Int32)), .val (.double (FP.l2d ((0 + m3 * x0) + m4 * x1))), .second, .val (.int (2 : Int32))] [(.int (2 : Int32)), (.ref vb), (.double (FP.l2d m5)), (.double (FP.l2d ((0 + m3 * x0) + m4 * x1)))])) rfl rfl (hb hby dAL_54) _ ?_
    refine XS.dmulS X137.here hx rfl (hb hby dAL_55) rfl (v := (FP.dmul (FP.l2d m5) (FP.l2d x2))) (own_mulNN _ _) rfl ?_
    refine XS.daddS X137.here hx rfl (hb hby dAL_56) rfl (v := (FP.l2d (((0 + m3 * x0) + m4 * x1) + m5 * x2))) (nn_w Bq140.1) Bq140.1 ?_
    refine XS.dstore X137.here hx rfl (hb hby dAL_57) rfl (l' := #[.val (.ref th), .val (.ref vb), .val (.double (FP.l2d (0 + x0 * (((0 + m0 * x0) + m1 * x1) + m2 * x2)))), .second, .val (.int (1 : Int32)), .val (.double (FP.l2d (((0 + m3 * x0) + m4 * x1) + m5 * x2))), .second, .val (.int (2 : Int32))]) rfl ?_
    show Steps _ _ _ (T137.setTop (mkF m 59 #[.val (.ref th), .val (.ref vb), .val (.double (FP.l2d (0 + x0 * (((0 + m0 * x0) + m1 * x1) + m2 * x2)))), .second, .val (.int (1 : Int32)), .val (.double (FP.l2d (((0 + m3 * x0) + m4 * x1) + m5 * x2))), .second, .val (.int (2 : Int32))] [])) _
    refine XS.iinc X137.here hx rfl (hb hby dAL_59) rfl (l' := #[.val (.ref th), .val (.ref vb), .val (.double (FP.l2d (0 + x0 * (((0 + m0 * x0) + m1 * x1) + m2 * x2)))), .second, .val (.int (1 : Int32)), .val (.double (FP.l2d (((0 + m3 * x0) + m4 * x1) + m5 * x2))), .second, .val (.int (3 : Int32))]) rfl ?_
    refine XS.goto X137.here hx rfl (pc0 := 62) (pc' := 25) rfl (hb hby dAL_62) (by decide) (by decide) ?_
    refine XS.iload X137.here hx rfl (hb hby dAL_25) rfl ?_
    refine XS.aloadN X137.here hx rfl (hb hby dAL_27) rfl rfl ?_
    show Steps _ _ _ (T137.setTop (mkF m 28 #[.val (.ref th), .val (.ref vb), .val (.double (FP.l2d (0 + x0 * (((0 + m0 * x0) + m1 * x1) + m2 * x2)))), .second, .val (.int (1 : Int32)), .val (.double (FP.l2d (((0 + m3 * x0) + m4 * x1) + m5 * x2))), .second, .val (.int (3 : Int32))] [(.ref th), (.int (3 : Int32))])) _
    refine st141 _ ?_
    refine XS.icmpYes X141.here hx rfl (pc0 := 31) (pc' := 65) rfl (hb hby dAL_31) rfl (by decide) (by decide) (by decide) ?_
    refine XS.dloadN X141.here hx rfl (hb hby dAL_65) rfl ?_
    refine XS.aloadN X141.here hx rfl (hb hby dAL_66) rfl rfl ?_
    show Steps _ _ _ (T141.setTop (mkF m 67 #[.val (.ref th), .val (.ref vb), .val (.double (FP.l2d (0 + x0 * (((0 + m0 * x0) + m1 * x1) + m2 * x2)))), .second, .val (.int (1 : Int32)), .val (.double (FP.l2d (((0 + m3 * x0) + m4 * x1) + m5 * x2))), .second, .val (.int (3 : Int32))] [(.ref vb), (.double (FP.l2d (0 + x0 * (((0 + m0 * x0) + m1 * x1) + m2 * x2))))])) _
    refine XS.iload X141.here hx rfl (hb hby dAL_67) rfl ?_
    show Steps _ _ _ (T141.setTop (mkF m 69 #[.val (.ref th), .val (.ref vb), .val (.double (FP.l2d (0 + x0 * (((0 + m0 * x0) + m1 * x1) + m2 * x2)))), .second, .val (.int (1 : Int32)), .val (.double (FP.l2d (((0 + m3 * x0) + m4 * x1) + m5 * x2))), .second, .val (.int (3 : Int32))] [(.int (1 : Int32)), (.ref vb), (.double (FP.l2d (0 + x0 * (((0 + m0 * x0) + m1 * x1) + m2 * x2))))])) _
    refine X141.daload hx (j := (1 : Int32)) (v := (.double (FP.l2d x1))) (by rw [e141]; exact Ar142.1) (State.isArrayOf_alike hZ.alike Ar142.2.1) Ar142.2.2 hin142 hat142 (g := (mkF m 69 #[.val (.ref th), .val (.ref vb), .val (.double (FP.l2d (0 + x0 * (((0 + m0 * x0) + m1 * x1) + m2 * x2)))), .second, .val (.int (1 : Int32)), .val (.double (FP.l2d (((0 + m3 * x0) + m4 * x1) + m5 * x2))), .second, .val (.int (3 : Int32))] [(.int (1 : Int32)), (.ref vb), (.double (FP.l2d (0 + x0 * (((0 + m0 * x0) + m1 * x1) + m2 * x2))))])) rfl rfl (hb hby dAL_69) _ ?_
    refine XS.dload X141.here hx rfl (hb hby dAL_70) rfl ?_
    refine XS.dmulS X141.here hx rfl (hb hby dAL_72) rfl (v := (FP.dmul (FP.l2d x1) (FP.l2d (((0 + m3 * x0) + m4 * x1) + m5 * x2)))) (own_mulNN _ _) rfl ?_
    refine XS.daddS X141.here hx rfl (hb hby dAL_73) rfl (v := (FP.l2d ((0 + x0 * (((0 + m0 * x0) + m1 * x1) + m2 * x2)) + x1 * (((0 + m3 * x0) + m4 * x1) + m5 * x2)))) (nn_w Bq143.1) Bq143.1 ?_
    show Steps _ _ _ (T141.setTop (mkF m 74 #[.val (.ref th), .val (.ref vb), .val (.double (FP.l2d (0 + x0 * (((0 + m0 * x0) + m1 * x1) + m2 * x2)))), .second, .val (.int (1 : Int32)), .val (.double (FP.l2d (((0 + m3 * x0) + m4 * x1) + m5 * x2))), .second, .val (.int (3 : Int32))] [(.double (FP.l2d ((0 + x0 * (((0 + m0 * x0) + m1 * x1) + m2 * x2)) + x1 * (((0 + m3 * x0) + m4 * x1) + m5 * x2))))])) _
    refine XS.dstoreN X141.here hx rfl (hb hby dAL_74) rfl (l' := #[.val (.ref th), .val (.ref vb), .val (.double (FP.l2d ((0 + x0 * (((0 + m0 * x0) + m1 * x1) + m2 * x2)) + x1 * (((0 + m3 * x0) + m4 * x1) + m5 * x2)))), .second, .val (.int (1 : Int32)), .val (.double (FP.l2d (((0 + m3 * x0) + m4 * x1) + m5 * x2))), .second, .val (.int (3 : Int32))]) rfl ?_
    refine XS.iinc X141.here hx rfl (hb hby dAL_75) rfl (l' := #[.val (.ref th), .val (.ref vb), .val (.double (FP.l2d ((0 + x0 * (((0 + m0 * x0) + m1 * x1) + m2 * x2)) + x1 * (((0 + m3 * x0) + m4 * x1) + m5 * x2)))), .second, .val (.int (2 : Int32)), .val (.double (FP.l2d (((0 + m3 * x0) + m4 * x1) + m5 * x2))), .second, .val (.int (3 : Int32))]) rfl ?_
    refine XS.goto X141.here hx rfl (pc0 := 78) (pc' := 10) rfl (hb hby dAL_78) (by decide) (by decide) ?_
    refine XS.iload X141.here hx rfl (hb hby dAL_10) rfl ?_
    show Steps _ _ _ (T141.setTop (mkF m 12 #[.val (.ref th), .val (.ref vb), .val (.double (FP.l2d ((0 + x0 * (((0 + m0 * x0) + m1 * x1) + m2 * x2)) + x1 * (((0 + m3 * x0) + m4 * x1) + m5 * x2)))), .second, .val (.int (2 : Int32)), .val (.double (FP.l2d (((0 + m3 * x0) + m4 * x1) + m5 * x2))), .second, .val (.int (3 : Int32))] [(.int (2 : Int32))])) _
    refine XS.aloadN X141.here hx rfl (hb hby dAL_12) rfl rfl ?_
    show Steps _ _ _ (T141.setTop (mkF m 13 #[.val (.ref th), .val (.ref vb), .val (.double (FP.l2d ((0 + x0 * (((0 + m0 * x0) + m1 * x1) + m2 * x2)) + x1 * (((0 + m3 * x0) + m4 * x1) + m5 * x2)))), .second, .val (.int (2 : Int32)), .val (.double (FP.l2d (((0 + m3 * x0) + m4 * x1) + m5 * x2))), .second, .val (.int (3 : Int32))] [(.ref th), (.int (2 : Int32))])) _
    refine st144 _ ?_
    refine XS.icmpNo X144.here hx rfl (hb hby dAL_16) rfl (by decide) ?_
    refine XS.dconst0 X144.here hx rfl (hb hby dAL_19) (v := (FP.l2d 0)) own_d0 ?_
    refine XS.dstore X144.here hx rfl (hb hby dAL_20) rfl (l' := #[.val (.ref th), .val (.ref vb), .val (.double (FP.l2d ((0 + x0 * (((0 + m0 * x0) + m1 * x1) + m2 * x2)) + x1 * (((0 + m3 * x0) + m4 * x1) + m5 * x2)))), .second, .val (.int (2 : Int32)), .val (.double (FP.l2d 0)), .second, .val (.int (3 : Int32))]) rfl ?_
    show Steps _ _ _ (T144.setTop (mkF m 22 #[.val (.ref th), .val (.ref vb), .val (.double (FP.l2d ((0 + x0 * (((0 + m0 * x0) + m1 * x1) + m2 * x2)) + x1 * (((0 + m3 * x0) + m4 * x1) + m5 * x2)))), .second, .val (.int (2 : Int32)), .val (.double (FP.l2d 0)), .second, .val (.int (3 : Int32))] [])) _
    refine XS.iconst X144.here hx rfl (hb hby dAL_22) ?_
    refine XS.istore X144.here hx rfl (hb hby dAL_23) rfl (l' := #[.val (.ref th), .val (.ref vb), .val (.double (FP.l2d ((0 + x0 * (((0 + m0 * x0) + m1 * x1) + m2 * x2)) + x1 * (((0 + m3 * x0) + m4 * x1) + m5 * x2)))), .second, .val (.int (2 : Int32)), .val (.double (FP.l2d 0)), .second, .val (.int (0 : Int32))]) rfl ?_
    refine XS.iload X144.here hx rfl (hb hby dAL_25) rfl ?_
    refine XS.aloadN X144.here hx rfl (hb hby dAL_27) rfl rfl ?_
    show Steps _ _ _ (T144.setTop (mkF m 28 #[.val (.ref th), .val (.ref vb), .val (.double (FP.l2d ((0 + x0 * (((0 + m0 * x0) + m1 * x1) + m2 * x2)) + x1 * (((0 + m3 * x0) + m4 * x1) + m5 * x2)))), .second, .val (.int (2 : Int32)), .val (.double (FP.l2d 0)), .second, .val (.int (0 : Int32))] [(.ref th), (.int (0 : Int32))])) _
    refine st145 _ ?_
    refine XS.icmpNo X145.here hx rfl (hb hby dAL_31) rfl (by decide) ?_
    refine XS.dload X145.here hx rfl (hb hby dAL_34) rfl ?_
    refine XS.aloadN X145.here hx rfl (hb hby dAL_36) rfl rfl ?_
    show Steps _ _ _ (T145.setTop (mkF m 37 #[.val (.ref th), .val (.ref vb), .val (.double (FP.l2d ((0 + x0 * (((0 + m0 * x0) + m1 * x1) + m2 * x2)) + x1 * (((0 + m3 * x0) + m4 * x1) + m5 * x2)))), .second, .val (.int (2 : Int32)), .val (.double (FP.l2d 0)), .second, .val (.int (0 : Int32))] [(.ref th), (.double (FP.l2d 0))])) _
    refine st146 _ ?_
    refine XS.iload X146.here hx rfl (hb hby dAL_40) rfl ?_
    refine XS.aloadN X146.here hx rfl (hb hby dAL_42) rfl rfl ?_
    show Steps _ _ _ (T146.setTop (mkF m 43 #[.val (.ref th), .val (.ref vb), .val (.double (FP.l2d ((0 + x0 * (((0 + m0 * x0) + m1 * x1) + m2 * x2)) + x1 * (((0 + m3 * x0) + m4 * x1) + m5 * x2)))), .second, .val (.int (2 : Int32)), .val (.double (FP.l2d 0)), .second, .val (.int (0 : Int32))] [(.ref th), (.int (2 : Int32)), (.ref sm), (.double (FP.l2d 0))])) _
    refine st147 _ ?_
    refine XS.imul X147.here hx rfl (hb hby dAL_46) rfl ?_
    refine XS.iload X147.here hx rfl (hb hby dAL_47) rfl ?_
    refine XS.iadd X147.here hx rfl (hb hby dAL_49) rfl ?_
    show Steps _ _ _ (T147.setTop (mkF m 50 #[.val (.ref th), .val (.ref vb), .val (.double (FP.l2d ((0 + x0 * (((0 + m0 * x0) + m1 * x1) + m2 * x2)) + x1 * (((0 + m3 * x0) + m4 * x1) + m5 * x2)))), .second, .val (.int (2 : Int32)), .val (.double (FP.l2d 0)), .second, .val (.int (0 : Int32))] [(.int (6 : Int32)), (.ref sm), (.double (FP.l2d 0))])) _
    refine X147.daload hx (j := (6 : Int32)) (v := (.double (FP.l2d m6))) (by rw [e147]; exact Ar148.1) (State.isArrayOf_alike hZ.alike Ar148.2.1) Ar148.2.2 hin148 hat148 (g := (mkF m 50 #[.val (.ref th), .val (.ref vb), .val (.double (FP.l2d ((0 + x0 * (((0 + m0 * x0) + m1 * x1) + m2 * x2)) + x1 * (((0 + m3 * x0) + m4 * x1) + m5 * x2)))), .second, .val (.int (2 : Int32)), .val (.double (FP.l2d 0)), .second, .val (.int (0 : Int32))] [(.int (6 : Int32)), (.ref sm), (.double (FP.l2d 0))])) rfl rfl (hb hby dAL_50) _ ?_
    refine XS.aloadN X147.here hx rfl (hb hby dAL_51) rfl rfl ?_
    refine XS.iload X147.here hx rfl (hb hby dAL_52) rfl ?_
    show Steps _ _ _ (T147.setTop (mkF m 54 #[.val (.ref th), .val (.ref vb), .val (.double (FP.l2d ((0 + x0 * (((0 + m0 * x0) + m1 * x1) + m2 * x2)) + x1 * (((0 + m3 * x0) + m4 * x1) + m5 * x2)))), .second, .val (.int (2 : Int32)), .val (.double (FP.l2d 0)), .second, .val (.int (0 : Int32))] [(.int (0 : Int32)), (.ref vb), (.double (FP.l2d m6)), (.double (FP.l2d 0))])) _
    refine X147.daload hx (j := (0 : Int32)) (v := (.double (FP.l2d x0))) (by rw [e147]; exact Ar149.1) (State.isArrayOf_alike hZ.alike Ar149.2.1) Ar149.2.2 hin149 hat149 (g := (mkF m 54 #[.val (.ref th), .val (.ref vb), .val (.double (FP.l2d ((0 + x0 * (((0 + m0 * x0) + m1 * x1) + m2 * x2)) + x1 * (((0 + m3 * x0) + m4 * x1) + m5 * x2)))), .second, .val (.int (2 : Int32)), .val (.double (FP.l2d 0)), .second, .val (.int (0 : Int32))] [(.int (0 : Int32)), (.ref vb), (.double (FP.l2d m6)), (.double (FP.l2d 0))])) rfl rfl (hb hby dAL_54) _ ?_
    refine XS.dmulS X147.here hx rfl (hb hby dAL_55) rfl (v := (FP.dmul (FP.l2d m6) (FP.l2d x0))) (own_mulNN _ _) rfl ?_
    refine XS.daddS X147.here hx rfl (hb hby dAL_56) rfl (v := (FP.l2d (0 + m6 * x0))) (nn_w Bq150.1) Bq150.1 ?_
    refine XS.dstore X147.here hx rfl (hb hby dAL_57) rfl (l' := #[.val (.ref th), .val (.ref vb), .val (.double (FP.l2d ((0 + x0 * (((0 + m0 * x0) + m1 * x1) + m2 * x2)) + x1 * (((0 + m3 * x0) + m4 * x1) + m5 * x2)))), .second, .val (.int (2 : Int32)), .val (.double (FP.l2d (0 + m6 * x0))), .second, .val (.int (0 : Int32))]) rfl ?_
    show Steps _ _ _ (T147.setTop (mkF m 59 #[.val (.ref th), .val (.ref vb), .val (.double (FP.l2d ((0 + x0 * (((0 + m0 * x0) + m1 * x1) + m2 * x2)) + x1 * (((0 + m3 * x0) + m4 * x1) + m5 * x2)))), .second, .val (.int (2 : Int32)), .val (.double (FP.l2d (0 + m6 * x0))), .second, .val (.int (0 : Int32))] [])) _
    refine XS.iinc X147.here hx rfl (hb hby dAL_59) rfl (l' := #[.val (.ref th), .val (.ref vb), .val (.double (FP.l2d ((0 + x0 * (((0 + m0 * x0) + m1 * x1) + m2 * x2)) + x1 * (((0 + m3 * x0) + m4 * x1) + m5 * x2)))), .second, .val (.int (2 : Int32)), .val (.double (FP.l2d (0 + m6 * x0))), .second, .val (.int (1 : Int32))]) rfl ?_
    refine XS.goto X147.here hx rfl (pc0 := 62) (pc' := 25) rfl (hb hby dAL_62) (by decide) (by decide) ?_
    refine XS.iload X147.here hx rfl (hb hby dAL_25) rfl ?_
    refine XS.aloadN X147.here hx rfl (hb hby dAL_27) rfl rfl ?_
    show Steps _ _ _ (T147.setTop (mkF m 28 #[.val (.ref th), .val (.ref vb), .val (.double (FP.l2d ((0 + x0 * (((0 + m0 * x0) + m1 * x1) + m2 * x2)) + x1 * (((0 + m3 * x0) + m4 * x1) + m5 * x2)))), .second, .val (.int (2 : Int32)), .val (.double (FP.l2d (0 + m6 * x0))), .second, .val (.int (1 : Int32))] [(.ref th), (.int (1 : Int32))])) _
    refine st151 _ ?_
    refine XS.icmpNo X151.here hx rfl (hb hby dAL_31) rfl (by decide) ?_
    refine XS.dload X151.here hx rfl (hb hby dAL_34) rfl ?_
    refine XS.aloadN X151.here hx rfl (hb hby dAL_36) rfl rfl ?_
    show Steps _ _ _ (T151.setTop (mkF m 37 #[.val (.ref th), .val (.ref vb), .val (.double (FP.l2d ((0 + x0 * (((0 + m0 * x0) + m1 * x1) + m2 * x2)) + x1 * (((0 + m3 * x0) + m4 * x1) + m5 * x2)))), .second, .val (.int (2 : Int32)), .val (.double (FP.l2d (0 + m6 * x0))), .second, .val (.int (1 : Int32))] [(.ref th), (.double (FP.l2d (0 + m6 * x0)))])) _
    refine st152 _ ?_
    refine XS.iload X152.here hx rfl (hb hby dAL_40) rfl ?_
    refine XS.aloadN X152.here hx rfl (hb hby dAL_42) rfl rfl ?_
    show Steps _ _ _ (T152.setTop (mkF m 43 #[.val (.ref th), .val (.ref vb), .val (.double (FP.l2d ((0 + x0 * (((0 + m0 * x0) + m1 * x1) + m2 * x2)) + x1 * (((0 + m3 * x0) + m4 * x1) + m5 * x2)))), .second, .val (.int (2 : Int32)), .val (.double (FP.l2d (0 + m6 * x0))), .second, .val (.int (1 : Int32))] [(.ref th), (.int (2 : Int32)), (.ref sm), (.double (FP.l2d (0 + m6 * x0)))])) _
    refine st153 _ ?_
    refine XS.imul X153.here hx rfl (hb hby dAL_46) rfl ?_
    refine XS.iload X153.here hx rfl (hb hby dAL_47) rfl ?_
    refine XS.iadd X153.here hx rfl (hb hby dAL_49) rfl ?_
    show Steps _ _ _ (T153.setTop (mkF m 50 #[.val (.ref th), .val (.ref vb), .val (.double (FP.l2d ((0 + x0 * (((0 + m0 * x0) + m1 * x1) + m2 * x2)) + x1 * (((0 + m3 * x0) + m4 * x1) + m5 * x2)))), .second, .val (.int (2 : Int32)), .val (.double (FP.l2d (0 + m6 * x0))), .second, .val (.int (1 : Int32))] [(.int (7 : Int32)), (.ref sm), (.double (FP.l2d (0 + m6 * x0)))])) _
    refine X153.daload hx (j := (7 : Int32)) (v := (.double (FP.l2d m7))) (by rw [e153]; exact Ar154.1) (State.isArrayOf_alike hZ.alike Ar154.2.1) Ar154.2.2 hin154 hat154 (g := (mkF m 50 #[.val (.ref th), .val (.ref vb), .val (.double (FP.l2d ((0 + x0 * (((0 + m0 * x0) + m1 * x1) + m2 * x2)) + x1 * (((0 + m3 * x0) + m4 * x1) + m5 * x2)))), .second, .val (.int (2 : Int32)), .val (.double (FP.l2d (0 + m6 * x0))), .second, .val (.int (1 : Int32))] [(.int (7 : Int32)), (.ref sm), (.double (FP.l2d (0 + m6 * x0)))])) rfl rfl (hb hby dAL_50) _ ?_
    refine XS.aloadN X153.here hx rfl (hb hby dAL_51) rfl rfl ?_
    refine XS.iload X153.here hx rfl (hb hby dAL_52) rfl ?_
    show Steps _ _ _ (T153.setTop (mkF m 54 #[.val (.ref th), .val (.ref vb), .val (.double (FP.l2d ((0 + x0 * (((0 + m0 * x0) + m1 * x1) + m2 * x2)) + x1 * (((0 + m3 * x0) + m4 * x1) + m5 * x2)))), .second, .val (.int (2 : Int32)), .val (.double (FP.l2d (0 + m6 * x0))), .second, .val (.int (1 : Int32))] [(.int (1 : Int32)), (.ref vb), (.double (FP.l2d m7)), (.double (FP.l2d (0 + m6 * x0)))])) _
    refine X153.daload hx (j := (1 : Int32)) (v := (.double (FP.l2d x1))) (by rw [e153]; exact Ar155.1) (State.isArrayOf_alike hZ.alike Ar155.2.1) Ar155.2.2 hin155 hat155 (g := (mkF m 54 #[.val (.ref th), .val (.ref vb), .val (.double (FP.l2d ((0 + x0 * (((0 + m0 * x0) + m1 * x1) + m2 * x2)) + x1 * (((0 + m3 * x0) + m4 * x1) + m5 * x2)))), .second, .val (.int (2 : Int32)), .val (.double (FP.l2d (0 + m6 * x0))), .second, .val (.int (1 : Int32))] [(.int (1 : Int32)), (.ref vb), (.double (FP.l2d m7)), (.double (FP.l2d (0 + m6 * x0)))])) rfl rfl (hb hby dAL_54) _ ?_
    refine XS.dmulS X153.here hx rfl (hb hby dAL_55) rfl (v := (FP.dmul (FP.l2d m7) (FP.l2d x1))) (own_mulNN _ _) rfl ?_
    refine XS.daddS X153.here hx rfl (hb hby dAL_56) rfl (v := (FP.l2d ((0 + m6 * x0) + m7 * x1))) (nn_w Bq156.1) Bq156.1 ?_
    refine XS.dstore X153.here hx rfl (hb hby dAL_57) rfl (l' := #[.val (.ref th), .val (.ref vb), .val (.double (FP.l2d ((0 + x0 * (((0 + m0 * x0) + m1 * x1) + m2 * x2)) + x1 * (((0 + m3 * x0) + m4 * x1) + m5 * x2)))), .second, .val (.int (2 : Int32)), .val (.double (FP.l2d ((0 + m6 * x0) + m7 * x1))), .second, .val (.int (1 : Int32))]) rfl ?_
    show Steps _ _ _ (T153.setTop (mkF m 59 #[.val (.ref th), .val (.ref vb), .val (.double (FP.l2d ((0 + x0 * (((0 + m0 * x0) + m1 * x1) + m2 * x2)) + x1 * (((0 + m3 * x0) + m4 * x1) + m5 * x2)))), .second, .val (.int (2 : Int32)), .val (.double (FP.l2d ((0 + m6 * x0) + m7 * x1))), .second, .val (.int (1 : Int32))] [])) _
    refine XS.iinc X153.here hx rfl (hb hby dAL_59) rfl (l' := #[.val (.ref th), .val (.ref vb), .val (.double (FP.l2d ((0 + x0 * (((0 + m0 * x0) + m1 * x1) + m2 * x2)) + x1 * (((0 + m3 * x0) + m4 * x1) + m5 * x2)))), .second, .val (.int (2 : Int32)), .val (.double (FP.l2d ((0 + m6 * x0) + m7 * x1))), .second, .val (.int (2 : Int32))]) rfl ?_
    refine XS.goto X153.here hx rfl (pc0 := 62) (pc' := 25) rfl (hb hby dAL_62) (by decide) (by decide) ?_
    refine XS.iload X153.here hx rfl (hb hby dAL_25) rfl ?_
    refine XS.aloadN X153.here hx rfl (hb hby dAL_27) rfl rfl ?_
    show Steps _ _ _ (T153.setTop (mkF m 28 #[.val (.ref th), .val (.ref vb), .val (.double (FP.l2d ((0 + x0 * (((0 + m0 * x0) + m1 * x1) + m2 * x2)) + x1 * (((0 + m3 * x0) + m4 * x1) + m5 * x2)))), .second, .val (.int (2 : Int32)), .val (.double (FP.l2d ((0 + m6 * x0) + m7 * x1))), .second, .val (.int (2 : Int32))] [(.ref th), (.int (2 : Int32))])) _
    refine st157 _ ?_
    refine XS.icmpNo X157.here hx rfl (hb hby dAL_31) rfl (by decide) ?_
    refine XS.dload X157.here hx rfl (hb hby dAL_34) rfl ?_
    refine XS.aloadN X157.here hx rfl (hb hby dAL_36) rfl rfl ?_
    show Steps _ _ _ (T157.setTop (mkF m 37 #[.val (.ref th), .val (.ref vb), .val (.double (FP.l2d ((0 + x0 * (((0 + m0 * x0) + m1 * x1) + m2 * x2)) + x1 * (((0 + m3 * x0) + m4 * x1) + m5 * x2)))), .second, .val (.int (2 : Int32)), .val (.double (FP.l2d ((0 + m6 * x0) + m7 * x1))), .second, .val (.int (2 : Int32))] [(.ref th), (.double (FP.l2d ((0 + m6 * x0) + m7 * x1)))])) _
    refine st158 _ ?_
    refine XS.iload X158.here hx rfl (hb hby dAL_40) rfl ?_
    refine XS.aloadN X158.here hx rfl (hb hby dAL_42) rfl rfl ?_
    show Steps _ _ _ (T158.setTop (mkF m 43 #[.val (.ref th), .val (.ref vb), .val (.double (FP.l2d ((0 + x0 * (((0 + m0 * x0) + m1 * x1) + m2 * x2)) + x1 * (((0 + m3 * x0) + m4 * x1) + m5 * x2)))), .second, .val (.int (2 : Int32)), .val (.double (FP.l2d ((0 + m6 * x0) + m7 * x1))), .second, .val (.int (2 : Int32))] [(.ref th), (.int (2 : Int32)), (.ref sm), (.double (FP.l2d ((0 + m6 * x0) + m7 * x1)))])) _
    refine st159 _ ?_
    refine XS.imul X159.here hx rfl (hb hby dAL_46) rfl ?_
    refine XS.iload X159.here hx rfl (hb hby dAL_47) rfl ?_
    refine XS.iadd X159.here hx rfl (hb hby dAL_49) rfl ?_
    show Steps _ _ _ (T159.setTop (mkF m 50 #[.val (.ref th), .val (.ref vb), .val (.double (FP.l2d ((0 + x0 * (((0 + m0 * x0) + m1 * x1) + m2 * x2)) + x1 * (((0 + m3 * x0) + m4 * x1) + m5 * x2)))), .second, .val (.int (2 : Int32)), .val (.double (FP.l2d ((0 + m6 * x0) + m7 * x1))), .second, .val (.int (2 : Int32))] [(.int (8 : Int32)), (.ref sm), (.double (FP.l2d ((0 + m6 * x0) + m7 * x1)))])) _
    refine X159.daload hx (j := (8 : Int32)) (v := (.double (FP.l2d m8))) (by rw [e159]; exact Ar160.1) (State.isArrayOf_alike hZ.alike Ar160.2.1) Ar160.2.2 hin160 hat160 (g := (mkF m 50 #[.val (.ref th), .val (.ref vb), .val (.double (FP.l2d ((0 + x0 * (((0 + m0 * x0) + m1 * x1) + m2 * x2)) + x1 * (((0 + m3 * x0) + m4 * x1) + m5 * x2)))), .second, .val (.int (2 : Int32)), .val (.double (FP.l2d ((0 + m6 * x0) + m7 * x1))), .second, .val (.int (2 : Int32))] [(.int (8 : Int32)), (.ref sm), (.double (FP.l2d ((0 + m6 * x0) + m7 * x1)))])) rfl rfl (hb hby dAL_50) _ ?_
    refine XS.aloadN X159.here hx rfl (hb hby dAL_51) rfl rfl ?_
    refine XS.iload X159.here hx rfl (hb hby dAL_52) rfl ?_
    show Steps _ _ _ (T159.setTop (mkF m 54 #[.val (.ref th), .val (.ref vb), .val (.double (FP.l2d ((0 + x0 * (((0 + m0 * x0) + m1 * x1) + m2 * x2)) + x1 * (((0 + m3 * x0) + m4 * x1) + m5 * x2)))), .second, .val (.int (2 : Int32)), .val (.double (FP.l2d ((0 + m6 * x0) + m7 * x1))), .second, .val (.int (2 : Int32))] [(.int (2 : Int32)), (.ref vb), (.double (FP.l2d m8)), (.double (FP.l2d ((0 + m6 * x0) + m7 * x1)))])) _
    refine X159.daload hx (j := (2 : Int32)) (v := (.double (FP.l2d x2))) (by rw [e159]; exact Ar161.1) (State.isArrayOf_alike hZ.alike Ar161.2.1) Ar161.2.2 hin161 hat161 (g := (mkF m 54 #[.val (.ref th), .val (.ref vb), .val (.double (FP.l2d ((0 + x0 * (((0 + m0 * x0) + m1 * x1) + m2 * x2)) + x1 * (((0 + m3 * x0) + m4 * x1) + m5 * x2)))), .second, .val (.int (2 : Int32)), .val (.double (FP.l2d ((0 + m6 * x0) + m7 * x1))), .second, .val (.int (2 : Int32))] [(.int (2 : Int32)), (.ref vb), (.double (FP.l2d m8)), (.double (FP.l2d ((0 + m6 * x0) + m7 * x1)))])) rfl rfl (hb hby dAL_54) _ ?_
    refine XS.dmulS X159.here hx rfl (hb hby dAL_55) rfl (v := (FP.dmul (FP.l2d m8) (FP.l2d x2))) (own_mulNN _ _) rfl ?_
    refine XS.daddS X159.here hx rfl (hb hby dAL_56) rfl (v := (FP.l2d (((0 + m6 * x0) + m7 * x1) + m8 * x2))) (nn_w Bq162.1) Bq162.1 ?_
    refine XS.dstore X159.here hx rfl (hb hby dAL_57) rfl (l' := #[.val (.ref th), .val (.ref vb), .val (.double (FP.l2d ((0 + x0 * (((0 + m0 * x0) + m1 * x1) + m2 * x2)) + x1 * (((0 + m3 * x0) + m4 * x1) + m5 * x2)))), .second, .val (.int (2 : Int32)), .val (.double (FP.l2d (((0 + m6 * x0) + m7 * x1) + m8 * x2))), .second, .val (.int (2 : Int32))]) rfl ?_
    show Steps _ _ _ (T159.setTop (mkF m 59 #[.val (.ref th), .val (.ref vb), .val (.double (FP.l2d ((0 + x0 * (((0 + m0 * x0) + m1 * x1) + m2 * x2)) + x1 * (((0 + m3 * x0) + m4 * x1) + m5 * x2)))), .second, .val (.int (2 : Int32)), .val (.double (FP.l2d (((0 + m6 * x0) + m7 * x1) + m8 * x2))), .second, .val (.int (2 : Int32))] [])) _
    refine XS.iinc X159.here hx rfl (hb hby dAL_59) rfl (l' := #[.val (.ref th), .val (.ref vb), .val (.double (FP.l2d ((0 + x0 * (((0 + m0 * x0) + m1 * x1) + m2 * x2)) + x1 * (((0 + m3 * x0) + m4 * x1) + m5 * x2)))), .second, .val (.int (2 : Int32)), .val (.double (FP.l2d (((0 + m6 * x0) + m7 * x1) + m8 * x2))), .second, .val (.int (3 : Int32))]) rfl ?_
    refine XS.goto X159.here hx rfl (pc0 := 62) (pc' := 25) rfl (hb hby dAL_62) (by decide) (by decide) ?_
    refine XS.iload X159.here hx rfl (hb hby dAL_25) rfl ?_
    refine XS.aloadN X159.here hx rfl (hb hby dAL_27) rfl rfl ?_
    show Steps _ _ _ (T159.setTop (mkF m 28 #[.val (.ref th), .val (.ref vb), .val (.double (FP.l2d ((0 + x0 * (((0 + m0 * x0) + m1 * x1) + m2 * x2)) + x1 * (((0 + m3 * x0) + m4 * x1) + m5 * x2)))), .second, .val (.int (2 : Int32)), .val (.double (FP.l2d (((0 + m6 * x0) + m7 * x1) + m8 * x2))), .second, .val (.int (3 : Int32))] [(.ref th), (.int (3 : Int32))])) _
    refine st163 _ ?_
    refine XS.icmpYes X163.here hx rfl (pc0 := 31) (pc' := 65) rfl (hb hby dAL_31) rfl (by decide) (by decide) (by decide) ?_
    refine XS.dloadN X163.here hx rfl (hb hby dAL_65) rfl ?_
    refine XS.aloadN X163.here hx rfl (hb hby dAL_66) rfl rfl ?_
    show Steps _ _ _ (T163.setTop (mkF m 67 #[.val (.ref th), .val (.ref vb), .val (.double (FP.l2d ((0 + x0 * (((0 + m0 * x0) + m1 * x1) + m2 * x2)) + x1 * (((0 + m3 * x0) + m4 * x1) + m5 * x2)))), .second, .val (.int (2 : Int32)), .val (.double (FP.l2d (((0 + m6 * x0) + m7 * x1) + m8 * x2))), .second, .val (.int (3 : Int32))] [(.ref vb), (.double (FP.l2d ((0 + x0 * (((0 + m0 * x0) + m1 * x1) + m2 * x2)) + x1 * (((0 + m3 * x0) + m4 * x1) + m5 * x2))))])) _
    refine XS.iload X163.here hx rfl (hb hby dAL_67) rfl ?_
    show Steps _ _ _ (T163.setTop (mkF m 69 #[.val (.ref th), .val (.ref vb), .val (.double (FP.l2d ((0 + x0 * (((0 + m0 * x0) + m1 * x1) + m2 * x2)) + x1 * (((0 + m3 * x0) + m4 * x1) + m5 * x2)))), .second, .val (.int (2 : Int32)), .val (.double (FP.l2d (((0 + m6 * x0) + m7 * x1) + m8 * x2))), .second, .val (.int (3 : Int32))] [(.int (2 : Int32)), (.ref vb), (.double (FP.l2d ((0 + x0 * (((0 + m0 * x0) + m1 * x1) + m2 * x2)) + x1 * (((0 + m3 * x0) + m4 * x1) + m5 * x2))))])) _
    refine X163.daload hx (j := (2 : Int32)) (v := (.double (FP.l2d x2))) (by rw [e163]; exact Ar164.1) (State.isArrayOf_alike hZ.alike Ar164.2.1) Ar164.2.2 hin164 hat164 (g := (mkF m 69 #[.val (.ref th), .val (.ref vb), .val (.double (FP.l2d ((0 + x0 * (((0 + m0 * x0) + m1 * x1) + m2 * x2)) + x1 * (((0 + m3 * x0) + m4 * x1) + m5 * x2)))), .second, .val (.int (2 : Int32)), .val (.double (FP.l2d (((0 + m6 * x0) + m7 * x1) + m8 * x2))), .second, .val (.int (3 : Int32))] [(.int (2 : Int32)), (.ref vb), (.double (FP.l2d ((0 + x0 * (((0 + m0 * x0) + m1 * x1) + m2 * x2)) + x1 * (((0 + m3 * x0) + m4 * x1) + m5 * x2))))])) rfl rfl (hb hby dAL_69) _ ?_
    refine XS.dload X163.here hx rfl (hb hby dAL_70) rfl ?_
    refine XS.dmulS X163.here hx rfl (hb hby dAL_72) rfl (v := (FP.dmul (FP.l2d x2) (FP.l2d (((0 + m6 * x0) + m7 * x1) + m8 * x2)))) (own_mulNN _ _) rfl ?_
    refine XS.daddS X163.here hx rfl (hb hby dAL_73) rfl (v := (FP.l2d (((0 + x0 * (((0 + m0 * x0) + m1 * x1) + m2 * x2)) + x1 * (((0 + m3 * x0) + m4 * x1) + m5 * x2)) + x2 * (((0 + m6 * x0) + m7 * x1) + m8 * x2)))) (nn_w Bq165.1) Bq165.1 ?_
    show Steps _ _ _ (T163.setTop (mkF m 74 #[.val (.ref th), .val (.ref vb), .val (.double (FP.l2d ((0 + x0 * (((0 + m0 * x0) + m1 * x1) + m2 * x2)) + x1 * (((0 + m3 * x0) + m4 * x1) + m5 * x2)))), .second, .val (.int (2 : Int32)), .val (.double (FP.l2d (((0 + m6 * x0) + m7 * x1) + m8 * x2))), .second, .val (.int (3 : Int32))] [(.double (FP.l2d (((0 + x0 * (((0 + m0 * x0) + m1 * x1) + m2 * x2)) + x1 * (((0 + m3 * x0) + m4 * x1) + m5 * x2)) + x2 * (((0 + m6 * x0) + m7 * x1) + m8 * x2))))])) _
    refine XS.dstoreN X163.here hx rfl (hb hby dAL_74) rfl (l' := #[.val (.ref th), .val (.ref vb), .val (.double (FP.l2d (((0 + x0 * (((0 + m0 * x0) + m1 * x1) + m2 * x2)) + x1 * (((0 + m3 * x0) + m4 * x1) + m5 * x2)) + x2 * (((0 + m6 * x0) + m7 * x1) + m8 * x2)))), .second, .val (.int (2 : Int32)), .val (.double (FP.l2d (((0 + m6 * x0) + m7 * x1) + m8 * x2))), .second, .val (.int (3 : Int32))]) rfl ?_
    refine XS.iinc X163.here hx rfl (hb hby dAL_75) rfl (l' := #[.val (.ref th), .val (.ref vb), .val (.double (FP.l2d (((0 + x0 * (((0 + m0 * x0) + m1 * x1) + m2 * x2)) + x1 * (((0 + m3 * x0) + m4 * x1) + m5 * x2)) + x2 * (((0 + m6 * x0) + m7 * x1) + m8 * x2)))), .second, .val (.int (3 : Int32)), .val (.double (FP.l2d (((0 + m6 * x0) + m7 * x1) + m8 * x2))), .second, .val (.int (3 : Int32))]) rfl ?_
    refine XS.goto X163.here hx rfl (pc0 := 78) (pc' := 10) rfl (hb hby dAL_78) (by decide) (by decide) ?_
    refine XS.iload X163.here hx rfl (hb hby dAL_10) rfl ?_
    show Steps _ _ _ (T163.setTop (mkF m 12 #[.val (.ref th), .val (.ref vb), .val (.double (FP.l2d (((0 + x0 * (((0 + m0 * x0) + m1 * x1) + m2 * x2)) + x1 * (((0 + m3 * x0) + m4 * x1) + m5 * x2)) + x2 * (((0 + m6 * x0) + m7 * x1) + m8 * x2)))), .second, .val (.int (3 : Int32)), .val (.double (FP.l2d (((0 + m6 * x0) + m7 * x1) + m8 * x2))), .second, .val (.int (3 : Int32))] [(.int (3 : Int32))])) _
    refine XS.aloadN X163.here hx rfl (hb hby dAL_12) rfl rfl ?_
    show Steps _ _ _ (T163.setTop (mkF m 13 #[.val (.ref th), .val (.ref vb), .val (.double (FP.l2d (((0 + x0 * (((0 + m0 * x0) + m1 * x1) + m2 * x2)) + x1 * (((0 + m3 * x0) + m4 * x1) + m5 * x2)) + x2 * (((0 + m6 * x0) + m7 * x1) + m8 * x2)))), .second, .val (.int (3 : Int32)), .val (.double (FP.l2d (((0 + m6 * x0) + m7 * x1) + m8 * x2))), .second, .val (.int (3 : Int32))] [(.ref th), (.int (3 : Int32))])) _
    refine st166 _ ?_
    refine XS.icmpYes X166.here hx rfl (pc0 := 16) (pc' := 81) rfl (hb hby dAL_16) rfl (by decide) (by decide) (by decide) ?_
    refine XS.dloadN X166.here hx rfl (hb hby dAL_81) rfl ?_
    show Steps _ _ _ (T166.setTop (mkF m 82 #[.val (.ref th), .val (.ref vb), .val (.double (FP.l2d (((0 + x0 * (((0 + m0 * x0) + m1 * x1) + m2 * x2)) + x1 * (((0 + m3 * x0) + m4 * x1) + m5 * x2)) + x2 * (((0 + m6 * x0) + m7 * x1) + m8 * x2)))), .second, .val (.int (3 : Int32)), .val (.double (FP.l2d (((0 + m6 * x0) + m7 * x1) + m8 * x2))), .second, .val (.int (3 : Int32))] [(.double (FP.l2d (((0 + x0 * (((0 + m0 * x0) + m1 * x1) + m2 * x2)) + x1 * (((0 + m3 * x0) + m4 * x1) + m5 * x2)) + x2 * (((0 + m6 * x0) + m7 * x1) + m8 * x2))))])) _
    exact retD X166 hx Bd.returns (hb hby dAL_82) hr
  · show QAL Z th vb sm ks kb m0 m1 m2 m3 m4 m5 m6 m7 m8 x0 x1 x2 h0 n0 _ T166.heap _
    rw [e166]
    exact ⟨rfl, N99, rfl, Bq165.2⟩
theorem dAD_0 : decode prog_22_method_2_code 0 = .ok (.aload_n 0, 1) := by decide +kernel
theorem dAD_1 : decode prog_22_method_2_code 1 = .ok (.aload_n 1, 1) := by decide +kernel
theorem dAD_2 : decode prog_22_method_2_code 2 = .ok (.invokevirtual 32, 3) := by decide +kernel
theorem dAD_5 : decode prog_22_method_2_code 5 = .ok (.aload_n 0, 1) := by decide +kernel
theorem dAD_6 : decode prog_22_method_2_code 6 = .ok (.aload_n 0, 1) := by decide +kernel
theorem dAD_7 : decode prog_22_method_2_code 7 = .ok (.getfield 22, 3) := by decide +kernel
theorem dAD_10 : decode prog_22_method_2_code 10 = .ok (.aload_n 1, 1) := by decide +kernel
theorem dAD_11 : decode prog_22_method_2_code 11 = .ok (.invokevirtual 36, 3) := by decide +kernel
theorem pd_2 : parseMethodDescriptor "([D[D)V" = some ⟨[(.array .double), (.array .double)], none⟩ := by decide +kernel
theorem dAD_14 : decode prog_22_method_2_code 14 = .ok (.aload_n 0, 1) := by decide +kernel
theorem dAD_15 : decode prog_22_method_2_code 15 = .ok (.getfield 16, 3) := by decide +kernel
theorem dAD_18 : decode prog_22_method_2_code 18 = .ok (.newarray .double, 2) := by decide +kernel
theorem dAD_20 : decode prog_22_method_2_code 20 = .ok (.astore_n 2, 1) := by decide +kernel
theorem dAD_21 : decode prog_22_method_2_code 21 = .ok (.iconst 0, 1) := by decide +kernel
theorem dAD_22 : decode prog_22_method_2_code 22 = .ok (.istore_n 3, 1) := by decide +kernel
theorem dAD_23 : decode prog_22_method_2_code 23 = .ok (.iload_n 3, 1) := by decide +kernel
theorem dAD_24 : decode prog_22_method_2_code 24 = .ok (.aload_n 0, 1) := by decide +kernel
theorem dAD_25 : decode prog_22_method_2_code 25 = .ok (.getfield 16, 3) := by decide +kernel
theorem dAD_28 : decode prog_22_method_2_code 28 = .ok (.if_icmp .ge 52, 3) := by decide +kernel
theorem dAD_31 : decode prog_22_method_2_code 31 = .ok (.iconst 0, 1) := by decide +kernel
theorem dAD_32 : decode prog_22_method_2_code 32 = .ok (.istore 4, 2) := by decide +kernel
theorem dAD_34 : decode prog_22_method_2_code 34 = .ok (.iload 4, 2) := by decide +kernel
theorem dAD_36 : decode prog_22_method_2_code 36 = .ok (.aload_n 0, 1) := by decide +kernel
theorem dAD_37 : decode prog_22_method_2_code 37 = .ok (.getfield 16, 3) := by decide +kernel
theorem dAD_40 : decode prog_22_method_2_code 40 = .ok (.if_icmp .ge 34, 3) := by decide +kernel
theorem dAD_43 : decode prog_22_method_2_code 43 = .ok (.aload_n 2, 1) := by decide +kernel
theorem dAD_44 : decode prog_22_method_2_code 44 = .ok (.iload_n 3, 1) := by decide +kernel
theorem dAD_45 : decode prog_22_method_2_code 45 = .ok (.dup2, 1) := by decide +kernel
theorem dAD_46 : decode prog_22_method_2_code 46 = .ok (.daload, 1) := by decide +kernel
theorem dAD_47 : decode prog_22_method_2_code 47 = .ok (.aload_n 0, 1) := by decide +kernel
theorem dAD_48 : decode prog_22_method_2_code 48 = .ok (.getfield 26, 3) := by decide +kernel
theorem dAD_51 : decode prog_22_method_2_code 51 = .ok (.iload_n 3, 1) := by decide +kernel
theorem dAD_52 : decode prog_22_method_2_code 52 = .ok (.aload_n 0, 1) := by decide +kernel
theorem dAD_53 : decode prog_22_method_2_code 53 = .ok (.getfield 16, 3) := by decide +kernel
theorem dAD_56 : decode prog_22_method_2_code 56 = .ok (.imul, 1) := by decide +kernel
theorem dAD_57 : decode prog_22_method_2_code 57 = .ok (.iload 4, 2) := by decide +kernel
theorem dAD_59 : decode prog_22_method_2_code 59 = .ok (.iadd, 1) := by decide +kernel
theorem dAD_60 : decode prog_22_method_2_code 60 = .ok (.daload, 1) := by decide +kernel
theorem dAD_61 : decode prog_22_method_2_code 61 = .ok (.aload_n 1, 1) := by decide +kernel
theorem dAD_62 : decode prog_22_method_2_code 62 = .ok (.iload 4, 2) := by decide +kernel
theorem dAD_64 : decode prog_22_method_2_code 64 = .ok (.daload, 1) := by decide +kernel
theorem dAD_65 : decode prog_22_method_2_code 65 = .ok (.dmul, 1) := by decide +kernel
theorem dAD_66 : decode prog_22_method_2_code 66 = .ok (.dadd, 1) := by decide +kernel
theorem dAD_67 : decode prog_22_method_2_code 67 = .ok (.dastore, 1) := by decide +kernel
theorem dAD_68 : decode prog_22_method_2_code 68 = .ok (.iinc 4 1, 3) := by decide +kernel
theorem dAD_71 : decode prog_22_method_2_code 71 = .ok (.goto (-37), 3) := by decide +kernel
theorem dAD_74 : decode prog_22_method_2_code 74 = .ok (.iinc 3 1, 3) := by decide +kernel
theorem dAD_77 : decode prog_22_method_2_code 77 = .ok (.goto (-54), 3) := by decide +kernel
theorem dAD_80 : decode prog_22_method_2_code 80 = .ok (.aload_n 0, 1) := by decide +kernel
theorem dAD_81 : decode prog_22_method_2_code 81 = .ok (.aload_n 0, 1) := by decide +kernel
theorem dAD_82 : decode prog_22_method_2_code 82 = .ok (.getfield 29, 3) := by decide +kernel
theorem dAD_85 : decode prog_22_method_2_code 85 = .ok (.aload_n 2, 1) := by decide +kernel
theorem dAD_86 : decode prog_22_method_2_code 86 = .ok (.invokevirtual 36, 3) := by decide +kernel
theorem dAD_89 : decode prog_22_method_2_code 89 = .ok (.aload_n 0, 1) := by decide +kernel
theorem dAD_90 : decode prog_22_method_2_code 90 = .ok (.dup, 1) := by decide +kernel
theorem dAD_91 : decode prog_22_method_2_code 91 = .ok (.getfield 40, 3) := by decide +kernel
theorem dAD_94 : decode prog_22_method_2_code 94 = .ok (.iconst 1, 1) := by decide +kernel
theorem dAD_95 : decode prog_22_method_2_code 95 = .ok (.iadd, 1) := by decide +kernel
theorem dAD_96 : decode prog_22_method_2_code 96 = .ok (.putfield 40, 3) := by decide +kernel
theorem dAD_99 : decode prog_22_method_2_code 99 = .ok (.aload_n 1, 1) := by decide +kernel
theorem dAD_100 : decode prog_22_method_2_code 100 = .ok (.astore_n 3, 1) := by decide +kernel
theorem dAD_101 : decode prog_22_method_2_code 101 = .ok (.aload_n 3, 1) := by decide +kernel
theorem dAD_102 : decode prog_22_method_2_code 102 = .ok (.arraylength, 1) := by decide +kernel
theorem dAD_103 : decode prog_22_method_2_code 103 = .ok (.istore 4, 2) := by decide +kernel
theorem dAD_105 : decode prog_22_method_2_code 105 = .ok (.iconst 0, 1) := by decide +kernel
theorem dAD_106 : decode prog_22_method_2_code 106 = .ok (.istore 5, 2) := by decide +kernel
theorem dAD_108 : decode prog_22_method_2_code 108 = .ok (.iload 5, 2) := by decide +kernel
theorem dAD_110 : decode prog_22_method_2_code 110 = .ok (.iload 4, 2) := by decide +kernel
theorem dAD_112 : decode prog_22_method_2_code 112 = .ok (.if_icmp .ge 29, 3) := by decide +kernel
theorem dAD_115 : decode prog_22_method_2_code 115 = .ok (.aload_n 3, 1) := by decide +kernel
theorem dAD_116 : decode prog_22_method_2_code 116 = .ok (.iload 5, 2) := by decide +kernel
theorem dAD_118 : decode prog_22_method_2_code 118 = .ok (.daload, 1) := by decide +kernel
theorem dAD_119 : decode prog_22_method_2_code 119 = .ok (.dstore 6, 2) := by decide +kernel
theorem dAD_121 : decode prog_22_method_2_code 121 = .ok (.aload_n 0, 1) := by decide +kernel
theorem dAD_122 : decode prog_22_method_2_code 122 = .ok (.dup, 1) := by decide +kernel
theorem dAD_123 : decode prog_22_method_2_code 123 = .ok (.getfield 43, 3) := by decide +kernel
theorem dAD_126 : decode prog_22_method_2_code 126 = .ok (.dload 6, 2) := by decide +kernel
theorem dAD_128 : decode prog_22_method_2_code 128 = .ok (.dload 6, 2) := by decide +kernel
theorem dAD_130 : decode prog_22_method_2_code 130 = .ok (.dmul, 1) := by decide +kernel
theorem dAD_131 : decode prog_22_method_2_code 131 = .ok (.dadd, 1) := by decide +kernel
theorem dAD_132 : decode prog_22_method_2_code 132 = .ok (.putfield 43, 3) := by decide +kernel
theorem dAD_135 : decode prog_22_method_2_code 135 = .ok (.iinc 5 1, 3) := by decide +kernel
theorem dAD_138 : decode prog_22_method_2_code 138 = .ok (.goto (-30), 3) := by decide +kernel
theorem dAD_141 : decode prog_22_method_2_code 141 = .ok (.return_, 1) := by decide +kernel
theorem ef_AD (m : MethodId) (x0 : Addr) (x1 : Addr) : entryFrame m #[(.ref x0), (.ref x1)] 8 = mkF m 0 #[.val (.ref x0), .val (.ref x1), .unset, .unset, .unset, .unset, .unset, .unset] [] := by first | (simp [entryFrame, mkF, argsToLocals, Value.category]; done) | rfl
def QAD (Z : State) (th : Addr) (vb : Addr) (sm : Addr) (bs : Addr) (ib : Addr) (ks : ClassId) (kbs : ClassId) (kib : ClassId) (kb : ClassId) (cnt : Int32) (tr : Int64) (s0 : Int64) (s1 : Int64) (s2 : Int64) (s3 : Int64) (s4 : Int64) (s5 : Int64) (s6 : Int64) (s7 : Int64) (s8 : Int64) (t0 : Int64) (t1 : Int64) (t2 : Int64) (t3 : Int64) (t4 : Int64) (t5 : Int64) (t6 : Int64) (t7 : Int64) (t8 : Int64) (x0 : Int64) (x1 : Int64) (x2 : Int64) (h0 : Heap) (n0 : Nat) (v : Option Value) (h : Heap) (L : List Loc) : Prop := v = none ∧ Fr n0 L ∧ Keep h0 h [th, sm, ib] ∧ Exa Z h th "com/example/lineament/lineament/math/OuterProductSum" ∧ Fld Z h th "com/example/lineament/lineament/math/OuterProductSum" "d" "I" (.int (3 : Int32)) ∧ Fld Z h th "com/example/lineament/lineament/math/OuterProductSum" "sum" "[D" (.ref sm) ∧ Fld Z h th "com/example/lineament/lineament/math/OuterProductSum" "basis" "[D" (.ref bs) ∧ Fld Z h th "com/example/lineament/lineament/math/OuterProductSum" "inBasis" "[D" (.ref ib) ∧ Fld Z h th "com/example/lineament/lineament/math/OuterProductSum" "count" "I" (.int (cnt + (1 : Int32))) ∧ Fld Z h th "com/example/lineament/lineament/math/OuterProductSum" "trace" "D" (.double (FP.l2d (((tr + x0 * x0) + x1 * x1) + x2 * x2))) ∧ Arv Z h sm ks .double (9 : Int32) [(.double (FP.l2d (s0 + x0 * x0))), (.double (FP.l2d (s1 + x0 * x1))), (.double (FP.l2d (s2 + x0 * x2))), (.double (FP.l2d (s3 + x1 * x0))), (.double (FP.l2d (s4 + x1 * x1))), (.double (FP.l2d (s5 + x1 * x2))), (.double (FP.l2d (s6 + x2 * x0))), (.double (FP.l2d (s7 + x2 * x1))), (.double (FP.l2d (s8 + x2 * x2)))] (.double (FP.l2d 0)) ∧ Arv Z h ib kib .double (9 : Int32) [(.double (FP.l2d (t0 + x0 * x0))), (.double (FP.l2d (t1 + x0 * x1))), (.double (FP.l2d (t2 + x0 * x2))), (.double (FP.l2d (t3 + x1 * x0))), (.double (FP.l2d (t4 + x1 * x1))), (.double (FP.l2d (t5 + x1 * x2))), (.double (FP.l2d (t6 + x2 * x0))), (.double (FP.l2d (t7 + x2 * x1))), (.double (FP.l2d (t8 + x2 * x2)))] (.double (FP.l2d 0))
set_option maxRecDepth 65536 in
set_option maxHeartbeats 40000000 in
theorem rmAD (l : Launch) (Z : State) (a0 : Array Value) (hw : ∀ d ∈ tables_1, d.before a0 Z = true) (ws : List Jvm.Cond) (th : Addr) (vb : Addr) (sm : Addr) (bs : Addr) (ib : Addr) (ks : ClassId) (kbs : ClassId) (kib : ClassId) (kb : ClassId) (cnt : Int32) (tr : Int64) (s0 : Int64) (s1 : Int64) (s2 : Int64) (s3 : Int64) (s4 : Int64) (s5 : Int64) (s6 : Int64) (s7 : Int64) (s8 : Int64) (t0 : Int64) (t1 : Int64) (t2 : Int64) (t3 : Int64) (t4 : Int64) (t5 : Int64) (t6 : Int64) (t7 : Int64) (t8 : Int64) (x0 : Int64) (x1 : Int64) (x2 : Int64) (h0 : Heap) (n0 : Nat) (Z0 : n0 ≤ h0.size) (E_a : Exa Z h0 th "com/example/lineament/lineament/math/OuterProductSum") (F_d : Fld Z h0 th "com/example/lineament/lineament/math/OuterProductSum" "d" "I" (.int (3 : Int32))) (F_s : Fld Z h0 th "com/example/lineament/lineament/math/OuterProductSum" "sum" "[D" (.ref sm)) (F_b : Fld Z h0 th "com/example/lineament/lineament/math/OuterProductSum" "basis" "[D" (.ref bs)) (F_i : Fld Z h0 th "com/example/lineament/lineament/math/OuterProductSum" "inBasis" "[D" (.ref ib)) (F_c : Fld Z h0 th "com/example/lineament/lineament/math/OuterProductSum" "count" "I" (.int cnt)) (F_t : Fld Z h0 th "com/example/lineament/lineament/math/OuterProductSum" "trace" "D" (.double (FP.l2d tr))) (V_s : Arv Z h0 sm ks .double (9 : Int32) [(.double (FP.l2d s0)), (.double (FP.l2d s1)), (.double (FP.l2d s2)), (.double (FP.l2d s3)), (.double (FP.l2d s4)), (.double (FP.l2d s5)), (.double (FP.l2d s6)), (.double (FP.l2d s7)), (.double (FP.l2d s8))] (.double (FP.l2d 0))) (V_bs : Arv Z h0 bs kbs .double (9 : Int32) [(.double (FP.l2d 1)), (.double (FP.l2d 0)), (.double (FP.l2d 0)), (.double (FP.l2d 0)), (.double (FP.l2d 1)), (.double (FP.l2d 0)), (.double (FP.l2d 0)), (.double (FP.l2d 0)), (.double (FP.l2d 1))] (.double (FP.l2d 0))) (V_i : Arv Z h0 ib kib .double (9 : Int32) [(.double (FP.l2d t0)), (.double (FP.l2d t1)), (.double (FP.l2d t2)), (.double (FP.l2d t3)), (.double (FP.l2d t4)), (.double (FP.l2d t5)), (.double (FP.l2d t6)), (.double (FP.l2d t7)), (.double (FP.l2d t8))] (.double (FP.l2d 0))) (V_b : Arv Z h0 vb kb .double (3 : Int32) [(.double (FP.l2d x0)), (.double (FP.l2d x1)), (.double (FP.l2d x2))] (.double (FP.l2d 0))) (ne_th_sm : th ≠ sm) (ne_th_ib : th ≠ ib) (ne_vb_sm : vb ≠ sm) (ne_vb_ib : vb ≠ ib) (ne_vb_th : vb ≠ th) (ne_bs_sm : bs ≠ sm) (ne_bs_ib : bs ≠ ib) (ne_sm_ib : sm ≠ ib) (ne_bs_th : bs ≠ th) (g_th : n0 ≤ th) (g_sm : n0 ≤ sm) (g_ib : n0 ≤ ib) (B_tr : own_B 16777216 tr) (B_s0 : own_B 16777216 s0) (B_s1 : own_B 16777216 s1) (B_s2 : own_B 16777216 s2) (B_s3 : own_B 16777216 s3) (B_s4 : own_B 16777216 s4) (B_s5 : own_B 16777216 s5) (B_s6 : own_B 16777216 s6) (B_s7 : own_B 16777216 s7) (B_s8 : own_B 16777216 s8) (B_t0 : own_B 16777216 t0) (B_t1 : own_B 16777216 t1) (B_t2 : own_B 16777216 t2) (B_t3 : own_B 16777216 t3) (B_t4 : own_B 16777216 t4) (B_t5 : own_B 16777216 t5) (B_t6 : own_B 16777216 t6) (B_t7 : own_B 16777216 t7) (B_t8 : own_B 16777216 t8) (B_x0 : own_B 512 x0) (B_x1 : own_B 512 x1) (B_x2 : own_B 512 x2) :
    MetFree l (⟨"com/example/lineament/lineament/math/OuterProductSum", "add", "([D)V"⟩ : MethodName) (head1 (Jvm.Cond.code (⟨"com/example/lineament/lineament/math/OuterProductSum", "add", "([D)V"⟩ : MethodName) prog_22_method_2_code 8 none :: ws) ({ frames := 1, cells := 1, slots := 3, locals := 16 } : Room)) (fun a U => a = #[(.ref th), (.ref vb)] ∧ Z.Warmed39 U.vm ∧ U.heap = h0) (fun _ _ _ _ _ => True) (fun _ U o U' => ∃ v L, o = .returned v ∧ QAD Z th vb sm bs ib ks kbs kib kb cnt tr s0 s1 s2 s3 s4 s5 s6 s7 s8 t0 t1 t2 t3 t4 t5 t6 t7 t8 x0 x1 x2 h0 n0 v U'.heap L ∧ FrameEnd U o U' L ({ frames := 1, cells := 1, slots := 3, locals := 16 } : Room).cells ({ frames := 1, cells := 1, slots := 3, locals := 16 } : Room).slots) := by
  refine MetFree.of_bodySF (plainFor_of_name pn_com_example_lineament_lineament_math_OuterProductSum) hisR ?_
  intro p e s m args below meth c s₁ Bd hml0 hP hK
  obtain ⟨rfl, hZ, hh⟩ := hP
  have hx := Bd.exec
  have hby := Bd.bytes
  have hml : c.maxLocals = 8 := hml0
  have hown : s.vm.findClass "com/example/lineament/lineament/math/OuterProductSum" = some m.cls := findClass_of_methodNamed Bd.named
  have hnm := (name_of_methodNamed Bd.named Bd.method).1
  have X0 : Stand p l e ({ frames := 1, cells := 1, slots := 3, locals := 16 } : Room) s m #[(.ref th), (.ref vb)] below meth c s₁ [] 0 0 := Stand.of_body Bd
  have e0 : s₁.heap = h0 := by rw [← hh, Bd.state]; rfl
  have N0 := Fr.nil n0
  have K0 := Keep.refl h0 [th, sm, ib]
  have pre0 : ∀ t, Steps p.tables e below (s₁.setTop (mkF m 0 #[.val (.ref th), .val (.ref vb), .unset, .unset, .unset, .unset, .unset, .unset] [])) t → Steps p.tables e below (s₁.setTop (entryFrame m #[(.ref th), (.ref vb)] 8)) t := fun t k => castTop (ef_AD m th vb) k
  obtain ⟨cq167, q167, q167'⟩ := E_a.cell
  obtain ⟨_, _, ⟨T167, L167, k167, n167⟩, -, X167, ⟨Lc167, hQ167, l167, y167, z167⟩, st167⟩ := X0.privateBack hx (y := (⟨"com/example/lineament/lineament/math/OuterProductSum", "requireLength", "([D)V"⟩ : MethodName)) hown (mvT hZ (hw _ (List.mem_of_getElem? (i := 27) rfl))) (mvT hZ (hw _ (List.mem_of_getElem? (i := 28) rfl))) (own_selP (y := (⟨"com/example/lineament/lineament/math/OuterProductSum", "requireLength", "([D)V"⟩ : MethodName)) (z := (⟨"com/example/lineament/lineament/math/OuterProductSum", "add", "([D)V"⟩ : MethodName)) (mvT hZ (hw _ (List.mem_of_getElem? (i := 25) rfl))) rfl (Cond.privateMethod_at (mvP hZ (hw _ (List.mem_of_getElem? (i := 29) rfl)) (args := #[]))) (mvT hZ (hw _ (List.mem_of_getElem? (i := 28) rfl))) (by decide)) (Cond.privateMethod_at (mvP hZ (hw _ (List.mem_of_getElem? (i := 29) rfl)) (args := #[]))) (mvT hZ (hw _ (List.mem_of_getElem? (i := 30) rfl))) (by decide) (backOf (W := 0) (rmRL l Z a0 hw [] th vb kb x0 x1 x2 h0 n0 (Nat.le_trans Z0 K0.1) F_d V_b) hZ (hw _ (List.mem_of_getElem? (i := 30) rfl)) (hw _ (List.mem_of_getElem? (i := 7) rfl)) (by decide) (by decide)) (g := (mkF m 2 #[.val (.ref th), .val (.ref vb), .unset, .unset, .unset, .unset, .unset, .unset] [(.ref vb), (.ref th)])) rfl (by rw [hml]; rfl) (Steps.refl _) (a := th) (by rw [e0]; exact q167) q167' (argsL := [(.ref vb)]) (rest := []) (lenOf pd_1 rfl) rfl (by show 2 * 0 + _ ≤ _; exact Nat.le_of_eq rfl) (hb hby dAD_2) (fun _ _ => ⟨rfl, e0, (by decide : 0 + 0 ≤ _), (by decide : 0 + 0 ≤ _)⟩)
  dsimp only [Pt.U, Pt.locs, Pt.cells, Pt.slots] at X167 l167 y167 z167 st167 hQ167
  rw [l167, y167, z167] at X167
  obtain ⟨hv167, Nq167, eq167⟩ := hQ167
  rw [hv167] at st167
  have N167 := Fr.app N0 Nq167
  obtain ⟨T168, X168, e168, st168⟩ := getF X167 hx hZ hown (host := "") (Or.inl (hw _ (List.mem_of_getElem? (i := 16) rfl))) Via.refl eq167 F_s (g := (mkF m 7 #[.val (.ref th), .val (.ref vb), .unset, .unset, .unset, .unset, .unset, .unset] [(.ref th), (.ref th)])) rfl rfl (hb hby dAD_7)
  obtain ⟨cq169, q169, q169'⟩ := E_a.cell
  obtain ⟨_, _, ⟨T169, L169, k169, n169⟩, -, X169, ⟨Lc169, hQ169, l169, y169, z169⟩, st169⟩ := X168.privateBack hx (y := (⟨"com/example/lineament/lineament/math/OuterProductSum", "addOuter", "([D[D)V"⟩ : MethodName)) hown (mvT hZ (hw _ (List.mem_of_getElem? (i := 31) rfl))) (mvT hZ (hw _ (List.mem_of_getElem? (i := 32) rfl))) (own_selP (y := (⟨"com/example/lineament/lineament/math/OuterProductSum", "addOuter", "([D[D)V"⟩ : MethodName)) (z := (⟨"com/example/lineament/lineament/math/OuterProductSum", "add", "([D)V"⟩ : MethodName)) (mvT hZ (hw _ (List.mem_of_getElem? (i := 25) rfl))) rfl (Cond.privateMethod_at (mvP hZ (hw _ (List.mem_of_getElem? (i := 33) rfl)) (args := #[]))) (mvT hZ (hw _ (List.mem_of_getElem? (i := 32) rfl))) (by decide)) (Cond.privateMethod_at (mvP hZ (hw _ (List.mem_of_getElem? (i := 33) rfl)) (args := #[]))) (mvT hZ (hw _ (List.mem_of_getElem? (i := 34) rfl))) (by decide) (backOf (W := 0) (rmAO l Z a0 hw [] th sm vb ks kb s0 s1 s2 s3 s4 s5 s6 s7 s8 x0 x1 x2 h0 n0 (Nat.le_trans Z0 K0.1) F_d V_s V_b ne_th_sm (Ne.symm ne_vb_sm) g_sm B_s0 B_s1 B_s2 B_s3 B_s4 B_s5 B_s6 B_s7 B_s8 B_x0 B_x1 B_x2) hZ (hw _ (List.mem_of_getElem? (i := 34) rfl)) (hw _ (List.mem_of_getElem? (i := 7) rfl)) (by decide) (by decide)) (g := (mkF m 11 #[.val (.ref th), .val (.ref vb), .unset, .unset, .unset, .unset, .unset, .unset] [(.ref vb), (.ref sm), (.ref th)])) rfl (by rw [hml]; rfl) (Steps.refl _) (a := th) (by rw [e168]; exact q169) q169' (argsL := [(.ref sm), (.ref vb)]) (rest := []) (lenOf pd_2 rfl) rfl (by show 2 * 0 + _ ≤ _; exact Nat.le_of_eq rfl) (hb hby dAD_11) (fun _ _ => ⟨rfl, e168, (by decide : 0 + 0 ≤ _), (by decide : 0 + 0 ≤ _)⟩)
  dsimp only [Pt.U, Pt.locs, Pt.cells, Pt.slots] at X169 l169 y169 z169 st169 hQ169
  rw [l169, y169, z169] at X169
  obtain ⟨hv169, Nq169, Kc169, Vn169⟩ := hQ169
  rw [hv169] at st169
  have K169 : Keep h0 T169.heap [th, sm, ib] := K0.trans Kc169 (allS (P := fun x => x ∈ [th, sm, ib] ∨ h0.size ≤ x) (Or.inl (List.mem_of_getElem? (i := 1) rfl)) all0)
  have N169 := Fr.app N167 Nq169
  have f170 := F_d.keep Kc169 (ninS ne_th_sm nin0)
  obtain ⟨T171, X171, e171, st171⟩ := getF X169 hx hZ hown (host := "") (Or.inl (hw _ (List.mem_of_getElem? (i := 14) rfl))) Via.refl rfl f170 (g := (mkF m 15 #[.val (.ref th), .val (.ref vb), .unset, .unset, .unset, .unset, .unset, .unset] [(.ref th)])) rfl rfl (hb hby dAD_15)
  obtain ⟨T172, h172, k172, X172, e172, E172, A172, st172⟩ := newP X171 hx hZ (hw _ (List.mem_of_getElem? (i := 4) rfl)) e171 (g := (mkF m 18 #[.val (.ref th), .val (.ref vb), .unset, .unset, .unset, .unset, .unset, .unset] [(.int (3 : Int32))])) rfl (hb hby dAD_18) rfl (by decide) (cap := 3) (by decide) (by decide) (by decide) (by decide)
  obtain ⟨b172, g172⟩ : ∃ z, z = T169.heap.size := ⟨_, rfl⟩
  rw [← g172] at A172 st172
  have f173 := E_a.keep Kc169
  have lt_th_b172 : th < b172 := Nat.lt_of_lt_of_le f173.lt (Nat.le_of_eq g172.symm)
  have lt_sm_b172 : sm < b172 := Nat.lt_of_lt_of_le Vn169.lt (Nat.le_of_eq g172.symm)
  have f174 := V_bs.keep Kc169 (ninS ne_bs_sm nin0)
  have lt_bs_b172 : bs < b172 := Nat.lt_of_lt_of_le f174.lt (Nat.le_of_eq g172.symm)
  have f175 := V_i.keep Kc169 (ninS (Ne.symm ne_sm_ib) nin0)
  have lt_ib_b172 : ib < b172 := Nat.lt_of_lt_of_le f175.lt (Nat.le_of_eq g172.symm)
  have f176 := V_b.keep Kc169 (ninS ne_vb_sm nin0)
  have lt_vb_b172 : vb < b172 := Nat.lt_of_lt_of_le f176.lt (Nat.le_of_eq g172.symm)
  have g_b172 : n0 ≤ b172 := Nat.le_trans (Nat.le_trans Z0 K169.1) (Nat.le_of_eq g172.symm)
  have sz_b172 : h0.size ≤ b172 := Nat.le_trans K169.1 (Nat.le_of_eq g172.symm)
  have K172 : Keep h0 h172 [th, sm, ib] := K169.ext E172
  have V172 : Arv Z h172 b172 k172 .double (3 : Int32) [(.double (FP.l2d 0)), (.double (FP.l2d 0)), (.double (FP.l2d 0))] (.double (FP.l2d 0)) := (Arv.newD A172 (by decide)).pad (pad_rep [] (.double (FP.l2d 0)) 3)
  have f177 := f170.ext E172
  obtain ⟨T178, X178, e178, st178⟩ := getF X172 hx hZ hown (host := "") (Or.inl (hw _ (List.mem_of_getElem? (i := 14) rfl))) Via.refl e172 f177 (g := (mkF m 25 #[.val (.ref th), .val (.ref vb), .val (.ref b172), .val (.int (0 : Int32)), .unset, .unset, .unset, .unset] [(.ref th), (.int (0 : Int32))])) rfl rfl (hb hby dAD_25)
  obtain ⟨T179, X179, e179, st179⟩ := getF X178 hx hZ hown (host := "") (Or.inl (hw _ (List.mem_of_getElem? (i := 14) rfl))) Via.refl e178 f177 (g := (mkF m 37 #[.val (.ref th), .val (.ref vb), .val (.ref b172), .val (.int (0 : Int32)), .val (.int (0 : Int32)), .unset, .unset, .unset] [(.ref th), (.int (0 : Int32))])) rfl rfl (hb hby dAD_37)
  obtain ⟨cl180, Ar180, q180, S180, N180, H180, G180⟩ := id V172
  have hin180 : ¬ ((0 : Int32) < 0 ∨ cl180.slots.size ≤ ((0 : Int32)).toNatClampNeg) := (inb_of S180 ⟨by decide, by decide⟩)
  have hat180 : cl180.slots[((0 : Int32)).toNatClampNeg]? = some (.double (FP.l2d 0)) := (H180.at (inb_of S180 ⟨by decide, by decide⟩) rfl)
  have f181 := F_b.keep Kc169 (ninS ne_th_sm nin0)
  have f182 := f181.ext E172
  obtain ⟨T183, X183, e183, st183⟩ := getF X179 hx hZ hown (host := "") (Or.inl (hw _ (List.mem_of_getElem? (i := 18) rfl))) Via.refl e179 f182 (g := (mkF m 48 #[.val (.ref th), .val (.ref vb), .val (.ref b172), .val (.int (0 : Int32)), .val (.int (0 : Int32)), .unset, .unset, .unset] [(.ref th), (.double (FP.l2d 0)), (.int (0 : Int32)), (.ref b172)])) rfl rfl (hb hby dAD_48)
  obtain ⟨T184, X184, e184, st184⟩ := getF X183 hx hZ hown (host := "") (Or.inl (hw _ (List.mem_of_getElem? (i := 14) rfl))) Via.refl e183 f177 (g := (mkF m 53 #[.val (.ref th), .val (.ref vb), .val (.ref b172), .val (.int (0 : Int32)), .val (.int (0 : Int32)), .unset, .unset, .unset] [(.ref th), (.int (0 : Int32)), (.ref bs), (.double (FP.l2d 0)), (.int (0 : Int32)), (.ref b172)])) rfl rfl (hb hby dAD_53)
  have f186 := f174.ext E172
  obtain ⟨cl185, Ar185, q185, S185, N185, H185, G185⟩ := id f186
  have hin185 : ¬ ((0 : Int32) < 0 ∨ cl185.slots.size ≤ ((0 : Int32)).toNatClampNeg) := (inb_of S185 ⟨by decide, by decide⟩)
  have hat185 : cl185.slots[((0 : Int32)).toNatClampNeg]? = some (.double (FP.l2d 1)) := (H185.at (inb_of S185 ⟨by decide, by decide⟩) rfl)
  have f188 := f176.ext E172
  obtain ⟨cl187, Ar187, q187, S187, N187, H187, G187⟩ := id f188
  have hin187 : ¬ ((0 : Int32) < 0 ∨ cl187.slots.size ≤ ((0 : Int32)).toNatClampNeg) := (inb_of S187 ⟨by decide, by decide⟩)
  have hat187 : cl187.slots[((0 : Int32)).toNatClampNeg]? = some (.double (FP.l2d x0)) := (H187.at (inb_of S187 ⟨by decide, by decide⟩) rfl)
  have Bq189 := own_fma own_B0 own_B1 B_x0 (by decide) (by decide) (by decide)
  obtain ⟨cl190, Ar190, q190, S190, N190, H190, G190⟩ := id V172
  have hin190 : ¬ ((0 : Int32) < 0 ∨ cl190.slots.size ≤ ((0 : Int32)).toNatClampNeg) := (inb_of S190 ⟨by decide, by decide⟩)
  obtain ⟨T191, h191, X191, e191, W191, st191⟩ := stD X184 hx hZ e184 Ar190 (j := (0 : Int32)) hin190 (g := (mkF m 67 #[.val (.ref th), .val (.ref vb), .val (.ref b172), .val (.int (0 : Int32)), .val (.int (0 : Int32)), .unset, .unset, .unset] [(.double (FP.l2d (0 + 1 * x0))), (.int (0 : Int32)), (.ref b172)])) rfl rfl (hb hby dAD_67)
  have V191 : Arv Z h191 b172 k172 .double (3 : Int32) [(.double (FP.l2d (0 + 1 * x0))), (.double (FP.l2d 0)), (.double (FP.l2d 0))] (.double (FP.l2d 0)) := Arv.set Ar190 q190 S190 N190 H190 G190 rfl W191 0 rfl (Nat.le_of_ble_eq_true rfl)
  have K191 : Keep h0 h191 [th, sm, ib] := K172.wr W191 (Or.inr sz_b172)
  have N191F := Fr.snoc X191 N169 g_b172
  have f192 := f177.other W191 (Or.inl (Nat.ne_of_lt lt_th_b172))
  obtain ⟨T193, X193, e193, st193⟩ := getF X191 hx hZ hown (host := "") (Or.inl (hw _ (List.mem_of_getElem? (i := 14) rfl))) Via.refl e191 f192 (g := (mkF m 37 #[.val (.ref th), .val (.ref vb), .val (.ref b172), .val (.int (0 : Int32)), .val (.int (1 : Int32)), .unset, .unset, .unset] [(.ref th), (.int (1 : Int32))])) rfl rfl (hb hby dAD_37)
  obtain ⟨cl194, Ar194, q194, S194, N194, H194, G194⟩ := id V191
  have hin194 : ¬ ((0 : Int32) < 0 ∨ cl194.slots.size ≤ ((0 : Int32)).toNatClampNeg) := (inb_of S194 ⟨by decide, by decide⟩)
  have hat194 : cl194.slots[((0 : Int32)).toNatClampNeg]? = some (.double (FP.l2d (0 + 1 * x0))) := (H194.at (inb_of S194 ⟨by decide, by decide⟩) rfl)
  have f195 := f182.other W191 (Or.inl (Nat.ne_of_lt lt_th_b172))
  obtain ⟨T196, X196, e196, st196⟩ := getF X193 hx hZ hown (host := "") (Or.inl (hw _ (List.mem_of_getElem? (i := 18) rfl))) Via.refl e193 f195 (g := (mkF m 48 #[.val (.ref th), .val (.ref vb), .val (.ref b172), .val (.int (0 : Int32)), .val (.int (1 : Int32)), .unset, .unset, .unset] [(.ref th), (.double (FP.l2d (0 + 1 * x0))), (.int (0 : Int32)), (.ref b172)])) rfl rfl (hb hby dAD_48)
  obtain ⟨T197, X197, e197, st197⟩ := getF X196 hx hZ hown (host := "") (Or.inl (hw _ (List.mem_of_getElem? (i := 14) rfl))) Via.refl e196 f192 (g := (mkF m 53 #[.val (.ref th), .val (.ref vb), .val (.ref b172), .val (.int (0 : Int32)), .val (.int (1 : Int32)), .unset, .unset, .unset] [(.ref th), (.int (0 : Int32)), (.ref bs), (.double (FP.l2d (0 + 1 * x0))), (.int (0 : Int32)), (.ref b172)])) rfl rfl (hb hby dAD_53)
  have f199 := f186.other W191 (Nat.ne_of_lt lt_bs_b172)
  obtain ⟨cl198, Ar198, q198, S198, N198, H198, G198⟩ := id f199
  have hin198 : ¬ ((1 : Int32) < 0 ∨ cl198.slots.size ≤ ((1 : Int32)).toNatClampNeg) := (inb_of S198 ⟨by decide, by decide⟩)
  have hat198 : cl198.slots[((1 : Int32)).toNatClampNeg]? = some (.double (FP.l2d 0)) := (H198.at (inb_of S198 ⟨by decide, by decide⟩) rfl)
  have f201 := f188.other W191 (Nat.ne_of_lt lt_vb_b172)
  obtain ⟨cl200, Ar200, q200, S200, N200, H200, G200⟩ := id f201
  have hin200 : ¬ ((1 : Int32) < 0 ∨ cl200.slots.size ≤ ((1 : Int32)).toNatClampNeg) := (inb_of S200 ⟨by decide, by decide⟩)
  have hat200 : cl200.slots[((1 : Int32)).toNatClampNeg]? = some (.double (FP.l2d x1)) := (H200.at (inb_of S200 ⟨by decide, by decide⟩) rfl)
  have Bq202 := own_fma Bq189.2 own_B0 B_x1 (by decide) (by decide) (by decide)
  obtain ⟨cl203, Ar203, q203, S203, N203, H203, G203⟩ := id V191
  have hin203 : ¬ ((0 : Int32) < 0 ∨ cl203.slots.size ≤ ((0 : Int32)).toNatClampNeg) := (inb_of S203 ⟨by decide, by decide⟩)
  obtain ⟨T204, h204, X204, e204, W204, st204⟩ := stD X197 hx hZ e197 Ar203 (j := (0 : Int32)) hin203 (g := (mkF m 67 #[.val (.ref th), .val (.ref vb), .val (.ref b172), .val (.int (0 : Int32)), .val (.int (1 : Int32)), .unset, .unset, .unset] [(.double (FP.l2d ((0 + 1 * x0) + 0 * x1))), (.int (0 : Int32)), (.ref b172)])) rfl rfl (hb hby dAD_67)
  have V204 : Arv Z h204 b172 k172 .double (3 : Int32) [(.double (FP.l2d ((0 + 1 * x0) + 0 * x1))), (.double (FP.l2d 0)), (.double (FP.l2d 0))] (.double (FP.l2d 0)) := Arv.set Ar203 q203 S203 N203 H203 G203 rfl W204 0 rfl (Nat.le_of_ble_eq_true rfl)
  have K204 : Keep h0 h204 [th, sm, ib] := K191.wr W204 (Or.inr sz_b172)
  have N204F := Fr.snoc X204 N191F g_b172
  have f205 := f192.other W204 (Or.inl (Nat.ne_of_lt lt_th_b172))
  obtain ⟨T206, X206, e206, st206⟩ := getF X204 hx hZ hown (host := "") (Or.inl (hw _ (List.mem_of_getElem? (i := 14) rfl))) Via.refl e204 f205 (g := (mkF m 37 #[.val (.ref th), .val (.ref vb), .val (.ref b172), .val (.int (0 : Int32)), .val (.int (2 : Int32)), .unset, .unset, .unset] [(.ref th), (.int (2 : Int32))])) rfl rfl (hb hby dAD_37)
  obtain ⟨cl207, Ar207, q207, S207, N207, H207, G207⟩ := id V204
  have hin207 : ¬ ((0 : Int32) < 0 ∨ cl207.slots.size ≤ ((0 : Int32)).toNatClampNeg) := (inb_of S207 ⟨by decide, by decide⟩)
  have hat207 : cl207.slots[((0 : Int32)).toNatClampNeg]? = some (.double (FP.l2d ((0 + 1 * x0) + 0 * x1))) := (H207.at (inb_of S207 ⟨by decide, by decide⟩) rfl)
  have f208 := f195.other W204 (Or.inl (Nat.ne_of_lt lt_th_b172))
  obtain ⟨T209, X209, e209, st209⟩ := getF X206 hx hZ hown (host := "") (Or.inl (hw _ (List.mem_of_getElem? (i := 18) rfl))) Via.refl e206 f208 (g := (mkF m 48 #[.val (.ref th), .val (.ref vb), .val (.ref b172), .val (.int (0 : Int32)), .val (.int (2 : Int32)), .unset, .unset, .unset] [(.ref th), (.double (FP.l2d ((0 + 1 * x0) + 0 * x1))), (.int (0 : Int32)), (.ref b172)])) rfl rfl (hb hby dAD_48)
  obtain ⟨T210, X210, e210, st210⟩ := getF X209 hx hZ hown (host := "") (Or.inl (hw _ (List.mem_of_getElem? (i := 14) rfl))) Via.refl e209 f205 (g := (mkF m 53 #[.val (.ref th), .val (.ref vb), .val (.ref b172), .val (.int (0 : Int32)), .val (.int (2 : Int32)), .unset, .unset, .unset] [(.ref th), (.int (0 : Int32)), (.ref bs), (.double (FP.l2d ((0 + 1 * x0) + 0 * x1))), (.int (0 : Int32)), (.ref b172)])) rfl rfl (hb hby dAD_53)
  have f212 := f199.other W204 (Nat.ne_of_lt lt_bs_b172)
  obtain ⟨cl211, Ar211, q211, S211, N211, H211, G211⟩ := id f212
  have hin211 : ¬ ((2 : Int32) < 0 ∨ cl211.slots.size ≤ ((2 : Int32)).toNatClampNeg) := (inb_of S211 ⟨by decide, by decide⟩)
  have hat211 : cl211.slots[((2 : Int32)).toNatClampNeg]? = some (.double (FP.l2d 0)) := (H211.at (inb_of S211 ⟨by decide, by decide⟩) rfl)
  have f214 := f201.other W204 (Nat.ne_of_lt lt_vb_b172)
  obtain ⟨cl213, Ar213, q213, S213, N213, H213, G213⟩ := id f214
  have hin213 : ¬ ((2 : Int32) < 0 ∨ cl213.slots.size ≤ ((2 : Int32)).toNatClampNeg) := (inb_of S213 ⟨by decide, by decide⟩)
  have hat213 : cl213.slots[((2 : Int32)).toNatClampNeg]? = some (.double (FP.l2d x2)) := (H213.at (inb_of S213 ⟨by decide, by decide⟩) rfl)
  have Bq215 := own_fma Bq202.2 own_B0 B_x2 (by decide) (by decide) (by decide)
  obtain ⟨cl216, Ar216, q216, S216, N216, H216, G216⟩ := id V204
  have hin216 : ¬ ((0 : Int32) < 0 ∨ cl216.slots.size ≤ ((0 : Int32)).toNatClampNeg) := (inb_of S216 ⟨by decide, by decide⟩)
  obtain ⟨T217, h217, X217, e217, W217, st217⟩ := stD X210 hx hZ e210 Ar216 (j := (0 : Int32)) hin216 (g := (mkF m 67 #[.val (.ref th), .val (.ref vb), .val (.ref b172), .val (.int (0 : Int32)), .val (.int (2 : Int32)), .unset, .unset, .unset] [(.double (FP.l2d (((0 + 1 * x0) + 0 * x1) + 0 * x2))), (.int (0 : Int32)), (.ref b172)])) rfl rfl (hb hby dAD_67)
  have V217 : Arv Z h217 b172 k172 .double (3 : Int32) [(.double (FP.l2d (((0 + 1 * x0) + 0 * x1) + 0 * x2))), (.double (FP.l2d 0)), (.double (FP.l2d 0))] (.double (FP.l2d 0)) := Arv.set Ar216 q216 S216 N216 H216 G216 rfl W217 0 rfl (Nat.le_of_ble_eq_true rfl)
  have K217 : Keep h0 h217 [th, sm, ib] := K204.wr W217 (Or.inr sz_b172)
  have N217F := Fr.snoc X217 N204F g_b172
  have f218 := f205.other W217 (Or.inl (Nat.ne_of_lt lt_th_b172))
  obtain ⟨T219, X219, e219, st219⟩ := getF X217 hx hZ hown (host := "") (Or.inl (hw _ (List.mem_of_getElem? (i := 14) rfl))) Via.refl e217 f218 (g := (mkF m 37 #[.val (.ref th), .val (.ref vb), .val (.ref b172), .val (.int (0 : Int32)), .val (.int (3 : Int32)), .unset, .unset, .unset] [(.ref th), (.int (3 : Int32))])) rfl rfl (hb hby dAD_37)
  obtain ⟨T220, X220, e220, st220⟩ := getF X219 hx hZ hown (host := "") (Or.inl (hw _ (List.mem_of_getElem? (i := 14) rfl))) Via.refl e219 f218 (g := (mkF m 25 #[.val (.ref th), .val (.ref vb), .val (.ref b172), .val (.int (1 : Int32)), .val (.int (3 : Int32)), .unset, .unset, .unset] [(.ref th), (.int (1 : Int32))])) rfl rfl (hb hby dAD_25)
  obtain ⟨T221, X221, e221, st221⟩ := getF X220 hx hZ hown (host := "") (Or.inl (hw _ (List.mem_of_getElem? (i := 14) rfl))) Via.refl e220 f218 (g := (mkF m 37 #[.val (.ref th), .val (.ref vb), .val (.ref b172), .val (.int (1 : Int32)), .val (.int (0 : Int32)), .unset, .unset, .unset] [(.ref th), (.int (0 : Int32))])) rfl rfl (hb hby dAD_37)
  obtain ⟨cl222, Ar222, q222, S222, N222, H222, G222⟩ := id V217
  have hin222 : ¬ ((1 : Int32) < 0 ∨ cl222.slots.size ≤ ((1 : Int32)).toNatClampNeg) := (inb_of S222 ⟨by decide, by decide⟩)
  have hat222 : cl222.slots[((1 : Int32)).toNatClampNeg]? = some (.double (FP.l2d 0)) := (H222.at (inb_of S222 ⟨by decide, by decide⟩) rfl)
  have f223 := f208.other W217 (Or.inl (Nat.ne_of_lt lt_th_b172))
  obtain ⟨T224, X224, e224, st224⟩ := getF X221 hx hZ hown (host := "") (Or.inl (hw _ (List.mem_of_getElem? (i := 18) rfl))) Via.refl e221 f223 (g := (mkF m 48 #[.val (.ref th), .val (.ref vb), .val (.ref b172), .val (.int (1 : Int32)), .val (.int (0 : Int32)), .unset, .unset, .unset] [(.ref th), (.double (FP.l2d 0)), (.int (1 : Int32)), (.ref b172)])) rfl rfl (hb hby dAD_48)
  obtain ⟨T225, X225, e225, st225⟩ := getF X224 hx hZ hown (host := "") (Or.inl (hw _ (List.mem_of_getElem? (i := 14) rfl))) Via.refl e224 f218 (g := (mkF m 53 #[.val (.ref th), .val (.ref vb), .val (.ref b172), .val (.int (1 : Int32)), .val (.int (0 : Int32)), .unset, .unset, .unset] [(.ref th), (.int (1 : Int32)), (.ref bs), (.double (FP.l2d 0)), (.int (1 : Int32)), (.ref b172)])) rfl rfl (hb hby dAD_53)
  have f227 := f212.other W217 (Nat.ne_of_lt lt_bs_b172)
  obtain ⟨cl226, Ar226, q226, S226, N226, H226, G226⟩ := id f227
  have hin226 : ¬ ((3 : Int32) < 0 ∨ cl226.slots.size ≤ ((3 : Int32)).toNatClampNeg) := (inb_of S226 ⟨by decide, by decide⟩)
  have hat226 : cl226.slots[((3 : Int32)).toNatClampNeg]? = some (.double (FP.l2d 0)) := (H226.at (inb_of S226 ⟨by decide, by decide⟩) rfl)
  have f229 := f214.other W217 (Nat.ne_of_lt lt_vb_b172)
  obtain ⟨cl228, Ar228, q228, S228, N228, H228, G228⟩ := id f229
  have hin228 : ¬ ((0 : Int32) < 0 ∨ cl228.slots.size ≤ ((0 : Int32)).toNatClampNeg) := (inb_of S228 ⟨by decide, by decide⟩)
  have hat228 : cl228.slots[((0 : Int32)).toNatClampNeg]? = some (.double (FP.l2d x0)) := (H228.at (inb_of S228 ⟨by decide, by decide⟩) rfl)
  have Bq230 := own_fma own_B0 own_B0 B_x0 (by decide) (by decide) (by decide)
  obtain ⟨cl231, Ar231, q231, S231, N231, H231, G231⟩ := id V217
  have hin231 : ¬ ((1 : Int32) < 0 ∨ cl231.slots.size ≤ ((1 : Int32)).toNatClampNeg) := (inb_of S231 ⟨by decide, by decide⟩)
  obtain ⟨T232, h232, X232, e232, W232, st232⟩ := stD X225 hx hZ e225 Ar231 (j := (1 : Int32)) hin231 (g := (mkF m 67 #[.val (.ref th), .val (.ref vb), .val (.ref b172), .val (.int (1 : Int32)), .val (.int (0 : Int32)), .unset, .unset, .unset] [(.double (FP.l2d (0 + 0 * x0))), (.int (1 : Int32)), (.ref b172)])) rfl rfl (hb hby dAD_67)
  have V232 : Arv Z h232 b172 k172 .double (3 : Int32) [(.double (FP.l2d (((0 + 1 * x0) + 0 * x1) + 0 * x2))), (.double (FP.l2d (0 + 0 * x0))), (.double (FP.l2d 0))] (.double (FP.l2d 0)) := Arv.set Ar231 q231 S231 N231 H231 G231 rfl W232 1 rfl (Nat.le_of_ble_eq_true rfl)
  have K232 : Keep h0 h232 [th, sm, ib] := K217.wr W232 (Or.inr sz_b172)
  have N232F := Fr.snoc X232 N217F g_b172
  have f233 := f218.other W232 (Or.inl (Nat.ne_of_lt lt_th_b172))
  obtain ⟨T234, X234, e234, st234⟩ := getF X232 hx hZ hown (host := "") (Or.inl (hw _ (List.mem_of_getElem? (i := 14) rfl))) Via.refl e232 f233 (g := (mkF m 37 #[.val (.ref th), .val (.ref vb), .val (.ref b172), .val (.int (1 : Int32)), .val (.int (1 : Int32)), .unset, .unset, .unset] [(.ref th), (.int (1 : Int32))])) rfl rfl (hb hby dAD_37)
  obtain ⟨cl235, Ar235, q235, S235, N235, H235, G235⟩ := id V232
  have hin235 : ¬ ((1 : Int32) < 0 ∨ cl235.slots.size ≤ ((1 : Int32)).toNatClampNeg) := (inb_of S235 ⟨by decide, by decide⟩)
  have hat235 : cl235.slots[((1 : Int32)).toNatClampNeg]? = some (.double (FP.l2d (0 + 0 * x0))) := (H235.at (inb_of S235 ⟨by decide, by decide⟩) rfl)
  have f236 := f223.other W232 (Or.inl (Nat.ne_of_lt lt_th_b172))
  obtain ⟨T237, X237, e237, st237⟩ := getF X234 hx hZ hown (host := "") (Or.inl (hw _ (List.mem_of_getElem? (i := 18) rfl))) Via.refl e234 f236 (g := (mkF m 48 #[.val (.ref th), .val (.ref vb), .val (.ref b172), .val (.int (1 : Int32)), .val (.int (1 : Int32)), .unset, .unset, .unset] [(.ref th), (.double (FP.l2d (0 + 0 * x0))), (.int (1 : Int32)), (.ref b172)])) rfl rfl (hb hby dAD_48)
  obtain ⟨T238, X238, e238, st238⟩ := getF X237 hx hZ hown (host := "") (Or.inl (hw _ (List.mem_of_getElem? (i := 14) rfl))) Via.refl e237 f233 (g := (mkF m 53 #[.val (.ref th), .val (.ref vb), .val (.ref b172), .val (.int (1 : Int32)), .val (.int (1 : Int32)), .unset, .unset, .unset] [(.ref th), (.int (1 : Int32)), (.ref bs), (.double (FP.l2d (0 + 0 * x0))), (.int (1 : Int32)), (.ref b172)])) rfl rfl (hb hby dAD_53)
  have f240 := f227.other W232 (Nat.ne_of_lt lt_bs_b172)
  obtain ⟨cl239, Ar239, q239, S239, N239, H239, G239⟩ := id f240
  have hin239 : ¬ ((4 : Int32) < 0 ∨ cl239.slots.size ≤ ((4 : Int32)).toNatClampNeg) := (inb_of S239 ⟨by decide, by decide⟩)
  have hat239 : cl239.slots[((4 : Int32)).toNatClampNeg]? = some (.double (FP.l2d 1)) := (H239.at (inb_of S239 ⟨by decide, by decide⟩) rfl)
  have f242 := f229.other W232 (Nat.ne_of_lt lt_vb_b172)
  obtain ⟨cl241, Ar241, q241, S241, N241, H241, G241⟩ := id f242
  have hin241 : ¬ ((1 : Int32) < 0 ∨ cl241.slots.size ≤ ((1 : Int32)).toNatClampNeg) := (inb_of S241 ⟨by decide, by decide⟩)
  have hat241 : cl241.slots[((1 : Int32)).toNatClampNeg]? = some (.double (FP.l2d x1)) := (H241.at (inb_of S241 ⟨by decide, by decide⟩) rfl)
  have Bq243 := own_fma Bq230.2 own_B1 B_x1 (by decide) (by decide) (by decide)
  obtain ⟨cl244, Ar244, q244, S244, N244, H244, G244⟩ := id V232
  have hin244 : ¬ ((1 : Int32) < 0 ∨ cl244.slots.size ≤ ((1 : Int32)).toNatClampNeg) := (inb_of S244 ⟨by decide, by decide⟩)
  obtain ⟨T245, h245, X245, e245, W245, st245⟩ := stD X238 hx hZ e238 Ar244 (j := (1 : Int32)) hin244 (g := (mkF m 67 #[.val (.ref th), .val (.ref vb), .val (.ref b172), .val (.int (1 : Int32)), .val (.int (1 : Int32)), .unset, .unset, .unset] [(.double (FP.l2d ((0 + 0 * x0) + 1 * x1))), (.int (1 : Int32)), (.ref b172)])) rfl rfl (hb hby dAD_67)
  have V245 : Arv Z h245 b172 k172 .double (3 : Int32) [(.double (FP.l2d (((0 + 1 * x0) + 0 * x1) + 0 * x2))), (.double (FP.l2d ((0 + 0 * x0) + 1 * x1))), (.double (FP.l2d 0))] (.double (FP.l2d 0)) := Arv.set Ar244 q244 S244 N244 H244 G244 rfl W245 1 rfl (Nat.le_of_ble_eq_true rfl)
  have K245 : Keep h0 h245 [th, sm, ib] := K232.wr W245 (Or.inr sz_b172)
  have N245F := Fr.snoc X245 N232F g_b172
  have f246 := f233.other W245 (Or.inl (Nat.ne_of_lt lt_th_b172))
  obtain ⟨T247, X247, e247, st247⟩ := getF X245 hx hZ hown (host := "") (Or.inl (hw _ (List.mem_of_getElem? (i := 14) rfl))) Via.refl e245 f246 (g := (mkF m 37 #[.val (.ref th), .val (.ref vb), .val (.ref b172), .val (.int (1 : Int32)), .val (.int (2 : Int32)), .unset, .unset, .unset] [(.ref th), (.int (2 : Int32))])) rfl rfl (hb hby dAD_37)
  obtain ⟨cl248, Ar248, q248, S248, N248, H248, G248⟩ := id V245
  have hin248 : ¬ ((1 : Int32) < 0 ∨ cl248.slots.size ≤ ((1 : Int32)).toNatClampNeg) := (inb_of S248 ⟨by decide, by decide⟩)
  have hat248 : cl248.slots[((1 : Int32)).toNatClampNeg]? = some (.double (FP.l2d ((0 + 0 * x0) + 1 * x1))) := (H248.at (inb_of S248 ⟨by decide, by decide⟩) rfl)
  have f249 := f236.other W245 (Or.inl (Nat.ne_of_lt lt_th_b172))
  obtain ⟨T250, X250, e250, st250⟩ := getF X247 hx hZ hown (host := "") (Or.inl (hw _ (List.mem_of_getElem? (i := 18) rfl))) Via.refl e247 f249 (g := (mkF m 48 #[.val (.ref th), .val (.ref vb), .val (.ref b172), .val (.int (1 : Int32)), .val (.int (2 : Int32)), .unset, .unset, .unset] [(.ref th), (.double (FP.l2d ((0 + 0 * x0) + 1 * x1))), (.int (1 : Int32)), (.ref b172)])) rfl rfl (hb hby dAD_48)
  obtain ⟨T251, X251, e251, st251⟩ := getF X250 hx hZ hown (host := "") (Or.inl (hw _ (List.mem_of_getElem? (i := 14) rfl))) Via.refl e250 f246 (g := (mkF m 53 #[.val (.ref th), .val (.ref vb), .val (.ref b172), .val (.int (1 : Int32)), .val (.int (2 : Int32)), .unset, .unset, .unset] [(.ref th), (.int (1 : Int32)), (.ref bs), (.double (FP.l2d ((0 + 0 * x0) + 1 * x1))), (.int (1 : Int32)), (.ref b172)])) rfl rfl (hb hby dAD_53)
  have f253 := f240.other W245 (Nat.ne_of_lt lt_bs_b172)
  obtain ⟨cl252, Ar252, q252, S252, N252, H252, G252⟩ := id f253
  have hin252 : ¬ ((5 : Int32) < 0 ∨ cl252.slots.size ≤ ((5 : Int32)).toNatClampNeg) := (inb_of S252 ⟨by decide, by decide⟩)
  have hat252 : cl252.slots[((5 : Int32)).toNatClampNeg]? = some (.double (FP.l2d 0)) := (H252.at (inb_of S252 ⟨by decide, by decide⟩) rfl)
  have f255 := f242.other W245 (Nat.ne_of_lt lt_vb_b172)
  obtain ⟨cl254, Ar254, q254, S254, N254, H254, G254⟩ := id f255
  have hin254 : ¬ ((2 : Int32) < 0 ∨ cl254.slots.size ≤ ((2 : Int32)).toNatClampNeg) := (inb_of S254 ⟨by decide, by decide⟩)
  have hat254 : cl254.slots[((2 : Int32)).toNatClampNeg]? = some (.double (FP.l2d x2)) := (H254.at (inb_of S254 ⟨by decide, by decide⟩) rfl)
  have Bq256 := own_fma Bq243.2 own_B0 B_x2 (by decide) (by decide) (by decide)
  obtain ⟨cl257, Ar257, q257, S257, N257, H257, G257⟩ := id V245
  have hin257 : ¬ ((1 : Int32) < 0 ∨ cl257.slots.size ≤ ((1 : Int32)).toNatClampNeg) := (inb_of S257 ⟨by decide, by decide⟩)
  obtain ⟨T258, h258, X258, e258, W258, st258⟩ := stD X251 hx hZ e251 Ar257 (j := (1 : Int32)) hin257 (g := (mkF m 67 #[.val (.ref th), .val (.ref vb), .val (.ref b172), .val (.int (1 : Int32)), .val (.int (2 : Int32)), .unset, .unset, .unset] [(.double (FP.l2d (((0 + 0 * x0) + 1 * x1) + 0 * x2))), (.int (1 : Int32)), (.ref b172)])) rfl rfl (hb hby dAD_67)
  have V258 : Arv Z h258 b172 k172 .double (3 : Int32) [(.double (FP.l2d (((0 + 1 * x0) + 0 * x1) + 0 * x2))), (.double (FP.l2d (((0 + 0 * x0) + 1 * x1) + 0 * x2))), (.double (FP.l2d 0))] (.double (FP.l2d 0)) := Arv.set Ar257 q257 S257 N257 H257 G257 rfl W258 1 rfl (Nat.le_of_ble_eq_true rfl)
  have K258 : Keep h0 h258 [th, sm, ib] := K245.wr W258 (Or.inr sz_b172)
  have N258F := Fr.snoc X258 N245F g_b172
  have f259 := f246.other W258 (Or.inl (Nat.ne_of_lt lt_th_b172))
  obtain ⟨T260, X260, e260, st260⟩ := getF X258 hx hZ hown (host := "") (Or.inl (hw _ (List.mem_of_getElem? (i := 14) rfl))) Via.refl e258 f259 (g := (mkF m 37 #[.val (.ref th), .val (.ref vb), .val (.ref b172), .val (.int (1 : Int32)), .val (.int (3 : Int32)), .unset, .unset, .unset] [(.ref th), (.int (3 : Int32))])) rfl rfl (hb hby dAD_37)
  obtain ⟨T261, X261, e261, st261⟩ := getF X260 hx hZ hown (host := "") (Or.inl (hw _ (List.mem_of_getElem? (i := 14) rfl))) Via.refl e260 f259 (g := (mkF m 25 #[.val (.ref th), .val (.ref vb), .val (.ref b172), .val (.int (2 : Int32)), .val (.int (3 : Int32)), .unset, .unset, .unset] [(.ref th), (.int (2 : Int32))])) rfl rfl (hb hby dAD_25)
  obtain ⟨T262, X262, e262, st262⟩ := getF X261 hx hZ hown (host := "") (Or.inl (hw _ (List.mem_of_getElem? (i := 14) rfl))) Via.refl e261 f259 (g := (mkF m 37 #[.val (.ref th), .val (.ref vb), .val (.ref b172), .val (.int (2 : Int32)), .val (.int (0 : Int32)), .unset, .unset, .unset] [(.ref th), (.int (0 : Int32))])) rfl rfl (hb hby dAD_37)
  obtain ⟨cl263, Ar263, q263, S263, N263, H263, G263⟩ := id V258
  have hin263 : ¬ ((2 : Int32) < 0 ∨ cl263.slots.size ≤ ((2 : Int32)).toNatClampNeg) := (inb_of S263 ⟨by decide, by decide⟩)
  have hat263 : cl263.slots[((2 : Int32)).toNatClampNeg]? = some (.double (FP.l2d 0)) := (H263.at (inb_of S263 ⟨by decide, by decide⟩) rfl)
  have f264 := f249.other W258 (Or.inl (Nat.ne_of_lt lt_th_b172))
  obtain ⟨T265, X265, e265, st265⟩ := getF X262 hx hZ hown (host := "") (Or.inl (hw _ (List.mem_of_getElem? (i := 18) rfl))) Via.refl e262 f264 (g := (mkF m 48 #[.val (.ref th), .val (.ref vb), .val (.ref b172), .val (.int (2 : Int32)), .val (.int (0 : Int32)), .unset, .unset, .unset] [(.ref th), (.double (FP.l2d 0)), (.int (2 : Int32)), (.ref b172)])) rfl rfl (hb hby dAD_48)
  obtain ⟨T266, X266, e266, st266⟩ := getF X265 hx hZ hown (host := "") (Or.inl (hw _ (List.mem_of_getElem? (i := 14) rfl))) Via.refl e265 f259 (g := (mkF m 53 #[.val (.ref th), .val (.ref vb), .val (.ref b172), .val (.int (2 : Int32)), .val (.int (0 : Int32)), .unset, .unset, .unset] [(.ref th), (.int (2 : Int32)), (.ref bs), (.double (FP.l2d 0)), (.int (2 : Int32)), (.ref b172)])) rfl rfl (hb hby dAD_53)
  have f268 := f253.other W258 (Nat.ne_of_lt lt_bs_b172)
  obtain ⟨cl267, Ar267, q267, S267, N267, H267, G267⟩ := id f268
  have hin267 : ¬ ((6 : Int32) < 0 ∨ cl267.slots.size ≤ ((6 : Int32)).toNatClampNeg) := (inb_of S267 ⟨by decide, by decide⟩)
  have hat267 : cl267.slots[((6 : Int32)).toNatClampNeg]? = some (.double (FP.l2d 0)) := (H267.at (inb_of S267 ⟨by decide, by decide⟩) rfl)
  have f270 := f255.other W258 (Nat.ne_of_lt lt_vb_b172)
  obtain ⟨cl269, Ar269, q269, S269, N269, H269, G269⟩ := id f270
  have hin269 : ¬ ((0 : Int32) < 0 ∨ cl269.slots.size ≤ ((0 : Int32)).toNatClampNeg) := (inb_of S269 ⟨by decide, by decide⟩)
  have hat269 : cl269.slots[((0 : Int32)).toNatClampNeg]? = some (.double (FP.l2d x0)) := (H269.at (inb_of S269 ⟨by decide, by decide⟩) rfl)
  have Bq271 := own_fma own_B0 own_B0 B_x0 (by decide) (by decide) (by decide)
  obtain ⟨cl272, Ar272, q272, S272, N272, H272, G272⟩ := id V258
  have hin272 : ¬ ((2 : Int32) < 0 ∨ cl272.slots.size ≤ ((2 : Int32)).toNatClampNeg) := (inb_of S272 ⟨by decide, by decide⟩)
  obtain ⟨T273, h273, X273, e273, W273, st273⟩ := stD X266 hx hZ e266 Ar272 (j := (2 : Int32)) hin272 (g := (mkF m 67 #[.val (.ref th), .val (.ref vb), .val (.ref b172), .val (.int (2 : Int32)), .val (.int (0 : Int32)), .unset, .unset, .unset] [(.double (FP.l2d (0 + 0 * x0))), (.int (2 : Int32)), (.ref b172)])) rfl rfl (hb hby dAD_67)
  have V273 : Arv Z h273 b172 k172 .double (3 : Int32) [(.double (FP.l2d (((0 + 1 * x0) + 0 * x1) + 0 * x2))), (.double (FP.l2d (((0 + 0 * x0) + 1 * x1) + 0 * x2))), (.double (FP.l2d (0 + 0 * x0)))] (.double (FP.l2d 0)) := Arv.set Ar272 q272 S272 N272 H272 G272 rfl W273 2 rfl (Nat.le_of_ble_eq_true rfl)
  have K273 : Keep h0 h273 [th, sm, ib] := K258.wr W273 (Or.inr sz_b172)
  have N273F := Fr.snoc X273 N258F g_b172
  have f274 := f259.other W273 (Or.inl (Nat.ne_of_lt lt_th_b172))
  obtain ⟨T275, X275, e275, st275⟩ := getF X273 hx hZ hown (host := "") (Or.inl (hw _ (List.mem_of_getElem? (i := 14) rfl))) Via.refl e273 f274 (g := (mkF m 37 #[.val (.ref th), .val (.ref vb), .val (.ref b172), .val (.int (2 : Int32)), .val (.int (1 : Int32)), .unset, .unset, .unset] [(.ref th), (.int (1 : Int32))])) rfl rfl (hb hby dAD_37)
  obtain ⟨cl276, Ar276, q276, S276, N276, H276, G276⟩ := id V273
  have hin276 : ¬ ((2 : Int32) < 0 ∨ cl276.slots.size ≤ ((2 : Int32)).toNatClampNeg) := (inb_of S276 ⟨by decide, by decide⟩)
  have hat276 : cl276.slots[((2 : Int32)).toNatClampNeg]? = some (.double (FP.l2d (0 + 0 * x0))) := (H276.at (inb_of S276 ⟨by decide, by decide⟩) rfl)
  have f277 := f264.other W273 (Or.inl (Nat.ne_of_lt lt_th_b172))
  obtain ⟨T278, X278, e278, st278⟩ := getF X275 hx hZ hown (host := "") (Or.inl (hw _ (List.mem_of_getElem? (i := 18) rfl))) Via.refl e275 f277 (g := (mkF m 48 #[.val (.ref th), .val (.ref vb), .val (.ref b172), .val (.int (2 : Int32)), .val (.int (1 : Int32)), .unset, .unset, .unset] [(.ref th), (.double (FP.l2d (0 + 0 * x0))), (.int (2 : Int32)), (.ref b172)])) rfl rfl (hb hby dAD_48)
  obtain ⟨T279, X279, e279, st279⟩ := getF X278 hx hZ hown (host := "") (Or.inl (hw _ (List.mem_of_getElem? (i := 14) rfl))) Via.refl e278 f274 (g := (mkF m 53 #[.val (.ref th), .val (.ref vb), .val (.ref b172), .val (.int (2 : Int32)), .val (.int (1 : Int32)), .unset, .unset, .unset] [(.ref th), (.int (2 : Int32)), (.ref bs), (.double (FP.l2d (0 + 0 * x0))), (.int (2 : Int32)), (.ref b172)])) rfl rfl (hb hby dAD_53)
  have f281 := f268.other W273 (Nat.ne_of_lt lt_bs_b172)
  obtain ⟨cl280, Ar280, q280, S280, N280, H280, G280⟩ := id f281
  have hin280 : ¬ ((7 : Int32) < 0 ∨ cl280.slots.size ≤ ((7 : Int32)).toNatClampNeg) := (inb_of S280 ⟨by decide, by decide⟩)
  have hat280 : cl280.slots[((7 : Int32)).toNatClampNeg]? = some (.double (FP.l2d 0)) := (H280.at (inb_of S280 ⟨by decide, by decide⟩) rfl)
  have f283 := f270.other W273 (Nat.ne_of_lt lt_vb_b172)
  obtain ⟨cl282, Ar282, q282, S282, N282, H282, G282⟩ := id f283
  have hin282 : ¬ ((1 : Int32) < 0 ∨ cl282.slots.size ≤ ((1 : Int32)).toNatClampNeg) := (inb_of S282 ⟨by decide, by decide⟩)
  have hat282 : cl282.slots[((1 : Int32)).toNatClampNeg]? = some (.double (FP.l2d x1)) := (H282.at (inb_of S282 ⟨by decide, by decide⟩) rfl)
  have Bq284 := own_fma Bq271.2 own_B0 B_x1 (by decide) (by decide) (by decide)
  obtain ⟨cl285, Ar285, q285, S285, N285, H285, G285⟩ := id V273
  have hin285 : ¬ ((2 : Int32) < 0 ∨ cl285.slots.size ≤ ((2 : Int32)).toNatClampNeg) := (inb_of S285 ⟨by decide, by decide⟩)
  obtain ⟨T286, h286, X286, e286, W286, st286⟩ := stD X279 hx hZ e279 Ar285 (j := (2 : Int32)) hin285 (g := (mkF m 67 #[.val (.ref th), .val (.ref vb), .val (.ref b172), .val (.int (2 : Int32)), .val (.int (1 : Int32)), .unset, .unset, .unset] [(.double (FP.l2d ((0 + 0 * x0) + 0 * x1))), (.int (2 : Int32)), (.ref b172)])) rfl rfl (hb hby dAD_67)
  have V286 : Arv Z h286 b172 k172 .double (3 : Int32) [(.double (FP.l2d (((0 + 1 * x0) + 0 * x1) + 0 * x2))), (.double (FP.l2d (((0 + 0 * x0) + 1 * x1) + 0 * x2))), (.double (FP.l2d ((0 + 0 * x0) + 0 * x1)))] (.double (FP.l2d 0)) := Arv.set Ar285 q285 S285 N285 H285 G285 rfl W286 2 rfl (Nat.le_of_ble_eq_true rfl)
  have K286 : Keep h0 h286 [th, sm, ib] := K273.wr W286 (Or.inr sz_b172)
  have N286F := Fr.snoc X286 N273F g_b172
  have f287 := f274.other W286 (Or.inl (Nat.ne_of_lt lt_th_b172))
  obtain ⟨T288, X288, e288, st288⟩ := getF X286 hx hZ hown (host := "") (Or.inl (hw _ (List.mem_of_getElem? (i := 14) rfl))) Via.refl e286 f287 (g := (mkF m 37 #[.val (.ref th), .val (.ref vb), .val (.ref b172), .val (.int (2 : Int32)), .val (.int (2 : Int32)), .unset, .unset, .unset] [(.ref th), (.int (2 : Int32))])) rfl rfl (hb hby dAD_37)
  obtain ⟨cl289, Ar289, q289, S289, N289, H289, G289⟩ := id V286
  have hin289 : ¬ ((2 : Int32) < 0 ∨ cl289.slots.size ≤ ((2 : Int32)).toNatClampNeg) := (inb_of S289 ⟨by decide, by decide⟩)
  have hat289 : cl289.slots[((2 : Int32)).toNatClampNeg]? = some (.double (FP.l2d ((0 + 0 * x0) + 0 * x1))) := (H289.at (inb_of S289 ⟨by decide, by decide⟩) rfl)
  have f290 := f277.other W286 (Or.inl (Nat.ne_of_lt lt_th_b172))
  obtain ⟨T291, X291, e291, st291⟩ := getF X288 hx hZ hown (host := "") (Or.inl (hw _ (List.mem_of_getElem? (i := 18) rfl))) Via.refl e288 f290 (g := (mkF m 48 #[.val (.ref th), .val (.ref vb), .val (.ref b172), .val (.int (2 : Int32)), .val (.int (2 : Int32)), .unset, .unset, .unset] [(.ref th), (.double (FP.l2d ((0 + 0 * x0) + 0 * x1))), (.int (2 : Int32)), (.ref b172)])) rfl rfl (hb hby dAD_48)
  obtain ⟨T292, X292, e292, st292⟩ := getF X291 hx hZ hown (host := "") (Or.inl (hw _ (List.mem_of_getElem? (i := 14) rfl))) Via.refl e291 f287 (g := (mkF m 53 #[.val (.ref th), .val (.ref vb), .val (.ref b172), .val (.int (2 : Int32)), .val (.int (2 : Int32)), .unset, .unset, .unset] [(.ref th), (.int (2 : Int32)), (.ref bs), (.double (FP.l2d ((0 + 0 * x0) + 0 * x1))), (.int (2 : Int32)), (.ref b172)])) rfl rfl (hb hby dAD_53)
  have f294 := f281.other W286 (Nat.ne_of_lt lt_bs_b172)
  obtain ⟨cl293, Ar293, q293, S293, N293, H293, G293⟩ := id f294
  have hin293 : ¬ ((8 : Int32) < 0 ∨ cl293.slots.size ≤ ((8 : Int32)).toNatClampNeg) := (inb_of S293 ⟨by decide, by decide⟩)
  have hat293 : cl293.slots[((8 : Int32)).toNatClampNeg]? = some (.double (FP.l2d 1)) := (H293.at (inb_of S293 ⟨by decide, by decide⟩) rfl)
  have f296 := f283.other W286 (Nat.ne_of_lt lt_vb_b172)
  obtain ⟨cl295, Ar295, q295, S295, N295, H295, G295⟩ := id f296
  have hin295 : ¬ ((2 : Int32) < 0 ∨ cl295.slots.size ≤ ((2 : Int32)).toNatClampNeg) := (inb_of S295 ⟨by decide, by decide⟩)
  have hat295 : cl295.slots[((2 : Int32)).toNatClampNeg]? = some (.double (FP.l2d x2)) := (H295.at (inb_of S295 ⟨by decide, by decide⟩) rfl)
  have Bq297 := own_fma Bq284.2 own_B1 B_x2 (by decide) (by decide) (by decide)
  obtain ⟨cl298, Ar298, q298, S298, N298, H298, G298⟩ := id V286
  have hin298 : ¬ ((2 : Int32) < 0 ∨ cl298.slots.size ≤ ((2 : Int32)).toNatClampNeg) := (inb_of S298 ⟨by decide, by decide⟩)
  obtain ⟨T299, h299, X299, e299, W299, st299⟩ := stD X292 hx hZ e292 Ar298 (j := (2 : Int32)) hin298 (g := (mkF m 67 #[.val (.ref th), .val (.ref vb), .val (.ref b172), .val (.int (2 : Int32)), .val (.int (2 : Int32)), .unset, .unset, .unset] [(.double (FP.l2d (((0 + 0 * x0) + 0 * x1) + 1 * x2))), (.int (2 : Int32)), (.ref b172)])) rfl rfl (hb hby dAD_67)
  have V299 : Arv Z h299 b172 k172 .double (3 : Int32) [(.double (FP.l2d (((0 + 1 * x0) + 0 * x1) + 0 * x2))), (.double (FP.l2d (((0 + 0 * x0) + 1 * x1) + 0 * x2))), (.double (FP.l2d (((0 + 0 * x0) + 0 * x1) + 1 * x2)))] (.double (FP.l2d 0)) := Arv.set Ar298 q298 S298 N298 H298 G298 rfl W299 2 rfl (Nat.le_of_ble_eq_true rfl)
  have K299 : Keep h0 h299 [th, sm, ib] := K286.wr W299 (Or.inr sz_b172)
  have N299F := Fr.snoc X299 N286F g_b172
  have f300 := f287.other W299 (Or.inl (Nat.ne_of_lt lt_th_b172))
  obtain ⟨T301, X301, e301, st301⟩ := getF X299 hx hZ hown (host := "") (Or.inl (hw _ (List.mem_of_getElem? (i := 14) rfl))) Via.refl e299 f300 (g := (mkF m 37 #[.val (.ref th), .val (.ref vb), .val (.ref b172), .val (.int (2 : Int32)), .val (.int (3 : Int32)), .unset, .unset, .unset] [(.ref th), (.int (3 : Int32))])) rfl rfl (hb hby dAD_37)
  obtain ⟨T302, X302, e302, st302⟩ := getF X301 hx hZ hown (host := "") (Or.inl (hw _ (List.mem_of_getElem? (i := 14) rfl))) Via.refl e301 f300 (g := (mkF m 25 #[.val (.ref th), .val (.ref vb), .val (.ref b172), .val (.int (3 : Int32)), .val (.int (3 : Int32)), .unset, .unset, .unset] [(.ref th), (.int (3 : Int32))])) rfl rfl (hb hby dAD_25)
  have f303 := F_i.keep Kc169 (ninS ne_th_sm nin0)
  have f304 := f303.ext E172
  have f305 := f304.other W191 (Or.inl (Nat.ne_of_lt lt_th_b172))
  have f306 := f305.other W204 (Or.inl (Nat.ne_of_lt lt_th_b172))
  have f307 := f306.other W217 (Or.inl (Nat.ne_of_lt lt_th_b172))
  have f308 := f307.other W232 (Or.inl (Nat.ne_of_lt lt_th_b172))
  have f309 := f308.other W245 (Or.inl (Nat.ne_of_lt lt_th_b172))
  have f310 := f309.other W258 (Or.inl (Nat.ne_of_lt lt_th_b172))
  have f311 := f310.other W273 (Or.inl (Nat.ne_of_lt lt_th_b172))
  have f312 := f311.other W286 (Or.inl (Nat.ne_of_lt lt_th_b172))
  have f313 := f312.other W299 (Or.inl (Nat.ne_of_lt lt_th_b172))
  obtain ⟨T314, X314, e314, st314⟩ := getF X302 hx hZ hown (host := "") (Or.inl (hw _ (List.mem_of_getElem? (i := 20) rfl))) Via.refl e302 f313 (g := (mkF m 82 #[.val (.ref th), .val (.ref vb), .val (.ref b172), .val (.int (3 : Int32)), .val (.int (3 : Int32)), .unset, .unset, .unset] [(.ref th), (.ref th)])) rfl rfl (hb hby dAD_82)
  have Vt316 : Arv Z h299 b172 k172 .double (3 : Int32) [(.double (FP.l2d x0)), (.double (FP.l2d x1)), (.double (FP.l2d x2))] (.double (FP.l2d 0)) := own_turned V299
  have f317 := f175.ext E172
  have f318 := f317.other W191 (Nat.ne_of_lt lt_ib_b172)
  have f319 := f318.other W204 (Nat.ne_of_lt lt_ib_b172)
  have f320 := f319.other W217 (Nat.ne_of_lt lt_ib_b172)
  have f321 := f320.other W232 (Nat.ne_of_lt lt_ib_b172)
  have f322 := f321.other W245 (Nat.ne_of_lt lt_ib_b172)
  have f323 := f322.other W258 (Nat.ne_of_lt lt_ib_b172)
  have f324 := f323.other W273 (Nat.ne_of_lt lt_ib_b172)
  have f325 := f324.other W286 (Nat.ne_of_lt lt_ib_b172)
  have f326 := f325.other W299 (Nat.ne_of_lt lt_ib_b172)
  have f327 := f173.ext E172
  have f328 := f327.wr W191
  have f329 := f328.wr W204
  have f330 := f329.wr W217
  have f331 := f330.wr W232
  have f332 := f331.wr W245
  have f333 := f332.wr W258
  have f334 := f333.wr W273
  have f335 := f334.wr W286
  have f336 := f335.wr W299
  obtain ⟨cq315, q315, q315'⟩ := f336.cell
  obtain ⟨_, _, ⟨T315, L315, k315, n315⟩, -, X315, ⟨Lc315, hQ315, l315, y315, z315⟩, st315⟩ := X314.privateBack hx (y := (⟨"com/example/lineament/lineament/math/OuterProductSum", "addOuter", "([D[D)V"⟩ : MethodName)) hown (mvT hZ (hw _ (List.mem_of_getElem? (i := 31) rfl))) (mvT hZ (hw _ (List.mem_of_getElem? (i := 32) rfl))) (own_selP (y := (⟨"com/example/lineament/lineament/math/OuterProductSum", "addOuter", "([D[D)V"⟩ : MethodName)) (z := (⟨"com/example/lineament/lineament/math/OuterProductSum", "add", "([D)V"⟩ : MethodName)) (mvT hZ (hw _ (List.mem_of_getElem? (i := 25) rfl))) rfl (Cond.privateMethod_at (mvP hZ (hw _ (List.mem_of_getElem? (i := 33) rfl)) (args := #[]))) (mvT hZ (hw _ (List.mem_of_getElem? (i := 32) rfl))) (by decide)) (Cond.privateMethod_at (mvP hZ (hw _ (List.mem_of_getElem? (i := 33) rfl)) (args := #[]))) (mvT hZ (hw _ (List.mem_of_getElem? (i := 34) rfl))) (by decide) (backOf (W := 0) (rmAO l Z a0 hw [] th ib b172 kib k172 t0 t1 t2 t3 t4 t5 t6 t7 t8 x0 x1 x2 h299 n0 (Nat.le_trans Z0 K299.1) f300 f326 Vt316 ne_th_ib (Nat.ne_of_lt lt_ib_b172) g_ib B_t0 B_t1 B_t2 B_t3 B_t4 B_t5 B_t6 B_t7 B_t8 B_x0 B_x1 B_x2) hZ (hw _ (List.mem_of_getElem? (i := 34) rfl)) (hw _ (List.mem_of_getElem? (i := 7) rfl)) (by decide) (by decide)) (g := (mkF m 86 #[.val (.ref th), .val (.ref vb), .val (.ref b172), .val (.int (3 : Int32)), .val (.int (3 : Int32)), .unset, .unset, .unset] [(.ref b172), (.ref ib), (.ref th)])) rfl (by rw [hml]; rfl) (Steps.refl _) (a := th) (by rw [e314]; exact q315) q315' (argsL := [(.ref ib), (.ref b172)]) (rest := []) (lenOf pd_2 rfl) rfl (by show 2 * 0 + _ ≤ _; exact Nat.le_of_eq rfl) (hb hby dAD_86) (fun _ _ => ⟨rfl, e314, (by decide : 1 + 0 ≤ _), (by decide : 3 + 0 ≤ _)⟩)
  dsimp only [Pt.U, Pt.locs, Pt.cells, Pt.slots] at X315 l315 y315 z315 st315 hQ315
  rw [l315, y315, z315] at X315
  obtain ⟨hv315, Nq315, Kc315, Vn315⟩ := hQ315
  rw [hv315] at st315
  have K315 : Keep h0 T315.heap [th, sm, ib] := K299.trans Kc315 (allS (P := fun x => x ∈ [th, sm, ib] ∨ h0.size ≤ x) (Or.inl (List.mem_of_getElem? (i := 2) rfl)) all0)
  have N315 := Fr.app N299F Nq315
  have f337 := F_c.keep Kc169 (ninS ne_th_sm nin0)
  have f338 := f337.ext E172
  have f339 := f338.other W191 (Or.inl (Nat.ne_of_lt lt_th_b172))
  have f340 := f339.other W204 (Or.inl (Nat.ne_of_lt lt_th_b172))
  have f341 := f340.other W217 (Or.inl (Nat.ne_of_lt lt_th_b172))
  have f342 := f341.other W232 (Or.inl (Nat.ne_of_lt lt_th_b172))
  have f343 := f342.other W245 (Or.inl (Nat.ne_of_lt lt_th_b172))
  have f344 := f343.other W258 (Or.inl (Nat.ne_of_lt lt_th_b172))
  have f345 := f344.other W273 (Or.inl (Nat.ne_of_lt lt_th_b172))
  have f346 := f345.other W286 (Or.inl (Nat.ne_of_lt lt_th_b172))
  have f347 := f346.other W299 (Or.inl (Nat.ne_of_lt lt_th_b172))
  have f348 := f347.keep Kc315 (ninS ne_th_ib nin0)
  obtain ⟨T349, X349, e349, st349⟩ := getF X315 hx hZ hown (host := "") (Or.inl (hw _ (List.mem_of_getElem? (i := 35) rfl))) Via.refl rfl f348 (g := (mkF m 91 #[.val (.ref th), .val (.ref vb), .val (.ref b172), .val (.int (3 : Int32)), .val (.int (3 : Int32)), .unset, .unset, .unset] [(.ref th), (.ref th)])) rfl rfl (hb hby dAD_91)
  have f350 := f336.keep Kc315
  obtain ⟨T351, h351, X351, e351, W351, st351⟩ := putF X349 hx hZ hown (host := "") (Or.inl (hw _ (List.mem_of_getElem? (i := 35) rfl))) Via.refl e349 f348 f350 (Or.inl (hw _ (List.mem_of_getElem? (i := 36) rfl))) (hw _ (List.mem_of_getElem? (i := 6) rfl)) (ty := .int) (by decide) rfl rfl (g := (mkF m 96 #[.val (.ref th), .val (.ref vb), .val (.ref b172), .val (.int (3 : Int32)), .val (.int (3 : Int32)), .unset, .unset, .unset] [(.int (cnt + (1 : Int32))), (.ref th)])) rfl rfl (hb hby dAD_96)
  have Fw351 := f348.same W351
  have K351 : Keep h0 h351 [th, sm, ib] := K315.wr W351 (Or.inl (List.mem_of_getElem? (i := 0) rfl))
  have N351 := Fr.snoc X351 N315 g_th
  have f353 := f296.other W299 (Nat.ne_of_lt lt_vb_b172)
  have f354 := f353.keep Kc315 (ninS ne_vb_ib nin0)
  have f355 := f354.other W351 ne_vb_th
  obtain ⟨cl352, Ar352, -, S352, N352, -, -⟩ := id f355
  obtain ⟨cl356, Ar356, q356, S356, N356, H356, G356⟩ := id f355
  have hin356 : ¬ ((0 : Int32) < 0 ∨ cl356.slots.size ≤ ((0 : Int32)).toNatClampNeg) := (inb_of S356 ⟨by decide, by decide⟩)
  have hat356 : cl356.slots[((0 : Int32)).toNatClampNeg]? = some (.double (FP.l2d x0)) := (H356.at (inb_of S356 ⟨by decide, by decide⟩) rfl)
  have f357 := F_t.keep Kc169 (ninS ne_th_sm nin0)
  have f358 := f357.ext E172
  have f359 := f358.other W191 (Or.inl (Nat.ne_of_lt lt_th_b172))
  have f360 := f359.other W204 (Or.inl (Nat.ne_of_lt lt_th_b172))
  have f361 := f360.other W217 (Or.inl (Nat.ne_of_lt lt_th_b172))
  have f362 := f361.other W232 (Or.inl (Nat.ne_of_lt lt_th_b172))
  have f363 := f362.other W245 (Or.inl (Nat.ne_of_lt lt_th_b172))
  have f364 := f363.other W258 (Or.inl (Nat.ne_of_lt lt_th_b172))
  have f365 := f364.other W273 (Or.inl (Nat.ne_of_lt lt_th_b172))
  have f366 := f365.other W286 (Or.inl (Nat.ne_of_lt lt_th_b172))
  have f367 := f366.other W299 (Or.inl (Nat.ne_of_lt lt_th_b172))
  have f368 := f367.keep Kc315 (ninS ne_th_ib nin0)
  have f369 := f368.other W351 (Or.inr (slot_ne (a0 := a0) (C := "com/example/lineament/lineament/math/OuterProductSum") (Or.inl (hw _ (List.mem_of_getElem? (i := 38) rfl))) (Or.inl (hw _ (List.mem_of_getElem? (i := 36) rfl))) (by decide) (t := .double) (t' := .int) (by decide) (by decide)))
  obtain ⟨T370, X370, e370, st370⟩ := getF X351 hx hZ hown (host := "") (Or.inl (hw _ (List.mem_of_getElem? (i := 37) rfl))) Via.refl e351 f369 (g := (mkF m 123 #[.val (.ref th), .val (.ref vb), .val (.ref b172), .val (.ref vb), .val (.int (3 : Int32)), .val (.int (0 : Int32)), .val (.double (FP.l2d x0)), .second] [(.ref th), (.ref th)])) rfl rfl (hb hby dAD_123)
  have Bq371 := own_fma B_tr B_x0 B_x0 (by decide) (by decide) (by decide)
  have f372 := f350.wr W351
  obtain ⟨T373, h373, X373, e373, W373, st373⟩ := putF X370 hx hZ hown (host := "") (Or.inl (hw _ (List.mem_of_getElem? (i := 37) rfl))) Via.refl e370 f369 f372 (Or.inl (hw _ (List.mem_of_getElem? (i := 38) rfl))) (hw _ (List.mem_of_getElem? (i := 6) rfl)) (ty := .double) (by decide) rfl rfl (g := (mkF m 132 #[.val (.ref th), .val (.ref vb), .val (.ref b172), .val (.ref vb), .val (.int (3 : Int32)), .val (.int (0 : Int32)), .val (.double (FP.l2d x0)), .second] [(.double (FP.l2d (tr + x0 * x0))), (.ref th)])) rfl rfl (hb hby dAD_132)
  have Fw373 := f369.same W373
  have K373 : Keep h0 h373 [th, sm, ib] := K351.wr W373 (Or.inl (List.mem_of_getElem? (i := 0) rfl))
  have N373 := Fr.snoc X373 N351 g_th
  have f375 := f355.other W373 ne_vb_th
  obtain ⟨cl374, Ar374, q374, S374, N374, H374, G374⟩ := id f375
  have hin374 : ¬ ((1 : Int32) < 0 ∨ cl374.slots.size ≤ ((1 : Int32)).toNatClampNeg) := (inb_of S374 ⟨by decide, by decide⟩)
  have hat374 : cl374.slots[((1 : Int32)).toNatClampNeg]? = some (.double (FP.l2d x1)) := (H374.at (inb_of S374 ⟨by decide, by decide⟩) rfl)
  obtain ⟨T376, X376, e376, st376⟩ := getF X373 hx hZ hown (host := "") (Or.inl (hw _ (List.mem_of_getElem? (i := 37) rfl))) Via.refl e373 Fw373 (g := (mkF m 123 #[.val (.ref th), .val (.ref vb), .val (.ref b172), .val (.ref vb), .val (.int (3 : Int32)), .val (.int (1 : Int32)), .val (.double (FP.l2d x1)), .second] [(.ref th), (.ref th)])) rfl rfl (hb hby dAD_123)
  have Bq377 := own_fma Bq371.2 B_x1 B_x1 (by decide) (by decide) (by decide)
  have f378 := f372.wr W373
  obtain ⟨T379, h379, X379, e379, W379, st379⟩ := putF X376 hx hZ hown (host := "") (Or.inl (hw _ (List.mem_of_getElem? (i := 37) rfl))) Via.refl e376 Fw373 f378 (Or.inl (hw _ (List.mem_of_getElem? (i := 38) rfl))) (hw _ (List.mem_of_getElem? (i := 6) rfl)) (ty := .double) (by decide) rfl rfl (g := (mkF m 132 #[.val (.ref th), .val (.ref vb), .val (.ref b172), .val (.ref vb), .val (.int (3 : Int32)), .val (.int (1 : Int32)), .val (.double (FP.l2d x1)), .second] [(.double (FP.l2d ((tr + x0 * x0) + x1 * x1))), (.ref th)])) rfl rfl (hb hby dAD_132)
  have Fw379 := Fw373.same W379
  have K379 : Keep h0 h379 [th, sm, ib] := K373.wr W379 (Or.inl (List.mem_of_getElem? (i := 0) rfl))
  have N379 := Fr.snoc X379 N373 g_th
  have f381 := f375.other W379 ne_vb_th
  obtain ⟨cl380, Ar380, q380, S380, N380, H380, G380⟩ := id f381
  have hin380 : ¬ ((2 : Int32) < 0 ∨ cl380.slots.size ≤ ((2 : Int32)).toNatClampNeg) := (inb_of S380 ⟨by decide, by decide⟩)
  have hat380 : cl380.slots[((2 : Int32)).toNatClampNeg]? = some (.double (FP.l2d x2)) := (H380.at (inb_of S380 ⟨by decide, by decide⟩) rfl)
  obtain ⟨T382, X382, e382, st382⟩ := getF X379 hx hZ hown (host := "") (Or.inl (hw _ (List.mem_of_getElem? (i := 37) rfl))) Via.refl e379 Fw379 (g := (mkF m 123 #[.val (.ref th), .val (.ref vb), .val (.ref b172), .val (.ref vb), .val (.int (3 : Int32)), .val (.int (2 : Int32)), .val (.double (FP.l2d x2)), .second] [(.ref th), (.ref th)])) rfl rfl (hb hby dAD_123)
  have Bq383 := own_fma Bq377.2 B_x2 B_x2 (by decide) (by decide) (by decide)
  have f384 := f378.wr W379
  obtain ⟨T385, h385, X385, e385, W385, st385⟩ := putF X382 hx hZ hown (host := "") (Or.inl (hw _ (List.mem_of_getElem? (i := 37) rfl))) Via.refl e382 Fw379 f384 (Or.inl (hw _ (List.mem_of_getElem? (i := 38) rfl))) (hw _ (List.mem_of_getElem? (i := 6) rfl)) (ty := .double) (by decide) rfl rfl (g := (mkF m 132 #[.val (.ref th), .val (.ref vb), .val (.ref b172), .val (.ref vb), .val (.int (3 : Int32)), .val (.int (2 : Int32)), .val (.double (FP.l2d x2)), .second] [(.double (FP.l2d (((tr + x0 * x0) + x1 * x1) + x2 * x2))), (.ref th)])) rfl rfl (hb hby dAD_132)
  have Fw385 := Fw379.same W385
  have K385 : Keep h0 h385 [th, sm, ib] := K379.wr W385 (Or.inl (List.mem_of_getElem? (i := 0) rfl))
  have N385 := Fr.snoc X385 N379 g_th
  have f386 := f384.wr W385
  have f387 := f300.keep Kc315 (ninS ne_th_ib nin0)
  have f388 := f387.other W351 (Or.inr (slot_ne (a0 := a0) (C := "com/example/lineament/lineament/math/OuterProductSum") (Or.inr (hw _ (List.mem_of_getElem? (i := 15) rfl))) (Or.inl (hw _ (List.mem_of_getElem? (i := 36) rfl))) (by decide) (t := .int) (t' := .int) (by decide) (by decide)))
  have f389 := f388.other W373 (Or.inr (slot_ne (a0 := a0) (C := "com/example/lineament/lineament/math/OuterProductSum") (Or.inr (hw _ (List.mem_of_getElem? (i := 15) rfl))) (Or.inl (hw _ (List.mem_of_getElem? (i := 38) rfl))) (by decide) (t := .int) (t' := .double) (by decide) (by decide)))
  have f390 := f389.other W379 (Or.inr (slot_ne (a0 := a0) (C := "com/example/lineament/lineament/math/OuterProductSum") (Or.inr (hw _ (List.mem_of_getElem? (i := 15) rfl))) (Or.inl (hw _ (List.mem_of_getElem? (i := 38) rfl))) (by decide) (t := .int) (t' := .double) (by decide) (by decide)))
  have f391 := f390.other W385 (Or.inr (slot_ne (a0 := a0) (C := "com/example/lineament/lineament/math/OuterProductSum") (Or.inr (hw _ (List.mem_of_getElem? (i := 15) rfl))) (Or.inl (hw _ (List.mem_of_getElem? (i := 38) rfl))) (by decide) (t := .int) (t' := .double) (by decide) (by decide)))
  have f392 := F_s.keep Kc169 (ninS ne_th_sm nin0)
  have f393 := f392.ext E172
  have f394 := f393.other W191 (Or.inl (Nat.ne_of_lt lt_th_b172))
  have f395 := f394.other W204 (Or.inl (Nat.ne_of_lt lt_th_b172))
  have f396 := f395.other W217 (Or.inl (Nat.ne_of_lt lt_th_b172))
  have f397 := f396.other W232 (Or.inl (Nat.ne_of_lt lt_th_b172))
  have f398 := f397.other W245 (Or.inl (Nat.ne_of_lt lt_th_b172))
  have f399 := f398.other W258 (Or.inl (Nat.ne_of_lt lt_th_b172))
  have f400 := f399.other W273 (Or.inl (Nat.ne_of_lt lt_th_b172))
  have f401 := f400.other W286 (Or.inl (Nat.ne_of_lt lt_th_b172))
  have f402 := f401.other W299 (Or.inl (Nat.ne_of_lt lt_th_b172))
  have f403 := f402.keep Kc315 (ninS ne_th_ib nin0)
  have f404 := f403.other W351 (Or.inr (slot_ne (a0 := a0) (C := "com/example/lineament/lineament/math/OuterProductSum") (Or.inr (hw _ (List.mem_of_getElem? (i := 17) rfl))) (Or.inl (hw _ (List.mem_of_getElem? (i := 36) rfl))) (by decide) (t := (.array .double)) (t' := .int) (by decide) (by decide)))
  have f405 := f404.other W373 (Or.inr (slot_ne (a0 := a0) (C := "com/example/lineament/lineament/math/OuterProductSum") (Or.inr (hw _ (List.mem_of_getElem? (i := 17) rfl))) (Or.inl (hw _ (List.mem_of_getElem? (i := 38) rfl))) (by decide) (t := (.array .double)) (t' := .double) (by decide) (by decide)))
  have f406 := f405.other W379 (Or.inr (slot_ne (a0 := a0) (C := "com/example/lineament/lineament/math/OuterProductSum") (Or.inr (hw _ (List.mem_of_getElem? (i := 17) rfl))) (Or.inl (hw _ (List.mem_of_getElem? (i := 38) rfl))) (by decide) (t := (.array .double)) (t' := .double) (by decide) (by decide)))
  have f407 := f406.other W385 (Or.inr (slot_ne (a0 := a0) (C := "com/example/lineament/lineament/math/OuterProductSum") (Or.inr (hw _ (List.mem_of_getElem? (i := 17) rfl))) (Or.inl (hw _ (List.mem_of_getElem? (i := 38) rfl))) (by decide) (t := (.array .double)) (t' := .double) (by decide) (by decide)))
  have f408 := f290.other W299 (Or.inl (Nat.ne_of_lt lt_th_b172))
  have f409 := f408.keep Kc315 (ninS ne_th_ib nin0)
  have f410 := f409.other W351 (Or.inr (slot_ne (a0 := a0) (C := "com/example/lineament/lineament/math/OuterProductSum") (Or.inr (hw _ (List.mem_of_getElem? (i := 19) rfl))) (Or.inl (hw _ (List.mem_of_getElem? (i := 36) rfl))) (by decide) (t := (.array .double)) (t' := .int) (by decide) (by decide)))
  have f411 := f410.other W373 (Or.inr (slot_ne (a0 := a0) (C := "com/example/lineament/lineament/math/OuterProductSum") (Or.inr (hw _ (List.mem_of_getElem? (i := 19) rfl))) (Or.inl (hw _ (List.mem_of_getElem? (i := 38) rfl))) (by decide) (t := (.array .double)) (t' := .double) (by decide) (by decide)))
  have f412 := f411.other W379 (Or.inr (slot_ne (a0 := a0) (C := "com/example/lineament/lineament/math/OuterProductSum") (Or.inr (hw _ (List.mem_of_getElem? (i := 19) rfl))) (Or.inl (hw _ (List.mem_of_getElem? (i := 38) rfl))) (by decide) (t := (.array .double)) (t' := .double) (by decide) (by decide)))
  have f413 := f412.other W385 (Or.inr (slot_ne (a0 := a0) (C := "com/example/lineament/lineament/math/OuterProductSum") (Or.inr (hw _ (List.mem_of_getElem? (i := 19) rfl))) (Or.inl (hw _ (List.mem_of_getElem? (i := 38) rfl))) (by decide) (t := (.array .double)) (t' := .double) (by decide) (by decide)))
  have f414 := f313.keep Kc315 (ninS ne_th_ib nin0)
  have f415 := f414.other W351 (Or.inr (slot_ne (a0 := a0) (C := "com/example/lineament/lineament/math/OuterProductSum") (Or.inr (hw _ (List.mem_of_getElem? (i := 21) rfl))) (Or.inl (hw _ (List.mem_of_getElem? (i := 36) rfl))) (by decide) (t := (.array .double)) (t' := .int) (by decide) (by decide)))
  have f416 := f415.other W373 (Or.inr (slot_ne (a0 := a0) (C := "com/example/lineament/lineament/math/OuterProductSum") (Or.inr (hw _ (List.mem_of_getElem? (i := 21) rfl))) (Or.inl (hw _ (List.mem_of_getElem? (i := 38) rfl))) (by decide) (t := (.array .double)) (t' := .double) (by decide) (by decide)))
  have f417 := f416.other W379 (Or.inr (slot_ne (a0 := a0) (C := "com/example/lineament/lineament/math/OuterProductSum") (Or.inr (hw _ (List.mem_of_getElem? (i := 21) rfl))) (Or.inl (hw _ (List.mem_of_getElem? (i := 38) rfl))) (by decide) (t := (.array .double)) (t' := .double) (by decide) (by decide)))
  have f418 := f417.other W385 (Or.inr (slot_ne (a0 := a0) (C := "com/example/lineament/lineament/math/OuterProductSum") (Or.inr (hw _ (List.mem_of_getElem? (i := 21) rfl))) (Or.inl (hw _ (List.mem_of_getElem? (i := 38) rfl))) (by decide) (t := (.array .double)) (t' := .double) (by decide) (by decide)))
  have f419 := Fw351.other W373 (Or.inr (slot_ne (a0 := a0) (C := "com/example/lineament/lineament/math/OuterProductSum") (Or.inl (hw _ (List.mem_of_getElem? (i := 36) rfl))) (Or.inl (hw _ (List.mem_of_getElem? (i := 38) rfl))) (by decide) (t := .int) (t' := .double) (by decide) (by decide)))
  have f420 := f419.other W379 (Or.inr (slot_ne (a0 := a0) (C := "com/example/lineament/lineament/math/OuterProductSum") (Or.inl (hw _ (List.mem_of_getElem? (i := 36) rfl))) (Or.inl (hw _ (List.mem_of_getElem? (i := 38) rfl))) (by decide) (t := .int) (t' := .double) (by decide) (by decide)))
  have f421 := f420.other W385 (Or.inr (slot_ne (a0 := a0) (C := "com/example/lineament/lineament/math/OuterProductSum") (Or.inl (hw _ (List.mem_of_getElem? (i := 36) rfl))) (Or.inl (hw _ (List.mem_of_getElem? (i := 38) rfl))) (by decide) (t := .int) (t' := .double) (by decide) (by decide)))
  have f422 := Vn169.ext E172
  have f423 := f422.other W191 (Nat.ne_of_lt lt_sm_b172)
  have f424 := f423.other W204 (Nat.ne_of_lt lt_sm_b172)
  have f425 := f424.other W217 (Nat.ne_of_lt lt_sm_b172)
  have f426 := f425.other W232 (Nat.ne_of_lt lt_sm_b172)
  have f427 := f426.other W245 (Nat.ne_of_lt lt_sm_b172)
  have f428 := f427.other W258 (Nat.ne_of_lt lt_sm_b172)
  have f429 := f428.other W273 (Nat.ne_of_lt lt_sm_b172)
  have f430 := f429.other W286 (Nat.ne_of_lt lt_sm_b172)
  have f431 := f430.other W299 (Nat.ne_of_lt lt_sm_b172)
  have f432 := f431.keep Kc315 (ninS ne_sm_ib nin0)
  have f433 := f432.other W351 (Ne.symm ne_th_sm)
  have f434 := f433.other W373 (Ne.symm ne_th_sm)
  have f435 := f434.other W379 (Ne.symm ne_th_sm)
  have f436 := f435.other W385 (Ne.symm ne_th_sm)
  have f437 := Vn315.other W351 (Ne.symm ne_th_ib)
  have f438 := f437.other W373 (Ne.symm ne_th_ib)
  have f439 := f438.other W379 (Ne.symm ne_th_ib)
  have f440 := f439.other W385 (Ne.symm ne_th_ib)
  obtain ⟨fs, hr, hrun, hended, hW, hsame⟩ := X385.leave (v := none) (fun _ => rfl)
  refine ⟨_, _, ?_, hrun, hended, _, _, rfl, ?_, ⟨_, rfl⟩, hW, hsame.mono (by decide) (by decide)⟩
  · refine pre0 _ ?_
    show Steps _ _ _ (s₁.setTop (mkF m 0 #[.val (.ref th), .val (.ref vb), .unset, .unset, .unset, .unset, .unset, .unset] [])) _
    refine XS.aloadN X0.here hx rfl (hb hby dAD_0) rfl rfl ?_
    refine XS.aloadN X0.here hx rfl (hb hby dAD_1) rfl rfl ?_
    show Steps _ _ _ (s₁.setTop (mkF m 2 #[.val (.ref th), .val (.ref vb), .unset, .unset, .unset, .unset, .unset, .unset] [(.ref vb), (.ref th)])) _
    refine st167.trans ?_
    show Steps _ _ _ (T167.setTop (mkF m 5 #[.val (.ref th), .val (.ref vb), .unset, .unset, .unset, .unset, .unset, .unset] [])) _
    refine XS.aloadN X167.here hx rfl (hb hby dAD_5) rfl rfl ?_
    refine XS.aloadN X167.here hx rfl (hb hby dAD_6) rfl rfl ?_
    show Steps _ _ _ (T167.setTop (mkF m 7 #[.val (.ref th), .val (.ref vb), .unset, .unset, .unset, .unset, .unset, .unset] [(.ref th), (.ref th)])) _
    refine st168 _ ?_
    refine XS.aloadN X168.here hx rfl (hb hby dAD_10) rfl rfl ?_
    show Steps _ _ _ (T168.setTop (mkF m 11 #[.val (.ref th), .val (.ref vb), .unset, .unset, .unset, .unset, .unset, .unset] [(.ref vb), (.ref sm), (.ref th)])) _
    refine st169.trans ?_
    show Steps _ _ _ (T169.setTop (mkF m 14 #[.val (.ref th), .val (.ref vb), .unset, .unset, .unset, .unset, .unset, .unset] [])) _
    refine XS.aloadN X169.here hx rfl (hb hby dAD_14) rfl rfl ?_
    show Steps _ _ _ (T169.setTop (mkF m 15 #[.val (.ref th), .val (.ref vb), .unset, .unset, .unset, .unset, .unset, .unset] [(.ref th)])) _
    refine st171 _ ?_
    show Steps _ _ _ (T171.setTop (mkF m 18 #[.val (.ref th), .val (.ref vb), .unset, .unset, .unset, .unset, .unset, .unset] [(.int (3 : Int32))])) _
    refine st172 _ ?_
    refine XS.astoreN X172.here hx rfl (hb hby dAD_20) rfl rfl (l' := #[.val (.ref th), .val (.ref vb), .val (.ref b172), .unset, .unset, .unset, .unset, .unset]) rfl ?_
    refine XS.iconst X172.here hx rfl (hb hby dAD_21) ?_
    refine XS.istoreN X172.here hx rfl (hb hby dAD_22) rfl (l' := #[.val (.ref th), .val (.ref vb), .val (.ref b172), .val (.int (0 : Int32)), .unset, .unset, .unset, .unset]) rfl ?_
    show Steps _ _ _ (T172.setTop (mkF m 23 #[.val (.ref th), .val (.ref vb), .val (.ref b172), .val (.int (0 : Int32)), .unset, .unset, .unset, .unset] [])) _
    refine XS.iloadN X172.here hx rfl (hb hby dAD_23) rfl ?_
    refine XS.aloadN X172.here hx rfl (hb hby dAD_24) rfl rfl ?_
    show Steps _ _ _ (T172.setTop (mkF m 25 #[.val (.ref th), .val (.ref vb), .val (.ref b172), .val (.int (0 : Int32)), .unset, .unset, .unset, .unset] [(.ref th), (.int (0 : Int32))])) _
    refine st178 _ ?_
    refine XS.icmpNo X178.here hx rfl (hb hby dAD_28) rfl (by decide) ?_
    refine XS.iconst X178.here hx rfl (hb hby dAD_31) ?_
    refine XS.istore X178.here hx rfl (hb hby dAD_32) rfl (l' := #[.val (.ref th), .val (.ref vb), .val (.ref b172), .val (.int (0 : Int32)), .val (.int (0 : Int32)), .unset, .unset, .unset]) rfl ?_
    show Steps _ _ _ (T178.setTop (mkF m 34 #[.val (.ref th), .val (.ref vb), .val (.ref b172), .val (.int (0 : Int32)), .val (.int (0 : Int32)), .unset, .unset, .unset] [])) _
    refine XS.iload X178.here hx rfl (hb hby dAD_34) rfl ?_
    refine XS.aloadN X178.here hx rfl (hb hby dAD_36) rfl rfl ?_
    show Steps _ _ _ (T178.setTop (mkF m 37 #[.val (.ref th), .val (.ref vb), .val (.ref b172), .val (.int (0 : Int32)), .val (.int (0 : Int32)), .unset, .unset, .unset] [(.ref th), (.int (0 : Int32))])) _
    refine st179 _ ?_
    refine XS.icmpNo X179.here hx rfl (hb hby dAD_40) rfl (by decide) ?_
    refine XS.aloadN X179.here hx rfl (hb hby dAD_43) rfl rfl ?_
    refine XS.iloadN X179.here hx rfl (hb hby dAD_44) rfl ?_
    show Steps _ _ _ (T179.setTop (mkF m 45 #[.val (.ref th), .val (.ref vb), .val (.ref b172), .val (.int (0 : Int32)), .val (.int (0 : Int32)), .unset, .unset, .unset] [(.int (0 : Int32)), (.ref b172)])) _
    jvm_step X179.here [X179.here.top, hx, (hb hby dAD_45), Value.category]
    show Steps _ _ _ (T179.setTop (mkF m 46 #[.val (.ref th), .val (.ref vb), .val (.ref b172), .val (.int (0 : Int32)), .val (.int (0 : Int32)), .unset, .unset, .unset] [(.int (0 : Int32)), (.ref b172), (.int (0 : Int32)), (.ref b172)])) _
    refine X179.daload hx (j := (0 : Int32)) (v := (.double (FP.l2d 0))) (by rw [e179]; exact Ar180.1) (State.isArrayOf_alike hZ.alike Ar180.2.1) Ar180.2.2 hin180 hat180 (g := (mkF m 46 #[.val (.ref th), .val (.ref vb), .val (.ref b172), .val (.int (0 : Int32)), .val (.int (0 : Int32)), .unset, .unset, .unset] [(.int (0 : Int32)), (.ref b172), (.int (0 : Int32)), (.ref b172)])) rfl rfl (hb hby dAD_46) _ ?_
    refine XS.aloadN X179.here hx rfl (hb hby dAD_47) rfl rfl ?_
    show Steps _ _ _ (T179.setTop (mkF m 48 #[.val (.ref th), .val (.ref vb), .val (.ref b172), .val (.int (0 : Int32)), .val (.int (0 : Int32)), .unset, .unset, .unset] [(.ref th), (.double (FP.l2d 0)), (.int (0 : Int32)), (.ref b172)])) _
    refine st183 _ ?_
    refine XS.iloadN X183.here hx rfl (hb hby dAD_51) rfl ?_
    refine XS.aloadN X183.here hx rfl (hb hby dAD_52) rfl rfl ?_
    show Steps _ _ _ (T183.setTop (mkF m 53 #[.val (.ref th), .val (.ref vb), .val (.ref b172), .val (.int (0 : Int32)), .val (.int (0 : Int32)), .unset, .unset, .unset] [(.ref th), (.int (0 : Int32)), (.ref bs), (.double (FP.l2d 0)), (.int (0 : Int32)), (.ref b172)])) _
    refine st184 _ ?_
    refine XS.imul X184.here hx rfl (hb hby dAD_56) rfl ?_
    refine XS.iload X184.here hx rfl (hb hby dAD_57) rfl ?_
    refine XS.iadd X184.here hx rfl (hb hby dAD_59) rfl ?_
    show Steps _ _ _ (T184.setTop (mkF m 60 #[.val (.ref th), .val (.ref vb), .val (.ref b172), .val (.int (0 : Int32)), .val (.int (0 : Int32)), .unset, .unset, .unset] [(.int (0 : Int32)), (.ref bs), (.double (FP.l2d 0)), (.int (0 : Int32)), (.ref b172)])) _
    refine X184.daload hx (j := (0 : Int32)) (v := (.double (FP.l2d 1))) (by rw [e184]; exact Ar185.1) (State.isArrayOf_alike hZ.alike Ar185.2.1) Ar185.2.2 hin185 hat185 (g := (mkF m 60 #[.val (.ref th), .val (.ref vb), .val (.ref b172), .val (.int (0 : Int32)), .val (.int (0 : Int32)), .unset, .unset, .unset] [(.int (0 : Int32)), (.ref bs), (.double (FP.l2d 0)), (.int (0 : Int32)), (.ref b172)])) rfl rfl (hb hby dAD_60) _ ?_
    refine XS.aloadN X184.here hx rfl (hb hby dAD_61) rfl rfl ?_
    refine XS.iload X184.here hx rfl (hb hby dAD_62) rfl ?_
    show Steps _ _ _ (T184.setTop (mkF m 64 #[.val (.ref th), .val (.ref vb), .val (.ref b172), .val (.int (0 : Int32)), .val (.int (0 : Int32)), .unset, .unset, .unset] [(.int (0 : Int32)), (.ref vb), (.double (FP.l2d 1)), (.double (FP.l2d 0)), (.int (0 : Int32)), (.ref b172)])) _
    refine X184.daload hx (j := (0 : Int32)) (v := (.double (FP.l2d x0))) (by rw [e184]; exact Ar187.1) (State.isArrayOf_alike hZ.alike Ar187.2.1) Ar187.2.2 hin187 hat187 (g := (mkF m 64 #[.val (.ref th), .val (.ref vb), .val (.ref b172), .val (.int (0 : Int32)), .val (.int (0 : Int32)), .unset, .unset, .unset] [(.int (0 : Int32)), (.ref vb), (.double (FP.l2d 1)), (.double (FP.l2d 0)), (.int (0 : Int32)), (.ref b172)])) rfl rfl (hb hby dAD_64) _ ?_
    refine XS.dmulS X184.here hx rfl (hb hby dAD_65) rfl (v := (FP.dmul (FP.l2d 1) (FP.l2d x0))) (own_mulNN _ _) rfl ?_
    refine XS.daddS X184.here hx rfl (hb hby dAD_66) rfl (v := (FP.l2d (0 + 1 * x0))) (nn_w Bq189.1) Bq189.1 ?_
    show Steps _ _ _ (T184.setTop (mkF m 67 #[.val (.ref th), .val (.ref vb), .val (.ref b172), .val (.int (0 : Int32)), .val (.int (0 : Int32)), .unset, .unset, .unset] [(.double (FP.l2d (0 + 1 * x0))), (.int (0 : Int32)), (.ref b172)])) _
    refine st191 _ ?_
    refine XS.iinc X191.here hx rfl (hb hby dAD_68) rfl (l' := #[.val (.ref th), .val (.ref vb), .val (.ref b172), .val (.int (0 : Int32)), .val (.int (1 : Int32)), .unset, .unset, .unset]) rfl ?_
    refine XS.goto X191.here hx rfl (pc0 := 71) (pc' := 34) rfl (hb hby dAD_71) (by decide) (by decide) ?_
    refine XS.iload X191.here hx rfl (hb hby dAD_34) rfl ?_
    show Steps _ _ _ (T191.setTop (mkF m 36 #[.val (.ref th), .val (.ref vb), .val (.ref b172), .val (.int (0 : Int32)), .val (.int (1 : Int32)), .unset, .unset, .unset] [(.int (1 : Int32))])) _
    refine XS.aloadN X191.here hx rfl (hb hby dAD_36) rfl rfl ?_
    show Steps _ _ _ (T191.setTop (mkF m 37 #[.val (.ref th), .val (.ref vb), .val (.ref b172), .val (.int (0 : Int32)), .val (.int (1 : Int32)), .unset, .unset, .unset] [(.ref th), (.int (1 : Int32))])) _
    refine st193 _ ?_
    refine XS.icmpNo X193.here hx rfl (hb hby dAD_40) rfl (by decide) ?_
    refine XS.aloadN X193.here hx rfl (hb hby dAD_43) rfl rfl ?_
    refine XS.iloadN X193.here hx rfl (hb hby dAD_44) rfl ?_
    show Steps _ _ _ (T193.setTop (mkF m 45 #[.val (.ref th), .val (.ref vb), .val (.ref b172), .val (.int (0 : Int32)), .val (.int (1 : Int32)), .unset, .unset, .unset] [(.int (0 : Int32)), (.ref b172)])) _
    jvm_step X193.here [X193.here.top, hx, (hb hby dAD_45), Value.category]
    show Steps _ _ _ (T193.setTop (mkF m 46 #[.val (.ref th), .val (.ref vb), .val (.ref b172), .val (.int (0 : Int32)), .val (.int (1 : Int32)), .unset, .unset, .unset] [(.int (0 : Int32)), (.ref b172), (.int (0 : Int32)), (.ref b172)])) _
    refine X193.daload hx (j := (0 : Int32)) (v := (.double (FP.l2d (0 + 1 * x0)))) (by rw [e193]; exact Ar194.1) (State.isArrayOf_alike hZ.alike Ar194.2.1) Ar194.2.2 hin194 hat194 (g := (mkF m 46 #[.val (.ref th), .val (.ref vb), .val (.ref b172), .val (.int (0 : Int32)), .val (.int (1 : Int32)), .unset, .unset, .unset] [(.int (0 : Int32)), (.ref b172), (.int (0 : Int32)), (.ref b172)])) rfl rfl (hb hby dAD_46) _ ?_
    refine XS.aloadN X193.here hx rfl (hb hby dAD_47) rfl rfl ?_
    show Steps _ _ _ (T193.setTop (mkF m 48 #[.val (.ref th), .val (.ref vb), .val (.ref b172), .val (.int (0 : Int32)), .val (.int (1 : Int32)), .unset, .unset, .unset] [(.ref th), (.double (FP.l2d (0 + 1 * x0))), (.int (0 : Int32)), (.ref b172)])) _
    refine st196 _ ?_
    refine XS.iloadN X196.here hx rfl (hb hby dAD_51) rfl ?_
    refine XS.aloadN X196.here hx rfl (hb hby dAD_52) rfl rfl ?_
    show Steps _ _ _ (T196.setTop (mkF m 53 #[.val (.ref th), .val (.ref vb), .val (.ref b172), .val (.int (0 : Int32)), .val (.int (1 : Int32)), .unset, .unset, .unset] [(.ref th), (.int (0 : Int32)), (.ref bs), (.double (FP.l2d (0 + 1 * x0))), (.int (0 : Int32)), (.ref b172)])) _
    refine st197 _ ?_
    refine XS.imul X197.here hx rfl (hb hby dAD_56) rfl ?_
    refine XS.iload X197.here hx rfl (hb hby dAD_57) rfl ?_
    refine XS.iadd X197.here hx rfl (hb hby dAD_59) rfl ?_
    show Steps _ _ _ (T197.setTop (mkF m 60 #[.val (.ref th), .val (.ref vb), .val (.ref b172), .val (.int (0 : Int32)), .val (.int (1 : Int32)), .unset, .unset, .unset] [(.int (1 : Int32)), (.ref bs), (.double (FP.l2d (0 + 1 * x0))), (.int (0 : Int32)), (.ref b172)])) _
    refine X197.daload hx (j := (1 : Int32)) (v := (.double (FP.l2d 0))) (by rw [e197]; exact Ar198.1) (State.isArrayOf_alike hZ.alike Ar198.2.1) Ar198.2.2 hin198 hat198 (g := (mkF m 60 #[.val (.ref th), .val (.ref vb), .val (.ref b172), .val (.int (0 : Int32)), .val (.int (1 : Int32)), .unset, .unset, .unset] [(.int (1 : Int32)), (.ref bs), (.double (FP.l2d (0 + 1 * x0))), (.int (0 : Int32)), (.ref b172)])) rfl rfl (hb hby dAD_60) _ ?_
    refine XS.aloadN X197.here hx rfl (hb hby dAD_61) rfl rfl ?_
    refine XS.iload X197.here hx rfl (hb hby dAD_62) rfl ?_
    show Steps _ _ _ (T197.setTop (mkF m 64 #[.val (.ref th), .val (.ref vb), .val (.ref b172), .val (.int (0 : Int32)), .val (.int (1 : Int32)), .unset, .unset, .unset] [(.int (1 : Int32)), (.ref vb), (.double (FP.l2d 0)), (.double (FP.l2d (0 + 1 * x0))), (.int (0 : Int32)), (.ref b172)])) _
    refine X197.daload hx (j := (1 : Int32)) (v := (.double (FP.l2d x1))) (by rw [e197]; exact Ar200.1) (State.isArrayOf_alike hZ.alike Ar200.2.1) Ar200.2.2 hin200 hat200 (g := (mkF m 64 #[.val (.ref th), .val (.ref vb), .val (.ref b172), .val (.int (0 : Int32)), .val (.int (1 : Int32)), .unset, .unset, .unset] [(.int (1 : Int32)), (.ref vb), (.double (FP.l2d 0)), (.double (FP.l2d (0 + 1 * x0))), (.int (0 : Int32)), (.ref b172)])) rfl rfl (hb hby dAD_64) _ ?_
    refine XS.dmulS X197.here hx rfl (hb hby dAD_65) rfl (v := (FP.dmul (FP.l2d 0) (FP.l2d x1))) (own_mulNN _ _) rfl ?_
    refine XS.daddS X197.here hx rfl (hb hby dAD_66) rfl (v := (FP.l2d ((0 + 1 * x0) + 0 * x1))) (nn_w Bq202.1) Bq202.1 ?_
    show Steps _ _ _ (T197.setTop (mkF m 67 #[.val (.ref th), .val (.ref vb), .val (.ref b172), .val (.int (0 : Int32)), .val (.int (1 : Int32)), .unset, .unset, .unset] [(.double (FP.l2d ((0 + 1 * x0) + 0 * x1))), (.int (0 : Int32)), (.ref b172)])) _
    refine st204 _ ?_
    refine XS.iinc X204.here hx rfl (hb hby dAD_68) rfl (l' := #[.val (.ref th), .val (.ref vb), .val (.ref b172), .val (.int (0 : Int32)), .val (.int (2 : Int32)), .unset, .unset, .unset]) rfl ?_
    refine XS.goto X204.here hx rfl (pc0 := 71) (pc' := 34) rfl (hb hby dAD_71) (by decide) (by decide) ?_
    refine XS.iload X204.here hx rfl (hb hby dAD_34) rfl ?_
    show Steps _ _ _ (T204.setTop (mkF m 36 #[.val (.ref th), .val (.ref vb), .val (.ref b172), .val (.int (0 : Int32)), .val (.int (2 : Int32)), .unset, .unset, .unset] [(.int (2 : Int32))])) _
    refine XS.aloadN X204.here hx rfl (hb hby dAD_36) rfl rfl ?_
    show Steps _ _ _ (T204.setTop (mkF m 37 #[.val (.ref th), .val (.ref vb), .val (.ref b172), .val (.int (0 : Int32)), .val (.int (2 : Int32)), .unset, .unset, .unset] [(.ref th), (.int (2 : Int32))])) _
    refine st206 _ ?_
    refine XS.icmpNo X206.here hx rfl (hb hby dAD_40) rfl (by decide) ?_
    refine XS.aloadN X206.here hx rfl (hb hby dAD_43) rfl rfl ?_
    refine XS.iloadN X206.here hx rfl (hb hby dAD_44) rfl ?_
    show Steps _ _ _ (T206.setTop (mkF m 45 #[.val (.ref th), .val (.ref vb), .val (.ref b172), .val (.int (0 : Int32)), .val (.int (2 : Int32)), .unset, .unset, .unset] [(.int (0 : Int32)), (.ref b172)])) _
    jvm_step X206.here [X206.here.top, hx, (hb hby dAD_45), Value.category]
    show Steps _ _ _ (T206.setTop (mkF m 46 #[.val (.ref th), .val (.ref vb), .val (.ref b172), .val (.int (0 : Int32)), .val (.int (2 : Int32)), .unset, .unset, .unset] [(.int (0 : Int32)), (.ref b172), (.int (0 : Int32)), (.ref b172)])) _
    refine X206.daload hx (j := (0 : Int32)) (v := (.double (FP.l2d ((0 + 1 * x0) + 0 * x1)))) (by rw [e206]; exact Ar207.1) (State.isArrayOf_alike hZ.alike Ar207.2.1) Ar207.2.2 hin207 hat207 (g := (mkF m 46 #[.val (.ref th), .val (.ref vb), .val (.ref b172), .val (.int (0 : Int32)), .val (.int (2 : Int32)), .unset, .unset, .unset] [(.int (0 : Int32)), (.ref b172), (.int (0 : Int32)), (.ref b172)])) rfl rfl (hb hby dAD_46) _ ?_
    refine XS.aloadN X206.here hx rfl (hb hby dAD_47) rfl rfl ?_
    show Steps _ _ _ (T206.setTop (mkF m 48 #[.val (.ref th), .val (.ref vb), .val (.ref b172), .val (.int (0 : Int32)), .val (.int (2 : Int32)), .unset, .unset, .unset] [(.ref th), (.double (FP.l2d ((0 + 1 * x0) + 0 * x1))), (.int (0 : Int32)), (.ref b172)])) _
    refine st209 _ ?_
    refine XS.iloadN X209.here hx rfl (hb hby dAD_51) rfl ?_
    refine XS.aloadN X209.here hx rfl (hb hby dAD_52) rfl rfl ?_
    show Steps _ _ _ (T209.setTop (mkF m 53 #[.val (.ref th), .val (.ref vb), .val (.ref b172), .val (.int (0 : Int32)), .val (.int (2 : Int32)), .unset, .unset, .unset] [(.ref th), (.int (0 : Int32)), (.ref bs), (.double (FP.l2d ((0 + 1 * x0) + 0 * x1))), (.int (0 : Int32)), (.ref b172)])) _
    refine st210 _ ?_
    refine XS.imul X210.here hx rfl (hb hby dAD_56) rfl ?_
    refine XS.iload X210.here hx rfl (hb hby dAD_57) rfl ?_
    refine XS.iadd X210.here hx rfl (hb hby dAD_59) rfl ?_
    show Steps _ _ _ (T210.setTop (mkF m 60 #[.val (.ref th), .val (.ref vb), .val (.ref b172), .val (.int (0 : Int32)), .val (.int (2 : Int32)), .unset, .unset, .unset] [(.int (2 : Int32)), (.ref bs), (.double (FP.l2d ((0 + 1 * x0) + 0 * x1))), (.int (0 : Int32)), (.ref b172)])) _
    refine X210.daload hx (j := (2 : Int32)) (v := (.double (FP.l2d 0))) (by rw [e210]; exact Ar211.1) (State.isArrayOf_alike hZ.alike Ar211.2.1) Ar211.2.2 hin211 hat211 (g := (mkF m 60 #[.val (.ref th), .val (.ref vb), .val (.ref b172), .val (.int (0 : Int32)), .val (.int (2 : Int32)), .unset, .unset, .unset] [(.int (2 : Int32)), (.ref bs), (.double (FP.l2d ((0 + 1 * x0) + 0 * x1))), (.int (0 : Int32)), (.ref b172)])) rfl rfl (hb hby dAD_60) _ ?_
    refine XS.aloadN X210.here hx rfl (hb hby dAD_61) rfl rfl ?_
    refine XS.iload X210.here hx rfl (hb hby dAD_62) rfl ?_
    show Steps _ _ _ (T210.setTop (mkF m 64 #[.val (.ref th), .val (.ref vb), .val (.ref b172), .val (.int (0 : Int32)), .val (.int (2 : Int32)), .unset, .unset, .unset] [(.int (2 : Int32)), (.ref vb), (.double (FP.l2d 0)), (.double (FP.l2d ((0 + 1 * x0) + 0 * x1))), (.int (0 : Int32)), (.ref b172)])) _
    refine X210.daload hx (j := (2 : Int32)) (v := (.double (FP.l2d x2))) (by rw [e210]; exact Ar213.1) (State.isArrayOf_alike hZ.alike Ar213.2.1) Ar213.2.2 hin213 hat213 (g := (mkF m 64 #[.val (.ref th), .val (.ref vb), .val (.ref b172), .val (.int (0 : Int32)), .val (.int (2 : Int32)), .unset, .unset, .unset] [(.int (2 : Int32)), (.ref vb), (.double (FP.l2d 0)), (.double (FP.l2d ((0 + 1 * x0) + 0 * x1))), (.int (0 : Int32)), (.ref b172)])) rfl rfl (hb hby dAD_64) _ ?_
    refine XS.dmulS X210.here hx rfl (hb hby dAD_65) rfl (v := (FP.dmul (FP.l2d 0) (FP.l2d x2))) (own_mulNN _ _) rfl ?_
    refine XS.daddS X210.here hx rfl (hb hby dAD_66) rfl (v := (FP.l2d (((0 + 1 * x0) + 0 * x1) + 0 * x2))) (nn_w Bq215.1) Bq215.1 ?_
    show Steps _ _ _ (T210.setTop (mkF m 67 #[.val (.ref th), .val (.ref vb), .val (.ref b172), .val (.int (0 : Int32)), .val (.int (2 : Int32)), .unset, .unset, .unset] [(.double (FP.l2d (((0 + 1 * x0) + 0 * x1) + 0 * x2))), (.int (0 : Int32)), (.ref b172)])) _
    refine st217 _ ?_
    refine XS.iinc X217.here hx rfl (hb hby dAD_68) rfl (l' := #[.val (.ref th), .val (.ref vb), .val (.ref b172), .val (.int (0 : Int32)), .val (.int (3 : Int32)), .unset, .unset, .unset]) rfl ?_
    refine XS.goto X217.here hx rfl (pc0 := 71) (pc' := 34) rfl (hb hby dAD_71) (by decide) (by decide) ?_
    refine XS.iload X217.here hx rfl (hb hby dAD_34) rfl ?_
    show Steps _ _ _ (T217.setTop (mkF m 36 #[.val (.ref th), .val (.ref vb), .val (.ref b172), .val (.int (0 : Int32)), .val (.int (3 : Int32)), .unset, .unset, .unset] [(.int (3 : Int32))])) _
    refine XS.aloadN X217.here hx rfl (hb hby dAD_36) rfl rfl ?_
    show Steps _ _ _ (T217.setTop (mkF m 37 #[.val (.ref th), .val (.ref vb), .val (.ref b172), .val (.int (0 : Int32)), .val (.int (3 : Int32)), .unset, .unset, .unset] [(.ref th), (.int (3 : Int32))])) _
    refine st219 _ ?_
    refine XS.icmpYes X219.here hx rfl (pc0 := 40) (pc' := 74) rfl (hb hby dAD_40) rfl (by decide) (by decide) (by decide) ?_
    refine XS.iinc X219.here hx rfl (hb hby dAD_74) rfl (l' := #[.val (.ref th), .val (.ref vb), .val (.ref b172), .val (.int (1 : Int32)), .val (.int (3 : Int32)), .unset, .unset, .unset]) rfl ?_
    refine XS.goto X219.here hx rfl (pc0 := 77) (pc' := 23) rfl (hb hby dAD_77) (by decide) (by decide) ?_
    show Steps _ _ _ (T219.setTop (mkF m 23 #[.val (.ref th), .val (.ref vb), .val (.ref b172), .val (.int (1 : Int32)), .val (.int (3 : Int32)), .unset, .unset, .unset] [])) _
    refine XS.iloadN X219.here hx rfl (hb hby dAD_23) rfl ?_
    refine XS.aloadN X219.here hx rfl (hb hby dAD_24) rfl rfl ?_
    show Steps _ _ _ (T219.setTop (mkF m 25 #[.val (.ref th), .val (.ref vb), .val (.ref b172), .val (.int (1 : Int32)), .val (.int (3 : Int32)), .unset, .unset, .unset] [(.ref th), (.int (1 : Int32))])) _
    refine st220 _ ?_
    refine XS.icmpNo X220.here hx rfl (hb hby dAD_28) rfl (by decide) ?_
    refine XS.iconst X220.here hx rfl (hb hby dAD_31) ?_
    refine XS.istore X220.here hx rfl (hb hby dAD_32) rfl (l' := #[.val (.ref th), .val (.ref vb), .val (.ref b172), .val (.int (1 : Int32)), .val (.int (0 : Int32)), .unset, .unset, .unset]) rfl ?_
    show Steps _ _ _ (T220.setTop (mkF m 34 #[.val (.ref th), .val (.ref vb), .val (.ref b172), .val (.int (1 : Int32)), .val (.int (0 : Int32)), .unset, .unset, .unset] [])) _
    refine XS.iload X220.here hx rfl (hb hby dAD_34) rfl ?_
    refine XS.aloadN X220.here hx rfl (hb hby dAD_36) rfl rfl ?_
    show Steps _ _ _ (T220.setTop (mkF m 37 #[.val (.ref th), .val (.ref vb), .val (.ref b172), .val (.int (1 : Int32)), .val (.int (0 : Int32)), .unset, .unset, .unset] [(.ref th), (.int (0 : Int32))])) _
    refine st221 _ ?_
    refine XS.icmpNo X221.here hx rfl (hb hby dAD_40) rfl (by decide) ?_
    refine XS.aloadN X221.here hx rfl (hb hby dAD_43) rfl rfl ?_
    refine XS.iloadN X221.here hx rfl (hb hby dAD_44) rfl ?_
    show Steps _ _ _ (T221.setTop (mkF m 45 #[.val (.ref th), .val (.ref vb), .val (.ref b172), .val (.int (1 : Int32)), .val (.int (0 : Int32)), .unset, .unset, .unset] [(.int (1 : Int32)), (.ref b172)])) _
    jvm_step X221.here [X221.here.top, hx, (hb hby dAD_45), Value.category]
    show Steps _ _ _ (T221.setTop (mkF m 46 #[.val (.ref th), .val (.ref vb), .val (.ref b172), .val (.int (1 : Int32)), .val (.int (0 : Int32)), .unset, .unset, .unset] [(.int (1 : Int32)), (.ref b172), (.int (1 : Int32)), (.ref b172)])) _
    refine X221.daload hx (j := (1 : Int32)) (v := (.double (FP.l2d 0))) (by rw [e221]; exact Ar222.1) (State.isArrayOf_alike hZ.alike Ar222.2.1) Ar222.2.2 hin222 hat222 (g := (mkF m 46 #[.val (.ref th), .val (.ref vb), .val (.ref b172), .val (.int (1 : Int32)), .val (.int (0 : Int32)), .unset, .unset, .unset] [(.int (1 : Int32)), (.ref b172), (.int (1 : Int32)), (.ref b172)])) rfl rfl (hb hby dAD_46) _ ?_
    refine XS.aloadN X221.here hx rfl (hb hby dAD_47) rfl rfl ?_
    show Steps _ _ _ (T221.setTop (mkF m 48 #[.val (.ref th), .val (.ref vb), .val (.ref b172), .val (.int (1 : Int32)), .val (.int (0 : Int32)), .unset, .unset, .unset] [(.ref th), (.double (FP.l2d 0)), (.int (1 : Int32)), (.ref b172)])) _
    refine st224 _ ?_
    refine XS.iloadN X224.here hx rfl (hb hby dAD_51) rfl ?_
    refine XS.aloadN X224.here hx rfl (hb hby dAD_52) rfl rfl ?_
    show Steps _ _ _ (T224.setTop (mkF m 53 #[.val (.ref th), .val (.ref vb), .val (.ref b172), .val (.int (1 : Int32)), .val (.int (0 : Int32)), .unset, .unset, .unset] [(.ref th), (.int (1 : Int32)), (.ref bs), (.double (FP.l2d 0)), (.int (1 : Int32)), (.ref b172)])) _
    refine st225 _ ?_
    refine XS.imul X225.here hx rfl (hb hby dAD_56) rfl ?_
    refine XS.iload X225.here hx rfl (hb hby dAD_57) rfl ?_
    refine XS.iadd X225.here hx rfl (hb hby dAD_59) rfl ?_
    show Steps _ _ _ (T225.setTop (mkF m 60 #[.val (.ref th), .val (.ref vb), .val (.ref b172), .val (.int (1 : Int32)), .val (.int (0 : Int32)), .unset, .unset, .unset] [(.int (3 : Int32)), (.ref bs), (.double (FP.l2d 0)), (.int (1 : Int32)), (.ref b172)])) _
    refine X225.daload hx (j := (3 : Int32)) (v := (.double (FP.l2d 0))) (by rw [e225]; exact Ar226.1) (State.isArrayOf_alike hZ.alike Ar226.2.1) Ar226.2.2 hin226 hat226 (g := (mkF m 60 #[.val (.ref th), .val (.ref vb), .val (.ref b172), .val (.int (1 : Int32)), .val (.int (0 : Int32)), .unset, .unset, .unset] [(.int (3 : Int32)), (.ref bs), (.double (FP.l2d 0)), (.int (1 : Int32)), (.ref b172)])) rfl rfl (hb hby dAD_60) _ ?_
    refine XS.aloadN X225.here hx rfl (hb hby dAD_61) rfl rfl ?_
    refine XS.iload X225.here hx rfl (hb hby dAD_62) rfl ?_
    show Steps _ _ _ (T225.setTop (mkF m 64 #[.val (.ref th), .val (.ref vb), .val (.ref b172), .val (.int (1 : Int32)), .val (.int (0 : Int32)), .unset, .unset, .unset] [(.int (0 : Int32)), (.ref vb), (.double (FP.l2d 0)), (.double (FP.l2d 0)), (.int (1 : Int32)), (.ref b172)])) _
    refine X225.daload hx (j := (0 : Int32)) (v := (.double (FP.l2d x0))) (by rw [e225]; exact Ar228.1) (State.isArrayOf_alike hZ.alike Ar228.2.1) Ar228.2.2 hin228 hat228 (g := (mkF m 64 #[.val (.ref th), .val (.ref vb), .val (.ref b172), .val (.int (1 : Int32)), .val (.int (0 : Int32)), .unset, .unset, .unset] [(.int (0 : Int32)), (.ref vb), (.double (FP.l2d 0)), (.double (FP.l2d 0)), (.int (1 : Int32)), (.ref b172)])) rfl rfl (hb hby dAD_64) _ ?_
    refine XS.dmulS X225.here hx rfl (hb hby dAD_65) rfl (v := (FP.dmul (FP.l2d 0) (FP.l2d x0))) (own_mulNN _ _) rfl ?_
    refine XS.daddS X225.here hx rfl (hb hby dAD_66) rfl (v := (FP.l2d (0 + 0 * x0))) (nn_w Bq230.1) Bq230.1 ?_
    show Steps _ _ _ (T225.setTop (mkF m 67 #[.val (.ref th), .val (.ref vb), .val (.ref b172), .val (.int (1 : Int32)), .val (.int (0 : Int32)), .unset, .unset, .unset] [(.double (FP.l2d (0 + 0 * x0))), (.int (1 : Int32)), (.ref b172)])) _
    refine st232 _ ?_
    refine XS.iinc X232.here hx rfl (hb hby dAD_68) rfl (l' := #[.val (.ref th), .val (.ref vb), .val (.ref b172), .val (.int (1 : Int32)), .val (.int (1 : Int32)), .unset, .unset, .unset]) rfl ?_
    refine XS.goto X232.here hx rfl (pc0 := 71) (pc' := 34) rfl (hb hby dAD_71) (by decide) (by decide) ?_
    refine XS.iload X232.here hx rfl (hb hby dAD_34) rfl ?_
    show Steps _ _ _ (T232.setTop (mkF m 36 #[.val (.ref th), .val (.ref vb), .val (.ref b172), .val (.int (1 : Int32)), .val (.int (1 : Int32)), .unset, .unset, .unset] [(.int (1 : Int32))])) _
    refine XS.aloadN X232.here hx rfl (hb hby dAD_36) rfl rfl ?_
    show Steps _ _ _ (T232.setTop (mkF m 37 #[.val (.ref th), .val (.ref vb), .val (.ref b172), .val (.int (1 : Int32)), .val (.int (1 : Int32)), .unset, .unset, .unset] [(.ref th), (.int (1 : Int32))])) _
    refine st234 _ ?_
    refine XS.icmpNo X234.here hx rfl (hb hby dAD_40) rfl (by decide) ?_
    refine XS.aloadN X234.here hx rfl (hb hby dAD_43) rfl rfl ?_
    refine XS.iloadN X234.here hx rfl (hb hby dAD_44) rfl ?_
    show Steps _ _ _ (T234.setTop (mkF m 45 #[.val (.ref th), .val (.ref vb), .val (.ref b172), .val (.int (1 : Int32)), .val (.int (1 : Int32)), .unset, .unset, .unset] [(.int (1 : Int32)), (.ref b172)])) _
    jvm_step X234.here [X234.here.top, hx, (hb hby dAD_45), Value.category]
    show Steps _ _ _ (T234.setTop (mkF m 46 #[.val (.ref th), .val (.ref vb), .val (.ref b172), .val (.int (1 : Int32)), .val (.int (1 : Int32)), .unset, .unset, .unset] [(.int (1 : Int32)), (.ref b172), (.int (1 : Int32)), (.ref b172)])) _
    refine X234.daload hx (j := (1 : Int32)) (v := (.double (FP.l2d (0 + 0 * x0)))) (by rw [e234]; exact Ar235.1) (State.isArrayOf_alike hZ.alike Ar235.2.1) Ar235.2.2 hin235 hat235 (g := (mkF m 46 #[.val (.ref th), .val (.ref vb), .val (.ref b172), .val (.int (1 : Int32)), .val (.int (1 : Int32)), .unset, .unset, .unset] [(.int (1 : Int32)), (.ref b172), (.int (1 : Int32)), (.ref b172)])) rfl rfl (hb hby dAD_46) _ ?_
    refine XS.aloadN X234.here hx rfl (hb hby dAD_47) rfl rfl ?_
    show Steps _ _ _ (T234.setTop (mkF m 48 #[.val (.ref th), .val (.ref vb), .val (.ref b172), .val (.int (1 : Int32)), .val (.int (1 : Int32)), .unset, .unset, .unset] [(.ref th), (.double (FP.l2d (0 + 0 * x0))), (.int (1 : Int32)), (.ref b172)])) _
    refine st237 _ ?_
    refine XS.iloadN X237.here hx rfl (hb hby dAD_51) rfl ?_
    refine XS.aloadN X237.here hx rfl (hb hby dAD_52) rfl rfl ?_
    show Steps _ _ _ (T237.setTop (mkF m 53 #[.val (.ref th), .val (.ref vb), .val (.ref b172), .val (.int (1 : Int32)), .val (.int (1 : Int32)), .unset, .unset, .unset] [(.ref th), (.int (1 : Int32)), (.ref bs), (.double (FP.l2d (0 + 0 * x0))), (.int (1 : Int32)), (.ref b172)])) _
    refine st238 _ ?_
    refine XS.imul X238.here hx rfl (hb hby dAD_56) rfl ?_
    refine XS.iload X238.here hx rfl (hb hby dAD_57) rfl ?_
    refine XS.iadd X238.here hx rfl (hb hby dAD_59) rfl ?_
    show Steps _ _ _ (T238.setTop (mkF m 60 #[.val (.ref th), .val (.ref vb), .val (.ref b172), .val (.int (1 : Int32)), .val (.int (1 : Int32)), .unset, .unset, .unset] [(.int (4 : Int32)), (.ref bs), (.double (FP.l2d (0 + 0 * x0))), (.int (1 : Int32)), (.ref b172)])) _
    refine X238.daload hx (j := (4 : Int32)) (v := (.double (FP.l2d 1))) (by rw [e238]; exact Ar239.1) (State.isArrayOf_alike hZ.alike Ar239.2.1) Ar239.2.2 hin239 hat239 (g := (mkF m 60 #[.val (.ref th), .val (.ref vb), .val (.ref b172), .val (.int (1 : Int32)), .val (.int (1 : Int32)), .unset, .unset, .unset] [(.int (4 : Int32)), (.ref bs), (.double (FP.l2d (0 + 0 * x0))), (.int (1 : Int32)), (.ref b172)])) rfl rfl (hb hby dAD_60) _ ?_
    refine XS.aloadN X238.here hx rfl (hb hby dAD_61) rfl rfl ?_
    refine XS.iload X238.here hx rfl (hb hby dAD_62) rfl ?_
    show Steps _ _ _ (T238.setTop (mkF m 64 #[.val (.ref th), .val (.ref vb), .val (.ref b172), .val (.int (1 : Int32)), .val (.int (1 : Int32)), .unset, .unset, .unset] [(.int (1 : Int32)), (.ref vb), (.double (FP.l2d 1)), (.double (FP.l2d (0 + 0 * x0))), (.int (1 : Int32)), (.ref b172)])) _
    refine X238.daload hx (j := (1 : Int32)) (v := (.double (FP.l2d x1))) (by rw [e238]; exact Ar241.1) (State.isArrayOf_alike hZ.alike Ar241.2.1) Ar241.2.2 hin241 hat241 (g := (mkF m 64 #[.val (.ref th), .val (.ref vb), .val (.ref b172), .val (.int (1 : Int32)), .val (.int (1 : Int32)), .unset, .unset, .unset] [(.int (1 : Int32)), (.ref vb), (.double (FP.l2d 1)), (.double (FP.l2d (0 + 0 * x0))), (.int (1 : Int32)), (.ref b172)])) rfl rfl (hb hby dAD_64) _ ?_
    refine XS.dmulS X238.here hx rfl (hb hby dAD_65) rfl (v := (FP.dmul (FP.l2d 1) (FP.l2d x1))) (own_mulNN _ _) rfl ?_
    refine XS.daddS X238.here hx rfl (hb hby dAD_66) rfl (v := (FP.l2d ((0 + 0 * x0) + 1 * x1))) (nn_w Bq243.1) Bq243.1 ?_
    show Steps _ _ _ (T238.setTop (mkF m 67 #[.val (.ref th), .val (.ref vb), .val (.ref b172), .val (.int (1 : Int32)), .val (.int (1 : Int32)), .unset, .unset, .unset] [(.double (FP.l2d ((0 + 0 * x0) + 1 * x1))), (.int (1 : Int32)), (.ref b172)])) _
    refine st245 _ ?_
    refine XS.iinc X245.here hx rfl (hb hby dAD_68) rfl (l' := #[.val (.ref th), .val (.ref vb), .val (.ref b172), .val (.int (1 : Int32)), .val (.int (2 : Int32)), .unset, .unset, .unset]) rfl ?_
    refine XS.goto X245.here hx rfl (pc0 := 71) (pc' := 34) rfl (hb hby dAD_71) (by decide) (by decide) ?_
    refine XS.iload X245.here hx rfl (hb hby dAD_34) rfl ?_
    show Steps _ _ _ (T245.setTop (mkF m 36 #[.val (.ref th), .val (.ref vb), .val (.ref b172), .val (.int (1 : Int32)), .val (.int (2 : Int32)), .unset, .unset, .unset] [(.int (2 : Int32))])) _
    refine XS.aloadN X245.here hx rfl (hb hby dAD_36) rfl rfl ?_
    show Steps _ _ _ (T245.setTop (mkF m 37 #[.val (.ref th), .val (.ref vb), .val (.ref b172), .val (.int (1 : Int32)), .val (.int (2 : Int32)), .unset, .unset, .unset] [(.ref th), (.int (2 : Int32))])) _
    refine st247 _ ?_
    refine XS.icmpNo X247.here hx rfl (hb hby dAD_40) rfl (by decide) ?_
    refine XS.aloadN X247.here hx rfl (hb hby dAD_43) rfl rfl ?_
    refine XS.iloadN X247.here hx rfl (hb hby dAD_44) rfl ?_
    show Steps _ _ _ (T247.setTop (mkF m 45 #[.val (.ref th), .val (.ref vb), .val (.ref b172), .val (.int (1 : Int32)), .val (.int (2 : Int32)), .unset, .unset, .unset] [(.int (1 : Int32)), (.ref b172)])) _
    jvm_step X247.here [X247.here.top, hx, (hb hby dAD_45), Value.category]
    show Steps _ _ _ (T247.setTop (mkF m 46 #[.val (.ref th), .val (.ref vb), .val (.ref b172), .val (.int (1 : Int32)), .val (.int (2 : Int32)), .unset, .unset, .unset] [(.int (1 : Int32)), (.ref b172), (.int (1 : Int32)), (.ref b172)])) _
    refine X247.daload hx (j := (1 : Int32)) (v := (.double (FP.l2d ((0 + 0 * x0) + 1 * x1)))) (by rw [e247]; exact Ar248.1) (State.isArrayOf_alike hZ.alike Ar248.2.1) Ar248.2.2 hin248 hat248 (g := (mkF m 46 #[.val (.ref th), .val (.ref vb), .val (.ref b172), .val (.int (1 : Int32)), .val (.int (2 : Int32)), .unset, .unset, .unset] [(.int (1 : Int32)), (.ref b172), (.int (1 : Int32)), (.ref b172)])) rfl rfl (hb hby dAD_46) _ ?_
    refine XS.aloadN X247.here hx rfl (hb hby dAD_47) rfl rfl ?_
    show Steps _ _ _ (T247.setTop (mkF m 48 #[.val (.ref th), .val (.ref vb), .val (.ref b172), .val (.int (1 : Int32)), .val (.int (2 : Int32)), .unset, .unset, .unset] [(.ref th), (.double (FP.l2d ((0 + 0 * x0) + 1 * x1))), (.int (1 : Int32)), (.ref b172)])) _
    refine st250 _ ?_
    refine XS.iloadN X250.here hx rfl (hb hby dAD_51) rfl ?_
    refine XS.aloadN X250.here hx rfl (hb hby dAD_52) rfl rfl ?_
    show Steps _ _ _ (T250.setTop (mkF m 53 #[.val (.ref th), .val (.ref vb), .val (.ref b172), .val (.int (1 : Int32)), .val (.int (2 : Int32)), .unset, .unset, .unset] [(.ref th), (.int (1 : Int32)), (.ref bs), (.double (FP.l2d ((0 + 0 * x0) + 1 * x1))), (.int (1 : Int32)), (.ref b172)])) _
    refine st251 _ ?_
    refine XS.imul X251.here hx rfl (hb hby dAD_56) rfl ?_
    refine XS.iload X251.here hx rfl (hb hby dAD_57) rfl ?_
    refine XS.iadd X251.here hx rfl (hb hby dAD_59) rfl ?_
    show Steps _ _ _ (T251.setTop (mkF m 60 #[.val (.ref th), .val (.ref vb), .val (.ref b172), .val (.int (1 : Int32)), .val (.int (2 : Int32)), .unset, .unset, .unset] [(.int (5 : Int32)), (.ref bs), (.double (FP.l2d ((0 + 0 * x0) + 1 * x1))), (.int (1 : Int32)), (.ref b172)])) _
    refine X251.daload hx (j := (5 : Int32)) (v := (.double (FP.l2d 0))) (by rw [e251]; exact Ar252.1) (State.isArrayOf_alike hZ.alike Ar252.2.1) Ar252.2.2 hin252 hat252 (g := (mkF m 60 #[.val (.ref th), .val (.ref vb), .val (.ref b172), .val (.int (1 : Int32)), .val (.int (2 : Int32)), .unset, .unset, .unset] [(.int (5 : Int32)), (.ref bs), (.double (FP.l2d ((0 + 0 * x0) + 1 * x1))), (.int (1 : Int32)), (.ref b172)])) rfl rfl (hb hby dAD_60) _ ?_
    refine XS.aloadN X251.here hx rfl (hb hby dAD_61) rfl rfl ?_
    refine XS.iload X251.here hx rfl (hb hby dAD_62) rfl ?_
    show Steps _ _ _ (T251.setTop (mkF m 64 #[.val (.ref th), .val (.ref vb), .val (.ref b172), .val (.int (1 : Int32)), .val (.int (2 : Int32)), .unset, .unset, .unset] [(.int (2 : Int32)), (.ref vb), (.double (FP.l2d 0)), (.double (FP.l2d ((0 + 0 * x0) + 1 * x1))), (.int (1 : Int32)), (.ref b172)])) _
    refine X251.daload hx (j := (2 : Int32)) (v := (.double (FP.l2d x2))) (by rw [e251]; exact Ar254.1) (State.isArrayOf_alike hZ.alike Ar254.2.1) Ar254.2.2 hin254 hat254 (g := (mkF m 64 #[.val (.ref th), .val (.ref vb), .val (.ref b172), .val (.int (1 : Int32)), .val (.int (2 : Int32)), .unset, .unset, .unset] [(.int (2 : Int32)), (.ref vb), (.double (FP.l2d 0)), (.double (FP.l2d ((0 + 0 * x0) + 1 * x1))), (.int (1 : Int32)), (.ref b172)])) rfl rfl (hb hby dAD_64) _ ?_
    refine XS.dmulS X251.here hx rfl (hb hby dAD_65) rfl (v := (FP.dmul (FP.l2d 0) (FP.l2d x2))) (own_mulNN _ _) rfl ?_
    refine XS.daddS X251.here hx rfl (hb hby dAD_66) rfl (v := (FP.l2d (((0 + 0 * x0) + 1 * x1) + 0 * x2))) (nn_w Bq256.1) Bq256.1 ?_
    show Steps _ _ _ (T251.setTop (mkF m 67 #[.val (.ref th), .val (.ref vb), .val (.ref b172), .val (.int (1 : Int32)), .val (.int (2 : Int32)), .unset, .unset, .unset] [(.double (FP.l2d (((0 + 0 * x0) + 1 * x1) + 0 * x2))), (.int (1 : Int32)), (.ref b172)])) _
    refine st258 _ ?_
    refine XS.iinc X258.here hx rfl (hb hby dAD_68) rfl (l' := #[.val (.ref th), .val (.ref vb), .val (.ref b172), .val (.int (1 : Int32)), .val (.int (3 : Int32)), .unset, .unset, .unset]) rfl ?_
    refine XS.goto X258.here hx rfl (pc0 := 71) (pc' := 34) rfl (hb hby dAD_71) (by decide) (by decide) ?_
    refine XS.iload X258.here hx rfl (hb hby dAD_34) rfl ?_
    show Steps _ _ _ (T258.setTop (mkF m 36 #[.val (.ref th), .val (.ref vb), .val (.ref b172), .val (.int (1 : Int32)), .val (.int (3 : Int32)), .unset, .unset, .unset] [(.int (3 : Int32))])) _
    refine XS.aloadN X258.here hx rfl (hb hby dAD_36) rfl rfl ?_
    show Steps _ _ _ (T258.setTop (mkF m 37 #[.val (.ref th), .val (.ref vb), .val (.ref b172), .val (.int (1 : Int32)), .val (.int (3 : Int32)), .unset, .unset, .unset] [(.ref th), (.int (3 : Int32))])) _
    refine st260 _ ?_
    refine XS.icmpYes X260.here hx rfl (pc0 := 40) (pc' := 74) rfl (hb hby dAD_40) rfl (by decide) (by decide) (by decide) ?_
    refine XS.iinc X260.here hx rfl (hb hby dAD_74) rfl (l' := #[.val (.ref th), .val (.ref vb), .val (.ref b172), .val (.int (2 : Int32)), .val (.int (3 : Int32)), .unset, .unset, .unset]) rfl ?_
    refine XS.goto X260.here hx rfl (pc0 := 77) (pc' := 23) rfl (hb hby dAD_77) (by decide) (by decide) ?_
    show Steps _ _ _ (T260.setTop (mkF m 23 #[.val (.ref th), .val (.ref vb), .val (.ref b172), .val (.int (2 : Int32)), .val (.int (3 : Int32)), .unset, .unset, .unset] [])) _
    refine XS.iloadN X260.here hx rfl (hb hby dAD_23) rfl ?_
    refine XS.aloadN X260.here hx rfl (hb hby dAD_24) rfl rfl ?_
    show Steps _ _ _ (T260.setTop (mkF m 25 #[.val (.ref th), .val (.ref vb), .val (.ref b172), .val (.int (2 : Int32)), .val (.int (3 : Int32)), .unset, .unset, .unset] [(.ref th), (.int (2 : Int32))])) _
    refine st261 _ ?_
    refine XS.icmpNo X261.here hx rfl (hb hby dAD_28) rfl (by decide) ?_
    refine XS.iconst X261.here hx rfl (hb hby dAD_31) ?_
    refine XS.istore X261.here hx rfl (hb hby dAD_32) rfl (l' := #[.val (.ref th), .val (.ref vb), .val (.ref b172), .val (.int (2 : Int32)), .val (.int (0 : Int32)), .unset, .unset, .unset]) rfl ?_
    show Steps _ _ _ (T261.setTop (mkF m 34 #[.val (.ref th), .val (.ref vb), .val (.ref b172), .val (.int (2 : Int32)), .val (.int (0 : Int32)), .unset, .unset, .unset] [])) _
    refine XS.iload X261.here hx rfl (hb hby dAD_34) rfl ?_
    refine XS.aloadN X261.here hx rfl (hb hby dAD_36) rfl rfl ?_
    show Steps _ _ _ (T261.setTop (mkF m 37 #[.val (.ref th), .val (.ref vb), .val (.ref b172), .val (.int (2 : Int32)), .val (.int (0 : Int32)), .unset, .unset, .unset] [(.ref th), (.int (0 : Int32))])) _
    refine st262 _ ?_
    refine XS.icmpNo X262.here hx rfl (hb hby dAD_40) rfl (by decide) ?_
    refine XS.aloadN X262.here hx rfl (hb hby dAD_43) rfl rfl ?_
    refine XS.iloadN X262.here hx rfl (hb hby dAD_44) rfl ?_
    show Steps _ _ _ (T262.setTop (mkF m 45 #[.val (.ref th), .val (.ref vb), .val (.ref b172), .val (.int (2 : Int32)), .val (.int (0 : Int32)), .unset, .unset, .unset] [(.int (2 : Int32)), (.ref b172)])) _
    jvm_step X262.here [X262.here.top, hx, (hb hby dAD_45), Value.category]
    show Steps _ _ _ (T262.setTop (mkF m 46 #[.val (.ref th), .val (.ref vb), .val (.ref b172), .val (.int (2 : Int32)), .val (.int (0 : Int32)), .unset, .unset, .unset] [(.int (2 : Int32)), (.ref b172), (.int (2 : Int32)), (.ref b172)])) _
    refine X262.daload hx (j := (2 : Int32)) (v := (.double (FP.l2d 0))) (by rw [e262]; exact Ar263.1) (State.isArrayOf_alike hZ.alike Ar263.2.1) Ar263.2.2 hin263 hat263 (g := (mkF m 46 #[.val (.ref th), .val (.ref vb), .val (.ref b172), .val (.int (2 : Int32)), .val (.int (0 : Int32)), .unset, .unset, .unset] [(.int (2 : Int32)), (.ref b172), (.int (2 : Int32)), (.ref b172)])) rfl rfl (hb hby dAD_46) _ ?_
    refine XS.aloadN X262.here hx rfl (hb hby dAD_47) rfl rfl ?_
    show Steps _ _ _ (T262.setTop (mkF m 48 #[.val (.ref th), .val (.ref vb), .val (.ref b172), .val (.int (2 : Int32)), .val (.int (0 : Int32)), .unset, .unset, .unset] [(.ref th), (.double (FP.l2d 0)), (.int (2 : Int32)), (.ref b172)])) _
    refine st265 _ ?_
    refine XS.iloadN X265.here hx rfl (hb hby dAD_51) rfl ?_
    refine XS.aloadN X265.here hx rfl (hb hby dAD_52) rfl rfl ?_
    show Steps _ _ _ (T265.setTop (mkF m 53 #[.val (.ref th), .val (.ref vb), .val (.ref b172), .val (.int (2 : Int32)), .val (.int (0 : Int32)), .unset, .unset, .unset] [(.ref th), (.int (2 : Int32)), (.ref bs), (.double (FP.l2d 0)), (.int (2 : Int32)), (.ref b172)])) _
    refine st266 _ ?_
    refine XS.imul X266.here hx rfl (hb hby dAD_56) rfl ?_
    refine XS.iload X266.here hx rfl (hb hby dAD_57) rfl ?_
    refine XS.iadd X266.here hx rfl (hb hby dAD_59) rfl ?_
    show Steps _ _ _ (T266.setTop (mkF m 60 #[.val (.ref th), .val (.ref vb), .val (.ref b172), .val (.int (2 : Int32)), .val (.int (0 : Int32)), .unset, .unset, .unset] [(.int (6 : Int32)), (.ref bs), (.double (FP.l2d 0)), (.int (2 : Int32)), (.ref b172)])) _
    refine X266.daload hx (j := (6 : Int32)) (v := (.double (FP.l2d 0))) (by rw [e266]; exact Ar267.1) (State.isArrayOf_alike hZ.alike Ar267.2.1) Ar267.2.2 hin267 hat267 (g := (mkF m 60 #[.val (.ref th), .val (.ref vb), .val (.ref b172), .val (.int (2 : Int32)), .val (.int (0 : Int32)), .unset, .unset, .unset] [(.int (6 : Int32)), (.ref bs), (.double (FP.l2d 0)), (.int (2 : Int32)), (.ref b172)])) rfl rfl (hb hby dAD_60) _ ?_
    refine XS.aloadN X266.here hx rfl (hb hby dAD_61) rfl rfl ?_
    refine XS.iload X266.here hx rfl (hb hby dAD_62) rfl ?_
    show Steps _ _ _ (T266.setTop (mkF m 64 #[.val (.ref th), .val (.ref vb), .val (.ref b172), .val (.int (2 : Int32)), .val (.int (0 : Int32)), .unset, .unset, .unset] [(.int (0 : Int32)), (.ref vb), (.double (FP.l2d 0)), (.double (FP.l2d 0)), (.int (2 : Int32)), (.ref b172)])) _
    refine X266.daload hx (j := (0 : Int32)) (v := (.double (FP.l2d x0))) (by rw [e266]; exact Ar269.1) (State.isArrayOf_alike hZ.alike Ar269.2.1) Ar269.2.2 hin269 hat269 (g := (mkF m 64 #[.val (.ref th), .val (.ref vb), .val (.ref b172), .val (.int (2 : Int32)), .val (.int (0 : Int32)), .unset, .unset, .unset] [(.int (0 : Int32)), (.ref vb), (.double (FP.l2d 0)), (.double (FP.l2d 0)), (.int (2 : Int32)), (.ref b172)])) rfl rfl (hb hby dAD_64) _ ?_
    refine XS.dmulS X266.here hx rfl (hb hby dAD_65) rfl (v := (FP.dmul (FP.l2d 0) (FP.l2d x0))) (own_mulNN _ _) rfl ?_
    refine XS.daddS X266.here hx rfl (hb hby dAD_66) rfl (v := (FP.l2d (0 + 0 * x0))) (nn_w Bq271.1) Bq271.1 ?_
    show Steps _ _ _ (T266.setTop (mkF m 67 #[.val (.ref th), .val (.ref vb), .val (.ref b172), .val (.int (2 : Int32)), .val (.int (0 : Int32)), .unset, .unset, .unset] [(.double (FP.l2d (0 + 0 * x0))), (.int (2 : Int32)), (.ref b172)])) _
    refine st273 _ ?_
    refine XS.iinc X273.here hx rfl (hb hby dAD_68) rfl (l' := #[.val (.ref th), .val (.ref vb), .val (.ref b172), .val (.int (2 : Int32)), .val (.int (1 : Int32)), .unset, .unset, .unset]) rfl ?_
    refine XS.goto X273.here hx rfl (pc0 := 71) (pc' := 34) rfl (hb hby dAD_71) (by decide) (by decide) ?_
    refine XS.iload X273.here hx rfl (hb hby dAD_34) rfl ?_
    show Steps _ _ _ (T273.setTop (mkF m 36 #[.val (.ref th), .val (.ref vb), .val (.ref b172), .val (.int (2 : Int32)), .val (.int (1 : Int32)), .unset, .unset, .unset] [(.int (1 : Int32))])) _
    refine XS.aloadN X273.here hx rfl (hb hby dAD_36) rfl rfl ?_
    show Steps _ _ _ (T273.setTop (mkF m 37 #[.val (.ref th), .val (.ref vb), .val (.ref b172), .val (.int (2 : Int32)), .val (.int (1 : Int32)), .unset, .unset, .unset] [(.ref th), (.int (1 : Int32))])) _
    refine st275 _ ?_
    refine XS.icmpNo X275.here hx rfl (hb hby dAD_40) rfl (by decide) ?_
    refine XS.aloadN X275.here hx rfl (hb hby dAD_43) rfl rfl ?_
    refine XS.iloadN X275.here hx rfl (hb hby dAD_44) rfl ?_
    show Steps _ _ _ (T275.setTop (mkF m 45 #[.val (.ref th), .val (.ref vb), .val (.ref b172), .val (.int (2 : Int32)), .val (.int (1 : Int32)), .unset, .unset, .unset] [(.int (2 : Int32)), (.ref b172)])) _
    jvm_step X275.here [X275.here.top, hx, (hb hby dAD_45), Value.category]
    show Steps _ _ _ (T275.setTop (mkF m 46 #[.val (.ref th), .val (.ref vb), .val (.ref b172), .val (.int (2 : Int32)), .val (.int (1 : Int32)), .unset, .unset, .unset] [(.int (2 : Int32)), (.ref b172), (.int (2 : Int32)), (.ref b172)])) _
    refine X275.daload hx (j := (2 : Int32)) (v := (.double (FP.l2d (0 + 0 * x0)))) (by rw [e275]; exact Ar276.1) (State.isArrayOf_alike hZ.alike Ar276.2.1) Ar276.2.2 hin276 hat276 (g := (mkF m 46 #[.val (.ref th), .val (.ref vb), .val (.ref b172), .val (.int (2 : Int32)), .val (.int (1 : Int32)), .unset, .unset, .unset] [(.int (2 : Int32)), (.ref b172), (.int (2 : Int32)), (.ref b172)])) rfl rfl (hb hby dAD_46) _ ?_
    refine XS.aloadN X275.here hx rfl (hb hby dAD_47) rfl rfl ?_
    show Steps _ _ _ (T275.setTop (mkF m 48 #[.val (.ref th), .val (.ref vb), .val (.ref b172), .val (.int (2 : Int32)), .val (.int (1 : Int32)), .unset, .unset, .unset] [(.ref th), (.double (FP.l2d (0 + 0 * x0))), (.int (2 : Int32)), (.ref b172)])) _
    refine st278 _ ?_
    refine XS.iloadN X278.here hx rfl (hb hby dAD_51) rfl ?_
    refine XS.aloadN X278.here hx rfl (hb hby dAD_52) rfl rfl ?_
    show Steps _ _ _ (T278.setTop (mkF m 53 #[.val (.ref th), .val (.ref vb), .val (.ref b172), .val (.int (2 : Int32)), .val (.int (1 : Int32)), .unset, .unset, .unset] [(.ref th), (.int (2 : Int32)), (.ref bs), (.double (FP.l2d (0 + 0 * x0))), (.int (2 : Int32)), (.ref b172)])) _
    refine st279 _ ?_
    refine XS.imul X279.here hx rfl (hb hby dAD_56) rfl ?_
    refine XS.iload X279.here hx rfl (hb hby dAD_57) rfl ?_
    refine XS.iadd X279.here hx rfl (hb hby dAD_59) rfl ?_
    show Steps _ _ _ (T279.setTop (mkF m 60 #[.val (.ref th), .val (.ref vb), .val (.ref b172), .val (.int (2 : Int32)), .val (.int (1 : Int32)), .unset, .unset, .unset] [(.int (7 : Int32)), (.ref bs), (.double (FP.l2d (0 + 0 * x0))), (.int (2 : Int32)), (.ref b172)])) _
    refine X279.daload hx (j := (7 : Int32)) (v := (.double (FP.l2d 0))) (by rw [e279]; exact Ar280.1) (State.isArrayOf_alike hZ.alike Ar280.2.1) Ar280.2.2 hin280 hat280 (g := (mkF m 60 #[.val (.ref th), .val (.ref vb), .val (.ref b172), .val (.int (2 : Int32)), .val (.int (1 : Int32)), .unset, .unset, .unset] [(.int (7 : Int32)), (.ref bs), (.double (FP.l2d (0 + 0 * x0))), (.int (2 : Int32)), (.ref b172)])) rfl rfl (hb hby dAD_60) _ ?_
    refine XS.aloadN X279.here hx rfl (hb hby dAD_61) rfl rfl ?_
    refine XS.iload X279.here hx rfl (hb hby dAD_62) rfl ?_
    show Steps _ _ _ (T279.setTop (mkF m 64 #[.val (.ref th), .val (.ref vb), .val (.ref b172), .val (.int (2 : Int32)), .val (.int (1 : Int32)), .unset, .unset, .unset] [(.int (1 : Int32)), (.ref vb), (.double (FP.l2d 0)), (.double (FP.l2d (0 + 0 * x0))), (.int (2 : Int32)), (.ref b172)])) _
    refine X279.daload hx (j := (1 : Int32)) (v := (.double (FP.l2d x1))) (by rw [e279]; exact Ar282.1) (State.isArrayOf_alike hZ.alike Ar282.2.1) Ar282.2.2 hin282 hat282 (g := (mkF m 64 #[.val (.ref th), .val (.ref vb), .val (.ref b172), .val (.int (2 : Int32)), .val (.int (1 : Int32)), .unset, .unset, .unset] [(.int (1 : Int32)), (.ref vb), (.double (FP.l2d 0)), (.double (FP.l2d (0 + 0 * x0))), (.int (2 : Int32)), (.ref b172)])) rfl rfl (hb hby dAD_64) _ ?_
    refine XS.dmulS X279.here hx rfl (hb hby dAD_65) rfl (v := (FP.dmul (FP.l2d 0) (FP.l2d x1))) (own_mulNN _ _) rfl ?_
    refine XS.daddS X279.here hx rfl (hb hby dAD_66) rfl (v := (FP.l2d ((0 + 0 * x0) + 0 * x1))) (nn_w Bq284.1) Bq284.1 ?_
    show Steps _ _ _ (T279.setTop (mkF m 67 #[.val (.ref th), .val (.ref vb), .val (.ref b172), .val (.int (2 : Int32)), .val (.int (1 : Int32)), .unset, .unset, .unset] [(.double (FP.l2d ((0 + 0 * x0) + 0 * x1))), (.int (2 : Int32)), (.ref b172)])) _
    refine st286 _ ?_
    refine XS.iinc X286.here hx rfl (hb hby dAD_68) rfl (l' := #[.val (.ref th), .val (.ref vb), .val (.ref b172), .val (.int (2 : Int32)), .val (.int (2 : Int32)), .unset, .unset, .unset]) rfl ?_
    refine XS.goto X286.here hx rfl (pc0 := 71) (pc' := 34) rfl (hb hby dAD_71) (by decide) (by decide) ?_
    refine XS.iload X286.here hx rfl (hb hby dAD_34) rfl ?_
    show Steps _ _ _ (T286.setTop (mkF m 36 #[.val (.ref th), .val (.ref vb), .val (.ref b172), .val (.int (2 : Int32)), .val (.int (2 : Int32)), .unset, .unset, .unset] [(.int (2 : Int32))])) _
    refine XS.aloadN X286.here hx rfl (hb hby dAD_36) rfl rfl ?_
    show Steps _ _ _ (T286.setTop (mkF m 37 #[.val (.ref th), .val (.ref vb), .val (.ref b172), .val (.int (2 : Int32)), .val (.int (2 : Int32)), .unset, .unset, .unset] [(.ref th), (.int (2 : Int32))])) _
    refine st288 _ ?_
    refine XS.icmpNo X288.here hx rfl (hb hby dAD_40) rfl (by decide) ?_
    refine XS.aloadN X288.here hx rfl (hb hby dAD_43) rfl rfl ?_
    refine XS.iloadN X288.here hx rfl (hb hby dAD_44) rfl ?_
    show Steps _ _ _ (T288.setTop (mkF m 45 #[.val (.ref th), .val (.ref vb), .val (.ref b172), .val (.int (2 : Int32)), .val (.int (2 : Int32)), .unset, .unset, .unset] [(.int (2 : Int32)), (.ref b172)])) _
    jvm_step X288.here [X288.here.top, hx, (hb hby dAD_45), Value.category]
    show Steps _ _ _ (T288.setTop (mkF m 46 #[.val (.ref th), .val (.ref vb), .val (.ref b172), .val (.int (2 : Int32)), .val (.int (2 : Int32)), .unset, .unset, .unset] [(.int (2 : Int32)), (.ref b172), (.int (2 : Int32)), (.ref b172)])) _
    refine X288.daload hx (j := (2 : Int32)) (v := (.double (FP.l2d ((0 + 0 * x0) + 0 * x1)))) (by rw [e288]; exact Ar289.1) (State.isArrayOf_alike hZ.alike Ar289.2.1) Ar289.2.2 hin289 hat289 (g := (mkF m 46 #[.val (.ref th), .val (.ref vb), .val (.ref b172), .val (.int (2 : Int32)), .val (.int (2 : Int32)), .unset, .unset, .unset] [(.int (2 : Int32)), (.ref b172), (.int (2 : Int32)), (.ref b172)])) rfl rfl (hb hby dAD_46) _ ?_
    refine XS.aloadN X288.here hx rfl (hb hby dAD_47) rfl rfl ?_
    show Steps _ _ _ (T288.setTop (mkF m 48 #[.val (.ref th), .val (.ref vb), .val (.ref b172), .val (.int (2 : Int32)), .val (.int (2 : Int32)), .unset, .unset, .unset] [(.ref th), (.double (FP.l2d ((0 + 0 * x0) + 0 * x1))), (.int (2 : Int32)), (.ref b172)])) _
    refine st291 _ ?_
    refine XS.iloadN X291.here hx rfl (hb hby dAD_51) rfl ?_
    refine XS.aloadN X291.here hx rfl (hb hby dAD_52) rfl rfl ?_
    show Steps _ _ _ (T291.setTop (mkF m 53 #[.val (.ref th), .val (.ref vb), .val (.ref b172), .val (.int (2 : Int32)), .val (.int (2 : Int32)), .unset, .unset, .unset] [(.ref th), (.int (2 : Int32)), (.ref bs), (.double (FP.l2d ((0 + 0 * x0) + 0 * x1))), (.int (2 : Int32)), (.ref b172)])) _
    refine st292 _ ?_
    refine XS.imul X292.here hx rfl (hb hby dAD_56) rfl ?_
    refine XS.iload X292.here hx rfl (hb hby dAD_57) rfl ?_
    refine XS.iadd X292.here hx rfl (hb hby dAD_59) rfl ?_
    show Steps _ _ _ (T292.setTop (mkF m 60 #[.val (.ref th), .val (.ref vb), .val (.ref b172), .val (.int (2 : Int32)), .val (.int (2 : Int32)), .unset, .unset, .unset] [(.int (8 : Int32)), (.ref bs), (.double (FP.l2d ((0 + 0 * x0) + 0 * x1))), (.int (2 : Int32)), (.ref b172)])) _
    refine X292.daload hx (j := (8 : Int32)) (v := (.double (FP.l2d 1))) (by rw [e292]; exact Ar293.1) (State.isArrayOf_alike hZ.alike Ar293.2.1) Ar293.2.2 hin293 hat293 (g := (mkF m 60 #[.val (.ref th), .val (.ref vb), .val (.ref b172), .val (.int (2 : Int32)), .val (.int (2 : Int32)), .unset, .unset, .unset] [(.int (8 : Int32)), (.ref bs), (.double (FP.l2d ((0 + 0 * x0) + 0 * x1))), (.int (2 : Int32)), (.ref b172)])) rfl rfl (hb hby dAD_60) _ ?_
    refine XS.aloadN X292.here hx rfl (hb hby dAD_61) rfl rfl ?_
    refine XS.iload X292.here hx rfl (hb hby dAD_62) rfl ?_
    show Steps _ _ _ (T292.setTop (mkF m 64 #[.val (.ref th), .val (.ref vb), .val (.ref b172), .val (.int (2 : Int32)), .val (.int (2 : Int32)), .unset, .unset, .unset] [(.int (2 : Int32)), (.ref vb), (.double (FP.l2d 1)), (.double (FP.l2d ((0 + 0 * x0) + 0 * x1))), (.int (2 : Int32)), (.ref b172)])) _
    refine X292.daload hx (j := (2 : Int32)) (v := (.double (FP.l2d x2))) (by rw [e292]; exact Ar295.1) (State.isArrayOf_alike hZ.alike Ar295.2.1) Ar295.2.2 hin295 hat295 (g := (mkF m 64 #[.val (.ref th), .val (.ref vb), .val (.ref b172), .val (.int (2 : Int32)), .val (.int (2 : Int32)), .unset, .unset, .unset] [(.int (2 : Int32)), (.ref vb), (.double (FP.l2d 1)), (.double (FP.l2d ((0 + 0 * x0) + 0 * x1))), (.int (2 : Int32)), (.ref b172)])) rfl rfl (hb hby dAD_64) _ ?_
    refine XS.dmulS X292.here hx rfl (hb hby dAD_65) rfl (v := (FP.dmul (FP.l2d 1) (FP.l2d x2))) (own_mulNN _ _) rfl ?_
    refine XS.daddS X292.here hx rfl (hb hby dAD_66) rfl (v := (FP.l2d (((0 + 0 * x0) + 0 * x1) + 1 * x2))) (nn_w Bq297.1) Bq297.1 ?_
    show Steps _ _ _ (T292.setTop (mkF m 67 #[.val (.ref th), .val (.ref vb), .val (.ref b172), .val (.int (2 : Int32)), .val (.int (2 : Int32)), .unset, .unset, .unset] [(.double (FP.l2d (((0 + 0 * x0) + 0 * x1) + 1 * x2))), (.int (2 : Int32)), (.ref b172)])) _
    refine st299 _ ?_
    refine XS.iinc X299.here hx rfl (hb hby dAD_68) rfl (l' := #[.val (.ref th), .val (.ref vb), .val (.ref b172), .val (.int (2 : Int32)), .val (.int (3 : Int32)), .unset, .unset, .unset]) rfl ?_
    refine XS.goto X299.here hx rfl (pc0 := 71) (pc' := 34) rfl (hb hby dAD_71) (by decide) (by decide) ?_
    refine XS.iload X299.here hx rfl (hb hby dAD_34) rfl ?_
    show Steps _ _ _ (T299.setTop (mkF m 36 #[.val (.ref th), .val (.ref vb), .val (.ref b172), .val (.int (2 : Int32)), .val (.int (3 : Int32)), .unset, .unset, .unset] [(.int (3 : Int32))])) _
    refine XS.aloadN X299.here hx rfl (hb hby dAD_36) rfl rfl ?_
    show Steps _ _ _ (T299.setTop (mkF m 37 #[.val (.ref th), .val (.ref vb), .val (.ref b172), .val (.int (2 : Int32)), .val (.int (3 : Int32)), .unset, .unset, .unset] [(.ref th), (.int (3 : Int32))])) _
    refine st301 _ ?_
    refine XS.icmpYes X301.here hx rfl (pc0 := 40) (pc' := 74) rfl (hb hby dAD_40) rfl (by decide) (by decide) (by decide) ?_
    refine XS.iinc X301.here hx rfl (hb hby dAD_74) rfl (l' := #[.val (.ref th), .val (.ref vb), .val (.ref b172), .val (.int (3 : Int32)), .val (.int (3 : Int32)), .unset, .unset, .unset]) rfl ?_
    refine XS.goto X301.here hx rfl (pc0 := 77) (pc' := 23) rfl (hb hby dAD_77) (by decide) (by decide) ?_
    show Steps _ _ _ (T301.setTop (mkF m 23 #[.val (.ref th), .val (.ref vb), .val (.ref b172), .val (.int (3 : Int32)), .val (.int (3 : Int32)), .unset, .unset, .unset] [])) _
    refine XS.iloadN X301.here hx rfl (hb hby dAD_23) rfl ?_
    refine XS.aloadN X301.here hx rfl (hb hby dAD_24) rfl rfl ?_
    show Steps _ _ _ (T301.setTop (mkF m 25 #[.val (.ref th), .val (.ref vb), .val (.ref b172), .val (.int (3 : Int32)), .val (.int (3 : Int32)), .unset, .unset, .unset] [(.ref th), (.int (3 : Int32))])) _
    refine st302 _ ?_
    refine XS.icmpYes X302.here hx rfl (pc0 := 28) (pc' := 80) rfl (hb hby dAD_28) rfl (by decide) (by decide) (by decide) ?_
    refine XS.aloadN X302.here hx rfl (hb hby dAD_80) rfl rfl ?_
    refine XS.aloadN X302.here hx rfl (hb hby dAD_81) rfl rfl ?_
    show Steps _ _ _ (T302.setTop (mkF m 82 #[.val (.ref th), .val (.ref vb), .val (.ref b172), .val (.int (3 : Int32)), .val (.int (3 : Int32)), .unset, .unset, .unset] [(.ref th), (.ref th)])) _
    refine st314 _ ?_
    refine XS.aloadN X314.here hx rfl (hb hby dAD_85) rfl rfl ?_
    show Steps _ _ _ (T314.setTop (mkF m 86 #[.val (.ref th), .val (.ref vb), .val (.ref b172), .val (.int (3 : Int32)), .val (.int (3 : Int32)), .unset, .unset, .unset] [(.ref b172), (.ref ib), (.ref th)])) _
    refine st315.trans ?_
    show Steps _ _ _ (T315.setTop (mkF m 89 #[.val (.ref th), .val (.ref vb), .val (.ref b172), .val (.int (3 : Int32)), .val (.int (3 : Int32)), .unset, .unset, .unset] [])) _
    refine XS.aloadN X315.here hx rfl (hb hby dAD_89) rfl rfl ?_
    refine XS.dup X315.here hx rfl (hb hby dAD_90) rfl rfl ?_
    show Steps _ _ _ (T315.setTop (mkF m 91 #[.val (.ref th), .val (.ref vb), .val (.ref b172), .val (.int (3 : Int32)), .val (.int (3 : Int32)), .unset, .unset, .unset] [(.ref th), (.ref th)])) _
    refine st349 _ ?_
    refine XS.iconst X349.here hx rfl (hb hby dAD_94) ?_
    refine XS.iadd X349.here hx rfl (hb hby dAD_95) rfl ?_
    show Steps _ _ _ (T349.setTop (mkF m 96 #[.val (.ref th), .val (.ref vb), .val (.ref b172), .val (.int (3 : Int32)), .val (.int (3 : Int32)), .unset, .unset, .unset] [(.int (cnt + (1 : Int32))), (.ref th)])) _
    refine st351 _ ?_
    refine XS.aloadN X351.here hx rfl (hb hby dAD_99) rfl rfl ?_
    refine XS.astoreN X351.here hx rfl (hb hby dAD_100) rfl rfl (l' := #[.val (.ref th), .val (.ref vb), .val (.ref b172), .val (.ref vb), .val (.int (3 : Int32)), .unset, .unset, .unset]) rfl ?_
    refine XS.aloadN X351.here hx rfl (hb hby dAD_101) rfl rfl ?_
    show Steps _ _ _ (T351.setTop (mkF m 102 #[.val (.ref th), .val (.ref vb), .val (.ref b172), .val (.ref vb), .val (.int (3 : Int32)), .unset, .unset, .unset] [(.ref vb)])) _
    refine X351.arraylength hx (by rw [e351]; exact Ar352.1) (State.isArrayOf_alike hZ.alike Ar352.2.1) (g := (mkF m 102 #[.val (.ref th), .val (.ref vb), .val (.ref b172), .val (.ref vb), .val (.int (3 : Int32)), .unset, .unset, .unset] [(.ref vb)])) rfl rfl (hb hby dAD_102) _ ?_
    rw [len_of S352 N352]
    refine XS.istore X351.here hx rfl (hb hby dAD_103) rfl (l' := #[.val (.ref th), .val (.ref vb), .val (.ref b172), .val (.ref vb), .val (.int (3 : Int32)), .unset, .unset, .unset]) rfl ?_
    refine XS.iconst X351.here hx rfl (hb hby dAD_105) ?_
    refine XS.istore X351.here hx rfl (hb hby dAD_106) rfl (l' := #[.val (.ref th), .val (.ref vb), .val (.ref b172), .val (.ref vb), .val (.int (3 : Int32)), .val (.int (0 : Int32)), .unset, .unset]) rfl ?_
    show Steps _ _ _ (T351.setTop (mkF m 108 #[.val (.ref th), .val (.ref vb), .val (.ref b172), .val (.ref vb), .val (.int (3 : Int32)), .val (.int (0 : Int32)), .unset, .unset] [])) _
    refine XS.iload X351.here hx rfl (hb hby dAD_108) rfl ?_
    refine XS.iload X351.here hx rfl (hb hby dAD_110) rfl ?_
    refine XS.icmpNo X351.here hx rfl (hb hby dAD_112) rfl (by decide) ?_
    refine XS.aloadN X351.here hx rfl (hb hby dAD_115) rfl rfl ?_
    show Steps _ _ _ (T351.setTop (mkF m 116 #[.val (.ref th), .val (.ref vb), .val (.ref b172), .val (.ref vb), .val (.int (3 : Int32)), .val (.int (0 : Int32)), .unset, .unset] [(.ref vb)])) _
    refine XS.iload X351.here hx rfl (hb hby dAD_116) rfl ?_
    show Steps _ _ _ (T351.setTop (mkF m 118 #[.val (.ref th), .val (.ref vb), .val (.ref b172), .val (.ref vb), .val (.int (3 : Int32)), .val (.int (0 : Int32)), .unset, .unset] [(.int (0 : Int32)), (.ref vb)])) _
    refine X351.daload hx (j := (0 : Int32)) (v := (.double (FP.l2d x0))) (by rw [e351]; exact Ar356.1) (State.isArrayOf_alike hZ.alike Ar356.2.1) Ar356.2.2 hin356 hat356 (g := (mkF m 118 #[.val (.ref th), .val (.ref vb), .val (.ref b172), .val (.ref vb), .val (.int (3 : Int32)), .val (.int (0 : Int32)), .unset, .unset] [(.int (0 : Int32)), (.ref vb)])) rfl rfl (hb hby dAD_118) _ ?_
    refine XS.dstore X351.here hx rfl (hb hby dAD_119) rfl (l' := #[.val (.ref th), .val (.ref vb), .val (.ref b172), .val (.ref vb), .val (.int (3 : Int32)), .val (.int (0 : Int32)), .val (.double (FP.l2d x0)), .second]) rfl ?_
    refine XS.aloadN X351.here hx rfl (hb hby dAD_121) rfl rfl ?_
    refine XS.dup X351.here hx rfl (hb hby dAD_122) rfl rfl ?_
    show Steps _ _ _ (T351.setTop (mkF m 123 #[.val (.ref th), .val (.ref vb), .val (.ref b172), .val (.ref vb), .val (.int (3 : Int32)), .val (.int (0 : Int32)), .val (.double (FP.l2d x0)), .second] [(.ref th), (.ref th)])) _
    refine st370 _ ?_
    refine XS.dload X370.here hx rfl (hb hby dAD_126) rfl ?_
    refine XS.dload X370.here hx rfl (hb hby dAD_128) rfl ?_
    refine XS.dmulS X370.here hx rfl (hb hby dAD_130) rfl (v := (FP.dmul (FP.l2d x0) (FP.l2d x0))) (own_mulNN _ _) rfl ?_
    show Steps _ _ _ (T370.setTop (mkF m 131 #[.val (.ref th), .val (.ref vb), .val (.ref b172), .val (.ref vb), .val (.int (3 : Int32)), .val (.int (0 : Int32)), .val (.double (FP.l2d x0)), .second] [(.double (FP.dmul (FP.l2d x0) (FP.l2d x0))), (.double (FP.l2d tr)), (.ref th)])) _
    refine XS.daddS X370.here hx rfl (hb hby dAD_131) rfl (v := (FP.l2d (tr + x0 * x0))) (nn_w Bq371.1) Bq371.1 ?_
    show Steps _ _ _ (T370.setTop (mkF m 132 #[.val (.ref th), .val (.ref vb), .val (.ref b172), .val (.ref vb), .val (.int (3 : Int32)), .val (.int (0 : Int32)), .val (.double (FP.l2d x0)), .second] [(.double (FP.l2d (tr + x0 * x0))), (.ref th)])) _
    refine st373 _ ?_
    refine XS.iinc X373.here hx rfl (hb hby dAD_135) rfl (l' := #[.val (.ref th), .val (.ref vb), .val (.ref b172), .val (.ref vb), .val (.int (3 : Int32)), .val (.int (1 : Int32)), .val (.double (FP.l2d x0)), .second]) rfl ?_
    refine XS.goto X373.here hx rfl (pc0 := 138) (pc' := 108) rfl (hb hby dAD_138) (by decide) (by decide) ?_
    refine XS.iload X373.here hx rfl (hb hby dAD_108) rfl ?_
    show Steps _ _ _ (T373.setTop (mkF m 110 #[.val (.ref th), .val (.ref vb), .val (.ref b172), .val (.ref vb), .val (.int (3 : Int32)), .val (.int (1 : Int32)), .val (.double (FP.l2d x0)), .second] [(.int (1 : Int32))])) _
    refine XS.iload X373.here hx rfl (hb hby dAD_110) rfl ?_
    refine XS.icmpNo X373.here hx rfl (hb hby dAD_112) rfl (by decide) ?_
    refine XS.aloadN X373.here hx rfl (hb hby dAD_115) rfl rfl ?_
    refine XS.iload X373.here hx rfl (hb hby dAD_116) rfl ?_
    show Steps _ _ _ (T373.setTop (mkF m 118 #[.val (.ref th), .val (.ref vb), .val (.ref b172), .val (.ref vb), .val (.int (3 : Int32)), .val (.int (1 : Int32)), .val (.double (FP.l2d x0)), .second] [(.int (1 : Int32)), (.ref vb)])) _
    refine X373.daload hx (j := (1 : Int32)) (v := (.double (FP.l2d x1))) (by rw [e373]; exact Ar374.1) (State.isArrayOf_alike hZ.alike Ar374.2.1) Ar374.2.2 hin374 hat374 (g := (mkF m 118 #[.val (.ref th), .val (.ref vb), .val (.ref b172), .val (.ref vb), .val (.int (3 : Int32)), .val (.int (1 : Int32)), .val (.double (FP.l2d x0)), .second] [(.int (1 : Int32)), (.ref vb)])) rfl rfl (hb hby dAD_118) _ ?_
    refine XS.dstore X373.here hx rfl (hb hby dAD_119) rfl (l' := #[.val (.ref th), .val (.ref vb), .val (.ref b172), .val (.ref vb), .val (.int (3 : Int32)), .val (.int (1 : Int32)), .val (.double (FP.l2d x1)), .second]) rfl ?_
    refine XS.aloadN X373.here hx rfl (hb hby dAD_121) rfl rfl ?_
    refine XS.dup X373.here hx rfl (hb hby dAD_122) rfl rfl ?_
    show Steps _ _ _ (T373.setTop (mkF m 123 #[.val (.ref th), .val (.ref vb), .val (.ref b172), .val (.ref vb), .val (.int (3 : Int32)), .val (.int (1 : Int32)), .val (.double (FP.l2d x1)), .second] [(.ref th), (.ref th)])) _
    refine st376 _ ?_
    refine XS.dload X376.here hx rfl (hb hby dAD_126) rfl ?_
    refine XS.dload X376.here hx rfl (hb hby dAD_128) rfl ?_
    refine XS.dmulS X376.here hx rfl (hb hby dAD_130) rfl (v := (FP.dmul (FP.l2d x1) (FP.l2d x1))) (own_mulNN _ _) rfl ?_
    show Steps _ _ _ (T376.setTop (mkF m 131 #[.val (.ref th), .val (.ref vb), .val (.ref b172), .val (.ref vb), .val (.int (3 : Int32)), .val (.int (1 : Int32)), .val (.double (FP.l2d x1)), .second] [(.double (FP.dmul (FP.l2d x1) (FP.l2d x1))), (.double (FP.l2d (tr + x0 * x0))), (.ref th)])) _
    refine XS.daddS X376.here hx rfl (hb hby dAD_131) rfl (v := (FP.l2d ((tr + x0 * x0) + x1 * x1))) (nn_w Bq377.1) Bq377.1 ?_
    show Steps _ _ _ (T376.setTop (mkF m 132 #[.val (.ref th), .val (.ref vb), .val (.ref b172), .val (.ref vb), .val (.int (3 : Int32)), .val (.int (1 : Int32)), .val (.double (FP.l2d x1)), .second] [(.double (FP.l2d ((tr + x0 * x0) + x1 * x1))), (.ref th)])) _
    refine st379 _ ?_
    refine XS.iinc X379.here hx rfl (hb hby dAD_135) rfl (l' := #[.val (.ref th), .val (.ref vb), .val (.ref b172), .val (.ref vb), .val (.int (3 : Int32)), .val (.int (2 : Int32)), .val (.double (FP.l2d x1)), .second]) rfl ?_
    refine XS.goto X379.here hx rfl (pc0 := 138) (pc' := 108) rfl (hb hby dAD_138) (by decide) (by decide) ?_
    refine XS.iload X379.here hx rfl (hb hby dAD_108) rfl ?_
    show Steps _ _ _ (T379.setTop (mkF m 110 #[.val (.ref th), .val (.ref vb), .val (.ref b172), .val (.ref vb), .val (.int (3 : Int32)), .val (.int (2 : Int32)), .val (.double (FP.l2d x1)), .second] [(.int (2 : Int32))])) _
    refine XS.iload X379.here hx rfl (hb hby dAD_110) rfl ?_
    refine XS.icmpNo X379.here hx rfl (hb hby dAD_112) rfl (by decide) ?_
    refine XS.aloadN X379.here hx rfl (hb hby dAD_115) rfl rfl ?_
    refine XS.iload X379.here hx rfl (hb hby dAD_116) rfl ?_
    show Steps _ _ _ (T379.setTop (mkF m 118 #[.val (.ref th), .val (.ref vb), .val (.ref b172), .val (.ref vb), .val (.int (3 : Int32)), .val (.int (2 : Int32)), .val (.double (FP.l2d x1)), .second] [(.int (2 : Int32)), (.ref vb)])) _
    refine X379.daload hx (j := (2 : Int32)) (v := (.double (FP.l2d x2))) (by rw [e379]; exact Ar380.1) (State.isArrayOf_alike hZ.alike Ar380.2.1) Ar380.2.2 hin380 hat380 (g := (mkF m 118 #[.val (.ref th), .val (.ref vb), .val (.ref b172), .val (.ref vb), .val (.int (3 : Int32)), .val (.int (2 : Int32)), .val (.double (FP.l2d x1)), .second] [(.int (2 : Int32)), (.ref vb)])) rfl rfl (hb hby dAD_118) _ ?_
    refine XS.dstore X379.here hx rfl (hb hby dAD_119) rfl (l' := #[.val (.ref th), .val (.ref vb), .val (.ref b172), .val (.ref vb), .val (.int (3 : Int32)), .val (.int (2 : Int32)), .val (.double (FP.l2d x2)), .second]) rfl ?_
    refine XS.aloadN X379.here hx rfl (hb hby dAD_121) rfl rfl ?_
    refine XS.dup X379.here hx rfl (hb hby dAD_122) rfl rfl ?_
    show Steps _ _ _ (T379.setTop (mkF m 123 #[.val (.ref th), .val (.ref vb), .val (.ref b172), .val (.ref vb), .val (.int (3 : Int32)), .val (.int (2 : Int32)), .val (.double (FP.l2d x2)), .second] [(.ref th), (.ref th)])) _
    refine st382 _ ?_
    refine XS.dload X382.here hx rfl (hb hby dAD_126) rfl ?_
    refine XS.dload X382.here hx rfl (hb hby dAD_128) rfl ?_
    refine XS.dmulS X382.here hx rfl (hb hby dAD_130) rfl (v := (FP.dmul (FP.l2d x2) (FP.l2d x2))) (own_mulNN _ _) rfl ?_
    show Steps _ _ _ (T382.setTop (mkF m 131 #[.val (.ref th), .val (.ref vb), .val (.ref b172), .val (.ref vb), .val (.int (3 : Int32)), .val (.int (2 : Int32)), .val (.double (FP.l2d x2)), .second] [(.double (FP.dmul (FP.l2d x2) (FP.l2d x2))), (.double (FP.l2d ((tr + x0 * x0) + x1 * x1))), (.ref th)])) _
    refine XS.daddS X382.here hx rfl (hb hby dAD_131) rfl (v := (FP.l2d (((tr + x0 * x0) + x1 * x1) + x2 * x2))) (nn_w Bq383.1) Bq383.1 ?_
    show Steps _ _ _ (T382.setTop (mkF m 132 #[.val (.ref th), .val (.ref vb), .val (.ref b172), .val (.ref vb), .val (.int (3 : Int32)), .val (.int (2 : Int32)), .val (.double (FP.l2d x2)), .second] [(.double (FP.l2d (((tr + x0 * x0) + x1 * x1) + x2 * x2))), (.ref th)])) _
    refine st385 _ ?_
    refine XS.iinc X385.here hx rfl (hb hby dAD_135) rfl (l' := #[.val (.ref th), .val (.ref vb), .val (.ref b172), .val (.ref vb), .val (.int (3 : Int32)), .val (.int (3 : Int32)), .val (.double (FP.l2d x2)), .second]) rfl ?_
    refine XS.goto X385.here hx rfl (pc0 := 138) (pc' := 108) rfl (hb hby dAD_138) (by decide) (by decide) ?_
    refine XS.iload X385.here hx rfl (hb hby dAD_108) rfl ?_
    show Steps _ _ _ (T385.setTop (mkF m 110 #[.val (.ref th), .val (.ref vb), .val (.ref b172), .val (.ref vb), .val (.int (3 : Int32)), .val (.int (3 : Int32)), .val (.double (FP.l2d x2)), .second] [(.int (3 : Int32))])) _
    refine XS.iload X385.here hx rfl (hb hby dAD_110) rfl ?_
    refine XS.icmpYes X385.here hx rfl (pc0 := 112) (pc' := 141) rfl (hb hby dAD_112) rfl (by decide) (by decide) (by decide) ?_
    show Steps _ _ _ (T385.setTop (mkF m 141 #[.val (.ref th), .val (.ref vb), .val (.ref b172), .val (.ref vb), .val (.int (3 : Int32)), .val (.int (3 : Int32)), .val (.double (FP.l2d x2)), .second] [])) _
    exact X385.returnOut hx Bd.returns (hb hby dAD_141) hr
  · show QAD Z th vb sm bs ib ks kbs kib kb cnt tr s0 s1 s2 s3 s4 s5 s6 s7 s8 t0 t1 t2 t3 t4 t5 t6 t7 t8 x0 x1 x2 h0 n0 _ T385.heap _
    rw [e385]
    exact ⟨rfl, N385, K385, f386, f391, f407, f413, f418, f421, Fw385, f436, f440⟩
theorem dIN_0 : decode prog_22_method_1_code 0 = .ok (.aload_n 0, 1) := by decide +kernel
theorem dIN_1 : decode prog_22_method_1_code 1 = .ok (.invokespecial 1, 3) := by decide +kernel
theorem dIN_4 : decode prog_22_method_1_code 4 = .ok (.iload_n 1, 1) := by decide +kernel
theorem dIN_5 : decode prog_22_method_1_code 5 = .ok (.iconst 1, 1) := by decide +kernel
theorem dIN_6 : decode prog_22_method_1_code 6 = .ok (.if_icmp .ge 17, 3) := by decide +kernel
theorem dIN_23 : decode prog_22_method_1_code 23 = .ok (.aload_n 0, 1) := by decide +kernel
theorem dIN_24 : decode prog_22_method_1_code 24 = .ok (.iload_n 1, 1) := by decide +kernel
theorem dIN_25 : decode prog_22_method_1_code 25 = .ok (.putfield 16, 3) := by decide +kernel
theorem dIN_28 : decode prog_22_method_1_code 28 = .ok (.aload_n 0, 1) := by decide +kernel
theorem dIN_29 : decode prog_22_method_1_code 29 = .ok (.iload_n 1, 1) := by decide +kernel
theorem dIN_30 : decode prog_22_method_1_code 30 = .ok (.iload_n 1, 1) := by decide +kernel
theorem dIN_31 : decode prog_22_method_1_code 31 = .ok (.imul, 1) := by decide +kernel
theorem dIN_32 : decode prog_22_method_1_code 32 = .ok (.newarray .double, 2) := by decide +kernel
theorem dIN_34 : decode prog_22_method_1_code 34 = .ok (.putfield 22, 3) := by decide +kernel
theorem dIN_37 : decode prog_22_method_1_code 37 = .ok (.aload_n 0, 1) := by decide +kernel
theorem dIN_38 : decode prog_22_method_1_code 38 = .ok (.iload_n 1, 1) := by decide +kernel
theorem dIN_39 : decode prog_22_method_1_code 39 = .ok (.iload_n 1, 1) := by decide +kernel
theorem dIN_40 : decode prog_22_method_1_code 40 = .ok (.imul, 1) := by decide +kernel
theorem dIN_41 : decode prog_22_method_1_code 41 = .ok (.newarray .double, 2) := by decide +kernel
theorem dIN_43 : decode prog_22_method_1_code 43 = .ok (.putfield 26, 3) := by decide +kernel
theorem dIN_46 : decode prog_22_method_1_code 46 = .ok (.aload_n 0, 1) := by decide +kernel
theorem dIN_47 : decode prog_22_method_1_code 47 = .ok (.iload_n 1, 1) := by decide +kernel
theorem dIN_48 : decode prog_22_method_1_code 48 = .ok (.iload_n 1, 1) := by decide +kernel
theorem dIN_49 : decode prog_22_method_1_code 49 = .ok (.imul, 1) := by decide +kernel
theorem dIN_50 : decode prog_22_method_1_code 50 = .ok (.newarray .double, 2) := by decide +kernel
theorem dIN_52 : decode prog_22_method_1_code 52 = .ok (.putfield 29, 3) := by decide +kernel
theorem dIN_55 : decode prog_22_method_1_code 55 = .ok (.iconst 0, 1) := by decide +kernel
theorem dIN_56 : decode prog_22_method_1_code 56 = .ok (.istore_n 2, 1) := by decide +kernel
theorem dIN_57 : decode prog_22_method_1_code 57 = .ok (.iload_n 2, 1) := by decide +kernel
theorem dIN_58 : decode prog_22_method_1_code 58 = .ok (.iload_n 1, 1) := by decide +kernel
theorem dIN_59 : decode prog_22_method_1_code 59 = .ok (.if_icmp .ge 20, 3) := by decide +kernel
theorem dIN_62 : decode prog_22_method_1_code 62 = .ok (.aload_n 0, 1) := by decide +kernel
theorem dIN_63 : decode prog_22_method_1_code 63 = .ok (.getfield 26, 3) := by decide +kernel
theorem dIN_66 : decode prog_22_method_1_code 66 = .ok (.iload_n 2, 1) := by decide +kernel
theorem dIN_67 : decode prog_22_method_1_code 67 = .ok (.iload_n 1, 1) := by decide +kernel
theorem dIN_68 : decode prog_22_method_1_code 68 = .ok (.imul, 1) := by decide +kernel
theorem dIN_69 : decode prog_22_method_1_code 69 = .ok (.iload_n 2, 1) := by decide +kernel
theorem dIN_70 : decode prog_22_method_1_code 70 = .ok (.iadd, 1) := by decide +kernel
theorem dIN_71 : decode prog_22_method_1_code 71 = .ok (.dconst 1, 1) := by decide +kernel
theorem dIN_72 : decode prog_22_method_1_code 72 = .ok (.dastore, 1) := by decide +kernel
theorem dIN_73 : decode prog_22_method_1_code 73 = .ok (.iinc 2 1, 3) := by decide +kernel
theorem dIN_76 : decode prog_22_method_1_code 76 = .ok (.goto (-19), 3) := by decide +kernel
theorem dIN_79 : decode prog_22_method_1_code 79 = .ok (.return_, 1) := by decide +kernel
theorem ef_IN (m : MethodId) (x0 : Addr) : entryFrame m #[(.ref x0), (.int (3 : Int32))] 3 = mkF m 0 #[.val (.ref x0), .val (.int (3 : Int32)), .unset] [] := by first | (simp [entryFrame, mkF, argsToLocals, Value.category]; done) | rfl
def QIN (Z : State) (th : Addr) (h0 : Heap) (n0 : Nat) (v : Option Value) (h : Heap) (L : List Loc) : Prop := v = none ∧ Fr n0 L ∧ Keep h0 h [th] ∧ Exa Z h th "com/example/lineament/lineament/math/OuterProductSum" ∧ Fld Z h th "com/example/lineament/lineament/math/OuterProductSum" "d" "I" (.int (3 : Int32)) ∧ Fld Z h th "com/example/lineament/lineament/math/OuterProductSum" "count" "I" (.int (0 : Int32)) ∧ Fld Z h th "com/example/lineament/lineament/math/OuterProductSum" "trace" "D" (.double (FP.l2d 0)) ∧ ∃ (sm bs ib : Addr) (ks kbs kib : ClassId), Fld Z h th "com/example/lineament/lineament/math/OuterProductSum" "sum" "[D" (.ref sm) ∧ Fld Z h th "com/example/lineament/lineament/math/OuterProductSum" "basis" "[D" (.ref bs) ∧ Fld Z h th "com/example/lineament/lineament/math/OuterProductSum" "inBasis" "[D" (.ref ib) ∧ Arv Z h sm ks .double (9 : Int32) [(.double (FP.l2d 0)), (.double (FP.l2d 0)), (.double (FP.l2d 0)), (.double (FP.l2d 0)), (.double (FP.l2d 0)), (.double (FP.l2d 0)), (.double (FP.l2d 0)), (.double (FP.l2d 0)), (.double (FP.l2d 0))] (.double (FP.l2d 0)) ∧ Arv Z h bs kbs .double (9 : Int32) [(.double (FP.l2d 1)), (.double (FP.l2d 0)), (.double (FP.l2d 0)), (.double (FP.l2d 0)), (.double (FP.l2d 1)), (.double (FP.l2d 0)), (.double (FP.l2d 0)), (.double (FP.l2d 0)), (.double (FP.l2d 1))] (.double (FP.l2d 0)) ∧ Arv Z h ib kib .double (9 : Int32) [(.double (FP.l2d 0)), (.double (FP.l2d 0)), (.double (FP.l2d 0)), (.double (FP.l2d 0)), (.double (FP.l2d 0)), (.double (FP.l2d 0)), (.double (FP.l2d 0)), (.double (FP.l2d 0)), (.double (FP.l2d 0))] (.double (FP.l2d 0)) ∧ h0.size ≤ sm ∧ h0.size ≤ bs ∧ h0.size ≤ ib ∧ n0 ≤ sm ∧ n0 ≤ ib ∧ sm ≠ bs ∧ bs ≠ ib ∧ sm ≠ ib
set_option maxRecDepth 65536 in
set_option maxHeartbeats 40000000 in
theorem rmIN (l : Launch) (Z : State) (a0 : Array Value) (hw : ∀ d ∈ tables_1, d.before a0 Z = true) (ws : List Jvm.Cond) (th : Addr) (h0 : Heap) (n0 : Nat) (Z0 : n0 ≤ h0.size) (E_a : Exa Z h0 th "com/example/lineament/lineament/math/OuterProductSum") (F_d : Fld Z h0 th "com/example/lineament/lineament/math/OuterProductSum" "d" "I" (.int (0 : Int32))) (F_sum : Fld Z h0 th "com/example/lineament/lineament/math/OuterProductSum" "sum" "[D" .null) (F_basis : Fld Z h0 th "com/example/lineament/lineament/math/OuterProductSum" "basis" "[D" .null) (F_inBasis : Fld Z h0 th "com/example/lineament/lineament/math/OuterProductSum" "inBasis" "[D" .null) (F_count : Fld Z h0 th "com/example/lineament/lineament/math/OuterProductSum" "count" "I" (.int (0 : Int32))) (F_trace : Fld Z h0 th "com/example/lineament/lineament/math/OuterProductSum" "trace" "D" (.double (FP.l2d 0))) (g_th : n0 ≤ th) :
    MetFree l (⟨"com/example/lineament/lineament/math/OuterProductSum", "<init>", "(I)V"⟩ : MethodName) (head1 (Jvm.Cond.code (⟨"com/example/lineament/lineament/math/OuterProductSum", "<init>", "(I)V"⟩ : MethodName) prog_22_method_1_code 3 none :: ws) ({ frames := 1, cells := 3, slots := 27, locals := 12 } : Room)) (fun a U => a = #[(.ref th), (.int (3 : Int32))] ∧ Z.Warmed39 U.vm ∧ U.heap = h0) (fun _ _ _ _ _ => True) (fun _ U o U' => ∃ v L, o = .returned v ∧ QIN Z th h0 n0 v U'.heap L ∧ FrameEnd U o U' L ({ frames := 1, cells := 3, slots := 27, locals := 12 } : Room).cells ({ frames := 1, cells := 3, slots := 27, locals := 12 } : Room).slots) := by
  refine MetFree.of_bodySF (plainFor_of_name pn_com_example_lineament_lineament_math_OuterProductSum) hisR ?_
  intro p e s m args below meth c s₁ Bd hml0 hP hK
  obtain ⟨rfl, hZ, hh⟩ := hP
  have hx := Bd.exec
  have hby := Bd.bytes
  have hml : c.maxLocals = 3 := hml0
  have hown : s.vm.findClass "com/example/lineament/lineament/math/OuterProductSum" = some m.cls := findClass_of_methodNamed Bd.named
  have hnm := (name_of_methodNamed Bd.named Bd.method).1
  have X0 : Stand p l e ({ frames := 1, cells := 3, slots := 27, locals := 12 } : Room) s m #[(.ref th), (.int (3 : Int32))] below meth c s₁ [] 0 0 := Stand.of_body Bd
  have e0 : s₁.heap = h0 := by rw [← hh, Bd.state]; rfl
  have N0 := Fr.nil n0
  have K0 := Keep.refl h0 [th]
  have pre0 : ∀ t, Steps p.tables e below (s₁.setTop (mkF m 0 #[.val (.ref th), .val (.int (3 : Int32)), .unset] [])) t → Steps p.tables e below (s₁.setTop (entryFrame m #[(.ref th), (.int (3 : Int32))] 3)) t := fun t k => castTop (ef_IN m th) k
  obtain ⟨T441, X441, e441, st441⟩ := initO X0 hx hZ hown (hw _ (List.mem_of_getElem? (i := 11) rfl)) (hw _ (List.mem_of_getElem? (i := 12) rfl)) (hw _ (List.mem_of_getElem? (i := 13) rfl)) e0 (g := (mkF m 1 #[.val (.ref th), .val (.int (3 : Int32)), .unset] [(.ref th)])) rfl (by rw [hml]; rfl) rfl (hb hby dIN_1) (by decide) (W := 0) (by show 2 * 0 + _ ≤ _; exact Nat.le_of_eq rfl) (by decide)
  obtain ⟨T442, h442, X442, e442, W442, st442⟩ := putF X441 hx hZ hown (host := "") (Or.inl (hw _ (List.mem_of_getElem? (i := 14) rfl))) Via.refl e441 F_d E_a (Or.inr ⟨(hw _ (List.mem_of_getElem? (i := 15) rfl)), rfl, hnm⟩) (hw _ (List.mem_of_getElem? (i := 6) rfl)) (ty := .int) (by decide) rfl rfl (g := (mkF m 25 #[.val (.ref th), .val (.int (3 : Int32)), .unset] [(.int (3 : Int32)), (.ref th)])) rfl rfl (hb hby dIN_25)
  have Fw442 := F_d.same W442
  have K442 : Keep h0 h442 [th] := K0.wr W442 (Or.inl (List.mem_of_getElem? (i := 0) rfl))
  have N442 := Fr.snoc X442 N0 g_th
  obtain ⟨T443, h443, k443, X443, e443, E443, A443, st443⟩ := newP X442 hx hZ (hw _ (List.mem_of_getElem? (i := 4) rfl)) e442 (g := (mkF m 32 #[.val (.ref th), .val (.int (3 : Int32)), .unset] [(.int (9 : Int32)), (.ref th)])) rfl (hb hby dIN_32) rfl (by decide) (cap := 9) (by decide) (by decide) (by decide) (by decide)
  obtain ⟨b443, g443⟩ : ∃ z, z = h442.size := ⟨_, rfl⟩
  rw [← g443] at A443 st443
  have f444 := F_count.other W442 (Or.inr (slot_ne (a0 := a0) (C := "com/example/lineament/lineament/math/OuterProductSum") (Or.inl (hw _ (List.mem_of_getElem? (i := 36) rfl))) (Or.inr (hw _ (List.mem_of_getElem? (i := 15) rfl))) (by decide) (t := .int) (t' := .int) (by decide) (by decide)))
  have lt_th_b443 : th < b443 := Nat.lt_of_lt_of_le f444.lt (Nat.le_of_eq g443.symm)
  have g_b443 : n0 ≤ b443 := Nat.le_trans (Nat.le_trans Z0 K442.1) (Nat.le_of_eq g443.symm)
  have sz_b443 : h0.size ≤ b443 := Nat.le_trans K442.1 (Nat.le_of_eq g443.symm)
  have K443 : Keep h0 h443 [th] := K442.ext E443
  have V443 : Arv Z h443 b443 k443 .double (9 : Int32) [(.double (FP.l2d 0)), (.double (FP.l2d 0)), (.double (FP.l2d 0)), (.double (FP.l2d 0)), (.double (FP.l2d 0)), (.double (FP.l2d 0)), (.double (FP.l2d 0)), (.double (FP.l2d 0)), (.double (FP.l2d 0))] (.double (FP.l2d 0)) := (Arv.newD A443 (by decide)).pad (pad_rep [] (.double (FP.l2d 0)) 9)
  have f445 := E_a.wr W442
  have f446 := f445.ext E443
  have f447 := F_sum.other W442 (Or.inr (slot_ne (a0 := a0) (C := "com/example/lineament/lineament/math/OuterProductSum") (Or.inr (hw _ (List.mem_of_getElem? (i := 17) rfl))) (Or.inr (hw _ (List.mem_of_getElem? (i := 15) rfl))) (by decide) (t := (.array .double)) (t' := .int) (by decide) (by decide)))
  have f448 := f447.ext E443
  obtain ⟨T449, h449, X449, e449, W449, st449⟩ := putF X443 hx hZ hown (host := "") (Or.inl (hw _ (List.mem_of_getElem? (i := 16) rfl))) Via.refl e443 f448 f446 (Or.inr ⟨(hw _ (List.mem_of_getElem? (i := 17) rfl)), rfl, hnm⟩) (hw _ (List.mem_of_getElem? (i := 6) rfl)) (ty := (.array .double)) (by decide) rfl rfl (g := (mkF m 34 #[.val (.ref th), .val (.int (3 : Int32)), .unset] [(.ref b443), (.ref th)])) rfl rfl (hb hby dIN_34)
  have Fw449 := f448.same W449
  have K449 : Keep h0 h449 [th] := K443.wr W449 (Or.inl (List.mem_of_getElem? (i := 0) rfl))
  have N449 := Fr.snoc X449 N442 g_th
  obtain ⟨T450, h450, k450, X450, e450, E450, A450, st450⟩ := newP X449 hx hZ (hw _ (List.mem_of_getElem? (i := 4) rfl)) e449 (g := (mkF m 41 #[.val (.ref th), .val (.int (3 : Int32)), .unset] [(.int (9 : Int32)), (.ref th)])) rfl (hb hby dIN_41) rfl (by decide) (cap := 9) (by decide) (by decide) (by decide) (by decide)
  obtain ⟨b450, g450⟩ : ∃ z, z = h449.size := ⟨_, rfl⟩
  rw [← g450] at A450 st450
  have f451 := f444.ext E443
  have f452 := f451.other W449 (Or.inr (slot_ne (a0 := a0) (C := "com/example/lineament/lineament/math/OuterProductSum") (Or.inl (hw _ (List.mem_of_getElem? (i := 36) rfl))) (Or.inr (hw _ (List.mem_of_getElem? (i := 17) rfl))) (by decide) (t := .int) (t' := (.array .double)) (by decide) (by decide)))
  have lt_th_b450 : th < b450 := Nat.lt_of_lt_of_le f452.lt (Nat.le_of_eq g450.symm)
  have f453 := V443.other W449 (Nat.ne_of_gt lt_th_b443)
  have lt_b443_b450 : b443 < b450 := Nat.lt_of_lt_of_le f453.lt (Nat.le_of_eq g450.symm)
  have g_b450 : n0 ≤ b450 := Nat.le_trans (Nat.le_trans Z0 K449.1) (Nat.le_of_eq g450.symm)
  have sz_b450 : h0.size ≤ b450 := Nat.le_trans K449.1 (Nat.le_of_eq g450.symm)
  have K450 : Keep h0 h450 [th] := K449.ext E450
  have V450 : Arv Z h450 b450 k450 .double (9 : Int32) [(.double (FP.l2d 0)), (.double (FP.l2d 0)), (.double (FP.l2d 0)), (.double (FP.l2d 0)), (.double (FP.l2d 0)), (.double (FP.l2d 0)), (.double (FP.l2d 0)), (.double (FP.l2d 0)), (.double (FP.l2d 0))] (.double (FP.l2d 0)) := (Arv.newD A450 (by decide)).pad (pad_rep [] (.double (FP.l2d 0)) 9)
  have f454 := f446.wr W449
  have f455 := f454.ext E450
  have f456 := F_basis.other W442 (Or.inr (slot_ne (a0 := a0) (C := "com/example/lineament/lineament/math/OuterProductSum") (Or.inr (hw _ (List.mem_of_getElem? (i := 19) rfl))) (Or.inr (hw _ (List.mem_of_getElem? (i := 15) rfl))) (by decide) (t := (.array .double)) (t' := .int) (by decide) (by decide)))
  have f457 := f456.ext E443
  have f458 := f457.other W449 (Or.inr (slot_ne (a0 := a0) (C := "com/example/lineament/lineament/math/OuterProductSum") (Or.inr (hw _ (List.mem_of_getElem? (i := 19) rfl))) (Or.inr (hw _ (List.mem_of_getElem? (i := 17) rfl))) (by decide) (t := (.array .double)) (t' := (.array .double)) (by decide) (by decide)))
  have f459 := f458.ext E450
  obtain ⟨T460, h460, X460, e460, W460, st460⟩ := putF X450 hx hZ hown (host := "") (Or.inl (hw _ (List.mem_of_getElem? (i := 18) rfl))) Via.refl e450 f459 f455 (Or.inr ⟨(hw _ (List.mem_of_getElem? (i := 19) rfl)), rfl, hnm⟩) (hw _ (List.mem_of_getElem? (i := 6) rfl)) (ty := (.array .double)) (by decide) rfl rfl (g := (mkF m 43 #[.val (.ref th), .val (.int (3 : Int32)), .unset] [(.ref b450), (.ref th)])) rfl rfl (hb hby dIN_43)
  have Fw460 := f459.same W460
  have K460 : Keep h0 h460 [th] := K450.wr W460 (Or.inl (List.mem_of_getElem? (i := 0) rfl))
  have N460 := Fr.snoc X460 N449 g_th
  obtain ⟨T461, h461, k461, X461, e461, E461, A461, st461⟩ := newP X460 hx hZ (hw _ (List.mem_of_getElem? (i := 4) rfl)) e460 (g := (mkF m 50 #[.val (.ref th), .val (.int (3 : Int32)), .unset] [(.int (9 : Int32)), (.ref th)])) rfl (hb hby dIN_50) rfl (by decide) (cap := 9) (by decide) (by decide) (by decide) (by decide)
  obtain ⟨b461, g461⟩ : ∃ z, z = h460.size := ⟨_, rfl⟩
  rw [← g461] at A461 st461
  have f462 := f452.ext E450
  have f463 := f462.other W460 (Or.inr (slot_ne (a0 := a0) (C := "com/example/lineament/lineament/math/OuterProductSum") (Or.inl (hw _ (List.mem_of_getElem? (i := 36) rfl))) (Or.inr (hw _ (List.mem_of_getElem? (i := 19) rfl))) (by decide) (t := .int) (t' := (.array .double)) (by decide) (by decide)))
  have lt_th_b461 : th < b461 := Nat.lt_of_lt_of_le f463.lt (Nat.le_of_eq g461.symm)
  have f464 := f453.ext E450
  have f465 := f464.other W460 (Nat.ne_of_gt lt_th_b443)
  have lt_b443_b461 : b443 < b461 := Nat.lt_of_lt_of_le f465.lt (Nat.le_of_eq g461.symm)
  have f466 := V450.other W460 (Nat.ne_of_gt lt_th_b450)
  have lt_b450_b461 : b450 < b461 := Nat.lt_of_lt_of_le f466.lt (Nat.le_of_eq g461.symm)
  have g_b461 : n0 ≤ b461 := Nat.le_trans (Nat.le_trans Z0 K460.1) (Nat.le_of_eq g461.symm)
  have sz_b461 : h0.size ≤ b461 := Nat.le_trans K460.1 (Nat.le_of_eq g461.symm)
  have K461 : Keep h0 h461 [th] := K460.ext E461
  have V461 : Arv Z h461 b461 k461 .double (9 : Int32) [(.double (FP.l2d 0)), (.double (FP.l2d 0)), (.double (FP.l2d 0)), (.double (FP.l2d 0)), (.double (FP.l2d 0)), (.double (FP.l2d 0)), (.double (FP.l2d 0)), (.double (FP.l2d 0)), (.double (FP.l2d 0))] (.double (FP.l2d 0)) := (Arv.newD A461 (by decide)).pad (pad_rep [] (.double (FP.l2d 0)) 9)
  have f467 := f455.wr W460
  have f468 := f467.ext E461
  have f469 := F_inBasis.other W442 (Or.inr (slot_ne (a0 := a0) (C := "com/example/lineament/lineament/math/OuterProductSum") (Or.inr (hw _ (List.mem_of_getElem? (i := 21) rfl))) (Or.inr (hw _ (List.mem_of_getElem? (i := 15) rfl))) (by decide) (t := (.array .double)) (t' := .int) (by decide) (by decide)))
  have f470 := f469.ext E443
  have f471 := f470.other W449 (Or.inr (slot_ne (a0 := a0) (C := "com/example/lineament/lineament/math/OuterProductSum") (Or.inr (hw _ (List.mem_of_getElem? (i := 21) rfl))) (Or.inr (hw _ (List.mem_of_getElem? (i := 17) rfl))) (by decide) (t := (.array .double)) (t' := (.array .double)) (by decide) (by decide)))
  have f472 := f471.ext E450
  have f473 := f472.other W460 (Or.inr (slot_ne (a0 := a0) (C := "com/example/lineament/lineament/math/OuterProductSum") (Or.inr (hw _ (List.mem_of_getElem? (i := 21) rfl))) (Or.inr (hw _ (List.mem_of_getElem? (i := 19) rfl))) (by decide) (t := (.array .double)) (t' := (.array .double)) (by decide) (by decide)))
  have f474 := f473.ext E461
  obtain ⟨T475, h475, X475, e475, W475, st475⟩ := putF X461 hx hZ hown (host := "") (Or.inl (hw _ (List.mem_of_getElem? (i := 20) rfl))) Via.refl e461 f474 f468 (Or.inr ⟨(hw _ (List.mem_of_getElem? (i := 21) rfl)), rfl, hnm⟩) (hw _ (List.mem_of_getElem? (i := 6) rfl)) (ty := (.array .double)) (by decide) rfl rfl (g := (mkF m 52 #[.val (.ref th), .val (.int (3 : Int32)), .unset] [(.ref b461), (.ref th)])) rfl rfl (hb hby dIN_52)
  have Fw475 := f474.same W475
  have K475 : Keep h0 h475 [th] := K461.wr W475 (Or.inl (List.mem_of_getElem? (i := 0) rfl))
  have N475 := Fr.snoc X475 N460 g_th
  have f476 := Fw460.ext E461
  have f477 := f476.other W475 (Or.inr (slot_ne (a0 := a0) (C := "com/example/lineament/lineament/math/OuterProductSum") (Or.inr (hw _ (List.mem_of_getElem? (i := 19) rfl))) (Or.inr (hw _ (List.mem_of_getElem? (i := 21) rfl))) (by decide) (t := (.array .double)) (t' := (.array .double)) (by decide) (by decide)))
  obtain ⟨T478, X478, e478, st478⟩ := getF X475 hx hZ hown (host := "") (Or.inl (hw _ (List.mem_of_getElem? (i := 18) rfl))) Via.refl e475 f477 (g := (mkF m 63 #[.val (.ref th), .val (.int (3 : Int32)), .val (.int (0 : Int32))] [(.ref th)])) rfl rfl (hb hby dIN_63)
  have f480 := f466.ext E461
  have f481 := f480.other W475 (Nat.ne_of_gt lt_th_b450)
  obtain ⟨cl479, Ar479, q479, S479, N479, H479, G479⟩ := id f481
  have hin479 : ¬ ((0 : Int32) < 0 ∨ cl479.slots.size ≤ ((0 : Int32)).toNatClampNeg) := (inb_of S479 ⟨by decide, by decide⟩)
  obtain ⟨T482, h482, X482, e482, W482, st482⟩ := stD X478 hx hZ e478 Ar479 (j := (0 : Int32)) hin479 (g := (mkF m 72 #[.val (.ref th), .val (.int (3 : Int32)), .val (.int (0 : Int32))] [(.double (FP.l2d 1)), (.int (0 : Int32)), (.ref b450)])) rfl rfl (hb hby dIN_72)
  have V482 : Arv Z h482 b450 k450 .double (9 : Int32) [(.double (FP.l2d 1)), (.double (FP.l2d 0)), (.double (FP.l2d 0)), (.double (FP.l2d 0)), (.double (FP.l2d 0)), (.double (FP.l2d 0)), (.double (FP.l2d 0)), (.double (FP.l2d 0)), (.double (FP.l2d 0))] (.double (FP.l2d 0)) := Arv.set Ar479 q479 S479 N479 H479 G479 rfl W482 0 rfl (Nat.le_of_ble_eq_true rfl)
  have K482 : Keep h0 h482 [th] := K475.wr W482 (Or.inr sz_b450)
  have N482F := Fr.snoc X482 N475 g_b450
  have f483 := f477.other W482 (Or.inl (Nat.ne_of_lt lt_th_b450))
  obtain ⟨T484, X484, e484, st484⟩ := getF X482 hx hZ hown (host := "") (Or.inl (hw _ (List.mem_of_getElem? (i := 18) rfl))) Via.refl e482 f483 (g := (mkF m 63 #[.val (.ref th), .val (.int (3 : Int32)), .val (.int (1 : Int32))] [(.ref th)])) rfl rfl (hb hby dIN_63)
  obtain ⟨cl485, Ar485, q485, S485, N485, H485, G485⟩ := id V482
  have hin485 : ¬ ((4 : Int32) < 0 ∨ cl485.slots.size ≤ ((4 : Int32)).toNatClampNeg) := (inb_of S485 ⟨by decide, by decide⟩)
  obtain ⟨T486, h486, X486, e486, W486, st486⟩ := stD X484 hx hZ e484 Ar485 (j := (4 : Int32)) hin485 (g := (mkF m 72 #[.val (.ref th), .val (.int (3 : Int32)), .val (.int (1 : Int32))] [(.double (FP.l2d 1)), (.int (4 : Int32)), (.ref b450)])) rfl rfl (hb hby dIN_72)
  have V486 : Arv Z h486 b450 k450 .double (9 : Int32) [(.double (FP.l2d 1)), (.double (FP.l2d 0)), (.double (FP.l2d 0)), (.double (FP.l2d 0)), (.double (FP.l2d 1)), (.double (FP.l2d 0)), (.double (FP.l2d 0)), (.double (FP.l2d 0)), (.double (FP.l2d 0))] (.double (FP.l2d 0)) := Arv.set Ar485 q485 S485 N485 H485 G485 rfl W486 4 rfl (Nat.le_of_ble_eq_true rfl)
  have K486 : Keep h0 h486 [th] := K482.wr W486 (Or.inr sz_b450)
  have N486F := Fr.snoc X486 N482F g_b450
  have f487 := f483.other W486 (Or.inl (Nat.ne_of_lt lt_th_b450))
  obtain ⟨T488, X488, e488, st488⟩ := getF X486 hx hZ hown (host := "") (Or.inl (hw _ (List.mem_of_getElem? (i := 18) rfl))) Via.refl e486 f487 (g := (mkF m 63 #[.val (.ref th), .val (.int (3 : Int32)), .val (.int (2 : Int32))] [(.ref th)])) rfl rfl (hb hby dIN_63)
  obtain ⟨cl489, Ar489, q489, S489, N489, H489, G489⟩ := id V486
  have hin489 : ¬ ((8 : Int32) < 0 ∨ cl489.slots.size ≤ ((8 : Int32)).toNatClampNeg) := (inb_of S489 ⟨by decide, by decide⟩)
  obtain ⟨T490, h490, X490, e490, W490, st490⟩ := stD X488 hx hZ e488 Ar489 (j := (8 : Int32)) hin489 (g := (mkF m 72 #[.val (.ref th), .val (.int (3 : Int32)), .val (.int (2 : Int32))] [(.double (FP.l2d 1)), (.int (8 : Int32)), (.ref b450)])) rfl rfl (hb hby dIN_72)
  have V490 : Arv Z h490 b450 k450 .double (9 : Int32) [(.double (FP.l2d 1)), (.double (FP.l2d 0)), (.double (FP.l2d 0)), (.double (FP.l2d 0)), (.double (FP.l2d 1)), (.double (FP.l2d 0)), (.double (FP.l2d 0)), (.double (FP.l2d 0)), (.double (FP.l2d 1))] (.double (FP.l2d 0)) := Arv.set Ar489 q489 S489 N489 H489 G489 rfl W490 8 rfl (Nat.le_of_ble_eq_true rfl)
  have K490 : Keep h0 h490 [th] := K486.wr W490 (Or.inr sz_b450)
  have N490F := Fr.snoc X490 N486F g_b450
  have f491 := f468.wr W475
  have f492 := f491.wr W482
  have f493 := f492.wr W486
  have f494 := f493.wr W490
  have f495 := Fw442.ext E443
  have f496 := f495.other W449 (Or.inr (slot_ne (a0 := a0) (C := "com/example/lineament/lineament/math/OuterProductSum") (Or.inr (hw _ (List.mem_of_getElem? (i := 15) rfl))) (Or.inr (hw _ (List.mem_of_getElem? (i := 17) rfl))) (by decide) (t := .int) (t' := (.array .double)) (by decide) (by decide)))
  have f497 := f496.ext E450
  have f498 := f497.other W460 (Or.inr (slot_ne (a0 := a0) (C := "com/example/lineament/lineament/math/OuterProductSum") (Or.inr (hw _ (List.mem_of_getElem? (i := 15) rfl))) (Or.inr (hw _ (List.mem_of_getElem? (i := 19) rfl))) (by decide) (t := .int) (t' := (.array .double)) (by decide) (by decide)))
  have f499 := f498.ext E461
  have f500 := f499.other W475 (Or.inr (slot_ne (a0 := a0) (C := "com/example/lineament/lineament/math/OuterProductSum") (Or.inr (hw _ (List.mem_of_getElem? (i := 15) rfl))) (Or.inr (hw _ (List.mem_of_getElem? (i := 21) rfl))) (by decide) (t := .int) (t' := (.array .double)) (by decide) (by decide)))
  have f501 := f500.other W482 (Or.inl (Nat.ne_of_lt lt_th_b450))
  have f502 := f501.other W486 (Or.inl (Nat.ne_of_lt lt_th_b450))
  have f503 := f502.other W490 (Or.inl (Nat.ne_of_lt lt_th_b450))
  have f504 := f463.ext E461
  have f505 := f504.other W475 (Or.inr (slot_ne (a0 := a0) (C := "com/example/lineament/lineament/math/OuterProductSum") (Or.inl (hw _ (List.mem_of_getElem? (i := 36) rfl))) (Or.inr (hw _ (List.mem_of_getElem? (i := 21) rfl))) (by decide) (t := .int) (t' := (.array .double)) (by decide) (by decide)))
  have f506 := f505.other W482 (Or.inl (Nat.ne_of_lt lt_th_b450))
  have f507 := f506.other W486 (Or.inl (Nat.ne_of_lt lt_th_b450))
  have f508 := f507.other W490 (Or.inl (Nat.ne_of_lt lt_th_b450))
  have f509 := F_trace.other W442 (Or.inr (slot_ne (a0 := a0) (C := "com/example/lineament/lineament/math/OuterProductSum") (Or.inl (hw _ (List.mem_of_getElem? (i := 38) rfl))) (Or.inr (hw _ (List.mem_of_getElem? (i := 15) rfl))) (by decide) (t := .double) (t' := .int) (by decide) (by decide)))
  have f510 := f509.ext E443
  have f511 := f510.other W449 (Or.inr (slot_ne (a0 := a0) (C := "com/example/lineament/lineament/math/OuterProductSum") (Or.inl (hw _ (List.mem_of_getElem? (i := 38) rfl))) (Or.inr (hw _ (List.mem_of_getElem? (i := 17) rfl))) (by decide) (t := .double) (t' := (.array .double)) (by decide) (by decide)))
  have f512 := f511.ext E450
  have f513 := f512.other W460 (Or.inr (slot_ne (a0 := a0) (C := "com/example/lineament/lineament/math/OuterProductSum") (Or.inl (hw _ (List.mem_of_getElem? (i := 38) rfl))) (Or.inr (hw _ (List.mem_of_getElem? (i := 19) rfl))) (by decide) (t := .double) (t' := (.array .double)) (by decide) (by decide)))
  have f514 := f513.ext E461
  have f515 := f514.other W475 (Or.inr (slot_ne (a0 := a0) (C := "com/example/lineament/lineament/math/OuterProductSum") (Or.inl (hw _ (List.mem_of_getElem? (i := 38) rfl))) (Or.inr (hw _ (List.mem_of_getElem? (i := 21) rfl))) (by decide) (t := .double) (t' := (.array .double)) (by decide) (by decide)))
  have f516 := f515.other W482 (Or.inl (Nat.ne_of_lt lt_th_b450))
  have f517 := f516.other W486 (Or.inl (Nat.ne_of_lt lt_th_b450))
  have f518 := f517.other W490 (Or.inl (Nat.ne_of_lt lt_th_b450))
  have f519 := Fw449.ext E450
  have f520 := f519.other W460 (Or.inr (slot_ne (a0 := a0) (C := "com/example/lineament/lineament/math/OuterProductSum") (Or.inr (hw _ (List.mem_of_getElem? (i := 17) rfl))) (Or.inr (hw _ (List.mem_of_getElem? (i := 19) rfl))) (by decide) (t := (.array .double)) (t' := (.array .double)) (by decide) (by decide)))
  have f521 := f520.ext E461
  have f522 := f521.other W475 (Or.inr (slot_ne (a0 := a0) (C := "com/example/lineament/lineament/math/OuterProductSum") (Or.inr (hw _ (List.mem_of_getElem? (i := 17) rfl))) (Or.inr (hw _ (List.mem_of_getElem? (i := 21) rfl))) (by decide) (t := (.array .double)) (t' := (.array .double)) (by decide) (by decide)))
  have f523 := f522.other W482 (Or.inl (Nat.ne_of_lt lt_th_b450))
  have f524 := f523.other W486 (Or.inl (Nat.ne_of_lt lt_th_b450))
  have f525 := f524.other W490 (Or.inl (Nat.ne_of_lt lt_th_b450))
  have f526 := f487.other W490 (Or.inl (Nat.ne_of_lt lt_th_b450))
  have f527 := Fw475.other W482 (Or.inl (Nat.ne_of_lt lt_th_b450))
  have f528 := f527.other W486 (Or.inl (Nat.ne_of_lt lt_th_b450))
  have f529 := f528.other W490 (Or.inl (Nat.ne_of_lt lt_th_b450))
  have f530 := f465.ext E461
  have f531 := f530.other W475 (Nat.ne_of_gt lt_th_b443)
  have f532 := f531.other W482 (Nat.ne_of_lt lt_b443_b450)
  have f533 := f532.other W486 (Nat.ne_of_lt lt_b443_b450)
  have f534 := f533.other W490 (Nat.ne_of_lt lt_b443_b450)
  have f535 := V461.other W475 (Nat.ne_of_gt lt_th_b461)
  have f536 := f535.other W482 (Nat.ne_of_gt lt_b450_b461)
  have f537 := f536.other W486 (Nat.ne_of_gt lt_b450_b461)
  have f538 := f537.other W490 (Nat.ne_of_gt lt_b450_b461)
  obtain ⟨fs, hr, hrun, hended, hW, hsame⟩ := X490.leave (v := none) (fun _ => rfl)
  refine ⟨_, _, ?_, hrun, hended, _, _, rfl, ?_, ⟨_, rfl⟩, hW, hsame.mono (by decide) (by decide)⟩
  · refine pre0 _ ?_
    show Steps _ _ _ (s₁.setTop (mkF m 0 #[.val (.ref th), .val (.int (3 : Int32)), .unset] [])) _
    refine XS.aloadN X0.here hx rfl (hb hby dIN_0) rfl rfl ?_
    show Steps _ _ _ (s₁.setTop (mkF m 1 #[.val (.ref th), .val (.int (3 : Int32)), .unset] [(.ref th)])) _
    refine st441 _ ?_
    refine XS.iloadN X441.here hx rfl (hb hby dIN_4) rfl ?_
    refine XS.iconst X441.here hx rfl (hb hby dIN_5) ?_
    refine XS.icmpYes X441.here hx rfl (pc0 := 6) (pc' := 23) rfl (hb hby dIN_6) rfl (by decide) (by decide) (by decide) ?_
    show Steps _ _ _ (T441.setTop (mkF m 23 #[.val (.ref th), .val (.int (3 : Int32)), .unset] [])) _
    refine XS.aloadN X441.here hx rfl (hb hby dIN_23) rfl rfl ?_
    refine XS.iloadN X441.here hx rfl (hb hby dIN_24) rfl ?_
    show Steps _ _ _ (T441.setTop (mkF m 25 #[.val (.ref th), .val (.int (3 : Int32)), .unset] [(.int (3 : Int32)), (.ref th)])) _
    refine st442 _ ?_
    refine XS.aloadN X442.here hx rfl (hb hby dIN_28) rfl rfl ?_
    refine XS.iloadN X442.here hx rfl (hb hby dIN_29) rfl ?_
    refine XS.iloadN X442.here hx rfl (hb hby dIN_30) rfl ?_
    show Steps _ _ _ (T442.setTop (mkF m 31 #[.val (.ref th), .val (.int (3 : Int32)), .unset] [(.int (3 : Int32)), (.int (3 : Int32)), (.ref th)])) _
    refine XS.imul X442.here hx rfl (hb hby dIN_31) rfl ?_
    show Steps _ _ _ (T442.setTop (mkF m 32 #[.val (.ref th), .val (.int (3 : Int32)), .unset] [(.int (9 : Int32)), (.ref th)])) _
    refine st443 _ ?_
    show Steps _ _ _ (T443.setTop (mkF m 34 #[.val (.ref th), .val (.int (3 : Int32)), .unset] [(.ref b443), (.ref th)])) _
    refine st449 _ ?_
    refine XS.aloadN X449.here hx rfl (hb hby dIN_37) rfl rfl ?_
    refine XS.iloadN X449.here hx rfl (hb hby dIN_38) rfl ?_
    refine XS.iloadN X449.here hx rfl (hb hby dIN_39) rfl ?_
    show Steps _ _ _ (T449.setTop (mkF m 40 #[.val (.ref th), .val (.int (3 : Int32)), .unset] [(.int (3 : Int32)), (.int (3 : Int32)), (.ref th)])) _
    refine XS.imul X449.here hx rfl (hb hby dIN_40) rfl ?_
    show Steps _ _ _ (T449.setTop (mkF m 41 #[.val (.ref th), .val (.int (3 : Int32)), .unset] [(.int (9 : Int32)), (.ref th)])) _
    refine st450 _ ?_
    show Steps _ _ _ (T450.setTop (mkF m 43 #[.val (.ref th), .val (.int (3 : Int32)), .unset] [(.ref b450), (.ref th)])) _
    refine st460 _ ?_
    refine XS.aloadN X460.here hx rfl (hb hby dIN_46) rfl rfl ?_
    refine XS.iloadN X460.here hx rfl (hb hby dIN_47) rfl ?_
    refine XS.iloadN X460.here hx rfl (hb hby dIN_48) rfl ?_
    show Steps _ _ _ (T460.setTop (mkF m 49 #[.val (.ref th), .val (.int (3 : Int32)), .unset] [(.int (3 : Int32)), (.int (3 : Int32)), (.ref th)])) _
    refine XS.imul X460.here hx rfl (hb hby dIN_49) rfl ?_
    show Steps _ _ _ (T460.setTop (mkF m 50 #[.val (.ref th), .val (.int (3 : Int32)), .unset] [(.int (9 : Int32)), (.ref th)])) _
    refine st461 _ ?_
    show Steps _ _ _ (T461.setTop (mkF m 52 #[.val (.ref th), .val (.int (3 : Int32)), .unset] [(.ref b461), (.ref th)])) _
    refine st475 _ ?_
    refine XS.iconst X475.here hx rfl (hb hby dIN_55) ?_
    refine XS.istoreN X475.here hx rfl (hb hby dIN_56) rfl (l' := #[.val (.ref th), .val (.int (3 : Int32)), .val (.int (0 : Int32))]) rfl ?_
    refine XS.iloadN X475.here hx rfl (hb hby dIN_57) rfl ?_
    show Steps _ _ _ (T475.setTop (mkF m 58 #[.val (.ref th), .val (.int (3 : Int32)), .val (.int (0 : Int32))] [(.int (0 : Int32))])) _
    refine XS.iloadN X475.here hx rfl (hb hby dIN_58) rfl ?_
    refine XS.icmpNo X475.here hx rfl (hb hby dIN_59) rfl (by decide) ?_
    refine XS.aloadN X475.here hx rfl (hb hby dIN_62) rfl rfl ?_
    show Steps _ _ _ (T475.setTop (mkF m 63 #[.val (.ref th), .val (.int (3 : Int32)), .val (.int (0 : Int32))] [(.ref th)])) _
    refine st478 _ ?_
    refine XS.iloadN X478.here hx rfl (hb hby dIN_66) rfl ?_
    refine XS.iloadN X478.here hx rfl (hb hby dIN_67) rfl ?_
    refine XS.imul X478.here hx rfl (hb hby dIN_68) rfl ?_
    show Steps _ _ _ (T478.setTop (mkF m 69 #[.val (.ref th), .val (.int (3 : Int32)), .val (.int (0 : Int32))] [(.int (0 : Int32)), (.ref b450)])) _
    refine XS.iloadN X478.here hx rfl (hb hby dIN_69) rfl ?_
    refine XS.iadd X478.here hx rfl (hb hby dIN_70) rfl ?_
    refine XS.dconst1 X478.here hx rfl (hb hby dIN_71) (v := (FP.l2d 1)) own_d1 ?_
    show Steps _ _ _ (T478.setTop (mkF m 72 #[.val (.ref th), .val (.int (3 : Int32)), .val (.int (0 : Int32))] [(.double (FP.l2d 1)), (.int (0 : Int32)), (.ref b450)])) _
    refine st482 _ ?_
    refine XS.iinc X482.here hx rfl (hb hby dIN_73) rfl (l' := #[.val (.ref th), .val (.int (3 : Int32)), .val (.int (1 : Int32))]) rfl ?_
    refine XS.goto X482.here hx rfl (pc0 := 76) (pc' := 57) rfl (hb hby dIN_76) (by decide) (by decide) ?_
    refine XS.iloadN X482.here hx rfl (hb hby dIN_57) rfl ?_
    show Steps _ _ _ (T482.setTop (mkF m 58 #[.val (.ref th), .val (.int (3 : Int32)), .val (.int (1 : Int32))] [(.int (1 : Int32))])) _
    refine XS.iloadN X482.here hx rfl (hb hby dIN_58) rfl ?_
    refine XS.icmpNo X482.here hx rfl (hb hby dIN_59) rfl (by decide) ?_
    refine XS.aloadN X482.here hx rfl (hb hby dIN_62) rfl rfl ?_
    show Steps _ _ _ (T482.setTop (mkF m 63 #[.val (.ref th), .val (.int (3 : Int32)), .val (.int (1 : Int32))] [(.ref th)])) _
    refine st484 _ ?_
    refine XS.iloadN X484.here hx rfl (hb hby dIN_66) rfl ?_
    refine XS.iloadN X484.here hx rfl (hb hby dIN_67) rfl ?_
    refine XS.imul X484.here hx rfl (hb hby dIN_68) rfl ?_
    show Steps _ _ _ (T484.setTop (mkF m 69 #[.val (.ref th), .val (.int (3 : Int32)), .val (.int (1 : Int32))] [(.int (3 : Int32)), (.ref b450)])) _
    refine XS.iloadN X484.here hx rfl (hb hby dIN_69) rfl ?_
    refine XS.iadd X484.here hx rfl (hb hby dIN_70) rfl ?_
    refine XS.dconst1 X484.here hx rfl (hb hby dIN_71) (v := (FP.l2d 1)) own_d1 ?_
    show Steps _ _ _ (T484.setTop (mkF m 72 #[.val (.ref th), .val (.int (3 : Int32)), .val (.int (1 : Int32))] [(.double (FP.l2d 1)), (.int (4 : Int32)), (.ref b450)])) _
    refine st486 _ ?_
    refine XS.iinc X486.here hx rfl (hb hby dIN_73) rfl (l' := #[.val (.ref th), .val (.int (3 : Int32)), .val (.int (2 : Int32))]) rfl ?_
    refine XS.goto X486.here hx rfl (pc0 := 76) (pc' := 57) rfl (hb hby dIN_76) (by decide) (by decide) ?_
    refine XS.iloadN X486.here hx rfl (hb hby dIN_57) rfl ?_
    show Steps _ _ _ (T486.setTop (mkF m 58 #[.val (.ref th), .val (.int (3 : Int32)), .val (.int (2 : Int32))] [(.int (2 : Int32))])) _
    refine XS.iloadN X486.here hx rfl (hb hby dIN_58) rfl ?_
    refine XS.icmpNo X486.here hx rfl (hb hby dIN_59) rfl (by decide) ?_
    refine XS.aloadN X486.here hx rfl (hb hby dIN_62) rfl rfl ?_
    show Steps _ _ _ (T486.setTop (mkF m 63 #[.val (.ref th), .val (.int (3 : Int32)), .val (.int (2 : Int32))] [(.ref th)])) _
    refine st488 _ ?_
    refine XS.iloadN X488.here hx rfl (hb hby dIN_66) rfl ?_
    refine XS.iloadN X488.here hx rfl (hb hby dIN_67) rfl ?_
    refine XS.imul X488.here hx rfl (hb hby dIN_68) rfl ?_
    show Steps _ _ _ (T488.setTop (mkF m 69 #[.val (.ref th), .val (.int (3 : Int32)), .val (.int (2 : Int32))] [(.int (6 : Int32)), (.ref b450)])) _
    refine XS.iloadN X488.here hx rfl (hb hby dIN_69) rfl ?_
    refine XS.iadd X488.here hx rfl (hb hby dIN_70) rfl ?_
    refine XS.dconst1 X488.here hx rfl (hb hby dIN_71) (v := (FP.l2d 1)) own_d1 ?_
    show Steps _ _ _ (T488.setTop (mkF m 72 #[.val (.ref th), .val (.int (3 : Int32)), .val (.int (2 : Int32))] [(.double (FP.l2d 1)), (.int (8 : Int32)), (.ref b450)])) _
    refine st490 _ ?_
    refine XS.iinc X490.here hx rfl (hb hby dIN_73) rfl (l' := #[.val (.ref th), .val (.int (3 : Int32)), .val (.int (3 : Int32))]) rfl ?_
    refine XS.goto X490.here hx rfl (pc0 := 76) (pc' := 57) rfl (hb hby dIN_76) (by decide) (by decide) ?_
    refine XS.iloadN X490.here hx rfl (hb hby dIN_57) rfl ?_
    show Steps _ _ _ (T490.setTop (mkF m 58 #[.val (.ref th), .val (.int (3 : Int32)), .val (.int (3 : Int32))] [(.int (3 : Int32))])) _
    refine XS.iloadN X490.here hx rfl (hb hby dIN_58) rfl ?_
    refine XS.icmpYes X490.here hx rfl (pc0 := 59) (pc' := 79) rfl (hb hby dIN_59) rfl (by decide) (by decide) (by decide) ?_
    show Steps _ _ _ (T490.setTop (mkF m 79 #[.val (.ref th), .val (.int (3 : Int32)), .val (.int (3 : Int32))] [])) _
    exact X490.returnOut hx Bd.returns (hb hby dIN_79) hr
  · show QIN Z th h0 n0 _ T490.heap _
    rw [e490]
    exact ⟨rfl, N490F, K490, f494, f503, f508, f518, b443, b450, b461, k443, k450, k461, f525, f526, f529, f534, V490, f538, sz_b443, sz_b450, sz_b461, g_b443, g_b461, (Nat.ne_of_lt lt_b443_b450), (Nat.ne_of_lt lt_b450_b461), (Nat.ne_of_lt lt_b443_b461)⟩
theorem pd_3 : parseMethodDescriptor "(II)I" = some ⟨[.int, .int], some .int⟩ := by decide +kernel
theorem pd_4 : parseMethodDescriptor "(I)V" = some ⟨[.int], none⟩ := by decide +kernel
theorem pd_5 : parseMethodDescriptor "([D)D" = some ⟨[(.array .double)], some .double⟩ := by decide +kernel
theorem ef_0 (m : MethodId) (x0 : Int32) (x1 : Int32) (x2 : Int32) (x3 : Int32) : entryFrame m #[(.int x0), (.int x1), (.int x2), (.int x3)] maxLocals = mkF m 0 #[.val (.int x0), .val (.int x1), .val (.int x2), .val (.int x3), .unset, .unset, .unset, .unset, .unset, .unset, .unset, .unset, .unset, .unset, .unset, .unset, .unset, .unset, .unset, .unset, .unset, .unset, .unset, .unset, .unset, .unset] [] := by first | (simp [entryFrame, mkF, argsToLocals, Value.category, maxLocals]; done) | rfl
def Q0 (Z : State) (p1 : Int32) (p2 : Int32) (p3 : Int32) (p4 : Int32) (h0 : Heap) (n0 : Nat) (v : Option Value) (h : Heap) (L : List Loc) : Prop := v = some (.int 1) ∧ Fr n0 L
set_option maxRecDepth 65536 in
set_option maxHeartbeats 40000000 in
theorem rm0 (l : Launch) (Z : State) (a0 : Array Value) (hw : ∀ d ∈ tables_1, d.before a0 Z = true) (ws : List Jvm.Cond) (p1 : Int32) (p2 : Int32) (p3 : Int32) (p4 : Int32) (h0 : Heap) (n0 : Nat) (Z0 : n0 ≤ h0.size) :
    MetFree l x (head1 (Jvm.Cond.code x code maxLocals ret :: ws) room_1) (fun a U => a = #[(.int p1), (.int p2), (.int p3), (.int p4)] ∧ Z.Warmed39 U.vm ∧ U.heap = h0) (fun _ _ _ _ _ => True) (fun _ U o U' => ∃ v L, o = .returned v ∧ Q0 Z p1 p2 p3 p4 h0 n0 v U'.heap L ∧ FrameEnd U o U' L 10 51) := by
  refine MetFree.of_bodySF (plainFor_of_name pn_com_example_lineament_lineament_math_OuterProductSumAlongPinLaw) hisR ?_
  intro p e s m args below meth c s₁ Bd hml0 hP hK
  obtain ⟨rfl, hZ, hh⟩ := hP
  have hx := Bd.exec
  have hby := Bd.bytes
  have hml : c.maxLocals = 26 := hml0
  have hown : s.vm.findClass "com/example/lineament/lineament/math/OuterProductSumAlongPinLaw" = some m.cls := findClass_of_methodNamed Bd.named
  have hnm := (name_of_methodNamed Bd.named Bd.method).1
  have X0 : Stand p l e room_1 s m #[(.int p1), (.int p2), (.int p3), (.int p4)] below meth c s₁ [] 0 0 := Stand.of_body Bd
  have e0 : s₁.heap = h0 := by rw [← hh, Bd.state]; rfl
  have N0 := Fr.nil n0
  have K0 : Keep h0 h0 [] := Keep.refl h0 []
  have pre0 : ∀ t, Steps p.tables e below (s₁.setTop (mkF m 0 #[.val (.int p1), .val (.int p2), .val (.int p3), .val (.int p4), .unset, .unset, .unset, .unset, .unset, .unset, .unset, .unset, .unset, .unset, .unset, .unset, .unset, .unset, .unset, .unset, .unset, .unset, .unset, .unset, .unset, .unset] [])) t → Steps p.tables e below (s₁.setTop (entryFrame m #[(.int p1), (.int p2), (.int p3), (.int p4)] maxLocals)) t := fun t k => castTop (ef_0 m p1 p2 p3 p4) k
  obtain ⟨nn, hnn⟩ : ∃ nn, p4 &&& (3 : Int32) = nn := ⟨_, rfl⟩
  obtain ⟨af0, haf0⟩ : ∃ z, own_f p1 (0 : Int32) = z := ⟨_, rfl⟩
  obtain ⟨av0, hav0⟩ : ∃ z, af0.toInt64 = z := ⟨_, rfl⟩
  have B_av0 : own_B 512 av0 := hav0 ▸ haf0 ▸ own_fB p1
  obtain ⟨af1, haf1⟩ : ∃ z, own_f p1 (1 : Int32) = z := ⟨_, rfl⟩
  obtain ⟨av1, hav1⟩ : ∃ z, af1.toInt64 = z := ⟨_, rfl⟩
  have B_av1 : own_B 512 av1 := hav1 ▸ haf1 ▸ own_fB p1
  obtain ⟨af2, haf2⟩ : ∃ z, own_f p1 (2 : Int32) = z := ⟨_, rfl⟩
  obtain ⟨av2, hav2⟩ : ∃ z, af2.toInt64 = z := ⟨_, rfl⟩
  have B_av2 : own_B 512 av2 := hav2 ▸ haf2 ▸ own_fB p1
  obtain ⟨bf0, hbf0⟩ : ∃ z, own_f p2 (0 : Int32) = z := ⟨_, rfl⟩
  obtain ⟨bv0, hbv0⟩ : ∃ z, bf0.toInt64 = z := ⟨_, rfl⟩
  have B_bv0 : own_B 512 bv0 := hbv0 ▸ hbf0 ▸ own_fB p2
  obtain ⟨bf1, hbf1⟩ : ∃ z, own_f p2 (1 : Int32) = z := ⟨_, rfl⟩
  obtain ⟨bv1, hbv1⟩ : ∃ z, bf1.toInt64 = z := ⟨_, rfl⟩
  have B_bv1 : own_B 512 bv1 := hbv1 ▸ hbf1 ▸ own_fB p2
  obtain ⟨bf2, hbf2⟩ : ∃ z, own_f p2 (2 : Int32) = z := ⟨_, rfl⟩
  obtain ⟨bv2, hbv2⟩ : ∃ z, bf2.toInt64 = z := ⟨_, rfl⟩
  have B_bv2 : own_B 512 bv2 := hbv2 ▸ hbf2 ▸ own_fB p2
  obtain ⟨cf0, hcf0⟩ : ∃ z, own_f p3 (0 : Int32) = z := ⟨_, rfl⟩
  obtain ⟨cv0, hcv0⟩ : ∃ z, cf0.toInt64 = z := ⟨_, rfl⟩
  have B_cv0 : own_B 512 cv0 := hcv0 ▸ hcf0 ▸ own_fB p3
  obtain ⟨cf1, hcf1⟩ : ∃ z, own_f p3 (1 : Int32) = z := ⟨_, rfl⟩
  obtain ⟨cv1, hcv1⟩ : ∃ z, cf1.toInt64 = z := ⟨_, rfl⟩
  have B_cv1 : own_B 512 cv1 := hcv1 ▸ hcf1 ▸ own_fB p3
  obtain ⟨cf2, hcf2⟩ : ∃ z, own_f p3 (2 : Int32) = z := ⟨_, rfl⟩
  obtain ⟨cv2, hcv2⟩ : ∃ z, cf2.toInt64 = z := ⟨_, rfl⟩
  have B_cv2 : own_B 512 cv2 := hcv2 ▸ hcf2 ▸ own_fB p3
  obtain ⟨_, _, ⟨T539, L539, k539, n539⟩, -, X539, ⟨Lc539, hQ539, l539, y539, z539⟩, st539⟩ := Jvm.LawKit.callS X0 hx (y := (⟨"com/example/lineament/lineament/math/OuterProductSumAlongPinLaw", "f", "(II)I"⟩ : MethodName)) hown (mvT hZ (hw _ (List.mem_of_getElem? (i := 0) rfl))) (mvT hZ (hw _ (List.mem_of_getElem? (i := 1) rfl))) (mvT hZ (hw _ (List.mem_of_getElem? (i := 2) rfl))) (mvT hZ (hw _ (List.mem_of_getElem? (i := 3) rfl))) (by decide) (backOf (W := 0) (rmF l Z a0 hw [] p1 (0 : Int32) h0 n0 (Nat.le_trans Z0 K0.1) ) hZ (hw _ (List.mem_of_getElem? (i := 3) rfl)) (hw _ (List.mem_of_getElem? (i := 2) rfl)) (by decide) (by decide)) (g := (mkF m 7 #[.val (.int p1), .val (.int p2), .val (.int p3), .val (.int p4), .val (.int nn), .unset, .unset, .unset, .unset, .unset, .unset, .unset, .unset, .unset, .unset, .unset, .unset, .unset, .unset, .unset, .unset, .unset, .unset, .unset, .unset, .unset] [(.int (0 : Int32)), (.int p1)])) rfl (by rw [hml]; rfl) (argsL := [(.int p1), (.int (0 : Int32))]) (rest := []) (lenOf pd_3 rfl) rfl (by show 2 * 0 + _ ≤ _; exact Nat.le_of_eq rfl) (hb hby at_7) (fun _ _ => ⟨rfl, e0, (by decide : 0 + 0 ≤ _), (by decide : 0 + 0 ≤ _)⟩)
  dsimp only [Pt.U, Pt.locs, Pt.cells, Pt.slots] at X539 l539 y539 z539 st539 hQ539
  rw [l539, y539, z539] at X539
  obtain ⟨hv539, Nq539, eq539⟩ := hQ539
  rw [hv539] at st539
  have N539 := Fr.app N0 Nq539
  rw [haf0] at st539
  obtain ⟨_, _, ⟨T540, L540, k540, n540⟩, -, X540, ⟨Lc540, hQ540, l540, y540, z540⟩, st540⟩ := Jvm.LawKit.callS X539 hx (y := (⟨"com/example/lineament/lineament/math/OuterProductSumAlongPinLaw", "f", "(II)I"⟩ : MethodName)) hown (mvT hZ (hw _ (List.mem_of_getElem? (i := 0) rfl))) (mvT hZ (hw _ (List.mem_of_getElem? (i := 1) rfl))) (mvT hZ (hw _ (List.mem_of_getElem? (i := 2) rfl))) (mvT hZ (hw _ (List.mem_of_getElem? (i := 3) rfl))) (by decide) (backOf (W := 0) (rmF l Z a0 hw [] p1 (1 : Int32) h0 n0 (Nat.le_trans Z0 K0.1) ) hZ (hw _ (List.mem_of_getElem? (i := 3) rfl)) (hw _ (List.mem_of_getElem? (i := 2) rfl)) (by decide) (by decide)) (g := (mkF m 14 #[.val (.int p1), .val (.int p2), .val (.int p3), .val (.int p4), .val (.int nn), .val (.int af0), .unset, .unset, .unset, .unset, .unset, .unset, .unset, .unset, .unset, .unset, .unset, .unset, .unset, .unset, .unset, .unset, .unset, .unset, .unset, .unset] [(.int (1 : Int32)), (.int p1)])) rfl (by rw [hml]; rfl) (argsL := [(.int p1), (.int (1 : Int32))]) (rest := []) (lenOf pd_3 rfl) rfl (by show 2 * 0 + _ ≤ _; exact Nat.le_of_eq rfl) (hb hby at_14) (fun _ _ => ⟨rfl, eq539, (by decide : 0 + 0 ≤ _), (by decide : 0 + 0 ≤ _)⟩)
  dsimp only [Pt.U, Pt.locs, Pt.cells, Pt.slots] at X540 l540 y540 z540 st540 hQ540
  rw [l540, y540, z540] at X540
  obtain ⟨hv540, Nq540, eq540⟩ := hQ540
  rw [hv540] at st540
  have N540 := Fr.app N539 Nq540
  rw [haf1] at st540
  obtain ⟨_, _, ⟨T541, L541, k541, n541⟩, -, X541, ⟨Lc541, hQ541, l541, y541, z541⟩, st541⟩ := Jvm.LawKit.callS X540 hx (y := (⟨"com/example/lineament/lineament/math/OuterProductSumAlongPinLaw", "f", "(II)I"⟩ : MethodName)) hown (mvT hZ (hw _ (List.mem_of_getElem? (i := 0) rfl))) (mvT hZ (hw _ (List.mem_of_getElem? (i := 1) rfl))) (mvT hZ (hw _ (List.mem_of_getElem? (i := 2) rfl))) (mvT hZ (hw _ (List.mem_of_getElem? (i := 3) rfl))) (by decide) (backOf (W := 0) (rmF l Z a0 hw [] p1 (2 : Int32) h0 n0 (Nat.le_trans Z0 K0.1) ) hZ (hw _ (List.mem_of_getElem? (i := 3) rfl)) (hw _ (List.mem_of_getElem? (i := 2) rfl)) (by decide) (by decide)) (g := (mkF m 21 #[.val (.int p1), .val (.int p2), .val (.int p3), .val (.int p4), .val (.int nn), .val (.int af0), .val (.int af1), .unset, .unset, .unset, .unset, .unset, .unset, .unset, .unset, .unset, .unset, .unset, .unset, .unset, .unset, .unset, .unset, .unset, .unset, .unset] [(.int (2 : Int32)), (.int p1)])) rfl (by rw [hml]; rfl) (argsL := [(.int p1), (.int (2 : Int32))]) (rest := []) (lenOf pd_3 rfl) rfl (by show 2 * 0 + _ ≤ _; exact Nat.le_of_eq rfl) (hb hby at_21) (fun _ _ => ⟨rfl, eq540, (by decide : 0 + 0 ≤ _), (by decide : 0 + 0 ≤ _)⟩)
  dsimp only [Pt.U, Pt.locs, Pt.cells, Pt.slots] at X541 l541 y541 z541 st541 hQ541
  rw [l541, y541, z541] at X541
  obtain ⟨hv541, Nq541, eq541⟩ := hQ541
  rw [hv541] at st541
  have N541 := Fr.app N540 Nq541
  rw [haf2] at st541
  obtain ⟨_, _, ⟨T542, L542, k542, n542⟩, -, X542, ⟨Lc542, hQ542, l542, y542, z542⟩, st542⟩ := Jvm.LawKit.callS X541 hx (y := (⟨"com/example/lineament/lineament/math/OuterProductSumAlongPinLaw", "f", "(II)I"⟩ : MethodName)) hown (mvT hZ (hw _ (List.mem_of_getElem? (i := 0) rfl))) (mvT hZ (hw _ (List.mem_of_getElem? (i := 1) rfl))) (mvT hZ (hw _ (List.mem_of_getElem? (i := 2) rfl))) (mvT hZ (hw _ (List.mem_of_getElem? (i := 3) rfl))) (by decide) (backOf (W := 0) (rmF l Z a0 hw [] p2 (0 : Int32) h0 n0 (Nat.le_trans Z0 K0.1) ) hZ (hw _ (List.mem_of_getElem? (i := 3) rfl)) (hw _ (List.mem_of_getElem? (i := 2) rfl)) (by decide) (by decide)) (g := (mkF m 28 #[.val (.int p1), .val (.int p2), .val (.int p3), .val (.int p4), .val (.int nn), .val (.int af0), .val (.int af1), .val (.int af2), .unset, .unset, .unset, .unset, .unset, .unset, .unset, .unset, .unset, .unset, .unset, .unset, .unset, .unset, .unset, .unset, .unset, .unset] [(.int (0 : Int32)), (.int p2)])) rfl (by rw [hml]; rfl) (argsL := [(.int p2), (.int (0 : Int32))]) (rest := []) (lenOf pd_3 rfl) rfl (by show 2 * 0 + _ ≤ _; exact Nat.le_of_eq rfl) (hb hby at_28) (fun _ _ => ⟨rfl, eq541, (by decide : 0 + 0 ≤ _), (by decide : 0 + 0 ≤ _)⟩)
  dsimp only [Pt.U, Pt.locs, Pt.cells, Pt.slots] at X542 l542 y542 z542 st542 hQ542
  rw [l542, y542, z542] at X542
  obtain ⟨hv542, Nq542, eq542⟩ := hQ542
  rw [hv542] at st542
  have N542 := Fr.app N541 Nq542
  rw [hbf0] at st542
  obtain ⟨_, _, ⟨T543, L543, k543, n543⟩, -, X543, ⟨Lc543, hQ543, l543, y543, z543⟩, st543⟩ := Jvm.LawKit.callS X542 hx (y := (⟨"com/example/lineament/lineament/math/OuterProductSumAlongPinLaw", "f", "(II)I"⟩ : MethodName)) hown (mvT hZ (hw _ (List.mem_of_getElem? (i := 0) rfl))) (mvT hZ (hw _ (List.mem_of_getElem? (i := 1) rfl))) (mvT hZ (hw _ (List.mem_of_getElem? (i := 2) rfl))) (mvT hZ (hw _ (List.mem_of_getElem? (i := 3) rfl))) (by decide) (backOf (W := 0) (rmF l Z a0 hw [] p2 (1 : Int32) h0 n0 (Nat.le_trans Z0 K0.1) ) hZ (hw _ (List.mem_of_getElem? (i := 3) rfl)) (hw _ (List.mem_of_getElem? (i := 2) rfl)) (by decide) (by decide)) (g := (mkF m 35 #[.val (.int p1), .val (.int p2), .val (.int p3), .val (.int p4), .val (.int nn), .val (.int af0), .val (.int af1), .val (.int af2), .val (.int bf0), .unset, .unset, .unset, .unset, .unset, .unset, .unset, .unset, .unset, .unset, .unset, .unset, .unset, .unset, .unset, .unset, .unset] [(.int (1 : Int32)), (.int p2)])) rfl (by rw [hml]; rfl) (argsL := [(.int p2), (.int (1 : Int32))]) (rest := []) (lenOf pd_3 rfl) rfl (by show 2 * 0 + _ ≤ _; exact Nat.le_of_eq rfl) (hb hby at_35) (fun _ _ => ⟨rfl, eq542, (by decide : 0 + 0 ≤ _), (by decide : 0 + 0 ≤ _)⟩)
  dsimp only [Pt.U, Pt.locs, Pt.cells, Pt.slots] at X543 l543 y543 z543 st543 hQ543
  rw [l543, y543, z543] at X543
  obtain ⟨hv543, Nq543, eq543⟩ := hQ543
  rw [hv543] at st543
  have N543 := Fr.app N542 Nq543
  rw [hbf1] at st543
  obtain ⟨_, _, ⟨T544, L544, k544, n544⟩, -, X544, ⟨Lc544, hQ544, l544, y544, z544⟩, st544⟩ := Jvm.LawKit.callS X543 hx (y := (⟨"com/example/lineament/lineament/math/OuterProductSumAlongPinLaw", "f", "(II)I"⟩ : MethodName)) hown (mvT hZ (hw _ (List.mem_of_getElem? (i := 0) rfl))) (mvT hZ (hw _ (List.mem_of_getElem? (i := 1) rfl))) (mvT hZ (hw _ (List.mem_of_getElem? (i := 2) rfl))) (mvT hZ (hw _ (List.mem_of_getElem? (i := 3) rfl))) (by decide) (backOf (W := 0) (rmF l Z a0 hw [] p2 (2 : Int32) h0 n0 (Nat.le_trans Z0 K0.1) ) hZ (hw _ (List.mem_of_getElem? (i := 3) rfl)) (hw _ (List.mem_of_getElem? (i := 2) rfl)) (by decide) (by decide)) (g := (mkF m 42 #[.val (.int p1), .val (.int p2), .val (.int p3), .val (.int p4), .val (.int nn), .val (.int af0), .val (.int af1), .val (.int af2), .val (.int bf0), .val (.int bf1), .unset, .unset, .unset, .unset, .unset, .unset, .unset, .unset, .unset, .unset, .unset, .unset, .unset, .unset, .unset, .unset] [(.int (2 : Int32)), (.int p2)])) rfl (by rw [hml]; rfl) (argsL := [(.int p2), (.int (2 : Int32))]) (rest := []) (lenOf pd_3 rfl) rfl (by show 2 * 0 + _ ≤ _; exact Nat.le_of_eq rfl) (hb hby at_42) (fun _ _ => ⟨rfl, eq543, (by decide : 0 + 0 ≤ _), (by decide : 0 + 0 ≤ _)⟩)
  dsimp only [Pt.U, Pt.locs, Pt.cells, Pt.slots] at X544 l544 y544 z544 st544 hQ544
  rw [l544, y544, z544] at X544
  obtain ⟨hv544, Nq544, eq544⟩ := hQ544
  rw [hv544] at st544
  have N544 := Fr.app N543 Nq544
  rw [hbf2] at st544
  obtain ⟨_, _, ⟨T545, L545, k545, n545⟩, -, X545, ⟨Lc545, hQ545, l545, y545, z545⟩, st545⟩ := Jvm.LawKit.callS X544 hx (y := (⟨"com/example/lineament/lineament/math/OuterProductSumAlongPinLaw", "f", "(II)I"⟩ : MethodName)) hown (mvT hZ (hw _ (List.mem_of_getElem? (i := 0) rfl))) (mvT hZ (hw _ (List.mem_of_getElem? (i := 1) rfl))) (mvT hZ (hw _ (List.mem_of_getElem? (i := 2) rfl))) (mvT hZ (hw _ (List.mem_of_getElem? (i := 3) rfl))) (by decide) (backOf (W := 0) (rmF l Z a0 hw [] p3 (0 : Int32) h0 n0 (Nat.le_trans Z0 K0.1) ) hZ (hw _ (List.mem_of_getElem? (i := 3) rfl)) (hw _ (List.mem_of_getElem? (i := 2) rfl)) (by decide) (by decide)) (g := (mkF m 49 #[.val (.int p1), .val (.int p2), .val (.int p3), .val (.int p4), .val (.int nn), .val (.int af0), .val (.int af1), .val (.int af2), .val (.int bf0), .val (.int bf1), .val (.int bf2), .unset, .unset, .unset, .unset, .unset, .unset, .unset, .unset, .unset, .unset, .unset, .unset, .unset, .unset, .unset] [(.int (0 : Int32)), (.int p3)])) rfl (by rw [hml]; rfl) (argsL := [(.int p3), (.int (0 : Int32))]) (rest := []) (lenOf pd_3 rfl) rfl (by show 2 * 0 + _ ≤ _; exact Nat.le_of_eq rfl) (hb hby at_49) (fun _ _ => ⟨rfl, eq544, (by decide : 0 + 0 ≤ _), (by decide : 0 + 0 ≤ _)⟩)
  dsimp only [Pt.U, Pt.locs, Pt.cells, Pt.slots] at X545 l545 y545 z545 st545 hQ545
  rw [l545, y545, z545] at X545
  obtain ⟨hv545, Nq545, eq545⟩ := hQ545
  rw [hv545] at st545
  have N545 := Fr.app N544 Nq545
  rw [hcf0] at st545
  obtain ⟨_, _, ⟨T546, L546, k546, n546⟩, -, X546, ⟨Lc546, hQ546, l546, y546, z546⟩, st546⟩ := Jvm.LawKit.callS X545 hx (y := (⟨"com/example/lineament/lineament/math/OuterProductSumAlongPinLaw", "f", "(II)I"⟩ : MethodName)) hown (mvT hZ (hw _ (List.mem_of_getElem? (i := 0) rfl))) (mvT hZ (hw _ (List.mem_of_getElem? (i := 1) rfl))) (mvT hZ (hw _ (List.mem_of_getElem? (i := 2) rfl))) (mvT hZ (hw _ (List.mem_of_getElem? (i := 3) rfl))) (by decide) (backOf (W := 0) (rmF l Z a0 hw [] p3 (1 : Int32) h0 n0 (Nat.le_trans Z0 K0.1) ) hZ (hw _ (List.mem_of_getElem? (i := 3) rfl)) (hw _ (List.mem_of_getElem? (i := 2) rfl)) (by decide) (by decide)) (g := (mkF m 56 #[.val (.int p1), .val (.int p2), .val (.int p3), .val (.int p4), .val (.int nn), .val (.int af0), .val (.int af1), .val (.int af2), .val (.int bf0), .val (.int bf1), .val (.int bf2), .val (.int cf0), .unset, .unset, .unset, .unset, .unset, .unset, .unset, .unset, .unset, .unset, .unset, .unset, .unset, .unset] [(.int (1 : Int32)), (.int p3)])) rfl (by rw [hml]; rfl) (argsL := [(.int p3), (.int (1 : Int32))]) (rest := []) (lenOf pd_3 rfl) rfl (by show 2 * 0 + _ ≤ _; exact Nat.le_of_eq rfl) (hb hby at_56) (fun _ _ => ⟨rfl, eq545, (by decide : 0 + 0 ≤ _), (by decide : 0 + 0 ≤ _)⟩)
  dsimp only [Pt.U, Pt.locs, Pt.cells, Pt.slots] at X546 l546 y546 z546 st546 hQ546
  rw [l546, y546, z546] at X546
  obtain ⟨hv546, Nq546, eq546⟩ := hQ546
  rw [hv546] at st546
  have N546 := Fr.app N545 Nq546
  rw [hcf1] at st546
  obtain ⟨_, _, ⟨T547, L547, k547, n547⟩, -, X547, ⟨Lc547, hQ547, l547, y547, z547⟩, st547⟩ := Jvm.LawKit.callS X546 hx (y := (⟨"com/example/lineament/lineament/math/OuterProductSumAlongPinLaw", "f", "(II)I"⟩ : MethodName)) hown (mvT hZ (hw _ (List.mem_of_getElem? (i := 0) rfl))) (mvT hZ (hw _ (List.mem_of_getElem? (i := 1) rfl))) (mvT hZ (hw _ (List.mem_of_getElem? (i := 2) rfl))) (mvT hZ (hw _ (List.mem_of_getElem? (i := 3) rfl))) (by decide) (backOf (W := 0) (rmF l Z a0 hw [] p3 (2 : Int32) h0 n0 (Nat.le_trans Z0 K0.1) ) hZ (hw _ (List.mem_of_getElem? (i := 3) rfl)) (hw _ (List.mem_of_getElem? (i := 2) rfl)) (by decide) (by decide)) (g := (mkF m 63 #[.val (.int p1), .val (.int p2), .val (.int p3), .val (.int p4), .val (.int nn), .val (.int af0), .val (.int af1), .val (.int af2), .val (.int bf0), .val (.int bf1), .val (.int bf2), .val (.int cf0), .val (.int cf1), .unset, .unset, .unset, .unset, .unset, .unset, .unset, .unset, .unset, .unset, .unset, .unset, .unset] [(.int (2 : Int32)), (.int p3)])) rfl (by rw [hml]; rfl) (argsL := [(.int p3), (.int (2 : Int32))]) (rest := []) (lenOf pd_3 rfl) rfl (by show 2 * 0 + _ ≤ _; exact Nat.le_of_eq rfl) (hb hby at_63) (fun _ _ => ⟨rfl, eq546, (by decide : 0 + 0 ≤ _), (by decide : 0 + 0 ≤ _)⟩)
  dsimp only [Pt.U, Pt.locs, Pt.cells, Pt.slots] at X547 l547 y547 z547 st547 hQ547
  rw [l547, y547, z547] at X547
  obtain ⟨hv547, Nq547, eq547⟩ := hQ547
  rw [hv547] at st547
  have N547 := Fr.app N546 Nq547
  rw [hcf2] at st547
  obtain ⟨T548, h548, k548, X548, e548, E548, A548, st548⟩ := newP X547 hx hZ (hw _ (List.mem_of_getElem? (i := 4) rfl)) eq547 (g := (mkF m 69 #[.val (.int p1), .val (.int p2), .val (.int p3), .val (.int p4), .val (.int nn), .val (.int af0), .val (.int af1), .val (.int af2), .val (.int bf0), .val (.int bf1), .val (.int bf2), .val (.int cf0), .val (.int cf1), .val (.int cf2), .unset, .unset, .unset, .unset, .unset, .unset, .unset, .unset, .unset, .unset, .unset, .unset] [(.int (3 : Int32))])) rfl (hb hby at_69) rfl (by decide) (cap := 3) (by decide) (by decide) (by decide) (by decide)
  obtain ⟨b548, g548⟩ : ∃ z, z = h0.size := ⟨_, rfl⟩
  rw [← g548] at A548 st548
  have g_b548 : n0 ≤ b548 := Nat.le_trans (Nat.le_trans Z0 K0.1) (Nat.le_of_eq g548.symm)
  have sz_b548 : h0.size ≤ b548 := Nat.le_trans K0.1 (Nat.le_of_eq g548.symm)
  have K548 : Keep h0 h548 [] := K0.ext E548
  have V548 : Arv Z h548 b548 k548 .double (3 : Int32) [(.double (FP.l2d 0)), (.double (FP.l2d 0)), (.double (FP.l2d 0))] (.double (FP.l2d 0)) := (Arv.newD A548 (by decide)).pad (pad_rep [] (.double (FP.l2d 0)) 3)
  obtain ⟨cl549, Ar549, q549, S549, N549, H549, G549⟩ := id V548
  have hin549 : ¬ ((0 : Int32) < 0 ∨ cl549.slots.size ≤ ((0 : Int32)).toNatClampNeg) := (inb_of S549 ⟨by decide, by decide⟩)
  obtain ⟨T550, h550, X550, e550, W550, st550⟩ := stD X548 hx hZ e548 Ar549 (j := (0 : Int32)) hin549 (g := (mkF m 76 #[.val (.int p1), .val (.int p2), .val (.int p3), .val (.int p4), .val (.int nn), .val (.int af0), .val (.int af1), .val (.int af2), .val (.int bf0), .val (.int bf1), .val (.int bf2), .val (.int cf0), .val (.int cf1), .val (.int cf2), .unset, .unset, .unset, .unset, .unset, .unset, .unset, .unset, .unset, .unset, .unset, .unset] [(.double (FP.l2d av0)), (.int (0 : Int32)), (.ref b548), (.ref b548)])) rfl rfl (hb hby at_76)
  have V550 : Arv Z h550 b548 k548 .double (3 : Int32) [(.double (FP.l2d av0)), (.double (FP.l2d 0)), (.double (FP.l2d 0))] (.double (FP.l2d 0)) := Arv.set Ar549 q549 S549 N549 H549 G549 rfl W550 0 rfl (Nat.le_of_ble_eq_true rfl)
  have K550 : Keep h0 h550 [] := K548.wr W550 (Or.inr sz_b548)
  have N550F := Fr.snoc X550 N547 g_b548
  obtain ⟨cl551, Ar551, q551, S551, N551, H551, G551⟩ := id V550
  have hin551 : ¬ ((1 : Int32) < 0 ∨ cl551.slots.size ≤ ((1 : Int32)).toNatClampNeg) := (inb_of S551 ⟨by decide, by decide⟩)
  obtain ⟨T552, h552, X552, e552, W552, st552⟩ := stD X550 hx hZ e550 Ar551 (j := (1 : Int32)) hin551 (g := (mkF m 82 #[.val (.int p1), .val (.int p2), .val (.int p3), .val (.int p4), .val (.int nn), .val (.int af0), .val (.int af1), .val (.int af2), .val (.int bf0), .val (.int bf1), .val (.int bf2), .val (.int cf0), .val (.int cf1), .val (.int cf2), .unset, .unset, .unset, .unset, .unset, .unset, .unset, .unset, .unset, .unset, .unset, .unset] [(.double (FP.l2d av1)), (.int (1 : Int32)), (.ref b548), (.ref b548)])) rfl rfl (hb hby at_82)
  have V552 : Arv Z h552 b548 k548 .double (3 : Int32) [(.double (FP.l2d av0)), (.double (FP.l2d av1)), (.double (FP.l2d 0))] (.double (FP.l2d 0)) := Arv.set Ar551 q551 S551 N551 H551 G551 rfl W552 1 rfl (Nat.le_of_ble_eq_true rfl)
  have K552 : Keep h0 h552 [] := K550.wr W552 (Or.inr sz_b548)
  have N552F := Fr.snoc X552 N550F g_b548
  obtain ⟨cl553, Ar553, q553, S553, N553, H553, G553⟩ := id V552
  have hin553 : ¬ ((2 : Int32) < 0 ∨ cl553.slots.size ≤ ((2 : Int32)).toNatClampNeg) := (inb_of S553 ⟨by decide, by decide⟩)
  obtain ⟨T554, h554, X554, e554, W554, st554⟩ := stD X552 hx hZ e552 Ar553 (j := (2 : Int32)) hin553 (g := (mkF m 88 #[.val (.int p1), .val (.int p2), .val (.int p3), .val (.int p4), .val (.int nn), .val (.int af0), .val (.int af1), .val (.int af2), .val (.int bf0), .val (.int bf1), .val (.int bf2), .val (.int cf0), .val (.int cf1), .val (.int cf2), .unset, .unset, .unset, .unset, .unset, .unset, .unset, .unset, .unset, .unset, .unset, .unset] [(.double (FP.l2d av2)), (.int (2 : Int32)), (.ref b548), (.ref b548)])) rfl rfl (hb hby at_88)
  have V554 : Arv Z h554 b548 k548 .double (3 : Int32) [(.double (FP.l2d av0)), (.double (FP.l2d av1)), (.double (FP.l2d av2))] (.double (FP.l2d 0)) := Arv.set Ar553 q553 S553 N553 H553 G553 rfl W554 2 rfl (Nat.le_of_ble_eq_true rfl)
  have K554 : Keep h0 h554 [] := K552.wr W554 (Or.inr sz_b548)
  have N554F := Fr.snoc X554 N552F g_b548
  obtain ⟨T555, h555, k555, X555, e555, E555, A555, st555⟩ := newP X554 hx hZ (hw _ (List.mem_of_getElem? (i := 4) rfl)) e554 (g := (mkF m 92 #[.val (.int p1), .val (.int p2), .val (.int p3), .val (.int p4), .val (.int nn), .val (.int af0), .val (.int af1), .val (.int af2), .val (.int bf0), .val (.int bf1), .val (.int bf2), .val (.int cf0), .val (.int cf1), .val (.int cf2), .val (.ref b548), .unset, .unset, .unset, .unset, .unset, .unset, .unset, .unset, .unset, .unset, .unset] [(.int (3 : Int32))])) rfl (hb hby at_92) rfl (by decide) (cap := 3) (by decide) (by decide) (by decide) (by decide)
  obtain ⟨b555, g555⟩ : ∃ z, z = h554.size := ⟨_, rfl⟩
  rw [← g555] at A555 st555
  have lt_b548_b555 : b548 < b555 := Nat.lt_of_lt_of_le V554.lt (Nat.le_of_eq g555.symm)
  have g_b555 : n0 ≤ b555 := Nat.le_trans (Nat.le_trans Z0 K554.1) (Nat.le_of_eq g555.symm)
  have sz_b555 : h0.size ≤ b555 := Nat.le_trans K554.1 (Nat.le_of_eq g555.symm)
  have K555 : Keep h0 h555 [] := K554.ext E555
  have V555 : Arv Z h555 b555 k555 .double (3 : Int32) [(.double (FP.l2d 0)), (.double (FP.l2d 0)), (.double (FP.l2d 0))] (.double (FP.l2d 0)) := (Arv.newD A555 (by decide)).pad (pad_rep [] (.double (FP.l2d 0)) 3)
  obtain ⟨cl556, Ar556, q556, S556, N556, H556, G556⟩ := id V555
  have hin556 : ¬ ((0 : Int32) < 0 ∨ cl556.slots.size ≤ ((0 : Int32)).toNatClampNeg) := (inb_of S556 ⟨by decide, by decide⟩)
  obtain ⟨T557, h557, X557, e557, W557, st557⟩ := stD X555 hx hZ e555 Ar556 (j := (0 : Int32)) hin556 (g := (mkF m 99 #[.val (.int p1), .val (.int p2), .val (.int p3), .val (.int p4), .val (.int nn), .val (.int af0), .val (.int af1), .val (.int af2), .val (.int bf0), .val (.int bf1), .val (.int bf2), .val (.int cf0), .val (.int cf1), .val (.int cf2), .val (.ref b548), .unset, .unset, .unset, .unset, .unset, .unset, .unset, .unset, .unset, .unset, .unset] [(.double (FP.l2d bv0)), (.int (0 : Int32)), (.ref b555), (.ref b555)])) rfl rfl (hb hby at_99)
  have V557 : Arv Z h557 b555 k555 .double (3 : Int32) [(.double (FP.l2d bv0)), (.double (FP.l2d 0)), (.double (FP.l2d 0))] (.double (FP.l2d 0)) := Arv.set Ar556 q556 S556 N556 H556 G556 rfl W557 0 rfl (Nat.le_of_ble_eq_true rfl)
  have K557 : Keep h0 h557 [] := K555.wr W557 (Or.inr sz_b555)
  have N557F := Fr.snoc X557 N554F g_b555
  obtain ⟨cl558, Ar558, q558, S558, N558, H558, G558⟩ := id V557
  have hin558 : ¬ ((1 : Int32) < 0 ∨ cl558.slots.size ≤ ((1 : Int32)).toNatClampNeg) := (inb_of S558 ⟨by decide, by decide⟩)
  obtain ⟨T559, h559, X559, e559, W559, st559⟩ := stD X557 hx hZ e557 Ar558 (j := (1 : Int32)) hin558 (g := (mkF m 105 #[.val (.int p1), .val (.int p2), .val (.int p3), .val (.int p4), .val (.int nn), .val (.int af0), .val (.int af1), .val (.int af2), .val (.int bf0), .val (.int bf1), .val (.int bf2), .val (.int cf0), .val (.int cf1), .val (.int cf2), .val (.ref b548), .unset, .unset, .unset, .unset, .unset, .unset, .unset, .unset, .unset, .unset, .unset] [(.double (FP.l2d bv1)), (.int (1 : Int32)), (.ref b555), (.ref b555)])) rfl rfl (hb hby at_105)
  have V559 : Arv Z h559 b555 k555 .double (3 : Int32) [(.double (FP.l2d bv0)), (.double (FP.l2d bv1)), (.double (FP.l2d 0))] (.double (FP.l2d 0)) := Arv.set Ar558 q558 S558 N558 H558 G558 rfl W559 1 rfl (Nat.le_of_ble_eq_true rfl)
  have K559 : Keep h0 h559 [] := K557.wr W559 (Or.inr sz_b555)
  have N559F := Fr.snoc X559 N557F g_b555
  obtain ⟨cl560, Ar560, q560, S560, N560, H560, G560⟩ := id V559
  have hin560 : ¬ ((2 : Int32) < 0 ∨ cl560.slots.size ≤ ((2 : Int32)).toNatClampNeg) := (inb_of S560 ⟨by decide, by decide⟩)
  obtain ⟨T561, h561, X561, e561, W561, st561⟩ := stD X559 hx hZ e559 Ar560 (j := (2 : Int32)) hin560 (g := (mkF m 111 #[.val (.int p1), .val (.int p2), .val (.int p3), .val (.int p4), .val (.int nn), .val (.int af0), .val (.int af1), .val (.int af2), .val (.int bf0), .val (.int bf1), .val (.int bf2), .val (.int cf0), .val (.int cf1), .val (.int cf2), .val (.ref b548), .unset, .unset, .unset, .unset, .unset, .unset, .unset, .unset, .unset, .unset, .unset] [(.double (FP.l2d bv2)), (.int (2 : Int32)), (.ref b555), (.ref b555)])) rfl rfl (hb hby at_111)
  have V561 : Arv Z h561 b555 k555 .double (3 : Int32) [(.double (FP.l2d bv0)), (.double (FP.l2d bv1)), (.double (FP.l2d bv2))] (.double (FP.l2d 0)) := Arv.set Ar560 q560 S560 N560 H560 G560 rfl W561 2 rfl (Nat.le_of_ble_eq_true rfl)
  have K561 : Keep h0 h561 [] := K559.wr W561 (Or.inr sz_b555)
  have N561F := Fr.snoc X561 N559F g_b555
  obtain ⟨T562, h562, k562, X562, e562, E562, A562, st562⟩ := newP X561 hx hZ (hw _ (List.mem_of_getElem? (i := 4) rfl)) e561 (g := (mkF m 115 #[.val (.int p1), .val (.int p2), .val (.int p3), .val (.int p4), .val (.int nn), .val (.int af0), .val (.int af1), .val (.int af2), .val (.int bf0), .val (.int bf1), .val (.int bf2), .val (.int cf0), .val (.int cf1), .val (.int cf2), .val (.ref b548), .val (.ref b555), .unset, .unset, .unset, .unset, .unset, .unset, .unset, .unset, .unset, .unset] [(.int (3 : Int32))])) rfl (hb hby at_115) rfl (by decide) (cap := 3) (by decide) (by decide) (by decide) (by decide)
  obtain ⟨b562, g562⟩ : ∃ z, z = h561.size := ⟨_, rfl⟩
  rw [← g562] at A562 st562
  have f563 := V554.ext E555
  have f564 := f563.other W557 (Nat.ne_of_lt lt_b548_b555)
  have f565 := f564.other W559 (Nat.ne_of_lt lt_b548_b555)
  have f566 := f565.other W561 (Nat.ne_of_lt lt_b548_b555)
  have lt_b548_b562 : b548 < b562 := Nat.lt_of_lt_of_le f566.lt (Nat.le_of_eq g562.symm)
  have lt_b555_b562 : b555 < b562 := Nat.lt_of_lt_of_le V561.lt (Nat.le_of_eq g562.symm)
  have g_b562 : n0 ≤ b562 := Nat.le_trans (Nat.le_trans Z0 K561.1) (Nat.le_of_eq g562.symm)
  have sz_b562 : h0.size ≤ b562 := Nat.le_trans K561.1 (Nat.le_of_eq g562.symm)
  have K562 : Keep h0 h562 [] := K561.ext E562
  have V562 : Arv Z h562 b562 k562 .double (3 : Int32) [(.double (FP.l2d 0)), (.double (FP.l2d 0)), (.double (FP.l2d 0))] (.double (FP.l2d 0)) := (Arv.newD A562 (by decide)).pad (pad_rep [] (.double (FP.l2d 0)) 3)
  obtain ⟨cl567, Ar567, q567, S567, N567, H567, G567⟩ := id V562
  have hin567 : ¬ ((0 : Int32) < 0 ∨ cl567.slots.size ≤ ((0 : Int32)).toNatClampNeg) := (inb_of S567 ⟨by decide, by decide⟩)
  obtain ⟨T568, h568, X568, e568, W568, st568⟩ := stD X562 hx hZ e562 Ar567 (j := (0 : Int32)) hin567 (g := (mkF m 122 #[.val (.int p1), .val (.int p2), .val (.int p3), .val (.int p4), .val (.int nn), .val (.int af0), .val (.int af1), .val (.int af2), .val (.int bf0), .val (.int bf1), .val (.int bf2), .val (.int cf0), .val (.int cf1), .val (.int cf2), .val (.ref b548), .val (.ref b555), .unset, .unset, .unset, .unset, .unset, .unset, .unset, .unset, .unset, .unset] [(.double (FP.l2d cv0)), (.int (0 : Int32)), (.ref b562), (.ref b562)])) rfl rfl (hb hby at_122)
  have V568 : Arv Z h568 b562 k562 .double (3 : Int32) [(.double (FP.l2d cv0)), (.double (FP.l2d 0)), (.double (FP.l2d 0))] (.double (FP.l2d 0)) := Arv.set Ar567 q567 S567 N567 H567 G567 rfl W568 0 rfl (Nat.le_of_ble_eq_true rfl)
  have K568 : Keep h0 h568 [] := K562.wr W568 (Or.inr sz_b562)
  have N568F := Fr.snoc X568 N561F g_b562
  obtain ⟨cl569, Ar569, q569, S569, N569, H569, G569⟩ := id V568
  have hin569 : ¬ ((1 : Int32) < 0 ∨ cl569.slots.size ≤ ((1 : Int32)).toNatClampNeg) := (inb_of S569 ⟨by decide, by decide⟩)
  obtain ⟨T570, h570, X570, e570, W570, st570⟩ := stD X568 hx hZ e568 Ar569 (j := (1 : Int32)) hin569 (g := (mkF m 128 #[.val (.int p1), .val (.int p2), .val (.int p3), .val (.int p4), .val (.int nn), .val (.int af0), .val (.int af1), .val (.int af2), .val (.int bf0), .val (.int bf1), .val (.int bf2), .val (.int cf0), .val (.int cf1), .val (.int cf2), .val (.ref b548), .val (.ref b555), .unset, .unset, .unset, .unset, .unset, .unset, .unset, .unset, .unset, .unset] [(.double (FP.l2d cv1)), (.int (1 : Int32)), (.ref b562), (.ref b562)])) rfl rfl (hb hby at_128)
  have V570 : Arv Z h570 b562 k562 .double (3 : Int32) [(.double (FP.l2d cv0)), (.double (FP.l2d cv1)), (.double (FP.l2d 0))] (.double (FP.l2d 0)) := Arv.set Ar569 q569 S569 N569 H569 G569 rfl W570 1 rfl (Nat.le_of_ble_eq_true rfl)
  have K570 : Keep h0 h570 [] := K568.wr W570 (Or.inr sz_b562)
  have N570F := Fr.snoc X570 N568F g_b562
  obtain ⟨cl571, Ar571, q571, S571, N571, H571, G571⟩ := id V570
  have hin571 : ¬ ((2 : Int32) < 0 ∨ cl571.slots.size ≤ ((2 : Int32)).toNatClampNeg) := (inb_of S571 ⟨by decide, by decide⟩)
  obtain ⟨T572, h572, X572, e572, W572, st572⟩ := stD X570 hx hZ e570 Ar571 (j := (2 : Int32)) hin571 (g := (mkF m 134 #[.val (.int p1), .val (.int p2), .val (.int p3), .val (.int p4), .val (.int nn), .val (.int af0), .val (.int af1), .val (.int af2), .val (.int bf0), .val (.int bf1), .val (.int bf2), .val (.int cf0), .val (.int cf1), .val (.int cf2), .val (.ref b548), .val (.ref b555), .unset, .unset, .unset, .unset, .unset, .unset, .unset, .unset, .unset, .unset] [(.double (FP.l2d cv2)), (.int (2 : Int32)), (.ref b562), (.ref b562)])) rfl rfl (hb hby at_134)
  have V572 : Arv Z h572 b562 k562 .double (3 : Int32) [(.double (FP.l2d cv0)), (.double (FP.l2d cv1)), (.double (FP.l2d cv2))] (.double (FP.l2d 0)) := Arv.set Ar571 q571 S571 N571 H571 G571 rfl W572 2 rfl (Nat.le_of_ble_eq_true rfl)
  have K572 : Keep h0 h572 [] := K570.wr W572 (Or.inr sz_b562)
  have N572F := Fr.snoc X572 N570F g_b562
  obtain ⟨T573, h573, X573, e573, E573, A573, D573, -, st573⟩ := newO X572 hx hZ hown (hw _ (List.mem_of_getElem? (i := 5) rfl)) (hw _ (List.mem_of_getElem? (i := 6) rfl)) (hw _ (List.mem_of_getElem? (i := 7) rfl)) e572 (g := (mkF m 137 #[.val (.int p1), .val (.int p2), .val (.int p3), .val (.int p4), .val (.int nn), .val (.int af0), .val (.int af1), .val (.int af2), .val (.int bf0), .val (.int bf1), .val (.int bf2), .val (.int cf0), .val (.int cf1), .val (.int cf2), .val (.ref b548), .val (.ref b555), .val (.ref b562), .unset, .unset, .unset, .unset, .unset, .unset, .unset, .unset, .unset] [])) rfl (hb hby at_137) (by decide) (by decide)
  obtain ⟨b573, g573⟩ : ∃ z, z = h572.size := ⟨_, rfl⟩
  rw [← g573] at A573 D573 st573
  have f574 := f566.ext E562
  have f575 := f574.other W568 (Nat.ne_of_lt lt_b548_b562)
  have f576 := f575.other W570 (Nat.ne_of_lt lt_b548_b562)
  have f577 := f576.other W572 (Nat.ne_of_lt lt_b548_b562)
  have lt_b548_b573 : b548 < b573 := Nat.lt_of_lt_of_le f577.lt (Nat.le_of_eq g573.symm)
  have f578 := V561.ext E562
  have f579 := f578.other W568 (Nat.ne_of_lt lt_b555_b562)
  have f580 := f579.other W570 (Nat.ne_of_lt lt_b555_b562)
  have f581 := f580.other W572 (Nat.ne_of_lt lt_b555_b562)
  have lt_b555_b573 : b555 < b573 := Nat.lt_of_lt_of_le f581.lt (Nat.le_of_eq g573.symm)
  have lt_b562_b573 : b562 < b573 := Nat.lt_of_lt_of_le V572.lt (Nat.le_of_eq g573.symm)
  have g_b573 : n0 ≤ b573 := Nat.le_trans (Nat.le_trans Z0 K572.1) (Nat.le_of_eq g573.symm)
  have sz_b573 : h0.size ≤ b573 := Nat.le_trans K572.1 (Nat.le_of_eq g573.symm)
  have K573 : Keep h0 h573 [] := K572.ext E573
  have F573_d : Fld Z h573 b573 "com/example/lineament/lineament/math/OuterProductSum" "d" "I" (.int (0 : Int32)) := D573 (Or.inr (hw _ (List.mem_of_getElem? (i := 15) rfl))) (ty := .int) (by decide)
  have F573_sum : Fld Z h573 b573 "com/example/lineament/lineament/math/OuterProductSum" "sum" "[D" .null := D573 (Or.inr (hw _ (List.mem_of_getElem? (i := 17) rfl))) (ty := (.array .double)) (by decide)
  have F573_basis : Fld Z h573 b573 "com/example/lineament/lineament/math/OuterProductSum" "basis" "[D" .null := D573 (Or.inr (hw _ (List.mem_of_getElem? (i := 19) rfl))) (ty := (.array .double)) (by decide)
  have F573_inBasis : Fld Z h573 b573 "com/example/lineament/lineament/math/OuterProductSum" "inBasis" "[D" .null := D573 (Or.inr (hw _ (List.mem_of_getElem? (i := 21) rfl))) (ty := (.array .double)) (by decide)
  have F573_count : Fld Z h573 b573 "com/example/lineament/lineament/math/OuterProductSum" "count" "I" (.int (0 : Int32)) := D573 (Or.inl (hw _ (List.mem_of_getElem? (i := 36) rfl))) (ty := .int) (by decide)
  have F573_trace : Fld Z h573 b573 "com/example/lineament/lineament/math/OuterProductSum" "trace" "D" (.double (FP.l2d 0)) := Fld.zeroD (D573 (Or.inl (hw _ (List.mem_of_getElem? (i := 38) rfl))) (ty := .double) (by decide))
  have f583 := f577.ext E573
  have f584 := f581.ext E573
  have f585 := V572.ext E573
  obtain ⟨_, _, ⟨T582, L582, k582, n582⟩, -, X582, ⟨Lc582, hQ582, l582, y582, z582⟩, st582⟩ := X573.specialBack hx (y := (⟨"com/example/lineament/lineament/math/OuterProductSum", "<init>", "(I)V"⟩ : MethodName)) rfl hown (mvT hZ (hw _ (List.mem_of_getElem? (i := 8) rfl))) (mvT hZ (hw _ (List.mem_of_getElem? (i := 9) rfl))) (mvT hZ (hw _ (List.mem_of_getElem? (i := 10) rfl))) (by decide) (backOf (W := 1) (rmIN l Z a0 hw [] b573 h573 n0 (Nat.le_trans Z0 K573.1) A573 F573_d F573_sum F573_basis F573_inBasis F573_count F573_trace g_b573) hZ (hw _ (List.mem_of_getElem? (i := 10) rfl)) (hw _ (List.mem_of_getElem? (i := 7) rfl)) (by decide) (by decide)) (g := (mkF m 142 #[.val (.int p1), .val (.int p2), .val (.int p3), .val (.int p4), .val (.int nn), .val (.int af0), .val (.int af1), .val (.int af2), .val (.int bf0), .val (.int bf1), .val (.int bf2), .val (.int cf0), .val (.int cf1), .val (.int cf2), .val (.ref b548), .val (.ref b555), .val (.ref b562), .unset, .unset, .unset, .unset, .unset, .unset, .unset, .unset, .unset] [(.int (3 : Int32)), (.ref b573), (.ref b573)])) rfl (by rw [hml]; rfl) (Steps.refl _) (a := b573) (argsL := [(.int (3 : Int32))]) (rest := [(.ref b573)]) (lenOf pd_4 rfl) rfl (by show 2 * 0 + _ ≤ _; exact Nat.le_of_eq rfl) (hb hby at_142) (fun _ _ => ⟨rfl, e573, (by decide : 4 + 3 ≤ _), (by decide : 15 + 27 ≤ _)⟩)
  dsimp only [Pt.U, Pt.locs, Pt.cells, Pt.slots] at X582 l582 y582 z582 st582 hQ582
  rw [l582, y582, z582] at X582
  obtain ⟨hv582, Nq582, Kc582, Ea582, Fd582, Fc582, Ft582, sm, bs, ib, ks, kbs, kib, Fsum582, Fbasis582, FinBasis582, Vs582, Vb582, Vi582, sq_sm, sq_bs, sq_ib, g_sm, g_ib, ne_sm_bs, ne_bs_ib, ne_sm_ib⟩ := hQ582
  rw [hv582] at st582
  have K582 : Keep h0 T582.heap [] := K573.trans Kc582 (allS (P := fun x => x ∈ [] ∨ h0.size ≤ x) (Or.inr sz_b573) all0)
  have sz_sm : h0.size ≤ sm := Nat.le_trans K573.1 sq_sm
  have lt_b573_sm : b573 < sm := Nat.lt_of_lt_of_le A573.lt sq_sm
  have sz_bs : h0.size ≤ bs := Nat.le_trans K573.1 sq_bs
  have lt_b573_bs : b573 < bs := Nat.lt_of_lt_of_le A573.lt sq_bs
  have sz_ib : h0.size ≤ ib := Nat.le_trans K573.1 sq_ib
  have lt_b573_ib : b573 < ib := Nat.lt_of_lt_of_le A573.lt sq_ib
  have lt_b548_sm : b548 < sm := Nat.lt_of_lt_of_le f583.lt sq_sm
  have lt_b548_bs : b548 < bs := Nat.lt_of_lt_of_le f583.lt sq_bs
  have lt_b548_ib : b548 < ib := Nat.lt_of_lt_of_le f583.lt sq_ib
  have lt_b555_sm : b555 < sm := Nat.lt_of_lt_of_le f584.lt sq_sm
  have lt_b555_bs : b555 < bs := Nat.lt_of_lt_of_le f584.lt sq_bs
  have lt_b555_ib : b555 < ib := Nat.lt_of_lt_of_le f584.lt sq_ib
  have lt_b562_sm : b562 < sm := Nat.lt_of_lt_of_le f585.lt sq_sm
  have lt_b562_bs : b562 < bs := Nat.lt_of_lt_of_le f585.lt sq_bs
  have lt_b562_ib : b562 < ib := Nat.lt_of_lt_of_le f585.lt sq_ib
  have g_bs : n0 ≤ bs := Nat.le_trans Z0 sz_bs
  have N582 := Fr.app N572F Nq582
  have R586 : ∀ t, Steps p.tables e below (T582.setTop (mkF m 150 #[.val (.int p1), .val (.int p2), .val (.int p3), .val (.int p4), .val (.int nn), .val (.int af0), .val (.int af1), .val (.int af2), .val (.int bf0), .val (.int bf1), .val (.int bf2), .val (.int cf0), .val (.int cf1), .val (.int cf2), .val (.ref b548), .val (.ref b555), .val (.ref b562), .val (.ref b573), .unset, .unset, .unset, .unset, .unset, .unset, .unset, .unset] [(.int (1 : Int32)), (.int nn)])) t → Steps p.tables e below (s₁.setTop (entryFrame m #[(.int p1), (.int p2), (.int p3), (.int p4)] maxLocals)) t := by
    intro t kt
    refine pre0 _ ?_
    show Steps _ _ _ (s₁.setTop (mkF m 0 #[.val (.int p1), .val (.int p2), .val (.int p3), .val (.int p4), .unset, .unset, .unset, .unset, .unset, .unset, .unset, .unset, .unset, .unset, .unset, .unset, .unset, .unset, .unset, .unset, .unset, .unset, .unset, .unset, .unset, .unset] [])) _
    refine XS.iloadN X0.here hx rfl (hb hby at_0) rfl ?_
    refine XS.iconst X0.here hx rfl (hb hby at_1) ?_
    refine XS.iand X0.here hx rfl (hb hby at_2) rfl ?_
    show Steps _ _ _ (s₁.setTop (mkF m 3 #[.val (.int p1), .val (.int p2), .val (.int p3), .val (.int p4), .unset, .unset, .unset, .unset, .unset, .unset, .unset, .unset, .unset, .unset, .unset, .unset, .unset, .unset, .unset, .unset, .unset, .unset, .unset, .unset, .unset, .unset] [(.int (p4 &&& (3 : Int32)))])) _
    rw [hnn]
    refine XS.istore X0.here hx rfl (hb hby at_3) rfl (l' := #[.val (.int p1), .val (.int p2), .val (.int p3), .val (.int p4), .val (.int nn), .unset, .unset, .unset, .unset, .unset, .unset, .unset, .unset, .unset, .unset, .unset, .unset, .unset, .unset, .unset, .unset, .unset, .unset, .unset, .unset, .unset]) rfl ?_
    refine XS.iloadN X0.here hx rfl (hb hby at_5) rfl ?_
    refine XS.iconst X0.here hx rfl (hb hby at_6) ?_
    show Steps _ _ _ (s₁.setTop (mkF m 7 #[.val (.int p1), .val (.int p2), .val (.int p3), .val (.int p4), .val (.int nn), .unset, .unset, .unset, .unset, .unset, .unset, .unset, .unset, .unset, .unset, .unset, .unset, .unset, .unset, .unset, .unset, .unset, .unset, .unset, .unset, .unset] [(.int (0 : Int32)), (.int p1)])) _
    refine st539 _ ?_
    show Steps _ _ _ (T539.setTop (mkF m 10 #[.val (.int p1), .val (.int p2), .val (.int p3), .val (.int p4), .val (.int nn), .unset, .unset, .unset, .unset, .unset, .unset, .unset, .unset, .unset, .unset, .unset, .unset, .unset, .unset, .unset, .unset, .unset, .unset, .unset, .unset, .unset] [(.int af0)])) _
    refine XS.istore X539.here hx rfl (hb hby at_10) rfl (l' := #[.val (.int p1), .val (.int p2), .val (.int p3), .val (.int p4), .val (.int nn), .val (.int af0), .unset, .unset, .unset, .unset, .unset, .unset, .unset, .unset, .unset, .unset, .unset, .unset, .unset, .unset, .unset, .unset, .unset, .unset, .unset, .unset]) rfl ?_
    refine XS.iloadN X539.here hx rfl (hb hby at_12) rfl ?_
    refine XS.iconst X539.here hx rfl (hb hby at_13) ?_
    show Steps _ _ _ (T539.setTop (mkF m 14 #[.val (.int p1), .val (.int p2), .val (.int p3), .val (.int p4), .val (.int nn), .val (.int af0), .unset, .unset, .unset, .unset, .unset, .unset, .unset, .unset, .unset, .unset, .unset, .unset, .unset, .unset, .unset, .unset, .unset, .unset, .unset, .unset] [(.int (1 : Int32)), (.int p1)])) _
    refine st540 _ ?_
    show Steps _ _ _ (T540.setTop (mkF m 17 #[.val (.int p1), .val (.int p2), .val (.int p3), .val (.int p4), .val (.int nn), .val (.int af0), .unset, .unset, .unset, .unset, .unset, .unset, .unset, .unset, .unset, .unset, .unset, .unset, .unset, .unset, .unset, .unset, .unset, .unset, .unset, .unset] [(.int af1)])) _
    refine XS.istore X540.here hx rfl (hb hby at_17) rfl (l' := #[.val (.int p1), .val (.int p2), .val (.int p3), .val (.int p4), .val (.int nn), .val (.int af0), .val (.int af1), .unset, .unset, .unset, .unset, .unset, .unset, .unset, .unset, .unset, .unset, .unset, .unset, .unset, .unset, .unset, .unset, .unset, .unset, .unset]) rfl ?_
    refine XS.iloadN X540.here hx rfl (hb hby at_19) rfl ?_
    refine XS.iconst X540.here hx rfl (hb hby at_20) ?_
    show Steps _ _ _ (T540.setTop (mkF m 21 #[.val (.int p1), .val (.int p2), .val (.int p3), .val (.int p4), .val (.int nn), .val (.int af0), .val (.int af1), .unset, .unset, .unset, .unset, .unset, .unset, .unset, .unset, .unset, .unset, .unset, .unset, .unset, .unset, .unset, .unset, .unset, .unset, .unset] [(.int (2 : Int32)), (.int p1)])) _
    refine st541 _ ?_
    show Steps _ _ _ (T541.setTop (mkF m 24 #[.val (.int p1), .val (.int p2), .val (.int p3), .val (.int p4), .val (.int nn), .val (.int af0), .val (.int af1), .unset, .unset, .unset, .unset, .unset, .unset, .unset, .unset, .unset, .unset, .unset, .unset, .unset, .unset, .unset, .unset, .unset, .unset, .unset] [(.int af2)])) _
    refine XS.istore X541.here hx rfl (hb hby at_24) rfl (l' := #[.val (.int p1), .val (.int p2), .val (.int p3), .val (.int p4), .val (.int nn), .val (.int af0), .val (.int af1), .val (.int af2), .unset, .unset, .unset, .unset, .unset, .unset, .unset, .unset, .unset, .unset, .unset, .unset, .unset, .unset, .unset, .unset, .unset, .unset]) rfl ?_
    refine XS.iloadN X541.here hx rfl (hb hby at_26) rfl ?_
    refine XS.iconst X541.here hx rfl (hb hby at_27) ?_
    show Steps _ _ _ (T541.setTop (mkF m 28 #[.val (.int p1), .val (.int p2), .val (.int p3), .val (.int p4), .val (.int nn), .val (.int af0), .val (.int af1), .val (.int af2), .unset, .unset, .unset, .unset, .unset, .unset, .unset, .unset, .unset, .unset, .unset, .unset, .unset, .unset, .unset, .unset, .unset, .unset] [(.int (0 : Int32)), (.int p2)])) _
    refine st542 _ ?_
    show Steps _ _ _ (T542.setTop (mkF m 31 #[.val (.int p1), .val (.int p2), .val (.int p3), .val (.int p4), .val (.int nn), .val (.int af0), .val (.int af1), .val (.int af2), .unset, .unset, .unset, .unset, .unset, .unset, .unset, .unset, .unset, .unset, .unset, .unset, .unset, .unset, .unset, .unset, .unset, .unset] [(.int bf0)])) _
    refine XS.istore X542.here hx rfl (hb hby at_31) rfl (l' := #[.val (.int p1), .val (.int p2), .val (.int p3), .val (.int p4), .val (.int nn), .val (.int af0), .val (.int af1), .val (.int af2), .val (.int bf0), .unset, .unset, .unset, .unset, .unset, .unset, .unset, .unset, .unset, .unset, .unset, .unset, .unset, .unset, .unset, .unset, .unset]) rfl ?_
    refine XS.iloadN X542.here hx rfl (hb hby at_33) rfl ?_
    refine XS.iconst X542.here hx rfl (hb hby at_34) ?_
    show Steps _ _ _ (T542.setTop (mkF m 35 #[.val (.int p1), .val (.int p2), .val (.int p3), .val (.int p4), .val (.int nn), .val (.int af0), .val (.int af1), .val (.int af2), .val (.int bf0), .unset, .unset, .unset, .unset, .unset, .unset, .unset, .unset, .unset, .unset, .unset, .unset, .unset, .unset, .unset, .unset, .unset] [(.int (1 : Int32)), (.int p2)])) _
    refine st543 _ ?_
    show Steps _ _ _ (T543.setTop (mkF m 38 #[.val (.int p1), .val (.int p2), .val (.int p3), .val (.int p4), .val (.int nn), .val (.int af0), .val (.int af1), .val (.int af2), .val (.int bf0), .unset, .unset, .unset, .unset, .unset, .unset, .unset, .unset, .unset, .unset, .unset, .unset, .unset, .unset, .unset, .unset, .unset] [(.int bf1)])) _
    refine XS.istore X543.here hx rfl (hb hby at_38) rfl (l' := #[.val (.int p1), .val (.int p2), .val (.int p3), .val (.int p4), .val (.int nn), .val (.int af0), .val (.int af1), .val (.int af2), .val (.int bf0), .val (.int bf1), .unset, .unset, .unset, .unset, .unset, .unset, .unset, .unset, .unset, .unset, .unset, .unset, .unset, .unset, .unset, .unset]) rfl ?_
    refine XS.iloadN X543.here hx rfl (hb hby at_40) rfl ?_
    refine XS.iconst X543.here hx rfl (hb hby at_41) ?_
    show Steps _ _ _ (T543.setTop (mkF m 42 #[.val (.int p1), .val (.int p2), .val (.int p3), .val (.int p4), .val (.int nn), .val (.int af0), .val (.int af1), .val (.int af2), .val (.int bf0), .val (.int bf1), .unset, .unset, .unset, .unset, .unset, .unset, .unset, .unset, .unset, .unset, .unset, .unset, .unset, .unset, .unset, .unset] [(.int (2 : Int32)), (.int p2)])) _
    refine st544 _ ?_
    show Steps _ _ _ (T544.setTop (mkF m 45 #[.val (.int p1), .val (.int p2), .val (.int p3), .val (.int p4), .val (.int nn), .val (.int af0), .val (.int af1), .val (.int af2), .val (.int bf0), .val (.int bf1), .unset, .unset, .unset, .unset, .unset, .unset, .unset, .unset, .unset, .unset, .unset, .unset, .unset, .unset, .unset, .unset] [(.int bf2)])) _
    refine XS.istore X544.here hx rfl (hb hby at_45) rfl (l' := #[.val (.int p1), .val (.int p2), .val (.int p3), .val (.int p4), .val (.int nn), .val (.int af0), .val (.int af1), .val (.int af2), .val (.int bf0), .val (.int bf1), .val (.int bf2), .unset, .unset, .unset, .unset, .unset, .unset, .unset, .unset, .unset, .unset, .unset, .unset, .unset, .unset, .unset]) rfl ?_
    refine XS.iloadN X544.here hx rfl (hb hby at_47) rfl ?_
    refine XS.iconst X544.here hx rfl (hb hby at_48) ?_
    show Steps _ _ _ (T544.setTop (mkF m 49 #[.val (.int p1), .val (.int p2), .val (.int p3), .val (.int p4), .val (.int nn), .val (.int af0), .val (.int af1), .val (.int af2), .val (.int bf0), .val (.int bf1), .val (.int bf2), .unset, .unset, .unset, .unset, .unset, .unset, .unset, .unset, .unset, .unset, .unset, .unset, .unset, .unset, .unset] [(.int (0 : Int32)), (.int p3)])) _
    refine st545 _ ?_
    show Steps _ _ _ (T545.setTop (mkF m 52 #[.val (.int p1), .val (.int p2), .val (.int p3), .val (.int p4), .val (.int nn), .val (.int af0), .val (.int af1), .val (.int af2), .val (.int bf0), .val (.int bf1), .val (.int bf2), .unset, .unset, .unset, .unset, .unset, .unset, .unset, .unset, .unset, .unset, .unset, .unset, .unset, .unset, .unset] [(.int cf0)])) _
    refine XS.istore X545.here hx rfl (hb hby at_52) rfl (l' := #[.val (.int p1), .val (.int p2), .val (.int p3), .val (.int p4), .val (.int nn), .val (.int af0), .val (.int af1), .val (.int af2), .val (.int bf0), .val (.int bf1), .val (.int bf2), .val (.int cf0), .unset, .unset, .unset, .unset, .unset, .unset, .unset, .unset, .unset, .unset, .unset, .unset, .unset, .unset]) rfl ?_
    refine XS.iloadN X545.here hx rfl (hb hby at_54) rfl ?_
    refine XS.iconst X545.here hx rfl (hb hby at_55) ?_
    show Steps _ _ _ (T545.setTop (mkF m 56 #[.val (.int p1), .val (.int p2), .val (.int p3), .val (.int p4), .val (.int nn), .val (.int af0), .val (.int af1), .val (.int af2), .val (.int bf0), .val (.int bf1), .val (.int bf2), .val (.int cf0), .unset, .unset, .unset, .unset, .unset, .unset, .unset, .unset, .unset, .unset, .unset, .unset, .unset, .unset] [(.int (1 : Int32)), (.int p3)])) _
    refine st546 _ ?_
    show Steps _ _ _ (T546.setTop (mkF m 59 #[.val (.int p1), .val (.int p2), .val (.int p3), .val (.int p4), .val (.int nn), .val (.int af0), .val (.int af1), .val (.int af2), .val (.int bf0), .val (.int bf1), .val (.int bf2), .val (.int cf0), .unset, .unset, .unset, .unset, .unset, .unset, .unset, .unset, .unset, .unset, .unset, .unset, .unset, .unset] [(.int cf1)])) _
    refine XS.istore X546.here hx rfl (hb hby at_59) rfl (l' := #[.val (.int p1), .val (.int p2), .val (.int p3), .val (.int p4), .val (.int nn), .val (.int af0), .val (.int af1), .val (.int af2), .val (.int bf0), .val (.int bf1), .val (.int bf2), .val (.int cf0), .val (.int cf1), .unset, .unset, .unset, .unset, .unset, .unset, .unset, .unset, .unset, .unset, .unset, .unset, .unset]) rfl ?_
    refine XS.iloadN X546.here hx rfl (hb hby at_61) rfl ?_
    refine XS.iconst X546.here hx rfl (hb hby at_62) ?_
    show Steps _ _ _ (T546.setTop (mkF m 63 #[.val (.int p1), .val (.int p2), .val (.int p3), .val (.int p4), .val (.int nn), .val (.int af0), .val (.int af1), .val (.int af2), .val (.int bf0), .val (.int bf1), .val (.int bf2), .val (.int cf0), .val (.int cf1), .unset, .unset, .unset, .unset, .unset, .unset, .unset, .unset, .unset, .unset, .unset, .unset, .unset] [(.int (2 : Int32)), (.int p3)])) _
    refine st547 _ ?_
    show Steps _ _ _ (T547.setTop (mkF m 66 #[.val (.int p1), .val (.int p2), .val (.int p3), .val (.int p4), .val (.int nn), .val (.int af0), .val (.int af1), .val (.int af2), .val (.int bf0), .val (.int bf1), .val (.int bf2), .val (.int cf0), .val (.int cf1), .unset, .unset, .unset, .unset, .unset, .unset, .unset, .unset, .unset, .unset, .unset, .unset, .unset] [(.int cf2)])) _
    refine XS.istore X547.here hx rfl (hb hby at_66) rfl (l' := #[.val (.int p1), .val (.int p2), .val (.int p3), .val (.int p4), .val (.int nn), .val (.int af0), .val (.int af1), .val (.int af2), .val (.int bf0), .val (.int bf1), .val (.int bf2), .val (.int cf0), .val (.int cf1), .val (.int cf2), .unset, .unset, .unset, .unset, .unset, .unset, .unset, .unset, .unset, .unset, .unset, .unset]) rfl ?_
    refine XS.iconst X547.here hx rfl (hb hby at_68) ?_
    show Steps _ _ _ (T547.setTop (mkF m 69 #[.val (.int p1), .val (.int p2), .val (.int p3), .val (.int p4), .val (.int nn), .val (.int af0), .val (.int af1), .val (.int af2), .val (.int bf0), .val (.int bf1), .val (.int bf2), .val (.int cf0), .val (.int cf1), .val (.int cf2), .unset, .unset, .unset, .unset, .unset, .unset, .unset, .unset, .unset, .unset, .unset, .unset] [(.int (3 : Int32))])) _
    refine st548 _ ?_
    refine XS.dup X548.here hx rfl (hb hby at_71) rfl rfl ?_
    refine XS.iconst X548.here hx rfl (hb hby at_72) ?_
    refine XS.iload X548.here hx rfl (hb hby at_73) rfl ?_
    show Steps _ _ _ (T548.setTop (mkF m 75 #[.val (.int p1), .val (.int p2), .val (.int p3), .val (.int p4), .val (.int nn), .val (.int af0), .val (.int af1), .val (.int af2), .val (.int bf0), .val (.int bf1), .val (.int bf2), .val (.int cf0), .val (.int cf1), .val (.int cf2), .unset, .unset, .unset, .unset, .unset, .unset, .unset, .unset, .unset, .unset, .unset, .unset] [(.int af0), (.int (0 : Int32)), (.ref b548), (.ref b548)])) _
    refine XS.i2dS X548.here hx rfl (hb hby at_75) rfl (v := (FP.l2d av0)) ((i2d_w _).trans (congrArg FP.l2d hav0)) ?_
    show Steps _ _ _ (T548.setTop (mkF m 76 #[.val (.int p1), .val (.int p2), .val (.int p3), .val (.int p4), .val (.int nn), .val (.int af0), .val (.int af1), .val (.int af2), .val (.int bf0), .val (.int bf1), .val (.int bf2), .val (.int cf0), .val (.int cf1), .val (.int cf2), .unset, .unset, .unset, .unset, .unset, .unset, .unset, .unset, .unset, .unset, .unset, .unset] [(.double (FP.l2d av0)), (.int (0 : Int32)), (.ref b548), (.ref b548)])) _
    refine st550 _ ?_
    refine XS.dup X550.here hx rfl (hb hby at_77) rfl rfl ?_
    refine XS.iconst X550.here hx rfl (hb hby at_78) ?_
    refine XS.iload X550.here hx rfl (hb hby at_79) rfl ?_
    show Steps _ _ _ (T550.setTop (mkF m 81 #[.val (.int p1), .val (.int p2), .val (.int p3), .val (.int p4), .val (.int nn), .val (.int af0), .val (.int af1), .val (.int af2), .val (.int bf0), .val (.int bf1), .val (.int bf2), .val (.int cf0), .val (.int cf1), .val (.int cf2), .unset, .unset, .unset, .unset, .unset, .unset, .unset, .unset, .unset, .unset, .unset, .unset] [(.int af1), (.int (1 : Int32)), (.ref b548), (.ref b548)])) _
    refine XS.i2dS X550.here hx rfl (hb hby at_81) rfl (v := (FP.l2d av1)) ((i2d_w _).trans (congrArg FP.l2d hav1)) ?_
    show Steps _ _ _ (T550.setTop (mkF m 82 #[.val (.int p1), .val (.int p2), .val (.int p3), .val (.int p4), .val (.int nn), .val (.int af0), .val (.int af1), .val (.int af2), .val (.int bf0), .val (.int bf1), .val (.int bf2), .val (.int cf0), .val (.int cf1), .val (.int cf2), .unset, .unset, .unset, .unset, .unset, .unset, .unset, .unset, .unset, .unset, .unset, .unset] [(.double (FP.l2d av1)), (.int (1 : Int32)), (.ref b548), (.ref b548)])) _
    refine st552 _ ?_
    refine XS.dup X552.here hx rfl (hb hby at_83) rfl rfl ?_
    refine XS.iconst X552.here hx rfl (hb hby at_84) ?_
    refine XS.iload X552.here hx rfl (hb hby at_85) rfl ?_
    show Steps _ _ _ (T552.setTop (mkF m 87 #[.val (.int p1), .val (.int p2), .val (.int p3), .val (.int p4), .val (.int nn), .val (.int af0), .val (.int af1), .val (.int af2), .val (.int bf0), .val (.int bf1), .val (.int bf2), .val (.int cf0), .val (.int cf1), .val (.int cf2), .unset, .unset, .unset, .unset, .unset, .unset, .unset, .unset, .unset, .unset, .unset, .unset] [(.int af2), (.int (2 : Int32)), (.ref b548), (.ref b548)])) _
    refine XS.i2dS X552.here hx rfl (hb hby at_87) rfl (v := (FP.l2d av2)) ((i2d_w _).trans (congrArg FP.l2d hav2)) ?_
    show Steps _ _ _ (T552.setTop (mkF m 88 #[.val (.int p1), .val (.int p2), .val (.int p3), .val (.int p4), .val (.int nn), .val (.int af0), .val (.int af1), .val (.int af2), .val (.int bf0), .val (.int bf1), .val (.int bf2), .val (.int cf0), .val (.int cf1), .val (.int cf2), .unset, .unset, .unset, .unset, .unset, .unset, .unset, .unset, .unset, .unset, .unset, .unset] [(.double (FP.l2d av2)), (.int (2 : Int32)), (.ref b548), (.ref b548)])) _
    refine st554 _ ?_
    refine XS.astore X554.here hx rfl (hb hby at_89) rfl rfl (l' := #[.val (.int p1), .val (.int p2), .val (.int p3), .val (.int p4), .val (.int nn), .val (.int af0), .val (.int af1), .val (.int af2), .val (.int bf0), .val (.int bf1), .val (.int bf2), .val (.int cf0), .val (.int cf1), .val (.int cf2), .val (.ref b548), .unset, .unset, .unset, .unset, .unset, .unset, .unset, .unset, .unset, .unset, .unset]) rfl ?_
    refine XS.iconst X554.here hx rfl (hb hby at_91) ?_
    show Steps _ _ _ (T554.setTop (mkF m 92 #[.val (.int p1), .val (.int p2), .val (.int p3), .val (.int p4), .val (.int nn), .val (.int af0), .val (.int af1), .val (.int af2), .val (.int bf0), .val (.int bf1), .val (.int bf2), .val (.int cf0), .val (.int cf1), .val (.int cf2), .val (.ref b548), .unset, .unset, .unset, .unset, .unset, .unset, .unset, .unset, .unset, .unset, .unset] [(.int (3 : Int32))])) _
    refine st555 _ ?_
    refine XS.dup X555.here hx rfl (hb hby at_94) rfl rfl ?_
    refine XS.iconst X555.here hx rfl (hb hby at_95) ?_
    refine XS.iload X555.here hx rfl (hb hby at_96) rfl ?_
    show Steps _ _ _ (T555.setTop (mkF m 98 #[.val (.int p1), .val (.int p2), .val (.int p3), .val (.int p4), .val (.int nn), .val (.int af0), .val (.int af1), .val (.int af2), .val (.int bf0), .val (.int bf1), .val (.int bf2), .val (.int cf0), .val (.int cf1), .val (.int cf2), .val (.ref b548), .unset, .unset, .unset, .unset, .unset, .unset, .unset, .unset, .unset, .unset, .unset] [(.int bf0), (.int (0 : Int32)), (.ref b555), (.ref b555)])) _
    refine XS.i2dS X555.here hx rfl (hb hby at_98) rfl (v := (FP.l2d bv0)) ((i2d_w _).trans (congrArg FP.l2d hbv0)) ?_
    show Steps _ _ _ (T555.setTop (mkF m 99 #[.val (.int p1), .val (.int p2), .val (.int p3), .val (.int p4), .val (.int nn), .val (.int af0), .val (.int af1), .val (.int af2), .val (.int bf0), .val (.int bf1), .val (.int bf2), .val (.int cf0), .val (.int cf1), .val (.int cf2), .val (.ref b548), .unset, .unset, .unset, .unset, .unset, .unset, .unset, .unset, .unset, .unset, .unset] [(.double (FP.l2d bv0)), (.int (0 : Int32)), (.ref b555), (.ref b555)])) _
    refine st557 _ ?_
    refine XS.dup X557.here hx rfl (hb hby at_100) rfl rfl ?_
    refine XS.iconst X557.here hx rfl (hb hby at_101) ?_
    refine XS.iload X557.here hx rfl (hb hby at_102) rfl ?_
    show Steps _ _ _ (T557.setTop (mkF m 104 #[.val (.int p1), .val (.int p2), .val (.int p3), .val (.int p4), .val (.int nn), .val (.int af0), .val (.int af1), .val (.int af2), .val (.int bf0), .val (.int bf1), .val (.int bf2), .val (.int cf0), .val (.int cf1), .val (.int cf2), .val (.ref b548), .unset, .unset, .unset, .unset, .unset, .unset, .unset, .unset, .unset, .unset, .unset] [(.int bf1), (.int (1 : Int32)), (.ref b555), (.ref b555)])) _
    refine XS.i2dS X557.here hx rfl (hb hby at_104) rfl (v := (FP.l2d bv1)) ((i2d_w _).trans (congrArg FP.l2d hbv1)) ?_
    show Steps _ _ _ (T557.setTop (mkF m 105 #[.val (.int p1), .val (.int p2), .val (.int p3), .val (.int p4), .val (.int nn), .val (.int af0), .val (.int af1), .val (.int af2), .val (.int bf0), .val (.int bf1), .val (.int bf2), .val (.int cf0), .val (.int cf1), .val (.int cf2), .val (.ref b548), .unset, .unset, .unset, .unset, .unset, .unset, .unset, .unset, .unset, .unset, .unset] [(.double (FP.l2d bv1)), (.int (1 : Int32)), (.ref b555), (.ref b555)])) _
    refine st559 _ ?_
    refine XS.dup X559.here hx rfl (hb hby at_106) rfl rfl ?_
    refine XS.iconst X559.here hx rfl (hb hby at_107) ?_
    refine XS.iload X559.here hx rfl (hb hby at_108) rfl ?_
    show Steps _ _ _ (T559.setTop (mkF m 110 #[.val (.int p1), .val (.int p2), .val (.int p3), .val (.int p4), .val (.int nn), .val (.int af0), .val (.int af1), .val (.int af2), .val (.int bf0), .val (.int bf1), .val (.int bf2), .val (.int cf0), .val (.int cf1), .val (.int cf2), .val (.ref b548), .unset, .unset, .unset, .unset, .unset, .unset, .unset, .unset, .unset, .unset, .unset] [(.int bf2), (.int (2 : Int32)), (.ref b555), (.ref b555)])) _
    refine XS.i2dS X559.here hx rfl (hb hby at_110) rfl (v := (FP.l2d bv2)) ((i2d_w _).trans (congrArg FP.l2d hbv2)) ?_
    show Steps _ _ _ (T559.setTop (mkF m 111 #[.val (.int p1), .val (.int p2), .val (.int p3), .val (.int p4), .val (.int nn), .val (.int af0), .val (.int af1), .val (.int af2), .val (.int bf0), .val (.int bf1), .val (.int bf2), .val (.int cf0), .val (.int cf1), .val (.int cf2), .val (.ref b548), .unset, .unset, .unset, .unset, .unset, .unset, .unset, .unset, .unset, .unset, .unset] [(.double (FP.l2d bv2)), (.int (2 : Int32)), (.ref b555), (.ref b555)])) _
    refine st561 _ ?_
    refine XS.astore X561.here hx rfl (hb hby at_112) rfl rfl (l' := #[.val (.int p1), .val (.int p2), .val (.int p3), .val (.int p4), .val (.int nn), .val (.int af0), .val (.int af1), .val (.int af2), .val (.int bf0), .val (.int bf1), .val (.int bf2), .val (.int cf0), .val (.int cf1), .val (.int cf2), .val (.ref b548), .val (.ref b555), .unset, .unset, .unset, .unset, .unset, .unset, .unset, .unset, .unset, .unset]) rfl ?_
    refine XS.iconst X561.here hx rfl (hb hby at_114) ?_
    show Steps _ _ _ (T561.setTop (mkF m 115 #[.val (.int p1), .val (.int p2), .val (.int p3), .val (.int p4), .val (.int nn), .val (.int af0), .val (.int af1), .val (.int af2), .val (.int bf0), .val (.int bf1), .val (.int bf2), .val (.int cf0), .val (.int cf1), .val (.int cf2), .val (.ref b548), .val (.ref b555), .unset, .unset, .unset, .unset, .unset, .unset, .unset, .unset, .unset, .unset] [(.int (3 : Int32))])) _
    refine st562 _ ?_
    refine XS.dup X562.here hx rfl (hb hby at_117) rfl rfl ?_
    refine XS.iconst X562.here hx rfl (hb hby at_118) ?_
    refine XS.iload X562.here hx rfl (hb hby at_119) rfl ?_
    show Steps _ _ _ (T562.setTop (mkF m 121 #[.val (.int p1), .val (.int p2), .val (.int p3), .val (.int p4), .val (.int nn), .val (.int af0), .val (.int af1), .val (.int af2), .val (.int bf0), .val (.int bf1), .val (.int bf2), .val (.int cf0), .val (.int cf1), .val (.int cf2), .val (.ref b548), .val (.ref b555), .unset, .unset, .unset, .unset, .unset, .unset, .unset, .unset, .unset, .unset] [(.int cf0), (.int (0 : Int32)), (.ref b562), (.ref b562)])) _
    refine XS.i2dS X562.here hx rfl (hb hby at_121) rfl (v := (FP.l2d cv0)) ((i2d_w _).trans (congrArg FP.l2d hcv0)) ?_
    show Steps _ _ _ (T562.setTop (mkF m 122 #[.val (.int p1), .val (.int p2), .val (.int p3), .val (.int p4), .val (.int nn), .val (.int af0), .val (.int af1), .val (.int af2), .val (.int bf0), .val (.int bf1), .val (.int bf2), .val (.int cf0), .val (.int cf1), .val (.int cf2), .val (.ref b548), .val (.ref b555), .unset, .unset, .unset, .unset, .unset, .unset, .unset, .unset, .unset, .unset] [(.double (FP.l2d cv0)), (.int (0 : Int32)), (.ref b562), (.ref b562)])) _
    refine st568 _ ?_
    refine XS.dup X568.here hx rfl (hb hby at_123) rfl rfl ?_
    refine XS.iconst X568.here hx rfl (hb hby at_124) ?_
    refine XS.iload X568.here hx rfl (hb hby at_125) rfl ?_
    show Steps _ _ _ (T568.setTop (mkF m 127 #[.val (.int p1), .val (.int p2), .val (.int p3), .val (.int p4), .val (.int nn), .val (.int af0), .val (.int af1), .val (.int af2), .val (.int bf0), .val (.int bf1), .val (.int bf2), .val (.int cf0), .val (.int cf1), .val (.int cf2), .val (.ref b548), .val (.ref b555), .unset, .unset, .unset, .unset, .unset, .unset, .unset, .unset, .unset, .unset] [(.int cf1), (.int (1 : Int32)), (.ref b562), (.ref b562)])) _
    refine XS.i2dS X568.here hx rfl (hb hby at_127) rfl (v := (FP.l2d cv1)) ((i2d_w _).trans (congrArg FP.l2d hcv1)) ?_
    show Steps _ _ _ (T568.setTop (mkF m 128 #[.val (.int p1), .val (.int p2), .val (.int p3), .val (.int p4), .val (.int nn), .val (.int af0), .val (.int af1), .val (.int af2), .val (.int bf0), .val (.int bf1), .val (.int bf2), .val (.int cf0), .val (.int cf1), .val (.int cf2), .val (.ref b548), .val (.ref b555), .unset, .unset, .unset, .unset, .unset, .unset, .unset, .unset, .unset, .unset] [(.double (FP.l2d cv1)), (.int (1 : Int32)), (.ref b562), (.ref b562)])) _
    refine st570 _ ?_
    refine XS.dup X570.here hx rfl (hb hby at_129) rfl rfl ?_
    refine XS.iconst X570.here hx rfl (hb hby at_130) ?_
    refine XS.iload X570.here hx rfl (hb hby at_131) rfl ?_
    show Steps _ _ _ (T570.setTop (mkF m 133 #[.val (.int p1), .val (.int p2), .val (.int p3), .val (.int p4), .val (.int nn), .val (.int af0), .val (.int af1), .val (.int af2), .val (.int bf0), .val (.int bf1), .val (.int bf2), .val (.int cf0), .val (.int cf1), .val (.int cf2), .val (.ref b548), .val (.ref b555), .unset, .unset, .unset, .unset, .unset, .unset, .unset, .unset, .unset, .unset] [(.int cf2), (.int (2 : Int32)), (.ref b562), (.ref b562)])) _
    refine XS.i2dS X570.here hx rfl (hb hby at_133) rfl (v := (FP.l2d cv2)) ((i2d_w _).trans (congrArg FP.l2d hcv2)) ?_
    show Steps _ _ _ (T570.setTop (mkF m 134 #[.val (.int p1), .val (.int p2), .val (.int p3), .val (.int p4), .val (.int nn), .val (.int af0), .val (.int af1), .val (.int af2), .val (.int bf0), .val (.int bf1), .val (.int bf2), .val (.int cf0), .val (.int cf1), .val (.int cf2), .val (.ref b548), .val (.ref b555), .unset, .unset, .unset, .unset, .unset, .unset, .unset, .unset, .unset, .unset] [(.double (FP.l2d cv2)), (.int (2 : Int32)), (.ref b562), (.ref b562)])) _
    refine st572 _ ?_
    refine XS.astore X572.here hx rfl (hb hby at_135) rfl rfl (l' := #[.val (.int p1), .val (.int p2), .val (.int p3), .val (.int p4), .val (.int nn), .val (.int af0), .val (.int af1), .val (.int af2), .val (.int bf0), .val (.int bf1), .val (.int bf2), .val (.int cf0), .val (.int cf1), .val (.int cf2), .val (.ref b548), .val (.ref b555), .val (.ref b562), .unset, .unset, .unset, .unset, .unset, .unset, .unset, .unset, .unset]) rfl ?_
    show Steps _ _ _ (T572.setTop (mkF m 137 #[.val (.int p1), .val (.int p2), .val (.int p3), .val (.int p4), .val (.int nn), .val (.int af0), .val (.int af1), .val (.int af2), .val (.int bf0), .val (.int bf1), .val (.int bf2), .val (.int cf0), .val (.int cf1), .val (.int cf2), .val (.ref b548), .val (.ref b555), .val (.ref b562), .unset, .unset, .unset, .unset, .unset, .unset, .unset, .unset, .unset] [])) _
    refine st573 _ ?_
    refine XS.dup X573.here hx rfl (hb hby at_140) rfl rfl ?_
    refine XS.iconst X573.here hx rfl (hb hby at_141) ?_
    show Steps _ _ _ (T573.setTop (mkF m 142 #[.val (.int p1), .val (.int p2), .val (.int p3), .val (.int p4), .val (.int nn), .val (.int af0), .val (.int af1), .val (.int af2), .val (.int bf0), .val (.int bf1), .val (.int bf2), .val (.int cf0), .val (.int cf1), .val (.int cf2), .val (.ref b548), .val (.ref b555), .val (.ref b562), .unset, .unset, .unset, .unset, .unset, .unset, .unset, .unset, .unset] [(.int (3 : Int32)), (.ref b573), (.ref b573)])) _
    refine st582.trans ?_
    show Steps _ _ _ (T582.setTop (mkF m 145 #[.val (.int p1), .val (.int p2), .val (.int p3), .val (.int p4), .val (.int nn), .val (.int af0), .val (.int af1), .val (.int af2), .val (.int bf0), .val (.int bf1), .val (.int bf2), .val (.int cf0), .val (.int cf1), .val (.int cf2), .val (.ref b548), .val (.ref b555), .val (.ref b562), .unset, .unset, .unset, .unset, .unset, .unset, .unset, .unset, .unset] [(.ref b573)])) _
    refine XS.astore X582.here hx rfl (hb hby at_145) rfl rfl (l' := #[.val (.int p1), .val (.int p2), .val (.int p3), .val (.int p4), .val (.int nn), .val (.int af0), .val (.int af1), .val (.int af2), .val (.int bf0), .val (.int bf1), .val (.int bf2), .val (.int cf0), .val (.int cf1), .val (.int cf2), .val (.ref b548), .val (.ref b555), .val (.ref b562), .val (.ref b573), .unset, .unset, .unset, .unset, .unset, .unset, .unset, .unset]) rfl ?_
    refine XS.iload X582.here hx rfl (hb hby at_147) rfl ?_
    refine XS.iconst X582.here hx rfl (hb hby at_149) ?_
    show Steps _ _ _ (T582.setTop (mkF m 150 #[.val (.int p1), .val (.int p2), .val (.int p3), .val (.int p4), .val (.int nn), .val (.int af0), .val (.int af1), .val (.int af2), .val (.int bf0), .val (.int bf1), .val (.int bf2), .val (.int cf0), .val (.int cf1), .val (.int cf2), .val (.ref b548), .val (.ref b555), .val (.ref b562), .val (.ref b573), .unset, .unset, .unset, .unset, .unset, .unset, .unset, .unset] [(.int (1 : Int32)), (.int nn)])) _
    exact kt
  rcases own_n4 p4 with h4 | h4 | h4 | h4 <;> (rw [hnn] at h4; subst h4)
  ·
    have f588 := f585.keep Kc582 (ninS (Nat.ne_of_lt lt_b562_b573) nin0)
    obtain ⟨cq587, kq587, q587a, q587b, q587c⟩ := isOf hZ rfl Ea582
    obtain ⟨_, _, ⟨T587, L587, k587, n587⟩, -, X587, ⟨Lc587, hQ587, l587, y587, z587⟩, st587⟩ := X582.virtualBack hx (y := (⟨"com/example/lineament/lineament/math/OuterProductSum", "along", "([D)D"⟩ : MethodName)) (z := (⟨"com/example/lineament/lineament/math/OuterProductSum", "along", "([D)D"⟩ : MethodName)) hown (mvT hZ (hw _ (List.mem_of_getElem? (i := 39) rfl))) (mvT hZ (hw _ (List.mem_of_getElem? (i := 40) rfl))) (notFace_of_selects (args := #[]) (mvT hZ (hw _ (List.mem_of_getElem? (i := 42) rfl)))) (mvT hZ (hw _ (List.mem_of_getElem? (i := 42) rfl))) (mvT hZ (hw _ (List.mem_of_getElem? (i := 41) rfl))) (by decide) (backOf (W := 0) (rmAL l Z a0 hw [] b573 b562 sm ks k562 0 0 0 0 0 0 0 0 0 cv0 cv1 cv2 T582.heap n0 (Nat.le_trans Z0 K582.1) Ea582 Fd582 Fsum582 Vs582 f588 (own_Bm own_B0 (by decide)) (own_Bm own_B0 (by decide)) (own_Bm own_B0 (by decide)) (own_Bm own_B0 (by decide)) (own_Bm own_B0 (by decide)) (own_Bm own_B0 (by decide)) (own_Bm own_B0 (by decide)) (own_Bm own_B0 (by decide)) (own_Bm own_B0 (by decide)) B_cv0 B_cv1 B_cv2) hZ (hw _ (List.mem_of_getElem? (i := 43) rfl)) (hw _ (List.mem_of_getElem? (i := 7) rfl)) (by decide) (by decide)) q587a q587c (g := (mkF m 291 #[.val (.int p1), .val (.int p2), .val (.int p3), .val (.int p4), .val (.int (0 : Int32)), .val (.int af0), .val (.int af1), .val (.int af2), .val (.int bf0), .val (.int bf1), .val (.int bf2), .val (.int cf0), .val (.int cf1), .val (.int cf2), .val (.ref b548), .val (.ref b555), .val (.ref b562), .val (.ref b573), .val (.long (((av0 * cv0) + (av1 * cv1)) + (av2 * cv2))), .second, .val (.long (((bv0 * cv0) + (bv1 * cv1)) + (bv2 * cv2))), .second, .val (.long (0 : Int64)), .second, .unset, .unset] [(.ref b562), (.ref b573)])) rfl (by rw [hml]; rfl) (Steps.refl _) (argsL := [(.ref b562)]) (rest := []) (lenOf pd_5 rfl) rfl (by show 2 * 0 + _ ≤ _; exact Nat.le_of_eq rfl) (hb hby at_291) (fun _ _ => ⟨rfl, rfl, (by decide : 7 + 0 ≤ _), (by decide : 42 + 0 ≤ _)⟩)
    dsimp only [Pt.U, Pt.locs, Pt.cells, Pt.slots] at X587 l587 y587 z587 st587 hQ587
    rw [l587, y587, z587] at X587
    obtain ⟨hv587, Nq587, eq587, Bal587⟩ := hQ587
    rw [hv587] at st587
    have N587 := Fr.app N582 Nq587
    have eqr : (own_along 0 0 0 0 0 0 0 0 0 cv0 cv1 cv2) = (0 : Int64) := by simp only [own_along]; grind
    obtain ⟨fs, hr, hrun, hended, hW, hsame⟩ := X587.leave (v := some (.int (1 : Int32))) (fun h => by rw [Bd.returns] at h; cases h)
    refine ⟨_, _, ?_, hrun, hended, _, _, rfl, ?_, ⟨_, rfl⟩, hW, hsame.mono (by decide) (by decide)⟩
    · refine R586 _ ?_
      show Steps p.tables e below (T582.setTop (mkF m 150 #[.val (.int p1), .val (.int p2), .val (.int p3), .val (.int p4), .val (.int (0 : Int32)), .val (.int af0), .val (.int af1), .val (.int af2), .val (.int bf0), .val (.int bf1), .val (.int bf2), .val (.int cf0), .val (.int cf1), .val (.int cf2), .val (.ref b548), .val (.ref b555), .val (.ref b562), .val (.ref b573), .unset, .unset, .unset, .unset, .unset, .unset, .unset, .unset] [(.int (1 : Int32)), (.int (0 : Int32))])) _
      refine XS.icmpYes X582.here hx rfl (pc0 := 150) (pc' := 160) rfl (hb hby at_150) rfl (by decide) (by decide) (by decide) ?_
      refine XS.iload X582.here hx rfl (hb hby at_160) rfl ?_
      refine XS.iconst X582.here hx rfl (hb hby at_162) ?_
      refine XS.icmpYes X582.here hx rfl (pc0 := 163) (pc' := 173) rfl (hb hby at_163) rfl (by decide) (by decide) (by decide) ?_
      show Steps _ _ _ (T582.setTop (mkF m 173 #[.val (.int p1), .val (.int p2), .val (.int p3), .val (.int p4), .val (.int (0 : Int32)), .val (.int af0), .val (.int af1), .val (.int af2), .val (.int bf0), .val (.int bf1), .val (.int bf2), .val (.int cf0), .val (.int cf1), .val (.int cf2), .val (.ref b548), .val (.ref b555), .val (.ref b562), .val (.ref b573), .unset, .unset, .unset, .unset, .unset, .unset, .unset, .unset] [])) _
      refine XS.iload X582.here hx rfl (hb hby at_173) rfl ?_
      refine XS.iconst X582.here hx rfl (hb hby at_175) ?_
      refine XS.icmpYes X582.here hx rfl (pc0 := 176) (pc' := 186) rfl (hb hby at_176) rfl (by decide) (by decide) (by decide) ?_
      refine XS.iload X582.here hx rfl (hb hby at_186) rfl ?_
      show Steps _ _ _ (T582.setTop (mkF m 188 #[.val (.int p1), .val (.int p2), .val (.int p3), .val (.int p4), .val (.int (0 : Int32)), .val (.int af0), .val (.int af1), .val (.int af2), .val (.int bf0), .val (.int bf1), .val (.int bf2), .val (.int cf0), .val (.int cf1), .val (.int cf2), .val (.ref b548), .val (.ref b555), .val (.ref b562), .val (.ref b573), .unset, .unset, .unset, .unset, .unset, .unset, .unset, .unset] [(.int af0)])) _
      refine XS.i2l X582.here hx rfl (hb hby at_188) rfl ?_
      show Steps _ _ _ (T582.setTop (mkF m 189 #[.val (.int p1), .val (.int p2), .val (.int p3), .val (.int p4), .val (.int (0 : Int32)), .val (.int af0), .val (.int af1), .val (.int af2), .val (.int bf0), .val (.int bf1), .val (.int bf2), .val (.int cf0), .val (.int cf1), .val (.int cf2), .val (.ref b548), .val (.ref b555), .val (.ref b562), .val (.ref b573), .unset, .unset, .unset, .unset, .unset, .unset, .unset, .unset] [(.long af0.toInt64)])) _
      rw [hav0]
      refine XS.iload X582.here hx rfl (hb hby at_189) rfl ?_
      refine XS.i2l X582.here hx rfl (hb hby at_191) rfl ?_
      show Steps _ _ _ (T582.setTop (mkF m 192 #[.val (.int p1), .val (.int p2), .val (.int p3), .val (.int p4), .val (.int (0 : Int32)), .val (.int af0), .val (.int af1), .val (.int af2), .val (.int bf0), .val (.int bf1), .val (.int bf2), .val (.int cf0), .val (.int cf1), .val (.int cf2), .val (.ref b548), .val (.ref b555), .val (.ref b562), .val (.ref b573), .unset, .unset, .unset, .unset, .unset, .unset, .unset, .unset] [(.long cf0.toInt64), (.long av0)])) _
      rw [hcv0]
      refine XS.lmul X582.here hx rfl (hb hby at_192) rfl ?_
      refine XS.iload X582.here hx rfl (hb hby at_193) rfl ?_
      refine XS.i2l X582.here hx rfl (hb hby at_195) rfl ?_
      show Steps _ _ _ (T582.setTop (mkF m 196 #[.val (.int p1), .val (.int p2), .val (.int p3), .val (.int p4), .val (.int (0 : Int32)), .val (.int af0), .val (.int af1), .val (.int af2), .val (.int bf0), .val (.int bf1), .val (.int bf2), .val (.int cf0), .val (.int cf1), .val (.int cf2), .val (.ref b548), .val (.ref b555), .val (.ref b562), .val (.ref b573), .unset, .unset, .unset, .unset, .unset, .unset, .unset, .unset] [(.long af1.toInt64), (.long (av0 * cv0))])) _
      rw [hav1]
      refine XS.iload X582.here hx rfl (hb hby at_196) rfl ?_
      refine XS.i2l X582.here hx rfl (hb hby at_198) rfl ?_
      show Steps _ _ _ (T582.setTop (mkF m 199 #[.val (.int p1), .val (.int p2), .val (.int p3), .val (.int p4), .val (.int (0 : Int32)), .val (.int af0), .val (.int af1), .val (.int af2), .val (.int bf0), .val (.int bf1), .val (.int bf2), .val (.int cf0), .val (.int cf1), .val (.int cf2), .val (.ref b548), .val (.ref b555), .val (.ref b562), .val (.ref b573), .unset, .unset, .unset, .unset, .unset, .unset, .unset, .unset] [(.long cf1.toInt64), (.long av1), (.long (av0 * cv0))])) _
      rw [hcv1]
      refine XS.lmul X582.here hx rfl (hb hby at_199) rfl ?_
      refine XS.ladd X582.here hx rfl (hb hby at_200) rfl ?_
      refine XS.iload X582.here hx rfl (hb hby at_201) rfl ?_
      refine XS.i2l X582.here hx rfl (hb hby at_203) rfl ?_
      show Steps _ _ _ (T582.setTop (mkF m 204 #[.val (.int p1), .val (.int p2), .val (.int p3), .val (.int p4), .val (.int (0 : Int32)), .val (.int af0), .val (.int af1), .val (.int af2), .val (.int bf0), .val (.int bf1), .val (.int bf2), .val (.int cf0), .val (.int cf1), .val (.int cf2), .val (.ref b548), .val (.ref b555), .val (.ref b562), .val (.ref b573), .unset, .unset, .unset, .unset, .unset, .unset, .unset, .unset] [(.long af2.toInt64), (.long ((av0 * cv0) + (av1 * cv1)))])) _
      rw [hav2]
      refine XS.iload X582.here hx rfl (hb hby at_204) rfl ?_
      refine XS.i2l X582.here hx rfl (hb hby at_206) rfl ?_
      show Steps _ _ _ (T582.setTop (mkF m 207 #[.val (.int p1), .val (.int p2), .val (.int p3), .val (.int p4), .val (.int (0 : Int32)), .val (.int af0), .val (.int af1), .val (.int af2), .val (.int bf0), .val (.int bf1), .val (.int bf2), .val (.int cf0), .val (.int cf1), .val (.int cf2), .val (.ref b548), .val (.ref b555), .val (.ref b562), .val (.ref b573), .unset, .unset, .unset, .unset, .unset, .unset, .unset, .unset] [(.long cf2.toInt64), (.long av2), (.long ((av0 * cv0) + (av1 * cv1)))])) _
      rw [hcv2]
      refine XS.lmul X582.here hx rfl (hb hby at_207) rfl ?_
      refine XS.ladd X582.here hx rfl (hb hby at_208) rfl ?_
      refine XS.lstore X582.here hx rfl (hb hby at_209) rfl (l' := #[.val (.int p1), .val (.int p2), .val (.int p3), .val (.int p4), .val (.int (0 : Int32)), .val (.int af0), .val (.int af1), .val (.int af2), .val (.int bf0), .val (.int bf1), .val (.int bf2), .val (.int cf0), .val (.int cf1), .val (.int cf2), .val (.ref b548), .val (.ref b555), .val (.ref b562), .val (.ref b573), .val (.long (((av0 * cv0) + (av1 * cv1)) + (av2 * cv2))), .second, .unset, .unset, .unset, .unset, .unset, .unset]) rfl ?_
      refine XS.iload X582.here hx rfl (hb hby at_211) rfl ?_
      show Steps _ _ _ (T582.setTop (mkF m 213 #[.val (.int p1), .val (.int p2), .val (.int p3), .val (.int p4), .val (.int (0 : Int32)), .val (.int af0), .val (.int af1), .val (.int af2), .val (.int bf0), .val (.int bf1), .val (.int bf2), .val (.int cf0), .val (.int cf1), .val (.int cf2), .val (.ref b548), .val (.ref b555), .val (.ref b562), .val (.ref b573), .val (.long (((av0 * cv0) + (av1 * cv1)) + (av2 * cv2))), .second, .unset, .unset, .unset, .unset, .unset, .unset] [(.int bf0)])) _
      refine XS.i2l X582.here hx rfl (hb hby at_213) rfl ?_
      show Steps _ _ _ (T582.setTop (mkF m 214 #[.val (.int p1), .val (.int p2), .val (.int p3), .val (.int p4), .val (.int (0 : Int32)), .val (.int af0), .val (.int af1), .val (.int af2), .val (.int bf0), .val (.int bf1), .val (.int bf2), .val (.int cf0), .val (.int cf1), .val (.int cf2), .val (.ref b548), .val (.ref b555), .val (.ref b562), .val (.ref b573), .val (.long (((av0 * cv0) + (av1 * cv1)) + (av2 * cv2))), .second, .unset, .unset, .unset, .unset, .unset, .unset] [(.long bf0.toInt64)])) _
      rw [hbv0]
      refine XS.iload X582.here hx rfl (hb hby at_214) rfl ?_
      refine XS.i2l X582.here hx rfl (hb hby at_216) rfl ?_
      show Steps _ _ _ (T582.setTop (mkF m 217 #[.val (.int p1), .val (.int p2), .val (.int p3), .val (.int p4), .val (.int (0 : Int32)), .val (.int af0), .val (.int af1), .val (.int af2), .val (.int bf0), .val (.int bf1), .val (.int bf2), .val (.int cf0), .val (.int cf1), .val (.int cf2), .val (.ref b548), .val (.ref b555), .val (.ref b562), .val (.ref b573), .val (.long (((av0 * cv0) + (av1 * cv1)) + (av2 * cv2))), .second, .unset, .unset, .unset, .unset, .unset, .unset] [(.long cf0.toInt64), (.long bv0)])) _
      rw [hcv0]
      refine XS.lmul X582.here hx rfl (hb hby at_217) rfl ?_
      refine XS.iload X582.here hx rfl (hb hby at_218) rfl ?_
      refine XS.i2l X582.here hx rfl (hb hby at_220) rfl ?_
      show Steps _ _ _ (T582.setTop (mkF m 221 #[.val (.int p1), .val (.int p2), .val (.int p3), .val (.int p4), .val (.int (0 : Int32)), .val (.int af0), .val (.int af1), .val (.int af2), .val (.int bf0), .val (.int bf1), .val (.int bf2), .val (.int cf0), .val (.int cf1), .val (.int cf2), .val (.ref b548), .val (.ref b555), .val (.ref b562), .val (.ref b573), .val (.long (((av0 * cv0) + (av1 * cv1)) + (av2 * cv2))), .second, .unset, .unset, .unset, .unset, .unset, .unset] [(.long bf1.toInt64), (.long (bv0 * cv0))])) _
      rw [hbv1]
      refine XS.iload X582.here hx rfl (hb hby at_221) rfl ?_
      refine XS.i2l X582.here hx rfl (hb hby at_223) rfl ?_
      show Steps _ _ _ (T582.setTop (mkF m 224 #[.val (.int p1), .val (.int p2), .val (.int p3), .val (.int p4), .val (.int (0 : Int32)), .val (.int af0), .val (.int af1), .val (.int af2), .val (.int bf0), .val (.int bf1), .val (.int bf2), .val (.int cf0), .val (.int cf1), .val (.int cf2), .val (.ref b548), .val (.ref b555), .val (.ref b562), .val (.ref b573), .val (.long (((av0 * cv0) + (av1 * cv1)) + (av2 * cv2))), .second, .unset, .unset, .unset, .unset, .unset, .unset] [(.long cf1.toInt64), (.long bv1), (.long (bv0 * cv0))])) _
      rw [hcv1]
      refine XS.lmul X582.here hx rfl (hb hby at_224) rfl ?_
      refine XS.ladd X582.here hx rfl (hb hby at_225) rfl ?_
      refine XS.iload X582.here hx rfl (hb hby at_226) rfl ?_
      refine XS.i2l X582.here hx rfl (hb hby at_228) rfl ?_
      show Steps _ _ _ (T582.setTop (mkF m 229 #[.val (.int p1), .val (.int p2), .val (.int p3), .val (.int p4), .val (.int (0 : Int32)), .val (.int af0), .val (.int af1), .val (.int af2), .val (.int bf0), .val (.int bf1), .val (.int bf2), .val (.int cf0), .val (.int cf1), .val (.int cf2), .val (.ref b548), .val (.ref b555), .val (.ref b562), .val (.ref b573), .val (.long (((av0 * cv0) + (av1 * cv1)) + (av2 * cv2))), .second, .unset, .unset, .unset, .unset, .unset, .unset] [(.long bf2.toInt64), (.long ((bv0 * cv0) + (bv1 * cv1)))])) _
      rw [hbv2]
      refine XS.iload X582.here hx rfl (hb hby at_229) rfl ?_
      refine XS.i2l X582.here hx rfl (hb hby at_231) rfl ?_
      show Steps _ _ _ (T582.setTop (mkF m 232 #[.val (.int p1), .val (.int p2), .val (.int p3), .val (.int p4), .val (.int (0 : Int32)), .val (.int af0), .val (.int af1), .val (.int af2), .val (.int bf0), .val (.int bf1), .val (.int bf2), .val (.int cf0), .val (.int cf1), .val (.int cf2), .val (.ref b548), .val (.ref b555), .val (.ref b562), .val (.ref b573), .val (.long (((av0 * cv0) + (av1 * cv1)) + (av2 * cv2))), .second, .unset, .unset, .unset, .unset, .unset, .unset] [(.long cf2.toInt64), (.long bv2), (.long ((bv0 * cv0) + (bv1 * cv1)))])) _
      rw [hcv2]
      refine XS.lmul X582.here hx rfl (hb hby at_232) rfl ?_
      refine XS.ladd X582.here hx rfl (hb hby at_233) rfl ?_
      refine XS.lstore X582.here hx rfl (hb hby at_234) rfl (l' := #[.val (.int p1), .val (.int p2), .val (.int p3), .val (.int p4), .val (.int (0 : Int32)), .val (.int af0), .val (.int af1), .val (.int af2), .val (.int bf0), .val (.int bf1), .val (.int bf2), .val (.int cf0), .val (.int cf1), .val (.int cf2), .val (.ref b548), .val (.ref b555), .val (.ref b562), .val (.ref b573), .val (.long (((av0 * cv0) + (av1 * cv1)) + (av2 * cv2))), .second, .val (.long (((bv0 * cv0) + (bv1 * cv1)) + (bv2 * cv2))), .second, .unset, .unset, .unset, .unset]) rfl ?_
      refine XS.lconst X582.here hx rfl (hb hby at_236) ?_
      show Steps _ _ _ (T582.setTop (mkF m 237 #[.val (.int p1), .val (.int p2), .val (.int p3), .val (.int p4), .val (.int (0 : Int32)), .val (.int af0), .val (.int af1), .val (.int af2), .val (.int bf0), .val (.int bf1), .val (.int bf2), .val (.int cf0), .val (.int cf1), .val (.int cf2), .val (.ref b548), .val (.ref b555), .val (.ref b562), .val (.ref b573), .val (.long (((av0 * cv0) + (av1 * cv1)) + (av2 * cv2))), .second, .val (.long (((bv0 * cv0) + (bv1 * cv1)) + (bv2 * cv2))), .second, .unset, .unset, .unset, .unset] [(.long (0 : Int64))])) _
      refine XS.lstore X582.here hx rfl (hb hby at_237) rfl (l' := #[.val (.int p1), .val (.int p2), .val (.int p3), .val (.int p4), .val (.int (0 : Int32)), .val (.int af0), .val (.int af1), .val (.int af2), .val (.int bf0), .val (.int bf1), .val (.int bf2), .val (.int cf0), .val (.int cf1), .val (.int cf2), .val (.ref b548), .val (.ref b555), .val (.ref b562), .val (.ref b573), .val (.long (((av0 * cv0) + (av1 * cv1)) + (av2 * cv2))), .second, .val (.long (((bv0 * cv0) + (bv1 * cv1)) + (bv2 * cv2))), .second, .val (.long (0 : Int64)), .second, .unset, .unset]) rfl ?_
      refine XS.iload X582.here hx rfl (hb hby at_239) rfl ?_
      refine XS.iconst X582.here hx rfl (hb hby at_241) ?_
      refine XS.icmpYes X582.here hx rfl (pc0 := 242) (pc' := 255) rfl (hb hby at_242) rfl (by decide) (by decide) (by decide) ?_
      show Steps _ _ _ (T582.setTop (mkF m 255 #[.val (.int p1), .val (.int p2), .val (.int p3), .val (.int p4), .val (.int (0 : Int32)), .val (.int af0), .val (.int af1), .val (.int af2), .val (.int bf0), .val (.int bf1), .val (.int bf2), .val (.int cf0), .val (.int cf1), .val (.int cf2), .val (.ref b548), .val (.ref b555), .val (.ref b562), .val (.ref b573), .val (.long (((av0 * cv0) + (av1 * cv1)) + (av2 * cv2))), .second, .val (.long (((bv0 * cv0) + (bv1 * cv1)) + (bv2 * cv2))), .second, .val (.long (0 : Int64)), .second, .unset, .unset] [])) _
      refine XS.iload X582.here hx rfl (hb hby at_255) rfl ?_
      refine XS.iconst X582.here hx rfl (hb hby at_257) ?_
      refine XS.icmpYes X582.here hx rfl (pc0 := 258) (pc' := 271) rfl (hb hby at_258) rfl (by decide) (by decide) (by decide) ?_
      refine XS.iload X582.here hx rfl (hb hby at_271) rfl ?_
      show Steps _ _ _ (T582.setTop (mkF m 273 #[.val (.int p1), .val (.int p2), .val (.int p3), .val (.int p4), .val (.int (0 : Int32)), .val (.int af0), .val (.int af1), .val (.int af2), .val (.int bf0), .val (.int bf1), .val (.int bf2), .val (.int cf0), .val (.int cf1), .val (.int cf2), .val (.ref b548), .val (.ref b555), .val (.ref b562), .val (.ref b573), .val (.long (((av0 * cv0) + (av1 * cv1)) + (av2 * cv2))), .second, .val (.long (((bv0 * cv0) + (bv1 * cv1)) + (bv2 * cv2))), .second, .val (.long (0 : Int64)), .second, .unset, .unset] [(.int (0 : Int32))])) _
      refine XS.iconst X582.here hx rfl (hb hby at_273) ?_
      refine XS.icmpYes X582.here hx rfl (pc0 := 274) (pc' := 287) rfl (hb hby at_274) rfl (by decide) (by decide) (by decide) ?_
      refine XS.aload X582.here hx rfl (hb hby at_287) rfl rfl ?_
      refine XS.aload X582.here hx rfl (hb hby at_289) rfl rfl ?_
      show Steps _ _ _ (T582.setTop (mkF m 291 #[.val (.int p1), .val (.int p2), .val (.int p3), .val (.int p4), .val (.int (0 : Int32)), .val (.int af0), .val (.int af1), .val (.int af2), .val (.int bf0), .val (.int bf1), .val (.int bf2), .val (.int cf0), .val (.int cf1), .val (.int cf2), .val (.ref b548), .val (.ref b555), .val (.ref b562), .val (.ref b573), .val (.long (((av0 * cv0) + (av1 * cv1)) + (av2 * cv2))), .second, .val (.long (((bv0 * cv0) + (bv1 * cv1)) + (bv2 * cv2))), .second, .val (.long (0 : Int64)), .second, .unset, .unset] [(.ref b562), (.ref b573)])) _
      refine st587.trans ?_
      show Steps _ _ _ (T587.setTop (mkF m 294 #[.val (.int p1), .val (.int p2), .val (.int p3), .val (.int p4), .val (.int (0 : Int32)), .val (.int af0), .val (.int af1), .val (.int af2), .val (.int bf0), .val (.int bf1), .val (.int bf2), .val (.int cf0), .val (.int cf1), .val (.int cf2), .val (.ref b548), .val (.ref b555), .val (.ref b562), .val (.ref b573), .val (.long (((av0 * cv0) + (av1 * cv1)) + (av2 * cv2))), .second, .val (.long (((bv0 * cv0) + (bv1 * cv1)) + (bv2 * cv2))), .second, .val (.long (0 : Int64)), .second, .unset, .unset] [(.double (FP.l2d (own_along 0 0 0 0 0 0 0 0 0 cv0 cv1 cv2)))])) _
      refine XS.dstore X587.here hx rfl (hb hby at_294) rfl (l' := #[.val (.int p1), .val (.int p2), .val (.int p3), .val (.int p4), .val (.int (0 : Int32)), .val (.int af0), .val (.int af1), .val (.int af2), .val (.int bf0), .val (.int bf1), .val (.int bf2), .val (.int cf0), .val (.int cf1), .val (.int cf2), .val (.ref b548), .val (.ref b555), .val (.ref b562), .val (.ref b573), .val (.long (((av0 * cv0) + (av1 * cv1)) + (av2 * cv2))), .second, .val (.long (((bv0 * cv0) + (bv1 * cv1)) + (bv2 * cv2))), .second, .val (.long (0 : Int64)), .second, .val (.double (FP.l2d (own_along 0 0 0 0 0 0 0 0 0 cv0 cv1 cv2))), .second]) rfl ?_
      refine XS.dload X587.here hx rfl (hb hby at_296) rfl ?_
      refine XS.lload X587.here hx rfl (hb hby at_298) rfl ?_
      refine XS.l2dS X587.here hx rfl (hb hby at_300) rfl (v := (FP.l2d (0 : Int64))) rfl ?_
      show Steps _ _ _ (T587.setTop (mkF m 301 #[.val (.int p1), .val (.int p2), .val (.int p3), .val (.int p4), .val (.int (0 : Int32)), .val (.int af0), .val (.int af1), .val (.int af2), .val (.int bf0), .val (.int bf1), .val (.int bf2), .val (.int cf0), .val (.int cf1), .val (.int cf2), .val (.ref b548), .val (.ref b555), .val (.ref b562), .val (.ref b573), .val (.long (((av0 * cv0) + (av1 * cv1)) + (av2 * cv2))), .second, .val (.long (((bv0 * cv0) + (bv1 * cv1)) + (bv2 * cv2))), .second, .val (.long (0 : Int64)), .second, .val (.double (FP.l2d (own_along 0 0 0 0 0 0 0 0 0 cv0 cv1 cv2))), .second] [(.double (FP.l2d (0 : Int64))), (.double (FP.l2d (own_along 0 0 0 0 0 0 0 0 0 cv0 cv1 cv2)))])) _
      refine XS.dcmpS X587.here hx rfl (hb hby at_301) rfl (v := (0 : Int32)) (own_cmpEq eqr _) ?_
      refine XS.ifNo X587.here hx rfl (hb hby at_302) rfl (by decide) ?_
      refine XS.iconst X587.here hx rfl (hb hby at_305) ?_
      refine XS.goto X587.here hx rfl (pc0 := 306) (pc' := 310) rfl (hb hby at_306) (by decide) (by decide) ?_
      show Steps _ _ _ (T587.setTop (mkF m 310 #[.val (.int p1), .val (.int p2), .val (.int p3), .val (.int p4), .val (.int (0 : Int32)), .val (.int af0), .val (.int af1), .val (.int af2), .val (.int bf0), .val (.int bf1), .val (.int bf2), .val (.int cf0), .val (.int cf1), .val (.int cf2), .val (.ref b548), .val (.ref b555), .val (.ref b562), .val (.ref b573), .val (.long (((av0 * cv0) + (av1 * cv1)) + (av2 * cv2))), .second, .val (.long (((bv0 * cv0) + (bv1 * cv1)) + (bv2 * cv2))), .second, .val (.long (0 : Int64)), .second, .val (.double (FP.l2d (own_along 0 0 0 0 0 0 0 0 0 cv0 cv1 cv2))), .second] [(.int (1 : Int32))])) _
      exact retN X587 hx (t := .boolean) Bd.returns (by simp) (hb hby at_310) hr
    · show Q0 Z p1 p2 p3 p4 h0 n0 _ T587.heap _
      rw [eq587]
      exact ⟨rfl, N587⟩
  ·
    have f590 := f583.keep Kc582 (ninS (Nat.ne_of_lt lt_b548_b573) nin0)
    obtain ⟨cq589, kq589, q589a, q589b, q589c⟩ := isOf hZ rfl Ea582
    obtain ⟨_, _, ⟨T589, L589, k589, n589⟩, -, X589, ⟨Lc589, hQ589, l589, y589, z589⟩, st589⟩ := X582.virtualBack hx (y := (⟨"com/example/lineament/lineament/math/OuterProductSum", "add", "([D)V"⟩ : MethodName)) (z := (⟨"com/example/lineament/lineament/math/OuterProductSum", "add", "([D)V"⟩ : MethodName)) hown (mvT hZ (hw _ (List.mem_of_getElem? (i := 22) rfl))) (mvT hZ (hw _ (List.mem_of_getElem? (i := 23) rfl))) (notFace_of_selects (args := #[]) (mvT hZ (hw _ (List.mem_of_getElem? (i := 25) rfl)))) (mvT hZ (hw _ (List.mem_of_getElem? (i := 25) rfl))) (mvT hZ (hw _ (List.mem_of_getElem? (i := 24) rfl))) (by decide) (backOf (W := 0) (rmAD l Z a0 hw [] b573 b548 sm bs ib ks kbs kib k548 (0 : Int32) 0 0 0 0 0 0 0 0 0 0 0 0 0 0 0 0 0 0 0 av0 av1 av2 T582.heap n0 (Nat.le_trans Z0 K582.1) Ea582 Fd582 Fsum582 Fbasis582 FinBasis582 Fc582 Ft582 Vs582 Vb582 Vi582 f590 (Nat.ne_of_lt lt_b573_sm) (Nat.ne_of_lt lt_b573_ib) (Nat.ne_of_lt lt_b548_sm) (Nat.ne_of_lt lt_b548_ib) (Nat.ne_of_lt lt_b548_b573) (Ne.symm ne_sm_bs) ne_bs_ib ne_sm_ib (Nat.ne_of_gt lt_b573_bs) g_b573 g_sm g_ib (own_Bm own_B0 (by decide)) (own_Bm own_B0 (by decide)) (own_Bm own_B0 (by decide)) (own_Bm own_B0 (by decide)) (own_Bm own_B0 (by decide)) (own_Bm own_B0 (by decide)) (own_Bm own_B0 (by decide)) (own_Bm own_B0 (by decide)) (own_Bm own_B0 (by decide)) (own_Bm own_B0 (by decide)) (own_Bm own_B0 (by decide)) (own_Bm own_B0 (by decide)) (own_Bm own_B0 (by decide)) (own_Bm own_B0 (by decide)) (own_Bm own_B0 (by decide)) (own_Bm own_B0 (by decide)) (own_Bm own_B0 (by decide)) (own_Bm own_B0 (by decide)) (own_Bm own_B0 (by decide)) B_av0 B_av1 B_av2) hZ (hw _ (List.mem_of_getElem? (i := 26) rfl)) (hw _ (List.mem_of_getElem? (i := 7) rfl)) (by decide) (by decide)) q589a q589c (g := (mkF m 157 #[.val (.int p1), .val (.int p2), .val (.int p3), .val (.int p4), .val (.int (1 : Int32)), .val (.int af0), .val (.int af1), .val (.int af2), .val (.int bf0), .val (.int bf1), .val (.int bf2), .val (.int cf0), .val (.int cf1), .val (.int cf2), .val (.ref b548), .val (.ref b555), .val (.ref b562), .val (.ref b573), .unset, .unset, .unset, .unset, .unset, .unset, .unset, .unset] [(.ref b548), (.ref b573)])) rfl (by rw [hml]; rfl) (Steps.refl _) (argsL := [(.ref b548)]) (rest := []) (lenOf pd_1 rfl) rfl (by show 2 * 0 + _ ≤ _; exact Nat.le_of_eq rfl) (hb hby at_157) (fun _ _ => ⟨rfl, rfl, (by decide : 7 + 1 ≤ _), (by decide : 42 + 3 ≤ _)⟩)
    dsimp only [Pt.U, Pt.locs, Pt.cells, Pt.slots] at X589 l589 y589 z589 st589 hQ589
    rw [l589, y589, z589] at X589
    obtain ⟨hv589, Nq589, Kc589, Ea589, Fd589, Fsum589, Fbasis589, FinBasis589, Fc589, Ft589, Vs589, Vi589⟩ := hQ589
    rw [hv589] at st589
    have K589 : Keep h0 T589.heap [] := K582.trans Kc589 (allS (P := fun x => x ∈ [] ∨ h0.size ≤ x) (Or.inr sz_b573) (allS (P := fun x => x ∈ [] ∨ h0.size ≤ x) (Or.inr sz_sm) (allS (P := fun x => x ∈ [] ∨ h0.size ≤ x) (Or.inr sz_ib) all0)))
    have Bq591 := own_fma own_B0 B_av0 B_av0 (by decide) (by decide) (by decide)
    have Bq592 := own_fma own_B0 B_av0 B_av1 (by decide) (by decide) (by decide)
    have Bq593 := own_fma own_B0 B_av0 B_av2 (by decide) (by decide) (by decide)
    have Bq594 := own_fma own_B0 B_av1 B_av0 (by decide) (by decide) (by decide)
    have Bq595 := own_fma own_B0 B_av1 B_av1 (by decide) (by decide) (by decide)
    have Bq596 := own_fma own_B0 B_av1 B_av2 (by decide) (by decide) (by decide)
    have Bq597 := own_fma own_B0 B_av2 B_av0 (by decide) (by decide) (by decide)
    have Bq598 := own_fma own_B0 B_av2 B_av1 (by decide) (by decide) (by decide)
    have Bq599 := own_fma own_B0 B_av2 B_av2 (by decide) (by decide) (by decide)
    have Bq601 := own_fma own_B0 B_av0 B_av0 (by decide) (by decide) (by decide)
    have Bq602 := own_fma Bq601.2 B_av1 B_av1 (by decide) (by decide) (by decide)
    have Bq603 := own_fma Bq602.2 B_av2 B_av2 (by decide) (by decide) (by decide)
    have N589 := Fr.app N582 Nq589
    have f605 := f585.keep Kc582 (ninS (Nat.ne_of_lt lt_b562_b573) nin0)
    have f606 := f605.keep Kc589 (ninS (Nat.ne_of_lt lt_b562_b573) (ninS (Nat.ne_of_lt lt_b562_sm) (ninS (Nat.ne_of_lt lt_b562_ib) nin0)))
    obtain ⟨cq604, kq604, q604a, q604b, q604c⟩ := isOf hZ rfl Ea589
    obtain ⟨_, _, ⟨T604, L604, k604, n604⟩, -, X604, ⟨Lc604, hQ604, l604, y604, z604⟩, st604⟩ := X589.virtualBack hx (y := (⟨"com/example/lineament/lineament/math/OuterProductSum", "along", "([D)D"⟩ : MethodName)) (z := (⟨"com/example/lineament/lineament/math/OuterProductSum", "along", "([D)D"⟩ : MethodName)) hown (mvT hZ (hw _ (List.mem_of_getElem? (i := 39) rfl))) (mvT hZ (hw _ (List.mem_of_getElem? (i := 40) rfl))) (notFace_of_selects (args := #[]) (mvT hZ (hw _ (List.mem_of_getElem? (i := 42) rfl)))) (mvT hZ (hw _ (List.mem_of_getElem? (i := 42) rfl))) (mvT hZ (hw _ (List.mem_of_getElem? (i := 41) rfl))) (by decide) (backOf (W := 0) (rmAL l Z a0 hw [] b573 b562 sm ks k562 (0 + av0 * av0) (0 + av0 * av1) (0 + av0 * av2) (0 + av1 * av0) (0 + av1 * av1) (0 + av1 * av2) (0 + av2 * av0) (0 + av2 * av1) (0 + av2 * av2) cv0 cv1 cv2 T589.heap n0 (Nat.le_trans Z0 K589.1) Ea589 Fd589 Fsum589 Vs589 f606 (own_Bm Bq601.2 (by decide)) (own_Bm Bq592.2 (by decide)) (own_Bm Bq593.2 (by decide)) (own_Bm Bq594.2 (by decide)) (own_Bm Bq595.2 (by decide)) (own_Bm Bq596.2 (by decide)) (own_Bm Bq597.2 (by decide)) (own_Bm Bq598.2 (by decide)) (own_Bm Bq599.2 (by decide)) B_cv0 B_cv1 B_cv2) hZ (hw _ (List.mem_of_getElem? (i := 43) rfl)) (hw _ (List.mem_of_getElem? (i := 7) rfl)) (by decide) (by decide)) q604a q604c (g := (mkF m 291 #[.val (.int p1), .val (.int p2), .val (.int p3), .val (.int p4), .val (.int (1 : Int32)), .val (.int af0), .val (.int af1), .val (.int af2), .val (.int bf0), .val (.int bf1), .val (.int bf2), .val (.int cf0), .val (.int cf1), .val (.int cf2), .val (.ref b548), .val (.ref b555), .val (.ref b562), .val (.ref b573), .val (.long (((av0 * cv0) + (av1 * cv1)) + (av2 * cv2))), .second, .val (.long (((bv0 * cv0) + (bv1 * cv1)) + (bv2 * cv2))), .second, .val (.long ((0 : Int64) + ((((av0 * cv0) + (av1 * cv1)) + (av2 * cv2)) * (((av0 * cv0) + (av1 * cv1)) + (av2 * cv2))))), .second, .unset, .unset] [(.ref b562), (.ref b573)])) rfl (by rw [hml]; rfl) (Steps.refl _) (argsL := [(.ref b562)]) (rest := []) (lenOf pd_5 rfl) rfl (by show 2 * 0 + _ ≤ _; exact Nat.le_of_eq rfl) (hb hby at_291) (fun _ _ => ⟨rfl, rfl, (by decide : 8 + 0 ≤ _), (by decide : 45 + 0 ≤ _)⟩)
    dsimp only [Pt.U, Pt.locs, Pt.cells, Pt.slots] at X604 l604 y604 z604 st604 hQ604
    rw [l604, y604, z604] at X604
    obtain ⟨hv604, Nq604, eq604, Bal604⟩ := hQ604
    rw [hv604] at st604
    have N604 := Fr.app N589 Nq604
    have eqr : (own_along (0 + av0 * av0) (0 + av0 * av1) (0 + av0 * av2) (0 + av1 * av0) (0 + av1 * av1) (0 + av1 * av2) (0 + av2 * av0) (0 + av2 * av1) (0 + av2 * av2) cv0 cv1 cv2) = ((0 : Int64) + ((((av0 * cv0) + (av1 * cv1)) + (av2 * cv2)) * (((av0 * cv0) + (av1 * cv1)) + (av2 * cv2)))) := by simp only [own_along]; grind
    obtain ⟨fs, hr, hrun, hended, hW, hsame⟩ := X604.leave (v := some (.int (1 : Int32))) (fun h => by rw [Bd.returns] at h; cases h)
    refine ⟨_, _, ?_, hrun, hended, _, _, rfl, ?_, ⟨_, rfl⟩, hW, hsame.mono (by decide) (by decide)⟩
    · refine R586 _ ?_
      show Steps p.tables e below (T582.setTop (mkF m 150 #[.val (.int p1), .val (.int p2), .val (.int p3), .val (.int p4), .val (.int (1 : Int32)), .val (.int af0), .val (.int af1), .val (.int af2), .val (.int bf0), .val (.int bf1), .val (.int bf2), .val (.int cf0), .val (.int cf1), .val (.int cf2), .val (.ref b548), .val (.ref b555), .val (.ref b562), .val (.ref b573), .unset, .unset, .unset, .unset, .unset, .unset, .unset, .unset] [(.int (1 : Int32)), (.int (1 : Int32))])) _
      refine XS.icmpNo X582.here hx rfl (hb hby at_150) rfl (by decide) ?_
      refine XS.aload X582.here hx rfl (hb hby at_153) rfl rfl ?_
      refine XS.aload X582.here hx rfl (hb hby at_155) rfl rfl ?_
      show Steps _ _ _ (T582.setTop (mkF m 157 #[.val (.int p1), .val (.int p2), .val (.int p3), .val (.int p4), .val (.int (1 : Int32)), .val (.int af0), .val (.int af1), .val (.int af2), .val (.int bf0), .val (.int bf1), .val (.int bf2), .val (.int cf0), .val (.int cf1), .val (.int cf2), .val (.ref b548), .val (.ref b555), .val (.ref b562), .val (.ref b573), .unset, .unset, .unset, .unset, .unset, .unset, .unset, .unset] [(.ref b548), (.ref b573)])) _
      refine st589.trans ?_
      show Steps _ _ _ (T589.setTop (mkF m 160 #[.val (.int p1), .val (.int p2), .val (.int p3), .val (.int p4), .val (.int (1 : Int32)), .val (.int af0), .val (.int af1), .val (.int af2), .val (.int bf0), .val (.int bf1), .val (.int bf2), .val (.int cf0), .val (.int cf1), .val (.int cf2), .val (.ref b548), .val (.ref b555), .val (.ref b562), .val (.ref b573), .unset, .unset, .unset, .unset, .unset, .unset, .unset, .unset] [])) _
      refine XS.iload X589.here hx rfl (hb hby at_160) rfl ?_
      refine XS.iconst X589.here hx rfl (hb hby at_162) ?_
      refine XS.icmpYes X589.here hx rfl (pc0 := 163) (pc' := 173) rfl (hb hby at_163) rfl (by decide) (by decide) (by decide) ?_
      refine XS.iload X589.here hx rfl (hb hby at_173) rfl ?_
      show Steps _ _ _ (T589.setTop (mkF m 175 #[.val (.int p1), .val (.int p2), .val (.int p3), .val (.int p4), .val (.int (1 : Int32)), .val (.int af0), .val (.int af1), .val (.int af2), .val (.int bf0), .val (.int bf1), .val (.int bf2), .val (.int cf0), .val (.int cf1), .val (.int cf2), .val (.ref b548), .val (.ref b555), .val (.ref b562), .val (.ref b573), .unset, .unset, .unset, .unset, .unset, .unset, .unset, .unset] [(.int (1 : Int32))])) _
      refine XS.iconst X589.here hx rfl (hb hby at_175) ?_
      refine XS.icmpYes X589.here hx rfl (pc0 := 176) (pc' := 186) rfl (hb hby at_176) rfl (by decide) (by decide) (by decide) ?_
      refine XS.iload X589.here hx rfl (hb hby at_186) rfl ?_
      refine XS.i2l X589.here hx rfl (hb hby at_188) rfl ?_
      show Steps _ _ _ (T589.setTop (mkF m 189 #[.val (.int p1), .val (.int p2), .val (.int p3), .val (.int p4), .val (.int (1 : Int32)), .val (.int af0), .val (.int af1), .val (.int af2), .val (.int bf0), .val (.int bf1), .val (.int bf2), .val (.int cf0), .val (.int cf1), .val (.int cf2), .val (.ref b548), .val (.ref b555), .val (.ref b562), .val (.ref b573), .unset, .unset, .unset, .unset, .unset, .unset, .unset, .unset] [(.long af0.toInt64)])) _
      rw [hav0]
      refine XS.iload X589.here hx rfl (hb hby at_189) rfl ?_
      refine XS.i2l X589.here hx rfl (hb hby at_191) rfl ?_
      show Steps _ _ _ (T589.setTop (mkF m 192 #[.val (.int p1), .val (.int p2), .val (.int p3), .val (.int p4), .val (.int (1 : Int32)), .val (.int af0), .val (.int af1), .val (.int af2), .val (.int bf0), .val (.int bf1), .val (.int bf2), .val (.int cf0), .val (.int cf1), .val (.int cf2), .val (.ref b548), .val (.ref b555), .val (.ref b562), .val (.ref b573), .unset, .unset, .unset, .unset, .unset, .unset, .unset, .unset] [(.long cf0.toInt64), (.long av0)])) _
      rw [hcv0]
      refine XS.lmul X589.here hx rfl (hb hby at_192) rfl ?_
      refine XS.iload X589.here hx rfl (hb hby at_193) rfl ?_
      refine XS.i2l X589.here hx rfl (hb hby at_195) rfl ?_
      show Steps _ _ _ (T589.setTop (mkF m 196 #[.val (.int p1), .val (.int p2), .val (.int p3), .val (.int p4), .val (.int (1 : Int32)), .val (.int af0), .val (.int af1), .val (.int af2), .val (.int bf0), .val (.int bf1), .val (.int bf2), .val (.int cf0), .val (.int cf1), .val (.int cf2), .val (.ref b548), .val (.ref b555), .val (.ref b562), .val (.ref b573), .unset, .unset, .unset, .unset, .unset, .unset, .unset, .unset] [(.long af1.toInt64), (.long (av0 * cv0))])) _
      rw [hav1]
      refine XS.iload X589.here hx rfl (hb hby at_196) rfl ?_
      refine XS.i2l X589.here hx rfl (hb hby at_198) rfl ?_
      show Steps _ _ _ (T589.setTop (mkF m 199 #[.val (.int p1), .val (.int p2), .val (.int p3), .val (.int p4), .val (.int (1 : Int32)), .val (.int af0), .val (.int af1), .val (.int af2), .val (.int bf0), .val (.int bf1), .val (.int bf2), .val (.int cf0), .val (.int cf1), .val (.int cf2), .val (.ref b548), .val (.ref b555), .val (.ref b562), .val (.ref b573), .unset, .unset, .unset, .unset, .unset, .unset, .unset, .unset] [(.long cf1.toInt64), (.long av1), (.long (av0 * cv0))])) _
      rw [hcv1]
      refine XS.lmul X589.here hx rfl (hb hby at_199) rfl ?_
      refine XS.ladd X589.here hx rfl (hb hby at_200) rfl ?_
      refine XS.iload X589.here hx rfl (hb hby at_201) rfl ?_
      refine XS.i2l X589.here hx rfl (hb hby at_203) rfl ?_
      show Steps _ _ _ (T589.setTop (mkF m 204 #[.val (.int p1), .val (.int p2), .val (.int p3), .val (.int p4), .val (.int (1 : Int32)), .val (.int af0), .val (.int af1), .val (.int af2), .val (.int bf0), .val (.int bf1), .val (.int bf2), .val (.int cf0), .val (.int cf1), .val (.int cf2), .val (.ref b548), .val (.ref b555), .val (.ref b562), .val (.ref b573), .unset, .unset, .unset, .unset, .unset, .unset, .unset, .unset] [(.long af2.toInt64), (.long ((av0 * cv0) + (av1 * cv1)))])) _
      rw [hav2]
      refine XS.iload X589.here hx rfl (hb hby at_204) rfl ?_
      refine XS.i2l X589.here hx rfl (hb hby at_206) rfl ?_
      show Steps _ _ _ (T589.setTop (mkF m 207 #[.val (.int p1), .val (.int p2), .val (.int p3), .val (.int p4), .val (.int (1 : Int32)), .val (.int af0), .val (.int af1), .val (.int af2), .val (.int bf0), .val (.int bf1), .val (.int bf2), .val (.int cf0), .val (.int cf1), .val (.int cf2), .val (.ref b548), .val (.ref b555), .val (.ref b562), .val (.ref b573), .unset, .unset, .unset, .unset, .unset, .unset, .unset, .unset] [(.long cf2.toInt64), (.long av2), (.long ((av0 * cv0) + (av1 * cv1)))])) _
      rw [hcv2]
      refine XS.lmul X589.here hx rfl (hb hby at_207) rfl ?_
      refine XS.ladd X589.here hx rfl (hb hby at_208) rfl ?_
      refine XS.lstore X589.here hx rfl (hb hby at_209) rfl (l' := #[.val (.int p1), .val (.int p2), .val (.int p3), .val (.int p4), .val (.int (1 : Int32)), .val (.int af0), .val (.int af1), .val (.int af2), .val (.int bf0), .val (.int bf1), .val (.int bf2), .val (.int cf0), .val (.int cf1), .val (.int cf2), .val (.ref b548), .val (.ref b555), .val (.ref b562), .val (.ref b573), .val (.long (((av0 * cv0) + (av1 * cv1)) + (av2 * cv2))), .second, .unset, .unset, .unset, .unset, .unset, .unset]) rfl ?_
      refine XS.iload X589.here hx rfl (hb hby at_211) rfl ?_
      show Steps _ _ _ (T589.setTop (mkF m 213 #[.val (.int p1), .val (.int p2), .val (.int p3), .val (.int p4), .val (.int (1 : Int32)), .val (.int af0), .val (.int af1), .val (.int af2), .val (.int bf0), .val (.int bf1), .val (.int bf2), .val (.int cf0), .val (.int cf1), .val (.int cf2), .val (.ref b548), .val (.ref b555), .val (.ref b562), .val (.ref b573), .val (.long (((av0 * cv0) + (av1 * cv1)) + (av2 * cv2))), .second, .unset, .unset, .unset, .unset, .unset, .unset] [(.int bf0)])) _
      refine XS.i2l X589.here hx rfl (hb hby at_213) rfl ?_
      show Steps _ _ _ (T589.setTop (mkF m 214 #[.val (.int p1), .val (.int p2), .val (.int p3), .val (.int p4), .val (.int (1 : Int32)), .val (.int af0), .val (.int af1), .val (.int af2), .val (.int bf0), .val (.int bf1), .val (.int bf2), .val (.int cf0), .val (.int cf1), .val (.int cf2), .val (.ref b548), .val (.ref b555), .val (.ref b562), .val (.ref b573), .val (.long (((av0 * cv0) + (av1 * cv1)) + (av2 * cv2))), .second, .unset, .unset, .unset, .unset, .unset, .unset] [(.long bf0.toInt64)])) _
      rw [hbv0]
      refine XS.iload X589.here hx rfl (hb hby at_214) rfl ?_
      refine XS.i2l X589.here hx rfl (hb hby at_216) rfl ?_
      show Steps _ _ _ (T589.setTop (mkF m 217 #[.val (.int p1), .val (.int p2), .val (.int p3), .val (.int p4), .val (.int (1 : Int32)), .val (.int af0), .val (.int af1), .val (.int af2), .val (.int bf0), .val (.int bf1), .val (.int bf2), .val (.int cf0), .val (.int cf1), .val (.int cf2), .val (.ref b548), .val (.ref b555), .val (.ref b562), .val (.ref b573), .val (.long (((av0 * cv0) + (av1 * cv1)) + (av2 * cv2))), .second, .unset, .unset, .unset, .unset, .unset, .unset] [(.long cf0.toInt64), (.long bv0)])) _
      rw [hcv0]
      refine XS.lmul X589.here hx rfl (hb hby at_217) rfl ?_
      refine XS.iload X589.here hx rfl (hb hby at_218) rfl ?_
      refine XS.i2l X589.here hx rfl (hb hby at_220) rfl ?_
      show Steps _ _ _ (T589.setTop (mkF m 221 #[.val (.int p1), .val (.int p2), .val (.int p3), .val (.int p4), .val (.int (1 : Int32)), .val (.int af0), .val (.int af1), .val (.int af2), .val (.int bf0), .val (.int bf1), .val (.int bf2), .val (.int cf0), .val (.int cf1), .val (.int cf2), .val (.ref b548), .val (.ref b555), .val (.ref b562), .val (.ref b573), .val (.long (((av0 * cv0) + (av1 * cv1)) + (av2 * cv2))), .second, .unset, .unset, .unset, .unset, .unset, .unset] [(.long bf1.toInt64), (.long (bv0 * cv0))])) _
      rw [hbv1]
      refine XS.iload X589.here hx rfl (hb hby at_221) rfl ?_
      refine XS.i2l X589.here hx rfl (hb hby at_223) rfl ?_
      show Steps _ _ _ (T589.setTop (mkF m 224 #[.val (.int p1), .val (.int p2), .val (.int p3), .val (.int p4), .val (.int (1 : Int32)), .val (.int af0), .val (.int af1), .val (.int af2), .val (.int bf0), .val (.int bf1), .val (.int bf2), .val (.int cf0), .val (.int cf1), .val (.int cf2), .val (.ref b548), .val (.ref b555), .val (.ref b562), .val (.ref b573), .val (.long (((av0 * cv0) + (av1 * cv1)) + (av2 * cv2))), .second, .unset, .unset, .unset, .unset, .unset, .unset] [(.long cf1.toInt64), (.long bv1), (.long (bv0 * cv0))])) _
      rw [hcv1]
      refine XS.lmul X589.here hx rfl (hb hby at_224) rfl ?_
      refine XS.ladd X589.here hx rfl (hb hby at_225) rfl ?_
      refine XS.iload X589.here hx rfl (hb hby at_226) rfl ?_
      refine XS.i2l X589.here hx rfl (hb hby at_228) rfl ?_
      show Steps _ _ _ (T589.setTop (mkF m 229 #[.val (.int p1), .val (.int p2), .val (.int p3), .val (.int p4), .val (.int (1 : Int32)), .val (.int af0), .val (.int af1), .val (.int af2), .val (.int bf0), .val (.int bf1), .val (.int bf2), .val (.int cf0), .val (.int cf1), .val (.int cf2), .val (.ref b548), .val (.ref b555), .val (.ref b562), .val (.ref b573), .val (.long (((av0 * cv0) + (av1 * cv1)) + (av2 * cv2))), .second, .unset, .unset, .unset, .unset, .unset, .unset] [(.long bf2.toInt64), (.long ((bv0 * cv0) + (bv1 * cv1)))])) _
      rw [hbv2]
      refine XS.iload X589.here hx rfl (hb hby at_229) rfl ?_
      refine XS.i2l X589.here hx rfl (hb hby at_231) rfl ?_
      show Steps _ _ _ (T589.setTop (mkF m 232 #[.val (.int p1), .val (.int p2), .val (.int p3), .val (.int p4), .val (.int (1 : Int32)), .val (.int af0), .val (.int af1), .val (.int af2), .val (.int bf0), .val (.int bf1), .val (.int bf2), .val (.int cf0), .val (.int cf1), .val (.int cf2), .val (.ref b548), .val (.ref b555), .val (.ref b562), .val (.ref b573), .val (.long (((av0 * cv0) + (av1 * cv1)) + (av2 * cv2))), .second, .unset, .unset, .unset, .unset, .unset, .unset] [(.long cf2.toInt64), (.long bv2), (.long ((bv0 * cv0) + (bv1 * cv1)))])) _
      rw [hcv2]
      refine XS.lmul X589.here hx rfl (hb hby at_232) rfl ?_
      refine XS.ladd X589.here hx rfl (hb hby at_233) rfl ?_
      refine XS.lstore X589.here hx rfl (hb hby at_234) rfl (l' := #[.val (.int p1), .val (.int p2), .val (.int p3), .val (.int p4), .val (.int (1 : Int32)), .val (.int af0), .val (.int af1), .val (.int af2), .val (.int bf0), .val (.int bf1), .val (.int bf2), .val (.int cf0), .val (.int cf1), .val (.int cf2), .val (.ref b548), .val (.ref b555), .val (.ref b562), .val (.ref b573), .val (.long (((av0 * cv0) + (av1 * cv1)) + (av2 * cv2))), .second, .val (.long (((bv0 * cv0) + (bv1 * cv1)) + (bv2 * cv2))), .second, .unset, .unset, .unset, .unset]) rfl ?_
      refine XS.lconst X589.here hx rfl (hb hby at_236) ?_
      show Steps _ _ _ (T589.setTop (mkF m 237 #[.val (.int p1), .val (.int p2), .val (.int p3), .val (.int p4), .val (.int (1 : Int32)), .val (.int af0), .val (.int af1), .val (.int af2), .val (.int bf0), .val (.int bf1), .val (.int bf2), .val (.int cf0), .val (.int cf1), .val (.int cf2), .val (.ref b548), .val (.ref b555), .val (.ref b562), .val (.ref b573), .val (.long (((av0 * cv0) + (av1 * cv1)) + (av2 * cv2))), .second, .val (.long (((bv0 * cv0) + (bv1 * cv1)) + (bv2 * cv2))), .second, .unset, .unset, .unset, .unset] [(.long (0 : Int64))])) _
      refine XS.lstore X589.here hx rfl (hb hby at_237) rfl (l' := #[.val (.int p1), .val (.int p2), .val (.int p3), .val (.int p4), .val (.int (1 : Int32)), .val (.int af0), .val (.int af1), .val (.int af2), .val (.int bf0), .val (.int bf1), .val (.int bf2), .val (.int cf0), .val (.int cf1), .val (.int cf2), .val (.ref b548), .val (.ref b555), .val (.ref b562), .val (.ref b573), .val (.long (((av0 * cv0) + (av1 * cv1)) + (av2 * cv2))), .second, .val (.long (((bv0 * cv0) + (bv1 * cv1)) + (bv2 * cv2))), .second, .val (.long (0 : Int64)), .second, .unset, .unset]) rfl ?_
      refine XS.iload X589.here hx rfl (hb hby at_239) rfl ?_
      refine XS.iconst X589.here hx rfl (hb hby at_241) ?_
      refine XS.icmpNo X589.here hx rfl (hb hby at_242) rfl (by decide) ?_
      show Steps _ _ _ (T589.setTop (mkF m 245 #[.val (.int p1), .val (.int p2), .val (.int p3), .val (.int p4), .val (.int (1 : Int32)), .val (.int af0), .val (.int af1), .val (.int af2), .val (.int bf0), .val (.int bf1), .val (.int bf2), .val (.int cf0), .val (.int cf1), .val (.int cf2), .val (.ref b548), .val (.ref b555), .val (.ref b562), .val (.ref b573), .val (.long (((av0 * cv0) + (av1 * cv1)) + (av2 * cv2))), .second, .val (.long (((bv0 * cv0) + (bv1 * cv1)) + (bv2 * cv2))), .second, .val (.long (0 : Int64)), .second, .unset, .unset] [])) _
      refine XS.lload X589.here hx rfl (hb hby at_245) rfl ?_
      refine XS.lload X589.here hx rfl (hb hby at_247) rfl ?_
      refine XS.lload X589.here hx rfl (hb hby at_249) rfl ?_
      refine XS.lmul X589.here hx rfl (hb hby at_251) rfl ?_
      show Steps _ _ _ (T589.setTop (mkF m 252 #[.val (.int p1), .val (.int p2), .val (.int p3), .val (.int p4), .val (.int (1 : Int32)), .val (.int af0), .val (.int af1), .val (.int af2), .val (.int bf0), .val (.int bf1), .val (.int bf2), .val (.int cf0), .val (.int cf1), .val (.int cf2), .val (.ref b548), .val (.ref b555), .val (.ref b562), .val (.ref b573), .val (.long (((av0 * cv0) + (av1 * cv1)) + (av2 * cv2))), .second, .val (.long (((bv0 * cv0) + (bv1 * cv1)) + (bv2 * cv2))), .second, .val (.long (0 : Int64)), .second, .unset, .unset] [(.long ((((av0 * cv0) + (av1 * cv1)) + (av2 * cv2)) * (((av0 * cv0) + (av1 * cv1)) + (av2 * cv2)))), (.long (0 : Int64))])) _
      refine XS.ladd X589.here hx rfl (hb hby at_252) rfl ?_
      refine XS.lstore X589.here hx rfl (hb hby at_253) rfl (l' := #[.val (.int p1), .val (.int p2), .val (.int p3), .val (.int p4), .val (.int (1 : Int32)), .val (.int af0), .val (.int af1), .val (.int af2), .val (.int bf0), .val (.int bf1), .val (.int bf2), .val (.int cf0), .val (.int cf1), .val (.int cf2), .val (.ref b548), .val (.ref b555), .val (.ref b562), .val (.ref b573), .val (.long (((av0 * cv0) + (av1 * cv1)) + (av2 * cv2))), .second, .val (.long (((bv0 * cv0) + (bv1 * cv1)) + (bv2 * cv2))), .second, .val (.long ((0 : Int64) + ((((av0 * cv0) + (av1 * cv1)) + (av2 * cv2)) * (((av0 * cv0) + (av1 * cv1)) + (av2 * cv2))))), .second, .unset, .unset]) rfl ?_
      refine XS.iload X589.here hx rfl (hb hby at_255) rfl ?_
      refine XS.iconst X589.here hx rfl (hb hby at_257) ?_
      show Steps _ _ _ (T589.setTop (mkF m 258 #[.val (.int p1), .val (.int p2), .val (.int p3), .val (.int p4), .val (.int (1 : Int32)), .val (.int af0), .val (.int af1), .val (.int af2), .val (.int bf0), .val (.int bf1), .val (.int bf2), .val (.int cf0), .val (.int cf1), .val (.int cf2), .val (.ref b548), .val (.ref b555), .val (.ref b562), .val (.ref b573), .val (.long (((av0 * cv0) + (av1 * cv1)) + (av2 * cv2))), .second, .val (.long (((bv0 * cv0) + (bv1 * cv1)) + (bv2 * cv2))), .second, .val (.long ((0 : Int64) + ((((av0 * cv0) + (av1 * cv1)) + (av2 * cv2)) * (((av0 * cv0) + (av1 * cv1)) + (av2 * cv2))))), .second, .unset, .unset] [(.int (2 : Int32)), (.int (1 : Int32))])) _
      refine XS.icmpYes X589.here hx rfl (pc0 := 258) (pc' := 271) rfl (hb hby at_258) rfl (by decide) (by decide) (by decide) ?_
      refine XS.iload X589.here hx rfl (hb hby at_271) rfl ?_
      refine XS.iconst X589.here hx rfl (hb hby at_273) ?_
      refine XS.icmpYes X589.here hx rfl (pc0 := 274) (pc' := 287) rfl (hb hby at_274) rfl (by decide) (by decide) (by decide) ?_
      show Steps _ _ _ (T589.setTop (mkF m 287 #[.val (.int p1), .val (.int p2), .val (.int p3), .val (.int p4), .val (.int (1 : Int32)), .val (.int af0), .val (.int af1), .val (.int af2), .val (.int bf0), .val (.int bf1), .val (.int bf2), .val (.int cf0), .val (.int cf1), .val (.int cf2), .val (.ref b548), .val (.ref b555), .val (.ref b562), .val (.ref b573), .val (.long (((av0 * cv0) + (av1 * cv1)) + (av2 * cv2))), .second, .val (.long (((bv0 * cv0) + (bv1 * cv1)) + (bv2 * cv2))), .second, .val (.long ((0 : Int64) + ((((av0 * cv0) + (av1 * cv1)) + (av2 * cv2)) * (((av0 * cv0) + (av1 * cv1)) + (av2 * cv2))))), .second, .unset, .unset] [])) _
      refine XS.aload X589.here hx rfl (hb hby at_287) rfl rfl ?_
      refine XS.aload X589.here hx rfl (hb hby at_289) rfl rfl ?_
      show Steps _ _ _ (T589.setTop (mkF m 291 #[.val (.int p1), .val (.int p2), .val (.int p3), .val (.int p4), .val (.int (1 : Int32)), .val (.int af0), .val (.int af1), .val (.int af2), .val (.int bf0), .val (.int bf1), .val (.int bf2), .val (.int cf0), .val (.int cf1), .val (.int cf2), .val (.ref b548), .val (.ref b555), .val (.ref b562), .val (.ref b573), .val (.long (((av0 * cv0) + (av1 * cv1)) + (av2 * cv2))), .second, .val (.long (((bv0 * cv0) + (bv1 * cv1)) + (bv2 * cv2))), .second, .val (.long ((0 : Int64) + ((((av0 * cv0) + (av1 * cv1)) + (av2 * cv2)) * (((av0 * cv0) + (av1 * cv1)) + (av2 * cv2))))), .second, .unset, .unset] [(.ref b562), (.ref b573)])) _
      refine st604.trans ?_
      show Steps _ _ _ (T604.setTop (mkF m 294 #[.val (.int p1), .val (.int p2), .val (.int p3), .val (.int p4), .val (.int (1 : Int32)), .val (.int af0), .val (.int af1), .val (.int af2), .val (.int bf0), .val (.int bf1), .val (.int bf2), .val (.int cf0), .val (.int cf1), .val (.int cf2), .val (.ref b548), .val (.ref b555), .val (.ref b562), .val (.ref b573), .val (.long (((av0 * cv0) + (av1 * cv1)) + (av2 * cv2))), .second, .val (.long (((bv0 * cv0) + (bv1 * cv1)) + (bv2 * cv2))), .second, .val (.long ((0 : Int64) + ((((av0 * cv0) + (av1 * cv1)) + (av2 * cv2)) * (((av0 * cv0) + (av1 * cv1)) + (av2 * cv2))))), .second, .unset, .unset] [(.double (FP.l2d (own_along (0 + av0 * av0) (0 + av0 * av1) (0 + av0 * av2) (0 + av1 * av0) (0 + av1 * av1) (0 + av1 * av2) (0 + av2 * av0) (0 + av2 * av1) (0 + av2 * av2) cv0 cv1 cv2)))])) _
      refine XS.dstore X604.here hx rfl (hb hby at_294) rfl (l' := #[.val (.int p1), .val (.int p2), .val (.int p3), .val (.int p4), .val (.int (1 : Int32)), .val (.int af0), .val (.int af1), .val (.int af2), .val (.int bf0), .val (.int bf1), .val (.int bf2), .val (.int cf0), .val (.int cf1), .val (.int cf2), .val (.ref b548), .val (.ref b555), .val (.ref b562), .val (.ref b573), .val (.long (((av0 * cv0) + (av1 * cv1)) + (av2 * cv2))), .second, .val (.long (((bv0 * cv0) + (bv1 * cv1)) + (bv2 * cv2))), .second, .val (.long ((0 : Int64) + ((((av0 * cv0) + (av1 * cv1)) + (av2 * cv2)) * (((av0 * cv0) + (av1 * cv1)) + (av2 * cv2))))), .second, .val (.double (FP.l2d (own_along (0 + av0 * av0) (0 + av0 * av1) (0 + av0 * av2) (0 + av1 * av0) (0 + av1 * av1) (0 + av1 * av2) (0 + av2 * av0) (0 + av2 * av1) (0 + av2 * av2) cv0 cv1 cv2))), .second]) rfl ?_
      refine XS.dload X604.here hx rfl (hb hby at_296) rfl ?_
      refine XS.lload X604.here hx rfl (hb hby at_298) rfl ?_
      refine XS.l2dS X604.here hx rfl (hb hby at_300) rfl (v := (FP.l2d ((0 : Int64) + ((((av0 * cv0) + (av1 * cv1)) + (av2 * cv2)) * (((av0 * cv0) + (av1 * cv1)) + (av2 * cv2)))))) rfl ?_
      show Steps _ _ _ (T604.setTop (mkF m 301 #[.val (.int p1), .val (.int p2), .val (.int p3), .val (.int p4), .val (.int (1 : Int32)), .val (.int af0), .val (.int af1), .val (.int af2), .val (.int bf0), .val (.int bf1), .val (.int bf2), .val (.int cf0), .val (.int cf1), .val (.int cf2), .val (.ref b548), .val (.ref b555), .val (.ref b562), .val (.ref b573), .val (.long (((av0 * cv0) + (av1 * cv1)) + (av2 * cv2))), .second, .val (.long (((bv0 * cv0) + (bv1 * cv1)) + (bv2 * cv2))), .second, .val (.long ((0 : Int64) + ((((av0 * cv0) + (av1 * cv1)) + (av2 * cv2)) * (((av0 * cv0) + (av1 * cv1)) + (av2 * cv2))))), .second, .val (.double (FP.l2d (own_along (0 + av0 * av0) (0 + av0 * av1) (0 + av0 * av2) (0 + av1 * av0) (0 + av1 * av1) (0 + av1 * av2) (0 + av2 * av0) (0 + av2 * av1) (0 + av2 * av2) cv0 cv1 cv2))), .second] [(.double (FP.l2d ((0 : Int64) + ((((av0 * cv0) + (av1 * cv1)) + (av2 * cv2)) * (((av0 * cv0) + (av1 * cv1)) + (av2 * cv2)))))), (.double (FP.l2d (own_along (0 + av0 * av0) (0 + av0 * av1) (0 + av0 * av2) (0 + av1 * av0) (0 + av1 * av1) (0 + av1 * av2) (0 + av2 * av0) (0 + av2 * av1) (0 + av2 * av2) cv0 cv1 cv2)))])) _
      refine XS.dcmpS X604.here hx rfl (hb hby at_301) rfl (v := (0 : Int32)) (own_cmpEq eqr _) ?_
      refine XS.ifNo X604.here hx rfl (hb hby at_302) rfl (by decide) ?_
      refine XS.iconst X604.here hx rfl (hb hby at_305) ?_
      refine XS.goto X604.here hx rfl (pc0 := 306) (pc' := 310) rfl (hb hby at_306) (by decide) (by decide) ?_
      show Steps _ _ _ (T604.setTop (mkF m 310 #[.val (.int p1), .val (.int p2), .val (.int p3), .val (.int p4), .val (.int (1 : Int32)), .val (.int af0), .val (.int af1), .val (.int af2), .val (.int bf0), .val (.int bf1), .val (.int bf2), .val (.int cf0), .val (.int cf1), .val (.int cf2), .val (.ref b548), .val (.ref b555), .val (.ref b562), .val (.ref b573), .val (.long (((av0 * cv0) + (av1 * cv1)) + (av2 * cv2))), .second, .val (.long (((bv0 * cv0) + (bv1 * cv1)) + (bv2 * cv2))), .second, .val (.long ((0 : Int64) + ((((av0 * cv0) + (av1 * cv1)) + (av2 * cv2)) * (((av0 * cv0) + (av1 * cv1)) + (av2 * cv2))))), .second, .val (.double (FP.l2d (own_along (0 + av0 * av0) (0 + av0 * av1) (0 + av0 * av2) (0 + av1 * av0) (0 + av1 * av1) (0 + av1 * av2) (0 + av2 * av0) (0 + av2 * av1) (0 + av2 * av2) cv0 cv1 cv2))), .second] [(.int (1 : Int32))])) _
      exact retN X604 hx (t := .boolean) Bd.returns (by simp) (hb hby at_310) hr
    · show Q0 Z p1 p2 p3 p4 h0 n0 _ T604.heap _
      rw [eq604]
      exact ⟨rfl, N604⟩
  ·
    have f608 := f583.keep Kc582 (ninS (Nat.ne_of_lt lt_b548_b573) nin0)
    obtain ⟨cq607, kq607, q607a, q607b, q607c⟩ := isOf hZ rfl Ea582
    obtain ⟨_, _, ⟨T607, L607, k607, n607⟩, -, X607, ⟨Lc607, hQ607, l607, y607, z607⟩, st607⟩ := X582.virtualBack hx (y := (⟨"com/example/lineament/lineament/math/OuterProductSum", "add", "([D)V"⟩ : MethodName)) (z := (⟨"com/example/lineament/lineament/math/OuterProductSum", "add", "([D)V"⟩ : MethodName)) hown (mvT hZ (hw _ (List.mem_of_getElem? (i := 22) rfl))) (mvT hZ (hw _ (List.mem_of_getElem? (i := 23) rfl))) (notFace_of_selects (args := #[]) (mvT hZ (hw _ (List.mem_of_getElem? (i := 25) rfl)))) (mvT hZ (hw _ (List.mem_of_getElem? (i := 25) rfl))) (mvT hZ (hw _ (List.mem_of_getElem? (i := 24) rfl))) (by decide) (backOf (W := 0) (rmAD l Z a0 hw [] b573 b548 sm bs ib ks kbs kib k548 (0 : Int32) 0 0 0 0 0 0 0 0 0 0 0 0 0 0 0 0 0 0 0 av0 av1 av2 T582.heap n0 (Nat.le_trans Z0 K582.1) Ea582 Fd582 Fsum582 Fbasis582 FinBasis582 Fc582 Ft582 Vs582 Vb582 Vi582 f608 (Nat.ne_of_lt lt_b573_sm) (Nat.ne_of_lt lt_b573_ib) (Nat.ne_of_lt lt_b548_sm) (Nat.ne_of_lt lt_b548_ib) (Nat.ne_of_lt lt_b548_b573) (Ne.symm ne_sm_bs) ne_bs_ib ne_sm_ib (Nat.ne_of_gt lt_b573_bs) g_b573 g_sm g_ib (own_Bm own_B0 (by decide)) (own_Bm own_B0 (by decide)) (own_Bm own_B0 (by decide)) (own_Bm own_B0 (by decide)) (own_Bm own_B0 (by decide)) (own_Bm own_B0 (by decide)) (own_Bm own_B0 (by decide)) (own_Bm own_B0 (by decide)) (own_Bm own_B0 (by decide)) (own_Bm own_B0 (by decide)) (own_Bm own_B0 (by decide)) (own_Bm own_B0 (by decide)) (own_Bm own_B0 (by decide)) (own_Bm own_B0 (by decide)) (own_Bm own_B0 (by decide)) (own_Bm own_B0 (by decide)) (own_Bm own_B0 (by decide)) (own_Bm own_B0 (by decide)) (own_Bm own_B0 (by decide)) B_av0 B_av1 B_av2) hZ (hw _ (List.mem_of_getElem? (i := 26) rfl)) (hw _ (List.mem_of_getElem? (i := 7) rfl)) (by decide) (by decide)) q607a q607c (g := (mkF m 157 #[.val (.int p1), .val (.int p2), .val (.int p3), .val (.int p4), .val (.int (2 : Int32)), .val (.int af0), .val (.int af1), .val (.int af2), .val (.int bf0), .val (.int bf1), .val (.int bf2), .val (.int cf0), .val (.int cf1), .val (.int cf2), .val (.ref b548), .val (.ref b555), .val (.ref b562), .val (.ref b573), .unset, .unset, .unset, .unset, .unset, .unset, .unset, .unset] [(.ref b548), (.ref b573)])) rfl (by rw [hml]; rfl) (Steps.refl _) (argsL := [(.ref b548)]) (rest := []) (lenOf pd_1 rfl) rfl (by show 2 * 0 + _ ≤ _; exact Nat.le_of_eq rfl) (hb hby at_157) (fun _ _ => ⟨rfl, rfl, (by decide : 7 + 1 ≤ _), (by decide : 42 + 3 ≤ _)⟩)
    dsimp only [Pt.U, Pt.locs, Pt.cells, Pt.slots] at X607 l607 y607 z607 st607 hQ607
    rw [l607, y607, z607] at X607
    obtain ⟨hv607, Nq607, Kc607, Ea607, Fd607, Fsum607, Fbasis607, FinBasis607, Fc607, Ft607, Vs607, Vi607⟩ := hQ607
    rw [hv607] at st607
    have K607 : Keep h0 T607.heap [] := K582.trans Kc607 (allS (P := fun x => x ∈ [] ∨ h0.size ≤ x) (Or.inr sz_b573) (allS (P := fun x => x ∈ [] ∨ h0.size ≤ x) (Or.inr sz_sm) (allS (P := fun x => x ∈ [] ∨ h0.size ≤ x) (Or.inr sz_ib) all0)))
    have Bq609 := own_fma own_B0 B_av0 B_av0 (by decide) (by decide) (by decide)
    have Bq610 := own_fma own_B0 B_av0 B_av1 (by decide) (by decide) (by decide)
    have Bq611 := own_fma own_B0 B_av0 B_av2 (by decide) (by decide) (by decide)
    have Bq612 := own_fma own_B0 B_av1 B_av0 (by decide) (by decide) (by decide)
    have Bq613 := own_fma own_B0 B_av1 B_av1 (by decide) (by decide) (by decide)
    have Bq614 := own_fma own_B0 B_av1 B_av2 (by decide) (by decide) (by decide)
    have Bq615 := own_fma own_B0 B_av2 B_av0 (by decide) (by decide) (by decide)
    have Bq616 := own_fma own_B0 B_av2 B_av1 (by decide) (by decide) (by decide)
    have Bq617 := own_fma own_B0 B_av2 B_av2 (by decide) (by decide) (by decide)
    have Bq619 := own_fma own_B0 B_av0 B_av0 (by decide) (by decide) (by decide)
    have Bq620 := own_fma Bq619.2 B_av1 B_av1 (by decide) (by decide) (by decide)
    have Bq621 := own_fma Bq620.2 B_av2 B_av2 (by decide) (by decide) (by decide)
    have N607 := Fr.app N582 Nq607
    have f623 := Vb582.keep Kc607 (ninS (Nat.ne_of_gt lt_b573_bs) (ninS (Ne.symm ne_sm_bs) (ninS ne_bs_ib nin0)))
    have f624 := f584.keep Kc582 (ninS (Nat.ne_of_lt lt_b555_b573) nin0)
    have f625 := f624.keep Kc607 (ninS (Nat.ne_of_lt lt_b555_b573) (ninS (Nat.ne_of_lt lt_b555_sm) (ninS (Nat.ne_of_lt lt_b555_ib) nin0)))
    obtain ⟨cq622, kq622, q622a, q622b, q622c⟩ := isOf hZ rfl Ea607
    obtain ⟨_, _, ⟨T622, L622, k622, n622⟩, -, X622, ⟨Lc622, hQ622, l622, y622, z622⟩, st622⟩ := X607.virtualBack hx (y := (⟨"com/example/lineament/lineament/math/OuterProductSum", "add", "([D)V"⟩ : MethodName)) (z := (⟨"com/example/lineament/lineament/math/OuterProductSum", "add", "([D)V"⟩ : MethodName)) hown (mvT hZ (hw _ (List.mem_of_getElem? (i := 22) rfl))) (mvT hZ (hw _ (List.mem_of_getElem? (i := 23) rfl))) (notFace_of_selects (args := #[]) (mvT hZ (hw _ (List.mem_of_getElem? (i := 25) rfl)))) (mvT hZ (hw _ (List.mem_of_getElem? (i := 25) rfl))) (mvT hZ (hw _ (List.mem_of_getElem? (i := 24) rfl))) (by decide) (backOf (W := 0) (rmAD l Z a0 hw [] b573 b555 sm bs ib ks kbs kib k555 ((0 : Int32) + (1 : Int32)) (((0 + av0 * av0) + av1 * av1) + av2 * av2) (0 + av0 * av0) (0 + av0 * av1) (0 + av0 * av2) (0 + av1 * av0) (0 + av1 * av1) (0 + av1 * av2) (0 + av2 * av0) (0 + av2 * av1) (0 + av2 * av2) (0 + av0 * av0) (0 + av0 * av1) (0 + av0 * av2) (0 + av1 * av0) (0 + av1 * av1) (0 + av1 * av2) (0 + av2 * av0) (0 + av2 * av1) (0 + av2 * av2) bv0 bv1 bv2 T607.heap n0 (Nat.le_trans Z0 K607.1) Ea607 Fd607 Fsum607 Fbasis607 FinBasis607 Fc607 Ft607 Vs607 f623 Vi607 f625 (Nat.ne_of_lt lt_b573_sm) (Nat.ne_of_lt lt_b573_ib) (Nat.ne_of_lt lt_b555_sm) (Nat.ne_of_lt lt_b555_ib) (Nat.ne_of_lt lt_b555_b573) (Ne.symm ne_sm_bs) ne_bs_ib ne_sm_ib (Nat.ne_of_gt lt_b573_bs) g_b573 g_sm g_ib (own_Bm Bq621.2 (by decide)) (own_Bm Bq619.2 (by decide)) (own_Bm Bq610.2 (by decide)) (own_Bm Bq611.2 (by decide)) (own_Bm Bq612.2 (by decide)) (own_Bm Bq613.2 (by decide)) (own_Bm Bq614.2 (by decide)) (own_Bm Bq615.2 (by decide)) (own_Bm Bq616.2 (by decide)) (own_Bm Bq617.2 (by decide)) (own_Bm Bq619.2 (by decide)) (own_Bm Bq610.2 (by decide)) (own_Bm Bq611.2 (by decide)) (own_Bm Bq612.2 (by decide)) (own_Bm Bq613.2 (by decide)) (own_Bm Bq614.2 (by decide)) (own_Bm Bq615.2 (by decide)) (own_Bm Bq616.2 (by decide)) (own_Bm Bq617.2 (by decide)) B_bv0 B_bv1 B_bv2) hZ (hw _ (List.mem_of_getElem? (i := 26) rfl)) (hw _ (List.mem_of_getElem? (i := 7) rfl)) (by decide) (by decide)) q622a q622c (g := (mkF m 170 #[.val (.int p1), .val (.int p2), .val (.int p3), .val (.int p4), .val (.int (2 : Int32)), .val (.int af0), .val (.int af1), .val (.int af2), .val (.int bf0), .val (.int bf1), .val (.int bf2), .val (.int cf0), .val (.int cf1), .val (.int cf2), .val (.ref b548), .val (.ref b555), .val (.ref b562), .val (.ref b573), .unset, .unset, .unset, .unset, .unset, .unset, .unset, .unset] [(.ref b555), (.ref b573)])) rfl (by rw [hml]; rfl) (Steps.refl _) (argsL := [(.ref b555)]) (rest := []) (lenOf pd_1 rfl) rfl (by show 2 * 0 + _ ≤ _; exact Nat.le_of_eq rfl) (hb hby at_170) (fun _ _ => ⟨rfl, rfl, (by decide : 8 + 1 ≤ _), (by decide : 45 + 3 ≤ _)⟩)
    dsimp only [Pt.U, Pt.locs, Pt.cells, Pt.slots] at X622 l622 y622 z622 st622 hQ622
    rw [l622, y622, z622] at X622
    obtain ⟨hv622, Nq622, Kc622, Ea622, Fd622, Fsum622, Fbasis622, FinBasis622, Fc622, Ft622, Vs622, Vi622⟩ := hQ622
    rw [hv622] at st622
    have K622 : Keep h0 T622.heap [] := K607.trans Kc622 (allS (P := fun x => x ∈ [] ∨ h0.size ≤ x) (Or.inr sz_b573) (allS (P := fun x => x ∈ [] ∨ h0.size ≤ x) (Or.inr sz_sm) (allS (P := fun x => x ∈ [] ∨ h0.size ≤ x) (Or.inr sz_ib) all0)))
    have Bq626 := own_fma Bq619.2 B_bv0 B_bv0 (by decide) (by decide) (by decide)
    have Bq627 := own_fma Bq610.2 B_bv0 B_bv1 (by decide) (by decide) (by decide)
    have Bq628 := own_fma Bq611.2 B_bv0 B_bv2 (by decide) (by decide) (by decide)
    have Bq629 := own_fma Bq612.2 B_bv1 B_bv0 (by decide) (by decide) (by decide)
    have Bq630 := own_fma Bq613.2 B_bv1 B_bv1 (by decide) (by decide) (by decide)
    have Bq631 := own_fma Bq614.2 B_bv1 B_bv2 (by decide) (by decide) (by decide)
    have Bq632 := own_fma Bq615.2 B_bv2 B_bv0 (by decide) (by decide) (by decide)
    have Bq633 := own_fma Bq616.2 B_bv2 B_bv1 (by decide) (by decide) (by decide)
    have Bq634 := own_fma Bq617.2 B_bv2 B_bv2 (by decide) (by decide) (by decide)
    have Bq636 := own_fma Bq621.2 B_bv0 B_bv0 (by decide) (by decide) (by decide)
    have Bq637 := own_fma Bq636.2 B_bv1 B_bv1 (by decide) (by decide) (by decide)
    have Bq638 := own_fma Bq637.2 B_bv2 B_bv2 (by decide) (by decide) (by decide)
    have N622 := Fr.app N607 Nq622
    have f640 := f585.keep Kc582 (ninS (Nat.ne_of_lt lt_b562_b573) nin0)
    have f641 := f640.keep Kc607 (ninS (Nat.ne_of_lt lt_b562_b573) (ninS (Nat.ne_of_lt lt_b562_sm) (ninS (Nat.ne_of_lt lt_b562_ib) nin0)))
    have f642 := f641.keep Kc622 (ninS (Nat.ne_of_lt lt_b562_b573) (ninS (Nat.ne_of_lt lt_b562_sm) (ninS (Nat.ne_of_lt lt_b562_ib) nin0)))
    obtain ⟨cq639, kq639, q639a, q639b, q639c⟩ := isOf hZ rfl Ea622
    obtain ⟨_, _, ⟨T639, L639, k639, n639⟩, -, X639, ⟨Lc639, hQ639, l639, y639, z639⟩, st639⟩ := X622.virtualBack hx (y := (⟨"com/example/lineament/lineament/math/OuterProductSum", "along", "([D)D"⟩ : MethodName)) (z := (⟨"com/example/lineament/lineament/math/OuterProductSum", "along", "([D)D"⟩ : MethodName)) hown (mvT hZ (hw _ (List.mem_of_getElem? (i := 39) rfl))) (mvT hZ (hw _ (List.mem_of_getElem? (i := 40) rfl))) (notFace_of_selects (args := #[]) (mvT hZ (hw _ (List.mem_of_getElem? (i := 42) rfl)))) (mvT hZ (hw _ (List.mem_of_getElem? (i := 42) rfl))) (mvT hZ (hw _ (List.mem_of_getElem? (i := 41) rfl))) (by decide) (backOf (W := 0) (rmAL l Z a0 hw [] b573 b562 sm ks k562 ((0 + av0 * av0) + bv0 * bv0) ((0 + av0 * av1) + bv0 * bv1) ((0 + av0 * av2) + bv0 * bv2) ((0 + av1 * av0) + bv1 * bv0) ((0 + av1 * av1) + bv1 * bv1) ((0 + av1 * av2) + bv1 * bv2) ((0 + av2 * av0) + bv2 * bv0) ((0 + av2 * av1) + bv2 * bv1) ((0 + av2 * av2) + bv2 * bv2) cv0 cv1 cv2 T622.heap n0 (Nat.le_trans Z0 K622.1) Ea622 Fd622 Fsum622 Vs622 f642 (own_Bm Bq626.2 (by decide)) (own_Bm Bq627.2 (by decide)) (own_Bm Bq628.2 (by decide)) (own_Bm Bq629.2 (by decide)) (own_Bm Bq630.2 (by decide)) (own_Bm Bq631.2 (by decide)) (own_Bm Bq632.2 (by decide)) (own_Bm Bq633.2 (by decide)) (own_Bm Bq634.2 (by decide)) B_cv0 B_cv1 B_cv2) hZ (hw _ (List.mem_of_getElem? (i := 43) rfl)) (hw _ (List.mem_of_getElem? (i := 7) rfl)) (by decide) (by decide)) q639a q639c (g := (mkF m 291 #[.val (.int p1), .val (.int p2), .val (.int p3), .val (.int p4), .val (.int (2 : Int32)), .val (.int af0), .val (.int af1), .val (.int af2), .val (.int bf0), .val (.int bf1), .val (.int bf2), .val (.int cf0), .val (.int cf1), .val (.int cf2), .val (.ref b548), .val (.ref b555), .val (.ref b562), .val (.ref b573), .val (.long (((av0 * cv0) + (av1 * cv1)) + (av2 * cv2))), .second, .val (.long (((bv0 * cv0) + (bv1 * cv1)) + (bv2 * cv2))), .second, .val (.long (((0 : Int64) + ((((av0 * cv0) + (av1 * cv1)) + (av2 * cv2)) * (((av0 * cv0) + (av1 * cv1)) + (av2 * cv2)))) + ((((bv0 * cv0) + (bv1 * cv1)) + (bv2 * cv2)) * (((bv0 * cv0) + (bv1 * cv1)) + (bv2 * cv2))))), .second, .unset, .unset] [(.ref b562), (.ref b573)])) rfl (by rw [hml]; rfl) (Steps.refl _) (argsL := [(.ref b562)]) (rest := []) (lenOf pd_5 rfl) rfl (by show 2 * 0 + _ ≤ _; exact Nat.le_of_eq rfl) (hb hby at_291) (fun _ _ => ⟨rfl, rfl, (by decide : 9 + 0 ≤ _), (by decide : 48 + 0 ≤ _)⟩)
    dsimp only [Pt.U, Pt.locs, Pt.cells, Pt.slots] at X639 l639 y639 z639 st639 hQ639
    rw [l639, y639, z639] at X639
    obtain ⟨hv639, Nq639, eq639, Bal639⟩ := hQ639
    rw [hv639] at st639
    have N639 := Fr.app N622 Nq639
    have eqr : (own_along ((0 + av0 * av0) + bv0 * bv0) ((0 + av0 * av1) + bv0 * bv1) ((0 + av0 * av2) + bv0 * bv2) ((0 + av1 * av0) + bv1 * bv0) ((0 + av1 * av1) + bv1 * bv1) ((0 + av1 * av2) + bv1 * bv2) ((0 + av2 * av0) + bv2 * bv0) ((0 + av2 * av1) + bv2 * bv1) ((0 + av2 * av2) + bv2 * bv2) cv0 cv1 cv2) = (((0 : Int64) + ((((av0 * cv0) + (av1 * cv1)) + (av2 * cv2)) * (((av0 * cv0) + (av1 * cv1)) + (av2 * cv2)))) + ((((bv0 * cv0) + (bv1 * cv1)) + (bv2 * cv2)) * (((bv0 * cv0) + (bv1 * cv1)) + (bv2 * cv2)))) := by simp only [own_along]; grind
    obtain ⟨fs, hr, hrun, hended, hW, hsame⟩ := X639.leave (v := some (.int (1 : Int32))) (fun h => by rw [Bd.returns] at h; cases h)
    refine ⟨_, _, ?_, hrun, hended, _, _, rfl, ?_, ⟨_, rfl⟩, hW, hsame.mono (by decide) (by decide)⟩
    · refine R586 _ ?_
      show Steps p.tables e below (T582.setTop (mkF m 150 #[.val (.int p1), .val (.int p2), .val (.int p3), .val (.int p4), .val (.int (2 : Int32)), .val (.int af0), .val (.int af1), .val (.int af2), .val (.int bf0), .val (.int bf1), .val (.int bf2), .val (.int cf0), .val (.int cf1), .val (.int cf2), .val (.ref b548), .val (.ref b555), .val (.ref b562), .val (.ref b573), .unset, .unset, .unset, .unset, .unset, .unset, .unset, .unset] [(.int (1 : Int32)), (.int (2 : Int32))])) _
      refine XS.icmpNo X582.here hx rfl (hb hby at_150) rfl (by decide) ?_
      refine XS.aload X582.here hx rfl (hb hby at_153) rfl rfl ?_
      refine XS.aload X582.here hx rfl (hb hby at_155) rfl rfl ?_
      show Steps _ _ _ (T582.setTop (mkF m 157 #[.val (.int p1), .val (.int p2), .val (.int p3), .val (.int p4), .val (.int (2 : Int32)), .val (.int af0), .val (.int af1), .val (.int af2), .val (.int bf0), .val (.int bf1), .val (.int bf2), .val (.int cf0), .val (.int cf1), .val (.int cf2), .val (.ref b548), .val (.ref b555), .val (.ref b562), .val (.ref b573), .unset, .unset, .unset, .unset, .unset, .unset, .unset, .unset] [(.ref b548), (.ref b573)])) _
      refine st607.trans ?_
      show Steps _ _ _ (T607.setTop (mkF m 160 #[.val (.int p1), .val (.int p2), .val (.int p3), .val (.int p4), .val (.int (2 : Int32)), .val (.int af0), .val (.int af1), .val (.int af2), .val (.int bf0), .val (.int bf1), .val (.int bf2), .val (.int cf0), .val (.int cf1), .val (.int cf2), .val (.ref b548), .val (.ref b555), .val (.ref b562), .val (.ref b573), .unset, .unset, .unset, .unset, .unset, .unset, .unset, .unset] [])) _
      refine XS.iload X607.here hx rfl (hb hby at_160) rfl ?_
      refine XS.iconst X607.here hx rfl (hb hby at_162) ?_
      refine XS.icmpNo X607.here hx rfl (hb hby at_163) rfl (by decide) ?_
      refine XS.aload X607.here hx rfl (hb hby at_166) rfl rfl ?_
      show Steps _ _ _ (T607.setTop (mkF m 168 #[.val (.int p1), .val (.int p2), .val (.int p3), .val (.int p4), .val (.int (2 : Int32)), .val (.int af0), .val (.int af1), .val (.int af2), .val (.int bf0), .val (.int bf1), .val (.int bf2), .val (.int cf0), .val (.int cf1), .val (.int cf2), .val (.ref b548), .val (.ref b555), .val (.ref b562), .val (.ref b573), .unset, .unset, .unset, .unset, .unset, .unset, .unset, .unset] [(.ref b573)])) _
      refine XS.aload X607.here hx rfl (hb hby at_168) rfl rfl ?_
      show Steps _ _ _ (T607.setTop (mkF m 170 #[.val (.int p1), .val (.int p2), .val (.int p3), .val (.int p4), .val (.int (2 : Int32)), .val (.int af0), .val (.int af1), .val (.int af2), .val (.int bf0), .val (.int bf1), .val (.int bf2), .val (.int cf0), .val (.int cf1), .val (.int cf2), .val (.ref b548), .val (.ref b555), .val (.ref b562), .val (.ref b573), .unset, .unset, .unset, .unset, .unset, .unset, .unset, .unset] [(.ref b555), (.ref b573)])) _
      refine st622.trans ?_
      show Steps _ _ _ (T622.setTop (mkF m 173 #[.val (.int p1), .val (.int p2), .val (.int p3), .val (.int p4), .val (.int (2 : Int32)), .val (.int af0), .val (.int af1), .val (.int af2), .val (.int bf0), .val (.int bf1), .val (.int bf2), .val (.int cf0), .val (.int cf1), .val (.int cf2), .val (.ref b548), .val (.ref b555), .val (.ref b562), .val (.ref b573), .unset, .unset, .unset, .unset, .unset, .unset, .unset, .unset] [])) _
      refine XS.iload X622.here hx rfl (hb hby at_173) rfl ?_
      refine XS.iconst X622.here hx rfl (hb hby at_175) ?_
      refine XS.icmpYes X622.here hx rfl (pc0 := 176) (pc' := 186) rfl (hb hby at_176) rfl (by decide) (by decide) (by decide) ?_
      refine XS.iload X622.here hx rfl (hb hby at_186) rfl ?_
      show Steps _ _ _ (T622.setTop (mkF m 188 #[.val (.int p1), .val (.int p2), .val (.int p3), .val (.int p4), .val (.int (2 : Int32)), .val (.int af0), .val (.int af1), .val (.int af2), .val (.int bf0), .val (.int bf1), .val (.int bf2), .val (.int cf0), .val (.int cf1), .val (.int cf2), .val (.ref b548), .val (.ref b555), .val (.ref b562), .val (.ref b573), .unset, .unset, .unset, .unset, .unset, .unset, .unset, .unset] [(.int af0)])) _
      refine XS.i2l X622.here hx rfl (hb hby at_188) rfl ?_
      show Steps _ _ _ (T622.setTop (mkF m 189 #[.val (.int p1), .val (.int p2), .val (.int p3), .val (.int p4), .val (.int (2 : Int32)), .val (.int af0), .val (.int af1), .val (.int af2), .val (.int bf0), .val (.int bf1), .val (.int bf2), .val (.int cf0), .val (.int cf1), .val (.int cf2), .val (.ref b548), .val (.ref b555), .val (.ref b562), .val (.ref b573), .unset, .unset, .unset, .unset, .unset, .unset, .unset, .unset] [(.long af0.toInt64)])) _
      rw [hav0]
      refine XS.iload X622.here hx rfl (hb hby at_189) rfl ?_
      refine XS.i2l X622.here hx rfl (hb hby at_191) rfl ?_
      show Steps _ _ _ (T622.setTop (mkF m 192 #[.val (.int p1), .val (.int p2), .val (.int p3), .val (.int p4), .val (.int (2 : Int32)), .val (.int af0), .val (.int af1), .val (.int af2), .val (.int bf0), .val (.int bf1), .val (.int bf2), .val (.int cf0), .val (.int cf1), .val (.int cf2), .val (.ref b548), .val (.ref b555), .val (.ref b562), .val (.ref b573), .unset, .unset, .unset, .unset, .unset, .unset, .unset, .unset] [(.long cf0.toInt64), (.long av0)])) _
      rw [hcv0]
      refine XS.lmul X622.here hx rfl (hb hby at_192) rfl ?_
      refine XS.iload X622.here hx rfl (hb hby at_193) rfl ?_
      refine XS.i2l X622.here hx rfl (hb hby at_195) rfl ?_
      show Steps _ _ _ (T622.setTop (mkF m 196 #[.val (.int p1), .val (.int p2), .val (.int p3), .val (.int p4), .val (.int (2 : Int32)), .val (.int af0), .val (.int af1), .val (.int af2), .val (.int bf0), .val (.int bf1), .val (.int bf2), .val (.int cf0), .val (.int cf1), .val (.int cf2), .val (.ref b548), .val (.ref b555), .val (.ref b562), .val (.ref b573), .unset, .unset, .unset, .unset, .unset, .unset, .unset, .unset] [(.long af1.toInt64), (.long (av0 * cv0))])) _
      rw [hav1]
      refine XS.iload X622.here hx rfl (hb hby at_196) rfl ?_
      refine XS.i2l X622.here hx rfl (hb hby at_198) rfl ?_
      show Steps _ _ _ (T622.setTop (mkF m 199 #[.val (.int p1), .val (.int p2), .val (.int p3), .val (.int p4), .val (.int (2 : Int32)), .val (.int af0), .val (.int af1), .val (.int af2), .val (.int bf0), .val (.int bf1), .val (.int bf2), .val (.int cf0), .val (.int cf1), .val (.int cf2), .val (.ref b548), .val (.ref b555), .val (.ref b562), .val (.ref b573), .unset, .unset, .unset, .unset, .unset, .unset, .unset, .unset] [(.long cf1.toInt64), (.long av1), (.long (av0 * cv0))])) _
      rw [hcv1]
      refine XS.lmul X622.here hx rfl (hb hby at_199) rfl ?_
      refine XS.ladd X622.here hx rfl (hb hby at_200) rfl ?_
      refine XS.iload X622.here hx rfl (hb hby at_201) rfl ?_
      refine XS.i2l X622.here hx rfl (hb hby at_203) rfl ?_
      show Steps _ _ _ (T622.setTop (mkF m 204 #[.val (.int p1), .val (.int p2), .val (.int p3), .val (.int p4), .val (.int (2 : Int32)), .val (.int af0), .val (.int af1), .val (.int af2), .val (.int bf0), .val (.int bf1), .val (.int bf2), .val (.int cf0), .val (.int cf1), .val (.int cf2), .val (.ref b548), .val (.ref b555), .val (.ref b562), .val (.ref b573), .unset, .unset, .unset, .unset, .unset, .unset, .unset, .unset] [(.long af2.toInt64), (.long ((av0 * cv0) + (av1 * cv1)))])) _
      rw [hav2]
      refine XS.iload X622.here hx rfl (hb hby at_204) rfl ?_
      refine XS.i2l X622.here hx rfl (hb hby at_206) rfl ?_
      show Steps _ _ _ (T622.setTop (mkF m 207 #[.val (.int p1), .val (.int p2), .val (.int p3), .val (.int p4), .val (.int (2 : Int32)), .val (.int af0), .val (.int af1), .val (.int af2), .val (.int bf0), .val (.int bf1), .val (.int bf2), .val (.int cf0), .val (.int cf1), .val (.int cf2), .val (.ref b548), .val (.ref b555), .val (.ref b562), .val (.ref b573), .unset, .unset, .unset, .unset, .unset, .unset, .unset, .unset] [(.long cf2.toInt64), (.long av2), (.long ((av0 * cv0) + (av1 * cv1)))])) _
      rw [hcv2]
      refine XS.lmul X622.here hx rfl (hb hby at_207) rfl ?_
      refine XS.ladd X622.here hx rfl (hb hby at_208) rfl ?_
      refine XS.lstore X622.here hx rfl (hb hby at_209) rfl (l' := #[.val (.int p1), .val (.int p2), .val (.int p3), .val (.int p4), .val (.int (2 : Int32)), .val (.int af0), .val (.int af1), .val (.int af2), .val (.int bf0), .val (.int bf1), .val (.int bf2), .val (.int cf0), .val (.int cf1), .val (.int cf2), .val (.ref b548), .val (.ref b555), .val (.ref b562), .val (.ref b573), .val (.long (((av0 * cv0) + (av1 * cv1)) + (av2 * cv2))), .second, .unset, .unset, .unset, .unset, .unset, .unset]) rfl ?_
      refine XS.iload X622.here hx rfl (hb hby at_211) rfl ?_
      show Steps _ _ _ (T622.setTop (mkF m 213 #[.val (.int p1), .val (.int p2), .val (.int p3), .val (.int p4), .val (.int (2 : Int32)), .val (.int af0), .val (.int af1), .val (.int af2), .val (.int bf0), .val (.int bf1), .val (.int bf2), .val (.int cf0), .val (.int cf1), .val (.int cf2), .val (.ref b548), .val (.ref b555), .val (.ref b562), .val (.ref b573), .val (.long (((av0 * cv0) + (av1 * cv1)) + (av2 * cv2))), .second, .unset, .unset, .unset, .unset, .unset, .unset] [(.int bf0)])) _
      refine XS.i2l X622.here hx rfl (hb hby at_213) rfl ?_
      show Steps _ _ _ (T622.setTop (mkF m 214 #[.val (.int p1), .val (.int p2), .val (.int p3), .val (.int p4), .val (.int (2 : Int32)), .val (.int af0), .val (.int af1), .val (.int af2), .val (.int bf0), .val (.int bf1), .val (.int bf2), .val (.int cf0), .val (.int cf1), .val (.int cf2), .val (.ref b548), .val (.ref b555), .val (.ref b562), .val (.ref b573), .val (.long (((av0 * cv0) + (av1 * cv1)) + (av2 * cv2))), .second, .unset, .unset, .unset, .unset, .unset, .unset] [(.long bf0.toInt64)])) _
      rw [hbv0]
      refine XS.iload X622.here hx rfl (hb hby at_214) rfl ?_
      refine XS.i2l X622.here hx rfl (hb hby at_216) rfl ?_
      show Steps _ _ _ (T622.setTop (mkF m 217 #[.val (.int p1), .val (.int p2), .val (.int p3), .val (.int p4), .val (.int (2 : Int32)), .val (.int af0), .val (.int af1), .val (.int af2), .val (.int bf0), .val (.int bf1), .val (.int bf2), .val (.int cf0), .val (.int cf1), .val (.int cf2), .val (.ref b548), .val (.ref b555), .val (.ref b562), .val (.ref b573), .val (.long (((av0 * cv0) + (av1 * cv1)) + (av2 * cv2))), .second, .unset, .unset, .unset, .unset, .unset, .unset] [(.long cf0.toInt64), (.long bv0)])) _
      rw [hcv0]
      refine XS.lmul X622.here hx rfl (hb hby at_217) rfl ?_
      refine XS.iload X622.here hx rfl (hb hby at_218) rfl ?_
      refine XS.i2l X622.here hx rfl (hb hby at_220) rfl ?_
      show Steps _ _ _ (T622.setTop (mkF m 221 #[.val (.int p1), .val (.int p2), .val (.int p3), .val (.int p4), .val (.int (2 : Int32)), .val (.int af0), .val (.int af1), .val (.int af2), .val (.int bf0), .val (.int bf1), .val (.int bf2), .val (.int cf0), .val (.int cf1), .val (.int cf2), .val (.ref b548), .val (.ref b555), .val (.ref b562), .val (.ref b573), .val (.long (((av0 * cv0) + (av1 * cv1)) + (av2 * cv2))), .second, .unset, .unset, .unset, .unset, .unset, .unset] [(.long bf1.toInt64), (.long (bv0 * cv0))])) _
      rw [hbv1]
      refine XS.iload X622.here hx rfl (hb hby at_221) rfl ?_
      refine XS.i2l X622.here hx rfl (hb hby at_223) rfl ?_
      show Steps _ _ _ (T622.setTop (mkF m 224 #[.val (.int p1), .val (.int p2), .val (.int p3), .val (.int p4), .val (.int (2 : Int32)), .val (.int af0), .val (.int af1), .val (.int af2), .val (.int bf0), .val (.int bf1), .val (.int bf2), .val (.int cf0), .val (.int cf1), .val (.int cf2), .val (.ref b548), .val (.ref b555), .val (.ref b562), .val (.ref b573), .val (.long (((av0 * cv0) + (av1 * cv1)) + (av2 * cv2))), .second, .unset, .unset, .unset, .unset, .unset, .unset] [(.long cf1.toInt64), (.long bv1), (.long (bv0 * cv0))])) _
      rw [hcv1]
      refine XS.lmul X622.here hx rfl (hb hby at_224) rfl ?_
      refine XS.ladd X622.here hx rfl (hb hby at_225) rfl ?_
      refine XS.iload X622.here hx rfl (hb hby at_226) rfl ?_
      refine XS.i2l X622.here hx rfl (hb hby at_228) rfl ?_
      show Steps _ _ _ (T622.setTop (mkF m 229 #[.val (.int p1), .val (.int p2), .val (.int p3), .val (.int p4), .val (.int (2 : Int32)), .val (.int af0), .val (.int af1), .val (.int af2), .val (.int bf0), .val (.int bf1), .val (.int bf2), .val (.int cf0), .val (.int cf1), .val (.int cf2), .val (.ref b548), .val (.ref b555), .val (.ref b562), .val (.ref b573), .val (.long (((av0 * cv0) + (av1 * cv1)) + (av2 * cv2))), .second, .unset, .unset, .unset, .unset, .unset, .unset] [(.long bf2.toInt64), (.long ((bv0 * cv0) + (bv1 * cv1)))])) _
      rw [hbv2]
      refine XS.iload X622.here hx rfl (hb hby at_229) rfl ?_
      refine XS.i2l X622.here hx rfl (hb hby at_231) rfl ?_
      show Steps _ _ _ (T622.setTop (mkF m 232 #[.val (.int p1), .val (.int p2), .val (.int p3), .val (.int p4), .val (.int (2 : Int32)), .val (.int af0), .val (.int af1), .val (.int af2), .val (.int bf0), .val (.int bf1), .val (.int bf2), .val (.int cf0), .val (.int cf1), .val (.int cf2), .val (.ref b548), .val (.ref b555), .val (.ref b562), .val (.ref b573), .val (.long (((av0 * cv0) + (av1 * cv1)) + (av2 * cv2))), .second, .unset, .unset, .unset, .unset, .unset, .unset] [(.long cf2.toInt64), (.long bv2), (.long ((bv0 * cv0) + (bv1 * cv1)))])) _
      rw [hcv2]
      refine XS.lmul X622.here hx rfl (hb hby at_232) rfl ?_
      refine XS.ladd X622.here hx rfl (hb hby at_233) rfl ?_
      refine XS.lstore X622.here hx rfl (hb hby at_234) rfl (l' := #[.val (.int p1), .val (.int p2), .val (.int p3), .val (.int p4), .val (.int (2 : Int32)), .val (.int af0), .val (.int af1), .val (.int af2), .val (.int bf0), .val (.int bf1), .val (.int bf2), .val (.int cf0), .val (.int cf1), .val (.int cf2), .val (.ref b548), .val (.ref b555), .val (.ref b562), .val (.ref b573), .val (.long (((av0 * cv0) + (av1 * cv1)) + (av2 * cv2))), .second, .val (.long (((bv0 * cv0) + (bv1 * cv1)) + (bv2 * cv2))), .second, .unset, .unset, .unset, .unset]) rfl ?_
      refine XS.lconst X622.here hx rfl (hb hby at_236) ?_
      show Steps _ _ _ (T622.setTop (mkF m 237 #[.val (.int p1), .val (.int p2), .val (.int p3), .val (.int p4), .val (.int (2 : Int32)), .val (.int af0), .val (.int af1), .val (.int af2), .val (.int bf0), .val (.int bf1), .val (.int bf2), .val (.int cf0), .val (.int cf1), .val (.int cf2), .val (.ref b548), .val (.ref b555), .val (.ref b562), .val (.ref b573), .val (.long (((av0 * cv0) + (av1 * cv1)) + (av2 * cv2))), .second, .val (.long (((bv0 * cv0) + (bv1 * cv1)) + (bv2 * cv2))), .second, .unset, .unset, .unset, .unset] [(.long (0 : Int64))])) _
      refine XS.lstore X622.here hx rfl (hb hby at_237) rfl (l' := #[.val (.int p1), .val (.int p2), .val (.int p3), .val (.int p4), .val (.int (2 : Int32)), .val (.int af0), .val (.int af1), .val (.int af2), .val (.int bf0), .val (.int bf1), .val (.int bf2), .val (.int cf0), .val (.int cf1), .val (.int cf2), .val (.ref b548), .val (.ref b555), .val (.ref b562), .val (.ref b573), .val (.long (((av0 * cv0) + (av1 * cv1)) + (av2 * cv2))), .second, .val (.long (((bv0 * cv0) + (bv1 * cv1)) + (bv2 * cv2))), .second, .val (.long (0 : Int64)), .second, .unset, .unset]) rfl ?_
      refine XS.iload X622.here hx rfl (hb hby at_239) rfl ?_
      refine XS.iconst X622.here hx rfl (hb hby at_241) ?_
      refine XS.icmpNo X622.here hx rfl (hb hby at_242) rfl (by decide) ?_
      show Steps _ _ _ (T622.setTop (mkF m 245 #[.val (.int p1), .val (.int p2), .val (.int p3), .val (.int p4), .val (.int (2 : Int32)), .val (.int af0), .val (.int af1), .val (.int af2), .val (.int bf0), .val (.int bf1), .val (.int bf2), .val (.int cf0), .val (.int cf1), .val (.int cf2), .val (.ref b548), .val (.ref b555), .val (.ref b562), .val (.ref b573), .val (.long (((av0 * cv0) + (av1 * cv1)) + (av2 * cv2))), .second, .val (.long (((bv0 * cv0) + (bv1 * cv1)) + (bv2 * cv2))), .second, .val (.long (0 : Int64)), .second, .unset, .unset] [])) _
      refine XS.lload X622.here hx rfl (hb hby at_245) rfl ?_
      refine XS.lload X622.here hx rfl (hb hby at_247) rfl ?_
      refine XS.lload X622.here hx rfl (hb hby at_249) rfl ?_
      refine XS.lmul X622.here hx rfl (hb hby at_251) rfl ?_
      show Steps _ _ _ (T622.setTop (mkF m 252 #[.val (.int p1), .val (.int p2), .val (.int p3), .val (.int p4), .val (.int (2 : Int32)), .val (.int af0), .val (.int af1), .val (.int af2), .val (.int bf0), .val (.int bf1), .val (.int bf2), .val (.int cf0), .val (.int cf1), .val (.int cf2), .val (.ref b548), .val (.ref b555), .val (.ref b562), .val (.ref b573), .val (.long (((av0 * cv0) + (av1 * cv1)) + (av2 * cv2))), .second, .val (.long (((bv0 * cv0) + (bv1 * cv1)) + (bv2 * cv2))), .second, .val (.long (0 : Int64)), .second, .unset, .unset] [(.long ((((av0 * cv0) + (av1 * cv1)) + (av2 * cv2)) * (((av0 * cv0) + (av1 * cv1)) + (av2 * cv2)))), (.long (0 : Int64))])) _
      refine XS.ladd X622.here hx rfl (hb hby at_252) rfl ?_
      refine XS.lstore X622.here hx rfl (hb hby at_253) rfl (l' := #[.val (.int p1), .val (.int p2), .val (.int p3), .val (.int p4), .val (.int (2 : Int32)), .val (.int af0), .val (.int af1), .val (.int af2), .val (.int bf0), .val (.int bf1), .val (.int bf2), .val (.int cf0), .val (.int cf1), .val (.int cf2), .val (.ref b548), .val (.ref b555), .val (.ref b562), .val (.ref b573), .val (.long (((av0 * cv0) + (av1 * cv1)) + (av2 * cv2))), .second, .val (.long (((bv0 * cv0) + (bv1 * cv1)) + (bv2 * cv2))), .second, .val (.long ((0 : Int64) + ((((av0 * cv0) + (av1 * cv1)) + (av2 * cv2)) * (((av0 * cv0) + (av1 * cv1)) + (av2 * cv2))))), .second, .unset, .unset]) rfl ?_
      refine XS.iload X622.here hx rfl (hb hby at_255) rfl ?_
      refine XS.iconst X622.here hx rfl (hb hby at_257) ?_
      show Steps _ _ _ (T622.setTop (mkF m 258 #[.val (.int p1), .val (.int p2), .val (.int p3), .val (.int p4), .val (.int (2 : Int32)), .val (.int af0), .val (.int af1), .val (.int af2), .val (.int bf0), .val (.int bf1), .val (.int bf2), .val (.int cf0), .val (.int cf1), .val (.int cf2), .val (.ref b548), .val (.ref b555), .val (.ref b562), .val (.ref b573), .val (.long (((av0 * cv0) + (av1 * cv1)) + (av2 * cv2))), .second, .val (.long (((bv0 * cv0) + (bv1 * cv1)) + (bv2 * cv2))), .second, .val (.long ((0 : Int64) + ((((av0 * cv0) + (av1 * cv1)) + (av2 * cv2)) * (((av0 * cv0) + (av1 * cv1)) + (av2 * cv2))))), .second, .unset, .unset] [(.int (2 : Int32)), (.int (2 : Int32))])) _
      refine XS.icmpNo X622.here hx rfl (hb hby at_258) rfl (by decide) ?_
      refine XS.lload X622.here hx rfl (hb hby at_261) rfl ?_
      refine XS.lload X622.here hx rfl (hb hby at_263) rfl ?_
      refine XS.lload X622.here hx rfl (hb hby at_265) rfl ?_
      show Steps _ _ _ (T622.setTop (mkF m 267 #[.val (.int p1), .val (.int p2), .val (.int p3), .val (.int p4), .val (.int (2 : Int32)), .val (.int af0), .val (.int af1), .val (.int af2), .val (.int bf0), .val (.int bf1), .val (.int bf2), .val (.int cf0), .val (.int cf1), .val (.int cf2), .val (.ref b548), .val (.ref b555), .val (.ref b562), .val (.ref b573), .val (.long (((av0 * cv0) + (av1 * cv1)) + (av2 * cv2))), .second, .val (.long (((bv0 * cv0) + (bv1 * cv1)) + (bv2 * cv2))), .second, .val (.long ((0 : Int64) + ((((av0 * cv0) + (av1 * cv1)) + (av2 * cv2)) * (((av0 * cv0) + (av1 * cv1)) + (av2 * cv2))))), .second, .unset, .unset] [(.long (((bv0 * cv0) + (bv1 * cv1)) + (bv2 * cv2))), (.long (((bv0 * cv0) + (bv1 * cv1)) + (bv2 * cv2))), (.long ((0 : Int64) + ((((av0 * cv0) + (av1 * cv1)) + (av2 * cv2)) * (((av0 * cv0) + (av1 * cv1)) + (av2 * cv2)))))])) _
      refine XS.lmul X622.here hx rfl (hb hby at_267) rfl ?_
      refine XS.ladd X622.here hx rfl (hb hby at_268) rfl ?_
      refine XS.lstore X622.here hx rfl (hb hby at_269) rfl (l' := #[.val (.int p1), .val (.int p2), .val (.int p3), .val (.int p4), .val (.int (2 : Int32)), .val (.int af0), .val (.int af1), .val (.int af2), .val (.int bf0), .val (.int bf1), .val (.int bf2), .val (.int cf0), .val (.int cf1), .val (.int cf2), .val (.ref b548), .val (.ref b555), .val (.ref b562), .val (.ref b573), .val (.long (((av0 * cv0) + (av1 * cv1)) + (av2 * cv2))), .second, .val (.long (((bv0 * cv0) + (bv1 * cv1)) + (bv2 * cv2))), .second, .val (.long (((0 : Int64) + ((((av0 * cv0) + (av1 * cv1)) + (av2 * cv2)) * (((av0 * cv0) + (av1 * cv1)) + (av2 * cv2)))) + ((((bv0 * cv0) + (bv1 * cv1)) + (bv2 * cv2)) * (((bv0 * cv0) + (bv1 * cv1)) + (bv2 * cv2))))), .second, .unset, .unset]) rfl ?_
      refine XS.iload X622.here hx rfl (hb hby at_271) rfl ?_
      show Steps _ _ _ (T622.setTop (mkF m 273 #[.val (.int p1), .val (.int p2), .val (.int p3), .val (.int p4), .val (.int (2 : Int32)), .val (.int af0), .val (.int af1), .val (.int af2), .val (.int bf0), .val (.int bf1), .val (.int bf2), .val (.int cf0), .val (.int cf1), .val (.int cf2), .val (.ref b548), .val (.ref b555), .val (.ref b562), .val (.ref b573), .val (.long (((av0 * cv0) + (av1 * cv1)) + (av2 * cv2))), .second, .val (.long (((bv0 * cv0) + (bv1 * cv1)) + (bv2 * cv2))), .second, .val (.long (((0 : Int64) + ((((av0 * cv0) + (av1 * cv1)) + (av2 * cv2)) * (((av0 * cv0) + (av1 * cv1)) + (av2 * cv2)))) + ((((bv0 * cv0) + (bv1 * cv1)) + (bv2 * cv2)) * (((bv0 * cv0) + (bv1 * cv1)) + (bv2 * cv2))))), .second, .unset, .unset] [(.int (2 : Int32))])) _
      refine XS.iconst X622.here hx rfl (hb hby at_273) ?_
      refine XS.icmpYes X622.here hx rfl (pc0 := 274) (pc' := 287) rfl (hb hby at_274) rfl (by decide) (by decide) (by decide) ?_
      refine XS.aload X622.here hx rfl (hb hby at_287) rfl rfl ?_
      refine XS.aload X622.here hx rfl (hb hby at_289) rfl rfl ?_
      show Steps _ _ _ (T622.setTop (mkF m 291 #[.val (.int p1), .val (.int p2), .val (.int p3), .val (.int p4), .val (.int (2 : Int32)), .val (.int af0), .val (.int af1), .val (.int af2), .val (.int bf0), .val (.int bf1), .val (.int bf2), .val (.int cf0), .val (.int cf1), .val (.int cf2), .val (.ref b548), .val (.ref b555), .val (.ref b562), .val (.ref b573), .val (.long (((av0 * cv0) + (av1 * cv1)) + (av2 * cv2))), .second, .val (.long (((bv0 * cv0) + (bv1 * cv1)) + (bv2 * cv2))), .second, .val (.long (((0 : Int64) + ((((av0 * cv0) + (av1 * cv1)) + (av2 * cv2)) * (((av0 * cv0) + (av1 * cv1)) + (av2 * cv2)))) + ((((bv0 * cv0) + (bv1 * cv1)) + (bv2 * cv2)) * (((bv0 * cv0) + (bv1 * cv1)) + (bv2 * cv2))))), .second, .unset, .unset] [(.ref b562), (.ref b573)])) _
      refine st639.trans ?_
      show Steps _ _ _ (T639.setTop (mkF m 294 #[.val (.int p1), .val (.int p2), .val (.int p3), .val (.int p4), .val (.int (2 : Int32)), .val (.int af0), .val (.int af1), .val (.int af2), .val (.int bf0), .val (.int bf1), .val (.int bf2), .val (.int cf0), .val (.int cf1), .val (.int cf2), .val (.ref b548), .val (.ref b555), .val (.ref b562), .val (.ref b573), .val (.long (((av0 * cv0) + (av1 * cv1)) + (av2 * cv2))), .second, .val (.long (((bv0 * cv0) + (bv1 * cv1)) + (bv2 * cv2))), .second, .val (.long (((0 : Int64) + ((((av0 * cv0) + (av1 * cv1)) + (av2 * cv2)) * (((av0 * cv0) + (av1 * cv1)) + (av2 * cv2)))) + ((((bv0 * cv0) + (bv1 * cv1)) + (bv2 * cv2)) * (((bv0 * cv0) + (bv1 * cv1)) + (bv2 * cv2))))), .second, .unset, .unset] [(.double (FP.l2d (own_along ((0 + av0 * av0) + bv0 * bv0) ((0 + av0 * av1) + bv0 * bv1) ((0 + av0 * av2) + bv0 * bv2) ((0 + av1 * av0) + bv1 * bv0) ((0 + av1 * av1) + bv1 * bv1) ((0 + av1 * av2) + bv1 * bv2) ((0 + av2 * av0) + bv2 * bv0) ((0 + av2 * av1) + bv2 * bv1) ((0 + av2 * av2) + bv2 * bv2) cv0 cv1 cv2)))])) _
      refine XS.dstore X639.here hx rfl (hb hby at_294) rfl (l' := #[.val (.int p1), .val (.int p2), .val (.int p3), .val (.int p4), .val (.int (2 : Int32)), .val (.int af0), .val (.int af1), .val (.int af2), .val (.int bf0), .val (.int bf1), .val (.int bf2), .val (.int cf0), .val (.int cf1), .val (.int cf2), .val (.ref b548), .val (.ref b555), .val (.ref b562), .val (.ref b573), .val (.long (((av0 * cv0) + (av1 * cv1)) + (av2 * cv2))), .second, .val (.long (((bv0 * cv0) + (bv1 * cv1)) + (bv2 * cv2))), .second, .val (.long (((0 : Int64) + ((((av0 * cv0) + (av1 * cv1)) + (av2 * cv2)) * (((av0 * cv0) + (av1 * cv1)) + (av2 * cv2)))) + ((((bv0 * cv0) + (bv1 * cv1)) + (bv2 * cv2)) * (((bv0 * cv0) + (bv1 * cv1)) + (bv2 * cv2))))), .second, .val (.double (FP.l2d (own_along ((0 + av0 * av0) + bv0 * bv0) ((0 + av0 * av1) + bv0 * bv1) ((0 + av0 * av2) + bv0 * bv2) ((0 + av1 * av0) + bv1 * bv0) ((0 + av1 * av1) + bv1 * bv1) ((0 + av1 * av2) + bv1 * bv2) ((0 + av2 * av0) + bv2 * bv0) ((0 + av2 * av1) + bv2 * bv1) ((0 + av2 * av2) + bv2 * bv2) cv0 cv1 cv2))), .second]) rfl ?_
      refine XS.dload X639.here hx rfl (hb hby at_296) rfl ?_
      refine XS.lload X639.here hx rfl (hb hby at_298) rfl ?_
      refine XS.l2dS X639.here hx rfl (hb hby at_300) rfl (v := (FP.l2d (((0 : Int64) + ((((av0 * cv0) + (av1 * cv1)) + (av2 * cv2)) * (((av0 * cv0) + (av1 * cv1)) + (av2 * cv2)))) + ((((bv0 * cv0) + (bv1 * cv1)) + (bv2 * cv2)) * (((bv0 * cv0) + (bv1 * cv1)) + (bv2 * cv2)))))) rfl ?_
      show Steps _ _ _ (T639.setTop (mkF m 301 #[.val (.int p1), .val (.int p2), .val (.int p3), .val (.int p4), .val (.int (2 : Int32)), .val (.int af0), .val (.int af1), .val (.int af2), .val (.int bf0), .val (.int bf1), .val (.int bf2), .val (.int cf0), .val (.int cf1), .val (.int cf2), .val (.ref b548), .val (.ref b555), .val (.ref b562), .val (.ref b573), .val (.long (((av0 * cv0) + (av1 * cv1)) + (av2 * cv2))), .second, .val (.long (((bv0 * cv0) + (bv1 * cv1)) + (bv2 * cv2))), .second, .val (.long (((0 : Int64) + ((((av0 * cv0) + (av1 * cv1)) + (av2 * cv2)) * (((av0 * cv0) + (av1 * cv1)) + (av2 * cv2)))) + ((((bv0 * cv0) + (bv1 * cv1)) + (bv2 * cv2)) * (((bv0 * cv0) + (bv1 * cv1)) + (bv2 * cv2))))), .second, .val (.double (FP.l2d (own_along ((0 + av0 * av0) + bv0 * bv0) ((0 + av0 * av1) + bv0 * bv1) ((0 + av0 * av2) + bv0 * bv2) ((0 + av1 * av0) + bv1 * bv0) ((0 + av1 * av1) + bv1 * bv1) ((0 + av1 * av2) + bv1 * bv2) ((0 + av2 * av0) + bv2 * bv0) ((0 + av2 * av1) + bv2 * bv1) ((0 + av2 * av2) + bv2 * bv2) cv0 cv1 cv2))), .second] [(.double (FP.l2d (((0 : Int64) + ((((av0 * cv0) + (av1 * cv1)) + (av2 * cv2)) * (((av0 * cv0) + (av1 * cv1)) + (av2 * cv2)))) + ((((bv0 * cv0) + (bv1 * cv1)) + (bv2 * cv2)) * (((bv0 * cv0) + (bv1 * cv1)) + (bv2 * cv2)))))), (.double (FP.l2d (own_along ((0 + av0 * av0) + bv0 * bv0) ((0 + av0 * av1) + bv0 * bv1) ((0 + av0 * av2) + bv0 * bv2) ((0 + av1 * av0) + bv1 * bv0) ((0 + av1 * av1) + bv1 * bv1) ((0 + av1 * av2) + bv1 * bv2) ((0 + av2 * av0) + bv2 * bv0) ((0 + av2 * av1) + bv2 * bv1) ((0 + av2 * av2) + bv2 * bv2) cv0 cv1 cv2)))])) _
      refine XS.dcmpS X639.here hx rfl (hb hby at_301) rfl (v := (0 : Int32)) (own_cmpEq eqr _) ?_
      refine XS.ifNo X639.here hx rfl (hb hby at_302) rfl (by decide) ?_
      refine XS.iconst X639.here hx rfl (hb hby at_305) ?_
      refine XS.goto X639.here hx rfl (pc0 := 306) (pc' := 310) rfl (hb hby at_306) (by decide) (by decide) ?_
      show Steps _ _ _ (T639.setTop (mkF m 310 #[.val (.int p1), .val (.int p2), .val (.int p3), .val (.int p4), .val (.int (2 : Int32)), .val (.int af0), .val (.int af1), .val (.int af2), .val (.int bf0), .val (.int bf1), .val (.int bf2), .val (.int cf0), .val (.int cf1), .val (.int cf2), .val (.ref b548), .val (.ref b555), .val (.ref b562), .val (.ref b573), .val (.long (((av0 * cv0) + (av1 * cv1)) + (av2 * cv2))), .second, .val (.long (((bv0 * cv0) + (bv1 * cv1)) + (bv2 * cv2))), .second, .val (.long (((0 : Int64) + ((((av0 * cv0) + (av1 * cv1)) + (av2 * cv2)) * (((av0 * cv0) + (av1 * cv1)) + (av2 * cv2)))) + ((((bv0 * cv0) + (bv1 * cv1)) + (bv2 * cv2)) * (((bv0 * cv0) + (bv1 * cv1)) + (bv2 * cv2))))), .second, .val (.double (FP.l2d (own_along ((0 + av0 * av0) + bv0 * bv0) ((0 + av0 * av1) + bv0 * bv1) ((0 + av0 * av2) + bv0 * bv2) ((0 + av1 * av0) + bv1 * bv0) ((0 + av1 * av1) + bv1 * bv1) ((0 + av1 * av2) + bv1 * bv2) ((0 + av2 * av0) + bv2 * bv0) ((0 + av2 * av1) + bv2 * bv1) ((0 + av2 * av2) + bv2 * bv2) cv0 cv1 cv2))), .second] [(.int (1 : Int32))])) _
      exact retN X639 hx (t := .boolean) Bd.returns (by simp) (hb hby at_310) hr
    · show Q0 Z p1 p2 p3 p4 h0 n0 _ T639.heap _
      rw [eq639]
      exact ⟨rfl, N639⟩
  ·
    have f644 := f583.keep Kc582 (ninS (Nat.ne_of_lt lt_b548_b573) nin0)
    obtain ⟨cq643, kq643, q643a, q643b, q643c⟩ := isOf hZ rfl Ea582
    obtain ⟨_, _, ⟨T643, L643, k643, n643⟩, -, X643, ⟨Lc643, hQ643, l643, y643, z643⟩, st643⟩ := X582.virtualBack hx (y := (⟨"com/example/lineament/lineament/math/OuterProductSum", "add", "([D)V"⟩ : MethodName)) (z := (⟨"com/example/lineament/lineament/math/OuterProductSum", "add", "([D)V"⟩ : MethodName)) hown (mvT hZ (hw _ (List.mem_of_getElem? (i := 22) rfl))) (mvT hZ (hw _ (List.mem_of_getElem? (i := 23) rfl))) (notFace_of_selects (args := #[]) (mvT hZ (hw _ (List.mem_of_getElem? (i := 25) rfl)))) (mvT hZ (hw _ (List.mem_of_getElem? (i := 25) rfl))) (mvT hZ (hw _ (List.mem_of_getElem? (i := 24) rfl))) (by decide) (backOf (W := 0) (rmAD l Z a0 hw [] b573 b548 sm bs ib ks kbs kib k548 (0 : Int32) 0 0 0 0 0 0 0 0 0 0 0 0 0 0 0 0 0 0 0 av0 av1 av2 T582.heap n0 (Nat.le_trans Z0 K582.1) Ea582 Fd582 Fsum582 Fbasis582 FinBasis582 Fc582 Ft582 Vs582 Vb582 Vi582 f644 (Nat.ne_of_lt lt_b573_sm) (Nat.ne_of_lt lt_b573_ib) (Nat.ne_of_lt lt_b548_sm) (Nat.ne_of_lt lt_b548_ib) (Nat.ne_of_lt lt_b548_b573) (Ne.symm ne_sm_bs) ne_bs_ib ne_sm_ib (Nat.ne_of_gt lt_b573_bs) g_b573 g_sm g_ib (own_Bm own_B0 (by decide)) (own_Bm own_B0 (by decide)) (own_Bm own_B0 (by decide)) (own_Bm own_B0 (by decide)) (own_Bm own_B0 (by decide)) (own_Bm own_B0 (by decide)) (own_Bm own_B0 (by decide)) (own_Bm own_B0 (by decide)) (own_Bm own_B0 (by decide)) (own_Bm own_B0 (by decide)) (own_Bm own_B0 (by decide)) (own_Bm own_B0 (by decide)) (own_Bm own_B0 (by decide)) (own_Bm own_B0 (by decide)) (own_Bm own_B0 (by decide)) (own_Bm own_B0 (by decide)) (own_Bm own_B0 (by decide)) (own_Bm own_B0 (by decide)) (own_Bm own_B0 (by decide)) B_av0 B_av1 B_av2) hZ (hw _ (List.mem_of_getElem? (i := 26) rfl)) (hw _ (List.mem_of_getElem? (i := 7) rfl)) (by decide) (by decide)) q643a q643c (g := (mkF m 157 #[.val (.int p1), .val (.int p2), .val (.int p3), .val (.int p4), .val (.int (3 : Int32)), .val (.int af0), .val (.int af1), .val (.int af2), .val (.int bf0), .val (.int bf1), .val (.int bf2), .val (.int cf0), .val (.int cf1), .val (.int cf2), .val (.ref b548), .val (.ref b555), .val (.ref b562), .val (.ref b573), .unset, .unset, .unset, .unset, .unset, .unset, .unset, .unset] [(.ref b548), (.ref b573)])) rfl (by rw [hml]; rfl) (Steps.refl _) (argsL := [(.ref b548)]) (rest := []) (lenOf pd_1 rfl) rfl (by show 2 * 0 + _ ≤ _; exact Nat.le_of_eq rfl) (hb hby at_157) (fun _ _ => ⟨rfl, rfl, (by decide : 7 + 1 ≤ _), (by decide : 42 + 3 ≤ _)⟩)
    dsimp only [Pt.U, Pt.locs, Pt.cells, Pt.slots] at X643 l643 y643 z643 st643 hQ643
    rw [l643, y643, z643] at X643
    obtain ⟨hv643, Nq643, Kc643, Ea643, Fd643, Fsum643, Fbasis643, FinBasis643, Fc643, Ft643, Vs643, Vi643⟩ := hQ643
    rw [hv643] at st643
    have K643 : Keep h0 T643.heap [] := K582.trans Kc643 (allS (P := fun x => x ∈ [] ∨ h0.size ≤ x) (Or.inr sz_b573) (allS (P := fun x => x ∈ [] ∨ h0.size ≤ x) (Or.inr sz_sm) (allS (P := fun x => x ∈ [] ∨ h0.size ≤ x) (Or.inr sz_ib) all0)))
    have Bq645 := own_fma own_B0 B_av0 B_av0 (by decide) (by decide) (by decide)
    have Bq646 := own_fma own_B0 B_av0 B_av1 (by decide) (by decide) (by decide)
    have Bq647 := own_fma own_B0 B_av0 B_av2 (by decide) (by decide) (by decide)
    have Bq648 := own_fma own_B0 B_av1 B_av0 (by decide) (by decide) (by decide)
    have Bq649 := own_fma own_B0 B_av1 B_av1 (by decide) (by decide) (by decide)
    have Bq650 := own_fma own_B0 B_av1 B_av2 (by decide) (by decide) (by decide)
    have Bq651 := own_fma own_B0 B_av2 B_av0 (by decide) (by decide) (by decide)
    have Bq652 := own_fma own_B0 B_av2 B_av1 (by decide) (by decide) (by decide)
    have Bq653 := own_fma own_B0 B_av2 B_av2 (by decide) (by decide) (by decide)
    have Bq655 := own_fma own_B0 B_av0 B_av0 (by decide) (by decide) (by decide)
    have Bq656 := own_fma Bq655.2 B_av1 B_av1 (by decide) (by decide) (by decide)
    have Bq657 := own_fma Bq656.2 B_av2 B_av2 (by decide) (by decide) (by decide)
    have N643 := Fr.app N582 Nq643
    have f659 := Vb582.keep Kc643 (ninS (Nat.ne_of_gt lt_b573_bs) (ninS (Ne.symm ne_sm_bs) (ninS ne_bs_ib nin0)))
    have f660 := f584.keep Kc582 (ninS (Nat.ne_of_lt lt_b555_b573) nin0)
    have f661 := f660.keep Kc643 (ninS (Nat.ne_of_lt lt_b555_b573) (ninS (Nat.ne_of_lt lt_b555_sm) (ninS (Nat.ne_of_lt lt_b555_ib) nin0)))
    obtain ⟨cq658, kq658, q658a, q658b, q658c⟩ := isOf hZ rfl Ea643
    obtain ⟨_, _, ⟨T658, L658, k658, n658⟩, -, X658, ⟨Lc658, hQ658, l658, y658, z658⟩, st658⟩ := X643.virtualBack hx (y := (⟨"com/example/lineament/lineament/math/OuterProductSum", "add", "([D)V"⟩ : MethodName)) (z := (⟨"com/example/lineament/lineament/math/OuterProductSum", "add", "([D)V"⟩ : MethodName)) hown (mvT hZ (hw _ (List.mem_of_getElem? (i := 22) rfl))) (mvT hZ (hw _ (List.mem_of_getElem? (i := 23) rfl))) (notFace_of_selects (args := #[]) (mvT hZ (hw _ (List.mem_of_getElem? (i := 25) rfl)))) (mvT hZ (hw _ (List.mem_of_getElem? (i := 25) rfl))) (mvT hZ (hw _ (List.mem_of_getElem? (i := 24) rfl))) (by decide) (backOf (W := 0) (rmAD l Z a0 hw [] b573 b555 sm bs ib ks kbs kib k555 ((0 : Int32) + (1 : Int32)) (((0 + av0 * av0) + av1 * av1) + av2 * av2) (0 + av0 * av0) (0 + av0 * av1) (0 + av0 * av2) (0 + av1 * av0) (0 + av1 * av1) (0 + av1 * av2) (0 + av2 * av0) (0 + av2 * av1) (0 + av2 * av2) (0 + av0 * av0) (0 + av0 * av1) (0 + av0 * av2) (0 + av1 * av0) (0 + av1 * av1) (0 + av1 * av2) (0 + av2 * av0) (0 + av2 * av1) (0 + av2 * av2) bv0 bv1 bv2 T643.heap n0 (Nat.le_trans Z0 K643.1) Ea643 Fd643 Fsum643 Fbasis643 FinBasis643 Fc643 Ft643 Vs643 f659 Vi643 f661 (Nat.ne_of_lt lt_b573_sm) (Nat.ne_of_lt lt_b573_ib) (Nat.ne_of_lt lt_b555_sm) (Nat.ne_of_lt lt_b555_ib) (Nat.ne_of_lt lt_b555_b573) (Ne.symm ne_sm_bs) ne_bs_ib ne_sm_ib (Nat.ne_of_gt lt_b573_bs) g_b573 g_sm g_ib (own_Bm Bq657.2 (by decide)) (own_Bm Bq655.2 (by decide)) (own_Bm Bq646.2 (by decide)) (own_Bm Bq647.2 (by decide)) (own_Bm Bq648.2 (by decide)) (own_Bm Bq649.2 (by decide)) (own_Bm Bq650.2 (by decide)) (own_Bm Bq651.2 (by decide)) (own_Bm Bq652.2 (by decide)) (own_Bm Bq653.2 (by decide)) (own_Bm Bq655.2 (by decide)) (own_Bm Bq646.2 (by decide)) (own_Bm Bq647.2 (by decide)) (own_Bm Bq648.2 (by decide)) (own_Bm Bq649.2 (by decide)) (own_Bm Bq650.2 (by decide)) (own_Bm Bq651.2 (by decide)) (own_Bm Bq652.2 (by decide)) (own_Bm Bq653.2 (by decide)) B_bv0 B_bv1 B_bv2) hZ (hw _ (List.mem_of_getElem? (i := 26) rfl)) (hw _ (List.mem_of_getElem? (i := 7) rfl)) (by decide) (by decide)) q658a q658c (g := (mkF m 170 #[.val (.int p1), .val (.int p2), .val (.int p3), .val (.int p4), .val (.int (3 : Int32)), .val (.int af0), .val (.int af1), .val (.int af2), .val (.int bf0), .val (.int bf1), .val (.int bf2), .val (.int cf0), .val (.int cf1), .val (.int cf2), .val (.ref b548), .val (.ref b555), .val (.ref b562), .val (.ref b573), .unset, .unset, .unset, .unset, .unset, .unset, .unset, .unset] [(.ref b555), (.ref b573)])) rfl (by rw [hml]; rfl) (Steps.refl _) (argsL := [(.ref b555)]) (rest := []) (lenOf pd_1 rfl) rfl (by show 2 * 0 + _ ≤ _; exact Nat.le_of_eq rfl) (hb hby at_170) (fun _ _ => ⟨rfl, rfl, (by decide : 8 + 1 ≤ _), (by decide : 45 + 3 ≤ _)⟩)
    dsimp only [Pt.U, Pt.locs, Pt.cells, Pt.slots] at X658 l658 y658 z658 st658 hQ658
    rw [l658, y658, z658] at X658
    obtain ⟨hv658, Nq658, Kc658, Ea658, Fd658, Fsum658, Fbasis658, FinBasis658, Fc658, Ft658, Vs658, Vi658⟩ := hQ658
    rw [hv658] at st658
    have K658 : Keep h0 T658.heap [] := K643.trans Kc658 (allS (P := fun x => x ∈ [] ∨ h0.size ≤ x) (Or.inr sz_b573) (allS (P := fun x => x ∈ [] ∨ h0.size ≤ x) (Or.inr sz_sm) (allS (P := fun x => x ∈ [] ∨ h0.size ≤ x) (Or.inr sz_ib) all0)))
    have Bq662 := own_fma Bq655.2 B_bv0 B_bv0 (by decide) (by decide) (by decide)
    have Bq663 := own_fma Bq646.2 B_bv0 B_bv1 (by decide) (by decide) (by decide)
    have Bq664 := own_fma Bq647.2 B_bv0 B_bv2 (by decide) (by decide) (by decide)
    have Bq665 := own_fma Bq648.2 B_bv1 B_bv0 (by decide) (by decide) (by decide)
    have Bq666 := own_fma Bq649.2 B_bv1 B_bv1 (by decide) (by decide) (by decide)
    have Bq667 := own_fma Bq650.2 B_bv1 B_bv2 (by decide) (by decide) (by decide)
    have Bq668 := own_fma Bq651.2 B_bv2 B_bv0 (by decide) (by decide) (by decide)
    have Bq669 := own_fma Bq652.2 B_bv2 B_bv1 (by decide) (by decide) (by decide)
    have Bq670 := own_fma Bq653.2 B_bv2 B_bv2 (by decide) (by decide) (by decide)
    have Bq672 := own_fma Bq657.2 B_bv0 B_bv0 (by decide) (by decide) (by decide)
    have Bq673 := own_fma Bq672.2 B_bv1 B_bv1 (by decide) (by decide) (by decide)
    have Bq674 := own_fma Bq673.2 B_bv2 B_bv2 (by decide) (by decide) (by decide)
    have N658 := Fr.app N643 Nq658
    have f676 := f659.keep Kc658 (ninS (Nat.ne_of_gt lt_b573_bs) (ninS (Ne.symm ne_sm_bs) (ninS ne_bs_ib nin0)))
    have f677 := f644.keep Kc643 (ninS (Nat.ne_of_lt lt_b548_b573) (ninS (Nat.ne_of_lt lt_b548_sm) (ninS (Nat.ne_of_lt lt_b548_ib) nin0)))
    have f678 := f677.keep Kc658 (ninS (Nat.ne_of_lt lt_b548_b573) (ninS (Nat.ne_of_lt lt_b548_sm) (ninS (Nat.ne_of_lt lt_b548_ib) nin0)))
    obtain ⟨cq675, kq675, q675a, q675b, q675c⟩ := isOf hZ rfl Ea658
    obtain ⟨_, _, ⟨T675, L675, k675, n675⟩, -, X675, ⟨Lc675, hQ675, l675, y675, z675⟩, st675⟩ := X658.virtualBack hx (y := (⟨"com/example/lineament/lineament/math/OuterProductSum", "add", "([D)V"⟩ : MethodName)) (z := (⟨"com/example/lineament/lineament/math/OuterProductSum", "add", "([D)V"⟩ : MethodName)) hown (mvT hZ (hw _ (List.mem_of_getElem? (i := 22) rfl))) (mvT hZ (hw _ (List.mem_of_getElem? (i := 23) rfl))) (notFace_of_selects (args := #[]) (mvT hZ (hw _ (List.mem_of_getElem? (i := 25) rfl)))) (mvT hZ (hw _ (List.mem_of_getElem? (i := 25) rfl))) (mvT hZ (hw _ (List.mem_of_getElem? (i := 24) rfl))) (by decide) (backOf (W := 0) (rmAD l Z a0 hw [] b573 b548 sm bs ib ks kbs kib k548 (((0 : Int32) + (1 : Int32)) + (1 : Int32)) ((((((0 + av0 * av0) + av1 * av1) + av2 * av2) + bv0 * bv0) + bv1 * bv1) + bv2 * bv2) ((0 + av0 * av0) + bv0 * bv0) ((0 + av0 * av1) + bv0 * bv1) ((0 + av0 * av2) + bv0 * bv2) ((0 + av1 * av0) + bv1 * bv0) ((0 + av1 * av1) + bv1 * bv1) ((0 + av1 * av2) + bv1 * bv2) ((0 + av2 * av0) + bv2 * bv0) ((0 + av2 * av1) + bv2 * bv1) ((0 + av2 * av2) + bv2 * bv2) ((0 + av0 * av0) + bv0 * bv0) ((0 + av0 * av1) + bv0 * bv1) ((0 + av0 * av2) + bv0 * bv2) ((0 + av1 * av0) + bv1 * bv0) ((0 + av1 * av1) + bv1 * bv1) ((0 + av1 * av2) + bv1 * bv2) ((0 + av2 * av0) + bv2 * bv0) ((0 + av2 * av1) + bv2 * bv1) ((0 + av2 * av2) + bv2 * bv2) av0 av1 av2 T658.heap n0 (Nat.le_trans Z0 K658.1) Ea658 Fd658 Fsum658 Fbasis658 FinBasis658 Fc658 Ft658 Vs658 f676 Vi658 f678 (Nat.ne_of_lt lt_b573_sm) (Nat.ne_of_lt lt_b573_ib) (Nat.ne_of_lt lt_b548_sm) (Nat.ne_of_lt lt_b548_ib) (Nat.ne_of_lt lt_b548_b573) (Ne.symm ne_sm_bs) ne_bs_ib ne_sm_ib (Nat.ne_of_gt lt_b573_bs) g_b573 g_sm g_ib (own_Bm Bq674.2 (by decide)) (own_Bm Bq662.2 (by decide)) (own_Bm Bq663.2 (by decide)) (own_Bm Bq664.2 (by decide)) (own_Bm Bq665.2 (by decide)) (own_Bm Bq666.2 (by decide)) (own_Bm Bq667.2 (by decide)) (own_Bm Bq668.2 (by decide)) (own_Bm Bq669.2 (by decide)) (own_Bm Bq670.2 (by decide)) (own_Bm Bq662.2 (by decide)) (own_Bm Bq663.2 (by decide)) (own_Bm Bq664.2 (by decide)) (own_Bm Bq665.2 (by decide)) (own_Bm Bq666.2 (by decide)) (own_Bm Bq667.2 (by decide)) (own_Bm Bq668.2 (by decide)) (own_Bm Bq669.2 (by decide)) (own_Bm Bq670.2 (by decide)) B_av0 B_av1 B_av2) hZ (hw _ (List.mem_of_getElem? (i := 26) rfl)) (hw _ (List.mem_of_getElem? (i := 7) rfl)) (by decide) (by decide)) q675a q675c (g := (mkF m 183 #[.val (.int p1), .val (.int p2), .val (.int p3), .val (.int p4), .val (.int (3 : Int32)), .val (.int af0), .val (.int af1), .val (.int af2), .val (.int bf0), .val (.int bf1), .val (.int bf2), .val (.int cf0), .val (.int cf1), .val (.int cf2), .val (.ref b548), .val (.ref b555), .val (.ref b562), .val (.ref b573), .unset, .unset, .unset, .unset, .unset, .unset, .unset, .unset] [(.ref b548), (.ref b573)])) rfl (by rw [hml]; rfl) (Steps.refl _) (argsL := [(.ref b548)]) (rest := []) (lenOf pd_1 rfl) rfl (by show 2 * 0 + _ ≤ _; exact Nat.le_of_eq rfl) (hb hby at_183) (fun _ _ => ⟨rfl, rfl, (by decide : 9 + 1 ≤ _), (by decide : 48 + 3 ≤ _)⟩)
    dsimp only [Pt.U, Pt.locs, Pt.cells, Pt.slots] at X675 l675 y675 z675 st675 hQ675
    rw [l675, y675, z675] at X675
    obtain ⟨hv675, Nq675, Kc675, Ea675, Fd675, Fsum675, Fbasis675, FinBasis675, Fc675, Ft675, Vs675, Vi675⟩ := hQ675
    rw [hv675] at st675
    have K675 : Keep h0 T675.heap [] := K658.trans Kc675 (allS (P := fun x => x ∈ [] ∨ h0.size ≤ x) (Or.inr sz_b573) (allS (P := fun x => x ∈ [] ∨ h0.size ≤ x) (Or.inr sz_sm) (allS (P := fun x => x ∈ [] ∨ h0.size ≤ x) (Or.inr sz_ib) all0)))
    have Bq679 := own_fma Bq662.2 B_av0 B_av0 (by decide) (by decide) (by decide)
    have Bq680 := own_fma Bq663.2 B_av0 B_av1 (by decide) (by decide) (by decide)
    have Bq681 := own_fma Bq664.2 B_av0 B_av2 (by decide) (by decide) (by decide)
    have Bq682 := own_fma Bq665.2 B_av1 B_av0 (by decide) (by decide) (by decide)
    have Bq683 := own_fma Bq666.2 B_av1 B_av1 (by decide) (by decide) (by decide)
    have Bq684 := own_fma Bq667.2 B_av1 B_av2 (by decide) (by decide) (by decide)
    have Bq685 := own_fma Bq668.2 B_av2 B_av0 (by decide) (by decide) (by decide)
    have Bq686 := own_fma Bq669.2 B_av2 B_av1 (by decide) (by decide) (by decide)
    have Bq687 := own_fma Bq670.2 B_av2 B_av2 (by decide) (by decide) (by decide)
    have Bq689 := own_fma Bq674.2 B_av0 B_av0 (by decide) (by decide) (by decide)
    have Bq690 := own_fma Bq689.2 B_av1 B_av1 (by decide) (by decide) (by decide)
    have Bq691 := own_fma Bq690.2 B_av2 B_av2 (by decide) (by decide) (by decide)
    have N675 := Fr.app N658 Nq675
    have f693 := f585.keep Kc582 (ninS (Nat.ne_of_lt lt_b562_b573) nin0)
    have f694 := f693.keep Kc643 (ninS (Nat.ne_of_lt lt_b562_b573) (ninS (Nat.ne_of_lt lt_b562_sm) (ninS (Nat.ne_of_lt lt_b562_ib) nin0)))
    have f695 := f694.keep Kc658 (ninS (Nat.ne_of_lt lt_b562_b573) (ninS (Nat.ne_of_lt lt_b562_sm) (ninS (Nat.ne_of_lt lt_b562_ib) nin0)))
    have f696 := f695.keep Kc675 (ninS (Nat.ne_of_lt lt_b562_b573) (ninS (Nat.ne_of_lt lt_b562_sm) (ninS (Nat.ne_of_lt lt_b562_ib) nin0)))
    obtain ⟨cq692, kq692, q692a, q692b, q692c⟩ := isOf hZ rfl Ea675
    obtain ⟨_, _, ⟨T692, L692, k692, n692⟩, -, X692, ⟨Lc692, hQ692, l692, y692, z692⟩, st692⟩ := X675.virtualBack hx (y := (⟨"com/example/lineament/lineament/math/OuterProductSum", "along", "([D)D"⟩ : MethodName)) (z := (⟨"com/example/lineament/lineament/math/OuterProductSum", "along", "([D)D"⟩ : MethodName)) hown (mvT hZ (hw _ (List.mem_of_getElem? (i := 39) rfl))) (mvT hZ (hw _ (List.mem_of_getElem? (i := 40) rfl))) (notFace_of_selects (args := #[]) (mvT hZ (hw _ (List.mem_of_getElem? (i := 42) rfl)))) (mvT hZ (hw _ (List.mem_of_getElem? (i := 42) rfl))) (mvT hZ (hw _ (List.mem_of_getElem? (i := 41) rfl))) (by decide) (backOf (W := 0) (rmAL l Z a0 hw [] b573 b562 sm ks k562 (((0 + av0 * av0) + bv0 * bv0) + av0 * av0) (((0 + av0 * av1) + bv0 * bv1) + av0 * av1) (((0 + av0 * av2) + bv0 * bv2) + av0 * av2) (((0 + av1 * av0) + bv1 * bv0) + av1 * av0) (((0 + av1 * av1) + bv1 * bv1) + av1 * av1) (((0 + av1 * av2) + bv1 * bv2) + av1 * av2) (((0 + av2 * av0) + bv2 * bv0) + av2 * av0) (((0 + av2 * av1) + bv2 * bv1) + av2 * av1) (((0 + av2 * av2) + bv2 * bv2) + av2 * av2) cv0 cv1 cv2 T675.heap n0 (Nat.le_trans Z0 K675.1) Ea675 Fd675 Fsum675 Vs675 f696 (own_Bm Bq679.2 (by decide)) (own_Bm Bq680.2 (by decide)) (own_Bm Bq681.2 (by decide)) (own_Bm Bq682.2 (by decide)) (own_Bm Bq683.2 (by decide)) (own_Bm Bq684.2 (by decide)) (own_Bm Bq685.2 (by decide)) (own_Bm Bq686.2 (by decide)) (own_Bm Bq687.2 (by decide)) B_cv0 B_cv1 B_cv2) hZ (hw _ (List.mem_of_getElem? (i := 43) rfl)) (hw _ (List.mem_of_getElem? (i := 7) rfl)) (by decide) (by decide)) q692a q692c (g := (mkF m 291 #[.val (.int p1), .val (.int p2), .val (.int p3), .val (.int p4), .val (.int (3 : Int32)), .val (.int af0), .val (.int af1), .val (.int af2), .val (.int bf0), .val (.int bf1), .val (.int bf2), .val (.int cf0), .val (.int cf1), .val (.int cf2), .val (.ref b548), .val (.ref b555), .val (.ref b562), .val (.ref b573), .val (.long (((av0 * cv0) + (av1 * cv1)) + (av2 * cv2))), .second, .val (.long (((bv0 * cv0) + (bv1 * cv1)) + (bv2 * cv2))), .second, .val (.long ((((0 : Int64) + ((((av0 * cv0) + (av1 * cv1)) + (av2 * cv2)) * (((av0 * cv0) + (av1 * cv1)) + (av2 * cv2)))) + ((((bv0 * cv0) + (bv1 * cv1)) + (bv2 * cv2)) * (((bv0 * cv0) + (bv1 * cv1)) + (bv2 * cv2)))) + ((((av0 * cv0) + (av1 * cv1)) + (av2 * cv2)) * (((av0 * cv0) + (av1 * cv1)) + (av2 * cv2))))), .second, .unset, .unset] [(.ref b562), (.ref b573)])) rfl (by rw [hml]; rfl) (Steps.refl _) (argsL := [(.ref b562)]) (rest := []) (lenOf pd_5 rfl) rfl (by show 2 * 0 + _ ≤ _; exact Nat.le_of_eq rfl) (hb hby at_291) (fun _ _ => ⟨rfl, rfl, (by decide : 10 + 0 ≤ _), (by decide : 51 + 0 ≤ _)⟩)
    dsimp only [Pt.U, Pt.locs, Pt.cells, Pt.slots] at X692 l692 y692 z692 st692 hQ692
    rw [l692, y692, z692] at X692
    obtain ⟨hv692, Nq692, eq692, Bal692⟩ := hQ692
    rw [hv692] at st692
    have N692 := Fr.app N675 Nq692
    have eqr : (own_along (((0 + av0 * av0) + bv0 * bv0) + av0 * av0) (((0 + av0 * av1) + bv0 * bv1) + av0 * av1) (((0 + av0 * av2) + bv0 * bv2) + av0 * av2) (((0 + av1 * av0) + bv1 * bv0) + av1 * av0) (((0 + av1 * av1) + bv1 * bv1) + av1 * av1) (((0 + av1 * av2) + bv1 * bv2) + av1 * av2) (((0 + av2 * av0) + bv2 * bv0) + av2 * av0) (((0 + av2 * av1) + bv2 * bv1) + av2 * av1) (((0 + av2 * av2) + bv2 * bv2) + av2 * av2) cv0 cv1 cv2) = ((((0 : Int64) + ((((av0 * cv0) + (av1 * cv1)) + (av2 * cv2)) * (((av0 * cv0) + (av1 * cv1)) + (av2 * cv2)))) + ((((bv0 * cv0) + (bv1 * cv1)) + (bv2 * cv2)) * (((bv0 * cv0) + (bv1 * cv1)) + (bv2 * cv2)))) + ((((av0 * cv0) + (av1 * cv1)) + (av2 * cv2)) * (((av0 * cv0) + (av1 * cv1)) + (av2 * cv2)))) := by simp only [own_along]; grind
    obtain ⟨fs, hr, hrun, hended, hW, hsame⟩ := X692.leave (v := some (.int (1 : Int32))) (fun h => by rw [Bd.returns] at h; cases h)
    refine ⟨_, _, ?_, hrun, hended, _, _, rfl, ?_, ⟨_, rfl⟩, hW, hsame.mono (by decide) (by decide)⟩
    · refine R586 _ ?_
      show Steps p.tables e below (T582.setTop (mkF m 150 #[.val (.int p1), .val (.int p2), .val (.int p3), .val (.int p4), .val (.int (3 : Int32)), .val (.int af0), .val (.int af1), .val (.int af2), .val (.int bf0), .val (.int bf1), .val (.int bf2), .val (.int cf0), .val (.int cf1), .val (.int cf2), .val (.ref b548), .val (.ref b555), .val (.ref b562), .val (.ref b573), .unset, .unset, .unset, .unset, .unset, .unset, .unset, .unset] [(.int (1 : Int32)), (.int (3 : Int32))])) _
      refine XS.icmpNo X582.here hx rfl (hb hby at_150) rfl (by decide) ?_
      refine XS.aload X582.here hx rfl (hb hby at_153) rfl rfl ?_
      refine XS.aload X582.here hx rfl (hb hby at_155) rfl rfl ?_
      show Steps _ _ _ (T582.setTop (mkF m 157 #[.val (.int p1), .val (.int p2), .val (.int p3), .val (.int p4), .val (.int (3 : Int32)), .val (.int af0), .val (.int af1), .val (.int af2), .val (.int bf0), .val (.int bf1), .val (.int bf2), .val (.int cf0), .val (.int cf1), .val (.int cf2), .val (.ref b548), .val (.ref b555), .val (.ref b562), .val (.ref b573), .unset, .unset, .unset, .unset, .unset, .unset, .unset, .unset] [(.ref b548), (.ref b573)])) _
      refine st643.trans ?_
      show Steps _ _ _ (T643.setTop (mkF m 160 #[.val (.int p1), .val (.int p2), .val (.int p3), .val (.int p4), .val (.int (3 : Int32)), .val (.int af0), .val (.int af1), .val (.int af2), .val (.int bf0), .val (.int bf1), .val (.int bf2), .val (.int cf0), .val (.int cf1), .val (.int cf2), .val (.ref b548), .val (.ref b555), .val (.ref b562), .val (.ref b573), .unset, .unset, .unset, .unset, .unset, .unset, .unset, .unset] [])) _
      refine XS.iload X643.here hx rfl (hb hby at_160) rfl ?_
      refine XS.iconst X643.here hx rfl (hb hby at_162) ?_
      refine XS.icmpNo X643.here hx rfl (hb hby at_163) rfl (by decide) ?_
      refine XS.aload X643.here hx rfl (hb hby at_166) rfl rfl ?_
      show Steps _ _ _ (T643.setTop (mkF m 168 #[.val (.int p1), .val (.int p2), .val (.int p3), .val (.int p4), .val (.int (3 : Int32)), .val (.int af0), .val (.int af1), .val (.int af2), .val (.int bf0), .val (.int bf1), .val (.int bf2), .val (.int cf0), .val (.int cf1), .val (.int cf2), .val (.ref b548), .val (.ref b555), .val (.ref b562), .val (.ref b573), .unset, .unset, .unset, .unset, .unset, .unset, .unset, .unset] [(.ref b573)])) _
      refine XS.aload X643.here hx rfl (hb hby at_168) rfl rfl ?_
      show Steps _ _ _ (T643.setTop (mkF m 170 #[.val (.int p1), .val (.int p2), .val (.int p3), .val (.int p4), .val (.int (3 : Int32)), .val (.int af0), .val (.int af1), .val (.int af2), .val (.int bf0), .val (.int bf1), .val (.int bf2), .val (.int cf0), .val (.int cf1), .val (.int cf2), .val (.ref b548), .val (.ref b555), .val (.ref b562), .val (.ref b573), .unset, .unset, .unset, .unset, .unset, .unset, .unset, .unset] [(.ref b555), (.ref b573)])) _
      refine st658.trans ?_
      show Steps _ _ _ (T658.setTop (mkF m 173 #[.val (.int p1), .val (.int p2), .val (.int p3), .val (.int p4), .val (.int (3 : Int32)), .val (.int af0), .val (.int af1), .val (.int af2), .val (.int bf0), .val (.int bf1), .val (.int bf2), .val (.int cf0), .val (.int cf1), .val (.int cf2), .val (.ref b548), .val (.ref b555), .val (.ref b562), .val (.ref b573), .unset, .unset, .unset, .unset, .unset, .unset, .unset, .unset] [])) _
      refine XS.iload X658.here hx rfl (hb hby at_173) rfl ?_
      refine XS.iconst X658.here hx rfl (hb hby at_175) ?_
      refine XS.icmpNo X658.here hx rfl (hb hby at_176) rfl (by decide) ?_
      refine XS.aload X658.here hx rfl (hb hby at_179) rfl rfl ?_
      show Steps _ _ _ (T658.setTop (mkF m 181 #[.val (.int p1), .val (.int p2), .val (.int p3), .val (.int p4), .val (.int (3 : Int32)), .val (.int af0), .val (.int af1), .val (.int af2), .val (.int bf0), .val (.int bf1), .val (.int bf2), .val (.int cf0), .val (.int cf1), .val (.int cf2), .val (.ref b548), .val (.ref b555), .val (.ref b562), .val (.ref b573), .unset, .unset, .unset, .unset, .unset, .unset, .unset, .unset] [(.ref b573)])) _
      refine XS.aload X658.here hx rfl (hb hby at_181) rfl rfl ?_
      show Steps _ _ _ (T658.setTop (mkF m 183 #[.val (.int p1), .val (.int p2), .val (.int p3), .val (.int p4), .val (.int (3 : Int32)), .val (.int af0), .val (.int af1), .val (.int af2), .val (.int bf0), .val (.int bf1), .val (.int bf2), .val (.int cf0), .val (.int cf1), .val (.int cf2), .val (.ref b548), .val (.ref b555), .val (.ref b562), .val (.ref b573), .unset, .unset, .unset, .unset, .unset, .unset, .unset, .unset] [(.ref b548), (.ref b573)])) _
      refine st675.trans ?_
      show Steps _ _ _ (T675.setTop (mkF m 186 #[.val (.int p1), .val (.int p2), .val (.int p3), .val (.int p4), .val (.int (3 : Int32)), .val (.int af0), .val (.int af1), .val (.int af2), .val (.int bf0), .val (.int bf1), .val (.int bf2), .val (.int cf0), .val (.int cf1), .val (.int cf2), .val (.ref b548), .val (.ref b555), .val (.ref b562), .val (.ref b573), .unset, .unset, .unset, .unset, .unset, .unset, .unset, .unset] [])) _
      refine XS.iload X675.here hx rfl (hb hby at_186) rfl ?_
      refine XS.i2l X675.here hx rfl (hb hby at_188) rfl ?_
      show Steps _ _ _ (T675.setTop (mkF m 189 #[.val (.int p1), .val (.int p2), .val (.int p3), .val (.int p4), .val (.int (3 : Int32)), .val (.int af0), .val (.int af1), .val (.int af2), .val (.int bf0), .val (.int bf1), .val (.int bf2), .val (.int cf0), .val (.int cf1), .val (.int cf2), .val (.ref b548), .val (.ref b555), .val (.ref b562), .val (.ref b573), .unset, .unset, .unset, .unset, .unset, .unset, .unset, .unset] [(.long af0.toInt64)])) _
      rw [hav0]
      refine XS.iload X675.here hx rfl (hb hby at_189) rfl ?_
      refine XS.i2l X675.here hx rfl (hb hby at_191) rfl ?_
      show Steps _ _ _ (T675.setTop (mkF m 192 #[.val (.int p1), .val (.int p2), .val (.int p3), .val (.int p4), .val (.int (3 : Int32)), .val (.int af0), .val (.int af1), .val (.int af2), .val (.int bf0), .val (.int bf1), .val (.int bf2), .val (.int cf0), .val (.int cf1), .val (.int cf2), .val (.ref b548), .val (.ref b555), .val (.ref b562), .val (.ref b573), .unset, .unset, .unset, .unset, .unset, .unset, .unset, .unset] [(.long cf0.toInt64), (.long av0)])) _
      rw [hcv0]
      refine XS.lmul X675.here hx rfl (hb hby at_192) rfl ?_
      refine XS.iload X675.here hx rfl (hb hby at_193) rfl ?_
      refine XS.i2l X675.here hx rfl (hb hby at_195) rfl ?_
      show Steps _ _ _ (T675.setTop (mkF m 196 #[.val (.int p1), .val (.int p2), .val (.int p3), .val (.int p4), .val (.int (3 : Int32)), .val (.int af0), .val (.int af1), .val (.int af2), .val (.int bf0), .val (.int bf1), .val (.int bf2), .val (.int cf0), .val (.int cf1), .val (.int cf2), .val (.ref b548), .val (.ref b555), .val (.ref b562), .val (.ref b573), .unset, .unset, .unset, .unset, .unset, .unset, .unset, .unset] [(.long af1.toInt64), (.long (av0 * cv0))])) _
      rw [hav1]
      refine XS.iload X675.here hx rfl (hb hby at_196) rfl ?_
      refine XS.i2l X675.here hx rfl (hb hby at_198) rfl ?_
      show Steps _ _ _ (T675.setTop (mkF m 199 #[.val (.int p1), .val (.int p2), .val (.int p3), .val (.int p4), .val (.int (3 : Int32)), .val (.int af0), .val (.int af1), .val (.int af2), .val (.int bf0), .val (.int bf1), .val (.int bf2), .val (.int cf0), .val (.int cf1), .val (.int cf2), .val (.ref b548), .val (.ref b555), .val (.ref b562), .val (.ref b573), .unset, .unset, .unset, .unset, .unset, .unset, .unset, .unset] [(.long cf1.toInt64), (.long av1), (.long (av0 * cv0))])) _
      rw [hcv1]
      refine XS.lmul X675.here hx rfl (hb hby at_199) rfl ?_
      refine XS.ladd X675.here hx rfl (hb hby at_200) rfl ?_
      refine XS.iload X675.here hx rfl (hb hby at_201) rfl ?_
      refine XS.i2l X675.here hx rfl (hb hby at_203) rfl ?_
      show Steps _ _ _ (T675.setTop (mkF m 204 #[.val (.int p1), .val (.int p2), .val (.int p3), .val (.int p4), .val (.int (3 : Int32)), .val (.int af0), .val (.int af1), .val (.int af2), .val (.int bf0), .val (.int bf1), .val (.int bf2), .val (.int cf0), .val (.int cf1), .val (.int cf2), .val (.ref b548), .val (.ref b555), .val (.ref b562), .val (.ref b573), .unset, .unset, .unset, .unset, .unset, .unset, .unset, .unset] [(.long af2.toInt64), (.long ((av0 * cv0) + (av1 * cv1)))])) _
      rw [hav2]
      refine XS.iload X675.here hx rfl (hb hby at_204) rfl ?_
      refine XS.i2l X675.here hx rfl (hb hby at_206) rfl ?_
      show Steps _ _ _ (T675.setTop (mkF m 207 #[.val (.int p1), .val (.int p2), .val (.int p3), .val (.int p4), .val (.int (3 : Int32)), .val (.int af0), .val (.int af1), .val (.int af2), .val (.int bf0), .val (.int bf1), .val (.int bf2), .val (.int cf0), .val (.int cf1), .val (.int cf2), .val (.ref b548), .val (.ref b555), .val (.ref b562), .val (.ref b573), .unset, .unset, .unset, .unset, .unset, .unset, .unset, .unset] [(.long cf2.toInt64), (.long av2), (.long ((av0 * cv0) + (av1 * cv1)))])) _
      rw [hcv2]
      refine XS.lmul X675.here hx rfl (hb hby at_207) rfl ?_
      refine XS.ladd X675.here hx rfl (hb hby at_208) rfl ?_
      refine XS.lstore X675.here hx rfl (hb hby at_209) rfl (l' := #[.val (.int p1), .val (.int p2), .val (.int p3), .val (.int p4), .val (.int (3 : Int32)), .val (.int af0), .val (.int af1), .val (.int af2), .val (.int bf0), .val (.int bf1), .val (.int bf2), .val (.int cf0), .val (.int cf1), .val (.int cf2), .val (.ref b548), .val (.ref b555), .val (.ref b562), .val (.ref b573), .val (.long (((av0 * cv0) + (av1 * cv1)) + (av2 * cv2))), .second, .unset, .unset, .unset, .unset, .unset, .unset]) rfl ?_
      refine XS.iload X675.here hx rfl (hb hby at_211) rfl ?_
      show Steps _ _ _ (T675.setTop (mkF m 213 #[.val (.int p1), .val (.int p2), .val (.int p3), .val (.int p4), .val (.int (3 : Int32)), .val (.int af0), .val (.int af1), .val (.int af2), .val (.int bf0), .val (.int bf1), .val (.int bf2), .val (.int cf0), .val (.int cf1), .val (.int cf2), .val (.ref b548), .val (.ref b555), .val (.ref b562), .val (.ref b573), .val (.long (((av0 * cv0) + (av1 * cv1)) + (av2 * cv2))), .second, .unset, .unset, .unset, .unset, .unset, .unset] [(.int bf0)])) _
      refine XS.i2l X675.here hx rfl (hb hby at_213) rfl ?_
      show Steps _ _ _ (T675.setTop (mkF m 214 #[.val (.int p1), .val (.int p2), .val (.int p3), .val (.int p4), .val (.int (3 : Int32)), .val (.int af0), .val (.int af1), .val (.int af2), .val (.int bf0), .val (.int bf1), .val (.int bf2), .val (.int cf0), .val (.int cf1), .val (.int cf2), .val (.ref b548), .val (.ref b555), .val (.ref b562), .val (.ref b573), .val (.long (((av0 * cv0) + (av1 * cv1)) + (av2 * cv2))), .second, .unset, .unset, .unset, .unset, .unset, .unset] [(.long bf0.toInt64)])) _
      rw [hbv0]
      refine XS.iload X675.here hx rfl (hb hby at_214) rfl ?_
      refine XS.i2l X675.here hx rfl (hb hby at_216) rfl ?_
      show Steps _ _ _ (T675.setTop (mkF m 217 #[.val (.int p1), .val (.int p2), .val (.int p3), .val (.int p4), .val (.int (3 : Int32)), .val (.int af0), .val (.int af1), .val (.int af2), .val (.int bf0), .val (.int bf1), .val (.int bf2), .val (.int cf0), .val (.int cf1), .val (.int cf2), .val (.ref b548), .val (.ref b555), .val (.ref b562), .val (.ref b573), .val (.long (((av0 * cv0) + (av1 * cv1)) + (av2 * cv2))), .second, .unset, .unset, .unset, .unset, .unset, .unset] [(.long cf0.toInt64), (.long bv0)])) _
      rw [hcv0]
      refine XS.lmul X675.here hx rfl (hb hby at_217) rfl ?_
      refine XS.iload X675.here hx rfl (hb hby at_218) rfl ?_
      refine XS.i2l X675.here hx rfl (hb hby at_220) rfl ?_
      show Steps _ _ _ (T675.setTop (mkF m 221 #[.val (.int p1), .val (.int p2), .val (.int p3), .val (.int p4), .val (.int (3 : Int32)), .val (.int af0), .val (.int af1), .val (.int af2), .val (.int bf0), .val (.int bf1), .val (.int bf2), .val (.int cf0), .val (.int cf1), .val (.int cf2), .val (.ref b548), .val (.ref b555), .val (.ref b562), .val (.ref b573), .val (.long (((av0 * cv0) + (av1 * cv1)) + (av2 * cv2))), .second, .unset, .unset, .unset, .unset, .unset, .unset] [(.long bf1.toInt64), (.long (bv0 * cv0))])) _
      rw [hbv1]
      refine XS.iload X675.here hx rfl (hb hby at_221) rfl ?_
      refine XS.i2l X675.here hx rfl (hb hby at_223) rfl ?_
      show Steps _ _ _ (T675.setTop (mkF m 224 #[.val (.int p1), .val (.int p2), .val (.int p3), .val (.int p4), .val (.int (3 : Int32)), .val (.int af0), .val (.int af1), .val (.int af2), .val (.int bf0), .val (.int bf1), .val (.int bf2), .val (.int cf0), .val (.int cf1), .val (.int cf2), .val (.ref b548), .val (.ref b555), .val (.ref b562), .val (.ref b573), .val (.long (((av0 * cv0) + (av1 * cv1)) + (av2 * cv2))), .second, .unset, .unset, .unset, .unset, .unset, .unset] [(.long cf1.toInt64), (.long bv1), (.long (bv0 * cv0))])) _
      rw [hcv1]
      refine XS.lmul X675.here hx rfl (hb hby at_224) rfl ?_
      refine XS.ladd X675.here hx rfl (hb hby at_225) rfl ?_
      refine XS.iload X675.here hx rfl (hb hby at_226) rfl ?_
      refine XS.i2l X675.here hx rfl (hb hby at_228) rfl ?_
      show Steps _ _ _ (T675.setTop (mkF m 229 #[.val (.int p1), .val (.int p2), .val (.int p3), .val (.int p4), .val (.int (3 : Int32)), .val (.int af0), .val (.int af1), .val (.int af2), .val (.int bf0), .val (.int bf1), .val (.int bf2), .val (.int cf0), .val (.int cf1), .val (.int cf2), .val (.ref b548), .val (.ref b555), .val (.ref b562), .val (.ref b573), .val (.long (((av0 * cv0) + (av1 * cv1)) + (av2 * cv2))), .second, .unset, .unset, .unset, .unset, .unset, .unset] [(.long bf2.toInt64), (.long ((bv0 * cv0) + (bv1 * cv1)))])) _
      rw [hbv2]
      refine XS.iload X675.here hx rfl (hb hby at_229) rfl ?_
      refine XS.i2l X675.here hx rfl (hb hby at_231) rfl ?_
      show Steps _ _ _ (T675.setTop (mkF m 232 #[.val (.int p1), .val (.int p2), .val (.int p3), .val (.int p4), .val (.int (3 : Int32)), .val (.int af0), .val (.int af1), .val (.int af2), .val (.int bf0), .val (.int bf1), .val (.int bf2), .val (.int cf0), .val (.int cf1), .val (.int cf2), .val (.ref b548), .val (.ref b555), .val (.ref b562), .val (.ref b573), .val (.long (((av0 * cv0) + (av1 * cv1)) + (av2 * cv2))), .second, .unset, .unset, .unset, .unset, .unset, .unset] [(.long cf2.toInt64), (.long bv2), (.long ((bv0 * cv0) + (bv1 * cv1)))])) _
      rw [hcv2]
      refine XS.lmul X675.here hx rfl (hb hby at_232) rfl ?_
      refine XS.ladd X675.here hx rfl (hb hby at_233) rfl ?_
      refine XS.lstore X675.here hx rfl (hb hby at_234) rfl (l' := #[.val (.int p1), .val (.int p2), .val (.int p3), .val (.int p4), .val (.int (3 : Int32)), .val (.int af0), .val (.int af1), .val (.int af2), .val (.int bf0), .val (.int bf1), .val (.int bf2), .val (.int cf0), .val (.int cf1), .val (.int cf2), .val (.ref b548), .val (.ref b555), .val (.ref b562), .val (.ref b573), .val (.long (((av0 * cv0) + (av1 * cv1)) + (av2 * cv2))), .second, .val (.long (((bv0 * cv0) + (bv1 * cv1)) + (bv2 * cv2))), .second, .unset, .unset, .unset, .unset]) rfl ?_
      refine XS.lconst X675.here hx rfl (hb hby at_236) ?_
      show Steps _ _ _ (T675.setTop (mkF m 237 #[.val (.int p1), .val (.int p2), .val (.int p3), .val (.int p4), .val (.int (3 : Int32)), .val (.int af0), .val (.int af1), .val (.int af2), .val (.int bf0), .val (.int bf1), .val (.int bf2), .val (.int cf0), .val (.int cf1), .val (.int cf2), .val (.ref b548), .val (.ref b555), .val (.ref b562), .val (.ref b573), .val (.long (((av0 * cv0) + (av1 * cv1)) + (av2 * cv2))), .second, .val (.long (((bv0 * cv0) + (bv1 * cv1)) + (bv2 * cv2))), .second, .unset, .unset, .unset, .unset] [(.long (0 : Int64))])) _
      refine XS.lstore X675.here hx rfl (hb hby at_237) rfl (l' := #[.val (.int p1), .val (.int p2), .val (.int p3), .val (.int p4), .val (.int (3 : Int32)), .val (.int af0), .val (.int af1), .val (.int af2), .val (.int bf0), .val (.int bf1), .val (.int bf2), .val (.int cf0), .val (.int cf1), .val (.int cf2), .val (.ref b548), .val (.ref b555), .val (.ref b562), .val (.ref b573), .val (.long (((av0 * cv0) + (av1 * cv1)) + (av2 * cv2))), .second, .val (.long (((bv0 * cv0) + (bv1 * cv1)) + (bv2 * cv2))), .second, .val (.long (0 : Int64)), .second, .unset, .unset]) rfl ?_
      refine XS.iload X675.here hx rfl (hb hby at_239) rfl ?_
      refine XS.iconst X675.here hx rfl (hb hby at_241) ?_
      refine XS.icmpNo X675.here hx rfl (hb hby at_242) rfl (by decide) ?_
      show Steps _ _ _ (T675.setTop (mkF m 245 #[.val (.int p1), .val (.int p2), .val (.int p3), .val (.int p4), .val (.int (3 : Int32)), .val (.int af0), .val (.int af1), .val (.int af2), .val (.int bf0), .val (.int bf1), .val (.int bf2), .val (.int cf0), .val (.int cf1), .val (.int cf2), .val (.ref b548), .val (.ref b555), .val (.ref b562), .val (.ref b573), .val (.long (((av0 * cv0) + (av1 * cv1)) + (av2 * cv2))), .second, .val (.long (((bv0 * cv0) + (bv1 * cv1)) + (bv2 * cv2))), .second, .val (.long (0 : Int64)), .second, .unset, .unset] [])) _
      refine XS.lload X675.here hx rfl (hb hby at_245) rfl ?_
      refine XS.lload X675.here hx rfl (hb hby at_247) rfl ?_
      refine XS.lload X675.here hx rfl (hb hby at_249) rfl ?_
      refine XS.lmul X675.here hx rfl (hb hby at_251) rfl ?_
      show Steps _ _ _ (T675.setTop (mkF m 252 #[.val (.int p1), .val (.int p2), .val (.int p3), .val (.int p4), .val (.int (3 : Int32)), .val (.int af0), .val (.int af1), .val (.int af2), .val (.int bf0), .val (.int bf1), .val (.int bf2), .val (.int cf0), .val (.int cf1), .val (.int cf2), .val (.ref b548), .val (.ref b555), .val (.ref b562), .val (.ref b573), .val (.long (((av0 * cv0) + (av1 * cv1)) + (av2 * cv2))), .second, .val (.long (((bv0 * cv0) + (bv1 * cv1)) + (bv2 * cv2))), .second, .val (.long (0 : Int64)), .second, .unset, .unset] [(.long ((((av0 * cv0) + (av1 * cv1)) + (av2 * cv2)) * (((av0 * cv0) + (av1 * cv1)) + (av2 * cv2)))), (.long (0 : Int64))])) _
      refine XS.ladd X675.here hx rfl (hb hby at_252) rfl ?_
      refine XS.lstore X675.here hx rfl (hb hby at_253) rfl (l' := #[.val (.int p1), .val (.int p2), .val (.int p3), .val (.int p4), .val (.int (3 : Int32)), .val (.int af0), .val (.int af1), .val (.int af2), .val (.int bf0), .val (.int bf1), .val (.int bf2), .val (.int cf0), .val (.int cf1), .val (.int cf2), .val (.ref b548), .val (.ref b555), .val (.ref b562), .val (.ref b573), .val (.long (((av0 * cv0) + (av1 * cv1)) + (av2 * cv2))), .second, .val (.long (((bv0 * cv0) + (bv1 * cv1)) + (bv2 * cv2))), .second, .val (.long ((0 : Int64) + ((((av0 * cv0) + (av1 * cv1)) + (av2 * cv2)) * (((av0 * cv0) + (av1 * cv1)) + (av2 * cv2))))), .second, .unset, .unset]) rfl ?_
      refine XS.iload X675.here hx rfl (hb hby at_255) rfl ?_
      refine XS.iconst X675.here hx rfl (hb hby at_257) ?_
      show Steps _ _ _ (T675.setTop (mkF m 258 #[.val (.int p1), .val (.int p2), .val (.int p3), .val (.int p4), .val (.int (3 : Int32)), .val (.int af0), .val (.int af1), .val (.int af2), .val (.int bf0), .val (.int bf1), .val (.int bf2), .val (.int cf0), .val (.int cf1), .val (.int cf2), .val (.ref b548), .val (.ref b555), .val (.ref b562), .val (.ref b573), .val (.long (((av0 * cv0) + (av1 * cv1)) + (av2 * cv2))), .second, .val (.long (((bv0 * cv0) + (bv1 * cv1)) + (bv2 * cv2))), .second, .val (.long ((0 : Int64) + ((((av0 * cv0) + (av1 * cv1)) + (av2 * cv2)) * (((av0 * cv0) + (av1 * cv1)) + (av2 * cv2))))), .second, .unset, .unset] [(.int (2 : Int32)), (.int (3 : Int32))])) _
      refine XS.icmpNo X675.here hx rfl (hb hby at_258) rfl (by decide) ?_
      refine XS.lload X675.here hx rfl (hb hby at_261) rfl ?_
      refine XS.lload X675.here hx rfl (hb hby at_263) rfl ?_
      refine XS.lload X675.here hx rfl (hb hby at_265) rfl ?_
      show Steps _ _ _ (T675.setTop (mkF m 267 #[.val (.int p1), .val (.int p2), .val (.int p3), .val (.int p4), .val (.int (3 : Int32)), .val (.int af0), .val (.int af1), .val (.int af2), .val (.int bf0), .val (.int bf1), .val (.int bf2), .val (.int cf0), .val (.int cf1), .val (.int cf2), .val (.ref b548), .val (.ref b555), .val (.ref b562), .val (.ref b573), .val (.long (((av0 * cv0) + (av1 * cv1)) + (av2 * cv2))), .second, .val (.long (((bv0 * cv0) + (bv1 * cv1)) + (bv2 * cv2))), .second, .val (.long ((0 : Int64) + ((((av0 * cv0) + (av1 * cv1)) + (av2 * cv2)) * (((av0 * cv0) + (av1 * cv1)) + (av2 * cv2))))), .second, .unset, .unset] [(.long (((bv0 * cv0) + (bv1 * cv1)) + (bv2 * cv2))), (.long (((bv0 * cv0) + (bv1 * cv1)) + (bv2 * cv2))), (.long ((0 : Int64) + ((((av0 * cv0) + (av1 * cv1)) + (av2 * cv2)) * (((av0 * cv0) + (av1 * cv1)) + (av2 * cv2)))))])) _
      refine XS.lmul X675.here hx rfl (hb hby at_267) rfl ?_
      refine XS.ladd X675.here hx rfl (hb hby at_268) rfl ?_
      refine XS.lstore X675.here hx rfl (hb hby at_269) rfl (l' := #[.val (.int p1), .val (.int p2), .val (.int p3), .val (.int p4), .val (.int (3 : Int32)), .val (.int af0), .val (.int af1), .val (.int af2), .val (.int bf0), .val (.int bf1), .val (.int bf2), .val (.int cf0), .val (.int cf1), .val (.int cf2), .val (.ref b548), .val (.ref b555), .val (.ref b562), .val (.ref b573), .val (.long (((av0 * cv0) + (av1 * cv1)) + (av2 * cv2))), .second, .val (.long (((bv0 * cv0) + (bv1 * cv1)) + (bv2 * cv2))), .second, .val (.long (((0 : Int64) + ((((av0 * cv0) + (av1 * cv1)) + (av2 * cv2)) * (((av0 * cv0) + (av1 * cv1)) + (av2 * cv2)))) + ((((bv0 * cv0) + (bv1 * cv1)) + (bv2 * cv2)) * (((bv0 * cv0) + (bv1 * cv1)) + (bv2 * cv2))))), .second, .unset, .unset]) rfl ?_
      refine XS.iload X675.here hx rfl (hb hby at_271) rfl ?_
      show Steps _ _ _ (T675.setTop (mkF m 273 #[.val (.int p1), .val (.int p2), .val (.int p3), .val (.int p4), .val (.int (3 : Int32)), .val (.int af0), .val (.int af1), .val (.int af2), .val (.int bf0), .val (.int bf1), .val (.int bf2), .val (.int cf0), .val (.int cf1), .val (.int cf2), .val (.ref b548), .val (.ref b555), .val (.ref b562), .val (.ref b573), .val (.long (((av0 * cv0) + (av1 * cv1)) + (av2 * cv2))), .second, .val (.long (((bv0 * cv0) + (bv1 * cv1)) + (bv2 * cv2))), .second, .val (.long (((0 : Int64) + ((((av0 * cv0) + (av1 * cv1)) + (av2 * cv2)) * (((av0 * cv0) + (av1 * cv1)) + (av2 * cv2)))) + ((((bv0 * cv0) + (bv1 * cv1)) + (bv2 * cv2)) * (((bv0 * cv0) + (bv1 * cv1)) + (bv2 * cv2))))), .second, .unset, .unset] [(.int (3 : Int32))])) _
      refine XS.iconst X675.here hx rfl (hb hby at_273) ?_
      refine XS.icmpNo X675.here hx rfl (hb hby at_274) rfl (by decide) ?_
      refine XS.lload X675.here hx rfl (hb hby at_277) rfl ?_
      refine XS.lload X675.here hx rfl (hb hby at_279) rfl ?_
      show Steps _ _ _ (T675.setTop (mkF m 281 #[.val (.int p1), .val (.int p2), .val (.int p3), .val (.int p4), .val (.int (3 : Int32)), .val (.int af0), .val (.int af1), .val (.int af2), .val (.int bf0), .val (.int bf1), .val (.int bf2), .val (.int cf0), .val (.int cf1), .val (.int cf2), .val (.ref b548), .val (.ref b555), .val (.ref b562), .val (.ref b573), .val (.long (((av0 * cv0) + (av1 * cv1)) + (av2 * cv2))), .second, .val (.long (((bv0 * cv0) + (bv1 * cv1)) + (bv2 * cv2))), .second, .val (.long (((0 : Int64) + ((((av0 * cv0) + (av1 * cv1)) + (av2 * cv2)) * (((av0 * cv0) + (av1 * cv1)) + (av2 * cv2)))) + ((((bv0 * cv0) + (bv1 * cv1)) + (bv2 * cv2)) * (((bv0 * cv0) + (bv1 * cv1)) + (bv2 * cv2))))), .second, .unset, .unset] [(.long (((av0 * cv0) + (av1 * cv1)) + (av2 * cv2))), (.long (((0 : Int64) + ((((av0 * cv0) + (av1 * cv1)) + (av2 * cv2)) * (((av0 * cv0) + (av1 * cv1)) + (av2 * cv2)))) + ((((bv0 * cv0) + (bv1 * cv1)) + (bv2 * cv2)) * (((bv0 * cv0) + (bv1 * cv1)) + (bv2 * cv2)))))])) _
      refine XS.lload X675.here hx rfl (hb hby at_281) rfl ?_
      refine XS.lmul X675.here hx rfl (hb hby at_283) rfl ?_
      refine XS.ladd X675.here hx rfl (hb hby at_284) rfl ?_
      refine XS.lstore X675.here hx rfl (hb hby at_285) rfl (l' := #[.val (.int p1), .val (.int p2), .val (.int p3), .val (.int p4), .val (.int (3 : Int32)), .val (.int af0), .val (.int af1), .val (.int af2), .val (.int bf0), .val (.int bf1), .val (.int bf2), .val (.int cf0), .val (.int cf1), .val (.int cf2), .val (.ref b548), .val (.ref b555), .val (.ref b562), .val (.ref b573), .val (.long (((av0 * cv0) + (av1 * cv1)) + (av2 * cv2))), .second, .val (.long (((bv0 * cv0) + (bv1 * cv1)) + (bv2 * cv2))), .second, .val (.long ((((0 : Int64) + ((((av0 * cv0) + (av1 * cv1)) + (av2 * cv2)) * (((av0 * cv0) + (av1 * cv1)) + (av2 * cv2)))) + ((((bv0 * cv0) + (bv1 * cv1)) + (bv2 * cv2)) * (((bv0 * cv0) + (bv1 * cv1)) + (bv2 * cv2)))) + ((((av0 * cv0) + (av1 * cv1)) + (av2 * cv2)) * (((av0 * cv0) + (av1 * cv1)) + (av2 * cv2))))), .second, .unset, .unset]) rfl ?_
      show Steps _ _ _ (T675.setTop (mkF m 287 #[.val (.int p1), .val (.int p2), .val (.int p3), .val (.int p4), .val (.int (3 : Int32)), .val (.int af0), .val (.int af1), .val (.int af2), .val (.int bf0), .val (.int bf1), .val (.int bf2), .val (.int cf0), .val (.int cf1), .val (.int cf2), .val (.ref b548), .val (.ref b555), .val (.ref b562), .val (.ref b573), .val (.long (((av0 * cv0) + (av1 * cv1)) + (av2 * cv2))), .second, .val (.long (((bv0 * cv0) + (bv1 * cv1)) + (bv2 * cv2))), .second, .val (.long ((((0 : Int64) + ((((av0 * cv0) + (av1 * cv1)) + (av2 * cv2)) * (((av0 * cv0) + (av1 * cv1)) + (av2 * cv2)))) + ((((bv0 * cv0) + (bv1 * cv1)) + (bv2 * cv2)) * (((bv0 * cv0) + (bv1 * cv1)) + (bv2 * cv2)))) + ((((av0 * cv0) + (av1 * cv1)) + (av2 * cv2)) * (((av0 * cv0) + (av1 * cv1)) + (av2 * cv2))))), .second, .unset, .unset] [])) _
      refine XS.aload X675.here hx rfl (hb hby at_287) rfl rfl ?_
      refine XS.aload X675.here hx rfl (hb hby at_289) rfl rfl ?_
      show Steps _ _ _ (T675.setTop (mkF m 291 #[.val (.int p1), .val (.int p2), .val (.int p3), .val (.int p4), .val (.int (3 : Int32)), .val (.int af0), .val (.int af1), .val (.int af2), .val (.int bf0), .val (.int bf1), .val (.int bf2), .val (.int cf0), .val (.int cf1), .val (.int cf2), .val (.ref b548), .val (.ref b555), .val (.ref b562), .val (.ref b573), .val (.long (((av0 * cv0) + (av1 * cv1)) + (av2 * cv2))), .second, .val (.long (((bv0 * cv0) + (bv1 * cv1)) + (bv2 * cv2))), .second, .val (.long ((((0 : Int64) + ((((av0 * cv0) + (av1 * cv1)) + (av2 * cv2)) * (((av0 * cv0) + (av1 * cv1)) + (av2 * cv2)))) + ((((bv0 * cv0) + (bv1 * cv1)) + (bv2 * cv2)) * (((bv0 * cv0) + (bv1 * cv1)) + (bv2 * cv2)))) + ((((av0 * cv0) + (av1 * cv1)) + (av2 * cv2)) * (((av0 * cv0) + (av1 * cv1)) + (av2 * cv2))))), .second, .unset, .unset] [(.ref b562), (.ref b573)])) _
      refine st692.trans ?_
      show Steps _ _ _ (T692.setTop (mkF m 294 #[.val (.int p1), .val (.int p2), .val (.int p3), .val (.int p4), .val (.int (3 : Int32)), .val (.int af0), .val (.int af1), .val (.int af2), .val (.int bf0), .val (.int bf1), .val (.int bf2), .val (.int cf0), .val (.int cf1), .val (.int cf2), .val (.ref b548), .val (.ref b555), .val (.ref b562), .val (.ref b573), .val (.long (((av0 * cv0) + (av1 * cv1)) + (av2 * cv2))), .second, .val (.long (((bv0 * cv0) + (bv1 * cv1)) + (bv2 * cv2))), .second, .val (.long ((((0 : Int64) + ((((av0 * cv0) + (av1 * cv1)) + (av2 * cv2)) * (((av0 * cv0) + (av1 * cv1)) + (av2 * cv2)))) + ((((bv0 * cv0) + (bv1 * cv1)) + (bv2 * cv2)) * (((bv0 * cv0) + (bv1 * cv1)) + (bv2 * cv2)))) + ((((av0 * cv0) + (av1 * cv1)) + (av2 * cv2)) * (((av0 * cv0) + (av1 * cv1)) + (av2 * cv2))))), .second, .unset, .unset] [(.double (FP.l2d (own_along (((0 + av0 * av0) + bv0 * bv0) + av0 * av0) (((0 + av0 * av1) + bv0 * bv1) + av0 * av1) (((0 + av0 * av2) + bv0 * bv2) + av0 * av2) (((0 + av1 * av0) + bv1 * bv0) + av1 * av0) (((0 + av1 * av1) + bv1 * bv1) + av1 * av1) (((0 + av1 * av2) + bv1 * bv2) + av1 * av2) (((0 + av2 * av0) + bv2 * bv0) + av2 * av0) (((0 + av2 * av1) + bv2 * bv1) + av2 * av1) (((0 + av2 * av2) + bv2 * bv2) + av2 * av2) cv0 cv1 cv2)))])) _
      refine XS.dstore X692.here hx rfl (hb hby at_294) rfl (l' := #[.val (.int p1), .val (.int p2), .val (.int p3), .val (.int p4), .val (.int (3 : Int32)), .val (.int af0), .val (.int af1), .val (.int af2), .val (.int bf0), .val (.int bf1), .val (.int bf2), .val (.int cf0), .val (.int cf1), .val (.int cf2), .val (.ref b548), .val (.ref b555), .val (.ref b562), .val (.ref b573), .val (.long (((av0 * cv0) + (av1 * cv1)) + (av2 * cv2))), .second, .val (.long (((bv0 * cv0) + (bv1 * cv1)) + (bv2 * cv2))), .second, .val (.long ((((0 : Int64) + ((((av0 * cv0) + (av1 * cv1)) + (av2 * cv2)) * (((av0 * cv0) + (av1 * cv1)) + (av2 * cv2)))) + ((((bv0 * cv0) + (bv1 * cv1)) + (bv2 * cv2)) * (((bv0 * cv0) + (bv1 * cv1)) + (bv2 * cv2)))) + ((((av0 * cv0) + (av1 * cv1)) + (av2 * cv2)) * (((av0 * cv0) + (av1 * cv1)) + (av2 * cv2))))), .second, .val (.double (FP.l2d (own_along (((0 + av0 * av0) + bv0 * bv0) + av0 * av0) (((0 + av0 * av1) + bv0 * bv1) + av0 * av1) (((0 + av0 * av2) + bv0 * bv2) + av0 * av2) (((0 + av1 * av0) + bv1 * bv0) + av1 * av0) (((0 + av1 * av1) + bv1 * bv1) + av1 * av1) (((0 + av1 * av2) + bv1 * bv2) + av1 * av2) (((0 + av2 * av0) + bv2 * bv0) + av2 * av0) (((0 + av2 * av1) + bv2 * bv1) + av2 * av1) (((0 + av2 * av2) + bv2 * bv2) + av2 * av2) cv0 cv1 cv2))), .second]) rfl ?_
      refine XS.dload X692.here hx rfl (hb hby at_296) rfl ?_
      refine XS.lload X692.here hx rfl (hb hby at_298) rfl ?_
      refine XS.l2dS X692.here hx rfl (hb hby at_300) rfl (v := (FP.l2d ((((0 : Int64) + ((((av0 * cv0) + (av1 * cv1)) + (av2 * cv2)) * (((av0 * cv0) + (av1 * cv1)) + (av2 * cv2)))) + ((((bv0 * cv0) + (bv1 * cv1)) + (bv2 * cv2)) * (((bv0 * cv0) + (bv1 * cv1)) + (bv2 * cv2)))) + ((((av0 * cv0) + (av1 * cv1)) + (av2 * cv2)) * (((av0 * cv0) + (av1 * cv1)) + (av2 * cv2)))))) rfl ?_
      show Steps _ _ _ (T692.setTop (mkF m 301 #[.val (.int p1), .val (.int p2), .val (.int p3), .val (.int p4), .val (.int (3 : Int32)), .val (.int af0), .val (.int af1), .val (.int af2), .val (.int bf0), .val (.int bf1), .val (.int bf2), .val (.int cf0), .val (.int cf1), .val (.int cf2), .val (.ref b548), .val (.ref b555), .val (.ref b562), .val (.ref b573), .val (.long (((av0 * cv0) + (av1 * cv1)) + (av2 * cv2))), .second, .val (.long (((bv0 * cv0) + (bv1 * cv1)) + (bv2 * cv2))), .second, .val (.long ((((0 : Int64) + ((((av0 * cv0) + (av1 * cv1)) + (av2 * cv2)) * (((av0 * cv0) + (av1 * cv1)) + (av2 * cv2)))) + ((((bv0 * cv0) + (bv1 * cv1)) + (bv2 * cv2)) * (((bv0 * cv0) + (bv1 * cv1)) + (bv2 * cv2)))) + ((((av0 * cv0) + (av1 * cv1)) + (av2 * cv2)) * (((av0 * cv0) + (av1 * cv1)) + (av2 * cv2))))), .second, .val (.double (FP.l2d (own_along (((0 + av0 * av0) + bv0 * bv0) + av0 * av0) (((0 + av0 * av1) + bv0 * bv1) + av0 * av1) (((0 + av0 * av2) + bv0 * bv2) + av0 * av2) (((0 + av1 * av0) + bv1 * bv0) + av1 * av0) (((0 + av1 * av1) + bv1 * bv1) + av1 * av1) (((0 + av1 * av2) + bv1 * bv2) + av1 * av2) (((0 + av2 * av0) + bv2 * bv0) + av2 * av0) (((0 + av2 * av1) + bv2 * bv1) + av2 * av1) (((0 + av2 * av2) + bv2 * bv2) + av2 * av2) cv0 cv1 cv2))), .second] [(.double (FP.l2d ((((0 : Int64) + ((((av0 * cv0) + (av1 * cv1)) + (av2 * cv2)) * (((av0 * cv0) + (av1 * cv1)) + (av2 * cv2)))) + ((((bv0 * cv0) + (bv1 * cv1)) + (bv2 * cv2)) * (((bv0 * cv0) + (bv1 * cv1)) + (bv2 * cv2)))) + ((((av0 * cv0) + (av1 * cv1)) + (av2 * cv2)) * (((av0 * cv0) + (av1 * cv1)) + (av2 * cv2)))))), (.double (FP.l2d (own_along (((0 + av0 * av0) + bv0 * bv0) + av0 * av0) (((0 + av0 * av1) + bv0 * bv1) + av0 * av1) (((0 + av0 * av2) + bv0 * bv2) + av0 * av2) (((0 + av1 * av0) + bv1 * bv0) + av1 * av0) (((0 + av1 * av1) + bv1 * bv1) + av1 * av1) (((0 + av1 * av2) + bv1 * bv2) + av1 * av2) (((0 + av2 * av0) + bv2 * bv0) + av2 * av0) (((0 + av2 * av1) + bv2 * bv1) + av2 * av1) (((0 + av2 * av2) + bv2 * bv2) + av2 * av2) cv0 cv1 cv2)))])) _
      refine XS.dcmpS X692.here hx rfl (hb hby at_301) rfl (v := (0 : Int32)) (own_cmpEq eqr _) ?_
      refine XS.ifNo X692.here hx rfl (hb hby at_302) rfl (by decide) ?_
      refine XS.iconst X692.here hx rfl (hb hby at_305) ?_
      refine XS.goto X692.here hx rfl (pc0 := 306) (pc' := 310) rfl (hb hby at_306) (by decide) (by decide) ?_
      show Steps _ _ _ (T692.setTop (mkF m 310 #[.val (.int p1), .val (.int p2), .val (.int p3), .val (.int p4), .val (.int (3 : Int32)), .val (.int af0), .val (.int af1), .val (.int af2), .val (.int bf0), .val (.int bf1), .val (.int bf2), .val (.int cf0), .val (.int cf1), .val (.int cf2), .val (.ref b548), .val (.ref b555), .val (.ref b562), .val (.ref b573), .val (.long (((av0 * cv0) + (av1 * cv1)) + (av2 * cv2))), .second, .val (.long (((bv0 * cv0) + (bv1 * cv1)) + (bv2 * cv2))), .second, .val (.long ((((0 : Int64) + ((((av0 * cv0) + (av1 * cv1)) + (av2 * cv2)) * (((av0 * cv0) + (av1 * cv1)) + (av2 * cv2)))) + ((((bv0 * cv0) + (bv1 * cv1)) + (bv2 * cv2)) * (((bv0 * cv0) + (bv1 * cv1)) + (bv2 * cv2)))) + ((((av0 * cv0) + (av1 * cv1)) + (av2 * cv2)) * (((av0 * cv0) + (av1 * cv1)) + (av2 * cv2))))), .second, .val (.double (FP.l2d (own_along (((0 + av0 * av0) + bv0 * bv0) + av0 * av0) (((0 + av0 * av1) + bv0 * bv1) + av0 * av1) (((0 + av0 * av2) + bv0 * bv2) + av0 * av2) (((0 + av1 * av0) + bv1 * bv0) + av1 * av0) (((0 + av1 * av1) + bv1 * bv1) + av1 * av1) (((0 + av1 * av2) + bv1 * bv2) + av1 * av2) (((0 + av2 * av0) + bv2 * bv0) + av2 * av0) (((0 + av2 * av1) + bv2 * bv1) + av2 * av1) (((0 + av2 * av2) + bv2 * bv2) + av2 * av2) cv0 cv1 cv2))), .second] [(.int (1 : Int32))])) _
      exact retN X692 hx (t := .boolean) Bd.returns (by simp) (hb hby at_310) hr
    · show Q0 Z p1 p2 p3 p4 h0 n0 _ T692.heap _
      rw [eq692]
      exact ⟨rfl, N692⟩
set_option maxRecDepth 65536 in
set_option maxHeartbeats 40000000 in
theorem comes_1 {Post : Tables → Env → Array Value → State → Outcome → State → Prop} (hpost : ∀ tb e args s v u, (limb_1_1.after args s (.returned v) u = true ∧ limb_1_2.after args s (.returned v) u = true ∧ True) → FrameEnd s (.returned v) u (Jvm.fieldLocs frame_1_writes args s ++ Jvm.arrayLocs frame_1_arrays args s ++ Jvm.staticLocs frame_1_statics s) 32 192 → Post tb e args s (.returned v) u) :
    ArmFor flags0 classFile x code maxLocals ret World_1 tables_1 room_1 Calls_1 rest_1 Pre_1 Post := by
  intro l hfl _ _ p e ha hc hk s m args below hf hA hF happ hP
  obtain ⟨hcalls, hrest, hpre⟩ := hP
  obtain ⟨-, -, -, hnamed, -, -, -, hat⟩ := (Spec.applies_iff hf).mp happ
  obtain ⟨hg, hn⟩ := and_e (Cond.before_iff.mp (show (Jvm.Cond.and given_1 narrow_1).before args s = true from hpre))
  obtain ⟨h1, h2⟩ := and_e hg
  obtain ⟨i0, h3⟩ := and_e h2
  obtain ⟨i1, h4⟩ := and_e h3
  obtain ⟨i2, i3⟩ := and_e h4
  obtain ⟨w0, w1, w2, w3, rfl⟩ : ∃ w0 w1 w2 w3 : Value, args = #[w0, w1, w2, w3] := by
    have hs : args.size = 4 := by simpa [Cond.value, given_1] using h1
    obtain ⟨L⟩ := args
    match L, hs with
    | [w0, w1, w2, w3], _ => exact ⟨w0, w1, w2, w3, rfl⟩
  have hw := fun d (hd : d ∈ tables_1) => atoms_spec (ws := Jvm.Cond.code x code maxLocals ret :: tables_1) hat d (List.mem_cons_of_mem _ hd)
  obtain ⟨j0, e0⟩ := is_v i0
  obtain rfl : w0 = (.int j0) := Option.some.inj e0
  obtain ⟨j1, e1⟩ := is_v i1
  obtain rfl : w1 = (.int j1) := Option.some.inj e1
  obtain ⟨j2, e2⟩ := is_v i2
  obtain rfl : w2 = (.int j2) := Option.some.inj e2
  obtain ⟨j3, e3⟩ := is_v i3
  obtain rfl : w3 = (.int j3) := Option.some.inj e3
  obtain ⟨n, o, h1, h2, h3, _, L, rfl, ⟨rfl, N⟩, hq⟩ := rm0 l s _ hw tables_1 j0 j1 j2 j3 s.heap s.heap.size (Nat.le_refl _) p e ha hc hk s m _ below hf ((Spec.applies_iff_loose hf).mp happ).1 ⟨rfl, State.Warmed39.refl s, rfl⟩ trivial
  refine ⟨n, _, h1, h2, h3, hpost _ _ _ _ _ _ ⟨Cond.after_iff.mpr rfl, Cond.after_iff.mpr (eq_i res_at (Term.int_eval (1)) rfl), trivial⟩ ⟨hq.1, hq.2.1, (hq.2.2.sift fun y hy => Or.inr (N y hy)).mono (by decide) (by decide)⟩⟩
theorem main_1_1 : Claimed_1_1 := comes_1 fun _ _ _ _ _ _ h hF => ⟨h.1, hF⟩
theorem main_1_2 : Claimed_1_2 := comes_1 fun _ _ _ _ _ _ h hF => ⟨h.2.1, hF⟩
end Jvm.Pilot.@@N@@

namespace Jvm.Pilot.@@N@@
open Jvm Jvm.ClassFile Sem Op Lib Jvm.Free Jvm.Stand Jvm.Pilot.@@N@@.Jvm.D
/-! MADE BY PROGRAM (witnessworld.py; the classes of double arrays are added by hand) out of the Statement's table words and the real class files: 9 classes; the members and pool entries that the words name. The judged class is class 1, her method 1. -/
namespace start1
open Jvm.ClassFile
def u (s : String) : CpInfo := .utf8 (stringToUtf16 s)
/-- a pool by its gaps: so many unusable entries, then the entry; so many at the end -/
def gap : Nat → List CpInfo → List CpInfo
  | 0, r => r
  | n + 1, r => .unusable :: gap n r
def poolList (es : List (Nat × CpInfo)) (last : Nat) : List CpInfo := es.foldr (fun e r => gap e.1 (e.2 :: r)) (gap last [])
def pool (es : List (Nat × CpInfo)) (last : Nat) : Array CpInfo := ⟨poolList es last⟩
def fileOf (pool : Array CpInfo) (this : Nat) (attrs : Array Attribute := #[]) (ms : Array MethodInfo := #[]) (fl : Nat := 33) (sup : Nat := 0) (ifs : Array Nat := #[]) (fds : Array FieldInfo := #[]) : ClassFile where
  minorVersion := 0
  majorVersion := 65
  constantPool := pool
  accessFlags := fl
  thisClass := this
  superClass := sup
  interfaces := ifs
  fields := fds
  methods := ms
  attributes := attrs
def plain (name : String) (sup : Option ClassId) : Class where
  name := name
  kind := .ordinary
  loader := none
  accessFlags := 33
  super := sup
  interfaces := #[]
  cf := none
  fields := #[]
  methods := #[]
  instanceTypes := #[]
  staticTypes := #[]
  resolved := #[]
  callSites := []
  init := .initialized
  statics := none
  mirror := none

def pool0 : Array CpInfo := pool [(5, u "<init>"), (0, u "()V"), (1, .class_ 10), (1, u "java/lang/Object")] 113

def k0c0 : Code := { maxStack := 0, maxLocals := 1, code := object_method_1_code, exceptionTable := #[], attributes := #[] }
def k0m0 : Method := { name := "<init>", desc := "()V", sig := { parameters := [], returnType := none }, accessFlags := 1, code := some k0c0 }
/-- java/lang/Object -/
def k0 : Class := { plain "java/lang/Object" none with
  accessFlags := 33
  interfaces := #[]
  cf := some (fileOf pool0 8 #[] #[{ accessFlags := 1, nameIndex := 5, descriptorIndex := 6, attributes := #[] }] 33 0 #[] #[])
  fields := #[]
  methods := #[k0m0]
  instanceTypes := #[]
  staticTypes := #[]
  resolved := Array.replicate 124 none
  statics := none }

def pool1 : Array CpInfo := pool [(2, .class_ 4), (1, u "java/lang/Object"), (0, u "<init>"), (0, u "()V"), (0, .methodref 8 9), (0, .class_ 10), (0, .nameAndType 11 12), (0, u "com/example/lineament/lineament/math/OuterProductSumAlongPinLaw"), (0, u "f"), (0, u "(II)I"), (0, .class_ 14), (0, u "com/example/lineament/lineament/math/OuterProductSum"), (0, .methodref 13 16), (0, .nameAndType 5 17), (0, u "(I)V"), (0, .methodref 13 19), (0, .nameAndType 20 21), (0, u "add"), (0, u "([D)V"), (0, .methodref 13 23), (0, .nameAndType 24 25), (0, u "along"), (0, u "([D)D"), (2, u "law"), (0, u "(IIII)Z")] 5

def k1m0 : Method := { name := "<init>", desc := "()V", sig := { parameters := [], returnType := none }, accessFlags := 1, code := none }
def k1c1 : Code := { maxStack := 6, maxLocals := 26, code := code, exceptionTable := #[], attributes := #[] }
def k1m1 : Method := { name := "law", desc := "(IIII)Z", sig := { parameters := [.int, .int, .int, .int], returnType := some .boolean }, accessFlags := 9, code := some k1c1 }
def k1c2 : Code := { maxStack := 4, maxLocals := 2, code := method_3_code, exceptionTable := #[], attributes := #[] }
def k1m2 : Method := { name := "f", desc := "(II)I", sig := { parameters := [.int, .int], returnType := some .int }, accessFlags := 10, code := some k1c2 }
/-- com/example/lineament/lineament/math/OuterProductSumAlongPinLaw -/
def k1 : Class := { plain "com/example/lineament/lineament/math/OuterProductSumAlongPinLaw" (some 0) with
  accessFlags := 49
  interfaces := #[]
  cf := some (fileOf pool1 8 #[] #[{ accessFlags := 1, nameIndex := 5, descriptorIndex := 6, attributes := #[] }, { accessFlags := 9, nameIndex := 28, descriptorIndex := 29, attributes := #[] }, { accessFlags := 10, nameIndex := 11, descriptorIndex := 12, attributes := #[] }] 49 2 #[] #[])
  fields := #[]
  methods := #[k1m0, k1m1, k1m2]
  instanceTypes := #[]
  staticTypes := #[]
  resolved := Array.replicate 35 none
  statics := none }

def pool2 : Array CpInfo := pool [(1, .methodref 2 3), (0, .class_ 4), (0, .nameAndType 5 6), (0, u "java/lang/Object"), (0, u "<init>"), (0, u "()V"), (9, .fieldref 17 18), (0, .class_ 19), (0, .nameAndType 20 21), (0, u "com/example/lineament/lineament/math/OuterProductSum"), (0, u "d"), (0, u "I"), (0, .fieldref 17 23), (0, .nameAndType 24 25), (0, u "sum"), (0, u "[D"), (0, .fieldref 17 27), (0, .nameAndType 28 25), (0, u "basis"), (0, .fieldref 17 30), (0, .nameAndType 31 25), (0, u "inBasis"), (0, .methodref 17 33), (0, .nameAndType 34 35), (0, u "requireLength"), (0, u "([D)V"), (0, .methodref 17 37), (0, .nameAndType 38 39), (0, u "addOuter"), (0, u "([D[D)V"), (0, .fieldref 17 41), (0, .nameAndType 42 21), (0, u "count"), (0, .fieldref 17 44), (0, .nameAndType 45 46), (0, u "trace"), (0, u "D"), (7, u "along"), (0, u "([D)D"), (34, .class_ 91), (0, u "com/example/lineament/lineament/math/OuterProductSum$Leading"), (15, u "(I)V"), (3, u "add")] 28

def k2c0 : Code := { maxStack := 4, maxLocals := 3, code := prog_22_method_1_code, exceptionTable := #[], attributes := #[] }
def k2m0 : Method := { name := "<init>", desc := "(I)V", sig := { parameters := [.int], returnType := none }, accessFlags := 1, code := some k2c0 }
def k2c1 : Code := { maxStack := 8, maxLocals := 8, code := prog_22_method_2_code, exceptionTable := #[], attributes := #[] }
def k2m1 : Method := { name := "add", desc := "([D)V", sig := { parameters := [(.array .double)], returnType := none }, accessFlags := 1, code := some k2c1 }
def k2c2 : Code := { maxStack := 6, maxLocals := 8, code := prog_22_method_5_code, exceptionTable := #[], attributes := #[] }
def k2m2 : Method := { name := "along", desc := "([D)D", sig := { parameters := [(.array .double)], returnType := some .double }, accessFlags := 1, code := some k2c2 }
def k2c3 : Code := { maxStack := 3, maxLocals := 2, code := prog_22_method_11_code, exceptionTable := #[], attributes := #[] }
def k2m3 : Method := { name := "requireLength", desc := "([D)V", sig := { parameters := [(.array .double)], returnType := none }, accessFlags := 2, code := some k2c3 }
def k2c4 : Code := { maxStack := 8, maxLocals := 5, code := prog_22_method_12_code, exceptionTable := #[], attributes := #[] }
def k2m4 : Method := { name := "addOuter", desc := "([D[D)V", sig := { parameters := [(.array .double), (.array .double)], returnType := none }, accessFlags := 2, code := some k2c4 }
/-- com/example/lineament/lineament/math/OuterProductSum -/
def k2 : Class := { plain "com/example/lineament/lineament/math/OuterProductSum" (some 0) with
  accessFlags := 49
  interfaces := #[]
  cf := some (fileOf pool2 17 #[.nestMembers #[90]] #[{ accessFlags := 1, nameIndex := 5, descriptorIndex := 107, attributes := #[] }, { accessFlags := 1, nameIndex := 111, descriptorIndex := 35, attributes := #[] }, { accessFlags := 1, nameIndex := 54, descriptorIndex := 55, attributes := #[] }, { accessFlags := 2, nameIndex := 34, descriptorIndex := 35, attributes := #[] }, { accessFlags := 2, nameIndex := 38, descriptorIndex := 39, attributes := #[] }] 49 2 #[] #[{ accessFlags := 18, nameIndex := 20, descriptorIndex := 21, attributes := #[] }, { accessFlags := 2, nameIndex := 42, descriptorIndex := 21, attributes := #[] }, { accessFlags := 2, nameIndex := 45, descriptorIndex := 46, attributes := #[] }, { accessFlags := 18, nameIndex := 24, descriptorIndex := 25, attributes := #[] }, { accessFlags := 18, nameIndex := 28, descriptorIndex := 25, attributes := #[] }, { accessFlags := 18, nameIndex := 31, descriptorIndex := 25, attributes := #[] }])
  fields := #[{ name := "d", type := .int, accessFlags := 18, slot := 0, constantValue := 0 }, { name := "count", type := .int, accessFlags := 2, slot := 1, constantValue := 0 }, { name := "trace", type := .double, accessFlags := 2, slot := 2, constantValue := 0 }, { name := "sum", type := (.array .double), accessFlags := 18, slot := 3, constantValue := 0 }, { name := "basis", type := (.array .double), accessFlags := 18, slot := 4, constantValue := 0 }, { name := "inBasis", type := (.array .double), accessFlags := 18, slot := 5, constantValue := 0 }]
  methods := #[k2m0, k2m1, k2m2, k2m3, k2m4]
  instanceTypes := #[.int, .int, .double, (.array .double), (.array .double), (.array .double)]
  staticTypes := #[]
  resolved := Array.replicate 140 none
  statics := none }

def pool3 : Array CpInfo := pool [(1, u "java/lang/Cloneable"), (0, .class_ 1), (0, u "java/lang/Object"), (0, .class_ 3)] 3

/-- java/lang/Cloneable -/
def k3 : Class := { plain "java/lang/Cloneable" (some 0) with
  accessFlags := 1537
  interfaces := #[]
  cf := some (fileOf pool3 2 #[] #[] 1537 4 #[] #[])
  fields := #[]
  methods := #[]
  instanceTypes := #[]
  staticTypes := #[]
  resolved := Array.replicate 8 none
  statics := none }

def pool4 : Array CpInfo := pool [(1, u "java/io/Serializable"), (0, .class_ 1), (0, u "java/lang/Object"), (0, .class_ 3)] 3

/-- java/io/Serializable -/
def k4 : Class := { plain "java/io/Serializable" (some 0) with
  accessFlags := 1537
  interfaces := #[]
  cf := some (fileOf pool4 2 #[] #[] 1537 4 #[] #[])
  fields := #[]
  methods := #[]
  instanceTypes := #[]
  staticTypes := #[]
  resolved := Array.replicate 8 none
  statics := none }

/-- the primitive byte -/
def k5 : Class := { plain "byte" none with kind := .primitive 'B', accessFlags := 0x411 }
/-- [B -/
def k6 : Class := { plain "[B" (some 0) with kind := .array 5 .byte, interfaces := #[3, 4], accessFlags := 1041 }

/-- the primitive int -/
def k7 : Class := { plain "int" none with kind := .primitive 'I', accessFlags := 0x411 }
/-- [I -/
def k8 : Class := { plain "[I" (some 0) with kind := .array 7 .int, interfaces := #[3, 4], accessFlags := 1041 }

/-- the primitive double -/
def k9 : Class := { plain "double" none with kind := .primitive 'D', accessFlags := 0x411 }
/-- [D -/
def k10 : Class := { plain "[D" (some 0) with kind := .array 9 .double, interfaces := #[3, 4], accessFlags := 1041 }

def heap : Heap := #[]
def classes : Array Class := #[k0, k1, k2, k3, k4, k5, k6, k7, k8, k9, k10]
def interned : List (Array UInt16 × Addr) := []
def slotsUsed : Nat := 0
def theMethod : MethodId := ⟨1, 1⟩
def args0 : Array Value := #[.int 5, .int 6, .int 7, .int 3]
def aboutOver (below : List Frame) : State where
  vm := { classes := classes, interned := interned.toArray }
  heap := heap
  slotsUsed := slotsUsed
  threads := #[{ frames := .invoking theMethod args0 :: below }]
def below0 : List Frame := [.native { method := ⟨0, 0⟩, args := #[] }]
def about1 : State := aboutOver below0
def p0 : Program := .bare "" "" ""
def e0 : Env := launch0.env 0 0 0
theorem w_frames : about1.frames = Frame.invoking theMethod args0 :: below0 := rfl
set_option maxRecDepth 65536 in
theorem w_args : argsFit about1.vm theMethod args0 = true := by decide +kernel
set_option maxRecDepth 65536 in
theorem w_heap : heapFits about1 = true := by decide +kernel
set_option maxRecDepth 65536 in
theorem w_runnable : about1.curStatus? = some .runnable := by decide +kernel
set_option maxRecDepth 65536 in
theorem w_alone : about1.alone = true := by decide +kernel
set_option maxRecDepth 65536 in
theorem w_named : about1.methodNamed? x = some theMethod := by decide +kernel
set_option maxRecDepth 65536 in
theorem w_hears : about1.hears theMethod below0 = true := by decide +kernel
set_option maxRecDepth 65536 in
theorem w_ripe : about1.ripe theMethod args0 below0 = true := by decide +kernel
theorem w_running : about1.status = .running := rfl
set_option maxRecDepth 65536 in
theorem w_room : about1.hasRoom e0.platform room_1 = true :=
  launch0.hasRoom_least _ room_1 (by decide +kernel) (by decide +kernel) (by decide +kernel) (by decide +kernel) (by decide +kernel) (by decide +kernel)
theorem allAtoms_all (ts : List Jvm.Cond) (a : Array Jvm.Value) (st : Jvm.State) : (allAtoms ts).before a st = ts.all (fun c => c.before a st) := by
  induction ts with
  | nil => rfl
  | cons c t ih =>
    show (Jvm.Cond.and c (allAtoms t)).before a st = _
    rw [Jvm.Cond.before_and, ih, List.all_cons]
def words1 : List Jvm.Cond := Jvm.Cond.code x code maxLocals ret :: tables_1
/-- a 'code' word, met by the world's own term for the bytes: nothing is compared byte by byte -/
theorem code_word {y : MethodName} {bytes : ByteArray} {mx : Nat} {rt : Option FieldType} {a : Array Value} {s : State} {m : MethodId} {meth : Method} {c : Code} (h1 : s.methodNamed? y = some m) (h2 : s.vm.method? m = some meth) (h3 : meth.code = some c) (h4 : c.code = bytes)
    (h5 : (c.maxLocals == mx && c.exceptionTable.isEmpty && decide (c.maxStack ≤ mostOperands) && decide (meth.sig.returnType = rt) && !meth.locks && decide (parseMethodDescriptor y.desc = some meth.sig)) = true) : (Jvm.Cond.code y bytes mx rt).before a s = true := by
  simp only [Bool.and_eq_true, beq_iff_eq, Bool.not_eq_true', decide_eq_true_eq] at h5
  obtain ⟨⟨⟨⟨⟨g1, g2⟩, g3⟩, g4⟩, g5⟩, g6⟩ := h5
  simp [Cond.before, Cond.holds, Cond.value, h1, h2, h3, h4, g1, g2, g3, g4, g5, g6]
def isCode : Jvm.Cond → Bool
  | .code _ _ _ _ => true
  | _ => false
theorem all_split {L : List Jvm.Cond} {P : Jvm.Cond → Bool} (h1 : L.all (fun c => isCode c || P c) = true) (h2 : ∀ c ∈ L.filter isCode, P c = true) : L.all P = true := by
  refine List.all_eq_true.mpr fun c hc => ?_
  have h := List.all_eq_true.mp h1 c hc
  rcases Bool.eq_false_or_eq_true (isCode c) with hi | hi
  · exact h2 c (List.mem_filter.mpr ⟨hc, hi⟩)
  · simpa [hi] using h
set_option maxRecDepth 65536 in
theorem w_c0 : (Jvm.Cond.code x code maxLocals ret).before args0 about1 = true := code_word (m := ⟨1, 1⟩) (meth := k1m1) (c := k1c1) (by decide +kernel) rfl rfl rfl (by decide +kernel)
set_option maxRecDepth 65536 in
theorem w_c1 : (Jvm.Cond.code ({ cls := "com/example/lineament/lineament/math/OuterProductSumAlongPinLaw", name := "f", desc := "(II)I" } : Jvm.MethodName) method_3_code (2 : Nat) (Option.some Jvm.ClassFile.FieldType.int)).before args0 about1 = true := code_word (m := ⟨1, 2⟩) (meth := k1m2) (c := k1c2) (by decide +kernel) rfl rfl rfl (by decide +kernel)
set_option maxRecDepth 65536 in
theorem w_c2 : (Jvm.Cond.code ({ cls := "com/example/lineament/lineament/math/OuterProductSum", name := "<init>", desc := "(I)V" } : Jvm.MethodName) prog_22_method_1_code (3 : Nat) (Option.none : Option Jvm.ClassFile.FieldType)).before args0 about1 = true := code_word (m := ⟨2, 0⟩) (meth := k2m0) (c := k2c0) (by decide +kernel) rfl rfl rfl (by decide +kernel)
set_option maxRecDepth 65536 in
theorem w_c3 : (Jvm.Cond.code ({ cls := "java/lang/Object", name := "<init>", desc := "()V" } : Jvm.MethodName) object_method_1_code (1 : Nat) (Option.none : Option Jvm.ClassFile.FieldType)).before args0 about1 = true := code_word (m := ⟨0, 0⟩) (meth := k0m0) (c := k0c0) (by decide +kernel) rfl rfl rfl (by decide +kernel)
set_option maxRecDepth 65536 in
theorem w_c4 : (Jvm.Cond.code ({ cls := "com/example/lineament/lineament/math/OuterProductSum", name := "add", desc := "([D)V" } : Jvm.MethodName) prog_22_method_2_code (8 : Nat) (Option.none : Option Jvm.ClassFile.FieldType)).before args0 about1 = true := code_word (m := ⟨2, 1⟩) (meth := k2m1) (c := k2c1) (by decide +kernel) rfl rfl rfl (by decide +kernel)
set_option maxRecDepth 65536 in
theorem w_c5 : (Jvm.Cond.code ({ cls := "com/example/lineament/lineament/math/OuterProductSum", name := "requireLength", desc := "([D)V" } : Jvm.MethodName) prog_22_method_11_code (2 : Nat) (Option.none : Option Jvm.ClassFile.FieldType)).before args0 about1 = true := code_word (m := ⟨2, 3⟩) (meth := k2m3) (c := k2c3) (by decide +kernel) rfl rfl rfl (by decide +kernel)
set_option maxRecDepth 65536 in
theorem w_c6 : (Jvm.Cond.code ({ cls := "com/example/lineament/lineament/math/OuterProductSum", name := "addOuter", desc := "([D[D)V" } : Jvm.MethodName) prog_22_method_12_code (5 : Nat) (Option.none : Option Jvm.ClassFile.FieldType)).before args0 about1 = true := code_word (m := ⟨2, 4⟩) (meth := k2m4) (c := k2c4) (by decide +kernel) rfl rfl rfl (by decide +kernel)
set_option maxRecDepth 65536 in
theorem w_c7 : (Jvm.Cond.code ({ cls := "com/example/lineament/lineament/math/OuterProductSum", name := "along", desc := "([D)D" } : Jvm.MethodName) prog_22_method_5_code (8 : Nat) (Option.some Jvm.ClassFile.FieldType.double)).before args0 about1 = true := code_word (m := ⟨2, 2⟩) (meth := k2m2) (c := k2c2) (by decide +kernel) rfl rfl rfl (by decide +kernel)
def codes1 : List Jvm.Cond := [Jvm.Cond.code x code maxLocals ret, Jvm.Cond.code ({ cls := "com/example/lineament/lineament/math/OuterProductSumAlongPinLaw", name := "f", desc := "(II)I" } : Jvm.MethodName) method_3_code (2 : Nat) (Option.some Jvm.ClassFile.FieldType.int), Jvm.Cond.code ({ cls := "com/example/lineament/lineament/math/OuterProductSum", name := "<init>", desc := "(I)V" } : Jvm.MethodName) prog_22_method_1_code (3 : Nat) (Option.none : Option Jvm.ClassFile.FieldType), Jvm.Cond.code ({ cls := "java/lang/Object", name := "<init>", desc := "()V" } : Jvm.MethodName) object_method_1_code (1 : Nat) (Option.none : Option Jvm.ClassFile.FieldType), Jvm.Cond.code ({ cls := "com/example/lineament/lineament/math/OuterProductSum", name := "add", desc := "([D)V" } : Jvm.MethodName) prog_22_method_2_code (8 : Nat) (Option.none : Option Jvm.ClassFile.FieldType), Jvm.Cond.code ({ cls := "com/example/lineament/lineament/math/OuterProductSum", name := "requireLength", desc := "([D)V" } : Jvm.MethodName) prog_22_method_11_code (2 : Nat) (Option.none : Option Jvm.ClassFile.FieldType), Jvm.Cond.code ({ cls := "com/example/lineament/lineament/math/OuterProductSum", name := "addOuter", desc := "([D[D)V" } : Jvm.MethodName) prog_22_method_12_code (5 : Nat) (Option.none : Option Jvm.ClassFile.FieldType), Jvm.Cond.code ({ cls := "com/example/lineament/lineament/math/OuterProductSum", name := "along", desc := "([D)D" } : Jvm.MethodName) prog_22_method_5_code (8 : Nat) (Option.some Jvm.ClassFile.FieldType.double)]
set_option maxRecDepth 65536 in
theorem codes_eq : words1.filter isCode = codes1 := rfl
theorem w_codes : ∀ c ∈ words1.filter isCode, c.before args0 about1 = true := by
  rw [codes_eq]
  intro c hc
  simp only [codes1, List.mem_cons, List.not_mem_nil, or_false] at hc
  rcases hc with rfl | rfl | rfl | rfl | rfl | rfl | rfl | rfl
  · exact w_c0
  · exact w_c1
  · exact w_c2
  · exact w_c3
  · exact w_c4
  · exact w_c5
  · exact w_c6
  · exact w_c7
set_option maxRecDepth 65536 in
theorem w_t1 : (words1.take 24).all (fun c => isCode c || c.before args0 about1) = true := by decide +kernel
set_option maxRecDepth 65536 in
theorem w_t2 : (words1.drop 24).all (fun c => isCode c || c.before args0 about1) = true := by decide +kernel
theorem w_tables : (allAtoms (Jvm.Cond.code x code maxLocals ret :: tables_1)).before args0 about1 = true := by
  rw [allAtoms_all]
  show words1.all (fun c => c.before args0 about1) = true
  refine all_split ?_ w_codes
  rw [← List.take_append_drop 24 words1, List.all_append, w_t1, w_t2]
  rfl
set_option maxRecDepth 65536 in
theorem w_case : (Jvm.Cond.and given_1 narrow_1).before args0 about1 = true := by decide +kernel
theorem w_applies : (headSpec (Jvm.Cond.code x code maxLocals ret :: tables_1) room_1).applies x e0.platform about1 = true :=
  (Spec.applies_iff w_frames).mpr ⟨w_running, w_runnable, w_alone, w_named, w_hears, w_ripe, w_room, w_tables⟩
theorem atStart : AtStart classFile x code maxLocals ret World_1 tables_1 room_1 Calls_1 rest_1 Pre_1 launch0 p0 e0 about1 theMethod args0 below0 :=
  ⟨lists_1, trivial, launch0.admits_env _ _ _, launch0.least_env, fairChoices_fair.cas, fairChoices_fair.clock, w_frames, w_args, w_heap, w_applies, trivial, trivial, w_case⟩
end start1
theorem witness_1 : WitnessClaimed_1 := ⟨start1.p0, start1.e0, start1.about1, start1.theMethod, start1.args0, start1.below0, start1.atStart⟩
end Jvm.Pilot.@@N@@
